import PyProof.Rows.All
import Wide.All
import OpenK.AllK
import Wide.FinOn
import PySem.Challenge.RW_ij0088_01
open PySem PySem.W PyProof.Rows
set_option Elab.async false
set_option maxRecDepth 100000
set_option maxHeartbeats 8000000
set_option pp.deepTerms.threshold 8
set_option linter.unusedVariables false
set_option linter.deprecated false
local macro_rules | `(tactic| omega) => `(tactic| first | k_extra "omega" | omega (config := {}))
local macro_rules | `(tactic| walk_at $s:str) => `(tactic| k_extra $s)
section
theorem Mine.begin_Hd : True := by
  w_top off
  k_with_none
  k_with "omega" => (first | with_reducible assumption | with_reducible exact Nat.le_trans (by assumption) (Nat.le_of_ble_eq_true rfl) | with_reducible exact Nat.le_refl _ | with_reducible exact Nat.ne_of_gt (by assumption) | with_reducible exact Nat.ne_of_lt (by assumption) | with_reducible exact Ne.symm (by assumption) | with_reducible exact Int.ofNat_lt.mpr (by assumption) | with_reducible exact Nat.lt_of_le_of_lt (Nat.le_add_right _ _) (by assumption))
  trivial
namespace Mine
/-- a statement of the text's top, by its place -/
noncomputable def vs (i : Nat) : Stmt := match (PySem.Challenge.rw_ij0088_01.row.toRowW.prog.main.body)[i]? with
  | some s => s
  | none => .Pass ⟨0, 0, 0, 0⟩
/-- the body of the def that stands there -/
noncomputable def fb (i : Nat) : List Stmt := match vs i with
  | .FunctionDef _ _ b .. => b
  | _ => []
/-- the objects behind the text's top that the law can come to -/
noncomputable def hd.heap_39 : Params → Frag := fun P =>
  ((nat_lit 2), ⟨.none, none, (.dict (List.toArray [⟨(PySem.PyData.keyHash P (.ofString "\x69mport.loaded._sre")), (.str (.ofString "\x69mport.loaded._sre") 183), (.bool true)⟩, ⟨(PySem.PyData.keyHash P (.ofString "class._frozen_importlib.BuiltinImporter")), (.str (.ofString "class._frozen_importlib.BuiltinImporter") 185), (.ref 14)⟩, ⟨(PySem.PyData.keyHash P (.ofString "watched.\x69mport")), (.str (.ofString "watched.\x69mport") 206), (.ref 18)⟩, ⟨(PySem.PyData.keyHash P (.ofString "class._frozen_importlib.ModuleSpec")), (.str (.ofString "class._frozen_importlib.ModuleSpec") 216), (.ref 22)⟩, ⟨(PySem.PyData.keyHash P (.ofString "sys.modules.booked-epoch")), (.str (.ofString "sys.modules.booked-epoch") 245), (.int 3 0)⟩, ⟨(PySem.PyData.keyHash P (.ofString "\x69mport.later-laid._sre")), (.str (.ofString "\x69mport.later-laid._sre") 270), (.bool true)⟩, ⟨(PySem.PyData.keyHash P (.ofString "watched.library")), (.str (.ofString "watched.library") 272), (.ref 27)⟩, ⟨(PySem.PyData.keyHash P (.ofString "watched.library-objects")), (.str (.ofString "watched.library-objects") 0), (.str (.ofString "\x0c") 0)⟩, ⟨(PySem.PyData.keyHash P (.ofString "watched.library-deep._sre")), (.str (.ofString "watched.library-deep._sre") 273), (.str (.ofString "\x04\x00\x00\x0b\x04\x00\x00\x0b\x04\x00\x00\x03\x04\x00\x00\x0b\x08\x04dict\x02") 0)⟩]) 9), (List.toArray [])⟩) ::
  ((nat_lit 3), ⟨(.type "dict"), none, (.dict (List.toArray (⟨(PySem.PyData.keyHash P (.ofString "__name__")), (.str (.ofString "__name__") 165), (.str (.ofString "law_ij0088_01") 540)⟩ :: ⟨(PySem.PyData.keyHash P (.ofString "__doc__")), (.str (.ofString "__doc__") 166), .none⟩ :: ⟨(PySem.PyData.keyHash P (.ofString "__package__")), (.str (.ofString "__package__") 167), .none⟩ :: ⟨(PySem.PyData.keyHash P (.ofString "__loader__")), (.str (.ofString "__loader__") 168), (.builtin "__main__.__loader__#opaque")⟩ :: ⟨(PySem.PyData.keyHash P (.ofString "__spec__")), (.str (.ofString "__spec__") 169), .none⟩ :: ⟨(PySem.PyData.keyHash P (.ofString "__annotations__")), (.str (.ofString "__annotations__") 170), (.ref 6)⟩ :: ⟨(PySem.PyData.keyHash P (.ofString "__builtins__")), (.str (.ofString "__builtins__") 171), (.ref 4)⟩ :: ⟨(PySem.PyData.keyHash P (.ofString "__file__")), (.str (.ofString "__file__") 173), (.str (.ofString "/claim/cut.py") 172)⟩ :: ⟨(PySem.PyData.keyHash P (.ofString "__cached__")), (.str (.ofString "__cached__") 174), .none⟩ :: ⟨(PySem.PyData.keyHash P (.ofString "_sre")), (.str (.ofString "_sre") 275), (.ref 12)⟩ :: ⟨(PySem.PyData.keyHash P (.ofString "replace")), (.str (.ofString "replace") 291), (.ref 38)⟩ :: ⟨(PySem.PyData.keyHash P (.ofString "cram")), (.str (.ofString "cram") 301), (.ref 45)⟩ :: ⟨(PySem.PyData.keyHash P (.ofString "_twin_re_1")), (.str (.ofString "_twin_re_1") 341), (.ref 50)⟩ :: ⟨(PySem.PyData.keyHash P (.ofString "translate")), (.str (.ofString "translate") 350), (.ref 57)⟩ :: ⟨(PySem.PyData.keyHash P (.ofString "_special_chars_map")), (.str (.ofString "_special_chars_map") 498), (.ref 59)⟩ :: ⟨(PySem.PyData.keyHash P (.ofString "escape")), (.str (.ofString "escape") 505), (.ref 69)⟩ :: ⟨(PySem.PyData.keyHash P (.ofString "_translate")), (.str (.ofString "_translate") 526), (.ref 76)⟩ :: ⟨(PySem.PyData.keyHash P (.ofString "_join_translated_parts")), (.str (.ofString "_join_translated_parts") 539), (.ref 83)⟩ :: ⟨(PySem.PyData.keyHash P (.ofString "_law_plain")), (.str (.ofString "_law_plain") 548), (.ref 90)⟩ :: ⟨(PySem.PyData.keyHash P (.ofString "_law_parts")), (.str (.ofString "_law_parts") 560), (.ref 97)⟩ :: ⟨(PySem.PyData.keyHash P (.ofString "_law_takes")), (.str (.ofString "_law_takes") 566), (.ref 102)⟩ :: ⟨(PySem.PyData.keyHash P (.ofString "law")), (.str (.ofString "law") 572), (.ref 107)⟩ :: [])) 22), (List.toArray [])⟩) ::
  ((nat_lit 6), ⟨(.type "dict"), none, (.dict (List.toArray []) 0), (List.toArray [])⟩) ::
  ((nat_lit 11), ⟨(.type "dict"), none, (.dict (List.toArray (⟨(PySem.PyData.keyHash P (.ofString "__name__")), (.str (.ofString "__name__") 247), (.str (.ofString "_sre") 246)⟩ :: ⟨(PySem.PyData.keyHash P (.ofString "__doc__")), (.str (.ofString "__doc__") 248), .none⟩ :: ⟨(PySem.PyData.keyHash P (.ofString "__package__")), (.str (.ofString "__package__") 250), (.str (.ofString "") 249)⟩ :: ⟨(PySem.PyData.keyHash P (.ofString "__loader__")), (.str (.ofString "__loader__") 251), (.builtin "off-the-table:_sre.__loader__:shared#opaque")⟩ :: ⟨(PySem.PyData.keyHash P (.ofString "__spec__")), (.str (.ofString "__spec__") 252), (.builtin "off-the-table:_sre.__spec__:shared#opaque")⟩ :: ⟨(PySem.PyData.keyHash P (.ofString "compile")), (.str (.ofString "compile") 253), (.builtin "_sre.compile")⟩ :: ⟨(PySem.PyData.keyHash P (.ofString "template")), (.str (.ofString "template") 254), (.builtin "off-the-table:_sre.template:shared#opaque")⟩ :: ⟨(PySem.PyData.keyHash P (.ofString "getcodesize")), (.str (.ofString "getcodesize") 255), (.builtin "off-the-table:_sre.getcodesize:shared#opaque")⟩ :: ⟨(PySem.PyData.keyHash P (.ofString "ascii_iscased")), (.str (.ofString "ascii_iscased") 256), (.builtin "off-the-table:_sre.ascii_iscased:shared#opaque")⟩ :: ⟨(PySem.PyData.keyHash P (.ofString "unicode_iscased")), (.str (.ofString "unicode_iscased") 257), (.builtin "off-the-table:_sre.unicode_iscased:shared#opaque")⟩ :: ⟨(PySem.PyData.keyHash P (.ofString "ascii_tolower")), (.str (.ofString "ascii_tolower") 258), (.builtin "off-the-table:_sre.ascii_tolower:shared#opaque")⟩ :: ⟨(PySem.PyData.keyHash P (.ofString "unicode_tolower")), (.str (.ofString "unicode_tolower") 259), (.builtin "off-the-table:_sre.unicode_tolower:shared#opaque")⟩ :: ⟨(PySem.PyData.keyHash P (.ofString "MAGIC")), (.str (.ofString "MAGIC") 261), (.int 20230612 260)⟩ :: ⟨(PySem.PyData.keyHash P (.ofString "CODESIZE")), (.str (.ofString "CODESIZE") 263), (.int 4 262)⟩ :: ⟨(PySem.PyData.keyHash P (.ofString "MAXREPEAT")), (.str (.ofString "MAXREPEAT") 265), (.int 4294967295 264)⟩ :: ⟨(PySem.PyData.keyHash P (.ofString "MAXGROUPS")), (.str (.ofString "MAXGROUPS") 267), (.int 1073741823 266)⟩ :: ⟨(PySem.PyData.keyHash P (.ofString "copyright")), (.str (.ofString "copyright") 269), (.str (.ofString " SRE 2.2.2 Copyright (c) 1997-2002 by Secret Labs AB ") 268)⟩ :: [])) 17), (List.toArray [])⟩) ::
  ((nat_lit 12), ⟨(.type "module"), (some 11), .plain, (List.toArray [])⟩) ::
  ((nat_lit 32), ⟨(.type "tuple"), none, (.seq (List.toArray []) 0), (List.toArray [])⟩) ::
  ((nat_lit 34), ⟨(.type "tuple"), none, (.seq (List.toArray [(.str (.ofString "text") 287), (.str (.ofString "pairs") 288)]) 0), (List.toArray [])⟩) ::
  ((nat_lit 35), ⟨(.type "tuple"), none, (.seq (List.toArray []) 0), (List.toArray [])⟩) ::
  ((nat_lit 37), ⟨(.type "code"), none, (.fields (List.toArray ((.str (.ofString "replace") 284) :: (.str (.ofString "replace") 285) :: (.str (.ofString "/claim/cut.py") 286) :: (.int 3 0) :: (.int 1 0) :: (.int 0 0) :: (.int 0 0) :: (.int 7 0) :: (.ref 32) :: (.bool true) :: (.int 276 0) :: (.ref 33) :: .none :: (.ref 34) :: (.ref 35) :: (.ref 36) :: (.int 289 0) :: (.int 3 0) :: (.str (.ofString "/claim/cut.py") 290) :: []))), (List.toArray [])⟩) ::
  ((nat_lit 38), ⟨(.type "function"), none, (.func ⟨(.ofString "replace"), (.ofString "replace"), ⟨[], [⟨(.ofString "text"), none, ⟨3, 12, 3, 16⟩⟩], (some ⟨(.ofString "pairs"), none, ⟨3, 19, 3, 24⟩⟩), [], [], none, []⟩, (.stmts (fb 2)), ⟨.function, [((.ofString "text"), .local), ((.ofString "pairs"), .local)], false, false, []⟩, 3, [], .none, .none, .none, (.str (.ofString "cpy313.pydoc") 282), none, (.ref 37), .none, 0⟩), (List.toArray [])⟩) ::
  ((nat_lit 39), ⟨(.type "tuple"), none, (.seq (List.toArray []) 0), (List.toArray [])⟩) ::
  ((nat_lit 41), ⟨(.type "tuple"), none, (.seq (List.toArray [(.str (.ofString "text") 295), (.str (.ofString "maxlen") 296), (.str (.ofString "pre") 297), (.str (.ofString "post") 298)]) 0), (List.toArray [])⟩) ::
  ((nat_lit 42), ⟨(.type "tuple"), none, (.seq (List.toArray []) 0), (List.toArray [])⟩) ::
  ((nat_lit 44), ⟨(.type "code"), none, (.fields (List.toArray ((.str (.ofString "cram") 292) :: (.str (.ofString "cram") 293) :: (.str (.ofString "/claim/cut.py") 294) :: (.int 8 0) :: (.int 2 0) :: (.int 0 0) :: (.int 0 0) :: (.int 3 0) :: (.ref 39) :: (.bool true) :: (.int 276 0) :: (.ref 40) :: .none :: (.ref 41) :: (.ref 42) :: (.ref 43) :: (.int 299 0) :: (.int 8 0) :: (.str (.ofString "/claim/cut.py") 300) :: []))), (List.toArray [])⟩) ::
  ((nat_lit 45), ⟨(.type "function"), none, (.func ⟨(.ofString "cram"), (.ofString "cram"), ⟨[], [⟨(.ofString "text"), none, ⟨8, 9, 8, 13⟩⟩, ⟨(.ofString "maxlen"), none, ⟨8, 15, 8, 21⟩⟩], none, [], [], none, []⟩, (.stmts (fb 3)), ⟨.function, [((.ofString "text"), .local), ((.ofString "maxlen"), .local), ((.ofString "pre"), .local), ((.ofString "post"), .local), ((.ofString "len"), .globalImplicit), ((.ofString "max"), .globalImplicit)], false, false, []⟩, 3, [], .none, .none, .none, (.str (.ofString "cpy313.pydoc") 282), none, (.ref 44), .none, 0⟩), (List.toArray [])⟩) ::
  ((nat_lit 49), ⟨(.type "tuple"), none, (.seq (List.toArray ((.int 14 0) :: (.int 14 0) :: (.int 4 0) :: (.int 1 0) :: (.int 1 0) :: (.int 9 0) :: (.int 0 0) :: (.int 64 0) :: (.int 0 0) :: (.int 1342177280 0) :: (.int 0 0) :: (.int 0 0) :: (.int 0 0) :: (.int 0 0) :: (.int 0 0) :: (.int 17 0) :: (.int 0 0) :: (.int 13 0) :: (.int 11 0) :: (.int 9 0) :: (.int 0 0) :: (.int 64 0) :: (.int 0 0) :: (.int 1342177280 0) :: (.int 0 0) :: (.int 0 0) :: (.int 0 0) :: (.int 0 0) :: (.int 0 0) :: (.int 17 0) :: (.int 1 0) :: (.int 1 0) :: [])) 0), (List.toArray [])⟩) ::
  ((nat_lit 50), ⟨(.type "re.Pattern"), none, (.fields (List.toArray [(.str (.ofString "([&~|])") 305), (.int 32 340), (.int 1 0), .none, .none, (.ref 49), (.int 0 0)])), (List.toArray [])⟩) ::
  ((nat_lit 51), ⟨(.type "tuple"), none, (.seq (List.toArray []) 0), (List.toArray [])⟩) ::
  ((nat_lit 53), ⟨(.type "tuple"), none, (.seq (List.toArray [(.str (.ofString "pat") 345), (.str (.ofString "STAR") 346), (.str (.ofString "parts") 347)]) 0), (List.toArray [])⟩) ::
  ((nat_lit 54), ⟨(.type "tuple"), none, (.seq (List.toArray []) 0), (List.toArray [])⟩) ::
  ((nat_lit 56), ⟨(.type "code"), none, (.fields (List.toArray ((.str (.ofString "translate") 342) :: (.str (.ofString "translate") 343) :: (.str (.ofString "/claim/cut.py") 344) :: (.int 16 0) :: (.int 1 0) :: (.int 0 0) :: (.int 0 0) :: (.int 3 0) :: (.ref 51) :: (.bool true) :: (.int 276 0) :: (.ref 52) :: .none :: (.ref 53) :: (.ref 54) :: (.ref 55) :: (.int 348 0) :: (.int 16 0) :: (.str (.ofString "/claim/cut.py") 349) :: []))), (List.toArray [])⟩) ::
  ((nat_lit 57), ⟨(.type "function"), none, (.func ⟨(.ofString "translate"), (.ofString "translate"), ⟨[], [⟨(.ofString "pat"), none, ⟨16, 14, 16, 17⟩⟩], none, [], [], none, []⟩, (.stmts (fb 6)), ⟨.function, [((.ofString "pat"), .local), ((.ofString "STAR"), .local), ((.ofString "parts"), .local), ((.ofString "object"), .globalImplicit), ((.ofString "_translate"), .globalImplicit), ((.ofString "_join_translated_parts"), .globalImplicit)], false, false, []⟩, 3, [], .none, .none, .none, (.str (.ofString "cpy313.fnmatch") 302), none, (.ref 56), .none, 0⟩), (List.toArray [])⟩) ::
  ((nat_lit 59), ⟨(.type "dict"), none, (.dict (List.toArray (⟨40, (.int 40 354), (.str (.ofString "\\(") 358)⟩ :: ⟨41, (.int 41 360), (.str (.ofString "\\)") 364)⟩ :: ⟨91, (.int 91 366), (.str (.ofString "\\[") 370)⟩ :: ⟨93, (.int 93 372), (.str (.ofString "\\]") 376)⟩ :: ⟨123, (.int 123 378), (.str (.ofString "\\{") 382)⟩ :: ⟨125, (.int 125 384), (.str (.ofString "\\}") 388)⟩ :: ⟨63, (.int 63 390), (.str (.ofString "\\?") 394)⟩ :: ⟨42, (.int 42 396), (.str (.ofString "\\*") 400)⟩ :: ⟨43, (.int 43 402), (.str (.ofString "\\+") 406)⟩ :: ⟨45, (.int 45 408), (.str (.ofString "\\-") 412)⟩ :: ⟨124, (.int 124 414), (.str (.ofString "\\|") 418)⟩ :: ⟨94, (.int 94 420), (.str (.ofString "\\^") 424)⟩ :: ⟨36, (.int 36 426), (.str (.ofString "\\$") 430)⟩ :: ⟨92, (.int 92 432), (.str (.ofString "\\\\") 436)⟩ :: ⟨46, (.int 46 438), (.str (.ofString "\\.") 442)⟩ :: ⟨38, (.int 38 444), (.str (.ofString "\\&") 448)⟩ :: ⟨126, (.int 126 450), (.str (.ofString "\\~") 454)⟩ :: ⟨35, (.int 35 456), (.str (.ofString "\\#") 460)⟩ :: ⟨32, (.int 32 462), (.str (.ofString "\\ ") 466)⟩ :: ⟨9, (.int 9 468), (.str (.ofString "\\\t") 472)⟩ :: ⟨10, (.int 10 474), (.str (.ofString "\\\n") 478)⟩ :: ⟨13, (.int 13 480), (.str (.ofString "\\\x0d") 484)⟩ :: ⟨11, (.int 11 486), (.str (.ofString "\\\x0b") 490)⟩ :: ⟨12, (.int 12 492), (.str (.ofString "\\\x0c") 496)⟩ :: [])) 24), (List.toArray [])⟩) ::
  ((nat_lit 63), ⟨(.type "tuple"), none, (.seq (List.toArray []) 0), (List.toArray [])⟩) ::
  ((nat_lit 65), ⟨(.type "tuple"), none, (.seq (List.toArray [(.str (.ofString "pattern") 502)]) 0), (List.toArray [])⟩) ::
  ((nat_lit 66), ⟨(.type "tuple"), none, (.seq (List.toArray []) 0), (List.toArray [])⟩) ::
  ((nat_lit 68), ⟨(.type "code"), none, (.fields (List.toArray ((.str (.ofString "escape") 499) :: (.str (.ofString "escape") 500) :: (.str (.ofString "/claim/cut.py") 501) :: (.int 22 0) :: (.int 1 0) :: (.int 0 0) :: (.int 0 0) :: (.int 3 0) :: (.ref 63) :: (.bool true) :: (.int 276 0) :: (.ref 64) :: .none :: (.ref 65) :: (.ref 66) :: (.ref 67) :: (.int 503 0) :: (.int 22 0) :: (.str (.ofString "/claim/cut.py") 504) :: []))), (List.toArray [])⟩) ::
  ((nat_lit 69), ⟨(.type "function"), none, (.func ⟨(.ofString "escape"), (.ofString "escape"), ⟨[], [⟨(.ofString "pattern"), none, ⟨22, 11, 22, 18⟩⟩], none, [], [], none, []⟩, (.stmts (fb 9)), ⟨.function, [((.ofString "pattern"), .local), ((.ofString "isinstance"), .globalImplicit), ((.ofString "str"), .globalImplicit), ((.ofString "_special_chars_map"), .globalImplicit)], false, false, []⟩, 3, [], .none, .none, .none, (.str (.ofString "re") 351), none, (.ref 68), .none, 0⟩), (List.toArray [])⟩) ::
  ((nat_lit 70), ⟨(.type "tuple"), none, (.seq (List.toArray []) 0), (List.toArray [])⟩) ::
  ((nat_lit 72), ⟨(.type "tuple"), none, (.seq (List.toArray ((.str (.ofString "pat") 511) :: (.str (.ofString "STAR") 512) :: (.str (.ofString "QUESTION_MARK") 513) :: (.str (.ofString "res") 514) :: (.str (.ofString "add") 515) :: (.str (.ofString "i") 516) :: (.str (.ofString "n") 517) :: (.str (.ofString "c") 518) :: (.str (.ofString "j") 519) :: (.str (.ofString "stuff") 520) :: (.str (.ofString "chunks") 521) :: (.str (.ofString "k") 522) :: (.str (.ofString "chunk") 523) :: [])) 0), (List.toArray [])⟩) ::
  ((nat_lit 73), ⟨(.type "tuple"), none, (.seq (List.toArray []) 0), (List.toArray [])⟩) ::
  ((nat_lit 75), ⟨(.type "code"), none, (.fields (List.toArray ((.str (.ofString "_translate") 508) :: (.str (.ofString "_translate") 509) :: (.str (.ofString "/claim/cut.py") 510) :: (.int 29 0) :: (.int 3 0) :: (.int 0 0) :: (.int 0 0) :: (.int 3 0) :: (.ref 70) :: (.bool true) :: (.int 276 0) :: (.ref 71) :: .none :: (.ref 72) :: (.ref 73) :: (.ref 74) :: (.int 524 0) :: (.int 29 0) :: (.str (.ofString "/claim/cut.py") 525) :: []))), (List.toArray [])⟩) ::
  ((nat_lit 76), ⟨(.type "function"), none, (.func ⟨(.ofString "_translate"), (.ofString "_translate"), ⟨[], [⟨(.ofString "pat"), none, ⟨29, 15, 29, 18⟩⟩, ⟨(.ofString "STAR"), none, ⟨29, 20, 29, 24⟩⟩, ⟨(.ofString "QUESTION_MARK"), none, ⟨29, 26, 29, 39⟩⟩], none, [], [], none, []⟩, (.stmts (fb 11)), ⟨.function, (((.ofString "pat"), .local) :: ((.ofString "STAR"), .local) :: ((.ofString "QUESTION_MARK"), .local) :: ((.ofString "res"), .local) :: ((.ofString "add"), .local) :: ((.ofString "i"), .local) :: ((.ofString "n"), .local) :: ((.ofString "c"), .local) :: ((.ofString "j"), .local) :: ((.ofString "stuff"), .local) :: ((.ofString "chunks"), .local) :: ((.ofString "k"), .local) :: ((.ofString "chunk"), .local) :: ((.ofString "len"), .globalImplicit) :: ((.ofString "range"), .globalImplicit) :: ((.ofString "_twin_re_1"), .globalImplicit) :: ((.ofString "escape"), .globalImplicit) :: []), false, false, []⟩, 3, [], .none, .none, .none, (.str (.ofString "cpy313.fnmatch") 506), none, (.ref 75), .none, 0⟩), (List.toArray [])⟩) ::
  ((nat_lit 77), ⟨(.type "tuple"), none, (.seq (List.toArray []) 0), (List.toArray [])⟩) ::
  ((nat_lit 79), ⟨(.type "tuple"), none, (.seq (List.toArray [(.str (.ofString "inp") 530), (.str (.ofString "STAR") 531), (.str (.ofString "res") 532), (.str (.ofString "add") 533), (.str (.ofString "i") 534), (.str (.ofString "n") 535), (.str (.ofString "fixed") 536)]) 0), (List.toArray [])⟩) ::
  ((nat_lit 80), ⟨(.type "tuple"), none, (.seq (List.toArray []) 0), (List.toArray [])⟩) ::
  ((nat_lit 82), ⟨(.type "code"), none, (.fields (List.toArray ((.str (.ofString "_join_translated_parts") 527) :: (.str (.ofString "_join_translated_parts") 528) :: (.str (.ofString "/claim/cut.py") 529) :: (.int 91 0) :: (.int 2 0) :: (.int 0 0) :: (.int 0 0) :: (.int 3 0) :: (.ref 77) :: (.bool true) :: (.int 276 0) :: (.ref 78) :: .none :: (.ref 79) :: (.ref 80) :: (.ref 81) :: (.int 537 0) :: (.int 91 0) :: (.str (.ofString "/claim/cut.py") 538) :: []))), (List.toArray [])⟩) ::
  ((nat_lit 83), ⟨(.type "function"), none, (.func ⟨(.ofString "_join_translated_parts"), (.ofString "_join_translated_parts"), ⟨[], [⟨(.ofString "inp"), none, ⟨91, 27, 91, 30⟩⟩, ⟨(.ofString "STAR"), none, ⟨91, 32, 91, 36⟩⟩], none, [], [], none, []⟩, (.stmts (fb 12)), ⟨.function, [((.ofString "inp"), .local), ((.ofString "STAR"), .local), ((.ofString "res"), .local), ((.ofString "add"), .local), ((.ofString "i"), .local), ((.ofString "n"), .local), ((.ofString "fixed"), .local), ((.ofString "len"), .globalImplicit)], false, false, []⟩, 3, [], .none, .none, .none, (.str (.ofString "cpy313.fnmatch") 506), none, (.ref 82), .none, 0⟩), (List.toArray [])⟩) ::
  ((nat_lit 84), ⟨(.type "tuple"), none, (.seq (List.toArray []) 0), (List.toArray [])⟩) ::
  ((nat_lit 86), ⟨(.type "tuple"), none, (.seq (List.toArray [(.str (.ofString "text") 545)]) 0), (List.toArray [])⟩) ::
  ((nat_lit 87), ⟨(.type "tuple"), none, (.seq (List.toArray []) 0), (List.toArray [])⟩) ::
  ((nat_lit 89), ⟨(.type "code"), none, (.fields (List.toArray ((.str (.ofString "_law_plain") 542) :: (.str (.ofString "_law_plain") 543) :: (.str (.ofString "/claim/cut.py") 544) :: (.int 119 0) :: (.int 1 0) :: (.int 0 0) :: (.int 0 0) :: (.int 3 0) :: (.ref 84) :: (.bool true) :: (.int 276 0) :: (.ref 85) :: .none :: (.ref 86) :: (.ref 87) :: (.ref 88) :: (.int 546 0) :: (.int 119 0) :: (.str (.ofString "/claim/cut.py") 547) :: []))), (List.toArray [])⟩) ::
  ((nat_lit 90), ⟨(.type "function"), none, (.func ⟨(.ofString "_law_plain"), (.ofString "_law_plain"), ⟨[], [⟨(.ofString "text"), none, ⟨119, 15, 119, 19⟩⟩], none, [], [], none, []⟩, (.stmts (fb 14)), ⟨.function, [((.ofString "text"), .local), ((.ofString "replace"), .globalImplicit)], false, false, []⟩, 3, [], .none, .none, .none, (.str (.ofString "law_ij0088_01") 540), none, (.ref 89), .none, 0⟩), (List.toArray [])⟩) ::
  ((nat_lit 91), ⟨(.type "tuple"), none, (.seq (List.toArray []) 0), (List.toArray [])⟩) ::
  ((nat_lit 93), ⟨(.type "tuple"), none, (.seq (List.toArray [(.str (.ofString "pattern") 552), (.str (.ofString "text") 553), (.str (.ofString "parts") 554), (.str (.ofString "k") 555), (.str (.ofString "barred") 556), (.str (.ofString "signs") 557)]) 0), (List.toArray [])⟩) ::
  ((nat_lit 94), ⟨(.type "tuple"), none, (.seq (List.toArray []) 0), (List.toArray [])⟩) ::
  ((nat_lit 96), ⟨(.type "code"), none, (.fields (List.toArray ((.str (.ofString "_law_parts") 549) :: (.str (.ofString "_law_parts") 550) :: (.str (.ofString "/claim/cut.py") 551) :: (.int 121 0) :: (.int 1 0) :: (.int 0 0) :: (.int 0 0) :: (.int 3 0) :: (.ref 91) :: (.bool true) :: (.int 276 0) :: (.ref 92) :: .none :: (.ref 93) :: (.ref 94) :: (.ref 95) :: (.int 558 0) :: (.int 121 0) :: (.str (.ofString "/claim/cut.py") 559) :: []))), (List.toArray [])⟩) ::
  ((nat_lit 97), ⟨(.type "function"), none, (.func ⟨(.ofString "_law_parts"), (.ofString "_law_parts"), ⟨[], [⟨(.ofString "pattern"), none, ⟨121, 15, 121, 22⟩⟩], none, [], [], none, []⟩, (.stmts (fb 15)), ⟨.function, [((.ofString "pattern"), .local), ((.ofString "text"), .local), ((.ofString "parts"), .local), ((.ofString "k"), .local), ((.ofString "barred"), .local), ((.ofString "signs"), .local), ((.ofString "translate"), .globalImplicit), ((.ofString "len"), .globalImplicit)], false, false, []⟩, 3, [], .none, .none, .none, (.str (.ofString "law_ij0088_01") 540), none, (.ref 96), .none, 0⟩), (List.toArray [])⟩) ::
  ((nat_lit 98), ⟨(.type "tuple"), none, (.seq (List.toArray []) 0), (List.toArray [])⟩) ::
  ((nat_lit 101), ⟨(.type "code"), none, (.fields (List.toArray ((.str (.ofString "_law_takes") 561) :: (.str (.ofString "_law_takes") 562) :: (.str (.ofString "/claim/cut.py") 563) :: (.int 147 0) :: (.int 2 0) :: (.int 0 0) :: (.int 0 0) :: (.int 3 0) :: (.ref 98) :: (.bool true) :: (.int 276 0) :: (.ref 99) :: .none :: .none :: .none :: (.ref 100) :: (.int 564 0) :: (.int 147 0) :: (.str (.ofString "/claim/cut.py") 565) :: []))), (List.toArray [])⟩) ::
  ((nat_lit 102), ⟨(.type "function"), none, (.func ⟨(.ofString "_law_takes"), (.ofString "_law_takes"), ⟨[], [⟨(.ofString "parts"), none, ⟨147, 15, 147, 20⟩⟩, ⟨(.ofString "name"), none, ⟨147, 22, 147, 26⟩⟩], none, [], [], none, []⟩, (.stmts (fb 16)), ⟨.function, [((.ofString "parts"), .local), ((.ofString "name"), .local), ((.ofString "row"), .cell), ((.ofString "held"), .cell), ((.ofString "at"), .local), ((.ofString "len"), .globalImplicit), ((.ofString "range"), .globalImplicit)], false, false, [((.ofString "fast"), (.str (.ofString "parts"))), ((.ofString "fast"), (.str (.ofString "name"))), ((.ofString "fast"), (.str (.ofString "row"))), ((.ofString "fast"), (.str (.ofString "held"))), ((.ofString "fast"), (.str (.ofString "at"))), ((.ofString "fast"), (.str (.ofString "k")))]⟩, 3, [], .none, .none, .none, (.str (.ofString "law_ij0088_01") 540), none, (.ref 101), .none, 0⟩), (List.toArray [])⟩) ::
  ((nat_lit 103), ⟨(.type "tuple"), none, (.seq (List.toArray []) 0), (List.toArray [])⟩) ::
  ((nat_lit 106), ⟨(.type "code"), none, (.fields (List.toArray ((.str (.ofString "law") 567) :: (.str (.ofString "law") 568) :: (.str (.ofString "/claim/cut.py") 569) :: (.int 156 0) :: (.int 1 0) :: (.int 0 0) :: (.int 0 0) :: (.int 3 0) :: (.ref 103) :: (.bool true) :: (.int 276 0) :: (.ref 104) :: .none :: .none :: .none :: (.ref 105) :: (.int 570 0) :: (.int 156 0) :: (.str (.ofString "/claim/cut.py") 571) :: []))), (List.toArray [])⟩) ::
  ((nat_lit 107), ⟨(.type "function"), none, (.func ⟨(.ofString "law"), (.ofString "law"), ⟨[], [⟨(.ofString "script"), none, ⟨156, 8, 156, 14⟩⟩], none, [], [], none, []⟩, (.stmts (fb 17)), ⟨.function, (((.ofString "script"), .local) :: ((.ofString "numbers"), .local) :: ((.ofString "texts"), .cell) :: ((.ofString "number"), .local) :: ((.ofString "point"), .local) :: ((.ofString "sign"), .cell) :: ((.ofString "which"), .cell) :: ((.ofString "total"), .local) :: ((.ofString "first"), .local) :: ((.ofString "many"), .local) :: ((.ofString "dress"), .local) :: ((.ofString "kinds"), .local) :: ((.ofString "view"), .cell) :: ((.ofString "items"), .cell) :: ((.ofString "text"), .cell) :: ((.ofString "width"), .local) :: ((.ofString "ahead"), .local) :: ((.ofString "told"), .local) :: ((.ofString "parts"), .cell) :: ((.ofString "other"), .local) :: ((.ofString "longer"), .local) :: ((.ofString "seen"), .local) :: ((.ofString "chr"), .globalImplicit) :: ((.ofString "range"), .globalImplicit) :: ((.ofString "sum"), .globalImplicit) :: ((.ofString "len"), .globalImplicit) :: ((.ofString "_law_plain"), .globalImplicit) :: ((.ofString "_law_parts"), .globalImplicit) :: ((.ofString "max"), .globalImplicit) :: ((.ofString "cram"), .globalImplicit) :: ((.ofString "_law_takes"), .globalImplicit) :: []), false, false, (((.ofString "fast"), (.str (.ofString "script"))) :: ((.ofString "fast"), (.str (.ofString "x"))) :: ((.ofString "fast"), (.str (.ofString "numbers"))) :: ((.ofString "fast"), (.str (.ofString "texts"))) :: ((.ofString "fast"), (.str (.ofString "number"))) :: ((.ofString "fast"), (.str (.ofString "point"))) :: ((.ofString "fast"), (.str (.ofString "sign"))) :: ((.ofString "fast"), (.str (.ofString "which"))) :: ((.ofString "fast"), (.str (.ofString "k"))) :: ((.ofString "fast"), (.str (.ofString "total"))) :: ((.ofString "fast"), (.str (.ofString "first"))) :: ((.ofString "fast"), (.str (.ofString "many"))) :: ((.ofString "fast"), (.str (.ofString "dress"))) :: ((.ofString "fast"), (.str (.ofString "kinds"))) :: ((.ofString "fast"), (.str (.ofString "one"))) :: ((.ofString "fast"), (.str (.ofString "view"))) :: ((.ofString "fast"), (.str (.ofString "items"))) :: ((.ofString "fast"), (.str (.ofString "text"))) :: ((.ofString "fast"), (.str (.ofString "width"))) :: ((.ofString "fast"), (.str (.ofString "ahead"))) :: ((.ofString "fast"), (.str (.ofString "told"))) :: ((.ofString "fast"), (.str (.ofString "parts"))) :: ((.ofString "fast"), (.str (.ofString "other"))) :: ((.ofString "fast"), (.str (.ofString "longer"))) :: ((.ofString "fast"), (.str (.ofString "seen"))) :: [])⟩, 3, [], .none, .none, .none, (.str (.ofString "law_ij0088_01") 540), none, (.ref 106), .none, 0⟩), (List.toArray [])⟩) :: []
/-- the text's top without the statements that bind what is read from the heap alone -/
noncomputable def hd.view_39 : Program := { PySem.Challenge.rw_ij0088_01.row.toRowW.prog with main := { PySem.Challenge.rw_ij0088_01.row.toRowW.prog.main with body := [vs 0, vs 2, vs 3, vs 5, vs 6, vs 8, vs 9, vs 11, vs 12, vs 14, vs 15, vs 16, vs 17] } }
noncomputable abbrev hdHook : Hook := (kmHook hd.heap_39 ((nat_lit 2) :: (nat_lit 3) :: (nat_lit 6) :: (nat_lit 11) :: (nat_lit 12) :: (nat_lit 32) :: (nat_lit 34) :: (nat_lit 35) :: (nat_lit 37) :: (nat_lit 38) :: (nat_lit 39) :: (nat_lit 41) :: (nat_lit 42) :: (nat_lit 44) :: (nat_lit 45) :: (nat_lit 49) :: (nat_lit 50) :: (nat_lit 51) :: (nat_lit 53) :: (nat_lit 54) :: (nat_lit 56) :: (nat_lit 57) :: (nat_lit 59) :: (nat_lit 63) :: (nat_lit 65) :: (nat_lit 66) :: (nat_lit 68) :: (nat_lit 69) :: (nat_lit 70) :: (nat_lit 72) :: (nat_lit 73) :: (nat_lit 75) :: (nat_lit 76) :: (nat_lit 77) :: (nat_lit 79) :: (nat_lit 80) :: (nat_lit 82) :: (nat_lit 83) :: (nat_lit 84) :: (nat_lit 86) :: (nat_lit 87) :: (nat_lit 89) :: (nat_lit 90) :: (nat_lit 91) :: (nat_lit 93) :: (nat_lit 94) :: (nat_lit 96) :: (nat_lit 97) :: (nat_lit 98) :: (nat_lit 101) :: (nat_lit 102) :: (nat_lit 103) :: (nat_lit 106) :: (nat_lit 107) :: []) (fun _ => by kernel_rfl) [71])
noncomputable abbrev hdLoose : List Str := [Str.ofString "_twin_re_1", Str.ofString "_special_chars_map"]
noncomputable abbrev HdLeft (w : World) : Prop := (openEnds treeTable PySem.Challenge.rw_ij0088_01.row.prog w 3508).map (fun s => (openSeen hd.view_39 hdLoose (importedModules PySem.Challenge.rw_ij0088_01.row.prog.main.body) (fun s => xlAt hd.view_39 [] s && recOk (RowW.records PySem.Challenge.rw_ij0088_01.row.toRowW) s) true s, Hook.obs hdHook s)) = some (openGood hd.view_39 hdLoose, Hook.val hdHook w)
theorem hd_ff : ∀ w : World, HdLeft ((w.withFollow "special-get-raises" false).withFollow "comprehension-iter-twice" false) := fun w => by kernel_rfl
theorem hd_tf : ∀ w : World, HdLeft ((w.withFollow "special-get-raises" true).withFollow "comprehension-iter-twice" false) := fun w => by kernel_rfl
theorem hd_ft : ∀ w : World, HdLeft ((w.withFollow "special-get-raises" false).withFollow "comprehension-iter-twice" true) := fun w => by kernel_rfl
theorem hd_tt : ∀ w : World, HdLeft ((w.withFollow "special-get-raises" true).withFollow "comprehension-iter-twice" true) := fun w => by kernel_rfl
theorem hd_left : ∀ w : World, HdLeft w := byRow2 "comprehension-iter-twice" (byRow2 "special-get-raises" (P := fun w => HdLeft (w.withFollow "comprehension-iter-twice" false)) hd_ff hd_tf) (byRow2 "special-get-raises" (P := fun w => HdLeft (w.withFollow "comprehension-iter-twice" true)) hd_ft hd_tt)
end Mine
end
section
theorem Mine.begin_Df : True := by
  w_top off
  k_with_none
  k_with "omega" => (first | with_reducible assumption | with_reducible exact Nat.le_trans (by assumption) (Nat.le_of_ble_eq_true rfl) | with_reducible exact Nat.le_refl _ | with_reducible exact Nat.ne_of_gt (by assumption) | with_reducible exact Nat.ne_of_lt (by assumption) | with_reducible exact Ne.symm (by assumption) | with_reducible exact Int.ofNat_lt.mpr (by assumption) | with_reducible exact Nat.lt_of_le_of_lt (Nat.le_add_right _ _) (by assumption))
  trivial
namespace Mine

noncomputable abbrev S (l : List Nat) : Str := ⟨l.toArray⟩
theorem S_len (l : List Nat) : (S l).length = l.length := by simp [S, Str.length]
theorem S_app (a b : List Nat) : S a ++ S b = S (a ++ b) := Str.ext' (by rw [Str.cps_append]; simp [S])
theorem S_cps (x : Str) : S x.cps.toList = x := by cases x; rfl

noncomputable def rep1 (c : Nat) (z : List Nat) (l : List Nat) : List Nat := l.flatMap fun d => if d = c then z else [d]

theorem rep1_free (c : Nat) (z : List Nat) : ∀ l : List Nat, c ∉ l → rep1 c z l = l
  | [], _ => rfl
  | d :: r, h => by
    have hd : d ≠ c := fun e => h (e ▸ .head _)
    have hr : c ∉ r := fun e => h (.tail _ e)
    show (if d = c then z else [d]) ++ rep1 c z r = d :: r
    rw [if_neg hd, rep1_free c z r hr]; rfl
theorem rep1_app (c : Nat) (z a b : List Nat) : rep1 c z (a ++ b) = rep1 c z a ++ rep1 c z b := by simp [rep1]
theorem rep1_len (c : Nat) (z : List Nat) (k : Nat) (hz : z.length ≤ k) (hk : 1 ≤ k) : ∀ l : List Nat, (rep1 c z l).length ≤ k * l.length
  | [] => Nat.zero_le _
  | d :: r => by
    have ih := rep1_len c z k hz hk r
    show ((if d = c then z else [d]) ++ rep1 c z r).length ≤ k * (r.length + 1)
    rw [List.length_append, Nat.mul_add]
    split <;> simp <;> omega

theorem join_rep (c : Nat) (z : List Nat) : ∀ ps : List Str, (∀ p ∈ ps, c ∉ p.cps.toList) → (Str.join (S z) ps).cps.toList = rep1 c z (Str.join (S [c]) ps).cps.toList
  | [], _ => rfl
  | [x], h => (rep1_free c z _ (h x (.head _))).symm
  | x :: y :: r, h => by
    have ih := join_rep c z (y :: r) fun p hp => h p (.tail _ hp)
    show (x ++ S z ++ Str.join (S z) (y :: r)).cps.toList = rep1 c z (x ++ S [c] ++ Str.join (S [c]) (y :: r)).cps.toList
    simp only [Str.cps_append, Array.toList_append, rep1_app]
    rw [ih, rep1_free c z _ (h x (.head _))]
    congr 2
    simp [rep1]

theorem join_split_one (c : Nat) (z l : List Nat) : Txt.join (S z) (Txt.split (S l) (S [c])) = S (rep1 c z l) := by
  have h := join_rep c z (Txt.split (S l) (S [c])) (StrLaws.split_free (S l) c)
  have j := StrLaws.join_split (S l) (S [c])
  show Builtin.Str.glued _ _ = _
  rw [StrLaws.glued_eq_join]
  rw [j] at h
  rw [← S_cps (Str.join (S z) (Txt.split (S l) (S [c]))), h]
theorem replace_rep (c : Nat) (z l : List Nat) : Txt.replace (S l) (S [c]) (S z) = S (rep1 c z l) := by
  rw [StrLaws.replace_one, ← join_split_one c z l]
  show _ = Builtin.Str.glued _ _
  rw [StrLaws.glued_eq_join]

noncomputable def plainL (l : List Nat) : List Nat := rep1 63 [91, 63, 93] (rep1 42 [91, 42, 93] (rep1 91 [91, 91, 93] l))
theorem rep1_count (c : Nat) : ∀ l : List Nat, ∀ ps : List Str, (∀ p ∈ ps, c ∉ p.cps.toList) → (Str.join (S [c]) ps).cps.toList = l → ((ps.map (·.length)).sum + ps.length ≤ l.length + 1)
  | l, [], _, _ => by simp
  | l, [x], _, h => by
    have : x.cps.toList = l := h
    subst this
    simp [Str.length]
  | l, x :: y :: r, hp, h => by
    have ih := rep1_count c _ (y :: r) (fun p q => hp p (.tail _ q)) rfl
    have : (x ++ S [c] ++ Str.join (S [c]) (y :: r)).cps.toList = l := h
    subst this
    simp only [Str.cps_append, Array.toList_append, List.length_append]
    simp only [List.map_cons, List.sum_cons, List.length_cons, Str.length] at ih ⊢
    simp at ih ⊢
    omega
theorem split_weight (c : Nat) (l : List Nat) : ((Txt.split (S l) (S [c])).map (·.length)).sum + (Txt.split (S l) (S [c])).length ≤ l.length + 1 := by
  have := rep1_count c l (Txt.split (S l) (S [c])) (StrLaws.split_free (S l) c) (by rw [StrLaws.join_split])
  exact this

/-- the join of what a split gave -/
theorem join_of_split {prog : Program} {w : World} {A : Around} {E : Value → Shared → Prop} {s : Shared} {t : Tok} {Q : Value → Shared → Prop} {D : Addr} {items : List (Str × Tok)} {c : Nat} {z l : List Nat}
    (hl : s.heap.IsList D (strValues items).toArray) (he : items.map (·.1) = Txt.split (S l) (S [c])) (hi : StrsAre (strValues items) (items.map (·.1))) (hz : z.length ≤ 16) (hw : l.length ≤ 1000000)
    (h : ∀ t' k, Q (.str (S (rep1 c z l)) t') { s with toks := k }) : wpAny (model prog w) A (call (.builtin "str.join") [.str (S z) t, .ref D]) Q E s := by
  refine join_listW hl (ys := items.map (·.1)) (by simpa using hi) (by rw [S_len]; exact hz) ?_ ?_
  · rw [he]
    have := split_weight c l
    omega
  · intro t' k
    rw [he, join_split_one]
    exact h t' k
end Mine
namespace Mine
theorem join_of_split' {prog : Program} {w : World} {A : Around} {E : Value → Shared → Prop} {s : Shared} {t : Tok} {Q : Value → Shared → Prop} {D : Addr} {items : List (Str × Tok)} {c : Nat} {z l : List Nat} {y x : Str}
    (hl : s.heap.IsList D (strValues items).toArray) (he : items.map (·.1) = Txt.split (S l) y) (hy : y = S [c]) (hx : x = S z) (hz : z.length ≤ 16) (hw : l.length ≤ 60000) (hi : StrsAre (strValues items) (items.map (·.1)))
    (h : ∀ t' k, (S (rep1 c z l)).length ≤ 1000000 → Q (.str (S (rep1 c z l)) t') { s with toks := k }) : wpAny (model prog w) A (call (.builtin "str.join") [.str x t, .ref D]) Q E s := by
  subst hy hx
  refine join_of_split hl he hi hz (by omega) fun t' k => h t' k ?_
  have := rep1_len c z 16 hz (by decide) l
  rw [S_len]
  omega
theorem str_brk : Str.ofString "[" = S [91] := by decide +kernel
theorem str_star : Str.ofString "*" = S [42] := by decide +kernel
theorem str_qm : Str.ofString "?" = S [63] := by decide +kernel
theorem str_brk3 : Str.ofString "[[]" = S [91, 91, 93] := by decide +kernel
theorem str_star3 : Str.ofString "[*]" = S [91, 42, 93] := by decide +kernel
theorem str_qm3 : Str.ofString "[?]" = S [91, 63, 93] := by decide +kernel
end Mine
namespace Mine
theorem tup_from {prog : Program} {w : World} {A : Around} {E : Value → Shared → Prop} {s : Shared} {h₀ : Heap} {L : Addr} {m : Str → Option Value} {news : List (Addr × Obj)} {value slice : PySem.Expr} {t : Addr} {items : Array Value} {a : Nat} {u : Tok} {Q : Value → Shared → Prop}
    (F : Fr h₀ L s.heap m) (N : News h₀ L s.heap news) (ht : IsTup s.heap t items) (h1 : 1 ≤ a) (ha : a ≤ items.size) {zs : List Value} (ez : items.toList.drop a = zs)
    (h : ∀ D h', Fr h₀ L h' m → News h₀ L h' ((D, { cls := .type "tuple", data := .seq zs.toArray }) :: news) → (∀ p ∈ news, p.1 < D) → Q (.ref D) { s with heap := h' })
    (hs : subscripted slice false (.ref t) (.ref s.heap.objs.size) = operate [.ref s.heap.objs.size, .ref t] (getItem (.ref t) (.ref s.heap.objs.size)))
    (hg : ∀ r, letTemporaryGo value (.ref t) r = pure ()) (hsz : items.size ≤ sizeLine) :
    wpAny (model prog w) A (subscriptTail value slice (.ref t) (.ref s.heap.objs.size)) Q E { s with heap := s.heap.push { cls := .type "slice", data := .fields #[.int a u, .none, .none] } } := by
  have ht' : IsTup (s.heap.push { cls := .type "slice", data := .fields #[.int a u, .none, .none] }) t items := ht.keeps fun _ _ e => Heap.get?_push_of_some _ e
  refine subscriptTail_ops (IsTup.typeIs (s := { s with heap := s.heap.push { cls := .type "slice", data := .fields #[.int a u, .none, .none] } }) ht') slot_tuple_getitem.lookup
    (getItem_tuple_from ht' (Heap.IsSliceOf.new ..) h1 ha ?_ hsz) hs hg
  have N1 := News.push (F.push { cls := .type "slice", data := .fields #[.int a u, .none, .none] }) (N.grown fun _ _ e => Heap.get?_push_of_some _ e) { cls := .type "tuple", data := .seq (items.toList.drop a).toArray }
  rw [ez] at N1 ⊢
  refine h _ _ ((F.push _).push _) N1 ?_
  intro p hp
  show p.1 < (s.heap.push _).objs.size
  rw [Heap.size_push]
  exact Nat.lt_succ_of_lt (Heap.lt_size (N p hp).1)
end Mine
namespace Mine
theorem plain_w1 {l : List Nat} (h : l.length ≤ 1000) : (rep1 91 [91, 91, 93] l).length ≤ 60000 := by
  have := rep1_len 91 [91, 91, 93] 3 (by decide) (by decide) l
  omega
theorem plain_w2 {l : List Nat} (h : l.length ≤ 1000) : (rep1 42 [91, 42, 93] (rep1 91 [91, 91, 93] l)).length ≤ 60000 := by
  have h1 := rep1_len 91 [91, 91, 93] 3 (by decide) (by decide) l
  have h2 := rep1_len 42 [91, 42, 93] 3 (by decide) (by decide) (rep1 91 [91, 91, 93] l)
  omega
end Mine
namespace Mine
theorem slice_is (x : Str) (l u : Option Int) : Txt.slice x l u = StrLaws.sliceText x l u := rfl
theorem ssi_hi (lo : Option Int) {j : Int} (len : Nat) (h : (len : Int) ≤ j) : Builtin.Str.strSliceIndices lo (some j) 1 len = Builtin.Str.strSliceIndices lo (some (len : Int)) 1 len := by
  have a : ¬ (j < 0) := by omega
  have b : ¬ ((len : Int) < 0) := by omega
  have e : min j (len : Int) = len := by omega
  simp [Builtin.Str.strSliceIndices, a, b, e]
theorem ssi_lo (hi : Option Int) {j : Int} (len : Nat) (h : (len : Int) ≤ j) : Builtin.Str.strSliceIndices (some j) hi 1 len = Builtin.Str.strSliceIndices (some (len : Int)) hi 1 len := by
  have a : ¬ (j < 0) := by omega
  have b : ¬ ((len : Int) < 0) := by omega
  have e : min j (len : Int) = len := by omega
  simp [Builtin.Str.strSliceIndices, a, b, e]
theorem sliceText_hi (x : Str) (lo : Option Int) {j : Int} (h : (x.length : Int) ≤ j) : StrLaws.sliceText x lo (some j) = StrLaws.sliceText x lo (some (x.length : Int)) := by
  unfold StrLaws.sliceText
  rw [ssi_hi lo x.length h]
theorem sliceText_lo (x : Str) (hi : Option Int) {j : Int} (h : (x.length : Int) ≤ j) : StrLaws.sliceText x (some j) hi = StrLaws.sliceText x (some (x.length : Int)) hi := by
  unfold StrLaws.sliceText
  rw [ssi_lo hi x.length h]
theorem slice_to (l : List Nat) (j : Int) (h : 0 ≤ j) : Txt.slice (S l) none (some j) = S (l.take j.toNat) := by
  rw [slice_is]
  by_cases q : j ≤ l.length
  · rw [StrLaws.sliceText_to ⟨h, by simpa using q⟩]
    simp
  · rw [sliceText_hi _ _ (by rw [S_len]; omega), S_len, StrLaws.sliceText_to ⟨by omega, by simp⟩]
    simp
    rw [List.take_of_length_le (by omega)]
theorem slice_from (l : List Nat) (j : Int) (h : 0 ≤ j) : Txt.slice (S l) (some j) none = S (l.drop j.toNat) := by
  rw [slice_is]
  by_cases q : j ≤ l.length
  · rw [StrLaws.sliceText_from ⟨h, by simpa using q⟩]
    congr 2
    exact List.take_of_length_le (by simp; omega)
  · rw [sliceText_lo _ _ (by rw [S_len]; omega), S_len, StrLaws.sliceText_from ⟨by omega, by simp⟩]
    congr 2
    rw [List.drop_of_length_le (l := l) (i := j.toNat) (by omega)]
    simp
theorem slice_mid (l : List Nat) (i j : Int) (h0 : 0 ≤ i) (h1 : i ≤ j) : Txt.slice (S l) (some i) (some j) = S ((l.drop i.toNat).take (j - i).toNat) := by
  rw [slice_is]
  by_cases q : j ≤ l.length
  · rw [StrLaws.sliceText_plain ⟨h0, h1, by simpa using q⟩]
  · rw [sliceText_hi _ _ (by rw [S_len]; omega), S_len]
    by_cases p : i ≤ l.length
    · rw [StrLaws.sliceText_plain ⟨h0, by omega, by simp⟩]
      congr 2
      show List.take _ (List.drop _ l) = _
      rw [List.take_of_length_le (l := l.drop i.toNat) (i := ((l.length : Int) - i).toNat) (by simp; omega), List.take_of_length_le (l := l.drop i.toNat) (i := (j - i).toNat) (by simp; omega)]
    · rw [sliceText_lo _ _ (by rw [S_len]; omega), S_len, StrLaws.sliceText_plain ⟨by omega, by omega, by simp⟩]
      congr 2
      show List.take _ (List.drop _ l) = _
      rw [List.drop_of_length_le (l := l) (i := i.toNat) (by omega)]; simp
theorem neg_toNat {n : Nat} {i : Int} (h0 : i < 0) (h1 : -(n : Int) ≤ i) : 0 ≤ i + (n : Int) ∧ (i + (n : Int)).toNat = n - (-i).toNat := by
  obtain ⟨k, rfl⟩ : ∃ k : Nat, i = -(k : Int) := ⟨(-i).toNat, by rw [Int.toNat_of_nonneg (Int.neg_nonneg_of_nonpos (Int.le_of_lt h0)), Int.neg_neg]⟩
  have hk := Int.neg_le_neg h1
  rw [Int.neg_neg, Int.neg_neg] at hk
  rw [Int.neg_neg, Int.toNat_natCast, Int.add_comm, ← Int.sub_eq_add_neg]
  exact ⟨Int.sub_nonneg_of_le hk, Int.toNat_sub _ _⟩
theorem cut_le (n f y : Nat) : min f n + (n - (n - y)) ≤ f + y := Nat.add_le_add (Nat.min_le_left _ _) (Nat.sub_le_of_le_add (by rw [Nat.add_comm]; exact Nat.le_add_of_sub_le (Nat.le_refl _)))
theorem slice_neg (l : List Nat) (i : Int) (h0 : i < 0) (h1 : -(l.length : Int) ≤ i) : Txt.slice (S l) (some i) none = S (l.drop (l.length - (-i).toNat)) := by
  rw [slice_is, StrLaws.sliceText_neg_lo _ _ h0 (by rw [S_len]; exact h1), ← slice_is, S_len, slice_from _ _ (neg_toNat h0 h1).1, (neg_toNat h0 h1).2]

noncomputable def preL (k : Int) : Nat := ((k - 3).fdiv 2).toNat
noncomputable def postL (k : Int) : Nat := (k - 3).toNat - preL k
noncomputable def cramL (l : List Nat) (k : Int) : List Nat := if k < l.length then l.take (preL k) ++ [46, 46, 46] ++ l.drop (l.length - postL k) else l
theorem str_dots : Str.ofString "..." = S [46, 46, 46] := by decide +kernel
theorem in7 : ∀ i < 8, 0 < i → i = 1 ∨ i = 2 ∨ i = 3 ∨ i = 4 ∨ i = 5 ∨ i = 6 ∨ i = 7 := by decide
theorem in8 : ∀ i < 8, i = 0 ∨ i = 1 ∨ i = 2 ∨ i = 3 ∨ i = 4 ∨ i = 5 ∨ i = 6 ∨ i = 7 := by decide
theorem in4 : ∀ i < 4, i = 0 ∨ i = 1 ∨ i = 2 ∨ i = 3 := by decide
theorem half_le {e d r : Int} (h : d * 2 + r = e) (h0 : 0 ≤ r) : d.toNat ≤ e.toNat := by omega
theorem preL_le (k : Int) (n : Nat) (h : k < n) : preL k + postL k ≤ n ∧ (3 ≤ k → preL k + postL k = (k - 3).toNat) ∧ (k < 3 → preL k = 0 ∧ postL k = 0) := by
  have q := fdiv_fmod_facts (k - 3) 2
  have hd : preL k ≤ (k - 3).toNat := half_le q.1 (q.2.2.1 (by decide)).1
  have he : preL k + postL k = (k - 3).toNat := Nat.add_sub_of_le hd
  refine ⟨?_, fun _ => he, fun h3 => ?_⟩
  · rw [he]
    exact Int.toNat_le.mpr (Int.le_trans (Int.sub_le_self k (by decide)) (Int.le_of_lt h))
  · have h0 : (k - 3).toNat = 0 := Int.toNat_of_nonpos (Int.sub_nonpos_of_le (Int.le_of_lt h3))
    rw [h0] at hd he
    have hp := Nat.le_zero.mp hd
    exact ⟨hp, by rw [hp, Nat.zero_add] at he; exact he⟩
end Mine
end
section
theorem Mine.begin_Pt : True := by
  w_top off
  k_with_none
  k_with "omega" => (first | with_reducible assumption | with_reducible exact Nat.le_trans (by assumption) (Nat.le_of_ble_eq_true rfl) | with_reducible exact Nat.le_refl _ | with_reducible exact Nat.ne_of_gt (by assumption) | with_reducible exact Nat.ne_of_lt (by assumption) | with_reducible exact Ne.symm (by assumption) | with_reducible exact Int.ofNat_lt.mpr (by assumption) | with_reducible exact Nat.lt_of_le_of_lt (Nat.le_add_right _ _) (by assumption))
  trivial
namespace Mine
noncomputable abbrev PtD := Option (Bool × List Nat)
/-- a part of a parsed pattern as it lies on the ledger -/
noncomputable def PartAt (news : List (Addr × Obj)) (v : Value) : PtD → Prop
  | none => ∃ d, v = .ref d ∧ (d, listOf #[] 0) ∈ news
  | some (b, x) => ∃ d t, v = .ref d ∧ (d, listOf #[.bool b, .str (S x) t] 0) ∈ news
theorem PartAt.mono {news news' : List (Addr × Obj)} (hs : ∀ p ∈ news, p ∈ news') {v : Value} {p : PtD} (H : PartAt news v p) : PartAt news' v p := by
  rcases p with _ | ⟨b, x⟩
  · obtain ⟨d, e, h⟩ := H
    exact ⟨d, e, hs _ h⟩
  · obtain ⟨d, t, e, h⟩ := H
    exact ⟨d, t, e, hs _ h⟩
inductive All2 {α β : Type} (R : α → β → Prop) : List α → List β → Prop
  | nil : All2 R [] []
  | cons {a b l m} : R a b → All2 R l m → All2 R (a :: l) (b :: m)
namespace All2
variable {α β : Type} {R R' : α → β → Prop}
theorem mono (h : ∀ a b, R a b → R' a b) {l : List α} {m : List β} (H : All2 R l m) : All2 R' l m := by
  induction H with
  | nil => exact .nil
  | cons x _ ih => exact .cons (h _ _ x) ih
theorem length {l : List α} {m : List β} (H : All2 R l m) : l.length = m.length := by
  induction H with
  | nil => rfl
  | cons _ _ ih => exact congrArg (· + 1) ih
theorem app {l l' : List α} {m m' : List β} (H : All2 R l m) (H' : All2 R l' m') : All2 R (l ++ l') (m ++ m') := by
  induction H with
  | nil => exact H'
  | cons x _ ih => exact .cons x ih
theorem take (k : Nat) {l : List α} {m : List β} (H : All2 R l m) : All2 R (l.take k) (m.take k) := by
  induction H generalizing k with
  | nil => rw [List.take_nil, List.take_nil]; exact .nil
  | cons x _ ih =>
    cases k with
    | zero => exact .nil
    | succ k => exact .cons x (ih k)
theorem drop (k : Nat) {l : List α} {m : List β} (H : All2 R l m) : All2 R (l.drop k) (m.drop k) := by
  induction H generalizing k with
  | nil => rw [List.drop_nil, List.drop_nil]; exact .nil
  | cons x r ih =>
    cases k with
    | zero => exact .cons x r
    | succ k => exact ih k
theorem get (k : Nat) {l : List α} {m : List β} (H : All2 R l m) {b : β} (h : m[k]? = some b) : ∃ a, l[k]? = some a ∧ R a b := by
  induction H generalizing k with
  | nil => cases h
  | cons x _ ih =>
    cases k with
    | zero => exact ⟨_, rfl, Option.some.inj h ▸ x⟩
    | succ k => exact ih k h
theorem at_ (k : Nat) {l : List α} {m : List β} (H : All2 R l m) {a : α} (h : l[k]? = some a) : ∃ b, m[k]? = some b ∧ R a b := by
  induction H generalizing k with
  | nil => cases h
  | cons x _ ih =>
    cases k with
    | zero => exact ⟨_, rfl, Option.some.inj h ▸ x⟩
    | succ k => exact ih k h
theorem memL {l : List α} {m : List β} (H : All2 R l m) {a : α} (h : a ∈ l) : ∃ b ∈ m, R a b := by
  induction H with
  | nil => cases h
  | cons x _ ih =>
    cases h with
    | head => exact ⟨_, .head _, x⟩
    | tail _ h =>
      obtain ⟨b, hb, q⟩ := ih h
      exact ⟨b, .tail _ hb, q⟩
end All2
noncomputable def PartsAt (news : List (Addr × Obj)) (a : Addr) (ps : List PtD) : Prop := ∃ (its : List Value) (n : Nat), (a, listOf its.toArray n) ∈ news ∧ All2 (PartAt news) its ps
theorem PartsAt.mono {news news' : List (Addr × Obj)} (hs : ∀ p ∈ news, p ∈ news') {a : Addr} {ps : List PtD} (h : PartsAt news a ps) : PartsAt news' a ps := let ⟨its, n, h1, h2⟩ := h; ⟨its, n, hs _ h1, h2.mono fun _ _ => PartAt.mono hs⟩

/-- what _law_takes reckons -/
noncomputable def cellL (c : Nat) (p : PtD) : Bool := match p with
  | some (b, x) => decide (c ∈ x) == b
  | none => true
noncomputable def rowOk : List PtD → List Nat → Bool
  | [], [] => true
  | p :: ps, c :: cs => !cellL c p && rowOk ps cs
  | _, _ => false
noncomputable def starOf : List PtD → Option Nat
  | [] => none
  | none :: _ => some 0
  | some _ :: r => (starOf r).map (· + 1)
noncomputable def takesL (ps : List PtD) (x : List Nat) : Bool := match starOf ps with
  | none => rowOk ps x
  | some j =>
    let row := ps.take j ++ ps.drop (j + 1)
    if x.length < row.length then false else rowOk row (x.take j ++ x.drop (x.length - row.length + j))
end Mine
namespace Mine
theorem ne_all {d e : Addr} {news : List (Addr × Obj)} (h : AllLt d news) (hd : @LE.le Nat _ d e) : ∀ p ∈ news, p.1 ≠ e := fun p hp q => by
  have := ktn_ltOf h p hp
  rw [q] at this
  exact absurd (Nat.lt_of_lt_of_le this hd) (Nat.lt_irrefl _)
end Mine
namespace Mine
theorem ne_all2 {d e : Addr} {news : List (Addr × Obj)} (h : ∀ p ∈ news, p.1 < d) (hd : @LE.le Nat _ d e) : ∀ p ∈ news, p.1 ≠ e := fun p hp q => by
  have := h p hp
  rw [q] at this
  exact absurd (Nat.lt_of_lt_of_le this hd) (Nat.lt_irrefl _)
end Mine
end
local macro_rules | `(tactic| k_room) => `(tactic| ktr_room)
local macro_rules | `(tactic| k_units) => `(tactic| ktr_units)
local macro_rules | `(tactic| k_all) => `(tactic| first | assumption | exact Mine.ne_all2 (by assumption) (by omega) | exact Mine.ne_all (by assumption) (by omega))

section
theorem Mine.begin_Ls : True := by
  w_top off
  k_with_none
  k_with "omega" => (first | with_reducible assumption | with_reducible exact Nat.le_trans (by assumption) (Nat.le_of_ble_eq_true rfl) | with_reducible exact Nat.le_refl _ | with_reducible exact Nat.ne_of_gt (by assumption) | with_reducible exact Nat.ne_of_lt (by assumption) | with_reducible exact Ne.symm (by assumption) | with_reducible exact Int.ofNat_lt.mpr (by assumption) | with_reducible exact Nat.lt_of_le_of_lt (Nat.le_add_right _ _) (by assumption))
  trivial
namespace Mine
noncomputable def isNil (news : List (Addr × Obj)) (v : Value) : Bool := @decide (∃ d, v = .ref d ∧ (d, listOf #[] 0) ∈ news) (Classical.propDecidable _)
section
variable {prog : Program} {w : World} {A : Around} {E : Value → Shared → Prop} {s : Shared} {h₀ : Heap} {L : Addr} {m : Str → Option Value} {news news' : List (Addr × Obj)}

theorem isNil_part (N : News h₀ L s.heap news) {v : Value} : ∀ {p : PtD}, PartAt news v p → isNil news v = p.isNone
  | none, ⟨d, e, h⟩ => by simp only [isNil, Option.isNone_none]; exact @decide_eq_true _ (Classical.propDecidable _) ⟨d, e, h⟩
  | some (b, x), ⟨d, t, e, h⟩ => by
    simp only [isNil, Option.isNone_some]
    refine @decide_eq_false _ (Classical.propDecidable _) ?_
    rintro ⟨d', e', h'⟩
    have : d' = d := by rw [e] at e'; cases e'; rfl
    subst this
    have h1 := (N _ h).1
    rw [(N _ h').1] at h1
    cases h1

theorem eqAt_nil {B : Around} (N : News h₀ L s.heap news) (N' : News h₀ L s.heap news') {Ea : Addr} (hE : (Ea, listOf #[] 0) ∈ news') (hlt : ∀ p ∈ news, p.1 < Ea) (hu : B.units < cLine) {v : Value} : ∀ {p : PtD}, PartAt news v p → SeqAt.EqAt B s v (.ref Ea) p.isNone
  | none, ⟨d, e, h⟩ => by
    subst e
    refine SeqAt.EqAt.of_refs (Nat.ne_of_lt (hlt _ h)) ?_
    exact SeqAt.RcAt.lists (e := fun _ => true) (News.isList N h) (News.isList N' hE) rfl hu (fun j h1 => absurd h1 (Nat.not_lt_zero _))
  | some (b, x), ⟨d, t, e, h⟩ => by
    subst e
    refine SeqAt.EqAt.of_refs (Nat.ne_of_lt (hlt _ h)) ?_
    exact SeqAt.RcAt.lists_lengths (News.isList N h) (News.isList N' hE) rfl hu

theorem starOf_some : ∀ {ps : List PtD} {j : Nat}, starOf ps = some j → ps[j]? = some none ∧ ∀ i, i < j → ∃ q, ps[i]? = some (some q)
  | none :: _, _, h => by cases h; exact ⟨rfl, fun i hi => absurd hi (Nat.not_lt_zero _)⟩
  | some q :: r, j, h => by
    simp only [starOf, Option.map_eq_some_iff] at h
    obtain ⟨k, hk, rfl⟩ := h
    obtain ⟨h1, h2⟩ := starOf_some hk
    refine ⟨by simpa using h1, fun i hi => ?_⟩
    cases i with
    | zero => exact ⟨q, rfl⟩
    | succ i => simpa using h2 i (by omega)
theorem starOf_any : ∀ {ps : List PtD}, (starOf ps).isSome = ps.any (·.isNone)
  | [] => rfl
  | none :: _ => rfl
  | some q :: r => by simp [starOf, starOf_any (ps := r)]

theorem any_part (N : News h₀ L s.heap news) : ∀ {its : List Value} {ps : List PtD}, All2 (PartAt news) its ps → its.any (isNil news) = ps.any (·.isNone) := by
  intro its ps H
  induction H with
  | nil => rfl
  | cons x _ ih => rw [List.any_cons, List.any_cons, isNil_part N x, ih]

theorem index_method {D : Addr} {its : Array Value} {n : Nat} {pl : Sem Bool} {Q : Value × List Value → Shared → Prop} (hm : (D, listOf its n) ∈ news) (N : News h₀ L s.heap news) (h : Q (.builtin "list.index", [.ref D]) s) :
    wpAny (model prog w) A (getMethod (.ref D) (Str.ofString "index") pl) Q E s := kf_method N hm PySem.F.slot_list_index PySem.F.type_list_index h

theorem in_parts {pa Ea : Addr} {its : List Value} {ps : List PtD} {Q : Value → Shared → Prop} {n : Nat} (hp : (pa, listOf its.toArray n) ∈ news) (hi : All2 (PartAt news) its ps) (N : News h₀ L s.heap news) (N' : News h₀ L s.heap news')
    (hE : (Ea, listOf #[] 0) ∈ news') (hlt : ∀ p ∈ news, p.1 < Ea) (hu : A.units + 1 < cLine) {b : Bool} (hb : (starOf ps).isSome = b) (h : Q (.bool b) s) : wpAny (model prog w) A (compareOp .In (.ref Ea) (.ref pa)) Q E s := by
  subst hb
  refine SeqAt.in_listAt (isNil news) (News.isList N hp) (fun y hy => ?_) ?_
  · obtain ⟨p, _, q⟩ := hi.memL (a := y) (by simpa using hy)
    rw [isNil_part N q]
    exact eqAt_nil N N' hE hlt (by simpa using hu) q
  · rw [starOf_any, ← any_part N hi] at h
    simpa using h

theorem index_parts {pa Ea : Addr} {its : List Value} {ps : List PtD} {j : Nat} {Q : Value → Shared → Prop} {n : Nat} (hp : (pa, listOf its.toArray n) ∈ news) (hi : All2 (PartAt news) its ps) (N : News h₀ L s.heap news) (N' : News h₀ L s.heap news')
    (hE : (Ea, listOf #[] 0) ∈ news') (hlt : ∀ p ∈ news, p.1 < Ea) (hu : A.units + 2 < cLine) (hj : starOf ps = some j) (hs : j ≤ 1000) (h : Q (.int j s.toks) { s with toks := s.toks + 1 }) : wpAny (model prog w) A (call (.builtin "list.index") [.ref pa, .ref Ea]) Q E s := by
  obtain ⟨h1, h2⟩ := starOf_some hj
  obtain ⟨v, hv, pv⟩ := hi.get j h1
  have hlen : j < its.length := by
    rcases Nat.lt_or_ge j its.length with q | q
    · exact q
    · rw [List.getElem?_eq_none q] at hv; cases hv
  have hv' : its[j] = v := by rw [List.getElem?_eq_getElem hlen] at hv; exact Option.some.inj hv
  refine call_meets PySem.F.slot_list_index ⟨_, (N _ hp).1, rfl⟩ PySem.F.entry_list_index (PySem.F.args_list_index_2 _ _)
    (SeqAt.list_indexAt pa its.toArray n none #[] (.ref Ea) (isNil news) j (by simpa using hlen) (by omega) ?_ ?_) ⟨(N _ hp).1, ?_, h⟩
  · rw [List.getElem_toArray, hv', isNil_part N pv]; rfl
  · intro i hi' hlt'
    obtain ⟨q, hq⟩ := h2 i hlt'
    obtain ⟨u, hu', pu⟩ := hi.get i hq
    have hil : i < its.length := by simpa using hi'
    have : its[i] = u := by rw [List.getElem?_eq_getElem hil] at hu'; exact Option.some.inj hu'
    rw [List.getElem_toArray, this, isNil_part N pu]; rfl
  · intro y hy
    obtain ⟨p, _, q⟩ := hi.memL (a := y) (by simpa using hy)
    rw [isNil_part N q]
    exact eqAt_nil N N' hE hlt (by simp; omega) q
end
end Mine
namespace Mine
theorem pick_to (l : List Value) (j : Nat) : kms_pick l none (some (j : Int)) = l.take j := by
  have h : ¬ ((j : Int) < 0) := by omega
  unfold kms_pick kms_lo kms_hi
  simp [h]
theorem pick_from (l : List Value) (j : Nat) : kms_pick l (some (j : Int)) none = l.drop j := by
  have h : ¬ ((j : Int) < 0) := by omega
  unfold kms_pick kms_lo kms_hi
  simp only [if_neg h]
  rw [show ((j : Int)).toNat = j by omega, kmk_drop_min, List.take_of_length_le (by simp; omega)]
theorem pick_from1 (l : List Value) (j : Nat) : kms_pick l (some ((j : Int) + 1)) none = l.drop (j + 1) := by
  have := pick_from l (j + 1)
  simpa using this
end Mine
namespace Mine
theorem add_e (a b : List Value) : a.toArray.toList ++ b.toArray.toList = a ++ b := rfl
theorem len_lst {prog : Program} {w : World} {A : Around} {E : Value → Shared → Prop} {s : Shared} {l : Addr} {zs : List Value} {n : Nat} {Q : Value → Shared → Prop} (hl : s.heap.IsList l zs.toArray) (e : zs.length = n) (hn : n ≤ 100000)
    (h : ∀ t k, Q (.int (n : Int) t) { s with toks := k }) : wpAny (model prog w) A (call (.builtin "len") [.ref l]) Q E s := by
  refine len_list hl (by rw [List.size_toArray, e]; omega) ?_
  rw [List.size_toArray, e]
  exact h _ _
end Mine
namespace Mine
/-- a goal that the walk leaves to the hand -/
noncomputable def Hold (P : Prop) : Prop := P
theorem Hold.of {P : Prop} (h : Hold P) : P := h
theorem Hold.to {P : Prop} (h : P) : Hold P := h
section
variable {prog : Program} {w : World} {A : Around} {h₀ : Heap} {L : Addr} {m : Str → Option Value} {env : Env} {ct elt : PySem.Expr} {x : Str} {scope : Scope} {cl : List (Str × Addr)} {s : Shared} {S : List (Addr × Obj) → Prop} {P : Nat → Value → Prop} {Fin : List Value → List (Addr × Obj) → Prop} {news : List (Addr × Obj)}
noncomputable def TurnT (prog : Program) (w : World) (A : Around) (h₀ : Heap) (L : Addr) (m : Str → Option Value) (env : Env) (ct elt : PySem.Expr) (x : Str) (scope : Scope) (cl : List (Str × Addr)) (s : Shared) (S : List (Addr × Obj) → Prop) (P : Nat → Value → Prop) (news : List (Addr × Obj)) (Inv : Nat → List Value → Prop) (n : Nat) : Prop :=
  ∀ i v I oI C oC D m₂ ys h tk (E' : Value → Shared → Prop), i < n → P i v → Inv i ys → LCg.NsObj oC m₂ → m₂ x = some v → Fr h₀ L h m → News h₀ L h ((I, oI) :: (C, oC) :: (D, LCg.lst ys) :: news) → LCg.Off3 I C D news → ((@Ne Nat I C) ∧ (@Ne Nat I D) ∧ (@Ne Nat C D)) →
      wpAny (model prog w) A (isTrue ct (compEnvC scope cl C env) (eval ct (compEnvC scope cl C env))) (fun b s' => if b = true then wpAny (model prog w) A (eval elt (compEnvC scope cl C env)) (LCg.CompEnd h₀ L m { s with heap := h, toks := tk } I oI C oC D (LCg.lst ys) S (fun y news' => news' = news ∧ Inv (i + 1) (ys ++ [y]))) E' s'
        else LCg.CompEnd h₀ L m { s with heap := h, toks := tk } I oI C oC D (LCg.lst ys) S (fun _ news' => news' = news ∧ Inv (i + 1) ys) Value.none s') E' { s with heap := h, toks := tk }
theorem compT_inv {n : Nat} (Inv : Nat → List Value → Prop) (h0 : Inv 0 []) (turn : TurnT prog w A h₀ L m env ct elt x scope cl s S P news Inv n)
    (fin : ∀ ys, Inv n ys → Fin ys news) : LCt.CompRestT prog w A h₀ L m env ct elt x scope cl s S P Fin n 0 [] news := by
  have key : ∀ (j i : Nat) (ys : List Value), i + j = n → Inv i ys → LCt.CompRestT prog w A h₀ L m env ct elt x scope cl s S P Fin j i ys news := by
    intro j
    induction j with
    | zero =>
      intro i ys hi hy
      have e : i = n := by omega
      subst e
      exact LCt.CompRestT.zero (fin ys hy)
    | succ j ih =>
      intro i ys hi hy
      refine LCt.CompRestT.succ ?_
      intro v I oI C oC D m₂ h tk E' hv hC hx F N off ne
      refine wpAny_mono (turn i v I oI C oC D m₂ ys h tk E' (by omega) hv hy hC hx F N off ne) (fun b s₂ hq => ?_) fun _ _ e => e
      cases b with
      | true =>
        simp only [if_true] at hq ⊢
        refine wpAny_mono hq (fun y s₃ hr => ?_) fun _ _ e => e
        obtain ⟨h', tk', nw, e, F', N', off', hS, hn, hr'⟩ := hr
        rw [hn] at N' off' hS
        exact ⟨h', tk', news, e, F', N', off', hS, ih (i + 1) _ (by omega) hr'⟩
      | false =>
        simp only [Bool.false_eq_true, if_false] at hq ⊢
        obtain ⟨h', tk', nw, e, F', N', off', hS, hn, hr'⟩ := hq
        rw [hn] at N' off' hS
        exact ⟨h', tk', news, e, F', N', off', hS, ih (i + 1) _ (by omega) hr'⟩
  exact key n 0 [] (by omega) h0
end
end Mine
namespace Mine
section
variable {prog : Program} {w : World} {A : Around} {E : Value → Shared → Prop} {s : Shared}
theorem fits_small {i : Int} (h0 : -200000 ≤ i) (h1 : i ≤ 200000) : fitsSsize i = true := fitsSsize_of (N := 9223372036854775808) (by omega) (by omega) (Int.le_refl _)
theorem item_S {value slice : PySem.Expr} {l : List Nat} {t u : Tok} {i : Int} {k c : Nat} {Q : Value → Shared → Prop} (hk : i = (k : Int)) (hc : l[k]? = some c) (hl : l.length ≤ 100000) (h : ∀ t k, Q (.str (S [c]) t) { s with toks := k })
    (hs : subscripted slice false (.str (S l) t) (.int i u) = operate [.str (S l) t, .int i u] (getItem (.str (S l) t) (.int i u))) (hg : ∀ r, letTemporaryGo value (.str (S l) t) r = pure ()) : wpAny (model prog w) A (subscriptTail value slice (.str (S l) t) (.int i u)) Q E s := by
  have hkl : k < l.length := by
    rcases Nat.lt_or_ge k l.length with q | q
    · exact q
    · rw [List.getElem?_eq_none q] at hc; cases hc
  have e : Txt.item (S l) i = S [c] := by
    subst hk
    have h2 : (S l).cps[((k : Nat) : Int).toNat]? = some c := by simpa using hc
    have h1 := StrLaws.at_nonneg (x := S l) (i := (k : Int)) (by omega) h2
    unfold Txt.item Txt.charAt
    rw [h1]; rfl
  refine item_str (fits_small (by omega) (by omega)) (by rw [S_len]; omega) (by rw [S_len]; omega) (fun _ => ?_) hs hg
  rw [e]
  exact h _ _
theorem in_S {c : Nat} {y : List Nat} {t u : Tok} {Q : Value → Shared → Prop} (h : Q (.bool (decide (c ∈ y))) s) : wpAny (model prog w) A (compareOp .In (.str (S [c]) u) (.str (S y) t)) Q E s := by
  refine in_str ?_
  rw [StrLaws.found_one]
  simpa using h
theorem S_beq (a b : List Nat) : (S a == S b) = decide (a = b) := by
  by_cases h : a = b
  · subst h; simp
  · rw [decide_eq_false h]
    apply beq_false_of_ne
    intro q
    apply h
    have := congrArg (fun x => x.cps.toList) q
    simpa using this
theorem eq_S {a b : List Nat} {x y : Str} {t u : Tok} {Q : Value → Shared → Prop} (hx : x = S a) (hy : y = S b) (h : Q (.bool (decide (a = b))) s) : wpAny (model prog w) A (compareOp .Eq (.str x t) (.str y u)) Q E s := by
  subst hx hy
  refine eq_str ?_
  rw [S_beq]; exact h
theorem ne_S {a b : List Nat} {x y : Str} {t u : Tok} {Q : Value → Shared → Prop} (hx : x = S a) (hy : y = S b) (h : Q (.bool (!decide (a = b))) s) : wpAny (model prog w) A (compareOp .NotEq (.str x t) (.str y u)) Q E s := by
  subst hx hy
  refine ne_str ?_
  have : (S a != S b) = !decide (a = b) := by rw [bne, S_beq]
  rw [this]; exact h
/-- a made list against the empty list -/
theorem eq_nil {h₀ : Heap} {L D Ea : Addr} {news : List (Addr × Obj)} {ys : List Value} {Q : Value → Shared → Prop} (N : News h₀ L s.heap news) (hD : (D, LCg.lst ys) ∈ news) (hE : (Ea, listOf #[] 0) ∈ news) (hu : A.units + 1 < cLine) (h : Q (.bool ys.isEmpty) s) : wpAny (model prog w) A (compareOp .Eq (.ref D) (.ref Ea)) Q E s := by
  cases ys with
  | nil => exact SeqAt.eq_listAt (e := fun _ => true) (News.isList N hD) (News.isList N hE) rfl (by omega) (fun j h1 => absurd h1 (Nat.not_lt_zero _)) h
  | cons y r => exact SeqAt.eq_list_lengthsAt (News.isList N hD) (News.isList N hE) rfl (by omega) h
end
end Mine
namespace Mine
structure TurnEnd {α : Type} (P : α → Prop) (s : Shared) (h₀ : Heap) (L : Addr) (m : Str → Option Value) (news : List (Addr × Obj)) (b : α) (s' : Shared) : Prop where
  eq : P b
  st : ∃ h' tk', s' = { s with heap := h', toks := tk' } ∧ Fr h₀ L h' m ∧ News h₀ L h' news
theorem TurnEnd.of {α : Type} {P : α → Prop} {s : Shared} {h₀ h' : Heap} {L : Addr} {m : Str → Option Value} {news : List (Addr × Obj)} {b : α} {tk : Nat} (F : Fr h₀ L h' m) (N : News h₀ L h' news) (e : P b) : TurnEnd P s h₀ L m news b { s with heap := h', toks := tk } := ⟨e, h', tk, rfl, F, N⟩
section
variable {prog : Program} {w : World} {A : Around} {E : Value → Shared → Prop} {s : Shared}
theorem item_L {value slice : PySem.Expr} {a : Addr} {zs : List Value} {u : Tok} {i : Int} {k : Nat} {v : Value} {Q : Value → Shared → Prop} (hl : s.heap.IsList a zs.toArray) (hk : i = (k : Int)) (hx : zs[k]? = some v) (hz : k ≤ 100000) (h : Q v s)
    (hs : subscripted slice false (.ref a) (.int i u) = operate [.ref a, .int i u] (getItem (.ref a) (.int i u))) (hg : ∀ r, letTemporaryGo value (.ref a) r = pure ()) : wpAny (model prog w) A (subscriptTail value slice (.ref a) (.int i u)) Q E s := by
  subst hk
  exact item_list hl (by omega) (by omega) (by simpa using hx) h hs hg
end
noncomputable def rowUp (row : List PtD) (held : List Nat) (i : Nat) : Bool := (List.range i).all fun k => match row[k]?, held[k]? with | some p, some c => !cellL c p | _, _ => true
theorem rowUp_succ {row : List PtD} {held : List Nat} {i c : Nat} {p : PtD} (h1 : row[i]? = some p) (h2 : held[i]? = some c) : rowUp row held (i + 1) = (rowUp row held i && !cellL c p) := by
  unfold rowUp
  rw [List.range_succ, List.all_append]
  simp [h1, h2]
theorem rowUp_cons {p : PtD} {c : Nat} {row : List PtD} {held : List Nat} (i : Nat) : rowUp (p :: row) (c :: held) (i + 1) = (!cellL c p && rowUp row held i) := by
  unfold rowUp
  rw [List.range_succ_eq_map]
  simp [List.all_map, Function.comp_def]
theorem rowUp_all : ∀ (row : List PtD) (held : List Nat), row.length = held.length → rowUp row held row.length = rowOk row held
  | [], [], _ => rfl
  | p :: row, c :: held, h => by
    rw [List.length_cons, rowUp_cons, rowUp_all row held (by simpa using h)]; rfl
theorem rowOk_len : ∀ (row : List PtD) (held : List Nat), row.length ≠ held.length → rowOk row held = false
  | [], [], h => absurd rfl h
  | [], _ :: _, _ => rfl
  | _ :: _, [], _ => rfl
  | p :: row, c :: held, h => by
    simp only [rowOk]
    rw [rowOk_len row held (by simpa using h), Bool.and_false]
end Mine
namespace Mine
theorem turn_via {α : Type} {M : Model} {A : Around} {t : Sem α} {Q : α → Shared → Prop} {E : Value → Shared → Prop} {s : Shared} {h₀ h : Heap} {L : Addr} {m : Str → Option Value} {news : List (Addr × Obj)} {tk : Nat} (P : α → Prop)
    (_F : Fr h₀ L h m) (_N : News h₀ L h news) (walk : wpAny M A t (TurnEnd P { s with heap := h, toks := tk } h₀ L m news) E { s with heap := h, toks := tk })
    (k : ∀ b h' tk', P b → Fr h₀ L h' m → News h₀ L h' news → Q b { s with heap := h', toks := tk' }) : wpAny M A t Q E { s with heap := h, toks := tk } :=
  wpAny_mono walk (fun b s' H => by obtain ⟨e, h', tk', es, F', N'⟩ := H; exact es ▸ k b h' tk' e F' N') fun _ _ x => x
end Mine
namespace Mine
theorem starOf_none : ∀ {ps : List PtD}, starOf ps = none → ∀ (i : Nat) (q : PtD), ps[i]? = some q → ∃ b y, q = some (b, y)
  | [], _, i, q, h => by simp at h
  | none :: _, h, _, _, _ => by cases h
  | some (b, y) :: r, h, i, q, hq => by
    cases i with
    | zero => simp at hq; exact ⟨b, y, hq.symm⟩
    | succ i => exact starOf_none (ps := r) (by simpa [starOf] using h) i q (by simpa using hq)
end Mine
namespace Mine
theorem eq_Sv {prog : Program} {w : World} {A : Around} {E : Value → Shared → Prop} {s : Shared} (v : Bool) {a b : List Nat} {x y : Str} {t u : Tok} {Q : Value → Shared → Prop} (hx : x = S a) (hy : y = S b) (hv : decide (a = b) = v) (h : Q (.bool v) s) : wpAny (model prog w) A (compareOp .Eq (.str x t) (.str y u)) Q E s := eq_S hx hy (hv ▸ h)
theorem ne_Sv {prog : Program} {w : World} {A : Around} {E : Value → Shared → Prop} {s : Shared} (v : Bool) {a b : List Nat} {x y : Str} {t u : Tok} {Q : Value → Shared → Prop} (hx : x = S a) (hy : y = S b) (hv : (!decide (a = b)) = v) (h : Q (.bool v) s) : wpAny (model prog w) A (compareOp .NotEq (.str x t) (.str y u)) Q E s := ne_S hx hy (hv ▸ h)
theorem hdF {a b : Nat} {l r : List Nat} (h : a ≠ b) : decide (a :: l = b :: r) = false := decide_eq_false fun q => h (List.cons.inj q).1
theorem hdNT {a b : Nat} {l r : List Nat} (h : a ≠ b) : (!decide (a :: l = b :: r)) = true := by rw [hdF h]; rfl
theorem sg (c d : Nat) : ([c] = [d]) = (c = d) := by simp
theorem l_star : Str.ofString "*" = S [42] := by decide +kernel
theorem l_qm : Str.ofString "?" = S [63] := by decide +kernel
theorem l_lb : Str.ofString "[" = S [91] := by decide +kernel
theorem l_rb : Str.ofString "]" = S [93] := by decide +kernel
theorem l_ex : Str.ofString "!" = S [33] := by decide +kernel
theorem l_dash : Str.ofString "-" = S [45] := by decide +kernel
theorem l_dot : Str.ofString "." = S [46] := by decide +kernel
theorem l_hat : Str.ofString "^" = S [94] := by decide +kernel
theorem l_bs : Str.ofString "\\" = S [92] := by decide +kernel
theorem l_bs2 : Str.ofString "\\\\" = S [92, 92] := by decide +kernel
theorem l_bsd : Str.ofString "\\-" = S [92, 45] := by decide +kernel
theorem l_nil : Str.ofString "" = S [] := by decide +kernel
theorem l_dotstar : Str.ofString ".*" = S [46, 42] := by decide +kernel
theorem l_open : Str.ofString "(?s:" = S [40, 63, 115, 58] := by decide +kernel
theorem l_close : Str.ofString ")\\Z" = S [41, 92, 90] := by decide +kernel
end Mine
end
section
theorem Mine.begin_Fo : True := by
  w_top off
  k_with_none
  k_with "omega" => (first | with_reducible assumption | with_reducible exact Nat.le_trans (by assumption) (Nat.le_of_ble_eq_true rfl) | with_reducible exact Nat.le_refl _ | with_reducible exact Nat.ne_of_gt (by assumption) | with_reducible exact Nat.ne_of_lt (by assumption) | with_reducible exact Ne.symm (by assumption) | with_reducible exact Int.ofNat_lt.mpr (by assumption) | with_reducible exact Nat.lt_of_le_of_lt (Nat.le_add_right _ _) (by assumption))
  trivial
namespace Mine
section
variable {prog : Program} {w : World} {A : Around} {E : Value → Shared → Prop} {s : Shared} {env : Env} {Q : Flow → Shared → Prop} {h₀ : Heap} {L : Addr}
/-- what a turn hands on: the next turn's invariant, the list and its iterator as they are -/
noncomputable def ForNext (h₀ : Heap) (L : Addr) (I : Addr) (it : Obj) (lp : Addr × Obj) (J : (Str → Option Value) → List (Addr × Obj) → Shared → Prop) (s : Shared) : Prop :=
  ∃ m news, J m news s ∧ Fr h₀ L s.heap m ∧ News h₀ L s.heap ((I, it) :: news) ∧ lp ∈ news ∧ ∀ p ∈ news, p.1 ≠ I
noncomputable def ForPost (h₀ : Heap) (L : Addr) (I : Addr) (it : Obj) (lp : Addr × Obj) (J : (Str → Option Value) → List (Addr × Obj) → Shared → Prop) (Q : Flow → Shared → Prop) (f : Flow) (s : Shared) : Prop :=
  match f with
  | .next => ForNext h₀ L I it lp J s
  | .cont => ForNext h₀ L I it lp J s
  | .brk => Q .next s
  | .ret v => Q (.ret v) s
/-- a for over a list of the ledger, by an invariant over the whole state -/
theorem forL {target iter : PySem.Expr} {body : List Stmt} {pos : Pos} {l : Addr} {lo : Obj} {vs : List Value} {k : Nat}
    (J : Nat → (Str → Option Value) → List (Addr × Obj) → Shared → Prop)
    (hA : A.handled = none) (hlo : lo = { cls := .type "list", data := .seq vs.toArray k })
    (hit : wpAny (model prog w) A (eval iter env) (fun xv s₁ => xv = .ref l ∧ ∃ m news, J 0 m news s₁ ∧ Fr h₀ L s₁.heap m ∧ News h₀ L s₁.heap news ∧ (l, lo) ∈ news) E s)
    (turn : ∀ i v I it m news s₁, vs[i]? = some v → J i m news s₁ → it.cls = .type "list_iterator" → Fr h₀ L s₁.heap m → News h₀ L s₁.heap ((I, it) :: news) → (l, lo) ∈ news → (∀ p ∈ news, p.1 ≠ I) →
      wpAny (model prog w) A (assign target env v) (fun _ s₂ => wpAny (model prog w) A (execs body env) (ForPost h₀ L I it (l, lo) (J (i + 1)) Q) E s₂) E s₁)
    (done : ∀ m news s₁, J vs.length m news s₁ → Fr h₀ L s₁.heap m → News h₀ L s₁.heap news → Q .next s₁)
    (keepJ : ∀ i m news s₁ h' tk, J i m news s₁ → J i m news { s₁ with heap := h', toks := tk })
    (hs : ∀ x, foldedSetIterable iter env x = pure x := by intro _; rfl)
    (ht : ∀ I v, letOwnedTupleGo target (.ref I) v = pure () := by intro _ _; rfl)
    (hE : PassesOwn (model prog w) A env E) : wpAny (model prog w) A (exec (.For target iter body [] pos) env) Q E s := by
  subst hlo
  refine wpAny_For (wpAny_mono hit (fun xv s₁ h₁ => ?_) fun _ _ e => e) hs
  obtain ⟨rfl, m, news, j0, F, N, hl⟩ := h₁
  have hlm := N _ hl
  have hls : s₁.heap.IsList l vs.toArray := ⟨_, hlm.1, rfl, k, rfl⟩
  have hlt : l < s₁.heap.objs.size := Heap.lt_size hlm.1
  have hne : l ≠ s₁.heap.objs.size := Nat.ne_of_lt hlt
  refine wpAny_pyIter_list hls ?_
  have W := Walks.list (prog := prog) (w := w) hA s₁.heap.objs.size l hne vs.toArray
  have hnew := next_is_new F
  have hLI : L ≠ s₁.heap.objs.size := Nat.ne_of_lt F.ns.lt
  refine codeAny_forLoop (R := fun r s' => match r with | .ok f => Q f s' | .error e => cameBackBy (model prog w) A env E e s')
    (fun n s' => ∃ i m news, n = vs.length - i ∧ i ≤ vs.length ∧ J i m news s' ∧ s'.heap.IsListIter s₁.heap.objs.size l i ∧ Fr h₀ L s'.heap m ∧ News h₀ L s'.heap news ∧ (l, { cls := .type "list", data := .seq vs.toArray k }) ∈ news ∧ ∀ p ∈ news, p.1 ≠ s₁.heap.objs.size) ?_ vs.length
    ⟨0, m, news, rfl, Nat.zero_le _, keepJ _ _ _ _ _ _ j0, ⟨_, Heap.get?_push_size _ rfl, rfl, rfl⟩, F.push _, fun p hp => ⟨Heap.get?_push_of_some _ (N p hp).1, (N p hp).2⟩, hl, fun p hp => Nat.ne_of_lt (Heap.lt_size (N p hp).1)⟩ (fun v => ht _ v)
  rintro n s₂ ⟨i, m₂, news₂, rfl, hi, hJ, hst, F₂, N₂, hl₂, off⟩
  have hls₂ : s₂.heap.IsList l vs.toArray := ⟨_, (N₂ _ hl₂).1, rfl, k, rfl⟩
  have hsz : vs.toArray.size = vs.length := by simp
  have up : ∀ h' : Heap, (∀ b o, b ∉ [s₁.heap.objs.size] → s₂.heap.get? b = some o → h'.get? b = some o) → Fr h₀ L h' m₂ ∧ News h₀ L h' news₂ := fun h' hk =>
    ⟨⟨F₂.ns.at' fun o e => hk _ o (by simpa using hLI) e, fun b o e => hk b o (fun hb => by rw [List.mem_singleton.mp hb, hnew] at e; cases e) (F₂.keep b o e), F₂.above⟩, fun p hp => ⟨hk _ _ (by simpa using off p hp) (N₂ p hp).1, (N₂ p hp).2⟩⟩
  rcases Nat.lt_or_ge i vs.length with hlt2 | hge
  · refine W.item i s₂ _ _ (by rw [hsz]; exact hlt2) ⟨hst, hls₂⟩ fun v h' tk hP hst' hk => ?_
    obtain ⟨F₃, N₃⟩ := up h' hk
    obtain ⟨it, hit', hic, hid⟩ := hst'.1
    have hv : vs[i]? = some v := by simpa using hP
    have N₄ : News h₀ L h' ((s₁.heap.objs.size, it) :: news₂) := fun p hp => by
      rcases List.mem_cons.mp hp with rfl | hp
      · exact ⟨hit', fun e => hLI e.symm, hnew⟩
      · exact N₃ p hp
    have step : ∀ s₄, ForNext h₀ L s₁.heap.objs.size it (l, { cls := .type "list", data := .seq vs.toArray k }) (J (i + 1)) s₄ → ∃ n', n' < vs.length - i ∧ ∃ i' m news, n' = vs.length - i' ∧ i' ≤ vs.length ∧ J i' m news s₄ ∧ s₄.heap.IsListIter s₁.heap.objs.size l i' ∧ Fr h₀ L s₄.heap m ∧ News h₀ L s₄.heap news ∧ (l, { cls := .type "list", data := .seq vs.toArray k }) ∈ news ∧ ∀ p ∈ news, p.1 ≠ s₁.heap.objs.size := by
      rintro s₄ ⟨m', news', j', F', N', hl', off'⟩
      refine ⟨vs.length - (i + 1), by omega, i + 1, m', news', rfl, hlt2, j', ⟨it, (N' _ (.head _)).1, hic, hid⟩, F', fun p hp => N' p (.tail _ hp), hl', off'⟩
    refine wpAny_passesOwn hE (wpAny_mono (turn i v _ it m₂ news₂ _ hv (keepJ _ _ _ _ _ _ hJ) hic F₃ N₄ hl₂ off) (fun _ s₃ h₃ => ?_) fun _ _ e => e)
    refine wpAny_passesOwn hE (wpAny_mono h₃ (fun f s₄ h₄ => ?_) fun _ _ e => e)
    cases f with
    | next => exact step s₄ h₄
    | cont => exact step s₄ h₄
    | brk => exact h₄
    | ret v => exact h₄
  · have hin : i = vs.length := by omega
    subst hin
    rw [← hsz] at hst
    refine W.done s₂ _ _ ⟨hst, hls₂⟩ fun h' tk hk => wpAny_execs_nil ?_
    obtain ⟨F₃, N₃⟩ := up h' hk
    exact done m₂ news₂ _ (keepJ _ _ _ _ _ _ hJ) F₃ N₃
end
end Mine
namespace Mine
section
variable {prog : Program} {w : World} {A : Around} {h₀ : Heap} {L : Addr} {m : Str → Option Value} {env : Env} {elt : PySem.Expr} {x : Str} {scope : Scope} {cl : List (Str × Addr)} {s : Shared} {S : List (Addr × Obj) → Prop} {P : Nat → Value → Prop} {Fin : List Value → List (Addr × Obj) → Prop} {news : List (Addr × Obj)}
/-- a comprehension without a test, by an invariant over what it has made -/
theorem compG_inv {n : Nat} (Inv : Nat → List Value → Prop) (h0 : Inv 0 [])
    (turn : ∀ i v I oI C oC D m₂ ys h tk (E' : Value → Shared → Prop), i < n → P i v → Inv i ys → LCg.NsObj oC m₂ → m₂ x = some v → Fr h₀ L h m → News h₀ L h ((I, oI) :: (C, oC) :: (D, LCg.lst ys) :: news) → LCg.Off3 I C D news → ((@Ne Nat I C) ∧ (@Ne Nat I D) ∧ (@Ne Nat C D)) →
      wpAny (model prog w) A (eval elt (compEnvC scope cl C env)) (LCg.CompEnd h₀ L m { s with heap := h, toks := tk } I oI C oC D (LCg.lst ys) S (fun y news' => news' = news ∧ Inv (i + 1) (ys ++ [y]))) E' { s with heap := h, toks := tk })
    (fin : ∀ ys, Inv n ys → Fin ys news) : LCg.CompRest prog w A h₀ L m env elt x scope cl s S P Fin n 0 [] news := by
  have key : ∀ (j i : Nat) (ys : List Value), i + j = n → Inv i ys → LCg.CompRest prog w A h₀ L m env elt x scope cl s S P Fin j i ys news := by
    intro j
    induction j with
    | zero =>
      intro i ys hi hy
      have e : i = n := by omega
      subst e
      exact LCg.CompRest.zero (fin ys hy)
    | succ j ih =>
      intro i ys hi hy
      refine LCg.CompRest.succ ?_
      intro v I oI C oC D m₂ h tk E' hv hC hx F N off ne
      refine wpAny_mono (turn i v I oI C oC D m₂ ys h tk E' (by omega) hv hy hC hx F N off ne) (fun y s₃ hr => ?_) fun _ _ e => e
      obtain ⟨h', tk', nw, e, F', N', off', hS, hn, hr'⟩ := hr
      rw [hn] at N' off' hS
      exact ⟨h', tk', news, e, F', N', off', hS, ih (i + 1) _ (by omega) hr'⟩
  exact key n 0 [] (by omega) h0
end
end Mine
end
section
theorem Mine.begin_Lp : True := by
  w_top off
  k_with_none
  k_with "omega" => (first | with_reducible assumption | with_reducible exact Nat.le_trans (by assumption) (Nat.le_of_ble_eq_true rfl) | with_reducible exact Nat.le_refl _ | with_reducible exact Nat.ne_of_gt (by assumption) | with_reducible exact Nat.ne_of_lt (by assumption) | with_reducible exact Ne.symm (by assumption) | with_reducible exact Int.ofNat_lt.mpr (by assumption) | with_reducible exact Nat.lt_of_le_of_lt (Nat.le_add_right _ _) (by assumption))
  trivial
namespace Mine
section
variable {prog : Program} {w : World} {A : Around} {E : Value → Shared → Prop} {env : Env} {test : PySem.Expr} {body orelse : List Stmt} {Q : Flow → Shared → Prop} {h₀ : Heap} {L : Addr}
theorem whl_loop {s : Shared} {m₀ : Str → Option Value} {news₀ : List (Addr × Obj)} (I : Nat → (Str → Option Value) → List (Addr × Obj) → Shared → Prop) (n₀ : Nat) (F : Fr h₀ L s.heap m₀) (N : News h₀ L s.heap news₀) (h0 : I n₀ m₀ news₀ s)
    (turn : ∀ n, (∀ n' m' news' s', n' < n → I n' m' news' s' → Fr h₀ L s'.heap m' → News h₀ L s'.heap news' → WhlRest prog w A E env test body orelse Q 0 s') →
      ∀ m news s, I n m news s → Fr h₀ L s.heap m → News h₀ L s.heap news → WhlRest prog w A E env test body orelse Q 1 s) : WhlRest prog w A E env test body orelse Q 0 s := by
  have all : ∀ n m news s, I n m news s → Fr h₀ L s.heap m → News h₀ L s.heap news → WhlRest prog w A E env test body orelse Q 0 s := by
    intro n
    induction n using Nat.strongRecOn with
    | ind n ih => exact fun m news s hI F N => turn n (fun n' m' news' s' hn hI' F' N' => ih n' hn m' news' s' hI' F' N') m news s hI F N
  exact all n₀ _ _ _ h0 F N
end
noncomputable def mapL (binds : List (Str × Value)) (m : Str → Option Value) : Str → Option Value := fun y => match binds.lookup y with
  | some v => some v
  | none => m y
theorem mapL_self {m : Str → Option Value} : ∀ {binds : List (Str × Value)}, (∀ p ∈ binds, m p.1 = some p.2) → mapL binds m = m := by
  intro binds h
  funext y
  unfold mapL
  cases q : binds.lookup y with
  | none => rfl
  | some v =>
    have : (y, v) ∈ binds := by
      clear h
      induction binds with
      | nil => cases q
      | cons p r ih =>
        rw [List.lookup_cons] at q
        split at q
        · rename_i e
          have := beq_iff_eq.mp e
          cases q
          rw [this]; exact .head _
        · exact .tail _ (ih q)
    exact (h _ this).symm
theorem fr_canon {h₀ h : Heap} {L : Addr} {m : Str → Option Value} (binds : List (Str × Value)) (F : Fr h₀ L h m) (hb : ∀ p ∈ binds, m p.1 = some p.2) : Fr h₀ L h (mapL binds m) := by
  rw [mapL_self hb]; exact F
theorem all_nil {P : Str × Value → Prop} : ∀ p ∈ ([] : List (Str × Value)), P p := fun _ h => nomatch h
theorem all_cons {P : Str × Value → Prop} {a : Str × Value} {l : List (Str × Value)} (h : P a) (r : ∀ p ∈ l, P p) : ∀ p ∈ a :: l, P p := List.forall_mem_cons.mpr ⟨h, r⟩
theorem pl1 (a : Nat) : (a : Int) + 1 = ((a + 1 : Nat) : Int) := rfl
theorem pl2 (a : Nat) : (a : Int) + 1 + 1 = ((a + 2 : Nat) : Int) := rfl
theorem pl3 (a : Nat) : (a : Int) + 1 + 1 + 1 = ((a + 3 : Nat) : Int) := rfl
theorem pl4 (a : Nat) : (a : Int) + 1 + 1 + 1 + 1 = ((a + 4 : Nat) : Int) := rfl
end Mine
end
section
theorem Mine.begin_Sp : True := by
  w_top off
  k_with_none
  k_with "omega" => (first | with_reducible assumption | with_reducible exact Nat.le_trans (by assumption) (Nat.le_of_ble_eq_true rfl) | with_reducible exact Nat.le_refl _ | with_reducible exact Nat.ne_of_gt (by assumption) | with_reducible exact Nat.ne_of_lt (by assumption) | with_reducible exact Ne.symm (by assumption) | with_reducible exact Int.ofNat_lt.mpr (by assumption) | with_reducible exact Nat.lt_of_le_of_lt (Nat.le_add_right _ _) (by assumption))
  trivial
namespace Mine
noncomputable abbrev Led := List (Addr × Obj)
/-- the names that the law's frame holds for loose -/
noncomputable abbrev LooseL : List Str := looseW hd.view_39 [Str.ofString "_twin_re_1", Str.ofString "_special_chars_map"] ++ (recsOf hd.view_39).map (·.name) ++ (litsOf hd.view_39).map (·.1) ++ (clssOf hd.view_39 (looseW hd.view_39 [Str.ofString "_twin_re_1", Str.ofString "_special_chars_map"])).map (·.name)

/-- a call of the def at f with the values vs gives back what Post says -/
noncomputable def Gives (w : World) (mean : ExcName → Option Value) (mg mb : Str → Option Value) (f : Addr) (vs : List Value) (Pre : Led → Prop) (Post : Led → Led → Value → Prop) : Prop :=
  ∀ (dp un : Nat) (gd : Option (List Code)) (cn : Str) (cs : Scope) (a : Addr) (ccd : Value) (cl : List (Str × Addr)) (outer : List Env) (A₀ : Around) (base h₀ : Heap) (L : Addr) (m : Str → Option Value) (news : Led) (s : Shared)
    (Q E : Value → Shared → Prop),
    Below A₀ base outer h₀ → Fr h₀ L s.heap m → Frag.In (hd.heap_39 w.params) h₀ → News h₀ L s.heap news → Top topProg LooseL mean mg mb h₀ → cs.kind = .function → Pre news → dp + 10 < recursionLimit → un + 100 < cLine →
    (∀ r news' h' tk', Fr h₀ L h' m → News h₀ L h' news' → Post news news' r → Q r { s with heap := h', toks := tk' }) →
    wpAny (model PySem.Challenge.rw_ij0088_01.row.prog w) (ktrTop dp un gd cn cs L a ccd cl outer) (call (.ref f) vs) Q E s
end Mine
namespace Mine
noncomputable abbrev RetS (x : Str) : Led → Led → Value → Prop := fun news news' r => news' = news ∧ ∃ t, r = .str x t
theorem RetS.intro {x y : Str} {t : Tok} {news : Led} (h : y = x) : RetS x news news (.str y t) := ⟨rfl, t, by rw [h]⟩
end Mine
namespace Mine
/-- a call that may leave a finished generator behind -/
noncomputable def GivesG (k : Nat) (w : World) (mean : ExcName → Option Value) (mg mb : Str → Option Value) (f : Addr) (vs : List Value) (Pre : Led → Prop) (Post : Led → Led → Value → Prop) : Prop :=
  ∀ (dp un : Nat) (gd : Option (List Code)) (cn : Str) (cs : Scope) (a : Addr) (ccd : Value) (cl : List (Str × Addr)) (outer : List Env) (A₀ : Around) (base h₀ : Heap) (L : Addr) (m : Str → Option Value) (news : Led) (s : Shared)
    (Q E : Value → Shared → Prop),
    Below A₀ base outer h₀ → Fr h₀ L s.heap m → Frag.In (hd.heap_39 w.params) h₀ → News h₀ L s.heap news → Top topProg LooseL mean mg mb h₀ → cs.kind = .function → Pre news → AllBare s.gens → dp + k < recursionLimit → un + 10 * k < cLine →
    (∀ r news' s', Fr h₀ L s'.heap m → News h₀ L s'.heap news' → s'.os = s.os → AllBare s'.gens → Post news news' r → Q r s') →
    wpAny (model PySem.Challenge.rw_ij0088_01.row.prog w) (ktrTop dp un gd cn cs L a ccd cl outer) (call (.ref f) vs) Q E s
end Mine
namespace Mine
theorem gives_use {w : World} {mean : ExcName → Option Value} {mg mb : Str → Option Value} {f : Addr} {vs : List Value} {Pre : Led → Prop} {Post : Led → Led → Value → Prop} (G : Gives w mean mg mb f vs Pre Post)
    {dp un : Nat} {gd : Option (List Code)} {cn : Str} {cs : Scope} {a : Addr} {ccd : Value} {cl : List (Str × Addr)} {outer : List Env} {A₀ : Around} {base h₀ : Heap} {L : Addr} {m : Str → Option Value} {news : Led} {s : Shared} {Q E : Value → Shared → Prop}
    (B : Below A₀ base outer h₀) (F : Fr h₀ L s.heap m) (X : Frag.In (hd.heap_39 w.params) h₀) (N : News h₀ L s.heap news) (T : Top topProg LooseL mean mg mb h₀) (hk : cs.kind = .function) (hp : Pre news) (hd : dp + 10 < recursionLimit) (hu : un + 100 < cLine)
    (ret : ∀ r news' h' tk', Fr h₀ L h' m → News h₀ L h' news' → Post news news' r → Q r { s with heap := h', toks := tk' }) :
    wpAny (model PySem.Challenge.rw_ij0088_01.row.prog w) (ktrTop dp un gd cn cs L a ccd cl outer) (call (.ref f) vs) Q E s := G dp un gd cn cs a ccd cl outer A₀ base h₀ L m news s Q E B F X N T hk hp hd hu ret
theorem givesG_use {k : Nat} {w : World} {mean : ExcName → Option Value} {mg mb : Str → Option Value} {f : Addr} {vs : List Value} {Pre : Led → Prop} {Post : Led → Led → Value → Prop} (G : GivesG k w mean mg mb f vs Pre Post)
    {dp un : Nat} {gd : Option (List Code)} {cn : Str} {cs : Scope} {a : Addr} {ccd : Value} {cl : List (Str × Addr)} {outer : List Env} {A₀ : Around} {base h₀ : Heap} {L : Addr} {m : Str → Option Value} {news : Led} {s : Shared} {Q E : Value → Shared → Prop}
    (B : Below A₀ base outer h₀) (F : Fr h₀ L s.heap m) (X : Frag.In (hd.heap_39 w.params) h₀) (N : News h₀ L s.heap news) (T : Top topProg LooseL mean mg mb h₀) (hk : cs.kind = .function) (hp : Pre news) (hG : AllBare s.gens) (hd : dp + k < recursionLimit) (hu : un + 10 * k < cLine)
    (ret : ∀ r news' s', Fr h₀ L s'.heap m → News h₀ L s'.heap news' → s'.os = s.os → AllBare s'.gens → Post news news' r → Q r s') :
    wpAny (model PySem.Challenge.rw_ij0088_01.row.prog w) (ktrTop dp un gd cn cs L a ccd cl outer) (call (.ref f) vs) Q E s := G dp un gd cn cs a ccd cl outer A₀ base h₀ L m news s Q E B F X N T hk hp hG hd hu ret
end Mine
end
section
theorem Mine.begin_Lc : True := by
  w_top off
  k_with_none
  k_with "omega" => (first | with_reducible assumption | with_reducible exact Nat.le_trans (by assumption) (Nat.le_of_ble_eq_true rfl) | with_reducible exact Nat.le_refl _ | with_reducible exact Nat.ne_of_gt (by assumption) | with_reducible exact Nat.ne_of_lt (by assumption) | with_reducible exact Ne.symm (by assumption) | with_reducible exact Int.ofNat_lt.mpr (by assumption) | with_reducible exact Nat.lt_of_le_of_lt (Nat.le_add_right _ _) (by assumption))
  trivial
namespace Mine
/-- the contracts at the law's own frame -/
theorem lawGives {w : World} {mean : ExcName → Option Value} {mg mb : Str → Option Value} {f : Addr} {vs : List Value} {Pre : Led → Prop} {Post : Led → Led → Value → Prop} (G : Gives w mean mg mb f vs Pre Post)
    {nm : Str} {cs : Scope} {a : Addr} {cd : Value} {g : Heap} {L : Addr} {m : Str → Option Value} {news : Led} {s : Shared} {Q E : Value → Shared → Prop}
    (B : Below callerA g [] g) (F : Fr g L s.heap m) (X : Frag.In (hd.heap_39 w.params) g) (N : News g L s.heap news) (T : Top topProg LooseL mean mg mb g) (hk : cs.kind = .function) (hp : Pre news)
    (ret : ∀ r news' h' tk', Fr g L h' m → News g L h' news' → Post news news' r → Q r { s with heap := h', toks := tk' }) :
    wpAny (model PySem.Challenge.rw_ij0088_01.row.prog w) (callerA.deeper (envOfC nm cs L a cd)) (call (.ref f) vs) Q E s :=
  G _ _ _ _ _ _ _ _ _ callerA g g L m news s Q E B F X N T hk hp (by decide) (by decide) ret
/-- a contract that gives a text and leaves the ledger -/
theorem lawS {w : World} {mean : ExcName → Option Value} {mg mb : Str → Option Value} {f : Addr} {vs : List Value} {Pre : Led → Prop} {x : Str} (G : Gives w mean mg mb f vs Pre (RetS x))
    {nm : Str} {cs : Scope} {a : Addr} {cd : Value} {g : Heap} {L : Addr} {m : Str → Option Value} {news : Led} {s : Shared} {Q E : Value → Shared → Prop}
    (B : Below callerA g [] g) (F : Fr g L s.heap m) (X : Frag.In (hd.heap_39 w.params) g) (N : News g L s.heap news) (T : Top topProg LooseL mean mg mb g) (hk : cs.kind = .function) (hp : Pre news)
    (ret : ∀ h' t' tk', Fr g L h' m → News g L h' news → Q (.str x t') { s with heap := h', toks := tk' }) :
    wpAny (model PySem.Challenge.rw_ij0088_01.row.prog w) (callerA.deeper (envOfC nm cs L a cd)) (call (.ref f) vs) Q E s :=
  lawGives G B F X N T hk hp fun r news' h' tk' F' N' hr => by
    obtain ⟨rfl, t, rfl⟩ := hr
    exact ret h' t tk' F' N'
theorem lawB {w : World} {mean : ExcName → Option Value} {mg mb : Str → Option Value} {f : Addr} {vs : List Value} {Pre : Led → Prop} {b : Bool} (G : Gives w mean mg mb f vs Pre (fun news news' r => news' = news ∧ r = .bool b))
    {nm : Str} {cs : Scope} {a : Addr} {cd : Value} {g : Heap} {L : Addr} {m : Str → Option Value} {news : Led} {s : Shared} {Q E : Value → Shared → Prop}
    (B : Below callerA g [] g) (F : Fr g L s.heap m) (X : Frag.In (hd.heap_39 w.params) g) (N : News g L s.heap news) (T : Top topProg LooseL mean mg mb g) (hk : cs.kind = .function) (hp : Pre news)
    (ret : ∀ h' tk', Fr g L h' m → News g L h' news → Q (.bool b) { s with heap := h', toks := tk' }) :
    wpAny (model PySem.Challenge.rw_ij0088_01.row.prog w) (callerA.deeper (envOfC nm cs L a cd)) (call (.ref f) vs) Q E s :=
  lawGives G B F X N T hk hp fun r news' h' tk' F' N' hr => by
    obtain ⟨rfl, rfl⟩ := hr
    exact ret h' tk' F' N'
theorem lawGivesG {k : Nat} {w : World} {mean : ExcName → Option Value} {mg mb : Str → Option Value} {f : Addr} {vs : List Value} {Pre : Led → Prop} {Post : Led → Led → Value → Prop} (G : GivesG k w mean mg mb f vs Pre Post) (hk0 : k ≤ 40)
    {nm : Str} {cs : Scope} {a : Addr} {cd : Value} {g : Heap} {L : Addr} {m : Str → Option Value} {news : Led} {s : Shared} {Q E : Value → Shared → Prop}
    (B : Below callerA g [] g) (F : Fr g L s.heap m) (X : Frag.In (hd.heap_39 w.params) g) (N : News g L s.heap news) (T : Top topProg LooseL mean mg mb g) (hk : cs.kind = .function) (hp : Pre news) (hG : AllBare s.gens)
    (ret : ∀ r news' s', Fr g L s'.heap m → News g L s'.heap news' → s'.os = s.os → AllBare s'.gens → Post news news' r → Q r s') :
    wpAny (model PySem.Challenge.rw_ij0088_01.row.prog w) (callerA.deeper (envOfC nm cs L a cd)) (call (.ref f) vs) Q E s := by
  refine G _ _ _ _ _ _ _ _ _ callerA g g L m news s Q E B F X N T hk hp hG ?_ ?_ ret
  · have : callerA.depth + 1 + 40 < recursionLimit := by decide
    exact Nat.lt_of_le_of_lt (Nat.add_le_add_left hk0 _) this
  · have : callerA.units + 3 + 10 * 40 < cLine := by decide
    exact Nat.lt_of_le_of_lt (Nat.add_le_add_left (Nat.mul_le_mul_left 10 hk0) _) this
theorem turn_via2 {α : Type} {M : Model} {A : Around} {t : Sem α} {Q : α → Shared → Prop} {E : Value → Shared → Prop} {s : Shared} {h₀ : Heap} {L : Addr} {m : Str → Option Value} {news : List (Addr × Obj)} (P : α → Prop)
    (_F : Fr h₀ L s.heap m) (_N : News h₀ L s.heap news) (walk : wpAny M A t (TurnEnd P s h₀ L m news) E s)
    (k : ∀ b h' tk', P b → Fr h₀ L h' m → News h₀ L h' news → Q b { s with heap := h', toks := tk' }) : wpAny M A t Q E s :=
  wpAny_mono walk (fun b s' H => by obtain ⟨e, h', tk', es, F', N'⟩ := H; exact es ▸ k b h' tk' e F' N') fun _ _ x => x
theorem Subscript_N2 {prog : Program} {w : World} {A : Around} {E : Value → Shared → Prop} {s : Shared} {env : Env} {value slice : PySem.Expr} {pos : Pos} {Q : Value → Shared → Prop}
    (h : wpAny (model prog w) A (eval value env) (fun o s₁ => wpAny (model prog w) A (eval slice env) (fun i s₂ => wpAny (model prog w) A (subscriptTail (PySem.Expr.Name (PySem.Str.ofString "_") ⟨0, 0, 0, 0⟩) slice o i) Q E s₂) E s₁) E s) : wpAny (model prog w) A (eval (.Subscript value slice pos) env) Q E s :=
  Subscript_ (wpAny_mono h (fun _ _ h1 => wpAny_mono h1 (fun _ _ h2 => kba_turn (fun _ => rfl) h2) fun _ _ e => e) fun _ _ e => e)
end Mine
end
section
theorem Mine.begin_Cr : True := by
  w_top off
  k_with_none
  k_with "omega" => (first | with_reducible assumption | with_reducible exact Nat.le_trans (by assumption) (Nat.le_of_ble_eq_true rfl) | with_reducible exact Nat.le_refl _ | with_reducible exact Nat.ne_of_gt (by assumption) | with_reducible exact Nat.ne_of_lt (by assumption) | with_reducible exact Ne.symm (by assumption) | with_reducible exact Int.ofNat_lt.mpr (by assumption) | with_reducible exact Nat.lt_of_le_of_lt (Nat.le_add_right _ _) (by assumption))
  trivial
namespace Mine
theorem max0 (d : Int) : (if d > 0 then d else 0) = (d.toNat : Int) := by
  split
  · rename_i h; exact (Int.toNat_of_nonneg (Int.le_of_lt h)).symm
  · rename_i h; rw [Int.toNat_of_nonpos (Int.not_lt.mp h)]; rfl
theorem cram_eq (l : List Nat) (k : Int) (h : k < l.length) : 
   Txt.slice (S l) none (some (if (k - 3).fdiv 2 > 0 then (k - 3).fdiv 2 else 0)) ++ Str.ofString "..." ++ Txt.slice (S l) (some (l.length - (if k - 3 - (if (k - 3).fdiv 2 > 0 then (k - 3).fdiv 2 else 0) > 0 then k - 3 - (if (k - 3).fdiv 2 > 0 then (k - 3).fdiv 2 else 0) else 0))) none = S (cramL l k) := by
  have e : (if (k - 3).fdiv 2 > 0 then (k - 3).fdiv 2 else 0) = (preL k : Int) := max0 _
  rw [e]
  have e2 : (if k - 3 - (preL k : Int) > 0 then k - 3 - (preL k : Int) else 0) = (postL k : Int) := (max0 _).trans (congrArg Int.ofNat (Int.toNat_sub' _ _))
  rw [e2]
  have h1 : postL k ≤ l.length := Nat.le_trans (Nat.le_add_left _ _) (preL_le k l.length h).1
  rw [slice_to _ _ (Int.natCast_nonneg _), slice_from _ _ (Int.sub_nonneg_of_le (Int.ofNat_le.mpr h1)), str_dots, S_app, S_app]
  unfold cramL
  rw [if_pos h, Int.toNat_natCast, Int.toNat_sub]
theorem cram_gives (w : World) (mean : ExcName → Option Value) (mg mb : Str → Option Value) (l : List Nat) (t : Tok) (k : Int) (t' : Tok) (hx : l.length ≤ 1000) (hk0 : -1 ≤ k) (hk9 : k ≤ 9) :
   Gives w mean mg mb 45 [.str (S l) t, .int k t'] (fun _ => True) (RetS (S (cramL l k))) := by
  unfold Gives
  k_fill
  intro dp un gd cn cs a ccd cl outer A₀ base h₀ L m news s Q E B F X N T hk hp hd hu hret
  have hx2 : (S l).length ≤ 1000 := by rw [S_len]; exact hx
  refine wpAny_call ?_
  k_dflt ktr_enter
  k_steps
  all_goals (refine hret _ news _ _ (by k_asm) (by k_asm) (RetS.intro ?_))
  · exact cram_eq l k (by assumption)
  · unfold cramL
    rw [if_neg (by assumption)]
end Mine
end
section
theorem Mine.begin_Pl : True := by
  w_top off
  k_with_none
  k_with "omega" => (first | with_reducible assumption | with_reducible exact Nat.le_trans (by assumption) (Nat.le_of_ble_eq_true rfl) | with_reducible exact Nat.le_refl _ | with_reducible exact Nat.ne_of_gt (by assumption) | with_reducible exact Nat.ne_of_lt (by assumption) | with_reducible exact Ne.symm (by assumption) | with_reducible exact Int.ofNat_lt.mpr (by assumption) | with_reducible exact Nat.lt_of_le_of_lt (Nat.le_add_right _ _) (by assumption))
  trivial
namespace Mine
theorem rules_Pl_1 : True := by
  k_with "exec While Name cons nil" => ((k_here; (first | (refine whl_start 100 ?_) | (k_dflt (refine whl_start 100 ?_)))))
  k_with "call builtin:str.join" => ((k_here; (first | (refine join_of_split' (hl := by k_dflt (assumption)) (he := by k_dflt (assumption)) (hy := by k_dflt (first | exact str_brk | exact str_star | exact str_qm)) (hx := by k_dflt (first | exact str_brk3 | exact str_star3 | exact str_qm3)) (hz := by k_dflt (decide)) (hw := by k_dflt (first | omega | exact plain_w1 (by omega) | exact plain_w2 (by omega))) (hi := by k_dflt (assumption)) ?_) | (k_dflt (refine join_of_split' (hl := by assumption) (he := by assumption) (hy := by first | exact str_brk | exact str_star | exact str_qm) (hx := by first | exact str_brk3 | exact str_star3 | exact str_qm3) (hz := by decide) (hw := by first | omega | exact plain_w1 (by omega) | exact plain_w2 (by omega)) (hi := by assumption) ?_))); intro _ _ _))
  k_with "subscriptTail Name Slice ref ref" => ((k_here; (with_reducible show wpAny _ _ (subscriptTail _ (PySem.Expr.Slice _ none none _) (Value.ref _) (Value.ref _)) _ _ _); (first | (refine tup_from (a := 2) (F := by k_dflt (k_asm)) (N := by k_dflt (k_asm)) (ht := by k_dflt (exact News.isTup (by k_asm) (by k_mem))) (h1 := by k_dflt (decide)) (ha := by k_dflt (exact Nat.le_of_ble_eq_true rfl)) (ez := by k_dflt (exact rfl)) ?_ (hs := by k_dflt (with_unfolding_all rfl)) (hg := by k_dflt (kmk_pure)) (hsz := by k_dflt (exact Nat.le_of_ble_eq_true rfl)); k_whole) | (k_dflt (refine tup_from (a := 2) (F := by k_asm) (N := by k_asm) (ht := by exact News.isTup (by k_asm) (by k_mem)) (h1 := by decide) (ha := by exact Nat.le_of_ble_eq_true rfl) (ez := by exact rfl) ?_ (hs := by with_unfolding_all rfl) (hg := by kmk_pure) (hsz := by exact Nat.le_of_ble_eq_true rfl); k_whole))); intro _ _ _ _ l1qq; (try k_lt l1qq); (try k_sweep)))
  trivial
theorem plain_gives (w : World) (mean : ExcName → Option Value) (mg mb : Str → Option Value) (l : List Nat) (t : Tok) (hx : l.length ≤ 1000) :
   Gives w mean mg mb 90 [.str (S l) t] (fun _ => True) (RetS (S (plainL l))) := by
  unfold Gives
  k_fill
  intro dp un gd cn cs a ccd cl outer A₀ base h₀ L m news s Q E B F X N T hk hp hd hu hret
  have hx2 : (S l).length ≤ 1000 := by rw [S_len]; exact hx
  refine wpAny_call ?_
  k_dflt ktr_enter
  k_steps
  all_goals (refine hret _ news _ _ (by k_asm) (cb_drop (by k_asm) ?_) (RetS.intro rfl))
  all_goals exact fun p hp => by repeat (first | exact hp | refine List.mem_cons_of_mem _ ?_)

end Mine
end
section
theorem Mine.begin_Tk : True := by
  w_top off
  k_with_none
  k_with "omega" => (first | with_reducible assumption | with_reducible exact Nat.le_trans (by assumption) (Nat.le_of_ble_eq_true rfl) | with_reducible exact Nat.le_refl _ | with_reducible exact Nat.ne_of_gt (by assumption) | with_reducible exact Nat.ne_of_lt (by assumption) | with_reducible exact Ne.symm (by assumption) | with_reducible exact Int.ofNat_lt.mpr (by assumption) | with_reducible exact Nat.lt_of_le_of_lt (Nat.le_add_right _ _) (by assumption))
  trivial
namespace Mine
theorem rules_Tk_1 : True := by
  k_with "newList" => ((k_here; (first | (refine newList_K (F := by k_dflt (k_asm)) (N := by k_dflt (k_asm)) ?_ (hsz := by k_dflt (exact Nat.le_of_ble_eq_true rfl))) | (k_dflt (refine newList_K (F := by k_asm) (N := by k_asm) ?_ (hsz := by exact Nat.le_of_ble_eq_true rfl)))); intro _ _ _ _ l1qq; (try k_lt l1qq); (try k_sweep)))
  trivial
local macro_rules | `(tactic| k_enter) => `(tactic| (refine' code_defC ?k1 ?k2 ?k3 ?k4 ?k5 ?kA ?kF ?kK ?k6 ?k7 ?k8 ?k9 ?kB ?kD ?_ ?c2 ?c3 ?c4; (case kA => exact rfl); (case kF => exact rfl); (case kK => assumption); (case k1 => k_asm); (case k2 => k_asm); (case k3 => k_asm); (case k4 => k_asm); (case k5 => k_asm); (case k6 => k_is); (case k7 => k_is); (case k8 => ktr_room); (case k9 => exact BindsTo.of_eq rfl); (case kB => exact rfl); (case kD => decide +kernel); (case c2 => exact rfl); (case c3 => exact rfl); (case c4 => exact rfl); k_whole; intro g' L' h' tk' cells' FG' F' N' Y' B' X' T' l1; (try k_lt l1); k_cells Y'; (try simp only [List.cons_append, List.nil_append] at N'); (try dsimp only); (try k_lift B'); (try k_fold)))
theorem rules_Tk_2 : True := by
  k_with "m sub" => ((intro p hp; repeat (first | exact hp | refine List.mem_cons_of_mem _ ?_)))
  k_with "m news" => ((refine cb_drop (N := by k_asm) ?_; walk_at "m sub"))
  k_with "m lt" => (first | assumption | exact ktn_ltOf (by assumption) | (refine ktn_ltOf ?_; simp only [AllLt, and_true] at *; simp only [*]))
  k_with "compareOp In ref ref" => ((k_here; (first | (refine in_parts (hp := by k_dflt (assumption)) (hi := by k_dflt (assumption)) (N := by k_dflt (walk_at "m news")) (N' := by k_dflt (k_asm)) (hE := by k_dflt (k_mem)) (hlt := by k_dflt (walk_at "m lt")) (hu := by k_dflt (ktr_units)) (hb := by k_dflt (first | exact (show _ = true from (congrArg Option.isSome (by assumption)).trans rfl) | exact (show _ = false from (congrArg Option.isSome (by assumption)).trans rfl))) ?_; k_whole) | (k_dflt (refine in_parts (hp := by assumption) (hi := by assumption) (N := by walk_at "m news") (N' := by k_asm) (hE := by k_mem) (hlt := by walk_at "m lt") (hu := by ktr_units) (hb := by first | exact (show _ = true from (congrArg Option.isSome (by assumption)).trans rfl) | exact (show _ = false from (congrArg Option.isSome (by assumption)).trans rfl)) ?_; k_whole)))))
  k_with "call builtin:list.index" => ((k_here; (first | (refine index_parts (hp := by k_dflt (assumption)) (hi := by k_dflt (assumption)) (N := by k_dflt (walk_at "m news")) (N' := by k_dflt (k_asm)) (hE := by k_dflt (k_mem)) (hlt := by k_dflt (walk_at "m lt")) (hu := by k_dflt (ktr_units)) (hj := by k_dflt (assumption)) (hs := by k_dflt (omega)) ?_; k_whole) | (k_dflt (refine index_parts (hp := by assumption) (hi := by assumption) (N := by walk_at "m news") (N' := by k_asm) (hE := by k_mem) (hlt := by walk_at "m lt") (hu := by ktr_units) (hj := by assumption) (hs := by omega) ?_; k_whole)))))
  k_with "getMethod ref" => ((k_here; (with_reducible show wpAny _ _ (getMethod (Value.ref _) (PySem.Str.ofString "index") _) _ _ _); (first | (refine index_method (hm := by k_dflt (assumption)) (N := by k_dflt (walk_at "m news")) ?_) | (k_dflt (refine index_method (hm := by assumption) (N := by walk_at "m news") ?_)))))
  k_with "m list" => ((refine News.isList (N := by k_asm) (hm := by repeat (first | assumption | exact List.Mem.head _ | refine List.mem_cons_of_mem _ ?_))))
  k_with "m small" => (first | exact Nat.le_of_ble_eq_true rfl | (simp only [List.size_toArray, sizeLine_eq, Array.length_toList]; omega) | (simp only [List.size_toArray, List.length_append, List.length_take, List.length_drop, All2.length (by assumption : All2 _ _ _), sizeLine_eq, Array.length_toList]; omega))
  k_with "subscriptTail Name Slice ref ref" => ((k_here; (with_reducible show wpAny _ _ (subscriptTail _ (PySem.Expr.Slice _ _ none _) (Value.ref _) (Value.ref _)) _ _ _); (first | (refine kms_slice_lit (F := by k_dflt (k_asm)) (N := by k_dflt (k_asm)) (hl := by k_dflt (walk_at "m list")) (pl := by k_dflt (kmk_part)) (pu := by k_dflt (kmk_part)) (e := by k_dflt (first | exact pick_to _ _ | exact pick_from1 _ _ | exact pick_from _ _)) ?_ (hs := by k_dflt (with_unfolding_all rfl)) (ht := by k_dflt (kmk_pure)) (hz := by k_dflt (walk_at "m small")); k_whole) | (k_dflt (refine kms_slice_lit (F := by k_asm) (N := by k_asm) (hl := by walk_at "m list") (pl := by kmk_part) (pu := by kmk_part) (e := by first | exact pick_to _ _ | exact pick_from1 _ _ | exact pick_from _ _) ?_ (hs := by with_unfolding_all rfl) (ht := by kmk_pure) (hz := by walk_at "m small"); k_whole))); intro _ _ _ _ l1qq; (try k_lt l1qq); (try k_sweep)))
  k_with "binaryOp Add ref ref" => ((k_here; (with_reducible show wpAny _ _ (binaryOp _ (Value.ref _) (Value.ref _)) _ _ _); (first | (refine kmk_add_lit (F := by k_dflt (k_asm)) (N := by k_dflt (k_asm)) (ha := by k_dflt (walk_at "m list")) (hb := by k_dflt (walk_at "m list")) (e := by k_dflt (exact add_e _ _)) ?_ (hz := by k_dflt (walk_at "m small"))) | (k_dflt (refine kmk_add_lit (F := by k_asm) (N := by k_asm) (ha := by walk_at "m list") (hb := by walk_at "m list") (e := by exact add_e _ _) ?_ (hz := by walk_at "m small")))); intro _ _ _ _ l1qq; (try k_lt l1qq); (try k_sweep)))
  k_with "call builtin:len" => ((k_here; (with_reducible show wpAny _ _ (call (Value.builtin "len") [Value.ref _]) _ _ _); (first | (refine len_lst (hl := by k_dflt (walk_at "m list")) (e := by k_dflt (assumption)) (hn := by k_dflt (omega)) ?_) | (k_dflt (refine len_lst (hl := by walk_at "m list") (e := by assumption) (hn := by omega) ?_))); intro _ _))
  k_with "CompSrcT" => ((refine Hold.of ?_))
  k_with "m place" => (first | exact Int.zero_add _ | exact (rfl : (0 : Int) = ((0 : Nat) : Int)) | exact (rfl : (1 : Int) = ((1 : Nat) : Int)))
  k_with "subscriptTail Name Name str int" => ((k_here; (first | (refine item_S (hk := by k_dflt (walk_at "m place")) (hc := by k_dflt (assumption)) (hl := by k_dflt (first | assumption | omega)) ?_ (hs := by k_dflt (with_unfolding_all rfl)) (hg := by k_dflt (kmk_pure))) | (k_dflt (refine item_S (hk := by walk_at "m place") (hc := by assumption) (hl := by first | assumption | omega) ?_ (hs := by with_unfolding_all rfl) (hg := by kmk_pure)))); intro _ _))
  k_with "m item" => ((k_here; (with_reducible show wpAny _ _ (subscriptTail _ _ (Value.ref _) (Value.int _ _)) _ _ _); (first | (refine item_L (hl := by k_dflt (walk_at "m list")) (hk := by k_dflt (walk_at "m place")) (hx := by k_dflt (first | assumption | exact rfl)) (hz := by k_dflt (first | exact Nat.le_of_ble_eq_true rfl | omega)) ?_ (hs := by k_dflt (with_unfolding_all rfl)) (hg := by k_dflt (kmk_pure))) | (k_dflt (refine item_L (hl := by walk_at "m list") (hk := by walk_at "m place") (hx := by first | assumption | exact rfl) (hz := by first | exact Nat.le_of_ble_eq_true rfl | omega) ?_ (hs := by with_unfolding_all rfl) (hg := by kmk_pure))))))
  k_with "subscriptTail Name Name ref int" => (walk_at "m item")
  k_with "subscriptTail Subscript Constant ref int" => (walk_at "m item")
  k_with "compareOp In str str" => ((k_here; (first | (refine in_S ?_) | (k_dflt (refine in_S ?_)))))
  k_with "m mem" => (repeat (first | assumption | exact List.Mem.head _ | refine List.mem_cons_of_mem _ ?_))
  k_with "compareOp Eq ref ref" => ((k_here; (first | (refine eq_nil (N := by k_dflt (k_asm)) (hD := by k_dflt (walk_at "m mem")) (hE := by k_dflt (walk_at "m mem")) (hu := by k_dflt (ktr_units)) ?_) | (k_dflt (refine eq_nil (N := by k_asm) (hD := by walk_at "m mem") (hE := by walk_at "m mem") (hu := by ktr_units) ?_)))))
  k_with "compareOp Eq bool bool" => ((k_here; (first | (refine PyProof.Rows.eq_bool ?_) | (k_dflt (refine PyProof.Rows.eq_bool ?_)))))
  k_with "subscriptTail Name Constant ref int" => (walk_at "m item")
  k_with "execs cons" => ((k_fold))
  trivial
theorem tk_row {α : Type} {l : List α} {j n : Nat} (h : l.length = n) (hj : j < n) : (l.take j ++ l.drop (j + 1)).length = n - 1 := by
  rw [List.length_append, List.length_take, List.length_drop, h, Nat.min_eq_left (Nat.le_of_lt hj), Nat.add_comm j 1, ← Nat.sub_sub, Nat.add_sub_of_le (Nat.le_sub_one_of_lt hj)]
theorem tk_eh {x : List Nat} {r j : Nat} (h : ¬ ((x.length : Int) < (r : Int))) : List.take ((j : Int)).toNat x ++ List.drop ((x.length : Int) - (r : Int) + (j : Int)).toNat x = x.take j ++ x.drop (x.length - r + j) := by
  rw [← Int.ofNat_sub (Int.ofNat_le.mp (Int.not_lt.mp h))]
  rfl
theorem tk_ge {n r j : Nat} (h : ¬ ((n : Int) < (r : Int))) : 0 ≤ (n : Int) - (r : Int) + (j : Int) := by
  rw [← Int.ofNat_sub (Int.ofNat_le.mp (Int.not_lt.mp h))]
  exact Int.natCast_nonneg (n - r + j)
theorem small_len {n : Nat} (h : n ≤ 100000) : Builtin.Range.small 0 (n : Int) 1 = true := small_one (by decide) (by decide) (by omega) (by omega)
theorem tk_pred {n : Nat} (h : n ≤ 1000) : n - 1 ≤ 1000 := Nat.le_trans (Nat.sub_le _ _) h
theorem takes_gives (w : World) (mean : ExcName → Option Value) (mg mb : Str → Option Value) (pa : Addr) (ps : List PtD) (x : List Nat) (t : Tok) (hx : x.length ≤ 1000) (hps : ps.length ≤ 1000) (hone : ∀ i j : Nat, ps[i]? = some none → ps[j]? = some none → i = j) :
   Gives w mean mg mb 102 [.ref pa, .str (S x) t] (fun news => PartsAt news pa ps) (fun news news' r => news' = news ∧ r = .bool (takesL ps x)) := by
  unfold Gives
  k_fill
  intro dp un gd cn cs a ccd cl outer A₀ base h₀ L m news s Q E B F X N T hk hp hd hu hret
  have hx2 : (S x).length ≤ 1000 := by rw [S_len]; exact hx
  obtain ⟨its, n0, hin, hits⟩ := hp
  have hlen := hits.length
  refine wpAny_call ?_
  rcases hst : starOf ps with _ | j
  · have htk : takesL ps x = rowOk ps x := by
      unfold takesL
      rw [hst]
    have hsome := starOf_none hst
    have hzz : True := trivial
    k_dflt k_enter
    k_steps
    · unfold Hold
      (rename ((S x).length : Int) = _ => hle)
      rw [S_len x] at hle
      have hl2 : ps.length = x.length := (Int.ofNat.inj hle).symm
      have hheldl : x.length ≤ 100000 := Nat.le_trans hx (by decide)
      refine LCt.CompSrcT.range (n := ps.length) rfl (by k_asm) (by k_asm) (by assumption) (small_len (Nat.le_trans hps (by decide))) (rangeSize_nat _ _) (by rw [PySem.sizeLine_eq]; exact Nat.le_trans hps (by decide)) ?_
      intro g9
      refine compT_inv (fun i ys => ys.isEmpty = rowUp ps x i) rfl ?_ ?_
      · intro i v I oI C oC D m₂ ys h tk E' hin' hv hinv hC hx' F9 N9 off ne
        obtain ⟨t9, rfl⟩ := hv
        obtain ⟨c, hc⟩ : ∃ c, x[i]? = some c := ⟨x[i]'(by omega), List.getElem?_eq_getElem (by omega)⟩
        obtain ⟨q, hq⟩ : ∃ q, ps[i]? = some q := ⟨ps[i]'(by omega), List.getElem?_eq_getElem (by omega)⟩
        obtain ⟨b, y, rfl⟩ := hsome i q hq
        obtain ⟨v, hzv, hpv⟩ := hits.get i hq
        obtain ⟨d, td, rfl, hdm⟩ := hpv
        refine turn_via (fun bb => bb = cellL c (some (b, y))) F9 N9 ?_ ?_
        · k_steps
          all_goals exact TurnEnd.of (by k_asm) (by k_asm) rfl
        · rintro bb h8 tk8 rfl F8 N8
          have hinv2 : (rowUp ps x (i + 1)) = (rowUp ps x i && !cellL c (some (b, y))) := rowUp_succ hq hc
          cases hcl : cellL c (some (b, y)) with
          | true =>
            simp only [if_true]
            refine turn_via (fun _ => True) F8 N8 ?_ ?_
            · k_steps
              all_goals exact TurnEnd.of (by k_asm) (by k_asm) trivial
            · rintro yv h7 tk7 _ F7 N7
              refine ⟨h7, tk7, _, rfl, F7, N7, off, trivial, rfl, ?_⟩
              rw [hinv2, hcl]
              simp
          | false =>
            simp only [Bool.false_eq_true, if_false]
            refine ⟨h8, tk8, _, rfl, F8, N8, off, trivial, rfl, ?_⟩
            rw [hinv2, hcl]
            simpa using hinv
      · intro ys hys D h9 tk9 F9 N9 o9
        k_steps
        refine hret _ news _ _ (by k_asm) (by walk_at "m news") ⟨rfl, ?_⟩
        rw [htk, hys, rowUp_all _ _ hl2]
    · (rename ¬ ((S x).length : Int) = _ => hle)
      have hle0 := hle
      rw [S_len x] at hle
      refine hret _ news _ _ (by k_asm) (by walk_at "m news") ⟨rfl, ?_⟩
      rw [htk, rowOk_len _ _ (fun q => hle (congrArg Int.ofNat q.symm))]
      exact congrArg Value.bool (beq_false_of_ne hle0)
  · have hj : j < ps.length := by
      have := (starOf_some hst).1
      rcases Nat.lt_or_ge j ps.length with q | q
      · exact q
      · rw [List.getElem?_eq_none q] at this; cases this
    have hrow : (its.take j ++ its.drop (j + 1)).length = ps.length - 1 := tk_row hlen hj
    have hri : All2 (PartAt news) (its.take j ++ its.drop (j + 1)) (ps.take j ++ ps.drop (j + 1)) := (hits.take j).app (hits.drop (j + 1))
    have hrl : (ps.take j ++ ps.drop (j + 1)).length = ps.length - 1 := by rw [← hri.length, hrow]
    have hsome : ∀ (i : Nat) (q : PtD), (ps.take j ++ ps.drop (j + 1))[i]? = some q → ∃ b y, q = some (b, y) := by
      intro i q hq
      rcases q with _ | ⟨b, y⟩
      · exfalso
        have h0 := (starOf_some hst).1
        by_cases hi : i < j
        · rw [List.getElem?_append_left (by simp; omega), List.getElem?_take_of_lt hi] at hq
          have := hone _ _ hq h0
          omega
        · rw [List.getElem?_append_right (by simp; omega), List.getElem?_drop] at hq
          have := hone _ _ hq h0
          simp at this
          omega
      · exact ⟨b, y, rfl⟩
    have htk : takesL ps x = if x.length < ps.length - 1 then false else rowOk (ps.take j ++ ps.drop (j + 1)) (x.take j ++ x.drop (x.length - (ps.length - 1) + j)) := by
      unfold takesL
      rw [hst]
      simp only [hrl]
    k_dflt k_enter
    k_steps
    · refine hret _ news _ _ (by k_asm) (by walk_at "m news") ⟨rfl, ?_⟩
      rw [htk, if_pos (by rw [S_len] at *; omega)]
    · unfold Hold
      (rename _ = Data.cell (some (Value.str (Txt.slice _ _ _ ++ Txt.slice _ _ _) _)) => dh)
      (rename ¬ ((S x).length : Int) < _ => hge)
      (rename ((Txt.slice _ _ _ ++ Txt.slice _ _ _).length : Int) = _ => hle)
      rw [S_len x] at hge dh hle
      rw [slice_to x (j : Int) (Int.natCast_nonneg _), slice_from x ((x.length : Int) - ((ps.length - 1 : Nat) : Int) + (j : Int)) (tk_ge hge), S_app] at dh hle
      rw [S_len] at hle
      rw [tk_eh hge] at dh hle
      rw [if_neg (fun q => hge (Int.ofNat_lt.mpr q))] at htk
      generalize hheld : x.take j ++ x.drop (x.length - (ps.length - 1) + j) = held at *
      generalize hrw : ps.take j ++ ps.drop (j + 1) = row at *
      generalize hzz : its.take j ++ its.drop (j + 1) = zs at *
      have hle' : held.length = ps.length - 1 := Int.ofNat.inj hle
      have hl2 : row.length = held.length := hrl.trans hle'.symm
      have hpl := tk_pred hps
      have hheldl : held.length ≤ 100000 := Nat.le_trans (Nat.le_of_eq hle') (Nat.le_trans hpl (by decide))
      refine LCt.CompSrcT.range (n := ps.length - 1) rfl (by k_asm) (by k_asm) (by assumption) (small_len (Nat.le_trans hpl (by decide))) (rangeSize_nat _ _) (by rw [PySem.sizeLine_eq]; exact Nat.le_trans hpl (by decide)) ?_
      intro g9
      refine compT_inv (fun i ys => ys.isEmpty = rowUp row held i) rfl ?_ ?_
      · intro i v I oI C oC D m₂ ys h tk E' hin' hv hinv hC hx' F9 N9 off ne
        obtain ⟨t9, rfl⟩ := hv
        obtain ⟨c, hc⟩ : ∃ c, held[i]? = some c := ⟨held[i]'(by omega), List.getElem?_eq_getElem (by omega)⟩
        obtain ⟨q, hq⟩ : ∃ q, row[i]? = some q := ⟨row[i]'(by omega), List.getElem?_eq_getElem (by omega)⟩
        obtain ⟨b, y, rfl⟩ := hsome i q hq
        obtain ⟨v, hzv, hpv⟩ := hri.get i hq
        obtain ⟨d, td, rfl, hdm⟩ := hpv
        refine turn_via (fun bb => bb = cellL c (some (b, y))) F9 N9 ?_ ?_
        · k_steps
          all_goals exact TurnEnd.of (by k_asm) (by k_asm) rfl
        · rintro bb h8 tk8 rfl F8 N8
          have hinv2 : (rowUp row held (i + 1)) = (rowUp row held i && !cellL c (some (b, y))) := rowUp_succ hq hc
          cases hcl : cellL c (some (b, y)) with
          | true =>
            simp only [if_true]
            refine turn_via (fun _ => True) F8 N8 ?_ ?_
            · k_steps
              all_goals exact TurnEnd.of (by k_asm) (by k_asm) trivial
            · rintro yv h7 tk7 _ F7 N7
              refine ⟨h7, tk7, _, rfl, F7, N7, off, trivial, rfl, ?_⟩
              rw [hinv2, hcl]
              simp
          | false =>
            simp only [Bool.false_eq_true, if_false]
            refine ⟨h8, tk8, _, rfl, F8, N8, off, trivial, rfl, ?_⟩
            rw [hinv2, hcl]
            simpa using hinv
      · intro ys hys D h9 tk9 F9 N9 o9
        k_steps
        refine hret _ news _ _ (by k_asm) (by walk_at "m news") ⟨rfl, ?_⟩
        rw [htk, hys, ← hrl, rowUp_all _ _ hl2]
    · (rename ¬ ((S x).length : Int) < _ => hge)
      (rename ¬ ((Txt.slice _ _ _ ++ Txt.slice _ _ _).length : Int) = _ => hle)
      have hle0 := hle
      rw [S_len x] at hge hle
      rw [slice_to x (j : Int) (Int.natCast_nonneg _), slice_from x ((x.length : Int) - ((ps.length - 1 : Nat) : Int) + (j : Int)) (tk_ge hge), S_app] at hle
      rw [S_len] at hle
      rw [tk_eh hge] at hle
      refine hret _ news _ _ (by k_asm) (by walk_at "m news") ⟨rfl, ?_⟩
      have hne : (ps.take j ++ ps.drop (j + 1)).length ≠ (x.take j ++ x.drop (x.length - (ps.length - 1) + j)).length := by
        rw [hrl]
        intro q
        exact hle (congrArg Int.ofNat q.symm)
      rw [htk, if_neg (fun q => hge (Int.ofNat_lt.mpr q)), rowOk_len _ _ hne]
      exact congrArg Value.bool (beq_false_of_ne hle0)

end Mine
end
section
theorem Mine.begin_Br0 : True := by
  w_top off
  k_with_none
  k_with "omega" => (first | with_reducible assumption | with_reducible exact Nat.le_trans (by assumption) (Nat.le_of_ble_eq_true rfl) | with_reducible exact Nat.le_refl _ | with_reducible exact Nat.ne_of_gt (by assumption) | with_reducible exact Nat.ne_of_lt (by assumption) | with_reducible exact Ne.symm (by assumption) | with_reducible exact Int.ofNat_lt.mpr (by assumption) | with_reducible exact Nat.lt_of_le_of_lt (Nat.le_add_right _ _) (by assumption))
  trivial
namespace Mine
noncomputable def fnAt (K : Frag) (a : Addr) : FuncData := match K.lookup a with
  | some ⟨_, _, .func fd, _⟩ => fd
  | _ => default
noncomputable def bodyAt (K : Frag) (a : Addr) : List Stmt := match (fnAt K a).body with
  | .stmts b => b
  | _ => []
noncomputable def nth : Nat → List Stmt → Stmt
  | 0, s :: _ => s
  | n + 1, _ :: r => nth n r
  | _, [] => .Pass default
noncomputable def thn : Stmt → List Stmt
  | .If _ b _ _ => b
  | .While _ b _ _ => b
  | .For _ _ b _ _ => b
  | _ => []
noncomputable def els : Stmt → List Stmt
  | .If _ _ e _ => e
  | _ => []
/-- what follows when the set's end is found -/
noncomputable def setStmts (K : Frag) : List Stmt := els (nth 4 (thn (nth 0 (els (nth 0 (els (nth 2 (thn (nth 3 (bodyAt K 76))))))))))
noncomputable def subStmt (K : Frag) : Stmt := nth 2 (setStmts K)
noncomputable def dashStmt (K : Frag) : Stmt := nth 1 (setStmts K)
end Mine
end
section
theorem Mine.begin_Tr : True := by
  w_top off
  k_with_none
  k_with "omega" => (first | with_reducible assumption | with_reducible exact Nat.le_trans (by assumption) (Nat.le_of_ble_eq_true rfl) | with_reducible exact Nat.le_refl _ | with_reducible exact Nat.ne_of_gt (by assumption) | with_reducible exact Nat.ne_of_lt (by assumption) | with_reducible exact Ne.symm (by assumption) | with_reducible exact Int.ofNat_lt.mpr (by assumption) | with_reducible exact Nat.lt_of_le_of_lt (Nat.le_add_right _ _) (by assumption))
  trivial
namespace Mine
noncomputable def specials : List Nat := [40, 41, 91, 93, 123, 125, 63, 42, 43, 45, 124, 94, 36, 92, 46, 38, 126, 35, 32, 9, 10, 13, 11, 12]
theorem specials_lt : ∀ c ∈ specials, c < 128 := by decide
noncomputable def esc (c : Nat) : List Nat := if c ∈ specials then [92, c] else [c]
noncomputable def entryTo (e : DictEntry) : Option (Nat × List Nat) := match e with
  | ⟨h, .int k _, .str v _⟩ => if h = hashInt k ∧ 0 ≤ k then some (k.toNat, v.cps.toList) else none
  | _ => none
theorem map59 (w : World) : ∃ es ep, List.lookup 59 (hd.heap_39 w.params) = some { cls := .type "dict", data := .dict es ep } ∧ es.toList.map entryTo = specials.map (fun c => some (c, [92, c])) := ⟨_, _, rfl, by decide +kernel⟩
theorem entry_of {es : Array DictEntry} (h : es.toList.map entryTo = specials.map (fun c => some (c, [92, c]))) : ∀ e ∈ es, ∃ c t u, c ∈ specials ∧ e = ⟨hashInt (c : Int), .int (c : Int) t, .str (S [92, c]) u⟩ := by
  intro e he
  have : entryTo e ∈ specials.map (fun c => some (c, [92, c])) := by rw [← h]; exact List.mem_map_of_mem (by simpa using he)
  obtain ⟨c, hc, q⟩ := List.mem_map.mp this
  unfold entryTo at q
  split at q
  · rename_i h' k t v u
    split at q
    · rename_i hk
      simp only [Option.some.injEq, Prod.mk.injEq] at q
      obtain ⟨rfl, hv⟩ := q
      refine ⟨k.toNat, t, u, hc, ?_⟩
      have e1 : (k.toNat : Int) = k := by omega
      rw [e1, hk.1]
      congr 1
      rw [← S_cps v, ← hv]
    · cases q
  · cases q
theorem esc_no {es : Array DictEntry} (h : ∀ e ∈ es, ∃ c t u, c ∈ specials ∧ e = ⟨hashInt (c : Int), .int (c : Int) t, .str (S [92, c]) u⟩) {c : Nat} (hc : c ∉ specials) : findBy Value.isInt es (c : Int) = none := by
  unfold findBy
  rw [Option.map_eq_none_iff, Array.find?_eq_none]
  intro e he
  obtain ⟨c', t, u, hs, rfl⟩ := h e he
  simp only [Value.isInt]
  intro q
  have : c' = c := by have := q; simp at this; omega
  exact hc (this ▸ hs)
theorem esc_yes {es : Array DictEntry} (m : es.toList.map entryTo = specials.map (fun c => some (c, [92, c]))) {c : Nat} (hc : c ∈ specials) : ∃ u, findBy Value.isInt es (c : Int) = some (.str (S [92, c]) u) := by
  have h := entry_of m
  have hm : some (c, [92, c]) ∈ es.toList.map entryTo := by rw [m]; exact List.mem_map_of_mem (f := fun c => some (c, [92, c])) hc
  obtain ⟨e, he, q⟩ := List.mem_map.mp hm
  have he' : e ∈ es := by simpa using he
  unfold findBy
  cases hf : es.find? (fun e => Value.isInt (c : Int) e.key) with
  | none =>
    rw [Array.find?_eq_none] at hf
    have := hf e he'
    obtain ⟨c', t, u, hs, rfl⟩ := h e he'
    exfalso
    apply this
    simp only [entryTo] at q
    split at q
    · simp only [Option.some.injEq, Prod.mk.injEq] at q
      have : c' = c := by omega
      subst this
      simp [Value.isInt]
    · cases q
  | some e2 =>
    have h2 := Array.find?_some hf
    have h3 := Array.mem_of_find?_eq_some hf
    obtain ⟨c', t, u, hs, rfl⟩ := h e2 h3
    have : c' = c := by simp [Value.isInt] at h2; omega
    subst this
    exact ⟨u, rfl⟩
section
variable {prog : Program} {w : World} {A : Around} {E : Value → Shared → Prop} {s : Shared}
theorem mapOf59 {es : Array DictEntry} {ep : Nat} {h : Heap} (ho : h.get? 59 = some { cls := .type "dict", data := .dict es ep }) (m : es.toList.map entryTo = specials.map (fun c => some (c, [92, c]))) : Heap.MapOf (knd := intKind prog w) h 59 (findBy Value.isInt es) := by
  refine ⟨_, es, ep, ho, ⟨rfl, rfl, rfl⟩, rfl, ?_, fun _ => rfl⟩
  intro e he
  obtain ⟨c, t, u, _, rfl⟩ := entry_of m e he
  exact ⟨(c : Int), by simp [intKind, Value.isInt], rfl⟩
theorem isExc_look {e : Addr} {h : Heap} : True := trivial
open Builtin Builtin.Str in
theorem look59 {es : Array DictEntry} {ep : Nat} {c : Nat} {Q : Mapped → Shared → Prop} (ho : s.heap.get? 59 = some { cls := .type "dict", data := .dict es ep }) (m : es.toList.map entryTo = specials.map (fun c => some (c, [92, c]))) (hh : A.handled = none)
    (h : ∀ h' k, (∀ b o, s.heap.get? b = some o → h'.get? b = some o) → Q (if c ∈ specials then .text (S [92, c]) else .keep) { s with heap := h', toks := k }) : wpAny (model prog w) A (tableLookup (.ref 59) c) Q E s := by
  unfold tableLookup
  by_cases hc : c ∈ specials
  · obtain ⟨u, hu⟩ := esc_yes m hc
    rw [if_pos hc] at h
    refine wpAny_bind (wpAny_attempt (wpAny_bind (wpAny_mkInt (wpAny_getItem_of (knd := intKind prog w) (k := (c : Int)) (intKind_is _ _ _ _) (mapOf59 (by exact ho) m) hu ?_))))
    dsimp only
    wp_walk
    exact h _ _ (fun _ _ e => e)
  · rw [if_neg hc] at h
    refine wpAny_bind (wpAny_attempt (wpAny_bind (wpAny_mkInt (wpAny_getItem_missing_of (knd := intKind prog w) (k := (c : Int)) (intKind_is _ _ _ _) rfl hh (mapOf59 (by exact ho) m) (esc_no (entry_of m) hc) ?_))))
    intro h' e hx
    dsimp only
    obtain ⟨ob, t, he, hcl, hdat⟩ := hx.there
    have hT : Shared.TypeIs { s with heap := h', toks := s.toks + 1 + 1 } (.ref e) "KeyError" := ⟨ob, he, hcl⟩
    have hsub : isSubtype (.type "KeyError") (.type "LookupError") = pure true := by rw [isSubtype_type]; kernel_rfl
    wp_walk
    exact h _ _ hx.keeps
open Builtin Builtin.Str in
theorem S_last (c : Nat) (q) : (S [c]).cps[(S [c]).cps.size - 1 - 0]'q = c := rfl
theorem c_last (c : Nat) (q) : (#[c] : Array Nat)[(#[c] : Array Nat).size - 1 - 0]'q = c := rfl
theorem meets_translate (c : Nat) (t : Tok) (es : Array DictEntry) (ep : Nat) (m : es.toList.map entryTo = specials.map (fun c => some (c, [92, c]))) :
    Meets (Builtin.«str.translate» ⟨[.str (S [c]) t, .ref 59], []⟩)
      (fun A R s => A.handled = none ∧ s.heap.get? 59 = some { cls := .type "dict", data := .dict es ep } ∧ ∀ h' k t, (∀ b o, s.heap.get? b = some o → h'.get? b = some o) → R (.ok (.ret (.str (S (esc c)) t))) { s with heap := h', toks := k }) := by
  rintro prog w A R s ⟨hh, ho, h⟩
  have hall : ((S [c]).cps.all fun x => decide (x < 128)) = decide (c < 128) := by simp [S]
  wp_walk
  generalize hb : ((S [c]).cps.all fun x => decide (x < 128)) = b0
  rw [hall] at hb
  dsimp only [S_last, c_last]
  have hh1 : A.in1.handled = none := hh
  by_cases hlt : c < 128
  · rw [decide_eq_true hlt] at hb
    subst hb
    wp_walk using (look59 ho m hh1)
    intro h1 k1 hk1
    by_cases hc : c ∈ specials
    · rw [if_pos hc]
      have he : esc c = [92, c] := if_pos hc
      rw [he] at h
      have hl : ((S [92, c]).length == 1 && (S [92, c]).cps.all fun x => decide (x < 128)) = false := by rfl
      wp_walk using (look59 (hk1 _ _ ho) m hh1)
      simp only [hl]
      wp_walk using (look59 (hk1 _ _ ho) m hh1)
      intro h2 k2 hk2
      rw [if_pos hc]
      wp_walk
      exact h h2 _ _ fun b o e => hk2 _ _ (hk1 _ _ e)
    · rw [if_neg hc]
      have he : esc c = [c] := if_neg hc
      rw [he] at h
      wp_walk
      exact h h1 _ _ hk1
  · rw [decide_eq_false hlt] at hb
    subst hb
    wp_walk using (look59 ho m hh1)
    intro h1 k1 hk1
    have hc : c ∉ specials := fun q => hlt (specials_lt c q)
    rw [if_neg hc]
    have he : esc c = [c] := if_neg hc
    rw [he] at h
    wp_walk
    exact h h1 _ _ hk1
theorem call_translate {h₀ : Heap} {L : Addr} {m' : Str → Option Value} {news : List (Addr × Obj)} {c : Nat} {t : Tok} {Q : Value → Shared → Prop} (F : Fr h₀ L s.heap m') (N : News h₀ L s.heap news) (X : Frag.In (hd.heap_39 w.params) h₀) (hh : A.handled = none)
    (h : ∀ h' k t, Fr h₀ L h' m' → News h₀ L h' news → Q (.str (S (esc c)) t) { s with heap := h', toks := k }) : wpAny (model prog w) A (call (.builtin "str.translate") [.str (S [c]) t, .ref 59]) Q E s := by
  obtain ⟨es, ep, ho, m⟩ := map59 w
  have ho' := F.keep _ _ (X _ _ ho)
  exact call_meets PySem.F.slot_str_translate (typeIs_str s _ t) PySem.F.entry_str_translate (PySem.F.args_str_translate_2 _ _) (meets_translate c t es ep m) ⟨hh, ho', fun h' k t hk => h h' k t (F.keeps hk) (N.grown hk)⟩
end
end Mine
namespace Mine
theorem getMethod_translate {M : Model} {A : Around} {E : Value → Shared → Prop} {s : Shared} {x : Str} {t : Tok} {pl : Sem Bool} {Q : Value × List Value → Shared → Prop} (h : Q (.builtin "str.translate", [.str x t]) s) : wpAny M A (getMethod (.str x t) "translate" pl) Q E s := by
  exact getMethod_builtin (T := "str") (typeIs_str s x t) PySem.F.plainAttrs_str PySem.F.slot_str_translate PySem.F.type_str_translate (by intro a e; cases e) h
end Mine
end
section
theorem Mine.begin_Pc : True := by
  w_top off
  k_with_none
  k_with "omega" => (first | with_reducible assumption | with_reducible exact Nat.le_trans (by assumption) (Nat.le_of_ble_eq_true rfl) | with_reducible exact Nat.le_refl _ | with_reducible exact Nat.ne_of_gt (by assumption) | with_reducible exact Nat.ne_of_lt (by assumption) | with_reducible exact Ne.symm (by assumption) | with_reducible exact Int.ofNat_lt.mpr (by assumption) | with_reducible exact Nat.lt_of_le_of_lt (Nat.le_add_right _ _) (by assumption))
  trivial
namespace Mine
/-- a piece of a pattern -/
inductive Pc where
  | lit (c : Nat)
  | brk (c : Nat)
  | any
  | star
  | bar (c : Nat)
  | dot (c : Nat)
namespace Pc
noncomputable def ok : Pc → Prop
  | lit c => c ≠ 91 ∧ c ≠ 42 ∧ c ≠ 63
  | brk c => c = 91 ∨ c = 42 ∨ c = 63
  | _ => True
noncomputable def isStar : Pc → Bool
  | star => true
  | _ => false
noncomputable def text : Pc → List Nat
  | lit c => [c]
  | brk c => [91, c, 93]
  | any => [63]
  | star => [42]
  | bar c => [91, 33, c, 93]
  | dot c => if c = 93 then [91, 93, 46, 93] else [91, 46, c, 93]
/-- a sign within a set, as the regular expression says it -/
noncomputable def inSet (c : Nat) : List Nat := if c = 92 ∨ c = 45 ∨ c = 38 ∨ c = 126 ∨ c = 124 then [92, c] else [c]
noncomputable def tr : Pc → List Nat
  | lit c => esc c
  | brk c => if c = 91 then [91, 92, 91, 93] else [91, c, 93]
  | any => [46]
  | star => [46, 42]
  | bar c => [91, 94] ++ inSet c ++ [93]
  | dot c => if c = 93 then [91, 93, 46, 93] else [91, 46] ++ inSet c ++ [93]
noncomputable def part : Pc → PtD
  | lit c => some (false, [c])
  | brk c => some (false, [c])
  | any => some (true, [])
  | star => none
  | bar c => some (true, [c])
  | dot c => some (false, if c = 93 then [93, 46] else [46, c])
end Pc
noncomputable def textOf (ps : List Pc) : List Nat := ps.flatMap Pc.text
noncomputable def trOf (ps : List Pc) : List Nat := ps.flatMap Pc.tr
noncomputable def partsOf (ps : List Pc) : List PtD := ps.map Pc.part
/-- an item of _translate's result -/
noncomputable def ResAt (st : Addr) (v : Value) (p : Pc) : Prop := match p with
  | .star => v = .ref st
  | p => ∃ t, v = .str (S p.tr) t
theorem text_pos (p : Pc) : 1 ≤ p.text.length := by cases p <;> simp [Pc.text]; split <;> simp
theorem text_le (p : Pc) : p.text.length ≤ 4 := by cases p <;> simp [Pc.text]; split <;> simp
theorem get_pre (pre x post : List Nat) (k : Nat) (hk : k < x.length) : (pre ++ x ++ post)[pre.length + k]? = x[k]? := by
  rw [List.append_assoc, List.getElem?_append_right (by omega), Nat.add_sub_cancel_left, List.getElem?_append_left hk]
theorem res_str {st : Addr} {v : Value} {p : Pc} (h : ResAt st v p) (hs : p.isStar = false) : ∃ t, v = .str (S p.tr) t := by cases p <;> first | exact h | cases hs
end Mine
end
section
theorem Mine.begin_Re : True := by
  w_top off
  k_with_none
  k_with "omega" => (first | with_reducible assumption | with_reducible exact Nat.le_trans (by assumption) (Nat.le_of_ble_eq_true rfl) | with_reducible exact Nat.le_refl _ | with_reducible exact Nat.ne_of_gt (by assumption) | with_reducible exact Nat.ne_of_lt (by assumption) | with_reducible exact Ne.symm (by assumption) | with_reducible exact Int.ofNat_lt.mpr (by assumption) | with_reducible exact Nat.lt_of_le_of_lt (Nat.le_add_right _ _) (by assumption))
  trivial
namespace Mine
open PySem.Builtin.Re
noncomputable def reCode : Array Nat := #[14, 14, 4, 1, 1, 9, 0, 64, 0, 1342177280, 0, 0, 0, 0, 0, 17, 0, 13, 11, 9, 0, 64, 0, 1342177280, 0, 0, 0, 0, 0, 17, 1, 1]
noncomputable def driveN : Nat → Sre.M → Sre.M
  | 0, m => m
  | n + 1, m =>
    let m := m.runFor reTurnSteps
    if m.outcome.isSome then m else driveN n m
noncomputable def isFailed : Option Sre.Outcome → Bool
  | some .failed => true
  | _ => false
noncomputable def isMatched : Option Sre.Outcome → Bool
  | some .matched => true
  | _ => false
noncomputable def failsAt (l : List Nat) (st : Nat) : Bool := isFailed (driveN 30 (Sre.forSearch reCode l.toArray 1 st l.length false)).outcome
noncomputable def hitAt (l : List Nat) (st i : Nat) : Bool :=
  let m := driveN 30 (Sre.forSearch reCode l.toArray 1 st l.length false)
  isMatched m.outcome && m.start == i && m.handed == i + 1 && decide (m.lastmark = 1) && decide (m.lastindex = 1) && m.marks.getD 0 none == some i && m.marks.getD 1 none == some (i + 1)
noncomputable def amp (c : Nat) : Bool := c == 38 || c == 126 || c == 124
theorem f1 : failsAt [91] 0 = true := by decide +kernel
theorem f2 : failsAt [42] 0 = true := by decide +kernel
theorem f3 : failsAt [63] 0 = true := by decide +kernel
theorem f4 : failsAt [93, 46] 0 = true := by decide +kernel
theorem f5 : failsAt [33, 92, 92] 0 = true := by decide +kernel
theorem f6 : failsAt [46, 92, 92] 0 = true := by decide +kernel
theorem f7 : failsAt [33, 92, 45] 0 = true := by decide +kernel
theorem f8 : failsAt [46, 92, 45] 0 = true := by decide +kernel
theorem g1 : ([33, 46].all fun a => [38, 126, 124].all fun c => hitAt [a, c] 0 1 && failsAt [a, c] 2) = true := by decide +kernel
theorem low : ([33, 46].all fun a => (List.range 256).all fun c => amp c || failsAt [a, c] 0) = true := by decide +kernel
theorem high33 (d : Nat) : failsAt [33, d + 256] 0 = true := by kernel_rfl
theorem high46 (d : Nat) : failsAt [46, d + 256] 0 = true := by kernel_rfl
end Mine
end
section
theorem Mine.begin_Re2 : True := by
  w_top off
  k_with_none
  k_with "omega" => (first | with_reducible assumption | with_reducible exact Nat.le_trans (by assumption) (Nat.le_of_ble_eq_true rfl) | with_reducible exact Nat.le_refl _ | with_reducible exact Nat.ne_of_gt (by assumption) | with_reducible exact Nat.ne_of_lt (by assumption) | with_reducible exact Ne.symm (by assumption) | with_reducible exact Int.ofNat_lt.mpr (by assumption) | with_reducible exact Nat.lt_of_le_of_lt (Nat.le_add_right _ _) (by assumption))
  trivial
namespace Mine
open PySem.Builtin.Re
section
variable {M : Model} {A : Around} {E : Value → Shared → Prop} {s : Shared}
theorem wp_drive : ∀ (n turns : Nat) (m : Sre.M) {Q : Sre.M → Shared → Prop}, n ≤ turns → (driveN (n + 1) m).outcome.isSome = true → Q (driveN (n + 1) m) s → wpAny M A (reDrive (turns + 1) m) Q E s := by
  intro n
  induction n with
  | zero =>
    intro turns m Q _ ho hq
    have hc : driveN 1 m = m.runFor reTurnSteps := by
      show (if (m.runFor reTurnSteps).outcome.isSome = true then m.runFor reTurnSteps else m.runFor reTurnSteps) = _
      split <;> rfl
    rw [hc] at ho hq
    unfold reDrive
    simp only [ho, if_true]
    exact wpAny_pure hq
  | succ n ih =>
    intro turns m Q hn ho hq
    have hc : driveN (n + 2) m = if (m.runFor reTurnSteps).outcome.isSome = true then m.runFor reTurnSteps else driveN (n + 1) (m.runFor reTurnSteps) := rfl
    rw [hc] at ho hq
    unfold reDrive
    by_cases h : (m.runFor reTurnSteps).outcome.isSome = true
    · rw [if_pos h] at ho hq
      simp only [h, if_true]
      exact wpAny_pure hq
    · rw [if_neg h] at ho hq
      simp only [h, if_false]
      refine wpAny_bind (wpAny_rule ?_)
      obtain ⟨k, rfl⟩ : ∃ k, turns = k + 1 := ⟨turns - 1, by omega⟩
      exact ih k _ (by omega) ho hq
theorem wp_says {f : Nat → PUnit → Sem (ForInStep PUnit)} (hf : ∀ i u, (∃ t, f i u = (do rule t; pure (ForInStep.yield u))) ∨ f i u = pure (ForInStep.yield u)) : ∀ (l : List Nat) {Q : PUnit → Shared → Prop} (u : PUnit), Q u s → wpAny M A (forIn l u f) Q E s
  | [], Q, u, h => wpAny_pure h
  | i :: r, Q, u, h => by
    rw [List.forIn_cons]
    rcases hf i u with ⟨t, e⟩ | e
    · rw [e]
      exact wpAny_bind (wpAny_bind (wpAny_rule (wpAny_pure (wp_says hf r u h))))
    · rw [e]
      exact wpAny_bind (wpAny_pure (wp_says hf r u h))
theorem run_end {m : Sre.M} {Q : Option Sre.M → Shared → Prop} (ho : (driveN 30 m).outcome.isSome = true) (h : wpAny M A (match (driveN 30 m).outcome with
  | some .matched => pure (some (driveN 30 m))
  | some .failed => pure none
  | some (.stuck why) => unsupported s!"_sre:{why}"
  | none => unsupported "internal:sre:no-outcome") Q E s) : wpAny M A (reRunToEnd m) Q E s := by
  unfold reRunToEnd
  refine wpAny_bind (wp_drive 29 (2 ^ 64 - 1) m (by decide) ho ?_)
  refine wpAny_bind (wp_says (fun i u => ?_) _ _ h)
  by_cases hh : (driveN (29 + 1) m).seen.has i = true
  · left
    refine ⟨Sre.names.getD i "", ?_⟩
    simp only [hh, if_true]
  · right
    simp only [hh]
    rfl
noncomputable abbrev tgt (l : List Nat) (p v : Value) : ReTarget := { pattern := p, string := v, code := reCode, text := l.toArray, kind := 0, groups := 1, pos := 0, lim := l.toArray.size }
theorem next_fail {l : List Nat} {st : Nat} {p v : Value} {Q : Option Sre.M → Shared → Prop} (hf : failsAt l st = true) (h : Q none s) : wpAny M A (reNextFound (tgt l p v) st false) Q E s := by
  unfold failsAt at hf
  unfold reNextFound
  have hl : l.toArray.size = l.length := by simp
  simp only [tgt, hl]
  cases ho : (driveN 30 (Sre.forSearch reCode l.toArray 1 st l.length false)).outcome with
  | none => rw [ho] at hf; cases hf
  | some o =>
    refine run_end (by rw [ho]; rfl) ?_
    rw [ho] at hf ⊢
    cases o with
    | matched => cases hf
    | failed => exact wpAny_pure h
    | stuck w => cases hf
theorem next_hit {l : List Nat} {st i : Nat} {p v : Value} {Q : Option Sre.M → Shared → Prop} (hf : hitAt l st i = true)
    (h : ∀ m : Sre.M, m.start = i → m.handed = i + 1 → m.lastmark = 1 → m.lastindex = 1 → m.marks.getD 0 none = some i → m.marks.getD 1 none = some (i + 1) → Q (some m) s) : wpAny M A (reNextFound (tgt l p v) st false) Q E s := by
  unfold hitAt at hf
  unfold reNextFound
  have hl : l.toArray.size = l.length := by simp
  simp only [tgt, hl]
  generalize hm : driveN 30 (Sre.forSearch reCode l.toArray 1 st l.length false) = m at hf
  simp only [Bool.and_eq_true, beq_iff_eq, decide_eq_true_eq] at hf
  obtain ⟨⟨⟨⟨⟨⟨h1, h2⟩, h3⟩, h4⟩, h5⟩, h6⟩, h7⟩ := hf
  cases ho : m.outcome with
  | none => rw [ho] at h1; cases h1
  | some o =>
    refine run_end (by rw [hm, ho]; rfl) ?_
    rw [hm, ho]
    rw [ho] at h1
    cases o with
    | matched => exact wpAny_pure (h m h2 h3 h4 h5 h6 h7)
    | failed => cases h1
    | stuck w => cases h1
end
end Mine
end
section
theorem Mine.begin_Re3 : True := by
  w_top off
  k_with_none
  k_with "omega" => (first | with_reducible assumption | with_reducible exact Nat.le_trans (by assumption) (Nat.le_of_ble_eq_true rfl) | with_reducible exact Nat.le_refl _ | with_reducible exact Nat.ne_of_gt (by assumption) | with_reducible exact Nat.ne_of_lt (by assumption) | with_reducible exact Ne.symm (by assumption) | with_reducible exact Int.ofNat_lt.mpr (by assumption) | with_reducible exact Nat.lt_of_le_of_lt (Nat.le_add_right _ _) (by assumption))
  trivial
namespace Mine
open PySem.Builtin.Re
theorem slot_sub : Slot "re.Pattern" "sub" "re.Pattern.sub" :=
  .of (owner := "re.Pattern") (n := "sub") (by rw [typeLookup_type, builtinLookup_eq_fast]; kernel_rfl) (by decide +kernel) (by decide +kernel) (by decide +kernel)
    (by first | exact .inl (by decide +kernel) | exact .inr (by decide +kernel)) (by rw [isSubtype_type]; kernel_rfl)
theorem entry_sub : entryFor table "re.Pattern.sub" = some Builtin.«re.Pattern.sub» := entryFor_of_tree (by kernel_rfl)
theorem entry_subl : entryFor table "re.Pattern.sub.loop" = some Builtin.«re.Pattern.sub.loop» := entryFor_of_tree (by kernel_rfl)
theorem args_sub (a b c : Value) : argsOk "re.Pattern.sub" ⟨[a, b, c], []⟩ := by unfold argsOk; kernel_rfl
theorem type_sub : typeOf (.builtin "re.Pattern.sub") = pure (.type "method_descriptor") := by show builtinType _ = _; rw [builtinType_eq_fast]; kernel_rfl
theorem fn_call : typeLookup (.type "function") "__call__" = pure (some (.builtin "function.__call__")) := by rw [typeLookup_type, builtinLookup_eq_fast]; kernel_rfl
theorem o50 (w : World) : ∃ v t d fl ts, List.lookup 50 (hd.heap_39 w.params) = some { cls := .type "re.Pattern", data := .fields #[.str v t, .int 32 fl, .int 1 0, .none, .none, .ref 49, .int d ts] } ∧ (d = 0) := ⟨_, _, _, _, _, rfl, rfl⟩
theorem o49 (w : World) : ∃ vs, List.lookup 49 (hd.heap_39 w.params) = some { cls := .type "tuple", data := .seq vs } ∧ (vs.map reRawOf).map (·.toNat) = reCode := ⟨_, rfl, by decide +kernel⟩
noncomputable abbrev patObj (v : Str) (t fl ts : Tok) : Obj := { cls := .type "re.Pattern", data := .fields #[.str v t, .int 32 fl, .int 1 0, .none, .none, .ref 49, .int 0 ts] }
theorem sub_str_ba : isSubtype (.type "str") (.type "bytearray") = pure false := by rw [isSubtype_type]; kernel_rfl
theorem plain_subl : plainId "re.Pattern.sub.loop" = true := by decide +kernel
noncomputable abbrev loopArgs (l : List Nat) (tl : Tok) (f D : Addr) (n done start : Nat) : Args := ⟨[.ref 50, .str (S l) tl, .ref f, rawInt 1, rawInt 0, rawInt n, rawInt done, rawInt start, .bool false, .ref D, .bool false], []⟩
section
variable {prog : Program} {w : World} {A : Around} {E : Value → Shared → Prop} {hp : Heap} {g : Array GenState} {d : Drawn} {tk : Nat} {os : OsState} {v : Str} {t fl ts tl : Tok} {vs : Array Value} {l : List Nat} {f D : Addr}
theorem sub_call {Q : Value → Shared → Prop} (h50 : hp.get? 50 = some (patObj v t fl ts)) (h49 : hp.get? 49 = some { cls := .type "tuple", data := .seq vs }) (hT : ∀ tk, Shared.TypeIs ⟨hp, g, d, tk, os⟩ (.ref f) "function")
    (hk : codeAny (model prog w) A (.builtin "re.Pattern.sub.loop" (loopArgs l tl f hp.objs.size 0 0 0)) (wants Q E) ⟨hp.push (listOf #[] 0), g, d, tk, os⟩) : wpAny (model prog w) A (call (.builtin "re.Pattern.sub") [.ref 50, .ref f, .str (S l) tl]) Q E ⟨hp, g, d, tk, os⟩ := by
  have f1 := fn_call
  have f2 := sub_str_ba
  have hT' := hT tk
  have hTp : Shared.TypeIs ⟨hp, g, d, tk, os⟩ (.ref 50) "re.Pattern" := ⟨_, h50, rfl⟩
  refine wpAny_call (codeAny_call_builtin slot_sub.plain entry_sub (slot_sub.check _ _ _ _ _ _ _ _ hTp (args_sub _ _ _) ?_))
  wp_walk
  exact ⟨plainId_quiet plain_subl _, hk⟩
theorem next_none {M : Model} {s : Shared} {T : ReTarget} {st0 st : Nat} {p v : Value} {Q : Option Sre.M → Shared → Prop} (h : Q none s) (hf : failsAt l st = true) (hT : T = tgt l p v) (hs : st0 = st) : wpAny M A (reNextFound T st0 false) Q E s := by
  subst hT
  subst hs
  exact next_fail hf h
theorem next_some {M : Model} {s : Shared} {T : ReTarget} {st0 st i : Nat} {p v : Value} {Q : Option Sre.M → Shared → Prop} (h : ∀ m : Sre.M, m.start = i → m.handed = i + 1 → m.lastmark = 1 → m.lastindex = 1 → m.marks.getD 0 none = some i → m.marks.getD 1 none = some (i + 1) → Q (some m) s)
    (hf : hitAt l st i = true) (hT : T = tgt l p v) (hs : st0 = st) : wpAny M A (reNextFound T st0 false) Q E s := by
  subst hT
  subst hs
  exact next_hit hf h
theorem slice_use {M : Model} {s : Shared} {text : Array Nat} {kind b e : Nat} {Q : Value → Shared → Prop} (l' : List Nat) (h : ∀ t' k, Q (.str (S l') t') {s with toks := k}) (hk : kind = 0) (hl : text.extract b e = l'.toArray) (hz : l'.length ≤ sizeLine) : wpAny M A (reSlice text kind b e) Q E s := by
  subst hk
  unfold reSlice
  refine wpAny_ite_true rfl ?_
  have e0 : (⟨text.extract b e⟩ : Str) = S l' := congrArg Str.mk hl
  rw [e0]
  exact wpAny_mkStr (h _ _) (by show l'.toArray.size ≤ _; simpa using hz)
theorem join_use {s : Shared} {x : Str} {t : Tok} {D : Addr} {id : String} {Q : Value → Shared → Prop} {its : Array Value} {ys : List Str} (h : ∀ t' k, Q (.str (Txt.join x ys) t') { s with toks := k }) (hid : id = "str.join") (hl : s.heap.IsList D its) (hi : StrsAre its.toList ys) (hok : (ys.map (·.length)).sum + ys.length * x.length ≤ 16777216) :
    wpAny (model prog w) A (call (.builtin id) [.str x t, .ref D]) Q E s := by
  subst hid
  exact join_list hl hi hok h
theorem S_join1 (x : Str) (l : List Nat) : Txt.join x [S l] = S l := rfl
theorem S_join2 (a b : List Nat) : Txt.join (S []) [S a, S b] = S (a ++ b) := by
  show S a ++ S [] ++ S b = _
  simp [S_app]
theorem loop_none {R : Result → Shared → Prop} {k : Nat} (hvs : (vs.map reRawOf).map (·.toNat) = reCode) (h50 : hp.get? 50 = some (patObj v t fl ts)) (h49 : hp.get? 49 = some { cls := .type "tuple", data := .seq vs })
    (hD : hp.get? D = some (listOf #[] k)) (hf : failsAt l 0 = true) (hl : 0 < l.length) (hl2 : l.length < 1000)
    (h : ∀ h' tk t', (∀ b o, b ≠ D → hp.get? b = some o → h'.get? b = some o) → R (.ok (.ret (.str (S l) t'))) ⟨h', g, d, tk, os⟩) : codeAny (model prog w) A (.builtin "re.Pattern.sub.loop" (loopArgs l tl f D 0 0 0)) R ⟨hp, g, d, tk, os⟩ := by
  refine codeAny_builtin entry_subl ?_
  rw [Around.under_plainId plain_subl _]
  wp_walk using (next_none (l := l) (st := 0) (p := .ref 50) (v := .str (S l) tl)), (slice_use l), (slice_use []), (join_use (its := #[.str (S l) _]) (ys := [S l]))
  any_goals (first | exact hf | rfl | (rw [show Array.map (fun x => x.toNat) (Array.map reRawOf ((some vs).getD #[])) = reCode from hvs]; rfl) | exact Nat.le_trans (Nat.le_of_lt hl2) (by decide) | (show l.toArray.extract 0 l.toArray.size = _; simp; done) | (show l.toArray.extract 0 0 = _; simp; done) | exact Nat.zero_le _)
  intro t1 k1
  have hsz : sizeLine = 16777216 := rfl
  wp_walk using (slice_use [])
  any_goals (first | rfl | (show l.toArray.extract 0 0 = _; simp; done) | exact Nat.zero_le _)
  intro t2 k2
  wp_walk using (join_use (its := #[.str (S l) t1]) (ys := [S l]))
  any_goals (first | rfl | exact ⟨_, Heap.get?_update_self _ hD rfl, rfl, _, rfl⟩ | exact .cons _ _ .nil | (simp [S_len]; omega; done))
  intro t3 k3
  wp_walk
  exact h _ _ _ (fun b o hb e => Heap.get?_update_of_ne _ (fun q => hb q.symm) e)
theorem loop_two {R : Result → Shared → Prop} {k n : Nat} {x y : List Nat} {t5 t6 : Tok} (hvs : (vs.map reRawOf).map (·.toNat) = reCode) (h50 : hp.get? 50 = some (patObj v t fl ts)) (h49 : hp.get? 49 = some { cls := .type "tuple", data := .seq vs })
    (hD : hp.get? D = some (listOf #[.str (S x) t5, .str (S y) t6] k)) (hf : failsAt l 2 = true) (hl : l.length = 2) (hx : x.length < 1000) (hy : y.length < 1000)
    (h : ∀ h' tk t', (∀ b o, b ≠ D → hp.get? b = some o → h'.get? b = some o) → R (.ok (.ret (.str (S (x ++ y)) t'))) ⟨h', g, d, tk, os⟩) : codeAny (model prog w) A (.builtin "re.Pattern.sub.loop" (loopArgs l tl f D n 2 2)) R ⟨hp, g, d, tk, os⟩ := by
  refine codeAny_builtin entry_subl ?_
  rw [Around.under_plainId plain_subl _]
  have hsz : sizeLine = 16777216 := rfl
  wp_walk using (next_none (l := l) (st := 2) (p := .ref 50) (v := .str (S l) tl)), (slice_use [])
  any_goals (first | exact hf | rfl | (rw [show Array.map (fun x => x.toNat) (Array.map reRawOf ((some vs).getD #[])) = reCode from hvs]; rfl) | exact Nat.le_trans (Nat.le_of_lt hl2) (by decide) | (show l.toArray.extract 0 l.toArray.size = _; simp; done) | (show l.toArray.extract 0 0 = _; simp; done) | exact Nat.zero_le _)
  intro t2 k2
  wp_walk using (join_use (its := #[.str (S x) t5, .str (S y) t6]) (ys := [S x, S y]))
  any_goals (first | rfl | exact ⟨_, hD, rfl, _, rfl⟩ | exact .cons _ _ (.cons _ _ .nil) | (simp [S_len]; omega; done))
  intro t3 k3
  wp_walk
  rw [S_join2]
  exact h _ _ _ (fun b o hb e => e)
end
end Mine
end
section
theorem Mine.begin_Re4 : True := by
  w_top off
  k_with_none
  k_with "omega" => (first | with_reducible assumption | with_reducible exact Nat.le_trans (by assumption) (Nat.le_of_ble_eq_true rfl) | with_reducible exact Nat.le_refl _ | with_reducible exact Nat.ne_of_gt (by assumption) | with_reducible exact Nat.ne_of_lt (by assumption) | with_reducible exact Ne.symm (by assumption) | with_reducible exact Int.ofNat_lt.mpr (by assumption) | with_reducible exact Nat.lt_of_le_of_lt (Nat.le_add_right _ _) (by assumption))
  trivial
namespace Mine
open PySem.Builtin.Re
noncomputable abbrev tupObj (vs : Array Value) (n : Nat) : Obj := { cls := .type "tuple", data := .seq vs n }
noncomputable abbrev matObj (l : List Nat) (tl : Tok) (a : Addr) : Obj := { cls := .type "re.Match", data := .fields #[.str (S l) tl, .ref 50, rawInt 0, rawInt (l.length : Int), rawInt 1, .ref a] }
section
variable {prog : Program} {w : World} {A : Around} {E : Value → Shared → Prop} {hp : Heap} {g : Array GenState} {d : Drawn} {tk : Nat} {os : OsState} {v : Str} {t fl ts tl : Tok} {vs : Array Value} {l : List Nat} {f D : Addr}
theorem newMatch_use {M : Model} {s : Shared} {m : Sre.M} {Q : Value → Shared → Prop} {p v : Value} {groups pos lim : Nat}
    (h : ∀ n, Q (.ref (s.heap.objs.size + 1)) {s with heap := (s.heap.push (tupObj #[rawInt 1, rawInt 2, rawInt 1, rawInt 2] n)).push { cls := .type "re.Match", data := .fields #[v, p, rawInt pos, rawInt lim, rawInt 1, .ref s.heap.objs.size] }}) (hg : groups = 1)
    (m1 : m.start = 1) (m2 : m.handed = 1 + 1) (m3 : m.lastmark = 1) (m4 : m.lastindex = 1) (m5 : m.marks.getD 0 none = some 1) (m6 : m.marks.getD 1 none = some (1 + 1)) : wpAny M A (reNewMatch p v groups pos lim m) Q E s := by
  subst hg
  obtain ⟨hp, g, d, tk, os⟩ := s
  have e : List.range 1 = [0] := rfl
  unfold reNewMatch
  simp only [e, List.flatMap_cons, List.flatMap_nil, List.any_cons, List.any_nil, m1, m2, m3, m4, m5, m6, Nat.mul_zero, Nat.zero_add]
  wp_walk
  rw [Heap.size_push]
  exact h 0
theorem loop_one {R : Result → Shared → Prop} {P : Heap → Prop} {k : Nat} {a c : Nat} {y : List Nat} (hvs : (vs.map reRawOf).map (·.toNat) = reCode) (h50 : hp.get? 50 = some (patObj v t fl ts)) (h49 : hp.get? 49 = some { cls := .type "tuple", data := .seq vs })
    (hD : hp.get? D = some (listOf #[] k)) (hf : hitAt [a, c] 0 1 = true) (hf2 : failsAt [a, c] 2 = true) (hy : y.length < 1000) (h50D : 50 ≠ D) (h49D : 49 ≠ D)
    (hc : ∀ (h' : Heap) (tk' : Nat) (b a' n k : Nat) (t5 : Tok) (Q : Value → Shared → Prop) (E : Value → Shared → Prop), (∀ b o, b ≠ D → hp.get? b = some o → h'.get? b = some o) → h'.get? D = some (listOf #[.str (S [a]) t5] k) → @LE.le Nat _ hp.objs.size b → @LE.le Nat _ hp.objs.size a' → h'.get? b = some (matObj [a, c] tl a') → h'.get? a' = some (tupObj #[rawInt 1, rawInt 2, rawInt 1, rawInt 2] n) →
      (∀ h'' tk'' t', P h'' → h''.get? D = some (listOf #[.str (S [a]) t5] k) → Q (.str (S y) t') ⟨h'', g, d, tk'', os⟩) → wpAny (model prog w) A.in1 (call (.ref f) [.ref b]) Q E ⟨h', g, d, tk', os⟩)
    (hP0 : ∀ h, P h → h.get? 50 = some (patObj v t fl ts) ∧ h.get? 49 = some { cls := .type "tuple", data := .seq vs })
    (hP : ∀ h h', (∀ b o, b ≠ D → h.get? b = some o → h'.get? b = some o) → P h → P h')
    (h : ∀ h' tk t', P h' → R (.ok (.ret (.str (S (a :: y)) t'))) ⟨h', g, d, tk, os⟩) : codeAny (model prog w) A (.builtin "re.Pattern.sub.loop" (loopArgs [a, c] tl f D 0 0 0)) R ⟨hp, g, d, tk, os⟩ := by
  refine codeAny_builtin entry_subl ?_
  rw [Around.under_plainId plain_subl _]
  have hsz : sizeLine = 16777216 := rfl
  wp_walk using (next_some (l := [a, c]) (st := 0) (i := 1) (p := .ref 50) (v := .str (S [a, c]) tl))
  any_goals (first | exact hf | rfl | (rw [show Array.map (fun x => x.toNat) (Array.map reRawOf ((some vs).getD #[])) = reCode from hvs]; rfl))
  intro m m1 m2 m3 m4 m5 m6
  obtain ⟨ms, mh, mm, ml, mi⟩ : True ∧ True ∧ True ∧ True ∧ True := ⟨⟨⟩, ⟨⟩, ⟨⟩, ⟨⟩, ⟨⟩⟩
  simp only [m1, m2]
  wp_walk using (slice_use [a])
  any_goals (first | rfl | (simp [hsz]; done))
  intro t1 k1
  wp_walk using (newMatch_use (m := m))
  any_goals (first | rfl | assumption)
  intro n
  have eD := Heap.get?_update_self (Obj.mapSeq fun x => x.push (Value.str (S [a]) t1)) hD rfl
  have keep0 : ∀ b o, b ≠ D → hp.get? b = some o → (hp.update D (Obj.mapSeq fun x => x.push (Value.str (S [a]) t1))).get? b = some o := fun b o hb e => Heap.get?_update_of_ne _ (fun q => hb q.symm) e
  have hsz1 : (hp.update D (Obj.mapSeq fun x => x.push (Value.str (S [a]) t1))).objs.size = hp.objs.size := by simp [Heap.update]
  dsimp only
  generalize (hp.update D (Obj.mapSeq fun x => x.push (Value.str (S [a]) t1))) = h1 at eD keep0 hsz1 ⊢
  refine wpAny_bind (wpAny_holding (wpAny_ite_true rfl ?_))
  refine hc _ _ _ h1.objs.size n _ t1 _ _ ?keep (Heap.get?_push_of_some _ (Heap.get?_push_of_some _ eD)) ?sb ?sa ?gb ?ga ?post
  case keep => exact fun b o hb e => Heap.get?_push_of_some _ (Heap.get?_push_of_some _ (keep0 b o hb e))
  case sb => rw [hsz1]; exact Nat.le_succ _
  case sa => rw [hsz1]; exact Nat.le_refl _
  case gb =>
    rw [← Heap.size_push]
    exact Heap.get?_push_size _ rfl
  case ga => exact Heap.get?_push_of_some _ (Heap.get?_push_size _ rfl)
  case post =>
    intro h2 tk2 t2 K eD2
    wp_walk
    have eD3 := Heap.get?_update_self (Obj.mapSeq fun x => x.push (Value.str (S y) t2)) eD2 rfl
    have keep3 : ∀ b o, b ≠ D → h2.get? b = some o → (h2.update D (Obj.mapSeq fun x => x.push (Value.str (S y) t2))).get? b = some o := fun b o hb e => Heap.get?_update_of_ne _ (fun q => hb q.symm) e
    refine ⟨plainId_quiet plain_subl _, ?_⟩
    exact loop_two (n := 1) (x := [a]) (y := y) (l := [a, c]) hvs (keep3 _ _ h50D (hP0 _ K).1) (keep3 _ _ h49D (hP0 _ K).2) eD3 hf2 rfl (by show 1 < 1000; decide) hy (fun h' tk t' K3 => h h' tk t' (hP _ _ (fun b o hb e => K3 b o hb (keep3 b o hb e)) K))
theorem sub_none {Q : Value → Shared → Prop} (hvs : (vs.map reRawOf).map (·.toNat) = reCode) (h50 : hp.get? 50 = some (patObj v t fl ts)) (h49 : hp.get? 49 = some { cls := .type "tuple", data := .seq vs }) (hT : ∀ tk, Shared.TypeIs ⟨hp, g, d, tk, os⟩ (.ref f) "function")
    (hf : failsAt l 0 = true) (hl : 0 < l.length) (hl2 : l.length < 1000)
    (h : ∀ h' tk t', (∀ b o, hp.get? b = some o → h'.get? b = some o) → Q (.str (S l) t') ⟨h', g, d, tk, os⟩) : wpAny (model prog w) A (call (.builtin "re.Pattern.sub") [.ref 50, .ref f, .str (S l) tl]) Q E ⟨hp, g, d, tk, os⟩ := by
  refine sub_call h50 h49 hT ?_
  have nD : ∀ b o, hp.get? b = some o → b ≠ hp.objs.size := fun b o e q => Nat.ne_of_lt (Heap.lt_size e) q
  have up : ∀ b o, hp.get? b = some o → (hp.push (listOf #[] 0)).get? b = some o := fun b o e => Heap.get?_push_of_some _ e
  exact loop_none hvs (up _ _ h50) (up _ _ h49) (Heap.get?_push_size _ rfl) hf hl hl2 (fun h' tk t' K => h h' tk t' fun b o e => K b o (nD b o e) (up b o e))
theorem sub_one {Q : Value → Shared → Prop} {a c : Nat} {y : List Nat} {P : Heap → Prop} (hvs : (vs.map reRawOf).map (·.toNat) = reCode) (h50 : hp.get? 50 = some (patObj v t fl ts)) (h49 : hp.get? 49 = some { cls := .type "tuple", data := .seq vs }) (hT : ∀ tk, Shared.TypeIs ⟨hp, g, d, tk, os⟩ (.ref f) "function")
    (hf : hitAt [a, c] 0 1 = true) (hf2 : failsAt [a, c] 2 = true) (hy : y.length < 1000)
    (hc : ∀ (h' : Heap) (tk' : Nat) (b a' n k D : Nat) (t5 : Tok) (Q : Value → Shared → Prop) (E : Value → Shared → Prop), (∀ b o, hp.get? b = some o → h'.get? b = some o) → @LE.le Nat _ hp.objs.size D → @LE.le Nat _ hp.objs.size b → @LE.le Nat _ hp.objs.size a' → h'.get? D = some (listOf #[.str (S [a]) t5] k) → h'.get? b = some (matObj [a, c] tl a') → h'.get? a' = some (tupObj #[rawInt 1, rawInt 2, rawInt 1, rawInt 2] n) →
      (∀ h'' tk'' t', P h'' → h''.get? D = some (listOf #[.str (S [a]) t5] k) → Q (.str (S y) t') ⟨h'', g, d, tk'', os⟩) → wpAny (model prog w) A.in1 (call (.ref f) [.ref b]) Q E ⟨h', g, d, tk', os⟩)
    (hP0 : ∀ h, P h → h.get? 50 = some (patObj v t fl ts) ∧ h.get? 49 = some { cls := .type "tuple", data := .seq vs })
    (hP : ∀ h h', (∀ b o, b ≠ hp.objs.size → h.get? b = some o → h'.get? b = some o) → P h → P h')
    (h : ∀ h' tk t', P h' → Q (.str (S (a :: y)) t') ⟨h', g, d, tk, os⟩) : wpAny (model prog w) A (call (.builtin "re.Pattern.sub") [.ref 50, .ref f, .str (S [a, c]) tl]) Q E ⟨hp, g, d, tk, os⟩ := by
  refine sub_call h50 h49 hT ?_
  have nD : ∀ b o, hp.get? b = some o → b ≠ hp.objs.size := fun b o e q => Nat.ne_of_lt (Heap.lt_size e) q
  have up : ∀ b o, hp.get? b = some o → (hp.push (listOf #[] 0)).get? b = some o := fun b o e => Heap.get?_push_of_some _ e
  have hs : @LE.le Nat _ hp.objs.size (hp.push (listOf #[] 0)).objs.size := by rw [Heap.size_push]; exact Nat.le_succ _
  exact loop_one hvs (up _ _ h50) (up _ _ h49) (Heap.get?_push_size _ rfl) hf hf2 hy (nD _ _ h50) (nD _ _ h49) (fun h' tk' b a' n k t5 Q E K hD sb sa hb ha' post => hc h' tk' b a' n k _ t5 Q E (fun b o e => K b o (nD b o e) (up b o e)) (Nat.le_refl _) (Nat.le_trans hs sb) (Nat.le_trans hs sa) hD hb ha' post) hP0 hP h
end
end Mine
end
section
theorem Mine.begin_Ap : True := by
  w_top off
  k_with_none
  k_with "omega" => (first | with_reducible assumption | with_reducible exact Nat.le_trans (by assumption) (Nat.le_of_ble_eq_true rfl) | with_reducible exact Nat.le_refl _ | with_reducible exact Nat.ne_of_gt (by assumption) | with_reducible exact Nat.ne_of_lt (by assumption) | with_reducible exact Ne.symm (by assumption) | with_reducible exact Int.ofNat_lt.mpr (by assumption) | with_reducible exact Nat.lt_of_le_of_lt (Nat.le_add_right _ _) (by assumption))
  trivial
namespace Mine
theorem md_get : Slot "method_descriptor" "__get__" "method_descriptor.__get__" :=
  .of (owner := "method_descriptor") (n := "__get__") (by rw [typeLookup_type, builtinLookup_eq_fast]; kernel_rfl) (by decide +kernel) (by decide +kernel) (by decide +kernel)
    (by first | exact .inl (by decide +kernel) | exact .inr (by decide +kernel)) (by rw [isSubtype_type]; kernel_rfl)
theorem lk_append : typeLookup (.type "list") "append" = pure (some (.builtin "list.append")) := PySem.F.slot_list_append.lookup
theorem ty_append : typeOf (.builtin "list.append") = pure (.type "method_descriptor") := PySem.F.type_list_append
theorem md_set : typeLookup (.type "method_descriptor") "__set__" = pure none := by rw [typeLookup_type, builtinLookup_eq_fast]; kernel_rfl
theorem md_del : typeLookup (.type "method_descriptor") "__delete__" = pure none := by rw [typeLookup_type, builtinLookup_eq_fast]; kernel_rfl
theorem entry_md_get : entryFor table "method_descriptor.__get__" = some Builtin.«method_descriptor.__get__» := entryFor_of_tree (by kernel_rfl)
theorem args_md_get (a b c : Value) : argsOk "method_descriptor.__get__" ⟨[a, b, c], []⟩ := by unfold argsOk; kernel_rfl
theorem owner_append : (".".intercalate ("list.append".cutAt '.').dropLast) = "list" := by
  have e0 : "list.append".cutAt '.' = ["list", "append"] := by first | rfl | decide +kernel
  rw [e0]; decide +kernel
theorem sub_list_list : isSubtype (.type "list") (.type (".".intercalate ("list.append".cutAt '.').dropLast)) = pure true := by rw [owner_append, isSubtype_type]; kernel_rfl
noncomputable abbrev bmObj (id : String) (D : Addr) : Obj := { cls := .type "builtin_function_or_method", data := .fields #[.builtin id, .ref D] }
section
variable {prog : Program} {w : World} {A : Around} {E : Value → Shared → Prop} {h : Heap} {g : Array GenState} {d : Drawn} {t : Nat} {os : OsState} {a : Addr} {o : Obj}
theorem append_get {R : Result → Shared → Prop} (hx : h.get? a = some o) (hc : o.cls = .type "list") (hq : R (.ok (.ret (.ref h.objs.size))) ⟨h.push (bmObj "list.append" a), g, d, t, os⟩) :
    codeAny (model prog w) A (.call (.builtin "method_descriptor.__get__") ⟨[.builtin "list.append", .ref a, .type "list"], []⟩) R ⟨h, g, d, t, os⟩ := by
  have hT : (⟨h, g, d, t, os⟩ : Shared).TypeIs (.ref a) "list" := ⟨_, hx, hc⟩
  have hT5 : (⟨h, g, d, t, os⟩ : Shared).TypeIs (.builtin "list.append") "method_descriptor" := ty_append
  have f8 := sub_list_list
  refine codeAny_call_builtin md_get.plain entry_md_get (md_get.check _ _ _ _ _ _ _ _ hT5 (args_md_get _ _ _) ?_)
  repeat (any_goals (first | assumption | wp_step))
theorem append_entry {tk : Tok} {Q : Fin → Shared → Prop} {xs : Array Value} {k : Nat} (hx : h.get? a = some { cls := .type "list", data := .seq xs k }) (hq : Q (.done (.ret (.ref h.objs.size))) ⟨h.push (bmObj "list.append" a), g, d, t, os⟩) :
    wpAny (model prog w) A (Builtin.«object.__getattribute__» ⟨[.ref a, .str "append" tk], []⟩) Q E ⟨h, g, d, t, os⟩ := by
  have hT : (⟨h, g, d, t, os⟩ : Shared).TypeIs (.ref a) "list" := ⟨_, hx, rfl⟩
  have hT5 : (⟨h, g, d, t, os⟩ : Shared).TypeIs (.builtin "list.append") "method_descriptor" := ty_append
  have f4 := lk_append
  have f5 := ty_append
  have f6 := md_get.lookup
  have f7 := md_set
  have f8 := md_del
  have f9 := am_list_getattr_none
  repeat (any_goals (first | assumption | wp_step))
  refine append_get hx rfl ?_
  repeat (any_goals (first | assumption | wp_step))
theorem append_call {tk : Tok} {R : Result → Shared → Prop} {xs : Array Value} {k : Nat} (hx : h.get? a = some { cls := .type "list", data := .seq xs k }) (hq : R (.ok (.ret (.ref h.objs.size))) ⟨h.push (bmObj "list.append" a), g, d, t, os⟩) :
    codeAny (model prog w) A (.call (.builtin "list.__getattribute__") ⟨[.ref a, .str "append" tk], []⟩) R ⟨h, g, d, t, os⟩ :=
  codeAny_call_builtin PySem.F.slot_list_getattribute.plain PySem.F.entry_list_ga (PySem.F.slot_list_getattribute.check _ _ _ _ _ _ _ _ (show (⟨h, g, d, t, os⟩ : Shared).TypeIs (.ref a) "list" from ⟨_, hx, rfl⟩) (PySem.F.args_list_getattribute_2 _ _) (append_entry hx hq))
theorem append_attr {expr : Bool} {Q : Value → Shared → Prop} {xs : Array Value} {k : Nat} (hx : h.get? a = some { cls := .type "list", data := .seq xs k }) (hq : Q (.ref h.objs.size) ⟨h.push (bmObj "list.append" a), g, d, t + 1, os⟩) :
    wpAny (model prog w) A (getAttr (.ref a) "append" expr) Q E ⟨h, g, d, t, os⟩ := by
  have hT : (⟨h, g, d, t + 1, os⟩ : Shared).TypeIs (.ref a) "list" := ⟨_, hx, rfl⟩
  have f2 := PySem.F.slot_list_getattribute.lookup
  have f3 := PySem.F.slot_list_getattribute.bind (.ref a)
  have f10 : ¬ ((expr && onTheHeap (Value.builtin "list.__getattribute__")) = true) := by cases expr <;> simp [onTheHeap]
  unfold getAttr getAttrBy
  repeat (any_goals (first | assumption | wp_step))
  refine append_call hx ?_
  repeat (any_goals (first | assumption | wp_step))
end
end Mine
end
section
theorem Mine.begin_Ap2 : True := by
  w_top off
  k_with_none
  k_with "omega" => (first | with_reducible assumption | with_reducible exact Nat.le_trans (by assumption) (Nat.le_of_ble_eq_true rfl) | with_reducible exact Nat.le_refl _ | with_reducible exact Nat.ne_of_gt (by assumption) | with_reducible exact Nat.ne_of_lt (by assumption) | with_reducible exact Ne.symm (by assumption) | with_reducible exact Int.ofNat_lt.mpr (by assumption) | with_reducible exact Nat.lt_of_le_of_lt (Nat.le_add_right _ _) (by assumption))
  trivial
namespace Mine
theorem sig_append0 : Manifest.signature? "list.append" = some ⟨.oneArg, "list.append", "append", .self, [⟨"object", .posOnly, true⟩]⟩ := by
  rw [PySem.signature?_of (id := "list.append") (n := ['d', 'n', 'e', 'p', 'p', 'a']) (o := ['t', 's', 'i', 'l']) (by kernel_rfl) PySem.F.owner_list]
  kernel_rfl
theorem chk_append (a b : Value) : Bind.checkArgs "list.append" { (⟨.oneArg, "list.append", "append", .self, [⟨"object", .posOnly, true⟩]⟩ : Manifest.Signature) with full := toString (Bind.lastOf "list") ++ toString "." ++ toString (Bind.lastOf "list.append") } ⟨[a, b], []⟩ = pure () := by
  kernel_rfl
theorem kind_append : builtinKind "list.append" = some .method := by kernel_rfl
theorem sub_list_module : isSubtype (.type "list") (.type "module") = pure false := by rw [isSubtype_type]; kernel_rfl
section
variable {prog : Program} {w : World} {A : Around} {E : Value → Shared → Prop} {h : Heap} {g : Array GenState} {d : Drawn} {t : Nat} {os : OsState} {a q : Addr} {o : Obj}
theorem bound_call {R : Result → Shared → Prop} {xs : Array Value} {k : Nat} {x : Value} (hq : h.get? q = some (bmObj "list.append" a)) (hx : h.get? a = some { cls := .type "list", data := .seq xs k })
    (hk : codeAny (model prog w) A (.builtin "list.append" ⟨[.ref a, x], []⟩) R ⟨h, g, d, t, os⟩) : codeAny (model prog w) A (.call (.ref q) ⟨[x], []⟩) R ⟨h, g, d, t, os⟩ := by
  have hT : (⟨h, g, d, t, os⟩ : Shared).TypeIs (.ref a) "list" := ⟨_, hx, rfl⟩
  have f1 := sub_list_module
  refine codeAny_of_tree ?_
  show wpAny _ _ (callAny (.ref q) _) _ _ _
  unfold callAny
  repeat (any_goals (first | assumption | wp_step))
  exact ⟨plainId_quiet (by decide +kernel) _, hk⟩
end
section
variable {prog : Program} {w : World} {A : Around} {E : Value → Shared → Prop} {s : Shared} {h₀ : Heap} {L D q : Addr} {m : Str → Option Value} {news news' : List (Addr × Obj)} {its : Array Value} {n : Nat}
theorem getAttr_bm {expr : Bool} {Q : Value → Shared → Prop} (F : Fr h₀ L s.heap m) (N : News h₀ L s.heap news) (hD : (D, listOf its n) ∈ news)
    (h : ∀ q h', Fr h₀ L h' m → News h₀ L h' ((q, bmObj "list.append" D) :: news) → (∀ p ∈ news, p.1 < q) → Q (.ref q) { s with heap := h', toks := s.toks + 1 }) : wpAny (model prog w) A (getAttr (.ref D) "append" expr) Q E s := by
  obtain ⟨hp, g, d, tk, os⟩ := s
  exact append_attr (N _ hD).1 (h _ _ (F.push _) (N.push F _) fun p hp => Heap.lt_size (N p hp).1)
theorem callWith_bm {pos : Pos} {env : Env} {e : PySem.Expr} {rest : List PySem.Expr} {Q : Value → Shared → Prop} (_N : News h₀ L s.heap news) (_q : (q, bmObj "list.append" D) ∈ news)
    (h : wpAny (model prog w) A (spliced (backTo pos (starEach (e :: rest) env))) (fun vs s₁ => s₁.heap.get? q = some (bmObj "list.append" D) ∧ wpAny (model prog w) A (call (.ref q) vs) Q E s₁) E s)
    (he : starEach (e :: rest) env = (false, eval e env) :: starEach rest env := by rfl) (hplain : (backTo pos (starEach rest env)).any (·.1) = false := by rfl) :
    wpAny (model prog w) A (callWith pos (.ref q) [] (backTo pos (starEach (e :: rest) env)) []) Q E s := by
  rw [he] at h ⊢
  refine callWith_of (P := fun h => h.get? q = some (bmObj "list.append" D)) (by show ((false || (backTo pos (starEach rest env)).any (·.1)) || false) = false; rw [hplain]; rfl) (fun h hh => ⟨.machine, .inr (.inl rfl), (Looks.ld (part := none) hh).andThen .now⟩) (Calls.evalArgs_plain h)
theorem call_bm {x : Value} {Q : Value → Shared → Prop} (F : Fr h₀ L s.heap m) (N : News h₀ L s.heap news) (hq : (q, bmObj "list.append" D) ∈ news) (U : Upd D (listOf its n) (listOf (its.push x) (n + 1)) news news')
    (h : ∀ h', Fr h₀ L h' m → News h₀ L h' news' → Q .none { s with heap := h' }) (hsz : its.size ≤ sizeLine) : wpAny (model prog w) A (call (.ref q) [x]) Q E s := by
  obtain ⟨pre, post, rfl, rfl, a, b⟩ := U.split
  have z := N (D, listOf its n) (List.mem_append.mpr (.inr (.head _)))
  refine wpAny_call ?_
  obtain ⟨hp, g, d, tk, os⟩ := s
  refine bound_call (N _ hq).1 z.1 ?_
  refine codeAny_builtin entry_list_append ?_
  rw [Around.under_plainId (by decide +kernel)]
  show wpAny _ _ (updateSeq D (·.push x) >>= fun _ => ret .none) _ _ _
  refine wpAny_bind ?_
  refine wpAny_updateSeq z.1 rfl (wpAny_pure ?_)
  have hs : Heap.SameBut D hp (hp.update D (Obj.mapSeq (·.push x))) := Heap.SameBut.update ..
  refine h _ (F.change hs z.2.1 z.2.2) (news_set N a b hs ?_)
  rw [Heap.get?_update_self _ z.1 (by rw [mapSeq_push]; rfl), mapSeq_push]
end
end Mine
end
section
theorem Mine.begin_Tb : True := by
  w_top off
  k_with_none
  k_with "omega" => (first | with_reducible assumption | with_reducible exact Nat.le_trans (by assumption) (Nat.le_of_ble_eq_true rfl) | with_reducible exact Nat.le_refl _ | with_reducible exact Nat.ne_of_gt (by assumption) | with_reducible exact Nat.ne_of_lt (by assumption) | with_reducible exact Ne.symm (by assumption) | with_reducible exact Int.ofNat_lt.mpr (by assumption) | with_reducible exact Nat.lt_of_le_of_lt (Nat.le_add_right _ _) (by assumption))
  trivial
namespace Mine
/-- the code table keeps what the walk may ask of it: no code of the def's own, or one that is there -/
structure TabOk (ks : List (Pos × Str)) (T : Array Value) (rest : Led) : Prop where
  tri : TriplesOk T.toList
  codes : ∀ k ∈ ks, codeAmong k.1 T.toList = none ∨ ∃ c oc vs t, codeAmong k.1 T.toList = some (.ref c) ∧ (c, oc) ∈ rest ∧ oc.data = .fields vs ∧ vs[1]? = some (.str k.2 t)
theorem TabOk.nil (ks : List (Pos × Str)) (rest : Led) : TabOk ks #[] rest := ⟨trivial, fun _ _ => .inl rfl⟩
theorem among_other {pos pos' : Pos} {c : Value} (h : (pos'.line == pos.line && pos'.col == pos.col) = false) : ∀ (l : List Value), TriplesOk l → codeAmong pos (l ++ [rawInt pos'.line, rawInt pos'.col, c]) = codeAmong pos l := by
  intro l hl
  fun_induction TriplesOk l with
  | case1 =>
    have h' : (((pos'.line : Nat) : Int) == ((pos.line : Nat) : Int) && ((pos'.col : Nat) : Int) == ((pos.col : Nat) : Int)) = false := by
      have e : ∀ a b : Nat, (((a : Nat) : Int) == ((b : Nat) : Int)) = (a == b) := fun a b => by
        rw [Bool.eq_iff_iff]
        simp only [beq_iff_eq]
        exact Int.ofNat_inj
      rw [← h, e, e]
    simp [codeAmong, rawInt, h']
  | case2 a t b u x rest ih =>
    simp only [List.cons_append, codeAmong]
    rw [ih hl]
  | case3 l h1 h2 => exact hl.elim
theorem TabOk.grow {ks : List (Pos × Str)} {T : Array Value} {rest : Led} (H : TabOk ks T rest) {pos : Pos} {qual : Str} {c : Addr} {oc : Obj} {vs : Array Value} {t : Tok} (hk : ∀ k ∈ ks, k = (pos, qual) ∨ (pos.line == k.1.line && pos.col == k.1.col) = false) (hn : codeAmong pos T.toList = none)
    (hd : oc.data = .fields vs) (hv : vs[1]? = some (.str qual t)) : TabOk ks (T ++ #[rawInt pos.line, rawInt pos.col, .ref c]) ((c, oc) :: rest) := by
  have e : (T ++ #[rawInt pos.line, rawInt pos.col, .ref c]).toList = T.toList ++ [rawInt pos.line, rawInt pos.col, .ref c] := by simp
  refine ⟨by rw [e]; exact TriplesOk_snoc _ _ _ _ H.tri, fun k hkm => ?_⟩
  rw [e]
  rcases hk k hkm with rfl | hne
  · exact .inr ⟨c, oc, vs, t, codeAmong_snoc _ H.tri hn, .head _, hd, hv⟩
  · rw [among_other hne _ H.tri]
    rcases H.codes k hkm with h | ⟨c', oc', vs', t', h1, h2, h3, h4⟩
    · exact .inl h
    · exact .inr ⟨c', oc', vs', t', h1, .tail _ h2, h3, h4⟩
theorem TabOk.sub {ks : List (Pos × Str)} {T : Array Value} {rest rest' : Led} (H : TabOk ks T rest) (h : ∀ p ∈ rest, p ∈ rest') : TabOk ks T rest' := ⟨H.tri, fun k hk => (H.codes k hk).imp id fun H => by
  obtain ⟨c, oc, vs, t, a, b, d⟩ := H
  exact ⟨c, oc, vs, t, a, h _ b, d⟩⟩
section
variable {M : Model} {A : Around} {E : Value → Shared → Prop} {s : Shared} {h₀ : Heap} {L a c P : Addr} {m mg mb : Str → Option Value} {cn : Str} {cs : Scope} {ccd : Value} {cl : List (Str × Addr)} {own rest : Led}
  {p : Program} {loose : List Str} {mean : ExcName → Option Value} {name qual : Str} {params : Arguments} {body : Expr} {scope : Scope} {T : Array Value} {pos : Pos} {firstLine : Nat} {clos : List (Str × Addr)} {ks : List (Pos × Str)}
/-- what a maker of code leaves: the table and the ledger behind it, perhaps grown by one -/
structure Grown (ks : List (Pos × Str)) (own rest : Led) (T' : Array Value) (rest' : Led) : Prop where
  ok : TabOk ks T' rest'
  sub : ∀ p ∈ rest, p ∈ rest'
  fresh : ∀ p ∈ rest', p ∈ rest ∨ ∀ q ∈ own, q.1 < p.1
theorem Grown.ne {T' : Array Value} {rest' : Led} (G : Grown ks own rest T' rest') {d : Addr} (h : ∀ p ∈ rest, p.1 ≠ d) (hd : d ∈ own.map (·.1)) : ∀ p ∈ rest', p.1 ≠ d := by
  intro p hp
  rcases G.fresh p hp with h' | h'
  · exact h p h'
  · obtain ⟨q, hq, rfl⟩ := List.mem_map.mp hd
    exact Nat.ne_of_gt (h' q hq)
theorem lam_new {Q : Value → Shared → Prop} (F : Fr h₀ L s.heap m) (N : News h₀ L s.heap (own ++ (P, tabObj T) :: rest)) (Tp : Top p loose mean mg mb h₀) (C : CodeHd h₀ c P) (hcd : ccd = .ref c) (hP1 : ∀ p ∈ own, p.1 ≠ P) (hP2 : ∀ p ∈ rest, p.1 ≠ P)
    (H : TabOk ks T rest) (hk : ∀ k ∈ ks, k = (pos, qual) ∨ (pos.line == k.1.line && pos.col == k.1.col) = false) (hkm : (pos, qual) ∈ ks)
    (hcl : closureFor scope (envX cn cs L a ccd cl) = pure clos)
    (h : ∀ f c' ctv h' tk T' rest', Fr h₀ L h' m → Grown ks (own ++ [(P, tabObj T)]) rest T' rest' → (∃ oc vs t, (c', oc) ∈ rest' ∧ oc.data = .fields vs ∧ vs[1]? = some (.str qual t)) →
      News h₀ L h' ((f, kla_obj name qual params body scope clos ((mg "__name__").getD .none) c' ctv) :: (own ++ (P, tabObj T') :: rest')) → (∀ q ∈ own, q.1 < f) → (∀ q ∈ rest', q.1 < f) → @LT.lt Nat _ P f → Q (.ref f) { s with heap := h', toks := tk }) :
    wpAny M A (makeFunction name qual params (.expr body) scope (envX cn cs L a ccd cl) [] [] [] pos firstLine) Q E s := by
  have hU : UpdF P (tabObj T) (own ++ (P, tabObj T) :: rest) (fun o' => own ++ (P, o') :: rest) := by
    clear N h
    induction own with
    | nil => exact .head hP2
    | cons q r ih => exact .tail (hP1 q (.head _)) (ih fun p hp => hP1 p (.tail _ hp))
  rcases H.codes _ hkm with hn | ⟨c', oc, vs, t, h1, h2, h3, h4⟩
  · refine kla_nest F N Tp C hcd hU H.tri hn hcl fun f c' oc vs t ctv h' tk F' N' hd hv hlt hcf => ?_
    have hP : @LT.lt Nat _ P c' := hlt (P, tabObj T) (List.mem_append.mpr (.inr (.head _)))
    refine h f c' ctv h' tk _ ((c', oc) :: rest) F' ⟨H.grow hk hn hd hv, fun p hp => .tail _ hp, fun p hp => ?_⟩ ⟨oc, vs, t, .head _, hd, hv⟩ (fun p hp => ?_) (fun q hq => Nat.lt_trans (hlt q (List.mem_append.mpr (.inl hq))) hcf) (fun q hq => ?_) (Nat.lt_trans hP hcf)
    · rcases List.mem_cons.mp hp with rfl | hp
      · refine .inr fun q hq => hlt q ?_
        rcases List.mem_append.mp hq with hq | hq
        · exact List.mem_append.mpr (.inl hq)
        · rcases List.mem_cons.mp hq with rfl | hq
          · exact List.mem_append.mpr (.inr (.head _))
          · cases hq
      · exact .inl hp
    · refine N' p ?_
      rcases List.mem_cons.mp hp with rfl | hp
      · exact .head _
      rcases List.mem_append.mp hp with hp | hp
      · exact .tail _ (.tail _ (List.mem_append.mpr (.inl hp)))
      rcases List.mem_cons.mp hp with rfl | hp
      · exact .tail _ (.tail _ (List.mem_append.mpr (.inr (.head _))))
      rcases List.mem_cons.mp hp with rfl | hp
      · exact .tail _ (.head _)
      · exact .tail _ (.tail _ (List.mem_append.mpr (.inr (.tail _ hp))))
    · rcases List.mem_cons.mp hq with rfl | hq
      · exact hcf
      · exact Nat.lt_trans (hlt q (List.mem_append.mpr (.inr (.tail _ hq)))) hcf
  · refine kla_hit F N Tp C hcd (List.mem_append.mpr (.inr (.head _))) H.tri h1 hcl fun f ctv h' tk F' N' hlt => ?_
    exact h f c' ctv h' tk T rest F' ⟨H, fun p hp => hp, fun p hp => .inl hp⟩ ⟨oc, vs, t, h2, h3, h4⟩ N' (fun q hq => hlt q (List.mem_append.mpr (.inl hq))) (fun q hq => hlt q (List.mem_append.mpr (.inr (.tail _ hq)))) (hlt (P, tabObj T) (List.mem_append.mpr (.inr (.head _))))
end
end Mine
end
section
theorem Mine.begin_Ld : True := by
  w_top off
  k_with_none
  k_with "omega" => (first | with_reducible assumption | with_reducible exact Nat.le_trans (by assumption) (Nat.le_of_ble_eq_true rfl) | with_reducible exact Nat.le_refl _ | with_reducible exact Nat.ne_of_gt (by assumption) | with_reducible exact Nat.ne_of_lt (by assumption) | with_reducible exact Ne.symm (by assumption) | with_reducible exact Int.ofNat_lt.mpr (by assumption) | with_reducible exact Nat.lt_of_le_of_lt (Nat.le_add_right _ _) (by assumption))
  trivial
namespace Mine
section
variable {prog : Program} {w : World} {A : Around} {E : Value → Shared → Prop} {s : Shared}
theorem truthy_L {a : Addr} {its : List Value} {b : Bool} {Q : Bool → Shared → Prop} (hl : s.heap.IsList a its.toArray) (hz : its.length ≤ 100000) (hb : (!its.isEmpty) = b) (h : ∀ tk, Q b { s with toks := tk }) : wpAny (model prog w) A (truthy (.ref a)) Q E s := by
  refine wpAny_truthy_list hl (by simp; omega) ?_
  have e : (!its.toArray.isEmpty) = b := by rw [← hb]; simp
  rw [e]
  exact h _
theorem item_last {value slice : PySem.Expr} {a : Addr} {pre : List Value} {v : Value} {u : Tok} {Q : Value → Shared → Prop} (hl : s.heap.IsList a (pre ++ [v]).toArray) (hz : pre.length ≤ 100000) (h : Q v s)
    (hs : subscripted slice false (.ref a) (.int (-1) u) = operate [.ref a, .int (-1) u] (getItem (.ref a) (.int (-1) u))) (hg : ∀ r, letTemporaryGo value (.ref a) r = pure ()) : wpAny (model prog w) A (subscriptTail value slice (.ref a) (.int (-1) u)) Q E s := by
  refine subscriptTail_builtin hl.typeIs slot_list_getitem.lookup (wpAny_getItem_list_neg hl (by decide) (by simp; omega) (by decide) ?_ h) hs hg
  have e : ((-1 : Int) + ((pre ++ [v]).toArray.size : Nat)).toNat = pre.length := by simp; omega
  rw [e]
  simp
theorem isnot_str_ref {x : Str} {t : Tok} {a : Addr} {Q : Value → Shared → Prop} (h : Q (.bool true) s) : wpAny (model prog w) A (compareOp .IsNot (.str x t) (.ref a)) Q E s := wpAny_isNot_other rfl (by intro e; cases e) h
theorem notin_Sv (v : Bool) {c : Nat} {y : List Nat} {x z : Str} {t u : Tok} {Q : Value → Shared → Prop} (hx : x = S [c]) (hz : z = S y) (hv : (!decide (c ∈ y)) = v) (h : Q (.bool v) s) : wpAny (model prog w) A (compareOp .NotIn (.str x u) (.str z t)) Q E s := by
  subst hx
  subst hz
  subst hv
  refine notIn_str ?_
  rw [StrLaws.found_one]
  simpa using h
theorem occ_empty {c : Nat} {l : List Nat} (h : c ∉ l) : (Builtin.Str.occurrences (S l) (S [c]) 0 (S l).length ((S l).length + 1)).isEmpty = true := by
  rcases StrLaws.occ_head (S l) (S [c]) ((S l).length + 1) (by omega) with ⟨h1, _⟩ | ⟨i, r, h1, h2, _⟩
  · rw [h1]; rfl
  · exfalso
    rcases StrLaws.occ_head (S l) (S [c]) 1 (by omega) with ⟨_, h4⟩ | ⟨j, r', h4, _⟩
    · exact h4 _ h2
    · have h3 := StrLaws.found_one (S l) c
      have h5 : Builtin.Str.occurrences (S l) ⟨#[c]⟩ 0 (S l).length 1 = j :: r' := h4
      rw [h5] at h3
      simp at h3
      exact h h3
theorem replace_no {c : Nat} {l : List Nat} {x y z : Str} {t u v : Tok} {Q : Value → Shared → Prop} (hx : x = S l) (hy : y = S [c]) (hc : c ∉ l) (h : Q (.str (S l) t) s) : wpAny (model prog w) A (call (.builtin "str.replace") [.str x t, .str y u, .str z v]) Q E s := by
  subst hx
  subst hy
  have e := occ_empty hc
  refine call_gives F.slot_str_replace (typeIs_str _ _ _) F.entry_str_replace (F.args_str_replace_3 _ _ _) (gives_str_replace _ _ _ _ _ _ ?_) ?_
  · intro q
    rw [e] at q
    cases q
  · rw [e]
    exact h
theorem replace_yes {c : Nat} {l zz r : List Nat} {x y z : Str} {t u v : Tok} {Q : Value → Shared → Prop} (hx : x = S l) (hy : y = S [c]) (hz : z = S zz) (hu : u ≠ 0) (hv : v ≠ 0) (huv : u ≠ v) (hyz : ([c] == zz) = false) (hl : l.length ≤ 1000) (hzz : zz.length ≤ 14) (hr : rep1 c zz l = r) (h : ∀ t' k, Q (.str (S r) t') { s with toks := k }) : wpAny (model prog w) A (call (.builtin "str.replace") [.str x t, .str y u, .str z v]) Q E s := by
  subst hx
  subst hy
  subst hz
  subst hr
  have e : (S [c] == S zz) = false := by
    rw [S_beq]
    rw [decide_eq_false]
    intro q
    rw [q] at hyz
    simp at hyz
  refine SC.replaceW hu hv huv e (by rw [S_len]; omega) (by rw [S_len]; omega) ?_
  rw [replace_rep]
  exact h
theorem in_two (b : Bool) {h₀ : Heap} {L D : Addr} {news : List (Addr × Obj)} {x y z : Str} {t1 t2 u : Tok} {p q c n : Nat} {Q : Value → Shared → Prop} (N : News h₀ L s.heap news) (hD : (D, { cls := .type "tuple", data := .seq #[.str x t1, .str y t2] n }) ∈ news)
    (hx : x = S [p]) (hy : y = S [q]) (hz : z = S [c]) (hv : (decide (p = c) || decide (q = c)) = b) (h : Q (.bool b) s) : wpAny (model prog w) A (compareOp .In (.str z u) (.ref D)) Q E s := by
  subst hx
  subst hy
  subst hz
  refine SeqAt.in_tupleAt (fun v => match v with | .str a _ => a == S [c] | _ => false) ⟨_, (N _ hD).1, rfl, _, rfl⟩ ?_ ?_
  · intro v hv'
    simp at hv'
    rcases hv' with rfl | rfl <;> exact SeqAt.EqAt.str_str _ _ _ _
  · have e : (#[Value.str (S [p]) t1, Value.str (S [q]) t2].any fun v => match v with | .str a _ => a == S [c] | _ => false) = b := by
      rw [← hv]
      simp only [List.any_toArray, List.any_cons, List.any_nil, S_beq, Bool.or_false]
      simp
    rw [e]
    exact h
theorem add_hat {x : Str} {y : Nat} {Y : List Nat} {t u : Tok} {Q : Value → Shared → Prop} (hx : x = S [94]) (hl : Y.length ≤ 10) (h : ∀ t' k, Q (.str (S (94 :: y :: Y)) t') { s with toks := k }) : wpAny (model prog w) A (binaryOp .Add (.str x t) (.str (S (y :: Y)) u)) Q E s := by
  subst hx
  refine add_str (fun t' k => ?_) (by rw [S_len, S_len, sizeLine_eq]; simp; omega)
  rw [S_app]
  exact h t' k
end
/-- not zero, hidden from omega -/
noncomputable def NZ (n : Nat) : Prop := n ≠ 0
theorem NZ.ne {n : Nat} (h : NZ n) : n ≠ 0 := h
theorem keep_toks {α : Type} {M : Model} {A : Around} {t : Sem α} {Q : α → Shared → Prop} {E : Value → Shared → Prop} {h : Heap} {g : Array GenState} {d : Drawn} {X : Nat} {os : OsState} (hX : X ≠ 0) (k : ∀ tk, NZ tk → wpAny M A t Q E ⟨h, g, d, tk, os⟩) : wpAny M A t Q E ⟨h, g, d, X, os⟩ := k X hX
theorem l_nil0 : Str.empty = S [] := rfl
theorem S_tail (c : Nat) (y : List Nat) : Txt.slice (S (c :: y)) (some 1) none = S y := by rw [slice_from _ _ (by decide)]; rfl
end Mine
end
section
theorem Mine.begin_Es : True := by
  w_top off
  k_with_none
  k_with "omega" => (first | with_reducible assumption | with_reducible exact Nat.le_trans (by assumption) (Nat.le_of_ble_eq_true rfl) | with_reducible exact Nat.le_refl _ | with_reducible exact Nat.ne_of_gt (by assumption) | with_reducible exact Nat.ne_of_lt (by assumption) | with_reducible exact Ne.symm (by assumption) | with_reducible exact Int.ofNat_lt.mpr (by assumption) | with_reducible exact Nat.lt_of_le_of_lt (Nat.le_add_right _ _) (by assumption))
  trivial
namespace Mine
theorem rules_Es_1 : True := by
  k_with "newList" => ((k_here; (first | (refine newList_K (F := by k_dflt (k_asm)) (N := by k_dflt (k_asm)) ?_ (hsz := by k_dflt (exact Nat.le_of_ble_eq_true rfl))) | (k_dflt (refine newList_K (F := by k_asm) (N := by k_asm) ?_ (hsz := by exact Nat.le_of_ble_eq_true rfl)))); intro _ _ _ _ l1qq; (try k_lt l1qq); (try k_sweep)))
  k_with "call builtin:str.translate" => ((k_here; (first | (refine call_translate (F := by k_dflt (k_asm)) (N := by k_dflt (k_asm)) (X := by k_dflt (k_asm)) (hh := by k_dflt (exact rfl)) ?_) | (k_dflt (refine call_translate (F := by k_asm) (N := by k_asm) (X := by k_asm) (hh := by exact rfl) ?_))); intro _ _ _ _ _))
  k_with "getMethod str" => (with_reducible refine getMethod_translate ?_)
  trivial
theorem escape_gives (w : World) (mean : ExcName → Option Value) (mg mb : Str → Option Value) (c : Nat) (t : Tok) :
   Gives w mean mg mb 69 [.str (S [c]) t] (fun _ => True) (RetS (S (esc c))) := by
  unfold Gives
  k_fill
  intro dp un gd cn cs a ccd cl outer A₀ base h₀ L m news s Q E B F X N T hk hp hd hu hret
  refine wpAny_call ?_
  k_dflt ktr_enter
  k_steps
  all_goals (refine hret _ news _ _ (by k_asm) (by k_asm) (RetS.intro rfl))


end Mine
end
section
theorem Mine.begin_Sb : True := by
  w_top off
  k_with_none
  k_with "omega" => (first | with_reducible assumption | with_reducible exact Nat.le_trans (by assumption) (Nat.le_of_ble_eq_true rfl) | with_reducible exact Nat.le_refl _ | with_reducible exact Nat.ne_of_gt (by assumption) | with_reducible exact Nat.ne_of_lt (by assumption) | with_reducible exact Ne.symm (by assumption) | with_reducible exact Int.ofNat_lt.mpr (by assumption) | with_reducible exact Nat.lt_of_le_of_lt (Nat.le_add_right _ _) (by assumption))
  trivial
namespace Mine
open PySem.Builtin.Re
theorem plainAttrs_pat : PlainAttrs "re.Pattern" := ⟨⟨"object.__getattribute__", by rw [typeLookup_type, builtinLookup_eq_fast]; kernel_rfl, by decide +kernel⟩, by rw [typeLookup_type, builtinLookup_eq_fast]; kernel_rfl⟩
theorem plainAttrs_mat : PlainAttrs "re.Match" := ⟨⟨"object.__getattribute__", by rw [typeLookup_type, builtinLookup_eq_fast]; kernel_rfl, by decide +kernel⟩, by rw [typeLookup_type, builtinLookup_eq_fast]; kernel_rfl⟩
theorem slot_group : Slot "re.Match" "group" "re.Match.group" :=
  .of (owner := "re.Match") (n := "group") (by rw [typeLookup_type, builtinLookup_eq_fast]; kernel_rfl) (by decide +kernel) (by decide +kernel) (by decide +kernel)
    (by first | exact .inl (by decide +kernel) | exact .inr (by decide +kernel)) (by rw [isSubtype_type]; kernel_rfl)
theorem entry_group : entryFor table "re.Match.group" = some Builtin.«re.Match.group» := entryFor_of_tree (by kernel_rfl)
theorem args_group (a b : Value) : argsOk "re.Match.group" ⟨[a, b], []⟩ := by unfold argsOk; kernel_rfl
theorem type_group : typeOf (.builtin "re.Match.group") = pure (.type "method_descriptor") := by show builtinType _ = _; rw [builtinType_eq_fast]; kernel_rfl
section
variable {prog : Program} {w : World} {M : Model} {A : Around} {E : Value → Shared → Prop} {s : Shared} {pl : Sem Bool}
theorem getMethod_sub {v : Str} {t fl ts : Tok} {Q : Value × List Value → Shared → Prop} (h50 : s.heap.get? 50 = some (patObj v t fl ts)) (h : Q (.builtin "re.Pattern.sub", [.ref 50]) s) : wpAny M A (getMethod (.ref 50) "sub" pl) Q E s :=
  getMethod_builtin (T := "re.Pattern") ⟨_, h50, rfl⟩ plainAttrs_pat slot_sub type_sub (by intro a e; cases e; exact ⟨_, h50, rfl⟩) h
theorem getMethod_group {b a : Addr} {l : List Nat} {tl : Tok} {Q : Value × List Value → Shared → Prop} (hb : s.heap.get? b = some (matObj l tl a)) (h : Q (.builtin "re.Match.group", [.ref b]) s) : wpAny M A (getMethod (.ref b) "group" pl) Q E s :=
  getMethod_builtin (T := "re.Match") ⟨_, hb, rfl⟩ plainAttrs_mat slot_group type_group (by intro a e; cases e; exact ⟨_, hb, rfl⟩) h
theorem call_group {b a : Addr} {x c n : Nat} {tl t v0 fl ts : Tok} {v : Str} {Q : Value → Shared → Prop} (h50 : s.heap.get? 50 = some (patObj v v0 fl ts)) (hb : s.heap.get? b = some (matObj [x, c] tl a)) (ha : s.heap.get? a = some (tupObj #[rawInt 1, rawInt 2, rawInt 1, rawInt 2] n))
    (h : ∀ t' k, Q (.str (S [c]) t') { s with toks := k }) : wpAny (model prog w) A (call (.builtin "re.Match.group") [.ref b, .int 1 t]) Q E s := by
  obtain ⟨hp, g, d, tk, os⟩ := s
  have hTm : Shared.TypeIs ⟨hp, g, d, tk, os⟩ (.ref b) "re.Match" := ⟨_, hb, rfl⟩
  have hTp : Shared.TypeIs ⟨hp, g, d, tk, os⟩ (.ref 50) "re.Pattern" := ⟨_, h50, rfl⟩
  refine wpAny_call (codeAny_call_builtin slot_group.plain entry_group (slot_group.check _ _ _ _ _ _ _ _ hTm (args_group _ _) ?_))
  wp_walk
  refine wpAny_ite_false (by simp [reRawOf, rawInt]) ?_
  wp_walk using (slice_use [c])
  all_goals (try first | rfl | (show 1 ≤ sizeLine; decide) | (simp [reRawOf, rawInt]; done))
  intro t' k
  wp_walk
  exact h _ _
end
end Mine
end
section
theorem Mine.begin_Su : True := by
  w_top off
  k_with_none
  k_with "omega" => (first | with_reducible assumption | with_reducible exact Nat.le_trans (by assumption) (Nat.le_of_ble_eq_true rfl) | with_reducible exact Nat.le_refl _ | with_reducible exact Nat.ne_of_gt (by assumption) | with_reducible exact Nat.ne_of_lt (by assumption) | with_reducible exact Ne.symm (by assumption) | with_reducible exact Int.ofNat_lt.mpr (by assumption) | with_reducible exact Nat.lt_of_le_of_lt (Nat.le_add_right _ _) (by assumption))
  trivial
namespace Mine
theorem rules_Su_1 : True := by
  k_with "newList" => ((k_here; (first | (refine newList_K (F := by k_dflt (k_asm)) (N := by k_dflt (k_asm)) ?_ (hsz := by k_dflt (exact Nat.le_of_ble_eq_true rfl))) | (k_dflt (refine newList_K (F := by k_asm) (N := by k_asm) ?_ (hsz := by exact Nat.le_of_ble_eq_true rfl)))); intro _ _ _ _ l1qq; (try k_lt l1qq); (try k_sweep)))
  k_with "m sub" => ((intro p hp; repeat (first | exact hp | refine List.mem_cons_of_mem _ ?_)))
  k_with "m news" => ((refine cb_drop (N := by k_asm) ?_; walk_at "m sub"))
  k_with "m lt" => (first | assumption | exact ktn_ltOf (by assumption) | (refine ktn_ltOf ?_; simp only [AllLt, and_true] at *; simp only [*]))
  k_with "compareOp In ref ref" => ((k_here; (first | (refine in_parts (hp := by k_dflt (assumption)) (hi := by k_dflt (assumption)) (N := by k_dflt (walk_at "m news")) (N' := by k_dflt (k_asm)) (hE := by k_dflt (k_mem)) (hlt := by k_dflt (walk_at "m lt")) (hu := by k_dflt (ktr_units)) (hb := by k_dflt (first | exact (show _ = true from (congrArg Option.isSome (by assumption)).trans rfl) | exact (show _ = false from (congrArg Option.isSome (by assumption)).trans rfl))) ?_; k_whole) | (k_dflt (refine in_parts (hp := by assumption) (hi := by assumption) (N := by walk_at "m news") (N' := by k_asm) (hE := by k_mem) (hlt := by walk_at "m lt") (hu := by ktr_units) (hb := by first | exact (show _ = true from (congrArg Option.isSome (by assumption)).trans rfl) | exact (show _ = false from (congrArg Option.isSome (by assumption)).trans rfl)) ?_; k_whole)))))
  k_with "call builtin:list.index" => ((k_here; (first | (refine index_parts (hp := by k_dflt (assumption)) (hi := by k_dflt (assumption)) (N := by k_dflt (walk_at "m news")) (N' := by k_dflt (k_asm)) (hE := by k_dflt (k_mem)) (hlt := by k_dflt (walk_at "m lt")) (hu := by k_dflt (ktr_units)) (hj := by k_dflt (assumption)) (hs := by k_dflt (omega)) ?_; k_whole) | (k_dflt (refine index_parts (hp := by assumption) (hi := by assumption) (N := by walk_at "m news") (N' := by k_asm) (hE := by k_mem) (hlt := by walk_at "m lt") (hu := by ktr_units) (hj := by assumption) (hs := by omega) ?_; k_whole)))))
  k_with "getMethod ref" => ((k_here; (with_reducible show wpAny _ _ (getMethod (Value.ref _) (PySem.Str.ofString "index") _) _ _ _); (first | (refine index_method (hm := by k_dflt (assumption)) (N := by k_dflt (walk_at "m news")) ?_) | (k_dflt (refine index_method (hm := by assumption) (N := by walk_at "m news") ?_)))))
  k_with "m list" => ((refine News.isList (N := by k_asm) (hm := by repeat (first | assumption | exact List.Mem.head _ | refine List.mem_cons_of_mem _ ?_))))
  k_with "m small" => (first | exact Nat.le_of_ble_eq_true rfl | (simp only [List.size_toArray, sizeLine_eq, Array.length_toList]; omega) | (simp only [List.size_toArray, List.length_append, List.length_take, List.length_drop, All2.length (by assumption : All2 _ _ _), sizeLine_eq, Array.length_toList]; omega))
  k_with "subscriptTail Name Slice ref ref" => ((k_here; (with_reducible show wpAny _ _ (subscriptTail _ (PySem.Expr.Slice _ _ none _) (Value.ref _) (Value.ref _)) _ _ _); (first | (refine kms_slice_lit (F := by k_dflt (k_asm)) (N := by k_dflt (k_asm)) (hl := by k_dflt (walk_at "m list")) (pl := by k_dflt (kmk_part)) (pu := by k_dflt (kmk_part)) (e := by k_dflt (first | exact pick_to _ _ | exact pick_from1 _ _ | exact pick_from _ _)) ?_ (hs := by k_dflt (with_unfolding_all rfl)) (ht := by k_dflt (kmk_pure)) (hz := by k_dflt (walk_at "m small")); k_whole) | (k_dflt (refine kms_slice_lit (F := by k_asm) (N := by k_asm) (hl := by walk_at "m list") (pl := by kmk_part) (pu := by kmk_part) (e := by first | exact pick_to _ _ | exact pick_from1 _ _ | exact pick_from _ _) ?_ (hs := by with_unfolding_all rfl) (ht := by kmk_pure) (hz := by walk_at "m small"); k_whole))); intro _ _ _ _ l1qq; (try k_lt l1qq); (try k_sweep)))
  k_with "binaryOp Add ref ref" => ((k_here; (with_reducible show wpAny _ _ (binaryOp _ (Value.ref _) (Value.ref _)) _ _ _); (first | (refine kmk_add_lit (F := by k_dflt (k_asm)) (N := by k_dflt (k_asm)) (ha := by k_dflt (walk_at "m list")) (hb := by k_dflt (walk_at "m list")) (e := by k_dflt (exact add_e _ _)) ?_ (hz := by k_dflt (walk_at "m small"))) | (k_dflt (refine kmk_add_lit (F := by k_asm) (N := by k_asm) (ha := by walk_at "m list") (hb := by walk_at "m list") (e := by exact add_e _ _) ?_ (hz := by walk_at "m small")))); intro _ _ _ _ l1qq; (try k_lt l1qq); (try k_sweep)))
  k_with "call builtin:len" => ((k_here; (with_reducible show wpAny _ _ (call (Value.builtin "len") [Value.ref _]) _ _ _); (first | (refine len_lst (hl := by k_dflt (walk_at "m list")) (e := by k_dflt (assumption)) (hn := by k_dflt (omega)) ?_) | (k_dflt (refine len_lst (hl := by walk_at "m list") (e := by assumption) (hn := by omega) ?_))); intro _ _))
  k_with "CompSrcT" => ((refine Hold.of ?_))
  k_with "m place" => (first | exact Int.zero_add _ | exact (rfl : (0 : Int) = ((0 : Nat) : Int)) | exact (rfl : (1 : Int) = ((1 : Nat) : Int)))
  k_with "subscriptTail Name Name str int" => ((k_here; (first | (refine item_S (hk := by k_dflt (walk_at "m place")) (hc := by k_dflt (assumption)) (hl := by k_dflt (first | assumption | omega)) ?_ (hs := by k_dflt (with_unfolding_all rfl)) (hg := by k_dflt (kmk_pure))) | (k_dflt (refine item_S (hk := by walk_at "m place") (hc := by assumption) (hl := by first | assumption | omega) ?_ (hs := by with_unfolding_all rfl) (hg := by kmk_pure)))); intro _ _))
  k_with "m item" => ((k_here; (with_reducible show wpAny _ _ (subscriptTail _ _ (Value.ref _) (Value.int _ _)) _ _ _); (first | (refine item_L (hl := by k_dflt (walk_at "m list")) (hk := by k_dflt (walk_at "m place")) (hx := by k_dflt (first | assumption | exact rfl)) (hz := by k_dflt (first | exact Nat.le_of_ble_eq_true rfl | omega)) ?_ (hs := by k_dflt (with_unfolding_all rfl)) (hg := by k_dflt (kmk_pure))) | (k_dflt (refine item_L (hl := by walk_at "m list") (hk := by walk_at "m place") (hx := by first | assumption | exact rfl) (hz := by first | exact Nat.le_of_ble_eq_true rfl | omega) ?_ (hs := by with_unfolding_all rfl) (hg := by kmk_pure))))))
  k_with "subscriptTail Name Name ref int" => (walk_at "m item")
  k_with "subscriptTail Subscript Constant ref int" => (walk_at "m item")
  k_with "compareOp In str str" => ((k_here; (first | (refine in_S ?_) | (k_dflt (refine in_S ?_)))))
  k_with "m mem" => (repeat (first | assumption | exact List.Mem.head _ | refine List.mem_cons_of_mem _ ?_))
  k_with "compareOp Eq ref ref" => ((k_here; (first | (refine eq_nil (N := by k_dflt (k_asm)) (hD := by k_dflt (walk_at "m mem")) (hE := by k_dflt (walk_at "m mem")) (hu := by k_dflt (ktr_units)) ?_) | (k_dflt (refine eq_nil (N := by k_asm) (hD := by walk_at "m mem") (hE := by walk_at "m mem") (hu := by ktr_units) ?_)))))
  k_with "compareOp Eq bool bool" => ((k_here; (first | (refine PyProof.Rows.eq_bool ?_) | (k_dflt (refine PyProof.Rows.eq_bool ?_)))))
  k_with "subscriptTail Name Constant ref int" => (walk_at "m item")
  trivial
/-- the lambda of _translate, out of the program -/
noncomputable def asgn : Stmt → PySem.Expr
  | .Assign _ v _ => v
  | _ => .Constant .none 0 default
noncomputable def arg0 : PySem.Expr → PySem.Expr
  | .Call _ (e :: _) _ _ => e
  | e => e
noncomputable def lamBody : PySem.Expr → PySem.Expr
  | .Lambda _ b _ _ => b
  | .GeneratorExp b _ _ _ => b
  | e => e
noncomputable def lamArgs : PySem.Expr → Arguments
  | .Lambda p _ _ _ => p
  | _ => ⟨[], [], none, [], [], none, []⟩
noncomputable def lamScope : PySem.Expr → Scope
  | .Lambda _ _ s _ => s
  | .GeneratorExp _ _ s _ => s
  | _ => default
noncomputable def lamE (K : Frag) : PySem.Expr := arg0 (asgn (subStmt K))
noncomputable abbrev lamQ : Str := Str.ofString "_translate" ++ Str.ofString ".<locals>." ++ Str.ofString "<lambda>"
noncomputable abbrev lamFn (K : Frag) (qual : Str) (c' : Addr) (pm ctv : Value) : Obj := kla_obj "<lambda>" qual (lamArgs (lamE K)) (lamBody (lamE K)) (lamScope (lamE K)) [] pm c' ctv
theorem rules_Su_2 : True := by
  k_with "getMethod ref" => ((k_here; (with_reducible show wpAny _ _ (getMethod (Value.ref _) (PySem.Str.ofString "group") _) _ _ _); (first | (refine getMethod_group (hb := by k_dflt ((refine News.get (N := by k_asm) (hm := by walk_at "m mem")))) ?_) | (k_dflt (refine getMethod_group (hb := by (refine News.get (N := by k_asm) (hm := by walk_at "m mem"))) ?_)))))
  k_with "call builtin:re.Match.group" => ((k_here; (first | (refine call_group' (h50 := by k_dflt (exact pat_at (by assumption) (by assumption))) (hb := by k_dflt ((refine News.get (N := by k_asm) (hm := by walk_at "m mem")))) (ha := by k_dflt ((refine News.get (N := by k_asm) (hm := by walk_at "m mem")))) ?_) | (k_dflt (refine call_group' (h50 := by exact pat_at (by assumption) (by assumption)) (hb := by (refine News.get (N := by k_asm) (hm := by walk_at "m mem"))) (ha := by (refine News.get (N := by k_asm) (hm := by walk_at "m mem"))) ?_))); intro _ _))
  trivial
noncomputable def patAt (w : World) : Obj := ((hd.heap_39 w.params).lookup 50).getD default
theorem patAt_is (w : World) : ∃ v t fl ts, patAt w = patObj v t fl ts := by
  obtain ⟨v, t, d, fl, ts, h, rfl⟩ := o50 w
  exact ⟨v, t, fl, ts, by unfold patAt; rw [h]; rfl⟩
theorem pat_at {w : World} {g h : Heap} {L : Addr} {m : Str → Option Value} (F : Fr g L h m) (X : Frag.In (hd.heap_39 w.params) g) : h.get? 50 = some (patAt w) := by
  obtain ⟨v, t, d, fl, ts, h, rfl⟩ := o50 w
  have e : patAt w = patObj v t fl ts := by unfold patAt; rw [h]; rfl
  rw [e]
  exact F.keep _ _ (X _ _ h)
theorem call_group' {w : World} {A : Around} {E : Value → Shared → Prop} {s : Shared} {b a : Addr} {x c n : Nat} {tl t : Tok} {Q : Value → Shared → Prop} (h50 : s.heap.get? 50 = some (patAt w)) (hb : s.heap.get? b = some (matObj [x, c] tl a)) (ha : s.heap.get? a = some (tupObj #[rawInt 1, rawInt 2, rawInt 1, rawInt 2] n))
    (h : ∀ t' k, Q (.str (S [c]) t') { s with toks := k }) : wpAny (model PySem.Challenge.rw_ij0088_01.row.prog w) A (call (.builtin "re.Match.group") [.ref b, .int 1 t]) Q E s := by
  obtain ⟨v, t, fl, ts, e⟩ := patAt_is w
  rw [e] at h50
  exact call_group h50 hb ha h
theorem truthy_S {prog : Program} {w : World} {A : Around} {E : Value → Shared → Prop} {s : Shared} {c : Nat} {l : List Nat} {t : Tok} {Q : Bool → Shared → Prop} (hl : l.length ≤ 1000) (h : ∀ k, Q true { s with toks := k }) : wpAny (model prog w) A (truthy (.str (S (c :: l)) t)) Q E s := by
  have e : (((S (c :: l)).length : Int) != 0) = true := by rw [S_len]; simp; omega
  refine PySem.P.truthy_str (by rw [S_len]; simp; omega) ?_
  rw [e]
  exact h _
theorem lam_gives (w : World) (mean : ExcName → Option Value) (mg mb : Str → Option Value) (dp un : Nat) (gd : Option (List Code)) (cn : Str) (cs : Scope) (a : Addr) (ccd : Value) (cl : List (Str × Addr)) (outer : List Env) (A₀ : Around) (base h₀ : Heap) (L : Addr) (m : Str → Option Value) (news : Led) (s : Shared)
    (Q E : Value → Shared → Prop) (f c' b a' n x c : Nat) (tl : Tok) (pm ctv : Value) (oc : Obj) (vs : Array Value) (t : Tok) (qual : Str)
    (B : Below A₀ base outer h₀) (F : Fr h₀ L s.heap m) (X : Frag.In (hd.heap_39 w.params) h₀) (N : News h₀ L s.heap news) (T : Top topProg LooseL mean mg mb h₀) (hk : cs.kind = .function) (hdd : dp + 15 < recursionLimit) (hu : un + 150 < cLine)
    (hf : (f, lamFn (hd.heap_39 w.params) qual c' pm ctv) ∈ news) (hc : (c', oc) ∈ news) (hd1 : oc.data = .fields vs) (hd2 : vs[1]? = some (.str qual t)) (hb : (b, matObj [x, c] tl a') ∈ news) (ha : (a', tupObj #[rawInt 1, rawInt 2, rawInt 1, rawInt 2] n) ∈ news)
    (h : ∀ h' tk t', Fr h₀ L h' m → News h₀ L h' news → Q (.str (S [92, c]) t') {s with heap := h', toks := tk}) :
    wpAny (model PySem.Challenge.rw_ij0088_01.row.prog w) (ktrTop dp un gd cn cs L a ccd cl outer).in1 (call (.ref f) [.ref b]) Q E s := by
  refine wpAny_call ?_
  have hcell : ∀ y ∈ (lamScope (lamE (_root_.Mine.hd.heap_39 w.params))).names, y.2 ≠ NameKind.cell := by
    rw [show (lamScope (lamE (_root_.Mine.hd.heap_39 w.params))).names = [(Str.ofString "_m", NameKind.local)] from rfl]
    decide
  k_dflt ((refine' kla_code ?k1 ?k2 ?k3 ?k4 ?k5 ?kA ?kF ?kK ?k6 ?k7 ?k8 ?k9 ?kB ?_ ?c2 ?c3 ?c4 ?c5); (case kA => exact rfl); (case kF => exact rfl); (case kK => exact hk); (case k1 => k_asm); (case k2 => k_asm); (case k3 => k_asm); (case k4 => k_asm); (case k5 => k_asm); (case k6 => exact hf); (case k7 => exact codeRec_news N hc hd1 hd2); (case k8 => k_room); (case k9 => exact rfl); (case c5 => exact hcell); (case kB => exact locs rfl); (case c2 => exact rfl); (case c3 => exact rfl); (case c4 => exact rfl); k_whole; intro g' L' h' FG' F' N' B' X' T'; (try dsimp only); (try k_lift B'); (try k_fold))
  conv in (eval _ _) => arg 1; whnf
  k_steps
  refine truthy_S (by decide) fun k2 => ?_
  refine if_pos rfl ▸ ?_
  k_steps
  rw [l_bs, S_app]
  exact h _ _ _ (by k_asm) (by k_asm)
/-- what sub does to a set: nothing, or a sign is put ahead of the one that it finds -/
noncomputable def SubOk (l r : List Nat) : Prop := (failsAt l 0 = true ∧ r = l ∧ 0 < l.length ∧ l.length < 1000) ∨ ∃ a c, l = [a, c] ∧ hitAt [a, c] 0 1 = true ∧ failsAt [a, c] 2 = true ∧ r = [a, 92, c]
theorem sub_rule (w : World) (mean : ExcName → Option Value) (mg mb : Str → Option Value) {dp un : Nat} {gd : Option (List Code)} {cn : Str} {cs : Scope} {a : Addr} {ccd : Value} {cl : List (Str × Addr)} {outer : List Env} {A₀ : Around} {base h₀ : Heap} {L : Addr} {m : Str → Option Value} {news : Led} {s : Shared}
    {Q E : Value → Shared → Prop} {f c' : Addr} {tl : Tok} {pm ctv : Value} {qual : Str} {l r : List Nat}
    (B : Below A₀ base outer h₀) (F : Fr h₀ L s.heap m) (X : Frag.In (hd.heap_39 w.params) h₀) (N : News h₀ L s.heap news) (T : Top topProg LooseL mean mg mb h₀) (hk : cs.kind = .function) (hdd : dp + 15 < recursionLimit) (hu : un + 150 < cLine)
    (hf : (f, lamFn (hd.heap_39 w.params) qual c' pm ctv) ∈ news) (hc : ∃ oc vs t, (c', oc) ∈ news ∧ oc.data = .fields vs ∧ vs[1]? = some (.str qual t)) (hs : SubOk l r)
    (h : ∀ h' tk t', Fr h₀ L h' m → News h₀ L h' news → Q (.str (S r) t') {s with heap := h', toks := tk}) :
    wpAny (model PySem.Challenge.rw_ij0088_01.row.prog w) (ktrTop dp un gd cn cs L a ccd cl outer) (call (.builtin "re.Pattern.sub") [.ref 50, .ref f, .str (S l) tl]) Q E s := by
  obtain ⟨vs, h49, hvs⟩ := o49 w
  obtain ⟨v, t, d, fl, ts, h50, rfl⟩ := o50 w
  obtain ⟨hp, g, d, tk, os⟩ := s
  have g50 := F.keep _ _ (X _ _ h50)
  have g49 := F.keep _ _ (X _ _ h49)
  have hT : ∀ tk, Shared.TypeIs ⟨hp, g, d, tk, os⟩ (.ref f) "function" := fun tk => ⟨_, (N _ hf).1, rfl⟩
  rcases hs with ⟨h1, rfl, h2, h3⟩ | ⟨x, c, rfl, h1, h2, rfl⟩
  · exact sub_none hvs g50 g49 hT h1 h2 h3 (fun h' tk t' K => h h' tk t' (F.keeps K) fun p hp => ⟨K _ _ (N p hp).1, (N p hp).2⟩)
  · have hL : @LT.lt Nat _ L hp.objs.size := F.ns.lt
    have fresh : ∀ b, @LE.le Nat _ hp.objs.size b → b ≠ L ∧ h₀.get? b = none := fun b hb => ⟨Nat.ne_of_gt (Nat.lt_of_lt_of_le hL hb), Heap.get?_none_of_le (Nat.le_trans F.above (Nat.le_trans (Nat.le_of_lt hL) hb))⟩
    refine sub_one (y := [92, c]) (P := fun h => Fr h₀ L h m ∧ News h₀ L h news) hvs g50 g49 hT h1 h2 (by show 2 < 1000; decide) ?_ ?_ ?_ (fun h' tk t' hP => h h' tk t' hP.1 hP.2)
    · intro h' tk' b a' n k D t5 Q E K sD sb sa gD gb ga post
      obtain ⟨oc, vs', t', c1, c2, c3⟩ := hc
      have N' : News h₀ L h' ((b, matObj [x, c] tl a') :: (a', tupObj #[rawInt 1, rawInt 2, rawInt 1, rawInt 2] n) :: (D, listOf #[.str (S [x]) t5] k) :: news) := by
        intro p hp
        rcases List.mem_cons.mp hp with rfl | hp
        · exact ⟨gb, fresh _ sb⟩
        rcases List.mem_cons.mp hp with rfl | hp
        · exact ⟨ga, fresh _ sa⟩
        rcases List.mem_cons.mp hp with rfl | hp
        · exact ⟨gD, fresh _ sD⟩
        · exact ⟨K _ _ (N p hp).1, (N p hp).2⟩
      refine lam_gives w mean mg mb dp un gd cn cs a ccd cl outer A₀ base h₀ L m _ ⟨h', g, d, tk', os⟩ Q E f c' b a' n x c tl pm ctv oc vs' t' qual B (F.keeps K) X N' T hk hdd hu (.tail _ (.tail _ (.tail _ hf))) (.tail _ (.tail _ (.tail _ c1))) c2 c3 (.head _) (.tail _ (.head _)) (fun h'' tk'' t'' F'' N'' => post h'' tk'' t'' ⟨F'', fun p hp => N'' p (.tail _ (.tail _ (.tail _ hp)))⟩ (N'' _ (.tail _ (.tail _ (.head _)))).1)
    · intro h hP
      exact ⟨hP.1.keep _ _ (X _ _ h50), hP.1.keep _ _ (X _ _ h49)⟩
    · intro h h' K ⟨F', N'⟩
      have ne0 : ∀ b o, h₀.get? b = some o → b ≠ hp.objs.size := fun b o e q => by
        rw [q, (fresh _ (Nat.le_refl _)).2] at e
        cases e
      refine ⟨⟨F'.ns.extBut (b := hp.objs.size) K (Nat.ne_of_lt hL), fun b o e => K b o (ne0 b o e) (F'.keep b o e), F'.above⟩, fun p hp' => ⟨K _ _ (Nat.ne_of_lt (Heap.lt_size (N p hp').1)) (N' p hp').1, (N' p hp').2⟩⟩

end Mine
end
section
theorem Mine.begin_Bs : True := by
  w_top off
  k_with_none
  k_with "omega" => (first | with_reducible assumption | with_reducible exact Nat.le_trans (by assumption) (Nat.le_of_ble_eq_true rfl) | with_reducible exact Nat.le_refl _ | with_reducible exact Nat.ne_of_gt (by assumption) | with_reducible exact Nat.ne_of_lt (by assumption) | with_reducible exact Ne.symm (by assumption) | with_reducible exact Int.ofNat_lt.mpr (by assumption) | with_reducible exact Nat.lt_of_le_of_lt (Nat.le_add_right _ _) (by assumption))
  trivial
namespace Mine
theorem low_at {a c : Nat} (ha : a = 33 ∨ a = 46) (h1 : amp c = false) : failsAt [a, c] 0 = true := by
  rcases Nat.lt_or_ge c 256 with h | h
  · have q := low
    rw [List.all_eq_true] at q
    have q1 := q a (by rcases ha with rfl | rfl <;> simp)
    rw [List.all_eq_true] at q1
    have q2 := q1 c (by simpa using h)
    rw [h1] at q2
    simpa using q2
  · obtain ⟨d, rfl⟩ : ∃ d, c = d + 256 := ⟨c - 256, by omega⟩
    rcases ha with rfl | rfl
    · exact high33 d
    · exact high46 d
theorem amp_at {a c : Nat} (ha : a = 33 ∨ a = 46) (h1 : c = 38 ∨ c = 126 ∨ c = 124) : hitAt [a, c] 0 1 = true ∧ failsAt [a, c] 2 = true := by
  have q := g1
  rw [List.all_eq_true] at q
  have q1 := q a (by rcases ha with rfl | rfl <;> simp)
  rw [List.all_eq_true] at q1
  have q2 := q1 c (by rcases h1 with rfl | rfl | rfl <;> simp)
  simpa using q2
theorem set_sub {a c : Nat} (ha : a = 33 ∨ a = 46) (hc : c ≠ 45) : ∃ r1 y Y, rep1 92 [92, 92] [a, c] = r1 ∧ SubOk r1 (a :: y :: Y) ∧ y :: Y = Pc.inSet c ∧ Y.length ≤ 10 := by
  have ha92 : (a == 92) = false := by rcases ha with rfl | rfl <;> rfl
  have ha92' : a ≠ 92 := by rcases ha with rfl | rfl <;> decide
  by_cases h92 : c = 92
  · subst h92
    refine ⟨[a, 92, 92], 92, [92], by simp [rep1, ha92'], .inl ⟨?_, rfl, by simp, by simp⟩, by simp [Pc.inSet], by simp⟩
    rcases ha with rfl | rfl
    · exact f5
    · exact f6
  · have e : rep1 92 [92, 92] [a, c] = [a, c] := by simp [rep1, ha92', h92]
    by_cases hamp : c = 38 ∨ c = 126 ∨ c = 124
    · obtain ⟨q1, q2⟩ := amp_at ha hamp
      refine ⟨[a, c], 92, [c], e, .inr ⟨a, c, rfl, q1, q2, rfl⟩, ?_, by simp⟩
      rcases hamp with rfl | rfl | rfl <;> simp [Pc.inSet]
    · have q : amp c = false := by
        simp only [not_or] at hamp
        simp [amp, hamp]
      simp only [not_or] at hamp
      refine ⟨[a, c], c, [], e, .inl ⟨low_at ha q, rfl, by simp, by simp⟩, ?_, by simp⟩
      simp [Pc.inSet, h92, hc, hamp]
end Mine
end
section
theorem Mine.begin_T0 : True := by
  w_top off
  k_with_none
  k_with "omega" => (first | with_reducible assumption | with_reducible exact Nat.le_trans (by assumption) (Nat.le_of_ble_eq_true rfl) | with_reducible exact Nat.le_refl _ | with_reducible exact Nat.ne_of_gt (by assumption) | with_reducible exact Nat.ne_of_lt (by assumption) | with_reducible exact Ne.symm (by assumption) | with_reducible exact Int.ofNat_lt.mpr (by assumption) | with_reducible exact Nat.lt_of_le_of_lt (Nat.le_add_right _ _) (by assumption))
  trivial
namespace Mine
noncomputable abbrev lamQl : Str := (envX (Str.ofString "_translate") default 0 0 .none []).qual ++ "<lambda>"
noncomputable abbrev genQl : Str := (envX (Str.ofString "_translate") default 0 0 .none []).qual ++ "<genexpr>"
noncomputable abbrev lamPos : Pos := ⟨75, 39, 75, 76⟩
noncomputable abbrev genPos : Pos := ⟨74, 37, 74, 98⟩
noncomputable abbrev trKs : List (Pos × Str) := [(lamPos, lamQl), (genPos, genQl)]
theorem trKs_lam : ∀ k ∈ trKs, k = (lamPos, lamQl) ∨ (lamPos.line == k.1.line && lamPos.col == k.1.col) = false := by
  intro k hk
  rcases List.mem_cons.mp hk with rfl | hk
  · exact .inl rfl
  rcases List.mem_cons.mp hk with rfl | hk
  · exact .inr rfl
  · cases hk
theorem trKs_gen : ∀ k ∈ trKs, k = (genPos, genQl) ∨ (genPos.line == k.1.line && genPos.col == k.1.col) = false := by
  intro k hk
  rcases List.mem_cons.mp hk with rfl | hk
  · exact .inr rfl
  rcases List.mem_cons.mp hk with rfl | hk
  · exact .inl rfl
  · cases hk
theorem slice_at (pre x post : List Nat) (k m : Nat) {i j : Int} (hi : i = ((pre.length + k : Nat) : Int)) (hj : j = ((pre.length + k + m : Nat) : Int)) (hx : k + m ≤ x.length) : Txt.slice (S (pre ++ (x ++ post))) (some i) (some j) = S ((x.drop k).take m) := by
  subst hi
  subst hj
  rw [slice_mid _ _ _ (by omega) (by omega)]
  have e1 : (((pre.length + k : Nat) : Int)).toNat = pre.length + k := by omega
  have e2 : (((pre.length + k + m : Nat) : Int) - ((pre.length + k : Nat) : Int)).toNat = m := by omega
  rw [e1, e2, List.drop_append, List.drop_append, List.drop_of_length_le (by omega), List.nil_append]
  have e3 : pre.length + k - pre.length = k := by omega
  rw [e3, List.take_append_of_le_length (by rw [List.length_drop]; omega)]
theorem codes_up {c' : Addr} {qual : Str} {rest news : Led} (h : ∃ oc vs t, (c', oc) ∈ rest ∧ oc.data = .fields vs ∧ vs[1]? = some (.str qual t)) (hs : ∀ p ∈ rest, p ∈ news) : ∃ oc vs t, (c', oc) ∈ news ∧ oc.data = .fields vs ∧ vs[1]? = some (.str qual t) :=
  let ⟨oc, vs, t, a, b, c⟩ := h; ⟨oc, vs, t, hs _ a, b, c⟩
theorem codeHd_of {w : World} {h : Heap} (X : Frag.In (hd.heap_39 w.params) h) : CodeHd h 75 71 := ⟨_, _, _, _, _, _, _, _, _, X 75 _ rfl, rfl, rfl, rfl, rfl, rfl, rfl, rfl, rfl, by decide⟩
theorem getMethod_sub' {w : World} {M : Model} {A : Around} {E : Value → Shared → Prop} {s : Shared} {pl : Sem Bool} {Q : Value × List Value → Shared → Prop} (h50 : s.heap.get? 50 = some (patAt w)) (h : Q (.builtin "re.Pattern.sub", [.ref 50]) s) : wpAny M A (getMethod (.ref 50) "sub" pl) Q E s := by
  obtain ⟨v, t, fl, ts, e⟩ := patAt_is w
  rw [e] at h50
  exact getMethod_sub h50 h
/-- what stands between the turns -/
structure TrInv (ps : List Pc) (l : List Nat) (st : Addr) (rest₀ : Led) (s₀ : Shared) (n : Nat) (m : Str → Option Value) (news : Led) (s : Shared) : Prop where
  more : ∃ T rest r q dn rst its k i' n' t1 t2, TabOk trKs T rest ∧ (∀ p ∈ rest₀, p ∈ rest) ∧ (∀ p ∈ rest, p.1 ≠ 71) ∧ (∀ p ∈ rest, p.1 ≠ r) ∧ (∀ p ∈ rest, p.1 ≠ q) ∧ @LT.lt Nat _ 71 r ∧ @LT.lt Nat _ r q ∧ ps = dn ++ rst ∧ n = rst.length ∧ All2 (ResAt st) its dn ∧ news = (r, listOf its.toArray k) :: (q, bmObj "list.append" r) :: (71, tabObj T) :: rest ∧ its.length ≤ 1000 ∧
    m "pat" = some (.str (S l) t1) ∧ m "STAR" = some (.ref st) ∧ m "QUESTION_MARK" = some (.str (Str.ofString ".") t2) ∧ m "res" = some (.ref r) ∧ m "add" = some (.ref q) ∧ m "i" = some (.int ((textOf dn).length : Int) i') ∧ m "n" = some (.int ((l.length : Nat) : Int) n')
  os : s.os = s₀.os
  gens : AllBare s.gens
theorem tr_step {ps : List Pc} {l : List Nat} {st : Addr} {rest₀ : Led} {s₀ : Shared} {T : Array Value} {rest : Led} {r q : Addr} {dn rst : List Pc} {p : Pc} {its : List Value} {k : Nat} {n' t1 t2 t3 : Tok} {j : Int} {m : Str → Option Value} {s : Shared} {v : Value}
    (h1 : TabOk trKs T rest) (h2 : ∀ p ∈ rest₀, p ∈ rest) (h3 : ∀ p ∈ rest, p.1 ≠ 71) (h4 : ∀ p ∈ rest, p.1 ≠ r) (h5 : ∀ p ∈ rest, p.1 ≠ q) (h6 : @LT.lt Nat _ 71 r) (h7 : @LT.lt Nat _ r q) (h8 : ps = dn ++ p :: rst) (h9 : All2 (ResAt st) its dn) (h10 : ps.length ≤ 900)
    (hv : ResAt st v p) (hos : s.os = s₀.os) (hg : AllBare s.gens)
    (m1 : m "pat" = some (.str (S l) t1)) (m2 : m "STAR" = some (.ref st)) (m3 : m "QUESTION_MARK" = some (.str (Str.ofString ".") t2)) (m4 : m "res" = some (.ref r)) (m5 : m "add" = some (.ref q)) (m6 : m "i" = some (.int j t3)) (hj : j = (((textOf dn).length + p.text.length : Nat) : Int)) (m7 : m "n" = some (.int ((l.length : Nat) : Int) n')) :
    TrInv ps l st rest₀ s₀ rst.length m ((r, listOf (its ++ [v]).toArray k) :: (q, bmObj "list.append" r) :: (71, tabObj T) :: rest) s := by
  subst hj
  have e : (textOf dn).length + p.text.length = (textOf (dn ++ [p])).length := by simp [textOf]
  rw [e] at m6
  have hl := h9.length
  refine ⟨⟨T, rest, r, q, dn ++ [p], rst, its ++ [v], k, _, _, _, _, h1, h2, h3, h4, h5, h6, h7, by rw [h8]; simp, rfl, h9.app (.cons hv .nil), rfl, ?_, m1, m2, m3, m4, m5, m6, m7⟩, hos, hg⟩
  have : ps.length = dn.length + rst.length + 1 := by rw [h8]; simp; omega
  simp
  omega
noncomputable def scAt (K : Frag) (a : Addr) : Scope := (fnAt K a).scope
noncomputable def tailStmts (K : Frag) : List Stmt := (setStmts K).drop 2
noncomputable def setOut (x : Nat) (Y : List Nat) : List Nat := if x = 33 then 91 :: 94 :: (Y ++ [93]) else if x = 91 then 91 :: 92 :: x :: (Y ++ [93]) else 91 :: x :: (Y ++ [93])
theorem inset_len {c y : Nat} {Y : List Nat} (h : y :: Y = Pc.inSet c) : (y :: Y).length ≤ 10 := by
  rw [h]
  unfold Pc.inSet
  split <;> simp

end Mine
end
section
theorem Mine.begin_Pd : True := by
  w_top off
  k_with_none
  k_with "omega" => (first | with_reducible assumption | with_reducible exact Nat.le_trans (by assumption) (Nat.le_of_ble_eq_true rfl) | with_reducible exact Nat.le_refl _ | with_reducible exact Nat.ne_of_gt (by assumption) | with_reducible exact Nat.ne_of_lt (by assumption) | with_reducible exact Ne.symm (by assumption) | with_reducible exact Int.ofNat_lt.mpr (by assumption) | with_reducible exact Nat.lt_of_le_of_lt (Nat.le_add_right _ _) (by assumption))
  trivial
namespace Mine
noncomputable def textX (ps : List Pc) : List Nat := [40, 63, 115, 58] ++ trOf ps ++ [41, 92, 90]
noncomputable def posX (dn : List Pc) : Nat := 4 + (trOf dn).length
theorem textX_split (dn : List Pc) (p : Pc) (rst : List Pc) : textX (dn ++ p :: rst) = ([40, 63, 115, 58] ++ trOf dn) ++ p.tr ++ (trOf rst ++ [41, 92, 90]) := by
  simp [textX, trOf]
theorem textX_at (dn : List Pc) (p : Pc) (rst : List Pc) (i : Nat) (h : i < p.tr.length) : (textX (dn ++ p :: rst))[posX dn + i]? = p.tr[i]? := by
  rw [textX_split]
  have := get_pre ([40, 63, 115, 58] ++ trOf dn) p.tr (trOf rst ++ [41, 92, 90]) i h
  rw [← this]
  congr 1
  simp only [posX, List.length_append, List.length_cons, List.length_nil]
theorem textX_len (dn : List Pc) (p : Pc) (rst : List Pc) : (textX (dn ++ p :: rst)).length = posX dn + p.tr.length + (trOf rst).length + 3 := by
  rw [textX_split]
  simp [posX]
  omega
theorem posX_next (dn : List Pc) (p : Pc) : posX (dn ++ [p]) = posX dn + p.tr.length := by simp [posX, trOf]; omega
/-- the sign behind a piece is no star -/
theorem tr_head (p : Pc) : ∃ c r, p.tr = c :: r ∧ c ≠ 42 := by
  cases p with
  | lit c =>
    by_cases h : c ∈ specials
    · exact ⟨92, [c], by simp [Pc.tr, esc, h], by decide⟩
    · exact ⟨c, [], by simp [Pc.tr, esc, h], fun e => h (by rw [e]; decide)⟩
  | brk c =>
    by_cases h : c = 91
    · exact ⟨91, [92, 91, 93], by simp [Pc.tr, h], by decide⟩
    · exact ⟨91, [c, 93], by simp [Pc.tr, h], by decide⟩
  | any => exact ⟨46, [], rfl, by decide⟩
  | star => exact ⟨46, [42], rfl, by decide⟩
  | bar c => exact ⟨91, 94 :: (Pc.inSet c ++ [93]), by simp [Pc.tr], by decide⟩
  | dot c =>
    by_cases h : c = 93
    · exact ⟨91, [93, 46, 93], by simp [Pc.tr, h], by decide⟩
    · exact ⟨91, 46 :: (Pc.inSet c ++ [93]), by simp [Pc.tr, h], by decide⟩
theorem rest_head (rst : List Pc) : ∃ c r, trOf rst ++ [41, 92, 90] = c :: r ∧ c ≠ 42 := by
  cases rst with
  | nil => exact ⟨41, [92, 90], rfl, by decide⟩
  | cons p rst =>
    obtain ⟨c, r, e, h⟩ := tr_head p
    exact ⟨c, r ++ trOf rst ++ [41, 92, 90], by simp [trOf, e], h⟩
theorem textX_next (dn : List Pc) (p : Pc) (rst : List Pc) : ∃ c, (textX (dn ++ p :: rst))[posX dn + p.tr.length]? = some c ∧ c ≠ 42 := by
  obtain ⟨c, r, e, h⟩ := rest_head rst
  refine ⟨c, ?_, h⟩
  rw [textX_split, e, List.getElem?_append_right (by simp only [posX, List.length_append, List.length_cons, List.length_nil]; omega)]
  have e0 : posX dn + p.tr.length - ([40, 63, 115, 58] ++ trOf dn ++ p.tr).length = 0 := by simp only [posX, List.length_append, List.length_cons, List.length_nil]; omega
  exact (congrArg (fun i => (c :: r)[i]?) e0).trans rfl
theorem take_two {l : List Nat} {i a b : Nat} (h1 : l[i]? = some a) (h2 : l[i + 1]? = some b) : (l.drop i).take 2 = [a, b] := by
  apply List.ext_getElem?
  intro j
  rcases j with _ | _ | j
  · rw [List.getElem?_take_of_lt (by omega), List.getElem?_drop]; simpa using h1
  · rw [List.getElem?_take_of_lt (by omega), List.getElem?_drop]; simpa using h2
  · simp; omega
theorem slice_two {l : List Nat} {i a b : Nat} (h1 : l[i]? = some a) (h2 : l[i + 1]? = some b) : Txt.slice (S l) (some (i : Int)) (some ((i : Int) + 2)) = S [a, b] := by
  rw [slice_mid _ _ _ (by omega) (by omega)]
  have e1 : ((i : Int)).toNat = i := by omega
  have e2 : ((i : Int) + 2 - (i : Int)).toNat = 2 := by omega
  rw [e1, e2, take_two h1 h2]
theorem textX_open (ps : List Pc) : Txt.slice (S (textX ps)) none (some 4) = S [40, 63, 115, 58] := by
  rw [slice_to _ _ (by decide)]
  rfl
theorem textX_close (ps : List Pc) : Txt.slice (S (textX ps)) (some (-3)) none = S [41, 92, 90] := by
  rw [slice_neg _ _ (by decide) (by simp [textX]; omega)]
  congr 1
  have e : (textX ps).length - ((-(-3) : Int)).toNat = ([40, 63, 115, 58] ++ trOf ps).length := by simp [textX]
  rw [e]
  exact List.drop_left' rfl
/-- the signs of a set: each with a backslash ahead, or bare -/
noncomputable def encs (es : List (Bool × Nat)) : List Nat := es.flatMap fun e => if e.1 then [92, e.2] else [e.2]
noncomputable def insE (c : Nat) : Bool × Nat := (decide (c = 92 ∨ c = 45 ∨ c = 38 ∨ c = 126 ∨ c = 124), c)
theorem encs_insE (c : Nat) : encs [insE c] = Pc.inSet c := by
  by_cases h : c = 92 ∨ c = 45 ∨ c = 38 ∨ c = 126 ∨ c = 124
  · simp [encs, insE, Pc.inSet, h]
  · simp [encs, insE, Pc.inSet, h]
structure SetForm (p : Pc) (b : Bool) (es : List (Bool × Nat)) : Prop where
  tr : p.tr = 91 :: ((if b then [94] else []) ++ (encs es ++ [93]))
  part : p.part = some (b, es.map (·.2))
  ne : es ≠ []
  bare : ∀ e ∈ es, e.1 = false → e.2 ≠ 92
  tail : ∀ e ∈ es.tail, e.1 = false → e.2 ≠ 93
  head : b = false → ∃ c r, encs es = c :: r ∧ c ≠ 94
theorem insE_bare (c : Nat) : (insE c).1 = false → (insE c).2 ≠ 92 := by
  intro h e
  have : c = 92 := e
  subst this
  exact absurd h (by decide)
theorem form_brk {c : Nat} (h : c = 91 ∨ c = 42 ∨ c = 63) : ∃ es, SetForm (.brk c) false es := by
  by_cases hc : c = 91
  · subst hc
    exact ⟨[(true, 91)], by simp [Pc.tr, encs], rfl, by simp, by simp, by simp, fun _ => ⟨92, [91], rfl, by decide⟩⟩
  · refine ⟨[(false, c)], by simp [Pc.tr, encs, hc], rfl, by simp, ?_, by simp, fun _ => ⟨c, [], rfl, ?_⟩⟩
    · simp; rcases h with h | h | h <;> omega
    · rcases h with h | h | h <;> omega
theorem form_bar (c : Nat) : ∃ es, SetForm (.bar c) true es := by
  refine ⟨[insE c], by rw [encs_insE]; rfl, rfl, by simp, ?_, by simp, by simp⟩
  simpa using insE_bare c
theorem form_dot (c : Nat) : ∃ es, SetForm (.dot c) false es := by
  by_cases hc : c = 93
  · subst hc
    exact ⟨[(false, 93), (false, 46)], by simp [Pc.tr, encs], rfl, by simp, by simp, by simp, fun _ => ⟨93, [46], rfl, by decide⟩⟩
  · refine ⟨[(false, 46), insE c], ?_, by simp [Pc.part, hc, insE], by simp, ?_, ?_, fun _ => ⟨46, encs [insE c], by simp [encs], by decide⟩⟩
    · have := encs_insE c
      simp only [Pc.tr, hc, if_false, ← this]
      simp [encs]
    · intro e he
      rcases List.mem_cons.mp he with rfl | he
      · simp
      · rcases List.mem_cons.mp he with rfl | he
        · exact insE_bare c
        · cases he
    · intro e he
      have : e = insE c := by simpa using he
      subst this
      intro _
      exact hc
theorem encs_app (a b : List (Bool × Nat)) : encs (a ++ b) = encs a ++ encs b := by simp [encs]
theorem encs_len : ∀ es : List (Bool × Nat), es.length ≤ (encs es).length
  | [] => Nat.le_refl _
  | e :: r => by
    have := encs_len r
    have h : 1 ≤ (if e.1 then [92, e.2] else [e.2] : List Nat).length := by split <;> simp
    show r.length + 1 ≤ ((if e.1 then [92, e.2] else [e.2]) ++ encs r).length
    rw [List.length_append]
    omega
theorem hd2F {a b c : Nat} {l r : List Nat} (h : b ≠ c) : decide (a :: b :: l = a :: c :: r) = false := decide_eq_false fun q => h (List.cons.inj (List.cons.inj q).2).1
theorem pl0 (a : Nat) : (a : Int) + 0 = ((a : Nat) : Int) := rfl
theorem pl01 (a : Nat) : (a : Int) + 0 + 1 = ((a + 1 : Nat) : Int) := rfl
theorem iadd_S {prog : Program} {w : World} {A : Around} {E : Value → Shared → Prop} {s : Shared} {a b : List Nat} {t u : Tok} {Q : Value → Shared → Prop} (hl : a.length + b.length ≤ 100000) (h : ∀ t' tk, Q (.str (S (a ++ b)) t') { s with toks := tk }) : wpAny (model prog w) A (inplaceOp .Add (.str (S a) t) (.str (S b) u)) Q E s := by
  refine iadd_str (fun t' tk => ?_) (by rw [S_len, S_len, sizeLine_eq]; omega)
  rw [S_app]
  exact h t' tk
end Mine
end
section
theorem Mine.begin_Pq : True := by
  w_top off
  k_with_none
  k_with "omega" => (first | with_reducible assumption | with_reducible exact Nat.le_trans (by assumption) (Nat.le_of_ble_eq_true rfl) | with_reducible exact Nat.le_refl _ | with_reducible exact Nat.ne_of_gt (by assumption) | with_reducible exact Nat.ne_of_lt (by assumption) | with_reducible exact Ne.symm (by assumption) | with_reducible exact Int.ofNat_lt.mpr (by assumption) | with_reducible exact Nat.lt_of_le_of_lt (Nat.le_add_right _ _) (by assumption))
  trivial
namespace Mine
/-- the plain law: what the patterns take, no program in sight -/
noncomputable def plainPc (c : Nat) : Pc := if c = 91 ∨ c = 42 ∨ c = 63 then .brk c else .lit c
theorem plainPc_ok (c : Nat) : (plainPc c).ok := by
  unfold plainPc
  split
  · assumption
  · rename_i h
    simp only [not_or] at h
    exact ⟨h.1, h.2.1, h.2.2⟩
theorem plainPc_part (c : Nat) : (plainPc c).part = some (false, [c]) := by
  unfold plainPc
  split <;> rfl
theorem plainPc_star (c : Nat) : (plainPc c).isStar = false := by
  unfold plainPc
  split <;> rfl
theorem plainL_one (c : Nat) : plainL [c] = (plainPc c).text := by
  unfold plainL plainPc
  by_cases h1 : c = 91
  · subst h1; decide
  by_cases h2 : c = 42
  · subst h2; decide
  by_cases h3 : c = 63
  · subst h3; decide
  · simp [rep1, h1, h2, h3, Pc.text]
theorem plainL_app (a b : List Nat) : plainL (a ++ b) = plainL a ++ plainL b := by simp [plainL, rep1_app]
theorem plainL_text : ∀ l : List Nat, plainL l = textOf (l.map plainPc)
  | [] => rfl
  | c :: r => by
    rw [show c :: r = [c] ++ r from rfl, plainL_app, plainL_one, plainL_text r]
    rfl
/-- parts that stand for single signs -/
noncomputable def plainParts (l : List Nat) : List PtD := l.map fun c => some (false, [c])
theorem plainParts_of (l : List Nat) : partsOf (l.map plainPc) = plainParts l := by
  simp [partsOf, plainParts, plainPc_part]
theorem starOf_plain : ∀ l : List Nat, starOf (plainParts l) = none
  | [] => rfl
  | c :: r => by
    show (starOf (plainParts r)).map (· + 1) = none
    rw [starOf_plain r]; rfl
theorem starOf_at : ∀ (a : List PtD) (b : List PtD), starOf a = none → starOf (a ++ none :: b) = some a.length
  | [], _, _ => rfl
  | none :: _, _, h => by cases h
  | some q :: r, b, h => by
    have hr : starOf r = none := by
      simp only [starOf, Option.map_eq_none_iff] at h
      exact h
    show (starOf (r ++ none :: b)).map (· + 1) = _
    rw [starOf_at r b hr]
    rfl
theorem rowOk_plain : ∀ (l x : List Nat), rowOk (plainParts l) x = decide (x = l)
  | [], [] => rfl
  | [], _ :: _ => rfl
  | _ :: _, [] => rfl
  | c :: l, d :: x => by
    show (!cellL d (some (false, [c])) && rowOk (plainParts l) x) = _
    rw [rowOk_plain l x]
    have e : (!cellL d (some (false, [c]))) = decide (d = c) := by
      simp [cellL]
    rw [e]
    simp
theorem takes_plain (l x : List Nat) : takesL (plainParts l) x = decide (x = l) := by
  unfold takesL
  rw [starOf_plain]
  exact rowOk_plain l x
theorem rowOk_app : ∀ (a b : List PtD) (x y : List Nat), a.length = x.length → rowOk (a ++ b) (x ++ y) = (rowOk a x && rowOk b y)
  | [], _, [], _, _ => by simp [rowOk]
  | [], _, _ :: _, _, h => by cases h
  | _ :: _, _, [], _, h => by cases h
  | p :: a, b, d :: x, y, h => by
    show (!cellL d p && rowOk (a ++ b) (x ++ y)) = _
    rw [rowOk_app a b x y (by simpa using h)]
    simp [rowOk, Bool.and_assoc]
theorem min_len {a b n : Nat} (h : a + b ≤ n) : min a n = a := Nat.min_eq_left (Nat.le_trans (Nat.le_add_right a b) h)
theorem post_len {a b n : Nat} (h : a + b ≤ n) : n - (n - b) = b := Nat.sub_sub_self (Nat.le_trans (Nat.le_add_left b a) h)
theorem sub_split {a b n : Nat} (h : a + b ≤ n) : n - (a + b) + a = n - b := by
  obtain ⟨c, rfl⟩ := Nat.exists_eq_add_of_le h
  rw [Nat.add_sub_cancel_left, show a + b + c = (c + a) + b by rw [Nat.add_comm c a, Nat.add_assoc, Nat.add_assoc, Nat.add_comm b c], Nat.add_sub_cancel]
/-- what a pattern with one star takes -/
theorem takes_star (a b : List PtD) (x : List Nat) (ha : starOf a = none) : takesL (a ++ none :: b) x = (decide (a.length + b.length ≤ x.length) && (rowOk a (x.take a.length) && rowOk b (x.drop (x.length - b.length)))) := by
  unfold takesL
  rw [starOf_at a b ha]
  have e1 : (a ++ none :: b).take a.length = a := List.take_left' rfl
  have e2 : (a ++ none :: b).drop (a.length + 1) = b := by
    rw [show a ++ none :: b = (a ++ [none]) ++ b by simp]
    exact List.drop_left' (by simp)
  simp only [e1, e2, List.length_append]
  by_cases h : x.length < a.length + b.length
  · rw [if_pos h, decide_eq_false (Nat.not_le.mpr h), Bool.false_and]
  · have h' := Nat.le_of_not_lt h
    rw [if_neg h, decide_eq_true h', Bool.true_and]
    rw [rowOk_app _ _ _ _ (by rw [List.length_take]; exact (min_len h').symm), sub_split h']
/-- three dots -/
noncomputable abbrev dots : List Nat := [46, 46, 46]
theorem cram_cut {l : List Nat} {k : Int} (h : k < l.length) : cramL l k = l.take (preL k) ++ dots ++ l.drop (l.length - postL k) := by
  unfold cramL
  rw [if_pos h]
theorem cram_dots {l : List Nat} {k : Int} (h : k < l.length) : ((cramL l k).drop (preL k)).take 3 = dots := by
  have := (preL_le k l.length h).1
  rw [cram_cut h, List.append_assoc, List.drop_left' (by rw [List.length_take]; exact min_len this)]
  rfl
theorem cram_head {l : List Nat} {k : Int} (h : k < l.length) : (cramL l k).take (preL k) = l.take (preL k) := by
  have := (preL_le k l.length h).1
  rw [cram_cut h, List.append_assoc, List.take_left' (by rw [List.length_take]; exact min_len this)]
theorem cram_tail {l : List Nat} {k : Int} (h : k < l.length) : (cramL l k).drop (preL k + 3) = l.drop (l.length - postL k) := by
  have := (preL_le k l.length h).1
  rw [cram_cut h]
  exact List.drop_left' (by rw [List.length_append, List.length_take]; show min _ _ + 3 = _; rw [min_len this])
theorem cram_len {l : List Nat} {k : Int} (h : k < l.length) : (cramL l k).length = preL k + 3 + postL k := by
  have := (preL_le k l.length h).1
  rw [cram_cut h]
  rw [List.length_append, List.length_append, List.length_take, List.length_drop, min_len this, post_len this]
  rfl
theorem short_of {a b : Nat} {k : Int} (h1 : 3 ≤ k → a + b = (k - 3).toNat) (h2 : k < 3 → a = 0 ∧ b = 0) : ((a + 3 + b : Nat) : Int) ≤ max 3 k := by
  rcases Int.lt_or_le k 3 with q | q
  · obtain ⟨rfl, rfl⟩ := h2 q
    exact Int.le_max_left 3 k
  · have := h1 q
    rw [show a + 3 + b = (a + b) + 3 by rw [Nat.add_assoc, Nat.add_comm 3 b, ← Nat.add_assoc], this]
    refine Int.le_trans ?_ (Int.le_max_right 3 k)
    rw [Int.natCast_add, Int.toNat_of_nonneg (Int.sub_nonneg_of_le q)]
    exact Int.le_of_eq (Int.sub_add_cancel k 3)
theorem fits_iff {a b n : Nat} {k : Int} (h1 : 3 ≤ k → a + b = (k - 3).toNat) (h2 : k < 3 → a = 0 ∧ b = 0) : a + b ≤ n ↔ (n : Int) ≥ k - 3 := by
  rcases Int.lt_or_le k 3 with q | q
  · obtain ⟨rfl, rfl⟩ := h2 q
    exact ⟨fun _ => Int.le_trans (Int.sub_nonpos_of_le (Int.le_of_lt q)) (Int.natCast_nonneg n), fun _ => Nat.zero_le _⟩
  · rw [h1 q]
    exact Int.toNat_le
theorem cram_short {l : List Nat} {k : Int} (h : k < l.length) : ((cramL l k).length : Int) ≤ max 3 k := by
  rw [cram_len h]
  have h1 := preL_le k l.length h
  exact short_of h1.2.1 h1.2.2
theorem mid_four {a n : Nat} (h : a ≤ n) : a + 4 + (n - a) = n + 4 := by rw [Nat.add_right_comm, Nat.add_sub_of_le h]
theorem cut_add {a b n : Nat} (h : a + b ≤ n) : a + (n - b - a) = n - b := Nat.add_sub_of_le (Nat.le_sub_of_add_le h)
theorem four_cut {a b n : Nat} (h : a + b ≤ n) : n + 4 - b = a + 4 + (n - b - a) := by rw [Nat.sub_add_comm (Nat.le_trans (Nat.le_add_left b a) h), Nat.add_right_comm, cut_add h]
theorem four_lt (n : Nat) : (n : Int) + 3 < ((n + 4 : Nat) : Int) := by omega
/-- the pattern of a crammed text takes just what is crammed to it -/
theorem takes_cram {l x : List Nat} {k : Int} (h : k < l.length) :
    takesL (plainParts ((cramL l k).take (preL k)) ++ none :: plainParts ((cramL l k).drop (preL k + 3))) x =
      (decide ((x.length : Int) ≥ k - 3) && decide (cramL (if (x.length : Int) > k then x else x.take (preL k) ++ [46, 46, 46, 46] ++ x.drop (preL k)) k = cramL l k)) := by
  have h1 := preL_le k l.length h
  rw [takes_star _ _ _ (starOf_plain _), rowOk_plain, rowOk_plain, cram_head h, cram_tail h]
  have la : (plainParts (l.take (preL k))).length = preL k := by rw [plainParts, List.length_map, List.length_take, min_len h1.1]
  have lb : (plainParts (l.drop (l.length - postL k))).length = postL k := by rw [plainParts, List.length_map, List.length_drop, post_len h1.1]
  rw [la, lb]
  rw [Bool.eq_iff_iff]
  simp only [Bool.and_eq_true, decide_eq_true_eq]
  have key : ∀ y : List Nat, k < y.length → (cramL y k = cramL l k ↔ y.take (preL k) = l.take (preL k) ∧ y.drop (y.length - postL k) = l.drop (l.length - postL k)) := by
    intro y hy
    have hy1 := preL_le k y.length hy
    rw [cram_cut hy, cram_cut h]
    constructor
    · intro e
      have e0 : (y.take (preL k)).length = (l.take (preL k)).length := by rw [List.length_take, List.length_take, min_len hy1.1, min_len h1.1]
      have e1 := List.append_inj e (by rw [List.length_append, List.length_append, e0])
      exact ⟨(List.append_inj e1.1 e0).1, e1.2⟩
    · rintro ⟨e1, e2⟩
      rw [e1, e2]
  by_cases hx : (x.length : Int) > k
  · rw [if_pos hx]
    have hx1 := preL_le k x.length hx
    rw [key x hx]
    constructor
    · rintro ⟨_, a, b⟩
      exact ⟨Int.le_trans (Int.sub_le_self k (by decide)) (Int.le_of_lt hx), a, b⟩
    · rintro ⟨_, a, b⟩
      exact ⟨hx1.1, a, b⟩
  · rw [if_neg hx]
    have hk : preL k + postL k ≤ x.length ↔ (x.length : Int) ≥ k - 3 := fits_iff h1.2.1 h1.2.2
    rw [hk]
    refine and_congr_right fun hx3 => ?_
    have hpx := hk.mpr hx3
    have hyl : (x.take (preL k) ++ [46, 46, 46, 46] ++ x.drop (preL k)).length = x.length + 4 := by
      rw [List.length_append, List.length_append, List.length_take, List.length_drop, min_len hpx]
      exact mid_four (Nat.le_trans (Nat.le_add_right _ _) hpx)
    rw [key _ (by rw [hyl]; exact Int.lt_of_le_of_lt (Int.le_add_of_sub_right_le hx3) (four_lt _)), hyl]
    have e1 : (x.take (preL k) ++ [46, 46, 46, 46] ++ x.drop (preL k)).take (preL k) = x.take (preL k) := by
      rw [List.append_assoc]
      exact List.take_left' (by rw [List.length_take, min_len hpx])
    have e2 : (x.take (preL k) ++ [46, 46, 46, 46] ++ x.drop (preL k)).drop (x.length + 4 - postL k) = x.drop (x.length - postL k) := by
      have e3 : x.length + 4 - postL k = (x.take (preL k) ++ [46, 46, 46, 46]).length + (x.length - postL k - preL k) := by
        rw [List.length_append, List.length_take, min_len hpx]
        exact four_cut hpx
      rw [e3, ← List.drop_drop, List.drop_left' rfl, List.drop_drop, cut_add hpx]
    rw [e1, e2]
/-- an item of the view: the piece that says it and the part that it means -/
noncomputable def dressPc (j c : Nat) : Pc := if j = 0 then plainPc c else if j = 1 then .any else if j = 2 then .bar c else .dot c
noncomputable def itemD (j c : Nat) : PtD := if j = 0 then some (false, [c]) else if j = 1 then some (true, []) else if j = 2 then some (true, [c]) else some (false, [46, c])
theorem dressPc_ok (j c : Nat) : (dressPc j c).ok := by
  unfold dressPc
  split
  · exact plainPc_ok c
  split
  · trivial
  split
  · trivial
  · trivial
theorem dressPc_star (j c : Nat) : (dressPc j c).isStar = false := by
  unfold dressPc
  split
  · exact plainPc_star c
  split
  · rfl
  split
  · rfl
  · rfl
theorem cell_dress (d j c : Nat) : cellL d (dressPc j c).part = cellL d (itemD j c) := by
  unfold dressPc itemD
  split
  · rw [plainPc_part]
  split
  · rfl
  split
  · rfl
  · show cellL d (some (false, if c = 93 then [93, 46] else [46, c])) = _
    by_cases h : c = 93
    · subst h
      simp only [if_true, cellL, List.mem_cons, List.not_mem_nil, or_false]
      have e : decide (d = 93 ∨ d = 46) = decide (d = 46 ∨ d = 93) := by rw [Bool.eq_iff_iff, decide_eq_true_eq, decide_eq_true_eq]; exact Or.comm
      rw [e]
    · rw [if_neg h]
noncomputable abbrev Dress := List (Nat × Nat)
noncomputable def viewParts (a : Dress) : List PtD := partsOf (a.map fun e => dressPc e.1 e.2)
noncomputable def itemParts (a : Dress) : List PtD := a.map fun e => itemD e.1 e.2
theorem rowOk_dress : ∀ (a : Dress) (x : List Nat), rowOk (viewParts a) x = rowOk (itemParts a) x
  | [], [] => rfl
  | [], _ :: _ => rfl
  | _ :: _, [] => rfl
  | e :: a, d :: x => by
    show (!cellL d (dressPc e.1 e.2).part && rowOk (viewParts a) x) = (!cellL d (itemD e.1 e.2) && rowOk (itemParts a) x)
    rw [cell_dress, rowOk_dress a x]
theorem starOf_view : ∀ a : Dress, starOf (viewParts a) = none
  | [] => rfl
  | e :: a => by
    have h : ∃ q, (dressPc e.1 e.2).part = some q := by
      have := dressPc_star e.1 e.2
      cases h : dressPc e.1 e.2 <;> rw [h] at this <;> first | exact ⟨_, rfl⟩ | cases this
    obtain ⟨q, hq⟩ := h
    show starOf ((dressPc e.1 e.2).part :: viewParts a) = none
    rw [hq]
    show (starOf (viewParts a)).map (· + 1) = none
    rw [starOf_view a]
    rfl
theorem starOf_items : ∀ a : Dress, starOf (itemParts a) = none
  | [] => rfl
  | e :: a => by
    have h : ∃ q, itemD e.1 e.2 = some q := by
      unfold itemD
      repeat (first | exact ⟨_, rfl⟩ | split)
    obtain ⟨q, hq⟩ := h
    show starOf (itemD e.1 e.2 :: itemParts a) = none
    rw [hq]
    show (starOf (itemParts a)).map (· + 1) = none
    rw [starOf_items a]
    rfl
/-- the view takes what its items mean -/
theorem view_items (a b : Dress) (x : List Nat) : takesL (viewParts a ++ none :: viewParts b) x = takesL (itemParts a ++ none :: itemParts b) x := by
  rw [takes_star _ _ _ (starOf_view a), takes_star _ _ _ (starOf_items a), rowOk_dress, rowOk_dress]
  simp [viewParts, itemParts, partsOf]
theorem tail_cut {a b c n : Nat} (hb : c ≤ b) (h : a + b ≤ n) : n - b + (b - c) = n - c := Nat.sub_add_sub_cancel (Nat.le_trans (Nat.le_add_left b a) h) hb
/-- and takes the crammed text if it has no more items than that has signs there, if and only if it takes the text -/
theorem view_cram {a b : Dress} {l : List Nat} {k : Int} (h : k < l.length) (ha : a.length ≤ preL k) (hb : b.length ≤ postL k) : takesL (viewParts a ++ none :: viewParts b) (cramL l k) = takesL (itemParts a ++ none :: itemParts b) l := by
  have h1 := (preL_le k l.length h).1
  rw [← view_items a b l, takes_star _ _ _ (starOf_view a), takes_star _ _ _ (starOf_view a), cram_len h]
  have la : (viewParts a).length = a.length := by simp [viewParts, partsOf]
  have lb : (viewParts b).length = b.length := by simp [viewParts, partsOf]
  rw [la, lb]
  have e1 : (cramL l k).take a.length = l.take a.length := by
    have := congrArg (List.take a.length) (cram_head h)
    rwa [List.take_take, List.take_take, Nat.min_eq_left ha] at this
  have e2 : (cramL l k).drop (preL k + 3 + postL k - b.length) = l.drop (l.length - b.length) := by
    have := congrArg (List.drop (postL k - b.length)) (cram_tail h)
    rw [List.drop_drop, List.drop_drop] at this
    rw [Nat.add_sub_assoc hb, this, tail_cut hb h1]
  rw [e1, e2, decide_eq_true (Nat.add_le_add (Nat.le_trans ha (Nat.le_add_right _ _)) hb), decide_eq_true (Nat.le_trans (Nat.add_le_add ha hb) h1)]
end Mine
end
section
theorem Mine.begin_Pn : True := by
  w_top off
  k_with_none
  k_with "omega" => (first | with_reducible assumption | with_reducible exact Nat.le_trans (by assumption) (Nat.le_of_ble_eq_true rfl) | with_reducible exact Nat.le_refl _ | with_reducible exact Nat.ne_of_gt (by assumption) | with_reducible exact Nat.ne_of_lt (by assumption) | with_reducible exact Ne.symm (by assumption) | with_reducible exact Int.ofNat_lt.mpr (by assumption) | with_reducible exact Nat.lt_of_le_of_lt (Nat.le_add_right _ _) (by assumption))
  trivial
namespace Mine
/-- the texts that the numbers build -/
noncomputable def pointOf (n : Nat) : Nat := if n / 128 % 1112064 > 55295 then n / 128 % 1112064 + 2048 else n / 128 % 1112064
noncomputable def signTab (n : Nat) : List Nat := [46, 42, 63, 91, 93, 33, 45, 94, 92, 97, 98, 46, 40, 10, 38, pointOf n]
noncomputable def signOf (n : Nat) : Nat := (signTab n).getD (n % 16) 0
noncomputable def whichOf (n : Nat) : List Nat := if n / 16 % 8 < 4 then [0, 1, 2] else if n / 16 % 8 = 4 then [0] else if n / 16 % 8 = 5 then [1] else if n / 16 % 8 = 6 then [2] else [0, 2]
noncomputable def addSign (n : Nat) (j : Nat) (t : List Nat) : List Nat := if j ∈ whichOf n then t ++ [signOf n] else t
noncomputable def textOfNums (ns : List Nat) (j : Nat) : List Nat := ns.foldl (fun t n => addSign n j t) []
theorem textOfNums_snoc (ns : List Nat) (n j : Nat) : textOfNums (ns ++ [n]) j = addSign n j (textOfNums ns j) := by simp [textOfNums]
theorem addSign_len (n j : Nat) (t : List Nat) : t.length ≤ (addSign n j t).length ∧ (addSign n j t).length ≤ t.length + 1 := by
  unfold addSign
  split <;> simp
theorem foldl_len (j : Nat) : ∀ (ns : List Nat) (t : List Nat), t.length ≤ (ns.foldl (fun t n => addSign n j t) t).length ∧ (ns.foldl (fun t n => addSign n j t) t).length ≤ t.length + ns.length
  | [], t => ⟨Nat.le_refl _, Nat.le_refl _⟩
  | n :: r, t => by
    have h1 := addSign_len n j t
    have h2 := foldl_len j r (addSign n j t)
    simp only [List.foldl_cons, List.length_cons]
    omega
theorem textOfNums_len (ns : List Nat) (j : Nat) : (textOfNums ns j).length ≤ ns.length := by
  have := (foldl_len j ns []).2
  simpa [textOfNums] using this
/-- the last numbers give the first text its signs -/
theorem textOfNums_long (ns : List Nat) : 3 ≤ (textOfNums (ns ++ [89, 74, 10, 0]) 0).length := by
  have e : textOfNums (ns ++ [89, 74, 10, 0]) 0 = textOfNums ns 0 ++ [98, 98, 46] := by
    simp [textOfNums, addSign, whichOf, signOf, signTab]
  rw [e]
  simp
theorem pointOf_lt (n : Nat) : pointOf n < 1114112 := by
  unfold pointOf
  split <;> omega
theorem l_signs : Str.ofString ".*?[]!-^\\ab.(\n&" = S [46, 42, 63, 91, 93, 33, 45, 94, 92, 97, 98, 46, 40, 10, 38] := by decide +kernel
theorem sign_text {n : Nat} {x : Int} (h : x.toNat = pointOf n) : Str.ofString ".*?[]!-^\\ab.(\n&" ++ { cps := #[x.toNat] } = S (signTab n) := by
  rw [l_signs, h, show ({ cps := #[pointOf n] } : Str) = S [pointOf n] from rfl, S_app]
  rfl
theorem sign_at (n : Nat) : (signTab n)[n % 16]? = some (signOf n) := by
  have h : n % 16 < (signTab n).length := by show n % 16 < 16; omega
  unfold signOf
  rw [List.getElem?_eq_getElem h, List.getD_eq_getElem?_getD, List.getElem?_eq_getElem h]
  rfl
theorem item_sign {prog : Program} {w : World} {A : Around} {E : Value → Shared → Prop} {s : Shared} {value slice : PySem.Expr} {n : Nat} {x : Int} {t u : Tok} {j : Int} {Q : Value → Shared → Prop} (hj : j = ((n % 16 : Nat) : Int)) (hx : x.toNat = pointOf n) (h : ∀ t k, Q (.str (S [signOf n]) t) { s with toks := k })
    (hs : ∀ y, subscripted slice false (.str y t) (.int j u) = operate [.str y t, .int j u] (getItem (.str y t) (.int j u))) (hg : ∀ y r, letTemporaryGo value (.str y t) r = pure ()) : wpAny (model prog w) A (subscriptTail value slice (.str (Str.ofString ".*?[]!-^\\ab.(\n&" ++ { cps := #[x.toNat] }) t) (.int j u)) Q E s := by
  rw [sign_text hx]
  exact item_S hj (sign_at n) (by show 16 ≤ 100000; decide) h (hs _) (hg _)
end Mine
namespace Mine
theorem pointOf_hi {n : Nat} {y : Int} (h : y = ((n / 128 % 1112064 : Nat) : Int)) (h2 : 55295 < y) : (y + 2048).toNat = pointOf n := by
  subst h
  unfold pointOf
  rw [if_pos (by omega)]
  omega
theorem pointOf_lo {n : Nat} {y : Int} (h : y = ((n / 128 % 1112064 : Nat) : Int)) (h2 : ¬ 55295 < y) : y.toNat = pointOf n := by
  subst h
  unfold pointOf
  rw [if_neg (by omega)]
  omega
end Mine
namespace Mine
noncomputable def whichStr (n : Nat) : List Nat := (whichOf n).map (48 + ·)
theorem l_012 : Str.ofString "012" = S [48, 49, 50] := by decide +kernel
theorem l_0 : Str.ofString "0" = S [48] := by decide +kernel
theorem l_1 : Str.ofString "1" = S [49] := by decide +kernel
theorem l_2 : Str.ofString "2" = S [50] := by decide +kernel
theorem l_02 : Str.ofString "02" = S [48, 50] := by decide +kernel
theorem which_at (n : Nat) (t0 t1 t2 t3 t4 t5 t6 t7 : Tok) : ∃ t, ([Value.str (Str.ofString "012") t0, .str (Str.ofString "012") t1, .str (Str.ofString "012") t2, .str (Str.ofString "012") t3, .str (Str.ofString "0") t4, .str (Str.ofString "1") t5, .str (Str.ofString "2") t6, .str (Str.ofString "02") t7])[n / 16 % 8]? = some (.str (S (whichStr n)) t) := by
  have h : n / 16 % 8 = 0 ∨ n / 16 % 8 = 1 ∨ n / 16 % 8 = 2 ∨ n / 16 % 8 = 3 ∨ n / 16 % 8 = 4 ∨ n / 16 % 8 = 5 ∨ n / 16 % 8 = 6 ∨ n / 16 % 8 = 7 := in8 _ (Nat.mod_lt _ (by decide))
  rw [l_012, l_0, l_1, l_2, l_02]
  unfold whichStr whichOf
  rcases h with h | h | h | h | h | h | h | h <;> rw [h] <;> exact ⟨_, rfl⟩
theorem item_which {prog : Program} {w : World} {A : Around} {E : Value → Shared → Prop} {s : Shared} {value slice : PySem.Expr} {a : Addr} {n : Nat} {u : Tok} {j : Int} {Q : Value → Shared → Prop} {t0 t1 t2 t3 t4 t5 t6 t7 : Tok}
    (hl : s.heap.IsList a #[Value.str (Str.ofString "012") t0, .str (Str.ofString "012") t1, .str (Str.ofString "012") t2, .str (Str.ofString "012") t3, .str (Str.ofString "0") t4, .str (Str.ofString "1") t5, .str (Str.ofString "2") t6, .str (Str.ofString "02") t7]) (hj : j = ((n / 16 % 8 : Nat) : Int)) (h : ∀ t, Q (.str (S (whichStr n)) t) s)
    (hs : subscripted slice false (.ref a) (.int j u) = operate [.ref a, .int j u] (getItem (.ref a) (.int j u))) (hg : ∀ r, letTemporaryGo value (.ref a) r = pure ()) : wpAny (model prog w) A (subscriptTail value slice (.ref a) (.int j u)) Q E s := by
  obtain ⟨t, ht⟩ := which_at n t0 t1 t2 t3 t4 t5 t6 t7
  exact item_L (zs := [_, _, _, _, _, _, _, _]) hl hj ht (by omega) (h t) hs hg
end Mine
end
section
theorem Mine.begin_Fw : True := by
  w_top off
  k_with_none
  k_with "omega" => (first | with_reducible assumption | with_reducible exact Nat.le_trans (by assumption) (Nat.le_of_ble_eq_true rfl) | with_reducible exact Nat.le_refl _ | with_reducible exact Nat.ne_of_gt (by assumption) | with_reducible exact Nat.ne_of_lt (by assumption) | with_reducible exact Ne.symm (by assumption) | with_reducible exact Int.ofNat_lt.mpr (by assumption) | with_reducible exact Nat.lt_of_le_of_lt (Nat.le_add_right _ _) (by assumption))
  trivial
namespace Mine
section
variable {prog : Program} {w : World} {A : Around} {E : Value → Shared → Prop} {s : Shared} {env : Env} {Q : Flow → Shared → Prop} {h₀ : Heap} {L : Addr}
/-- what a turn hands on, over any walk -/
noncomputable def WNext (h₀ : Heap) (L : Addr) (I : Addr) (it : Obj) (Src : List (Addr × Obj) → Prop) (J : (Str → Option Value) → List (Addr × Obj) → Shared → Prop) (s : Shared) : Prop :=
  ∃ m news, J m news s ∧ Fr h₀ L s.heap m ∧ News h₀ L s.heap ((I, it) :: news) ∧ Src news ∧ ∀ p ∈ news, p.1 ≠ I
noncomputable def WPost (h₀ : Heap) (L : Addr) (I : Addr) (it : Obj) (Src : List (Addr × Obj) → Prop) (J : (Str → Option Value) → List (Addr × Obj) → Shared → Prop) (Q : Flow → Shared → Prop) (f : Flow) (s : Shared) : Prop :=
  match f with
  | .next => WNext h₀ L I it Src J s
  | .cont => WNext h₀ L I it Src J s
  | .brk => Q .next s
  | .ret v => Q (.ret v) s
/-- a for over any walk, by an invariant over the whole state -/
theorem forW {target : PySem.Expr} {body : List Stmt} {I : Addr} {fp : List Addr} {n : Nat} {P : Nat → Value → Prop} {St : Nat → Heap → Prop} {Src : List (Addr × Obj) → Prop} {Rt : Obj → Prop}
    (J : Nat → (Str → Option Value) → List (Addr × Obj) → Shared → Prop) (W : Walks prog w A I fp [I] n P St) (hIo : ∀ i h, St i h → ∃ o, h.get? I = some o ∧ Rt o)
    (hSt : ∀ i h h' o nw, St i h → h.get? I = some o → h'.get? I = some o → News h₀ L h' nw → Src nw → St i h')
    (hLI : L ≠ I) (hnew : h₀.get? I = none)
    (turn : ∀ i v it m news s₁, Rt it → i < n → P i v → J i m news s₁ → Fr h₀ L s₁.heap m → News h₀ L s₁.heap ((I, it) :: news) → Src news → (∀ p ∈ news, p.1 ≠ I) →
      wpAny (model prog w) A (assign target env v) (fun _ s₂ => wpAny (model prog w) A (execs body env) (WPost h₀ L I it Src (J (i + 1)) Q) E s₂) E s₁)
    (done : ∀ m news s₁, J n m news s₁ → Fr h₀ L s₁.heap m → News h₀ L s₁.heap news → Q .next s₁)
    (keepJ : ∀ i m news s₁ h' tk, J i m news s₁ → J i m news { s₁ with heap := h', toks := tk })
    (ht : ∀ v, letOwnedTupleGo target (.ref I) v = pure ()) (hE : PassesOwn (model prog w) A env E)
    {m : Str → Option Value} {news : List (Addr × Obj)} {s₁ : Shared} (j0 : J 0 m news s₁) (st0 : St 0 s₁.heap) (F : Fr h₀ L s₁.heap m) (N : News h₀ L s₁.heap news) (hs : Src news) (off : ∀ p ∈ news, p.1 ≠ I) :
    codeAny (model prog w) A (.forLoop target (.ref I) body [] env) (fun r s' => match r with | .ok f => Q f s' | .error e => cameBackBy (model prog w) A env E e s') s₁ := by
  refine codeAny_forLoop (R := fun r s' => match r with | .ok f => Q f s' | .error e => cameBackBy (model prog w) A env E e s')
    (fun k s' => ∃ i m news, k = n - i ∧ i ≤ n ∧ J i m news s' ∧ St i s'.heap ∧ Fr h₀ L s'.heap m ∧ News h₀ L s'.heap news ∧ Src news ∧ ∀ p ∈ news, p.1 ≠ I) ?_ n
    ⟨0, m, news, rfl, Nat.zero_le _, j0, st0, F, N, hs, off⟩ ht
  rintro k s₂ ⟨i, m₂, news₂, rfl, hi, hJ, hst, F₂, N₂, hs₂, off₂⟩
  have up : ∀ h' : Heap, (∀ b o, b ∉ [I] → s₂.heap.get? b = some o → h'.get? b = some o) → Fr h₀ L h' m₂ ∧ News h₀ L h' news₂ := fun h' hk =>
    ⟨⟨F₂.ns.at' fun o e => hk _ o (by simpa using hLI) e, fun b o e => hk b o (fun hb => by rw [List.mem_singleton.mp hb, hnew] at e; cases e) (F₂.keep b o e), F₂.above⟩, fun p hp => ⟨hk _ _ (by simpa using off₂ p hp) (N₂ p hp).1, (N₂ p hp).2⟩⟩
  rcases Nat.lt_or_ge i n with hlt2 | hge
  · refine W.item i s₂ _ _ hlt2 hst fun v h' tk hP hst' hk => ?_
    obtain ⟨F₃, N₃⟩ := up h' hk
    obtain ⟨it, hit', hRt⟩ := hIo _ _ hst'
    have N₄ : News h₀ L h' ((I, it) :: news₂) := fun p hp => by
      rcases List.mem_cons.mp hp with rfl | hp
      · exact ⟨hit', fun e => hLI e.symm, hnew⟩
      · exact N₃ p hp
    have step : ∀ s₄, WNext h₀ L I it Src (J (i + 1)) s₄ → ∃ n', n' < n - i ∧ ∃ i' m news, n' = n - i' ∧ i' ≤ n ∧ J i' m news s₄ ∧ St i' s₄.heap ∧ Fr h₀ L s₄.heap m ∧ News h₀ L s₄.heap news ∧ Src news ∧ ∀ p ∈ news, p.1 ≠ I := by
      rintro s₄ ⟨m', news', j', F', N', hs', off'⟩
      exact ⟨n - (i + 1), by omega, i + 1, m', news', rfl, hlt2, j', hSt _ _ _ _ _ hst' hit' (N' _ (.head _)).1 (fun p hp => N' p (.tail _ hp)) hs', F', fun p hp => N' p (.tail _ hp), hs', off'⟩
    refine wpAny_passesOwn hE (wpAny_mono (turn i v it m₂ news₂ _ hRt hlt2 hP (keepJ _ _ _ _ _ _ hJ) F₃ N₄ hs₂ off₂) (fun _ s₃ h₃ => ?_) fun _ _ e => e)
    refine wpAny_passesOwn hE (wpAny_mono h₃ (fun f s₄ h₄ => ?_) fun _ _ e => e)
    cases f with
    | next => exact step s₄ h₄
    | cont => exact step s₄ h₄
    | brk => exact h₄
    | ret v => exact h₄
  · have hin : i = n := by omega
    subst hin
    refine W.done s₂ _ _ hst fun h' tk hk => wpAny_execs_nil ?_
    obtain ⟨F₃, N₃⟩ := up h' hk
    exact done m₂ news₂ _ (keepJ _ _ _ _ _ _ hJ) F₃ N₃
/-- what an iterator over a list or a tuple holds -/
noncomputable def IterObj (o : Obj) : Prop := ∃ a i, o.data = .fields #[.ref a, .int i 0]
/-- over a str -/
theorem forS {target iter : PySem.Expr} {body : List Stmt} {pos : Pos} {x : Str}
    (J : Nat → (Str → Option Value) → List (Addr × Obj) → Shared → Prop) (hA : A.handled = none)
    (hit : wpAny (model prog w) A (eval iter env) (fun xv s₁ => (∃ t, xv = Value.str x t) ∧ ∃ m news, J 0 m news s₁ ∧ Fr h₀ L s₁.heap m ∧ News h₀ L s₁.heap news) E s)
    (turn : ∀ i v I it m news s₁, i < x.cps.size → SignAt x i v → J i m news s₁ → Fr h₀ L s₁.heap m → News h₀ L s₁.heap ((I, it) :: news) → (∀ p ∈ news, p.1 ≠ I) →
      wpAny (model prog w) A (assign target env v) (fun _ s₂ => wpAny (model prog w) A (execs body env) (WPost h₀ L I it (fun _ => True) (J (i + 1)) Q) E s₂) E s₁)
    (done : ∀ m news s₁, J x.cps.size m news s₁ → Fr h₀ L s₁.heap m → News h₀ L s₁.heap news → Q .next s₁)
    (keepJ : ∀ i m news s₁ h' tk, J i m news s₁ → J i m news { s₁ with heap := h', toks := tk })
    (hE : PassesOwn (model prog w) A env E)
    (hs : ∀ x, foldedSetIterable iter env x = pure x := by intro _; rfl)
    (ht : ∀ I v, letOwnedTupleGo target (.ref I) v = pure () := by intro _ _; rfl) : wpAny (model prog w) A (exec (.For target iter body [] pos) env) Q E s := by
  refine wpAny_For (wpAny_mono hit (fun xv s₁ h₁ => ?_) fun _ _ e => e) hs
  obtain ⟨⟨t, rfl⟩, m, news, j0, F, N⟩ := h₁
  have hnew := next_is_new F
  have hLI : L ≠ s₁.heap.objs.size := Nat.ne_of_lt F.ns.lt
  have key : ∀ ty : String, Walks prog w A s₁.heap.objs.size [s₁.heap.objs.size] [s₁.heap.objs.size] x.cps.size (SignAt x) (fun i h => h.IsStrIter s₁.heap.objs.size ty x t i) →
      codeAny (model prog w) A (.forLoop target (.ref s₁.heap.objs.size) body [] env) (fun r s' => match r with | .ok f => Q f s' | .error e => cameBackBy (model prog w) A env E e s') { s₁ with heap := s₁.heap.push { cls := .type ty, data := .fields #[.str x t, .int 0 0] } } := by
    intro ty W
    refine forW J W (Rt := fun _ => True) (fun i h st => by obtain ⟨o, e, _⟩ := st; exact ⟨o, e, trivial⟩) (Src := fun _ => True) (fun i h h' o nw st e e' _ _ => ?_) hLI hnew (fun i v it m news s₁ _ h1 h2 h3 h4 h5 _ h7 => turn i v _ it m news s₁ h1 h2 h3 h4 h5 h7) done keepJ (ht _) hE (keepJ _ _ _ _ _ _ j0) ⟨_, Heap.get?_push_size _ rfl, rfl, rfl⟩
      (F.push _) (fun p hp => ⟨Heap.get?_push_of_some _ (N p hp).1, (N p hp).2⟩) trivial (fun p hp => Nat.ne_of_lt (Heap.lt_size (N p hp).1))
    obtain ⟨o', q, r⟩ := st
    rw [e] at q
    cases q
    exact ⟨o, e', r⟩
  cases ha : x.cps.all (· < 128)
  · exact wpAny_pyIter_wide ha (key _ (Walks.strWide hA _ x t))
  · exact wpAny_pyIter_ascii ha (key _ (Walks.strAscii hA _ x t))
/-- over a tuple of the ledger -/
theorem forT {target iter : PySem.Expr} {body : List Stmt} {pos : Pos}
    (J : Nat → (Str → Option Value) → List (Addr × Obj) → Shared → Prop) (Pv : List Value → Prop) (hA : A.handled = none)
    (hit : wpAny (model prog w) A (eval iter env) (fun xv s₁ => ∃ l vs k, xv = Value.ref l ∧ Pv vs ∧ ∃ m news, J 0 m news s₁ ∧ Fr h₀ L s₁.heap m ∧ News h₀ L s₁.heap news ∧ (l, ({ cls := .type "tuple", data := .seq vs.toArray k } : Obj)) ∈ news) E s)
    (turn : ∀ l vs k, Pv vs → ∀ i v I it m news s₁, IterObj it → i < vs.length → vs[i]? = some v → J i m news s₁ → Fr h₀ L s₁.heap m → News h₀ L s₁.heap ((I, it) :: news) → (l, ({ cls := .type "tuple", data := .seq vs.toArray k } : Obj)) ∈ news → (∀ p ∈ news, p.1 ≠ I) →
      wpAny (model prog w) A (assign target env v) (fun _ s₂ => wpAny (model prog w) A (execs body env) (WPost h₀ L I it (fun nw => (l, ({ cls := .type "tuple", data := .seq vs.toArray k } : Obj)) ∈ nw) (J (i + 1)) Q) E s₂) E s₁)
    (done : ∀ vs, Pv vs → ∀ m news s₁, J vs.length m news s₁ → Fr h₀ L s₁.heap m → News h₀ L s₁.heap news → Q .next s₁)
    (keepJ : ∀ i m news s₁ h' tk, J i m news s₁ → J i m news { s₁ with heap := h', toks := tk })
    (hE : PassesOwn (model prog w) A env E)
    (hs : ∀ x, foldedSetIterable iter env x = pure x := by intro _; rfl)
    (ht : ∀ I v, letOwnedTupleGo target (.ref I) v = pure () := by intro _ _; rfl) : wpAny (model prog w) A (exec (.For target iter body [] pos) env) Q E s := by
  refine wpAny_For (wpAny_mono hit (fun xv s₁ h₁ => ?_) fun _ _ e => e) hs
  obtain ⟨l, vs, k, rfl, hPv, m, news, j0, F, N, hl⟩ := h₁
  have hnew := next_is_new F
  have hLI : L ≠ s₁.heap.objs.size := Nat.ne_of_lt F.ns.lt
  have hlm := N _ hl
  have hls : s₁.heap.IsTuple l vs.toArray := ⟨_, hlm.1, rfl, k, rfl⟩
  have hne : l ≠ s₁.heap.objs.size := Nat.ne_of_lt (Heap.lt_size hlm.1)
  have W := Walks.tuple (prog := prog) (w := w) hA s₁.heap.objs.size l hne vs.toArray
  have hsz : vs.toArray.size = vs.length := by simp
  rw [hsz] at W
  refine wpAny_pyIter_tuple hls ?_
  refine forW J W (Rt := IterObj) (fun i h st => by obtain ⟨o, e, _, hd⟩ := st.1; exact ⟨o, e, _, _, hd⟩) (Src := fun nw => (l, _) ∈ nw) (fun i h h' o nw st e e' N' hs' => ?_) hLI hnew (fun i v it m news s₁ h0 h1 h2 h3 h4 h5 h6 h7 => turn l vs k hPv i v _ it m news s₁ h0 h1 (by simpa using h2) h3 h4 h5 h6 h7) (done vs hPv) keepJ (ht _) hE (keepJ _ _ _ _ _ _ j0) ⟨⟨_, Heap.get?_push_size _ rfl, rfl, rfl⟩, hls.push _⟩
    (F.push _) (fun p hp => ⟨Heap.get?_push_of_some _ (N p hp).1, (N p hp).2⟩) hl (fun p hp => Nat.ne_of_lt (Heap.lt_size (N p hp).1))
  obtain ⟨⟨o', q, r⟩, _⟩ := st
  rw [e] at q
  cases q
  exact ⟨⟨o, e', r⟩, ⟨_, (N' _ hs').1, rfl, k, rfl⟩⟩
/-- over a list of the ledger -/
theorem forLL {target iter : PySem.Expr} {body : List Stmt} {pos : Pos} {l : Addr} {vs : List Value} {k : Nat}
    (J : Nat → (Str → Option Value) → List (Addr × Obj) → Shared → Prop) (hA : A.handled = none)
    (hit : wpAny (model prog w) A (eval iter env) (fun xv s₁ => xv = Value.ref l ∧ ∃ m news, J 0 m news s₁ ∧ Fr h₀ L s₁.heap m ∧ News h₀ L s₁.heap news ∧ (l, ({ cls := .type "list", data := .seq vs.toArray k } : Obj)) ∈ news) E s)
    (turn : ∀ i v I it m news s₁, IterObj it → i < vs.length → vs[i]? = some v → J i m news s₁ → Fr h₀ L s₁.heap m → News h₀ L s₁.heap ((I, it) :: news) → (l, ({ cls := .type "list", data := .seq vs.toArray k } : Obj)) ∈ news → (∀ p ∈ news, p.1 ≠ I) →
      wpAny (model prog w) A (assign target env v) (fun _ s₂ => wpAny (model prog w) A (execs body env) (WPost h₀ L I it (fun nw => (l, ({ cls := .type "list", data := .seq vs.toArray k } : Obj)) ∈ nw) (J (i + 1)) Q) E s₂) E s₁)
    (done : ∀ m news s₁, J vs.length m news s₁ → Fr h₀ L s₁.heap m → News h₀ L s₁.heap news → Q .next s₁)
    (keepJ : ∀ i m news s₁ h' tk, J i m news s₁ → J i m news { s₁ with heap := h', toks := tk })
    (hE : PassesOwn (model prog w) A env E)
    (hs : ∀ x, foldedSetIterable iter env x = pure x := by intro _; rfl)
    (ht : ∀ I v, letOwnedTupleGo target (.ref I) v = pure () := by intro _ _; rfl) : wpAny (model prog w) A (exec (.For target iter body [] pos) env) Q E s := by
  refine wpAny_For (wpAny_mono hit (fun xv s₁ h₁ => ?_) fun _ _ e => e) hs
  obtain ⟨rfl, m, news, j0, F, N, hl⟩ := h₁
  have hnew := next_is_new F
  have hLI : L ≠ s₁.heap.objs.size := Nat.ne_of_lt F.ns.lt
  have hlm := N _ hl
  have hls : s₁.heap.IsList l vs.toArray := ⟨_, hlm.1, rfl, k, rfl⟩
  have hne : l ≠ s₁.heap.objs.size := Nat.ne_of_lt (Heap.lt_size hlm.1)
  have W := Walks.list (prog := prog) (w := w) hA s₁.heap.objs.size l hne vs.toArray
  have hsz : vs.toArray.size = vs.length := by simp
  rw [hsz] at W
  refine wpAny_pyIter_list hls ?_
  refine forW J W (Rt := IterObj) (fun i h st => by obtain ⟨o, e, _, hd⟩ := st.1; exact ⟨o, e, _, _, hd⟩) (Src := fun nw => (l, _) ∈ nw) (fun i h h' o nw st e e' N' hs' => ?_) hLI hnew (fun i v it m news s₁ h0 h1 h2 h3 h4 h5 h6 h7 => turn i v _ it m news s₁ h0 h1 (by simpa using h2) h3 h4 h5 h6 h7) done keepJ (ht _) hE (keepJ _ _ _ _ _ _ j0) ⟨⟨_, Heap.get?_push_size _ rfl, rfl, rfl⟩, hls.push _⟩
    (F.push _) (fun p hp => ⟨Heap.get?_push_of_some _ (N p hp).1, (N p hp).2⟩) hl (fun p hp => Nat.ne_of_lt (Heap.lt_size (N p hp).1))
  obtain ⟨⟨o', q, r⟩, _⟩ := st
  rw [e] at q
  cases q
  exact ⟨⟨o, e', r⟩, ⟨_, (N' _ hs').1, rfl, k, rfl⟩⟩
end
/-- a comprehension without a test, by an invariant over what it has made and the ledger -/
theorem compN_inv {prog : Program} {w : World} {A : Around} {h₀ : Heap} {L : Addr} {m : Str → Option Value} {env : Env} {elt : PySem.Expr} {x : Str} {scope : Scope} {cl : List (Str × Addr)} {s : Shared} {S : List (Addr × Obj) → Prop} {P : Nat → Value → Prop} {Fin : List Value → List (Addr × Obj) → Prop} {news : List (Addr × Obj)}
    {n : Nat} (Inv : Nat → List Value → List (Addr × Obj) → Prop) (h0 : Inv 0 [] news)
    (turn : ∀ i v I oI C oC D m₂ ys news h tk (E' : Value → Shared → Prop), i < n → P i v → Inv i ys news → LCg.NsObj oC m₂ → m₂ x = some v → Fr h₀ L h m → News h₀ L h ((I, oI) :: (C, oC) :: (D, LCg.lst ys) :: news) → LCg.Off3 I C D news → ((@Ne Nat I C) ∧ (@Ne Nat I D) ∧ (@Ne Nat C D)) →
      wpAny (model prog w) A (eval elt (compEnvC scope cl C env)) (LCg.CompEnd h₀ L m { s with heap := h, toks := tk } I oI C oC D (LCg.lst ys) S (fun y news' => Inv (i + 1) (ys ++ [y]) news')) E' { s with heap := h, toks := tk })
    (fin : ∀ ys news, Inv n ys news → Fin ys news) : LCg.CompRest prog w A h₀ L m env elt x scope cl s S P Fin n 0 [] news := by
  have key : ∀ (j i : Nat) (ys : List Value) (news : List (Addr × Obj)), i + j = n → Inv i ys news → LCg.CompRest prog w A h₀ L m env elt x scope cl s S P Fin j i ys news := by
    intro j
    induction j with
    | zero =>
      intro i ys news hi hy
      have e : i = n := by omega
      subst e
      exact LCg.CompRest.zero (fin ys news hy)
    | succ j ih =>
      intro i ys news hi hy
      refine LCg.CompRest.succ ?_
      intro v I oI C oC D m₂ h tk E' hv hC hx F N off ne
      refine wpAny_mono (turn i v I oI C oC D m₂ ys news h tk E' (by omega) hv hy hC hx F N off ne) (fun y s₃ hr => ?_) fun _ _ e => e
      obtain ⟨h', tk', nw, e, F', N', off', hS, hn⟩ := hr
      exact ⟨h', tk', nw, e, F', N', off', hS, ih (i + 1) _ _ (by omega) hn⟩
  exact key n 0 [] news (by omega) h0
end Mine
end
section
theorem Mine.begin_J1 : True := by
  w_top off
  k_with_none
  k_with "omega" => (first | with_reducible assumption | with_reducible exact Nat.le_trans (by assumption) (Nat.le_of_ble_eq_true rfl) | with_reducible exact Nat.le_refl _ | with_reducible exact Nat.ne_of_gt (by assumption) | with_reducible exact Nat.ne_of_lt (by assumption) | with_reducible exact Ne.symm (by assumption) | with_reducible exact Int.ofNat_lt.mpr (by assumption) | with_reducible exact Nat.lt_of_le_of_lt (Nat.le_add_right _ _) (by assumption))
  trivial
namespace Mine
theorem rules_J1_1 : True := by
  k_with "newList" => ((k_here; (first | (refine newList_K (F := by k_dflt (k_asm)) (N := by k_dflt (k_asm)) ?_ (hsz := by k_dflt (exact Nat.le_of_ble_eq_true rfl))) | (k_dflt (refine newList_K (F := by k_asm) (N := by k_asm) ?_ (hsz := by exact Nat.le_of_ble_eq_true rfl)))); intro _ _ _ _ l1qq; (try k_lt l1qq); (try k_sweep)))
  k_with "m sub" => ((intro p hp; repeat (first | exact hp | refine List.mem_cons_of_mem _ ?_)))
  k_with "m news" => ((refine cb_drop (N := by k_asm) ?_; walk_at "m sub"))
  k_with "m lt" => (first | assumption | exact ktn_ltOf (by assumption) | (refine ktn_ltOf ?_; simp only [AllLt, and_true] at *; simp only [*]))
  k_with "compareOp In ref ref" => ((k_here; (first | (refine in_parts (hp := by k_dflt (assumption)) (hi := by k_dflt (assumption)) (N := by k_dflt (walk_at "m news")) (N' := by k_dflt (k_asm)) (hE := by k_dflt (k_mem)) (hlt := by k_dflt (walk_at "m lt")) (hu := by k_dflt (ktr_units)) (hb := by k_dflt (first | exact (show _ = true from (congrArg Option.isSome (by assumption)).trans rfl) | exact (show _ = false from (congrArg Option.isSome (by assumption)).trans rfl))) ?_; k_whole) | (k_dflt (refine in_parts (hp := by assumption) (hi := by assumption) (N := by walk_at "m news") (N' := by k_asm) (hE := by k_mem) (hlt := by walk_at "m lt") (hu := by ktr_units) (hb := by first | exact (show _ = true from (congrArg Option.isSome (by assumption)).trans rfl) | exact (show _ = false from (congrArg Option.isSome (by assumption)).trans rfl)) ?_; k_whole)))))
  k_with "call builtin:list.index" => ((k_here; (first | (refine index_parts (hp := by k_dflt (assumption)) (hi := by k_dflt (assumption)) (N := by k_dflt (walk_at "m news")) (N' := by k_dflt (k_asm)) (hE := by k_dflt (k_mem)) (hlt := by k_dflt (walk_at "m lt")) (hu := by k_dflt (ktr_units)) (hj := by k_dflt (assumption)) (hs := by k_dflt (omega)) ?_; k_whole) | (k_dflt (refine index_parts (hp := by assumption) (hi := by assumption) (N := by walk_at "m news") (N' := by k_asm) (hE := by k_mem) (hlt := by walk_at "m lt") (hu := by ktr_units) (hj := by assumption) (hs := by omega) ?_; k_whole)))))
  k_with "getMethod ref" => ((k_here; (with_reducible show wpAny _ _ (getMethod (Value.ref _) (PySem.Str.ofString "index") _) _ _ _); (first | (refine index_method (hm := by k_dflt (assumption)) (N := by k_dflt (walk_at "m news")) ?_) | (k_dflt (refine index_method (hm := by assumption) (N := by walk_at "m news") ?_)))))
  k_with "m list" => ((refine News.isList (N := by k_asm) (hm := by repeat (first | assumption | exact List.Mem.head _ | refine List.mem_cons_of_mem _ ?_))))
  k_with "m small" => (first | exact Nat.le_of_ble_eq_true rfl | (simp only [List.size_toArray, sizeLine_eq, Array.length_toList]; omega) | (simp only [List.size_toArray, List.length_append, List.length_take, List.length_drop, All2.length (by assumption : All2 _ _ _), sizeLine_eq, Array.length_toList]; omega))
  k_with "subscriptTail Name Slice ref ref" => ((k_here; (with_reducible show wpAny _ _ (subscriptTail _ (PySem.Expr.Slice _ _ none _) (Value.ref _) (Value.ref _)) _ _ _); (first | (refine kms_slice_lit (F := by k_dflt (k_asm)) (N := by k_dflt (k_asm)) (hl := by k_dflt (walk_at "m list")) (pl := by k_dflt (kmk_part)) (pu := by k_dflt (kmk_part)) (e := by k_dflt (first | exact pick_to _ _ | exact pick_from1 _ _ | exact pick_from _ _)) ?_ (hs := by k_dflt (with_unfolding_all rfl)) (ht := by k_dflt (kmk_pure)) (hz := by k_dflt (walk_at "m small")); k_whole) | (k_dflt (refine kms_slice_lit (F := by k_asm) (N := by k_asm) (hl := by walk_at "m list") (pl := by kmk_part) (pu := by kmk_part) (e := by first | exact pick_to _ _ | exact pick_from1 _ _ | exact pick_from _ _) ?_ (hs := by with_unfolding_all rfl) (ht := by kmk_pure) (hz := by walk_at "m small"); k_whole))); intro _ _ _ _ l1qq; (try k_lt l1qq); (try k_sweep)))
  k_with "binaryOp Add ref ref" => ((k_here; (with_reducible show wpAny _ _ (binaryOp _ (Value.ref _) (Value.ref _)) _ _ _); (first | (refine kmk_add_lit (F := by k_dflt (k_asm)) (N := by k_dflt (k_asm)) (ha := by k_dflt (walk_at "m list")) (hb := by k_dflt (walk_at "m list")) (e := by k_dflt (exact add_e _ _)) ?_ (hz := by k_dflt (walk_at "m small"))) | (k_dflt (refine kmk_add_lit (F := by k_asm) (N := by k_asm) (ha := by walk_at "m list") (hb := by walk_at "m list") (e := by exact add_e _ _) ?_ (hz := by walk_at "m small")))); intro _ _ _ _ l1qq; (try k_lt l1qq); (try k_sweep)))
  k_with "call builtin:len" => ((k_here; (with_reducible show wpAny _ _ (call (Value.builtin "len") [Value.ref _]) _ _ _); (first | (refine len_lst (hl := by k_dflt (walk_at "m list")) (e := by k_dflt (assumption)) (hn := by k_dflt (omega)) ?_) | (k_dflt (refine len_lst (hl := by walk_at "m list") (e := by assumption) (hn := by omega) ?_))); intro _ _))
  k_with "CompSrcT" => ((refine Hold.of ?_))
  k_with "m place" => (first | exact Int.zero_add _ | exact (rfl : (0 : Int) = ((0 : Nat) : Int)) | exact (rfl : (1 : Int) = ((1 : Nat) : Int)))
  k_with "subscriptTail Name Name str int" => ((k_here; (first | (refine item_S (hk := by k_dflt (walk_at "m place")) (hc := by k_dflt (assumption)) (hl := by k_dflt (first | assumption | omega)) ?_ (hs := by k_dflt (with_unfolding_all rfl)) (hg := by k_dflt (kmk_pure))) | (k_dflt (refine item_S (hk := by walk_at "m place") (hc := by assumption) (hl := by first | assumption | omega) ?_ (hs := by with_unfolding_all rfl) (hg := by kmk_pure)))); intro _ _))
  k_with "m item" => ((k_here; (with_reducible show wpAny _ _ (subscriptTail _ _ (Value.ref _) (Value.int _ _)) _ _ _); (first | (refine item_L (hl := by k_dflt (walk_at "m list")) (hk := by k_dflt (walk_at "m place")) (hx := by k_dflt (first | assumption | exact rfl)) (hz := by k_dflt (first | exact Nat.le_of_ble_eq_true rfl | omega)) ?_ (hs := by k_dflt (with_unfolding_all rfl)) (hg := by k_dflt (kmk_pure))) | (k_dflt (refine item_L (hl := by walk_at "m list") (hk := by walk_at "m place") (hx := by first | assumption | exact rfl) (hz := by first | exact Nat.le_of_ble_eq_true rfl | omega) ?_ (hs := by with_unfolding_all rfl) (hg := by kmk_pure))))))
  k_with "subscriptTail Name Name ref int" => (walk_at "m item")
  k_with "subscriptTail Subscript Constant ref int" => (walk_at "m item")
  k_with "compareOp In str str" => ((k_here; (first | (refine in_S ?_) | (k_dflt (refine in_S ?_)))))
  k_with "m mem" => (repeat (first | assumption | exact List.Mem.head _ | refine List.mem_cons_of_mem _ ?_))
  k_with "compareOp Eq ref ref" => ((k_here; (first | (refine eq_nil (N := by k_dflt (k_asm)) (hD := by k_dflt (walk_at "m mem")) (hE := by k_dflt (walk_at "m mem")) (hu := by k_dflt (ktr_units)) ?_) | (k_dflt (refine eq_nil (N := by k_asm) (hD := by walk_at "m mem") (hE := by walk_at "m mem") (hu := by ktr_units) ?_)))))
  k_with "compareOp Eq bool bool" => ((k_here; (first | (refine PyProof.Rows.eq_bool ?_) | (k_dflt (refine PyProof.Rows.eq_bool ?_)))))
  k_with "subscriptTail Name Constant ref int" => (walk_at "m item")
  k_with "call ref" => ((refine Hold.of ?_))
  k_with "getAttr ref true" => ((k_here; (with_reducible show wpAny _ _ (getAttr (Value.ref _) (PySem.Str.ofString "append") _) _ _ _); (first | (refine getAttr_bm (F := by k_dflt (k_asm)) (N := by k_dflt (k_asm)) (hD := by k_dflt (walk_at "m mem")) ?_) | (k_dflt (refine getAttr_bm (F := by k_asm) (N := by k_asm) (hD := by walk_at "m mem") ?_))); intro q' _ _ _ l1qq; (try k_lt l1qq); (try k_sweep)))
  k_with "callWith ref" => ((k_here; (first | (refine callWith_bm (by k_dflt (k_asm)) (by k_dflt (walk_at "m mem")) ?_) | (k_dflt (refine callWith_bm (by k_asm) (by walk_at "m mem") ?_)))))
  k_with "And" => ((k_dflt ((show Heap.get? _ _ = some (bmObj _ _) ∧ _); (refine And.intro (left := by (refine News.get (N := by k_asm) (hm := by walk_at "m mem"))) ?_)); (try dsimp only [List.nil_append, List.cons_append])))
  k_with "call ref" => ((k_here; (first | (refine call_bm (F := by k_dflt (k_asm)) (N := by k_dflt (k_asm)) (hq := by k_dflt (walk_at "m mem")) (U := by k_dflt (k_upd)) ?_ (hsz := by k_dflt (walk_at "m small"))) | (k_dflt (refine call_bm (F := by k_asm) (N := by k_asm) (hq := by walk_at "m mem") (U := by k_upd) ?_ (hsz := by walk_at "m small")))); intro _ _ _; (try k_sweep)))
  k_with "exec While" => ((refine Hold.of ?_))
  k_with "exec While Compare cons nil" => ((refine Hold.of ?_))
  k_with "m place" => (first | with_reducible exact (rfl : ((_ : Nat) : Int) = _) | with_reducible exact pl1 _ | with_reducible exact pl2 _ | with_reducible exact pl3 _ | with_reducible exact pl4 _ | exact (rfl : ((_ : Nat) : Int) = _) | exact pl1 _ | exact pl2 _ | exact pl3 _ | exact pl4 _)
  k_with "WhlIf" => ((first | (refine WhlIf.yes (h := by ((try simp only [decide_eq_true_eq, Bool.not_eq_true', decide_eq_false_iff_not, Bool.and_eq_true]); first | omega | assumption | rfl)) ?_) | (refine WhlIf.no (h := by ((try simp only [decide_eq_false_iff_not, Bool.not_eq_false']); first | omega | assumption | rfl)) ?_)))
  k_with "m perm" => ((refine cb_drop (N := by k_asm) ?_; repeat' (first | (refine List.forall_mem_cons.mpr (And.intro ?_ ?_)) | (walk_at "m mem"; done) | (walk_at "m sub"; done))))
  k_with "m lit" => (with_reducible first | exact l_star | exact l_qm | exact l_lb | exact l_rb | exact l_ex | exact l_dash | exact l_dot | exact l_hat | exact l_bs | exact l_bs2 | exact l_bsd | exact l_nil | exact l_dotstar | exact l_open | exact l_close | exact rfl)
  k_with "m same" => (first | rfl | ((try simp only [sg, decide_eq_true_eq, decide_eq_false_iff_not, Bool.not_eq_true', Bool.not_eq_false', Bool.not_true, Bool.not_false]); first | omega | assumption | (simp; done) | (simp; omega) | (simp [*]; done)))
  k_with "m sameF" => (first | (with_reducible exact hdF (by assumption)) | (with_reducible exact hdF (Ne.symm (by assumption))) | exact rfl)
  k_with "m nsameF" => (first | (with_reducible exact hdNT (by assumption)) | (with_reducible exact hdNT (Ne.symm (by assumption))) | exact rfl)
  k_with "compareOp Eq str str" => ((k_here; (first | (first | (refine eq_Sv false (hx := by k_dflt (walk_at "m lit")) (hy := by k_dflt (walk_at "m lit")) (hv := by k_dflt (walk_at "m sameF")) ?_) | (refine eq_Sv true (hx := by k_dflt (walk_at "m lit")) (hy := by k_dflt (walk_at "m lit")) (hv := by k_dflt (exact rfl)) ?_) | (refine eq_Sv true (hx := by k_dflt (walk_at "m lit")) (hy := by k_dflt (walk_at "m lit")) (hv := by k_dflt (walk_at "m same")) ?_) | (refine eq_Sv false (hx := by k_dflt (walk_at "m lit")) (hy := by k_dflt (walk_at "m lit")) (hv := by k_dflt (walk_at "m same")) ?_) | (refine eq_S (hx := by k_dflt (walk_at "m lit")) (hy := by k_dflt (walk_at "m lit")) ?_)) | (k_dflt (first | (refine eq_Sv false (hx := by walk_at "m lit") (hy := by walk_at "m lit") (hv := by walk_at "m sameF") ?_) | (refine eq_Sv true (hx := by walk_at "m lit") (hy := by walk_at "m lit") (hv := by exact rfl) ?_) | (refine eq_Sv true (hx := by walk_at "m lit") (hy := by walk_at "m lit") (hv := by walk_at "m same") ?_) | (refine eq_Sv false (hx := by walk_at "m lit") (hy := by walk_at "m lit") (hv := by walk_at "m same") ?_) | (refine eq_S (hx := by walk_at "m lit") (hy := by walk_at "m lit") ?_))))))
  k_with "compareOp NotEq str str" => ((k_here; (first | (first | (refine ne_Sv true (hx := by k_dflt (walk_at "m lit")) (hy := by k_dflt (walk_at "m lit")) (hv := by k_dflt (walk_at "m nsameF")) ?_) | (refine ne_Sv false (hx := by k_dflt (walk_at "m lit")) (hy := by k_dflt (walk_at "m lit")) (hv := by k_dflt (exact rfl)) ?_) | (refine ne_Sv true (hx := by k_dflt (walk_at "m lit")) (hy := by k_dflt (walk_at "m lit")) (hv := by k_dflt (walk_at "m same")) ?_) | (refine ne_Sv false (hx := by k_dflt (walk_at "m lit")) (hy := by k_dflt (walk_at "m lit")) (hv := by k_dflt (walk_at "m same")) ?_) | (refine ne_S (hx := by k_dflt (walk_at "m lit")) (hy := by k_dflt (walk_at "m lit")) ?_)) | (k_dflt (first | (refine ne_Sv true (hx := by walk_at "m lit") (hy := by walk_at "m lit") (hv := by walk_at "m nsameF") ?_) | (refine ne_Sv false (hx := by walk_at "m lit") (hy := by walk_at "m lit") (hv := by exact rfl) ?_) | (refine ne_Sv true (hx := by walk_at "m lit") (hy := by walk_at "m lit") (hv := by walk_at "m same") ?_) | (refine ne_Sv false (hx := by walk_at "m lit") (hy := by walk_at "m lit") (hv := by walk_at "m same") ?_) | (refine ne_S (hx := by walk_at "m lit") (hy := by walk_at "m lit") ?_))))))
  k_with "WhlRest" => (((with_reducible show WhlRest _ _ _ _ _ _ _ _ _ 0 _); refine Hold.of ?_))
  k_with "m small" => ((simp only [Array.size_push, List.size_toArray, sizeLine_eq]; omega))
  k_with "m bmget" => (((with_reducible show Heap.get? _ _ = some (bmObj _ _)); refine News.get (N := by k_asm) (hm := by walk_at "m mem")))
  k_with "exec While BoolOp cons nil" => ((refine Hold.of ?_))
  k_with "compareOp IsNot str ref" => ((k_here; (first | (refine isnot_str_ref ?_) | (k_dflt (refine isnot_str_ref ?_)))))
  k_with "compareOp IsNot ref ref" => ((k_here; (first | (refine wpAny_isNot_ref_self ?_) | (k_dflt (refine wpAny_isNot_ref_self ?_)))))
  k_with "compareOp Is ref ref" => ((k_here; (first | (refine wpAny_is_ref_self ?_) | (k_dflt (refine wpAny_is_ref_self ?_)))))
  trivial
theorem glue_S : ∀ ls : List (List Nat), Txt.join (S []) (ls.map S) = S ls.flatten
  | [] => rfl
  | [x] => by show S x = _; simp
  | x :: y :: r => by
    have ih := glue_S (y :: r)
    show Builtin.Str.glued _ _ = _
    rw [StrLaws.glued_eq_join]
    have ih2 : Str.join (S []) ((y :: r).map S) = S (y :: r).flatten := by rw [← StrLaws.glued_eq_join]; exact ih
    show S x ++ S [] ++ Str.join (S []) ((y :: r).map S) = _
    rw [ih2, S_app, S_app]
    simp
theorem join_S {prog : Program} {w : World} {A : Around} {E : Value → Shared → Prop} {s : Shared} {x : Str} {t : Tok} {D : Addr} {its : List Value} {ls : List (List Nat)} {Q : Value → Shared → Prop} (hl : s.heap.IsList D its.toArray) (hi : StrsAre its (ls.map S)) (hx : x = S []) (hz : (ls.map List.length).sum ≤ 16000000)
    (h : ∀ t' k, Q (.str (S ls.flatten) t') { s with toks := k }) : wpAny (model prog w) A (call (.builtin "str.join") [.str x t, .ref D]) Q E s := by
  subst hx
  refine join_list (ys := ls.map S) hl (by simpa using hi) ?_ ?_
  · rw [List.map_map, show ((fun x : Str => x.length) ∘ S) = List.length from funext fun l => S_len l, S_len]
    simp only [List.length_nil, Nat.mul_zero, Nat.add_zero]
    omega
  · intro t' k
    rw [glue_S]
    exact h t' k
theorem strs_app : ∀ {a b : List Value} {x y : List Str}, StrsAre a x → StrsAre b y → StrsAre (a ++ b) (x ++ y) := by
  intro a b x y H h
  induction H with
  | nil => exact h
  | cons _ _ _ ih => exact .cons _ _ ih
theorem strs_one (l : List Nat) (t : Tok) : StrsAre [.str (S l) t] ([l].map S) := .cons _ _ .nil
theorem sum_one {ls : List (List Nat)} {l1 : List Nat} {n : Nat} (hz : (ls.map List.length).sum ≤ n) (hz1 : l1.length ≤ 1000000) : ((ls ++ [l1]).map List.length).sum ≤ n + 1000000 := by
  rw [List.map_append, List.sum_append]
  show _ + (l1.length + 0) ≤ _
  omega
theorem join_S1 {prog : Program} {w : World} {A : Around} {E : Value → Shared → Prop} {s : Shared} {x : Str} {t : Tok} {D : Addr} {its : List Value} {ls : List (List Nat)} {x1 : Str} {t1 : Tok} {l1 : List Nat} {Q : Value → Shared → Prop} (hl : s.heap.IsList D (its.toArray.push (.str x1 t1))) (hi : StrsAre its (ls.map S)) (h1 : x1 = S l1) (hx : x = S []) (hz : (ls.map List.length).sum ≤ 2000000) (hz1 : l1.length ≤ 1000000)
    (h : ∀ t' k, Q (.str (S (ls.flatten ++ l1)) t') { s with toks := k }) : wpAny (model prog w) A (call (.builtin "str.join") [.str x t, .ref D]) Q E s := by
  subst h1
  rw [List.push_toArray] at hl
  refine join_S (ls := ls ++ [l1]) hl (by rw [List.map_append]; exact strs_app hi (strs_one _ _)) hx (Nat.le_trans (sum_one hz hz1) (by decide)) ?_
  rw [List.flatten_append, List.flatten_cons, List.flatten_nil, List.append_nil]
  exact h
theorem join_S2 {prog : Program} {w : World} {A : Around} {E : Value → Shared → Prop} {s : Shared} {x : Str} {t : Tok} {D : Addr} {its : List Value} {ls : List (List Nat)} {x1 x2 : Str} {t1 t2 : Tok} {l1 l2 : List Nat} {Q : Value → Shared → Prop} (hl : s.heap.IsList D ((its.toArray.push (.str x1 t1)).push (.str x2 t2))) (hi : StrsAre its (ls.map S)) (h1 : x1 = S l1) (h2 : x2 = S l2) (hx : x = S []) (hz : (ls.map List.length).sum ≤ 1000000) (hz1 : l1.length ≤ 1000000) (hz2 : l2.length ≤ 1000000)
    (h : ∀ t' k, Q (.str (S (ls.flatten ++ l1 ++ l2)) t') { s with toks := k }) : wpAny (model prog w) A (call (.builtin "str.join") [.str x t, .ref D]) Q E s := by
  subst h1
  rw [show its.toArray.push (Value.str (S l1) t1) = (its ++ [Value.str (S l1) t1]).toArray from List.push_toArray _ _] at hl
  refine join_S1 (ls := ls ++ [l1]) hl (by rw [List.map_append]; exact strs_app hi (strs_one _ _)) h2 hx (by simp; omega) hz2 ?_
  rw [List.flatten_append, List.flatten_cons, List.flatten_nil, List.append_nil]
  exact h
theorem rules_J1_2 : True := by
  k_with "call builtin:str.join" => ((k_here; (first | (first | (refine join_S1 (hl := by k_dflt (walk_at "m list")) (hi := by k_dflt (assumption)) (h1 := by k_dflt (walk_at "m lit")) (hx := by k_dflt (walk_at "m lit")) (hz := by k_dflt (omega)) (hz1 := by k_dflt (first | decide | assumption | omega)) ?_) | (refine join_S2 (hl := by k_dflt (walk_at "m list")) (hi := by k_dflt (assumption)) (h1 := by k_dflt (walk_at "m lit")) (h2 := by k_dflt (walk_at "m lit")) (hx := by k_dflt (walk_at "m lit")) (hz := by k_dflt (omega)) (hz1 := by k_dflt (first | decide | assumption | omega)) (hz2 := by k_dflt (first | decide | assumption | omega)) ?_) | (refine join_S (hl := by k_dflt (walk_at "m list")) (hi := by k_dflt (assumption)) (hx := by k_dflt (walk_at "m lit")) (hz := by k_dflt (omega)) ?_)) | (k_dflt (first | (refine join_S1 (hl := by walk_at "m list") (hi := by assumption) (h1 := by walk_at "m lit") (hx := by walk_at "m lit") (hz := by omega) (hz1 := by first | decide | assumption | omega) ?_) | (refine join_S2 (hl := by walk_at "m list") (hi := by assumption) (h1 := by walk_at "m lit") (h2 := by walk_at "m lit") (hx := by walk_at "m lit") (hz := by omega) (hz1 := by first | decide | assumption | omega) (hz2 := by first | decide | assumption | omega) ?_) | (refine join_S (hl := by walk_at "m list") (hi := by assumption) (hx := by walk_at "m lit") (hz := by omega) ?_)))); intro _ _))
  k_with "execs cons" => ((k_fold))
  trivial
theorem strs_res {st : Addr} : ∀ {its : List Value} {ps : List Pc}, All2 (ResAt st) its ps → (∀ p ∈ ps, p.isStar = false) → StrsAre its ((ps.map Pc.tr).map S) := by
  intro its ps H h
  induction H with
  | nil => exact .nil
  | cons x _ ih =>
    obtain ⟨t, rfl⟩ := res_str x (h _ (.head _))
    exact .cons _ _ (ih fun p hp => h p (.tail _ hp))
theorem tr_le (p : Pc) : p.tr.length ≤ 7 := by
  have h1 : ∀ c, (esc c).length ≤ 2 := fun c => by unfold esc; split <;> simp
  have h2 : ∀ c, (Pc.inSet c).length ≤ 2 := fun c => by unfold Pc.inSet; split <;> simp
  cases p with
  | lit c => have := h1 c; show (esc c).length ≤ 7; omega
  | brk c => show (if c = 91 then [91, 92, 91, 93] else [91, c, 93] : List Nat).length ≤ 7; split <;> simp
  | any => show 1 ≤ 7; decide
  | star => show 2 ≤ 7; decide
  | bar c => have := h2 c; show ([91, 94] ++ Pc.inSet c ++ [93] : List Nat).length ≤ 7; simp; omega
  | dot c =>
    have := h2 c
    show (if c = 93 then [91, 93, 46, 93] else [91, 46] ++ Pc.inSet c ++ [93] : List Nat).length ≤ 7
    split
    · simp
    · simp; omega
theorem sum_tr : ∀ ps : List Pc, ((ps.map Pc.tr).map List.length).sum ≤ 7 * ps.length
  | [] => Nat.le_refl _
  | p :: r => by
    have := sum_tr r
    have h := tr_le p
    simp only [List.map_cons, List.sum_cons, List.length_cons] at *
    omega
theorem tr_flat (ps : List Pc) : (ps.map Pc.tr).flatten = trOf ps := by simp [trOf, List.flatMap]
theorem sub_step {N i n : Nat} (hn : n = N - i) (h : i < N) : N - (i + 1) < n := by omega
theorem sum_le {X a : Nat} (h : X ≤ 7 * a) (ha : a ≤ 901) : X ≤ 6307 := by omega
theorem sum_le2 {X Y : Nat} (h : X ≤ 6307) (k : Y ≤ 6307) : X + 2 + Y ≤ 100000 := by omega
theorem len_le {a n : Nat} (h : a = n) (hn : n ≤ 901) : a ≤ 901 := h ▸ hn
theorem le_part {n a b : Nat} (h : n = a + b) (hn : n ≤ 900) : b ≤ 901 := by omega
structure JnInv (ia st : Addr) (its : List Value) (len : Nat) (news0 : Led) (s₀ : Shared) (N : Nat) (n : Nat) (m : Str → Option Value) (news : Led) (s : Shared) : Prop where
  more : ∃ r q i k t1 t2, (∀ p ∈ news0, p.1 < r) ∧ @LT.lt Nat _ r q ∧ i ≤ N ∧ n = N - i ∧ news = (q, bmObj "list.append" r) :: (r, listOf (its.take i).toArray k) :: news0 ∧ m "inp" = some (.ref ia) ∧ m "STAR" = some (.ref st) ∧ m "res" = some (.ref r) ∧ m "add" = some (.ref q) ∧ m "i" = some (.int (i : Int) t1) ∧ m "n" = some (.int (len : Int) t2)
  gens : s.gens = s₀.gens
  drawn : s.drawn = s₀.drawn
  os : s.os = s₀.os
theorem jn_step {ia st : Addr} {its : List Value} {len : Nat} {news0 : Led} {s₀ : Shared} {N : Nat} {m : Str → Option Value} {s : Shared} {r q : Addr} {i k : Nat} {t1 t2 : Tok} {j : Int} {ys : List Value}
    (h1 : ∀ p ∈ news0, p.1 < r) (h2 : @LT.lt Nat _ r q) (h3 : i + 1 ≤ N) (hys : ys = its.take (i + 1)) (hj : j = ((i + 1 : Nat) : Int)) (m1 : m "inp" = some (.ref ia)) (m2 : m "STAR" = some (.ref st)) (m3 : m "res" = some (.ref r)) (m4 : m "add" = some (.ref q)) (m5 : m "i" = some (.int j t1)) (m6 : m "n" = some (.int (len : Int) t2))
    (g : s.gens = s₀.gens) (d : s.drawn = s₀.drawn) (o : s.os = s₀.os) : JnInv ia st its len news0 s₀ N (N - (i + 1)) m ((q, bmObj "list.append" r) :: (r, listOf ys.toArray k) :: news0) s := by
  subst hys
  subst hj
  exact ⟨⟨r, q, i + 1, k, t1, t2, h1, h2, h3, rfl, rfl, m1, m2, m3, m4, m5, m6⟩, g, d, o⟩
theorem fin_eq {ps : List Pc} {x : List Nat} (h : x = trOf ps) : Str.empty ++ Str.ofString "(?s:" ++ S x ++ Str.ofString ")\\Z" = S ([40, 63, 115, 58] ++ trOf ps ++ [41, 92, 90]) := by
  rw [h, l_nil0, l_open, l_close, S_app, S_app, S_app]; rfl
structure JnInv2 (ia st r q : Addr) (itsA itsB : List Value) (off len : Nat) (news0 : Led) (s₀ : Shared) (N : Nat) (n : Nat) (m : Str → Option Value) (news : Led) (s : Shared) : Prop where
  more : ∃ f i k k2 t1 t2, @LT.lt Nat _ q f ∧ i ≤ N ∧ n = N - i ∧ news = (f, listOf (itsB.take i).toArray k2) :: (q, bmObj "list.append" r) :: (r, listOf itsA.toArray k) :: news0 ∧ m "inp" = some (.ref ia) ∧ m "STAR" = some (.ref st) ∧ m "res" = some (.ref r) ∧ m "add" = some (.ref q) ∧ m "i" = some (.int ((off + i : Nat) : Int) t1) ∧ m "n" = some (.int (len : Int) t2) ∧ m "fixed" = some (.ref f)
  gens : s.gens = s₀.gens
  drawn : s.drawn = s₀.drawn
  os : s.os = s₀.os
theorem jn_step2 {ia st r q : Addr} {itsA itsB : List Value} {off len : Nat} {news0 : Led} {s₀ : Shared} {N : Nat} {m : Str → Option Value} {s : Shared} {f : Addr} {i k k2 : Nat} {t1 t2 : Tok} {j : Int} {ys : List Value}
    (h2 : @LT.lt Nat _ q f) (h3 : i ≤ N) (hys : ys = itsB.take i) (hj : j = ((off + i : Nat) : Int)) (m1 : m "inp" = some (.ref ia)) (m2 : m "STAR" = some (.ref st)) (m3 : m "res" = some (.ref r)) (m4 : m "add" = some (.ref q)) (m5 : m "i" = some (.int j t1)) (m6 : m "n" = some (.int (len : Int) t2)) (m7 : m "fixed" = some (.ref f))
    (g : s.gens = s₀.gens) (d : s.drawn = s₀.drawn) (o : s.os = s₀.os) : JnInv2 ia st r q itsA itsB off len news0 s₀ N (N - i) m ((f, listOf ys.toArray k2) :: (q, bmObj "list.append" r) :: (r, listOf itsA.toArray k) :: news0) s := by
  subst hys
  subst hj
  exact ⟨⟨f, i, k, k2, t1, t2, h2, h3, rfl, rfl, m1, m2, m3, m4, m5, m6, m7⟩, g, d, o⟩
theorem join_gives (w : World) (mean : ExcName → Option Value) (mg mb : Str → Option Value) (ia st : Addr) (A R ps : List Pc) (its : List Value) (kk : Nat) (hits : All2 (ResAt st) its ps) (hps : ps.length ≤ 900) (hAR : ps = A ++ R) (hA : ∀ p ∈ A, p.isStar = false) (hR : R = [] ∨ ∃ B, R = .star :: B ∧ ∀ p ∈ B, p.isStar = false) :
   Gives w mean mg mb 83 [.ref ia, .ref st] (fun news => (ia, listOf its.toArray kk) ∈ news) (RetS (S ([40, 63, 115, 58] ++ trOf ps ++ [41, 92, 90]))) := by
  unfold Gives
  k_fill
  intro dp un gd cn cs a ccd cl outer A₀ base h₀ L m news s Q E B F X N Tp hk hp hd hu hret
  have hlen := hits.length
  have hlenA : A.length ≤ ps.length := by rw [hAR]; simp
  have hA9 : A.length ≤ 901 := Nat.le_trans hlenA (Nat.le_trans hps (by decide))
  refine wpAny_call ?_
  k_dflt ktr_enter
  k_steps
  unfold Hold
  (rename Fr _ _ _ _ => F1)
  (rename News _ _ _ _ => N1)
  (rename @LT.lt Nat _ _ _ ∧ AllLt _ news => l2)
  (rename ∀ p : Addr × Obj, p ∈ news → p.1 < _ => l1)
  obtain ⟨l3, l4⟩ := l2
  refine whl_start 0 (whl_loop (JnInv ia st its ps.length news s A.length) A.length F1 (news₀ := (_, bmObj "list.append" _) :: (_, listOf [].toArray 0) :: news) (by walk_at "m perm") ?_ ?_)
  · exact ⟨⟨_, _, 0, 0, _, _, l1, l3, Nat.zero_le _, rfl, rfl, rfl, rfl, rfl, rfl, rfl, rfl⟩, rfl, rfl, rfl⟩
  · intro n next m1 news1 s1 hI F1 N1
    obtain ⟨⟨r, q, i, k, t1, t2, hr0, hrq, hi, hn, rfl, m1p, m1s, m1r, m1a, m1i, m1n⟩, hg1, hd1, ho1⟩ := hI
    obtain ⟨hp1, g1, d1, tk1, o1⟩ := s1
    dsimp only at hg1 hd1 ho1
    subst hg1 hd1 ho1
    have F2 := fr_canon [("inp", _), ("STAR", _), ("res", _), ("add", _), ("i", _), ("n", _)] F1 (all_cons m1p (all_cons m1s (all_cons m1r (all_cons m1a (all_cons m1i (all_cons m1n all_nil))))))
    clear F1
    rcases Nat.lt_or_ge i A.length with hlt | hge
    · obtain ⟨p, hpA⟩ : ∃ p, A[i]? = some p := ⟨A[i]'hlt, List.getElem?_eq_getElem hlt⟩
      have hpp : ps[i]? = some p := by rw [hAR, List.getElem?_append_left hlt]; exact hpA
      obtain ⟨v, hv, hvr⟩ := hits.get i hpp
      obtain ⟨tv, rfl⟩ := res_str hvr (hA p (List.mem_of_getElem? hpA))
      have hil : i < ps.length := Nat.lt_of_lt_of_le hlt hlenA
      have hi9 : i ≤ 901 := Nat.le_trans hi hA9
      k_steps
      all_goals (try (first | (walk_at "m bmget"; done)))
      unfold Hold
      (rename News _ _ _ _ => N9)
      simp only [List.push_toArray] at N9
      refine next (A.length - (i + 1)) _ _ _ (sub_step hn hlt) (jn_step hr0 hrq hlt (by rw [List.take_add_one, hv]; rfl) rfl rfl rfl rfl rfl rfl rfl rfl rfl rfl) (by k_asm) N9
    · have hiN : i = A.length := Nat.le_antisymm hi hge
      subst hiN
      rcases hR with rfl | ⟨B, rfl, hB⟩
      · have hpl : ps.length = A.length := by rw [hAR]; simp
        have hpe : ps = A := by rw [hAR]; simp
        have hst : StrsAre its ((ps.map Pc.tr).map S) := strs_res hits (by rw [hpe]; exact hA)
        have hsum : ((ps.map Pc.tr).map List.length).sum ≤ 6307 := sum_le (sum_tr ps) (Nat.le_trans hps (by decide))
        have hfl : (S (ps.map Pc.tr).flatten).length ≤ 6307 := by rw [S_len, List.length_flatten]; exact hsum
        rw [List.take_of_length_le (by omega)] at N1
        k_steps
        unfold Hold
        refine whl_start 4 ?_
        k_steps
        all_goals (try (exfalso; omega))
        exact hret _ news _ _ (by k_asm) (by walk_at "m news") (RetS.intro (fin_eq (tr_flat ps)))
      · have hvs : its[A.length]? = some (.ref st) := by
          obtain ⟨v, h1, h2⟩ := hits.get A.length (b := .star) (by rw [hAR]; simp)
          rw [h1]; exact congrArg some h2
        have hpl : ps.length = A.length + 1 + B.length := by rw [hAR]; simp; omega
        have hilt : A.length < ps.length := by rw [hpl, Nat.add_assoc]; exact Nat.lt_add_of_pos_right (by rw [Nat.add_comm]; exact Nat.succ_pos _)
        have hitsA : All2 (ResAt st) (its.take A.length) A := by
          have := hits.take A.length
          rwa [hAR, List.take_left'] at this
          rfl
        have hitsB : All2 (ResAt st) (its.drop (A.length + 1)) B := by
          have := hits.drop (A.length + 1)
          rwa [hAR, show A ++ .star :: B = (A ++ [.star]) ++ B by simp, List.drop_left'] at this
          simp
        have hsum : ((ps.map Pc.tr).map List.length).sum ≤ 6307 := sum_le (sum_tr ps) (Nat.le_trans hps (by decide))
        generalize hiA : its.take A.length = itsA at *
        have hlA := hitsA.length
        have hsA : StrsAre itsA ((A.map Pc.tr).map S) := strs_res hitsA hA
        have hsumA := sum_le (sum_tr A) hA9
        have hiA9 : itsA.length ≤ 901 := len_le hlA hA9
        have hiA10 : itsA.length + 1 ≤ 902 := Nat.succ_le_succ hiA9
        have htr : ∀ l, l = trOf (.star :: B) → trOf ps = trOf A ++ l := fun l h => by rw [h, hAR]; simp [trOf]
        rcases B with _ | ⟨b, B⟩
        · have hpl1 : ps.length = A.length + 1 := by simpa using hpl
          have hfl : (S ((A.map Pc.tr).flatten ++ [46, 42])).length ≤ 10000 := by rw [S_len, List.length_append, List.length_flatten]; exact Nat.le_trans (Nat.add_le_add_right hsumA 2) (by decide)
          k_steps
          unfold Hold
          refine whl_start 1 ?_
          k_steps
          all_goals (try (first | (exfalso; omega) | (walk_at "m bmget"; done)))
          exact hret _ news _ _ (by k_asm) (by walk_at "m news") (RetS.intro (fin_eq (by rw [htr _ rfl, tr_flat]; rfl)))
        · have hb : b.isStar = false := hB _ (.head _)
          have hlB := hitsB.length
          have hpl1 : ps.length = A.length + 2 + B.length := by rw [hpl, List.length_cons]; omega
          have hB9 : B.length ≤ 901 := le_part hpl1 hps
          have hB10 : B.length + 1 ≤ 901 := le_part (a := A.length + 1) (hpl1.trans (by omega)) hps
          have hvb : ∃ t, its[A.length + 1]? = some (.str (S b.tr) t) := by
            obtain ⟨v, h1, h2⟩ := hits.get (A.length + 1) (b := b) (by rw [hAR]; simp)
            obtain ⟨t, rfl⟩ := res_str h2 hb
            exact ⟨t, h1⟩
          obtain ⟨tb, hvb⟩ := hvb
          k_steps
          unfold Hold
          refine whl_start 1 ?_
          k_steps
          all_goals (try (exfalso; omega))
          unfold Hold
          (rename Fr _ _ _ _ => F3)
          (rename News _ _ _ _ => N3)
          (rename (_ : Nat) < _ ∧ _ => l5)
          generalize hiB : its.drop (A.length + 1) = itsB at *
          have hget : ∀ i, itsB[i]? = its[A.length + 1 + i]? := fun i => by rw [← hiB, List.getElem?_drop]
          have hsB : StrsAre itsB (((b :: B).map Pc.tr).map S) := strs_res hitsB hB
          have hsumB := sum_le (sum_tr (b :: B)) hB10
          have hlB2 : itsB.length = B.length + 1 := hlB
          have hiB9 : itsB.length ≤ 901 := len_le hlB2 hB10
          refine whl_start 0 (whl_loop (JnInv2 ia st r q itsA itsB (A.length + 1) ps.length news s (B.length + 1)) (B.length + 1) F3 (news₀ := (_, listOf [].toArray 0) :: (q, bmObj "list.append" r) :: (r, listOf itsA.toArray k) :: news) N3 ?_ ?_)
          · exact jn_step2 (i := 0) l5.1 (Nat.zero_le _) rfl rfl rfl rfl rfl rfl rfl rfl rfl rfl rfl rfl
          · intro n2 next2 m2 news2 s2 hI2 F4 N4
            obtain ⟨⟨f, i, k3, k2, t3, t4, hqf, hi2, hn2, rfl, m2p, m2s, m2r, m2a, m2i, m2n, m2f⟩, hg2, hd2, ho2⟩ := hI2
            obtain ⟨hp2, g2, d2, tk2, o2⟩ := s2
            dsimp only at hg2 hd2 ho2
            subst hg2 hd2 ho2
            have F5 := fr_canon [("inp", _), ("STAR", _), ("res", _), ("add", _), ("i", _), ("n", _), ("fixed", _)] F4 (all_cons m2p (all_cons m2s (all_cons m2r (all_cons m2a (all_cons m2i (all_cons m2n (all_cons m2f all_nil)))))))
            clear F4 next
            have hrf : @LT.lt Nat _ r f := Nat.lt_trans hrq hqf
            rcases Nat.lt_or_ge i (B.length + 1) with hlt2 | hge2
            · obtain ⟨p, hpB⟩ : ∃ p, (b :: B)[i]? = some p := ⟨(b :: B)[i]'hlt2, List.getElem?_eq_getElem hlt2⟩
              obtain ⟨v, hv, hvr⟩ := hitsB.get i hpB
              obtain ⟨tv, rfl⟩ := res_str hvr (hB p (List.mem_of_getElem? hpB))
              have hv1 := hv
              rw [hget] at hv1
              k_steps
              unfold Hold
              (rename News _ _ _ _ => N9)
              simp only [List.push_toArray] at N9
              refine next2 (B.length + 1 - (i + 1)) _ _ _ (sub_step hn2 hlt2) (jn_step2 hqf hlt2 (by rw [List.take_add_one, hv]; rfl) rfl rfl rfl rfl rfl rfl rfl rfl rfl rfl rfl) (by k_asm) N9
            · have hiN : i = B.length + 1 := Nat.le_antisymm hi2 hge2
              subst hiN
              rw [List.take_of_length_le (Nat.le_of_eq hlB2)] at N4
              have hni0 : A.length + 1 + (B.length + 1) = ps.length := by rw [hpl1]; omega
              have hni : ((A.length + 1 + (B.length + 1) : Nat) : Int) = ((ps.length : Nat) : Int) := congrArg Int.ofNat hni0
              have hsum2 := hsumB
              have hfl2 : (((b :: B).map Pc.tr).flatten).length ≤ 6307 := by rw [List.length_flatten]; exact hsumB
              have hfl : (S ((A.map Pc.tr).flatten ++ [46, 42] ++ ((b :: B).map Pc.tr).flatten)).length ≤ 100000 := by
                rw [S_len, List.length_append, List.length_append, List.length_flatten, List.length_flatten]; exact sum_le2 hsumA hsumB
              k_steps
              all_goals (try (first | (exfalso; omega) | (walk_at "m bmget"; done)))
              change WhlRest _ _ _ _ _ _ _ _ _ 4 _
              k_steps
              all_goals (try (first | (exfalso; omega) | (walk_at "m bmget"; done)))
              exact hret _ news _ _ (by k_asm) (by walk_at "m news") (RetS.intro (fin_eq (by rw [htr _ rfl, tr_flat, tr_flat]; simp [trOf, Pc.tr])))

end Mine
end
section
theorem Mine.begin_Tq : True := by
  w_top off
  k_with_none
  k_with "omega" => (first | with_reducible assumption | with_reducible exact Nat.le_trans (by assumption) (Nat.le_of_ble_eq_true rfl) | with_reducible exact Nat.le_refl _ | with_reducible exact Nat.ne_of_gt (by assumption) | with_reducible exact Nat.ne_of_lt (by assumption) | with_reducible exact Ne.symm (by assumption) | with_reducible exact Int.ofNat_lt.mpr (by assumption) | with_reducible exact Nat.lt_of_le_of_lt (Nat.le_add_right _ _) (by assumption))
  trivial
namespace Mine
theorem rules_Tq_1 : True := by
  k_with "newList" => ((k_here; (first | (refine newList_K (F := by k_dflt (k_asm)) (N := by k_dflt (k_asm)) ?_ (hsz := by k_dflt (exact Nat.le_of_ble_eq_true rfl))) | (k_dflt (refine newList_K (F := by k_asm) (N := by k_asm) ?_ (hsz := by exact Nat.le_of_ble_eq_true rfl)))); intro _ _ _ _ l1qq; (try k_lt l1qq); (try k_sweep)))
  trivial
theorem rules_Tq_2 : True := by
  k_with "m sub" => ((intro p hp; repeat (first | exact hp | refine List.mem_cons_of_mem _ ?_)))
  k_with "m news" => ((refine cb_drop (N := by k_asm) ?_; walk_at "m sub"))
  k_with "m lt" => (first | assumption | exact ktn_ltOf (by assumption) | (refine ktn_ltOf ?_; simp only [AllLt, and_true] at *; simp only [*]))
  k_with "compareOp In ref ref" => ((k_here; (first | (refine in_parts (hp := by k_dflt (assumption)) (hi := by k_dflt (assumption)) (N := by k_dflt (walk_at "m news")) (N' := by k_dflt (k_asm)) (hE := by k_dflt (k_mem)) (hlt := by k_dflt (walk_at "m lt")) (hu := by k_dflt (ktr_units)) (hb := by k_dflt (first | exact (show _ = true from (congrArg Option.isSome (by assumption)).trans rfl) | exact (show _ = false from (congrArg Option.isSome (by assumption)).trans rfl))) ?_; k_whole) | (k_dflt (refine in_parts (hp := by assumption) (hi := by assumption) (N := by walk_at "m news") (N' := by k_asm) (hE := by k_mem) (hlt := by walk_at "m lt") (hu := by ktr_units) (hb := by first | exact (show _ = true from (congrArg Option.isSome (by assumption)).trans rfl) | exact (show _ = false from (congrArg Option.isSome (by assumption)).trans rfl)) ?_; k_whole)))))
  k_with "call builtin:list.index" => ((k_here; (first | (refine index_parts (hp := by k_dflt (assumption)) (hi := by k_dflt (assumption)) (N := by k_dflt (walk_at "m news")) (N' := by k_dflt (k_asm)) (hE := by k_dflt (k_mem)) (hlt := by k_dflt (walk_at "m lt")) (hu := by k_dflt (ktr_units)) (hj := by k_dflt (assumption)) (hs := by k_dflt (omega)) ?_; k_whole) | (k_dflt (refine index_parts (hp := by assumption) (hi := by assumption) (N := by walk_at "m news") (N' := by k_asm) (hE := by k_mem) (hlt := by walk_at "m lt") (hu := by ktr_units) (hj := by assumption) (hs := by omega) ?_; k_whole)))))
  k_with "getMethod ref" => ((k_here; (with_reducible show wpAny _ _ (getMethod (Value.ref _) (PySem.Str.ofString "index") _) _ _ _); (first | (refine index_method (hm := by k_dflt (assumption)) (N := by k_dflt (walk_at "m news")) ?_) | (k_dflt (refine index_method (hm := by assumption) (N := by walk_at "m news") ?_)))))
  k_with "m list" => ((refine News.isList (N := by k_asm) (hm := by repeat (first | assumption | exact List.Mem.head _ | refine List.mem_cons_of_mem _ ?_))))
  k_with "m small" => (first | exact Nat.le_of_ble_eq_true rfl | (simp only [List.size_toArray, sizeLine_eq, Array.length_toList]; omega) | (simp only [List.size_toArray, List.length_append, List.length_take, List.length_drop, All2.length (by assumption : All2 _ _ _), sizeLine_eq, Array.length_toList]; omega))
  k_with "subscriptTail Name Slice ref ref" => ((k_here; (with_reducible show wpAny _ _ (subscriptTail _ (PySem.Expr.Slice _ _ none _) (Value.ref _) (Value.ref _)) _ _ _); (first | (refine kms_slice_lit (F := by k_dflt (k_asm)) (N := by k_dflt (k_asm)) (hl := by k_dflt (walk_at "m list")) (pl := by k_dflt (kmk_part)) (pu := by k_dflt (kmk_part)) (e := by k_dflt (first | exact pick_to _ _ | exact pick_from1 _ _ | exact pick_from _ _)) ?_ (hs := by k_dflt (with_unfolding_all rfl)) (ht := by k_dflt (kmk_pure)) (hz := by k_dflt (walk_at "m small")); k_whole) | (k_dflt (refine kms_slice_lit (F := by k_asm) (N := by k_asm) (hl := by walk_at "m list") (pl := by kmk_part) (pu := by kmk_part) (e := by first | exact pick_to _ _ | exact pick_from1 _ _ | exact pick_from _ _) ?_ (hs := by with_unfolding_all rfl) (ht := by kmk_pure) (hz := by walk_at "m small"); k_whole))); intro _ _ _ _ l1qq; (try k_lt l1qq); (try k_sweep)))
  k_with "binaryOp Add ref ref" => ((k_here; (with_reducible show wpAny _ _ (binaryOp _ (Value.ref _) (Value.ref _)) _ _ _); (first | (refine kmk_add_lit (F := by k_dflt (k_asm)) (N := by k_dflt (k_asm)) (ha := by k_dflt (walk_at "m list")) (hb := by k_dflt (walk_at "m list")) (e := by k_dflt (exact add_e _ _)) ?_ (hz := by k_dflt (walk_at "m small"))) | (k_dflt (refine kmk_add_lit (F := by k_asm) (N := by k_asm) (ha := by walk_at "m list") (hb := by walk_at "m list") (e := by exact add_e _ _) ?_ (hz := by walk_at "m small")))); intro _ _ _ _ l1qq; (try k_lt l1qq); (try k_sweep)))
  k_with "call builtin:len" => ((k_here; (with_reducible show wpAny _ _ (call (Value.builtin "len") [Value.ref _]) _ _ _); (first | (refine len_lst (hl := by k_dflt (walk_at "m list")) (e := by k_dflt (assumption)) (hn := by k_dflt (omega)) ?_) | (k_dflt (refine len_lst (hl := by walk_at "m list") (e := by assumption) (hn := by omega) ?_))); intro _ _))
  k_with "CompSrcT" => ((refine Hold.of ?_))
  k_with "m place" => (first | exact Int.zero_add _ | exact (rfl : (0 : Int) = ((0 : Nat) : Int)) | exact (rfl : (1 : Int) = ((1 : Nat) : Int)))
  k_with "subscriptTail Name Name str int" => ((k_here; (first | (refine item_S (hk := by k_dflt (walk_at "m place")) (hc := by k_dflt (assumption)) (hl := by k_dflt (first | assumption | omega)) ?_ (hs := by k_dflt (with_unfolding_all rfl)) (hg := by k_dflt (kmk_pure))) | (k_dflt (refine item_S (hk := by walk_at "m place") (hc := by assumption) (hl := by first | assumption | omega) ?_ (hs := by with_unfolding_all rfl) (hg := by kmk_pure)))); intro _ _))
  k_with "m item" => ((k_here; (with_reducible show wpAny _ _ (subscriptTail _ _ (Value.ref _) (Value.int _ _)) _ _ _); (first | (refine item_L (hl := by k_dflt (walk_at "m list")) (hk := by k_dflt (walk_at "m place")) (hx := by k_dflt (first | assumption | exact rfl)) (hz := by k_dflt (first | exact Nat.le_of_ble_eq_true rfl | omega)) ?_ (hs := by k_dflt (with_unfolding_all rfl)) (hg := by k_dflt (kmk_pure))) | (k_dflt (refine item_L (hl := by walk_at "m list") (hk := by walk_at "m place") (hx := by first | assumption | exact rfl) (hz := by first | exact Nat.le_of_ble_eq_true rfl | omega) ?_ (hs := by with_unfolding_all rfl) (hg := by kmk_pure))))))
  k_with "subscriptTail Name Name ref int" => (walk_at "m item")
  k_with "subscriptTail Subscript Constant ref int" => (walk_at "m item")
  k_with "compareOp In str str" => ((k_here; (first | (refine in_S ?_) | (k_dflt (refine in_S ?_)))))
  k_with "m mem" => (repeat (first | assumption | exact List.Mem.head _ | refine List.mem_cons_of_mem _ ?_))
  k_with "compareOp Eq ref ref" => ((k_here; (first | (refine eq_nil (N := by k_dflt (k_asm)) (hD := by k_dflt (walk_at "m mem")) (hE := by k_dflt (walk_at "m mem")) (hu := by k_dflt (ktr_units)) ?_) | (k_dflt (refine eq_nil (N := by k_asm) (hD := by walk_at "m mem") (hE := by walk_at "m mem") (hu := by ktr_units) ?_)))))
  k_with "compareOp Eq bool bool" => ((k_here; (first | (refine PyProof.Rows.eq_bool ?_) | (k_dflt (refine PyProof.Rows.eq_bool ?_)))))
  k_with "subscriptTail Name Constant ref int" => (walk_at "m item")
  k_with "call ref" => ((refine Hold.of ?_))
  k_with "getAttr ref true" => ((k_here; (with_reducible show wpAny _ _ (getAttr (Value.ref _) (PySem.Str.ofString "append") _) _ _ _); (first | (refine getAttr_bm (F := by k_dflt (k_asm)) (N := by k_dflt (k_asm)) (hD := by k_dflt (walk_at "m mem")) ?_) | (k_dflt (refine getAttr_bm (F := by k_asm) (N := by k_asm) (hD := by walk_at "m mem") ?_))); intro q' _ _ _ l1qq; (try k_lt l1qq); (try k_sweep)))
  k_with "callWith ref" => ((k_here; (first | (refine callWith_bm (by k_dflt (k_asm)) (by k_dflt (walk_at "m mem")) ?_) | (k_dflt (refine callWith_bm (by k_asm) (by walk_at "m mem") ?_)))))
  k_with "And" => ((k_dflt ((show Heap.get? _ _ = some (bmObj _ _) ∧ _); (refine And.intro (left := by (refine News.get (N := by k_asm) (hm := by walk_at "m mem"))) ?_)); (try dsimp only [List.nil_append, List.cons_append])))
  k_with "call ref" => ((k_here; (first | (refine call_bm (F := by k_dflt (k_asm)) (N := by k_dflt (k_asm)) (hq := by k_dflt (walk_at "m mem")) (U := by k_dflt (k_upd)) ?_ (hsz := by k_dflt (walk_at "m small"))) | (k_dflt (refine call_bm (F := by k_asm) (N := by k_asm) (hq := by walk_at "m mem") (U := by k_upd) ?_ (hsz := by walk_at "m small")))); intro _ _ _; (try k_sweep)))
  k_with "exec While" => ((refine Hold.of ?_))
  k_with "exec While Compare cons nil" => ((refine Hold.of ?_))
  k_with "m place" => (first | with_reducible exact (rfl : ((_ : Nat) : Int) = _) | with_reducible exact pl1 _ | with_reducible exact pl2 _ | with_reducible exact pl3 _ | with_reducible exact pl4 _ | exact (rfl : ((_ : Nat) : Int) = _) | exact pl1 _ | exact pl2 _ | exact pl3 _ | exact pl4 _)
  k_with "WhlIf" => ((first | (refine WhlIf.yes (h := by ((try simp only [decide_eq_true_eq, Bool.not_eq_true', decide_eq_false_iff_not, Bool.and_eq_true]); first | omega | assumption | rfl)) ?_) | (refine WhlIf.no (h := by ((try simp only [decide_eq_false_iff_not, Bool.not_eq_false']); first | omega | assumption | rfl)) ?_)))
  k_with "m perm" => ((refine cb_drop (N := by k_asm) ?_; repeat' (first | (refine List.forall_mem_cons.mpr (And.intro ?_ ?_)) | (walk_at "m mem"; done) | (walk_at "m sub"; done))))
  k_with "m lit" => (with_reducible first | exact l_star | exact l_qm | exact l_lb | exact l_rb | exact l_ex | exact l_dash | exact l_dot | exact l_hat | exact l_bs | exact l_bs2 | exact l_bsd | exact l_nil | exact l_dotstar | exact l_open | exact l_close | exact rfl)
  k_with "m same" => (first | rfl | ((try simp only [sg, decide_eq_true_eq, decide_eq_false_iff_not, Bool.not_eq_true', Bool.not_eq_false', Bool.not_true, Bool.not_false]); first | omega | assumption | (simp; done) | (simp; omega) | (simp [*]; done)))
  k_with "m sameF" => (first | (with_reducible exact hdF (by assumption)) | (with_reducible exact hdF (Ne.symm (by assumption))) | exact rfl)
  k_with "m nsameF" => (first | (with_reducible exact hdNT (by assumption)) | (with_reducible exact hdNT (Ne.symm (by assumption))) | exact rfl)
  k_with "compareOp Eq str str" => ((k_here; (first | (first | (refine eq_Sv false (hx := by k_dflt (walk_at "m lit")) (hy := by k_dflt (walk_at "m lit")) (hv := by k_dflt (walk_at "m sameF")) ?_) | (refine eq_Sv true (hx := by k_dflt (walk_at "m lit")) (hy := by k_dflt (walk_at "m lit")) (hv := by k_dflt (exact rfl)) ?_) | (refine eq_Sv true (hx := by k_dflt (walk_at "m lit")) (hy := by k_dflt (walk_at "m lit")) (hv := by k_dflt (walk_at "m same")) ?_) | (refine eq_Sv false (hx := by k_dflt (walk_at "m lit")) (hy := by k_dflt (walk_at "m lit")) (hv := by k_dflt (walk_at "m same")) ?_) | (refine eq_S (hx := by k_dflt (walk_at "m lit")) (hy := by k_dflt (walk_at "m lit")) ?_)) | (k_dflt (first | (refine eq_Sv false (hx := by walk_at "m lit") (hy := by walk_at "m lit") (hv := by walk_at "m sameF") ?_) | (refine eq_Sv true (hx := by walk_at "m lit") (hy := by walk_at "m lit") (hv := by exact rfl) ?_) | (refine eq_Sv true (hx := by walk_at "m lit") (hy := by walk_at "m lit") (hv := by walk_at "m same") ?_) | (refine eq_Sv false (hx := by walk_at "m lit") (hy := by walk_at "m lit") (hv := by walk_at "m same") ?_) | (refine eq_S (hx := by walk_at "m lit") (hy := by walk_at "m lit") ?_))))))
  k_with "compareOp NotEq str str" => ((k_here; (first | (first | (refine ne_Sv true (hx := by k_dflt (walk_at "m lit")) (hy := by k_dflt (walk_at "m lit")) (hv := by k_dflt (walk_at "m nsameF")) ?_) | (refine ne_Sv false (hx := by k_dflt (walk_at "m lit")) (hy := by k_dflt (walk_at "m lit")) (hv := by k_dflt (exact rfl)) ?_) | (refine ne_Sv true (hx := by k_dflt (walk_at "m lit")) (hy := by k_dflt (walk_at "m lit")) (hv := by k_dflt (walk_at "m same")) ?_) | (refine ne_Sv false (hx := by k_dflt (walk_at "m lit")) (hy := by k_dflt (walk_at "m lit")) (hv := by k_dflt (walk_at "m same")) ?_) | (refine ne_S (hx := by k_dflt (walk_at "m lit")) (hy := by k_dflt (walk_at "m lit")) ?_)) | (k_dflt (first | (refine ne_Sv true (hx := by walk_at "m lit") (hy := by walk_at "m lit") (hv := by walk_at "m nsameF") ?_) | (refine ne_Sv false (hx := by walk_at "m lit") (hy := by walk_at "m lit") (hv := by exact rfl) ?_) | (refine ne_Sv true (hx := by walk_at "m lit") (hy := by walk_at "m lit") (hv := by walk_at "m same") ?_) | (refine ne_Sv false (hx := by walk_at "m lit") (hy := by walk_at "m lit") (hv := by walk_at "m same") ?_) | (refine ne_S (hx := by walk_at "m lit") (hy := by walk_at "m lit") ?_))))))
  k_with "WhlRest" => (((with_reducible show WhlRest _ _ _ _ _ _ _ _ _ 0 _); refine Hold.of ?_))
  k_with "m gives" => (skip)
  k_with "call ref" => ((k_here; (first | (refine gives_use (escape_gives _ _ _ _ _ _) (B := by k_dflt (k_asm)) (F := by k_dflt (k_asm)) (X := by k_dflt (k_asm)) (N := by k_dflt (k_asm)) (T := by k_dflt (k_asm)) (hk := by k_dflt (exact rfl)) trivial (hd := by k_dflt (ktr_room)) (hu := by k_dflt (ktr_units)) ?_) | (k_dflt (refine gives_use (escape_gives _ _ _ _ _ _) (B := by k_asm) (F := by k_asm) (X := by k_asm) (N := by k_asm) (T := by k_asm) (hk := by exact rfl) trivial (hd := by ktr_room) (hu := by ktr_units) ?_))); intro r' n' _ _ _ _ P'; obtain ⟨e1', tqq, e2'⟩ := P'; subst e1'; subst e2'; (try dsimp only); (try k_sweep); (try k_fold)))
  k_with "m bmget" => (((with_reducible show Heap.get? _ _ = some (bmObj _ _)); refine News.get (N := by k_asm) (hm := by walk_at "m mem")))
  k_with "truthy ref" => ((k_here; (first | (first | (refine truthy_L (b := true) (hl := by k_dflt (walk_at "m list")) (hz := by k_dflt (walk_at "m short")) (hb := by k_dflt (first | rfl | (simp; done))) ?_) | (refine truthy_L (b := false) (hl := by k_dflt (walk_at "m list")) (hz := by k_dflt (walk_at "m short")) (hb := by k_dflt (first | rfl | (simp; done))) ?_)) | (k_dflt (first | (refine truthy_L (b := true) (hl := by walk_at "m list") (hz := by walk_at "m short") (hb := by first | rfl | (simp; done)) ?_) | (refine truthy_L (b := false) (hl := by walk_at "m list") (hz := by walk_at "m short") (hb := by first | rfl | (simp; done)) ?_)))); intro _))
  k_with "m short" => (first | omega | (simp; done) | (simp at *; omega))
  k_with "subscriptTail Name UnaryOp ref int" => ((k_here; (first | (refine item_last (hl := by k_dflt (walk_at "m list")) (hz := by k_dflt (walk_at "m short")) ?_ (hs := by k_dflt (with_unfolding_all rfl)) (hg := by k_dflt (kmk_pure))) | (k_dflt (refine item_last (hl := by walk_at "m list") (hz := by walk_at "m short") ?_ (hs := by with_unfolding_all rfl) (hg := by kmk_pure))))))
  k_with "compareOp IsNot str ref" => ((k_here; (first | (refine isnot_str_ref ?_) | (k_dflt (refine isnot_str_ref ?_)))))
  k_with "exec While BoolOp cons nil" => ((refine whl_start 4 ?_))
  k_with "execs cons" => ((k_here; refine keep_toks (hX := by with_reducible exact Nat.succ_ne_zero _) ?_; intro tk htk))
  k_with "compareOp NotIn str str" => ((k_here; (first | (first | (refine notin_Sv true (hx := by k_dflt (walk_at "m lit")) (hz := by k_dflt (walk_at "m lit")) (hv := by k_dflt (walk_at "m same")) ?_) | (refine notin_Sv false (hx := by k_dflt (walk_at "m lit")) (hz := by k_dflt (walk_at "m lit")) (hv := by k_dflt (walk_at "m same")) ?_)) | (k_dflt (first | (refine notin_Sv true (hx := by walk_at "m lit") (hz := by walk_at "m lit") (hv := by walk_at "m same") ?_) | (refine notin_Sv false (hx := by walk_at "m lit") (hz := by walk_at "m lit") (hv := by walk_at "m same") ?_))))))
  k_with "call builtin:str.replace" => ((k_here; (first | (first | (refine replace_no (hx := by k_dflt (walk_at "m lit")) (hy := by k_dflt (walk_at "m lit")) (hc := by k_dflt ((simp; first | done | omega))) ?_) | (refine replace_yes (hx := by k_dflt (walk_at "m lit")) (hy := by k_dflt (walk_at "m lit")) (hz := by k_dflt (walk_at "m lit")) (hu := by k_dflt (first | exact NZ.ne (by assumption) | exact Nat.succ_ne_zero _)) (hv := by k_dflt (exact Nat.succ_ne_zero _)) (huv := by k_dflt (exact Nat.ne_of_lt (Nat.lt_succ_self _))) (hyz := by k_dflt (rfl)) (hl := by k_dflt ((simp; done))) (hzz := by k_dflt (decide)) (hr := by k_dflt (first | assumption | exact rfl)) ?_; intro _ _)) | (k_dflt (first | (refine replace_no (hx := by walk_at "m lit") (hy := by walk_at "m lit") (hc := by (simp; first | done | omega)) ?_) | (refine replace_yes (hx := by walk_at "m lit") (hy := by walk_at "m lit") (hz := by walk_at "m lit") (hu := by first | exact NZ.ne (by assumption) | exact Nat.succ_ne_zero _) (hv := by exact Nat.succ_ne_zero _) (huv := by exact Nat.ne_of_lt (Nat.lt_succ_self _)) (hyz := by rfl) (hl := by (simp; done)) (hzz := by decide) (hr := by first | assumption | exact rfl) ?_; intro _ _))))))
  k_with "subscriptTail Name Slice str ref" => (((with_reducible show wpAny _ _ (subscriptTail _ (PySem.Expr.Slice (some _) (some _) none _) _ _) _ _ _); (with_reducible rename Fr _ _ _ _ => Fqq); (with_reducible rename News _ _ _ _ => Nqq); (refine slice_strN_ss (hsz := (by size_fits)) (s := ⟨_, _, _, _, _⟩) Fqq Nqq ?_); intro _ _ _ _ _; (rename Txt.slice _ (some _) (some _) = _ => hsl9qq; rw [hsl9qq])))
  k_with "subscriptTail Name Slice str ref" => (((with_reducible show wpAny _ _ (subscriptTail _ (PySem.Expr.Slice (some _) none none _) _ _) _ _ _); (with_reducible rename Fr _ _ _ _ => Fqq); (with_reducible rename News _ _ _ _ => Nqq); (refine slice_strN_sn (hsz := (by size_fits)) (s := ⟨_, _, _, _, _⟩) Fqq Nqq ?_); intro _ _ _ _ _; rw [S_tail]))
  k_with "getMethod ref" => ((k_here; (with_reducible show wpAny _ _ (getMethod (Value.ref _) (PySem.Str.ofString "sub") _) _ _ _); (first | (refine getMethod_sub' (h50 := by k_dflt (exact pat_at (by assumption) (by assumption))) ?_) | (k_dflt (refine getMethod_sub' (h50 := by exact pat_at (by assumption) (by assumption)) ?_)))))
  k_with "call builtin:re.Pattern.sub" => ((k_here; (first | (refine sub_rule _ _ _ _ (B := by k_dflt (k_asm)) (F := by k_dflt (k_asm)) (X := by k_dflt (k_asm)) (N := by k_dflt (k_asm)) (T := by k_dflt (k_asm)) (hk := by k_dflt (exact rfl)) (hdd := by k_dflt (ktr_room)) (hu := by k_dflt (ktr_units)) (hf := by k_dflt (walk_at "m mem")) (hc := by k_dflt (exact codes_up (by assumption) (by walk_at "m sub"))) (hs := by k_dflt (k_asm)) ?_) | (k_dflt (refine sub_rule _ _ _ _ (B := by k_asm) (F := by k_asm) (X := by k_asm) (N := by k_asm) (T := by k_asm) (hk := by exact rfl) (hdd := by ktr_room) (hu := by ktr_units) (hf := by walk_at "m mem") (hc := by exact codes_up (by assumption) (by walk_at "m sub")) (hs := by k_asm) ?_))); intro _ _ _ _ _; (try dsimp only); (try k_sweep)))
  k_with "eval Lambda" => ((k_here; (first | (refine kla_eval (hdef := by k_dflt (exact rfl)) ?_) | (k_dflt (refine kla_eval (hdef := by exact rfl) ?_))); k_dflt (refine lam_new (own := [_, _]) (P := 71) (ks := trKs) (F := by k_asm) (N := by k_asm) (Tp := by k_asm) (C := by k_asm) (hcd := by exact rfl) (hP1 := by k_all) (hP2 := by k_asm) (H := by k_asm) (hk := by exact trKs_lam) (hkm := by exact List.Mem.head _) (hcl := by exact rfl) ?_); intro f' c' ct' _ _ _ rest' _ G' C' Nqq l1qq l2 l3; (dsimp only [List.cons_append, List.nil_append] at Nqq); (have hz1 := Grown.ne G' (by assumption) (List.Mem.head _)); (have hz2 := Grown.ne G' (by assumption) (List.Mem.tail _ (List.Mem.head _))); (have hz3 := Grown.ne G' (by assumption) (List.Mem.tail _ (List.Mem.tail _ (List.Mem.head _)))); (have hz4 : @LT.lt Nat _ _ _ := l1qq _ (List.Mem.head _)); (have hz5 : @LT.lt Nat _ _ _ := l1qq _ (List.Mem.tail _ (List.Mem.head _))); (have hz6 := Grown.ok G'); dsimp only at hz1 hz2 hz3 hz4 hz5))
  k_with "truthy str" => ((k_here; (first | (refine truthy_S (hl := by k_dflt (first | (with_reducible assumption) | omega | decide | (simp; done) | (simp; omega))) ?_) | (k_dflt (refine truthy_S (hl := by first | (with_reducible assumption) | omega | decide | (simp; done) | (simp; omega)) ?_))); intro _))
  k_with "compareOp In str ref" => ((k_here; (first | (first | (refine in_two false (N := by k_dflt (k_asm)) (hD := by k_dflt (walk_at "m mem")) (hx := by k_dflt (walk_at "m lit")) (hy := by k_dflt (walk_at "m lit")) (hz := by k_dflt (walk_at "m lit")) (hv := by k_dflt ((simp; first | done | omega))) ?_) | (refine in_two true (N := by k_dflt (k_asm)) (hD := by k_dflt (walk_at "m mem")) (hx := by k_dflt (walk_at "m lit")) (hy := by k_dflt (walk_at "m lit")) (hz := by k_dflt (walk_at "m lit")) (hv := by k_dflt ((simp; first | done | omega))) ?_)) | (k_dflt (first | (refine in_two false (N := by k_asm) (hD := by walk_at "m mem") (hx := by walk_at "m lit") (hy := by walk_at "m lit") (hz := by walk_at "m lit") (hv := by (simp; first | done | omega)) ?_) | (refine in_two true (N := by k_asm) (hD := by walk_at "m mem") (hx := by walk_at "m lit") (hy := by walk_at "m lit") (hz := by walk_at "m lit") (hv := by (simp; first | done | omega)) ?_))))))
  k_with "subscriptTail Name Constant str int" => ((k_here; (first | (refine item_S (k := 0) (hk := by k_dflt (exact rfl)) (hc := by k_dflt (exact rfl)) (hl := by k_dflt (first | (simp; done) | (simp; omega))) ?_ (hs := by k_dflt (with_unfolding_all rfl)) (hg := by k_dflt (kmk_pure))) | (k_dflt (refine item_S (k := 0) (hk := by exact rfl) (hc := by exact rfl) (hl := by first | (simp; done) | (simp; omega)) ?_ (hs := by with_unfolding_all rfl) (hg := by kmk_pure)))); intro _ _))
  k_with "binaryOp Add str str" => ((k_here; (first | (refine add_hat (hx := by k_dflt (exact l_hat)) (hl := by k_dflt (omega)) ?_) | (k_dflt (refine add_hat (hx := by exact l_hat) (hl := by omega) ?_))); intro _ _))
  k_with "exec If" => (refine wpAny_If ?_)
  k_with "m fsize" => (((with_reducible show Str.length _ ≤ sizeLine); (simp only [l_lb, l_rb, l_nil0, S_app, S_len, sizeLine_eq, List.length_append, List.length_cons, List.length_nil]); omega))
  trivial
noncomputable def TailFlag : Prop := True
theorem hold_flag {P : Prop} (h : Hold P) (_f : TailFlag) : P := h
theorem rules_Tq_3 : True := by
  k_with "exec If" => (((with_reducible show wpAny _ _ (exec (Stmt.If (PySem.Expr.UnaryOp _ _ _) _ _ _) _) _ _ _); refine hold_flag ?_ (by assumption)))
  k_with "execs cons" => ((k_fold))
  trivial
theorem set_tail (w : World) (mean : ExcName → Option Value) (mg mb : Str → Option Value) {dp un : Nat} {gd : Option (List Code)} {cn : Str} {cs : Scope} {L a : Addr} {ccd : Value} {cl : List (Str × Addr)} {outer : List Env} {base g : Heap} {L' : Addr} {m : Str → Option Value} {s : Shared} {Q : Flow → Shared → Prop} {E : Value → Shared → Prop}
    {T1 : Array Value} {rest : Led} {r q : Addr} {its : List Value} {k : Nat} {r1 : List Nat} {x : Nat} {Y : List Nat} {j : Int} {tj ts : Tok} {out : List Nat} {v1 v2 v3 v4 : Value}
    (B : Below (ktrTop dp un gd cn cs L a ccd cl outer) base (envX cn cs L a ccd cl :: outer) g) (F : Fr g L' s.heap m) (X : Frag.In (hd.heap_39 w.params) g) (T : Top topProg LooseL mean mg mb g)
    (N : News g L' s.heap ((r, listOf its.toArray k) :: (q, bmObj "list.append" r) :: (71, tabObj T1) :: rest)) (hd0 : dp + 20 < recursionLimit) (hu : un + 200 < cLine)
    (hTab : TabOk trKs T1 rest) (h71 : ∀ p ∈ rest, p.1 ≠ 71) (hr : ∀ p ∈ rest, p.1 ≠ r) (hq : ∀ p ∈ rest, p.1 ≠ q) (h71r : @LT.lt Nat _ 71 r) (hrq : @LT.lt Nat _ r q) (hz : its.length ≤ 1000)
    (hsub : SubOk r1 (x :: Y)) (hYl : Y.length ≤ 10) (hx : x = 91 ∧ Y = [] ∨ (x = 33 ∧ Y ≠ []) ∨ (x ≠ 33 ∧ x ≠ 94 ∧ x ≠ 91))
    (m1 : m "pat" = some v1) (m2 : m "STAR" = some v2) (m3 : m "QUESTION_MARK" = some v3) (m4 : m "res" = some (.ref r)) (m5 : m "add" = some (.ref q)) (m6 : m "n" = some v4) (m7 : m "j" = some (.int j tj)) (m8 : m "stuff" = some (.str (S r1) ts))
    (hout : out = setOut x Y) (hj : -10000 ≤ j ∧ j ≤ 10000)
    (ret : ∀ h' tk' m' T1' rest' v i', Fr g L' h' m' → (∃ t, v = Value.str (S out) t) → News g L' h' ((r, listOf (its ++ [v]).toArray (k + 1)) :: (q, bmObj "list.append" r) :: (71, tabObj T1') :: rest') → TabOk trKs T1' rest' → (∀ p ∈ rest, p ∈ rest') → (∀ p ∈ rest', p.1 ≠ 71) → (∀ p ∈ rest', p.1 ≠ r) → (∀ p ∈ rest', p.1 ≠ q) →
      m' "pat" = some v1 → m' "STAR" = some v2 → m' "QUESTION_MARK" = some v3 → m' "res" = some (.ref r) → m' "add" = some (.ref q) → m' "n" = some v4 → m' "i" = some (.int (j + 1) i') → Q .next { s with heap := h', toks := tk' }) :
    wpAny (model PySem.Challenge.rw_ij0088_01.row.prog w) ((ktrTop dp un gd cn cs L a ccd cl outer).deeper (envOf (Str.ofString "_translate") (scAt (_root_.Mine.hd.heap_39 w.params) 76) L' 76 (.ref 75))) (execs (tailStmts (_root_.Mine.hd.heap_39 w.params)) (envOf (Str.ofString "_translate") (scAt (_root_.Mine.hd.heap_39 w.params) 76) L' 76 (.ref 75))) Q E s := by
  k_fill
  generalize hsc : scAt (_root_.Mine.hd.heap_39 w.params) 76 = sc
  conv at hsc => lhs; whnf
  subst hsc
  have hst : tailStmts (_root_.Mine.hd.heap_39 w.params) = tailStmts (_root_.Mine.hd.heap_39 w.params) := rfl
  conv at hst => rhs; whnf
  rw [hst]
  obtain ⟨hp1, g1, d1, tk1, o1⟩ := s
  have F2 := fr_canon [("pat", _), ("STAR", _), ("QUESTION_MARK", _), ("res", _), ("add", _), ("n", _), ("j", _), ("stuff", _)] F (all_cons m1 (all_cons m2 (all_cons m3 (all_cons m4 (all_cons m5 (all_cons m6 (all_cons m7 (all_cons m8 all_nil))))))))
  clear m1 m2 m3 m4 m5 m6 m7 m8
  have hC9 := codeHd_of X
  have fl : TailFlag := trivial
  k_steps
  unfold Hold
  clear fl
  have hsz : (S (x :: Y)).length ≤ 1000 := by rw [S_len]; simp; omega
  have hsz2 : (x :: Y).length ≤ 1000 := by simp; omega
  (rename Grown _ _ _ _ _ => G9)
  clear hsub
  rcases hx with ⟨rfl, rfl⟩ | ⟨rfl, hY⟩ | ⟨k33, k94, k91⟩
  · k_steps
    all_goals (try (first | (walk_at "m bmget"; done) | (walk_at "m fsize"; done)))
    (rename News _ _ _ _ => N9)
    simp only [List.push_toArray] at N9
    refine ret _ _ _ _ _ _ _ (by k_asm) ⟨_, congrArg (fun x => Value.str x _) ?hx⟩ (cb_drop N9 (by walk_at "m sub")) G9.ok G9.sub (by assumption) (by assumption) (by assumption) rfl rfl rfl rfl rfl rfl rfl
    case hx => rw [hout]; decide +kernel
  · obtain ⟨y, Y, rfl⟩ : ∃ y Y', Y = y :: Y' := by
      cases Y with
      | nil => exact absurd rfl hY
      | cons y Y => exact ⟨y, Y, rfl⟩
    have hYl2 : Y.length ≤ 9 := by simpa using hYl
    have hsz3 : (S (94 :: y :: Y)).length ≤ 1000 := by rw [S_len]; simp; omega
    k_steps
    all_goals (try (first | (walk_at "m bmget"; done) | (walk_at "m fsize"; done)))
    (rename News _ _ _ _ => N9)
    simp only [List.push_toArray] at N9
    refine ret _ _ _ _ _ _ _ (by k_asm) ⟨_, congrArg (fun x => Value.str x _) ?hx⟩ (cb_drop N9 (by walk_at "m sub")) G9.ok G9.sub (by assumption) (by assumption) (by assumption) rfl rfl rfl rfl rfl rfl rfl
    case hx => (simp only [l_lb, l_rb, l_nil0, S_app]; rw [hout]; simp [setOut])
  · k_steps
    all_goals (try (first | (walk_at "m bmget"; done) | (walk_at "m fsize"; done)))
    (rename News _ _ _ _ => N9)
    simp only [List.push_toArray] at N9
    refine ret _ _ _ _ _ _ _ (by k_asm) ⟨_, congrArg (fun x => Value.str x _) ?hx⟩ (cb_drop N9 (by walk_at "m sub")) G9.ok G9.sub (by assumption) (by assumption) (by assumption) rfl rfl rfl rfl rfl rfl rfl
    case hx => (simp only [l_lb, l_rb, l_nil0, S_app]; rw [hout]; simp [setOut, k33, k91])

end Mine
end
section
theorem Mine.begin_Gx : True := by
  w_top off
  k_with_none
  k_with "omega" => (first | with_reducible assumption | with_reducible exact Nat.le_trans (by assumption) (Nat.le_of_ble_eq_true rfl) | with_reducible exact Nat.le_refl _ | with_reducible exact Nat.ne_of_gt (by assumption) | with_reducible exact Nat.ne_of_lt (by assumption) | with_reducible exact Ne.symm (by assumption) | with_reducible exact Int.ofNat_lt.mpr (by assumption) | with_reducible exact Nat.lt_of_le_of_lt (Nat.le_add_right _ _) (by assumption))
  trivial
namespace Mine
section
variable {prog : Program} {w : World} {M : Model} {A : Around} {E : Value → Shared → Prop} {s : Shared} {h₀ : Heap} {L a c P : Addr} {m mg mb : Str → Option Value} {cn : Str} {cs : Scope} {ccd : Value} {cl : List (Str × Addr)} {own rest : Led}
  {p : Program} {loose : List Str} {mean : ExcName → Option Value} {qual : Str} {scope : Scope} {T : Array Value} {pos : Pos} {clos : List (Str × Addr)} {ks : List (Pos × Str)}
theorem main_mod (F : Fr h₀ L s.heap m) (Tp : Top p loose mean mg mb h₀) (hP : h₀.get? P = none) {h' : Heap} (hk : ∀ b o, b ≠ P → s.heap.get? b = some o → h'.get? b = some o) : ∃ bm ob, BMod h' mainGlobals mg bm ob := by
  obtain ⟨bm, ob, b1, b2, b3, b4, b5, b6⟩ := Tp.bmain
  have up : ∀ b o, h₀.get? b = some o → h'.get? b = some o := fun b o e => hk b o (fun q => by rw [q, hP] at e; cases e) (F.keep b o e)
  exact ⟨bm, ob, Tp.g.keeps up, b1, b2, up _ _ b3, b4, b5, b6⟩
theorem gcode (F : Fr h₀ L s.heap m) (N : News h₀ L s.heap (own ++ (P, tabObj T) :: rest)) (C : CodeHd h₀ c P) (hP1 : ∀ p ∈ own, p.1 ≠ P) (hP2 : ∀ p ∈ rest, p.1 ≠ P) {env : Env} (hcd : env.code = .ref c)
    (H : TabOk ks T rest) (hk : ∀ k ∈ ks, k = (pos, qual) ∨ (pos.line == k.1.line && pos.col == k.1.col) = false) (hkm : (pos, qual) ∈ ks) {Q : Value → Shared → Prop}
    (h : ∀ c' h' tk T' rest', Fr h₀ L h' m → Grown ks (own ++ [(P, tabObj T)]) rest T' rest' → News h₀ L h' (own ++ (P, tabObj T') :: rest') → (∀ b o, b ≠ P → s.heap.get? b = some o → h'.get? b = some o) → s.heap.objs.size ≤ h'.objs.size → (∀ p ∈ rest', p ∈ rest ∨ @LE.le Nat _ s.heap.objs.size p.1) → Q (.ref c') { s with heap := h', toks := tk }) :
    wpAny M A (genexprCode env pos qual scope) Q E s := by
  have hm := N (P, tabObj T) (List.mem_append.mpr (.inr (.head _)))
  have C1 := C.keeps F.keep
  rcases H.codes _ hkm with hn | ⟨c', oc, vs, t, h1, h2, h3, h4⟩
  · refine wpAny_genexprCodeX hcd (C1.code hm.1 H.tri) (C1.tab hm.1) hn fun c' h' tk hx hge hlt hcode hrec htb _ => ?_
    obtain ⟨c₂, oc, vs, t, e2, hoc, hd, hv⟩ := hrec
    cases e2
    have hLs : L < s.heap.objs.size := F.ns.lt
    have hLc : L < c' := Nat.lt_of_lt_of_le hLs hge
    have old : ∀ b o, h₀.get? b = some o → h'.get? b = some o := fun b o e => hx b o (fun q => by rw [q, hm.2.2] at e; cases e) (F.keep b o e)
    have fresh : ∀ b, L < b → h₀.get? b = none := fun b hb => Heap.get?_none_of_le (Nat.le_trans F.above (Nat.le_of_lt hb))
    have lt : ∀ q ∈ own ++ (P, tabObj T) :: rest, q.1 < c' := fun q hq => Nat.lt_of_lt_of_le (Heap.lt_size (N q hq).1) hge
    refine h c' h' tk _ ((c', oc) :: rest) ⟨F.ns.extBut hx hm.2.1.symm, old, F.above⟩ ⟨H.grow hk hn hd hv, fun p hp => .tail _ hp, fun p hp => ?_⟩ ?_ hx (Nat.le_trans hge (Nat.le_of_lt hlt)) (fun p hp => (List.mem_cons.mp hp).elim (fun e => .inr (by rw [e]; exact hge)) .inl)
    · rcases List.mem_cons.mp hp with rfl | hp
      · refine .inr fun q hq => lt q ?_
        rcases List.mem_append.mp hq with hq | hq
        · exact List.mem_append.mpr (.inl hq)
        · rcases List.mem_cons.mp hq with rfl | hq
          · exact List.mem_append.mpr (.inr (.head _))
          · cases hq
      · exact .inl hp
    · intro q hq
      rcases List.mem_append.mp hq with hq | hq
      · have n := N q (List.mem_append.mpr (.inl hq))
        exact ⟨hx _ _ (hP1 q hq) n.1, n.2⟩
      rcases List.mem_cons.mp hq with rfl | hq
      · exact ⟨htb.2, hm.2⟩
      rcases List.mem_cons.mp hq with rfl | hq
      · exact ⟨hoc, Nat.ne_of_gt hLc, fresh _ hLc⟩
      · have n := N q (List.mem_append.mpr (.inr (.tail _ hq)))
        exact ⟨hx _ _ (hP2 q hq) n.1, n.2⟩
  · refine wpAny_genexprCode_hit hcd (C1.code hm.1 H.tri) h1 ?_
    obtain ⟨hp, g, d, tk, os⟩ := s
    exact h c' hp tk T rest F ⟨H, fun p hp => hp, fun p hp => .inl hp⟩ N (fun _ _ _ e => e) (Nat.le_refl _) (fun p hp => .inl hp)
end
section
variable {prog : Program} {w : World} {A : Around} {E : Value → Shared → Prop} {s : Shared} {h₀ : Heap} {L a c P : Addr} {m mg mb : Str → Option Value} {cn : Str} {cs : Scope} {cl : List (Str × Addr)} {own rest : Led}
  {p : Program} {loose : List Str} {mean : ExcName → Option Value} {scope : Scope} {T : Array Value} {pos : Pos} {clos : List (Str × Addr)} {ks : List (Pos × Str)}
noncomputable def Gen1 (prog : Program) (w : World) (A : Around) (L a : Addr) (F : Nat → Value → Prop) (news : Led) (s : Shared) : Prop :=
  ∃ fp wr g St, WalksS prog w A.in4 a fp wr (GenOnlyQ g) 1 F St ∧ St 0 s ∧ (∀ i s', St i s' → s'.TypeIs (.ref a) "generator") ∧ a ∈ fp ∧ (∀ b ∈ fp, b < s.heap.objs.size) ∧ (∀ b ∈ wr, L < b) ∧ ∀ q ∈ news, q.1 ∉ wr
theorem join_gen1 {news : Led} {a : Addr} {y0 sep : Str} {t : Tok} {Q : Value → Shared → Prop} (F : Fr h₀ L s.heap m) (G : AllBare s.gens) (N : News h₀ L s.heap news) (X : Gen1 prog w A L a (fun _ y => ∃ u, y = .str y0 u) news s) (hok : JoinOk sep [y0] = true)
    (h : ∀ s' t', Fr h₀ L s'.heap m → News h₀ L s'.heap news → AllBare s'.gens → s'.os = s.os → Q (.str y0 t') s') : wpAny (model prog w) A (call (.builtin "str.join") [.str sep t, .ref a]) Q E s := by
  obtain ⟨fp, wr, g, St, W, hst, hT, ha, hfp, hwr, hnw⟩ := X
  have W := W.in4_2
  refine SC.joinGen W hT hst hfp ha (fun j v hv => let ⟨u, e⟩ := hv; ⟨_, u, e⟩) (fun s' lt hm hacc => ?_) (by rw [sizeLine_eq]; decide)
  have hl : lt.map (·.1) = [y0] := by
    have hsz : lt.length = 1 := by simpa [strValues] using hacc.1
    obtain ⟨z, rfl⟩ : ∃ z, lt = [z] := List.length_eq_one_iff.mp hsz
    obtain ⟨u, hv⟩ := hacc.2 0 (.str z.1 z.2) (by simp [strValues])
    injection hv with h1 _
    simp [h1]
  rw [hl]
  have f1 := F.moved hm hwr
  have g1 := G.movedS hm
  have o1 := hm.os
  have n1 : News h₀ L s'.heap news := fun q hq => ⟨hm.heap _ _ (hnw q hq) (N q hq).1, (N q hq).2⟩
  exact ⟨hok, fun t' k => h { s' with toks := k } t' f1 n1 g1 o1⟩
theorem gen_one {elt iter : PySem.Expr} {x : Str} {px : Pos} {Q : Value → Shared → Prop} {l : Addr} {v0 : Value} {y0 : Str} {n : Nat} {env : Env}
    (F : Fr h₀ L s.heap m) (N : News h₀ L s.heap (own ++ (P, tabObj T) :: rest)) (Tp : Top p loose mean mg mb h₀) (C : CodeHd h₀ c P) (hP1 : ∀ p ∈ own, p.1 ≠ P) (hP2 : ∀ p ∈ rest, p.1 ≠ P) (hcd : env.code = .ref c) (hgl : env.globals = mainGlobals)
    (H : TabOk ks T rest) (hk : ∀ k ∈ ks, k = (pos, env.qual ++ "<genexpr>") ∨ (pos.line == k.1.line && pos.col == k.1.col) = false) (hkm : (pos, env.qual ++ "<genexpr>") ∈ ks) (G : AllBare s.gens)
    (hh : A.handled = none) (hco : scope.isCoroutine = false) (hclos : closureFor scope env = pure clos) (hcell : ∀ y ∈ scope.names, y.2 ≠ .cell) (h0 : scope.names.lookup (".0" : Str) = some NameKind.local)
    (hx : scope.names.lookup x = some .local) (hkind : scope.kind = .function) (hroom : A.depth < recursionLimit)
    (hl : (l, listOf #[v0] n) ∈ own) (hi : ∀ {Q' E' : Value → Shared → Prop}, Q' (.ref l) s → wpAny (model prog w) A (eval iter env) Q' E' s)
    (helt : ∀ (c' C' : Addr) (A' : Around) (E' : Value → Shared → Prop) (t : Shared) m₂, A'.handled = none → A'.depth ≤ A.depth + 1 → A'.units ≤ A.units + 8 → Fr h₀ C' t.heap m₂ → m₂ x = some v0 →
      wpAny (model prog w) A' (eval elt (genEnv scope clos C' (.ref c') builtinsNs env)) (fun y s₃ => (∃ u, y = .str y0 u) ∧ Keeps t s₃) E' t)
    (h : ∀ a s₅ T' rest', Fr h₀ L s₅.heap m → Grown ks (own ++ [(P, tabObj T)]) rest T' rest' → News h₀ L s₅.heap (own ++ (P, tabObj T') :: rest') → AllBare s₅.gens → s₅.os = s.os →
      Gen1 prog w A L a (fun _ y => ∃ u, y = .str y0 u) (own ++ (P, tabObj T') :: rest') s₅ → Q (.ref a) s₅)
    (hs : ∀ x, genFold iter env x = pure x) :
    wpAny (model prog w) A (eval (.GeneratorExp elt [⟨.Name x px, iter, [], 0⟩] scope pos) env) Q E s := by
  have hm := N (P, tabObj T) (List.mem_append.mpr (.inr (.head _)))
  have hl1 := N _ (List.mem_append.mpr (.inl hl))
  have hli : s.heap.IsList l #[v0] := ⟨_, hl1.1, rfl, _, rfl⟩
  have hlt : l < s.heap.objs.size := Heap.lt_size hl1.1
  refine wpAny_GeneratorExp_walksQD hh hco hclos hcell h0 hx hkind hroom (hi (wpAny_pyIter_list hli ⟨?lim, ?_⟩)) hs
  case lim => exact (Tp.nolimit.keeps F.keep).push _
  have F2 : Fr h₀ L (s.heap.push { cls := .type "list_iterator", data := .fields #[.ref l, .int 0 0] }) m := F.keeps fun _ _ e => Heap.get?_push_of_some _ e
  have N2 : News h₀ L (s.heap.push { cls := .type "list_iterator", data := .fields #[.ref l, .int 0 0] }) (own ++ (P, tabObj T) :: rest) := N.grown fun _ _ e => Heap.get?_push_of_some _ e
  refine gcode (s := { s with heap := s.heap.push { cls := .type "list_iterator", data := .fields #[.ref l, .int 0 0] } }) F2 N2 C hP1 hP2 hcd H hk hkm fun c' h₃ tk₃ T' rest' F₃ G₃ N₃ hk₃ hsz₃ hnw₃ => ?_
  obtain ⟨bm, ob, M₃⟩ := main_mod (s := { s with heap := s.heap.push { cls := .type "list_iterator", data := .fields #[.ref l, .int 0 0] } }) F2 Tp hm.2.2 hk₃
  rw [hgl]
  refine wpAny_builtinsFor M₃.ns M₃.name M₃.ne M₃.obj M₃.cls M₃.dict M₃.data ?_
  have hLs : L < s.heap.objs.size := F.ns.lt
  have hIn : ∀ q ∈ own ++ (P, tabObj T') :: rest', q.1 ≠ s.heap.objs.size := fun q hq e => by
    have hn := (N₃ q hq).1
    have hI := hk₃ s.heap.objs.size _ (fun e2 => Nat.lt_irrefl _ (e2 ▸ Heap.lt_size hm.1)) (Heap.get?_push_size _ rfl)
    rcases List.mem_append.mp hq with hq | hq
    · exact Nat.ne_of_lt (Heap.lt_size (N q (List.mem_append.mpr (.inl hq))).1) e
    rcases List.mem_cons.mp hq with rfl | hq
    · exact Nat.ne_of_lt (Heap.lt_size hm.1) e
    rcases hnw₃ q hq with h1 | h1
    · exact Nat.ne_of_lt (Heap.lt_size (N q (List.mem_append.mpr (.inr (.tail _ h1)))).1) e
    · have h2 : s.heap.objs.size + 1 ≤ q.1 := by
        have := h1
        rw [Heap.size_push] at this
        exact this
      rw [e] at h2
      exact Nat.not_succ_le_self _ h2
  have hsz : s.heap.objs.size < h₃.objs.size := by
    have := hsz₃
    rw [Heap.size_push] at this
    exact this
  refine ⟨s.heap.objs.size, [s.heap.objs.size, l], [s.heap.objs.size], 1, fun i v => #[v0][i]? = some v, _, fun _ => true, fun _ y => ∃ u, y = .str y0 u, rfl, fun A' hA => Walks.list hA _ _ (Nat.ne_of_lt hlt) #[v0], ?_, ?_, (Tp.nolimit.keeps F₃.keep), ?_, ?_, ?_⟩
  · exact ⟨⟨_, hk₃ _ _ (fun e2 => Nat.lt_irrefl _ (e2 ▸ Heap.lt_size hm.1)) (Heap.get?_push_size _ rfl), rfl, rfl⟩, ⟨_, (N₃ _ (List.mem_append.mpr (.inl hl))).1, rfl, _, rfl⟩⟩
  · intro b hb
    rcases List.mem_cons.mp hb with rfl | hb
    · exact hsz
    rcases List.mem_cons.mp hb with rfl | hb
    · exact Nat.lt_trans hlt hsz
    · cases hb
  · intro hm2
    have hc : cStatics < h₀.objs.size := let ⟨_, hn, _⟩ := Tp.nolimit; hn.lt
    rcases List.mem_cons.mp hm2 with e | hb
    · have : cStatics < s.heap.objs.size := Nat.lt_of_lt_of_le hc (Nat.le_trans F.above (Nat.le_of_lt hLs))
      rw [e] at this
      exact Nat.lt_irrefl _ this
    · cases hb
  · intro href hk4
    refine ⟨fun A' E' i v s₂ m₂ _ _ _ _ _ _ _ => wpAny_pure ⟨rfl, ⟨_, _, rfl, fun _ _ e => e⟩⟩, fun A' E' i v s₂ m₂ hA' hD hU hP _ hn hm₂ hkp => ?_⟩
    have hv : v = v0 := by
      rcases i with _ | i
      · simpa using hP.symm
      · simp at hP
    subst hv
    refine wpAny_mono (helt c' _ A' E' s₂ m₂ hA' hD hU ⟨hn, fun b o e => ?_, ?_⟩ hm₂) (fun _ _ e => e) fun _ _ e => e
    · have hb : b < h₃.objs.size := Heap.lt_size (F₃.keep b o e)
      refine hkp b (List.mem_range.mpr hb) (fun hm3 => ?_) o (hk4 b o (F₃.keep b o e))
      rcases List.mem_cons.mp hm3 with rfl | hb
      · exact Nat.lt_irrefl _ (Nat.lt_of_lt_of_le (Heap.lt_size e) (Nat.le_trans F.above (Nat.le_of_lt hLs)))
      · cases hb
    · exact Nat.le_trans F.above (Nat.le_trans (Nat.le_of_lt hLs) (Nat.le_of_lt hsz))
  · intro a h₅ tk gs hgb hag hsz₅ hk₅ W hat
    refine h a _ T' rest' (F₃.keeps hk₅) G₃ (N₃.grown hk₅) (G.push hgb) rfl ⟨_, _, _, _, W.imp fun i v hv => ?_, hat, (fun i s' st => st.1.typeIs), List.mem_cons_self, ?_, ?_, ?_⟩
    · obtain ⟨_, _, hv⟩ := hv
      exact hv
    · intro b hb
      show b < h₅.objs.size
      rw [hsz₅]
      rcases List.mem_cons.mp hb with rfl | hb
      · exact Nat.lt_succ_self _
      · rcases List.mem_cons.mp hb with rfl | hb
        · exact Nat.lt_succ_of_lt hag
        · exact Nat.lt_succ_of_lt (Nat.lt_trans (List.mem_range.mp hb) hag)
    · intro b hb
      rcases List.mem_cons.mp hb with rfl | hb
      · exact Nat.lt_trans hLs hsz
      rcases List.mem_cons.mp hb with rfl | hb
      · exact hLs
      · cases hb
    · intro q hq hb
      rcases List.mem_cons.mp hb with e | hb
      · exact Nat.ne_of_lt (Heap.lt_size (N₃ q hq).1) e
      rcases List.mem_cons.mp hb with e | hb
      · exact hIn q hq e
      · cases hb
end

end Mine
end
section
theorem Mine.begin_Fd : True := by
  w_top off
  k_with_none
  k_with "omega" => (first | with_reducible assumption | with_reducible exact Nat.le_trans (by assumption) (Nat.le_of_ble_eq_true rfl) | with_reducible exact Nat.le_refl _ | with_reducible exact Nat.ne_of_gt (by assumption) | with_reducible exact Nat.ne_of_lt (by assumption) | with_reducible exact Ne.symm (by assumption) | with_reducible exact Int.ofNat_lt.mpr (by assumption) | with_reducible exact Nat.lt_of_le_of_lt (Nat.le_add_right _ _) (by assumption))
  trivial
namespace Mine
open Builtin Builtin.Str in
theorem occ_gap (x y : Str) (lo hi : Nat) (h : hi < lo + y.length) : occurrences x y lo hi 1 = [] := by
  rw [StrLaws.occ_eq]
  rcases StrLaws.occ_first x y hi 1 (Nat.le_refl _) (List.range' lo (hi + 1 - lo)) lo (fun i hi => (List.mem_range'_1.mp hi).1) with ⟨h0, _⟩ | ⟨pre, a, post, e, _, ha, _⟩
  · rw [h0]
  · have hm : a ∈ List.range' lo (hi + 1 - lo) := by rw [e]; simp
    have h1 := (List.mem_range'_1.mp hm).1
    have h2 := ha.1
    omega
open Builtin Builtin.Str in
theorem occ_at (l : List Nat) (c lo hi : Nat) (h : lo + 1 ≤ hi) (hc : l[lo]? = some c) : ∃ r, occurrences (S l) (S [c]) lo hi 1 = lo :: r := by
  rw [StrLaws.occ_eq]
  have hat : StrLaws.At (S l) (S [c]) hi lo := by
    refine ⟨h, ?_⟩
    unfold subAt
    have hlt : lo < l.length := by
      rcases Nat.lt_or_ge lo l.length with q | q
      · exact q
      · rw [List.getElem?_eq_none q] at hc; cases hc
    have e : l[lo] = c := by rw [List.getElem?_eq_getElem hlt] at hc; exact Option.some.inj hc
    simp only [S, Str.length]
    simp [List.extract_eq_take_drop, List.drop_eq_getElem_cons hlt, e]
  have hr : List.range' lo (hi + 1 - lo) = lo :: List.range' (lo + 1) (hi - lo) := by
    rw [show hi + 1 - lo = (hi - lo) + 1 by omega]; rfl
  rcases StrLaws.occ_first (S l) (S [c]) hi 1 (Nat.le_refl _) (List.range' lo (hi + 1 - lo)) lo (fun i hi => (List.mem_range'_1.mp hi).1) with ⟨_, h1⟩ | ⟨pre, a, post, e, h0, ha, hn⟩
  · exact absurd hat (h1 lo (by rw [hr]; exact .head _))
  · have hp : pre = [] ∧ a = lo := by
      rw [hr] at e
      rcases pre with _ | ⟨b, pre⟩
      · simp at e
        exact ⟨rfl, e.1.symm⟩
      · simp at e
        exact absurd hat (hn lo (by rw [e.1]; exact .head _))
    rw [hp.2] at h0
    generalize (forIn (List.range' lo (hi + 1 - lo)) (#[], lo) (StrLaws.occBody (S l) (S [c]) hi 1)).run.fst = z at h0
    obtain ⟨z⟩ := z
    rcases z with _ | ⟨b, z⟩
    · simp at h0
    · simp at h0
      exact ⟨z, by rw [h0]⟩
section
variable {prog : Program} {w : World} {A : Around} {E : Value → Shared → Prop} {s : Shared}
open Builtin Builtin.Str in
theorem gives_find4 (x y : Str) (i j : Nat) (t u v v' : Tok) : PySem.Gives («str.find» ⟨[.str x t, .str y u, .int (i : Int) v, .int (j : Int) v'], []⟩) (.int (match occurrences x y i (min j x.length) 1 with | k :: _ => (k : Int) | [] => -1)) := by
  show PySem.Gives (match occurrences x y _ _ 1 with | k :: _ => retInt k | [] => (do rule "str.find.not-found"; retInt (-1))) _
  have e1 : ∀ k : Nat, (max 0 (if ((k : Nat) : Int) < 0 then (k : Int) + (x.length : Int) else (k : Int))).toNat = k := fun k => by rw [if_neg (by omega)]; omega
  rw [e1, e1]
  generalize occurrences x y i (min j x.length) 1 = z
  cases z with
  | nil => exact .rule (.of_eq rfl)
  | cons k _ => exact .of_eq rfl
/-- find of one sign between two places: not there, or at the first -/
theorem find_no {x y : Str} {i j : Int} {k m c : Nat} {t u v v' : Tok} {Q : Value → Shared → Prop} (hi : i = (k : Int)) (hj : j = (m : Int)) (hy : y = S [c]) (hkm : m ≤ k) (h : Q (.int (-1) s.toks) { s with toks := s.toks + 1 }) : wpAny (model prog w) A (call (.builtin "str.find") [.str x t, .str y u, .int i v, .int j v']) Q E s := by
  subst hi
  subst hj
  subst hy
  refine call_gives F.slot_str_find (typeIs_str _ _ _) F.entry_str_find (F.args_str_find_4 _ _ _ _) (gives_find4 x (S [c]) k m t u v v') ?_
  rw [occ_gap _ _ _ _ (by rw [S_len]; show _ < k + 1; omega)]
  exact h
theorem find_yes {x y : Str} {l : List Nat} {c : Nat} {i j : Int} {k m : Nat} {t u v v' : Tok} {Q : Value → Shared → Prop} (hx : x = S l) (hy : y = S [c]) (hi : i = (k : Int)) (hj : j = (m : Int)) (hkm : k + 1 ≤ m) (hm : m ≤ l.length) (hc : l[k]? = some c) (h : Q (.int (k : Int) s.toks) { s with toks := s.toks + 1 }) : wpAny (model prog w) A (call (.builtin "str.find") [.str x t, .str y u, .int i v, .int j v']) Q E s := by
  subst hx
  subst hy
  subst hi
  subst hj
  refine call_gives F.slot_str_find (typeIs_str _ _ _) F.entry_str_find (F.args_str_find_4 _ _ _ _) (gives_find4 (S l) (S [c]) k m t u v v') ?_
  rw [S_len, Nat.min_eq_left hm]
  obtain ⟨r, hr⟩ := occ_at l c k m hkm hc
  rw [hr]
  exact h
end
theorem q2 (a : Nat) : (a : Int) + 2 = ((a + 2 : Nat) : Int) := rfl
theorem q3 (a : Nat) : (a : Int) + 3 = ((a + 3 : Nat) : Int) := rfl
theorem q13 (a : Nat) : (a : Int) + 1 + 3 = ((a + 4 : Nat) : Int) := rfl
theorem q13' (a : Nat) : ((a + 1 : Nat) : Int) + 3 = ((a + 4 : Nat) : Int) := rfl

end Mine
end
section
theorem Mine.begin_Td : True := by
  w_top off
  k_with_none
  k_with "omega" => (first | with_reducible assumption | with_reducible exact Nat.le_trans (by assumption) (Nat.le_of_ble_eq_true rfl) | with_reducible exact Nat.le_refl _ | with_reducible exact Nat.ne_of_gt (by assumption) | with_reducible exact Nat.ne_of_lt (by assumption) | with_reducible exact Ne.symm (by assumption) | with_reducible exact Int.ofNat_lt.mpr (by assumption) | with_reducible exact Nat.lt_of_le_of_lt (Nat.le_add_right _ _) (by assumption))
  trivial
namespace Mine
theorem rules_Td_1 : True := by
  k_with "newList" => ((k_here; (first | (refine newList_K (F := by k_dflt (k_asm)) (N := by k_dflt (k_asm)) ?_ (hsz := by k_dflt (exact Nat.le_of_ble_eq_true rfl))) | (k_dflt (refine newList_K (F := by k_asm) (N := by k_asm) ?_ (hsz := by exact Nat.le_of_ble_eq_true rfl)))); intro _ _ _ _ l1qq; (try k_lt l1qq); (try k_sweep)))
  trivial
theorem rules_Td_2 : True := by
  k_with "m sub" => ((intro p hp; repeat (first | exact hp | refine List.mem_cons_of_mem _ ?_)))
  k_with "m news" => ((refine cb_drop (N := by k_asm) ?_; walk_at "m sub"))
  k_with "m lt" => (first | assumption | exact ktn_ltOf (by assumption) | (refine ktn_ltOf ?_; simp only [AllLt, and_true] at *; simp only [*]))
  k_with "compareOp In ref ref" => ((k_here; (first | (refine in_parts (hp := by k_dflt (assumption)) (hi := by k_dflt (assumption)) (N := by k_dflt (walk_at "m news")) (N' := by k_dflt (k_asm)) (hE := by k_dflt (k_mem)) (hlt := by k_dflt (walk_at "m lt")) (hu := by k_dflt (ktr_units)) (hb := by k_dflt (first | exact (show _ = true from (congrArg Option.isSome (by assumption)).trans rfl) | exact (show _ = false from (congrArg Option.isSome (by assumption)).trans rfl))) ?_; k_whole) | (k_dflt (refine in_parts (hp := by assumption) (hi := by assumption) (N := by walk_at "m news") (N' := by k_asm) (hE := by k_mem) (hlt := by walk_at "m lt") (hu := by ktr_units) (hb := by first | exact (show _ = true from (congrArg Option.isSome (by assumption)).trans rfl) | exact (show _ = false from (congrArg Option.isSome (by assumption)).trans rfl)) ?_; k_whole)))))
  k_with "call builtin:list.index" => ((k_here; (first | (refine index_parts (hp := by k_dflt (assumption)) (hi := by k_dflt (assumption)) (N := by k_dflt (walk_at "m news")) (N' := by k_dflt (k_asm)) (hE := by k_dflt (k_mem)) (hlt := by k_dflt (walk_at "m lt")) (hu := by k_dflt (ktr_units)) (hj := by k_dflt (assumption)) (hs := by k_dflt (omega)) ?_; k_whole) | (k_dflt (refine index_parts (hp := by assumption) (hi := by assumption) (N := by walk_at "m news") (N' := by k_asm) (hE := by k_mem) (hlt := by walk_at "m lt") (hu := by ktr_units) (hj := by assumption) (hs := by omega) ?_; k_whole)))))
  k_with "getMethod ref" => ((k_here; (with_reducible show wpAny _ _ (getMethod (Value.ref _) (PySem.Str.ofString "index") _) _ _ _); (first | (refine index_method (hm := by k_dflt (assumption)) (N := by k_dflt (walk_at "m news")) ?_) | (k_dflt (refine index_method (hm := by assumption) (N := by walk_at "m news") ?_)))))
  k_with "m list" => ((refine News.isList (N := by k_asm) (hm := by repeat (first | assumption | exact List.Mem.head _ | refine List.mem_cons_of_mem _ ?_))))
  k_with "m small" => (first | exact Nat.le_of_ble_eq_true rfl | (simp only [List.size_toArray, sizeLine_eq, Array.length_toList]; omega) | (simp only [List.size_toArray, List.length_append, List.length_take, List.length_drop, All2.length (by assumption : All2 _ _ _), sizeLine_eq, Array.length_toList]; omega))
  k_with "subscriptTail Name Slice ref ref" => ((k_here; (with_reducible show wpAny _ _ (subscriptTail _ (PySem.Expr.Slice _ _ none _) (Value.ref _) (Value.ref _)) _ _ _); (first | (refine kms_slice_lit (F := by k_dflt (k_asm)) (N := by k_dflt (k_asm)) (hl := by k_dflt (walk_at "m list")) (pl := by k_dflt (kmk_part)) (pu := by k_dflt (kmk_part)) (e := by k_dflt (first | exact pick_to _ _ | exact pick_from1 _ _ | exact pick_from _ _)) ?_ (hs := by k_dflt (with_unfolding_all rfl)) (ht := by k_dflt (kmk_pure)) (hz := by k_dflt (walk_at "m small")); k_whole) | (k_dflt (refine kms_slice_lit (F := by k_asm) (N := by k_asm) (hl := by walk_at "m list") (pl := by kmk_part) (pu := by kmk_part) (e := by first | exact pick_to _ _ | exact pick_from1 _ _ | exact pick_from _ _) ?_ (hs := by with_unfolding_all rfl) (ht := by kmk_pure) (hz := by walk_at "m small"); k_whole))); intro _ _ _ _ l1qq; (try k_lt l1qq); (try k_sweep)))
  k_with "binaryOp Add ref ref" => ((k_here; (with_reducible show wpAny _ _ (binaryOp _ (Value.ref _) (Value.ref _)) _ _ _); (first | (refine kmk_add_lit (F := by k_dflt (k_asm)) (N := by k_dflt (k_asm)) (ha := by k_dflt (walk_at "m list")) (hb := by k_dflt (walk_at "m list")) (e := by k_dflt (exact add_e _ _)) ?_ (hz := by k_dflt (walk_at "m small"))) | (k_dflt (refine kmk_add_lit (F := by k_asm) (N := by k_asm) (ha := by walk_at "m list") (hb := by walk_at "m list") (e := by exact add_e _ _) ?_ (hz := by walk_at "m small")))); intro _ _ _ _ l1qq; (try k_lt l1qq); (try k_sweep)))
  k_with "call builtin:len" => ((k_here; (with_reducible show wpAny _ _ (call (Value.builtin "len") [Value.ref _]) _ _ _); (first | (refine len_lst (hl := by k_dflt (walk_at "m list")) (e := by k_dflt (assumption)) (hn := by k_dflt (omega)) ?_) | (k_dflt (refine len_lst (hl := by walk_at "m list") (e := by assumption) (hn := by omega) ?_))); intro _ _))
  k_with "CompSrcT" => ((refine Hold.of ?_))
  k_with "m place" => (first | exact Int.zero_add _ | exact (rfl : (0 : Int) = ((0 : Nat) : Int)) | exact (rfl : (1 : Int) = ((1 : Nat) : Int)))
  k_with "subscriptTail Name Name str int" => ((k_here; (first | (refine item_S (hk := by k_dflt (walk_at "m place")) (hc := by k_dflt (assumption)) (hl := by k_dflt (first | assumption | omega)) ?_ (hs := by k_dflt (with_unfolding_all rfl)) (hg := by k_dflt (kmk_pure))) | (k_dflt (refine item_S (hk := by walk_at "m place") (hc := by assumption) (hl := by first | assumption | omega) ?_ (hs := by with_unfolding_all rfl) (hg := by kmk_pure)))); intro _ _))
  k_with "m item" => ((k_here; (with_reducible show wpAny _ _ (subscriptTail _ _ (Value.ref _) (Value.int _ _)) _ _ _); (first | (refine item_L (hl := by k_dflt (walk_at "m list")) (hk := by k_dflt (walk_at "m place")) (hx := by k_dflt (first | assumption | exact rfl)) (hz := by k_dflt (first | exact Nat.le_of_ble_eq_true rfl | omega)) ?_ (hs := by k_dflt (with_unfolding_all rfl)) (hg := by k_dflt (kmk_pure))) | (k_dflt (refine item_L (hl := by walk_at "m list") (hk := by walk_at "m place") (hx := by first | assumption | exact rfl) (hz := by first | exact Nat.le_of_ble_eq_true rfl | omega) ?_ (hs := by with_unfolding_all rfl) (hg := by kmk_pure))))))
  k_with "subscriptTail Name Name ref int" => (walk_at "m item")
  k_with "subscriptTail Subscript Constant ref int" => (walk_at "m item")
  k_with "compareOp In str str" => ((k_here; (first | (refine in_S ?_) | (k_dflt (refine in_S ?_)))))
  k_with "m mem" => (repeat (first | assumption | exact List.Mem.head _ | refine List.mem_cons_of_mem _ ?_))
  k_with "compareOp Eq ref ref" => ((k_here; (first | (refine eq_nil (N := by k_dflt (k_asm)) (hD := by k_dflt (walk_at "m mem")) (hE := by k_dflt (walk_at "m mem")) (hu := by k_dflt (ktr_units)) ?_) | (k_dflt (refine eq_nil (N := by k_asm) (hD := by walk_at "m mem") (hE := by walk_at "m mem") (hu := by ktr_units) ?_)))))
  k_with "compareOp Eq bool bool" => ((k_here; (first | (refine PyProof.Rows.eq_bool ?_) | (k_dflt (refine PyProof.Rows.eq_bool ?_)))))
  k_with "subscriptTail Name Constant ref int" => (walk_at "m item")
  k_with "call ref" => ((refine Hold.of ?_))
  k_with "getAttr ref true" => ((k_here; (with_reducible show wpAny _ _ (getAttr (Value.ref _) (PySem.Str.ofString "append") _) _ _ _); (first | (refine getAttr_bm (F := by k_dflt (k_asm)) (N := by k_dflt (k_asm)) (hD := by k_dflt (walk_at "m mem")) ?_) | (k_dflt (refine getAttr_bm (F := by k_asm) (N := by k_asm) (hD := by walk_at "m mem") ?_))); intro q' _ _ _ l1qq; (try k_lt l1qq); (try k_sweep)))
  k_with "callWith ref" => ((k_here; (first | (refine callWith_bm (by k_dflt (k_asm)) (by k_dflt (walk_at "m mem")) ?_) | (k_dflt (refine callWith_bm (by k_asm) (by walk_at "m mem") ?_)))))
  k_with "And" => ((k_dflt ((show Heap.get? _ _ = some (bmObj _ _) ∧ _); (refine And.intro (left := by (refine News.get (N := by k_asm) (hm := by walk_at "m mem"))) ?_)); (try dsimp only [List.nil_append, List.cons_append])))
  k_with "call ref" => ((k_here; (first | (refine call_bm (F := by k_dflt (k_asm)) (N := by k_dflt (k_asm)) (hq := by k_dflt (walk_at "m mem")) (U := by k_dflt (k_upd)) ?_ (hsz := by k_dflt (walk_at "m small"))) | (k_dflt (refine call_bm (F := by k_asm) (N := by k_asm) (hq := by walk_at "m mem") (U := by k_upd) ?_ (hsz := by walk_at "m small")))); intro _ _ _; (try k_sweep)))
  k_with "exec While" => ((refine Hold.of ?_))
  k_with "exec While Compare cons nil" => ((refine Hold.of ?_))
  k_with "m place" => (first | with_reducible exact (rfl : ((_ : Nat) : Int) = _) | with_reducible exact pl1 _ | with_reducible exact pl2 _ | with_reducible exact pl3 _ | with_reducible exact pl4 _ | exact (rfl : ((_ : Nat) : Int) = _) | exact pl1 _ | exact pl2 _ | exact pl3 _ | exact pl4 _)
  k_with "WhlIf" => ((first | (refine WhlIf.yes (h := by ((try simp only [decide_eq_true_eq, Bool.not_eq_true', decide_eq_false_iff_not, Bool.and_eq_true]); first | omega | assumption | rfl)) ?_) | (refine WhlIf.no (h := by ((try simp only [decide_eq_false_iff_not, Bool.not_eq_false']); first | omega | assumption | rfl)) ?_)))
  k_with "m perm" => ((refine cb_drop (N := by k_asm) ?_; repeat' (first | (refine List.forall_mem_cons.mpr (And.intro ?_ ?_)) | (walk_at "m mem"; done) | (walk_at "m sub"; done))))
  k_with "m lit" => (with_reducible first | exact l_star | exact l_qm | exact l_lb | exact l_rb | exact l_ex | exact l_dash | exact l_dot | exact l_hat | exact l_bs | exact l_bs2 | exact l_bsd | exact l_nil | exact l_dotstar | exact l_open | exact l_close | exact rfl)
  k_with "m same" => (first | rfl | ((try simp only [sg, decide_eq_true_eq, decide_eq_false_iff_not, Bool.not_eq_true', Bool.not_eq_false', Bool.not_true, Bool.not_false]); first | omega | assumption | (simp; done) | (simp; omega) | (simp [*]; done)))
  k_with "m sameF" => (first | (with_reducible exact hdF (by assumption)) | (with_reducible exact hdF (Ne.symm (by assumption))) | exact rfl)
  k_with "m nsameF" => (first | (with_reducible exact hdNT (by assumption)) | (with_reducible exact hdNT (Ne.symm (by assumption))) | exact rfl)
  k_with "compareOp Eq str str" => ((k_here; (first | (first | (refine eq_Sv false (hx := by k_dflt (walk_at "m lit")) (hy := by k_dflt (walk_at "m lit")) (hv := by k_dflt (walk_at "m sameF")) ?_) | (refine eq_Sv true (hx := by k_dflt (walk_at "m lit")) (hy := by k_dflt (walk_at "m lit")) (hv := by k_dflt (exact rfl)) ?_) | (refine eq_Sv true (hx := by k_dflt (walk_at "m lit")) (hy := by k_dflt (walk_at "m lit")) (hv := by k_dflt (walk_at "m same")) ?_) | (refine eq_Sv false (hx := by k_dflt (walk_at "m lit")) (hy := by k_dflt (walk_at "m lit")) (hv := by k_dflt (walk_at "m same")) ?_) | (refine eq_S (hx := by k_dflt (walk_at "m lit")) (hy := by k_dflt (walk_at "m lit")) ?_)) | (k_dflt (first | (refine eq_Sv false (hx := by walk_at "m lit") (hy := by walk_at "m lit") (hv := by walk_at "m sameF") ?_) | (refine eq_Sv true (hx := by walk_at "m lit") (hy := by walk_at "m lit") (hv := by exact rfl) ?_) | (refine eq_Sv true (hx := by walk_at "m lit") (hy := by walk_at "m lit") (hv := by walk_at "m same") ?_) | (refine eq_Sv false (hx := by walk_at "m lit") (hy := by walk_at "m lit") (hv := by walk_at "m same") ?_) | (refine eq_S (hx := by walk_at "m lit") (hy := by walk_at "m lit") ?_))))))
  k_with "compareOp NotEq str str" => ((k_here; (first | (first | (refine ne_Sv true (hx := by k_dflt (walk_at "m lit")) (hy := by k_dflt (walk_at "m lit")) (hv := by k_dflt (walk_at "m nsameF")) ?_) | (refine ne_Sv false (hx := by k_dflt (walk_at "m lit")) (hy := by k_dflt (walk_at "m lit")) (hv := by k_dflt (exact rfl)) ?_) | (refine ne_Sv true (hx := by k_dflt (walk_at "m lit")) (hy := by k_dflt (walk_at "m lit")) (hv := by k_dflt (walk_at "m same")) ?_) | (refine ne_Sv false (hx := by k_dflt (walk_at "m lit")) (hy := by k_dflt (walk_at "m lit")) (hv := by k_dflt (walk_at "m same")) ?_) | (refine ne_S (hx := by k_dflt (walk_at "m lit")) (hy := by k_dflt (walk_at "m lit")) ?_)) | (k_dflt (first | (refine ne_Sv true (hx := by walk_at "m lit") (hy := by walk_at "m lit") (hv := by walk_at "m nsameF") ?_) | (refine ne_Sv false (hx := by walk_at "m lit") (hy := by walk_at "m lit") (hv := by exact rfl) ?_) | (refine ne_Sv true (hx := by walk_at "m lit") (hy := by walk_at "m lit") (hv := by walk_at "m same") ?_) | (refine ne_Sv false (hx := by walk_at "m lit") (hy := by walk_at "m lit") (hv := by walk_at "m same") ?_) | (refine ne_S (hx := by walk_at "m lit") (hy := by walk_at "m lit") ?_))))))
  k_with "WhlRest" => (((with_reducible show WhlRest _ _ _ _ _ _ _ _ _ 0 _); refine Hold.of ?_))
  k_with "m gives" => (skip)
  k_with "call ref" => ((k_here; (first | (refine gives_use (escape_gives _ _ _ _ _ _) (B := by k_dflt (k_asm)) (F := by k_dflt (k_asm)) (X := by k_dflt (k_asm)) (N := by k_dflt (k_asm)) (T := by k_dflt (k_asm)) (hk := by k_dflt (exact rfl)) trivial (hd := by k_dflt (ktr_room)) (hu := by k_dflt (ktr_units)) ?_) | (k_dflt (refine gives_use (escape_gives _ _ _ _ _ _) (B := by k_asm) (F := by k_asm) (X := by k_asm) (N := by k_asm) (T := by k_asm) (hk := by exact rfl) trivial (hd := by ktr_room) (hu := by ktr_units) ?_))); intro r' n' _ _ _ _ P'; obtain ⟨e1', tqq, e2'⟩ := P'; subst e1'; subst e2'; (try dsimp only); (try k_sweep); (try k_fold)))
  k_with "m bmget" => (((with_reducible show Heap.get? _ _ = some (bmObj _ _)); refine News.get (N := by k_asm) (hm := by walk_at "m mem")))
  k_with "truthy ref" => ((k_here; (first | (first | (refine truthy_L (b := true) (hl := by k_dflt (walk_at "m list")) (hz := by k_dflt (walk_at "m short")) (hb := by k_dflt (first | rfl | (simp; done))) ?_) | (refine truthy_L (b := false) (hl := by k_dflt (walk_at "m list")) (hz := by k_dflt (walk_at "m short")) (hb := by k_dflt (first | rfl | (simp; done))) ?_)) | (k_dflt (first | (refine truthy_L (b := true) (hl := by walk_at "m list") (hz := by walk_at "m short") (hb := by first | rfl | (simp; done)) ?_) | (refine truthy_L (b := false) (hl := by walk_at "m list") (hz := by walk_at "m short") (hb := by first | rfl | (simp; done)) ?_)))); intro _))
  k_with "m short" => (first | omega | (simp; done) | (simp at *; omega))
  k_with "subscriptTail Name UnaryOp ref int" => ((k_here; (first | (refine item_last (hl := by k_dflt (walk_at "m list")) (hz := by k_dflt (walk_at "m short")) ?_ (hs := by k_dflt (with_unfolding_all rfl)) (hg := by k_dflt (kmk_pure))) | (k_dflt (refine item_last (hl := by walk_at "m list") (hz := by walk_at "m short") ?_ (hs := by with_unfolding_all rfl) (hg := by kmk_pure))))))
  k_with "compareOp IsNot str ref" => ((k_here; (first | (refine isnot_str_ref ?_) | (k_dflt (refine isnot_str_ref ?_)))))
  k_with "exec While BoolOp cons nil" => ((refine whl_start 4 ?_))
  k_with "execs cons" => ((k_here; refine keep_toks (hX := by with_reducible exact Nat.succ_ne_zero _) ?_; intro tk htk))
  k_with "compareOp NotIn str str" => ((k_here; (first | (first | (refine notin_Sv true (hx := by k_dflt (walk_at "m lit")) (hz := by k_dflt (walk_at "m lit")) (hv := by k_dflt (walk_at "m same")) ?_) | (refine notin_Sv false (hx := by k_dflt (walk_at "m lit")) (hz := by k_dflt (walk_at "m lit")) (hv := by k_dflt (walk_at "m same")) ?_)) | (k_dflt (first | (refine notin_Sv true (hx := by walk_at "m lit") (hz := by walk_at "m lit") (hv := by walk_at "m same") ?_) | (refine notin_Sv false (hx := by walk_at "m lit") (hz := by walk_at "m lit") (hv := by walk_at "m same") ?_))))))
  k_with "call builtin:str.replace" => ((k_here; (first | (first | (refine replace_no (hx := by k_dflt (walk_at "m lit")) (hy := by k_dflt (walk_at "m lit")) (hc := by k_dflt ((simp; first | done | omega))) ?_) | (refine replace_yes (hx := by k_dflt (walk_at "m lit")) (hy := by k_dflt (walk_at "m lit")) (hz := by k_dflt (walk_at "m lit")) (hu := by k_dflt (first | exact NZ.ne (by assumption) | exact Nat.succ_ne_zero _)) (hv := by k_dflt (exact Nat.succ_ne_zero _)) (huv := by k_dflt (exact Nat.ne_of_lt (Nat.lt_succ_self _))) (hyz := by k_dflt (rfl)) (hl := by k_dflt ((simp; done))) (hzz := by k_dflt (decide)) (hr := by k_dflt (first | assumption | exact rfl)) ?_; intro _ _)) | (k_dflt (first | (refine replace_no (hx := by walk_at "m lit") (hy := by walk_at "m lit") (hc := by (simp; first | done | omega)) ?_) | (refine replace_yes (hx := by walk_at "m lit") (hy := by walk_at "m lit") (hz := by walk_at "m lit") (hu := by first | exact NZ.ne (by assumption) | exact Nat.succ_ne_zero _) (hv := by exact Nat.succ_ne_zero _) (huv := by exact Nat.ne_of_lt (Nat.lt_succ_self _)) (hyz := by rfl) (hl := by (simp; done)) (hzz := by decide) (hr := by first | assumption | exact rfl) ?_; intro _ _))))))
  k_with "subscriptTail Name Slice str ref" => (((with_reducible show wpAny _ _ (subscriptTail _ (PySem.Expr.Slice (some _) (some _) none _) _ _) _ _ _); (with_reducible rename Fr _ _ _ _ => Fqq); (with_reducible rename News _ _ _ _ => Nqq); (refine slice_strN_ss (hsz := (by size_fits)) (s := ⟨_, _, _, _, _⟩) Fqq Nqq ?_); intro _ _ _ _ _; (rename Txt.slice _ (some _) (some _) = _ => hsl9qq; rw [hsl9qq])))
  k_with "subscriptTail Name Slice str ref" => (((with_reducible show wpAny _ _ (subscriptTail _ (PySem.Expr.Slice (some _) none none _) _ _) _ _ _); (with_reducible rename Fr _ _ _ _ => Fqq); (with_reducible rename News _ _ _ _ => Nqq); (refine slice_strN_sn (hsz := (by size_fits)) (s := ⟨_, _, _, _, _⟩) Fqq Nqq ?_); intro _ _ _ _ _; rw [S_tail]))
  k_with "getMethod ref" => ((k_here; (with_reducible show wpAny _ _ (getMethod (Value.ref _) (PySem.Str.ofString "sub") _) _ _ _); (first | (refine getMethod_sub' (h50 := by k_dflt (exact pat_at (by assumption) (by assumption))) ?_) | (k_dflt (refine getMethod_sub' (h50 := by exact pat_at (by assumption) (by assumption)) ?_)))))
  k_with "call builtin:re.Pattern.sub" => ((k_here; (first | (refine sub_rule _ _ _ _ (B := by k_dflt (k_asm)) (F := by k_dflt (k_asm)) (X := by k_dflt (k_asm)) (N := by k_dflt (k_asm)) (T := by k_dflt (k_asm)) (hk := by k_dflt (exact rfl)) (hdd := by k_dflt (ktr_room)) (hu := by k_dflt (ktr_units)) (hf := by k_dflt (walk_at "m mem")) (hc := by k_dflt (exact codes_up (by assumption) (by walk_at "m sub"))) (hs := by k_dflt (k_asm)) ?_) | (k_dflt (refine sub_rule _ _ _ _ (B := by k_asm) (F := by k_asm) (X := by k_asm) (N := by k_asm) (T := by k_asm) (hk := by exact rfl) (hdd := by ktr_room) (hu := by ktr_units) (hf := by walk_at "m mem") (hc := by exact codes_up (by assumption) (by walk_at "m sub")) (hs := by k_asm) ?_))); intro _ _ _ _ _; (try dsimp only); (try k_sweep)))
  k_with "eval Lambda" => ((k_here; (first | (refine kla_eval (hdef := by k_dflt (exact rfl)) ?_) | (k_dflt (refine kla_eval (hdef := by exact rfl) ?_))); k_dflt (refine lam_new (own := [_, _]) (P := 71) (ks := trKs) (F := by k_asm) (N := by k_asm) (Tp := by k_asm) (C := by k_asm) (hcd := by exact rfl) (hP1 := by k_all) (hP2 := by k_asm) (H := by k_asm) (hk := by exact trKs_lam) (hkm := by exact List.Mem.head _) (hcl := by exact rfl) ?_); intro f' c' ct' _ _ _ rest' _ G' C' Nqq l1qq l2 l3; (dsimp only [List.cons_append, List.nil_append] at Nqq); (have hz1 := Grown.ne G' (by assumption) (List.Mem.head _)); (have hz2 := Grown.ne G' (by assumption) (List.Mem.tail _ (List.Mem.head _))); (have hz3 := Grown.ne G' (by assumption) (List.Mem.tail _ (List.Mem.tail _ (List.Mem.head _)))); (have hz4 : @LT.lt Nat _ _ _ := l1qq _ (List.Mem.head _)); (have hz5 : @LT.lt Nat _ _ _ := l1qq _ (List.Mem.tail _ (List.Mem.head _))); (have hz6 := Grown.ok G'); dsimp only at hz1 hz2 hz3 hz4 hz5))
  k_with "truthy str" => ((k_here; (first | (refine truthy_S (hl := by k_dflt (first | (with_reducible assumption) | omega | decide | (simp; done) | (simp; omega))) ?_) | (k_dflt (refine truthy_S (hl := by first | (with_reducible assumption) | omega | decide | (simp; done) | (simp; omega)) ?_))); intro _))
  k_with "compareOp In str ref" => ((k_here; (first | (first | (refine in_two false (N := by k_dflt (k_asm)) (hD := by k_dflt (walk_at "m mem")) (hx := by k_dflt (walk_at "m lit")) (hy := by k_dflt (walk_at "m lit")) (hz := by k_dflt (walk_at "m lit")) (hv := by k_dflt ((simp; first | done | omega))) ?_) | (refine in_two true (N := by k_dflt (k_asm)) (hD := by k_dflt (walk_at "m mem")) (hx := by k_dflt (walk_at "m lit")) (hy := by k_dflt (walk_at "m lit")) (hz := by k_dflt (walk_at "m lit")) (hv := by k_dflt ((simp; first | done | omega))) ?_)) | (k_dflt (first | (refine in_two false (N := by k_asm) (hD := by walk_at "m mem") (hx := by walk_at "m lit") (hy := by walk_at "m lit") (hz := by walk_at "m lit") (hv := by (simp; first | done | omega)) ?_) | (refine in_two true (N := by k_asm) (hD := by walk_at "m mem") (hx := by walk_at "m lit") (hy := by walk_at "m lit") (hz := by walk_at "m lit") (hv := by (simp; first | done | omega)) ?_))))))
  k_with "subscriptTail Name Constant str int" => ((k_here; (first | (refine item_S (k := 0) (hk := by k_dflt (exact rfl)) (hc := by k_dflt (exact rfl)) (hl := by k_dflt (first | (simp; done) | (simp; omega))) ?_ (hs := by k_dflt (with_unfolding_all rfl)) (hg := by k_dflt (kmk_pure))) | (k_dflt (refine item_S (k := 0) (hk := by exact rfl) (hc := by exact rfl) (hl := by first | (simp; done) | (simp; omega)) ?_ (hs := by with_unfolding_all rfl) (hg := by kmk_pure)))); intro _ _))
  k_with "binaryOp Add str str" => ((k_here; (first | (refine add_hat (hx := by k_dflt (exact l_hat)) (hl := by k_dflt (omega)) ?_) | (k_dflt (refine add_hat (hx := by exact l_hat) (hl := by omega) ?_))); intro _ _))
  k_with "exec If" => (refine wpAny_If ?_)
  k_with "m fsize" => (((with_reducible show Str.length _ ≤ sizeLine); (simp only [l_lb, l_rb, l_nil0, S_app, S_len, sizeLine_eq, List.length_append, List.length_cons, List.length_nil]); omega))
  k_with "m place" => (first | with_reducible exact (rfl : ((_ : Nat) : Int) = _) | with_reducible exact pl1 _ | with_reducible exact pl2 _ | with_reducible exact pl3 _ | with_reducible exact q2 _ | with_reducible exact q3 _ | with_reducible exact q13 _ | with_reducible exact q13' _)
  k_with "eval GeneratorExp" => ((refine Hold.of ?_))
  k_with "exec While Constant cons nil" => ((refine whl_start 3 ?_))
  k_with "call builtin:str.find" => ((k_here; (first | (first | (refine find_no (hi := by k_dflt (walk_at "m place")) (hj := by k_dflt (walk_at "m place")) (hy := by k_dflt (walk_at "m lit")) (hkm := by k_dflt (omega)) ?_) | (refine find_yes (hx := by k_dflt (walk_at "m lit")) (hy := by k_dflt (walk_at "m lit")) (hi := by k_dflt (walk_at "m place")) (hj := by k_dflt (walk_at "m place")) (hkm := by k_dflt (omega)) (hm := by k_dflt (omega)) (hc := by k_dflt (assumption)) ?_)) | (k_dflt (first | (refine find_no (hi := by walk_at "m place") (hj := by walk_at "m place") (hy := by walk_at "m lit") (hkm := by omega) ?_) | (refine find_yes (hx := by walk_at "m lit") (hy := by walk_at "m lit") (hi := by walk_at "m place") (hj := by walk_at "m place") (hkm := by omega) (hm := by omega) (hc := by assumption) ?_))))))
  k_with "WhlRest" => ((((first | (refine whl_turn (hE := by k_dflt (assumption)) ?_) | (k_dflt (refine whl_turn (hE := by assumption) ?_)))); (try k_sweep)))
  trivial
noncomputable def dashBody (K : Frag) : List Stmt := els (dashStmt K)
theorem dash_bar (w : World) (mean : ExcName → Option Value) (mg mb : Str → Option Value) {dp un : Nat} {gd : Option (List Code)} {cn : Str} {cs : Scope} {L a : Addr} {ccd : Value} {cl : List (Str × Addr)} {outer : List Env} {base g : Heap} {L' : Addr} {m : Str → Option Value} {s : Shared} {Q : Flow → Shared → Prop} {E : Value → Shared → Prop}
    {T1 : Array Value} {rest : Led} {r q : Addr} {its : List Value} {k : Nat} {p : Nat} {l : List Nat} {tp ti tj : Tok} {v2 v3 v4 : Value}
    (B : Below (ktrTop dp un gd cn cs L a ccd cl outer) base (envX cn cs L a ccd cl :: outer) g) (F : Fr g L' s.heap m) (X : Frag.In (hd.heap_39 w.params) g) (T : Top topProg LooseL mean mg mb g)
    (N : News g L' s.heap ((r, listOf its.toArray k) :: (q, bmObj "list.append" r) :: (71, tabObj T1) :: rest)) (hd0 : dp + 20 < recursionLimit) (hu : un + 200 < cLine)
    (hTab : TabOk trKs T1 rest) (h71 : ∀ p ∈ rest, p.1 ≠ 71) (hr : ∀ p ∈ rest, p.1 ≠ r) (hq : ∀ p ∈ rest, p.1 ≠ q) (h71r : @LT.lt Nat _ 71 r) (hrq : @LT.lt Nat _ r q) (hz : its.length ≤ 1000)
    (hl : l.length ≤ 1000) (hl0 : l[p]? = some 33) (hl1 : l[p + 1]? = some 45) (hlen : p + 2 < l.length) (hsl : Txt.slice (S l) (some (p : Int)) (some ((p : Int) + 1 + 1)) = S [33, 45])
    (hG : AllBare s.gens) (hE : PassesOwn (model PySem.Challenge.rw_ij0088_01.row.prog w) ((ktrTop dp un gd cn cs L a ccd cl outer).deeper (envOf (Str.ofString "_translate") (scAt (_root_.Mine.hd.heap_39 w.params) 76) L' 76 (.ref 75))) (envOf (Str.ofString "_translate") (scAt (_root_.Mine.hd.heap_39 w.params) 76) L' 76 (.ref 75)) E)
    (m1 : m "pat" = some (.str (S l) tp)) (m2 : m "STAR" = some v2) (m3 : m "QUESTION_MARK" = some v3) (m4 : m "res" = some (.ref r)) (m5 : m "add" = some (.ref q)) (m6 : m "n" = some v4) (m7 : m "j" = some (.int ((p : Int) + 1 + 1) tj)) (m8 : m "i" = some (.int (p : Int) ti))
    (ret : ∀ s' m' T1' rest' ts, Fr g L' s'.heap m' → News g L' s'.heap ((r, listOf its.toArray k) :: (q, bmObj "list.append" r) :: (71, tabObj T1') :: rest') → TabOk trKs T1' rest' → (∀ p ∈ rest, p ∈ rest') → (∀ p ∈ rest', p.1 ≠ 71) → (∀ p ∈ rest', p.1 ≠ r) → (∀ p ∈ rest', p.1 ≠ q) → AllBare s'.gens → s'.os = s.os →
      m' "pat" = some (.str (S l) tp) → m' "STAR" = some v2 → m' "QUESTION_MARK" = some v3 → m' "res" = some (.ref r) → m' "add" = some (.ref q) → m' "n" = some v4 → m' "j" = some (.int ((p : Int) + 1 + 1) tj) → m' "stuff" = some (.str (S [33, 92, 45]) ts) → Q .next s') :
    wpAny (model PySem.Challenge.rw_ij0088_01.row.prog w) ((ktrTop dp un gd cn cs L a ccd cl outer).deeper (envOf (Str.ofString "_translate") (scAt (_root_.Mine.hd.heap_39 w.params) 76) L' 76 (.ref 75))) (execs (dashBody (_root_.Mine.hd.heap_39 w.params)) (envOf (Str.ofString "_translate") (scAt (_root_.Mine.hd.heap_39 w.params) 76) L' 76 (.ref 75))) Q E s := by
  k_fill
  generalize hsc : scAt (_root_.Mine.hd.heap_39 w.params) 76 = sc
  rw [hsc] at hE
  conv at hsc => lhs; whnf
  subst hsc
  have hst : dashBody (_root_.Mine.hd.heap_39 w.params) = dashBody (_root_.Mine.hd.heap_39 w.params) := rfl
  conv at hst => rhs; whnf
  rw [hst]
  obtain ⟨hp1, g1, d1, tk1, o1⟩ := s
  have F2 := fr_canon [("pat", _), ("STAR", _), ("QUESTION_MARK", _), ("res", _), ("add", _), ("n", _), ("j", _), ("i", _)] F (all_cons m1 (all_cons m2 (all_cons m3 (all_cons m4 (all_cons m5 (all_cons m6 (all_cons m7 (all_cons m8 all_nil))))))))
  clear m1 m2 m3 m4 m5 m6 m7 m8
  have hC9 := codeHd_of X
  k_steps
  unfold Hold
  (rename News _ _ _ _ => N9)
  (rename Fr _ _ _ _ => F9)
  (rename @LT.lt Nat _ r _ ∧ @LT.lt Nat _ q _ ∧ @LT.lt Nat _ 71 _ ∧ AllLt _ rest => l9)
  refine gen_one (own := [_, _, _]) (T := T1) (P := 71) (c := 75) (ks := trKs) (y0 := S [33, 92, 45]) (L := L') (clos := []) F9 N9 T hC9 ?p1 h71 rfl rfl hTab (by exact trKs_gen) (by exact List.Mem.tail _ (List.Mem.head _)) hG rfl rfl ?cl ?cell rfl rfl rfl ?room (List.Mem.head _) ?hi ?helt ?ret ?hs
  case p1 =>
    refine List.forall_mem_cons.mpr ⟨?_, List.forall_mem_cons.mpr ⟨?_, List.forall_mem_cons.mpr ⟨?_, fun _ h => nomatch h⟩⟩⟩
    · exact Nat.ne_of_gt (Nat.lt_trans h71r l9.1)
    · exact Nat.ne_of_gt h71r
    · exact Nat.ne_of_gt (Nat.lt_trans h71r hrq)
  case cl => exact rfl
  case cell => decide
  case room => ktr_room
  case hi =>
    intro Q' E' hq'
    k_steps
    exact hq'
  case hs => exact fun _ => rfl
  case helt =>
    intro c' C' A' E' t m₂ hA' hD' hU' F' hm'
    iterate 2 walk1
    k_dflt (refine ldVarG F' hm' ?_)
    iterate 16 (first | walk1 | (dsimp only; walk1))
    exact ⟨⟨_, rfl⟩, ⟨_, _, rfl, fun _ _ e => e⟩⟩
  case ret =>
    intro a5 s5 T5 rest5 F5 G5 N5 hG5 ho5 X5
    obtain ⟨hp5, g5, d5, tk5, o5⟩ := s5
    dsimp only [List.cons_append, List.nil_append] at N5 X5
    k_steps
    k_dflt (refine' join_gen1 F5 hG5 N5 X5 (joinOk_of (by decide +kernel)) ?_)
    intro s6 t6 F6 N6 hG6 ho6
    obtain ⟨hp6, g6, d6, tk6, o6⟩ := s6
    k_steps
    (rename News _ _ _ _ => N9)
    exact ret _ _ _ _ _ (by k_asm) (cb_drop N9 (by walk_at "m sub")) G5.ok G5.sub (Grown.ne G5 h71 (List.Mem.tail _ (List.Mem.tail _ (List.Mem.tail _ (List.Mem.head _))))) (Grown.ne G5 hr (List.Mem.tail _ (List.Mem.head _))) (Grown.ne G5 hq (List.Mem.tail _ (List.Mem.tail _ (List.Mem.head _)))) hG6 (ho6.trans ho5) rfl rfl rfl rfl rfl rfl rfl rfl

end Mine
end
section
theorem Mine.begin_Te : True := by
  w_top off
  k_with_none
  k_with "omega" => (first | with_reducible assumption | with_reducible exact Nat.le_trans (by assumption) (Nat.le_of_ble_eq_true rfl) | with_reducible exact Nat.le_refl _ | with_reducible exact Nat.ne_of_gt (by assumption) | with_reducible exact Nat.ne_of_lt (by assumption) | with_reducible exact Ne.symm (by assumption) | with_reducible exact Int.ofNat_lt.mpr (by assumption) | with_reducible exact Nat.lt_of_le_of_lt (Nat.le_add_right _ _) (by assumption))
  trivial
namespace Mine
theorem rules_Te_1 : True := by
  k_with "newList" => ((k_here; (first | (refine newList_K (F := by k_dflt (k_asm)) (N := by k_dflt (k_asm)) ?_ (hsz := by k_dflt (exact Nat.le_of_ble_eq_true rfl))) | (k_dflt (refine newList_K (F := by k_asm) (N := by k_asm) ?_ (hsz := by exact Nat.le_of_ble_eq_true rfl)))); intro _ _ _ _ l1qq; (try k_lt l1qq); (try k_sweep)))
  trivial
theorem rules_Te_2 : True := by
  k_with "m sub" => ((intro p hp; repeat (first | exact hp | refine List.mem_cons_of_mem _ ?_)))
  k_with "m news" => ((refine cb_drop (N := by k_asm) ?_; walk_at "m sub"))
  k_with "m lt" => (first | assumption | exact ktn_ltOf (by assumption) | (refine ktn_ltOf ?_; simp only [AllLt, and_true] at *; simp only [*]))
  k_with "compareOp In ref ref" => ((k_here; (first | (refine in_parts (hp := by k_dflt (assumption)) (hi := by k_dflt (assumption)) (N := by k_dflt (walk_at "m news")) (N' := by k_dflt (k_asm)) (hE := by k_dflt (k_mem)) (hlt := by k_dflt (walk_at "m lt")) (hu := by k_dflt (ktr_units)) (hb := by k_dflt (first | exact (show _ = true from (congrArg Option.isSome (by assumption)).trans rfl) | exact (show _ = false from (congrArg Option.isSome (by assumption)).trans rfl))) ?_; k_whole) | (k_dflt (refine in_parts (hp := by assumption) (hi := by assumption) (N := by walk_at "m news") (N' := by k_asm) (hE := by k_mem) (hlt := by walk_at "m lt") (hu := by ktr_units) (hb := by first | exact (show _ = true from (congrArg Option.isSome (by assumption)).trans rfl) | exact (show _ = false from (congrArg Option.isSome (by assumption)).trans rfl)) ?_; k_whole)))))
  k_with "call builtin:list.index" => ((k_here; (first | (refine index_parts (hp := by k_dflt (assumption)) (hi := by k_dflt (assumption)) (N := by k_dflt (walk_at "m news")) (N' := by k_dflt (k_asm)) (hE := by k_dflt (k_mem)) (hlt := by k_dflt (walk_at "m lt")) (hu := by k_dflt (ktr_units)) (hj := by k_dflt (assumption)) (hs := by k_dflt (omega)) ?_; k_whole) | (k_dflt (refine index_parts (hp := by assumption) (hi := by assumption) (N := by walk_at "m news") (N' := by k_asm) (hE := by k_mem) (hlt := by walk_at "m lt") (hu := by ktr_units) (hj := by assumption) (hs := by omega) ?_; k_whole)))))
  k_with "getMethod ref" => ((k_here; (with_reducible show wpAny _ _ (getMethod (Value.ref _) (PySem.Str.ofString "index") _) _ _ _); (first | (refine index_method (hm := by k_dflt (assumption)) (N := by k_dflt (walk_at "m news")) ?_) | (k_dflt (refine index_method (hm := by assumption) (N := by walk_at "m news") ?_)))))
  k_with "m list" => ((refine News.isList (N := by k_asm) (hm := by repeat (first | assumption | exact List.Mem.head _ | refine List.mem_cons_of_mem _ ?_))))
  k_with "m small" => (first | exact Nat.le_of_ble_eq_true rfl | (simp only [List.size_toArray, sizeLine_eq, Array.length_toList]; omega) | (simp only [List.size_toArray, List.length_append, List.length_take, List.length_drop, All2.length (by assumption : All2 _ _ _), sizeLine_eq, Array.length_toList]; omega))
  k_with "subscriptTail Name Slice ref ref" => ((k_here; (with_reducible show wpAny _ _ (subscriptTail _ (PySem.Expr.Slice _ _ none _) (Value.ref _) (Value.ref _)) _ _ _); (first | (refine kms_slice_lit (F := by k_dflt (k_asm)) (N := by k_dflt (k_asm)) (hl := by k_dflt (walk_at "m list")) (pl := by k_dflt (kmk_part)) (pu := by k_dflt (kmk_part)) (e := by k_dflt (first | exact pick_to _ _ | exact pick_from1 _ _ | exact pick_from _ _)) ?_ (hs := by k_dflt (with_unfolding_all rfl)) (ht := by k_dflt (kmk_pure)) (hz := by k_dflt (walk_at "m small")); k_whole) | (k_dflt (refine kms_slice_lit (F := by k_asm) (N := by k_asm) (hl := by walk_at "m list") (pl := by kmk_part) (pu := by kmk_part) (e := by first | exact pick_to _ _ | exact pick_from1 _ _ | exact pick_from _ _) ?_ (hs := by with_unfolding_all rfl) (ht := by kmk_pure) (hz := by walk_at "m small"); k_whole))); intro _ _ _ _ l1qq; (try k_lt l1qq); (try k_sweep)))
  k_with "binaryOp Add ref ref" => ((k_here; (with_reducible show wpAny _ _ (binaryOp _ (Value.ref _) (Value.ref _)) _ _ _); (first | (refine kmk_add_lit (F := by k_dflt (k_asm)) (N := by k_dflt (k_asm)) (ha := by k_dflt (walk_at "m list")) (hb := by k_dflt (walk_at "m list")) (e := by k_dflt (exact add_e _ _)) ?_ (hz := by k_dflt (walk_at "m small"))) | (k_dflt (refine kmk_add_lit (F := by k_asm) (N := by k_asm) (ha := by walk_at "m list") (hb := by walk_at "m list") (e := by exact add_e _ _) ?_ (hz := by walk_at "m small")))); intro _ _ _ _ l1qq; (try k_lt l1qq); (try k_sweep)))
  k_with "call builtin:len" => ((k_here; (with_reducible show wpAny _ _ (call (Value.builtin "len") [Value.ref _]) _ _ _); (first | (refine len_lst (hl := by k_dflt (walk_at "m list")) (e := by k_dflt (assumption)) (hn := by k_dflt (omega)) ?_) | (k_dflt (refine len_lst (hl := by walk_at "m list") (e := by assumption) (hn := by omega) ?_))); intro _ _))
  k_with "CompSrcT" => ((refine Hold.of ?_))
  k_with "m place" => (first | exact Int.zero_add _ | exact (rfl : (0 : Int) = ((0 : Nat) : Int)) | exact (rfl : (1 : Int) = ((1 : Nat) : Int)))
  k_with "subscriptTail Name Name str int" => ((k_here; (first | (refine item_S (hk := by k_dflt (walk_at "m place")) (hc := by k_dflt (assumption)) (hl := by k_dflt (first | assumption | omega)) ?_ (hs := by k_dflt (with_unfolding_all rfl)) (hg := by k_dflt (kmk_pure))) | (k_dflt (refine item_S (hk := by walk_at "m place") (hc := by assumption) (hl := by first | assumption | omega) ?_ (hs := by with_unfolding_all rfl) (hg := by kmk_pure)))); intro _ _))
  k_with "m item" => ((k_here; (with_reducible show wpAny _ _ (subscriptTail _ _ (Value.ref _) (Value.int _ _)) _ _ _); (first | (refine item_L (hl := by k_dflt (walk_at "m list")) (hk := by k_dflt (walk_at "m place")) (hx := by k_dflt (first | assumption | exact rfl)) (hz := by k_dflt (first | exact Nat.le_of_ble_eq_true rfl | omega)) ?_ (hs := by k_dflt (with_unfolding_all rfl)) (hg := by k_dflt (kmk_pure))) | (k_dflt (refine item_L (hl := by walk_at "m list") (hk := by walk_at "m place") (hx := by first | assumption | exact rfl) (hz := by first | exact Nat.le_of_ble_eq_true rfl | omega) ?_ (hs := by with_unfolding_all rfl) (hg := by kmk_pure))))))
  k_with "subscriptTail Name Name ref int" => (walk_at "m item")
  k_with "subscriptTail Subscript Constant ref int" => (walk_at "m item")
  k_with "compareOp In str str" => ((k_here; (first | (refine in_S ?_) | (k_dflt (refine in_S ?_)))))
  k_with "m mem" => (repeat (first | assumption | exact List.Mem.head _ | refine List.mem_cons_of_mem _ ?_))
  k_with "compareOp Eq ref ref" => ((k_here; (first | (refine eq_nil (N := by k_dflt (k_asm)) (hD := by k_dflt (walk_at "m mem")) (hE := by k_dflt (walk_at "m mem")) (hu := by k_dflt (ktr_units)) ?_) | (k_dflt (refine eq_nil (N := by k_asm) (hD := by walk_at "m mem") (hE := by walk_at "m mem") (hu := by ktr_units) ?_)))))
  k_with "compareOp Eq bool bool" => ((k_here; (first | (refine PyProof.Rows.eq_bool ?_) | (k_dflt (refine PyProof.Rows.eq_bool ?_)))))
  k_with "subscriptTail Name Constant ref int" => (walk_at "m item")
  k_with "call ref" => ((refine Hold.of ?_))
  k_with "getAttr ref true" => ((k_here; (with_reducible show wpAny _ _ (getAttr (Value.ref _) (PySem.Str.ofString "append") _) _ _ _); (first | (refine getAttr_bm (F := by k_dflt (k_asm)) (N := by k_dflt (k_asm)) (hD := by k_dflt (walk_at "m mem")) ?_) | (k_dflt (refine getAttr_bm (F := by k_asm) (N := by k_asm) (hD := by walk_at "m mem") ?_))); intro q' _ _ _ l1qq; (try k_lt l1qq); (try k_sweep)))
  k_with "callWith ref" => ((k_here; (first | (refine callWith_bm (by k_dflt (k_asm)) (by k_dflt (walk_at "m mem")) ?_) | (k_dflt (refine callWith_bm (by k_asm) (by walk_at "m mem") ?_)))))
  k_with "And" => ((k_dflt ((show Heap.get? _ _ = some (bmObj _ _) ∧ _); (refine And.intro (left := by (refine News.get (N := by k_asm) (hm := by walk_at "m mem"))) ?_)); (try dsimp only [List.nil_append, List.cons_append])))
  k_with "call ref" => ((k_here; (first | (refine call_bm (F := by k_dflt (k_asm)) (N := by k_dflt (k_asm)) (hq := by k_dflt (walk_at "m mem")) (U := by k_dflt (k_upd)) ?_ (hsz := by k_dflt (walk_at "m small"))) | (k_dflt (refine call_bm (F := by k_asm) (N := by k_asm) (hq := by walk_at "m mem") (U := by k_upd) ?_ (hsz := by walk_at "m small")))); intro _ _ _; (try k_sweep)))
  k_with "exec While" => ((refine Hold.of ?_))
  k_with "exec While Compare cons nil" => ((refine Hold.of ?_))
  k_with "m place" => (first | with_reducible exact (rfl : ((_ : Nat) : Int) = _) | with_reducible exact pl1 _ | with_reducible exact pl2 _ | with_reducible exact pl3 _ | with_reducible exact pl4 _ | exact (rfl : ((_ : Nat) : Int) = _) | exact pl1 _ | exact pl2 _ | exact pl3 _ | exact pl4 _)
  k_with "WhlIf" => ((first | (refine WhlIf.yes (h := by ((try simp only [decide_eq_true_eq, Bool.not_eq_true', decide_eq_false_iff_not, Bool.and_eq_true]); first | omega | assumption | rfl)) ?_) | (refine WhlIf.no (h := by ((try simp only [decide_eq_false_iff_not, Bool.not_eq_false']); first | omega | assumption | rfl)) ?_)))
  k_with "m perm" => ((refine cb_drop (N := by k_asm) ?_; repeat' (first | (refine List.forall_mem_cons.mpr (And.intro ?_ ?_)) | (walk_at "m mem"; done) | (walk_at "m sub"; done))))
  k_with "m lit" => (with_reducible first | exact l_star | exact l_qm | exact l_lb | exact l_rb | exact l_ex | exact l_dash | exact l_dot | exact l_hat | exact l_bs | exact l_bs2 | exact l_bsd | exact l_nil | exact l_dotstar | exact l_open | exact l_close | exact rfl)
  k_with "m same" => (first | rfl | ((try simp only [sg, decide_eq_true_eq, decide_eq_false_iff_not, Bool.not_eq_true', Bool.not_eq_false', Bool.not_true, Bool.not_false]); first | omega | assumption | (simp; done) | (simp; omega) | (simp [*]; done)))
  k_with "m sameF" => (first | (with_reducible exact hdF (by assumption)) | (with_reducible exact hdF (Ne.symm (by assumption))) | exact rfl)
  k_with "m nsameF" => (first | (with_reducible exact hdNT (by assumption)) | (with_reducible exact hdNT (Ne.symm (by assumption))) | exact rfl)
  k_with "compareOp Eq str str" => ((k_here; (first | (first | (refine eq_Sv false (hx := by k_dflt (walk_at "m lit")) (hy := by k_dflt (walk_at "m lit")) (hv := by k_dflt (walk_at "m sameF")) ?_) | (refine eq_Sv true (hx := by k_dflt (walk_at "m lit")) (hy := by k_dflt (walk_at "m lit")) (hv := by k_dflt (exact rfl)) ?_) | (refine eq_Sv true (hx := by k_dflt (walk_at "m lit")) (hy := by k_dflt (walk_at "m lit")) (hv := by k_dflt (walk_at "m same")) ?_) | (refine eq_Sv false (hx := by k_dflt (walk_at "m lit")) (hy := by k_dflt (walk_at "m lit")) (hv := by k_dflt (walk_at "m same")) ?_) | (refine eq_S (hx := by k_dflt (walk_at "m lit")) (hy := by k_dflt (walk_at "m lit")) ?_)) | (k_dflt (first | (refine eq_Sv false (hx := by walk_at "m lit") (hy := by walk_at "m lit") (hv := by walk_at "m sameF") ?_) | (refine eq_Sv true (hx := by walk_at "m lit") (hy := by walk_at "m lit") (hv := by exact rfl) ?_) | (refine eq_Sv true (hx := by walk_at "m lit") (hy := by walk_at "m lit") (hv := by walk_at "m same") ?_) | (refine eq_Sv false (hx := by walk_at "m lit") (hy := by walk_at "m lit") (hv := by walk_at "m same") ?_) | (refine eq_S (hx := by walk_at "m lit") (hy := by walk_at "m lit") ?_))))))
  k_with "compareOp NotEq str str" => ((k_here; (first | (first | (refine ne_Sv true (hx := by k_dflt (walk_at "m lit")) (hy := by k_dflt (walk_at "m lit")) (hv := by k_dflt (walk_at "m nsameF")) ?_) | (refine ne_Sv false (hx := by k_dflt (walk_at "m lit")) (hy := by k_dflt (walk_at "m lit")) (hv := by k_dflt (exact rfl)) ?_) | (refine ne_Sv true (hx := by k_dflt (walk_at "m lit")) (hy := by k_dflt (walk_at "m lit")) (hv := by k_dflt (walk_at "m same")) ?_) | (refine ne_Sv false (hx := by k_dflt (walk_at "m lit")) (hy := by k_dflt (walk_at "m lit")) (hv := by k_dflt (walk_at "m same")) ?_) | (refine ne_S (hx := by k_dflt (walk_at "m lit")) (hy := by k_dflt (walk_at "m lit")) ?_)) | (k_dflt (first | (refine ne_Sv true (hx := by walk_at "m lit") (hy := by walk_at "m lit") (hv := by walk_at "m nsameF") ?_) | (refine ne_Sv false (hx := by walk_at "m lit") (hy := by walk_at "m lit") (hv := by exact rfl) ?_) | (refine ne_Sv true (hx := by walk_at "m lit") (hy := by walk_at "m lit") (hv := by walk_at "m same") ?_) | (refine ne_Sv false (hx := by walk_at "m lit") (hy := by walk_at "m lit") (hv := by walk_at "m same") ?_) | (refine ne_S (hx := by walk_at "m lit") (hy := by walk_at "m lit") ?_))))))
  k_with "WhlRest" => (((with_reducible show WhlRest _ _ _ _ _ _ _ _ _ 0 _); refine Hold.of ?_))
  k_with "m gives" => (skip)
  k_with "call ref" => ((k_here; (first | (refine gives_use (escape_gives _ _ _ _ _ _) (B := by k_dflt (k_asm)) (F := by k_dflt (k_asm)) (X := by k_dflt (k_asm)) (N := by k_dflt (k_asm)) (T := by k_dflt (k_asm)) (hk := by k_dflt (exact rfl)) trivial (hd := by k_dflt (ktr_room)) (hu := by k_dflt (ktr_units)) ?_) | (k_dflt (refine gives_use (escape_gives _ _ _ _ _ _) (B := by k_asm) (F := by k_asm) (X := by k_asm) (N := by k_asm) (T := by k_asm) (hk := by exact rfl) trivial (hd := by ktr_room) (hu := by ktr_units) ?_))); intro r' n' _ _ _ _ P'; obtain ⟨e1', tqq, e2'⟩ := P'; subst e1'; subst e2'; (try dsimp only); (try k_sweep); (try k_fold)))
  k_with "m bmget" => (((with_reducible show Heap.get? _ _ = some (bmObj _ _)); refine News.get (N := by k_asm) (hm := by walk_at "m mem")))
  k_with "truthy ref" => ((k_here; (first | (first | (refine truthy_L (b := true) (hl := by k_dflt (walk_at "m list")) (hz := by k_dflt (walk_at "m short")) (hb := by k_dflt (first | rfl | (simp; done))) ?_) | (refine truthy_L (b := false) (hl := by k_dflt (walk_at "m list")) (hz := by k_dflt (walk_at "m short")) (hb := by k_dflt (first | rfl | (simp; done))) ?_)) | (k_dflt (first | (refine truthy_L (b := true) (hl := by walk_at "m list") (hz := by walk_at "m short") (hb := by first | rfl | (simp; done)) ?_) | (refine truthy_L (b := false) (hl := by walk_at "m list") (hz := by walk_at "m short") (hb := by first | rfl | (simp; done)) ?_)))); intro _))
  k_with "m short" => (first | omega | (simp; done) | (simp at *; omega))
  k_with "subscriptTail Name UnaryOp ref int" => ((k_here; (first | (refine item_last (hl := by k_dflt (walk_at "m list")) (hz := by k_dflt (walk_at "m short")) ?_ (hs := by k_dflt (with_unfolding_all rfl)) (hg := by k_dflt (kmk_pure))) | (k_dflt (refine item_last (hl := by walk_at "m list") (hz := by walk_at "m short") ?_ (hs := by with_unfolding_all rfl) (hg := by kmk_pure))))))
  k_with "compareOp IsNot str ref" => ((k_here; (first | (refine isnot_str_ref ?_) | (k_dflt (refine isnot_str_ref ?_)))))
  k_with "exec While BoolOp cons nil" => ((refine whl_start 4 ?_))
  k_with "execs cons" => ((k_here; refine keep_toks (hX := by with_reducible exact Nat.succ_ne_zero _) ?_; intro tk htk))
  k_with "compareOp NotIn str str" => ((k_here; (first | (first | (refine notin_Sv true (hx := by k_dflt (walk_at "m lit")) (hz := by k_dflt (walk_at "m lit")) (hv := by k_dflt (walk_at "m same")) ?_) | (refine notin_Sv false (hx := by k_dflt (walk_at "m lit")) (hz := by k_dflt (walk_at "m lit")) (hv := by k_dflt (walk_at "m same")) ?_)) | (k_dflt (first | (refine notin_Sv true (hx := by walk_at "m lit") (hz := by walk_at "m lit") (hv := by walk_at "m same") ?_) | (refine notin_Sv false (hx := by walk_at "m lit") (hz := by walk_at "m lit") (hv := by walk_at "m same") ?_))))))
  k_with "call builtin:str.replace" => ((k_here; (first | (first | (refine replace_no (hx := by k_dflt (walk_at "m lit")) (hy := by k_dflt (walk_at "m lit")) (hc := by k_dflt ((simp; first | done | omega))) ?_) | (refine replace_yes (hx := by k_dflt (walk_at "m lit")) (hy := by k_dflt (walk_at "m lit")) (hz := by k_dflt (walk_at "m lit")) (hu := by k_dflt (first | exact NZ.ne (by assumption) | exact Nat.succ_ne_zero _)) (hv := by k_dflt (exact Nat.succ_ne_zero _)) (huv := by k_dflt (exact Nat.ne_of_lt (Nat.lt_succ_self _))) (hyz := by k_dflt (rfl)) (hl := by k_dflt ((simp; done))) (hzz := by k_dflt (decide)) (hr := by k_dflt (first | assumption | exact rfl)) ?_; intro _ _)) | (k_dflt (first | (refine replace_no (hx := by walk_at "m lit") (hy := by walk_at "m lit") (hc := by (simp; first | done | omega)) ?_) | (refine replace_yes (hx := by walk_at "m lit") (hy := by walk_at "m lit") (hz := by walk_at "m lit") (hu := by first | exact NZ.ne (by assumption) | exact Nat.succ_ne_zero _) (hv := by exact Nat.succ_ne_zero _) (huv := by exact Nat.ne_of_lt (Nat.lt_succ_self _)) (hyz := by rfl) (hl := by (simp; done)) (hzz := by decide) (hr := by first | assumption | exact rfl) ?_; intro _ _))))))
  k_with "subscriptTail Name Slice str ref" => (((with_reducible show wpAny _ _ (subscriptTail _ (PySem.Expr.Slice (some _) (some _) none _) _ _) _ _ _); (with_reducible rename Fr _ _ _ _ => Fqq); (with_reducible rename News _ _ _ _ => Nqq); (refine slice_strN_ss (hsz := (by size_fits)) (s := ⟨_, _, _, _, _⟩) Fqq Nqq ?_); intro _ _ _ _ _; (rename Txt.slice _ (some _) (some _) = _ => hsl9qq; rw [hsl9qq])))
  k_with "subscriptTail Name Slice str ref" => (((with_reducible show wpAny _ _ (subscriptTail _ (PySem.Expr.Slice (some _) none none _) _ _) _ _ _); (with_reducible rename Fr _ _ _ _ => Fqq); (with_reducible rename News _ _ _ _ => Nqq); (refine slice_strN_sn (hsz := (by size_fits)) (s := ⟨_, _, _, _, _⟩) Fqq Nqq ?_); intro _ _ _ _ _; rw [S_tail]))
  k_with "getMethod ref" => ((k_here; (with_reducible show wpAny _ _ (getMethod (Value.ref _) (PySem.Str.ofString "sub") _) _ _ _); (first | (refine getMethod_sub' (h50 := by k_dflt (exact pat_at (by assumption) (by assumption))) ?_) | (k_dflt (refine getMethod_sub' (h50 := by exact pat_at (by assumption) (by assumption)) ?_)))))
  k_with "call builtin:re.Pattern.sub" => ((k_here; (first | (refine sub_rule _ _ _ _ (B := by k_dflt (k_asm)) (F := by k_dflt (k_asm)) (X := by k_dflt (k_asm)) (N := by k_dflt (k_asm)) (T := by k_dflt (k_asm)) (hk := by k_dflt (exact rfl)) (hdd := by k_dflt (ktr_room)) (hu := by k_dflt (ktr_units)) (hf := by k_dflt (walk_at "m mem")) (hc := by k_dflt (exact codes_up (by assumption) (by walk_at "m sub"))) (hs := by k_dflt (k_asm)) ?_) | (k_dflt (refine sub_rule _ _ _ _ (B := by k_asm) (F := by k_asm) (X := by k_asm) (N := by k_asm) (T := by k_asm) (hk := by exact rfl) (hdd := by ktr_room) (hu := by ktr_units) (hf := by walk_at "m mem") (hc := by exact codes_up (by assumption) (by walk_at "m sub")) (hs := by k_asm) ?_))); intro _ _ _ _ _; (try dsimp only); (try k_sweep)))
  k_with "eval Lambda" => ((k_here; (first | (refine kla_eval (hdef := by k_dflt (exact rfl)) ?_) | (k_dflt (refine kla_eval (hdef := by exact rfl) ?_))); k_dflt (refine lam_new (own := [_, _]) (P := 71) (ks := trKs) (F := by k_asm) (N := by k_asm) (Tp := by k_asm) (C := by k_asm) (hcd := by exact rfl) (hP1 := by k_all) (hP2 := by k_asm) (H := by k_asm) (hk := by exact trKs_lam) (hkm := by exact List.Mem.head _) (hcl := by exact rfl) ?_); intro f' c' ct' _ _ _ rest' _ G' C' Nqq l1qq l2 l3; (dsimp only [List.cons_append, List.nil_append] at Nqq); (have hz1 := Grown.ne G' (by assumption) (List.Mem.head _)); (have hz2 := Grown.ne G' (by assumption) (List.Mem.tail _ (List.Mem.head _))); (have hz3 := Grown.ne G' (by assumption) (List.Mem.tail _ (List.Mem.tail _ (List.Mem.head _)))); (have hz4 : @LT.lt Nat _ _ _ := l1qq _ (List.Mem.head _)); (have hz5 : @LT.lt Nat _ _ _ := l1qq _ (List.Mem.tail _ (List.Mem.head _))); (have hz6 := Grown.ok G'); dsimp only at hz1 hz2 hz3 hz4 hz5))
  k_with "truthy str" => ((k_here; (first | (refine truthy_S (hl := by k_dflt (first | (with_reducible assumption) | omega | decide | (simp; done) | (simp; omega))) ?_) | (k_dflt (refine truthy_S (hl := by first | (with_reducible assumption) | omega | decide | (simp; done) | (simp; omega)) ?_))); intro _))
  k_with "compareOp In str ref" => ((k_here; (first | (first | (refine in_two false (N := by k_dflt (k_asm)) (hD := by k_dflt (walk_at "m mem")) (hx := by k_dflt (walk_at "m lit")) (hy := by k_dflt (walk_at "m lit")) (hz := by k_dflt (walk_at "m lit")) (hv := by k_dflt ((simp; first | done | omega))) ?_) | (refine in_two true (N := by k_dflt (k_asm)) (hD := by k_dflt (walk_at "m mem")) (hx := by k_dflt (walk_at "m lit")) (hy := by k_dflt (walk_at "m lit")) (hz := by k_dflt (walk_at "m lit")) (hv := by k_dflt ((simp; first | done | omega))) ?_)) | (k_dflt (first | (refine in_two false (N := by k_asm) (hD := by walk_at "m mem") (hx := by walk_at "m lit") (hy := by walk_at "m lit") (hz := by walk_at "m lit") (hv := by (simp; first | done | omega)) ?_) | (refine in_two true (N := by k_asm) (hD := by walk_at "m mem") (hx := by walk_at "m lit") (hy := by walk_at "m lit") (hz := by walk_at "m lit") (hv := by (simp; first | done | omega)) ?_))))))
  k_with "subscriptTail Name Constant str int" => ((k_here; (first | (refine item_S (k := 0) (hk := by k_dflt (exact rfl)) (hc := by k_dflt (exact rfl)) (hl := by k_dflt (first | (simp; done) | (simp; omega))) ?_ (hs := by k_dflt (with_unfolding_all rfl)) (hg := by k_dflt (kmk_pure))) | (k_dflt (refine item_S (k := 0) (hk := by exact rfl) (hc := by exact rfl) (hl := by first | (simp; done) | (simp; omega)) ?_ (hs := by with_unfolding_all rfl) (hg := by kmk_pure)))); intro _ _))
  k_with "binaryOp Add str str" => ((k_here; (first | (refine add_hat (hx := by k_dflt (exact l_hat)) (hl := by k_dflt (omega)) ?_) | (k_dflt (refine add_hat (hx := by exact l_hat) (hl := by omega) ?_))); intro _ _))
  k_with "exec If" => (refine wpAny_If ?_)
  k_with "m fsize" => (((with_reducible show Str.length _ ≤ sizeLine); (simp only [l_lb, l_rb, l_nil0, S_app, S_len, sizeLine_eq, List.length_append, List.length_cons, List.length_nil]); omega))
  k_with "m place" => (first | with_reducible exact (rfl : ((_ : Nat) : Int) = _) | with_reducible exact pl1 _ | with_reducible exact pl2 _ | with_reducible exact pl3 _ | with_reducible exact q2 _ | with_reducible exact q3 _ | with_reducible exact q13 _ | with_reducible exact q13' _)
  k_with "eval GeneratorExp" => ((refine Hold.of ?_))
  k_with "exec While Constant cons nil" => ((refine whl_start 3 ?_))
  k_with "call builtin:str.find" => ((k_here; (first | (first | (refine find_no (hi := by k_dflt (walk_at "m place")) (hj := by k_dflt (walk_at "m place")) (hy := by k_dflt (walk_at "m lit")) (hkm := by k_dflt (omega)) ?_) | (refine find_yes (hx := by k_dflt (walk_at "m lit")) (hy := by k_dflt (walk_at "m lit")) (hi := by k_dflt (walk_at "m place")) (hj := by k_dflt (walk_at "m place")) (hkm := by k_dflt (omega)) (hm := by k_dflt (omega)) (hc := by k_dflt (assumption)) ?_)) | (k_dflt (first | (refine find_no (hi := by walk_at "m place") (hj := by walk_at "m place") (hy := by walk_at "m lit") (hkm := by omega) ?_) | (refine find_yes (hx := by walk_at "m lit") (hy := by walk_at "m lit") (hi := by walk_at "m place") (hj := by walk_at "m place") (hkm := by omega) (hm := by omega) (hc := by assumption) ?_))))))
  k_with "subscriptTail Name Slice str ref" => (((with_reducible show wpAny _ _ (subscriptTail _ (PySem.Expr.Slice (some _) (some _) none _) _ _) _ _ _); (with_reducible rename Fr _ _ _ _ => Fqq); (with_reducible rename News _ _ _ _ => Nqq); (refine slice_strN_ss (hsz := (by size_fits)) (s := ⟨_, _, _, _, _⟩) Fqq Nqq ?_); intro _ _ _ _ _; first | ((with_reducible rename Txt.slice _ (some _) (some _) = S [] => hsl9qq); rw [hsl9qq]) | ((with_reducible rename Txt.slice _ (some _) (some _) = S [46] => hsl9qq); rw [hsl9qq])))
  trivial
theorem truthy_S0 {prog : Program} {w : World} {A : Around} {E : Value → Shared → Prop} {s : Shared} {t : Tok} {Q : Bool → Shared → Prop} (h : ∀ k, Q false { s with toks := k }) : wpAny (model prog w) A (truthy (.str (S []) t)) Q E s := by
  refine PySem.P.truthy_str (by rw [S_len]; decide) ?_
  exact h _
theorem rules_Te_3 : True := by
  k_with "truthy str" => ((k_here; (first | (refine truthy_S0 ?_) | (k_dflt (refine truthy_S0 ?_))); intro _))
  k_with "WhlRest" => ((((first | (refine whl_turn (hE := by k_dflt (assumption)) ?_) | (k_dflt (refine whl_turn (hE := by assumption) ?_)))); (try k_sweep)))
  trivial
theorem dash_dot (w : World) (mean : ExcName → Option Value) (mg mb : Str → Option Value) {dp un : Nat} {gd : Option (List Code)} {cn : Str} {cs : Scope} {L a : Addr} {ccd : Value} {cl : List (Str × Addr)} {outer : List Env} {base g : Heap} {L' : Addr} {m : Str → Option Value} {s : Shared} {Q : Flow → Shared → Prop} {E : Value → Shared → Prop}
    {T1 : Array Value} {rest : Led} {r q : Addr} {its : List Value} {k : Nat} {p : Nat} {l : List Nat} {tp ti tj : Tok} {v2 v3 v4 : Value}
    (B : Below (ktrTop dp un gd cn cs L a ccd cl outer) base (envX cn cs L a ccd cl :: outer) g) (F : Fr g L' s.heap m) (X : Frag.In (hd.heap_39 w.params) g) (T : Top topProg LooseL mean mg mb g)
    (N : News g L' s.heap ((r, listOf its.toArray k) :: (q, bmObj "list.append" r) :: (71, tabObj T1) :: rest)) (hd0 : dp + 20 < recursionLimit) (hu : un + 200 < cLine)
    (hTab : TabOk trKs T1 rest) (h71 : ∀ p ∈ rest, p.1 ≠ 71) (hr : ∀ p ∈ rest, p.1 ≠ r) (hq : ∀ p ∈ rest, p.1 ≠ q) (h71r : @LT.lt Nat _ 71 r) (hrq : @LT.lt Nat _ r q) (hz : its.length ≤ 1000)
    (hl : l.length ≤ 1000) (hl0 : l[p]? = some 46) (hl1 : l[p + 1]? = some 45) (hlen : p + 2 < l.length) (hsl : Txt.slice (S l) (some (p : Int)) (some ((p + 1 : Nat) : Int)) = S [46]) (hsl2 : Txt.slice (S l) (some (((p + 1 : Nat) : Int) + 1)) (some ((p : Int) + 1 + 1)) = S [])
    (hG : AllBare s.gens) (hE : PassesOwn (model PySem.Challenge.rw_ij0088_01.row.prog w) ((ktrTop dp un gd cn cs L a ccd cl outer).deeper (envOf (Str.ofString "_translate") (scAt (_root_.Mine.hd.heap_39 w.params) 76) L' 76 (.ref 75))) (envOf (Str.ofString "_translate") (scAt (_root_.Mine.hd.heap_39 w.params) 76) L' 76 (.ref 75)) E)
    (m1 : m "pat" = some (.str (S l) tp)) (m2 : m "STAR" = some v2) (m3 : m "QUESTION_MARK" = some v3) (m4 : m "res" = some (.ref r)) (m5 : m "add" = some (.ref q)) (m6 : m "n" = some v4) (m7 : m "j" = some (.int ((p : Int) + 1 + 1) tj)) (m8 : m "i" = some (.int (p : Int) ti))
    (ret : ∀ s' m' T1' rest' ts, Fr g L' s'.heap m' → News g L' s'.heap ((r, listOf its.toArray k) :: (q, bmObj "list.append" r) :: (71, tabObj T1') :: rest') → TabOk trKs T1' rest' → (∀ p ∈ rest, p ∈ rest') → (∀ p ∈ rest', p.1 ≠ 71) → (∀ p ∈ rest', p.1 ≠ r) → (∀ p ∈ rest', p.1 ≠ q) → AllBare s'.gens → s'.os = s.os →
      m' "pat" = some (.str (S l) tp) → m' "STAR" = some v2 → m' "QUESTION_MARK" = some v3 → m' "res" = some (.ref r) → m' "add" = some (.ref q) → m' "n" = some v4 → m' "j" = some (.int ((p : Int) + 1 + 1) tj) → m' "stuff" = some (.str (S [46, 92, 45]) ts) → Q .next s') :
    wpAny (model PySem.Challenge.rw_ij0088_01.row.prog w) ((ktrTop dp un gd cn cs L a ccd cl outer).deeper (envOf (Str.ofString "_translate") (scAt (_root_.Mine.hd.heap_39 w.params) 76) L' 76 (.ref 75))) (execs (dashBody (_root_.Mine.hd.heap_39 w.params)) (envOf (Str.ofString "_translate") (scAt (_root_.Mine.hd.heap_39 w.params) 76) L' 76 (.ref 75))) Q E s := by
  k_fill
  generalize hsc : scAt (_root_.Mine.hd.heap_39 w.params) 76 = sc
  rw [hsc] at hE
  conv at hsc => lhs; whnf
  subst hsc
  have hst : dashBody (_root_.Mine.hd.heap_39 w.params) = dashBody (_root_.Mine.hd.heap_39 w.params) := rfl
  conv at hst => rhs; whnf
  rw [hst]
  obtain ⟨hp1, g1, d1, tk1, o1⟩ := s
  have F2 := fr_canon [("pat", _), ("STAR", _), ("QUESTION_MARK", _), ("res", _), ("add", _), ("n", _), ("j", _), ("i", _)] F (all_cons m1 (all_cons m2 (all_cons m3 (all_cons m4 (all_cons m5 (all_cons m6 (all_cons m7 (all_cons m8 all_nil))))))))
  clear m1 m2 m3 m4 m5 m6 m7 m8
  have hC9 := codeHd_of X
  k_steps
  unfold Hold
  (rename News _ _ _ _ => N9)
  rw [show S [46] ++ Str.ofString "-" = S [46, 45] from by rw [l_dash, S_app]; rfl] at N9
  (rename Fr _ _ _ _ => F9)
  (rename @LT.lt Nat _ r _ ∧ @LT.lt Nat _ q _ ∧ @LT.lt Nat _ 71 _ ∧ AllLt _ rest => l9)
  refine gen_one (own := [_, _, _]) (T := T1) (P := 71) (c := 75) (ks := trKs) (y0 := S [46, 92, 45]) (L := L') (clos := []) F9 N9 T hC9 ?p1 h71 rfl rfl hTab (by exact trKs_gen) (by exact List.Mem.tail _ (List.Mem.head _)) hG rfl rfl ?cl ?cell rfl rfl rfl ?room (List.Mem.head _) ?hi ?helt ?ret ?hs
  case p1 =>
    refine List.forall_mem_cons.mpr ⟨?_, List.forall_mem_cons.mpr ⟨?_, List.forall_mem_cons.mpr ⟨?_, fun _ h => nomatch h⟩⟩⟩
    · exact Nat.ne_of_gt (Nat.lt_trans h71r l9.1)
    · exact Nat.ne_of_gt h71r
    · exact Nat.ne_of_gt (Nat.lt_trans h71r hrq)
  case cl => exact rfl
  case cell => decide
  case room => ktr_room
  case hi =>
    intro Q' E' hq'
    k_steps
    exact hq'
  case hs => exact fun _ => rfl
  case helt =>
    intro c' C' A' E' t m₂ hA' hD' hU' F' hm'
    iterate 2 walk1
    k_dflt (refine ldVarG F' hm' ?_)
    iterate 16 (first | walk1 | (dsimp only; walk1))
    exact ⟨⟨_, rfl⟩, ⟨_, _, rfl, fun _ _ e => e⟩⟩
  case ret =>
    intro a5 s5 T5 rest5 F5 G5 N5 hG5 ho5 X5
    obtain ⟨hp5, g5, d5, tk5, o5⟩ := s5
    dsimp only [List.cons_append, List.nil_append] at N5 X5
    k_steps
    k_dflt (refine' join_gen1 F5 hG5 N5 X5 (joinOk_of (by decide +kernel)) ?_)
    intro s6 t6 F6 N6 hG6 ho6
    obtain ⟨hp6, g6, d6, tk6, o6⟩ := s6
    k_steps
    (rename News _ _ _ _ => N9)
    exact ret _ _ _ _ _ (by k_asm) (cb_drop N9 (by walk_at "m sub")) G5.ok G5.sub (Grown.ne G5 h71 (List.Mem.tail _ (List.Mem.tail _ (List.Mem.tail _ (List.Mem.head _))))) (Grown.ne G5 hr (List.Mem.tail _ (List.Mem.head _))) (Grown.ne G5 hq (List.Mem.tail _ (List.Mem.tail _ (List.Mem.head _)))) hG6 (ho6.trans ho5) rfl rfl rfl rfl rfl rfl rfl rfl

end Mine
end
section
theorem Mine.begin_T5 : True := by
  w_top off
  k_with_none
  k_with "omega" => (first | with_reducible assumption | with_reducible exact Nat.le_trans (by assumption) (Nat.le_of_ble_eq_true rfl) | with_reducible exact Nat.le_refl _ | with_reducible exact Nat.ne_of_gt (by assumption) | with_reducible exact Nat.ne_of_lt (by assumption) | with_reducible exact Ne.symm (by assumption) | with_reducible exact Int.ofNat_lt.mpr (by assumption) | with_reducible exact Nat.lt_of_le_of_lt (Nat.le_add_right _ _) (by assumption))
  trivial
namespace Mine
theorem rules_T5_1 : True := by
  k_with "newList" => ((k_here; (first | (refine newList_K (F := by k_dflt (k_asm)) (N := by k_dflt (k_asm)) ?_ (hsz := by k_dflt (exact Nat.le_of_ble_eq_true rfl))) | (k_dflt (refine newList_K (F := by k_asm) (N := by k_asm) ?_ (hsz := by exact Nat.le_of_ble_eq_true rfl)))); intro _ _ _ _ l1qq; (try k_lt l1qq); (try k_sweep)))
  trivial
theorem rules_T5_2 : True := by
  k_with "m sub" => ((intro p hp; repeat (first | exact hp | refine List.mem_cons_of_mem _ ?_)))
  k_with "m news" => ((refine cb_drop (N := by k_asm) ?_; walk_at "m sub"))
  k_with "m lt" => (first | assumption | exact ktn_ltOf (by assumption) | (refine ktn_ltOf ?_; simp only [AllLt, and_true] at *; simp only [*]))
  k_with "compareOp In ref ref" => ((k_here; (first | (refine in_parts (hp := by k_dflt (assumption)) (hi := by k_dflt (assumption)) (N := by k_dflt (walk_at "m news")) (N' := by k_dflt (k_asm)) (hE := by k_dflt (k_mem)) (hlt := by k_dflt (walk_at "m lt")) (hu := by k_dflt (ktr_units)) (hb := by k_dflt (first | exact (show _ = true from (congrArg Option.isSome (by assumption)).trans rfl) | exact (show _ = false from (congrArg Option.isSome (by assumption)).trans rfl))) ?_; k_whole) | (k_dflt (refine in_parts (hp := by assumption) (hi := by assumption) (N := by walk_at "m news") (N' := by k_asm) (hE := by k_mem) (hlt := by walk_at "m lt") (hu := by ktr_units) (hb := by first | exact (show _ = true from (congrArg Option.isSome (by assumption)).trans rfl) | exact (show _ = false from (congrArg Option.isSome (by assumption)).trans rfl)) ?_; k_whole)))))
  k_with "call builtin:list.index" => ((k_here; (first | (refine index_parts (hp := by k_dflt (assumption)) (hi := by k_dflt (assumption)) (N := by k_dflt (walk_at "m news")) (N' := by k_dflt (k_asm)) (hE := by k_dflt (k_mem)) (hlt := by k_dflt (walk_at "m lt")) (hu := by k_dflt (ktr_units)) (hj := by k_dflt (assumption)) (hs := by k_dflt (omega)) ?_; k_whole) | (k_dflt (refine index_parts (hp := by assumption) (hi := by assumption) (N := by walk_at "m news") (N' := by k_asm) (hE := by k_mem) (hlt := by walk_at "m lt") (hu := by ktr_units) (hj := by assumption) (hs := by omega) ?_; k_whole)))))
  k_with "getMethod ref" => ((k_here; (with_reducible show wpAny _ _ (getMethod (Value.ref _) (PySem.Str.ofString "index") _) _ _ _); (first | (refine index_method (hm := by k_dflt (assumption)) (N := by k_dflt (walk_at "m news")) ?_) | (k_dflt (refine index_method (hm := by assumption) (N := by walk_at "m news") ?_)))))
  k_with "m list" => ((refine News.isList (N := by k_asm) (hm := by repeat (first | assumption | exact List.Mem.head _ | refine List.mem_cons_of_mem _ ?_))))
  k_with "m small" => (first | exact Nat.le_of_ble_eq_true rfl | (simp only [List.size_toArray, sizeLine_eq, Array.length_toList]; omega) | (simp only [List.size_toArray, List.length_append, List.length_take, List.length_drop, All2.length (by assumption : All2 _ _ _), sizeLine_eq, Array.length_toList]; omega))
  k_with "subscriptTail Name Slice ref ref" => ((k_here; (with_reducible show wpAny _ _ (subscriptTail _ (PySem.Expr.Slice _ _ none _) (Value.ref _) (Value.ref _)) _ _ _); (first | (refine kms_slice_lit (F := by k_dflt (k_asm)) (N := by k_dflt (k_asm)) (hl := by k_dflt (walk_at "m list")) (pl := by k_dflt (kmk_part)) (pu := by k_dflt (kmk_part)) (e := by k_dflt (first | exact pick_to _ _ | exact pick_from1 _ _ | exact pick_from _ _)) ?_ (hs := by k_dflt (with_unfolding_all rfl)) (ht := by k_dflt (kmk_pure)) (hz := by k_dflt (walk_at "m small")); k_whole) | (k_dflt (refine kms_slice_lit (F := by k_asm) (N := by k_asm) (hl := by walk_at "m list") (pl := by kmk_part) (pu := by kmk_part) (e := by first | exact pick_to _ _ | exact pick_from1 _ _ | exact pick_from _ _) ?_ (hs := by with_unfolding_all rfl) (ht := by kmk_pure) (hz := by walk_at "m small"); k_whole))); intro _ _ _ _ l1qq; (try k_lt l1qq); (try k_sweep)))
  k_with "binaryOp Add ref ref" => ((k_here; (with_reducible show wpAny _ _ (binaryOp _ (Value.ref _) (Value.ref _)) _ _ _); (first | (refine kmk_add_lit (F := by k_dflt (k_asm)) (N := by k_dflt (k_asm)) (ha := by k_dflt (walk_at "m list")) (hb := by k_dflt (walk_at "m list")) (e := by k_dflt (exact add_e _ _)) ?_ (hz := by k_dflt (walk_at "m small"))) | (k_dflt (refine kmk_add_lit (F := by k_asm) (N := by k_asm) (ha := by walk_at "m list") (hb := by walk_at "m list") (e := by exact add_e _ _) ?_ (hz := by walk_at "m small")))); intro _ _ _ _ l1qq; (try k_lt l1qq); (try k_sweep)))
  k_with "call builtin:len" => ((k_here; (with_reducible show wpAny _ _ (call (Value.builtin "len") [Value.ref _]) _ _ _); (first | (refine len_lst (hl := by k_dflt (walk_at "m list")) (e := by k_dflt (assumption)) (hn := by k_dflt (omega)) ?_) | (k_dflt (refine len_lst (hl := by walk_at "m list") (e := by assumption) (hn := by omega) ?_))); intro _ _))
  k_with "CompSrcT" => ((refine Hold.of ?_))
  k_with "m place" => (first | exact Int.zero_add _ | exact (rfl : (0 : Int) = ((0 : Nat) : Int)) | exact (rfl : (1 : Int) = ((1 : Nat) : Int)))
  k_with "subscriptTail Name Name str int" => ((k_here; (first | (refine item_S (hk := by k_dflt (walk_at "m place")) (hc := by k_dflt (assumption)) (hl := by k_dflt (first | assumption | omega)) ?_ (hs := by k_dflt (with_unfolding_all rfl)) (hg := by k_dflt (kmk_pure))) | (k_dflt (refine item_S (hk := by walk_at "m place") (hc := by assumption) (hl := by first | assumption | omega) ?_ (hs := by with_unfolding_all rfl) (hg := by kmk_pure)))); intro _ _))
  k_with "m item" => ((k_here; (with_reducible show wpAny _ _ (subscriptTail _ _ (Value.ref _) (Value.int _ _)) _ _ _); (first | (refine item_L (hl := by k_dflt (walk_at "m list")) (hk := by k_dflt (walk_at "m place")) (hx := by k_dflt (first | assumption | exact rfl)) (hz := by k_dflt (first | exact Nat.le_of_ble_eq_true rfl | omega)) ?_ (hs := by k_dflt (with_unfolding_all rfl)) (hg := by k_dflt (kmk_pure))) | (k_dflt (refine item_L (hl := by walk_at "m list") (hk := by walk_at "m place") (hx := by first | assumption | exact rfl) (hz := by first | exact Nat.le_of_ble_eq_true rfl | omega) ?_ (hs := by with_unfolding_all rfl) (hg := by kmk_pure))))))
  k_with "subscriptTail Name Name ref int" => (walk_at "m item")
  k_with "subscriptTail Subscript Constant ref int" => (walk_at "m item")
  k_with "compareOp In str str" => ((k_here; (first | (refine in_S ?_) | (k_dflt (refine in_S ?_)))))
  k_with "m mem" => (repeat (first | assumption | exact List.Mem.head _ | refine List.mem_cons_of_mem _ ?_))
  k_with "compareOp Eq ref ref" => ((k_here; (first | (refine eq_nil (N := by k_dflt (k_asm)) (hD := by k_dflt (walk_at "m mem")) (hE := by k_dflt (walk_at "m mem")) (hu := by k_dflt (ktr_units)) ?_) | (k_dflt (refine eq_nil (N := by k_asm) (hD := by walk_at "m mem") (hE := by walk_at "m mem") (hu := by ktr_units) ?_)))))
  k_with "compareOp Eq bool bool" => ((k_here; (first | (refine PyProof.Rows.eq_bool ?_) | (k_dflt (refine PyProof.Rows.eq_bool ?_)))))
  k_with "subscriptTail Name Constant ref int" => (walk_at "m item")
  k_with "call ref" => ((refine Hold.of ?_))
  k_with "getAttr ref true" => ((k_here; (with_reducible show wpAny _ _ (getAttr (Value.ref _) (PySem.Str.ofString "append") _) _ _ _); (first | (refine getAttr_bm (F := by k_dflt (k_asm)) (N := by k_dflt (k_asm)) (hD := by k_dflt (walk_at "m mem")) ?_) | (k_dflt (refine getAttr_bm (F := by k_asm) (N := by k_asm) (hD := by walk_at "m mem") ?_))); intro q' _ _ _ l1qq; (try k_lt l1qq); (try k_sweep)))
  k_with "callWith ref" => ((k_here; (first | (refine callWith_bm (by k_dflt (k_asm)) (by k_dflt (walk_at "m mem")) ?_) | (k_dflt (refine callWith_bm (by k_asm) (by walk_at "m mem") ?_)))))
  k_with "And" => ((k_dflt ((show Heap.get? _ _ = some (bmObj _ _) ∧ _); (refine And.intro (left := by (refine News.get (N := by k_asm) (hm := by walk_at "m mem"))) ?_)); (try dsimp only [List.nil_append, List.cons_append])))
  k_with "call ref" => ((k_here; (first | (refine call_bm (F := by k_dflt (k_asm)) (N := by k_dflt (k_asm)) (hq := by k_dflt (walk_at "m mem")) (U := by k_dflt (k_upd)) ?_ (hsz := by k_dflt (walk_at "m small"))) | (k_dflt (refine call_bm (F := by k_asm) (N := by k_asm) (hq := by walk_at "m mem") (U := by k_upd) ?_ (hsz := by walk_at "m small")))); intro _ _ _; (try k_sweep)))
  k_with "exec While" => ((refine Hold.of ?_))
  k_with "exec While Compare cons nil" => ((refine Hold.of ?_))
  k_with "m place" => (first | with_reducible exact (rfl : ((_ : Nat) : Int) = _) | with_reducible exact pl1 _ | with_reducible exact pl2 _ | with_reducible exact pl3 _ | with_reducible exact pl4 _ | exact (rfl : ((_ : Nat) : Int) = _) | exact pl1 _ | exact pl2 _ | exact pl3 _ | exact pl4 _)
  k_with "WhlIf" => ((first | (refine WhlIf.yes (h := by ((try simp only [decide_eq_true_eq, Bool.not_eq_true', decide_eq_false_iff_not, Bool.and_eq_true]); first | omega | assumption | rfl)) ?_) | (refine WhlIf.no (h := by ((try simp only [decide_eq_false_iff_not, Bool.not_eq_false']); first | omega | assumption | rfl)) ?_)))
  k_with "m perm" => ((refine cb_drop (N := by k_asm) ?_; repeat' (first | (refine List.forall_mem_cons.mpr (And.intro ?_ ?_)) | (walk_at "m mem"; done) | (walk_at "m sub"; done))))
  k_with "m lit" => (with_reducible first | exact l_star | exact l_qm | exact l_lb | exact l_rb | exact l_ex | exact l_dash | exact l_dot | exact l_hat | exact l_bs | exact l_bs2 | exact l_bsd | exact l_nil | exact l_dotstar | exact l_open | exact l_close | exact rfl)
  k_with "m same" => (first | rfl | ((try simp only [sg, decide_eq_true_eq, decide_eq_false_iff_not, Bool.not_eq_true', Bool.not_eq_false', Bool.not_true, Bool.not_false]); first | omega | assumption | (simp; done) | (simp; omega) | (simp [*]; done)))
  k_with "m sameF" => (first | (with_reducible exact hdF (by assumption)) | (with_reducible exact hdF (Ne.symm (by assumption))) | exact rfl)
  k_with "m nsameF" => (first | (with_reducible exact hdNT (by assumption)) | (with_reducible exact hdNT (Ne.symm (by assumption))) | exact rfl)
  k_with "compareOp Eq str str" => ((k_here; (first | (first | (refine eq_Sv false (hx := by k_dflt (walk_at "m lit")) (hy := by k_dflt (walk_at "m lit")) (hv := by k_dflt (walk_at "m sameF")) ?_) | (refine eq_Sv true (hx := by k_dflt (walk_at "m lit")) (hy := by k_dflt (walk_at "m lit")) (hv := by k_dflt (exact rfl)) ?_) | (refine eq_Sv true (hx := by k_dflt (walk_at "m lit")) (hy := by k_dflt (walk_at "m lit")) (hv := by k_dflt (walk_at "m same")) ?_) | (refine eq_Sv false (hx := by k_dflt (walk_at "m lit")) (hy := by k_dflt (walk_at "m lit")) (hv := by k_dflt (walk_at "m same")) ?_) | (refine eq_S (hx := by k_dflt (walk_at "m lit")) (hy := by k_dflt (walk_at "m lit")) ?_)) | (k_dflt (first | (refine eq_Sv false (hx := by walk_at "m lit") (hy := by walk_at "m lit") (hv := by walk_at "m sameF") ?_) | (refine eq_Sv true (hx := by walk_at "m lit") (hy := by walk_at "m lit") (hv := by exact rfl) ?_) | (refine eq_Sv true (hx := by walk_at "m lit") (hy := by walk_at "m lit") (hv := by walk_at "m same") ?_) | (refine eq_Sv false (hx := by walk_at "m lit") (hy := by walk_at "m lit") (hv := by walk_at "m same") ?_) | (refine eq_S (hx := by walk_at "m lit") (hy := by walk_at "m lit") ?_))))))
  k_with "compareOp NotEq str str" => ((k_here; (first | (first | (refine ne_Sv true (hx := by k_dflt (walk_at "m lit")) (hy := by k_dflt (walk_at "m lit")) (hv := by k_dflt (walk_at "m nsameF")) ?_) | (refine ne_Sv false (hx := by k_dflt (walk_at "m lit")) (hy := by k_dflt (walk_at "m lit")) (hv := by k_dflt (exact rfl)) ?_) | (refine ne_Sv true (hx := by k_dflt (walk_at "m lit")) (hy := by k_dflt (walk_at "m lit")) (hv := by k_dflt (walk_at "m same")) ?_) | (refine ne_Sv false (hx := by k_dflt (walk_at "m lit")) (hy := by k_dflt (walk_at "m lit")) (hv := by k_dflt (walk_at "m same")) ?_) | (refine ne_S (hx := by k_dflt (walk_at "m lit")) (hy := by k_dflt (walk_at "m lit")) ?_)) | (k_dflt (first | (refine ne_Sv true (hx := by walk_at "m lit") (hy := by walk_at "m lit") (hv := by walk_at "m nsameF") ?_) | (refine ne_Sv false (hx := by walk_at "m lit") (hy := by walk_at "m lit") (hv := by exact rfl) ?_) | (refine ne_Sv true (hx := by walk_at "m lit") (hy := by walk_at "m lit") (hv := by walk_at "m same") ?_) | (refine ne_Sv false (hx := by walk_at "m lit") (hy := by walk_at "m lit") (hv := by walk_at "m same") ?_) | (refine ne_S (hx := by walk_at "m lit") (hy := by walk_at "m lit") ?_))))))
  k_with "WhlRest" => (((with_reducible show WhlRest _ _ _ _ _ _ _ _ _ 0 _); refine Hold.of ?_))
  k_with "m gives" => (skip)
  k_with "call ref" => ((k_here; (first | (refine gives_use (escape_gives _ _ _ _ _ _) (B := by k_dflt (k_asm)) (F := by k_dflt (k_asm)) (X := by k_dflt (k_asm)) (N := by k_dflt (k_asm)) (T := by k_dflt (k_asm)) (hk := by k_dflt (exact rfl)) trivial (hd := by k_dflt (ktr_room)) (hu := by k_dflt (ktr_units)) ?_) | (k_dflt (refine gives_use (escape_gives _ _ _ _ _ _) (B := by k_asm) (F := by k_asm) (X := by k_asm) (N := by k_asm) (T := by k_asm) (hk := by exact rfl) trivial (hd := by ktr_room) (hu := by ktr_units) ?_))); intro r' n' _ _ _ _ P'; obtain ⟨e1', tqq, e2'⟩ := P'; subst e1'; subst e2'; (try dsimp only); (try k_sweep); (try k_fold)))
  k_with "m bmget" => (((with_reducible show Heap.get? _ _ = some (bmObj _ _)); refine News.get (N := by k_asm) (hm := by walk_at "m mem")))
  k_with "truthy ref" => ((k_here; (first | (first | (refine truthy_L (b := true) (hl := by k_dflt (walk_at "m list")) (hz := by k_dflt (walk_at "m short")) (hb := by k_dflt (first | rfl | (simp; done))) ?_) | (refine truthy_L (b := false) (hl := by k_dflt (walk_at "m list")) (hz := by k_dflt (walk_at "m short")) (hb := by k_dflt (first | rfl | (simp; done))) ?_)) | (k_dflt (first | (refine truthy_L (b := true) (hl := by walk_at "m list") (hz := by walk_at "m short") (hb := by first | rfl | (simp; done)) ?_) | (refine truthy_L (b := false) (hl := by walk_at "m list") (hz := by walk_at "m short") (hb := by first | rfl | (simp; done)) ?_)))); intro _))
  k_with "m short" => (first | omega | (simp; done) | (simp at *; omega))
  k_with "subscriptTail Name UnaryOp ref int" => ((k_here; (first | (refine item_last (hl := by k_dflt (walk_at "m list")) (hz := by k_dflt (walk_at "m short")) ?_ (hs := by k_dflt (with_unfolding_all rfl)) (hg := by k_dflt (kmk_pure))) | (k_dflt (refine item_last (hl := by walk_at "m list") (hz := by walk_at "m short") ?_ (hs := by with_unfolding_all rfl) (hg := by kmk_pure))))))
  k_with "compareOp IsNot str ref" => ((k_here; (first | (refine isnot_str_ref ?_) | (k_dflt (refine isnot_str_ref ?_)))))
  k_with "exec While BoolOp cons nil" => ((refine whl_start 4 ?_))
  k_with "execs cons" => ((k_here; refine keep_toks (hX := by with_reducible exact Nat.succ_ne_zero _) ?_; intro tk htk))
  k_with "compareOp NotIn str str" => ((k_here; (first | (first | (refine notin_Sv true (hx := by k_dflt (walk_at "m lit")) (hz := by k_dflt (walk_at "m lit")) (hv := by k_dflt (walk_at "m same")) ?_) | (refine notin_Sv false (hx := by k_dflt (walk_at "m lit")) (hz := by k_dflt (walk_at "m lit")) (hv := by k_dflt (walk_at "m same")) ?_)) | (k_dflt (first | (refine notin_Sv true (hx := by walk_at "m lit") (hz := by walk_at "m lit") (hv := by walk_at "m same") ?_) | (refine notin_Sv false (hx := by walk_at "m lit") (hz := by walk_at "m lit") (hv := by walk_at "m same") ?_))))))
  k_with "call builtin:str.replace" => ((k_here; (first | (first | (refine replace_no (hx := by k_dflt (walk_at "m lit")) (hy := by k_dflt (walk_at "m lit")) (hc := by k_dflt ((simp; first | done | omega))) ?_) | (refine replace_yes (hx := by k_dflt (walk_at "m lit")) (hy := by k_dflt (walk_at "m lit")) (hz := by k_dflt (walk_at "m lit")) (hu := by k_dflt (first | exact NZ.ne (by assumption) | exact Nat.succ_ne_zero _)) (hv := by k_dflt (exact Nat.succ_ne_zero _)) (huv := by k_dflt (exact Nat.ne_of_lt (Nat.lt_succ_self _))) (hyz := by k_dflt (rfl)) (hl := by k_dflt ((simp; done))) (hzz := by k_dflt (decide)) (hr := by k_dflt (first | assumption | exact rfl)) ?_; intro _ _)) | (k_dflt (first | (refine replace_no (hx := by walk_at "m lit") (hy := by walk_at "m lit") (hc := by (simp; first | done | omega)) ?_) | (refine replace_yes (hx := by walk_at "m lit") (hy := by walk_at "m lit") (hz := by walk_at "m lit") (hu := by first | exact NZ.ne (by assumption) | exact Nat.succ_ne_zero _) (hv := by exact Nat.succ_ne_zero _) (huv := by exact Nat.ne_of_lt (Nat.lt_succ_self _)) (hyz := by rfl) (hl := by (simp; done)) (hzz := by decide) (hr := by first | assumption | exact rfl) ?_; intro _ _))))))
  k_with "subscriptTail Name Slice str ref" => (((with_reducible show wpAny _ _ (subscriptTail _ (PySem.Expr.Slice (some _) (some _) none _) _ _) _ _ _); (with_reducible rename Fr _ _ _ _ => Fqq); (with_reducible rename News _ _ _ _ => Nqq); (refine slice_strN_ss (hsz := (by size_fits)) (s := ⟨_, _, _, _, _⟩) Fqq Nqq ?_); intro _ _ _ _ _; (rename Txt.slice _ (some _) (some _) = _ => hsl9qq; rw [hsl9qq])))
  k_with "subscriptTail Name Slice str ref" => (((with_reducible show wpAny _ _ (subscriptTail _ (PySem.Expr.Slice (some _) none none _) _ _) _ _ _); (with_reducible rename Fr _ _ _ _ => Fqq); (with_reducible rename News _ _ _ _ => Nqq); (refine slice_strN_sn (hsz := (by size_fits)) (s := ⟨_, _, _, _, _⟩) Fqq Nqq ?_); intro _ _ _ _ _; rw [S_tail]))
  k_with "getMethod ref" => ((k_here; (with_reducible show wpAny _ _ (getMethod (Value.ref _) (PySem.Str.ofString "sub") _) _ _ _); (first | (refine getMethod_sub' (h50 := by k_dflt (exact pat_at (by assumption) (by assumption))) ?_) | (k_dflt (refine getMethod_sub' (h50 := by exact pat_at (by assumption) (by assumption)) ?_)))))
  k_with "call builtin:re.Pattern.sub" => ((k_here; (first | (refine sub_rule _ _ _ _ (B := by k_dflt (k_asm)) (F := by k_dflt (k_asm)) (X := by k_dflt (k_asm)) (N := by k_dflt (k_asm)) (T := by k_dflt (k_asm)) (hk := by k_dflt (exact rfl)) (hdd := by k_dflt (ktr_room)) (hu := by k_dflt (ktr_units)) (hf := by k_dflt (walk_at "m mem")) (hc := by k_dflt (exact codes_up (by assumption) (by walk_at "m sub"))) (hs := by k_dflt (k_asm)) ?_) | (k_dflt (refine sub_rule _ _ _ _ (B := by k_asm) (F := by k_asm) (X := by k_asm) (N := by k_asm) (T := by k_asm) (hk := by exact rfl) (hdd := by ktr_room) (hu := by ktr_units) (hf := by walk_at "m mem") (hc := by exact codes_up (by assumption) (by walk_at "m sub")) (hs := by k_asm) ?_))); intro _ _ _ _ _; (try dsimp only); (try k_sweep)))
  k_with "eval Lambda" => ((k_here; (first | (refine kla_eval (hdef := by k_dflt (exact rfl)) ?_) | (k_dflt (refine kla_eval (hdef := by exact rfl) ?_))); k_dflt (refine lam_new (own := [_, _]) (P := 71) (ks := trKs) (F := by k_asm) (N := by k_asm) (Tp := by k_asm) (C := by k_asm) (hcd := by exact rfl) (hP1 := by k_all) (hP2 := by k_asm) (H := by k_asm) (hk := by exact trKs_lam) (hkm := by exact List.Mem.head _) (hcl := by exact rfl) ?_); intro f' c' ct' _ _ _ rest' _ G' C' Nqq l1qq l2 l3; (dsimp only [List.cons_append, List.nil_append] at Nqq); (have hz1 := Grown.ne G' (by assumption) (List.Mem.head _)); (have hz2 := Grown.ne G' (by assumption) (List.Mem.tail _ (List.Mem.head _))); (have hz3 := Grown.ne G' (by assumption) (List.Mem.tail _ (List.Mem.tail _ (List.Mem.head _)))); (have hz4 : @LT.lt Nat _ _ _ := l1qq _ (List.Mem.head _)); (have hz5 : @LT.lt Nat _ _ _ := l1qq _ (List.Mem.tail _ (List.Mem.head _))); (have hz6 := Grown.ok G'); dsimp only at hz1 hz2 hz3 hz4 hz5))
  k_with "truthy str" => ((k_here; (first | (refine truthy_S (hl := by k_dflt (first | (with_reducible assumption) | omega | decide | (simp; done) | (simp; omega))) ?_) | (k_dflt (refine truthy_S (hl := by first | (with_reducible assumption) | omega | decide | (simp; done) | (simp; omega)) ?_))); intro _))
  k_with "compareOp In str ref" => ((k_here; (first | (first | (refine in_two false (N := by k_dflt (k_asm)) (hD := by k_dflt (walk_at "m mem")) (hx := by k_dflt (walk_at "m lit")) (hy := by k_dflt (walk_at "m lit")) (hz := by k_dflt (walk_at "m lit")) (hv := by k_dflt ((simp; first | done | omega))) ?_) | (refine in_two true (N := by k_dflt (k_asm)) (hD := by k_dflt (walk_at "m mem")) (hx := by k_dflt (walk_at "m lit")) (hy := by k_dflt (walk_at "m lit")) (hz := by k_dflt (walk_at "m lit")) (hv := by k_dflt ((simp; first | done | omega))) ?_)) | (k_dflt (first | (refine in_two false (N := by k_asm) (hD := by walk_at "m mem") (hx := by walk_at "m lit") (hy := by walk_at "m lit") (hz := by walk_at "m lit") (hv := by (simp; first | done | omega)) ?_) | (refine in_two true (N := by k_asm) (hD := by walk_at "m mem") (hx := by walk_at "m lit") (hy := by walk_at "m lit") (hz := by walk_at "m lit") (hv := by (simp; first | done | omega)) ?_))))))
  k_with "subscriptTail Name Constant str int" => ((k_here; (first | (refine item_S (k := 0) (hk := by k_dflt (exact rfl)) (hc := by k_dflt (exact rfl)) (hl := by k_dflt (first | (simp; done) | (simp; omega))) ?_ (hs := by k_dflt (with_unfolding_all rfl)) (hg := by k_dflt (kmk_pure))) | (k_dflt (refine item_S (k := 0) (hk := by exact rfl) (hc := by exact rfl) (hl := by first | (simp; done) | (simp; omega)) ?_ (hs := by with_unfolding_all rfl) (hg := by kmk_pure)))); intro _ _))
  k_with "binaryOp Add str str" => ((k_here; (first | (refine add_hat (hx := by k_dflt (exact l_hat)) (hl := by k_dflt (omega)) ?_) | (k_dflt (refine add_hat (hx := by exact l_hat) (hl := by omega) ?_))); intro _ _))
  k_with "exec If" => (refine wpAny_If ?_)
  k_with "m fsize" => (((with_reducible show Str.length _ ≤ sizeLine); (simp only [l_lb, l_rb, l_nil0, S_app, S_len, sizeLine_eq, List.length_append, List.length_cons, List.length_nil]); omega))
  k_with "exec While BoolOp cons nil" => ((refine Hold.of ?_))
  k_with "WhlRest" => ((((first | (refine whl_turn (hE := by k_dflt (assumption)) ?_) | (k_dflt (refine whl_turn (hE := by assumption) ?_)))); (try k_sweep)))
  k_with "WhlRest" => (((with_reducible show WhlRest _ _ _ _ _ _ _ _ _ 0 _); refine Hold.of ?_))
  trivial
noncomputable def brkStmts (K : Frag) : List Stmt := thn (nth 0 (els (nth 0 (els (nth 2 (thn (nth 3 (bodyAt K 76))))))))
noncomputable def scanStmts (K : Frag) : List Stmt := (brkStmts K).drop 3
noncomputable def turnStmts (K : Frag) : List Stmt := thn (nth 3 (bodyAt K 76))
noncomputable def AtSet : Prop := True
theorem hold_at {P : Prop} (h : Hold P) (_f : AtSet) : P := h
theorem rules_T5_3 : True := by
  k_with "execs cons" => (((with_reducible show wpAny _ _ (execs (Stmt.Assign [PySem.Expr.Name (Str.ofString "stuff") _] (PySem.Expr.Subscript _ _ _) _ :: _) _) _ _ _); refine Hold.of ?_))
  k_with "execs cons" => (((with_reducible show wpAny _ _ (execs (Stmt.Assign [PySem.Expr.Name (Str.ofString "j") _] (PySem.Expr.Name (Str.ofString "i") _) _ :: _) _) _ _ _); refine hold_at ?_ (by assumption)))
  k_with "execs cons" => (((with_reducible show wpAny _ _ (execs (Stmt.While _ _ _ _ :: _) _) _ _ _); refine Hold.of ?_))
  trivial
structure ScInv (l : List Nat) (v2 v3 v4 v5 : Value) (tp ti tn : Tok) (p J : Nat) (news0 : Led) (s₀ : Shared) (n : Nat) (m : Str → Option Value) (news : Led) (s : Shared) : Prop where
  more : ∃ j tj, j ≤ J ∧ n = J - j ∧ news = news0 ∧ (∀ i, j ≤ i → i < J → ∃ c, l[i]? = some c ∧ c ≠ 93) ∧ m "pat" = some (.str (S l) tp) ∧ m "STAR" = some v2 ∧ m "QUESTION_MARK" = some v3 ∧ m "res" = some v4 ∧ m "add" = some v5 ∧ m "i" = some (.int ((p : Nat) : Int) ti) ∧ m "n" = some (.int ((l.length : Nat) : Int) tn) ∧ m "j" = some (.int ((j : Nat) : Int) tj)
  gens : s.gens = s₀.gens
  drawn : s.drawn = s₀.drawn
  os : s.os = s₀.os
theorem at_lt {l : List Nat} {i c : Nat} (h : l[i]? = some c) : i < l.length := by
  rcases Nat.lt_or_ge i l.length with q | q
  · exact q
  · rw [List.getElem?_eq_none q] at h; cases h
theorem sub_less {J j n : Nat} (hn : n = J - j) (h : j < J) : J - (j + 1) < n := by omega
theorem scan_loop (w : World) (mean : ExcName → Option Value) (mg mb : Str → Option Value) {dp un : Nat} {gd : Option (List Code)} {cn : Str} {cs : Scope} {L a : Addr} {ccd : Value} {cl : List (Str × Addr)} {outer : List Env} {base g : Heap} {L' : Addr} {m : Str → Option Value} {s : Shared} {Q : Flow → Shared → Prop} {E : Value → Shared → Prop}
    {news : Led} {l : List Nat} {v2 v3 v4 v5 : Value} {tp ti tn tj : Tok} {p j J : Nat}
    (B : Below (ktrTop dp un gd cn cs L a ccd cl outer) base (envX cn cs L a ccd cl :: outer) g) (F : Fr g L' s.heap m) (X1 : Frag.In (hd.heap_39 w.params) g) (T : Top topProg LooseL mean mg mb g)
    (N : News g L' s.heap news) (hd0 : dp + 20 < recursionLimit) (hu : un + 200 < cLine) (hl : l.length ≤ 1000) (hJ : l[J]? = some 93) (hj : j ≤ J) (hno : ∀ i, j ≤ i → i < J → ∃ c, l[i]? = some c ∧ c ≠ 93)
    (hE : PassesOwn (model PySem.Challenge.rw_ij0088_01.row.prog w) ((ktrTop dp un gd cn cs L a ccd cl outer).deeper (envOf (Str.ofString "_translate") (scAt (_root_.Mine.hd.heap_39 w.params) 76) L' 76 (.ref 75))) (envOf (Str.ofString "_translate") (scAt (_root_.Mine.hd.heap_39 w.params) 76) L' 76 (.ref 75)) E)
    (m1 : m "pat" = some (.str (S l) tp)) (m2 : m "STAR" = some v2) (m3 : m "QUESTION_MARK" = some v3) (m4 : m "res" = some v4) (m5 : m "add" = some v5) (m6 : m "i" = some (.int ((p : Nat) : Int) ti)) (m7 : m "n" = some (.int ((l.length : Nat) : Int) tn)) (m8 : m "j" = some (.int ((j : Nat) : Int) tj))
    (ret : ∀ h' tk' m' ti' tj', Fr g L' h' m' → News g L' h' news → m' "pat" = some (.str (S l) tp) → m' "STAR" = some v2 → m' "QUESTION_MARK" = some v3 → m' "res" = some v4 → m' "add" = some v5 → m' "i" = some (.int ((p : Nat) : Int) ti') → m' "n" = some (.int ((l.length : Nat) : Int) tn) → m' "j" = some (.int ((J : Nat) : Int) tj') →
      wpAny (model PySem.Challenge.rw_ij0088_01.row.prog w) ((ktrTop dp un gd cn cs L a ccd cl outer).deeper (envOf (Str.ofString "_translate") (scAt (_root_.Mine.hd.heap_39 w.params) 76) L' 76 (.ref 75))) (execs (setStmts (_root_.Mine.hd.heap_39 w.params)) (envOf (Str.ofString "_translate") (scAt (_root_.Mine.hd.heap_39 w.params) 76) L' 76 (.ref 75))) Q E { s with heap := h', toks := tk' }) :
    wpAny (model PySem.Challenge.rw_ij0088_01.row.prog w) ((ktrTop dp un gd cn cs L a ccd cl outer).deeper (envOf (Str.ofString "_translate") (scAt (_root_.Mine.hd.heap_39 w.params) 76) L' 76 (.ref 75))) (execs (scanStmts (_root_.Mine.hd.heap_39 w.params)) (envOf (Str.ofString "_translate") (scAt (_root_.Mine.hd.heap_39 w.params) 76) L' 76 (.ref 75))) Q E s := by
  k_fill
  generalize hsc : scAt (_root_.Mine.hd.heap_39 w.params) 76 = sc at hE ret ⊢
  conv at hsc => lhs; whnf
  subst hsc
  have hst : scanStmts (_root_.Mine.hd.heap_39 w.params) = scanStmts (_root_.Mine.hd.heap_39 w.params) := rfl
  conv at hst => rhs; whnf
  rw [hst]
  obtain ⟨hp1, g1, d1, tk1, o1⟩ := s
  have hJl := at_lt hJ
  refine wpAny_execs_cons ?_
  k_steps
  unfold Hold
  refine whl_start 0 (whl_loop (ScInv l v2 v3 v4 v5 tp ti tn p J news ⟨hp1, g1, d1, tk1, o1⟩) (J - j) F (news₀ := news) N ⟨⟨j, tj, hj, rfl, rfl, hno, m1, m2, m3, m4, m5, m6, m7, m8⟩, rfl, rfl, rfl⟩ ?_)
  intro n next m9 news9 s9 hI F1 N1
  clear m1 m2 m3 m4 m5 m6 m7 m8 hno hj F N
  obtain ⟨⟨j, tj, hj, e2, rfl, hno, m1, m2, m3, m4, m5, m6, m7, m8⟩, hg1, hd1, ho1⟩ := hI
  obtain ⟨hp2, g2, d2, tk2, o2⟩ := s9
  dsimp only at hg1 hd1 ho1
  subst hg1 hd1 ho1
  have F2 := fr_canon [("pat", _), ("STAR", _), ("QUESTION_MARK", _), ("res", _), ("add", _), ("i", _), ("n", _), ("j", _)] F1 (all_cons m1 (all_cons m2 (all_cons m3 (all_cons m4 (all_cons m5 (all_cons m6 (all_cons m7 (all_cons m8 all_nil))))))))
  clear F1
  have hj9 : j < l.length := Nat.lt_of_le_of_lt hj hJl
  rcases Nat.lt_or_ge j J with q | q
  · obtain ⟨c, hc, k93⟩ := hno j (Nat.le_refl _) q
    clear ret
    k_steps
    unfold Hold
    exact next (J - (j + 1)) _ _ _ (sub_less e2 q) ⟨⟨j + 1, _, q, rfl, rfl, fun i h1 h2 => hno i (Nat.le_of_succ_le h1) h2, rfl, rfl, rfl, rfl, rfl, rfl, rfl, rfl⟩, rfl, rfl, rfl⟩ (by k_asm) (by k_asm)
  · have hjJ : j = J := Nat.le_antisymm hj q
    subst hjJ
    clear next hno e2
    k_steps
    all_goals (try (exfalso; omega))
    unfold Hold
    refine wpAny_mono (ret _ _ _ ti tj F2 N1 rfl rfl rfl rfl rfl rfl rfl rfl) (fun f s' h => ?_) fun _ _ h => h
    cases f <;> (repeat (first | exact h | refine wpAny_execs_nil ?_))
theorem brk_head (w : World) (mean : ExcName → Option Value) (mg mb : Str → Option Value) {dp un : Nat} {gd : Option (List Code)} {cn : Str} {cs : Scope} {L a : Addr} {ccd : Value} {cl : List (Str × Addr)} {outer : List Env} {base g : Heap} {L' : Addr} {m : Str → Option Value} {s : Shared} {Q : Flow → Shared → Prop} {E : Value → Shared → Prop}
    {news : Led} {l : List Nat} {v2 v3 v4 v5 : Value} {tp ti tn : Tok} {p q j1 j2 J : Nat}
    (B : Below (ktrTop dp un gd cn cs L a ccd cl outer) base (envX cn cs L a ccd cl :: outer) g) (F : Fr g L' s.heap m) (X1 : Frag.In (hd.heap_39 w.params) g) (T : Top topProg LooseL mean mg mb g)
    (N : News g L' s.heap news) (hd0 : dp + 20 < recursionLimit) (hu : un + 200 < cLine) (hl : l.length ≤ 1000) (h0 : l[p]? = some 91) (hq : q = p + 1) (c1 : (l[q]? = some 33 ∧ j1 = q + 1) ∨ (∃ x, l[q]? = some x ∧ x ≠ 33 ∧ j1 = q)) (c2 : (l[j1]? = some 93 ∧ j2 = j1 + 1) ∨ (∃ x, l[j1]? = some x ∧ x ≠ 93 ∧ j2 = j1)) (hJ : l[J]? = some 93) (hj : j2 ≤ J) (hno : ∀ i, j2 ≤ i → i < J → ∃ c, l[i]? = some c ∧ c ≠ 93)
    (hE : PassesOwn (model PySem.Challenge.rw_ij0088_01.row.prog w) ((ktrTop dp un gd cn cs L a ccd cl outer).deeper (envOf (Str.ofString "_translate") (scAt (_root_.Mine.hd.heap_39 w.params) 76) L' 76 (.ref 75))) (envOf (Str.ofString "_translate") (scAt (_root_.Mine.hd.heap_39 w.params) 76) L' 76 (.ref 75)) E)
    (m1 : m "pat" = some (.str (S l) tp)) (m2 : m "STAR" = some v2) (m3 : m "QUESTION_MARK" = some v3) (m4 : m "res" = some v4) (m5 : m "add" = some v5) (m6 : m "i" = some (.int ((p : Nat) : Int) ti)) (m7 : m "n" = some (.int ((l.length : Nat) : Int) tn))
    (ret : ∀ h' tk' m' ti' tj', Fr g L' h' m' → News g L' h' news → m' "pat" = some (.str (S l) tp) → m' "STAR" = some v2 → m' "QUESTION_MARK" = some v3 → m' "res" = some v4 → m' "add" = some v5 → m' "i" = some (.int ((q : Nat) : Int) ti') → m' "n" = some (.int ((l.length : Nat) : Int) tn) → m' "j" = some (.int ((J : Nat) : Int) tj') →
      wpAny (model PySem.Challenge.rw_ij0088_01.row.prog w) ((ktrTop dp un gd cn cs L a ccd cl outer).deeper (envOf (Str.ofString "_translate") (scAt (_root_.Mine.hd.heap_39 w.params) 76) L' 76 (.ref 75))) (execs (setStmts (_root_.Mine.hd.heap_39 w.params)) (envOf (Str.ofString "_translate") (scAt (_root_.Mine.hd.heap_39 w.params) 76) L' 76 (.ref 75))) Q E { s with heap := h', toks := tk' }) :
    wpAny (model PySem.Challenge.rw_ij0088_01.row.prog w) ((ktrTop dp un gd cn cs L a ccd cl outer).deeper (envOf (Str.ofString "_translate") (scAt (_root_.Mine.hd.heap_39 w.params) 76) L' 76 (.ref 75))) (execs (turnStmts (_root_.Mine.hd.heap_39 w.params)) (envOf (Str.ofString "_translate") (scAt (_root_.Mine.hd.heap_39 w.params) 76) L' 76 (.ref 75))) Q E s := by
  k_fill
  generalize hsc : scAt (_root_.Mine.hd.heap_39 w.params) 76 = sc at hE ret ⊢
  conv at hsc => lhs; whnf
  subst hsc
  have hst : turnStmts (_root_.Mine.hd.heap_39 w.params) = turnStmts (_root_.Mine.hd.heap_39 w.params) := rfl
  conv at hst => rhs; whnf
  rw [hst]
  obtain ⟨hp1, g1, d1, tk1, o1⟩ := s
  have F2 := fr_canon [("pat", _), ("STAR", _), ("QUESTION_MARK", _), ("res", _), ("add", _), ("i", _), ("n", _)] F (all_cons m1 (all_cons m2 (all_cons m3 (all_cons m4 (all_cons m5 (all_cons m6 (all_cons m7 all_nil)))))))
  clear F m1 m2 m3 m4 m5 m6 m7
  have fl : AtSet := trivial
  have hp9 := at_lt h0
  k_steps
  unfold Hold
  clear fl
  rcases c1 with ⟨h1, rfl⟩ | ⟨x, h1, k33, rfl⟩
  · have hq9 := at_lt h1
    subst hq
    rcases c2 with ⟨h2, rfl⟩ | ⟨y, h2, k93, rfl⟩
    · have hj9 := at_lt h2
      k_steps
      unfold Hold
      (rename Fr _ _ _ _ => F9)
      (rename News _ _ _ _ => N9)
      refine scan_loop w mean mg mb (by exact B) (by exact F9) (by exact X1) (by exact T) (by exact N9) hd0 hu hl hJ hj hno (by first | passes_own | with_unfolding_all passes_own) (by exact rfl) (by exact rfl) (by exact rfl) (by exact rfl) (by exact rfl) (by exact rfl) (by exact rfl) (by exact rfl) ?_
      intro h' tk' m' ti' tj' F' N' q1 q2 q3 q4 q5 q6 q7 q8
      refine wpAny_mono (ret _ _ _ ti' tj' F' N' q1 q2 q3 q4 q5 q6 q7 q8) (fun f s' h => ?_) fun _ _ h => h
      cases f <;> (repeat (first | exact h | refine wpAny_execs_nil ?_))
    · have hj9 := at_lt h2
      k_steps
      unfold Hold
      (rename Fr _ _ _ _ => F9)
      (rename News _ _ _ _ => N9)
      refine scan_loop w mean mg mb (by exact B) (by exact F9) (by exact X1) (by exact T) (by exact N9) hd0 hu hl hJ hj hno (by first | passes_own | with_unfolding_all passes_own) (by exact rfl) (by exact rfl) (by exact rfl) (by exact rfl) (by exact rfl) (by exact rfl) (by exact rfl) (by exact rfl) ?_
      intro h' tk' m' ti' tj' F' N' q1 q2 q3 q4 q5 q6 q7 q8
      refine wpAny_mono (ret _ _ _ ti' tj' F' N' q1 q2 q3 q4 q5 q6 q7 q8) (fun f s' h => ?_) fun _ _ h => h
      cases f <;> (repeat (first | exact h | refine wpAny_execs_nil ?_))
  · have hq9 := at_lt h1
    subst hq
    rcases c2 with ⟨h2, rfl⟩ | ⟨y, h2, k93, rfl⟩
    · cases Option.some.inj (h1.symm.trans h2)
      k_steps
      unfold Hold
      (rename Fr _ _ _ _ => F9)
      (rename News _ _ _ _ => N9)
      refine scan_loop w mean mg mb (by exact B) (by exact F9) (by exact X1) (by exact T) (by exact N9) hd0 hu hl hJ hj hno (by first | passes_own | with_unfolding_all passes_own) (by exact rfl) (by exact rfl) (by exact rfl) (by exact rfl) (by exact rfl) (by exact rfl) (by exact rfl) (by exact rfl) ?_
      intro h' tk' m' ti' tj' F' N' q1 q2 q3 q4 q5 q6 q7 q8
      refine wpAny_mono (ret _ _ _ ti' tj' F' N' q1 q2 q3 q4 q5 q6 q7 q8) (fun f s' h => ?_) fun _ _ h => h
      cases f <;> (repeat (first | exact h | refine wpAny_execs_nil ?_))
    · cases Option.some.inj (h1.symm.trans h2)
      clear h2
      k_steps
      unfold Hold
      (rename Fr _ _ _ _ => F9)
      (rename News _ _ _ _ => N9)
      refine scan_loop w mean mg mb (by exact B) (by exact F9) (by exact X1) (by exact T) (by exact N9) hd0 hu hl hJ hj hno (by first | passes_own | with_unfolding_all passes_own) (by exact rfl) (by exact rfl) (by exact rfl) (by exact rfl) (by exact rfl) (by exact rfl) (by exact rfl) (by exact rfl) ?_
      intro h' tk' m' ti' tj' F' N' q1 q2 q3 q4 q5 q6 q7 q8
      refine wpAny_mono (ret _ _ _ ti' tj' F' N' q1 q2 q3 q4 q5 q6 q7 q8) (fun f s' h => ?_) fun _ _ h => h
      cases f <;> (repeat (first | exact h | refine wpAny_execs_nil ?_))
theorem no0 {l : List Nat} {i : Nat} : ∀ k, i ≤ k → k < i → ∃ c, l[k]? = some c ∧ c ≠ 93 := fun _ h1 h2 => absurd h2 (Nat.not_lt.mpr h1)
theorem no1 {l : List Nat} {i c : Nat} (h : l[i]? = some c) (hc : c ≠ 93) : ∀ k, i ≤ k → k < i + 1 → ∃ c, l[k]? = some c ∧ c ≠ 93 := fun k h1 h2 => by
  cases Nat.le_antisymm (Nat.le_of_lt_succ h2) h1
  exact ⟨c, h, hc⟩
theorem no2 {l : List Nat} {i c d : Nat} (h : l[i]? = some c) (hc : c ≠ 93) (h' : l[i + 1]? = some d) (hd : d ≠ 93) : ∀ k, i ≤ k → k < i + 1 + 1 → ∃ c, l[k]? = some c ∧ c ≠ 93 := fun k h1 h2 => by
  rcases Nat.lt_or_ge k (i + 1) with q | q
  · exact no1 h hc k h1 q
  · exact no1 h' hd k q h2
theorem get_at (pre x post : List Nat) (k : Nat) {v : Option Nat} (h : k < x.length) (hv : x[k]? = v) : (pre ++ (x ++ post))[pre.length + k]? = v := by
  rw [List.getElem?_append_right (Nat.le_add_right _ _), Nat.add_sub_cancel_left, List.getElem?_append_left h, hv]
theorem rules_T5_4 : True := by
  k_with "call builtin:str.replace" => ((k_here; (first | (refine replace_yes (hx := by k_dflt (walk_at "m lit")) (hy := by k_dflt (walk_at "m lit")) (hz := by k_dflt (walk_at "m lit")) (hu := by k_dflt (first | exact NZ.ne (by assumption) | exact Nat.succ_ne_zero _)) (hv := by k_dflt (exact Nat.succ_ne_zero _)) (huv := by k_dflt (exact Nat.ne_of_lt (Nat.lt_succ_self _))) (hyz := by k_dflt (rfl)) (hl := by k_dflt (assumption)) (hzz := by k_dflt (decide)) (hr := by k_dflt (assumption)) ?_) | (k_dflt (refine replace_yes (hx := by walk_at "m lit") (hy := by walk_at "m lit") (hz := by walk_at "m lit") (hu := by first | exact NZ.ne (by assumption) | exact Nat.succ_ne_zero _) (hv := by exact Nat.succ_ne_zero _) (huv := by exact Nat.ne_of_lt (Nat.lt_succ_self _)) (hyz := by rfl) (hl := by assumption) (hzz := by decide) (hr := by assumption) ?_))); intro _ _))
  k_with "execs cons" => (((with_reducible show wpAny _ _ (execs (Stmt.Assign [PySem.Expr.Name (Str.ofString "stuff") _] (PySem.Expr.Call (PySem.Expr.Attribute (PySem.Expr.Name (Str.ofString "_twin_re_1") _) _ _) _ _ _) _ :: _) _) _ _ _); refine Hold.of ?_))
  trivial
noncomputable def InSet : Prop := True
theorem hold_in {P : Prop} (h : P) (_f : InSet) : P := h
theorem rules_T5_5 : True := by
  k_with "execs cons" => (((with_reducible show wpAny _ _ (execs (Stmt.Assign [PySem.Expr.Name (Str.ofString "stuff") _] (PySem.Expr.Subscript _ _ _) _ :: _) _) _ _ _); refine hold_in ?_ (by assumption); refine wpAny_execs_cons ?_))
  trivial
theorem set_turn (w : World) (mean : ExcName → Option Value) (mg mb : Str → Option Value) {dp un : Nat} {gd : Option (List Code)} {cn : Str} {cs : Scope} {L a : Addr} {ccd : Value} {cl : List (Str × Addr)} {outer : List Env} {base g : Heap} {L' : Addr} {m : Str → Option Value} {s : Shared} {Q : Flow → Shared → Prop} {E : Value → Shared → Prop}
    {T1 : Array Value} {rest : Led} {r qa : Addr} {its : List Value} {k : Nat} {l : List Nat} {v2 v3 : Value} {tp ti tn : Tok} {X r1 : List Nat} {x : Nat} {Y out : List Nat} {p q j1 j2 J : Nat}
    (B : Below (ktrTop dp un gd cn cs L a ccd cl outer) base (envX cn cs L a ccd cl :: outer) g) (F : Fr g L' s.heap m) (X1 : Frag.In (hd.heap_39 w.params) g) (T : Top topProg LooseL mean mg mb g)
    (N : News g L' s.heap ((r, listOf its.toArray k) :: (qa, bmObj "list.append" r) :: (71, tabObj T1) :: rest)) (hd0 : dp + 20 < recursionLimit) (hu : un + 200 < cLine) (hl : l.length ≤ 1000) (h0 : l[p]? = some 91) (hq : q = p + 1) (c1 : (l[q]? = some 33 ∧ j1 = q + 1) ∨ (∃ x, l[q]? = some x ∧ x ≠ 33 ∧ j1 = q)) (c2 : (l[j1]? = some 93 ∧ j2 = j1 + 1) ∨ (∃ x, l[j1]? = some x ∧ x ≠ 93 ∧ j2 = j1)) (hJ : l[J]? = some 93) (hj : j2 ≤ J) (hno : ∀ i, j2 ≤ i → i < J → ∃ c, l[i]? = some c ∧ c ≠ 93)
    (hsl : Txt.slice (S l) (some ((q : Nat) : Int)) (some ((J : Nat) : Int)) = S X) (hX : X.length ≤ 1000) (hX45 : 45 ∉ X) (hrp : rep1 92 [92, 92] X = r1)
    (hTab : TabOk trKs T1 rest) (h71 : ∀ p ∈ rest, p.1 ≠ 71) (hr : ∀ p ∈ rest, p.1 ≠ r) (hqa : ∀ p ∈ rest, p.1 ≠ qa) (h71r : @LT.lt Nat _ 71 r) (hrq : @LT.lt Nat _ r qa) (hz : its.length ≤ 1000)
    (hsub : SubOk r1 (x :: Y)) (hYl : Y.length ≤ 10) (hx : x = 91 ∧ Y = [] ∨ (x = 33 ∧ Y ≠ []) ∨ (x ≠ 33 ∧ x ≠ 94 ∧ x ≠ 91)) (hout : out = setOut x Y)
    (hE : PassesOwn (model PySem.Challenge.rw_ij0088_01.row.prog w) ((ktrTop dp un gd cn cs L a ccd cl outer).deeper (envOf (Str.ofString "_translate") (scAt (_root_.Mine.hd.heap_39 w.params) 76) L' 76 (.ref 75))) (envOf (Str.ofString "_translate") (scAt (_root_.Mine.hd.heap_39 w.params) 76) L' 76 (.ref 75)) E)
    (m1 : m "pat" = some (.str (S l) tp)) (m2 : m "STAR" = some v2) (m3 : m "QUESTION_MARK" = some v3) (m4 : m "res" = some (.ref r)) (m5 : m "add" = some (.ref qa)) (m6 : m "i" = some (.int ((p : Nat) : Int) ti)) (m7 : m "n" = some (.int ((l.length : Nat) : Int) tn))
    (ret : ∀ h' tk' m' T1' rest' v i', Fr g L' h' m' → (∃ t, v = Value.str (S out) t) → News g L' h' ((r, listOf (its ++ [v]).toArray (k + 1)) :: (qa, bmObj "list.append" r) :: (71, tabObj T1') :: rest') → TabOk trKs T1' rest' → (∀ p ∈ rest, p ∈ rest') → (∀ p ∈ rest', p.1 ≠ 71) → (∀ p ∈ rest', p.1 ≠ r) → (∀ p ∈ rest', p.1 ≠ qa) →
      m' "pat" = some (.str (S l) tp) → m' "STAR" = some v2 → m' "QUESTION_MARK" = some v3 → m' "res" = some (.ref r) → m' "add" = some (.ref qa) → m' "n" = some (.int ((l.length : Nat) : Int) tn) → m' "i" = some (.int (((J : Nat) : Int) + 1) i') → Q .next { s with heap := h', toks := tk' }) :
    wpAny (model PySem.Challenge.rw_ij0088_01.row.prog w) ((ktrTop dp un gd cn cs L a ccd cl outer).deeper (envOf (Str.ofString "_translate") (scAt (_root_.Mine.hd.heap_39 w.params) 76) L' 76 (.ref 75))) (execs (turnStmts (_root_.Mine.hd.heap_39 w.params)) (envOf (Str.ofString "_translate") (scAt (_root_.Mine.hd.heap_39 w.params) 76) L' 76 (.ref 75))) Q E s := by
  obtain ⟨hp1, g1, d1, tk1, o1⟩ := s
  refine brk_head w mean mg mb B F X1 T N hd0 hu hl h0 hq c1 c2 hJ hj hno hE m1 m2 m3 m4 m5 m6 m7 ?_
  clear F N m1 m2 m3 m4 m5 m6 m7
  intro h6 tk6 m6 ti6 tj6 F6 N6 q1 q2 q3 q4 q5 q6 q7 q8
  have hJl := at_lt hJ
  have hjb : -10000 ≤ ((J : Nat) : Int) ∧ ((J : Nat) : Int) ≤ 10000 := by omega
  have hXl : (S X).length ≤ 1000 := by rw [S_len]; exact hX
  k_fill
  generalize hsc : scAt (_root_.Mine.hd.heap_39 w.params) 76 = sc at hE ⊢
  conv at hsc => lhs; whnf
  subst hsc
  have hst : setStmts (_root_.Mine.hd.heap_39 w.params) = setStmts (_root_.Mine.hd.heap_39 w.params) := rfl
  conv at hst => rhs; whnf
  rw [hst]
  have F2 := fr_canon [("pat", _), ("STAR", _), ("QUESTION_MARK", _), ("res", _), ("add", _), ("i", _), ("n", _), ("j", _)] F6 (all_cons q1 (all_cons q2 (all_cons q3 (all_cons q4 (all_cons q5 (all_cons q6 (all_cons q7 (all_cons q8 all_nil))))))))
  clear F6 q1 q2 q3 q4 q5 q6 q7 q8
  have fl : InSet := trivial
  k_steps
  unfold Hold
  (rename News _ _ _ _ => N9)
  (rename Fr _ _ _ _ => F9)
  refine set_tail w mean mg mb (out := out) B F9 X1 T N9 hd0 hu hTab h71 hr hqa h71r hrq hz hsub hYl hx (by exact rfl) (by exact rfl) (by exact rfl) (by exact rfl) (by exact rfl) (by exact rfl) (by exact rfl) (by exact rfl) hout hjb ret

end Mine
end
section
theorem Mine.begin_T1 : True := by
  w_top off
  k_with_none
  k_with "omega" => (first | with_reducible assumption | with_reducible exact Nat.le_trans (by assumption) (Nat.le_of_ble_eq_true rfl) | with_reducible exact Nat.le_refl _ | with_reducible exact Nat.ne_of_gt (by assumption) | with_reducible exact Nat.ne_of_lt (by assumption) | with_reducible exact Ne.symm (by assumption) | with_reducible exact Int.ofNat_lt.mpr (by assumption) | with_reducible exact Nat.lt_of_le_of_lt (Nat.le_add_right _ _) (by assumption))
  trivial
namespace Mine
theorem rules_T1_1 : True := by
  k_with "newList" => ((k_here; (first | (refine newList_K (F := by k_dflt (k_asm)) (N := by k_dflt (k_asm)) ?_ (hsz := by k_dflt (exact Nat.le_of_ble_eq_true rfl))) | (k_dflt (refine newList_K (F := by k_asm) (N := by k_asm) ?_ (hsz := by exact Nat.le_of_ble_eq_true rfl)))); intro _ _ _ _ l1qq; (try k_lt l1qq); (try k_sweep)))
  trivial
theorem rules_T1_2 : True := by
  k_with "m sub" => ((intro p hp; repeat (first | exact hp | refine List.mem_cons_of_mem _ ?_)))
  k_with "m news" => ((refine cb_drop (N := by k_asm) ?_; walk_at "m sub"))
  k_with "m lt" => (first | assumption | exact ktn_ltOf (by assumption) | (refine ktn_ltOf ?_; simp only [AllLt, and_true] at *; simp only [*]))
  k_with "compareOp In ref ref" => ((k_here; (first | (refine in_parts (hp := by k_dflt (assumption)) (hi := by k_dflt (assumption)) (N := by k_dflt (walk_at "m news")) (N' := by k_dflt (k_asm)) (hE := by k_dflt (k_mem)) (hlt := by k_dflt (walk_at "m lt")) (hu := by k_dflt (ktr_units)) (hb := by k_dflt (first | exact (show _ = true from (congrArg Option.isSome (by assumption)).trans rfl) | exact (show _ = false from (congrArg Option.isSome (by assumption)).trans rfl))) ?_; k_whole) | (k_dflt (refine in_parts (hp := by assumption) (hi := by assumption) (N := by walk_at "m news") (N' := by k_asm) (hE := by k_mem) (hlt := by walk_at "m lt") (hu := by ktr_units) (hb := by first | exact (show _ = true from (congrArg Option.isSome (by assumption)).trans rfl) | exact (show _ = false from (congrArg Option.isSome (by assumption)).trans rfl)) ?_; k_whole)))))
  k_with "call builtin:list.index" => ((k_here; (first | (refine index_parts (hp := by k_dflt (assumption)) (hi := by k_dflt (assumption)) (N := by k_dflt (walk_at "m news")) (N' := by k_dflt (k_asm)) (hE := by k_dflt (k_mem)) (hlt := by k_dflt (walk_at "m lt")) (hu := by k_dflt (ktr_units)) (hj := by k_dflt (assumption)) (hs := by k_dflt (omega)) ?_; k_whole) | (k_dflt (refine index_parts (hp := by assumption) (hi := by assumption) (N := by walk_at "m news") (N' := by k_asm) (hE := by k_mem) (hlt := by walk_at "m lt") (hu := by ktr_units) (hj := by assumption) (hs := by omega) ?_; k_whole)))))
  k_with "getMethod ref" => ((k_here; (with_reducible show wpAny _ _ (getMethod (Value.ref _) (PySem.Str.ofString "index") _) _ _ _); (first | (refine index_method (hm := by k_dflt (assumption)) (N := by k_dflt (walk_at "m news")) ?_) | (k_dflt (refine index_method (hm := by assumption) (N := by walk_at "m news") ?_)))))
  k_with "m list" => ((refine News.isList (N := by k_asm) (hm := by repeat (first | assumption | exact List.Mem.head _ | refine List.mem_cons_of_mem _ ?_))))
  k_with "m small" => (first | exact Nat.le_of_ble_eq_true rfl | (simp only [List.size_toArray, sizeLine_eq, Array.length_toList]; omega) | (simp only [List.size_toArray, List.length_append, List.length_take, List.length_drop, All2.length (by assumption : All2 _ _ _), sizeLine_eq, Array.length_toList]; omega))
  k_with "subscriptTail Name Slice ref ref" => ((k_here; (with_reducible show wpAny _ _ (subscriptTail _ (PySem.Expr.Slice _ _ none _) (Value.ref _) (Value.ref _)) _ _ _); (first | (refine kms_slice_lit (F := by k_dflt (k_asm)) (N := by k_dflt (k_asm)) (hl := by k_dflt (walk_at "m list")) (pl := by k_dflt (kmk_part)) (pu := by k_dflt (kmk_part)) (e := by k_dflt (first | exact pick_to _ _ | exact pick_from1 _ _ | exact pick_from _ _)) ?_ (hs := by k_dflt (with_unfolding_all rfl)) (ht := by k_dflt (kmk_pure)) (hz := by k_dflt (walk_at "m small")); k_whole) | (k_dflt (refine kms_slice_lit (F := by k_asm) (N := by k_asm) (hl := by walk_at "m list") (pl := by kmk_part) (pu := by kmk_part) (e := by first | exact pick_to _ _ | exact pick_from1 _ _ | exact pick_from _ _) ?_ (hs := by with_unfolding_all rfl) (ht := by kmk_pure) (hz := by walk_at "m small"); k_whole))); intro _ _ _ _ l1qq; (try k_lt l1qq); (try k_sweep)))
  k_with "binaryOp Add ref ref" => ((k_here; (with_reducible show wpAny _ _ (binaryOp _ (Value.ref _) (Value.ref _)) _ _ _); (first | (refine kmk_add_lit (F := by k_dflt (k_asm)) (N := by k_dflt (k_asm)) (ha := by k_dflt (walk_at "m list")) (hb := by k_dflt (walk_at "m list")) (e := by k_dflt (exact add_e _ _)) ?_ (hz := by k_dflt (walk_at "m small"))) | (k_dflt (refine kmk_add_lit (F := by k_asm) (N := by k_asm) (ha := by walk_at "m list") (hb := by walk_at "m list") (e := by exact add_e _ _) ?_ (hz := by walk_at "m small")))); intro _ _ _ _ l1qq; (try k_lt l1qq); (try k_sweep)))
  k_with "call builtin:len" => ((k_here; (with_reducible show wpAny _ _ (call (Value.builtin "len") [Value.ref _]) _ _ _); (first | (refine len_lst (hl := by k_dflt (walk_at "m list")) (e := by k_dflt (assumption)) (hn := by k_dflt (omega)) ?_) | (k_dflt (refine len_lst (hl := by walk_at "m list") (e := by assumption) (hn := by omega) ?_))); intro _ _))
  k_with "CompSrcT" => ((refine Hold.of ?_))
  k_with "m place" => (first | exact Int.zero_add _ | exact (rfl : (0 : Int) = ((0 : Nat) : Int)) | exact (rfl : (1 : Int) = ((1 : Nat) : Int)))
  k_with "subscriptTail Name Name str int" => ((k_here; (first | (refine item_S (hk := by k_dflt (walk_at "m place")) (hc := by k_dflt (assumption)) (hl := by k_dflt (first | assumption | omega)) ?_ (hs := by k_dflt (with_unfolding_all rfl)) (hg := by k_dflt (kmk_pure))) | (k_dflt (refine item_S (hk := by walk_at "m place") (hc := by assumption) (hl := by first | assumption | omega) ?_ (hs := by with_unfolding_all rfl) (hg := by kmk_pure)))); intro _ _))
  k_with "m item" => ((k_here; (with_reducible show wpAny _ _ (subscriptTail _ _ (Value.ref _) (Value.int _ _)) _ _ _); (first | (refine item_L (hl := by k_dflt (walk_at "m list")) (hk := by k_dflt (walk_at "m place")) (hx := by k_dflt (first | assumption | exact rfl)) (hz := by k_dflt (first | exact Nat.le_of_ble_eq_true rfl | omega)) ?_ (hs := by k_dflt (with_unfolding_all rfl)) (hg := by k_dflt (kmk_pure))) | (k_dflt (refine item_L (hl := by walk_at "m list") (hk := by walk_at "m place") (hx := by first | assumption | exact rfl) (hz := by first | exact Nat.le_of_ble_eq_true rfl | omega) ?_ (hs := by with_unfolding_all rfl) (hg := by kmk_pure))))))
  k_with "subscriptTail Name Name ref int" => (walk_at "m item")
  k_with "subscriptTail Subscript Constant ref int" => (walk_at "m item")
  k_with "compareOp In str str" => ((k_here; (first | (refine in_S ?_) | (k_dflt (refine in_S ?_)))))
  k_with "m mem" => (repeat (first | assumption | exact List.Mem.head _ | refine List.mem_cons_of_mem _ ?_))
  k_with "compareOp Eq ref ref" => ((k_here; (first | (refine eq_nil (N := by k_dflt (k_asm)) (hD := by k_dflt (walk_at "m mem")) (hE := by k_dflt (walk_at "m mem")) (hu := by k_dflt (ktr_units)) ?_) | (k_dflt (refine eq_nil (N := by k_asm) (hD := by walk_at "m mem") (hE := by walk_at "m mem") (hu := by ktr_units) ?_)))))
  k_with "compareOp Eq bool bool" => ((k_here; (first | (refine PyProof.Rows.eq_bool ?_) | (k_dflt (refine PyProof.Rows.eq_bool ?_)))))
  k_with "subscriptTail Name Constant ref int" => (walk_at "m item")
  k_with "call ref" => ((refine Hold.of ?_))
  k_with "getAttr ref true" => ((k_here; (with_reducible show wpAny _ _ (getAttr (Value.ref _) (PySem.Str.ofString "append") _) _ _ _); (first | (refine getAttr_bm (F := by k_dflt (k_asm)) (N := by k_dflt (k_asm)) (hD := by k_dflt (walk_at "m mem")) ?_) | (k_dflt (refine getAttr_bm (F := by k_asm) (N := by k_asm) (hD := by walk_at "m mem") ?_))); intro q' _ _ _ l1qq; (try k_lt l1qq); (try k_sweep)))
  k_with "callWith ref" => ((k_here; (first | (refine callWith_bm (by k_dflt (k_asm)) (by k_dflt (walk_at "m mem")) ?_) | (k_dflt (refine callWith_bm (by k_asm) (by walk_at "m mem") ?_)))))
  k_with "And" => ((k_dflt ((show Heap.get? _ _ = some (bmObj _ _) ∧ _); (refine And.intro (left := by (refine News.get (N := by k_asm) (hm := by walk_at "m mem"))) ?_)); (try dsimp only [List.nil_append, List.cons_append])))
  k_with "call ref" => ((k_here; (first | (refine call_bm (F := by k_dflt (k_asm)) (N := by k_dflt (k_asm)) (hq := by k_dflt (walk_at "m mem")) (U := by k_dflt (k_upd)) ?_ (hsz := by k_dflt (walk_at "m small"))) | (k_dflt (refine call_bm (F := by k_asm) (N := by k_asm) (hq := by walk_at "m mem") (U := by k_upd) ?_ (hsz := by walk_at "m small")))); intro _ _ _; (try k_sweep)))
  k_with "exec While" => ((refine Hold.of ?_))
  k_with "exec While Compare cons nil" => ((refine Hold.of ?_))
  k_with "m place" => (first | with_reducible exact (rfl : ((_ : Nat) : Int) = _) | with_reducible exact pl1 _ | with_reducible exact pl2 _ | with_reducible exact pl3 _ | with_reducible exact pl4 _ | exact (rfl : ((_ : Nat) : Int) = _) | exact pl1 _ | exact pl2 _ | exact pl3 _ | exact pl4 _)
  k_with "WhlIf" => ((first | (refine WhlIf.yes (h := by ((try simp only [decide_eq_true_eq, Bool.not_eq_true', decide_eq_false_iff_not, Bool.and_eq_true]); first | omega | assumption | rfl)) ?_) | (refine WhlIf.no (h := by ((try simp only [decide_eq_false_iff_not, Bool.not_eq_false']); first | omega | assumption | rfl)) ?_)))
  k_with "m perm" => ((refine cb_drop (N := by k_asm) ?_; repeat' (first | (refine List.forall_mem_cons.mpr (And.intro ?_ ?_)) | (walk_at "m mem"; done) | (walk_at "m sub"; done))))
  k_with "m lit" => (with_reducible first | exact l_star | exact l_qm | exact l_lb | exact l_rb | exact l_ex | exact l_dash | exact l_dot | exact l_hat | exact l_bs | exact l_bs2 | exact l_bsd | exact l_nil | exact l_dotstar | exact l_open | exact l_close | exact rfl)
  k_with "m same" => (first | rfl | ((try simp only [sg, decide_eq_true_eq, decide_eq_false_iff_not, Bool.not_eq_true', Bool.not_eq_false', Bool.not_true, Bool.not_false]); first | omega | assumption | (simp; done) | (simp; omega) | (simp [*]; done)))
  k_with "m sameF" => (first | (with_reducible exact hdF (by assumption)) | (with_reducible exact hdF (Ne.symm (by assumption))) | exact rfl)
  k_with "m nsameF" => (first | (with_reducible exact hdNT (by assumption)) | (with_reducible exact hdNT (Ne.symm (by assumption))) | exact rfl)
  k_with "compareOp Eq str str" => ((k_here; (first | (first | (refine eq_Sv false (hx := by k_dflt (walk_at "m lit")) (hy := by k_dflt (walk_at "m lit")) (hv := by k_dflt (walk_at "m sameF")) ?_) | (refine eq_Sv true (hx := by k_dflt (walk_at "m lit")) (hy := by k_dflt (walk_at "m lit")) (hv := by k_dflt (exact rfl)) ?_) | (refine eq_Sv true (hx := by k_dflt (walk_at "m lit")) (hy := by k_dflt (walk_at "m lit")) (hv := by k_dflt (walk_at "m same")) ?_) | (refine eq_Sv false (hx := by k_dflt (walk_at "m lit")) (hy := by k_dflt (walk_at "m lit")) (hv := by k_dflt (walk_at "m same")) ?_) | (refine eq_S (hx := by k_dflt (walk_at "m lit")) (hy := by k_dflt (walk_at "m lit")) ?_)) | (k_dflt (first | (refine eq_Sv false (hx := by walk_at "m lit") (hy := by walk_at "m lit") (hv := by walk_at "m sameF") ?_) | (refine eq_Sv true (hx := by walk_at "m lit") (hy := by walk_at "m lit") (hv := by exact rfl) ?_) | (refine eq_Sv true (hx := by walk_at "m lit") (hy := by walk_at "m lit") (hv := by walk_at "m same") ?_) | (refine eq_Sv false (hx := by walk_at "m lit") (hy := by walk_at "m lit") (hv := by walk_at "m same") ?_) | (refine eq_S (hx := by walk_at "m lit") (hy := by walk_at "m lit") ?_))))))
  k_with "compareOp NotEq str str" => ((k_here; (first | (first | (refine ne_Sv true (hx := by k_dflt (walk_at "m lit")) (hy := by k_dflt (walk_at "m lit")) (hv := by k_dflt (walk_at "m nsameF")) ?_) | (refine ne_Sv false (hx := by k_dflt (walk_at "m lit")) (hy := by k_dflt (walk_at "m lit")) (hv := by k_dflt (exact rfl)) ?_) | (refine ne_Sv true (hx := by k_dflt (walk_at "m lit")) (hy := by k_dflt (walk_at "m lit")) (hv := by k_dflt (walk_at "m same")) ?_) | (refine ne_Sv false (hx := by k_dflt (walk_at "m lit")) (hy := by k_dflt (walk_at "m lit")) (hv := by k_dflt (walk_at "m same")) ?_) | (refine ne_S (hx := by k_dflt (walk_at "m lit")) (hy := by k_dflt (walk_at "m lit")) ?_)) | (k_dflt (first | (refine ne_Sv true (hx := by walk_at "m lit") (hy := by walk_at "m lit") (hv := by walk_at "m nsameF") ?_) | (refine ne_Sv false (hx := by walk_at "m lit") (hy := by walk_at "m lit") (hv := by exact rfl) ?_) | (refine ne_Sv true (hx := by walk_at "m lit") (hy := by walk_at "m lit") (hv := by walk_at "m same") ?_) | (refine ne_Sv false (hx := by walk_at "m lit") (hy := by walk_at "m lit") (hv := by walk_at "m same") ?_) | (refine ne_S (hx := by walk_at "m lit") (hy := by walk_at "m lit") ?_))))))
  k_with "WhlRest" => (((with_reducible show WhlRest _ _ _ _ _ _ _ _ _ 0 _); refine Hold.of ?_))
  k_with "m gives" => (skip)
  k_with "call ref" => ((k_here; (first | (refine gives_use (escape_gives _ _ _ _ _ _) (B := by k_dflt (k_asm)) (F := by k_dflt (k_asm)) (X := by k_dflt (k_asm)) (N := by k_dflt (k_asm)) (T := by k_dflt (k_asm)) (hk := by k_dflt (exact rfl)) trivial (hd := by k_dflt (ktr_room)) (hu := by k_dflt (ktr_units)) ?_) | (k_dflt (refine gives_use (escape_gives _ _ _ _ _ _) (B := by k_asm) (F := by k_asm) (X := by k_asm) (N := by k_asm) (T := by k_asm) (hk := by exact rfl) trivial (hd := by ktr_room) (hu := by ktr_units) ?_))); intro r' n' _ _ _ _ P'; obtain ⟨e1', tqq, e2'⟩ := P'; subst e1'; subst e2'; (try dsimp only); (try k_sweep); (try k_fold)))
  k_with "m bmget" => (((with_reducible show Heap.get? _ _ = some (bmObj _ _)); refine News.get (N := by k_asm) (hm := by walk_at "m mem")))
  k_with "truthy ref" => ((k_here; (first | (first | (refine truthy_L (b := true) (hl := by k_dflt (walk_at "m list")) (hz := by k_dflt (walk_at "m short")) (hb := by k_dflt (first | rfl | (simp; done))) ?_) | (refine truthy_L (b := false) (hl := by k_dflt (walk_at "m list")) (hz := by k_dflt (walk_at "m short")) (hb := by k_dflt (first | rfl | (simp; done))) ?_)) | (k_dflt (first | (refine truthy_L (b := true) (hl := by walk_at "m list") (hz := by walk_at "m short") (hb := by first | rfl | (simp; done)) ?_) | (refine truthy_L (b := false) (hl := by walk_at "m list") (hz := by walk_at "m short") (hb := by first | rfl | (simp; done)) ?_)))); intro _))
  k_with "m short" => (first | omega | (simp; done) | (simp at *; omega))
  k_with "subscriptTail Name UnaryOp ref int" => ((k_here; (first | (refine item_last (hl := by k_dflt (walk_at "m list")) (hz := by k_dflt (walk_at "m short")) ?_ (hs := by k_dflt (with_unfolding_all rfl)) (hg := by k_dflt (kmk_pure))) | (k_dflt (refine item_last (hl := by walk_at "m list") (hz := by walk_at "m short") ?_ (hs := by with_unfolding_all rfl) (hg := by kmk_pure))))))
  k_with "compareOp IsNot str ref" => ((k_here; (first | (refine isnot_str_ref ?_) | (k_dflt (refine isnot_str_ref ?_)))))
  k_with "exec While BoolOp cons nil" => ((refine whl_start 4 ?_))
  k_with "execs cons" => ((k_here; refine keep_toks (hX := by with_reducible exact Nat.succ_ne_zero _) ?_; intro tk htk))
  k_with "compareOp NotIn str str" => ((k_here; (first | (first | (refine notin_Sv true (hx := by k_dflt (walk_at "m lit")) (hz := by k_dflt (walk_at "m lit")) (hv := by k_dflt (walk_at "m same")) ?_) | (refine notin_Sv false (hx := by k_dflt (walk_at "m lit")) (hz := by k_dflt (walk_at "m lit")) (hv := by k_dflt (walk_at "m same")) ?_)) | (k_dflt (first | (refine notin_Sv true (hx := by walk_at "m lit") (hz := by walk_at "m lit") (hv := by walk_at "m same") ?_) | (refine notin_Sv false (hx := by walk_at "m lit") (hz := by walk_at "m lit") (hv := by walk_at "m same") ?_))))))
  k_with "call builtin:str.replace" => ((k_here; (first | (first | (refine replace_no (hx := by k_dflt (walk_at "m lit")) (hy := by k_dflt (walk_at "m lit")) (hc := by k_dflt ((simp; first | done | omega))) ?_) | (refine replace_yes (hx := by k_dflt (walk_at "m lit")) (hy := by k_dflt (walk_at "m lit")) (hz := by k_dflt (walk_at "m lit")) (hu := by k_dflt (first | exact NZ.ne (by assumption) | exact Nat.succ_ne_zero _)) (hv := by k_dflt (exact Nat.succ_ne_zero _)) (huv := by k_dflt (exact Nat.ne_of_lt (Nat.lt_succ_self _))) (hyz := by k_dflt (rfl)) (hl := by k_dflt ((simp; done))) (hzz := by k_dflt (decide)) (hr := by k_dflt (first | assumption | exact rfl)) ?_; intro _ _)) | (k_dflt (first | (refine replace_no (hx := by walk_at "m lit") (hy := by walk_at "m lit") (hc := by (simp; first | done | omega)) ?_) | (refine replace_yes (hx := by walk_at "m lit") (hy := by walk_at "m lit") (hz := by walk_at "m lit") (hu := by first | exact NZ.ne (by assumption) | exact Nat.succ_ne_zero _) (hv := by exact Nat.succ_ne_zero _) (huv := by exact Nat.ne_of_lt (Nat.lt_succ_self _)) (hyz := by rfl) (hl := by (simp; done)) (hzz := by decide) (hr := by first | assumption | exact rfl) ?_; intro _ _))))))
  k_with "subscriptTail Name Slice str ref" => (((with_reducible show wpAny _ _ (subscriptTail _ (PySem.Expr.Slice (some _) (some _) none _) _ _) _ _ _); (with_reducible rename Fr _ _ _ _ => Fqq); (with_reducible rename News _ _ _ _ => Nqq); (refine slice_strN_ss (hsz := (by size_fits)) (s := ⟨_, _, _, _, _⟩) Fqq Nqq ?_); intro _ _ _ _ _; (rename Txt.slice _ (some _) (some _) = _ => hsl9qq; rw [hsl9qq])))
  k_with "subscriptTail Name Slice str ref" => (((with_reducible show wpAny _ _ (subscriptTail _ (PySem.Expr.Slice (some _) none none _) _ _) _ _ _); (with_reducible rename Fr _ _ _ _ => Fqq); (with_reducible rename News _ _ _ _ => Nqq); (refine slice_strN_sn (hsz := (by size_fits)) (s := ⟨_, _, _, _, _⟩) Fqq Nqq ?_); intro _ _ _ _ _; rw [S_tail]))
  k_with "getMethod ref" => ((k_here; (with_reducible show wpAny _ _ (getMethod (Value.ref _) (PySem.Str.ofString "sub") _) _ _ _); (first | (refine getMethod_sub' (h50 := by k_dflt (exact pat_at (by assumption) (by assumption))) ?_) | (k_dflt (refine getMethod_sub' (h50 := by exact pat_at (by assumption) (by assumption)) ?_)))))
  k_with "call builtin:re.Pattern.sub" => ((k_here; (first | (refine sub_rule _ _ _ _ (B := by k_dflt (k_asm)) (F := by k_dflt (k_asm)) (X := by k_dflt (k_asm)) (N := by k_dflt (k_asm)) (T := by k_dflt (k_asm)) (hk := by k_dflt (exact rfl)) (hdd := by k_dflt (ktr_room)) (hu := by k_dflt (ktr_units)) (hf := by k_dflt (walk_at "m mem")) (hc := by k_dflt (exact codes_up (by assumption) (by walk_at "m sub"))) (hs := by k_dflt (k_asm)) ?_) | (k_dflt (refine sub_rule _ _ _ _ (B := by k_asm) (F := by k_asm) (X := by k_asm) (N := by k_asm) (T := by k_asm) (hk := by exact rfl) (hdd := by ktr_room) (hu := by ktr_units) (hf := by walk_at "m mem") (hc := by exact codes_up (by assumption) (by walk_at "m sub")) (hs := by k_asm) ?_))); intro _ _ _ _ _; (try dsimp only); (try k_sweep)))
  k_with "eval Lambda" => ((k_here; (first | (refine kla_eval (hdef := by k_dflt (exact rfl)) ?_) | (k_dflt (refine kla_eval (hdef := by exact rfl) ?_))); k_dflt (refine lam_new (own := [_, _]) (P := 71) (ks := trKs) (F := by k_asm) (N := by k_asm) (Tp := by k_asm) (C := by k_asm) (hcd := by exact rfl) (hP1 := by k_all) (hP2 := by k_asm) (H := by k_asm) (hk := by exact trKs_lam) (hkm := by exact List.Mem.head _) (hcl := by exact rfl) ?_); intro f' c' ct' _ _ _ rest' _ G' C' Nqq l1qq l2 l3; (dsimp only [List.cons_append, List.nil_append] at Nqq); (have hz1 := Grown.ne G' (by assumption) (List.Mem.head _)); (have hz2 := Grown.ne G' (by assumption) (List.Mem.tail _ (List.Mem.head _))); (have hz3 := Grown.ne G' (by assumption) (List.Mem.tail _ (List.Mem.tail _ (List.Mem.head _)))); (have hz4 : @LT.lt Nat _ _ _ := l1qq _ (List.Mem.head _)); (have hz5 : @LT.lt Nat _ _ _ := l1qq _ (List.Mem.tail _ (List.Mem.head _))); (have hz6 := Grown.ok G'); dsimp only at hz1 hz2 hz3 hz4 hz5))
  k_with "truthy str" => ((k_here; (first | (refine truthy_S (hl := by k_dflt (first | (with_reducible assumption) | omega | decide | (simp; done) | (simp; omega))) ?_) | (k_dflt (refine truthy_S (hl := by first | (with_reducible assumption) | omega | decide | (simp; done) | (simp; omega)) ?_))); intro _))
  k_with "compareOp In str ref" => ((k_here; (first | (first | (refine in_two false (N := by k_dflt (k_asm)) (hD := by k_dflt (walk_at "m mem")) (hx := by k_dflt (walk_at "m lit")) (hy := by k_dflt (walk_at "m lit")) (hz := by k_dflt (walk_at "m lit")) (hv := by k_dflt ((simp; first | done | omega))) ?_) | (refine in_two true (N := by k_dflt (k_asm)) (hD := by k_dflt (walk_at "m mem")) (hx := by k_dflt (walk_at "m lit")) (hy := by k_dflt (walk_at "m lit")) (hz := by k_dflt (walk_at "m lit")) (hv := by k_dflt ((simp; first | done | omega))) ?_)) | (k_dflt (first | (refine in_two false (N := by k_asm) (hD := by walk_at "m mem") (hx := by walk_at "m lit") (hy := by walk_at "m lit") (hz := by walk_at "m lit") (hv := by (simp; first | done | omega)) ?_) | (refine in_two true (N := by k_asm) (hD := by walk_at "m mem") (hx := by walk_at "m lit") (hy := by walk_at "m lit") (hz := by walk_at "m lit") (hv := by (simp; first | done | omega)) ?_))))))
  k_with "subscriptTail Name Constant str int" => ((k_here; (first | (refine item_S (k := 0) (hk := by k_dflt (exact rfl)) (hc := by k_dflt (exact rfl)) (hl := by k_dflt (first | (simp; done) | (simp; omega))) ?_ (hs := by k_dflt (with_unfolding_all rfl)) (hg := by k_dflt (kmk_pure))) | (k_dflt (refine item_S (k := 0) (hk := by exact rfl) (hc := by exact rfl) (hl := by first | (simp; done) | (simp; omega)) ?_ (hs := by with_unfolding_all rfl) (hg := by kmk_pure)))); intro _ _))
  k_with "binaryOp Add str str" => ((k_here; (first | (refine add_hat (hx := by k_dflt (exact l_hat)) (hl := by k_dflt (omega)) ?_) | (k_dflt (refine add_hat (hx := by exact l_hat) (hl := by omega) ?_))); intro _ _))
  k_with "exec If" => (refine wpAny_If ?_)
  k_with "m fsize" => (((with_reducible show Str.length _ ≤ sizeLine); (simp only [l_lb, l_rb, l_nil0, S_app, S_len, sizeLine_eq, List.length_append, List.length_cons, List.length_nil]); omega))
  k_with "execs cons" => ((k_here; (with_reducible show wpAny _ _ (execs (Stmt.Assign [PySem.Expr.Name (Str.ofString "stuff") _] (PySem.Expr.Call (PySem.Expr.Attribute (PySem.Expr.Name (Str.ofString "_twin_re_1") _) _ _) _ _ _) _ :: _) _) _ _ _); refine Hold.of ?_))
  k_with "execs cons" => ((k_here; (with_reducible show wpAny _ _ (execs (Stmt.Assign [PySem.Expr.Name (Str.ofString "chunks") _] _ _ :: _) _) _ _ _); refine Hold.of ?_))
  trivial
noncomputable def BrkFlag : Prop := True
theorem hold_brk {P : Prop} (h : Hold P) (_f : BrkFlag) : P := h
theorem rules_T1_3 : True := by
  k_with "execs cons" => (((with_reducible show wpAny _ _ (execs (Stmt.Assign [PySem.Expr.Name (Str.ofString "c") _] _ _ :: _) _) _ _ _); refine hold_brk ?_ (by assumption)))
  trivial
/-- what _translate leaves: the list of the pieces' texts, and the code table, perhaps grown -/
noncomputable def TrPost (ps : List Pc) (st : Addr) (rest : Led) (_news news' : Led) (r : Value) : Prop :=
  ∃ a its k T' rest', r = .ref a ∧ news' = (a, listOf its.toArray k) :: (71, tabObj T') :: rest' ∧ TabOk trKs T' rest' ∧ (∀ p ∈ rest, p ∈ rest') ∧ (∀ p ∈ rest', p.1 ≠ 71) ∧ All2 (ResAt st) its ps
theorem tr_gives (w : World) (mean : ExcName → Option Value) (mg mb : Str → Option Value) (l : List Nat) (ps : List Pc) (t : Tok) (st : Addr) (t2 : Tok) (T : Array Value) (rest : Led) (hl : l = textOf ps) (hx : l.length ≤ 1000) (hps : ps.length ≤ 900) (hpok : ∀ p ∈ ps, p.ok) (hone : ∀ A B, ps = A ++ Pc.star :: B → ∀ p ∈ A, p.isStar = false) :
   GivesG 20 w mean mg mb 76 [.str (S l) t, .ref st, .str (Str.ofString ".") t2] (fun news => news = (71, tabObj T) :: rest ∧ TabOk trKs T rest ∧ ∀ p ∈ rest, p.1 ≠ 71) (TrPost ps st rest) := by
  unfold GivesG
  k_fill
  intro dp un gd cn cs a ccd cl outer A₀ base h₀ L m news s Q E B F X N Tp hk hp hG hd hu hret
  have hx2 : (S l).length ≤ 1000 := by rw [S_len]; exact hx
  obtain ⟨rfl, hTab, h71⟩ := hp
  refine wpAny_call ?_
  k_dflt ktr_enter
  (rename Frag.In _ _ => X9)
  have hC9 := codeHd_of X9
  k_steps
  unfold Hold
  have hlt0 : ∀ d, AllLt d rest → ∀ p ∈ rest, p.1 ≠ d := fun d h => ne_all h (Nat.le_refl _)
  refine whl_start 0 (whl_loop (TrInv ps l st rest s) ps.length (by k_asm) (news₀ := (_, listOf [].toArray 0) :: (_, bmObj "list.append" _) :: (71, tabObj T) :: rest) (by walk_at "m perm") ?_ ?_)
  · refine ⟨⟨T, rest, _, _, [], ps, [], 0, _, _, _, _, hTab, fun p hp => hp, h71, hlt0 _ ?c1, hlt0 _ ?c2, ?c3, ?c4, rfl, rfl, .nil, rfl, by decide, rfl, rfl, rfl, rfl, rfl, rfl, by rw [S_len]; rfl⟩, rfl, hG⟩
    case c1 => simp only [*]
    case c2 => simp only [*]
    case c3 => omega
    case c4 => omega
  · intro n next m1 news1 s1 hI F1 N1
    obtain ⟨⟨T1, rest1, r, q, dn, rst, its, k, i', n', t1, t3, hTab1, hsub1, h71_1, hr1, hq1, h71r, hrq, e1, e2, hits, rfl, hz, m1p, m1s, m1q, m1r, m1a, m1i, m1n⟩, hos, hgs⟩ := hI
    have F2 := fr_canon [("pat", _), ("STAR", _), ("QUESTION_MARK", _), ("res", _), ("add", _), ("i", _), ("n", _)] F1 (all_cons m1p (all_cons m1s (all_cons m1q (all_cons m1r (all_cons m1a (all_cons m1i (all_cons m1n all_nil)))))))
    clear F1
    rcases rst with _ | ⟨p, rst⟩
    · have hdn : ps = dn := by rw [e1]; simp
      have hll : l.length = (textOf dn).length := by rw [hl, hdn]
      k_steps
      all_goals (try (exfalso; omega))
      refine hret _ ((r, listOf its.toArray k) :: (71, tabObj T1) :: rest1) _ (by k_asm) (by walk_at "m perm") hos hgs ⟨r, its, k, T1, rest1, rfl, rfl, hTab1, hsub1, h71_1, by rw [hdn]; exact hits⟩
    · have hpk : p.ok := hpok p (by rw [e1]; simp)
      have hpl : l = textOf dn ++ (p.text ++ textOf rst) := by rw [hl, e1]; simp [textOf]
      have hln : rst.length < n := by rw [e2]; exact Nat.lt_succ_self _
      rcases p with c | c | _ | _ | c | c
      · obtain ⟨k91, k42, k63⟩ : c ≠ 91 ∧ c ≠ 42 ∧ c ≠ 63 := hpk
        have hl0 : l[(textOf dn).length]? = some c := by rw [hpl]; simp [Pc.text]
        have hlen : (textOf dn).length < l.length := by rw [hpl]; simp [Pc.text]
        k_steps
        all_goals (try (walk_at "m bmget"; done))
        unfold Hold
        (rename News _ _ _ _ => N9)
        simp only [List.push_toArray] at N9
        refine next rst.length _ _ _ hln (tr_step (p := .lit c) hTab1 hsub1 h71_1 hr1 hq1 h71r hrq e1 hits hps ⟨_, rfl⟩ hos hgs rfl rfl rfl rfl rfl rfl ?hj rfl) (by k_asm) N9
        case hj => (simp [Pc.text]; try omega)
      · rcases Decidable.em (c = 91) with rfl | hc
        · have hsub : SubOk [91] [91] := .inl ⟨f1, rfl, by decide, by decide⟩
          have htx1 : (Pc.brk 91).text = [91, 91, 93] := by simp [Pc.text]
          have hl0 : l[(textOf dn).length]? = some 91 := by rw [hpl, htx1]; exact get_at _ _ _ 0 (by simp) rfl
          have hl1 : l[(textOf dn).length + 1]? = some 91 := by rw [hpl, htx1]; exact get_at _ _ _ 1 (by simp) rfl
          have hl2 : l[(textOf dn).length + 1 + 1]? = some 93 := by rw [hpl, htx1]; exact get_at _ _ _ 2 (by simp) rfl
          have hlen0 : (textOf dn).length < l.length := at_lt hl0
          have hsl : Txt.slice (S l) (some (((textOf dn).length + 1 : Nat) : Int)) (some (((textOf dn).length + 1 + 1 : Nat) : Int)) = S [91] := by
            rw [hpl, htx1]; exact slice_at _ _ _ 1 1 rfl rfl (by simp)
          have fb : BrkFlag := trivial
          k_steps
          unfold Hold
          clear fb
          (rename News _ _ _ _ => N8)
          (rename Fr _ _ _ _ => F8)
          refine set_turn w mean mg mb (out := (Pc.brk 91).tr) (q := (textOf dn).length + 1) (J := (textOf dn).length + 1 + 1) (by k_asm) (by exact F8) (by k_asm) (by k_asm) (cb_drop N8 (by walk_at "m sub")) (by omega) (by omega) hx hl0 rfl (.inr ⟨91, hl1, by decide, rfl⟩) (.inr ⟨91, hl1, by decide, rfl⟩) hl2 (Nat.le_succ _) (no1 hl1 (by decide)) hsl (by simp) (by decide) (by exact rfl) hTab1 h71_1 hr1 hq1 h71r hrq hz hsub ?hYl1 ?hxx1 ?hout1 (by first | passes_own | with_unfolding_all passes_own) (by exact rfl) (by exact rfl) (by exact rfl) (by exact rfl) (by exact rfl) (by exact rfl) (by exact rfl) ?ret1
          case hYl1 => decide
          case hxx1 => exact .inl ⟨rfl, rfl⟩
          case hout1 => rfl
          case ret1 =>
            intro h7 tk7 m7 T7 rest7 v7 i7 F7 hv7 N7 hT7 hs7 p71 pr7 pq7 p1 p2 p3 p4 p5 p6 p7
            k_steps
            unfold Hold
            refine next rst.length _ _ _ hln (tr_step (p := .brk 91) hT7 (fun p hp => hs7 _ (hsub1 p hp)) p71 pr7 pq7 h71r hrq e1 hits hps hv7 hos hgs p1 p2 p3 p4 p5 p7 ?hj1 p6) F7 N7
            case hj1 => rw [htx1]; rfl
        · have hcc : (c = 42 ∨ c = 63) := by rcases hpk with q | q | q <;> simp_all
          have hne : c ≠ 93 ∧ c ≠ 33 ∧ c ≠ 45 ∧ c ≠ 92 ∧ c ≠ 94 := by rcases hcc with rfl | rfl <;> decide
          obtain ⟨k93, k33, k45, k92, k94⟩ := hne
          have hsub : SubOk [c] [c] := .inl ⟨by rcases hcc with rfl | rfl; exact f2; exact f3, rfl, by simp, by simp⟩
          have htx2 : (Pc.brk c).text = [91, c, 93] := by simp [Pc.text]
          have hl0 : l[(textOf dn).length]? = some 91 := by rw [hpl, htx2]; exact get_at _ _ _ 0 (by simp) rfl
          have hl1 : l[(textOf dn).length + 1]? = some c := by rw [hpl, htx2]; exact get_at _ _ _ 1 (by simp) rfl
          have hl2 : l[(textOf dn).length + 1 + 1]? = some 93 := by rw [hpl, htx2]; exact get_at _ _ _ 2 (by simp) rfl
          have hlen0 : (textOf dn).length < l.length := at_lt hl0
          have hsl : Txt.slice (S l) (some (((textOf dn).length + 1 : Nat) : Int)) (some (((textOf dn).length + 1 + 1 : Nat) : Int)) = S [c] := by
            rw [hpl, htx2]; exact slice_at _ _ _ 1 1 rfl rfl (by simp)
          have fb : BrkFlag := trivial
          k_steps
          unfold Hold
          clear fb
          (rename News _ _ _ _ => N8)
          (rename Fr _ _ _ _ => F8)
          refine set_turn w mean mg mb (out := (Pc.brk c).tr) (q := (textOf dn).length + 1) (J := (textOf dn).length + 1 + 1) (by k_asm) (by exact F8) (by k_asm) (by k_asm) (cb_drop N8 (by walk_at "m sub")) (by omega) (by omega) hx hl0 rfl (.inr ⟨c, hl1, k33, rfl⟩) (.inr ⟨c, hl1, k93, rfl⟩) hl2 (Nat.le_succ _) (no1 hl1 k93) hsl (by simp) (by intro h; simp at h; exact k45 h.symm) (by simp [rep1, k92]) hTab1 h71_1 hr1 hq1 h71r hrq hz hsub ?hYl2 ?hxx2 ?hout2 (by first | passes_own | with_unfolding_all passes_own) (by exact rfl) (by exact rfl) (by exact rfl) (by exact rfl) (by exact rfl) (by exact rfl) (by exact rfl) ?ret2
          case hYl2 => exact Nat.zero_le _
          case hxx2 => exact .inr (.inr ⟨k33, k94, hc⟩)
          case hout2 => simp [Pc.tr, hc, setOut, k33]
          case ret2 =>
            intro h7 tk7 m7 T7 rest7 v7 i7 F7 hv7 N7 hT7 hs7 p71 pr7 pq7 p1 p2 p3 p4 p5 p6 p7
            k_steps
            unfold Hold
            refine next rst.length _ _ _ hln (tr_step (p := .brk c) hT7 (fun p hp => hs7 _ (hsub1 p hp)) p71 pr7 pq7 h71r hrq e1 hits hps hv7 hos hgs p1 p2 p3 p4 p5 p7 ?hj2 p6) F7 N7
            case hj2 => rw [htx2]; rfl
      · have hl0 : l[(textOf dn).length]? = some 63 := by rw [hpl]; simp [Pc.text]
        have hlen : (textOf dn).length < l.length := by rw [hpl]; simp [Pc.text]
        k_steps
        all_goals (try (walk_at "m bmget"; done))
        unfold Hold
        (rename News _ _ _ _ => N9)
        simp only [List.push_toArray] at N9
        refine next rst.length _ _ _ hln (tr_step (p := .any) hTab1 hsub1 h71_1 hr1 hq1 h71r hrq e1 hits hps ⟨_, by rw [l_dot]; rfl⟩ hos hgs rfl rfl rfl rfl rfl rfl ?hj rfl) (by k_asm) N9
        case hj => (simp [Pc.text]; try omega)
      · have hl0 : l[(textOf dn).length]? = some 42 := by rw [hpl]; simp [Pc.text]
        have hlen : (textOf dn).length < l.length := by rw [hpl]; simp [Pc.text]
        have hstar : ∀ pre v, its = pre ++ [v] → ∃ x t, v = .str x t := fun pre v e => by
          obtain ⟨p, hp, hr⟩ := hits.memL (a := v) (by rw [e]; simp)
          obtain ⟨t, h⟩ := res_str hr (hone dn rst e1 p hp)
          exact ⟨_, t, h⟩
        rcases List.eq_nil_or_concat its with rfl | ⟨pre, v, rfl⟩
        · k_steps
          all_goals (try (first | (walk_at "m bmget"; done) | (walk_at "m fsize"; done)))
          unfold Hold
          (rename News _ _ _ _ => N9)
          simp only [List.push_toArray] at N9
          refine next rst.length _ _ _ hln (tr_step (p := .star) hTab1 hsub1 h71_1 hr1 hq1 h71r hrq e1 hits hps rfl hos hgs rfl rfl rfl rfl rfl rfl ?hj rfl) (by k_asm) N9
          case hj => (simp [Pc.text]; try omega)
        · rw [List.concat_eq_append] at *
          obtain ⟨x0, t0, rfl⟩ := hstar _ _ rfl
          k_steps
          all_goals (try (first | (walk_at "m bmget"; done) | (walk_at "m fsize"; done)))
          unfold Hold
          (rename News _ _ _ _ => N9)
          simp only [List.push_toArray] at N9
          refine next rst.length _ _ _ hln (tr_step (p := .star) hTab1 hsub1 h71_1 hr1 hq1 h71r hrq e1 hits hps rfl hos hgs rfl rfl rfl rfl rfl rfl ?hj rfl) (by k_asm) N9
          case hj => (simp [Pc.text]; try omega)
      · rcases Decidable.em (c = 45) with rfl | k45
        · have hh : True := trivial
          have htx3 : (Pc.bar 45).text = [91, 33, 45, 93] := by simp [Pc.text]
          have hl0 : l[(textOf dn).length]? = some 91 := by rw [hpl, htx3]; exact get_at _ _ _ 0 (by simp) rfl
          have hl1 : l[(textOf dn).length + 1]? = some 33 := by rw [hpl, htx3]; exact get_at _ _ _ 1 (by simp) rfl
          have hl2 : l[(textOf dn).length + 1 + 1]? = some 45 := by rw [hpl, htx3]; exact get_at _ _ _ 2 (by simp) rfl
          have hl3 : l[(textOf dn).length + 1 + 1 + 1]? = some 93 := by rw [hpl, htx3]; exact get_at _ _ _ 3 (by simp) rfl
          have hlen0 : (textOf dn).length < l.length := at_lt hl0
          have hlen : (textOf dn).length + 3 < l.length := at_lt hl3
          have hsl : Txt.slice (S l) (some ((((textOf dn).length + 1 : Nat) : Int))) (some ((((textOf dn).length + 1 + 1 + 1 : Nat) : Int))) = S [33, 45] := by
            rw [hpl, show (Pc.bar 45).text = [91, 33, 45, 93] by simp [Pc.text]]; exact slice_at _ [91, 33, 45, 93] _ 1 2 (by omega) (by omega) (by simp)
          have hsub : SubOk [33, 92, 45] [33, 92, 45] := .inl ⟨f7, rfl, by decide, by decide⟩
          have fb : BrkFlag := trivial
          k_steps
          unfold Hold
          clear fb
          (rename News _ _ _ _ => N8)
          (rename Fr _ _ _ _ => F8)
          refine brk_head w mean mg mb (q := (textOf dn).length + 1) (J := (textOf dn).length + 1 + 1 + 1) (by k_asm) (by exact F8) (by k_asm) (by k_asm) (by exact N8) (by omega) (by omega) hx hl0 rfl (.inl ⟨hl1, rfl⟩) (.inr ⟨45, hl2, by decide, rfl⟩) hl3 (Nat.le_succ _) (no1 hl2 (by decide)) (by first | passes_own | with_unfolding_all passes_own) (by exact rfl) (by exact rfl) (by exact rfl) (by exact rfl) (by exact rfl) (by exact rfl) (by exact rfl) ?_
          intro h6 tk6 m6 ti6 tj6 F6 N6 q1 q2 q3 q4 q5 q6 q7 q8
          generalize hsc6 : scAt (_root_.Mine.hd.heap_39 w.params) 76 = sc6
          conv at hsc6 => lhs; whnf
          subst hsc6
          have hst6 : setStmts (_root_.Mine.hd.heap_39 w.params) = setStmts (_root_.Mine.hd.heap_39 w.params) := rfl
          conv at hst6 => rhs; whnf
          rw [hst6]
          clear hst6
          have F7 := fr_canon [("pat", _), ("STAR", _), ("QUESTION_MARK", _), ("res", _), ("add", _), ("i", _), ("n", _), ("j", _)] F6 (all_cons q1 (all_cons q2 (all_cons q3 (all_cons q4 (all_cons q5 (all_cons q6 (all_cons q7 (all_cons q8 all_nil))))))))
          clear F6 q1 q2 q3 q4 q5 q6 q7 q8
          k_steps
          unfold Hold
          (rename News _ _ _ _ => N9)
          (rename Fr _ _ _ _ => F9)
          have hslC : Txt.slice (S l) (some ((((textOf dn).length + 1 : Nat) : Int))) (some ((((textOf dn).length + 1 : Nat) : Int) + 1 + 1)) = S [33, 45] := by
            rw [hpl, show (Pc.bar 45).text = [91, 33, 45, 93] by simp [Pc.text]]; exact slice_at _ [91, 33, 45, 93] _ 1 2 (by omega) (by omega) (by simp)
          refine dash_bar w mean mg mb (p := (textOf dn).length + 1) (l := l) (by k_asm) F9 (by k_asm) (by k_asm) (cb_drop N9 (by walk_at "m sub")) (by omega) (by omega) hTab1 h71_1 hr1 hq1 h71r hrq hz hx hl1 hl2 hlen (by with_reducible assumption) hgs (by first | passes_own | with_unfolding_all passes_own) rfl rfl rfl rfl rfl rfl rfl rfl ?ret3
          case ret3 =>
            intro s6 m6 T6 rest6 ts6 F6 N6 hT6 hs6 p71 pr6 pq6 hG6 ho6 p1 p2 p3 p4 p5 p6 p7 p8
            obtain ⟨hp6, g6, d6, tk6, o6⟩ := s6
            k_steps
            unfold Hold
            (rename News _ _ _ _ => N9)
            (rename Fr _ _ _ _ => F9)
            refine set_tail w mean mg mb (out := (Pc.bar 45).tr) (by k_asm) F9 (by k_asm) (by k_asm) (cb_drop N9 (by walk_at "m sub")) (by omega) (by omega) hT6 p71 pr6 pq6 h71r hrq hz hsub (by decide) ?hxx3 p1 p2 p3 p4 p5 p6 p7 p8 rfl ?hjj3 ?ret53
            case hxx3 => exact .inr (.inl ⟨rfl, by simp⟩)
            case hjj3 => omega
            case ret53 =>
              intro h7 tk7 m7 T7 rest7 v7 i7 F7 hv7 N7 hT7 hs7 p71 pr7 pq7 p1 p2 p3 p4 p5 p6 p7
              k_steps
              unfold Hold
              refine next rst.length _ _ _ hln (tr_step (p := .bar 45) hT7 (fun p hp => hs7 _ (hs6 _ (hsub1 p hp))) p71 pr7 pq7 h71r hrq e1 hits hps hv7 (ho6.trans hos) hG6 p1 p2 p3 p4 p5 p7 ?hj3 p6) F7 N7
              case hj3 => (simp [Pc.text]; try omega)
        · obtain ⟨r1, y, Y, hrp, hsub, hY, hYl⟩ := set_sub (a := 33) (.inl rfl) k45
          have hYl1 : (y :: Y).length ≤ 10 := inset_len hY
          rcases Decidable.em (c = 93) with rfl | k93
          · have hh : True := trivial
            have htx4 : (Pc.bar 93).text = [91, 33, 93, 93] := by simp [Pc.text]
            have hl0 : l[(textOf dn).length]? = some 91 := by rw [hpl, htx4]; exact get_at _ _ _ 0 (by simp) rfl
            have hl1 : l[(textOf dn).length + 1]? = some 33 := by rw [hpl, htx4]; exact get_at _ _ _ 1 (by simp) rfl
            have hl2 : l[(textOf dn).length + 1 + 1]? = some 93 := by rw [hpl, htx4]; exact get_at _ _ _ 2 (by simp) rfl
            have hl3 : l[(textOf dn).length + 1 + 1 + 1]? = some 93 := by rw [hpl, htx4]; exact get_at _ _ _ 3 (by simp) rfl
            have hlen0 : (textOf dn).length < l.length := at_lt hl0
            have hsl : Txt.slice (S l) (some (((textOf dn).length + 1 : Nat) : Int)) (some (((textOf dn).length + 1 + 1 + 1 : Nat) : Int)) = S [33, 93] := by
              rw [hpl, htx4]; exact slice_at _ _ _ 1 2 rfl rfl (by simp)
            have fb : BrkFlag := trivial
            k_steps
            unfold Hold
            clear fb
            (rename News _ _ _ _ => N8)
            (rename Fr _ _ _ _ => F8)
            refine set_turn w mean mg mb (out := (Pc.bar 93).tr) (q := (textOf dn).length + 1) (J := (textOf dn).length + 1 + 1 + 1) (by k_asm) (by exact F8) (by k_asm) (by k_asm) (cb_drop N8 (by walk_at "m sub")) (by omega) (by omega) hx hl0 rfl (.inl ⟨hl1, rfl⟩) (.inl ⟨hl2, rfl⟩) hl3 (Nat.le_refl _) (no0) hsl (by simp) (by decide) hrp hTab1 h71_1 hr1 hq1 h71r hrq hz hsub ?hYl4 ?hxx4 ?hout4 (by first | passes_own | with_unfolding_all passes_own) (by exact rfl) (by exact rfl) (by exact rfl) (by exact rfl) (by exact rfl) (by exact rfl) (by exact rfl) ?ret4
            case hYl4 => exact hYl1
            case hxx4 => exact .inr (.inl ⟨rfl, by simp⟩)
            case hout4 => rw [setOut, if_pos rfl, hY]; rfl
            case ret4 =>
              intro h7 tk7 m7 T7 rest7 v7 i7 F7 hv7 N7 hT7 hs7 p71 pr7 pq7 p1 p2 p3 p4 p5 p6 p7
              k_steps
              unfold Hold
              refine next rst.length _ _ _ hln (tr_step (p := .bar 93) hT7 (fun p hp => hs7 _ (hsub1 p hp)) p71 pr7 pq7 h71r hrq e1 hits hps hv7 hos hgs p1 p2 p3 p4 p5 p7 ?hj4 p6) F7 N7
              case hj4 => rw [htx4]; rfl
          · have hh : True := trivial
            have htx5 : (Pc.bar c).text = [91, 33, c, 93] := by simp [Pc.text]
            have hl0 : l[(textOf dn).length]? = some 91 := by rw [hpl, htx5]; exact get_at _ _ _ 0 (by simp) rfl
            have hl1 : l[(textOf dn).length + 1]? = some 33 := by rw [hpl, htx5]; exact get_at _ _ _ 1 (by simp) rfl
            have hl2 : l[(textOf dn).length + 1 + 1]? = some c := by rw [hpl, htx5]; exact get_at _ _ _ 2 (by simp) rfl
            have hl3 : l[(textOf dn).length + 1 + 1 + 1]? = some 93 := by rw [hpl, htx5]; exact get_at _ _ _ 3 (by simp) rfl
            have hlen0 : (textOf dn).length < l.length := at_lt hl0
            have hsl : Txt.slice (S l) (some (((textOf dn).length + 1 : Nat) : Int)) (some (((textOf dn).length + 1 + 1 + 1 : Nat) : Int)) = S [33, c] := by
              rw [hpl, htx5]; exact slice_at _ _ _ 1 2 rfl rfl (by simp)
            have fb : BrkFlag := trivial
            k_steps
            unfold Hold
            clear fb
            (rename News _ _ _ _ => N8)
            (rename Fr _ _ _ _ => F8)
            refine set_turn w mean mg mb (out := (Pc.bar c).tr) (q := (textOf dn).length + 1) (J := (textOf dn).length + 1 + 1 + 1) (by k_asm) (by exact F8) (by k_asm) (by k_asm) (cb_drop N8 (by walk_at "m sub")) (by omega) (by omega) hx hl0 rfl (.inl ⟨hl1, rfl⟩) (.inr ⟨c, hl2, k93, rfl⟩) hl3 (Nat.le_succ _) (no1 hl2 k93) hsl (by simp) (by intro h; simp at h; exact k45 h.symm) hrp hTab1 h71_1 hr1 hq1 h71r hrq hz hsub ?hYl5 ?hxx5 ?hout5 (by first | passes_own | with_unfolding_all passes_own) (by exact rfl) (by exact rfl) (by exact rfl) (by exact rfl) (by exact rfl) (by exact rfl) (by exact rfl) ?ret5
            case hYl5 => exact hYl1
            case hxx5 => exact .inr (.inl ⟨rfl, by simp⟩)
            case hout5 => rw [setOut, if_pos rfl, hY]; rfl
            case ret5 =>
              intro h7 tk7 m7 T7 rest7 v7 i7 F7 hv7 N7 hT7 hs7 p71 pr7 pq7 p1 p2 p3 p4 p5 p6 p7
              k_steps
              unfold Hold
              refine next rst.length _ _ _ hln (tr_step (p := .bar c) hT7 (fun p hp => hs7 _ (hsub1 p hp)) p71 pr7 pq7 h71r hrq e1 hits hps hv7 hos hgs p1 p2 p3 p4 p5 p7 ?hj5 p6) F7 N7
              case hj5 => rw [htx5]; rfl
      · rcases Decidable.em (c = 93) with rfl | k93
        · have hsub : SubOk [93, 46] [93, 46] := .inl ⟨f4, rfl, by decide, by decide⟩
          have htx6 : (Pc.dot 93).text = [91, 93, 46, 93] := by simp [Pc.text]
          have hl0 : l[(textOf dn).length]? = some 91 := by rw [hpl, htx6]; exact get_at _ _ _ 0 (by simp) rfl
          have hl1 : l[(textOf dn).length + 1]? = some 93 := by rw [hpl, htx6]; exact get_at _ _ _ 1 (by simp) rfl
          have hl2 : l[(textOf dn).length + 1 + 1]? = some 46 := by rw [hpl, htx6]; exact get_at _ _ _ 2 (by simp) rfl
          have hl3 : l[(textOf dn).length + 1 + 1 + 1]? = some 93 := by rw [hpl, htx6]; exact get_at _ _ _ 3 (by simp) rfl
          have hlen0 : (textOf dn).length < l.length := at_lt hl0
          have hsl : Txt.slice (S l) (some (((textOf dn).length + 1 : Nat) : Int)) (some (((textOf dn).length + 1 + 1 + 1 : Nat) : Int)) = S [93, 46] := by
            rw [hpl, htx6]; exact slice_at _ _ _ 1 2 rfl rfl (by simp)
          have fb : BrkFlag := trivial
          k_steps
          unfold Hold
          clear fb
          (rename News _ _ _ _ => N8)
          (rename Fr _ _ _ _ => F8)
          refine set_turn w mean mg mb (out := (Pc.dot 93).tr) (q := (textOf dn).length + 1) (J := (textOf dn).length + 1 + 1 + 1) (by k_asm) (by exact F8) (by k_asm) (by k_asm) (cb_drop N8 (by walk_at "m sub")) (by omega) (by omega) hx hl0 rfl (.inr ⟨93, hl1, by decide, rfl⟩) (.inl ⟨hl1, rfl⟩) hl3 (Nat.le_succ _) (no1 hl2 (by decide)) hsl (by simp) (by decide) (by exact rfl) hTab1 h71_1 hr1 hq1 h71r hrq hz hsub ?hYl6 ?hxx6 ?hout6 (by first | passes_own | with_unfolding_all passes_own) (by exact rfl) (by exact rfl) (by exact rfl) (by exact rfl) (by exact rfl) (by exact rfl) (by exact rfl) ?ret6
          case hYl6 => decide
          case hxx6 => exact .inr (.inr (by decide))
          case hout6 => rfl
          case ret6 =>
            intro h7 tk7 m7 T7 rest7 v7 i7 F7 hv7 N7 hT7 hs7 p71 pr7 pq7 p1 p2 p3 p4 p5 p6 p7
            k_steps
            unfold Hold
            refine next rst.length _ _ _ hln (tr_step (p := .dot 93) hT7 (fun p hp => hs7 _ (hsub1 p hp)) p71 pr7 pq7 h71r hrq e1 hits hps hv7 hos hgs p1 p2 p3 p4 p5 p7 ?hj6 p6) F7 N7
            case hj6 => rw [htx6]; rfl
        · rcases Decidable.em (c = 45) with rfl | k45
          · have hh : True := trivial
            have htx7 : (Pc.dot 45).text = [91, 46, 45, 93] := by simp [Pc.text]
            have hl0 : l[(textOf dn).length]? = some 91 := by rw [hpl, htx7]; exact get_at _ _ _ 0 (by simp) rfl
            have hl1 : l[(textOf dn).length + 1]? = some 46 := by rw [hpl, htx7]; exact get_at _ _ _ 1 (by simp) rfl
            have hl2 : l[(textOf dn).length + 1 + 1]? = some 45 := by rw [hpl, htx7]; exact get_at _ _ _ 2 (by simp) rfl
            have hl3 : l[(textOf dn).length + 1 + 1 + 1]? = some 93 := by rw [hpl, htx7]; exact get_at _ _ _ 3 (by simp) rfl
            have hlen0 : (textOf dn).length < l.length := at_lt hl0
            have hlen : (textOf dn).length + 3 < l.length := at_lt hl3
            have hsl : Txt.slice (S l) (some ((((textOf dn).length + 1 : Nat) : Int))) (some ((((textOf dn).length + 1 + 1 + 1 : Nat) : Int))) = S [46, 45] := by
              rw [hpl, show (Pc.dot 45).text = [91, 46, 45, 93] by simp [Pc.text]]; exact slice_at _ [91, 46, 45, 93] _ 1 2 (by omega) (by omega) (by simp)
            have hsub : SubOk [46, 92, 45] [46, 92, 45] := .inl ⟨f8, rfl, by decide, by decide⟩
            have fb : BrkFlag := trivial
            k_steps
            unfold Hold
            clear fb
            (rename News _ _ _ _ => N8)
            (rename Fr _ _ _ _ => F8)
            refine brk_head w mean mg mb (q := (textOf dn).length + 1) (J := (textOf dn).length + 1 + 1 + 1) (by k_asm) (by exact F8) (by k_asm) (by k_asm) (by exact N8) (by omega) (by omega) hx hl0 rfl (.inr ⟨46, hl1, by decide, rfl⟩) (.inr ⟨46, hl1, by decide, rfl⟩) hl3 (Nat.le_add_right _ 2) (no2 hl1 (by decide) hl2 (by decide)) (by first | passes_own | with_unfolding_all passes_own) (by exact rfl) (by exact rfl) (by exact rfl) (by exact rfl) (by exact rfl) (by exact rfl) (by exact rfl) ?_
            intro h6 tk6 m6 ti6 tj6 F6 N6 q1 q2 q3 q4 q5 q6 q7 q8
            generalize hsc6 : scAt (_root_.Mine.hd.heap_39 w.params) 76 = sc6
            conv at hsc6 => lhs; whnf
            subst hsc6
            have hst6 : setStmts (_root_.Mine.hd.heap_39 w.params) = setStmts (_root_.Mine.hd.heap_39 w.params) := rfl
            conv at hst6 => rhs; whnf
            rw [hst6]
            clear hst6
            have F7 := fr_canon [("pat", _), ("STAR", _), ("QUESTION_MARK", _), ("res", _), ("add", _), ("i", _), ("n", _), ("j", _)] F6 (all_cons q1 (all_cons q2 (all_cons q3 (all_cons q4 (all_cons q5 (all_cons q6 (all_cons q7 (all_cons q8 all_nil))))))))
            clear F6 q1 q2 q3 q4 q5 q6 q7 q8
            k_steps
            unfold Hold
            (rename News _ _ _ _ => N9)
            (rename Fr _ _ _ _ => F9)
            have hslA : Txt.slice (S l) (some ((((textOf dn).length + 1 : Nat) : Int))) (some ((((textOf dn).length + 1 + 1 : Nat) : Int))) = S [46] := by
              rw [hpl, show (Pc.dot 45).text = [91, 46, 45, 93] by simp [Pc.text]]; exact slice_at _ [91, 46, 45, 93] _ 1 1 (by omega) (by omega) (by simp)
            have hslB : Txt.slice (S l) (some ((((textOf dn).length + 1 + 1 : Nat) : Int) + 1)) (some ((((textOf dn).length + 1 : Nat) : Int) + 1 + 1)) = S [] := by
              rw [hpl, show (Pc.dot 45).text = [91, 46, 45, 93] by simp [Pc.text]]; exact slice_at _ [91, 46, 45, 93] _ 3 0 (by omega) (by omega) (by simp)
            refine dash_dot w mean mg mb (p := (textOf dn).length + 1) (l := l) (by k_asm) F9 (by k_asm) (by k_asm) (cb_drop N9 (by walk_at "m sub")) (by omega) (by omega) hTab1 h71_1 hr1 hq1 h71r hrq hz hx hl1 hl2 hlen (by with_reducible assumption) (by with_reducible assumption) hgs (by first | passes_own | with_unfolding_all passes_own) rfl rfl rfl rfl rfl rfl rfl rfl ?ret7
            case ret7 =>
              intro s6 m6 T6 rest6 ts6 F6 N6 hT6 hs6 p71 pr6 pq6 hG6 ho6 p1 p2 p3 p4 p5 p6 p7 p8
              obtain ⟨hp6, g6, d6, tk6, o6⟩ := s6
              k_steps
              unfold Hold
              (rename News _ _ _ _ => N9)
              (rename Fr _ _ _ _ => F9)
              refine set_tail w mean mg mb (out := (Pc.dot 45).tr) (by k_asm) F9 (by k_asm) (by k_asm) (cb_drop N9 (by walk_at "m sub")) (by omega) (by omega) hT6 p71 pr6 pq6 h71r hrq hz hsub (by decide) ?hxx7 p1 p2 p3 p4 p5 p6 p7 p8 rfl ?hjj7 ?ret57
              case hxx7 => exact .inr (.inr (by decide))
              case hjj7 => omega
              case ret57 =>
                intro h7 tk7 m7 T7 rest7 v7 i7 F7 hv7 N7 hT7 hs7 p71 pr7 pq7 p1 p2 p3 p4 p5 p6 p7
                k_steps
                unfold Hold
                refine next rst.length _ _ _ hln (tr_step (p := .dot 45) hT7 (fun p hp => hs7 _ (hs6 _ (hsub1 p hp))) p71 pr7 pq7 h71r hrq e1 hits hps hv7 (ho6.trans hos) hG6 p1 p2 p3 p4 p5 p7 ?hj7 p6) F7 N7
                case hj7 => (simp [Pc.text]; try omega)
          · obtain ⟨r1, y, Y, hrp, hsub, hY, hYl⟩ := set_sub (a := 46) (.inr rfl) k45
            have hYl1 : (y :: Y).length ≤ 10 := inset_len hY
            have htx8 : (Pc.dot c).text = [91, 46, c, 93] := by simp [Pc.text, k93]
            have hl0 : l[(textOf dn).length]? = some 91 := by rw [hpl, htx8]; exact get_at _ _ _ 0 (by simp) rfl
            have hl1 : l[(textOf dn).length + 1]? = some 46 := by rw [hpl, htx8]; exact get_at _ _ _ 1 (by simp) rfl
            have hl2 : l[(textOf dn).length + 1 + 1]? = some c := by rw [hpl, htx8]; exact get_at _ _ _ 2 (by simp) rfl
            have hl3 : l[(textOf dn).length + 1 + 1 + 1]? = some 93 := by rw [hpl, htx8]; exact get_at _ _ _ 3 (by simp) rfl
            have hlen0 : (textOf dn).length < l.length := at_lt hl0
            have hsl : Txt.slice (S l) (some (((textOf dn).length + 1 : Nat) : Int)) (some (((textOf dn).length + 1 + 1 + 1 : Nat) : Int)) = S [46, c] := by
              rw [hpl, htx8]; exact slice_at _ _ _ 1 2 rfl rfl (by simp)
            have fb : BrkFlag := trivial
            k_steps
            unfold Hold
            clear fb
            (rename News _ _ _ _ => N8)
            (rename Fr _ _ _ _ => F8)
            refine set_turn w mean mg mb (out := (Pc.dot c).tr) (q := (textOf dn).length + 1) (J := (textOf dn).length + 1 + 1 + 1) (by k_asm) (by exact F8) (by k_asm) (by k_asm) (cb_drop N8 (by walk_at "m sub")) (by omega) (by omega) hx hl0 rfl (.inr ⟨46, hl1, by decide, rfl⟩) (.inr ⟨46, hl1, by decide, rfl⟩) hl3 (Nat.le_add_right _ 2) (no2 hl1 (by decide) hl2 k93) hsl (by simp) (by intro h; simp at h; exact k45 h.symm) hrp hTab1 h71_1 hr1 hq1 h71r hrq hz hsub ?hYl8 ?hxx8 ?hout8 (by first | passes_own | with_unfolding_all passes_own) (by exact rfl) (by exact rfl) (by exact rfl) (by exact rfl) (by exact rfl) (by exact rfl) (by exact rfl) ?ret8
            case hYl8 => exact hYl1
            case hxx8 => exact .inr (.inr (by decide))
            case hout8 => rw [setOut, if_neg (by decide), if_neg (by decide), hY]; simp [Pc.tr, k93]
            case ret8 =>
              intro h7 tk7 m7 T7 rest7 v7 i7 F7 hv7 N7 hT7 hs7 p71 pr7 pq7 p1 p2 p3 p4 p5 p6 p7
              k_steps
              unfold Hold
              refine next rst.length _ _ _ hln (tr_step (p := .dot c) hT7 (fun p hp => hs7 _ (hsub1 p hp)) p71 pr7 pq7 h71r hrq e1 hits hps hv7 hos hgs p1 p2 p3 p4 p5 p7 ?hj8 p6) F7 N7
              case hj8 => rw [htx8]; rfl

end Mine
end
section
theorem Mine.begin_Ob : True := by
  w_top off
  k_with_none
  k_with "omega" => (first | with_reducible assumption | with_reducible exact Nat.le_trans (by assumption) (Nat.le_of_ble_eq_true rfl) | with_reducible exact Nat.le_refl _ | with_reducible exact Nat.ne_of_gt (by assumption) | with_reducible exact Nat.ne_of_lt (by assumption) | with_reducible exact Ne.symm (by assumption) | with_reducible exact Int.ofNat_lt.mpr (by assumption) | with_reducible exact Nat.lt_of_le_of_lt (Nat.le_add_right _ _) (by assumption))
  trivial
namespace Mine
theorem mro_object : mroOf (.type "object") = pure [.type "object"] := by rw [mroOf_type]; kernel_rfl
theorem lookup_object_new : typeLookup (.type "object") "__new__" = pure (some (.builtin "object.__new__")) := by rw [typeLookup_type, builtinLookup_eq_fast]; kernel_rfl
theorem slot_object_init : Slot "object" "__init__" "object.__init__" :=
  .of (owner := "object") (n := "__init__") (by rw [typeLookup_type, builtinLookup_eq_fast]; kernel_rfl) (by decide +kernel) (by decide +kernel) (by decide +kernel)
    (by first | exact .inl (by decide +kernel) | exact .inr (by decide +kernel)) (by rw [isSubtype_type]; kernel_rfl)
theorem made_object : Bind.madeBy (.type "object") = pure (some "object.__new__") := madeBy_type mro_object lookup_object_new (by decide +kernel)
theorem called_object : TypeCalled "object" "object.__new__" "object.__init__" :=
  ⟨by decide +kernel, by decide +kernel, ⟨_, _, mro_object⟩, made_object, by decide +kernel, by rw [isSubtype_type]; kernel_rfl, slot_object_init⟩
theorem typeCall_object_0 : checkTypeCall "object" ⟨[], []⟩ = pure () := by kernel_rfl
theorem newCall_object_0 : checkBuiltinCall "object.__new__" ⟨[.type "object"], []⟩ = pure () := by kernel_rfl
theorem entry_object_init0 : entryFor table "object.__init__" = some Builtin.«object.__init__» := entryFor_of_tree (by kernel_rfl)
theorem args_object_init (a : Value) : argsOk "object.__init__" ⟨[a], []⟩ := by unfold argsOk; kernel_rfl
theorem isType_object : isType (.type "object") = pure true := by rfl
theorem here_object : Bind.madeHere "object.__new__" (.type "object") = pure () := by
  unfold Bind.madeHere
  rw [show Bind.staticBase (.type "object") = pure (.type "object") from by kernel_rfl]
  show (do if (← Bind.madeBy (.type "object")).map Manifest.canonical != some (Manifest.canonical "object.__new__") then unsupported _) = _
  rw [made_object]
  rfl
theorem meets_object_new : Meets (Builtin.«object.__new__» ⟨[.type "object"], []⟩) (fun _ R s => R (.ok (.ret (.ref s.heap.objs.size))) { s with heap := s.heap.push { cls := .type "object", dict := none, data := .plain } }) := by
  rintro prog w A R s h
  have h1 := here_object
  unfold Builtin.«object.__new__»
  obtain ⟨hp, g, d, tk, os⟩ := s
  have c1 : ((Manifest.find? "object").elim false fun x => x.mro.any fun t => (Manifest.find? t).elim false fun x => x.noNew) = false := by kernel_rfl
  have c2 : typeHasDict (.type "object") = false := by kernel_rfl
  have c3 : diesByItsTypesDel "object" = false := by kernel_rfl
  dsimp only
  refine wpAny_bind (wpAny_of_eq isType_object ?_)
  refine wpAny_ite_false (by decide) ?_
  refine wpAny_ite_false (by rw [c1]; decide) ?_
  refine wpAny_bind (wpAny_of_eq h1 ?_)
  refine wpAny_ite_false (by decide) ?_
  refine wpAny_ite_false (by rw [c2]; decide) ?_
  refine wpAny_bind (wpAny_pure ?_)
  simp only [newObj, newObjAsIs]
  refine wpAny_bind (wpAny_bind (wpAny_alloc (wpAny_pure ?_)))
  refine wpAny_ite_false (by rw [c3]; decide) ?_
  exact wpAny_pure h
theorem meets_object_init (a : Addr) : Meets (Builtin.«object.__init__» ⟨[.ref a], []⟩) (fun _ R s => R (.ok (.ret .none)) s) := by
  rintro prog w A R s h
  unfold Builtin.«object.__init__»
  exact wpAny_pure h
theorem call_object {prog : Program} {w : World} {A : Around} {E : Value → Shared → Prop} {s : Shared} {Q : Value → Shared → Prop} (h : Q (.ref s.heap.objs.size) { s with heap := s.heap.push { cls := .type "object", dict := none, data := .plain } }) : wpAny (model prog w) A (call (.type "object") []) Q E s := by
  refine callType_meets (Q₁ := fun v s' => v = .ref s.heap.objs.size ∧ s' = { s with heap := s.heap.push { cls := .type "object", dict := none, data := .plain } }) called_object typeCall_object_0 newCall_object_0 F.entry_object_new entry_object_init0 meets_object_new ⟨rfl, rfl⟩ ?_
  rintro obj s₁ ⟨rfl, rfl⟩
  exact ⟨⟨_, Heap.get?_push_size _ rfl, rfl⟩, args_object_init _, _, meets_object_init _, rfl, h⟩
end Mine
end
section
theorem Mine.begin_T3 : True := by
  w_top off
  k_with_none
  k_with "omega" => (first | with_reducible assumption | with_reducible exact Nat.le_trans (by assumption) (Nat.le_of_ble_eq_true rfl) | with_reducible exact Nat.le_refl _ | with_reducible exact Nat.ne_of_gt (by assumption) | with_reducible exact Nat.ne_of_lt (by assumption) | with_reducible exact Ne.symm (by assumption) | with_reducible exact Int.ofNat_lt.mpr (by assumption) | with_reducible exact Nat.lt_of_le_of_lt (Nat.le_add_right _ _) (by assumption))
  trivial
namespace Mine
theorem rules_T3_1 : True := by
  k_with "newList" => ((k_here; (first | (refine newList_K (F := by k_dflt (k_asm)) (N := by k_dflt (k_asm)) ?_ (hsz := by k_dflt (exact Nat.le_of_ble_eq_true rfl))) | (k_dflt (refine newList_K (F := by k_asm) (N := by k_asm) ?_ (hsz := by exact Nat.le_of_ble_eq_true rfl)))); intro _ _ _ _ l1qq; (try k_lt l1qq); (try k_sweep)))
  k_with "m sub" => ((intro p hp; repeat (first | exact hp | refine List.mem_cons_of_mem _ ?_)))
  k_with "m news" => ((refine cb_drop (N := by k_asm) ?_; walk_at "m sub"))
  k_with "m lt" => (first | assumption | exact ktn_ltOf (by assumption) | (refine ktn_ltOf ?_; simp only [AllLt, and_true] at *; simp only [*]))
  k_with "compareOp In ref ref" => ((k_here; (first | (refine in_parts (hp := by k_dflt (assumption)) (hi := by k_dflt (assumption)) (N := by k_dflt (walk_at "m news")) (N' := by k_dflt (k_asm)) (hE := by k_dflt (k_mem)) (hlt := by k_dflt (walk_at "m lt")) (hu := by k_dflt (ktr_units)) (hb := by k_dflt (first | exact (show _ = true from (congrArg Option.isSome (by assumption)).trans rfl) | exact (show _ = false from (congrArg Option.isSome (by assumption)).trans rfl))) ?_; k_whole) | (k_dflt (refine in_parts (hp := by assumption) (hi := by assumption) (N := by walk_at "m news") (N' := by k_asm) (hE := by k_mem) (hlt := by walk_at "m lt") (hu := by ktr_units) (hb := by first | exact (show _ = true from (congrArg Option.isSome (by assumption)).trans rfl) | exact (show _ = false from (congrArg Option.isSome (by assumption)).trans rfl)) ?_; k_whole)))))
  k_with "call builtin:list.index" => ((k_here; (first | (refine index_parts (hp := by k_dflt (assumption)) (hi := by k_dflt (assumption)) (N := by k_dflt (walk_at "m news")) (N' := by k_dflt (k_asm)) (hE := by k_dflt (k_mem)) (hlt := by k_dflt (walk_at "m lt")) (hu := by k_dflt (ktr_units)) (hj := by k_dflt (assumption)) (hs := by k_dflt (omega)) ?_; k_whole) | (k_dflt (refine index_parts (hp := by assumption) (hi := by assumption) (N := by walk_at "m news") (N' := by k_asm) (hE := by k_mem) (hlt := by walk_at "m lt") (hu := by ktr_units) (hj := by assumption) (hs := by omega) ?_; k_whole)))))
  k_with "getMethod ref" => ((k_here; (with_reducible show wpAny _ _ (getMethod (Value.ref _) (PySem.Str.ofString "index") _) _ _ _); (first | (refine index_method (hm := by k_dflt (assumption)) (N := by k_dflt (walk_at "m news")) ?_) | (k_dflt (refine index_method (hm := by assumption) (N := by walk_at "m news") ?_)))))
  k_with "m list" => ((refine News.isList (N := by k_asm) (hm := by repeat (first | assumption | exact List.Mem.head _ | refine List.mem_cons_of_mem _ ?_))))
  k_with "m small" => (first | exact Nat.le_of_ble_eq_true rfl | (simp only [List.size_toArray, sizeLine_eq, Array.length_toList]; omega) | (simp only [List.size_toArray, List.length_append, List.length_take, List.length_drop, All2.length (by assumption : All2 _ _ _), sizeLine_eq, Array.length_toList]; omega))
  k_with "subscriptTail Name Slice ref ref" => ((k_here; (with_reducible show wpAny _ _ (subscriptTail _ (PySem.Expr.Slice _ _ none _) (Value.ref _) (Value.ref _)) _ _ _); (first | (refine kms_slice_lit (F := by k_dflt (k_asm)) (N := by k_dflt (k_asm)) (hl := by k_dflt (walk_at "m list")) (pl := by k_dflt (kmk_part)) (pu := by k_dflt (kmk_part)) (e := by k_dflt (first | exact pick_to _ _ | exact pick_from1 _ _ | exact pick_from _ _)) ?_ (hs := by k_dflt (with_unfolding_all rfl)) (ht := by k_dflt (kmk_pure)) (hz := by k_dflt (walk_at "m small")); k_whole) | (k_dflt (refine kms_slice_lit (F := by k_asm) (N := by k_asm) (hl := by walk_at "m list") (pl := by kmk_part) (pu := by kmk_part) (e := by first | exact pick_to _ _ | exact pick_from1 _ _ | exact pick_from _ _) ?_ (hs := by with_unfolding_all rfl) (ht := by kmk_pure) (hz := by walk_at "m small"); k_whole))); intro _ _ _ _ l1qq; (try k_lt l1qq); (try k_sweep)))
  k_with "binaryOp Add ref ref" => ((k_here; (with_reducible show wpAny _ _ (binaryOp _ (Value.ref _) (Value.ref _)) _ _ _); (first | (refine kmk_add_lit (F := by k_dflt (k_asm)) (N := by k_dflt (k_asm)) (ha := by k_dflt (walk_at "m list")) (hb := by k_dflt (walk_at "m list")) (e := by k_dflt (exact add_e _ _)) ?_ (hz := by k_dflt (walk_at "m small"))) | (k_dflt (refine kmk_add_lit (F := by k_asm) (N := by k_asm) (ha := by walk_at "m list") (hb := by walk_at "m list") (e := by exact add_e _ _) ?_ (hz := by walk_at "m small")))); intro _ _ _ _ l1qq; (try k_lt l1qq); (try k_sweep)))
  k_with "call builtin:len" => ((k_here; (with_reducible show wpAny _ _ (call (Value.builtin "len") [Value.ref _]) _ _ _); (first | (refine len_lst (hl := by k_dflt (walk_at "m list")) (e := by k_dflt (assumption)) (hn := by k_dflt (omega)) ?_) | (k_dflt (refine len_lst (hl := by walk_at "m list") (e := by assumption) (hn := by omega) ?_))); intro _ _))
  k_with "CompSrcT" => ((refine Hold.of ?_))
  k_with "m place" => (first | exact Int.zero_add _ | exact (rfl : (0 : Int) = ((0 : Nat) : Int)) | exact (rfl : (1 : Int) = ((1 : Nat) : Int)))
  k_with "subscriptTail Name Name str int" => ((k_here; (first | (refine item_S (hk := by k_dflt (walk_at "m place")) (hc := by k_dflt (assumption)) (hl := by k_dflt (first | assumption | omega)) ?_ (hs := by k_dflt (with_unfolding_all rfl)) (hg := by k_dflt (kmk_pure))) | (k_dflt (refine item_S (hk := by walk_at "m place") (hc := by assumption) (hl := by first | assumption | omega) ?_ (hs := by with_unfolding_all rfl) (hg := by kmk_pure)))); intro _ _))
  k_with "m item" => ((k_here; (with_reducible show wpAny _ _ (subscriptTail _ _ (Value.ref _) (Value.int _ _)) _ _ _); (first | (refine item_L (hl := by k_dflt (walk_at "m list")) (hk := by k_dflt (walk_at "m place")) (hx := by k_dflt (first | assumption | exact rfl)) (hz := by k_dflt (first | exact Nat.le_of_ble_eq_true rfl | omega)) ?_ (hs := by k_dflt (with_unfolding_all rfl)) (hg := by k_dflt (kmk_pure))) | (k_dflt (refine item_L (hl := by walk_at "m list") (hk := by walk_at "m place") (hx := by first | assumption | exact rfl) (hz := by first | exact Nat.le_of_ble_eq_true rfl | omega) ?_ (hs := by with_unfolding_all rfl) (hg := by kmk_pure))))))
  k_with "subscriptTail Name Name ref int" => (walk_at "m item")
  k_with "subscriptTail Subscript Constant ref int" => (walk_at "m item")
  k_with "compareOp In str str" => ((k_here; (first | (refine in_S ?_) | (k_dflt (refine in_S ?_)))))
  k_with "m mem" => (repeat (first | assumption | exact List.Mem.head _ | refine List.mem_cons_of_mem _ ?_))
  k_with "compareOp Eq ref ref" => ((k_here; (first | (refine eq_nil (N := by k_dflt (k_asm)) (hD := by k_dflt (walk_at "m mem")) (hE := by k_dflt (walk_at "m mem")) (hu := by k_dflt (ktr_units)) ?_) | (k_dflt (refine eq_nil (N := by k_asm) (hD := by walk_at "m mem") (hE := by walk_at "m mem") (hu := by ktr_units) ?_)))))
  k_with "compareOp Eq bool bool" => ((k_here; (first | (refine PyProof.Rows.eq_bool ?_) | (k_dflt (refine PyProof.Rows.eq_bool ?_)))))
  k_with "subscriptTail Name Constant ref int" => (walk_at "m item")
  k_with "call ref" => ((refine Hold.of ?_))
  k_with "exec While" => ((refine Hold.of ?_))
  k_with "exec While Compare cons nil" => ((refine Hold.of ?_))
  k_with "m place" => (first | with_reducible exact (rfl : ((_ : Nat) : Int) = _) | with_reducible exact pl1 _ | with_reducible exact pl2 _ | with_reducible exact pl3 _ | with_reducible exact pl4 _ | exact (rfl : ((_ : Nat) : Int) = _) | exact pl1 _ | exact pl2 _ | exact pl3 _ | exact pl4 _)
  k_with "WhlIf" => ((first | (refine WhlIf.yes (h := by ((try simp only [decide_eq_true_eq, Bool.not_eq_true', decide_eq_false_iff_not, Bool.and_eq_true]); first | omega | assumption | rfl)) ?_) | (refine WhlIf.no (h := by ((try simp only [decide_eq_false_iff_not, Bool.not_eq_false']); first | omega | assumption | rfl)) ?_)))
  k_with "m perm" => ((refine cb_drop (N := by k_asm) ?_; repeat' (first | (refine List.forall_mem_cons.mpr (And.intro ?_ ?_)) | (walk_at "m mem"; done) | (walk_at "m sub"; done))))
  k_with "m lit" => (with_reducible first | exact l_star | exact l_qm | exact l_lb | exact l_rb | exact l_ex | exact l_dash | exact l_dot | exact l_hat | exact l_bs | exact l_bs2 | exact l_bsd | exact l_nil | exact l_dotstar | exact l_open | exact l_close | exact rfl)
  k_with "m same" => (first | rfl | ((try simp only [sg, decide_eq_true_eq, decide_eq_false_iff_not, Bool.not_eq_true', Bool.not_eq_false', Bool.not_true, Bool.not_false]); first | omega | assumption | (simp; done) | (simp; omega) | (simp [*]; done)))
  k_with "m sameF" => (first | (with_reducible exact hdF (by assumption)) | (with_reducible exact hdF (Ne.symm (by assumption))) | exact rfl)
  k_with "m nsameF" => (first | (with_reducible exact hdNT (by assumption)) | (with_reducible exact hdNT (Ne.symm (by assumption))) | exact rfl)
  k_with "compareOp Eq str str" => ((k_here; (first | (first | (refine eq_Sv false (hx := by k_dflt (walk_at "m lit")) (hy := by k_dflt (walk_at "m lit")) (hv := by k_dflt (walk_at "m sameF")) ?_) | (refine eq_Sv true (hx := by k_dflt (walk_at "m lit")) (hy := by k_dflt (walk_at "m lit")) (hv := by k_dflt (exact rfl)) ?_) | (refine eq_Sv true (hx := by k_dflt (walk_at "m lit")) (hy := by k_dflt (walk_at "m lit")) (hv := by k_dflt (walk_at "m same")) ?_) | (refine eq_Sv false (hx := by k_dflt (walk_at "m lit")) (hy := by k_dflt (walk_at "m lit")) (hv := by k_dflt (walk_at "m same")) ?_) | (refine eq_S (hx := by k_dflt (walk_at "m lit")) (hy := by k_dflt (walk_at "m lit")) ?_)) | (k_dflt (first | (refine eq_Sv false (hx := by walk_at "m lit") (hy := by walk_at "m lit") (hv := by walk_at "m sameF") ?_) | (refine eq_Sv true (hx := by walk_at "m lit") (hy := by walk_at "m lit") (hv := by exact rfl) ?_) | (refine eq_Sv true (hx := by walk_at "m lit") (hy := by walk_at "m lit") (hv := by walk_at "m same") ?_) | (refine eq_Sv false (hx := by walk_at "m lit") (hy := by walk_at "m lit") (hv := by walk_at "m same") ?_) | (refine eq_S (hx := by walk_at "m lit") (hy := by walk_at "m lit") ?_))))))
  k_with "compareOp NotEq str str" => ((k_here; (first | (first | (refine ne_Sv true (hx := by k_dflt (walk_at "m lit")) (hy := by k_dflt (walk_at "m lit")) (hv := by k_dflt (walk_at "m nsameF")) ?_) | (refine ne_Sv false (hx := by k_dflt (walk_at "m lit")) (hy := by k_dflt (walk_at "m lit")) (hv := by k_dflt (exact rfl)) ?_) | (refine ne_Sv true (hx := by k_dflt (walk_at "m lit")) (hy := by k_dflt (walk_at "m lit")) (hv := by k_dflt (walk_at "m same")) ?_) | (refine ne_Sv false (hx := by k_dflt (walk_at "m lit")) (hy := by k_dflt (walk_at "m lit")) (hv := by k_dflt (walk_at "m same")) ?_) | (refine ne_S (hx := by k_dflt (walk_at "m lit")) (hy := by k_dflt (walk_at "m lit")) ?_)) | (k_dflt (first | (refine ne_Sv true (hx := by walk_at "m lit") (hy := by walk_at "m lit") (hv := by walk_at "m nsameF") ?_) | (refine ne_Sv false (hx := by walk_at "m lit") (hy := by walk_at "m lit") (hv := by exact rfl) ?_) | (refine ne_Sv true (hx := by walk_at "m lit") (hy := by walk_at "m lit") (hv := by walk_at "m same") ?_) | (refine ne_Sv false (hx := by walk_at "m lit") (hy := by walk_at "m lit") (hv := by walk_at "m same") ?_) | (refine ne_S (hx := by walk_at "m lit") (hy := by walk_at "m lit") ?_))))))
  k_with "WhlRest" => (((with_reducible show WhlRest _ _ _ _ _ _ _ _ _ 0 _); refine Hold.of ?_))
  trivial
theorem call_objectN {prog : Program} {w : World} {A : Around} {E : Value → Shared → Prop} {s : Shared} {h₀ : Heap} {L : Addr} {m : Str → Option Value} {news : Led} {Q : Value → Shared → Prop} (F : Fr h₀ L s.heap m) (N : News h₀ L s.heap news)
    (h : ∀ q h', Fr h₀ L h' m → News h₀ L h' ((q, { cls := .type "object", dict := none, data := .plain }) :: news) → (∀ p ∈ news, p.1 < q) → Q (.ref q) { s with heap := h' }) : wpAny (model prog w) A (call (.type "object") []) Q E s :=
  call_object (h _ _ (F.push _) (N.push F _) fun p hp => Heap.lt_size (N p hp).1)
theorem rules_T3_2 : True := by
  k_with "call type:object" => ((k_here; (first | (refine call_objectN (F := by k_dflt (k_asm)) (N := by k_dflt (k_asm)) ?_) | (k_dflt (refine call_objectN (F := by k_asm) (N := by k_asm) ?_))); intro q' _ _ _ l1qq; (try k_lt l1qq); (try k_sweep)))
  trivial
noncomputable abbrev OneStar (ps : List Pc) : Prop := ∀ A B, ps = A ++ Pc.star :: B → ∀ p ∈ A, p.isStar = false
theorem star_split : ∀ ps : List Pc, ∃ A R, ps = A ++ R ∧ (∀ p ∈ A, p.isStar = false) ∧ (R = [] ∨ ∃ B, R = .star :: B)
  | [] => ⟨[], [], rfl, fun _ h => (nomatch h), .inl rfl⟩
  | p :: r => by
    obtain ⟨A, R, e, h1, h2⟩ := star_split r
    cases hp : p.isStar with
    | true =>
      have : p = .star := by cases p <;> first | rfl | cases hp
      exact ⟨[], p :: r, rfl, fun _ h => (nomatch h), .inr ⟨r, by rw [this]⟩⟩
    | false => exact ⟨p :: A, R, by rw [e]; rfl, List.forall_mem_cons.mpr ⟨hp, h1⟩, h2⟩
theorem one_split {ps : List Pc} (h : OneStar ps) : ∃ A R, ps = A ++ R ∧ (∀ p ∈ A, p.isStar = false) ∧ (R = [] ∨ ∃ B, R = .star :: B ∧ ∀ p ∈ B, p.isStar = false) := by
  obtain ⟨A, R, e, h1, h2⟩ := star_split ps
  refine ⟨A, R, e, h1, h2.imp id fun ⟨B, hB⟩ => ⟨B, hB, ?_⟩⟩
  subst hB
  obtain ⟨C, R, e2, h3, h4⟩ := star_split B
  rcases h4 with rfl | ⟨D, rfl⟩
  · rw [e2, List.append_nil]; exact h3
  · have := h (A ++ .star :: C) D (by rw [e, e2]; simp) .star (by simp)
    cases this
/-- what translate leaves behind: the code table, perhaps grown -/
noncomputable def TabPost (P : Value → Prop) (rest : Led) (_news news' : Led) (r : Value) : Prop :=
  ∃ T' rest', P r ∧ news' = (71, tabObj T') :: rest' ∧ TabOk trKs T' rest' ∧ (∀ p ∈ rest, p ∈ rest') ∧ (∀ p ∈ rest', p.1 ≠ 71)
theorem translate_gives (w : World) (mean : ExcName → Option Value) (mg mb : Str → Option Value) (l : List Nat) (ps : List Pc) (t : Tok) (T : Array Value) (rest : Led) (hl : l = textOf ps) (hx : l.length ≤ 1000) (hps : ps.length ≤ 900) (hpok : ∀ p ∈ ps, p.ok) (hone : OneStar ps) :
   GivesG 30 w mean mg mb 57 [.str (S l) t] (fun news => news = (71, tabObj T) :: rest ∧ TabOk trKs T rest ∧ ∀ p ∈ rest, p.1 ≠ 71) (TabPost (fun r => ∃ t, r = .str (S ([40, 63, 115, 58] ++ trOf ps ++ [41, 92, 90])) t) rest) := by
  unfold GivesG
  k_fill
  intro dp un gd cn cs a ccd cl outer A₀ base h₀ L m news s Q E B F X N Tp hk hp hG hd hu hret
  have hx2 : (S l).length ≤ 1000 := by rw [S_len]; exact hx
  obtain ⟨rfl, hTab, h71⟩ := hp
  obtain ⟨hp0, g0, d0, tk0, o0⟩ := s
  refine wpAny_call ?_
  k_dflt ktr_enter
  k_steps
  unfold Hold
  (rename Fr _ _ _ _ => F1)
  (rename News _ _ _ _ => N1)
  (rename @LT.lt Nat _ _ _ ∧ AllLt _ rest => l2)
  have h71' : ∀ p ∈ (_, { cls := .type "object", dict := none, data := .plain }) :: rest, p.1 ≠ 71 := List.forall_mem_cons.mpr ⟨Nat.ne_of_gt l2.1, h71⟩
  refine' givesG_use (tr_gives w mean mg mb l ps _ _ _ T _ hl hx hps hpok hone) ?B1 F1 ?X1 (news := (71, tabObj T) :: (_, { cls := .type "object", dict := none, data := .plain }) :: rest) (by walk_at "m perm") ?T1 ?k1 ⟨rfl, hTab.sub (fun p hp => .tail _ hp), h71'⟩ hG ?d1 ?u1 ?_
  case B1 => k_asm
  case X1 => k_asm
  case T1 => k_asm
  case k1 => exact rfl
  case d1 => ktr_room
  case u1 => ktr_units
  intro r1 n1 s1 F2 N2 ho1 hg1 hP1
  obtain ⟨a1, its, k, T2, rest2, rfl, rfl, hT2, hs2, h712, hits⟩ := hP1
  obtain ⟨hp1, g1, d1, tk1, o1⟩ := s1
  obtain ⟨A, R, hAR, hA, hR⟩ := one_split hone
  clear F1 N1
  k_steps
  unfold Hold
  (rename Fr _ _ _ _ => F3)
  (rename News _ _ _ _ => N3)
  refine' gives_use (join_gives w mean mg mb a1 _ A R ps its k hits hps hAR hA hR) ?B2 F3 ?X2 N3 ?T2 ?k2 (List.Mem.head _) ?d2 ?u2 ?_
  case B2 => k_asm
  case X2 => k_asm
  case T2 => k_asm
  case k2 => exact rfl
  case d2 => ktr_room
  case u2 => ktr_units
  intro r3 n3 h3 tk3 F4 N4 hP3
  obtain ⟨rfl, t3, rfl⟩ := hP3
  clear F3 N3
  k_steps
  exact hret _ ((71, tabObj T2) :: rest2) _ (by k_asm) (by walk_at "m perm") ho1 hg1 ⟨T2, rest2, ⟨_, rfl⟩, rfl, hT2, fun p hp => hs2 _ (.tail _ hp), h712⟩

end Mine
end
section
theorem Mine.begin_Tg : True := by
  w_top off
  k_with_none
  k_with "omega" => (first | with_reducible assumption | with_reducible exact Nat.le_trans (by assumption) (Nat.le_of_ble_eq_true rfl) | with_reducible exact Nat.le_refl _ | with_reducible exact Nat.ne_of_gt (by assumption) | with_reducible exact Nat.ne_of_lt (by assumption) | with_reducible exact Ne.symm (by assumption) | with_reducible exact Int.ofNat_lt.mpr (by assumption) | with_reducible exact Nat.lt_of_le_of_lt (Nat.le_add_right _ _) (by assumption))
  trivial
namespace Mine
theorem rules_Tg_1 : True := by
  k_with "newList" => ((k_here; (first | (refine newList_K (F := by k_dflt (k_asm)) (N := by k_dflt (k_asm)) ?_ (hsz := by k_dflt (exact Nat.le_of_ble_eq_true rfl))) | (k_dflt (refine newList_K (F := by k_asm) (N := by k_asm) ?_ (hsz := by exact Nat.le_of_ble_eq_true rfl)))); intro _ _ _ _ l1qq; (try k_lt l1qq); (try k_sweep)))
  trivial
theorem rules_Tg_2 : True := by
  k_with "m sub" => ((intro p hp; repeat (first | exact hp | refine List.mem_cons_of_mem _ ?_)))
  k_with "m news" => ((refine cb_drop (N := by k_asm) ?_; walk_at "m sub"))
  k_with "m lt" => (first | assumption | exact ktn_ltOf (by assumption) | (refine ktn_ltOf ?_; simp only [AllLt, and_true] at *; simp only [*]))
  k_with "compareOp In ref ref" => ((k_here; (first | (refine in_parts (hp := by k_dflt (assumption)) (hi := by k_dflt (assumption)) (N := by k_dflt (walk_at "m news")) (N' := by k_dflt (k_asm)) (hE := by k_dflt (k_mem)) (hlt := by k_dflt (walk_at "m lt")) (hu := by k_dflt (ktr_units)) (hb := by k_dflt (first | exact (show _ = true from (congrArg Option.isSome (by assumption)).trans rfl) | exact (show _ = false from (congrArg Option.isSome (by assumption)).trans rfl))) ?_; k_whole) | (k_dflt (refine in_parts (hp := by assumption) (hi := by assumption) (N := by walk_at "m news") (N' := by k_asm) (hE := by k_mem) (hlt := by walk_at "m lt") (hu := by ktr_units) (hb := by first | exact (show _ = true from (congrArg Option.isSome (by assumption)).trans rfl) | exact (show _ = false from (congrArg Option.isSome (by assumption)).trans rfl)) ?_; k_whole)))))
  k_with "call builtin:list.index" => ((k_here; (first | (refine index_parts (hp := by k_dflt (assumption)) (hi := by k_dflt (assumption)) (N := by k_dflt (walk_at "m news")) (N' := by k_dflt (k_asm)) (hE := by k_dflt (k_mem)) (hlt := by k_dflt (walk_at "m lt")) (hu := by k_dflt (ktr_units)) (hj := by k_dflt (assumption)) (hs := by k_dflt (omega)) ?_; k_whole) | (k_dflt (refine index_parts (hp := by assumption) (hi := by assumption) (N := by walk_at "m news") (N' := by k_asm) (hE := by k_mem) (hlt := by walk_at "m lt") (hu := by ktr_units) (hj := by assumption) (hs := by omega) ?_; k_whole)))))
  k_with "getMethod ref" => ((k_here; (with_reducible show wpAny _ _ (getMethod (Value.ref _) (PySem.Str.ofString "index") _) _ _ _); (first | (refine index_method (hm := by k_dflt (assumption)) (N := by k_dflt (walk_at "m news")) ?_) | (k_dflt (refine index_method (hm := by assumption) (N := by walk_at "m news") ?_)))))
  k_with "m list" => ((refine News.isList (N := by k_asm) (hm := by repeat (first | assumption | exact List.Mem.head _ | refine List.mem_cons_of_mem _ ?_))))
  k_with "m small" => (first | exact Nat.le_of_ble_eq_true rfl | (simp only [List.size_toArray, sizeLine_eq, Array.length_toList]; omega) | (simp only [List.size_toArray, List.length_append, List.length_take, List.length_drop, All2.length (by assumption : All2 _ _ _), sizeLine_eq, Array.length_toList]; omega))
  k_with "subscriptTail Name Slice ref ref" => ((k_here; (with_reducible show wpAny _ _ (subscriptTail _ (PySem.Expr.Slice _ _ none _) (Value.ref _) (Value.ref _)) _ _ _); (first | (refine kms_slice_lit (F := by k_dflt (k_asm)) (N := by k_dflt (k_asm)) (hl := by k_dflt (walk_at "m list")) (pl := by k_dflt (kmk_part)) (pu := by k_dflt (kmk_part)) (e := by k_dflt (first | exact pick_to _ _ | exact pick_from1 _ _ | exact pick_from _ _)) ?_ (hs := by k_dflt (with_unfolding_all rfl)) (ht := by k_dflt (kmk_pure)) (hz := by k_dflt (walk_at "m small")); k_whole) | (k_dflt (refine kms_slice_lit (F := by k_asm) (N := by k_asm) (hl := by walk_at "m list") (pl := by kmk_part) (pu := by kmk_part) (e := by first | exact pick_to _ _ | exact pick_from1 _ _ | exact pick_from _ _) ?_ (hs := by with_unfolding_all rfl) (ht := by kmk_pure) (hz := by walk_at "m small"); k_whole))); intro _ _ _ _ l1qq; (try k_lt l1qq); (try k_sweep)))
  k_with "binaryOp Add ref ref" => ((k_here; (with_reducible show wpAny _ _ (binaryOp _ (Value.ref _) (Value.ref _)) _ _ _); (first | (refine kmk_add_lit (F := by k_dflt (k_asm)) (N := by k_dflt (k_asm)) (ha := by k_dflt (walk_at "m list")) (hb := by k_dflt (walk_at "m list")) (e := by k_dflt (exact add_e _ _)) ?_ (hz := by k_dflt (walk_at "m small"))) | (k_dflt (refine kmk_add_lit (F := by k_asm) (N := by k_asm) (ha := by walk_at "m list") (hb := by walk_at "m list") (e := by exact add_e _ _) ?_ (hz := by walk_at "m small")))); intro _ _ _ _ l1qq; (try k_lt l1qq); (try k_sweep)))
  k_with "call builtin:len" => ((k_here; (with_reducible show wpAny _ _ (call (Value.builtin "len") [Value.ref _]) _ _ _); (first | (refine len_lst (hl := by k_dflt (walk_at "m list")) (e := by k_dflt (assumption)) (hn := by k_dflt (omega)) ?_) | (k_dflt (refine len_lst (hl := by walk_at "m list") (e := by assumption) (hn := by omega) ?_))); intro _ _))
  k_with "CompSrcT" => ((refine Hold.of ?_))
  k_with "m place" => (first | exact Int.zero_add _ | exact (rfl : (0 : Int) = ((0 : Nat) : Int)) | exact (rfl : (1 : Int) = ((1 : Nat) : Int)))
  k_with "subscriptTail Name Name str int" => ((k_here; (first | (refine item_S (hk := by k_dflt (walk_at "m place")) (hc := by k_dflt (assumption)) (hl := by k_dflt (first | assumption | omega)) ?_ (hs := by k_dflt (with_unfolding_all rfl)) (hg := by k_dflt (kmk_pure))) | (k_dflt (refine item_S (hk := by walk_at "m place") (hc := by assumption) (hl := by first | assumption | omega) ?_ (hs := by with_unfolding_all rfl) (hg := by kmk_pure)))); intro _ _))
  k_with "m item" => ((k_here; (with_reducible show wpAny _ _ (subscriptTail _ _ (Value.ref _) (Value.int _ _)) _ _ _); (first | (refine item_L (hl := by k_dflt (walk_at "m list")) (hk := by k_dflt (walk_at "m place")) (hx := by k_dflt (first | assumption | exact rfl)) (hz := by k_dflt (first | exact Nat.le_of_ble_eq_true rfl | omega)) ?_ (hs := by k_dflt (with_unfolding_all rfl)) (hg := by k_dflt (kmk_pure))) | (k_dflt (refine item_L (hl := by walk_at "m list") (hk := by walk_at "m place") (hx := by first | assumption | exact rfl) (hz := by first | exact Nat.le_of_ble_eq_true rfl | omega) ?_ (hs := by with_unfolding_all rfl) (hg := by kmk_pure))))))
  k_with "subscriptTail Name Name ref int" => (walk_at "m item")
  k_with "subscriptTail Subscript Constant ref int" => (walk_at "m item")
  k_with "compareOp In str str" => ((k_here; (first | (refine in_S ?_) | (k_dflt (refine in_S ?_)))))
  k_with "m mem" => (repeat (first | assumption | exact List.Mem.head _ | refine List.mem_cons_of_mem _ ?_))
  k_with "compareOp Eq ref ref" => ((k_here; (first | (refine eq_nil (N := by k_dflt (k_asm)) (hD := by k_dflt (walk_at "m mem")) (hE := by k_dflt (walk_at "m mem")) (hu := by k_dflt (ktr_units)) ?_) | (k_dflt (refine eq_nil (N := by k_asm) (hD := by walk_at "m mem") (hE := by walk_at "m mem") (hu := by ktr_units) ?_)))))
  k_with "compareOp Eq bool bool" => ((k_here; (first | (refine PyProof.Rows.eq_bool ?_) | (k_dflt (refine PyProof.Rows.eq_bool ?_)))))
  k_with "subscriptTail Name Constant ref int" => (walk_at "m item")
  k_with "exec While" => ((refine Hold.of ?_))
  k_with "exec While Compare cons nil" => ((refine Hold.of ?_))
  k_with "m place" => (first | with_reducible exact (rfl : ((_ : Nat) : Int) = _) | with_reducible exact pl1 _ | with_reducible exact pl2 _ | with_reducible exact pl3 _ | with_reducible exact pl4 _ | exact (rfl : ((_ : Nat) : Int) = _) | exact pl1 _ | exact pl2 _ | exact pl3 _ | exact pl4 _)
  k_with "WhlIf" => ((first | (refine WhlIf.yes (h := by ((try simp only [decide_eq_true_eq, Bool.not_eq_true', decide_eq_false_iff_not, Bool.and_eq_true]); first | omega | assumption | rfl)) ?_) | (refine WhlIf.no (h := by ((try simp only [decide_eq_false_iff_not, Bool.not_eq_false']); first | omega | assumption | rfl)) ?_)))
  k_with "m perm" => ((refine cb_drop (N := by k_asm) ?_; repeat' (first | (refine List.forall_mem_cons.mpr (And.intro ?_ ?_)) | (walk_at "m mem"; done) | (walk_at "m sub"; done))))
  k_with "m lit" => (with_reducible first | exact l_star | exact l_qm | exact l_lb | exact l_rb | exact l_ex | exact l_dash | exact l_dot | exact l_hat | exact l_bs | exact l_bs2 | exact l_bsd | exact l_nil | exact l_dotstar | exact l_open | exact l_close | exact rfl)
  k_with "m same" => (first | rfl | ((try simp only [sg, decide_eq_true_eq, decide_eq_false_iff_not, Bool.not_eq_true', Bool.not_eq_false', Bool.not_true, Bool.not_false]); first | omega | assumption | (simp; done) | (simp; omega) | (simp [*]; done)))
  k_with "m sameF" => (first | (with_reducible exact hdF (by assumption)) | (with_reducible exact hdF (Ne.symm (by assumption))) | exact rfl)
  k_with "m nsameF" => (first | (with_reducible exact hdNT (by assumption)) | (with_reducible exact hdNT (Ne.symm (by assumption))) | exact rfl)
  k_with "compareOp Eq str str" => ((k_here; (first | (first | (refine eq_Sv false (hx := by k_dflt (walk_at "m lit")) (hy := by k_dflt (walk_at "m lit")) (hv := by k_dflt (walk_at "m sameF")) ?_) | (refine eq_Sv true (hx := by k_dflt (walk_at "m lit")) (hy := by k_dflt (walk_at "m lit")) (hv := by k_dflt (exact rfl)) ?_) | (refine eq_Sv true (hx := by k_dflt (walk_at "m lit")) (hy := by k_dflt (walk_at "m lit")) (hv := by k_dflt (walk_at "m same")) ?_) | (refine eq_Sv false (hx := by k_dflt (walk_at "m lit")) (hy := by k_dflt (walk_at "m lit")) (hv := by k_dflt (walk_at "m same")) ?_) | (refine eq_S (hx := by k_dflt (walk_at "m lit")) (hy := by k_dflt (walk_at "m lit")) ?_)) | (k_dflt (first | (refine eq_Sv false (hx := by walk_at "m lit") (hy := by walk_at "m lit") (hv := by walk_at "m sameF") ?_) | (refine eq_Sv true (hx := by walk_at "m lit") (hy := by walk_at "m lit") (hv := by exact rfl) ?_) | (refine eq_Sv true (hx := by walk_at "m lit") (hy := by walk_at "m lit") (hv := by walk_at "m same") ?_) | (refine eq_Sv false (hx := by walk_at "m lit") (hy := by walk_at "m lit") (hv := by walk_at "m same") ?_) | (refine eq_S (hx := by walk_at "m lit") (hy := by walk_at "m lit") ?_))))))
  k_with "compareOp NotEq str str" => ((k_here; (first | (first | (refine ne_Sv true (hx := by k_dflt (walk_at "m lit")) (hy := by k_dflt (walk_at "m lit")) (hv := by k_dflt (walk_at "m nsameF")) ?_) | (refine ne_Sv false (hx := by k_dflt (walk_at "m lit")) (hy := by k_dflt (walk_at "m lit")) (hv := by k_dflt (exact rfl)) ?_) | (refine ne_Sv true (hx := by k_dflt (walk_at "m lit")) (hy := by k_dflt (walk_at "m lit")) (hv := by k_dflt (walk_at "m same")) ?_) | (refine ne_Sv false (hx := by k_dflt (walk_at "m lit")) (hy := by k_dflt (walk_at "m lit")) (hv := by k_dflt (walk_at "m same")) ?_) | (refine ne_S (hx := by k_dflt (walk_at "m lit")) (hy := by k_dflt (walk_at "m lit")) ?_)) | (k_dflt (first | (refine ne_Sv true (hx := by walk_at "m lit") (hy := by walk_at "m lit") (hv := by walk_at "m nsameF") ?_) | (refine ne_Sv false (hx := by walk_at "m lit") (hy := by walk_at "m lit") (hv := by exact rfl) ?_) | (refine ne_Sv true (hx := by walk_at "m lit") (hy := by walk_at "m lit") (hv := by walk_at "m same") ?_) | (refine ne_Sv false (hx := by walk_at "m lit") (hy := by walk_at "m lit") (hv := by walk_at "m same") ?_) | (refine ne_S (hx := by walk_at "m lit") (hy := by walk_at "m lit") ?_))))))
  k_with "WhlRest" => (((with_reducible show WhlRest _ _ _ _ _ _ _ _ _ 0 _); refine Hold.of ?_))
  k_with "subscriptTail Name Slice str ref" => (((with_reducible show wpAny _ _ (subscriptTail _ (PySem.Expr.Slice (some _) (some _) none _) _ _) _ _ _); (with_reducible rename Fr _ _ _ _ => Fqq); (with_reducible rename News _ _ _ _ => Nqq); (refine slice_strN_ss (hsz := (by size_fits)) (s := ⟨_, _, _, _, _⟩) Fqq Nqq ?_); intro _ _ _ _ _; (with_reducible rename Txt.slice _ (some _) (some _) = _ => hsl9qq); rw [hsl9qq]))
  k_with "subscriptTail Name Slice str ref" => (((with_reducible show wpAny _ _ (subscriptTail _ (PySem.Expr.Slice (some _) none none _) _ _) _ _ _); (with_reducible rename Fr _ _ _ _ => Fqq); (with_reducible rename News _ _ _ _ => Nqq); (refine slice_strN_sn (hsz := (by size_fits)) (s := ⟨_, _, _, _, _⟩) Fqq Nqq ?_); intro _ _ _ _ _; (with_reducible rename Txt.slice _ (some _) none = _ => hsl9qq); rw [hsl9qq]))
  k_with "subscriptTail Name Slice str ref" => (((with_reducible show wpAny _ _ (subscriptTail _ (PySem.Expr.Slice none (some _) none _) _ _) _ _ _); (with_reducible rename Fr _ _ _ _ => Fqq); (with_reducible rename News _ _ _ _ => Nqq); (refine slice_strN_ns (hsz := (by size_fits)) (s := ⟨_, _, _, _, _⟩) Fqq Nqq ?_); intro _ _ _ _ _; (with_reducible rename Txt.slice _ none (some _) = _ => hsl9qq); rw [hsl9qq]))
  k_with "m sameF" => (first | (with_reducible exact hdF (by assumption)) | (with_reducible exact hdF (Ne.symm (by assumption))) | (with_reducible exact hd2F (by assumption)) | exact rfl)
  k_with "m place" => (first | with_reducible exact (rfl : ((_ : Nat) : Int) = _) | with_reducible exact pl1 _ | with_reducible exact pl2 _ | with_reducible exact pl3 _ | with_reducible exact pl0 _ | with_reducible exact pl01 _)
  k_with "inplaceOp Add str str" => ((k_here; (first | (refine iadd_S (hl := by k_dflt ((show _ + 1 ≤ _; omega))) ?_) | (k_dflt (refine iadd_S (hl := by (show _ + 1 ≤ _; omega)) ?_))); intro _ _))
  k_with "subscriptTail Name BinOp str int" => ((k_here; (first | (refine item_S (hk := by k_dflt (walk_at "m place")) (hc := by k_dflt (assumption)) (hl := by k_dflt (first | assumption | omega)) ?_ (hs := by k_dflt (with_unfolding_all rfl)) (hg := by k_dflt (kmk_pure))) | (k_dflt (refine item_S (hk := by walk_at "m place") (hc := by assumption) (hl := by first | assumption | omega) ?_ (hs := by with_unfolding_all rfl) (hg := by kmk_pure)))); intro _ _))
  k_with "exec While BoolOp cons nil" => ((refine Hold.of ?_))
  k_with "WhlRest" => ((((first | (refine whl_turn (hE := by k_dflt (assumption)) ?_) | (k_dflt (refine whl_turn (hE := by assumption) ?_)))); (try k_sweep)))
  k_with "WhlRest" => (((with_reducible show WhlRest _ _ _ _ _ _ _ _ _ 0 _); refine Hold.of ?_))
  trivial
noncomputable def sgStmts (K : Frag) : List Stmt := (els (nth 0 (els (nth 0 (els (nth 0 (thn (nth 2 (bodyAt K 97))))))))).drop 3
structure SgInv (X : List Nat) (es : List (Bool × Nat)) (b : Bool) (Kb : Nat) (pa : Addr) (news0 : Led) (s₀ : Shared) (n : Nat) (m : Str → Option Value) (news : Led) (s : Shared) : Prop where
  more : ∃ dn rs t1 t2 t3, es = dn ++ rs ∧ n = rs.length ∧ news = news0 ∧ m "text" = some (.str (S X) t1) ∧ m "parts" = some (.ref pa) ∧ m "barred" = some (.bool b) ∧ m "signs" = some (.str (S (dn.map (·.2))) t2) ∧ m "k" = some (.int ((Kb + (encs dn).length : Nat) : Int) t3)
  gens : s.gens = s₀.gens
  drawn : s.drawn = s₀.drawn
  os : s.os = s₀.os
theorem sg_step {X : List Nat} {es : List (Bool × Nat)} {b : Bool} {Kb : Nat} {pa : Addr} {news0 : Led} {s₀ : Shared} {m : Str → Option Value} {s : Shared} {dn rs : List (Bool × Nat)} {e : Bool × Nat} {t1 t2 t3 : Tok} {j : Int} {x : Str}
    (h1 : es = dn ++ e :: rs) (m1 : m "text" = some (.str (S X) t1)) (m2 : m "parts" = some (.ref pa)) (m3 : m "barred" = some (.bool b)) (m4 : m "signs" = some (.str x t2)) (m5 : m "k" = some (.int j t3)) (hx : x = S (dn.map (·.2) ++ [e.2])) (hj : j = ((Kb + ((encs dn).length + (encs [e]).length) : Nat) : Int))
    (g : s.gens = s₀.gens) (d : s.drawn = s₀.drawn) (o : s.os = s₀.os) : SgInv X es b Kb pa news0 s₀ rs.length m news0 s := by
  subst hx
  subst hj
  refine ⟨⟨dn ++ [e], rs, t1, t2, t3, by rw [h1]; simp, rfl, rfl, m1, m2, m3, by simpa using m4, ?_⟩, g, d, o⟩
  rw [encs_app, List.length_append]
  exact m5
theorem sg_loop (w : World) (mean : ExcName → Option Value) (mg mb : Str → Option Value) {dp un : Nat} {gd : Option (List Code)} {cn : Str} {cs : Scope} {L a : Addr} {ccd : Value} {cl : List (Str × Addr)} {outer : List Env} {base g : Heap} {L' : Addr} {m : Str → Option Value} {s : Shared} {Q : Flow → Shared → Prop} {E : Value → Shared → Prop}
    {more : Led} {pa : Addr} {its : List Value} {kk : Nat} {X : List Nat} {es : List (Bool × Nat)} {b : Bool} {Kb : Nat} {t1 t2 t3 : Tok}
    (B : Below (ktrTop dp un gd cn cs L a ccd cl outer) base (envX cn cs L a ccd cl :: outer) g) (F : Fr g L' s.heap m) (X1 : Frag.In (hd.heap_39 w.params) g) (T : Top topProg LooseL mean mg mb g)
    (N : News g L' s.heap ((pa, listOf its.toArray kk) :: more)) (hd0 : dp + 20 < recursionLimit) (hu : un + 200 < cLine) (hpa : ∀ p ∈ more, p.1 ≠ pa) (hz : its.length ≤ 1000)
    (hX : X.length ≤ 1000) (hin : ∀ i c, (encs es ++ [93])[i]? = some c → X[Kb + i]? = some c) (hne : es ≠ []) (hbare : ∀ e ∈ es, e.1 = false → e.2 ≠ 92) (htail : ∀ e ∈ es.tail, e.1 = false → e.2 ≠ 93)
    (hE : PassesOwn (model PySem.Challenge.rw_ij0088_01.row.prog w) ((ktrTop dp un gd cn cs L a ccd cl outer).deeper (envOf (Str.ofString "_law_parts") (scAt (_root_.Mine.hd.heap_39 w.params) 97) L' 97 (.ref 96))) (envOf (Str.ofString "_law_parts") (scAt (_root_.Mine.hd.heap_39 w.params) 97) L' 97 (.ref 96)) E)
    (m1 : m "text" = some (.str (S X) t1)) (m2 : m "parts" = some (.ref pa)) (m3 : m "barred" = some (.bool b)) (m4 : m "signs" = some (.str (Str.ofString "") t2)) (m5 : m "k" = some (.int ((Kb : Nat) : Int) t3))
    (ret : ∀ h' tk' m' d t t1' tk, Fr g L' h' m' → @LT.lt Nat _ pa d → News g L' h' ((d, listOf #[.bool b, .str (S (es.map (·.2))) t] 0) :: (pa, listOf (its ++ [Value.ref d]).toArray (kk + 1)) :: more) → m' "text" = some (.str (S X) t1') → m' "parts" = some (.ref pa) → m' "k" = some (.int (((Kb + (encs es).length : Nat) : Int) + 1) tk) → Q .next { s with heap := h', toks := tk' }) :
    wpAny (model PySem.Challenge.rw_ij0088_01.row.prog w) ((ktrTop dp un gd cn cs L a ccd cl outer).deeper (envOf (Str.ofString "_law_parts") (scAt (_root_.Mine.hd.heap_39 w.params) 97) L' 97 (.ref 96))) (execs (sgStmts (_root_.Mine.hd.heap_39 w.params)) (envOf (Str.ofString "_law_parts") (scAt (_root_.Mine.hd.heap_39 w.params) 97) L' 97 (.ref 96))) Q E s := by
  k_fill
  generalize hsc : scAt (_root_.Mine.hd.heap_39 w.params) 97 = sc
  rw [hsc] at hE
  conv at hsc => lhs; whnf
  subst hsc
  have hst : sgStmts (_root_.Mine.hd.heap_39 w.params) = sgStmts (_root_.Mine.hd.heap_39 w.params) := rfl
  conv at hst => rhs; whnf
  rw [hst]
  obtain ⟨hp1, g1, d1, tk1, o1⟩ := s
  k_steps
  unfold Hold
  refine whl_start 0 (whl_loop (SgInv X es b Kb pa ((pa, listOf its.toArray kk) :: more) ⟨hp1, g1, d1, tk1, o1⟩) es.length F (news₀ := (pa, listOf its.toArray kk) :: more) N ?_ ?_)
  · exact ⟨⟨[], es, _, _, _, rfl, rfl, rfl, m1, m2, m3, by rw [l_nil] at m4; exact m4, m5⟩, rfl, rfl, rfl⟩
  · intro n next m9 news9 s9 hI F1 N1
    obtain ⟨⟨dn, rs, t4, t5, t6, e1, e2, rfl, m1', m2', m3', m4', m5'⟩, hg1, hd1, ho1⟩ := hI
    obtain ⟨hp2, g2, d2, tk2, o2⟩ := s9
    dsimp only at hg1 hd1 ho1
    subst hg1 hd1 ho1
    have F2 := fr_canon [("text", _), ("parts", _), ("barred", _), ("signs", _), ("k", _)] F1 (all_cons m1' (all_cons m2' (all_cons m3' (all_cons m4' (all_cons m5' all_nil)))))
    clear F1
    have hlx : (dn.map (·.2)).length ≤ 1000 := by
      have h1 := hin (encs es).length 93 (by simp)
      have h2 : Kb + (encs es).length < X.length := by
        rcases Nat.lt_or_ge (Kb + (encs es).length) X.length with q | q
        · exact q
        · rw [List.getElem?_eq_none q] at h1; cases h1
      have h3 := encs_len es
      have h4 : es.length = dn.length + rs.length := by rw [e1]; simp
      rw [List.length_map]
      omega
    rcases rs with _ | ⟨⟨eb, ec⟩, rs⟩
    · have hdn : es = dn := by rw [e1]; simp
      have hx0 := hin (encs es).length 93 (by simp)
      rw [hdn] at hx0
      generalize hK : Kb + (encs dn).length = K at *
      have hes : es.map (·.2) = dn.map (·.2) := by rw [hdn]
      rcases dn with _ | ⟨d0, dn⟩
      · exact absurd hdn hne
      · k_steps
        (rename News _ _ _ _ => N9)
        (rename @LT.lt Nat _ pa _ ∧ AllLt _ _ => l9)
        simp only [List.push_toArray] at N9
        exact ret _ _ _ _ _ _ _ (by k_asm) l9.1 (by rw [hes]; exact N9) rfl rfl (by rw [hdn, hK]; rfl)
    · have hln : rs.length < n := by rw [e2]; exact Nat.lt_succ_self _
      have hget : ∀ i c, (encs [(eb, ec)])[i]? = some c → X[Kb + (encs dn).length + i]? = some c := fun i c h => by
        have hi : i < (encs [(eb, ec)]).length := by
          rcases Nat.lt_or_ge i (encs [(eb, ec)]).length with q | q
          · exact q
          · rw [List.getElem?_eq_none q] at h; cases h
        rw [Nat.add_assoc]
        refine hin _ _ ?_
        rw [e1, show dn ++ (eb, ec) :: rs = dn ++ ([(eb, ec)] ++ rs) from rfl, encs_app, encs_app, List.append_assoc, List.getElem?_append_right (by omega), Nat.add_sub_cancel_left, List.append_assoc, List.getElem?_append_left hi]
        exact h
      generalize hK : Kb + (encs dn).length = K at *
      rcases dn with _ | ⟨d0, dn⟩
      · cases eb with
        | true =>
          have hx0 := hget 0 92 rfl
          have hx1 := hget 1 ec rfl
          rw [Nat.add_zero] at hx0
          k_steps
          unfold Hold
          refine next rs.length _ _ _ hln (sg_step e1 rfl rfl rfl rfl rfl rfl ?hj1 rfl rfl rfl) (by k_asm) (by k_asm)
          case hj1 => (show _ = ((Kb + (_ + 2) : Nat) : Int); omega)
        | false =>
          have hx0 := hget 0 ec rfl
          rw [Nat.add_zero] at hx0
          have k92 : ec ≠ 92 := hbare (false, ec) (by rw [e1]; simp) rfl
          k_steps
          unfold Hold
          refine next rs.length _ _ _ hln (sg_step e1 rfl rfl rfl rfl rfl rfl ?hj2 rfl rfl rfl) (by k_asm) (by k_asm)
          case hj2 => (show _ = ((Kb + (_ + 1) : Nat) : Int); omega)
      · cases eb with
        | true =>
          have hx0 := hget 0 92 rfl
          have hx1 := hget 1 ec rfl
          rw [Nat.add_zero] at hx0
          k_steps
          unfold Hold
          refine next rs.length _ _ _ hln (sg_step e1 rfl rfl rfl rfl rfl rfl ?hj3 rfl rfl rfl) (by k_asm) (by k_asm)
          case hj3 => (show _ = ((Kb + (_ + 2) : Nat) : Int); omega)
        | false =>
          have hx0 := hget 0 ec rfl
          rw [Nat.add_zero] at hx0
          have k92 : ec ≠ 92 := hbare (false, ec) (by rw [e1]; simp) rfl
          have k93 : ec ≠ 93 := htail (false, ec) (by rw [e1]; simp) rfl
          k_steps
          unfold Hold
          refine next rs.length _ _ _ hln (sg_step e1 rfl rfl rfl rfl rfl rfl ?hj4 rfl rfl rfl) (by k_asm) (by k_asm)
          case hj4 => (show _ = ((Kb + (_ + 1) : Nat) : Int); omega)

end Mine
end
section
theorem Mine.begin_T4 : True := by
  w_top off
  k_with_none
  k_with "omega" => (first | with_reducible assumption | with_reducible exact Nat.le_trans (by assumption) (Nat.le_of_ble_eq_true rfl) | with_reducible exact Nat.le_refl _ | with_reducible exact Nat.ne_of_gt (by assumption) | with_reducible exact Nat.ne_of_lt (by assumption) | with_reducible exact Ne.symm (by assumption) | with_reducible exact Int.ofNat_lt.mpr (by assumption) | with_reducible exact Nat.lt_of_le_of_lt (Nat.le_add_right _ _) (by assumption))
  trivial
namespace Mine
theorem rules_T4_1 : True := by
  k_with "newList" => ((k_here; (first | (refine newList_K (F := by k_dflt (k_asm)) (N := by k_dflt (k_asm)) ?_ (hsz := by k_dflt (exact Nat.le_of_ble_eq_true rfl))) | (k_dflt (refine newList_K (F := by k_asm) (N := by k_asm) ?_ (hsz := by exact Nat.le_of_ble_eq_true rfl)))); intro _ _ _ _ l1qq; (try k_lt l1qq); (try k_sweep)))
  trivial
theorem rules_T4_2 : True := by
  k_with "m sub" => ((intro p hp; repeat (first | exact hp | refine List.mem_cons_of_mem _ ?_)))
  k_with "m news" => ((refine cb_drop (N := by k_asm) ?_; walk_at "m sub"))
  k_with "m lt" => (first | assumption | exact ktn_ltOf (by assumption) | (refine ktn_ltOf ?_; simp only [AllLt, and_true] at *; simp only [*]))
  k_with "compareOp In ref ref" => ((k_here; (first | (refine in_parts (hp := by k_dflt (assumption)) (hi := by k_dflt (assumption)) (N := by k_dflt (walk_at "m news")) (N' := by k_dflt (k_asm)) (hE := by k_dflt (k_mem)) (hlt := by k_dflt (walk_at "m lt")) (hu := by k_dflt (ktr_units)) (hb := by k_dflt (first | exact (show _ = true from (congrArg Option.isSome (by assumption)).trans rfl) | exact (show _ = false from (congrArg Option.isSome (by assumption)).trans rfl))) ?_; k_whole) | (k_dflt (refine in_parts (hp := by assumption) (hi := by assumption) (N := by walk_at "m news") (N' := by k_asm) (hE := by k_mem) (hlt := by walk_at "m lt") (hu := by ktr_units) (hb := by first | exact (show _ = true from (congrArg Option.isSome (by assumption)).trans rfl) | exact (show _ = false from (congrArg Option.isSome (by assumption)).trans rfl)) ?_; k_whole)))))
  k_with "call builtin:list.index" => ((k_here; (first | (refine index_parts (hp := by k_dflt (assumption)) (hi := by k_dflt (assumption)) (N := by k_dflt (walk_at "m news")) (N' := by k_dflt (k_asm)) (hE := by k_dflt (k_mem)) (hlt := by k_dflt (walk_at "m lt")) (hu := by k_dflt (ktr_units)) (hj := by k_dflt (assumption)) (hs := by k_dflt (omega)) ?_; k_whole) | (k_dflt (refine index_parts (hp := by assumption) (hi := by assumption) (N := by walk_at "m news") (N' := by k_asm) (hE := by k_mem) (hlt := by walk_at "m lt") (hu := by ktr_units) (hj := by assumption) (hs := by omega) ?_; k_whole)))))
  k_with "getMethod ref" => ((k_here; (with_reducible show wpAny _ _ (getMethod (Value.ref _) (PySem.Str.ofString "index") _) _ _ _); (first | (refine index_method (hm := by k_dflt (assumption)) (N := by k_dflt (walk_at "m news")) ?_) | (k_dflt (refine index_method (hm := by assumption) (N := by walk_at "m news") ?_)))))
  k_with "m list" => ((refine News.isList (N := by k_asm) (hm := by repeat (first | assumption | exact List.Mem.head _ | refine List.mem_cons_of_mem _ ?_))))
  k_with "m small" => (first | exact Nat.le_of_ble_eq_true rfl | (simp only [List.size_toArray, sizeLine_eq, Array.length_toList]; omega) | (simp only [List.size_toArray, List.length_append, List.length_take, List.length_drop, All2.length (by assumption : All2 _ _ _), sizeLine_eq, Array.length_toList]; omega))
  k_with "subscriptTail Name Slice ref ref" => ((k_here; (with_reducible show wpAny _ _ (subscriptTail _ (PySem.Expr.Slice _ _ none _) (Value.ref _) (Value.ref _)) _ _ _); (first | (refine kms_slice_lit (F := by k_dflt (k_asm)) (N := by k_dflt (k_asm)) (hl := by k_dflt (walk_at "m list")) (pl := by k_dflt (kmk_part)) (pu := by k_dflt (kmk_part)) (e := by k_dflt (first | exact pick_to _ _ | exact pick_from1 _ _ | exact pick_from _ _)) ?_ (hs := by k_dflt (with_unfolding_all rfl)) (ht := by k_dflt (kmk_pure)) (hz := by k_dflt (walk_at "m small")); k_whole) | (k_dflt (refine kms_slice_lit (F := by k_asm) (N := by k_asm) (hl := by walk_at "m list") (pl := by kmk_part) (pu := by kmk_part) (e := by first | exact pick_to _ _ | exact pick_from1 _ _ | exact pick_from _ _) ?_ (hs := by with_unfolding_all rfl) (ht := by kmk_pure) (hz := by walk_at "m small"); k_whole))); intro _ _ _ _ l1qq; (try k_lt l1qq); (try k_sweep)))
  k_with "binaryOp Add ref ref" => ((k_here; (with_reducible show wpAny _ _ (binaryOp _ (Value.ref _) (Value.ref _)) _ _ _); (first | (refine kmk_add_lit (F := by k_dflt (k_asm)) (N := by k_dflt (k_asm)) (ha := by k_dflt (walk_at "m list")) (hb := by k_dflt (walk_at "m list")) (e := by k_dflt (exact add_e _ _)) ?_ (hz := by k_dflt (walk_at "m small"))) | (k_dflt (refine kmk_add_lit (F := by k_asm) (N := by k_asm) (ha := by walk_at "m list") (hb := by walk_at "m list") (e := by exact add_e _ _) ?_ (hz := by walk_at "m small")))); intro _ _ _ _ l1qq; (try k_lt l1qq); (try k_sweep)))
  k_with "call builtin:len" => ((k_here; (with_reducible show wpAny _ _ (call (Value.builtin "len") [Value.ref _]) _ _ _); (first | (refine len_lst (hl := by k_dflt (walk_at "m list")) (e := by k_dflt (assumption)) (hn := by k_dflt (omega)) ?_) | (k_dflt (refine len_lst (hl := by walk_at "m list") (e := by assumption) (hn := by omega) ?_))); intro _ _))
  k_with "CompSrcT" => ((refine Hold.of ?_))
  k_with "m place" => (first | exact Int.zero_add _ | exact (rfl : (0 : Int) = ((0 : Nat) : Int)) | exact (rfl : (1 : Int) = ((1 : Nat) : Int)))
  k_with "subscriptTail Name Name str int" => ((k_here; (first | (refine item_S (hk := by k_dflt (walk_at "m place")) (hc := by k_dflt (assumption)) (hl := by k_dflt (first | assumption | omega)) ?_ (hs := by k_dflt (with_unfolding_all rfl)) (hg := by k_dflt (kmk_pure))) | (k_dflt (refine item_S (hk := by walk_at "m place") (hc := by assumption) (hl := by first | assumption | omega) ?_ (hs := by with_unfolding_all rfl) (hg := by kmk_pure)))); intro _ _))
  k_with "m item" => ((k_here; (with_reducible show wpAny _ _ (subscriptTail _ _ (Value.ref _) (Value.int _ _)) _ _ _); (first | (refine item_L (hl := by k_dflt (walk_at "m list")) (hk := by k_dflt (walk_at "m place")) (hx := by k_dflt (first | assumption | exact rfl)) (hz := by k_dflt (first | exact Nat.le_of_ble_eq_true rfl | omega)) ?_ (hs := by k_dflt (with_unfolding_all rfl)) (hg := by k_dflt (kmk_pure))) | (k_dflt (refine item_L (hl := by walk_at "m list") (hk := by walk_at "m place") (hx := by first | assumption | exact rfl) (hz := by first | exact Nat.le_of_ble_eq_true rfl | omega) ?_ (hs := by with_unfolding_all rfl) (hg := by kmk_pure))))))
  k_with "subscriptTail Name Name ref int" => (walk_at "m item")
  k_with "subscriptTail Subscript Constant ref int" => (walk_at "m item")
  k_with "compareOp In str str" => ((k_here; (first | (refine in_S ?_) | (k_dflt (refine in_S ?_)))))
  k_with "m mem" => (repeat (first | assumption | exact List.Mem.head _ | refine List.mem_cons_of_mem _ ?_))
  k_with "compareOp Eq ref ref" => ((k_here; (first | (refine eq_nil (N := by k_dflt (k_asm)) (hD := by k_dflt (walk_at "m mem")) (hE := by k_dflt (walk_at "m mem")) (hu := by k_dflt (ktr_units)) ?_) | (k_dflt (refine eq_nil (N := by k_asm) (hD := by walk_at "m mem") (hE := by walk_at "m mem") (hu := by ktr_units) ?_)))))
  k_with "compareOp Eq bool bool" => ((k_here; (first | (refine PyProof.Rows.eq_bool ?_) | (k_dflt (refine PyProof.Rows.eq_bool ?_)))))
  k_with "subscriptTail Name Constant ref int" => (walk_at "m item")
  k_with "call ref" => ((refine Hold.of ?_))
  k_with "exec While" => ((refine Hold.of ?_))
  k_with "exec While Compare cons nil" => ((refine Hold.of ?_))
  k_with "m place" => (first | with_reducible exact (rfl : ((_ : Nat) : Int) = _) | with_reducible exact pl1 _ | with_reducible exact pl2 _ | with_reducible exact pl3 _ | with_reducible exact pl4 _ | exact (rfl : ((_ : Nat) : Int) = _) | exact pl1 _ | exact pl2 _ | exact pl3 _ | exact pl4 _)
  k_with "WhlIf" => ((first | (refine WhlIf.yes (h := by ((try simp only [decide_eq_true_eq, Bool.not_eq_true', decide_eq_false_iff_not, Bool.and_eq_true]); first | omega | assumption | rfl)) ?_) | (refine WhlIf.no (h := by ((try simp only [decide_eq_false_iff_not, Bool.not_eq_false']); first | omega | assumption | rfl)) ?_)))
  k_with "m perm" => ((refine cb_drop (N := by k_asm) ?_; repeat' (first | (refine List.forall_mem_cons.mpr (And.intro ?_ ?_)) | (walk_at "m mem"; done) | (walk_at "m sub"; done))))
  k_with "m lit" => (with_reducible first | exact l_star | exact l_qm | exact l_lb | exact l_rb | exact l_ex | exact l_dash | exact l_dot | exact l_hat | exact l_bs | exact l_bs2 | exact l_bsd | exact l_nil | exact l_dotstar | exact l_open | exact l_close | exact rfl)
  k_with "m same" => (first | rfl | ((try simp only [sg, decide_eq_true_eq, decide_eq_false_iff_not, Bool.not_eq_true', Bool.not_eq_false', Bool.not_true, Bool.not_false]); first | omega | assumption | (simp; done) | (simp; omega) | (simp [*]; done)))
  k_with "m sameF" => (first | (with_reducible exact hdF (by assumption)) | (with_reducible exact hdF (Ne.symm (by assumption))) | exact rfl)
  k_with "m nsameF" => (first | (with_reducible exact hdNT (by assumption)) | (with_reducible exact hdNT (Ne.symm (by assumption))) | exact rfl)
  k_with "compareOp Eq str str" => ((k_here; (first | (first | (refine eq_Sv false (hx := by k_dflt (walk_at "m lit")) (hy := by k_dflt (walk_at "m lit")) (hv := by k_dflt (walk_at "m sameF")) ?_) | (refine eq_Sv true (hx := by k_dflt (walk_at "m lit")) (hy := by k_dflt (walk_at "m lit")) (hv := by k_dflt (exact rfl)) ?_) | (refine eq_Sv true (hx := by k_dflt (walk_at "m lit")) (hy := by k_dflt (walk_at "m lit")) (hv := by k_dflt (walk_at "m same")) ?_) | (refine eq_Sv false (hx := by k_dflt (walk_at "m lit")) (hy := by k_dflt (walk_at "m lit")) (hv := by k_dflt (walk_at "m same")) ?_) | (refine eq_S (hx := by k_dflt (walk_at "m lit")) (hy := by k_dflt (walk_at "m lit")) ?_)) | (k_dflt (first | (refine eq_Sv false (hx := by walk_at "m lit") (hy := by walk_at "m lit") (hv := by walk_at "m sameF") ?_) | (refine eq_Sv true (hx := by walk_at "m lit") (hy := by walk_at "m lit") (hv := by exact rfl) ?_) | (refine eq_Sv true (hx := by walk_at "m lit") (hy := by walk_at "m lit") (hv := by walk_at "m same") ?_) | (refine eq_Sv false (hx := by walk_at "m lit") (hy := by walk_at "m lit") (hv := by walk_at "m same") ?_) | (refine eq_S (hx := by walk_at "m lit") (hy := by walk_at "m lit") ?_))))))
  k_with "compareOp NotEq str str" => ((k_here; (first | (first | (refine ne_Sv true (hx := by k_dflt (walk_at "m lit")) (hy := by k_dflt (walk_at "m lit")) (hv := by k_dflt (walk_at "m nsameF")) ?_) | (refine ne_Sv false (hx := by k_dflt (walk_at "m lit")) (hy := by k_dflt (walk_at "m lit")) (hv := by k_dflt (exact rfl)) ?_) | (refine ne_Sv true (hx := by k_dflt (walk_at "m lit")) (hy := by k_dflt (walk_at "m lit")) (hv := by k_dflt (walk_at "m same")) ?_) | (refine ne_Sv false (hx := by k_dflt (walk_at "m lit")) (hy := by k_dflt (walk_at "m lit")) (hv := by k_dflt (walk_at "m same")) ?_) | (refine ne_S (hx := by k_dflt (walk_at "m lit")) (hy := by k_dflt (walk_at "m lit")) ?_)) | (k_dflt (first | (refine ne_Sv true (hx := by walk_at "m lit") (hy := by walk_at "m lit") (hv := by walk_at "m nsameF") ?_) | (refine ne_Sv false (hx := by walk_at "m lit") (hy := by walk_at "m lit") (hv := by exact rfl) ?_) | (refine ne_Sv true (hx := by walk_at "m lit") (hy := by walk_at "m lit") (hv := by walk_at "m same") ?_) | (refine ne_Sv false (hx := by walk_at "m lit") (hy := by walk_at "m lit") (hv := by walk_at "m same") ?_) | (refine ne_S (hx := by walk_at "m lit") (hy := by walk_at "m lit") ?_))))))
  k_with "WhlRest" => (((with_reducible show WhlRest _ _ _ _ _ _ _ _ _ 0 _); refine Hold.of ?_))
  k_with "subscriptTail Name Slice str ref" => (((with_reducible show wpAny _ _ (subscriptTail _ (PySem.Expr.Slice (some _) (some _) none _) _ _) _ _ _); (with_reducible rename Fr _ _ _ _ => Fqq); (with_reducible rename News _ _ _ _ => Nqq); (refine slice_strN_ss (hsz := (by size_fits)) (s := ⟨_, _, _, _, _⟩) Fqq Nqq ?_); intro _ _ _ _ _; (with_reducible rename Txt.slice _ (some _) (some _) = _ => hsl9qq); rw [hsl9qq]))
  k_with "subscriptTail Name Slice str ref" => (((with_reducible show wpAny _ _ (subscriptTail _ (PySem.Expr.Slice (some _) none none _) _ _) _ _ _); (with_reducible rename Fr _ _ _ _ => Fqq); (with_reducible rename News _ _ _ _ => Nqq); (refine slice_strN_sn (hsz := (by size_fits)) (s := ⟨_, _, _, _, _⟩) Fqq Nqq ?_); intro _ _ _ _ _; (with_reducible rename Txt.slice _ (some _) none = _ => hsl9qq); rw [hsl9qq]))
  k_with "subscriptTail Name Slice str ref" => (((with_reducible show wpAny _ _ (subscriptTail _ (PySem.Expr.Slice none (some _) none _) _ _) _ _ _); (with_reducible rename Fr _ _ _ _ => Fqq); (with_reducible rename News _ _ _ _ => Nqq); (refine slice_strN_ns (hsz := (by size_fits)) (s := ⟨_, _, _, _, _⟩) Fqq Nqq ?_); intro _ _ _ _ _; (with_reducible rename Txt.slice _ none (some _) = _ => hsl9qq); rw [hsl9qq]))
  k_with "m sameF" => (first | (with_reducible exact hdF (by assumption)) | (with_reducible exact hdF (Ne.symm (by assumption))) | (with_reducible exact hd2F (by assumption)) | exact rfl)
  k_with "m place" => (first | with_reducible exact (rfl : ((_ : Nat) : Int) = _) | with_reducible exact pl1 _ | with_reducible exact pl2 _ | with_reducible exact pl3 _ | with_reducible exact pl0 _ | with_reducible exact pl01 _)
  k_with "inplaceOp Add str str" => ((k_here; (first | (refine iadd_S (hl := by k_dflt ((show _ + 1 ≤ _; omega))) ?_) | (k_dflt (refine iadd_S (hl := by (show _ + 1 ≤ _; omega)) ?_))); intro _ _))
  k_with "subscriptTail Name BinOp str int" => ((k_here; (first | (refine item_S (hk := by k_dflt (walk_at "m place")) (hc := by k_dflt (assumption)) (hl := by k_dflt (first | assumption | omega)) ?_ (hs := by k_dflt (with_unfolding_all rfl)) (hg := by k_dflt (kmk_pure))) | (k_dflt (refine item_S (hk := by walk_at "m place") (hc := by assumption) (hl := by first | assumption | omega) ?_ (hs := by with_unfolding_all rfl) (hg := by kmk_pure)))); intro _ _))
  k_with "execs cons" => ((k_here; (with_reducible show wpAny _ _ (execs (Stmt.While (PySem.Expr.BoolOp _ _ _) _ _ _ :: _) _) _ _ _); refine Hold.of ?_))
  trivial
noncomputable def PartsPost (ps : List Pc) (rest : Led) (_news news' : Led) (r : Value) : Prop :=
  ∃ pa T' rest', r = .ref pa ∧ news' = (71, tabObj T') :: rest' ∧ TabOk trKs T' rest' ∧ (∀ p ∈ rest, p ∈ rest') ∧ (∀ p ∈ rest', p.1 ≠ 71) ∧ PartsAt rest' pa (partsOf ps)
/-- between the turns of the loop over the expression's text -/
structure LpInv (ps : List Pc) (T2 : Array Value) (rest2 : Led) (o₀ : OsState) (n : Nat) (m : Str → Option Value) (news : Led) (s : Shared) : Prop where
  more : ∃ pa its kk xs dn rst t1 tk, ps = dn ++ rst ∧ n = rst.length ∧ news = (pa, listOf its.toArray kk) :: (xs ++ (71, tabObj T2) :: rest2) ∧ All2 (PartAt xs) its (partsOf dn) ∧ (∀ p ∈ xs ++ (71, tabObj T2) :: rest2, p.1 ≠ pa) ∧ (∀ p ∈ xs, p.1 ≠ 71) ∧ @LT.lt Nat _ 71 pa ∧ its.length ≤ 1000 ∧
    m "text" = some (.str (S (textX ps)) t1) ∧ m "parts" = some (.ref pa) ∧ m "k" = some (.int ((posX dn : Nat) : Int) tk)
  os : s.os = o₀
  gens : AllBare s.gens
theorem swap2 {a b : Addr × Obj} {l : Led} : ∀ p ∈ a :: b :: l, p ∈ b :: a :: l := by
  intro p hp
  rcases List.mem_cons.mp hp with rfl | hp
  · exact .tail _ (.head _)
  rcases List.mem_cons.mp hp with rfl | hp
  · exact .head _
  · exact .tail _ (.tail _ hp)
theorem lp_step {ps : List Pc} {T2 : Array Value} {rest2 : Led} {o₀ : OsState} {m : Str → Option Value} {s : Shared} {pa d : Addr} {o : Obj} {its : List Value} {kk : Nat} {xs : Led} {dn rst : List Pc} {p : Pc} {t1 tk : Tok} {j : Int}
    (h8 : ps = dn ++ p :: rst) (h9 : All2 (PartAt xs) its (partsOf dn)) (h4 : ∀ p ∈ xs ++ (71, tabObj T2) :: rest2, p.1 ≠ pa) (h5 : ∀ p ∈ xs, p.1 ≠ 71) (h6 : @LT.lt Nat _ 71 pa) (h7 : @LT.lt Nat _ pa d) (hps : ps.length ≤ 100)
    (hv : PartAt [(d, o)] (.ref d) p.part) (hos : s.os = o₀) (hg : AllBare s.gens)
    (m1 : m "text" = some (.str (S (textX ps)) t1)) (m2 : m "parts" = some (.ref pa)) (m3 : m "k" = some (.int j tk)) (hj : j = ((posX dn + p.tr.length : Nat) : Int)) :
    LpInv ps T2 rest2 o₀ rst.length m ((pa, listOf (its ++ [Value.ref d]).toArray kk) :: (((d, o) :: xs) ++ (71, tabObj T2) :: rest2)) s := by
  subst hj
  rw [← posX_next] at m3
  have hl := h9.length
  have h2 : All2 (PartAt ((d, o) :: xs)) (its ++ [Value.ref d]) (partsOf (dn ++ [p])) := by
    have e : partsOf (dn ++ [p]) = partsOf dn ++ [p.part] := by simp [partsOf]
    rw [e]
    exact (h9.mono fun _ _ => PartAt.mono fun p hp => .tail _ hp).app (.cons (hv.mono fun p hp => by simpa using (Or.inl (by simpa using hp))) .nil)
  refine ⟨⟨pa, _, kk, (d, o) :: xs, dn ++ [p], rst, t1, tk, by rw [h8]; simp, rfl, rfl, h2, ?_, ?_, h6, ?_, m1, m2, m3⟩, hos, hg⟩
  · exact List.forall_mem_cons.mpr ⟨Nat.ne_of_gt h7, h4⟩
  · exact List.forall_mem_cons.mpr ⟨Nat.ne_of_gt (Nat.lt_trans h6 h7), h5⟩
  · have h1 : ps.length = dn.length + rst.length + 1 := by rw [h8]; simp; omega
    have h3 : (partsOf dn).length = dn.length := by simp [partsOf]
    simp
    omega
theorem parts_gives (w : World) (mean : ExcName → Option Value) (mg mb : Str → Option Value) (l : List Nat) (ps : List Pc) (t : Tok) (T : Array Value) (rest : Led) (hl : l = textOf ps) (hx : l.length ≤ 400) (hps : ps.length ≤ 100) (hpok : ∀ p ∈ ps, p.ok) (hone : OneStar ps) :
   GivesG 40 w mean mg mb 97 [.str (S l) t] (fun news => news = (71, tabObj T) :: rest ∧ TabOk trKs T rest ∧ ∀ p ∈ rest, p.1 ≠ 71) (PartsPost ps rest) := by
  unfold GivesG
  k_fill
  intro dp un gd cn cs a ccd cl outer A₀ base h₀ L m news s Q E B F X N Tp hk hp hG hd hu hret
  have hx2 : (S l).length ≤ 1000 := by rw [S_len]; omega
  obtain ⟨rfl, hTab, h71⟩ := hp
  obtain ⟨hp0, g0, d0, tk0, o0⟩ := s
  refine wpAny_call ?_
  k_dflt ktr_enter
  k_steps
  unfold Hold
  (rename Fr _ _ _ _ => F1)
  (rename News _ _ _ _ => N1)
  refine' givesG_use (translate_gives w mean mg mb l ps _ T _ hl (by omega) (by omega) hpok hone) ?B1 F1 ?X1 N1 ?T1 ?k1 ⟨rfl, hTab, h71⟩ hG ?d1 ?u1 ?_
  case B1 => k_asm
  case X1 => k_asm
  case T1 => k_asm
  case k1 => exact rfl
  case d1 => ktr_room
  case u1 => ktr_units
  intro r1 n1 s1 F2 N2 ho1 hg1 hP1
  obtain ⟨T2, rest2, ⟨t1, rfl⟩, rfl, hT2, hs2, h712⟩ := hP1
  obtain ⟨hp1, g1, d1, tk1, o1⟩ := s1
  clear F1 N1
  rw [show [40, 63, 115, 58] ++ trOf ps ++ [41, 92, 90] = textX ps from rfl]
  have ho := textX_open ps
  have hc := textX_close ps
  have hXl : (textX ps).length ≤ 1000 := by
    have := sum_tr ps
    have e : (trOf ps).length = ((ps.map Pc.tr).map List.length).sum := by rw [← tr_flat, List.length_flatten]
    simp only [textX, List.length_append, e, List.length_cons, List.length_nil]
    omega
  have hXs : (S (textX ps)).length ≤ 1000 := by rw [S_len]; exact hXl
  k_steps
  unfold Hold
  (rename Fr _ _ _ _ => F1)
  (rename News _ _ _ _ => N1)
  (rename @LT.lt Nat _ 71 _ ∧ AllLt _ rest2 => l2)
  refine whl_start 0 (whl_loop (LpInv ps T2 rest2 o0) ps.length F1 (news₀ := (_, listOf [].toArray 0) :: ([] ++ (71, tabObj T2) :: rest2)) (by walk_at "m perm") ?_ ?_)
  · refine ⟨⟨_, [], 0, [], [], ps, _, _, rfl, rfl, rfl, .nil, ?_, ?_, l2.1, by decide, rfl, rfl, rfl⟩, ho1, hg1⟩
    · exact List.forall_mem_cons.mpr ⟨Nat.ne_of_lt l2.1, ne_all l2.2 (Nat.le_refl _)⟩
    · intro _ h
      cases h
  · intro n next m1 news1 s1 hI F1 N1
    obtain ⟨⟨pa, its, kk, xs, dn, rst, t2, tk, e1, e2, rfl, hits, hpa, hxs, h71pa, hz, m1t, m1p, m1k⟩, hos, hgs⟩ := hI
    have F2 := fr_canon [("text", _), ("parts", _), ("k", _)] F1 (all_cons m1t (all_cons m1p (all_cons m1k all_nil)))
    clear F1
    obtain ⟨hp3, g3, d3, tk3, o3⟩ := s1
    rcases rst with _ | ⟨p, rst⟩
    · have hdn : ps = dn := by rw [e1]; simp
      have hlen : (S (textX ps)).length = posX dn + 3 := by rw [S_len, hdn]; simp [textX, posX]; omega
      k_steps
      all_goals (try (exfalso; omega))
      refine hret _ ((71, tabObj T2) :: ((pa, listOf its.toArray kk) :: (xs ++ rest2))) _ (by k_asm) (cb_drop (by k_asm) ?_) hos hgs ⟨pa, T2, _, rfl, rfl, ?_, ?_, ?_, ?_⟩
      · intro q hq
        rcases List.mem_cons.mp hq with rfl | hq
        · exact .tail _ (List.mem_append.mpr (.inr (.head _)))
        rcases List.mem_cons.mp hq with rfl | hq
        · exact .head _
        rcases List.mem_append.mp hq with hq | hq
        · exact .tail _ (List.mem_append.mpr (.inl hq))
        · exact .tail _ (List.mem_append.mpr (.inr (.tail _ hq)))
      · exact hT2.sub fun q hq => .tail _ (List.mem_append.mpr (.inr hq))
      · exact fun q hq => .tail _ (List.mem_append.mpr (.inr (hs2 q hq)))
      · refine List.forall_mem_cons.mpr ⟨Nat.ne_of_gt h71pa, fun q hq => ?_⟩
        rcases List.mem_append.mp hq with hq | hq
        · exact hxs q hq
        · exact h712 q hq
      · exact ⟨its, kk, .head _, by rw [hdn]; exact hits.mono fun _ _ => PartAt.mono fun q hq => .tail _ (List.mem_append.mpr (.inl hq))⟩
    · have hpk : p.ok := hpok p (by rw [e1]; simp)
      have hln : rst.length < n := by rw [e2]; exact Nat.lt_succ_self _
      have hlen : (S (textX ps)).length = posX dn + p.tr.length + (trOf rst).length + 3 := by rw [S_len, e1]; exact textX_len dn p rst
      have hat : ∀ i c, p.tr[i]? = some c → (textX ps)[posX dn + i]? = some c := fun i c h => by
        rw [e1, textX_at dn p rst i ?_]
        · exact h
        · rcases Nat.lt_or_ge i p.tr.length with q | q
          · exact q
          · rw [List.getElem?_eq_none q] at h; cases h
      obtain ⟨cn, hcn, hcn42⟩ := textX_next dn p rst
      rw [← e1] at hcn
      have hkind : (∃ b es, SetForm p b es) ∨ (∃ c, p = .lit c ∧ c ≠ 91 ∧ c ≠ 42 ∧ c ≠ 63) ∨ p = .any ∨ p = .star := by
        rcases p with c | c | _ | _ | c | c
        · exact .inr (.inl ⟨c, rfl, hpk⟩)
        · obtain ⟨es, h⟩ := form_brk hpk
          exact .inl ⟨_, es, h⟩
        · exact .inr (.inr (.inl rfl))
        · exact .inr (.inr (.inr rfl))
        · obtain ⟨es, h⟩ := form_bar c
          exact .inl ⟨_, es, h⟩
        · obtain ⟨es, h⟩ := form_dot c
          exact .inl ⟨_, es, h⟩
      rcases hkind with ⟨b, es, hf⟩ | ⟨c, rfl, k91, k42, k63⟩ | rfl | rfl
      · cases b with
        | true =>
          have htr : p.tr = 91 :: 94 :: (encs es ++ [93]) := hf.tr
          have hx1 := hat 1 94 (by rw [htr]; rfl)
          have hx0 := hat 0 91 (by rw [htr]; rfl)
          rw [Nat.add_zero] at hx0
          have hln2 : (S (textX ps)).length = posX dn + 2 + (encs es).length + 1 + (trOf rst).length + 3 := by rw [hlen, htr]; simp; omega
          have hsl : Txt.slice (S (textX ps)) (some ((posX dn : Nat) : Int)) (some (((posX dn : Nat) : Int) + 2)) = S [91, 94] := slice_two hx0 hx1
          clear hlen hcn
          k_steps
          unfold Hold
          (rename News _ _ _ _ => N9)
          (rename Fr _ _ _ _ => F9)
          refine sg_loop w mean mg mb (its := its) (kk := kk) (pa := pa) (more := xs ++ (71, tabObj T2) :: rest2) (X := textX ps) (es := es) (b := true) (Kb := posX dn + 2) (by k_asm) F9 (by k_asm) (by k_asm) (cb_drop N9 (by walk_at "m sub")) (by omega) (by omega) hpa hz hXl ?hin11 hf.ne hf.bare hf.tail (by first | passes_own | with_unfolding_all passes_own) rfl rfl rfl rfl rfl ?ret11
          case hin11 =>
            intro i c h
            rw [show posX dn + 2 + i = posX dn + (i + 2) by omega]
            exact hat (i + 2) c (by rw [htr]; exact h)
          case ret11 =>
            intro h7 tk7 m7 d7 t7 t7' tk7' F7 l7 N7 q1 q2 q3
            k_steps
            unfold Hold
            refine next rst.length _ _ _ hln (lp_step e1 hits hpa hxs h71pa l7 hps (by rw [hf.part]; exact ⟨_, _, rfl, .head _⟩) hos hgs q1 q2 q3 ?hj11) F7 (cb_drop N7 swap2)
            case hj11 => (rw [htr]; simp; omega)
        | false =>
          have htr : p.tr = 91 :: (encs es ++ [93]) := hf.tr
          obtain ⟨c0, r0, hc0, k94⟩ := hf.head rfl
          have hx1 := hat 1 c0 (by rw [htr, hc0]; rfl)
          have hx0 := hat 0 91 (by rw [htr]; rfl)
          rw [Nat.add_zero] at hx0
          have hln2 : (S (textX ps)).length = posX dn + 1 + (encs es).length + 1 + (trOf rst).length + 3 := by rw [hlen, htr]; simp; omega
          have hsl : Txt.slice (S (textX ps)) (some ((posX dn : Nat) : Int)) (some (((posX dn : Nat) : Int) + 2)) = S [91, c0] := slice_two hx0 hx1
          clear hlen hcn
          k_steps
          unfold Hold
          (rename News _ _ _ _ => N9)
          (rename Fr _ _ _ _ => F9)
          refine sg_loop w mean mg mb (its := its) (kk := kk) (pa := pa) (more := xs ++ (71, tabObj T2) :: rest2) (X := textX ps) (es := es) (b := false) (Kb := posX dn + 1) (by k_asm) F9 (by k_asm) (by k_asm) (cb_drop N9 (by walk_at "m sub")) (by omega) (by omega) hpa hz hXl ?hin12 hf.ne hf.bare hf.tail (by first | passes_own | with_unfolding_all passes_own) rfl rfl rfl rfl rfl ?ret12
          case hin12 =>
            intro i c h
            rw [show posX dn + 1 + i = posX dn + (i + 1) by omega]
            exact hat (i + 1) c (by rw [htr]; exact h)
          case ret12 =>
            intro h7 tk7 m7 d7 t7 t7' tk7' F7 l7 N7 q1 q2 q3
            k_steps
            unfold Hold
            refine next rst.length _ _ _ hln (lp_step e1 hits hpa hxs h71pa l7 hps (by rw [hf.part]; exact ⟨_, _, rfl, .head _⟩) hos hgs q1 q2 q3 ?hj12) F7 (cb_drop N7 swap2)
            case hj12 => (rw [htr]; simp; omega)
      · rcases Decidable.em (c ∈ specials) with hc | hc
        · have htr : (Pc.lit c).tr = [92, c] := if_pos hc
          have hx0 := hat 0 92 (by rw [htr]; rfl)
          have hx1 := hat 1 c (by rw [htr]; rfl)
          rw [Nat.add_zero] at hx0
          rw [htr] at hlen
          have hln2 : (S (textX ps)).length = posX dn + 5 + (trOf rst).length := by rw [hlen]; show posX dn + 2 + _ + 3 = _; omega
          have hsl : Txt.slice (S (textX ps)) (some ((posX dn : Nat) : Int)) (some (((posX dn : Nat) : Int) + 2)) = S [92, c] := slice_two hx0 hx1
          clear hlen
          k_steps
          unfold Hold
          (rename News _ _ _ _ => N9)
          (rename @LT.lt Nat _ pa _ ∧ AllLt _ _ => l9)
          simp only [List.push_toArray] at N9
          refine next rst.length _ _ _ hln (lp_step e1 hits hpa hxs h71pa l9.1 hps ?hv1 hos hgs rfl rfl rfl ?hj1) (by k_asm) (cb_drop N9 swap2)
          case hv1 => exact ⟨_, _, rfl, .head _⟩
          case hj1 => (simp [Pc.tr, esc, hc]; try omega)
        · have htr : (Pc.lit c).tr = [c] := if_neg hc
          have hx0 := hat 0 c (by rw [htr]; rfl)
          rw [Nat.add_zero] at hx0
          rw [htr] at hlen hcn
          have hln2 : (S (textX ps)).length = posX dn + 4 + (trOf rst).length := by rw [hlen]; show posX dn + 1 + _ + 3 = _; omega
          have k46 : c ≠ 46 := fun e => hc (by rw [e]; decide)
          have k92 : c ≠ 92 := fun e => hc (by rw [e]; decide)
          have hsl : Txt.slice (S (textX ps)) (some ((posX dn : Nat) : Int)) (some (((posX dn : Nat) : Int) + 2)) = S [c, cn] := slice_two hx0 hcn
          clear hlen
          k_steps
          unfold Hold
          (rename News _ _ _ _ => N9)
          (rename @LT.lt Nat _ pa _ ∧ AllLt _ _ => l9)
          simp only [List.push_toArray] at N9
          refine next rst.length _ _ _ hln (lp_step e1 hits hpa hxs h71pa l9.1 hps ?hv2 hos hgs rfl rfl rfl ?hj2) (by k_asm) (cb_drop N9 swap2)
          case hv2 => exact ⟨_, _, rfl, .head _⟩
          case hj2 => (simp [Pc.tr, esc, hc]; try omega)
      · have htr : Pc.any.tr = [46] := rfl
        have hx0 := hat 0 46 rfl
        rw [Nat.add_zero] at hx0
        rw [htr] at hlen hcn
        have hln2 : (S (textX ps)).length = posX dn + 4 + (trOf rst).length := by rw [hlen]; show posX dn + 1 + _ + 3 = _; omega
        have hsl : Txt.slice (S (textX ps)) (some ((posX dn : Nat) : Int)) (some (((posX dn : Nat) : Int) + 2)) = S [46, cn] := slice_two hx0 hcn
        clear hlen
        k_steps
        unfold Hold
        (rename News _ _ _ _ => N9)
        (rename @LT.lt Nat _ pa _ ∧ AllLt _ _ => l9)
        simp only [List.push_toArray] at N9
        refine next rst.length _ _ _ hln (lp_step e1 hits hpa hxs h71pa l9.1 hps ?hv3 hos hgs rfl rfl rfl ?hj3) (by k_asm) (cb_drop N9 swap2)
        case hv3 => exact ⟨_, _, rfl, by rw [l_nil]; exact .head _⟩
        case hj3 => (simp [Pc.tr]; try omega)
      · have htr : Pc.star.tr = [46, 42] := rfl
        have hx0 := hat 0 46 rfl
        have hx1 := hat 1 42 rfl
        rw [Nat.add_zero] at hx0
        rw [htr] at hlen
        have hln2 : (S (textX ps)).length = posX dn + 5 + (trOf rst).length := by rw [hlen]; show posX dn + 2 + _ + 3 = _; omega
        have hsl : Txt.slice (S (textX ps)) (some ((posX dn : Nat) : Int)) (some (((posX dn : Nat) : Int) + 2)) = S [46, 42] := slice_two hx0 hx1
        clear hlen
        k_steps
        unfold Hold
        (rename News _ _ _ _ => N9)
        (rename @LT.lt Nat _ pa _ ∧ AllLt _ _ => l9)
        simp only [List.push_toArray] at N9
        refine next rst.length _ _ _ hln (lp_step e1 hits hpa hxs h71pa l9.1 hps ?hv4 hos hgs rfl rfl rfl ?hj4) (by k_asm) (cb_drop N9 swap2)
        case hv4 => exact ⟨_, rfl, .head _⟩
        case hj4 => (simp [Pc.tr]; try omega)

end Mine
end
section
theorem Mine.begin_Ln : True := by
  w_top off
  k_with_none
  k_with "omega" => (first | with_reducible assumption | with_reducible exact Nat.le_trans (by assumption) (Nat.le_of_ble_eq_true rfl) | with_reducible exact Nat.le_refl _ | with_reducible exact Nat.ne_of_gt (by assumption) | with_reducible exact Nat.ne_of_lt (by assumption) | with_reducible exact Ne.symm (by assumption) | with_reducible exact Int.ofNat_lt.mpr (by assumption) | with_reducible exact Nat.lt_of_le_of_lt (Nat.le_add_right _ _) (by assumption))
  trivial
namespace Mine
theorem rules_Ln_1 : True := by
  k_with "newList" => ((k_here; (first | (refine newList_K (F := by k_dflt (k_asm)) (N := by k_dflt (k_asm)) ?_ (hsz := by k_dflt (exact Nat.le_of_ble_eq_true rfl))) | (k_dflt (refine newList_K (F := by k_asm) (N := by k_asm) ?_ (hsz := by exact Nat.le_of_ble_eq_true rfl)))); intro _ _ _ _ l1qq; (try k_lt l1qq); (try k_sweep)))
  k_with "m srch1" => (first | with_reducible assumption | with_reducible exact List.mem_cons_self | (with_reducible refine List.mem_append.mpr (Or.inl ?_); walk_at "m srch1"; done) | (with_reducible refine List.mem_append.mpr (Or.inr ?_); walk_at "m srch1"; done) | (with_reducible refine List.mem_cons_of_mem _ ?_; walk_at "m srch1"; done))
  k_with "m srch" => (first | (walk_at "m srch1"; done) | (repeat (first | exact List.Mem.head _ | refine List.mem_cons_of_mem _ ?_); done))
  k_with "m all" => (repeat' (first | (with_reducible refine List.forall_mem_cons.mpr (And.intro ?_ ?_)) | (with_reducible refine List.forall_mem_append.mpr (And.intro ?_ ?_)) | (walk_at "m srch"; done) | (intro p hp; walk_at "m srch"; done) | exact fun _ hp => nomatch hp))
  trivial
theorem rules_Ln_2 : True := by
  k_with "CompSrc" => ((refine Hold.of ?_))
  trivial
theorem off1_mem {D : Addr} : ∀ {l : List (Addr × Obj)}, LCg.Off1 D l → ∀ p ∈ l, p.1 ≠ D
  | [], _, _, h => nomatch h
  | _ :: _, x, p, h => by
    rcases List.mem_cons.mp h with rfl | h
    · exact x.1
    · exact off1_mem x.2 p h
theorem item_012 {prog : Program} {w : World} {A : Around} {E : Value → Shared → Prop} {s : Shared} {value slice : PySem.Expr} {i : Nat} {t u : Tok} {Q : Value → Shared → Prop} (hi : i < 3) (h : ∀ t k, Q (.str (S [48 + i]) t) { s with toks := k })
    (hs : subscripted slice false (.str (Str.ofString "012") t) (.int (i : Int) u) = operate [.str (Str.ofString "012") t, .int (i : Int) u] (getItem (.str (Str.ofString "012") t) (.int (i : Int) u))) (hg : ∀ r, letTemporaryGo value (.str (Str.ofString "012") t) r = pure ()) : wpAny (model prog w) A (subscriptTail value slice (.str (Str.ofString "012") t) (.int (i : Int) u)) Q E s := by
  revert hs hg
  rw [l_012]
  intro hs hg
  refine item_S rfl ?_ (by decide) h hs hg
  rcases i with _ | _ | _ | i
  · rfl
  · rfl
  · rfl
  · omega
theorem which_mem {n i : Nat} : (decide (48 + i ∈ whichStr n)) = decide (i ∈ whichOf n) := by
  unfold whichStr
  rw [Bool.eq_iff_iff, decide_eq_true_eq, decide_eq_true_eq, List.mem_map]
  constructor
  · rintro ⟨a, ha, e⟩
    have : a = i := by omega
    exact this ▸ ha
  · exact fun h => ⟨i, h, rfl⟩
theorem in_which {prog : Program} {w : World} {A : Around} {E : Value → Shared → Prop} {s : Shared} {n i : Nat} {t u : Tok} {Q : Value → Shared → Prop} (h : Q (.bool (decide (i ∈ whichOf n))) s) : wpAny (model prog w) A (compareOp .In (.str (S [48 + i]) u) (.str (S (whichStr n)) t)) Q E s := in_S (by rw [which_mem]; exact h)
theorem rules_Ln_3 : True := by
  k_with "compareOp In str str" => ((k_here; (first | (refine in_which ?_) | (k_dflt (refine in_which ?_)))))
  k_with "subscriptTail Name Name ref int" => ((k_here; (with_reducible show wpAny _ _ (subscriptTail _ _ (Value.ref _) (Value.int _ _)) _ _ _); (first | (refine item_L (hl := by k_dflt (walk_at "m list")) (hk := by k_dflt (exact rfl)) (hx := by k_dflt (assumption)) (hz := by k_dflt (omega)) ?_ (hs := by k_dflt (with_unfolding_all rfl)) (hg := by k_dflt (kmk_pure))) | (k_dflt (refine item_L (hl := by walk_at "m list") (hk := by exact rfl) (hx := by assumption) (hz := by omega) ?_ (hs := by with_unfolding_all rfl) (hg := by kmk_pure))))))
  k_with "subscriptTail Name Name str int" => ((k_here; (first | (refine item_012 (hi := by k_dflt (assumption)) ?_ (hs := by k_dflt (with_unfolding_all rfl)) (hg := by k_dflt (kmk_pure))) | (k_dflt (refine item_012 (hi := by assumption) ?_ (hs := by with_unfolding_all rfl) (hg := by kmk_pure)))); intro _ _))
  k_with "subscriptTail Constant Name str int" => ((k_here; (first | (refine item_012 (hi := by k_dflt (assumption)) ?_ (hs := by k_dflt (with_unfolding_all rfl)) (hg := by k_dflt (kmk_pure))) | (k_dflt (refine item_012 (hi := by assumption) ?_ (hs := by with_unfolding_all rfl) (hg := by kmk_pure)))); intro _ _))
  trivial
noncomputable def Mark : Prop := True
theorem Mark.get : Mark := trivial
theorem Subscript_N {prog : Program} {w : World} {A : Around} {E : Value → Shared → Prop} {s : Shared} {env : Env} {value slice : PySem.Expr} {pos : Pos} {Q : Value → Shared → Prop}
    (h : wpAny (model prog w) A (eval value env) (fun o s₁ => wpAny (model prog w) A (eval slice env) (fun i s₂ => wpAny (model prog w) A (subscriptTail (PySem.Expr.Name (PySem.Str.ofString "_") ⟨0, 0, 0, 0⟩) slice o i) Q E s₂) E s₁) E s) : wpAny (model prog w) A (eval (.Subscript value slice pos) env) Q E s :=
  Subscript_ (wpAny_mono h (fun _ _ h1 => wpAny_mono h1 (fun _ _ h2 => kba_turn (fun _ => rfl) h2) fun _ _ e => e) fun _ _ e => e)
theorem rules_Ln_4 : True := by
  k_with "eval Subscript" => ((refine Subscript_N ?_))
  k_with "subscriptTail Name BinOp str int" => ((k_here; (first | (refine item_sign (n := _) (hj := by k_dflt (assumption)) (hx := by k_dflt (exact Int.toNat_natCast _)) ?_ (hs := by k_dflt ((intro _; with_unfolding_all rfl))) (hg := by k_dflt ((intro _; kmk_pure)))) | (k_dflt (refine item_sign (n := _) (hj := by assumption) (hx := by exact Int.toNat_natCast _) ?_ (hs := by (intro _; with_unfolding_all rfl)) (hg := by (intro _; kmk_pure))))); intro _ _))
  k_with "m list" => ((refine News.isList (N := by k_asm) (hm := by repeat (first | assumption | exact List.Mem.head _ | refine List.mem_cons_of_mem _ ?_))))
  k_with "subscriptTail Name BinOp ref int" => ((k_here; (first | (refine item_which (n := _) (hl := by k_dflt (walk_at "m list")) (hj := by k_dflt (assumption)) ?_ (hs := by k_dflt (with_unfolding_all rfl)) (hg := by k_dflt (kmk_pure))) | (k_dflt (refine item_which (n := _) (hl := by walk_at "m list") (hj := by assumption) ?_ (hs := by with_unfolding_all rfl) (hg := by kmk_pure)))); intro _))
  k_with "eval IfExp" => (((fail_if_success (have hmark9 : Mark := by assumption)); refine Hold.of ?_))
  trivial
noncomputable def numBody (K : Frag) : List Stmt := thn (nth 2 (bodyAt K 107))
noncomputable abbrev lawSc (K : Frag) : Scope := scAt K 107
theorem num_turn (w : World) (mean : ExcName → Option Value) (mg mb : Str → Option Value) {fa L : Addr} {cd : Value} {g : Heap} {m : Str → Option Value} {s : Shared} {Q : Flow → Shared → Prop} {E : Value → Shared → Prop}
    {more : Led} {o1 o2 o3 : Obj} {tl : Addr} {k : Nat} {t0 t1 t2 : List Nat} {u0 u1 u2 tn : Tok} {n : Nat} {c2 c3 : Option Value}
    (B : Below callerA g [] g) (F : Fr g L s.heap m) (X : Frag.In (hd.heap_39 w.params) g) (T : Top topProg LooseL mean mg mb g)
    (N : News g L s.heap ((L + 1, o1) :: (L + 2, o2) :: (L + 3, o3) :: (tl, listOf #[.str (S t0) u0, .str (S t1) u1, .str (S t2) u2] k) :: more))
    (hd1 : o1.data = .cell (some (.ref tl))) (hd2 : o2.data = .cell c2) (hd3 : o3.data = .cell c3) (hm1 : ∀ p ∈ more, p.1 ≠ L + 1) (hm2 : ∀ p ∈ more, p.1 ≠ L + 2) (hm3 : ∀ p ∈ more, p.1 ≠ L + 3) (htl : @Ne Nat tl (L + 1) ∧ @Ne Nat tl (L + 2) ∧ @Ne Nat tl (L + 3)) (ht0 : t0.length ≤ 100) (ht1 : t1.length ≤ 100) (ht2 : t2.length ≤ 100) (mn : m "number" = some (.int (n : Int) tn)) {nv : Value} (mns : m "numbers" = some nv) (hn : n < 1000000000)
    (ret : ∀ h' tk' m' o1' o2' o3' c2' c3' tl' u0' u1' u2' k', Fr g L h' m' → m' "numbers" = some nv → News g L h' ((L + 1, o1') :: (L + 2, o2') :: (L + 3, o3') :: (tl', listOf #[.str (S (addSign n 0 t0)) u0', .str (S (addSign n 1 t1)) u1', .str (S (addSign n 2 t2)) u2'] k') :: more) →
      o1'.data = .cell (some (.ref tl')) → o2'.data = .cell c2' → o3'.data = .cell c3' → (@Ne Nat tl' (L + 1) ∧ @Ne Nat tl' (L + 2) ∧ @Ne Nat tl' (L + 3)) → (∀ p ∈ more, p.1 ≠ tl') → Q .next { s with heap := h', toks := tk' }) :
    wpAny (model PySem.Challenge.rw_ij0088_01.row.prog w) (callerA.deeper (envOfC (Str.ofString "law") (lawSc (_root_.Mine.hd.heap_39 w.params)) L fa cd)) (execs (numBody (_root_.Mine.hd.heap_39 w.params)) (envOfC (Str.ofString "law") (lawSc (_root_.Mine.hd.heap_39 w.params)) L fa cd)) Q E s := by
  k_fill
  generalize hsc : lawSc (_root_.Mine.hd.heap_39 w.params) = sc
  conv at hsc => lhs; whnf
  subst hsc
  have hst : numBody (_root_.Mine.hd.heap_39 w.params) = numBody (_root_.Mine.hd.heap_39 w.params) := rfl
  conv at hst => rhs; whnf
  rw [hst]
  obtain ⟨hp1, g1, d1, tk1, o1⟩ := s
  obtain ⟨htl1, htl2, htl3⟩ := htl
  have F2 := fr_canon [("number", _), ("numbers", _)] F (all_cons mn (all_cons mns all_nil))
  clear mn mns F
  have hj16 : ((n : Int)).fmod 16 = ((n % 16 : Nat) : Int) := by rw [Int.fmod_eq_emod_of_nonneg _ (by decide)]; rfl
  have hj8 : (((n : Int)).fdiv 16).fmod 8 = ((n / 16 % 8 : Nat) : Int) := by rw [Int.fdiv_eq_ediv_of_nonneg _ (by decide), Int.fmod_eq_emod_of_nonneg _ (by decide)]; rfl
  have hpt : (((n : Int)).fdiv 128).fmod 1112064 = ((n / 128 % 1112064 : Nat) : Int) := by rw [Int.fdiv_eq_ediv_of_nonneg _ (by decide), Int.fmod_eq_emod_of_nonneg _ (by decide)]; rfl
  have hpl := pointOf_lt n
  k_steps
  unfold Hold
  (rename Fr _ _ _ _ => F1)
  (rename News _ _ _ _ => N1)
  have hmk := Mark.get
  refine turn_via (fun v => ∃ t, v = Value.int ((pointOf n : Nat) : Int) t) F1 N1 ?_ ?_
  · k_steps
    · exact TurnEnd.of (by k_asm) (by k_asm) ⟨_, congrArg (Value.int · _) (by rw [hpt]; unfold pointOf; rw [if_pos (by omega)]; rfl)⟩
    · exact TurnEnd.of (by k_asm) (by k_asm) ⟨_, congrArg (Value.int · _) (by rw [hpt]; unfold pointOf; rw [if_neg (by omega)])⟩
  clear F1 N1
  rintro v h8 tk8 ⟨u8, rfl⟩ F8 N8
  k_steps
  unfold Hold
  refine LCg.CompSrc.range (n := 3) rfl (by k_asm) (by k_asm) (by assumption) (by decide) (by rfl) (by rw [PySem.sizeLine_eq]; omega) ?_
  intro g9
  refine compG_inv (fun i ys => All2 (fun v t => ∃ u, v = Value.str (S t) u) ys ([addSign n 0 t0, addSign n 1 t1, addSign n 2 t2].take i)) .nil ?turn ?fin
  case turn =>
    intro i v I oI C oC D m2 ys h tk E' hi hv hy hC hx F9 N9 off ne
    obtain ⟨tv, rfl⟩ := hv
    have hi0 : (0 : Int) + (i : Int) = ((i : Nat) : Int) := Int.zero_add _
    rw [hi0] at hx
    obtain ⟨ti, ui, hti, hadd⟩ : ∃ ti ui, ([Value.str (S t0) u0, .str (S t1) u1, .str (S t2) u2] : List Value)[i]? = some (.str (S ti) ui) ∧ ([addSign n 0 t0, addSign n 1 t1, addSign n 2 t2] : List (List Nat))[i]? = some (addSign n i ti) ∧ ti.length ≤ 100 := by
      rcases i with _ | _ | _ | i
      · exact ⟨_, _, rfl, rfl, ht0⟩
      · exact ⟨_, _, rfl, rfl, ht1⟩
      · exact ⟨_, _, rfl, rfl, ht2⟩
      · omega
    obtain ⟨hadd, hlen⟩ := hadd
    refine turn_via (fun y => ∃ u, y = Value.str (S (addSign n i ti)) u) F9 N9 ?_ ?_
    · k_steps
      · refine TurnEnd.of (by k_asm) (by k_asm) ⟨_, congrArg (Value.str · _) ?_⟩
        unfold addSign
        rw [if_pos (by assumption), S_app]
      · refine TurnEnd.of (by k_asm) (by k_asm) ⟨_, congrArg (Value.str · _) ?_⟩
        unfold addSign
        rw [if_neg (by assumption)]
    · rintro y h8 tk8 ⟨u, rfl⟩ F8 N8
      refine ⟨h8, tk8, _, rfl, F8, N8, off, trivial, rfl, ?_⟩
      rw [List.take_succ, hadd]
      exact hy.app (.cons ⟨u, rfl⟩ .nil)
  case fin =>
    intro ys hys D h9 tk9 F9 N9 o9
    obtain ⟨v0, v1, v2, ⟨w0, rfl⟩, ⟨w1, rfl⟩, ⟨w2, rfl⟩, rfl⟩ : ∃ v0 v1 v2, (∃ u, v0 = Value.str (S (addSign n 0 t0)) u) ∧ (∃ u, v1 = Value.str (S (addSign n 1 t1)) u) ∧ (∃ u, v2 = Value.str (S (addSign n 2 t2)) u) ∧ ys = [v0, v1, v2] := by
      rcases hys with _ | ⟨a, _ | ⟨b, _ | ⟨c, _ | _⟩⟩⟩
      exact ⟨_, _, _, a, b, c, rfl⟩
    simp only [LCg.Off1] at o9
    obtain ⟨o91, o92, o93, o94, o95, o96⟩ := o9
    k_steps
    (rename News _ _ _ _ => N8)
    (rename _ = Data.cell (some (Value.ref D)) => d8)
    (rename _ = Data.cell (some (Value.str (S [signOf n]) _)) => d2)
    (rename _ = Data.cell (some (Value.str (S (whichStr n)) _)) => d3)
    refine ret _ _ _ _ _ _ _ _ D w0 w1 w2 3 (by k_asm) rfl (cb_drop N8 ?_) d8 d2 d3 ⟨Ne.symm o92, Ne.symm o93, Ne.symm o94⟩ (fun p hp => (off1_mem o96 p hp))
    walk_at "m all"

end Mine
end
section
theorem Mine.begin_Lf : True := by
  w_top off
  k_with_none
  k_with "omega" => (first | with_reducible assumption | with_reducible exact Nat.le_trans (by assumption) (Nat.le_of_ble_eq_true rfl) | with_reducible exact Nat.le_refl _ | with_reducible exact Nat.ne_of_gt (by assumption) | with_reducible exact Nat.ne_of_lt (by assumption) | with_reducible exact Ne.symm (by assumption) | with_reducible exact Int.ofNat_lt.mpr (by assumption) | with_reducible exact Nat.lt_of_le_of_lt (Nat.le_add_right _ _) (by assumption))
  trivial
namespace Mine
theorem rules_Lf_1 : True := by
  k_with "newList" => ((k_here; (first | (refine newList_K (F := by k_dflt (k_asm)) (N := by k_dflt (k_asm)) ?_ (hsz := by k_dflt (exact Nat.le_of_ble_eq_true rfl))) | (k_dflt (refine newList_K (F := by k_asm) (N := by k_asm) ?_ (hsz := by exact Nat.le_of_ble_eq_true rfl)))); intro _ _ _ _ l1qq; (try k_lt l1qq); (try k_sweep)))
  k_with "m srch1" => (first | with_reducible assumption | with_reducible exact List.mem_cons_self | (with_reducible refine List.mem_append.mpr (Or.inl ?_); walk_at "m srch1"; done) | (with_reducible refine List.mem_append.mpr (Or.inr ?_); walk_at "m srch1"; done) | (with_reducible refine List.mem_cons_of_mem _ ?_; walk_at "m srch1"; done))
  k_with "m srch" => (first | (walk_at "m srch1"; done) | (repeat (first | exact List.Mem.head _ | refine List.mem_cons_of_mem _ ?_); done))
  k_with "m all" => (repeat' (first | (with_reducible refine List.forall_mem_cons.mpr (And.intro ?_ ?_)) | (with_reducible refine List.forall_mem_append.mpr (And.intro ?_ ?_)) | (walk_at "m srch"; done) | (intro p hp; walk_at "m srch"; done) | exact fun _ hp => nomatch hp))
  trivial
theorem rules_Lf_2 : True := by
  k_with "execs cons" => ((refine Hold.of ?_))
  trivial
theorem ints_at : ∀ {ws : List Value} {ns : List Int} {i : Nat} {v : Value}, IntsAre ws ns → ws[i]? = some v → ∃ n t, ns[i]? = some n ∧ v = .int n t := by
  intro ws ns i v H h
  induction H generalizing i with
  | nil => cases h
  | cons n t _ ih =>
    cases i with
    | zero => exact ⟨n, t, rfl, (Option.some.inj h).symm⟩
    | succ i => exact ih h
theorem all_cons' {P : Addr × Obj → Prop} {a : Addr × Obj} {l : Led} (h : P a) (r : ∀ p ∈ l, P p) : ∀ p ∈ a :: l, P p := List.forall_mem_cons.mpr ⟨h, r⟩
/-- the numbers' loop -/
structure NumJ (g : Heap) (L nl : Addr) (ns : List Nat) (more : Led) (o₀ : OsState) (i : Nat) (m : Str → Option Value) (news : Led) (s : Shared) : Prop where
  st : ∃ o1 o2 o3 c2 c3 tl k u0 u1 u2, news = (L + 1, o1) :: (L + 2, o2) :: (L + 3, o3) :: (tl, listOf #[.str (S (textOfNums (ns.take i) 0)) u0, .str (S (textOfNums (ns.take i) 1)) u1, .str (S (textOfNums (ns.take i) 2)) u2] k) :: more ∧
    o1.data = .cell (some (.ref tl)) ∧ o2.data = .cell c2 ∧ o3.data = .cell c3 ∧ (@Ne Nat tl (L + 1) ∧ @Ne Nat tl (L + 2) ∧ @Ne Nat tl (L + 3)) ∧ (∀ p ∈ more, p.1 ≠ tl)
  nums : m "numbers" = some (.ref nl)
  os : s.os = o₀
  gens : AllBare s.gens
theorem law_for (w : World) (mean : ExcName → Option Value) (mg mb : Str → Option Value) {fa L : Addr} {cd : Value} {g : Heap} {m : Str → Option Value} {s : Shared} {Q : Flow → Shared → Prop} {E : Value → Shared → Prop}
    {more : Led} {o1 o2 o3 : Obj} {tl nl : Addr} {k kn : Nat} {u0 u1 u2 : Tok} {ns : List Nat} {ws : List Value} {c2 c3 : Option Value}
    (B : Below callerA g [] g) (F : Fr g L s.heap m) (X : Frag.In (hd.heap_39 w.params) g) (T : Top topProg LooseL mean mg mb g)
    (N : News g L s.heap ((L + 1, o1) :: (L + 2, o2) :: (L + 3, o3) :: (tl, listOf #[.str (S []) u0, .str (S []) u1, .str (S []) u2] k) :: more))
    (hd1 : o1.data = .cell (some (.ref tl))) (hd2 : o2.data = .cell c2) (hd3 : o3.data = .cell c3) (hm1 : ∀ p ∈ more, p.1 ≠ L + 1) (hm2 : ∀ p ∈ more, p.1 ≠ L + 2) (hm3 : ∀ p ∈ more, p.1 ≠ L + 3) (htl : @Ne Nat tl (L + 1) ∧ @Ne Nat tl (L + 2) ∧ @Ne Nat tl (L + 3)) (hmt : ∀ p ∈ more, p.1 ≠ tl)
    (hnl : (nl, listOf ws.toArray kn) ∈ more) (hws : IntsAre ws (ns.map fun n => ((n : Nat) : Int))) (hns : ∀ n ∈ ns, n < 1000000000) (hln : ns.length ≤ 100) (mn : m "numbers" = some (.ref nl)) (hg : AllBare s.gens)
    (hE : PassesOwn (model PySem.Challenge.rw_ij0088_01.row.prog w) (callerA.deeper (envOfC (Str.ofString "law") (lawSc (_root_.Mine.hd.heap_39 w.params)) L fa cd)) (envOfC (Str.ofString "law") (lawSc (_root_.Mine.hd.heap_39 w.params)) L fa cd) E)
    (ret : ∀ m' news' s', NumJ g L nl ns more s.os ns.length m' news' s' → Fr g L s'.heap m' → News g L s'.heap news' → Q .next s') :
    wpAny (model PySem.Challenge.rw_ij0088_01.row.prog w) (callerA.deeper (envOfC (Str.ofString "law") (lawSc (_root_.Mine.hd.heap_39 w.params)) L fa cd)) (exec (nth 2 (bodyAt (_root_.Mine.hd.heap_39 w.params) 107)) (envOfC (Str.ofString "law") (lawSc (_root_.Mine.hd.heap_39 w.params)) L fa cd)) Q E s := by
  generalize hsc : lawSc (_root_.Mine.hd.heap_39 w.params) = sc at hE ⊢
  conv at hsc => lhs; whnf
  subst hsc
  generalize hst : nth 2 (bodyAt (_root_.Mine.hd.heap_39 w.params) 107) = st
  conv at hst => lhs; whnf
  subst hst
  obtain ⟨hp1, g1, d1, tk1, os1⟩ := s
  have F2 := fr_canon [("numbers", _)] F (all_cons mn all_nil)
  refine forL (h₀ := g) (L := L) (l := nl) (lo := listOf ws.toArray kn) (vs := ws) (k := kn) (NumJ g L nl ns more os1) rfl rfl ?hit ?turn ?done (fun _ _ _ _ _ _ h => ⟨h.st, h.nums, h.os, h.gens⟩) (hE := hE)
  case hit =>
    refine wpAny_mono (Q := fun xv s₁ => Hold (xv = Value.ref nl ∧ ∃ m news, NumJ g L nl ns more os1 0 m news s₁ ∧ Fr g L s₁.heap m ∧ News g L s₁.heap news ∧ (nl, listOf ws.toArray kn) ∈ news)) ?_ (fun _ _ h => h) fun _ _ e => e
    k_steps
    refine ⟨rfl, _, _, ⟨⟨_, _, _, _, _, _, _, _, _, _, rfl, hd1, hd2, hd3, htl, hmt⟩, rfl, rfl, hg⟩, F2, N, ?_⟩
    exact .tail _ (.tail _ (.tail _ (.tail _ hnl)))
  case done =>
    intro m news s₁ hJ F N
    have hlw : ws.length = ns.length := by rw [hws.length, List.length_map]
    rw [hlw] at hJ
    exact ret m news s₁ hJ F N
  case turn =>
    rintro i v I it m₂ news₂ s₁ hv hJ hit F9 N9 hl₂ off
    obtain ⟨⟨q1, q2, q3, e2, e3, ul, kk, v0, v1, v2, rfl, f1, f2, f3, ful, fmt⟩, fn, fo, fg⟩ := hJ
    obtain ⟨n0, tn, hn0, rfl⟩ := ints_at hws hv
    obtain ⟨n, hn, rfl⟩ : ∃ n, ns[i]? = some n ∧ n0 = ((n : Nat) : Int) := by
      rw [List.getElem?_map] at hn0
      cases h : ns[i]? with
      | none => rw [h] at hn0; cases hn0
      | some n => rw [h] at hn0; exact ⟨n, rfl, (Option.some.inj hn0).symm⟩
    have hil : i < ns.length := by
      rcases Nat.lt_or_ge i ns.length with q | q
      · exact q
      · rw [List.getElem?_eq_none q] at hn; cases hn
    have htk : ns.take (i + 1) = ns.take i ++ [n] := by rw [List.take_succ, hn]; rfl
    have hlen : ∀ j, (textOfNums (ns.take i) j).length ≤ 100 := fun j => Nat.le_trans (textOfNums_len _ j) (by rw [List.length_take]; omega)
    have hbn : n < 1000000000 := hns n (List.mem_of_getElem? hn)
    have F3 := fr_canon [("numbers", _)] F9 (all_cons fn all_nil)
    clear F9 F2 F
    obtain ⟨hp2, g2, d2, tk2, os2⟩ := s₁
    k_steps
    unfold Hold
    (rename Fr _ _ _ _ => F4)
    (rename News _ _ _ _ => N4)
    have offm : ∀ p ∈ more, p.1 ≠ I := fun p hp => off p (.tail _ (.tail _ (.tail _ (.tail _ hp))))
    refine num_turn w mean mg mb B F4 X T (more := (I, it) :: more) (k := kk) (u0 := v0) (u1 := v1) (u2 := v2) (cb_drop N4 ?_) f1 f2 f3 (all_cons' ?_ hm1) (all_cons' ?_ hm2) (all_cons' ?_ hm3) ful (hlen 0) (hlen 1) (hlen 2) rfl rfl hbn ?_
    · walk_at "m all"
    · exact fun e => off _ (.head _) e.symm
    · exact fun e => off _ (.tail _ (.head _)) e.symm
    · exact fun e => off _ (.tail _ (.tail _ (.head _))) e.symm
    · intro h' tk' m' o1' o2' o3' c2' c3' tl' w0 w1 w2 k' F' mn' N' r1 r2 r3 rt rm
      rw [← textOfNums_snoc, ← textOfNums_snoc, ← textOfNums_snoc, ← htk] at N'
      refine ⟨m', (L + 1, o1') :: (L + 2, o2') :: (L + 3, o3') :: (tl', listOf #[.str (S (textOfNums (ns.take (i + 1)) 0)) w0, .str (S (textOfNums (ns.take (i + 1)) 1)) w1, .str (S (textOfNums (ns.take (i + 1)) 2)) w2] k') :: more, ⟨⟨_, _, _, _, _, _, _, _, _, _, rfl, r1, r2, r3, rt, fun p hp => rm p (.tail _ hp)⟩, mn', fo, fg⟩, F', cb_drop N' ?_, .tail _ (.tail _ (.tail _ (.tail _ hnl))), ?_⟩
      · walk_at "m all"
      · refine all_cons' (fun e => off _ (.head _) e) (all_cons' (fun e => off _ (.tail _ (.head _)) e) (all_cons' (fun e => off _ (.tail _ (.tail _ (.head _))) e) (all_cons' (fun e => rm _ (.head _) e.symm) offm)))

end Mine
end
section
theorem Mine.begin_Lg : True := by
  w_top off
  k_with_none
  k_with "omega" => (first | with_reducible assumption | with_reducible exact Nat.le_trans (by assumption) (Nat.le_of_ble_eq_true rfl) | with_reducible exact Nat.le_refl _ | with_reducible exact Nat.ne_of_gt (by assumption) | with_reducible exact Nat.ne_of_lt (by assumption) | with_reducible exact Ne.symm (by assumption) | with_reducible exact Int.ofNat_lt.mpr (by assumption) | with_reducible exact Nat.lt_of_le_of_lt (Nat.le_add_right _ _) (by assumption))
  trivial
namespace Mine
theorem rules_Lg_1 : True := by
  k_with "newList" => ((k_here; (first | (refine newList_K (F := by k_dflt (k_asm)) (N := by k_dflt (k_asm)) ?_ (hsz := by k_dflt (exact Nat.le_of_ble_eq_true rfl))) | (k_dflt (refine newList_K (F := by k_asm) (N := by k_asm) ?_ (hsz := by exact Nat.le_of_ble_eq_true rfl)))); intro _ _ _ _ l1qq; (try k_lt l1qq); (try k_sweep)))
  k_with "m srch1" => (first | with_reducible assumption | with_reducible exact List.mem_cons_self | (with_reducible refine List.mem_append.mpr (Or.inl ?_); walk_at "m srch1"; done) | (with_reducible refine List.mem_append.mpr (Or.inr ?_); walk_at "m srch1"; done) | (with_reducible refine List.mem_cons_of_mem _ ?_; walk_at "m srch1"; done))
  k_with "m srch" => (first | (walk_at "m srch1"; done) | (repeat (first | exact List.Mem.head _ | refine List.mem_cons_of_mem _ ?_); done))
  k_with "m all" => (repeat' (first | (with_reducible refine List.forall_mem_cons.mpr (And.intro ?_ ?_)) | (with_reducible refine List.forall_mem_append.mpr (And.intro ?_ ?_)) | (walk_at "m srch"; done) | (intro p hp; walk_at "m srch"; done) | exact fun _ hp => nomatch hp))
  trivial
theorem rules_Lg_2 : True := by
  k_with "eval Subscript" => ((refine Subscript_N2 ?_))
  k_with "eval IfExp" => (((fail_if_success (have hmark9 : Mark := by assumption)); refine Hold.of ?_))
  k_with "call ref" => ((refine Hold.of ?_))
  k_with "call ref" => ((k_here; (with_reducible show wpAny _ _ (call (Value.ref 90) _) _ _ _); (first | (refine lawS (plain_gives _ _ _ _ _ _ (by k_dflt (first | omega | (simp; done) | (simp; omega)))) (B := by k_dflt (k_asm)) (F := by k_dflt (k_asm)) (X := by k_dflt (k_asm)) (N := by k_dflt (k_asm)) (T := by k_dflt (k_asm)) (hk := by k_dflt (exact rfl)) (hp := by k_dflt (trivial)) ?_) | (k_dflt (refine lawS (plain_gives _ _ _ _ _ _ (by first | omega | (simp; done) | (simp; omega))) (B := by k_asm) (F := by k_asm) (X := by k_asm) (N := by k_asm) (T := by k_asm) (hk := by exact rfl) (hp := by trivial) ?_))); intro _ _ _ _ _; (try k_sweep)))
  k_with "m list" => ((refine News.isList (N := by k_asm) (hm := by repeat (first | assumption | exact List.Mem.head _ | refine List.mem_cons_of_mem _ ?_))))
  k_with "m mem" => (repeat (first | assumption | exact List.Mem.head _ | refine List.mem_cons_of_mem _ ?_))
  k_with "m place" => (first | with_reducible exact (rfl : ((_ : Nat) : Int) = _) | exact Int.zero_add _ | exact (rfl : (0 : Int) = ((0 : Nat) : Int)) | exact (rfl : (1 : Int) = ((1 : Nat) : Int)))
  k_with "m item" => ((k_here; (with_reducible show wpAny _ _ (subscriptTail _ _ (Value.ref _) (Value.int _ _)) _ _ _); (first | (refine item_L (hl := by k_dflt (walk_at "m list")) (hk := by k_dflt (walk_at "m place")) (hx := by k_dflt (first | assumption | exact rfl)) (hz := by k_dflt (first | exact Nat.le_of_ble_eq_true rfl | omega)) ?_ (hs := by k_dflt (with_unfolding_all rfl)) (hg := by k_dflt (kmk_pure))) | (k_dflt (refine item_L (hl := by walk_at "m list") (hk := by walk_at "m place") (hx := by first | assumption | exact rfl) (hz := by first | exact Nat.le_of_ble_eq_true rfl | omega) ?_ (hs := by with_unfolding_all rfl) (hg := by kmk_pure))))))
  k_with "subscriptTail Name Constant ref int" => (walk_at "m item")
  k_with "m sub" => ((intro p hp; repeat (first | exact hp | refine List.mem_cons_of_mem _ ?_)))
  k_with "m perm" => ((refine cb_drop (N := by k_asm) ?_; repeat' (first | (refine List.forall_mem_cons.mpr (And.intro ?_ ?_)) | (walk_at "m mem"; done) | (walk_at "m sub"; done))))
  k_with "m lit" => (with_reducible first | exact l_star | exact l_qm | exact l_lb | exact l_rb | exact l_ex | exact l_dash | exact l_dot | exact l_hat | exact l_bs | exact l_bs2 | exact l_bsd | exact l_nil | exact l_dotstar | exact l_open | exact l_close | exact rfl)
  k_with "m sameF" => (first | (with_reducible exact hdF (by assumption)) | (with_reducible exact hdF (Ne.symm (by assumption))) | exact rfl)
  k_with "compareOp Eq str str" => ((k_here; (first | (first | (refine eq_Sv false (hx := by k_dflt (walk_at "m lit")) (hy := by k_dflt (walk_at "m lit")) (hv := by k_dflt (walk_at "m sameF")) ?_) | (refine eq_Sv true (hx := by k_dflt (walk_at "m lit")) (hy := by k_dflt (walk_at "m lit")) (hv := by k_dflt (exact rfl)) ?_) | (refine eq_S (hx := by k_dflt (walk_at "m lit")) (hy := by k_dflt (walk_at "m lit")) ?_)) | (k_dflt (first | (refine eq_Sv false (hx := by walk_at "m lit") (hy := by walk_at "m lit") (hv := by walk_at "m sameF") ?_) | (refine eq_Sv true (hx := by walk_at "m lit") (hy := by walk_at "m lit") (hv := by exact rfl) ?_) | (refine eq_S (hx := by walk_at "m lit") (hy := by walk_at "m lit") ?_))))))
  k_with "call builtin:len" => ((k_here; (with_reducible show wpAny _ _ (call (Value.builtin "len") [Value.ref _]) _ _ _); (first | (refine len_lst (hl := by k_dflt (walk_at "m list")) (e := by k_dflt (first | assumption | exact rfl)) (hn := by k_dflt (omega)) ?_) | (k_dflt (refine len_lst (hl := by walk_at "m list") (e := by first | assumption | exact rfl) (hn := by omega) ?_))); intro _ _))
  k_with "subscriptTail Name BinOp ref int" => ((refine Hold.of ?_))
  trivial
theorem l_dotrb : Str.ofString "[].]" = S [91, 93, 46, 93] := by decide +kernel
theorem l_lbdot : Str.ofString "[." = S [91, 46] := by decide +kernel
theorem l_lbex : Str.ofString "[!" = S [91, 33] := by decide +kernel
theorem dress_pick {g h : Heap} {L c j : Nat} {a0 a1 a2 a3 kl dl : Addr} {kk : Nat} {rst more : Led} {t0 t0' t1 t1' t2 t2' t3 t3' : Tok}
    (N : News g L h ((a3, listOf #[.str (S (Pc.dot c).text) t3, .bool false, .str (Str.ofString "." ++ S [c]) t3'] 0) :: (kl, listOf (#[.ref a0, .ref a1, .ref a2].push (.ref a3)) kk) :: (a2, listOf #[.str (Str.ofString "[!" ++ S [c] ++ Str.ofString "]") t2, .bool true, .str (S [c]) t2'] 0) ::
      (a1, listOf #[.str (Str.ofString "?") t1, .bool true, .str (Str.ofString "") t1'] 0) :: (a0, listOf #[.str (S (plainL [c])) t0, .bool false, .str (S [c]) t0'] 0) :: rst))
    (q0 : @LT.lt Nat _ (L + 2) a0 ∧ @LT.lt Nat _ dl a0 ∧ AllLt a0 more) (h1 : @LT.lt Nat _ a0 a1) (h2 : @LT.lt Nat _ a0 a2) (h3 : @LT.lt Nat _ a0 a3) (hj : j < 4) :
    ∃ d t1 t2 b x, ([Value.ref a0, .ref a1, .ref a2, .ref a3])[j]? = some (.ref d) ∧ itemD j c = some (b, x) ∧ News g L h ((d, listOf #[.str (S (dressPc j c).text) t1, .bool b, .str (S x) t2] 0) :: rst) ∧ @LT.lt Nat _ (L + 2) d ∧ @LT.lt Nat _ dl d ∧ (∀ p ∈ more, p.1 < d) := by
  have N0 : News g L h rst := cb_drop N fun p hp => .tail _ (.tail _ (.tail _ (.tail _ (.tail _ hp))))
  have cons : ∀ (d : Addr) (o : Obj), (d, o) ∈ ((a3, listOf #[.str (S (Pc.dot c).text) t3, .bool false, .str (Str.ofString "." ++ S [c]) t3'] 0) :: (kl, listOf (#[.ref a0, .ref a1, .ref a2].push (.ref a3)) kk) :: (a2, listOf #[.str (Str.ofString "[!" ++ S [c] ++ Str.ofString "]") t2, .bool true, .str (S [c]) t2'] 0) ::
      (a1, listOf #[.str (Str.ofString "?") t1, .bool true, .str (Str.ofString "") t1'] 0) :: (a0, listOf #[.str (S (plainL [c])) t0, .bool false, .str (S [c]) t0'] 0) :: rst) → News g L h ((d, o) :: rst) := fun d o hm p hp => by
    rcases List.mem_cons.mp hp with rfl | hp
    · exact N _ hm
    · exact N0 p hp
  have up : ∀ d : Addr, @LT.lt Nat _ a0 d → @LT.lt Nat _ (L + 2) d ∧ @LT.lt Nat _ dl d ∧ (∀ p ∈ more, p.1 < d) := fun d hd => ⟨Nat.lt_trans q0.1 hd, Nat.lt_trans q0.2.1 hd, fun p hp => Nat.lt_trans (ktn_ltOf q0.2.2 p hp) hd⟩
  have hj4 : j = 0 ∨ j = 1 ∨ j = 2 ∨ j = 3 := in4 j hj
  rcases hj4 with rfl | rfl | rfl | rfl
  · exact ⟨a0, t0, t0', false, [c], rfl, rfl, by have := cons a0 _ (.tail _ (.tail _ (.tail _ (.tail _ (.head _))))); rw [plainL_one] at this; exact this, q0.1, q0.2.1, fun p hp => ktn_ltOf q0.2.2 p hp⟩
  · exact ⟨a1, t1, t1', true, [], rfl, rfl, by have := cons a1 _ (.tail _ (.tail _ (.tail _ (.head _)))); rw [l_qm, l_nil] at this; exact this, up _ h1⟩
  · exact ⟨a2, t2, t2', true, [c], rfl, rfl, by have := cons a2 _ (.tail _ (.tail _ (.head _))); rw [l_lbex, l_rb, S_app, S_app] at this; exact this, up _ h2⟩
  · exact ⟨a3, t3, t3', false, [46, c], rfl, rfl, by have := cons a3 _ (.head _); rw [l_dot, S_app] at this; exact this, up _ h3⟩
theorem dress_j {tot n : Nat} {p : Int} (h : p = ((4 ^ n : Nat) : Int)) (h0 : 0 < p) : (((tot : Int).fdiv 120).fdiv p).fmod 4 = ((tot / 120 / 4 ^ n % 4 : Nat) : Int) := by
  subst h
  rw [Int.fdiv_eq_ediv_of_nonneg _ (by omega : (0 : Int) ≤ 120), Int.fdiv_eq_ediv_of_nonneg _ (Int.le_of_lt h0), Int.fmod_eq_emod_of_nonneg _ (by omega)]
  rfl
theorem pow4_le : ∀ {n : Nat}, n ≤ 8 → 0 < 4 ^ n ∧ 4 ^ n ≤ 65536
  | n, h => ⟨Nat.pos_of_ne_zero (by simp), Nat.le_trans (Nat.pow_le_pow_right (by decide) h) (by decide)⟩
theorem pow4 {prog : Program} {w : World} {A : Around} {E : Value → Shared → Prop} {s : Shared} {n : Nat} {t u : Tok} {Q : Value → Shared → Prop} (hn : n ≤ 8) (h : ∀ (p : Int) t k, p = ((4 ^ n : Nat) : Int) → 0 < p → p ≤ 65536 → Q (.int p t) { s with toks := k }) :
    wpAny (model prog w) A (binaryOp .Pow (.int 4 t) (.int (n : Int) u)) Q E s := by
  have e : (4 : Int) ^ ((n : Int)).toNat = ((4 ^ n : Nat) : Int) := by rw [Int.toNat_natCast]; simp
  have h4 := pow4_le hn
  refine pow_int_small (by omega) (by omega) (by decide) ?_
  exact h _ _ _ e (by rw [e]; omega) (by rw [e]; omega)
theorem rules_Lg_3 : True := by
  k_with "binaryOp Pow int int" => ((k_here; (first | (refine pow4 (hn := by k_dflt (omega)) ?_) | (k_dflt (refine pow4 (hn := by omega) ?_))); intro _ _ _ _ _ _))
  trivial
noncomputable def dressBody (K : Frag) : List Stmt := thn (nth 6 (bodyAt K 107))
theorem dress_turn (w : World) (mean : ExcName → Option Value) (mg mb : Str → Option Value) {fa L : Addr} {cd : Value} {g : Heap} {m : Str → Option Value} {s : Shared} {Q : Flow → Shared → Prop} {E : Value → Shared → Prop}
    {more : Led} {o2 : Obj} {dl : Addr} {k : Nat} {ds : List Value} {c tot : Nat} {tc tt : Tok} {fv mv : Value}
    (B : Below callerA g [] g) (F : Fr g L s.heap m) (X : Frag.In (hd.heap_39 w.params) g) (T : Top topProg LooseL mean mg mb g)
    (N : News g L s.heap ((L + 2, o2) :: (dl, listOf ds.toArray k) :: more))
    (hd2 : o2.data = .cell (some (.str (S [c]) tc))) (hm2 : ∀ p ∈ more, p.1 ≠ L + 2) (hmd : ∀ p ∈ more, p.1 ≠ dl) (hdl : @Ne Nat dl (L + 2))
    (hds : ds.length ≤ 8) (htot : tot ≤ 100000000000) (mt : m "total" = some (.int (tot : Int) tt)) (md : m "dress" = some (.ref dl)) (mf : m "first" = some fv) (mm : m "many" = some mv)
    (ret : ∀ h' tk' m' d t1 t2 b x k', Fr g L h' m' → m' "total" = some (.int (tot : Int) tt) → m' "dress" = some (.ref dl) → m' "first" = some fv → m' "many" = some mv → itemD (tot / 120 / 4 ^ ds.length % 4) c = some (b, x) →
      News g L h' ((L + 2, o2) :: (dl, listOf (ds ++ [Value.ref d]).toArray k') :: (d, listOf #[.str (S (dressPc (tot / 120 / 4 ^ ds.length % 4) c).text) t1, .bool b, .str (S x) t2] 0) :: more) → @Ne Nat d (L + 2) → @Ne Nat d dl → (∀ p ∈ more, p.1 ≠ d) → Q .next { s with heap := h', toks := tk' }) :
    wpAny (model PySem.Challenge.rw_ij0088_01.row.prog w) (callerA.deeper (envOfC (Str.ofString "law") (lawSc (_root_.Mine.hd.heap_39 w.params)) L fa cd)) (execs (dressBody (_root_.Mine.hd.heap_39 w.params)) (envOfC (Str.ofString "law") (lawSc (_root_.Mine.hd.heap_39 w.params)) L fa cd)) Q E s := by
  k_fill
  generalize hsc : lawSc (_root_.Mine.hd.heap_39 w.params) = sc
  conv at hsc => lhs; whnf
  subst hsc
  generalize hst : dressBody (_root_.Mine.hd.heap_39 w.params) = st
  conv at hst => lhs; whnf
  subst hst
  obtain ⟨hp1, g1, d1, tk1, os1⟩ := s
  have F2 := fr_canon [("total", _), ("dress", _), ("first", _), ("many", _)] F (all_cons mt (all_cons md (all_cons mf (all_cons mm all_nil))))
  clear mt md mf mm F
  k_steps
  unfold Hold
  (rename Fr _ _ _ _ => F3)
  (rename News _ _ _ _ => N3)
  have hmk := Mark.get
  refine turn_via2 (fun v => ∃ t, v = Value.str (S (Pc.dot c).text) t) F3 N3 ?_ ?_
  · by_cases hc : c = 93
    · subst hc
      k_steps
      exact TurnEnd.of (by k_asm) (by k_asm) ⟨_, congrArg (Value.str · _) (by rw [l_dotrb]; rfl)⟩
    · k_steps
      exact TurnEnd.of (by k_asm) (by k_asm) ⟨_, congrArg (Value.str · _) (by rw [l_lbdot, l_rb, S_app, S_app, Pc.text, if_neg hc]; rfl)⟩
  clear F3 N3
  rintro v h8 tk8 ⟨u8, rfl⟩ F8 N8
  k_steps
  unfold Hold
  (rename News _ _ _ _ => N9)
  (rename Fr _ _ _ _ => F9)
  (rename _ = ((4 ^ ds.length : Nat) : Int) => hp4)
  (rename @LT.lt Nat _ (L + 2) _ ∧ @LT.lt Nat _ dl _ ∧ AllLt _ more => q0)
  (rename @LT.lt Nat _ _ _ ∧ @LT.lt Nat _ (L + 2) _ ∧ @LT.lt Nat _ dl _ ∧ AllLt _ more => q1)
  (rename @LT.lt Nat _ _ _ ∧ @LT.lt Nat _ _ _ ∧ @LT.lt Nat _ (L + 2) _ ∧ @LT.lt Nat _ dl _ ∧ AllLt _ more => q2)
  (rename @LT.lt Nat _ _ _ ∧ @LT.lt Nat _ _ _ ∧ @LT.lt Nat _ _ _ ∧ @LT.lt Nat _ _ _ ∧ @LT.lt Nat _ (L + 2) _ ∧ @LT.lt Nat _ dl _ ∧ AllLt _ more => q4)
  obtain ⟨d, t1, t2, b, x, hzd, hid, N10, r1, r2, r3⟩ := dress_pick N9 q0 q1.1 q2.2.1 q4.2.2.2.1 (Nat.mod_lt (tot / 120 / 4 ^ ds.length) (by decide : 4 > 0))
  refine item_L (zs := [_, _, _, _]) (News.isList N9 (.tail _ (.head _))) (dress_j hp4 (by assumption)) hzd (by omega) ?_ (by with_unfolding_all rfl) (by kmk_pure)
  clear N9
  have rm : ∀ p ∈ more, p.1 ≠ d := fun p hp => Nat.ne_of_lt (r3 p hp)
  have re1 : @Ne Nat d (L + 2) := Nat.ne_of_gt r1
  have re2 : @Ne Nat d dl := Nat.ne_of_gt r2
  k_steps
  (rename News _ _ _ _ => N11)
  rw [List.push_toArray] at N11
  refine ret _ _ _ d t1 t2 b x (k + 1) (by k_asm) rfl rfl rfl rfl hid (cb_drop N11 ?_) re1 re2 rm
  walk_at "m all"

end Mine
end
section
theorem Mine.begin_Lh : True := by
  w_top off
  k_with_none
  k_with "omega" => (first | with_reducible assumption | with_reducible exact Nat.le_trans (by assumption) (Nat.le_of_ble_eq_true rfl) | with_reducible exact Nat.le_refl _ | with_reducible exact Nat.ne_of_gt (by assumption) | with_reducible exact Nat.ne_of_lt (by assumption) | with_reducible exact Ne.symm (by assumption) | with_reducible exact Int.ofNat_lt.mpr (by assumption) | with_reducible exact Nat.lt_of_le_of_lt (Nat.le_add_right _ _) (by assumption))
  trivial
namespace Mine
theorem rules_Lh_1 : True := by
  k_with "newList" => ((k_here; (first | (refine newList_K (F := by k_dflt (k_asm)) (N := by k_dflt (k_asm)) ?_ (hsz := by k_dflt (exact Nat.le_of_ble_eq_true rfl))) | (k_dflt (refine newList_K (F := by k_asm) (N := by k_asm) ?_ (hsz := by exact Nat.le_of_ble_eq_true rfl)))); intro _ _ _ _ l1qq; (try k_lt l1qq); (try k_sweep)))
  k_with "m srch1" => (first | with_reducible assumption | with_reducible exact List.mem_cons_self | (with_reducible refine List.mem_append.mpr (Or.inl ?_); walk_at "m srch1"; done) | (with_reducible refine List.mem_append.mpr (Or.inr ?_); walk_at "m srch1"; done) | (with_reducible refine List.mem_cons_of_mem _ ?_; walk_at "m srch1"; done))
  k_with "m srch" => (first | (walk_at "m srch1"; done) | (repeat (first | exact List.Mem.head _ | refine List.mem_cons_of_mem _ ?_); done))
  k_with "m all" => (repeat' (first | (with_reducible refine List.forall_mem_cons.mpr (And.intro ?_ ?_)) | (with_reducible refine List.forall_mem_append.mpr (And.intro ?_ ?_)) | (walk_at "m srch"; done) | (intro p hp; walk_at "m srch"; done) | exact fun _ hp => nomatch hp))
  trivial
theorem rules_Lh_2 : True := by
  k_with "eval Subscript" => ((refine Subscript_N2 ?_))
  k_with "eval IfExp" => (((fail_if_success (have hmark9 : Mark := by assumption)); refine Hold.of ?_))
  k_with "call ref" => ((refine Hold.of ?_))
  k_with "call ref" => ((k_here; (with_reducible show wpAny _ _ (call (Value.ref 90) _) _ _ _); (first | (refine lawS (plain_gives _ _ _ _ _ _ (by k_dflt (first | omega | (simp; done) | (simp; omega)))) (B := by k_dflt (k_asm)) (F := by k_dflt (k_asm)) (X := by k_dflt (k_asm)) (N := by k_dflt (k_asm)) (T := by k_dflt (k_asm)) (hk := by k_dflt (exact rfl)) (hp := by k_dflt (trivial)) ?_) | (k_dflt (refine lawS (plain_gives _ _ _ _ _ _ (by first | omega | (simp; done) | (simp; omega))) (B := by k_asm) (F := by k_asm) (X := by k_asm) (N := by k_asm) (T := by k_asm) (hk := by exact rfl) (hp := by trivial) ?_))); intro _ _ _ _ _; (try k_sweep)))
  k_with "m list" => ((refine News.isList (N := by k_asm) (hm := by repeat (first | assumption | exact List.Mem.head _ | refine List.mem_cons_of_mem _ ?_))))
  k_with "m mem" => (repeat (first | assumption | exact List.Mem.head _ | refine List.mem_cons_of_mem _ ?_))
  k_with "m place" => (first | with_reducible exact (rfl : ((_ : Nat) : Int) = _) | exact Int.zero_add _ | exact (rfl : (0 : Int) = ((0 : Nat) : Int)) | exact (rfl : (1 : Int) = ((1 : Nat) : Int)))
  k_with "m item" => ((k_here; (with_reducible show wpAny _ _ (subscriptTail _ _ (Value.ref _) (Value.int _ _)) _ _ _); (first | (refine item_L (hl := by k_dflt (walk_at "m list")) (hk := by k_dflt (walk_at "m place")) (hx := by k_dflt (first | assumption | exact rfl)) (hz := by k_dflt (first | exact Nat.le_of_ble_eq_true rfl | omega)) ?_ (hs := by k_dflt (with_unfolding_all rfl)) (hg := by k_dflt (kmk_pure))) | (k_dflt (refine item_L (hl := by walk_at "m list") (hk := by walk_at "m place") (hx := by first | assumption | exact rfl) (hz := by first | exact Nat.le_of_ble_eq_true rfl | omega) ?_ (hs := by with_unfolding_all rfl) (hg := by kmk_pure))))))
  k_with "subscriptTail Name Constant ref int" => (walk_at "m item")
  k_with "m sub" => ((intro p hp; repeat (first | exact hp | refine List.mem_cons_of_mem _ ?_)))
  k_with "m perm" => ((refine cb_drop (N := by k_asm) ?_; repeat' (first | (refine List.forall_mem_cons.mpr (And.intro ?_ ?_)) | (walk_at "m mem"; done) | (walk_at "m sub"; done))))
  k_with "m lit" => (with_reducible first | exact l_star | exact l_qm | exact l_lb | exact l_rb | exact l_ex | exact l_dash | exact l_dot | exact l_hat | exact l_bs | exact l_bs2 | exact l_bsd | exact l_nil | exact l_dotstar | exact l_open | exact l_close | exact rfl)
  k_with "m sameF" => (first | (with_reducible exact hdF (by assumption)) | (with_reducible exact hdF (Ne.symm (by assumption))) | exact rfl)
  k_with "compareOp Eq str str" => ((k_here; (first | (first | (refine eq_Sv false (hx := by k_dflt (walk_at "m lit")) (hy := by k_dflt (walk_at "m lit")) (hv := by k_dflt (walk_at "m sameF")) ?_) | (refine eq_Sv true (hx := by k_dflt (walk_at "m lit")) (hy := by k_dflt (walk_at "m lit")) (hv := by k_dflt (exact rfl)) ?_) | (refine eq_S (hx := by k_dflt (walk_at "m lit")) (hy := by k_dflt (walk_at "m lit")) ?_)) | (k_dflt (first | (refine eq_Sv false (hx := by walk_at "m lit") (hy := by walk_at "m lit") (hv := by walk_at "m sameF") ?_) | (refine eq_Sv true (hx := by walk_at "m lit") (hy := by walk_at "m lit") (hv := by exact rfl) ?_) | (refine eq_S (hx := by walk_at "m lit") (hy := by walk_at "m lit") ?_))))))
  k_with "call builtin:len" => ((k_here; (with_reducible show wpAny _ _ (call (Value.builtin "len") [Value.ref _]) _ _ _); (first | (refine len_lst (hl := by k_dflt (walk_at "m list")) (e := by k_dflt (first | assumption | exact rfl)) (hn := by k_dflt (omega)) ?_) | (k_dflt (refine len_lst (hl := by walk_at "m list") (e := by first | assumption | exact rfl) (hn := by omega) ?_))); intro _ _))
  k_with "execs cons" => ((refine Hold.of ?_))
  trivial
noncomputable def dressFrom (tot : Nat) : Nat → List Nat → Dress
  | _, [] => []
  | i, c :: r => (tot / 120 / 4 ^ i % 4, c) :: dressFrom tot (i + 1) r
theorem dressFrom_snoc (tot c : Nat) : ∀ (l : List Nat) (i : Nat), dressFrom tot i (l ++ [c]) = dressFrom tot i l ++ [(tot / 120 / 4 ^ (i + l.length) % 4, c)]
  | [], i => rfl
  | d :: r, i => by
    show _ :: dressFrom tot (i + 1) (r ++ [c]) = _ :: (_ ++ _)
    rw [dressFrom_snoc tot c r (i + 1)]
    rw [show i + 1 + r.length = i + (d :: r).length by rw [List.length_cons]; omega]
theorem dressFrom_len (tot : Nat) : ∀ (l : List Nat) (i : Nat), (dressFrom tot i l).length = l.length
  | [], _ => rfl
  | _ :: r, i => congrArg (· + 1) (dressFrom_len tot r (i + 1))
/-- an item of the list dress -/
noncomputable def DressAt (xs : Led) (v : Value) (e : Nat × Nat) : Prop := ∃ d t1 t2 b x, v = .ref d ∧ itemD e.1 e.2 = some (b, x) ∧ (d, listOf #[.str (S (dressPc e.1 e.2).text) t1, .bool b, .str (S x) t2] 0) ∈ xs
theorem DressAt.mono {xs ys : Led} (h : ∀ p ∈ xs, p ∈ ys) {v : Value} {e : Nat × Nat} : DressAt xs v e → DressAt ys v e := by
  rintro ⟨d, t1, t2, b, x, a, b', c⟩
  exact ⟨d, t1, t2, b, x, a, b', h _ c⟩
structure DressJ (g : Heap) (L dl : Addr) (cs : List Nat) (tot : Nat) (tt : Tok) (fv mv : Value) (o1 : Obj) (more : Led) (o₀ : OsState) (i : Nat) (m : Str → Option Value) (news : Led) (s : Shared) : Prop where
  st : ∃ o2 c2 k ds xs, news = (L + 1, o1) :: (L + 2, o2) :: (dl, listOf ds.toArray k) :: (xs ++ more) ∧ o2.data = .cell c2 ∧ All2 (DressAt xs) ds (dressFrom tot 0 (cs.take i)) ∧ (∀ p ∈ xs, @Ne Nat p.1 (L + 1) ∧ @Ne Nat p.1 (L + 2) ∧ @Ne Nat p.1 dl ∧ ∀ q ∈ more, q.1 ≠ p.1)
  mt : m "total" = some (.int (tot : Int) tt)
  md : m "dress" = some (.ref dl)
  mf : m "first" = some fv
  mm : m "many" = some mv
  os : s.os = o₀
  gens : AllBare s.gens
theorem dress_for (w : World) (mean : ExcName → Option Value) (mg mb : Str → Option Value) {fa L : Addr} {cd : Value} {g : Heap} {m : Str → Option Value} {s : Shared} {Q : Flow → Shared → Prop} {E : Value → Shared → Prop}
    {more : Led} {o1 o2 : Obj} {tl dl : Addr} {k kt f y : Nat} {u0 u1 u2 tf ty tt : Tok} {t0 t1 t2 : List Nat} {tot : Nat} {c2 : Option Value}
    (B : Below callerA g [] g) (F : Fr g L s.heap m) (X : Frag.In (hd.heap_39 w.params) g) (T : Top topProg LooseL mean mg mb g)
    (N : News g L s.heap ((L + 1, o1) :: (L + 2, o2) :: (dl, listOf #[] k) :: more))
    (hd1 : o1.data = .cell (some (.ref tl))) (hd2 : o2.data = .cell c2) (hm1 : ∀ p ∈ more, p.1 ≠ L + 1) (hm2 : ∀ p ∈ more, p.1 ≠ L + 2) (hmd : ∀ p ∈ more, p.1 ≠ dl) (hdl : @Ne Nat dl (L + 1) ∧ @Ne Nat dl (L + 2))
    (htl : (tl, listOf #[.str (S t0) u0, .str (S t1) u1, .str (S t2) u2] kt) ∈ more) (hl0 : t0.length ≤ 100) (hl3 : 3 ≤ t0.length) (hf : f ≤ 2) (hy : y ≤ 3) (htot : tot ≤ 100000000000)
    (mt : m "total" = some (.int (tot : Int) tt)) (md : m "dress" = some (.ref dl)) (mf : m "first" = some (.int (f : Int) tf)) (mm : m "many" = some (.int (y : Int) ty)) (hg : AllBare s.gens)
    (hE : PassesOwn (model PySem.Challenge.rw_ij0088_01.row.prog w) (callerA.deeper (envOfC (Str.ofString "law") (lawSc (_root_.Mine.hd.heap_39 w.params)) L fa cd)) (envOfC (Str.ofString "law") (lawSc (_root_.Mine.hd.heap_39 w.params)) L fa cd) E)
    (ret : ∀ m' news' s', DressJ g L dl (t0.take f ++ t0.drop (t0.length - y)) tot tt (.int (f : Int) tf) (.int (y : Int) ty) o1 more s.os (t0.take f ++ t0.drop (t0.length - y)).length m' news' s' → Fr g L s'.heap m' → News g L s'.heap news' → Q .next s') :
    wpAny (model PySem.Challenge.rw_ij0088_01.row.prog w) (callerA.deeper (envOfC (Str.ofString "law") (lawSc (_root_.Mine.hd.heap_39 w.params)) L fa cd)) (exec (nth 6 (bodyAt (_root_.Mine.hd.heap_39 w.params) 107)) (envOfC (Str.ofString "law") (lawSc (_root_.Mine.hd.heap_39 w.params)) L fa cd)) Q E s := by
  k_fill
  generalize hsc : lawSc (_root_.Mine.hd.heap_39 w.params) = sc at hE ⊢
  conv at hsc => lhs; whnf
  subst hsc
  generalize hst : nth 6 (bodyAt (_root_.Mine.hd.heap_39 w.params) 107) = st
  conv at hst => lhs; whnf
  subst hst
  obtain ⟨hp1, g1, d1, tk1, os1⟩ := s
  have F2 := fr_canon [("total", _), ("dress", _), ("first", _), ("many", _)] F (all_cons mt (all_cons md (all_cons mf (all_cons mm all_nil))))
  have hS0 : (S t0).length ≤ 1000 := by rw [S_len]; exact Nat.le_trans hl0 (by decide)
  have hyl : y ≤ t0.length := Nat.le_trans hy hl3
  refine forS (h₀ := g) (L := L) (x := S (t0.take f ++ t0.drop (t0.length - y))) (DressJ g L dl (t0.take f ++ t0.drop (t0.length - y)) tot tt (.int (f : Int) tf) (.int (y : Int) ty) o1 more os1) rfl ?hit ?turn ?done (fun _ _ _ _ _ _ h => ⟨h.st, h.mt, h.md, h.mf, h.mm, h.os, h.gens⟩) (hE := hE)
  case hit =>
    refine wpAny_mono (Q := fun xv s₁ => Hold ((∃ t, xv = Value.str (S (t0.take f ++ t0.drop (t0.length - y))) t) ∧ ∃ m news, DressJ g L dl (t0.take f ++ t0.drop (t0.length - y)) tot tt (.int (f : Int) tf) (.int (y : Int) ty) o1 more os1 0 m news s₁ ∧ Fr g L s₁.heap m ∧ News g L s₁.heap news)) ?_ (fun _ _ h => h) fun _ _ e => e
    k_steps
    have hcut : Txt.slice (S t0) none (some (f : Int)) ++ Txt.slice (S t0) (some (((S t0).length : Int) - (y : Int))) none = S (t0.take f ++ t0.drop (t0.length - y)) := by
      rw [S_len, slice_to _ _ (Int.natCast_nonneg _), slice_from _ _ (Int.sub_nonneg_of_le (Int.ofNat_le.mpr hyl)), S_app, Int.toNat_natCast, Int.toNat_sub]
    (rename News _ _ _ _ => N9)
    exact ⟨⟨_, congrArg (Value.str · _) hcut⟩, _, _, ⟨⟨_, _, _, [], [], rfl, hd2, .nil, by intro p hp; cases hp⟩, rfl, rfl, rfl, rfl, rfl, hg⟩, by k_asm, N9⟩
  case done =>
    intro m news s₁ hJ F N
    exact ret m news s₁ (by have e : (S (t0.take f ++ t0.drop (t0.length - y))).cps.size = (t0.take f ++ t0.drop (t0.length - y)).length := by simp
                            rw [e] at hJ; exact hJ) F N
  case turn =>
    rintro i v I it m₂ news₂ s₁ hil hv hJ F9 N9 off
    generalize hcs : t0.take f ++ t0.drop (t0.length - y) = cs at *
    have hcl : cs.length ≤ 5 := by rw [← hcs, List.length_append, List.length_take, List.length_drop]; exact Nat.le_trans (cut_le _ _ _) (Nat.add_le_add hf hy)
    obtain ⟨⟨q2, e2, kk, ds, xs, rfl, f2, hds, hxs⟩, f3, f4, f5, f6, f7, f8⟩ := hJ
    obtain ⟨c, u, hc, rfl⟩ := hv
    have hc : cs[i]? = some c := by simpa using hc
    have hil : i < cs.length := by simpa using hil
    have hdl2 : ds.length = i := by rw [hds.length, dressFrom_len, List.length_take]; omega
    have htk : cs.take (i + 1) = cs.take i ++ [c] := by rw [List.take_add_one, hc]; rfl
    have F3 := fr_canon [("total", _), ("dress", _), ("first", _), ("many", _)] F9 (all_cons f3 (all_cons f4 (all_cons f5 (all_cons f6 all_nil))))
    clear F9 F2 F
    obtain ⟨hp2, g2, d2, tk2, os2⟩ := s₁
    have r1 : @Ne Nat (L + 1) I := off _ (.head _)
    have r2 : @Ne Nat (L + 2) I := off _ (.tail _ (.head _))
    have r3 : @Ne Nat dl I := off _ (.tail _ (.tail _ (.head _)))
    have hxm1 : ∀ p ∈ xs ++ more, p.1 ≠ L + 1 := fun p hp => (List.mem_append.mp hp).elim (fun h => (hxs p h).1) (hm1 p)
    have hxm2 : ∀ p ∈ xs ++ more, p.1 ≠ L + 2 := fun p hp => (List.mem_append.mp hp).elim (fun h => (hxs p h).2.1) (hm2 p)
    have hxmd : ∀ p ∈ xs ++ more, p.1 ≠ dl := fun p hp => (List.mem_append.mp hp).elim (fun h => (hxs p h).2.2.1) (hmd p)
    have offx : ∀ p ∈ xs ++ more, p.1 ≠ I := fun p hp => off p (.tail _ (.tail _ (.tail _ hp)))
    rw [show ({ cps := #[c] } : Str) = S [c] from rfl]
    k_steps
    unfold Hold
    (rename Fr _ _ _ _ => F4)
    (rename News _ _ _ _ => N4)
    (rename _ = Data.cell (some (Value.str (S [c]) _)) => d2)
    refine dress_turn w mean mg mb (ds := ds) (k := kk) (c := c) (tot := tot) (more := (I, it) :: (L + 1, o1) :: (xs ++ more)) B F4 X T (cb_drop N4 ?_) d2 (all_cons' (Ne.symm r2) (all_cons' (by simp) hxm2)) (all_cons' (Ne.symm r3) (all_cons' (Ne.symm hdl.1) hxmd)) hdl.2 (by omega) htot rfl rfl rfl rfl ?_
    · walk_at "m all"
    · intro h' tk' m' d t1' t2' b x k' F' g3 g4 g5 g6 hid N' e1 e2 e3
      rw [hdl2] at hid N'
      refine ⟨m', (L + 1, o1) :: (L + 2, _) :: (dl, listOf (ds ++ [Value.ref d]).toArray k') :: (((d, listOf #[.str (S (dressPc (tot / 120 / 4 ^ i % 4) c).text) t1', .bool b, .str (S x) t2'] 0) :: xs) ++ more),
        ⟨⟨_, _, _, _, (d, listOf #[.str (S (dressPc (tot / 120 / 4 ^ i % 4) c).text) t1', .bool b, .str (S x) t2'] 0) :: xs, rfl, d2, ?_, ?_⟩, g3, g4, g5, g6, f7, f8⟩, F', cb_drop N' ?_, trivial, ?_⟩
      · rw [htk, dressFrom_snoc, List.length_take, show 0 + min i cs.length = i by omega]
        exact (hds.mono fun _ _ => DressAt.mono fun p hp => .tail _ hp).app (.cons ⟨d, t1', t2', b, x, rfl, hid, .head _⟩ .nil)
      · refine all_cons' ⟨Ne.symm (e3 _ (.tail _ (.head _))), e1, e2, fun q hq => e3 q (.tail _ (.tail _ (List.mem_append.mpr (.inr hq))))⟩ hxs
      · intro p hp
        simp only [List.mem_cons, List.cons_append] at hp ⊢
        rcases hp with h | h | h | h | h | h
        · exact .inr (.inr (.inr (.inl h)))
        · exact .inr (.inr (.inr (.inr (.inl h))))
        · exact .inl h
        · exact .inr (.inl h)
        · exact .inr (.inr (.inl h))
        · exact .inr (.inr (.inr (.inr (.inr h))))
      · exact all_cons' r1 (all_cons' r2 (all_cons' r3 (all_cons' (Ne.symm (e3 _ (.head _))) offx)))

end Mine
end
section
theorem Mine.begin_Li : True := by
  w_top off
  k_with_none
  k_with "omega" => (first | with_reducible assumption | with_reducible exact Nat.le_trans (by assumption) (Nat.le_of_ble_eq_true rfl) | with_reducible exact Nat.le_refl _ | with_reducible exact Nat.ne_of_gt (by assumption) | with_reducible exact Nat.ne_of_lt (by assumption) | with_reducible exact Ne.symm (by assumption) | with_reducible exact Int.ofNat_lt.mpr (by assumption) | with_reducible exact Nat.lt_of_le_of_lt (Nat.le_add_right _ _) (by assumption))
  trivial
namespace Mine
theorem rules_Li_1 : True := by
  k_with "newList" => ((k_here; (first | (refine newList_K (F := by k_dflt (k_asm)) (N := by k_dflt (k_asm)) ?_ (hsz := by k_dflt (exact Nat.le_of_ble_eq_true rfl))) | (k_dflt (refine newList_K (F := by k_asm) (N := by k_asm) ?_ (hsz := by exact Nat.le_of_ble_eq_true rfl)))); intro _ _ _ _ l1qq; (try k_lt l1qq); (try k_sweep)))
  k_with "m srch1" => (first | with_reducible assumption | with_reducible exact List.mem_cons_self | (with_reducible refine List.mem_append.mpr (Or.inl ?_); walk_at "m srch1"; done) | (with_reducible refine List.mem_append.mpr (Or.inr ?_); walk_at "m srch1"; done) | (with_reducible refine List.mem_cons_of_mem _ ?_; walk_at "m srch1"; done))
  k_with "m srch" => (first | (walk_at "m srch1"; done) | (repeat (first | exact List.Mem.head _ | refine List.mem_cons_of_mem _ ?_); done))
  k_with "m all" => (repeat' (first | (with_reducible refine List.forall_mem_cons.mpr (And.intro ?_ ?_)) | (with_reducible refine List.forall_mem_append.mpr (And.intro ?_ ?_)) | (walk_at "m srch"; done) | (intro p hp; walk_at "m srch"; done) | exact fun _ hp => nomatch hp))
  trivial
theorem rules_Li_2 : True := by
  k_with "eval Subscript" => ((refine Subscript_N2 ?_))
  k_with "eval IfExp" => (((fail_if_success (have hmark9 : Mark := by assumption)); refine Hold.of ?_))
  k_with "call ref" => ((refine Hold.of ?_))
  k_with "call ref" => ((k_here; (with_reducible show wpAny _ _ (call (Value.ref 90) _) _ _ _); (first | (refine lawS (plain_gives _ _ _ _ _ _ (by k_dflt (first | omega | (simp; done) | (simp; omega)))) (B := by k_dflt (k_asm)) (F := by k_dflt (k_asm)) (X := by k_dflt (k_asm)) (N := by k_dflt (k_asm)) (T := by k_dflt (k_asm)) (hk := by k_dflt (exact rfl)) (hp := by k_dflt (trivial)) ?_) | (k_dflt (refine lawS (plain_gives _ _ _ _ _ _ (by first | omega | (simp; done) | (simp; omega))) (B := by k_asm) (F := by k_asm) (X := by k_asm) (N := by k_asm) (T := by k_asm) (hk := by exact rfl) (hp := by trivial) ?_))); intro _ _ _ _ _; (try k_sweep)))
  k_with "m list" => ((refine News.isList (N := by k_asm) (hm := by repeat (first | assumption | exact List.Mem.head _ | refine List.mem_cons_of_mem _ ?_))))
  k_with "m mem" => (repeat (first | assumption | exact List.Mem.head _ | refine List.mem_cons_of_mem _ ?_))
  k_with "m place" => (first | with_reducible exact (rfl : ((_ : Nat) : Int) = _) | exact Int.zero_add _ | exact (rfl : (0 : Int) = ((0 : Nat) : Int)) | exact (rfl : (1 : Int) = ((1 : Nat) : Int)))
  k_with "m item" => ((k_here; (with_reducible show wpAny _ _ (subscriptTail _ _ (Value.ref _) (Value.int _ _)) _ _ _); (first | (refine item_L (hl := by k_dflt (walk_at "m list")) (hk := by k_dflt (walk_at "m place")) (hx := by k_dflt (first | assumption | exact rfl)) (hz := by k_dflt (first | exact Nat.le_of_ble_eq_true rfl | omega)) ?_ (hs := by k_dflt (with_unfolding_all rfl)) (hg := by k_dflt (kmk_pure))) | (k_dflt (refine item_L (hl := by walk_at "m list") (hk := by walk_at "m place") (hx := by first | assumption | exact rfl) (hz := by first | exact Nat.le_of_ble_eq_true rfl | omega) ?_ (hs := by with_unfolding_all rfl) (hg := by kmk_pure))))))
  k_with "subscriptTail Name Constant ref int" => (walk_at "m item")
  k_with "m sub" => ((intro p hp; repeat (first | exact hp | refine List.mem_cons_of_mem _ ?_)))
  k_with "m perm" => ((refine cb_drop (N := by k_asm) ?_; repeat' (first | (refine List.forall_mem_cons.mpr (And.intro ?_ ?_)) | (walk_at "m mem"; done) | (walk_at "m sub"; done))))
  k_with "m lit" => (with_reducible first | exact l_star | exact l_qm | exact l_lb | exact l_rb | exact l_ex | exact l_dash | exact l_dot | exact l_hat | exact l_bs | exact l_bs2 | exact l_bsd | exact l_nil | exact l_dotstar | exact l_open | exact l_close | exact rfl)
  k_with "m sameF" => (first | (with_reducible exact hdF (by assumption)) | (with_reducible exact hdF (Ne.symm (by assumption))) | exact rfl)
  k_with "compareOp Eq str str" => ((k_here; (first | (first | (refine eq_Sv false (hx := by k_dflt (walk_at "m lit")) (hy := by k_dflt (walk_at "m lit")) (hv := by k_dflt (walk_at "m sameF")) ?_) | (refine eq_Sv true (hx := by k_dflt (walk_at "m lit")) (hy := by k_dflt (walk_at "m lit")) (hv := by k_dflt (exact rfl)) ?_) | (refine eq_S (hx := by k_dflt (walk_at "m lit")) (hy := by k_dflt (walk_at "m lit")) ?_)) | (k_dflt (first | (refine eq_Sv false (hx := by walk_at "m lit") (hy := by walk_at "m lit") (hv := by walk_at "m sameF") ?_) | (refine eq_Sv true (hx := by walk_at "m lit") (hy := by walk_at "m lit") (hv := by exact rfl) ?_) | (refine eq_S (hx := by walk_at "m lit") (hy := by walk_at "m lit") ?_))))))
  k_with "call builtin:len" => ((k_here; (with_reducible show wpAny _ _ (call (Value.builtin "len") [Value.ref _]) _ _ _); (first | (refine len_lst (hl := by k_dflt (walk_at "m list")) (e := by k_dflt (first | assumption | exact rfl)) (hn := by k_dflt (omega)) ?_) | (k_dflt (refine len_lst (hl := by walk_at "m list") (e := by first | assumption | exact rfl) (hn := by omega) ?_))); intro _ _))
  k_with "m small" => (first | exact Nat.le_of_ble_eq_true rfl | (simp only [List.size_toArray, sizeLine_eq, Array.length_toList]; omega) | (simp only [List.size_toArray, List.length_append, List.length_take, List.length_drop, sizeLine_eq, Array.length_toList]; omega) | (simp only [List.size_toArray, List.length_append, List.length_take, List.length_drop, List.length_cons, List.length_nil, sizeLine_eq, Array.length_toList]; omega))
  k_with "subscriptTail Name Slice ref ref" => ((k_here; (with_reducible show wpAny _ _ (subscriptTail _ (PySem.Expr.Slice _ _ none _) (Value.ref _) (Value.ref _)) _ _ _); (first | (refine kms_slice_lit (F := by k_dflt (k_asm)) (N := by k_dflt (k_asm)) (hl := by k_dflt (walk_at "m list")) (pl := by k_dflt (kmk_part)) (pu := by k_dflt (kmk_part)) (e := by k_dflt (first | exact pick_to _ _ | exact pick_from1 _ _ | exact pick_from _ _ | exact rfl)) ?_ (hs := by k_dflt (with_unfolding_all rfl)) (ht := by k_dflt (kmk_pure)) (hz := by k_dflt (walk_at "m small")); k_whole) | (k_dflt (refine kms_slice_lit (F := by k_asm) (N := by k_asm) (hl := by walk_at "m list") (pl := by kmk_part) (pu := by kmk_part) (e := by first | exact pick_to _ _ | exact pick_from1 _ _ | exact pick_from _ _ | exact rfl) ?_ (hs := by with_unfolding_all rfl) (ht := by kmk_pure) (hz := by walk_at "m small"); k_whole))); intro _ _ _ _ l1qq; (try k_lt l1qq); (try k_sweep)))
  k_with "binaryOp Add ref ref" => ((k_here; (with_reducible show wpAny _ _ (binaryOp _ (Value.ref _) (Value.ref _)) _ _ _); (first | (refine kmk_add_lit (F := by k_dflt (k_asm)) (N := by k_dflt (k_asm)) (ha := by k_dflt (walk_at "m list")) (hb := by k_dflt (walk_at "m list")) (e := by k_dflt (exact add_e _ _)) ?_ (hz := by k_dflt (walk_at "m small"))) | (k_dflt (refine kmk_add_lit (F := by k_asm) (N := by k_asm) (ha := by walk_at "m list") (hb := by walk_at "m list") (e := by exact add_e _ _) ?_ (hz := by walk_at "m small")))); intro _ _ _ _ l1qq; (try k_lt l1qq); (try k_sweep)))
  k_with "eval ListComp" => ((k_here; (first | (refine LCg.ListComp_U (F₀ := by k_asm) (by k_dflt (rfl)) (by k_dflt (decide)) (by k_dflt (rfl)) (by k_dflt (decide)) (by k_dflt (rfl)) ?_) | (k_dflt (refine LCg.ListComp_U (F₀ := by k_asm) (by rfl) (by decide) (by rfl) (by decide) (by rfl) ?_)))))
  k_with "CompSrc" => ((refine Hold.of ?_))
  k_with "call builtin:str.join" => ((refine Hold.of ?_))
  trivial
/-- a cell taken out of what a call has left -/
theorem clean {g h : Heap} {L : Addr} {rest : Led} (N : News g L h rest) (c : Addr) : ∃ r : Led, (∀ p ∈ r, p ∈ rest) ∧ (∀ p ∈ r, p.1 ≠ c) ∧ ∀ p ∈ rest, p.1 ≠ c → p ∈ r := by
  refine ⟨rest.filter fun p => decide (p.1 ≠ c), fun p hp => (List.mem_filter.mp hp).1, fun p hp => of_decide_eq_true (List.mem_filter.mp hp).2, fun p hp hc => List.mem_filter.mpr ⟨hp, decide_eq_true hc⟩⟩
theorem ne_data {g h : Heap} {L : Addr} {rest : Led} (N : News g L h rest) {c : Addr} {oc : Obj} {v : Option Value} (hc : (c, oc) ∈ rest) (hd : oc.data = .cell v) : ∀ p ∈ rest, (∀ x, p.2.data ≠ .cell x) → p.1 ≠ c := by
  intro p hp hx e
  have h1 := (N p hp).1
  have h2 := (N _ hc).1
  rw [e, h2] at h1
  exact hx v (by rw [← Option.some.inj h1]; exact hd)
theorem part_keep {r rest : Led} (k : ∀ p ∈ rest, (∀ x, p.2.data ≠ .cell x) → p ∈ r) {v : Value} {p : PtD} (H : PartAt rest v p) : PartAt r v p := by
  rcases p with _ | ⟨b, x⟩
  · obtain ⟨d, e, h⟩ := H
    exact ⟨d, e, k _ h fun x q => by cases q⟩
  · obtain ⟨d, t, e, h⟩ := H
    exact ⟨d, t, e, k _ h fun x q => by cases q⟩
theorem parts_keep {r rest : Led} (k : ∀ p ∈ rest, (∀ x, p.2.data ≠ .cell x) → p ∈ r) {a : Addr} {ps : List PtD} (H : PartsAt rest a ps) : PartsAt r a ps := by
  obtain ⟨its, n, h1, h2⟩ := H
  exact ⟨its, n, k _ h1 (fun x q => by cases q), h2.mono fun _ _ => part_keep k⟩
theorem tab_keep {r rest : Led} (k : ∀ p ∈ rest, (∀ x, p.2.data ≠ .cell x) → p ∈ r) {T : Array Value} (H : TabOk trKs T rest) : TabOk trKs T r :=
  ⟨H.tri, fun q hq => (H.codes q hq).imp id fun H => by
    obtain ⟨c, oc, vs, t, a, b, d, e⟩ := H
    exact ⟨c, oc, vs, t, a, k _ b (fun x y => by rw [d] at y; cases y), d, e⟩⟩
theorem dress_keep {r rest : Led} (k : ∀ p ∈ rest, (∀ x, p.2.data ≠ .cell x) → p ∈ r) {v : Value} {e : Nat × Nat} : DressAt rest v e → DressAt r v e :=
  fun H => by
    obtain ⟨d, t1, t2, b, x, a, b', c⟩ := H
    exact ⟨d, t1, t2, b, x, a, b', k _ c fun x q => by cases q⟩
noncomputable def dressPs (d : Dress) : List Pc := d.map fun e => dressPc e.1 e.2
theorem all2_at {α β : Type} {R : α → β → Prop} {l : List α} {m : List β} {i : Nat} {a : α} (H : All2 R l m) (h : l[i]? = some a) : ∃ b, m[i]? = some b ∧ R a b := H.at_ i h
theorem strs_of : ∀ {ys : List Value} {ls : List (List Nat)}, All2 (fun v t => ∃ u, v = Value.str (S t) u) ys ls → StrsAre ys (ls.map S) := by
  intro ys ls H
  induction H with
  | nil => exact .nil
  | cons x _ ih =>
    obtain ⟨u, rfl⟩ := x
    exact .cons _ _ ih
theorem dress_text (d : Dress) : ((dressPs d).map Pc.text).flatten = textOf (dressPs d) := by simp [textOf, List.flatMap]
theorem sum_text : ∀ ps : List Pc, ((ps.map Pc.text).map List.length).sum ≤ 4 * ps.length
  | [] => Nat.le_refl _
  | p :: r => by
    have := sum_text r
    have h := text_le p
    simp only [List.map_cons, List.sum_cons, List.length_cons] at *
    omega
theorem text_len (ps : List Pc) : (textOf ps).length ≤ 4 * ps.length := by
  have h : (textOf ps).length = ((ps.map Pc.text).map List.length).sum := by
    rw [← List.length_flatten]
    simp [textOf, List.flatMap]
  rw [h]
  exact sum_text ps
theorem text_flat (ps : List Pc) : (ps.map Pc.text).flatten = textOf ps := by simp [textOf, List.flatMap]
theorem dress_ok (d : Dress) : ∀ p ∈ dressPs d, p.ok := by
  intro p hp
  obtain ⟨e, _, rfl⟩ := List.mem_map.mp hp
  exact dressPc_ok _ _
theorem dress_nostar (d : Dress) : ∀ p ∈ dressPs d, p.isStar = false := by
  intro p hp
  obtain ⟨e, _, rfl⟩ := List.mem_map.mp hp
  exact dressPc_star _ _
theorem one_star : ∀ (A B : List Pc), (∀ p ∈ A, p.isStar = false) → (∀ p ∈ B, p.isStar = false) → OneStar (A ++ Pc.star :: B)
  | [], B, _, hB, A', B', e => by
    cases A' with
    | nil => intro p hp; cases hp
    | cons c A'' =>
      exfalso
      have e2 := (List.cons.inj e).2
      have := hB Pc.star (by rw [e2]; simp)
      cases this
  | a :: A, B, hA, hB, A', B', e => by
    cases A' with
    | nil => intro p hp; cases hp
    | cons c A'' =>
      have e1 := (List.cons.inj e).1
      have e2 := (List.cons.inj e).2
      intro p hp
      rcases List.mem_cons.mp hp with rfl | hp
      · exact hA _ (by rw [e1]; exact .head _)
      · exact one_star A B (fun q hq => hA q (.tail _ hq)) hB A'' B' e2 p hp
theorem law_view (w : World) (mean : ExcName → Option Value) (mg mb : Str → Option Value) {fa L : Addr} {cd : Value} {g : Heap} {m : Str → Option Value} {s : Shared} {Q : Flow → Shared → Prop} {E : Value → Shared → Prop}
    {rst : Led} {o4 : Obj} {dl : Addr} {k f : Nat} {tf : Tok} {mv : Value} {dd : Dress} {ds : List Value} {c4 : Option Value} {T : Array Value}
    (B : Below callerA g [] g) (F : Fr g L s.heap m) (X : Frag.In (hd.heap_39 w.params) g) (Tp : Top topProg LooseL mean mg mb g)
    (N : News g L s.heap ((L + 4, o4) :: (71, tabObj T) :: (dl, listOf ds.toArray k) :: rst))
    (hd4 : o4.data = .cell c4) (h71L : @LT.lt Nat _ 71 L) (hm4 : ∀ p ∈ rst, p.1 ≠ L + 4) (hm71 : ∀ p ∈ rst, p.1 ≠ 71) (hdl : @Ne Nat dl (L + 4)) (hdl71 : @Ne Nat dl 71) (hT : TabOk trKs T rst)
    (hds : All2 (DressAt rst) ds dd) (hdd : dd.length ≤ 8) (mt : m "total" = some mv) (md : m "dress" = some (.ref dl)) (mf : m "first" = some (.int (f : Int) tf)) (hg : AllBare s.gens)
    (ret : ∀ m' s' o4' T' rst' va, Fr g L s'.heap m' → News g L s'.heap ((L + 4, o4') :: (71, tabObj T') :: (dl, listOf ds.toArray k) :: rst') → o4'.data = .cell (some (.ref va)) → TabOk trKs T' rst' → (∀ p ∈ rst, p ∈ rst') → (∀ p ∈ rst', p.1 ≠ L + 4 ∧ p.1 ≠ 71) → PartsAt rst' va (viewParts (dd.take f) ++ none :: viewParts (dd.drop f)) →
      m' = m → s'.os = s.os → AllBare s'.gens → Q .next s') :
    wpAny (model PySem.Challenge.rw_ij0088_01.row.prog w) (callerA.deeper (envOfC (Str.ofString "law") (lawSc (_root_.Mine.hd.heap_39 w.params)) L fa cd)) (exec (nth 7 (bodyAt (_root_.Mine.hd.heap_39 w.params) 107)) (envOfC (Str.ofString "law") (lawSc (_root_.Mine.hd.heap_39 w.params)) L fa cd)) Q E s := by
  k_fill
  generalize hsc : lawSc (_root_.Mine.hd.heap_39 w.params) = sc
  conv at hsc => lhs; whnf
  subst hsc
  generalize hst : nth 7 (bodyAt (_root_.Mine.hd.heap_39 w.params) 107) = st
  conv at hst => lhs; whnf
  subst hst
  obtain ⟨hp1, g1, d1, tk1, os1⟩ := s
  have F2 := fr_canon [("total", _), ("dress", _), ("first", _)] F (all_cons mt (all_cons md (all_cons mf all_nil)))
  have hmm : mapL [("total", mv), ("dress", .ref dl), ("first", .int (f : Int) tf)] m = m := mapL_self (all_cons mt (all_cons md (all_cons mf all_nil)))
  clear F
  have hdsl := hds.length
  have h471 : @Ne Nat (L + 4) 71 := Nat.ne_of_gt (Nat.lt_of_lt_of_le h71L (Nat.le_add_right L 4))
  k_steps
  unfold Hold
  (rename News _ _ _ _ => N3)
  rw [List.toList_toArray] at N3
  refine LCg.CompSrc.ledger rfl (by k_asm) N3 (.head _) (by rw [List.size_toArray, List.length_take, PySem.sizeLine_eq]; omega) ?_
  intro g9
  have hda : All2 (DressAt rst) (ds.take f) (dd.take f) := hds.take f
  have hdb : All2 (DressAt rst) (ds.drop f) (dd.drop f) := hds.drop f
  refine compG_inv (fun i ys => All2 (fun v t => ∃ u, v = Value.str (S t) u) ys (((dressPs (dd.take f)).map Pc.text).take i)) .nil ?turn1 ?fin1
  case turn1 =>
    intro i v I oI C oC D m2 ys h tk E' hi hv hy hC hx F9 N9 off ne
    rw [List.getElem?_toArray] at hv
    obtain ⟨e, he, d, t1, t2, b, x, rfl, hid, hmem⟩ := all2_at hda hv
    refine turn_via2 (fun y => ∃ u, y = Value.str (S (dressPc e.1 e.2).text) u) F9 N9 ?_ ?_
    · k_steps
      exact TurnEnd.of (by k_asm) (by k_asm) ⟨_, rfl⟩
    · rintro y h8 tk8 ⟨u, rfl⟩ F8 N8
      refine ⟨h8, tk8, _, rfl, F8, N8, off, .inr ⟨_, .head _, rfl, _, rfl⟩, rfl, ?_⟩
      rw [List.take_add_one]
      refine hy.app ?_
      rw [List.getElem?_map, dressPs, List.getElem?_map, he]
      exact .cons ⟨u, rfl⟩ .nil
  case fin1 =>
    intro ys hys D h9 tk9 F9 N9 o9
    clear N3
    rw [List.size_toArray, List.length_take, hdsl] at hys
    rw [List.take_of_length_le (by simp [dressPs])] at hys
    have hysl := hys.length
    have hysz : ys.length ≤ 8 := by rw [hysl]; simp [dressPs]; omega
    k_steps
    unfold Hold
    (rename News _ _ _ _ => N3)
    rw [List.toList_toArray] at N3
    refine LCg.CompSrc.ledger rfl (by k_asm) N3 (.head _) (by rw [List.size_toArray, List.length_drop, PySem.sizeLine_eq]; omega) ?_
    intro g8
    refine compG_inv (fun i zs => All2 (fun v t => ∃ u, v = Value.str (S t) u) zs (((dressPs (dd.drop f)).map Pc.text).take i)) .nil ?turn2 ?fin2
    case turn2 =>
      intro i v I oI C oC D m2 zs h tk E' hi hv hy hC hx F9 N9 off ne
      rw [List.getElem?_toArray] at hv
      obtain ⟨e, he, d, t1, t2, b, x, rfl, hid, hmem⟩ := all2_at hdb hv
      refine turn_via2 (fun y => ∃ u, y = Value.str (S (dressPc e.1 e.2).text) u) F9 N9 ?_ ?_
      · k_steps
        exact TurnEnd.of (by k_asm) (by k_asm) ⟨_, rfl⟩
      · rintro y h8 tk8 ⟨u, rfl⟩ F8 N8
        refine ⟨h8, tk8, _, rfl, F8, N8, off, .inr ⟨_, .head _, rfl, _, rfl⟩, rfl, ?_⟩
        rw [List.take_add_one]
        refine hy.app ?_
        rw [List.getElem?_map, dressPs, List.getElem?_map, he]
        exact .cons ⟨u, rfl⟩ .nil
    case fin2 =>
      intro zs hzs D2 h8 tk8 F8 N8 o8
      clear N3
      rw [List.size_toArray, List.length_drop, hdsl] at hzs
      rw [List.take_of_length_le (by simp [dressPs])] at hzs
      have hzsl := hzs.length
      have hzsz : zs.length ≤ 8 := by rw [hzsl]; simp [dressPs]; omega
      k_steps
      unfold Hold
      (rename News _ _ _ _ => N3)
      have hst : StrsAre (ys ++ [Value.str (Str.ofString "*") tk9] ++ zs) (((dressPs (dd.take f) ++ [Pc.star] ++ dressPs (dd.drop f)).map Pc.text).map S) := by
        rw [List.map_append, List.map_append, List.map_append, List.map_append, l_star]
        exact strs_app (strs_app (strs_of hys) (strs_one [42] _)) (strs_of hzs)
      have hpl : (dressPs (dd.take f) ++ [Pc.star] ++ dressPs (dd.drop f)).length ≤ 20 := by
        simp only [dressPs, List.length_append, List.length_map, List.length_take, List.length_drop, List.length_cons, List.length_nil]
        omega
      refine join_S (ls := (dressPs (dd.take f) ++ [Pc.star] ++ dressPs (dd.drop f)).map Pc.text) (News.isList N3 (.head _)) hst l_nil (Nat.le_trans (sum_text _) (by omega)) ?_
      intro t' k'
      rw [text_flat]
      have htl := text_len (dressPs (dd.take f) ++ [Pc.star] ++ dressPs (dd.drop f))
      k_steps
      unfold Hold
      (rename Fr _ _ _ _ => F5)
      (rename News _ _ _ _ => N5)
      have h4m : (L + 4, o4) ∈ (dl, listOf ds.toArray k) :: (L + 4, o4) :: rst := .tail _ (.head _)
      refine lawGivesG (parts_gives w mean mg mb _ (dressPs (dd.take f) ++ [Pc.star] ++ dressPs (dd.drop f)) _ T ((dl, listOf ds.toArray k) :: (L + 4, o4) :: rst) rfl (by omega) (by omega) ?ok9 ?one9) (by omega) (by k_asm) F5 (by k_asm) (cb_drop N5 ?_) (by k_asm) rfl ⟨rfl, hT.sub fun p hp => .tail _ (.tail _ hp), all_cons' hdl71 (all_cons' h471 hm71)⟩ hg ?_
      case ok9 =>
        intro p hp
        simp only [List.mem_append, List.mem_singleton] at hp
        rcases hp with (h | rfl) | h
        · exact dress_ok _ p h
        · trivial
        · exact dress_ok _ p h
      case one9 =>
        rw [List.append_assoc]
        exact one_star _ _ (dress_nostar _) (dress_nostar _)
      · walk_at "m all"
      rintro r1 n1 s1 F6 N6 ho1 hg1 ⟨pa, T', rest', rfl, rfl, hT', hsub, h71, hparts⟩
      have N7 : News g L s1.heap rest' := cb_drop N6 fun p hp => .tail _ hp
      obtain ⟨r, q1, q2, q3⟩ := clean N7 (L + 4)
      have hcell := hsub _ h4m
      have keep : ∀ p ∈ rest', (∀ x, p.2.data ≠ .cell x) → p ∈ r := fun p hp hx => q3 p hp (ne_data N7 hcell hd4 p hp hx)
      have hdlr : (dl, listOf ds.toArray k) ∈ r := q3 _ (hsub _ (.head _)) hdl
      have N4 : News g L s1.heap ((L + 4, o4) :: (71, tabObj T') :: (dl, listOf ds.toArray k) :: r) := fun p hp => by
        rcases List.mem_cons.mp hp with rfl | hp
        · exact N7 _ hcell
        rcases List.mem_cons.mp hp with rfl | hp
        · exact N6 _ (.head _)
        rcases List.mem_cons.mp hp with rfl | hp
        · exact N7 _ (q1 _ hdlr)
        · exact N7 _ (q1 _ hp)
      clear N5 F5 N6 N7
      obtain ⟨hp2, g2, d2, tk2, os2⟩ := s1
      k_steps
      (rename News _ _ _ _ => N8)
      (rename _ = Data.cell (some (Value.ref pa)) => d8)
      refine ret _ _ _ T' r pa (by k_asm) N8 d8 (tab_keep keep hT') (fun p hp => q3 p (hsub p (.tail _ (.tail _ hp))) (hm4 p hp)) (fun p hp => ⟨q2 p hp, h71 p (q1 p hp)⟩) (parts_keep keep ?_) hmm ho1 hg1
      have e : partsOf (dressPs (dd.take f) ++ [Pc.star] ++ dressPs (dd.drop f)) = viewParts (dd.take f) ++ none :: viewParts (dd.drop f) := by
        simp [partsOf, viewParts, dressPs, Pc.part]
      rw [← e]
      exact hparts

end Mine
end
section
theorem Mine.begin_Lj : True := by
  w_top off
  k_with_none
  k_with "omega" => (first | with_reducible assumption | with_reducible exact Nat.le_trans (by assumption) (Nat.le_of_ble_eq_true rfl) | with_reducible exact Nat.le_refl _ | with_reducible exact Nat.ne_of_gt (by assumption) | with_reducible exact Nat.ne_of_lt (by assumption) | with_reducible exact Ne.symm (by assumption) | with_reducible exact Int.ofNat_lt.mpr (by assumption) | with_reducible exact Nat.lt_of_le_of_lt (Nat.le_add_right _ _) (by assumption))
  trivial
namespace Mine
theorem rules_Lj_1 : True := by
  k_with "newList" => ((k_here; (first | (refine newList_K (F := by k_dflt (k_asm)) (N := by k_dflt (k_asm)) ?_ (hsz := by k_dflt (exact Nat.le_of_ble_eq_true rfl))) | (k_dflt (refine newList_K (F := by k_asm) (N := by k_asm) ?_ (hsz := by exact Nat.le_of_ble_eq_true rfl)))); intro _ _ _ _ l1qq; (try k_lt l1qq); (try k_sweep)))
  k_with "m srch1" => (first | with_reducible assumption | with_reducible exact List.mem_cons_self | (with_reducible refine List.mem_append.mpr (Or.inl ?_); walk_at "m srch1"; done) | (with_reducible refine List.mem_append.mpr (Or.inr ?_); walk_at "m srch1"; done) | (with_reducible refine List.mem_cons_of_mem _ ?_; walk_at "m srch1"; done))
  k_with "m srch" => (first | (walk_at "m srch1"; done) | (repeat (first | exact List.Mem.head _ | refine List.mem_cons_of_mem _ ?_); done))
  k_with "m all" => (repeat' (first | (with_reducible refine List.forall_mem_cons.mpr (And.intro ?_ ?_)) | (with_reducible refine List.forall_mem_append.mpr (And.intro ?_ ?_)) | (walk_at "m srch"; done) | (intro p hp; walk_at "m srch"; done) | exact fun _ hp => nomatch hp))
  trivial
theorem rules_Lj_2 : True := by
  k_with "eval Subscript" => ((refine Subscript_N2 ?_))
  k_with "eval IfExp" => (((fail_if_success (have hmark9 : Mark := by assumption)); refine Hold.of ?_))
  k_with "call ref" => ((refine Hold.of ?_))
  k_with "call ref" => ((k_here; (with_reducible show wpAny _ _ (call (Value.ref 90) _) _ _ _); (first | (refine lawS (plain_gives _ _ _ _ _ _ (by k_dflt (first | omega | (simp; done) | (simp; omega)))) (B := by k_dflt (k_asm)) (F := by k_dflt (k_asm)) (X := by k_dflt (k_asm)) (N := by k_dflt (k_asm)) (T := by k_dflt (k_asm)) (hk := by k_dflt (exact rfl)) (hp := by k_dflt (trivial)) ?_) | (k_dflt (refine lawS (plain_gives _ _ _ _ _ _ (by first | omega | (simp; done) | (simp; omega))) (B := by k_asm) (F := by k_asm) (X := by k_asm) (N := by k_asm) (T := by k_asm) (hk := by exact rfl) (hp := by trivial) ?_))); intro _ _ _ _ _; (try k_sweep)))
  k_with "m list" => ((refine News.isList (N := by k_asm) (hm := by repeat (first | assumption | exact List.Mem.head _ | refine List.mem_cons_of_mem _ ?_))))
  k_with "m mem" => (repeat (first | assumption | exact List.Mem.head _ | refine List.mem_cons_of_mem _ ?_))
  k_with "m place" => (first | with_reducible exact (rfl : ((_ : Nat) : Int) = _) | exact Int.zero_add _ | exact (rfl : (0 : Int) = ((0 : Nat) : Int)) | exact (rfl : (1 : Int) = ((1 : Nat) : Int)))
  k_with "m item" => ((k_here; (with_reducible show wpAny _ _ (subscriptTail _ _ (Value.ref _) (Value.int _ _)) _ _ _); (first | (refine item_L (hl := by k_dflt (walk_at "m list")) (hk := by k_dflt (walk_at "m place")) (hx := by k_dflt (first | assumption | exact rfl)) (hz := by k_dflt (first | exact Nat.le_of_ble_eq_true rfl | omega)) ?_ (hs := by k_dflt (with_unfolding_all rfl)) (hg := by k_dflt (kmk_pure))) | (k_dflt (refine item_L (hl := by walk_at "m list") (hk := by walk_at "m place") (hx := by first | assumption | exact rfl) (hz := by first | exact Nat.le_of_ble_eq_true rfl | omega) ?_ (hs := by with_unfolding_all rfl) (hg := by kmk_pure))))))
  k_with "subscriptTail Name Constant ref int" => (walk_at "m item")
  k_with "m sub" => ((intro p hp; repeat (first | exact hp | refine List.mem_cons_of_mem _ ?_)))
  k_with "m perm" => ((refine cb_drop (N := by k_asm) ?_; repeat' (first | (refine List.forall_mem_cons.mpr (And.intro ?_ ?_)) | (walk_at "m mem"; done) | (walk_at "m sub"; done))))
  k_with "m lit" => (with_reducible first | exact l_star | exact l_qm | exact l_lb | exact l_rb | exact l_ex | exact l_dash | exact l_dot | exact l_hat | exact l_bs | exact l_bs2 | exact l_bsd | exact l_nil | exact l_dotstar | exact l_open | exact l_close | exact rfl)
  k_with "m sameF" => (first | (with_reducible exact hdF (by assumption)) | (with_reducible exact hdF (Ne.symm (by assumption))) | exact rfl)
  k_with "compareOp Eq str str" => ((k_here; (first | (first | (refine eq_Sv false (hx := by k_dflt (walk_at "m lit")) (hy := by k_dflt (walk_at "m lit")) (hv := by k_dflt (walk_at "m sameF")) ?_) | (refine eq_Sv true (hx := by k_dflt (walk_at "m lit")) (hy := by k_dflt (walk_at "m lit")) (hv := by k_dflt (exact rfl)) ?_) | (refine eq_S (hx := by k_dflt (walk_at "m lit")) (hy := by k_dflt (walk_at "m lit")) ?_)) | (k_dflt (first | (refine eq_Sv false (hx := by walk_at "m lit") (hy := by walk_at "m lit") (hv := by walk_at "m sameF") ?_) | (refine eq_Sv true (hx := by walk_at "m lit") (hy := by walk_at "m lit") (hv := by exact rfl) ?_) | (refine eq_S (hx := by walk_at "m lit") (hy := by walk_at "m lit") ?_))))))
  k_with "call builtin:len" => ((k_here; (with_reducible show wpAny _ _ (call (Value.builtin "len") [Value.ref _]) _ _ _); (first | (refine len_lst (hl := by k_dflt (walk_at "m list")) (e := by k_dflt (first | assumption | exact rfl)) (hn := by k_dflt (omega)) ?_) | (k_dflt (refine len_lst (hl := by walk_at "m list") (e := by first | assumption | exact rfl) (hn := by omega) ?_))); intro _ _))
  k_with "m small" => (first | exact Nat.le_of_ble_eq_true rfl | (simp only [List.size_toArray, sizeLine_eq, Array.length_toList]; omega) | (simp only [List.size_toArray, List.length_append, List.length_take, List.length_drop, sizeLine_eq, Array.length_toList]; omega) | (simp only [List.size_toArray, List.length_append, List.length_take, List.length_drop, List.length_cons, List.length_nil, sizeLine_eq, Array.length_toList]; omega))
  k_with "subscriptTail Name Slice ref ref" => ((k_here; (with_reducible show wpAny _ _ (subscriptTail _ (PySem.Expr.Slice _ _ none _) (Value.ref _) (Value.ref _)) _ _ _); (first | (refine kms_slice_lit (F := by k_dflt (k_asm)) (N := by k_dflt (k_asm)) (hl := by k_dflt (walk_at "m list")) (pl := by k_dflt (kmk_part)) (pu := by k_dflt (kmk_part)) (e := by k_dflt (first | exact pick_to _ _ | exact pick_from1 _ _ | exact pick_from _ _ | exact rfl)) ?_ (hs := by k_dflt (with_unfolding_all rfl)) (ht := by k_dflt (kmk_pure)) (hz := by k_dflt (walk_at "m small")); k_whole) | (k_dflt (refine kms_slice_lit (F := by k_asm) (N := by k_asm) (hl := by walk_at "m list") (pl := by kmk_part) (pu := by kmk_part) (e := by first | exact pick_to _ _ | exact pick_from1 _ _ | exact pick_from _ _ | exact rfl) ?_ (hs := by with_unfolding_all rfl) (ht := by kmk_pure) (hz := by walk_at "m small"); k_whole))); intro _ _ _ _ l1qq; (try k_lt l1qq); (try k_sweep)))
  k_with "binaryOp Add ref ref" => ((k_here; (with_reducible show wpAny _ _ (binaryOp _ (Value.ref _) (Value.ref _)) _ _ _); (first | (refine kmk_add_lit (F := by k_dflt (k_asm)) (N := by k_dflt (k_asm)) (ha := by k_dflt (walk_at "m list")) (hb := by k_dflt (walk_at "m list")) (e := by k_dflt (exact add_e _ _)) ?_ (hz := by k_dflt (walk_at "m small"))) | (k_dflt (refine kmk_add_lit (F := by k_asm) (N := by k_asm) (ha := by walk_at "m list") (hb := by walk_at "m list") (e := by exact add_e _ _) ?_ (hz := by walk_at "m small")))); intro _ _ _ _ l1qq; (try k_lt l1qq); (try k_sweep)))
  k_with "eval ListComp" => ((k_here; (first | (refine LCg.ListComp_U (F₀ := by k_asm) (by k_dflt (rfl)) (by k_dflt (decide)) (by k_dflt (rfl)) (by k_dflt (decide)) (by k_dflt (rfl)) ?_) | (k_dflt (refine LCg.ListComp_U (F₀ := by k_asm) (by rfl) (by decide) (by rfl) (by decide) (by rfl) ?_)))))
  k_with "CompSrc" => ((refine Hold.of ?_))
  trivial
theorem item_part {xs : Led} {d : Addr} {e : Nat × Nat} {b : Bool} {x : List Nat} {t : Tok} (hid : itemD e.1 e.2 = some (b, x)) (hm : (d, listOf #[.bool b, .str (S x) t] 0) ∈ xs) : PartAt xs (.ref d) (itemD e.1 e.2) := by
  rw [hid]
  exact ⟨d, t, rfl, hm⟩
theorem law_items (w : World) (mean : ExcName → Option Value) (mg mb : Str → Option Value) {fa L : Addr} {cd : Value} {g : Heap} {m : Str → Option Value} {s : Shared} {Q : Flow → Shared → Prop} {E : Value → Shared → Prop}
    {rst : Led} {o5 : Obj} {dl : Addr} {k f : Nat} {tf : Tok} {mv : Value} {dd : Dress} {ds : List Value} {c5 : Option Value}
    (B : Below callerA g [] g) (F : Fr g L s.heap m) (X : Frag.In (hd.heap_39 w.params) g) (Tp : Top topProg LooseL mean mg mb g)
    (N : News g L s.heap ((L + 5, o5) :: (dl, listOf ds.toArray k) :: rst))
    (hd5 : o5.data = .cell c5) (hm5 : ∀ p ∈ rst, p.1 ≠ L + 5) (hdl : @Ne Nat dl (L + 5))
    (hds : All2 (DressAt rst) ds dd) (hdd : dd.length ≤ 8) (mt : m "total" = some mv) (md : m "dress" = some (.ref dl)) (mf : m "first" = some (.int (f : Int) tf))
    (ret : ∀ h' tk' o5' xs ia, Fr g L h' m → News g L h' ((L + 5, o5') :: (dl, listOf ds.toArray k) :: (xs ++ rst)) → o5'.data = .cell (some (.ref ia)) → (∀ p ∈ xs, @Ne Nat p.1 (L + 5) ∧ @Ne Nat p.1 dl ∧ ∀ q ∈ rst, q.1 ≠ p.1) → PartsAt (xs ++ rst) ia (itemParts (dd.take f) ++ none :: itemParts (dd.drop f)) → Q .next { s with heap := h', toks := tk' }) :
    wpAny (model PySem.Challenge.rw_ij0088_01.row.prog w) (callerA.deeper (envOfC (Str.ofString "law") (lawSc (_root_.Mine.hd.heap_39 w.params)) L fa cd)) (exec (nth 8 (bodyAt (_root_.Mine.hd.heap_39 w.params) 107)) (envOfC (Str.ofString "law") (lawSc (_root_.Mine.hd.heap_39 w.params)) L fa cd)) Q E s := by
  k_fill
  generalize hsc : lawSc (_root_.Mine.hd.heap_39 w.params) = sc
  conv at hsc => lhs; whnf
  subst hsc
  generalize hst : nth 8 (bodyAt (_root_.Mine.hd.heap_39 w.params) 107) = st
  conv at hst => lhs; whnf
  subst hst
  obtain ⟨hp1, g1, d1, tk1, os1⟩ := s
  have F2 := fr_canon [("total", _), ("dress", _), ("first", _)] F (all_cons mt (all_cons md (all_cons mf all_nil)))
  have hmm : mapL [("total", mv), ("dress", .ref dl), ("first", .int (f : Int) tf)] m = m := mapL_self (all_cons mt (all_cons md (all_cons mf all_nil)))
  clear F
  have hdsl := hds.length
  k_steps
  unfold Hold
  (rename News _ _ _ _ => N3)
  (rename @LT.lt Nat _ (L + 5) _ ∧ @LT.lt Nat _ dl _ ∧ AllLt _ rst => l3)
  rw [List.toList_toArray] at N3
  have hda : All2 (DressAt rst) (ds.take f) (dd.take f) := hds.take f
  have hdb : All2 (DressAt rst) (ds.drop f) (dd.drop f) := hds.drop f
  refine LCg.CompSrc.ledger rfl (by k_asm) N3 (.head _) (by rw [List.size_toArray, List.length_take, PySem.sizeLine_eq]; omega) ?_
  intro g9
  (rename Addr => D3)
  obtain ⟨base, hbase⟩ : ∃ b : Led, b = (D3, listOf (ds.take f).toArray 0) :: (L + 5, o5) :: (dl, listOf ds.toArray k) :: rst := ⟨_, rfl⟩
  have hbr : ∀ p ∈ rst, p ∈ base := fun p hp => hbase ▸ .tail _ (.tail _ (.tail _ hp))
  have hbD : (D3, listOf (ds.take f).toArray 0) ∈ base := hbase ▸ .head _
  rw [← hbase]
  refine compN_inv (fun i ys nw => ∃ xs, nw = xs ++ base ∧ All2 (PartAt xs) ys ((itemParts (dd.take f)).take i) ∧ ∀ p ∈ xs, ∀ q ∈ base, q.1 ≠ p.1) ⟨[], rfl, .nil, fun p hp => nomatch hp⟩ ?turn1 ?fin1
  case turn1 =>
    rintro i v I oI C oC D m2 ys _ h tk E' hi hv ⟨xs, rfl, hy, hxs⟩ hC hx F9 N9 off ne
    rw [List.getElem?_toArray] at hv
    obtain ⟨e, he, d, t1, t2, b, x, rfl, hid, hmem⟩ := all2_at hda hv
    have hmem2 : (d, listOf #[.str (S (dressPc e.1 e.2).text) t1, .bool b, .str (S x) t2] 0) ∈ xs ++ base := List.mem_append.mpr (.inr (hbr _ hmem))
    k_steps
    (rename Addr => D4)
    (rename News _ _ _ _ => N4)
    (rename @LT.lt Nat _ I _ ∧ _ => l4)
    have N5 : News g L _ ((D4, listOf #[.bool b, .str (S x) t2] 0) :: (I, oI) :: (C, oC) :: (D, LCg.lst ys) :: (xs ++ base)) := N4
    refine LCg.CompEnd.intro (by k_asm) N5 ((D4, listOf #[.bool b, .str (S x) t2] 0) :: (xs ++ base)) ?_ ⟨⟨Nat.ne_of_gt l4.1, Nat.ne_of_gt l4.2.1, Nat.ne_of_gt l4.2.2.1⟩, off⟩ (.inr ⟨_, .tail _ (List.mem_append.mpr (.inr hbD)), rfl, _, rfl⟩) ⟨(D4, listOf #[.bool b, .str (S x) t2] 0) :: xs, rfl, ?_, ?_⟩
    · walk_at "m all"
    · rw [List.take_add_one]
      refine (hy.mono fun _ _ => PartAt.mono fun p hp => .tail _ hp).app ?_
      rw [itemParts, List.getElem?_map, he]
      exact .cons (item_part hid (.head _)) .nil
    · exact all_cons' (fun q hq => Nat.ne_of_lt (ktn_ltOf l4.2.2.2 q (List.mem_append.mpr (.inr hq)))) hxs
  case fin1 =>
    rintro ys _ ⟨xs, rfl, hys, hxs⟩ D h9 tk9 F9 N9 o9
    clear N3
    rw [List.size_toArray, List.length_take, hdsl, List.take_of_length_le (by simp [itemParts])] at hys
    have hysl := hys.length
    have hysz : ys.length ≤ 8 := by rw [hysl]; simp [itemParts]; omega
    have o9m := off1_mem o9
    have hb5 : (L + 5, o5) ∈ base := hbase ▸ .tail _ (.head _)
    have hbd : (dl, listOf ds.toArray k) ∈ base := hbase ▸ .tail _ (.tail _ (.head _))
    have N10 : News g L h9 ((D, LCg.lst ys) :: (L + 5, o5) :: (dl, listOf ds.toArray k) :: (xs ++ rst)) := by
      refine cb_drop N9 fun p hp => ?_
      simp only [List.mem_cons, List.mem_append] at hp ⊢
      rcases hp with h | h | h | h | h
      · exact .inl h
      · exact .inr (.inr (h ▸ hb5))
      · exact .inr (.inr (h ▸ hbd))
      · exact .inr (.inl h)
      · exact .inr (.inr (hbr p h))
    clear N9
    k_steps
    unfold Hold
    (rename News _ _ _ _ => N3)
    rw [List.toList_toArray] at N3
    rename_i E4 h41 l41 S4 h42 l42 A4 h43 l43 D5 h44 F44
    obtain ⟨base2, hbase2⟩ : ∃ b : Led, b = (D5, listOf (ds.drop f).toArray 0) :: (A4, listOf (ys ++ [Value.ref E4]).toArray 0) :: (E4, listOf #[] 0) :: (L + 5, o5) :: (dl, listOf ds.toArray k) :: (xs ++ rst) := ⟨_, rfl⟩
    have hbr2 : ∀ p ∈ xs ++ rst, p ∈ base2 := fun p hp => hbase2 ▸ .tail _ (.tail _ (.tail _ (.tail _ (.tail _ hp))))
    have hbD2 : (D5, listOf (ds.drop f).toArray 0) ∈ base2 := hbase2 ▸ .head _
    have hb52 : (L + 5, o5) ∈ base2 := hbase2 ▸ .tail _ (.tail _ (.tail _ (.head _)))
    have hbd2 : (dl, listOf ds.toArray k) ∈ base2 := hbase2 ▸ .tail _ (.tail _ (.tail _ (.tail _ (.head _))))
    have hbA2 : (A4, listOf (ys ++ [Value.ref E4]).toArray 0) ∈ base2 := hbase2 ▸ .tail _ (.head _)
    have hbE2 : (E4, listOf #[] 0) ∈ base2 := hbase2 ▸ .tail _ (.tail _ (.head _))
    have N4 : News g L h44 base2 := by
      rw [hbase2]
      refine cb_drop N3 ?_
      walk_at "m all"
    clear N3
    refine LCg.CompSrc.ledger rfl F44 N4 hbD2 (by rw [List.size_toArray, List.length_drop, PySem.sizeLine_eq]; omega) ?_
    intro g8
    refine compN_inv (fun i ys nw => ∃ xs, nw = xs ++ base2 ∧ All2 (PartAt xs) ys ((itemParts (dd.drop f)).take i) ∧ ∀ p ∈ xs, ∀ q ∈ base2, q.1 ≠ p.1) ⟨[], rfl, .nil, fun p hp => nomatch hp⟩ ?turn2 ?fin2
    case turn2 =>
      rintro i v I oI C oC D m2 zs _ h tk E' hi hv ⟨xs2, rfl, hy, hxs2⟩ hC hx F9 N9 off ne
      rw [List.getElem?_toArray] at hv
      obtain ⟨e, he, d, t1, t2, b, x, rfl, hid, hmem⟩ := all2_at hdb hv
      have hmem2 : (d, listOf #[.str (S (dressPc e.1 e.2).text) t1, .bool b, .str (S x) t2] 0) ∈ xs2 ++ base2 := List.mem_append.mpr (.inr (hbr2 _ (List.mem_append.mpr (.inr hmem))))
      k_steps
      (rename Addr => D6)
      (rename News _ _ _ _ => N5)
      (rename @LT.lt Nat _ I _ ∧ _ => l5)
      have N6 : News g L _ ((D6, listOf #[.bool b, .str (S x) t2] 0) :: (I, oI) :: (C, oC) :: (D, LCg.lst zs) :: (xs2 ++ base2)) := N5
      refine LCg.CompEnd.intro (by k_asm) N6 ((D6, listOf #[.bool b, .str (S x) t2] 0) :: (xs2 ++ base2)) ?_ ⟨⟨Nat.ne_of_gt l5.1, Nat.ne_of_gt l5.2.1, Nat.ne_of_gt l5.2.2.1⟩, off⟩ (.inr ⟨_, .tail _ (List.mem_append.mpr (.inr hbD2)), rfl, _, rfl⟩) ⟨(D6, listOf #[.bool b, .str (S x) t2] 0) :: xs2, rfl, ?_, ?_⟩
      · walk_at "m all"
      · rw [List.take_add_one]
        refine (hy.mono fun _ _ => PartAt.mono fun p hp => .tail _ hp).app ?_
        rw [itemParts, List.getElem?_map, he]
        exact .cons (item_part hid (.head _)) .nil
      · exact all_cons' (fun q hq => Nat.ne_of_lt (ktn_ltOf l5.2.2.2 q (List.mem_append.mpr (.inr hq)))) hxs2
    case fin2 =>
      rintro zs _ ⟨xs2, rfl, hzs, hxs2⟩ D2 h8 tk8 F8 N8 o8
      rw [List.size_toArray, List.length_drop, hdsl, List.take_of_length_le (by simp [itemParts])] at hzs
      have hzsl := hzs.length
      have hzsz : zs.length ≤ 8 := by rw [hzsl]; simp [itemParts]; omega
      have o8m := off1_mem o8
      have N12 : News g L h8 ((D2, LCg.lst zs) :: (A4, listOf (ys ++ [Value.ref E4]).toArray 0) :: (L + 5, o5) :: (dl, listOf ds.toArray k) :: (xs2 ++ (E4, listOf #[] 0) :: (xs ++ rst))) := by
        refine cb_drop N8 fun p hp => ?_
        simp only [List.mem_cons, List.mem_append] at hp ⊢
        rcases hp with h | h | h | h | h | h | h | h
        · exact .inl h
        · exact .inr (.inr (h ▸ hbA2))
        · exact .inr (.inr (h ▸ hb52))
        · exact .inr (.inr (h ▸ hbd2))
        · exact .inr (.inl h)
        · exact .inr (.inr (h ▸ hbE2))
        · exact .inr (.inr (hbr2 p (List.mem_append.mpr (.inl h))))
        · exact .inr (.inr (hbr2 p (List.mem_append.mpr (.inr h))))
      clear N8
      have hD5 : @Ne Nat D2 (L + 5) := Ne.symm (o8m _ (List.mem_append.mpr (.inr hb52)))
      have hA5 : @Ne Nat A4 (L + 5) := Nat.ne_of_gt l43.2.2.2.1
      have hx5 : ∀ p ∈ xs2 ++ (E4, listOf #[] 0) :: (xs ++ rst), p.1 ≠ L + 5 := by
        intro p hp
        rcases List.mem_append.mp hp with h | h
        · exact Ne.symm (hxs2 p h _ hb52)
        rcases List.mem_cons.mp h with rfl | h
        · exact Nat.ne_of_gt l41.2.1
        rcases List.mem_append.mp h with h | h
        · exact Ne.symm (hxs p h _ hb5)
        · exact hm5 p h
      k_steps
      rename_i D7 h45 h46 o7 F46 N46 d46
      have l45 := l1qq
      rw [hmm] at F46
      refine ret _ _ o7 ((D7, listOf (ys ++ [Value.ref E4] ++ zs).toArray 0) :: (xs2 ++ (E4, listOf #[] 0) :: xs)) D7 F46 (cb_drop N46 ?_) d46 ?_ ⟨_, 0, .head _, ?_⟩
      · walk_at "m all"
      · refine all_cons' ⟨Nat.ne_of_gt l45.2.2.1, Nat.ne_of_gt l45.2.2.2.1, fun q hq => Nat.ne_of_lt (ktn_ltOf l45.2.2.2.2 q (List.mem_append.mpr (.inr (.tail _ (List.mem_append.mpr (.inr hq))))))⟩ ?_
        intro p hp
        rcases List.mem_append.mp hp with h | h
        · exact ⟨Ne.symm (hxs2 p h _ hb52), Ne.symm (hxs2 p h _ hbd2), fun q hq => hxs2 p h q (hbr2 q (List.mem_append.mpr (.inr hq)))⟩
        rcases List.mem_cons.mp h with rfl | h
        · exact ⟨Nat.ne_of_gt l41.2.1, Nat.ne_of_gt l41.2.2.1, fun q hq => Nat.ne_of_lt (ktn_ltOf l41.2.2.2 q (List.mem_append.mpr (.inr hq)))⟩
        · exact ⟨Ne.symm (hxs p h _ hb5), Ne.symm (hxs p h _ hbd), fun q hq => hxs p h q (hbr q hq)⟩
      · rw [show itemParts (dd.take f) ++ none :: itemParts (dd.drop f) = itemParts (dd.take f) ++ [none] ++ itemParts (dd.drop f) by simp]
        have hE : PartAt (((D7, listOf (ys ++ [Value.ref E4] ++ zs).toArray 0) :: (xs2 ++ (E4, listOf #[] 0) :: xs)) ++ rst) (Value.ref E4) none := ⟨E4, rfl, by walk_at "m srch"⟩
        refine (All2.app (hys.mono fun _ _ => PartAt.mono fun p hp => ?_) (.cons hE .nil)).app (hzs.mono fun _ _ => PartAt.mono fun p hp => ?_)
        · walk_at "m srch"
        · walk_at "m srch"

end Mine
end
section
theorem Mine.begin_Lk : True := by
  w_top off
  k_with_none
  k_with "omega" => (first | with_reducible assumption | with_reducible exact Nat.le_trans (by assumption) (Nat.le_of_ble_eq_true rfl) | with_reducible exact Nat.le_refl _ | with_reducible exact Nat.ne_of_gt (by assumption) | with_reducible exact Nat.ne_of_lt (by assumption) | with_reducible exact Ne.symm (by assumption) | with_reducible exact Int.ofNat_lt.mpr (by assumption) | with_reducible exact Nat.lt_of_le_of_lt (Nat.le_add_right _ _) (by assumption))
  trivial
namespace Mine
theorem rules_Lk_1 : True := by
  k_with "newList" => ((k_here; (first | (refine newList_K (F := by k_dflt (k_asm)) (N := by k_dflt (k_asm)) ?_ (hsz := by k_dflt (exact Nat.le_of_ble_eq_true rfl))) | (k_dflt (refine newList_K (F := by k_asm) (N := by k_asm) ?_ (hsz := by exact Nat.le_of_ble_eq_true rfl)))); intro _ _ _ _ l1qq; (try k_lt l1qq); (try k_sweep)))
  trivial
theorem rules_Lk_2 : True := by
  k_with "eval Subscript" => ((refine Subscript_N2 ?_))
  k_with "eval IfExp" => (((fail_if_success (have hmark9 : Mark := by assumption)); refine Hold.of ?_))
  k_with "call ref" => ((refine Hold.of ?_))
  k_with "call ref" => ((k_here; (with_reducible show wpAny _ _ (call (Value.ref 90) _) _ _ _); (first | (refine lawS (plain_gives _ _ _ _ _ _ (by k_dflt (first | omega | (simp; done) | (simp; omega)))) (B := by k_dflt (k_asm)) (F := by k_dflt (k_asm)) (X := by k_dflt (k_asm)) (N := by k_dflt (k_asm)) (T := by k_dflt (k_asm)) (hk := by k_dflt (exact rfl)) (hp := by k_dflt (trivial)) ?_) | (k_dflt (refine lawS (plain_gives _ _ _ _ _ _ (by first | omega | (simp; done) | (simp; omega))) (B := by k_asm) (F := by k_asm) (X := by k_asm) (N := by k_asm) (T := by k_asm) (hk := by exact rfl) (hp := by trivial) ?_))); intro _ _ _ _ _; (try k_sweep)))
  k_with "m list" => ((refine News.isList (N := by k_asm) (hm := by repeat (first | assumption | exact List.Mem.head _ | refine List.mem_cons_of_mem _ ?_))))
  k_with "m mem" => (repeat (first | assumption | exact List.Mem.head _ | refine List.mem_cons_of_mem _ ?_))
  k_with "m place" => (first | with_reducible exact (rfl : ((_ : Nat) : Int) = _) | exact Int.zero_add _ | exact (rfl : (0 : Int) = ((0 : Nat) : Int)) | exact (rfl : (1 : Int) = ((1 : Nat) : Int)))
  k_with "m item" => ((k_here; (with_reducible show wpAny _ _ (subscriptTail _ _ (Value.ref _) (Value.int _ _)) _ _ _); (first | (refine item_L (hl := by k_dflt (walk_at "m list")) (hk := by k_dflt (walk_at "m place")) (hx := by k_dflt (first | assumption | exact rfl)) (hz := by k_dflt (first | exact Nat.le_of_ble_eq_true rfl | omega)) ?_ (hs := by k_dflt (with_unfolding_all rfl)) (hg := by k_dflt (kmk_pure))) | (k_dflt (refine item_L (hl := by walk_at "m list") (hk := by walk_at "m place") (hx := by first | assumption | exact rfl) (hz := by first | exact Nat.le_of_ble_eq_true rfl | omega) ?_ (hs := by with_unfolding_all rfl) (hg := by kmk_pure))))))
  k_with "subscriptTail Name Constant ref int" => (walk_at "m item")
  k_with "m sub" => ((intro p hp; repeat (first | exact hp | refine List.mem_cons_of_mem _ ?_)))
  k_with "m perm" => ((refine cb_drop (N := by k_asm) ?_; repeat' (first | (refine List.forall_mem_cons.mpr (And.intro ?_ ?_)) | (walk_at "m mem"; done) | (walk_at "m sub"; done))))
  k_with "m lit" => (with_reducible first | exact l_star | exact l_qm | exact l_lb | exact l_rb | exact l_ex | exact l_dash | exact l_dot | exact l_hat | exact l_bs | exact l_bs2 | exact l_bsd | exact l_nil | exact l_dotstar | exact l_open | exact l_close | exact rfl)
  k_with "m sameF" => (first | (with_reducible exact hdF (by assumption)) | (with_reducible exact hdF (Ne.symm (by assumption))) | exact rfl)
  k_with "compareOp Eq str str" => ((k_here; (first | (first | (refine eq_Sv false (hx := by k_dflt (walk_at "m lit")) (hy := by k_dflt (walk_at "m lit")) (hv := by k_dflt (walk_at "m sameF")) ?_) | (refine eq_Sv true (hx := by k_dflt (walk_at "m lit")) (hy := by k_dflt (walk_at "m lit")) (hv := by k_dflt (exact rfl)) ?_) | (refine eq_S (hx := by k_dflt (walk_at "m lit")) (hy := by k_dflt (walk_at "m lit")) ?_)) | (k_dflt (first | (refine eq_Sv false (hx := by walk_at "m lit") (hy := by walk_at "m lit") (hv := by walk_at "m sameF") ?_) | (refine eq_Sv true (hx := by walk_at "m lit") (hy := by walk_at "m lit") (hv := by exact rfl) ?_) | (refine eq_S (hx := by walk_at "m lit") (hy := by walk_at "m lit") ?_))))))
  k_with "call builtin:len" => ((k_here; (with_reducible show wpAny _ _ (call (Value.builtin "len") [Value.ref _]) _ _ _); (first | (refine len_lst (hl := by k_dflt (walk_at "m list")) (e := by k_dflt (first | assumption | exact rfl)) (hn := by k_dflt (omega)) ?_) | (k_dflt (refine len_lst (hl := by walk_at "m list") (e := by first | assumption | exact rfl) (hn := by omega) ?_))); intro _ _))
  k_with "m small" => (first | exact Nat.le_of_ble_eq_true rfl | (simp only [List.size_toArray, sizeLine_eq, Array.length_toList]; omega) | (simp only [List.size_toArray, List.length_append, List.length_take, List.length_drop, sizeLine_eq, Array.length_toList]; omega) | (simp only [List.size_toArray, List.length_append, List.length_take, List.length_drop, List.length_cons, List.length_nil, sizeLine_eq, Array.length_toList]; omega))
  k_with "subscriptTail Name Slice ref ref" => ((k_here; (with_reducible show wpAny _ _ (subscriptTail _ (PySem.Expr.Slice _ _ none _) (Value.ref _) (Value.ref _)) _ _ _); (first | (refine kms_slice_lit (F := by k_dflt (k_asm)) (N := by k_dflt (k_asm)) (hl := by k_dflt (walk_at "m list")) (pl := by k_dflt (kmk_part)) (pu := by k_dflt (kmk_part)) (e := by k_dflt (first | exact pick_to _ _ | exact pick_from1 _ _ | exact pick_from _ _ | exact rfl)) ?_ (hs := by k_dflt (with_unfolding_all rfl)) (ht := by k_dflt (kmk_pure)) (hz := by k_dflt (walk_at "m small")); k_whole) | (k_dflt (refine kms_slice_lit (F := by k_asm) (N := by k_asm) (hl := by walk_at "m list") (pl := by kmk_part) (pu := by kmk_part) (e := by first | exact pick_to _ _ | exact pick_from1 _ _ | exact pick_from _ _ | exact rfl) ?_ (hs := by with_unfolding_all rfl) (ht := by kmk_pure) (hz := by walk_at "m small"); k_whole))); intro _ _ _ _ l1qq; (try k_lt l1qq); (try k_sweep)))
  k_with "binaryOp Add ref ref" => ((k_here; (with_reducible show wpAny _ _ (binaryOp _ (Value.ref _) (Value.ref _)) _ _ _); (first | (refine kmk_add_lit (F := by k_dflt (k_asm)) (N := by k_dflt (k_asm)) (ha := by k_dflt (walk_at "m list")) (hb := by k_dflt (walk_at "m list")) (e := by k_dflt (exact add_e _ _)) ?_ (hz := by k_dflt (walk_at "m small"))) | (k_dflt (refine kmk_add_lit (F := by k_asm) (N := by k_asm) (ha := by walk_at "m list") (hb := by walk_at "m list") (e := by exact add_e _ _) ?_ (hz := by walk_at "m small")))); intro _ _ _ _ l1qq; (try k_lt l1qq); (try k_sweep)))
  k_with "eval ListComp" => ((k_here; (first | (refine LCg.ListComp_U (F₀ := by k_asm) (by k_dflt (rfl)) (by k_dflt (decide)) (by k_dflt (rfl)) (by k_dflt (decide)) (by k_dflt (rfl)) ?_) | (k_dflt (refine LCg.ListComp_U (F₀ := by k_asm) (by rfl) (by decide) (by rfl) (by decide) (by rfl) ?_)))))
  k_with "CompSrc" => ((refine Hold.of ?_))
  k_with "CompSrcT" => ((refine Hold.of ?_))
  k_with "call ref" => ((k_here; (with_reducible show wpAny _ _ (call (Value.ref 102) _) _ _ _); (first | (refine lawB (takes_gives _ _ _ _ _ _ _ _ ?_ ?_ ?_) (B := by k_dflt (k_asm)) (F := by k_dflt (k_asm)) (X := by k_dflt (k_asm)) (N := by k_dflt (k_asm)) (T := by k_dflt (k_asm)) (hk := by k_dflt (exact rfl)) (hp := by k_dflt ((refine PartsAt.mono ?_ (h := by assumption); walk_at "m sub"))) ?_; rotate_left 2; assumption; rotate_left 2; (first | assumption | omega); rotate_left 1; (first | assumption | omega)) | (k_dflt (refine lawB (takes_gives _ _ _ _ _ _ _ _ ?_ ?_ ?_) (B := by k_asm) (F := by k_asm) (X := by k_asm) (N := by k_asm) (T := by k_asm) (hk := by exact rfl) (hp := by (refine PartsAt.mono ?_ (h := by assumption); walk_at "m sub")) ?_; rotate_left 2; assumption; rotate_left 2; (first | assumption | omega); rotate_left 1; (first | assumption | omega)))); intro _ _ _ _; (try k_sweep)))
  k_with "eval ListComp" => ((k_here; (first | (refine LCt.ListComp_T (F₀ := by k_asm) (by k_dflt (rfl)) (by k_dflt (decide)) (by k_dflt (rfl)) (by k_dflt (decide)) (by k_dflt (rfl)) ?_) | (k_dflt (refine LCt.ListComp_T (F₀ := by k_asm) (by rfl) (by decide) (by rfl) (by decide) (by rfl) ?_)))))
  trivial
theorem one_none {ps : List PtD} {j : Nat} (h : ∀ i : Nat, ps[i]? = some none → i = j) : ∀ i i' : Nat, ps[i]? = some none → ps[i']? = some none → i = i' := fun i i' h1 h2 => (h i h1).trans (h i' h2).symm
theorem none_star : ∀ {a : List PtD}, starOf a = none → ∀ i : Nat, a[i]? ≠ some none := fun h i q => by
  obtain ⟨b, y, e⟩ := starOf_none h i none q
  cases e
theorem one_mid {a b : List PtD} (ha : starOf a = none) (hb : starOf b = none) : ∀ i i' : Nat, (a ++ none :: b)[i]? = some none → (a ++ none :: b)[i']? = some none → i = i' := by
  refine one_none (j := a.length) fun i h => ?_
  rcases Nat.lt_trichotomy i a.length with q | q | q
  · rw [List.getElem?_append_left q] at h
    exact absurd h (none_star ha i)
  · exact q
  · rw [List.getElem?_append_right (by omega)] at h
    obtain ⟨k, hk⟩ : ∃ k, i - a.length = k + 1 := ⟨i - a.length - 1, (Nat.sub_add_cancel (Nat.sub_pos_of_lt q)).symm⟩
    rw [hk, List.getElem?_cons_succ] at h
    exact absurd h (none_star hb k)
theorem law_test (w : World) (mean : ExcName → Option Value) (mg mb : Str → Option Value) {fa L : Addr} {cd : Value} {g : Heap} {m : Str → Option Value} {s : Shared} {Q : Flow → Shared → Prop} {E : Value → Shared → Prop}
    {rst : Led} {o1 o4 o5 : Obj} {tl va ia : Addr} {kt : Nat} {u0 u1 u2 : Tok} {t0 t1 t2 : List Nat} {vp ip : List PtD}
    (B : Below callerA g [] g) (F : Fr g L s.heap m) (X : Frag.In (hd.heap_39 w.params) g) (Tp : Top topProg LooseL mean mg mb g)
    (N : News g L s.heap ((L + 1, o1) :: (L + 4, o4) :: (L + 5, o5) :: (tl, listOf #[.str (S t0) u0, .str (S t1) u1, .str (S t2) u2] kt) :: rst))
    (hd1 : o1.data = .cell (some (.ref tl))) (hd4 : o4.data = .cell (some (.ref va))) (hd5 : o5.data = .cell (some (.ref ia)))
    (hv : PartsAt rst va vp) (hi : PartsAt rst ia ip) (hvl : vp.length ≤ 1000) (hil : ip.length ≤ 1000) (ht0 : t0.length ≤ 100) (ht1 : t1.length ≤ 100) (ht2 : t2.length ≤ 100)
    (hv1 : ∀ i j : Nat, vp[i]? = some none → vp[j]? = some none → i = j) (hi1 : ∀ i j : Nat, ip[i]? = some none → ip[j]? = some none → i = j) (same : ∀ x, takesL vp x = takesL ip x)
    (ret : ∀ h' tk', Fr g L h' m → News g L h' ((L + 1, o1) :: (L + 4, o4) :: (L + 5, o5) :: (tl, listOf #[.str (S t0) u0, .str (S t1) u1, .str (S t2) u2] kt) :: rst) → Q .next { s with heap := h', toks := tk' }) :
    wpAny (model PySem.Challenge.rw_ij0088_01.row.prog w) (callerA.deeper (envOfC (Str.ofString "law") (lawSc (_root_.Mine.hd.heap_39 w.params)) L fa cd)) (exec (nth 9 (bodyAt (_root_.Mine.hd.heap_39 w.params) 107)) (envOfC (Str.ofString "law") (lawSc (_root_.Mine.hd.heap_39 w.params)) L fa cd)) Q E s := by
  k_fill
  generalize hsc : lawSc (_root_.Mine.hd.heap_39 w.params) = sc
  conv at hsc => lhs; whnf
  subst hsc
  generalize hst : nth 9 (bodyAt (_root_.Mine.hd.heap_39 w.params) 107) = st
  conv at hst => lhs; whnf
  subst hst
  obtain ⟨hp1, g1, d1, tk1, os1⟩ := s
  k_steps
  unfold Hold
  (rename News _ _ _ _ => N3)
  refine LCt.CompSrcT.ledger rfl F N3 (.tail _ (.tail _ (.tail _ (.head _)))) (by rw [PySem.sizeLine_eq]; exact Nat.le_of_ble_eq_true rfl) ?_
  intro g9
  refine compT_inv (fun i ys => ys = []) rfl ?turn1 ?fin1
  case turn1 =>
    intro i v I oI C oC D m2 ys h tk E' hi' hv' hy hC hx F9 N9 off ne
    subst hy
    obtain ⟨t, u, rfl, htl⟩ : ∃ t u, v = .str (S t) u ∧ t.length ≤ 1000 := by
      rcases i with _ | _ | _ | i
      · cases hv'; exact ⟨_, _, rfl, by omega⟩
      · cases hv'; exact ⟨_, _, rfl, by omega⟩
      · cases hv'; exact ⟨_, _, rfl, by omega⟩
      · exact absurd hi' (by simp)
    refine turn_via2 (fun b => b = false) F9 N9 ?_ ?_
    · k_steps
      exact TurnEnd.of (by k_asm) (by k_asm) (by rw [same t]; simp)
    · rintro b h8 tk8 rfl F8 N8
      simp only [Bool.false_eq_true, if_false]
      exact ⟨h8, tk8, _, rfl, F8, N8, off, .inr ⟨_, .tail _ (.tail _ (.tail _ (.head _))), rfl, _, rfl⟩, rfl, trivial⟩
  case fin1 =>
    rintro ys hys D h9 tk9 F9 N9 o9
    subst hys
    k_steps
    (rename News _ _ _ _ => N5)
    exact ret _ _ (by k_asm) (cb_drop N5 fun p hp => .tail _ (.tail _ hp))

end Mine
end
section
theorem Mine.begin_Ll : True := by
  w_top off
  k_with_none
  k_with "omega" => (first | with_reducible assumption | with_reducible exact Nat.le_trans (by assumption) (Nat.le_of_ble_eq_true rfl) | with_reducible exact Nat.le_refl _ | with_reducible exact Nat.ne_of_gt (by assumption) | with_reducible exact Nat.ne_of_lt (by assumption) | with_reducible exact Ne.symm (by assumption) | with_reducible exact Int.ofNat_lt.mpr (by assumption) | with_reducible exact Nat.lt_of_le_of_lt (Nat.le_add_right _ _) (by assumption))
  trivial
namespace Mine
theorem rules_Ll_1 : True := by
  k_with "newList" => ((k_here; (first | (refine newList_K (F := by k_dflt (k_asm)) (N := by k_dflt (k_asm)) ?_ (hsz := by k_dflt (exact Nat.le_of_ble_eq_true rfl))) | (k_dflt (refine newList_K (F := by k_asm) (N := by k_asm) ?_ (hsz := by exact Nat.le_of_ble_eq_true rfl)))); intro _ _ _ _ l1qq; (try k_lt l1qq); (try k_sweep)))
  trivial
theorem rules_Ll_2 : True := by
  k_with "eval Subscript" => ((refine Subscript_N2 ?_))
  k_with "eval IfExp" => (((fail_if_success (have hmark9 : Mark := by assumption)); refine Hold.of ?_))
  k_with "call ref" => ((refine Hold.of ?_))
  k_with "call ref" => ((k_here; (with_reducible show wpAny _ _ (call (Value.ref 90) _) _ _ _); (first | (refine lawS (plain_gives _ _ _ _ _ _ (by k_dflt (first | omega | (simp; done) | (simp; omega)))) (B := by k_dflt (k_asm)) (F := by k_dflt (k_asm)) (X := by k_dflt (k_asm)) (N := by k_dflt (k_asm)) (T := by k_dflt (k_asm)) (hk := by k_dflt (exact rfl)) (hp := by k_dflt (trivial)) ?_) | (k_dflt (refine lawS (plain_gives _ _ _ _ _ _ (by first | omega | (simp; done) | (simp; omega))) (B := by k_asm) (F := by k_asm) (X := by k_asm) (N := by k_asm) (T := by k_asm) (hk := by exact rfl) (hp := by trivial) ?_))); intro _ _ _ _ _; (try k_sweep)))
  k_with "m list" => ((refine News.isList (N := by k_asm) (hm := by repeat (first | assumption | exact List.Mem.head _ | refine List.mem_cons_of_mem _ ?_))))
  k_with "m mem" => (repeat (first | assumption | exact List.Mem.head _ | refine List.mem_cons_of_mem _ ?_))
  k_with "m place" => (first | with_reducible exact (rfl : ((_ : Nat) : Int) = _) | exact Int.zero_add _ | exact (rfl : (0 : Int) = ((0 : Nat) : Int)) | exact (rfl : (1 : Int) = ((1 : Nat) : Int)))
  k_with "m item" => ((k_here; (with_reducible show wpAny _ _ (subscriptTail _ _ (Value.ref _) (Value.int _ _)) _ _ _); (first | (refine item_L (hl := by k_dflt (walk_at "m list")) (hk := by k_dflt (walk_at "m place")) (hx := by k_dflt (first | assumption | exact rfl)) (hz := by k_dflt (first | exact Nat.le_of_ble_eq_true rfl | omega)) ?_ (hs := by k_dflt (with_unfolding_all rfl)) (hg := by k_dflt (kmk_pure))) | (k_dflt (refine item_L (hl := by walk_at "m list") (hk := by walk_at "m place") (hx := by first | assumption | exact rfl) (hz := by first | exact Nat.le_of_ble_eq_true rfl | omega) ?_ (hs := by with_unfolding_all rfl) (hg := by kmk_pure))))))
  k_with "subscriptTail Name Constant ref int" => (walk_at "m item")
  k_with "m sub" => ((intro p hp; repeat (first | exact hp | refine List.mem_cons_of_mem _ ?_)))
  k_with "m perm" => ((refine cb_drop (N := by k_asm) ?_; repeat' (first | (refine List.forall_mem_cons.mpr (And.intro ?_ ?_)) | (walk_at "m mem"; done) | (walk_at "m sub"; done))))
  k_with "m lit" => (with_reducible first | exact l_star | exact l_qm | exact l_lb | exact l_rb | exact l_ex | exact l_dash | exact l_dot | exact l_hat | exact l_bs | exact l_bs2 | exact l_bsd | exact l_nil | exact l_dotstar | exact l_open | exact l_close | exact rfl)
  k_with "m sameF" => (first | (with_reducible exact hdF (by assumption)) | (with_reducible exact hdF (Ne.symm (by assumption))) | exact rfl)
  k_with "compareOp Eq str str" => ((k_here; (first | (first | (refine eq_Sv false (hx := by k_dflt (walk_at "m lit")) (hy := by k_dflt (walk_at "m lit")) (hv := by k_dflt (walk_at "m sameF")) ?_) | (refine eq_Sv true (hx := by k_dflt (walk_at "m lit")) (hy := by k_dflt (walk_at "m lit")) (hv := by k_dflt (exact rfl)) ?_) | (refine eq_S (hx := by k_dflt (walk_at "m lit")) (hy := by k_dflt (walk_at "m lit")) ?_)) | (k_dflt (first | (refine eq_Sv false (hx := by walk_at "m lit") (hy := by walk_at "m lit") (hv := by walk_at "m sameF") ?_) | (refine eq_Sv true (hx := by walk_at "m lit") (hy := by walk_at "m lit") (hv := by exact rfl) ?_) | (refine eq_S (hx := by walk_at "m lit") (hy := by walk_at "m lit") ?_))))))
  k_with "call builtin:len" => ((k_here; (with_reducible show wpAny _ _ (call (Value.builtin "len") [Value.ref _]) _ _ _); (first | (refine len_lst (hl := by k_dflt (walk_at "m list")) (e := by k_dflt (first | assumption | exact rfl)) (hn := by k_dflt (omega)) ?_) | (k_dflt (refine len_lst (hl := by walk_at "m list") (e := by first | assumption | exact rfl) (hn := by omega) ?_))); intro _ _))
  k_with "m small" => (first | exact Nat.le_of_ble_eq_true rfl | (simp only [List.size_toArray, sizeLine_eq, Array.length_toList]; omega) | (simp only [List.size_toArray, List.length_append, List.length_take, List.length_drop, sizeLine_eq, Array.length_toList]; omega) | (simp only [List.size_toArray, List.length_append, List.length_take, List.length_drop, List.length_cons, List.length_nil, sizeLine_eq, Array.length_toList]; omega))
  k_with "subscriptTail Name Slice ref ref" => ((k_here; (with_reducible show wpAny _ _ (subscriptTail _ (PySem.Expr.Slice _ _ none _) (Value.ref _) (Value.ref _)) _ _ _); (first | (refine kms_slice_lit (F := by k_dflt (k_asm)) (N := by k_dflt (k_asm)) (hl := by k_dflt (walk_at "m list")) (pl := by k_dflt (kmk_part)) (pu := by k_dflt (kmk_part)) (e := by k_dflt (first | exact pick_to _ _ | exact pick_from1 _ _ | exact pick_from _ _ | exact rfl)) ?_ (hs := by k_dflt (with_unfolding_all rfl)) (ht := by k_dflt (kmk_pure)) (hz := by k_dflt (walk_at "m small")); k_whole) | (k_dflt (refine kms_slice_lit (F := by k_asm) (N := by k_asm) (hl := by walk_at "m list") (pl := by kmk_part) (pu := by kmk_part) (e := by first | exact pick_to _ _ | exact pick_from1 _ _ | exact pick_from _ _ | exact rfl) ?_ (hs := by with_unfolding_all rfl) (ht := by kmk_pure) (hz := by walk_at "m small"); k_whole))); intro _ _ _ _ l1qq; (try k_lt l1qq); (try k_sweep)))
  k_with "binaryOp Add ref ref" => ((k_here; (with_reducible show wpAny _ _ (binaryOp _ (Value.ref _) (Value.ref _)) _ _ _); (first | (refine kmk_add_lit (F := by k_dflt (k_asm)) (N := by k_dflt (k_asm)) (ha := by k_dflt (walk_at "m list")) (hb := by k_dflt (walk_at "m list")) (e := by k_dflt (exact add_e _ _)) ?_ (hz := by k_dflt (walk_at "m small"))) | (k_dflt (refine kmk_add_lit (F := by k_asm) (N := by k_asm) (ha := by walk_at "m list") (hb := by walk_at "m list") (e := by exact add_e _ _) ?_ (hz := by walk_at "m small")))); intro _ _ _ _ l1qq; (try k_lt l1qq); (try k_sweep)))
  k_with "eval ListComp" => ((k_here; (first | (refine LCg.ListComp_U (F₀ := by k_asm) (by k_dflt (rfl)) (by k_dflt (decide)) (by k_dflt (rfl)) (by k_dflt (decide)) (by k_dflt (rfl)) ?_) | (k_dflt (refine LCg.ListComp_U (F₀ := by k_asm) (by rfl) (by decide) (by rfl) (by decide) (by rfl) ?_)))))
  k_with "CompSrc" => ((refine Hold.of ?_))
  k_with "CompSrcT" => ((refine Hold.of ?_))
  k_with "call ref" => ((k_here; (with_reducible show wpAny _ _ (call (Value.ref 102) _) _ _ _); (first | (refine lawB (takes_gives _ _ _ _ _ _ _ _ ?_ ?_ ?_) (B := by k_dflt (k_asm)) (F := by k_dflt (k_asm)) (X := by k_dflt (k_asm)) (N := by k_dflt (k_asm)) (T := by k_dflt (k_asm)) (hk := by k_dflt (exact rfl)) (hp := by k_dflt ((refine PartsAt.mono ?_ (h := by assumption); walk_at "m sub"))) ?_; rotate_left 2; assumption; rotate_left 2; (first | assumption | omega); rotate_left 1; (first | assumption | omega)) | (k_dflt (refine lawB (takes_gives _ _ _ _ _ _ _ _ ?_ ?_ ?_) (B := by k_asm) (F := by k_asm) (X := by k_asm) (N := by k_asm) (T := by k_asm) (hk := by exact rfl) (hp := by (refine PartsAt.mono ?_ (h := by assumption); walk_at "m sub")) ?_; rotate_left 2; assumption; rotate_left 2; (first | assumption | omega); rotate_left 1; (first | assumption | omega)))); intro _ _ _ _; (try k_sweep)))
  k_with "eval ListComp" => ((k_here; (first | (refine LCt.ListComp_T (F₀ := by k_asm) (by k_dflt (rfl)) (by k_dflt (decide)) (by k_dflt (rfl)) (by k_dflt (decide)) (by k_dflt (rfl)) ?_) | (k_dflt (refine LCt.ListComp_T (F₀ := by k_asm) (by rfl) (by decide) (by rfl) (by decide) (by rfl) ?_)))))
  k_with "call ref" => ((k_here; (with_reducible show wpAny _ _ (call (Value.ref 45) _) _ _ _); (first | (refine lawS (cram_gives _ _ _ _ _ _ _ _ (by k_dflt (first | assumption | omega)) (by k_dflt (first | assumption | omega)) (by k_dflt (first | assumption | omega))) (B := by k_dflt (k_asm)) (F := by k_dflt (k_asm)) (X := by k_dflt (k_asm)) (N := by k_dflt (k_asm)) (T := by k_dflt (k_asm)) (hk := by k_dflt (exact rfl)) (hp := by k_dflt (trivial)) ?_) | (k_dflt (refine lawS (cram_gives _ _ _ _ _ _ _ _ (by first | assumption | omega) (by first | assumption | omega) (by first | assumption | omega)) (B := by k_asm) (F := by k_asm) (X := by k_asm) (N := by k_asm) (T := by k_asm) (hk := by exact rfl) (hp := by trivial) ?_))); intro _ _ _ _ _; (try k_sweep)))
  k_with "isTrue Compare" => (((fail_if_success (have hmark9 : Mark := by assumption)); refine Hold.of ?_))
  k_with "isTrue BoolOp" => (((fail_if_success (have hmark9 : Mark := by assumption)); refine Hold.of ?_))
  trivial
/-- what the law's loops over widths and texts keep among the names -/
structure MF (w f y : Int) (tw tf ty : Tok) (m : Str → Option Value) : Prop where
  width : m "width" = some (.int w tw)
  first : m "first" = some (.int f tf)
  many : m "many" = some (.int y ty)
structure OtherJ (base : Led) (w f y : Int) (tw tf ty : Tok) (av tv : Value) (o₀ : OsState) (i : Nat) (m : Str → Option Value) (news : Led) (s : Shared) : Prop where
  led : news = base
  mf : MF w f y tw tf ty m
  ahead : m "ahead" = some av
  told : m "told" = some tv
  os : s.os = o₀
  gens : AllBare s.gens
theorem l_dots4 : Str.ofString "...." = S [46, 46, 46, 46] := by decide +kernel
theorem l_dots3 : Str.ofString "..." = S [46, 46, 46] := by decide +kernel
noncomputable def longL (x : List Nat) (k : Int) : List Nat := if (x.length : Int) > k then x else x.take (preL k) ++ [46, 46, 46, 46] ++ x.drop (preL k)
theorem longL_len (x : List Nat) (k : Int) : (longL x k).length ≤ x.length + 4 := by
  unfold longL
  split
  · omega
  · simp only [List.length_append, List.length_take, List.length_drop, List.length_cons, List.length_nil]
    omega
theorem long_eq {x : List Nat} {k : Int} (h : ¬ (k < (x.length : Int))) : Txt.slice (S x) none (some ((preL k : Nat) : Int)) ++ Str.ofString "...." ++ Txt.slice (S x) (some ((preL k : Nat) : Int)) none = S (longL x k) := by
  unfold longL
  rw [if_neg h, slice_to _ _ (by omega), slice_from _ _ (by omega), l_dots4, S_app, S_app]
  congr 3
noncomputable def textBody (K : Frag) : List Stmt := thn (nth 1 (thn (nth 10 (bodyAt K 107))))
theorem other_for (w : World) (mean : ExcName → Option Value) (mg mb : Str → Option Value) {fa L : Addr} {cd : Value} {g : Heap} {m : Str → Option Value} {s : Shared} {Q : Flow → Shared → Prop} {E : Value → Shared → Prop}
    {rst : Led} {o1 o7 : Obj} {tl pa : Addr} {kt : Nat} {u0 u1 u2 tw tf ty ta td : Tok} {t0 t1 t2 l : List Nat} {W f y : Int}
    (B : Below callerA g [] g) (F : Fr g L s.heap m) (X : Frag.In (hd.heap_39 w.params) g) (Tp : Top topProg LooseL mean mg mb g)
    (N : News g L s.heap ((L + 1, o1) :: (L + 7, o7) :: (tl, listOf #[.str (S t0) u0, .str (S t1) u1, .str (S t2) u2] kt) :: rst))
    (hd1 : o1.data = .cell (some (.ref tl))) (hd7 : o7.data = .cell (some (.ref pa)))
    (hp : PartsAt rst pa (plainParts ((cramL l W).take (preL W)) ++ none :: plainParts ((cramL l W).drop (preL W + 3)))) (ht0 : t0.length ≤ 100) (ht1 : t1.length ≤ 100) (ht2 : t2.length ≤ 100) (hl : l.length ≤ 100) (hW : W < l.length) (hW0 : -1 ≤ W) (hW9 : W ≤ 9)
    (mf : MF W f y tw tf ty m) (ma : m "ahead" = some (.int (preL W : Int) ta)) (md : m "told" = some (.str (S (cramL l W)) td)) (hg : AllBare s.gens)
    (hE : PassesOwn (model PySem.Challenge.rw_ij0088_01.row.prog w) (callerA.deeper (envOfC (Str.ofString "law") (lawSc (_root_.Mine.hd.heap_39 w.params)) L fa cd)) (envOfC (Str.ofString "law") (lawSc (_root_.Mine.hd.heap_39 w.params)) L fa cd) E)
    (ret : ∀ m' news' s', OtherJ ((L + 1, o1) :: (L + 7, o7) :: (tl, listOf #[.str (S t0) u0, .str (S t1) u1, .str (S t2) u2] kt) :: rst) W f y tw tf ty (.int (preL W : Int) ta) (.str (S (cramL l W)) td) s.os 3 m' news' s' → Fr g L s'.heap m' → News g L s'.heap news' → Q .next s') :
    wpAny (model PySem.Challenge.rw_ij0088_01.row.prog w) (callerA.deeper (envOfC (Str.ofString "law") (lawSc (_root_.Mine.hd.heap_39 w.params)) L fa cd)) (exec (nth 4 (textBody (_root_.Mine.hd.heap_39 w.params))) (envOfC (Str.ofString "law") (lawSc (_root_.Mine.hd.heap_39 w.params)) L fa cd)) Q E s := by
  k_fill
  generalize hsc : lawSc (_root_.Mine.hd.heap_39 w.params) = sc at hE ⊢
  conv at hsc => lhs; whnf
  subst hsc
  generalize hst : nth 4 (textBody (_root_.Mine.hd.heap_39 w.params)) = st
  conv at hst => lhs; whnf
  subst hst
  obtain ⟨hp1, g1, d1, tk1, os1⟩ := s
  refine forLL (h₀ := g) (L := L) (l := tl) (k := kt) (vs := [.str (S t0) u0, .str (S t1) u1, .str (S t2) u2]) (OtherJ ((L + 1, o1) :: (L + 7, o7) :: (tl, listOf #[.str (S t0) u0, .str (S t1) u1, .str (S t2) u2] kt) :: rst) W f y tw tf ty (.int (preL W : Int) ta) (.str (S (cramL l W)) td) os1) rfl ?hit ?turn ret (fun _ _ _ _ _ _ h => ⟨h.led, h.mf, h.ahead, h.told, h.os, h.gens⟩) (hE := hE)
  case hit =>
    refine wpAny_mono (Q := fun xv s₁ => Hold (xv = Value.ref tl ∧ ∃ m news, OtherJ ((L + 1, o1) :: (L + 7, o7) :: (tl, listOf #[.str (S t0) u0, .str (S t1) u1, .str (S t2) u2] kt) :: rst) W f y tw tf ty (.int (preL W : Int) ta) (.str (S (cramL l W)) td) os1 0 m news s₁ ∧ Fr g L s₁.heap m ∧ News g L s₁.heap news ∧ (tl, ({ cls := .type "list", data := .seq [Value.str (S t0) u0, .str (S t1) u1, .str (S t2) u2].toArray kt } : Obj)) ∈ news)) ?_ (fun _ _ h => h) fun _ _ e => e
    k_steps
    exact ⟨rfl, m, _, ⟨rfl, mf, ma, md, rfl, hg⟩, F, N, .tail _ (.tail _ (.head _))⟩
  case turn =>
    rintro i v I it m₂ news₂ s₁ hIt hil hv ⟨rfl, f1, f2, f3, f4, f5⟩ F9 N9 hsrc off
    obtain ⟨x, u, rfl, hxl⟩ : ∃ x u, v = .str (S x) u ∧ x.length ≤ 100 := by
      rcases i with _ | _ | _ | i
      · cases hv; exact ⟨_, _, rfl, ht0⟩
      · cases hv; exact ⟨_, _, rfl, ht1⟩
      · cases hv; exact ⟨_, _, rfl, ht2⟩
      · exact absurd hil (by simp)
    have F3 := fr_canon [("width", _), ("first", _), ("many", _), ("ahead", _), ("told", _)] F9 (all_cons f1.width (all_cons f1.first (all_cons f1.many (all_cons f2 (all_cons f3 all_nil)))))
    clear F9 F
    obtain ⟨hp2, g2, d2, tk2, os2⟩ := s₁
    have r1 : @Ne Nat (L + 1) I := off _ (.head _)
    have r2 : @Ne Nat (L + 7) I := off _ (.tail _ (.head _))
    have hxS : (S x).length ≤ 1000 := by rw [S_len]; omega
    k_steps
    unfold Hold
    have hmk := Mark.get
    (rename Fr _ _ _ _ => F4)
    (rename News _ _ _ _ => N4)
    refine turn_via2 (fun v => ∃ t, v = Value.str (S (longL x W)) t) F4 N4 ?_ ?_
    · have hSx := S_len x
      k_steps
      · refine TurnEnd.of (by k_asm) (by k_asm) ⟨_, congrArg (Value.str · _) ?_⟩
        unfold longL
        rw [if_pos (by omega)]
      · refine TurnEnd.of (by k_asm) (by k_asm) ⟨_, congrArg (Value.str · _) (long_eq (by omega))⟩
    clear F4 N4 hmk
    rintro v h8 tk8 ⟨u8, rfl⟩ F8 N8
    have hll := longL_len x W
    k_steps
    unfold Hold
    have hmk := Mark.get
    (rename Fr _ _ _ _ => F4)
    (rename News _ _ _ _ => N4)
    have hpp1 := one_mid (starOf_plain ((cramL l W).take (preL W))) (starOf_plain ((cramL l W).drop (preL W + 3)))
    have hppl : (plainParts ((cramL l W).take (preL W)) ++ none :: plainParts ((cramL l W).drop (preL W + 3))).length ≤ 1000 := by
      have hc : (cramL l W).length ≤ 103 := by rw [cram_len hW, Nat.add_right_comm]; exact Nat.add_le_add_right (Nat.le_trans (preL_le W l.length hW).1 hl) 3
      rw [plainParts, plainParts, List.length_append, List.length_cons, List.length_map, List.length_map, List.length_take, List.length_drop]
      exact Nat.le_trans (Nat.add_le_add (Nat.le_trans (Nat.min_le_right _ _) hc) (Nat.succ_le_succ (Nat.le_trans (Nat.sub_le _ _) hc))) (by decide)
    refine turn_via2 (fun b => b = false) F4 N4 ?_ ?_
    · have hSx := S_len x
      have hcr := takes_cram (x := x) hW
      k_steps
      · refine TurnEnd.of (by k_asm) (by k_asm) ?_
        have e : longL x W = if (x.length : Int) > W then x else x.take (preL W) ++ [46, 46, 46, 46] ++ x.drop (preL W) := rfl
        rw [hcr, ← e, decide_eq_true (show (x.length : Int) ≥ W - 3 by omega), Bool.true_and]
        simp
      · refine TurnEnd.of (by k_asm) (by k_asm) ?_
        have hn : ¬ W - 3 ≤ ((S x).length : Int) := by assumption
        rw [hcr, decide_eq_false hn, decide_eq_false (show ¬ (x.length : Int) ≥ W - 3 by omega)]
        rfl
    clear F4 N4 hmk
    rintro b h8 tk8 rfl F8 N8
    k_steps
    exact ⟨_, _, ⟨rfl, ⟨rfl, rfl, rfl⟩, rfl, rfl, f4, f5⟩, F8, N8, hsrc, off⟩

end Mine
end
section
theorem Mine.begin_Lm : True := by
  w_top off
  k_with_none
  k_with "omega" => (first | with_reducible assumption | with_reducible exact Nat.le_trans (by assumption) (Nat.le_of_ble_eq_true rfl) | with_reducible exact Nat.le_refl _ | with_reducible exact Nat.ne_of_gt (by assumption) | with_reducible exact Nat.ne_of_lt (by assumption) | with_reducible exact Ne.symm (by assumption) | with_reducible exact Int.ofNat_lt.mpr (by assumption) | with_reducible exact Nat.lt_of_le_of_lt (Nat.le_add_right _ _) (by assumption))
  trivial
namespace Mine
theorem rules_Lm_1 : True := by
  k_with "newList" => ((k_here; (first | (refine newList_K (F := by k_dflt (k_asm)) (N := by k_dflt (k_asm)) ?_ (hsz := by k_dflt (exact Nat.le_of_ble_eq_true rfl))) | (k_dflt (refine newList_K (F := by k_asm) (N := by k_asm) ?_ (hsz := by exact Nat.le_of_ble_eq_true rfl)))); intro _ _ _ _ l1qq; (try k_lt l1qq); (try k_sweep)))
  k_with "m srch1" => (first | with_reducible assumption | with_reducible exact List.mem_cons_self | (with_reducible refine List.mem_append.mpr (Or.inl ?_); walk_at "m srch1"; done) | (with_reducible refine List.mem_append.mpr (Or.inr ?_); walk_at "m srch1"; done) | (with_reducible refine List.mem_cons_of_mem _ ?_; walk_at "m srch1"; done))
  k_with "m srch" => (first | (walk_at "m srch1"; done) | (repeat (first | exact List.Mem.head _ | refine List.mem_cons_of_mem _ ?_); done))
  k_with "m all" => (repeat' (first | (with_reducible refine List.forall_mem_cons.mpr (And.intro ?_ ?_)) | (with_reducible refine List.forall_mem_append.mpr (And.intro ?_ ?_)) | (walk_at "m srch"; done) | (intro p hp; walk_at "m srch"; done) | exact fun _ hp => nomatch hp))
  trivial
theorem rules_Lm_2 : True := by
  k_with "eval Subscript" => ((refine Subscript_N2 ?_))
  k_with "eval IfExp" => (((fail_if_success (have hmark9 : Mark := by assumption)); refine Hold.of ?_))
  k_with "call ref" => ((refine Hold.of ?_))
  k_with "call ref" => ((k_here; (with_reducible show wpAny _ _ (call (Value.ref 90) _) _ _ _); (first | (refine lawS (plain_gives _ _ _ _ _ _ (by k_dflt (first | omega | (simp; done) | (simp; omega)))) (B := by k_dflt (k_asm)) (F := by k_dflt (k_asm)) (X := by k_dflt (k_asm)) (N := by k_dflt (k_asm)) (T := by k_dflt (k_asm)) (hk := by k_dflt (exact rfl)) (hp := by k_dflt (trivial)) ?_) | (k_dflt (refine lawS (plain_gives _ _ _ _ _ _ (by first | omega | (simp; done) | (simp; omega))) (B := by k_asm) (F := by k_asm) (X := by k_asm) (N := by k_asm) (T := by k_asm) (hk := by exact rfl) (hp := by trivial) ?_))); intro _ _ _ _ _; (try k_sweep)))
  k_with "m list" => ((refine News.isList (N := by k_asm) (hm := by repeat (first | assumption | exact List.Mem.head _ | refine List.mem_cons_of_mem _ ?_))))
  k_with "m mem" => (repeat (first | assumption | exact List.Mem.head _ | refine List.mem_cons_of_mem _ ?_))
  k_with "m place" => (first | with_reducible exact (rfl : ((_ : Nat) : Int) = _) | exact Int.zero_add _ | exact (rfl : (0 : Int) = ((0 : Nat) : Int)) | exact (rfl : (1 : Int) = ((1 : Nat) : Int)))
  k_with "m item" => ((k_here; (with_reducible show wpAny _ _ (subscriptTail _ _ (Value.ref _) (Value.int _ _)) _ _ _); (first | (refine item_L (hl := by k_dflt (walk_at "m list")) (hk := by k_dflt (walk_at "m place")) (hx := by k_dflt (first | assumption | exact rfl)) (hz := by k_dflt (first | exact Nat.le_of_ble_eq_true rfl | omega)) ?_ (hs := by k_dflt (with_unfolding_all rfl)) (hg := by k_dflt (kmk_pure))) | (k_dflt (refine item_L (hl := by walk_at "m list") (hk := by walk_at "m place") (hx := by first | assumption | exact rfl) (hz := by first | exact Nat.le_of_ble_eq_true rfl | omega) ?_ (hs := by with_unfolding_all rfl) (hg := by kmk_pure))))))
  k_with "subscriptTail Name Constant ref int" => (walk_at "m item")
  k_with "m sub" => ((intro p hp; repeat (first | exact hp | refine List.mem_cons_of_mem _ ?_)))
  k_with "m perm" => ((refine cb_drop (N := by k_asm) ?_; repeat' (first | (refine List.forall_mem_cons.mpr (And.intro ?_ ?_)) | (walk_at "m mem"; done) | (walk_at "m sub"; done))))
  k_with "m lit" => (with_reducible first | exact l_star | exact l_qm | exact l_lb | exact l_rb | exact l_ex | exact l_dash | exact l_dot | exact l_hat | exact l_bs | exact l_bs2 | exact l_bsd | exact l_nil | exact l_dotstar | exact l_open | exact l_close | exact rfl)
  k_with "m sameF" => (first | (with_reducible exact hdF (by assumption)) | (with_reducible exact hdF (Ne.symm (by assumption))) | exact rfl)
  k_with "compareOp Eq str str" => ((k_here; (first | (first | (refine eq_Sv false (hx := by k_dflt (walk_at "m lit")) (hy := by k_dflt (walk_at "m lit")) (hv := by k_dflt (walk_at "m sameF")) ?_) | (refine eq_Sv true (hx := by k_dflt (walk_at "m lit")) (hy := by k_dflt (walk_at "m lit")) (hv := by k_dflt (exact rfl)) ?_) | (refine eq_S (hx := by k_dflt (walk_at "m lit")) (hy := by k_dflt (walk_at "m lit")) ?_)) | (k_dflt (first | (refine eq_Sv false (hx := by walk_at "m lit") (hy := by walk_at "m lit") (hv := by walk_at "m sameF") ?_) | (refine eq_Sv true (hx := by walk_at "m lit") (hy := by walk_at "m lit") (hv := by exact rfl) ?_) | (refine eq_S (hx := by walk_at "m lit") (hy := by walk_at "m lit") ?_))))))
  k_with "call builtin:len" => ((k_here; (with_reducible show wpAny _ _ (call (Value.builtin "len") [Value.ref _]) _ _ _); (first | (refine len_lst (hl := by k_dflt (walk_at "m list")) (e := by k_dflt (first | assumption | exact rfl)) (hn := by k_dflt (omega)) ?_) | (k_dflt (refine len_lst (hl := by walk_at "m list") (e := by first | assumption | exact rfl) (hn := by omega) ?_))); intro _ _))
  k_with "m small" => (first | exact Nat.le_of_ble_eq_true rfl | (simp only [List.size_toArray, sizeLine_eq, Array.length_toList]; omega) | (simp only [List.size_toArray, List.length_append, List.length_take, List.length_drop, sizeLine_eq, Array.length_toList]; omega) | (simp only [List.size_toArray, List.length_append, List.length_take, List.length_drop, List.length_cons, List.length_nil, sizeLine_eq, Array.length_toList]; omega))
  k_with "subscriptTail Name Slice ref ref" => ((k_here; (with_reducible show wpAny _ _ (subscriptTail _ (PySem.Expr.Slice _ _ none _) (Value.ref _) (Value.ref _)) _ _ _); (first | (refine kms_slice_lit (F := by k_dflt (k_asm)) (N := by k_dflt (k_asm)) (hl := by k_dflt (walk_at "m list")) (pl := by k_dflt (kmk_part)) (pu := by k_dflt (kmk_part)) (e := by k_dflt (first | exact pick_to _ _ | exact pick_from1 _ _ | exact pick_from _ _ | exact rfl)) ?_ (hs := by k_dflt (with_unfolding_all rfl)) (ht := by k_dflt (kmk_pure)) (hz := by k_dflt (walk_at "m small")); k_whole) | (k_dflt (refine kms_slice_lit (F := by k_asm) (N := by k_asm) (hl := by walk_at "m list") (pl := by kmk_part) (pu := by kmk_part) (e := by first | exact pick_to _ _ | exact pick_from1 _ _ | exact pick_from _ _ | exact rfl) ?_ (hs := by with_unfolding_all rfl) (ht := by kmk_pure) (hz := by walk_at "m small"); k_whole))); intro _ _ _ _ l1qq; (try k_lt l1qq); (try k_sweep)))
  k_with "binaryOp Add ref ref" => ((k_here; (with_reducible show wpAny _ _ (binaryOp _ (Value.ref _) (Value.ref _)) _ _ _); (first | (refine kmk_add_lit (F := by k_dflt (k_asm)) (N := by k_dflt (k_asm)) (ha := by k_dflt (walk_at "m list")) (hb := by k_dflt (walk_at "m list")) (e := by k_dflt (exact add_e _ _)) ?_ (hz := by k_dflt (walk_at "m small"))) | (k_dflt (refine kmk_add_lit (F := by k_asm) (N := by k_asm) (ha := by walk_at "m list") (hb := by walk_at "m list") (e := by exact add_e _ _) ?_ (hz := by walk_at "m small")))); intro _ _ _ _ l1qq; (try k_lt l1qq); (try k_sweep)))
  k_with "eval ListComp" => ((k_here; (first | (refine LCg.ListComp_U (F₀ := by k_asm) (by k_dflt (rfl)) (by k_dflt (decide)) (by k_dflt (rfl)) (by k_dflt (decide)) (by k_dflt (rfl)) ?_) | (k_dflt (refine LCg.ListComp_U (F₀ := by k_asm) (by rfl) (by decide) (by rfl) (by decide) (by rfl) ?_)))))
  k_with "CompSrc" => ((refine Hold.of ?_))
  k_with "CompSrcT" => ((refine Hold.of ?_))
  k_with "call ref" => ((k_here; (with_reducible show wpAny _ _ (call (Value.ref 102) _) _ _ _); (first | (refine lawB (takes_gives _ _ _ _ _ _ _ _ ?_ ?_ ?_) (B := by k_dflt (k_asm)) (F := by k_dflt (k_asm)) (X := by k_dflt (k_asm)) (N := by k_dflt (k_asm)) (T := by k_dflt (k_asm)) (hk := by k_dflt (exact rfl)) (hp := by k_dflt ((refine PartsAt.mono ?_ (h := by assumption); walk_at "m sub"))) ?_; rotate_left 2; assumption; rotate_left 2; (first | assumption | omega); rotate_left 1; (first | assumption | omega)) | (k_dflt (refine lawB (takes_gives _ _ _ _ _ _ _ _ ?_ ?_ ?_) (B := by k_asm) (F := by k_asm) (X := by k_asm) (N := by k_asm) (T := by k_asm) (hk := by exact rfl) (hp := by (refine PartsAt.mono ?_ (h := by assumption); walk_at "m sub")) ?_; rotate_left 2; assumption; rotate_left 2; (first | assumption | omega); rotate_left 1; (first | assumption | omega)))); intro _ _ _ _; (try k_sweep)))
  k_with "eval ListComp" => ((k_here; (first | (refine LCt.ListComp_T (F₀ := by k_asm) (by k_dflt (rfl)) (by k_dflt (decide)) (by k_dflt (rfl)) (by k_dflt (decide)) (by k_dflt (rfl)) ?_) | (k_dflt (refine LCt.ListComp_T (F₀ := by k_asm) (by rfl) (by decide) (by rfl) (by decide) (by rfl) ?_)))))
  k_with "call ref" => ((k_here; (with_reducible show wpAny _ _ (call (Value.ref 45) _) _ _ _); (first | (refine lawS (cram_gives _ _ _ _ _ _ _ _ (by k_dflt (first | assumption | omega)) (by k_dflt (first | assumption | omega)) (by k_dflt (first | assumption | omega))) (B := by k_dflt (k_asm)) (F := by k_dflt (k_asm)) (X := by k_dflt (k_asm)) (N := by k_dflt (k_asm)) (T := by k_dflt (k_asm)) (hk := by k_dflt (exact rfl)) (hp := by k_dflt (trivial)) ?_) | (k_dflt (refine lawS (cram_gives _ _ _ _ _ _ _ _ (by first | assumption | omega) (by first | assumption | omega) (by first | assumption | omega)) (B := by k_asm) (F := by k_asm) (X := by k_asm) (N := by k_asm) (T := by k_asm) (hk := by exact rfl) (hp := by trivial) ?_))); intro _ _ _ _ _; (try k_sweep)))
  k_with "subscriptTail Name Slice str ref" => (((with_reducible show wpAny _ _ (subscriptTail _ (PySem.Expr.Slice (some _) (some _) none _) _ _) _ _ _); (with_reducible rename Fr _ _ _ _ => Fqq); (with_reducible rename News _ _ _ _ => Nqq); (refine slice_strN_ss (hsz := (by size_fits)) (s := ⟨_, _, _, _, _⟩) Fqq Nqq ?_); intro _ _ _ _ _; (with_reducible rename Txt.slice _ (some _) (some _) = _ => hsl9qq); rw [hsl9qq]))
  k_with "subscriptTail Name Slice str ref" => (((with_reducible show wpAny _ _ (subscriptTail _ (PySem.Expr.Slice (some _) none none _) _ _) _ _ _); (with_reducible rename Fr _ _ _ _ => Fqq); (with_reducible rename News _ _ _ _ => Nqq); (refine slice_strN_sn (hsz := (by size_fits)) (s := ⟨_, _, _, _, _⟩) Fqq Nqq ?_); intro _ _ _ _ _; (with_reducible rename Txt.slice _ (some _) none = _ => hsl9qq); rw [hsl9qq]))
  k_with "subscriptTail Name Slice str ref" => (((with_reducible show wpAny _ _ (subscriptTail _ (PySem.Expr.Slice none (some _) none _) _ _) _ _ _); (with_reducible rename Fr _ _ _ _ => Fqq); (with_reducible rename News _ _ _ _ => Nqq); (refine slice_strN_ns (hsz := (by size_fits)) (s := ⟨_, _, _, _, _⟩) Fqq Nqq ?_); intro _ _ _ _ _; (with_reducible rename Txt.slice _ none (some _) = _ => hsl9qq); rw [hsl9qq]))
  k_with "exec For Name Name cons nil" => ((refine Hold.of ?_))
  k_with "exec For" => ((refine Hold.of ?_))
  k_with "call ref" => (((with_reducible show wpAny _ _ (call (Value.ref 97) _) _ _ _); refine Hold.of ?_))
  k_with "isTrue BoolOp" => (((fail_if_success (have hmark9 : Mark := by assumption)); refine Hold.of ?_))
  k_with "compareOp NotEq str str" => ((k_here; (first | (refine ne_Sv false (hx := by k_dflt (exact rfl)) (hy := by k_dflt (exact l_dots3)) (hv := by k_dflt (exact rfl)) ?_) | (k_dflt (refine ne_Sv false (hx := by exact rfl) (hy := by exact l_dots3) (hv := by exact rfl) ?_)))))
  trivial
/-- the ledger between the turns: what the loops need of it -/
structure LS (L tl va ia : Addr) (txo : Obj) (vp ip : List PtD) (kp : Led) (T : Array Value) (rst : Led) : Prop where
  no71 : ∀ p ∈ rst, p.1 ≠ 71
  tab : TabOk trKs T rst
  c1 : ∃ o, (L + 1, o) ∈ rst ∧ o.data = .cell (some (.ref tl))
  c4 : ∃ o, (L + 4, o) ∈ rst ∧ o.data = .cell (some (.ref va))
  c5 : ∃ o, (L + 5, o) ∈ rst ∧ o.data = .cell (some (.ref ia))
  c6 : ∃ o c, (L + 6, o) ∈ rst ∧ o.data = .cell c
  c7 : ∃ o c, (L + 7, o) ∈ rst ∧ o.data = .cell c
  tx : (tl, txo) ∈ rst
  pv : PartsAt rst va vp
  pi : PartsAt rst ia ip
  kp : ∀ p ∈ kp, p ∈ rst
/-- the same, written out -/
structure LO (g : Heap) (L tl va ia : Addr) (txo : Obj) (vp ip : List PtD) (kp : Led) (T : Array Value) (o1 o4 o5 o6 o7 : Obj) (r : Led) : Prop where
  d1 : o1.data = .cell (some (.ref tl))
  d4 : o4.data = .cell (some (.ref va))
  d5 : o5.data = .cell (some (.ref ia))
  n6 : ∀ p ∈ r, p.1 ≠ L + 6
  n7 : ∀ p ∈ r, p.1 ≠ L + 7
  n71 : ∀ p ∈ r, p.1 ≠ 71
  t6 : @Ne Nat tl (L + 6)
  t7 : @Ne Nat tl (L + 7)
  t71 : @Ne Nat tl 71
  tab : TabOk trKs T r
  pv : PartsAt r va vp
  pi : PartsAt r ia ip
  kp : ∀ p ∈ kp, p ∈ r
theorem LS.opens {g h : Heap} {L tl va ia : Addr} {txo : Obj} {vp ip : List PtD} {kp : Led} {T : Array Value} {rst : Led} (H : LS L tl va ia txo vp ip kp T rst) (N : News g L h ((71, tabObj T) :: rst)) (hx : ∀ x, txo.data ≠ .cell x) (hk : ∀ p ∈ kp, ∀ x, p.2.data ≠ .cell x) :
    ∃ o1 o4 o5 o6 o7 c6 c7 r, News g L h ((L + 1, o1) :: (L + 4, o4) :: (L + 5, o5) :: (L + 6, o6) :: (L + 7, o7) :: (71, tabObj T) :: (tl, txo) :: r) ∧ o6.data = .cell c6 ∧ o7.data = .cell c7 ∧ LO g L tl va ia txo vp ip kp T o1 o4 o5 o6 o7 r ∧ ∀ p ∈ rst, (∀ x, p.2.data ≠ .cell x) → p ∈ r := by
  obtain ⟨o1, m1, d1⟩ := H.c1
  obtain ⟨o4, m4, d4⟩ := H.c4
  obtain ⟨o5, m5, d5⟩ := H.c5
  obtain ⟨o6, c6, m6, d6⟩ := H.c6
  obtain ⟨o7, c7, m7, d7⟩ := H.c7
  have N0 : News g L h rst := cb_drop N fun p hp => .tail _ hp
  have e6 := ne_data N0 m6 d6
  have e7 := ne_data N0 m7 d7
  obtain ⟨r1, a1, a2, a3⟩ := clean N0 (L + 6)
  have N1 : News g L h r1 := cb_drop N0 a1
  obtain ⟨r2, b1, b2, b3⟩ := clean N1 (L + 7)
  have keep : ∀ p ∈ rst, (∀ x, p.2.data ≠ .cell x) → p ∈ r2 := fun p hp hx => b3 p (a3 p hp (e6 p hp hx)) (e7 p hp hx)
  refine ⟨o1, o4, o5, o6, o7, c6, c7, r2, ?_, d6, d7, ⟨d1, d4, d5, fun p hp => a2 p (b1 p hp), b2, fun p hp => H.no71 p (a1 p (b1 p hp)), e6 _ H.tx hx, e7 _ H.tx hx, H.no71 _ H.tx, tab_keep keep H.tab, parts_keep keep H.pv, parts_keep keep H.pi, fun p hp => keep p (H.kp p hp) (hk p hp)⟩, keep⟩
  refine all_cons' (N0 _ m1) (all_cons' (N0 _ m4) (all_cons' (N0 _ m5) (all_cons' (N0 _ m6) (all_cons' (N0 _ m7) (all_cons' (N _ (.head _)) (all_cons' (N0 _ H.tx) fun p hp => N0 _ (a1 _ (b1 _ hp))))))))
theorem LO.closes {g : Heap} {L tl va ia : Addr} {txo : Obj} {vp ip : List PtD} {kp : Led} {T : Array Value} {o1 o4 o5 o6 o7 : Obj} {r : Led} (H : LO g L tl va ia txo vp ip kp T o1 o4 o5 o6 o7 r) (h71 : @LT.lt Nat _ 71 L) {o6' o7' : Obj} {c6 c7 : Option Value} (d6 : o6'.data = .cell c6) (d7 : o7'.data = .cell c7) :
    LS L tl va ia txo vp ip kp T ((L + 1, o1) :: (L + 4, o4) :: (L + 5, o5) :: (L + 6, o6') :: (L + 7, o7') :: (tl, txo) :: r) := by
  have hs : ∀ p ∈ r, p ∈ (L + 1, o1) :: (L + 4, o4) :: (L + 5, o5) :: (L + 6, o6') :: (L + 7, o7') :: (tl, txo) :: r := fun p hp => .tail _ (.tail _ (.tail _ (.tail _ (.tail _ (.tail _ hp)))))
  have up : ∀ k : Nat, @Ne Nat (L + k) 71 := fun k => Nat.ne_of_gt (Nat.lt_of_lt_of_le h71 (Nat.le_add_right L k))
  refine ⟨all_cons' (up 1) (all_cons' (up 4) (all_cons' (up 5) (all_cons' (up 6) (all_cons' (up 7) (all_cons' H.t71 H.n71))))), H.tab.sub hs, ⟨o1, .head _, H.d1⟩, ⟨o4, .tail _ (.head _), H.d4⟩, ⟨o5, .tail _ (.tail _ (.head _)), H.d5⟩, ⟨o6', c6, .tail _ (.tail _ (.tail _ (.head _))), d6⟩, ⟨o7', c7, .tail _ (.tail _ (.tail _ (.tail _ (.head _)))), d7⟩, .tail _ (.tail _ (.tail _ (.tail _ (.tail _ (.head _))))), H.pv.mono hs, H.pi.mono hs, fun p hp => hs p (H.kp p hp)⟩
theorem parts_call (w : World) (mean : ExcName → Option Value) (mg mb : Str → Option Value) {nm : Str} {cs : Scope} {fa L : Addr} {cd : Value} {g : Heap} {m : Str → Option Value} {s : Shared} {Q E : Value → Shared → Prop}
    {r kp : Led} {o1 o4 o5 o6 o7 : Obj} {tl va ia : Addr} {T : Array Value} {txo : Obj} {vp ip : List PtD} {c6 c7 : Option Value} {l : List Nat} {ps : List Pc} {t : Tok}
    (B : Below callerA g [] g) (F : Fr g L s.heap m) (X : Frag.In (hd.heap_39 w.params) g) (Tp : Top topProg LooseL mean mg mb g)
    (N : News g L s.heap ((L + 1, o1) :: (L + 4, o4) :: (L + 5, o5) :: (L + 6, o6) :: (L + 7, o7) :: (71, tabObj T) :: (tl, txo) :: r)) (hk : cs.kind = .function)
    (H : LO g L tl va ia txo vp ip kp T o1 o4 o5 o6 o7 r) (hd6 : o6.data = .cell c6) (hd7 : o7.data = .cell c7) (hkp : ∀ p ∈ kp, ∀ x, p.2.data ≠ .cell x) (htx : ∀ x, txo.data ≠ .cell x) (h71 : @LT.lt Nat _ 71 L)
    (hl : l = textOf ps) (hx : l.length ≤ 400) (hps : ps.length ≤ 100) (hpok : ∀ p ∈ ps, p.ok) (hone : OneStar ps) (hg : AllBare s.gens)
    (ret : ∀ s' T' r' pa, Fr g L s'.heap m → News g L s'.heap ((L + 1, o1) :: (L + 4, o4) :: (L + 5, o5) :: (L + 6, o6) :: (L + 7, o7) :: (71, tabObj T') :: (tl, txo) :: r') → LO g L tl va ia txo vp ip kp T' o1 o4 o5 o6 o7 r' → PartsAt r' pa (partsOf ps) → s'.os = s.os → AllBare s'.gens → Q (.ref pa) s') :
    wpAny (model PySem.Challenge.rw_ij0088_01.row.prog w) (callerA.deeper (envOfC nm cs L fa cd)) (call (.ref 97) [.str (S l) t]) Q E s := by
  have Hc := H.closes h71 hd6 hd7
  refine lawGivesG (parts_gives w mean mg mb l ps t T ((L + 1, o1) :: (L + 4, o4) :: (L + 5, o5) :: (L + 6, o6) :: (L + 7, o7) :: (tl, txo) :: r) hl hx hps hpok hone) (by omega) B F X (cb_drop N ?_) Tp hk ⟨rfl, Hc.tab, Hc.no71⟩ hg ?_
  · walk_at "m all"
  rintro r1 n1 s1 F6 N6 ho1 hg1 ⟨pa, T', rest', rfl, rfl, hT', hsub, h71', hparts⟩
  have N7 : News g L s1.heap rest' := cb_drop N6 fun p hp => .tail _ hp
  have m1 := hsub (L + 1, o1) (by walk_at "m srch")
  have m4 := hsub (L + 4, o4) (by walk_at "m srch")
  have m5 := hsub (L + 5, o5) (by walk_at "m srch")
  have m6 := hsub (L + 6, o6) (by walk_at "m srch")
  have m7 := hsub (L + 7, o7) (by walk_at "m srch")
  have mt := hsub (tl, txo) (by walk_at "m srch")
  have e6 := ne_data N7 m6 hd6
  have e7 := ne_data N7 m7 hd7
  obtain ⟨ra, a1, a2, a3⟩ := clean N7 (L + 6)
  have N1 : News g L s1.heap ra := cb_drop N7 a1
  obtain ⟨rb, b1, b2, b3⟩ := clean N1 (L + 7)
  have keep : ∀ p ∈ rest', (∀ x, p.2.data ≠ .cell x) → p ∈ rb := fun p hp hx => b3 p (a3 p hp (e6 p hp hx)) (e7 p hp hx)
  have sub2 : ∀ p ∈ r, p ∈ rb := fun p hp => b3 p (a3 p (hsub p (by walk_at "m srch")) (H.n6 p hp)) (H.n7 p hp)
  refine ret s1 T' rb pa F6 ?_ ⟨H.d1, H.d4, H.d5, fun p hp => a2 p (b1 p hp), b2, fun p hp => h71' p (a1 p (b1 p hp)), H.t6, H.t7, H.t71, tab_keep keep hT', H.pv.mono sub2, H.pi.mono sub2, fun p hp => sub2 p (H.kp p hp)⟩ (parts_keep keep hparts) ho1 hg1
  exact all_cons' (N7 _ m1) (all_cons' (N7 _ m4) (all_cons' (N7 _ m5) (all_cons' (N7 _ m6) (all_cons' (N7 _ m7) (all_cons' (N6 _ (.head _)) (all_cons' (N7 _ mt) fun p hp => N7 _ (a1 _ (b1 _ hp))))))))
theorem plain_len (l : List Nat) : (plainL l).length ≤ 4 * l.length := by
  rw [plainL_text]
  have := text_len (l.map plainPc)
  rwa [List.length_map] at this
theorem plain_ok (l : List Nat) : ∀ p ∈ l.map plainPc, p.ok := by
  intro p hp
  obtain ⟨c, _, rfl⟩ := List.mem_map.mp hp
  exact plainPc_ok c
theorem plain_nostar (l : List Nat) : ∀ p ∈ l.map plainPc, p.isStar = false := by
  intro p hp
  obtain ⟨c, _, rfl⟩ := List.mem_map.mp hp
  exact plainPc_star c
theorem six_of {a b : Nat} {W : Int} (h1 : 3 ≤ W → a + b = (W - 3).toNat) (h2 : W < 3 → a = 0 ∧ b = 0) (hW : W ≤ 9) : a + b ≤ 6 := by
  rcases Int.lt_or_le W 3 with q | q
  · obtain ⟨rfl, rfl⟩ := h2 q
    decide
  · rw [h1 q]
    exact Int.toNat_le.mpr (Int.sub_le_sub_right hW 3)
theorem max_if {W x : Int} (h : x ≤ max 3 W) : x ≤ if W > 3 then W else 3 := by
  split
  · rename_i q
    rwa [Int.max_eq_right (Int.le_of_lt q)] at h
  · rename_i q
    rwa [Int.max_eq_left (Int.not_lt.mp q)] at h
theorem seen_post {y : Nat} {W : Int} (h : (y : Int) ≤ (if W - 3 > 0 then W - 3 else 0) - ((preL W : Nat) : Int)) : y ≤ postL W := by
  unfold postL
  split at h <;> omega
theorem text_turn (w : World) (mean : ExcName → Option Value) (mg mb : Str → Option Value) {fa L : Addr} {cd : Value} {g : Heap} {m : Str → Option Value} {s : Shared} {Q : Flow → Shared → Prop} {E : Value → Shared → Prop}
    {r kp : Led} {o1 o4 o5 o6 o7 : Obj} {tl va ia : Addr} {kt : Nat} {T : Array Value} {u0 u1 u2 tw tf ty ta tx : Tok} {t0 t1 t2 t : List Nat} {vp ip : List PtD} {W : Int} {f y : Nat} {c7 : Option Value}
    (B : Below callerA g [] g) (F : Fr g L s.heap m) (X : Frag.In (hd.heap_39 w.params) g) (Tp : Top topProg LooseL mean mg mb g)
    (N : News g L s.heap ((L + 1, o1) :: (L + 4, o4) :: (L + 5, o5) :: (L + 6, o6) :: (L + 7, o7) :: (71, tabObj T) :: (tl, listOf #[.str (S t0) u0, .str (S t1) u1, .str (S t2) u2] kt) :: r))
    (H : LO g L tl va ia (listOf #[.str (S t0) u0, .str (S t1) u1, .str (S t2) u2] kt) vp ip kp T o1 o4 o5 o6 o7 r) (hd6 : o6.data = .cell (some (.str (S t) tx))) (hd7 : o7.data = .cell c7) (hkp : ∀ p ∈ kp, ∀ x, p.2.data ≠ .cell x)
    (h71 : @LT.lt Nat _ 71 L) (hvl : vp.length ≤ 1000) (hil : ip.length ≤ 1000) (ht0 : t0.length ≤ 100) (ht1 : t1.length ≤ 100) (ht2 : t2.length ≤ 100) (ht : t.length ≤ 100) (hW0 : -1 ≤ W) (hW9 : W ≤ 9)
    (hv1 : ∀ i j : Nat, vp[i]? = some none → vp[j]? = some none → i = j) (hi1 : ∀ i j : Nat, ip[i]? = some none → ip[j]? = some none → i = j) (same : W < t.length → f ≤ preL W → y ≤ postL W → takesL vp (cramL t W) = takesL ip t)
    (mf : MF W f y tw tf ty m) (ma : m "ahead" = some (.int (preL W : Int) ta)) (hg : AllBare s.gens)
    (hE : PassesOwn (model PySem.Challenge.rw_ij0088_01.row.prog w) (callerA.deeper (envOfC (Str.ofString "law") (lawSc (_root_.Mine.hd.heap_39 w.params)) L fa cd)) (envOfC (Str.ofString "law") (lawSc (_root_.Mine.hd.heap_39 w.params)) L fa cd) E)
    (ret : ∀ fl m' s' T' rst', (fl = .next ∨ fl = .cont) → MF W f y tw tf ty m' → m' "ahead" = some (.int (preL W : Int) ta) → Fr g L s'.heap m' → News g L s'.heap ((71, tabObj T') :: rst') → LS L tl va ia (listOf #[.str (S t0) u0, .str (S t1) u1, .str (S t2) u2] kt) vp ip kp T' rst' → s'.os = s.os → AllBare s'.gens → Q fl s') :
    wpAny (model PySem.Challenge.rw_ij0088_01.row.prog w) (callerA.deeper (envOfC (Str.ofString "law") (lawSc (_root_.Mine.hd.heap_39 w.params)) L fa cd)) (execs (textBody (_root_.Mine.hd.heap_39 w.params)) (envOfC (Str.ofString "law") (lawSc (_root_.Mine.hd.heap_39 w.params)) L fa cd)) Q E s := by
  k_fill
  generalize hsc : lawSc (_root_.Mine.hd.heap_39 w.params) = sc at hE ⊢
  conv at hsc => lhs; whnf
  subst hsc
  generalize hst : textBody (_root_.Mine.hd.heap_39 w.params) = st
  conv at hst => lhs; whnf
  subst hst
  obtain ⟨hp1, g1, d1, tk1, os1⟩ := s
  have F2 := fr_canon [("width", _), ("first", _), ("many", _), ("ahead", _)] F (all_cons mf.width (all_cons mf.first (all_cons mf.many (all_cons ma all_nil))))
  clear F
  have hd1 := H.d1
  have hd4 := H.d4
  have hd5 := H.d5
  have n6 := H.n6
  have n7 := H.n7
  have n71 := H.n71
  have e6 := H.t6
  have e7 := H.t7
  have htxc : ∀ x, (listOf #[.str (S t0) u0, .str (S t1) u1, .str (S t2) u2] kt).data ≠ .cell x := fun x h => by cases h
  have hSt := S_len t
  have hSx : (S t).length ≤ 1000 := by rw [hSt]; exact Nat.le_trans ht (by decide)
  rcases Int.lt_or_le W t.length with hW | hW
  · have hcl := cram_len hW
    have hcs := cram_short hW
    have hpl := preL_le W t.length hW
    have hs3 : Txt.slice (S (cramL t W)) (some ((preL W : Nat) : Int)) (some (((preL W : Nat) : Int) + 3)) = S [46, 46, 46] := by
      rw [slice_mid _ _ _ (Int.natCast_nonneg _) (Int.le_add_of_nonneg_right (by decide)), show (((preL W : Nat) : Int) + 3 - ((preL W : Nat) : Int)).toNat = 3 by rw [Int.add_comm, Int.add_sub_cancel]; rfl, Int.toNat_natCast, cram_dots hW]
    have hs1 : Txt.slice (S (cramL t W)) none (some ((preL W : Nat) : Int)) = S ((cramL t W).take (preL W)) := by
      rw [slice_to _ _ (Int.natCast_nonneg _), Int.toNat_natCast]
    have hs2 : Txt.slice (S (cramL t W)) (some (((preL W : Nat) : Int) + 3)) none = S ((cramL t W).drop (preL W + 3)) := by
      rw [slice_from (cramL t W) (((preL W : Nat) : Int) + 3) (Int.le_trans (Int.natCast_nonneg (preL W)) (Int.le_add_of_nonneg_right (by decide)))]
      rfl
    have h6 := six_of hpl.2.1 hpl.2.2 hW9
    have hcl9 : (cramL t W).length ≤ 9 := by rw [hcl, Nat.add_right_comm]; exact Nat.add_le_add_right h6 3
    have hta : ((cramL t W).take (preL W)).length ≤ 6 := by rw [List.length_take]; exact Nat.le_trans (Nat.min_le_left _ _) (Nat.le_trans (Nat.le_add_right _ _) h6)
    have htb : ((cramL t W).drop (preL W + 3)).length ≤ 6 := by rw [List.length_drop, hcl, Nat.add_sub_cancel_left]; exact Nat.le_trans (Nat.le_add_left _ _) h6
    have hpa : (plainL ((cramL t W).take (preL W))).length ≤ 24 := Nat.le_trans (plain_len _) (Nat.mul_le_mul_left 4 hta)
    have hpb : (plainL ((cramL t W).drop (preL W + 3))).length ≤ 24 := Nat.le_trans (plain_len _) (Nat.mul_le_mul_left 4 htb)
    have hSpa : (S (plainL ((cramL t W).take (preL W)))).length ≤ 1000 := by rw [S_len]; exact Nat.le_trans hpa (by decide)
    have hSpb : (S (plainL ((cramL t W).drop (preL W + 3)))).length ≤ 1000 := by rw [S_len]; exact Nat.le_trans hpb (by decide)
    have hScl := S_len (cramL t W)
    have hSc : (S (cramL t W)).length ≤ 1000 := by rw [hScl]; exact Nat.le_trans hcl9 (by decide)
    have hcs2 : ((S (cramL t W)).length : Int) ≤ if W > 3 then W else 3 := by rw [hScl]; exact max_if hcs
    clear hcs hcl9
    k_steps
    unfold Hold
    (rename Fr _ _ _ _ => F4)
    (rename News _ _ _ _ => N4)
    have hmk := Mark.get
    refine turn_via2 (fun b => b = false) F4 N4 ?_ ?_
    · k_steps
      exact TurnEnd.of (by k_asm) (by k_asm) rfl
    clear F4 N4 hmk
    rintro b h8 tk8 rfl F8 N8
    k_steps
    unfold Hold
    (rename Fr _ _ _ _ => F4)
    (rename News _ _ _ _ => N4)
    rw [l_star, S_app, S_app]
    refine parts_call w mean mg mb (ps := ((cramL t W).take (preL W)).map plainPc ++ Pc.star :: ((cramL t W).drop (preL W + 3)).map plainPc) B F4 X Tp N4 rfl H hd6 hd7 hkp htxc h71 ?_ ?_ ?_ ?_ ?_ hg ?_
    · rw [plainL_text, plainL_text]
      simp [textOf, Pc.text]
    · rw [List.length_append, List.length_append]
      exact Nat.le_trans (Nat.add_le_add (Nat.add_le_add_right hpa 1) hpb) (by decide)
    · rw [List.length_append, List.length_cons, List.length_map, List.length_map]
      exact Nat.le_trans (Nat.add_le_add hta (Nat.succ_le_succ htb)) (by decide)
    · intro p hp
      simp only [List.mem_append, List.mem_cons] at hp
      rcases hp with h | rfl | h
      · exact plain_ok _ p h
      · trivial
      · exact plain_ok _ p h
    · exact one_star _ _ (plain_nostar _) (plain_nostar _)
    intro s2 T2 r2 pa F5 N5 H2 hpp hos2 hg2
    obtain ⟨hp2, g2, d2, tk2, os2⟩ := s2
    clear F4 N4
    have n62 := H2.n6
    have n72 := H2.n7
    k_steps
    unfold Hold
    (rename Fr _ _ _ _ => F9)
    (rename News _ _ _ _ => N9)
    (rename _ = Data.cell (some (Value.ref pa)) => d7)
    have hpq : PartsAt r2 pa (plainParts ((cramL t W).take (preL W)) ++ none :: plainParts ((cramL t W).drop (preL W + 3))) := by
      have e : partsOf (((cramL t W).take (preL W)).map plainPc ++ Pc.star :: ((cramL t W).drop (preL W + 3)).map plainPc) = plainParts ((cramL t W).take (preL W)) ++ none :: plainParts ((cramL t W).drop (preL W + 3)) := by
        rw [← plainParts_of, ← plainParts_of]
        simp [partsOf, Pc.part]
      rw [← e]
      exact hpp
    refine other_for w mean mg mb (rst := (L + 4, o4) :: (L + 5, o5) :: (L + 6, o6) :: (71, tabObj T2) :: r2) (u0 := u0) (u1 := u1) (u2 := u2) (kt := kt) B F9 X Tp (cb_drop N9 ?_) hd1 d7 (hpq.mono fun p hp => .tail _ (.tail _ (.tail _ (.tail _ hp)))) ht0 ht1 ht2 ht hW hW0 hW9 ⟨rfl, rfl, rfl⟩ rfl rfl hg2 hE ?_
    · walk_at "m all"
    rintro m3 _ s3 ⟨rfl, mf3, ma3, md3, hos3, hg3⟩ F10 N10
    obtain ⟨hp3, g3, d3, tk3, os3⟩ := s3
    have F11 := fr_canon [("width", _), ("first", _), ("many", _), ("ahead", _), ("told", _)] F10 (all_cons mf3.width (all_cons mf3.first (all_cons mf3.many (all_cons ma3 (all_cons md3 all_nil)))))
    clear F9 N9 F10
    have hpv2 := H2.pv
    have hpi2 := H2.pi
    k_steps
    all_goals (unfold Hold; (rename Fr _ _ _ _ => F12); (rename News _ _ _ _ => N12); have hmk := Mark.get; refine turn_via2 (fun b => b = false) F12 N12 ?_ ?_)
    · k_steps
      all_goals first
        | exact TurnEnd.of (by k_asm) (by k_asm) rfl
        | (exfalso; (rename (takesL _ _ != takesL _ _) = true => hbad); (rename (y : Int) ≤ _ => hy9); rw [same hW (by first | (exact Int.ofNat_le.mp (by assumption)) | omega) (seen_post hy9)] at hbad; simp at hbad)
        | (exfalso; omega)
    · clear F12 N12 hmk
      rintro b h8 tk8 rfl F8 N8
      k_steps
      refine ret .next _ _ T2 _ (.inl rfl) ⟨rfl, rfl, rfl⟩ rfl (by k_asm) (cb_drop N8 ?_) (H2.closes h71 hd6 d7) (hos3.trans hos2) hg3
      walk_at "m all"
    · k_steps
      all_goals first
        | exact TurnEnd.of (by k_asm) (by k_asm) rfl
        | (exfalso; (rename (takesL _ _ != takesL _ _) = true => hbad); (rename (y : Int) ≤ _ => hy9); rw [same hW (by first | (exact Int.ofNat_le.mp (by assumption)) | omega) (seen_post hy9)] at hbad; simp at hbad)
        | (exfalso; omega)
    · clear F12 N12 hmk
      rintro b h8 tk8 rfl F8 N8
      k_steps
      refine ret .next _ _ T2 _ (.inl rfl) ⟨rfl, rfl, rfl⟩ rfl (by k_asm) (cb_drop N8 ?_) (H2.closes h71 hd6 d7) (hos3.trans hos2) hg3
      walk_at "m all"
  · have hct : cramL t W = t := by
      unfold cramL
      rw [if_neg (Int.not_lt.mpr hW)]
    have hcl1 : (cramL t W).length ≤ 100 := by rw [hct]; exact ht
    have hpa : (plainL t).length ≤ 400 := Nat.le_trans (plain_len t) (Nat.mul_le_mul_left 4 ht)
    have hSpa : (S (plainL t)).length ≤ 1000 := by rw [S_len]; exact Nat.le_trans hpa (by decide)
    k_steps
    unfold Hold
    rw [hct]
    (rename Fr _ _ _ _ => F4)
    (rename News _ _ _ _ => N4)
    refine parts_call w mean mg mb (ps := t.map plainPc) B F4 X Tp N4 rfl H hd6 hd7 hkp htxc h71 (plainL_text t) hpa (by rw [List.length_map]; exact ht) (plain_ok t) ?_ hg ?_
    · intro A B' e p hp
      exact plain_nostar t p (by rw [e]; simp [hp])
    intro s2 T2 r2 pa F5 N5 H2 hpp hos2 hg2
    rw [plainParts_of] at hpp
    obtain ⟨hp2, g2, d2, tk2, os2⟩ := s2
    clear F4 N4
    have n62 := H2.n6
    have n72 := H2.n7
    k_steps
    unfold Hold
    (rename Fr _ _ _ _ => F9)
    (rename News _ _ _ _ => N9)
    (rename _ = Data.cell (some (Value.ref pa)) => d7)
    have hpp1 : ∀ i j : Nat, (plainParts t)[i]? = some none → (plainParts t)[j]? = some none → i = j := fun i j h => absurd h (none_star (starOf_plain t) i)
    have hppl : (plainParts t).length ≤ 1000 := by rw [plainParts, List.length_map]; exact Nat.le_trans ht (by decide)
    refine LCt.CompSrcT.ledger rfl F9 N9 (.tail _ (.tail _ (.tail _ (.tail _ (.tail _ (.tail _ (.head _))))))) (by rw [PySem.sizeLine_eq]; exact Nat.le_of_ble_eq_true rfl) ?_
    intro g9
    refine compT_inv (fun i ys => ys = []) rfl ?turn1 ?fin1
    case turn1 =>
      intro i v I oI C oC D m2 ys h tk E' hi' hv' hy hC hx F9 N9 off ne
      subst hy
      obtain ⟨x, u, rfl, hxl⟩ : ∃ x u, v = .str (S x) u ∧ x.length ≤ 1000 := by
        rcases i with _ | _ | _ | i
        · cases hv'; exact ⟨_, _, rfl, Nat.le_trans (by assumption) (by decide)⟩
        · cases hv'; exact ⟨_, _, rfl, Nat.le_trans (by assumption) (by decide)⟩
        · cases hv'; exact ⟨_, _, rfl, Nat.le_trans (by assumption) (by decide)⟩
        · exact absurd hi' (by simp)
      refine turn_via2 (fun b => b = false) F9 N9 ?_ ?_
      · k_steps
        exact TurnEnd.of (by k_asm) (by k_asm) (by rw [takes_plain]; simp)
      · rintro b h8 tk8 rfl F8 N8
        simp only [Bool.false_eq_true, if_false]
        exact ⟨h8, tk8, _, rfl, F8, N8, off, .inr ⟨_, .tail _ (.tail _ (.tail _ (.tail _ (.tail _ (.tail _ (.head _)))))), rfl, _, rfl⟩, rfl, trivial⟩
    case fin1 =>
      rintro ys hys D h9 tk9 F9 N9 o9
      subst hys
      k_steps
      (rename News _ _ _ _ => N10)
      refine ret .cont _ _ T2 _ (.inr rfl) ⟨rfl, rfl, rfl⟩ rfl (by k_asm) (cb_drop N10 ?_) (H2.closes h71 hd6 d7) hos2 hg2
      walk_at "m all"

end Mine
end
section
theorem Mine.begin_Lo : True := by
  w_top off
  k_with_none
  k_with "omega" => (first | with_reducible assumption | with_reducible exact Nat.le_trans (by assumption) (Nat.le_of_ble_eq_true rfl) | with_reducible exact Nat.le_refl _ | with_reducible exact Nat.ne_of_gt (by assumption) | with_reducible exact Nat.ne_of_lt (by assumption) | with_reducible exact Ne.symm (by assumption) | with_reducible exact Int.ofNat_lt.mpr (by assumption) | with_reducible exact Nat.lt_of_le_of_lt (Nat.le_add_right _ _) (by assumption))
  trivial
namespace Mine
theorem rules_Lo_1 : True := by
  k_with "newList" => ((k_here; (first | (refine newList_K (F := by k_dflt (k_asm)) (N := by k_dflt (k_asm)) ?_ (hsz := by k_dflt (exact Nat.le_of_ble_eq_true rfl))) | (k_dflt (refine newList_K (F := by k_asm) (N := by k_asm) ?_ (hsz := by exact Nat.le_of_ble_eq_true rfl)))); intro _ _ _ _ l1qq; (try k_lt l1qq); (try k_sweep)))
  k_with "m srch1" => (first | with_reducible assumption | with_reducible exact List.mem_cons_self | (with_reducible refine List.mem_append.mpr (Or.inl ?_); walk_at "m srch1"; done) | (with_reducible refine List.mem_append.mpr (Or.inr ?_); walk_at "m srch1"; done) | (with_reducible refine List.mem_cons_of_mem _ ?_; walk_at "m srch1"; done))
  k_with "m srch" => (first | (walk_at "m srch1"; done) | (repeat (first | exact List.Mem.head _ | refine List.mem_cons_of_mem _ ?_); done))
  k_with "m all" => (repeat' (first | (with_reducible refine List.forall_mem_cons.mpr (And.intro ?_ ?_)) | (with_reducible refine List.forall_mem_append.mpr (And.intro ?_ ?_)) | (walk_at "m srch"; done) | (intro p hp; walk_at "m srch"; done) | exact fun _ hp => nomatch hp))
  trivial
theorem rules_Lo_2 : True := by
  k_with "execs cons" => ((refine Hold.of ?_))
  trivial
/-- the iterator taken out again -/
theorem LS.dropI {g h : Heap} {L tl va ia : Addr} {txo : Obj} {vp ip : List PtD} {kp : Led} {T : Array Value} {rst : Led} {I : Addr} {it : Obj} (H : LS L tl va ia txo vp ip ((I, it) :: kp) T rst) (N : News g L h ((71, tabObj T) :: rst)) (hit : IterObj it) (htx : ∃ its k, txo = listOf its k) (hI : ∀ p ∈ kp, p.1 ≠ I) :
    ∃ r, LS L tl va ia txo vp ip kp T r ∧ (∀ p ∈ r, p ∈ rst) ∧ ∀ p ∈ r, p.1 ≠ I := by
  obtain ⟨r, q1, q2, q3⟩ := clean (cb_drop N fun p hp => .tail _ hp : News g L h rst) I
  have hm := H.kp _ (.head _)
  obtain ⟨a, i, hd⟩ := hit
  have keep : ∀ p ∈ rst, (∀ a i, p.2.data ≠ .fields #[.ref a, .int i 0]) → p ∈ r := fun p hp hx => q3 p hp fun e => by
    have h1 := (N p (.tail _ hp)).1
    have h2 := (N _ (.tail _ hm)).1
    rw [e, h2] at h1
    exact hx a i (by rw [← Option.some.inj h1]; exact hd)
  have kl : ∀ (b : Addr) (its : Array Value) (n : Nat), (b, listOf its n) ∈ rst → (b, listOf its n) ∈ r := fun b its n hb => keep _ hb fun _ _ e => by cases e
  have kc : ∀ (b : Addr) (o : Obj) (c : Option Value), (b, o) ∈ rst → o.data = .cell c → (b, o) ∈ r := fun b o c hb hc => keep _ hb fun _ _ e => by rw [hc] at e; cases e
  have kpt : ∀ {v : Value} {p : PtD}, PartAt rst v p → PartAt r v p := fun {v p} => by
    cases p with
    | none => exact fun ⟨d, e, h⟩ => ⟨d, e, kl _ _ _ h⟩
    | some q => exact fun ⟨d, t, e, h⟩ => ⟨d, t, e, kl _ _ _ h⟩
  have kps : ∀ {b : Addr} {ps : List PtD}, PartsAt rst b ps → PartsAt r b ps := fun {b ps} ⟨its, n, h1, h2⟩ => ⟨its, n, kl _ _ _ h1, h2.mono fun _ _ => kpt⟩
  have ktab : TabOk trKs T r := ⟨H.tab.tri, fun q hq => (H.tab.codes q hq).imp id fun ⟨c, oc, vs, t, e1, e2, e3, e4⟩ => ⟨c, oc, vs, t, e1, keep _ e2 (fun a i e => by
    rw [e3] at e
    cases e
    simp at e4), e3, e4⟩⟩
  refine ⟨r, ⟨fun p hp => H.no71 p (q1 p hp), ktab, ?_, ?_, ?_, ?_, ?_, ?_, kps H.pv, kps H.pi, fun p hp => q3 p (H.kp p (.tail _ hp)) (hI p hp)⟩, q1, q2⟩
  · obtain ⟨o, h1, h2⟩ := H.c1; exact ⟨o, kc _ _ _ h1 h2, h2⟩
  · obtain ⟨o, h1, h2⟩ := H.c4; exact ⟨o, kc _ _ _ h1 h2, h2⟩
  · obtain ⟨o, h1, h2⟩ := H.c5; exact ⟨o, kc _ _ _ h1 h2, h2⟩
  · obtain ⟨o, c, h1, h2⟩ := H.c6; exact ⟨o, c, kc _ _ _ h1 h2, h2⟩
  · obtain ⟨o, c, h1, h2⟩ := H.c7; exact ⟨o, c, kc _ _ _ h1 h2, h2⟩
  · obtain ⟨its, k, rfl⟩ := htx; exact kl _ _ _ H.tx
theorem LS.addI {L tl va ia : Addr} {txo : Obj} {vp ip : List PtD} {kp : Led} {T : Array Value} {rst : Led} {I : Addr} {it : Obj} (H : LS L tl va ia txo vp ip kp T rst) (h71 : @Ne Nat I 71) : LS L tl va ia txo vp ip ((I, it) :: kp) T ((I, it) :: rst) := by
  have hs : ∀ p ∈ rst, p ∈ (I, it) :: rst := fun p hp => .tail _ hp
  refine ⟨all_cons' h71 H.no71, H.tab.sub hs, ?_, ?_, ?_, ?_, ?_, hs _ H.tx, H.pv.mono hs, H.pi.mono hs, all_cons' (.head _) fun p hp => hs _ (H.kp p hp)⟩
  · obtain ⟨o, h1, h2⟩ := H.c1; exact ⟨o, hs _ h1, h2⟩
  · obtain ⟨o, h1, h2⟩ := H.c4; exact ⟨o, hs _ h1, h2⟩
  · obtain ⟨o, h1, h2⟩ := H.c5; exact ⟨o, hs _ h1, h2⟩
  · obtain ⟨o, c, h1, h2⟩ := H.c6; exact ⟨o, c, hs _ h1, h2⟩
  · obtain ⟨o, c, h1, h2⟩ := H.c7; exact ⟨o, c, hs _ h1, h2⟩
structure TextJ (L tl va ia : Addr) (txo : Obj) (vp ip : List PtD) (kp : Led) (W : Int) (f y : Nat) (tw tf ty ta : Tok) (o₀ : OsState) (i : Nat) (m : Str → Option Value) (news : Led) (s : Shared) : Prop where
  st : ∃ T rst, news = (71, tabObj T) :: rst ∧ LS L tl va ia txo vp ip kp T rst
  mf : MF W f y tw tf ty m
  ahead : m "ahead" = some (.int (preL W : Int) ta)
  os : s.os = o₀
  gens : AllBare s.gens
noncomputable def widthBody (K : Frag) : List Stmt := thn (nth 10 (bodyAt K 107))
theorem text_for (w : World) (mean : ExcName → Option Value) (mg mb : Str → Option Value) {fa L : Addr} {cd : Value} {g : Heap} {m : Str → Option Value} {s : Shared} {Q : Flow → Shared → Prop} {E : Value → Shared → Prop}
    {rst kp : Led} {tl va ia : Addr} {kt : Nat} {T : Array Value} {u0 u1 u2 tw tf ty ta : Tok} {t0 t1 t2 : List Nat} {vp ip : List PtD} {W : Int} {f y : Nat}
    (B : Below callerA g [] g) (F : Fr g L s.heap m) (X : Frag.In (hd.heap_39 w.params) g) (Tp : Top topProg LooseL mean mg mb g)
    (N : News g L s.heap ((71, tabObj T) :: rst))
    (H : LS L tl va ia (listOf #[.str (S t0) u0, .str (S t1) u1, .str (S t2) u2] kt) vp ip kp T rst) (hkp : ∀ p ∈ kp, ∀ x, p.2.data ≠ .cell x)
    (h71 : @LT.lt Nat _ 71 L) (hvl : vp.length ≤ 1000) (hil : ip.length ≤ 1000) (ht0 : t0.length ≤ 100) (ht1 : t1.length ≤ 100) (ht2 : t2.length ≤ 100) (hW0 : -1 ≤ W) (hW9 : W ≤ 9)
    (hv1 : ∀ i j : Nat, vp[i]? = some none → vp[j]? = some none → i = j) (hi1 : ∀ i j : Nat, ip[i]? = some none → ip[j]? = some none → i = j) (same : ∀ t : List Nat, W < t.length → f ≤ preL W → y ≤ postL W → takesL vp (cramL t W) = takesL ip t)
    (mf : MF W f y tw tf ty m) (ma : m "ahead" = some (.int (preL W : Int) ta)) (hg : AllBare s.gens)
    (hE : PassesOwn (model PySem.Challenge.rw_ij0088_01.row.prog w) (callerA.deeper (envOfC (Str.ofString "law") (lawSc (_root_.Mine.hd.heap_39 w.params)) L fa cd)) (envOfC (Str.ofString "law") (lawSc (_root_.Mine.hd.heap_39 w.params)) L fa cd) E)
    (ret : ∀ m' news' s', TextJ L tl va ia (listOf #[.str (S t0) u0, .str (S t1) u1, .str (S t2) u2] kt) vp ip kp W f y tw tf ty ta s.os 3 m' news' s' → Fr g L s'.heap m' → News g L s'.heap news' → Q .next s') :
    wpAny (model PySem.Challenge.rw_ij0088_01.row.prog w) (callerA.deeper (envOfC (Str.ofString "law") (lawSc (_root_.Mine.hd.heap_39 w.params)) L fa cd)) (exec (nth 1 (widthBody (_root_.Mine.hd.heap_39 w.params))) (envOfC (Str.ofString "law") (lawSc (_root_.Mine.hd.heap_39 w.params)) L fa cd)) Q E s := by
  k_fill
  generalize hsc : lawSc (_root_.Mine.hd.heap_39 w.params) = sc at hE ⊢
  conv at hsc => lhs; whnf
  subst hsc
  generalize hst : nth 1 (widthBody (_root_.Mine.hd.heap_39 w.params)) = st
  conv at hst => lhs; whnf
  subst hst
  obtain ⟨hp1, g1, d1, tk1, os1⟩ := s
  generalize htxo : listOf #[.str (S t0) u0, .str (S t1) u1, .str (S t2) u2] kt = txo at *
  have htxc : ∀ x, txo.data ≠ .cell x := fun x h => by rw [← htxo] at h; cases h
  refine forLL (h₀ := g) (L := L) (l := tl) (k := kt) (vs := [.str (S t0) u0, .str (S t1) u1, .str (S t2) u2]) (TextJ L tl va ia txo vp ip kp W f y tw tf ty ta os1) rfl ?hit ?turn ret (fun _ _ _ _ _ _ h => ⟨h.st, h.mf, h.ahead, h.os, h.gens⟩) (hE := hE)
  case hit =>
    obtain ⟨o1, o4, o5, o6, o7, c6, c7, r, N2, hd6, hd7, H2, keep⟩ := H.opens N htxc hkp
    have hd1 := H2.d1
    refine wpAny_mono (Q := fun xv s₁ => Hold (xv = Value.ref tl ∧ ∃ m news, TextJ L tl va ia txo vp ip kp W f y tw tf ty ta os1 0 m news s₁ ∧ Fr g L s₁.heap m ∧ News g L s₁.heap news ∧ (tl, ({ cls := .type "list", data := .seq [Value.str (S t0) u0, .str (S t1) u1, .str (S t2) u2].toArray kt } : Obj)) ∈ news)) ?_ (fun _ _ h => h) fun _ _ e => e
    clear N
    k_steps
    refine ⟨rfl, m, (71, tabObj T) :: _, ⟨⟨T, _, rfl, H2.closes h71 hd6 hd7⟩, mf, ma, rfl, hg⟩, F, cb_drop N2 ?_, ?_⟩
    · walk_at "m all"
    · rw [← htxo]
      simp [PySem.W.listOf]
  case turn =>
    rintro i v I it m₂ news₂ s₁ hIt hil' hv ⟨⟨T2, rst2, rfl, H2⟩, f1, f2, f4, f5⟩ F9 N9 hsrc off
    obtain ⟨t, tx, rfl, htl⟩ : ∃ t u, v = .str (S t) u ∧ t.length ≤ 100 := by
      rcases i with _ | _ | _ | i
      · cases hv; exact ⟨_, _, rfl, ht0⟩
      · cases hv; exact ⟨_, _, rfl, ht1⟩
      · cases hv; exact ⟨_, _, rfl, ht2⟩
      · exact absurd hil' (by simp)
    have hI71 : @Ne Nat I 71 := Ne.symm (off _ (.head _))
    have hIc : ∀ x, it.data ≠ .cell x := fun x h => by obtain ⟨a, j, e⟩ := hIt; rw [e] at h; cases h
    have H3 := H2.addI (it := it) hI71
    have N3 : News g L s₁.heap ((71, tabObj T2) :: (I, it) :: rst2) := cb_drop N9 (by walk_at "m all")
    have hkp2 : ∀ p ∈ (I, it) :: kp, ∀ x, p.2.data ≠ .cell x := List.forall_mem_cons.mpr ⟨hIc, hkp⟩
    obtain ⟨o1, o4, o5, o6, o7, c6, c7, r, N4, hd6, hd7, H4, keep⟩ := H3.opens N3 htxc hkp2
    have F3 := fr_canon [("width", _), ("first", _), ("many", _), ("ahead", _)] F9 (all_cons f1.width (all_cons f1.first (all_cons f1.many (all_cons f2 all_nil))))
    clear F9 F N N9 N3
    have n6 := H4.n6
    have e6 := H4.t6
    obtain ⟨hp2, g2, d2, tk2, os2⟩ := s₁
    k_steps
    unfold Hold
    (rename Fr _ _ _ _ => F5)
    (rename News _ _ _ _ => N5)
    (rename _ = Data.cell (some (Value.str (S t) tx)) => d6)
    have H5 : ∀ o : Obj, LO g L tl va ia txo vp ip ((I, it) :: kp) T2 o1 o4 o5 o o7 r := fun _ => ⟨H4.d1, H4.d4, H4.d5, H4.n6, H4.n7, H4.n71, H4.t6, H4.t7, H4.t71, H4.tab, H4.pv, H4.pi, H4.kp⟩
    subst htxo
    refine text_turn w mean mg mb (t := t) (f := f) (y := y) (W := W) (u0 := u0) (u1 := u1) (u2 := u2) (kt := kt) B F5 X Tp N5 (H5 _) d6 hd7 hkp2 h71 hvl hil ht0 ht1 ht2 htl hW0 hW9 hv1 hi1 (same t) ⟨rfl, rfl, rfl⟩ rfl f5 hE ?_
    intro fl m' s' T' rst' hfl mf' ma' F' N' H' hos' hg'
    obtain ⟨r2, H6, q1, q2⟩ := H'.dropI N' hIt ⟨_, _, rfl⟩ (fun p hp => off p (.tail _ (H2.kp p hp)))
    have hN : WNext g L I it (fun nw => (tl, ({ cls := .type "list", data := .seq [Value.str (S t0) u0, .str (S t1) u1, .str (S t2) u2].toArray kt } : Obj)) ∈ nw) (TextJ L tl va ia (PySem.W.listOf #[Value.str (S t0) u0, Value.str (S t1) u1, Value.str (S t2) u2] kt) vp ip kp W f y tw tf ty ta os1 (i + 1)) s' := by
      refine ⟨m', (71, tabObj T') :: r2, ⟨⟨T', r2, rfl, H6⟩, mf', ma', hos'.trans f4, hg'⟩, F', fun p hp => ?_, .tail _ H6.tx, all_cons' (Ne.symm hI71) q2⟩
      rcases List.mem_cons.mp hp with rfl | hp
      · exact N' _ (.tail _ (H'.kp _ (.head _)))
      rcases List.mem_cons.mp hp with rfl | hp
      · exact N' _ (.head _)
      · exact N' _ (.tail _ (q1 _ hp))
    rcases hfl with rfl | rfl
    · exact hN
    · exact hN

end Mine
end
section
theorem Mine.begin_Lq : True := by
  w_top off
  k_with_none
  k_with "omega" => (first | with_reducible assumption | with_reducible exact Nat.le_trans (by assumption) (Nat.le_of_ble_eq_true rfl) | with_reducible exact Nat.le_refl _ | with_reducible exact Nat.ne_of_gt (by assumption) | with_reducible exact Nat.ne_of_lt (by assumption) | with_reducible exact Ne.symm (by assumption) | with_reducible exact Int.ofNat_lt.mpr (by assumption) | with_reducible exact Nat.lt_of_le_of_lt (Nat.le_add_right _ _) (by assumption))
  trivial
namespace Mine
theorem rules_Lq_1 : True := by
  k_with "newList" => ((k_here; (first | (refine newList_K (F := by k_dflt (k_asm)) (N := by k_dflt (k_asm)) ?_ (hsz := by k_dflt (exact Nat.le_of_ble_eq_true rfl))) | (k_dflt (refine newList_K (F := by k_asm) (N := by k_asm) ?_ (hsz := by exact Nat.le_of_ble_eq_true rfl)))); intro _ _ _ _ l1qq; (try k_lt l1qq); (try k_sweep)))
  k_with "m srch1" => (first | with_reducible assumption | with_reducible exact List.mem_cons_self | (with_reducible refine List.mem_append.mpr (Or.inl ?_); walk_at "m srch1"; done) | (with_reducible refine List.mem_append.mpr (Or.inr ?_); walk_at "m srch1"; done) | (with_reducible refine List.mem_cons_of_mem _ ?_; walk_at "m srch1"; done))
  k_with "m srch" => (first | (walk_at "m srch1"; done) | (repeat (first | exact List.Mem.head _ | refine List.mem_cons_of_mem _ ?_); done))
  k_with "m all" => (repeat' (first | (with_reducible refine List.forall_mem_cons.mpr (And.intro ?_ ?_)) | (with_reducible refine List.forall_mem_append.mpr (And.intro ?_ ?_)) | (walk_at "m srch"; done) | (intro p hp; walk_at "m srch"; done) | exact fun _ hp => nomatch hp))
  trivial
theorem rules_Lq_2 : True := by
  k_with "exec For Name Name cons nil" => ((refine Hold.of ?_))
  k_with "exec For" => ((refine Hold.of ?_))
  trivial
theorem ahead_eq (k : Int) : (if (k - 3).fdiv 2 > 0 then (k - 3).fdiv 2 else 0) = ((preL k : Nat) : Int) := by
  unfold preL
  split <;> omega
structure WidthJ (L tl va ia : Addr) (txo : Obj) (vp ip : List PtD) (f y : Int) (tf ty : Tok) (o₀ : OsState) (m : Str → Option Value) (news : Led) (s : Shared) : Prop where
  st : ∃ T rst, news = (71, tabObj T) :: rst ∧ LS L tl va ia txo vp ip [] T rst
  first : m "first" = some (.int f tf)
  many : m "many" = some (.int y ty)
  os : s.os = o₀
  gens : AllBare s.gens
noncomputable def Widths (vs : List Value) : Prop := ∀ v ∈ vs, ∃ W t, v = Value.int W t ∧ -1 ≤ W ∧ W ≤ 9
theorem LS.kp1 {L tl va ia : Addr} {txo : Obj} {vp ip : List PtD} {kp kp' : Led} {T : Array Value} {rst : Led} (H : LS L tl va ia txo vp ip kp T rst) (h : ∀ p ∈ kp', p ∈ rst) : LS L tl va ia txo vp ip kp' T rst :=
  ⟨H.no71, H.tab, H.c1, H.c4, H.c5, H.c6, H.c7, H.tx, H.pv, H.pi, h⟩
theorem width_hit {g : Heap} {L tl va ia D : Addr} {txo : Obj} {vp ip : List PtD} {T : Array Value} {rst : Led} {m : Str → Option Value} {s : Shared} {f y a b : Int} {tf ty ta tb : Tok} {k : Nat} {o₀ : OsState}
    (F : Fr g L s.heap m) (N : News g L s.heap ((D, ({ cls := .type "tuple", data := .seq #[.int a ta, .int b tb] k } : Obj)) :: (71, tabObj T) :: rst)) (m1 : m "first" = some (.int f tf)) (m2 : m "many" = some (.int y ty)) (ha : -1 ≤ a ∧ a ≤ 9) (hb : -1 ≤ b ∧ b ≤ 9) (H : LS L tl va ia txo vp ip [] T rst) (hD : @Ne Nat D 71) (hos : s.os = o₀) (hg : AllBare s.gens) :
    ∃ l vs k, Value.ref D = Value.ref l ∧ Widths vs ∧ ∃ m news, WidthJ L tl va ia txo vp ip f y tf ty o₀ m news s ∧ Fr g L s.heap m ∧ News g L s.heap news ∧ (l, ({ cls := .type "tuple", data := .seq vs.toArray k } : Obj)) ∈ news := by
  refine ⟨D, [.int a ta, .int b tb], k, rfl, ?_, m, (71, tabObj T) :: (D, ({ cls := .type "tuple", data := .seq #[.int a ta, .int b tb] k } : Obj)) :: rst, ⟨⟨T, _, rfl, (H.addI hD).kp1 fun p hp => nomatch hp⟩, m1, m2, hos, hg⟩, F, cb_drop N ?_, .tail _ (.head _)⟩
  · refine List.forall_mem_cons.mpr ⟨⟨_, _, rfl, ha.1, ha.2⟩, List.forall_mem_cons.mpr ⟨⟨_, _, rfl, hb.1, hb.2⟩, fun v hv => nomatch hv⟩⟩
  · walk_at "m all"
theorem width_for (w : World) (mean : ExcName → Option Value) (mg mb : Str → Option Value) {fa L : Addr} {cd : Value} {g : Heap} {m : Str → Option Value} {s : Shared} {Q : Flow → Shared → Prop} {E : Value → Shared → Prop}
    {rst : Led} {tl va ia : Addr} {kt : Nat} {T : Array Value} {u0 u1 u2 tt tf ty : Tok} {t0 t1 t2 : List Nat} {vp ip : List PtD} {f y tot : Nat}
    (B : Below callerA g [] g) (F : Fr g L s.heap m) (X : Frag.In (hd.heap_39 w.params) g) (Tp : Top topProg LooseL mean mg mb g)
    (N : News g L s.heap ((71, tabObj T) :: rst))
    (H : LS L tl va ia (listOf #[.str (S t0) u0, .str (S t1) u1, .str (S t2) u2] kt) vp ip [] T rst)
    (h71 : @LT.lt Nat _ 71 L) (hvl : vp.length ≤ 1000) (hil : ip.length ≤ 1000) (ht0 : t0.length ≤ 100) (ht1 : t1.length ≤ 100) (ht2 : t2.length ≤ 100)
    (hv1 : ∀ i j : Nat, vp[i]? = some none → vp[j]? = some none → i = j) (hi1 : ∀ i j : Nat, ip[i]? = some none → ip[j]? = some none → i = j) (same : ∀ (W : Int) (t : List Nat), W < t.length → f ≤ preL W → y ≤ postL W → takesL vp (cramL t W) = takesL ip t)
    (mt : m "total" = some (.int (tot : Int) tt)) (mf : m "first" = some (.int (f : Int) tf)) (mm : m "many" = some (.int (y : Int) ty)) (hg : AllBare s.gens)
    (hE : PassesOwn (model PySem.Challenge.rw_ij0088_01.row.prog w) (callerA.deeper (envOfC (Str.ofString "law") (lawSc (_root_.Mine.hd.heap_39 w.params)) L fa cd)) (envOfC (Str.ofString "law") (lawSc (_root_.Mine.hd.heap_39 w.params)) L fa cd) E)
    (ret : ∀ m' news' s', WidthJ L tl va ia (listOf #[.str (S t0) u0, .str (S t1) u1, .str (S t2) u2] kt) vp ip f y tf ty s.os m' news' s' → Fr g L s'.heap m' → News g L s'.heap news' → Q .next s') :
    wpAny (model PySem.Challenge.rw_ij0088_01.row.prog w) (callerA.deeper (envOfC (Str.ofString "law") (lawSc (_root_.Mine.hd.heap_39 w.params)) L fa cd)) (exec (nth 10 (bodyAt (_root_.Mine.hd.heap_39 w.params) 107)) (envOfC (Str.ofString "law") (lawSc (_root_.Mine.hd.heap_39 w.params)) L fa cd)) Q E s := by
  k_fill
  generalize hsc : lawSc (_root_.Mine.hd.heap_39 w.params) = sc at hE ⊢
  conv at hsc => lhs; whnf
  subst hsc
  generalize hst : nth 10 (bodyAt (_root_.Mine.hd.heap_39 w.params) 107) = st
  conv at hst => lhs; whnf
  subst hst
  obtain ⟨hp1, g1, d1, tk1, os1⟩ := s
  refine forT (h₀ := g) (L := L) (fun _ => WidthJ L tl va ia (listOf #[.str (S t0) u0, .str (S t1) u1, .str (S t2) u2] kt) vp ip f y tf ty os1) Widths rfl ?hit ?turn (fun vs _ => ret) (fun _ _ _ _ _ _ h => ⟨h.st, h.first, h.many, h.os, h.gens⟩) (hE := hE)
  case hit =>
    have F2 := fr_canon [("total", _), ("first", _), ("many", _)] F (all_cons mt (all_cons mf (all_cons mm all_nil)))
    clear F
    refine wpAny_mono (Q := fun xv s₁ => Hold (∃ l vs k, xv = Value.ref l ∧ Widths vs ∧ ∃ m news, WidthJ L tl va ia (listOf #[.str (S t0) u0, .str (S t1) u1, .str (S t2) u2] kt) vp ip f y tf ty os1 m news s₁ ∧ Fr g L s₁.heap m ∧ News g L s₁.heap news ∧ (l, ({ cls := .type "tuple", data := .seq vs.toArray k } : Obj)) ∈ news)) ?_ (fun _ _ h => h) fun _ _ e => e
    k_steps
    (rename Fr _ _ _ _ => F5)
    (rename News _ _ _ _ => N5)
    have hm10 := fdiv_fmod_facts (tot : Int) 10
    (rename @LT.lt Nat _ 71 _ ∧ AllLt _ rst => l5)
    exact width_hit F5 N5 rfl rfl ⟨by omega, by omega⟩ ⟨by omega, by omega⟩ H (Nat.ne_of_gt l5.1) rfl hg
  case turn =>
    rintro l vs k hvs i v I it m₂ news₂ s₁ hIt hil' hv ⟨⟨T2, rst2, rfl, H2⟩, f1, f2, f4, f5⟩ F9 N9 hsrc off
    obtain ⟨W, tw, rfl, hW0, hW9⟩ := hvs v (List.mem_of_getElem? hv)
    have hI71 : @Ne Nat I 71 := Ne.symm (off _ (.head _))
    have F3 := fr_canon [("first", _), ("many", _)] F9 (all_cons f1 (all_cons f2 all_nil))
    obtain ⟨hp2, g2, d2, tk2, os2⟩ := s₁
    clear F N F9
    k_steps
    unfold Hold
    (rename Fr _ _ _ _ => F5)
    (rename News _ _ _ _ => N5)
    have hl71 : @Ne Nat l 71 := by
      rcases List.mem_cons.mp hsrc with h | h
      · exfalso
        have := congrArg (fun p : Addr × Obj => p.2.cls) h
        cases this
      · exact H2.no71 _ h
    have hlr : (l, ({ cls := .type "tuple", data := .seq vs.toArray k } : Obj)) ∈ rst2 := by
      rcases List.mem_cons.mp hsrc with h | h
      · exact absurd (congrArg Prod.fst h) hl71
      · exact h
    have hIc : ∀ x, it.data ≠ .cell x := fun x h => by obtain ⟨a, j, e⟩ := hIt; rw [e] at h; cases h
    have H3 := (H2.kp1 (kp' := [(l, ({ cls := .type "tuple", data := .seq vs.toArray k } : Obj))]) (List.forall_mem_cons.mpr ⟨hlr, fun p hp => nomatch hp⟩)).addI (it := it) hI71
    refine text_for w mean mg mb (W := W) (f := f) (y := y) (u0 := u0) (u1 := u1) (u2 := u2) (kt := kt) (tw := tw) (tf := tf) (ty := ty) (rst := (I, it) :: rst2) B F5 X Tp (cb_drop N5 ?_) H3 (List.forall_mem_cons.mpr ⟨hIc, List.forall_mem_cons.mpr ⟨fun x h => (by cases h), fun p hp => nomatch hp⟩⟩) h71 hvl hil ht0 ht1 ht2 hW0 hW9 hv1 hi1 (same W) ⟨rfl, rfl, rfl⟩ (by show some (Value.int _ _) = _; rw [ahead_eq]) f5 hE ?_
    · walk_at "m all"
    rintro m3 _ s3 ⟨⟨T3, rst3, rfl, H4⟩, mf3, ma3, os3, hg3⟩ F6 N6
    obtain ⟨r2, H6, q1, q2⟩ := H4.dropI N6 hIt ⟨_, _, rfl⟩ (List.forall_mem_cons.mpr ⟨off _ hsrc, fun p hp => nomatch hp⟩)
    clear F5 N5
    k_steps
    refine ⟨m3, (71, tabObj T3) :: r2, ⟨⟨T3, r2, rfl, H6.kp1 fun p hp => nomatch hp⟩, mf3.first, mf3.many, os3.trans f4, hg3⟩, F6, fun p hp => ?_, .tail _ (H6.kp _ (.head _)), all_cons' (Ne.symm hI71) q2⟩
    rcases List.mem_cons.mp hp with rfl | hp
    · exact N6 _ (.tail _ (H4.kp _ (.head _)))
    rcases List.mem_cons.mp hp with rfl | hp
    · exact N6 _ (.head _)
    · exact N6 _ (.tail _ (q1 _ hp))

end Mine
end
section
theorem Mine.begin_Lr : True := by
  w_top off
  k_with_none
  k_with "omega" => (first | with_reducible assumption | with_reducible exact Nat.le_trans (by assumption) (Nat.le_of_ble_eq_true rfl) | with_reducible exact Nat.le_refl _ | with_reducible exact Nat.ne_of_gt (by assumption) | with_reducible exact Nat.ne_of_lt (by assumption) | with_reducible exact Ne.symm (by assumption) | with_reducible exact Int.ofNat_lt.mpr (by assumption) | with_reducible exact Nat.lt_of_le_of_lt (Nat.le_add_right _ _) (by assumption))
  trivial
namespace Mine
theorem rules_Lr_1 : True := by
  k_with "newList" => ((k_here; (first | (refine newList_K (F := by k_dflt (k_asm)) (N := by k_dflt (k_asm)) ?_ (hsz := by k_dflt (exact Nat.le_of_ble_eq_true rfl))) | (k_dflt (refine newList_K (F := by k_asm) (N := by k_asm) ?_ (hsz := by exact Nat.le_of_ble_eq_true rfl)))); intro _ _ _ _ l1qq; (try k_lt l1qq); (try k_sweep)))
  k_with "m srch1" => (first | with_reducible assumption | with_reducible exact List.mem_cons_self | (with_reducible refine List.mem_append.mpr (Or.inl ?_); walk_at "m srch1"; done) | (with_reducible refine List.mem_append.mpr (Or.inr ?_); walk_at "m srch1"; done) | (with_reducible refine List.mem_cons_of_mem _ ?_; walk_at "m srch1"; done))
  k_with "m srch" => (first | (walk_at "m srch1"; done) | (repeat (first | exact List.Mem.head _ | refine List.mem_cons_of_mem _ ?_); done))
  k_with "m all" => (repeat' (first | (with_reducible refine List.forall_mem_cons.mpr (And.intro ?_ ?_)) | (with_reducible refine List.forall_mem_append.mpr (And.intro ?_ ?_)) | (walk_at "m srch"; done) | (intro p hp; walk_at "m srch"; done) | exact fun _ hp => nomatch hp))
  trivial
theorem rules_Lr_2 : True := by
  k_with "execs cons" => ((refine Hold.of ?_))
  trivial
theorem sum_cast : ∀ l : List Nat, (l.map fun n => ((n : Nat) : Int)).sum = ((l.sum : Nat) : Int)
  | [] => rfl
  | n :: r => by
    rw [List.map_cons, List.sum_cons, List.sum_cons, sum_cast r]
    rfl
theorem parts_list {r rest : Led} (k : ∀ (b : Addr) (its : Array Value) (n : Nat), (b, listOf its n) ∈ rest → (b, listOf its n) ∈ r) {a : Addr} {ps : List PtD} (H : PartsAt rest a ps) : PartsAt r a ps := by
  have kpt : ∀ {v : Value} {p : PtD}, PartAt rest v p → PartAt r v p := fun {v p} => by
    cases p with
    | none => exact fun ⟨d, e, h⟩ => ⟨d, e, k _ _ _ h⟩
    | some q => exact fun ⟨d, t, e, h⟩ => ⟨d, t, e, k _ _ _ h⟩
  obtain ⟨its, n, h1, h2⟩ := H
  exact ⟨its, n, k _ _ _ h1, h2.mono fun _ _ => kpt⟩
theorem law_tail2 (w : World) (mean : ExcName → Option Value) (mg mb : Str → Option Value) {fa L : Addr} {cd : Value} {g : Heap} {m : Str → Option Value} {s : Shared} {Q : Flow → Shared → Prop} {E : Value → Shared → Prop}
    {o1 o2 o4 o5 o6 o7 : Obj} {tl dl : Addr} {kt kd f y tot : Nat} {u0 u1 u2 tt tf ty : Tok} {t0 t1 t2 : List Nat} {ds : List Value} {xs more : Led} {c2 c4 c5 c6 c7 : Option Value}
    (B : Below callerA g [] g) (F : Fr g L s.heap m) (X : Frag.In (hd.heap_39 w.params) g) (Tp : Top topProg LooseL mean mg mb g)
    (N : News g L s.heap ((L + 1, o1) :: (L + 2, o2) :: (dl, listOf ds.toArray kd) :: (xs ++ more)))
    (hd1 : o1.data = .cell (some (.ref tl))) (hd2 : o2.data = .cell c2) (hd4 : o4.data = .cell c4) (hd5 : o5.data = .cell c5) (hd6 : o6.data = .cell c6) (hd7 : o7.data = .cell c7)
    (hmt : (tl, listOf #[.str (S t0) u0, .str (S t1) u1, .str (S t2) u2] kt) ∈ more) (hm4 : (L + 4, o4) ∈ more) (hm5 : (L + 5, o5) ∈ more) (hm6 : (L + 6, o6) ∈ more) (hm7 : (L + 7, o7) ∈ more) (hm71 : (71, tabObj #[]) ∈ more)
    (hxs : ∀ p ∈ xs, @Ne Nat p.1 (L + 1) ∧ @Ne Nat p.1 (L + 2) ∧ @Ne Nat p.1 dl ∧ ∀ q ∈ more, q.1 ≠ p.1) (hdl : ∀ q ∈ more, q.1 ≠ dl)
    (hds : All2 (DressAt xs) ds (dressFrom tot 0 (t0.take f ++ t0.drop (t0.length - y)))) (hl0 : t0.length ≤ 100) (hl1 : t1.length ≤ 100) (hl2 : t2.length ≤ 100) (hl3 : 3 ≤ t0.length) (hf : f ≤ 2) (hy : y ≤ 3)
    (h71 : @LT.lt Nat _ 71 L) (mt : m "total" = some (.int (tot : Int) tt)) (md : m "dress" = some (.ref dl)) (mf : m "first" = some (.int (f : Int) tf)) (mm : m "many" = some (.int (y : Int) ty)) (hg : AllBare s.gens)
    (hE : PassesOwn (model PySem.Challenge.rw_ij0088_01.row.prog w) (callerA.deeper (envOfC (Str.ofString "law") (lawSc (_root_.Mine.hd.heap_39 w.params)) L fa cd)) (envOfC (Str.ofString "law") (lawSc (_root_.Mine.hd.heap_39 w.params)) L fa cd) E)
    (ret : ∀ s' T rst, (∀ b o, g.get? b = some o → s'.heap.get? b = some o) → News g L s'.heap ((71, tabObj T) :: rst) → TriplesOk T.toList → s'.os = s.os → AllBare s'.gens → Q (.ret (.bool true)) s') :
    wpAny (model PySem.Challenge.rw_ij0088_01.row.prog w) (callerA.deeper (envOfC (Str.ofString "law") (lawSc (_root_.Mine.hd.heap_39 w.params)) L fa cd)) (execs ((bodyAt (_root_.Mine.hd.heap_39 w.params) 107).drop 7) (envOfC (Str.ofString "law") (lawSc (_root_.Mine.hd.heap_39 w.params)) L fa cd)) Q E s := by
  k_fill
  generalize hst : (bodyAt (_root_.Mine.hd.heap_39 w.params) 107).drop 7 = st
  conv at hst => lhs; whnf
  subst hst
  obtain ⟨hp1, g1, d1, tk1, os1⟩ := s
  have up : ∀ i j : Nat, i ≠ j → @Ne Nat (L + i) (L + j) := fun i j h e => h (Nat.add_left_cancel e)
  have up71 : ∀ i : Nat, @Ne Nat (L + i) 71 := fun i => Nat.ne_of_gt (Nat.lt_of_lt_of_le h71 (Nat.le_add_right L i))
  have Nm : News g L hp1 (xs ++ more) := cb_drop N fun p hp => .tail _ (.tail _ (.tail _ hp))
  have mx : ∀ p ∈ more, p ∈ xs ++ more := fun p hp => List.mem_append.mpr (.inr hp)
  have hT4 : ∀ (k : Addr) o, (k, o) ∈ more → ∀ p ∈ xs, p.1 ≠ k := fun k o h p hp => Ne.symm ((hxs p hp).2.2.2 _ h)
  generalize hdd : dressFrom tot 0 (t0.take f ++ t0.drop (t0.length - y)) = dd at *
  have hddl : dd.length ≤ f + y := by
    rw [← hdd, dressFrom_len, List.length_append, List.length_take, List.length_drop]
    exact cut_le _ _ _
  -- the view
  obtain ⟨ra, ca1, ca2, ca3⟩ := clean Nm (L + 4)
  obtain ⟨rb, cb1, cb2, cb3⟩ := clean (cb_drop Nm ca1) 71
  have inb : ∀ p ∈ xs ++ more, @Ne Nat p.1 (L + 4) → @Ne Nat p.1 71 → p ∈ rb := fun p hp h1 h2 => cb3 p (ca3 p hp h1) h2
  refine wpAny_execs_cons ?_
  refine law_view w mean mg mb (rst := (L + 1, o1) :: (L + 2, o2) :: rb) (k := kd) (f := f) (dd := dd) B F X Tp (cb_drop N ?_) hd4 h71 ?_ ?_ (Ne.symm (hdl _ hm4)) (Ne.symm (hdl _ hm71)) (TabOk.nil _ _) (hds.mono fun _ _ => DressAt.mono fun p hp => ?_) (by omega) mt md mf hg ?_
  · exact all_cons' (.tail _ (.tail _ (.tail _ (mx _ hm4)))) (all_cons' (.tail _ (.tail _ (.tail _ (mx _ hm71)))) (all_cons' (by walk_at "m srch") (all_cons' (by walk_at "m srch") (all_cons' (by walk_at "m srch") fun p h => .tail _ (.tail _ (.tail _ (ca1 _ (cb1 _ h))))))))
  · exact all_cons' (up 1 4 (by decide)) (all_cons' (up 2 4 (by decide)) fun p hp => ca2 p (cb1 p hp))
  · exact all_cons' (up71 1) (all_cons' (up71 2) cb2)
  · exact .tail _ (.tail _ (inb p (List.mem_append.mpr (.inl hp)) (hT4 _ _ hm4 p hp) (hT4 _ _ hm71 p hp)))
  rintro _ s2 o4' T' rst' va F2 N2 hd4' hT' hsub hne hva rfl hos2 hg2
  -- the items
  have Nr : News g L s2.heap rst' := cb_drop N2 fun p hp => .tail _ (.tail _ (.tail _ hp))
  obtain ⟨r5, cc1, cc2, cc3⟩ := clean Nr (L + 5)
  have i5 : (L + 5, o5) ∈ rst' := hsub _ (.tail _ (.tail _ (inb _ (mx _ hm5) (up 5 4 (by decide)) (up71 5))))
  have keep5 : ∀ p ∈ rst', (∀ x, p.2.data ≠ .cell x) → p ∈ r5 := fun p hp hx => cc3 p hp (ne_data Nr i5 hd5 p hp hx)
  have tlmore4 : @Ne Nat tl (L + 4) := ne_data Nm (mx _ hm4) hd4 _ (mx _ hmt) fun x h => by cases h
  have tl71 : @Ne Nat tl 71 := fun e => by
    have h1 := (Nm _ (mx _ hmt)).1
    have h2 := (Nm _ (mx _ hm71)).1
    have e' : tl = 71 := e
    rw [e', h2] at h1
    have := congrArg (fun o : Option Obj => o.map (·.cls)) h1
    simp at this
  have tx5 : (tl, listOf #[.str (S t0) u0, .str (S t1) u1, .str (S t2) u2] kt) ∈ r5 := keep5 _ (hsub _ (.tail _ (.tail _ (inb _ (mx _ hmt) tlmore4 tl71)))) fun x h => by cases h
  have m15 : (L + 1, o1) ∈ r5 := cc3 _ (hsub _ (.head _)) (up 1 5 (by decide))
  have m65 : (L + 6, o6) ∈ r5 := cc3 _ (hsub _ (.tail _ (.tail _ (inb _ (mx _ hm6) (up 6 4 (by decide)) (up71 6))))) (up 6 5 (by decide))
  have m75 : (L + 7, o7) ∈ r5 := cc3 _ (hsub _ (.tail _ (.tail _ (inb _ (mx _ hm7) (up 7 4 (by decide)) (up71 7))))) (up 7 5 (by decide))
  have hdr : All2 (DressAt ((L + 4, o4') :: (71, tabObj T') :: r5)) ds dd := hds.mono fun _ _ h => DressAt.mono (fun p hp => .tail _ (.tail _ hp)) (dress_keep keep5 (DressAt.mono (fun p hp => hsub _ (.tail _ (.tail _ (inb p (List.mem_append.mpr (.inl hp)) (hT4 _ _ hm4 p hp) (hT4 _ _ hm71 p hp))))) h))
  obtain ⟨hp2, g2, d2, tk2, os2⟩ := s2
  show wpAny _ _ (execs _ _) _ _ _
  refine wpAny_execs_cons ?_
  refine law_items w mean mg mb (rst := (L + 4, o4') :: (71, tabObj T') :: r5) (k := kd) (f := f) (dd := dd) B F2 X Tp (cb_drop N2 ?_) hd5 ?_ (Ne.symm (hdl _ hm5)) hdr (by omega) mt md mf ?_
  · exact all_cons' (.tail _ (.tail _ (.tail _ i5))) (all_cons' (by walk_at "m srch") (all_cons' (by walk_at "m srch") (all_cons' (by walk_at "m srch") fun p h => .tail _ (.tail _ (.tail _ (cc1 _ h))))))
  · exact all_cons' (up 4 5 (by decide)) (all_cons' (Ne.symm (up71 5)) cc2)
  intro h3 tk3 o5' x5 ia F3 N3 hd5' hx5 hia
  -- the test
  have hva5 : PartsAt r5 va (viewParts (dd.take f) ++ none :: viewParts (dd.drop f)) := parts_keep keep5 hva
  have sub3 : ∀ p ∈ r5, p ∈ (dl, listOf ds.toArray kd) :: (x5 ++ (L + 4, o4') :: (71, tabObj T') :: r5) := fun p hp => .tail _ (List.mem_append.mpr (.inr (.tail _ (.tail _ hp))))
  have hal : (dd.take f).length ≤ f := by rw [List.length_take]; omega
  have hbl : (dd.drop f).length ≤ y := by rw [List.length_drop]; omega
  have hvl : (viewParts (dd.take f) ++ none :: viewParts (dd.drop f)).length ≤ 1000 := by
    simp only [viewParts, partsOf, List.length_append, List.length_cons, List.length_map]
    omega
  have hil : (itemParts (dd.take f) ++ none :: itemParts (dd.drop f)).length ≤ 1000 := by
    simp only [itemParts, List.length_append, List.length_cons, List.length_map]
    omega
  have hv1 := one_mid (starOf_view (dd.take f)) (starOf_view (dd.drop f))
  have hi1 := one_mid (starOf_items (dd.take f)) (starOf_items (dd.drop f))
  show wpAny _ _ (execs _ _) _ _ _
  refine wpAny_execs_cons ?_
  refine law_test w mean mg mb (rst := (dl, listOf ds.toArray kd) :: (x5 ++ (L + 4, o4') :: (71, tabObj T') :: r5)) (u0 := u0) (u1 := u1) (u2 := u2) (kt := kt) B F3 X Tp (cb_drop N3 ?_) hd1 hd4' hd5' (hva5.mono sub3) (hia.mono fun p hp => .tail _ hp) hvl hil hl0 hl1 hl2 hv1 hi1 (view_items _ _) ?_
  · walk_at "m all"
  intro h4 tk4 F4 N4
  -- the widths
  show wpAny _ _ (execs _ _) _ _ _
  refine wpAny_execs_cons ?_
  have subw : ∀ p ∈ r5, p ∈ (L + 4, o4') :: (L + 5, o5') :: (x5 ++ r5) := fun p hp => .tail _ (.tail _ (List.mem_append.mpr (.inr hp)))
  have Hw : LS L tl va ia (listOf #[.str (S t0) u0, .str (S t1) u1, .str (S t2) u2] kt) (viewParts (dd.take f) ++ none :: viewParts (dd.drop f)) (itemParts (dd.take f) ++ none :: itemParts (dd.drop f)) [] T' ((L + 4, o4') :: (L + 5, o5') :: (x5 ++ r5)) := by
    refine ⟨all_cons' (up71 4) (all_cons' (up71 5) fun p hp => ?_), (tab_keep keep5 hT').sub subw, ⟨o1, subw _ m15, hd1⟩, ⟨o4', .head _, hd4'⟩, ⟨o5', .tail _ (.head _), hd5'⟩, ⟨o6, c6, subw _ m65, hd6⟩, ⟨o7, c7, subw _ m75, hd7⟩, subw _ tx5, hva5.mono subw, ?_, fun p hp => nomatch hp⟩
    · rcases List.mem_append.mp hp with h | h
      · exact Ne.symm ((hx5 p h).2.2 _ (.tail _ (.head _)))
      · exact (hne p (cc1 p h)).2
    · refine parts_list (fun b its n h => ?_) hia
      rcases List.mem_append.mp h with h | h
      · exact .tail _ (.tail _ (List.mem_append.mpr (.inl h)))
      rcases List.mem_cons.mp h with h | h
      · exact h ▸ .head _
      rcases List.mem_cons.mp h with h | h
      · exfalso
        have := congrArg (fun p : Addr × Obj => p.2.data) h
        cases this
      · exact subw _ h
  refine width_for w mean mg mb (rst := (L + 4, o4') :: (L + 5, o5') :: (x5 ++ r5)) (tot := tot) (f := f) (y := y) (u0 := u0) (u1 := u1) (u2 := u2) (kt := kt) B F4 X Tp (cb_drop N4 ?_) Hw h71 hvl hil hl0 hl1 hl2 hv1 hi1 (fun W t h1 h2 h3 => view_cram h1 (Nat.le_trans hal h2) (Nat.le_trans hbl h3)) mt mf mm hg2 hE ?_
  · walk_at "m all"
  rintro m5 _ s5 ⟨⟨T5, rst5, rfl, H5⟩, f5, y5, os5, hg5⟩ F5 N5
  obtain ⟨hp5, g5, d5, tk5, os5'⟩ := s5
  show wpAny _ _ (execs _ _) _ _ _
  refine wpAny_execs_cons ?_
  k_steps
  show Q (.ret (.bool true)) _
  exact ret _ T5 rst5 F5.keep N5 H5.tab.tri (os5.trans hos2) hg5
theorem law_tail (w : World) (mean : ExcName → Option Value) (mg mb : Str → Option Value) {fa L : Addr} {cd : Value} {g : Heap} {m : Str → Option Value} {s : Shared} {Q : Flow → Shared → Prop} {E : Value → Shared → Prop}
    {o1 o2 o3 o4 o5 o6 o7 : Obj} {tl nl : Addr} {k kn : Nat} {u0 u1 u2 : Tok} {ns : List Nat} {ws : List Value} {c2 c3 c4 c5 c6 c7 : Option Value}
    (B : Below callerA g [] g) (F : Fr g L s.heap m) (X : Frag.In (hd.heap_39 w.params) g) (Tp : Top topProg LooseL mean mg mb g)
    (N : News g L s.heap [(L + 1, o1), (L + 2, o2), (L + 3, o3), (tl, listOf #[.str (S []) u0, .str (S []) u1, .str (S []) u2] k), (nl, listOf ws.toArray kn), (L + 4, o4), (L + 5, o5), (L + 6, o6), (L + 7, o7), (71, tabObj #[])])
    (hd1 : o1.data = .cell (some (.ref tl))) (hd2 : o2.data = .cell c2) (hd3 : o3.data = .cell c3) (hd4 : o4.data = .cell c4) (hd5 : o5.data = .cell c5) (hd6 : o6.data = .cell c6) (hd7 : o7.data = .cell c7)
    (h71 : @LT.lt Nat _ 71 L) (upn : ∀ i : Nat, i ≤ 7 → 0 < i → @Ne Nat nl (L + i)) (upt : ∀ i : Nat, i ≤ 7 → 0 < i → @Ne Nat tl (L + i)) (hn71 : @Ne Nat nl 71) (ht71 : @Ne Nat tl 71) (hnt : @Ne Nat nl tl)
    (hws : IntsAre ws ((ns ++ [89, 74, 10, 0]).map fun n => ((n : Nat) : Int))) (hns : ∀ n ∈ ns, n < 1000000000) (hln : ns.length ≤ 6) (mn : m "numbers" = some (.ref nl)) (hg : AllBare s.gens)
    (hE : PassesOwn (model PySem.Challenge.rw_ij0088_01.row.prog w) (callerA.deeper (envOfC (Str.ofString "law") (lawSc (_root_.Mine.hd.heap_39 w.params)) L fa cd)) (envOfC (Str.ofString "law") (lawSc (_root_.Mine.hd.heap_39 w.params)) L fa cd) E)
    (ret : ∀ s' T rst, (∀ b o, g.get? b = some o → s'.heap.get? b = some o) → News g L s'.heap ((71, tabObj T) :: rst) → TriplesOk T.toList → s'.os = s.os → AllBare s'.gens → Q (.ret (.bool true)) s') :
    wpAny (model PySem.Challenge.rw_ij0088_01.row.prog w) (callerA.deeper (envOfC (Str.ofString "law") (lawSc (_root_.Mine.hd.heap_39 w.params)) L fa cd)) (execs ((bodyAt (_root_.Mine.hd.heap_39 w.params) 107).drop 2) (envOfC (Str.ofString "law") (lawSc (_root_.Mine.hd.heap_39 w.params)) L fa cd)) Q E s := by
  k_fill
  generalize hst : (bodyAt (_root_.Mine.hd.heap_39 w.params) 107).drop 2 = st
  conv at hst => lhs; whnf
  subst hst
  obtain ⟨hp1, g1, d1, tk1, os1⟩ := s
  refine wpAny_execs_cons ?_
  obtain ⟨na, hna⟩ : ∃ na, na = ns ++ [89, 74, 10, 0] := ⟨_, rfl⟩
  have hna1 : ∀ n ∈ na, n < 1000000000 := by
    intro n hn
    rw [hna] at hn
    rcases List.mem_append.mp hn with h | h
    · exact hns n h
    · simp only [List.mem_cons, List.not_mem_nil, or_false] at h
      omega
  have hna2 : na.length ≤ 10 := by rw [hna, List.length_append]; show _ + 4 ≤ 10; omega
  have hna3 : 3 ≤ (textOfNums na 0).length := by rw [hna]; exact textOfNums_long ns
  have hnas : na.sum ≤ 100000000000 := by
    have h1 : ∀ l : List Nat, (∀ n ∈ l, n < 1000000000) → l.sum ≤ l.length * 1000000000 := by
      intro l
      induction l with
      | nil => intro _; simp
      | cons a r ih =>
        intro h
        have h2 := ih fun n hn => h n (.tail _ hn)
        have h3 := h a (.head _)
        simp only [List.sum_cons, List.length_cons]
        omega
    have := h1 na hna1
    omega
  have hlen : ∀ j, (textOfNums na j).length ≤ 100 := fun j => Nat.le_trans (textOfNums_len _ j) (by omega)
  rw [← hna] at hws
  have up : ∀ i j : Nat, i ≠ j → @Ne Nat (L + i) (L + j) := fun i j h e => h (Nat.add_left_cancel e)
  have up71 : ∀ i : Nat, @Ne Nat (L + i) 71 := fun i => Nat.ne_of_gt (Nat.lt_of_lt_of_le h71 (Nat.le_add_right L i))
  have off1 : ∀ i : Nat, i < 4 → 0 < i → ∀ p ∈ ([(nl, listOf ws.toArray kn), (L + 4, o4), (L + 5, o5), (L + 6, o6), (L + 7, o7), (71, tabObj #[])] : Led), p.1 ≠ L + i := fun i hi h0 => all_cons' (upn i (Nat.le_trans (Nat.le_of_lt hi) (by decide)) h0) (all_cons' (up 4 i (Nat.ne_of_gt hi)) (all_cons' (up 5 i (Nat.ne_of_gt (Nat.lt_trans hi (by decide)))) (all_cons' (up 6 i (Nat.ne_of_gt (Nat.lt_trans hi (by decide)))) (all_cons' (up 7 i (Nat.ne_of_gt (Nat.lt_trans hi (by decide)))) (all_cons' (Ne.symm (up71 i)) fun p hp => nomatch hp)))))
  refine law_for w mean mg mb (ns := na) (ws := ws) (nl := nl) (kn := kn) (u0 := u0) (u1 := u1) (u2 := u2) (k := k) B F X Tp N hd1 hd2 hd3 (off1 1 (by decide) (by decide)) (off1 2 (by decide) (by decide)) (off1 3 (by decide) (by decide)) ⟨upt 1 (by decide) (by decide), upt 2 (by decide) (by decide), upt 3 (by decide) (by decide)⟩ ?_ (.head _) hws hna1 (by omega) mn hg hE ?_
  · exact all_cons' hnt (all_cons' (Ne.symm (upt 4 (by decide) (by decide))) (all_cons' (Ne.symm (upt 5 (by decide) (by decide))) (all_cons' (Ne.symm (upt 6 (by decide) (by decide))) (all_cons' (Ne.symm (upt 7 (by decide) (by decide))) (all_cons' (Ne.symm ht71) fun p hp => nomatch hp)))))
  rintro m1 _ s1 ⟨⟨p1, p2, p3, c2', c3', tl', k', v0, v1, v2, rfl, q1, q2, q3, ht', hm'⟩, mn1, ho1, hg1⟩ F1 N1
  rw [List.take_length] at N1
  obtain ⟨hp2, g2, d2, tk2, os2⟩ := s1
  have F2 := fr_canon [("numbers", _)] F1 (all_cons mn1 all_nil)
  clear F N F1
  show wpAny _ _ (execs _ _) _ _ _
  refine wpAny_execs_cons ?_
  k_steps
  unfold Hold
  (rename Fr _ _ _ _ => F3)
  rw [sum_cast] at F3
  generalize htot : na.sum = tot at *
  have hf : ((tot : Int).fdiv 10).fmod 3 = ((tot / 10 % 3 : Nat) : Int) := by rw [Int.fdiv_eq_ediv_of_nonneg _ (by decide), Int.fmod_eq_emod_of_nonneg _ (by decide)]; rfl
  have hy : ((tot : Int).fdiv 30).fmod 4 = ((tot / 30 % 4 : Nat) : Int) := by rw [Int.fdiv_eq_ediv_of_nonneg _ (by decide), Int.fmod_eq_emod_of_nonneg _ (by decide)]; rfl
  refine wpAny_execs_cons ?_
  k_steps
  unfold Hold
  (rename Fr _ _ _ _ => F4)
  rw [hf, hy] at F4
  refine wpAny_execs_cons ?_
  k_steps
  unfold Hold
  (rename Fr _ _ _ _ => F5)
  (rename News _ _ _ _ => N5)
  (rename @LT.lt Nat _ _ _ ∧ @LT.lt Nat _ (L + 1) _ ∧ @LT.lt Nat _ (L + 2) _ ∧ _ => l6)
  obtain ⟨_, a1, a2, a3, at', an, a4, a5, a6, a7, a71⟩ := l6
  refine wpAny_execs_cons ?_
  obtain ⟨more, hmore⟩ : ∃ mo : Led, mo = [(L + 3, p3), (tl', listOf #[.str (S (textOfNums na 0)) v0, .str (S (textOfNums na 1)) v1, .str (S (textOfNums na 2)) v2] k'), (nl, listOf ws.toArray kn), (L + 4, o4), (L + 5, o5), (L + 6, o6), (L + 7, o7), (71, tabObj #[])] := ⟨_, rfl⟩
  have hmt : (tl', listOf #[.str (S (textOfNums na 0)) v0, .str (S (textOfNums na 1)) v1, .str (S (textOfNums na 2)) v2] k') ∈ more := by rw [hmore]; walk_at "m srch"
  have hm4 : (L + 4, o4) ∈ more := by rw [hmore]; walk_at "m srch"
  have hm5 : (L + 5, o5) ∈ more := by rw [hmore]; walk_at "m srch"
  have hm6 : (L + 6, o6) ∈ more := by rw [hmore]; walk_at "m srch"
  have hm7 : (L + 7, o7) ∈ more := by rw [hmore]; walk_at "m srch"
  have hm71 : (71, tabObj #[]) ∈ more := by rw [hmore]; walk_at "m srch"
  refine dress_for w mean mg mb (tot := tot) (f := tot / 10 % 3) (y := tot / 30 % 4) (t0 := textOfNums na 0) (u0 := v0) (u1 := v1) (u2 := v2) (kt := k') (k := 0) (more := more) B F5 X Tp (cb_drop N5 ?_) q1 q2 ?_ ?_ ?_ ⟨Nat.ne_of_gt a1, Nat.ne_of_gt a2⟩ hmt (hlen 0) hna3 (by omega) (by omega) hnas rfl rfl rfl rfl hg1 hE ?_
  · rw [hmore]
    walk_at "m all"
  · rw [hmore]
    exact all_cons' (up 3 1 (by decide)) (all_cons' ht'.1 (off1 1 (by decide) (by decide)))
  · rw [hmore]
    exact all_cons' (up 3 2 (by decide)) (all_cons' ht'.2.1 (off1 2 (by decide) (by decide)))
  · rw [hmore]
    exact all_cons' (Nat.ne_of_lt a3) (all_cons' (Nat.ne_of_lt at') (all_cons' (Nat.ne_of_lt an) (all_cons' (Nat.ne_of_lt a4) (all_cons' (Nat.ne_of_lt a5) (all_cons' (Nat.ne_of_lt a6) (all_cons' (Nat.ne_of_lt a7) (all_cons' (Nat.ne_of_lt a71) fun p hp => nomatch hp)))))))
  rintro m2 _ s2 ⟨⟨r2, c2'', kd, ds, xs, rfl, rd2, hds, hxs⟩, m2t, m2d, m2f, m2m, ho2, hg2⟩ F6 N6
  rw [List.take_length] at hds
  show wpAny _ _ (execs _ _) _ _ _
  refine law_tail2 w mean mg mb (f := tot / 10 % 3) (y := tot / 30 % 4) (tot := tot) (t0 := textOfNums na 0) (u0 := v0) (u1 := v1) (u2 := v2) (kt := k') (more := more) (xs := xs) (ds := ds) (kd := kd) B F6 X Tp N6 q1 rd2 hd4 hd5 hd6 hd7 hmt hm4 hm5 hm6 hm7 hm71 hxs ?_ hds (hlen 0) (hlen 1) (hlen 2) hna3 (by omega) (by omega) h71 m2t m2d m2f m2m hg2 hE ?_
  · rw [hmore]
    exact all_cons' (Nat.ne_of_lt a3) (all_cons' (Nat.ne_of_lt at') (all_cons' (Nat.ne_of_lt an) (all_cons' (Nat.ne_of_lt a4) (all_cons' (Nat.ne_of_lt a5) (all_cons' (Nat.ne_of_lt a6) (all_cons' (Nat.ne_of_lt a7) (all_cons' (Nat.ne_of_lt a71) fun p hp => nomatch hp)))))))
  · intro s' T rst K' N' hT os' hg'
    exact ret s' T rst K' N' hT (os'.trans (ho2.trans ho1)) hg'
/-- the same, from the ledger as the walk hands it on -/
theorem law_enter (w : World) (mean : ExcName → Option Value) (mg mb : Str → Option Value) {fa L : Addr} {cd : Value} {g : Heap} {m : Str → Option Value} {s : Shared} {Q : Flow → Shared → Prop} {E : Value → Shared → Prop}
    {o1 o2 o3 o4 o5 o6 o7 : Obj} {b1 b2 b3 b4 b5 b6 : Addr × Obj} {tl nl : Addr} {u0 u1 u2 : Tok} {ws : List Value} {script : List Int} {c2 c3 c4 c5 c6 c7 : Option Value}
    (B : Below callerA g [] g) (F : Fr g L s.heap m) (X : Frag.In (hd.heap_39 w.params) g) (Tp : Top topProg LooseL mean mg mb g)
    (N : News g L s.heap [(tl, listOf #[.str (Str.ofString "") u0, .str (Str.ofString "") u1, .str (Str.ofString "") u2] 0), (nl, listOf ws.toArray 0), b1, b2, b3, b4, b5, b6, (L + 7, o7), (L + 6, o6), (L + 5, o5), (L + 4, o4), (L + 3, o3), (L + 2, o2), (L + 1, o1), (71, tabObj #[])])
    (hd1 : o1.data = .cell (some (.ref tl))) (hd2 : o2.data = .cell c2) (hd3 : o3.data = .cell c3) (hd4 : o4.data = .cell c4) (hd5 : o5.data = .cell c5) (hd6 : o6.data = .cell c6) (hd7 : o7.data = .cell c7)
    (h71 : @LT.lt Nat _ 71 L) (hws : IntsAre ws (((script.take 6 ++ [9, 3, 0, 9, 1, 2]).take 6).map (fun a : Int => a.fmod (10 ^ Int.toNat 9)) ++ [89, 74, 10, 0])) (mn : m "numbers" = some (.ref nl)) (hg : AllBare s.gens)
    (hE : PassesOwn (model PySem.Challenge.rw_ij0088_01.row.prog w) (callerA.deeper (envOfC (Str.ofString "law") (lawSc (_root_.Mine.hd.heap_39 w.params)) L fa cd)) (envOfC (Str.ofString "law") (lawSc (_root_.Mine.hd.heap_39 w.params)) L fa cd) E)
    (ret : ∀ s' T rst, (∀ b o, g.get? b = some o → s'.heap.get? b = some o) → News g L s'.heap ((71, tabObj T) :: rst) → TriplesOk T.toList → s'.os = s.os → AllBare s'.gens → Q (.ret (.bool true)) s') :
    wpAny (model PySem.Challenge.rw_ij0088_01.row.prog w) (callerA.deeper (envOfC (Str.ofString "law") (lawSc (_root_.Mine.hd.heap_39 w.params)) L fa cd)) (execs ((bodyAt (_root_.Mine.hd.heap_39 w.params) 107).drop 2) (envOfC (Str.ofString "law") (lawSc (_root_.Mine.hd.heap_39 w.params)) L fa cd)) Q E s := by
  obtain ⟨xs, hxs⟩ : ∃ xs, xs = (script.take 6 ++ [9, 3, 0, 9, 1, 2]).take 6 := ⟨_, rfl⟩
  rw [← hxs] at hws
  have hxl : xs.length ≤ 6 := by rw [hxs, List.length_take]; omega
  have hp9 : (10 : Int) ^ Int.toNat 9 = 1000000000 := by decide
  have hcast : xs.map (fun a : Int => a.fmod (10 ^ Int.toNat 9)) ++ [89, 74, 10, 0] = ((xs.map fun a : Int => (a.fmod 1000000000).toNat) ++ [89, 74, 10, 0]).map fun n => ((n : Nat) : Int) := by
    rw [List.map_append, List.map_map, hp9]
    congr 1
    refine List.map_congr_left fun a _ => ?_
    show _ = (((a.fmod 1000000000).toNat : Nat) : Int)
    have := Int.fmod_nonneg_of_pos a (by decide : (0 : Int) < 1000000000)
    omega
  rw [hcast] at hws
  have ht := N _ (.head _)
  have hn := N _ (.tail _ (.head _))
  have cell : ∀ (k : Addr) (o : Obj) (c : Option Value), (k, o) ∈ ([(tl, listOf #[.str (Str.ofString "") u0, .str (Str.ofString "") u1, .str (Str.ofString "") u2] 0), (nl, listOf ws.toArray 0), b1, b2, b3, b4, b5, b6, (L + 7, o7), (L + 6, o6), (L + 5, o5), (L + 4, o4), (L + 3, o3), (L + 2, o2), (L + 1, o1), (71, tabObj #[])] : Led) → o.data = .cell c → @Ne Nat tl k ∧ @Ne Nat nl k := fun k o c hm hc =>
    ⟨ne_data N hm hc _ (.head _) (fun x h => by cases h), ne_data N hm hc _ (.tail _ (.head _)) (fun x h => by cases h)⟩
  have cells : ∀ i : Nat, i ≤ 7 → 0 < i → @Ne Nat tl (L + i) ∧ @Ne Nat nl (L + i) := by
    intro i hi h0
    rcases in7 i (Nat.lt_succ_of_le hi) h0 with rfl | rfl | rfl | rfl | rfl | rfl | rfl
    · exact cell _ o1 _ (by walk_at "m srch") hd1
    · exact cell _ o2 _ (by walk_at "m srch") hd2
    · exact cell _ o3 _ (by walk_at "m srch") hd3
    · exact cell _ o4 _ (by walk_at "m srch") hd4
    · exact cell _ o5 _ (by walk_at "m srch") hd5
    · exact cell _ o6 _ (by walk_at "m srch") hd6
    · exact cell _ o7 _ (by walk_at "m srch") hd7
  have h71n := N (71, tabObj #[]) (by walk_at "m srch")
  have not71 : ∀ (k : Addr) (its : Array Value), s.heap.get? k = some (listOf its 0) → @Ne Nat k 71 := fun k its h e => by
    have e' : k = 71 := e
    rw [e', h71n.1] at h
    have := congrArg (fun o : Option Obj => o.map (·.cls)) h
    simp [PySem.W.listOf] at this
  have hnt : @Ne Nat nl tl := fun e => by
    have e' : nl = tl := e
    have h1 := hn.1
    rw [e', ht.1] at h1
    have h2 : #[Value.str (Str.ofString "") u0, .str (Str.ofString "") u1, .str (Str.ofString "") u2] = ws.toArray := by
      have := Option.some.inj h1
      injection this with _ _ h3 _
      injection h3
    have h3 : ws = [Value.str (Str.ofString "") u0, .str (Str.ofString "") u1, .str (Str.ofString "") u2] := by
      have := congrArg Array.toList h2
      simpa using this.symm
    rw [h3] at hws
    cases hz : ((xs.map fun a : Int => (a.fmod 1000000000).toNat) ++ [89, 74, 10, 0]).map fun n => ((n : Nat) : Int) with
    | nil => rw [hz] at hws; cases hws
    | cons a r => rw [hz] at hws; cases hws
  refine law_tail w mean mg mb (u0 := u0) (u1 := u1) (u2 := u2) (k := 0) (kn := 0) (nl := nl) (ws := ws) (ns := xs.map fun a : Int => (a.fmod 1000000000).toNat) B F X Tp ?_ hd1 hd2 hd3 hd4 hd5 hd6 hd7 h71 (fun i h h0 => (cells i h h0).2) (fun i h h0 => (cells i h h0).1) (not71 _ _ hn.1) (not71 _ _ ht.1) hnt hws ?_ ?_ mn hg hE ret
  · rw [l_nil] at N
    refine cb_drop N ?_
    walk_at "m all"
  · intro n hn
    obtain ⟨a, _, rfl⟩ := List.mem_map.mp hn
    have h1 := Int.fmod_nonneg_of_pos a (by decide : (0 : Int) < 1000000000)
    have h2 := Int.fmod_lt_of_pos a (by decide : (0 : Int) < 1000000000)
    omega
  · rw [List.length_map]
    exact hxl

end Mine
end
section
theorem Mine.begin_Lw : True := by
  w_top off
  k_with_none
  k_with "omega" => (first | with_reducible assumption | with_reducible exact Nat.le_trans (by assumption) (Nat.le_of_ble_eq_true rfl) | with_reducible exact Nat.le_refl _ | with_reducible exact Nat.ne_of_gt (by assumption) | with_reducible exact Nat.ne_of_lt (by assumption) | with_reducible exact Ne.symm (by assumption) | with_reducible exact Int.ofNat_lt.mpr (by assumption) | with_reducible exact Nat.lt_of_le_of_lt (Nat.le_add_right _ _) (by assumption))
  trivial
namespace Mine
theorem rules_Lw_1 : True := by
  k_with "execs cons" => (((with_reducible show wpAny _ _ (execs (Stmt.For _ _ _ _ _ :: _) _) _ _ _); refine Hold.of ?_))
  k_with "m list" => ((refine News.isList (N := by k_asm) (hm := by repeat (first | assumption | exact List.Mem.head _ | refine List.mem_cons_of_mem _ ?_))))
  k_with "eval Subscript" => ((refine Subscript_N2 ?_))
  trivial
/-- what the law's walk has to show at its end: it came back with True, what was there is as it was but for the code tables, which have grown, and no generator is open -/
structure TrueEnd (tabs : List (Addr × Addr)) (s₁ : Shared) (r : Result) (s' : Shared) : Prop where
  res : r = .ok (.ret (.bool true))
  keep : ∀ b o, (ghostOf s₁.heap tabs).get? b = some o → s'.heap.get? b = some o
  os : s'.os = s₁.os
  gens : AllBare s'.gens
  grown : GrownAll tabs s'.heap
theorem true_end {M : Model} {A : Around} {cd : Code} {s s₁ : Shared} {cw : ClaimW} {cl : Str → Option Addr} {mean : ExcName → Option Value} {args : List WData} {tabs : List (Addr × Addr)} (hT : TabsAt tabs s₁.heap) (hr : ∀ a x, cw.raises a x = false) (hp : cw.post args (.bool true) args = true)
    (h : codeAny M A cd (TrueEnd tabs s₁) s) : codeAny M A cd (GoodWG cw cl mean args s₁) s := by
  refine codeAny_mono h fun r s' H => ?_
  have split : ∀ b o, s₁.heap.get? b = some o → s'.heap.get? b = some o ∨ ∃ q ∈ tabs, q.2 = b := fun b o e => by
    by_cases hb : b ∈ tabs.map (·.2)
    · exact .inr (let ⟨q, hq, e2⟩ := List.mem_map.mp hb; ⟨q, hq, e2⟩)
    · exact .inl (H.keep b o (ghost_ne e hb))
  refine ⟨.inl ⟨.bool true, .bool true, [], H.res, fun c => hr args c, .bool true, hp, fun _ => ⟨List.nodup_nil, fun _ ha => nomatch ha⟩⟩, ⟨fun b o e => ?_, fun b o e => ?_⟩, H.os, H.gens⟩
  · rcases split b o e with k | ⟨q, hq, rfl⟩
    · exact .inl k
    · obtain ⟨hc, h0⟩ := hT q hq
      obtain ⟨ps, hps⟩ := H.grown.get q hq
      have eo : o = tabObj #[] := by rw [e] at h0; exact Option.some.inj h0
      subst eo
      exact .inr (.inl ⟨(hc.tab h0).isCodeTable, rfl, #[], ps, rfl, by rw [Array.empty_append]; exact hps⟩)
  · rcases split b o e with k | ⟨q, hq, rfl⟩
    · exact ⟨o, k⟩
    · exact ⟨_, (H.grown.get q hq).choose_spec⟩
local macro_rules | `(tactic| walk_at "law go") => `(tactic| (
  k_fill
  intro w s₀ s₁ mg mb G Y fa o pm cd doc dV kV ho hd hcd hD hmg hg args vals as hpre hlay hrd hwl hlo
  have KX := km_in_of Y
  km_tabs Y
  have X := (Ground.X G).1
  have V := (Ground.X G).2
  refine Ground.open G ?_
  intro T B D TE TW
  try (refine guard_noD D (by decide +kernel) ?_; clear D)
  km_lay T hmg ho hd cd
  clear hmg
  wrow_args hpre hlay hrd hwl hlo
  all_goals (
    refine enter_call ?_
    w_top on
    refine true_end (by assumption) (fun _ _ => rfl) (by first | rfl | wrow_post) ?_
    w_call any ho hd hcd hD T F
    clear hd
    kn_ghosts F T
    k_drop
    skip)))
theorem said_ok : OpenLaw.wellSaid PySem.Challenge.rw_ij0088_01 = true := by kernel_rfl
theorem law_try : PySem.Challenge.rw_ij0088_01.Holds := by
  w_on
  refine holds_law said_ok fun said => ?_
  refine PySem.W.holds_open (r := PySem.Challenge.rw_ij0088_01.row) (q := hd.view_39) (loose := [Str.ofString "_twin_re_1", Str.ofString "_special_chars_map"]) (Xt := fun s => xlAt hd.view_39 [] s && recOk (RowW.records PySem.Challenge.rw_ij0088_01.row.toRowW) s) (XP := XL hd.view_39 [])
    (Yf := Hook.obs (kmHook hd.heap_39 ((nat_lit 2) :: (nat_lit 3) :: (nat_lit 6) :: (nat_lit 11) :: (nat_lit 12) :: (nat_lit 32) :: (nat_lit 34) :: (nat_lit 35) :: (nat_lit 37) :: (nat_lit 38) :: (nat_lit 39) :: (nat_lit 41) :: (nat_lit 42) :: (nat_lit 44) :: (nat_lit 45) :: (nat_lit 49) :: (nat_lit 50) :: (nat_lit 51) :: (nat_lit 53) :: (nat_lit 54) :: (nat_lit 56) :: (nat_lit 57) :: (nat_lit 59) :: (nat_lit 63) :: (nat_lit 65) :: (nat_lit 66) :: (nat_lit 68) :: (nat_lit 69) :: (nat_lit 70) :: (nat_lit 72) :: (nat_lit 73) :: (nat_lit 75) :: (nat_lit 76) :: (nat_lit 77) :: (nat_lit 79) :: (nat_lit 80) :: (nat_lit 82) :: (nat_lit 83) :: (nat_lit 84) :: (nat_lit 86) :: (nat_lit 87) :: (nat_lit 89) :: (nat_lit 90) :: (nat_lit 91) :: (nat_lit 93) :: (nat_lit 94) :: (nat_lit 96) :: (nat_lit 97) :: (nat_lit 98) :: (nat_lit 101) :: (nat_lit 102) :: (nat_lit 103) :: (nat_lit 106) :: (nat_lit 107) :: []) (fun _ => by kernel_rfl) [71])) (Ya := Hook.val (kmHook hd.heap_39 ((nat_lit 2) :: (nat_lit 3) :: (nat_lit 6) :: (nat_lit 11) :: (nat_lit 12) :: (nat_lit 32) :: (nat_lit 34) :: (nat_lit 35) :: (nat_lit 37) :: (nat_lit 38) :: (nat_lit 39) :: (nat_lit 41) :: (nat_lit 42) :: (nat_lit 44) :: (nat_lit 45) :: (nat_lit 49) :: (nat_lit 50) :: (nat_lit 51) :: (nat_lit 53) :: (nat_lit 54) :: (nat_lit 56) :: (nat_lit 57) :: (nat_lit 59) :: (nat_lit 63) :: (nat_lit 65) :: (nat_lit 66) :: (nat_lit 68) :: (nat_lit 69) :: (nat_lit 70) :: (nat_lit 72) :: (nat_lit 73) :: (nat_lit 75) :: (nat_lit 76) :: (nat_lit 77) :: (nat_lit 79) :: (nat_lit 80) :: (nat_lit 82) :: (nat_lit 83) :: (nat_lit 84) :: (nat_lit 86) :: (nat_lit 87) :: (nat_lit 89) :: (nat_lit 90) :: (nat_lit 91) :: (nat_lit 93) :: (nat_lit 94) :: (nat_lit 96) :: (nat_lit 97) :: (nat_lit 98) :: (nat_lit 101) :: (nat_lit 102) :: (nat_lit 103) :: (nat_lit 106) :: (nat_lit 107) :: []) (fun _ => by kernel_rfl) [71])) (YP := Hook.says (kmHook hd.heap_39 ((nat_lit 2) :: (nat_lit 3) :: (nat_lit 6) :: (nat_lit 11) :: (nat_lit 12) :: (nat_lit 32) :: (nat_lit 34) :: (nat_lit 35) :: (nat_lit 37) :: (nat_lit 38) :: (nat_lit 39) :: (nat_lit 41) :: (nat_lit 42) :: (nat_lit 44) :: (nat_lit 45) :: (nat_lit 49) :: (nat_lit 50) :: (nat_lit 51) :: (nat_lit 53) :: (nat_lit 54) :: (nat_lit 56) :: (nat_lit 57) :: (nat_lit 59) :: (nat_lit 63) :: (nat_lit 65) :: (nat_lit 66) :: (nat_lit 68) :: (nat_lit 69) :: (nat_lit 70) :: (nat_lit 72) :: (nat_lit 73) :: (nat_lit 75) :: (nat_lit 76) :: (nat_lit 77) :: (nat_lit 79) :: (nat_lit 80) :: (nat_lit 82) :: (nat_lit 83) :: (nat_lit 84) :: (nat_lit 86) :: (nat_lit 87) :: (nat_lit 89) :: (nat_lit 90) :: (nat_lit 91) :: (nat_lit 93) :: (nat_lit 94) :: (nat_lit 96) :: (nat_lit 97) :: (nat_lit 98) :: (nat_lit 101) :: (nat_lit 102) :: (nat_lit 103) :: (nat_lit 106) :: (nat_lit 107) :: []) (fun _ => by kernel_rfl) [71])) (N := 3508) hd_left (Hook.of _) (Hook.keeps _) (fun s e => xl_of s (Bool.and_eq_true_iff.mp e).1) XL.keeps (by rfl) (by rfl) (by rfl)
    (fun s e => recFacts_of (Bool.and_eq_true_iff.mp e).2) (by rfl) (by first | assumption | decide +kernel) (by decide +kernel) ⟨rfl, rfl, rfl, rfl, rfl, by decide +kernel⟩ ?hw ?hc
  case hw => w_witness2
  case hc =>
    walk_at "law go"
    (try k_fold)
    k_steps
    unfold Hold
    (rename Fr _ _ _ _ => F1)
    (rename News _ _ _ _ => N1)
    (rename IntsAre _ _ => hns)
    refine law_enter _ _ _ _ (by assumption) F1 (by assumption) (by assumption) N1 (by assumption) (by assumption) (by assumption) (by assumption) (by assumption) (by assumption) (by assumption) (by assumption) hns rfl (AllBare.of_eq (by assumption)) (by passes_own) ?_
    intro s' T rst K9 N9 hT9' hos hg9
    exact ⟨rfl, K9, hos, hg9, ⟨⟨T, (N9 _ (.head _)).1⟩, trivial⟩⟩

end Mine
end
theorem PySem.Challenge.cw_ij0088_01_holds : PySem.Challenge.rw_ij0088_01.Holds := by
  exact Mine.law_try
