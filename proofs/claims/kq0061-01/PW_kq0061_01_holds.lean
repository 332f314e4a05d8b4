import PyProof.Rows.All
import Wide.All
import OpenK.AllK
import Wide.FinOn
import Lean
import PySem.Challenge.RW_kq0061_01
set_option Elab.async false
section
open PySem PySem.W PyProof.Rows
set_option maxRecDepth 100000
set_option maxHeartbeats 0
namespace Mine
noncomputable abbrev rw0 : OpenLaw := PySem.Challenge.rw_kq0061_01
noncomputable abbrev pw : Program := PySem.Challenge.pw_kq0061_01
noncomputable def fobj (i : Nat) (dV kV pm cd : Value) : Obj := match pw.main.body[i]? with
  | some (.FunctionDef n ps b _ _ _ sc _ _ _) => ⟨.type "function", none, .func { name := n, qualname := n, params := ps, body := .stmts b, scope := sc, globals := mainGlobals, closure := [], defaults := dV, kwdefaults := kV, doc := .none, pyModule := pm, annotations := none, code := cd, closureTuple := .none, builtins := builtinsNs }, #[]⟩
  | _ => default
noncomputable def asK : List Addr := (nat_lit 2) :: (nat_lit 3) :: (nat_lit 32) :: (nat_lit 34) :: (nat_lit 35) :: (nat_lit 37) :: (nat_lit 38) :: (nat_lit 42) :: (nat_lit 43) :: (nat_lit 44) :: (nat_lit 46) :: (nat_lit 47) :: (nat_lit 49) :: (nat_lit 50) :: (nat_lit 52) :: (nat_lit 56) :: (nat_lit 58) :: (nat_lit 59) :: (nat_lit 61) :: (nat_lit 62) :: (nat_lit 63) :: (nat_lit 65) :: (nat_lit 66) :: (nat_lit 68) :: (nat_lit 69) :: (nat_lit 70) :: (nat_lit 72) :: (nat_lit 73) :: (nat_lit 75) :: (nat_lit 76) :: (nat_lit 77) :: (nat_lit 78) :: (nat_lit 80) :: (nat_lit 81) :: (nat_lit 83) :: (nat_lit 84) :: (nat_lit 85) :: (nat_lit 92) :: (nat_lit 93) :: (nat_lit 94) :: (nat_lit 95) :: (nat_lit 98) :: (nat_lit 100) :: (nat_lit 101) :: (nat_lit 103) :: (nat_lit 104) :: (nat_lit 105) :: (nat_lit 107) :: (nat_lit 108) :: (nat_lit 110) :: (nat_lit 111) :: (nat_lit 112) :: (nat_lit 114) :: (nat_lit 115) :: (nat_lit 117) :: (nat_lit 118) :: (nat_lit 119) :: (nat_lit 120) :: (nat_lit 122) :: (nat_lit 123) :: (nat_lit 125) :: (nat_lit 126) :: (nat_lit 127) :: (nat_lit 128) :: (nat_lit 130) :: (nat_lit 131) :: (nat_lit 133) :: (nat_lit 134) :: (nat_lit 138) :: (nat_lit 139) :: (nat_lit 143) :: (nat_lit 144) :: (nat_lit 145) :: (nat_lit 147) :: (nat_lit 148) :: (nat_lit 150) :: (nat_lit 151) :: (nat_lit 152) :: (nat_lit 154) :: (nat_lit 155) :: (nat_lit 157) :: (nat_lit 158) :: (nat_lit 159) :: (nat_lit 161) :: (nat_lit 162) :: (nat_lit 164) :: (nat_lit 165) :: (nat_lit 166) :: (nat_lit 169) :: (nat_lit 170) :: (nat_lit 171) :: (nat_lit 173) :: (nat_lit 174) :: (nat_lit 176) :: (nat_lit 177) :: (nat_lit 178) :: (nat_lit 181) :: (nat_lit 182) :: (nat_lit 183) :: (nat_lit 186) :: (nat_lit 187) :: []
noncomputable def K (P : Params) : Frag :=
  ((nat_lit 2), ⟨.none, none, (.dict #[⟨PyData.keyHash P (Str.ofString "\x69mport.loaded._sre"), (.str (Str.ofString "\x69mport.loaded._sre") (nat_lit 183)), (.bool true)⟩, ⟨PyData.keyHash P (Str.ofString "class._frozen_importlib.BuiltinImporter"), (.str (Str.ofString "class._frozen_importlib.BuiltinImporter") (nat_lit 185)), (.ref (nat_lit 14))⟩, ⟨PyData.keyHash P (Str.ofString "watched.\x69mport"), (.str (Str.ofString "watched.\x69mport") (nat_lit 206)), (.ref (nat_lit 18))⟩, ⟨PyData.keyHash P (Str.ofString "class._frozen_importlib.ModuleSpec"), (.str (Str.ofString "class._frozen_importlib.ModuleSpec") (nat_lit 216)), (.ref (nat_lit 22))⟩, ⟨PyData.keyHash P (Str.ofString "sys.modules.booked-epoch"), (.str (Str.ofString "sys.modules.booked-epoch") (nat_lit 245)), (.int 3 (nat_lit 0))⟩, ⟨PyData.keyHash P (Str.ofString "\x69mport.later-laid._sre"), (.str (Str.ofString "\x69mport.later-laid._sre") (nat_lit 270)), (.bool true)⟩, ⟨PyData.keyHash P (Str.ofString "watched.library"), (.str (Str.ofString "watched.library") (nat_lit 272)), (.ref (nat_lit 27))⟩, ⟨PyData.keyHash P (Str.ofString "watched.library-objects"), (.str (Str.ofString "watched.library-objects") (nat_lit 0)), (.str (Str.ofString "\x0c") (nat_lit 0))⟩, ⟨PyData.keyHash P (Str.ofString "watched.library-deep._sre"), (.str (Str.ofString "watched.library-deep._sre") (nat_lit 273)), (.str (Str.ofString "\x04\x00\x00\x0b\x04\x00\x00\x0b\x04\x00\x00\x03\x04\x00\x00\x0b\x08\x04dict\x02") (nat_lit 0))⟩] 9), #[]⟩) ::
  ((nat_lit 3), ⟨(.type "dict"), none, (.dict #[⟨PyData.keyHash P (Str.ofString "__name__"), (.str (Str.ofString "__name__") (nat_lit 165)), (.str (Str.ofString "law_kq0061_01") (nat_lit 676))⟩, ⟨PyData.keyHash P (Str.ofString "__doc__"), (.str (Str.ofString "__doc__") (nat_lit 166)), .none⟩, ⟨PyData.keyHash P (Str.ofString "__package__"), (.str (Str.ofString "__package__") (nat_lit 167)), .none⟩, ⟨PyData.keyHash P (Str.ofString "__loader__"), (.str (Str.ofString "__loader__") (nat_lit 168)), (.builtin "__main__.__loader__#opaque")⟩, ⟨PyData.keyHash P (Str.ofString "__spec__"), (.str (Str.ofString "__spec__") (nat_lit 169)), .none⟩, ⟨PyData.keyHash P (Str.ofString "__annotations__"), (.str (Str.ofString "__annotations__") (nat_lit 170)), (.ref (nat_lit 6))⟩, ⟨PyData.keyHash P (Str.ofString "__builtins__"), (.str (Str.ofString "__builtins__") (nat_lit 171)), (.ref (nat_lit 4))⟩, ⟨PyData.keyHash P (Str.ofString "__file__"), (.str (Str.ofString "__file__") (nat_lit 173)), (.str (Str.ofString "/claim/cut.py") (nat_lit 172))⟩, ⟨PyData.keyHash P (Str.ofString "__cached__"), (.str (Str.ofString "__cached__") (nat_lit 174)), .none⟩, ⟨PyData.keyHash P (Str.ofString "_sre"), (.str (Str.ofString "_sre") (nat_lit 275)), (.ref (nat_lit 12))⟩, ⟨PyData.keyHash P (Str.ofString "_wall"), (.str (Str.ofString "_wall") (nat_lit 288)), (.ref (nat_lit 38))⟩, ⟨PyData.keyHash P (Str.ofString "twin_re_1_fnmatch"), (.str (Str.ofString "twin_re_1_fnmatch") (nat_lit 328)), (.ref (nat_lit 43))⟩, ⟨PyData.keyHash P (Str.ofString "translate"), (.str (Str.ofString "translate") (nat_lit 337)), (.ref (nat_lit 50))⟩, ⟨PyData.keyHash P (Str.ofString "_special_chars_map"), (.str (Str.ofString "_special_chars_map") (nat_lit 485)), (.ref (nat_lit 52))⟩, ⟨PyData.keyHash P (Str.ofString "escape"), (.str (Str.ofString "escape") (nat_lit 492)), (.ref (nat_lit 62))⟩, ⟨PyData.keyHash P (Str.ofString "_translate"), (.str (Str.ofString "_translate") (nat_lit 513)), (.ref (nat_lit 69))⟩, ⟨PyData.keyHash P (Str.ofString "_join_translated_parts"), (.str (Str.ofString "_join_translated_parts") (nat_lit 526)), (.ref (nat_lit 76))⟩, ⟨PyData.keyHash P (Str.ofString "bytes_types"), (.str (Str.ofString "bytes_types") (nat_lit 529)), (.ref (nat_lit 77))⟩, ⟨PyData.keyHash P (Str.ofString "_bytes_from_decode_data"), (.str (Str.ofString "_bytes_from_decode_data") (nat_lit 536)), (.ref (nat_lit 84))⟩, ⟨PyData.keyHash P (Str.ofString "Error"), (.str (Str.ofString "Error") (nat_lit 556)), (.ref (nat_lit 94))⟩, ⟨PyData.keyHash P (Str.ofString "_ascii_buffer"), (.str (Str.ofString "_ascii_buffer") (nat_lit 564)), (.ref (nat_lit 104))⟩, ⟨PyData.keyHash P (Str.ofString "_truth"), (.str (Str.ofString "_truth") (nat_lit 572)), (.ref (nat_lit 111))⟩, ⟨PyData.keyHash P (Str.ofString "_b64_value"), (.str (Str.ofString "_b64_value") (nat_lit 579)), (.ref (nat_lit 118))⟩, ⟨PyData.keyHash P (Str.ofString "a2b_base64"), (.str (Str.ofString "a2b_base64") (nat_lit 595)), (.ref (nat_lit 126))⟩, ⟨PyData.keyHash P (Str.ofString "b64decode"), (.str (Str.ofString "b64decode") (nat_lit 606)), (.ref (nat_lit 134))⟩, ⟨PyData.keyHash P (Str.ofString "twin_re_1_smtplib"), (.str (Str.ofString "twin_re_1_smtplib") (nat_lit 624)), (.ref (nat_lit 139))⟩, ⟨PyData.keyHash P (Str.ofString "_twin_re_2"), (.str (Str.ofString "_twin_re_2") (nat_lit 666)), (.ref (nat_lit 144))⟩, ⟨PyData.keyHash P (Str.ofString "CRLF"), (.str (Str.ofString "CRLF") (nat_lit 668)), (.str (Str.ofString "\r\n") (nat_lit 667))⟩, ⟨PyData.keyHash P (Str.ofString "quotedata"), (.str (Str.ofString "quotedata") (nat_lit 675)), (.ref (nat_lit 151))⟩, ⟨PyData.keyHash P (Str.ofString "_law_signs"), (.str (Str.ofString "_law_signs") (nat_lit 683)), (.ref (nat_lit 158))⟩, ⟨PyData.keyHash P (Str.ofString "_law_sign"), (.str (Str.ofString "_law_sign") (nat_lit 691)), (.ref (nat_lit 165))⟩, ⟨PyData.keyHash P (Str.ofString "_law_behind"), (.str (Str.ofString "_law_behind") (nat_lit 697)), (.ref (nat_lit 170))⟩, ⟨PyData.keyHash P (Str.ofString "_law_parts"), (.str (Str.ofString "_law_parts") (nat_lit 710)), (.ref (nat_lit 177))⟩, ⟨PyData.keyHash P (Str.ofString "_law_number"), (.str (Str.ofString "_law_number") (nat_lit 716)), (.ref (nat_lit 182))⟩, ⟨PyData.keyHash P (Str.ofString "law"), (.str (Str.ofString "law") (nat_lit 722)), (.ref (nat_lit 187))⟩] 35), #[]⟩) ::
  ((nat_lit 32), ⟨(.type "tuple"), none, (.seq #[] 0), #[]⟩) ::
  ((nat_lit 34), ⟨(.type "tuple"), none, (.seq #[(.str (Str.ofString "k") (nat_lit 285))] 0), #[]⟩) ::
  ((nat_lit 35), ⟨(.type "tuple"), none, (.seq #[] 0), #[]⟩) ::
  ((nat_lit 37), ⟨(.type "code"), none, (.fields #[(.str (Str.ofString "_wall") (nat_lit 282)), (.str (Str.ofString "_wall") (nat_lit 283)), (.str (Str.ofString "/claim/cut.py") (nat_lit 284)), (.int 2 (nat_lit 0)), (.int 1 (nat_lit 0)), (.int 0 (nat_lit 0)), (.int 0 (nat_lit 0)), (.int 3 (nat_lit 0)), (.ref (nat_lit 32)), (.bool true), (.int 276 (nat_lit 0)), (.ref (nat_lit 33)), .none, (.ref (nat_lit 34)), (.ref (nat_lit 35)), (.ref (nat_lit 36)), (.int 286 (nat_lit 0)), (.int 2 (nat_lit 0)), (.str (Str.ofString "/claim/cut.py") (nat_lit 287))]), #[]⟩) ::
  ((nat_lit 38), fobj 1 .none .none (.str (Str.ofString "__main__") (nat_lit 164)) (.ref (nat_lit 37))) ::
  ((nat_lit 42), ⟨(.type "tuple"), none, (.seq #[(.int 14 (nat_lit 0)), (.int 14 (nat_lit 0)), (.int 4 (nat_lit 0)), (.int 1 (nat_lit 0)), (.int 1 (nat_lit 0)), (.int 9 (nat_lit 0)), (.int 0 (nat_lit 0)), (.int 64 (nat_lit 0)), (.int 0 (nat_lit 0)), (.int 1342177280 (nat_lit 0)), (.int 0 (nat_lit 0)), (.int 0 (nat_lit 0)), (.int 0 (nat_lit 0)), (.int 0 (nat_lit 0)), (.int 0 (nat_lit 0)), (.int 17 (nat_lit 0)), (.int 0 (nat_lit 0)), (.int 13 (nat_lit 0)), (.int 11 (nat_lit 0)), (.int 9 (nat_lit 0)), (.int 0 (nat_lit 0)), (.int 64 (nat_lit 0)), (.int 0 (nat_lit 0)), (.int 1342177280 (nat_lit 0)), (.int 0 (nat_lit 0)), (.int 0 (nat_lit 0)), (.int 0 (nat_lit 0)), (.int 0 (nat_lit 0)), (.int 0 (nat_lit 0)), (.int 17 (nat_lit 0)), (.int 1 (nat_lit 0)), (.int 1 (nat_lit 0))] 0), #[]⟩) ::
  ((nat_lit 43), ⟨(.type "re.Pattern"), none, (.fields #[(.str (Str.ofString "([&~|])") (nat_lit 292)), (.int 32 (nat_lit 327)), (.int 1 (nat_lit 0)), .none, .none, (.ref (nat_lit 42)), (.int 0 (nat_lit 0))]), #[]⟩) ::
  ((nat_lit 44), ⟨(.type "tuple"), none, (.seq #[] 0), #[]⟩) ::
  ((nat_lit 46), ⟨(.type "tuple"), none, (.seq #[(.str (Str.ofString "pat") (nat_lit 332)), (.str (Str.ofString "STAR") (nat_lit 333)), (.str (Str.ofString "parts") (nat_lit 334))] 0), #[]⟩) ::
  ((nat_lit 47), ⟨(.type "tuple"), none, (.seq #[] 0), #[]⟩) ::
  ((nat_lit 49), ⟨(.type "code"), none, (.fields #[(.str (Str.ofString "translate") (nat_lit 329)), (.str (Str.ofString "translate") (nat_lit 330)), (.str (Str.ofString "/claim/cut.py") (nat_lit 331)), (.int 7 (nat_lit 0)), (.int 1 (nat_lit 0)), (.int 0 (nat_lit 0)), (.int 0 (nat_lit 0)), (.int 3 (nat_lit 0)), (.ref (nat_lit 44)), (.bool true), (.int 276 (nat_lit 0)), (.ref (nat_lit 45)), .none, (.ref (nat_lit 46)), (.ref (nat_lit 47)), (.ref (nat_lit 48)), (.int 335 (nat_lit 0)), (.int 7 (nat_lit 0)), (.str (Str.ofString "/claim/cut.py") (nat_lit 336))]), #[]⟩) ::
  ((nat_lit 50), fobj 4 .none .none (.str (Str.ofString "cpy313.fnmatch") (nat_lit 289)) (.ref (nat_lit 49))) ::
  ((nat_lit 52), ⟨(.type "dict"), none, (.dict #[⟨40, (.int 40 (nat_lit 341)), (.str (Str.ofString "\\(") (nat_lit 345))⟩, ⟨41, (.int 41 (nat_lit 347)), (.str (Str.ofString "\\)") (nat_lit 351))⟩, ⟨91, (.int 91 (nat_lit 353)), (.str (Str.ofString "\\[") (nat_lit 357))⟩, ⟨93, (.int 93 (nat_lit 359)), (.str (Str.ofString "\\]") (nat_lit 363))⟩, ⟨123, (.int 123 (nat_lit 365)), (.str (Str.ofString "\\{") (nat_lit 369))⟩, ⟨125, (.int 125 (nat_lit 371)), (.str (Str.ofString "\\}") (nat_lit 375))⟩, ⟨63, (.int 63 (nat_lit 377)), (.str (Str.ofString "\\?") (nat_lit 381))⟩, ⟨42, (.int 42 (nat_lit 383)), (.str (Str.ofString "\\*") (nat_lit 387))⟩, ⟨43, (.int 43 (nat_lit 389)), (.str (Str.ofString "\\+") (nat_lit 393))⟩, ⟨45, (.int 45 (nat_lit 395)), (.str (Str.ofString "\\-") (nat_lit 399))⟩, ⟨124, (.int 124 (nat_lit 401)), (.str (Str.ofString "\\|") (nat_lit 405))⟩, ⟨94, (.int 94 (nat_lit 407)), (.str (Str.ofString "\\^") (nat_lit 411))⟩, ⟨36, (.int 36 (nat_lit 413)), (.str (Str.ofString "\\$") (nat_lit 417))⟩, ⟨92, (.int 92 (nat_lit 419)), (.str (Str.ofString "\\\\") (nat_lit 423))⟩, ⟨46, (.int 46 (nat_lit 425)), (.str (Str.ofString "\\.") (nat_lit 429))⟩, ⟨38, (.int 38 (nat_lit 431)), (.str (Str.ofString "\\&") (nat_lit 435))⟩, ⟨126, (.int 126 (nat_lit 437)), (.str (Str.ofString "\\~") (nat_lit 441))⟩, ⟨35, (.int 35 (nat_lit 443)), (.str (Str.ofString "\\#") (nat_lit 447))⟩, ⟨32, (.int 32 (nat_lit 449)), (.str (Str.ofString "\\ ") (nat_lit 453))⟩, ⟨9, (.int 9 (nat_lit 455)), (.str (Str.ofString "\\\t") (nat_lit 459))⟩, ⟨10, (.int 10 (nat_lit 461)), (.str (Str.ofString "\\\n") (nat_lit 465))⟩, ⟨13, (.int 13 (nat_lit 467)), (.str (Str.ofString "\\\r") (nat_lit 471))⟩, ⟨11, (.int 11 (nat_lit 473)), (.str (Str.ofString "\\\x0b") (nat_lit 477))⟩, ⟨12, (.int 12 (nat_lit 479)), (.str (Str.ofString "\\\x0c") (nat_lit 483))⟩] 24), #[]⟩) ::
  ((nat_lit 56), ⟨(.type "tuple"), none, (.seq #[] 0), #[]⟩) ::
  ((nat_lit 58), ⟨(.type "tuple"), none, (.seq #[(.str (Str.ofString "pattern") (nat_lit 489))] 0), #[]⟩) ::
  ((nat_lit 59), ⟨(.type "tuple"), none, (.seq #[] 0), #[]⟩) ::
  ((nat_lit 61), ⟨(.type "code"), none, (.fields #[(.str (Str.ofString "escape") (nat_lit 486)), (.str (Str.ofString "escape") (nat_lit 487)), (.str (Str.ofString "/claim/cut.py") (nat_lit 488)), (.int 13 (nat_lit 0)), (.int 1 (nat_lit 0)), (.int 0 (nat_lit 0)), (.int 0 (nat_lit 0)), (.int 3 (nat_lit 0)), (.ref (nat_lit 56)), (.bool true), (.int 276 (nat_lit 0)), (.ref (nat_lit 57)), .none, (.ref (nat_lit 58)), (.ref (nat_lit 59)), (.ref (nat_lit 60)), (.int 490 (nat_lit 0)), (.int 13 (nat_lit 0)), (.str (Str.ofString "/claim/cut.py") (nat_lit 491))]), #[]⟩) ::
  ((nat_lit 62), fobj 7 .none .none (.str (Str.ofString "re") (nat_lit 338)) (.ref (nat_lit 61))) ::
  ((nat_lit 63), ⟨(.type "tuple"), none, (.seq #[] 0), #[]⟩) ::
  ((nat_lit 65), ⟨(.type "tuple"), none, (.seq #[(.str (Str.ofString "pat") (nat_lit 498)), (.str (Str.ofString "STAR") (nat_lit 499)), (.str (Str.ofString "QUESTION_MARK") (nat_lit 500)), (.str (Str.ofString "res") (nat_lit 501)), (.str (Str.ofString "add") (nat_lit 502)), (.str (Str.ofString "i") (nat_lit 503)), (.str (Str.ofString "n") (nat_lit 504)), (.str (Str.ofString "c") (nat_lit 505)), (.str (Str.ofString "j") (nat_lit 506)), (.str (Str.ofString "stuff") (nat_lit 507)), (.str (Str.ofString "chunks") (nat_lit 508)), (.str (Str.ofString "k") (nat_lit 509)), (.str (Str.ofString "chunk") (nat_lit 510))] 0), #[]⟩) ::
  ((nat_lit 66), ⟨(.type "tuple"), none, (.seq #[] 0), #[]⟩) ::
  ((nat_lit 68), ⟨(.type "code"), none, (.fields #[(.str (Str.ofString "_translate") (nat_lit 495)), (.str (Str.ofString "_translate") (nat_lit 496)), (.str (Str.ofString "/claim/cut.py") (nat_lit 497)), (.int 20 (nat_lit 0)), (.int 3 (nat_lit 0)), (.int 0 (nat_lit 0)), (.int 0 (nat_lit 0)), (.int 3 (nat_lit 0)), (.ref (nat_lit 63)), (.bool true), (.int 276 (nat_lit 0)), (.ref (nat_lit 64)), .none, (.ref (nat_lit 65)), (.ref (nat_lit 66)), (.ref (nat_lit 67)), (.int 511 (nat_lit 0)), (.int 20 (nat_lit 0)), (.str (Str.ofString "/claim/cut.py") (nat_lit 512))]), #[]⟩) ::
  ((nat_lit 69), fobj 9 .none .none (.str (Str.ofString "cpy313.fnmatch") (nat_lit 493)) (.ref (nat_lit 68))) ::
  ((nat_lit 70), ⟨(.type "tuple"), none, (.seq #[] 0), #[]⟩) ::
  ((nat_lit 72), ⟨(.type "tuple"), none, (.seq #[(.str (Str.ofString "inp") (nat_lit 517)), (.str (Str.ofString "STAR") (nat_lit 518)), (.str (Str.ofString "res") (nat_lit 519)), (.str (Str.ofString "add") (nat_lit 520)), (.str (Str.ofString "i") (nat_lit 521)), (.str (Str.ofString "n") (nat_lit 522)), (.str (Str.ofString "fixed") (nat_lit 523))] 0), #[]⟩) ::
  ((nat_lit 73), ⟨(.type "tuple"), none, (.seq #[] 0), #[]⟩) ::
  ((nat_lit 75), ⟨(.type "code"), none, (.fields #[(.str (Str.ofString "_join_translated_parts") (nat_lit 514)), (.str (Str.ofString "_join_translated_parts") (nat_lit 515)), (.str (Str.ofString "/claim/cut.py") (nat_lit 516)), (.int 82 (nat_lit 0)), (.int 2 (nat_lit 0)), (.int 0 (nat_lit 0)), (.int 0 (nat_lit 0)), (.int 3 (nat_lit 0)), (.ref (nat_lit 70)), (.bool true), (.int 276 (nat_lit 0)), (.ref (nat_lit 71)), .none, (.ref (nat_lit 72)), (.ref (nat_lit 73)), (.ref (nat_lit 74)), (.int 524 (nat_lit 0)), (.int 82 (nat_lit 0)), (.str (Str.ofString "/claim/cut.py") (nat_lit 525))]), #[]⟩) ::
  ((nat_lit 76), fobj 10 .none .none (.str (Str.ofString "cpy313.fnmatch") (nat_lit 493)) (.ref (nat_lit 75))) ::
  ((nat_lit 77), ⟨(.type "tuple"), none, (.seq #[(.type "bytes"), (.type "bytearray")] 0), #[]⟩) ::
  ((nat_lit 78), ⟨(.type "tuple"), none, (.seq #[] 0), #[]⟩) ::
  ((nat_lit 80), ⟨(.type "tuple"), none, (.seq #[(.str (Str.ofString "s") (nat_lit 533))] 0), #[]⟩) ::
  ((nat_lit 81), ⟨(.type "tuple"), none, (.seq #[] 0), #[]⟩) ::
  ((nat_lit 83), ⟨(.type "code"), none, (.fields #[(.str (Str.ofString "_bytes_from_decode_data") (nat_lit 530)), (.str (Str.ofString "_bytes_from_decode_data") (nat_lit 531)), (.str (Str.ofString "/claim/cut.py") (nat_lit 532)), (.int 111 (nat_lit 0)), (.int 1 (nat_lit 0)), (.int 0 (nat_lit 0)), (.int 0 (nat_lit 0)), (.int 3 (nat_lit 0)), (.ref (nat_lit 78)), (.bool true), (.int 276 (nat_lit 0)), (.ref (nat_lit 79)), .none, (.ref (nat_lit 80)), (.ref (nat_lit 81)), (.ref (nat_lit 82)), (.int 534 (nat_lit 0)), (.int 111 (nat_lit 0)), (.str (Str.ofString "/claim/cut.py") (nat_lit 535))]), #[]⟩) ::
  ((nat_lit 84), fobj 13 .none .none (.str (Str.ofString "cpy313.base64") (nat_lit 527)) (.ref (nat_lit 83))) ::
  ((nat_lit 85), ⟨(.type "tuple"), none, (.seq #[(.type "ValueError")] 0), #[]⟩) ::
  ((nat_lit 92), ⟨(.type "tuple"), none, (.seq #[] 0), #[]⟩) ::
  ((nat_lit 93), ⟨(.type "dict"), none, (.dict #[⟨PyData.keyHash P (Str.ofString "__module__"), (.str (Str.ofString "__module__") (nat_lit 546)), (.str (Str.ofString "binascii") (nat_lit 537))⟩, ⟨PyData.keyHash P (Str.ofString "__firstlineno__"), (.str (Str.ofString "__firstlineno__") (nat_lit 550)), (.int 124 (nat_lit 549))⟩, ⟨PyData.keyHash P (Str.ofString "__static_attributes__"), (.str (Str.ofString "__static_attributes__") (nat_lit 551)), (.ref (nat_lit 92))⟩, ⟨PyData.keyHash P (Str.ofString "__weakref__"), (.str (Str.ofString "__weakref__") (nat_lit 553)), (.ref (nat_lit 95))⟩, ⟨PyData.keyHash P (Str.ofString "__doc__"), (.str (Str.ofString "__doc__") (nat_lit 554)), .none⟩] 3), #[]⟩) ::
  ((nat_lit 94), ⟨(.type "type"), none, (.cls { name := (Str.ofString "Error"), bases := [(.type "ValueError")], mro := [(.ref (nat_lit 94)), (.type "ValueError"), (.type "Exception"), (.type "BaseException"), (.type "object")], ns := (nat_lit 93), qualname := (Str.ofString "Error"), hasDict := true, slotNames := [], subclasses := [], abstract := false, collection := none, hasDel := false }), #[some (.ref (nat_lit 85)), none, some (.str (Str.ofString "Error") (nat_lit 539)), some (.str (Str.ofString "Error") (nat_lit 547)), some (.builtin "ValueError.__new__"), some (.bool true)]⟩) ::
  ((nat_lit 95), ⟨(.type "getset_descriptor"), none, (.fields #[(.str (Str.ofString "__weakref__") (nat_lit 552)), (.ref (nat_lit 94)), (.builtin "ExceptionGroup.__weakref__"), .none]), #[]⟩) ::
  ((nat_lit 98), ⟨(.type "tuple"), none, (.seq #[] 0), #[]⟩) ::
  ((nat_lit 100), ⟨(.type "tuple"), none, (.seq #[(.str (Str.ofString "data") (nat_lit 560)), (.str (Str.ofString "t") (nat_lit 561))] 0), #[]⟩) ::
  ((nat_lit 101), ⟨(.type "tuple"), none, (.seq #[] 0), #[]⟩) ::
  ((nat_lit 103), ⟨(.type "code"), none, (.fields #[(.str (Str.ofString "_ascii_buffer") (nat_lit 557)), (.str (Str.ofString "_ascii_buffer") (nat_lit 558)), (.str (Str.ofString "/claim/cut.py") (nat_lit 559)), (.int 126 (nat_lit 0)), (.int 1 (nat_lit 0)), (.int 0 (nat_lit 0)), (.int 0 (nat_lit 0)), (.int 3 (nat_lit 0)), (.ref (nat_lit 98)), (.bool true), (.int 276 (nat_lit 0)), (.ref (nat_lit 99)), .none, (.ref (nat_lit 100)), (.ref (nat_lit 101)), (.ref (nat_lit 102)), (.int 562 (nat_lit 0)), (.int 126 (nat_lit 0)), (.str (Str.ofString "/claim/cut.py") (nat_lit 563))]), #[]⟩) ::
  ((nat_lit 104), fobj 16 .none .none (.str (Str.ofString "binascii") (nat_lit 537)) (.ref (nat_lit 103))) ::
  ((nat_lit 105), ⟨(.type "tuple"), none, (.seq #[] 0), #[]⟩) ::
  ((nat_lit 107), ⟨(.type "tuple"), none, (.seq #[(.str (Str.ofString "x") (nat_lit 568)), (.str (Str.ofString "t") (nat_lit 569))] 0), #[]⟩) ::
  ((nat_lit 108), ⟨(.type "tuple"), none, (.seq #[] 0), #[]⟩) ::
  ((nat_lit 110), ⟨(.type "code"), none, (.fields #[(.str (Str.ofString "_truth") (nat_lit 565)), (.str (Str.ofString "_truth") (nat_lit 566)), (.str (Str.ofString "/claim/cut.py") (nat_lit 567)), (.int 137 (nat_lit 0)), (.int 1 (nat_lit 0)), (.int 0 (nat_lit 0)), (.int 0 (nat_lit 0)), (.int 3 (nat_lit 0)), (.ref (nat_lit 105)), (.bool true), (.int 276 (nat_lit 0)), (.ref (nat_lit 106)), .none, (.ref (nat_lit 107)), (.ref (nat_lit 108)), (.ref (nat_lit 109)), (.int 570 (nat_lit 0)), (.int 137 (nat_lit 0)), (.str (Str.ofString "/claim/cut.py") (nat_lit 571))]), #[]⟩) ::
  ((nat_lit 111), fobj 17 .none .none (.str (Str.ofString "binascii") (nat_lit 537)) (.ref (nat_lit 110))) ::
  ((nat_lit 112), ⟨(.type "tuple"), none, (.seq #[] 0), #[]⟩) ::
  ((nat_lit 114), ⟨(.type "tuple"), none, (.seq #[(.str (Str.ofString "c") (nat_lit 576))] 0), #[]⟩) ::
  ((nat_lit 115), ⟨(.type "tuple"), none, (.seq #[] 0), #[]⟩) ::
  ((nat_lit 117), ⟨(.type "code"), none, (.fields #[(.str (Str.ofString "_b64_value") (nat_lit 573)), (.str (Str.ofString "_b64_value") (nat_lit 574)), (.str (Str.ofString "/claim/cut.py") (nat_lit 575)), (.int 142 (nat_lit 0)), (.int 1 (nat_lit 0)), (.int 0 (nat_lit 0)), (.int 0 (nat_lit 0)), (.int 3 (nat_lit 0)), (.ref (nat_lit 112)), (.bool true), (.int 276 (nat_lit 0)), (.ref (nat_lit 113)), .none, (.ref (nat_lit 114)), (.ref (nat_lit 115)), (.ref (nat_lit 116)), (.int 577 (nat_lit 0)), (.int 142 (nat_lit 0)), (.str (Str.ofString "/claim/cut.py") (nat_lit 578))]), #[]⟩) ::
  ((nat_lit 118), fobj 18 .none .none (.str (Str.ofString "binascii") (nat_lit 537)) (.ref (nat_lit 117))) ::
  ((nat_lit 119), ⟨(.type "dict"), none, (.dict #[⟨PyData.keyHash P (Str.ofString "strict_mode"), (.str (Str.ofString "strict_mode") (nat_lit 580)), (.bool false)⟩] 1), #[]⟩) ::
  ((nat_lit 120), ⟨(.type "tuple"), none, (.seq #[] 0), #[]⟩) ::
  ((nat_lit 122), ⟨(.type "tuple"), none, (.seq #[(.str (Str.ofString "data") (nat_lit 584)), (.str (Str.ofString "strict_mode") (nat_lit 585)), (.str (Str.ofString "ascii_data") (nat_lit 586)), (.str (Str.ofString "out") (nat_lit 587)), (.str (Str.ofString "quad_pos") (nat_lit 588)), (.str (Str.ofString "leftchar") (nat_lit 589)), (.str (Str.ofString "pads") (nat_lit 590)), (.str (Str.ofString "i") (nat_lit 591)), (.str (Str.ofString "this_ch") (nat_lit 592))] 0), #[]⟩) ::
  ((nat_lit 123), ⟨(.type "tuple"), none, (.seq #[] 0), #[]⟩) ::
  ((nat_lit 125), ⟨(.type "code"), none, (.fields #[(.str (Str.ofString "a2b_base64") (nat_lit 581)), (.str (Str.ofString "a2b_base64") (nat_lit 582)), (.str (Str.ofString "/claim/cut.py") (nat_lit 583)), (.int 154 (nat_lit 0)), (.int 1 (nat_lit 0)), (.int 1 (nat_lit 0)), (.int 1 (nat_lit 0)), (.int 3 (nat_lit 0)), (.ref (nat_lit 120)), (.bool true), (.int 276 (nat_lit 0)), (.ref (nat_lit 121)), .none, (.ref (nat_lit 122)), (.ref (nat_lit 123)), (.ref (nat_lit 124)), (.int 593 (nat_lit 0)), (.int 154 (nat_lit 0)), (.str (Str.ofString "/claim/cut.py") (nat_lit 594))]), #[]⟩) ::
  ((nat_lit 126), fobj 19 .none (.ref (nat_lit 119)) (.str (Str.ofString "binascii") (nat_lit 537)) (.ref (nat_lit 125))) ::
  ((nat_lit 127), ⟨(.type "tuple"), none, (.seq #[.none, (.bool false)] 0), #[]⟩) ::
  ((nat_lit 128), ⟨(.type "tuple"), none, (.seq #[] 0), #[]⟩) ::
  ((nat_lit 130), ⟨(.type "tuple"), none, (.seq #[(.str (Str.ofString "s") (nat_lit 601)), (.str (Str.ofString "altchars") (nat_lit 602)), (.str (Str.ofString "validate") (nat_lit 603))] 0), #[]⟩) ::
  ((nat_lit 131), ⟨(.type "tuple"), none, (.seq #[] 0), #[]⟩) ::
  ((nat_lit 133), ⟨(.type "code"), none, (.fields #[(.str (Str.ofString "b64decode") (nat_lit 598)), (.str (Str.ofString "b64decode") (nat_lit 599)), (.str (Str.ofString "/claim/cut.py") (nat_lit 600)), (.int 209 (nat_lit 0)), (.int 3 (nat_lit 0)), (.int 0 (nat_lit 0)), (.int 0 (nat_lit 0)), (.int 3 (nat_lit 0)), (.ref (nat_lit 128)), (.bool true), (.int 276 (nat_lit 0)), (.ref (nat_lit 129)), .none, (.ref (nat_lit 130)), (.ref (nat_lit 131)), (.ref (nat_lit 132)), (.int 604 (nat_lit 0)), (.int 209 (nat_lit 0)), (.str (Str.ofString "/claim/cut.py") (nat_lit 605))]), #[]⟩) ::
  ((nat_lit 134), fobj 21 (.ref (nat_lit 127)) .none (.str (Str.ofString "cpy313.base64") (nat_lit 596)) (.ref (nat_lit 133))) ::
  ((nat_lit 138), ⟨(.type "tuple"), none, (.seq #[(.int 14 (nat_lit 0)), (.int 4 (nat_lit 0)), (.int 0 (nat_lit 0)), (.int 1 (nat_lit 0)), (.int 1 (nat_lit 0)), (.int 6 (nat_lit 0)), (.int 1 (nat_lit 0)), (.int 16 (nat_lit 0)), (.int 46 (nat_lit 0)), (.int 1 (nat_lit 0))] 0), #[]⟩) ::
  ((nat_lit 139), ⟨(.type "re.Pattern"), none, (.fields #[(.str (Str.ofString "(?m)^\\.") (nat_lit 610)), (.int 40 (nat_lit 623)), (.int 0 (nat_lit 0)), .none, .none, (.ref (nat_lit 138)), (.int 0 (nat_lit 0))]), #[]⟩) ::
  ((nat_lit 143), ⟨(.type "tuple"), none, (.seq #[(.int 14 (nat_lit 0)), (.int 9 (nat_lit 0)), (.int 4 (nat_lit 0)), (.int 1 (nat_lit 0)), (.int 2 (nat_lit 0)), (.int 16 (nat_lit 0)), (.int 10 (nat_lit 0)), (.int 16 (nat_lit 0)), (.int 13 (nat_lit 0)), (.int 0 (nat_lit 0)), (.int 7 (nat_lit 0)), (.int 7 (nat_lit 0)), (.int 16 (nat_lit 0)), (.int 13 (nat_lit 0)), (.int 16 (nat_lit 0)), (.int 10 (nat_lit 0)), (.int 15 (nat_lit 0)), (.int 18 (nat_lit 0)), (.int 5 (nat_lit 0)), (.int 16 (nat_lit 0)), (.int 10 (nat_lit 0)), (.int 15 (nat_lit 0)), (.int 13 (nat_lit 0)), (.int 11 (nat_lit 0)), (.int 16 (nat_lit 0)), (.int 13 (nat_lit 0)), (.int 5 (nat_lit 0)), (.int 5 (nat_lit 0)), (.int 0 (nat_lit 0)), (.int 16 (nat_lit 0)), (.int 10 (nat_lit 0)), (.int 1 (nat_lit 0)), (.int 15 (nat_lit 0)), (.int 2 (nat_lit 0)), (.int 0 (nat_lit 0)), (.int 1 (nat_lit 0))] 0), #[]⟩) ::
  ((nat_lit 144), ⟨(.type "re.Pattern"), none, (.fields #[(.str (Str.ofString "(?:\\r\\n|\\n|\\r(?!\\n))") (nat_lit 626)), (.int 32 (nat_lit 665)), (.int 0 (nat_lit 0)), .none, .none, (.ref (nat_lit 143)), (.int 0 (nat_lit 0))]), #[]⟩) ::
  ((nat_lit 145), ⟨(.type "tuple"), none, (.seq #[] 0), #[]⟩) ::
  ((nat_lit 147), ⟨(.type "tuple"), none, (.seq #[(.str (Str.ofString "data") (nat_lit 672))] 0), #[]⟩) ::
  ((nat_lit 148), ⟨(.type "tuple"), none, (.seq #[] 0), #[]⟩) ::
  ((nat_lit 150), ⟨(.type "code"), none, (.fields #[(.str (Str.ofString "quotedata") (nat_lit 669)), (.str (Str.ofString "quotedata") (nat_lit 670)), (.str (Str.ofString "/claim/cut.py") (nat_lit 671)), (.int 220 (nat_lit 0)), (.int 1 (nat_lit 0)), (.int 0 (nat_lit 0)), (.int 0 (nat_lit 0)), (.int 3 (nat_lit 0)), (.ref (nat_lit 145)), (.bool true), (.int 276 (nat_lit 0)), (.ref (nat_lit 146)), .none, (.ref (nat_lit 147)), (.ref (nat_lit 148)), (.ref (nat_lit 149)), (.int 673 (nat_lit 0)), (.int 220 (nat_lit 0)), (.str (Str.ofString "/claim/cut.py") (nat_lit 674))]), #[]⟩) ::
  ((nat_lit 151), fobj 26 .none .none (.str (Str.ofString "cpy313.smtplib") (nat_lit 607)) (.ref (nat_lit 150))) ::
  ((nat_lit 152), ⟨(.type "tuple"), none, (.seq #[] 0), #[]⟩) ::
  ((nat_lit 154), ⟨(.type "tuple"), none, (.seq #[] 0), #[]⟩) ::
  ((nat_lit 155), ⟨(.type "tuple"), none, (.seq #[] 0), #[]⟩) ::
  ((nat_lit 157), ⟨(.type "code"), none, (.fields #[(.str (Str.ofString "_law_signs") (nat_lit 678)), (.str (Str.ofString "_law_signs") (nat_lit 679)), (.str (Str.ofString "/claim/cut.py") (nat_lit 680)), (.int 223 (nat_lit 0)), (.int 0 (nat_lit 0)), (.int 0 (nat_lit 0)), (.int 0 (nat_lit 0)), (.int 3 (nat_lit 0)), (.ref (nat_lit 152)), (.bool true), (.int 276 (nat_lit 0)), (.ref (nat_lit 153)), .none, (.ref (nat_lit 154)), (.ref (nat_lit 155)), (.ref (nat_lit 156)), (.int 681 (nat_lit 0)), (.int 223 (nat_lit 0)), (.str (Str.ofString "/claim/cut.py") (nat_lit 682))]), #[]⟩) ::
  ((nat_lit 158), fobj 28 .none .none (.str (Str.ofString "law_kq0061_01") (nat_lit 676)) (.ref (nat_lit 157))) ::
  ((nat_lit 159), ⟨(.type "tuple"), none, (.seq #[] 0), #[]⟩) ::
  ((nat_lit 161), ⟨(.type "tuple"), none, (.seq #[(.str (Str.ofString "cell") (nat_lit 687)), (.str (Str.ofString "sign") (nat_lit 688))] 0), #[]⟩) ::
  ((nat_lit 162), ⟨(.type "tuple"), none, (.seq #[] 0), #[]⟩) ::
  ((nat_lit 164), ⟨(.type "code"), none, (.fields #[(.str (Str.ofString "_law_sign") (nat_lit 684)), (.str (Str.ofString "_law_sign") (nat_lit 685)), (.str (Str.ofString "/claim/cut.py") (nat_lit 686)), (.int 225 (nat_lit 0)), (.int 1 (nat_lit 0)), (.int 0 (nat_lit 0)), (.int 0 (nat_lit 0)), (.int 3 (nat_lit 0)), (.ref (nat_lit 159)), (.bool true), (.int 276 (nat_lit 0)), (.ref (nat_lit 160)), .none, (.ref (nat_lit 161)), (.ref (nat_lit 162)), (.ref (nat_lit 163)), (.int 689 (nat_lit 0)), (.int 225 (nat_lit 0)), (.str (Str.ofString "/claim/cut.py") (nat_lit 690))]), #[]⟩) ::
  ((nat_lit 165), fobj 29 .none .none (.str (Str.ofString "law_kq0061_01") (nat_lit 676)) (.ref (nat_lit 164))) ::
  ((nat_lit 166), ⟨(.type "tuple"), none, (.seq #[] 0), #[]⟩) ::
  ((nat_lit 169), ⟨(.type "code"), none, (.fields #[(.str (Str.ofString "_law_behind") (nat_lit 692)), (.str (Str.ofString "_law_behind") (nat_lit 693)), (.str (Str.ofString "/claim/cut.py") (nat_lit 694)), (.int 230 (nat_lit 0)), (.int 2 (nat_lit 0)), (.int 0 (nat_lit 0)), (.int 0 (nat_lit 0)), (.int 3 (nat_lit 0)), (.ref (nat_lit 166)), (.bool true), (.int 276 (nat_lit 0)), (.ref (nat_lit 167)), .none, .none, .none, (.ref (nat_lit 168)), (.int 695 (nat_lit 0)), (.int 230 (nat_lit 0)), (.str (Str.ofString "/claim/cut.py") (nat_lit 696))]), #[]⟩) ::
  ((nat_lit 170), fobj 30 .none .none (.str (Str.ofString "law_kq0061_01") (nat_lit 676)) (.ref (nat_lit 169))) ::
  ((nat_lit 171), ⟨(.type "tuple"), none, (.seq #[] 0), #[]⟩) ::
  ((nat_lit 173), ⟨(.type "tuple"), none, (.seq #[(.str (Str.ofString "pattern") (nat_lit 701)), (.str (Str.ofString "signs") (nat_lit 702)), (.str (Str.ofString "lone") (nat_lit 703)), (.str (Str.ofString "parts") (nat_lit 704)), (.str (Str.ofString "ahead") (nat_lit 705)), (.str (Str.ofString "sign") (nat_lit 706)), (.str (Str.ofString "figure") (nat_lit 707))] 0), #[]⟩) ::
  ((nat_lit 174), ⟨(.type "tuple"), none, (.seq #[] 0), #[]⟩) ::
  ((nat_lit 176), ⟨(.type "code"), none, (.fields #[(.str (Str.ofString "_law_parts") (nat_lit 698)), (.str (Str.ofString "_law_parts") (nat_lit 699)), (.str (Str.ofString "/claim/cut.py") (nat_lit 700)), (.int 232 (nat_lit 0)), (.int 1 (nat_lit 0)), (.int 0 (nat_lit 0)), (.int 0 (nat_lit 0)), (.int 3 (nat_lit 0)), (.ref (nat_lit 171)), (.bool true), (.int 276 (nat_lit 0)), (.ref (nat_lit 172)), .none, (.ref (nat_lit 173)), (.ref (nat_lit 174)), (.ref (nat_lit 175)), (.int 708 (nat_lit 0)), (.int 232 (nat_lit 0)), (.str (Str.ofString "/claim/cut.py") (nat_lit 709))]), #[]⟩) ::
  ((nat_lit 177), fobj 31 .none .none (.str (Str.ofString "law_kq0061_01") (nat_lit 676)) (.ref (nat_lit 176))) ::
  ((nat_lit 178), ⟨(.type "tuple"), none, (.seq #[] 0), #[]⟩) ::
  ((nat_lit 181), ⟨(.type "code"), none, (.fields #[(.str (Str.ofString "_law_number") (nat_lit 711)), (.str (Str.ofString "_law_number") (nat_lit 712)), (.str (Str.ofString "/claim/cut.py") (nat_lit 713)), (.int 245 (nat_lit 0)), (.int 1 (nat_lit 0)), (.int 0 (nat_lit 0)), (.int 0 (nat_lit 0)), (.int 3 (nat_lit 0)), (.ref (nat_lit 178)), (.bool true), (.int 276 (nat_lit 0)), (.ref (nat_lit 179)), .none, .none, .none, (.ref (nat_lit 180)), (.int 714 (nat_lit 0)), (.int 245 (nat_lit 0)), (.str (Str.ofString "/claim/cut.py") (nat_lit 715))]), #[]⟩) ::
  ((nat_lit 182), fobj 32 .none .none (.str (Str.ofString "law_kq0061_01") (nat_lit 676)) (.ref (nat_lit 181))) ::
  ((nat_lit 183), ⟨(.type "tuple"), none, (.seq #[] 0), #[]⟩) ::
  ((nat_lit 186), ⟨(.type "code"), none, (.fields #[(.str (Str.ofString "law") (nat_lit 717)), (.str (Str.ofString "law") (nat_lit 718)), (.str (Str.ofString "/claim/cut.py") (nat_lit 719)), (.int 252 (nat_lit 0)), (.int 1 (nat_lit 0)), (.int 0 (nat_lit 0)), (.int 0 (nat_lit 0)), (.int 3 (nat_lit 0)), (.ref (nat_lit 183)), (.bool true), (.int 276 (nat_lit 0)), (.ref (nat_lit 184)), .none, .none, .none, (.ref (nat_lit 185)), (.int 720 (nat_lit 0)), (.int 252 (nat_lit 0)), (.str (Str.ofString "/claim/cut.py") (nat_lit 721))]), #[]⟩) ::
  ((nat_lit 187), fobj 33 .none .none (.str (Str.ofString "law_kq0061_01") (nat_lit 676)) (.ref (nat_lit 186))) :: []

theorem said : OpenLaw.wellSaid rw0 = true := by kernel_rfl
noncomputable def q : Program := view pw [0, 1, 3, 4, 6, 7, 9, 10, 12, 13, 15, 16, 17, 18, 23, 24, 25, 26, 28, 29, 30, 31, 32, 33]
noncomputable def loose : List Str := [Str.ofString "twin_re_1_fnmatch", Str.ofString "_special_chars_map", Str.ofString "bytes_types", Str.ofString "a2b_base64", Str.ofString "b64decode", Str.ofString "twin_re_1_smtplib", Str.ofString "_twin_re_2"]
noncomputable def H : Hook := kmHook K asK (fun _ => rfl) [nat_lit 64]
noncomputable def LeftAt (w : World) : Prop := (openEnds treeTable pw w 4760).map (fun s => (openSeen q loose (importedModules pw.main.body) (fun s => xlAt q [] s && recOk (RowW.records rw0.row.toRowW) s) true s, Hook.obs H s)) = some (openGood q loose, Hook.val H w)
theorem l00 : ∀ w : World, LeftAt ((w.withFollow "special-get-raises" false).withFollow "comprehension-iter-twice" false) := by
  unfold LeftAt openEnds fencedOpening topFrom
  rw [PySem.W.Fast.te10274390034422433532, PySem.W.Fast.te1435165496053646825, PySem.W.Fast.te14289696077712309145, PySem.W.Fast.te14364793385576792824, PySem.W.Fast.te14082659384304107361, PySem.W.Fast.te4187177175401517315]
  intro w
  kernel_rfl
theorem l01 : ∀ w : World, LeftAt ((w.withFollow "special-get-raises" false).withFollow "comprehension-iter-twice" true) := by
  unfold LeftAt openEnds fencedOpening topFrom
  rw [PySem.W.Fast.te10274390034422433532, PySem.W.Fast.te1435165496053646825, PySem.W.Fast.te14289696077712309145, PySem.W.Fast.te14364793385576792824, PySem.W.Fast.te14082659384304107361, PySem.W.Fast.te4187177175401517315]
  intro w
  kernel_rfl
theorem l10 : ∀ w : World, LeftAt ((w.withFollow "special-get-raises" true).withFollow "comprehension-iter-twice" false) := by
  unfold LeftAt openEnds fencedOpening topFrom
  rw [PySem.W.Fast.te10274390034422433532, PySem.W.Fast.te1435165496053646825, PySem.W.Fast.te14289696077712309145, PySem.W.Fast.te14364793385576792824, PySem.W.Fast.te14082659384304107361, PySem.W.Fast.te4187177175401517315]
  intro w
  kernel_rfl
theorem l11 : ∀ w : World, LeftAt ((w.withFollow "special-get-raises" true).withFollow "comprehension-iter-twice" true) := by
  unfold LeftAt openEnds fencedOpening topFrom
  rw [PySem.W.Fast.te10274390034422433532, PySem.W.Fast.te1435165496053646825, PySem.W.Fast.te14289696077712309145, PySem.W.Fast.te14364793385576792824, PySem.W.Fast.te14082659384304107361, PySem.W.Fast.te4187177175401517315]
  intro w
  kernel_rfl

theorem left : LeftO pw q loose (fun s => xlAt q [] s && recOk (RowW.records rw0.row.toRowW) s) (Hook.obs H) (Hook.val H) 4760 :=
  byRow2 "comprehension-iter-twice" (P := LeftAt) (byRow2 "special-get-raises" (P := fun w => LeftAt (w.withFollow "comprehension-iter-twice" false)) l00 l10) (byRow2 "special-get-raises" (P := fun w => LeftAt (w.withFollow "comprehension-iter-twice" true)) l01 l11)
end Mine


end

section
open PySem PySem.W PyProof.Rows
set_option maxRecDepth 100000
namespace Mine
open PySem.Sre (M ops Op)

noncomputable abbrev codeB : Array Nat := #[14, 4, 0, 1, 1, 6, 1, 16, 46, 1]
noncomputable abbrev codeA : Array Nat := #[14, 9, 4, 1, 2, 16, 10, 16, 13, 0, 7, 7, 16, 13, 16, 10, 15, 18, 5, 16, 10, 15, 13, 11, 16, 13, 5, 5, 0, 16, 10, 1, 15, 2, 0, 1]

theorem runFor_done {m : M} (h : m.outcome.isSome = true) : ∀ k, M.runFor k m = m
  | 0 => rfl
  | k + 1 => by simp [M.runFor, h]
theorem runFor_succ {m : M} (h : m.outcome = none) (k : Nat) : M.runFor (k + 1) m = M.runFor k m.step := by simp [M.runFor, h]
theorem runFor_add (a b : Nat) (m : M) : M.runFor (a + b) m = M.runFor b (M.runFor a m) := by
  induction a generalizing m with
  | zero => simp [M.runFor]
  | succ a ih =>
    rw [show a + 1 + b = (a + b) + 1 by omega]
    by_cases h : m.outcome.isSome = true
    · rw [runFor_done h, runFor_done h, runFor_done h]
    · have h' : m.outcome = none := by cases e : m.outcome <;> simp_all
      rw [runFor_succ h', runFor_succ h', ih]

/-- the machine of a code `code` with the body at 5 | 10, where it tries at `s`. -/
noncomputable def stB (text : Array Nat) (s : Nat) (o : Bool) (sn : Sre.Seen) : M :=
  { code := codeB, text, lim := text.size, start := s, lastStart := text.size, pc := 5, pos := s, handed := s, outermost := o, marks := #[],
    frames := [{ wait := .nextStart, pc := 5, pos := s, outermost := o }], weight := 1, seen := sn }

noncomputable def isB (text : Array Nat) (s : Nat) : Prop := (s = 0 ∨ text[s - 1]?.getD 0 = 10) ∧ s < text.size ∧ text[s]?.getD 0 = 46

theorem stB_hit {text : Array Nat} {s : Nat} {o : Bool} {sn : Sre.Seen} (h : isB text s) :
    (M.runFor 5 (stB text s o sn)).outcome = some .matched ∧ (M.runFor 5 (stB text s o sn)).start = s ∧ (M.runFor 5 (stB text s o sn)).handed = s + 1 := by
  obtain ⟨h1, h2, h3⟩ := h
  have h2' : ¬ text.size ≤ s := by omega
  have e1 : (stB text s o sn).step = { stB text s o sn with pc := 7, seen := (sn.add 6).add 44 } := by
    simp [stB, M.step, M.exec, M.word, ops, M.isAt, h1]
  have e2 : ({ stB text s o sn with pc := 7, seen := (sn.add 6).add 44 } : M).step = { stB text s o sn with pc := 9, pos := s + 1, seen := ((sn.add 6).add 44).add 16 } := by
    simp [stB, M.step, M.exec, M.word, ops, Sre.accepts, Sre.itemWidth, h2', h3]
  have e3 : ({ stB text s o sn with pc := 9, pos := s + 1, seen := ((sn.add 6).add 44).add 16 } : M).step = { stB text s o sn with pc := 9, pos := s + 1, handed := s + 1, answer := some true, seen := (((sn.add 6).add 44).add 16).add 1 } := by
    simp [stB, M.step, M.exec, M.word, ops, M.say]
  have e4 : ({ stB text s o sn with pc := 9, pos := s + 1, handed := s + 1, answer := some true, seen := (((sn.add 6).add 44).add 16).add 1 } : M).step = { stB text s o sn with pc := 5, pos := s, handed := s + 1, answer := some true, frames := [], weight := 0, seen := (((sn.add 6).add 44).add 16).add 1 } := by
    simp [stB, M.step, M.resume, M.say]
  have e5 : ({ stB text s o sn with pc := 5, pos := s, handed := s + 1, answer := some true, frames := [], weight := 0, seen := (((sn.add 6).add 44).add 16).add 1 } : M).step = { stB text s o sn with pc := 5, pos := s, handed := s + 1, answer := some true, frames := [], weight := 0, seen := (((sn.add 6).add 44).add 16).add 1, outcome := some .matched } := by
    simp [stB, M.step]
  have e : M.runFor 5 (stB text s o sn) = { stB text s o sn with pc := 5, pos := s, handed := s + 1, answer := some true, frames := [], weight := 0, seen := (((sn.add 6).add 44).add 16).add 1, outcome := some .matched } := by
    rw [runFor_succ rfl, e1, runFor_succ rfl, e2, runFor_succ rfl, e3, runFor_succ rfl, e4, runFor_succ rfl, e5]; rfl
  rw [e]
  exact ⟨rfl, rfl, rfl⟩

theorem stB_miss {text : Array Nat} {s : Nat} {o : Bool} {sn : Sre.Seen} (h : ¬ isB text s) (hs : s < text.size) :
    ∃ k sn', k ≤ 3 ∧ M.runFor k (stB text s o sn) = stB text (s + 1) false sn' := by
  have back : ∀ (pc : Nat) (sn' : Sre.Seen), ({ stB text s o sn with pc := pc, answer := some false, seen := sn' } : M).step = stB text (s + 1) false sn' := fun pc sn' => by
    simp [stB, M.step, M.resume, M.say, hs, M.attemptFrom, M.hasFirstSet, ops, M.attemptAt, M.attempt]
  by_cases h1 : s = 0 ∨ text[s - 1]?.getD 0 = 10
  · have h3 : (text[s]?.getD 0 == 46) = false := beq_eq_false_iff_ne.mpr fun e => h ⟨h1, hs, e⟩
    have h2' : ¬ text.size ≤ s := by omega
    have e1 : (stB text s o sn).step = { stB text s o sn with pc := 7, seen := (sn.add 6).add 44 } := by
      simp [stB, M.step, M.exec, M.word, ops, M.isAt, h1]
    have e2 : ({ stB text s o sn with pc := 7, seen := (sn.add 6).add 44 } : M).step = { stB text s o sn with pc := 7, answer := some false, seen := ((sn.add 6).add 44).add 16 } := by
      simp [stB, M.step, M.exec, M.word, ops, Sre.accepts, h2', h3, M.say]
    refine ⟨3, ((sn.add 6).add 44).add 16, Nat.le_refl _, ?_⟩
    rw [runFor_succ rfl, e1, runFor_succ rfl, e2, runFor_succ rfl, back]
    rfl
  · have e1 : (stB text s o sn).step = { stB text s o sn with pc := 5, answer := some false, seen := (sn.add 6).add 44 } := by
      simp [stB, M.step, M.exec, M.word, ops, M.isAt, h1, M.say]
    refine ⟨2, (sn.add 6).add 44, by omega, ?_⟩
    rw [runFor_succ rfl, e1, runFor_succ rfl, back]
    rfl

theorem stB_end {text : Array Nat} {s : Nat} {o : Bool} {sn : Sre.Seen} (hs : text.size ≤ s) : ∃ k, k ≤ 4 ∧ (M.runFor k (stB text s o sn)).outcome = some .failed := by
  have hs' : ¬ s < text.size := by omega
  have back : ∀ (pc : Nat) (sn' : Sre.Seen), ({ stB text s o sn with pc := pc, answer := some false, seen := sn' } : M).step = { stB text s o sn with pc := 5, answer := some false, frames := [], weight := 0, seen := sn' } := fun pc sn' => by
    simp [stB, M.step, M.resume, M.say, hs']
  have last : ∀ (sn' : Sre.Seen), ({ stB text s o sn with pc := 5, answer := some false, frames := [], weight := 0, seen := sn' } : M).step.outcome = some .failed := fun sn' => by
    simp [stB, M.step]
  by_cases h1 : s = 0 ∨ text[s - 1]?.getD 0 = 10
  · have e1 : (stB text s o sn).step = { stB text s o sn with pc := 7, seen := (sn.add 6).add 44 } := by
      simp [stB, M.step, M.exec, M.word, ops, M.isAt, h1]
    have e2 : ({ stB text s o sn with pc := 7, seen := (sn.add 6).add 44 } : M).step = { stB text s o sn with pc := 7, answer := some false, seen := ((sn.add 6).add 44).add 16 } := by
      simp [stB, M.step, M.exec, M.word, ops, M.say, hs]
    refine ⟨4, Nat.le_refl _, ?_⟩
    rw [runFor_succ rfl, e1, runFor_succ rfl, e2, runFor_succ rfl, back, runFor_succ rfl]
    exact last _
  · have e1 : (stB text s o sn).step = { stB text s o sn with pc := 5, answer := some false, seen := (sn.add 6).add 44 } := by
      simp [stB, M.step, M.exec, M.word, ops, M.isAt, h1, M.say]
    refine ⟨3, by omega, ?_⟩
    rw [runFor_succ rfl, e1, runFor_succ rfl, back, runFor_succ rfl]
    exact last _

theorem stB_all (text : Array Nat) : ∀ (d s : Nat) (o : Bool) (sn : Sre.Seen), s + d = text.size → ∃ k, k ≤ 3 * d + 5 ∧
    ((∃ j, s ≤ j ∧ j < text.size ∧ isB text j ∧ (∀ i, s ≤ i → i < j → ¬ isB text i) ∧ (M.runFor k (stB text s o sn)).outcome = some .matched ∧ (M.runFor k (stB text s o sn)).start = j ∧ (M.runFor k (stB text s o sn)).handed = j + 1) ∨
     ((∀ i, s ≤ i → i < text.size → ¬ isB text i) ∧ (M.runFor k (stB text s o sn)).outcome = some .failed))
  | 0, s, o, sn, h => by
    obtain rfl : s = text.size := by omega
    obtain ⟨k, hk, e⟩ := stB_end (text := text) (s := text.size) (o := o) (sn := sn) (Nat.le_refl _)
    exact ⟨k, by omega, .inr ⟨fun i h1 h2 => absurd h1 (by omega), e⟩⟩
  | d + 1, s, o, sn, h => by
    by_cases hB : isB text s
    · obtain ⟨a, b, c⟩ := stB_hit (o := o) (sn := sn) hB
      exact ⟨5, by omega, .inl ⟨s, Nat.le_refl _, hB.2.1, hB, fun i h1 h2 => absurd h1 (by omega), a, b, c⟩⟩
    · obtain ⟨k, sn', hk, e⟩ := stB_miss (o := o) (sn := sn) hB (by omega)
      obtain ⟨k', hk', r⟩ := stB_all text d (s + 1) false sn' (by omega)
      refine ⟨k + k', by omega, ?_⟩
      rw [runFor_add, e]
      rcases r with ⟨j, h1, h2, h3, h4, h5⟩ | ⟨h1, h2⟩
      · refine .inl ⟨j, by omega, h2, h3, fun i i1 i2 => ?_, h5⟩
        by_cases q : i = s
        · exact q ▸ hB
        · exact h4 i (by omega) i2
      · refine .inr ⟨fun i i1 i2 => ?_, h2⟩
        by_cases q : i = s
        · exact q ▸ hB
        · exact h1 i (by omega) i2

/-- the state of the machine of code A, with the frames `fr`. -/
noncomputable def stA (text : Array Nat) (j : Nat) (o : Bool) (pc pos hd : Nat) (out : Bool) (fr : List Sre.Frame) (wt : Nat) (an : Option Bool) (sn : Sre.Seen) : M :=
  { code := codeA, text, lim := text.size, start := j, lastStart := text.size, pc, pos, handed := hd, outermost := out, marks := #[], frames := fr, weight := wt, answer := an, seen := sn }
noncomputable def fS (j : Nat) (o : Bool) : Sre.Frame := { wait := .nextStart, pc := 10, pos := j, outermost := o }
noncomputable def kB : Sre.Kept := { lastmark := -1, lastindex := -1 }
noncomputable def fB (pc j : Nat) (o : Bool) : Sre.Frame := { wait := .nextBranch, pc := pc, pos := j, outermost := o, kept := kB }
noncomputable def fN (j : Nat) (o : Bool) : Sre.Frame := { wait := .lookNot, pc := 26, pos := j, outermost := o, kept := kB }

section
variable {text : Array Nat} {j pos hd wt : Nat} {o out : Bool} {fr : List Sre.Frame} {sn : Sre.Seen}
theorem A10 (hw : wt < 1000) : ∃ sn', (stA text j o 10 pos hd out fr wt none sn).step = stA text j o 12 pos pos out (fB 11 pos out :: fr) (wt + 1) none sn' := by
  have : ¬ 16777216 < wt + 1 := by omega
  exact ⟨sn.add 7, by simp [stA, fB, kB, M.step, M.exec, M.word, ops, M.alternative, M.keep, M.frame, M.attempt, this]⟩
theorem Ay12 (hl : pos < text.size) (h : text[pos]?.getD 0 = 13) : ∃ sn', (stA text j o 12 pos hd out fr wt none sn).step = stA text j o 14 (pos + 1) hd out fr wt none sn' := by
  have h2 : ¬ text.size ≤ pos := by omega
  exact ⟨sn.add 16, by simp [stA, M.step, M.exec, M.word, ops, Sre.accepts, Sre.itemWidth, h2, h]⟩
theorem An12 (h : text.size ≤ pos ∨ text[pos]?.getD 0 ≠ 13) : ∃ sn', (stA text j o 12 pos hd out fr wt none sn).step = stA text j o 12 pos hd out fr wt (some false) sn' := by
  refine ⟨sn.add 16, ?_⟩
  by_cases h2 : text.size ≤ pos
  · simp [stA, M.step, M.exec, M.word, ops, h2, M.say]
  · have h3 : (text[pos]?.getD 0 == 13) = false := beq_eq_false_iff_ne.mpr (h.resolve_left h2)
    simp [stA, M.step, M.exec, M.word, ops, Sre.accepts, h2, h3, M.say]
theorem Ay14 (hl : pos < text.size) (h : text[pos]?.getD 0 = 10) : ∃ sn', (stA text j o 14 pos hd out fr wt none sn).step = stA text j o 16 (pos + 1) hd out fr wt none sn' := by
  have h2 : ¬ text.size ≤ pos := by omega
  exact ⟨sn.add 16, by simp [stA, M.step, M.exec, M.word, ops, Sre.accepts, Sre.itemWidth, h2, h]⟩
theorem An14 (h : text.size ≤ pos ∨ text[pos]?.getD 0 ≠ 10) : ∃ sn', (stA text j o 14 pos hd out fr wt none sn).step = stA text j o 14 pos hd out fr wt (some false) sn' := by
  refine ⟨sn.add 16, ?_⟩
  by_cases h2 : text.size ≤ pos
  · simp [stA, M.step, M.exec, M.word, ops, h2, M.say]
  · have h3 : (text[pos]?.getD 0 == 10) = false := beq_eq_false_iff_ne.mpr (h.resolve_left h2)
    simp [stA, M.step, M.exec, M.word, ops, Sre.accepts, h2, h3, M.say]
theorem Ay19 (hl : pos < text.size) (h : text[pos]?.getD 0 = 10) : ∃ sn', (stA text j o 19 pos hd out fr wt none sn).step = stA text j o 21 (pos + 1) hd out fr wt none sn' := by
  have h2 : ¬ text.size ≤ pos := by omega
  exact ⟨sn.add 16, by simp [stA, M.step, M.exec, M.word, ops, Sre.accepts, Sre.itemWidth, h2, h]⟩
theorem An19 (h : text.size ≤ pos ∨ text[pos]?.getD 0 ≠ 10) : ∃ sn', (stA text j o 19 pos hd out fr wt none sn).step = stA text j o 19 pos hd out fr wt (some false) sn' := by
  refine ⟨sn.add 16, ?_⟩
  by_cases h2 : text.size ≤ pos
  · simp [stA, M.step, M.exec, M.word, ops, h2, M.say]
  · have h3 : (text[pos]?.getD 0 == 10) = false := beq_eq_false_iff_ne.mpr (h.resolve_left h2)
    simp [stA, M.step, M.exec, M.word, ops, Sre.accepts, h2, h3, M.say]
theorem Ay24 (hl : pos < text.size) (h : text[pos]?.getD 0 = 13) : ∃ sn', (stA text j o 24 pos hd out fr wt none sn).step = stA text j o 26 (pos + 1) hd out fr wt none sn' := by
  have h2 : ¬ text.size ≤ pos := by omega
  exact ⟨sn.add 16, by simp [stA, M.step, M.exec, M.word, ops, Sre.accepts, Sre.itemWidth, h2, h]⟩
theorem An24 (h : text.size ≤ pos ∨ text[pos]?.getD 0 ≠ 13) : ∃ sn', (stA text j o 24 pos hd out fr wt none sn).step = stA text j o 24 pos hd out fr wt (some false) sn' := by
  refine ⟨sn.add 16, ?_⟩
  by_cases h2 : text.size ≤ pos
  · simp [stA, M.step, M.exec, M.word, ops, h2, M.say]
  · have h3 : (text[pos]?.getD 0 == 13) = false := beq_eq_false_iff_ne.mpr (h.resolve_left h2)
    simp [stA, M.step, M.exec, M.word, ops, Sre.accepts, h2, h3, M.say]
theorem Ay29 (hl : pos < text.size) (h : text[pos]?.getD 0 = 10) : ∃ sn', (stA text j o 29 pos hd out fr wt none sn).step = stA text j o 31 (pos + 1) hd out fr wt none sn' := by
  have h2 : ¬ text.size ≤ pos := by omega
  exact ⟨sn.add 16, by simp [stA, M.step, M.exec, M.word, ops, Sre.accepts, Sre.itemWidth, h2, h]⟩
theorem An29 (h : text.size ≤ pos ∨ text[pos]?.getD 0 ≠ 10) : ∃ sn', (stA text j o 29 pos hd out fr wt none sn).step = stA text j o 29 pos hd out fr wt (some false) sn' := by
  refine ⟨sn.add 16, ?_⟩
  by_cases h2 : text.size ≤ pos
  · simp [stA, M.step, M.exec, M.word, ops, h2, M.say]
  · have h3 : (text[pos]?.getD 0 == 10) = false := beq_eq_false_iff_ne.mpr (h.resolve_left h2)
    simp [stA, M.step, M.exec, M.word, ops, Sre.accepts, h2, h3, M.say]
theorem Aj16 : ∃ sn', (stA text j o 16 pos hd out fr wt none sn).step = stA text j o 35 pos hd out fr wt none sn' :=
  ⟨sn.add 15, by simp [stA, M.step, M.exec, M.word, ops]⟩
theorem Aj21 : ∃ sn', (stA text j o 21 pos hd out fr wt none sn).step = stA text j o 35 pos hd out fr wt none sn' :=
  ⟨sn.add 15, by simp [stA, M.step, M.exec, M.word, ops]⟩
theorem Aj32 : ∃ sn', (stA text j o 32 pos hd out fr wt none sn).step = stA text j o 35 pos hd out fr wt none sn' :=
  ⟨sn.add 15, by simp [stA, M.step, M.exec, M.word, ops]⟩
theorem A35 : ∃ sn', (stA text j o 35 pos hd out fr wt none sn).step = stA text j o 35 pos pos out fr wt (some true) sn' :=
  ⟨sn.add 1, by simp [stA, M.step, M.exec, M.word, ops, M.say]⟩
theorem A26 (hw : wt < 1000) : ∃ sn', (stA text j o 26 pos hd out fr wt none sn).step = stA text j o 29 pos pos false (fN pos out :: fr) (wt + 1) none sn' := by
  have : ¬ 16777216 < wt + 1 := by omega
  exact ⟨sn.add 5, by simp [stA, fN, kB, M.step, M.exec, M.word, ops, M.keep, M.frame, M.attempt, this]⟩
theorem Ab11 {pc hd' : Nat} {o' : Bool} (hw : wt < 1000) : (stA text j o pc pos hd out (fB 11 hd' o' :: fr) (wt + 1) (some false) sn).step = stA text j o 19 hd' hd' o' (fB 18 hd' o' :: fr) (wt + 1) none sn := by
  have : ¬ 16777216 < wt + 1 := by omega
  simp [stA, fB, kB, M.step, M.resume, M.putBack, M.alternative, M.frame, M.attempt, this]
theorem Ab18 {pc hd' : Nat} {o' : Bool} (hw : wt < 1000) : (stA text j o pc pos hd out (fB 18 hd' o' :: fr) (wt + 1) (some false) sn).step = stA text j o 24 hd' hd' o' (fB 23 hd' o' :: fr) (wt + 1) none sn := by
  have : ¬ 16777216 < wt + 1 := by omega
  simp [stA, fB, kB, M.step, M.resume, M.putBack, M.alternative, M.frame, M.attempt, this]
theorem AbackN {pc hd' : Nat} {o' : Bool} : (stA text j o pc pos hd out (fN hd' o' :: fr) (wt + 1) (some false) sn).step = stA text j o 32 hd' hd o' fr wt none sn := by
  simp [stA, fN, kB, M.step, M.resume, M.putBack, M.word]
theorem AyesB {pc q hd' : Nat} {o' : Bool} : (stA text j o pc pos hd out (fB q hd' o' :: fr) (wt + 1) (some true) sn).step = stA text j o q hd' hd o' fr wt (some true) sn := by
  simp [stA, fB, kB, M.step, M.resume, M.say]
theorem AyesS {pc hd' : Nat} {o' : Bool} : (stA text j o pc pos hd out (fS hd' o' :: fr) (wt + 1) (some true) sn).step = stA text j o 10 hd' hd o' fr wt (some true) sn := by
  simp [stA, fS, M.step, M.resume, M.say]
theorem Alast {pc : Nat} : (stA text j o pc pos hd out [] wt (some true) sn).step = { stA text j o pc pos hd out [] wt (some true) sn with outcome := some .matched } := by
  simp [stA, M.step]
end

noncomputable def endA (text : Array Nat) (j : Nat) : Nat := if text[j]?.getD 0 = 13 ∧ j + 1 < text.size ∧ text[j + 1]?.getD 0 = 10 then j + 2 else j + 1
noncomputable def isA (text : Array Nat) (j : Nat) : Prop := j < text.size ∧ (text[j]?.getD 0 = 13 ∨ text[j]?.getD 0 = 10)
noncomputable def Hit (m : M) (k j e : Nat) : Prop := (M.runFor k m).outcome = some .matched ∧ (M.runFor k m).start = j ∧ (M.runFor k m).handed = e
theorem Hit.step {m m' : M} {k j e : Nat} (ho : m.outcome = none) (hs : m.step = m') (h : Hit m' k j e) : Hit m (k + 1) j e := by
  unfold Hit at h ⊢
  rw [runFor_succ ho, hs]; exact h
theorem Hit.last {text : Array Nat} {j pos hd wt : Nat} {o out : Bool} {sn : Sre.Seen} {pc : Nat} : Hit (stA text j o pc pos hd out [] wt (some true) sn) 1 j hd :=
  .step rfl Alast (k := 0) ⟨rfl, rfl, rfl⟩
theorem Hit.yesS {text : Array Nat} {j pos hd : Nat} {o out o' : Bool} {sn : Sre.Seen} {pc hd' : Nat} : Hit (stA text j o pc pos hd out [fS hd' o'] 1 (some true) sn) 2 j hd :=
  .step rfl AyesS .last
theorem Hit.yesB {text : Array Nat} {j pos hd : Nat} {o out o' o'' : Bool} {sn : Sre.Seen} {pc q hd' hd'' : Nat} : Hit (stA text j o pc pos hd out [fB q hd'' o'', fS hd' o'] 2 (some true) sn) 3 j hd :=
  .step rfl AyesB .yesS
theorem Hit.at35 {text : Array Nat} {j pos hd : Nat} {o out o' o'' : Bool} {sn : Sre.Seen} {q hd' hd'' : Nat} : Hit (stA text j o 35 pos hd out [fB q hd'' o'', fS hd' o'] 2 none sn) 4 j pos := by
  obtain ⟨s1, e1⟩ := A35 (text := text) (j := j) (pos := pos) (hd := hd) (wt := 2) (o := o) (out := out) (fr := [fB q hd'' o'', fS hd' o']) (sn := sn)
  exact .step rfl e1 .yesB

theorem stA_hit {text : Array Nat} {j : Nat} {o : Bool} {sn : Sre.Seen} (h : isA text j) : ∃ k, k ≤ 20 ∧ Hit (stA text j o 10 j j o [fS j o] 1 none sn) k j (endA text j) := by
  obtain ⟨hl, hc⟩ := h
  obtain ⟨s1, e1⟩ := A10 (text := text) (j := j) (pos := j) (hd := j) (wt := 1) (o := o) (out := o) (fr := [fS j o]) (sn := sn) (by omega)
  rcases hc with hc | hc
  · obtain ⟨s2, e2⟩ := Ay12 (text := text) (j := j) (pos := j) (hd := j) (wt := 2) (o := o) (out := o) (fr := [fB 11 j o, fS j o]) (sn := s1) hl hc
    by_cases h10 : j + 1 < text.size ∧ text[j + 1]?.getD 0 = 10
    · obtain ⟨s3, e3⟩ := Ay14 (text := text) (j := j) (pos := j + 1) (hd := j) (wt := 2) (o := o) (out := o) (fr := [fB 11 j o, fS j o]) (sn := s2) h10.1 h10.2
      obtain ⟨s4, e4⟩ := Aj16 (text := text) (j := j) (pos := j + 1 + 1) (hd := j) (wt := 2) (o := o) (out := o) (fr := [fB 11 j o, fS j o]) (sn := s3)
      have : endA text j = j + 1 + 1 := by unfold endA; rw [if_pos ⟨hc, h10⟩]
      rw [this]
      exact ⟨8, by omega, .step rfl e1 (.step rfl e2 (.step rfl e3 (.step rfl e4 .at35)))⟩
    · have hn : text.size ≤ j + 1 ∨ text[j + 1]?.getD 0 ≠ 10 := by
        by_cases q : j + 1 < text.size
        · exact .inr fun e => h10 ⟨q, e⟩
        · exact .inl (by omega)
      have : endA text j = j + 1 := by unfold endA; rw [if_neg (fun x => h10 x.2)]
      rw [this]
      obtain ⟨s3, e3⟩ := An14 (text := text) (j := j) (pos := j + 1) (hd := j) (wt := 2) (o := o) (out := o) (fr := [fB 11 j o, fS j o]) (sn := s2) hn
      have e4 := Ab11 (text := text) (j := j) (pos := j + 1) (hd := j) (wt := 1) (o := o) (out := o) (fr := [fS j o]) (sn := s3) (pc := 14) (hd' := j) (o' := o) (by omega)
      obtain ⟨s5, e5⟩ := An19 (text := text) (j := j) (pos := j) (hd := j) (wt := 2) (o := o) (out := o) (fr := [fB 18 j o, fS j o]) (sn := s3) (.inr (by rw [hc]; decide))
      have e6 := Ab18 (text := text) (j := j) (pos := j) (hd := j) (wt := 1) (o := o) (out := o) (fr := [fS j o]) (sn := s5) (pc := 19) (hd' := j) (o' := o) (by omega)
      obtain ⟨s7, e7⟩ := Ay24 (text := text) (j := j) (pos := j) (hd := j) (wt := 2) (o := o) (out := o) (fr := [fB 23 j o, fS j o]) (sn := s5) hl hc
      obtain ⟨s8, e8⟩ := A26 (text := text) (j := j) (pos := j + 1) (hd := j) (wt := 2) (o := o) (out := o) (fr := [fB 23 j o, fS j o]) (sn := s7) (by omega)
      obtain ⟨s9, e9⟩ := An29 (text := text) (j := j) (pos := j + 1) (hd := j + 1) (wt := 3) (o := o) (out := false) (fr := [fN (j + 1) o, fB 23 j o, fS j o]) (sn := s8) hn
      have e10 := AbackN (text := text) (j := j) (pos := j + 1) (hd := j + 1) (wt := 2) (o := o) (out := false) (fr := [fB 23 j o, fS j o]) (sn := s9) (pc := 29) (hd' := j + 1) (o' := o)
      obtain ⟨s11, e11⟩ := Aj32 (text := text) (j := j) (pos := j + 1) (hd := j + 1) (wt := 2) (o := o) (out := o) (fr := [fB 23 j o, fS j o]) (sn := s9)
      exact ⟨15, by omega, .step rfl e1 (.step rfl e2 (.step rfl e3 (.step rfl e4 (.step rfl e5 (.step rfl e6 (.step rfl e7 (.step rfl e8 (.step rfl e9 (.step rfl e10 (.step rfl e11 .at35))))))))))⟩
  · have : endA text j = j + 1 := by unfold endA; rw [if_neg (fun x => by rw [hc] at x; exact absurd x.1 (by decide))]
    rw [this]
    obtain ⟨s2, e2⟩ := An12 (text := text) (j := j) (pos := j) (hd := j) (wt := 2) (o := o) (out := o) (fr := [fB 11 j o, fS j o]) (sn := s1) (.inr (by rw [hc]; decide))
    have e3 := Ab11 (text := text) (j := j) (pos := j) (hd := j) (wt := 1) (o := o) (out := o) (fr := [fS j o]) (sn := s2) (pc := 12) (hd' := j) (o' := o) (by omega)
    obtain ⟨s4, e4⟩ := Ay19 (text := text) (j := j) (pos := j) (hd := j) (wt := 2) (o := o) (out := o) (fr := [fB 18 j o, fS j o]) (sn := s2) hl hc
    obtain ⟨s5, e5⟩ := Aj21 (text := text) (j := j) (pos := j + 1) (hd := j) (wt := 2) (o := o) (out := o) (fr := [fB 18 j o, fS j o]) (sn := s4)
    exact ⟨9, by omega, .step rfl e1 (.step rfl e2 (.step rfl e3 (.step rfl e4 (.step rfl e5 .at35))))⟩

theorem inSetA (c : Nat) (sn : Sre.Seen) : ∃ sn', Sre.inSet codeA c 36 5 true sn = .ok (decide (c = 10 ∨ c = 13), sn') := by
  by_cases h1 : c = 10
  · exact ⟨sn.add 16, by simp [Sre.inSet, ops, h1]⟩
  · by_cases h2 : c = 13
    · exact ⟨(sn.add 16).add 16, by simp [Sre.inSet, ops, h2]⟩
    · exact ⟨((sn.add 16).add 16).add 0, by simp [Sre.inSet, ops, h1, h2]⟩

theorem admittedA {m : M} {text : Array Nat} (hc : m.code = codeA) (ht : m.text = text) (hl : m.lim = text.size) : ∀ (d s : Nat) (sn : Sre.Seen), s + d = text.size →
    ∃ sn', (∃ j, s ≤ j ∧ isA text j ∧ (∀ i, s ≤ i → i < j → ¬ isA text i) ∧ M.admitted m (d + 1) s sn = .ok (some j, sn')) ∨ ((∀ i, s ≤ i → ¬ isA text i) ∧ M.admitted m (d + 1) s sn = .ok (none, sn'))
  | 0, s, sn, h => ⟨sn, .inr ⟨fun i hi x => absurd x.1 (by omega), by
      unfold M.admitted; rw [hl, if_pos (by omega)]⟩⟩
  | d + 1, s, sn, h => by
    obtain ⟨s1, e1⟩ := inSetA (text[s]?.getD 0) sn
    have hsz : m.code.size = 36 := by rw [hc]; rfl
    have e0 : Sre.inSet m.code (m.text.getD s 0) m.code.size 5 true sn = .ok (decide (text[s]?.getD 0 = 10 ∨ text[s]?.getD 0 = 13), s1) := by
      rw [hsz, hc, ht, ← e1]; simp
    by_cases q : text[s]?.getD 0 = 10 ∨ text[s]?.getD 0 = 13
    · refine ⟨s1, .inl ⟨s, Nat.le_refl _, ⟨by omega, q.symm⟩, fun i a b => absurd a (by omega), ?_⟩⟩
      unfold M.admitted
      rw [hl, if_neg (by omega), e0, decide_eq_true q]
    · have hn : ¬ isA text s := fun x => q x.2.symm
      obtain ⟨s2, r⟩ := admittedA hc ht hl d (s + 1) s1 (by omega)
      refine ⟨s2, ?_⟩
      have e2 : M.admitted m (d + 1 + 1) s sn = M.admitted m (d + 1) (s + 1) s1 := by
        conv => lhs; unfold M.admitted
        rw [hl, if_neg (by omega), e0, decide_eq_false q]
      rw [e2]
      rcases r with ⟨j, h1, h2, h3, h4⟩ | ⟨h1, h2⟩
      · refine .inl ⟨j, by omega, h2, fun i a b => ?_, h4⟩
        by_cases z : i = s
        · exact z ▸ hn
        · exact h3 i (by omega) b
      · refine .inr ⟨fun i a => ?_, h2⟩
        by_cases z : i = s
        · exact z ▸ hn
        · exact h1 i (by omega)

noncomputable def Out (P : Nat → Prop) (e : Nat → Nat) (pos : Nat) (bound : Nat) (m : M) : Prop := ∃ k, k ≤ bound ∧
    ((∃ j, pos ≤ j ∧ P j ∧ (∀ i, pos ≤ i → i < j → ¬ P i) ∧ Hit m k j (e j)) ∨ ((∀ i, pos ≤ i → ¬ P i) ∧ (M.runFor k m).outcome = some .failed))


theorem runFor_mono {m : M} {k k' : Nat} (h : (M.runFor k m).outcome.isSome = true) (hk : k ≤ k') : M.runFor k' m = M.runFor k m := by
  obtain ⟨d, rfl⟩ := Nat.exists_eq_add_of_le hk
  rw [runFor_add, runFor_done h]

theorem forSearchA {text : Array Nat} {pos : Nat} (hp : pos < text.size) : Sre.forSearch codeA text 0 pos text.size false =
    M.attemptFrom { code := codeA, text, lim := text.size, start := pos, lastStart := text.size, pc := 10, pos, handed := pos, marks := #[], mustAdvance := false, seen := ({} : Sre.Seen).add 14 } pos true := by
  have h : ¬ (decide (pos > text.size) || decide (text.size - pos < 1)) = true := by simp; omega
  show (if (decide (pos > text.size) || decide (text.size - pos < 1)) = true then _ else _) = _
  rw [if_neg h]
  rfl
theorem forSearchB {text : Array Nat} {pos : Nat} (hp : pos < text.size) : Sre.forSearch codeB text 0 pos text.size false = stB text pos true (({} : Sre.Seen).add 14) := by
  have h : ¬ (decide (pos > text.size) || decide (text.size - pos < 1)) = true := by simp; omega
  show (if (decide (pos > text.size) || decide (text.size - pos < 1)) = true then _ else _) = _
  rw [if_neg h]
  simp [M.attemptFrom, M.hasFirstSet, ops, M.attemptAt, M.attempt]
  rfl
theorem forSearch_end {code text : Array Nat} {pos : Nat} (hp : text.size ≤ pos) (h1 : (Sre.header code).1 = 1) : (M.runFor 1 (Sre.forSearch code text 0 pos text.size false)).outcome = some .failed := by
  have h : (decide (pos > text.size) || decide (text.size - pos < (Sre.header code).1)) = true := by rw [h1]; simp; omega
  have e : ∃ m : M, m.outcome = none ∧ m.frames = [] ∧ Sre.forSearch code text 0 pos text.size false = M.say m false := by
    refine ⟨_, ?a, ?b, if_pos h⟩
    · rfl
    · rfl
  obtain ⟨m, h1, h2, e⟩ := e
  rw [e, runFor_succ (by exact h1)]
  show (M.say m false).step.outcome = _
  unfold M.step M.say
  simp [h1, h2]

theorem searchB (text : Array Nat) (pos : Nat) : Out (isB text) (fun j => j + 1) pos (3 * text.size + 5) (Sre.forSearch codeB text 0 pos text.size false) := by
  by_cases h0 : pos < text.size
  · rw [forSearchB h0]
    obtain ⟨k, hk, r⟩ := stB_all text (text.size - pos) pos true (({} : Sre.Seen).add 14) (by omega)
    refine ⟨k, by omega, ?_⟩
    rcases r with ⟨j, a, b, c, d, e⟩ | ⟨a, b⟩
    · exact .inl ⟨j, a, c, d, e⟩
    · exact .inr ⟨fun i hi x => a i hi x.2.1 x, b⟩
  · exact ⟨1, by omega, .inr ⟨fun i hi x => absurd x.2.1 (by omega), forSearch_end (by omega) rfl⟩⟩

theorem searchA (text : Array Nat) (pos : Nat) : Out (isA text) (endA text) pos 20 (Sre.forSearch codeA text 0 pos text.size false) := by
  by_cases h0 : pos < text.size
  · rw [forSearchA h0]
    unfold M.attemptFrom
    have hf : M.hasFirstSet { code := codeA, text, lim := text.size, start := pos, lastStart := text.size, pc := 10, pos, handed := pos, marks := #[], mustAdvance := false, seen := ({} : Sre.Seen).add 14 } = true := rfl
    rw [hf]
    obtain ⟨sn', r⟩ := admittedA (m := { code := codeA, text, lim := text.size, start := pos, lastStart := text.size, pc := 10, pos, handed := pos, marks := #[], mustAdvance := false, seen := ({} : Sre.Seen).add 14 }) (text := text) rfl rfl rfl (text.size - pos) pos (({} : Sre.Seen).add 14) (by omega)
    rw [show text.size - pos + 1 = text.size + 1 - pos by omega] at r
    rcases r with ⟨j, a, b, c, d⟩ | ⟨a, b⟩
    · obtain ⟨k, hk, e⟩ := stA_hit (o := true) (sn := sn') b
      refine ⟨k, hk, .inl ⟨j, a, b, c, ?_⟩⟩
      simp only [d]
      have : M.attemptAt { code := codeA, text, lim := text.size, start := pos, lastStart := text.size, pc := 10, pos, handed := pos, marks := #[], mustAdvance := false, seen := sn' } j true = stA text j true 10 j j true [fS j true] 1 none sn' := by
        simp [M.attemptAt, M.attempt, stA, fS]
      simpa [this] using e
    · refine ⟨1, by omega, .inr ⟨a, ?_⟩⟩
      simp only [b]
      simp [M.runFor, M.step, M.say]
  · exact ⟨1, by omega, .inr ⟨fun i hi x => absurd x.1 (by omega), forSearch_end (by omega) rfl⟩⟩
end Mine

end

section
open PySem PySem.W PyProof.Rows
set_option maxRecDepth 100000
namespace Mine
open PySem.Sre (M ops Op)
open PySem.Builtin PySem.Builtin.Re PySem.Calls

section
variable {Mo : Model} {A : Around} {E : Value → Shared → Prop} {s : Shared}

theorem drive_wp {Q : M → Shared → Prop} : ∀ (n k : Nat) (m : M), (M.runFor k m).outcome.isSome = true → k ≤ 4 * n → 0 < n → Q (M.runFor k m) s → wpAny Mo A (reDrive n m) Q E s
  | 0, _, _, _, _, h, _ => absurd h (by omega)
  | n + 1, k, m, ho, hk, _, hq => by
    show wpAny Mo A (if (M.runFor reTurnSteps m).outcome.isSome = true then pure (M.runFor reTurnSteps m) else do rule "sre.turn"; reDrive n (M.runFor reTurnSteps m)) Q E s
    have e4 : reTurnSteps = 4 := rfl
    rw [e4]
    by_cases h4 : (M.runFor 4 m).outcome.isSome = true
    · rw [if_pos h4]
      have : M.runFor 4 m = M.runFor k m := by
        by_cases q : k ≤ 4
        · exact runFor_mono ho q
        · exact (runFor_mono h4 (by omega)).symm
      rw [this]
      exact wpAny_pure hq
    · rw [if_neg h4]
      have hk4 : 4 < k := by
        by_cases q : k ≤ 4
        · exact absurd ((runFor_mono ho q) ▸ ho) h4
        · omega
      obtain ⟨d, rfl⟩ : ∃ d, k = 4 + d := ⟨k - 4, by omega⟩
      rw [runFor_add] at ho hq
      exact wpAny_bind (wpAny_rule (drive_wp n d _ ho (by omega) (by omega) hq))

theorem runToEnd_wp {Q : Option M → Shared → Prop} {m : M} {k : Nat} (hk : k ≤ 2 ^ 60)
    (h : ((M.runFor k m).outcome = some .matched ∧ Q (some (M.runFor k m)) s) ∨ ((M.runFor k m).outcome = some .failed ∧ Q none s)) : wpAny Mo A (reRunToEnd m) Q E s := by
  unfold reRunToEnd
  have ho : (M.runFor k m).outcome.isSome = true := by rcases h with h | h <;> rw [h.1] <;> rfl
  refine wpAny_bind (drive_wp _ k m ho (by omega) (by omega) ?_)
  have H : wpAny Mo A (forIn (List.range Sre.names.size) PUnit.unit fun i (_ : PUnit) =>
      if (M.runFor k m).seen.has i = true then do
        rule (Sre.names.getD i "")
        pure (ForInStep.yield PUnit.unit)
      else pure (ForInStep.yield PUnit.unit)) (fun _ s' => s' = s) E s := by
    refine wpAny_forIn_list _ (fun _ _ s' => s' = s) _ ?_ (fun b s' e => e) _ _ rfl
    intro x rest b s' e
    subst e
    split
    · exact wpAny_bind (wpAny_rule (wpAny_pure rfl))
    · exact wpAny_pure rfl
  refine wpAny_bind (wpAny_mono H (fun a s' e => ?_) fun _ _ x => x)
  subst e
  rcases h with ⟨h1, h2⟩ | ⟨h1, h2⟩
  · rw [h1]; exact wpAny_pure h2
  · rw [h1]; exact wpAny_pure h2
end

theorem plainAttrs_rePattern : PlainAttrs "re.Pattern" :=
  ⟨⟨"object.__getattribute__", by rw [typeLookup_type, builtinLookup_eq_fast]; kernel_rfl, by decide +kernel⟩, by rw [typeLookup_type, builtinLookup_eq_fast]; kernel_rfl⟩
theorem slot_re_sub : Slot "re.Pattern" "sub" "re.Pattern.sub" :=
  .of (owner := "re.Pattern") (n := "sub") (by rw [typeLookup_type, builtinLookup_eq_fast]; kernel_rfl) (by decide +kernel) (by decide +kernel) (by decide +kernel)
    (by first | exact .inl (by decide +kernel) | exact .inr (by decide +kernel)) (by rw [isSubtype_type]; kernel_rfl)
theorem type_re_sub : typeOf (.builtin "re.Pattern.sub") = pure (.type "method_descriptor") := by show builtinType _ = _; rw [builtinType_eq_fast]; kernel_rfl
theorem entry_re_sub : entryFor table "re.Pattern.sub" = some Builtin.«re.Pattern.sub» := entryFor_of_tree (by kernel_rfl)
theorem entry_re_loop : entryFor table "re.Pattern.sub.loop" = some Builtin.«re.Pattern.sub.loop» := entryFor_of_tree (by kernel_rfl)
theorem plain_re_loop : plainId "re.Pattern.sub.loop" = true := by decide +kernel
theorem args_re_sub (a b c : Value) : argsOk "re.Pattern.sub" ⟨[a, b, c], []⟩ := by
  unfold argsOk
  kernel_rfl
end Mine

end

section
open PySem PySem.W PyProof.Rows
set_option maxRecDepth 100000
namespace Mine
open PySem.Sre (M ops Op)
open PySem.Builtin PySem.Builtin.Re PySem.Calls

/-- a pattern object with its code. -/
structure PatAt (h : Heap) (p : Addr) (code : Array Nat) : Prop where
  ex : ∃ (op oc : Obj) (fs items : Array Value) (c : Addr) (n : Nat) (t2 t6 : Tok), h.get? p = some op ∧ op.cls = .type "re.Pattern" ∧ op.dict = none ∧ op.data = .fields fs ∧ fs.getD 6 .none = .int 0 t6 ∧ fs.getD 2 .none = .int 0 t2 ∧
    fs.getD 5 .none = .ref c ∧ h.get? c = some oc ∧ oc.data = .seq items n ∧ (items.map reRawOf).map (·.toNat) = code
theorem PatAt.keeps {h h' : Heap} {p : Addr} {code : Array Nat} (x : PatAt h p code) (k : ∀ b o, h.get? b = some o → h'.get? b = some o) : PatAt h' p code :=
  let ⟨op, oc, fs, items, c, n, t2, t6, h1, h2, h3, h4, h5, h6, h7, h8, h9⟩ := x.ex
  ⟨op, oc, fs, items, c, n, t2, t6, k _ _ h1, h2, h3, h4, h5, h6, h7, k _ _ h8, h9⟩

inductive Sub (text : Array Nat) (P : Nat → Prop) (e : Nat → Nat) (repl : List Nat) : Nat → List Nat → Prop
  | fin {pos : Nat} (h : ∀ i, pos ≤ i → ¬ P i) : Sub text P e repl pos (text.toList.drop pos)
  | hit {pos j : Nat} {r : List Nat} (h1 : pos ≤ j) (h2 : P j) (h3 : ∀ i, pos ≤ i → i < j → ¬ P i) (h4 : Sub text P e repl (e j) r) : Sub text P e repl pos ((text.toList.drop pos).take (j - pos) ++ repl ++ r)

section
variable {Mo : Model} {A : Around} {E : Value → Shared → Prop} {s : Shared}

theorem wholeTarget_wp {p : Addr} {x : Str} {t : Tok} {code : Array Nat} {Q : ReTarget → Shared → Prop} (hp : PatAt s.heap p code)
    (h : Q { pattern := .ref p, string := .str x t, code, text := x.cps, kind := 0, groups := 0, pos := 0, lim := x.cps.size } s) : wpAny Mo A (reWholeTarget (.ref p) (.str x t)) Q E s := by
  obtain ⟨op, oc, fs, items, c, n, t2, t6, h1, h2, h3, h4, h5, h6, h7, h8, h9, h10⟩ := hp.ex
  unfold reWholeTarget
  refine wpAny_bind (wpAny_fieldsOf h1 h4 ?_)
  refine wpAny_bind (m := reTextOf (.str x t)) (wpAny_pure ?_)
  simp only [h5, h6, h7, reRawNat]
  simp only [Int.toNat_zero, beq_self_eq_true]
  refine wpAny_bind (wpAny_pure ?_)
  refine wpAny_bind (m := reRawItems (.ref c)) ?_
  unfold reRawItems
  refine wpAny_bind (wpAny_seqItems h8 h9 ?_)
  refine wpAny_pure ?_
  refine wpAny_pure ?_
  simp only [Option.getD_some, h10]
  exact h

/-- the pieces' list while the loop runs: all of `h0` stands, `l` is new and holds `its`. -/
structure LH (h0 : Heap) (l : Addr) (its : List Value) (h : Heap) : Prop where
  keep : ∀ b o, h0.get? b = some o → h.get? b = some o
  at_ : ∃ n, h.get? l = some ⟨.type "list", none, .seq its.toArray n, #[]⟩
  new : h0.get? l = none

theorem LH.push_wp {h0 : Heap} {l : Addr} {its : List Value} {v : Value} {Q : Unit → Shared → Prop} (H : LH h0 l its s.heap) (hz : its.length < 16777216)
    (h : ∀ h', LH h0 l (its ++ [v]) h' → Q () { s with heap := h' }) : wpAny Mo A (updateSeq l (·.push v)) Q E s := by
  obtain ⟨n, ho⟩ := H.at_
  refine wpAny_updateSeq ho rfl (h _ ⟨fun b o e => ?_, ?_, H.new⟩) (by rw [List.size_toArray, sizeLine_eq]; omega) (by rw [Array.size_push, List.size_toArray, sizeLine_eq]; omega)
  · have hb : b ≠ l := fun q => by rw [q, H.new] at e; cases e
    exact ((Heap.SameBut.update s.heap l _).2 b hb).trans (H.keep b o e)
  · refine ⟨n + 1, ?_⟩
    rw [Heap.get?_update_self _ ho rfl]
    simp [Obj.mapSeq]

noncomputable def sVals (ps : List (List Nat × Tok)) : List Value := ps.map fun q => .str ⟨q.1.toArray⟩ q.2
theorem strsAre_sVals : ∀ ps : List (List Nat × Tok), StrsAre (sVals ps) (ps.map fun q => ⟨q.1.toArray⟩)
  | [] => .nil
  | q :: r => .cons _ _ (strsAre_sVals r)
theorem join_flat : ∀ ps : List (List Nat × Tok), Txt.join ⟨#[]⟩ (ps.map fun q => (⟨q.1.toArray⟩ : Str)) = ⟨((ps.map (·.1)).flatten).toArray⟩ := by
  intro ps
  unfold Txt.join
  rw [StrLaws.glued_eq_join]
  induction ps with
  | nil => rfl
  | cons q r ih =>
    cases r with
    | nil => simp [Str.join]
    | cons q' r' =>
      show (⟨q.1.toArray⟩ : Str) ++ ⟨#[]⟩ ++ Str.join ⟨#[]⟩ ((q' :: r').map fun q => (⟨q.1.toArray⟩ : Str)) = _
      rw [ih]
      show (⟨q.1.toArray ++ #[] ++ _⟩ : Str) = _
      simp

end
section
variable {prog : Program} {w : World} {A : Around} {E : Value → Shared → Prop} {s : Shared} {R : Result → Shared → Prop}

theorem take_drop_extract (x : Array Nat) (a b : Nat) : (x.extract a b) = ((x.toList.drop a).take (b - a)).toArray := by
  rw [← Array.toList_inj]
  simp [Array.toList_extract, List.extract_eq_take_drop]

theorem fl_app (ps : List (List Nat × Tok)) (q : List Nat × Tok) : ((ps ++ [q]).map (·.1)).flatten = (ps.map (·.1)).flatten ++ q.1 := by simp

theorem loop_code {h0 : Heap} {l p : Addr} {x : Str} {t tr : Tok} {rp code : List Nat} {P : Nat → Prop} {e : Nat → Nat} {bound : Nat} (hp : PatAt h0 p code.toArray)
    (srch : ∀ pos, Out P e pos bound (Sre.forSearch code.toArray x.cps 0 pos x.cps.size false)) (hb : bound ≤ 2 ^ 60) (hP : ∀ j, P j → j < e j ∧ e j ≤ x.cps.size) (hx : x.cps.size ≤ 1000000) (hr : rp.length ≤ 3) :
    ∀ (d pos : Nat) (n : Int) (ps : List (List Nat × Tok)) (s : Shared), x.cps.size - pos ≤ d → pos ≤ x.cps.size → LH h0 l (sVals ps) s.heap → ps.length ≤ 2 * pos → ((ps.map (·.1)).flatten).length ≤ 4 * pos →
      (∀ r, Sub x.cps P e rp pos r → ∀ h' tk t', (∀ b o, h0.get? b = some o → h'.get? b = some o) → R (.ok (.ret (.str ⟨((ps.map (·.1)).flatten ++ r).toArray⟩ t'))) { s with heap := h', toks := tk }) →
      codeAny (model prog w) A (.builtin "re.Pattern.sub.loop" ⟨[.ref p, .str x t, .str ⟨rp.toArray⟩ tr, rawInt 0, rawInt 0, rawInt n, rawInt pos, rawInt pos, .bool false, .ref l, .bool false], []⟩) R s
  | d, pos, n, ps, s, hd, hle, H, hn, hs, hR => by
    have slen : (sVals ps).length = ps.length := by simp [sVals]
    refine codeAny_builtin entry_re_loop ?_
    rw [Around.under_plainId plain_re_loop]
    unfold Builtin.«re.Pattern.sub.loop»
    dsimp only [rawInt]
    refine wpAny_bind (wholeTarget_wp (hp.keeps H.keep) ?_)
    simp only [beq_self_eq_true, if_true, bne_self_eq_false, Bool.false_and, Bool.false_eq_true, if_false, Int.toNat_natCast]
    refine wpAny_bind (m := reLiteralCannotBeTurned (.str ⟨rp.toArray⟩ tr)) (wpAny_pure ?_)
    obtain ⟨k, hk, rr⟩ := srch pos
    rcases rr with ⟨j, j1, j2, j3, ho, hst, hha⟩ | ⟨j1, ho⟩
    · refine wpAny_bind (m := reNextFound _ _ _) (runToEnd_wp (k := k) (by omega) (.inl ⟨ho, ?_⟩))
      generalize M.runFor k (Sre.forSearch code.toArray x.cps 0 pos x.cps.size false) = m' at hst hha
      dsimp only
      rw [hst, hha]
      obtain ⟨p1, p2⟩ := hP j j2
      have hne : (e j == j) = false := beq_eq_false_iff_ne.mpr (by omega)
      rw [hne]
      cases d with
      | zero => omega
      | succ d =>
      have fin : ∀ (ps' : List (List Nat × Tok)) (s' : Shared), ps'.length ≤ 2 * pos + 1 → ((ps'.map (·.1)).flatten).length ≤ 4 * pos + (j - pos) → (ps'.map (·.1)).flatten = (ps.map (·.1)).flatten ++ (x.cps.toList.drop pos).take (j - pos) → LH h0 l (sVals ps') s'.heap →
          s'.gens = s.gens → s'.drawn = s.drawn → s'.os = s.os →
          wpAny (model prog w) A.in1 (do
            let item ← pure (Value.str ⟨rp.toArray⟩ tr)
            if (item != Value.none) = true then do
                updateSeq l fun x => x.push item
                again (Code.builtin "re.Pattern.sub.loop" ⟨[Value.ref p, Value.str x t, Value.str ⟨rp.toArray⟩ tr, Value.int 0 0, Value.int 0 0, Value.int (n + 1) 0, Value.int (e j) 0, Value.int (e j) 0, Value.bool false, Value.ref l, Value.bool false], []⟩)
              else
                again (Code.builtin "re.Pattern.sub.loop" ⟨[Value.ref p, Value.str x t, Value.str ⟨rp.toArray⟩ tr, Value.int 0 0, Value.int 0 0, Value.int (n + 1) 0, Value.int (e j) 0, Value.int (e j) 0, Value.bool false, Value.ref l, Value.bool false], []⟩))
            (fun fin s' => match fin with | .done f => R (.ok f) s' | .again c' => c'.quiet = true ∧ codeAny (model prog w) A c' R s') (fun e s' => R (.error e) s') s' := by
        intro ps' s' q1 q2 q3 H' g1 g2 g3
        have slen' : (sVals ps').length = ps'.length := by simp [sVals]
        refine wpAny_bind (wpAny_pure ?_)
        rw [if_pos (show (Value.str ⟨rp.toArray⟩ tr != Value.none) = true from rfl)]
        refine wpAny_bind (H'.push_wp (by omega) fun h' H2 => ?_)
        refine wpAny_pure ⟨plainId_quiet plain_re_loop _, ?_⟩
        have hps : sVals ps' ++ [.str ⟨rp.toArray⟩ tr] = sVals (ps' ++ [(rp, tr)]) := by simp [sVals]
        rw [hps] at H2
        have hfl : ((ps' ++ [(rp, tr)]).map (·.1)).flatten = (ps.map (·.1)).flatten ++ ((x.cps.toList.drop pos).take (j - pos) ++ rp) := by
          rw [List.map_append, List.flatten_append, q3]; simp
        refine loop_code hp srch hb hP hx hr d (e j) (n + 1) (ps' ++ [(rp, tr)]) { s' with heap := h' } (by omega) p2 H2 (by simp; omega) ?_ fun r hr' h' tk t' k' => ?_
        · rw [List.map_append, List.flatten_append, List.length_append]
          simp only [List.map_cons, List.map_nil, List.flatten_cons, List.flatten_nil, List.append_nil]
          omega
        · have := hR _ (.hit j1 j2 j3 hr') h' tk t' k'
          rw [hfl]
          rw [show (ps.map (·.1)).flatten ++ ((x.cps.toList.drop pos).take (j - pos) ++ rp) ++ r = (ps.map (·.1)).flatten ++ ((x.cps.toList.drop pos).take (j - pos) ++ rp ++ r) by simp only [List.append_assoc]]
          simpa [g1, g2, g3] using this
      by_cases hlt : pos < j
      · rw [if_pos hlt]
        refine wpAny_bind (m := reSlice _ _ _ _) (wpAny_mkStr ?_ ?_)
        · refine wpAny_bind (LH.push_wp (s := { s with toks := s.toks + 1 }) H (by omega) fun h' H2 => ?_)
          rw [take_drop_extract] at H2
          have hps : sVals ps ++ [.str ⟨((x.cps.toList.drop pos).take (j - pos)).toArray⟩ s.toks] = sVals (ps ++ [((x.cps.toList.drop pos).take (j - pos), s.toks)]) := by simp [sVals]
          rw [hps] at H2
          exact fin (ps ++ [((x.cps.toList.drop pos).take (j - pos), s.toks)]) { s with heap := h', toks := s.toks + 1 } (by simp; omega) (by rw [fl_app, List.length_append, List.length_take]; omega) (by rw [fl_app]) H2 rfl rfl rfl
        · show (x.cps.extract pos j).size ≤ _
          rw [sizeLine_eq, Array.size_extract]; omega
      · rw [if_neg hlt]
        have : j - pos = 0 := by omega
        exact fin ps s (by omega) (by omega) (by rw [this]; simp) H rfl rfl rfl
    · refine wpAny_bind (m := reNextFound _ _ _) (runToEnd_wp (k := k) (by omega) (.inr ⟨ho, ?_⟩))
      dsimp only
      have fin : ∀ (ps' : List (List Nat × Tok)) (s' : Shared), ((ps'.map (·.1)).flatten).length ≤ 4 * pos + x.cps.size → (ps'.map (·.1)).flatten = (ps.map (·.1)).flatten ++ x.cps.toList.drop pos → LH h0 l (sVals ps') s'.heap →
          s'.gens = s.gens → s'.drawn = s.drawn → s'.os = s.os →
          wpAny (model prog w) A.in1 (do
            let joiner ← reSlice x.cps 0 0 0
            let items ← seqItems? (.ref l)
            if (items.getD #[]).isEmpty = true then do
                let text ← pure joiner
                ret text
              else do
                let text ← call (Value.builtin "str.join") [joiner, .ref l]
                ret text)
            (fun fin s' => match fin with | .done f => R (.ok f) s' | .again c' => c'.quiet = true ∧ codeAny (model prog w) A c' R s') (fun e s' => R (.error e) s') s' := by
        intro ps' s' q2 q3 H' g1 g2 g3
        refine wpAny_bind (m := reSlice _ _ _ _) (wpAny_mkStr ?_ ?_)
        · obtain ⟨n9, ho9⟩ := H'.at_
          refine wpAny_bind (wpAny_seqItems (s := { s' with toks := s'.toks + 1 }) ho9 rfl ?_)
          have hR' := fun tk t' h' k' => hR _ (.fin j1) h' tk t' k'
          rw [← q3] at hR'
          have hz : x.cps.extract 0 0 = #[] := by simp
          by_cases hps : ps' = []
          · subst hps
            refine wpAny_bind (wpAny_pure ?_)
            rw [hz]
            refine wpAny_pure ?_
            have := hR' (s'.toks + 1) s'.toks s'.heap H'.keep
            simpa [g1, g2, g3] using this
          · rw [if_neg (by cases ps' with | nil => exact absurd rfl hps | cons a b => simp [sVals])]
            rw [hz]
            refine wpAny_bind (join_list (s := { s' with toks := s'.toks + 1 }) ⟨_, ho9, rfl, _, rfl⟩ (strsAre_sVals ps') ?_ fun t' k' => ?_)
            · rw [show (ps'.map fun q => (⟨q.1.toArray⟩ : Str)).map (·.length) = ps'.map fun q => q.1.length by simp [Str.length]]
              have : (ps'.map fun q => q.1.length).sum = ((ps'.map (·.1)).flatten).length := by rw [List.length_flatten, List.map_map]; rfl
              rw [this]
              show _ + _ * 0 ≤ _
              omega
            · rw [join_flat]
              refine wpAny_pure ?_
              have := hR' k' t' s'.heap H'.keep
              simpa [g1, g2, g3] using this
        · show (x.cps.extract 0 0).size ≤ _
          rw [sizeLine_eq, Array.size_extract]; omega
      by_cases hlt : pos < x.cps.size
      · rw [if_pos hlt]
        refine wpAny_bind (m := reSlice _ _ _ _) (wpAny_mkStr ?_ ?_)
        · refine wpAny_bind (LH.push_wp (s := { s with toks := s.toks + 1 }) H (by omega) fun h' H2 => ?_)
          rw [take_drop_extract] at H2
          have htk : (x.cps.toList.drop pos).take (x.cps.size - pos) = x.cps.toList.drop pos := List.take_of_length_le (by simp)
          rw [htk] at H2
          have hps : sVals ps ++ [.str ⟨(x.cps.toList.drop pos).toArray⟩ s.toks] = sVals (ps ++ [(x.cps.toList.drop pos, s.toks)]) := by simp [sVals]
          rw [hps] at H2
          exact fin (ps ++ [(x.cps.toList.drop pos, s.toks)]) { s with heap := h', toks := s.toks + 1 } (by rw [fl_app, List.length_append, List.length_drop, (show x.cps.toList.length = x.cps.size by simp)]; omega) (by rw [fl_app]) H2 rfl rfl rfl
        · show (x.cps.extract pos x.cps.size).size ≤ _
          rw [sizeLine_eq, Array.size_extract]; omega
      · rw [if_neg hlt]
        have hz : x.cps.toList.drop pos = [] := List.drop_of_length_le (by simp; omega)
        exact fin ps s (by omega) (by rw [hz]; simp) H rfl rfl rfl

theorem str_no_call : typeLookup (.type "str") "__call__" = pure none := by rw [typeLookup_type, builtinLookup_eq_fast]; kernel_rfl

theorem re_sub_lit {p : Addr} {x : Str} {t tr : Tok} {rp code : List Nat} {P : Nat → Prop} {e : Nat → Nat} {bound : Nat} {E Q : Value → Shared → Prop} (hp : PatAt s.heap p code.toArray)
    (srch : ∀ pos, Out P e pos bound (Sre.forSearch code.toArray x.cps 0 pos x.cps.size false)) (hb : bound ≤ 2 ^ 60) (hP : ∀ j, P j → j < e j ∧ e j ≤ x.cps.size) (hx : x.cps.size ≤ 1000000) (hr : rp.length ≤ 3) (h92 : rp.contains 92 = false)
    (h : ∀ r, Sub x.cps P e rp 0 r → ∀ h' tk t', (∀ b o, s.heap.get? b = some o → h'.get? b = some o) → Q (.str ⟨r.toArray⟩ t') { s with heap := h', toks := tk }) :
    wpAny (model prog w) A (call (.builtin "re.Pattern.sub") [.ref p, .str ⟨rp.toArray⟩ tr, .str x t]) Q E s := by
  have hT : s.TypeIs (.ref p) "re.Pattern" := by
    obtain ⟨op, oc, fs, items, c, n, t2, t6, h1, h2, _⟩ := hp.ex
    exact ⟨op, h1, h2⟩
  refine wpAny_call (codeAny_call_builtin slot_re_sub.plain entry_re_sub (slot_re_sub.check _ _ _ _ _ _ _ _ hT (args_re_sub _ _ _) ?_))
  unfold Builtin.«re.Pattern.sub» reSubstitute
  dsimp only
  refine wpAny_bind (m := reNamed _ _ _ _ _ _) (wpAny_pure (a := [some (Value.str ⟨rp.toArray⟩ tr), some (Value.str x t), none]) ?_)
  dsimp only
  refine wpAny_bind (wpAny_pure ?_)
  refine wpAny_bind (wpAny_specialOf_val (T := "str") (r := none) rfl str_no_call ?_)
  simp only [Option.isSome_none, Bool.false_eq_true, if_false]
  refine wpAny_bind (m := asStr? _) (wpAny_pure (a := some (Str.mk rp.toArray)) ?_)
  dsimp only
  refine wpAny_bind (wpAny_pure ?_)
  rw [if_pos (by simpa using h92)]
  refine wpAny_bind (wpAny_pure ?_)
  refine wpAny_bind (wpAny_holding (wholeTarget_wp hp ?_))
  rw [if_neg (by dsimp only; decide)]
  refine wpAny_bind (wpAny_newList ?_)
  refine wpAny_pure ⟨plainId_quiet plain_re_loop _, ?_⟩
  refine loop_code (h0 := s.heap) (l := s.heap.objs.size) (x := x) (rp := rp) (code := code) hp srch hb hP hx hr x.cps.size 0 0 [] _ (by omega) (by omega) ?_ (by simp) (by simp) fun r hr' h' tk t' k' => ?_
  · refine ⟨fun b o e => Heap.get?_push_of_some _ e, ⟨0, Heap.get?_push_size _ rfl⟩, ?_⟩
    cases e : s.heap.get? s.heap.objs.size with
    | none => rfl
    | some o => exact absurd (Heap.lt_size e) (Nat.lt_irrefl _)
  · exact h r hr' h' tk t' k'
end
end Mine

end

section
open PySem PySem.W PyProof.Rows
set_option maxRecDepth 100000
namespace Mine

/-- every end of a row (CR LF, LF, CR) becomes CR LF; the flag says that a CR stood right ahead. -/
noncomputable def normF : Bool → List Nat → List Nat
  | _, [] => []
  | p, c :: t => if c = 13 then 13 :: 10 :: normF true t else if c = 10 then (if p = true then normF false t else 13 :: 10 :: normF false t) else c :: normF false t
noncomputable def normA (l : List Nat) : List Nat := normF false l

theorem normA_nil : normA [] = [] := rfl
theorem normA_crlf (t : List Nat) : normA (13 :: 10 :: t) = 13 :: 10 :: normA t := by simp [normA, normF]
theorem normF_head (t : List Nat) (h : ∀ t', t ≠ 10 :: t') : normF true t = normF false t := by
  cases t with
  | nil => rfl
  | cons c t =>
    have : c ≠ 10 := fun e => h t (by rw [e])
    simp [normF, this]
theorem normA_cr (t : List Nat) (h : ∀ t', t ≠ 10 :: t') : normA (13 :: t) = 13 :: 10 :: normA t := by
  simp [normA, normF, normF_head t h]
theorem normA_lf (t : List Nat) : normA (10 :: t) = 13 :: 10 :: normA t := by simp [normA, normF]
theorem normA_other {c : Nat} (t : List Nat) (h1 : c ≠ 13) (h2 : c ≠ 10) : normA (c :: t) = c :: normA t := by simp [normA, normF, h1, h2]

/-- a dot at a row's start is doubled. -/
noncomputable def dotB : Bool → List Nat → List Nat
  | _, [] => []
  | b, c :: t => if b = true ∧ c = 46 then 46 :: 46 :: dotB false t else c :: dotB (c == 10) t

theorem drop_at {text : Array Nat} {j : Nat} (h : j < text.size) : text.toList.drop j = text[j]?.getD 0 :: text.toList.drop (j + 1) := by
  rw [List.drop_eq_getElem_cons (by simpa using h)]
  simp [h]

theorem normA_pre {text : Array Nat} : ∀ (d pos j : Nat), j = pos + d → j ≤ text.size → (∀ i, pos ≤ i → i < j → ¬ isA text i) → normA (text.toList.drop pos) = (text.toList.drop pos).take (j - pos) ++ normA (text.toList.drop j)
  | 0, pos, j, e, _, _ => by subst e; simp
  | d + 1, pos, j, e, hj, h => by
    have hp : pos < text.size := by omega
    have hn := h pos (Nat.le_refl _) (by omega)
    have h1 : text[pos]?.getD 0 ≠ 13 := fun q => hn ⟨hp, .inl q⟩
    have h2 : text[pos]?.getD 0 ≠ 10 := fun q => hn ⟨hp, .inr q⟩
    rw [drop_at hp, normA_other _ h1 h2, normA_pre d (pos + 1) j (by omega) hj (fun i a b => h i (by omega) b)]
    rw [show j - pos = (j - (pos + 1)) + 1 by omega, List.take_succ_cons]
    rfl

theorem endA_gt {text : Array Nat} {j : Nat} (h : isA text j) : j < endA text j ∧ endA text j ≤ text.size := by
  unfold endA
  split
  · rename_i q; omega
  · have := h.1; omega

theorem normA_hit {text : Array Nat} {j : Nat} (h : isA text j) : normA (text.toList.drop j) = [13, 10] ++ normA (text.toList.drop (endA text j)) := by
  obtain ⟨hl, hc⟩ := h
  rw [drop_at hl]
  unfold endA
  rcases hc with hc | hc
  · rw [hc]
    by_cases q : j + 1 < text.size ∧ text[j + 1]?.getD 0 = 10
    · rw [if_pos ⟨rfl, q⟩, drop_at q.1, q.2, normA_crlf]; rfl
    · rw [if_neg (fun x => q x.2), normA_cr]
      · rfl
      · intro t' e
        apply q
        by_cases z : j + 1 < text.size
        · rw [drop_at z] at e
          exact ⟨z, (List.cons.inj e).1⟩
        · rw [List.drop_of_length_le (by simp; omega)] at e
          cases e
  · rw [hc, if_neg (fun x => by have := x.1; omega), normA_lf]; rfl

theorem subA {text : Array Nat} {pos : Nat} {r : List Nat} (h : Sub text (isA text) (endA text) [13, 10] pos r) : r = normA (text.toList.drop pos) := by
  induction h with
  | @fin pos h =>
    by_cases q : pos ≤ text.size
    · have := normA_pre (text := text) (text.size - pos) pos text.size (by omega) (Nat.le_refl _) (fun i a _ => h i a)
      rw [this, List.drop_of_length_le (i := text.size) (by simp), normA_nil, List.append_nil, List.take_of_length_le (by simp)]
    · rw [List.drop_of_length_le (by simp; omega), normA_nil]
  | @hit pos j r h1 h2 h3 h4 ih =>
    rw [normA_pre (j - pos) pos j (by omega) (by have := h2.1; omega) h3, normA_hit h2, ih, List.append_assoc]

noncomputable def bolAt (text : Array Nat) (i : Nat) : Bool := decide (i = 0 ∨ text[i - 1]?.getD 0 = 10)

theorem dotB_pre {text : Array Nat} : ∀ (d pos j : Nat), j = pos + d → j ≤ text.size → (∀ i, pos ≤ i → i < j → ¬ isB text i) → dotB (bolAt text pos) (text.toList.drop pos) = (text.toList.drop pos).take (j - pos) ++ dotB (bolAt text j) (text.toList.drop j)
  | 0, pos, j, e, _, _ => by subst e; simp
  | d + 1, pos, j, e, hj, h => by
    have hp : pos < text.size := by omega
    have hn := h pos (Nat.le_refl _) (by omega)
    have h1 : ¬ (bolAt text pos = true ∧ text[pos]?.getD 0 = 46) := fun q => hn ⟨of_decide_eq_true q.1, hp, q.2⟩
    have hb : (text[pos]?.getD 0 == 10) = bolAt text (pos + 1) := by
      unfold bolAt
      rw [Bool.beq_eq_decide_eq]
      simp
    rw [drop_at hp]
    show (if bolAt text pos = true ∧ text[pos]?.getD 0 = 46 then _ else text[pos]?.getD 0 :: dotB (text[pos]?.getD 0 == 10) (text.toList.drop (pos + 1))) = _
    rw [if_neg h1, hb, dotB_pre d (pos + 1) j (by omega) hj (fun i a b => h i (by omega) b)]
    rw [show j - pos = (j - (pos + 1)) + 1 by omega, List.take_succ_cons]
    rfl

theorem subB {text : Array Nat} {pos : Nat} {r : List Nat} (h : Sub text (isB text) (fun j => j + 1) [46, 46] pos r) : r = dotB (bolAt text pos) (text.toList.drop pos) := by
  induction h with
  | @fin pos h =>
    by_cases q : pos ≤ text.size
    · have := dotB_pre (text := text) (text.size - pos) pos text.size (by omega) (Nat.le_refl _) (fun i a _ => h i a)
      rw [this, List.drop_of_length_le (i := text.size) (by simp)]
      show _ = _ ++ []
      rw [List.append_nil, List.take_of_length_le (by simp)]
    · rw [List.drop_of_length_le (by simp; omega)]; rfl
  | @hit pos j r h1 h2 h3 h4 ih =>
    have hb : bolAt text j = true := decide_eq_true h2.1
    have hb' : bolAt text (j + 1) = false := by
      unfold bolAt
      simp [h2.2.2]
    rw [dotB_pre (j - pos) pos j (by omega) (by have := h2.2.1; omega) h3, drop_at h2.2.1, h2.2.2, hb, ih, hb']
    show _ = _ ++ (if true = true ∧ 46 = 46 then 46 :: 46 :: dotB false _ else _)
    rw [if_pos ⟨rfl, rfl⟩]
    simp

/-- what 'quotedata' sends. -/
noncomputable def quoted (l : List Nat) : List Nat := dotB true (normA l)
end Mine

end

section
open PySem PySem.W PyProof.Rows
set_option maxRecDepth 100000
namespace Mine

structure Sx (w : World) (A : Around) (h₀ : Heap) (L : Addr) (k : Nat) : Prop where
  X : (K w.params).In h₀
  T : ∃ p loose mean mg mb, Top p loose mean mg mb h₀
  B : ∃ A₀ base outer env, Below A₀ base outer h₀ ∧ A.frames = some (env :: outer) ∧ env.frame = some L ∧ env.scope.kind = .function
  hd : A.depth + k < recursionLimit
  hu : A.units + 8 * k < cLine
  hh : A.handled = none
theorem Sx.less {w : World} {A : Around} {h₀ : Heap} {L : Addr} {k k' : Nat} (S : Sx w A h₀ L k) (h : k' ≤ k) : Sx w A h₀ L k' :=
  ⟨S.X, S.T, S.B, by have := S.hd; omega, by have := S.hu; omega, S.hh⟩

section
variable {prog : Program} {w : World} {A : Around} {E : Value → Shared → Prop} {s : Shared} {h₀ : Heap} {L : Addr} {m : Str → Option Value} {news : List (Addr × Obj)} {k : Nat}

theorem enter {R : Result → Shared → Prop} {name qual : Str} {params : Arguments} {body : List Stmt} {scope : Scope} {dV kV doc pm cdv ct oc : Value} {an od : Option Addr} {osl : Array (Option Value)} {f : Addr} {args : Args} {binds : List (Str × Value)}
    (S : Sx w A h₀ L (k + 1)) (F : Fr h₀ L s.heap m) (N : News h₀ L s.heap news)
    (ho : (K w.params).lookup f = some ⟨oc, od, .func (fnOf name qual params body scope dV kV doc pm an cdv ct), osl⟩) (hcd : codeIn (K w.params) cdv qual = true)
    (hbind : BindsTo s (fnOf name qual params body scope dV kV doc pm an cdv ct) args binds) (hloc : ∀ y ∈ binds, scope.names.lookup y.1 = some .local)
    (hco : scope.isCoroutine = false) (hgen : scope.isGenerator = false) (hk : scope.kind = .function) (hcell : ∀ x ∈ scope.names, x.2 ≠ .cell)
    (h : ∀ g L' h₁, Sx w (A.deeper (envOf qual scope L' f cdv)) g L' k → Fr g L' h₁ (fun y => binds.reverse.lookup y) → News g L' h₁ news → (∀ b o, g.get? b = some o → h₁.get? b = some o) →
      wpAny (model prog w) (A.deeper (envOf qual scope L' f cdv)) (execs body (envOf qual scope L' f cdv))
        (fun fl s' => LeaveK h₀ L m g R (match fl with | .ret v => v | _ => .none) s')
        (fun _ _ => False)
        { s with heap := h₁, toks := s.toks + binds.length }) : codeAny (model prog w) A (.call (.ref f) args) R s := by
  obtain ⟨p, loose, mean, mg, mb, T⟩ := S.T
  obtain ⟨A₀, base, outer, env, B, hA, hf, hke⟩ := S.B
  refine code_def B F S.X N T hA hf hke ho hcd (by have := S.hd; omega) hbind hloc (fun g L' h₁ FG F' N' B' X' T' => ?_) hco hgen hk hcell
  refine wpAny_mono (h g L' h₁ ⟨X', ⟨_, _, _, _, _, T'⟩, ⟨_, _, _, envOf qual scope L' f cdv, B', ?_, rfl, hk⟩, ?_, ?_, S.hh⟩ F' N' (fun b o e => F'.keep b o e)) (fun _ _ x => x) (fun _ _ x => x.elim)
  · exact Around.frames_deeper hA
  · have := S.hd
    show A.depth + 1 + k < _
    omega
  · have := S.hu
    show A.units + 3 + 8 * k < _
    omega

theorem Sx.glob {cn : Str} {cs : Scope} {a : Addr} {ccd : Value} {x : Str} {pos : Pos} {v : Value} {Q : Value → Shared → Prop} (S : Sx w A h₀ L k) (F : Fr h₀ L s.heap m)
    (e : nsIn (K w.params) mainGlobals x = some (some v)) (h : Q v s)
    (hk : cs.kind = .function := by rfl) (hx : (envOf cn cs L a ccd).kindOf x = some .globalImplicit := by rfl) (hd : (x == ("__debug__" : Str)) = false := by decide) :
    wpAny (model prog w) A (eval (.Name x pos) (envOf cn cs L a ccd)) Q E s := by
  obtain ⟨p, loose, mean, mg, mb, T⟩ := S.T
  exact nameX_K (cl := []) F S.X (topRead_of T) e h hk hx hd
theorem Sx.blt {cn : Str} {cs : Scope} {a : Addr} {ccd : Value} {x : Str} {pos : Pos} {v : Value} {Q : Value → Shared → Prop} (S : Sx w A h₀ L k) (F : Fr h₀ L s.heap m)
    (e : nsIn (K w.params) mainGlobals x = some none) (hv : bootBuiltins x = some v) (hn : x ≠ "__name__") (h : Q v s)
    (hk : cs.kind = .function := by rfl) (hx : (envOf cn cs L a ccd).kindOf x = some .globalImplicit := by rfl) (hd : (x == ("__debug__" : Str)) = false := by decide) :
    wpAny (model prog w) A (eval (.Name x pos) (envOf cn cs L a ccd)) Q E s := by
  obtain ⟨p, loose, mean, mg, mb, T⟩ := S.T
  exact nameX_B (cl := []) F S.X (topRead_of T) e hv hn h hk hx hd
end

noncomputable def Held (h₀ : Heap) (s₁ : Shared) (P : Prop) : Prop := (∀ b o, h₀.get? b = some o → s₁.heap.get? b = some o) ∧ P
theorem Held.intro {h₀ : Heap} {L : Addr} {m : Str → Option Value} {s₁ : Shared} {P : Prop} (F : Fr h₀ L s₁.heap m) (h : P) : Held h₀ s₁ P := ⟨F.keep, h⟩
section
variable {prog : Program} {w : World} {A A' : Around} {E : Value → Shared → Prop} {s : Shared} {h₀ : Heap} {L : Addr} {k : Nat} {env : Env} {pos : Pos} {f : Addr} {o : Obj} {fd : FuncData} {e : PySem.Expr} {rest : List PySem.Expr}
theorem Sx.fn {Q : Value → Shared → Prop} (S : Sx w A' h₀ L k) (hl : (K w.params).lookup f = some o) (hd : o.data = .func fd)
    (h : wpAny (model prog w) A (spliced (backTo pos (starEach (e :: rest) env))) (fun vs s₁ => Held h₀ s₁ (wpAny (model prog w) A (call (.ref f) vs) Q E s₁)) E s)
    (he : starEach (e :: rest) env = (false, eval e env) :: starEach rest env := by rfl) :
    wpAny (model prog w) A (callWith pos (.ref f) [] (backTo pos (starEach (e :: rest) env)) []) Q E s :=
  callWith_def hd (wpAny_mono h (fun _ _ h₁ => ⟨h₁.1 _ _ (S.X f o hl), h₁.2⟩) fun _ _ x => x) he
theorem Sx.fnkw {args : List (Bool × Sem Value)} {keywords : List (Option Str × Sem Value)} {Q : Value → Shared → Prop} (S : Sx w A' h₀ L k) (hl : (K w.params).lookup f = some o) (hd : o.data = .func fd)
    (h : wpAny (model prog w) A (evalArgs (.ref f) true args keywords) (fun x s₁ => Held h₀ s₁ (wpAny (model prog w) A (call (.ref f) x.pos x.kw) Q E s₁)) E s) :
    wpAny (model prog w) A (callWith pos (.ref f) [] args keywords) Q E s :=
  callWith_def_kw hd (wpAny_mono h (fun _ _ h₁ => ⟨h₁.1 _ _ (S.X f o hl), h₁.2⟩) fun _ _ x => x)
end
theorem g_twin1 (P : Params) : nsIn (K P) mainGlobals (Str.ofString "twin_re_1_smtplib") = some (some (.ref 139)) := by kernel_rfl
theorem g_twin2 (P : Params) : nsIn (K P) mainGlobals (Str.ofString "_twin_re_2") = some (some (.ref 144)) := by kernel_rfl
theorem g_CRLF (P : Params) : nsIn (K P) mainGlobals (Str.ofString "CRLF") = some (some (.str (Str.ofString "\r\n") 667)) := by kernel_rfl

theorem patA {w : World} {h : Heap} (X : (K w.params).In h) : PatAt h 144 codeA :=
  ⟨_, _, _, _, _, _, _, _, X 144 _ rfl, rfl, rfl, rfl, rfl, rfl, rfl, X 143 _ rfl, rfl, by decide +kernel⟩
theorem patB {w : World} {h : Heap} (X : (K w.params).In h) : PatAt h 139 codeB :=
  ⟨_, _, _, _, _, _, _, _, X 139 _ rfl, rfl, rfl, rfl, rfl, rfl, rfl, X 138 _ rfl, rfl, by decide +kernel⟩
end Mine

end

section
open PySem PySem.W PyProof.Rows PySem.Calls
set_option maxRecDepth 100000
namespace Mine
section
variable {prog : Program} {w : World} {A : Around} {E Q : Value → Shared → Prop} {s : Shared} {h₀ : Heap} {L : Addr} {m : Str → Option Value} {news : List (Addr × Obj)}

theorem frK {h₀ h h' : Heap} {L : Addr} {m : Str → Option Value} (F : Fr h₀ L h m) (k : ∀ b o, h.get? b = some o → h'.get? b = some o) : Fr h₀ L h' m :=
  ⟨F.ns.keeps k, fun b o e => k _ _ (F.keep b o e), F.above⟩
theorem newsK {h₀ h h' : Heap} {L : Addr} {news : List (Addr × Obj)} (N : News h₀ L h news) (k : ∀ b o, h.get? b = some o → h'.get? b = some o) : News h₀ L h' news :=
  fun p hp => ⟨k _ _ (N p hp).1, (N p hp).2⟩

theorem re_method {s : Shared} {p : Addr} {code : Array Nat} {pl : Sem Bool} {Q : Value × List Value → Shared → Prop} (hp : PatAt s.heap p code) (h : Q (.builtin "re.Pattern.sub", [.ref p]) s) :
    wpAny (model prog w) A (getMethod (.ref p) (Str.ofString "sub") pl) Q E s := by
  obtain ⟨op, oc, fs, items, c, n, t2, t6, h1, h2, h3, _⟩ := hp.ex
  exact getMethod_builtin (T := "re.Pattern") ⟨op, h1, h2⟩ plainAttrs_rePattern slot_re_sub type_re_sub (fun a e => by cases e; exact ⟨op, h1, h3⟩) h

theorem size_normA (l : List Nat) : ∀ b, (normF b l).length ≤ 2 * l.length := by
  induction l with
  | nil => intro b; exact Nat.le_refl _
  | cons c t ih =>
    intro b
    have h1 := ih true
    have h2 := ih false
    simp only [normF, List.length_cons]
    split
    · simp only [List.length_cons]; omega
    · split
      · split
        · omega
        · simp only [List.length_cons]; omega
      · simp only [List.length_cons]; omega

theorem c_quotedata {x : Str} {t : Tok} (S : Sx w A h₀ L 3) (F : Fr h₀ L s.heap m) (N : News h₀ L s.heap news) (hx : x.cps.size ≤ 400000)
    (h : ∀ t' h' tk, Fr h₀ L h' m → News h₀ L h' news → Q (.str ⟨(quoted x.cps.toList).toArray⟩ t') { s with heap := h', toks := tk }) :
    wpAny (model prog w) A (call (.ref 151) [.str x t]) Q E s := by
  refine wpAny_call (enter (k := 2) (binds := [(Str.ofString "data", .str x t)]) S F N rfl rfl (BindsTo.of_eq rfl) (locs rfl) rfl rfl rfl (by decide) fun g L' h₁ S' F' N' kp => ?_)
  have X' := S'.X.keeps F'.keep
  refine wpAny_execs_cons (wpAny_Return_some ?_)
  refine MethodCall_ (S'.glob F' (g_twin1 _) ?_)
  refine re_method (patB X') ?_
  refine callWith_method1 (spliced_more (Constant_str (spliced_more ?_)))
  refine MethodCall_ (S'.glob F' (g_twin2 _) ?_)
  refine re_method (patA X') ?_
  refine callWith_method1 (spliced_more (S'.glob F' (g_CRLF _) (spliced_more (ld F' rfl (spliced_none ?_)))))
  have eA : Str.ofString "\r\n" = ⟨([13, 10] : List Nat).toArray⟩ := by decide
  have eB : Str.ofString ".." = ⟨([46, 46] : List Nat).toArray⟩ := by decide
  rw [eA]
  refine re_sub_lit (rp := [13, 10]) (code := codeA.toList) (patA X') (searchA _) (by decide) (fun j => endA_gt) (by omega) (by decide) (by decide) fun r hr h2 tk t2 k2 => ?_
  refine spliced_none ?_
  have hr' := subA hr
  rw [List.drop_zero] at hr'
  subst hr'
  rw [eB]
  have hz := size_normA x.cps.toList false
  have hz2 : (⟨(normA x.cps.toList).toArray⟩ : Str).cps.size ≤ 800000 := by
    show (normA x.cps.toList).toArray.size ≤ _
    rw [List.size_toArray]
    have : x.cps.toList.length = x.cps.size := by simp
    unfold normA
    omega
  have F2 := frK F' k2
  have N2 := newsK N' k2
  refine re_sub_lit (s := { s with heap := h2, toks := tk }) (rp := [46, 46]) (code := codeB.toList) (patB (S'.X.keeps F2.keep)) (searchB _) (by omega) (fun j hj => ⟨Nat.lt_succ_self _, hj.2.1⟩) (by omega) (by decide) (by decide) fun r hr h3 tk3 t3 k3 => ?_
  have hr' := subB hr
  rw [List.drop_zero] at hr'
  subst hr'
  have F3 := frK F2 k3
  have N3 := newsK N2 k3
  refine leaveK_ F3 N3 fun F4 N4 => ?_
  exact h t3 h3 tk3 F4 N4
end
end Mine

end

section
open PySem PySem.W PyProof.Rows PySem.Calls
set_option maxRecDepth 100000
set_option maxHeartbeats 1000000
namespace Mine
section
variable {prog : Program} {w : World} {A : Around} {E Q : Value → Shared → Prop} {s : Shared} {h₀ : Heap} {L : Addr} {m : Str → Option Value} {news : List (Addr × Obj)}
noncomputable def b64v (c : Int) : Int := if 65 ≤ c ∧ c ≤ 90 then c - 65 else if 97 ≤ c ∧ c ≤ 122 then c - 71 else if 48 ≤ c ∧ c ≤ 57 then c + 4 else if c = 43 then 62 else if c = 47 then 63 else 64
theorem endI {Q : Value → Shared → Prop} {x y : Int} {t : Tok} {s' : Shared} (e : y = x) (h : Q (.int x t) s') : Q (.int y t) s' := e ▸ h

theorem c_b64_value {c : Int} {t : Tok} (S : Sx w A h₀ L 3) (F : Fr h₀ L s.heap m) (N : News h₀ L s.heap news)
    (h : ∀ t' h' tk, Fr h₀ L h' m → News h₀ L h' news → Q (.int (b64v c) t') { s with heap := h', toks := tk }) :
    wpAny (model prog w) A (call (.ref 118) [.int c t]) Q E s := by
  refine wpAny_call (enter (k := 2) (binds := [(Str.ofString "c", .int c t)]) S F N rfl rfl (BindsTo.of_eq rfl) (locs rfl) rfl rfl rfl (by decide) fun g L' h₁ S' F' N' kp => ?_)
  repeat' walk1
  all_goals (
    refine leaveK_ F' N' fun F4 N4 => ?_
    show Q (Value.int _ _) _
    refine endI (x := b64v c) ?_ (h _ _ _ F4 N4)
    clear h S F N S' F' N' kp F4 N4
    try simp only [decide_eq_true_eq, decide_eq_false_iff_not, Bool.not_eq_true, beq_iff_eq, beq_eq_false_iff_ne] at *
    unfold b64v
    (repeat' split) <;> omega)
end
end Mine

end

section
open PySem PySem.W PyProof.Rows PySem.Calls
set_option maxRecDepth 100000
set_option maxHeartbeats 1000000
namespace Mine
open PySem.Builtin PySem.Builtin.Str PySem.Builtin._codecs
section
variable {prog : Program} {w : World} {A : Around} {E Q : Value → Shared → Prop} {s : Shared}

theorem foldl_push (l : List Nat) (out : Array UInt8) : l.foldl (fun acc y => acc ++ (asciiCodec.bytesOf y).toArray) out = out ++ (l.map (·.toUInt8)).toArray := by
  induction l generalizing out with
  | nil => simp
  | cons c l ih =>
    rw [List.foldl_cons, ih]
    simp [asciiCodec]

theorem narrow_wp {Mo : Model} {x : Str} {self : Value} {Q : Array UInt8 → Shared → Prop} (hx : x.cps.size ≤ 1000000) (ha : ∀ c ∈ x.cps, c < 128) (h : Q (x.cps.map (·.toUInt8)) s) :
    wpAny Mo A (encodeNarrow "str.encode" asciiCodec none self x) Q E s := by
  unfold encodeNarrow
  dsimp only
  rw [Std.Legacy.Range.forIn_eq_forIn_range']
  have hbad : ∀ c ∈ x.cps, asciiCodec.bad c = false := fun c hc => by
    show decide (c ≥ 128) = false
    exact decide_eq_false (by have := ha c hc; omega)
  refine wpAny_bind (wpAny_mono (Q := fun r s' => s' = s ∧ r.2.1 = x.cps.map (·.toUInt8)) ?_ (fun r s' hr => ?_) fun _ _ e => e)
  · refine wpAny_forIn_list _ (fun rest st s' => s' = s ∧ ((rest.length = x.cps.size ∧ st.1 = 0 ∧ st.2.1 = #[]) ∨ (st.1 = x.cps.size ∧ st.2.1 = x.cps.map (·.toUInt8)))) _ ?_ ?_ _ _ ⟨rfl, .inl ⟨by simp [Str.length], rfl, rfl⟩⟩
    · intro y rest st9 s' hI
      obtain ⟨i, out, st⟩ := st9
      obtain ⟨e0, hI⟩ := hI
      subst e0
      dsimp only at hI ⊢
      rcases hI with ⟨hl, e1, e2⟩ | ⟨e1, e2⟩ <;> rw [e1, e2]
      · have hpos : 0 < x.cps.size := by rw [← hl]; simp
        rw [if_neg (by simp), Array.getElem?_eq_getElem hpos]
        dsimp only
        rw [hbad _ (Array.getElem_mem _)]
        have hex : x.cps.extract 0 = x.cps := by simp
        have hf : x.cps.findIdx? asciiCodec.bad = none := by
          rw [Array.findIdx?_eq_none_iff]
          exact hbad
        rw [hex]
        rw [if_pos (show (!false) = true from rfl), hf]
        refine wpAny_pure ⟨rfl, .inr ⟨by simp, ?_⟩⟩
        rw [← Array.foldl_toList, foldl_push, ← Array.toList_inj]
        simp
      · rw [if_neg (by rw [Array.size_map, sizeLine_eq]; omega)]
        rw [Array.getElem?_eq_none (Nat.le_refl _)]
        exact wpAny_pure ⟨rfl, rfl⟩
    · intro st9 s' hI
      obtain ⟨i, out, st⟩ := st9
      obtain ⟨e0, hI⟩ := hI
      refine ⟨e0, ?_⟩
      rcases hI with ⟨hl, h1, h2⟩ | ⟨_, h2⟩
      · have : x.cps = #[] := by simpa using hl.symm
        rw [h2, this]; simp
      · exact h2
  · obtain ⟨rfl, hr⟩ := hr
    rw [hr]
    exact wpAny_pure h

theorem call_encode_ascii {x : Str} {t te : Tok} (hx : x.cps.size ≤ 1000000) (ha : ∀ c ∈ x.cps, c < 128) (h : Q (.bytes (x.cps.map (·.toUInt8)) s.toks) { s with toks := s.toks + 1 }) :
    wpAny (model prog w) A (call (.builtin "str.encode") [.str x t, .str (Str.ofString "ascii") te]) Q E s := by
  refine wpAny_call_entry F.slot_str_encode (typeIs_str _ _ _) F.entry_str_encode ?_ (F.args_str_encode_2 _ _)
  unfold Builtin.«str.encode»
  refine wpAny_bind (m := strSelf _) (wpAny_pure (a := (Value.str x t, x, [Value.str (Str.ofString "ascii") te])) ?_)
  dsimp only
  refine wpAny_bind (wpAny_of_eq (a := [some (Value.str (Str.ofString "ascii") te), none]) (by kernel_rfl) ?_)
  dsimp only
  refine wpAny_bind (wpAny_of_eq (a := some (Str.ofString "ascii")) (by kernel_rfl) ?_)
  refine wpAny_bind (wpAny_of_eq (a := none) (by kernel_rfl) ?_)
  have e : encodeRoad "str.encode" (.str x t) x ((some (Str.ofString "ascii")).getD (Str.ofString "utf-8")) none = (do mkBytes (← encodeNarrow "str.encode" asciiCodec none (.str x t) x)) := by kernel_rfl
  rw [e]
  refine wpAny_bind (wpAny_bind (narrow_wp hx ha ?_))
  unfold mkBytes
  rw [if_neg (by rw [Array.size_map, sizeLine_eq]; omega)]
  refine wpAny_bind (wpAny_fresh ?_)
  exact wpAny_pure (wpAny_pure ⟨_, rfl, h⟩)
end
end Mine

end

section
open PySem PySem.W PyProof.Rows PySem.Calls
set_option maxRecDepth 100000
set_option maxHeartbeats 1000000
namespace Mine
theorem g_bytes_types (P : Params) : nsIn (K P) mainGlobals (Str.ofString "bytes_types") = some (some (.ref 77)) := by kernel_rfl
theorem n_str (P : Params) : nsIn (K P) mainGlobals (Str.ofString "str") = some none := by kernel_rfl
theorem n_type (P : Params) : nsIn (K P) mainGlobals (Str.ofString "type") = some none := by kernel_rfl
theorem n_bytes (P : Params) : nsIn (K P) mainGlobals (Str.ofString "bytes") = some none := by kernel_rfl
theorem n_bool (P : Params) : nsIn (K P) mainGlobals (Str.ofString "bool") = some none := by kernel_rfl
theorem n_isinstance (P : Params) : nsIn (K P) mainGlobals (Str.ofString "isinstance") = some none := by kernel_rfl
local macro_rules | `(tactic| walk_at "eval Name") => `(tactic| first
  | ((with_reducible show wpAny _ _ (eval (PySem.Expr.Name (Str.ofString "bytes_types") _) _) _ _ _); refine Sx.glob (by assumption) (by assumption) (g_bytes_types _) ?_)
  | ((with_reducible show wpAny _ _ (eval (PySem.Expr.Name (Str.ofString "str") _) _) _ _ _); refine Sx.blt (by assumption) (by assumption) (n_str _) (by boot_fast) (by decide) ?_)
  | ((with_reducible show wpAny _ _ (eval (PySem.Expr.Name (Str.ofString "type") _) _) _ _ _); refine Sx.blt (by assumption) (by assumption) (n_type _) (by boot_fast) (by decide) ?_)
  | ((with_reducible show wpAny _ _ (eval (PySem.Expr.Name (Str.ofString "bytes") _) _) _ _ _); refine Sx.blt (by assumption) (by assumption) (n_bytes _) (by boot_fast) (by decide) ?_)
  | ((with_reducible show wpAny _ _ (eval (PySem.Expr.Name (Str.ofString "bool") _) _) _ _ _); refine Sx.blt (by assumption) (by assumption) (n_bool _) (by boot_fast) (by decide) ?_)
  | ((with_reducible show wpAny _ _ (eval (PySem.Expr.Name (Str.ofString "isinstance") _) _) _ _ _); refine Sx.blt (by assumption) (by assumption) (n_isinstance _) (by boot_fast) (by decide) ?_))
local macro_rules | `(tactic| walk_at "call type:type") => `(tactic| refine call_type_of (Tx := "bytes") (typeIs_bytes _ _ _) (by decide) ?_)
section
variable {prog : Program} {w : World} {A : Around} {E Q : Value → Shared → Prop} {s : Shared} {h₀ : Heap} {L : Addr} {m : Str → Option Value} {news : List (Addr × Obj)}
theorem c_ascii_buffer {b : Array UInt8} {t : Tok} (S : Sx w A h₀ L 3) (F : Fr h₀ L s.heap m) (N : News h₀ L s.heap news)
    (h : ∀ t' h' tk, Fr h₀ L h' m → News h₀ L h' news → Q (.bytes b t') { s with heap := h', toks := tk }) :
    wpAny (model prog w) A (call (.ref 104) [.bytes b t]) Q E s := by
  refine wpAny_call (enter (k := 2) (binds := [(Str.ofString "data", .bytes b t)]) S F N rfl rfl (BindsTo.of_eq rfl) (locs rfl) rfl rfl rfl (by decide) fun g L' h₁ S' F' N' kp => ?_)
  repeat' walk1
  all_goals (refine leaveK_ (by assumption) (by assumption) fun F4 N4 => ?_; exact h _ _ _ F4 N4)
theorem c_truth (S : Sx w A h₀ L 3) (F : Fr h₀ L s.heap m) (N : News h₀ L s.heap news)
    (h : ∀ h' tk, Fr h₀ L h' m → News h₀ L h' news → Q (.bool false) { s with heap := h', toks := tk }) :
    wpAny (model prog w) A (call (.ref 111) [.bool false]) Q E s := by
  refine wpAny_call (enter (k := 2) (binds := [(Str.ofString "x", .bool false)]) S F N rfl rfl (BindsTo.of_eq rfl) (locs rfl) rfl rfl rfl (by decide) fun g L' h₁ S' F' N' kp => ?_)
  repeat' walk1
  all_goals (refine leaveK_ (by assumption) (by assumption) fun F4 N4 => ?_; exact h _ _ F4 N4)
theorem bt_at {w : World} {h : Heap} (X : (K w.params).In h) : h.get? 77 = some ⟨.type "tuple", none, .seq ([.type "bytes", .type "bytearray"] : List Value).toArray 0, #[]⟩ := X 77 _ rfl
theorem isi_bytes_str {b : Array UInt8} {t : Tok} (S : Sx w A h₀ L 1) (F : Fr h₀ L s.heap m) (h : ∀ tk, Q (.bool false) { s with toks := tk }) : wpAny (model prog w) A (call (.builtin "isinstance") [.bytes b t, .type "str"]) Q E s :=
  kia_one kitx_bytes (S.X.keeps F.keep) trivial (b := false) (by kernel_rfl) (by intro e; cases e) h
theorem isi_bytes_tup {b : Array UInt8} {t : Tok} (S : Sx w A h₀ L 1) (F : Fr h₀ L s.heap m) (h : ∀ tk, Q (.bool true) { s with toks := tk }) : wpAny (model prog w) A (call (.builtin "isinstance") [.bytes b t, .ref 77]) Q E s :=
  kia_tup kitx_bytes (S.X.keeps F.keep) trivial (bt_at (S.X.keeps F.keep)) (b := true) (by kernel_rfl) (by intro e; cases e) h
end
local macro_rules | `(tactic| walk_at "call builtin:isinstance") => `(tactic| first
  | (refine isi_bytes_str (Sx.less (by assumption) (by omega)) (by assumption) ?_; intro _)
  | (refine isi_bytes_tup (Sx.less (by assumption) (by omega)) (by assumption) ?_; intro _))
local macro_rules | `(tactic| walk_at "getMethod str") => `(tactic| refine getMethod_builtin (T := "str") (typeIs_str _ _ _) PySem.F.plainAttrs_str PySem.F.slot_str_encode PySem.F.type_str_encode (fun _ e => nomatch e) ?_)
local macro_rules | `(tactic| walk_at "call builtin:str.encode") => `(tactic| refine call_encode_ascii (by assumption) (by assumption) ?_)
local macro_rules | `(tactic| walk_at "LeaveK") => `(tactic| refine leaveK_ (by assumption) (by assumption) (fun F4 N4 => ?_))
local macro_rules | `(tactic| walk_at "call type:type") => `(tactic| (with_reducible show wpAny _ _ (call _ [Value.bool _]) _ _ _; refine call_type_of (Tx := "bool") rfl (by decide) ?_))
section
variable {prog : Program} {w : World} {A : Around} {E Q : Value → Shared → Prop} {s : Shared} {h₀ : Heap} {L : Addr} {m : Str → Option Value} {news : List (Addr × Obj)}
theorem c_bfdd_bytes {b : Array UInt8} {t : Tok} (S : Sx w A h₀ L 3) (F : Fr h₀ L s.heap m) (N : News h₀ L s.heap news)
    (h : ∀ t' h' tk, Fr h₀ L h' m → News h₀ L h' news → Q (.bytes b t') { s with heap := h', toks := tk }) :
    wpAny (model prog w) A (call (.ref 84) [.bytes b t]) Q E s := by
  refine wpAny_call (enter (k := 2) (binds := [(Str.ofString "s", .bytes b t)]) S F N rfl rfl (BindsTo.of_eq rfl) (locs rfl) rfl rfl rfl (by decide) fun g L' h₁ S' F' N' kp => ?_)
  repeat' walk1
  all_goals exact h _ _ _ (by assumption) (by assumption)
theorem c_bfdd_str {x : Str} {t : Tok} (S : Sx w A h₀ L 3) (F : Fr h₀ L s.heap m) (N : News h₀ L s.heap news) (hx : x.cps.size ≤ 1000000) (ha : ∀ c ∈ x.cps, c < 128)
    (h : ∀ t' h' tk, Fr h₀ L h' m → News h₀ L h' news → Q (.bytes (x.cps.map (·.toUInt8)) t') { s with heap := h', toks := tk }) :
    wpAny (model prog w) A (call (.ref 84) [.str x t]) Q E s := by
  refine wpAny_call (enter (k := 2) (binds := [(Str.ofString "s", .str x t)]) S F N rfl rfl (BindsTo.of_eq rfl) (locs rfl) rfl rfl rfl (by decide) fun g L' h₁ S' F' N' kp => ?_)
  repeat' walk1
  all_goals exact h _ _ _ (by assumption) (by assumption)
end
end Mine

end

section
open PySem PySem.W PyProof.Rows PySem.Calls
set_option maxRecDepth 100000
namespace Mine
theorem map1 {m : Str → Option Value} {a : Str} {va : Value} (ha : m a = some va) : m = fun y => if y = a then some va else m y := by
  funext y; split
  · rename_i e; rw [e, ha]
  · rfl
theorem map2 {m : Str → Option Value} {a b : Str} {va vb : Value} (ha : m a = some va) (hb : m b = some vb) : m = fun y => if y = a then some va else if y = b then some vb else m y := by
  funext y; repeat' (split; (rename_i e; rw [e]; assumption))
  rfl
theorem map3 {m : Str → Option Value} {a b c : Str} {va vb vc : Value} (ha : m a = some va) (hb : m b = some vb) (hc : m c = some vc) : m = fun y => if y = a then some va else if y = b then some vb else if y = c then some vc else m y := by
  funext y; repeat' (split; (rename_i e; rw [e]; assumption))
  rfl
theorem map4 {m : Str → Option Value} {a b c d : Str} {va vb vc vd : Value} (ha : m a = some va) (hb : m b = some vb) (hc : m c = some vc) (hd : m d = some vd) : m = fun y => if y = a then some va else if y = b then some vb else if y = c then some vc else if y = d then some vd else m y := by
  funext y; repeat' (split; (rename_i e; rw [e]; assumption))
  rfl
open PySem.W.KBw (bInts ints_length ints_get ints_in IsBytesIter)
section
variable {prog : Program} {w : World} {A : Around} {E : Value → Shared → Prop} {s : Shared} {env : Env} {h₀ : Heap} {x : Str} {body : List Stmt} {Q : Flow → Shared → Prop}
theorem turn_mono {M : Model} {J : (Str → Option Value) → List (Addr × Obj) → Prop} {L : Addr} {own : List (Addr × Obj)} {adr : List Addr} {s₁ : Shared} {c : Sem Flow}
    (h : wpAny M A c (InvPostN h₀ L J own adr s₁ (fun _ _ => False)) (fun _ _ => False) s) : wpAny M A c (InvPostN h₀ L J own adr s₁ Q) E s :=
  wpAny_mono h (fun f _ p => by cases f <;> first | exact p.elim | exact p) fun _ _ e => e.elim
noncomputable def TurnEnd (h₀ : Heap) (L : Addr) (J : (Str → Option Value) → List (Addr × Obj) → Prop) (own : List (Addr × Obj)) (adr : List Addr) (s₁ : Shared) (f : Flow) (s' : Shared) : Prop := InvPostN h₀ L J own adr s₁ (fun _ _ => False) f s'
theorem turn_stop {M : Model} {J : (Str → Option Value) → List (Addr × Obj) → Prop} {L : Addr} {own : List (Addr × Obj)} {adr : List Addr} {s₁ : Shared} {c : Sem Flow}
    (h : wpAny M A c (TurnEnd h₀ L J own adr s₁) (fun _ _ => False) s) : wpAny M A c (InvPostN h₀ L J own adr s₁ Q) E s := turn_mono h
theorem InvEndN.one {J : (Str → Option Value) → List (Addr × Obj) → Prop} {L lp : Addr} {o o0 : Obj} {own news : List (Addr × Obj)} {s₁ : Shared} {h' : Heap} {tk : Nat} {m' : Str → Option Value}
    (F : Fr h₀ L h' m') (N : News h₀ L h' (((lp, o) :: news) ++ own)) (hj : J m' ((lp, o) :: news)) : InvEndN h₀ L J own (((lp, o0) :: news).map (·.1)) s₁ { s₁ with heap := h', toks := tk } :=
  ⟨_, _, _, _, (lp, o) :: news, rfl, F, N, fun _ hp => List.mem_append.mpr (.inl hp), fun _ hp => List.mem_append.mpr (.inr hp), rfl, hj⟩
theorem snocI {vs : List Value} {ns : List Int} {x y : Int} {t : Tok} (h : IntsAre vs ns) (e : y = x) : IntsAre (vs ++ [.int y t]) (ns ++ [x]) := by
  rw [e]; exact PyProof.Rows.IntsAre.append h (.cons _ _ .nil)
theorem iter_bytesJ {b : Array UInt8} {tb : Tok} {m₀ : Str → Option Value} {news : List (Addr × Obj)} (J : Nat → (Str → Option Value) → List (Addr × Obj) → Prop)
    (hh : A.handled = none) (F : Fr h₀ env.locals s.heap m₀) (N : News h₀ env.locals s.heap news) (hj : J 0 m₀ news)
    (turn : ∀ i n t m₁ news₁ h tk own, (bInts b)[i]? = some n → news₁.map (·.1) = news.map (·.1) → OwnOff own (news.map (·.1)) → J i m₁ news₁ → Fr h₀ env.locals h (fun y => if y = x then some (.int n t) else m₁ y) → News h₀ env.locals h (news₁ ++ own) →
      wpAny (model prog w) A (execs body env) (InvPostN h₀ env.locals (J (i + 1)) own (news.map (·.1)) { s with heap := h, toks := tk } Q) E { s with heap := h, toks := tk })
    (done : ∀ m₁ news₁ h tk, J (bInts b).length m₁ news₁ → Fr h₀ env.locals h m₁ → News h₀ env.locals h news₁ → Q .next { s with heap := h, toks := tk }) :
    wpAny (model prog w) A (pyIter (.bytes b tb)) (fun it s₂ => LoopAtV prog w A h₀ env x body Q E it s₂) E s := by
  refine KBw.pyIter_bytes ?_
  have W := KBw.walks (prog := prog) (w := w) hh s.heap.objs.size b tb
  rw [← ints_length b] at W
  let J' : Nat → (Str → Option Value) → List (Addr × Obj) → Prop := fun i m₁ news₁ => news₁.map (·.1) = news.map (·.1) ∧ J i m₁ news₁
  refine ⟨_, _, _, (bInts b).length, _, _, m₀, news, J', rfl, W, ?_, ?_, ?_, ⟨_, Heap.get?_push_size _ rfl, rfl, rfl⟩, F.push _, (fun p hp => ⟨Heap.get?_push_of_some _ (N p hp).1, (N p hp).2⟩), ⟨rfl, hj⟩, ?_, ?_⟩
  · intro hm
    exact absurd F.ns.lt ((List.mem_singleton.mp hm) ▸ Nat.lt_irrefl _)
  · intro b hb
    rw [List.mem_singleton.mp hb]
    exact next_is_new F
  · intro p hp hI
    exact absurd (Heap.lt_size (N p hp).1) ((List.mem_singleton.mp hI) ▸ Nat.lt_irrefl _)
  · rintro i v m₁ news₁ s₁ own ⟨hh', tk', rfl⟩ hin hP ⟨hadr, hJ⟩ hoff hown _ _ _ F₁ N₁
    have hsep : OwnOff own (news.map (·.1)) := by
      intro p hp b hb e
      obtain ⟨q, hq, rfl⟩ := List.mem_map.mp hb
      have h1 := List.mem_singleton.mp (hown p hp)
      exact absurd (Heap.lt_size (N q hq).1) (by rw [← e, h1]; exact Nat.lt_irrefl _)
    obtain ⟨c, u, hc, rfl⟩ := hP
    have N₂ : News h₀ env.locals hh' (news₁ ++ own) := fun p hp => N₁ p ((List.mem_append.mp hp).elim (fun h => List.mem_append.mpr (.inr h)) fun h => List.mem_append.mpr (.inl h))
    refine wpAny_mono (turn i _ u m₁ news₁ hh' tk' own (ints_get hc) hadr hsep hJ F₁ N₂) (fun f s₂ p => ?_) fun _ _ e => e
    have fin : InvEndN h₀ env.locals (J (i + 1)) own (news.map (·.1)) { s with heap := hh', toks := tk' } s₂ → LoopStepU h₀ env.locals [s.heap.objs.size] own (J' (i + 1)) { s with heap := hh', toks := tk' } .next s₂ := by
      rintro ⟨h', tk, m', news', nx, e, F', N', hn, ho, ha, hm⟩
      refine ⟨rfl, h', tk, m', nx, e, F', fun p hp => N' p ((List.mem_append.mp hp).elim (ho p) (hn p)), fun p hp hq => ?_, ha, hm⟩
      have h1 : p.1 ∈ nx.map (·.1) := List.mem_map.mpr ⟨p, hp, rfl⟩
      rw [ha, ← hadr] at h1
      obtain ⟨q, hq1, hq2⟩ := List.mem_map.mp h1
      exact hoff q hq1 (by rw [hq2]; exact hq)
    cases f with
    | ret v => exact .ret p
    | brk => exact .brk p
    | next => exact .next (fin p)
    | cont => exact .cont (fin p)
  · rintro h' tk m' news' F' N' _ ⟨_, hJ⟩
    exact done m' news' h' tk hJ F' N'
end
end Mine

end

section
open PySem PySem.W PyProof.Rows PySem.Calls
set_option maxRecDepth 100000
namespace Mine
open PySem.Builtin
theorem f64 {P : Int → Prop} (h : ∀ v : Fin 64, P ((v.val : Nat) : Int)) {x : Int} (h0 : 0 ≤ x) (h1 : x < 64) : P x := by
  have := h ⟨x.toNat, by omega⟩
  rw [show ((x.toNat : Nat) : Int) = x by omega] at this
  exact this
theorem bits64 {x : Int} (h0 : 0 ≤ x) (h1 : x < 64) : (Builtin.Int.intBits x : Int) ≤ 6 := f64 (P := fun x => (Builtin.Int.intBits x : Int) ≤ 6) (by decide +kernel) h0 h1
theorem bits_l {x n : Int} (h : 0 ≤ x ∧ x < 64) (hn : n ≤ 6) : (Builtin.Int.intBits x : Int) + n ≤ 2 ^ 27 := by
  have := bits64 h.1 h.2
  omega
theorem or1 {l v : Int} (hl : 0 ≤ l ∧ l < 64) (hv : 0 ≤ v ∧ v < 64) : bitOr (l * 2 ^ (2 : Int).toNat) (v.fdiv (2 ^ (4 : Int).toNat)) = l * 4 + v / 16 :=
  f64 (P := fun l => bitOr (l * 2 ^ (2 : Int).toNat) (v.fdiv (2 ^ (4 : Int).toNat)) = l * 4 + v / 16) (fun a => f64 (P := fun v => bitOr ((a.val : Int) * 2 ^ (2 : Int).toNat) (v.fdiv (2 ^ (4 : Int).toNat)) = (a.val : Int) * 4 + v / 16) (fun b => by revert a b; decide +kernel) hv.1 hv.2) hl.1 hl.2
theorem or2 {l v : Int} (hl : 0 ≤ l ∧ l < 64) (hv : 0 ≤ v ∧ v < 64) : bitOr (l * 2 ^ (4 : Int).toNat) (v.fdiv (2 ^ (2 : Int).toNat)) = l * 16 + v / 4 :=
  f64 (P := fun l => bitOr (l * 2 ^ (4 : Int).toNat) (v.fdiv (2 ^ (2 : Int).toNat)) = l * 16 + v / 4) (fun a => f64 (P := fun v => bitOr ((a.val : Int) * 2 ^ (4 : Int).toNat) (v.fdiv (2 ^ (2 : Int).toNat)) = (a.val : Int) * 16 + v / 4) (fun b => by revert a b; decide +kernel) hv.1 hv.2) hl.1 hl.2
theorem or3 {l v : Int} (hl : 0 ≤ l ∧ l < 64) (hv : 0 ≤ v ∧ v < 64) : bitOr (l * 2 ^ (6 : Int).toNat) v = l * 64 + v :=
  f64 (P := fun l => bitOr (l * 2 ^ (6 : Int).toNat) v = l * 64 + v) (fun a => f64 (P := fun v => bitOr ((a.val : Int) * 2 ^ (6 : Int).toNat) v = (a.val : Int) * 64 + v) (fun b => by revert a b; decide +kernel) hv.1 hv.2) hl.1 hl.2
theorem and15 {v : Int} (hv : 0 ≤ v ∧ v < 64) : bitAnd v 15 = v % 16 := f64 (P := fun v => bitAnd v 15 = v % 16) (by decide +kernel) hv.1 hv.2
theorem and3 {v : Int} (hv : 0 ≤ v ∧ v < 64) : bitAnd v 3 = v % 4 := f64 (P := fun v => bitAnd v 3 = v % 4) (by decide +kernel) hv.1 hv.2
end Mine

end

section
open PySem PySem.W PyProof.Rows PySem.Calls
set_option maxRecDepth 100000
set_option maxHeartbeats 1000000
namespace Mine
open PySem.W.KBw (bInts)
/-- out, quad_pos, leftchar -/
noncomputable abbrev St64 := List Int × Int × Int
noncomputable def g64 (a : St64) (c : Int) : St64 :=
  if b64v c ≥ 64 then a else
  if a.2.1 = 0 then (a.1, 1, b64v c)
  else if a.2.1 = 1 then (a.1 ++ [(a.2.2 * 4 + b64v c / 16)], 2, b64v c % 16)
  else if a.2.1 = 2 then (a.1 ++ [(a.2.2 * 16 + b64v c / 4)], 3, b64v c % 4)
  else (a.1 ++ [(a.2.2 * 64 + b64v c)], 0, 0)
noncomputable def mA (b : Array UInt8) (lp : Addr) (td ta : Tok) (q : Int) (tq : Tok) (l : Int) (tl tp : Tok) (iv : Int) (ti : Tok) (r : Str → Option Value) : Str → Option Value := fun y =>
  if y = Str.ofString "i" then some (.int iv ti) else if y = Str.ofString "pads" then some (.int 0 tp) else if y = Str.ofString "leftchar" then some (.int l tl) else if y = Str.ofString "quad_pos" then some (.int q tq)
  else if y = Str.ofString "out" then some (.ref lp) else if y = Str.ofString "ascii_data" then some (.bytes b ta) else if y = Str.ofString "strict_mode" then some (.bool false) else if y = Str.ofString "data" then some (.bytes b td) else r y
structure MA (b : Array UInt8) (lp : Addr) (q l : Int) (m : Str → Option Value) : Prop where
  d : ∃ t, m (Str.ofString "data") = some (.bytes b t)
  sm : m (Str.ofString "strict_mode") = some (.bool false)
  asc : ∃ t, m (Str.ofString "ascii_data") = some (.bytes b t)
  out : m (Str.ofString "out") = some (.ref lp)
  q : ∃ t, m (Str.ofString "quad_pos") = some (.int q t)
  l : ∃ t, m (Str.ofString "leftchar") = some (.int l t)
  p : ∃ t, m (Str.ofString "pads") = some (.int 0 t)
  i : ∃ v t, m (Str.ofString "i") = some (.int v t)
theorem MA.map {b : Array UInt8} {lp : Addr} {q l : Int} {m : Str → Option Value} (h : MA b lp q l m) : ∃ td ta tq tl tp iv ti r, m = mA b lp td ta q tq l tl tp iv ti r := by
  obtain ⟨⟨td, h1⟩, h2, ⟨ta, h3⟩, h4, ⟨tq, h5⟩, ⟨tl, h6⟩, ⟨tp, h7⟩, ⟨iv, ti, h8⟩⟩ := h
  refine ⟨td, ta, tq, tl, tp, iv, ti, m, ?_⟩
  funext y
  unfold mA
  repeat' (split; (rename_i e; rw [e]; assumption))
  rfl
theorem g64_skip {a : St64} {c : Int} (h : b64v c ≥ 64) : g64 a c = a := by unfold g64; rw [if_pos h]
theorem g64_0 {a : St64} {c : Int} (h : ¬ b64v c ≥ 64) (h0 : a.2.1 = 0) : g64 a c = (a.1, 1, b64v c) := by unfold g64; rw [if_neg h, if_pos h0]
theorem g64_1 {a : St64} {c : Int} (h : ¬ b64v c ≥ 64) (h1 : a.2.1 = 1) : g64 a c = (a.1 ++ [(a.2.2 * 4 + b64v c / 16)], 2, b64v c % 16) := by unfold g64; rw [if_neg h, if_neg (by omega), if_pos h1]
theorem g64_2 {a : St64} {c : Int} (h : ¬ b64v c ≥ 64) (h2 : a.2.1 = 2) : g64 a c = (a.1 ++ [(a.2.2 * 16 + b64v c / 4)], 3, b64v c % 4) := by unfold g64; rw [if_neg h, if_neg (by omega), if_neg (by omega), if_pos h2]
theorem g64_3 {a : St64} {c : Int} (h : ¬ b64v c ≥ 64) (h0 : a.2.1 ≠ 0) (h1 : a.2.1 ≠ 1) (h2 : a.2.1 ≠ 2) : g64 a c = (a.1 ++ [(a.2.2 * 64 + b64v c)], 0, 0) := by unfold g64; rw [if_neg h, if_neg h0, if_neg h1, if_neg h2]
theorem b64v_in (c : Int) : 0 ≤ b64v c ∧ b64v c ≤ 64 := by unfold b64v; (repeat' split) <;> omega
noncomputable def In64 (a : St64) : Prop := (∀ n ∈ a.1, 0 ≤ n ∧ n < 256) ∧ (a.2.1 = 0 ∧ a.2.2 = 0 ∨ a.2.1 = 1 ∧ 0 ≤ a.2.2 ∧ a.2.2 < 64 ∨ a.2.1 = 2 ∧ 0 ≤ a.2.2 ∧ a.2.2 < 16 ∨ a.2.1 = 3 ∧ 0 ≤ a.2.2 ∧ a.2.2 < 4)
theorem In64.l {a : St64} (h : In64 a) : 0 ≤ a.2.2 ∧ a.2.2 < 64 := by rcases h.2 with h | h | h | h <;> omega
theorem in_snoc {l : List Int} {x : Int} (h : ∀ n ∈ l, 0 ≤ n ∧ n < 256) (hx : 0 ≤ x ∧ x < 256) : ∀ n ∈ l ++ [x], 0 ≤ n ∧ n < 256 := by
  intro n hn
  rcases List.mem_append.mp hn with hn | hn
  · exact h n hn
  · rw [List.mem_singleton.mp hn]; exact hx
theorem in64_0 : In64 ([], 0, 0) := And.intro (fun _ e => nomatch e) (Or.inl ⟨rfl, rfl⟩)
theorem In64.step {a : St64} (h : In64 a) (c : Int) : In64 (g64 a c) := by
  have hv := b64v_in c
  by_cases hc : b64v c ≥ 64
  · rw [g64_skip hc]; exact h
  obtain ⟨h1, h2 | h2 | h2 | h2⟩ := h
  · rw [g64_0 hc h2.1]; exact ⟨h1, .inr (.inl ⟨rfl, by dsimp only; omega⟩)⟩
  · rw [g64_1 hc h2.1]; exact ⟨in_snoc h1 (by omega), .inr (.inr (.inl ⟨rfl, by dsimp only; omega⟩))⟩
  · rw [g64_2 hc h2.1]; exact ⟨in_snoc h1 (by omega), .inr (.inr (.inr ⟨rfl, by dsimp only; omega⟩))⟩
  · rw [g64_3 hc (by omega) (by omega) (by omega)]; exact ⟨in_snoc h1 (by omega), .inl ⟨rfl, rfl⟩⟩
theorem In64.fold {l : List Int} : ∀ {a : St64}, In64 a → In64 (l.foldl g64 a) := by
  induction l with
  | nil => exact fun h => h
  | cons c l ih => exact fun h => ih (h.step c)
theorem len64 (l : List Int) : ∀ a : St64, (l.foldl g64 a).1.length ≤ a.1.length + l.length := by
  induction l with
  | nil => intro a; exact Nat.le_refl _
  | cons c l ih =>
    intro a
    refine Nat.le_trans (ih _) ?_
    have : (g64 a c).1.length ≤ a.1.length + 1 := by
      unfold g64; (repeat' split) <;> simp
    rw [List.length_cons]; omega
theorem g_abuf (P : Params) : nsIn (K P) mainGlobals (Str.ofString "_ascii_buffer") = some (some (.ref 104)) := by kernel_rfl
theorem g_truth (P : Params) : nsIn (K P) mainGlobals (Str.ofString "_truth") = some (some (.ref 111)) := by kernel_rfl
theorem g_b64value (P : Params) : nsIn (K P) mainGlobals (Str.ofString "_b64_value") = some (some (.ref 118)) := by kernel_rfl
local macro_rules | `(tactic| walk_at "eval Name") => `(tactic| first
  | ((with_reducible show wpAny _ _ (eval (PySem.Expr.Name (Str.ofString "_ascii_buffer") _) _) _ _ _); refine Sx.glob (by assumption) (by assumption) (g_abuf _) ?_)
  | ((with_reducible show wpAny _ _ (eval (PySem.Expr.Name (Str.ofString "_truth") _) _) _ _ _); refine Sx.glob (by assumption) (by assumption) (g_truth _) ?_)
  | ((with_reducible show wpAny _ _ (eval (PySem.Expr.Name (Str.ofString "_b64_value") _) _) _ _ _); refine Sx.glob (by assumption) (by assumption) (g_b64value _) ?_)
  | ((with_reducible show wpAny _ _ (eval (PySem.Expr.Name (Str.ofString "bytes") _) _) _ _ _); refine Sx.blt (by assumption) (by assumption) (n_bytes _) (by boot_fast) (by decide) ?_))
local macro_rules | `(tactic| walk_at "binaryOp LShift int int") => `(tactic| refine lshift_int (by decide) (bits_l (by assumption) (by decide)) ?_)
local macro_rules | `(tactic| walk_at "call builtin:list.append") => `(tactic| (refine append_head (by assumption) (by assumption) (by assumption) ?_ (by assumption); intro _ _ _))
local macro_rules | `(tactic| walk_at "callWith ref") => `(tactic| refine Sx.fn (by assumption) (by with_unfolding_all rfl) (by with_unfolding_all rfl) ?_)
local macro_rules | `(tactic| walk_at "Held") => `(tactic| refine Held.intro (by assumption) ?_)
local macro_rules | `(tactic| walk_at "call ref") => `(tactic| first
  | (refine c_ascii_buffer (Sx.less (by assumption) (by omega)) (by assumption) (by assumption) ?_; intro _ _ _ _ _)
  | (refine c_truth (Sx.less (by assumption) (by omega)) (by assumption) (by assumption) ?_; intro _ _ _ _)
  | (refine c_b64_value (Sx.less (by assumption) (by omega)) (by assumption) (by assumption) ?_; intro _ _ _ _ _))
section
variable {prog : Program} {w : World} {A : Around} {E Q : Value → Shared → Prop} {s : Shared} {h₀ : Heap} {L : Addr} {m : Str → Option Value} {news : List (Addr × Obj)}
theorem c_a2b {b : Array UInt8} {t : Tok} (S : Sx w A h₀ L 9) (F : Fr h₀ L s.heap m) (N : News h₀ L s.heap news) (hb : b.size ≤ 500000) (hne : ∀ k ∈ bInts b, k ≠ 61)
    {o : List Int} {l' : Int} (hr : (bInts b).foldl g64 ([], 0, 0) = (o, 0, l'))
    (h : ∀ t' h' tk, Fr h₀ L h' m → News h₀ L h' news → Q (.bytes (byteArr o) t') { s with heap := h', toks := tk }) :
    wpAny (model prog w) A (call (.ref 126) [.bytes b t] [(Str.ofString "strict_mode", .bool false)]) Q E s := by
  refine wpAny_call (enter (k := 8) (binds := [(Str.ofString "data", .bytes b t), (Str.ofString "strict_mode", .bool false)]) S F N rfl rfl (BindsTo.of_eq rfl) (locs rfl) rfl rfl rfl (by decide) fun g L' h₁ S' F' N' kp => ?_)
  repeat' walk1
  rename Fr g L' _ _ => FF
  rename News g L' _ _ => NN
  generalize hlp : Array.size (Heap.objs _) = lp at FF NN ⊢
  have hfr : ∀ p ∈ news, p.1 ≠ lp := by
    intro p hp e
    have h1 := Heap.lt_size ((by assumption : News g L' _ news) p hp).1
    rw [e, ← hlp] at h1
    exact Nat.lt_irrefl _ h1
  clear hlp
  refine For_invV g rfl rfl (ld FF rfl ?_)
  refine iter_bytesJ (fun i m nx => ∃ its n, IntsAre its (((bInts b).take i).foldl g64 ([], 0, 0)).1 ∧ nx = (lp, listOf its.toArray n) :: news ∧ MA b lp (((bInts b).take i).foldl g64 ([], 0, 0)).2.1 (((bInts b).take i).foldl g64 ([], 0, 0)).2.2 m) S'.hh FF NN ?_ ?_ ?_
  · exact ⟨[], 0, IntsAre.nil, rfl, ⟨_, rfl⟩, rfl, ⟨_, rfl⟩, rfl, ⟨_, rfl⟩, ⟨_, rfl⟩, ⟨_, rfl⟩, ⟨_, _, rfl⟩⟩
  · rintro i k tk m₁ n₁ h2 tk2 own hk hadr hoff ⟨its, n, hi, rfl, hm⟩ F2 N2
    obtain ⟨td, ta, tq, tl, tp, iv, ti, r, rfl⟩ := hm.map
    generalize hx : ((bInts b).take i).foldl g64 ([], 0, 0) = a at hi F2 N2 ⊢
    clear hm FF NN F' N'
    unfold mA at F2
    refine turn_stop ?_
    clear h
    have hk61 : k ≠ 61 := hne _ (List.mem_of_getElem? hk)
    have hin : In64 a := hx ▸ In64.fold in64_0
    have hlen : a.1.length ≤ i := by
      have := len64 ((bInts b).take i) ([], 0, 0)
      rw [hx] at this
      simp only [List.length_nil, List.length_take] at this
      omega
    have hib : i < 500000 := by
      have := (List.getElem?_eq_some_iff.mp hk).1
      rw [KBw.ints_length] at this
      omega
    have hl := hin.l
    have hv := b64v_in k
    have hstep : ((bInts b).take (i + 1)).foldl g64 ([], 0, 0) = g64 a k := by
      rw [List.take_add_one, hk, List.foldl_append, hx]; rfl
    have hits := hi.length
    have hap : ∀ p ∈ news ++ own, p.1 ≠ lp := fun p hp => (List.mem_append.mp hp).elim (hfr p) fun h => hoff p h lp (.head _)
    have hz : its.toArray.size ≤ sizeLine := by rw [sizeLine_eq, List.size_toArray, hits]; omega
    repeat' walk1
    all_goals try exact absurd (by assumption) hk61
    all_goals (
      rename Fr g L' _ _ => FF
      rename News g L' _ _ => NN
      refine InvEndN.one FF NN ?_
      rw [hstep])
    · rw [g64_skip (by assumption)]
      exact ⟨its, n, hi, rfl, ⟨_, rfl⟩, rfl, ⟨_, rfl⟩, rfl, ⟨_, rfl⟩, ⟨_, rfl⟩, ⟨_, rfl⟩, ⟨_, _, rfl⟩⟩
    · rw [g64_0 (by assumption) (by assumption)]
      exact ⟨its, n, hi, rfl, ⟨_, rfl⟩, rfl, ⟨_, rfl⟩, rfl, ⟨_, rfl⟩, ⟨_, rfl⟩, ⟨_, rfl⟩, ⟨_, _, rfl⟩⟩
    · have hv' : 0 ≤ b64v k ∧ b64v k < 64 := ⟨hv.1, Int.not_le.mp (by assumption)⟩
      rw [g64_1 (by assumption) (by assumption)]
      exact ⟨_, _, snocI hi (or1 hl hv'), by rw [List.push_toArray], ⟨_, rfl⟩, rfl, ⟨_, rfl⟩, rfl, ⟨_, rfl⟩, ⟨_, by rw [← and15 hv']; rfl⟩, ⟨_, rfl⟩, ⟨_, _, rfl⟩⟩
    · have hv' : 0 ≤ b64v k ∧ b64v k < 64 := ⟨hv.1, Int.not_le.mp (by assumption)⟩
      rw [g64_2 (by assumption) (by assumption)]
      exact ⟨_, _, snocI hi (or2 hl hv'), by rw [List.push_toArray], ⟨_, rfl⟩, rfl, ⟨_, rfl⟩, rfl, ⟨_, rfl⟩, ⟨_, by rw [← and3 hv']; rfl⟩, ⟨_, rfl⟩, ⟨_, _, rfl⟩⟩
    · have hv' : 0 ≤ b64v k ∧ b64v k < 64 := ⟨hv.1, Int.not_le.mp (by assumption)⟩
      rw [g64_3 (by assumption) (by assumption) (by assumption) (by assumption)]
      exact ⟨_, _, snocI hi (or3 hl hv'), by rw [List.push_toArray], ⟨_, rfl⟩, rfl, ⟨_, rfl⟩, rfl, ⟨_, rfl⟩, ⟨_, rfl⟩, ⟨_, rfl⟩, ⟨_, _, rfl⟩⟩
  · rintro m₁ n₁ h2 tk2 ⟨its, n, hi, rfl, hm⟩ F2 N2
    rw [List.take_length, hr] at hi hm
    obtain ⟨td, ta, tq, tl, tp, iv, ti, r, rfl⟩ := hm.map
    have hin : In64 (o, 0, l') := hr ▸ In64.fold in64_0
    have hlen : o.length ≤ b.size := by
      have := len64 (bInts b) ([], 0, 0)
      rw [hr, KBw.ints_length] at this
      simp only [List.length_nil] at this
      omega
    have hits := hi.length
    have hsl := sizeLine_eq
    clear hm FF NN F' N'
    unfold mA at F2
    have hlist : h2.IsList lp its.toArray := ⟨_, (N2 _ (.head _)).1, rfl, _, rfl⟩
    repeat' walk1
    all_goals first
      | (exfalso; dsimp only at *; omega)
      | (refine call_bytes_ints (vs := its) ?hl hi hin.1 ?hz S'.hh fun h5 t5 k5 kk => ?_
         case hl => exact hlist
         case hz => (dsimp only at hits; omega)
         have F3 := frK F2 kk
         have N3 := newsK N2 kk
         refine leaveK_ F3 (fun p hp => N3 p (.tail _ hp)) fun F4 N4 => ?_
         exact h _ _ _ F4 N4)
end
end Mine

end

section
open PySem PySem.W PyProof.Rows PySem.Calls
set_option maxRecDepth 100000
namespace Mine
open PySem.Builtin
theorem slot_bytes_tr : Slot "bytes" "translate" "bytes.translate" :=
  .of (owner := "bytes") (n := "translate") (by rw [typeLookup_type, builtinLookup_eq_fast]; kernel_rfl) (by decide +kernel) (by decide +kernel) (by decide +kernel)
    (by first | exact .inl (by decide +kernel) | exact .inr (by decide +kernel)) (by rw [isSubtype_type]; kernel_rfl)
theorem type_bytes_tr : typeOf (.builtin "bytes.translate") = pure (.type "method_descriptor") := by show builtinType _ = _; rw [builtinType_eq_fast]; kernel_rfl
theorem entry_bytes_tr : entryFor table "bytes.translate" = some Builtin.«bytes.translate» := entryFor_of_tree (by kernel_rfl)
theorem args_bytes_tr (a b : Value) : argsOk "bytes.translate" ⟨[a, b], []⟩ := by unfold argsOk; kernel_rfl
theorem entry_bytes_mt : entryFor table "bytes.maketrans" = some Builtin.«bytes.maketrans» := entryFor_of_tree (by kernel_rfl)
theorem check_mt (a b : Value) : checkBuiltinCall "bytes.maketrans" ⟨[a, b], []⟩ = pure () := by kernel_rfl
theorem find_mt : findCls [] (.type "bytes") (.type "type") (Str.ofString "maketrans") = some (.val (.builtin "bytes.maketrans")) := by kernel_rfl
theorem ty_bytes : typeOf (.type "bytes") = pure (.type "type") := by kernel_rfl
theorem ty_bytesV {b : Array UInt8} {t : Tok} : typeOf (.bytes b t) = pure (.type "bytes") := rfl
noncomputable def tblOf (frm to : Array UInt8) : Array UInt8 := (frm.toList.zip to.toList).foldl (fun t (f, x) => t.setIfInBounds f.toNat x) ((Array.range 256).map (·.toUInt8))
section
variable {prog : Program} {w : World} {A : Around} {E Q : Value → Shared → Prop} {s : Shared} {h₀ : Heap} {L : Addr} {m : Str → Option Value}
theorem get_maketrans {pl : Sem Bool} {Q : Value × List Value → Shared → Prop} (F : Fr h₀ L s.heap m) (h : ∀ k, Q (.builtin "bytes.maketrans", []) { s with toks := k }) :
    wpAny (model prog w) A (getMethod (.type "bytes") (Str.ofString "maketrans") pl) Q E s :=
by
  have X : Frag.In ([] : Frag) h₀ := by intro a o e; cases e
  have hs : Manifest.isStub "bytes" = false := by decide +kernel
  have hh : handedIn (.builtin "bytes.maketrans") = true := by decide +kernel
  exact method_type (v := .builtin "bytes.maketrans") (T := "bytes") (name := Str.ofString "maketrans") (K := []) F X ty_bytes hs find_mt hh (h _)
theorem tbl_size (l : List (UInt8 × UInt8)) : ∀ t : Array UInt8, (l.foldl (fun t (p : UInt8 × UInt8) => t.setIfInBounds p.1.toNat p.2) t).size = t.size := by
  induction l with
  | nil => intro t; rfl
  | cons a l ih => intro t; rw [List.foldl_cons, ih, Array.size_setIfInBounds]
theorem tblOf_size (a b : Array UInt8) : (tblOf a b).size = 256 := by
  unfold tblOf
  rw [tbl_size]; decide +kernel
theorem call_maketrans {a b : Array UInt8} {t u : Tok} (hs : a.size = b.size) (h : ∀ t' k, Q (.bytes (tblOf a b) t') { s with toks := k }) :
    wpAny (model prog w) A (call (.builtin "bytes.maketrans") [.bytes a t, .bytes b u]) Q E s := by
  refine wpAny_call (codeAny_call_builtin_at (Code.quiet_builtin _ (by decide +kernel)) entry_bytes_mt (wpAny_of_eq (a := ()) (check_mt _ _) ?_))
  show wpAny _ _ (Bytes.maketransM .bytes _) _ _ s
  unfold Bytes.maketransM
  refine wpAny_bind (wpAny_of_eq (a := ()) (by kernel_rfl) ?_)
  refine wpAny_bind (wpAny_of_eq (a := ()) (by kernel_rfl) ?_)
  refine wpAny_bind (wpAny_of_eq (a := a) KBd.like_eq ?_)
  refine wpAny_bind (wpAny_of_eq (a := b) KBd.like_eq ?_)
  rw [if_neg (by simp [hs])]
  refine wpAny_bind ?_
  unfold mkBytes
  rw [if_neg (by show ¬ (tblOf a b).size > _; rw [tblOf_size, sizeLine_eq]; omega)]
  refine wpAny_bind (wpAny_fresh ?_)
  exact wpAny_pure (wpAny_pure (h _ _))
noncomputable def trB (tb b : Array UInt8) : Array UInt8 := b.map fun c => tb.getD c.toNat c
theorem call_btranslate {a b : Array UInt8} {t u : Tok} (hs : b.size = 256) (ha : a.size ≤ 1000000) (h : ∀ t' k, Q (.bytes (trB b a) t') { s with toks := k }) :
    wpAny (model prog w) A (call (.builtin "bytes.translate") [.bytes a t, .bytes b u]) Q E s := by
  refine wpAny_call_entry slot_bytes_tr (PySem.W.typeIs_bytes _ _ _) entry_bytes_tr ?_ (args_bytes_tr _ _)
  show wpAny _ _ (Bytes.translateM .bytes _) _ _ s
  unfold Bytes.translateM
  refine wpAny_bind (m := (Bytes.bytesLike _ (.bytes b u))) (wpAny_of_eq (a := b) KBd.like_eq ?_)
  dsimp only
  rw [if_neg (by rw [hs]; decide)]
  refine wpAny_bind (wpAny_pure ?_)
  dsimp only
  refine wpAny_bind (m := pure (#[] : Array UInt8)) (wpAny_pure ?_)
  refine wpAny_bind (wpAny_of_eq (a := a) rfl ?_)
  have e : (Array.map (fun c => match (some b : Option (Array UInt8)) with | some t => t.getD c.toNat c | none => c) (Array.filter (fun x => !(#[] : Array UInt8).contains x) a)) = trB b a := by
    rw [Array.filter_eq_self.mpr (fun x _ => by simp)]; rfl
  rw [e]
  split
  · rename_i h0
    have h1 : trB b a = a := by simpa using h0
    refine wpAny_bind (wpAny_rule ?_)
    refine wpAny_bind (wpAny_of_eq (a := .bytes a t) rfl ?_)
    exact wpAny_pure ⟨_, rfl, by have := h t s.toks; rw [h1] at this; exact this⟩
  · refine wpAny_bind (m := mkBytes _) ?_
    unfold mkBytes
    rw [if_neg (by show ¬ (trB b a).size > _; unfold trB; rw [Array.size_map, sizeLine_eq]; omega)]
    refine wpAny_bind (wpAny_fresh ?_)
    exact wpAny_pure (wpAny_pure ⟨_, rfl, h _ _⟩)
end
end Mine

end

section
open PySem PySem.W PyProof.Rows PySem.Calls
set_option maxRecDepth 100000
set_option maxHeartbeats 1000000
namespace Mine
open PySem.W.KBw (bInts)
theorem g_bfdd (P : Params) : nsIn (K P) mainGlobals (Str.ofString "_bytes_from_decode_data") = some (some (.ref 84)) := by kernel_rfl
theorem g_a2b (P : Params) : nsIn (K P) mainGlobals (Str.ofString "a2b_base64") = some (some (.ref 126)) := by kernel_rfl
theorem n_len (P : Params) : nsIn (K P) mainGlobals (Str.ofString "len") = some none := by kernel_rfl
local macro_rules | `(tactic| walk_at "eval Name") => `(tactic| first
  | ((with_reducible show wpAny _ _ (eval (PySem.Expr.Name (Str.ofString "_bytes_from_decode_data") _) _) _ _ _); refine Sx.glob (by assumption) (by assumption) (g_bfdd _) ?_)
  | ((with_reducible show wpAny _ _ (eval (PySem.Expr.Name (Str.ofString "a2b_base64") _) _) _ _ _); refine Sx.glob (by assumption) (by assumption) (g_a2b _) ?_)
  | ((with_reducible show wpAny _ _ (eval (PySem.Expr.Name (Str.ofString "bytes") _) _) _ _ _); refine Sx.blt (by assumption) (by assumption) (n_bytes _) (by boot_fast) (by decide) ?_)
  | ((with_reducible show wpAny _ _ (eval (PySem.Expr.Name (Str.ofString "len") _) _) _ _ _); refine Sx.blt (by assumption) (by assumption) (n_len _) (by boot_fast) (by decide) ?_))
local macro_rules | `(tactic| walk_at "callWith ref") => `(tactic| ((with_reducible show wpAny _ _ (callWith _ _ _ _ (backToKw _ _)) _ _ _); refine Sx.fnkw (by assumption) (by with_unfolding_all rfl) (by with_unfolding_all rfl) ?_))
local macro_rules | `(tactic| walk_at "callWith ref") => `(tactic| refine Sx.fn (by assumption) (by with_unfolding_all rfl) (by with_unfolding_all rfl) ?_)
local macro_rules | `(tactic| walk_at "Held") => `(tactic| refine Held.intro (by assumption) ?_)
local macro_rules | `(tactic| walk_at "call ref") => `(tactic| first
  | (refine c_bfdd_str (Sx.less (by assumption) (by omega)) (by assumption) (by assumption) (by assumption) (by assumption) ?_; intro _ _ _ _ _)
  | (refine c_bfdd_bytes (Sx.less (by assumption) (by omega)) (by assumption) (by assumption) ?_; intro _ _ _ _ _))
local macro_rules | `(tactic| walk_at "getMethod type:bytes") => `(tactic| refine get_maketrans (by assumption) (fun _ => ?_))
local macro_rules | `(tactic| walk_at "call builtin:bytes.maketrans") => `(tactic| refine call_maketrans (by assumption) (fun _ _ => ?_))
local macro_rules | `(tactic| walk_at "call builtin:bytes.translate") => `(tactic| refine call_btranslate (tblOf_size _ _) (by assumption) (fun _ _ => ?_))
local macro_rules | `(tactic| walk_at "getMethod bytes") => `(tactic| refine getMethod_builtin (T := "bytes") (PySem.W.typeIs_bytes _ _ _) PySem.W.FB.plainAttrs_bytes slot_bytes_tr type_bytes_tr (fun _ e => nomatch e) ?_)
section
variable {prog : Program} {w : World} {A : Around} {E Q : Value → Shared → Prop} {s : Shared} {h₀ : Heap} {L : Addr} {m : Str → Option Value} {news : List (Addr × Obj)}
noncomputable def altP : Array UInt8 := #[43, 47]
noncomputable def heardB (pr : Array UInt8) (x : Str) : Array UInt8 := trB (tblOf pr altP) (x.cps.map (·.toUInt8))
theorem c_b64decode {x : Str} {pr : Array UInt8} {t u : Tok} (S : Sx w A h₀ L 11) (F : Fr h₀ L s.heap m) (N : News h₀ L s.heap news) (hx : x.cps.size ≤ 400000) (ha : ∀ c ∈ x.cps, c < 128) (hp : pr.size = 2)
    (hne : ∀ k ∈ bInts (heardB pr x), k ≠ 61) {o : List Int} {l' : Int} (hr : (bInts (heardB pr x)).foldl g64 ([], 0, 0) = (o, 0, l'))
    (h : ∀ t' h' tk, Fr h₀ L h' m → News h₀ L h' news → Q (.bytes (byteArr o) t') { s with heap := h', toks := tk }) :
    wpAny (model prog w) A (call (.ref 134) [.str x t, .bytes pr u]) Q E s := by
  have hx2 : x.cps.size ≤ 1000000 := by omega
  have hx3 : (x.cps.map (·.toUInt8)).size ≤ 1000000 := by rw [Array.size_map]; omega
  have hp2 : pr.size = altP.size := hp
  have hd : s.heap.get? 127 = some ⟨.type "tuple", none, .seq #[.none, .bool false] 0, #[]⟩ := S.X.keeps F.keep 127 _ rfl
  refine wpAny_call (enter (k := 10) (binds := [(Str.ofString "s", .str x t), (Str.ofString "altchars", .bytes pr u), (Str.ofString "validate", .bool false)]) S F N rfl rfl (BindsTo.of_defaults (T := 127) rfl hd rfl (k := fun its => _) rfl rfl) (locs rfl) rfl rfl rfl (by decide) fun g L' h₁ S' F' N' kp => ?_)
  clear hd
  repeat' walk1
  have hz : (heardB pr x).size ≤ 500000 := by unfold heardB trB; rw [Array.size_map, Array.size_map]; omega
  refine c_a2b (Sx.less S' (by omega)) (by assumption) (by assumption) hz hne hr fun t5 h5 k5 F5 N5 => ?_
  refine leaveK_ F5 N5 fun F6 N6 => ?_
  exact h _ _ _ F6 N6
end
end Mine

end

section
open PySem PySem.W PyProof.Rows
set_option maxRecDepth 100000
namespace Mine
/-- a sign's figure, where the dot is 62 and the feed 63. -/
noncomputable def fig1 (c : Nat) : List Int :=
  if 65 ≤ c ∧ c ≤ 90 then [(c : Int) - 65] else if 97 ≤ c ∧ c ≤ 122 then [(c : Int) - 71] else if 48 ≤ c ∧ c ≤ 57 then [(c : Int) + 4] else if c = 43 ∨ c = 46 then [62] else if c = 47 ∨ c = 10 then [63] else []
noncomputable def figL (l : List Nat) : List Int := l.flatMap fig1
/-- the figures of what is sent after t sendings: at a row's start, behind a return. -/
noncomputable def gF (t : Nat) : Bool → Bool → List Nat → List Int
  | _, _, [] => []
  | b, p, c :: r => if c = 13 then 63 :: gF t true true r else if c = 10 then (if p = true then gF t true false r else 63 :: gF t true false r)
    else if c = 46 then (if b = true then List.replicate (t + 1) 62 else [62]) ++ gF t false false r else fig1 c ++ gF t false false r
theorem fig_13 : fig1 13 = [] := by decide
theorem fig_10 : fig1 10 = [63] := by decide
theorem fig_46 : fig1 46 = [62] := by decide
theorem figL_cons (c : Nat) (l : List Nat) : figL (c :: l) = fig1 c ++ figL l := rfl
theorem dotB_crlf (b : Bool) (t : List Nat) : dotB b (13 :: 10 :: t) = 13 :: 10 :: dotB true t := by
  show (if b = true ∧ (13 : Nat) = 46 then _ else 13 :: dotB ((13 : Nat) == 10) (10 :: t)) = _
  rw [if_neg (fun h => absurd h.2 (by decide))]
  show 13 :: (if ((13 : Nat) == 10) = true ∧ (10 : Nat) = 46 then _ else 10 :: dotB ((10 : Nat) == 10) t) = _
  rw [if_neg (fun h => absurd h.2 (by decide))]; rfl
theorem normF_13 (p : Bool) (t : List Nat) : normF p (13 :: t) = 13 :: 10 :: normF true t := rfl
theorem normF_10t (t : List Nat) : normF true (10 :: t) = normF false t := rfl
theorem normF_10f (t : List Nat) : normF false (10 :: t) = 13 :: 10 :: normF false t := rfl
theorem normF_o (p : Bool) {c : Nat} (t : List Nat) (h1 : c ≠ 13) (h2 : c ≠ 10) : normF p (c :: t) = c :: normF false t := by
  show (if c = 13 then _ else if c = 10 then _ else c :: normF false t) = _
  rw [if_neg h1, if_neg h2]
theorem dotB_dot (t : List Nat) : dotB true (46 :: t) = 46 :: 46 :: dotB false t := rfl
theorem dotB_dotf (t : List Nat) : dotB false (46 :: t) = 46 :: dotB false t := rfl
theorem dotB_o (b : Bool) {c : Nat} (t : List Nat) (h1 : c ≠ 46) (h2 : c ≠ 10) : dotB b (c :: t) = c :: dotB false t := by
  show (if b = true ∧ c = 46 then _ else c :: dotB (c == 10) t) = _
  rw [if_neg (fun h => h1 h.2), show (c == 10) = false from beq_eq_false_iff_ne.mpr h2]
theorem gF_13 (t : Nat) (b p : Bool) (r : List Nat) : gF t b p (13 :: r) = 63 :: gF t true true r := rfl
theorem gF_10t (t : Nat) (b : Bool) (r : List Nat) : gF t b true (10 :: r) = gF t true false r := rfl
theorem gF_10f (t : Nat) (b : Bool) (r : List Nat) : gF t b false (10 :: r) = 63 :: gF t true false r := rfl
theorem gF_46t (t : Nat) (p : Bool) (r : List Nat) : gF t true p (46 :: r) = List.replicate (t + 1) 62 ++ gF t false false r := rfl
theorem gF_46f (t : Nat) (p : Bool) (r : List Nat) : gF t false p (46 :: r) = 62 :: gF t false false r := rfl
theorem gF_o (t : Nat) (b p : Bool) {c : Nat} (r : List Nat) (h1 : c ≠ 13) (h2 : c ≠ 10) (h3 : c ≠ 46) : gF t b p (c :: r) = fig1 c ++ gF t false false r := by
  show (if c = 13 then _ else if c = 10 then _ else if c = 46 then _ else fig1 c ++ gF t false false r) = _
  rw [if_neg h1, if_neg h2, if_neg h3]
theorem sent1 (l : List Nat) : ∀ b p : Bool, (p = true → b = true) → figL (dotB b (normF p l)) = gF 1 b p l := by
  induction l with
  | nil => intros; rfl
  | cons c l ih =>
    intro b p hpb
    by_cases h1 : c = 13
    · subst h1
      rw [normF_13, dotB_crlf, gF_13, figL_cons, figL_cons, fig_13, fig_10, ih true true (fun _ => rfl)]; rfl
    · by_cases h2 : c = 10
      · subst h2
        cases p with
        | true => rw [normF_10t, gF_10t, hpb rfl, ih true false (fun h => by cases h)]
        | false => rw [normF_10f, dotB_crlf, gF_10f, figL_cons, figL_cons, fig_13, fig_10, ih true false (fun h => by cases h)]; rfl
      · rw [normF_o p l h1 h2]
        by_cases h3 : c = 46
        · subst h3
          cases b with
          | true => rw [dotB_dot, gF_46t, figL_cons, figL_cons, fig_46, ih false false (fun h => by cases h)]; rfl
          | false => rw [dotB_dotf, gF_46f, figL_cons, fig_46, ih false false (fun h => by cases h)]; rfl
        · rw [dotB_o b _ h3 h2, gF_o 1 b p l h1 h2 h3, figL_cons, ih false false (fun h => by cases h)]
theorem sentS (t : Nat) (l : List Nat) : ∀ b p : Bool, (p = true → b = true) → gF t b false (dotB b (normF p l)) = gF (t + 1) b p l := by
  induction l with
  | nil => intros; rfl
  | cons c l ih =>
    intro b p hpb
    by_cases h1 : c = 13
    · subst h1
      rw [normF_13, dotB_crlf, gF_13, gF_10t, gF_13, ih true true (fun _ => rfl)]
    · by_cases h2 : c = 10
      · subst h2
        cases p with
        | true => rw [normF_10t, gF_10t, hpb rfl, ih true false (fun h => by cases h)]
        | false => rw [normF_10f, dotB_crlf, gF_13, gF_10t, gF_10f, ih true false (fun h => by cases h)]
      · rw [normF_o p l h1 h2]
        by_cases h3 : c = 46
        · subst h3
          cases b with
          | true =>
            rw [dotB_dot, gF_46t, gF_46f, gF_46t, ih false false (fun h => by cases h), List.replicate_succ' (n := t + 1), List.append_assoc]; rfl
          | false => rw [dotB_dotf, gF_46f, gF_46f, ih false false (fun h => by cases h)]
        · rw [dotB_o b _ h3 h2, gF_o t b false _ h1 h2 h3, gF_o (t + 1) b p l h1 h2 h3, ih false false (fun h => by cases h)]
/-- what is sent after t sendings. -/
noncomputable def sentN (l : List Nat) : Nat → List Nat
  | 0 => l
  | t + 1 => quoted (sentN l t)
theorem gF_sent (l : List Nat) : ∀ (k t : Nat), gF (k + 1) true false (sentN l t) = gF (k + t + 1) true false l
  | _, 0 => rfl
  | k, t + 1 => by
    show gF (k + 1) true false (quoted (sentN l t)) = _
    have h := sentS (k + 1) (sentN l t) true false (fun h => by cases h)
    rw [show quoted (sentN l t) = dotB true (normF false (sentN l t)) from rfl, h]
    have := gF_sent l (k + 1) t
    rw [this]
    congr 1; omega
theorem figs_sent (l : List Nat) (t : Nat) : figL (sentN l (t + 1)) = gF (t + 1) true false l := by
  show figL (dotB true (normF false (sentN l t))) = _
  rw [sent1 _ true false (fun h => by cases h)]
  have := gF_sent l 0 t
  simpa using this
end Mine

end

section
set_option maxRecDepth 100000
namespace Mine
noncomputable def specials : List Nat := [40, 41, 91, 93, 123, 125, 63, 42, 43, 45, 124, 94, 36, 92, 46, 38, 126, 35, 32, 9, 10, 13, 11, 12]
noncomputable def esc (c : Nat) : List Nat := if specials.contains c then [92, c] else [c]
noncomputable def trStep (xs : List (Option (List Nat))) (c : Nat) : List (Option (List Nat)) :=
  if c = 42 then (if xs.getLast? = some none then xs else xs ++ [none]) else if c = 63 then xs ++ [some [46]] else xs ++ [some (esc c)]
/-- what is written for a star and what stands behind it. -/
inductive StarsR : List (Option (List Nat)) → List (List Nat) → Prop
  | nil : StarsR [] []
  | last : StarsR [none] [[46, 42]]
  | fin {ys} : ys ≠ [] → StarsR (none :: ys.map some) [[46, 42], ys.flatten]
  | more {ys r out} : ys ≠ [] → StarsR (none :: r) out → StarsR (none :: (ys.map some ++ none :: r)) (([40, 63, 62, 46, 42, 63] ++ ys.flatten ++ [41]) :: out)
noncomputable def joined (ys : List (List Nat)) : List Nat := [40, 63, 115, 58] ++ ys.flatten ++ [41, 92, 90]
end Mine

end

section
open PySem PySem.W PyProof.Rows PySem.Calls
set_option maxRecDepth 100000
set_option maxHeartbeats 1000000
namespace Mine
open PySem.Builtin PySem.Builtin.Str
theorem sub_kl : isSubtype (.type "KeyError") (.type "LookupError") = pure true := by rw [isSubtype_type]; kernel_rfl
noncomputable def Keeps (h h' : Heap) : Prop := ∀ b o, h.get? b = some o → h'.get? b = some o
theorem Keeps.refl (h : Heap) : Keeps h h := fun _ _ e => e
section
variable {prog : Program} {w : World} {A : Around} {E : Value → Shared → Prop} {s : Shared} {d : Addr} {f : Int → Option Value} {c : Nat}
theorem tl_keep {Q : Mapped → Shared → Prop} (hd : (d == sysModules) = false) (hh : A.handled = none) (hm : s.heap.MapOf (intKind prog w) d f) (hf : f (c : Int) = none)
    (h : ∀ h' k, Keeps s.heap h' → Q .keep { s with heap := h', toks := k }) : wpAny (model prog w) A (tableLookup (.ref d) c) Q E s := by
  unfold tableLookup
  refine wpAny_bind (wpAny_attempt (wpAny_bind (wpAny_mkInt ?_)))
  refine wpAny_getItem_missing_of (knd := intKind prog w) (k := (c : Int)) (by simp [intKind, Value.isInt]) hd hh hm hf fun h' e N => ?_
  refine wpAny_bind (wpAny_isInstance (T := "KeyError") (b := true) (let ⟨ob, _, h1, h2, _⟩ := N.there; ⟨ob, h1, h2⟩) sub_kl ?_)
  rw [if_pos rfl]
  exact wpAny_bind (wpAny_rule (wpAny_pure (h _ _ N.keeps)))
theorem tl_text {Q : Mapped → Shared → Prop} {y : Str} {t : Tok} (hm : s.heap.MapOf (intKind prog w) d f) (hf : f (c : Int) = some (.str y t))
    (h : ∀ k, Q (.text y) { s with toks := k }) : wpAny (model prog w) A (tableLookup (.ref d) c) Q E s := by
  unfold tableLookup
  refine wpAny_bind (wpAny_attempt (wpAny_bind (wpAny_mkInt ?_)))
  refine wpAny_getItem_of (knd := intKind prog w) (k := (c : Int)) (by simp [intKind, Value.isInt]) hm hf ?_
  dsimp only
  refine wpAny_bind (wpAny_of_eq (a := none) rfl ?_)
  dsimp only
  refine wpAny_bind (wpAny_of_eq (a := some y) rfl ?_)
  exact wpAny_pure (h _)
theorem call_translate1 {Q : Value → Shared → Prop} {t : Tok} (hd : (d == sysModules) = false) (hh : A.handled = none) (hm : s.heap.MapOf (intKind prog w) d f) (hc : c < 128) {out : List Nat}
    (hf : (f (c : Int) = none ∧ out = [c]) ∨ (∃ y t, f (c : Int) = some (.str ⟨y.toArray⟩ t) ∧ y.length = 2 ∧ out = y))
    (h : ∀ t' h' k, Keeps s.heap h' → Q (.str ⟨out.toArray⟩ t') { s with heap := h', toks := k }) :
    wpAny (model prog w) A (call (.builtin "str.translate") [.str ⟨#[c]⟩ t, .ref d]) Q E s := by
  refine wpAny_call_entry PySem.F.slot_str_translate (PySem.typeIs_str _ _ _) PySem.F.entry_str_translate ?_ (PySem.F.args_str_translate_2 _ _)
  unfold Builtin.«str.translate»
  refine wpAny_bind (wpAny_of_eq (a := (Value.str ⟨#[c]⟩ t, (⟨#[c]⟩ : Str), Value.ref d)) (by kernel_rfl) ?_)
  dsimp only
  rw [if_neg (show ¬ ((⟨#[c]⟩ : Str).length == 0) = true from by show ¬ ((1 : Nat) == 0) = true; decide)]
  refine wpAny_bind ?_
  rw [show (#[c].all fun x => decide (x < 128)) = true by simp [hc]]
  simp only [List.forIn_toArray, List.forIn_cons, List.forIn_nil]
  rw [if_neg (by decide)]
  refine wpAny_bind ?_
  rw [if_pos trivial]
  simp only [List.lookup_nil]
  rcases hf with ⟨h1, rfl⟩ | ⟨y, ty, h1, hy, rfl⟩
  · refine wpAny_bind (tl_keep hd hh hm h1 fun h' k kk => ?_)
    dsimp only
    refine wpAny_bind (wpAny_pure ?_)
    dsimp only
    refine wpAny_pure ?_
    dsimp only
    refine wpAny_pure ?_
    dsimp only
    rw [if_neg (by decide)]
    show wpAny _ _ (mkStr _ >>= fun v => ret v) _ _ _
    refine wpAny_bind (wpAny_mkStr (x := ⟨#[c]⟩) (wpAny_pure ⟨_, rfl, h _ _ _ kk⟩) (by show 1 ≤ sizeLine; rw [sizeLine_eq]; omega))
  · refine wpAny_bind (tl_text hm h1 fun k => ?_)
    dsimp only
    have hl : ((⟨out.toArray⟩ : Str).length == 1) = false := by show (out.toArray.size == 1) = false; rw [List.size_toArray, hy]; rfl
    rw [hl]
    simp only [Bool.false_and, Bool.false_eq_true, if_false]
    refine wpAny_bind (wpAny_pure ?_)
    dsimp only
    refine wpAny_bind (wpAny_rule ?_)
    refine wpAny_bind (tl_text hm h1 fun k => ?_)
    dsimp only
    refine wpAny_pure ?_
    dsimp only
    refine wpAny_pure ?_
    dsimp only
    have hl2 : (⟨out.toArray⟩ : Str).length = 2 := by show out.toArray.size = 2; rw [List.size_toArray, hy]
    rw [hl2, if_neg (by decide)]
    have e : (Array.mk [] ++ out.toArray : Array Nat) = out.toArray := by simp
    show wpAny _ _ (mkStr ⟨#[] ++ out.toArray⟩ >>= fun v => ret v) _ _ _
    rw [e]
    refine wpAny_bind (wpAny_mkStr (wpAny_pure ⟨_, rfl, h _ _ _ (Keeps.refl _)⟩) (by rw [hl2, sizeLine_eq]; omega))
end
end Mine

end

section
open PySem PySem.W PyProof.Rows PySem.Calls
set_option maxRecDepth 100000
set_option maxHeartbeats 1000000
namespace Mine
noncomputable def escEs (P : Params) : Array DictEntry := match (K P).lookup 52 with
  | some ⟨_, _, .dict es _, _⟩ => es
  | _ => #[]
noncomputable def keysOk (es : Array DictEntry) : Bool := es.all fun e => match e.key with
  | .int k _ => e.hash == hashInt k
  | _ => false
theorem keysOf_of {prog : Program} {w : World} {es : Array DictEntry} (h : keysOk es = true) : KeysOf (intKind prog w) es := by
  intro e he
  have := Array.all_eq_true_iff_forall_mem.mp h e he
  cases hk : e.key <;> rw [hk] at this <;> simp only [Bool.false_eq_true] at this
  rename_i i t
  exact ⟨i, by show Value.isInt i (.int i t) = true; simp [Value.isInt], by show e.hash = hashInt i; simpa using this⟩
noncomputable def escOk (es : Array DictEntry) : Bool := (List.range 128).all fun c => match findBy Value.isInt es (c : Int) with
  | none => esc c == [c]
  | some (.str y _) => y.cps.toList.length == 2 && esc c == y.cps.toList
  | _ => false
theorem escEs_keys (P : Params) : keysOk (escEs P) = true := by kernel_rfl
theorem escEs_ok (P : Params) : escOk (escEs P) = true := by kernel_rfl
theorem escEs_at (P : Params) : ∃ n, (K P).lookup 52 = some ⟨.type "dict", none, .dict (escEs P) n, #[]⟩ := ⟨24, by kernel_rfl⟩
theorem esc_look {P : Params} {c : Nat} (hc : c < 128) :
    (findBy Value.isInt (escEs P) (c : Int) = none ∧ esc c = [c]) ∨ (∃ (y : List Nat) (t : Tok), findBy Value.isInt (escEs P) (c : Int) = some (.str ⟨y.toArray⟩ t) ∧ y.length = 2 ∧ esc c = y) := by
  have h := List.all_eq_true.mp (escEs_ok P) c (List.mem_range.mpr hc)
  revert h
  cases hf : findBy Value.isInt (escEs P) (c : Int) with
  | none => intro h; exact .inl ⟨rfl, by simpa using h⟩
  | some v =>
    cases v <;> intro h <;> simp only [Bool.false_eq_true] at h
    rename_i y t
    rw [Bool.and_eq_true] at h
    exact .inr ⟨y.cps.toList, t, by simp, by simpa using h.1, by simpa using h.2⟩
theorem g_special (P : Params) : nsIn (K P) mainGlobals (Str.ofString "_special_chars_map") = some (some (.ref 52)) := by kernel_rfl
section
variable {prog : Program} {w : World} {A : Around} {E Q : Value → Shared → Prop} {s : Shared} {h₀ : Heap} {L : Addr} {m : Str → Option Value} {news : List (Addr × Obj)}
theorem isi_str_str {x : Str} {t : Tok} (S : Sx w A h₀ L 1) (F : Fr h₀ L s.heap m) (h : ∀ tk, Q (.bool true) { s with toks := tk }) : wpAny (model prog w) A (call (.builtin "isinstance") [.str x t, .type "str"]) Q E s :=
  kia_one kitx_str (S.X.keeps F.keep) trivial (b := true) (by kernel_rfl) (by intro e; cases e) h
end
local macro_rules | `(tactic| walk_at "eval Name") => `(tactic| first
  | ((with_reducible show wpAny _ _ (eval (PySem.Expr.Name (Str.ofString "_special_chars_map") _) _) _ _ _); refine Sx.glob (by assumption) (by assumption) (g_special _) ?_)
  | ((with_reducible show wpAny _ _ (eval (PySem.Expr.Name (Str.ofString "str") _) _) _ _ _); refine Sx.blt (by assumption) (by assumption) (n_str _) (by boot_fast) (by decide) ?_)
  | ((with_reducible show wpAny _ _ (eval (PySem.Expr.Name (Str.ofString "isinstance") _) _) _ _ _); refine Sx.blt (by assumption) (by assumption) (n_isinstance _) (by boot_fast) (by decide) ?_))
local macro_rules | `(tactic| walk_at "call builtin:isinstance") => `(tactic| (refine isi_str_str (Sx.less (by assumption) (by omega)) (by assumption) ?_; intro _))
local macro_rules | `(tactic| walk_at "getMethod str") => `(tactic| refine getMethod_builtin (T := "str") (typeIs_str _ _ _) PySem.F.plainAttrs_str PySem.F.slot_str_translate PySem.F.type_str_translate (fun _ e => nomatch e) ?_)
section
variable {prog : Program} {w : World} {A : Around} {E Q : Value → Shared → Prop} {s : Shared} {h₀ : Heap} {L : Addr} {m : Str → Option Value} {news : List (Addr × Obj)}
theorem c_escape {c : Nat} {t : Tok} (S : Sx w A h₀ L 3) (F : Fr h₀ L s.heap m) (N : News h₀ L s.heap news) (hc : c < 128)
    (h : ∀ t' h' tk, Fr h₀ L h' m → News h₀ L h' news → Q (.str ⟨(esc c).toArray⟩ t') { s with heap := h', toks := tk }) :
    wpAny (model prog w) A (call (.ref 62) [.str ⟨#[c]⟩ t]) Q E s := by
  refine wpAny_call (enter (k := 2) (binds := [(Str.ofString "pattern", .str ⟨#[c]⟩ t)]) S F N rfl rfl (BindsTo.of_eq rfl) (locs rfl) rfl rfl rfl (by decide) fun g L' h₁ S' F' N' kp => ?_)
  repeat' walk1
  obtain ⟨n, hes⟩ := escEs_at w.params
  have hm : h₁.MapOf (intKind prog w) 52 (fun k => findBy Value.isInt (escEs w.params) k) := ⟨_, _, _, S'.X.keeps F'.keep 52 _ hes, ⟨rfl, rfl, rfl⟩, rfl, keysOf_of (escEs_keys _), fun _ => rfl⟩
  refine call_translate1 (f := fun k => findBy Value.isInt (escEs w.params) k) (by decide) S'.hh hm hc (esc_look hc) fun t' h' k kk => ?_
  have F2 := frK F' kk
  have N2 := newsK N' kk
  refine leaveK_ F2 N2 fun F6 N6 => ?_
  exact h _ _ _ F6 N6
end
end Mine

end

section
open PySem PySem.W PyProof.Rows PySem.Calls
set_option maxRecDepth 100000
set_option maxHeartbeats 1000000
namespace Mine
open PySem.Builtin
theorem slot_md_get : Slot "method_descriptor" "__get__" "method_descriptor.__get__" :=
  .of (owner := "method_descriptor") (n := "__get__") (by rw [typeLookup_type, builtinLookup_eq_fast]; kernel_rfl) (by decide +kernel) (by decide +kernel) (by decide +kernel)
    (by first | exact .inl (by decide +kernel) | exact .inr (by decide +kernel)) (by rw [isSubtype_type]; kernel_rfl)
theorem entry_md_get : entryFor table "method_descriptor.__get__" = some Builtin.«method_descriptor.__get__» := entryFor_of_tree (by kernel_rfl)
theorem args_md_get (a b c : Value) : argsOk "method_descriptor.__get__" ⟨[a, b, c], []⟩ := by unfold argsOk; kernel_rfl
theorem lk_md_set : typeLookup (.type "method_descriptor") "__set__" = pure none := by rw [typeLookup_type, builtinLookup_eq_fast]; kernel_rfl
theorem lk_md_del : typeLookup (.type "method_descriptor") "__delete__" = pure none := by rw [typeLookup_type, builtinLookup_eq_fast]; kernel_rfl
theorem lk_list_append : typeLookup (.type "list") "append" = pure (some (.builtin "list.append")) := by rw [typeLookup_type, builtinLookup_eq_fast]; kernel_rfl
theorem ty_list_append : typeOf (.builtin "list.append") = pure (.type "method_descriptor") := by show builtinType _ = _; rw [builtinType_eq_fast]; kernel_rfl
theorem owner_la : (".".intercalate ("list.append".cutAt '.').dropLast) = "list" := by decide +kernel
theorem sub_la : isSubtype (.type "list") (.type (".".intercalate ("list.append".cutAt '.').dropLast)) = pure true := by rw [owner_la, isSubtype_type]; kernel_rfl
noncomputable def boundA (l : Addr) : Obj := { cls := .type "builtin_function_or_method", data := .fields #[.builtin "list.append", .ref l] }
section
variable {prog : Program} {w : World} {A : Around} {E : Value → Shared → Prop} {h : Heap} {g : Array GenState} {d : Drawn} {t : Nat} {os : OsState} {a : Addr} {its : Array Value} {n : Nat}
theorem app_get {R : Result → Shared → Prop} (hx : h.get? a = some (listOf its n)) (hq : R (.ok (.ret (.ref h.objs.size))) ⟨h.push (boundA a), g, d, t, os⟩) :
    codeAny (model prog w) A (.call (.builtin "method_descriptor.__get__") ⟨[.builtin "list.append", .ref a, .type "list"], []⟩) R ⟨h, g, d, t, os⟩ := by
  have hT : (⟨h, g, d, t, os⟩ : Shared).TypeIs (.ref a) "list" := ⟨_, hx, rfl⟩
  have hT5 : (⟨h, g, d, t, os⟩ : Shared).TypeIs (.builtin "list.append") "method_descriptor" := ty_list_append
  refine codeAny_call_builtin slot_md_get.plain entry_md_get (slot_md_get.check _ _ _ _ _ _ _ _ hT5 (args_md_get _ _ _) ?_)
  have f8 := sub_la
  repeat (any_goals (first | assumption | wp_step))
theorem app_entry {tk : Tok} {Q : Fin → Shared → Prop} (hx : h.get? a = some (listOf its n)) (hq : Q (.done (.ret (.ref h.objs.size))) ⟨h.push (boundA a), g, d, t, os⟩) :
    wpAny (model prog w) A (Builtin.«object.__getattribute__» ⟨[.ref a, .str (Str.ofString "append") tk], []⟩) Q E ⟨h, g, d, t, os⟩ := by
  have hT : (⟨h, g, d, t, os⟩ : Shared).TypeIs (.ref a) "list" := ⟨_, hx, rfl⟩
  have hT5 : (⟨h, g, d, t, os⟩ : Shared).TypeIs (.builtin "list.append") "method_descriptor" := ty_list_append
  have f4 := lk_list_append
  have f5 := ty_list_append
  have f6 := slot_md_get.lookup
  have f7 := lk_md_set
  have f8 := lk_md_del
  have f9 : ObjectAttr.copiedAttributeGuard (Str.ofString "append") (Value.ref a) = pure () := by kernel_rfl
  repeat (any_goals (first | assumption | wp_step))
  refine app_get hx ?_
  repeat (any_goals (first | assumption | wp_step))
theorem app_by {tk : Tok} {Q : Value → Shared → Prop} (hx : h.get? a = some (listOf its n)) (hq : Q (.ref h.objs.size) ⟨h.push (boundA a), g, d, t, os⟩) :
    wpAny (model prog w) A (getAttrBy (.ref a) (.str (Str.ofString "append") tk) true true) Q E ⟨h, g, d, t, os⟩ := by
  have hT : (⟨h, g, d, t, os⟩ : Shared).TypeIs (.ref a) "list" := ⟨_, hx, rfl⟩
  have f2 := F.slot_list_getattribute.lookup
  have f3 := F.slot_list_getattribute.bind (.ref a)
  repeat (any_goals (first | assumption | wp_step))
  refine codeAny_call_builtin F.slot_list_getattribute.plain F.entry_list_ga (F.slot_list_getattribute.check _ _ _ _ _ _ _ _ (show (⟨h, g, d, t, os⟩ : Shared).TypeIs (.ref a) "list" from ⟨_, hx, rfl⟩) (F.args_list_getattribute_2 _ _) (app_entry hx ?_))
  repeat (any_goals (first | assumption | wp_step))
theorem get_append {Q : Value → Shared → Prop} (hx : h.get? a = some (listOf its n)) (hq : Q (.ref h.objs.size) ⟨h.push (boundA a), g, d, t + 1, os⟩) :
    wpAny (model prog w) A (getAttr (.ref a) (Str.ofString "append") true) Q E ⟨h, g, d, t, os⟩ := by
  unfold getAttr
  repeat (any_goals (first | assumption | with_reducible apply app_by hx | wp_step))
end
end Mine

end

section
open PySem PySem.W PyProof.Rows PySem.Calls
set_option maxRecDepth 100000
set_option maxHeartbeats 1000000
namespace Mine
open PySem.Builtin
section
variable {prog : Program} {w : World} {M : Model} {A : Around} {E Q : Value → Shared → Prop} {s : Shared} {h₀ : Heap} {L : Addr} {m : Str → Option Value} {news news' : List (Addr × Obj)} {l x : Addr} {its : Array Value} {n : Nat}
theorem get_append_N {Q : Value → Shared → Prop} (F : Fr h₀ L s.heap m) (N : News h₀ L s.heap news) (hm : (l, listOf its n) ∈ news)
    (h : ∀ h', Fr h₀ L h' m → News h₀ L h' ((s.heap.objs.size, boundA l) :: news) → Q (.ref s.heap.objs.size) { s with heap := h', toks := s.toks + 1 }) :
    wpAny (model prog w) A (getAttr (.ref l) (Str.ofString "append") true) Q E s := by
  obtain ⟨hp, g, d, t, os⟩ := s
  exact get_append (N _ hm).1 (h _ (F.push _) (N.push F _))
noncomputable def StandsB (x : Addr) (l : Addr) (h : Heap) : Prop := h.get? x = some (boundA l)
theorem callWith_fieldsB {pos : Pos} {first : List Value} {args : List (Bool × Sem Value)} {Q : Value → Shared → Prop} (hplain : args.any (·.1) = false)
    (h : wpAny M A (evalArgs (.ref x) true args []) (fun y s₁ => StandsB x l s₁.heap ∧ wpAny M A (call (.ref x) (first ++ y.pos) y.kw) Q E s₁) E s) : wpAny M A (callWith pos (.ref x) first args []) Q E s := by
  unfold callWith
  refine wpAny_bind (wpAny_holding (wpAny_mono h (fun x s₁ h₁ => wpAny_bind (wpAny_standAt ?_)) fun _ _ x => x))
  obtain ⟨ho, hcall⟩ := h₁
  simp only [hplain, List.any_nil, Bool.or_false]
  refine wpAny_bind (m := keeperOf (.ref _)) ?_
  unfold keeperOf
  refine wpAny_bind (wpAny_load ho ?_)
  simp only [boundA, show (Value.type "builtin_function_or_method" != Value.type "method") = true by decide, show (Value.type "builtin_function_or_method" == Value.type "builtin_function_or_method" || Value.type "builtin_function_or_method" == Value.type "method-wrapper") = true by decide, if_true]
  refine wpAny_pure ?_
  exact wpAny_bind (wpAny_mono hcall (fun r s₂ hr => wpAny_bind (wpAny_holding (wpAny_point (wpAny_pure hr)))) fun _ _ x => x)
noncomputable def HeldB (x l : Addr) (s₁ : Shared) (P : Prop) : Prop := StandsB x l s₁.heap ∧ P
theorem HeldB.intro {s₁ : Shared} {P : Prop} (N : News h₀ L s₁.heap news) (hm : (x, boundA l) ∈ news) (h : P) : HeldB x l s₁ P := ⟨(N _ hm).1, h⟩
theorem callWith_B {pos : Pos} {env : Env} {e : PySem.Expr} {rest : List PySem.Expr} {Q : Value → Shared → Prop} (_N : News h₀ L s.heap news) (_hm : (x, boundA l) ∈ news)
    (h : wpAny M A (spliced (backTo pos (starEach (e :: rest) env))) (fun vs s₁ => HeldB x l s₁ (wpAny M A (call (.ref x) vs) Q E s₁)) E s)
    (he : starEach (e :: rest) env = (false, eval e env) :: starEach rest env := by rfl) (hplain : (backTo pos (starEach rest env)).any (·.1) = false := by rfl) :
    wpAny M A (callWith pos (.ref x) [] (backTo pos (starEach (e :: rest) env)) []) Q E s := by
  rw [he] at h ⊢
  refine callWith_fieldsB (l := l) (by show (false || (backTo pos (starEach rest env)).any (·.1)) = false; rw [hplain]; rfl) ?_
  exact evalArgs_plain h
theorem sub_lm : isSubtype (.type "list") (.type "module") = pure false := by rw [isSubtype_type]; kernel_rfl
theorem sub_lt : isSubtype (.type "list") (.type "type") = pure false := by rw [isSubtype_type]; kernel_rfl
theorem owner_list' : Manifest.owners.lookup (String.ofList ['t', 's', 'i', 'l'].reverse) = some Manifest.sig_list := by kernel_rfl
theorem kind_la : builtinKind "list.append" = some .method := by decide +kernel
theorem va_la : Manifest.varargsMethods.contains "list.append" = false := by decide +kernel
theorem check_la {v : Value} {Q : Unit → Shared → Prop} (ho : s.heap.get? l = some (listOf its n)) (h : Q () s) : wpAny M A (checkBoundCall "list.append" ⟨[.ref l, v], []⟩) Q E s := by
  have hT : s.TypeIs (.ref l) "list" := ⟨_, ho, rfl⟩
  unfold checkBoundCall
  rw [signature?_of (id := "list.append") (n := ['d', 'n', 'e', 'p', 'p', 'a']) (o := ['t', 's', 'i', 'l']) (by kernel_rfl) owner_list']
  rw [show Manifest.sig_list.lookup (String.ofList ['d', 'n', 'e', 'p', 'p', 'a'].reverse) = some (⟨.oneArg, "list.append", "append", .self, [⟨"object", .posOnly, true⟩]⟩ : Manifest.Signature) from by kernel_rfl]
  simp only [kind_la, va_la]
  rw [if_neg (by decide)]
  refine wpAny_bind (wpAny_isInstance (T := "list") (b := false) hT sub_lm ?_)
  rw [if_neg (by decide)]
  refine wpAny_bind (m := isType (.ref l)) ?_
  have f1 := sub_lt
  repeat (any_goals (first | assumption | wp_step))
theorem quiet_la {as : Args} : (Code.builtin "list.append" as).quiet = true := Code.quiet_builtin _ (by decide +kernel)
theorem call_append_N {v : Value} {Q : Value → Shared → Prop} (F : Fr h₀ L s.heap m) (N : News h₀ L s.heap news) (hm : (x, boundA l) ∈ news) (U : Upd l (listOf its n) (listOf (its.push v) (n + 1)) news news')
    (h : ∀ h', Fr h₀ L h' m → News h₀ L h' news' → Q .none { s with heap := h' }) (hsz : its.size ≤ sizeLine) :
    wpAny (model prog w) A (call (.ref x) [v]) Q E s := by
  have ho : s.heap.get? x = some (boundA l) := (N _ hm).1
  have hl : s.heap.get? l = some (listOf its n) := by
    obtain ⟨pre, post, rfl, _, _, _⟩ := U.split
    exact (N (l, listOf its n) (List.mem_append.mpr (.inr (.head _)))).1
  refine wpAny_call (codeAny_of_tree ?_)
  show wpAny _ A.in1 (callAny (.ref x) ⟨[v], []⟩) _ _ s
  simp only [callAny]
  refine wpAny_bind (wpAny_load ho ?_)
  simp only [boundA, show (Value.type "builtin_function_or_method" == Value.type "method" || Value.type "builtin_function_or_method" == Value.type "builtin_function_or_method" || Value.type "builtin_function_or_method" == Value.type "method-wrapper") = true by decide, if_true]
  refine KFB.if_so (by decide) ?_
  refine wpAny_bind (check_la (l := l) (its := its) (n := n) hl ?_)
  refine wpAny_bind (wpAny_pure (wpAny_pure ?_))
  refine ⟨quiet_la, codeAny_builtin PySem.F.entry_list_append ?_⟩
  show wpAny _ _ (updateSeq l (·.push v) >>= fun _ => ret .none) _ _ s
  refine wpAny_bind ?_
  obtain ⟨pre, post, rfl, rfl, a, b⟩ := U.split
  have z := N (l, listOf its n) (List.mem_append.mpr (.inr (.head _)))
  refine wpAny_updateSeq (hz := hsz) z.1 rfl (wpAny_pure (h _ (F.change (Heap.SameBut.update ..) z.2.1 z.2.2) (news_set N a b (Heap.SameBut.update ..) ?_)))
  rw [Heap.get?_update_self _ z.1 (by rw [mapSeq_push]; rfl), mapSeq_push]
end
end Mine

end

section
open PySem PySem.W PyProof.Rows PySem.Calls
set_option maxRecDepth 100000
set_option maxHeartbeats 1000000
namespace Mine
noncomputable def RelT (star : Addr) (v : Value) : Option (List Nat) → Prop
  | none => v = .ref star
  | some y => ∃ t, v = .str ⟨y.toArray⟩ t
inductive TrIs (star : Addr) : List Value → List (Option (List Nat)) → Prop
  | nil : TrIs star [] []
  | snoc {vs xs v x} : TrIs star vs xs → RelT star v x → TrIs star (vs ++ [v]) (xs ++ [x])
theorem map7 {m : Str → Option Value} {a b c d e f g : Str} {va vb vc vd ve vf vg : Value} (ha : m a = some va) (hb : m b = some vb) (hc : m c = some vc) (hd : m d = some vd) (he : m e = some ve) (hf : m f = some vf) (hg : m g = some vg) :
    m = fun y => if y = a then some va else if y = b then some vb else if y = c then some vc else if y = d then some vd else if y = e then some ve else if y = f then some vf else if y = g then some vg else m y := by
  funext y; repeat' (split; (rename_i e; rw [e]; assumption))
  rfl
theorem item_at {p : List Nat} {i : Nat} (h : i < p.length) : Txt.item ⟨p.toArray⟩ (i : Int) = ⟨#[p[i]]⟩ := by
  have e : Txt.charAt ⟨p.toArray⟩ (i : Int) = some p[i] := by
    unfold Txt.charAt
    simp [seqIndex?, Str.length, show ¬ ((i : Int) < 0) by omega, h]
  unfold Txt.item
  rw [e]; rfl
theorem ch_of {ch c : Nat} {y : Str} (hy : y = ⟨#[c]⟩) (h : ((⟨#[ch]⟩ : Str) == y) = true) : ch = c := by
  subst hy
  have e1 : (⟨#[ch]⟩ : Str) = ⟨#[c]⟩ := by simpa using h
  have e3 : [ch] = [c] := congrArg (fun x : Str => x.cps.toList) e1
  exact (List.cons.inj e3).1
theorem ch_ne {ch c : Nat} {y : Str} (hy : y = ⟨#[c]⟩) (h : ((⟨#[ch]⟩ : Str) == y) = false) : ch ≠ c := by
  rintro rfl
  subst hy
  simp at h
theorem tr_star_none {xs : List (Option (List Nat))} : trStep (xs ++ [none]) 42 = xs ++ [none] := by simp [trStep]
theorem tr_star_some {xs : List (Option (List Nat))} {y : List Nat} : trStep (xs ++ [some y]) 42 = (xs ++ [some y]) ++ [none] := by simp [trStep]
theorem tr_q {xs : List (Option (List Nat))} : trStep xs 63 = xs ++ [some [46]] := by simp [trStep]
theorem tr_else {xs : List (Option (List Nat))} {c : Nat} (h1 : c ≠ 42) (h2 : c ≠ 63) : trStep xs c = xs ++ [some (esc c)] := by simp [trStep, h1, h2]
theorem len_snoc {vs : List Value} {v : Value} {i : Nat} (h : vs.length ≤ i) : (vs ++ [v]).length ≤ i + 1 := by rw [List.length_append, List.length_singleton]; omega
theorem last_at (vs : List Value) (v : Value) : (vs ++ [v]).toArray[(-1 + ((vs ++ [v]).toArray.size : Int)).toNat]? = some v := by
  have e : (-1 + ((vs ++ [v]).toArray.size : Int)).toNat = vs.length := by rw [List.size_toArray, List.length_append, List.length_singleton]; omega
  rw [e, List.getElem?_toArray, List.getElem?_append_right (Nat.le_refl _), Nat.sub_self]; rfl
theorem last_sz (vs : List Value) (v : Value) : -((vs ++ [v]).toArray.size : Int) ≤ -1 := by rw [List.size_toArray, List.length_append, List.length_singleton]; omega
theorem g_escape (P : Params) : nsIn (K P) mainGlobals (Str.ofString "escape") = some (some (.ref 62)) := by kernel_rfl
local macro_rules | `(tactic| walk_at "eval Name") => `(tactic| first
  | ((with_reducible show wpAny _ _ (eval (PySem.Expr.Name (Str.ofString "escape") _) _) _ _ _); refine Sx.glob (by assumption) (by assumption) (g_escape _) ?_)
  | ((with_reducible show wpAny _ _ (eval (PySem.Expr.Name (Str.ofString "len") _) _) _ _ _); refine Sx.blt (by assumption) (by assumption) (n_len _) (by boot_fast) (by decide) ?_))
local macro_rules | `(tactic| walk_at "callWith ref") => `(tactic| first | (refine callWith_B (by assumption) (.head _) ?_) | (refine Sx.fn (by assumption) (by with_unfolding_all rfl) (by with_unfolding_all rfl) ?_))
local macro_rules | `(tactic| walk_at "Held") => `(tactic| refine Held.intro (by assumption) ?_)
local macro_rules | `(tactic| walk_at "HeldB") => `(tactic| refine HeldB.intro (by assumption) (.head _) ?_)
local macro_rules | `(tactic| walk_at "getAttr ref") => `(tactic| (refine get_append_N (by assumption) (by assumption) (.head _) ?_; intro _ _ _))
local macro_rules | `(tactic| walk_at "unpackItems ref") => `(tactic| (refine unpackItemsN_ (by assumption) (by assumption) (News.isTup (by assumption) (by first | exact .head _ | exact .tail _ (.head _) | exact .tail _ (.tail _ (.head _)))) (Sx.hh (by assumption)) (by rfl) ?_; intro _ _ _))
local macro_rules | `(tactic| walk_at "call ref") => `(tactic| first
  | (refine call_append_N (by assumption) (by assumption) (.head _) (Upd.tail (by assumption) (Upd.head (by assumption))) ?_ (by assumption); intro _ _ _)
  | (refine c_escape (Sx.less (by assumption) (by omega)) (by assumption) (by assumption) (by assumption) ?_; intro _ _ _ _ _))
local macro_rules | `(tactic| walk_at "truthy ref") => `(tactic| refine wpAny_truthy_list (News.isList (by assumption) (.tail _ (.head _))) (by assumption) ?_)
local macro_rules | `(tactic| walk_at "execs cons") => `(tactic| exact absurd (show ((_ : Str) == Str.ofString "[") = true by assumption) (by assumption))
local macro_rules | `(tactic| walk_at "subscriptTail Name UnaryOp ref int") => `(tactic| (refine subscriptTail_builtin (T := "list") ⟨_, (News.get (by assumption) (.tail _ (.head _))), rfl⟩ slot_list_getitem.lookup ?_; refine wpAny_getItem_list_neg (News.isList (by assumption) (.tail _ (.head _))) (by decide) (last_sz _ _) (by decide) (last_at _ _) ?_))
local macro_rules | `(tactic| walk_at "compareOp IsNot str ref") => `(tactic| refine wpAny_isNot_other rfl (by simp) ?_)
local macro_rules | `(tactic| walk_at "call builtin:len") => `(tactic| refine P.len_str (by assumption) ?_)
section
variable {prog : Program} {w : World} {A : Around} {E Q : Value → Shared → Prop} {s : Shared} {h₀ : Heap} {L : Addr} {m : Str → Option Value} {news : List (Addr × Obj)}
theorem c_tr {p : List Nat} {t u : Tok} {star : Addr} (S : Sx w A h₀ L 7) (F : Fr h₀ L s.heap m) (N : News h₀ L s.heap news) (hp : p.length ≤ 100000) (ha : ∀ c ∈ p, c < 128) (hb : ∀ c ∈ p, c ≠ 91)
    (h : ∀ lp vs n h' tk, TrIs star vs (p.foldl trStep []) → Fr h₀ L h' m → News h₀ L h' ((lp, listOf vs.toArray n) :: news) → (∀ q ∈ news, q.1 ≠ lp) → Q (.ref lp) { s with heap := h', toks := tk }) :
    wpAny (model prog w) A (call (.ref 69) [.str ⟨p.toArray⟩ t, .ref star, .str (Str.ofString ".") u]) Q E s := by
  refine wpAny_call (enter (k := 6) (binds := [(Str.ofString "pat", .str ⟨p.toArray⟩ t), (Str.ofString "STAR", .ref star), (Str.ofString "QUESTION_MARK", .str (Str.ofString ".") u)]) S F N rfl rfl (BindsTo.of_eq rfl) (locs rfl) rfl rfl rfl (by decide) fun g L' h₁ S' F' N' kp => ?_)
  have hlen0 : (⟨p.toArray⟩ : Str).length = p.length := by show p.toArray.size = _; rw [List.size_toArray]
  have hlen : ¬ ((⟨p.toArray⟩ : Str).length : Int) ≥ 2 ^ 63 := by rw [hlen0]; omega
  iterate 5 walk1
  rename Fr g L' _ _ => FF
  rename News g L' _ _ => NN
  generalize hlp : Array.size (Heap.objs _) = lp at FF NN ⊢
  have hfr : ∀ q ∈ news, q.1 ≠ lp := fun q hq e => Nat.lt_irrefl _ ((hlp.trans e.symm) ▸ Heap.lt_size (N' q hq).1)
  clear hlp
  iterate 6 walk1
  rename Fr g L' _ _ => FG
  rename News g L' _ _ => NG
  generalize Array.size (Heap.objs _) = bp at FG NG ⊢
  have hbl : bp ≠ lp := by
    intro e
    have h1 := (NG _ (.head _)).1
    have h2 := (NG _ (.tail _ (.head _))).1
    rw [e] at h1
    rw [h1] at h2
    have h3 := congrArg Obj.cls (Option.some.inj h2)
    exact absurd h3 (by show ¬ (Value.type "builtin_function_or_method" = Value.type "list"); simp)
  clear FF NN
  repeat' walk1
  rename Fr g L' _ _ => FW
  rename News g L' _ _ => NW
  refine While_inv (n₀ := p.length) (fun n m nx => ∃ (i : Nat) (vs : List Value) (k : Nat), i ≤ p.length ∧ n = p.length - i ∧ TrIs star vs ((p.take i).foldl trStep []) ∧ nx = (bp, boundA lp) :: (lp, listOf vs.toArray k) :: news ∧ vs.length ≤ i ∧
    (∃ t, m (Str.ofString "i") = some (.int i t)) ∧ (∃ t, m (Str.ofString "n") = some (.int p.length t)) ∧ (∃ t, m (Str.ofString "pat") = some (.str ⟨p.toArray⟩ t)) ∧ m (Str.ofString "res") = some (.ref lp) ∧ m (Str.ofString "add") = some (.ref bp) ∧ m (Str.ofString "STAR") = some (.ref star) ∧
    (∃ t, m (Str.ofString "QUESTION_MARK") = some (.str (Str.ofString ".") t))) FW (fun q hq => NW q (.tail _ hq)) ⟨0, [], 0, Nat.zero_le _, rfl, .nil, rfl, Nat.le_refl _, ⟨_, rfl⟩, ⟨_, rfl⟩, ⟨_, rfl⟩, rfl, rfl, rfl, ⟨_, rfl⟩⟩ ?_
  rintro n m₁ n₁ h2 tk2 F2 N2 ⟨i, vs, k, hi, hn, hT, rfl, hvl, ⟨t1, e1⟩, ⟨t2, e2⟩, ⟨t3, e3⟩, e4, e5, e6, ⟨t7, e7⟩⟩
  rw [map7 e1 e2 e3 e4 e5 e6 e7] at F2
  clear FG NG FW NW
  iterate 6 walk1
  · have hil : i < p.length := by omega
    have hpi : p[i]? = some p[i] := List.getElem?_eq_getElem hil
    have hmem : p[i] ∈ p := List.getElem_mem hil
    have hc := ha _ hmem
    have hnb : ¬ ((⟨#[p[i]]⟩ : Str) == Str.ofString "[") = true := by
      intro e
      have e1 : (⟨#[p[i]]⟩ : Str) = Str.ofString "[" := by simpa using e
      have e2 := congrArg (fun x : Str => x.cps.toList) e1
      have e3 : [p[i]] = [91] := e2
      exact hb _ hmem (List.cons.inj e3).1
    have hitem : Txt.item ⟨p.toArray⟩ (i : Int) = ⟨#[p[i]]⟩ := item_at hil
    have hstep : (p.take (i + 1)).foldl trStep [] = trStep ((p.take i).foldl trStep []) p[i] := by
      rw [List.take_add_one, hpi, List.foldl_append]; rfl
    have hfit : (vs.toArray.size : Int) < 2 ^ 63 := by rw [List.size_toArray]; omega
    have hsz : vs.toArray.size ≤ sizeLine := by rw [List.size_toArray, sizeLine_eq]; omega
    generalize hch : p[i] = ch at hc hnb hitem hstep
    iterate 7 walk1
    rename Fr g L' _ _ => FC
    rw [hitem] at FC
    iterate 15 walk1
    · have hch42 : ch = 42 := ch_of rfl (by assumption)
      subst hch42
      generalize (p.take i).foldl trStep [] = xs at hT hstep
      cases hT with
      | nil =>
        repeat' walk1
        rename Fr g L' _ _ => FE
        rename News g L' _ _ => NE
        refine WhileStep.intro (n' := p.length - (i + 1)) FE NE (by omega) ⟨i + 1, [.ref star], _, by omega, rfl, ?_, rfl, by simp, ⟨_, rfl⟩, ⟨_, rfl⟩, ⟨_, rfl⟩, rfl, rfl, rfl, ⟨_, rfl⟩⟩
        rw [hstep]
        exact TrIs.snoc (x := none) .nil rfl
      | @snoc vs xs v x hT hR =>
        have hemp : (vs ++ [v]).toArray.isEmpty = false := by simp
        cases x with
        | none =>
          subst hR
          repeat' walk1
          · exfalso
            revert hemp
            rw [show (vs ++ [Value.ref star]).toArray.isEmpty = true by assumption]
            decide
          · rename Fr g L' _ _ => FE
            rename News g L' _ _ => NE
            refine WhileStep.intro (n' := p.length - (i + 1)) FE NE (by omega) ⟨i + 1, _, _, by omega, rfl, ?_, rfl, Nat.le_succ_of_le hvl, ⟨_, rfl⟩, ⟨_, rfl⟩, ⟨_, rfl⟩, rfl, rfl, rfl, ⟨_, rfl⟩⟩
            rw [hstep, tr_star_none]
            exact TrIs.snoc (x := none) hT rfl
        | some y =>
          obtain ⟨ty, rfl⟩ := hR
          repeat' walk1
          · exfalso
            revert hemp
            rw [show (vs ++ [Value.str ⟨y.toArray⟩ ty]).toArray.isEmpty = true by assumption]
            decide
          · rename Fr g L' _ _ => FE
            rename News g L' _ _ => NE
            refine WhileStep.intro (n' := p.length - (i + 1)) FE NE (by omega) ⟨i + 1, _, _, by omega, rfl, ?_, by rw [List.push_toArray], len_snoc hvl, ⟨_, rfl⟩, ⟨_, rfl⟩, ⟨_, rfl⟩, rfl, rfl, rfl, ⟨_, rfl⟩⟩
            rw [hstep, tr_star_some]
            exact TrIs.snoc (x := none) (TrIs.snoc (x := some y) hT ⟨ty, rfl⟩) rfl
    · have hch42 : ch ≠ 42 := ch_ne rfl (by assumption)
      repeat' walk1
      · have hch63 : ch = 63 := ch_of rfl (by assumption)
        subst hch63
        rename Fr g L' _ _ => FE
        rename News g L' _ _ => NE
        refine WhileStep.intro (n' := p.length - (i + 1)) FE NE (by omega) ⟨i + 1, _, _, by omega, rfl, ?_, by rw [List.push_toArray], len_snoc hvl, ⟨_, rfl⟩, ⟨_, rfl⟩, ⟨_, rfl⟩, rfl, rfl, rfl, ⟨_, rfl⟩⟩
        rw [hstep, tr_q]
        exact TrIs.snoc (x := some [46]) hT ⟨_, rfl⟩
      · have hch63 : ch ≠ 63 := ch_ne (y := Str.ofString "?") rfl (by assumption)
        rename Fr g L' _ _ => FE
        rename News g L' _ _ => NE
        refine WhileStep.intro (n' := p.length - (i + 1)) FE NE (by omega) ⟨i + 1, _, _, by omega, rfl, ?_, by rw [List.push_toArray], len_snoc hvl, ⟨_, rfl⟩, ⟨_, rfl⟩, ⟨_, rfl⟩, rfl, rfl, rfl, ⟨_, rfl⟩⟩
        rw [hstep, tr_else hch42 hch63]
        exact TrIs.snoc (x := some (esc ch)) hT ⟨_, rfl⟩
  · repeat' walk1
    have hi' : i = p.length := by omega
    rw [hi', List.take_length] at hT
    refine leaveK_ F2 (fun q hq => N2 q (.tail _ hq)) fun F4 N4 => ?_
    exact h _ _ _ _ _ hT F4 N4 hfr
end
end Mine

end

section
open PySem PySem.W PyProof.Rows PySem.Calls
set_option maxRecDepth 100000
namespace Mine
open PyProof.Rows.LCg
section
variable {prog : Program} {w : World} {A : Around} {E : Value → Shared → Prop} {s : Shared} {h₀ : Heap} {L : Addr} {m : Str → Option Value} {env : Env}
theorem rest_ind {elt : PySem.Expr} {x : Str} {scope : Scope} {cl : List (Str × Addr)} {S : List (Addr × Obj) → Prop} {P : Nat → Value → Prop} {Fin : List Value → List (Addr × Obj) → Prop} (J : Nat → List Value → List (Addr × Obj) → Prop) {n : Nat}
    (step : ∀ i ys news, i < n → J i ys news → ∀ v I oI C oC D m₂ h tk (E' : Value → Shared → Prop), P i v → NsObj oC m₂ → m₂ x = some v → Fr h₀ L h m → News h₀ L h ((I, oI) :: (C, oC) :: (D, lst ys) :: news) → Off3 I C D news → ((@Ne Nat I C) ∧ (@Ne Nat I D) ∧ (@Ne Nat C D)) →
      wpAny (model prog w) A (eval elt (compEnvC scope cl C env)) (CompEnd h₀ L m { s with heap := h, toks := tk } I oI C oC D (lst ys) S (fun y news' => J (i + 1) (ys ++ [y]) news')) E' { s with heap := h, toks := tk })
    (fin : ∀ ys news, J n ys news → Fin ys news) : ∀ k i ys news, i + k = n → J i ys news → CompRest prog w A h₀ L m env elt x scope cl s S P Fin k i ys news
  | 0, i, ys, news, e, hJ => fin ys news (by rw [← e]; exact hJ)
  | k + 1, i, ys, news, e, hJ => fun v I oI C oC D m₂ h tk E' hP hC hx F N off ne => by
    refine wpAny_mono (step i ys news (by omega) hJ v I oI C oC D m₂ h tk E' hP hC hx F N off ne) (fun y s₂ hq => ?_) fun _ _ e => e
    obtain ⟨h', tk', news', e1, F', N', off', hS, hJ'⟩ := hq
    exact ⟨h', tk', news', e1, F', N', off', hS, rest_ind J step fin k (i + 1) _ _ (by omega) hJ'⟩
end
end Mine

end

section
open PySem PySem.W PyProof.Rows PySem.Calls
set_option maxRecDepth 100000
namespace Mine
theorem pick_from (vs : List Value) (a : Nat) : slicePick vs.toArray (some (a : Int)) none none = (vs.drop a).toArray := by
  have e : sliceBounds (some (a : Int)) none none vs.toArray.size = (((min a vs.toArray.size : Nat) : Int), ((vs.toArray.size : Nat) : Int), 1) := by
    simp only [sliceBounds, Option.getD_none, show (1 : Int) > 0 by decide, if_true, if_neg (show ¬ ((a : Int) < 0) by omega)]
    congr 1
    omega
  rw [kmk_pick_nat _ e]
  show (List.take (vs.toArray.size - min a vs.toArray.size) (vs.drop (min a vs.toArray.size))).toArray = _
  rw [List.size_toArray, kmk_drop_min, List.take_of_length_le (by rw [List.length_drop]; omega)]
theorem pick_to (vs : List Value) (b : Nat) : slicePick vs.toArray none (some (b : Int)) none = (vs.take b).toArray := by
  have e : sliceBounds none (some (b : Int)) none vs.toArray.size = (((0 : Nat) : Int), ((min b vs.toArray.size : Nat) : Int), 1) := by
    simp only [sliceBounds, Option.getD_none, show (1 : Int) > 0 by decide, if_true, if_neg (show ¬ ((b : Int) < 0) by omega)]
    congr 1
    congr 1
    omega
  rw [kmk_pick_nat _ e]
  show (List.take (min b vs.toArray.size - 0) (vs.drop 0)).toArray = _
  rw [List.drop_zero, Nat.sub_zero, List.size_toArray, kmk_take_min]
end Mine

end

section
set_option maxRecDepth 100000
namespace Mine
noncomputable def sqb : Bool → List Nat → List Nat
  | _, [] => []
  | b, c :: r => if c = 42 then (if b = true then sqb true r else 42 :: sqb true r) else c :: sqb false r
noncomputable def tokS (c : Nat) : List Nat := if c = 63 then [46] else esc c
noncomputable def tok (c : Nat) : Option (List Nat) := if c = 42 then none else some (tokS c)
theorem tr_sq : ∀ (p : List Nat) (acc : List (Option (List Nat))), p.foldl trStep acc = acc ++ (sqb (decide (acc.getLast? = some none)) p).map tok := by
  intro p
  induction p with
  | nil => intro acc; simp [sqb]
  | cons c p ih =>
    intro acc
    rw [List.foldl_cons, ih]
    by_cases hc : c = 42
    · subst hc
      by_cases hl : acc.getLast? = some none
      · have e1 : trStep acc 42 = acc := by unfold trStep; rw [if_pos rfl, if_pos hl]
        rw [e1]
        have e2 : sqb (decide (acc.getLast? = some none)) (42 :: p) = sqb (decide (acc.getLast? = some none)) p := by
          rw [decide_eq_true hl]; rfl
        rw [e2]
      · have e1 : trStep acc 42 = acc ++ [none] := by unfold trStep; rw [if_pos rfl, if_neg hl]
        rw [e1]
        have e2 : decide ((acc ++ [none]).getLast? = some (none : Option (List Nat))) = true := by simp
        rw [e2, decide_eq_false hl]
        show _ = acc ++ (42 :: sqb true p).map tok
        rw [List.map_cons, List.append_assoc]; rfl
    · have hy : trStep acc c = acc ++ [some (tokS c)] := by
        unfold trStep tokS
        rw [if_neg hc]; split <;> rfl
      rw [hy]
      have e2 : decide ((acc ++ [some (tokS c)]).getLast? = some (none : Option (List Nat))) = false := by simp
      rw [e2]
      have e3 : sqb (decide (acc.getLast? = some none)) (c :: p) = c :: sqb false p := by show (if c = 42 then _ else c :: sqb false p) = _; rw [if_neg hc]
      have e4 : tok c = some (tokS c) := by unfold tok; rw [if_neg hc]
      rw [e3, List.map_cons, e4, List.append_assoc]; rfl
/-- a sign's figure as the law tells it. -/
noncomputable def figS (c : Nat) : List Int := if c = 42 ∨ c = 63 ∨ c = 46 then [62] else if c = 10 ∨ c = 13 then [63] else fig1 c
noncomputable def rowEnd (c : Nat) : Bool := decide (c = 10 ∨ c = 13)
noncomputable def bare (lone b : Bool) (c : Nat) : Bool := b && (decide (c = 63) || (decide (c = 42) && lone))
noncomputable def FS (t : Nat) (lone : Bool) : Bool → List Nat → List Int
  | _, [] => []
  | b, c :: r => (if bare lone b c = true then List.replicate t 62 else []) ++ (figS c ++ FS t lone (rowEnd c) r)
noncomputable def endB : Bool → List Nat → Bool
  | b, [] => b
  | _, c :: r => endB (rowEnd c) r
noncomputable def endP : Bool → List Nat → Bool
  | p, [] => p
  | _, c :: r => endP (decide (c = 13)) r
noncomputable def Y (seg : List Nat) : List Nat := (seg.map tokS).flatten
theorem FS_append (t : Nat) (lone : Bool) (a r : List Nat) : ∀ b, FS t lone b (a ++ r) = FS t lone b a ++ FS t lone (endB b a) r := by
  induction a with
  | nil => intro b; rfl
  | cons c a ih =>
    intro b
    show _ ++ (figS c ++ FS t lone (rowEnd c) (a ++ r)) = (_ ++ (figS c ++ FS t lone (rowEnd c) a)) ++ _
    rw [ih, List.append_assoc, List.append_assoc]; rfl
theorem fin128 {P : Nat → Prop} (h : ∀ c : Fin 128, P c.val) (c : Nat) (hc : c < 128) : P c := h ⟨c, hc⟩
theorem sp_facts : ∀ c : Fin 128, (specials.contains c.val = false → c.val ≠ 10 ∧ c.val ≠ 13 ∧ c.val ≠ 46) := by decide +kernel
theorem gF_skip (t : Nat) (b p : Bool) {c : Nat} (r : List Nat) (h1 : c ≠ 13) (h2 : c ≠ 10) (h3 : c ≠ 46) (h4 : fig1 c = []) : gF t b p (c :: r) = gF t false false r := by rw [gF_o t b p r h1 h2 h3, h4]; rfl
theorem gF_sign (t : Nat) (lone b p : Bool) {c : Nat} (hc : c < 128) (h42 : c ≠ 42) (r : List Nat) :
    gF t b p (tokS c ++ r) = (if bare lone b c = true then List.replicate t 62 else []) ++ (figS c ++ gF t (rowEnd c) (decide (c = 13)) r) := by
  have hbare : bare lone b c = (b && decide (c = 63)) := by unfold bare; rw [decide_eq_false h42]; simp
  rw [hbare]
  by_cases h63 : c = 63
  · subst h63
    cases b with
    | true =>
      show gF t true p (46 :: r) = _
      rw [gF_46t, List.replicate_succ', List.append_assoc]; rfl
    | false => rfl
  · rw [decide_eq_false h63, Bool.and_false]
    show _ = figS c ++ _
    have e : tokS c = esc c := by unfold tokS; rw [if_neg h63]
    rw [e]
    unfold esc
    by_cases hs : specials.contains c = true
    · rw [if_pos hs]
      show gF t b p (92 :: c :: r) = _
      rw [gF_skip t b p _ (by decide) (by decide) (by decide) (by decide)]
      by_cases h10 : c = 10
      · subst h10; rfl
      · by_cases h13 : c = 13
        · subst h13; rfl
        · by_cases h46 : c = 46
          · subst h46; rfl
          · rw [gF_o t false false r h13 h10 h46]
            have e1 : figS c = fig1 c := by unfold figS; rw [if_neg (by omega), if_neg (by omega)]
            have e2 : rowEnd c = false := by unfold rowEnd; exact decide_eq_false (by omega)
            rw [e1, e2, decide_eq_false h13]
    · have hs' : specials.contains c = false := by simpa using hs
      rw [if_neg hs]
      obtain ⟨h10, h13, h46⟩ := fin128 (P := fun c => specials.contains c = false → c ≠ 10 ∧ c ≠ 13 ∧ c ≠ 46) sp_facts c hc hs'
      show gF t b p (c :: r) = _
      rw [gF_o t b p r h13 h10 h46]
      have e1 : figS c = fig1 c := by unfold figS; rw [if_neg (by omega), if_neg (by omega)]
      have e2 : rowEnd c = false := by unfold rowEnd; exact decide_eq_false (by omega)
      rw [e1, e2, decide_eq_false h13]
theorem gF_seg (t : Nat) (lone : Bool) (seg r : List Nat) : ∀ b p, (∀ c ∈ seg, c < 128 ∧ c ≠ 42) → gF t b p (Y seg ++ r) = FS t lone b seg ++ gF t (endB b seg) (endP p seg) r := by
  induction seg with
  | nil => intros; rfl
  | cons c seg ih =>
    intro b p h
    have hc := h c (.head _)
    have e : Y (c :: seg) ++ r = tokS c ++ (Y seg ++ r) := by unfold Y; rw [List.map_cons, List.flatten_cons, List.append_assoc]
    rw [e, gF_sign t lone b p hc.1 hc.2, ih _ _ (fun x hx => h x (.tail _ hx))]
    show _ = (_ ++ (figS c ++ FS t lone (rowEnd c) seg)) ++ _
    simp only [List.append_assoc]; rfl
theorem split_star (r : List Nat) : ∃ seg r2, r = seg ++ r2 ∧ (∀ c ∈ seg, c ≠ 42) ∧ (r2 = [] ∨ ∃ r3, r2 = 42 :: r3) := by
  induction r with
  | nil => exact ⟨[], [], rfl, by simp, .inl rfl⟩
  | cons c r ih =>
    by_cases h : c = 42
    · exact ⟨[], c :: r, rfl, by simp, .inr ⟨r, by rw [h]⟩⟩
    · obtain ⟨seg, r2, e, h1, h2⟩ := ih
      refine ⟨c :: seg, r2, by rw [e]; rfl, ?_, h2⟩
      intro x hx
      rcases List.mem_cons.mp hx with rfl | hx
      · exact h
      · exact h1 x hx
/-- no two stars on end. -/
noncomputable def NoTwo (l : List Nat) : Prop := ∀ a b, l ≠ a ++ 42 :: 42 :: b
theorem NoTwo.right {a b : List Nat} (h : NoTwo (a ++ b)) : NoTwo b := fun x y e => h (a ++ x) y (by rw [e, List.append_assoc])
theorem map_tok (seg : List Nat) (h : ∀ c ∈ seg, c ≠ 42) : seg.map tok = (seg.map tokS).map some := by
  rw [List.map_map]
  refine List.map_congr_left fun c hc => ?_
  show tok c = some (tokS c)
  unfold tok; rw [if_neg (h c hc)]
theorem FS_lone_false (t : Nat) (b : Bool) (r : List Nat) : FS t false b (42 :: r) = FS t false false (42 :: r) := by
  show (if bare false b 42 = true then _ else []) ++ _ = (if bare false false 42 = true then _ else []) ++ _
  have e : bare false b 42 = false := by unfold bare; simp
  have e2 : bare false false 42 = false := rfl
  rw [e, e2]
theorem star_tail : ∀ (n : Nat) (r : List Nat), r.length ≤ n → NoTwo (42 :: r) → (∀ c ∈ r, c < 128) → ∃ out, StarsR ((42 :: r).map tok) out ∧
    ∀ (t : Nat) (lone b p : Bool) (rest : List Nat), (lone = true → 42 ∉ r) → (42 ∉ r → b = true → lone = true) → gF t b p (out.flatten ++ 41 :: rest) = FS t lone b (42 :: r) ++ gF t false false rest
  | n, r, hn, h2, hr => by
    obtain ⟨seg, r2, e, hs, hr2⟩ := split_star r
    have hseg : ∀ c ∈ seg, c < 128 ∧ c ≠ 42 := fun c hc => ⟨hr c (by rw [e]; exact List.mem_append.mpr (.inl hc)), hs c hc⟩
    have starF : ∀ (t : Nat) (lone b p : Bool) (x : List Nat), (b = true → lone = true) → gF t b p (46 :: 42 :: x) = (if bare lone b 42 = true then List.replicate t 62 else []) ++ (figS 42 ++ gF t false false x) := by
      intro t lone b p x hb
      cases b with
      | true =>
        rw [hb rfl]
        show gF t true p (46 :: 42 :: x) = List.replicate t 62 ++ ([62] ++ gF t false false x)
        rw [gF_46t, gF_skip t false false _ (by decide) (by decide) (by decide) (by decide), List.replicate_succ', List.append_assoc]
      | false =>
        show gF t false p (46 :: 42 :: x) = [62] ++ gF t false false x
        rw [gF_46f, gF_skip t false false _ (by decide) (by decide) (by decide) (by decide)]; rfl
    rcases hr2 with rfl | ⟨r3, rfl⟩
    · have hrs : r = seg := by rw [e, List.append_nil]
      subst hrs
      have hno : 42 ∉ r := fun hm => hs 42 hm rfl
      cases hr0 : r with
      | nil =>
        refine ⟨[[46, 42]], .last, ?_⟩
        intro t lone b p rest _ hb
        show gF t b p (46 :: 42 :: 41 :: rest) = _
        rw [starF t lone b p _ (hb (by simp)), gF_skip t false false _ (by decide) (by decide) (by decide) (by decide)]
        show _ = (_ ++ (figS 42 ++ [])) ++ _
        rw [List.append_nil, List.append_assoc]
      | cons c0 s0 =>
        rw [← hr0]
        refine ⟨[[46, 42], (r.map tokS).flatten], ?_, ?_⟩
        · have := StarsR.fin (ys := r.map tokS) (by rw [hr0]; simp)
          rw [List.map_cons, map_tok r hs]; exact this
        · intro t lone b p rest _ hb
          have e2 : ([[46, 42], (r.map tokS).flatten] : List (List Nat)).flatten ++ 41 :: rest = 46 :: 42 :: (Y r ++ 41 :: rest) := by simp [Y]
          rw [e2, starF t lone b p _ (hb hno), gF_seg t lone r _ false false hseg, gF_skip t _ _ _ (by decide) (by decide) (by decide) (by decide)]
          show _ = (_ ++ (figS 42 ++ FS t lone false r)) ++ _
          simp only [List.append_assoc]
    · have hse : seg ≠ [] := by
        rintro rfl
        exact h2 [] r3 (by rw [e]; rfl)
      have hlt : r3.length < n := by rw [e] at hn; simp at hn; have := List.length_pos_iff.mpr hse; omega
      obtain ⟨out, ho, hg⟩ := star_tail (n - 1) r3 (by omega) (by
        have h3 : NoTwo ((42 :: seg) ++ 42 :: r3) := by rw [show (42 :: seg) ++ 42 :: r3 = 42 :: r by rw [e]; rfl]; exact h2
        exact h3.right) (fun c hc => hr c (by rw [e]; exact List.mem_append.mpr (.inr (.tail _ hc))))
      refine ⟨([40, 63, 62, 46, 42, 63] ++ (seg.map tokS).flatten ++ [41]) :: out, ?_, ?_⟩
      · have := StarsR.more (ys := seg.map tokS) (by simpa using hse) ho
        rw [e, List.map_cons, List.map_append, map_tok seg hs]; exact this
      · intro t lone b p rest hl _
        have hm : 42 ∈ r := by rw [e]; exact List.mem_append.mpr (.inr (.head _))
        have hlf : lone = false := by
          cases lone with
          | true => exact absurd hm (hl rfl)
          | false => rfl
        subst hlf
        have e2 : (([40, 63, 62, 46, 42, 63] ++ (seg.map tokS).flatten ++ [41]) :: out).flatten ++ 41 :: rest = 40 :: 63 :: 62 :: 46 :: 42 :: 63 :: (Y seg ++ 41 :: (out.flatten ++ 41 :: rest)) := by simp [Y, List.append_assoc]
        rw [e2, gF_skip t b p _ (by decide) (by decide) (by decide) (by decide), gF_skip t false false _ (by decide) (by decide) (by decide) (by decide), gF_skip t false false _ (by decide) (by decide) (by decide) (by decide),
          gF_46f, gF_skip t false false _ (by decide) (by decide) (by decide) (by decide), gF_skip t false false _ (by decide) (by decide) (by decide) (by decide), gF_seg t false seg _ false false hseg,
          gF_skip t _ _ _ (by decide) (by decide) (by decide) (by decide), hg t false false false rest (fun h => by cases h) (fun _ h => by cases h)]
        have e3 : FS t false b (42 :: r) = 62 :: FS t false false r := by
          rw [FS_lone_false]; rfl
        rw [e3, e, FS_append, FS_lone_false t (endB false seg) r3]
        simp
termination_by n => n
decreasing_by omega
theorem text_figs {q : List Nat} (h2 : NoTwo q) (hq : ∀ c ∈ q, c < 128) : ∃ ys0 tail out, q.map tok = ys0.map some ++ tail ∧ StarsR tail out ∧ ∀ (t : Nat) (lone : Bool), (lone = true ↔ q.count 42 = 1) → gF t true false (joined (ys0 ++ out)) = 44 :: (FS t lone false q ++ [25]) := by
  obtain ⟨seg, r2, e, hs, hr2⟩ := split_star q
  have hseg : ∀ c ∈ seg, c < 128 ∧ c ≠ 42 := fun c hc => ⟨hq c (by rw [e]; exact List.mem_append.mpr (.inl hc)), hs c hc⟩
  have head : ∀ (t : Nat) (x : List Nat), gF t true false ([40, 63, 115, 58] ++ x) = 44 :: gF t false false x := by
    intro t x
    show gF t true false (40 :: 63 :: 115 :: 58 :: x) = _
    rw [gF_skip t true false _ (by decide) (by decide) (by decide) (by decide), gF_skip t false false _ (by decide) (by decide) (by decide) (by decide), gF_o t false false _ (by decide) (by decide) (by decide),
      gF_skip t false false _ (by decide) (by decide) (by decide) (by decide)]; rfl
  have tl : ∀ (t : Nat), gF t false false [92, 90] = [25] := by
    intro t
    rw [gF_skip t false false _ (by decide) (by decide) (by decide) (by decide), gF_o t false false _ (by decide) (by decide) (by decide)]; rfl
  have hcs : seg.count 42 = 0 := List.count_eq_zero.mpr fun hm => hs 42 hm rfl
  rcases hr2 with rfl | ⟨r, rfl⟩
  · refine ⟨seg.map tokS, [], [], by rw [e, List.append_nil, List.append_nil, map_tok seg hs], .nil, ?_⟩
    intro t lone _
    unfold joined
    rw [List.append_nil, List.append_assoc, head]
    congr 1
    show gF t false false (Y seg ++ 41 :: [92, 90]) = _
    rw [gF_seg t lone seg _ false false hseg, gF_skip t _ _ _ (by decide) (by decide) (by decide) (by decide), tl, e, List.append_nil]
  · obtain ⟨out, ho, hg⟩ := star_tail r.length r (Nat.le_refl _) (by rw [e] at h2; exact h2.right) (fun c hc => hq c (by rw [e]; exact List.mem_append.mpr (.inr (.tail _ hc))))
    refine ⟨seg.map tokS, (42 :: r).map tok, out, by rw [e, List.map_append, map_tok seg hs], ho, ?_⟩
    intro t lone hl
    have hcount : q.count 42 = r.count 42 + 1 := by rw [e, List.count_append, hcs]; simp
    unfold joined
    rw [List.flatten_append, List.append_assoc, List.append_assoc, head]
    congr 1
    show gF t false false (Y seg ++ (out.flatten ++ 41 :: [92, 90])) = _
    rw [gF_seg t lone seg _ false false hseg, hg t lone _ _ _ ?_ ?_, tl, e, FS_append, List.append_assoc]
    · intro hlt hm
      have := hl.mp hlt
      have := List.count_pos_iff.mpr hm
      omega
    · intro hn _
      refine hl.mpr ?_
      rw [hcount, List.count_eq_zero.mpr hn]
end Mine

end

section
open PySem PySem.W PyProof.Rows PySem.Calls
set_option maxRecDepth 100000
set_option maxHeartbeats 1000000
namespace Mine
theorem n_chr (P : Params) : nsIn (K P) mainGlobals (Str.ofString "chr") = some none := by kernel_rfl
local macro_rules | `(tactic| walk_at "eval Name") => `(tactic| first
  | ((with_reducible show wpAny _ _ (eval (PySem.Expr.Name (Str.ofString "chr") _) _) _ _ _); refine Sx.blt (by assumption) (by assumption) (n_chr _) (by boot_fast) (by decide) ?_))
noncomputable def signs64 : List Nat := (List.range 26).map (· + 65) ++ (List.range 26).map (· + 97) ++ (List.range 10).map (· + 48) ++ [43, 47]
theorem endS {Q : Value → Shared → Prop} {x y : Str} {t : Tok} {s' : Shared} (e : y = x) (h : Q (.str x t) s') : Q (.str y t) s' := e ▸ h
noncomputable def signOf (n : Nat) : Nat := if n % 6 < 5 then ([63, 63, 10, 13, 42] : List Nat).getD (n % 6) 0 else (if n / 6 % 128 = 61 ∨ n / 6 % 128 = 91 then 32 else n / 6 % 128)
section
variable {prog : Program} {w : World} {A : Around} {E Q : Value → Shared → Prop} {s : Shared} {h₀ : Heap} {L : Addr} {m : Str → Option Value} {news : List (Addr × Obj)}
theorem c_signs (S : Sx w A h₀ L 3) (F : Fr h₀ L s.heap m) (N : News h₀ L s.heap news)
    (h : ∀ t' h' tk, Fr h₀ L h' m → News h₀ L h' news → Q (.str ⟨signs64.toArray⟩ t') { s with heap := h', toks := tk }) :
    wpAny (model prog w) A (call (.ref 158) []) Q E s := by
  refine wpAny_call (enter (k := 2) (binds := []) S F N rfl rfl (BindsTo.of_eq rfl) (locs rfl) rfl rfl rfl (by decide) fun g L' h₁ S' F' N' kp => ?_)
  repeat' walk1
  refine leaveK_ F' N' fun F6 N6 => ?_
  refine endS (by decide) (h _ _ _ F6 N6)
theorem c_sign {n : Nat} {t : Tok} (S : Sx w A h₀ L 3) (F : Fr h₀ L s.heap m) (N : News h₀ L s.heap news) (hn : n < 1000000)
    (h : ∀ t' h' tk, Fr h₀ L h' m → News h₀ L h' news → Q (.str ⟨#[signOf n]⟩ t') { s with heap := h', toks := tk }) :
    wpAny (model prog w) A (call (.ref 165) [.int n t]) Q E s := by
  refine wpAny_call (enter (k := 2) (binds := [(Str.ofString "cell", .int n t)]) S F N rfl rfl (BindsTo.of_eq rfl) (locs rfl) rfl rfl rfl (by decide) fun g L' h₁ S' F' N' kp => ?_)
  have e6 : ((n : Nat) : Int).fmod 6 = ((n % 6 : Nat) : Int) := by rw [Int.fmod_eq_emod_of_nonneg _ (by decide)]; rfl
  have e128 : (((n : Nat) : Int).fdiv 6).fmod 128 = ((n / 6 % 128 : Nat) : Int) := by rw [Int.fmod_eq_emod_of_nonneg _ (by decide), Int.fdiv_eq_ediv_of_nonneg _ (by decide)]; rfl
  repeat' walk1
  · rename _ < (5 : Int) => h5
    rw [e6] at h5 ⊢
    refine kba_turn (value' := .Name (Str.ofString "text") ⟨0, 0, 0, 0⟩) (fun _ => rfl) ?_
    rw [show Str.ofString "??\n\r*" = ⟨([63, 63, 10, 13, 42] : List Nat).toArray⟩ by decide]
    have h5' : n % 6 < 5 := by omega
    refine item_str (fitsSsize_of (N := 9223372036854775808) (by omega) (by omega) (Int.le_refl _)) (by show -(5 : Int) ≤ _; omega) (by show _ < (5 : Int); omega) ?_
    intro _
    rw [item_at (p := [63, 63, 10, 13, 42]) (i := n % 6) h5']
    refine leaveK_ F' N' fun F6 N6 => ?_
    refine endS ?_ (h _ _ _ F6 N6)
    unfold signOf
    rw [if_pos h5']
    have : ∀ k (hk : k < 5), ([63, 63, 10, 13, 42] : List Nat)[k] = ([63, 63, 10, 13, 42] : List Nat).getD k 0 := by decide
    rw [this _ h5']
  · rename ¬ _ < (5 : Int) => h5
    rw [e6] at h5
    rename (Builtin.Str.occurrences _ _ _ _ _).isEmpty = true => ho
    rename Fr g L' _ _ => FE
    rename News g L' _ _ => NE
    refine leaveK_ FE NE fun F6 N6 => ?_
    refine endS ?_ (h _ _ _ F6 N6)
    rw [e128] at ho ⊢
    have h3 : n / 6 % 128 ≠ 61 ∧ n / 6 % 128 ≠ 91 := by
      refine ⟨?_, ?_⟩ <;> (intro e; rw [e] at ho; revert ho; decide +kernel)
    unfold signOf
    rw [if_neg (by omega), if_neg (by omega)]; rfl
  · rename ¬ _ < (5 : Int) => h5
    rw [e6] at h5
    rename (Builtin.Str.occurrences _ _ _ _ _).isEmpty = false => ho
    rename Fr g L' _ _ => FE
    rename News g L' _ _ => NE
    refine leaveK_ FE NE fun F6 N6 => ?_
    refine endS ?_ (h _ _ _ F6 N6)
    rw [e128] at ho
    have h3 : n / 6 % 128 = 61 ∨ n / 6 % 128 = 91 := by
      have hk : ∀ k : Fin 128, (Builtin.Str.occurrences (Str.ofString "=[") ⟨#[(((k.val : Nat) : Int)).toNat]⟩ 0 (Str.ofString "=[").length 1).isEmpty = false → k.val = 61 ∨ k.val = 91 := by decide +kernel
      exact hk ⟨n / 6 % 128, by omega⟩ ho
    unfold signOf
    rw [if_neg (by omega), if_pos h3]; decide
end
end Mine

end

section
open PySem PySem.W PyProof.Rows PySem.Calls
set_option maxRecDepth 100000
namespace Mine
open PySem.StrLaws PySem.Builtin.Str
noncomputable def glueL (sep : List Nat) : List (List Nat) → List Nat
  | [] => []
  | [p] => p
  | p :: q :: r => p ++ sep ++ glueL sep (q :: r)
theorem tsplit_eq {x y : Str} (hy : (y.length == 0) = false) : Txt.split x y = partsBetween x (occurrences x y 0 x.length (x.length + 1)) y.length := by
  have h := m_split x y hy
  have h2 : GW2.means .split (.str x) (.str y) = (if (y.length == 0) = true then Option.none else some (WData.list ((partsBetween x (occurrences x y 0 x.length (x.length + 1)) y.length).map .str))) := rfl
  rw [if_neg (by rw [hy]; nofun), h] at h2
  injection h2 with h3
  injection h3 with h4
  exact (List.map_inj_right (fun a b e => by injection e)).mp h4
theorem chainG_head {x y : Str} {a c f : Nat} {cuts : List Nat} (h : ChainG x y x.length a cuts f) (hn : ∀ k, f ≤ k → ¬ At x y x.length k) (hc : At x y x.length c) (hac : a ≤ c) (hno : ∀ k, a ≤ k → k < c → ¬ At x y x.length k) :
    ∃ r, cuts = c :: r ∧ ChainG x y x.length (c + y.length) r f := by
  cases cuts with
  | nil => exact absurd hc (hn c (by rw [show f = a from h]; exact hac))
  | cons d r =>
    have h1 : d = c := by
      rcases Nat.lt_trichotomy d c with e | e | e
      · exact absurd h.2.1 (hno d h.1 e)
      · exact e
      · exact absurd hc (h.2.2.1 c hac e)
    subst h1
    exact ⟨r, rfl, h.2.2.2⟩
theorem chainG_none {x y : Str} {a f : Nat} {cuts : List Nat} (h : ChainG x y x.length a cuts f) (hno : ∀ k, a ≤ k → ¬ At x y x.length k) : cuts = [] := by
  cases cuts with
  | nil => rfl
  | cons d r => exact absurd h.2.1 (hno d h.1)
theorem at_iff (X Y : List Nat) (k : Nat) : At ⟨X.toArray⟩ ⟨Y.toArray⟩ X.length k ↔ k + Y.length ≤ X.length ∧ (X.drop k).take Y.length = Y := by
  show (k + Y.toArray.size ≤ X.length ∧ (X.toArray.extract k (k + Y.toArray.size) == Y.toArray) = true) ↔ _
  rw [List.size_toArray, beq_iff_eq, ← Array.toList_inj, Array.toList_extract]
  simp [List.extract_eq_take_drop]
theorem at_head {X tl : List Nat} {c k : Nat} (h : At ⟨X.toArray⟩ ⟨(c :: tl).toArray⟩ X.length k) : X[k]? = some c := by
  have h2 := ((at_iff X (c :: tl) k).mp h).2
  have h3 : ((X.drop k).take (c :: tl).length)[0]? = some c := by rw [h2]; rfl
  rw [List.getElem?_take_of_lt (by simp), List.getElem?_drop] at h3
  simpa using h3
theorem strSub_list (X : List Nat) (i j : Nat) : strSub ⟨X.toArray⟩ i j = ⟨((X.drop i).take (j - i)).toArray⟩ := by
  show Str.mk (X.toArray.extract i j) = _
  refine congrArg Str.mk ?_
  rw [← Array.toList_inj, Array.toList_extract]
  try simp [List.extract_eq_take_drop]
theorem parts_rows (c : Nat) (tl : List Nat) : ∀ (rows : List (List Nat)) (pre : List Nat) (X : List Nat) (cuts : List Nat) (f : Nat), rows ≠ [] → X = pre ++ glueL (c :: tl) rows → (∀ r ∈ rows, c ∉ r) →
    ChainG ⟨X.toArray⟩ ⟨(c :: tl).toArray⟩ X.length pre.length cuts f → (∀ k, f ≤ k → ¬ At ⟨X.toArray⟩ ⟨(c :: tl).toArray⟩ X.length k) →
    partsFrom ⟨X.toArray⟩ (c :: tl).length pre.length cuts = rows.map fun r => (⟨r.toArray⟩ : Str)
  | [], _, _, _, _, h0, _, _, _, _ => absurd rfl h0
  | [p], pre, X, cuts, f, _, hX, hr, hG, hn => by
    have hp : c ∉ p := hr p (List.mem_singleton.mpr rfl)
    have e : cuts = [] := by
      refine chainG_none (x := ⟨X.toArray⟩) hG fun k hk hA => ?_
      have h2 := at_head hA
      rw [hX, List.getElem?_append_right hk] at h2
      exact hp (List.mem_of_getElem? h2)
    subst e
    show [strSub _ _ (Str.length ⟨X.toArray⟩)] = [_]
    rw [strSub_list, hX]
    show [Str.mk _] = _
    congr 2
    rw [List.drop_append_of_le_length (Nat.le_refl _), List.drop_length, List.nil_append, show glueL (c :: tl) [p] = p from rfl, List.take_of_length_le]
    show p.length ≤ (pre ++ p).toArray.size - _
    rw [List.size_toArray, List.length_append]; omega
  | p :: q :: r, pre, X, cuts, f, _, hX, hr, hG, hn => by
    have hp : c ∉ p := hr p (.head _)
    have eX : X = (pre ++ p ++ (c :: tl)) ++ glueL (c :: tl) (q :: r) := by rw [hX]; show _ ++ (p ++ (c :: tl) ++ _) = _; simp only [List.append_assoc]
    have hA : At ⟨X.toArray⟩ ⟨(c :: tl).toArray⟩ X.length (pre.length + p.length) := by
      refine (at_iff _ _ _).mpr ⟨?_, ?_⟩
      · rw [eX]; simp only [List.length_append]; omega
      · rw [eX, show pre.length + p.length = (pre ++ p).length by rw [List.length_append], List.append_assoc, List.drop_append_of_le_length (Nat.le_refl _), List.drop_length, List.nil_append, List.take_append_of_le_length (Nat.le_refl _), List.take_length]
    obtain ⟨cs, rfl, hG2⟩ := chainG_head (x := ⟨X.toArray⟩) hG hn hA (by omega) (by
      intro k h1 h2 hB
      have h3 := at_head hB
      rw [hX, List.getElem?_append_right h1] at h3
      have h4 : (glueL (c :: tl) (p :: q :: r)) = p ++ ((c :: tl) ++ glueL (c :: tl) (q :: r)) := by show p ++ (c :: tl) ++ _ = _; rw [List.append_assoc]
      rw [h4, List.getElem?_append_left (by omega)] at h3
      exact hp (List.mem_of_getElem? h3))
    have ih := parts_rows c tl (q :: r) (pre ++ p ++ (c :: tl)) X cs f (by simp) eX (fun r' h => hr r' (.tail _ h)) (by
      have e : (pre ++ p ++ (c :: tl)).length = pre.length + p.length + (Str.mk (c :: tl).toArray).length := by show _ = _ + (c :: tl).toArray.size; rw [List.size_toArray, List.length_append, List.length_append]
      rw [e]; exact hG2) hn
    show strSub _ _ _ :: _ = _ :: _
    congr 1
    · rw [strSub_list, hX, List.drop_append_of_le_length (Nat.le_refl _), List.drop_length, List.nil_append, show pre.length + p.length - pre.length = p.length by omega]
      show Str.mk _ = _
      congr 2
      show List.take p.length (p ++ (c :: tl) ++ _) = p
      rw [List.append_assoc, List.take_append_of_le_length (Nat.le_refl _), List.take_length]
    · rw [show pre.length + p.length + (c :: tl).length = (pre ++ p ++ (c :: tl)).length by simp only [List.length_append]]
      exact ih
theorem split_rows {c : Nat} {tl : List Nat} {rows : List (List Nat)} (h0 : rows ≠ []) (hr : ∀ r ∈ rows, c ∉ r) : Txt.split ⟨(glueL (c :: tl) rows).toArray⟩ ⟨(c :: tl).toArray⟩ = rows.map fun r => (⟨r.toArray⟩ : Str) := by
  rw [tsplit_eq (by show ((c :: tl).toArray.size == 0) = false; simp), partsBetween_eq]
  obtain ⟨f, hG, hn⟩ := occ_tight ⟨(glueL (c :: tl) rows).toArray⟩ ⟨(c :: tl).toArray⟩ (by show 1 ≤ (c :: tl).toArray.size; simp)
  have e : (Str.mk (c :: tl).toArray).length = (c :: tl).length := by show (c :: tl).toArray.size = _; simp
  rw [e]
  exact parts_rows c tl rows [] _ _ f h0 rfl hr hG hn
theorem idx_to (u : Option Int) (n : Nat) : strSliceIndices none u 1 n = strSliceIndices (some ((0 : Nat) : Int)) u 1 n := by
  have e : max (0 : Int) (min 0 (n : Int)) = 0 := by omega
  simp [strSliceIndices, e]
theorem idx_from (l : Option Int) (n : Nat) : strSliceIndices l none 1 n = strSliceIndices l (some (n : Int)) 1 n := by
  have e : max (0 : Int) (min (n : Int) (n : Int)) = n := by omega
  have e2 : ¬ ((n : Int) < 0) := by omega
  simp only [strSliceIndices, if_neg e2, e]
  simp
theorem tslice_plain {X : List Nat} {l u : Option Int} {a b : Nat} (hab : a ≤ b) (hb : b ≤ X.length) (he : strSliceIndices l u 1 X.length = strSliceIndices (some (a : Int)) (some (b : Int)) 1 X.length) :
    Txt.slice ⟨X.toArray⟩ l u = ⟨((X.drop a).take (b - a)).toArray⟩ := by
  have hl : (Str.mk X.toArray).length = X.length := by show X.toArray.size = _; simp
  have h1 := sliced_plain ⟨X.toArray⟩ hab (by rw [hl]; exact hb)
  have h2 := strSliceIndices_plain hab hb
  unfold Txt.slice
  rw [hl] at h1 ⊢
  rw [he, h1]
  split
  · rename_i h
    rw [h2] at h
    simp at h
    have : a = 0 ∧ b = X.length := by omega
    rw [this.1, this.2]; simp
  · rfl
theorem tslice_ss {X : List Nat} {a n : Nat} (hn : 0 < n) (hab : a + n ≤ X.length) : Txt.slice ⟨X.toArray⟩ (some (a : Int)) (some (-(n : Int))) = ⟨((X.drop a).take (X.length - n - a)).toArray⟩ := by
  refine tslice_plain (a := a) (b := X.length - n) (by omega) (by omega) ?_
  rw [sliceIdx_neg_hi _ _ (by omega) (by omega)]
  congr 2
  try omega
theorem tslice_to {X : List Nat} {n : Nat} (hn : n ≤ X.length) : Txt.slice ⟨X.toArray⟩ none (some (n : Int)) = ⟨(X.take n).toArray⟩ := by
  have e := tslice_plain (X := X) (l := none) (u := some (n : Int)) (a := 0) (b := n) (by omega) hn (idx_to _ _)
  simpa using e
theorem tslice_from {X : List Nat} {n : Nat} (hn : n ≤ X.length) : Txt.slice ⟨X.toArray⟩ (some (n : Int)) none = ⟨(X.drop n).toArray⟩ := by
  have e := tslice_plain (X := X) (l := some (n : Int)) (u := none) (a := n) (b := X.length) hn (Nat.le_refl _) (idx_from _ _)
  rw [List.take_of_length_le (by rw [List.length_drop]; omega)] at e
  exact e
theorem tslice_last {X : List Nat} {n : Nat} (h0 : 0 < n) (hn : n ≤ X.length) : Txt.slice ⟨X.toArray⟩ (some (-(n : Int))) none = ⟨(X.drop (X.length - n)).toArray⟩ := by
  have e := tslice_plain (X := X) (l := some (-(n : Int))) (u := none) (a := X.length - n) (b := X.length) (by omega) (Nat.le_refl _) (by
    rw [sliceIdx_neg_lo _ _ (by omega) (by omega)]
    have : -(n : Int) + (X.length : Int) = ((X.length - n : Nat) : Int) := by omega
    rw [this]
    exact idx_from _ _)
  rw [List.take_of_length_le (by rw [List.length_drop]; omega)] at e
  exact e
theorem glue_dots (n : Nat) : (List.replicate n [92, 46]).flatten = glueL [92] ([] :: List.replicate n [46]) := by
  suffices H : ∀ (n : Nat) (p : List Nat), p ++ (List.replicate n [92, 46]).flatten = glueL [92] (p :: List.replicate n [46]) from H n []
  intro n
  induction n with
  | zero => intro p; simp [glueL]
  | succ n ih =>
    intro p
    rw [List.replicate_succ, List.replicate_succ, List.flatten_cons]
    show _ = p ++ [92] ++ glueL [92] ([46] :: List.replicate n [46])
    rw [← ih]
    simp
theorem split_dots (n : Nat) : Txt.split ⟨((List.replicate n [92, 46]).flatten).toArray⟩ ⟨#[92]⟩ = (([] : List Nat) :: List.replicate n [46]).map fun r => (⟨r.toArray⟩ : Str) := by
  rw [glue_dots]
  refine split_rows (c := 92) (tl := []) (by simp) ?_
  intro r hr
  rcases List.mem_cons.mp hr with rfl | h
  · simp
  · rw [List.eq_of_mem_replicate h]; decide
end Mine

end

section
open PySem PySem.W PyProof.Rows PySem.Calls
set_option maxRecDepth 100000
namespace Mine
open PySem.StrLaws PySem.Builtin.Str
theorem sqb_two (a r : List Nat) : ∀ b, sqb b (a ++ 42 :: 42 :: r) = sqb b (a ++ 42 :: r) := by
  induction a with
  | nil => intro b; cases b <;> rfl
  | cons c a ih =>
    intro b
    show (if c = 42 then (if b = true then sqb true (a ++ 42 :: 42 :: r) else 42 :: sqb true (a ++ 42 :: 42 :: r)) else c :: sqb false (a ++ 42 :: 42 :: r)) = (if c = 42 then (if b = true then sqb true (a ++ 42 :: r) else 42 :: sqb true (a ++ 42 :: r)) else c :: sqb false (a ++ 42 :: r))
    rw [ih, ih]
theorem sqb_glue : ∀ (P : List (List Nat)) (pre : List Nat), sqb false (pre ++ glueL [42, 42] P) = sqb false (pre ++ glueL [42] P)
  | [], _ => rfl
  | [p], _ => rfl
  | p :: q :: r, pre => by
    have e1 : pre ++ glueL [42, 42] (p :: q :: r) = (pre ++ p) ++ 42 :: 42 :: glueL [42, 42] (q :: r) := by show pre ++ (p ++ [42, 42] ++ _) = _; simp
    have e2 : pre ++ glueL [42] (p :: q :: r) = (pre ++ p ++ [42]) ++ glueL [42] (q :: r) := by show pre ++ (p ++ [42] ++ _) = _; simp
    rw [e1, sqb_two, e2, ← sqb_glue (q :: r) (pre ++ p ++ [42])]
    simp
theorem sqb_noTwo : ∀ (l : List Nat) (b : Bool), NoTwo (sqb b l) ∧ (b = true → ∀ r, sqb b l ≠ 42 :: r)
  | [], b => ⟨(fun x y e => by cases x <;> cases e), (fun _ r e => by cases e)⟩
  | c :: l, b => by
    obtain ⟨h1, h2⟩ := sqb_noTwo l true
    obtain ⟨g1, g2⟩ := sqb_noTwo l false
    by_cases hc : c = 42
    · subst hc
      cases b with
      | true => exact ⟨h1, h2⟩
      | false =>
        refine ⟨?_, fun h => by cases h⟩
        show NoTwo (42 :: sqb true l)
        intro x y e
        cases x with
        | nil => exact h2 rfl y (List.cons.inj e).2
        | cons d x => exact h1 x y (List.cons.inj e).2
    · have e0 : sqb b (c :: l) = c :: sqb false l := by show (if c = 42 then _ else c :: sqb false l) = _; rw [if_neg hc]
      rw [e0]
      refine ⟨?_, fun _ r e => hc (List.cons.inj e).1⟩
      intro x y e
      cases x with
      | nil => exact hc (List.cons.inj e).1
      | cons d x => exact g1 x y (List.cons.inj e).2
theorem sqb_id : ∀ (l : List Nat) (b : Bool), NoTwo l → (b = true → ∀ r, l ≠ 42 :: r) → sqb b l = l
  | [], _, _, _ => rfl
  | c :: l, b, h, hb => by
    have hl : NoTwo l := fun x y e => h (c :: x) y (by rw [e]; rfl)
    by_cases hc : c = 42
    · subst hc
      cases b with
      | true => exact absurd rfl (hb rfl l)
      | false =>
        show 42 :: sqb true l = 42 :: l
        rw [sqb_id l true hl (fun _ r e => h [] r (by rw [e]; rfl))]
    · show (if c = 42 then _ else c :: sqb false l) = _
      rw [if_neg hc, sqb_id l false hl (fun h => by cases h)]
theorem mem_sqb {c : Nat} : ∀ (l : List Nat) (b : Bool), c ∈ sqb b l → c ∈ l
  | [], _, h => h
  | d :: l, b, h => by
    by_cases hd : d = 42
    · subst hd
      cases b with
      | true => exact .tail _ (mem_sqb l true h)
      | false =>
        rcases List.mem_cons.mp (show c ∈ 42 :: sqb true l from h) with rfl | h
        · exact .head _
        · exact .tail _ (mem_sqb l true h)
    · have h' : c ∈ d :: sqb false l := by
        have e0 : sqb b (d :: l) = d :: sqb false l := by show (if d = 42 then _ else d :: sqb false l) = _; rw [if_neg hd]
        rw [← e0]; exact h
      rcases List.mem_cons.mp h' with rfl | h'
      · exact .head _
      · exact .tail _ (mem_sqb l false h')
theorem len_sqb : ∀ (l : List Nat) (b : Bool), (sqb b l).length ≤ l.length
  | [], _ => Nat.le_refl _
  | d :: l, b => by
    have h1 := len_sqb l true
    have h2 := len_sqb l false
    show (if d = 42 then (if b = true then sqb true l else 42 :: sqb true l) else d :: sqb false l).length ≤ _
    split
    · split
      · exact Nat.le_succ_of_le h1
      · exact Nat.succ_le_succ h1
    · exact Nat.succ_le_succ h2
/-! '**' is put away. -/
noncomputable def lst (x : Str) : List Nat := x.cps.toList
theorem join_list (sep : List Nat) : ∀ (P : List Str), lst (Str.join ⟨sep.toArray⟩ P) = glueL sep (P.map lst)
  | [] => rfl
  | [p] => rfl
  | p :: q :: r => by
    show ((p.cps ++ sep.toArray) ++ (Str.join ⟨sep.toArray⟩ (q :: r)).cps).toList = _
    have ih := join_list sep (q :: r)
    unfold lst at ih
    rw [Array.toList_append, Array.toList_append, ih]; rfl
theorem replace_eq (x : List Nat) : Txt.replace ⟨x.toArray⟩ ⟨#[42, 42]⟩ ⟨#[42]⟩ = Str.join ⟨#[42]⟩ (partsBetween ⟨x.toArray⟩ (occurrences ⟨x.toArray⟩ ⟨#[42, 42]⟩ 0 (Str.mk x.toArray).length ((Str.mk x.toArray).length + 1)) 2) := by
  unfold Txt.replace
  split
  · rename_i h
    have hn : (occurrences ⟨x.toArray⟩ ⟨#[42, 42]⟩ 0 (Str.mk x.toArray).length ((Str.mk x.toArray).length + 1)) = [] := by
      rcases Bool.or_eq_true_iff.mp h with h | h
      · exact List.isEmpty_iff.mp h
      · exact absurd h (by decide)
    rw [hn, parts_nil]; rfl
  · rw [glued_eq_join]; rfl
theorem replace_sq (x : List Nat) : sqb false (lst (Txt.replace ⟨x.toArray⟩ ⟨#[42, 42]⟩ ⟨#[42]⟩)) = sqb false x := by
  obtain ⟨f, hC⟩ := occ_chain ⟨x.toArray⟩ ⟨#[42, 42]⟩ ((Str.mk x.toArray).length + 1)
  have hj := join_partsFrom ⟨x.toArray⟩ ⟨#[42, 42]⟩ _ 0 f hC
  rw [replace_eq, partsBetween_eq, show (⟨#[42]⟩ : Str) = ⟨([42] : List Nat).toArray⟩ from rfl, join_list]
  have h1 := congrArg lst hj
  rw [show (⟨#[42, 42]⟩ : Str) = ⟨([42, 42] : List Nat).toArray⟩ from rfl, join_list, strSub_list] at h1
  have h2 : lst ⟨((x.drop 0).take ((Str.mk x.toArray).length - 0)).toArray⟩ = x := by
    show ((x.drop 0).take (x.toArray.size - 0)).toArray.toList = x
    simp
  rw [h2] at h1
  have h3 := sqb_glue ((partsFrom ⟨x.toArray⟩ (Str.mk ([42, 42] : List Nat).toArray).length 0 (occurrences ⟨x.toArray⟩ ⟨([42, 42] : List Nat).toArray⟩ 0 (Str.mk x.toArray).length ((Str.mk x.toArray).length + 1))).map lst) []
  rw [List.nil_append, List.nil_append, h1] at h3
  exact h3.symm
theorem glue_len (a : List Nat) : ∀ (P : List (List Nat)), (glueL a P).length = (P.map List.length).sum + (P.length - 1) * a.length
  | [] => by simp [glueL]
  | [p] => by simp [glueL]
  | p :: q :: r => by
    have ih := glue_len a (q :: r)
    show (p ++ a ++ glueL a (q :: r)).length = _
    rw [List.length_append, List.length_append, ih]
    simp only [List.map_cons, List.sum_cons, List.length_cons, Nat.add_sub_cancel]
    rw [Nat.succ_mul]; omega
theorem replace_len (x : List Nat) : (lst (Txt.replace ⟨x.toArray⟩ ⟨#[42, 42]⟩ ⟨#[42]⟩)).length ≤ x.length ∧
    (occurrences ⟨x.toArray⟩ ⟨#[42, 42]⟩ 0 (Str.mk x.toArray).length ((Str.mk x.toArray).length + 1) ≠ [] → (lst (Txt.replace ⟨x.toArray⟩ ⟨#[42, 42]⟩ ⟨#[42]⟩)).length < x.length) := by
  obtain ⟨f, hC⟩ := occ_chain ⟨x.toArray⟩ ⟨#[42, 42]⟩ ((Str.mk x.toArray).length + 1)
  have hj := join_partsFrom ⟨x.toArray⟩ ⟨#[42, 42]⟩ _ 0 f hC
  rw [replace_eq, partsBetween_eq, show (⟨#[42]⟩ : Str) = ⟨([42] : List Nat).toArray⟩ from rfl, join_list]
  have h1 := congrArg lst hj
  rw [show (⟨#[42, 42]⟩ : Str) = ⟨([42, 42] : List Nat).toArray⟩ from rfl, join_list, strSub_list] at h1
  have h2 : lst ⟨((x.drop 0).take ((Str.mk x.toArray).length - 0)).toArray⟩ = x := by
    show ((x.drop 0).take (x.toArray.size - 0)).toArray.toList = x
    simp
  rw [h2] at h1
  generalize occurrences ⟨x.toArray⟩ ⟨#[42, 42]⟩ 0 (Str.mk x.toArray).length ((Str.mk x.toArray).length + 1) = cuts at *
  have hl : ∀ (cs : List Nat) (a : Nat), (partsFrom ⟨x.toArray⟩ 2 a cs).length = cs.length + 1 := by
    intro cs
    induction cs with
    | nil => intro a; rfl
    | cons c cs ih => intro a; show (_ :: partsFrom _ _ _ _).length = _; rw [List.length_cons, ih]; rfl
  have h4 := congrArg List.length h1
  rw [glue_len] at h4
  rw [glue_len]
  change _ + _ * 2 = _ at h4
  have h5 : ((partsFrom (⟨x.toArray⟩ : Str) 2 0 cuts).map lst).length = cuts.length + 1 := by rw [List.length_map, hl]
  have h6 : ((partsFrom (⟨x.toArray⟩ : Str) (Str.mk ([42, 42] : List Nat).toArray).length 0 cuts).map lst).length = cuts.length + 1 := h5
  rw [h6] at h4
  rw [h5]
  have h7 : ((partsFrom (⟨x.toArray⟩ : Str) (Str.mk ([42, 42] : List Nat).toArray).length 0 cuts).map lst) = ((partsFrom (⟨x.toArray⟩ : Str) 2 0 cuts).map lst) := rfl
  rw [h7] at h4
  show _ + (cuts.length + 1 - 1) * 1 ≤ _ ∧ (_ → _ + (cuts.length + 1 - 1) * 1 < _)
  refine ⟨by omega, fun hne => ?_⟩
  have := List.length_pos_iff.mpr hne
  omega
theorem mem_glue {a : List Nat} {c : Nat} : ∀ (P : List (List Nat)), c ∈ glueL a P → c ∈ a ∨ ∃ p ∈ P, c ∈ p
  | [], h => by simp [glueL] at h
  | [p], h => .inr ⟨p, .head _, h⟩
  | p :: q :: r, h => by
    rcases List.mem_append.mp (show c ∈ (p ++ a) ++ glueL a (q :: r) from h) with h | h
    · rcases List.mem_append.mp h with h | h
      · exact .inr ⟨p, .head _, h⟩
      · exact .inl h
    · rcases mem_glue (q :: r) h with h | ⟨x, hx, h⟩
      · exact .inl h
      · exact .inr ⟨x, .tail _ hx, h⟩
theorem noTwo_of_in {x : List Nat} (h : (occurrences ⟨x.toArray⟩ ⟨#[42, 42]⟩ 0 (Str.mk x.toArray).length 1).isEmpty = true) : NoTwo x := by
  rintro a b rfl
  have hA : At ⟨(a ++ 42 :: 42 :: b).toArray⟩ ⟨([42, 42] : List Nat).toArray⟩ (a ++ 42 :: 42 :: b).length a.length := by
    refine (at_iff _ _ _).mpr ⟨by simp, ?_⟩
    rw [List.drop_append_of_le_length (Nat.le_refl _), List.drop_length, List.nil_append]; rfl
  rcases occ_head ⟨(a ++ 42 :: 42 :: b).toArray⟩ ⟨#[42, 42]⟩ 1 (Nat.le_refl 1) with ⟨_, hn⟩ | ⟨i, r, e, _⟩
  · exact hn a.length hA
  · rw [e] at h; cases h
theorem ne_of_in {x : List Nat} (h : (occurrences ⟨x.toArray⟩ ⟨#[42, 42]⟩ 0 (Str.mk x.toArray).length 1).isEmpty = false) : occurrences ⟨x.toArray⟩ ⟨#[42, 42]⟩ 0 (Str.mk x.toArray).length ((Str.mk x.toArray).length + 1) ≠ [] := by
  intro h2
  rcases occ_head ⟨x.toArray⟩ ⟨#[42, 42]⟩ ((Str.mk x.toArray).length + 1) (by omega) with ⟨_, hn⟩ | ⟨i, r, e, _⟩
  · rcases occ_head ⟨x.toArray⟩ ⟨#[42, 42]⟩ 1 (Nat.le_refl 1) with ⟨e, _⟩ | ⟨i, r, e, hA, _⟩
    · rw [e] at h; cases h
    · exact hn i hA
  · rw [e] at h2; cases h2
/-! the law's polynomial. -/
noncomputable def ev (X : Int) (ps : List Int) : Int := ps.foldr (fun a v => v * X + a) 0
noncomputable def behind (ps : List Int) (f : Int) : List Int := (64 * ps.headD 0 + 63 * f) :: ps.tail.map (64 * ·)
theorem ev_scale (X : Int) (ps : List Int) : ev X (ps.map (64 * ·)) = 64 * ev X ps := by
  induction ps with
  | nil => rfl
  | cons a ps ih =>
    show ev X (ps.map (64 * ·)) * X + 64 * a = 64 * (ev X ps * X + a)
    rw [ih, Int.mul_add, Int.mul_assoc]
theorem ev_behind (X : Int) (a : Int) (ps : List Int) (f : Int) : ev X (behind (a :: ps) f) = 64 * ev X (a :: ps) + 63 * f := by
  show ev X (ps.map (64 * ·)) * X + (64 * a + 63 * f) = 64 * (ev X ps * X + a) + 63 * f
  rw [ev_scale, Int.mul_add, Int.mul_assoc]; omega
theorem ev_bare (X : Int) (a : Int) (ps : List Int) : ev X (-62 :: (a + 62) :: ps) = X * ev X (a :: ps) + 62 * X - 62 := by
  show (ev X ps * X + (a + 62)) * X + -62 = X * (ev X ps * X + a) + 62 * X - 62
  rw [show ev X ps * X + (a + 62) = (ev X ps * X + a) + 62 by omega, Int.add_mul, Int.mul_comm (ev X ps * X + a) X]; omega
noncomputable def n64 (n : Int) (vs : List Int) : Int := vs.foldl (fun n v => n * 64 + v) n
theorem n64_append (n : Int) (a b : List Int) : n64 n (a ++ b) = n64 (n64 n a) b := List.foldl_append ..
theorem n64_rep (n : Int) (t : Nat) : 63 * n64 n (List.replicate t 62) = 64 ^ t * (63 * n) + 62 * (64 ^ t - 1) := by
  induction t generalizing n with
  | zero => show 63 * n = 1 * (63 * n) + 62 * (1 - 1); omega
  | succ t ih =>
    rw [List.replicate_succ]
    show 63 * n64 (n * 64 + 62) (List.replicate t 62) = _
    rw [ih, Int.pow_succ]
    generalize (64 : Int) ^ t = y
    rw [show 63 * (n * 64 + 62) = 64 * (63 * n) + 63 * 62 by omega, Int.mul_add, show y * 64 * (63 * n) = y * (64 * (63 * n)) by rw [Int.mul_assoc]]
    omega
/-- one sign's step of the law's parts. -/
noncomputable def pstep (lone : Bool) (st : List Int × Bool) (c : Nat) : List Int × Bool :=
  let p1 := if bare lone st.2 c = true then -62 :: (st.1.headD 0 + 62) :: st.1.tail else st.1
  (match figS c with | [] => p1 | f :: _ => behind p1 f, rowEnd c)
theorem figS_one (c : Nat) : figS c = [] ∨ ∃ f, figS c = [f] := by
  unfold figS fig1
  repeat' split
  all_goals first | exact .inl rfl | exact .inr ⟨_, rfl⟩
theorem parts_ne (lone : Bool) (q : List Nat) : ∀ (ps : List Int) (b : Bool), ps ≠ [] → (q.foldl (pstep lone) (ps, b)).1 ≠ [] := by
  induction q with
  | nil => intro ps b h; exact h
  | cons c q ih =>
    intro ps b h
    rw [List.foldl_cons]
    refine ih _ _ ?_
    show (match figS c with | [] => _ | f :: _ => behind _ f) ≠ []
    split
    · split
      · simp
      · exact h
    · simp [behind]
theorem pstep_len (lone : Bool) (ps : List Int) (b : Bool) (c : Nat) : (pstep lone (ps, b) c).1.length ≤ ps.length + 2 := by
  have hb : ∀ (x : List Int) (f : Int), (behind x f).length ≤ max 1 x.length := by intro x f; unfold behind; cases x <;> simp
  unfold pstep
  dsimp only
  have h1 : (if bare lone b c = true then -62 :: (ps.headD 0 + 62) :: ps.tail else ps).length ≤ ps.length + 2 := by
    split
    · cases ps <;> simp
    · omega
  rcases figS_one c with e | ⟨f, e⟩
  · rw [e]; exact h1
  · rw [e]
    have := hb (if bare lone b c = true then -62 :: (ps.headD 0 + 62) :: ps.tail else ps) f
    dsimp only
    omega
theorem parts_len (lone : Bool) (q : List Nat) : ∀ (ps : List Int) (b : Bool), (q.foldl (pstep lone) (ps, b)).1.length ≤ ps.length + 2 * q.length := by
  induction q with
  | nil => intro ps b; exact Nat.le_refl _
  | cons c q ih =>
    intro ps b
    rw [List.foldl_cons]
    have h1 := pstep_len lone ps b c
    have h2 := ih (pstep lone (ps, b) c).1 (pstep lone (ps, b) c).2
    rw [List.length_cons]
    have h3 : (pstep lone (ps, b) c) = ((pstep lone (ps, b) c).1, (pstep lone (ps, b) c).2) := rfl
    rw [h3]
    omega
theorem parts_value (lone : Bool) (t : Nat) (q : List Nat) : ∀ (a : Int) (ps : List Int) (b : Bool) (n : Int), ev (64 ^ t) (a :: ps) = 63 * n →
    ev (64 ^ t) (q.foldl (pstep lone) (a :: ps, b)).1 = 63 * n64 n (FS t lone b q) := by
  induction q with
  | nil => intro a ps b n h; exact h
  | cons c q ih =>
    intro a ps b n h
    rw [List.foldl_cons]
    have h1 : ∃ a1 ps1, (if bare lone b c = true then -62 :: ((a :: ps).headD 0 + 62) :: (a :: ps).tail else (a :: ps)) = a1 :: ps1 ∧ ev (64 ^ t) (a1 :: ps1) = 63 * n64 n (if bare lone b c = true then List.replicate t 62 else []) := by
      by_cases hb : bare lone b c = true
      · rw [if_pos hb, if_pos hb]
        refine ⟨_, _, rfl, ?_⟩
        show ev (64 ^ t) (-62 :: (a + 62) :: ps) = _
        rw [ev_bare, h, n64_rep]; omega
      · rw [if_neg hb, if_neg hb]
        exact ⟨a, ps, rfl, h⟩
    obtain ⟨a1, ps1, e1, h1⟩ := h1
    have e2 : pstep lone (a :: ps, b) c = (match figS c with | [] => a1 :: ps1 | f :: _ => behind (a1 :: ps1) f, rowEnd c) := by
      unfold pstep
      simp only
      rw [← e1]
    rw [e2]
    show _ = 63 * n64 n ((if bare lone b c = true then List.replicate t 62 else []) ++ (figS c ++ FS t lone (rowEnd c) q))
    rw [n64_append, n64_append]
    rcases figS_one c with e | ⟨f, e⟩
    · rw [e]
      exact ih a1 ps1 _ _ h1
    · rw [e]
      refine ih _ _ _ _ ?_
      show ev (64 ^ t) (behind (a1 :: ps1) f) = 63 * (n64 n _ * 64 + f)
      rw [ev_behind, h1]; omega
noncomputable def partsOf (q : List Nat) : List Int := behind (q.foldl (pstep (decide (q.count 42 = 1))) (behind [0] 44, false)).1 25
theorem partsOf_value (q : List Nat) (t : Nat) : ev (64 ^ t) (partsOf q) = 63 * n64 0 (44 :: (FS t (decide (q.count 42 = 1)) false q ++ [25])) := by
  have h := parts_value (decide (q.count 42 = 1)) t q (64 * 0 + 63 * 44) [] false 44 (by show 0 * (64 : Int) ^ t + _ = _; omega)
  unfold partsOf
  have hne := parts_ne (decide (q.count 42 = 1)) q (behind [0] 44) false (by simp [behind])
  have h' : ev (64 ^ t) (q.foldl (pstep (decide (q.count 42 = 1))) (behind [0] 44, false)).1 = 63 * n64 44 (FS t (decide (q.count 42 = 1)) false q) := h
  revert h' hne
  generalize (q.foldl (pstep (decide (q.count 42 = 1))) (behind [0] 44, false)).1 = ps
  intro hne h'
  cases ps with
  | nil => exact absurd rfl hne
  | cons a ps =>
    rw [ev_behind, h']
    show _ = 63 * n64 (0 * 64 + 44) (FS t (decide (q.count 42 = 1)) false q ++ [25])
    rw [n64_append]
    show _ = 63 * (n64 44 _ * 64 + 25)
    omega
end Mine

end

section
open PySem PySem.W PyProof.Rows PySem.Calls
set_option maxRecDepth 100000
set_option maxHeartbeats 1000000
namespace Mine
theorem intsAt {vs : List Value} {ns : List Int} (h : IntsAre vs ns) : ∀ {i : Nat} {v : Value}, vs[i]? = some v → ∃ x t, v = .int x t ∧ ns[i]? = some x := by
  induction h with
  | nil => intro i v h; simp at h
  | cons n t _ ih =>
    intro i v h
    cases i with
    | zero => exact ⟨n, t, by simpa using h.symm, rfl⟩
    | succ i => simpa using ih (by simpa using h)
local macro_rules | `(tactic| walk_at "eval Name") => `(tactic| first
  | (refine LCgL.ld_own (by assumption) (.tail _ (.head _)) (by assumption) (by assumption) ?_))
local macro_rules | `(tactic| walk_at "subscriptTail Name Constant ref int") => `(tactic| (refine subscriptTail_builtin (T := "list") ⟨_, (News.get (by assumption) (by assumption)), rfl⟩ slot_list_getitem.lookup ?_; refine wpAny_getItem_list (News.isList (by assumption) (by assumption)) (by omega) (by omega) (by assumption) ?_))
section
variable {prog : Program} {w : World} {A : Around} {E Q : Value → Shared → Prop} {s : Shared} {h₀ : Heap} {L : Addr} {m : Str → Option Value} {news : List (Addr × Obj)}
theorem c_behind {a f : Int} {ns : List Int} {vs : List Value} {lp : Addr} {k : Nat} {t : Tok} (S : Sx w A h₀ L 3) (F : Fr h₀ L s.heap m) (N : News h₀ L s.heap news) (hm : (lp, listOf vs.toArray k) ∈ news) (hI : IntsAre vs (a :: ns)) (hn : ns.length ≤ 1000)
    (h : ∀ D us c h' tk, IntsAre us (behind (a :: ns) f) → Fr h₀ L h' m → News h₀ L h' ((D, listOf us.toArray c) :: news) → (∀ p ∈ news, p.1 < D) → Q (.ref D) { s with heap := h', toks := tk }) :
    wpAny (model prog w) A (call (.ref 170) [.ref lp, .int f t]) Q E s := by
  refine wpAny_call (enter (k := 2) (binds := [(Str.ofString "parts", .ref lp), (Str.ofString "figure", .int f t)]) S F N rfl rfl (BindsTo.of_eq rfl) (locs rfl) rfl rfl rfl (by decide) fun g L' h₁ S' F' N' kp => ?_)
  obtain ⟨ta, vs, rfl, hI2⟩ : ∃ ta vs', vs = .int a ta :: vs' ∧ IntsAre vs' ns := by cases hI with | cons _ ta r => exact ⟨ta, _, rfl, r⟩
  have hl := hI2.length
  have hv0 : (.int a ta :: vs : List Value).toArray[Int.toNat 0]? = some (.int a ta) := rfl
  iterate 20 walk1
  rename Fr g L' _ _ => F1
  rename News g L' _ _ => N1
  refine LCg.ListComp_U (F₀ := F1) (by with_unfolding_all rfl) (by decide) (by rfl) (by decide) (by rfl) ?_
  iterate 7 walk1
  refine kmk_slice (lo := some 1) (hi := none) (s := ⟨_, _, _, _, _⟩) F1 N1 (News.isList N1 (.tail _ hm)) (IsPart.int _ _) IsPart.none (fun D2 h2 F2 N2 hD2 => ?_) (by with_unfolding_all rfl) (by intro _; with_unfolding_all rfl) (by show vs.length + 1 ≤ _; rw [hl, sizeLine_eq]; omega)
  rw [show (1 : Int) = ((1 : Nat) : Int) from rfl, pick_from] at N2
  have hdrop : (Value.int a ta :: vs).drop 1 = vs := rfl
  rw [hdrop] at N2
  refine LCg.CompSrc.ledger (s₁ := ⟨_, _, _, _, _⟩) S'.hh F2 N2 (.head _) ?hz fun g' => ?_
  case hz => rw [List.size_toArray, hl, sizeLine_eq]; omega
  refine rest_ind (fun i ys nw => nw = _ ∧ IntsAre ys ((ns.take i).map (64 * ·))) ?_ ?_ _ 0 [] _ (Nat.zero_add _) ⟨rfl, .nil⟩
  · rintro i ys nw hi ⟨rfl, hys⟩ v I oI C oC D m₂ h3 tk3 E3 hP hNs hx F3 N3 off ne
    obtain ⟨x, tx, rfl, hx2⟩ := intsAt hI2 (i := i) (v := v) (by simpa using hP)
    repeat' walk1
    refine LCg.CompEnd.intro F3 N3 _ (fun p hp => hp) off (.inr ⟨_, .head _, rfl, _, rfl⟩) ⟨rfl, ?_⟩
    rw [List.take_add_one, hx2, List.map_append]
    exact snocI hys rfl
  · rintro ys nw ⟨rfl, hys⟩ D h4 tk4 F4 N4 off4
    rw [List.size_toArray, hl, List.take_length] at hys
    refine kmk_add_ints (vs := [.int (64 * a + 63 * f) _]) F4 N4 (News.isList N4 (.tail _ (.tail _ (.head _)))) (News.isList N4 (.head _)) (.cons _ _ .nil) hys (fun D3 us h6 F6 N6 hD3 hus => ?_) ?hz
    case hz => simp [sizeLine_eq]; omega
    repeat' walk1
    refine leaveK_ (news' := (D3, listOf us.toArray 0) :: news) F6 (fun q hq => ?_) fun F7 N7 => ?_
    · rcases List.mem_cons.mp hq with rfl | hq
      · exact N6 _ (.head _)
      · exact N6 q (.tail _ (.tail _ (.tail _ (.tail _ hq))))
    · refine h _ _ _ _ _ ?_ F7 N7 (fun p hp => hD3 p (.tail _ (.tail _ (.tail _ hp))))
      exact hus
end
end Mine

end

section
open PySem PySem.W PyProof.Rows
set_option maxRecDepth 100000
namespace Mine
open PySem.W.KBw (bInts)
theorem bInts_byteArr {o : List Int} (h : ∀ n ∈ o, 0 ≤ n ∧ n < 256) : bInts (byteArr o) = o := by
  unfold bInts byteArr
  rw [List.map_map]
  conv => rhs; rw [← List.map_id o]
  refine List.map_congr_left fun n hn => ?_
  have := h n hn
  show ((n.toNat.toUInt8.toNat : Nat) : Int) = n
  rw [show n.toNat.toUInt8.toNat = n.toNat % 256 from rfl, Nat.mod_eq_of_lt (by omega)]
  omega
noncomputable def octs (o : List Int) : Int := o.foldl (fun n k => n * 256 + k) 0
theorem octs_lt {o : List Int} (h : ∀ n ∈ o, 0 ≤ n ∧ n < 256) (i : Nat) : 0 ≤ octs (o.take i) ∧ octs (o.take i) < 256 ^ i := by
  induction i with
  | zero => simp [octs]
  | succ i ih =>
    rw [List.take_add_one]
    cases e : o[i]? with
    | none =>
      simp only [Option.toList_none, List.append_nil]
      refine ⟨ih.1, Int.lt_of_lt_of_le ih.2 ?_⟩
      rw [Int.pow_succ]; have : (0 : Int) ≤ 256 ^ i := Int.pow_nonneg (by decide); omega
    | some k =>
      have hk := h k (List.mem_of_getElem? e)
      simp only [Option.toList_some]
      unfold octs at *
      rw [List.foldl_append]
      show 0 ≤ _ * 256 + k ∧ _ * 256 + k < _
      rw [Int.pow_succ]
      omega
/-- the figures among the signs, as their values. -/
noncomputable def figs (l : List Int) : List Int := (l.map b64v).filter (fun v => decide (v < 64))
noncomputable def num64 (n : Int) (vs : List Int) : Int := vs.foldl (fun n v => n * 64 + v) n
noncomputable def Rel64 (a : St64) (n : Nat) (v : Int) : Prop :=
  (a.2.1 = 0 ∧ n % 4 = 0 ∧ octs a.1 = v ∧ a.2.2 = 0) ∨ (a.2.1 = 1 ∧ n % 4 = 1 ∧ octs a.1 * 64 + a.2.2 = v) ∨ (a.2.1 = 2 ∧ n % 4 = 2 ∧ octs a.1 * 16 + a.2.2 = v) ∨ (a.2.1 = 3 ∧ n % 4 = 3 ∧ octs a.1 * 4 + a.2.2 = v)
theorem octs_snoc (o : List Int) (k : Int) : octs (o ++ [k]) = octs o * 256 + k := by
  unfold octs; rw [List.foldl_append]; rfl
theorem Rel64.skip {a : St64} {n : Nat} {v c : Int} (h : Rel64 a n v) (hc : b64v c ≥ 64) : Rel64 (g64 a c) n v := by rw [g64_skip hc]; exact h
theorem Rel64.step {a : St64} {n : Nat} {v c : Int} (h : Rel64 a n v) (hc : ¬ b64v c ≥ 64) : Rel64 (g64 a c) (n + 1) (v * 64 + b64v c) := by
  rcases h with ⟨h1, h2, h3, h4⟩ | ⟨h1, h2, h3⟩ | ⟨h1, h2, h3⟩ | ⟨h1, h2, h3⟩
  · rw [g64_0 hc h1]
    exact .inr (.inl ⟨rfl, by omega, by rw [← h3]⟩)
  · rw [g64_1 hc h1]
    refine .inr (.inr (.inl ⟨rfl, by omega, ?_⟩))
    dsimp only
    rw [octs_snoc, ← h3]; omega
  · rw [g64_2 hc h1]
    refine .inr (.inr (.inr ⟨rfl, by omega, ?_⟩))
    dsimp only
    rw [octs_snoc, ← h3]; omega
  · rw [g64_3 hc (by omega) (by omega) (by omega)]
    refine .inl ⟨rfl, by omega, ?_, rfl⟩
    dsimp only
    rw [octs_snoc, ← h3]; omega
theorem Rel64.fold (l : List Int) : ∀ {a : St64} {n : Nat} {v : Int}, Rel64 a n v → Rel64 (l.foldl g64 a) (n + (figs l).length) (num64 v (figs l)) := by
  induction l with
  | nil => intro a n v h; exact h
  | cons c l ih =>
    intro a n v h
    rw [List.foldl_cons]
    by_cases hc : b64v c ≥ 64
    · have e : figs (c :: l) = figs l := by unfold figs; rw [List.map_cons, List.filter_cons_of_neg (by simp; omega)]
      rw [e]; exact ih (h.skip hc)
    · have e : figs (c :: l) = b64v c :: figs l := by unfold figs; rw [List.map_cons, List.filter_cons_of_pos (by simp; omega)]
      rw [e]
      have := ih (h.step hc)
      rw [List.length_cons, show n + ((figs l).length + 1) = n + 1 + (figs l).length by omega]
      exact this
theorem whole64 {l : List Int} (h : (figs l).length % 4 = 0) : ∃ o, l.foldl g64 ([], 0, 0) = (o, 0, 0) ∧ octs o = num64 0 (figs l) := by
  have r : Rel64 (l.foldl g64 ([], 0, 0)) (0 + (figs l).length) (num64 0 (figs l)) := Rel64.fold l (.inl ⟨rfl, rfl, rfl, rfl⟩)
  rw [Nat.zero_add] at r
  rcases r with ⟨h1, h2, h3, h4⟩ | ⟨h1, h2, h3⟩ | ⟨h1, h2, h3⟩ | ⟨h1, h2, h3⟩
  · exact ⟨_, Prod.ext rfl (Prod.ext h1 h4), h3⟩
  all_goals omega
end Mine

end

section
open PySem PySem.W PyProof.Rows
set_option maxRecDepth 100000
namespace Mine
open PySem.W.KBw (bInts)
noncomputable def dotF : Array UInt8 := #[46, 10]
noncomputable def heard1 (c : Nat) : Int := (((tblOf dotF altP).getD (c.toUInt8).toNat c.toUInt8).toNat : Int)
theorem heard_facts : ∀ c : Fin 128, c.val ≠ 61 → heard1 c.val ≠ 61 ∧ ((b64v (heard1 c.val) < 64 ∧ fig1 c.val = [b64v (heard1 c.val)]) ∨ (¬ b64v (heard1 c.val) < 64 ∧ fig1 c.val = [])) := by decide +kernel
theorem bInts_mapF (l : List Nat) : bInts (heardB dotF ⟨l.toArray⟩) = l.map heard1 := by
  unfold bInts heardB trB heard1
  simp [List.map_map, Function.comp_def]
theorem figs_figL (l : List Nat) (h : ∀ c ∈ l, c < 128 ∧ c ≠ 61) : figs (l.map heard1) = figL l := by
  induction l with
  | nil => rfl
  | cons c l ih =>
    have hc := h c (.head _)
    have h2 := (heard_facts ⟨c, hc.1⟩ hc.2).2
    have ih' := ih (fun x hx => h x (.tail _ hx))
    have e : figs ((c :: l).map heard1) = (if b64v (heard1 c) < 64 then [b64v (heard1 c)] else []) ++ figs (l.map heard1) := by
      unfold figs
      rw [List.map_cons, List.map_cons]
      by_cases hb : b64v (heard1 c) < 64
      · rw [List.filter_cons_of_pos (by simpa using hb), if_pos hb]; rfl
      · rw [List.filter_cons_of_neg (by simpa using hb), if_neg hb]; rfl
    rw [e, ih', figL_cons]
    rcases h2 with ⟨hb, hf⟩ | ⟨hb, hf⟩
    · rw [if_pos hb]; rw [show fig1 c = _ from hf]
    · rw [if_neg hb]; rw [show fig1 c = _ from hf]
theorem figL_A (k : Nat) : figL (List.replicate k 65) = List.replicate k 0 := by
  induction k with
  | zero => rfl
  | succ k ih => rw [List.replicate_succ, figL_cons, ih]; rfl
theorem n64_zero (k : Nat) : n64 0 (List.replicate k 0) = 0 := by
  induction k with
  | zero => rfl
  | succ k ih => rw [List.replicate_succ]; exact ih
theorem figL_append (a b : List Nat) : figL (a ++ b) = figL a ++ figL b := List.flatMap_append
theorem heard_num {l : List Nat} (h : ∀ c ∈ l, c < 128 ∧ c ≠ 61) (k : Nat) (hk : (k + (figL l).length) % 4 = 0) :
    (∀ x ∈ bInts (heardB dotF ⟨(List.replicate k 65 ++ l).toArray⟩), x ≠ 61) ∧ ∃ o, (bInts (heardB dotF ⟨(List.replicate k 65 ++ l).toArray⟩)).foldl g64 ([], 0, 0) = (o, 0, 0) ∧ octs o = n64 0 (figL l) := by
  have h' : ∀ c ∈ List.replicate k 65 ++ l, c < 128 ∧ c ≠ 61 := by
    intro c hc
    rcases List.mem_append.mp hc with hc | hc
    · rw [(List.mem_replicate.mp hc).2]; decide
    · exact h c hc
  rw [bInts_mapF]
  refine ⟨?_, ?_⟩
  · intro x hx
    obtain ⟨c, hc, rfl⟩ := List.mem_map.mp hx
    exact (heard_facts ⟨c, (h' c hc).1⟩ (h' c hc).2).1
  · have hf := figs_figL _ h'
    rw [figL_append, figL_A] at hf
    obtain ⟨o, h1, h2⟩ := whole64 (l := (List.replicate k 65 ++ l).map heard1) (by rw [hf, List.length_append, List.length_replicate]; exact hk)
    refine ⟨o, h1, ?_⟩
    rw [h2, hf]
    show n64 0 _ = _
    rw [n64_append, n64_zero]
noncomputable def sgS : List Nat := [65, 66, 67, 68, 69, 70, 71, 72, 73, 74, 75, 76, 77, 78, 79, 80, 81, 82, 83, 84, 85, 86, 87, 88, 89, 90, 97, 98, 99, 100, 101, 102, 103, 104, 105, 106, 107, 108, 109, 110, 111, 112, 113, 114, 115, 116, 117, 118, 119, 120, 121, 122, 48, 49, 50, 51, 52, 53, 54, 55, 56, 57, 43, 47, 46, 10]
noncomputable def isSg (a : Str) : Bool := !(Builtin.Str.occurrences ⟨sgS.toArray⟩ a 0 (Str.mk sgS.toArray).length 1).isEmpty
theorem isSg_facts : ∀ c : Fin 128, isSg ⟨#[c.val]⟩ = decide ((fig1 c.val).length = 1) ∧ (fig1 c.val).length ≤ 1 := by decide +kernel
theorem count_figs (l : List Nat) (h : ∀ c ∈ l, c < 128) : ((signs ⟨l.toArray⟩).filter isSg).length = (figL l).length := by
  have e : signs ⟨l.toArray⟩ = l.map fun c => (⟨#[c]⟩ : Str) := by show (l.toArray.toList).map _ = _; simp
  rw [e]
  induction l with
  | nil => rfl
  | cons c l ih =>
    have hc := isSg_facts ⟨c, h c (.head _)⟩
    have ih' := ih (fun x hx => h x (.tail _ hx)) (by show (l.toArray.toList).map _ = _; simp)
    rw [List.map_cons, figL_cons, List.length_append, ← ih']
    by_cases hs : (fig1 c).length = 1
    · rw [List.filter_cons_of_pos (by rw [show isSg ⟨#[c]⟩ = _ from hc.1]; exact decide_eq_true hs), List.length_cons, hs]; omega
    · rw [List.filter_cons_of_neg (by rw [show isSg ⟨#[c]⟩ = _ from hc.1]; simpa using hs)]
      have h2 : (fig1 c).length ≤ 1 := hc.2
      omega
end Mine

end

section
open PySem PySem.W PyProof.Rows PySem.Calls PySem.Spec
set_option maxRecDepth 100000
namespace Mine
section
variable {prog : Program} {w : World} {A : Around} {E : Value → Shared → Prop} {s : Shared} {h₀ : Heap} {L : Addr} {m : Str → Option Value} {env : Env}
theorem ListComp_signs {elt iter : PySem.Expr} {x : Str} {px : Pos} {ifs : List PySem.Expr} {scope : Scope} {cl : List (Str × Addr)} {pos : Pos} {Q : Value → Shared → Prop} {pz : Str → Bool} {d : Str → PyData}
    (hh : A.handled = none) (hclos : closureFor scope env = pure cl) (hcell : ∀ y ∈ scope.names, y.2 ≠ .cell) (hkind : scope.kind = .function)
    (hnames : ∀ y ∈ scope.names, y.2 = .local → scope.names.lookup y.1 = some .local) (hx : scope.names.lookup x = some .local)
    (h : wpAny (model prog w) A (eval iter env) (fun xv s₁ => ∃ news : List (Addr × Obj), ∃ y t, xv = .str y t ∧ y.length ≤ sizeLine ∧ Fr h₀ L s₁.heap m ∧ News h₀ L s₁.heap news ∧
      (∀ C a v s₂ m₂ E', ItemKind.str.is a v → s₂.heap.Ns (compEnvC scope cl C env).locals m₂ → m₂ x = some v → (∀ b o, s₁.heap.get? b = some o → s₂.heap.get? b = some o) →
        wpAny (model prog w) A (forIn ifs true fun c r => if r = true then do let ok ← isTrue c (compEnvC scope cl C env) (eval c (compEnvC scope cl C env)); pure (ForInStep.yield ok) else pure (ForInStep.yield r))
          (fun ok s₃ => ok = pz a ∧ PySem.Keeps s₂ s₃) E' s₂) ∧
      (∀ C a v s₂ m₂ E', ItemKind.str.is a v → pz a = true → s₂.heap.Ns (compEnvC scope cl C env).locals m₂ → m₂ x = some v → (∀ b o, s₁.heap.get? b = some o → s₂.heap.get? b = some o) →
        wpAny (model prog w) A (eval elt (compEnvC scope cl C env)) (fun y s₃ => Carried y (d a) ∧ PySem.Keeps s₂ s₃) E' s₂) ∧
      (∀ D (ys : List Value) h' tk, Fr h₀ L h' m → News h₀ L h' news → h'.IsList D ys.toArray → CarriedAll ys (((signs y).filter pz).map d) → Q (.ref D) { s₁ with heap := h', toks := tk })) E s)
    (hs : ∀ x, foldedSetIterable iter env x = pure x) :
    wpAny (model prog w) A (eval (.ListComp elt [⟨.Name x px, iter, ifs, 0⟩] scope pos) env) Q E s := by
  refine wpAny_ListComp_free (ItemKind.str.lift pz) (fun v y => ∃ a, ItemKind.str.is a v ∧ Carried y (d a)) hclos hcell hkind hnames hx (wpAny_mono h (fun xv s₁ h₁ => ?_) fun _ _ e => e) hs
  obtain ⟨news, y, t, rfl, hsz, F, N, htests, helt, hQ⟩ := h₁
  refine wpAny_pyIter_str fun o St W hst => ?_
  have up : ∀ (h' : Heap), (∀ b o', b ∉ [s₁.heap.objs.size] → (s₁.heap.push o).get? b = some o' → h'.get? b = some o') → ∀ b o', s₁.heap.get? b = some o' → h'.get? b = some o' :=
    fun h' hk b o' e => hk b o' (old_not_new e) (Heap.get?_push_of_some _ e)
  refine ⟨s₁.heap.objs.size, [s₁.heap.objs.size], [s₁.heap.objs.size], y.cps.size, SignAt y, St, rfl, W A hh, hsz, hst, ?_, ⟨?_, ?_⟩, ?_⟩
  · intro b hb
    show b < (s₁.heap.push o).objs.size
    rw [Heap.size_push, List.mem_singleton.mp hb]
    exact Nat.lt_succ_self _
  · intro C i v s₃ m₃ E' hC hP hn hm hk _
    obtain ⟨c, u, _, rfl⟩ := hP
    have ha : ItemKind.str.is ⟨#[c]⟩ (.str ⟨#[c]⟩ u) := ⟨u, rfl⟩
    rw [ItemKind.lift_is ha]
    exact htests C _ _ s₃ m₃ E' ha hn hm (up _ hk)
  · intro C i v s₃ m₃ E' hC hP hp hn hm hk _
    obtain ⟨c, u, _, rfl⟩ := hP
    have ha : ItemKind.str.is ⟨#[c]⟩ (.str ⟨#[c]⟩ u) := ⟨u, rfl⟩
    rw [ItemKind.lift_is ha] at hp
    exact wpAny_mono (helt C _ _ s₃ m₃ E' ha hp hn hm (up _ hk)) (fun r s₄ h₄ => ⟨⟨_, ha, h₄.1⟩, h₄.2⟩) fun _ _ e => e
  · intro D h' tk ys vs hnew hlD hplD hlen hP hF hk
    exact hQ D ys.toList h' tk (F.keeps (up h' hk)) (N.grown (up h' hk)) (by rw [Array.toArray_toList]; exact hlD) ((areOf_signs hlen hP).paired pz d _ hF)
end
end Mine

end

section
open PySem PySem.W PyProof.Rows PySem.Calls
set_option maxRecDepth 100000
namespace Mine
section
variable {prog : Program} {w : World} {A : Around} {E Q : Value → Shared → Prop} {s : Shared} {x y : Str} {t u : Tok}
theorem fold_rep (c : Nat) : ∀ (n : Nat) (a : Array Nat), (List.replicate n #[c]).foldl (· ++ ·) a = a ++ (List.replicate n c).toArray
  | 0, a => by simp
  | n + 1, a => by
    rw [List.replicate_succ, List.foldl_cons, fold_rep c n, List.replicate_succ, ← Array.toList_inj]
    simp
theorem txt_mul (c : Nat) (n : Int) (h0 : 0 ≤ n) : Txt.mul ⟨#[c]⟩ n = ⟨(List.replicate n.toNat c).toArray⟩ := by
  unfold Txt.mul
  by_cases h1 : n < 1
  · rw [if_pos h1, show n = 0 by omega]; rfl
  · rw [if_neg h1]
    by_cases h2 : n = 1
    · subst h2; rfl
    · rw [if_neg (by simp [h2, Str.length]), fold_rep]; simp
theorem mul_rep {c : Nat} {n : Int} (h0 : 0 ≤ n) (h1 : n ≤ 1000000) (h : ∀ t' k, Q (.str ⟨(List.replicate n.toNat c).toArray⟩ t') { s with toks := k }) :
    wpAny (model prog w) A (binaryOp .Mult (.str ⟨#[c]⟩ t) (.int n u)) Q E s := by
  rw [← txt_mul c n h0] at h
  refine SB.mul ⟨?_, ?_, ?_⟩ h
  · simp; omega
  · intro h2 _
    have hl : ((⟨#[c]⟩ : Str).length : Int) = 1 := rfl
    rw [hl]
    have : (1 : Int) ≤ (2 ^ 63 - 1) / n := Int.le_ediv_of_mul_le (by omega) (by omega)
    omega
  · intro h2 _
    unfold Builtin.Str.tooLong
    have hl : (⟨#[c]⟩ : Str).length = 1 := rfl
    rw [hl, Nat.one_mul]
    simp [sizeLine_eq]
    omega
end
end Mine

end

section
open PySem PySem.W PyProof.Rows PySem.Calls
set_option maxRecDepth 100000
namespace Mine
section
variable {prog : Program} {w : World} {A : Around} {E : Value → Shared → Prop} {s : Shared} {h₀ : Heap} {L : Addr} {m : Str → Option Value} {news : List (Addr × Obj)} {k : Nat}
theorem Sx.globC {cn : Str} {cs : Scope} {a : Addr} {ccd : Value} {cl : List (Str × Addr)} {x : Str} {pos : Pos} {v : Value} {Q : Value → Shared → Prop} (S : Sx w A h₀ L k) (F : Fr h₀ L s.heap m)
    (e : nsIn (K w.params) mainGlobals x = some (some v)) (h : Q v s)
    (hk : cs.kind = .function := by rfl) (hx : (envX cn cs L a ccd cl).kindOf x = some .globalImplicit := by rfl) (hd : (x == ("__debug__" : Str)) = false := by decide) :
    wpAny (model prog w) A (eval (.Name x pos) (envX cn cs L a ccd cl)) Q E s := by
  obtain ⟨p, loose, mean, mg, mb, T⟩ := S.T
  exact nameX_K F S.X (topRead_of T) e h hk hx hd
theorem Sx.bltC {cn : Str} {cs : Scope} {a : Addr} {ccd : Value} {cl : List (Str × Addr)} {x : Str} {pos : Pos} {v : Value} {Q : Value → Shared → Prop} (S : Sx w A h₀ L k) (F : Fr h₀ L s.heap m)
    (e : nsIn (K w.params) mainGlobals x = some none) (hv : bootBuiltins x = some v) (hn : x ≠ "__name__") (h : Q v s)
    (hk : cs.kind = .function := by rfl) (hx : (envX cn cs L a ccd cl).kindOf x = some .globalImplicit := by rfl) (hd : (x == ("__debug__" : Str)) = false := by decide) :
    wpAny (model prog w) A (eval (.Name x pos) (envX cn cs L a ccd cl)) Q E s := by
  obtain ⟨p, loose, mean, mg, mb, T⟩ := S.T
  exact nameX_B F S.X (topRead_of T) e hv hn h hk hx hd
theorem Sx.bltK {scope : Scope} {cl : List (Str × Addr)} {C : Addr} {env : Env} {x : Str} {pos : Pos} {v : Value} {Q : Value → Shared → Prop} (S : Sx w A h₀ L k) (F : Fr h₀ L s.heap m)
    (e : nsIn (K w.params) mainGlobals x = some none) (hv : bootBuiltins x = some v) (hn : x ≠ "__name__") (h : Q v s)
    (hg : env.globals = mainGlobals := by rfl) (hb : env.builtins = builtinsNs := by rfl)
    (hk : (compEnvC scope cl C env).scope.kind = .function := by rfl) (hx : (compEnvC scope cl C env).kindOf x = some .globalImplicit := by rfl) (hd : (x == ("__debug__" : Str)) = false := by decide) :
    wpAny (model prog w) A (eval (.Name x pos) (compEnvC scope cl C env)) Q E s := by
  obtain ⟨p, loose, mean, mg, mb, T⟩ := S.T
  exact LCgL.ld_built F S.X T e hv hn h hg hb hk hx hd
theorem Sx.globK {scope : Scope} {cl : List (Str × Addr)} {C : Addr} {env : Env} {x : Str} {pos : Pos} {v : Value} {Q : Value → Shared → Prop} (S : Sx w A h₀ L k) (F : Fr h₀ L s.heap m)
    (e : nsIn (K w.params) mainGlobals x = some (some v)) (h : Q v s)
    (hg : env.globals = mainGlobals := by rfl)
    (hk : (compEnvC scope cl C env).scope.kind = .function := by rfl) (hx : (compEnvC scope cl C env).kindOf x = some .globalImplicit := by rfl) (hd : (x == ("__debug__" : Str)) = false := by decide) :
    wpAny (model prog w) A (eval (.Name x pos) (compEnvC scope cl C env)) Q E s := by
  obtain ⟨p, loose, mean, mg, mb, T⟩ := S.T
  exact LCgL.ld_global F S.X T e h hg hk hx hd

theorem enterC {R : Result → Shared → Prop} {name qual : Str} {params : Arguments} {body : List Stmt} {scope : Scope} {dV kV doc pm cdv ct oc : Value} {an od : Option Addr} {osl : Array (Option Value)} {f : Addr} {args : Args} {binds : List (Str × Value)}
    (S : Sx w A h₀ L (k + 1)) (F : Fr h₀ L s.heap m) (N : News h₀ L s.heap news)
    (ho : (K w.params).lookup f = some ⟨oc, od, .func (fnOf name qual params body scope dV kV doc pm an cdv ct), osl⟩) (hcd : codeIn (K w.params) cdv qual = true)
    (hbind : BindsTo s (fnOf name qual params body scope dV kV doc pm an cdv ct) args binds) (hkind : (binds.all fun y => scope.names.lookup y.1 == some .local || scope.names.lookup y.1 == some .cell) = true)
    (hnd : ((cellsFrom 0 scope.names []).map (·.1)).Nodup) (hco : scope.isCoroutine = false) (hgen : scope.isGenerator = false) (hk : scope.kind = .function)
    (h : ∀ g L' h₁ tk cells, Sx w (A.deeper (envOfC qual scope L' f cdv)) g L' k → Fr g L' h₁ (bindL (envOfC qual scope L' f cdv).kindOf binds fun _ => none) → News g L' h₁ (cells ++ news) →
      CellsAre (bindC (envOfC qual scope L' f cdv).kindOf binds fun _ => none) (cellsFrom (L' + 1) scope.names []) cells → (∀ p ∈ news, p.1 < L') →
      wpAny (model prog w) (A.deeper (envOfC qual scope L' f cdv)) (execs body (envOfC qual scope L' f cdv))
        (fun fl s' => LeaveK h₀ L m g R (match fl with | .ret v => v | _ => .none) s')
        (fun _ _ => False)
        { s with heap := h₁, toks := tk }) : codeAny (model prog w) A (.call (.ref f) args) R s := by
  obtain ⟨p, loose, mean, mg, mb, T⟩ := S.T
  obtain ⟨A₀, base, outer, env, B, hA, hf, hke⟩ := S.B
  refine code_defC B F S.X N T hA hf hke ho hcd (by have := S.hd; omega) hbind hkind hnd (fun g L' h₁ tk cells FG F' N' Y B' X' T' hlt => ?_) hco hgen hk
  refine wpAny_mono (h g L' h₁ tk cells ⟨X', ⟨_, _, _, _, _, T'⟩, ⟨_, _, _, envOfC qual scope L' f cdv, B', ?_, rfl, hk⟩, ?_, ?_, S.hh⟩ F' N' Y hlt) (fun _ _ x => x) (fun _ _ x => x.elim)
  · exact Around.frames_deeper hA
  · have := S.hd
    show A.depth + 1 + k < _
    omega
  · have := S.hu
    show A.units + 3 + 8 * k < _
    omega
end
end Mine

end

section
open PySem PySem.W PyProof.Rows PySem.Calls
set_option maxRecDepth 100000
namespace Mine
noncomputable def After (s : Shared) (h₀ : Heap) (L : Addr) (J : (Str → Option Value) → List (Addr × Obj) → Prop) (fl : Flow) (s' : Shared) : Prop :=
  fl = .next ∧ ∃ h' tk m' nw, s' = { s with heap := h', toks := tk } ∧ Fr h₀ L h' m' ∧ News h₀ L h' nw ∧ J m' nw
theorem After.intro {s : Shared} {h₀ : Heap} {L : Addr} {J : (Str → Option Value) → List (Addr × Obj) → Prop} {h' : Heap} {tk : Nat} {m' : Str → Option Value} {nw : List (Addr × Obj)} (F : Fr h₀ L h' m') (N : News h₀ L h' nw) (hJ : J m' nw) : After s h₀ L J .next { s with heap := h', toks := tk } :=
  ⟨rfl, h', tk, m', nw, rfl, F, N, hJ⟩
section
variable {prog : Program} {w : World} {A : Around} {E : Value → Shared → Prop} {s : Shared} {h₀ : Heap} {L : Addr}
theorem stage {st : Stmt} {rest : List Stmt} {env : Env} {Q : Flow → Shared → Prop} {J : (Str → Option Value) → List (Addr × Obj) → Prop} (h1 : wpAny (model prog w) A (exec st env) (After s h₀ L J) (fun _ _ => False) s)
    (h2 : ∀ h' tk m' nw, Fr h₀ L h' m' → News h₀ L h' nw → J m' nw → wpAny (model prog w) A (execs rest env) Q E { s with heap := h', toks := tk }) :
    wpAny (model prog w) A (execs (st :: rest) env) Q E s :=
  wpAny_execs_cons (wpAny_mono h1 (fun fl s' h => by obtain ⟨rfl, h', tk, m', nw, rfl, F, N, hJ⟩ := h; exact h2 h' tk m' nw F N hJ) fun _ _ h => h.elim)
/-- a mark at which the walk stops. -/
noncomputable def Hold (P : Prop) : Prop := P
theorem Hold.intro {P : Prop} (h : P) : Hold P := h
theorem holdWhile {t : PySem.Expr} {b o rest : List Stmt} {p : Pos} {env : Env} {Q : Flow → Shared → Prop} (h : Hold (wpAny (model prog w) A (execs (.While t b o p :: rest) env) Q E s)) : wpAny (model prog w) A (execs (.While t b o p :: rest) env) Q E s := h
theorem holdFor {t i : PySem.Expr} {b o rest : List Stmt} {p : Pos} {env : Env} {Q : Flow → Shared → Prop} (h : Hold (wpAny (model prog w) A (execs (.For t i b o p :: rest) env) Q E s)) : wpAny (model prog w) A (execs (.For t i b o p :: rest) env) Q E s := h
theorem stageE {st : Stmt} {env : Env} {Q : Flow → Shared → Prop} {J : (Str → Option Value) → List (Addr × Obj) → Prop} (h1 : wpAny (model prog w) A (exec st env) (After s h₀ L J) (fun _ _ => False) s)
    (h2 : ∀ h' tk m' nw, Fr h₀ L h' m' → News h₀ L h' nw → J m' nw → Q .next { s with heap := h', toks := tk }) : wpAny (model prog w) A (exec st env) Q E s :=
  wpAny_mono h1 (fun fl s' h => by obtain ⟨rfl, h', tk, m', nw, rfl, F, N, hJ⟩ := h; exact h2 h' tk m' nw F N hJ) fun _ _ h => h.elim
end
end Mine

end

section
open PySem PySem.W PyProof.Rows PySem.Calls
set_option maxRecDepth 100000
set_option maxHeartbeats 1000000
namespace Mine
open PySem.W.KBw (bInts)
theorem g_b64decode (P : Params) : nsIn (K P) mainGlobals (Str.ofString "b64decode") = some (some (.ref 134)) := by kernel_rfl
theorem g_signs2 (P : Params) : nsIn (K P) mainGlobals (Str.ofString "_law_signs") = some (some (.ref 158)) := by kernel_rfl
theorem Sx.fn0' {prog : Program} {w : World} {A A' : Around} {E : Value → Shared → Prop} {s : Shared} {h₀ : Heap} {L : Addr} {k : Nat} {env : Env} {pos : Pos} {f : Value} {m : Str → Option Value} {Q : Value → Shared → Prop} (S : Sx w A' h₀ L k) (F : Fr h₀ L s.heap m) (hk : keepIn (K w.params) f = true)
    (h : wpAny (model prog w) A (call f []) Q E s) : wpAny (model prog w) A (callWith pos f [] (backTo pos (starEach [] env)) []) Q E s :=
  callWith_K0 (S.X.keeps F.keep) hk h
local macro_rules | `(tactic| walk_at "execs cons") => `(tactic| with_reducible refine holdFor ?_)
local macro_rules | `(tactic| walk_at "eval Name") => `(tactic| first
  | (refine nameX_L (by assumption) (by rfl) ?_)
  | ((with_reducible show wpAny _ _ (eval (PySem.Expr.Name (Str.ofString "_law_signs") _) _) _ _ _); refine Sx.globC (by assumption) (by assumption) (g_signs2 _) ?_)
  | ((with_reducible show wpAny _ _ (eval (PySem.Expr.Name (Str.ofString "b64decode") _) _) _ _ _); refine Sx.globC (by assumption) (by assumption) (g_b64decode _) ?_)
  | ((with_reducible show wpAny _ _ (eval (PySem.Expr.Name (Str.ofString "len") _) _) _ _ _); refine Sx.bltC (by assumption) (by assumption) (n_len _) (by boot_fast) (by decide) ?_)
  | (refine ldVarK (by assumption) (by assumption) ?_)
  | (refine ldFreeK (by rfl) (by assumption) ?_)
  | (refine ldCellK (by rfl) (by assumption) ?_))
local macro_rules | `(tactic| walk_at "callWith ref") => `(tactic| first
  | (refine Sx.fn (by assumption) (by with_unfolding_all rfl) (by with_unfolding_all rfl) ?_)
  | (refine Sx.fn0' (by assumption) (by assumption) (by kernel_rfl) ?_))
local macro_rules | `(tactic| walk_at "storeName") => `(tactic| (refine storeX_L (by assumption) (by assumption) ?_; intro _ _ _))
local macro_rules | `(tactic| walk_at "Held") => `(tactic| refine Held.intro (by assumption) ?_)
local macro_rules | `(tactic| walk_at "binaryOp Mult str int") => `(tactic| (refine mul_rep (c := 65) (by assumption) (by assumption) ?_; intro _ _))
section
variable {prog : Program} {w : World} {A : Around} {E Q : Value → Shared → Prop} {s : Shared} {h₀ : Heap} {L : Addr} {m : Str → Option Value} {news : List (Addr × Obj)}
theorem fr_of {h₀ h : Heap} {L : Addr} {m : Str → Option Value} {x : Str} {v : Value} (F : Fr h₀ L h m) (e : m x = some v) : Fr h₀ L h (fun y => if y = x then some v else m y) := map1 e ▸ F
theorem c_number {l : List Nat} {t : Tok} (S : Sx w A h₀ L 13) (F : Fr h₀ L s.heap m) (N : News h₀ L s.heap news) (hl : l.length ≤ 300000) (ha : ∀ c ∈ l, c < 128) (hne : ∀ c ∈ l, c ≠ 61)
    (h : ∀ t' h' tk, Fr h₀ L h' m → News h₀ L h' news → Q (.int (n64 0 (figL l)) t') { s with heap := h', toks := tk }) :
    wpAny (model prog w) A (call (.ref 182) [.str ⟨l.toArray⟩ t]) Q E s := by
  refine wpAny_call (enterC (k := 12) (binds := [(Str.ofString "sent", .str ⟨l.toArray⟩ t)]) S F N rfl rfl (BindsTo.of_eq rfl) rfl (by decide +kernel) rfl rfl rfl fun g L' h₁ tk₁ cells S' F' N' Y hlt => ?_)
  obtain ⟨oc, rfl, hoc⟩ := CellsAre.one Y
  replace hoc : oc.data = .cell none := hoc.trans (by rfl)
  have F0 := fr_of F' (x := Str.ofString "sent") (v := .str ⟨l.toArray⟩ t) (by rfl)
  clear F'
  revert F0
  generalize bindL _ _ _ = m₀
  intro F0
  have hltc := Heap.lt_size (N' (L' + 1, oc) (.head _)).1
  have hsg : (⟨signs64.toArray⟩ : Str).length + (Str.ofString ".\n").length ≤ sizeLine := by show 64 + 2 ≤ _; rw [sizeLine_eq]; omega
  iterate 6 walk1
  refine c_signs (Sx.less S' (by omega)) (by assumption) (by assumption) fun t5 h5 k5 F5 N5 => ?_
  iterate 2 walk1
  rw [show (⟨signs64.toArray⟩ : Str) ++ Str.ofString ".\n" = ⟨sgS.toArray⟩ by decide]
  have hne1 : ∀ p ∈ news, p.1 ≠ L' + 1 := fun p hp => Nat.ne_of_lt (Nat.lt_succ_of_lt (hlt p hp))
  refine storeX_C F5 N5 (by rfl) (.head hne1) hoc fun h6 o6 F6 N6 ho6 => ?_
  repeat' walk1
  refine ListComp_signs (h₀ := g) (L := L') (m := fun y => if y = Str.ofString "sent" then some (.str ⟨l.toArray⟩ t) else m₀ y) (pz := isSg) (d := PyData.str) S'.hh (by with_unfolding_all rfl) (by decide) (by rfl) (by decide) (by rfl) ?_ (by intro _; with_unfolding_all rfl)
  refine nameX_L F6 (by rfl) ?_
  refine ⟨_, _, _, rfl, by show l.toArray.size ≤ _; rw [List.size_toArray, sizeLine_eq]; omega, F6, N6, ?_, ?_, ?_⟩
  · rintro C a v s₂ m₂ E' ⟨tv, rfl⟩ hNs hx up
    refine wpAny_tests_one ?_
    obtain ⟨tc, hcell⟩ : ∃ tc, s₂.heap.IsCell (L' + 1) (some (.str ⟨sgS.toArray⟩ tc)) := ⟨_, o6, up _ _ (N6 _ (.head _)).1, ho6⟩
    repeat' walk1
    exact ⟨_, _, rfl, fun _ _ e => e⟩
  · rintro C a v s₂ m₂ E' ⟨tv, rfl⟩ _ hNs hx up
    repeat' walk1
    · exact .str _ _
    · exact ⟨_, _, rfl, fun _ _ e => e⟩
  · intro D ys h7 k7 F7 N7 hD hys
    have hcl : ys.length = (figL l).length := by rw [hys.length_eq, List.length_map, count_figs l ha]
    have hfl : (figL l).length ≤ 300000 := by rw [← count_figs l ha]; refine Nat.le_trans (List.length_filter_le _ _) ?_; show (l.toArray.toList.map _).length ≤ _; simpa using hl
    have hsz : ys.toArray.size = (figL l).length := by rw [List.size_toArray, hcl]
    repeat' walk1
    rename Fr g L' _ _ => F8
    rename News g L' _ _ => N8
    rw [hsz] at F8
    have hm0 : 0 ≤ (-((figL l).length : Int)).fmod 4 := by rw [Int.fmod_eq_emod_of_nonneg _ (by decide)]; omega
    have hm1 : (-((figL l).length : Int)).fmod 4 ≤ 1000000 := by rw [Int.fmod_eq_emod_of_nonneg _ (by decide)]; omega
    have hmul : Txt.mul (Str.ofString "A") ((-((figL l).length : Int)).fmod 4) = ⟨(List.replicate ((-((figL l).length : Int)).fmod 4).toNat 65).toArray⟩ := txt_mul 65 _ hm0
    have had : (Txt.mul (Str.ofString "A") ((-((figL l).length : Int)).fmod 4)).length + (⟨l.toArray⟩ : Str).length ≤ sizeLine := by
      rw [hmul]
      show (List.replicate ((-((figL l).length : Int)).fmod 4).toNat 65).toArray.size + l.toArray.size ≤ _
      rw [List.size_toArray, List.length_replicate, List.size_toArray, Int.fmod_eq_emod_of_nonneg _ (by decide), sizeLine_eq]; omega
    refine Hold.intro ?_
    refine stage (h₀ := g) (L := L') (J := fun m nx => nx = (L' + 1, o6) :: news ∧ ∃ t, m (Str.ofString "number") = some (.int (n64 0 (figL l)) t)) ?_ ?_
    · refine For_invV g (by rfl) (by rfl) ?_
      repeat' walk1
      rename Fr g L' _ _ => FY
      rename News g L' _ _ => NY
      have hk : ∃ k, k = ((-((figL l).length : Int)).fmod 4).toNat ∧ k ≤ 3 ∧ (k + (figL l).length) % 4 = 0 := ⟨_, rfl, by rw [Int.fmod_eq_emod_of_nonneg _ (by decide)]; omega, by rw [Int.fmod_eq_emod_of_nonneg _ (by decide)]; omega⟩
      obtain ⟨k, hke, hk3, hk4⟩ := hk
      rw [hmul, ← hke, show (⟨(List.replicate k 65).toArray⟩ : Str) ++ ⟨l.toArray⟩ = ⟨(List.replicate k 65 ++ l).toArray⟩ from congrArg Str.mk (List.append_toArray _ _)]
      obtain ⟨hn61, o, ho1, ho2⟩ := heard_num (l := l) (fun c hc => ⟨ha c hc, hne c hc⟩) k hk4
      have hap : ∀ c ∈ (⟨(List.replicate k 65 ++ l).toArray⟩ : Str).cps, c < 128 := by
        intro c hc
        have hc : c ∈ List.replicate k 65 ++ l := by simpa using hc
        rcases List.mem_append.mp hc with hc | hc
        · rw [(List.mem_replicate.mp hc).2]; decide
        · exact ha c hc
      have hps : (⟨(List.replicate k 65 ++ l).toArray⟩ : Str).cps.size ≤ 300003 := by
        show (List.toArray _).size ≤ _
        rw [List.size_toArray, List.length_append, List.length_replicate]; omega
      refine c_b64decode (pr := dotF) (Sx.less S' (by omega)) FY NY (by omega) hap rfl hn61 ho1 fun t9 h9 k9 F9 N9 => ?_
      have hin : In64 (o, 0, 0) := ho1 ▸ In64.fold in64_0
      have hin1 : ∀ n ∈ o, 0 ≤ n ∧ n < 256 := hin.1
      have hob : bInts (byteArr o) = o := bInts_byteArr hin1
      refine iter_bytesJ (fun i m nx => nx = (L' + 1, o6) :: news ∧ (∃ t, m (Str.ofString "number") = some (.int (octs (o.take i)) t))) S'.hh F9 N9 ⟨rfl, ⟨_, rfl⟩⟩ ?_ ?_
      · rintro i c tk m₁ n₁ h2 tk2 own hk hadr hoff ⟨rfl, ⟨ti, hi⟩⟩ F2 N2
        refine turn_mono ?_
        clear h
        rw [map1 hi] at F2
        have hk' : o[i]? = some c := by rw [← hob]; exact hk
        have hstep : octs (o.take (i + 1)) = octs (o.take i) * 256 + c := by
          unfold octs
          rw [List.take_add_one, hk', List.foldl_append]; rfl
        repeat' walk1
        rename Fr g L' _ _ => FF
        rename News g L' _ _ => NN
        refine ⟨_, _, _, _, _, rfl, FF, NN, fun p hp => List.mem_append.mpr (.inl hp), fun p hp => List.mem_append.mpr (.inr hp), rfl, rfl, ⟨_, by rw [hstep]; rfl⟩⟩
      · rintro m₁ n₁ h2 tk2 ⟨rfl, ⟨ti, hi⟩⟩ F2 N2
        rw [hob, List.take_length, ho2] at hi
        exact After.intro F2 N2 ⟨rfl, _, hi⟩
    · rintro h9 tk9 m9 nw9 F9 N9 ⟨rfl, ⟨tn, hn⟩⟩
      rw [map1 hn] at F9
      repeat' walk1
      refine leaveK_ F9 (fun p hp => N9 p (.tail _ hp)) fun F6 N6 => ?_
      exact h _ _ _ F6 N6
end
end Mine

end

section
open PySem PySem.W PyProof.Rows PySem.Calls PySem.Spec
set_option maxRecDepth 100000
namespace Mine
noncomputable def StrPost (h₀ : Heap) (L : Addr) (s₁ : Shared) (I : Addr) (oI : Obj) (J : (Str → Option Value) → List (Addr × Obj) → Prop) (fl : Flow) (s₂ : Shared) : Prop :=
  fl = .next ∧ ∃ h' tk m' news', s₂ = { s₁ with heap := h', toks := tk } ∧ Fr h₀ L h' m' ∧ News h₀ L h' ((I, oI) :: news') ∧ (∀ p ∈ news', p.1 ≠ I) ∧ J m' news'
section
variable {prog : Program} {w : World} {A : Around} {E : Value → Shared → Prop} {s : Shared} {env : Env} {h₀ : Heap} {x : Str} {body : List Stmt} {Q : Flow → Shared → Prop}
theorem iter_strJ {q : List Nat} {tq : Tok} {m₀ : Str → Option Value} {news : List (Addr × Obj)} (J : Nat → (Str → Option Value) → List (Addr × Obj) → Prop)
    (hh : A.handled = none) (ha : ∀ c ∈ q, c < 128) (F : Fr h₀ env.locals s.heap m₀) (N : News h₀ env.locals s.heap news) (hj : J 0 m₀ news)
    (turn : ∀ i (hi : i < q.length) I oI t m₁ news₁ h tk, J i m₁ news₁ → (∀ p ∈ news₁, p.1 ≠ I) → Fr h₀ env.locals h (fun y => if y = x then some (.str ⟨#[q[i]]⟩ t) else m₁ y) → News h₀ env.locals h ((I, oI) :: news₁) →
      wpAny (model prog w) A (execs body env) (StrPost h₀ env.locals { s with heap := h, toks := tk } I oI (J (i + 1))) E { s with heap := h, toks := tk })
    (done : ∀ m₁ news₁ h tk, J q.length m₁ news₁ → Fr h₀ env.locals h m₁ → News h₀ env.locals h news₁ → Q .next { s with heap := h, toks := tk }) :
    wpAny (model prog w) A (pyIter (.str ⟨q.toArray⟩ tq)) (fun it s₂ => LoopAtV prog w A h₀ env x body Q E it s₂) E s := by
  have hall : (⟨q.toArray⟩ : Str).cps.all (· < 128) = true := by
    rw [Array.all_eq_true_iff_forall_mem]
    intro c hc
    exact decide_eq_true (ha c (by simpa using hc))
  refine wpAny_pyIter_ascii hall ?_
  have W := Walks.strAscii (prog := prog) (w := w) hh s.heap.objs.size ⟨q.toArray⟩ tq
  have hsz : (⟨q.toArray⟩ : Str).cps.size = q.length := by show q.toArray.size = _; simp
  rw [hsz] at W
  refine ⟨_, _, _, q.length, _, _, m₀, news, J, rfl, W, ?_, ?_, ?_, ⟨_, Heap.get?_push_size _ rfl, rfl, rfl⟩, F.push _, (fun p hp => ⟨Heap.get?_push_of_some _ (N p hp).1, (N p hp).2⟩), hj, ?_, ?_⟩
  · intro hm
    exact absurd F.ns.lt ((List.mem_singleton.mp hm) ▸ Nat.lt_irrefl _)
  · intro b hb
    rw [List.mem_singleton.mp hb]
    exact next_is_new F
  · intro p hp hI
    exact absurd (Heap.lt_size (N p hp).1) ((List.mem_singleton.mp hI) ▸ Nat.lt_irrefl _)
  · rintro i v m₁ news₁ s₁ own ⟨hh', tk', rfl⟩ hin hP hJ hoff hown hget hall2 hst F₁ N₁
    obtain ⟨c, u, hc, rfl⟩ := hP
    have hqi : q[i] = c := by
      have h1 : q[i]? = some c := by simpa using hc
      rw [List.getElem?_eq_getElem hin] at h1; exact Option.some.inj h1
    obtain ⟨oI, hoI, _⟩ := hst
    have hmem : (s.heap.objs.size, oI) ∈ own := hall2 _ (List.mem_singleton.mpr rfl) (next_is_new F) _ hoI
    have hone : ∀ p ∈ own, p = (s.heap.objs.size, oI) := by
      intro p hp
      have h1 : p.1 = s.heap.objs.size := List.mem_singleton.mp (hown p hp)
      have h2 : hh'.get? p.1 = some p.2 := hget p hp
      rw [h1] at h2
      have h3 : hh'.get? s.heap.objs.size = some oI := hoI
      rw [h3] at h2
      exact Prod.ext h1 (Option.some.inj h2).symm
    have N₂ : News h₀ env.locals hh' ((s.heap.objs.size, oI) :: news₁) := fun p hp => by
      rcases List.mem_cons.mp hp with rfl | hp
      · exact N₁ _ (List.mem_append_left _ hmem)
      · exact N₁ _ (List.mem_append_right _ hp)
    rw [← hqi] at F₁
    refine wpAny_mono (turn i hin s.heap.objs.size oI u m₁ news₁ hh' tk' hJ (fun p hp e => hoff p hp (by rw [e]; exact List.mem_singleton.mpr rfl)) F₁ N₂) (fun fl s₂ p => ?_) fun _ _ e => e
    obtain ⟨rfl, h', tk, m', news', e, F', N', ho, hJ'⟩ := p
    exact .next ⟨rfl, h', tk, m', news', e, F', fun p hp => by
      rcases List.mem_append.mp hp with hp | hp
      · rw [hone p hp]; exact N' _ (.head _)
      · exact N' p (.tail _ hp), fun p hp hI => ho p hp (List.mem_singleton.mp hI), hJ'⟩
  · rintro h' tk m' news' F' N' _ hJ
    exact done m' news' h' tk hJ F' N'
end
end Mine

end

section
open PySem PySem.W PyProof.Rows PySem.Calls
set_option maxRecDepth 100000
set_option maxHeartbeats 1000000
namespace Mine
theorem g_signs (P : Params) : nsIn (K P) mainGlobals (Str.ofString "_law_signs") = some (some (.ref 158)) := by kernel_rfl
theorem g_behind (P : Params) : nsIn (K P) mainGlobals (Str.ofString "_law_behind") = some (some (.ref 170)) := by kernel_rfl
noncomputable def statics (P : Params) : Array DictEntry := match (K P).lookup 2 with
  | some ⟨_, _, .dict es _, _⟩ => es
  | _ => #[]
theorem statics_at (P : Params) : ∃ n, (K P).lookup 2 = some ⟨.none, none, .dict (statics P) n, #[]⟩ := ⟨9, by kernel_rfl⟩
noncomputable def strKeyed (es : Array DictEntry) : Bool := es.all fun e => match e.key with
  | .str _ _ => true
  | _ => false
theorem strKeyed_keys {es : Array DictEntry} (h : strKeyed es = true) : StrKeys es := by
  intro e he
  have h2 := (Array.all_eq_true_iff_forall_mem.mp h) e he
  revert h2
  cases e.key <;> intro h2 <;> first | exact ⟨_, _, rfl⟩ | cases h2
theorem booked {w : World} {h : Heap} (X : (K w.params).In h) : NoneBooked h := by
  obtain ⟨n, hn⟩ := statics_at w.params
  exact ⟨fun y => nsFind (statics w.params) y, ⟨_, _, _, X 2 _ hn, rfl, strKeyed_keys (by kernel_rfl), fun _ => rfl⟩, by kernel_rfl⟩
theorem Sx.fn0 {prog : Program} {w : World} {A A' : Around} {E : Value → Shared → Prop} {s : Shared} {h₀ : Heap} {L : Addr} {k : Nat} {env : Env} {pos : Pos} {f : Value} {m : Str → Option Value} {Q : Value → Shared → Prop} (S : Sx w A' h₀ L k) (F : Fr h₀ L s.heap m) (hk : keepIn (K w.params) f = true)
    (h : wpAny (model prog w) A (call f []) Q E s) : wpAny (model prog w) A (callWith pos f [] (backTo pos (starEach [] env)) []) Q E s :=
  callWith_K0 (S.X.keeps F.keep) hk h
local macro_rules | `(tactic| walk_at "no such step") => `(tactic| fail)
local macro_rules | `(tactic| walk_at "execs cons") => `(tactic| first | with_reducible refine holdWhile ?_ | with_reducible refine holdFor ?_)
local macro_rules | `(tactic| walk_at "eval Name") => `(tactic| first
  | ((with_reducible show wpAny _ _ (eval (PySem.Expr.Name (Str.ofString "_law_signs") _) _) _ _ _); refine Sx.glob (by assumption) (by assumption) (g_signs _) ?_)
  | ((with_reducible show wpAny _ _ (eval (PySem.Expr.Name (Str.ofString "_law_behind") _) _) _ _ _); refine Sx.glob (by assumption) (by assumption) (g_behind _) ?_))
local macro_rules | `(tactic| walk_at "callWith ref") => `(tactic| first
  | (refine Sx.fn (by assumption) (by with_unfolding_all rfl) (by with_unfolding_all rfl) ?_)
  | (refine Sx.fn0 (by assumption) (by assumption) (by kernel_rfl) ?_))
local macro_rules | `(tactic| walk_at "unpackItems ref") => `(tactic| (refine unpackItemsN_ (by assumption) (by assumption) (News.isTup (by assumption) (by first | exact .head _ | exact .tail _ (.head _))) (Sx.hh (by assumption)) (by rfl) ?_; intro _ _ _))
local macro_rules | `(tactic| walk_at "subscriptTail Name Constant ref int") => `(tactic| (refine subscriptTail_builtin (T := "list") ⟨_, (News.get (by assumption) (.tail _ (.tail _ (.head _)))), rfl⟩ slot_list_getitem.lookup ?_; refine wpAny_getItem_list (News.isList (by assumption) (.tail _ (.tail _ (.head _)))) (by omega) (by omega) (by assumption) ?_))
local macro_rules | `(tactic| walk_at "Held") => `(tactic| refine Held.intro (by assumption) ?_)
section
variable {prog : Program} {w : World} {A : Around} {E Q : Value → Shared → Prop} {s : Shared} {h₀ : Heap} {L : Addr} {m : Str → Option Value} {news : List (Addr × Obj)}
theorem cnt_count (l : List Nat) : cnt 42 l = ((l.count 42 : Nat) : Int) := by
  induction l with
  | nil => rfl
  | cons c l ih =>
    have e : cnt 42 (c :: l) = (if PySem.Spec.same (PyData.str ⟨#[c]⟩) (PyData.str ⟨#[42]⟩) then 1 else 0) + cnt 42 l := rfl
    rw [e, ih, List.count_cons]
    by_cases h : c = 42
    · subst h; simp [PySem.Spec.same]; omega
    · have h2 : ¬ (⟨#[c]⟩ : Str) = ⟨#[42]⟩ := fun e => h (by have := congrArg (fun x : Str => x.cps.toList) e; simpa using this)
      simp [PySem.Spec.same, h]
theorem count_lone (q : List Nat) : (Txt.count ⟨q.toArray⟩ (Str.ofString "*") == 1) = decide (q.count 42 = 1) := by
  rw [show Str.ofString "*" = ⟨#[42]⟩ by decide, count_is]
  have h := cnt_count q
  unfold cnt at h
  rw [show (⟨q.toArray⟩ : Str).cps.toList = q by simp, h, Bool.beq_eq_decide_eq, decide_eq_decide]
  omega
theorem map5 {m : Str → Option Value} {a b c d e : Str} {va vb vc vd ve : Value} (ha : m a = some va) (hb : m b = some vb) (hc : m c = some vc) (hd : m d = some vd) (he : m e = some ve) :
    m = fun y => if y = a then some va else if y = b then some vb else if y = c then some vc else if y = d then some vd else if y = e then some ve else m y := by
  funext y; repeat' (split; (rename_i e; rw [e]; assumption))
  rfl
theorem any2 (av : List Nat) : ([Str.ofString "\n", Str.ofString "\r"].any fun x => x == (⟨av.toArray⟩ : Str)) = decide (av = [10] ∨ av = [13]) := by
  have e1 : (Str.ofString "\n" == (⟨av.toArray⟩ : Str)) = decide (av = [10]) := by
    rw [show Str.ofString "\n" = ⟨([10] : List Nat).toArray⟩ by decide, Bool.beq_eq_decide_eq, decide_eq_decide]
    exact ⟨fun h => by have := congrArg (fun x : Str => x.cps.toList) h; simpa using this.symm, fun h => by rw [h]⟩
  have e2 : (Str.ofString "\r" == (⟨av.toArray⟩ : Str)) = decide (av = [13]) := by
    rw [show Str.ofString "\r" = ⟨([13] : List Nat).toArray⟩ by decide, Bool.beq_eq_decide_eq, decide_eq_decide]
    exact ⟨fun h => by have := congrArg (fun x : Str => x.cps.toList) h; simpa using this.symm, fun h => by rw [h]⟩
  simp only [List.any_cons, List.any_nil, e1, e2, Bool.or_false]
  by_cases h1 : av = [10] <;> by_cases h2 : av = [13] <;> simp [h1, h2]
noncomputable def figZ (c : Nat) : Int := match figS c with | [] => -1 | f :: _ => f
theorem fig_a : ∀ c : Fin 128, (Builtin.Str.occurrences (Str.ofString "*?.") ⟨#[c.val]⟩ 0 (Str.ofString "*?.").length 1).isEmpty = false → figZ c.val = 62 := by decide +kernel
theorem fig_b : ∀ c : Fin 128, (Builtin.Str.occurrences (Str.ofString "*?.") ⟨#[c.val]⟩ 0 (Str.ofString "*?.").length 1).isEmpty = true → (Builtin.Str.occurrences (Str.ofString "\n\r") ⟨#[c.val]⟩ 0 (Str.ofString "\n\r").length 1).isEmpty = false → figZ c.val = 63 := by decide +kernel
theorem fig_c : ∀ c : Fin 128, (Builtin.Str.occurrences (Str.ofString "*?.") ⟨#[c.val]⟩ 0 (Str.ofString "*?.").length 1).isEmpty = true → (Builtin.Str.occurrences (Str.ofString "\n\r") ⟨#[c.val]⟩ 0 (Str.ofString "\n\r").length 1).isEmpty = true → Txt.find ⟨signs64.toArray⟩ ⟨#[c.val]⟩ = figZ c.val := by decide +kernel
theorem figZ_lt : ∀ c : Fin 128, figZ c.val < 0 → figS c.val = [] := by decide +kernel
theorem figZ_ge : ∀ c : Fin 128, ¬ figZ c.val < 0 → figS c.val = [figZ c.val] := by decide +kernel
theorem sgn_eq (sc k : Nat) : ((⟨#[sc]⟩ : Str) == ⟨#[k]⟩) = decide (sc = k) := by
  rw [Bool.beq_eq_decide_eq, decide_eq_decide]
  exact ⟨fun h => by have := congrArg (fun x : Str => x.cps.toList) h; simpa using this, fun h => by rw [h]⟩
theorem intsAt0 {us : List Value} {a : Int} {ps : List Int} (h : IntsAre us (a :: ps)) : ∃ t us', us = .int a t :: us' ∧ IntsAre us' ps := by
  cases h with | cons _ t r => exact ⟨t, _, rfl, r⟩
theorem c_parts {p : List Nat} {t : Tok} (S : Sx w A h₀ L 7) (F : Fr h₀ L s.heap m) (N : News h₀ L s.heap news) (hp : p.length ≤ 100) (ha : ∀ c ∈ p, c < 128)
    (h : ∀ D us c h' tk, IntsAre us (partsOf (sqb false p)) → Fr h₀ L h' m → News h₀ L h' ((D, listOf us.toArray c) :: news) → (∀ p ∈ news, p.1 < D) → Q (.ref D) { s with heap := h', toks := tk }) :
    wpAny (model prog w) A (call (.ref 177) [.str ⟨p.toArray⟩ t]) Q E s := by
  refine wpAny_call (enter (k := 6) (binds := [(Str.ofString "pattern", .str ⟨p.toArray⟩ t)]) S F N rfl rfl (BindsTo.of_eq rfl) (locs rfl) rfl rfl rfl (by decide) fun g L' h₁ S' F' N' kp => ?_)
  refine stage (h₀ := g) (L := L') (J := fun m nx => nx = news ∧ ∃ t, m (Str.ofString "pattern") = some (.str ⟨(sqb false p).toArray⟩ t)) ?_ ?_
  · refine While_inv2 (n₀ := p.length) (fun n m nx => ∃ x : List Nat, nx = news ∧ x.length = n ∧ n ≤ 100 ∧ sqb false x = sqb false p ∧ ∃ t, m (Str.ofString "pattern") = some (.str ⟨x.toArray⟩ t)) F' N' ⟨p, rfl, rfl, hp, rfl, _, rfl⟩ ?_
    rintro n m₁ n₁ h2 tk2 F2 N2 ⟨x, rfl, rfl, hn, hx, t1, e1⟩
    rw [map1 e1] at F2
    have hxs : (⟨x.toArray⟩ : Str).length = x.length := by show x.toArray.size = _; simp
    repeat' walk1
    · rename (Builtin.Str.occurrences _ _ _ _ _).isEmpty = true => ho
      rw [show Str.ofString "**" = ⟨#[42, 42]⟩ by decide] at ho
      have hx2 := sqb_id x false (noTwo_of_in ho) (fun h => by cases h)
      rw [hx2] at hx
      rw [hx] at F2
      exact After.intro F2 N2 ⟨rfl, _, rfl⟩
    · rename (Builtin.Str.occurrences _ _ _ _ _).isEmpty = false => ho
      rw [show Str.ofString "**" = ⟨#[42, 42]⟩ by decide] at ho
      have hlen := (replace_len x).2 (ne_of_in ho)
      have hsq := replace_sq x
      rename Fr g L' _ _ => FF
      rename News g L' _ _ => NN
      rw [show Str.ofString "**" = ⟨#[42, 42]⟩ by decide, show Str.ofString "*" = ⟨#[42]⟩ by decide] at FF
      exact ⟨_, _, _, _, (lst (Txt.replace ⟨x.toArray⟩ ⟨#[42, 42]⟩ ⟨#[42]⟩)).length, rfl, FF, NN, hlen, _, rfl, rfl, by omega, hsq.trans hx, _, rfl⟩
  · rintro h2 tk2 m₁ n₁ F2 N2 ⟨rfl, t1, e1⟩
    rw [map1 e1] at F2
    generalize hq : sqb false p = q at *
    have hql : q.length ≤ 100 := by rw [← hq]; exact Nat.le_trans (len_sqb p false) hp
    have hqa : ∀ c ∈ q, c < 128 := fun c hc => ha c (mem_sqb p false (by rw [hq]; exact hc))
    repeat' walk1
    refine c_signs (Sx.less S' (by omega)) (by assumption) (by assumption) fun t5 h5 k5 F5 N5 => ?_
    clear F2 N2
    repeat' walk1
    rename Fr g L' _ _ => F6
    rename News g L' _ _ => N6
    refine c_behind (a := 0) (ns := []) (f := 44) (Sx.less S' (by omega)) F6 N6 (.head _) (.cons 0 _ .nil) (by simp) fun D us c h7 k7 hus F7 N7 hD => ?_
    clear F6 N6 F5 N5
    repeat' walk1
    rename Fr g L' _ _ => F8
    rename News g L' _ _ => N8
    have hlone : (Txt.count ⟨q.toArray⟩ (Str.ofString "*") == 1) = decide (q.count 42 = 1) := count_lone q
    generalize hlo : decide (q.count 42 = 1) = lone at hlone
    have hq0 : ∀ (m : Str → Option Value), True := fun _ => trivial
    refine Hold.intro ?_
    refine stage (h₀ := g) (L := L') (J := fun m nx => ∃ D us c, nx = (D, listOf (List.toArray us) c) :: n₁ ∧ IntsAre us (q.foldl (pstep lone) (behind [0] 44, false)).1 ∧ (∀ p ∈ n₁, p.1 < D) ∧ m (Str.ofString "parts") = some (.ref D)) ?_ ?_
    · refine For_invV g (by rfl) (by rfl) ?_
      walk1
      rw [hlone] at F8
      refine iter_strJ (fun i m nx => ∃ D us c, nx = (D, listOf (List.toArray us) c) :: n₁ ∧ IntsAre us ((q.take i).foldl (pstep lone) (behind [0] 44, false)).1 ∧ (∀ p ∈ n₁, p.1 < D) ∧ m (Str.ofString "parts") = some (.ref D) ∧
        (∃ t, m (Str.ofString "signs") = some (.str ⟨signs64.toArray⟩ t)) ∧ m (Str.ofString "lone") = some (.bool lone) ∧ (∃ a t, m (Str.ofString "ahead") = some (.str ⟨a.toArray⟩ t) ∧ ((q.take i).foldl (pstep lone) (behind [0] 44, false)).2 = decide (a = [10] ∨ a = [13]))) S'.hh hqa F8 (fun p hp => ?_) ⟨D, us, c, rfl, hus, fun p hp => hD p (.tail _ (.tail _ hp)), rfl, ⟨_, rfl⟩, rfl, [], _, rfl, rfl⟩ ?_ ?_
      · rcases List.mem_cons.mp hp with rfl | hp
        · exact N8 _ (.tail _ (.head _))
        · exact N8 p (.tail _ (.tail _ (.tail _ (.tail _ hp))))
      · rintro i hi I oI ts m₂ nx₂ h9 tk9 ⟨D, us, c, rfl, hus, hD, e1, ⟨t2, e2⟩, e3, ⟨av, t4, e4, hav⟩⟩ hoff F9 N9
        clear F8 N8
        rw [map4 e1 e2 e3 e4] at F9
        have hci := hqa _ (List.getElem_mem hi)
        generalize hcq : q[i] = sc at *
        have hne := parts_ne lone (q.take i) (behind [0] 44) false (by simp [behind])
        have hpl : ((q.take i).foldl (pstep lone) (behind [0] 44, false)).1.length ≤ 500 := Nat.le_trans (parts_len lone (q.take i) (behind [0] 44) false) (by rw [List.length_take]; simp [behind]; omega)
        have hstep : (q.take (i + 1)).foldl (pstep lone) (behind [0] 44, false) = pstep lone ((q.take i).foldl (pstep lone) (behind [0] 44, false)) sc := by
          rw [List.take_add_one, List.getElem?_eq_getElem hi, List.foldl_append, hcq]; rfl
        rw [hstep]
        generalize (q.take i).foldl (pstep lone) (behind [0] 44, false) = st at *
        obtain ⟨ps, bb⟩ := st
        dsimp only at hav hne hus hpl
        cases ps with
        | nil => exact absurd rfl hne
        | cons a0 ps =>
        obtain ⟨ta, us', rfl, hus'⟩ := intsAt0 hus
        have hv0 : (Value.int a0 ta :: us').toArray[Int.toNat 0]? = some (.int a0 ta) := rfl
        have hIn : ∃ D us c, (I, oI) :: (D, listOf (List.toArray us) c) :: n₁ = (I, oI) :: (D, listOf (List.toArray us) c) :: n₁ := ⟨D, us', c, rfl⟩
        have hDI : D ≠ I := hoff _ (.head _)
        refine stage (h₀ := g) (L := L') (J := fun m nx => ∃ D us c, nx = (I, oI) :: (D, listOf (List.toArray us) c) :: n₁ ∧ IntsAre us (if bare lone bb sc = true then -62 :: (a0 + 62) :: ps else a0 :: ps) ∧ (∀ p ∈ n₁, p.1 < D) ∧ D ≠ I ∧ m (Str.ofString "parts") = some (.ref D) ∧
          (∃ t, m (Str.ofString "signs") = some (.str ⟨signs64.toArray⟩ t)) ∧ m (Str.ofString "lone") = some (.bool lone) ∧ (∃ t, m (Str.ofString "sign") = some (.str ⟨#[sc]⟩ t))) ?_ ?_
        · have hus2 := hus'.length
          repeat' walk1
          · rename (List.any _ _) = true => h1
            rename (_ == Str.ofString "?") = true => h2
            rw [any2] at h1
            rw [show Str.ofString "?" = ⟨#[63]⟩ by decide, sgn_eq] at h2
            rename Fr g _ _ _ => FE
            rename News g _ _ _ => NE
            rw [show (1 : Int) = ((1 : Nat) : Int) from rfl, pick_from] at NE
            refine kmk_add_ints (vs := [.int (-62) _, .int (a0 + 62) _]) FE NE (News.isList NE (.tail _ (.head _))) (News.isList NE (.head _)) (.cons _ _ (.cons _ _ .nil)) hus' (fun D3 us3 h6 F6 N6 hD3 hus3 => ?_) ?hz
            case hz => rw [sizeLine_eq]; simp at hpl ⊢; omega
            repeat' walk1
            rename Fr g _ _ _ => FF
            rename News g _ _ _ => NN
            refine After.intro FF (nw := (I, oI) :: (D3, _) :: n₁) (fun p hp => ?_) ⟨D3, us3, 0, rfl, ?_, fun p hp => hD3 p (.tail _ (.tail _ (.tail _ (.tail _ (.tail _ hp))))), Nat.ne_of_gt (hD3 (I, oI) (.tail _ (.tail _ (.tail _ (.head _))))), rfl, ⟨_, rfl⟩, rfl, ⟨_, rfl⟩⟩
            · rcases List.mem_cons.mp hp with rfl | hp
              · exact NN _ (.tail _ (.tail _ (.tail _ (.tail _ (.head _)))))
              · rcases List.mem_cons.mp hp with rfl | hp
                · exact NN _ (.head _)
                · exact NN p (.tail _ (.tail _ (.tail _ (.tail _ (.tail _ (.tail _ hp))))))
            · rw [if_pos (by unfold bare; rw [hav, h1, h2]; rfl)]; exact hus3
          · rename (List.any _ _) = true => h1
            rename (_ == Str.ofString "?") = false => h2
            rename (_ == Str.ofString "*") = true => h3
            rename lone = true => h4
            rw [any2] at h1
            rw [show Str.ofString "?" = ⟨#[63]⟩ by decide, sgn_eq] at h2
            rw [show Str.ofString "*" = ⟨#[42]⟩ by decide, sgn_eq] at h3
            rename Fr g _ _ _ => FE
            rename News g _ _ _ => NE
            rw [show (1 : Int) = ((1 : Nat) : Int) from rfl, pick_from] at NE
            refine kmk_add_ints (vs := [.int (-62) _, .int (a0 + 62) _]) FE NE (News.isList NE (.tail _ (.head _))) (News.isList NE (.head _)) (.cons _ _ (.cons _ _ .nil)) hus' (fun D3 us3 h6 F6 N6 hD3 hus3 => ?_) ?hz
            case hz => rw [sizeLine_eq]; simp at hpl ⊢; omega
            repeat' walk1
            rename Fr g _ _ _ => FF
            rename News g _ _ _ => NN
            refine After.intro FF (nw := (I, oI) :: (D3, _) :: n₁) (fun p hp => ?_) ⟨D3, us3, 0, rfl, ?_, fun p hp => hD3 p (.tail _ (.tail _ (.tail _ (.tail _ (.tail _ hp))))), Nat.ne_of_gt (hD3 (I, oI) (.tail _ (.tail _ (.tail _ (.head _))))), rfl, ⟨_, rfl⟩, rfl, ⟨_, rfl⟩⟩
            · rcases List.mem_cons.mp hp with rfl | hp
              · exact NN _ (.tail _ (.tail _ (.tail _ (.tail _ (.head _)))))
              · rcases List.mem_cons.mp hp with rfl | hp
                · exact NN _ (.head _)
                · exact NN p (.tail _ (.tail _ (.tail _ (.tail _ (.tail _ (.tail _ hp))))))
            · rw [if_pos (by unfold bare; rw [hav, h1, h2, h3, h4]; rfl)]; exact hus3
          · rename (_ == Str.ofString "?") = false => h2
            rename lone = false => h4
            rw [show Str.ofString "?" = ⟨#[63]⟩ by decide, sgn_eq] at h2
            rename Fr g _ _ _ => FE
            rename News g _ _ _ => NE
            refine After.intro FE (fun p hp => NE p (.tail _ hp)) ⟨D, _, c, rfl, ?_, hD, hDI, rfl, ⟨_, rfl⟩, rfl, ⟨_, rfl⟩⟩
            rw [if_neg (by unfold bare; rw [h2, h4]; simp)]
            exact hus
          · rename (_ == Str.ofString "?") = false => h2
            rename (_ == Str.ofString "*") = false => h3
            rw [show Str.ofString "?" = ⟨#[63]⟩ by decide, sgn_eq] at h2
            rw [show Str.ofString "*" = ⟨#[42]⟩ by decide, sgn_eq] at h3
            rename Fr g _ _ _ => FE
            rename News g _ _ _ => NE
            refine After.intro FE (fun p hp => NE p (.tail _ hp)) ⟨D, _, c, rfl, ?_, hD, hDI, rfl, ⟨_, rfl⟩, rfl, ⟨_, rfl⟩⟩
            rw [if_neg (by unfold bare; rw [h2, h3]; simp)]
            exact hus
          · rename (List.any _ _) = false => h1
            rw [any2] at h1
            rename Fr g _ _ _ => FE
            rename News g _ _ _ => NE
            refine After.intro FE (fun p hp => NE p (.tail _ hp)) ⟨D, _, c, rfl, ?_, hD, hDI, rfl, ⟨_, rfl⟩, rfl, ⟨_, rfl⟩⟩
            rw [if_neg (by unfold bare; rw [hav, h1]; simp)]
            exact hus
        · rintro h11 tk11 m₃ nx₃ FA NA ⟨D, us, c, rfl, hus, hD, hDI, e1, ⟨t2, e2⟩, e3, ⟨t5, e5⟩⟩
          clear F9 N9
          rw [map4 e1 e2 e3 e5] at FA
          refine stage (h₀ := g) (L := L') (J := fun m nx => nx = (I, oI) :: (D, listOf (List.toArray us) c) :: n₁ ∧ m (Str.ofString "parts") = some (.ref D) ∧ (∃ t, m (Str.ofString "figure") = some (.int (figZ sc) t)) ∧
            (∃ t, m (Str.ofString "signs") = some (.str ⟨signs64.toArray⟩ t)) ∧ m (Str.ofString "lone") = some (.bool lone) ∧ (∃ t, m (Str.ofString "sign") = some (.str ⟨#[sc]⟩ t))) ?_ ?_
          · repeat' walk1
            all_goals
              rename Fr g _ _ _ => FE
              rename News g _ _ _ => NE
            · rename (Builtin.Str.occurrences (Str.ofString "*?.") _ _ _ _).isEmpty = true => o1
              rename (Builtin.Str.occurrences (Str.ofString "\n\r") _ _ _ _).isEmpty = true => o2
              rw [fig_c ⟨sc, hci⟩ o1 o2] at FE
              exact After.intro FE NE ⟨rfl, rfl, ⟨_, rfl⟩, ⟨_, rfl⟩, rfl, ⟨_, rfl⟩⟩
            · rename (Builtin.Str.occurrences (Str.ofString "*?.") _ _ _ _).isEmpty = true => o1
              rename (Builtin.Str.occurrences (Str.ofString "\n\r") _ _ _ _).isEmpty = false => o2
              rw [← fig_b ⟨sc, hci⟩ o1 o2] at FE
              exact After.intro FE NE ⟨rfl, rfl, ⟨_, rfl⟩, ⟨_, rfl⟩, rfl, ⟨_, rfl⟩⟩
            · rename (Builtin.Str.occurrences (Str.ofString "*?.") _ _ _ _).isEmpty = false => o1
              rw [← fig_a ⟨sc, hci⟩ o1] at FE
              exact After.intro FE NE ⟨rfl, rfl, ⟨_, rfl⟩, ⟨_, rfl⟩, rfl, ⟨_, rfl⟩⟩
          · rintro h12 tk12 m₄ nx₄ FB NB ⟨rfl, e1, ⟨t6, e6⟩, ⟨t2, e2⟩, e3, ⟨t5, e5⟩⟩
            clear FA NA
            rw [map5 e1 e6 e2 e3 e5] at FB
            have hlast : (pstep lone (a0 :: ps, bb) sc).2 = decide ([sc] = [10] ∨ [sc] = [13]) := by
              show rowEnd sc = _
              unfold rowEnd
              rw [decide_eq_decide]; simp
            have hp1 : (pstep lone (a0 :: ps, bb) sc).1 = (match figS sc with | [] => (if bare lone bb sc = true then -62 :: (a0 + 62) :: ps else a0 :: ps) | f :: _ => behind (if bare lone bb sc = true then -62 :: (a0 + 62) :: ps else a0 :: ps) f) := rfl
            obtain ⟨x1, r1, hxr⟩ : ∃ x r, (if bare lone bb sc = true then -62 :: (a0 + 62) :: ps else a0 :: ps) = x :: r := by split <;> exact ⟨_, _, rfl⟩
            have hrl : r1.length ≤ 1000 := by
              have h1 := congrArg List.length hxr
              simp only [List.length_cons] at hpl h1
              split at h1 <;> simp at h1 <;> omega
            rw [hxr] at hus hp1
            repeat' walk1
            · have hfz : figS sc = [figZ sc] := figZ_ge ⟨sc, hci⟩ (by show ¬ figZ sc < 0; omega)
              rw [hfz] at hp1
              refine c_behind (a := x1) (ns := r1) (Sx.less S' (by omega)) (by assumption) (by assumption) (.tail _ (.head _)) hus hrl fun D5 us5 c5 h13 k13 hus5 F13 N13 hD5 => ?_
              repeat' walk1
              rename Fr g _ _ _ => FF
              rename News g _ _ _ => NN
              refine ⟨rfl, _, _, _, (D5, _) :: n₁, rfl, FF, fun p hp => ?_, fun p hp => ?_, D5, us5, c5, rfl, by rw [hp1]; exact hus5, fun p hp => hD5 p (.tail _ (.tail _ hp)), rfl, ⟨_, rfl⟩, rfl, [sc], _, rfl, hlast⟩
              · rcases List.mem_cons.mp hp with rfl | hp
                · exact NN _ (.tail _ (.head _))
                · rcases List.mem_cons.mp hp with rfl | hp
                  · exact NN _ (.head _)
                  · exact NN p (.tail _ (.tail _ (.tail _ hp)))
              · rcases List.mem_cons.mp hp with rfl | hp
                · exact Nat.ne_of_gt (hD5 (I, oI) (.head _))
                · exact hoff p (.tail _ hp)
            · have hfz : figS sc = [] := figZ_lt ⟨sc, hci⟩ (by show figZ sc < 0; omega)
              rw [hfz] at hp1
              rename Fr g _ _ _ => FF
              rename News g _ _ _ => NN
              refine ⟨rfl, _, _, _, (D, _) :: n₁, rfl, FF, NN, fun p hp => ?_, D, us, c, rfl, by rw [hp1]; exact hus, hD, rfl, ⟨_, rfl⟩, rfl, [sc], _, rfl, hlast⟩
              rcases List.mem_cons.mp hp with rfl | hp
              · exact hDI
              · exact hoff p (.tail _ hp)
      · rintro m₂ nx₂ h9 tk9 ⟨D, us, c, rfl, hus, hD, e1, -⟩ F9 N9
        rw [List.take_length] at hus
        exact After.intro F9 N9 ⟨D, us, c, rfl, hus, hD, e1⟩
    · rintro h9 tk9 m₂ nx₂ F9 N9 ⟨D, us, c, rfl, hus, hD, e1⟩
      rw [map1 e1] at F9
      clear F8 N8
      have hne := parts_ne lone q (behind [0] 44) false (by simp [behind])
      have hpl := parts_len lone q (behind [0] 44) false
      have hpo : partsOf q = behind (q.foldl (pstep lone) (behind [0] 44, false)).1 25 := by unfold partsOf; rw [hlo]
      rw [hpo] at h
      generalize (q.foldl (pstep lone) (behind [0] 44, false)).1 = ps at *
      cases ps with
      | nil => exact absurd rfl hne
      | cons a0 ps =>
      repeat' walk1
      refine c_behind (a := a0) (ns := ps) (Sx.less S' (by omega)) F9 N9 (.head _) hus (by simp [behind] at hpl; omega) fun D5 us5 c5 h13 k13 hus5 F13 N13 hD5 => ?_
      refine leaveK_ (news' := (D5, listOf us5.toArray c5) :: n₁) F13 (fun q hq => ?_) fun F7 N7 => ?_
      · rcases List.mem_cons.mp hq with rfl | hq
        · exact N13 _ (.head _)
        · exact N13 q (.tail _ (.tail _ hq))
      · exact h _ _ _ _ _ hus5 F7 N7 (fun p hp => hD5 p (.tail _ hp))
end
end Mine

end

section
open PySem PySem.W PyProof.Rows PySem.Calls
set_option maxRecDepth 100000
namespace Mine
theorem glue_fold (l : List (List Nat)) : ∀ acc : Array Nat, (l.map fun y => (⟨y.toArray⟩ : Str)).foldl (fun acc p => acc ++ (Str.ofString "").cps ++ p.cps) acc = acc ++ l.flatten.toArray := by
  induction l with
  | nil => intro acc; simp
  | cons a l ih =>
    intro acc
    rw [List.map_cons, List.foldl_cons, ih, ← Array.toList_inj]
    have e : (Str.ofString "").cps = #[] := by decide
    simp [e]
theorem join_eq (l : List (List Nat)) : Txt.join (Str.ofString "") (l.map fun y => (⟨y.toArray⟩ : Str)) = ⟨l.flatten.toArray⟩ := by
  unfold Txt.join Builtin.Str.glued
  congr 1
  cases l with
  | nil => rfl
  | cons a l =>
    simp only [List.map_cons, List.drop_succ_cons, List.drop_zero, List.headD_cons]
    rw [glue_fold, ← Array.toList_inj]
    simp
theorem join_len (l : List (List Nat)) : ((l.map fun y => (⟨y.toArray⟩ : Str)).map (·.length)).sum = (l.map List.length).sum := by
  induction l with
  | nil => rfl
  | cons a l ih =>
    simp only [List.map_cons, List.sum_cons, ih]
    rfl
end Mine

end

section
open PySem PySem.W PyProof.Rows PySem.Calls
set_option maxRecDepth 100000
set_option maxHeartbeats 1000000
namespace Mine
theorem TrIs.len {star : Addr} {vs : List Value} {xs : List (Option (List Nat))} (h : TrIs star vs xs) : vs.length = xs.length := by
  induction h with
  | nil => rfl
  | snoc _ _ ih => simp [ih]
theorem TrIs.at {star : Addr} {vs : List Value} {xs : List (Option (List Nat))} (h : TrIs star vs xs) : ∀ {i : Nat} {x}, xs[i]? = some x → ∃ v, vs[i]? = some v ∧ RelT star v x := by
  induction h with
  | nil => intro i x e; simp at e
  | @snoc vs xs v y h r ih =>
    intro i x e
    by_cases hi : i < xs.length
    · rw [List.getElem?_append_left hi] at e
      obtain ⟨v', h1, h2⟩ := ih e
      exact ⟨v', by rw [List.getElem?_append_left (by rw [h.len]; exact hi)]; exact h1, h2⟩
    · have hle : xs.length ≤ i := Nat.le_of_not_lt hi
      rw [List.getElem?_append_right hle] at e
      have hi0 : i - xs.length = 0 := by
        rcases Nat.eq_zero_or_pos (i - xs.length) with h0 | h0
        · exact h0
        · rw [List.getElem?_eq_none (by show 1 ≤ _; omega)] at e; cases e
      rw [hi0] at e
      have e' : y = x := by simpa using e
      subst e'
      exact ⟨v, by rw [List.getElem?_append_right (by rw [h.len]; exact hle), h.len, hi0]; rfl, r⟩
theorem map6 {m : Str → Option Value} {a b c d e f : Str} {va vb vc vd ve vf : Value} (ha : m a = some va) (hb : m b = some vb) (hc : m c = some vc) (hd : m d = some vd) (he : m e = some ve) (hf : m f = some vf) :
    m = fun y => if y = a then some va else if y = b then some vb else if y = c then some vc else if y = d then some vd else if y = e then some ve else if y = f then some vf else m y := by
  funext y; repeat' (split; (rename_i e; rw [e]; assumption))
  rfl
theorem StarsR.three {tl : List (Option (List Nat))} {o : List (List Nat)} (h : StarsR tl o) : (tl = [] ∧ o = []) ∨ (tl = [none] ∧ o = [[46, 42]]) ∨
    ∃ ys t2, ys ≠ [] ∧ tl = none :: (ys.map some ++ t2) ∧ ((t2 = [] ∧ o = [[46, 42], ys.flatten]) ∨ (∃ r o', t2 = none :: r ∧ StarsR t2 o' ∧ o = ([40, 63, 62, 46, 42, 63] ++ ys.flatten ++ [41]) :: o')) := by
  cases h with
  | nil => exact .inl ⟨rfl, rfl⟩
  | last => exact .inr (.inl ⟨rfl, rfl⟩)
  | @fin ys hy => exact .inr (.inr ⟨ys, [], hy, by rw [List.append_nil], .inl ⟨rfl, rfl⟩⟩)
  | @more ys r o' hy h2 => exact .inr (.inr ⟨ys, none :: r, hy, rfl, .inr ⟨r, o', rfl, h2, rfl⟩⟩)
theorem fresh_of {h₀ h : Heap} {L : Addr} {l : List (Addr × Obj)} (N : News h₀ L h l) : ∀ p ∈ l, p.1 < h.objs.size := fun p hp => Heap.lt_size (N p hp).1
theorem StarsR.head {l : List (Option (List Nat))} {o : List (List Nat)} (h : StarsR l o) : ∀ y r, l ≠ some y :: r := by
  cases h <;> intro y r e <;> cases e
noncomputable def strA (acc : List (List Nat)) : List Str := acc.map fun y => (⟨y.toArray⟩ : Str)
theorem dropAt {xs : List (Option (List Nat))} {i : Nat} {x : Option (List Nat)} {r : List (Option (List Nat))} (h : xs.drop i = x :: r) : xs[i]? = some x ∧ xs.drop (i + 1) = r ∧ i < xs.length := by
  have h1 : xs[i]? = some x := by have := congrArg List.head? h; simpa using this
  exact ⟨h1, by rw [← List.drop_drop, h]; rfl, (List.getElem?_eq_some_iff.mp h1).1⟩
local macro_rules | `(tactic| walk_at "execs cons") => `(tactic| with_reducible refine holdWhile ?_)
local macro_rules | `(tactic| walk_at "eval Name") => `(tactic| first
  | ((with_reducible show wpAny _ _ (eval (PySem.Expr.Name (Str.ofString "len") _) _) _ _ _); refine Sx.blt (by assumption) (by assumption) (n_len _) (by boot_fast) (by decide) ?_))
local macro_rules | `(tactic| walk_at "callWith ref") => `(tactic| (refine callWith_B (by assumption) (.head _) ?_))
local macro_rules | `(tactic| walk_at "HeldB") => `(tactic| refine HeldB.intro (by assumption) (.head _) ?_)
local macro_rules | `(tactic| walk_at "getAttr ref") => `(tactic| (refine get_append_N (by assumption) (by assumption) (.head _) ?_; intro _ _ _))
local macro_rules | `(tactic| walk_at "unpackItems ref") => `(tactic| (refine unpackItemsN_ (by assumption) (by assumption) (News.isTup (by assumption) (by first | exact .head _ | exact .tail _ (.head _) | exact .tail _ (.tail _ (.head _)))) (Sx.hh (by assumption)) (by rfl) ?_; intro _ _ _))
local macro_rules | `(tactic| walk_at "call ref") => `(tactic| (refine call_append_N (by assumption) (by assumption) (.head _) (Upd.tail (by assumption) (Upd.head (by assumption))) ?_ (by first | assumption | (rw [sizeLine_eq]; simp; omega)); intro _ _ _))
local macro_rules | `(tactic| walk_at "call builtin:list.append") => `(tactic| (refine append_head (by assumption) (by assumption) (by assumption) ?_ (by assumption); intro _ _ _))
local macro_rules | `(tactic| walk_at "subscriptTail Name Name ref int") => `(tactic| first
  | (refine subscriptTail_builtin (T := "list") ⟨_, (News.get (by assumption) (.tail _ (.tail _ (by assumption)))), rfl⟩ slot_list_getitem.lookup ?_; refine wpAny_getItem_list (News.isList (by assumption) (.tail _ (.tail _ (by assumption)))) (by omega) (by omega) (by assumption) ?_)
  | (refine subscriptTail_builtin (T := "list") ⟨_, (News.get (by assumption) (.tail _ (.tail _ (.tail _ (by assumption))))), rfl⟩ slot_list_getitem.lookup ?_; refine wpAny_getItem_list (News.isList (by assumption) (.tail _ (.tail _ (.tail _ (by assumption))))) (by omega) (by omega) (by assumption) ?_))
local macro_rules | `(tactic| walk_at "compareOp IsNot str ref") => `(tactic| refine wpAny_isNot_other rfl (by simp) ?_)
local macro_rules | `(tactic| walk_at "formatField") => `(tactic| (refine SB.field_str ?_ (by assumption); intro _ _))
local macro_rules | `(tactic| walk_at "formatField str") => `(tactic| (refine SB.field_str ?_ (by assumption); intro _ _))
local macro_rules | `(tactic| walk_at "call builtin:len") => `(tactic| refine PyProof.Rows.len_list (News.isList (by assumption) (.tail _ (.tail _ (by assumption)))) (by assumption) ?_)
section
variable {prog : Program} {w : World} {A : Around} {E Q : Value → Shared → Prop} {s : Shared} {h₀ : Heap} {L : Addr} {m : Str → Option Value} {news : List (Addr × Obj)}
theorem joinS_eq (ys : List (List Nat)) : Str.empty ++ Str.ofString "(?s:" ++ (⟨ys.flatten.toArray⟩ : Str) ++ Str.ofString ")\\Z" = ⟨(joined ys).toArray⟩ := by
  have e1 : Str.empty ++ Str.ofString "(?s:" = (⟨([40, 63, 115, 58] : List Nat).toArray⟩ : Str) := by decide
  have e2 : Str.ofString ")\\Z" = (⟨([41, 92, 90] : List Nat).toArray⟩ : Str) := by decide
  rw [e1, e2]
  have app : ∀ x y : List Nat, (⟨x.toArray⟩ : Str) ++ (⟨y.toArray⟩ : Str) = ⟨(x ++ y).toArray⟩ := fun x y => by
    show Str.mk (x.toArray ++ y.toArray) = _
    rw [List.append_toArray]
  rw [app, app]; rfl
theorem fxS_eq (y : List Nat) : Str.empty ++ Str.ofString "(?>.*?" ++ (⟨y.toArray⟩ : Str) ++ Str.ofString ")" = ⟨([40, 63, 62, 46, 42, 63] ++ y ++ [41]).toArray⟩ := by
  have e1 : Str.empty ++ Str.ofString "(?>.*?" = (⟨([40, 63, 62, 46, 42, 63] : List Nat).toArray⟩ : Str) := by decide
  have e2 : Str.ofString ")" = (⟨([41] : List Nat).toArray⟩ : Str) := by decide
  rw [e1, e2]
  have app : ∀ x y : List Nat, (⟨x.toArray⟩ : Str) ++ (⟨y.toArray⟩ : Str) = ⟨(x ++ y).toArray⟩ := fun x y => by
    show Str.mk (x.toArray ++ y.toArray) = _
    rw [List.append_toArray]
  rw [app, app]
theorem strApp_le (x y : Str) : x.length ≤ (x ++ y).length := by
  show x.cps.size ≤ (x.cps ++ y.cps).size
  rw [Array.size_append]; omega
theorem joinS_len {ys : List (List Nat)} (hs : (ys.map List.length).sum ≤ 1000000) : (⟨(joined ys).toArray⟩ : Str).length ≤ sizeLine := by
  show (joined ys).toArray.size ≤ _
  unfold joined
  rw [List.size_toArray, sizeLine_eq]
  simp only [List.length_append, List.length_flatten, List.length_cons, List.length_nil]
  omega
theorem c_join {ys0 out : List (List Nat)} {tail : List (Option (List Nat))} {star lp : Addr} {vs : List Value} {k : Nat} (S : Sx w A h₀ L 7) (F : Fr h₀ L s.heap m) (N : News h₀ L s.heap news) (hm : (lp, listOf vs.toArray k) ∈ news) (hT : TrIs star vs (ys0.map some ++ tail)) (hR : StarsR tail out)
    (hy : (ys0.map some ++ tail).length ≤ 1000) (hc : (ys0 ++ out).length ≤ 1000) (hs : ((ys0 ++ out).map List.length).sum ≤ 100000)
    (h : ∀ t' h' tk, Fr h₀ L h' m → News h₀ L h' news → Q (.str ⟨(joined (ys0 ++ out)).toArray⟩ t') { s with heap := h', toks := tk }) :
    wpAny (model prog w) A (call (.ref 76) [.ref lp, .ref star]) Q E s := by
  refine wpAny_call (enter (k := 6) (binds := [(Str.ofString "inp", .ref lp), (Str.ofString "STAR", .ref star)]) S F N rfl rfl (BindsTo.of_eq rfl) (locs rfl) rfl rfl rfl (by decide) fun g L' h₁ S' F' N' kp => ?_)
  generalize hxs : ys0.map some ++ tail = xs at hT hy
  have hvl : vs.length = xs.length := hT.len
  have hvs : (vs.toArray.size : Int) = xs.length := by rw [List.size_toArray, hvl]
  have hfit : (vs.toArray.size : Int) < 2 ^ 63 := by omega
  iterate 5 walk1
  rename Fr g L' _ _ => FF
  rename News g L' _ _ => NN
  generalize hlp : Array.size (Heap.objs _) = rl at FF NN ⊢
  have hfr : ∀ q ∈ news, q.1 ≠ rl := fun q hq e => Nat.lt_irrefl _ ((hlp.trans e.symm) ▸ Heap.lt_size (N' q hq).1)
  clear hlp
  iterate 6 walk1
  rename Fr g L' _ _ => FG
  rename News g L' _ _ => NG
  generalize Array.size (Heap.objs _) = bp at FG NG ⊢
  have hbl : bp ≠ rl := by
    intro e
    have h1 := (NG _ (.head _)).1
    have h2 := (NG _ (.tail _ (.head _))).1
    rw [e] at h1
    rw [h1] at h2
    have h3 := congrArg Obj.cls (Option.some.inj h2)
    exact absurd h3 (by show ¬ (Value.type "builtin_function_or_method" = Value.type "list"); simp)
  clear FF NN
  repeat' walk1
  rename Fr g L' _ _ => FW
  rename News g L' _ _ => NW
  refine Hold.intro ?_
  refine stage (h₀ := g) (L := L') (J := fun m nx => ∃ (i : Nat) (ws : List Value) (k' : Nat), xs.drop i = tail ∧ i ≤ xs.length ∧ StrsAre ws (strA ys0) ∧ nx = (bp, boundA rl) :: (rl, listOf ws.toArray k') :: news ∧
    (∃ t, m (Str.ofString "i") = some (.int i t)) ∧ (∃ t, m (Str.ofString "n") = some (.int (vs.toArray.size : Nat) t)) ∧ m (Str.ofString "inp") = some (.ref lp) ∧ m (Str.ofString "STAR") = some (.ref star) ∧ m (Str.ofString "add") = some (.ref bp) ∧ m (Str.ofString "res") = some (.ref rl)) ?_ ?_
  · refine While_inv2 (n₀ := ys0.length) (fun n m nx => ∃ (i : Nat) (ws : List Value) (k' : Nat), i ≤ ys0.length ∧ n = ys0.length - i ∧ StrsAre ws (strA (ys0.take i)) ∧ nx = (bp, boundA rl) :: (rl, listOf ws.toArray k') :: news ∧
      (∃ t, m (Str.ofString "i") = some (.int i t)) ∧ (∃ t, m (Str.ofString "n") = some (.int (vs.toArray.size : Nat) t)) ∧ m (Str.ofString "inp") = some (.ref lp) ∧ m (Str.ofString "STAR") = some (.ref star) ∧ m (Str.ofString "add") = some (.ref bp) ∧ m (Str.ofString "res") = some (.ref rl))
      FW (fun q hq => NW q (.tail _ hq)) ⟨0, [], 0, Nat.zero_le _, rfl, .nil, rfl, ⟨_, rfl⟩, ⟨_, rfl⟩, rfl, rfl, rfl, rfl⟩ ?_
    rintro n m₁ n₁ h2 tk2 F2 N2 ⟨i, ws, k', hi, hn, hW, rfl, ⟨t1, e1⟩, ⟨t2, e2⟩, e3, e4, e5, e6⟩
    rw [map6 e1 e2 e3 e4 e5 e6] at F2
    have hwl : ws.length = i := by
      have := hW.length
      rw [this]; unfold strA; rw [List.length_map, List.length_take]; omega
    have hxl : xs.length = ys0.length + tail.length := by rw [← hxs]; simp
    have hsz : ws.toArray.size ≤ sizeLine := by rw [List.size_toArray, hwl, sizeLine_eq]; omega
    clear FG NG FW NW
    rcases Nat.lt_or_eq_of_le hi with hlt | heq
    · obtain ⟨v, hv, hRv⟩ := hT.at (i := i) (x := some ys0[i]) (by rw [← hxs, List.getElem?_append_left (by simpa using hlt)]; simp [hlt])
      obtain ⟨ty, rfl⟩ := hRv
      have hv' : vs.toArray[((i : Nat) : Int).toNat]? = some (.str ⟨ys0[i].toArray⟩ ty) := by simpa using hv
      repeat' walk1
      · rename Fr g L' _ _ => FE
        rename News g L' _ _ => NE
        refine ⟨_, _, _, _, ys0.length - (i + 1), rfl, FE, NE, by omega, i + 1, _, _, by omega, rfl, ?_, by rw [List.push_toArray], ⟨_, rfl⟩, ⟨_, rfl⟩, rfl, rfl, rfl, rfl⟩
        unfold strA
        rw [List.take_add_one, List.getElem?_eq_getElem hlt, List.map_append]
        exact PyProof.Rows.StrsAre.append' hW (.cons _ _ .nil)
      · exfalso; omega
    · have hdr : xs.drop i = tail := by rw [heq, ← hxs, List.drop_append_of_le_length (by simp), List.drop_of_length_le (by simp)]; rfl
      rw [heq, List.take_length] at hW
      have hJ : ∃ (i : Nat) (ws : List Value) (k' : Nat), xs.drop i = tail ∧ i ≤ xs.length ∧ StrsAre ws (strA ys0) ∧ (bp, boundA rl) :: (rl, listOf ws.toArray k') :: news = (bp, boundA rl) :: (rl, listOf ws.toArray k') :: news := ⟨i, ws, k', hdr, by omega, hW, rfl⟩
      cases ht : tail with
      | nil =>
        rw [ht] at hxl
        have hii : (i : Int) = (vs.toArray.size : Nat) := by rw [List.size_toArray, hvl]; simp at hxl; omega
        repeat' walk1
        · exfalso; omega
        · exact After.intro F2 N2 ⟨i, ws, k', hdr.trans ht, by omega, hW, rfl, ⟨_, rfl⟩, ⟨_, rfl⟩, rfl, rfl, rfl, rfl⟩
      | cons x r =>
        have hx0 : x = none := by
          cases x with
          | none => rfl
          | some y => exact absurd ht (hR.head y r)
        subst hx0
        obtain ⟨hx1, hx2, hx3⟩ := dropAt (hdr.trans ht)
        obtain ⟨v, hv, hRv⟩ := hT.at hx1
        have hR' : v = .ref star := hRv
        subst hR'
        have hv' : vs.toArray[((i : Nat) : Int).toNat]? = some (.ref star) := by simpa using hv
        repeat' walk1
        all_goals exact After.intro F2 N2 ⟨i, ws, k', hdr.trans ht, by omega, hW, rfl, ⟨_, rfl⟩, ⟨_, rfl⟩, rfl, rfl, rfl, rfl⟩
  · rintro h2 tk2 m₁ n₁ F2 N2 ⟨i, ws, k', hdr, hi, hW, rfl, ⟨t1, e1⟩, ⟨t2, e2⟩, e3, e4, e5, e6⟩
    clear FG NG FW NW
    rw [map6 e1 e2 e3 e4 e5 e6] at F2
    refine stage (h₀ := g) (L := L') (J := fun m nx => ∃ (ws : List Value) (k' : Nat), StrsAre ws (strA (ys0 ++ out)) ∧ nx = (bp, boundA rl) :: (rl, listOf ws.toArray k') :: news ∧
      (∃ t, m (Str.ofString "i") = some (.int (vs.toArray.size : Nat) t)) ∧ (∃ t, m (Str.ofString "n") = some (.int (vs.toArray.size : Nat) t)) ∧ m (Str.ofString "inp") = some (.ref lp) ∧ m (Str.ofString "STAR") = some (.ref star) ∧ m (Str.ofString "add") = some (.ref bp) ∧ m (Str.ofString "res") = some (.ref rl)) ?_ ?_
    · refine While_inv2 (n₀ := xs.length - i) (fun n m nx => ∃ (i : Nat) (acc o : List (List Nat)) (tl : List (Option (List Nat))) (ws : List Value) (k' : Nat), xs.drop i = tl ∧ i ≤ xs.length ∧ n = xs.length - i ∧ StarsR tl o ∧ acc ++ o = ys0 ++ out ∧ StrsAre ws (strA acc) ∧ nx = (bp, boundA rl) :: (rl, listOf ws.toArray k') :: news ∧
        (∃ t, m (Str.ofString "i") = some (.int i t)) ∧ (∃ t, m (Str.ofString "n") = some (.int (vs.toArray.size : Nat) t)) ∧ m (Str.ofString "inp") = some (.ref lp) ∧ m (Str.ofString "STAR") = some (.ref star) ∧ m (Str.ofString "add") = some (.ref bp) ∧ m (Str.ofString "res") = some (.ref rl))
        F2 N2 ⟨i, ys0, out, tail, ws, k', hdr, hi, rfl, hR, rfl, hW, rfl, ⟨_, rfl⟩, ⟨_, rfl⟩, rfl, rfl, rfl, rfl⟩ ?_
      clear hdr hi hW e1 e2 e3 e4 e5 e6 F2 N2 hR
      rintro n m₁ n₁ h2 tk2 F2 N2 ⟨i, acc, o, tl, ws, k', hdr, hi, hn, hR, hao, hW, rfl, ⟨t1, e1⟩, ⟨t2, e2⟩, e3, e4, e5, e6⟩
      rw [map6 e1 e2 e3 e4 e5 e6] at F2
      have hwl : ws.length ≤ 1000 := by
        have h3 := congrArg List.length hao
        rw [List.length_append] at h3
        have := hW.length
        rw [this]; unfold strA; rw [List.length_map]; omega
      have hsz : ws.toArray.size ≤ sizeLine := by rw [List.size_toArray, sizeLine_eq]; omega
      rcases hR.three with ⟨rfl, rfl⟩ | ⟨rfl, rfl⟩ | ⟨ys, t2, hys, rfl, hcase⟩
      · have hii : (i : Int) = (vs.toArray.size : Nat) := by
          have := List.drop_eq_nil_iff.mp hdr
          rw [List.size_toArray, hvl]; omega
        rw [List.append_nil] at hao
        rw [hao] at hW
        rw [hii] at F2
        repeat' walk1
        · exfalso; omega
        · exact After.intro F2 N2 ⟨ws, k', hW, rfl, ⟨_, rfl⟩, ⟨_, rfl⟩, rfl, rfl, rfl, rfl⟩
      · obtain ⟨hx1, hx2, hx3⟩ := dropAt hdr
        obtain ⟨v, hv, hRv⟩ := hT.at hx1
        have hR' : v = .ref star := hRv
        subst hR'
        have hv' : vs.toArray[((i : Nat) : Int).toNat]? = some (.ref star) := by simpa using hv
        have hil : i + 1 = xs.length := by have := List.drop_eq_nil_iff.mp hx2; omega
        have hi1 : (i : Int) + 1 = (vs.toArray.size : Nat) := by rw [List.size_toArray, hvl]; omega
        repeat' walk1
        · dsimp only [WhileStep2]
          rename Fr g L' _ _ => FE
          rename News g L' _ _ => NE
          rw [hi1] at FE
          refine After.intro FE NE ⟨_, _, ?_, by rw [List.push_toArray], ⟨_, rfl⟩, ⟨_, rfl⟩, rfl, rfl, rfl, rfl⟩
          rw [← hao]
          unfold strA
          rw [List.map_append]
          exact PyProof.Rows.StrsAre.append' hW (.cons _ _ .nil)
        all_goals (exfalso; omega)
      · obtain ⟨hx1, hx2, hx3⟩ := dropAt hdr
        obtain ⟨v, hv, hRv⟩ := hT.at hx1
        have hR' : v = .ref star := hRv
        subst hR'
        have hv' : vs.toArray[((i : Nat) : Int).toNat]? = some (.ref star) := by simpa using hv
        have hy0 : 0 < ys.length := List.length_pos_iff.mpr hys
        have hlen : i + 1 + ys.length + t2.length = xs.length := by
          have h1 := congrArg List.length hx2
          rw [List.length_drop, List.length_append, List.length_map] at h1
          omega
        have item : ∀ j (hj : j < ys.length), ∃ ty, vs.toArray[i + 1 + j]? = some (.str ⟨ys[j].toArray⟩ ty) := by
          intro j hj
          have h1 : xs[i + 1 + j]? = some (some ys[j]) := by
            have h2 : (xs.drop (i + 1))[j]? = some (some ys[j]) := by rw [hx2, List.getElem?_append_left (by simpa using hj)]; simp [hj]
            rw [List.getElem?_drop] at h2; exact h2
          obtain ⟨u, hu, hRu⟩ := hT.at h1
          obtain ⟨ty, rfl⟩ := hRu
          exact ⟨ty, by simpa using hu⟩
        have past : ∀ r, t2 = none :: r → vs.toArray[i + 1 + ys.length]? = some (.ref star) := by
          intro r hr
          have h1 : xs[i + 1 + ys.length]? = some none := by
            have h2 : (xs.drop (i + 1))[ys.length]? = some none := by rw [hx2, List.getElem?_append_right (by simp)]; simp [hr]
            rw [List.getElem?_drop] at h2; exact h2
          obtain ⟨u, hu, hRu⟩ := hT.at h1
          have hRu' : u = .ref star := hRu
          subst hRu'
          simpa using hu
        obtain ⟨ty, hu'⟩ := item 0 hy0
        have hu2 : vs.toArray[(((i : Nat) : Int) + 1).toNat]? = some (.str ⟨ys[0].toArray⟩ ty) := by
          have e : (((i : Nat) : Int) + 1).toNat = i + 1 + 0 := by omega
          rw [e]; exact hu'
        repeat' walk1
        all_goals first | (exfalso; omega) | skip
        rename Fr g L' _ _ => FE
        rename News g L' _ _ => NE
        have hfl0 := fresh_of (l := (bp, boundA rl) :: (rl, listOf ws.toArray k') :: news) (by assumption)
        generalize hX : Array.size (Heap.objs _) = fl at FE NE ⊢
        have hfl : ∀ p ∈ (bp, boundA rl) :: (rl, listOf ws.toArray k') :: news, p.1 ≠ fl := fun p hp => Nat.ne_of_lt (Nat.lt_of_lt_of_eq (hfl0 p hp) hX)
        clear hfl0 hX hu' hu2
        refine Hold.intro ?_
        refine stage (h₀ := g) (L := L') (J := fun m nx => ∃ (fx : List Value) (kf : Nat), StrsAre fx (strA ys) ∧ nx = (fl, listOf fx.toArray kf) :: (bp, boundA rl) :: (rl, listOf ws.toArray k') :: news ∧
          (∃ t, m (Str.ofString "i") = some (.int ((i + 1 + ys.length : Nat) : Int) t)) ∧ (∃ t, m (Str.ofString "n") = some (.int (vs.toArray.size : Nat) t)) ∧ m (Str.ofString "inp") = some (.ref lp) ∧ m (Str.ofString "STAR") = some (.ref star) ∧ m (Str.ofString "add") = some (.ref bp) ∧ m (Str.ofString "res") = some (.ref rl) ∧ m (Str.ofString "fixed") = some (.ref fl)) ?_ ?_
        · refine While_inv2 (n₀ := ys.length) (fun n m nx => ∃ (j : Nat) (fx : List Value) (kf : Nat), j ≤ ys.length ∧ n = ys.length - j ∧ StrsAre fx (strA (ys.take j)) ∧ nx = (fl, listOf fx.toArray kf) :: (bp, boundA rl) :: (rl, listOf ws.toArray k') :: news ∧
            (∃ t, m (Str.ofString "i") = some (.int ((i + 1 + j : Nat) : Int) t)) ∧ (∃ t, m (Str.ofString "n") = some (.int (vs.toArray.size : Nat) t)) ∧ m (Str.ofString "inp") = some (.ref lp) ∧ m (Str.ofString "STAR") = some (.ref star) ∧ m (Str.ofString "add") = some (.ref bp) ∧ m (Str.ofString "res") = some (.ref rl) ∧ m (Str.ofString "fixed") = some (.ref fl))
            FE NE ⟨0, [], 0, Nat.zero_le _, rfl, .nil, rfl, ⟨_, rfl⟩, ⟨_, rfl⟩, rfl, rfl, rfl, rfl, rfl⟩ ?_
          rintro n₂ m₂ nx₂ h3 tk3 F3 N3 ⟨j, fx, kf, hj, hn2, hfx, rfl, ⟨t3, d1⟩, ⟨t4, d2⟩, d3, d4, d5, d6, d7⟩
          rw [map7 d1 d2 d3 d4 d5 d6 d7] at F3
          clear FE NE F2 N2
          have hfxl : fx.length = j := by
            have := hfx.length
            rw [this]; unfold strA; rw [List.length_map, List.length_take]; omega
          have hszf : fx.toArray.size ≤ sizeLine := by rw [List.size_toArray, hfxl, sizeLine_eq]; omega
          rcases Nat.lt_or_eq_of_le hj with hjl | hje
          · obtain ⟨ty2, hu3⟩ := item j hjl
            have hu4 : vs.toArray[(((i + 1 + j : Nat) : Int)).toNat]? = some (.str ⟨ys[j].toArray⟩ ty2) := by rw [Int.toNat_natCast]; exact hu3
            repeat' walk1
            all_goals first | (exfalso; omega) | skip
            rename Fr g L' _ _ => FF
            rename News g L' _ _ => NN
            refine ⟨_, _, _, _, ys.length - (j + 1), rfl, FF, NN, by omega, j + 1, _, _, by omega, rfl, ?_, by rw [List.push_toArray], ⟨_, rfl⟩, ⟨_, rfl⟩, rfl, rfl, rfl, rfl, rfl⟩
            unfold strA
            rw [List.take_add_one, List.getElem?_eq_getElem hjl, List.map_append]
            exact PyProof.Rows.StrsAre.append' hfx (.cons _ _ .nil)
          · subst hje
            rw [List.take_length] at hfx
            rcases hcase with ⟨rfl, ho⟩ | ⟨r, o', rfl, hR2, ho⟩
            · have hii : ((i + 1 + ys.length : Nat) : Int) = (vs.toArray.size : Nat) := by rw [List.size_toArray, hvl]; simp at hlen; omega
              repeat' walk1
              all_goals first | (exfalso; omega) | exact After.intro F3 N3 ⟨fx, kf, hfx, rfl, ⟨_, rfl⟩, ⟨_, rfl⟩, rfl, rfl, rfl, rfl, rfl⟩
            · have hu4 : vs.toArray[(((i + 1 + ys.length : Nat) : Int)).toNat]? = some (.ref star) := by rw [Int.toNat_natCast]; exact past r rfl
              repeat' walk1
              all_goals exact After.intro F3 N3 ⟨fx, kf, hfx, rfl, ⟨_, rfl⟩, ⟨_, rfl⟩, rfl, rfl, rfl, rfl, rfl⟩
        · rintro h3 tk3 m₂ nx₂ F3 N3 ⟨fx, kf, hfx, rfl, ⟨t3, d1⟩, ⟨t4, d2⟩, d3, d4, d5, d6, d7⟩
          rw [map7 d1 d2 d3 d4 d5 d6 d7] at F3
          clear FE NE F2 N2
          have hsumo : ((acc ++ o).map List.length).sum ≤ 100000 := by rw [hao]; exact hs
          have hysum : (ys.map List.length).sum ≤ 100000 := by
            rcases hcase with ⟨rfl, rfl⟩ | ⟨r, o', rfl, hR2, rfl⟩
            · rw [List.map_append, List.sum_append] at hsumo
              simp only [List.map_cons, List.map_nil, List.sum_cons, List.sum_nil, List.length_flatten] at hsumo
              omega
            · rw [List.map_append, List.sum_append] at hsumo
              simp only [List.map_cons, List.sum_cons, List.length_append, List.length_flatten] at hsumo
              omega
          iterate 9 walk1
          refine PyProof.Rows.join_list (ys := strA ys) (News.isList N3 (.head _)) (by exact hfx) ?_ fun t8 k8 => ?_
          · show ((ys.map fun y => (⟨y.toArray⟩ : Str)).map (·.length)).sum + _ * 0 ≤ _
            rw [join_len]; omega
          rw [show strA ys = ys.map fun y => (⟨y.toArray⟩ : Str) from rfl, join_eq]
          have hfxz : (⟨ys.flatten.toArray⟩ : Str).length ≤ 100000 := by
            show ys.flatten.toArray.size ≤ _
            rw [List.size_toArray, List.length_flatten]; exact hysum
          have N4 : News g L' h3 ((bp, boundA rl) :: (rl, listOf ws.toArray k') :: news) := fun p hp => N3 p (.tail _ hp)
          clear N3
          rcases hcase with ⟨rfl, rfl⟩ | ⟨r, o', rfl, hR2, rfl⟩
          · have hii : ((i + 1 + ys.length : Nat) : Int) = (vs.toArray.size : Nat) := by rw [List.size_toArray, hvl]; simp at hlen; omega
            have hdr2 : xs.drop (i + 1 + ys.length) = [] := List.drop_eq_nil_iff.mpr (by simp at hlen; omega)
            repeat' walk1
            all_goals first | (exfalso; omega) | skip
            rename Fr g L' _ _ => FF
            rename News g L' _ _ => NN
            refine ⟨_, _, _, _, xs.length - (i + 1 + ys.length), rfl, FF, NN, by omega, i + 1 + ys.length, acc ++ [[46, 42], ys.flatten], [], [], ws ++ [_] ++ [_], _, hdr2, by omega, rfl, .nil, by rw [List.append_nil]; exact hao, ?_, by rw [List.push_toArray, List.push_toArray], ⟨_, rfl⟩, ⟨_, rfl⟩, rfl, rfl, rfl, rfl⟩
            unfold strA
            rw [show acc ++ [[46, 42], ys.flatten] = acc ++ [[46, 42]] ++ [ys.flatten] by simp, List.map_append, List.map_append]
            exact PyProof.Rows.StrsAre.append' (PyProof.Rows.StrsAre.append' hW (.cons _ _ .nil)) (.cons _ _ .nil)
          · have hdr2 : xs.drop (i + 1 + ys.length) = none :: r := by
              rw [← List.drop_drop, hx2, List.drop_append_of_le_length (by simp), List.drop_of_length_le (by simp)]; rfl
            have hne : ((i + 1 + ys.length : Nat) : Int) ≠ (vs.toArray.size : Nat) := by rw [List.size_toArray, hvl]; simp at hlen; omega
            have hz1 : (⟨ys.flatten.toArray⟩ : Str).length ≤ sizeLine := by rw [sizeLine_eq]; omega
            repeat' walk1
            all_goals first | (exfalso; omega) | skip
            rename Fr g L' _ _ => FF
            rename News g L' _ _ => NN
            rw [fxS_eq, List.push_toArray] at NN
            refine ⟨_, _, _, _, xs.length - (i + 1 + ys.length), rfl, FF, NN, by omega, i + 1 + ys.length, acc ++ [[40, 63, 62, 46, 42, 63] ++ ys.flatten ++ [41]], o', none :: r, _, _, hdr2, by omega, rfl, hR2, by rw [List.append_assoc]; exact hao, ?_, rfl, ⟨_, rfl⟩, ⟨_, rfl⟩, rfl, rfl, rfl, rfl⟩
            unfold strA
            rw [List.map_append]
            exact PyProof.Rows.StrsAre.append' hW (.cons _ _ .nil)
    · rintro h3 tk3 m₂ nx₂ F3 N3 ⟨ws, k', hW, rfl, ⟨t1, e1⟩, ⟨t2, e2⟩, e3, e4, e5, e6⟩
      rw [map6 e1 e2 e3 e4 e5 e6] at F3
      clear F2 N2
      repeat' walk1
      all_goals first | exact beq_self_eq_true _ | skip
      rename Fr g L' _ _ => F5
      rename News g L' _ _ => N5
      refine PyProof.Rows.join_list (ys := strA (ys0 ++ out)) (News.isList N5 (.tail _ (.head _))) (by exact hW) ?_ fun t8 k8 => ?_
      · show (((ys0 ++ out).map fun y => (⟨y.toArray⟩ : Str)).map (·.length)).sum + _ * 0 ≤ _
        rw [join_len]; omega
      rw [show strA (ys0 ++ out) = (ys0 ++ out).map fun y => (⟨y.toArray⟩ : Str) from rfl, join_eq]
      have hfl2 : (⟨(ys0 ++ out).flatten.toArray⟩ : Str).length ≤ sizeLine := by
        show (ys0 ++ out).flatten.toArray.size ≤ _
        rw [List.size_toArray, List.length_flatten, sizeLine_eq]; omega
      have hz := joinS_len (ys := ys0 ++ out) (by omega)
      repeat' ((fail_if_success (refine PyProof.Rows.joinParts_nil ?_ ?_)); walk1)
      · refine Nat.le_trans ?_ hz
        rw [← joinS_eq]
        exact strApp_le _ _
      · rw [joinS_eq]; exact hz
      rw [joinS_eq]
      repeat' walk1
      rename Fr g L' _ _ => FZ
      rename News g L' _ _ => NZ
      refine leaveK_ FZ (fun q hq => NZ q (.tail _ (.tail _ hq))) fun F4 N4 => ?_
      exact h _ _ _ F4 N4
end
end Mine

end

section
open PySem PySem.W PyProof.Rows PySem.Calls
set_option maxRecDepth 100000
set_option maxHeartbeats 1000000
namespace Mine
open PySem.Builtin
theorem ob_mro : mroOf (.type "object") = pure [.type "object"] := by rw [mroOf_type]; kernel_rfl
theorem ob_lookup_new : typeLookup (.type "object") "__new__" = pure (some (.builtin "object.__new__")) := by rw [typeLookup_type, builtinLookup_eq_fast]; kernel_rfl
theorem ob_slot_init : Slot "object" "__init__" "object.__init__" :=
  .of (owner := "object") (n := "__init__") (by rw [typeLookup_type, builtinLookup_eq_fast]; kernel_rfl) (by decide +kernel) (by decide +kernel) (by decide +kernel)
    (by first | exact .inl (by decide +kernel) | exact .inr (by decide +kernel)) (by rw [isSubtype_type]; kernel_rfl)
theorem ob_called : TypeCalled "object" "object.__new__" "object.__init__" :=
  ⟨by decide +kernel, by decide +kernel, ⟨_, _, ob_mro⟩, madeBy_type ob_mro ob_lookup_new (by decide +kernel), by decide +kernel, by rw [isSubtype_type]; kernel_rfl, ob_slot_init⟩
theorem ob_typeCall : checkTypeCall "object" ⟨[], []⟩ = pure () := by kernel_rfl
theorem ob_newCall : checkBuiltinCall "object.__new__" ⟨[.type "object"], []⟩ = pure () := by kernel_rfl
theorem ob_isType : isType (.type "object") = pure true := by first | rfl | kernel_rfl | (unfold isType; rw [isSubtype_type]; kernel_rfl)
noncomputable def objO : Obj := { cls := .type "object" }
section
variable {prog : Program} {w : World} {A : Around} {E Q : Value → Shared → Prop} {s : Shared} {h₀ : Heap} {L : Addr} {m : Str → Option Value} {news : List (Addr × Obj)}
theorem ob_text : Builtin.«object.__new__» ⟨[.type "object"], []⟩ = (do let v ← newObj (.type "object") Data.plain none; ret v) := by kernel_rfl
theorem ob_new {P : PySem.Fin → Shared → Prop} (h : P (.done (.ret (.ref s.heap.objs.size))) { s with heap := s.heap.push objO }) :
    wpAny (model prog w) A (Builtin.«object.__new__» ⟨[.type "object"], []⟩) P E s := by
  rw [ob_text]
  repeat (any_goals (first | assumption | wp_step))
theorem entry_object_new' : entryFor table "object.__new__" = some Builtin.«object.__new__» := entryFor_of_tree (by kernel_rfl)
theorem args_ob_init (a : Value) : argsOk "object.__init__" ⟨[a], []⟩ := by unfold argsOk; kernel_rfl
theorem call_object {Q : Value → Shared → Prop} (F : Fr h₀ L s.heap m) (N : News h₀ L s.heap news)
    (h : ∀ h', Fr h₀ L h' m → News h₀ L h' ((s.heap.objs.size, objO) :: news) → Q (.ref s.heap.objs.size) { s with heap := h' }) :
    wpAny (model prog w) A (call (.type "object") []) Q E s := by
  refine callType_codes (Q₁ := fun obj s₁ => s₁.TypeIs obj "object" ∧ Q obj s₁) ob_called ob_typeCall PySem.F.entry_object_init ?_ fun obj s₁ h₁ => ?_
  · refine codeAny_call_builtin_at (Code.quiet_builtin _ (by decide +kernel)) entry_object_new' (wpAny_of_eq (a := ()) ob_newCall ?_)
    refine ob_new ?_
    exact ⟨⟨_, Heap.get?_push_size _ rfl, rfl⟩, h _ (F.push _) (N.push F _)⟩
  · exact ⟨h₁.1, args_ob_init obj, wpAny_pure ⟨rfl, h₁.2⟩⟩
end
end Mine

end

section
open PySem PySem.W PyProof.Rows PySem.Calls
set_option maxRecDepth 100000
set_option maxHeartbeats 1000000
namespace Mine
theorem g_utr (P : Params) : nsIn (K P) mainGlobals (Str.ofString "_translate") = some (some (.ref 69)) := by kernel_rfl
theorem g_join (P : Params) : nsIn (K P) mainGlobals (Str.ofString "_join_translated_parts") = some (some (.ref 76)) := by kernel_rfl
theorem n_object (P : Params) : nsIn (K P) mainGlobals (Str.ofString "object") = some none := by kernel_rfl
local macro_rules | `(tactic| walk_at "eval Name") => `(tactic| first
  | ((with_reducible show wpAny _ _ (eval (PySem.Expr.Name (Str.ofString "_translate") _) _) _ _ _); refine Sx.glob (by assumption) (by assumption) (g_utr _) ?_)
  | ((with_reducible show wpAny _ _ (eval (PySem.Expr.Name (Str.ofString "_join_translated_parts") _) _) _ _ _); refine Sx.glob (by assumption) (by assumption) (g_join _) ?_)
  | ((with_reducible show wpAny _ _ (eval (PySem.Expr.Name (Str.ofString "object") _) _) _ _ _); refine Sx.blt (by assumption) (by assumption) (n_object _) (by boot_fast) (by decide) ?_))
local macro_rules | `(tactic| walk_at "callWith ref") => `(tactic| refine Sx.fn (by assumption) (by with_unfolding_all rfl) (by with_unfolding_all rfl) ?_)
local macro_rules | `(tactic| walk_at "callWith type:object") => `(tactic| (refine callWith_type0 ?_; refine call_object (by assumption) (by assumption) ?_; intro _ _ _))
local macro_rules | `(tactic| walk_at "call type:object") => `(tactic| (refine call_object (by assumption) (by assumption) ?_; intro _ _ _))
local macro_rules | `(tactic| walk_at "Held") => `(tactic| refine Held.intro (by assumption) ?_)
section
variable {prog : Program} {w : World} {A : Around} {E Q : Value → Shared → Prop} {s : Shared} {h₀ : Heap} {L : Addr} {m : Str → Option Value} {news : List (Addr × Obj)}
theorem c_translate {p : List Nat} {t : Tok} {ys0 out : List (List Nat)} {tail : List (Option (List Nat))} (S : Sx w A h₀ L 9) (F : Fr h₀ L s.heap m) (N : News h₀ L s.heap news) (hp : p.length ≤ 1000) (ha : ∀ c ∈ p, c < 128) (hb : ∀ c ∈ p, c ≠ 91)
    (hT : p.foldl trStep [] = ys0.map some ++ tail) (hR : StarsR tail out) (hy : (ys0.map some ++ tail).length ≤ 1000) (hc : (ys0 ++ out).length ≤ 1000) (hs : ((ys0 ++ out).map List.length).sum ≤ 100000)
    (h : ∀ t' h' tk, Fr h₀ L h' m → News h₀ L h' news → Q (.str ⟨(joined (ys0 ++ out)).toArray⟩ t') { s with heap := h', toks := tk }) :
    wpAny (model prog w) A (call (.ref 50) [.str ⟨p.toArray⟩ t]) Q E s := by
  refine wpAny_call (enter (k := 8) (binds := [(Str.ofString "pat", .str ⟨p.toArray⟩ t)]) S F N rfl rfl (BindsTo.of_eq rfl) (locs rfl) rfl rfl rfl (by decide) fun g L' h₁ S' F' N' kp => ?_)
  repeat' walk1
  rename Fr g L' _ _ => FF
  rename News g L' _ _ => NN
  refine c_tr (Sx.less S' (by omega)) FF NN (by omega) ha hb fun lp vs n h' tk hT2 F2 N2 hfr => ?_
  rw [hT] at hT2
  repeat' walk1
  rename Fr g L' _ _ => FG
  rename News g L' _ _ => NG
  refine c_join (Sx.less S' (by omega)) FG NG (.head _) hT2 hR hy hc hs fun t5 h5 k5 F5 N5 => ?_
  refine leaveK_ F5 (fun q hq => N5 q (.tail _ (.tail _ hq))) fun F6 N6 => ?_
  exact h _ _ _ F6 N6
end
end Mine

end

section
open PySem PySem.W PyProof.Rows
set_option maxRecDepth 100000
set_option maxHeartbeats 8000000
namespace Mine

theorem head {d : DefRec} {kwd : List (Str × PySem.Expr)} (hdef : defOf q PySem.Challenge.rw_kq0061_01.row.toRowW.name = some (d, kwd)) (hp : PySem.Challenge.rw_kq0061_01.row.toRowW.prog.theDef PySem.Challenge.rw_kq0061_01.row.toRowW.name = some (d.params, d.body, d.scope)) (hk : kwWritten? d.params.kwonlyargs d.params.kw_defaults = some kwd)
   (walk : WalkO q loose (XL q []) (kmHook K asK (fun _ => rfl) [nat_lit 64]).says PySem.Challenge.rw_kq0061_01.row.toRowW d kwd (fun f vs => PySem.call f vs)) : PySem.Challenge.rw_kq0061_01.Holds := by
  refine holds_law said fun said' => ?_
  refine holds_open (q := q) (loose := loose) (Xt := fun s => xlAt q [] s && recOk (RowW.records rw0.row.toRowW) s) (XP := XL q []) (Yf := Hook.obs (kmHook K asK (fun _ => rfl) [nat_lit 64])) (Ya := Hook.val (kmHook K asK (fun _ => rfl) [nat_lit 64])) (YP := Hook.says (kmHook K asK (fun _ => rfl) [nat_lit 64])) (N := 4760) ?hl (Hook.of (kmHook K asK (fun _ => rfl) [nat_lit 64])) (Hook.keeps (kmHook K asK (fun _ => rfl) [nat_lit 64])) (fun s e => xl_of s (Bool.and_eq_true_iff.mp e).1) XL.keeps hdef hp hk (fun s e => recFacts_of (Bool.and_eq_true_iff.mp e).2) (by rfl) (by first | assumption | decide +kernel) (by decide +kernel) ⟨rfl, rfl, rfl, rfl, rfl, by decide +kernel⟩ ?hw walk
  case hw => w_witness2
  case hl => exact left
end Mine

end

section
set_option maxRecDepth 100000
namespace Mine
noncomputable def szO (o : Option (List Nat)) : Nat := 9 + (o.getD []).length
theorem sum_some (ys : List (List Nat)) : ys.flatten.length ≤ ((ys.map some).map szO).sum ∧ (ys.map List.length).sum ≤ ((ys.map some).map szO).sum := by
  induction ys with
  | nil => exact ⟨Nat.le_refl _, Nat.le_refl _⟩
  | cons y ys ih =>
    simp only [List.flatten_cons, List.length_append, List.map_cons, List.sum_cons, szO, Option.getD_some] at *
    omega
theorem stars_bounds {G : Nat → Prop} (hG : ∀ c ∈ [40, 63, 62, 46, 42, 41], G c) {tail : List (Option (List Nat))} {out : List (List Nat)} (h : StarsR tail out) : (∀ y, some y ∈ tail → ∀ c ∈ y, G c) →
    (∀ y ∈ out, ∀ c ∈ y, G c) ∧ out.length ≤ tail.length + 1 ∧ (out.map List.length).sum ≤ (tail.map szO).sum := by
  induction h with
  | nil => intro _; exact ⟨fun y hy => (nomatch hy), by simp, by simp⟩
  | last =>
    intro _
    refine ⟨?_, by simp, by decide⟩
    intro y hy c hc
    rw [List.mem_singleton.mp hy] at hc
    refine hG c ?_
    revert c; decide
  | @fin ys h0 =>
    intro hT
    have hs := (sum_some ys).1
    refine ⟨?_, ?_, ?_⟩
    · intro y hy c hc
      rcases List.mem_cons.mp hy with rfl | hy
      · refine hG c ?_
        revert c; decide
      · rw [List.mem_singleton.mp hy] at hc
        obtain ⟨z, hz, hcz⟩ := List.mem_flatten.mp hc
        exact hT z (.tail _ (List.mem_map.mpr ⟨z, hz, rfl⟩)) c hcz
    · cases ys with
      | nil => exact absurd rfl h0
      | cons y ys => simp
    · rw [List.map_cons, List.sum_cons, List.map_cons, List.map_cons, List.sum_cons, List.sum_cons]
      show 2 + (ys.flatten.length + 0) ≤ 9 + 0 + _
      omega
  | @more ys r out h0 _ ih =>
    intro hT
    have hs := (sum_some ys).1
    obtain ⟨i1, i2, i3⟩ := ih (fun y hy c hc => hT y (.tail _ (List.mem_append.mpr (.inr hy))) c hc)
    refine ⟨?_, ?_, ?_⟩
    · intro y hy c hc
      rcases List.mem_cons.mp hy with rfl | hy
      · rcases List.mem_append.mp hc with hc | hc
        · rcases List.mem_append.mp hc with hc | hc
          · exact hG c ((by decide : ∀ c ∈ ([40, 63, 62, 46, 42, 63] : List Nat), c ∈ ([40, 63, 62, 46, 42, 41] : List Nat)) c hc)
          · obtain ⟨z, hz, hcz⟩ := List.mem_flatten.mp hc
            exact hT z (.tail _ (List.mem_append.mpr (.inl (List.mem_map.mpr ⟨z, hz, rfl⟩)))) c hcz
        · refine hG c ?_
          rw [List.mem_singleton.mp hc]; decide
      · exact i1 y hy c hc
    · simp only [List.length_cons, List.length_append, List.length_map] at *
      omega
    · simp only [List.map_cons, List.sum_cons, List.map_append, List.sum_append, List.length_append, List.length_cons, List.length_nil] at *
      have : szO none = 9 := rfl
      omega
theorem tokS_facts : ∀ c : Fin 128, (tokS c.val).length ≤ 2 ∧ ∀ x ∈ tokS c.val, x < 128 ∧ (x = 61 → c.val = 61) := by decide +kernel
theorem sz_tok {q : List Nat} (hq : ∀ c ∈ q, c < 128) : ((q.map tok).map szO).sum ≤ 11 * q.length := by
  induction q with
  | nil => simp
  | cons c q ih =>
    have i := ih fun x hx => hq x (.tail _ hx)
    have h1 := (tokS_facts ⟨c, hq c (.head _)⟩).1
    have h2 : szO (tok c) ≤ 11 := by
      unfold szO tok
      split
      · decide
      · show 9 + (tokS c).length ≤ 11
        have : (tokS c).length ≤ 2 := h1
        omega
    rw [List.map_cons, List.map_cons, List.sum_cons, List.length_cons]
    omega
noncomputable def Fine (l : List Nat) (n : Nat) : Prop := l.length ≤ n ∧ ∀ c ∈ l, c < 128 ∧ c ≠ 61
theorem normF_fine (l : List Nat) : ∀ (b : Bool), (normF b l).length ≤ 2 * l.length ∧ ∀ c ∈ normF b l, c ∈ l ∨ c = 13 ∨ c = 10 := by
  induction l with
  | nil => intro b; exact ⟨Nat.le_refl _, fun c hc => (nomatch hc)⟩
  | cons x l ih =>
    intro b
    by_cases h1 : x = 13
    · subst h1
      rw [normF_13]
      have i := ih true
      refine ⟨by simp only [List.length_cons]; omega, ?_⟩
      intro c hc
      rcases List.mem_cons.mp hc with rfl | hc
      · exact .inl (.head _)
      · rcases List.mem_cons.mp hc with rfl | hc
        · exact .inr (.inr rfl)
        · rcases i.2 c hc with h | h
          · exact .inl (.tail _ h)
          · exact .inr h
    · by_cases h2 : x = 10
      · subst h2
        have i := ih false
        cases b with
        | true =>
          rw [normF_10t]
          refine ⟨by simp only [List.length_cons]; omega, fun c hc => ?_⟩
          rcases i.2 c hc with h | h
          · exact .inl (.tail _ h)
          · exact .inr h
        | false =>
          rw [normF_10f]
          refine ⟨by simp only [List.length_cons]; omega, fun c hc => ?_⟩
          rcases List.mem_cons.mp hc with rfl | hc
          · exact .inr (.inl rfl)
          · rcases List.mem_cons.mp hc with rfl | hc
            · exact .inl (.head _)
            · rcases i.2 c hc with h | h
              · exact .inl (.tail _ h)
              · exact .inr h
      · rw [normF_o b l h1 h2]
        have i := ih false
        refine ⟨by simp only [List.length_cons]; omega, fun c hc => ?_⟩
        rcases List.mem_cons.mp hc with rfl | hc
        · exact .inl (.head _)
        · rcases i.2 c hc with h | h
          · exact .inl (.tail _ h)
          · exact .inr h
theorem dotB_fine (l : List Nat) : ∀ (b : Bool), (dotB b l).length ≤ 2 * l.length ∧ ∀ c ∈ dotB b l, c ∈ l := by
  induction l with
  | nil => intro b; exact ⟨Nat.le_refl _, fun c hc => (nomatch hc)⟩
  | cons x l ih =>
    intro b
    have key : dotB b (x :: l) = (if b = true ∧ x = 46 then [46, 46] else [x]) ++ dotB (decide (x = 10)) l := by
      by_cases h1 : x = 46
      · subst h1
        cases b
        · rfl
        · rfl
      · by_cases h2 : x = 10
        · subst h2; cases b <;> rfl
        · rw [dotB_o b l h1 h2, if_neg (by rintro ⟨_, h⟩; exact h1 h), decide_eq_false h2]; rfl
    rw [key]
    have i := ih (decide (x = 10))
    refine ⟨?_, fun c hc => ?_⟩
    · rw [List.length_append, List.length_cons]
      split <;> simp only [List.length_cons, List.length_nil] <;> omega
    · rcases List.mem_append.mp hc with hc | hc
      · split at hc
        · rename_i h
          rw [h.2]
          rcases List.mem_cons.mp hc with rfl | hc
          · exact .head _
          · rw [List.mem_singleton.mp hc]; exact .head _
        · rw [List.mem_singleton.mp hc]; exact .head _
      · exact .tail _ (i.2 c hc)
theorem Fine.quoted {l : List Nat} {n : Nat} (h : Fine l n) : Fine (quoted l) (4 * n) := by
  unfold Mine.quoted normA
  have h1 := normF_fine l false
  have h2 := dotB_fine (normF false l) true
  refine ⟨by have := h.1; omega, fun c hc => ?_⟩
  rcases h1.2 c (h2.2 c hc) with hc | rfl | rfl
  · exact h.2 c hc
  · decide
  · decide
theorem Fine.sentN {l : List Nat} {n : Nat} (h : Fine l n) : ∀ t, Fine (sentN l t) (4 ^ t * n)
  | 0 => by rw [Nat.pow_zero, Nat.one_mul]; exact h
  | t + 1 => by
    have := (Fine.sentN h t).quoted
    rw [Nat.pow_succ, Nat.mul_comm (4 ^ t) 4, Nat.mul_assoc]; exact this
theorem text_fine {q : List Nat} (hq : ∀ c ∈ q, c < 128 ∧ c ≠ 61) {ys0 out : List (List Nat)} {tail : List (Option (List Nat))} (e : q.map tok = ys0.map some ++ tail) (hR : StarsR tail out) :
    (ys0.map some ++ tail).length ≤ q.length ∧ (ys0 ++ out).length ≤ q.length + 1 ∧ ((ys0 ++ out).map List.length).sum ≤ 11 * q.length ∧ Fine (joined (ys0 ++ out)) (11 * q.length + 7) := by
  have hG : ∀ y, some y ∈ q.map tok → ∀ c ∈ y, c < 128 ∧ c ≠ 61 := by
    intro y hy c hc
    obtain ⟨x, hx, hxe⟩ := List.mem_map.mp hy
    unfold tok at hxe
    split at hxe
    · cases hxe
    · obtain rfl := Option.some.inj hxe
      have h := (tokS_facts ⟨x, (hq x hx).1⟩).2 c hc
      exact ⟨h.1, fun e => (hq x hx).2 (h.2 e)⟩
  rw [e] at hG
  have hs := sz_tok fun c hc => (hq c hc).1
  have hlen := congrArg List.length e
  rw [e, List.map_append, List.sum_append] at hs
  obtain ⟨b1, b2, b3⟩ := stars_bounds (G := fun c => c < 128 ∧ c ≠ 61) (by decide) hR (fun y hy => hG y (List.mem_append.mpr (.inr hy)))
  have h0 := sum_some ys0
  simp only [List.length_map, List.length_append] at hlen
  have hsum : ((ys0 ++ out).map List.length).sum ≤ 11 * q.length := by rw [List.map_append, List.sum_append]; omega
  refine ⟨by simp only [List.length_append, List.length_map]; omega, by rw [List.length_append]; omega, hsum, ?_, ?_⟩
  · unfold joined
    simp only [List.length_append, List.length_flatten, List.length_cons, List.length_nil]
    omega
  · intro c hc
    unfold joined at hc
    rcases List.mem_append.mp hc with hc | hc
    · rcases List.mem_append.mp hc with hc | hc
      · exact (by decide : ∀ c ∈ ([40, 63, 115, 58] : List Nat), c < 128 ∧ c ≠ 61) c hc
      · obtain ⟨z, hz, hcz⟩ := List.mem_flatten.mp hc
        rcases List.mem_append.mp hz with hz | hz
        · exact hG z (List.mem_append.mpr (.inl (List.mem_map.mpr ⟨z, hz, rfl⟩))) c hcz
        · exact b1 z hz c hcz
    · exact (by decide : ∀ c ∈ ([41, 92, 90] : List Nat), c < 128 ∧ c ≠ 61) c hc
end Mine

end

section
open PySem PySem.W PyProof.Rows PySem.Calls
set_option maxRecDepth 100000
set_option maxHeartbeats 1000000
namespace Mine
noncomputable def lawBody : List Stmt := match PySem.Challenge.rw_kq0061_01.row.toRowW.prog.theDef PySem.Challenge.rw_kq0061_01.row.toRowW.name with | some (_, b, _) => b | none => []
noncomputable def lawScope : Scope := match PySem.Challenge.rw_kq0061_01.row.toRowW.prog.theDef PySem.Challenge.rw_kq0061_01.row.toRowW.name with | some (_, _, sc) => sc | none => { kind := .function, names := [], isGenerator := false, isCoroutine := false }
theorem withDef {P : List Stmt → Scope → Prop} {params : Arguments} {body : List Stmt} {scope : Scope} (e : PySem.Challenge.rw_kq0061_01.row.toRowW.prog.theDef PySem.Challenge.rw_kq0061_01.row.toRowW.name = some (params, body, scope)) (h : P body scope) : P lawBody lawScope := by
  unfold lawBody lawScope
  rw [e]; exact h
noncomputable def nthS : List Stmt → Nat → Stmt
  | [], _ => .Pass ⟨0, 0, 0, 0⟩
  | a :: _, 0 => a
  | _ :: r, n + 1 => nthS r n
noncomputable abbrev lawEnv (L fa : Addr) (cd : Value) : Env := envOf (Str.ofString "law") lawScope L fa cd
theorem lawBody_eq : lawBody = [nthS lawBody 0, nthS lawBody 1, nthS lawBody 2, nthS lawBody 3, nthS lawBody 4] := by rfl
noncomputable def J0 (sl : Addr) (news : List (Addr × Obj)) (m : Str → Option Value) (nw : List (Addr × Obj)) : Prop := m (Str.ofString "script") = some (.ref sl) ∧ nw = news
noncomputable def J1 (cs : List Nat) (news : List (Addr × Obj)) (m : Str → Option Value) (nw : List (Addr × Obj)) : Prop :=
  ∃ lp cvs k, m (Str.ofString "cells") = some (.ref lp) ∧ IntsAre cvs (cs.map fun (n : Nat) => (n : Int)) ∧ nw = (lp, listOf cvs.toArray k) :: news
noncomputable def tenD : List Int := [587, 2, 0, 1, 3, 4, 263, 2, 281, 0]
theorem cells_ten (ns : List Int) : ∃ cs : List Nat, cs.length = 10 ∧ (∀ c ∈ cs, c < 1000000) ∧ ((((ns.take 10).map fun (n : Int) => n.fmod 1000000) ++ tenD).take 10) = cs.map fun (n : Nat) => (n : Int) := by
  refine ⟨(((ns.take 10).map fun (n : Int) => (n.fmod 1000000).toNat) ++ [587, 2, 0, 1, 3, 4, 263, 2, 281, 0]).take 10, ?_, ?_, ?_⟩
  · rw [List.length_take, List.length_append]; simp
  · intro c hc
    rcases List.mem_append.mp (List.mem_of_mem_take hc) with hc | hc
    · obtain ⟨n, _, rfl⟩ := List.mem_map.mp hc
      rw [Int.fmod_eq_emod_of_nonneg _ (by decide)]; omega
    · exact (by decide : ∀ c ∈ ([587, 2, 0, 1, 3, 4, 263, 2, 281, 0] : List Nat), c < 1000000) c hc
  · conv => rhs; rw [List.map_take, List.map_append, List.map_map]
    congr 1
    congr 1
    refine List.map_congr_left fun n _ => ?_
    show n.fmod 1000000 = (((n.fmod 1000000).toNat : Nat) : Int)
    rw [Int.fmod_eq_emod_of_nonneg _ (by decide)]; omega
theorem n_int (P : Params) : nsIn (K P) mainGlobals (Str.ofString "int") = some none := by kernel_rfl
local macro_rules | `(tactic| walk_at "eval Name") => `(tactic| first
  | (refine LCgL.ld_own (by assumption) (.tail _ (.head _)) (by assumption) (by assumption) ?_)
  | ((with_reducible show wpAny _ _ (eval (PySem.Expr.Name (Str.ofString "int") _) _) _ _ _); refine Sx.bltK (by assumption) (by assumption) (n_int _) (by boot_fast) (by decide) ?_)
  | (refine nameX_L (by assumption) (by rfl) ?_)
  | ((with_reducible show wpAny _ _ (eval (PySem.Expr.Name (Str.ofString "int") _) _) _ _ _); refine Sx.blt (by assumption) (by assumption) (n_int _) (by boot_fast) (by decide) ?_))
local macro_rules | `(tactic| walk_at "storeName") => `(tactic| (refine storeX_L (by assumption) (by assumption) ?_; intro _ _ _))
section
variable {prog : Program} {w : World} {A : Around} {E : Value → Shared → Prop} {Q : Flow → Shared → Prop} {s : Shared} {h₀ : Heap} {L : Addr} {m : Str → Option Value} {news : List (Addr × Obj)}
theorem ten_are (tk : Nat) : IntsAre [.int 587 tk, .int 2 (tk + 1), .int 0 (tk + 2), .int 1 (tk + 3), .int 3 (tk + 4), .int 4 (tk + 5), .int 263 (tk + 6), .int 2 (tk + 7), .int 281 (tk + 8), .int 0 (tk + 9)] tenD :=
  .cons _ _ (.cons _ _ (.cons _ _ (.cons _ _ (.cons _ _ (.cons _ _ (.cons _ _ (.cons _ _ (.cons _ _ (.cons _ _ .nil)))))))))
theorem st0 {fa : Addr} {cd : Value} {sl : Addr} {vs : List Value} {ns : List Int} {nw : List (Addr × Obj)} (S : Sx w A h₀ L 20) (F : Fr h₀ L s.heap m) (N : News h₀ L s.heap nw) (hJ : J0 sl news m nw)
    (hl : h₀.IsList sl vs.toArray) (hI : IntsAre vs ns) (hn63 : ns.length ≤ 63) {cs : List Nat} (hab : ((((ns.take 10).map fun (n : Int) => n.fmod 1000000) ++ tenD).take 10) = cs.map fun (n : Nat) => (n : Int)) :
    wpAny (model prog w) A (exec (nthS lawBody 0) (lawEnv L fa cd)) (After s h₀ L (J1 cs news)) (fun _ _ => False) s := by
  obtain ⟨hm, rfl⟩ := hJ
  refine withDef (P := fun b sc => wpAny (model prog w) A (exec (nthS b 0) (envOf (Str.ofString "law") sc L fa cd)) _ _ s) (by rfl) ?_
  dsimp only [nthS]
  have hls : s.heap.IsList sl vs.toArray := Fr.lst F hl
  rw [map1 hm] at F
  · iterate 3 walk1
    refine LCg.ListComp_U (F₀ := F) (by with_unfolding_all rfl) (by decide) (by rfl) (by decide) (by rfl) ?_
    repeat' walk1
    rename Fr h₀ L _ _ => F2
    rename News h₀ L _ _ => N2
    rw [show (10 : Int) = ((10 : Nat) : Int) from rfl, pick_to] at N2
    have hIt : IntsAre (vs.take 10) (ns.take 10) := hI.take 10
    have hlen : (vs.take 10).length = (ns.take 10).length := hIt.length
    refine LCg.CompSrc.ledger (s₁ := ⟨_, _, _, _, _⟩) S.hh F2 N2 (.head _) ?hz fun g' => ?_
    case hz => rw [List.size_toArray, List.length_take, sizeLine_eq]; omega
    refine rest_ind (fun i ys nw => nw = _ ∧ IntsAre ys (((ns.take 10).take i).map fun n => n.fmod 1000000)) ?_ ?_ _ 0 [] _ (Nat.zero_add _) ⟨rfl, .nil⟩
    · rintro i ys nw hi ⟨rfl, hys⟩ v I oI C oC D m₂ h3 tk3 E3 hP hNs hx F3 N3 off ne
      obtain ⟨x, t, rfl, hx2⟩ : ∃ x t, v = .int x t ∧ (ns.take 10)[i]? = some x := by
        have hP' : (vs.take 10)[i]? = some v := by simpa using hP
        exact intsAt hIt hP'
      repeat' walk1
      refine LCg.CompEnd.intro F3 N3 _ (fun p hp => hp) off (.inr ⟨_, .head _, rfl, _, rfl⟩) ⟨rfl, ?_⟩
      have e1 : (((ns.take 10).take (i + 1)).map fun n => n.fmod 1000000) = (((ns.take 10).take i).map fun n => n.fmod 1000000) ++ [x.fmod 1000000] := by
        rw [List.take_add_one, hx2, List.map_append]; rfl
      rw [e1]
      exact snocI hys (by rw [show (10 : Int) ^ Int.toNat 6 = 1000000 by decide])
    · rintro ys nw ⟨rfl, hys⟩ D h4 tk4 F4 N4 off4
      have hyl : ys.length ≤ 10 := by rw [hys.length, List.length_map, List.length_take, List.length_take]; omega
      repeat' walk1
      rename Fr h₀ L _ _ => F5
      rename News h₀ L _ _ => N5
      rw [List.take_of_length_le (by rw [List.length_take, List.size_toArray, List.length_take, hI.length]; omega)] at hys
      have hus := PyProof.Rows.IntsAre.append hys (ten_are tk4)
      refine kba_turn (value' := .Name (Str.ofString "text") ⟨0, 0, 0, 0⟩) (fun _ => rfl) ?_
      refine kmk_slice (lo := none) (hi := some 10) (s := ⟨_, _, _, _, _⟩) F5 N5 (News.isList N5 (.head _)) IsPart.none (IsPart.int _ _) (fun D3 h7 F7 N7 hD3 => ?_) (by with_unfolding_all rfl) (by intro _; with_unfolding_all rfl) (by rw [List.size_toArray, List.length_append, sizeLine_eq]; simp; omega)
      rw [show (10 : Int) = ((10 : Nat) : Int) from rfl, pick_to] at N7
      repeat' walk1
      rename Fr h₀ L _ _ => F8
      rename News h₀ L _ _ => N8
      have hus2 := hus.take 10
      rw [hab] at hus2
      refine After.intro F8 ?_ ⟨D3, _, 0, rfl, hus2, rfl⟩
      intro p hp
      rcases List.mem_cons.mp hp with rfl | hp
      · exact N8 _ (.head _)
      · exact N8 p (.tail _ (.tail _ (.tail _ (.tail _ (.tail _ hp)))))
end
end Mine

end

section
open PySem PySem.W PyProof.Rows PySem.Calls
set_option maxRecDepth 100000
set_option maxHeartbeats 1000000
namespace Mine
theorem g_sign (P : Params) : nsIn (K P) mainGlobals (Str.ofString "_law_sign") = some (some (.ref 165)) := by kernel_rfl
theorem g_parts (P : Params) : nsIn (K P) mainGlobals (Str.ofString "_law_parts") = some (some (.ref 177)) := by kernel_rfl
theorem g_translate (P : Params) : nsIn (K P) mainGlobals (Str.ofString "translate") = some (some (.ref 50)) := by kernel_rfl
noncomputable def J2 (p : List Nat) (news : List (Addr × Obj)) (m : Str → Option Value) (nw : List (Addr × Obj)) : Prop :=
  nw = news ∧ ∃ t, m (Str.ofString "pattern") = some (.str ⟨p.toArray⟩ t)
theorem snocS {vs : List Value} {xs : List Str} {x : Str} {t : Tok} (h : StrsAre vs xs) : StrsAre (vs ++ [.str x t]) (xs ++ [x]) := by
  induction h with
  | nil => exact .cons _ _ .nil
  | cons a b _ ih => exact .cons a b ih
theorem natsAt {vs : List Value} {cs : List Nat} (h : IntsAre vs (cs.map fun (n : Nat) => (n : Int))) {i : Nat} {v : Value} (e : vs[i]? = some v) : ∃ c t, v = .int (c : Nat) t ∧ cs[i]? = some c := by
  obtain ⟨x, t, rfl, hx⟩ := intsAt h e
  rw [List.getElem?_map] at hx
  obtain ⟨c, hc, rfl⟩ := Option.map_eq_some_iff.mp hx
  exact ⟨c, t, rfl, hc⟩
local macro_rules | `(tactic| walk_at "eval Name") => `(tactic| first
  | (refine LCgL.ld_own (by assumption) (.tail _ (.head _)) (by assumption) (by assumption) ?_)
  | ((with_reducible show wpAny _ _ (eval (PySem.Expr.Name (Str.ofString "_law_sign") _) _) _ _ _); refine Sx.globK (by assumption) (by assumption) (g_sign _) ?_)
  | ((with_reducible show wpAny _ _ (eval (PySem.Expr.Name (Str.ofString "_law_parts") _) _) _ _ _); refine Sx.glob (by assumption) (by assumption) (g_parts _) ?_)
  | ((with_reducible show wpAny _ _ (eval (PySem.Expr.Name (Str.ofString "translate") _) _) _ _ _); refine Sx.glob (by assumption) (by assumption) (g_translate _) ?_)
  | (refine nameX_L (by assumption) (by rfl) ?_))
local macro_rules | `(tactic| walk_at "storeName") => `(tactic| (refine storeX_L (by assumption) (by assumption) ?_; intro _ _ _))
local macro_rules | `(tactic| walk_at "callWith ref") => `(tactic| refine Sx.fn (by assumption) (by with_unfolding_all rfl) (by with_unfolding_all rfl) ?_)
local macro_rules | `(tactic| walk_at "unpackItems ref") => `(tactic| (refine unpackItemsN_ (by assumption) (by assumption) (News.isTup (by assumption) (.head _)) (Sx.hh (by assumption)) (by rfl) ?_; intro _ _ _))
local macro_rules | `(tactic| walk_at "Held") => `(tactic| refine Held.intro (by assumption) ?_)
section
variable {prog : Program} {w : World} {A : Around} {E : Value → Shared → Prop} {Q : Flow → Shared → Prop} {s : Shared} {h₀ : Heap} {L : Addr} {m : Str → Option Value} {news nw : List (Addr × Obj)} {fa : Addr} {cd : Value}
theorem st1 {cs : List Nat} (S : Sx w A h₀ L 20) (F : Fr h₀ L s.heap m) (N : News h₀ L s.heap nw) (hJ : J1 cs news m nw) (hl : cs.length = 10) (hc : ∀ c ∈ cs, c < 1000000) :
    wpAny (model prog w) A (exec (nthS lawBody 1) (lawEnv L fa cd)) (After s h₀ L (J2 (cs.map signOf) news)) (fun _ _ => False) s := by
  obtain ⟨lp, cvs, kc, hm, hI, rfl⟩ := hJ
  refine withDef (P := fun b sc => wpAny (model prog w) A (exec (nthS b 1) (envOf (Str.ofString "law") sc L fa cd)) _ _ s) (by rfl) ?_
  dsimp only [nthS]
  rw [map1 hm] at F
  iterate 6 walk1
  refine LCg.ListComp_U (F₀ := F) (by with_unfolding_all rfl) (by decide) (by rfl) (by decide) (by rfl) ?_
  refine nameX_L F (by rfl) ?_
  have hlen : cvs.length = 10 := by rw [hI.length, List.length_map, hl]
  refine LCg.CompSrc.ledger (s₁ := ⟨_, _, _, _, _⟩) S.hh F N (.head _) ?hz fun g' => ?_
  case hz => rw [List.size_toArray, hlen, sizeLine_eq]; omega
  refine rest_ind (fun i ys nw => nw = _ ∧ StrsAre ys ((cs.take i).map fun c => (⟨#[signOf c]⟩ : Str))) ?_ ?_ _ 0 [] _ (Nat.zero_add _) ⟨rfl, .nil⟩
  · rintro i ys nw hi ⟨rfl, hys⟩ v I oI C oC D m₂ h3 tk3 E3 hP hNs hx F3 N3 off ne
    obtain ⟨x, t, rfl, hx2⟩ := natsAt hI (i := i) (v := v) (by simpa using hP)
    repeat' walk1
    refine c_sign (Sx.less S (by omega)) (by assumption) (by assumption) (hc x (List.mem_of_getElem? hx2)) fun t5 h5 k5 F5 N5 => ?_
    refine LCg.CompEnd.intro F5 N5 _ (fun p hp => hp) off (.inr ⟨_, .head _, rfl, _, rfl⟩) ⟨rfl, ?_⟩
    rw [List.take_add_one, hx2, List.map_append]
    exact snocS hys
  · rintro ys nw ⟨rfl, hys⟩ D h4 tk4 F4 N4 off4
    rw [List.size_toArray, hlen, List.take_of_length_le (by omega)] at hys
    repeat' walk1
    have hfl : ∀ l : List Nat, (l.map fun c => [signOf c]).flatten = l.map signOf := fun l => by
      induction l with
      | nil => rfl
      | cons a l ih => rw [List.map_cons, List.flatten_cons, ih]; rfl
    have hsum : ∀ l : List Nat, ((l.map fun c => [signOf c]).map List.length).sum = l.length := fun l => by
      induction l with
      | nil => rfl
      | cons a l ih => rw [List.map_cons, List.map_cons, List.sum_cons, ih, List.length_cons]; simp; omega
    have hmm : (cs.map fun c => (⟨#[signOf c]⟩ : Str)) = (cs.map fun c => [signOf c]).map fun y => (⟨y.toArray⟩ : Str) := by rw [List.map_map]; rfl
    rw [hmm] at hys
    refine PyProof.Rows.join_list (ys := (cs.map fun c => [signOf c]).map fun y => (⟨y.toArray⟩ : Str)) (News.isList (by assumption) (.head _)) (by exact hys) ?_ fun t8 k8 => ?_
    · show (((cs.map fun c => [signOf c]).map fun y => (⟨y.toArray⟩ : Str)).map (·.length)).sum + _ * 0 ≤ _
      rw [join_len, hsum, hl]; omega
    rw [join_eq, hfl]
    repeat' walk1
    rename Fr h₀ L _ _ => F9
    rename News h₀ L _ _ => N9
    exact After.intro F9 (fun p hp => N9 p (.tail _ (.tail _ hp))) ⟨rfl, _, rfl⟩
noncomputable def J3 (q l : List Nat) (news : List (Addr × Obj)) (m : Str → Option Value) (nw : List (Addr × Obj)) : Prop :=
  ∃ D us c, nw = (D, listOf us.toArray c) :: news ∧ IntsAre us (partsOf q) ∧ m (Str.ofString "parts") = some (.ref D) ∧ ∃ t, m (Str.ofString "sent") = some (.str ⟨l.toArray⟩ t)
theorem st2 {p : List Nat} {ys0 out : List (List Nat)} {tail : List (Option (List Nat))} (S : Sx w A h₀ L 20) (F : Fr h₀ L s.heap m) (N : News h₀ L s.heap nw) (hJ : J2 p news m nw) (hp : p.length ≤ 10) (ha : ∀ c ∈ p, c < 128) (hb : ∀ c ∈ p, c ≠ 91) (he : ∀ c ∈ p, c ≠ 61)
    (hT : (sqb false p).map tok = ys0.map some ++ tail) (hR : StarsR tail out) :
    wpAny (model prog w) A (exec (nthS lawBody 2) (lawEnv L fa cd)) (After s h₀ L (J3 (sqb false p) (joined (ys0 ++ out)) news)) (fun _ _ => False) s := by
  obtain ⟨rfl, t0, hm⟩ := hJ
  have hq : ∀ c ∈ sqb false p, c < 128 ∧ c ≠ 61 := fun c hc => ⟨ha c (mem_sqb p false hc), he c (mem_sqb p false hc)⟩
  have hql := len_sqb p false
  obtain ⟨b1, b2, b3, b4⟩ := text_fine hq hT hR
  have hT0 : p.foldl trStep [] = ys0.map some ++ tail := by rw [tr_sq, ← hT]; rfl
  refine withDef (P := fun b sc => wpAny (model prog w) A (exec (nthS b 2) (envOf (Str.ofString "law") sc L fa cd)) _ _ s) (by rfl) ?_
  dsimp only [nthS]
  rw [map1 hm] at F
  repeat' walk1
  refine c_parts (Sx.less S (by omega)) F N (by omega) ha fun D us c h5 k5 hus F5 N5 hD => ?_
  repeat' walk1
  refine c_translate (Sx.less S (by omega)) F5 N5 (by omega) ha hb hT0 hR (by omega) (by omega) (by omega) fun t6 h6 k6 F6 N6 => ?_
  repeat' walk1
  rename Fr h₀ L _ _ => F9
  rename News h₀ L _ _ => N9
  refine After.intro F9 (fun p hp => ?_) ⟨D, us, c, rfl, hus, rfl, _, rfl⟩
  exact N9 p (.tail _ hp)
end
end Mine

end

section
open PySem PySem.W PyProof.Rows PySem.Calls
set_option maxRecDepth 100000
namespace Mine
theorem allObj_mono : ∀ {ws : List (Addr × String)} {k k' : List (Addr × Obj) → Prop}, (∀ its, k its → k' its) → AllObj ws k → AllObj ws k'
  | [], _, _, f, h => f [] h
  | _ :: _, _, _, f, h => fun o hc => allObj_mono (fun its => f _) (h o hc)
theorem subL_of : ∀ {l all : List (Addr × Obj)}, (∀ p ∈ l, p ∈ all) → SubL l all
  | [], _, _ => trivial
  | _ :: _, _, h => ⟨h _ (.head _), subL_of fun p hp => h p (.tail _ hp)⟩
theorem offW1_of {p : Addr × Obj} : ∀ {its : List (Addr × Obj)}, (∀ q ∈ its, p.1 ≠ q.1) → OffW1 p its
  | [], _ => trivial
  | _ :: _, h => ⟨.inl (h _ (.head _)), offW1_of fun q hq => h q (.tail _ hq)⟩
theorem offW_of {its : List (Addr × Obj)} : ∀ {l : List (Addr × Obj)}, (∀ p ∈ l, ∀ q ∈ its, p.1 ≠ q.1) → OffW its l
  | [], _ => trivial
  | _ :: _, h => ⟨offW1_of (h _ (.head _)), offW_of fun p hp => h p (.tail _ hp)⟩
section
variable {prog : Program} {w : World} {A : Around} {E : Value → Shared → Prop} {s : Shared} {env : Env} {h₀ : Heap} {target : PySem.Expr} {body : List Stmt} {Q : Flow → Shared → Prop}
theorem unrPost_mono {L : Addr} {s₁ : Shared} {its : List (Addr × Obj)} {r r' : (Str → Option Value) → List (Addr × Obj) → Prop} (f : ∀ m n, r m n → r' m n) : ∀ {fl : Flow} {s₂ : Shared}, UnrPostW h₀ L s₁ its r Q fl s₂ → UnrPostW h₀ L s₁ its r' Q fl s₂
  | .ret _, _, h => h
  | .brk, _, h => h
  | .next, _, ⟨h', tk, m', n', e, F, N, o, x⟩ => ⟨h', tk, m', n', e, F, N, o, f _ _ x⟩
  | .cont, _, ⟨h', tk, m', n', e, F, N, o, x⟩ => ⟨h', tk, m', n', e, F, N, o, f _ _ x⟩
theorem enum_ind {ws : List (Addr × String)} {keep : List (Addr × Obj)} {vs : List Value} (J : Nat → (Str → Option Value) → List (Addr × Obj) → Prop)
    (step : ∀ i v m₁ n₁, vs[i]? = some v → J i m₁ n₁ → ∀ T t h tk, IsTup h T #[.int ((i : Nat) : Int) t, v] → Fr h₀ env.locals h m₁ → AllObj ws (fun its => News h₀ env.locals h (its ++ n₁) →
      wpAny (model prog w) A (assign target env (.ref T)) (fun _ s₂ => wpAny (model prog w) A (execs body env) (UnrPostW h₀ env.locals { s with heap := h, toks := tk } its (fun m' n' => SubL keep n' ∧ J (i + 1) m' n') Q) E s₂) E { s with heap := h, toks := tk }))
    (fin : ∀ m₁ n₁ h tk, J vs.length m₁ n₁ → Fr h₀ env.locals h m₁ → News h₀ env.locals h n₁ → Q .next { s with heap := h, toks := tk }) :
    ∀ (rest : List Value) (i : Nat) (m₁ : Str → Option Value) (n₁ : List (Addr × Obj)), vs.drop i = rest → i ≤ vs.length → J i m₁ n₁ → ItemsRest prog w A E h₀ env target body Q s ws keep (enumItems i rest) m₁ n₁
  | [], i, m₁, n₁, e, hl, hJ => fun h tk F N => by
    have hi : vs.length ≤ i := List.drop_eq_nil_iff.mp e
    have heq : i = vs.length := Nat.le_antisymm hl hi
    exact fin m₁ n₁ h tk (heq ▸ hJ) F N
  | v :: rest, i, m₁, n₁, e, _, hJ => by
    have hv : vs[i]? = some v := by
      have := congrArg List.head? e
      simpa using this
    have hd : vs.drop (i + 1) = rest := by rw [← List.drop_drop, e]; rfl
    refine ItemsRest.pair fun T t h tk hT F => ?_
    refine allObj_mono (fun its hk N => ?_) (step i v m₁ n₁ hv hJ T t h tk hT F)
    refine wpAny_mono (hk N) (fun _ s₂ h₂ => ?_) fun _ _ e => e
    exact wpAny_mono h₂ (fun fl s₃ h₃ => unrPost_mono (fun m' n' hh => ⟨hh.1, enum_ind J step fin rest (i + 1) m' n' hd (List.getElem?_eq_some_iff.mp hv).1 hh.2⟩) h₃) fun _ _ e => e
end
end Mine

end

section
open PySem PySem.W PyProof.Rows PySem.Calls
set_option maxRecDepth 100000
namespace Mine
section
variable {prog : Program} {w : World} {A : Around} {E : Value → Shared → Prop} {s : Shared} {env : Env} {h₀ : Heap} {target : PySem.Expr} {body : List Stmt} {Q : Flow → Shared → Prop}
theorem list_ind {ws : List (Addr × String)} {keep : List (Addr × Obj)} {vs : List Value} (J : Nat → (Str → Option Value) → List (Addr × Obj) → Prop)
    (step : ∀ i v m₁ n₁, vs[i]? = some v → J i m₁ n₁ → ∀ h tk, Fr h₀ env.locals h m₁ → AllObj ws (fun its => News h₀ env.locals h (its ++ n₁) →
      wpAny (model prog w) A (assign target env v) (fun _ s₂ => wpAny (model prog w) A (execs body env) (UnrPostW h₀ env.locals { s with heap := h, toks := tk } its (fun m' n' => SubL keep n' ∧ J (i + 1) m' n') Q) E s₂) E { s with heap := h, toks := tk }))
    (fin : ∀ m₁ n₁ h tk, J vs.length m₁ n₁ → Fr h₀ env.locals h m₁ → News h₀ env.locals h n₁ → Q .next { s with heap := h, toks := tk }) :
    ∀ (rest : List Value) (i : Nat) (m₁ : Str → Option Value) (n₁ : List (Addr × Obj)), vs.drop i = rest → i ≤ vs.length → J i m₁ n₁ → ItemsRest prog w A E h₀ env target body Q s ws keep (rest.map .val) m₁ n₁
  | [], i, m₁, n₁, e, hl, hJ => fun h tk F N => by
    have hi : vs.length ≤ i := List.drop_eq_nil_iff.mp e
    have heq : i = vs.length := Nat.le_antisymm hl hi
    exact fin m₁ n₁ h tk (heq ▸ hJ) F N
  | v :: rest, i, m₁, n₁, e, _, hJ => by
    have hv : vs[i]? = some v := by
      have := congrArg List.head? e
      simpa using this
    have hd : vs.drop (i + 1) = rest := by rw [← List.drop_drop, e]; rfl
    refine ItemsRest.val fun h tk F => ?_
    refine allObj_mono (fun its hk N => ?_) (step i v m₁ n₁ hv hJ h tk F)
    refine wpAny_mono (hk N) (fun _ s₂ h₂ => ?_) fun _ _ e => e
    exact wpAny_mono h₂ (fun fl s₃ h₃ => unrPost_mono (fun m' n' hh => ⟨hh.1, list_ind J step fin rest (i + 1) m' n' hd (List.getElem?_eq_some_iff.mp hv).1 hh.2⟩) h₃) fun _ _ e => e
end
end Mine

end

section
open PySem PySem.W PyProof.Rows PySem.Calls
set_option maxRecDepth 100000
namespace Mine
section
variable {prog : Program} {w : World} {A : Around} {E : Value → Shared → Prop} {s : Shared} {env : Env} {h₀ : Heap} {x : Str} {body : List Stmt} {Q : Flow → Shared → Prop}
theorem unr_mono {L : Addr} {s₁ : Shared} {I : Addr} {it : Obj} {r r' : (Str → Option Value) → List (Addr × Obj) → Prop} (f : ∀ m n, r m n → r' m n) : ∀ {fl : Flow} {s₂ : Shared}, UnrPost h₀ L s₁ I it r Q fl s₂ → UnrPost h₀ L s₁ I it r' Q fl s₂
  | .ret _, _, h => h
  | .brk, _, h => h
  | .next, _, ⟨h', tk, m', n', e, F, N, o, x⟩ => ⟨h', tk, m', n', e, F, N, o, f _ _ x⟩
  | .cont, _, ⟨h', tk, m', n', e, F, N, o, x⟩ => ⟨h', tk, m', n', e, F, N, o, f _ _ x⟩
theorem range_ind {I : Addr} {a : Int} {n : Nat} (J : Nat → (Str → Option Value) → List (Addr × Obj) → Prop)
    (step : ∀ i m₁ n₁, i < n → J i m₁ n₁ → ∀ t h tk, Fr h₀ env.locals h (fun y => if y = x then some (.int (a + (i : Int)) t) else m₁ y) →
      News h₀ env.locals h ((I, itR (a + ((i + 1 : Nat) : Int)) ((n : Int) - ((i + 1 : Nat) : Int))) :: n₁) →
      wpAny (model prog w) A (execs body env) (UnrPost h₀ env.locals { s with heap := h, toks := tk } I (itR (a + ((i + 1 : Nat) : Int)) ((n : Int) - ((i + 1 : Nat) : Int))) (J (i + 1)) Q) E { s with heap := h, toks := tk })
    (fin : ∀ m₁ n₁ h tk, J n m₁ n₁ → Fr h₀ env.locals h m₁ → News h₀ env.locals h n₁ → Q .next { s with heap := h, toks := tk }) :
    ∀ (k i : Nat) (m₁ : Str → Option Value) (n₁ : List (Addr × Obj)), i + k = n → J i m₁ n₁ → RangeRest prog w A E h₀ env x body Q s I a n k i m₁ n₁
  | 0, i, m₁, n₁, e, hJ => fun h tk F N => fin m₁ n₁ h tk (by rw [← e]; exact hJ) F N
  | k + 1, i, m₁, n₁, e, hJ => fun t h tk F N =>
    wpAny_mono (step i m₁ n₁ (by omega) hJ t h tk F N) (fun fl s₂ h₂ => unr_mono (fun m' n' hh => range_ind J step fin k (i + 1) m' n' (by omega) hh) h₂) fun _ _ e => e
end
end Mine

end

section
open PySem PySem.W PyProof.Rows PySem.Calls
set_option maxRecDepth 100000
set_option maxHeartbeats 1000000
namespace Mine
theorem n_range (P : Params) : nsIn (K P) mainGlobals (Str.ofString "range") = some none := by kernel_rfl
theorem g_quotedata (P : Params) : nsIn (K P) mainGlobals (Str.ofString "quotedata") = some (some (.ref 151)) := by kernel_rfl
theorem g_number (P : Params) : nsIn (K P) mainGlobals (Str.ofString "_law_number") = some (some (.ref 182)) := by kernel_rfl
noncomputable def evF (X v a : Int) : Int := v * X + a
theorem ev_rev (X : Int) (ps : List Int) : ps.reverse.foldl (evF X) 0 = ev X ps := by rw [List.foldl_reverse]; rfl
local macro_rules | `(tactic| walk_at "execs cons") => `(tactic| with_reducible refine holdFor ?_)
local macro_rules | `(tactic| walk_at "eval Name") => `(tactic| first
  | (refine nameX_L (by assumption) (by rfl) ?_)
  | ((with_reducible show wpAny _ _ (eval (PySem.Expr.Name (Str.ofString "quotedata") _) _) _ _ _); refine Sx.glob (by assumption) (by assumption) (g_quotedata _) ?_)
  | ((with_reducible show wpAny _ _ (eval (PySem.Expr.Name (Str.ofString "_law_number") _) _) _ _ _); refine Sx.glob (by assumption) (by assumption) (g_number _) ?_)
  | ((with_reducible show wpAny _ _ (eval (PySem.Expr.Name (Str.ofString "range") _) _) _ _ _); refine Sx.blt (by assumption) (by assumption) (n_range _) (by boot_fast) (by decide) ?_))
local macro_rules | `(tactic| walk_at "storeName") => `(tactic| (refine storeX_L (by assumption) (by assumption) ?_; intro _ _ _))
local macro_rules | `(tactic| walk_at "callWith ref") => `(tactic| refine Sx.fn (by assumption) (by with_unfolding_all rfl) (by with_unfolding_all rfl) ?_)
local macro_rules | `(tactic| walk_at "unpackItems ref") => `(tactic| (refine unpackItemsN_ (by assumption) (by assumption) (News.isTup (by assumption) (.head _)) (Sx.hh (by assumption)) (by rfl) ?_; intro _ _ _))
local macro_rules | `(tactic| walk_at "Held") => `(tactic| refine Held.intro (by assumption) ?_)
section
variable {prog : Program} {w : World} {A : Around} {E : Value → Shared → Prop} {Q : Flow → Shared → Prop} {s : Shared} {h₀ : Heap} {L : Addr} {m : Str → Option Value} {news nw : List (Addr × Obj)} {fa : Addr} {cd : Value}
theorem st3 {q l : List Nat} (S : Sx w A h₀ L 20) (F : Fr h₀ L s.heap m) (N : News h₀ L s.heap nw) (hJ : J3 q l news m nw) (hps : (partsOf q).length ≤ 100)
    (hf : ∀ t, t ≤ 5 → (sentN l t).length ≤ 300000 ∧ ∀ c ∈ sentN l t, c < 128 ∧ c ≠ 61) (hv : ∀ t : Nat, 63 * n64 0 (figL (sentN l (t + 1))) = ev (64 ^ (t + 1)) (partsOf q)) :
    wpAny (model prog w) A (exec (nthS lawBody 3) (lawEnv L fa cd)) (After s h₀ L (fun _ nw => ∃ o, nw = o :: news)) (fun _ _ => False) s := by
  refine withDef (P := fun b sc => wpAny (model prog w) A (exec (nthS b 3) (envOf (Str.ofString "law") sc L fa cd)) _ _ s) (by rfl) ?_
  dsimp only [nthS]
  obtain ⟨D, us, c, rfl, hus, hD, ts, hs⟩ := hJ
  rw [map2 hD hs] at F
  refine For_invV h₀ (by rfl) (by rfl) ?_
  repeat' walk1
  rename Fr h₀ L _ _ => F2
  rename News h₀ L _ _ => N2
  rename IsRange _ _ _ _ _ _ _ _ => hR
  refine iter_rangeUnr S.hh hR (n := 5) (by decide) (by decide) F2 N2 fun I hI => ?_
  clear hR F2 N2
  refine range_ind (fun i m n => n = (D, listOf us.toArray c) :: news ∧ m (Str.ofString "parts") = some (.ref D) ∧ ∃ t, m (Str.ofString "sent") = some (.str ⟨(sentN l i).toArray⟩ t)) ?_ ?_ 5 0 _ _ (Nat.zero_add _) ⟨rfl, rfl, _, rfl⟩
  · rintro i m₁ n₁ hi ⟨rfl, hD, ⟨t1, hs⟩⟩ t hq3 tk3 F3 N3
    rw [map2 hD hs] at F3
    have hf0 := hf i (by omega)
    have hf1 := hf (i + 1) (by omega)
    repeat' walk1
    rename Fr h₀ L _ _ => F4
    rename News h₀ L _ _ => N4
    refine c_quotedata (Sx.less S (by omega)) F4 N4 (by show (sentN l i).toArray.size ≤ _; rw [List.size_toArray]; omega) fun t5 h5 k5 F5 N5 => ?_
    rw [show quoted (⟨(sentN l i).toArray⟩ : Str).cps.toList = sentN l (i + 1) by simp [sentN]]
    clear F4 N4
    repeat' walk1
    rename Fr h₀ L _ _ => F6
    rename News h₀ L _ _ => N6
    refine Hold.intro ?_
    have hXb : ∃ X : Int, (64 : Int) ^ (i + 1) = X ∧ -(2 ^ 64) < X ∧ X < 2 ^ 64 := ⟨_, rfl, (by decide : ∀ k : Fin 5, -(2 ^ 64) < (64 : Int) ^ (k.val + 1)) ⟨i, hi⟩, (by decide : ∀ k : Fin 5, (64 : Int) ^ (k.val + 1) < 2 ^ 64) ⟨i, hi⟩⟩
    obtain ⟨X, hX, hX1, hX2⟩ := hXb
    have hval := hv i
    rw [hX] at hval
    refine stage (h₀ := h₀) (L := L) (J := fun m nx => nx = (I, itR (1 + ((i + 1 : Nat) : Int)) ((5 : Int) - ((i + 1 : Nat) : Int))) :: (D, listOf us.toArray c) :: news ∧ m (Str.ofString "parts") = some (.ref D) ∧ (∃ t, m (Str.ofString "sent") = some (.str ⟨(sentN l (i + 1)).toArray⟩ t)) ∧ ∃ t, m (Str.ofString "value") = some (.int (ev X (partsOf q)) t)) ?_ ?_
    · refine For_turns F6 ?_
      have hul : us.length = (partsOf q).length := hus.length
      iterate 9 walk1
      have N7 : News h₀ L _ ((I, itR (1 + ((i + 1 : Nat) : Int)) ((5 : Int) - ((i + 1 : Nat) : Int))) :: (D, listOf us.toArray c) :: news) := fun p hp => N6 p (.tail _ hp)
      have hpow : (64 : Int) ^ (1 + (i : Int)).toNat = X := by rw [← hX]; congr 1; omega
      refine krv_ints (s := ⟨_, _, _, _, _⟩) F6 N7 (News.isList N7 (.tail _ (.head _))) (IsPart.int _ _) hus (fun Dr ws h8 F8 N8 hDr hws hwl => ?_) (by with_unfolding_all rfl) (by intro _; with_unfolding_all rfl) (by rw [List.size_toArray, hul, sizeLine_eq]; omega)
      refine iter_listTurns S.hh F8 N8 (.head _) rfl rfl fun I2 hI2 => ?_
      refine list_ind (fun j m nx => nx = (Dr, listOf ws.toArray 0) :: (I, itR (1 + ((i + 1 : Nat) : Int)) ((5 : Int) - ((i + 1 : Nat) : Int))) :: (D, listOf us.toArray c) :: news ∧ m (Str.ofString "parts") = some (.ref D) ∧ (∃ t, m (Str.ofString "sent") = some (.str ⟨(sentN l (i + 1)).toArray⟩ t)) ∧
        (∃ t, m (Str.ofString "times") = some (.int (1 + (i : Int)) t)) ∧ ∃ t, m (Str.ofString "value") = some (.int (((partsOf q).reverse.take j).foldl (evF X) 0) t)) ?_ ?_ ws 0 _ _ rfl (Nat.zero_le _) ⟨rfl, rfl, ⟨_, rfl⟩, ⟨_, rfl⟩, _, rfl⟩
      · rintro j v m₂ n₂ hv2 ⟨rfl, e1, ⟨t2, e2⟩, ⟨t3, e3⟩, ⟨t4, e4⟩⟩ h9 tk9 F9
        refine AllObj.cons fun o1 ho1 => AllObj.nil fun N9 => ?_
        clear F6 N6 N7 F8 N8
        rw [map4 e1 e2 e3 e4] at F9
        obtain ⟨x, tx, rfl, hx⟩ := intsAt hws hv2
        have hst : ((partsOf q).reverse.take (j + 1)).foldl (evF X) 0 = ((partsOf q).reverse.take j).foldl (evF X) 0 * X + x := by
          rw [List.take_add_one, hx, List.foldl_append]; rfl
        repeat' walk1
        rename Fr h₀ L _ _ => FA
        rename News h₀ L _ _ => NA
        rw [hpow] at FA
        refine UnrEndW.intro FA NA _ ⟨.head _, trivial⟩ (subL_of fun p hp => .tail _ hp) (offW_of fun p hp q hq => ?_) ⟨⟨.head _, trivial⟩, rfl, rfl, ⟨_, rfl⟩, ⟨_, rfl⟩, _, by rw [hst]; rfl⟩
        rw [List.mem_singleton.mp hq]; exact Nat.ne_of_lt (hI2 p hp)
      · rintro m₂ n₂ h9 tk9 ⟨rfl, e1, e2, e3, ⟨t4, e4⟩⟩ F9 N9
        rw [hws.length, List.take_length, ev_rev] at e4
        exact After.intro F9 (fun p hp => N9 p (.tail _ hp)) ⟨rfl, e1, e2, _, e4⟩
    · rintro h9 tk9 m9 nw9 F9 N9 ⟨rfl, e1, ⟨t2, e2⟩, ⟨t3, e3⟩⟩
      rw [map3 e1 e2 e3] at F9
      clear F6 N6
      repeat' walk1
      refine c_number (Sx.less S (by omega)) F9 N9 hf1.1 (fun c hc => (hf1.2 c hc).1) (fun c hc => (hf1.2 c hc).2) fun tA hA kA FA NA => ?_
      clear F9 N9
      repeat' walk1
      · exfalso
        rename _ ≠ ev _ _ => hne1
        exact hne1 hval
      · refine UnrEnd.intro FA NA ((D, listOf us.toArray c) :: news) (fun p hp => hp) (fun p hp => Nat.ne_of_lt (hI p hp)) ⟨rfl, rfl, _, rfl⟩
  · rintro m₁ n₁ hq4 tk4 ⟨rfl, hD, hs⟩ F4 N4
    exact After.intro F4 N4 ⟨_, rfl⟩
end
end Mine

end

section
open PySem PySem.W PyProof.Rows PySem.Calls
set_option maxRecDepth 100000
set_option maxHeartbeats 1000000
namespace Mine
theorem signOf_facts (n : Nat) : signOf n < 128 ∧ signOf n ≠ 61 ∧ signOf n ≠ 91 := by
  unfold signOf
  split
  · rename_i h
    exact (by decide : ∀ k : Fin 5, ([63, 63, 10, 13, 42] : List Nat).getD k.val 0 < 128 ∧ ([63, 63, 10, 13, 42] : List Nat).getD k.val 0 ≠ 61 ∧ ([63, 63, 10, 13, 42] : List Nat).getD k.val 0 ≠ 91) ⟨n % 6, h⟩
  · split
    · decide
    · omega
theorem behind_len (ps : List Int) (f : Int) : (behind ps f).length ≤ ps.length + 1 := by
  unfold behind
  rw [List.length_cons, List.length_map, List.length_tail]; omega
theorem partsOf_len (q : List Nat) : (partsOf q).length ≤ 2 * q.length + 4 := by
  unfold partsOf
  have h1 := behind_len (q.foldl (pstep (decide (q.count 42 = 1))) (behind [0] 44, false)).1 25
  have h2 := parts_len (decide (q.count 42 = 1)) q (behind [0] 44) false
  have h3 : (behind [0] 44).length = 1 := by decide
  omega
theorem law_pure {cs : List Nat} (hl : cs.length = 10) : ∃ ys0 tail out, (sqb false (cs.map signOf)).map tok = ys0.map some ++ tail ∧ StarsR tail out ∧ (partsOf (sqb false (cs.map signOf))).length ≤ 100 ∧
    (∀ t, t ≤ 5 → (sentN (joined (ys0 ++ out)) t).length ≤ 300000 ∧ ∀ c ∈ sentN (joined (ys0 ++ out)) t, c < 128 ∧ c ≠ 61) ∧
    (∀ t : Nat, 63 * n64 0 (figL (sentN (joined (ys0 ++ out)) (t + 1))) = ev (64 ^ (t + 1)) (partsOf (sqb false (cs.map signOf)))) := by
  have hp : ∀ c ∈ cs.map signOf, c < 128 ∧ c ≠ 61 := by
    intro c hc
    obtain ⟨n, _, rfl⟩ := List.mem_map.mp hc
    have := signOf_facts n
    exact ⟨this.1, this.2.1⟩
  generalize hpp : cs.map signOf = p at hp ⊢
  have hpl : p.length = 10 := by rw [← hpp, List.length_map, hl]
  have hq : ∀ c ∈ sqb false p, c < 128 ∧ c ≠ 61 := fun c hc => hp c (mem_sqb p false hc)
  have hql := len_sqb p false
  obtain ⟨ys0, tail, out, hT, hR, hG⟩ := text_figs (sqb_noTwo p false).1 (fun c hc => (hq c hc).1)
  obtain ⟨_, _, _, b4⟩ := text_fine hq hT hR
  have hpo := partsOf_len (sqb false p)
  refine ⟨ys0, tail, out, hT, hR, by omega, ?_, ?_⟩
  · intro t ht
    have h := Fine.sentN b4 t
    refine ⟨Nat.le_trans h.1 ?_, h.2⟩
    have h4 : 4 ^ t ≤ 4 ^ 5 := Nat.pow_le_pow_right (by decide) ht
    have h5 : 4 ^ t * (11 * (sqb false p).length + 7) ≤ 4 ^ 5 * 117 := Nat.mul_le_mul h4 (by omega)
    omega
  · intro t
    rw [figs_sent, hG (t + 1) (decide ((sqb false p).count 42 = 1)) (by simp), partsOf_value]
section
variable {prog : Program} {w : World} {A : Around} {E : Value → Shared → Prop} {s : Shared} {h₀ : Heap} {L : Addr} {m : Str → Option Value} {news nw : List (Addr × Obj)} {fa : Addr} {cd : Value}
theorem st4 (F : Fr h₀ L s.heap m) (N : News h₀ L s.heap nw) (hJ : ∃ o, nw = o :: news) :
    wpAny (model prog w) A (exec (nthS lawBody 4) (lawEnv L fa cd)) (fun fl s' => fl = .ret (.bool true) ∧ ∃ h' tk m' nw, s' = { s with heap := h', toks := tk } ∧ Fr h₀ L h' m' ∧ News h₀ L h' (nw ++ news)) (fun _ _ => False) s := by
  obtain ⟨o, rfl⟩ := hJ
  refine withDef (P := fun b sc => wpAny (model prog w) A (exec (nthS b 4) (envOf (Str.ofString "law") sc L fa cd)) _ _ s) (by rfl) ?_
  dsimp only [nthS]
  iterate 2 walk1
  exact ⟨rfl, s.heap, _, _, [o], rfl, F, N⟩
theorem law_body {sl : Addr} {vs : List Value} {ns : List Int} (S : Sx w A h₀ L 20) (F : Fr h₀ L s.heap m) (N : News h₀ L s.heap news) (hm : m (Str.ofString "script") = some (.ref sl))
    (hl : h₀.IsList sl vs.toArray) (hI : IntsAre vs ns) (hn63 : ns.length ≤ 63) :
    wpAny (model prog w) A (execs lawBody (lawEnv L fa cd)) (fun fl s' => fl = .ret (.bool true) ∧ ∃ h' tk m' nw, s' = { s with heap := h', toks := tk } ∧ Fr h₀ L h' m' ∧ News h₀ L h' (nw ++ news)) (fun _ _ => False) s := by
  obtain ⟨cs, hcl, hcm, hcs⟩ := cells_ten ns
  obtain ⟨ys0, tail, out, hT, hR, hps, hf, hv⟩ := law_pure hcl
  have hsg : ∀ c ∈ cs.map signOf, c < 128 ∧ c ≠ 61 ∧ c ≠ 91 := by
    intro c hc
    obtain ⟨n, _, rfl⟩ := List.mem_map.mp hc
    exact signOf_facts n
  rw [lawBody_eq]
  refine stage (st0 S F N ⟨hm, rfl⟩ hl hI hn63 hcs) fun h1 t1 m1 nw1 F1 N1 J1 => ?_
  refine stage (st1 S F1 N1 J1 hcl hcm) fun h2 t2 m2 nw2 F2 N2 J2 => ?_
  refine stage (st2 S F2 N2 J2 (by rw [List.length_map, hcl]; exact Nat.le_refl _) (fun c hc => (hsg c hc).1) (fun c hc => (hsg c hc).2.2) (fun c hc => (hsg c hc).2.1) hT hR) fun h3 t3 m3 nw3 F3 N3 J3 => ?_
  refine stage (st3 S F3 N3 J3 hps hf hv) fun h4 t4 m4 nw4 F4 N4 J4 => ?_
  refine wpAny_execs_cons (wpAny_mono (st4 F4 N4 J4) (fun fl s' h => ?_) fun _ _ h => h.elim)
  obtain ⟨rfl, h'⟩ := h
  exact ⟨rfl, h'⟩
end
end Mine

end

section
open PySem PySem.W PyProof.Rows
set_option maxRecDepth 100000
set_option maxHeartbeats 4000000
namespace Mine
theorem deeper_room : callerA.depth + 1 + 20 < recursionLimit := by decide +kernel
theorem deeper_units : callerA.units + 3 + 8 * 20 < cLine := by decide +kernel
theorem holds1 : PySem.Challenge.rw_kq0061_01.Holds := by
  w_on
  refine head (by rfl) (by rfl) (by rfl) ?_
  k_fill
  intro w s₀ s₁ mg mb G Y fa o pm cd doc dV kV ho hd hcd hD hmg hg args vals as hpre hlay hrd hwl hlo
  have KX := km_in_of Y
  km_tabs Y
  have X := (Ground.X G).1
  have V := (Ground.X G).2
  refine Ground.open G ?_
  intro T B D TE TW
  try (refine guard_noD D (by decide +kernel) ?_; clear D)
  km_lay T hmg ho hd cd
  clear hmg
  wrow_args hpre hlay hrd hwl hlo
  all_goals (
    first | refine callC_kw (enter_call ?_) | refine enter_call ?_
    w_top on
    kn_posts
    w_call any ho hd hcd hD T F
    clear hd
    kn_ghosts F T
    k_drop
    skip)
  rename (K w.params).In (ghostOf s₁.heap [(68, 64)]) => X'
  rename Top topProg _ _ _ _ _ => T'
  rename Below _ _ _ _ => B'
  rename Fr _ _ _ _ => F'
  rename News _ _ _ _ => N'
  rename IntsAre _ _ => hI
  rename ¬ ((63 : Nat) : Int) < _ => h63
  rename Heap.IsList (ghostOf _ _) _ _ => hl
  refine wpAny_mono (law_body ⟨X', ⟨_, _, _, _, _, T'⟩, ⟨_, _, _, _, B', Around.frames_deeper B'.stack, rfl, rfl⟩, deeper_room, deeper_units, rfl⟩ F' N' (by rfl) hl hI (by omega)) (fun fl s' h => ?_) (fun _ _ h => h.elim)
  obtain ⟨rfl, h', tk, m', nw, rfl, F9, N9⟩ := h
  refine ⟨⟨.inl ⟨.bool true, .bool true, [], rfl, fun _ => rfl, .bool true, ?_, ?_⟩, F9.keep, rfl, hg⟩, ⟨GrownAt.of N9 (List.mem_append.mpr (.inr (.head _))), trivial⟩⟩
  · wrow_post
  · intro _; exact ⟨.nil, fun a ha => by cases ha⟩
end Mine

end

theorem PySem.Challenge.cw_kq0061_01_holds : PySem.Challenge.rw_kq0061_01.Holds :=
  Mine.holds1
