import PyProof.Rows.All
import Wide.All
import OpenK.AllK
import Wide.FinOn
import Lean
import PySem.Challenge.RW_kq0061_02
set_option Elab.async false
section
open PySem PySem.W PyProof.Rows
set_option maxRecDepth 100000
set_option maxHeartbeats 0
namespace Mine
noncomputable abbrev rw0 : OpenLaw := PySem.Challenge.rw_kq0061_02
noncomputable abbrev pw : Program := PySem.Challenge.pw_kq0061_02
noncomputable def fobj (i : Nat) (dV kV pm cd : Value) : Obj := match pw.main.body[i]? with
  | some (.FunctionDef n ps b _ _ _ sc _ _ _) => ⟨.type "function", none, .func { name := n, qualname := n, params := ps, body := .stmts b, scope := sc, globals := mainGlobals, closure := [], defaults := dV, kwdefaults := kV, doc := .none, pyModule := pm, annotations := none, code := cd, closureTuple := .none, builtins := builtinsNs }, #[]⟩
  | _ => default
noncomputable def asK : List Addr := (nat_lit 2) :: (nat_lit 3) :: (nat_lit 32) :: (nat_lit 34) :: (nat_lit 35) :: (nat_lit 37) :: (nat_lit 38) :: (nat_lit 39) :: (nat_lit 40) :: (nat_lit 42) :: (nat_lit 43) :: (nat_lit 45) :: (nat_lit 46) :: (nat_lit 47) :: (nat_lit 54) :: (nat_lit 55) :: (nat_lit 56) :: (nat_lit 57) :: (nat_lit 60) :: (nat_lit 62) :: (nat_lit 63) :: (nat_lit 65) :: (nat_lit 66) :: (nat_lit 67) :: (nat_lit 69) :: (nat_lit 70) :: (nat_lit 72) :: (nat_lit 73) :: (nat_lit 74) :: (nat_lit 76) :: (nat_lit 77) :: (nat_lit 79) :: (nat_lit 80) :: (nat_lit 81) :: (nat_lit 82) :: (nat_lit 84) :: (nat_lit 85) :: (nat_lit 87) :: (nat_lit 88) :: (nat_lit 89) :: (nat_lit 90) :: (nat_lit 92) :: (nat_lit 93) :: (nat_lit 95) :: (nat_lit 96) :: (nat_lit 100) :: (nat_lit 101) :: (nat_lit 102) :: (nat_lit 104) :: (nat_lit 105) :: (nat_lit 107) :: (nat_lit 108) :: (nat_lit 110) :: (nat_lit 114) :: (nat_lit 116) :: (nat_lit 117) :: (nat_lit 119) :: (nat_lit 120) :: (nat_lit 121) :: (nat_lit 123) :: (nat_lit 124) :: (nat_lit 126) :: (nat_lit 127) :: (nat_lit 128) :: (nat_lit 130) :: (nat_lit 131) :: (nat_lit 133) :: (nat_lit 134) :: (nat_lit 138) :: (nat_lit 139) :: (nat_lit 143) :: (nat_lit 144) :: (nat_lit 145) :: (nat_lit 147) :: (nat_lit 148) :: (nat_lit 150) :: (nat_lit 151) :: (nat_lit 152) :: (nat_lit 154) :: (nat_lit 155) :: (nat_lit 157) :: (nat_lit 158) :: (nat_lit 159) :: (nat_lit 161) :: (nat_lit 162) :: (nat_lit 164) :: (nat_lit 165) :: (nat_lit 166) :: (nat_lit 168) :: (nat_lit 169) :: (nat_lit 171) :: (nat_lit 172) :: (nat_lit 173) :: (nat_lit 176) :: (nat_lit 177) :: []
noncomputable def K (P : Params) : Frag :=
  ((nat_lit 2), ⟨.none, none, (.dict #[⟨PyData.keyHash P (Str.ofString "\x69mport.loaded._sre"), (.str (Str.ofString "\x69mport.loaded._sre") (nat_lit 183)), (.bool true)⟩, ⟨PyData.keyHash P (Str.ofString "class._frozen_importlib.BuiltinImporter"), (.str (Str.ofString "class._frozen_importlib.BuiltinImporter") (nat_lit 185)), (.ref (nat_lit 14))⟩, ⟨PyData.keyHash P (Str.ofString "watched.\x69mport"), (.str (Str.ofString "watched.\x69mport") (nat_lit 206)), (.ref (nat_lit 18))⟩, ⟨PyData.keyHash P (Str.ofString "class._frozen_importlib.ModuleSpec"), (.str (Str.ofString "class._frozen_importlib.ModuleSpec") (nat_lit 216)), (.ref (nat_lit 22))⟩, ⟨PyData.keyHash P (Str.ofString "sys.modules.booked-epoch"), (.str (Str.ofString "sys.modules.booked-epoch") (nat_lit 245)), (.int 3 (nat_lit 0))⟩, ⟨PyData.keyHash P (Str.ofString "\x69mport.later-laid._sre"), (.str (Str.ofString "\x69mport.later-laid._sre") (nat_lit 270)), (.bool true)⟩, ⟨PyData.keyHash P (Str.ofString "watched.library"), (.str (Str.ofString "watched.library") (nat_lit 272)), (.ref (nat_lit 27))⟩, ⟨PyData.keyHash P (Str.ofString "watched.library-objects"), (.str (Str.ofString "watched.library-objects") (nat_lit 0)), (.str (Str.ofString "\x0c") (nat_lit 0))⟩, ⟨PyData.keyHash P (Str.ofString "watched.library-deep._sre"), (.str (Str.ofString "watched.library-deep._sre") (nat_lit 273)), (.str (Str.ofString "\x04\x00\x00\x0b\x04\x00\x00\x0b\x04\x00\x00\x03\x04\x00\x00\x0b\x08\x04dict\x02") (nat_lit 0))⟩] 9), #[]⟩) ::
  ((nat_lit 3), ⟨(.type "dict"), none, (.dict #[⟨PyData.keyHash P (Str.ofString "__name__"), (.str (Str.ofString "__name__") (nat_lit 165)), (.str (Str.ofString "law_kq0061_02") (nat_lit 676))⟩, ⟨PyData.keyHash P (Str.ofString "__doc__"), (.str (Str.ofString "__doc__") (nat_lit 166)), .none⟩, ⟨PyData.keyHash P (Str.ofString "__package__"), (.str (Str.ofString "__package__") (nat_lit 167)), .none⟩, ⟨PyData.keyHash P (Str.ofString "__loader__"), (.str (Str.ofString "__loader__") (nat_lit 168)), (.builtin "__main__.__loader__#opaque")⟩, ⟨PyData.keyHash P (Str.ofString "__spec__"), (.str (Str.ofString "__spec__") (nat_lit 169)), .none⟩, ⟨PyData.keyHash P (Str.ofString "__annotations__"), (.str (Str.ofString "__annotations__") (nat_lit 170)), (.ref (nat_lit 6))⟩, ⟨PyData.keyHash P (Str.ofString "__builtins__"), (.str (Str.ofString "__builtins__") (nat_lit 171)), (.ref (nat_lit 4))⟩, ⟨PyData.keyHash P (Str.ofString "__file__"), (.str (Str.ofString "__file__") (nat_lit 173)), (.str (Str.ofString "/claim/cut.py") (nat_lit 172))⟩, ⟨PyData.keyHash P (Str.ofString "__cached__"), (.str (Str.ofString "__cached__") (nat_lit 174)), .none⟩, ⟨PyData.keyHash P (Str.ofString "_sre"), (.str (Str.ofString "_sre") (nat_lit 275)), (.ref (nat_lit 12))⟩, ⟨PyData.keyHash P (Str.ofString "_wall"), (.str (Str.ofString "_wall") (nat_lit 288)), (.ref (nat_lit 38))⟩, ⟨PyData.keyHash P (Str.ofString "bytes_types"), (.str (Str.ofString "bytes_types") (nat_lit 291)), (.ref (nat_lit 39))⟩, ⟨PyData.keyHash P (Str.ofString "_bytes_from_decode_data"), (.str (Str.ofString "_bytes_from_decode_data") (nat_lit 298)), (.ref (nat_lit 46))⟩, ⟨PyData.keyHash P (Str.ofString "Error"), (.str (Str.ofString "Error") (nat_lit 318)), (.ref (nat_lit 56))⟩, ⟨PyData.keyHash P (Str.ofString "_ascii_buffer"), (.str (Str.ofString "_ascii_buffer") (nat_lit 326)), (.ref (nat_lit 66))⟩, ⟨PyData.keyHash P (Str.ofString "_truth"), (.str (Str.ofString "_truth") (nat_lit 334)), (.ref (nat_lit 73))⟩, ⟨PyData.keyHash P (Str.ofString "_b64_value"), (.str (Str.ofString "_b64_value") (nat_lit 341)), (.ref (nat_lit 80))⟩, ⟨PyData.keyHash P (Str.ofString "a2b_base64"), (.str (Str.ofString "a2b_base64") (nat_lit 357)), (.ref (nat_lit 88))⟩, ⟨PyData.keyHash P (Str.ofString "b64decode"), (.str (Str.ofString "b64decode") (nat_lit 368)), (.ref (nat_lit 96))⟩, ⟨PyData.keyHash P (Str.ofString "twin_re_1_fnmatch"), (.str (Str.ofString "twin_re_1_fnmatch") (nat_lit 408)), (.ref (nat_lit 101))⟩, ⟨PyData.keyHash P (Str.ofString "translate"), (.str (Str.ofString "translate") (nat_lit 417)), (.ref (nat_lit 108))⟩, ⟨PyData.keyHash P (Str.ofString "_special_chars_map"), (.str (Str.ofString "_special_chars_map") (nat_lit 565)), (.ref (nat_lit 110))⟩, ⟨PyData.keyHash P (Str.ofString "escape"), (.str (Str.ofString "escape") (nat_lit 572)), (.ref (nat_lit 120))⟩, ⟨PyData.keyHash P (Str.ofString "_translate"), (.str (Str.ofString "_translate") (nat_lit 593)), (.ref (nat_lit 127))⟩, ⟨PyData.keyHash P (Str.ofString "_join_translated_parts"), (.str (Str.ofString "_join_translated_parts") (nat_lit 606)), (.ref (nat_lit 134))⟩, ⟨PyData.keyHash P (Str.ofString "twin_re_1_smtplib"), (.str (Str.ofString "twin_re_1_smtplib") (nat_lit 624)), (.ref (nat_lit 139))⟩, ⟨PyData.keyHash P (Str.ofString "_twin_re_2"), (.str (Str.ofString "_twin_re_2") (nat_lit 666)), (.ref (nat_lit 144))⟩, ⟨PyData.keyHash P (Str.ofString "CRLF"), (.str (Str.ofString "CRLF") (nat_lit 668)), (.str (Str.ofString "\r\n") (nat_lit 667))⟩, ⟨PyData.keyHash P (Str.ofString "quotedata"), (.str (Str.ofString "quotedata") (nat_lit 675)), (.ref (nat_lit 151))⟩, ⟨PyData.keyHash P (Str.ofString "_law_number"), (.str (Str.ofString "_law_number") (nat_lit 687)), (.ref (nat_lit 158))⟩, ⟨PyData.keyHash P (Str.ofString "_law_measure"), (.str (Str.ofString "_law_measure") (nat_lit 695)), (.ref (nat_lit 165))⟩, ⟨PyData.keyHash P (Str.ofString "_law_common"), (.str (Str.ofString "_law_common") (nat_lit 705)), (.ref (nat_lit 172))⟩, ⟨PyData.keyHash P (Str.ofString "law"), (.str (Str.ofString "law") (nat_lit 711)), (.ref (nat_lit 177))⟩] 33), #[]⟩) ::
  ((nat_lit 32), ⟨(.type "tuple"), none, (.seq #[] 0), #[]⟩) ::
  ((nat_lit 34), ⟨(.type "tuple"), none, (.seq #[(.str (Str.ofString "k") (nat_lit 285))] 0), #[]⟩) ::
  ((nat_lit 35), ⟨(.type "tuple"), none, (.seq #[] 0), #[]⟩) ::
  ((nat_lit 37), ⟨(.type "code"), none, (.fields #[(.str (Str.ofString "_wall") (nat_lit 282)), (.str (Str.ofString "_wall") (nat_lit 283)), (.str (Str.ofString "/claim/cut.py") (nat_lit 284)), (.int 2 (nat_lit 0)), (.int 1 (nat_lit 0)), (.int 0 (nat_lit 0)), (.int 0 (nat_lit 0)), (.int 3 (nat_lit 0)), (.ref (nat_lit 32)), (.bool true), (.int 276 (nat_lit 0)), (.ref (nat_lit 33)), .none, (.ref (nat_lit 34)), (.ref (nat_lit 35)), (.ref (nat_lit 36)), (.int 286 (nat_lit 0)), (.int 2 (nat_lit 0)), (.str (Str.ofString "/claim/cut.py") (nat_lit 287))]), #[]⟩) ::
  ((nat_lit 38), fobj 1 .none .none (.str (Str.ofString "__main__") (nat_lit 164)) (.ref (nat_lit 37))) ::
  ((nat_lit 39), ⟨(.type "tuple"), none, (.seq #[(.type "bytes"), (.type "bytearray")] 0), #[]⟩) ::
  ((nat_lit 40), ⟨(.type "tuple"), none, (.seq #[] 0), #[]⟩) ::
  ((nat_lit 42), ⟨(.type "tuple"), none, (.seq #[(.str (Str.ofString "s") (nat_lit 295))] 0), #[]⟩) ::
  ((nat_lit 43), ⟨(.type "tuple"), none, (.seq #[] 0), #[]⟩) ::
  ((nat_lit 45), ⟨(.type "code"), none, (.fields #[(.str (Str.ofString "_bytes_from_decode_data") (nat_lit 292)), (.str (Str.ofString "_bytes_from_decode_data") (nat_lit 293)), (.str (Str.ofString "/claim/cut.py") (nat_lit 294)), (.int 7 (nat_lit 0)), (.int 1 (nat_lit 0)), (.int 0 (nat_lit 0)), (.int 0 (nat_lit 0)), (.int 3 (nat_lit 0)), (.ref (nat_lit 40)), (.bool true), (.int 276 (nat_lit 0)), (.ref (nat_lit 41)), .none, (.ref (nat_lit 42)), (.ref (nat_lit 43)), (.ref (nat_lit 44)), (.int 296 (nat_lit 0)), (.int 7 (nat_lit 0)), (.str (Str.ofString "/claim/cut.py") (nat_lit 297))]), #[]⟩) ::
  ((nat_lit 46), fobj 4 .none .none (.str (Str.ofString "cpy313.base64") (nat_lit 289)) (.ref (nat_lit 45))) ::
  ((nat_lit 47), ⟨(.type "tuple"), none, (.seq #[(.type "ValueError")] 0), #[]⟩) ::
  ((nat_lit 54), ⟨(.type "tuple"), none, (.seq #[] 0), #[]⟩) ::
  ((nat_lit 55), ⟨(.type "dict"), none, (.dict #[⟨PyData.keyHash P (Str.ofString "__module__"), (.str (Str.ofString "__module__") (nat_lit 308)), (.str (Str.ofString "binascii") (nat_lit 299))⟩, ⟨PyData.keyHash P (Str.ofString "__firstlineno__"), (.str (Str.ofString "__firstlineno__") (nat_lit 312)), (.int 20 (nat_lit 311))⟩, ⟨PyData.keyHash P (Str.ofString "__static_attributes__"), (.str (Str.ofString "__static_attributes__") (nat_lit 313)), (.ref (nat_lit 54))⟩, ⟨PyData.keyHash P (Str.ofString "__weakref__"), (.str (Str.ofString "__weakref__") (nat_lit 315)), (.ref (nat_lit 57))⟩, ⟨PyData.keyHash P (Str.ofString "__doc__"), (.str (Str.ofString "__doc__") (nat_lit 316)), .none⟩] 3), #[]⟩) ::
  ((nat_lit 56), ⟨(.type "type"), none, (.cls { name := (Str.ofString "Error"), bases := [(.type "ValueError")], mro := [(.ref (nat_lit 56)), (.type "ValueError"), (.type "Exception"), (.type "BaseException"), (.type "object")], ns := (nat_lit 55), qualname := (Str.ofString "Error"), hasDict := true, slotNames := [], subclasses := [], abstract := false, collection := none, hasDel := false }), #[some (.ref (nat_lit 47)), none, some (.str (Str.ofString "Error") (nat_lit 301)), some (.str (Str.ofString "Error") (nat_lit 309)), some (.builtin "ValueError.__new__"), some (.bool true)]⟩) ::
  ((nat_lit 57), ⟨(.type "getset_descriptor"), none, (.fields #[(.str (Str.ofString "__weakref__") (nat_lit 314)), (.ref (nat_lit 56)), (.builtin "ExceptionGroup.__weakref__"), .none]), #[]⟩) ::
  ((nat_lit 60), ⟨(.type "tuple"), none, (.seq #[] 0), #[]⟩) ::
  ((nat_lit 62), ⟨(.type "tuple"), none, (.seq #[(.str (Str.ofString "data") (nat_lit 322)), (.str (Str.ofString "t") (nat_lit 323))] 0), #[]⟩) ::
  ((nat_lit 63), ⟨(.type "tuple"), none, (.seq #[] 0), #[]⟩) ::
  ((nat_lit 65), ⟨(.type "code"), none, (.fields #[(.str (Str.ofString "_ascii_buffer") (nat_lit 319)), (.str (Str.ofString "_ascii_buffer") (nat_lit 320)), (.str (Str.ofString "/claim/cut.py") (nat_lit 321)), (.int 22 (nat_lit 0)), (.int 1 (nat_lit 0)), (.int 0 (nat_lit 0)), (.int 0 (nat_lit 0)), (.int 3 (nat_lit 0)), (.ref (nat_lit 60)), (.bool true), (.int 276 (nat_lit 0)), (.ref (nat_lit 61)), .none, (.ref (nat_lit 62)), (.ref (nat_lit 63)), (.ref (nat_lit 64)), (.int 324 (nat_lit 0)), (.int 22 (nat_lit 0)), (.str (Str.ofString "/claim/cut.py") (nat_lit 325))]), #[]⟩) ::
  ((nat_lit 66), fobj 7 .none .none (.str (Str.ofString "binascii") (nat_lit 299)) (.ref (nat_lit 65))) ::
  ((nat_lit 67), ⟨(.type "tuple"), none, (.seq #[] 0), #[]⟩) ::
  ((nat_lit 69), ⟨(.type "tuple"), none, (.seq #[(.str (Str.ofString "x") (nat_lit 330)), (.str (Str.ofString "t") (nat_lit 331))] 0), #[]⟩) ::
  ((nat_lit 70), ⟨(.type "tuple"), none, (.seq #[] 0), #[]⟩) ::
  ((nat_lit 72), ⟨(.type "code"), none, (.fields #[(.str (Str.ofString "_truth") (nat_lit 327)), (.str (Str.ofString "_truth") (nat_lit 328)), (.str (Str.ofString "/claim/cut.py") (nat_lit 329)), (.int 33 (nat_lit 0)), (.int 1 (nat_lit 0)), (.int 0 (nat_lit 0)), (.int 0 (nat_lit 0)), (.int 3 (nat_lit 0)), (.ref (nat_lit 67)), (.bool true), (.int 276 (nat_lit 0)), (.ref (nat_lit 68)), .none, (.ref (nat_lit 69)), (.ref (nat_lit 70)), (.ref (nat_lit 71)), (.int 332 (nat_lit 0)), (.int 33 (nat_lit 0)), (.str (Str.ofString "/claim/cut.py") (nat_lit 333))]), #[]⟩) ::
  ((nat_lit 73), fobj 8 .none .none (.str (Str.ofString "binascii") (nat_lit 299)) (.ref (nat_lit 72))) ::
  ((nat_lit 74), ⟨(.type "tuple"), none, (.seq #[] 0), #[]⟩) ::
  ((nat_lit 76), ⟨(.type "tuple"), none, (.seq #[(.str (Str.ofString "c") (nat_lit 338))] 0), #[]⟩) ::
  ((nat_lit 77), ⟨(.type "tuple"), none, (.seq #[] 0), #[]⟩) ::
  ((nat_lit 79), ⟨(.type "code"), none, (.fields #[(.str (Str.ofString "_b64_value") (nat_lit 335)), (.str (Str.ofString "_b64_value") (nat_lit 336)), (.str (Str.ofString "/claim/cut.py") (nat_lit 337)), (.int 38 (nat_lit 0)), (.int 1 (nat_lit 0)), (.int 0 (nat_lit 0)), (.int 0 (nat_lit 0)), (.int 3 (nat_lit 0)), (.ref (nat_lit 74)), (.bool true), (.int 276 (nat_lit 0)), (.ref (nat_lit 75)), .none, (.ref (nat_lit 76)), (.ref (nat_lit 77)), (.ref (nat_lit 78)), (.int 339 (nat_lit 0)), (.int 38 (nat_lit 0)), (.str (Str.ofString "/claim/cut.py") (nat_lit 340))]), #[]⟩) ::
  ((nat_lit 80), fobj 9 .none .none (.str (Str.ofString "binascii") (nat_lit 299)) (.ref (nat_lit 79))) ::
  ((nat_lit 81), ⟨(.type "dict"), none, (.dict #[⟨PyData.keyHash P (Str.ofString "strict_mode"), (.str (Str.ofString "strict_mode") (nat_lit 342)), (.bool false)⟩] 1), #[]⟩) ::
  ((nat_lit 82), ⟨(.type "tuple"), none, (.seq #[] 0), #[]⟩) ::
  ((nat_lit 84), ⟨(.type "tuple"), none, (.seq #[(.str (Str.ofString "data") (nat_lit 346)), (.str (Str.ofString "strict_mode") (nat_lit 347)), (.str (Str.ofString "ascii_data") (nat_lit 348)), (.str (Str.ofString "out") (nat_lit 349)), (.str (Str.ofString "quad_pos") (nat_lit 350)), (.str (Str.ofString "leftchar") (nat_lit 351)), (.str (Str.ofString "pads") (nat_lit 352)), (.str (Str.ofString "i") (nat_lit 353)), (.str (Str.ofString "this_ch") (nat_lit 354))] 0), #[]⟩) ::
  ((nat_lit 85), ⟨(.type "tuple"), none, (.seq #[] 0), #[]⟩) ::
  ((nat_lit 87), ⟨(.type "code"), none, (.fields #[(.str (Str.ofString "a2b_base64") (nat_lit 343)), (.str (Str.ofString "a2b_base64") (nat_lit 344)), (.str (Str.ofString "/claim/cut.py") (nat_lit 345)), (.int 50 (nat_lit 0)), (.int 1 (nat_lit 0)), (.int 1 (nat_lit 0)), (.int 1 (nat_lit 0)), (.int 3 (nat_lit 0)), (.ref (nat_lit 82)), (.bool true), (.int 276 (nat_lit 0)), (.ref (nat_lit 83)), .none, (.ref (nat_lit 84)), (.ref (nat_lit 85)), (.ref (nat_lit 86)), (.int 355 (nat_lit 0)), (.int 50 (nat_lit 0)), (.str (Str.ofString "/claim/cut.py") (nat_lit 356))]), #[]⟩) ::
  ((nat_lit 88), fobj 10 .none (.ref (nat_lit 81)) (.str (Str.ofString "binascii") (nat_lit 299)) (.ref (nat_lit 87))) ::
  ((nat_lit 89), ⟨(.type "tuple"), none, (.seq #[.none, (.bool false)] 0), #[]⟩) ::
  ((nat_lit 90), ⟨(.type "tuple"), none, (.seq #[] 0), #[]⟩) ::
  ((nat_lit 92), ⟨(.type "tuple"), none, (.seq #[(.str (Str.ofString "s") (nat_lit 363)), (.str (Str.ofString "altchars") (nat_lit 364)), (.str (Str.ofString "validate") (nat_lit 365))] 0), #[]⟩) ::
  ((nat_lit 93), ⟨(.type "tuple"), none, (.seq #[] 0), #[]⟩) ::
  ((nat_lit 95), ⟨(.type "code"), none, (.fields #[(.str (Str.ofString "b64decode") (nat_lit 360)), (.str (Str.ofString "b64decode") (nat_lit 361)), (.str (Str.ofString "/claim/cut.py") (nat_lit 362)), (.int 105 (nat_lit 0)), (.int 3 (nat_lit 0)), (.int 0 (nat_lit 0)), (.int 0 (nat_lit 0)), (.int 3 (nat_lit 0)), (.ref (nat_lit 90)), (.bool true), (.int 276 (nat_lit 0)), (.ref (nat_lit 91)), .none, (.ref (nat_lit 92)), (.ref (nat_lit 93)), (.ref (nat_lit 94)), (.int 366 (nat_lit 0)), (.int 105 (nat_lit 0)), (.str (Str.ofString "/claim/cut.py") (nat_lit 367))]), #[]⟩) ::
  ((nat_lit 96), fobj 12 (.ref (nat_lit 89)) .none (.str (Str.ofString "cpy313.base64") (nat_lit 358)) (.ref (nat_lit 95))) ::
  ((nat_lit 100), ⟨(.type "tuple"), none, (.seq #[(.int 14 (nat_lit 0)), (.int 14 (nat_lit 0)), (.int 4 (nat_lit 0)), (.int 1 (nat_lit 0)), (.int 1 (nat_lit 0)), (.int 9 (nat_lit 0)), (.int 0 (nat_lit 0)), (.int 64 (nat_lit 0)), (.int 0 (nat_lit 0)), (.int 1342177280 (nat_lit 0)), (.int 0 (nat_lit 0)), (.int 0 (nat_lit 0)), (.int 0 (nat_lit 0)), (.int 0 (nat_lit 0)), (.int 0 (nat_lit 0)), (.int 17 (nat_lit 0)), (.int 0 (nat_lit 0)), (.int 13 (nat_lit 0)), (.int 11 (nat_lit 0)), (.int 9 (nat_lit 0)), (.int 0 (nat_lit 0)), (.int 64 (nat_lit 0)), (.int 0 (nat_lit 0)), (.int 1342177280 (nat_lit 0)), (.int 0 (nat_lit 0)), (.int 0 (nat_lit 0)), (.int 0 (nat_lit 0)), (.int 0 (nat_lit 0)), (.int 0 (nat_lit 0)), (.int 17 (nat_lit 0)), (.int 1 (nat_lit 0)), (.int 1 (nat_lit 0))] 0), #[]⟩) ::
  ((nat_lit 101), ⟨(.type "re.Pattern"), none, (.fields #[(.str (Str.ofString "([&~|])") (nat_lit 372)), (.int 32 (nat_lit 407)), (.int 1 (nat_lit 0)), .none, .none, (.ref (nat_lit 100)), (.int 0 (nat_lit 0))]), #[]⟩) ::
  ((nat_lit 102), ⟨(.type "tuple"), none, (.seq #[] 0), #[]⟩) ::
  ((nat_lit 104), ⟨(.type "tuple"), none, (.seq #[(.str (Str.ofString "pat") (nat_lit 412)), (.str (Str.ofString "STAR") (nat_lit 413)), (.str (Str.ofString "parts") (nat_lit 414))] 0), #[]⟩) ::
  ((nat_lit 105), ⟨(.type "tuple"), none, (.seq #[] 0), #[]⟩) ::
  ((nat_lit 107), ⟨(.type "code"), none, (.fields #[(.str (Str.ofString "translate") (nat_lit 409)), (.str (Str.ofString "translate") (nat_lit 410)), (.str (Str.ofString "/claim/cut.py") (nat_lit 411)), (.int 114 (nat_lit 0)), (.int 1 (nat_lit 0)), (.int 0 (nat_lit 0)), (.int 0 (nat_lit 0)), (.int 3 (nat_lit 0)), (.ref (nat_lit 102)), (.bool true), (.int 276 (nat_lit 0)), (.ref (nat_lit 103)), .none, (.ref (nat_lit 104)), (.ref (nat_lit 105)), (.ref (nat_lit 106)), (.int 415 (nat_lit 0)), (.int 114 (nat_lit 0)), (.str (Str.ofString "/claim/cut.py") (nat_lit 416))]), #[]⟩) ::
  ((nat_lit 108), fobj 15 .none .none (.str (Str.ofString "cpy313.fnmatch") (nat_lit 369)) (.ref (nat_lit 107))) ::
  ((nat_lit 110), ⟨(.type "dict"), none, (.dict #[⟨40, (.int 40 (nat_lit 421)), (.str (Str.ofString "\\(") (nat_lit 425))⟩, ⟨41, (.int 41 (nat_lit 427)), (.str (Str.ofString "\\)") (nat_lit 431))⟩, ⟨91, (.int 91 (nat_lit 433)), (.str (Str.ofString "\\[") (nat_lit 437))⟩, ⟨93, (.int 93 (nat_lit 439)), (.str (Str.ofString "\\]") (nat_lit 443))⟩, ⟨123, (.int 123 (nat_lit 445)), (.str (Str.ofString "\\{") (nat_lit 449))⟩, ⟨125, (.int 125 (nat_lit 451)), (.str (Str.ofString "\\}") (nat_lit 455))⟩, ⟨63, (.int 63 (nat_lit 457)), (.str (Str.ofString "\\?") (nat_lit 461))⟩, ⟨42, (.int 42 (nat_lit 463)), (.str (Str.ofString "\\*") (nat_lit 467))⟩, ⟨43, (.int 43 (nat_lit 469)), (.str (Str.ofString "\\+") (nat_lit 473))⟩, ⟨45, (.int 45 (nat_lit 475)), (.str (Str.ofString "\\-") (nat_lit 479))⟩, ⟨124, (.int 124 (nat_lit 481)), (.str (Str.ofString "\\|") (nat_lit 485))⟩, ⟨94, (.int 94 (nat_lit 487)), (.str (Str.ofString "\\^") (nat_lit 491))⟩, ⟨36, (.int 36 (nat_lit 493)), (.str (Str.ofString "\\$") (nat_lit 497))⟩, ⟨92, (.int 92 (nat_lit 499)), (.str (Str.ofString "\\\\") (nat_lit 503))⟩, ⟨46, (.int 46 (nat_lit 505)), (.str (Str.ofString "\\.") (nat_lit 509))⟩, ⟨38, (.int 38 (nat_lit 511)), (.str (Str.ofString "\\&") (nat_lit 515))⟩, ⟨126, (.int 126 (nat_lit 517)), (.str (Str.ofString "\\~") (nat_lit 521))⟩, ⟨35, (.int 35 (nat_lit 523)), (.str (Str.ofString "\\#") (nat_lit 527))⟩, ⟨32, (.int 32 (nat_lit 529)), (.str (Str.ofString "\\ ") (nat_lit 533))⟩, ⟨9, (.int 9 (nat_lit 535)), (.str (Str.ofString "\\\t") (nat_lit 539))⟩, ⟨10, (.int 10 (nat_lit 541)), (.str (Str.ofString "\\\n") (nat_lit 545))⟩, ⟨13, (.int 13 (nat_lit 547)), (.str (Str.ofString "\\\r") (nat_lit 551))⟩, ⟨11, (.int 11 (nat_lit 553)), (.str (Str.ofString "\\\x0b") (nat_lit 557))⟩, ⟨12, (.int 12 (nat_lit 559)), (.str (Str.ofString "\\\x0c") (nat_lit 563))⟩] 24), #[]⟩) ::
  ((nat_lit 114), ⟨(.type "tuple"), none, (.seq #[] 0), #[]⟩) ::
  ((nat_lit 116), ⟨(.type "tuple"), none, (.seq #[(.str (Str.ofString "pattern") (nat_lit 569))] 0), #[]⟩) ::
  ((nat_lit 117), ⟨(.type "tuple"), none, (.seq #[] 0), #[]⟩) ::
  ((nat_lit 119), ⟨(.type "code"), none, (.fields #[(.str (Str.ofString "escape") (nat_lit 566)), (.str (Str.ofString "escape") (nat_lit 567)), (.str (Str.ofString "/claim/cut.py") (nat_lit 568)), (.int 120 (nat_lit 0)), (.int 1 (nat_lit 0)), (.int 0 (nat_lit 0)), (.int 0 (nat_lit 0)), (.int 3 (nat_lit 0)), (.ref (nat_lit 114)), (.bool true), (.int 276 (nat_lit 0)), (.ref (nat_lit 115)), .none, (.ref (nat_lit 116)), (.ref (nat_lit 117)), (.ref (nat_lit 118)), (.int 570 (nat_lit 0)), (.int 120 (nat_lit 0)), (.str (Str.ofString "/claim/cut.py") (nat_lit 571))]), #[]⟩) ::
  ((nat_lit 120), fobj 18 .none .none (.str (Str.ofString "re") (nat_lit 418)) (.ref (nat_lit 119))) ::
  ((nat_lit 121), ⟨(.type "tuple"), none, (.seq #[] 0), #[]⟩) ::
  ((nat_lit 123), ⟨(.type "tuple"), none, (.seq #[(.str (Str.ofString "pat") (nat_lit 578)), (.str (Str.ofString "STAR") (nat_lit 579)), (.str (Str.ofString "QUESTION_MARK") (nat_lit 580)), (.str (Str.ofString "res") (nat_lit 581)), (.str (Str.ofString "add") (nat_lit 582)), (.str (Str.ofString "i") (nat_lit 583)), (.str (Str.ofString "n") (nat_lit 584)), (.str (Str.ofString "c") (nat_lit 585)), (.str (Str.ofString "j") (nat_lit 586)), (.str (Str.ofString "stuff") (nat_lit 587)), (.str (Str.ofString "chunks") (nat_lit 588)), (.str (Str.ofString "k") (nat_lit 589)), (.str (Str.ofString "chunk") (nat_lit 590))] 0), #[]⟩) ::
  ((nat_lit 124), ⟨(.type "tuple"), none, (.seq #[] 0), #[]⟩) ::
  ((nat_lit 126), ⟨(.type "code"), none, (.fields #[(.str (Str.ofString "_translate") (nat_lit 575)), (.str (Str.ofString "_translate") (nat_lit 576)), (.str (Str.ofString "/claim/cut.py") (nat_lit 577)), (.int 127 (nat_lit 0)), (.int 3 (nat_lit 0)), (.int 0 (nat_lit 0)), (.int 0 (nat_lit 0)), (.int 3 (nat_lit 0)), (.ref (nat_lit 121)), (.bool true), (.int 276 (nat_lit 0)), (.ref (nat_lit 122)), .none, (.ref (nat_lit 123)), (.ref (nat_lit 124)), (.ref (nat_lit 125)), (.int 591 (nat_lit 0)), (.int 127 (nat_lit 0)), (.str (Str.ofString "/claim/cut.py") (nat_lit 592))]), #[]⟩) ::
  ((nat_lit 127), fobj 20 .none .none (.str (Str.ofString "cpy313.fnmatch") (nat_lit 573)) (.ref (nat_lit 126))) ::
  ((nat_lit 128), ⟨(.type "tuple"), none, (.seq #[] 0), #[]⟩) ::
  ((nat_lit 130), ⟨(.type "tuple"), none, (.seq #[(.str (Str.ofString "inp") (nat_lit 597)), (.str (Str.ofString "STAR") (nat_lit 598)), (.str (Str.ofString "res") (nat_lit 599)), (.str (Str.ofString "add") (nat_lit 600)), (.str (Str.ofString "i") (nat_lit 601)), (.str (Str.ofString "n") (nat_lit 602)), (.str (Str.ofString "fixed") (nat_lit 603))] 0), #[]⟩) ::
  ((nat_lit 131), ⟨(.type "tuple"), none, (.seq #[] 0), #[]⟩) ::
  ((nat_lit 133), ⟨(.type "code"), none, (.fields #[(.str (Str.ofString "_join_translated_parts") (nat_lit 594)), (.str (Str.ofString "_join_translated_parts") (nat_lit 595)), (.str (Str.ofString "/claim/cut.py") (nat_lit 596)), (.int 189 (nat_lit 0)), (.int 2 (nat_lit 0)), (.int 0 (nat_lit 0)), (.int 0 (nat_lit 0)), (.int 3 (nat_lit 0)), (.ref (nat_lit 128)), (.bool true), (.int 276 (nat_lit 0)), (.ref (nat_lit 129)), .none, (.ref (nat_lit 130)), (.ref (nat_lit 131)), (.ref (nat_lit 132)), (.int 604 (nat_lit 0)), (.int 189 (nat_lit 0)), (.str (Str.ofString "/claim/cut.py") (nat_lit 605))]), #[]⟩) ::
  ((nat_lit 134), fobj 21 .none .none (.str (Str.ofString "cpy313.fnmatch") (nat_lit 573)) (.ref (nat_lit 133))) ::
  ((nat_lit 138), ⟨(.type "tuple"), none, (.seq #[(.int 14 (nat_lit 0)), (.int 4 (nat_lit 0)), (.int 0 (nat_lit 0)), (.int 1 (nat_lit 0)), (.int 1 (nat_lit 0)), (.int 6 (nat_lit 0)), (.int 1 (nat_lit 0)), (.int 16 (nat_lit 0)), (.int 46 (nat_lit 0)), (.int 1 (nat_lit 0))] 0), #[]⟩) ::
  ((nat_lit 139), ⟨(.type "re.Pattern"), none, (.fields #[(.str (Str.ofString "(?m)^\\.") (nat_lit 610)), (.int 40 (nat_lit 623)), (.int 0 (nat_lit 0)), .none, .none, (.ref (nat_lit 138)), (.int 0 (nat_lit 0))]), #[]⟩) ::
  ((nat_lit 143), ⟨(.type "tuple"), none, (.seq #[(.int 14 (nat_lit 0)), (.int 9 (nat_lit 0)), (.int 4 (nat_lit 0)), (.int 1 (nat_lit 0)), (.int 2 (nat_lit 0)), (.int 16 (nat_lit 0)), (.int 10 (nat_lit 0)), (.int 16 (nat_lit 0)), (.int 13 (nat_lit 0)), (.int 0 (nat_lit 0)), (.int 7 (nat_lit 0)), (.int 7 (nat_lit 0)), (.int 16 (nat_lit 0)), (.int 13 (nat_lit 0)), (.int 16 (nat_lit 0)), (.int 10 (nat_lit 0)), (.int 15 (nat_lit 0)), (.int 18 (nat_lit 0)), (.int 5 (nat_lit 0)), (.int 16 (nat_lit 0)), (.int 10 (nat_lit 0)), (.int 15 (nat_lit 0)), (.int 13 (nat_lit 0)), (.int 11 (nat_lit 0)), (.int 16 (nat_lit 0)), (.int 13 (nat_lit 0)), (.int 5 (nat_lit 0)), (.int 5 (nat_lit 0)), (.int 0 (nat_lit 0)), (.int 16 (nat_lit 0)), (.int 10 (nat_lit 0)), (.int 1 (nat_lit 0)), (.int 15 (nat_lit 0)), (.int 2 (nat_lit 0)), (.int 0 (nat_lit 0)), (.int 1 (nat_lit 0))] 0), #[]⟩) ::
  ((nat_lit 144), ⟨(.type "re.Pattern"), none, (.fields #[(.str (Str.ofString "(?:\\r\\n|\\n|\\r(?!\\n))") (nat_lit 626)), (.int 32 (nat_lit 665)), (.int 0 (nat_lit 0)), .none, .none, (.ref (nat_lit 143)), (.int 0 (nat_lit 0))]), #[]⟩) ::
  ((nat_lit 145), ⟨(.type "tuple"), none, (.seq #[] 0), #[]⟩) ::
  ((nat_lit 147), ⟨(.type "tuple"), none, (.seq #[(.str (Str.ofString "data") (nat_lit 672))] 0), #[]⟩) ::
  ((nat_lit 148), ⟨(.type "tuple"), none, (.seq #[] 0), #[]⟩) ::
  ((nat_lit 150), ⟨(.type "code"), none, (.fields #[(.str (Str.ofString "quotedata") (nat_lit 669)), (.str (Str.ofString "quotedata") (nat_lit 670)), (.str (Str.ofString "/claim/cut.py") (nat_lit 671)), (.int 220 (nat_lit 0)), (.int 1 (nat_lit 0)), (.int 0 (nat_lit 0)), (.int 0 (nat_lit 0)), (.int 3 (nat_lit 0)), (.ref (nat_lit 145)), (.bool true), (.int 276 (nat_lit 0)), (.ref (nat_lit 146)), .none, (.ref (nat_lit 147)), (.ref (nat_lit 148)), (.ref (nat_lit 149)), (.int 673 (nat_lit 0)), (.int 220 (nat_lit 0)), (.str (Str.ofString "/claim/cut.py") (nat_lit 674))]), #[]⟩) ::
  ((nat_lit 151), fobj 26 .none .none (.str (Str.ofString "cpy313.smtplib") (nat_lit 607)) (.ref (nat_lit 150))) ::
  ((nat_lit 152), ⟨(.type "tuple"), none, (.seq #[] 0), #[]⟩) ::
  ((nat_lit 154), ⟨(.type "tuple"), none, (.seq #[(.str (Str.ofString "row") (nat_lit 681)), (.str (Str.ofString "pair") (nat_lit 682)), (.str (Str.ofString "number") (nat_lit 683)), (.str (Str.ofString "octet") (nat_lit 684))] 0), #[]⟩) ::
  ((nat_lit 155), ⟨(.type "tuple"), none, (.seq #[] 0), #[]⟩) ::
  ((nat_lit 157), ⟨(.type "code"), none, (.fields #[(.str (Str.ofString "_law_number") (nat_lit 678)), (.str (Str.ofString "_law_number") (nat_lit 679)), (.str (Str.ofString "/claim/cut.py") (nat_lit 680)), (.int 223 (nat_lit 0)), (.int 2 (nat_lit 0)), (.int 0 (nat_lit 0)), (.int 0 (nat_lit 0)), (.int 3 (nat_lit 0)), (.ref (nat_lit 152)), (.bool true), (.int 276 (nat_lit 0)), (.ref (nat_lit 153)), .none, (.ref (nat_lit 154)), (.ref (nat_lit 155)), (.ref (nat_lit 156)), (.int 685 (nat_lit 0)), (.int 223 (nat_lit 0)), (.str (Str.ofString "/claim/cut.py") (nat_lit 686))]), #[]⟩) ::
  ((nat_lit 158), fobj 28 .none .none (.str (Str.ofString "law_kq0061_02") (nat_lit 676)) (.ref (nat_lit 157))) ::
  ((nat_lit 159), ⟨(.type "tuple"), none, (.seq #[] 0), #[]⟩) ::
  ((nat_lit 161), ⟨(.type "tuple"), none, (.seq #[(.str (Str.ofString "first") (nat_lit 691)), (.str (Str.ofString "second") (nat_lit 692))] 0), #[]⟩) ::
  ((nat_lit 162), ⟨(.type "tuple"), none, (.seq #[] 0), #[]⟩) ::
  ((nat_lit 164), ⟨(.type "code"), none, (.fields #[(.str (Str.ofString "_law_measure") (nat_lit 688)), (.str (Str.ofString "_law_measure") (nat_lit 689)), (.str (Str.ofString "/claim/cut.py") (nat_lit 690)), (.int 228 (nat_lit 0)), (.int 2 (nat_lit 0)), (.int 0 (nat_lit 0)), (.int 0 (nat_lit 0)), (.int 3 (nat_lit 0)), (.ref (nat_lit 159)), (.bool true), (.int 276 (nat_lit 0)), (.ref (nat_lit 160)), .none, (.ref (nat_lit 161)), (.ref (nat_lit 162)), (.ref (nat_lit 163)), (.int 693 (nat_lit 0)), (.int 228 (nat_lit 0)), (.str (Str.ofString "/claim/cut.py") (nat_lit 694))]), #[]⟩) ::
  ((nat_lit 165), fobj 29 .none .none (.str (Str.ofString "law_kq0061_02") (nat_lit 676)) (.ref (nat_lit 164))) ::
  ((nat_lit 166), ⟨(.type "tuple"), none, (.seq #[] 0), #[]⟩) ::
  ((nat_lit 168), ⟨(.type "tuple"), none, (.seq #[(.str (Str.ofString "row") (nat_lit 699)), (.str (Str.ofString "other") (nat_lit 700)), (.str (Str.ofString "text") (nat_lit 701)), (.str (Str.ofString "front") (nat_lit 702))] 0), #[]⟩) ::
  ((nat_lit 169), ⟨(.type "tuple"), none, (.seq #[] 0), #[]⟩) ::
  ((nat_lit 171), ⟨(.type "code"), none, (.fields #[(.str (Str.ofString "_law_common") (nat_lit 696)), (.str (Str.ofString "_law_common") (nat_lit 697)), (.str (Str.ofString "/claim/cut.py") (nat_lit 698)), (.int 232 (nat_lit 0)), (.int 2 (nat_lit 0)), (.int 0 (nat_lit 0)), (.int 0 (nat_lit 0)), (.int 3 (nat_lit 0)), (.ref (nat_lit 166)), (.bool true), (.int 276 (nat_lit 0)), (.ref (nat_lit 167)), .none, (.ref (nat_lit 168)), (.ref (nat_lit 169)), (.ref (nat_lit 170)), (.int 703 (nat_lit 0)), (.int 232 (nat_lit 0)), (.str (Str.ofString "/claim/cut.py") (nat_lit 704))]), #[]⟩) ::
  ((nat_lit 172), fobj 30 .none .none (.str (Str.ofString "law_kq0061_02") (nat_lit 676)) (.ref (nat_lit 171))) ::
  ((nat_lit 173), ⟨(.type "tuple"), none, (.seq #[] 0), #[]⟩) ::
  ((nat_lit 176), ⟨(.type "code"), none, (.fields #[(.str (Str.ofString "law") (nat_lit 706)), (.str (Str.ofString "law") (nat_lit 707)), (.str (Str.ofString "/claim/cut.py") (nat_lit 708)), (.int 242 (nat_lit 0)), (.int 1 (nat_lit 0)), (.int 0 (nat_lit 0)), (.int 0 (nat_lit 0)), (.int 3 (nat_lit 0)), (.ref (nat_lit 173)), (.bool true), (.int 276 (nat_lit 0)), (.ref (nat_lit 174)), .none, .none, .none, (.ref (nat_lit 175)), (.int 709 (nat_lit 0)), (.int 242 (nat_lit 0)), (.str (Str.ofString "/claim/cut.py") (nat_lit 710))]), #[]⟩) ::
  ((nat_lit 177), fobj 31 .none .none (.str (Str.ofString "law_kq0061_02") (nat_lit 676)) (.ref (nat_lit 176))) :: []

theorem said : OpenLaw.wellSaid rw0 = true := by kernel_rfl
noncomputable def q : Program := view pw [0, 1, 3, 4, 6, 7, 8, 9, 14, 15, 17, 18, 20, 21, 23, 24, 25, 26, 28, 29, 30, 31]
noncomputable def loose : List Str := [Str.ofString "bytes_types", Str.ofString "a2b_base64", Str.ofString "b64decode", Str.ofString "twin_re_1_fnmatch", Str.ofString "_special_chars_map", Str.ofString "twin_re_1_smtplib", Str.ofString "_twin_re_2"]
noncomputable def H : Hook := kmHook K asK (fun _ => rfl) [nat_lit 122]
noncomputable def LeftAt (w : World) : Prop := (openEnds treeTable pw w 4658).map (fun s => (openSeen q loose (importedModules pw.main.body) (fun s => xlAt q [] s && recOk (RowW.records rw0.row.toRowW) s) true s, Hook.obs H s)) = some (openGood q loose, Hook.val H w)
theorem l00 : ∀ w : World, LeftAt ((w.withFollow "special-get-raises" false).withFollow "comprehension-iter-twice" false) := by
  unfold LeftAt openEnds fencedOpening topFrom
  rw [PySem.W.Fast.te10274390034422433532, PySem.W.Fast.te1435165496053646825, PySem.W.Fast.te14289696077712309145, PySem.W.Fast.te14364793385576792824, PySem.W.Fast.te14082659384304107361, PySem.W.Fast.te4187177175401517315]
  intro w
  kernel_rfl
theorem l01 : ∀ w : World, LeftAt ((w.withFollow "special-get-raises" false).withFollow "comprehension-iter-twice" true) := by
  unfold LeftAt openEnds fencedOpening topFrom
  rw [PySem.W.Fast.te10274390034422433532, PySem.W.Fast.te1435165496053646825, PySem.W.Fast.te14289696077712309145, PySem.W.Fast.te14364793385576792824, PySem.W.Fast.te14082659384304107361, PySem.W.Fast.te4187177175401517315]
  intro w
  kernel_rfl
theorem l10 : ∀ w : World, LeftAt ((w.withFollow "special-get-raises" true).withFollow "comprehension-iter-twice" false) := by
  unfold LeftAt openEnds fencedOpening topFrom
  rw [PySem.W.Fast.te10274390034422433532, PySem.W.Fast.te1435165496053646825, PySem.W.Fast.te14289696077712309145, PySem.W.Fast.te14364793385576792824, PySem.W.Fast.te14082659384304107361, PySem.W.Fast.te4187177175401517315]
  intro w
  kernel_rfl
theorem l11 : ∀ w : World, LeftAt ((w.withFollow "special-get-raises" true).withFollow "comprehension-iter-twice" true) := by
  unfold LeftAt openEnds fencedOpening topFrom
  rw [PySem.W.Fast.te10274390034422433532, PySem.W.Fast.te1435165496053646825, PySem.W.Fast.te14289696077712309145, PySem.W.Fast.te14364793385576792824, PySem.W.Fast.te14082659384304107361, PySem.W.Fast.te4187177175401517315]
  intro w
  kernel_rfl

theorem left : LeftO pw q loose (fun s => xlAt q [] s && recOk (RowW.records rw0.row.toRowW) s) (Hook.obs H) (Hook.val H) 4658 :=
  byRow2 "comprehension-iter-twice" (P := LeftAt) (byRow2 "special-get-raises" (P := fun w => LeftAt (w.withFollow "comprehension-iter-twice" false)) l00 l10) (byRow2 "special-get-raises" (P := fun w => LeftAt (w.withFollow "comprehension-iter-twice" true)) l01 l11)
end Mine


end

section
open PySem PySem.W PyProof.Rows
set_option maxRecDepth 100000
namespace Mine
open PySem.Sre (M ops Op)

noncomputable abbrev codeB : Array Nat := #[14, 4, 0, 1, 1, 6, 1, 16, 46, 1]
noncomputable abbrev codeA : Array Nat := #[14, 9, 4, 1, 2, 16, 10, 16, 13, 0, 7, 7, 16, 13, 16, 10, 15, 18, 5, 16, 10, 15, 13, 11, 16, 13, 5, 5, 0, 16, 10, 1, 15, 2, 0, 1]

theorem runFor_done {m : M} (h : m.outcome.isSome = true) : ∀ k, M.runFor k m = m
  | 0 => rfl
  | k + 1 => by simp [M.runFor, h]
theorem runFor_succ {m : M} (h : m.outcome = none) (k : Nat) : M.runFor (k + 1) m = M.runFor k m.step := by simp [M.runFor, h]
theorem runFor_add (a b : Nat) (m : M) : M.runFor (a + b) m = M.runFor b (M.runFor a m) := by
  induction a generalizing m with
  | zero => simp [M.runFor]
  | succ a ih =>
    rw [show a + 1 + b = (a + b) + 1 by omega]
    by_cases h : m.outcome.isSome = true
    · rw [runFor_done h, runFor_done h, runFor_done h]
    · have h' : m.outcome = none := by cases e : m.outcome <;> simp_all
      rw [runFor_succ h', runFor_succ h', ih]

/-- the machine of a code `code` with the body at 5 | 10, where it tries at `s`. -/
noncomputable def stB (text : Array Nat) (s : Nat) (o : Bool) (sn : Sre.Seen) : M :=
  { code := codeB, text, lim := text.size, start := s, lastStart := text.size, pc := 5, pos := s, handed := s, outermost := o, marks := #[],
    frames := [{ wait := .nextStart, pc := 5, pos := s, outermost := o }], weight := 1, seen := sn }

noncomputable def isB (text : Array Nat) (s : Nat) : Prop := (s = 0 ∨ text[s - 1]?.getD 0 = 10) ∧ s < text.size ∧ text[s]?.getD 0 = 46

theorem stB_hit {text : Array Nat} {s : Nat} {o : Bool} {sn : Sre.Seen} (h : isB text s) :
    (M.runFor 5 (stB text s o sn)).outcome = some .matched ∧ (M.runFor 5 (stB text s o sn)).start = s ∧ (M.runFor 5 (stB text s o sn)).handed = s + 1 := by
  obtain ⟨h1, h2, h3⟩ := h
  have h2' : ¬ text.size ≤ s := by omega
  have e1 : (stB text s o sn).step = { stB text s o sn with pc := 7, seen := (sn.add 6).add 44 } := by
    simp [stB, M.step, M.exec, M.word, ops, M.isAt, h1]
  have e2 : ({ stB text s o sn with pc := 7, seen := (sn.add 6).add 44 } : M).step = { stB text s o sn with pc := 9, pos := s + 1, seen := ((sn.add 6).add 44).add 16 } := by
    simp [stB, M.step, M.exec, M.word, ops, Sre.accepts, Sre.itemWidth, h2', h3]
  have e3 : ({ stB text s o sn with pc := 9, pos := s + 1, seen := ((sn.add 6).add 44).add 16 } : M).step = { stB text s o sn with pc := 9, pos := s + 1, handed := s + 1, answer := some true, seen := (((sn.add 6).add 44).add 16).add 1 } := by
    simp [stB, M.step, M.exec, M.word, ops, M.say]
  have e4 : ({ stB text s o sn with pc := 9, pos := s + 1, handed := s + 1, answer := some true, seen := (((sn.add 6).add 44).add 16).add 1 } : M).step = { stB text s o sn with pc := 5, pos := s, handed := s + 1, answer := some true, frames := [], weight := 0, seen := (((sn.add 6).add 44).add 16).add 1 } := by
    simp [stB, M.step, M.resume, M.say]
  have e5 : ({ stB text s o sn with pc := 5, pos := s, handed := s + 1, answer := some true, frames := [], weight := 0, seen := (((sn.add 6).add 44).add 16).add 1 } : M).step = { stB text s o sn with pc := 5, pos := s, handed := s + 1, answer := some true, frames := [], weight := 0, seen := (((sn.add 6).add 44).add 16).add 1, outcome := some .matched } := by
    simp [stB, M.step]
  have e : M.runFor 5 (stB text s o sn) = { stB text s o sn with pc := 5, pos := s, handed := s + 1, answer := some true, frames := [], weight := 0, seen := (((sn.add 6).add 44).add 16).add 1, outcome := some .matched } := by
    rw [runFor_succ rfl, e1, runFor_succ rfl, e2, runFor_succ rfl, e3, runFor_succ rfl, e4, runFor_succ rfl, e5]; rfl
  rw [e]
  exact ⟨rfl, rfl, rfl⟩

theorem stB_miss {text : Array Nat} {s : Nat} {o : Bool} {sn : Sre.Seen} (h : ¬ isB text s) (hs : s < text.size) :
    ∃ k sn', k ≤ 3 ∧ M.runFor k (stB text s o sn) = stB text (s + 1) false sn' := by
  have back : ∀ (pc : Nat) (sn' : Sre.Seen), ({ stB text s o sn with pc := pc, answer := some false, seen := sn' } : M).step = stB text (s + 1) false sn' := fun pc sn' => by
    simp [stB, M.step, M.resume, M.say, hs, M.attemptFrom, M.hasFirstSet, ops, M.attemptAt, M.attempt]
  by_cases h1 : s = 0 ∨ text[s - 1]?.getD 0 = 10
  · have h3 : (text[s]?.getD 0 == 46) = false := beq_eq_false_iff_ne.mpr fun e => h ⟨h1, hs, e⟩
    have h2' : ¬ text.size ≤ s := by omega
    have e1 : (stB text s o sn).step = { stB text s o sn with pc := 7, seen := (sn.add 6).add 44 } := by
      simp [stB, M.step, M.exec, M.word, ops, M.isAt, h1]
    have e2 : ({ stB text s o sn with pc := 7, seen := (sn.add 6).add 44 } : M).step = { stB text s o sn with pc := 7, answer := some false, seen := ((sn.add 6).add 44).add 16 } := by
      simp [stB, M.step, M.exec, M.word, ops, Sre.accepts, h2', h3, M.say]
    refine ⟨3, ((sn.add 6).add 44).add 16, Nat.le_refl _, ?_⟩
    rw [runFor_succ rfl, e1, runFor_succ rfl, e2, runFor_succ rfl, back]
    rfl
  · have e1 : (stB text s o sn).step = { stB text s o sn with pc := 5, answer := some false, seen := (sn.add 6).add 44 } := by
      simp [stB, M.step, M.exec, M.word, ops, M.isAt, h1, M.say]
    refine ⟨2, (sn.add 6).add 44, by omega, ?_⟩
    rw [runFor_succ rfl, e1, runFor_succ rfl, back]
    rfl

theorem stB_end {text : Array Nat} {s : Nat} {o : Bool} {sn : Sre.Seen} (hs : text.size ≤ s) : ∃ k, k ≤ 4 ∧ (M.runFor k (stB text s o sn)).outcome = some .failed := by
  have hs' : ¬ s < text.size := by omega
  have back : ∀ (pc : Nat) (sn' : Sre.Seen), ({ stB text s o sn with pc := pc, answer := some false, seen := sn' } : M).step = { stB text s o sn with pc := 5, answer := some false, frames := [], weight := 0, seen := sn' } := fun pc sn' => by
    simp [stB, M.step, M.resume, M.say, hs']
  have last : ∀ (sn' : Sre.Seen), ({ stB text s o sn with pc := 5, answer := some false, frames := [], weight := 0, seen := sn' } : M).step.outcome = some .failed := fun sn' => by
    simp [stB, M.step]
  by_cases h1 : s = 0 ∨ text[s - 1]?.getD 0 = 10
  · have e1 : (stB text s o sn).step = { stB text s o sn with pc := 7, seen := (sn.add 6).add 44 } := by
      simp [stB, M.step, M.exec, M.word, ops, M.isAt, h1]
    have e2 : ({ stB text s o sn with pc := 7, seen := (sn.add 6).add 44 } : M).step = { stB text s o sn with pc := 7, answer := some false, seen := ((sn.add 6).add 44).add 16 } := by
      simp [stB, M.step, M.exec, M.word, ops, M.say, hs]
    refine ⟨4, Nat.le_refl _, ?_⟩
    rw [runFor_succ rfl, e1, runFor_succ rfl, e2, runFor_succ rfl, back, runFor_succ rfl]
    exact last _
  · have e1 : (stB text s o sn).step = { stB text s o sn with pc := 5, answer := some false, seen := (sn.add 6).add 44 } := by
      simp [stB, M.step, M.exec, M.word, ops, M.isAt, h1, M.say]
    refine ⟨3, by omega, ?_⟩
    rw [runFor_succ rfl, e1, runFor_succ rfl, back, runFor_succ rfl]
    exact last _

theorem stB_all (text : Array Nat) : ∀ (d s : Nat) (o : Bool) (sn : Sre.Seen), s + d = text.size → ∃ k, k ≤ 3 * d + 5 ∧
    ((∃ j, s ≤ j ∧ j < text.size ∧ isB text j ∧ (∀ i, s ≤ i → i < j → ¬ isB text i) ∧ (M.runFor k (stB text s o sn)).outcome = some .matched ∧ (M.runFor k (stB text s o sn)).start = j ∧ (M.runFor k (stB text s o sn)).handed = j + 1) ∨
     ((∀ i, s ≤ i → i < text.size → ¬ isB text i) ∧ (M.runFor k (stB text s o sn)).outcome = some .failed))
  | 0, s, o, sn, h => by
    obtain rfl : s = text.size := by omega
    obtain ⟨k, hk, e⟩ := stB_end (text := text) (s := text.size) (o := o) (sn := sn) (Nat.le_refl _)
    exact ⟨k, by omega, .inr ⟨fun i h1 h2 => absurd h1 (by omega), e⟩⟩
  | d + 1, s, o, sn, h => by
    by_cases hB : isB text s
    · obtain ⟨a, b, c⟩ := stB_hit (o := o) (sn := sn) hB
      exact ⟨5, by omega, .inl ⟨s, Nat.le_refl _, hB.2.1, hB, fun i h1 h2 => absurd h1 (by omega), a, b, c⟩⟩
    · obtain ⟨k, sn', hk, e⟩ := stB_miss (o := o) (sn := sn) hB (by omega)
      obtain ⟨k', hk', r⟩ := stB_all text d (s + 1) false sn' (by omega)
      refine ⟨k + k', by omega, ?_⟩
      rw [runFor_add, e]
      rcases r with ⟨j, h1, h2, h3, h4, h5⟩ | ⟨h1, h2⟩
      · refine .inl ⟨j, by omega, h2, h3, fun i i1 i2 => ?_, h5⟩
        by_cases q : i = s
        · exact q ▸ hB
        · exact h4 i (by omega) i2
      · refine .inr ⟨fun i i1 i2 => ?_, h2⟩
        by_cases q : i = s
        · exact q ▸ hB
        · exact h1 i (by omega) i2

/-- the state of the machine of code A, with the frames `fr`. -/
noncomputable def stA (text : Array Nat) (j : Nat) (o : Bool) (pc pos hd : Nat) (out : Bool) (fr : List Sre.Frame) (wt : Nat) (an : Option Bool) (sn : Sre.Seen) : M :=
  { code := codeA, text, lim := text.size, start := j, lastStart := text.size, pc, pos, handed := hd, outermost := out, marks := #[], frames := fr, weight := wt, answer := an, seen := sn }
noncomputable def fS (j : Nat) (o : Bool) : Sre.Frame := { wait := .nextStart, pc := 10, pos := j, outermost := o }
noncomputable def kB : Sre.Kept := { lastmark := -1, lastindex := -1 }
noncomputable def fB (pc j : Nat) (o : Bool) : Sre.Frame := { wait := .nextBranch, pc := pc, pos := j, outermost := o, kept := kB }
noncomputable def fN (j : Nat) (o : Bool) : Sre.Frame := { wait := .lookNot, pc := 26, pos := j, outermost := o, kept := kB }

section
variable {text : Array Nat} {j pos hd wt : Nat} {o out : Bool} {fr : List Sre.Frame} {sn : Sre.Seen}
theorem A10 (hw : wt < 1000) : ∃ sn', (stA text j o 10 pos hd out fr wt none sn).step = stA text j o 12 pos pos out (fB 11 pos out :: fr) (wt + 1) none sn' := by
  have : ¬ 16777216 < wt + 1 := by omega
  exact ⟨sn.add 7, by simp [stA, fB, kB, M.step, M.exec, M.word, ops, M.alternative, M.keep, M.frame, M.attempt, this]⟩
theorem Ay12 (hl : pos < text.size) (h : text[pos]?.getD 0 = 13) : ∃ sn', (stA text j o 12 pos hd out fr wt none sn).step = stA text j o 14 (pos + 1) hd out fr wt none sn' := by
  have h2 : ¬ text.size ≤ pos := by omega
  exact ⟨sn.add 16, by simp [stA, M.step, M.exec, M.word, ops, Sre.accepts, Sre.itemWidth, h2, h]⟩
theorem An12 (h : text.size ≤ pos ∨ text[pos]?.getD 0 ≠ 13) : ∃ sn', (stA text j o 12 pos hd out fr wt none sn).step = stA text j o 12 pos hd out fr wt (some false) sn' := by
  refine ⟨sn.add 16, ?_⟩
  by_cases h2 : text.size ≤ pos
  · simp [stA, M.step, M.exec, M.word, ops, h2, M.say]
  · have h3 : (text[pos]?.getD 0 == 13) = false := beq_eq_false_iff_ne.mpr (h.resolve_left h2)
    simp [stA, M.step, M.exec, M.word, ops, Sre.accepts, h2, h3, M.say]
theorem Ay14 (hl : pos < text.size) (h : text[pos]?.getD 0 = 10) : ∃ sn', (stA text j o 14 pos hd out fr wt none sn).step = stA text j o 16 (pos + 1) hd out fr wt none sn' := by
  have h2 : ¬ text.size ≤ pos := by omega
  exact ⟨sn.add 16, by simp [stA, M.step, M.exec, M.word, ops, Sre.accepts, Sre.itemWidth, h2, h]⟩
theorem An14 (h : text.size ≤ pos ∨ text[pos]?.getD 0 ≠ 10) : ∃ sn', (stA text j o 14 pos hd out fr wt none sn).step = stA text j o 14 pos hd out fr wt (some false) sn' := by
  refine ⟨sn.add 16, ?_⟩
  by_cases h2 : text.size ≤ pos
  · simp [stA, M.step, M.exec, M.word, ops, h2, M.say]
  · have h3 : (text[pos]?.getD 0 == 10) = false := beq_eq_false_iff_ne.mpr (h.resolve_left h2)
    simp [stA, M.step, M.exec, M.word, ops, Sre.accepts, h2, h3, M.say]
theorem Ay19 (hl : pos < text.size) (h : text[pos]?.getD 0 = 10) : ∃ sn', (stA text j o 19 pos hd out fr wt none sn).step = stA text j o 21 (pos + 1) hd out fr wt none sn' := by
  have h2 : ¬ text.size ≤ pos := by omega
  exact ⟨sn.add 16, by simp [stA, M.step, M.exec, M.word, ops, Sre.accepts, Sre.itemWidth, h2, h]⟩
theorem An19 (h : text.size ≤ pos ∨ text[pos]?.getD 0 ≠ 10) : ∃ sn', (stA text j o 19 pos hd out fr wt none sn).step = stA text j o 19 pos hd out fr wt (some false) sn' := by
  refine ⟨sn.add 16, ?_⟩
  by_cases h2 : text.size ≤ pos
  · simp [stA, M.step, M.exec, M.word, ops, h2, M.say]
  · have h3 : (text[pos]?.getD 0 == 10) = false := beq_eq_false_iff_ne.mpr (h.resolve_left h2)
    simp [stA, M.step, M.exec, M.word, ops, Sre.accepts, h2, h3, M.say]
theorem Ay24 (hl : pos < text.size) (h : text[pos]?.getD 0 = 13) : ∃ sn', (stA text j o 24 pos hd out fr wt none sn).step = stA text j o 26 (pos + 1) hd out fr wt none sn' := by
  have h2 : ¬ text.size ≤ pos := by omega
  exact ⟨sn.add 16, by simp [stA, M.step, M.exec, M.word, ops, Sre.accepts, Sre.itemWidth, h2, h]⟩
theorem An24 (h : text.size ≤ pos ∨ text[pos]?.getD 0 ≠ 13) : ∃ sn', (stA text j o 24 pos hd out fr wt none sn).step = stA text j o 24 pos hd out fr wt (some false) sn' := by
  refine ⟨sn.add 16, ?_⟩
  by_cases h2 : text.size ≤ pos
  · simp [stA, M.step, M.exec, M.word, ops, h2, M.say]
  · have h3 : (text[pos]?.getD 0 == 13) = false := beq_eq_false_iff_ne.mpr (h.resolve_left h2)
    simp [stA, M.step, M.exec, M.word, ops, Sre.accepts, h2, h3, M.say]
theorem Ay29 (hl : pos < text.size) (h : text[pos]?.getD 0 = 10) : ∃ sn', (stA text j o 29 pos hd out fr wt none sn).step = stA text j o 31 (pos + 1) hd out fr wt none sn' := by
  have h2 : ¬ text.size ≤ pos := by omega
  exact ⟨sn.add 16, by simp [stA, M.step, M.exec, M.word, ops, Sre.accepts, Sre.itemWidth, h2, h]⟩
theorem An29 (h : text.size ≤ pos ∨ text[pos]?.getD 0 ≠ 10) : ∃ sn', (stA text j o 29 pos hd out fr wt none sn).step = stA text j o 29 pos hd out fr wt (some false) sn' := by
  refine ⟨sn.add 16, ?_⟩
  by_cases h2 : text.size ≤ pos
  · simp [stA, M.step, M.exec, M.word, ops, h2, M.say]
  · have h3 : (text[pos]?.getD 0 == 10) = false := beq_eq_false_iff_ne.mpr (h.resolve_left h2)
    simp [stA, M.step, M.exec, M.word, ops, Sre.accepts, h2, h3, M.say]
theorem Aj16 : ∃ sn', (stA text j o 16 pos hd out fr wt none sn).step = stA text j o 35 pos hd out fr wt none sn' :=
  ⟨sn.add 15, by simp [stA, M.step, M.exec, M.word, ops]⟩
theorem Aj21 : ∃ sn', (stA text j o 21 pos hd out fr wt none sn).step = stA text j o 35 pos hd out fr wt none sn' :=
  ⟨sn.add 15, by simp [stA, M.step, M.exec, M.word, ops]⟩
theorem Aj32 : ∃ sn', (stA text j o 32 pos hd out fr wt none sn).step = stA text j o 35 pos hd out fr wt none sn' :=
  ⟨sn.add 15, by simp [stA, M.step, M.exec, M.word, ops]⟩
theorem A35 : ∃ sn', (stA text j o 35 pos hd out fr wt none sn).step = stA text j o 35 pos pos out fr wt (some true) sn' :=
  ⟨sn.add 1, by simp [stA, M.step, M.exec, M.word, ops, M.say]⟩
theorem A26 (hw : wt < 1000) : ∃ sn', (stA text j o 26 pos hd out fr wt none sn).step = stA text j o 29 pos pos false (fN pos out :: fr) (wt + 1) none sn' := by
  have : ¬ 16777216 < wt + 1 := by omega
  exact ⟨sn.add 5, by simp [stA, fN, kB, M.step, M.exec, M.word, ops, M.keep, M.frame, M.attempt, this]⟩
theorem Ab11 {pc hd' : Nat} {o' : Bool} (hw : wt < 1000) : (stA text j o pc pos hd out (fB 11 hd' o' :: fr) (wt + 1) (some false) sn).step = stA text j o 19 hd' hd' o' (fB 18 hd' o' :: fr) (wt + 1) none sn := by
  have : ¬ 16777216 < wt + 1 := by omega
  simp [stA, fB, kB, M.step, M.resume, M.putBack, M.alternative, M.frame, M.attempt, this]
theorem Ab18 {pc hd' : Nat} {o' : Bool} (hw : wt < 1000) : (stA text j o pc pos hd out (fB 18 hd' o' :: fr) (wt + 1) (some false) sn).step = stA text j o 24 hd' hd' o' (fB 23 hd' o' :: fr) (wt + 1) none sn := by
  have : ¬ 16777216 < wt + 1 := by omega
  simp [stA, fB, kB, M.step, M.resume, M.putBack, M.alternative, M.frame, M.attempt, this]
theorem AbackN {pc hd' : Nat} {o' : Bool} : (stA text j o pc pos hd out (fN hd' o' :: fr) (wt + 1) (some false) sn).step = stA text j o 32 hd' hd o' fr wt none sn := by
  simp [stA, fN, kB, M.step, M.resume, M.putBack, M.word]
theorem AyesB {pc q hd' : Nat} {o' : Bool} : (stA text j o pc pos hd out (fB q hd' o' :: fr) (wt + 1) (some true) sn).step = stA text j o q hd' hd o' fr wt (some true) sn := by
  simp [stA, fB, kB, M.step, M.resume, M.say]
theorem AyesS {pc hd' : Nat} {o' : Bool} : (stA text j o pc pos hd out (fS hd' o' :: fr) (wt + 1) (some true) sn).step = stA text j o 10 hd' hd o' fr wt (some true) sn := by
  simp [stA, fS, M.step, M.resume, M.say]
theorem Alast {pc : Nat} : (stA text j o pc pos hd out [] wt (some true) sn).step = { stA text j o pc pos hd out [] wt (some true) sn with outcome := some .matched } := by
  simp [stA, M.step]
end

noncomputable def endA (text : Array Nat) (j : Nat) : Nat := if text[j]?.getD 0 = 13 ∧ j + 1 < text.size ∧ text[j + 1]?.getD 0 = 10 then j + 2 else j + 1
noncomputable def isA (text : Array Nat) (j : Nat) : Prop := j < text.size ∧ (text[j]?.getD 0 = 13 ∨ text[j]?.getD 0 = 10)
noncomputable def Hit (m : M) (k j e : Nat) : Prop := (M.runFor k m).outcome = some .matched ∧ (M.runFor k m).start = j ∧ (M.runFor k m).handed = e
theorem Hit.step {m m' : M} {k j e : Nat} (ho : m.outcome = none) (hs : m.step = m') (h : Hit m' k j e) : Hit m (k + 1) j e := by
  unfold Hit at h ⊢
  rw [runFor_succ ho, hs]; exact h
theorem Hit.last {text : Array Nat} {j pos hd wt : Nat} {o out : Bool} {sn : Sre.Seen} {pc : Nat} : Hit (stA text j o pc pos hd out [] wt (some true) sn) 1 j hd :=
  .step rfl Alast (k := 0) ⟨rfl, rfl, rfl⟩
theorem Hit.yesS {text : Array Nat} {j pos hd : Nat} {o out o' : Bool} {sn : Sre.Seen} {pc hd' : Nat} : Hit (stA text j o pc pos hd out [fS hd' o'] 1 (some true) sn) 2 j hd :=
  .step rfl AyesS .last
theorem Hit.yesB {text : Array Nat} {j pos hd : Nat} {o out o' o'' : Bool} {sn : Sre.Seen} {pc q hd' hd'' : Nat} : Hit (stA text j o pc pos hd out [fB q hd'' o'', fS hd' o'] 2 (some true) sn) 3 j hd :=
  .step rfl AyesB .yesS
theorem Hit.at35 {text : Array Nat} {j pos hd : Nat} {o out o' o'' : Bool} {sn : Sre.Seen} {q hd' hd'' : Nat} : Hit (stA text j o 35 pos hd out [fB q hd'' o'', fS hd' o'] 2 none sn) 4 j pos := by
  obtain ⟨s1, e1⟩ := A35 (text := text) (j := j) (pos := pos) (hd := hd) (wt := 2) (o := o) (out := out) (fr := [fB q hd'' o'', fS hd' o']) (sn := sn)
  exact .step rfl e1 .yesB

theorem stA_hit {text : Array Nat} {j : Nat} {o : Bool} {sn : Sre.Seen} (h : isA text j) : ∃ k, k ≤ 20 ∧ Hit (stA text j o 10 j j o [fS j o] 1 none sn) k j (endA text j) := by
  obtain ⟨hl, hc⟩ := h
  obtain ⟨s1, e1⟩ := A10 (text := text) (j := j) (pos := j) (hd := j) (wt := 1) (o := o) (out := o) (fr := [fS j o]) (sn := sn) (by omega)
  rcases hc with hc | hc
  · obtain ⟨s2, e2⟩ := Ay12 (text := text) (j := j) (pos := j) (hd := j) (wt := 2) (o := o) (out := o) (fr := [fB 11 j o, fS j o]) (sn := s1) hl hc
    by_cases h10 : j + 1 < text.size ∧ text[j + 1]?.getD 0 = 10
    · obtain ⟨s3, e3⟩ := Ay14 (text := text) (j := j) (pos := j + 1) (hd := j) (wt := 2) (o := o) (out := o) (fr := [fB 11 j o, fS j o]) (sn := s2) h10.1 h10.2
      obtain ⟨s4, e4⟩ := Aj16 (text := text) (j := j) (pos := j + 1 + 1) (hd := j) (wt := 2) (o := o) (out := o) (fr := [fB 11 j o, fS j o]) (sn := s3)
      have : endA text j = j + 1 + 1 := by unfold endA; rw [if_pos ⟨hc, h10⟩]
      rw [this]
      exact ⟨8, by omega, .step rfl e1 (.step rfl e2 (.step rfl e3 (.step rfl e4 .at35)))⟩
    · have hn : text.size ≤ j + 1 ∨ text[j + 1]?.getD 0 ≠ 10 := by
        by_cases q : j + 1 < text.size
        · exact .inr fun e => h10 ⟨q, e⟩
        · exact .inl (by omega)
      have : endA text j = j + 1 := by unfold endA; rw [if_neg (fun x => h10 x.2)]
      rw [this]
      obtain ⟨s3, e3⟩ := An14 (text := text) (j := j) (pos := j + 1) (hd := j) (wt := 2) (o := o) (out := o) (fr := [fB 11 j o, fS j o]) (sn := s2) hn
      have e4 := Ab11 (text := text) (j := j) (pos := j + 1) (hd := j) (wt := 1) (o := o) (out := o) (fr := [fS j o]) (sn := s3) (pc := 14) (hd' := j) (o' := o) (by omega)
      obtain ⟨s5, e5⟩ := An19 (text := text) (j := j) (pos := j) (hd := j) (wt := 2) (o := o) (out := o) (fr := [fB 18 j o, fS j o]) (sn := s3) (.inr (by rw [hc]; decide))
      have e6 := Ab18 (text := text) (j := j) (pos := j) (hd := j) (wt := 1) (o := o) (out := o) (fr := [fS j o]) (sn := s5) (pc := 19) (hd' := j) (o' := o) (by omega)
      obtain ⟨s7, e7⟩ := Ay24 (text := text) (j := j) (pos := j) (hd := j) (wt := 2) (o := o) (out := o) (fr := [fB 23 j o, fS j o]) (sn := s5) hl hc
      obtain ⟨s8, e8⟩ := A26 (text := text) (j := j) (pos := j + 1) (hd := j) (wt := 2) (o := o) (out := o) (fr := [fB 23 j o, fS j o]) (sn := s7) (by omega)
      obtain ⟨s9, e9⟩ := An29 (text := text) (j := j) (pos := j + 1) (hd := j + 1) (wt := 3) (o := o) (out := false) (fr := [fN (j + 1) o, fB 23 j o, fS j o]) (sn := s8) hn
      have e10 := AbackN (text := text) (j := j) (pos := j + 1) (hd := j + 1) (wt := 2) (o := o) (out := false) (fr := [fB 23 j o, fS j o]) (sn := s9) (pc := 29) (hd' := j + 1) (o' := o)
      obtain ⟨s11, e11⟩ := Aj32 (text := text) (j := j) (pos := j + 1) (hd := j + 1) (wt := 2) (o := o) (out := o) (fr := [fB 23 j o, fS j o]) (sn := s9)
      exact ⟨15, by omega, .step rfl e1 (.step rfl e2 (.step rfl e3 (.step rfl e4 (.step rfl e5 (.step rfl e6 (.step rfl e7 (.step rfl e8 (.step rfl e9 (.step rfl e10 (.step rfl e11 .at35))))))))))⟩
  · have : endA text j = j + 1 := by unfold endA; rw [if_neg (fun x => by rw [hc] at x; exact absurd x.1 (by decide))]
    rw [this]
    obtain ⟨s2, e2⟩ := An12 (text := text) (j := j) (pos := j) (hd := j) (wt := 2) (o := o) (out := o) (fr := [fB 11 j o, fS j o]) (sn := s1) (.inr (by rw [hc]; decide))
    have e3 := Ab11 (text := text) (j := j) (pos := j) (hd := j) (wt := 1) (o := o) (out := o) (fr := [fS j o]) (sn := s2) (pc := 12) (hd' := j) (o' := o) (by omega)
    obtain ⟨s4, e4⟩ := Ay19 (text := text) (j := j) (pos := j) (hd := j) (wt := 2) (o := o) (out := o) (fr := [fB 18 j o, fS j o]) (sn := s2) hl hc
    obtain ⟨s5, e5⟩ := Aj21 (text := text) (j := j) (pos := j + 1) (hd := j) (wt := 2) (o := o) (out := o) (fr := [fB 18 j o, fS j o]) (sn := s4)
    exact ⟨9, by omega, .step rfl e1 (.step rfl e2 (.step rfl e3 (.step rfl e4 (.step rfl e5 .at35))))⟩

theorem inSetA (c : Nat) (sn : Sre.Seen) : ∃ sn', Sre.inSet codeA c 36 5 true sn = .ok (decide (c = 10 ∨ c = 13), sn') := by
  by_cases h1 : c = 10
  · exact ⟨sn.add 16, by simp [Sre.inSet, ops, h1]⟩
  · by_cases h2 : c = 13
    · exact ⟨(sn.add 16).add 16, by simp [Sre.inSet, ops, h2]⟩
    · exact ⟨((sn.add 16).add 16).add 0, by simp [Sre.inSet, ops, h1, h2]⟩

theorem admittedA {m : M} {text : Array Nat} (hc : m.code = codeA) (ht : m.text = text) (hl : m.lim = text.size) : ∀ (d s : Nat) (sn : Sre.Seen), s + d = text.size →
    ∃ sn', (∃ j, s ≤ j ∧ isA text j ∧ (∀ i, s ≤ i → i < j → ¬ isA text i) ∧ M.admitted m (d + 1) s sn = .ok (some j, sn')) ∨ ((∀ i, s ≤ i → ¬ isA text i) ∧ M.admitted m (d + 1) s sn = .ok (none, sn'))
  | 0, s, sn, h => ⟨sn, .inr ⟨fun i hi x => absurd x.1 (by omega), by
      unfold M.admitted; rw [hl, if_pos (by omega)]⟩⟩
  | d + 1, s, sn, h => by
    obtain ⟨s1, e1⟩ := inSetA (text[s]?.getD 0) sn
    have hsz : m.code.size = 36 := by rw [hc]; rfl
    have e0 : Sre.inSet m.code (m.text.getD s 0) m.code.size 5 true sn = .ok (decide (text[s]?.getD 0 = 10 ∨ text[s]?.getD 0 = 13), s1) := by
      rw [hsz, hc, ht, ← e1]; simp
    by_cases q : text[s]?.getD 0 = 10 ∨ text[s]?.getD 0 = 13
    · refine ⟨s1, .inl ⟨s, Nat.le_refl _, ⟨by omega, q.symm⟩, fun i a b => absurd a (by omega), ?_⟩⟩
      unfold M.admitted
      rw [hl, if_neg (by omega), e0, decide_eq_true q]
    · have hn : ¬ isA text s := fun x => q x.2.symm
      obtain ⟨s2, r⟩ := admittedA hc ht hl d (s + 1) s1 (by omega)
      refine ⟨s2, ?_⟩
      have e2 : M.admitted m (d + 1 + 1) s sn = M.admitted m (d + 1) (s + 1) s1 := by
        conv => lhs; unfold M.admitted
        rw [hl, if_neg (by omega), e0, decide_eq_false q]
      rw [e2]
      rcases r with ⟨j, h1, h2, h3, h4⟩ | ⟨h1, h2⟩
      · refine .inl ⟨j, by omega, h2, fun i a b => ?_, h4⟩
        by_cases z : i = s
        · exact z ▸ hn
        · exact h3 i (by omega) b
      · refine .inr ⟨fun i a => ?_, h2⟩
        by_cases z : i = s
        · exact z ▸ hn
        · exact h1 i (by omega)

noncomputable def Out (P : Nat → Prop) (e : Nat → Nat) (pos : Nat) (bound : Nat) (m : M) : Prop := ∃ k, k ≤ bound ∧
    ((∃ j, pos ≤ j ∧ P j ∧ (∀ i, pos ≤ i → i < j → ¬ P i) ∧ Hit m k j (e j)) ∨ ((∀ i, pos ≤ i → ¬ P i) ∧ (M.runFor k m).outcome = some .failed))


theorem runFor_mono {m : M} {k k' : Nat} (h : (M.runFor k m).outcome.isSome = true) (hk : k ≤ k') : M.runFor k' m = M.runFor k m := by
  obtain ⟨d, rfl⟩ := Nat.exists_eq_add_of_le hk
  rw [runFor_add, runFor_done h]

theorem forSearchA {text : Array Nat} {pos : Nat} (hp : pos < text.size) : Sre.forSearch codeA text 0 pos text.size false =
    M.attemptFrom { code := codeA, text, lim := text.size, start := pos, lastStart := text.size, pc := 10, pos, handed := pos, marks := #[], mustAdvance := false, seen := ({} : Sre.Seen).add 14 } pos true := by
  have h : ¬ (decide (pos > text.size) || decide (text.size - pos < 1)) = true := by simp; omega
  show (if (decide (pos > text.size) || decide (text.size - pos < 1)) = true then _ else _) = _
  rw [if_neg h]
  rfl
theorem forSearchB {text : Array Nat} {pos : Nat} (hp : pos < text.size) : Sre.forSearch codeB text 0 pos text.size false = stB text pos true (({} : Sre.Seen).add 14) := by
  have h : ¬ (decide (pos > text.size) || decide (text.size - pos < 1)) = true := by simp; omega
  show (if (decide (pos > text.size) || decide (text.size - pos < 1)) = true then _ else _) = _
  rw [if_neg h]
  simp [M.attemptFrom, M.hasFirstSet, ops, M.attemptAt, M.attempt]
  rfl
theorem forSearch_end {code text : Array Nat} {pos : Nat} (hp : text.size ≤ pos) (h1 : (Sre.header code).1 = 1) : (M.runFor 1 (Sre.forSearch code text 0 pos text.size false)).outcome = some .failed := by
  have h : (decide (pos > text.size) || decide (text.size - pos < (Sre.header code).1)) = true := by rw [h1]; simp; omega
  have e : ∃ m : M, m.outcome = none ∧ m.frames = [] ∧ Sre.forSearch code text 0 pos text.size false = M.say m false := by
    refine ⟨_, ?a, ?b, if_pos h⟩
    · rfl
    · rfl
  obtain ⟨m, h1, h2, e⟩ := e
  rw [e, runFor_succ (by exact h1)]
  show (M.say m false).step.outcome = _
  unfold M.step M.say
  simp [h1, h2]

theorem searchB (text : Array Nat) (pos : Nat) : Out (isB text) (fun j => j + 1) pos (3 * text.size + 5) (Sre.forSearch codeB text 0 pos text.size false) := by
  by_cases h0 : pos < text.size
  · rw [forSearchB h0]
    obtain ⟨k, hk, r⟩ := stB_all text (text.size - pos) pos true (({} : Sre.Seen).add 14) (by omega)
    refine ⟨k, by omega, ?_⟩
    rcases r with ⟨j, a, b, c, d, e⟩ | ⟨a, b⟩
    · exact .inl ⟨j, a, c, d, e⟩
    · exact .inr ⟨fun i hi x => a i hi x.2.1 x, b⟩
  · exact ⟨1, by omega, .inr ⟨fun i hi x => absurd x.2.1 (by omega), forSearch_end (by omega) rfl⟩⟩

theorem searchA (text : Array Nat) (pos : Nat) : Out (isA text) (endA text) pos 20 (Sre.forSearch codeA text 0 pos text.size false) := by
  by_cases h0 : pos < text.size
  · rw [forSearchA h0]
    unfold M.attemptFrom
    have hf : M.hasFirstSet { code := codeA, text, lim := text.size, start := pos, lastStart := text.size, pc := 10, pos, handed := pos, marks := #[], mustAdvance := false, seen := ({} : Sre.Seen).add 14 } = true := rfl
    rw [hf]
    obtain ⟨sn', r⟩ := admittedA (m := { code := codeA, text, lim := text.size, start := pos, lastStart := text.size, pc := 10, pos, handed := pos, marks := #[], mustAdvance := false, seen := ({} : Sre.Seen).add 14 }) (text := text) rfl rfl rfl (text.size - pos) pos (({} : Sre.Seen).add 14) (by omega)
    rw [show text.size - pos + 1 = text.size + 1 - pos by omega] at r
    rcases r with ⟨j, a, b, c, d⟩ | ⟨a, b⟩
    · obtain ⟨k, hk, e⟩ := stA_hit (o := true) (sn := sn') b
      refine ⟨k, hk, .inl ⟨j, a, b, c, ?_⟩⟩
      simp only [d]
      have : M.attemptAt { code := codeA, text, lim := text.size, start := pos, lastStart := text.size, pc := 10, pos, handed := pos, marks := #[], mustAdvance := false, seen := sn' } j true = stA text j true 10 j j true [fS j true] 1 none sn' := by
        simp [M.attemptAt, M.attempt, stA, fS]
      simpa [this] using e
    · refine ⟨1, by omega, .inr ⟨a, ?_⟩⟩
      simp only [b]
      simp [M.runFor, M.step, M.say]
  · exact ⟨1, by omega, .inr ⟨fun i hi x => absurd x.1 (by omega), forSearch_end (by omega) rfl⟩⟩
end Mine

end

section
open PySem PySem.W PyProof.Rows
set_option maxRecDepth 100000
namespace Mine
open PySem.Sre (M ops Op)
open PySem.Builtin PySem.Builtin.Re PySem.Calls

section
variable {Mo : Model} {A : Around} {E : Value → Shared → Prop} {s : Shared}

theorem drive_wp {Q : M → Shared → Prop} : ∀ (n k : Nat) (m : M), (M.runFor k m).outcome.isSome = true → k ≤ 4 * n → 0 < n → Q (M.runFor k m) s → wpAny Mo A (reDrive n m) Q E s
  | 0, _, _, _, _, h, _ => absurd h (by omega)
  | n + 1, k, m, ho, hk, _, hq => by
    show wpAny Mo A (if (M.runFor reTurnSteps m).outcome.isSome = true then pure (M.runFor reTurnSteps m) else do rule "sre.turn"; reDrive n (M.runFor reTurnSteps m)) Q E s
    have e4 : reTurnSteps = 4 := rfl
    rw [e4]
    by_cases h4 : (M.runFor 4 m).outcome.isSome = true
    · rw [if_pos h4]
      have : M.runFor 4 m = M.runFor k m := by
        by_cases q : k ≤ 4
        · exact runFor_mono ho q
        · exact (runFor_mono h4 (by omega)).symm
      rw [this]
      exact wpAny_pure hq
    · rw [if_neg h4]
      have hk4 : 4 < k := by
        by_cases q : k ≤ 4
        · exact absurd ((runFor_mono ho q) ▸ ho) h4
        · omega
      obtain ⟨d, rfl⟩ : ∃ d, k = 4 + d := ⟨k - 4, by omega⟩
      rw [runFor_add] at ho hq
      exact wpAny_bind (wpAny_rule (drive_wp n d _ ho (by omega) (by omega) hq))

theorem runToEnd_wp {Q : Option M → Shared → Prop} {m : M} {k : Nat} (hk : k ≤ 2 ^ 60)
    (h : ((M.runFor k m).outcome = some .matched ∧ Q (some (M.runFor k m)) s) ∨ ((M.runFor k m).outcome = some .failed ∧ Q none s)) : wpAny Mo A (reRunToEnd m) Q E s := by
  unfold reRunToEnd
  have ho : (M.runFor k m).outcome.isSome = true := by rcases h with h | h <;> rw [h.1] <;> rfl
  refine wpAny_bind (drive_wp _ k m ho (by omega) (by omega) ?_)
  have H : wpAny Mo A (forIn (List.range Sre.names.size) PUnit.unit fun i (_ : PUnit) =>
      if (M.runFor k m).seen.has i = true then do
        rule (Sre.names.getD i "")
        pure (ForInStep.yield PUnit.unit)
      else pure (ForInStep.yield PUnit.unit)) (fun _ s' => s' = s) E s := by
    refine wpAny_forIn_list _ (fun _ _ s' => s' = s) _ ?_ (fun b s' e => e) _ _ rfl
    intro x rest b s' e
    subst e
    split
    · exact wpAny_bind (wpAny_rule (wpAny_pure rfl))
    · exact wpAny_pure rfl
  refine wpAny_bind (wpAny_mono H (fun a s' e => ?_) fun _ _ x => x)
  subst e
  rcases h with ⟨h1, h2⟩ | ⟨h1, h2⟩
  · rw [h1]; exact wpAny_pure h2
  · rw [h1]; exact wpAny_pure h2
end

theorem plainAttrs_rePattern : PlainAttrs "re.Pattern" :=
  ⟨⟨"object.__getattribute__", by rw [typeLookup_type, builtinLookup_eq_fast]; kernel_rfl, by decide +kernel⟩, by rw [typeLookup_type, builtinLookup_eq_fast]; kernel_rfl⟩
theorem slot_re_sub : Slot "re.Pattern" "sub" "re.Pattern.sub" :=
  .of (owner := "re.Pattern") (n := "sub") (by rw [typeLookup_type, builtinLookup_eq_fast]; kernel_rfl) (by decide +kernel) (by decide +kernel) (by decide +kernel)
    (by first | exact .inl (by decide +kernel) | exact .inr (by decide +kernel)) (by rw [isSubtype_type]; kernel_rfl)
theorem type_re_sub : typeOf (.builtin "re.Pattern.sub") = pure (.type "method_descriptor") := by show builtinType _ = _; rw [builtinType_eq_fast]; kernel_rfl
theorem entry_re_sub : entryFor table "re.Pattern.sub" = some Builtin.«re.Pattern.sub» := entryFor_of_tree (by kernel_rfl)
theorem entry_re_loop : entryFor table "re.Pattern.sub.loop" = some Builtin.«re.Pattern.sub.loop» := entryFor_of_tree (by kernel_rfl)
theorem plain_re_loop : plainId "re.Pattern.sub.loop" = true := by decide +kernel
theorem args_re_sub (a b c : Value) : argsOk "re.Pattern.sub" ⟨[a, b, c], []⟩ := by
  unfold argsOk
  kernel_rfl
end Mine

end

section
open PySem PySem.W PyProof.Rows
set_option maxRecDepth 100000
namespace Mine
open PySem.Sre (M ops Op)
open PySem.Builtin PySem.Builtin.Re PySem.Calls

/-- a pattern object with its code. -/
structure PatAt (h : Heap) (p : Addr) (code : Array Nat) : Prop where
  ex : ∃ (op oc : Obj) (fs items : Array Value) (c : Addr) (n : Nat) (t2 t6 : Tok), h.get? p = some op ∧ op.cls = .type "re.Pattern" ∧ op.dict = none ∧ op.data = .fields fs ∧ fs.getD 6 .none = .int 0 t6 ∧ fs.getD 2 .none = .int 0 t2 ∧
    fs.getD 5 .none = .ref c ∧ h.get? c = some oc ∧ oc.data = .seq items n ∧ (items.map reRawOf).map (·.toNat) = code
theorem PatAt.keeps {h h' : Heap} {p : Addr} {code : Array Nat} (x : PatAt h p code) (k : ∀ b o, h.get? b = some o → h'.get? b = some o) : PatAt h' p code :=
  let ⟨op, oc, fs, items, c, n, t2, t6, h1, h2, h3, h4, h5, h6, h7, h8, h9⟩ := x.ex
  ⟨op, oc, fs, items, c, n, t2, t6, k _ _ h1, h2, h3, h4, h5, h6, h7, k _ _ h8, h9⟩

inductive Sub (text : Array Nat) (P : Nat → Prop) (e : Nat → Nat) (repl : List Nat) : Nat → List Nat → Prop
  | fin {pos : Nat} (h : ∀ i, pos ≤ i → ¬ P i) : Sub text P e repl pos (text.toList.drop pos)
  | hit {pos j : Nat} {r : List Nat} (h1 : pos ≤ j) (h2 : P j) (h3 : ∀ i, pos ≤ i → i < j → ¬ P i) (h4 : Sub text P e repl (e j) r) : Sub text P e repl pos ((text.toList.drop pos).take (j - pos) ++ repl ++ r)

section
variable {Mo : Model} {A : Around} {E : Value → Shared → Prop} {s : Shared}

theorem wholeTarget_wp {p : Addr} {x : Str} {t : Tok} {code : Array Nat} {Q : ReTarget → Shared → Prop} (hp : PatAt s.heap p code)
    (h : Q { pattern := .ref p, string := .str x t, code, text := x.cps, kind := 0, groups := 0, pos := 0, lim := x.cps.size } s) : wpAny Mo A (reWholeTarget (.ref p) (.str x t)) Q E s := by
  obtain ⟨op, oc, fs, items, c, n, t2, t6, h1, h2, h3, h4, h5, h6, h7, h8, h9, h10⟩ := hp.ex
  unfold reWholeTarget
  refine wpAny_bind (wpAny_fieldsOf h1 h4 ?_)
  refine wpAny_bind (m := reTextOf (.str x t)) (wpAny_pure ?_)
  simp only [h5, h6, h7, reRawNat]
  simp only [Int.toNat_zero, beq_self_eq_true]
  refine wpAny_bind (wpAny_pure ?_)
  refine wpAny_bind (m := reRawItems (.ref c)) ?_
  unfold reRawItems
  refine wpAny_bind (wpAny_seqItems h8 h9 ?_)
  refine wpAny_pure ?_
  refine wpAny_pure ?_
  simp only [Option.getD_some, h10]
  exact h

/-- the pieces' list while the loop runs: all of `h0` stands, `l` is new and holds `its`. -/
structure LH (h0 : Heap) (l : Addr) (its : List Value) (h : Heap) : Prop where
  keep : ∀ b o, h0.get? b = some o → h.get? b = some o
  at_ : ∃ n, h.get? l = some ⟨.type "list", none, .seq its.toArray n, #[]⟩
  new : h0.get? l = none

theorem LH.push_wp {h0 : Heap} {l : Addr} {its : List Value} {v : Value} {Q : Unit → Shared → Prop} (H : LH h0 l its s.heap) (hz : its.length < 16777216)
    (h : ∀ h', LH h0 l (its ++ [v]) h' → Q () { s with heap := h' }) : wpAny Mo A (updateSeq l (·.push v)) Q E s := by
  obtain ⟨n, ho⟩ := H.at_
  refine wpAny_updateSeq ho rfl (h _ ⟨fun b o e => ?_, ?_, H.new⟩) (by rw [List.size_toArray, sizeLine_eq]; omega) (by rw [Array.size_push, List.size_toArray, sizeLine_eq]; omega)
  · have hb : b ≠ l := fun q => by rw [q, H.new] at e; cases e
    exact ((Heap.SameBut.update s.heap l _).2 b hb).trans (H.keep b o e)
  · refine ⟨n + 1, ?_⟩
    rw [Heap.get?_update_self _ ho rfl]
    simp [Obj.mapSeq]

noncomputable def sVals (ps : List (List Nat × Tok)) : List Value := ps.map fun q => .str ⟨q.1.toArray⟩ q.2
theorem strsAre_sVals : ∀ ps : List (List Nat × Tok), StrsAre (sVals ps) (ps.map fun q => ⟨q.1.toArray⟩)
  | [] => .nil
  | q :: r => .cons _ _ (strsAre_sVals r)
theorem join_flat : ∀ ps : List (List Nat × Tok), Txt.join ⟨#[]⟩ (ps.map fun q => (⟨q.1.toArray⟩ : Str)) = ⟨((ps.map (·.1)).flatten).toArray⟩ := by
  intro ps
  unfold Txt.join
  rw [StrLaws.glued_eq_join]
  induction ps with
  | nil => rfl
  | cons q r ih =>
    cases r with
    | nil => simp [Str.join]
    | cons q' r' =>
      show (⟨q.1.toArray⟩ : Str) ++ ⟨#[]⟩ ++ Str.join ⟨#[]⟩ ((q' :: r').map fun q => (⟨q.1.toArray⟩ : Str)) = _
      rw [ih]
      show (⟨q.1.toArray ++ #[] ++ _⟩ : Str) = _
      simp

end
section
variable {prog : Program} {w : World} {A : Around} {E : Value → Shared → Prop} {s : Shared} {R : Result → Shared → Prop}

theorem take_drop_extract (x : Array Nat) (a b : Nat) : (x.extract a b) = ((x.toList.drop a).take (b - a)).toArray := by
  rw [← Array.toList_inj]
  simp [Array.toList_extract, List.extract_eq_take_drop]

theorem fl_app (ps : List (List Nat × Tok)) (q : List Nat × Tok) : ((ps ++ [q]).map (·.1)).flatten = (ps.map (·.1)).flatten ++ q.1 := by simp

theorem loop_code {h0 : Heap} {l p : Addr} {x : Str} {t tr : Tok} {rp code : List Nat} {P : Nat → Prop} {e : Nat → Nat} {bound : Nat} (hp : PatAt h0 p code.toArray)
    (srch : ∀ pos, Out P e pos bound (Sre.forSearch code.toArray x.cps 0 pos x.cps.size false)) (hb : bound ≤ 2 ^ 60) (hP : ∀ j, P j → j < e j ∧ e j ≤ x.cps.size) (hx : x.cps.size ≤ 1000000) (hr : rp.length ≤ 3) :
    ∀ (d pos : Nat) (n : Int) (ps : List (List Nat × Tok)) (s : Shared), x.cps.size - pos ≤ d → pos ≤ x.cps.size → LH h0 l (sVals ps) s.heap → ps.length ≤ 2 * pos → ((ps.map (·.1)).flatten).length ≤ 4 * pos →
      (∀ r, Sub x.cps P e rp pos r → ∀ h' tk t', (∀ b o, h0.get? b = some o → h'.get? b = some o) → R (.ok (.ret (.str ⟨((ps.map (·.1)).flatten ++ r).toArray⟩ t'))) { s with heap := h', toks := tk }) →
      codeAny (model prog w) A (.builtin "re.Pattern.sub.loop" ⟨[.ref p, .str x t, .str ⟨rp.toArray⟩ tr, rawInt 0, rawInt 0, rawInt n, rawInt pos, rawInt pos, .bool false, .ref l, .bool false], []⟩) R s
  | d, pos, n, ps, s, hd, hle, H, hn, hs, hR => by
    have slen : (sVals ps).length = ps.length := by simp [sVals]
    refine codeAny_builtin entry_re_loop ?_
    rw [Around.under_plainId plain_re_loop]
    unfold Builtin.«re.Pattern.sub.loop»
    dsimp only [rawInt]
    refine wpAny_bind (wholeTarget_wp (hp.keeps H.keep) ?_)
    simp only [beq_self_eq_true, if_true, bne_self_eq_false, Bool.false_and, Bool.false_eq_true, if_false, Int.toNat_natCast]
    refine wpAny_bind (m := reLiteralCannotBeTurned (.str ⟨rp.toArray⟩ tr)) (wpAny_pure ?_)
    obtain ⟨k, hk, rr⟩ := srch pos
    rcases rr with ⟨j, j1, j2, j3, ho, hst, hha⟩ | ⟨j1, ho⟩
    · refine wpAny_bind (m := reNextFound _ _ _) (runToEnd_wp (k := k) (by omega) (.inl ⟨ho, ?_⟩))
      generalize M.runFor k (Sre.forSearch code.toArray x.cps 0 pos x.cps.size false) = m' at hst hha
      dsimp only
      rw [hst, hha]
      obtain ⟨p1, p2⟩ := hP j j2
      have hne : (e j == j) = false := beq_eq_false_iff_ne.mpr (by omega)
      rw [hne]
      cases d with
      | zero => omega
      | succ d =>
      have fin : ∀ (ps' : List (List Nat × Tok)) (s' : Shared), ps'.length ≤ 2 * pos + 1 → ((ps'.map (·.1)).flatten).length ≤ 4 * pos + (j - pos) → (ps'.map (·.1)).flatten = (ps.map (·.1)).flatten ++ (x.cps.toList.drop pos).take (j - pos) → LH h0 l (sVals ps') s'.heap →
          s'.gens = s.gens → s'.drawn = s.drawn → s'.os = s.os →
          wpAny (model prog w) A.in1 (do
            let item ← pure (Value.str ⟨rp.toArray⟩ tr)
            if (item != Value.none) = true then do
                updateSeq l fun x => x.push item
                again (Code.builtin "re.Pattern.sub.loop" ⟨[Value.ref p, Value.str x t, Value.str ⟨rp.toArray⟩ tr, Value.int 0 0, Value.int 0 0, Value.int (n + 1) 0, Value.int (e j) 0, Value.int (e j) 0, Value.bool false, Value.ref l, Value.bool false], []⟩)
              else
                again (Code.builtin "re.Pattern.sub.loop" ⟨[Value.ref p, Value.str x t, Value.str ⟨rp.toArray⟩ tr, Value.int 0 0, Value.int 0 0, Value.int (n + 1) 0, Value.int (e j) 0, Value.int (e j) 0, Value.bool false, Value.ref l, Value.bool false], []⟩))
            (fun fin s' => match fin with | .done f => R (.ok f) s' | .again c' => c'.quiet = true ∧ codeAny (model prog w) A c' R s') (fun e s' => R (.error e) s') s' := by
        intro ps' s' q1 q2 q3 H' g1 g2 g3
        have slen' : (sVals ps').length = ps'.length := by simp [sVals]
        refine wpAny_bind (wpAny_pure ?_)
        rw [if_pos (show (Value.str ⟨rp.toArray⟩ tr != Value.none) = true from rfl)]
        refine wpAny_bind (H'.push_wp (by omega) fun h' H2 => ?_)
        refine wpAny_pure ⟨plainId_quiet plain_re_loop _, ?_⟩
        have hps : sVals ps' ++ [.str ⟨rp.toArray⟩ tr] = sVals (ps' ++ [(rp, tr)]) := by simp [sVals]
        rw [hps] at H2
        have hfl : ((ps' ++ [(rp, tr)]).map (·.1)).flatten = (ps.map (·.1)).flatten ++ ((x.cps.toList.drop pos).take (j - pos) ++ rp) := by
          rw [List.map_append, List.flatten_append, q3]; simp
        refine loop_code hp srch hb hP hx hr d (e j) (n + 1) (ps' ++ [(rp, tr)]) { s' with heap := h' } (by omega) p2 H2 (by simp; omega) ?_ fun r hr' h' tk t' k' => ?_
        · rw [List.map_append, List.flatten_append, List.length_append]
          simp only [List.map_cons, List.map_nil, List.flatten_cons, List.flatten_nil, List.append_nil]
          omega
        · have := hR _ (.hit j1 j2 j3 hr') h' tk t' k'
          rw [hfl]
          rw [show (ps.map (·.1)).flatten ++ ((x.cps.toList.drop pos).take (j - pos) ++ rp) ++ r = (ps.map (·.1)).flatten ++ ((x.cps.toList.drop pos).take (j - pos) ++ rp ++ r) by simp only [List.append_assoc]]
          simpa [g1, g2, g3] using this
      by_cases hlt : pos < j
      · rw [if_pos hlt]
        refine wpAny_bind (m := reSlice _ _ _ _) (wpAny_mkStr ?_ ?_)
        · refine wpAny_bind (LH.push_wp (s := { s with toks := s.toks + 1 }) H (by omega) fun h' H2 => ?_)
          rw [take_drop_extract] at H2
          have hps : sVals ps ++ [.str ⟨((x.cps.toList.drop pos).take (j - pos)).toArray⟩ s.toks] = sVals (ps ++ [((x.cps.toList.drop pos).take (j - pos), s.toks)]) := by simp [sVals]
          rw [hps] at H2
          exact fin (ps ++ [((x.cps.toList.drop pos).take (j - pos), s.toks)]) { s with heap := h', toks := s.toks + 1 } (by simp; omega) (by rw [fl_app, List.length_append, List.length_take]; omega) (by rw [fl_app]) H2 rfl rfl rfl
        · show (x.cps.extract pos j).size ≤ _
          rw [sizeLine_eq, Array.size_extract]; omega
      · rw [if_neg hlt]
        have : j - pos = 0 := by omega
        exact fin ps s (by omega) (by omega) (by rw [this]; simp) H rfl rfl rfl
    · refine wpAny_bind (m := reNextFound _ _ _) (runToEnd_wp (k := k) (by omega) (.inr ⟨ho, ?_⟩))
      dsimp only
      have fin : ∀ (ps' : List (List Nat × Tok)) (s' : Shared), ((ps'.map (·.1)).flatten).length ≤ 4 * pos + x.cps.size → (ps'.map (·.1)).flatten = (ps.map (·.1)).flatten ++ x.cps.toList.drop pos → LH h0 l (sVals ps') s'.heap →
          s'.gens = s.gens → s'.drawn = s.drawn → s'.os = s.os →
          wpAny (model prog w) A.in1 (do
            let joiner ← reSlice x.cps 0 0 0
            let items ← seqItems? (.ref l)
            if (items.getD #[]).isEmpty = true then do
                let text ← pure joiner
                ret text
              else do
                let text ← call (Value.builtin "str.join") [joiner, .ref l]
                ret text)
            (fun fin s' => match fin with | .done f => R (.ok f) s' | .again c' => c'.quiet = true ∧ codeAny (model prog w) A c' R s') (fun e s' => R (.error e) s') s' := by
        intro ps' s' q2 q3 H' g1 g2 g3
        refine wpAny_bind (m := reSlice _ _ _ _) (wpAny_mkStr ?_ ?_)
        · obtain ⟨n9, ho9⟩ := H'.at_
          refine wpAny_bind (wpAny_seqItems (s := { s' with toks := s'.toks + 1 }) ho9 rfl ?_)
          have hR' := fun tk t' h' k' => hR _ (.fin j1) h' tk t' k'
          rw [← q3] at hR'
          have hz : x.cps.extract 0 0 = #[] := by simp
          by_cases hps : ps' = []
          · subst hps
            refine wpAny_bind (wpAny_pure ?_)
            rw [hz]
            refine wpAny_pure ?_
            have := hR' (s'.toks + 1) s'.toks s'.heap H'.keep
            simpa [g1, g2, g3] using this
          · rw [if_neg (by cases ps' with | nil => exact absurd rfl hps | cons a b => simp [sVals])]
            rw [hz]
            refine wpAny_bind (join_list (s := { s' with toks := s'.toks + 1 }) ⟨_, ho9, rfl, _, rfl⟩ (strsAre_sVals ps') ?_ fun t' k' => ?_)
            · rw [show (ps'.map fun q => (⟨q.1.toArray⟩ : Str)).map (·.length) = ps'.map fun q => q.1.length by simp [Str.length]]
              have : (ps'.map fun q => q.1.length).sum = ((ps'.map (·.1)).flatten).length := by rw [List.length_flatten, List.map_map]; rfl
              rw [this]
              show _ + _ * 0 ≤ _
              omega
            · rw [join_flat]
              refine wpAny_pure ?_
              have := hR' k' t' s'.heap H'.keep
              simpa [g1, g2, g3] using this
        · show (x.cps.extract 0 0).size ≤ _
          rw [sizeLine_eq, Array.size_extract]; omega
      by_cases hlt : pos < x.cps.size
      · rw [if_pos hlt]
        refine wpAny_bind (m := reSlice _ _ _ _) (wpAny_mkStr ?_ ?_)
        · refine wpAny_bind (LH.push_wp (s := { s with toks := s.toks + 1 }) H (by omega) fun h' H2 => ?_)
          rw [take_drop_extract] at H2
          have htk : (x.cps.toList.drop pos).take (x.cps.size - pos) = x.cps.toList.drop pos := List.take_of_length_le (by simp)
          rw [htk] at H2
          have hps : sVals ps ++ [.str ⟨(x.cps.toList.drop pos).toArray⟩ s.toks] = sVals (ps ++ [(x.cps.toList.drop pos, s.toks)]) := by simp [sVals]
          rw [hps] at H2
          exact fin (ps ++ [(x.cps.toList.drop pos, s.toks)]) { s with heap := h', toks := s.toks + 1 } (by rw [fl_app, List.length_append, List.length_drop, (show x.cps.toList.length = x.cps.size by simp)]; omega) (by rw [fl_app]) H2 rfl rfl rfl
        · show (x.cps.extract pos x.cps.size).size ≤ _
          rw [sizeLine_eq, Array.size_extract]; omega
      · rw [if_neg hlt]
        have hz : x.cps.toList.drop pos = [] := List.drop_of_length_le (by simp; omega)
        exact fin ps s (by omega) (by rw [hz]; simp) H rfl rfl rfl

theorem str_no_call : typeLookup (.type "str") "__call__" = pure none := by rw [typeLookup_type, builtinLookup_eq_fast]; kernel_rfl

theorem re_sub_lit {p : Addr} {x : Str} {t tr : Tok} {rp code : List Nat} {P : Nat → Prop} {e : Nat → Nat} {bound : Nat} {E Q : Value → Shared → Prop} (hp : PatAt s.heap p code.toArray)
    (srch : ∀ pos, Out P e pos bound (Sre.forSearch code.toArray x.cps 0 pos x.cps.size false)) (hb : bound ≤ 2 ^ 60) (hP : ∀ j, P j → j < e j ∧ e j ≤ x.cps.size) (hx : x.cps.size ≤ 1000000) (hr : rp.length ≤ 3) (h92 : rp.contains 92 = false)
    (h : ∀ r, Sub x.cps P e rp 0 r → ∀ h' tk t', (∀ b o, s.heap.get? b = some o → h'.get? b = some o) → Q (.str ⟨r.toArray⟩ t') { s with heap := h', toks := tk }) :
    wpAny (model prog w) A (call (.builtin "re.Pattern.sub") [.ref p, .str ⟨rp.toArray⟩ tr, .str x t]) Q E s := by
  have hT : s.TypeIs (.ref p) "re.Pattern" := by
    obtain ⟨op, oc, fs, items, c, n, t2, t6, h1, h2, _⟩ := hp.ex
    exact ⟨op, h1, h2⟩
  refine wpAny_call (codeAny_call_builtin slot_re_sub.plain entry_re_sub (slot_re_sub.check _ _ _ _ _ _ _ _ hT (args_re_sub _ _ _) ?_))
  unfold Builtin.«re.Pattern.sub» reSubstitute
  dsimp only
  refine wpAny_bind (m := reNamed _ _ _ _ _ _) (wpAny_pure (a := [some (Value.str ⟨rp.toArray⟩ tr), some (Value.str x t), none]) ?_)
  dsimp only
  refine wpAny_bind (wpAny_pure ?_)
  refine wpAny_bind (wpAny_specialOf_val (T := "str") (r := none) rfl str_no_call ?_)
  simp only [Option.isSome_none, Bool.false_eq_true, if_false]
  refine wpAny_bind (m := asStr? _) (wpAny_pure (a := some (Str.mk rp.toArray)) ?_)
  dsimp only
  refine wpAny_bind (wpAny_pure ?_)
  rw [if_pos (by simpa using h92)]
  refine wpAny_bind (wpAny_pure ?_)
  refine wpAny_bind (wpAny_holding (wholeTarget_wp hp ?_))
  rw [if_neg (by dsimp only; decide)]
  refine wpAny_bind (wpAny_newList ?_)
  refine wpAny_pure ⟨plainId_quiet plain_re_loop _, ?_⟩
  refine loop_code (h0 := s.heap) (l := s.heap.objs.size) (x := x) (rp := rp) (code := code) hp srch hb hP hx hr x.cps.size 0 0 [] _ (by omega) (by omega) ?_ (by simp) (by simp) fun r hr' h' tk t' k' => ?_
  · refine ⟨fun b o e => Heap.get?_push_of_some _ e, ⟨0, Heap.get?_push_size _ rfl⟩, ?_⟩
    cases e : s.heap.get? s.heap.objs.size with
    | none => rfl
    | some o => exact absurd (Heap.lt_size e) (Nat.lt_irrefl _)
  · exact h r hr' h' tk t' k'
end
end Mine

end

section
open PySem PySem.W PyProof.Rows
set_option maxRecDepth 100000
namespace Mine

/-- every end of a row (CR LF, LF, CR) becomes CR LF; the flag says that a CR stood right ahead. -/
noncomputable def normF : Bool → List Nat → List Nat
  | _, [] => []
  | p, c :: t => if c = 13 then 13 :: 10 :: normF true t else if c = 10 then (if p = true then normF false t else 13 :: 10 :: normF false t) else c :: normF false t
noncomputable def normA (l : List Nat) : List Nat := normF false l

theorem normA_nil : normA [] = [] := rfl
theorem normA_crlf (t : List Nat) : normA (13 :: 10 :: t) = 13 :: 10 :: normA t := by simp [normA, normF]
theorem normF_head (t : List Nat) (h : ∀ t', t ≠ 10 :: t') : normF true t = normF false t := by
  cases t with
  | nil => rfl
  | cons c t =>
    have : c ≠ 10 := fun e => h t (by rw [e])
    simp [normF, this]
theorem normA_cr (t : List Nat) (h : ∀ t', t ≠ 10 :: t') : normA (13 :: t) = 13 :: 10 :: normA t := by
  simp [normA, normF, normF_head t h]
theorem normA_lf (t : List Nat) : normA (10 :: t) = 13 :: 10 :: normA t := by simp [normA, normF]
theorem normA_other {c : Nat} (t : List Nat) (h1 : c ≠ 13) (h2 : c ≠ 10) : normA (c :: t) = c :: normA t := by simp [normA, normF, h1, h2]

/-- a dot at a row's start is doubled. -/
noncomputable def dotB : Bool → List Nat → List Nat
  | _, [] => []
  | b, c :: t => if b = true ∧ c = 46 then 46 :: 46 :: dotB false t else c :: dotB (c == 10) t

theorem drop_at {text : Array Nat} {j : Nat} (h : j < text.size) : text.toList.drop j = text[j]?.getD 0 :: text.toList.drop (j + 1) := by
  rw [List.drop_eq_getElem_cons (by simpa using h)]
  simp [h]

theorem normA_pre {text : Array Nat} : ∀ (d pos j : Nat), j = pos + d → j ≤ text.size → (∀ i, pos ≤ i → i < j → ¬ isA text i) → normA (text.toList.drop pos) = (text.toList.drop pos).take (j - pos) ++ normA (text.toList.drop j)
  | 0, pos, j, e, _, _ => by subst e; simp
  | d + 1, pos, j, e, hj, h => by
    have hp : pos < text.size := by omega
    have hn := h pos (Nat.le_refl _) (by omega)
    have h1 : text[pos]?.getD 0 ≠ 13 := fun q => hn ⟨hp, .inl q⟩
    have h2 : text[pos]?.getD 0 ≠ 10 := fun q => hn ⟨hp, .inr q⟩
    rw [drop_at hp, normA_other _ h1 h2, normA_pre d (pos + 1) j (by omega) hj (fun i a b => h i (by omega) b)]
    rw [show j - pos = (j - (pos + 1)) + 1 by omega, List.take_succ_cons]
    rfl

theorem endA_gt {text : Array Nat} {j : Nat} (h : isA text j) : j < endA text j ∧ endA text j ≤ text.size := by
  unfold endA
  split
  · rename_i q; omega
  · have := h.1; omega

theorem normA_hit {text : Array Nat} {j : Nat} (h : isA text j) : normA (text.toList.drop j) = [13, 10] ++ normA (text.toList.drop (endA text j)) := by
  obtain ⟨hl, hc⟩ := h
  rw [drop_at hl]
  unfold endA
  rcases hc with hc | hc
  · rw [hc]
    by_cases q : j + 1 < text.size ∧ text[j + 1]?.getD 0 = 10
    · rw [if_pos ⟨rfl, q⟩, drop_at q.1, q.2, normA_crlf]; rfl
    · rw [if_neg (fun x => q x.2), normA_cr]
      · rfl
      · intro t' e
        apply q
        by_cases z : j + 1 < text.size
        · rw [drop_at z] at e
          exact ⟨z, (List.cons.inj e).1⟩
        · rw [List.drop_of_length_le (by simp; omega)] at e
          cases e
  · rw [hc, if_neg (fun x => by have := x.1; omega), normA_lf]; rfl

theorem subA {text : Array Nat} {pos : Nat} {r : List Nat} (h : Sub text (isA text) (endA text) [13, 10] pos r) : r = normA (text.toList.drop pos) := by
  induction h with
  | @fin pos h =>
    by_cases q : pos ≤ text.size
    · have := normA_pre (text := text) (text.size - pos) pos text.size (by omega) (Nat.le_refl _) (fun i a _ => h i a)
      rw [this, List.drop_of_length_le (i := text.size) (by simp), normA_nil, List.append_nil, List.take_of_length_le (by simp)]
    · rw [List.drop_of_length_le (by simp; omega), normA_nil]
  | @hit pos j r h1 h2 h3 h4 ih =>
    rw [normA_pre (j - pos) pos j (by omega) (by have := h2.1; omega) h3, normA_hit h2, ih, List.append_assoc]

noncomputable def bolAt (text : Array Nat) (i : Nat) : Bool := decide (i = 0 ∨ text[i - 1]?.getD 0 = 10)

theorem dotB_pre {text : Array Nat} : ∀ (d pos j : Nat), j = pos + d → j ≤ text.size → (∀ i, pos ≤ i → i < j → ¬ isB text i) → dotB (bolAt text pos) (text.toList.drop pos) = (text.toList.drop pos).take (j - pos) ++ dotB (bolAt text j) (text.toList.drop j)
  | 0, pos, j, e, _, _ => by subst e; simp
  | d + 1, pos, j, e, hj, h => by
    have hp : pos < text.size := by omega
    have hn := h pos (Nat.le_refl _) (by omega)
    have h1 : ¬ (bolAt text pos = true ∧ text[pos]?.getD 0 = 46) := fun q => hn ⟨of_decide_eq_true q.1, hp, q.2⟩
    have hb : (text[pos]?.getD 0 == 10) = bolAt text (pos + 1) := by
      unfold bolAt
      rw [Bool.beq_eq_decide_eq]
      simp
    rw [drop_at hp]
    show (if bolAt text pos = true ∧ text[pos]?.getD 0 = 46 then _ else text[pos]?.getD 0 :: dotB (text[pos]?.getD 0 == 10) (text.toList.drop (pos + 1))) = _
    rw [if_neg h1, hb, dotB_pre d (pos + 1) j (by omega) hj (fun i a b => h i (by omega) b)]
    rw [show j - pos = (j - (pos + 1)) + 1 by omega, List.take_succ_cons]
    rfl

theorem subB {text : Array Nat} {pos : Nat} {r : List Nat} (h : Sub text (isB text) (fun j => j + 1) [46, 46] pos r) : r = dotB (bolAt text pos) (text.toList.drop pos) := by
  induction h with
  | @fin pos h =>
    by_cases q : pos ≤ text.size
    · have := dotB_pre (text := text) (text.size - pos) pos text.size (by omega) (Nat.le_refl _) (fun i a _ => h i a)
      rw [this, List.drop_of_length_le (i := text.size) (by simp)]
      show _ = _ ++ []
      rw [List.append_nil, List.take_of_length_le (by simp)]
    · rw [List.drop_of_length_le (by simp; omega)]; rfl
  | @hit pos j r h1 h2 h3 h4 ih =>
    have hb : bolAt text j = true := decide_eq_true h2.1
    have hb' : bolAt text (j + 1) = false := by
      unfold bolAt
      simp [h2.2.2]
    rw [dotB_pre (j - pos) pos j (by omega) (by have := h2.2.1; omega) h3, drop_at h2.2.1, h2.2.2, hb, ih, hb']
    show _ = _ ++ (if true = true ∧ 46 = 46 then 46 :: 46 :: dotB false _ else _)
    rw [if_pos ⟨rfl, rfl⟩]
    simp

/-- what 'quotedata' sends. -/
noncomputable def quoted (l : List Nat) : List Nat := dotB true (normA l)
end Mine

end

section
open PySem PySem.W PyProof.Rows
set_option maxRecDepth 100000
namespace Mine

structure Sx (w : World) (A : Around) (h₀ : Heap) (L : Addr) (k : Nat) : Prop where
  X : (K w.params).In h₀
  T : ∃ p loose mean mg mb, Top p loose mean mg mb h₀
  B : ∃ A₀ base outer env, Below A₀ base outer h₀ ∧ A.frames = some (env :: outer) ∧ env.frame = some L ∧ env.scope.kind = .function
  hd : A.depth + k < recursionLimit
  hu : A.units + 8 * k < cLine
  hh : A.handled = none
theorem Sx.less {w : World} {A : Around} {h₀ : Heap} {L : Addr} {k k' : Nat} (S : Sx w A h₀ L k) (h : k' ≤ k) : Sx w A h₀ L k' :=
  ⟨S.X, S.T, S.B, by have := S.hd; omega, by have := S.hu; omega, S.hh⟩

section
variable {prog : Program} {w : World} {A : Around} {E : Value → Shared → Prop} {s : Shared} {h₀ : Heap} {L : Addr} {m : Str → Option Value} {news : List (Addr × Obj)} {k : Nat}

theorem enter {R : Result → Shared → Prop} {name qual : Str} {params : Arguments} {body : List Stmt} {scope : Scope} {dV kV doc pm cdv ct oc : Value} {an od : Option Addr} {osl : Array (Option Value)} {f : Addr} {args : Args} {binds : List (Str × Value)}
    (S : Sx w A h₀ L (k + 1)) (F : Fr h₀ L s.heap m) (N : News h₀ L s.heap news)
    (ho : (K w.params).lookup f = some ⟨oc, od, .func (fnOf name qual params body scope dV kV doc pm an cdv ct), osl⟩) (hcd : codeIn (K w.params) cdv qual = true)
    (hbind : BindsTo s (fnOf name qual params body scope dV kV doc pm an cdv ct) args binds) (hloc : ∀ y ∈ binds, scope.names.lookup y.1 = some .local)
    (hco : scope.isCoroutine = false) (hgen : scope.isGenerator = false) (hk : scope.kind = .function) (hcell : ∀ x ∈ scope.names, x.2 ≠ .cell)
    (h : ∀ g L' h₁, Sx w (A.deeper (envOf qual scope L' f cdv)) g L' k → Fr g L' h₁ (fun y => binds.reverse.lookup y) → News g L' h₁ news → (∀ b o, g.get? b = some o → h₁.get? b = some o) →
      wpAny (model prog w) (A.deeper (envOf qual scope L' f cdv)) (execs body (envOf qual scope L' f cdv))
        (fun fl s' => LeaveK h₀ L m g R (match fl with | .ret v => v | _ => .none) s')
        (fun _ _ => False)
        { s with heap := h₁, toks := s.toks + binds.length }) : codeAny (model prog w) A (.call (.ref f) args) R s := by
  obtain ⟨p, loose, mean, mg, mb, T⟩ := S.T
  obtain ⟨A₀, base, outer, env, B, hA, hf, hke⟩ := S.B
  refine code_def B F S.X N T hA hf hke ho hcd (by have := S.hd; omega) hbind hloc (fun g L' h₁ FG F' N' B' X' T' => ?_) hco hgen hk hcell
  refine wpAny_mono (h g L' h₁ ⟨X', ⟨_, _, _, _, _, T'⟩, ⟨_, _, _, envOf qual scope L' f cdv, B', ?_, rfl, hk⟩, ?_, ?_, S.hh⟩ F' N' (fun b o e => F'.keep b o e)) (fun _ _ x => x) (fun _ _ x => x.elim)
  · exact Around.frames_deeper hA
  · have := S.hd
    show A.depth + 1 + k < _
    omega
  · have := S.hu
    show A.units + 3 + 8 * k < _
    omega

theorem Sx.glob {cn : Str} {cs : Scope} {a : Addr} {ccd : Value} {x : Str} {pos : Pos} {v : Value} {Q : Value → Shared → Prop} (S : Sx w A h₀ L k) (F : Fr h₀ L s.heap m)
    (e : nsIn (K w.params) mainGlobals x = some (some v)) (h : Q v s)
    (hk : cs.kind = .function := by rfl) (hx : (envOf cn cs L a ccd).kindOf x = some .globalImplicit := by rfl) (hd : (x == ("__debug__" : Str)) = false := by decide) :
    wpAny (model prog w) A (eval (.Name x pos) (envOf cn cs L a ccd)) Q E s := by
  obtain ⟨p, loose, mean, mg, mb, T⟩ := S.T
  exact nameX_K (cl := []) F S.X (topRead_of T) e h hk hx hd
theorem Sx.blt {cn : Str} {cs : Scope} {a : Addr} {ccd : Value} {x : Str} {pos : Pos} {v : Value} {Q : Value → Shared → Prop} (S : Sx w A h₀ L k) (F : Fr h₀ L s.heap m)
    (e : nsIn (K w.params) mainGlobals x = some none) (hv : bootBuiltins x = some v) (hn : x ≠ "__name__") (h : Q v s)
    (hk : cs.kind = .function := by rfl) (hx : (envOf cn cs L a ccd).kindOf x = some .globalImplicit := by rfl) (hd : (x == ("__debug__" : Str)) = false := by decide) :
    wpAny (model prog w) A (eval (.Name x pos) (envOf cn cs L a ccd)) Q E s := by
  obtain ⟨p, loose, mean, mg, mb, T⟩ := S.T
  exact nameX_B (cl := []) F S.X (topRead_of T) e hv hn h hk hx hd
end

noncomputable def Held (h₀ : Heap) (s₁ : Shared) (P : Prop) : Prop := (∀ b o, h₀.get? b = some o → s₁.heap.get? b = some o) ∧ P
theorem Held.intro {h₀ : Heap} {L : Addr} {m : Str → Option Value} {s₁ : Shared} {P : Prop} (F : Fr h₀ L s₁.heap m) (h : P) : Held h₀ s₁ P := ⟨F.keep, h⟩
section
variable {prog : Program} {w : World} {A A' : Around} {E : Value → Shared → Prop} {s : Shared} {h₀ : Heap} {L : Addr} {k : Nat} {env : Env} {pos : Pos} {f : Addr} {o : Obj} {fd : FuncData} {e : PySem.Expr} {rest : List PySem.Expr}
theorem Sx.fn {Q : Value → Shared → Prop} (S : Sx w A' h₀ L k) (hl : (K w.params).lookup f = some o) (hd : o.data = .func fd)
    (h : wpAny (model prog w) A (spliced (backTo pos (starEach (e :: rest) env))) (fun vs s₁ => Held h₀ s₁ (wpAny (model prog w) A (call (.ref f) vs) Q E s₁)) E s)
    (he : starEach (e :: rest) env = (false, eval e env) :: starEach rest env := by rfl) :
    wpAny (model prog w) A (callWith pos (.ref f) [] (backTo pos (starEach (e :: rest) env)) []) Q E s :=
  callWith_def hd (wpAny_mono h (fun _ _ h₁ => ⟨h₁.1 _ _ (S.X f o hl), h₁.2⟩) fun _ _ x => x) he
theorem Sx.fnkw {args : List (Bool × Sem Value)} {keywords : List (Option Str × Sem Value)} {Q : Value → Shared → Prop} (S : Sx w A' h₀ L k) (hl : (K w.params).lookup f = some o) (hd : o.data = .func fd)
    (h : wpAny (model prog w) A (evalArgs (.ref f) true args keywords) (fun x s₁ => Held h₀ s₁ (wpAny (model prog w) A (call (.ref f) x.pos x.kw) Q E s₁)) E s) :
    wpAny (model prog w) A (callWith pos (.ref f) [] args keywords) Q E s :=
  callWith_def_kw hd (wpAny_mono h (fun _ _ h₁ => ⟨h₁.1 _ _ (S.X f o hl), h₁.2⟩) fun _ _ x => x)
end
theorem g_twin1 (P : Params) : nsIn (K P) mainGlobals (Str.ofString "twin_re_1_smtplib") = some (some (.ref 139)) := by kernel_rfl
theorem g_twin2 (P : Params) : nsIn (K P) mainGlobals (Str.ofString "_twin_re_2") = some (some (.ref 144)) := by kernel_rfl
theorem g_CRLF (P : Params) : nsIn (K P) mainGlobals (Str.ofString "CRLF") = some (some (.str (Str.ofString "\r\n") 667)) := by kernel_rfl

theorem patA {w : World} {h : Heap} (X : (K w.params).In h) : PatAt h 144 codeA :=
  ⟨_, _, _, _, _, _, _, _, X 144 _ rfl, rfl, rfl, rfl, rfl, rfl, rfl, X 143 _ rfl, rfl, by decide +kernel⟩
theorem patB {w : World} {h : Heap} (X : (K w.params).In h) : PatAt h 139 codeB :=
  ⟨_, _, _, _, _, _, _, _, X 139 _ rfl, rfl, rfl, rfl, rfl, rfl, rfl, X 138 _ rfl, rfl, by decide +kernel⟩
end Mine

end

section
open PySem PySem.W PyProof.Rows PySem.Calls
set_option maxRecDepth 100000
namespace Mine
section
variable {prog : Program} {w : World} {A : Around} {E Q : Value → Shared → Prop} {s : Shared} {h₀ : Heap} {L : Addr} {m : Str → Option Value} {news : List (Addr × Obj)}

theorem frK {h₀ h h' : Heap} {L : Addr} {m : Str → Option Value} (F : Fr h₀ L h m) (k : ∀ b o, h.get? b = some o → h'.get? b = some o) : Fr h₀ L h' m :=
  ⟨F.ns.keeps k, fun b o e => k _ _ (F.keep b o e), F.above⟩
theorem newsK {h₀ h h' : Heap} {L : Addr} {news : List (Addr × Obj)} (N : News h₀ L h news) (k : ∀ b o, h.get? b = some o → h'.get? b = some o) : News h₀ L h' news :=
  fun p hp => ⟨k _ _ (N p hp).1, (N p hp).2⟩

theorem re_method {s : Shared} {p : Addr} {code : Array Nat} {pl : Sem Bool} {Q : Value × List Value → Shared → Prop} (hp : PatAt s.heap p code) (h : Q (.builtin "re.Pattern.sub", [.ref p]) s) :
    wpAny (model prog w) A (getMethod (.ref p) (Str.ofString "sub") pl) Q E s := by
  obtain ⟨op, oc, fs, items, c, n, t2, t6, h1, h2, h3, _⟩ := hp.ex
  exact getMethod_builtin (T := "re.Pattern") ⟨op, h1, h2⟩ plainAttrs_rePattern slot_re_sub type_re_sub (fun a e => by cases e; exact ⟨op, h1, h3⟩) h

theorem size_normA (l : List Nat) : ∀ b, (normF b l).length ≤ 2 * l.length := by
  induction l with
  | nil => intro b; exact Nat.le_refl _
  | cons c t ih =>
    intro b
    have h1 := ih true
    have h2 := ih false
    simp only [normF, List.length_cons]
    split
    · simp only [List.length_cons]; omega
    · split
      · split
        · omega
        · simp only [List.length_cons]; omega
      · simp only [List.length_cons]; omega

theorem c_quotedata {x : Str} {t : Tok} (S : Sx w A h₀ L 3) (F : Fr h₀ L s.heap m) (N : News h₀ L s.heap news) (hx : x.cps.size ≤ 400000)
    (h : ∀ t' h' tk, Fr h₀ L h' m → News h₀ L h' news → Q (.str ⟨(quoted x.cps.toList).toArray⟩ t') { s with heap := h', toks := tk }) :
    wpAny (model prog w) A (call (.ref 151) [.str x t]) Q E s := by
  refine wpAny_call (enter (k := 2) (binds := [(Str.ofString "data", .str x t)]) S F N rfl rfl (BindsTo.of_eq rfl) (locs rfl) rfl rfl rfl (by decide) fun g L' h₁ S' F' N' kp => ?_)
  have X' := S'.X.keeps F'.keep
  refine wpAny_execs_cons (wpAny_Return_some ?_)
  refine MethodCall_ (S'.glob F' (g_twin1 _) ?_)
  refine re_method (patB X') ?_
  refine callWith_method1 (spliced_more (Constant_str (spliced_more ?_)))
  refine MethodCall_ (S'.glob F' (g_twin2 _) ?_)
  refine re_method (patA X') ?_
  refine callWith_method1 (spliced_more (S'.glob F' (g_CRLF _) (spliced_more (ld F' rfl (spliced_none ?_)))))
  have eA : Str.ofString "\r\n" = ⟨([13, 10] : List Nat).toArray⟩ := by decide
  have eB : Str.ofString ".." = ⟨([46, 46] : List Nat).toArray⟩ := by decide
  rw [eA]
  refine re_sub_lit (rp := [13, 10]) (code := codeA.toList) (patA X') (searchA _) (by decide) (fun j => endA_gt) (by omega) (by decide) (by decide) fun r hr h2 tk t2 k2 => ?_
  refine spliced_none ?_
  have hr' := subA hr
  rw [List.drop_zero] at hr'
  subst hr'
  rw [eB]
  have hz := size_normA x.cps.toList false
  have hz2 : (⟨(normA x.cps.toList).toArray⟩ : Str).cps.size ≤ 800000 := by
    show (normA x.cps.toList).toArray.size ≤ _
    rw [List.size_toArray]
    have : x.cps.toList.length = x.cps.size := by simp
    unfold normA
    omega
  have F2 := frK F' k2
  have N2 := newsK N' k2
  refine re_sub_lit (s := { s with heap := h2, toks := tk }) (rp := [46, 46]) (code := codeB.toList) (patB (S'.X.keeps F2.keep)) (searchB _) (by omega) (fun j hj => ⟨Nat.lt_succ_self _, hj.2.1⟩) (by omega) (by decide) (by decide) fun r hr h3 tk3 t3 k3 => ?_
  have hr' := subB hr
  rw [List.drop_zero] at hr'
  subst hr'
  have F3 := frK F2 k3
  have N3 := newsK N2 k3
  refine leaveK_ F3 N3 fun F4 N4 => ?_
  exact h t3 h3 tk3 F4 N4
end
end Mine

end

section
open PySem PySem.W PyProof.Rows PySem.Calls
set_option maxRecDepth 100000
set_option maxHeartbeats 1000000
namespace Mine
section
variable {prog : Program} {w : World} {A : Around} {E Q : Value → Shared → Prop} {s : Shared} {h₀ : Heap} {L : Addr} {m : Str → Option Value} {news : List (Addr × Obj)}
noncomputable def b64v (c : Int) : Int := if 65 ≤ c ∧ c ≤ 90 then c - 65 else if 97 ≤ c ∧ c ≤ 122 then c - 71 else if 48 ≤ c ∧ c ≤ 57 then c + 4 else if c = 43 then 62 else if c = 47 then 63 else 64
theorem endI {Q : Value → Shared → Prop} {x y : Int} {t : Tok} {s' : Shared} (e : y = x) (h : Q (.int x t) s') : Q (.int y t) s' := e ▸ h

theorem c_b64_value {c : Int} {t : Tok} (S : Sx w A h₀ L 3) (F : Fr h₀ L s.heap m) (N : News h₀ L s.heap news)
    (h : ∀ t' h' tk, Fr h₀ L h' m → News h₀ L h' news → Q (.int (b64v c) t') { s with heap := h', toks := tk }) :
    wpAny (model prog w) A (call (.ref 80) [.int c t]) Q E s := by
  refine wpAny_call (enter (k := 2) (binds := [(Str.ofString "c", .int c t)]) S F N rfl rfl (BindsTo.of_eq rfl) (locs rfl) rfl rfl rfl (by decide) fun g L' h₁ S' F' N' kp => ?_)
  repeat' walk1
  all_goals (
    refine leaveK_ F' N' fun F4 N4 => ?_
    show Q (Value.int _ _) _
    refine endI (x := b64v c) ?_ (h _ _ _ F4 N4)
    clear h S F N S' F' N' kp F4 N4
    try simp only [decide_eq_true_eq, decide_eq_false_iff_not, Bool.not_eq_true, beq_iff_eq, beq_eq_false_iff_ne] at *
    unfold b64v
    (repeat' split) <;> omega)
end
end Mine

end

section
open PySem PySem.W PyProof.Rows PySem.Calls
set_option maxRecDepth 100000
set_option maxHeartbeats 1000000
namespace Mine
open PySem.Builtin PySem.Builtin.Str PySem.Builtin._codecs
section
variable {prog : Program} {w : World} {A : Around} {E Q : Value → Shared → Prop} {s : Shared}

theorem foldl_push (l : List Nat) (out : Array UInt8) : l.foldl (fun acc y => acc ++ (asciiCodec.bytesOf y).toArray) out = out ++ (l.map (·.toUInt8)).toArray := by
  induction l generalizing out with
  | nil => simp
  | cons c l ih =>
    rw [List.foldl_cons, ih]
    simp [asciiCodec]

theorem narrow_wp {Mo : Model} {x : Str} {self : Value} {Q : Array UInt8 → Shared → Prop} (hx : x.cps.size ≤ 1000000) (ha : ∀ c ∈ x.cps, c < 128) (h : Q (x.cps.map (·.toUInt8)) s) :
    wpAny Mo A (encodeNarrow "str.encode" asciiCodec none self x) Q E s := by
  unfold encodeNarrow
  dsimp only
  rw [Std.Legacy.Range.forIn_eq_forIn_range']
  have hbad : ∀ c ∈ x.cps, asciiCodec.bad c = false := fun c hc => by
    show decide (c ≥ 128) = false
    exact decide_eq_false (by have := ha c hc; omega)
  refine wpAny_bind (wpAny_mono (Q := fun r s' => s' = s ∧ r.2.1 = x.cps.map (·.toUInt8)) ?_ (fun r s' hr => ?_) fun _ _ e => e)
  · refine wpAny_forIn_list _ (fun rest st s' => s' = s ∧ ((rest.length = x.cps.size ∧ st.1 = 0 ∧ st.2.1 = #[]) ∨ (st.1 = x.cps.size ∧ st.2.1 = x.cps.map (·.toUInt8)))) _ ?_ ?_ _ _ ⟨rfl, .inl ⟨by simp [Str.length], rfl, rfl⟩⟩
    · intro y rest st9 s' hI
      obtain ⟨i, out, st⟩ := st9
      obtain ⟨e0, hI⟩ := hI
      subst e0
      dsimp only at hI ⊢
      rcases hI with ⟨hl, e1, e2⟩ | ⟨e1, e2⟩ <;> rw [e1, e2]
      · have hpos : 0 < x.cps.size := by rw [← hl]; simp
        rw [if_neg (by simp), Array.getElem?_eq_getElem hpos]
        dsimp only
        rw [hbad _ (Array.getElem_mem _)]
        have hex : x.cps.extract 0 = x.cps := by simp
        have hf : x.cps.findIdx? asciiCodec.bad = none := by
          rw [Array.findIdx?_eq_none_iff]
          exact hbad
        rw [hex]
        rw [if_pos (show (!false) = true from rfl), hf]
        refine wpAny_pure ⟨rfl, .inr ⟨by simp, ?_⟩⟩
        rw [← Array.foldl_toList, foldl_push, ← Array.toList_inj]
        simp
      · rw [if_neg (by rw [Array.size_map, sizeLine_eq]; omega)]
        rw [Array.getElem?_eq_none (Nat.le_refl _)]
        exact wpAny_pure ⟨rfl, rfl⟩
    · intro st9 s' hI
      obtain ⟨i, out, st⟩ := st9
      obtain ⟨e0, hI⟩ := hI
      refine ⟨e0, ?_⟩
      rcases hI with ⟨hl, h1, h2⟩ | ⟨_, h2⟩
      · have : x.cps = #[] := by simpa using hl.symm
        rw [h2, this]; simp
      · exact h2
  · obtain ⟨rfl, hr⟩ := hr
    rw [hr]
    exact wpAny_pure h

theorem call_encode_ascii {x : Str} {t te : Tok} (hx : x.cps.size ≤ 1000000) (ha : ∀ c ∈ x.cps, c < 128) (h : Q (.bytes (x.cps.map (·.toUInt8)) s.toks) { s with toks := s.toks + 1 }) :
    wpAny (model prog w) A (call (.builtin "str.encode") [.str x t, .str (Str.ofString "ascii") te]) Q E s := by
  refine wpAny_call_entry F.slot_str_encode (typeIs_str _ _ _) F.entry_str_encode ?_ (F.args_str_encode_2 _ _)
  unfold Builtin.«str.encode»
  refine wpAny_bind (m := strSelf _) (wpAny_pure (a := (Value.str x t, x, [Value.str (Str.ofString "ascii") te])) ?_)
  dsimp only
  refine wpAny_bind (wpAny_of_eq (a := [some (Value.str (Str.ofString "ascii") te), none]) (by kernel_rfl) ?_)
  dsimp only
  refine wpAny_bind (wpAny_of_eq (a := some (Str.ofString "ascii")) (by kernel_rfl) ?_)
  refine wpAny_bind (wpAny_of_eq (a := none) (by kernel_rfl) ?_)
  have e : encodeRoad "str.encode" (.str x t) x ((some (Str.ofString "ascii")).getD (Str.ofString "utf-8")) none = (do mkBytes (← encodeNarrow "str.encode" asciiCodec none (.str x t) x)) := by kernel_rfl
  rw [e]
  refine wpAny_bind (wpAny_bind (narrow_wp hx ha ?_))
  unfold mkBytes
  rw [if_neg (by rw [Array.size_map, sizeLine_eq]; omega)]
  refine wpAny_bind (wpAny_fresh ?_)
  exact wpAny_pure (wpAny_pure ⟨_, rfl, h⟩)
end
end Mine

end

section
open PySem PySem.W PyProof.Rows PySem.Calls
set_option maxRecDepth 100000
set_option maxHeartbeats 1000000
namespace Mine
theorem g_bytes_types (P : Params) : nsIn (K P) mainGlobals (Str.ofString "bytes_types") = some (some (.ref 39)) := by kernel_rfl
theorem n_str (P : Params) : nsIn (K P) mainGlobals (Str.ofString "str") = some none := by kernel_rfl
theorem n_type (P : Params) : nsIn (K P) mainGlobals (Str.ofString "type") = some none := by kernel_rfl
theorem n_bytes (P : Params) : nsIn (K P) mainGlobals (Str.ofString "bytes") = some none := by kernel_rfl
theorem n_bool (P : Params) : nsIn (K P) mainGlobals (Str.ofString "bool") = some none := by kernel_rfl
theorem n_isinstance (P : Params) : nsIn (K P) mainGlobals (Str.ofString "isinstance") = some none := by kernel_rfl
local macro_rules | `(tactic| walk_at "eval Name") => `(tactic| first
  | ((with_reducible show wpAny _ _ (eval (PySem.Expr.Name (Str.ofString "bytes_types") _) _) _ _ _); refine Sx.glob (by assumption) (by assumption) (g_bytes_types _) ?_)
  | ((with_reducible show wpAny _ _ (eval (PySem.Expr.Name (Str.ofString "str") _) _) _ _ _); refine Sx.blt (by assumption) (by assumption) (n_str _) (by boot_fast) (by decide) ?_)
  | ((with_reducible show wpAny _ _ (eval (PySem.Expr.Name (Str.ofString "type") _) _) _ _ _); refine Sx.blt (by assumption) (by assumption) (n_type _) (by boot_fast) (by decide) ?_)
  | ((with_reducible show wpAny _ _ (eval (PySem.Expr.Name (Str.ofString "bytes") _) _) _ _ _); refine Sx.blt (by assumption) (by assumption) (n_bytes _) (by boot_fast) (by decide) ?_)
  | ((with_reducible show wpAny _ _ (eval (PySem.Expr.Name (Str.ofString "bool") _) _) _ _ _); refine Sx.blt (by assumption) (by assumption) (n_bool _) (by boot_fast) (by decide) ?_)
  | ((with_reducible show wpAny _ _ (eval (PySem.Expr.Name (Str.ofString "isinstance") _) _) _ _ _); refine Sx.blt (by assumption) (by assumption) (n_isinstance _) (by boot_fast) (by decide) ?_))
local macro_rules | `(tactic| walk_at "call type:type") => `(tactic| refine call_type_of (Tx := "bytes") (typeIs_bytes _ _ _) (by decide) ?_)
section
variable {prog : Program} {w : World} {A : Around} {E Q : Value → Shared → Prop} {s : Shared} {h₀ : Heap} {L : Addr} {m : Str → Option Value} {news : List (Addr × Obj)}
theorem c_ascii_buffer {b : Array UInt8} {t : Tok} (S : Sx w A h₀ L 3) (F : Fr h₀ L s.heap m) (N : News h₀ L s.heap news)
    (h : ∀ t' h' tk, Fr h₀ L h' m → News h₀ L h' news → Q (.bytes b t') { s with heap := h', toks := tk }) :
    wpAny (model prog w) A (call (.ref 66) [.bytes b t]) Q E s := by
  refine wpAny_call (enter (k := 2) (binds := [(Str.ofString "data", .bytes b t)]) S F N rfl rfl (BindsTo.of_eq rfl) (locs rfl) rfl rfl rfl (by decide) fun g L' h₁ S' F' N' kp => ?_)
  repeat' walk1
  all_goals (refine leaveK_ (by assumption) (by assumption) fun F4 N4 => ?_; exact h _ _ _ F4 N4)
theorem c_truth (S : Sx w A h₀ L 3) (F : Fr h₀ L s.heap m) (N : News h₀ L s.heap news)
    (h : ∀ h' tk, Fr h₀ L h' m → News h₀ L h' news → Q (.bool false) { s with heap := h', toks := tk }) :
    wpAny (model prog w) A (call (.ref 73) [.bool false]) Q E s := by
  refine wpAny_call (enter (k := 2) (binds := [(Str.ofString "x", .bool false)]) S F N rfl rfl (BindsTo.of_eq rfl) (locs rfl) rfl rfl rfl (by decide) fun g L' h₁ S' F' N' kp => ?_)
  repeat' walk1
  all_goals (refine leaveK_ (by assumption) (by assumption) fun F4 N4 => ?_; exact h _ _ F4 N4)
theorem bt_at {w : World} {h : Heap} (X : (K w.params).In h) : h.get? 39 = some ⟨.type "tuple", none, .seq ([.type "bytes", .type "bytearray"] : List Value).toArray 0, #[]⟩ := X 39 _ rfl
theorem isi_bytes_str {b : Array UInt8} {t : Tok} (S : Sx w A h₀ L 1) (F : Fr h₀ L s.heap m) (h : ∀ tk, Q (.bool false) { s with toks := tk }) : wpAny (model prog w) A (call (.builtin "isinstance") [.bytes b t, .type "str"]) Q E s :=
  kia_one kitx_bytes (S.X.keeps F.keep) trivial (b := false) (by kernel_rfl) (by intro e; cases e) h
theorem isi_bytes_tup {b : Array UInt8} {t : Tok} (S : Sx w A h₀ L 1) (F : Fr h₀ L s.heap m) (h : ∀ tk, Q (.bool true) { s with toks := tk }) : wpAny (model prog w) A (call (.builtin "isinstance") [.bytes b t, .ref 39]) Q E s :=
  kia_tup kitx_bytes (S.X.keeps F.keep) trivial (bt_at (S.X.keeps F.keep)) (b := true) (by kernel_rfl) (by intro e; cases e) h
end
local macro_rules | `(tactic| walk_at "call builtin:isinstance") => `(tactic| first
  | (refine isi_bytes_str (Sx.less (by assumption) (by omega)) (by assumption) ?_; intro _)
  | (refine isi_bytes_tup (Sx.less (by assumption) (by omega)) (by assumption) ?_; intro _))
local macro_rules | `(tactic| walk_at "getMethod str") => `(tactic| refine getMethod_builtin (T := "str") (typeIs_str _ _ _) PySem.F.plainAttrs_str PySem.F.slot_str_encode PySem.F.type_str_encode (fun _ e => nomatch e) ?_)
local macro_rules | `(tactic| walk_at "call builtin:str.encode") => `(tactic| refine call_encode_ascii (by assumption) (by assumption) ?_)
local macro_rules | `(tactic| walk_at "LeaveK") => `(tactic| refine leaveK_ (by assumption) (by assumption) (fun F4 N4 => ?_))
local macro_rules | `(tactic| walk_at "call type:type") => `(tactic| (with_reducible show wpAny _ _ (call _ [Value.bool _]) _ _ _; refine call_type_of (Tx := "bool") rfl (by decide) ?_))
section
variable {prog : Program} {w : World} {A : Around} {E Q : Value → Shared → Prop} {s : Shared} {h₀ : Heap} {L : Addr} {m : Str → Option Value} {news : List (Addr × Obj)}
theorem c_bfdd_bytes {b : Array UInt8} {t : Tok} (S : Sx w A h₀ L 3) (F : Fr h₀ L s.heap m) (N : News h₀ L s.heap news)
    (h : ∀ t' h' tk, Fr h₀ L h' m → News h₀ L h' news → Q (.bytes b t') { s with heap := h', toks := tk }) :
    wpAny (model prog w) A (call (.ref 46) [.bytes b t]) Q E s := by
  refine wpAny_call (enter (k := 2) (binds := [(Str.ofString "s", .bytes b t)]) S F N rfl rfl (BindsTo.of_eq rfl) (locs rfl) rfl rfl rfl (by decide) fun g L' h₁ S' F' N' kp => ?_)
  repeat' walk1
  all_goals exact h _ _ _ (by assumption) (by assumption)
theorem c_bfdd_str {x : Str} {t : Tok} (S : Sx w A h₀ L 3) (F : Fr h₀ L s.heap m) (N : News h₀ L s.heap news) (hx : x.cps.size ≤ 1000000) (ha : ∀ c ∈ x.cps, c < 128)
    (h : ∀ t' h' tk, Fr h₀ L h' m → News h₀ L h' news → Q (.bytes (x.cps.map (·.toUInt8)) t') { s with heap := h', toks := tk }) :
    wpAny (model prog w) A (call (.ref 46) [.str x t]) Q E s := by
  refine wpAny_call (enter (k := 2) (binds := [(Str.ofString "s", .str x t)]) S F N rfl rfl (BindsTo.of_eq rfl) (locs rfl) rfl rfl rfl (by decide) fun g L' h₁ S' F' N' kp => ?_)
  repeat' walk1
  all_goals exact h _ _ _ (by assumption) (by assumption)
end
end Mine

end

section
open PySem PySem.W PyProof.Rows PySem.Calls
set_option maxRecDepth 100000
namespace Mine
theorem map1 {m : Str → Option Value} {a : Str} {va : Value} (ha : m a = some va) : m = fun y => if y = a then some va else m y := by
  funext y; split
  · rename_i e; rw [e, ha]
  · rfl
theorem map2 {m : Str → Option Value} {a b : Str} {va vb : Value} (ha : m a = some va) (hb : m b = some vb) : m = fun y => if y = a then some va else if y = b then some vb else m y := by
  funext y; repeat' (split; (rename_i e; rw [e]; assumption))
  rfl
theorem map3 {m : Str → Option Value} {a b c : Str} {va vb vc : Value} (ha : m a = some va) (hb : m b = some vb) (hc : m c = some vc) : m = fun y => if y = a then some va else if y = b then some vb else if y = c then some vc else m y := by
  funext y; repeat' (split; (rename_i e; rw [e]; assumption))
  rfl
theorem map4 {m : Str → Option Value} {a b c d : Str} {va vb vc vd : Value} (ha : m a = some va) (hb : m b = some vb) (hc : m c = some vc) (hd : m d = some vd) : m = fun y => if y = a then some va else if y = b then some vb else if y = c then some vc else if y = d then some vd else m y := by
  funext y; repeat' (split; (rename_i e; rw [e]; assumption))
  rfl
open PySem.W.KBw (bInts ints_length ints_get ints_in IsBytesIter)
section
variable {prog : Program} {w : World} {A : Around} {E : Value → Shared → Prop} {s : Shared} {env : Env} {h₀ : Heap} {x : Str} {body : List Stmt} {Q : Flow → Shared → Prop}
theorem turn_mono {M : Model} {J : (Str → Option Value) → List (Addr × Obj) → Prop} {L : Addr} {own : List (Addr × Obj)} {adr : List Addr} {s₁ : Shared} {c : Sem Flow}
    (h : wpAny M A c (InvPostN h₀ L J own adr s₁ (fun _ _ => False)) (fun _ _ => False) s) : wpAny M A c (InvPostN h₀ L J own adr s₁ Q) E s :=
  wpAny_mono h (fun f _ p => by cases f <;> first | exact p.elim | exact p) fun _ _ e => e.elim
noncomputable def TurnEnd (h₀ : Heap) (L : Addr) (J : (Str → Option Value) → List (Addr × Obj) → Prop) (own : List (Addr × Obj)) (adr : List Addr) (s₁ : Shared) (f : Flow) (s' : Shared) : Prop := InvPostN h₀ L J own adr s₁ (fun _ _ => False) f s'
theorem turn_stop {M : Model} {J : (Str → Option Value) → List (Addr × Obj) → Prop} {L : Addr} {own : List (Addr × Obj)} {adr : List Addr} {s₁ : Shared} {c : Sem Flow}
    (h : wpAny M A c (TurnEnd h₀ L J own adr s₁) (fun _ _ => False) s) : wpAny M A c (InvPostN h₀ L J own adr s₁ Q) E s := turn_mono h
theorem InvEndN.one {J : (Str → Option Value) → List (Addr × Obj) → Prop} {L lp : Addr} {o o0 : Obj} {own news : List (Addr × Obj)} {s₁ : Shared} {h' : Heap} {tk : Nat} {m' : Str → Option Value}
    (F : Fr h₀ L h' m') (N : News h₀ L h' (((lp, o) :: news) ++ own)) (hj : J m' ((lp, o) :: news)) : InvEndN h₀ L J own (((lp, o0) :: news).map (·.1)) s₁ { s₁ with heap := h', toks := tk } :=
  ⟨_, _, _, _, (lp, o) :: news, rfl, F, N, fun _ hp => List.mem_append.mpr (.inl hp), fun _ hp => List.mem_append.mpr (.inr hp), rfl, hj⟩
theorem snocI {vs : List Value} {ns : List Int} {x y : Int} {t : Tok} (h : IntsAre vs ns) (e : y = x) : IntsAre (vs ++ [.int y t]) (ns ++ [x]) := by
  rw [e]; exact PyProof.Rows.IntsAre.append h (.cons _ _ .nil)
theorem iter_bytesJ {b : Array UInt8} {tb : Tok} {m₀ : Str → Option Value} {news : List (Addr × Obj)} (J : Nat → (Str → Option Value) → List (Addr × Obj) → Prop)
    (hh : A.handled = none) (F : Fr h₀ env.locals s.heap m₀) (N : News h₀ env.locals s.heap news) (hj : J 0 m₀ news)
    (turn : ∀ i n t m₁ news₁ h tk own, (bInts b)[i]? = some n → news₁.map (·.1) = news.map (·.1) → OwnOff own (news.map (·.1)) → J i m₁ news₁ → Fr h₀ env.locals h (fun y => if y = x then some (.int n t) else m₁ y) → News h₀ env.locals h (news₁ ++ own) →
      wpAny (model prog w) A (execs body env) (InvPostN h₀ env.locals (J (i + 1)) own (news.map (·.1)) { s with heap := h, toks := tk } Q) E { s with heap := h, toks := tk })
    (done : ∀ m₁ news₁ h tk, J (bInts b).length m₁ news₁ → Fr h₀ env.locals h m₁ → News h₀ env.locals h news₁ → Q .next { s with heap := h, toks := tk }) :
    wpAny (model prog w) A (pyIter (.bytes b tb)) (fun it s₂ => LoopAtV prog w A h₀ env x body Q E it s₂) E s := by
  refine KBw.pyIter_bytes ?_
  have W := KBw.walks (prog := prog) (w := w) hh s.heap.objs.size b tb
  rw [← ints_length b] at W
  let J' : Nat → (Str → Option Value) → List (Addr × Obj) → Prop := fun i m₁ news₁ => news₁.map (·.1) = news.map (·.1) ∧ J i m₁ news₁
  refine ⟨_, _, _, (bInts b).length, _, _, m₀, news, J', rfl, W, ?_, ?_, ?_, ⟨_, Heap.get?_push_size _ rfl, rfl, rfl⟩, F.push _, (fun p hp => ⟨Heap.get?_push_of_some _ (N p hp).1, (N p hp).2⟩), ⟨rfl, hj⟩, ?_, ?_⟩
  · intro hm
    exact absurd F.ns.lt ((List.mem_singleton.mp hm) ▸ Nat.lt_irrefl _)
  · intro b hb
    rw [List.mem_singleton.mp hb]
    exact next_is_new F
  · intro p hp hI
    exact absurd (Heap.lt_size (N p hp).1) ((List.mem_singleton.mp hI) ▸ Nat.lt_irrefl _)
  · rintro i v m₁ news₁ s₁ own ⟨hh', tk', rfl⟩ hin hP ⟨hadr, hJ⟩ hoff hown _ _ _ F₁ N₁
    have hsep : OwnOff own (news.map (·.1)) := by
      intro p hp b hb e
      obtain ⟨q, hq, rfl⟩ := List.mem_map.mp hb
      have h1 := List.mem_singleton.mp (hown p hp)
      exact absurd (Heap.lt_size (N q hq).1) (by rw [← e, h1]; exact Nat.lt_irrefl _)
    obtain ⟨c, u, hc, rfl⟩ := hP
    have N₂ : News h₀ env.locals hh' (news₁ ++ own) := fun p hp => N₁ p ((List.mem_append.mp hp).elim (fun h => List.mem_append.mpr (.inr h)) fun h => List.mem_append.mpr (.inl h))
    refine wpAny_mono (turn i _ u m₁ news₁ hh' tk' own (ints_get hc) hadr hsep hJ F₁ N₂) (fun f s₂ p => ?_) fun _ _ e => e
    have fin : InvEndN h₀ env.locals (J (i + 1)) own (news.map (·.1)) { s with heap := hh', toks := tk' } s₂ → LoopStepU h₀ env.locals [s.heap.objs.size] own (J' (i + 1)) { s with heap := hh', toks := tk' } .next s₂ := by
      rintro ⟨h', tk, m', news', nx, e, F', N', hn, ho, ha, hm⟩
      refine ⟨rfl, h', tk, m', nx, e, F', fun p hp => N' p ((List.mem_append.mp hp).elim (ho p) (hn p)), fun p hp hq => ?_, ha, hm⟩
      have h1 : p.1 ∈ nx.map (·.1) := List.mem_map.mpr ⟨p, hp, rfl⟩
      rw [ha, ← hadr] at h1
      obtain ⟨q, hq1, hq2⟩ := List.mem_map.mp h1
      exact hoff q hq1 (by rw [hq2]; exact hq)
    cases f with
    | ret v => exact .ret p
    | brk => exact .brk p
    | next => exact .next (fin p)
    | cont => exact .cont (fin p)
  · rintro h' tk m' news' F' N' _ ⟨_, hJ⟩
    exact done m' news' h' tk hJ F' N'
end
end Mine

end

section
open PySem PySem.W PyProof.Rows PySem.Calls
set_option maxRecDepth 100000
namespace Mine
open PySem.Builtin
theorem f64 {P : Int → Prop} (h : ∀ v : Fin 64, P ((v.val : Nat) : Int)) {x : Int} (h0 : 0 ≤ x) (h1 : x < 64) : P x := by
  have := h ⟨x.toNat, by omega⟩
  rw [show ((x.toNat : Nat) : Int) = x by omega] at this
  exact this
theorem bits64 {x : Int} (h0 : 0 ≤ x) (h1 : x < 64) : (Builtin.Int.intBits x : Int) ≤ 6 := f64 (P := fun x => (Builtin.Int.intBits x : Int) ≤ 6) (by decide +kernel) h0 h1
theorem bits_l {x n : Int} (h : 0 ≤ x ∧ x < 64) (hn : n ≤ 6) : (Builtin.Int.intBits x : Int) + n ≤ 2 ^ 27 := by
  have := bits64 h.1 h.2
  omega
theorem or1 {l v : Int} (hl : 0 ≤ l ∧ l < 64) (hv : 0 ≤ v ∧ v < 64) : bitOr (l * 2 ^ (2 : Int).toNat) (v.fdiv (2 ^ (4 : Int).toNat)) = l * 4 + v / 16 :=
  f64 (P := fun l => bitOr (l * 2 ^ (2 : Int).toNat) (v.fdiv (2 ^ (4 : Int).toNat)) = l * 4 + v / 16) (fun a => f64 (P := fun v => bitOr ((a.val : Int) * 2 ^ (2 : Int).toNat) (v.fdiv (2 ^ (4 : Int).toNat)) = (a.val : Int) * 4 + v / 16) (fun b => by revert a b; decide +kernel) hv.1 hv.2) hl.1 hl.2
theorem or2 {l v : Int} (hl : 0 ≤ l ∧ l < 64) (hv : 0 ≤ v ∧ v < 64) : bitOr (l * 2 ^ (4 : Int).toNat) (v.fdiv (2 ^ (2 : Int).toNat)) = l * 16 + v / 4 :=
  f64 (P := fun l => bitOr (l * 2 ^ (4 : Int).toNat) (v.fdiv (2 ^ (2 : Int).toNat)) = l * 16 + v / 4) (fun a => f64 (P := fun v => bitOr ((a.val : Int) * 2 ^ (4 : Int).toNat) (v.fdiv (2 ^ (2 : Int).toNat)) = (a.val : Int) * 16 + v / 4) (fun b => by revert a b; decide +kernel) hv.1 hv.2) hl.1 hl.2
theorem or3 {l v : Int} (hl : 0 ≤ l ∧ l < 64) (hv : 0 ≤ v ∧ v < 64) : bitOr (l * 2 ^ (6 : Int).toNat) v = l * 64 + v :=
  f64 (P := fun l => bitOr (l * 2 ^ (6 : Int).toNat) v = l * 64 + v) (fun a => f64 (P := fun v => bitOr ((a.val : Int) * 2 ^ (6 : Int).toNat) v = (a.val : Int) * 64 + v) (fun b => by revert a b; decide +kernel) hv.1 hv.2) hl.1 hl.2
theorem and15 {v : Int} (hv : 0 ≤ v ∧ v < 64) : bitAnd v 15 = v % 16 := f64 (P := fun v => bitAnd v 15 = v % 16) (by decide +kernel) hv.1 hv.2
theorem and3 {v : Int} (hv : 0 ≤ v ∧ v < 64) : bitAnd v 3 = v % 4 := f64 (P := fun v => bitAnd v 3 = v % 4) (by decide +kernel) hv.1 hv.2
end Mine

end

section
open PySem PySem.W PyProof.Rows PySem.Calls
set_option maxRecDepth 100000
set_option maxHeartbeats 1000000
namespace Mine
open PySem.W.KBw (bInts)
/-- out, quad_pos, leftchar -/
noncomputable abbrev St64 := List Int × Int × Int
noncomputable def g64 (a : St64) (c : Int) : St64 :=
  if b64v c ≥ 64 then a else
  if a.2.1 = 0 then (a.1, 1, b64v c)
  else if a.2.1 = 1 then (a.1 ++ [(a.2.2 * 4 + b64v c / 16)], 2, b64v c % 16)
  else if a.2.1 = 2 then (a.1 ++ [(a.2.2 * 16 + b64v c / 4)], 3, b64v c % 4)
  else (a.1 ++ [(a.2.2 * 64 + b64v c)], 0, 0)
noncomputable def mA (b : Array UInt8) (lp : Addr) (td ta : Tok) (q : Int) (tq : Tok) (l : Int) (tl tp : Tok) (iv : Int) (ti : Tok) (r : Str → Option Value) : Str → Option Value := fun y =>
  if y = Str.ofString "i" then some (.int iv ti) else if y = Str.ofString "pads" then some (.int 0 tp) else if y = Str.ofString "leftchar" then some (.int l tl) else if y = Str.ofString "quad_pos" then some (.int q tq)
  else if y = Str.ofString "out" then some (.ref lp) else if y = Str.ofString "ascii_data" then some (.bytes b ta) else if y = Str.ofString "strict_mode" then some (.bool false) else if y = Str.ofString "data" then some (.bytes b td) else r y
structure MA (b : Array UInt8) (lp : Addr) (q l : Int) (m : Str → Option Value) : Prop where
  d : ∃ t, m (Str.ofString "data") = some (.bytes b t)
  sm : m (Str.ofString "strict_mode") = some (.bool false)
  asc : ∃ t, m (Str.ofString "ascii_data") = some (.bytes b t)
  out : m (Str.ofString "out") = some (.ref lp)
  q : ∃ t, m (Str.ofString "quad_pos") = some (.int q t)
  l : ∃ t, m (Str.ofString "leftchar") = some (.int l t)
  p : ∃ t, m (Str.ofString "pads") = some (.int 0 t)
  i : ∃ v t, m (Str.ofString "i") = some (.int v t)
theorem MA.map {b : Array UInt8} {lp : Addr} {q l : Int} {m : Str → Option Value} (h : MA b lp q l m) : ∃ td ta tq tl tp iv ti r, m = mA b lp td ta q tq l tl tp iv ti r := by
  obtain ⟨⟨td, h1⟩, h2, ⟨ta, h3⟩, h4, ⟨tq, h5⟩, ⟨tl, h6⟩, ⟨tp, h7⟩, ⟨iv, ti, h8⟩⟩ := h
  refine ⟨td, ta, tq, tl, tp, iv, ti, m, ?_⟩
  funext y
  unfold mA
  repeat' (split; (rename_i e; rw [e]; assumption))
  rfl
theorem g64_skip {a : St64} {c : Int} (h : b64v c ≥ 64) : g64 a c = a := by unfold g64; rw [if_pos h]
theorem g64_0 {a : St64} {c : Int} (h : ¬ b64v c ≥ 64) (h0 : a.2.1 = 0) : g64 a c = (a.1, 1, b64v c) := by unfold g64; rw [if_neg h, if_pos h0]
theorem g64_1 {a : St64} {c : Int} (h : ¬ b64v c ≥ 64) (h1 : a.2.1 = 1) : g64 a c = (a.1 ++ [(a.2.2 * 4 + b64v c / 16)], 2, b64v c % 16) := by unfold g64; rw [if_neg h, if_neg (by omega), if_pos h1]
theorem g64_2 {a : St64} {c : Int} (h : ¬ b64v c ≥ 64) (h2 : a.2.1 = 2) : g64 a c = (a.1 ++ [(a.2.2 * 16 + b64v c / 4)], 3, b64v c % 4) := by unfold g64; rw [if_neg h, if_neg (by omega), if_neg (by omega), if_pos h2]
theorem g64_3 {a : St64} {c : Int} (h : ¬ b64v c ≥ 64) (h0 : a.2.1 ≠ 0) (h1 : a.2.1 ≠ 1) (h2 : a.2.1 ≠ 2) : g64 a c = (a.1 ++ [(a.2.2 * 64 + b64v c)], 0, 0) := by unfold g64; rw [if_neg h, if_neg h0, if_neg h1, if_neg h2]
theorem b64v_in (c : Int) : 0 ≤ b64v c ∧ b64v c ≤ 64 := by unfold b64v; (repeat' split) <;> omega
noncomputable def In64 (a : St64) : Prop := (∀ n ∈ a.1, 0 ≤ n ∧ n < 256) ∧ (a.2.1 = 0 ∧ a.2.2 = 0 ∨ a.2.1 = 1 ∧ 0 ≤ a.2.2 ∧ a.2.2 < 64 ∨ a.2.1 = 2 ∧ 0 ≤ a.2.2 ∧ a.2.2 < 16 ∨ a.2.1 = 3 ∧ 0 ≤ a.2.2 ∧ a.2.2 < 4)
theorem In64.l {a : St64} (h : In64 a) : 0 ≤ a.2.2 ∧ a.2.2 < 64 := by rcases h.2 with h | h | h | h <;> omega
theorem in_snoc {l : List Int} {x : Int} (h : ∀ n ∈ l, 0 ≤ n ∧ n < 256) (hx : 0 ≤ x ∧ x < 256) : ∀ n ∈ l ++ [x], 0 ≤ n ∧ n < 256 := by
  intro n hn
  rcases List.mem_append.mp hn with hn | hn
  · exact h n hn
  · rw [List.mem_singleton.mp hn]; exact hx
theorem in64_0 : In64 ([], 0, 0) := And.intro (fun _ e => nomatch e) (Or.inl ⟨rfl, rfl⟩)
theorem In64.step {a : St64} (h : In64 a) (c : Int) : In64 (g64 a c) := by
  have hv := b64v_in c
  by_cases hc : b64v c ≥ 64
  · rw [g64_skip hc]; exact h
  obtain ⟨h1, h2 | h2 | h2 | h2⟩ := h
  · rw [g64_0 hc h2.1]; exact ⟨h1, .inr (.inl ⟨rfl, by dsimp only; omega⟩)⟩
  · rw [g64_1 hc h2.1]; exact ⟨in_snoc h1 (by omega), .inr (.inr (.inl ⟨rfl, by dsimp only; omega⟩))⟩
  · rw [g64_2 hc h2.1]; exact ⟨in_snoc h1 (by omega), .inr (.inr (.inr ⟨rfl, by dsimp only; omega⟩))⟩
  · rw [g64_3 hc (by omega) (by omega) (by omega)]; exact ⟨in_snoc h1 (by omega), .inl ⟨rfl, rfl⟩⟩
theorem In64.fold {l : List Int} : ∀ {a : St64}, In64 a → In64 (l.foldl g64 a) := by
  induction l with
  | nil => exact fun h => h
  | cons c l ih => exact fun h => ih (h.step c)
theorem len64 (l : List Int) : ∀ a : St64, (l.foldl g64 a).1.length ≤ a.1.length + l.length := by
  induction l with
  | nil => intro a; exact Nat.le_refl _
  | cons c l ih =>
    intro a
    refine Nat.le_trans (ih _) ?_
    have : (g64 a c).1.length ≤ a.1.length + 1 := by
      unfold g64; (repeat' split) <;> simp
    rw [List.length_cons]; omega
theorem g_abuf (P : Params) : nsIn (K P) mainGlobals (Str.ofString "_ascii_buffer") = some (some (.ref 66)) := by kernel_rfl
theorem g_truth (P : Params) : nsIn (K P) mainGlobals (Str.ofString "_truth") = some (some (.ref 73)) := by kernel_rfl
theorem g_b64value (P : Params) : nsIn (K P) mainGlobals (Str.ofString "_b64_value") = some (some (.ref 80)) := by kernel_rfl
local macro_rules | `(tactic| walk_at "eval Name") => `(tactic| first
  | ((with_reducible show wpAny _ _ (eval (PySem.Expr.Name (Str.ofString "_ascii_buffer") _) _) _ _ _); refine Sx.glob (by assumption) (by assumption) (g_abuf _) ?_)
  | ((with_reducible show wpAny _ _ (eval (PySem.Expr.Name (Str.ofString "_truth") _) _) _ _ _); refine Sx.glob (by assumption) (by assumption) (g_truth _) ?_)
  | ((with_reducible show wpAny _ _ (eval (PySem.Expr.Name (Str.ofString "_b64_value") _) _) _ _ _); refine Sx.glob (by assumption) (by assumption) (g_b64value _) ?_)
  | ((with_reducible show wpAny _ _ (eval (PySem.Expr.Name (Str.ofString "bytes") _) _) _ _ _); refine Sx.blt (by assumption) (by assumption) (n_bytes _) (by boot_fast) (by decide) ?_))
local macro_rules | `(tactic| walk_at "binaryOp LShift int int") => `(tactic| refine lshift_int (by decide) (bits_l (by assumption) (by decide)) ?_)
local macro_rules | `(tactic| walk_at "call builtin:list.append") => `(tactic| (refine append_head (by assumption) (by assumption) (by assumption) ?_ (by assumption); intro _ _ _))
local macro_rules | `(tactic| walk_at "callWith ref") => `(tactic| refine Sx.fn (by assumption) (by with_unfolding_all rfl) (by with_unfolding_all rfl) ?_)
local macro_rules | `(tactic| walk_at "Held") => `(tactic| refine Held.intro (by assumption) ?_)
local macro_rules | `(tactic| walk_at "call ref") => `(tactic| first
  | (refine c_ascii_buffer (Sx.less (by assumption) (by omega)) (by assumption) (by assumption) ?_; intro _ _ _ _ _)
  | (refine c_truth (Sx.less (by assumption) (by omega)) (by assumption) (by assumption) ?_; intro _ _ _ _)
  | (refine c_b64_value (Sx.less (by assumption) (by omega)) (by assumption) (by assumption) ?_; intro _ _ _ _ _))
section
variable {prog : Program} {w : World} {A : Around} {E Q : Value → Shared → Prop} {s : Shared} {h₀ : Heap} {L : Addr} {m : Str → Option Value} {news : List (Addr × Obj)}
theorem c_a2b {b : Array UInt8} {t : Tok} (S : Sx w A h₀ L 9) (F : Fr h₀ L s.heap m) (N : News h₀ L s.heap news) (hb : b.size ≤ 500000) (hne : ∀ k ∈ bInts b, k ≠ 61)
    {o : List Int} {l' : Int} (hr : (bInts b).foldl g64 ([], 0, 0) = (o, 0, l'))
    (h : ∀ t' h' tk, Fr h₀ L h' m → News h₀ L h' news → Q (.bytes (byteArr o) t') { s with heap := h', toks := tk }) :
    wpAny (model prog w) A (call (.ref 88) [.bytes b t] [(Str.ofString "strict_mode", .bool false)]) Q E s := by
  refine wpAny_call (enter (k := 8) (binds := [(Str.ofString "data", .bytes b t), (Str.ofString "strict_mode", .bool false)]) S F N rfl rfl (BindsTo.of_eq rfl) (locs rfl) rfl rfl rfl (by decide) fun g L' h₁ S' F' N' kp => ?_)
  repeat' walk1
  rename Fr g L' _ _ => FF
  rename News g L' _ _ => NN
  generalize hlp : Array.size (Heap.objs _) = lp at FF NN ⊢
  have hfr : ∀ p ∈ news, p.1 ≠ lp := by
    intro p hp e
    have h1 := Heap.lt_size ((by assumption : News g L' _ news) p hp).1
    rw [e, ← hlp] at h1
    exact Nat.lt_irrefl _ h1
  clear hlp
  refine For_invV g rfl rfl (ld FF rfl ?_)
  refine iter_bytesJ (fun i m nx => ∃ its n, IntsAre its (((bInts b).take i).foldl g64 ([], 0, 0)).1 ∧ nx = (lp, listOf its.toArray n) :: news ∧ MA b lp (((bInts b).take i).foldl g64 ([], 0, 0)).2.1 (((bInts b).take i).foldl g64 ([], 0, 0)).2.2 m) S'.hh FF NN ?_ ?_ ?_
  · exact ⟨[], 0, IntsAre.nil, rfl, ⟨_, rfl⟩, rfl, ⟨_, rfl⟩, rfl, ⟨_, rfl⟩, ⟨_, rfl⟩, ⟨_, rfl⟩, ⟨_, _, rfl⟩⟩
  · rintro i k tk m₁ n₁ h2 tk2 own hk hadr hoff ⟨its, n, hi, rfl, hm⟩ F2 N2
    obtain ⟨td, ta, tq, tl, tp, iv, ti, r, rfl⟩ := hm.map
    generalize hx : ((bInts b).take i).foldl g64 ([], 0, 0) = a at hi F2 N2 ⊢
    clear hm FF NN F' N'
    unfold mA at F2
    refine turn_stop ?_
    clear h
    have hk61 : k ≠ 61 := hne _ (List.mem_of_getElem? hk)
    have hin : In64 a := hx ▸ In64.fold in64_0
    have hlen : a.1.length ≤ i := by
      have := len64 ((bInts b).take i) ([], 0, 0)
      rw [hx] at this
      simp only [List.length_nil, List.length_take] at this
      omega
    have hib : i < 500000 := by
      have := (List.getElem?_eq_some_iff.mp hk).1
      rw [KBw.ints_length] at this
      omega
    have hl := hin.l
    have hv := b64v_in k
    have hstep : ((bInts b).take (i + 1)).foldl g64 ([], 0, 0) = g64 a k := by
      rw [List.take_add_one, hk, List.foldl_append, hx]; rfl
    have hits := hi.length
    have hap : ∀ p ∈ news ++ own, p.1 ≠ lp := fun p hp => (List.mem_append.mp hp).elim (hfr p) fun h => hoff p h lp (.head _)
    have hz : its.toArray.size ≤ sizeLine := by rw [sizeLine_eq, List.size_toArray, hits]; omega
    repeat' walk1
    all_goals try exact absurd (by assumption) hk61
    all_goals (
      rename Fr g L' _ _ => FF
      rename News g L' _ _ => NN
      refine InvEndN.one FF NN ?_
      rw [hstep])
    · rw [g64_skip (by assumption)]
      exact ⟨its, n, hi, rfl, ⟨_, rfl⟩, rfl, ⟨_, rfl⟩, rfl, ⟨_, rfl⟩, ⟨_, rfl⟩, ⟨_, rfl⟩, ⟨_, _, rfl⟩⟩
    · rw [g64_0 (by assumption) (by assumption)]
      exact ⟨its, n, hi, rfl, ⟨_, rfl⟩, rfl, ⟨_, rfl⟩, rfl, ⟨_, rfl⟩, ⟨_, rfl⟩, ⟨_, rfl⟩, ⟨_, _, rfl⟩⟩
    · have hv' : 0 ≤ b64v k ∧ b64v k < 64 := ⟨hv.1, Int.not_le.mp (by assumption)⟩
      rw [g64_1 (by assumption) (by assumption)]
      exact ⟨_, _, snocI hi (or1 hl hv'), by rw [List.push_toArray], ⟨_, rfl⟩, rfl, ⟨_, rfl⟩, rfl, ⟨_, rfl⟩, ⟨_, by rw [← and15 hv']; rfl⟩, ⟨_, rfl⟩, ⟨_, _, rfl⟩⟩
    · have hv' : 0 ≤ b64v k ∧ b64v k < 64 := ⟨hv.1, Int.not_le.mp (by assumption)⟩
      rw [g64_2 (by assumption) (by assumption)]
      exact ⟨_, _, snocI hi (or2 hl hv'), by rw [List.push_toArray], ⟨_, rfl⟩, rfl, ⟨_, rfl⟩, rfl, ⟨_, rfl⟩, ⟨_, by rw [← and3 hv']; rfl⟩, ⟨_, rfl⟩, ⟨_, _, rfl⟩⟩
    · have hv' : 0 ≤ b64v k ∧ b64v k < 64 := ⟨hv.1, Int.not_le.mp (by assumption)⟩
      rw [g64_3 (by assumption) (by assumption) (by assumption) (by assumption)]
      exact ⟨_, _, snocI hi (or3 hl hv'), by rw [List.push_toArray], ⟨_, rfl⟩, rfl, ⟨_, rfl⟩, rfl, ⟨_, rfl⟩, ⟨_, rfl⟩, ⟨_, rfl⟩, ⟨_, _, rfl⟩⟩
  · rintro m₁ n₁ h2 tk2 ⟨its, n, hi, rfl, hm⟩ F2 N2
    rw [List.take_length, hr] at hi hm
    obtain ⟨td, ta, tq, tl, tp, iv, ti, r, rfl⟩ := hm.map
    have hin : In64 (o, 0, l') := hr ▸ In64.fold in64_0
    have hlen : o.length ≤ b.size := by
      have := len64 (bInts b) ([], 0, 0)
      rw [hr, KBw.ints_length] at this
      simp only [List.length_nil] at this
      omega
    have hits := hi.length
    have hsl := sizeLine_eq
    clear hm FF NN F' N'
    unfold mA at F2
    have hlist : h2.IsList lp its.toArray := ⟨_, (N2 _ (.head _)).1, rfl, _, rfl⟩
    repeat' walk1
    all_goals first
      | (exfalso; dsimp only at *; omega)
      | (refine call_bytes_ints (vs := its) ?hl hi hin.1 ?hz S'.hh fun h5 t5 k5 kk => ?_
         case hl => exact hlist
         case hz => (dsimp only at hits; omega)
         have F3 := frK F2 kk
         have N3 := newsK N2 kk
         refine leaveK_ F3 (fun p hp => N3 p (.tail _ hp)) fun F4 N4 => ?_
         exact h _ _ _ F4 N4)
end
end Mine

end

section
open PySem PySem.W PyProof.Rows PySem.Calls
set_option maxRecDepth 100000
namespace Mine
open PySem.Builtin
theorem slot_bytes_tr : Slot "bytes" "translate" "bytes.translate" :=
  .of (owner := "bytes") (n := "translate") (by rw [typeLookup_type, builtinLookup_eq_fast]; kernel_rfl) (by decide +kernel) (by decide +kernel) (by decide +kernel)
    (by first | exact .inl (by decide +kernel) | exact .inr (by decide +kernel)) (by rw [isSubtype_type]; kernel_rfl)
theorem type_bytes_tr : typeOf (.builtin "bytes.translate") = pure (.type "method_descriptor") := by show builtinType _ = _; rw [builtinType_eq_fast]; kernel_rfl
theorem entry_bytes_tr : entryFor table "bytes.translate" = some Builtin.«bytes.translate» := entryFor_of_tree (by kernel_rfl)
theorem args_bytes_tr (a b : Value) : argsOk "bytes.translate" ⟨[a, b], []⟩ := by unfold argsOk; kernel_rfl
theorem entry_bytes_mt : entryFor table "bytes.maketrans" = some Builtin.«bytes.maketrans» := entryFor_of_tree (by kernel_rfl)
theorem check_mt (a b : Value) : checkBuiltinCall "bytes.maketrans" ⟨[a, b], []⟩ = pure () := by kernel_rfl
theorem find_mt : findCls [] (.type "bytes") (.type "type") (Str.ofString "maketrans") = some (.val (.builtin "bytes.maketrans")) := by kernel_rfl
theorem ty_bytes : typeOf (.type "bytes") = pure (.type "type") := by kernel_rfl
theorem ty_bytesV {b : Array UInt8} {t : Tok} : typeOf (.bytes b t) = pure (.type "bytes") := rfl
noncomputable def tblOf (frm to : Array UInt8) : Array UInt8 := (frm.toList.zip to.toList).foldl (fun t (f, x) => t.setIfInBounds f.toNat x) ((Array.range 256).map (·.toUInt8))
section
variable {prog : Program} {w : World} {A : Around} {E Q : Value → Shared → Prop} {s : Shared} {h₀ : Heap} {L : Addr} {m : Str → Option Value}
theorem get_maketrans {pl : Sem Bool} {Q : Value × List Value → Shared → Prop} (F : Fr h₀ L s.heap m) (h : ∀ k, Q (.builtin "bytes.maketrans", []) { s with toks := k }) :
    wpAny (model prog w) A (getMethod (.type "bytes") (Str.ofString "maketrans") pl) Q E s :=
by
  have X : Frag.In ([] : Frag) h₀ := by intro a o e; cases e
  have hs : Manifest.isStub "bytes" = false := by decide +kernel
  have hh : handedIn (.builtin "bytes.maketrans") = true := by decide +kernel
  exact method_type (v := .builtin "bytes.maketrans") (T := "bytes") (name := Str.ofString "maketrans") (K := []) F X ty_bytes hs find_mt hh (h _)
theorem tbl_size (l : List (UInt8 × UInt8)) : ∀ t : Array UInt8, (l.foldl (fun t (p : UInt8 × UInt8) => t.setIfInBounds p.1.toNat p.2) t).size = t.size := by
  induction l with
  | nil => intro t; rfl
  | cons a l ih => intro t; rw [List.foldl_cons, ih, Array.size_setIfInBounds]
theorem tblOf_size (a b : Array UInt8) : (tblOf a b).size = 256 := by
  unfold tblOf
  rw [tbl_size]; decide +kernel
theorem call_maketrans {a b : Array UInt8} {t u : Tok} (hs : a.size = b.size) (h : ∀ t' k, Q (.bytes (tblOf a b) t') { s with toks := k }) :
    wpAny (model prog w) A (call (.builtin "bytes.maketrans") [.bytes a t, .bytes b u]) Q E s := by
  refine wpAny_call (codeAny_call_builtin_at (Code.quiet_builtin _ (by decide +kernel)) entry_bytes_mt (wpAny_of_eq (a := ()) (check_mt _ _) ?_))
  show wpAny _ _ (Bytes.maketransM .bytes _) _ _ s
  unfold Bytes.maketransM
  refine wpAny_bind (wpAny_of_eq (a := ()) (by kernel_rfl) ?_)
  refine wpAny_bind (wpAny_of_eq (a := ()) (by kernel_rfl) ?_)
  refine wpAny_bind (wpAny_of_eq (a := a) KBd.like_eq ?_)
  refine wpAny_bind (wpAny_of_eq (a := b) KBd.like_eq ?_)
  rw [if_neg (by simp [hs])]
  refine wpAny_bind ?_
  unfold mkBytes
  rw [if_neg (by show ¬ (tblOf a b).size > _; rw [tblOf_size, sizeLine_eq]; omega)]
  refine wpAny_bind (wpAny_fresh ?_)
  exact wpAny_pure (wpAny_pure (h _ _))
noncomputable def trB (tb b : Array UInt8) : Array UInt8 := b.map fun c => tb.getD c.toNat c
theorem call_btranslate {a b : Array UInt8} {t u : Tok} (hs : b.size = 256) (ha : a.size ≤ 1000000) (h : ∀ t' k, Q (.bytes (trB b a) t') { s with toks := k }) :
    wpAny (model prog w) A (call (.builtin "bytes.translate") [.bytes a t, .bytes b u]) Q E s := by
  refine wpAny_call_entry slot_bytes_tr (PySem.W.typeIs_bytes _ _ _) entry_bytes_tr ?_ (args_bytes_tr _ _)
  show wpAny _ _ (Bytes.translateM .bytes _) _ _ s
  unfold Bytes.translateM
  refine wpAny_bind (m := (Bytes.bytesLike _ (.bytes b u))) (wpAny_of_eq (a := b) KBd.like_eq ?_)
  dsimp only
  rw [if_neg (by rw [hs]; decide)]
  refine wpAny_bind (wpAny_pure ?_)
  dsimp only
  refine wpAny_bind (m := pure (#[] : Array UInt8)) (wpAny_pure ?_)
  refine wpAny_bind (wpAny_of_eq (a := a) rfl ?_)
  have e : (Array.map (fun c => match (some b : Option (Array UInt8)) with | some t => t.getD c.toNat c | none => c) (Array.filter (fun x => !(#[] : Array UInt8).contains x) a)) = trB b a := by
    rw [Array.filter_eq_self.mpr (fun x _ => by simp)]; rfl
  rw [e]
  split
  · rename_i h0
    have h1 : trB b a = a := by simpa using h0
    refine wpAny_bind (wpAny_rule ?_)
    refine wpAny_bind (wpAny_of_eq (a := .bytes a t) rfl ?_)
    exact wpAny_pure ⟨_, rfl, by have := h t s.toks; rw [h1] at this; exact this⟩
  · refine wpAny_bind (m := mkBytes _) ?_
    unfold mkBytes
    rw [if_neg (by show ¬ (trB b a).size > _; unfold trB; rw [Array.size_map, sizeLine_eq]; omega)]
    refine wpAny_bind (wpAny_fresh ?_)
    exact wpAny_pure (wpAny_pure ⟨_, rfl, h _ _⟩)
end
end Mine

end

section
open PySem PySem.W PyProof.Rows PySem.Calls
set_option maxRecDepth 100000
set_option maxHeartbeats 1000000
namespace Mine
open PySem.W.KBw (bInts)
theorem g_bfdd (P : Params) : nsIn (K P) mainGlobals (Str.ofString "_bytes_from_decode_data") = some (some (.ref 46)) := by kernel_rfl
theorem g_a2b (P : Params) : nsIn (K P) mainGlobals (Str.ofString "a2b_base64") = some (some (.ref 88)) := by kernel_rfl
theorem n_len (P : Params) : nsIn (K P) mainGlobals (Str.ofString "len") = some none := by kernel_rfl
local macro_rules | `(tactic| walk_at "eval Name") => `(tactic| first
  | ((with_reducible show wpAny _ _ (eval (PySem.Expr.Name (Str.ofString "_bytes_from_decode_data") _) _) _ _ _); refine Sx.glob (by assumption) (by assumption) (g_bfdd _) ?_)
  | ((with_reducible show wpAny _ _ (eval (PySem.Expr.Name (Str.ofString "a2b_base64") _) _) _ _ _); refine Sx.glob (by assumption) (by assumption) (g_a2b _) ?_)
  | ((with_reducible show wpAny _ _ (eval (PySem.Expr.Name (Str.ofString "bytes") _) _) _ _ _); refine Sx.blt (by assumption) (by assumption) (n_bytes _) (by boot_fast) (by decide) ?_)
  | ((with_reducible show wpAny _ _ (eval (PySem.Expr.Name (Str.ofString "len") _) _) _ _ _); refine Sx.blt (by assumption) (by assumption) (n_len _) (by boot_fast) (by decide) ?_))
local macro_rules | `(tactic| walk_at "callWith ref") => `(tactic| ((with_reducible show wpAny _ _ (callWith _ _ _ _ (backToKw _ _)) _ _ _); refine Sx.fnkw (by assumption) (by with_unfolding_all rfl) (by with_unfolding_all rfl) ?_))
local macro_rules | `(tactic| walk_at "callWith ref") => `(tactic| refine Sx.fn (by assumption) (by with_unfolding_all rfl) (by with_unfolding_all rfl) ?_)
local macro_rules | `(tactic| walk_at "Held") => `(tactic| refine Held.intro (by assumption) ?_)
local macro_rules | `(tactic| walk_at "call ref") => `(tactic| first
  | (refine c_bfdd_str (Sx.less (by assumption) (by omega)) (by assumption) (by assumption) (by assumption) (by assumption) ?_; intro _ _ _ _ _)
  | (refine c_bfdd_bytes (Sx.less (by assumption) (by omega)) (by assumption) (by assumption) ?_; intro _ _ _ _ _))
local macro_rules | `(tactic| walk_at "getMethod type:bytes") => `(tactic| refine get_maketrans (by assumption) (fun _ => ?_))
local macro_rules | `(tactic| walk_at "call builtin:bytes.maketrans") => `(tactic| refine call_maketrans (by assumption) (fun _ _ => ?_))
local macro_rules | `(tactic| walk_at "call builtin:bytes.translate") => `(tactic| refine call_btranslate (tblOf_size _ _) (by assumption) (fun _ _ => ?_))
local macro_rules | `(tactic| walk_at "getMethod bytes") => `(tactic| refine getMethod_builtin (T := "bytes") (PySem.W.typeIs_bytes _ _ _) PySem.W.FB.plainAttrs_bytes slot_bytes_tr type_bytes_tr (fun _ e => nomatch e) ?_)
section
variable {prog : Program} {w : World} {A : Around} {E Q : Value → Shared → Prop} {s : Shared} {h₀ : Heap} {L : Addr} {m : Str → Option Value} {news : List (Addr × Obj)}
noncomputable def altP : Array UInt8 := #[43, 47]
noncomputable def heardB (pr : Array UInt8) (x : Str) : Array UInt8 := trB (tblOf pr altP) (x.cps.map (·.toUInt8))
theorem c_b64decode {x : Str} {pr : Array UInt8} {t u : Tok} (S : Sx w A h₀ L 11) (F : Fr h₀ L s.heap m) (N : News h₀ L s.heap news) (hx : x.cps.size ≤ 400000) (ha : ∀ c ∈ x.cps, c < 128) (hp : pr.size = 2)
    (hne : ∀ k ∈ bInts (heardB pr x), k ≠ 61) {o : List Int} {l' : Int} (hr : (bInts (heardB pr x)).foldl g64 ([], 0, 0) = (o, 0, l'))
    (h : ∀ t' h' tk, Fr h₀ L h' m → News h₀ L h' news → Q (.bytes (byteArr o) t') { s with heap := h', toks := tk }) :
    wpAny (model prog w) A (call (.ref 96) [.str x t, .bytes pr u]) Q E s := by
  have hx2 : x.cps.size ≤ 1000000 := by omega
  have hx3 : (x.cps.map (·.toUInt8)).size ≤ 1000000 := by rw [Array.size_map]; omega
  have hp2 : pr.size = altP.size := hp
  have hd : s.heap.get? 89 = some ⟨.type "tuple", none, .seq #[.none, .bool false] 0, #[]⟩ := S.X.keeps F.keep 89 _ rfl
  refine wpAny_call (enter (k := 10) (binds := [(Str.ofString "s", .str x t), (Str.ofString "altchars", .bytes pr u), (Str.ofString "validate", .bool false)]) S F N rfl rfl (BindsTo.of_defaults (T := 89) rfl hd rfl (k := fun its => _) rfl rfl) (locs rfl) rfl rfl rfl (by decide) fun g L' h₁ S' F' N' kp => ?_)
  clear hd
  repeat' walk1
  have hz : (heardB pr x).size ≤ 500000 := by unfold heardB trB; rw [Array.size_map, Array.size_map]; omega
  refine c_a2b (Sx.less S' (by omega)) (by assumption) (by assumption) hz hne hr fun t5 h5 k5 F5 N5 => ?_
  refine leaveK_ F5 N5 fun F6 N6 => ?_
  exact h _ _ _ F6 N6
end
end Mine

end

section
open PySem PySem.W PyProof.Rows PySem.Calls
set_option maxRecDepth 100000
namespace Mine
section
variable {prog : Program} {w : World} {A : Around} {E Q : Value → Shared → Prop} {s : Shared} {x y : Str} {t u : Tok}
theorem fold_rep (c : Nat) : ∀ (n : Nat) (a : Array Nat), (List.replicate n #[c]).foldl (· ++ ·) a = a ++ (List.replicate n c).toArray
  | 0, a => by simp
  | n + 1, a => by
    rw [List.replicate_succ, List.foldl_cons, fold_rep c n, List.replicate_succ, ← Array.toList_inj]
    simp
theorem txt_mul (c : Nat) (n : Int) (h0 : 0 ≤ n) : Txt.mul ⟨#[c]⟩ n = ⟨(List.replicate n.toNat c).toArray⟩ := by
  unfold Txt.mul
  by_cases h1 : n < 1
  · rw [if_pos h1, show n = 0 by omega]; rfl
  · rw [if_neg h1]
    by_cases h2 : n = 1
    · subst h2; rfl
    · rw [if_neg (by simp [h2, Str.length]), fold_rep]; simp
theorem mul_rep {c : Nat} {n : Int} (h0 : 0 ≤ n) (h1 : n ≤ 1000000) (h : ∀ t' k, Q (.str ⟨(List.replicate n.toNat c).toArray⟩ t') { s with toks := k }) :
    wpAny (model prog w) A (binaryOp .Mult (.str ⟨#[c]⟩ t) (.int n u)) Q E s := by
  rw [← txt_mul c n h0] at h
  refine SB.mul ⟨?_, ?_, ?_⟩ h
  · simp; omega
  · intro h2 _
    have hl : ((⟨#[c]⟩ : Str).length : Int) = 1 := rfl
    rw [hl]
    have : (1 : Int) ≤ (2 ^ 63 - 1) / n := Int.le_ediv_of_mul_le (by omega) (by omega)
    omega
  · intro h2 _
    unfold Builtin.Str.tooLong
    have hl : (⟨#[c]⟩ : Str).length = 1 := rfl
    rw [hl, Nat.one_mul]
    simp [sizeLine_eq]
    omega
end
end Mine

end

section
open PySem PySem.W PyProof.Rows PySem.Calls
set_option maxRecDepth 100000
set_option maxHeartbeats 1000000
namespace Mine
open PySem.W.KBw (bInts)
theorem g_b64decode (P : Params) : nsIn (K P) mainGlobals (Str.ofString "b64decode") = some (some (.ref 96)) := by kernel_rfl
noncomputable def padA (x : Str) : Str := ⟨(List.replicate ((-(x.cps.size : Int)) % 4).toNat 65 ++ x.cps.toList).toArray⟩
local macro_rules | `(tactic| walk_at "eval Name") => `(tactic| first
  | ((with_reducible show wpAny _ _ (eval (PySem.Expr.Name (Str.ofString "b64decode") _) _) _ _ _); refine Sx.glob (by assumption) (by assumption) (g_b64decode _) ?_)
  | ((with_reducible show wpAny _ _ (eval (PySem.Expr.Name (Str.ofString "len") _) _) _ _ _); refine Sx.blt (by assumption) (by assumption) (n_len _) (by boot_fast) (by decide) ?_))
local macro_rules | `(tactic| walk_at "call builtin:len") => `(tactic| refine P.len_str (by assumption) ?_)
local macro_rules | `(tactic| walk_at "binaryOp Mult str int") => `(tactic| (refine mul_rep (c := 65) (by assumption) (by assumption) ?_; intro _ _))
theorem mulA (x : Str) : Txt.mul (Str.ofString "A") ((-(x.length : Int)).fmod 4) = ⟨(List.replicate ((-(x.length : Int)).fmod 4).toNat 65).toArray⟩ :=
  txt_mul 65 _ (by rw [Int.fmod_eq_emod_of_nonneg _ (by decide)]; omega)
theorem padA_eq (x : Str) : Txt.mul (Str.ofString "A") ((-(x.length : Int)).fmod 4) ++ x = padA x := by
  rw [mulA]
  unfold padA
  rw [Int.fmod_eq_emod_of_nonneg _ (by decide)]
  show Str.mk (_ ++ _) = _
  congr 1
  rw [← Array.toList_inj]
  simp [Str.length]
theorem ascii_padA {x : Str} (ha : ∀ c ∈ x.cps, c < 128) : ∀ c ∈ (padA x).cps, c < 128 := by
  intro c hc
  have hc' : c ∈ List.replicate ((-(x.cps.size : Int)) % 4).toNat 65 ++ x.cps.toList := by simpa [padA] using hc
  rcases List.mem_append.mp hc' with h | h
  · rw [(List.mem_replicate.mp h).2]; decide
  · exact ha c (by simpa using h)
theorem size_padA (x : Str) : (padA x).cps.size ≤ x.cps.size + 3 := by
  show (List.toArray _).size ≤ _
  rw [List.size_toArray, List.length_append, List.length_replicate, Array.length_toList]
  omega
theorem bInts_byteArr {o : List Int} (h : ∀ n ∈ o, 0 ≤ n ∧ n < 256) : bInts (byteArr o) = o := by
  unfold bInts byteArr
  rw [List.map_map]
  conv => rhs; rw [← List.map_id o]
  refine List.map_congr_left fun n hn => ?_
  have := h n hn
  show ((n.toNat.toUInt8.toNat : Nat) : Int) = n
  rw [show n.toNat.toUInt8.toNat = n.toNat % 256 from rfl, Nat.mod_eq_of_lt (by omega)]
  omega
local macro_rules | `(tactic| walk_at "callWith ref") => `(tactic| refine Sx.fn (by assumption) (by with_unfolding_all rfl) (by with_unfolding_all rfl) ?_)
local macro_rules | `(tactic| walk_at "Held") => `(tactic| refine Held.intro (by assumption) ?_)
section
variable {prog : Program} {w : World} {A : Around} {E Q : Value → Shared → Prop} {s : Shared} {h₀ : Heap} {L : Addr} {m : Str → Option Value} {news : List (Addr × Obj)}
noncomputable def octs (o : List Int) : Int := o.foldl (fun n k => n * 256 + k) 0
theorem octs_lt {o : List Int} (h : ∀ n ∈ o, 0 ≤ n ∧ n < 256) (i : Nat) : 0 ≤ octs (o.take i) ∧ octs (o.take i) < 256 ^ i := by
  induction i with
  | zero => simp [octs]
  | succ i ih =>
    rw [List.take_add_one]
    cases e : o[i]? with
    | none =>
      simp only [Option.toList_none, List.append_nil]
      refine ⟨ih.1, Int.lt_of_lt_of_le ih.2 ?_⟩
      rw [Int.pow_succ]; have : (0 : Int) ≤ 256 ^ i := Int.pow_nonneg (by decide); omega
    | some k =>
      have hk := h k (List.mem_of_getElem? e)
      simp only [Option.toList_some]
      unfold octs at *
      rw [List.foldl_append]
      show 0 ≤ _ * 256 + k ∧ _ * 256 + k < _
      rw [Int.pow_succ]
      omega
theorem c_number {x : Str} {pr : Array UInt8} {t u : Tok} (S : Sx w A h₀ L 13) (F : Fr h₀ L s.heap m) (N : News h₀ L s.heap news) (hx : x.cps.size ≤ 300000) (ha : ∀ c ∈ x.cps, c < 128) (hp : pr.size = 2)
    (hne : ∀ k ∈ bInts (heardB pr (padA x)), k ≠ 61) {o : List Int} {l' : Int} (hr : (bInts (heardB pr (padA x))).foldl g64 ([], 0, 0) = (o, 0, l'))
    (h : ∀ t' h' tk, Fr h₀ L h' m → News h₀ L h' news → Q (.int (octs o) t') { s with heap := h', toks := tk }) :
    wpAny (model prog w) A (call (.ref 158) [.str x t, .bytes pr u]) Q E s := by
  refine wpAny_call (enter (k := 12) (binds := [(Str.ofString "row", .str x t), (Str.ofString "pair", .bytes pr u)]) S F N rfl rfl (BindsTo.of_eq rfl) (locs rfl) rfl rfl rfl (by decide) fun g L' h₁ S' F' N' kp => ?_)
  have hlen : ¬ (x.length : Int) ≥ 2 ^ 63 := by show ¬ ((x.cps.size : Nat) : Int) ≥ 2 ^ 63; omega
  have hm0 : 0 ≤ (-(x.length : Int)).fmod 4 := by rw [Int.fmod_eq_emod_of_nonneg _ (by decide)]; omega
  have hm1 : (-(x.length : Int)).fmod 4 ≤ 1000000 := by rw [Int.fmod_eq_emod_of_nonneg _ (by decide)]; omega
  have had : (Txt.mul (Str.ofString "A") ((-(x.length : Int)).fmod 4)).length + x.length ≤ sizeLine := by
    rw [mulA]
    show (List.replicate ((-(x.length : Int)).fmod 4).toNat 65).toArray.size + x.cps.size ≤ _
    rw [List.size_toArray, List.length_replicate, Int.fmod_eq_emod_of_nonneg _ (by decide), sizeLine_eq]; omega
  walk1
  walk1
  walk1
  walk1
  walk1
  refine For_invV g rfl rfl ?_
  have hin : In64 (o, 0, l') := hr ▸ In64.fold in64_0
  repeat' walk1
  rw [padA_eq]
  have hsz := size_padA x
  refine c_b64decode (Sx.less S' (by omega)) (by assumption) (by assumption) (by omega) (ascii_padA ha) hp hne hr fun t5 h5 k5 F5 N5 => ?_
  have hin1 : ∀ n ∈ o, 0 ≤ n ∧ n < 256 := hin.1
  have hob : bInts (byteArr o) = o := bInts_byteArr hin1
  have hz : o.length ≤ 1000000 := by
    have h1 := len64 (bInts (heardB pr (padA x))) ([], 0, 0)
    rw [hr, KBw.ints_length] at h1
    unfold heardB trB at h1
    rw [Array.size_map, Array.size_map] at h1
    dsimp only [List.length_nil] at h1
    omega
  refine iter_bytesJ (fun i m nx => nx = news ∧ (∃ t, m (Str.ofString "number") = some (.int (octs (o.take i)) t)) ∧ (∃ t, m (Str.ofString "pair") = some (.bytes pr t)) ∧ (∃ t, m (Str.ofString "row") = some (.str x t))) S'.hh F5 N5 ⟨rfl, ⟨_, rfl⟩, ⟨_, rfl⟩, ⟨_, rfl⟩⟩ ?_ ?_
  · rintro i k tk m₁ n₁ h2 tk2 own hk hadr hoff ⟨rfl, ⟨ti, hi⟩, ⟨tp, hpr⟩, ⟨tr, hrw⟩⟩ F2 N2
    refine turn_mono ?_
    clear h
    have e1 : m₁ = fun y => if y = Str.ofString "number" then some (.int (octs (o.take i)) ti) else m₁ y := by
      funext y; by_cases e : y = Str.ofString "number" <;> simp [e, hi]
    rw [e1] at F2
    have hk' : o[i]? = some k := by rw [← hob]; exact hk
    have hil : i < o.length := (List.getElem?_eq_some_iff.mp hk').1
    have hob2 := octs_lt hin1 i
    have hstep : octs (o.take (i + 1)) = octs (o.take i) * 256 + k := by
      unfold octs
      rw [List.take_add_one, hk', List.foldl_append]; rfl
    repeat' walk1
    rename Fr g L' _ _ => FF
    rename News g L' _ _ => NN
    refine ⟨_, _, _, _, n₁, rfl, FF, NN, fun p hp => List.mem_append.mpr (.inl hp), fun p hp => List.mem_append.mpr (.inr hp), rfl, rfl, ⟨_, by rw [hstep]; rfl⟩, ⟨tp, hpr⟩, ⟨tr, hrw⟩⟩
  · rintro m₁ n₁ h2 tk2 ⟨rfl, ⟨ti, hi⟩, ⟨tp, hpr⟩, ⟨tr, hrw⟩⟩ F2 N2
    rw [hob, List.take_length] at hi
    have e1 : m₁ = fun y => if y = Str.ofString "number" then some (.int (octs o) ti) else m₁ y := by
      funext y; by_cases e : y = Str.ofString "number" <;> simp [e, hi]
    rw [e1] at F2
    repeat' walk1
    refine leaveK_ F2 N2 fun F6 N6 => ?_
    exact h _ _ _ F6 N6
end
end Mine

end

section
open PySem PySem.W PyProof.Rows PySem.Calls
set_option maxRecDepth 100000
set_option maxHeartbeats 1000000
namespace Mine
local macro_rules | `(tactic| walk_at "unpackItems ref") => `(tactic| (refine unpackItemsN_ (by assumption) (by assumption) (News.isTup (by assumption) (by first | exact .head _ | exact .tail _ (.head _) | exact .tail _ (.tail _ (.head _)))) (Sx.hh (by assumption)) (by rfl) ?_; intro _ _ _))
section
variable {prog : Program} {w : World} {A : Around} {E Q : Value → Shared → Prop} {s : Shared} {h₀ : Heap} {L : Addr} {m : Str → Option Value} {news : List (Addr × Obj)}
theorem c_measure {a b : Nat} {t u : Tok} (S : Sx w A h₀ L 3) (F : Fr h₀ L s.heap m) (N : News h₀ L s.heap news)
    (h : ∀ t' h' tk, Fr h₀ L h' m → News h₀ L h' news → Q (.int (Nat.gcd a b : Nat) t') { s with heap := h', toks := tk }) :
    wpAny (model prog w) A (call (.ref 165) [.int a t, .int b u]) Q E s := by
  refine wpAny_call (enter (k := 2) (binds := [(Str.ofString "first", .int a t), (Str.ofString "second", .int b u)]) S F N rfl rfl (BindsTo.of_eq rfl) (locs rfl) rfl rfl rfl (by decide) fun g L' h₁ S' F' N' kp => ?_)
  refine wpAny_execs_cons (While_inv (n₀ := b) (fun n m₁ nx => nx = news ∧ ∃ c : Nat, (∃ t, m₁ (Str.ofString "first") = some (.int c t)) ∧ (∃ t, m₁ (Str.ofString "second") = some (.int n t)) ∧ Nat.gcd c n = Nat.gcd a b) F' N' ⟨rfl, a, ⟨_, rfl⟩, ⟨_, rfl⟩, rfl⟩ ?_)
  · rintro n m₁ n₁ h2 tk2 F2 N2 ⟨rfl, c, ⟨t1, h1⟩, ⟨t2, h2'⟩, hg⟩
    rw [map2 h1 h2'] at F2
    repeat' walk1
    · rename Fr g L' _ _ => FF
      rename News g L' _ _ => NN
      have hn : (n : Int) ≠ 0 := by omega
      have hn' : 0 < n := by omega
      rw [Int.fmod_eq_emod_of_nonneg _ (by omega)] at FF
      refine WhileStep.intro (n' := c % n) FF (fun p hp => NN p (.tail _ hp)) (Nat.mod_lt _ hn') ⟨rfl, n, ⟨_, rfl⟩, ⟨_, rfl⟩, ?_⟩
      rw [← hg, Nat.gcd_comm c n, Nat.gcd_rec n c, Nat.gcd_comm]
    · have hn' : n = 0 := by omega
      subst hn'
      rw [Nat.gcd_zero_right] at hg
      subst hg
      refine leaveK_ F2 N2 fun F6 N6 => ?_
      exact h _ _ _ F6 N6
end
end Mine

end

section
open PySem PySem.W PyProof.Rows PySem.Calls
set_option maxRecDepth 100000
set_option maxHeartbeats 1000000
namespace Mine
open PySem.Builtin PySem.Builtin.Str
theorem sub_kl : isSubtype (.type "KeyError") (.type "LookupError") = pure true := by rw [isSubtype_type]; kernel_rfl
noncomputable def Keeps (h h' : Heap) : Prop := ∀ b o, h.get? b = some o → h'.get? b = some o
theorem Keeps.refl (h : Heap) : Keeps h h := fun _ _ e => e
section
variable {prog : Program} {w : World} {A : Around} {E : Value → Shared → Prop} {s : Shared} {d : Addr} {f : Int → Option Value} {c : Nat}
theorem tl_keep {Q : Mapped → Shared → Prop} (hd : (d == sysModules) = false) (hh : A.handled = none) (hm : s.heap.MapOf (intKind prog w) d f) (hf : f (c : Int) = none)
    (h : ∀ h' k, Keeps s.heap h' → Q .keep { s with heap := h', toks := k }) : wpAny (model prog w) A (tableLookup (.ref d) c) Q E s := by
  unfold tableLookup
  refine wpAny_bind (wpAny_attempt (wpAny_bind (wpAny_mkInt ?_)))
  refine wpAny_getItem_missing_of (knd := intKind prog w) (k := (c : Int)) (by simp [intKind, Value.isInt]) hd hh hm hf fun h' e N => ?_
  refine wpAny_bind (wpAny_isInstance (T := "KeyError") (b := true) (let ⟨ob, _, h1, h2, _⟩ := N.there; ⟨ob, h1, h2⟩) sub_kl ?_)
  rw [if_pos rfl]
  exact wpAny_bind (wpAny_rule (wpAny_pure (h _ _ N.keeps)))
theorem tl_text {Q : Mapped → Shared → Prop} {y : Str} {t : Tok} (hm : s.heap.MapOf (intKind prog w) d f) (hf : f (c : Int) = some (.str y t))
    (h : ∀ k, Q (.text y) { s with toks := k }) : wpAny (model prog w) A (tableLookup (.ref d) c) Q E s := by
  unfold tableLookup
  refine wpAny_bind (wpAny_attempt (wpAny_bind (wpAny_mkInt ?_)))
  refine wpAny_getItem_of (knd := intKind prog w) (k := (c : Int)) (by simp [intKind, Value.isInt]) hm hf ?_
  dsimp only
  refine wpAny_bind (wpAny_of_eq (a := none) rfl ?_)
  dsimp only
  refine wpAny_bind (wpAny_of_eq (a := some y) rfl ?_)
  exact wpAny_pure (h _)
theorem call_translate1 {Q : Value → Shared → Prop} {t : Tok} (hd : (d == sysModules) = false) (hh : A.handled = none) (hm : s.heap.MapOf (intKind prog w) d f) (hc : c < 128) {out : List Nat}
    (hf : (f (c : Int) = none ∧ out = [c]) ∨ (∃ y t, f (c : Int) = some (.str ⟨y.toArray⟩ t) ∧ y.length = 2 ∧ out = y))
    (h : ∀ t' h' k, Keeps s.heap h' → Q (.str ⟨out.toArray⟩ t') { s with heap := h', toks := k }) :
    wpAny (model prog w) A (call (.builtin "str.translate") [.str ⟨#[c]⟩ t, .ref d]) Q E s := by
  refine wpAny_call_entry PySem.F.slot_str_translate (PySem.typeIs_str _ _ _) PySem.F.entry_str_translate ?_ (PySem.F.args_str_translate_2 _ _)
  unfold Builtin.«str.translate»
  refine wpAny_bind (wpAny_of_eq (a := (Value.str ⟨#[c]⟩ t, (⟨#[c]⟩ : Str), Value.ref d)) (by kernel_rfl) ?_)
  dsimp only
  rw [if_neg (show ¬ ((⟨#[c]⟩ : Str).length == 0) = true from by show ¬ ((1 : Nat) == 0) = true; decide)]
  refine wpAny_bind ?_
  rw [show (#[c].all fun x => decide (x < 128)) = true by simp [hc]]
  simp only [List.forIn_toArray, List.forIn_cons, List.forIn_nil]
  rw [if_neg (by decide)]
  refine wpAny_bind ?_
  rw [if_pos trivial]
  simp only [List.lookup_nil]
  rcases hf with ⟨h1, rfl⟩ | ⟨y, ty, h1, hy, rfl⟩
  · refine wpAny_bind (tl_keep hd hh hm h1 fun h' k kk => ?_)
    dsimp only
    refine wpAny_bind (wpAny_pure ?_)
    dsimp only
    refine wpAny_pure ?_
    dsimp only
    refine wpAny_pure ?_
    dsimp only
    rw [if_neg (by decide)]
    show wpAny _ _ (mkStr _ >>= fun v => ret v) _ _ _
    refine wpAny_bind (wpAny_mkStr (x := ⟨#[c]⟩) (wpAny_pure ⟨_, rfl, h _ _ _ kk⟩) (by show 1 ≤ sizeLine; rw [sizeLine_eq]; omega))
  · refine wpAny_bind (tl_text hm h1 fun k => ?_)
    dsimp only
    have hl : ((⟨out.toArray⟩ : Str).length == 1) = false := by show (out.toArray.size == 1) = false; rw [List.size_toArray, hy]; rfl
    rw [hl]
    simp only [Bool.false_and, Bool.false_eq_true, if_false]
    refine wpAny_bind (wpAny_pure ?_)
    dsimp only
    refine wpAny_bind (wpAny_rule ?_)
    refine wpAny_bind (tl_text hm h1 fun k => ?_)
    dsimp only
    refine wpAny_pure ?_
    dsimp only
    refine wpAny_pure ?_
    dsimp only
    have hl2 : (⟨out.toArray⟩ : Str).length = 2 := by show out.toArray.size = 2; rw [List.size_toArray, hy]
    rw [hl2, if_neg (by decide)]
    have e : (Array.mk [] ++ out.toArray : Array Nat) = out.toArray := by simp
    show wpAny _ _ (mkStr ⟨#[] ++ out.toArray⟩ >>= fun v => ret v) _ _ _
    rw [e]
    refine wpAny_bind (wpAny_mkStr (wpAny_pure ⟨_, rfl, h _ _ _ (Keeps.refl _)⟩) (by rw [hl2, sizeLine_eq]; omega))
end
end Mine

end

section
open PySem PySem.W PyProof.Rows PySem.Calls
set_option maxRecDepth 100000
set_option maxHeartbeats 1000000
namespace Mine
noncomputable def specials : List Nat := [40, 41, 91, 93, 123, 125, 63, 42, 43, 45, 124, 94, 36, 92, 46, 38, 126, 35, 32, 9, 10, 13, 11, 12]
noncomputable def esc (c : Nat) : List Nat := if specials.contains c then [92, c] else [c]
noncomputable def escEs (P : Params) : Array DictEntry := match (K P).lookup 110 with
  | some ⟨_, _, .dict es _, _⟩ => es
  | _ => #[]
noncomputable def keysOk (es : Array DictEntry) : Bool := es.all fun e => match e.key with
  | .int k _ => e.hash == hashInt k
  | _ => false
theorem keysOf_of {prog : Program} {w : World} {es : Array DictEntry} (h : keysOk es = true) : KeysOf (intKind prog w) es := by
  intro e he
  have := Array.all_eq_true_iff_forall_mem.mp h e he
  cases hk : e.key <;> rw [hk] at this <;> simp only [Bool.false_eq_true] at this
  rename_i i t
  exact ⟨i, by show Value.isInt i (.int i t) = true; simp [Value.isInt], by show e.hash = hashInt i; simpa using this⟩
noncomputable def escOk (es : Array DictEntry) : Bool := (List.range 128).all fun c => match findBy Value.isInt es (c : Int) with
  | none => esc c == [c]
  | some (.str y _) => y.cps.toList.length == 2 && esc c == y.cps.toList
  | _ => false
theorem escEs_keys (P : Params) : keysOk (escEs P) = true := by kernel_rfl
theorem escEs_ok (P : Params) : escOk (escEs P) = true := by kernel_rfl
theorem escEs_at (P : Params) : ∃ n, (K P).lookup 110 = some ⟨.type "dict", none, .dict (escEs P) n, #[]⟩ := ⟨24, by kernel_rfl⟩
theorem esc_look {P : Params} {c : Nat} (hc : c < 128) :
    (findBy Value.isInt (escEs P) (c : Int) = none ∧ esc c = [c]) ∨ (∃ (y : List Nat) (t : Tok), findBy Value.isInt (escEs P) (c : Int) = some (.str ⟨y.toArray⟩ t) ∧ y.length = 2 ∧ esc c = y) := by
  have h := List.all_eq_true.mp (escEs_ok P) c (List.mem_range.mpr hc)
  revert h
  cases hf : findBy Value.isInt (escEs P) (c : Int) with
  | none => intro h; exact .inl ⟨rfl, by simpa using h⟩
  | some v =>
    cases v <;> intro h <;> simp only [Bool.false_eq_true] at h
    rename_i y t
    rw [Bool.and_eq_true] at h
    exact .inr ⟨y.cps.toList, t, by simp, by simpa using h.1, by simpa using h.2⟩
theorem g_special (P : Params) : nsIn (K P) mainGlobals (Str.ofString "_special_chars_map") = some (some (.ref 110)) := by kernel_rfl
section
variable {prog : Program} {w : World} {A : Around} {E Q : Value → Shared → Prop} {s : Shared} {h₀ : Heap} {L : Addr} {m : Str → Option Value} {news : List (Addr × Obj)}
theorem isi_str_str {x : Str} {t : Tok} (S : Sx w A h₀ L 1) (F : Fr h₀ L s.heap m) (h : ∀ tk, Q (.bool true) { s with toks := tk }) : wpAny (model prog w) A (call (.builtin "isinstance") [.str x t, .type "str"]) Q E s :=
  kia_one kitx_str (S.X.keeps F.keep) trivial (b := true) (by kernel_rfl) (by intro e; cases e) h
end
local macro_rules | `(tactic| walk_at "eval Name") => `(tactic| first
  | ((with_reducible show wpAny _ _ (eval (PySem.Expr.Name (Str.ofString "_special_chars_map") _) _) _ _ _); refine Sx.glob (by assumption) (by assumption) (g_special _) ?_)
  | ((with_reducible show wpAny _ _ (eval (PySem.Expr.Name (Str.ofString "str") _) _) _ _ _); refine Sx.blt (by assumption) (by assumption) (n_str _) (by boot_fast) (by decide) ?_)
  | ((with_reducible show wpAny _ _ (eval (PySem.Expr.Name (Str.ofString "isinstance") _) _) _ _ _); refine Sx.blt (by assumption) (by assumption) (n_isinstance _) (by boot_fast) (by decide) ?_))
local macro_rules | `(tactic| walk_at "call builtin:isinstance") => `(tactic| (refine isi_str_str (Sx.less (by assumption) (by omega)) (by assumption) ?_; intro _))
local macro_rules | `(tactic| walk_at "getMethod str") => `(tactic| refine getMethod_builtin (T := "str") (typeIs_str _ _ _) PySem.F.plainAttrs_str PySem.F.slot_str_translate PySem.F.type_str_translate (fun _ e => nomatch e) ?_)
section
variable {prog : Program} {w : World} {A : Around} {E Q : Value → Shared → Prop} {s : Shared} {h₀ : Heap} {L : Addr} {m : Str → Option Value} {news : List (Addr × Obj)}
theorem c_escape {c : Nat} {t : Tok} (S : Sx w A h₀ L 3) (F : Fr h₀ L s.heap m) (N : News h₀ L s.heap news) (hc : c < 128)
    (h : ∀ t' h' tk, Fr h₀ L h' m → News h₀ L h' news → Q (.str ⟨(esc c).toArray⟩ t') { s with heap := h', toks := tk }) :
    wpAny (model prog w) A (call (.ref 120) [.str ⟨#[c]⟩ t]) Q E s := by
  refine wpAny_call (enter (k := 2) (binds := [(Str.ofString "pattern", .str ⟨#[c]⟩ t)]) S F N rfl rfl (BindsTo.of_eq rfl) (locs rfl) rfl rfl rfl (by decide) fun g L' h₁ S' F' N' kp => ?_)
  repeat' walk1
  obtain ⟨n, hes⟩ := escEs_at w.params
  have hm : h₁.MapOf (intKind prog w) 110 (fun k => findBy Value.isInt (escEs w.params) k) := ⟨_, _, _, S'.X.keeps F'.keep 110 _ hes, ⟨rfl, rfl, rfl⟩, rfl, keysOf_of (escEs_keys _), fun _ => rfl⟩
  refine call_translate1 (f := fun k => findBy Value.isInt (escEs w.params) k) (by decide) S'.hh hm hc (esc_look hc) fun t' h' k kk => ?_
  have F2 := frK F' kk
  have N2 := newsK N' kk
  refine leaveK_ F2 N2 fun F6 N6 => ?_
  exact h _ _ _ F6 N6
end
end Mine

end

section
open PySem PySem.W PyProof.Rows PySem.Calls
set_option maxRecDepth 100000
set_option maxHeartbeats 1000000
namespace Mine
open PySem.Builtin
theorem slot_md_get : Slot "method_descriptor" "__get__" "method_descriptor.__get__" :=
  .of (owner := "method_descriptor") (n := "__get__") (by rw [typeLookup_type, builtinLookup_eq_fast]; kernel_rfl) (by decide +kernel) (by decide +kernel) (by decide +kernel)
    (by first | exact .inl (by decide +kernel) | exact .inr (by decide +kernel)) (by rw [isSubtype_type]; kernel_rfl)
theorem entry_md_get : entryFor table "method_descriptor.__get__" = some Builtin.«method_descriptor.__get__» := entryFor_of_tree (by kernel_rfl)
theorem args_md_get (a b c : Value) : argsOk "method_descriptor.__get__" ⟨[a, b, c], []⟩ := by unfold argsOk; kernel_rfl
theorem lk_md_set : typeLookup (.type "method_descriptor") "__set__" = pure none := by rw [typeLookup_type, builtinLookup_eq_fast]; kernel_rfl
theorem lk_md_del : typeLookup (.type "method_descriptor") "__delete__" = pure none := by rw [typeLookup_type, builtinLookup_eq_fast]; kernel_rfl
theorem lk_list_append : typeLookup (.type "list") "append" = pure (some (.builtin "list.append")) := by rw [typeLookup_type, builtinLookup_eq_fast]; kernel_rfl
theorem ty_list_append : typeOf (.builtin "list.append") = pure (.type "method_descriptor") := by show builtinType _ = _; rw [builtinType_eq_fast]; kernel_rfl
theorem owner_la : (".".intercalate ("list.append".cutAt '.').dropLast) = "list" := by decide +kernel
theorem sub_la : isSubtype (.type "list") (.type (".".intercalate ("list.append".cutAt '.').dropLast)) = pure true := by rw [owner_la, isSubtype_type]; kernel_rfl
noncomputable def boundA (l : Addr) : Obj := { cls := .type "builtin_function_or_method", data := .fields #[.builtin "list.append", .ref l] }
section
variable {prog : Program} {w : World} {A : Around} {E : Value → Shared → Prop} {h : Heap} {g : Array GenState} {d : Drawn} {t : Nat} {os : OsState} {a : Addr} {its : Array Value} {n : Nat}
theorem app_get {R : Result → Shared → Prop} (hx : h.get? a = some (listOf its n)) (hq : R (.ok (.ret (.ref h.objs.size))) ⟨h.push (boundA a), g, d, t, os⟩) :
    codeAny (model prog w) A (.call (.builtin "method_descriptor.__get__") ⟨[.builtin "list.append", .ref a, .type "list"], []⟩) R ⟨h, g, d, t, os⟩ := by
  have hT : (⟨h, g, d, t, os⟩ : Shared).TypeIs (.ref a) "list" := ⟨_, hx, rfl⟩
  have hT5 : (⟨h, g, d, t, os⟩ : Shared).TypeIs (.builtin "list.append") "method_descriptor" := ty_list_append
  refine codeAny_call_builtin slot_md_get.plain entry_md_get (slot_md_get.check _ _ _ _ _ _ _ _ hT5 (args_md_get _ _ _) ?_)
  have f8 := sub_la
  repeat (any_goals (first | assumption | wp_step))
theorem app_entry {tk : Tok} {Q : Fin → Shared → Prop} (hx : h.get? a = some (listOf its n)) (hq : Q (.done (.ret (.ref h.objs.size))) ⟨h.push (boundA a), g, d, t, os⟩) :
    wpAny (model prog w) A (Builtin.«object.__getattribute__» ⟨[.ref a, .str (Str.ofString "append") tk], []⟩) Q E ⟨h, g, d, t, os⟩ := by
  have hT : (⟨h, g, d, t, os⟩ : Shared).TypeIs (.ref a) "list" := ⟨_, hx, rfl⟩
  have hT5 : (⟨h, g, d, t, os⟩ : Shared).TypeIs (.builtin "list.append") "method_descriptor" := ty_list_append
  have f4 := lk_list_append
  have f5 := ty_list_append
  have f6 := slot_md_get.lookup
  have f7 := lk_md_set
  have f8 := lk_md_del
  have f9 : ObjectAttr.copiedAttributeGuard (Str.ofString "append") (Value.ref a) = pure () := by kernel_rfl
  repeat (any_goals (first | assumption | wp_step))
  refine app_get hx ?_
  repeat (any_goals (first | assumption | wp_step))
theorem app_by {tk : Tok} {Q : Value → Shared → Prop} (hx : h.get? a = some (listOf its n)) (hq : Q (.ref h.objs.size) ⟨h.push (boundA a), g, d, t, os⟩) :
    wpAny (model prog w) A (getAttrBy (.ref a) (.str (Str.ofString "append") tk) true true) Q E ⟨h, g, d, t, os⟩ := by
  have hT : (⟨h, g, d, t, os⟩ : Shared).TypeIs (.ref a) "list" := ⟨_, hx, rfl⟩
  have f2 := F.slot_list_getattribute.lookup
  have f3 := F.slot_list_getattribute.bind (.ref a)
  repeat (any_goals (first | assumption | wp_step))
  refine codeAny_call_builtin F.slot_list_getattribute.plain F.entry_list_ga (F.slot_list_getattribute.check _ _ _ _ _ _ _ _ (show (⟨h, g, d, t, os⟩ : Shared).TypeIs (.ref a) "list" from ⟨_, hx, rfl⟩) (F.args_list_getattribute_2 _ _) (app_entry hx ?_))
  repeat (any_goals (first | assumption | wp_step))
theorem get_append {Q : Value → Shared → Prop} (hx : h.get? a = some (listOf its n)) (hq : Q (.ref h.objs.size) ⟨h.push (boundA a), g, d, t + 1, os⟩) :
    wpAny (model prog w) A (getAttr (.ref a) (Str.ofString "append") true) Q E ⟨h, g, d, t, os⟩ := by
  unfold getAttr
  repeat (any_goals (first | assumption | with_reducible apply app_by hx | wp_step))
end
end Mine

end

section
open PySem PySem.W PyProof.Rows PySem.Calls
set_option maxRecDepth 100000
set_option maxHeartbeats 1000000
namespace Mine
open PySem.Builtin
section
variable {prog : Program} {w : World} {M : Model} {A : Around} {E Q : Value → Shared → Prop} {s : Shared} {h₀ : Heap} {L : Addr} {m : Str → Option Value} {news news' : List (Addr × Obj)} {l x : Addr} {its : Array Value} {n : Nat}
theorem get_append_N {Q : Value → Shared → Prop} (F : Fr h₀ L s.heap m) (N : News h₀ L s.heap news) (hm : (l, listOf its n) ∈ news)
    (h : ∀ h', Fr h₀ L h' m → News h₀ L h' ((s.heap.objs.size, boundA l) :: news) → Q (.ref s.heap.objs.size) { s with heap := h', toks := s.toks + 1 }) :
    wpAny (model prog w) A (getAttr (.ref l) (Str.ofString "append") true) Q E s := by
  obtain ⟨hp, g, d, t, os⟩ := s
  exact get_append (N _ hm).1 (h _ (F.push _) (N.push F _))
noncomputable def StandsB (x : Addr) (l : Addr) (h : Heap) : Prop := h.get? x = some (boundA l)
theorem callWith_fieldsB {pos : Pos} {first : List Value} {args : List (Bool × Sem Value)} {Q : Value → Shared → Prop} (hplain : args.any (·.1) = false)
    (h : wpAny M A (evalArgs (.ref x) true args []) (fun y s₁ => StandsB x l s₁.heap ∧ wpAny M A (call (.ref x) (first ++ y.pos) y.kw) Q E s₁) E s) : wpAny M A (callWith pos (.ref x) first args []) Q E s := by
  unfold callWith
  refine wpAny_bind (wpAny_holding (wpAny_mono h (fun x s₁ h₁ => wpAny_bind (wpAny_standAt ?_)) fun _ _ x => x))
  obtain ⟨ho, hcall⟩ := h₁
  simp only [hplain, List.any_nil, Bool.or_false]
  refine wpAny_bind (m := keeperOf (.ref _)) ?_
  unfold keeperOf
  refine wpAny_bind (wpAny_load ho ?_)
  simp only [boundA, show (Value.type "builtin_function_or_method" != Value.type "method") = true by decide, show (Value.type "builtin_function_or_method" == Value.type "builtin_function_or_method" || Value.type "builtin_function_or_method" == Value.type "method-wrapper") = true by decide, if_true]
  refine wpAny_pure ?_
  exact wpAny_bind (wpAny_mono hcall (fun r s₂ hr => wpAny_bind (wpAny_holding (wpAny_point (wpAny_pure hr)))) fun _ _ x => x)
noncomputable def HeldB (x l : Addr) (s₁ : Shared) (P : Prop) : Prop := StandsB x l s₁.heap ∧ P
theorem HeldB.intro {s₁ : Shared} {P : Prop} (N : News h₀ L s₁.heap news) (hm : (x, boundA l) ∈ news) (h : P) : HeldB x l s₁ P := ⟨(N _ hm).1, h⟩
theorem callWith_B {pos : Pos} {env : Env} {e : PySem.Expr} {rest : List PySem.Expr} {Q : Value → Shared → Prop} (_N : News h₀ L s.heap news) (_hm : (x, boundA l) ∈ news)
    (h : wpAny M A (spliced (backTo pos (starEach (e :: rest) env))) (fun vs s₁ => HeldB x l s₁ (wpAny M A (call (.ref x) vs) Q E s₁)) E s)
    (he : starEach (e :: rest) env = (false, eval e env) :: starEach rest env := by rfl) (hplain : (backTo pos (starEach rest env)).any (·.1) = false := by rfl) :
    wpAny M A (callWith pos (.ref x) [] (backTo pos (starEach (e :: rest) env)) []) Q E s := by
  rw [he] at h ⊢
  refine callWith_fieldsB (l := l) (by show (false || (backTo pos (starEach rest env)).any (·.1)) = false; rw [hplain]; rfl) ?_
  exact evalArgs_plain h
theorem sub_lm : isSubtype (.type "list") (.type "module") = pure false := by rw [isSubtype_type]; kernel_rfl
theorem sub_lt : isSubtype (.type "list") (.type "type") = pure false := by rw [isSubtype_type]; kernel_rfl
theorem owner_list' : Manifest.owners.lookup (String.ofList ['t', 's', 'i', 'l'].reverse) = some Manifest.sig_list := by kernel_rfl
theorem kind_la : builtinKind "list.append" = some .method := by decide +kernel
theorem va_la : Manifest.varargsMethods.contains "list.append" = false := by decide +kernel
theorem check_la {v : Value} {Q : Unit → Shared → Prop} (ho : s.heap.get? l = some (listOf its n)) (h : Q () s) : wpAny M A (checkBoundCall "list.append" ⟨[.ref l, v], []⟩) Q E s := by
  have hT : s.TypeIs (.ref l) "list" := ⟨_, ho, rfl⟩
  unfold checkBoundCall
  rw [signature?_of (id := "list.append") (n := ['d', 'n', 'e', 'p', 'p', 'a']) (o := ['t', 's', 'i', 'l']) (by kernel_rfl) owner_list']
  rw [show Manifest.sig_list.lookup (String.ofList ['d', 'n', 'e', 'p', 'p', 'a'].reverse) = some (⟨.oneArg, "list.append", "append", .self, [⟨"object", .posOnly, true⟩]⟩ : Manifest.Signature) from by kernel_rfl]
  simp only [kind_la, va_la]
  rw [if_neg (by decide)]
  refine wpAny_bind (wpAny_isInstance (T := "list") (b := false) hT sub_lm ?_)
  rw [if_neg (by decide)]
  refine wpAny_bind (m := isType (.ref l)) ?_
  have f1 := sub_lt
  repeat (any_goals (first | assumption | wp_step))
theorem quiet_la {as : Args} : (Code.builtin "list.append" as).quiet = true := Code.quiet_builtin _ (by decide +kernel)
theorem call_append_N {v : Value} {Q : Value → Shared → Prop} (F : Fr h₀ L s.heap m) (N : News h₀ L s.heap news) (hm : (x, boundA l) ∈ news) (U : Upd l (listOf its n) (listOf (its.push v) (n + 1)) news news')
    (h : ∀ h', Fr h₀ L h' m → News h₀ L h' news' → Q .none { s with heap := h' }) (hsz : its.size ≤ sizeLine) :
    wpAny (model prog w) A (call (.ref x) [v]) Q E s := by
  have ho : s.heap.get? x = some (boundA l) := (N _ hm).1
  have hl : s.heap.get? l = some (listOf its n) := by
    obtain ⟨pre, post, rfl, _, _, _⟩ := U.split
    exact (N (l, listOf its n) (List.mem_append.mpr (.inr (.head _)))).1
  refine wpAny_call (codeAny_of_tree ?_)
  show wpAny _ A.in1 (callAny (.ref x) ⟨[v], []⟩) _ _ s
  simp only [callAny]
  refine wpAny_bind (wpAny_load ho ?_)
  simp only [boundA, show (Value.type "builtin_function_or_method" == Value.type "method" || Value.type "builtin_function_or_method" == Value.type "builtin_function_or_method" || Value.type "builtin_function_or_method" == Value.type "method-wrapper") = true by decide, if_true]
  refine KFB.if_so (by decide) ?_
  refine wpAny_bind (check_la (l := l) (its := its) (n := n) hl ?_)
  refine wpAny_bind (wpAny_pure (wpAny_pure ?_))
  refine ⟨quiet_la, codeAny_builtin PySem.F.entry_list_append ?_⟩
  show wpAny _ _ (updateSeq l (·.push v) >>= fun _ => ret .none) _ _ s
  refine wpAny_bind ?_
  obtain ⟨pre, post, rfl, rfl, a, b⟩ := U.split
  have z := N (l, listOf its n) (List.mem_append.mpr (.inr (.head _)))
  refine wpAny_updateSeq (hz := hsz) z.1 rfl (wpAny_pure (h _ (F.change (Heap.SameBut.update ..) z.2.1 z.2.2) (news_set N a b (Heap.SameBut.update ..) ?_)))
  rw [Heap.get?_update_self _ z.1 (by rw [mapSeq_push]; rfl), mapSeq_push]
end
end Mine

end

section
open PySem PySem.W PyProof.Rows PySem.Calls
set_option maxRecDepth 100000
set_option maxHeartbeats 1000000
namespace Mine
noncomputable def RelT (star : Addr) (v : Value) : Option (List Nat) → Prop
  | none => v = .ref star
  | some y => ∃ t, v = .str ⟨y.toArray⟩ t
inductive TrIs (star : Addr) : List Value → List (Option (List Nat)) → Prop
  | nil : TrIs star [] []
  | snoc {vs xs v x} : TrIs star vs xs → RelT star v x → TrIs star (vs ++ [v]) (xs ++ [x])
noncomputable def trStep (xs : List (Option (List Nat))) (c : Nat) : List (Option (List Nat)) :=
  if c = 42 then (if xs.getLast? = some none then xs else xs ++ [none]) else if c = 63 then xs ++ [some [46]] else xs ++ [some (esc c)]
theorem map7 {m : Str → Option Value} {a b c d e f g : Str} {va vb vc vd ve vf vg : Value} (ha : m a = some va) (hb : m b = some vb) (hc : m c = some vc) (hd : m d = some vd) (he : m e = some ve) (hf : m f = some vf) (hg : m g = some vg) :
    m = fun y => if y = a then some va else if y = b then some vb else if y = c then some vc else if y = d then some vd else if y = e then some ve else if y = f then some vf else if y = g then some vg else m y := by
  funext y; repeat' (split; (rename_i e; rw [e]; assumption))
  rfl
theorem item_at {p : List Nat} {i : Nat} (h : i < p.length) : Txt.item ⟨p.toArray⟩ (i : Int) = ⟨#[p[i]]⟩ := by
  have e : Txt.charAt ⟨p.toArray⟩ (i : Int) = some p[i] := by
    unfold Txt.charAt
    simp [seqIndex?, Str.length, show ¬ ((i : Int) < 0) by omega, h]
  unfold Txt.item
  rw [e]; rfl
theorem ch_of {ch c : Nat} {y : Str} (hy : y = ⟨#[c]⟩) (h : ((⟨#[ch]⟩ : Str) == y) = true) : ch = c := by
  subst hy
  have e1 : (⟨#[ch]⟩ : Str) = ⟨#[c]⟩ := by simpa using h
  have e3 : [ch] = [c] := congrArg (fun x : Str => x.cps.toList) e1
  exact (List.cons.inj e3).1
theorem ch_ne {ch c : Nat} {y : Str} (hy : y = ⟨#[c]⟩) (h : ((⟨#[ch]⟩ : Str) == y) = false) : ch ≠ c := by
  rintro rfl
  subst hy
  simp at h
theorem tr_star_none {xs : List (Option (List Nat))} : trStep (xs ++ [none]) 42 = xs ++ [none] := by simp [trStep]
theorem tr_star_some {xs : List (Option (List Nat))} {y : List Nat} : trStep (xs ++ [some y]) 42 = (xs ++ [some y]) ++ [none] := by simp [trStep]
theorem tr_q {xs : List (Option (List Nat))} : trStep xs 63 = xs ++ [some [46]] := by simp [trStep]
theorem tr_else {xs : List (Option (List Nat))} {c : Nat} (h1 : c ≠ 42) (h2 : c ≠ 63) : trStep xs c = xs ++ [some (esc c)] := by simp [trStep, h1, h2]
theorem len_snoc {vs : List Value} {v : Value} {i : Nat} (h : vs.length ≤ i) : (vs ++ [v]).length ≤ i + 1 := by rw [List.length_append, List.length_singleton]; omega
theorem last_at (vs : List Value) (v : Value) : (vs ++ [v]).toArray[(-1 + ((vs ++ [v]).toArray.size : Int)).toNat]? = some v := by
  have e : (-1 + ((vs ++ [v]).toArray.size : Int)).toNat = vs.length := by rw [List.size_toArray, List.length_append, List.length_singleton]; omega
  rw [e, List.getElem?_toArray, List.getElem?_append_right (Nat.le_refl _), Nat.sub_self]; rfl
theorem last_sz (vs : List Value) (v : Value) : -((vs ++ [v]).toArray.size : Int) ≤ -1 := by rw [List.size_toArray, List.length_append, List.length_singleton]; omega
theorem g_escape (P : Params) : nsIn (K P) mainGlobals (Str.ofString "escape") = some (some (.ref 120)) := by kernel_rfl
local macro_rules | `(tactic| walk_at "eval Name") => `(tactic| first
  | ((with_reducible show wpAny _ _ (eval (PySem.Expr.Name (Str.ofString "escape") _) _) _ _ _); refine Sx.glob (by assumption) (by assumption) (g_escape _) ?_)
  | ((with_reducible show wpAny _ _ (eval (PySem.Expr.Name (Str.ofString "len") _) _) _ _ _); refine Sx.blt (by assumption) (by assumption) (n_len _) (by boot_fast) (by decide) ?_))
local macro_rules | `(tactic| walk_at "callWith ref") => `(tactic| first | (refine callWith_B (by assumption) (.head _) ?_) | (refine Sx.fn (by assumption) (by with_unfolding_all rfl) (by with_unfolding_all rfl) ?_))
local macro_rules | `(tactic| walk_at "Held") => `(tactic| refine Held.intro (by assumption) ?_)
local macro_rules | `(tactic| walk_at "HeldB") => `(tactic| refine HeldB.intro (by assumption) (.head _) ?_)
local macro_rules | `(tactic| walk_at "getAttr ref") => `(tactic| (refine get_append_N (by assumption) (by assumption) (.head _) ?_; intro _ _ _))
local macro_rules | `(tactic| walk_at "unpackItems ref") => `(tactic| (refine unpackItemsN_ (by assumption) (by assumption) (News.isTup (by assumption) (by first | exact .head _ | exact .tail _ (.head _) | exact .tail _ (.tail _ (.head _)))) (Sx.hh (by assumption)) (by rfl) ?_; intro _ _ _))
local macro_rules | `(tactic| walk_at "call ref") => `(tactic| first
  | (refine call_append_N (by assumption) (by assumption) (.head _) (Upd.tail (by assumption) (Upd.head (by assumption))) ?_ (by assumption); intro _ _ _)
  | (refine c_escape (Sx.less (by assumption) (by omega)) (by assumption) (by assumption) (by assumption) ?_; intro _ _ _ _ _))
local macro_rules | `(tactic| walk_at "truthy ref") => `(tactic| refine wpAny_truthy_list (News.isList (by assumption) (.tail _ (.head _))) (by assumption) ?_)
local macro_rules | `(tactic| walk_at "execs cons") => `(tactic| exact absurd (show ((_ : Str) == Str.ofString "[") = true by assumption) (by assumption))
local macro_rules | `(tactic| walk_at "subscriptTail Name UnaryOp ref int") => `(tactic| (refine subscriptTail_builtin (T := "list") ⟨_, (News.get (by assumption) (.tail _ (.head _))), rfl⟩ slot_list_getitem.lookup ?_; refine wpAny_getItem_list_neg (News.isList (by assumption) (.tail _ (.head _))) (by decide) (last_sz _ _) (by decide) (last_at _ _) ?_))
local macro_rules | `(tactic| walk_at "compareOp IsNot str ref") => `(tactic| refine wpAny_isNot_other rfl (by simp) ?_)
local macro_rules | `(tactic| walk_at "call builtin:len") => `(tactic| refine P.len_str (by assumption) ?_)
section
variable {prog : Program} {w : World} {A : Around} {E Q : Value → Shared → Prop} {s : Shared} {h₀ : Heap} {L : Addr} {m : Str → Option Value} {news : List (Addr × Obj)}
theorem c_tr {p : List Nat} {t u : Tok} {star : Addr} (S : Sx w A h₀ L 7) (F : Fr h₀ L s.heap m) (N : News h₀ L s.heap news) (hp : p.length ≤ 100000) (ha : ∀ c ∈ p, c < 128) (hb : ∀ c ∈ p, c ≠ 91)
    (h : ∀ lp vs n h' tk, TrIs star vs (p.foldl trStep []) → Fr h₀ L h' m → News h₀ L h' ((lp, listOf vs.toArray n) :: news) → (∀ q ∈ news, q.1 ≠ lp) → Q (.ref lp) { s with heap := h', toks := tk }) :
    wpAny (model prog w) A (call (.ref 127) [.str ⟨p.toArray⟩ t, .ref star, .str (Str.ofString ".") u]) Q E s := by
  refine wpAny_call (enter (k := 6) (binds := [(Str.ofString "pat", .str ⟨p.toArray⟩ t), (Str.ofString "STAR", .ref star), (Str.ofString "QUESTION_MARK", .str (Str.ofString ".") u)]) S F N rfl rfl (BindsTo.of_eq rfl) (locs rfl) rfl rfl rfl (by decide) fun g L' h₁ S' F' N' kp => ?_)
  have hlen0 : (⟨p.toArray⟩ : Str).length = p.length := by show p.toArray.size = _; rw [List.size_toArray]
  have hlen : ¬ ((⟨p.toArray⟩ : Str).length : Int) ≥ 2 ^ 63 := by rw [hlen0]; omega
  iterate 5 walk1
  rename Fr g L' _ _ => FF
  rename News g L' _ _ => NN
  generalize hlp : Array.size (Heap.objs _) = lp at FF NN ⊢
  have hfr : ∀ q ∈ news, q.1 ≠ lp := fun q hq e => Nat.lt_irrefl _ ((hlp.trans e.symm) ▸ Heap.lt_size (N' q hq).1)
  clear hlp
  iterate 6 walk1
  rename Fr g L' _ _ => FG
  rename News g L' _ _ => NG
  generalize Array.size (Heap.objs _) = bp at FG NG ⊢
  have hbl : bp ≠ lp := by
    intro e
    have h1 := (NG _ (.head _)).1
    have h2 := (NG _ (.tail _ (.head _))).1
    rw [e] at h1
    rw [h1] at h2
    have h3 := congrArg Obj.cls (Option.some.inj h2)
    exact absurd h3 (by show ¬ (Value.type "builtin_function_or_method" = Value.type "list"); simp)
  clear FF NN
  repeat' walk1
  rename Fr g L' _ _ => FW
  rename News g L' _ _ => NW
  refine While_inv (n₀ := p.length) (fun n m nx => ∃ (i : Nat) (vs : List Value) (k : Nat), i ≤ p.length ∧ n = p.length - i ∧ TrIs star vs ((p.take i).foldl trStep []) ∧ nx = (bp, boundA lp) :: (lp, listOf vs.toArray k) :: news ∧ vs.length ≤ i ∧
    (∃ t, m (Str.ofString "i") = some (.int i t)) ∧ (∃ t, m (Str.ofString "n") = some (.int p.length t)) ∧ (∃ t, m (Str.ofString "pat") = some (.str ⟨p.toArray⟩ t)) ∧ m (Str.ofString "res") = some (.ref lp) ∧ m (Str.ofString "add") = some (.ref bp) ∧ m (Str.ofString "STAR") = some (.ref star) ∧
    (∃ t, m (Str.ofString "QUESTION_MARK") = some (.str (Str.ofString ".") t))) FW (fun q hq => NW q (.tail _ hq)) ⟨0, [], 0, Nat.zero_le _, rfl, .nil, rfl, Nat.le_refl _, ⟨_, rfl⟩, ⟨_, rfl⟩, ⟨_, rfl⟩, rfl, rfl, rfl, ⟨_, rfl⟩⟩ ?_
  rintro n m₁ n₁ h2 tk2 F2 N2 ⟨i, vs, k, hi, hn, hT, rfl, hvl, ⟨t1, e1⟩, ⟨t2, e2⟩, ⟨t3, e3⟩, e4, e5, e6, ⟨t7, e7⟩⟩
  rw [map7 e1 e2 e3 e4 e5 e6 e7] at F2
  clear FG NG FW NW
  iterate 6 walk1
  · have hil : i < p.length := by omega
    have hpi : p[i]? = some p[i] := List.getElem?_eq_getElem hil
    have hmem : p[i] ∈ p := List.getElem_mem hil
    have hc := ha _ hmem
    have hnb : ¬ ((⟨#[p[i]]⟩ : Str) == Str.ofString "[") = true := by
      intro e
      have e1 : (⟨#[p[i]]⟩ : Str) = Str.ofString "[" := by simpa using e
      have e2 := congrArg (fun x : Str => x.cps.toList) e1
      have e3 : [p[i]] = [91] := e2
      exact hb _ hmem (List.cons.inj e3).1
    have hitem : Txt.item ⟨p.toArray⟩ (i : Int) = ⟨#[p[i]]⟩ := item_at hil
    have hstep : (p.take (i + 1)).foldl trStep [] = trStep ((p.take i).foldl trStep []) p[i] := by
      rw [List.take_add_one, hpi, List.foldl_append]; rfl
    have hfit : (vs.toArray.size : Int) < 2 ^ 63 := by rw [List.size_toArray]; omega
    have hsz : vs.toArray.size ≤ sizeLine := by rw [List.size_toArray, sizeLine_eq]; omega
    generalize hch : p[i] = ch at hc hnb hitem hstep
    iterate 7 walk1
    rename Fr g L' _ _ => FC
    rw [hitem] at FC
    iterate 15 walk1
    · have hch42 : ch = 42 := ch_of rfl (by assumption)
      subst hch42
      generalize (p.take i).foldl trStep [] = xs at hT hstep
      cases hT with
      | nil =>
        repeat' walk1
        rename Fr g L' _ _ => FE
        rename News g L' _ _ => NE
        refine WhileStep.intro (n' := p.length - (i + 1)) FE NE (by omega) ⟨i + 1, [.ref star], _, by omega, rfl, ?_, rfl, by simp, ⟨_, rfl⟩, ⟨_, rfl⟩, ⟨_, rfl⟩, rfl, rfl, rfl, ⟨_, rfl⟩⟩
        rw [hstep]
        exact TrIs.snoc (x := none) .nil rfl
      | @snoc vs xs v x hT hR =>
        have hemp : (vs ++ [v]).toArray.isEmpty = false := by simp
        cases x with
        | none =>
          subst hR
          repeat' walk1
          · exfalso
            revert hemp
            rw [show (vs ++ [Value.ref star]).toArray.isEmpty = true by assumption]
            decide
          · rename Fr g L' _ _ => FE
            rename News g L' _ _ => NE
            refine WhileStep.intro (n' := p.length - (i + 1)) FE NE (by omega) ⟨i + 1, _, _, by omega, rfl, ?_, rfl, Nat.le_succ_of_le hvl, ⟨_, rfl⟩, ⟨_, rfl⟩, ⟨_, rfl⟩, rfl, rfl, rfl, ⟨_, rfl⟩⟩
            rw [hstep, tr_star_none]
            exact TrIs.snoc (x := none) hT rfl
        | some y =>
          obtain ⟨ty, rfl⟩ := hR
          repeat' walk1
          · exfalso
            revert hemp
            rw [show (vs ++ [Value.str ⟨y.toArray⟩ ty]).toArray.isEmpty = true by assumption]
            decide
          · rename Fr g L' _ _ => FE
            rename News g L' _ _ => NE
            refine WhileStep.intro (n' := p.length - (i + 1)) FE NE (by omega) ⟨i + 1, _, _, by omega, rfl, ?_, by rw [List.push_toArray], len_snoc hvl, ⟨_, rfl⟩, ⟨_, rfl⟩, ⟨_, rfl⟩, rfl, rfl, rfl, ⟨_, rfl⟩⟩
            rw [hstep, tr_star_some]
            exact TrIs.snoc (x := none) (TrIs.snoc (x := some y) hT ⟨ty, rfl⟩) rfl
    · have hch42 : ch ≠ 42 := ch_ne rfl (by assumption)
      repeat' walk1
      · have hch63 : ch = 63 := ch_of rfl (by assumption)
        subst hch63
        rename Fr g L' _ _ => FE
        rename News g L' _ _ => NE
        refine WhileStep.intro (n' := p.length - (i + 1)) FE NE (by omega) ⟨i + 1, _, _, by omega, rfl, ?_, by rw [List.push_toArray], len_snoc hvl, ⟨_, rfl⟩, ⟨_, rfl⟩, ⟨_, rfl⟩, rfl, rfl, rfl, ⟨_, rfl⟩⟩
        rw [hstep, tr_q]
        exact TrIs.snoc (x := some [46]) hT ⟨_, rfl⟩
      · have hch63 : ch ≠ 63 := ch_ne (y := Str.ofString "?") rfl (by assumption)
        rename Fr g L' _ _ => FE
        rename News g L' _ _ => NE
        refine WhileStep.intro (n' := p.length - (i + 1)) FE NE (by omega) ⟨i + 1, _, _, by omega, rfl, ?_, by rw [List.push_toArray], len_snoc hvl, ⟨_, rfl⟩, ⟨_, rfl⟩, ⟨_, rfl⟩, rfl, rfl, rfl, ⟨_, rfl⟩⟩
        rw [hstep, tr_else hch42 hch63]
        exact TrIs.snoc (x := some (esc ch)) hT ⟨_, rfl⟩
  · repeat' walk1
    have hi' : i = p.length := by omega
    rw [hi', List.take_length] at hT
    refine leaveK_ F2 (fun q hq => N2 q (.tail _ hq)) fun F4 N4 => ?_
    exact h _ _ _ _ _ hT F4 N4 hfr
end
end Mine

end

section
open PySem PySem.W PyProof.Rows PySem.Calls
set_option maxRecDepth 100000
namespace Mine
theorem glue_fold (l : List (List Nat)) : ∀ acc : Array Nat, (l.map fun y => (⟨y.toArray⟩ : Str)).foldl (fun acc p => acc ++ (Str.ofString "").cps ++ p.cps) acc = acc ++ l.flatten.toArray := by
  induction l with
  | nil => intro acc; simp
  | cons a l ih =>
    intro acc
    rw [List.map_cons, List.foldl_cons, ih, ← Array.toList_inj]
    have e : (Str.ofString "").cps = #[] := by decide
    simp [e]
theorem join_eq (l : List (List Nat)) : Txt.join (Str.ofString "") (l.map fun y => (⟨y.toArray⟩ : Str)) = ⟨l.flatten.toArray⟩ := by
  unfold Txt.join Builtin.Str.glued
  congr 1
  cases l with
  | nil => rfl
  | cons a l =>
    simp only [List.map_cons, List.drop_succ_cons, List.drop_zero, List.headD_cons]
    rw [glue_fold, ← Array.toList_inj]
    simp
theorem join_len (l : List (List Nat)) : ((l.map fun y => (⟨y.toArray⟩ : Str)).map (·.length)).sum = (l.map List.length).sum := by
  induction l with
  | nil => rfl
  | cons a l ih =>
    simp only [List.map_cons, List.sum_cons, ih]
    rfl
end Mine

end

section
open PySem PySem.W PyProof.Rows PySem.Calls
set_option maxRecDepth 100000
set_option maxHeartbeats 1000000
namespace Mine
theorem TrIs.len {star : Addr} {vs : List Value} {xs : List (Option (List Nat))} (h : TrIs star vs xs) : vs.length = xs.length := by
  induction h with
  | nil => rfl
  | snoc _ _ ih => simp [ih]
theorem TrIs.at {star : Addr} {vs : List Value} {xs : List (Option (List Nat))} (h : TrIs star vs xs) : ∀ {i : Nat} {x}, xs[i]? = some x → ∃ v, vs[i]? = some v ∧ RelT star v x := by
  induction h with
  | nil => intro i x e; simp at e
  | @snoc vs xs v y h r ih =>
    intro i x e
    by_cases hi : i < xs.length
    · rw [List.getElem?_append_left hi] at e
      obtain ⟨v', h1, h2⟩ := ih e
      exact ⟨v', by rw [List.getElem?_append_left (by rw [h.len]; exact hi)]; exact h1, h2⟩
    · have hle : xs.length ≤ i := Nat.le_of_not_lt hi
      rw [List.getElem?_append_right hle] at e
      have hi0 : i - xs.length = 0 := by
        rcases Nat.eq_zero_or_pos (i - xs.length) with h0 | h0
        · exact h0
        · rw [List.getElem?_eq_none (by show 1 ≤ _; omega)] at e; cases e
      rw [hi0] at e
      have e' : y = x := by simpa using e
      subst e'
      exact ⟨v, by rw [List.getElem?_append_right (by rw [h.len]; exact hle), h.len, hi0]; rfl, r⟩
theorem map6 {m : Str → Option Value} {a b c d e f : Str} {va vb vc vd ve vf : Value} (ha : m a = some va) (hb : m b = some vb) (hc : m c = some vc) (hd : m d = some vd) (he : m e = some ve) (hf : m f = some vf) :
    m = fun y => if y = a then some va else if y = b then some vb else if y = c then some vc else if y = d then some vd else if y = e then some ve else if y = f then some vf else m y := by
  funext y; repeat' (split; (rename_i e; rw [e]; assumption))
  rfl
local macro_rules | `(tactic| walk_at "eval Name") => `(tactic| first
  | ((with_reducible show wpAny _ _ (eval (PySem.Expr.Name (Str.ofString "len") _) _) _ _ _); refine Sx.blt (by assumption) (by assumption) (n_len _) (by boot_fast) (by decide) ?_))
local macro_rules | `(tactic| walk_at "callWith ref") => `(tactic| (refine callWith_B (by assumption) (.head _) ?_))
local macro_rules | `(tactic| walk_at "HeldB") => `(tactic| refine HeldB.intro (by assumption) (.head _) ?_)
local macro_rules | `(tactic| walk_at "getAttr ref") => `(tactic| (refine get_append_N (by assumption) (by assumption) (.head _) ?_; intro _ _ _))
local macro_rules | `(tactic| walk_at "unpackItems ref") => `(tactic| (refine unpackItemsN_ (by assumption) (by assumption) (News.isTup (by assumption) (by first | exact .head _ | exact .tail _ (.head _) | exact .tail _ (.tail _ (.head _)))) (Sx.hh (by assumption)) (by rfl) ?_; intro _ _ _))
local macro_rules | `(tactic| walk_at "call ref") => `(tactic| (refine call_append_N (by assumption) (by assumption) (.head _) (Upd.tail (by assumption) (Upd.head (by assumption))) ?_ (by assumption); intro _ _ _))
local macro_rules | `(tactic| walk_at "subscriptTail Name Name ref int") => `(tactic| (refine subscriptTail_builtin (T := "list") ⟨_, (News.get (by assumption) (.tail _ (.tail _ (by assumption)))), rfl⟩ slot_list_getitem.lookup ?_; refine wpAny_getItem_list (News.isList (by assumption) (.tail _ (.tail _ (by assumption)))) (by omega) (by omega) (by assumption) ?_))
local macro_rules | `(tactic| walk_at "compareOp IsNot str ref") => `(tactic| refine wpAny_isNot_other rfl (by simp) ?_)
local macro_rules | `(tactic| walk_at "formatField") => `(tactic| (refine SB.field_str ?_ (by assumption); intro _ _))
local macro_rules | `(tactic| walk_at "formatField str") => `(tactic| (refine SB.field_str ?_ (by assumption); intro _ _))
local macro_rules | `(tactic| walk_at "call builtin:len") => `(tactic| refine PyProof.Rows.len_list (News.isList (by assumption) (.tail _ (.tail _ (by assumption)))) (by assumption) ?_)
section
variable {prog : Program} {w : World} {A : Around} {E Q : Value → Shared → Prop} {s : Shared} {h₀ : Heap} {L : Addr} {m : Str → Option Value} {news : List (Addr × Obj)}
noncomputable def joined (ys : List (List Nat)) : List Nat := [40, 63, 115, 58] ++ ys.flatten ++ [46, 42] ++ [41, 92, 90]
theorem joinS_eq (ys : List (List Nat)) : Str.empty ++ Str.ofString "(?s:" ++ (⟨(ys ++ [[46, 42]]).flatten.toArray⟩ : Str) ++ Str.ofString ")\\Z" = ⟨(joined ys).toArray⟩ := by
  have e1 : Str.empty ++ Str.ofString "(?s:" = (⟨([40, 63, 115, 58] : List Nat).toArray⟩ : Str) := by decide
  have e2 : Str.ofString ")\\Z" = (⟨([41, 92, 90] : List Nat).toArray⟩ : Str) := by decide
  rw [e1, e2]
  have app : ∀ x y : List Nat, (⟨x.toArray⟩ : Str) ++ (⟨y.toArray⟩ : Str) = ⟨(x ++ y).toArray⟩ := fun x y => by
    show Str.mk (x.toArray ++ y.toArray) = _
    rw [List.append_toArray]
  rw [app, app]
  unfold joined
  rw [List.flatten_append]
  simp only [List.flatten_cons, List.flatten_nil, List.append_nil, List.append_assoc]
theorem strApp_le (x y : Str) : x.length ≤ (x ++ y).length := by
  show x.cps.size ≤ (x.cps ++ y.cps).size
  rw [Array.size_append]; omega
theorem joinS_len {ys : List (List Nat)} (hs : (ys.map List.length).sum ≤ 1000000) : (⟨(joined ys).toArray⟩ : Str).length ≤ sizeLine := by
  show (joined ys).toArray.size ≤ _
  unfold joined
  rw [List.size_toArray, sizeLine_eq]
  simp only [List.length_append, List.length_flatten, List.length_cons, List.length_nil]
  omega
theorem c_join1 {ys : List (List Nat)} {star lp : Addr} {vs : List Value} {k : Nat} (S : Sx w A h₀ L 7) (F : Fr h₀ L s.heap m) (N : News h₀ L s.heap news) (hm : (lp, listOf vs.toArray k) ∈ news) (hT : TrIs star vs (ys.map some ++ [none]))
    (hy : ys.length ≤ 100000) (hs : (ys.map List.length).sum ≤ 1000000)
    (h : ∀ t' h' tk, Fr h₀ L h' m → News h₀ L h' news → Q (.str ⟨(joined ys).toArray⟩ t') { s with heap := h', toks := tk }) :
    wpAny (model prog w) A (call (.ref 134) [.ref lp, .ref star]) Q E s := by
  refine wpAny_call (enter (k := 6) (binds := [(Str.ofString "inp", .ref lp), (Str.ofString "STAR", .ref star)]) S F N rfl rfl (BindsTo.of_eq rfl) (locs rfl) rfl rfl rfl (by decide) fun g L' h₁ S' F' N' kp => ?_)
  have hvl : vs.length = ys.length + 1 := by rw [hT.len]; simp
  have hvs : (vs.toArray.size : Int) = ys.length + 1 := by rw [List.size_toArray, hvl]; rfl
  have hfit : (vs.toArray.size : Int) < 2 ^ 63 := by omega
  iterate 5 walk1
  rename Fr g L' _ _ => FF
  rename News g L' _ _ => NN
  generalize hlp : Array.size (Heap.objs _) = rl at FF NN ⊢
  have hfr : ∀ q ∈ news, q.1 ≠ rl := fun q hq e => Nat.lt_irrefl _ ((hlp.trans e.symm) ▸ Heap.lt_size (N' q hq).1)
  clear hlp
  iterate 6 walk1
  rename Fr g L' _ _ => FG
  rename News g L' _ _ => NG
  generalize Array.size (Heap.objs _) = bp at FG NG ⊢
  have hbl : bp ≠ rl := by
    intro e
    have h1 := (NG _ (.head _)).1
    have h2 := (NG _ (.tail _ (.head _))).1
    rw [e] at h1
    rw [h1] at h2
    have h3 := congrArg Obj.cls (Option.some.inj h2)
    exact absurd h3 (by show ¬ (Value.type "builtin_function_or_method" = Value.type "list"); simp)
  clear FF NN
  repeat' walk1
  rename Fr g L' _ _ => FW
  rename News g L' _ _ => NW
  refine While_inv (n₀ := ys.length) (fun n m nx => ∃ (i : Nat) (ws : List Value) (k' : Nat), i ≤ ys.length ∧ n = ys.length - i ∧ StrsAre ws ((ys.take i).map fun y => ⟨y.toArray⟩) ∧ nx = (bp, boundA rl) :: (rl, listOf ws.toArray k') :: news ∧
    (∃ t, m (Str.ofString "i") = some (.int i t)) ∧ (∃ t, m (Str.ofString "n") = some (.int (vs.toArray.size : Nat) t)) ∧ m (Str.ofString "inp") = some (.ref lp) ∧ m (Str.ofString "STAR") = some (.ref star) ∧ m (Str.ofString "add") = some (.ref bp) ∧ m (Str.ofString "res") = some (.ref rl))
    FW (fun q hq => NW q (.tail _ hq)) ⟨0, [], 0, Nat.zero_le _, rfl, .nil, rfl, ⟨_, rfl⟩, ⟨_, rfl⟩, rfl, rfl, rfl, rfl⟩ ?_
  rintro n m₁ n₁ h2 tk2 F2 N2 ⟨i, ws, k', hi, hn, hW, rfl, ⟨t1, e1⟩, ⟨t2, e2⟩, e3, e4, e5, e6⟩
  rw [map6 e1 e2 e3 e4 e5 e6] at F2
  have hwl : ws.length = i := by
    have := hW.length
    rw [this, List.length_map, List.length_take]; omega
  have hsz : ws.toArray.size ≤ sizeLine := by rw [List.size_toArray, hwl, sizeLine_eq]; omega
  clear FG NG FW NW
  rcases Nat.lt_or_eq_of_le hi with hlt | heq
  · obtain ⟨v, hv, hR⟩ := hT.at (i := i) (x := some ys[i]) (by rw [List.getElem?_append_left (by simpa using hlt)]; simp [hlt])
    obtain ⟨ty, rfl⟩ := hR
    have hv' : vs.toArray[((i : Nat) : Int).toNat]? = some (.str ⟨ys[i].toArray⟩ ty) := by simpa using hv
    repeat' walk1
    · rename Fr g L' _ _ => FE
      rename News g L' _ _ => NE
      refine WhileStep.intro (n' := ys.length - (i + 1)) FE NE (by omega) ⟨i + 1, _, _, by omega, rfl, ?_, by rw [List.push_toArray], ⟨_, rfl⟩, ⟨_, rfl⟩, rfl, rfl, rfl, rfl⟩
      rw [List.take_add_one, List.getElem?_eq_getElem hlt, List.map_append]
      exact PyProof.Rows.StrsAre.append' hW (.cons _ _ .nil)
    · exfalso; omega
  · obtain ⟨v, hv, hR⟩ := hT.at (i := i) (x := none) (by rw [heq, List.getElem?_append_right (by simp)]; simp)
    have hR' : v = .ref star := hR
    subst hR'
    have hv' : vs.toArray[((i : Nat) : Int).toNat]? = some (.ref star) := by simpa using hv
    rw [heq, List.take_length] at hW
    repeat' walk1
    rotate_left
    · exfalso; omega
    refine While_inv2 (n₀ := 1) (fun n m nx => n = 1 ∧ m = _ ∧ nx = _) F2 N2 ⟨rfl, rfl, rfl⟩ ?_
    rintro n m₂ n₂ h3 tk3 F3 N3 ⟨rfl, rfl, rfl⟩
    repeat' walk1
    rotate_left
    · exfalso; omega
    · exfalso; omega
    dsimp only [WhileStep2]
    repeat' walk1
    rename Fr g L' _ _ => FE
    rename News g L' _ _ => NE
    have hsum : ((ys ++ [[46, 42]]).map List.length).sum ≤ 1000002 := by
      rw [List.map_append, List.sum_append]
      show _ + 2 ≤ _
      omega
    refine join_list (ys := (ys ++ [[46, 42]]).map fun (y : List Nat) => (⟨y.toArray⟩ : Str)) (News.isList NE (.tail _ (.head _))) ?_ ?_ fun t8 k8 => ?_
    · rw [List.push_toArray, List.map_append]
      exact PyProof.Rows.StrsAre.append' hW (.cons _ _ .nil)
    · rw [join_len]
      show _ + _ * 0 ≤ _
      omega
    rw [join_eq]
    have hfl : (⟨(ys ++ [[46, 42]]).flatten.toArray⟩ : Str).length ≤ sizeLine := by
      show (ys ++ [[46, 42]]).flatten.toArray.size ≤ _
      rw [List.size_toArray, List.length_flatten, sizeLine_eq]; omega
    have hz := joinS_len hs
    repeat' ((fail_if_success (refine PyProof.Rows.joinParts_nil ?_ ?_)); walk1)
    · refine Nat.le_trans ?_ hz
      rw [← joinS_eq]
      exact strApp_le _ _
    · rw [joinS_eq]; exact hz
    rw [joinS_eq]
    repeat' walk1
    rename Fr g L' _ _ => FZ
    rename News g L' _ _ => NZ
    refine leaveK_ FZ (fun q hq => NZ q (.tail _ (.tail _ hq))) fun F4 N4 => ?_
    exact h _ _ _ F4 N4
end
end Mine

end

section
open PySem PySem.W PyProof.Rows PySem.Calls
set_option maxRecDepth 100000
set_option maxHeartbeats 1000000
namespace Mine
open PySem.Builtin
theorem ob_mro : mroOf (.type "object") = pure [.type "object"] := by rw [mroOf_type]; kernel_rfl
theorem ob_lookup_new : typeLookup (.type "object") "__new__" = pure (some (.builtin "object.__new__")) := by rw [typeLookup_type, builtinLookup_eq_fast]; kernel_rfl
theorem ob_slot_init : Slot "object" "__init__" "object.__init__" :=
  .of (owner := "object") (n := "__init__") (by rw [typeLookup_type, builtinLookup_eq_fast]; kernel_rfl) (by decide +kernel) (by decide +kernel) (by decide +kernel)
    (by first | exact .inl (by decide +kernel) | exact .inr (by decide +kernel)) (by rw [isSubtype_type]; kernel_rfl)
theorem ob_called : TypeCalled "object" "object.__new__" "object.__init__" :=
  ⟨by decide +kernel, by decide +kernel, ⟨_, _, ob_mro⟩, madeBy_type ob_mro ob_lookup_new (by decide +kernel), by decide +kernel, by rw [isSubtype_type]; kernel_rfl, ob_slot_init⟩
theorem ob_typeCall : checkTypeCall "object" ⟨[], []⟩ = pure () := by kernel_rfl
theorem ob_newCall : checkBuiltinCall "object.__new__" ⟨[.type "object"], []⟩ = pure () := by kernel_rfl
theorem ob_isType : isType (.type "object") = pure true := by first | rfl | kernel_rfl | (unfold isType; rw [isSubtype_type]; kernel_rfl)
noncomputable def objO : Obj := { cls := .type "object" }
section
variable {prog : Program} {w : World} {A : Around} {E Q : Value → Shared → Prop} {s : Shared} {h₀ : Heap} {L : Addr} {m : Str → Option Value} {news : List (Addr × Obj)}
theorem ob_text : Builtin.«object.__new__» ⟨[.type "object"], []⟩ = (do let v ← newObj (.type "object") Data.plain none; ret v) := by kernel_rfl
theorem ob_new {P : PySem.Fin → Shared → Prop} (h : P (.done (.ret (.ref s.heap.objs.size))) { s with heap := s.heap.push objO }) :
    wpAny (model prog w) A (Builtin.«object.__new__» ⟨[.type "object"], []⟩) P E s := by
  rw [ob_text]
  repeat (any_goals (first | assumption | wp_step))
theorem entry_object_new' : entryFor table "object.__new__" = some Builtin.«object.__new__» := entryFor_of_tree (by kernel_rfl)
theorem args_ob_init (a : Value) : argsOk "object.__init__" ⟨[a], []⟩ := by unfold argsOk; kernel_rfl
theorem call_object {Q : Value → Shared → Prop} (F : Fr h₀ L s.heap m) (N : News h₀ L s.heap news)
    (h : ∀ h', Fr h₀ L h' m → News h₀ L h' ((s.heap.objs.size, objO) :: news) → Q (.ref s.heap.objs.size) { s with heap := h' }) :
    wpAny (model prog w) A (call (.type "object") []) Q E s := by
  refine callType_codes (Q₁ := fun obj s₁ => s₁.TypeIs obj "object" ∧ Q obj s₁) ob_called ob_typeCall PySem.F.entry_object_init ?_ fun obj s₁ h₁ => ?_
  · refine codeAny_call_builtin_at (Code.quiet_builtin _ (by decide +kernel)) entry_object_new' (wpAny_of_eq (a := ()) ob_newCall ?_)
    refine ob_new ?_
    exact ⟨⟨_, Heap.get?_push_size _ rfl, rfl⟩, h _ (F.push _) (N.push F _)⟩
  · exact ⟨h₁.1, args_ob_init obj, wpAny_pure ⟨rfl, h₁.2⟩⟩
end
end Mine

end

section
open PySem PySem.W PyProof.Rows PySem.Calls
set_option maxRecDepth 100000
set_option maxHeartbeats 1000000
namespace Mine
theorem g_utr (P : Params) : nsIn (K P) mainGlobals (Str.ofString "_translate") = some (some (.ref 127)) := by kernel_rfl
theorem g_join (P : Params) : nsIn (K P) mainGlobals (Str.ofString "_join_translated_parts") = some (some (.ref 134)) := by kernel_rfl
theorem n_object (P : Params) : nsIn (K P) mainGlobals (Str.ofString "object") = some none := by kernel_rfl
local macro_rules | `(tactic| walk_at "eval Name") => `(tactic| first
  | ((with_reducible show wpAny _ _ (eval (PySem.Expr.Name (Str.ofString "_translate") _) _) _ _ _); refine Sx.glob (by assumption) (by assumption) (g_utr _) ?_)
  | ((with_reducible show wpAny _ _ (eval (PySem.Expr.Name (Str.ofString "_join_translated_parts") _) _) _ _ _); refine Sx.glob (by assumption) (by assumption) (g_join _) ?_)
  | ((with_reducible show wpAny _ _ (eval (PySem.Expr.Name (Str.ofString "object") _) _) _ _ _); refine Sx.blt (by assumption) (by assumption) (n_object _) (by boot_fast) (by decide) ?_))
local macro_rules | `(tactic| walk_at "callWith ref") => `(tactic| refine Sx.fn (by assumption) (by with_unfolding_all rfl) (by with_unfolding_all rfl) ?_)
local macro_rules | `(tactic| walk_at "callWith type:object") => `(tactic| (refine callWith_type0 ?_; refine call_object (by assumption) (by assumption) ?_; intro _ _ _))
local macro_rules | `(tactic| walk_at "call type:object") => `(tactic| (refine call_object (by assumption) (by assumption) ?_; intro _ _ _))
local macro_rules | `(tactic| walk_at "Held") => `(tactic| refine Held.intro (by assumption) ?_)
section
variable {prog : Program} {w : World} {A : Around} {E Q : Value → Shared → Prop} {s : Shared} {h₀ : Heap} {L : Addr} {m : Str → Option Value} {news : List (Addr × Obj)}
noncomputable def dotsP (k : Nat) : List Nat := List.replicate k 46 ++ [42]
theorem tr_dots (k : Nat) : (dotsP k).foldl trStep [] = (List.replicate k [92, 46]).map some ++ [none] := by
  have h : ∀ k, (List.replicate k 46).foldl trStep [] = (List.replicate k [92, 46]).map some := by
    intro k
    induction k with
    | zero => rfl
    | succ k ih =>
      rw [List.replicate_succ', List.foldl_append, ih, List.replicate_succ', List.map_append]
      rfl
  unfold dotsP
  rw [List.foldl_append, h]
  show trStep _ 42 = _
  unfold trStep
  rw [if_pos rfl, if_neg]
  cases k with
  | zero => simp
  | succ k => rw [List.replicate_succ', List.map_append]; simp
theorem c_translate {k : Nat} {t : Tok} (S : Sx w A h₀ L 9) (F : Fr h₀ L s.heap m) (N : News h₀ L s.heap news) (hk : k ≤ 10000)
    (h : ∀ t' h' tk, Fr h₀ L h' m → News h₀ L h' news → Q (.str ⟨(joined (List.replicate k [92, 46])).toArray⟩ t') { s with heap := h', toks := tk }) :
    wpAny (model prog w) A (call (.ref 108) [.str ⟨(dotsP k).toArray⟩ t]) Q E s := by
  refine wpAny_call (enter (k := 8) (binds := [(Str.ofString "pat", .str ⟨(dotsP k).toArray⟩ t)]) S F N rfl rfl (BindsTo.of_eq rfl) (locs rfl) rfl rfl rfl (by decide) fun g L' h₁ S' F' N' kp => ?_)
  have hpl : (dotsP k).length ≤ 100000 := by unfold dotsP; simp; omega
  have hpc : ∀ c ∈ dotsP k, c = 46 ∨ c = 42 := by
    intro c hc
    rcases List.mem_append.mp hc with h1 | h1
    · exact .inl (List.mem_replicate.mp h1).2
    · exact .inr (List.mem_singleton.mp h1)
  repeat' walk1
  rename Fr g L' _ _ => FF
  rename News g L' _ _ => NN
  refine c_tr (Sx.less S' (by omega)) FF NN hpl (fun c hc => by rcases hpc c hc with h | h <;> omega) (fun c hc => by rcases hpc c hc with h | h <;> omega) fun lp vs n h' tk hT F2 N2 hfr => ?_
  rw [tr_dots] at hT
  repeat' walk1
  rename Fr g L' _ _ => FG
  rename News g L' _ _ => NG
  refine c_join1 (Sx.less S' (by omega)) FG NG (.head _) hT (by simp; omega) (by simp; omega) fun t5 h5 k5 F5 N5 => ?_
  refine leaveK_ F5 (fun q hq => N5 q (.tail _ (.tail _ hq))) fun F6 N6 => ?_
  exact h _ _ _ F6 N6
end
end Mine

end

section
open PySem PySem.W PyProof.Rows PySem.Calls
set_option maxRecDepth 100000
namespace Mine
section
variable {prog : Program} {w : World} {A : Around} {E : Value → Shared → Prop} {s : Shared} {x : Str} {t : Tok} {Q : Value → Shared → Prop} {h₀ : Heap} {L : Addr} {m : Str → Option Value} {news : List (Addr × Obj)} {value slice : PySem.Expr}
theorem keptFN : KeptH (fun h => Fr h₀ L h m ∧ News h₀ L h news) := fun _ ob F => ⟨Fr.pushS F.1 ob, fun p hp => ⟨Heap.get?_push_of_some _ (F.2 p hp).1, (F.2 p hp).2⟩⟩
theorem slice_ss_N {i j : Int} {ui uj : Tok} (F : Fr h₀ L s.heap m) (N : News h₀ L s.heap news) (hsz : x.length ≤ sizeLine) (h : ∀ h' t' k, Fr h₀ L h' m → News h₀ L h' news → Q (.str (Txt.slice x (some i) (some j)) t') { s with heap := h', toks := k })
    (hs : subscripted slice false (.str x t) (.ref s.heap.objs.size) = operate [.ref s.heap.objs.size, .str x t] (getItem (.str x t) (.ref s.heap.objs.size)) := by with_unfolding_all rfl)
    (ht : ∀ r, letTemporaryGo value (.str x t) r = pure () := by intro _; with_unfolding_all rfl) :
    wpAny (model prog w) A (subscriptTail value slice (.str x t) (.ref s.heap.objs.size)) Q E { s with heap := s.heap.push { cls := .type "slice", data := .fields #[.int i ui, .int j uj, .none] } } :=
  tail_of_ItemOn (SBH.sliceItem_ss keptFN ⟨F, N⟩ (fun h' t' k p => h h' t' k p.1 p.2) hsz) hs ht
theorem slice_ns_N {j : Int} {uj : Tok} (F : Fr h₀ L s.heap m) (N : News h₀ L s.heap news) (hsz : x.length ≤ sizeLine) (h : ∀ h' t' k, Fr h₀ L h' m → News h₀ L h' news → Q (.str (Txt.slice x none (some j)) t') { s with heap := h', toks := k })
    (hs : subscripted slice false (.str x t) (.ref s.heap.objs.size) = operate [.ref s.heap.objs.size, .str x t] (getItem (.str x t) (.ref s.heap.objs.size)) := by with_unfolding_all rfl)
    (ht : ∀ r, letTemporaryGo value (.str x t) r = pure () := by intro _; with_unfolding_all rfl) :
    wpAny (model prog w) A (subscriptTail value slice (.str x t) (.ref s.heap.objs.size)) Q E { s with heap := s.heap.push { cls := .type "slice", data := .fields #[.none, .int j uj, .none] } } :=
  tail_of_ItemOn (SBH.sliceItem_ns keptFN ⟨F, N⟩ (fun h' t' k p => h h' t' k p.1 p.2) hsz) hs ht
theorem slice_sn_N {i : Int} {ui : Tok} (F : Fr h₀ L s.heap m) (N : News h₀ L s.heap news) (hsz : x.length ≤ sizeLine) (h : ∀ h' t' k, Fr h₀ L h' m → News h₀ L h' news → Q (.str (Txt.slice x (some i) none) t') { s with heap := h', toks := k })
    (hs : subscripted slice false (.str x t) (.ref s.heap.objs.size) = operate [.ref s.heap.objs.size, .str x t] (getItem (.str x t) (.ref s.heap.objs.size)) := by with_unfolding_all rfl)
    (ht : ∀ r, letTemporaryGo value (.str x t) r = pure () := by intro _; with_unfolding_all rfl) :
    wpAny (model prog w) A (subscriptTail value slice (.str x t) (.ref s.heap.objs.size)) Q E { s with heap := s.heap.push { cls := .type "slice", data := .fields #[.int i ui, .none, .none] } } :=
  tail_of_ItemOn (SBH.sliceItem_sn keptFN ⟨F, N⟩ (fun h' t' k p => h h' t' k p.1 p.2) hsz) hs ht
end
end Mine

end

section
open PySem PySem.W PyProof.Rows PySem.Calls
set_option maxRecDepth 100000
namespace Mine
open PySem.StrLaws PySem.Builtin.Str
noncomputable def glueL (sep : List Nat) : List (List Nat) → List Nat
  | [] => []
  | [p] => p
  | p :: q :: r => p ++ sep ++ glueL sep (q :: r)
theorem tsplit_eq {x y : Str} (hy : (y.length == 0) = false) : Txt.split x y = partsBetween x (occurrences x y 0 x.length (x.length + 1)) y.length := by
  have h := m_split x y hy
  have h2 : GW2.means .split (.str x) (.str y) = (if (y.length == 0) = true then Option.none else some (WData.list ((partsBetween x (occurrences x y 0 x.length (x.length + 1)) y.length).map .str))) := rfl
  rw [if_neg (by rw [hy]; nofun), h] at h2
  injection h2 with h3
  injection h3 with h4
  exact (List.map_inj_right (fun a b e => by injection e)).mp h4
theorem chainG_head {x y : Str} {a c f : Nat} {cuts : List Nat} (h : ChainG x y x.length a cuts f) (hn : ∀ k, f ≤ k → ¬ At x y x.length k) (hc : At x y x.length c) (hac : a ≤ c) (hno : ∀ k, a ≤ k → k < c → ¬ At x y x.length k) :
    ∃ r, cuts = c :: r ∧ ChainG x y x.length (c + y.length) r f := by
  cases cuts with
  | nil => exact absurd hc (hn c (by rw [show f = a from h]; exact hac))
  | cons d r =>
    have h1 : d = c := by
      rcases Nat.lt_trichotomy d c with e | e | e
      · exact absurd h.2.1 (hno d h.1 e)
      · exact e
      · exact absurd hc (h.2.2.1 c hac e)
    subst h1
    exact ⟨r, rfl, h.2.2.2⟩
theorem chainG_none {x y : Str} {a f : Nat} {cuts : List Nat} (h : ChainG x y x.length a cuts f) (hno : ∀ k, a ≤ k → ¬ At x y x.length k) : cuts = [] := by
  cases cuts with
  | nil => rfl
  | cons d r => exact absurd h.2.1 (hno d h.1)
theorem at_iff (X Y : List Nat) (k : Nat) : At ⟨X.toArray⟩ ⟨Y.toArray⟩ X.length k ↔ k + Y.length ≤ X.length ∧ (X.drop k).take Y.length = Y := by
  show (k + Y.toArray.size ≤ X.length ∧ (X.toArray.extract k (k + Y.toArray.size) == Y.toArray) = true) ↔ _
  rw [List.size_toArray, beq_iff_eq, ← Array.toList_inj, Array.toList_extract]
  simp [List.extract_eq_take_drop]
theorem at_head {X tl : List Nat} {c k : Nat} (h : At ⟨X.toArray⟩ ⟨(c :: tl).toArray⟩ X.length k) : X[k]? = some c := by
  have h2 := ((at_iff X (c :: tl) k).mp h).2
  have h3 : ((X.drop k).take (c :: tl).length)[0]? = some c := by rw [h2]; rfl
  rw [List.getElem?_take_of_lt (by simp), List.getElem?_drop] at h3
  simpa using h3
theorem strSub_list (X : List Nat) (i j : Nat) : strSub ⟨X.toArray⟩ i j = ⟨((X.drop i).take (j - i)).toArray⟩ := by
  show Str.mk (X.toArray.extract i j) = _
  refine congrArg Str.mk ?_
  rw [← Array.toList_inj, Array.toList_extract]
  try simp [List.extract_eq_take_drop]
theorem parts_rows (c : Nat) (tl : List Nat) : ∀ (rows : List (List Nat)) (pre : List Nat) (X : List Nat) (cuts : List Nat) (f : Nat), rows ≠ [] → X = pre ++ glueL (c :: tl) rows → (∀ r ∈ rows, c ∉ r) →
    ChainG ⟨X.toArray⟩ ⟨(c :: tl).toArray⟩ X.length pre.length cuts f → (∀ k, f ≤ k → ¬ At ⟨X.toArray⟩ ⟨(c :: tl).toArray⟩ X.length k) →
    partsFrom ⟨X.toArray⟩ (c :: tl).length pre.length cuts = rows.map fun r => (⟨r.toArray⟩ : Str)
  | [], _, _, _, _, h0, _, _, _, _ => absurd rfl h0
  | [p], pre, X, cuts, f, _, hX, hr, hG, hn => by
    have hp : c ∉ p := hr p (List.mem_singleton.mpr rfl)
    have e : cuts = [] := by
      refine chainG_none (x := ⟨X.toArray⟩) hG fun k hk hA => ?_
      have h2 := at_head hA
      rw [hX, List.getElem?_append_right hk] at h2
      exact hp (List.mem_of_getElem? h2)
    subst e
    show [strSub _ _ (Str.length ⟨X.toArray⟩)] = [_]
    rw [strSub_list, hX]
    show [Str.mk _] = _
    congr 2
    rw [List.drop_append_of_le_length (Nat.le_refl _), List.drop_length, List.nil_append, show glueL (c :: tl) [p] = p from rfl, List.take_of_length_le]
    show p.length ≤ (pre ++ p).toArray.size - _
    rw [List.size_toArray, List.length_append]; omega
  | p :: q :: r, pre, X, cuts, f, _, hX, hr, hG, hn => by
    have hp : c ∉ p := hr p (.head _)
    have eX : X = (pre ++ p ++ (c :: tl)) ++ glueL (c :: tl) (q :: r) := by rw [hX]; show _ ++ (p ++ (c :: tl) ++ _) = _; simp only [List.append_assoc]
    have hA : At ⟨X.toArray⟩ ⟨(c :: tl).toArray⟩ X.length (pre.length + p.length) := by
      refine (at_iff _ _ _).mpr ⟨?_, ?_⟩
      · rw [eX]; simp only [List.length_append]; omega
      · rw [eX, show pre.length + p.length = (pre ++ p).length by rw [List.length_append], List.append_assoc, List.drop_append_of_le_length (Nat.le_refl _), List.drop_length, List.nil_append, List.take_append_of_le_length (Nat.le_refl _), List.take_length]
    obtain ⟨cs, rfl, hG2⟩ := chainG_head (x := ⟨X.toArray⟩) hG hn hA (by omega) (by
      intro k h1 h2 hB
      have h3 := at_head hB
      rw [hX, List.getElem?_append_right h1] at h3
      have h4 : (glueL (c :: tl) (p :: q :: r)) = p ++ ((c :: tl) ++ glueL (c :: tl) (q :: r)) := by show p ++ (c :: tl) ++ _ = _; rw [List.append_assoc]
      rw [h4, List.getElem?_append_left (by omega)] at h3
      exact hp (List.mem_of_getElem? h3))
    have ih := parts_rows c tl (q :: r) (pre ++ p ++ (c :: tl)) X cs f (by simp) eX (fun r' h => hr r' (.tail _ h)) (by
      have e : (pre ++ p ++ (c :: tl)).length = pre.length + p.length + (Str.mk (c :: tl).toArray).length := by show _ = _ + (c :: tl).toArray.size; rw [List.size_toArray, List.length_append, List.length_append]
      rw [e]; exact hG2) hn
    show strSub _ _ _ :: _ = _ :: _
    congr 1
    · rw [strSub_list, hX, List.drop_append_of_le_length (Nat.le_refl _), List.drop_length, List.nil_append, show pre.length + p.length - pre.length = p.length by omega]
      show Str.mk _ = _
      congr 2
      show List.take p.length (p ++ (c :: tl) ++ _) = p
      rw [List.append_assoc, List.take_append_of_le_length (Nat.le_refl _), List.take_length]
    · rw [show pre.length + p.length + (c :: tl).length = (pre ++ p ++ (c :: tl)).length by simp only [List.length_append]]
      exact ih
theorem split_rows {c : Nat} {tl : List Nat} {rows : List (List Nat)} (h0 : rows ≠ []) (hr : ∀ r ∈ rows, c ∉ r) : Txt.split ⟨(glueL (c :: tl) rows).toArray⟩ ⟨(c :: tl).toArray⟩ = rows.map fun r => (⟨r.toArray⟩ : Str) := by
  rw [tsplit_eq (by show ((c :: tl).toArray.size == 0) = false; simp), partsBetween_eq]
  obtain ⟨f, hG, hn⟩ := occ_tight ⟨(glueL (c :: tl) rows).toArray⟩ ⟨(c :: tl).toArray⟩ (by show 1 ≤ (c :: tl).toArray.size; simp)
  have e : (Str.mk (c :: tl).toArray).length = (c :: tl).length := by show (c :: tl).toArray.size = _; simp
  rw [e]
  exact parts_rows c tl rows [] _ _ f h0 rfl hr hG hn
theorem idx_to (u : Option Int) (n : Nat) : strSliceIndices none u 1 n = strSliceIndices (some ((0 : Nat) : Int)) u 1 n := by
  have e : max (0 : Int) (min 0 (n : Int)) = 0 := by omega
  simp [strSliceIndices, e]
theorem idx_from (l : Option Int) (n : Nat) : strSliceIndices l none 1 n = strSliceIndices l (some (n : Int)) 1 n := by
  have e : max (0 : Int) (min (n : Int) (n : Int)) = n := by omega
  have e2 : ¬ ((n : Int) < 0) := by omega
  simp only [strSliceIndices, if_neg e2, e]
  simp
theorem tslice_plain {X : List Nat} {l u : Option Int} {a b : Nat} (hab : a ≤ b) (hb : b ≤ X.length) (he : strSliceIndices l u 1 X.length = strSliceIndices (some (a : Int)) (some (b : Int)) 1 X.length) :
    Txt.slice ⟨X.toArray⟩ l u = ⟨((X.drop a).take (b - a)).toArray⟩ := by
  have hl : (Str.mk X.toArray).length = X.length := by show X.toArray.size = _; simp
  have h1 := sliced_plain ⟨X.toArray⟩ hab (by rw [hl]; exact hb)
  have h2 := strSliceIndices_plain hab hb
  unfold Txt.slice
  rw [hl] at h1 ⊢
  rw [he, h1]
  split
  · rename_i h
    rw [h2] at h
    simp at h
    have : a = 0 ∧ b = X.length := by omega
    rw [this.1, this.2]; simp
  · rfl
theorem tslice_ss {X : List Nat} {a n : Nat} (hn : 0 < n) (hab : a + n ≤ X.length) : Txt.slice ⟨X.toArray⟩ (some (a : Int)) (some (-(n : Int))) = ⟨((X.drop a).take (X.length - n - a)).toArray⟩ := by
  refine tslice_plain (a := a) (b := X.length - n) (by omega) (by omega) ?_
  rw [sliceIdx_neg_hi _ _ (by omega) (by omega)]
  congr 2
  try omega
theorem tslice_to {X : List Nat} {n : Nat} (hn : n ≤ X.length) : Txt.slice ⟨X.toArray⟩ none (some (n : Int)) = ⟨(X.take n).toArray⟩ := by
  have e := tslice_plain (X := X) (l := none) (u := some (n : Int)) (a := 0) (b := n) (by omega) hn (idx_to _ _)
  simpa using e
theorem tslice_from {X : List Nat} {n : Nat} (hn : n ≤ X.length) : Txt.slice ⟨X.toArray⟩ (some (n : Int)) none = ⟨(X.drop n).toArray⟩ := by
  have e := tslice_plain (X := X) (l := some (n : Int)) (u := none) (a := n) (b := X.length) hn (Nat.le_refl _) (idx_from _ _)
  rw [List.take_of_length_le (by rw [List.length_drop]; omega)] at e
  exact e
theorem tslice_last {X : List Nat} {n : Nat} (h0 : 0 < n) (hn : n ≤ X.length) : Txt.slice ⟨X.toArray⟩ (some (-(n : Int))) none = ⟨(X.drop (X.length - n)).toArray⟩ := by
  have e := tslice_plain (X := X) (l := some (-(n : Int))) (u := none) (a := X.length - n) (b := X.length) (by omega) (Nat.le_refl _) (by
    rw [sliceIdx_neg_lo _ _ (by omega) (by omega)]
    have : -(n : Int) + (X.length : Int) = ((X.length - n : Nat) : Int) := by omega
    rw [this]
    exact idx_from _ _)
  rw [List.take_of_length_le (by rw [List.length_drop]; omega)] at e
  exact e
theorem glue_dots (n : Nat) : (List.replicate n [92, 46]).flatten = glueL [92] ([] :: List.replicate n [46]) := by
  suffices H : ∀ (n : Nat) (p : List Nat), p ++ (List.replicate n [92, 46]).flatten = glueL [92] (p :: List.replicate n [46]) from H n []
  intro n
  induction n with
  | zero => intro p; simp [glueL]
  | succ n ih =>
    intro p
    rw [List.replicate_succ, List.replicate_succ, List.flatten_cons]
    show _ = p ++ [92] ++ glueL [92] ([46] :: List.replicate n [46])
    rw [← ih]
    simp
theorem split_dots (n : Nat) : Txt.split ⟨((List.replicate n [92, 46]).flatten).toArray⟩ ⟨#[92]⟩ = (([] : List Nat) :: List.replicate n [46]).map fun r => (⟨r.toArray⟩ : Str) := by
  rw [glue_dots]
  refine split_rows (c := 92) (tl := []) (by simp) ?_
  intro r hr
  rcases List.mem_cons.mp hr with rfl | h
  · simp
  · rw [List.eq_of_mem_replicate h]; decide
end Mine

end

section
open PySem PySem.W PyProof.Rows PySem.Calls
set_option maxRecDepth 100000
namespace Mine
noncomputable def dots (n : Nat) : Str := ⟨(List.replicate n 46).toArray⟩
noncomputable def jt (n : Nat) : List Nat := [40, 63, 115, 58] ++ (List.replicate n [92, 46]).flatten ++ [46, 42] ++ [41, 92, 90]
theorem jt_flat (n : Nat) : (List.replicate n [92, 46]).flatten.length = 2 * n := by
  induction n with
  | zero => rfl
  | succ n ih => rw [List.replicate_succ, List.flatten_cons, List.length_append, ih]; simp; omega
theorem jt_len (n : Nat) : (jt n).length = 2 * n + 9 := by
  unfold jt
  simp only [List.length_append, jt_flat, List.length_cons, List.length_nil]; omega
theorem jt_mid (n : Nat) : Txt.slice ⟨(jt n).toArray⟩ (some 4) (some (-5)) = ⟨((List.replicate n [92, 46]).flatten).toArray⟩ := by
  have e := tslice_ss (X := jt n) (a := 4) (n := 5) (by omega) (by rw [jt_len]; omega)
  refine e.trans ?_
  congr 2
  rw [jt_len]
  unfold jt
  rw [List.append_assoc, List.append_assoc, List.drop_append_of_le_length (by decide), List.drop_of_length_le (by decide), List.nil_append, List.take_append_of_le_length (by rw [jt_flat]; omega), List.take_of_length_le (by rw [jt_flat]; omega)]
theorem jt_head (n : Nat) : Txt.slice ⟨(jt n).toArray⟩ none (some 4) = ⟨([40, 63, 115, 58] : List Nat).toArray⟩ := by
  refine (tslice_to (X := jt n) (n := 4) (by rw [jt_len]; omega)).trans ?_
  unfold jt
  rw [List.append_assoc, List.append_assoc, List.take_append_of_le_length (by decide)]
  rfl
theorem jt_tail (n : Nat) : Txt.slice ⟨(jt n).toArray⟩ (some (-5)) none = ⟨([46, 42, 41, 92, 90] : List Nat).toArray⟩ := by
  refine (tslice_last (X := jt n) (n := 5) (by omega) (by rw [jt_len]; omega)).trans ?_
  congr 2
  rw [jt_len]
  unfold jt
  rw [List.append_assoc, show 2 * n + 9 - 5 = ([40, 63, 115, 58] ++ (List.replicate n [92, 46]).flatten).length by rw [List.length_append, jt_flat]; simp; omega, List.drop_append_of_le_length (Nat.le_refl _), List.drop_length, List.nil_append]
  rfl
theorem jt_ends (n : Nat) : Txt.slice ⟨(jt n).toArray⟩ none (some 4) ++ Txt.slice ⟨(jt n).toArray⟩ (some (-5)) none = Str.ofString "(?s:.*)\\Z" := by
  rw [jt_head, jt_tail]; decide
theorem dots_flat (n : Nat) : Txt.join (Str.ofString "") ((List.replicate n [46]).map fun r => (⟨r.toArray⟩ : Str)) = dots n := by
  rw [join_eq]
  unfold dots
  congr 2
  induction n with
  | zero => rfl
  | succ n ih => rw [List.replicate_succ, List.flatten_cons, ih]; rfl
theorem dots_length (n : Nat) : (dots n).length = n := by show (List.replicate n 46).toArray.size = n; rw [List.size_toArray, List.length_replicate]
theorem dots_inj {a b : Nat} : dots a = dots b ↔ a = b := ⟨fun h => by rw [← dots_length a, h, dots_length], fun h => by rw [h]⟩
theorem dots_to {c n : Nat} (h : n ≤ c) : Txt.slice (dots c) none (some (n : Int)) = dots n := by
  refine (tslice_to (X := List.replicate c 46) (n := n) (by rw [List.length_replicate]; exact h)).trans ?_
  rw [List.take_replicate, Nat.min_eq_left h]; rfl
theorem dots_beyond {c n : Nat} (h : c < n) : Txt.slice (dots c) none (some (n : Int)) = dots c := by
  refine (tslice_plain (X := List.replicate c 46) (l := none) (u := some (n : Int)) (a := 0) (b := c) (by omega) (by rw [List.length_replicate]; omega) ?_).trans ?_
  · rw [idx_to]
    rw [List.length_replicate]
    have e1 : max (0 : Int) (min (n : Int) (c : Int)) = c := by omega
    have e2 : max (0 : Int) (min (c : Int) (c : Int)) = c := by omega
    have e3 : ¬ ((n : Int) < 0) := by omega
    have e4 : ¬ ((c : Int) < 0) := by omega
    simp only [PySem.Builtin.Str.strSliceIndices, if_neg e3, if_neg e4, e1, e2, show ((1 : Int) > 0) = True from by simp, if_true]
  · rw [List.drop_zero, Nat.sub_zero, List.take_of_length_le (by rw [List.length_replicate]; omega)]; rfl
theorem dots_from {c n : Nat} (h : n ≤ c) : Txt.slice (dots c) (some (n : Int)) none = dots (c - n) := by
  refine (tslice_from (X := List.replicate c 46) (n := n) (by rw [List.length_replicate]; exact h)).trans ?_
  rw [List.drop_replicate]; rfl
theorem dots_sum (n : Nat) : ((List.replicate n [46]).map List.length).sum = n := by
  induction n with
  | zero => rfl
  | succ n ih => rw [List.replicate_succ, List.map_cons, List.sum_cons, ih]; simp; omega
theorem split_tail {l : List (Str × Tok)} {n : Nat} (h : l.map (·.1) = (([] : List Nat) :: List.replicate n [46]).map fun r => (⟨r.toArray⟩ : Str)) :
    ∃ p l', l = p :: l' ∧ l'.map (·.1) = (List.replicate n [46]).map fun r => (⟨r.toArray⟩ : Str) := by
  cases l with
  | nil => cases h
  | cons p l' => exact ⟨p, l', rfl, (List.cons.inj h).2⟩
end Mine

end

section
open PySem PySem.W PyProof.Rows PySem.Calls
set_option maxRecDepth 100000
namespace Mine
theorem pick_from (vs : List Value) (a : Nat) : slicePick vs.toArray (some (a : Int)) none none = (vs.drop a).toArray := by
  have e : sliceBounds (some (a : Int)) none none vs.toArray.size = (((min a vs.toArray.size : Nat) : Int), ((vs.toArray.size : Nat) : Int), 1) := by
    simp only [sliceBounds, Option.getD_none, show (1 : Int) > 0 by decide, if_true, if_neg (show ¬ ((a : Int) < 0) by omega)]
    congr 1
    omega
  rw [kmk_pick_nat _ e]
  show (List.take (vs.toArray.size - min a vs.toArray.size) (vs.drop (min a vs.toArray.size))).toArray = _
  rw [List.size_toArray, kmk_drop_min, List.take_of_length_le (by rw [List.length_drop]; omega)]
theorem pick_to (vs : List Value) (b : Nat) : slicePick vs.toArray none (some (b : Int)) none = (vs.take b).toArray := by
  have e : sliceBounds none (some (b : Int)) none vs.toArray.size = (((0 : Nat) : Int), ((min b vs.toArray.size : Nat) : Int), 1) := by
    simp only [sliceBounds, Option.getD_none, show (1 : Int) > 0 by decide, if_true, if_neg (show ¬ ((b : Int) < 0) by omega)]
    congr 1
    congr 1
    omega
  rw [kmk_pick_nat _ e]
  show (List.take (min b vs.toArray.size - 0) (vs.drop 0)).toArray = _
  rw [List.drop_zero, Nat.sub_zero, List.size_toArray, kmk_take_min]
end Mine

end

section
open PySem PySem.W PyProof.Rows PySem.Calls
set_option maxRecDepth 100000
set_option maxHeartbeats 1000000
namespace Mine
theorem g_translate (P : Params) : nsIn (K P) mainGlobals (Str.ofString "translate") = some (some (.ref 108)) := by kernel_rfl
local macro_rules | `(tactic| walk_at "eval Name") => `(tactic| first
  | ((with_reducible show wpAny _ _ (eval (PySem.Expr.Name (Str.ofString "translate") _) _) _ _ _); refine Sx.glob (by assumption) (by assumption) (g_translate _) ?_)
  | ((with_reducible show wpAny _ _ (eval (PySem.Expr.Name (Str.ofString "len") _) _) _ _ _); refine Sx.blt (by assumption) (by assumption) (n_len _) (by boot_fast) (by decide) ?_))
local macro_rules | `(tactic| walk_at "callWith ref") => `(tactic| refine Sx.fn (by assumption) (by with_unfolding_all rfl) (by with_unfolding_all rfl) ?_)
local macro_rules | `(tactic| walk_at "unpackItems ref") => `(tactic| (refine unpackItemsN_ (by assumption) (by assumption) (News.isTup (by assumption) (by first | exact .head _ | exact .tail _ (.head _) | exact .tail _ (.tail _ (.head _)))) (Sx.hh (by assumption)) (by rfl) ?_; intro _ _ _))
local macro_rules | `(tactic| walk_at "truthy str") => `(tactic| refine P.truthy_str (by assumption) ?_)
local macro_rules | `(tactic| walk_at "subscriptTail Name Slice str ref") => `(tactic| first
  | (refine slice_ss_N (s := ⟨_, _, _, _, _⟩) (by assumption) (by assumption) (by assumption) ?_; intro _ _ _ _ _)
  | (refine slice_ns_N (s := ⟨_, _, _, _, _⟩) (by assumption) (by assumption) (by assumption) ?_; intro _ _ _ _ _)
  | (refine slice_sn_N (s := ⟨_, _, _, _, _⟩) (by assumption) (by assumption) (by assumption) ?_; intro _ _ _ _ _))
local macro_rules | `(tactic| walk_at "call builtin:str.split") => `(tactic| (refine splitN1A (hsz := by assumption) (by assumption) (by assumption) (by rfl) ?_; intro _ _ _ _ _ _ _ _ _))
local macro_rules | `(tactic| walk_at "Held") => `(tactic| refine Held.intro (by assumption) ?_)
section
variable {prog : Program} {w : World} {A : Around} {E Q : Value → Shared → Prop} {s : Shared} {h₀ : Heap} {L : Addr} {m : Str → Option Value} {news : List (Addr × Obj)}
theorem dots_star (n : Nat) : dots n ++ Str.ofString "*" = ⟨(dotsP n).toArray⟩ := by
  have e : Str.ofString "*" = ⟨([42] : List Nat).toArray⟩ := by decide
  rw [e]
  show Str.mk ((List.replicate n 46).toArray ++ [42].toArray) = _
  rw [List.append_toArray]; rfl
theorem joined_jt (n : Nat) : joined (List.replicate n [92, 46]) = jt n := rfl
theorem c_common {a b : Nat} {t u : Tok} (S : Sx w A h₀ L 12) (F : Fr h₀ L s.heap m) (N : News h₀ L s.heap news) (ha : a ≤ 10000) (hb : b ≤ 10000)
    (h : ∀ t' h' tk, Fr h₀ L h' m → News h₀ L h' news → Q (.str (dots (Nat.gcd a b)) t') { s with heap := h', toks := tk }) :
    wpAny (model prog w) A (call (.ref 172) [.str (dots a) t, .str (dots b) u]) Q E s := by
  refine wpAny_call (enter (k := 11) (binds := [(Str.ofString "row", .str (dots a) t), (Str.ofString "other", .str (dots b) u)]) S F N rfl rfl (BindsTo.of_eq rfl) (locs rfl) rfl rfl rfl (by decide) fun g L' h₁ S' F' N' kp => ?_)
  refine wpAny_execs_cons (While_inv2 (n₀ := b) (fun n m₁ nx => nx = news ∧ n ≤ 10000 ∧ ∃ c : Nat, c ≤ 10000 ∧ (∃ t, m₁ (Str.ofString "row") = some (.str (dots c) t)) ∧ (∃ t, m₁ (Str.ofString "other") = some (.str (dots n) t)) ∧ Nat.gcd c n = Nat.gcd a b) F' N' ⟨rfl, hb, a, ha, ⟨_, rfl⟩, ⟨_, rfl⟩, rfl⟩ ?_)
  rintro n m₁ n₁ h2 tk2 F2 N2 ⟨rfl, hn, c, hc, ⟨t1, h1⟩, ⟨t2, h2'⟩, hg⟩
  rw [map2 h1 h2'] at F2
  have hsz : (dots n).length + (Str.ofString "*").length ≤ sizeLine := by
    show (List.replicate n 46).toArray.size + 1 ≤ _
    rw [List.size_toArray, List.length_replicate, sizeLine_eq]; omega
  have hfit : ¬ ((dots n).length : Int) ≥ 2 ^ 63 := by
    show ¬ (((List.replicate n 46).toArray.size : Nat) : Int) ≥ 2 ^ 63
    rw [List.size_toArray, List.length_replicate]; omega
  have h8 : (dots n).length = n := by show (List.replicate n 46).toArray.size = n; rw [List.size_toArray, List.length_replicate]
  repeat' walk1
  · rw [dots_star]
    have hn0 : n ≠ 0 := by omega
    refine c_translate (Sx.less S' (by omega)) (by assumption) (by assumption) hn fun t5 h5 k5 F5 N5 => ?_
    rw [joined_jt]
    have hjl : (⟨(jt n).toArray⟩ : Str).length ≤ sizeLine := by show (jt n).toArray.size ≤ _; rw [List.size_toArray, jt_len, sizeLine_eq]; omega
    have hjl2 : (Txt.slice (⟨(jt n).toArray⟩ : Str) (some 4) (some (-5))).length + 2 ≤ sizeLine := by
      rw [jt_mid]
      show (List.flatten _).toArray.size + 2 ≤ _
      rw [List.size_toArray, jt_flat, sizeLine_eq]; omega
    repeat' walk1
    rename Fr g L' _ _ => FE
    rename News g L' _ _ => NE
    rename StrsAre _ _ => hSA
    rename List.map _ _ = Txt.split _ _ => hspl
    rename List (Str × Tok) => l
    rw [jt_mid, show Str.ofString "\\" = ⟨#[92]⟩ by decide, split_dots] at hspl
    obtain ⟨p, l', rfl, hl'⟩ := split_tail hspl
    have hll : l'.length = n := by have := congrArg List.length hl'; simpa using this
    have hvl : (strValues (p :: l')).toArray.size = n + 1 := by rw [List.size_toArray]; unfold strValues; rw [List.length_map, List.length_cons, hll]
    refine kba_turn (value' := .Name (Str.ofString "text") ⟨0, 0, 0, 0⟩) (fun _ => rfl) ?_
    refine kmk_slice (lo := some 1) (hi := none) (s := ⟨_, _, _, _, _⟩) FE NE (News.isList NE (.head _)) (IsPart.int _ _) IsPart.none (fun D h9 F9 N9 hD => ?_) (by with_unfolding_all rfl) (by intro _; with_unfolding_all rfl) (by rw [hvl, sizeLine_eq]; omega)
    rw [show (1 : Int) = ((1 : Nat) : Int) from rfl, pick_from] at N9
    have hS2 : StrsAre (strValues l') ((List.replicate n [46]).map fun r => (⟨r.toArray⟩ : Str)) := hl' ▸ strsAre_of_values l'
    walk1
    refine join_list (ys := (List.replicate n [46]).map fun (r : List Nat) => (⟨r.toArray⟩ : Str)) (News.isList N9 (.head _)) (by exact hS2) ?_ fun t8 k8 => ?_
    · rw [join_len, dots_sum, List.length_map, List.length_replicate]
      show n + n * 0 ≤ _
      omega
    rw [dots_flat]
    clear hspl hSA hS2 hl' FE NE
    iterate 24 walk1
    rw [jt_head, jt_tail]
    have hcat : (⟨([40, 63, 115, 58] : List Nat).toArray⟩ : Str).length + (⟨([46, 42, 41, 92, 90] : List Nat).toArray⟩ : Str).length ≤ sizeLine := by show 4 + 5 ≤ _; rw [sizeLine_eq]; omega
    have hcs : (⟨([40, 63, 115, 58] : List Nat).toArray⟩ : Str) ++ (⟨([46, 42, 41, 92, 90] : List Nat).toArray⟩ : Str) = Str.ofString "(?s:.*)\\Z" := by decide
    walk1
    rw [hcs]
    iterate 10 walk1
    rw [if_pos (bne_iff_ne.mpr (by rw [h8]; omega))]
    iterate 4 walk1
    rename Fr g L' _ _ => FF
    rename News g L' _ _ => NN
    refine While_inv2 (n₀ := c) (fun d m₂ nx => nx = n₁ ∧ d % n = c % n ∧ d ≤ c ∧ (∃ t, m₂ (Str.ofString "row") = some (.str (dots d) t)) ∧ (∃ t, m₂ (Str.ofString "other") = some (.str (dots n) t)) ∧ (∃ t, m₂ (Str.ofString "front") = some (.str (dots n) t)))
      FF (fun p hp => NN p (.tail _ (.tail _ hp))) ⟨rfl, rfl, Nat.le_refl _, ⟨_, rfl⟩, ⟨_, rfl⟩, ⟨_, rfl⟩⟩ ?_
    clear FF NN F9 N9 F5 N5 F2 N2 h1 h2'
    rintro d m₂ n₂ h3 tk3 F3 N3 ⟨rfl, hd1, hd2, ⟨t3, g1⟩, ⟨t4, g2⟩, ⟨t6, g3⟩⟩
    rw [map3 g1 g2 g3] at F3
    have hdl : (dots d).length ≤ sizeLine := by rw [dots_length, sizeLine_eq]; omega
    iterate 20 walk1
    · rename (_ == _) = true => heq
      rw [h8] at heq
      have hnd : n ≤ d := by
        rcases Nat.lt_or_ge d n with hlt | hge
        · rw [dots_beyond hlt, beq_iff_eq, dots_inj] at heq; omega
        · exact hge
      repeat' walk1
      rename Fr g L' _ _ => FF
      rename News g L' _ _ => NN
      rw [h8, dots_from hnd] at FF
      exact ⟨_, _, _, _, d - n, rfl, FF, NN, by omega, rfl, by rw [← hd1]; exact (Nat.mod_eq_sub_mod hnd).symm, by omega, ⟨_, rfl⟩, ⟨_, rfl⟩, ⟨_, rfl⟩⟩
    · rename (_ == _) = false => hne
      rw [h8] at hne
      have hnd : d < n := by
        rcases Nat.lt_or_ge d n with hlt | hge
        · exact hlt
        · rw [dots_to hge, beq_self_eq_true] at hne; cases hne
      rw [Nat.mod_eq_of_lt hnd] at hd1
      repeat' walk1
      rename Fr g L' _ _ => FF
      rename News g L' _ _ => NN
      refine ⟨_, _, _, _, d, rfl, FF, (fun p hp => NN p (.tail _ hp)), hnd, rfl, by omega, n, hn, ⟨_, rfl⟩, ⟨_, rfl⟩, ?_⟩
      rw [← hg, hd1, Nat.gcd_comm c n, Nat.gcd_rec n c, Nat.gcd_comm]
  · have hn0 : n = 0 := by omega
    subst hn0
    rw [Nat.gcd_zero_right] at hg
    rw [← hg] at h
    refine leaveK_ F2 N2 fun F4 N4 => ?_
    exact h _ _ _ F4 N4
end
end Mine

end

section
open PySem PySem.W PyProof.Rows
set_option maxRecDepth 100000
namespace Mine
open PySem.W.KBw (bInts)
/-- the figures among the signs, as their values. -/
noncomputable def figs (l : List Int) : List Int := (l.map b64v).filter (fun v => decide (v < 64))
noncomputable def num64 (n : Int) (vs : List Int) : Int := vs.foldl (fun n v => n * 64 + v) n
noncomputable def Rel64 (a : St64) (n : Nat) (v : Int) : Prop :=
  (a.2.1 = 0 ∧ n % 4 = 0 ∧ octs a.1 = v ∧ a.2.2 = 0) ∨ (a.2.1 = 1 ∧ n % 4 = 1 ∧ octs a.1 * 64 + a.2.2 = v) ∨ (a.2.1 = 2 ∧ n % 4 = 2 ∧ octs a.1 * 16 + a.2.2 = v) ∨ (a.2.1 = 3 ∧ n % 4 = 3 ∧ octs a.1 * 4 + a.2.2 = v)
theorem octs_snoc (o : List Int) (k : Int) : octs (o ++ [k]) = octs o * 256 + k := by
  unfold octs; rw [List.foldl_append]; rfl
theorem Rel64.skip {a : St64} {n : Nat} {v c : Int} (h : Rel64 a n v) (hc : b64v c ≥ 64) : Rel64 (g64 a c) n v := by rw [g64_skip hc]; exact h
theorem Rel64.step {a : St64} {n : Nat} {v c : Int} (h : Rel64 a n v) (hc : ¬ b64v c ≥ 64) : Rel64 (g64 a c) (n + 1) (v * 64 + b64v c) := by
  rcases h with ⟨h1, h2, h3, h4⟩ | ⟨h1, h2, h3⟩ | ⟨h1, h2, h3⟩ | ⟨h1, h2, h3⟩
  · rw [g64_0 hc h1]
    exact .inr (.inl ⟨rfl, by omega, by rw [← h3]⟩)
  · rw [g64_1 hc h1]
    refine .inr (.inr (.inl ⟨rfl, by omega, ?_⟩))
    dsimp only
    rw [octs_snoc, ← h3]; omega
  · rw [g64_2 hc h1]
    refine .inr (.inr (.inr ⟨rfl, by omega, ?_⟩))
    dsimp only
    rw [octs_snoc, ← h3]; omega
  · rw [g64_3 hc (by omega) (by omega) (by omega)]
    refine .inl ⟨rfl, by omega, ?_, rfl⟩
    dsimp only
    rw [octs_snoc, ← h3]; omega
theorem Rel64.fold (l : List Int) : ∀ {a : St64} {n : Nat} {v : Int}, Rel64 a n v → Rel64 (l.foldl g64 a) (n + (figs l).length) (num64 v (figs l)) := by
  induction l with
  | nil => intro a n v h; exact h
  | cons c l ih =>
    intro a n v h
    rw [List.foldl_cons]
    by_cases hc : b64v c ≥ 64
    · have e : figs (c :: l) = figs l := by unfold figs; rw [List.map_cons, List.filter_cons_of_neg (by simp; omega)]
      rw [e]; exact ih (h.skip hc)
    · have e : figs (c :: l) = b64v c :: figs l := by unfold figs; rw [List.map_cons, List.filter_cons_of_pos (by simp; omega)]
      rw [e]
      have := ih (h.step hc)
      rw [List.length_cons, show n + ((figs l).length + 1) = n + 1 + (figs l).length by omega]
      exact this
theorem whole64 {l : List Int} (h : (figs l).length % 4 = 0) : ∃ o, l.foldl g64 ([], 0, 0) = (o, 0, 0) ∧ octs o = num64 0 (figs l) := by
  have r : Rel64 (l.foldl g64 ([], 0, 0)) (0 + (figs l).length) (num64 0 (figs l)) := Rel64.fold l (.inl ⟨rfl, rfl, rfl, rfl⟩)
  rw [Nat.zero_add] at r
  rcases r with ⟨h1, h2, h3, h4⟩ | ⟨h1, h2, h3⟩ | ⟨h1, h2, h3⟩ | ⟨h1, h2, h3⟩
  · exact ⟨_, Prod.ext rfl (Prod.ext h1 h4), h3⟩
  all_goals omega
end Mine

end

section
set_option maxRecDepth 100000
namespace Mine
/-- 1 + 64 + .. : the number of n figures 1 to the base 64. -/
noncomputable def rep : Nat → Nat
  | 0 => 0
  | n + 1 => 64 * rep n + 1
theorem rep_pow (n : Nat) : 63 * rep n + 1 = 64 ^ n := by
  induction n with
  | zero => rfl
  | succ n ih => unfold rep; rw [Nat.pow_succ, ← ih]; omega
theorem rep_add (a b : Nat) : rep (a + b) = 64 ^ b * rep a + rep b := by
  have h1 := rep_pow (a + b)
  have h2 := rep_pow a
  have h3 := rep_pow b
  rw [Nat.pow_add, ← h2] at h1
  have : (63 * rep a + 1) * 64 ^ b = 63 * (64 ^ b * rep a) + 64 ^ b := by rw [Nat.add_mul, Nat.one_mul, Nat.mul_assoc, Nat.mul_comm (rep a)]
  omega
theorem cop (b : Nat) : Nat.Coprime (64 ^ b) (rep b) := by
  have h := rep_pow b
  rw [← h]
  show Nat.gcd (63 * rep b + 1) (rep b) = 1
  rw [Nat.add_comm, Nat.gcd_add_mul_right_left]
  exact Nat.gcd_one_left _
theorem gcd_rep_add (a b : Nat) : Nat.gcd (rep (a + b)) (rep b) = Nat.gcd (rep a) (rep b) := by
  rw [rep_add, Nat.gcd_add_self_left]
  exact Nat.Coprime.gcd_mul_left_cancel _ (cop b)
theorem gcd_rep_mul (r b q : Nat) : Nat.gcd (rep (r + b * q)) (rep b) = Nat.gcd (rep r) (rep b) := by
  induction q with
  | zero => rfl
  | succ q ih => rw [Nat.mul_succ, ← Nat.add_assoc, gcd_rep_add, ih]
theorem gcd_rep (a b : Nat) : Nat.gcd (rep a) (rep b) = rep (Nat.gcd a b) := by
  induction a, b using Nat.gcd.induction with
  | H0 n => simp [rep]
  | H1 m n hm ih =>
    rw [Nat.gcd_rec m n, ← ih]
    conv => lhs; rw [← Nat.mod_add_div n m]
    rw [Nat.gcd_comm, gcd_rep_mul]
end Mine

end

section
open PySem PySem.W PyProof.Rows
set_option maxRecDepth 100000
namespace Mine
theorem normF_dots (n : Nat) (b : Bool) (t : List Nat) (h : 0 < n) : normF b (List.replicate n 46 ++ t) = List.replicate n 46 ++ normF false t := by
  induction n generalizing b with
  | zero => omega
  | succ n ih =>
    rw [List.replicate_succ, List.cons_append, List.cons_append]
    show (if (46 : Nat) = 13 then _ else if (46 : Nat) = 10 then _ else 46 :: normF false (List.replicate n 46 ++ t)) = _
    rw [if_neg (by decide), if_neg (by decide)]
    congr 1
    by_cases hn : 0 < n
    · exact ih false hn
    · have : n = 0 := by omega
      subst this; rfl
/-- a row's end as the mail's writer puts it -/
noncomputable def endOf (k : Nat) : List Nat := if k = 0 then [10] else if k = 1 then [13] else [13, 10]
theorem normF_end (k : Nat) (t : List Nat) (h : ∀ t', t ≠ 10 :: t') : normF false (endOf k ++ t) = [13, 10] ++ normF false t := by
  unfold endOf
  split
  · exact normA_lf t
  · split
    · exact normA_cr t h
    · exact normA_crlf t
theorem dotB_dots (n : Nat) (t : List Nat) : dotB false (List.replicate n 46 ++ t) = List.replicate n 46 ++ dotB false t := by
  induction n with
  | zero => rfl
  | succ n ih =>
    rw [List.replicate_succ, List.cons_append, List.cons_append, ← ih]
    rfl
theorem dotB_row (n : Nat) (t : List Nat) (h : 0 < n) : dotB true (List.replicate n 46 ++ t) = List.replicate (n + 1) 46 ++ dotB false t := by
  cases n with
  | zero => omega
  | succ n =>
    rw [List.replicate_succ, List.cons_append]
    show 46 :: 46 :: dotB false (List.replicate n 46 ++ t) = _
    rw [dotB_dots]; rfl
noncomputable def mail (e0 e1 e2 : Nat) (sign a b : Nat) : List Nat := [sign] ++ endOf e0 ++ List.replicate a 46 ++ endOf e1 ++ List.replicate b 46 ++ endOf e2
theorem quoted_mail {e0 e1 e2 sign a b : Nat} (h1 : sign ≠ 13) (h2 : sign ≠ 10) (h3 : sign ≠ 46) (ha : 0 < a) (hb : 0 < b) : quoted (mail e0 e1 e2 sign a b) = mail 2 2 2 sign (a + 1) (b + 1) := by
  have nd : ∀ (n : Nat) (t : List Nat), 0 < n → ∀ t', List.replicate n 46 ++ t ≠ 10 :: t' := by
    intro n t hn t' e
    cases n with
    | zero => omega
    | succ n => rw [List.replicate_succ, List.cons_append] at e; exact absurd (List.cons.inj e).1 (by decide)
  have e1 : normA (mail e0 e1 e2 sign a b) = [sign] ++ ([13, 10] ++ (List.replicate a 46 ++ ([13, 10] ++ (List.replicate b 46 ++ [13, 10])))) := by
    unfold mail
    simp only [List.append_assoc]
    rw [List.singleton_append, List.singleton_append, normA_other _ h1 h2]
    congr 1
    show normF false _ = _
    rw [normF_end _ _ (nd _ _ ha), normF_dots _ _ _ ha, normF_end _ _ (nd _ _ hb), normF_dots _ _ _ hb]
    have := normF_end e2 [] (fun t' e => by cases e)
    rw [List.append_nil] at this
    rw [this]; rfl
  unfold quoted
  rw [e1, List.singleton_append]
  show (if true = true ∧ sign = 46 then _ else sign :: dotB (sign == 10) ([13, 10] ++ (List.replicate a 46 ++ ([13, 10] ++ (List.replicate b 46 ++ [13, 10]))))) = _
  rw [if_neg (fun h => h3 h.2), show (sign == 10) = false from beq_eq_false_iff_ne.mpr h2]
  show sign :: 13 :: 10 :: dotB true (List.replicate a 46 ++ ([13, 10] ++ (List.replicate b 46 ++ [13, 10]))) = _
  rw [dotB_row _ _ ha]
  show sign :: 13 :: 10 :: (List.replicate (a + 1) 46 ++ 13 :: 10 :: dotB true (List.replicate b 46 ++ [13, 10])) = _
  rw [dotB_row _ _ hb]
  unfold mail
  simp only [List.append_assoc]
  rfl
theorem mail_rows (sign a b : Nat) : mail 2 2 2 sign a b = glueL [13, 10] [[sign], List.replicate a 46, List.replicate b 46, []] := by
  unfold mail
  simp only [glueL, List.append_nil, List.append_assoc]
  rfl
theorem mail_split {sign a b : Nat} (h1 : sign ≠ 13) : Txt.split ⟨(mail 2 2 2 sign a b).toArray⟩ ⟨#[13, 10]⟩ = [⟨#[sign]⟩, dots a, dots b, ⟨#[]⟩] := by
  rw [mail_rows]
  refine (split_rows (c := 13) (tl := [10]) (by simp) ?_).trans rfl
  intro r hr
  simp only [List.mem_cons, List.not_mem_nil, or_false] at hr
  rcases hr with rfl | rfl | rfl | rfl
  · simp; omega
  · simp
  · simp
  · simp
theorem mail_len (e0 e1 e2 sign a b : Nat) : (mail e0 e1 e2 sign a b).length ≤ a + b + 7 := by
  have h : ∀ k, (endOf k).length ≤ 2 := by intro k; unfold endOf; split <;> (try split) <;> decide
  have := h e0; have := h e1; have := h e2
  unfold mail
  simp only [List.length_append, List.length_replicate, List.length_cons, List.length_nil]
  omega
end Mine

end

section
open PySem PySem.W PyProof.Rows
set_option maxRecDepth 100000
set_option maxHeartbeats 8000000
namespace Mine

theorem head {d : DefRec} {kwd : List (Str × PySem.Expr)} (hdef : defOf q PySem.Challenge.rw_kq0061_02.row.toRowW.name = some (d, kwd)) (hp : PySem.Challenge.rw_kq0061_02.row.toRowW.prog.theDef PySem.Challenge.rw_kq0061_02.row.toRowW.name = some (d.params, d.body, d.scope)) (hk : kwWritten? d.params.kwonlyargs d.params.kw_defaults = some kwd)
   (walk : WalkO q loose (XL q []) (kmHook K asK (fun _ => rfl) [nat_lit 122]).says PySem.Challenge.rw_kq0061_02.row.toRowW d kwd (fun f vs => PySem.call f vs)) : PySem.Challenge.rw_kq0061_02.Holds := by
  refine holds_law said fun said' => ?_
  refine holds_open (q := q) (loose := loose) (Xt := fun s => xlAt q [] s && recOk (RowW.records rw0.row.toRowW) s) (XP := XL q []) (Yf := Hook.obs (kmHook K asK (fun _ => rfl) [nat_lit 122])) (Ya := Hook.val (kmHook K asK (fun _ => rfl) [nat_lit 122])) (YP := Hook.says (kmHook K asK (fun _ => rfl) [nat_lit 122])) (N := 4658) ?hl (Hook.of (kmHook K asK (fun _ => rfl) [nat_lit 122])) (Hook.keeps (kmHook K asK (fun _ => rfl) [nat_lit 122])) (fun s e => xl_of s (Bool.and_eq_true_iff.mp e).1) XL.keeps hdef hp hk (fun s e => recFacts_of (Bool.and_eq_true_iff.mp e).2) (by rfl) (by first | assumption | decide +kernel) (by decide +kernel) ⟨rfl, rfl, rfl, rfl, rfl, by decide +kernel⟩ ?hw walk
  case hw => w_witness2
  case hl => exact left
end Mine

end

section
open PySem PySem.W PyProof.Rows PySem.Calls
set_option maxRecDepth 100000
namespace Mine
open PyProof.Rows.LCg
section
variable {prog : Program} {w : World} {A : Around} {E : Value → Shared → Prop} {s : Shared} {h₀ : Heap} {L : Addr} {m : Str → Option Value} {env : Env}
theorem rest_ind {elt : PySem.Expr} {x : Str} {scope : Scope} {cl : List (Str × Addr)} {S : List (Addr × Obj) → Prop} {P : Nat → Value → Prop} {Fin : List Value → List (Addr × Obj) → Prop} (J : Nat → List Value → List (Addr × Obj) → Prop) {n : Nat}
    (step : ∀ i ys news, i < n → J i ys news → ∀ v I oI C oC D m₂ h tk (E' : Value → Shared → Prop), P i v → NsObj oC m₂ → m₂ x = some v → Fr h₀ L h m → News h₀ L h ((I, oI) :: (C, oC) :: (D, lst ys) :: news) → Off3 I C D news → ((@Ne Nat I C) ∧ (@Ne Nat I D) ∧ (@Ne Nat C D)) →
      wpAny (model prog w) A (eval elt (compEnvC scope cl C env)) (CompEnd h₀ L m { s with heap := h, toks := tk } I oI C oC D (lst ys) S (fun y news' => J (i + 1) (ys ++ [y]) news')) E' { s with heap := h, toks := tk })
    (fin : ∀ ys news, J n ys news → Fin ys news) : ∀ k i ys news, i + k = n → J i ys news → CompRest prog w A h₀ L m env elt x scope cl s S P Fin k i ys news
  | 0, i, ys, news, e, hJ => fin ys news (by rw [← e]; exact hJ)
  | k + 1, i, ys, news, e, hJ => fun v I oI C oC D m₂ h tk E' hP hC hx F N off ne => by
    refine wpAny_mono (step i ys news (by omega) hJ v I oI C oC D m₂ h tk E' hP hC hx F N off ne) (fun y s₂ hq => ?_) fun _ _ e => e
    obtain ⟨h', tk', news', e1, F', N', off', hS, hJ'⟩ := hq
    exact ⟨h', tk', news', e1, F', N', off', hS, rest_ind J step fin k (i + 1) _ _ (by omega) hJ'⟩
end
end Mine

end

section
open PySem PySem.W PyProof.Rows PySem.Calls
set_option maxRecDepth 100000
set_option maxHeartbeats 1000000
namespace Mine
noncomputable def lawBody : List Stmt := match PySem.Challenge.rw_kq0061_02.row.toRowW.prog.theDef PySem.Challenge.rw_kq0061_02.row.toRowW.name with | some (_, b, _) => b | none => []
noncomputable def lawScope : Scope := match PySem.Challenge.rw_kq0061_02.row.toRowW.prog.theDef PySem.Challenge.rw_kq0061_02.row.toRowW.name with | some (_, _, sc) => sc | none => { kind := .function, names := [], isGenerator := false, isCoroutine := false }
theorem withDef {P : List Stmt → Scope → Prop} {params : Arguments} {body : List Stmt} {scope : Scope} (e : PySem.Challenge.rw_kq0061_02.row.toRowW.prog.theDef PySem.Challenge.rw_kq0061_02.row.toRowW.name = some (params, body, scope)) (h : P body scope) : P lawBody lawScope := by
  unfold lawBody lawScope
  rw [e]; exact h
section
variable {prog : Program} {w : World} {A : Around} {E : Value → Shared → Prop} {s : Shared} {h₀ : Heap} {L : Addr} {m : Str → Option Value} {news : List (Addr × Obj)} {k : Nat}
theorem Sx.globC {cn : Str} {cs : Scope} {a : Addr} {ccd : Value} {cl : List (Str × Addr)} {x : Str} {pos : Pos} {v : Value} {Q : Value → Shared → Prop} (S : Sx w A h₀ L k) (F : Fr h₀ L s.heap m)
    (e : nsIn (K w.params) mainGlobals x = some (some v)) (h : Q v s)
    (hk : cs.kind = .function := by rfl) (hx : (envX cn cs L a ccd cl).kindOf x = some .globalImplicit := by rfl) (hd : (x == ("__debug__" : Str)) = false := by decide) :
    wpAny (model prog w) A (eval (.Name x pos) (envX cn cs L a ccd cl)) Q E s := by
  obtain ⟨p, loose, mean, mg, mb, T⟩ := S.T
  exact nameX_K F S.X (topRead_of T) e h hk hx hd
theorem Sx.bltC {cn : Str} {cs : Scope} {a : Addr} {ccd : Value} {cl : List (Str × Addr)} {x : Str} {pos : Pos} {v : Value} {Q : Value → Shared → Prop} (S : Sx w A h₀ L k) (F : Fr h₀ L s.heap m)
    (e : nsIn (K w.params) mainGlobals x = some none) (hv : bootBuiltins x = some v) (hn : x ≠ "__name__") (h : Q v s)
    (hk : cs.kind = .function := by rfl) (hx : (envX cn cs L a ccd cl).kindOf x = some .globalImplicit := by rfl) (hd : (x == ("__debug__" : Str)) = false := by decide) :
    wpAny (model prog w) A (eval (.Name x pos) (envX cn cs L a ccd cl)) Q E s := by
  obtain ⟨p, loose, mean, mg, mb, T⟩ := S.T
  exact nameX_B F S.X (topRead_of T) e hv hn h hk hx hd
theorem Sx.bltK {scope : Scope} {cl : List (Str × Addr)} {C : Addr} {env : Env} {x : Str} {pos : Pos} {v : Value} {Q : Value → Shared → Prop} (S : Sx w A h₀ L k) (F : Fr h₀ L s.heap m)
    (e : nsIn (K w.params) mainGlobals x = some none) (hv : bootBuiltins x = some v) (hn : x ≠ "__name__") (h : Q v s)
    (hg : env.globals = mainGlobals := by rfl) (hb : env.builtins = builtinsNs := by rfl)
    (hk : (compEnvC scope cl C env).scope.kind = .function := by rfl) (hx : (compEnvC scope cl C env).kindOf x = some .globalImplicit := by rfl) (hd : (x == ("__debug__" : Str)) = false := by decide) :
    wpAny (model prog w) A (eval (.Name x pos) (compEnvC scope cl C env)) Q E s := by
  obtain ⟨p, loose, mean, mg, mb, T⟩ := S.T
  exact LCgL.ld_built F S.X T e hv hn h hg hb hk hx hd
theorem Sx.globK {scope : Scope} {cl : List (Str × Addr)} {C : Addr} {env : Env} {x : Str} {pos : Pos} {v : Value} {Q : Value → Shared → Prop} (S : Sx w A h₀ L k) (F : Fr h₀ L s.heap m)
    (e : nsIn (K w.params) mainGlobals x = some (some v)) (h : Q v s)
    (hg : env.globals = mainGlobals := by rfl)
    (hk : (compEnvC scope cl C env).scope.kind = .function := by rfl) (hx : (compEnvC scope cl C env).kindOf x = some .globalImplicit := by rfl) (hd : (x == ("__debug__" : Str)) = false := by decide) :
    wpAny (model prog w) A (eval (.Name x pos) (compEnvC scope cl C env)) Q E s := by
  obtain ⟨p, loose, mean, mg, mb, T⟩ := S.T
  exact LCgL.ld_global F S.X T e h hg hk hx hd
end
noncomputable def After (s : Shared) (h₀ : Heap) (L : Addr) (J : (Str → Option Value) → List (Addr × Obj) → Prop) (fl : Flow) (s' : Shared) : Prop :=
  fl = .next ∧ ∃ h' tk m' nw, s' = { s with heap := h', toks := tk } ∧ Fr h₀ L h' m' ∧ News h₀ L h' nw ∧ J m' nw
theorem After.intro {s : Shared} {h₀ : Heap} {L : Addr} {J : (Str → Option Value) → List (Addr × Obj) → Prop} {h' : Heap} {tk : Nat} {m' : Str → Option Value} {nw : List (Addr × Obj)} (F : Fr h₀ L h' m') (N : News h₀ L h' nw) (hJ : J m' nw) : After s h₀ L J .next { s with heap := h', toks := tk } :=
  ⟨rfl, h', tk, m', nw, rfl, F, N, hJ⟩
section
variable {prog : Program} {w : World} {A : Around} {E : Value → Shared → Prop} {s : Shared} {h₀ : Heap} {L : Addr}
theorem stage {st : Stmt} {rest : List Stmt} {env : Env} {Q : Flow → Shared → Prop} {J : (Str → Option Value) → List (Addr × Obj) → Prop} (h1 : wpAny (model prog w) A (exec st env) (After s h₀ L J) (fun _ _ => False) s)
    (h2 : ∀ h' tk m' nw, Fr h₀ L h' m' → News h₀ L h' nw → J m' nw → wpAny (model prog w) A (execs rest env) Q E { s with heap := h', toks := tk }) :
    wpAny (model prog w) A (execs (st :: rest) env) Q E s :=
  wpAny_execs_cons (wpAny_mono h1 (fun fl s' h => by obtain ⟨rfl, h', tk, m', nw, rfl, F, N, hJ⟩ := h; exact h2 h' tk m' nw F N hJ) fun _ _ h => h.elim)
end
noncomputable def nthS : List Stmt → Nat → Stmt
  | [], _ => .Pass ⟨0, 0, 0, 0⟩
  | a :: _, 0 => a
  | _ :: r, n + 1 => nthS r n
noncomputable abbrev lawEnv (L fa : Addr) (cd : Value) : Env := envOfC (Str.ofString "law") lawScope L fa cd
theorem lawBody_eq : lawBody = [nthS lawBody 0, nthS lawBody 1, nthS lawBody 2, nthS lawBody 3, nthS lawBody 4, nthS lawBody 5, nthS lawBody 6, nthS lawBody 7, nthS lawBody 8, nthS lawBody 9, nthS lawBody 10, nthS lawBody 11, nthS lawBody 12, nthS lawBody 13] := by rfl
/-- what holds ahead of and behind the law's rows. -/
noncomputable def J0 (sl L : Addr) (oc : Obj) (news : List (Addr × Obj)) (m : Str → Option Value) (nw : List (Addr × Obj)) : Prop := m (Str.ofString "script") = some (.ref sl) ∧ nw = (L + 1, oc) :: news
noncomputable def J1 (a b : Nat) (L : Addr) (oc : Obj) (news : List (Addr × Obj)) (m : Str → Option Value) (nw : List (Addr × Obj)) : Prop :=
  ∃ lp cvs k, m (Str.ofString "cells") = some (.ref lp) ∧ IntsAre cvs [(a : Int), (b : Int)] ∧ nw = (lp, listOf cvs.toArray k) :: (L + 1, oc) :: news ∧ L + 1 < lp
noncomputable def J2 (a b g z : Nat) (L : Addr) (news : List (Addr × Obj)) (m : Str → Option Value) (nw : List (Addr × Obj)) : Prop :=
  ∃ oc t, oc.data = .cell (some (.int g t)) ∧ J1 a b L oc news m nw ∧ (∃ t, m (Str.ofString "size") = some (.int z t))
theorem intsAt {vs : List Value} {ns : List Int} (h : IntsAre vs ns) : ∀ {i : Nat} {v : Value}, vs[i]? = some v → ∃ x t, v = .int x t ∧ ns[i]? = some x := by
  induction h with
  | nil => intro i v h; simp at h
  | cons n t _ ih =>
    intro i v h
    cases i with
    | zero => exact ⟨n, t, by simpa using h.symm, rfl⟩
    | succ i => simpa using ih (by simpa using h)
theorem cells_two (ns : List Int) : ∃ a b : Nat, a < 1000000 ∧ b < 1000000 ∧ ((((ns.take 2).map fun (n : Int) => n.fmod 1000000) ++ [117, 2829]).take 2) = [(a : Int), (b : Int)] := by
  have f : ∀ x : Int, ∃ a : Nat, a < 1000000 ∧ x.fmod 1000000 = a := fun x => ⟨(x.fmod 1000000).toNat, by rw [Int.fmod_eq_emod_of_nonneg _ (by decide)]; omega, by rw [Int.fmod_eq_emod_of_nonneg _ (by decide)]; omega⟩
  match ns with
  | [] => exact ⟨117, 2829, by decide, by decide, rfl⟩
  | [x] =>
    obtain ⟨a, h1, h2⟩ := f x
    exact ⟨a, 117, h1, by decide, by simp [h2]⟩
  | x :: y :: r =>
    obtain ⟨a, h1, h2⟩ := f x
    obtain ⟨b, h3, h4⟩ := f y
    exact ⟨a, b, h1, h3, by simp [h2, h4]⟩
theorem n_int (P : Params) : nsIn (K P) mainGlobals (Str.ofString "int") = some none := by kernel_rfl
local macro_rules | `(tactic| walk_at "eval Name") => `(tactic| first
  | (refine LCgL.ld_own (by assumption) (.tail _ (.head _)) (by assumption) (by assumption) ?_)
  | ((with_reducible show wpAny _ _ (eval (PySem.Expr.Name (Str.ofString "int") _) _) _ _ _); refine Sx.bltK (by assumption) (by assumption) (n_int _) (by boot_fast) (by decide) ?_)
  | (refine nameX_L (by assumption) (by rfl) ?_)
  | ((with_reducible show wpAny _ _ (eval (PySem.Expr.Name (Str.ofString "int") _) _) _ _ _); refine Sx.bltC (by assumption) (by assumption) (n_int _) (by boot_fast) (by decide) ?_))
local macro_rules | `(tactic| walk_at "storeName") => `(tactic| (refine storeX_L (by assumption) (by assumption) ?_; intro _ _ _))
section
variable {prog : Program} {w : World} {A : Around} {E : Value → Shared → Prop} {Q : Flow → Shared → Prop} {s : Shared} {h₀ : Heap} {L : Addr} {m : Str → Option Value} {news : List (Addr × Obj)}
theorem st0 {fa : Addr} {cd : Value} {oc : Obj} {sl : Addr} {vs : List Value} {ns : List Int} {nw : List (Addr × Obj)} (S : Sx w A h₀ L 20) (F : Fr h₀ L s.heap m) (N : News h₀ L s.heap nw) (hJ : J0 sl L oc news m nw)
    (hl : h₀.IsList sl vs.toArray) (hI : IntsAre vs ns) (hn63 : ns.length ≤ 63) {a b : Nat} (hab : ((((ns.take 2).map fun (n : Int) => n.fmod 1000000) ++ [117, 2829]).take 2) = [(a : Int), (b : Int)]) :
    wpAny (model prog w) A (exec (nthS lawBody 0) (lawEnv L fa cd)) (After s h₀ L (J1 a b L oc news)) (fun _ _ => False) s := by
  obtain ⟨hm, rfl⟩ := hJ
  refine withDef (P := fun b sc => wpAny (model prog w) A (exec (nthS b 0) (envOfC (Str.ofString "law") sc L fa cd)) _ _ s) (by rfl) ?_
  dsimp only [nthS]
  have hls : s.heap.IsList sl vs.toArray := Fr.lst F hl
  rw [map1 hm] at F
  · iterate 3 walk1
    refine LCg.ListComp_U (F₀ := F) (by with_unfolding_all rfl) (by decide) (by rfl) (by decide) (by rfl) ?_
    repeat' walk1
    rename Fr h₀ L _ _ => F2
    rename News h₀ L _ _ => N2
    rw [show (2 : Int) = ((2 : Nat) : Int) from rfl, pick_to] at N2
    have hIt : IntsAre (vs.take 2) (ns.take 2) := hI.take 2
    have hlen : (vs.take 2).length = (ns.take 2).length := hIt.length
    refine LCg.CompSrc.ledger (s₁ := ⟨_, _, _, _, _⟩) S.hh F2 N2 (.head _) ?hz fun g' => ?_
    case hz => rw [List.size_toArray, List.length_take, sizeLine_eq]; omega
    refine rest_ind (fun i ys nw => nw = _ ∧ IntsAre ys (((ns.take 2).take i).map fun n => n.fmod 1000000)) ?_ ?_ _ 0 [] _ (Nat.zero_add _) ⟨rfl, .nil⟩
    · rintro i ys nw hi ⟨rfl, hys⟩ v I oI C oC D m₂ h3 tk3 E3 hP hNs hx F3 N3 off ne
      obtain ⟨x, t, rfl, hx2⟩ : ∃ x t, v = .int x t ∧ (ns.take 2)[i]? = some x := by
        have hP' : (vs.take 2)[i]? = some v := by simpa using hP
        exact intsAt hIt hP'
      repeat' walk1
      refine LCg.CompEnd.intro F3 N3 _ (fun p hp => hp) off (.inr ⟨_, .head _, rfl, _, rfl⟩) ⟨rfl, ?_⟩
      have e1 : (((ns.take 2).take (i + 1)).map fun n => n.fmod 1000000) = (((ns.take 2).take i).map fun n => n.fmod 1000000) ++ [x.fmod 1000000] := by
        rw [List.take_add_one, hx2, List.map_append]; rfl
      rw [e1]
      exact snocI hys (by rw [show (10 : Int) ^ Int.toNat 6 = 1000000 by decide])
    · rintro ys nw ⟨rfl, hys⟩ D h4 tk4 F4 N4 off4
      have hyl : ys.length ≤ 2 := by rw [hys.length, List.length_map, List.length_take, List.length_take]; omega
      repeat' walk1
      rename Fr h₀ L _ _ => F5
      rename News h₀ L _ _ => N5
      rw [List.take_of_length_le (by rw [List.length_take, List.size_toArray, List.length_take, hI.length]; omega)] at hys
      have hus := PyProof.Rows.IntsAre.append hys (.cons 117 tk4 (.cons 2829 (tk4 + 1) .nil))
      refine kba_turn (value' := .Name (Str.ofString "text") ⟨0, 0, 0, 0⟩) (fun _ => rfl) ?_
      refine kmk_slice (lo := none) (hi := some 2) (s := ⟨_, _, _, _, _⟩) F5 N5 (News.isList N5 (.head _)) IsPart.none (IsPart.int _ _) (fun D3 h7 F7 N7 hD3 => ?_) (by with_unfolding_all rfl) (by intro _; with_unfolding_all rfl) (by rw [List.size_toArray, List.length_append, sizeLine_eq]; simp; omega)
      rw [show (2 : Int) = ((2 : Nat) : Int) from rfl, pick_to] at N7
      repeat' walk1
      rename Fr h₀ L _ _ => F8
      rename News h₀ L _ _ => N8
      have hus2 := hus.take 2
      rw [hab] at hus2
      refine After.intro F8 ?_ ⟨D3, _, 0, rfl, hus2, rfl, hD3 (L + 1, oc) (.tail _ (.tail _ (.tail _ (.tail _ (.head _)))))⟩
      intro p hp
      rcases List.mem_cons.mp hp with rfl | hp
      · exact N8 _ (.head _)
      · exact N8 p (.tail _ (.tail _ (.tail _ (.tail _ (.tail _ hp)))))
end
end Mine

end

section
open PySem PySem.W PyProof.Rows PySem.Calls
set_option maxRecDepth 100000
set_option maxHeartbeats 1000000
namespace Mine
theorem ints2 {cvs : List Value} {a b : Int} (h : IntsAre cvs [a, b]) : ∃ t0 t1, cvs = [.int a t0, .int b t1] := by
  cases h with
  | cons _ t0 h => cases h with
    | cons _ t1 h => cases h; exact ⟨t0, t1, rfl⟩
local macro_rules | `(tactic| walk_at "eval Name") => `(tactic| first
  | (refine nameX_L (by assumption) (by rfl) ?_)
  | (refine nameX_C (by assumption) (by rfl) (.tail _ (.head _)) (by assumption) ?_))
local macro_rules | `(tactic| walk_at "storeName") => `(tactic| first
  | (refine storeX_L (by assumption) (by assumption) ?_; intro _ _ _)
  | (refine storeX_C (by assumption) (by assumption) (by rfl) (by assumption) (by assumption) ?_; intro _ _ _ _ _))
local macro_rules | `(tactic| walk_at "unpackItems ref") => `(tactic| (refine unpackItemsN_ (by assumption) (by assumption) (News.isTup (by assumption) (.head _)) (Sx.hh (by assumption)) (by rfl) ?_; intro _ _ _))
local macro_rules | `(tactic| walk_at "subscriptTail Name Constant ref int") => `(tactic| (refine subscriptTail_builtin (T := "list") ⟨_, (News.get (by assumption) (.head _)), rfl⟩ slot_list_getitem.lookup ?_; refine wpAny_getItem_list (News.isList (by assumption) (.head _)) (by omega) (by omega) (by rfl) ?_))
section
variable {prog : Program} {w : World} {A : Around} {E : Value → Shared → Prop} {Q : Flow → Shared → Prop} {s : Shared} {h₀ : Heap} {L : Addr} {m : Str → Option Value} {news : List (Addr × Obj)}
theorem st1 {fa : Addr} {cd : Value} {oc : Obj} {nw : List (Addr × Obj)} {a b : Nat} (S : Sx w A h₀ L 20) (F : Fr h₀ L s.heap m) (N : News h₀ L s.heap nw) (hJ : J1 a b L oc news m nw) (hoc : oc.data = .cell none) (hne : ∀ p ∈ news, p.1 ≠ L + 1) :
    wpAny (model prog w) A (exec (nthS lawBody 1) (lawEnv L fa cd)) (After s h₀ L (J2 a b (1 + a % 8) (1 + a / 8 % 12) L news)) (fun _ _ => False) s := by
  refine withDef (P := fun b sc => wpAny (model prog w) A (exec (nthS b 1) (envOfC (Str.ofString "law") sc L fa cd)) _ _ s) (by rfl) ?_
  dsimp only [nthS]
  obtain ⟨lp, cvs, k, hm, hI, rfl, hlp⟩ := hJ
  obtain ⟨t0, t1, rfl⟩ := ints2 hI
  rw [map1 hm] at F
  have hlt := Heap.lt_size (N (L + 1, oc) (.tail _ (.head _))).1
  repeat' walk1
  rename Fr h₀ L _ _ => F2
  rename News h₀ L _ _ => N2
  refine unpackN_ F2 N2 (News.isTup N2 (.head _)) S.hh (by rfl) (by rfl) fun h3 F3 N3 => ?_
  walk1
  walk1
  refine storeX_C F3 (fun p hp => N3 p (.tail _ hp)) (by rfl) (.tail (Nat.ne_of_gt hlp) (.head hne)) hoc fun h4 o4 F4 N4 ho4 => ?_
  repeat' walk1
  rename Fr h₀ L _ _ => F5
  rename News h₀ L _ _ => N5
  have e1 : 1 + ([(a : Int), (b : Int)].getD (Int.toNat 0) 0).fmod 8 = ((1 + a % 8 : Nat) : Int) := by
    show 1 + (a : Int).fmod 8 = _
    rw [Int.fmod_eq_emod_of_nonneg _ (by decide)]; omega
  have e2 : 1 + (([(a : Int), (b : Int)].getD (Int.toNat 0) 0).fdiv 8).fmod 12 = ((1 + a / 8 % 12 : Nat) : Int) := by
    show 1 + ((a : Int).fdiv 8).fmod 12 = _
    rw [Int.fmod_eq_emod_of_nonneg _ (by decide), Int.fdiv_eq_ediv_of_nonneg _ (by decide)]; omega
  rw [e1] at ho4
  rw [e2] at F5
  exact After.intro F5 N5 ⟨o4, _, ho4, ⟨lp, _, k, rfl, hI, rfl, hlp⟩, _, rfl⟩
end
end Mine

end

section
open PySem PySem.W PyProof.Rows PySem.Calls
set_option maxRecDepth 100000
set_option maxHeartbeats 1000000
namespace Mine
noncomputable def J3 (a b g x y : Nat) (L : Addr) (news : List (Addr × Obj)) (m : Str → Option Value) (nw : List (Addr × Obj)) : Prop :=
  ∃ oc t rp k tx ty nw1, oc.data = .cell (some (.int g t)) ∧ nw = (rp, listOf #[.str (dots x) tx, .str (dots y) ty] k) :: nw1 ∧ J1 a b L oc news m nw1 ∧ m (Str.ofString "rows") = some (.ref rp)
noncomputable def J4 (a b g x y : Nat) (f : Int) (L : Addr) (news : List (Addr × Obj)) (m : Str → Option Value) (nw : List (Addr × Obj)) : Prop := J3 a b g x y L news m nw ∧ ∃ t, m (Str.ofString "figure") = some (.int f t)
noncomputable def J5 (a b g x y : Nat) (f o : Int) (L : Addr) (news : List (Addr × Obj)) (m : Str → Option Value) (nw : List (Addr × Obj)) : Prop := J4 a b g x y f L news m nw ∧ ∃ t, m (Str.ofString "other") = some (.int o t)
noncomputable def J6 (a b g x y : Nat) (f : Int) (pr : Array UInt8) (L : Addr) (news : List (Addr × Obj)) (m : Str → Option Value) (nw : List (Addr × Obj)) : Prop := J4 a b g x y f L news m nw ∧ ∃ t, m (Str.ofString "pair") = some (.bytes pr t)
noncomputable def J7 (a b g x y : Nat) (f : Int) (pr : Array UInt8) (c : Nat) (L : Addr) (news : List (Addr × Obj)) (m : Str → Option Value) (nw : List (Addr × Obj)) : Prop := J6 a b g x y f pr L news m nw ∧ ∃ t, m (Str.ofString "sign") = some (.str ⟨#[c]⟩ t)
noncomputable def J9 (a b g x y : Nat) (f : Int) (pr : Array UInt8) (c : Nat) (l : List Nat) (L : Addr) (news : List (Addr × Obj)) (m : Str → Option Value) (nw : List (Addr × Obj)) : Prop := J7 a b g x y f pr c L news m nw ∧ ∃ t, m (Str.ofString "sent") = some (.str ⟨l.toArray⟩ t)
theorem n_bytesT (P : Params) : nsIn (K P) mainGlobals (Str.ofString "bytes") = some none := by kernel_rfl
theorem n_chr (P : Params) : nsIn (K P) mainGlobals (Str.ofString "chr") = some none := by kernel_rfl
local macro_rules | `(tactic| walk_at "no such step") => `(tactic| fail)
local macro_rules | `(tactic| walk_at "eval Name") => `(tactic| first
  | (refine nameX_L (by assumption) (by rfl) ?_)
  | (refine nameX_C (by assumption) (by rfl) (.tail _ (.head _)) (by assumption) ?_)
  | ((with_reducible show wpAny _ _ (eval (PySem.Expr.Name (Str.ofString "bytes") _) _) _ _ _); refine Sx.bltC (by assumption) (by assumption) (n_bytesT _) (by boot_fast) (by decide) ?_)
  | ((with_reducible show wpAny _ _ (eval (PySem.Expr.Name (Str.ofString "chr") _) _) _ _ _); refine Sx.bltC (by assumption) (by assumption) (n_chr _) (by boot_fast) (by decide) ?_))
local macro_rules | `(tactic| walk_at "storeName") => `(tactic| first
  | (refine storeX_L (by assumption) (by assumption) ?_; intro _ _ _))
local macro_rules | `(tactic| walk_at "subscriptTail Name Constant ref int") => `(tactic| first
  | (refine subscriptTail_builtin (T := "list") ⟨_, (News.get (by assumption) (.head _)), rfl⟩ slot_list_getitem.lookup ?_; refine wpAny_getItem_list (News.isList (by assumption) (.head _)) (by omega) (by omega) (by rfl) ?_)
  | (refine subscriptTail_builtin (T := "list") ⟨_, (News.get (by assumption) (.tail _ (.head _))), rfl⟩ slot_list_getitem.lookup ?_; refine wpAny_getItem_list (News.isList (by assumption) (.tail _ (.head _))) (by omega) (by omega) (by rfl) ?_))
local macro_rules | `(tactic| walk_at "binaryOp Mult str int") => `(tactic| (refine mul_rep (c := 46) (by assumption) (by assumption) ?_; intro _ _))
section
variable {prog : Program} {w : World} {A : Around} {E : Value → Shared → Prop} {Q : Flow → Shared → Prop} {s : Shared} {h₀ : Heap} {L : Addr} {m : Str → Option Value} {news nw : List (Addr × Obj)} {fa : Addr} {cd : Value} {oc : Obj} {a b g x y z : Nat} {f o : Int} {pr : Array UInt8}
theorem mul_dots (n : Nat) : Txt.mul (Str.ofString ".") (n : Int) = dots n := by
  have := txt_mul 46 (n : Int) (by omega)
  exact this
theorem pick_rev2 (u v : Value) : slicePick #[u, v] none none (some (-1)) = #[v, u] := by
  simp [slicePick, sliceBounds, sliceRange]
  rfl
theorem st2 (S : Sx w A h₀ L 20) (F : Fr h₀ L s.heap m) (N : News h₀ L s.heap nw) (hJ : J2 a b g z L news m nw) (hg : g ≤ 8) (hz : z ≤ 12) :
    wpAny (model prog w) A (exec (nthS lawBody 2) (lawEnv L fa cd)) (After s h₀ L (J3 a b g z (z + g) L news)) (fun _ _ => False) s := by
  refine withDef (P := fun b sc => wpAny (model prog w) A (exec (nthS b 2) (envOfC (Str.ofString "law") sc L fa cd)) _ _ s) (by rfl) ?_
  dsimp only [nthS]
  obtain ⟨oc, tg, hoc, ⟨lp, cvs, k, hm, hI, rfl, hlp⟩, tz, hs⟩ := hJ
  rw [map2 hm hs] at F
  have h1 : (0 : Int) ≤ (z : Int) := by omega
  have h2 : (z : Int) ≤ 1000000 := by omega
  have h3 : (0 : Int) ≤ (z : Int) + (g : Int) := by omega
  have h4 : (z : Int) + (g : Int) ≤ 1000000 := by omega
  repeat' walk1
  rename Fr h₀ L _ _ => FF
  rename News h₀ L _ _ => NN
  rw [mul_dots, show (z : Int) + (g : Int) = ((z + g : Nat) : Int) from rfl, mul_dots] at NN
  exact After.intro FF NN ⟨oc, tg, _, 0, _, _, _, hoc, rfl, ⟨lp, cvs, k, rfl, hI, rfl, hlp⟩, rfl⟩
theorem st3 (S : Sx w A h₀ L 20) (F : Fr h₀ L s.heap m) (N : News h₀ L s.heap nw) (hJ : J3 a b g x y L news m nw) :
    wpAny (model prog w) A (exec (nthS lawBody 3) (lawEnv L fa cd)) (After s h₀ L (J3 a b g (if a / 96 % 2 = 0 then x else y) (if a / 96 % 2 = 0 then y else x) L news)) (fun _ _ => False) s := by
  refine withDef (P := fun b sc => wpAny (model prog w) A (exec (nthS b 3) (envOfC (Str.ofString "law") sc L fa cd)) _ _ s) (by rfl) ?_
  dsimp only [nthS]
  obtain ⟨oc, tg, rp, kr, tx, ty, nw1, hoc, rfl, ⟨lp, cvs, k, hm, hI, rfl, hlp⟩, hr⟩ := hJ
  obtain ⟨t0, t1, rfl⟩ := ints2 hI
  rw [map2 hm hr] at F
  repeat' walk1
  · rename _ ≠ 0 => h1
    rename Fr h₀ L _ _ => FF
    rename News h₀ L _ _ => NN
    rw [pick_rev2] at NN
    have h2 : ((a : Int).fdiv 96).fmod 2 ≠ 0 := h1
    rw [Int.fmod_eq_emod_of_nonneg _ (by decide), Int.fdiv_eq_ediv_of_nonneg _ (by decide)] at h2
    rw [if_neg (by omega), if_neg (by omega)]
    refine After.intro FF (nw := _ :: _ :: (L + 1, oc) :: news) (fun p hp => ?_) ⟨oc, tg, _, 0, ty, tx, _, hoc, rfl, ⟨lp, _, k, rfl, hI, rfl, hlp⟩, rfl⟩
    rcases List.mem_cons.mp hp with rfl | hp
    · exact NN _ (.head _)
    · exact NN p (.tail _ (.tail _ hp))
  · rename _ = (0 : Int) => h1
    have h2 : ((a : Int).fdiv 96).fmod 2 = 0 := h1
    rw [Int.fmod_eq_emod_of_nonneg _ (by decide), Int.fdiv_eq_ediv_of_nonneg _ (by decide)] at h2
    rw [if_pos (by omega), if_pos (by omega)]
    exact After.intro F N ⟨oc, tg, rp, kr, tx, ty, _, hoc, rfl, ⟨lp, _, k, rfl, hI, rfl, hlp⟩, rfl⟩
theorem st4 (S : Sx w A h₀ L 20) (F : Fr h₀ L s.heap m) (N : News h₀ L s.heap nw) (hJ : J3 a b g x y L news m nw) :
    wpAny (model prog w) A (exec (nthS lawBody 4) (lawEnv L fa cd)) (After s h₀ L (J4 a b g x y (62 + (a / 192 % 2 : Nat)) L news)) (fun _ _ => False) s := by
  refine withDef (P := fun b sc => wpAny (model prog w) A (exec (nthS b 4) (envOfC (Str.ofString "law") sc L fa cd)) _ _ s) (by rfl) ?_
  dsimp only [nthS]
  obtain ⟨oc, tg, rp, kr, tx, ty, nw1, hoc, rfl, ⟨lp, cvs, k, hm, hI, rfl, hlp⟩, hr⟩ := hJ
  obtain ⟨t0, t1, rfl⟩ := ints2 hI
  rw [map2 hm hr] at F
  repeat' walk1
  rename Fr h₀ L _ _ => FF
  have e1 : 62 + (([(a : Int), (b : Int)].getD (Int.toNat 0) 0).fdiv 192).fmod 2 = 62 + ((a / 192 % 2 : Nat) : Int) := by
    show 62 + ((a : Int).fdiv 192).fmod 2 = _
    rw [Int.fmod_eq_emod_of_nonneg _ (by decide), Int.fdiv_eq_ediv_of_nonneg _ (by decide)]; omega
  rw [e1] at FF
  rename News h₀ L _ _ => NN
  exact After.intro FF NN ⟨⟨oc, tg, rp, kr, tx, ty, _, hoc, rfl, ⟨lp, _, k, rfl, hI, rfl, hlp⟩, rfl⟩, _, rfl⟩
theorem st5 (S : Sx w A h₀ L 20) (F : Fr h₀ L s.heap m) (N : News h₀ L s.heap nw) (hJ : J4 a b g x y f L news m nw) :
    wpAny (model prog w) A (exec (nthS lawBody 5) (lawEnv L fa cd)) (After s h₀ L (J5 a b g x y f (33 + (a / 384 % 13 : Nat)) L news)) (fun _ _ => False) s := by
  refine withDef (P := fun b sc => wpAny (model prog w) A (exec (nthS b 5) (envOfC (Str.ofString "law") sc L fa cd)) _ _ s) (by rfl) ?_
  dsimp only [nthS]
  obtain ⟨⟨oc, tg, rp, kr, tx, ty, nw1, hoc, rfl, ⟨lp, cvs, k, hm, hI, rfl, hlp⟩, hr⟩, tf, hf⟩ := hJ
  obtain ⟨t0, t1, rfl⟩ := ints2 hI
  rw [map3 hm hr hf] at F
  repeat' walk1
  rename Fr h₀ L _ _ => FF
  have e1 : 33 + (([(a : Int), (b : Int)].getD (Int.toNat 0) 0).fdiv 384).fmod 13 = 33 + ((a / 384 % 13 : Nat) : Int) := by
    show 33 + ((a : Int).fdiv 384).fmod 13 = _
    rw [Int.fmod_eq_emod_of_nonneg _ (by decide), Int.fdiv_eq_ediv_of_nonneg _ (by decide)]; omega
  rw [e1] at FF
  rename News h₀ L _ _ => NN
  exact After.intro FF NN ⟨⟨⟨oc, tg, rp, kr, tx, ty, _, hoc, rfl, ⟨lp, _, k, rfl, hI, rfl, hlp⟩, rfl⟩, _, rfl⟩, _, rfl⟩
theorem st6 (S : Sx w A h₀ L 20) (F : Fr h₀ L s.heap m) (N : News h₀ L s.heap nw) {o : Nat} (hJ : J5 a b g x y f o L news m nw) (ho : 33 ≤ o ∧ o ≤ 45) :
    wpAny (model prog w) A (exec (nthS lawBody 6) (lawEnv L fa cd)) (After s h₀ L (J6 a b g x y f (if f = 62 then #[46, o.toUInt8] else #[o.toUInt8, 46]) L news)) (fun _ _ => False) s := by
  refine withDef (P := fun b sc => wpAny (model prog w) A (exec (nthS b 6) (envOfC (Str.ofString "law") sc L fa cd)) _ _ s) (by rfl) ?_
  dsimp only [nthS]
  obtain ⟨⟨⟨oc, tg, rp, kr, tx, ty, nw1, hoc, rfl, ⟨lp, cvs, k, hm, hI, rfl, hlp⟩, hr⟩, tf, hf⟩, tot, hot⟩ := hJ
  obtain ⟨t0, t1, rfl⟩ := ints2 hI
  rw [map4 hm hr hf hot] at F
  repeat' walk1
  all_goals rename Fr h₀ L _ _ => FE
  all_goals rename News h₀ L _ _ => NE
  · rename f = 62 => hf62
    rw [if_pos hf62]
    refine bytes_K FE NE (News.isList NE (.head _)) (.cons 46 _ (.cons (o : Int) _ .nil)) (by simp; omega) (by simp [sizeLine_eq]) S.hh fun h9 t9 k9 F9 N9 hb => ?_
    repeat' walk1
    rename Fr h₀ L _ _ => FF
    rename News h₀ L _ _ => NN
    exact After.intro FF (fun p hp => NN p (.tail _ hp)) ⟨⟨⟨oc, tg, rp, kr, tx, ty, _, hoc, rfl, ⟨lp, _, k, rfl, hI, rfl, hlp⟩, rfl⟩, _, rfl⟩, _, rfl⟩
  · rename ¬ f = 62 => hf62
    rw [if_neg hf62]
    refine bytes_K FE NE (News.isList NE (.head _)) (.cons (o : Int) _ (.cons 46 _ .nil)) (by simp; omega) (by simp [sizeLine_eq]) S.hh fun h9 t9 k9 F9 N9 hb => ?_
    repeat' walk1
    rename Fr h₀ L _ _ => FF
    rename News h₀ L _ _ => NN
    exact After.intro FF (fun p hp => NN p (.tail _ hp)) ⟨⟨⟨oc, tg, rp, kr, tx, ty, _, hoc, rfl, ⟨lp, _, k, rfl, hI, rfl, hlp⟩, rfl⟩, _, rfl⟩, _, rfl⟩
theorem st7 (S : Sx w A h₀ L 20) (F : Fr h₀ L s.heap m) (N : News h₀ L s.heap nw) (hJ : J6 a b g x y f pr L news m nw) (hb : b < 1000000) :
    wpAny (model prog w) A (exec (nthS lawBody 7) (lawEnv L fa cd)) (After s h₀ L (J7 a b g x y f pr (b / 27) L news)) (fun _ _ => False) s := by
  refine withDef (P := fun b sc => wpAny (model prog w) A (exec (nthS b 7) (envOfC (Str.ofString "law") sc L fa cd)) _ _ s) (by rfl) ?_
  dsimp only [nthS]
  obtain ⟨⟨⟨oc, tg, rp, kr, tx, ty, nw1, hoc, rfl, ⟨lp, cvs, k, hm, hI, rfl, hlp⟩, hr⟩, tf, hf⟩, tp, hp⟩ := hJ
  obtain ⟨t0, t1, rfl⟩ := ints2 hI
  rw [map4 hm hr hf hp] at F
  repeat' walk1
  have e1 : ([(a : Int), (b : Int)].getD (Int.toNat 1) 0).fdiv 27 = ((b / 27 : Nat) : Int) := by
    show (b : Int).fdiv 27 = _
    rw [Int.fdiv_eq_ediv_of_nonneg _ (by decide)]; rfl
  rw [e1]
  refine chr_of_range (by omega) (by omega) ?_
  repeat' walk1
  rename Fr h₀ L _ _ => FF
  rename News h₀ L _ _ => NN
  exact After.intro FF NN ⟨⟨⟨⟨oc, tg, rp, kr, tx, ty, _, hoc, rfl, ⟨lp, _, k, rfl, hI, rfl, hlp⟩, rfl⟩, _, rfl⟩, _, rfl⟩, _, rfl⟩
end
end Mine

end

section
open PySem PySem.W PyProof.Rows PySem.Calls
set_option maxRecDepth 100000
namespace Mine
theorem allObj_mono : ∀ {ws : List (Addr × String)} {k k' : List (Addr × Obj) → Prop}, (∀ its, k its → k' its) → AllObj ws k → AllObj ws k'
  | [], _, _, f, h => f [] h
  | _ :: _, _, _, f, h => fun o hc => allObj_mono (fun its => f _) (h o hc)
theorem subL_of : ∀ {l all : List (Addr × Obj)}, (∀ p ∈ l, p ∈ all) → SubL l all
  | [], _, _ => trivial
  | _ :: _, _, h => ⟨h _ (.head _), subL_of fun p hp => h p (.tail _ hp)⟩
theorem offW1_of {p : Addr × Obj} : ∀ {its : List (Addr × Obj)}, (∀ q ∈ its, p.1 ≠ q.1) → OffW1 p its
  | [], _ => trivial
  | _ :: _, h => ⟨.inl (h _ (.head _)), offW1_of fun q hq => h q (.tail _ hq)⟩
theorem offW_of {its : List (Addr × Obj)} : ∀ {l : List (Addr × Obj)}, (∀ p ∈ l, ∀ q ∈ its, p.1 ≠ q.1) → OffW its l
  | [], _ => trivial
  | _ :: _, h => ⟨offW1_of (h _ (.head _)), offW_of fun p hp => h p (.tail _ hp)⟩
section
variable {prog : Program} {w : World} {A : Around} {E : Value → Shared → Prop} {s : Shared} {env : Env} {h₀ : Heap} {target : PySem.Expr} {body : List Stmt} {Q : Flow → Shared → Prop}
theorem unrPost_mono {L : Addr} {s₁ : Shared} {its : List (Addr × Obj)} {r r' : (Str → Option Value) → List (Addr × Obj) → Prop} (f : ∀ m n, r m n → r' m n) : ∀ {fl : Flow} {s₂ : Shared}, UnrPostW h₀ L s₁ its r Q fl s₂ → UnrPostW h₀ L s₁ its r' Q fl s₂
  | .ret _, _, h => h
  | .brk, _, h => h
  | .next, _, ⟨h', tk, m', n', e, F, N, o, x⟩ => ⟨h', tk, m', n', e, F, N, o, f _ _ x⟩
  | .cont, _, ⟨h', tk, m', n', e, F, N, o, x⟩ => ⟨h', tk, m', n', e, F, N, o, f _ _ x⟩
theorem enum_ind {ws : List (Addr × String)} {keep : List (Addr × Obj)} {vs : List Value} (J : Nat → (Str → Option Value) → List (Addr × Obj) → Prop)
    (step : ∀ i v m₁ n₁, vs[i]? = some v → J i m₁ n₁ → ∀ T t h tk, IsTup h T #[.int ((i : Nat) : Int) t, v] → Fr h₀ env.locals h m₁ → AllObj ws (fun its => News h₀ env.locals h (its ++ n₁) →
      wpAny (model prog w) A (assign target env (.ref T)) (fun _ s₂ => wpAny (model prog w) A (execs body env) (UnrPostW h₀ env.locals { s with heap := h, toks := tk } its (fun m' n' => SubL keep n' ∧ J (i + 1) m' n') Q) E s₂) E { s with heap := h, toks := tk }))
    (fin : ∀ m₁ n₁ h tk, J vs.length m₁ n₁ → Fr h₀ env.locals h m₁ → News h₀ env.locals h n₁ → Q .next { s with heap := h, toks := tk }) :
    ∀ (rest : List Value) (i : Nat) (m₁ : Str → Option Value) (n₁ : List (Addr × Obj)), vs.drop i = rest → i ≤ vs.length → J i m₁ n₁ → ItemsRest prog w A E h₀ env target body Q s ws keep (enumItems i rest) m₁ n₁
  | [], i, m₁, n₁, e, hl, hJ => fun h tk F N => by
    have hi : vs.length ≤ i := List.drop_eq_nil_iff.mp e
    have heq : i = vs.length := Nat.le_antisymm hl hi
    exact fin m₁ n₁ h tk (heq ▸ hJ) F N
  | v :: rest, i, m₁, n₁, e, _, hJ => by
    have hv : vs[i]? = some v := by
      have := congrArg List.head? e
      simpa using this
    have hd : vs.drop (i + 1) = rest := by rw [← List.drop_drop, e]; rfl
    refine ItemsRest.pair fun T t h tk hT F => ?_
    refine allObj_mono (fun its hk N => ?_) (step i v m₁ n₁ hv hJ T t h tk hT F)
    refine wpAny_mono (hk N) (fun _ s₂ h₂ => ?_) fun _ _ e => e
    exact wpAny_mono h₂ (fun fl s₃ h₃ => unrPost_mono (fun m' n' hh => ⟨hh.1, enum_ind J step fin rest (i + 1) m' n' hd (List.getElem?_eq_some_iff.mp hv).1 hh.2⟩) h₃) fun _ _ e => e
end
end Mine

end

section
open PySem PySem.W PyProof.Rows PySem.Calls
set_option maxRecDepth 100000
set_option maxHeartbeats 1000000
namespace Mine
theorem map5 {m : Str → Option Value} {a b c d e : Str} {va vb vc vd ve : Value} (ha : m a = some va) (hb : m b = some vb) (hc : m c = some vc) (hd : m d = some vd) (he : m e = some ve) :
    m = fun y => if y = a then some va else if y = b then some vb else if y = c then some vc else if y = d then some vd else if y = e then some ve else m y := by
  funext y; repeat' (split; (rename_i e; rw [e]; assumption))
  rfl
noncomputable def rowM (c x y : Nat) : Nat → List Nat
  | 0 => [c]
  | 1 => List.replicate x 46
  | _ => List.replicate y 46
noncomputable def preM (b c x y : Nat) : Nat → List Nat
  | 0 => []
  | i + 1 => preM b c x y i ++ (rowM c x y i ++ endOf (b / 3 ^ i % 3))
theorem preM_mail (b c x y : Nat) : preM b c x y 3 = mail (b % 3) (b / 3 % 3) (b / 9 % 3) c x y := by
  simp [preM, rowM, mail, List.append_assoc]
theorem drop2 {h₀ h : Heap} {L : Addr} {a b : Addr × Obj} {r : List (Addr × Obj)} (N : News h₀ L h (a :: b :: r)) : News h₀ L h (a :: r) := fun p hp => by
  rcases List.mem_cons.mp hp with rfl | hp
  · exact N _ (.head _)
  · exact N p (.tail _ (.tail _ hp))
theorem end_at {a1 a2 a3 : Tok} (k : Nat) (hk : k < 3) : ∃ t, (#[.str (Str.ofString "\n") a1, .str (Str.ofString "\r") a2, .str (Str.ofString "\r\n") a3] : Array Value)[((k : Nat) : Int).toNat]? = some (.str ⟨(endOf k).toArray⟩ t) := by
  have h : k = 0 ∨ k = 1 ∨ k = 2 := by omega
  rcases h with rfl | rfl | rfl
  · exact ⟨a1, rfl⟩
  · exact ⟨a2, rfl⟩
  · exact ⟨a3, rfl⟩
theorem row_len (c x y i : Nat) : (rowM c x y i).length ≤ x + y + 1 := by
  match i with
  | 0 => simp [rowM]
  | 1 => simp [rowM]; omega
  | _ + 2 => simp [rowM]; omega
theorem end_len (k : Nat) : (endOf k).length ≤ 2 := by unfold endOf; split <;> (try split) <;> decide
theorem pre_len (b c x y i : Nat) : (preM b c x y i).length ≤ i * (x + y + 3) := by
  induction i with
  | zero => simp [preM]
  | succ i ih =>
    have := row_len c x y i
    have := end_len (b / 3 ^ i % 3)
    rw [Nat.succ_mul]
    simp only [preM, List.length_append]; omega
theorem str_app (a b : List Nat) : (⟨a.toArray⟩ : Str) ++ (⟨b.toArray⟩ : Str) = ⟨(a ++ b).toArray⟩ := by
  show Str.mk (a.toArray ++ b.toArray) = _
  rw [List.append_toArray]
theorem n_enumerate (P : Params) : nsIn (K P) mainGlobals (Str.ofString "enumerate") = some none := by kernel_rfl
local macro_rules | `(tactic| walk_at "eval Name") => `(tactic| first
  | (refine nameX_L (by assumption) (by rfl) ?_)
  | ((with_reducible show wpAny _ _ (eval (PySem.Expr.Name (Str.ofString "enumerate") _) _) _ _ _); refine Sx.bltC (by assumption) (by assumption) (n_enumerate _) (by boot_fast) (by decide) ?_))
local macro_rules | `(tactic| walk_at "storeName") => `(tactic| first
  | (refine storeX_L (by assumption) (by assumption) ?_; intro _ _ _))
section
variable {prog : Program} {w : World} {A : Around} {E : Value → Shared → Prop} {Q : Flow → Shared → Prop} {s : Shared} {h₀ : Heap} {L : Addr} {m : Str → Option Value} {news nw : List (Addr × Obj)} {fa : Addr} {cd : Value} {oc : Obj} {a b g x y z c : Nat} {f o : Int} {pr : Array UInt8}
theorem st8 (S : Sx w A h₀ L 20) (F : Fr h₀ L s.heap m) (N : News h₀ L s.heap nw) (hJ : J7 a b g x y f pr c L news m nw) :
    wpAny (model prog w) A (exec (nthS lawBody 8) (lawEnv L fa cd)) (After s h₀ L (fun m nw => ∃ c, c ≠ 13 ∧ c ≠ 10 ∧ c ≠ 46 ∧ J7 a b g x y f pr c L news m nw)) (fun _ _ => False) s := by
  refine withDef (P := fun b sc => wpAny (model prog w) A (exec (nthS b 8) (envOfC (Str.ofString "law") sc L fa cd)) _ _ s) (by rfl) ?_
  dsimp only [nthS]
  obtain ⟨⟨⟨⟨oc, tg, rp, kr, tx, ty, nw1, hoc, rfl, ⟨lp, cvs, k, hm, hI, rfl, hlp⟩, hr⟩, tf, hf⟩, tp, hp⟩, ts, hs⟩ := hJ
  rw [map5 hm hr hf hp hs] at F
  repeat' walk1
  · rename (Builtin.Str.occurrences _ _ _ _ _).isEmpty = true => ho
    have h3 : c ≠ 13 ∧ c ≠ 10 ∧ c ≠ 46 := by
      refine ⟨?_, ?_, ?_⟩ <;> (rintro rfl; revert ho; decide +kernel)
    exact After.intro F N ⟨c, h3.1, h3.2.1, h3.2.2, ⟨⟨⟨oc, tg, rp, kr, tx, ty, _, hoc, rfl, ⟨lp, _, k, rfl, hI, rfl, hlp⟩, rfl⟩, _, rfl⟩, _, rfl⟩, _, rfl⟩
  · rename Fr h₀ L _ _ => FF
    rename News h₀ L _ _ => NN
    exact After.intro FF NN ⟨32, by decide, by decide, by decide, ⟨⟨⟨oc, tg, rp, kr, tx, ty, _, hoc, rfl, ⟨lp, _, k, rfl, hI, rfl, hlp⟩, rfl⟩, _, rfl⟩, _, rfl⟩, _, rfl⟩
theorem st9 (S : Sx w A h₀ L 20) (F : Fr h₀ L s.heap m) (N : News h₀ L s.heap nw) (hJ : J7 a b g x y f pr c L news m nw) :
    wpAny (model prog w) A (exec (nthS lawBody 9) (lawEnv L fa cd)) (After s h₀ L (J9 a b g x y f pr c [] L news)) (fun _ _ => False) s := by
  refine withDef (P := fun b sc => wpAny (model prog w) A (exec (nthS b 9) (envOfC (Str.ofString "law") sc L fa cd)) _ _ s) (by rfl) ?_
  dsimp only [nthS]
  obtain ⟨⟨⟨⟨oc, tg, rp, kr, tx, ty, nw1, hoc, rfl, ⟨lp, cvs, k, hm, hI, rfl, hlp⟩, hr⟩, tf, hf⟩, tp, hp⟩, ts, hs⟩ := hJ
  rw [map5 hm hr hf hp hs] at F
  repeat' walk1
  rename Fr h₀ L _ _ => FF
  rename News h₀ L _ _ => NN
  exact After.intro FF NN ⟨⟨⟨⟨⟨oc, tg, rp, kr, tx, ty, _, hoc, rfl, ⟨lp, _, k, rfl, hI, rfl, hlp⟩, rfl⟩, _, rfl⟩, _, rfl⟩, _, rfl⟩, _, rfl⟩
theorem st10 (S : Sx w A h₀ L 20) (F : Fr h₀ L s.heap m) (N : News h₀ L s.heap nw) (hJ : J9 a b g x y f pr c [] L news m nw) (hx : x ≤ 1000) (hy : y ≤ 1000) :
    wpAny (model prog w) A (exec (nthS lawBody 10) (lawEnv L fa cd)) (After s h₀ L (J9 a b g x y f pr c (mail (b % 3) (b / 3 % 3) (b / 9 % 3) c x y) L news)) (fun _ _ => False) s := by
  refine withDef (P := fun b sc => wpAny (model prog w) A (exec (nthS b 10) (envOfC (Str.ofString "law") sc L fa cd)) _ _ s) (by rfl) ?_
  dsimp only [nthS]
  obtain ⟨⟨⟨⟨⟨oc, tg, rp, kr, tx, ty, nw1, hoc, rfl, ⟨lp, cvs, k, hm, hI, rfl, hlp⟩, hr⟩, tf, hf⟩, tp, hp⟩, ts, hs⟩, tt, ht⟩ := hJ
  obtain ⟨t0, t1, rfl⟩ := ints2 hI
  rw [map6 hm hr hf hp hs ht] at F
  refine For_turns F ?_
  repeat' walk1
  rename Fr h₀ L _ _ => F2
  rename News h₀ L _ _ => N2
  refine ktu_enum (vs := [.str ⟨#[c]⟩ ts, .str (dots x) tx, .str (dots y) ty]) S.hh F2 (drop2 N2) (.head _) rfl rfl rfl fun I hI' => ?_
  refine enum_ind (fun i m n => n = _ :: (rp, listOf #[.str (dots x) tx, .str (dots y) ty] kr) :: (lp, listOf (List.toArray [.int a t0, .int b t1]) k) :: (L + 1, oc) :: news ∧ m (Str.ofString "cells") = some (.ref lp) ∧ m (Str.ofString "rows") = some (.ref rp) ∧
    (∃ t, m (Str.ofString "figure") = some (.int f t)) ∧ (∃ t, m (Str.ofString "pair") = some (.bytes pr t)) ∧ (∃ t, m (Str.ofString "sign") = some (.str ⟨#[c]⟩ t)) ∧ (∃ t, m (Str.ofString "sent") = some (.str ⟨(preM b c x y i).toArray⟩ t))) ?_ ?_ _ 0 _ _ rfl (Nat.zero_le _) ⟨rfl, rfl, rfl, ⟨_, rfl⟩, ⟨_, rfl⟩, ⟨_, rfl⟩, ⟨_, rfl⟩⟩
  · rintro i v m₁ n₁ hv ⟨rfl, hm, hr, ⟨tf, hf⟩, ⟨tp, hp⟩, ⟨ts, hs⟩, ⟨tt, ht⟩⟩ T t h tk hT F3
    refine AllObj.cons fun o1 ho1 => AllObj.cons fun o2 ho2 => AllObj.nil fun N3 => ?_
    clear F F2 N N2
    rw [map6 hm hr hf hp hs ht] at F3
    obtain ⟨hi, tv, rfl⟩ : i < 3 ∧ ∃ t, v = .str ⟨(rowM c x y i).toArray⟩ t := by
      match i, hv with
      | 0, hv => exact ⟨by decide, _, (Option.some.inj hv).symm⟩
      | 1, hv => exact ⟨by decide, _, (Option.some.inj hv).symm⟩
      | 2, hv => exact ⟨by decide, _, (Option.some.inj hv).symm⟩
    have hi3 : i = 0 ∨ i = 1 ∨ i = 2 := by omega
    have e3 : (([(a : Int), (b : Int)].getD (Int.toNat 1) 0).fdiv (3 ^ (((i : Nat) : Int)).toNat)).fmod 3 = ((b / 3 ^ i % 3 : Nat) : Int) := by
      show ((b : Int).fdiv (3 ^ i)).fmod 3 = _
      rw [show (3 : Int) ^ i = ((3 ^ i : Nat) : Int) by simp, Int.fmod_eq_emod_of_nonneg _ (by decide), Int.fdiv_eq_ediv_of_nonneg _ (Int.natCast_nonneg _)]
      rfl
    have hsz1 : (⟨(rowM c x y i).toArray⟩ : Str).length + (⟨(endOf (b / 3 ^ i % 3)).toArray⟩ : Str).length ≤ sizeLine := by
      have := row_len c x y i
      have := end_len (b / 3 ^ i % 3)
      show (rowM c x y i).toArray.size + (endOf (b / 3 ^ i % 3)).toArray.size ≤ _
      rw [List.size_toArray, List.size_toArray, sizeLine_eq]; omega
    have hsz2 : (⟨(preM b c x y i).toArray⟩ : Str).length + (⟨(rowM c x y i ++ endOf (b / 3 ^ i % 3)).toArray⟩ : Str).length ≤ sizeLine := by
      have := row_len c x y i
      have := end_len (b / 3 ^ i % 3)
      have := pre_len b c x y i
      have : i * (x + y + 3) ≤ 2 * (x + y + 3) := Nat.mul_le_mul_right _ (by omega)
      show (preM b c x y i).toArray.size + (rowM c x y i ++ endOf (b / 3 ^ i % 3)).toArray.size ≤ _
      rw [List.size_toArray, List.size_toArray, List.length_append, sizeLine_eq]; omega
    rcases hi3 with rfl | rfl | rfl
    all_goals
      refine unpackN_ F3 N3 hT S.hh (by rfl) (by rfl) fun h4 F4 N4 => ?_
      dsimp only [List.cons_append, List.nil_append] at N4
      repeat' walk1
      rename Fr h₀ L _ _ => F5
      rename News h₀ L _ _ => N5
      refine kba_turn (value' := .Name (Str.ofString "text") ⟨0, 0, 0, 0⟩) (fun _ => rfl) ?_
      rw [e3]
      refine subscriptTail_builtin (T := "list") ⟨_, (News.get N5 (.head _)), rfl⟩ slot_list_getitem.lookup ?_
      obtain ⟨te, hte⟩ := end_at (b / 3 ^ _ % 3) (Nat.mod_lt _ (by decide))
      refine wpAny_getItem_list (News.isList N5 (.head _)) (by omega) (by omega) hte ?_
      walk1
      rw [str_app]
      repeat' walk1
      rename Fr h₀ L _ _ => F6
      rename News h₀ L _ _ => N6
      rw [str_app] at F6
      refine UnrEndW.intro F6 N6 _ ⟨.tail _ (.head _), .tail _ (.tail _ (.head _)), trivial⟩ (subL_of fun p hp => .tail _ (.tail _ (.tail _ hp))) (offW_of fun p hp q hq => ?_) ⟨⟨.head _, trivial⟩, rfl, rfl, rfl, ⟨_, rfl⟩, ⟨_, rfl⟩, ⟨_, rfl⟩, ⟨_, rfl⟩⟩
      have hlt := hI' p hp
      rcases List.mem_cons.mp hq with rfl | hq
      · exact Nat.ne_of_lt (Nat.lt_succ_of_lt hlt)
      · rw [List.mem_singleton.mp hq]; exact Nat.ne_of_lt hlt
  · rintro m₁ n₁ h tk ⟨rfl, hm, hr, hf, hp, hs, ⟨tt, ht⟩⟩ F3 N3
    exact After.intro F3 (fun p hp => N3 p (.tail _ hp)) ⟨⟨⟨⟨⟨oc, tg, rp, kr, tx, ty, _, hoc, rfl, ⟨lp, _, k, hm, hI, rfl, hlp⟩, hr⟩, hf⟩, hp⟩, hs⟩, tt, by rw [← preM_mail]; exact ht⟩
end
end Mine

end

section
open PySem PySem.W PyProof.Rows PySem.Calls
set_option maxRecDepth 100000
namespace Mine
section
variable {prog : Program} {w : World} {A : Around} {E : Value → Shared → Prop} {s : Shared} {env : Env} {h₀ : Heap} {x : Str} {body : List Stmt} {Q : Flow → Shared → Prop}
theorem unr_mono {L : Addr} {s₁ : Shared} {I : Addr} {it : Obj} {r r' : (Str → Option Value) → List (Addr × Obj) → Prop} (f : ∀ m n, r m n → r' m n) : ∀ {fl : Flow} {s₂ : Shared}, UnrPost h₀ L s₁ I it r Q fl s₂ → UnrPost h₀ L s₁ I it r' Q fl s₂
  | .ret _, _, h => h
  | .brk, _, h => h
  | .next, _, ⟨h', tk, m', n', e, F, N, o, x⟩ => ⟨h', tk, m', n', e, F, N, o, f _ _ x⟩
  | .cont, _, ⟨h', tk, m', n', e, F, N, o, x⟩ => ⟨h', tk, m', n', e, F, N, o, f _ _ x⟩
theorem range_ind {I : Addr} {a : Int} {n : Nat} (J : Nat → (Str → Option Value) → List (Addr × Obj) → Prop)
    (step : ∀ i m₁ n₁, i < n → J i m₁ n₁ → ∀ t h tk, Fr h₀ env.locals h (fun y => if y = x then some (.int (a + (i : Int)) t) else m₁ y) →
      News h₀ env.locals h ((I, itR (a + ((i + 1 : Nat) : Int)) ((n : Int) - ((i + 1 : Nat) : Int))) :: n₁) →
      wpAny (model prog w) A (execs body env) (UnrPost h₀ env.locals { s with heap := h, toks := tk } I (itR (a + ((i + 1 : Nat) : Int)) ((n : Int) - ((i + 1 : Nat) : Int))) (J (i + 1)) Q) E { s with heap := h, toks := tk })
    (fin : ∀ m₁ n₁ h tk, J n m₁ n₁ → Fr h₀ env.locals h m₁ → News h₀ env.locals h n₁ → Q .next { s with heap := h, toks := tk }) :
    ∀ (k i : Nat) (m₁ : Str → Option Value) (n₁ : List (Addr × Obj)), i + k = n → J i m₁ n₁ → RangeRest prog w A E h₀ env x body Q s I a n k i m₁ n₁
  | 0, i, m₁, n₁, e, hJ => fun h tk F N => fin m₁ n₁ h tk (by rw [← e]; exact hJ) F N
  | k + 1, i, m₁, n₁, e, hJ => fun t h tk F N =>
    wpAny_mono (step i m₁ n₁ (by omega) hJ t h tk F N) (fun fl s₂ h₂ => unr_mono (fun m' n' hh => range_ind J step fin k (i + 1) m' n' (by omega) hh) h₂) fun _ _ e => e
end
end Mine

end

section
open PySem PySem.W PyProof.Rows
set_option maxRecDepth 100000
namespace Mine
open PySem.W.KBw (bInts)
noncomputable def pairOf (f : Nat) (o : Nat) : Array UInt8 := if f = 62 then #[46, o.toUInt8] else #[o.toUInt8, 46]
noncomputable def plusOf (f : Nat) : Nat := if f = 62 then 43 else 47
theorem tbl_facts : ∀ (i : Fin 13) (k : Fin 2), (tblOf (pairOf (62 + k.val) (33 + i.val)) altP)[46]?.getD 46 = (plusOf (62 + k.val)).toUInt8 ∧ (tblOf (pairOf (62 + k.val) (33 + i.val)) altP)[65]?.getD 65 = 65 := by decide +kernel
theorem pair_size (f o : Nat) : (pairOf f o).size = 2 := by unfold pairOf; split <;> rfl
theorem bInts_map (l : List Nat) (tb : Array UInt8) : bInts (trB tb ((Str.mk l.toArray).cps.map (·.toUInt8))) = l.map fun c => ((tb.getD (c.toUInt8).toNat c.toUInt8).toNat : Int) := by
  unfold bInts trB
  simp [List.map_map, Function.comp_def]
theorem heard_dots {f o : Nat} (hf : f = 62 ∨ f = 63) (ho : 33 ≤ o ∧ o ≤ 45) (n : Nat) :
    bInts (heardB (pairOf f o) (padA (dots n))) = List.replicate ((-(n : Int)) % 4).toNat 65 ++ List.replicate n (plusOf f : Int) := by
  obtain ⟨k, rfl⟩ : ∃ k : Fin 2, f = 62 + k.val := by rcases hf with rfl | rfl; exact ⟨0, rfl⟩; exact ⟨1, rfl⟩
  obtain ⟨i, rfl⟩ : ∃ i : Fin 13, o = 33 + i.val := ⟨⟨o - 33, by omega⟩, by show o = 33 + (o - 33); omega⟩
  obtain ⟨t1, t2⟩ := tbl_facts i k
  have hs : (dots n).cps.size = n := dots_length n
  unfold heardB padA
  rw [bInts_map, hs]
  have e : (dots n).cps.toList = List.replicate n 46 := rfl
  rw [e, List.map_append, List.map_replicate, List.map_replicate]
  have g1 : ((tblOf (pairOf (62 + k.val) (33 + i.val)) altP).getD (Nat.toUInt8 65).toNat (Nat.toUInt8 65)) = 65 := by rw [Array.getD_eq_getD_getElem?]; exact t2
  have g2 : ((tblOf (pairOf (62 + k.val) (33 + i.val)) altP).getD (Nat.toUInt8 46).toNat (Nat.toUInt8 46)) = (plusOf (62 + k.val)).toUInt8 := by rw [Array.getD_eq_getD_getElem?]; exact t1
  rw [g1, g2]
  congr 2
  unfold plusOf; split <;> rfl
theorem num64_append (n : Int) (a b : List Int) : num64 n (a ++ b) = num64 (num64 n a) b := List.foldl_append ..
theorem num64_zero (k : Nat) : num64 0 (List.replicate k 0) = 0 := by
  induction k with
  | zero => rfl
  | succ k ih => rw [List.replicate_succ]; exact ih
theorem num64_rep (f n : Nat) : num64 0 (List.replicate n (f : Int)) = ((f * rep n : Nat) : Int) := by
  induction n with
  | zero => rfl
  | succ n ih =>
    rw [List.replicate_succ', num64_append, ih]
    show ((f * rep n : Nat) : Int) * 64 + (f : Int) = ((f * (64 * rep n + 1) : Nat) : Int)
    rw [Nat.mul_add, Nat.mul_one, Nat.mul_left_comm]; omega
theorem figs_rep (k : Nat) (c v : Int) (h : b64v c = v) (hv : v < 64) : figs (List.replicate k c) = List.replicate k v := by
  unfold figs
  rw [List.map_replicate, h]
  induction k with
  | zero => rfl
  | succ k ih => rw [List.replicate_succ, List.filter_cons_of_pos (by simpa using hv), ih]
theorem num_dots {f o : Nat} (hf : f = 62 ∨ f = 63) (ho : 33 ≤ o ∧ o ≤ 45) (n : Nat) :
    (∀ k ∈ bInts (heardB (pairOf f o) (padA (dots n))), k ≠ 61) ∧ ∃ os, (bInts (heardB (pairOf f o) (padA (dots n)))).foldl g64 ([], 0, 0) = (os, 0, 0) ∧ octs os = ((f * rep n : Nat) : Int) := by
  rw [heard_dots hf ho]
  have hp : b64v (plusOf f : Int) = (f : Int) := by rcases hf with rfl | rfl <;> decide
  have hfig : figs (List.replicate ((-(n : Int)) % 4).toNat 65 ++ List.replicate n (plusOf f : Int)) = List.replicate ((-(n : Int)) % 4).toNat 0 ++ List.replicate n (f : Int) := by
    have e : ∀ a b : List Int, figs (a ++ b) = figs a ++ figs b := fun a b => by unfold figs; rw [List.map_append, List.filter_append]
    rw [e, figs_rep _ 65 0 (by decide) (by decide), figs_rep _ _ (f : Int) hp (by rcases hf with rfl | rfl <;> decide)]
  refine ⟨?_, ?_⟩
  · intro k hk
    rcases List.mem_append.mp hk with h | h
    · rw [(List.mem_replicate.mp h).2]; decide
    · rw [(List.mem_replicate.mp h).2]; rcases hf with rfl | rfl <;> decide
  · obtain ⟨os, h1, h2⟩ := whole64 (l := List.replicate ((-(n : Int)) % 4).toNat 65 ++ List.replicate n (plusOf f : Int)) (by rw [hfig]; simp; omega)
    refine ⟨os, h1, ?_⟩
    rw [h2, hfig, num64_append, num64_zero, num64_rep]
theorem gcd_figs (f a b : Nat) : 63 * ((Nat.gcd (f * rep a) (f * rep b) : Nat) : Int) = (f : Int) * (64 ^ (Nat.gcd a b) - 1) := by
  rw [Nat.gcd_mul_left, gcd_rep]
  have h := rep_pow (Nat.gcd a b)
  have h2 : (64 : Int) ^ (Nat.gcd a b) = ((63 * rep (Nat.gcd a b) + 1 : Nat) : Int) := by rw [h]; simp
  rw [h2]
  rw [show (((63 * rep (Nat.gcd a b) + 1 : Nat) : Int) - 1) = 63 * ((rep (Nat.gcd a b) : Nat) : Int) by omega]
  rw [Int.natCast_mul, Int.mul_left_comm]
end Mine

end

section
open PySem PySem.W PyProof.Rows PySem.Calls
set_option maxRecDepth 100000
namespace Mine
section
variable {prog : Program} {w : World} {A : Around} {E : Value → Shared → Prop} {s : Shared} {l : Addr} {xs : Array Value}
theorem iter_list0 {Q : Value → Shared → Prop} (hl : s.heap.IsList l xs)
    (h : ∀ s₂ : Shared, s₂ = { s with heap := s.heap.push { cls := .type "list_iterator", data := .fields #[.ref l, .int 0 0] } } →
      (s₂.heap.IsListIter s.heap.objs.size l 0 ∧ s₂.heap.IsList l xs) → (∀ b ∈ [s.heap.objs.size, l], b < s₂.heap.objs.size) → l ≠ s.heap.objs.size → Q (.ref s.heap.objs.size) s₂) :
    wpAny (model prog w) A (pyIter (.ref l)) Q E s := by
  have hlt : l < s.heap.objs.size := by obtain ⟨_, e, _⟩ := hl; exact Heap.lt_size e
  refine wpAny_pyIter_list hl (h _ rfl ⟨⟨_, Heap.get?_push_size _ rfl, rfl, rfl⟩, hl.push _⟩ (fun b hb => ?_) (Nat.ne_of_lt hlt))
  show b < (s.heap.push _).objs.size
  rw [Heap.size_push]
  rcases List.mem_cons.mp hb with rfl | hb
  · exact Nat.lt_succ_self _
  · rcases List.mem_cons.mp hb with rfl | hb
    · exact Nat.lt_succ_of_lt hlt
    · cases hb
noncomputable def dotsAt (x y : Nat) (i : Nat) : Str := if i = 0 then dots x else dots y
theorem at2 {x y : Nat} {t u : Tok} {i : Nat} {v : Value} (h : (#[Value.str (dots x) t, .str (dots y) u] : Array Value)[i]? = some v) : ∃ t, v = .str (dotsAt x y i) t := by
  match i with
  | 0 => exact ⟨t, (Option.some.inj h).symm⟩
  | 1 => exact ⟨u, (Option.some.inj h).symm⟩
  | _ + 2 => simp at h
theorem rep_lt (x y : Nat) : (List.replicate x 46 < List.replicate y 46) ↔ x < y := by
  induction x generalizing y with
  | zero => cases y with
    | zero => simp
    | succ y => simp [List.replicate_succ]
  | succ x ih => cases y with
    | zero => simp [List.replicate_succ]
    | succ y => rw [List.replicate_succ, List.replicate_succ, List.cons_lt_cons_iff, ih y]; simp
theorem dots_lt (x y : Nat) : decide ((dots x).cps.toList < (dots y).cps.toList) = decide (x < y) := by
  rw [decide_eq_decide]
  exact rep_lt x y
theorem max_dots {x y : Nat} {t u : Tok} {Q : Value → Shared → Prop} (hh : A.handled = none) (hl : s.heap.IsList l #[.str (dots x) t, .str (dots y) u])
    (h : ∀ h' tk t', (∀ b o, s.heap.get? b = some o → h'.get? b = some o) → Q (.str (dots (max x y)) t') { s with heap := h', toks := tk }) :
    wpAny (model prog w) A (call (.builtin "max") [.ref l]) Q E s := by
  refine call_max_walk (iter_list0 hl fun s₂ e st hfp hlI => ?_)
  subst e
  refine ⟨_, _, _, _, _, _, fun i j => decide ((dotsAt x y j).cps.toList < (dotsAt x y i).cps.toList), rfl, Walks.list (A := A.in1) hh _ l hlI _, st, hfp, (by decide : 0 < 2), ?_, fun v h' tk hP hk => ?_⟩
  · intro i j vi vj s₁ Q₁ E₁ hi hj hq
    obtain ⟨t1, rfl⟩ := at2 hi
    obtain ⟨t2, rfl⟩ := at2 hj
    exact richCompare_gives (op := .Gt) (typeIs_str s₁ _ t1) (typeIs_str s₁ _ t2) F.slot_str_gt F.entry_str_gt (F.args_str_gt_2 _ _) (gives_str_gt _ _ t1 t2) (fun x => nomatch x) hq
  · obtain ⟨t', rfl⟩ := at2 hP
    have e : dotsAt x y (argBest (fun i j => decide ((dotsAt x y j).cps.toList < (dotsAt x y i).cps.toList)) (2 - 1)) = dots (max x y) := by
      show dotsAt x y (if decide ((dots x).cps.toList < (dots y).cps.toList) = true then 1 else 0) = _
      rw [dots_lt]
      by_cases c : x < y
      · rw [if_pos (decide_eq_true c), Nat.max_eq_right (Nat.le_of_lt c)]; rfl
      · rw [if_neg (by rw [decide_eq_true_eq]; exact c), Nat.max_eq_left (by omega)]; rfl
    rw [← e] at h
    exact h h' tk t' (old_kept hk)
theorem min_dots {x y : Nat} {t u : Tok} {Q : Value → Shared → Prop} (hh : A.handled = none) (hl : s.heap.IsList l #[.str (dots x) t, .str (dots y) u])
    (h : ∀ h' tk t', (∀ b o, s.heap.get? b = some o → h'.get? b = some o) → Q (.str (dots (min x y)) t') { s with heap := h', toks := tk }) :
    wpAny (model prog w) A (call (.builtin "min") [.ref l]) Q E s := by
  refine call_min_walk (iter_list0 hl fun s₂ e st hfp hlI => ?_)
  subst e
  refine ⟨_, _, _, _, _, _, fun i j => decide ((dotsAt x y i).cps.toList < (dotsAt x y j).cps.toList), rfl, Walks.list (A := A.in1) hh _ l hlI _, st, hfp, (by decide : 0 < 2), ?_, fun v h' tk hP hk => ?_⟩
  · intro i j vi vj s₁ Q₁ E₁ hi hj hq
    obtain ⟨t1, rfl⟩ := at2 hi
    obtain ⟨t2, rfl⟩ := at2 hj
    exact richCompare_gives (op := .Lt) (typeIs_str s₁ _ t1) (typeIs_str s₁ _ t2) F.slot_str_lt F.entry_str_lt (F.args_str_lt_2 _ _) (gives_str_lt _ _ t1 t2) (fun x => nomatch x) hq
  · obtain ⟨t', rfl⟩ := at2 hP
    have e : dotsAt x y (argBest (fun i j => decide ((dotsAt x y i).cps.toList < (dotsAt x y j).cps.toList)) (2 - 1)) = dots (min x y) := by
      show dotsAt x y (if decide ((dots y).cps.toList < (dots x).cps.toList) = true then 1 else 0) = _
      rw [dots_lt]
      by_cases c : y < x
      · rw [if_pos (decide_eq_true c), Nat.min_eq_right (Nat.le_of_lt c)]; rfl
      · rw [if_neg (by rw [decide_eq_true_eq]; exact c), Nat.min_eq_left (by omega)]; rfl
    rw [← e] at h
    exact h h' tk t' (old_kept hk)
theorem max_dotsN {x y : Nat} {t u : Tok} {Q : Value → Shared → Prop} {h₀ : Heap} {L : Addr} {m : Str → Option Value} {news : List (Addr × Obj)} (hh : A.handled = none) (F : Fr h₀ L s.heap m) (N : News h₀ L s.heap news) (hl : s.heap.IsList l #[.str (dots x) t, .str (dots y) u])
    (h : ∀ h' tk t', Fr h₀ L h' m → News h₀ L h' news → Q (.str (dots (max x y)) t') { s with heap := h', toks := tk }) :
    wpAny (model prog w) A (call (.builtin "max") [.ref l]) Q E s := max_dots hh hl fun h' tk t' hk => h h' tk t' (F.keeps hk) (N.grown hk)
theorem min_dotsN {x y : Nat} {t u : Tok} {Q : Value → Shared → Prop} {h₀ : Heap} {L : Addr} {m : Str → Option Value} {news : List (Addr × Obj)} (hh : A.handled = none) (F : Fr h₀ L s.heap m) (N : News h₀ L s.heap news) (hl : s.heap.IsList l #[.str (dots x) t, .str (dots y) u])
    (h : ∀ h' tk t', Fr h₀ L h' m → News h₀ L h' news → Q (.str (dots (min x y)) t') { s with heap := h', toks := tk }) :
    wpAny (model prog w) A (call (.builtin "min") [.ref l]) Q E s := min_dots hh hl fun h' tk t' hk => h h' tk t' (F.keeps hk) (N.grown hk)
end
end Mine

end

section
set_option maxRecDepth 100000
namespace Mine
noncomputable def gcds (x y i : Nat) : List Int := (List.range i).map fun t => ((Nat.gcd (x + (t + 1)) (y + (t + 1)) : Nat) : Int)
noncomputable def steps (g i : Nat) : List Int := (List.range i).map fun t => ((Nat.gcd g (t + 1) : Nat) : Int)
theorem gcds_comm (x y i : Nat) : gcds x y i = gcds y x i := by
  unfold gcds
  refine List.map_congr_left fun t _ => ?_
  rw [Nat.gcd_comm]
theorem perm_fin : ∀ (g : Fin 8) (z : Fin 12), (gcds (z.val + 1) (z.val + 1 + (g.val + 1)) (g.val + 1)).isPerm (steps (g.val + 1) (g.val + 1)) = true := by decide +kernel
theorem perm_gcds {g z : Nat} (hg : 1 ≤ g ∧ g ≤ 8) (hz : 1 ≤ z ∧ z ≤ 12) : (gcds z (z + g) g).Perm (steps g g) := by
  have h := perm_fin ⟨g - 1, by omega⟩ ⟨z - 1, by omega⟩
  have e1 : z - 1 + 1 = z := by omega
  have e2 : g - 1 + 1 = g := by omega
  simp only [e1, e2] at h
  exact List.isPerm_iff.mp h
theorem sorted_unique {a b : List Int} (p : a.Perm b) (ha : a.Pairwise (· ≤ ·)) (hb : b.Pairwise (· ≤ ·)) : a = b :=
  p.eq_of_pairwise (fun _ _ _ _ h1 h2 => Int.le_antisymm h1 h2) ha hb
end Mine

end

section
open PySem PySem.W PyProof.Rows PySem.Calls
set_option maxRecDepth 100000
set_option maxHeartbeats 1000000
namespace Mine
noncomputable def J11 (g : Nat) (f : Int) (pr : Array UInt8) (l : List Nat) (zs : List Int) (L : Addr) (news : List (Addr × Obj)) (m : Str → Option Value) (nw : List (Addr × Obj)) : Prop :=
  ∃ oc t zp zvs k, oc.data = .cell (some (.int g t)) ∧ nw = (zp, listOf zvs.toArray k) :: (L + 1, oc) :: news ∧ IntsAre zvs zs ∧ m (Str.ofString "sizes") = some (.ref zp) ∧ (∃ t, m (Str.ofString "figure") = some (.int f t)) ∧ (∃ t, m (Str.ofString "pair") = some (.bytes pr t)) ∧
    (∃ t, m (Str.ofString "sent") = some (.str ⟨l.toArray⟩ t)) ∧ L + 1 < zp ∧ ∀ p ∈ news, p.1 < zp
theorem n_range (P : Params) : nsIn (K P) mainGlobals (Str.ofString "range") = some none := by kernel_rfl
theorem n_lenL (P : Params) : nsIn (K P) mainGlobals (Str.ofString "len") = some none := by kernel_rfl
theorem n_max (P : Params) : nsIn (K P) mainGlobals (Str.ofString "max") = some none := by kernel_rfl
theorem n_min (P : Params) : nsIn (K P) mainGlobals (Str.ofString "min") = some none := by kernel_rfl
theorem g_quotedata (P : Params) : nsIn (K P) mainGlobals (Str.ofString "quotedata") = some (some (.ref 151)) := by kernel_rfl
theorem g_number (P : Params) : nsIn (K P) mainGlobals (Str.ofString "_law_number") = some (some (.ref 158)) := by kernel_rfl
theorem g_measure (P : Params) : nsIn (K P) mainGlobals (Str.ofString "_law_measure") = some (some (.ref 165)) := by kernel_rfl
theorem g_common (P : Params) : nsIn (K P) mainGlobals (Str.ofString "_law_common") = some (some (.ref 172)) := by kernel_rfl
local macro_rules | `(tactic| walk_at "eval Name") => `(tactic| first
  | (refine nameX_L (by assumption) (by rfl) ?_)
  | (refine nameX_C (by assumption) (by rfl) (.tail _ (.head _)) (by assumption) ?_)
  | ((with_reducible show wpAny _ _ (eval (PySem.Expr.Name (Str.ofString "quotedata") _) _) _ _ _); refine Sx.globC (by assumption) (by assumption) (g_quotedata _) ?_)
  | ((with_reducible show wpAny _ _ (eval (PySem.Expr.Name (Str.ofString "_law_number") _) _) _ _ _); refine Sx.globC (by assumption) (by assumption) (g_number _) ?_)
  | ((with_reducible show wpAny _ _ (eval (PySem.Expr.Name (Str.ofString "_law_measure") _) _) _ _ _); refine Sx.globC (by assumption) (by assumption) (g_measure _) ?_)
  | ((with_reducible show wpAny _ _ (eval (PySem.Expr.Name (Str.ofString "_law_common") _) _) _ _ _); refine Sx.globC (by assumption) (by assumption) (g_common _) ?_)
  | ((with_reducible show wpAny _ _ (eval (PySem.Expr.Name (Str.ofString "range") _) _) _ _ _); refine Sx.bltC (by assumption) (by assumption) (n_range _) (by boot_fast) (by decide) ?_)
  | ((with_reducible show wpAny _ _ (eval (PySem.Expr.Name (Str.ofString "max") _) _) _ _ _); refine Sx.bltC (by assumption) (by assumption) (n_max _) (by boot_fast) (by decide) ?_)
  | ((with_reducible show wpAny _ _ (eval (PySem.Expr.Name (Str.ofString "min") _) _) _ _ _); refine Sx.bltC (by assumption) (by assumption) (n_min _) (by boot_fast) (by decide) ?_)
  | ((with_reducible show wpAny _ _ (eval (PySem.Expr.Name (Str.ofString "len") _) _) _ _ _); refine Sx.bltC (by assumption) (by assumption) (n_lenL _) (by boot_fast) (by decide) ?_))
local macro_rules | `(tactic| walk_at "storeName") => `(tactic| first
  | (refine storeX_L (by assumption) (by assumption) ?_; intro _ _ _))
local macro_rules | `(tactic| walk_at "callWith ref") => `(tactic| refine Sx.fn (by assumption) (by with_unfolding_all rfl) (by with_unfolding_all rfl) ?_)
local macro_rules | `(tactic| walk_at "call builtin:str.split") => `(tactic| (refine splitN1A (hsz := by assumption) (by assumption) (by assumption) (by rfl) ?_; intro _ _ _ _ _ _ _ _ _))
local macro_rules | `(tactic| walk_at "subscriptTail Name Constant ref int") => `(tactic| (refine subscriptTail_builtin (T := "list") ⟨_, (News.get (by assumption) (.head _)), rfl⟩ slot_list_getitem.lookup ?_; refine wpAny_getItem_list (News.isList (by assumption) (.head _)) (by omega) (by omega) (by rfl) ?_))
local macro_rules | `(tactic| walk_at "call builtin:max") => `(tactic| (refine max_dotsN (by assumption) (by assumption) (by assumption) (News.isList (by assumption) (.head _)) ?_; intro _ _ _ _ _))
local macro_rules | `(tactic| walk_at "call builtin:min") => `(tactic| (refine min_dotsN (by assumption) (by assumption) (by assumption) (News.isList (by assumption) (.head _)) ?_; intro _ _ _ _ _))
local macro_rules | `(tactic| walk_at "Held") => `(tactic| refine Held.intro (by assumption) ?_)
section
variable {prog : Program} {w : World} {A : Around} {E : Value → Shared → Prop} {Q : Flow → Shared → Prop} {s : Shared} {h₀ : Heap} {L : Addr} {m : Str → Option Value} {news nw : List (Addr × Obj)} {fa : Addr} {cd : Value} {oc : Obj} {a b g x y z c : Nat} {f o : Int} {pr : Array UInt8} {l : List Nat}
theorem st11 (S : Sx w A h₀ L 20) (F : Fr h₀ L s.heap m) (N : News h₀ L s.heap nw) (hJ : J9 a b g x y f pr c l L news m nw) :
    wpAny (model prog w) A (exec (nthS lawBody 11) (lawEnv L fa cd)) (After s h₀ L (J11 g f pr l [] L news)) (fun _ _ => False) s := by
  refine withDef (P := fun b sc => wpAny (model prog w) A (exec (nthS b 11) (envOfC (Str.ofString "law") sc L fa cd)) _ _ s) (by rfl) ?_
  dsimp only [nthS]
  obtain ⟨⟨⟨⟨⟨oc, tg, rp, kr, tx, ty, nw1, hoc, rfl, ⟨lp, cvs, k, hm, hI, rfl, hlp⟩, hr⟩, tf, hf⟩, tp, hp⟩, ts, hs⟩, tt, ht⟩ := hJ
  rw [map3 hf hp ht] at F
  have hlt := Heap.lt_size (N (L + 1, oc) (.tail _ (.tail _ (.head _)))).1
  have hlt2 : ∀ p ∈ news, p.1 < s.heap.objs.size := fun p hp => Heap.lt_size (N p (.tail _ (.tail _ (.tail _ hp)))).1
  repeat' walk1
  rename Fr h₀ L _ _ => FF
  rename News h₀ L _ _ => NN
  refine After.intro FF (nw := _ :: (L + 1, oc) :: news) (fun p hp => ?_) ⟨oc, tg, _, [], 0, hoc, rfl, .nil, rfl, ⟨_, rfl⟩, ⟨_, rfl⟩, ⟨_, rfl⟩, hlt, hlt2⟩
  rcases List.mem_cons.mp hp with rfl | hp
  · exact NN _ (.head _)
  · exact NN p (.tail _ (.tail _ (.tail _ hp)))
theorem split4 {l : List (Str × Tok)} {p q r u : Str} (h : l.map (·.1) = [p, q, r, u]) : ∃ t0 t1 t2 t3, l = [(p, t0), (q, t1), (r, t2), (u, t3)] := by
  match l, h with
  | [(a, t0), (b, t1), (c, t2), (d, t3)], h =>
    simp only [List.map_cons, List.map_nil, List.cons.injEq, and_true] at h
    obtain ⟨rfl, rfl, rfl, rfl⟩ := h
    exact ⟨t0, t1, t2, t3, rfl⟩
theorem pick13 (p q r u : Value) : slicePick #[p, q, r, u] (some 1) (some 3) none = #[q, r] := by
  simp [slicePick, sliceBounds, sliceRange]
  rfl
theorem dots_ascii (n : Nat) : ∀ c ∈ (dots n).cps, c < 128 := by
  intro c hc
  have : c ∈ List.replicate n 46 := by simpa [dots] using hc
  rw [(List.mem_replicate.mp this).2]; decide
theorem gcd_max_min (a b : Nat) : Nat.gcd (max a b) (min a b) = Nat.gcd a b := by
  rcases Nat.le_total a b with h | h
  · rw [Nat.max_eq_right h, Nat.min_eq_left h, Nat.gcd_comm]
  · rw [Nat.max_eq_left h, Nat.min_eq_right h]
noncomputable def sentM (e0 e1 e2 c x y i : Nat) : List Nat := if i = 0 then mail e0 e1 e2 c x y else mail 2 2 2 c (x + i) (y + i)
theorem gcd_gcds (x y i : Nat) : gcds x y (i + 1) = gcds x y i ++ [((Nat.gcd (x + (i + 1)) (y + (i + 1)) : Nat) : Int)] := by
  unfold gcds; rw [List.range_succ, List.map_append]; rfl
theorem sent_quoted {e0 e1 e2 c x y : Nat} (h1 : c ≠ 13) (h2 : c ≠ 10) (h3 : c ≠ 46) (hx : 0 < x) (hy : 0 < y) (i : Nat) : quoted (sentM e0 e1 e2 c x y i) = mail 2 2 2 c (x + (i + 1)) (y + (i + 1)) := by
  unfold sentM
  split
  · rename_i h; subst h; exact quoted_mail h1 h2 h3 hx hy
  · exact quoted_mail h1 h2 h3 (by omega) (by omega)
theorem st12 {e0 e1 e2 fn on : Nat} (S : Sx w A h₀ L 20) (F : Fr h₀ L s.heap m) (N : News h₀ L s.heap nw) (hJ : J11 g (fn : Int) (pairOf fn on) (sentM e0 e1 e2 c x y 0) [] L news m nw) (hne : ∀ p ∈ news, p.1 ≠ L + 1)
    (h1 : c ≠ 13) (h2 : c ≠ 10) (h3 : c ≠ 46) (hx : 0 < x) (hy : 0 < y) (hx2 : x ≤ 1000) (hy2 : y ≤ 1000) (hg : g ≤ 8) (hf : fn = 62 ∨ fn = 63) (ho : 33 ≤ on ∧ on ≤ 45) :
    wpAny (model prog w) A (exec (nthS lawBody 12) (lawEnv L fa cd)) (After s h₀ L (J11 g (fn : Int) (pairOf fn on) (sentM e0 e1 e2 c x y g) (gcds x y g) L news)) (fun _ _ => False) s := by
  refine withDef (P := fun b sc => wpAny (model prog w) A (exec (nthS b 12) (envOfC (Str.ofString "law") sc L fa cd)) _ _ s) (by rfl) ?_
  dsimp only [nthS]
  obtain ⟨oc, tg, zp, zvs, k, hoc, rfl, hzs, hz, ⟨tf, hf1⟩, ⟨tp, hp⟩, ⟨tt, ht⟩, hlz, hnz⟩ := hJ
  rw [map4 hz hf1 hp ht] at F
  refine For_invV h₀ (by rfl) (by rfl) ?_
  repeat' walk1
  rename Fr h₀ L _ _ => F2
  rename News h₀ L _ _ => N2
  rename IsRange _ _ _ _ _ _ _ _ => hR
  have hsm : Builtin.Range.small 0 (g : Int) 1 = true ∧ Builtin.Range.rangeSize 0 (g : Int) 1 = (g : Int) := by
    have h9 : ∀ g : Fin 9, Builtin.Range.small 0 ((g.val : Nat) : Int) 1 = true ∧ Builtin.Range.rangeSize 0 ((g.val : Nat) : Int) 1 = ((g.val : Nat) : Int) := by decide +kernel
    exact h9 ⟨g, by omega⟩
  refine iter_rangeUnr S.hh hR hsm.1 hsm.2 F2 N2 fun I hI => ?_
  clear hR F2 N2
  refine range_ind (fun i m n => ∃ zvs k, n = (zp, listOf zvs.toArray k) :: (L + 1, oc) :: news ∧ IntsAre zvs (gcds x y i) ∧ m (Str.ofString "sizes") = some (.ref zp) ∧ (∃ t, m (Str.ofString "figure") = some (.int (fn : Int) t)) ∧ (∃ t, m (Str.ofString "pair") = some (.bytes (pairOf fn on) t)) ∧
    (∃ t, m (Str.ofString "sent") = some (.str ⟨(sentM e0 e1 e2 c x y i).toArray⟩ t))) ?_ ?_ g 0 _ _ (Nat.zero_add _) ⟨zvs, k, rfl, hzs, rfl, ⟨_, rfl⟩, ⟨_, rfl⟩, ⟨_, rfl⟩⟩
  · rintro i m₁ n₁ hi ⟨zvs, k, rfl, hzs, hz, ⟨tf, hf1⟩, ⟨tp, hp⟩, ⟨tt, ht⟩⟩ t hq3 tk3 F3 N3
    rw [map4 hz hf1 hp ht] at F3
    have hsl : (sentM e0 e1 e2 c x y i).length ≤ 3000 := by
      unfold sentM; split
      · have := mail_len e0 e1 e2 c x y; omega
      · have := mail_len 2 2 2 c (x + i) (y + i); omega
    repeat' walk1
    rename Fr h₀ L _ _ => F4
    rename News h₀ L _ _ => N4
    refine c_quotedata (Sx.less S (by omega)) F4 N4 (by show (sentM e0 e1 e2 c x y i).toArray.size ≤ _; rw [List.size_toArray]; omega) fun t5 h5 k5 F5 N5 => ?_
    rw [show (⟨(sentM e0 e1 e2 c x y i).toArray⟩ : Str).cps.toList = sentM e0 e1 e2 c x y i by simp, sent_quoted h1 h2 h3 hx hy]
    have ha : ∃ a, a = x + (i + 1) ∧ 0 < a ∧ a ≤ 1010 := ⟨_, rfl, by omega, by omega⟩
    have hb : ∃ b, b = y + (i + 1) ∧ 0 < b ∧ b ≤ 1010 := ⟨_, rfl, by omega, by omega⟩
    obtain ⟨a, hae, ha0, ha1⟩ := ha
    obtain ⟨b, hbe, hb0, hb1⟩ := hb
    rw [← hae, ← hbe]
    have hml : (⟨(mail 2 2 2 c a b).toArray⟩ : Str).length + 2 ≤ sizeLine := by
      have := mail_len 2 2 2 c a b
      show (mail 2 2 2 c a b).toArray.size + 2 ≤ _
      rw [List.size_toArray, sizeLine_eq]; omega
    clear F4 N4
    repeat' walk1
    rename Fr h₀ L _ _ => F6
    rename News h₀ L _ _ => N6
    rename List.map _ _ = Txt.split _ _ => hspl
    rename List (Str × Tok) => ll
    rw [show Str.ofString "\r\n" = ⟨#[13, 10]⟩ by decide, mail_split h1] at hspl
    obtain ⟨u0, u1, u2, u3, rfl⟩ := split4 hspl
    refine kba_turn (value' := .Name (Str.ofString "text") ⟨0, 0, 0, 0⟩) (fun _ => rfl) ?_
    refine kmk_slice (lo := some 1) (hi := some 3) (s := ⟨_, _, _, _, _⟩) F6 N6 (News.isList N6 (.head _)) (IsPart.int _ _) (IsPart.int _ _) (fun D h7 F7 N7 hD => ?_) (by with_unfolding_all rfl) (by intro _; with_unfolding_all rfl) (by show 4 ≤ _; rw [sizeLine_eq]; omega)
    have hp13 : slicePick (strValues [((⟨#[c]⟩ : Str), u0), (dots a, u1), (dots b, u2), ((⟨#[]⟩ : Str), u3)]).toArray (some 1) (some 3) none = #[.str (dots a) u1, .str (dots b) u2] := pick13 _ _ _ _
    rw [hp13] at N7
    clear hp13
    clear F6 N6 hspl
    repeat' walk1
    rename Fr h₀ L _ _ => F8
    rename News h₀ L _ _ => N8
    obtain ⟨ha61, os1, hos1, hoc1⟩ := num_dots hf ho a
    obtain ⟨hb61, os2, hos2, hoc2⟩ := num_dots hf ho b
    refine c_number (Sx.less S (by omega)) F8 N8 (by show (List.replicate a 46).toArray.size ≤ _; rw [List.size_toArray, List.length_replicate]; omega) (dots_ascii a) (pair_size fn on) ha61 hos1 fun t9 h9 k9 F9 N9 => ?_
    clear F8 N8
    repeat' walk1
    rename Fr h₀ L _ _ => F10
    rename News h₀ L _ _ => N10
    refine c_number (Sx.less S (by omega)) F10 N10 (by show (List.replicate b 46).toArray.size ≤ _; rw [List.size_toArray, List.length_replicate]; omega) (dots_ascii b) (pair_size fn on) hb61 hos2 fun t11 h11 k11 F11 N11 => ?_
    clear F10 N10
    rw [hoc1, hoc2]
    repeat' walk1
    rename Fr h₀ L _ _ => F12
    rename News h₀ L _ _ => N12
    refine c_measure (Sx.less S (by omega)) F12 N12 fun t13 h13 k13 F13 N13 => ?_
    clear F12 N12
    have hS := S.hh
    repeat' walk1
    rename Fr h₀ L _ _ => F14
    rename News h₀ L _ _ => N14
    refine c_common (Sx.less S (by omega)) F14 N14 (by omega) (by omega) fun t15 h15 k15 F15 N15 => ?_
    rw [gcd_max_min]
    clear F14 N14
    have hd : Nat.gcd a b ≤ 1010 := Nat.le_trans (Nat.gcd_le_left b ha0) ha1
    have hgf := gcd_figs fn a b
    have hgd := gcd_gcds x y i
    rw [← hae, ← hbe] at hgd
    generalize Nat.gcd a b = d at *
    have hdl : (dots d).length = d := dots_length d
    have hlen : ¬ ((dots d).length : Int) ≥ 2 ^ 63 := by rw [hdl]; omega
    repeat' walk1
    · exfalso
      rename _ ≠ _ * _ => hne1
      rw [hdl] at hne1
      exact hne1 hgf
    · rename Fr h₀ L _ _ => F16
      rename News h₀ L _ _ => N16
      have hIz : zp < I := hI _ (.head _)
      have hIL : L + 1 < I := hI _ (.tail _ (.head _))
      have N17 : News h₀ L _ ((zp, listOf zvs.toArray k) :: (I, itR (0 + ((i + 1 : Nat) : Int)) ((g : Int) - ((i + 1 : Nat) : Int))) :: (L + 1, oc) :: news) := fun p hp => by
        rcases List.mem_cons.mp hp with rfl | hp
        · exact N16 _ (.tail _ (.tail _ (.tail _ (.head _))))
        · rcases List.mem_cons.mp hp with rfl | hp
          · exact N16 _ (.tail _ (.tail _ (.head _)))
          · exact N16 p (.tail _ (.tail _ (.tail _ (.tail _ hp))))
      have hzl : zvs.length = i := by rw [hzs.length]; unfold gcds; simp
      refine append_head F16 N17 (fun p hp => ?_) (fun h18 F18 N18 => ?_) (by rw [List.size_toArray, sizeLine_eq]; omega)
      · rcases List.mem_cons.mp hp with rfl | hp
        · exact Nat.ne_of_gt hIz
        · rcases List.mem_cons.mp hp with rfl | hp
          · exact Nat.ne_of_lt hlz
          · exact Nat.ne_of_lt (hnz p hp)
      rw [List.push_toArray] at N18
      repeat' walk1
      refine UnrEnd.intro F18 N18 ((zp, listOf (zvs ++ [Value.int ((dots d).length : Int) (k15 + 1)]).toArray (k + 1)) :: (L + 1, oc) :: news) (fun p hp => ?_) (fun p hp => ?_) ⟨zvs ++ [Value.int ((dots d).length : Int) (k15 + 1)], k + 1, rfl, ?_, rfl, ⟨_, rfl⟩, ⟨_, rfl⟩, ⟨_, by unfold sentM; rw [if_neg (Nat.succ_ne_zero i), ← hae, ← hbe]; rfl⟩⟩
      · rcases List.mem_cons.mp hp with rfl | hp
        · exact .tail _ (.head _)
        · rcases List.mem_cons.mp hp with rfl | hp
          · exact .head _
          · exact .tail _ (.tail _ hp)
      · rcases List.mem_cons.mp hp with rfl | hp
        · exact Nat.ne_of_lt hIz
        · exact Nat.ne_of_lt (hI p (.tail _ hp))
      · rw [hgd]
        exact snocI hzs (by rw [hdl])
  · rintro m₁ n₁ hq4 tk4 ⟨zvs, k, rfl, hzs, hz, hf1, hp, ht⟩ F4 N4
    exact After.intro F4 N4 ⟨oc, tg, zp, zvs, k, hoc, rfl, hzs, hz, hf1, hp, ht, hlz, hnz⟩
end
end Mine

end

section
open PySem PySem.W PyProof.Rows PySem.Calls
set_option maxRecDepth 100000
set_option maxHeartbeats 1000000
namespace Mine
theorem n_sorted (P : Params) : nsIn (K P) mainGlobals (Str.ofString "sorted") = some none := by kernel_rfl
local macro_rules | `(tactic| walk_at "eval Name") => `(tactic| first
  | (refine nameX_L (by assumption) (by rfl) ?_)
  | (refine nameX_C (by assumption) (by rfl) (.tail _ (.head _)) (by assumption) ?_)
  | (refine nameX_C (by assumption) (by rfl) (.tail _ (.tail _ (.head _))) (by assumption) ?_)
  | ((with_reducible show wpAny _ _ (eval (PySem.Expr.Name (Str.ofString "range") _) _) _ _ _); refine Sx.bltC (by assumption) (by assumption) (n_range _) (by boot_fast) (by decide) ?_)
  | ((with_reducible show wpAny _ _ (eval (PySem.Expr.Name (Str.ofString "sorted") _) _) _ _ _); refine Sx.bltC (by assumption) (by assumption) (n_sorted _) (by boot_fast) (by decide) ?_)
  | (refine LCgL.ld_own (by assumption) (.tail _ (.head _)) (by assumption) (by assumption) ?_)
  | ((with_reducible show wpAny _ _ (eval (PySem.Expr.Name (Str.ofString "_law_measure") _) _) _ _ _); refine Sx.globK (by assumption) (by assumption) (g_measure _) ?_)
  | (refine lcf_free (by assumption) (by rfl) (.tail _ (.tail _ (.tail _ (.tail _ (.tail _ (.head _)))))) (by assumption) ?_ (by rfl) (by rfl))
  | (refine lcf_cell (by assumption) (by rfl) (.tail _ (.tail _ (.tail _ (.tail _ (.tail _ (.head _)))))) (by assumption) ?_ (by rfl) (by rfl)))
local macro_rules | `(tactic| walk_at "storeName") => `(tactic| first
  | (refine storeX_L (by assumption) (by assumption) ?_; intro _ _ _))
local macro_rules | `(tactic| walk_at "callWith ref") => `(tactic| refine Sx.fn (by assumption) (by with_unfolding_all rfl) (by with_unfolding_all rfl) ?_)
local macro_rules | `(tactic| walk_at "Held") => `(tactic| refine Held.intro (by assumption) ?_)
section
variable {prog : Program} {w : World} {A : Around} {E : Value → Shared → Prop} {Q : Flow → Shared → Prop} {s : Shared} {h₀ : Heap} {L : Addr} {m : Str → Option Value} {news nw : List (Addr × Obj)} {fa : Addr} {cd : Value} {oc : Obj} {a b g x y z c : Nat} {f o : Int} {pr : Array UInt8} {l : List Nat}
theorem st13 {zs : List Int} (S : Sx w A h₀ L 20) (F : Fr h₀ L s.heap m) (N : News h₀ L s.heap nw) (hJ : J11 g f pr l zs L news m nw) (hg : g ≤ 8) (hp : zs.Perm (steps g g)) :
    wpAny (model prog w) A (exec (nthS lawBody 13) (lawEnv L fa cd)) (fun fl s' => fl = .ret (.bool true) ∧ ∃ h' tk m' nw, s' = { s with heap := h', toks := tk } ∧ Fr h₀ L h' m' ∧ News h₀ L h' (nw ++ news)) (fun _ _ => False) s := by
  refine withDef (P := fun b sc => wpAny (model prog w) A (exec (nthS b 13) (envOfC (Str.ofString "law") sc L fa cd)) _ _ s) (by rfl) ?_
  dsimp only [nthS]
  obtain ⟨oc, tg, zp, zvs, k, hoc, rfl, hzs, hz, -, -, -, hlz, hnz⟩ := hJ
  rw [map1 hz] at F
  repeat' walk1
  have hsl : (steps g g).length = g := by unfold steps; simp
  refine kso_sorted F N (News.isList N (.head _)) hzs (by rw [hp.length_eq, hsl]; omega) fun D1 vs1 ns1 c1 h2 F2 N2 hD1 hi1 hl1 hp1 ho1 _ => ?_
  iterate 4 walk1
  refine LCg.ListComp_U (F₀ := F2) (by with_unfolding_all rfl) (by decide) (by rfl) (by decide) (by rfl) ?_
  repeat' walk1
  rename Fr h₀ L _ _ => F3
  rename News h₀ L _ _ => N3
  rename IsRange _ _ _ _ _ _ _ _ => hR
  have hsm : Builtin.Range.small 1 ((g : Int) + 1) 1 = true ∧ Builtin.Range.rangeSize 1 ((g : Int) + 1) 1 = (g : Int) := by
    have h9 : ∀ g : Fin 9, Builtin.Range.small 1 (((g.val : Nat) : Int) + 1) 1 = true ∧ Builtin.Range.rangeSize 1 (((g.val : Nat) : Int) + 1) 1 = ((g.val : Nat) : Int) := by decide +kernel
    exact h9 ⟨g, by omega⟩
  refine LCg.CompSrc.range (s₁ := ⟨_, _, _, _, _⟩) S.hh F3 N3 hR hsm.1 hsm.2 (by rw [sizeLine_eq]; omega) fun g' => ?_
  refine rest_ind (fun i ys nw => nw = (D1, listOf vs1.toArray c1) :: (zp, listOf zvs.toArray k) :: (L + 1, oc) :: news ∧ IntsAre ys (steps g i)) ?_ ?_ _ 0 [] _ (Nat.zero_add _) ⟨rfl, .nil⟩
  · rintro i ys nw hi ⟨rfl, hys⟩ v I oI C oC D m₂ h3 tk3 E3 ⟨tv, rfl⟩ hNs hx F4 N4 off ne
    repeat' walk1
    have e1 : (1 : Int) + (i : Int) = ((i + 1 : Nat) : Int) := by omega
    rw [e1]
    refine c_measure (Sx.less S (by omega)) (by assumption) (by assumption) fun t5 h5 k5 F5 N5 => ?_
    refine LCg.CompEnd.intro F5 N5 _ (fun p hp => hp) off trivial ⟨rfl, ?_⟩
    have e2 : steps g (i + 1) = steps g i ++ [((Nat.gcd g (i + 1) : Nat) : Int)] := by
      unfold steps; rw [List.range_succ, List.map_append]; rfl
    rw [e2]
    exact snocI hys rfl
  · rintro ys nw ⟨rfl, hys⟩ D h4 tk4 F4 N4 off4
    walk1
    refine kso_sorted (vs := ys) F4 N4 (News.isList N4 (.head _)) hys (by rw [hsl]; omega) fun D2 vs2 ns2 c2 h6 F6 N6 hD2 hi2 hl2 hp2 ho2 _ => ?_
    have hE : ns1 = ns2 := sorted_unique ((hp1.trans hp).trans hp2.symm) ho1 ho2
    refine eq_intsK (News.isList N6 (.tail _ (.tail _ (.head _)))) hi1 (News.isList N6 (.head _)) hi2 (by have := S.hu; omega) ?_
    rw [decide_eq_true hE]
    exact ⟨rfl, h6, _, _, [_, _, _, _, _], rfl, F6, N6⟩
end
end Mine

end

section
open PySem PySem.W PyProof.Rows PySem.Calls
set_option maxRecDepth 100000
set_option maxHeartbeats 1000000
namespace Mine
section
variable {prog : Program} {w : World} {A : Around} {s : Shared} {h₀ : Heap} {L : Addr} {m : Str → Option Value} {news nw : List (Addr × Obj)} {fa : Addr} {cd : Value} {oc : Obj}
theorem law_body {sl : Addr} {vs : List Value} {ns : List Int} (S : Sx w A h₀ L 20) (F : Fr h₀ L s.heap m) (N : News h₀ L s.heap ((L + 1, oc) :: news)) (hm : m (Str.ofString "script") = some (.ref sl)) (hoc : oc.data = .cell none) (hne : ∀ p ∈ news, p.1 ≠ L + 1)
    (hl : h₀.IsList sl vs.toArray) (hI : IntsAre vs ns) (hn63 : ns.length ≤ 63) :
    wpAny (model prog w) A (execs lawBody (lawEnv L fa cd)) (fun fl s' => fl = .ret (.bool true) ∧ ∃ h' tk m' nw, s' = { s with heap := h', toks := tk } ∧ Fr h₀ L h' m' ∧ News h₀ L h' (nw ++ news)) (fun _ _ => False) s := by
  obtain ⟨a, b, ha, hb, hab⟩ := cells_two ns
  rw [lawBody_eq]
  refine stage (st0 S F N ⟨hm, rfl⟩ hl hI hn63 hab) fun h1 t1 m1 nw1 F1 N1 J1 => ?_
  refine stage (st1 S F1 N1 J1 hoc hne) fun h2 t2 m2 nw2 F2 N2 J2 => ?_
  refine stage (st2 S F2 N2 J2 (by omega) (by omega)) fun h3 t3 m3 nw3 F3 N3 J3 => ?_
  refine stage (st3 S F3 N3 J3) fun h4 t4 m4 nw4 F4 N4 J4 => ?_
  refine stage (st4 S F4 N4 J4) fun h5 t5 m5 nw5 F5 N5 J5 => ?_
  have ef : 62 + ((a / 192 % 2 : Nat) : Int) = ((62 + a / 192 % 2 : Nat) : Int) := by omega
  rw [ef] at J5
  refine stage (st5 S F5 N5 J5) fun h6 t6 m6 nw6 F6 N6 J6 => ?_
  have eo : 33 + ((a / 384 % 13 : Nat) : Int) = ((33 + a / 384 % 13 : Nat) : Int) := by omega
  rw [eo] at J6
  have ho : 33 ≤ 33 + a / 384 % 13 ∧ 33 + a / 384 % 13 ≤ 45 := by omega
  have hf : 62 + a / 192 % 2 = 62 ∨ 62 + a / 192 % 2 = 63 := by omega
  refine stage (st6 S F6 N6 J6 ho) fun h7 t7 m7 nw7 F7 N7 J7 => ?_
  have ep : (if ((62 + a / 192 % 2 : Nat) : Int) = 62 then #[46, (33 + a / 384 % 13).toUInt8] else #[(33 + a / 384 % 13).toUInt8, 46]) = pairOf (62 + a / 192 % 2) (33 + a / 384 % 13) := by
    unfold pairOf
    by_cases c : 62 + a / 192 % 2 = 62
    · rw [if_pos c, if_pos (by omega)]
    · rw [if_neg c, if_neg (by omega)]
  rw [ep] at J7
  refine stage (st7 S F7 N7 J7 hb) fun h8 t8 m8 nw8 F8 N8 J8 => ?_
  refine stage (st8 S F8 N8 J8) fun h9 t9 m9 nw9 F9 N9 J9 => ?_
  obtain ⟨c, c1, c2, c3, J9⟩ := J9
  generalize hx : (if a / 96 % 2 = 0 then 1 + a / 8 % 12 else 1 + a / 8 % 12 + (1 + a % 8)) = x at J9
  generalize hy : (if a / 96 % 2 = 0 then 1 + a / 8 % 12 + (1 + a % 8) else 1 + a / 8 % 12) = y at J9
  have hx0 : 0 < x ∧ x ≤ 1000 := by split at hx <;> omega
  have hy0 : 0 < y ∧ y ≤ 1000 := by split at hy <;> omega
  refine stage (st9 S F9 N9 J9) fun h10 t10 m10 nw10 F10 N10 J10 => ?_
  refine stage (st10 S F10 N10 J10 hx0.2 hy0.2) fun h11 t11 m11 nw11 F11 N11 J11 => ?_
  refine stage (st11 S F11 N11 J11) fun h12 t12 m12 nw12 F12 N12 J12 => ?_
  refine stage (st12 (e0 := b % 3) (e1 := b / 3 % 3) (e2 := b / 9 % 3) S F12 N12 J12 hne c1 c2 c3 hx0.1 hy0.1 hx0.2 hy0.2 (by omega) hf ho) fun h13 t13 m13 nw13 F13 N13 J13 => ?_
  have hp : (gcds x y (1 + a % 8)).Perm (steps (1 + a % 8) (1 + a % 8)) := by
    have h1 := perm_gcds (g := 1 + a % 8) (z := 1 + a / 8 % 12) (by omega) (by omega)
    by_cases c : a / 96 % 2 = 0
    · rw [if_pos c] at hx hy; rw [← hx, ← hy]; exact h1
    · rw [if_neg c] at hx hy; rw [← hx, ← hy, gcds_comm]; exact h1
  refine wpAny_execs_cons (wpAny_mono (st13 S F13 N13 J13 (by omega) hp) (fun fl s' h => ?_) fun _ _ h => h.elim)
  obtain ⟨rfl, h'⟩ := h
  exact ⟨rfl, h'⟩
end
end Mine

end

section
open PySem PySem.W PyProof.Rows
set_option maxRecDepth 100000
set_option maxHeartbeats 4000000
namespace Mine
theorem deeper_room : callerA.depth + 1 + 20 < recursionLimit := by decide +kernel
theorem deeper_units : callerA.units + 3 + 8 * 20 < cLine := by decide +kernel
theorem holds2 : PySem.Challenge.rw_kq0061_02.Holds := by
  w_on
  refine head (by rfl) (by rfl) (by rfl) ?_
  k_fill
  intro w s₀ s₁ mg mb G Y fa o pm cd doc dV kV ho hd hcd hD hmg hg args vals as hpre hlay hrd hwl hlo
  have KX := km_in_of Y
  km_tabs Y
  have X := (Ground.X G).1
  have V := (Ground.X G).2
  refine Ground.open G ?_
  intro T B D TE TW
  try (refine guard_noD D (by decide +kernel) ?_; clear D)
  km_lay T hmg ho hd cd
  clear hmg
  wrow_args hpre hlay hrd hwl hlo
  all_goals (
    first | refine callC_kw (enter_call ?_) | refine enter_call ?_
    w_top on
    kn_posts
    w_call any ho hd hcd hD T F
    clear hd
    kn_ghosts F T
    k_drop
    skip)
  rename (K w.params).In (ghostOf s₁.heap [(126, 122)]) => X'
  rename Top topProg _ _ _ _ _ => T'
  rename Below _ _ _ _ => B'
  rename Fr _ _ _ _ => F'
  rename News _ _ _ _ => N'
  rename IntsAre _ _ => hI
  rename ¬ ((63 : Nat) : Int) < _ => h63
  rename Obj => oc
  rename oc.data = _ => hoc
  rename 122 < _ => l0
  rename Heap.IsList (ghostOf _ _) _ _ => hl
  refine wpAny_mono (law_body ⟨X', ⟨_, _, _, _, _, T'⟩, ⟨_, _, _, _, B', Around.frames_deeper B'.stack, rfl, rfl⟩, deeper_room, deeper_units, rfl⟩ F' N' (by rfl) (hoc.trans (by rfl)) (fun p hp => by rw [List.mem_singleton.mp hp]; exact Nat.ne_of_lt (Nat.lt_succ_of_lt l0)) hl hI (by omega)) (fun fl s' h => ?_) (fun _ _ h => h.elim)
  obtain ⟨rfl, h', tk, m', nw, rfl, F9, N9⟩ := h
  refine ⟨⟨.inl ⟨.bool true, .bool true, [], rfl, fun _ => rfl, .bool true, ?_, ?_⟩, F9.keep, rfl, hg⟩, ⟨GrownAt.of N9 (List.mem_append.mpr (.inr (.head _))), trivial⟩⟩
  · wrow_post
  · intro _; exact ⟨.nil, fun a ha => by cases ha⟩
end Mine

end

theorem PySem.Challenge.cw_kq0061_02_holds : PySem.Challenge.rw_kq0061_02.Holds :=
  Mine.holds2
