import PyProof.Rows.All
import Wide.All
import OpenK.AllK
import Wide.FinOn
import Lean
import PySem.Challenge.RW_pa0034_01
set_option Elab.async false
set_option compiler.extract_closed false

section
open PySem PySem.W PyProof.Rows
set_option Elab.async false
set_option maxRecDepth 100000
set_option maxHeartbeats 8000000
namespace Mine
/-! The top's objects behind its run (printed by GenHead.lean). A def's parameters, body and scope are named by its place in the row's program. -/
noncomputable abbrev prg : Program := Challenge.rw_pa0034_01.row.prog
noncomputable def sAt (n : Nat) : Stmt := prg.main.body.getD n (.Pass ⟨0, 0, 0, 0⟩)
noncomputable def fA (n : Nat) : Arguments := match sAt n with | .FunctionDef _ a _ _ _ _ _ _ _ _ => a | _ => ⟨[], [], none, [], [], none, []⟩
noncomputable def fB (n : Nat) : List Stmt := match sAt n with | .FunctionDef _ _ b _ _ _ _ _ _ _ => b | _ => []
noncomputable def fS (n : Nat) : Scope := match sAt n with | .FunctionDef _ _ _ _ _ _ s _ _ _ => s | _ => ⟨.function, [], false, false, []⟩
noncomputable def hp (P : Params) : W.Frag :=
  (nat_lit 2, Obj.mk Value.none Option.none (Data.dict (List.toArray (List.cons (DictEntry.mk (PyData.keyHash P (Str.ofString "\x69mport.loaded._sre")) (Value.str (Str.ofString "\x69mport.loaded._sre") 183) (Value.bool Bool.true)) (List.cons (DictEntry.mk (PyData.keyHash P (Str.ofString "class._frozen_importlib.BuiltinImporter")) (Value.str (Str.ofString "class._frozen_importlib.BuiltinImporter") 185) (Value.ref 14)) (List.cons (DictEntry.mk (PyData.keyHash P (Str.ofString "watched.\x69mport")) (Value.str (Str.ofString "watched.\x69mport") 206) (Value.ref 18)) (List.cons (DictEntry.mk (PyData.keyHash P (Str.ofString "class._frozen_importlib.ModuleSpec")) (Value.str (Str.ofString "class._frozen_importlib.ModuleSpec") 216) (Value.ref 22)) (List.cons (DictEntry.mk (PyData.keyHash P (Str.ofString "sys.modules.booked-epoch")) (Value.str (Str.ofString "sys.modules.booked-epoch") 245) (Value.int 3 0)) (List.cons (DictEntry.mk (PyData.keyHash P (Str.ofString "\x69mport.later-laid._sre")) (Value.str (Str.ofString "\x69mport.later-laid._sre") 270) (Value.bool Bool.true)) (List.cons (DictEntry.mk (PyData.keyHash P (Str.ofString "watched.library")) (Value.str (Str.ofString "watched.library") 272) (Value.ref 27)) (List.cons (DictEntry.mk (PyData.keyHash P (Str.ofString "watched.library-objects")) (Value.str (Str.ofString "watched.library-objects") 0) (Value.str (Str.ofString "\x0c") 0)) (List.cons (DictEntry.mk (PyData.keyHash P (Str.ofString "watched.library-deep._sre")) (Value.str (Str.ofString "watched.library-deep._sre") 273) (Value.str (Str.ofString "\x04\x00\x00\x0b\x04\x00\x00\x0b\x04\x00\x00\x03\x04\x00\x00\x0b\x08\x04dict\x02") 0)) List.nil)))))))))) 9) (List.toArray List.nil)) ::
  (nat_lit 3, Obj.mk (Value.type "dict") Option.none (Data.dict (List.toArray (List.cons (DictEntry.mk (PyData.keyHash P (Str.ofString "__name__")) (Value.str (Str.ofString "__name__") 165) (Value.str (Str.ofString "law_pa0034_01") 730)) (List.cons (DictEntry.mk (PyData.keyHash P (Str.ofString "__doc__")) (Value.str (Str.ofString "__doc__") 166) Value.none) (List.cons (DictEntry.mk (PyData.keyHash P (Str.ofString "__package__")) (Value.str (Str.ofString "__package__") 167) Value.none) (List.cons (DictEntry.mk (PyData.keyHash P (Str.ofString "__loader__")) (Value.str (Str.ofString "__loader__") 168) (Value.builtin "__main__.__loader__#opaque")) (List.cons (DictEntry.mk (PyData.keyHash P (Str.ofString "__spec__")) (Value.str (Str.ofString "__spec__") 169) Value.none) (List.cons (DictEntry.mk (PyData.keyHash P (Str.ofString "__annotations__")) (Value.str (Str.ofString "__annotations__") 170) (Value.ref 6)) (List.cons (DictEntry.mk (PyData.keyHash P (Str.ofString "__builtins__")) (Value.str (Str.ofString "__builtins__") 171) (Value.ref 4)) (List.cons (DictEntry.mk (PyData.keyHash P (Str.ofString "__file__")) (Value.str (Str.ofString "__file__") 173) (Value.str (Str.ofString "/claim/cut.py") 172)) (List.cons (DictEntry.mk (PyData.keyHash P (Str.ofString "__cached__")) (Value.str (Str.ofString "__cached__") 174) Value.none) (List.cons (DictEntry.mk (PyData.keyHash P (Str.ofString "_sre")) (Value.str (Str.ofString "_sre") 275) (Value.ref 12)) (List.cons (DictEntry.mk (PyData.keyHash P (Str.ofString "_wall")) (Value.str (Str.ofString "_wall") 288) (Value.ref 38)) (List.cons (DictEntry.mk (PyData.keyHash P (Str.ofString "_twin_re_7")) (Value.str (Str.ofString "_twin_re_7") 318) (Value.ref 43)) (List.cons (DictEntry.mk (PyData.keyHash P (Str.ofString "unmatched")) (Value.str (Str.ofString "unmatched") 327) (Value.ref 50)) (List.cons (DictEntry.mk (PyData.keyHash P (Str.ofString "HEADER_TOKEN_RE")) (Value.str (Str.ofString "HEADER_TOKEN_RE") 375) (Value.ref 55)) (List.cons (DictEntry.mk (PyData.keyHash P (Str.ofString "HEADER_QUOTED_VALUE_RE")) (Value.str (Str.ofString "HEADER_QUOTED_VALUE_RE") 453) (Value.ref 60)) (List.cons (DictEntry.mk (PyData.keyHash P (Str.ofString "HEADER_VALUE_RE")) (Value.str (Str.ofString "HEADER_VALUE_RE") 508) (Value.ref 65)) (List.cons (DictEntry.mk (PyData.keyHash P (Str.ofString "HEADER_ESCAPE_RE")) (Value.str (Str.ofString "HEADER_ESCAPE_RE") 531) (Value.ref 70)) (List.cons (DictEntry.mk (PyData.keyHash P (Str.ofString "split_header_words")) (Value.str (Str.ofString "split_header_words") 547) (Value.ref 77)) (List.cons (DictEntry.mk (PyData.keyHash P (Str.ofString "HEADER_JOIN_TOKEN_RE")) (Value.str (Str.ofString "HEADER_JOIN_TOKEN_RE") 576) (Value.ref 82)) (List.cons (DictEntry.mk (PyData.keyHash P (Str.ofString "HEADER_JOIN_ESCAPE_RE")) (Value.str (Str.ofString "HEADER_JOIN_ESCAPE_RE") 604) (Value.ref 87)) (List.cons (DictEntry.mk (PyData.keyHash P (Str.ofString "join_header_words")) (Value.str (Str.ofString "join_header_words") 616) (Value.ref 94)) (List.cons (DictEntry.mk (PyData.keyHash P (Str.ofString "bytes_types")) (Value.str (Str.ofString "bytes_types") 619) (Value.ref 95)) (List.cons (DictEntry.mk (PyData.keyHash P (Str.ofString "_bytes_from_decode_data")) (Value.str (Str.ofString "_bytes_from_decode_data") 626) (Value.ref 102)) (List.cons (DictEntry.mk (PyData.keyHash P (Str.ofString "Error")) (Value.str (Str.ofString "Error") 646) (Value.ref 112)) (List.cons (DictEntry.mk (PyData.keyHash P (Str.ofString "_ascii_buffer")) (Value.str (Str.ofString "_ascii_buffer") 654) (Value.ref 122)) (List.cons (DictEntry.mk (PyData.keyHash P (Str.ofString "_buffer")) (Value.str (Str.ofString "_buffer") 662) (Value.ref 129)) (List.cons (DictEntry.mk (PyData.keyHash P (Str.ofString "_truth")) (Value.str (Str.ofString "_truth") 670) (Value.ref 136)) (List.cons (DictEntry.mk (PyData.keyHash P (Str.ofString "_B64")) (Value.str (Str.ofString "_B64") 672) (Value.bytes (List.toArray (List.cons 65 (List.cons 66 (List.cons 67 (List.cons 68 (List.cons 69 (List.cons 70 (List.cons 71 (List.cons 72 (List.cons 73 (List.cons 74 (List.cons 75 (List.cons 76 (List.cons 77 (List.cons 78 (List.cons 79 (List.cons 80 (List.cons 81 (List.cons 82 (List.cons 83 (List.cons 84 (List.cons 85 (List.cons 86 (List.cons 87 (List.cons 88 (List.cons 89 (List.cons 90 (List.cons 97 (List.cons 98 (List.cons 99 (List.cons 100 (List.cons 101 (List.cons 102 (List.cons 103 (List.cons 104 (List.cons 105 (List.cons 106 (List.cons 107 (List.cons 108 (List.cons 109 (List.cons 110 (List.cons 111 (List.cons 112 (List.cons 113 (List.cons 114 (List.cons 115 (List.cons 116 (List.cons 117 (List.cons 118 (List.cons 119 (List.cons 120 (List.cons 121 (List.cons 122 (List.cons 48 (List.cons 49 (List.cons 50 (List.cons 51 (List.cons 52 (List.cons 53 (List.cons 54 (List.cons 55 (List.cons 56 (List.cons 57 (List.cons 43 (List.cons 47 List.nil))))))))))))))))))))))))))))))))))))))))))))))))))))))))))))))))) 671)) (List.cons (DictEntry.mk (PyData.keyHash P (Str.ofString "_b64_value")) (Value.str (Str.ofString "_b64_value") 679) (Value.ref 143)) (List.cons (DictEntry.mk (PyData.keyHash P (Str.ofString "a2b_base64")) (Value.str (Str.ofString "a2b_base64") 695) (Value.ref 151)) (List.cons (DictEntry.mk (PyData.keyHash P (Str.ofString "b2a_base64")) (Value.str (Str.ofString "b2a_base64") 709) (Value.ref 159)) (List.cons (DictEntry.mk (PyData.keyHash P (Str.ofString "b64encode")) (Value.str (Str.ofString "b64encode") 720) (Value.ref 167)) (List.cons (DictEntry.mk (PyData.keyHash P (Str.ofString "b64decode")) (Value.str (Str.ofString "b64decode") 729) (Value.ref 175)) (List.cons (DictEntry.mk (PyData.keyHash P (Str.ofString "_law_signs")) (Value.str (Str.ofString "_law_signs") 741) (Value.ref 182)) (List.cons (DictEntry.mk (PyData.keyHash P (Str.ofString "_law_octets")) (Value.str (Str.ofString "_law_octets") 752) (Value.ref 189)) (List.cons (DictEntry.mk (PyData.keyHash P (Str.ofString "_law_whole")) (Value.str (Str.ofString "_law_whole") 760) (Value.ref 196)) (List.cons (DictEntry.mk (PyData.keyHash P (Str.ofString "_law_read")) (Value.str (Str.ofString "_law_read") 769) (Value.ref 203)) (List.cons (DictEntry.mk (PyData.keyHash P (Str.ofString "_law_told")) (Value.str (Str.ofString "_law_told") 778) (Value.ref 210)) (List.cons (DictEntry.mk (PyData.keyHash P (Str.ofString "_law_lists")) (Value.str (Str.ofString "_law_lists") 784) (Value.ref 215)) (List.cons (DictEntry.mk (PyData.keyHash P (Str.ofString "_law_pairs")) (Value.str (Str.ofString "_law_pairs") 790) (Value.ref 220)) (List.cons (DictEntry.mk (PyData.keyHash P (Str.ofString "law")) (Value.str (Str.ofString "law") 796) (Value.ref 225)) List.nil)))))))))))))))))))))))))))))))))))))))))) 41) (List.toArray List.nil)) ::
  (nat_lit 32, Obj.mk (Value.type "tuple") Option.none (Data.seq (List.toArray List.nil)) (List.toArray List.nil)) ::
  (nat_lit 34, Obj.mk (Value.type "tuple") Option.none (Data.seq (List.toArray (List.cons (Value.str (Str.ofString "k") 285) List.nil))) (List.toArray List.nil)) ::
  (nat_lit 35, Obj.mk (Value.type "tuple") Option.none (Data.seq (List.toArray List.nil)) (List.toArray List.nil)) ::
  (nat_lit 37, Obj.mk (Value.type "code") Option.none (Data.fields (List.toArray (List.cons (Value.str (Str.ofString "_wall") 282) (List.cons (Value.str (Str.ofString "_wall") 283) (List.cons (Value.str (Str.ofString "/claim/cut.py") 284) (List.cons (Value.int 2 0) (List.cons (Value.int 1 0) (List.cons (Value.int 0 0) (List.cons (Value.int 0 0) (List.cons (Value.int 3 0) (List.cons (Value.ref 32) (List.cons (Value.bool Bool.true) (List.cons (Value.int 276 0) (List.cons (Value.ref 33) (List.cons Value.none (List.cons (Value.ref 34) (List.cons (Value.ref 35) (List.cons (Value.ref 36) (List.cons (Value.int 286 0) (List.cons (Value.int 2 0) (List.cons (Value.str (Str.ofString "/claim/cut.py") 287) List.nil))))))))))))))))))))) (List.toArray List.nil)) ::
  (nat_lit 38, Obj.mk (Value.type "function") Option.none (Data.func (FuncData.mk (Str.ofString "_wall") (Str.ofString "_wall") (fA 1) (FuncBody.stmts (fB 1)) (fS 1) 3 List.nil Value.none Value.none Value.none (Value.str (Str.ofString "__main__") 164) Option.none (Value.ref 37) Value.none 0)) (List.toArray List.nil)) ::
  (nat_lit 42, Obj.mk (Value.type "tuple") Option.none (Data.seq (List.toArray (List.cons (Value.int 14 0) (List.cons (Value.int 4 0) (List.cons (Value.int 0 0) (List.cons (Value.int 0 0) (List.cons (Value.int 4294967295 0) (List.cons (Value.int 6 0) (List.cons (Value.int 0 0) (List.cons (Value.int 24 0) (List.cons (Value.int 13 0) (List.cons (Value.int 0 0) (List.cons (Value.int 4294967295 0) (List.cons (Value.int 13 0) (List.cons (Value.int 8 0) (List.cons (Value.int 16 0) (List.cons (Value.int 61 0) (List.cons (Value.int 8 0) (List.cons (Value.int 12 0) (List.cons (Value.int 16 0) (List.cons (Value.int 59 0) (List.cons (Value.int 0 0) (List.cons (Value.int 1 0) (List.cons (Value.int 1 0) List.nil)))))))))))))))))))))))) (List.toArray List.nil)) ::
  (nat_lit 43, Obj.mk (Value.type "re.Pattern") Option.none (Data.fields (List.toArray (List.cons (Value.str (Str.ofString "^[=\\s;]*") 292) (List.cons (Value.int 32 317) (List.cons (Value.int 0 0) (List.cons Value.none (List.cons Value.none (List.cons (Value.ref 42) (List.cons (Value.int 0 0) List.nil))))))))) (List.toArray List.nil)) ::
  (nat_lit 44, Obj.mk (Value.type "tuple") Option.none (Data.seq (List.toArray List.nil)) (List.toArray List.nil)) ::
  (nat_lit 46, Obj.mk (Value.type "tuple") Option.none (Data.seq (List.toArray (List.cons (Value.str (Str.ofString "match") 322) (List.cons (Value.str (Str.ofString "start") 323) (List.cons (Value.str (Str.ofString "end") 324) List.nil))))) (List.toArray List.nil)) ::
  (nat_lit 47, Obj.mk (Value.type "tuple") Option.none (Data.seq (List.toArray List.nil)) (List.toArray List.nil)) ::
  (nat_lit 49, Obj.mk (Value.type "code") Option.none (Data.fields (List.toArray (List.cons (Value.str (Str.ofString "unmatched") 319) (List.cons (Value.str (Str.ofString "unmatched") 320) (List.cons (Value.str (Str.ofString "/claim/cut.py") 321) (List.cons (Value.int 7 0) (List.cons (Value.int 1 0) (List.cons (Value.int 0 0) (List.cons (Value.int 0 0) (List.cons (Value.int 3 0) (List.cons (Value.ref 44) (List.cons (Value.bool Bool.true) (List.cons (Value.int 276 0) (List.cons (Value.ref 45) (List.cons Value.none (List.cons (Value.ref 46) (List.cons (Value.ref 47) (List.cons (Value.ref 48) (List.cons (Value.int 325 0) (List.cons (Value.int 7 0) (List.cons (Value.str (Str.ofString "/claim/cut.py") 326) List.nil))))))))))))))))))))) (List.toArray List.nil)) ::
  (nat_lit 50, Obj.mk (Value.type "function") Option.none (Data.func (FuncData.mk (Str.ofString "unmatched") (Str.ofString "unmatched") (fA 4) (FuncBody.stmts (fB 4)) (fS 4) 3 List.nil Value.none Value.none Value.none (Value.str (Str.ofString "cpy313.http.cookiejar") 289) Option.none (Value.ref 49) Value.none 0)) (List.toArray List.nil)) ::
  (nat_lit 54, Obj.mk (Value.type "tuple") Option.none (Data.seq (List.toArray (List.cons (Value.int 14 0) (List.cons (Value.int 4 0) (List.cons (Value.int 0 0) (List.cons (Value.int 1 0) (List.cons (Value.int 4294967295 0) (List.cons (Value.int 6 0) (List.cons (Value.int 0 0) (List.cons (Value.int 24 0) (List.cons (Value.int 9 0) (List.cons (Value.int 0 0) (List.cons (Value.int 4294967295 0) (List.cons (Value.int 13 0) (List.cons (Value.int 4 0) (List.cons (Value.int 8 0) (List.cons (Value.int 12 0) (List.cons (Value.int 0 0) (List.cons (Value.int 1 0) (List.cons (Value.int 17 0) (List.cons (Value.int 0 0) (List.cons (Value.int 24 0) (List.cons (Value.int 19 0) (List.cons (Value.int 1 0) (List.cons (Value.int 4294967295 0) (List.cons (Value.int 13 0) (List.cons (Value.int 14 0) (List.cons (Value.int 21 0) (List.cons (Value.int 9 0) (List.cons (Value.int 0 0) (List.cons (Value.int 671092736 0) (List.cons (Value.int 0 0) (List.cons (Value.int 0 0) (List.cons (Value.int 0 0) (List.cons (Value.int 0 0) (List.cons (Value.int 0 0) (List.cons (Value.int 0 0) (List.cons (Value.int 8 0) (List.cons (Value.int 12 0) (List.cons (Value.int 0 0) (List.cons (Value.int 1 0) (List.cons (Value.int 17 0) (List.cons (Value.int 1 0) (List.cons (Value.int 1 0) List.nil)))))))))))))))))))))))))))))))))))))))))))) (List.toArray List.nil)) ::
  (nat_lit 55, Obj.mk (Value.type "re.Pattern") Option.none (Data.fields (List.toArray (List.cons (Value.str (Str.ofString "^\\s*([^=\\s;,]+)") 329) (List.cons (Value.int 32 374) (List.cons (Value.int 1 0) (List.cons Value.none (List.cons Value.none (List.cons (Value.ref 54) (List.cons (Value.int 0 0) List.nil))))))))) (List.toArray List.nil)) ::
  (nat_lit 59, Obj.mk (Value.type "tuple") Option.none (Data.seq (List.toArray (List.cons (Value.int 14 0) (List.cons (Value.int 4 0) (List.cons (Value.int 0 0) (List.cons (Value.int 3 0) (List.cons (Value.int 4294967295 0) (List.cons (Value.int 6 0) (List.cons (Value.int 0 0) (List.cons (Value.int 24 0) (List.cons (Value.int 9 0) (List.cons (Value.int 0 0) (List.cons (Value.int 4294967295 0) (List.cons (Value.int 13 0) (List.cons (Value.int 4 0) (List.cons (Value.int 8 0) (List.cons (Value.int 12 0) (List.cons (Value.int 0 0) (List.cons (Value.int 1 0) (List.cons (Value.int 16 0) (List.cons (Value.int 61 0) (List.cons (Value.int 24 0) (List.cons (Value.int 9 0) (List.cons (Value.int 0 0) (List.cons (Value.int 4294967295 0) (List.cons (Value.int 13 0) (List.cons (Value.int 4 0) (List.cons (Value.int 8 0) (List.cons (Value.int 12 0) (List.cons (Value.int 0 0) (List.cons (Value.int 1 0) (List.cons (Value.int 16 0) (List.cons (Value.int 34 0) (List.cons (Value.int 17 0) (List.cons (Value.int 0 0) (List.cons (Value.int 24 0) (List.cons (Value.int 12 0) (List.cons (Value.int 0 0) (List.cons (Value.int 4294967295 0) (List.cons (Value.int 13 0) (List.cons (Value.int 7 0) (List.cons (Value.int 21 0) (List.cons (Value.int 16 0) (List.cons (Value.int 34 0) (List.cons (Value.int 16 0) (List.cons (Value.int 92 0) (List.cons (Value.int 0 0) (List.cons (Value.int 1 0) (List.cons (Value.int 23 0) (List.cons (Value.int 19 0) (List.cons (Value.int 0 0) (List.cons (Value.int 4294967295 0) (List.cons (Value.int 16 0) (List.cons (Value.int 92 0) (List.cons (Value.int 2 0) (List.cons (Value.int 24 0) (List.cons (Value.int 12 0) (List.cons (Value.int 0 0) (List.cons (Value.int 4294967295 0) (List.cons (Value.int 13 0) (List.cons (Value.int 7 0) (List.cons (Value.int 21 0) (List.cons (Value.int 16 0) (List.cons (Value.int 34 0) (List.cons (Value.int 16 0) (List.cons (Value.int 92 0) (List.cons (Value.int 0 0) (List.cons (Value.int 1 0) (List.cons (Value.int 18 0) (List.cons (Value.int 17 0) (List.cons (Value.int 1 0) (List.cons (Value.int 16 0) (List.cons (Value.int 34 0) (List.cons (Value.int 1 0) List.nil)))))))))))))))))))))))))))))))))))))))))))))))))))))))))))))))))))))))))) (List.toArray List.nil)) ::
  (nat_lit 60, Obj.mk (Value.type "re.Pattern") Option.none (Data.fields (List.toArray (List.cons (Value.str (Str.ofString "^\\s*=\\s*\\\"([^\\\"\\\\]*(?:\\\\.[^\\\"\\\\]*)*)\\\"") 377) (List.cons (Value.int 32 452) (List.cons (Value.int 1 0) (List.cons Value.none (List.cons Value.none (List.cons (Value.ref 59) (List.cons (Value.int 0 0) List.nil))))))))) (List.toArray List.nil)) ::
  (nat_lit 64, Obj.mk (Value.type "tuple") Option.none (Data.seq (List.toArray (List.cons (Value.int 14 0) (List.cons (Value.int 4 0) (List.cons (Value.int 0 0) (List.cons (Value.int 1 0) (List.cons (Value.int 4294967295 0) (List.cons (Value.int 6 0) (List.cons (Value.int 0 0) (List.cons (Value.int 24 0) (List.cons (Value.int 9 0) (List.cons (Value.int 0 0) (List.cons (Value.int 4294967295 0) (List.cons (Value.int 13 0) (List.cons (Value.int 4 0) (List.cons (Value.int 8 0) (List.cons (Value.int 12 0) (List.cons (Value.int 0 0) (List.cons (Value.int 1 0) (List.cons (Value.int 16 0) (List.cons (Value.int 61 0) (List.cons (Value.int 24 0) (List.cons (Value.int 9 0) (List.cons (Value.int 0 0) (List.cons (Value.int 4294967295 0) (List.cons (Value.int 13 0) (List.cons (Value.int 4 0) (List.cons (Value.int 8 0) (List.cons (Value.int 12 0) (List.cons (Value.int 0 0) (List.cons (Value.int 1 0) (List.cons (Value.int 17 0) (List.cons (Value.int 0 0) (List.cons (Value.int 24 0) (List.cons (Value.int 14 0) (List.cons (Value.int 0 0) (List.cons (Value.int 4294967295 0) (List.cons (Value.int 13 0) (List.cons (Value.int 9 0) (List.cons (Value.int 21 0) (List.cons (Value.int 8 0) (List.cons (Value.int 12 0) (List.cons (Value.int 16 0) (List.cons (Value.int 59 0) (List.cons (Value.int 16 0) (List.cons (Value.int 44 0) (List.cons (Value.int 0 0) (List.cons (Value.int 1 0) (List.cons (Value.int 17 0) (List.cons (Value.int 1 0) (List.cons (Value.int 1 0) List.nil))))))))))))))))))))))))))))))))))))))))))))))))))) (List.toArray List.nil)) ::
  (nat_lit 65, Obj.mk (Value.type "re.Pattern") Option.none (Data.fields (List.toArray (List.cons (Value.str (Str.ofString "^\\s*=\\s*([^\\s;,]*)") 455) (List.cons (Value.int 32 507) (List.cons (Value.int 1 0) (List.cons Value.none (List.cons Value.none (List.cons (Value.ref 64) (List.cons (Value.int 0 0) List.nil))))))))) (List.toArray List.nil)) ::
  (nat_lit 69, Obj.mk (Value.type "tuple") Option.none (Data.seq (List.toArray (List.cons (Value.int 14 0) (List.cons (Value.int 8 0) (List.cons (Value.int 1 0) (List.cons (Value.int 2 0) (List.cons (Value.int 2 0) (List.cons (Value.int 1 0) (List.cons (Value.int 1 0) (List.cons (Value.int 92 0) (List.cons (Value.int 0 0) (List.cons (Value.int 16 0) (List.cons (Value.int 92 0) (List.cons (Value.int 17 0) (List.cons (Value.int 0 0) (List.cons (Value.int 2 0) (List.cons (Value.int 17 0) (List.cons (Value.int 1 0) (List.cons (Value.int 1 0) List.nil))))))))))))))))))) (List.toArray List.nil)) ::
  (nat_lit 70, Obj.mk (Value.type "re.Pattern") Option.none (Data.fields (List.toArray (List.cons (Value.str (Str.ofString "\\\\(.)") 510) (List.cons (Value.int 32 530) (List.cons (Value.int 1 0) (List.cons Value.none (List.cons Value.none (List.cons (Value.ref 69) (List.cons (Value.int 0 0) List.nil))))))))) (List.toArray List.nil)) ::
  (nat_lit 71, Obj.mk (Value.type "tuple") Option.none (Data.seq (List.toArray List.nil)) (List.toArray List.nil)) ::
  (nat_lit 73, Obj.mk (Value.type "tuple") Option.none (Data.seq (List.toArray (List.cons (Value.str (Str.ofString "header_values") 535) (List.cons (Value.str (Str.ofString "result") 536) (List.cons (Value.str (Str.ofString "text") 537) (List.cons (Value.str (Str.ofString "orig_text") 538) (List.cons (Value.str (Str.ofString "pairs") 539) (List.cons (Value.str (Str.ofString "m") 540) (List.cons (Value.str (Str.ofString "name") 541) (List.cons (Value.str (Str.ofString "value") 542) (List.cons (Value.str (Str.ofString "non_junk") 543) (List.cons (Value.str (Str.ofString "nr_junk_chars") 544) List.nil)))))))))))) (List.toArray List.nil)) ::
  (nat_lit 74, Obj.mk (Value.type "tuple") Option.none (Data.seq (List.toArray List.nil)) (List.toArray List.nil)) ::
  (nat_lit 76, Obj.mk (Value.type "code") Option.none (Data.fields (List.toArray (List.cons (Value.str (Str.ofString "split_header_words") 532) (List.cons (Value.str (Str.ofString "split_header_words") 533) (List.cons (Value.str (Str.ofString "/claim/cut.py") 534) (List.cons (Value.int 14 0) (List.cons (Value.int 1 0) (List.cons (Value.int 0 0) (List.cons (Value.int 0 0) (List.cons (Value.int 3 0) (List.cons (Value.ref 71) (List.cons (Value.bool Bool.true) (List.cons (Value.int 276 0) (List.cons (Value.ref 72) (List.cons Value.none (List.cons (Value.ref 73) (List.cons (Value.ref 74) (List.cons (Value.ref 75) (List.cons (Value.int 545 0) (List.cons (Value.int 14 0) (List.cons (Value.str (Str.ofString "/claim/cut.py") 546) List.nil))))))))))))))))))))) (List.toArray List.nil)) ::
  (nat_lit 77, Obj.mk (Value.type "function") Option.none (Data.func (FuncData.mk (Str.ofString "split_header_words") (Str.ofString "split_header_words") (fA 9) (FuncBody.stmts (fB 9)) (fS 9) 3 List.nil Value.none Value.none Value.none (Value.str (Str.ofString "cpy313.http.cookiejar") 289) Option.none (Value.ref 76) Value.none 0)) (List.toArray List.nil)) ::
  (nat_lit 81, Obj.mk (Value.type "tuple") Option.none (Data.seq (List.toArray (List.cons (Value.int 14 0) (List.cons (Value.int 4 0) (List.cons (Value.int 0 0) (List.cons (Value.int 1 0) (List.cons (Value.int 4294967295 0) (List.cons (Value.int 24 0) (List.cons (Value.int 16 0) (List.cons (Value.int 1 0) (List.cons (Value.int 4294967295 0) (List.cons (Value.int 13 0) (List.cons (Value.int 11 0) (List.cons (Value.int 9 0) (List.cons (Value.int 0 0) (List.cons (Value.int 67071226 0) (List.cons (Value.int 3355443198 0) (List.cons (Value.int 1476395007 0) (List.cons (Value.int 0 0) (List.cons (Value.int 0 0) (List.cons (Value.int 0 0) (List.cons (Value.int 0 0) (List.cons (Value.int 0 0) (List.cons (Value.int 1 0) (List.cons (Value.int 1 0) List.nil))))))))))))))))))))))))) (List.toArray List.nil)) ::
  (nat_lit 82, Obj.mk (Value.type "re.Pattern") Option.none (Data.fields (List.toArray (List.cons (Value.str (Str.ofString "[!#$%&'*+\\-.^_`|~0-9A-Za-z]+") 549) (List.cons (Value.int 32 575) (List.cons (Value.int 0 0) (List.cons Value.none (List.cons Value.none (List.cons (Value.ref 81) (List.cons (Value.int 0 0) List.nil))))))))) (List.toArray List.nil)) ::
  (nat_lit 86, Obj.mk (Value.type "tuple") Option.none (Data.seq (List.toArray (List.cons (Value.int 14 0) (List.cons (Value.int 9 0) (List.cons (Value.int 4 0) (List.cons (Value.int 1 0) (List.cons (Value.int 1 0) (List.cons (Value.int 16 0) (List.cons (Value.int 34 0) (List.cons (Value.int 16 0) (List.cons (Value.int 92 0) (List.cons (Value.int 0 0) (List.cons (Value.int 17 0) (List.cons (Value.int 0 0) (List.cons (Value.int 13 0) (List.cons (Value.int 6 0) (List.cons (Value.int 16 0) (List.cons (Value.int 34 0) (List.cons (Value.int 16 0) (List.cons (Value.int 92 0) (List.cons (Value.int 0 0) (List.cons (Value.int 17 0) (List.cons (Value.int 1 0) (List.cons (Value.int 1 0) List.nil)))))))))))))))))))))))) (List.toArray List.nil)) ::
  (nat_lit 87, Obj.mk (Value.type "re.Pattern") Option.none (Data.fields (List.toArray (List.cons (Value.str (Str.ofString "([\\\"\\\\])") 578) (List.cons (Value.int 32 603) (List.cons (Value.int 1 0) (List.cons Value.none (List.cons Value.none (List.cons (Value.ref 86) (List.cons (Value.int 0 0) List.nil))))))))) (List.toArray List.nil)) ::
  (nat_lit 88, Obj.mk (Value.type "tuple") Option.none (Data.seq (List.toArray List.nil)) (List.toArray List.nil)) ::
  (nat_lit 90, Obj.mk (Value.type "tuple") Option.none (Data.seq (List.toArray (List.cons (Value.str (Str.ofString "lists") 608) (List.cons (Value.str (Str.ofString "headers") 609) (List.cons (Value.str (Str.ofString "pairs") 610) (List.cons (Value.str (Str.ofString "attr") 611) (List.cons (Value.str (Str.ofString "k") 612) (List.cons (Value.str (Str.ofString "v") 613) List.nil)))))))) (List.toArray List.nil)) ::
  (nat_lit 91, Obj.mk (Value.type "tuple") Option.none (Data.seq (List.toArray List.nil)) (List.toArray List.nil)) ::
  (nat_lit 93, Obj.mk (Value.type "code") Option.none (Data.fields (List.toArray (List.cons (Value.str (Str.ofString "join_header_words") 605) (List.cons (Value.str (Str.ofString "join_header_words") 606) (List.cons (Value.str (Str.ofString "/claim/cut.py") 607) (List.cons (Value.int 53 0) (List.cons (Value.int 1 0) (List.cons (Value.int 0 0) (List.cons (Value.int 0 0) (List.cons (Value.int 3 0) (List.cons (Value.ref 88) (List.cons (Value.bool Bool.true) (List.cons (Value.int 276 0) (List.cons (Value.ref 89) (List.cons Value.none (List.cons (Value.ref 90) (List.cons (Value.ref 91) (List.cons (Value.ref 92) (List.cons (Value.int 614 0) (List.cons (Value.int 53 0) (List.cons (Value.str (Str.ofString "/claim/cut.py") 615) List.nil))))))))))))))))))))) (List.toArray List.nil)) ::
  (nat_lit 94, Obj.mk (Value.type "function") Option.none (Data.func (FuncData.mk (Str.ofString "join_header_words") (Str.ofString "join_header_words") (fA 12) (FuncBody.stmts (fB 12)) (fS 12) 3 List.nil Value.none Value.none Value.none (Value.str (Str.ofString "cpy313.http.cookiejar") 289) Option.none (Value.ref 93) Value.none 0)) (List.toArray List.nil)) ::
  (nat_lit 95, Obj.mk (Value.type "tuple") Option.none (Data.seq (List.toArray (List.cons (Value.type "bytes") (List.cons (Value.type "bytearray") List.nil)))) (List.toArray List.nil)) ::
  (nat_lit 96, Obj.mk (Value.type "tuple") Option.none (Data.seq (List.toArray List.nil)) (List.toArray List.nil)) ::
  (nat_lit 98, Obj.mk (Value.type "tuple") Option.none (Data.seq (List.toArray (List.cons (Value.str (Str.ofString "s") 623) List.nil))) (List.toArray List.nil)) ::
  (nat_lit 99, Obj.mk (Value.type "tuple") Option.none (Data.seq (List.toArray List.nil)) (List.toArray List.nil)) ::
  (nat_lit 101, Obj.mk (Value.type "code") Option.none (Data.fields (List.toArray (List.cons (Value.str (Str.ofString "_bytes_from_decode_data") 620) (List.cons (Value.str (Str.ofString "_bytes_from_decode_data") 621) (List.cons (Value.str (Str.ofString "/claim/cut.py") 622) (List.cons (Value.int 69 0) (List.cons (Value.int 1 0) (List.cons (Value.int 0 0) (List.cons (Value.int 0 0) (List.cons (Value.int 3 0) (List.cons (Value.ref 96) (List.cons (Value.bool Bool.true) (List.cons (Value.int 276 0) (List.cons (Value.ref 97) (List.cons Value.none (List.cons (Value.ref 98) (List.cons (Value.ref 99) (List.cons (Value.ref 100) (List.cons (Value.int 624 0) (List.cons (Value.int 69 0) (List.cons (Value.str (Str.ofString "/claim/cut.py") 625) List.nil))))))))))))))))))))) (List.toArray List.nil)) ::
  (nat_lit 102, Obj.mk (Value.type "function") Option.none (Data.func (FuncData.mk (Str.ofString "_bytes_from_decode_data") (Str.ofString "_bytes_from_decode_data") (fA 15) (FuncBody.stmts (fB 15)) (fS 15) 3 List.nil Value.none Value.none Value.none (Value.str (Str.ofString "cpy313.base64") 617) Option.none (Value.ref 101) Value.none 0)) (List.toArray List.nil)) ::
  (nat_lit 103, Obj.mk (Value.type "tuple") Option.none (Data.seq (List.toArray (List.cons (Value.type "ValueError") List.nil))) (List.toArray List.nil)) ::
  (nat_lit 110, Obj.mk (Value.type "tuple") Option.none (Data.seq (List.toArray List.nil)) (List.toArray List.nil)) ::
  (nat_lit 111, Obj.mk (Value.type "dict") Option.none (Data.dict (List.toArray (List.cons (DictEntry.mk (PyData.keyHash P (Str.ofString "__module__")) (Value.str (Str.ofString "__module__") 636) (Value.str (Str.ofString "binascii") 627)) (List.cons (DictEntry.mk (PyData.keyHash P (Str.ofString "__firstlineno__")) (Value.str (Str.ofString "__firstlineno__") 640) (Value.int 82 639)) (List.cons (DictEntry.mk (PyData.keyHash P (Str.ofString "__static_attributes__")) (Value.str (Str.ofString "__static_attributes__") 641) (Value.ref 110)) (List.cons (DictEntry.mk (PyData.keyHash P (Str.ofString "__weakref__")) (Value.str (Str.ofString "__weakref__") 643) (Value.ref 113)) (List.cons (DictEntry.mk (PyData.keyHash P (Str.ofString "__doc__")) (Value.str (Str.ofString "__doc__") 644) Value.none) List.nil)))))) 3) (List.toArray List.nil)) ::
  (nat_lit 112, Obj.mk (Value.type "type") Option.none (Data.cls (ClassData.mk (Str.ofString "Error") (List.cons (Value.type "ValueError") List.nil) (List.cons (Value.ref 112) (List.cons (Value.type "ValueError") (List.cons (Value.type "Exception") (List.cons (Value.type "BaseException") (List.cons (Value.type "object") List.nil))))) 111 (Str.ofString "Error") Bool.true List.nil List.nil Bool.false Option.none Bool.false)) (List.toArray (List.cons (Option.some (Value.ref 103)) (List.cons Option.none (List.cons (Option.some (Value.str (Str.ofString "Error") 629)) (List.cons (Option.some (Value.str (Str.ofString "Error") 637)) (List.cons (Option.some (Value.builtin "ValueError.__new__")) (List.cons (Option.some (Value.bool Bool.true)) List.nil)))))))) ::
  (nat_lit 113, Obj.mk (Value.type "getset_descriptor") Option.none (Data.fields (List.toArray (List.cons (Value.str (Str.ofString "__weakref__") 642) (List.cons (Value.ref 112) (List.cons (Value.builtin "ExceptionGroup.__weakref__") (List.cons Value.none List.nil)))))) (List.toArray List.nil)) ::
  (nat_lit 116, Obj.mk (Value.type "tuple") Option.none (Data.seq (List.toArray List.nil)) (List.toArray List.nil)) ::
  (nat_lit 118, Obj.mk (Value.type "tuple") Option.none (Data.seq (List.toArray (List.cons (Value.str (Str.ofString "data") 650) (List.cons (Value.str (Str.ofString "t") 651) List.nil)))) (List.toArray List.nil)) ::
  (nat_lit 119, Obj.mk (Value.type "tuple") Option.none (Data.seq (List.toArray List.nil)) (List.toArray List.nil)) ::
  (nat_lit 121, Obj.mk (Value.type "code") Option.none (Data.fields (List.toArray (List.cons (Value.str (Str.ofString "_ascii_buffer") 647) (List.cons (Value.str (Str.ofString "_ascii_buffer") 648) (List.cons (Value.str (Str.ofString "/claim/cut.py") 649) (List.cons (Value.int 84 0) (List.cons (Value.int 1 0) (List.cons (Value.int 0 0) (List.cons (Value.int 0 0) (List.cons (Value.int 3 0) (List.cons (Value.ref 116) (List.cons (Value.bool Bool.true) (List.cons (Value.int 276 0) (List.cons (Value.ref 117) (List.cons Value.none (List.cons (Value.ref 118) (List.cons (Value.ref 119) (List.cons (Value.ref 120) (List.cons (Value.int 652 0) (List.cons (Value.int 84 0) (List.cons (Value.str (Str.ofString "/claim/cut.py") 653) List.nil))))))))))))))))))))) (List.toArray List.nil)) ::
  (nat_lit 122, Obj.mk (Value.type "function") Option.none (Data.func (FuncData.mk (Str.ofString "_ascii_buffer") (Str.ofString "_ascii_buffer") (fA 18) (FuncBody.stmts (fB 18)) (fS 18) 3 List.nil Value.none Value.none Value.none (Value.str (Str.ofString "binascii") 627) Option.none (Value.ref 121) Value.none 0)) (List.toArray List.nil)) ::
  (nat_lit 123, Obj.mk (Value.type "tuple") Option.none (Data.seq (List.toArray List.nil)) (List.toArray List.nil)) ::
  (nat_lit 125, Obj.mk (Value.type "tuple") Option.none (Data.seq (List.toArray (List.cons (Value.str (Str.ofString "data") 658) (List.cons (Value.str (Str.ofString "t") 659) List.nil)))) (List.toArray List.nil)) ::
  (nat_lit 126, Obj.mk (Value.type "tuple") Option.none (Data.seq (List.toArray List.nil)) (List.toArray List.nil)) ::
  (nat_lit 128, Obj.mk (Value.type "code") Option.none (Data.fields (List.toArray (List.cons (Value.str (Str.ofString "_buffer") 655) (List.cons (Value.str (Str.ofString "_buffer") 656) (List.cons (Value.str (Str.ofString "/claim/cut.py") 657) (List.cons (Value.int 95 0) (List.cons (Value.int 1 0) (List.cons (Value.int 0 0) (List.cons (Value.int 0 0) (List.cons (Value.int 3 0) (List.cons (Value.ref 123) (List.cons (Value.bool Bool.true) (List.cons (Value.int 276 0) (List.cons (Value.ref 124) (List.cons Value.none (List.cons (Value.ref 125) (List.cons (Value.ref 126) (List.cons (Value.ref 127) (List.cons (Value.int 660 0) (List.cons (Value.int 95 0) (List.cons (Value.str (Str.ofString "/claim/cut.py") 661) List.nil))))))))))))))))))))) (List.toArray List.nil)) ::
  (nat_lit 129, Obj.mk (Value.type "function") Option.none (Data.func (FuncData.mk (Str.ofString "_buffer") (Str.ofString "_buffer") (fA 19) (FuncBody.stmts (fB 19)) (fS 19) 3 List.nil Value.none Value.none Value.none (Value.str (Str.ofString "binascii") 627) Option.none (Value.ref 128) Value.none 0)) (List.toArray List.nil)) ::
  (nat_lit 130, Obj.mk (Value.type "tuple") Option.none (Data.seq (List.toArray List.nil)) (List.toArray List.nil)) ::
  (nat_lit 132, Obj.mk (Value.type "tuple") Option.none (Data.seq (List.toArray (List.cons (Value.str (Str.ofString "x") 666) (List.cons (Value.str (Str.ofString "t") 667) List.nil)))) (List.toArray List.nil)) ::
  (nat_lit 133, Obj.mk (Value.type "tuple") Option.none (Data.seq (List.toArray List.nil)) (List.toArray List.nil)) ::
  (nat_lit 135, Obj.mk (Value.type "code") Option.none (Data.fields (List.toArray (List.cons (Value.str (Str.ofString "_truth") 663) (List.cons (Value.str (Str.ofString "_truth") 664) (List.cons (Value.str (Str.ofString "/claim/cut.py") 665) (List.cons (Value.int 102 0) (List.cons (Value.int 1 0) (List.cons (Value.int 0 0) (List.cons (Value.int 0 0) (List.cons (Value.int 3 0) (List.cons (Value.ref 130) (List.cons (Value.bool Bool.true) (List.cons (Value.int 276 0) (List.cons (Value.ref 131) (List.cons Value.none (List.cons (Value.ref 132) (List.cons (Value.ref 133) (List.cons (Value.ref 134) (List.cons (Value.int 668 0) (List.cons (Value.int 102 0) (List.cons (Value.str (Str.ofString "/claim/cut.py") 669) List.nil))))))))))))))))))))) (List.toArray List.nil)) ::
  (nat_lit 136, Obj.mk (Value.type "function") Option.none (Data.func (FuncData.mk (Str.ofString "_truth") (Str.ofString "_truth") (fA 20) (FuncBody.stmts (fB 20)) (fS 20) 3 List.nil Value.none Value.none Value.none (Value.str (Str.ofString "binascii") 627) Option.none (Value.ref 135) Value.none 0)) (List.toArray List.nil)) ::
  (nat_lit 137, Obj.mk (Value.type "tuple") Option.none (Data.seq (List.toArray List.nil)) (List.toArray List.nil)) ::
  (nat_lit 139, Obj.mk (Value.type "tuple") Option.none (Data.seq (List.toArray (List.cons (Value.str (Str.ofString "c") 676) List.nil))) (List.toArray List.nil)) ::
  (nat_lit 140, Obj.mk (Value.type "tuple") Option.none (Data.seq (List.toArray List.nil)) (List.toArray List.nil)) ::
  (nat_lit 142, Obj.mk (Value.type "code") Option.none (Data.fields (List.toArray (List.cons (Value.str (Str.ofString "_b64_value") 673) (List.cons (Value.str (Str.ofString "_b64_value") 674) (List.cons (Value.str (Str.ofString "/claim/cut.py") 675) (List.cons (Value.int 108 0) (List.cons (Value.int 1 0) (List.cons (Value.int 0 0) (List.cons (Value.int 0 0) (List.cons (Value.int 3 0) (List.cons (Value.ref 137) (List.cons (Value.bool Bool.true) (List.cons (Value.int 276 0) (List.cons (Value.ref 138) (List.cons Value.none (List.cons (Value.ref 139) (List.cons (Value.ref 140) (List.cons (Value.ref 141) (List.cons (Value.int 677 0) (List.cons (Value.int 108 0) (List.cons (Value.str (Str.ofString "/claim/cut.py") 678) List.nil))))))))))))))))))))) (List.toArray List.nil)) ::
  (nat_lit 143, Obj.mk (Value.type "function") Option.none (Data.func (FuncData.mk (Str.ofString "_b64_value") (Str.ofString "_b64_value") (fA 22) (FuncBody.stmts (fB 22)) (fS 22) 3 List.nil Value.none Value.none Value.none (Value.str (Str.ofString "binascii") 627) Option.none (Value.ref 142) Value.none 0)) (List.toArray List.nil)) ::
  (nat_lit 144, Obj.mk (Value.type "dict") Option.none (Data.dict (List.toArray (List.cons (DictEntry.mk (PyData.keyHash P (Str.ofString "strict_mode")) (Value.str (Str.ofString "strict_mode") 680) (Value.bool Bool.false)) List.nil)) 1) (List.toArray List.nil)) ::
  (nat_lit 145, Obj.mk (Value.type "tuple") Option.none (Data.seq (List.toArray List.nil)) (List.toArray List.nil)) ::
  (nat_lit 147, Obj.mk (Value.type "tuple") Option.none (Data.seq (List.toArray (List.cons (Value.str (Str.ofString "data") 684) (List.cons (Value.str (Str.ofString "strict_mode") 685) (List.cons (Value.str (Str.ofString "ascii_data") 686) (List.cons (Value.str (Str.ofString "out") 687) (List.cons (Value.str (Str.ofString "quad_pos") 688) (List.cons (Value.str (Str.ofString "leftchar") 689) (List.cons (Value.str (Str.ofString "pads") 690) (List.cons (Value.str (Str.ofString "i") 691) (List.cons (Value.str (Str.ofString "this_ch") 692) List.nil))))))))))) (List.toArray List.nil)) ::
  (nat_lit 148, Obj.mk (Value.type "tuple") Option.none (Data.seq (List.toArray List.nil)) (List.toArray List.nil)) ::
  (nat_lit 150, Obj.mk (Value.type "code") Option.none (Data.fields (List.toArray (List.cons (Value.str (Str.ofString "a2b_base64") 681) (List.cons (Value.str (Str.ofString "a2b_base64") 682) (List.cons (Value.str (Str.ofString "/claim/cut.py") 683) (List.cons (Value.int 120 0) (List.cons (Value.int 1 0) (List.cons (Value.int 1 0) (List.cons (Value.int 1 0) (List.cons (Value.int 3 0) (List.cons (Value.ref 145) (List.cons (Value.bool Bool.true) (List.cons (Value.int 276 0) (List.cons (Value.ref 146) (List.cons Value.none (List.cons (Value.ref 147) (List.cons (Value.ref 148) (List.cons (Value.ref 149) (List.cons (Value.int 693 0) (List.cons (Value.int 120 0) (List.cons (Value.str (Str.ofString "/claim/cut.py") 694) List.nil))))))))))))))))))))) (List.toArray List.nil)) ::
  (nat_lit 151, Obj.mk (Value.type "function") Option.none (Data.func (FuncData.mk (Str.ofString "a2b_base64") (Str.ofString "a2b_base64") (fA 23) (FuncBody.stmts (fB 23)) (fS 23) 3 List.nil Value.none (Value.ref 144) Value.none (Value.str (Str.ofString "binascii") 627) Option.none (Value.ref 150) Value.none 0)) (List.toArray List.nil)) ::
  (nat_lit 152, Obj.mk (Value.type "dict") Option.none (Data.dict (List.toArray (List.cons (DictEntry.mk (PyData.keyHash P (Str.ofString "newline")) (Value.str (Str.ofString "newline") 696) (Value.bool Bool.true)) List.nil)) 1) (List.toArray List.nil)) ::
  (nat_lit 153, Obj.mk (Value.type "tuple") Option.none (Data.seq (List.toArray List.nil)) (List.toArray List.nil)) ::
  (nat_lit 155, Obj.mk (Value.type "tuple") Option.none (Data.seq (List.toArray (List.cons (Value.str (Str.ofString "data") 700) (List.cons (Value.str (Str.ofString "newline") 701) (List.cons (Value.str (Str.ofString "bin_data") 702) (List.cons (Value.str (Str.ofString "out") 703) (List.cons (Value.str (Str.ofString "leftbits") 704) (List.cons (Value.str (Str.ofString "leftchar") 705) (List.cons (Value.str (Str.ofString "b") 706) List.nil))))))))) (List.toArray List.nil)) ::
  (nat_lit 156, Obj.mk (Value.type "tuple") Option.none (Data.seq (List.toArray List.nil)) (List.toArray List.nil)) ::
  (nat_lit 158, Obj.mk (Value.type "code") Option.none (Data.fields (List.toArray (List.cons (Value.str (Str.ofString "b2a_base64") 697) (List.cons (Value.str (Str.ofString "b2a_base64") 698) (List.cons (Value.str (Str.ofString "/claim/cut.py") 699) (List.cons (Value.int 174 0) (List.cons (Value.int 1 0) (List.cons (Value.int 1 0) (List.cons (Value.int 1 0) (List.cons (Value.int 3 0) (List.cons (Value.ref 153) (List.cons (Value.bool Bool.true) (List.cons (Value.int 276 0) (List.cons (Value.ref 154) (List.cons Value.none (List.cons (Value.ref 155) (List.cons (Value.ref 156) (List.cons (Value.ref 157) (List.cons (Value.int 707 0) (List.cons (Value.int 174 0) (List.cons (Value.str (Str.ofString "/claim/cut.py") 708) List.nil))))))))))))))))))))) (List.toArray List.nil)) ::
  (nat_lit 159, Obj.mk (Value.type "function") Option.none (Data.func (FuncData.mk (Str.ofString "b2a_base64") (Str.ofString "b2a_base64") (fA 24) (FuncBody.stmts (fB 24)) (fS 24) 3 List.nil Value.none (Value.ref 152) Value.none (Value.str (Str.ofString "binascii") 627) Option.none (Value.ref 158) Value.none 0)) (List.toArray List.nil)) ::
  (nat_lit 160, Obj.mk (Value.type "tuple") Option.none (Data.seq (List.toArray (List.cons Value.none List.nil))) (List.toArray List.nil)) ::
  (nat_lit 161, Obj.mk (Value.type "tuple") Option.none (Data.seq (List.toArray List.nil)) (List.toArray List.nil)) ::
  (nat_lit 163, Obj.mk (Value.type "tuple") Option.none (Data.seq (List.toArray (List.cons (Value.str (Str.ofString "s") 715) (List.cons (Value.str (Str.ofString "altchars") 716) (List.cons (Value.str (Str.ofString "encoded") 717) List.nil))))) (List.toArray List.nil)) ::
  (nat_lit 164, Obj.mk (Value.type "tuple") Option.none (Data.seq (List.toArray List.nil)) (List.toArray List.nil)) ::
  (nat_lit 166, Obj.mk (Value.type "code") Option.none (Data.fields (List.toArray (List.cons (Value.str (Str.ofString "b64encode") 712) (List.cons (Value.str (Str.ofString "b64encode") 713) (List.cons (Value.str (Str.ofString "/claim/cut.py") 714) (List.cons (Value.int 197 0) (List.cons (Value.int 2 0) (List.cons (Value.int 0 0) (List.cons (Value.int 0 0) (List.cons (Value.int 3 0) (List.cons (Value.ref 161) (List.cons (Value.bool Bool.true) (List.cons (Value.int 276 0) (List.cons (Value.ref 162) (List.cons Value.none (List.cons (Value.ref 163) (List.cons (Value.ref 164) (List.cons (Value.ref 165) (List.cons (Value.int 718 0) (List.cons (Value.int 197 0) (List.cons (Value.str (Str.ofString "/claim/cut.py") 719) List.nil))))))))))))))))))))) (List.toArray List.nil)) ::
  (nat_lit 167, Obj.mk (Value.type "function") Option.none (Data.func (FuncData.mk (Str.ofString "b64encode") (Str.ofString "b64encode") (fA 26) (FuncBody.stmts (fB 26)) (fS 26) 3 List.nil (Value.ref 160) Value.none Value.none (Value.str (Str.ofString "cpy313.base64") 710) Option.none (Value.ref 166) Value.none 0)) (List.toArray List.nil)) ::
  (nat_lit 168, Obj.mk (Value.type "tuple") Option.none (Data.seq (List.toArray (List.cons Value.none (List.cons (Value.bool Bool.false) List.nil)))) (List.toArray List.nil)) ::
  (nat_lit 169, Obj.mk (Value.type "tuple") Option.none (Data.seq (List.toArray List.nil)) (List.toArray List.nil)) ::
  (nat_lit 171, Obj.mk (Value.type "tuple") Option.none (Data.seq (List.toArray (List.cons (Value.str (Str.ofString "s") 724) (List.cons (Value.str (Str.ofString "altchars") 725) (List.cons (Value.str (Str.ofString "validate") 726) List.nil))))) (List.toArray List.nil)) ::
  (nat_lit 172, Obj.mk (Value.type "tuple") Option.none (Data.seq (List.toArray List.nil)) (List.toArray List.nil)) ::
  (nat_lit 174, Obj.mk (Value.type "code") Option.none (Data.fields (List.toArray (List.cons (Value.str (Str.ofString "b64decode") 721) (List.cons (Value.str (Str.ofString "b64decode") 722) (List.cons (Value.str (Str.ofString "/claim/cut.py") 723) (List.cons (Value.int 203 0) (List.cons (Value.int 3 0) (List.cons (Value.int 0 0) (List.cons (Value.int 0 0) (List.cons (Value.int 3 0) (List.cons (Value.ref 169) (List.cons (Value.bool Bool.true) (List.cons (Value.int 276 0) (List.cons (Value.ref 170) (List.cons Value.none (List.cons (Value.ref 171) (List.cons (Value.ref 172) (List.cons (Value.ref 173) (List.cons (Value.int 727 0) (List.cons (Value.int 203 0) (List.cons (Value.str (Str.ofString "/claim/cut.py") 728) List.nil))))))))))))))))))))) (List.toArray List.nil)) ::
  (nat_lit 175, Obj.mk (Value.type "function") Option.none (Data.func (FuncData.mk (Str.ofString "b64decode") (Str.ofString "b64decode") (fA 27) (FuncBody.stmts (fB 27)) (fS 27) 3 List.nil (Value.ref 168) Value.none Value.none (Value.str (Str.ofString "cpy313.base64") 710) Option.none (Value.ref 174) Value.none 0)) (List.toArray List.nil)) ::
  (nat_lit 176, Obj.mk (Value.type "tuple") Option.none (Data.seq (List.toArray List.nil)) (List.toArray List.nil)) ::
  (nat_lit 178, Obj.mk (Value.type "tuple") Option.none (Data.seq (List.toArray (List.cons (Value.str (Str.ofString "row") 735) (List.cons (Value.str (Str.ofString "marks") 736) (List.cons (Value.str (Str.ofString "signs") 737) (List.cons (Value.str (Str.ofString "figure") 738) List.nil)))))) (List.toArray List.nil)) ::
  (nat_lit 179, Obj.mk (Value.type "tuple") Option.none (Data.seq (List.toArray List.nil)) (List.toArray List.nil)) ::
  (nat_lit 181, Obj.mk (Value.type "code") Option.none (Data.fields (List.toArray (List.cons (Value.str (Str.ofString "_law_signs") 732) (List.cons (Value.str (Str.ofString "_law_signs") 733) (List.cons (Value.str (Str.ofString "/claim/cut.py") 734) (List.cons (Value.int 211 0) (List.cons (Value.int 2 0) (List.cons (Value.int 0 0) (List.cons (Value.int 0 0) (List.cons (Value.int 3 0) (List.cons (Value.ref 176) (List.cons (Value.bool Bool.true) (List.cons (Value.int 276 0) (List.cons (Value.ref 177) (List.cons Value.none (List.cons (Value.ref 178) (List.cons (Value.ref 179) (List.cons (Value.ref 180) (List.cons (Value.int 739 0) (List.cons (Value.int 211 0) (List.cons (Value.str (Str.ofString "/claim/cut.py") 740) List.nil))))))))))))))))))))) (List.toArray List.nil)) ::
  (nat_lit 182, Obj.mk (Value.type "function") Option.none (Data.func (FuncData.mk (Str.ofString "_law_signs") (Str.ofString "_law_signs") (fA 29) (FuncBody.stmts (fB 29)) (fS 29) 3 List.nil Value.none Value.none Value.none (Value.str (Str.ofString "law_pa0034_01") 730) Option.none (Value.ref 181) Value.none 0)) (List.toArray List.nil)) ::
  (nat_lit 183, Obj.mk (Value.type "tuple") Option.none (Data.seq (List.toArray List.nil)) (List.toArray List.nil)) ::
  (nat_lit 185, Obj.mk (Value.type "tuple") Option.none (Data.seq (List.toArray (List.cons (Value.str (Str.ofString "row") 745) (List.cons (Value.str (Str.ofString "octets") 746) (List.cons (Value.str (Str.ofString "held") 747) (List.cons (Value.str (Str.ofString "bits") 748) (List.cons (Value.str (Str.ofString "figure") 749) List.nil))))))) (List.toArray List.nil)) ::
  (nat_lit 186, Obj.mk (Value.type "tuple") Option.none (Data.seq (List.toArray List.nil)) (List.toArray List.nil)) ::
  (nat_lit 188, Obj.mk (Value.type "code") Option.none (Data.fields (List.toArray (List.cons (Value.str (Str.ofString "_law_octets") 742) (List.cons (Value.str (Str.ofString "_law_octets") 743) (List.cons (Value.str (Str.ofString "/claim/cut.py") 744) (List.cons (Value.int 223 0) (List.cons (Value.int 1 0) (List.cons (Value.int 0 0) (List.cons (Value.int 0 0) (List.cons (Value.int 3 0) (List.cons (Value.ref 183) (List.cons (Value.bool Bool.true) (List.cons (Value.int 276 0) (List.cons (Value.ref 184) (List.cons Value.none (List.cons (Value.ref 185) (List.cons (Value.ref 186) (List.cons (Value.ref 187) (List.cons (Value.int 750 0) (List.cons (Value.int 223 0) (List.cons (Value.str (Str.ofString "/claim/cut.py") 751) List.nil))))))))))))))))))))) (List.toArray List.nil)) ::
  (nat_lit 189, Obj.mk (Value.type "function") Option.none (Data.func (FuncData.mk (Str.ofString "_law_octets") (Str.ofString "_law_octets") (fA 30) (FuncBody.stmts (fB 30)) (fS 30) 3 List.nil Value.none Value.none Value.none (Value.str (Str.ofString "law_pa0034_01") 730) Option.none (Value.ref 188) Value.none 0)) (List.toArray List.nil)) ::
  (nat_lit 190, Obj.mk (Value.type "tuple") Option.none (Data.seq (List.toArray List.nil)) (List.toArray List.nil)) ::
  (nat_lit 192, Obj.mk (Value.type "tuple") Option.none (Data.seq (List.toArray (List.cons (Value.str (Str.ofString "row") 756) (List.cons (Value.str (Str.ofString "left") 757) List.nil)))) (List.toArray List.nil)) ::
  (nat_lit 193, Obj.mk (Value.type "tuple") Option.none (Data.seq (List.toArray List.nil)) (List.toArray List.nil)) ::
  (nat_lit 195, Obj.mk (Value.type "code") Option.none (Data.fields (List.toArray (List.cons (Value.str (Str.ofString "_law_whole") 753) (List.cons (Value.str (Str.ofString "_law_whole") 754) (List.cons (Value.str (Str.ofString "/claim/cut.py") 755) (List.cons (Value.int 235 0) (List.cons (Value.int 1 0) (List.cons (Value.int 0 0) (List.cons (Value.int 0 0) (List.cons (Value.int 3 0) (List.cons (Value.ref 190) (List.cons (Value.bool Bool.true) (List.cons (Value.int 276 0) (List.cons (Value.ref 191) (List.cons Value.none (List.cons (Value.ref 192) (List.cons (Value.ref 193) (List.cons (Value.ref 194) (List.cons (Value.int 758 0) (List.cons (Value.int 235 0) (List.cons (Value.str (Str.ofString "/claim/cut.py") 759) List.nil))))))))))))))))))))) (List.toArray List.nil)) ::
  (nat_lit 196, Obj.mk (Value.type "function") Option.none (Data.func (FuncData.mk (Str.ofString "_law_whole") (Str.ofString "_law_whole") (fA 31) (FuncBody.stmts (fB 31)) (fS 31) 3 List.nil Value.none Value.none Value.none (Value.str (Str.ofString "law_pa0034_01") 730) Option.none (Value.ref 195) Value.none 0)) (List.toArray List.nil)) ::
  (nat_lit 197, Obj.mk (Value.type "tuple") Option.none (Data.seq (List.toArray List.nil)) (List.toArray List.nil)) ::
  (nat_lit 199, Obj.mk (Value.type "tuple") Option.none (Data.seq (List.toArray (List.cons (Value.str (Str.ofString "row") 764) (List.cons (Value.str (Str.ofString "pads") 765) (List.cons (Value.str (Str.ofString "left") 766) List.nil))))) (List.toArray List.nil)) ::
  (nat_lit 200, Obj.mk (Value.type "tuple") Option.none (Data.seq (List.toArray List.nil)) (List.toArray List.nil)) ::
  (nat_lit 202, Obj.mk (Value.type "code") Option.none (Data.fields (List.toArray (List.cons (Value.str (Str.ofString "_law_read") 761) (List.cons (Value.str (Str.ofString "_law_read") 762) (List.cons (Value.str (Str.ofString "/claim/cut.py") 763) (List.cons (Value.int 244 0) (List.cons (Value.int 2 0) (List.cons (Value.int 0 0) (List.cons (Value.int 0 0) (List.cons (Value.int 3 0) (List.cons (Value.ref 197) (List.cons (Value.bool Bool.true) (List.cons (Value.int 276 0) (List.cons (Value.ref 198) (List.cons Value.none (List.cons (Value.ref 199) (List.cons (Value.ref 200) (List.cons (Value.ref 201) (List.cons (Value.int 767 0) (List.cons (Value.int 244 0) (List.cons (Value.str (Str.ofString "/claim/cut.py") 768) List.nil))))))))))))))))))))) (List.toArray List.nil)) ::
  (nat_lit 203, Obj.mk (Value.type "function") Option.none (Data.func (FuncData.mk (Str.ofString "_law_read") (Str.ofString "_law_read") (fA 32) (FuncBody.stmts (fB 32)) (fS 32) 3 List.nil Value.none Value.none Value.none (Value.str (Str.ofString "law_pa0034_01") 730) Option.none (Value.ref 202) Value.none 0)) (List.toArray List.nil)) ::
  (nat_lit 204, Obj.mk (Value.type "tuple") Option.none (Data.seq (List.toArray List.nil)) (List.toArray List.nil)) ::
  (nat_lit 206, Obj.mk (Value.type "tuple") Option.none (Data.seq (List.toArray (List.cons (Value.str (Str.ofString "text") 773) (List.cons (Value.str (Str.ofString "marks") 774) (List.cons (Value.str (Str.ofString "read") 775) List.nil))))) (List.toArray List.nil)) ::
  (nat_lit 207, Obj.mk (Value.type "tuple") Option.none (Data.seq (List.toArray List.nil)) (List.toArray List.nil)) ::
  (nat_lit 209, Obj.mk (Value.type "code") Option.none (Data.fields (List.toArray (List.cons (Value.str (Str.ofString "_law_told") 770) (List.cons (Value.str (Str.ofString "_law_told") 771) (List.cons (Value.str (Str.ofString "/claim/cut.py") 772) (List.cons (Value.int 249 0) (List.cons (Value.int 2 0) (List.cons (Value.int 0 0) (List.cons (Value.int 0 0) (List.cons (Value.int 3 0) (List.cons (Value.ref 204) (List.cons (Value.bool Bool.true) (List.cons (Value.int 276 0) (List.cons (Value.ref 205) (List.cons Value.none (List.cons (Value.ref 206) (List.cons (Value.ref 207) (List.cons (Value.ref 208) (List.cons (Value.int 776 0) (List.cons (Value.int 249 0) (List.cons (Value.str (Str.ofString "/claim/cut.py") 777) List.nil))))))))))))))))))))) (List.toArray List.nil)) ::
  (nat_lit 210, Obj.mk (Value.type "function") Option.none (Data.func (FuncData.mk (Str.ofString "_law_told") (Str.ofString "_law_told") (fA 33) (FuncBody.stmts (fB 33)) (fS 33) 3 List.nil Value.none Value.none Value.none (Value.str (Str.ofString "law_pa0034_01") 730) Option.none (Value.ref 209) Value.none 0)) (List.toArray List.nil)) ::
  (nat_lit 211, Obj.mk (Value.type "tuple") Option.none (Data.seq (List.toArray List.nil)) (List.toArray List.nil)) ::
  (nat_lit 214, Obj.mk (Value.type "code") Option.none (Data.fields (List.toArray (List.cons (Value.str (Str.ofString "_law_lists") 779) (List.cons (Value.str (Str.ofString "_law_lists") 780) (List.cons (Value.str (Str.ofString "/claim/cut.py") 781) (List.cons (Value.int 255 0) (List.cons (Value.int 2 0) (List.cons (Value.int 0 0) (List.cons (Value.int 0 0) (List.cons (Value.int 3 0) (List.cons (Value.ref 211) (List.cons (Value.bool Bool.true) (List.cons (Value.int 276 0) (List.cons (Value.ref 212) (List.cons Value.none (List.cons Value.none (List.cons Value.none (List.cons (Value.ref 213) (List.cons (Value.int 782 0) (List.cons (Value.int 255 0) (List.cons (Value.str (Str.ofString "/claim/cut.py") 783) List.nil))))))))))))))))))))) (List.toArray List.nil)) ::
  (nat_lit 215, Obj.mk (Value.type "function") Option.none (Data.func (FuncData.mk (Str.ofString "_law_lists") (Str.ofString "_law_lists") (fA 34) (FuncBody.stmts (fB 34)) (fS 34) 3 List.nil Value.none Value.none Value.none (Value.str (Str.ofString "law_pa0034_01") 730) Option.none (Value.ref 214) Value.none 0)) (List.toArray List.nil)) ::
  (nat_lit 216, Obj.mk (Value.type "tuple") Option.none (Data.seq (List.toArray List.nil)) (List.toArray List.nil)) ::
  (nat_lit 219, Obj.mk (Value.type "code") Option.none (Data.fields (List.toArray (List.cons (Value.str (Str.ofString "_law_pairs") 785) (List.cons (Value.str (Str.ofString "_law_pairs") 786) (List.cons (Value.str (Str.ofString "/claim/cut.py") 787) (List.cons (Value.int 266 0) (List.cons (Value.int 3 0) (List.cons (Value.int 0 0) (List.cons (Value.int 0 0) (List.cons (Value.int 3 0) (List.cons (Value.ref 216) (List.cons (Value.bool Bool.true) (List.cons (Value.int 276 0) (List.cons (Value.ref 217) (List.cons Value.none (List.cons Value.none (List.cons Value.none (List.cons (Value.ref 218) (List.cons (Value.int 788 0) (List.cons (Value.int 266 0) (List.cons (Value.str (Str.ofString "/claim/cut.py") 789) List.nil))))))))))))))))))))) (List.toArray List.nil)) ::
  (nat_lit 220, Obj.mk (Value.type "function") Option.none (Data.func (FuncData.mk (Str.ofString "_law_pairs") (Str.ofString "_law_pairs") (fA 35) (FuncBody.stmts (fB 35)) (fS 35) 3 List.nil Value.none Value.none Value.none (Value.str (Str.ofString "law_pa0034_01") 730) Option.none (Value.ref 219) Value.none 0)) (List.toArray List.nil)) ::
  (nat_lit 221, Obj.mk (Value.type "tuple") Option.none (Data.seq (List.toArray List.nil)) (List.toArray List.nil)) ::
  (nat_lit 224, Obj.mk (Value.type "code") Option.none (Data.fields (List.toArray (List.cons (Value.str (Str.ofString "law") 791) (List.cons (Value.str (Str.ofString "law") 792) (List.cons (Value.str (Str.ofString "/claim/cut.py") 793) (List.cons (Value.int 272 0) (List.cons (Value.int 1 0) (List.cons (Value.int 0 0) (List.cons (Value.int 0 0) (List.cons (Value.int 3 0) (List.cons (Value.ref 221) (List.cons (Value.bool Bool.true) (List.cons (Value.int 276 0) (List.cons (Value.ref 222) (List.cons Value.none (List.cons Value.none (List.cons Value.none (List.cons (Value.ref 223) (List.cons (Value.int 794 0) (List.cons (Value.int 272 0) (List.cons (Value.str (Str.ofString "/claim/cut.py") 795) List.nil))))))))))))))))))))) (List.toArray List.nil)) ::
  (nat_lit 225, Obj.mk (Value.type "function") Option.none (Data.func (FuncData.mk (Str.ofString "law") (Str.ofString "law") (fA 36) (FuncBody.stmts (fB 36)) (fS 36) 3 List.nil Value.none Value.none Value.none (Value.str (Str.ofString "law_pa0034_01") 730) Option.none (Value.ref 224) Value.none 0)) (List.toArray List.nil)) :: []
noncomputable def vw : Program := { prg with main := { prg.main with body := [0, 1, 3, 4, 5, 6, 7, 8, 9, 10, 11, 12, 14, 15, 17, 18, 19, 20, 21, 22, 29, 30, 31, 32, 33, 34, 35, 36].map sAt } }
end Mine
end
section
open PySem PySem.W PyProof.Rows
set_option Elab.async false
set_option maxRecDepth 100000
set_option maxHeartbeats 8000000
namespace Mine
noncomputable def ob (P : Params) (i : Nat) : Obj := ((hp P).lookup i).getD default
noncomputable def o1_0 (P : Params) : Obj := Obj.mk (Value.type "dict") none (Data.dict #[DictEntry.mk (PyData.keyHash P (Str.ofString "builtins")) (Value.str (Str.ofString "builtins") 162) (Value.ref 4), DictEntry.mk (PyData.keyHash P (Str.ofString "__main__")) (Value.str (Str.ofString "__main__") 163) (Value.ref 5), DictEntry.mk (PyData.keyHash P (Str.ofString "_sre")) (Value.str (Str.ofString "_sre") 244) (Value.ref 12)] 3) #[]
noncomputable def o3_0 (P : Params) : Obj := Obj.mk (Value.type "dict") none (Data.dict #[DictEntry.mk (PyData.keyHash P (Str.ofString "__name__")) (Value.str (Str.ofString "__name__") 165) (Value.str (Str.ofString "__main__") 164), DictEntry.mk (PyData.keyHash P (Str.ofString "__doc__")) (Value.str (Str.ofString "__doc__") 166) Value.none, DictEntry.mk (PyData.keyHash P (Str.ofString "__package__")) (Value.str (Str.ofString "__package__") 167) Value.none, DictEntry.mk (PyData.keyHash P (Str.ofString "__loader__")) (Value.str (Str.ofString "__loader__") 168) (Value.builtin "__main__.__loader__#opaque"), DictEntry.mk (PyData.keyHash P (Str.ofString "__spec__")) (Value.str (Str.ofString "__spec__") 169) Value.none, DictEntry.mk (PyData.keyHash P (Str.ofString "__annotations__")) (Value.str (Str.ofString "__annotations__") 170) (Value.ref 6), DictEntry.mk (PyData.keyHash P (Str.ofString "__builtins__")) (Value.str (Str.ofString "__builtins__") 171) (Value.ref 4), DictEntry.mk (PyData.keyHash P (Str.ofString "__file__")) (Value.str (Str.ofString "__file__") 173) (Value.str (Str.ofString "/claim/cut.py") 172), DictEntry.mk (PyData.keyHash P (Str.ofString "__cached__")) (Value.str (Str.ofString "__cached__") 174) Value.none, DictEntry.mk (PyData.keyHash P (Str.ofString "_sre")) (Value.str (Str.ofString "_sre") 275) (Value.ref 12)] 10) #[]
noncomputable def o5_0 (P : Params) : Obj := Obj.mk (Value.type "module") (some 3) Data.plain #[]
noncomputable def o6_0 (P : Params) : Obj := Obj.mk (Value.type "dict") none (Data.dict #[]) #[]
noncomputable def o7_0 (P : Params) : Obj := Obj.mk (Value.type "tuple") none (Data.seq #[]) #[]
noncomputable def o8_0 (P : Params) : Obj := Obj.mk Value.none none (Data.fields #[]) #[]
noncomputable def o9_0 (P : Params) : Obj := Obj.mk (Value.type "code") none (Data.fields #[Value.str (Str.ofString "<module>") 176, Value.str (Str.ofString "<module>") 177, Value.str (Str.ofString "/claim/cut.py") 178, Value.int 1 0, Value.int 0 0, Value.int 0 0, Value.int 0 0, Value.int 0 0, Value.ref 7, Value.bool false, Value.int 175 0, Value.ref 8, Value.none, Value.none, Value.none, Value.none, Value.int 179 0, Value.int 1 0, Value.str (Str.ofString "/claim/cut.py") 180]) #[]
noncomputable def o10_0 (P : Params) : Obj := Obj.mk (Value.type "frame") none Data.plain #[some (Value.ref 9), some (Value.ref 3), some (Value.ref 3), none, some (Value.str (Str.ofString "__main__") 164), none, some (Value.ref 0)]
noncomputable def o11_0 (P : Params) : Obj := Obj.mk (Value.type "dict") none (Data.dict #[DictEntry.mk (PyData.keyHash P (Str.ofString "__name__")) (Value.str (Str.ofString "__name__") 247) (Value.str (Str.ofString "_sre") 246), DictEntry.mk (PyData.keyHash P (Str.ofString "__doc__")) (Value.str (Str.ofString "__doc__") 248) Value.none, DictEntry.mk (PyData.keyHash P (Str.ofString "__package__")) (Value.str (Str.ofString "__package__") 250) (Value.str (Str.ofString "") 249), DictEntry.mk (PyData.keyHash P (Str.ofString "__loader__")) (Value.str (Str.ofString "__loader__") 251) (Value.builtin "off-the-table:_sre.__loader__:shared#opaque"), DictEntry.mk (PyData.keyHash P (Str.ofString "__spec__")) (Value.str (Str.ofString "__spec__") 252) (Value.builtin "off-the-table:_sre.__spec__:shared#opaque"), DictEntry.mk (PyData.keyHash P (Str.ofString "compile")) (Value.str (Str.ofString "compile") 253) (Value.builtin "_sre.compile"), DictEntry.mk (PyData.keyHash P (Str.ofString "template")) (Value.str (Str.ofString "template") 254) (Value.builtin "off-the-table:_sre.template:shared#opaque"), DictEntry.mk (PyData.keyHash P (Str.ofString "getcodesize")) (Value.str (Str.ofString "getcodesize") 255) (Value.builtin "off-the-table:_sre.getcodesize:shared#opaque"), DictEntry.mk (PyData.keyHash P (Str.ofString "ascii_iscased")) (Value.str (Str.ofString "ascii_iscased") 256) (Value.builtin "off-the-table:_sre.ascii_iscased:shared#opaque"), DictEntry.mk (PyData.keyHash P (Str.ofString "unicode_iscased")) (Value.str (Str.ofString "unicode_iscased") 257) (Value.builtin "off-the-table:_sre.unicode_iscased:shared#opaque"), DictEntry.mk (PyData.keyHash P (Str.ofString "ascii_tolower")) (Value.str (Str.ofString "ascii_tolower") 258) (Value.builtin "off-the-table:_sre.ascii_tolower:shared#opaque"), DictEntry.mk (PyData.keyHash P (Str.ofString "unicode_tolower")) (Value.str (Str.ofString "unicode_tolower") 259) (Value.builtin "off-the-table:_sre.unicode_tolower:shared#opaque"), DictEntry.mk (PyData.keyHash P (Str.ofString "MAGIC")) (Value.str (Str.ofString "MAGIC") 261) (Value.int 20230612 260), DictEntry.mk (PyData.keyHash P (Str.ofString "CODESIZE")) (Value.str (Str.ofString "CODESIZE") 263) (Value.int 4 262), DictEntry.mk (PyData.keyHash P (Str.ofString "MAXREPEAT")) (Value.str (Str.ofString "MAXREPEAT") 265) (Value.int 4294967295 264), DictEntry.mk (PyData.keyHash P (Str.ofString "MAXGROUPS")) (Value.str (Str.ofString "MAXGROUPS") 267) (Value.int 1073741823 266), DictEntry.mk (PyData.keyHash P (Str.ofString "copyright")) (Value.str (Str.ofString "copyright") 269) (Value.str (Str.ofString " SRE 2.2.2 Copyright (c) 1997-2002 by Secret Labs AB ") 268)] 17) #[]
noncomputable def o12_0 (P : Params) : Obj := Obj.mk (Value.type "module") (some 11) Data.plain #[]
noncomputable def o13_0 (P : Params) : Obj := Obj.mk (Value.type "dict") none (Data.dict #[DictEntry.mk (PyData.keyHash P (Str.ofString "__module__")) (Value.str (Str.ofString "__module__") 189) (Value.str (Str.ofString "_frozen_importlib") 186), DictEntry.mk (PyData.keyHash P (Str.ofString "__firstlineno__")) (Value.str (Str.ofString "__firstlineno__") 190) (Value.int 971 187), DictEntry.mk (PyData.keyHash P (Str.ofString "__doc__")) (Value.str (Str.ofString "__doc__") 191) (Value.builtin "_frozen_importlib.BuiltinImporter.__doc__:str#opaque"), DictEntry.mk (PyData.keyHash P (Str.ofString "_ORIGIN")) (Value.str (Str.ofString "_ORIGIN") 192) (Value.str (Str.ofString "built-in") 188), DictEntry.mk (PyData.keyHash P (Str.ofString "find_spec")) (Value.str (Str.ofString "find_spec") 193) (Value.builtin "_frozen_importlib.BuiltinImporter.find_spec#opaque"), DictEntry.mk (PyData.keyHash P (Str.ofString "create_module")) (Value.str (Str.ofString "create_module") 194) (Value.builtin "_frozen_importlib.BuiltinImporter.create_module#opaque"), DictEntry.mk (PyData.keyHash P (Str.ofString "exec_module")) (Value.str (Str.ofString "exec_module") 195) (Value.builtin "_frozen_importlib.BuiltinImporter.exec_module#opaque"), DictEntry.mk (PyData.keyHash P (Str.ofString "get_code")) (Value.str (Str.ofString "get_code") 196) (Value.builtin "_frozen_importlib.BuiltinImporter.get_code#opaque"), DictEntry.mk (PyData.keyHash P (Str.ofString "get_source")) (Value.str (Str.ofString "get_source") 197) (Value.builtin "_frozen_importlib.BuiltinImporter.get_source#opaque"), DictEntry.mk (PyData.keyHash P (Str.ofString "is_package")) (Value.str (Str.ofString "is_package") 198) (Value.builtin "_frozen_importlib.BuiltinImporter.is_package#opaque"), DictEntry.mk (PyData.keyHash P (Str.ofString "load_module")) (Value.str (Str.ofString "load_module") 199) (Value.builtin "_frozen_importlib.BuiltinImporter.load_module#opaque"), DictEntry.mk (PyData.keyHash P (Str.ofString "__static_attributes__")) (Value.str (Str.ofString "__static_attributes__") 200) (Value.ref 15), DictEntry.mk (PyData.keyHash P (Str.ofString "__dict__")) (Value.str (Str.ofString "__dict__") 202) (Value.ref 16), DictEntry.mk (PyData.keyHash P (Str.ofString "__weakref__")) (Value.str (Str.ofString "__weakref__") 204) (Value.ref 17)] 14) #[]
noncomputable def o14_0 (P : Params) : Obj := Obj.mk (Value.type "type") none (Data.cls (ClassData.mk (Str.ofString "BuiltinImporter") [Value.type "object"] [Value.ref 14, Value.type "object"] 13 (Str.ofString "BuiltinImporter") true [] [] false none false)) #[]
noncomputable def o15_0 (P : Params) : Obj := Obj.mk (Value.type "tuple") none (Data.seq #[]) #[]
noncomputable def o16_0 (P : Params) : Obj := Obj.mk (Value.type "getset_descriptor") none (Data.fields #[Value.str (Str.ofString "__dict__") 201, Value.ref 14, Value.builtin "function.__dict__", Value.builtin "function.__dict__#set"]) #[]
noncomputable def o17_0 (P : Params) : Obj := Obj.mk (Value.type "getset_descriptor") none (Data.fields #[Value.str (Str.ofString "__weakref__") 203, Value.ref 14, Value.builtin "ExceptionGroup.__weakref__", Value.none]) #[]
noncomputable def o18_0 (P : Params) : Obj := Obj.mk Value.none none (Data.seq #[Value.int 13 0, Value.str (Str.mk #[6, 189, 10, 95, 95, 109, 111, 100, 117, 108, 101, 95, 95, 6, 186, 17, 95, 102, 114, 111, 122, 101, 110, 95, 105, 109, 112, 111, 114, 116, 108, 105, 98, 6, 190, 15, 95, 95, 102, 105, 114, 115, 116, 108, 105, 110, 101, 110, 111, 95, 95, 4, 187, 0, 971, 6, 191, 7, 95, 95, 100, 111, 99, 95, 95, 9, 52, 95, 102, 114, 111, 122, 101, 110, 95, 105, 109, 112, 111, 114, 116, 108, 105, 98, 46, 66, 117, 105, 108, 116, 105, 110, 73, 109, 112, 111, 114, 116, 101, 114, 46, 95, 95, 100, 111, 99, 95, 95, 58, 115, 116, 114, 35, 111, 112, 97, 113, 117, 101, 6, 192, 7, 95, 79, 82, 73, 71, 73, 78, 6, 188, 8, 98, 117, 105, 108, 116, 45, 105, 110, 6, 193, 9, 102, 105, 110, 100, 95, 115, 112, 101, 99, 9, 50, 95, 102, 114, 111, 122, 101, 110, 95, 105, 109, 112, 111, 114, 116, 108, 105, 98, 46, 66, 117, 105, 108, 116, 105, 110, 73, 109, 112, 111, 114, 116, 101, 114, 46, 102, 105, 110, 100, 95, 115, 112, 101, 99, 35, 111, 112, 97, 113, 117, 101, 6, 194, 13, 99, 114, 101, 97, 116, 101, 95, 109, 111, 100, 117, 108, 101, 9, 54, 95, 102, 114, 111, 122, 101, 110, 95, 105, 109, 112, 111, 114, 116, 108, 105, 98, 46, 66, 117, 105, 108, 116, 105, 110, 73, 109, 112, 111, 114, 116, 101, 114, 46, 99, 114, 101, 97, 116, 101, 95, 109, 111, 100, 117, 108, 101, 35, 111, 112, 97, 113, 117, 101, 6, 195, 11, 101, 120, 101, 99, 95, 109, 111, 100, 117, 108, 101, 9, 52, 95, 102, 114, 111, 122, 101, 110, 95, 105, 109, 112, 111, 114, 116, 108, 105, 98, 46, 66, 117, 105, 108, 116, 105, 110, 73, 109, 112, 111, 114, 116, 101, 114, 46, 101, 120, 101, 99, 95, 109, 111, 100, 117, 108, 101, 35, 111, 112, 97, 113, 117, 101, 6, 196, 8, 103, 101, 116, 95, 99, 111, 100, 101, 9, 49, 95, 102, 114, 111, 122, 101, 110, 95, 105, 109, 112, 111, 114, 116, 108, 105, 98, 46, 66, 117, 105, 108, 116, 105, 110, 73, 109, 112, 111, 114, 116, 101, 114, 46, 103, 101, 116, 95, 99, 111, 100, 101, 35, 111, 112, 97, 113, 117, 101, 6, 197, 10, 103, 101, 116, 95, 115, 111, 117, 114, 99, 101, 9, 51, 95, 102, 114, 111, 122, 101, 110, 95, 105, 109, 112, 111, 114, 116, 108, 105, 98, 46, 66, 117, 105, 108, 116, 105, 110, 73, 109, 112, 111, 114, 116, 101, 114, 46, 103, 101, 116, 95, 115, 111, 117, 114, 99, 101, 35, 111, 112, 97, 113, 117, 101, 6, 198, 10, 105, 115, 95, 112, 97, 99, 107, 97, 103, 101, 9, 51, 95, 102, 114, 111, 122, 101, 110, 95, 105, 109, 112, 111, 114, 116, 108, 105, 98, 46, 66, 117, 105, 108, 116, 105, 110, 73, 109, 112, 111, 114, 116, 101, 114, 46, 105, 115, 95, 112, 97, 99, 107, 97, 103, 101, 35, 111, 112, 97, 113, 117, 101, 6, 199, 11, 108, 111, 97, 100, 95, 109, 111, 100, 117, 108, 101, 9, 52, 95, 102, 114, 111, 122, 101, 110, 95, 105, 109, 112, 111, 114, 116, 108, 105, 98, 46, 66, 117, 105, 108, 116, 105, 110, 73, 109, 112, 111, 114, 116, 101, 114, 46, 108, 111, 97, 100, 95, 109, 111, 100, 117, 108, 101, 35, 111, 112, 97, 113, 117, 101, 6, 200, 21, 95, 95, 115, 116, 97, 116, 105, 99, 95, 97, 116, 116, 114, 105, 98, 117, 116, 101, 115, 95, 95, 4, 0, 0, 15, 6, 202, 8, 95, 95, 100, 105, 99, 116, 95, 95, 4, 0, 0, 16, 6, 204, 11, 95, 95, 119, 101, 97, 107, 114, 101, 102, 95, 95, 4, 0, 0, 17]) 0, Value.bool true, Value.bool true, Value.str (Str.ofString "") 205, Value.int 21 0, Value.str (Str.mk #[6, 227, 10, 95, 95, 109, 111, 100, 117, 108, 101, 95, 95, 6, 217, 17, 95, 102, 114, 111, 122, 101, 110, 95, 105, 109, 112, 111, 114, 116, 108, 105, 98, 6, 228, 15, 95, 95, 102, 105, 114, 115, 116, 108, 105, 110, 101, 110, 111, 95, 95, 4, 218, 0, 562, 6, 229, 7, 95, 95, 100, 111, 99, 95, 95, 9, 47, 95, 102, 114, 111, 122, 101, 110, 95, 105, 109, 112, 111, 114, 116, 108, 105, 98, 46, 77, 111, 100, 117, 108, 101, 83, 112, 101, 99, 46, 95, 95, 100, 111, 99, 95, 95, 58, 115, 116, 114, 35, 111, 112, 97, 113, 117, 101, 6, 230, 8, 95, 95, 105, 110, 105, 116, 95, 95, 9, 44, 95, 102, 114, 111, 122, 101, 110, 95, 105, 109, 112, 111, 114, 116, 108, 105, 98, 46, 77, 111, 100, 117, 108, 101, 83, 112, 101, 99, 46, 95, 95, 105, 110, 105, 116, 95, 95, 35, 111, 112, 97, 113, 117, 101, 6, 231, 8, 95, 95, 114, 101, 112, 114, 95, 95, 9, 44, 95, 102, 114, 111, 122, 101, 110, 95, 105, 109, 112, 111, 114, 116, 108, 105, 98, 46, 77, 111, 100, 117, 108, 101, 83, 112, 101, 99, 46, 95, 95, 114, 101, 112, 114, 95, 95, 35, 111, 112, 97, 113, 117, 101, 6, 232, 6, 95, 95, 101, 113, 95, 95, 9, 42, 95, 102, 114, 111, 122, 101, 110, 95, 105, 109, 112, 111, 114, 116, 108, 105, 98, 46, 77, 111, 100, 117, 108, 101, 83, 112, 101, 99, 46, 95, 95, 101, 113, 95, 95, 35, 111, 112, 97, 113, 117, 101, 6, 233, 6, 99, 97, 99, 104, 101, 100, 9, 42, 95, 102, 114, 111, 122, 101, 110, 95, 105, 109, 112, 111, 114, 116, 108, 105, 98, 46, 77, 111, 100, 117, 108, 101, 83, 112, 101, 99, 46, 99, 97, 99, 104, 101, 100, 35, 111, 112, 97, 113, 117, 101, 6, 234, 6, 112, 97, 114, 101, 110, 116, 9, 42, 95, 102, 114, 111, 122, 101, 110, 95, 105, 109, 112, 111, 114, 116, 108, 105, 98, 46, 77, 111, 100, 117, 108, 101, 83, 112, 101, 99, 46, 112, 97, 114, 101, 110, 116, 35, 111, 112, 97, 113, 117, 101, 6, 235, 12, 104, 97, 115, 95, 108, 111, 99, 97, 116, 105, 111, 110, 9, 48, 95, 102, 114, 111, 122, 101, 110, 95, 105, 109, 112, 111, 114, 116, 108, 105, 98, 46, 77, 111, 100, 117, 108, 101, 83, 112, 101, 99, 46, 104, 97, 115, 95, 108, 111, 99, 97, 116, 105, 111, 110, 35, 111, 112, 97, 113, 117, 101, 6, 236, 21, 95, 95, 115, 116, 97, 116, 105, 99, 95, 97, 116, 116, 114, 105, 98, 117, 116, 101, 115, 95, 95, 4, 0, 0, 23, 6, 238, 8, 95, 95, 100, 105, 99, 116, 95, 95, 4, 0, 0, 24, 6, 240, 11, 95, 95, 119, 101, 97, 107, 114, 101, 102, 95, 95, 4, 0, 0, 25, 6, 241, 8, 95, 95, 104, 97, 115, 104, 95, 95, 0]) 0, Value.bool true, Value.bool true, Value.str (Str.ofString "") 242] 1) #[]
noncomputable def o19_0 (P : Params) : Obj := Obj.mk (Value.type "list") none (Data.seq #[]) #[]
noncomputable def o20_0 (P : Params) : Obj := Obj.mk (Value.type "dict") none (Data.dict #[DictEntry.mk (PyData.keyHash P (Str.ofString "name")) (Value.str (Str.ofString "name") 208) (Value.str (Str.ofString "_sre") 207), DictEntry.mk (PyData.keyHash P (Str.ofString "loader")) (Value.str (Str.ofString "loader") 209) (Value.ref 14), DictEntry.mk (PyData.keyHash P (Str.ofString "origin")) (Value.str (Str.ofString "origin") 210) (Value.str (Str.ofString "built-in") 184), DictEntry.mk (PyData.keyHash P (Str.ofString "loader_state")) (Value.str (Str.ofString "loader_state") 211) Value.none, DictEntry.mk (PyData.keyHash P (Str.ofString "submodule_search_locations")) (Value.str (Str.ofString "submodule_search_locations") 212) Value.none, DictEntry.mk (PyData.keyHash P (Str.ofString "_uninitialized_submodules")) (Value.str (Str.ofString "_uninitialized_submodules") 213) (Value.ref 19), DictEntry.mk (PyData.keyHash P (Str.ofString "_set_fileattr")) (Value.str (Str.ofString "_set_fileattr") 214) (Value.bool false), DictEntry.mk (PyData.keyHash P (Str.ofString "_cached")) (Value.str (Str.ofString "_cached") 215) Value.none, DictEntry.mk (PyData.keyHash P (Str.ofString "_initializing")) (Value.str (Str.ofString "_initializing") 243) (Value.bool false)] 9) #[]
noncomputable def o21_0 (P : Params) : Obj := Obj.mk (Value.type "dict") none (Data.dict #[DictEntry.mk (PyData.keyHash P (Str.ofString "__module__")) (Value.str (Str.ofString "__module__") 227) (Value.str (Str.ofString "_frozen_importlib") 217), DictEntry.mk (PyData.keyHash P (Str.ofString "__firstlineno__")) (Value.str (Str.ofString "__firstlineno__") 228) (Value.int 562 218), DictEntry.mk (PyData.keyHash P (Str.ofString "__doc__")) (Value.str (Str.ofString "__doc__") 229) (Value.builtin "_frozen_importlib.ModuleSpec.__doc__:str#opaque"), DictEntry.mk (PyData.keyHash P (Str.ofString "__init__")) (Value.str (Str.ofString "__init__") 230) (Value.builtin "_frozen_importlib.ModuleSpec.__init__#opaque"), DictEntry.mk (PyData.keyHash P (Str.ofString "__repr__")) (Value.str (Str.ofString "__repr__") 231) (Value.builtin "_frozen_importlib.ModuleSpec.__repr__#opaque"), DictEntry.mk (PyData.keyHash P (Str.ofString "__eq__")) (Value.str (Str.ofString "__eq__") 232) (Value.builtin "_frozen_importlib.ModuleSpec.__eq__#opaque"), DictEntry.mk (PyData.keyHash P (Str.ofString "cached")) (Value.str (Str.ofString "cached") 233) (Value.builtin "_frozen_importlib.ModuleSpec.cached#opaque"), DictEntry.mk (PyData.keyHash P (Str.ofString "parent")) (Value.str (Str.ofString "parent") 234) (Value.builtin "_frozen_importlib.ModuleSpec.parent#opaque"), DictEntry.mk (PyData.keyHash P (Str.ofString "has_location")) (Value.str (Str.ofString "has_location") 235) (Value.builtin "_frozen_importlib.ModuleSpec.has_location#opaque"), DictEntry.mk (PyData.keyHash P (Str.ofString "__static_attributes__")) (Value.str (Str.ofString "__static_attributes__") 236) (Value.ref 23), DictEntry.mk (PyData.keyHash P (Str.ofString "__dict__")) (Value.str (Str.ofString "__dict__") 238) (Value.ref 24), DictEntry.mk (PyData.keyHash P (Str.ofString "__weakref__")) (Value.str (Str.ofString "__weakref__") 240) (Value.ref 25), DictEntry.mk (PyData.keyHash P (Str.ofString "__hash__")) (Value.str (Str.ofString "__hash__") 241) Value.none] 13) #[]
noncomputable def o22_0 (P : Params) : Obj := Obj.mk (Value.type "type") none (Data.cls (ClassData.mk (Str.ofString "ModuleSpec") [Value.type "object"] [Value.ref 22, Value.type "object"] 21 (Str.ofString "ModuleSpec") true [] [] false none false)) #[]
noncomputable def o23_0 (P : Params) : Obj := Obj.mk (Value.type "tuple") none (Data.seq #[Value.str (Str.ofString "_cached") 219, Value.str (Str.ofString "_set_fileattr") 220, Value.str (Str.ofString "_uninitialized_submodules") 221, Value.str (Str.ofString "loader") 222, Value.str (Str.ofString "loader_state") 223, Value.str (Str.ofString "name") 224, Value.str (Str.ofString "origin") 225, Value.str (Str.ofString "submodule_search_locations") 226]) #[]
noncomputable def o24_0 (P : Params) : Obj := Obj.mk (Value.type "getset_descriptor") none (Data.fields #[Value.str (Str.ofString "__dict__") 237, Value.ref 22, Value.builtin "function.__dict__", Value.builtin "function.__dict__#set"]) #[]
noncomputable def o25_0 (P : Params) : Obj := Obj.mk (Value.type "getset_descriptor") none (Data.fields #[Value.str (Str.ofString "__weakref__") 239, Value.ref 22, Value.builtin "ExceptionGroup.__weakref__", Value.none]) #[]
noncomputable def o26_0 (P : Params) : Obj := Obj.mk (Value.ref 22) (some 20) Data.plain #[]
noncomputable def o27_0 (P : Params) : Obj := Obj.mk Value.none none (Data.seq #[Value.int 11 0, Value.str (Str.mk #[6, 247, 8, 95, 95, 110, 97, 109, 101, 95, 95, 6, 246, 4, 95, 115, 114, 101, 6, 248, 7, 95, 95, 100, 111, 99, 95, 95, 0, 6, 250, 11, 95, 95, 112, 97, 99, 107, 97, 103, 101, 95, 95, 6, 249, 0, 6, 251, 10, 95, 95, 108, 111, 97, 100, 101, 114, 95, 95, 4, 0, 0, 14, 6, 252, 8, 95, 95, 115, 112, 101, 99, 95, 95, 4, 0, 0, 26, 6, 253, 7, 99, 111, 109, 112, 105, 108, 101, 9, 12, 95, 115, 114, 101, 46, 99, 111, 109, 112, 105, 108, 101, 6, 254, 8, 116, 101, 109, 112, 108, 97, 116, 101, 9, 13, 95, 115, 114, 101, 46, 116, 101, 109, 112, 108, 97, 116, 101, 6, 255, 11, 103, 101, 116, 99, 111, 100, 101, 115, 105, 122, 101, 9, 16, 95, 115, 114, 101, 46, 103, 101, 116, 99, 111, 100, 101, 115, 105, 122, 101, 6, 256, 13, 97, 115, 99, 105, 105, 95, 105, 115, 99, 97, 115, 101, 100, 9, 18, 95, 115, 114, 101, 46, 97, 115, 99, 105, 105, 95, 105, 115, 99, 97, 115, 101, 100, 6, 257, 15, 117, 110, 105, 99, 111, 100, 101, 95, 105, 115, 99, 97, 115, 101, 100, 9, 20, 95, 115, 114, 101, 46, 117, 110, 105, 99, 111, 100, 101, 95, 105, 115, 99, 97, 115, 101, 100, 6, 258, 13, 97, 115, 99, 105, 105, 95, 116, 111, 108, 111, 119, 101, 114, 9, 18, 95, 115, 114, 101, 46, 97, 115, 99, 105, 105, 95, 116, 111, 108, 111, 119, 101, 114, 6, 259, 15, 117, 110, 105, 99, 111, 100, 101, 95, 116, 111, 108, 111, 119, 101, 114, 9, 20, 95, 115, 114, 101, 46, 117, 110, 105, 99, 111, 100, 101, 95, 116, 111, 108, 111, 119, 101, 114, 6, 261, 5, 77, 65, 71, 73, 67, 4, 260, 0, 20230612, 6, 263, 8, 67, 79, 68, 69, 83, 73, 90, 69, 4, 262, 0, 4, 6, 265, 9, 77, 65, 88, 82, 69, 80, 69, 65, 84, 4, 264, 0, 4294967295, 6, 267, 9, 77, 65, 88, 71, 82, 79, 85, 80, 83, 4, 266, 0, 1073741823, 6, 269, 9, 99, 111, 112, 121, 114, 105, 103, 104, 116, 6, 268, 53, 32, 83, 82, 69, 32, 50, 46, 50, 46, 50, 32, 67, 111, 112, 121, 114, 105, 103, 104, 116, 32, 40, 99, 41, 32, 49, 57, 57, 55, 45, 50, 48, 48, 50, 32, 98, 121, 32, 83, 101, 99, 114, 101, 116, 32, 76, 97, 98, 115, 32, 65, 66, 32]) 0, Value.bool true, Value.bool false, Value.str (Str.ofString "_sre") 271]) #[]
noncomputable def H0 (P : Params) : Heap := ⟨#[boot_o_0 P, o1_0 P, ob P 2, o3_0 P, boot_o_4 P, o5_0 P, o6_0 P, o7_0 P, o8_0 P, o9_0 P, o10_0 P, o11_0 P, o12_0 P, o13_0 P, o14_0 P, o15_0 P, o16_0 P, o17_0 P, o18_0 P, o19_0 P, o20_0 P, o21_0 P, o22_0 P, o23_0 P, o24_0 P, o25_0 P, o26_0 P, o27_0 P], Life.mk [] [] [] 0 [] [] false #[] [] 0 false false false 0 [2000, 10, 10] false 0 true [] [] 0 false⟩
noncomputable def o28_a (P : Params) : Obj := Obj.mk (Value.type "tuple") none (Data.seq #[]) #[]
noncomputable def o29_a (P : Params) : Obj := Obj.mk Value.none none (Data.fields #[]) #[]
noncomputable def o30_a (P : Params) : Obj := Obj.mk (Value.type "code") none (Data.fields #[Value.str (Str.ofString "<module>") 277, Value.str (Str.ofString "<module>") 278, Value.str (Str.ofString "/claim/cut.py") 279, Value.int 1 0, Value.int 0 0, Value.int 0 0, Value.int 0 0, Value.int 0 0, Value.ref 28, Value.bool false, Value.int 276 0, Value.ref 29, Value.none, Value.none, Value.none, Value.none, Value.int 280 0, Value.int 1 0, Value.str (Str.ofString "/claim/cut.py") 281]) #[]
noncomputable def o31_a (P : Params) : Obj := Obj.mk (Value.type "frame") none Data.plain #[some (Value.ref 30), some (Value.ref 3), some (Value.ref 3), none, some (Value.str (Str.ofString "__main__") 164), none, some (Value.ref 0)]
noncomputable def Ha (P : Params) : Heap := ⟨#[boot_o_0 P, o1_0 P, ob P 2, o3_0 P, boot_o_4 P, o5_0 P, o6_0 P, o7_0 P, o8_0 P, o9_0 P, o10_0 P, o11_0 P, o12_0 P, o13_0 P, o14_0 P, o15_0 P, o16_0 P, o17_0 P, o18_0 P, o19_0 P, o20_0 P, o21_0 P, o22_0 P, o23_0 P, o24_0 P, o25_0 P, o26_0 P, o27_0 P, o28_a P, o29_a P, o30_a P, o31_a P], Life.mk [] [] [] 0 [] [] false #[] [] 0 false false false 0 [2000, 10, 10] false 0 true [] [] 0 false⟩
noncomputable def o3_8 (P : Params) : Obj := Obj.mk (Value.type "dict") none (Data.dict #[DictEntry.mk (PyData.keyHash P (Str.ofString "__name__")) (Value.str (Str.ofString "__name__") 165) (Value.str (Str.ofString "cpy313.http.cookiejar") 289), DictEntry.mk (PyData.keyHash P (Str.ofString "__doc__")) (Value.str (Str.ofString "__doc__") 166) Value.none, DictEntry.mk (PyData.keyHash P (Str.ofString "__package__")) (Value.str (Str.ofString "__package__") 167) Value.none, DictEntry.mk (PyData.keyHash P (Str.ofString "__loader__")) (Value.str (Str.ofString "__loader__") 168) (Value.builtin "__main__.__loader__#opaque"), DictEntry.mk (PyData.keyHash P (Str.ofString "__spec__")) (Value.str (Str.ofString "__spec__") 169) Value.none, DictEntry.mk (PyData.keyHash P (Str.ofString "__annotations__")) (Value.str (Str.ofString "__annotations__") 170) (Value.ref 6), DictEntry.mk (PyData.keyHash P (Str.ofString "__builtins__")) (Value.str (Str.ofString "__builtins__") 171) (Value.ref 4), DictEntry.mk (PyData.keyHash P (Str.ofString "__file__")) (Value.str (Str.ofString "__file__") 173) (Value.str (Str.ofString "/claim/cut.py") 172), DictEntry.mk (PyData.keyHash P (Str.ofString "__cached__")) (Value.str (Str.ofString "__cached__") 174) Value.none, DictEntry.mk (PyData.keyHash P (Str.ofString "_sre")) (Value.str (Str.ofString "_sre") 275) (Value.ref 12), DictEntry.mk (PyData.keyHash P (Str.ofString "_wall")) (Value.str (Str.ofString "_wall") 288) (Value.ref 38), DictEntry.mk (PyData.keyHash P (Str.ofString "_twin_re_7")) (Value.str (Str.ofString "_twin_re_7") 318) (Value.ref 43), DictEntry.mk (PyData.keyHash P (Str.ofString "unmatched")) (Value.str (Str.ofString "unmatched") 327) (Value.ref 50), DictEntry.mk (PyData.keyHash P (Str.ofString "HEADER_TOKEN_RE")) (Value.str (Str.ofString "HEADER_TOKEN_RE") 375) (Value.ref 55), DictEntry.mk (PyData.keyHash P (Str.ofString "HEADER_QUOTED_VALUE_RE")) (Value.str (Str.ofString "HEADER_QUOTED_VALUE_RE") 453) (Value.ref 60), DictEntry.mk (PyData.keyHash P (Str.ofString "HEADER_VALUE_RE")) (Value.str (Str.ofString "HEADER_VALUE_RE") 508) (Value.ref 65), DictEntry.mk (PyData.keyHash P (Str.ofString "HEADER_ESCAPE_RE")) (Value.str (Str.ofString "HEADER_ESCAPE_RE") 531) (Value.ref 70), DictEntry.mk (PyData.keyHash P (Str.ofString "split_header_words")) (Value.str (Str.ofString "split_header_words") 547) (Value.ref 77)] 18) #[]
noncomputable def o29_8 (P : Params) : Obj := Obj.mk Value.none none (Data.fields #[Value.int 2 0, Value.int 0 0, Value.ref 37, Value.int 7 0, Value.int 0 0, Value.ref 49, Value.int 14 0, Value.int 0 0, Value.ref 76]) #[]
noncomputable def o33_8 (P : Params) : Obj := Obj.mk Value.none none (Data.fields #[]) #[]
noncomputable def o36_8 (P : Params) : Obj := Obj.mk Value.none none (Data.func (FuncData.mk (Str.ofString "_wall") (Str.ofString "_wall") (fA 1) (FuncBody.stmts (fB 1)) (fS 1) 0 [] Value.none Value.none Value.none Value.none none Value.none Value.none 0)) #[]
noncomputable def o39_8 (P : Params) : Obj := Obj.mk (Value.type "list") none (Data.seq #[Value.int 14 294, Value.int 4 295, Value.int 0 296, Value.int 0 297, Value.int 4294967295 298, Value.int 6 299, Value.int 0 300, Value.int 24 301, Value.int 13 302, Value.int 0 303, Value.int 4294967295 304, Value.int 13 305, Value.int 8 306, Value.int 16 307, Value.int 61 308, Value.int 8 309, Value.int 12 310, Value.int 16 311, Value.int 59 312, Value.int 0 313, Value.int 1 314, Value.int 1 315]) #[]
noncomputable def o40_8 (P : Params) : Obj := Obj.mk (Value.type "dict") none (Data.dict #[]) #[]
noncomputable def o41_8 (P : Params) : Obj := Obj.mk (Value.type "tuple") none (Data.seq #[Value.none]) #[]
noncomputable def o45_8 (P : Params) : Obj := Obj.mk Value.none none (Data.fields #[]) #[]
noncomputable def o48_8 (P : Params) : Obj := Obj.mk Value.none none (Data.func (FuncData.mk (Str.ofString "unmatched") (Str.ofString "unmatched") (fA 4) (FuncBody.stmts (fB 4)) (fS 4) 0 [] Value.none Value.none Value.none Value.none none Value.none Value.none 0)) #[]
noncomputable def o51_8 (P : Params) : Obj := Obj.mk (Value.type "list") none (Data.seq #[Value.int 14 331, Value.int 4 332, Value.int 0 333, Value.int 1 334, Value.int 4294967295 335, Value.int 6 336, Value.int 0 337, Value.int 24 338, Value.int 9 339, Value.int 0 340, Value.int 4294967295 341, Value.int 13 342, Value.int 4 343, Value.int 8 344, Value.int 12 345, Value.int 0 346, Value.int 1 347, Value.int 17 348, Value.int 0 349, Value.int 24 350, Value.int 19 351, Value.int 1 352, Value.int 4294967295 353, Value.int 13 354, Value.int 14 355, Value.int 21 356, Value.int 9 357, Value.int 0 358, Value.int 671092736 359, Value.int 0 360, Value.int 0 361, Value.int 0 362, Value.int 0 363, Value.int 0 364, Value.int 0 365, Value.int 8 366, Value.int 12 367, Value.int 0 368, Value.int 1 369, Value.int 17 370, Value.int 1 371, Value.int 1 372]) #[]
noncomputable def o52_8 (P : Params) : Obj := Obj.mk (Value.type "dict") none (Data.dict #[]) #[]
noncomputable def o53_8 (P : Params) : Obj := Obj.mk (Value.type "tuple") none (Data.seq #[Value.none, Value.none]) #[]
noncomputable def o56_8 (P : Params) : Obj := Obj.mk (Value.type "list") none (Data.seq #[Value.int 14 379, Value.int 4 380, Value.int 0 381, Value.int 3 382, Value.int 4294967295 383, Value.int 6 384, Value.int 0 385, Value.int 24 386, Value.int 9 387, Value.int 0 388, Value.int 4294967295 389, Value.int 13 390, Value.int 4 391, Value.int 8 392, Value.int 12 393, Value.int 0 394, Value.int 1 395, Value.int 16 396, Value.int 61 397, Value.int 24 398, Value.int 9 399, Value.int 0 400, Value.int 4294967295 401, Value.int 13 402, Value.int 4 403, Value.int 8 404, Value.int 12 405, Value.int 0 406, Value.int 1 407, Value.int 16 408, Value.int 34 409, Value.int 17 410, Value.int 0 411, Value.int 24 412, Value.int 12 413, Value.int 0 414, Value.int 4294967295 415, Value.int 13 416, Value.int 7 417, Value.int 21 418, Value.int 16 419, Value.int 34 420, Value.int 16 421, Value.int 92 422, Value.int 0 423, Value.int 1 424, Value.int 23 425, Value.int 19 426, Value.int 0 427, Value.int 4294967295 428, Value.int 16 429, Value.int 92 430, Value.int 2 431, Value.int 24 432, Value.int 12 433, Value.int 0 434, Value.int 4294967295 435, Value.int 13 436, Value.int 7 437, Value.int 21 438, Value.int 16 439, Value.int 34 440, Value.int 16 441, Value.int 92 442, Value.int 0 443, Value.int 1 444, Value.int 18 445, Value.int 17 446, Value.int 1 447, Value.int 16 448, Value.int 34 449, Value.int 1 450]) #[]
noncomputable def o57_8 (P : Params) : Obj := Obj.mk (Value.type "dict") none (Data.dict #[]) #[]
noncomputable def o58_8 (P : Params) : Obj := Obj.mk (Value.type "tuple") none (Data.seq #[Value.none, Value.none]) #[]
noncomputable def o61_8 (P : Params) : Obj := Obj.mk (Value.type "list") none (Data.seq #[Value.int 14 457, Value.int 4 458, Value.int 0 459, Value.int 1 460, Value.int 4294967295 461, Value.int 6 462, Value.int 0 463, Value.int 24 464, Value.int 9 465, Value.int 0 466, Value.int 4294967295 467, Value.int 13 468, Value.int 4 469, Value.int 8 470, Value.int 12 471, Value.int 0 472, Value.int 1 473, Value.int 16 474, Value.int 61 475, Value.int 24 476, Value.int 9 477, Value.int 0 478, Value.int 4294967295 479, Value.int 13 480, Value.int 4 481, Value.int 8 482, Value.int 12 483, Value.int 0 484, Value.int 1 485, Value.int 17 486, Value.int 0 487, Value.int 24 488, Value.int 14 489, Value.int 0 490, Value.int 4294967295 491, Value.int 13 492, Value.int 9 493, Value.int 21 494, Value.int 8 495, Value.int 12 496, Value.int 16 497, Value.int 59 498, Value.int 16 499, Value.int 44 500, Value.int 0 501, Value.int 1 502, Value.int 17 503, Value.int 1 504, Value.int 1 505]) #[]
noncomputable def o62_8 (P : Params) : Obj := Obj.mk (Value.type "dict") none (Data.dict #[]) #[]
noncomputable def o63_8 (P : Params) : Obj := Obj.mk (Value.type "tuple") none (Data.seq #[Value.none, Value.none]) #[]
noncomputable def o66_8 (P : Params) : Obj := Obj.mk (Value.type "list") none (Data.seq #[Value.int 14 512, Value.int 8 513, Value.int 1 514, Value.int 2 515, Value.int 2 516, Value.int 1 517, Value.int 1 518, Value.int 92 519, Value.int 0 520, Value.int 16 521, Value.int 92 522, Value.int 17 523, Value.int 0 524, Value.int 2 525, Value.int 17 526, Value.int 1 527, Value.int 1 528]) #[]
noncomputable def o67_8 (P : Params) : Obj := Obj.mk (Value.type "dict") none (Data.dict #[]) #[]
noncomputable def o68_8 (P : Params) : Obj := Obj.mk (Value.type "tuple") none (Data.seq #[Value.none, Value.none]) #[]
noncomputable def o72_8 (P : Params) : Obj := Obj.mk Value.none none (Data.fields #[]) #[]
noncomputable def o75_8 (P : Params) : Obj := Obj.mk Value.none none (Data.func (FuncData.mk (Str.ofString "split_header_words") (Str.ofString "split_header_words") (fA 9) (FuncBody.stmts (fB 9)) (fS 9) 0 [] Value.none Value.none Value.none Value.none none Value.none Value.none 0)) #[]
noncomputable def H8 (P : Params) : Heap := ⟨#[boot_o_0 P, o1_0 P, ob P 2, o3_8 P, boot_o_4 P, o5_0 P, o6_0 P, o7_0 P, o8_0 P, o9_0 P, o10_0 P, o11_0 P, o12_0 P, o13_0 P, o14_0 P, o15_0 P, o16_0 P, o17_0 P, o18_0 P, o19_0 P, o20_0 P, o21_0 P, o22_0 P, o23_0 P, o24_0 P, o25_0 P, o26_0 P, o27_0 P, o28_a P, o29_8 P, o30_a P, o31_a P, ob P 32, o33_8 P, ob P 34, ob P 35, o36_8 P, ob P 37, ob P 38, o39_8 P, o40_8 P, o41_8 P, ob P 42, ob P 43, ob P 44, o45_8 P, ob P 46, ob P 47, o48_8 P, ob P 49, ob P 50, o51_8 P, o52_8 P, o53_8 P, ob P 54, ob P 55, o56_8 P, o57_8 P, o58_8 P, ob P 59, ob P 60, o61_8 P, o62_8 P, o63_8 P, ob P 64, ob P 65, o66_8 P, o67_8 P, o68_8 P, ob P 69, ob P 70, ob P 71, o72_8 P, ob P 73, ob P 74, o75_8 P, ob P 76, ob P 77], Life.mk [] [] [] 0 [] [] false #[] [] 0 false false false 0 [2000, 10, 10] false 0 true [] [] 0 false⟩
noncomputable def o3_16 (P : Params) : Obj := Obj.mk (Value.type "dict") none (Data.dict #[DictEntry.mk (PyData.keyHash P (Str.ofString "__name__")) (Value.str (Str.ofString "__name__") 165) (Value.str (Str.ofString "binascii") 627), DictEntry.mk (PyData.keyHash P (Str.ofString "__doc__")) (Value.str (Str.ofString "__doc__") 166) Value.none, DictEntry.mk (PyData.keyHash P (Str.ofString "__package__")) (Value.str (Str.ofString "__package__") 167) Value.none, DictEntry.mk (PyData.keyHash P (Str.ofString "__loader__")) (Value.str (Str.ofString "__loader__") 168) (Value.builtin "__main__.__loader__#opaque"), DictEntry.mk (PyData.keyHash P (Str.ofString "__spec__")) (Value.str (Str.ofString "__spec__") 169) Value.none, DictEntry.mk (PyData.keyHash P (Str.ofString "__annotations__")) (Value.str (Str.ofString "__annotations__") 170) (Value.ref 6), DictEntry.mk (PyData.keyHash P (Str.ofString "__builtins__")) (Value.str (Str.ofString "__builtins__") 171) (Value.ref 4), DictEntry.mk (PyData.keyHash P (Str.ofString "__file__")) (Value.str (Str.ofString "__file__") 173) (Value.str (Str.ofString "/claim/cut.py") 172), DictEntry.mk (PyData.keyHash P (Str.ofString "__cached__")) (Value.str (Str.ofString "__cached__") 174) Value.none, DictEntry.mk (PyData.keyHash P (Str.ofString "_sre")) (Value.str (Str.ofString "_sre") 275) (Value.ref 12), DictEntry.mk (PyData.keyHash P (Str.ofString "_wall")) (Value.str (Str.ofString "_wall") 288) (Value.ref 38), DictEntry.mk (PyData.keyHash P (Str.ofString "_twin_re_7")) (Value.str (Str.ofString "_twin_re_7") 318) (Value.ref 43), DictEntry.mk (PyData.keyHash P (Str.ofString "unmatched")) (Value.str (Str.ofString "unmatched") 327) (Value.ref 50), DictEntry.mk (PyData.keyHash P (Str.ofString "HEADER_TOKEN_RE")) (Value.str (Str.ofString "HEADER_TOKEN_RE") 375) (Value.ref 55), DictEntry.mk (PyData.keyHash P (Str.ofString "HEADER_QUOTED_VALUE_RE")) (Value.str (Str.ofString "HEADER_QUOTED_VALUE_RE") 453) (Value.ref 60), DictEntry.mk (PyData.keyHash P (Str.ofString "HEADER_VALUE_RE")) (Value.str (Str.ofString "HEADER_VALUE_RE") 508) (Value.ref 65), DictEntry.mk (PyData.keyHash P (Str.ofString "HEADER_ESCAPE_RE")) (Value.str (Str.ofString "HEADER_ESCAPE_RE") 531) (Value.ref 70), DictEntry.mk (PyData.keyHash P (Str.ofString "split_header_words")) (Value.str (Str.ofString "split_header_words") 547) (Value.ref 77), DictEntry.mk (PyData.keyHash P (Str.ofString "HEADER_JOIN_TOKEN_RE")) (Value.str (Str.ofString "HEADER_JOIN_TOKEN_RE") 576) (Value.ref 82), DictEntry.mk (PyData.keyHash P (Str.ofString "HEADER_JOIN_ESCAPE_RE")) (Value.str (Str.ofString "HEADER_JOIN_ESCAPE_RE") 604) (Value.ref 87), DictEntry.mk (PyData.keyHash P (Str.ofString "join_header_words")) (Value.str (Str.ofString "join_header_words") 616) (Value.ref 94), DictEntry.mk (PyData.keyHash P (Str.ofString "bytes_types")) (Value.str (Str.ofString "bytes_types") 619) (Value.ref 95), DictEntry.mk (PyData.keyHash P (Str.ofString "_bytes_from_decode_data")) (Value.str (Str.ofString "_bytes_from_decode_data") 626) (Value.ref 102), DictEntry.mk (PyData.keyHash P (Str.ofString "Error")) (Value.str (Str.ofString "Error") 646) (Value.ref 112)] 24) #[]
noncomputable def o29_16 (P : Params) : Obj := Obj.mk Value.none none (Data.fields #[Value.int 2 0, Value.int 0 0, Value.ref 37, Value.int 7 0, Value.int 0 0, Value.ref 49, Value.int 14 0, Value.int 0 0, Value.ref 76, Value.int 53 0, Value.int 0 0, Value.ref 93, Value.int 69 0, Value.int 0 0, Value.ref 101, Value.int 82 0, Value.int 0 0, Value.ref 108]) #[]
noncomputable def o78_16 (P : Params) : Obj := Obj.mk (Value.type "list") none (Data.seq #[Value.int 14 551, Value.int 4 552, Value.int 0 553, Value.int 1 554, Value.int 4294967295 555, Value.int 24 556, Value.int 16 557, Value.int 1 558, Value.int 4294967295 559, Value.int 13 560, Value.int 11 561, Value.int 9 562, Value.int 0 563, Value.int 67071226 564, Value.int 3355443198 565, Value.int 1476395007 566, Value.int 0 567, Value.int 0 568, Value.int 0 569, Value.int 0 570, Value.int 0 571, Value.int 1 572, Value.int 1 573]) #[]
noncomputable def o79_16 (P : Params) : Obj := Obj.mk (Value.type "dict") none (Data.dict #[]) #[]
noncomputable def o80_16 (P : Params) : Obj := Obj.mk (Value.type "tuple") none (Data.seq #[Value.none]) #[]
noncomputable def o83_16 (P : Params) : Obj := Obj.mk (Value.type "list") none (Data.seq #[Value.int 14 580, Value.int 9 581, Value.int 4 582, Value.int 1 583, Value.int 1 584, Value.int 16 585, Value.int 34 586, Value.int 16 587, Value.int 92 588, Value.int 0 589, Value.int 17 590, Value.int 0 591, Value.int 13 592, Value.int 6 593, Value.int 16 594, Value.int 34 595, Value.int 16 596, Value.int 92 597, Value.int 0 598, Value.int 17 599, Value.int 1 600, Value.int 1 601]) #[]
noncomputable def o84_16 (P : Params) : Obj := Obj.mk (Value.type "dict") none (Data.dict #[]) #[]
noncomputable def o85_16 (P : Params) : Obj := Obj.mk (Value.type "tuple") none (Data.seq #[Value.none, Value.none]) #[]
noncomputable def o89_16 (P : Params) : Obj := Obj.mk Value.none none (Data.fields #[]) #[]
noncomputable def o92_16 (P : Params) : Obj := Obj.mk Value.none none (Data.func (FuncData.mk (Str.ofString "join_header_words") (Str.ofString "join_header_words") (fA 12) (FuncBody.stmts (fB 12)) (fS 12) 0 [] Value.none Value.none Value.none Value.none none Value.none Value.none 0)) #[]
noncomputable def o97_16 (P : Params) : Obj := Obj.mk Value.none none (Data.fields #[]) #[]
noncomputable def o100_16 (P : Params) : Obj := Obj.mk Value.none none (Data.func (FuncData.mk (Str.ofString "_bytes_from_decode_data") (Str.ofString "_bytes_from_decode_data") (fA 15) (FuncBody.stmts (fB 15)) (fS 15) 0 [] Value.none Value.none Value.none Value.none none Value.none Value.none 0)) #[]
noncomputable def o104_16 (P : Params) : Obj := Obj.mk (Value.type "builtin_function_or_method") none (Data.fields #[Value.builtin "type.__prepare__", Value.type "type"]) #[]
noncomputable def o105_16 (P : Params) : Obj := Obj.mk (Value.type "dict") none (Data.dict #[DictEntry.mk (PyData.keyHash P (Str.ofString "__module__")) (Value.str (Str.ofString "__module__") 636) (Value.str (Str.ofString "binascii") 627), DictEntry.mk (PyData.keyHash P (Str.ofString "__qualname__")) (Value.str (Str.ofString "__qualname__") 638) (Value.str (Str.ofString "Error") 637), DictEntry.mk (PyData.keyHash P (Str.ofString "__firstlineno__")) (Value.str (Str.ofString "__firstlineno__") 640) (Value.int 82 639), DictEntry.mk (PyData.keyHash P (Str.ofString "__static_attributes__")) (Value.str (Str.ofString "__static_attributes__") 641) (Value.ref 110)] 4) #[]
noncomputable def o106_16 (P : Params) : Obj := Obj.mk (Value.type "tuple") none (Data.seq #[]) #[]
noncomputable def o107_16 (P : Params) : Obj := Obj.mk Value.none none (Data.fields #[]) #[]
noncomputable def o108_16 (P : Params) : Obj := Obj.mk (Value.type "code") none (Data.fields #[Value.str (Str.ofString "Error") 631, Value.str (Str.ofString "Error") 632, Value.str (Str.ofString "/claim/cut.py") 633, Value.int 82 0, Value.int 0 0, Value.int 0 0, Value.int 0 0, Value.int 0 0, Value.ref 106, Value.bool false, Value.int 276 0, Value.ref 107, Value.none, Value.none, Value.none, Value.none, Value.int 634 0, Value.int 82 0, Value.str (Str.ofString "/claim/cut.py") 635]) #[]
noncomputable def o109_16 (P : Params) : Obj := Obj.mk (Value.type "frame") none Data.plain #[some (Value.ref 108), some (Value.ref 3), some (Value.ref 105), none, some (Value.str (Str.ofString "binascii") 627), none, some (Value.ref 0)]
noncomputable def o114_16 (P : Params) : Obj := Obj.mk (Value.type "super") none (Data.fields #[Value.ref 112, Value.ref 112, Value.ref 112]) #[]
noncomputable def o115_16 (P : Params) : Obj := Obj.mk (Value.type "builtin_function_or_method") none (Data.fields #[Value.builtin "object.__init_subclass__", Value.ref 112]) #[]
noncomputable def H16 (P : Params) : Heap := ⟨#[boot_o_0 P, o1_0 P, ob P 2, o3_16 P, boot_o_4 P, o5_0 P, o6_0 P, o7_0 P, o8_0 P, o9_0 P, o10_0 P, o11_0 P, o12_0 P, o13_0 P, o14_0 P, o15_0 P, o16_0 P, o17_0 P, o18_0 P, o19_0 P, o20_0 P, o21_0 P, o22_0 P, o23_0 P, o24_0 P, o25_0 P, o26_0 P, o27_0 P, o28_a P, o29_16 P, o30_a P, o31_a P, ob P 32, o33_8 P, ob P 34, ob P 35, o36_8 P, ob P 37, ob P 38, o39_8 P, o40_8 P, o41_8 P, ob P 42, ob P 43, ob P 44, o45_8 P, ob P 46, ob P 47, o48_8 P, ob P 49, ob P 50, o51_8 P, o52_8 P, o53_8 P, ob P 54, ob P 55, o56_8 P, o57_8 P, o58_8 P, ob P 59, ob P 60, o61_8 P, o62_8 P, o63_8 P, ob P 64, ob P 65, o66_8 P, o67_8 P, o68_8 P, ob P 69, ob P 70, ob P 71, o72_8 P, ob P 73, ob P 74, o75_8 P, ob P 76, ob P 77, o78_16 P, o79_16 P, o80_16 P, ob P 81, ob P 82, o83_16 P, o84_16 P, o85_16 P, ob P 86, ob P 87, ob P 88, o89_16 P, ob P 90, ob P 91, o92_16 P, ob P 93, ob P 94, ob P 95, ob P 96, o97_16 P, ob P 98, ob P 99, o100_16 P, ob P 101, ob P 102, ob P 103, o104_16 P, o105_16 P, o106_16 P, o107_16 P, o108_16 P, o109_16 P, ob P 110, ob P 111, ob P 112, ob P 113, o114_16 P, o115_16 P], Life.mk [] [] [] 0 [] [] false #[] [] 0 false false false 0 [2000, 10, 10] false 0 true [] [] 0 false⟩
noncomputable def o3_24 (P : Params) : Obj := Obj.mk (Value.type "dict") none (Data.dict #[DictEntry.mk (PyData.keyHash P (Str.ofString "__name__")) (Value.str (Str.ofString "__name__") 165) (Value.str (Str.ofString "cpy313.base64") 710), DictEntry.mk (PyData.keyHash P (Str.ofString "__doc__")) (Value.str (Str.ofString "__doc__") 166) Value.none, DictEntry.mk (PyData.keyHash P (Str.ofString "__package__")) (Value.str (Str.ofString "__package__") 167) Value.none, DictEntry.mk (PyData.keyHash P (Str.ofString "__loader__")) (Value.str (Str.ofString "__loader__") 168) (Value.builtin "__main__.__loader__#opaque"), DictEntry.mk (PyData.keyHash P (Str.ofString "__spec__")) (Value.str (Str.ofString "__spec__") 169) Value.none, DictEntry.mk (PyData.keyHash P (Str.ofString "__annotations__")) (Value.str (Str.ofString "__annotations__") 170) (Value.ref 6), DictEntry.mk (PyData.keyHash P (Str.ofString "__builtins__")) (Value.str (Str.ofString "__builtins__") 171) (Value.ref 4), DictEntry.mk (PyData.keyHash P (Str.ofString "__file__")) (Value.str (Str.ofString "__file__") 173) (Value.str (Str.ofString "/claim/cut.py") 172), DictEntry.mk (PyData.keyHash P (Str.ofString "__cached__")) (Value.str (Str.ofString "__cached__") 174) Value.none, DictEntry.mk (PyData.keyHash P (Str.ofString "_sre")) (Value.str (Str.ofString "_sre") 275) (Value.ref 12), DictEntry.mk (PyData.keyHash P (Str.ofString "_wall")) (Value.str (Str.ofString "_wall") 288) (Value.ref 38), DictEntry.mk (PyData.keyHash P (Str.ofString "_twin_re_7")) (Value.str (Str.ofString "_twin_re_7") 318) (Value.ref 43), DictEntry.mk (PyData.keyHash P (Str.ofString "unmatched")) (Value.str (Str.ofString "unmatched") 327) (Value.ref 50), DictEntry.mk (PyData.keyHash P (Str.ofString "HEADER_TOKEN_RE")) (Value.str (Str.ofString "HEADER_TOKEN_RE") 375) (Value.ref 55), DictEntry.mk (PyData.keyHash P (Str.ofString "HEADER_QUOTED_VALUE_RE")) (Value.str (Str.ofString "HEADER_QUOTED_VALUE_RE") 453) (Value.ref 60), DictEntry.mk (PyData.keyHash P (Str.ofString "HEADER_VALUE_RE")) (Value.str (Str.ofString "HEADER_VALUE_RE") 508) (Value.ref 65), DictEntry.mk (PyData.keyHash P (Str.ofString "HEADER_ESCAPE_RE")) (Value.str (Str.ofString "HEADER_ESCAPE_RE") 531) (Value.ref 70), DictEntry.mk (PyData.keyHash P (Str.ofString "split_header_words")) (Value.str (Str.ofString "split_header_words") 547) (Value.ref 77), DictEntry.mk (PyData.keyHash P (Str.ofString "HEADER_JOIN_TOKEN_RE")) (Value.str (Str.ofString "HEADER_JOIN_TOKEN_RE") 576) (Value.ref 82), DictEntry.mk (PyData.keyHash P (Str.ofString "HEADER_JOIN_ESCAPE_RE")) (Value.str (Str.ofString "HEADER_JOIN_ESCAPE_RE") 604) (Value.ref 87), DictEntry.mk (PyData.keyHash P (Str.ofString "join_header_words")) (Value.str (Str.ofString "join_header_words") 616) (Value.ref 94), DictEntry.mk (PyData.keyHash P (Str.ofString "bytes_types")) (Value.str (Str.ofString "bytes_types") 619) (Value.ref 95), DictEntry.mk (PyData.keyHash P (Str.ofString "_bytes_from_decode_data")) (Value.str (Str.ofString "_bytes_from_decode_data") 626) (Value.ref 102), DictEntry.mk (PyData.keyHash P (Str.ofString "Error")) (Value.str (Str.ofString "Error") 646) (Value.ref 112), DictEntry.mk (PyData.keyHash P (Str.ofString "_ascii_buffer")) (Value.str (Str.ofString "_ascii_buffer") 654) (Value.ref 122), DictEntry.mk (PyData.keyHash P (Str.ofString "_buffer")) (Value.str (Str.ofString "_buffer") 662) (Value.ref 129), DictEntry.mk (PyData.keyHash P (Str.ofString "_truth")) (Value.str (Str.ofString "_truth") 670) (Value.ref 136), DictEntry.mk (PyData.keyHash P (Str.ofString "_B64")) (Value.str (Str.ofString "_B64") 672) (Value.bytes #[65, 66, 67, 68, 69, 70, 71, 72, 73, 74, 75, 76, 77, 78, 79, 80, 81, 82, 83, 84, 85, 86, 87, 88, 89, 90, 97, 98, 99, 100, 101, 102, 103, 104, 105, 106, 107, 108, 109, 110, 111, 112, 113, 114, 115, 116, 117, 118, 119, 120, 121, 122, 48, 49, 50, 51, 52, 53, 54, 55, 56, 57, 43, 47] 671), DictEntry.mk (PyData.keyHash P (Str.ofString "_b64_value")) (Value.str (Str.ofString "_b64_value") 679) (Value.ref 143), DictEntry.mk (PyData.keyHash P (Str.ofString "a2b_base64")) (Value.str (Str.ofString "a2b_base64") 695) (Value.ref 151), DictEntry.mk (PyData.keyHash P (Str.ofString "b2a_base64")) (Value.str (Str.ofString "b2a_base64") 709) (Value.ref 159)] 31) #[]
noncomputable def o29_24 (P : Params) : Obj := Obj.mk Value.none none (Data.fields #[Value.int 2 0, Value.int 0 0, Value.ref 37, Value.int 7 0, Value.int 0 0, Value.ref 49, Value.int 14 0, Value.int 0 0, Value.ref 76, Value.int 53 0, Value.int 0 0, Value.ref 93, Value.int 69 0, Value.int 0 0, Value.ref 101, Value.int 82 0, Value.int 0 0, Value.ref 108, Value.int 84 0, Value.int 0 0, Value.ref 121, Value.int 95 0, Value.int 0 0, Value.ref 128, Value.int 102 0, Value.int 0 0, Value.ref 135, Value.int 108 0, Value.int 0 0, Value.ref 142, Value.int 120 0, Value.int 0 0, Value.ref 150, Value.int 174 0, Value.int 0 0, Value.ref 158]) #[]
noncomputable def o117_24 (P : Params) : Obj := Obj.mk Value.none none (Data.fields #[]) #[]
noncomputable def o120_24 (P : Params) : Obj := Obj.mk Value.none none (Data.func (FuncData.mk (Str.ofString "_ascii_buffer") (Str.ofString "_ascii_buffer") (fA 18) (FuncBody.stmts (fB 18)) (fS 18) 0 [] Value.none Value.none Value.none Value.none none Value.none Value.none 0)) #[]
noncomputable def o124_24 (P : Params) : Obj := Obj.mk Value.none none (Data.fields #[]) #[]
noncomputable def o127_24 (P : Params) : Obj := Obj.mk Value.none none (Data.func (FuncData.mk (Str.ofString "_buffer") (Str.ofString "_buffer") (fA 19) (FuncBody.stmts (fB 19)) (fS 19) 0 [] Value.none Value.none Value.none Value.none none Value.none Value.none 0)) #[]
noncomputable def o131_24 (P : Params) : Obj := Obj.mk Value.none none (Data.fields #[]) #[]
noncomputable def o134_24 (P : Params) : Obj := Obj.mk Value.none none (Data.func (FuncData.mk (Str.ofString "_truth") (Str.ofString "_truth") (fA 20) (FuncBody.stmts (fB 20)) (fS 20) 0 [] Value.none Value.none Value.none Value.none none Value.none Value.none 0)) #[]
noncomputable def o138_24 (P : Params) : Obj := Obj.mk Value.none none (Data.fields #[]) #[]
noncomputable def o141_24 (P : Params) : Obj := Obj.mk Value.none none (Data.func (FuncData.mk (Str.ofString "_b64_value") (Str.ofString "_b64_value") (fA 22) (FuncBody.stmts (fB 22)) (fS 22) 0 [] Value.none Value.none Value.none Value.none none Value.none Value.none 0)) #[]
noncomputable def o146_24 (P : Params) : Obj := Obj.mk Value.none none (Data.fields #[]) #[]
noncomputable def o149_24 (P : Params) : Obj := Obj.mk Value.none none (Data.func (FuncData.mk (Str.ofString "a2b_base64") (Str.ofString "a2b_base64") (fA 23) (FuncBody.stmts (fB 23)) (fS 23) 0 [] Value.none Value.none Value.none Value.none none Value.none Value.none 0)) #[]
noncomputable def o154_24 (P : Params) : Obj := Obj.mk Value.none none (Data.fields #[]) #[]
noncomputable def o157_24 (P : Params) : Obj := Obj.mk Value.none none (Data.func (FuncData.mk (Str.ofString "b2a_base64") (Str.ofString "b2a_base64") (fA 24) (FuncBody.stmts (fB 24)) (fS 24) 0 [] Value.none Value.none Value.none Value.none none Value.none Value.none 0)) #[]
noncomputable def H24 (P : Params) : Heap := ⟨#[boot_o_0 P, o1_0 P, ob P 2, o3_24 P, boot_o_4 P, o5_0 P, o6_0 P, o7_0 P, o8_0 P, o9_0 P, o10_0 P, o11_0 P, o12_0 P, o13_0 P, o14_0 P, o15_0 P, o16_0 P, o17_0 P, o18_0 P, o19_0 P, o20_0 P, o21_0 P, o22_0 P, o23_0 P, o24_0 P, o25_0 P, o26_0 P, o27_0 P, o28_a P, o29_24 P, o30_a P, o31_a P, ob P 32, o33_8 P, ob P 34, ob P 35, o36_8 P, ob P 37, ob P 38, o39_8 P, o40_8 P, o41_8 P, ob P 42, ob P 43, ob P 44, o45_8 P, ob P 46, ob P 47, o48_8 P, ob P 49, ob P 50, o51_8 P, o52_8 P, o53_8 P, ob P 54, ob P 55, o56_8 P, o57_8 P, o58_8 P, ob P 59, ob P 60, o61_8 P, o62_8 P, o63_8 P, ob P 64, ob P 65, o66_8 P, o67_8 P, o68_8 P, ob P 69, ob P 70, ob P 71, o72_8 P, ob P 73, ob P 74, o75_8 P, ob P 76, ob P 77, o78_16 P, o79_16 P, o80_16 P, ob P 81, ob P 82, o83_16 P, o84_16 P, o85_16 P, ob P 86, ob P 87, ob P 88, o89_16 P, ob P 90, ob P 91, o92_16 P, ob P 93, ob P 94, ob P 95, ob P 96, o97_16 P, ob P 98, ob P 99, o100_16 P, ob P 101, ob P 102, ob P 103, o104_16 P, o105_16 P, o106_16 P, o107_16 P, o108_16 P, o109_16 P, ob P 110, ob P 111, ob P 112, ob P 113, o114_16 P, o115_16 P, ob P 116, o117_24 P, ob P 118, ob P 119, o120_24 P, ob P 121, ob P 122, ob P 123, o124_24 P, ob P 125, ob P 126, o127_24 P, ob P 128, ob P 129, ob P 130, o131_24 P, ob P 132, ob P 133, o134_24 P, ob P 135, ob P 136, ob P 137, o138_24 P, ob P 139, ob P 140, o141_24 P, ob P 142, ob P 143, ob P 144, ob P 145, o146_24 P, ob P 147, ob P 148, o149_24 P, ob P 150, ob P 151, ob P 152, ob P 153, o154_24 P, ob P 155, ob P 156, o157_24 P, ob P 158, ob P 159], Life.mk [] [] [] 0 [] [] false #[] [] 0 false false false 0 [2000, 10, 10] false 0 true [] [] 0 false⟩
noncomputable def o29_y (P : Params) : Obj := Obj.mk Value.none none (Data.fields #[Value.int 2 0, Value.int 0 0, Value.ref 37, Value.int 7 0, Value.int 0 0, Value.ref 49, Value.int 14 0, Value.int 0 0, Value.ref 76, Value.int 53 0, Value.int 0 0, Value.ref 93, Value.int 69 0, Value.int 0 0, Value.ref 101, Value.int 82 0, Value.int 0 0, Value.ref 108, Value.int 84 0, Value.int 0 0, Value.ref 121, Value.int 95 0, Value.int 0 0, Value.ref 128, Value.int 102 0, Value.int 0 0, Value.ref 135, Value.int 108 0, Value.int 0 0, Value.ref 142, Value.int 120 0, Value.int 0 0, Value.ref 150, Value.int 174 0, Value.int 0 0, Value.ref 158, Value.int 197 0, Value.int 0 0, Value.ref 166, Value.int 203 0, Value.int 0 0, Value.ref 174, Value.int 211 0, Value.int 0 0, Value.ref 181, Value.int 223 0, Value.int 0 0, Value.ref 188, Value.int 235 0, Value.int 0 0, Value.ref 195, Value.int 244 0, Value.int 0 0, Value.ref 202, Value.int 249 0, Value.int 0 0, Value.ref 209, Value.int 255 0, Value.int 0 0, Value.ref 214, Value.int 266 0, Value.int 0 0, Value.ref 219, Value.int 272 0, Value.int 0 0, Value.ref 224]) #[]
noncomputable def o162_y (P : Params) : Obj := Obj.mk Value.none none (Data.fields #[]) #[]
noncomputable def o165_y (P : Params) : Obj := Obj.mk Value.none none (Data.func (FuncData.mk (Str.ofString "b64encode") (Str.ofString "b64encode") (fA 26) (FuncBody.stmts (fB 26)) (fS 26) 0 [] Value.none Value.none Value.none Value.none none Value.none Value.none 0)) #[]
noncomputable def o170_y (P : Params) : Obj := Obj.mk Value.none none (Data.fields #[]) #[]
noncomputable def o173_y (P : Params) : Obj := Obj.mk Value.none none (Data.func (FuncData.mk (Str.ofString "b64decode") (Str.ofString "b64decode") (fA 27) (FuncBody.stmts (fB 27)) (fS 27) 0 [] Value.none Value.none Value.none Value.none none Value.none Value.none 0)) #[]
noncomputable def o177_y (P : Params) : Obj := Obj.mk Value.none none (Data.fields #[]) #[]
noncomputable def o180_y (P : Params) : Obj := Obj.mk Value.none none (Data.func (FuncData.mk (Str.ofString "_law_signs") (Str.ofString "_law_signs") (fA 29) (FuncBody.stmts (fB 29)) (fS 29) 0 [] Value.none Value.none Value.none Value.none none Value.none Value.none 0)) #[]
noncomputable def o184_y (P : Params) : Obj := Obj.mk Value.none none (Data.fields #[]) #[]
noncomputable def o187_y (P : Params) : Obj := Obj.mk Value.none none (Data.func (FuncData.mk (Str.ofString "_law_octets") (Str.ofString "_law_octets") (fA 30) (FuncBody.stmts (fB 30)) (fS 30) 0 [] Value.none Value.none Value.none Value.none none Value.none Value.none 0)) #[]
noncomputable def o191_y (P : Params) : Obj := Obj.mk Value.none none (Data.fields #[]) #[]
noncomputable def o194_y (P : Params) : Obj := Obj.mk Value.none none (Data.func (FuncData.mk (Str.ofString "_law_whole") (Str.ofString "_law_whole") (fA 31) (FuncBody.stmts (fB 31)) (fS 31) 0 [] Value.none Value.none Value.none Value.none none Value.none Value.none 0)) #[]
noncomputable def o198_y (P : Params) : Obj := Obj.mk Value.none none (Data.fields #[]) #[]
noncomputable def o201_y (P : Params) : Obj := Obj.mk Value.none none (Data.func (FuncData.mk (Str.ofString "_law_read") (Str.ofString "_law_read") (fA 32) (FuncBody.stmts (fB 32)) (fS 32) 0 [] Value.none Value.none Value.none Value.none none Value.none Value.none 0)) #[]
noncomputable def o205_y (P : Params) : Obj := Obj.mk Value.none none (Data.fields #[]) #[]
noncomputable def o208_y (P : Params) : Obj := Obj.mk Value.none none (Data.func (FuncData.mk (Str.ofString "_law_told") (Str.ofString "_law_told") (fA 33) (FuncBody.stmts (fB 33)) (fS 33) 0 [] Value.none Value.none Value.none Value.none none Value.none Value.none 0)) #[]
noncomputable def o212_y (P : Params) : Obj := Obj.mk Value.none none (Data.fields #[]) #[]
noncomputable def o213_y (P : Params) : Obj := Obj.mk Value.none none (Data.func (FuncData.mk (Str.ofString "_law_lists") (Str.ofString "_law_lists") (fA 34) (FuncBody.stmts (fB 34)) (fS 34) 0 [] Value.none Value.none Value.none Value.none none Value.none Value.none 0)) #[]
noncomputable def o217_y (P : Params) : Obj := Obj.mk Value.none none (Data.fields #[]) #[]
noncomputable def o218_y (P : Params) : Obj := Obj.mk Value.none none (Data.func (FuncData.mk (Str.ofString "_law_pairs") (Str.ofString "_law_pairs") (fA 35) (FuncBody.stmts (fB 35)) (fS 35) 0 [] Value.none Value.none Value.none Value.none none Value.none Value.none 0)) #[]
noncomputable def o222_y (P : Params) : Obj := Obj.mk Value.none none (Data.fields #[]) #[]
noncomputable def o223_y (P : Params) : Obj := Obj.mk Value.none none (Data.func (FuncData.mk (Str.ofString "law") (Str.ofString "law") (fA 36) (FuncBody.stmts (fB 36)) (fS 36) 0 [] Value.none Value.none Value.none Value.none none Value.none Value.none 0)) #[]
noncomputable def Hy (P : Params) : Heap := ⟨#[boot_o_0 P, o1_0 P, ob P 2, ob P 3, boot_o_4 P, o5_0 P, o6_0 P, o7_0 P, o8_0 P, o9_0 P, o10_0 P, o11_0 P, o12_0 P, o13_0 P, o14_0 P, o15_0 P, o16_0 P, o17_0 P, o18_0 P, o19_0 P, o20_0 P, o21_0 P, o22_0 P, o23_0 P, o24_0 P, o25_0 P, o26_0 P, o27_0 P, o28_a P, o29_y P, o30_a P, o31_a P, ob P 32, o33_8 P, ob P 34, ob P 35, o36_8 P, ob P 37, ob P 38, o39_8 P, o40_8 P, o41_8 P, ob P 42, ob P 43, ob P 44, o45_8 P, ob P 46, ob P 47, o48_8 P, ob P 49, ob P 50, o51_8 P, o52_8 P, o53_8 P, ob P 54, ob P 55, o56_8 P, o57_8 P, o58_8 P, ob P 59, ob P 60, o61_8 P, o62_8 P, o63_8 P, ob P 64, ob P 65, o66_8 P, o67_8 P, o68_8 P, ob P 69, ob P 70, ob P 71, o72_8 P, ob P 73, ob P 74, o75_8 P, ob P 76, ob P 77, o78_16 P, o79_16 P, o80_16 P, ob P 81, ob P 82, o83_16 P, o84_16 P, o85_16 P, ob P 86, ob P 87, ob P 88, o89_16 P, ob P 90, ob P 91, o92_16 P, ob P 93, ob P 94, ob P 95, ob P 96, o97_16 P, ob P 98, ob P 99, o100_16 P, ob P 101, ob P 102, ob P 103, o104_16 P, o105_16 P, o106_16 P, o107_16 P, o108_16 P, o109_16 P, ob P 110, ob P 111, ob P 112, ob P 113, o114_16 P, o115_16 P, ob P 116, o117_24 P, ob P 118, ob P 119, o120_24 P, ob P 121, ob P 122, ob P 123, o124_24 P, ob P 125, ob P 126, o127_24 P, ob P 128, ob P 129, ob P 130, o131_24 P, ob P 132, ob P 133, o134_24 P, ob P 135, ob P 136, ob P 137, o138_24 P, ob P 139, ob P 140, o141_24 P, ob P 142, ob P 143, ob P 144, ob P 145, o146_24 P, ob P 147, ob P 148, o149_24 P, ob P 150, ob P 151, ob P 152, ob P 153, o154_24 P, ob P 155, ob P 156, o157_24 P, ob P 158, ob P 159, ob P 160, ob P 161, o162_y P, ob P 163, ob P 164, o165_y P, ob P 166, ob P 167, ob P 168, ob P 169, o170_y P, ob P 171, ob P 172, o173_y P, ob P 174, ob P 175, ob P 176, o177_y P, ob P 178, ob P 179, o180_y P, ob P 181, ob P 182, ob P 183, o184_y P, ob P 185, ob P 186, o187_y P, ob P 188, ob P 189, ob P 190, o191_y P, ob P 192, ob P 193, o194_y P, ob P 195, ob P 196, ob P 197, o198_y P, ob P 199, ob P 200, o201_y P, ob P 202, ob P 203, ob P 204, o205_y P, ob P 206, ob P 207, o208_y P, ob P 209, ob P 210, ob P 211, o212_y P, o213_y P, ob P 214, ob P 215, ob P 216, o217_y P, o218_y P, ob P 219, ob P 220, ob P 221, o222_y P, o223_y P, ob P 224, ob P 225], Life.mk [] [] [] 0 [] [] false #[] [] 0 false false false 0 [2000, 10, 10] false 0 true [] [] 0 false⟩
noncomputable def envT : Env := { scope := prg.main.scope, locals := mainNs, globals := mainNs, cells := [], code := Value.ref 30, frame := some 31 }
noncomputable def cT : Code := Code.body (behindTheImports prg) envT
noncomputable def bT (k n : Nat) : List Stmt := ((behindTheImports prg).drop k).take n
noncomputable abbrev fT : List Frame := [topFrame (Pos.mk 0 0 0 0)]
noncomputable abbrev stT (H : Params → Heap) (k : Tok) (w : World) (os : OsState) : Shared := ⟨H w.params, #[], ⟨0, 0, 0, 0⟩, k, os⟩
noncomputable abbrev annT : Option Value := some (Value.ref 6)
theorem p_0 (w : World) : (fencedOpening treeTable prg w 3140).map (fun s => (s.heap, s.gens, s.drawn, s.toks)) = some (H0 w.params, #[], ⟨0, 0, 0, 0⟩, 276) := by kernel_rfl
theorem p_size (w : World) : ((H0 w.params).isNs mainGlobals && (#[] : Array GenState).size == 0, (H0 w.params).objs.size, (H0 w.params).nsMap mainGlobals "__annotations__") = (true, 28, annT) := by kernel_rfl
theorem p_pre (w : World) (os : OsState) : topGo treeTable prg w 28 annT 12 (stT H0 276 w os) (topStub prg) = some (stT Ha 282 w os, ⟨denote treeTable cT, cT, Pos.mk 0 0 0 0, fT⟩) := by kernel_rfl
theorem p_block (w : World) (os : OsState) : segRun treeTable prg w 28 annT 1 1 (stT Ha 282 w os) (blockOf (behindTheImports prg) envT cT (Pos.mk 0 0 0 0) fT) = some (.next, stT Ha 282 w os, cT, Pos.mk 0 0 0 0) := by kernel_rfl
theorem p_1 (w : World) (os : OsState) : segRun treeTable prg w 28 annT 1 700 (stT Ha 282 w os) (piecesOf (bT 0 9) envT cT (Pos.mk 0 0 0 0) fT) = some (.next, stT H8 548 w os, cT, Pos.mk 14 0 50 17) := by kernel_rfl
theorem p_2 (w : World) (os : OsState) : segRun treeTable prg w 28 annT 1 500 (stT H8 548 w os) (piecesOf (bT 9 8) envT cT (Pos.mk 14 0 50 17) fT) = some (.next, stT H16 647 w os, cT, Pos.mk 82 0 83 8) := by kernel_rfl
theorem p_3 (w : World) (os : OsState) : segRun treeTable prg w 28 annT 1 300 (stT H16 647 w os) (piecesOf (bT 17 8) envT cT (Pos.mk 82 0 83 8) fT) = some (.next, stT H24 712 w os, cT, Pos.mk 196 0 196 8) := by kernel_rfl
theorem p_4 (w : World) (os : OsState) : segRun treeTable prg w 28 annT 1 500 (stT H24 712 w os) (piecesOf (bT 25 11) envT cT (Pos.mk 196 0 196 8) fT) = some (.next, stT Hy 797 w os, cT, Pos.mk 272 0 301 59) := by kernel_rfl
theorem p_fin (w : World) (os : OsState) : topRun treeTable prg w 28 annT 10 (stT Hy 797 w os) ⟨doneF .next, cT, Pos.mk 272 0 301 59, fT⟩ = some (stT Hy 797 w os) := by kernel_rfl
end Mine
end
section
open PySem PySem.W PyProof.Rows
set_option Elab.async false
set_option maxRecDepth 100000
set_option maxHeartbeats 8000000
namespace Mine
noncomputable abbrev L0 : List Str := [Str.ofString "_twin_re_7", Str.ofString "HEADER_TOKEN_RE", Str.ofString "HEADER_QUOTED_VALUE_RE", Str.ofString "HEADER_VALUE_RE", Str.ofString "HEADER_ESCAPE_RE", Str.ofString "HEADER_JOIN_TOKEN_RE", Str.ofString "HEADER_JOIN_ESCAPE_RE", Str.ofString "bytes_types", Str.ofString "a2b_base64", Str.ofString "b2a_base64", Str.ofString "b64encode", Str.ofString "b64decode"]
noncomputable abbrev HK : Hook := kmHook hp [2, 3, 32, 34, 35, 37, 38, 42, 43, 44, 46, 47, 49, 50, 54, 55, 59, 60, 64, 65, 69, 70, 71, 73, 74, 76, 77, 81, 82, 86, 87, 88, 90, 91, 93, 94, 95, 96, 98, 99, 101, 102, 103, 110, 111, 112, 113, 116, 118, 119, 121, 122, 123, 125, 126, 128, 129, 130, 132, 133, 135, 136, 137, 139, 140, 142, 143, 144, 145, 147, 148, 150, 151, 152, 153, 155, 156, 158, 159, 160, 161, 163, 164, 166, 167, 168, 169, 171, 172, 174, 175, 176, 178, 179, 181, 182, 183, 185, 186, 188, 189, 190, 192, 193, 195, 196, 197, 199, 200, 202, 203, 204, 206, 207, 209, 210, 211, 214, 215, 216, 219, 220, 221, 224, 225] (fun _ => by kernel_rfl) [89, 72]
theorem p_body : behindTheImports prg = bT 0 9 ++ (bT 9 8 ++ (bT 17 8 ++ (bT 25 11 ++ []))) := by kernel_rfl
theorem p_run (w : World) (os : OsState) : topRun treeTable prg w 28 annT (12 + (1 + (700 + (500 + (300 + (500 + 10)))))) (stT H0 276 w os) (topStub prg) = some (stT Hy 797 w os) := by
  refine go_top (p_pre w os) (piece_block (p_block w os) ?_)
  rw [p_body]
  exact piece_app (p_1 w os) (piece_app (p_2 w os) (piece_app (p_3 w os) (piece_app (p_4 w os) (piece_nil (p_fin w os)))))
theorem hl : LeftO prg vw L0 (fun s => xlAt vw [] s && recOk (RowW.records Challenge.rw_pa0034_01.row.toRowW) s) HK.obs HK.val 3140 := LeftO.of_pieces (H₀ := H0) (H₁ := Hy) p_0 p_size p_run rfl fun w => by kernel_rfl
end Mine
end
section
open PySem PySem.W PyProof.Rows
set_option Elab.async false
set_option maxRecDepth 100000
set_option maxHeartbeats 8000000
namespace Mine
theorem law_said : Challenge.rw_pa0034_01.wellSaid = true := by
  unfold OpenLaw.wellSaid OpenRow.wellSaid OpenRow.partSaid looksOpen
  repeat' (with_reducible refine look_both ?_ ?_)
  all_goals decide +kernel
end Mine
end
section
set_option Elab.async false
set_option maxRecDepth 100000
namespace Mine
open PySem PySem.Sre

theorem runFor_add (a b : Nat) (m : M) : M.runFor (a + b) m = M.runFor b (M.runFor a m) := by
  induction a generalizing m with
  | zero => rw [Nat.zero_add]; rfl
  | succ a ih =>
    rw [Nat.succ_add, M.runFor, M.runFor]
    split
    · rename_i h
      cases b with
      | zero => rfl
      | succ b => rw [M.runFor, if_pos h]
    · exact ih _

noncomputable def Run (k : Nat) (m m' : M) : Prop := ∃ n, n ≤ k ∧ ∃ sn, M.runFor n m = { m' with seen := sn }

theorem Run.refl (m : M) : Run 0 m m := ⟨0, Nat.le_refl _, m.seen, rfl⟩
theorem Run.trans {a b : Nat} {m m₁ m₂ : M} (h : Run a m m₁) (k : ∀ sn, Run b { m₁ with seen := sn } m₂) : Run (a + b) m m₂ := by
  obtain ⟨n, hn, sn, e⟩ := h
  obtain ⟨n', hn', sn', e'⟩ := k sn
  exact ⟨n + n', Nat.add_le_add hn hn', sn', by rw [runFor_add, e, e']⟩
theorem Run.mono {a b : Nat} {m m' : M} (h : Run a m m') (hab : a ≤ b) : Run b m m' := by
  obtain ⟨n, hn, r⟩ := h
  exact ⟨n, Nat.le_trans hn hab, r⟩
theorem Run.step {m m' : M} (ho : m.outcome = none) (h : ∃ sn, m.step = { m' with seen := sn }) : Run 1 m m' := by
  obtain ⟨sn, e⟩ := h
  refine ⟨1, Nat.le_refl _, sn, ?_⟩
  rw [M.runFor, ho]
  exact e

/-- the set's answer hangs not on what was seen -/
theorem map_ite {p : Prop} [Decidable p] {a b a' b' : Except String (Bool × Seen)} (h1 : a.map (·.1) = a'.map (·.1)) (h2 : b.map (·.1) = b'.map (·.1)) : (if p then a else b).map (·.1) = (if p then a' else b').map (·.1) := by
  by_cases h : p
  · rw [if_pos h, if_pos h]; exact h1
  · rw [if_neg h, if_neg h]; exact h2
theorem inSet_fst (code : Array Nat) (c : Nat) : ∀ (fuel i : Nat) (yes : Bool) (s s' : Seen),
    (inSet code c fuel i yes s).map (·.1) = (inSet code c fuel i yes s').map (·.1)
  | 0, _, _, _, _ => rfl
  | fuel + 1, i, yes, s, s' => by
    have ih := inSet_fst code c fuel
    unfold inSet
    dsimp only
    generalize ops[code.getD (i + 0) 0]? = o
    cases o with
    | none => rfl
    | some o =>
      cases o
      all_goals first
        | rfl
        | exact ih _ _ _ _
        | exact map_ite rfl (ih _ _ _ _)
        | (cases category (code.getD (i + 1) 0) c with
            | error e => rfl
            | ok b => cases b with
              | true => rfl
              | false => exact ih _ _ _ _)

theorem accepts_fst (code : Array Nat) (i c : Nat) (s s' : Seen) : (accepts code i c s).map (·.1) = (accepts code i c s').map (·.1) := by
  unfold accepts
  dsimp only
  generalize ops[code.getD i 0]? = o
  cases o with
  | none => rfl
  | some o => cases o <;> first | rfl | exact inSet_fst _ _ _ _ _ _ _

noncomputable def accB (code : Array Nat) (i c : Nat) : Except String Bool := (accepts code i c {}).map (·.1)
theorem accepts_of {code : Array Nat} {i c : Nat} {b : Bool} (h : accB code i c = .ok b) (s : Seen) : ∃ sn, accepts code i c s = .ok (b, sn) := by
  unfold accB at h
  rw [accepts_fst code i c {} s] at h
  cases e : accepts code i c s with
  | error x => rw [e] at h; cases h
  | ok p =>
    rw [e] at h
    obtain ⟨b', sn⟩ := p
    have : b' = b := by simpa [Except.map] using h
    subst this
    exact ⟨sn, rfl⟩

/-- a run of what is taken: k signs, and the next is not taken or there is none -/
theorem run_of {code text : Array Nat} {i : Nat} : ∀ (k n p found : Nat) (s : Seen), k ≤ n →
    (∀ j, j < k → accB code i (text.getD (p + j) 0) = .ok true) → (k < n → accB code i (text.getD (p + k) 0) = .ok false) →
    ∃ sn, Sre.run code text i n p found s = .ok (found + k, sn)
  | 0, 0, _, _, s, _, _, _ => ⟨s, rfl⟩
  | 0, n + 1, p, found, s, _, _, h2 => by
    obtain ⟨sn, e⟩ := accepts_of (h2 (Nat.zero_lt_succ _)) s
    refine ⟨sn, ?_⟩
    unfold Sre.run
    rw [Nat.add_zero] at e
    rw [e]
    rfl
  | k + 1, 0, _, _, _, h, _, _ => absurd h (Nat.not_succ_le_zero _)
  | k + 1, n + 1, p, found, s, h, h1, h2 => by
    obtain ⟨sn, e⟩ := accepts_of (h1 0 (Nat.zero_lt_succ _)) s
    rw [Nat.add_zero] at e
    obtain ⟨sn', e'⟩ := run_of k n (p + 1) (found + 1) sn (Nat.le_of_succ_le_succ h)
      (fun j hj => by have := h1 (j + 1) (Nat.succ_lt_succ hj); rwa [show p + 1 + j = p + (j + 1) from by omega])
      (fun hk => by have := h2 (Nat.succ_lt_succ hk); rwa [show p + 1 + k = p + (k + 1) from by omega])
    refine ⟨sn', ?_⟩
    unfold Sre.run
    rw [e]
    show Sre.run code text i n (p + 1) (found + 1) sn = _
    rw [e', show found + 1 + k = found + (k + 1) from by omega]

section
variable {m : M}
theorem step_exec (ho : m.outcome = none) (ha : m.answer = none) (hpc : m.pc < m.code.size) : m.step = m.exec := by
  unfold M.step
  rw [ho, ha]
  simp [hpc]
theorem word0 {k : Nat} (h : m.code.getD m.pc 0 = k) : m.word 0 = k := h
/-- one look at the machine's turn: G is the turn as a function of the word -/
theorem exec_fn (m : M) : ∃ G : Nat → M, m.exec = G (m.word 0) ∧
    (m.word 1 = 0 → ∃ sn, G 6 = if m.pos == 0 then { m with pc := m.pc + 2, seen := sn } else { m with answer := some false, seen := sn }) ∧
    (G 17 = ({ m with seen := m.seen.add 17 } : M).mark (m.word 1)) ∧
    (m.mustAdvance = false → (m.wholeText = false ∨ m.pos = m.lim) → ∃ sn, G 1 = { m with handed := m.pos, answer := some true, seen := sn }) ∧
    (∀ least n sn, m.word 2 = least → m.word 3 = 4294967295 → m.pos + n ≤ m.lim → m.lim < 4294967295 →
      Sre.run m.code m.text (m.pc + 4) (m.lim - m.pos) m.pos 0 ((m.seen.add 24).add (m.code.getD (m.pc + 4) 0)) = .ok (n, sn) →
      ((least : Int) > (m.lim : Int) - m.pos → ∃ s2, G 24 = { m with answer := some false, seen := s2 }) ∧
      (¬ (least : Int) > (m.lim : Int) - m.pos → n < least → G 24 = { m with answer := some false, seen := sn }) ∧
      (¬ (least : Int) > (m.lim : Int) - m.pos → ¬ n < least → m.inner = none → G 24 = ({ m with seen := sn, pos := m.pos + n } : M).afterRun .giveBack (n : Int) { lastmark := m.lastmark, lastindex := m.lastindex, whole := false, marks := #[] })) ∧
    (m.pos ≥ m.lim → ∃ sn, G 16 = { m with answer := some false, seen := sn }) ∧
    (∀ sn, ¬ m.pos ≥ m.lim → accepts m.code m.pc (m.text.getD m.pos 0) (m.seen.add 16) = .ok (false, sn) → G 16 = { m with answer := some false, seen := sn }) := by
  refine ⟨?G, ?a, ?b, ?c, ?d, ?e, ?f, ?g⟩
  case a =>
    unfold M.exec
    generalize m.word 0 = k
    exact rfl
  case b =>
    intro h1
    refine ⟨(m.seen.add 6).add (43 + m.word 1), ?_⟩
    show (match ({ m with seen := m.seen.add 6 } : M).isAt (m.word 1) with | .error why => _ | .ok yes => _) = _
    have : ({ m with seen := m.seen.add 6 } : M).isAt (m.word 1) = .ok (m.pos == 0) := by rw [h1]; rfl
    rw [this]
    cases (m.pos == 0) <;> rfl
  case c => rfl
  case d =>
    intro hm hw
    refine ⟨m.seen.add 1, ?_⟩
    show (if (m.outermost && ((m.wholeText && m.pos != m.lim) || (m.mustAdvance && m.pos == m.start))) = true then _ else _) = _
    rw [if_neg (by rcases hw with hw | hw <;> simp [hw, hm])]
    rfl
  case e =>
    intro least n sn h2 h3 hp hlim hr
    refine ⟨fun h => ⟨m.seen.add 24, ?_⟩, fun h hl => ?_, fun h hl hi => ?_⟩
    · show (if ((m.word 2 : Nat) : Int) > (m.lim : Int) - m.pos then _ else _) = _
      rw [h2, if_pos h]
      rfl
    all_goals
      have hmin : min 4294967295 ((m.lim : Int) - m.pos).toNat = m.lim - m.pos := by
        rw [show ((m.lim : Int) - m.pos).toNat = m.lim - m.pos from by omega]
        exact Nat.min_eq_right (by omega)
      show (if ((m.word 2 : Nat) : Int) > (m.lim : Int) - m.pos then _ else _) = _
      rw [h2, if_neg h]
      show (match Sre.run m.code m.text (m.pc + 4) (min (m.word 3) ((m.lim : Int) - m.pos).toNat) m.pos 0 ((m.seen.add 24).add (m.code.getD (m.pc + 4) 0)) with
        | .error _ => _
        | .ok (_, _) => _) = _
      rw [h3, hmin, hr]
      show (if n < m.word 2 then _ else _) = _
      rw [h2]
    · rw [if_pos hl]; rfl
    · rw [if_neg hl, hi]; rfl
  case f =>
    intro h
    refine ⟨m.seen.add 16, ?_⟩
    show (if m.pos ≥ m.lim then _ else _) = _
    rw [if_pos h]
    rfl
  case g =>
    intro sn h hacc
    show (if m.pos ≥ m.lim then _ else _) = _
    rw [if_neg h]
    show (match accepts m.code m.pc (m.text.getD m.pos 0) (m.seen.add 16) with | .error _ => _ | .ok (false, _) => _ | .ok (true, _) => _) = _
    rw [hacc]
    rfl
theorem step_at0 (ho : m.outcome = none) (ha : m.answer = none) (hpc : m.pc < m.code.size) (h0 : m.code.getD m.pc 0 = 6) (h1 : m.code.getD (m.pc + 1) 0 = 0) (hp : m.pos = 0) :
    ∃ sn, m.step = { m with pc := m.pc + 2, seen := sn } := by
  obtain ⟨G, hG, c, _⟩ := exec_fn m
  obtain ⟨sn, e⟩ := c h1
  rw [beq_iff_eq.mpr hp, if_pos rfl] at e
  exact ⟨sn, by rw [step_exec ho ha hpc, hG, word0 h0, e]⟩
theorem step_at0_no (ho : m.outcome = none) (ha : m.answer = none) (hpc : m.pc < m.code.size) (h0 : m.code.getD m.pc 0 = 6) (h1 : m.code.getD (m.pc + 1) 0 = 0) (hp : m.pos ≠ 0) :
    ∃ sn, m.step = { m with answer := some false, seen := sn } := by
  obtain ⟨G, hG, c, _⟩ := exec_fn m
  obtain ⟨sn, e⟩ := c h1
  rw [beq_eq_false_iff_ne.mpr hp, if_neg (by decide)] at e
  exact ⟨sn, by rw [step_exec ho ha hpc, hG, word0 h0, e]⟩
/-- a mark, at most one beyond the last -/
theorem step_mark {i : Nat} (ho : m.outcome = none) (ha : m.answer = none) (hpc : m.pc < m.code.size) (h0 : m.code.getD m.pc 0 = 17) (h1 : m.code.getD (m.pc + 1) 0 = i) (hi : (i : Int) ≤ m.lastmark + 1) :
    ∃ sn, m.step = { m with marks := m.marks.setIfInBounds i (some m.pos), lastmark := max m.lastmark i, lastindex := if i % 2 == 1 then (i / 2 + 1 : Nat) else m.lastindex, pc := m.pc + 2, seen := sn } := by
  obtain ⟨G, hG, _, c, _⟩ := exec_fn m
  refine ⟨m.seen.add 17, ?_⟩
  rw [step_exec ho ha hpc, hG, word0 h0, c, show m.word 1 = i from h1]
  unfold M.mark
  rw [if_pos hi]
theorem step_success (ho : m.outcome = none) (ha : m.answer = none) (hpc : m.pc < m.code.size) (h0 : m.code.getD m.pc 0 = 1) (hw : m.wholeText = false ∨ m.pos = m.lim) (hm : m.mustAdvance = false) :
    ∃ sn, m.step = { m with handed := m.pos, answer := some true, seen := sn } := by
  obtain ⟨G, hG, _, _, c, _⟩ := exec_fn m
  obtain ⟨sn, e⟩ := c hm hw
  exact ⟨sn, by rw [step_exec ho ha hpc, hG, word0 h0, e]⟩
/-- as many as there are, then on -/
theorem step_rep {skip least : Nat} {n : Nat} (ho : m.outcome = none) (ha : m.answer = none) (hpc : m.pc < m.code.size) (h0 : m.code.getD m.pc 0 = 24) (h1 : m.code.getD (m.pc + 1) 0 = skip) (h2 : m.code.getD (m.pc + 2) 0 = least)
    (h3 : m.code.getD (m.pc + 3) 0 = 4294967295) (hlim : m.lim < 4294967295) (hp : m.pos + n ≤ m.lim) (hl : least ≤ n) (hi : m.inner = none) (hw : m.weight < 16777215)
    (hy : ∀ j, j < n → accB m.code (m.pc + 4) (m.text.getD (m.pos + j) 0) = .ok true) (hn : m.pos + n < m.lim → accB m.code (m.pc + 4) (m.text.getD (m.pos + n) 0) = .ok false) :
    ∃ sn, m.step = { m with frames := { wait := .giveBack, pc := m.pc, pos := m.pos + n, outermost := m.outermost, count := n, kept := { lastmark := m.lastmark, lastindex := m.lastindex, whole := false, marks := #[] } } :: m.frames, weight := m.weight + 1, pc := m.pc + 1 + skip, pos := m.pos + n, handed := m.pos + n, seen := sn } := by
  obtain ⟨sn, e⟩ := run_of (code := m.code) (text := m.text) (i := m.pc + 4) n (m.lim - m.pos) m.pos 0 ((m.seen.add 24).add (m.code.getD (m.pc + 4) 0)) (by omega) hy (fun h => hn (by omega))
  rw [Nat.zero_add] at e
  obtain ⟨G, hG, _, _, _, c, _⟩ := exec_fn m
  have c := (c least n sn h2 h3 hp hlim e).2.2 (by omega) (Nat.not_lt.mpr hl) hi
  refine ⟨sn, ?_⟩
  rw [step_exec ho ha hpc, hG, word0 h0, c]
  unfold M.afterRun M.attempt
  show (if m.weight + 1 + 0 > 16777216 then _ else _) = _
  rw [if_neg (by omega)]
  simp only [M.frame, M.word, h1]
  rfl
/-- fewer than the least: no -/
theorem step_rep_no {least : Nat} {n : Nat} (ho : m.outcome = none) (ha : m.answer = none) (hpc : m.pc < m.code.size) (h0 : m.code.getD m.pc 0 = 24) (h2 : m.code.getD (m.pc + 2) 0 = least)
    (h3 : m.code.getD (m.pc + 3) 0 = 4294967295) (hlim : m.lim < 4294967295) (hp : m.pos + n ≤ m.lim) (hl : n < least)
    (hy : ∀ j, j < n → accB m.code (m.pc + 4) (m.text.getD (m.pos + j) 0) = .ok true) (hn : m.pos + n < m.lim → accB m.code (m.pc + 4) (m.text.getD (m.pos + n) 0) = .ok false) :
    ∃ sn, m.step = { m with answer := some false, seen := sn } := by
  obtain ⟨sn, e⟩ := run_of (code := m.code) (text := m.text) (i := m.pc + 4) n (m.lim - m.pos) m.pos 0 ((m.seen.add 24).add (m.code.getD (m.pc + 4) 0)) (by omega) hy (fun h => hn (by omega))
  rw [Nat.zero_add] at e
  obtain ⟨G, hG, _, _, _, c, _⟩ := exec_fn m
  have c := c least n sn h2 h3 hp hlim e
  by_cases hr : (least : Int) > (m.lim : Int) - m.pos
  · obtain ⟨s2, e2⟩ := c.1 hr
    exact ⟨s2, by rw [step_exec ho ha hpc, hG, word0 h0, e2]⟩
  · exact ⟨sn, by rw [step_exec ho ha hpc, hG, word0 h0, c.2.1 hr hl]⟩
/-- a literal that is not there -/
theorem step_lit_no {c : Nat} (ho : m.outcome = none) (ha : m.answer = none) (hpc : m.pc < m.code.size) (h0 : m.code.getD m.pc 0 = 16) (h1 : m.code.getD (m.pc + 1) 0 = c) (hc : m.pos < m.lim → m.text.getD m.pos 0 ≠ c) :
    ∃ sn, m.step = { m with answer := some false, seen := sn } := by
  obtain ⟨G, hG, _, _, _, _, c1, c2⟩ := exec_fn m
  by_cases hp : m.pos ≥ m.lim
  · obtain ⟨s2, e2⟩ := c1 hp
    exact ⟨s2, by rw [step_exec ho ha hpc, hG, word0 h0, e2]⟩
  · have : accepts m.code m.pc (m.text.getD m.pos 0) (m.seen.add 16) = .ok (false, m.seen.add 16) := by
      unfold accepts
      dsimp only
      rw [h0]
      show Except.ok (m.text.getD m.pos 0 == m.code.getD (m.pc + 1) 0, _) = _
      rw [h1, beq_eq_false_iff_ne.mpr (hc (Nat.lt_of_not_le hp))]
    exact ⟨m.seen.add 16, by rw [step_exec ho ha hpc, hG, word0 h0, c2 _ hp this]⟩
/-- yes: a frame that waits on giving back hands it on -/
theorem step_yes {f : Sre.Frame} {r : List Sre.Frame} (ho : m.outcome = none) (ha : m.answer = some true) (hf : m.frames = f :: r) (hw : f.wait = .giveBack ∨ f.wait = .nextStart) :
    ∃ sn, m.step = { m with answer := some true, frames := r, weight := m.weight - (1 + f.kept.marks.size), pc := f.pc, pos := f.pos, outermost := f.outermost, seen := sn } := by
  refine ⟨m.seen, ?_⟩
  unfold M.step
  rw [ho, ha, hf]
  simp only [Option.isSome_none, Bool.false_eq_true, if_false]
  unfold M.resume
  rcases hw with hw | hw <;> (rw [hw]; rfl)
theorem step_end {b : Bool} (ho : m.outcome = none) (ha : m.answer = some b) (hf : m.frames = []) :
    ∃ sn, m.step = { m with outcome := some (if b then .matched else .failed), seen := sn } := by
  refine ⟨m.seen, ?_⟩
  unfold M.step
  rw [ho, ha, hf]
  rfl
/-- no, and nothing to give back -/
theorem step_giveNo {f : Sre.Frame} {r : List Sre.Frame} (ho : m.outcome = none) (ha : m.answer = some false) (hf : m.frames = f :: r) (hw : f.wait = .giveBack) (hc : f.count - 1 < m.code.getD (f.pc + 2) 0) (hk : f.kept.whole = false) :
    ∃ sn, m.step = { m with answer := some false, frames := r, weight := m.weight - (1 + f.kept.marks.size), pc := f.pc, pos := f.pos, outermost := f.outermost, lastmark := f.kept.lastmark, lastindex := f.kept.lastindex, seen := sn } := by
  refine ⟨m.seen, ?_⟩
  unfold M.step
  rw [ho, ha, hf]
  simp only [Option.isSome_none, Bool.false_eq_true, if_false]
  unfold M.resume
  rw [hw]
  show (if f.count - 1 < _ then _ else _) = _
  rw [if_pos (by show f.count - 1 < ((m.code.getD (f.pc + 2) 0 : Nat) : Int); exact hc)]
  unfold M.putBack M.say
  simp only [hk]
  rfl
theorem step_startNo {f : Sre.Frame} {r : List Sre.Frame} (ho : m.outcome = none) (ha : m.answer = some false) (hf : m.frames = f :: r) (hw : f.wait = .nextStart) (hl : ¬ f.pos < m.lastStart) :
    ∃ sn, m.step = { m with answer := some false, frames := r, weight := m.weight - (1 + f.kept.marks.size), pc := f.pc, pos := f.pos, outermost := f.outermost, seen := sn } := by
  refine ⟨m.seen, ?_⟩
  unfold M.step
  rw [ho, ha, hf]
  simp only [Option.isSome_none, Bool.false_eq_true, if_false]
  unfold M.resume
  rw [hw]
  show (if f.pos < m.lastStart then _ else _) = _
  rw [if_neg hl]
  rfl
theorem step_startOn {f : Sre.Frame} {r : List Sre.Frame} (ho : m.outcome = none) (ha : m.answer = some false) (hf : m.frames = f :: r) (hw : f.wait = .nextStart) (hl : f.pos < m.lastStart) (hs : m.hasFirstSet = false) (hwt : m.weight < 1000) (hk : f.kept.marks.size = 0) :
    ∃ sn, m.step = { m with answer := none, frames := { wait := .nextStart, pc := f.pc, pos := f.pos + 1, outermost := false } :: r, weight := m.weight - 1 + 1, pc := f.pc, pos := f.pos + 1, handed := f.pos + 1, start := f.pos + 1, lastmark := -1, lastindex := -1, outermost := false, mustAdvance := false, seen := sn } := by
  refine ⟨m.seen, ?_⟩
  unfold M.step
  rw [ho, ha, hf]
  simp only [Option.isSome_none, Bool.false_eq_true, if_false]
  unfold M.resume
  rw [hw]
  show (if f.pos < m.lastStart then _ else _) = _
  rw [if_pos hl]
  unfold M.attemptFrom
  have : ∀ m' : M, m'.code = m.code → m'.hasFirstSet = false := fun m' e => by
    unfold M.hasFirstSet at hs ⊢
    rw [e]; exact hs
  rw [if_pos (by rw [this _ (by rfl)]; rfl)]
  unfold M.attemptAt M.attempt
  show (if m.weight - (1 + f.kept.marks.size) + 1 + 0 > 16777216 then _ else _) = _
  rw [if_neg (by omega), hk]
  rfl
end
end Mine
end
section
set_option Elab.async false
set_option maxRecDepth 100000
namespace Mine
open PySem PySem.Sre

noncomputable def Fails (k : Nat) (m : M) : Prop := ∃ n, n ≤ k ∧ (M.runFor n m).outcome = some .failed
noncomputable def Matches (k : Nat) (m : M) (P : M → Prop) : Prop := ∃ n, n ≤ k ∧ (M.runFor n m).outcome = some .matched ∧ P (M.runFor n m)
theorem Fails.step {b : Nat} {m m₁ : M} (ho : m.outcome = none) (e : m.step = m₁) (h : Fails b m₁) : Fails (b + 1) m := by
  obtain ⟨n, hn, r⟩ := h
  refine ⟨n + 1, Nat.succ_le_succ hn, ?_⟩
  rw [M.runFor, ho, e]
  exact r
theorem Matches.step {b : Nat} {m m₁ : M} {P : M → Prop} (ho : m.outcome = none) (e : m.step = m₁) (h : Matches b m₁ P) : Matches (b + 1) m P := by
  obtain ⟨n, hn, r⟩ := h
  refine ⟨n + 1, Nat.succ_le_succ hn, ?_⟩
  rw [M.runFor, ho, e]
  exact r
theorem Fails.mono {a b : Nat} {m : M} (h : Fails a m) (hab : a ≤ b) : Fails b m := by
  obtain ⟨n, hn, r⟩ := h
  exact ⟨n, Nat.le_trans hn hab, r⟩
theorem Matches.mono {a b : Nat} {m : M} {P : M → Prop} (h : Matches a m P) (hab : a ≤ b) : Matches b m P := by
  obtain ⟨n, hn, r⟩ := h
  exact ⟨n, Nat.le_trans hn hab, r⟩
theorem fails_end {m : M} (ho : m.outcome = none) (ha : m.answer = some false) (hf : m.frames = []) : Fails 1 m := by
  obtain ⟨sn, e⟩ := step_end ho ha hf
  exact Fails.step ho e ⟨0, Nat.le_refl _, rfl⟩
theorem matches_end {m : M} {P : M → Prop} (ho : m.outcome = none) (ha : m.answer = some true) (hf : m.frames = []) (hP : ∀ sn, P { m with outcome := some .matched, seen := sn }) : Matches 1 m P := by
  obtain ⟨sn, e⟩ := step_end ho ha hf
  exact Matches.step ho e ⟨0, Nat.le_refl _, rfl, hP sn⟩

/-- a search whose pattern begins at the text's beginning fails at every later start -/
theorem fails_stop {m : M} {f : Sre.Frame} (ho : m.outcome = none) (ha : m.answer = some false) (hf : m.frames = [f]) (hw : f.wait = .nextStart) (hl : ¬ f.pos < m.lastStart) : Fails (1 + 1) m := by
  obtain ⟨sn, e⟩ := step_startNo ho ha hf hw hl
  exact Fails.step ho e (fails_end ho rfl rfl)
theorem fails_on (d : Nat) : ∀ {m : M} {f : Sre.Frame}, m.outcome = none → m.answer = some false → m.frames = [f] → f.wait = .nextStart → m.lastStart - f.pos ≤ d → m.hasFirstSet = false → m.weight < 1000 → f.kept.marks.size = 0 →
    f.pc < m.code.size → m.code.getD f.pc 0 = 6 → m.code.getD (f.pc + 1) 0 = 0 → Fails (2 * d + 2) m := by
  induction d with
  | zero =>
    intro m f ho ha hf hw hd _ _ _ _ _ _
    exact (fails_stop ho ha hf hw (fun h => absurd (Nat.sub_eq_zero_iff_le.mp (Nat.le_zero.mp hd)) (Nat.not_le.mpr h))).mono (Nat.le_refl _)
  | succ d ih =>
    intro m f ho ha hf hw hd hs hwt hk hpc h0 h1
    by_cases hl : f.pos < m.lastStart
    · refine Fails.mono (a := 2 * d + 2 + 1 + 1) ?_ (Nat.le_refl _)
      obtain ⟨sn, e⟩ := step_startOn ho ha hf hw hl hs hwt hk
      refine Fails.step ho e ?_
      obtain ⟨sn', e'⟩ := step_at0_no (m := { m with answer := none, frames := { wait := .nextStart, pc := f.pc, pos := f.pos + 1, outermost := false } :: [], weight := m.weight - 1 + 1, pc := f.pc, pos := f.pos + 1, handed := f.pos + 1, start := f.pos + 1, lastmark := -1, lastindex := -1, outermost := false, mustAdvance := false, seen := sn }) ho rfl hpc h0 h1 (Nat.succ_ne_zero _)
      refine Fails.step ho e' ?_
      exact ih (f := { wait := .nextStart, pc := f.pc, pos := f.pos + 1, outermost := false }) ho rfl rfl rfl (by show m.lastStart - (f.pos + 1) ≤ d; omega) hs (by show m.weight - 1 + 1 < 1000; omega) rfl hpc h0 h1
    · exact (fails_stop ho ha hf hw hl).mono (Nat.le_add_left 2 (2 * (d + 1)))
end Mine
end
section
set_option Elab.async false
set_option maxRecDepth 100000
namespace Mine
open PySem PySem.Sre

noncomputable def codeJunk : Array Nat := #[14, 4, 0, 0, 4294967295, 6, 0, 24, 13, 0, 4294967295, 13, 8, 16, 61, 8, 12, 16, 59, 0, 1, 1]
noncomputable def codeTok : Array Nat := #[14, 4, 0, 1, 4294967295, 6, 0, 24, 9, 0, 4294967295, 13, 4, 8, 12, 0, 1, 17, 0, 24, 19, 1, 4294967295, 13, 14, 21, 9, 0, 671092736, 0, 0, 0, 0, 0, 0, 8, 12, 0, 1, 17, 1, 1]
noncomputable def codeQuo : Array Nat := #[14, 4, 0, 3, 4294967295, 6, 0, 24, 9, 0, 4294967295, 13, 4, 8, 12, 0, 1, 16, 61, 24, 9, 0, 4294967295, 13, 4, 8, 12, 0, 1, 16, 34, 17, 0, 24, 12, 0, 4294967295, 13, 7, 21, 16, 34, 16, 92, 0, 1, 23, 19, 0, 4294967295, 16, 92, 2, 24, 12, 0, 4294967295, 13, 7, 21, 16, 34, 16, 92, 0, 1, 18, 17, 1, 16, 34, 1]
noncomputable def codeVal : Array Nat := #[14, 4, 0, 1, 4294967295, 6, 0, 24, 9, 0, 4294967295, 13, 4, 8, 12, 0, 1, 16, 61, 24, 9, 0, 4294967295, 13, 4, 8, 12, 0, 1, 17, 0, 24, 14, 0, 4294967295, 13, 9, 21, 8, 12, 16, 59, 16, 44, 0, 1, 17, 1, 1]
noncomputable def codeEsc : Array Nat := #[14, 8, 1, 2, 2, 1, 1, 92, 0, 16, 92, 17, 0, 2, 17, 1, 1]
noncomputable def codeJT : Array Nat := #[14, 4, 0, 1, 4294967295, 24, 16, 1, 4294967295, 13, 11, 9, 0, 67071226, 3355443198, 1476395007, 0, 0, 0, 0, 0, 1, 1]
noncomputable def codeJE : Array Nat := #[14, 9, 4, 1, 1, 16, 34, 16, 92, 0, 17, 0, 13, 6, 16, 34, 16, 92, 0, 17, 1, 1]

/-- a blank, below 128 -/
noncomputable def spB (c : Nat) : Bool := (9 ≤ c && c ≤ 13) || (28 ≤ c && c ≤ 32)
noncomputable def isOk (x : Except String Bool) (b : Bool) : Bool := match x with | .ok y => y == b | .error _ => false
theorem of_isOk {x : Except String Bool} {b : Bool} (h : isOk x b = true) : x = .ok b := by
  cases x with
  | error e => cases h
  | ok y => simp only [isOk, beq_iff_eq] at h; rw [h]
theorem all128 {p : Nat → Bool} (h : (List.range 128).all p = true) {c : Nat} (hc : c < 128) : p c = true := List.all_eq_true.mp h c (List.mem_range.mpr hc)

theorem acc_tok_sp {c : Nat} (hc : c < 128) : accB codeTok 11 c = .ok (spB c) :=
  of_isOk (all128 (p := fun c => isOk (accB codeTok 11 c) (spB c)) (by decide +kernel) hc)
theorem acc_tok {c : Nat} (hc : c < 128) : accB codeTok 23 c = .ok (!(c == 61 || c == 59 || c == 44 || spB c)) :=
  of_isOk (all128 (p := fun c => isOk (accB codeTok 23 c) (!(c == 61 || c == 59 || c == 44 || spB c))) (by decide +kernel) hc)
theorem acc_quo_sp {c : Nat} (hc : c < 128) : accB codeQuo 11 c = .ok (spB c) :=
  of_isOk (all128 (p := fun c => isOk (accB codeQuo 11 c) (spB c)) (by decide +kernel) hc)
theorem acc_val_sp {c : Nat} (hc : c < 128) : accB codeVal 11 c = .ok (spB c) :=
  of_isOk (all128 (p := fun c => isOk (accB codeVal 11 c) (spB c)) (by decide +kernel) hc)
theorem acc_junk {c : Nat} (hc : c < 128) : accB codeJunk 11 c = .ok (c == 61 || c == 59 || spB c) :=
  of_isOk (all128 (p := fun c => isOk (accB codeJunk 11 c) (c == 61 || c == 59 || spB c)) (by decide +kernel) hc)

theorem getD_toArray (l : List Nat) (i : Nat) : l.toArray.getD i 0 = l.getD i 0 := by simp [Array.getD_eq_getD_getElem?, List.getD_eq_getElem?_getD]
theorem getD_mid {a b : List Nat} {j : Nat} (h : j < b.length) (c : List Nat) : (a ++ b ++ c).getD (a.length + j) 0 = b[j] := by
  rw [List.getD_eq_getElem?_getD, List.append_assoc, List.getElem?_append_right (by omega), Nat.add_sub_cancel_left, List.getElem?_append_left h]
  simp [h]
theorem getD_end {a : List Nat} {x : Nat} {c : List Nat} : (a ++ x :: c).getD a.length 0 = x := by
  rw [List.getD_eq_getElem?_getD, List.getElem?_append_right (Nat.le_refl _)]
  simp

/-- the machine's state in a search -/
noncomputable abbrev mk (code : Array Nat) (T : List Nat) (pc pos handed : Nat) (marks : Array (Option Nat)) (lm li : Int) (frames : List Sre.Frame) (weight : Nat) (ans : Option Bool) (sn : Seen) : M :=
  { code := code, text := T.toArray, lim := T.length, start := 0, lastStart := T.length, pc := pc, pos := pos, handed := handed, outermost := true, marks := marks, lastmark := lm, lastindex := li, frames := frames, weight := weight, answer := ans, seen := sn }
noncomputable abbrev fs : Sre.Frame := { wait := .nextStart, pc := 5, pos := 0, outermost := true }
noncomputable abbrev fg (pc n : Nat) (pos : Nat) (lm li : Int) : Sre.Frame := { wait := .giveBack, pc := pc, pos := pos, outermost := true, count := n, kept := { lastmark := lm, lastindex := li, whole := false, marks := #[] } }

/-- the token: blanks, a word, then no sign of a word -/
theorem tok_match {ws tok rest : List Nat} (h128 : ∀ c ∈ ws ++ tok ++ rest, c < 128) (hws : ∀ c ∈ ws, spB c = true) (htok : ∀ c ∈ tok, (c == 61 || c == 59 || c == 44 || spB c) = false) (hne : tok ≠ [])
    (hrest : ∀ c r, rest = c :: r → (c == 61 || c == 59 || c == 44 || spB c) = true) (hlen : (ws ++ tok ++ rest).length < 100000) :
    Matches 20 (forSearch codeTok (ws ++ tok ++ rest).toArray 1 0 (ws ++ tok ++ rest).length false)
      (fun m => m.start = 0 ∧ m.handed = ws.length + tok.length ∧ m.marks = #[some ws.length, some (ws.length + tok.length)] ∧ m.lastmark = 1 ∧ m.lastindex = 1) := by
  have hTl : (ws ++ tok ++ rest).length = ws.length + tok.length + rest.length := by simp; omega
  have hpos : 0 < tok.length := List.length_pos_iff.mpr hne
  -- what stands where
  have at0 : ∀ j, j < ws.length → accB codeTok 11 ((ws ++ tok ++ rest).toArray.getD (0 + j) 0) = .ok true := by
    intro j hj
    have e : (ws ++ tok ++ rest).toArray.getD (0 + j) 0 = ws[j] := by
      rw [getD_toArray, List.append_assoc]
      have := getD_mid (a := []) (b := ws) hj (tok ++ rest)
      simpa using this
    have hm : ws[j] ∈ ws := List.getElem_mem hj
    rw [e, acc_tok_sp (h128 _ (by simp [hm])), hws _ hm]
  have at1 : accB codeTok 11 ((ws ++ tok ++ rest).toArray.getD (0 + ws.length) 0) = .ok false := by
    have e : (ws ++ tok ++ rest).toArray.getD (0 + ws.length) 0 = tok[0] := by
      rw [getD_toArray, Nat.zero_add]
      exact getD_mid (a := ws) (b := tok) (j := 0) hpos rest
    have hm : tok[0] ∈ tok := List.getElem_mem hpos
    have hf := htok _ hm
    simp only [Bool.or_eq_false_iff] at hf
    rw [e, acc_tok_sp (h128 _ (by simp [hm])), hf.2]
  have at2 : ∀ j, j < tok.length → accB codeTok 23 ((ws ++ tok ++ rest).toArray.getD (ws.length + j) 0) = .ok true := by
    intro j hj
    have e : (ws ++ tok ++ rest).toArray.getD (ws.length + j) 0 = tok[j] := by
      rw [getD_toArray]
      exact getD_mid (a := ws) (b := tok) hj rest
    have hm : tok[j] ∈ tok := List.getElem_mem hj
    rw [e, acc_tok (h128 _ (by simp [hm])), htok _ hm]
    rfl
  have at3 : ws.length + tok.length < (ws ++ tok ++ rest).length → accB codeTok 23 ((ws ++ tok ++ rest).toArray.getD (ws.length + tok.length) 0) = .ok false := by
    intro hlt
    obtain ⟨c, r, rfl⟩ : ∃ c r, rest = c :: r := by cases rest with | nil => simp at hlt | cons c r => exact ⟨c, r, rfl⟩
    have e : (ws ++ tok ++ c :: r).toArray.getD (ws.length + tok.length) 0 = c := by
      rw [getD_toArray]
      have := getD_end (a := ws ++ tok) (x := c) (c := r)
      simpa using this
    rw [e, acc_tok (h128 _ (by simp)), hrest c r rfl]
    rfl
  generalize ws ++ tok ++ rest = T at *
  have hst : forSearch codeTok T.toArray 1 0 T.length false = mk codeTok T 5 0 0 #[none, none] (-1) (-1) [fs] 1 none (({} : Seen).add 14) := by
    unfold forSearch
    show (if (decide (0 > T.length) || decide (T.length - 0 < 1)) = true then _ else _) = _
    rw [if_neg (by intro h; simp only [Bool.or_eq_true, decide_eq_true_eq] at h; omega)]
    rfl
  rw [hst]
  refine Matches.mono (a := 1 + 1 + 1 + 1 + 1 + 1 + 1 + 1 + 1 + 1) ?_ (by omega)
  obtain ⟨s1, e1⟩ := step_at0 (m := mk codeTok T 5 0 0 #[none, none] (-1) (-1) [fs] 1 none (({} : Seen).add 14)) rfl rfl (by dsimp only [mk, fg]; decide) rfl rfl rfl
  refine Matches.step rfl e1 ?_
  obtain ⟨s2, e2⟩ := step_rep (m := mk codeTok T 7 0 0 #[none, none] (-1) (-1) [fs] 1 none s1) (skip := 9) (least := 0) (n := ws.length) rfl rfl (by dsimp only [mk, fg]; decide) rfl rfl rfl rfl (by show T.length < _; omega) (by show 0 + ws.length ≤ T.length; omega) (Nat.zero_le _) rfl (by dsimp only [mk, fg]; decide) at0 (fun _ => at1)
  refine Matches.step rfl e2 ?_
  obtain ⟨s3, e3⟩ := step_mark (i := 0) (m := mk codeTok T 17 (0 + ws.length) (0 + ws.length) #[none, none] (-1) (-1) [fg 7 ws.length (0 + ws.length) (-1) (-1), fs] 2 none s2) rfl rfl (by dsimp only [mk, fg]; decide) rfl rfl (by dsimp only [mk, fg]; decide)
  refine Matches.step rfl e3 ?_
  obtain ⟨s4, e4⟩ := step_rep (m := mk codeTok T 19 (0 + ws.length) (0 + ws.length) #[some (0 + ws.length), none] 0 (-1) [fg 7 ws.length (0 + ws.length) (-1) (-1), fs] 2 none s3) (skip := 19) (least := 1) (n := tok.length) rfl rfl (by dsimp only [mk, fg]; decide) rfl rfl rfl rfl (by show T.length < _; omega) (by show 0 + ws.length + tok.length ≤ T.length; omega) hpos rfl (by dsimp only [mk, fg]; decide)
    (by rw [Nat.zero_add]; exact at2) (by rw [Nat.zero_add]; exact at3)
  refine Matches.step rfl e4 ?_
  obtain ⟨s5, e5⟩ := step_mark (i := 1) (m := mk codeTok T 39 (0 + ws.length + tok.length) (0 + ws.length + tok.length) #[some (0 + ws.length), none] 0 (-1) [fg 19 tok.length (0 + ws.length + tok.length) 0 (-1), fg 7 ws.length (0 + ws.length) (-1) (-1), fs] 3 none s4) rfl rfl (by dsimp only [mk, fg]; decide) rfl rfl (by dsimp only [mk, fg]; decide)
  refine Matches.step rfl e5 ?_
  obtain ⟨s6, e6⟩ := step_success (m := mk codeTok T 41 (0 + ws.length + tok.length) (0 + ws.length + tok.length) #[some (0 + ws.length), some (0 + ws.length + tok.length)] 1 1 [fg 19 tok.length (0 + ws.length + tok.length) 0 (-1), fg 7 ws.length (0 + ws.length) (-1) (-1), fs] 3 none s5) rfl rfl (by dsimp only [mk, fg]; decide) rfl (.inl rfl) rfl
  refine Matches.step rfl e6 ?_
  obtain ⟨s7, e7⟩ := step_yes (m := mk codeTok T 41 (0 + ws.length + tok.length) (0 + ws.length + tok.length) #[some (0 + ws.length), some (0 + ws.length + tok.length)] 1 1 [fg 19 tok.length (0 + ws.length + tok.length) 0 (-1), fg 7 ws.length (0 + ws.length) (-1) (-1), fs] 3 (some true) s6) rfl rfl rfl (.inl rfl)
  refine Matches.step rfl e7 ?_
  obtain ⟨s8, e8⟩ := step_yes (m := mk codeTok T 19 (0 + ws.length + tok.length) (0 + ws.length + tok.length) #[some (0 + ws.length), some (0 + ws.length + tok.length)] 1 1 [fg 7 ws.length (0 + ws.length) (-1) (-1), fs] 2 (some true) s7) rfl rfl rfl (.inl rfl)
  refine Matches.step rfl e8 ?_
  obtain ⟨s9, e9⟩ := step_yes (m := mk codeTok T 7 (0 + ws.length) (0 + ws.length + tok.length) #[some (0 + ws.length), some (0 + ws.length + tok.length)] 1 1 [fs] 1 (some true) s8) rfl rfl rfl (.inr rfl)
  refine Matches.step rfl e9 ?_
  refine matches_end rfl rfl rfl fun sn => ⟨rfl, ?_, ?_, rfl, rfl⟩
  · show 0 + ws.length + tok.length = _; omega
  · show #[some (0 + ws.length), some (0 + ws.length + tok.length)] = _; rw [Nat.zero_add]

/-- no token where the text begins with a sign that is no word's and no blank -/
theorem tok_fails {c : Nat} {r : List Nat} (hc : c < 128) (h1 : (c == 61 || c == 59 || c == 44 || spB c) = true) (h2 : spB c = false) (hlen : (c :: r).length < 100000) :
    Fails (2 * (c :: r).length + 10) (forSearch codeTok (c :: r).toArray 1 0 (c :: r).length false) := by
  have at0 : accB codeTok 11 ((c :: r).toArray.getD (0 + 0) 0) = .ok false := by
    rw [getD_toArray]; show accB codeTok 11 c = _; rw [acc_tok_sp hc, h2]
  have at1 : accB codeTok 23 ((c :: r).toArray.getD (0 + 0 + 0) 0) = .ok false := by
    rw [getD_toArray]; show accB codeTok 23 c = _; rw [acc_tok hc, h1]; rfl
  have hTl : 0 < (c :: r).length := Nat.zero_lt_succ _
  generalize c :: r = T at *
  have hst : forSearch codeTok T.toArray 1 0 T.length false = mk codeTok T 5 0 0 #[none, none] (-1) (-1) [fs] 1 none (({} : Seen).add 14) := by
    unfold forSearch
    show (if (decide (0 > T.length) || decide (T.length - 0 < 1)) = true then _ else _) = _
    rw [if_neg (by intro h; simp only [Bool.or_eq_true, decide_eq_true_eq] at h; omega)]
    rfl
  rw [hst]
  refine Fails.mono (a := 2 * T.length + 2 + 1 + 1 + 1 + 1 + 1) ?_ (by omega)
  obtain ⟨s1, e1⟩ := step_at0 (m := mk codeTok T 5 0 0 #[none, none] (-1) (-1) [fs] 1 none (({} : Seen).add 14)) rfl rfl (by dsimp only [mk, fg]; decide) rfl rfl rfl
  refine Fails.step rfl e1 ?_
  obtain ⟨s2, e2⟩ := step_rep (m := mk codeTok T 7 0 0 #[none, none] (-1) (-1) [fs] 1 none s1) (skip := 9) (least := 0) (n := 0) rfl rfl (by dsimp only [mk, fg]; decide) rfl rfl rfl rfl (by show T.length < _; omega) (by show 0 + 0 ≤ T.length; omega) (Nat.zero_le _) rfl (by dsimp only [mk, fg]; decide) (fun j hj => absurd hj (Nat.not_lt_zero _)) (fun _ => at0)
  refine Fails.step rfl e2 ?_
  obtain ⟨s3, e3⟩ := step_mark (i := 0) (m := mk codeTok T 17 0 0 #[none, none] (-1) (-1) [fg 7 0 0 (-1) (-1), fs] 2 none s2) rfl rfl (by dsimp only [mk, fg]; decide) rfl rfl (by dsimp only [mk, fg]; decide)
  refine Fails.step rfl e3 ?_
  obtain ⟨s4, e4⟩ := step_rep_no (m := mk codeTok T 19 0 0 #[some 0, none] 0 (-1) [fg 7 0 0 (-1) (-1), fs] 2 none s3) (least := 1) (n := 0) rfl rfl (by dsimp only [mk, fg]; decide) rfl rfl rfl (by show T.length < _; omega) (by show 0 + 0 ≤ T.length; omega) (Nat.zero_lt_one) (fun j hj => absurd hj (Nat.not_lt_zero _)) (fun _ => at1)
  refine Fails.step rfl e4 ?_
  obtain ⟨s5, e5⟩ := step_giveNo (m := mk codeTok T 19 0 0 #[some 0, none] 0 (-1) [fg 7 0 0 (-1) (-1), fs] 2 (some false) s4) rfl rfl rfl rfl (by dsimp only [mk, fg]; decide) rfl
  refine Fails.step rfl e5 ?_
  exact fails_on T.length (m := mk codeTok T 7 0 0 #[some 0, none] (-1) (-1) [fs] 1 (some false) s5) rfl rfl rfl rfl (by show T.length - 0 ≤ T.length; omega) rfl (by dsimp only [mk, fg]; decide) rfl (by dsimp only [mk, fg]; decide) rfl rfl
end Mine
end
section
set_option Elab.async false
set_option maxRecDepth 100000
namespace Mine
open PySem PySem.Sre

noncomputable abbrev mkL (code : Array Nat) (T : List Nat) (ls st pc pos handed : Nat) (om : Bool) (marks : Array (Option Nat)) (lm li : Int) (frames : List Sre.Frame) (weight : Nat) (ans : Option Bool) (sn : Seen) : M :=
  { code := code, text := T.toArray, lim := T.length, start := st, lastStart := ls, pc := pc, pos := pos, handed := handed, outermost := om, marks := marks, lastmark := lm, lastindex := li, frames := frames, weight := weight, answer := ans, seen := sn }

/-- a value (in marks or plain) is not there where the text begins with ; or , -/
theorem quo_fails {c : Nat} {r : List Nat} (hc : c < 128) (h1 : c ≠ 61) (h2 : spB c = false) (hlen : (c :: r).length < 100000) :
    Fails (2 * (c :: r).length + 10) (forSearch codeQuo (c :: r).toArray 1 0 (c :: r).length false) := by
  have at0 : accB codeQuo 11 ((c :: r).toArray.getD (0 + 0) 0) = .ok false := by
    rw [getD_toArray]; show accB codeQuo 11 c = _; rw [acc_quo_sp hc, h2]
  have at1 : (c :: r).toArray.getD 0 0 ≠ 61 := by rw [getD_toArray]; exact h1
  generalize c :: r = T at *
  by_cases h3 : T.length < 3
  · have hst : forSearch codeQuo T.toArray 1 0 T.length false = mkL codeQuo T 0 0 5 0 0 true #[none, none] (-1) (-1) [] 0 (some false) (({} : Seen).add 14) := by
      unfold forSearch
      show (if (decide (0 > T.length) || decide (T.length - 0 < 3)) = true then _ else _) = _
      rw [if_pos (by simp only [Bool.or_eq_true, decide_eq_true_eq]; omega)]
      rfl
    rw [hst]
    exact (fails_end rfl rfl rfl).mono (by omega)
  · have hst : forSearch codeQuo T.toArray 1 0 T.length false = mkL codeQuo T (max 0 (T.length - 2)) 0 5 0 0 true #[none, none] (-1) (-1) [fs] 1 none (({} : Seen).add 14) := by
      unfold forSearch
      show (if (decide (0 > T.length) || decide (T.length - 0 < 3)) = true then _ else _) = _
      rw [if_neg (by intro h; simp only [Bool.or_eq_true, decide_eq_true_eq] at h; omega)]
      rfl
    rw [hst]
    refine Fails.mono (a := 2 * T.length + 2 + 1 + 1 + 1 + 1) ?_ (by omega)
    obtain ⟨s1, e1⟩ := step_at0 (m := mkL codeQuo T (max 0 (T.length - 2)) 0 5 0 0 true #[none, none] (-1) (-1) [fs] 1 none (({} : Seen).add 14)) rfl rfl (by dsimp only [mkL, fg]; decide) rfl rfl rfl
    refine Fails.step rfl e1 ?_
    obtain ⟨s2, e2⟩ := step_rep (m := mkL codeQuo T (max 0 (T.length - 2)) 0 7 0 0 true #[none, none] (-1) (-1) [fs] 1 none s1) (skip := 9) (least := 0) (n := 0) rfl rfl (by dsimp only [mkL, fg]; decide) rfl rfl rfl rfl (by show T.length < _; omega) (by show 0 + 0 ≤ T.length; omega) (Nat.zero_le _) rfl (by dsimp only [mkL, fg]; decide) (fun j hj => absurd hj (Nat.not_lt_zero _)) (fun _ => at0)
    refine Fails.step rfl e2 ?_
    obtain ⟨s3, e3⟩ := step_lit_no (c := 61) (m := mkL codeQuo T (max 0 (T.length - 2)) 0 17 0 0 true #[none, none] (-1) (-1) [fg 7 0 0 (-1) (-1), fs] 2 none s2) rfl rfl (by dsimp only [mkL, fg]; decide) rfl rfl (fun _ => at1)
    refine Fails.step rfl e3 ?_
    obtain ⟨s5, e5⟩ := step_giveNo (m := mkL codeQuo T (max 0 (T.length - 2)) 0 17 0 0 true #[none, none] (-1) (-1) [fg 7 0 0 (-1) (-1), fs] 2 (some false) s3) rfl rfl rfl rfl (by dsimp only [mkL, fg]; decide) rfl
    refine Fails.step rfl e5 ?_
    exact fails_on T.length (m := mkL codeQuo T (max 0 (T.length - 2)) 0 7 0 0 true #[none, none] (-1) (-1) [fs] 1 (some false) s5) rfl rfl rfl rfl (by show max 0 (T.length - 2) - 0 ≤ T.length; omega) rfl (by dsimp only [mkL, fg]; decide) rfl (by dsimp only [mkL, fg]; decide) rfl rfl

theorem val_fails {c : Nat} {r : List Nat} (hc : c < 128) (h1 : c ≠ 61) (h2 : spB c = false) (hlen : (c :: r).length < 100000) :
    Fails (2 * (c :: r).length + 10) (forSearch codeVal (c :: r).toArray 1 0 (c :: r).length false) := by
  have at0 : accB codeVal 11 ((c :: r).toArray.getD (0 + 0) 0) = .ok false := by
    rw [getD_toArray]; show accB codeVal 11 c = _; rw [acc_val_sp hc, h2]
  have at1 : (c :: r).toArray.getD 0 0 ≠ 61 := by rw [getD_toArray]; exact h1
  have hTl : 0 < (c :: r).length := Nat.zero_lt_succ _
  generalize c :: r = T at *
  have hst : forSearch codeVal T.toArray 1 0 T.length false = mkL codeVal T T.length 0 5 0 0 true #[none, none] (-1) (-1) [fs] 1 none (({} : Seen).add 14) := by
    unfold forSearch
    show (if (decide (0 > T.length) || decide (T.length - 0 < 1)) = true then _ else _) = _
    rw [if_neg (by intro h; simp only [Bool.or_eq_true, decide_eq_true_eq] at h; omega)]
    rfl
  rw [hst]
  refine Fails.mono (a := 2 * T.length + 2 + 1 + 1 + 1 + 1) ?_ (by omega)
  obtain ⟨s1, e1⟩ := step_at0 (m := mkL codeVal T T.length 0 5 0 0 true #[none, none] (-1) (-1) [fs] 1 none (({} : Seen).add 14)) rfl rfl (by dsimp only [mkL, fg]; decide) rfl rfl rfl
  refine Fails.step rfl e1 ?_
  obtain ⟨s2, e2⟩ := step_rep (m := mkL codeVal T T.length 0 7 0 0 true #[none, none] (-1) (-1) [fs] 1 none s1) (skip := 9) (least := 0) (n := 0) rfl rfl (by dsimp only [mkL, fg]; decide) rfl rfl rfl rfl (by show T.length < _; omega) (by show 0 + 0 ≤ T.length; omega) (Nat.zero_le _) rfl (by dsimp only [mkL, fg]; decide) (fun j hj => absurd hj (Nat.not_lt_zero _)) (fun _ => at0)
  refine Fails.step rfl e2 ?_
  obtain ⟨s3, e3⟩ := step_lit_no (c := 61) (m := mkL codeVal T T.length 0 17 0 0 true #[none, none] (-1) (-1) [fg 7 0 0 (-1) (-1), fs] 2 none s2) rfl rfl (by dsimp only [mkL, fg]; decide) rfl rfl (fun _ => at1)
  refine Fails.step rfl e3 ?_
  obtain ⟨s5, e5⟩ := step_giveNo (m := mkL codeVal T T.length 0 17 0 0 true #[none, none] (-1) (-1) [fg 7 0 0 (-1) (-1), fs] 2 (some false) s3) rfl rfl rfl rfl (by dsimp only [mkL, fg]; decide) rfl
  refine Fails.step rfl e5 ?_
  exact fails_on T.length (m := mkL codeVal T T.length 0 7 0 0 true #[none, none] (-1) (-1) [fs] 1 (some false) s5) rfl rfl rfl rfl (by show T.length - 0 ≤ T.length; omega) rfl (by dsimp only [mkL, fg]; decide) rfl (by dsimp only [mkL, fg]; decide) rfl rfl

/-- junk at the head -/
theorem junk_match {jk rest : List Nat} (h128 : ∀ c ∈ jk ++ rest, c < 128) (hj : ∀ c ∈ jk, (c == 61 || c == 59 || spB c) = true) (hrest : ∀ c r, rest = c :: r → (c == 61 || c == 59 || spB c) = false) (hlen : (jk ++ rest).length < 100000) :
    Matches 20 (forSearch codeJunk (jk ++ rest).toArray 0 0 (jk ++ rest).length false) (fun m => m.start = 0 ∧ m.handed = jk.length) := by
  have hTl : (jk ++ rest).length = jk.length + rest.length := by simp
  have at0 : ∀ j, j < jk.length → accB codeJunk 11 ((jk ++ rest).toArray.getD (0 + j) 0) = .ok true := by
    intro j hj'
    have e : (jk ++ rest).toArray.getD (0 + j) 0 = jk[j] := by
      rw [getD_toArray]
      have := getD_mid (a := []) (b := jk) hj' rest
      simpa using this
    have hm : jk[j] ∈ jk := List.getElem_mem hj'
    rw [e, acc_junk (h128 _ (by simp [hm])), hj _ hm]
  have at3 : 0 + jk.length < (jk ++ rest).length → accB codeJunk 11 ((jk ++ rest).toArray.getD (0 + jk.length) 0) = .ok false := by
    intro hlt
    obtain ⟨c, r, rfl⟩ : ∃ c r, rest = c :: r := by cases rest with | nil => simp at hlt | cons c r => exact ⟨c, r, rfl⟩
    have e : (jk ++ c :: r).toArray.getD (0 + jk.length) 0 = c := by
      rw [getD_toArray, Nat.zero_add]
      exact getD_end
    rw [e, acc_junk (h128 _ (by simp)), hrest c r rfl]
  generalize jk ++ rest = T at *
  have hst : forSearch codeJunk T.toArray 0 0 T.length false = mkL codeJunk T T.length 0 5 0 0 true #[] (-1) (-1) [fs] 1 none (({} : Seen).add 14) := by
    unfold forSearch
    show (if (decide (0 > T.length) || decide (T.length - 0 < 0)) = true then _ else _) = _
    rw [if_neg (by intro h; simp only [Bool.or_eq_true, decide_eq_true_eq] at h; omega)]
    rfl
  rw [hst]
  refine Matches.mono (a := 1 + 1 + 1 + 1 + 1 + 1) ?_ (by omega)
  obtain ⟨s1, e1⟩ := step_at0 (m := mkL codeJunk T T.length 0 5 0 0 true #[] (-1) (-1) [fs] 1 none (({} : Seen).add 14)) rfl rfl (by dsimp only [mkL, fg]; decide) rfl rfl rfl
  refine Matches.step rfl e1 ?_
  obtain ⟨s2, e2⟩ := step_rep (m := mkL codeJunk T T.length 0 7 0 0 true #[] (-1) (-1) [fs] 1 none s1) (skip := 13) (least := 0) (n := jk.length) rfl rfl (by dsimp only [mkL, fg]; decide) rfl rfl rfl rfl (by show T.length < _; omega) (by show 0 + jk.length ≤ T.length; omega) (Nat.zero_le _) rfl (by dsimp only [mkL, fg]; decide) at0 at3
  refine Matches.step rfl e2 ?_
  obtain ⟨s6, e6⟩ := step_success (m := mkL codeJunk T T.length 0 21 (0 + jk.length) (0 + jk.length) true #[] (-1) (-1) [fg 7 jk.length (0 + jk.length) (-1) (-1), fs] 2 none s2) rfl rfl (by dsimp only [mkL, fg]; decide) rfl (.inl rfl) rfl
  refine Matches.step rfl e6 ?_
  obtain ⟨s7, e7⟩ := step_yes (m := mkL codeJunk T T.length 0 21 (0 + jk.length) (0 + jk.length) true #[] (-1) (-1) [fg 7 jk.length (0 + jk.length) (-1) (-1), fs] 2 (some true) s6) rfl rfl rfl (.inl rfl)
  refine Matches.step rfl e7 ?_
  obtain ⟨s8, e8⟩ := step_yes (m := mkL codeJunk T T.length 0 7 (0 + jk.length) (0 + jk.length) true #[] (-1) (-1) [fs] 1 (some true) s7) rfl rfl rfl (.inr rfl)
  refine Matches.step rfl e8 ?_
  refine matches_end rfl rfl rfl fun sn => ⟨rfl, ?_⟩
  show 0 + jk.length = _; omega
/-- and none behind it -/
theorem junk_fails {T : List Nat} {p : Nat} (hp : 0 < p) (hpl : p ≤ T.length) : Fails (2 * T.length + 10) (forSearch codeJunk T.toArray 0 p T.length false) := by
  have hst : forSearch codeJunk T.toArray 0 p T.length false = mkL codeJunk T T.length p 5 p p true #[] (-1) (-1) [{ wait := .nextStart, pc := 5, pos := p, outermost := true }] 1 none (({} : Seen).add 14) := by
    unfold forSearch
    show (if (decide (p > T.length) || decide (T.length - p < 0)) = true then _ else _) = _
    rw [if_neg (by intro h; simp only [Bool.or_eq_true, decide_eq_true_eq] at h; omega)]
    rfl
  rw [hst]
  refine Fails.mono (a := 2 * T.length + 2 + 1) ?_ (by omega)
  obtain ⟨s1, e1⟩ := step_at0_no (m := mkL codeJunk T T.length p 5 p p true #[] (-1) (-1) [{ wait := .nextStart, pc := 5, pos := p, outermost := true }] 1 none (({} : Seen).add 14)) rfl rfl (by dsimp only [mkL, fg]; decide) rfl rfl (by show p ≠ 0; omega)
  refine Fails.step rfl e1 ?_
  exact fails_on T.length (m := mkL codeJunk T T.length p 5 p p true #[] (-1) (-1) [{ wait := .nextStart, pc := 5, pos := p, outermost := true }] 1 (some false) s1) rfl rfl rfl rfl (by show T.length - p ≤ T.length; omega) rfl (by dsimp only [mkL, fg]; decide) rfl (by dsimp only [mkL, fg]; decide) rfl rfl

-- the few written texts, by running them
theorem quo_nil : Fails 100 (forSearch codeQuo #[] 1 0 0 false) := ⟨100, Nat.le_refl _, by rfl⟩
theorem val_nil : Fails 100 (forSearch codeVal #[] 1 0 0 false) := ⟨100, Nat.le_refl _, by rfl⟩
theorem quo_1 : Fails 100 (forSearch codeQuo #[61] 1 0 1 false) := ⟨100, Nat.le_refl _, by rfl⟩
theorem quo_2 : Fails 100 (forSearch codeQuo #[61, 61] 1 0 2 false) := ⟨100, Nat.le_refl _, by rfl⟩
theorem val_1 : Matches 100 (forSearch codeVal #[61] 1 0 1 false) (fun m => m.start = 0 ∧ m.handed = 1 ∧ m.marks = #[some 1, some 1] ∧ m.lastmark = 1 ∧ m.lastindex = 1) := ⟨100, Nat.le_refl _, by rfl, by rfl, by rfl, by rfl, by rfl, by rfl⟩
theorem val_2 : Matches 100 (forSearch codeVal #[61, 61] 1 0 2 false) (fun m => m.start = 0 ∧ m.handed = 2 ∧ m.marks = #[some 1, some 2] ∧ m.lastmark = 1 ∧ m.lastindex = 1) := ⟨100, Nat.le_refl _, by rfl, by rfl, by rfl, by rfl, by rfl, by rfl⟩
theorem quo_3 : Matches 100 (forSearch codeQuo #[61, 34, 34] 1 0 3 false) (fun m => m.start = 0 ∧ m.handed = 3 ∧ m.marks = #[some 2, some 2] ∧ m.lastmark = 1 ∧ m.lastindex = 1) := ⟨100, Nat.le_refl _, by rfl, by rfl, by rfl, by rfl, by rfl, by rfl⟩
theorem quo_4 : Matches 100 (forSearch codeQuo #[61, 34, 61, 34] 1 0 4 false) (fun m => m.start = 0 ∧ m.handed = 4 ∧ m.marks = #[some 2, some 3] ∧ m.lastmark = 1 ∧ m.lastindex = 1) := ⟨100, Nat.le_refl _, by rfl, by rfl, by rfl, by rfl, by rfl, by rfl⟩
theorem esc_0 : Fails 100 (forSearch codeEsc #[] 1 0 0 false) := ⟨100, Nat.le_refl _, by rfl⟩
theorem esc_1 : Fails 100 (forSearch codeEsc #[61] 1 0 1 false) := ⟨100, Nat.le_refl _, by rfl⟩
theorem je_0 : Fails 100 (forSearch codeJE #[] 1 0 0 false) := ⟨100, Nat.le_refl _, by rfl⟩
theorem je_1 : Fails 100 (forSearch codeJE #[61] 1 0 1 false) := ⟨100, Nat.le_refl _, by rfl⟩
theorem jt_0 : Fails 100 (forMatch codeJT #[] 0 0 0 true false) := ⟨100, Nat.le_refl _, by rfl⟩
theorem jt_1 : Fails 100 (forMatch codeJT #[61] 0 0 1 true false) := ⟨100, Nat.le_refl _, by rfl⟩
end Mine
end
section
set_option Elab.async false
set_option maxRecDepth 100000
namespace Mine
open PySem

theorem own_re_Pattern : Manifest.owners.lookup (String.ofList ['n', 'r', 'e', 't', 't', 'a', 'P', '.', 'e', 'r'].reverse) = some Manifest.sig_re_Pattern := by kernel_rfl
theorem own_re_Match : Manifest.owners.lookup (String.ofList ['h', 'c', 't', 'a', 'M', '.', 'e', 'r'].reverse) = some Manifest.sig_re_Match := by kernel_rfl
theorem own_bytes : Manifest.owners.lookup (String.ofList ['s', 'e', 't', 'y', 'b'].reverse) = some Manifest.sig_bytes := by kernel_rfl
theorem slot_re_Pattern_search : Slot "re.Pattern" "search" "re.Pattern.search" :=
  .of (owner := "re.Pattern") (n := "search") (by rw [typeLookup_type, builtinLookup_eq_fast]; kernel_rfl) (by decide +kernel) (by decide +kernel) (by decide +kernel)
    (by first | exact .inl (by decide +kernel) | exact .inr (by decide +kernel)) (by rw [isSubtype_type]; kernel_rfl)
theorem type_re_Pattern_search : typeOf (.builtin "re.Pattern.search") = pure (.type "method_descriptor") := by show builtinType _ = _; rw [builtinType_eq_fast]; kernel_rfl
theorem entry_re_Pattern_search : entryFor table "re.Pattern.search" = some Builtin.«re.Pattern.search» := entryFor_of_tree (by kernel_rfl)
theorem args_re_Pattern_search_2 (a b : Value) : argsOk "re.Pattern.search" ⟨[a, b], []⟩ := by
  unfold argsOk; rw [signature?_of (id := "re.Pattern.search") (n := ['h', 'c', 'r', 'a', 'e', 's']) (o := ['n', 'r', 'e', 't', 't', 'a', 'P', '.', 'e', 'r']) (by kernel_rfl) own_re_Pattern]; kernel_rfl
theorem slot_re_Pattern_fullmatch : Slot "re.Pattern" "fullmatch" "re.Pattern.fullmatch" :=
  .of (owner := "re.Pattern") (n := "fullmatch") (by rw [typeLookup_type, builtinLookup_eq_fast]; kernel_rfl) (by decide +kernel) (by decide +kernel) (by decide +kernel)
    (by first | exact .inl (by decide +kernel) | exact .inr (by decide +kernel)) (by rw [isSubtype_type]; kernel_rfl)
theorem type_re_Pattern_fullmatch : typeOf (.builtin "re.Pattern.fullmatch") = pure (.type "method_descriptor") := by show builtinType _ = _; rw [builtinType_eq_fast]; kernel_rfl
theorem entry_re_Pattern_fullmatch : entryFor table "re.Pattern.fullmatch" = some Builtin.«re.Pattern.fullmatch» := entryFor_of_tree (by kernel_rfl)
theorem args_re_Pattern_fullmatch_2 (a b : Value) : argsOk "re.Pattern.fullmatch" ⟨[a, b], []⟩ := by
  unfold argsOk; rw [signature?_of (id := "re.Pattern.fullmatch") (n := ['h', 'c', 't', 'a', 'm', 'l', 'l', 'u', 'f']) (o := ['n', 'r', 'e', 't', 't', 'a', 'P', '.', 'e', 'r']) (by kernel_rfl) own_re_Pattern]; kernel_rfl
theorem slot_re_Pattern_sub : Slot "re.Pattern" "sub" "re.Pattern.sub" :=
  .of (owner := "re.Pattern") (n := "sub") (by rw [typeLookup_type, builtinLookup_eq_fast]; kernel_rfl) (by decide +kernel) (by decide +kernel) (by decide +kernel)
    (by first | exact .inl (by decide +kernel) | exact .inr (by decide +kernel)) (by rw [isSubtype_type]; kernel_rfl)
theorem type_re_Pattern_sub : typeOf (.builtin "re.Pattern.sub") = pure (.type "method_descriptor") := by show builtinType _ = _; rw [builtinType_eq_fast]; kernel_rfl
theorem entry_re_Pattern_sub : entryFor table "re.Pattern.sub" = some Builtin.«re.Pattern.sub» := entryFor_of_tree (by kernel_rfl)
theorem args_re_Pattern_sub_3 (a b c : Value) : argsOk "re.Pattern.sub" ⟨[a, b, c], []⟩ := by
  unfold argsOk; rw [signature?_of (id := "re.Pattern.sub") (n := ['b', 'u', 's']) (o := ['n', 'r', 'e', 't', 't', 'a', 'P', '.', 'e', 'r']) (by kernel_rfl) own_re_Pattern]; kernel_rfl
theorem slot_re_Pattern_subn : Slot "re.Pattern" "subn" "re.Pattern.subn" :=
  .of (owner := "re.Pattern") (n := "subn") (by rw [typeLookup_type, builtinLookup_eq_fast]; kernel_rfl) (by decide +kernel) (by decide +kernel) (by decide +kernel)
    (by first | exact .inl (by decide +kernel) | exact .inr (by decide +kernel)) (by rw [isSubtype_type]; kernel_rfl)
theorem type_re_Pattern_subn : typeOf (.builtin "re.Pattern.subn") = pure (.type "method_descriptor") := by show builtinType _ = _; rw [builtinType_eq_fast]; kernel_rfl
theorem entry_re_Pattern_subn : entryFor table "re.Pattern.subn" = some Builtin.«re.Pattern.subn» := entryFor_of_tree (by kernel_rfl)
theorem args_re_Pattern_subn_3 (a b c : Value) : argsOk "re.Pattern.subn" ⟨[a, b, c], []⟩ := by
  unfold argsOk; rw [signature?_of (id := "re.Pattern.subn") (n := ['n', 'b', 'u', 's']) (o := ['n', 'r', 'e', 't', 't', 'a', 'P', '.', 'e', 'r']) (by kernel_rfl) own_re_Pattern]; kernel_rfl
theorem slot_re_Match_span : Slot "re.Match" "span" "re.Match.span" :=
  .of (owner := "re.Match") (n := "span") (by rw [typeLookup_type, builtinLookup_eq_fast]; kernel_rfl) (by decide +kernel) (by decide +kernel) (by decide +kernel)
    (by first | exact .inl (by decide +kernel) | exact .inr (by decide +kernel)) (by rw [isSubtype_type]; kernel_rfl)
theorem type_re_Match_span : typeOf (.builtin "re.Match.span") = pure (.type "method_descriptor") := by show builtinType _ = _; rw [builtinType_eq_fast]; kernel_rfl
theorem entry_re_Match_span : entryFor table "re.Match.span" = some Builtin.«re.Match.span» := entryFor_of_tree (by kernel_rfl)
theorem args_re_Match_span_2 (a b : Value) : argsOk "re.Match.span" ⟨[a, b], []⟩ := by
  unfold argsOk; rw [signature?_of (id := "re.Match.span") (n := ['n', 'a', 'p', 's']) (o := ['h', 'c', 't', 'a', 'M', '.', 'e', 'r']) (by kernel_rfl) own_re_Match]; kernel_rfl
theorem slot_re_Match_group : Slot "re.Match" "group" "re.Match.group" :=
  .of (owner := "re.Match") (n := "group") (by rw [typeLookup_type, builtinLookup_eq_fast]; kernel_rfl) (by decide +kernel) (by decide +kernel) (by decide +kernel)
    (by first | exact .inl (by decide +kernel) | exact .inr (by decide +kernel)) (by rw [isSubtype_type]; kernel_rfl)
theorem type_re_Match_group : typeOf (.builtin "re.Match.group") = pure (.type "method_descriptor") := by show builtinType _ = _; rw [builtinType_eq_fast]; kernel_rfl
theorem entry_re_Match_group : entryFor table "re.Match.group" = some Builtin.«re.Match.group» := entryFor_of_tree (by kernel_rfl)
theorem args_re_Match_group_2 (a b : Value) : argsOk "re.Match.group" ⟨[a, b], []⟩ := by
  unfold argsOk; rw [signature?_of (id := "re.Match.group") (n := ['p', 'u', 'o', 'r', 'g']) (o := ['h', 'c', 't', 'a', 'M', '.', 'e', 'r']) (by kernel_rfl) own_re_Match]; kernel_rfl
theorem slot_bytes_translate : Slot "bytes" "translate" "bytes.translate" :=
  .of (owner := "bytes") (n := "translate") (by rw [typeLookup_type, builtinLookup_eq_fast]; kernel_rfl) (by decide +kernel) (by decide +kernel) (by decide +kernel)
    (by first | exact .inl (by decide +kernel) | exact .inr (by decide +kernel)) (by rw [isSubtype_type]; kernel_rfl)
theorem type_bytes_translate : typeOf (.builtin "bytes.translate") = pure (.type "method_descriptor") := by show builtinType _ = _; rw [builtinType_eq_fast]; kernel_rfl
theorem entry_bytes_translate : entryFor table "bytes.translate" = some Builtin.«bytes.translate» := entryFor_of_tree (by kernel_rfl)
theorem args_bytes_translate_2 (a b : Value) : argsOk "bytes.translate" ⟨[a, b], []⟩ := by
  unfold argsOk; rw [signature?_of (id := "bytes.translate") (n := ['e', 't', 'a', 'l', 's', 'n', 'a', 'r', 't']) (o := ['s', 'e', 't', 'y', 'b']) (by kernel_rfl) own_bytes]; kernel_rfl
theorem entry_subloop : entryFor table "re.Pattern.sub.loop" = some Builtin.«re.Pattern.sub.loop» := entryFor_of_tree (by kernel_rfl)
theorem plainAttrs_re_Pattern : PlainAttrs "re.Pattern" :=
  ⟨⟨"object.__getattribute__", by rw [typeLookup_type, builtinLookup_eq_fast]; kernel_rfl, by decide +kernel⟩, by rw [typeLookup_type, builtinLookup_eq_fast]; kernel_rfl⟩
theorem plainAttrs_re_Match : PlainAttrs "re.Match" :=
  ⟨⟨"object.__getattribute__", by rw [typeLookup_type, builtinLookup_eq_fast]; kernel_rfl, by decide +kernel⟩, by rw [typeLookup_type, builtinLookup_eq_fast]; kernel_rfl⟩
end Mine
end
section
set_option Elab.async false
set_option maxRecDepth 100000
namespace Mine
open PySem
theorem slot_rm_ga : Slot "re.Match" "__getattribute__" "object.__getattribute__" :=
  .of (owner := "object") (n := "__getattribute__") (by rw [typeLookup_type, builtinLookup_eq_fast]; kernel_rfl) (by decide +kernel) (by decide +kernel) (by decide +kernel)
    (by first | exact .inl (by decide +kernel) | exact .inr (by decide +kernel)) (by rw [isSubtype_type]; kernel_rfl)
theorem slot_md_get : Slot "member_descriptor" "__get__" "member_descriptor.__get__" :=
  .of (owner := "member_descriptor") (n := "__get__") (by rw [typeLookup_type, builtinLookup_eq_fast]; kernel_rfl) (by decide +kernel) (by decide +kernel) (by decide +kernel)
    (by first | exact .inl (by decide +kernel) | exact .inr (by decide +kernel)) (by rw [isSubtype_type]; kernel_rfl)
theorem slot_md_set : Slot "member_descriptor" "__set__" "member_descriptor.__set__" :=
  .of (owner := "member_descriptor") (n := "__set__") (by rw [typeLookup_type, builtinLookup_eq_fast]; kernel_rfl) (by decide +kernel) (by decide +kernel) (by decide +kernel)
    (by first | exact .inl (by decide +kernel) | exact .inr (by decide +kernel)) (by rw [isSubtype_type]; kernel_rfl)
theorem entry_md_get : entryFor table "member_descriptor.__get__" = some Builtin.«member_descriptor.__get__» := entryFor_of_tree (by kernel_rfl)
theorem args_md_get (a b c : Value) : argsOk "member_descriptor.__get__" ⟨[a, b, c], []⟩ := by unfold argsOk; kernel_rfl
theorem typeOf_rm_string : typeOf (.builtin "re.Match.string") = pure (.type "member_descriptor") := by show builtinType _ = _; rw [builtinType_eq_fast]; kernel_rfl
theorem lk_rm_string : typeLookup (.type "re.Match") "string" = pure (some (.builtin "re.Match.string")) := by rw [typeLookup_type, builtinLookup_eq_fast]; kernel_rfl
theorem entry_rm_string : entryFor table "re.Match.string" = some Builtin.«re.Match.string» := entryFor_of_tree (by kernel_rfl)
theorem owner_rm_string : (".".intercalate ("re.Match.string".cutAt '.').dropLast) = "re.Match" := by
  have e0 : "re.Match.string".cutAt '.' = ["re", "Match", "string"] := by first | rfl | decide +kernel
  rw [e0]; decide +kernel
theorem sub_rm_owner : isSubtype (.type "re.Match") (.type (".".intercalate ("re.Match.string".cutAt '.').dropLast)) = pure true := by
  rw [owner_rm_string, isSubtype_type]; kernel_rfl
theorem args_obj_ga_2 (a b : Value) : argsOk "object.__getattribute__" ⟨[a, b], []⟩ := by unfold argsOk; kernel_rfl
theorem entry_obj_ga : entryFor table "object.__getattribute__" = some Builtin.«object.__getattribute__» := entryFor_of_tree (by kernel_rfl)
section
variable {prog : Program} {w : World} {A : Around} {E : Value → Shared → Prop} {h : Heap} {g : Array GenState} {d : Drawn} {t : Nat} {os : OsState} {a : Addr} {str : Value} {vs : List Value}
noncomputable abbrev mObj (str : Value) (vs : List Value) : Obj := { cls := .type "re.Match", data := .fields (str :: vs).toArray }
theorem string_get {R : Result → Shared → Prop} (hx : h.get? a = some (mObj str vs)) (hq : R (.ok (.ret str)) ⟨h, g, d, t, os⟩) :
    codeAny (model prog w) A (.call (.builtin "member_descriptor.__get__") ⟨[.builtin "re.Match.string", .ref a, .type "re.Match"], []⟩) R ⟨h, g, d, t, os⟩ := by
  have hT : (⟨h, g, d, t, os⟩ : Shared).TypeIs (.ref a) "re.Match" := ⟨_, hx, rfl⟩
  have hT5 : (⟨h, g, d, t, os⟩ : Shared).TypeIs (.builtin "re.Match.string") "member_descriptor" := typeOf_rm_string
  have f8 := sub_rm_owner
  refine codeAny_call_builtin slot_md_get.plain entry_md_get (slot_md_get.check _ _ _ _ _ _ _ _ hT5 (args_md_get _ _ _) ?_)
  repeat (any_goals (first | assumption | wp_step))
  refine ⟨Code.quiet_builtin _ (by decide +kernel), codeAny_builtin entry_rm_string ?_⟩
  repeat (any_goals (first | assumption | wp_step))
theorem string_entry {tk : Tok} {Q : Fin → Shared → Prop} (hx : h.get? a = some (mObj str vs)) (hq : Q (.done (.ret str)) ⟨h, g, d, t, os⟩) :
    wpAny (model prog w) A (Builtin.«object.__getattribute__» ⟨[.ref a, .str "string" tk], []⟩) Q E ⟨h, g, d, t, os⟩ := by
  have hT : (⟨h, g, d, t, os⟩ : Shared).TypeIs (.ref a) "re.Match" := ⟨_, hx, rfl⟩
  have hT5 : (⟨h, g, d, t, os⟩ : Shared).TypeIs (.builtin "re.Match.string") "member_descriptor" := typeOf_rm_string
  have f4 := lk_rm_string
  have f5 := typeOf_rm_string
  have f6 := slot_md_get.lookup
  have f7 := slot_md_set.lookup
  repeat (any_goals (first | assumption | wp_step))
  refine string_get hx ?_
  repeat (any_goals (first | assumption | wp_step))
theorem string_call {tk : Tok} {R : Result → Shared → Prop} (hx : h.get? a = some (mObj str vs)) (hq : R (.ok (.ret str)) ⟨h, g, d, t, os⟩) :
    codeAny (model prog w) A (.call (.builtin "object.__getattribute__") ⟨[.ref a, .str "string" tk], []⟩) R ⟨h, g, d, t, os⟩ :=
  codeAny_call_builtin slot_rm_ga.plain entry_obj_ga (slot_rm_ga.check _ _ _ _ _ _ _ _ (show (⟨h, g, d, t, os⟩ : Shared).TypeIs (.ref a) "re.Match" from ⟨_, hx, rfl⟩) (args_obj_ga_2 _ _) (string_entry hx hq))
theorem string_by {tk u : Tok} {x : Str} {b c : Bool} {Q : Value → Shared → Prop} (hx : h.get? a = some (mObj (.str x u) vs)) (hq : Q (.str x u) ⟨h, g, d, t, os⟩) : wpAny (model prog w) A (getAttrBy (.ref a) (.str "string" tk) b c) Q E ⟨h, g, d, t, os⟩ := by
  have hT : (⟨h, g, d, t, os⟩ : Shared).TypeIs (.ref a) "re.Match" := ⟨_, hx, rfl⟩
  have f2 := slot_rm_ga.lookup
  have f3 := slot_rm_ga.bind (.ref a)
  repeat (any_goals (first | assumption | wp_step))
  refine wpAny_ite ?_
  rw [if_neg (by cases c <;> exact Bool.false_ne_true)]
  repeat (any_goals (first | assumption | wp_step))
  refine string_call hx ?_
  repeat (any_goals (first | assumption | wp_step))
theorem getAttr_string {u : Tok} {x : Str} {s : Shared} {c : Bool} {Q : Value → Shared → Prop} (hx : s.heap.get? a = some (mObj (.str x u) vs)) (hq : Q (.str x u) { s with toks := s.toks + 1 }) : wpAny (model prog w) A (getAttr (.ref a) "string" c) Q E s := by
  unfold getAttr
  exact wpAny_bind (wpAny_mkText (string_by hx hq))
end
end Mine
end
section
set_option Elab.async false
set_option maxRecDepth 100000
namespace Mine
open PySem PySem.Builtin.Re

theorem runFor_stable {n : Nat} {m : Sre.M} (h : m.outcome.isSome = true) : Sre.M.runFor n m = m := by
  cases n with
  | zero => rfl
  | succ n => rw [Sre.M.runFor, if_pos h]

section
variable {M : Model} {A : Around} {E : Value → Shared → Prop} {s : Shared}
theorem wp_drive {Q : Sre.M → Shared → Prop} : ∀ (turns n : Nat) (m : Sre.M), 0 < turns → n ≤ 4 * turns → (Sre.M.runFor n m).outcome.isSome = true → Q (Sre.M.runFor n m) s → wpAny M A (reDrive turns m) Q E s
  | 0, _, _, h0, _, _, _ => absurd h0 (Nat.lt_irrefl _)
  | t + 1, n, m, _, hn, ho, hq => by
    unfold reDrive
    show wpAny M A (if (Sre.M.runFor 4 m).outcome.isSome = true then pure (Sre.M.runFor 4 m) else _) Q E s
    by_cases h4 : (Sre.M.runFor 4 m).outcome.isSome = true
    · rw [if_pos h4]
      refine wpAny_pure ?_
      have : Sre.M.runFor n m = Sre.M.runFor 4 m := by
        by_cases hle : n ≤ 4
        · obtain ⟨d, hd⟩ : ∃ d, 4 = n + d := ⟨4 - n, by omega⟩
          rw [hd, runFor_add, runFor_stable ho]
        · obtain ⟨d, rfl⟩ : ∃ d, n = 4 + d := ⟨n - 4, by omega⟩
          rw [runFor_add, runFor_stable h4]
      rw [← this]; exact hq
    · rw [if_neg h4]
      have hle : ¬ n ≤ 4 := fun hle => by
        obtain ⟨d, hd⟩ : ∃ d, 4 = n + d := ⟨4 - n, by omega⟩
        rw [hd, runFor_add, runFor_stable ho] at h4
        exact h4 ho
      obtain ⟨d, rfl⟩ : ∃ d, n = 4 + d := ⟨n - 4, by omega⟩
      rw [runFor_add] at ho hq
      refine wpAny_bind (wpAny_rule ?_)
      exact wp_drive t d _ (by omega) (by omega) ho hq

theorem wp_forIn_quiet {β : Type} {l : List β} {f : β → PUnit → Sem (ForInStep PUnit)} {Q : PUnit → Shared → Prop} (hf : ∀ b ∈ l, ∀ (Q' : ForInStep PUnit → Shared → Prop), Q' (.yield ⟨⟩) s → wpAny M A (f b ⟨⟩) Q' E s) (h : Q ⟨⟩ s) :
    wpAny M A (forIn l PUnit.unit f) Q E s := by
  induction l with
  | nil => rw [List.forIn_nil]; exact wpAny_pure h
  | cons b l ih =>
    rw [List.forIn_cons]
    refine wpAny_bind (hf b (.head _) _ ?_)
    exact ih fun b' hb' => hf b' (.tail _ hb')

theorem wp_runToEnd {m : Sre.M} {Q : Option Sre.M → Shared → Prop} (n : Nat) (hn : n ≤ 4 * 2 ^ 64) (ho : (Sre.M.runFor n m).outcome.isSome = true)
    (hq : wpAny M A (match (Sre.M.runFor n m).outcome with
      | some .matched => pure (some (Sre.M.runFor n m))
      | some .failed => pure none
      | some (.stuck why) => unsupported s!"_sre:{why}"
      | none => unsupported "internal:sre:no-outcome") Q E s) : wpAny M A (reRunToEnd m) Q E s := by
  unfold reRunToEnd
  refine wpAny_bind (wp_drive _ n m (by decide) hn ho ?_)
  refine wpAny_bind (wp_forIn_quiet (fun b _ Q' hQ' => ?_) hq)
  split
  · exact wpAny_bind (wpAny_rule (wpAny_pure hQ'))
  · exact wpAny_pure hQ'
theorem wp_fails {m : Sre.M} {Q : Option Sre.M → Shared → Prop} {k : Nat} (h : Fails k m) (hk : k ≤ 2 ^ 60) (hq : Q none s) : wpAny M A (reRunToEnd m) Q E s := by
  obtain ⟨n, hn, ho⟩ := h
  refine wp_runToEnd n (by omega) (by rw [ho]; rfl) ?_
  rw [ho]
  exact wpAny_pure hq
theorem wp_matches {m : Sre.M} {P : Sre.M → Prop} {Q : Option Sre.M → Shared → Prop} {k : Nat} (h : Matches k m P) (hk : k ≤ 2 ^ 60) (hq : ∀ m', P m' → Q (some m') s) : wpAny M A (reRunToEnd m) Q E s := by
  obtain ⟨n, hn, ho, hp⟩ := h
  refine wp_runToEnd n (by omega) (by rw [ho]; rfl) ?_
  rw [ho]
  exact wpAny_pure (hq _ hp)
end
end Mine
end
section
set_option Elab.async false
set_option maxRecDepth 100000
namespace Mine
open PySem PySem.Builtin.Re

noncomputable abbrev patObj (src : Str) (t0 t1 : Tok) (g : Nat) (c : Addr) : Obj := { cls := .type "re.Pattern", data := .fields #[.str src t0, .int 32 t1, .int g 0, .none, .none, .ref c, .int 0 0] }
noncomputable abbrev codeObj (code : List Nat) : Obj := { cls := .type "tuple", data := .seq (code.map fun (n : Nat) => Value.int n 0).toArray }
noncomputable def PatAt (h : Heap) (a : Addr) (code : Array Nat) (g : Nat) : Prop := ∃ src t0 t1 c, h.get? a = some (patObj src t0 t1 g c) ∧ h.get? c = some (codeObj code.toList)
theorem PatAt.keeps {h h' : Heap} {a : Addr} {code : Array Nat} {g : Nat} (p : PatAt h a code g) (k : h.StaysIn h') : PatAt h' a code g := by
  obtain ⟨src, t0, t1, c, h1, h2⟩ := p
  exact ⟨src, t0, t1, c, k _ _ h1, k _ _ h2⟩
noncomputable abbrev tgt (a : Addr) (x : Str) (t : Tok) (code : Array Nat) (g : Nat) : ReTarget := { pattern := .ref a, string := .str x t, code := code, text := x.cps, kind := 0, groups := g, pos := 0, lim := x.cps.size }

section
variable {M : Model} {A : Around} {E : Value → Shared → Prop} {s : Shared} {a : Addr} {x : Str} {t : Tok} {code : Array Nat} {g : Nat}
theorem rawItems_code {c : Addr} {Q : Array Int → Shared → Prop} (h2 : s.heap.get? c = some (codeObj code.toList)) (h : Q (code.map fun (n : Nat) => (n : Int)) s) : wpAny M A (reRawItems (.ref c)) Q E s := by
  unfold reRawItems seqItems?
  refine wpAny_bind (wpAny_bind (wpAny_load h2 (wpAny_pure (wpAny_pure ?_))))
  have : ((some (code.toList.map fun (n : Nat) => Value.int n 0).toArray).getD #[]).map reRawOf = code.map fun (n : Nat) => (n : Int) := by
    apply Array.ext'
    simp [reRawOf, Function.comp_def]
  show Q (((some (code.toList.map fun (n : Nat) => Value.int n 0).toArray).getD #[]).map reRawOf) s
  rw [this]; exact h
theorem textOf_str {Q : Array Nat × Nat → Shared → Prop} (h : Q (x.cps, 0) s) : wpAny M A (reTextOf (.str x t)) Q E s := h |> fun h => by
  unfold reTextOf
  exact wpAny_bind (wpAny_pure (wpAny_pure h))
theorem target_wp {id f : String} {Q : ReTarget → Shared → Prop} (hp : PatAt s.heap a code g) (hx : x.cps.size < 2 ^ 62) (h : Q (tgt a x t code g) s) : wpAny M A (reTarget id f ⟨[.ref a, .str x t], []⟩) Q E s := by
  obtain ⟨src, t0, t1, c, h1, h2⟩ := hp
  unfold reTarget
  show wpAny M A (reNamed id f ["string", "pos", "endpos"] 1 [.str x t] [] >>= _) Q E s
  rw [show reNamed id f ["string", "pos", "endpos"] 1 [.str x t] [] = pure [some (.str x t), none, none] from rfl]
  refine wpAny_bind (wpAny_pure ?_)
  refine wpAny_bind (wpAny_pure ?_)
  refine wpAny_bind (wpAny_pure ?_)
  refine wpAny_bind ?_
  unfold fieldsOf
  refine wpAny_bind (wpAny_load h1 (wpAny_pure ?_))
  refine wpAny_bind (textOf_str ?_)
  dsimp only
  rw [if_neg (by simp)]
  rw [if_neg (by simp [reRawNat])]
  refine wpAny_bind ?_
  unfold reNoCollectionInside
  rw [if_neg (by decide)]
  refine wpAny_pure ?_
  refine wpAny_bind (rawItems_code (c := c) h2 ?_)
  refine wpAny_pure ?_
  have e1 : ((code.map fun (n : Nat) => (n : Int)).map fun (i : Int) => i.toNat) = code := by
    apply Array.ext'
    simp [Function.comp_def]
  show Q { pattern := .ref a, string := .str x t, code := ((code.map fun (n : Nat) => (n : Int)).map fun (i : Int) => i.toNat), text := x.cps, kind := 0, groups := ((g : Int)).toNat, pos := min (0 : Int).toNat x.cps.size, lim := min ((2 ^ 63 - 1 : Int)).toNat x.cps.size } s
  rw [e1, show min (0 : Int).toNat x.cps.size = 0 from by simp, show min ((2 ^ 63 - 1 : Int)).toNat x.cps.size = x.cps.size from by
    have : ((2 ^ 63 - 1 : Int)).toNat = 9223372036854775807 := by decide
    rw [this]; omega, show ((g : Int)).toNat = g from Int.toNat_natCast g]
  exact h
noncomputable abbrev spanObj (st hd b e : Nat) : Obj := { cls := .type "tuple", data := .seq [Value.int st 0, .int hd 0, .int b 0, .int e 0].toArray }
noncomputable abbrev matchVs (a : Addr) (lim : Nat) (tp : Addr) : List Value := [.ref a, .int (0 : Nat) 0, .int lim 0, .int 1 0, .ref tp]
theorem newMatch_wp {m : Sre.M} {st hd b e lim : Nat} {str : Value} {Q : Value → Shared → Prop} (h1 : m.start = st) (h2 : m.handed = hd) (h3 : m.marks = #[some b, some e]) (h4 : m.lastmark = 1) (h5 : m.lastindex = 1) (hbe : b ≤ e)
    (h : Q (.ref (s.heap.push (spanObj st hd b e)).objs.size) { s with heap := (s.heap.push (spanObj st hd b e)).push (mObj str (matchVs a lim s.heap.objs.size)) }) :
    wpAny M A (reNewMatch (.ref a) str 1 0 lim m) Q E s := by
  unfold reNewMatch
  rw [h1, h2, h3, h4, h5]
  dsimp only
  rw [if_neg (by
    show ¬ (((decide (((1 : Nat) : Int) ≤ 1) && decide (e < b)) || false) = true)
    simp [Nat.not_lt.mpr hbe])]
  refine wpAny_bind ?_
  unfold newTuple
  refine wpAny_newObj_type ?_ (show (4 : Nat) ≤ sizeLine from by decide)
  unfold newFields
  exact wpAny_newObj_type h (by first | trivial | size_fits)
end
section
variable {prog : Program} {w : World} {A : Around} {E : Value → Shared → Prop} {s : Shared} {a : Addr} {x : Str} {t : Tok} {code : Array Nat} {g : Nat} {Q : Value → Shared → Prop}
theorem search_none {k : Nat} (hp : PatAt s.heap a code g) (hx : x.cps.size < 2 ^ 58) (hk : k ≤ 2 ^ 60) (hf : Fails k (Sre.forSearch code x.cps g 0 x.cps.size false)) (h : Q .none s) :
    wpAny (model prog w) A (call (.builtin "re.Pattern.search") [.ref a, .str x t]) Q E s := by
  have hT : s.TypeIs (.ref a) "re.Pattern" := by obtain ⟨src, t0, t1, c, h1, h2⟩ := hp; exact ⟨_, h1, rfl⟩
  refine call_meets (S := fun _ R s => PatAt s.heap a code g ∧ R (.ok (.ret .none)) s) slot_re_Pattern_search hT entry_re_Pattern_search (args_re_Pattern_search_2 _ _) ?_ ⟨hp, h⟩
  rintro prog w A R s ⟨hp, h⟩
  unfold Builtin.«re.Pattern.search»
  refine wpAny_bind (target_wp hp (by omega) ?_)
  unfold reAnswer
  refine wpAny_bind (wp_fails hf hk ?_)
  exact wpAny_pure h
theorem search_some {k st hd b e : Nat} (hp : PatAt s.heap a code 1) (hx : x.cps.size < 2 ^ 58) (hk : k ≤ 2 ^ 60) (hbe : b ≤ e)
    (hm : Matches k (Sre.forSearch code x.cps 1 0 x.cps.size false) (fun m => m.start = st ∧ m.handed = hd ∧ m.marks = #[some b, some e] ∧ m.lastmark = 1 ∧ m.lastindex = 1))
    (h : Q (.ref (s.heap.push (spanObj st hd b e)).objs.size) { s with heap := (s.heap.push (spanObj st hd b e)).push (mObj (.str x t) (matchVs a x.cps.size s.heap.objs.size)) }) :
    wpAny (model prog w) A (call (.builtin "re.Pattern.search") [.ref a, .str x t]) Q E s := by
  have hT : s.TypeIs (.ref a) "re.Pattern" := by obtain ⟨src, t0, t1, c, h1, h2⟩ := hp; exact ⟨_, h1, rfl⟩
  refine call_meets (S := fun _ R s => PatAt s.heap a code 1 ∧ R (.ok (.ret (.ref (s.heap.push (spanObj st hd b e)).objs.size))) { s with heap := (s.heap.push (spanObj st hd b e)).push (mObj (.str x t) (matchVs a x.cps.size s.heap.objs.size)) })
    slot_re_Pattern_search hT entry_re_Pattern_search (args_re_Pattern_search_2 _ _) ?_ ⟨hp, h⟩
  rintro prog w A R s ⟨hp, h⟩
  unfold Builtin.«re.Pattern.search»
  refine wpAny_bind (target_wp hp (by omega) ?_)
  unfold reAnswer
  refine wpAny_bind (wp_matches hm hk ?_)
  rintro m ⟨h1, h2, h3, h4, h5⟩
  refine wpAny_bind (newMatch_wp h1 h2 h3 h4 h5 hbe ?_)
  exact wpAny_pure h
theorem fullmatch_none {k : Nat} (hp : PatAt s.heap a code g) (hx : x.cps.size < 2 ^ 58) (hk : k ≤ 2 ^ 60) (hf : Fails k (Sre.forMatch code x.cps g 0 x.cps.size true false)) (h : Q .none s) :
    wpAny (model prog w) A (call (.builtin "re.Pattern.fullmatch") [.ref a, .str x t]) Q E s := by
  have hT : s.TypeIs (.ref a) "re.Pattern" := by obtain ⟨src, t0, t1, c, h1, h2⟩ := hp; exact ⟨_, h1, rfl⟩
  refine call_meets (S := fun _ R s => PatAt s.heap a code g ∧ R (.ok (.ret .none)) s) slot_re_Pattern_fullmatch hT entry_re_Pattern_fullmatch (args_re_Pattern_fullmatch_2 _ _) ?_ ⟨hp, h⟩
  rintro prog w A R s ⟨hp, h⟩
  unfold Builtin.«re.Pattern.fullmatch»
  refine wpAny_bind (target_wp hp (by omega) ?_)
  unfold reAnswer
  refine wpAny_bind (wp_fails hf hk ?_)
  exact wpAny_pure h
end
end Mine
end
section
set_option Elab.async false
set_option maxRecDepth 100000
namespace Mine
open PySem PySem.Builtin.Re

section
variable {M : Model} {A : Around} {E : Value → Shared → Prop} {s : Shared} {a tp p : Addr} {x : Str} {t u : Tok} {st hd b e lim : Nat} {str : Value}
theorem found_wp {Q : ReFound → Shared → Prop} (h1 : s.heap.get? a = some (mObj str (matchVs p lim tp))) (h2 : s.heap.get? tp = some (spanObj st hd b e))
    (h : Q { fields := (str :: matchVs p lim tp).toArray, spans := #[(st : Int), hd, b, e] } s) : wpAny M A (reFound (.ref a)) Q E s := by
  unfold reFound fieldsOf
  refine wpAny_bind (wpAny_bind (wpAny_load h1 (wpAny_pure ?_)))
  refine wpAny_bind ?_
  show wpAny M A (reRawItems (.ref tp)) _ E s
  unfold reRawItems seqItems?
  refine wpAny_bind (wpAny_bind (wpAny_load h2 (wpAny_pure (wpAny_pure (wpAny_pure ?_)))))
  have e9 : Array.map reRawOf ((some [Value.int (st : Int) 0, .int hd 0, .int b 0, .int e 0].toArray).getD #[]) = #[(st : Int), hd, b, e] := by
    apply Array.ext'; simp [reRawOf]
  show Q { fields := (str :: matchVs p lim tp).toArray, spans := Array.map reRawOf ((some [Value.int (st : Int) 0, .int hd 0, .int b 0, .int e 0].toArray).getD #[]) } s
  rw [e9]; exact h
theorem groupNo_wp {Q : Nat → Shared → Prop} {f : ReFound} {i : Nat} (hf : f.spans.size = 4) (hi : i < 2) (h : Q i s) : wpAny M A (reGroupNumber f (.int i u)) Q E s := by
  unfold reGroupNumber
  refine wpAny_bind (wpAny_pure ?_)
  rw [if_pos (by rfl)]
  refine wpAny_bind ?_
  unfold asIndex
  refine wpAny_bind (wpAny_pure (wpAny_pure ?_))
  dsimp only
  rw [if_neg (by rw [hf]; simp; omega)]
  exact wpAny_pure (by simpa using h)
end
section
variable {prog : Program} {w : World} {A : Around} {E : Value → Shared → Prop} {s : Shared} {a tp p : Addr} {x : Str} {t u : Tok} {st hd b e lim : Nat} {str : Value} {Q : Value → Shared → Prop}
theorem span_call (h1 : s.heap.get? a = some (mObj str (matchVs p lim tp))) (h2 : s.heap.get? tp = some (spanObj st hd b e))
    (h : Q (.ref s.heap.objs.size) { s with heap := s.heap.push { cls := .type "tuple", data := .seq [Value.int st s.toks, .int hd (s.toks + 1)].toArray }, toks := s.toks + 1 + 1 }) :
    wpAny (model prog w) A (call (.builtin "re.Match.span") [.ref a, .int 0 u]) Q E s := by
  have hT : s.TypeIs (.ref a) "re.Match" := ⟨_, h1, rfl⟩
  refine call_meets (S := fun _ R s => s.heap.get? a = some (mObj str (matchVs p lim tp)) ∧ s.heap.get? tp = some (spanObj st hd b e) ∧ R (.ok (.ret (.ref s.heap.objs.size))) { s with heap := s.heap.push { cls := .type "tuple", data := .seq [Value.int st s.toks, .int hd (s.toks + 1)].toArray }, toks := s.toks + 1 + 1 })
    slot_re_Match_span hT entry_re_Match_span (args_re_Match_span_2 _ _) ?_ ⟨h1, h2, h⟩
  rintro prog w A R s ⟨h1, h2, h⟩
  unfold Builtin.«re.Match.span» reOneGroup
  refine wpAny_bind (wpAny_bind ?_)
  rw [show selfAndSome "Match.span" "span" 0 1 ⟨[.ref a, .int 0 u], []⟩ = pure (.ref a, [.int 0 u]) from rfl]
  refine wpAny_pure ?_
  refine wpAny_bind (found_wp h1 h2 ?_)
  refine wpAny_bind (groupNo_wp (i := 0) rfl (by decide) ?_)
  refine wpAny_pure ?_
  refine wpAny_bind (wpAny_mkInt ?_)
  refine wpAny_bind (wpAny_mkInt ?_)
  refine wpAny_bind ?_
  unfold newTuple
  refine wpAny_newObj_type ?_ (show (2 : Nat) ≤ sizeLine from by decide)
  exact wpAny_pure h
theorem group_call (h1 : s.heap.get? a = some (mObj (.str x t) (matchVs p lim tp))) (h2 : s.heap.get? tp = some (spanObj st hd b e)) (hx : x.cps.size ≤ sizeLine)
    (h : Q (.str ⟨x.cps.extract b e⟩ s.toks) { s with toks := s.toks + 1 }) :
    wpAny (model prog w) A (call (.builtin "re.Match.group") [.ref a, .int 1 u]) Q E s := by
  have hT : s.TypeIs (.ref a) "re.Match" := ⟨_, h1, rfl⟩
  refine call_meets (S := fun _ R s => s.heap.get? a = some (mObj (.str x t) (matchVs p lim tp)) ∧ s.heap.get? tp = some (spanObj st hd b e) ∧ R (.ok (.ret (.str ⟨x.cps.extract b e⟩ s.toks))) { s with toks := s.toks + 1 })
    slot_re_Match_group hT entry_re_Match_group (args_re_Match_group_2 _ _) ?_ ⟨h1, h2, h⟩
  rintro prog w A R s ⟨h1, h2, h⟩
  unfold Builtin.«re.Match.group»
  refine wpAny_bind ?_
  rw [show noKeywords "Match.group" ⟨[.ref a, .int 1 u], []⟩ = pure () from rfl]
  refine wpAny_pure ?_
  refine wpAny_bind (found_wp h1 h2 ?_)
  refine wpAny_bind (groupNo_wp (i := 1) rfl (by decide) ?_)
  refine wpAny_bind ?_
  unfold reGroupText
  show wpAny _ _ (if (decide ((b : Int) < 0) || decide ((e : Int) < 0)) = true then _ else _) _ _ _
  rw [if_neg (by simp)]
  refine wpAny_bind (textOf_str ?_)
  unfold reSlice
  dsimp only
  rw [if_pos (by rfl)]
  refine wpAny_mkStr ?_ ?_
  · exact wpAny_pure (by simpa using h)
  · show (Array.extract x.cps _ _).size ≤ _
    rw [Array.size_extract]
    omega
end
end Mine
end
section
set_option Elab.async false
set_option maxRecDepth 100000
namespace Mine
open PySem PySem.Builtin.Re
theorem lk_function_call : ∃ v, typeLookup (.type "function") "__call__" = pure (some v) := ⟨.builtin "function.__call__", by rw [typeLookup_type, builtinLookup_eq_fast]; kernel_rfl⟩
theorem lk_str_call : typeLookup (.type "str") "__call__" = pure none := by rw [typeLookup_type, builtinLookup_eq_fast]; kernel_rfl
theorem sub_str_bytearray : isSubtype (.type "str") (.type "bytearray") = pure false := by rw [isSubtype_type]; kernel_rfl

noncomputable abbrev piecesObj (l : List Value) (n : Nat) : Obj := { cls := .type "list", data := .seq l.toArray n }
section
variable {M : Model} {A : Around} {E : Value → Shared → Prop} {s : Shared} {a : Addr} {x : Str} {t : Tok} {code : Array Nat} {g : Nat}
theorem whole_wp {Q : ReTarget → Shared → Prop} (hp : PatAt s.heap a code g) (h : Q (tgt a x t code g) s) : wpAny M A (reWholeTarget (.ref a) (.str x t)) Q E s := by
  obtain ⟨src, t0, t1, c, h1, h2⟩ := hp
  unfold reWholeTarget fieldsOf
  refine wpAny_bind (wpAny_bind (wpAny_load h1 (wpAny_pure ?_)))
  refine wpAny_bind (textOf_str ?_)
  dsimp only
  rw [if_neg (by simp)]
  rw [if_neg (by simp [reRawNat])]
  refine wpAny_bind ?_
  unfold reNoCollectionInside
  rw [if_neg (by decide)]
  refine wpAny_pure ?_
  refine wpAny_bind (rawItems_code (c := c) h2 ?_)
  refine wpAny_pure ?_
  have e1 : ((code.map fun (n : Nat) => (n : Int)).map fun (i : Int) => i.toNat) = code := by
    apply Array.ext'
    simp [Function.comp_def]
  show Q { pattern := .ref a, string := .str x t, code := ((code.map fun (n : Nat) => (n : Int)).map fun (i : Int) => i.toNat), text := x.cps, kind := 0, groups := ((g : Int)).toNat, pos := 0, lim := x.cps.size } s
  rw [e1, show ((g : Int)).toNat = g from Int.toNat_natCast g]
  exact h
theorem push_seq {l : Addr} {vs : List Value} {n : Nat} {v : Value} {Q : Unit → Shared → Prop} (hl : s.heap.get? l = some (piecesObj vs n)) (hz : vs.length < 1000)
    (h : ∀ h' n', (∀ b o, b ≠ l → s.heap.get? b = some o → h'.get? b = some o) → h'.objs.size = s.heap.objs.size → h'.get? l = some (piecesObj (vs ++ [v]) n') → Q () { s with heap := h' }) : wpAny M A (updateSeq l (·.push v)) Q E s := by
  have hsz : (1000 : Nat) ≤ sizeLine := by decide
  refine wpAny_updateSeq hl rfl (h _ (n + 1) (fun b o hb e => ?_) (Heap.size_update ..) ?_) (by simp; omega) (by simp; omega)
  · rw [Heap.get?_update_ne _ _ _ _ hb]; exact e
  · rw [Heap.get?_update_self _ hl (by rfl)]
    simp [Obj.mapSeq]
end
section
variable {prog : Program} {w : World} {A : Around} {E : Value → Shared → Prop} {s : Shared} {a f l : Addr} {x : Str} {t : Tok} {code : Array Nat} {g : Nat} {Q : Value → Shared → Prop}
theorem join_one {y sep : Str} : Txt.join sep [y] = y := by
  unfold Txt.join; rw [StrLaws.glued_eq_join]; rfl
theorem join_two {y : Str} : Txt.join ⟨#[]⟩ [⟨#[]⟩, y] = y := by
  unfold Txt.join; rw [StrLaws.glued_eq_join]
  show (⟨#[]⟩ : Str) ++ ⟨#[]⟩ ++ y = y
  apply Str.ext'
  simp [Str.cps_append]
noncomputable abbrev cntObj (y : Str) (t' : Tok) (n : Nat) (u : Tok) : Obj := { cls := .type "tuple", data := .seq [Value.str y t', .int n u].toArray }
/-- the substitution's last turn: nothing is found any more -/
theorem subloop_end {repl : Value} {way n done start : Nat} {vs : List (Str × Tok)} {ne k : Nat} {wc : Bool} {R : Result → Shared → Prop} (hp : PatAt s.heap a code g) (hl : s.heap.get? l = some (piecesObj (strValues vs) ne)) (hx : x.cps.size < 2 ^ 20) (hk : k ≤ 2 ^ 60)
    (hway : way = 1 ∨ (way = 0 ∧ ∃ r u, repl = .str r u)) (hvs : vs = [] ∨ ∃ u, vs = [(⟨#[]⟩, u)])
    (hf : Fails k (Sre.forSearch code x.cps g start x.cps.size false))
    (h : ∀ t' h' tk', (∀ b o, b ≠ l → s.heap.get? b = some o → h'.get? b = some o) → s.heap.objs.size ≤ h'.objs.size →
      (if wc = true then ∀ u, R (.ok (.ret (.ref h'.objs.size))) { s with heap := h'.push (cntObj ⟨x.cps.extract done x.cps.size⟩ t' n u), toks := tk' } else R (.ok (.ret (.str ⟨x.cps.extract done x.cps.size⟩ t'))) { s with heap := h', toks := tk' })) :
    codeAny (model prog w) A (.builtin "re.Pattern.sub.loop" ⟨[.ref a, .str x t, repl, rawInt way, rawInt 0, rawInt n, rawInt done, rawInt start, .bool false, .ref l, .bool wc], []⟩) R s := by
  have hsz : (2 ^ 20 + 1000 : Nat) ≤ sizeLine := by decide
  refine codeAny_builtin entry_subloop ?_
  unfold Builtin.«re.Pattern.sub.loop»
  dsimp only
  refine wpAny_bind (whole_wp hp ?_)
  -- the end, once the pieces are whole
  have fin : ∀ (h' : Heap) (tk' : Nat) (ps : List (Str × Tok)) (ne' : Nat), (∀ b o, b ≠ l → s.heap.get? b = some o → h'.get? b = some o) → s.heap.objs.size ≤ h'.objs.size → h'.get? l = some (piecesObj (strValues ps) ne') →
      (ps = [] ∨ (∃ u, ps = [(⟨#[]⟩, u)]) ∨ (∃ u, ps = [(⟨x.cps.extract done x.cps.size⟩, u)]) ∨ ∃ u v, ps = [(⟨#[]⟩, u), (⟨x.cps.extract done x.cps.size⟩, v)]) →
      ((ps = [] ∨ ∃ u, ps = [(⟨#[]⟩, u)]) → x.cps.extract done x.cps.size = #[]) → ∀ (A' : Around),
      wpAny (model prog w) A' (do
        let joiner ← reSlice x.cps 0 0 0
        let items ← seqItems? (.ref l)
        if (items.getD #[]).isEmpty = true then (do
            let text ← pure joiner
            if wc = true then (do let v ← holding [text] (do let i ← mkInt (n : Int); newTuple [text, i]); ret v) else ret text)
          else (do
            let text ← call (.builtin "str.join") [joiner, .ref l]
            if wc = true then (do let v ← holding [text] (do let i ← mkInt (n : Int); newTuple [text, i]); ret v) else ret text))
        (fun fin s' => match fin with | .done f => R (.ok f) s' | .again c' => c'.quiet = true ∧ codeAny (model prog w) A c' R s') (fun e s' => R (.error e) s') { s with heap := h', toks := tk' } := by
    intro h' tk' ps ne' hk' hs' hl' hps hemp A'
    have last : ∀ (y : Str) (t' : Tok) (tk : Nat), y = ⟨x.cps.extract done x.cps.size⟩ → wpAny (model prog w) A' (if wc = true then (do let v ← holding [Value.str y t'] (do let i ← mkInt (n : Int); newTuple [.str y t', i]); ret v) else ret (.str y t'))
        (fun fin s' => match fin with | .done f => R (.ok f) s' | .again c' => c'.quiet = true ∧ codeAny (model prog w) A c' R s') (fun e s' => R (.error e) s') { s with heap := h', toks := tk } := by
      intro y t' tk hy
      have hh := h t' h' (if wc = true then tk + 1 else tk) hk' hs'
      cases wc with
      | true =>
        rw [if_pos rfl] at hh ⊢
        refine wpAny_bind (wpAny_holding (wpAny_bind (wpAny_mkInt ?_)))
        unfold newTuple
        refine wpAny_newObj_type ?_ (show (2 : Nat) ≤ sizeLine from by decide)
        refine wpAny_pure ?_
        have := hh tk
        rw [← hy] at this
        exact this
      | false =>
        rw [if_neg Bool.false_ne_true] at hh ⊢
        refine wpAny_pure ?_
        rw [← hy] at hh
        exact hh
    refine wpAny_bind ?_
    unfold reSlice
    rw [if_pos (by rfl)]
    refine wpAny_mkStr ?_ (by show (Array.extract x.cps 0 0).size ≤ _; simp)
    refine wpAny_bind ?_
    unfold seqItems?
    refine wpAny_bind (wpAny_load hl' (wpAny_pure ?_))
    have e00 : (⟨x.cps.extract 0 0⟩ : Str) = ⟨#[]⟩ := by apply Str.ext'; simp
    rw [e00]
    rcases hps with rfl | ⟨u, rfl⟩ | ⟨u, rfl⟩ | ⟨u, v, rfl⟩
    · rw [if_pos (by rfl)]
      refine wpAny_bind (wpAny_pure (last _ _ _ ?_))
      rw [hemp (.inl rfl)]
    · rw [if_neg (by simp [strValues])]
      refine wpAny_bind (SC.join (l := [(⟨#[]⟩, u)]) ⟨_, hl', rfl, _, rfl⟩ rfl (by rfl) fun t' k => ?_)
      refine last _ _ _ ?_
      exact join_one.trans (by rw [hemp (.inr ⟨u, rfl⟩)])
    · rw [if_neg (by simp [strValues])]
      refine wpAny_bind (SC.join (l := [(⟨x.cps.extract done x.cps.size⟩, u)]) ⟨_, hl', rfl, _, rfl⟩ rfl ?_ fun t' k => ?_)
      · unfold JoinOk Builtin.Str.tooLong
        simp [Str.length]
        omega
      · exact last _ _ _ join_one
    · rw [if_neg (by simp [strValues])]
      refine wpAny_bind (SC.join (l := [(⟨#[]⟩, u), (⟨x.cps.extract done x.cps.size⟩, v)]) ⟨_, hl', rfl, _, rfl⟩ rfl ?_ fun t' k => ?_)
      · unfold JoinOk Builtin.Str.tooLong
        simp [Str.length]
        omega
      · exact last _ _ _ join_two
  rcases hway with rfl | ⟨rfl, r, u, rfl⟩
  · rw [if_neg (by decide)]
    dsimp only
    refine wpAny_bind ?_
    rw [if_neg (by simp)]
    unfold reNextFound
    rw [Int.toNat_natCast]
    refine wp_fails hf hk ?_
    dsimp only
    rw [Int.toNat_natCast]
    by_cases hd : done < x.cps.size
    · rw [if_pos hd]
      refine wpAny_bind ?_
      unfold reSlice
      rw [if_pos (by rfl)]
      refine wpAny_mkStr ?_ (by show (Array.extract x.cps _ _).size ≤ _; rw [Array.size_extract]; omega)
      refine wpAny_bind (push_seq hl (by rcases hvs with rfl | ⟨u, rfl⟩ <;> simp [strValues]) fun h' n' hk' hs' hl' => ?_)
      refine fin h' _ (vs ++ [(⟨x.cps.extract done x.cps.size⟩, s.toks)]) n' hk' (Nat.le_of_eq hs'.symm) (by rw [hl']; simp [strValues]) ?_ ?_ _
      · rcases hvs with rfl | ⟨u, rfl⟩
        · exact .inr (.inr (.inl ⟨_, rfl⟩))
        · exact .inr (.inr (.inr ⟨_, _, rfl⟩))
      · intro hc
        rcases hvs with rfl | ⟨u, rfl⟩
        · rcases hc with hc | ⟨v, hc⟩
          · simp at hc
          · simp at hc; exact absurd hd (Nat.not_lt.mpr hc.1)
        · rcases hc with hc | ⟨v, hc⟩ <;> simp at hc
    · rw [if_neg hd]
      have he : x.cps.extract done x.cps.size = #[] := by apply Array.ext'; simp; omega
      refine fin s.heap s.toks vs ne (fun _ _ _ e => e) (Nat.le_refl _) hl ?_ (fun _ => he) _
      rcases hvs with rfl | ⟨u, rfl⟩
      · exact .inl rfl
      · exact .inr (.inl ⟨_, rfl⟩)
  · rw [if_pos (by decide)]
    refine wpAny_bind ?_
    unfold reLiteralCannotBeTurned
    refine wpAny_bind (wpAny_pure ?_)
    rw [if_neg (by simp)]
    refine wpAny_pure ?_
    dsimp only
    refine wpAny_bind ?_
    rw [if_neg (by simp)]
    unfold reNextFound
    rw [Int.toNat_natCast]
    refine wp_fails hf hk ?_
    dsimp only
    rw [Int.toNat_natCast]
    by_cases hd : done < x.cps.size
    · rw [if_pos hd]
      refine wpAny_bind ?_
      unfold reSlice
      rw [if_pos (by rfl)]
      refine wpAny_mkStr ?_ (by show (Array.extract x.cps _ _).size ≤ _; rw [Array.size_extract]; omega)
      refine wpAny_bind (push_seq hl (by rcases hvs with rfl | ⟨u, rfl⟩ <;> simp [strValues]) fun h' n' hk' hs' hl' => ?_)
      refine fin h' _ (vs ++ [(⟨x.cps.extract done x.cps.size⟩, s.toks)]) n' hk' (Nat.le_of_eq hs'.symm) (by rw [hl']; simp [strValues]) ?_ ?_ _
      · rcases hvs with rfl | ⟨u, rfl⟩
        · exact .inr (.inr (.inl ⟨_, rfl⟩))
        · exact .inr (.inr (.inr ⟨_, _, rfl⟩))
      · intro hc
        rcases hvs with rfl | ⟨u, rfl⟩
        · rcases hc with hc | ⟨v, hc⟩
          · simp at hc
          · simp at hc; exact absurd hd (Nat.not_lt.mpr hc.1)
        · rcases hc with hc | ⟨v, hc⟩ <;> simp at hc
    · rw [if_neg hd]
      have he : x.cps.extract done x.cps.size = #[] := by apply Array.ext'; simp; omega
      refine fin s.heap s.toks vs ne (fun _ _ _ e => e) (Nat.le_refl _) hl ?_ (fun _ => he) _
      rcases hvs with rfl | ⟨u, rfl⟩
      · exact .inl rfl
      · exact .inr (.inl ⟨_, rfl⟩)
/-- sub by a function, where nothing is found -/
theorem sub_none {k : Nat} {fo : Obj} (hp : PatAt s.heap a code g) (hfo : s.heap.get? f = some fo) (hfc : fo.cls = .type "function") (hx : x.cps.size < 2 ^ 20) (hk : k ≤ 2 ^ 60) (hf : Fails k (Sre.forSearch code x.cps g 0 x.cps.size false))
    (h : ∀ t' h' tk', s.heap.StaysIn h' → Q (.str x t') { s with heap := h', toks := tk' }) :
    wpAny (model prog w) A (call (.builtin "re.Pattern.sub") [.ref a, .ref f, .str x t]) Q E s := by
  have hT : s.TypeIs (.ref a) "re.Pattern" := by obtain ⟨src, t0, t1, c, h1, h2⟩ := hp; exact ⟨_, h1, rfl⟩
  refine call_meets (S := fun _ R s => PatAt s.heap a code g ∧ s.heap.get? f = some fo ∧ ∀ t' h' tk', s.heap.StaysIn h' → R (.ok (.ret (.str x t'))) { s with heap := h', toks := tk' }) slot_re_Pattern_sub hT entry_re_Pattern_sub (args_re_Pattern_sub_3 _ _ _) ?_ ⟨hp, hfo, h⟩
  rintro prog w A R s ⟨hp, hfo, h⟩
  unfold Builtin.«re.Pattern.sub» reSubstitute
  dsimp only
  rw [show reNamed "re.Pattern.sub" "sub" ["repl", "string", "count"] 2 [.ref f, .str x t] [] = pure [some (.ref f), some (.str x t), none] from rfl]
  refine wpAny_bind (wpAny_pure ?_)
  dsimp only
  refine wpAny_bind (wpAny_pure ?_)
  obtain ⟨v, hv⟩ := lk_function_call
  refine wpAny_bind (wpAny_specialOf (T := "function") ⟨_, hfo, hfc⟩ hv ?_)
  dsimp only [Option.isSome_some]
  rw [if_pos rfl]
  refine wpAny_bind (wpAny_pure ?_)
  rw [if_pos rfl]
  refine wpAny_bind (wpAny_pure ?_)
  dsimp only
  refine wpAny_bind (wpAny_holding (whole_wp hp ?_))
  rw [if_pos (by rfl)]
  refine wpAny_bind ?_
  unfold reNotHeld
  refine wpAny_bind (wpAny_isInstance (typeIs_str _ _ _) sub_str_bytearray ?_)
  rw [if_neg Bool.false_ne_true]
  refine wpAny_pure ?_
  refine wpAny_bind ?_
  unfold newList
  refine wpAny_newObj_type ?_ (show (0 : Nat) ≤ sizeLine from by decide)
  refine wpAny_pure ?_
  refine ⟨Code.quiet_builtin _ (by decide +kernel), ?_⟩
  have hl : (s.heap.push (piecesObj (strValues []) 0)).get? s.heap.objs.size = some (piecesObj (strValues []) 0) := Heap.get?_push_size _ rfl
  refine subloop_end (way := 1) (n := 0) (done := 0) (start := 0) (wc := false) (hp.keeps fun b o e => Heap.get?_push_of_some _ e) hl hx hk (.inl rfl) (.inl rfl) hf fun t' h' tk' hk' _ => ?_
  rw [if_neg Bool.false_ne_true]
  have e0 : (⟨x.cps.extract 0 x.cps.size⟩ : Str) = x := by apply Str.ext'; simp
  rw [e0]
  exact h _ _ _ fun b o e => hk' b o (Nat.ne_of_lt (Heap.lt_size e)) (Heap.get?_push_of_some _ e)
/-- subn by the empty text: one find at the head -/
theorem subn_one {k k' n : Nat} {u : Tok} (hp : PatAt s.heap a code 0) (hx : x.cps.size < 2 ^ 20) (hk : k ≤ 2 ^ 60) (hk' : k' ≤ 2 ^ 60) (hn : 0 < n)
    (hm : Matches k (Sre.forSearch code x.cps 0 0 x.cps.size false) (fun m => m.start = 0 ∧ m.handed = n))
    (hf : Fails k' (Sre.forSearch code x.cps 0 n x.cps.size false))
    (h : ∀ tp t' u' h' tk', s.heap.StaysIn h' → s.heap.get? tp = none → h'.get? tp = some (cntObj ⟨x.cps.extract n x.cps.size⟩ t' 1 u') → Q (.ref tp) { s with heap := h', toks := tk' }) :
    wpAny (model prog w) A (call (.builtin "re.Pattern.subn") [.ref a, .str ⟨#[]⟩ u, .str x t]) Q E s := by
  have hT : s.TypeIs (.ref a) "re.Pattern" := by obtain ⟨src, t0, t1, c, h1, h2⟩ := hp; exact ⟨_, h1, rfl⟩
  refine call_meets (S := fun _ R s => PatAt s.heap a code 0 ∧ ∀ tp t' u' h' tk', s.heap.StaysIn h' → s.heap.get? tp = none → h'.get? tp = some (cntObj ⟨x.cps.extract n x.cps.size⟩ t' 1 u') → R (.ok (.ret (.ref tp))) { s with heap := h', toks := tk' }) slot_re_Pattern_subn hT entry_re_Pattern_subn (args_re_Pattern_subn_3 _ _ _) ?_ ⟨hp, h⟩
  rintro prog w A R s ⟨hp, h⟩
  unfold Builtin.«re.Pattern.subn» reSubstitute
  dsimp only
  rw [show reNamed "re.Pattern.subn" "subn" ["repl", "string", "count"] 2 [.str ⟨#[]⟩ u, .str x t] [] = pure [some (.str ⟨#[]⟩ u), some (.str x t), none] from rfl]
  refine wpAny_bind (wpAny_pure ?_)
  dsimp only
  refine wpAny_bind (wpAny_pure ?_)
  refine wpAny_bind (wpAny_specialOf (T := "str") (typeIs_str _ _ _) lk_str_call ?_)
  dsimp only [Option.isSome_none]
  rw [if_neg Bool.false_ne_true]
  refine wpAny_bind (wpAny_pure ?_)
  dsimp only
  refine wpAny_bind (wpAny_pure ?_)
  rw [if_neg Bool.false_ne_true, if_pos (by simp)]
  refine wpAny_bind (wpAny_pure ?_)
  dsimp only
  refine wpAny_bind (wpAny_holding (whole_wp hp ?_))
  rw [if_neg (by decide)]
  refine wpAny_bind ?_
  unfold newList
  refine wpAny_newObj_type ?_ (show (0 : Nat) ≤ sizeLine from by decide)
  refine wpAny_pure ?_
  refine ⟨Code.quiet_builtin _ (by decide +kernel), ?_⟩
  have hl : (s.heap.push (piecesObj [] 0)).get? s.heap.objs.size = some (piecesObj [] 0) := Heap.get?_push_size _ rfl
  have hp' : PatAt (s.heap.push (piecesObj [] 0)) a code 0 := hp.keeps fun b o e => Heap.get?_push_of_some _ e
  refine codeAny_builtin entry_subloop ?_
  unfold Builtin.«re.Pattern.sub.loop»
  dsimp only
  refine wpAny_bind (whole_wp hp' ?_)
  rw [if_pos (by decide)]
  refine wpAny_bind ?_
  unfold reLiteralCannotBeTurned
  refine wpAny_bind (wpAny_pure ?_)
  rw [if_neg (by simp)]
  refine wpAny_pure ?_
  dsimp only
  refine wpAny_bind ?_
  rw [if_neg (by simp)]
  unfold reNextFound
  refine wp_matches hm hk fun m hmm => ?_
  obtain ⟨h1, h2⟩ := hmm
  dsimp only
  rw [h1, h2]
  rw [if_neg (by simp)]
  rw [if_pos (by decide)]
  refine wpAny_bind (wpAny_pure ?_)
  rw [if_pos (by rfl)]
  refine wpAny_bind (push_seq hl (by simp) fun h' n' hkk hs' hl' => ?_)
  refine wpAny_pure ?_
  refine ⟨Code.quiet_builtin _ (by decide +kernel), ?_⟩
  rw [show (n == 0) = false from by simpa using Nat.ne_of_gt hn]
  have st : s.heap.StaysIn h' := fun b o e => hkk b o (Nat.ne_of_lt (Heap.lt_size e)) (Heap.get?_push_of_some _ e)
  refine subloop_end (way := 0) (n := 1) (done := n) (start := n) (vs := [(⟨#[]⟩, u)]) (wc := true) (hp.keeps st) hl' hx hk' (.inr ⟨rfl, _, _, rfl⟩) (.inr ⟨_, rfl⟩) hf fun t' h'' tk' hk'' hs'' => ?_
  rw [if_pos rfl]
  intro u'
  have hsz : s.heap.objs.size < h''.objs.size := by
    have e1 : (s.heap.push (piecesObj [] 0)).objs.size = s.heap.objs.size + 1 := Heap.size_push ..
    have e2 : h'.objs.size = (s.heap.push (piecesObj [] 0)).objs.size := hs'
    have e3 : h'.objs.size ≤ h''.objs.size := hs''
    omega
  refine h _ t' u' _ _ (fun b o e => Heap.get?_push_of_some _ (hk'' b o (Nat.ne_of_lt (Heap.lt_size e)) (st b o e))) ?_ (Heap.get?_push_size _ rfl)
  cases q : s.heap.get? h''.objs.size with
  | none => rfl
  | some o => exact absurd (Heap.lt_size q) (Nat.not_lt.mpr (Nat.le_of_lt hsz))
end
end Mine
end
section
open PySem PySem.W PyProof.Rows PySem.Calls
set_option Elab.async false
set_option maxRecDepth 100000
set_option maxHeartbeats 8000000
namespace Mine
noncomputable abbrev At (dp un : Nat) (fr : Option (List Env)) (gd : Option (List Code)) : Around := { handled := none, depth := dp, frames := fr, guards := gd, units := un }
theorem room_of {dp un : Nat} {fr : Option (List Env)} {gd : Option (List Code)} (h : dp < 1000) : (At dp un fr gd).depth < recursionLimit := h
theorem enter {prog : Program} {w : World} {A : Around} {s : Shared} {K : Frag} {R : Result → Shared → Prop} {name qual : Str} {params pa : Arguments} {body bo : List Stmt} {scope sc : Scope} {dV kV doc pm cdv ct oc : Value} {an od : Option Addr} {osl : Array (Option Value)} {f : Addr} {args : Args} {binds : List (Str × Value)}
    (X : K.In s.heap) (hlim : s.heap.NoLimit)
    (ho : K.lookup f = some ⟨oc, od, .func (fnOf name qual pa bo sc dV kV doc pm an cdv ct), osl⟩) (hA : pa = params) (hB : bo = body) (hS : sc = scope) (hcd : codeIn K cdv qual = true) (hroom : A.depth < recursionLimit)
    (hbind : BindsTo s (fnOf name qual params body scope dV kV doc pm an cdv ct) args binds) (hloc : ∀ y ∈ binds, scope.names.lookup y.1 = some .local)
    (h : ∀ L h₁, Fr s.heap L h₁ (fun y => binds.reverse.lookup y) → News s.heap L h₁ [] →
      wpAny (model prog w) (A.deeper (envOf qual scope L f cdv)) (execs body (envOf qual scope L f cdv))
        (fun fl s' => R (.ok (.ret (match fl with | .ret v => v | _ => .none))) s')
        (fun e s' => wpAny (model prog w) (A.deeper (envOf qual scope L f cdv)) (leaving (envOf qual scope L f cdv) e) (fun _ s'' => R (.error e) s'') (fun e' s'' => R (.error e') s'') s')
        { s with heap := h₁, toks := s.toks + binds.length })
    (hco : scope.isCoroutine = false := by rfl) (hgen : scope.isGenerator = false := by rfl) (hk : scope.kind = .function := by rfl)
    (hcell : ∀ x ∈ scope.names, x.2 ≠ .cell := by decide) : codeAny (model prog w) A (.call (.ref f) args) R s := by
  subst hA; subst hB; subst hS
  refine codeAny_call_def (fd := fnOf name qual pa bo sc dV kV doc pm an cdv ct) (body := bo) (binds := binds) hroom (X _ _ ho) rfl hlim (codeRec_of X hcd) rfl hbind hcell hloc (fun h₁ hns hk₁ => ?_) hco hgen hk
  exact h s.heap.objs.size h₁ ⟨hns, hk₁, Nat.le_refl _⟩ News.nil
-- the patterns of the top
section
variable {w : World} {h : Heap} (X : (hp w.params).In h)
include X
theorem pat43 : PatAt h 43 codeJunk 0 := ⟨_, _, _, _, X 43 _ rfl, X 42 _ rfl⟩
theorem pat55 : PatAt h 55 codeTok 1 := ⟨_, _, _, _, X 55 _ rfl, X 54 _ rfl⟩
theorem pat60 : PatAt h 60 codeQuo 1 := ⟨_, _, _, _, X 60 _ rfl, X 59 _ rfl⟩
theorem pat65 : PatAt h 65 codeVal 1 := ⟨_, _, _, _, X 65 _ rfl, X 64 _ rfl⟩
theorem pat70 : PatAt h 70 codeEsc 1 := ⟨_, _, _, _, X 70 _ rfl, X 69 _ rfl⟩
theorem pat82 : PatAt h 82 codeJT 0 := ⟨_, _, _, _, X 82 _ rfl, X 81 _ rfl⟩
theorem pat87 : PatAt h 87 codeJE 1 := ⟨_, _, _, _, X 87 _ rfl, X 86 _ rfl⟩
end
-- a call that only makes: the caller's frame and ledger behind it
section
variable {h₀ h h' : Heap} {L : Addr} {m : Str → Option Value} {news tl : List (Addr × Obj)}
theorem fr_after (F : Fr h₀ L h m) (st : h.StaysIn h') : Fr h₀ L h' m := by
  obtain ⟨oL, es, ep, hL, r⟩ := F.ns
  exact ⟨⟨oL, es, ep, st _ _ hL, r⟩, fun b o e => st b o (F.keep b o e), F.above⟩
theorem news_after (N : News h₀ L h news) (st : h.StaysIn h') : News h₀ L h' news := fun p hp => ⟨st _ _ (N p hp).1, (N p hp).2⟩
theorem news_more (F : Fr h₀ L h m) (N : News h₀ L h news) (st : h.StaysIn h') (T : ∀ p ∈ tl, h'.get? p.1 = some p.2 ∧ h.get? p.1 = none) : News h₀ L h' (tl ++ news) := fun p hp => by
  rcases List.mem_append.mp hp with hp | hp
  · obtain ⟨oL, es, ep, hL, r⟩ := F.ns
    refine ⟨(T p hp).1, fun e => ?_, ?_⟩
    · have := (T p hp).2; rw [e, hL] at this; cases this
    · cases q : h₀.get? p.1 with
      | none => rfl
      | some o => have := F.keep _ _ q; rw [(T p hp).2] at this; cases this
  · exact news_after N st p hp
end
-- methods of the patterns and of what they find
section
variable {M : Model} {A : Around} {E : Value → Shared → Prop} {s : Shared} {a : Addr} {code : Array Nat} {g : Nat} {pl : Sem Bool} {Q : Value × List Value → Shared → Prop}
theorem gm_pat {name : Str} {id : String} (slot : Slot "re.Pattern" name id) (ty : typeOf (.builtin id) = pure (.type "method_descriptor")) (hp : PatAt s.heap a code g) (h : Q (.builtin id, [.ref a]) s) : wpAny M A (getMethod (.ref a) name pl) Q E s := by
  obtain ⟨src, t0, t1, c, h1, h2⟩ := hp
  exact getMethod_builtin ⟨_, h1, rfl⟩ plainAttrs_re_Pattern slot ty (fun b e => by cases e; exact ⟨_, h1, rfl⟩) h
theorem gm_search (hp : PatAt s.heap a code g) (h : Q (.builtin "re.Pattern.search", [.ref a]) s) : wpAny M A (getMethod (.ref a) "search" pl) Q E s := gm_pat slot_re_Pattern_search type_re_Pattern_search hp h
theorem gm_fullmatch (hp : PatAt s.heap a code g) (h : Q (.builtin "re.Pattern.fullmatch", [.ref a]) s) : wpAny M A (getMethod (.ref a) "fullmatch" pl) Q E s := gm_pat slot_re_Pattern_fullmatch type_re_Pattern_fullmatch hp h
theorem gm_sub (hp : PatAt s.heap a code g) (h : Q (.builtin "re.Pattern.sub", [.ref a]) s) : wpAny M A (getMethod (.ref a) "sub" pl) Q E s := gm_pat slot_re_Pattern_sub type_re_Pattern_sub hp h
theorem gm_subn (hp : PatAt s.heap a code g) (h : Q (.builtin "re.Pattern.subn", [.ref a]) s) : wpAny M A (getMethod (.ref a) "subn" pl) Q E s := gm_pat slot_re_Pattern_subn type_re_Pattern_subn hp h
theorem gm_span {str : Value} {vs : List Value} (h1 : s.heap.get? a = some (mObj str vs)) (h : Q (.builtin "re.Match.span", [.ref a]) s) : wpAny M A (getMethod (.ref a) "span" pl) Q E s :=
  getMethod_builtin ⟨_, h1, rfl⟩ plainAttrs_re_Match slot_re_Match_span type_re_Match_span (fun b e => by cases e; exact ⟨_, h1, rfl⟩) h
theorem gm_group {str : Value} {vs : List Value} (h1 : s.heap.get? a = some (mObj str vs)) (h : Q (.builtin "re.Match.group", [.ref a]) s) : wpAny M A (getMethod (.ref a) "group" pl) Q E s :=
  getMethod_builtin ⟨_, h1, rfl⟩ plainAttrs_re_Match slot_re_Match_group type_re_Match_group (fun b e => by cases e; exact ⟨_, h1, rfl⟩) h
end
-- the same in a frame with its ledger
section
variable {prog : Program} {w : World} {A : Around} {E : Value → Shared → Prop} {s : Shared} {h₀ : Heap} {L a tp p : Addr} {m : Str → Option Value} {news : List (Addr × Obj)} {x : Str} {t u : Tok} {st hd b e lim : Nat} {code : Array Nat} {Q : Value → Shared → Prop}
noncomputable abbrev tupObj (vs : List Value) : Obj := { cls := .type "tuple", data := .seq vs.toArray }
theorem span_K {str : Value} (F : Fr h₀ L s.heap m) (N : News h₀ L s.heap news) (h1 : s.heap.get? a = some (mObj str (matchVs p lim tp))) (h2 : s.heap.get? tp = some (spanObj st hd b e))
    (h : ∀ q t1 t2 h' tk, Fr h₀ L h' m → News h₀ L h' ((q, tupObj [Value.int st t1, .int hd t2]) :: news) → (∀ p ∈ news, p.1 < q) → Q (.ref q) { s with heap := h', toks := tk }) :
    wpAny (model prog w) A (call (.builtin "re.Match.span") [.ref a, .int 0 u]) Q E s :=
  span_call h1 h2 (h _ _ _ _ _ (F.push _) (N.push F _) fun p hp => Heap.lt_size (N p hp).1)
theorem search_K {k : Nat} (F : Fr h₀ L s.heap m) (N : News h₀ L s.heap news) (hp : PatAt s.heap a code 1) (hx : x.cps.size < 2 ^ 58) (hk : k ≤ 2 ^ 60) (hbe : b ≤ e)
    (hm : Matches k (Sre.forSearch code x.cps 1 0 x.cps.size false) (fun m => m.start = st ∧ m.handed = hd ∧ m.marks = #[some b, some e] ∧ m.lastmark = 1 ∧ m.lastindex = 1))
    (h : ∀ q q' h', Fr h₀ L h' m → News h₀ L h' ((q', mObj (.str x t) (matchVs a x.cps.size q)) :: (q, spanObj st hd b e) :: news) → (∀ p ∈ news, p.1 < q) → q < q' → Q (.ref q') { s with heap := h' }) :
    wpAny (model prog w) A (call (.builtin "re.Pattern.search") [.ref a, .str x t]) Q E s := by
  refine search_some hp hx hk hbe hm (h _ _ _ ((F.push _).push _) ?_ (fun p hp => Heap.lt_size (N p hp).1) ?_)
  · exact (N.push F (spanObj st hd b e)).push (F.push _) _
  · rw [Heap.size_push]; exact Nat.lt_succ_self _
end
-- texts as lists of numbers
noncomputable abbrev S (l : List Nat) : Str := ⟨l.toArray⟩
theorem S_length (l : List Nat) : (S l).length = l.length := by show l.toArray.size = l.length; simp
theorem S_append (a b : List Nat) : S a ++ S b = S (a ++ b) := by apply Str.ext'; simp [Str.cps_append]
theorem S_extract (l : List Nat) (i j : Nat) : (⟨(S l).cps.extract i j⟩ : Str) = S ((l.drop i).take (j - i)) := by apply Str.ext'; simp
theorem S_slice_from (l : List Nat) (i : Nat) (h : i ≤ l.length) : Txt.slice (S l) (some (i : Int)) none = S (l.drop i) := by
  rw [slice_from_eq (b := (l.length : Int)) (Int.natCast_nonneg i) (by rw [S_length]; omega) (by rw [S_length])]
  apply Str.ext'
  have e : ((l.length : Int) - (i : Int)).toNat = l.length - i := by omega
  simp only [Int.toNat_natCast, e]
  rw [List.take_of_length_le (by simp)]
theorem S_slice_to (l : List Nat) (i : Nat) (h : i ≤ l.length) : Txt.slice (S l) none (some (i : Int)) = S (l.take i) := by
  have := slice_closes_to (x := S l) (j := (i : Int)) ⟨Int.natCast_nonneg i, by simpa using h⟩
  rw [eq_of_beq this]
  apply Str.ext'
  simp
end Mine
end
section
open PySem PySem.W PyProof.Rows PySem.Calls
set_option Elab.async false
set_option maxRecDepth 100000
set_option maxHeartbeats 8000000
namespace Mine
local macro_rules | `(tactic| walk_at "my:get") => `(tactic| first | exact (News.get (by k_asm) (by k_mem)) | exact Fr.keep (by k_asm) _ _ (by k_asm))
theorem unmatched_ctr {w : World} {dp un : Nat} {fr : Option (List Env)} {gd : Option (List Code)} {s : Shared} {mean : ExcName → Option Value} {pp : Program} {ll : List Str} {mg mb : Str → Option Value} {Q E : Value → Shared → Prop} {a tp p : Addr} {l : List Nat} {t : Tok} {n b e lim : Nat} (X : (hp w.params).In s.heap) (T : Top pp ll mean mg mb s.heap) (hdp : dp + 1 < 400) (hu : un + 20 * 1 < 4000)
   (h1 : s.heap.get? a = some (mObj (.str (S l) t) (matchVs p lim tp))) (h2 : s.heap.get? tp = some (spanObj 0 n b e)) (hx : l.length < 2 ^ 20) (hn : n ≤ l.length)
   (hret : ∀ t' h' tk', s.heap.StaysIn h' → Q (.str (S (l.drop n)) t') { s with heap := h', toks := tk' }) :
   wpAny (model Challenge.rw_pa0034_01.row.prog w) (At dp un fr gd) (call (.ref 50) [.ref a]) Q E s := by
  have e1 : Txt.slice (S l) none (some ((0 : Nat) : Int)) = S [] := S_slice_to l 0 (Nat.zero_le _)
  have e2 : Txt.slice (S l) (some (n : Int)) none = S (l.drop n) := S_slice_from l n hn
  have hz : (Txt.slice (S l) none (some ((0 : Nat) : Int))).length + (Txt.slice (S l) (some (n : Int)) none).length ≤ sizeLine := by
    rw [e1, e2, S_length, S_length, List.length_drop]
    have : (2 ^ 20 : Nat) ≤ sizeLine := by decide
    simp; omega
  have hz2 : (S l).length ≤ sizeLine := by
    rw [S_length]
    have : (2 ^ 20 : Nat) ≤ sizeLine := by decide
    omega
  rcases s with ⟨h₀, gs, dr, tk, os⟩
  dsimp only at *
  revert X
  k_fill
  intro X
  refine wpAny_call ?_
  k_dflt (refine' enter (binds := [(Str.ofString "match", .ref a)]) ?k1 ?k2 ?k3 ?kA ?kB ?kS ?k4 ?k5 ?k6 ?k7 ?_ ?c2 ?c3 ?c4 ?c5; (case k1 => k_asm); (case k2 => exact T.nolimit); (case k3 => k_is); (case kA => (conv => lhs; whnf)); (case kB => (conv => lhs; whnf)); (case kS => (conv => lhs; whnf)); (case k4 => k_is); (case k5 => exact room_of (by omega)); (case k6 => first | exact BindsTo.of_eq rfl | exact binds_K (by k_in) rfl (by k_is) rfl rfl rfl); (case k7 => exact locs rfl); (case c5 => decide); (case c2 => exact rfl); (case c3 => exact rfl); (case c4 => exact rfl))
  intro L h₁ F0 N0
  dsimp only at F0 N0
  (try dsimp only)
  (repeat' (first | ((with_reducible show wpAny _ _ (binaryOp Operator.Add (Value.str _ _) (Value.str _ _)) _ _ _); k_dflt (refine' add_str ?_ ?z; (case z => first | assumption))) | ((with_reducible show wpAny _ _ (PySem.call (Value.builtin "re.Match.span") _ _) _ _ _); k_dflt (refine' span_K ?k1 ?k2 ?k3 ?k4 ?_; (case k1 => k_asm); (case k2 => k_asm); (case k3 => walk_at "my:get"); (case k4 => walk_at "my:get"); intro q' t1' t2' h' tk' F' N' l1; (try k_lt l1); (try k_sweep))) | ((with_reducible show wpAny _ _ (PySem.getAttr _ _ _) _ _ _); k_dflt (refine' getAttr_string ?k1 ?_; (case k1 => walk_at "my:get"))) | ((with_reducible show wpAny _ _ (getMethod (Value.ref _) _ _) _ _ _); k_dflt (first | (refine' gm_span ?k1 ?_; (case k1 => walk_at "my:get")) | (refine' gm_group ?k1 ?_; (case k1 => walk_at "my:get")))) | (k_unfold; (try dsimp only)) | (k_end; wrow_close) | walk1 | (dsimp only; walk1) | (leave1; (try dsimp only))))
  rename Fr _ _ _ _ => F
  rw [e1, e2, S_append]
  exact hret _ _ _ F.keep
end Mine
end
section
open PySem PySem.W PyProof.Rows PySem.Calls
set_option Elab.async false
set_option maxRecDepth 100000
set_option maxHeartbeats 8000000
namespace Mine
noncomputable def TurnEnd (h₀ : Heap) (L I : Addr) (oi : Obj) (J : (Str → Option Value) → List (Addr × Obj) → Prop) (s : Shared) (s₂ : Shared) : Prop :=
  ∃ h' tk' m' nx', s₂ = { s with heap := h', toks := tk' } ∧ Fr h₀ L h' m' ∧ News h₀ L h' ((I, oi) :: nx') ∧ (∀ p ∈ nx', p.1 ≠ I) ∧ J m' nx'
noncomputable def TurnPost (h₀ : Heap) (L I : Addr) (oi : Obj) (J : (Str → Option Value) → List (Addr × Obj) → Prop) (s : Shared) (Q : Flow → Shared → Prop) (f : Flow) (s₂ : Shared) : Prop :=
  match f with
  | .ret v => Q (.ret v) s₂
  | .brk => Q .next s₂
  | _ => TurnEnd h₀ L I oi J s s₂
noncomputable def FInv (h₀ : Heap) (L I : Addr) (St : Nat → Heap → Prop) (J : Nat → (Str → Option Value) → List (Addr × Obj) → Prop) (n : Nat) (s : Shared) (k : Nat) (s' : Shared) : Prop :=
  ∃ h tk m nx i, s' = { s with heap := h, toks := tk } ∧ St i h ∧ Fr h₀ L h m ∧ News h₀ L h nx ∧ (∀ p ∈ nx, p.1 ≠ I) ∧ J i m nx ∧ i ≤ n ∧ k = n + 1 - i
noncomputable def FEnd (h₀ : Heap) (L I : Addr) (St : Nat → Heap → Prop) (J : Nat → (Str → Option Value) → List (Addr × Obj) → Prop) (n : Nat) (s : Shared) (k : Nat) (s' : Shared) : Prop := ∃ j, j < k ∧ FInv h₀ L I St J n s j s'
section
variable {prog : Program} {w : World} {A : Around} {s : Shared} {env : Env} {h₀ : Heap} {I ax : Addr} {fp : List Addr} {n : Nat} {P : Nat → Value → Prop} {St : Nat → Heap → Prop} {x : Str} {px : Pos} {body : List Stmt} {Q : Flow → Shared → Prop} {X : Value → Shared → Prop} {m₀ : Str → Option Value} {nx₀ : List (Addr × Obj)}
theorem for_WA {tg : Expr} (W : Walks prog w A I fp [I] n P St) (J : Nat → (Str → Option Value) → List (Addr × Obj) → Prop)
    (hlo : ∀ i v (s' : Shared) (Q : Unit → Shared → Prop) E, St i s'.heap → Q () s' → wpAny (model prog w) A (letOwnedTupleGo tg (.ref I) v) Q E s') (hL : env.locals ≠ I) (hI : h₀.get? I = none)
    (hfp : ∀ b ∈ fp, b = I ∨ b = ax) (hax : ax ∈ fp → ax ≠ I ∧ ∃ ol, ∀ i m nx h, J i m nx → Fr h₀ env.locals h m → News h₀ env.locals h nx → h.get? ax = some ol)
    (hst : St 0 s.heap) (hlive : ∀ i h, St i h → ∃ o, h.get? I = some o) (F : Fr h₀ env.locals s.heap m₀) (N : News h₀ env.locals s.heap nx₀) (h0 : ∀ p ∈ nx₀, p.1 ≠ I) (hj : J 0 m₀ nx₀)
    (turn : ∀ i v m₁ nx h tk oi, i < n → P i v → (∀ p ∈ nx, p.1 ≠ I) → J i m₁ nx → Fr h₀ env.locals h m₁ → News h₀ env.locals h ((I, oi) :: nx) →
      wpAny (model prog w) A (assign tg env v) (fun _ s₂ => wpAny (model prog w) A (execs body env) (TurnPost h₀ env.locals I oi (J (i + 1)) s Q) (fun _ _ => False) s₂) (fun _ _ => False) { s with heap := h, toks := tk })
    (done : ∀ m nx h tk, J n m nx → Fr h₀ env.locals h m → News h₀ env.locals h nx → Q .next { s with heap := h, toks := tk }) :
    codeAny (model prog w) A (.forLoop tg (.ref I) body [] env) (fun r s' => match r with | .ok f => Q f s' | .error e => X e s') s := by
  refine codeAny_forLoop_any (FInv h₀ env.locals I St J n s) ?_ (n + 1)
    ⟨s.heap, s.toks, m₀, nx₀, 0, rfl, hst, F, N, h0, hj, Nat.zero_le _, rfl⟩
  rintro k s' ⟨h, tk, m, nx, i, rfl, hst, F, N, hoff, hJ, hi, rfl⟩
  have next : ∀ h₁ : Heap, (∀ b o, b ∉ [I] → h.get? b = some o → h₁.get? b = some o) → Fr h₀ env.locals h₁ m ∧ News h₀ env.locals h₁ nx := fun h₁ hk₁ => by
    have hk₂ : ∀ b o, b ≠ I → h.get? b = some o → h₁.get? b = some o := fun b o hb e => hk₁ b o (fun hm => hb (List.mem_singleton.mp hm)) e
    obtain ⟨oL, es, ep, hoL, r⟩ := F.ns
    refine ⟨⟨⟨oL, es, ep, hk₂ _ _ hL hoL, r⟩, fun b o e => hk₂ b o (fun q => ?_) (F.keep b o e), F.above⟩, fun p hp => ⟨hk₂ _ _ (hoff p hp) (N p hp).1, (N p hp).2⟩⟩
    rw [q, hI] at e; cases e
  by_cases hlt : i < n
  · refine W.item i _ _ _ hlt hst fun v h₁ tk₁ hP hst₁ hk₁ => ?_
    obtain ⟨F₁, N₁⟩ := next h₁ hk₁
    refine hlo _ _ _ _ _ hst₁ ?_
    obtain ⟨oi, hoi⟩ := hlive _ _ hst₁
    have N₂ : News h₀ env.locals h₁ ((I, oi) :: nx) := fun p hp => by
      rcases List.mem_cons.mp hp with rfl | hp
      · exact ⟨hoi, Ne.symm hL, hI⟩
      · exact N₁ p hp
    have fin : ∀ s₃, TurnEnd h₀ env.locals I oi (J (i + 1)) s s₃ → FEnd h₀ env.locals I St J n s (n + 1 - i) s₃ := by
      rintro s₃ ⟨h', tk', m', nx', rfl, F', N', hoff', hJ'⟩
      have N'' : News h₀ env.locals h' nx' := fun p hp => N' p (.tail _ hp)
      refine ⟨n + 1 - (i + 1), by omega, h', tk', m', nx', i + 1, rfl, W.frame _ _ _ hst₁ fun b hb o e => ?_, F', N'', hoff', hJ', hlt, rfl⟩
      rcases hfp b hb with rfl | rfl
      · have e1 := (N' _ (.head _)).1
        have e2 : h₁.get? b = some oi := hoi
        rw [e2] at e; cases e; exact e1
      · obtain ⟨_, ol, hol⟩ := hax hb
        have e1 := hol _ _ _ _ hJ F₁ N₁
        have e2 := hol _ _ _ _ hJ' F' N''
        rw [e1] at e; cases e; exact e2
    refine wpAny_noRaise (wpAny_mono (turn i v m nx h₁ _ oi hlt hP hoff hJ F₁ N₂) (fun _ s₂ h₂ => wpAny_noRaise (wpAny_mono h₂ (fun f s₃ h₃ => ?_) fun _ _ e => e)) fun _ _ e => e)
    cases f with
    | ret v => exact h₃
    | brk => exact h₃
    | next => exact fin _ h₃
    | cont => exact fin _ h₃
  · have hin : i = n := by omega
    subst hin
    refine W.done _ _ _ hst fun h₁ tk₁ hk₁ => wpAny_execs_nil ?_
    obtain ⟨F₁, N₁⟩ := next h₁ hk₁
    exact done _ _ _ _ hJ F₁ N₁
theorem for_W (W : Walks prog w A I fp [I] n P St) (J : Nat → (Str → Option Value) → List (Addr × Obj) → Prop) (hx : env.kindOf x = some .local)
    (hp : (env.scope.kind == .class || (env.scope.kind == .module && env.locals != env.globals)) = false) (hL : env.locals ≠ I) (hI : h₀.get? I = none)
    (hfp : ∀ b ∈ fp, b = I ∨ b = ax) (hax : ax ∈ fp → ax ≠ I ∧ ∃ ol, ∀ i m nx h, J i m nx → Fr h₀ env.locals h m → News h₀ env.locals h nx → h.get? ax = some ol)
    (hst : St 0 s.heap) (hlive : ∀ i h, St i h → ∃ o, h.get? I = some o) (F : Fr h₀ env.locals s.heap m₀) (N : News h₀ env.locals s.heap nx₀) (h0 : ∀ p ∈ nx₀, p.1 ≠ I) (hj : J 0 m₀ nx₀) (_haxL : ax ≠ env.locals)
    (turn : ∀ i v m₁ nx h tk oi, i < n → P i v → (∀ p ∈ nx, p.1 ≠ I) → J i m₁ nx → Fr h₀ env.locals h (fun y => if y = x then some v else m₁ y) → News h₀ env.locals h ((I, oi) :: nx) →
      wpAny (model prog w) A (execs body env) (TurnPost h₀ env.locals I oi (J (i + 1)) s Q) (fun _ _ => False) { s with heap := h, toks := tk })
    (done : ∀ m nx h tk, J n m nx → Fr h₀ env.locals h m → News h₀ env.locals h nx → Q .next { s with heap := h, toks := tk }) :
    codeAny (model prog w) A (.forLoop (.Name x px) (.ref I) body [] env) (fun r s' => match r with | .ok f => Q f s' | .error e => X e s') s := by
  refine for_WA W J (fun _ _ _ _ _ _ h => wpAny_pure h) hL hI hfp hax hst hlive F N h0 hj (fun i v m₁ nx h tk oi hi hP hoff hJ F' N' => ?_) done
  exact wpAny_assign_Name (wpAny_storeName_local hx F'.ns (fun h₂ hn₂ hs₂ => turn i v m₁ nx h₂ _ oi hi hP hoff hJ (F'.set hn₂ hs₂) (N'.set hs₂)) hp)

theorem For_start {iter : Expr} {pos : Pos} {tg : Expr}
    (h : wpAny (model prog w) A (eval iter env) (fun v s₁ => wpAny (model prog w) A (pyIter v) (fun it s₂ => codeAny (model prog w) A (.forLoop tg it body [] env) (fun r s' => match r with | .ok f => Q f s' | .error _ => False) s₂) (fun _ _ => False) s₁) (fun _ _ => False) s)
    (hs : ∀ x, foldedSetIterable iter env x = pure x := by intro _; rfl) : wpAny (model prog w) A (exec (.For tg iter body [] pos) env) Q (fun _ _ => False) s := by
  refine wpAny_For (wpAny_mono h (fun v s₁ h₁ => wpAny_mono h₁ (fun it s₂ h₂ => codeAny_mono h₂ fun r s' q => ?_) fun _ _ e => e) fun _ _ e => e) hs
  cases r with
  | ok f => exact q
  | error e => exact q.elim
theorem While_start {test : Expr} {pos : Pos}
    (h : codeAny (model prog w) A (.whileLoop test body [] env) (fun r s' => match r with | .ok f => Q f s' | .error _ => False) s) : wpAny (model prog w) A (exec (.While test body [] pos) env) Q (fun _ _ => False) s := by
  rw [exec_While]
  refine wpAny_bind (wpAny_standAt (wpAny_runOwn (codeAny_mono h fun r s' q => ?_)))
  cases r with
  | ok f => exact q
  | error e => exact q.elim
theorem while_rule {test : Expr} (I : Nat → Shared → Prop)
    (turn : ∀ n s, I n s → wpAny (model prog w) A (isTrue test env (eval test env)) (fun b s₂ =>
        if b then wpAny (model prog w) A (execs body env) (fun f s₃ => match f with
            | .next | .cont => ∃ m, m < n ∧ I m s₃
            | .brk => Q .next s₃
            | .ret v => Q (.ret v) s₃) (fun _ _ => False) s₂
        else Q .next s₂) (fun _ _ => False) s)
    (n : Nat) (h : I n s) : codeAny (model prog w) A (.whileLoop test body [] env) (fun r s' => match r with | .ok f => Q f s' | .error _ => False) s := by
  refine codeAny_whileLoop I (fun n s hI => wpAny_noRaise (wpAny_mono (turn n s hI) (fun b s₂ h₂ => ?_) fun _ _ e => e)) n h
  cases b with
  | false =>
    simp only [Bool.false_eq_true, if_false] at h₂ ⊢
    exact wpAny_execs_nil h₂
  | true =>
    simp only [if_true] at h₂ ⊢
    exact wpAny_noRaise h₂
theorem let_owned {M : Model} {A : Around} {E : Value → Shared → Prop} {s : Shared} {Q : Unit → Shared → Prop} {tg : Expr} {r : Addr} {v : Value} {o : Obj} {fs : Array Value} (ho : s.heap.get? r = some o) (hc : o.cls = .type "list_iterator") (hd : o.data = .fields fs) (h : Q () s) :
    wpAny M A (letOwnedTupleGo tg (.ref r) v) Q E s := by
  cases tg with
  | Tuple =>
    cases v with
    | ref a =>
      show wpAny M A (load r >>= _) Q E s
      refine wpAny_bind (wpAny_load ho ?_)
      rw [hc, hd]
      exact wpAny_pure h
    | _ => exact wpAny_pure h
  | List =>
    cases v with
    | ref a =>
      show wpAny M A (load r >>= _) Q E s
      refine wpAny_bind (wpAny_load ho ?_)
      rw [hc, hd]
      exact wpAny_pure h
    | _ => exact wpAny_pure h
  | _ => exact wpAny_pure h
theorem iter_listA {tg : Expr} {l : Addr} {vs : List Value} (J : Nat → (Str → Option Value) → List (Addr × Obj) → Prop) (hh : A.handled = none) (hl : s.heap.IsList l vs.toArray)
    (hax : ∃ ol, ∀ i m nx h, J i m nx → Fr h₀ env.locals h m → News h₀ env.locals h nx → h.get? l = some ol)
    (F : Fr h₀ env.locals s.heap m₀) (N : News h₀ env.locals s.heap nx₀) (hj : J 0 m₀ nx₀)
    (turn : ∀ I i v m₁ nx h tk oi, vs[i]? = some v → (∀ p ∈ nx, p.1 ≠ I) → J i m₁ nx → Fr h₀ env.locals h m₁ → News h₀ env.locals h ((I, oi) :: nx) →
      wpAny (model prog w) A (assign tg env v) (fun _ s₂ => wpAny (model prog w) A (execs body env) (TurnPost h₀ env.locals I oi (J (i + 1)) s Q) (fun _ _ => False) s₂) (fun _ _ => False) { s with heap := h, toks := tk })
    (done : ∀ m nx h tk, J vs.length m nx → Fr h₀ env.locals h m → News h₀ env.locals h nx → Q .next { s with heap := h, toks := tk }) :
    wpAny (model prog w) A (pyIter (.ref l)) (fun it s₂ => codeAny (model prog w) A (.forLoop tg it body [] env) (fun r s' => match r with | .ok f => Q f s' | .error _ => False) s₂) (fun _ _ => False) s := by
  obtain ⟨ol, hol, _⟩ := id hl
  have hne : l ≠ s.heap.objs.size := Nat.ne_of_lt (Heap.lt_size hol)
  refine wpAny_pyIter_list hl ?_
  have W := Walks.list (prog := prog) (w := w) hh s.heap.objs.size l hne vs.toArray
  have hlen : vs.toArray.size = vs.length := by simp
  rw [hlen] at W
  refine for_WA (ax := l) W J (fun i v s' Q E st h => ?_) (Nat.ne_of_lt F.ns.lt) (next_is_new F) (fun b hb => by simpa using hb) (fun _ => ⟨hne, hax⟩) ⟨⟨_, Heap.get?_push_size _ rfl, rfl, rfl⟩, hl.push _⟩ (fun i h hst => by obtain ⟨⟨o, ho, _⟩, _⟩ := hst; exact ⟨o, ho⟩) (F.push _)
    (fun p hp => ⟨Heap.get?_push_of_some _ (N p hp).1, (N p hp).2⟩) (fun p hp => Nat.ne_of_lt (Heap.lt_size (N p hp).1)) hj (fun i v m₁ nx h tk oi hi hP hoff hJ F' N' => ?_) (fun m nx h tk hJ F' N' => done m nx h tk hJ F' N')
  · obtain ⟨⟨o, ho, hc, hd⟩, _⟩ := st
    exact let_owned ho hc hd h
  · exact turn _ i v m₁ nx h tk oi (by simpa using hP) hoff hJ F' N'
theorem iter_list {l : Addr} {vs : List Value} (J : Nat → (Str → Option Value) → List (Addr × Obj) → Prop) (hh : A.handled = none) (hx : env.kindOf x = some .local)
    (hp : (env.scope.kind == .class || (env.scope.kind == .module && env.locals != env.globals)) = false) (hl : s.heap.IsList l vs.toArray) (hlL : l ≠ env.locals)
    (hax : ∃ ol, ∀ i m nx h, J i m nx → Fr h₀ env.locals h m → News h₀ env.locals h nx → h.get? l = some ol)
    (F : Fr h₀ env.locals s.heap m₀) (N : News h₀ env.locals s.heap nx₀) (hj : J 0 m₀ nx₀)
    (turn : ∀ I i v m₁ nx h tk oi, vs[i]? = some v → (∀ p ∈ nx, p.1 ≠ I) → J i m₁ nx → Fr h₀ env.locals h (fun y => if y = x then some v else m₁ y) → News h₀ env.locals h ((I, oi) :: nx) →
      wpAny (model prog w) A (execs body env) (TurnPost h₀ env.locals I oi (J (i + 1)) s Q) (fun _ _ => False) { s with heap := h, toks := tk })
    (done : ∀ m nx h tk, J vs.length m nx → Fr h₀ env.locals h m → News h₀ env.locals h nx → Q .next { s with heap := h, toks := tk }) :
    wpAny (model prog w) A (pyIter (.ref l)) (fun it s₂ => codeAny (model prog w) A (.forLoop (.Name x px) it body [] env) (fun r s' => match r with | .ok f => Q f s' | .error _ => False) s₂) (fun _ _ => False) s := by
  obtain ⟨ol, hol, _⟩ := id hl
  have hne : l ≠ s.heap.objs.size := Nat.ne_of_lt (Heap.lt_size hol)
  refine wpAny_pyIter_list hl ?_
  have W := Walks.list (prog := prog) (w := w) hh s.heap.objs.size l hne vs.toArray
  have hlen : vs.toArray.size = vs.length := by simp
  rw [hlen] at W
  refine for_W (ax := l) W J hx hp (Nat.ne_of_lt F.ns.lt) (next_is_new F) (fun b hb => by simpa using hb) (fun _ => ⟨hne, hax⟩) ⟨⟨_, Heap.get?_push_size _ rfl, rfl, rfl⟩, hl.push _⟩ (fun i h hst => by obtain ⟨⟨o, ho, _⟩, _⟩ := hst; exact ⟨o, ho⟩) (F.push _)
    (fun p hp => ⟨Heap.get?_push_of_some _ (N p hp).1, (N p hp).2⟩) (fun p hp => Nat.ne_of_lt (Heap.lt_size (N p hp).1)) hj hlL (fun i v m₁ nx h tk oi hi hP hoff hJ F' N' => ?_) (fun m nx h tk hJ F' N' => done m nx h tk hJ F' N')
  exact turn _ i v m₁ nx h tk oi (by simpa using hP) hoff hJ F' N'
theorem iter_bytes {b : Array UInt8} {tb : Tok} (J : Nat → (Str → Option Value) → List (Addr × Obj) → Prop) (hh : A.handled = none) (hx : env.kindOf x = some .local)
    (hp : (env.scope.kind == .class || (env.scope.kind == .module && env.locals != env.globals)) = false)
    (F : Fr h₀ env.locals s.heap m₀) (N : News h₀ env.locals s.heap nx₀) (hj : J 0 m₀ nx₀)
    (turn : ∀ I i (c : UInt8) t m₁ nx h tk oi, b[i]? = some c → (∀ p ∈ nx, p.1 ≠ I) → J i m₁ nx → Fr h₀ env.locals h (fun y => if y = x then some (.int (c.toNat : Int) t) else m₁ y) → News h₀ env.locals h ((I, oi) :: nx) →
      wpAny (model prog w) A (execs body env) (TurnPost h₀ env.locals I oi (J (i + 1)) s Q) (fun _ _ => False) { s with heap := h, toks := tk })
    (done : ∀ m nx h tk, J b.size m nx → Fr h₀ env.locals h m → News h₀ env.locals h nx → Q .next { s with heap := h, toks := tk }) :
    wpAny (model prog w) A (pyIter (.bytes b tb)) (fun it s₂ => codeAny (model prog w) A (.forLoop (.Name x px) it body [] env) (fun r s' => match r with | .ok f => Q f s' | .error _ => False) s₂) (fun _ _ => False) s := by
  refine KBw.pyIter_bytes ?_
  have W := KBw.walks (prog := prog) (w := w) hh s.heap.objs.size b tb
  refine for_W (ax := s.heap.objs.size + 1) W J hx hp (Nat.ne_of_lt F.ns.lt) (next_is_new F) (fun b hb => .inl (List.mem_singleton.mp hb)) (fun hm => absurd (List.mem_singleton.mp hm) (Nat.succ_ne_self _)) ⟨_, Heap.get?_push_size _ rfl, rfl, rfl⟩ (fun i h hst => by obtain ⟨o, ho, _⟩ := hst; exact ⟨o, ho⟩) (F.push _)
    (fun p hp => ⟨Heap.get?_push_of_some _ (N p hp).1, (N p hp).2⟩) (fun p hp => Nat.ne_of_lt (Heap.lt_size (N p hp).1)) hj (Nat.ne_of_gt (Nat.lt_succ_of_lt F.ns.lt)) (fun i v m₁ nx h tk oi hi hP hoff hJ F' N' => ?_) (fun m nx h tk hJ F' N' => done m nx h tk hJ F' N')
  obtain ⟨c, u, hc, rfl⟩ := hP
  exact turn _ i c u m₁ nx h tk oi hc hoff hJ F' N'
end
end Mine
end
section
open PySem PySem.W PyProof.Rows PySem.Calls
set_option Elab.async false
set_option maxRecDepth 100000
set_option maxHeartbeats 8000000
namespace Mine
noncomputable def wr : List (Str × Value) → (Str → Option Value) → Str → Option Value
  | [], u, y => u y
  | (k, v) :: r, u, y => if y = k then some v else wr r u y
theorem wr_eq {m : Str → Option Value} : ∀ (ps : List (Str × Value)), (∀ p ∈ ps, m p.1 = some p.2) → wr ps m = m
  | [], _ => rfl
  | (k, v) :: r, h => by
    funext y
    show (if y = k then some v else wr r m y) = m y
    by_cases e : y = k
    · rw [if_pos e, e, h (k, v) (.head _)]
    · rw [if_neg e, wr_eq r fun p hp => h p (.tail _ hp)]
theorem fr_wr {h₀ h : Heap} {L : Addr} {x : Str} {v : Value} {m : Str → Option Value} (ps : List (Str × Value)) (hm : ∀ p ∈ ps, m p.1 = some p.2) (F : Fr h₀ L h (fun y => if y = x then some v else m y)) : Fr h₀ L h (fun y => if y = x then some v else wr ps m y) := by
  rw [wr_eq ps hm]; exact F
theorem fr_wr' {h₀ h : Heap} {L : Addr} {m : Str → Option Value} (ps : List (Str × Value)) (hm : ∀ p ∈ ps, m p.1 = some p.2) (F : Fr h₀ L h m) : Fr h₀ L h (wr ps m) := by
  rw [wr_eq ps hm]; exact F

theorem byte_le (c : UInt8) : (c.toNat : Int) ≤ 1114111 := by have := c.toNat_lt; omega
/-- the sign of a figure -/
noncomputable def sgn (c1 c2 : Nat) (f : Int) : Nat := if f < 26 then 65 + f.toNat else if f < 52 then 71 + f.toNat else if f < 62 then f.toNat - 4 else if f = 62 then c1 else c2

theorem tn_a {k f : Int} (h : 0 ≤ f) (hk : 0 ≤ k) : (k + f).toNat = k.toNat + f.toNat := Int.toNat_add hk h
theorem tn_c {f : Int} (h : 0 ≤ f) : (f - 4).toNat = f.toNat - 4 := by
  obtain ⟨n, rfl⟩ := Int.eq_ofNat_of_zero_le h
  exact Int.toNat_sub n 4
theorem sgn_a {c1 c2 : Nat} {f : Int} (h : f < 26) : 65 + f.toNat = sgn c1 c2 f := (if_pos h).symm
theorem sgn_b {c1 c2 : Nat} {f : Int} (h1 : ¬ f < 26) (h : f < 52) : 71 + f.toNat = sgn c1 c2 f := by unfold sgn; rw [if_neg h1, if_pos h]
theorem sgn_c {c1 c2 : Nat} {f : Int} (h0 : ¬ f < 26) (h1 : ¬ f < 52) (h : f < 62) : f.toNat - 4 = sgn c1 c2 f := by unfold sgn; rw [if_neg h0, if_neg h1, if_pos h]
theorem strs_end {l : List (Str × Tok)} {sg : Addr} {cnt i : Nat} {ns : List Int} {f : Int} {g : Int → Str} {x : Str} {t : Tok} (hfi : ns[i]? = some f) (hl' : l.map (·.1) = (ns.take i).map g) (e : x = g f) :
    ∃ l₂ cnt₂, [(sg, W.listOf ((strValues l).toArray.push (.str x t)) (cnt + 1))] = [(sg, W.listOf (strValues l₂).toArray cnt₂)] ∧ l₂.map (·.1) = (ns.take (i + 1)).map g := by
  refine ⟨l ++ [(x, t)], cnt + 1, ?_, ?_⟩
  · simp [strValues]
  · rw [List.take_add_one, hfi, List.map_append, hl', e]; simp
theorem join_cons2 (sep x y : Str) (r : List Str) : Str.join sep (x :: y :: r) = x ++ sep ++ Str.join sep (y :: r) := rfl
theorem join_singles {α : Type} (g : α → Nat) : ∀ ns : List α, Txt.join (S []) (ns.map fun f => S [g f]) = S (ns.map g) := by
  intro ns
  unfold Txt.join
  rw [StrLaws.glued_eq_join]
  induction ns with
  | nil => rfl
  | cons f r ih =>
    cases r with
    | nil => rfl
    | cons f' r =>
      simp only [List.map_cons] at ih ⊢
      rw [join_cons2, ih, S_append, S_append]
      rfl
theorem joinOk_small {sep : Str} {texts : List Str} (h1 : sep.length ≤ 2) (h2 : texts.length < 1000) (h3 : ∀ x ∈ texts, x.length < 1000) : JoinOk sep texts = true := by
  unfold JoinOk Builtin.Str.tooLong
  have key : ∀ (l : List Str) (a : Nat), (∀ x ∈ l, x.length < 1000) → l.foldl (fun n x => n + x.length + sep.length) a ≤ a + l.length * 1002 := by
    intro l
    induction l with
    | nil => intro a _; simp
    | cons x r ih =>
      intro a h
      have := ih (a + x.length + sep.length) fun y hy => h y (.tail _ hy)
      have hx := h x (.head _)
      simp only [List.foldl_cons, List.length_cons]
      omega
  have := key texts 0 h3
  have hz : (1002000 : Nat) ≤ sizeLine := by decide
  simp only [List.foldl_toArray, Bool.not_eq_true', decide_eq_false_iff_not]
  omega
theorem signs_ctr {w : World} {dp un : Nat} {fr : Option (List Env)} {gd : Option (List Code)} {s : Shared} {mean : ExcName → Option Value} {pp : Program} {ll : List Str} {mg mb : Str → Option Value} {Q E : Value → Shared → Prop} {a : Addr} {vs : List Value} {ns : List Int} {c1 c2 : UInt8} {tb : Tok} (X : (hp w.params).In s.heap) (T : Top pp ll mean mg mb s.heap) (hdp : dp + 1 < 400) (hu : un + 20 * 1 < 4000)
   (hl : s.heap.IsList a vs.toArray) (hi : IntsAre vs ns) (hn : ns.length < 1000) (hf : ∀ f ∈ ns, 0 ≤ f ∧ f < 64)
   (hret : ∀ t' h' tk', s.heap.StaysIn h' → Q (.str (S (ns.map (sgn c1.toNat c2.toNat))) t') { s with heap := h', toks := tk' }) :
   wpAny (model Challenge.rw_pa0034_01.row.prog w) (At dp un fr gd) (call (.ref 182) [.ref a, .bytes #[c1, c2] tb]) Q E s := by
  rcases s with ⟨h₀, gs, dr, tk, os⟩
  dsimp only at *
  revert X
  k_fill
  intro X
  refine wpAny_call ?_
  k_dflt (refine' enter (binds := [(Str.ofString "row", .ref a), (Str.ofString "marks", .bytes #[c1, c2] tb)]) ?k1 ?k2 ?k3 ?kA ?kB ?kS ?k4 ?k5 ?k6 ?k7 ?_ ?c2 ?c3 ?c4 ?c5; (case k1 => k_asm); (case k2 => exact T.nolimit); (case k3 => k_is); (case kA => (conv => lhs; whnf)); (case kB => (conv => lhs; whnf)); (case kS => (conv => lhs; whnf)); (case k4 => k_is); (case k5 => exact room_of (by omega)); (case k6 => first | exact BindsTo.of_eq rfl | exact binds_K (by k_in) rfl (by k_is) rfl rfl rfl); (case k7 => exact locs rfl); (case c5 => decide); (case c2 => exact rfl); (case c3 => exact rfl); (case c4 => exact rfl))
  intro L h₁ F0 N0
  dsimp only at F0 N0
  (try dsimp only)
  refine wpAny_noRaise ?_
  iterate 8 (first | ((with_reducible show wpAny _ _ (PySem.call _ _ _) _ _ _); first | ((with_reducible show wpAny _ _ (PySem.call (Value.builtin "list.append") _ _) _ _ _); k_dflt (refine' append_K ?k1 ?k2 ?k3 ?_ ?z; (case k1 => k_asm); (case k2 => k_asm); (case k3 => k_upd); (case z => assumption); intro h' F' N'; (try k_sweep))) | ((with_reducible show wpAny _ _ (PySem.call (Value.builtin "chr") _ _) _ _ _); k_dflt (refine chr_of_range (Int.natCast_nonneg _) (byte_le _) ?_))) | walk1)
  rename_i sg _ _ hp F N
  refine For_start ?_
  (first | ((with_reducible show wpAny _ _ (PySem.call _ _ _) _ _ _); first | ((with_reducible show wpAny _ _ (PySem.call (Value.builtin "list.append") _ _) _ _ _); k_dflt (refine' append_K ?k1 ?k2 ?k3 ?_ ?z; (case k1 => k_asm); (case k2 => k_asm); (case k3 => k_upd); (case z => assumption); intro h' F' N'; (try k_sweep))) | ((with_reducible show wpAny _ _ (PySem.call (Value.builtin "chr") _ _) _ _ _); k_dflt (refine chr_of_range (Int.natCast_nonneg _) (byte_le _) ?_))) | walk1)
  have haL : a ≠ L := by
    obtain ⟨ol, hol, _⟩ := hl
    exact Nat.ne_of_lt (Nat.lt_of_lt_of_le (Heap.lt_size hol) F.above)
  refine iter_list (vs := vs) (fun i m nx => (∃ l cnt, nx = [(sg, W.listOf (strValues l).toArray cnt)] ∧ l.map (·.1) = (ns.take i).map fun f => S [sgn c1.toNat c2.toNat f]) ∧ ∀ p ∈ [(Str.ofString "signs", Value.ref sg), (Str.ofString "marks", Value.bytes #[c1, c2] tb)], m p.1 = some p.2)
    rfl rfl rfl (hl.at fun o e => F.keep _ o e) haL (by obtain ⟨ol, hol, _⟩ := hl; exact ⟨ol, fun i m nx h _ F' _ => F'.keep _ _ hol⟩) F N ⟨⟨[], 0, rfl, rfl⟩, ?j0⟩ ?turn ?done
  case j0 =>
    intro p hp
    simp only [List.mem_cons, List.not_mem_nil, or_false] at hp
    rcases hp with rfl | rfl <;> rfl
  case turn =>
    rintro I i v m₁ nx h tk1 oi hv hoff ⟨⟨l, cnt, rfl, hl'⟩, hm⟩ F' N'
    obtain ⟨f, hfi, t, rfl⟩ : ∃ f, ns[i]? = some f ∧ ∃ t, v = .int f t := by
      have hlt : i < ns.length := by rw [← hi.length]; exact (List.getElem?_eq_some_iff.mp hv).1
      obtain ⟨t, ht⟩ := hi.get i ns[i] (List.getElem?_eq_getElem hlt)
      exact ⟨_, List.getElem?_eq_getElem hlt, t, by rw [ht] at hv; exact (Option.some.inj hv).symm⟩
    have hb := hf f (List.mem_of_getElem? hfi)
    have F'' := fr_wr _ hm F'
    have hI : @Ne Nat sg I := hoff _ (.head _)
    have hI' : @Ne Nat I sg := Ne.symm hI
    have hz : (strValues l).toArray.size ≤ sizeLine := by
      have e1 := congrArg List.length hl'
      have : (1000 : Nat) ≤ sizeLine := by decide
      simp [strValues] at e1 ⊢
      omega
    clear F F' N
    have fin : ∀ (c : Nat) t h' tk' m', c = sgn c1.toNat c2.toNat f → Fr h₀ L h' m' → News h₀ L h' [(I, oi), (sg, W.listOf ((strValues l).toArray.push (.str (S [c]) t)) (cnt + 1))] →
        (∀ p ∈ [(Str.ofString "signs", Value.ref sg), (Str.ofString "marks", Value.bytes #[c1, c2] tb)], m' p.1 = some p.2) → TurnEnd h₀ L I oi (fun m nx => (∃ l cnt, nx = [(sg, W.listOf (strValues l).toArray cnt)] ∧ l.map (·.1) = (ns.take (i + 1)).map fun f => S [sgn c1.toNat c2.toNat f]) ∧ ∀ p ∈ [(Str.ofString "signs", Value.ref sg), (Str.ofString "marks", Value.bytes #[c1, c2] tb)], m p.1 = some p.2)
          { heap := hp, gens := gs, drawn := dr, toks := tk, os := os } { heap := h', gens := gs, drawn := dr, toks := tk', os := os } := by
      intro c t h' tk' m' hx F N hm
      refine ⟨h', tk', m', _, rfl, F, N, ?_, strs_end hfi hl' (by rw [hx]), hm⟩
      intro p hp
      rw [List.mem_singleton.mp hp]
      exact hI
    have hm2 : ∀ v, ∀ p ∈ [(Str.ofString "signs", Value.ref sg), (Str.ofString "marks", Value.bytes #[c1, c2] tb)], (fun y => if y = Str.ofString "figure" then some v else wr [(Str.ofString "signs", Value.ref sg), (Str.ofString "marks", Value.bytes #[c1, c2] tb)] m₁ y) p.1 = some p.2 := by
      intro v p hp
      simp only [List.mem_cons, List.not_mem_nil, or_false] at hp
      rcases hp with rfl | rfl <;> rfl
    (repeat' (first | ((with_reducible show wpAny _ _ (PySem.call _ _ _) _ _ _); first | ((with_reducible show wpAny _ _ (PySem.call (Value.builtin "list.append") _ _) _ _ _); k_dflt (refine' append_K ?k1 ?k2 ?k3 ?_ ?z; (case k1 => k_asm); (case k2 => k_asm); (case k3 => k_upd); (case z => assumption); intro h' F' N'; (try k_sweep))) | ((with_reducible show wpAny _ _ (PySem.call (Value.builtin "chr") _ _) _ _ _); k_dflt (refine chr_of_range (Int.natCast_nonneg _) (byte_le _) ?_))) | (k_unfold; (try dsimp only)) | (k_end; wrow_close) | walk1 | (dsimp only; walk1) | (leave1; (try dsimp only))))
    · rename Fr _ _ _ _ => F; rename News _ _ _ _ => N
      exact fin _ _ _ _ _ (Eq.trans (tn_a (k := 65) hb.1 (by decide)) (sgn_a (by assumption))) F N (hm2 _)
    · rename Fr _ _ _ _ => F; rename News _ _ _ _ => N
      exact fin _ _ _ _ _ (Eq.trans (tn_a (k := 71) hb.1 (by decide)) (sgn_b (by assumption) (by assumption))) F N (hm2 _)
    · rename Fr _ _ _ _ => F; rename News _ _ _ _ => N
      exact fin _ _ _ _ _ (Eq.trans (tn_c hb.1) (sgn_c (by assumption) (by assumption) (by assumption))) F N (hm2 _)
    · rename Fr _ _ _ _ => F; rename News _ _ _ _ => N
      refine fin _ _ _ _ _ ?_ F N (hm2 _)
      have : f = 62 ∨ f = 63 := by omega
      rcases this with rfl | rfl <;> rfl
  case done =>
    rintro m nx h tk1 ⟨⟨l, cnt, rfl, hl'⟩, hm⟩ F' N'
    have F'' := fr_wr' _ hm F'
    clear F F' N
    rw [hi.length, List.take_length] at hl'
    (repeat' (first | ((with_reducible show wpAny _ _ (PySem.call _ _ _) _ _ _); first | ((with_reducible show wpAny _ _ (PySem.call (Value.builtin "list.append") _ _) _ _ _); k_dflt (refine' append_K ?k1 ?k2 ?k3 ?_ ?z; (case k1 => k_asm); (case k2 => k_asm); (case k3 => k_upd); (case z => assumption); intro h' F' N'; (try k_sweep))) | ((with_reducible show wpAny _ _ (PySem.call (Value.builtin "chr") _ _) _ _ _); k_dflt (refine chr_of_range (Int.natCast_nonneg _) (byte_le _) ?_))) | (k_unfold; (try dsimp only)) | (k_end; wrow_close) | walk1 | (dsimp only; walk1) | (leave1; (try dsimp only))))
    refine SC.join (l := l) ⟨_, N'.get (.head _), rfl, _, rfl⟩ hl' (joinOk_small (by decide) (by simpa using hn) (by
      intro x hx
      obtain ⟨f, _, rfl⟩ := List.mem_map.mp hx
      show (1 : Nat) < 1000
      decide)) fun t' k => ?_
    rw [show (Str.ofString "") = S [] from rfl, join_singles]
    exact hret _ _ _ F''.keep
end Mine
end
section
open PySem PySem.W PyProof.Rows PySem.Calls
set_option Elab.async false
set_option maxRecDepth 100000
set_option maxHeartbeats 8000000
namespace Mine
noncomputable def Bd (m : Str → Option Value) : List (Str × Value) → Prop
  | [] => True
  | p :: r => m p.1 = some p.2 ∧ Bd m r
theorem Bd.all {m : Str → Option Value} {l : List (Str × Value)} (h : Bd m l) : ∀ p ∈ l, m p.1 = some p.2 := by
  induction l with
  | nil => intro p hp; exact nomatch hp
  | cons q r ih =>
    intro p hp
    rcases List.mem_cons.mp hp with rfl | hp
    · exact h.1
    · exact ih h.2 p hp
noncomputable def Off (I : Nat) : List (Addr × Obj) → Prop
  | [] => True
  | p :: r => @Ne Nat p.1 I ∧ Off I r
theorem Off.all {I : Nat} {l : List (Addr × Obj)} (h : Off I l) : ∀ p ∈ l, p.1 ≠ I := by
  induction l with
  | nil => intro p hp; exact nomatch hp
  | cons q r ih =>
    intro p hp
    rcases List.mem_cons.mp hp with rfl | hp
    · exact h.1
    · exact ih h.2 p hp
theorem Off.of {I : Nat} {l : List (Addr × Obj)} (h : ∀ p ∈ l, p.1 ≠ I) : Off I l := by
  induction l with
  | nil => exact trivial
  | cons q r ih => exact ⟨h q (.head _), ih fun p hp => h p (.tail _ hp)⟩
noncomputable def StEnd {σ : Type} (Led : σ → List (Addr × Obj)) (Nm : σ → List (Str × Value)) (inv : σ → Prop) (h₀ : Heap) (L I : Addr) (oi : Obj) (s s₂ : Shared) : Prop :=
  ∃ c h' tk' m', s₂ = { s with heap := h', toks := tk' } ∧ Fr h₀ L h' m' ∧ News h₀ L h' ((I, oi) :: Led c) ∧ Off I (Led c) ∧ Bd m' (Nm c) ∧ inv c
noncomputable def StPost {σ : Type} (Led : σ → List (Addr × Obj)) (Nm : σ → List (Str × Value)) (inv : σ → Prop) (h₀ : Heap) (L I : Addr) (oi : Obj) (s : Shared) (Q : Flow → Shared → Prop) (f : Flow) (s₂ : Shared) : Prop :=
  match f with
  | .ret v => Q (.ret v) s₂
  | .brk => Q .next s₂
  | _ => StEnd Led Nm inv h₀ L I oi s s₂
section
variable {prog : Program} {w : World} {A : Around} {s : Shared} {env : Env} {h₀ : Heap} {x : Str} {px : Pos} {body : List Stmt} {Q : Flow → Shared → Prop} {m₀ : Str → Option Value} {σ : Type}
theorem loop_valsA {tg : Expr} {l : Addr} {vs : List Value} (Led : σ → List (Addr × Obj)) (Nm : σ → List (Str × Value)) (inv : Nat → σ → Prop) (c₀ : σ) (hh : A.handled = none) (hl : s.heap.IsList l vs.toArray)
    (hax : ∃ ol, ∀ c h m, Fr h₀ env.locals h m → News h₀ env.locals h (Led c) → h.get? l = some ol)
    (F : Fr h₀ env.locals s.heap m₀) (N : News h₀ env.locals s.heap (Led c₀)) (hm : Bd m₀ (Nm c₀)) (hj : inv 0 c₀)
    (turn : ∀ I i v m₁ h tk oi c, vs[i]? = some v → Off I (Led c) → inv i c → Fr h₀ env.locals h (wr (Nm c) m₁) → News h₀ env.locals h ((I, oi) :: Led c) →
      wpAny (model prog w) A (assign tg env v) (fun _ s₂ => wpAny (model prog w) A (execs body env) (StPost Led Nm (inv (i + 1)) h₀ env.locals I oi s Q) (fun _ _ => False) s₂) (fun _ _ => False) { s with heap := h, toks := tk })
    (done : ∀ c m h tk, inv vs.length c → Fr h₀ env.locals h (wr (Nm c) m) → News h₀ env.locals h (Led c) → Q .next { s with heap := h, toks := tk }) :
    wpAny (model prog w) A (pyIter (.ref l)) (fun it s₂ => codeAny (model prog w) A (.forLoop tg it body [] env) (fun r s' => match r with | .ok f => Q f s' | .error _ => False) s₂) (fun _ _ => False) s := by
  obtain ⟨ol, hol⟩ := hax
  refine iter_listA (vs := vs) (fun i m nx => ∃ c, nx = Led c ∧ Bd m (Nm c) ∧ inv i c) hh hl ⟨ol, fun i m nx h hJ F' N' => ?_⟩ F N ⟨c₀, rfl, hm, hj⟩ ?_ ?_
  · obtain ⟨c, rfl, _, _⟩ := hJ
    exact hol c h m F' N'
  · rintro I i v m₁ nx h tk oi hv hoff ⟨c, rfl, hb, hi⟩ F' N'
    have fin : ∀ s₂, StEnd Led Nm (inv (i + 1)) h₀ env.locals I oi s s₂ → TurnEnd h₀ env.locals I oi (fun m nx => ∃ c, nx = Led c ∧ Bd m (Nm c) ∧ inv (i + 1) c) s s₂ := by
      rintro s₂ ⟨c', h', tk', m', rfl, F'', N'', ho, hb', hi'⟩
      exact ⟨h', tk', m', Led c', rfl, F'', N'', ho.all, c', rfl, hb', hi'⟩
    refine wpAny_mono (turn I i v m₁ h tk oi c hv (Off.of hoff) hi (fr_wr' _ hb.all F') N') (fun _ s₂ q => wpAny_mono q (fun f s₃ q => ?_) fun _ _ e => e) fun _ _ e => e
    cases f with
    | ret v => exact q
    | brk => exact q
    | next => exact fin _ q
    | cont => exact fin _ q
  · rintro m nx h tk ⟨c, rfl, hb, hi⟩ F' N'
    exact done c m h tk hi (fr_wr' _ hb.all F') N'
theorem loop_vals {l : Addr} {vs : List Value} (Led : σ → List (Addr × Obj)) (Nm : σ → List (Str × Value)) (inv : Nat → σ → Prop) (c₀ : σ) (hh : A.handled = none) (hx : env.kindOf x = some .local)
    (hp : (env.scope.kind == .class || (env.scope.kind == .module && env.locals != env.globals)) = false) (hl : h₀.IsList l vs.toArray)
    (F : Fr h₀ env.locals s.heap m₀) (N : News h₀ env.locals s.heap (Led c₀)) (hm : Bd m₀ (Nm c₀)) (hj : inv 0 c₀)
    (turn : ∀ I i v m₁ h tk oi c, vs[i]? = some v → Off I (Led c) → inv i c → Fr h₀ env.locals h (fun y => if y = x then some v else wr (Nm c) m₁ y) → News h₀ env.locals h ((I, oi) :: Led c) →
      wpAny (model prog w) A (execs body env) (StPost Led Nm (inv (i + 1)) h₀ env.locals I oi s Q) (fun _ _ => False) { s with heap := h, toks := tk })
    (done : ∀ c m h tk, inv vs.length c → Fr h₀ env.locals h (wr (Nm c) m) → News h₀ env.locals h (Led c) → Q .next { s with heap := h, toks := tk }) :
    wpAny (model prog w) A (pyIter (.ref l)) (fun it s₂ => codeAny (model prog w) A (.forLoop (.Name x px) it body [] env) (fun r s' => match r with | .ok f => Q f s' | .error _ => False) s₂) (fun _ _ => False) s := by
  obtain ⟨ol, hol, hr⟩ := id hl
  refine loop_valsA Led Nm inv c₀ hh (hl.at fun o e => F.keep _ o e) ⟨ol, fun c h m F' _ => F'.keep _ _ hol⟩ F N hm hj (fun I i v m₁ h tk oi c hv ho hi F' N' => ?_) done
  exact wpAny_assign_Name (wpAny_storeName_local hx F'.ns (fun h₂ hn₂ hs₂ => turn I i v m₁ h₂ _ oi c hv ho hi (F'.set hn₂ hs₂) (N'.set hs₂)) hp)
theorem loop_ints {l : Addr} {vs : List Value} {ns : List Int} (Led : σ → List (Addr × Obj)) (Nm : σ → List (Str × Value)) (inv : Nat → σ → Prop) (c₀ : σ) (hh : A.handled = none) (hx : env.kindOf x = some .local)
    (hp : (env.scope.kind == .class || (env.scope.kind == .module && env.locals != env.globals)) = false) (hl : h₀.IsList l vs.toArray) (hi : IntsAre vs ns)
    (F : Fr h₀ env.locals s.heap m₀) (N : News h₀ env.locals s.heap (Led c₀)) (hm : Bd m₀ (Nm c₀)) (hj : inv 0 c₀)
    (turn : ∀ I i f t m₁ h tk oi c, ns[i]? = some f → Off I (Led c) → inv i c → Fr h₀ env.locals h (fun y => if y = x then some (.int f t) else wr (Nm c) m₁ y) → News h₀ env.locals h ((I, oi) :: Led c) →
      wpAny (model prog w) A (execs body env) (StPost Led Nm (inv (i + 1)) h₀ env.locals I oi s Q) (fun _ _ => False) { s with heap := h, toks := tk })
    (done : ∀ c m h tk, inv ns.length c → Fr h₀ env.locals h (wr (Nm c) m) → News h₀ env.locals h (Led c) → Q .next { s with heap := h, toks := tk }) :
    wpAny (model prog w) A (pyIter (.ref l)) (fun it s₂ => codeAny (model prog w) A (.forLoop (.Name x px) it body [] env) (fun r s' => match r with | .ok f => Q f s' | .error _ => False) s₂) (fun _ _ => False) s := by
  refine loop_vals Led Nm inv c₀ hh hx hp hl F N hm hj ?_ (by rw [hi.length]; exact done)
  intro I i v m₁ h tk oi c hv
  have hlt : i < ns.length := by rw [← hi.length]; exact (List.getElem?_eq_some_iff.mp hv).1
  obtain ⟨t, ht⟩ := hi.get i ns[i] (List.getElem?_eq_getElem hlt)
  have : v = .int ns[i] t := by rw [ht] at hv; exact (Option.some.inj hv).symm
  subst this
  exact turn I i ns[i] t m₁ h tk oi c (List.getElem?_eq_getElem hlt)
theorem loop_bytes {b : Array UInt8} {tb : Tok} (Led : σ → List (Addr × Obj)) (Nm : σ → List (Str × Value)) (inv : Nat → σ → Prop) (c₀ : σ) (hh : A.handled = none) (hx : env.kindOf x = some .local)
    (hp : (env.scope.kind == .class || (env.scope.kind == .module && env.locals != env.globals)) = false)
    (F : Fr h₀ env.locals s.heap m₀) (N : News h₀ env.locals s.heap (Led c₀)) (hm : Bd m₀ (Nm c₀)) (hj : inv 0 c₀)
    (turn : ∀ I i (k : UInt8) t m₁ h tk oi c, b[i]? = some k → Off I (Led c) → inv i c → Fr h₀ env.locals h (fun y => if y = x then some (.int (k.toNat : Int) t) else wr (Nm c) m₁ y) → News h₀ env.locals h ((I, oi) :: Led c) →
      wpAny (model prog w) A (execs body env) (StPost Led Nm (inv (i + 1)) h₀ env.locals I oi s Q) (fun _ _ => False) { s with heap := h, toks := tk })
    (done : ∀ c m h tk, inv b.size c → Fr h₀ env.locals h (wr (Nm c) m) → News h₀ env.locals h (Led c) → Q .next { s with heap := h, toks := tk }) :
    wpAny (model prog w) A (pyIter (.bytes b tb)) (fun it s₂ => codeAny (model prog w) A (.forLoop (.Name x px) it body [] env) (fun r s' => match r with | .ok f => Q f s' | .error _ => False) s₂) (fun _ _ => False) s := by
  refine iter_bytes (fun i m nx => ∃ c, nx = Led c ∧ Bd m (Nm c) ∧ inv i c) hh hx hp F N ⟨c₀, rfl, hm, hj⟩ ?_ ?_
  · rintro I i v t m₁ nx h tk oi hv hoff ⟨c, rfl, hb, hi⟩ F' N'
    refine wpAny_mono (turn I i v t m₁ h tk oi c hv (Off.of hoff) hi (fr_wr _ hb.all F') N') (fun f s₂ q => ?_) fun _ _ e => e
    have fin : StEnd Led Nm (inv (i + 1)) h₀ env.locals I oi s s₂ → TurnEnd h₀ env.locals I oi (fun m nx => ∃ c, nx = Led c ∧ Bd m (Nm c) ∧ inv (i + 1) c) s s₂ := by
      rintro ⟨c', h', tk', m', rfl, F'', N'', ho, hb', hi'⟩
      exact ⟨h', tk', m', Led c', rfl, F'', N'', ho.all, c', rfl, hb', hi'⟩
    cases f with
    | ret v => exact q
    | brk => exact q
    | next => exact fin q
    | cont => exact fin q
  · rintro m nx h tk ⟨c, rfl, hb, hi⟩ F' N'
    exact done c m h tk hi (fr_wr' _ hb.all F') N'
end
theorem ints_push {vs : List Value} {ns : List Int} {n : Int} {t : Tok} (h : IntsAre vs ns) : IntsAre (vs ++ [.int n t]) (ns ++ [n]) := h.append (.cons n t .nil)
end Mine
end
section
open PySem PySem.W PyProof.Rows PySem.Calls
set_option Elab.async false
set_option maxRecDepth 100000
set_option maxHeartbeats 8000000
namespace Mine
noncomputable def ostep (c : List Int × Int × Int) (f : Int) : List Int × Int × Int :=
  if c.2.2 = 0 then (c.1, f, 6) else if c.2.2 = 6 then (c.1 ++ [(c.2.1 * 64 + f) / 16], (c.2.1 * 64 + f) % 16, 4) else if c.2.2 = 4 then (c.1 ++ [(c.2.1 * 64 + f) / 4], (c.2.1 * 64 + f) % 4, 2) else (c.1 ++ [c.2.1 * 64 + f], 0, 0)
noncomputable def octs (ns : List Int) : List Int × Int × Int := ns.foldl ostep ([], 0, 0)
noncomputable def OInv (c : List Int × Int × Int) : Prop := ((c.2.2 = 0 ∧ c.2.1 = 0) ∨ (c.2.2 = 6 ∧ c.2.1 < 64) ∨ (c.2.2 = 4 ∧ c.2.1 < 16) ∨ (c.2.2 = 2 ∧ c.2.1 < 4)) ∧ 0 ≤ c.2.1 ∧ ∀ n ∈ c.1, 0 ≤ n ∧ n < 256
theorem octs_snoc (ns : List Int) (f : Int) : octs (ns ++ [f]) = ostep (octs ns) f := by simp [octs]
theorem ostep_inv {c : List Int × Int × Int} {f : Int} (h : OInv c) (hf : 0 ≤ f ∧ f < 64) : OInv (ostep c f) ∧ (ostep c f).1.length ≤ c.1.length + 1 := by
  obtain ⟨os, he, b⟩ := c
  obtain ⟨h1, h2, h3⟩ := h
  simp only at h1 h2 h3
  have app : ∀ v : Int, 0 ≤ v → v < 256 → ∀ n ∈ os ++ [v], 0 ≤ n ∧ n < 256 := by
    intro v h4 h5 n hn
    rcases List.mem_append.mp hn with hn | hn
    · exact h3 n hn
    · rw [List.mem_singleton.mp hn]; exact ⟨h4, h5⟩
  rcases h1 with ⟨rfl, rfl⟩ | ⟨rfl, h1⟩ | ⟨rfl, h1⟩ | ⟨rfl, h1⟩
  · exact ⟨⟨.inr (.inl ⟨rfl, hf.2⟩), hf.1, h3⟩, Nat.le_succ _⟩
  · refine ⟨⟨.inr (.inr (.inl ⟨rfl, ?_⟩)), ?_, app _ ?_ ?_⟩, ?_⟩
    · show (he * 64 + f) % 16 < 16; omega
    · show 0 ≤ (he * 64 + f) % 16; omega
    · dsimp only; omega
    · dsimp only; omega
    · show (os ++ [(he * 64 + f) / 16]).length ≤ os.length + 1; simp
  · refine ⟨⟨.inr (.inr (.inr ⟨rfl, ?_⟩)), ?_, app _ ?_ ?_⟩, ?_⟩
    · show (he * 64 + f) % 4 < 4; omega
    · show 0 ≤ (he * 64 + f) % 4; omega
    · dsimp only; omega
    · dsimp only; omega
    · show (os ++ [(he * 64 + f) / 4]).length ≤ os.length + 1; simp
  · refine ⟨⟨.inl ⟨rfl, rfl⟩, Int.le_refl _, app _ ?_ ?_⟩, ?_⟩
    · dsimp only; omega
    · dsimp only; omega
    · show (os ++ [he * 64 + f]).length ≤ os.length + 1; simp
theorem fold_inv : ∀ (ns : List Int) (c : List Int × Int × Int), OInv c → (∀ f ∈ ns, 0 ≤ f ∧ f < 64) → OInv (ns.foldl ostep c) ∧ (ns.foldl ostep c).1.length ≤ c.1.length + ns.length
  | [], _, h, _ => ⟨h, Nat.le_refl _⟩
  | f :: r, c, h, hf => by
    obtain ⟨h1, h2⟩ := ostep_inv h (hf f (.head _))
    obtain ⟨h3, h4⟩ := fold_inv r _ h1 fun g hg => hf g (.tail _ hg)
    refine ⟨h3, ?_⟩
    rw [List.foldl_cons, List.length_cons]
    omega
theorem octs_inv (ns : List Int) (h : ∀ f ∈ ns, 0 ≤ f ∧ f < 64) : OInv (octs ns) ∧ (octs ns).1.length ≤ ns.length := by
  have := fold_inv ns ([], 0, 0) ⟨.inl ⟨rfl, rfl⟩, Int.le_refl _, fun n hn => nomatch hn⟩ h
  simpa [octs] using this

theorem gen_postO {α : Type} {M : Model} {A : Around} {x : Sem α} {Q : α → Shared → Prop} {E : Value → Shared → Prop} {s : Shared} (h : ∀ R : α → Shared → Prop, (∀ f s', Q f s' → R f s') → wpAny M A x R E s) : wpAny M A x Q E s := h Q fun _ _ h => h
theorem octets_ctr {w : World} {dp un : Nat} {fr : Option (List Env)} {gd : Option (List Code)} {s : Shared} {mean : ExcName → Option Value} {pp : Program} {ll : List Str} {mg mb : Str → Option Value} {Q E : Value → Shared → Prop} {a : Addr} {vs : List Value} {ns : List Int} (X : (hp w.params).In s.heap) (T : Top pp ll mean mg mb s.heap) (hdp : dp + 1 < 400) (hu : un + 20 * 1 < 4000)
   (hl : s.heap.IsList a vs.toArray) (hi : IntsAre vs ns) (hn : ns.length < 1000) (hf : ∀ f ∈ ns, 0 ≤ f ∧ f < 64)
   (hret : ∀ t' h' tk', s.heap.StaysIn h' → Q (.bytes (byteArr (octs ns).1) t') { s with heap := h', toks := tk' }) :
   wpAny (model Challenge.rw_pa0034_01.row.prog w) (At dp un fr gd) (call (.ref 189) [.ref a]) Q E s := by
  rcases s with ⟨h₀, gs, dr, tk, os⟩
  dsimp only at *
  revert X
  k_fill
  intro X
  refine wpAny_call ?_
  k_dflt (refine' enter (binds := [(Str.ofString "row", .ref a)]) ?k1 ?k2 ?k3 ?kA ?kB ?kS ?k4 ?k5 ?k6 ?k7 ?_ ?c2 ?c3 ?c4 ?c5; (case k1 => k_asm); (case k2 => exact T.nolimit); (case k3 => k_is); (case kA => (conv => lhs; whnf)); (case kB => (conv => lhs; whnf)); (case kS => (conv => lhs; whnf)); (case k4 => k_is); (case k5 => exact room_of (by omega)); (case k6 => first | exact BindsTo.of_eq rfl | exact binds_K (by k_in) rfl (by k_is) rfl rfl rfl); (case k7 => exact locs rfl); (case c5 => decide); (case c2 => exact rfl); (case c3 => exact rfl); (case c4 => exact rfl))
  intro L h₁ F0 N0
  dsimp only at F0 N0
  (try dsimp only)
  refine wpAny_noRaise ?_
  iterate 17 (first | ((with_reducible show wpAny _ _ (PySem.call (Value.builtin "list.append") _ _) _ _ _); k_dflt (refine' append_K ?k1 ?k2 ?k3 ?_ ?z; (case k1 => k_asm); (case k2 => k_asm); (case k3 => k_upd); (case z => assumption); intro h' F' N'; (try k_sweep))) | walk1)
  rename_i oc _ _ _ _ hp F N
  refine For_start ?_
  (first | ((with_reducible show wpAny _ _ (PySem.call (Value.builtin "list.append") _ _) _ _ _); k_dflt (refine' append_K ?k1 ?k2 ?k3 ?_ ?z; (case k1 => k_asm); (case k2 => k_asm); (case k3 => k_upd); (case z => assumption); intro h' F' N'; (try k_sweep))) | walk1)
  refine loop_ints (fun c : (List Value × Int × Int) × Nat × Tok × Tok => [(oc, W.listOf c.1.1.toArray c.2.1)]) (fun c => [(Str.ofString "octets", Value.ref oc), (Str.ofString "held", Value.int c.1.2.1 c.2.2.1), (Str.ofString "bits", Value.int c.1.2.2 c.2.2.2)])
    (fun i c => IntsAre c.1.1 (octs (ns.take i)).1 ∧ c.1.2 = (octs (ns.take i)).2) (([], 0, 0), 0, _, _) rfl rfl rfl hl hi F N ⟨rfl, rfl, rfl, trivial⟩ ⟨.nil, rfl⟩ ?turn ?done
  case turn =>
    rintro I i f t m₁ h tk1 oi ⟨⟨os, he, b⟩, cnt, t1, t2⟩ hfi hoff ⟨hio, hst⟩ F' N'
    dsimp only at F' N'
    have hfb := hf f (List.mem_of_getElem? hfi)
    have hsn : octs (ns.take (i + 1)) = ostep (octs (ns.take i)) f := by
      rw [List.take_add_one, hfi]; exact octs_snoc _ _
    obtain ⟨hinv, hlen⟩ := octs_inv (ns.take i) fun g hg => hf g (List.mem_of_mem_take hg)
    generalize octs (ns.take i) = c at *
    obtain ⟨os', he', b'⟩ := c
    obtain ⟨h1, h2, h3⟩ := hinv
    simp only at hio hst h1 h2 h3 hlen
    obtain ⟨rfl, rfl⟩ : he = he' ∧ b = b' := by simpa using hst
    have hI : @Ne Nat oc I := hoff.1
    have hI' : @Ne Nat I oc := Ne.symm hI
    have hz : os.toArray.size ≤ sizeLine := by
      have e1 : os.length = os'.length := hio.length
      have : (1000 : Nat) ≤ sizeLine := by decide
      simp at hlen ⊢
      omega
    clear F N
    refine gen_postO ?_
    intro R hR
    repeat ((fail_if_success (with_reducible show wpAny _ _ (exec (Stmt.If _ _ _ _) _) _ _ _)); (first | ((with_reducible show wpAny _ _ (PySem.call (Value.builtin "list.append") _ _) _ _ _); k_dflt (refine' append_K ?k1 ?k2 ?k3 ?_ ?z; (case k1 => k_asm); (case k2 => k_asm); (case k3 => k_upd); (case z => assumption); intro h' F' N'; (try k_sweep))) | walk1))
    rcases h1 with ⟨rfl, rfl⟩ | ⟨rfl, h1⟩ | ⟨rfl, h1⟩ | ⟨rfl, h1⟩
    all_goals (repeat' (first | ((with_reducible show wpAny _ _ (PySem.call (Value.builtin "list.append") _ _) _ _ _); k_dflt (refine' append_K ?k1 ?k2 ?k3 ?_ ?z; (case k1 => k_asm); (case k2 => k_asm); (case k3 => k_upd); (case z => assumption); intro h' F' N'; (try k_sweep))) | (k_unfold; (try dsimp only)) | (k_end; wrow_close) | walk1 | (dsimp only; walk1) | (leave1; (try dsimp only))))
    all_goals refine hR _ _ ?_
    · rename Fr _ _ _ _ => F; rename News _ _ _ _ => N
      refine ⟨((os, _, _), cnt, _, _), _, _, _, rfl, F, N, ⟨hI, trivial⟩, ⟨rfl, rfl, rfl, trivial⟩, ?_⟩
      rw [hsn]
      exact ⟨hio, by simp [ostep]⟩
    · rename Fr _ _ _ _ => F; rename News _ _ _ _ => N
      refine ⟨((os ++ [_], (he * 64 + f).fmod 16, 4), _, _, _), _, _, _, rfl, F, (show News h₀ L _ _ from by simpa using N), ⟨hI, trivial⟩, ⟨rfl, rfl, rfl, trivial⟩, ?_⟩
      rw [hsn]
      exact ⟨by simpa [ostep, Int.fdiv_eq_ediv_of_nonneg] using (ints_push hio), by simp [ostep, Int.fmod_eq_emod_of_nonneg]⟩
    · rename Fr _ _ _ _ => F; rename News _ _ _ _ => N
      refine ⟨((os ++ [_], (he * 64 + f).fmod 4, 2), _, _, _), _, _, _, rfl, F, (show News h₀ L _ _ from by simpa using N), ⟨hI, trivial⟩, ⟨rfl, rfl, rfl, trivial⟩, ?_⟩
      rw [hsn]
      exact ⟨by simpa [ostep, Int.fdiv_eq_ediv_of_nonneg] using (ints_push hio), by simp [ostep, Int.fmod_eq_emod_of_nonneg]⟩
    · rename Fr _ _ _ _ => F; rename News _ _ _ _ => N
      refine ⟨((os ++ [_], (he * 64 + f).fmod 1, 0), _, _, _), _, _, _, rfl, F, (show News h₀ L _ _ from by simpa using N), ⟨hI, trivial⟩, ⟨rfl, rfl, rfl, trivial⟩, ?_⟩
      rw [hsn]
      exact ⟨by simpa [ostep, Int.fdiv_eq_ediv_of_nonneg] using (ints_push hio), by simp [ostep, Int.fmod_eq_emod_of_nonneg]⟩
  case done =>
    rintro ⟨⟨os, he, b⟩, cnt, t1, t2⟩ m h tk1 ⟨hio, hst⟩ F' N'
    dsimp only at F' N'
    rw [List.take_length] at hio
    obtain ⟨hinv, hlen⟩ := octs_inv ns hf
    have hz : os.length ≤ sizeLine := by
      have : (1000 : Nat) ≤ sizeLine := by decide
      rw [hio.length]; omega
    clear F N
    (repeat' (first | ((with_reducible show wpAny _ _ (PySem.call (Value.builtin "list.append") _ _) _ _ _); k_dflt (refine' append_K ?k1 ?k2 ?k3 ?_ ?z; (case k1 => k_asm); (case k2 => k_asm); (case k3 => k_upd); (case z => assumption); intro h' F' N'; (try k_sweep))) | (k_unfold; (try dsimp only)) | (k_end; wrow_close) | walk1 | (dsimp only; walk1) | (leave1; (try dsimp only))))
    refine call_bytes_ints (N'.isList (.head _)) hio hinv.2.2 hz rfl fun h' t k hk => ?_
    exact hret _ _ _ fun b o e => hk b o (F'.keep b o e)
end Mine
end
section
open PySem PySem.W PyProof.Rows PySem.Calls
set_option Elab.async false
set_option maxRecDepth 100000
set_option maxHeartbeats 8000000
namespace Mine
noncomputable def whole (ns : List Int) : List Int :=
  if (ns.length : Int).fmod 4 = 0 then ns else if (ns.length : Int).fmod 4 = 1 then ns ++ [0] else
  if (ns.length : Int).fmod 4 = 2 then ns.take (ns.length - 1) ++ [(ns.getD (-1 + (ns.length : Int)).toNat 0).fdiv 16 * 16] else ns.take (ns.length - 1) ++ [(ns.getD (-1 + (ns.length : Int)).toNat 0).fdiv 4 * 4]
theorem whole_ctr {w : World} {dp un : Nat} {fr : Option (List Env)} {gd : Option (List Code)} {s : Shared} {mean : ExcName → Option Value} {pp : Program} {ll : List Str} {mg mb : Str → Option Value} {Q E : Value → Shared → Prop} {a : Addr} {vs : List Value} {ns : List Int} (X : (hp w.params).In s.heap) (T : Top pp ll mean mg mb s.heap) (hdp : dp + 1 < 400) (hu : un + 20 * 1 < 4000)
   (hl : s.heap.IsList a vs.toArray) (hi : IntsAre vs ns) (hn : ns.length < 1000) (hf : ∀ f ∈ ns, 0 ≤ f ∧ f < 64)
   (hret : ∀ r vs' h' tk', s.heap.StaysIn h' → h'.IsList r vs'.toArray → IntsAre vs' (whole ns) → Q (.ref r) { s with heap := h', toks := tk' }) :
   wpAny (model Challenge.rw_pa0034_01.row.prog w) (At dp un fr gd) (call (.ref 196) [.ref a]) Q E s := by
  rcases s with ⟨h₀, gs, dr, tk, os⟩
  dsimp only at *
  revert X
  k_fill
  intro X
  refine wpAny_call ?_
  k_dflt (refine' enter (binds := [(Str.ofString "row", .ref a)]) ?k1 ?k2 ?k3 ?kA ?kB ?kS ?k4 ?k5 ?k6 ?k7 ?_ ?c2 ?c3 ?c4 ?c5; (case k1 => k_asm); (case k2 => exact T.nolimit); (case k3 => k_is); (case kA => (conv => lhs; whnf)); (case kB => (conv => lhs; whnf)); (case kS => (conv => lhs; whnf)); (case k4 => k_is); (case k5 => exact room_of (by omega)); (case k6 => first | exact BindsTo.of_eq rfl | exact binds_K (by k_in) rfl (by k_is) rfl rfl rfl); (case k7 => exact locs rfl); (case c5 => decide); (case c2 => exact rfl); (case c3 => exact rfl); (case c4 => exact rfl))
  intro L h₁ F0 N0
  dsimp only at F0 N0
  (try dsimp only)
  refine wpAny_noRaise ?_
  k_steps
  · rename Fr _ _ _ _ => F
    exact hret _ _ _ _ F.keep (hl.at fun o e => F.keep _ o e) (by unfold whole; rw [if_pos (by assumption)]; exact hi)
  · rename Fr _ _ _ _ => F; rename News _ _ _ _ => N; rename IntsAre _ _ => hI
    exact hret _ _ _ _ F.keep (N.isList (.head _)) (by unfold whole; rw [if_neg (by assumption), if_pos (by assumption)]; exact hI)
  · rename Fr _ _ _ _ => F; rename News _ _ _ _ => N; rename IntsAre _ _ => hI
    exact hret _ _ _ _ F.keep (N.isList (.head _)) (by unfold whole; rw [if_neg (by assumption), if_neg (by assumption), if_pos (by assumption)]; exact hI)
  · rename Fr _ _ _ _ => F; rename News _ _ _ _ => N; rename IntsAre _ _ => hI
    exact hret _ _ _ _ F.keep (N.isList (.head _)) (by unfold whole; rw [if_neg (by assumption), if_neg (by assumption), if_neg (by assumption)]; exact hI)
theorem read_ctr {w : World} {dp un : Nat} {fr : Option (List Env)} {gd : Option (List Code)} {s : Shared} {mean : ExcName → Option Value} {pp : Program} {ll : List Str} {mg mb : Str → Option Value} {Q E : Value → Shared → Prop} {a : Addr} {vs : List Value} {ns : List Int} {p : Int} {t : Tok} (X : (hp w.params).In s.heap) (T : Top pp ll mean mg mb s.heap) (hdp : dp + 2 < 400) (hu : un + 20 * 2 < 4000)
   (hl : s.heap.IsList a vs.toArray) (hi : IntsAre vs ns) (hn : ns.length < 1000) (hf : ∀ f ∈ ns, 0 ≤ f ∧ f < 64) (hp : 0 ≤ p ∧ p < 3)
   (hno : (ns.length : Int).fmod 4 = 1 ∨ (1 < (ns.length : Int).fmod 4 ∧ (ns.length : Int).fmod 4 + p < 4) → ∀ h' tk', s.heap.StaysIn h' → Q .none { s with heap := h', toks := tk' })
   (hret : ¬ ((ns.length : Int).fmod 4 = 1 ∨ (1 < (ns.length : Int).fmod 4 ∧ (ns.length : Int).fmod 4 + p < 4)) → ∀ t' h' tk', s.heap.StaysIn h' → Q (.bytes (byteArr (octs ns).1) t') { s with heap := h', toks := tk' }) :
   wpAny (model Challenge.rw_pa0034_01.row.prog w) (At dp un fr gd) (call (.ref 203) [.ref a, .int p t]) Q E s := by
  rcases s with ⟨h₀, gs, dr, tk, os⟩
  dsimp only at *
  revert X
  k_fill
  intro X
  refine wpAny_call ?_
  k_dflt (refine' enter (binds := [(Str.ofString "row", .ref a), (Str.ofString "pads", .int p t)]) ?k1 ?k2 ?k3 ?kA ?kB ?kS ?k4 ?k5 ?k6 ?k7 ?_ ?c2 ?c3 ?c4 ?c5; (case k1 => k_asm); (case k2 => exact T.nolimit); (case k3 => k_is); (case kA => (conv => lhs; whnf)); (case kB => (conv => lhs; whnf)); (case kS => (conv => lhs; whnf)); (case k4 => k_is); (case k5 => exact room_of (by omega)); (case k6 => first | exact BindsTo.of_eq rfl | exact binds_K (by k_in) rfl (by k_is) rfl rfl rfl); (case k7 => exact locs rfl); (case c5 => decide); (case c2 => exact rfl); (case c3 => exact rfl); (case c4 => exact rfl))
  intro L h₁ F0 N0
  dsimp only at F0 N0
  (try dsimp only)
  refine wpAny_noRaise ?_
  k_steps
  · rename Fr _ _ _ _ => F
    exact hno (.inl (by assumption)) _ _ F.keep
  · rename Fr _ _ _ _ => F
    exact hno (.inr ⟨by assumption, by assumption⟩) _ _ F.keep
  · rename Fr _ _ _ _ => F
    refine octets_ctr (X.keeps F.keep) (T.keeps F.keep) (by (try simp only [Around.deeper]); omega) (by (try simp only [Around.deeper]); omega) (hl.at fun o e => F.keep _ o e) hi hn hf fun t' h' tk' st => ?_
    exact hret (by rintro (q | q) <;> omega) _ _ _ fun b o e => st b o (F.keep b o e)
  · rename Fr _ _ _ _ => F
    refine octets_ctr (X.keeps F.keep) (T.keeps F.keep) (by (try simp only [Around.deeper]); omega) (by (try simp only [Around.deeper]); omega) (hl.at fun o e => F.keep _ o e) hi hn hf fun t' h' tk' st => ?_
    exact hret (by rintro (q | q) <;> omega) _ _ _ fun b o e => st b o (F.keep b o e)
end Mine
end
section
open PySem PySem.W PyProof.Rows PySem.Calls
set_option Elab.async false
set_option maxRecDepth 100000
set_option maxHeartbeats 8000000
namespace Mine
theorem foldl_bytes (l : List Nat) (acc : Array UInt8) : l.foldl (fun acc y => acc ++ [y.toUInt8].toArray) acc = acc ++ (l.map (·.toUInt8)).toArray := by
  induction l generalizing acc with
  | nil => simp
  | cons c r ih => rw [List.foldl_cons, ih]; apply Array.ext'; simp
theorem forIn_two {β : Type} {M : Model} {A : Around} {E : Value → Shared → Prop} {s : Shared} {b0 b1 : β} {f : Nat → β → Sem (ForInStep β)} {n : Nat} {Q : β → Shared → Prop} (hn : 0 < n)
   (h0 : ∀ R : ForInStep β → Shared → Prop, R (.yield b1) s → wpAny M A (f 0 b0) R E s) (h1 : ∀ i, ∀ R : ForInStep β → Shared → Prop, R (.done b1) s → wpAny M A (f i b1) R E s) (h : Q b1 s) : wpAny M A (forIn (List.range' 0 n 1) b0 f) Q E s := by
  cases n with
  | zero => exact absurd hn (Nat.lt_irrefl _)
  | succ n =>
    rw [List.range'_succ, List.forIn_cons]
    refine wpAny_bind (h0 _ ?_)
    cases n with
    | zero => exact wpAny_pure h
    | succ n =>
      show wpAny M A (forIn (List.range' (0 + 1) (n + 1) 1) b1 f) Q E s
      rw [List.range'_succ, List.forIn_cons]
      exact wpAny_bind (h1 _ _ (wpAny_pure h))
open PySem.Builtin._codecs in
theorem encode_ascii {M : Model} {A : Around} {E : Value → Shared → Prop} {s : Shared} {l : List Nat} {self : Value} {Q : Array UInt8 → Shared → Prop} (h128 : ∀ c ∈ l, c < 128) (hl : l.length < 100000) (h : Q (l.map (·.toUInt8)).toArray s) :
    wpAny M A (encodeNarrow "str.encode" asciiCodec none self (S l)) Q E s := by
  have hbad : ∀ c ∈ l, asciiCodec.bad c = false := fun c hc => by
    show decide (c ≥ 128) = false
    have := h128 c hc
    simp; omega
  cases l with
  | nil =>
    unfold encodeNarrow
    dsimp only
    rw [Std.Legacy.Range.forIn_eq_forIn_range']
    exact wpAny_bind (wpAny_pure (wpAny_pure h))
  | cons c r =>
    have hclean : (Array.findIdx? asciiCodec.bad ((c :: r).toArray.extract 0)).getD ((c :: r).toArray.extract 0).size = (c :: r).length := by
      have : Array.findIdx? asciiCodec.bad ((c :: r).toArray.extract 0) = none := by
        rw [Array.findIdx?_eq_none_iff]
        intro x hx
        exact hbad x (by simpa using hx)
      rw [this]; simp
    have hout : Array.foldl (fun acc y => acc ++ (asciiCodec.bytesOf y).toArray) #[] (((c :: r).toArray.extract 0).extract 0 (c :: r).length) = ((c :: r).map (·.toUInt8)).toArray := by
      have e1 : (((c :: r).toArray.extract 0).extract 0 (c :: r).length) = (c :: r).toArray := by apply Array.ext'; simp
      rw [e1, List.foldl_toArray]
      exact (foldl_bytes (c :: r) #[]).trans (by simp)
    have hb := hbad c (.head _)
    have hsz : (((c :: r).map (·.toUInt8)).toArray).size ≤ sizeLine := by
      have : (100000 : Nat) ≤ sizeLine := by decide
      simp at hl ⊢; omega
    have hn : (c :: r).toArray[0 + (c :: r).length]? = none := by simp
    have hsp : (c :: r).toArray[0]? = some c := rfl
    have esz : List.range' [:(S (c :: r)).length].start [:(S (c :: r)).length].size [:(S (c :: r)).length].step = List.range' 0 (c :: r).length 1 := by
      rw [S_length]; simp [Std.Legacy.Range.size]
    have hpos : 0 < (c :: r).length := Nat.succ_pos _
    unfold encodeNarrow
    dsimp only
    rw [Std.Legacy.Range.forIn_eq_forIn_range', esz]
    clear esz hbad h128 hl
    generalize (c :: r).length = n at *
    refine wpAny_bind (forIn_two (b1 := (0 + n, ((c :: r).map (·.toUInt8)).toArray, {})) hpos ?h0 ?h1 ?h2)
    case h0 =>
      intro R hR
      rw [if_neg (by decide)]
      show wpAny M A (if (!asciiCodec.bad c) = true then _ else _) _ _ _
      rw [if_pos (by rw [hb]; rfl)]
      refine wpAny_pure ?_
      dsimp only
      rw [hclean, hout]
      exact hR
    case h1 =>
      intro i R hR
      dsimp only
      rw [if_neg (Nat.not_lt.mpr hsz)]
      rw [hn]
      exact wpAny_pure hR
    case h2 => exact wpAny_pure h
section
variable {prog : Program} {w : World} {A : Around} {E : Value → Shared → Prop} {s : Shared} {l : List Nat} {t u : Tok} {Q : Value → Shared → Prop}
noncomputable abbrev bts (l : List Nat) : Array UInt8 := (l.map (·.toUInt8)).toArray
theorem encode_call (h128 : ∀ c ∈ l, c < 128) (hl : l.length < 100000) (h : Q (.bytes (bts l) s.toks) { s with toks := s.toks + 1 }) :
    wpAny (model prog w) A (call (.builtin "str.encode") [.str (S l) t, .str (Str.ofString "ascii") u]) Q E s := by
  refine call_meets (S := fun _ R s => R (.ok (.ret (.bytes (bts l) s.toks))) { s with toks := s.toks + 1 }) F.slot_str_encode (typeIs_str _ _ _) F.entry_str_encode (F.args_str_encode_2 _ _) ?_ h
  intro prog w A R s h
  have e : Builtin.«str.encode» ⟨[.str (S l) t, .str (Str.ofString "ascii") u], []⟩ = (do ret (← Builtin._codecs.encodeRoad "str.encode" (.str (S l) t) (S l) (Str.ofString "ascii") none)) := by kernel_rfl
  rw [e]
  have e2 : Builtin._codecs.encodeRoad "str.encode" (.str (S l) t) (S l) (Str.ofString "ascii") none = (do mkBytes (← Builtin._codecs.encodeNarrow "str.encode" Builtin._codecs.asciiCodec none (.str (S l) t) (S l))) := rfl
  rw [e2]
  refine wpAny_bind (wpAny_bind (encode_ascii h128 hl ?_))
  unfold mkBytes
  have hsz : (bts l).size ≤ sizeLine := by
    have : (100000 : Nat) ≤ sizeLine := by decide
    simp; omega
  rw [if_neg (Nat.not_lt.mpr hsz)]
  exact wpAny_bind (wpAny_fresh (wpAny_pure (wpAny_pure h)))
end
end Mine
end
section
open PySem PySem.W PyProof.Rows PySem.Calls
set_option Elab.async false
set_option maxRecDepth 100000
set_option maxHeartbeats 8000000
namespace Mine
section
variable {M : Model} {A : Around} {E : Value → Shared → Prop} {s : Shared} {x : Str} {t : Tok} {pl : Sem Bool} {Q : Value × List Value → Shared → Prop}
theorem gm_encode (h : Q (.builtin "str.encode", [.str x t]) s) : wpAny M A (getMethod (.str x t) "encode" pl) Q E s := GM.of (.str x t) (typeIs_str _ _ _) F.slot_str_encode F.type_str_encode GM.noRef h
end
theorem type_bytes {prog : Program} {w : World} {A : Around} {E : Value → Shared → Prop} {s : Shared} {b : Array UInt8} {t : Tok} {Q : Value → Shared → Prop} (h : Q (.type "bytes") s) : wpAny (model prog w) A (call (.type "type") [.bytes b t]) Q E s :=
  call_type_of (typeIs_bytes s b t) (by decide) h
noncomputable def b64v (c : Int) : Int := if 65 ≤ c ∧ c ≤ 90 then c - 65 else if 97 ≤ c ∧ c ≤ 122 then c - 71 else if 48 ≤ c ∧ c ≤ 57 then c + 4 else if c = 43 then 62 else if c = 47 then 63 else 64
theorem b64_value_ctr {w : World} {dp un : Nat} {fr : Option (List Env)} {gd : Option (List Code)} {s : Shared} {mean : ExcName → Option Value} {pp : Program} {ll : List Str} {mg mb : Str → Option Value} {Q E : Value → Shared → Prop} {c : Int} {t : Tok} (X : (hp w.params).In s.heap) (T : Top pp ll mean mg mb s.heap) (hdp : dp + 1 < 400) (hu : un + 20 * 1 < 4000)
   (hret : ∀ t' h' tk', s.heap.StaysIn h' → Q (.int (b64v c) t') { s with heap := h', toks := tk' }) :
   wpAny (model Challenge.rw_pa0034_01.row.prog w) (At dp un fr gd) (call (.ref 143) [.int c t]) Q E s := by
  rcases s with ⟨h₀, gs, dr, tk, os⟩
  dsimp only at *
  revert X
  k_fill
  intro X
  refine wpAny_call ?_
  k_dflt (refine' enter (binds := [(Str.ofString "c", .int c t)]) ?k1 ?k2 ?k3 ?kA ?kB ?kS ?k4 ?k5 ?k6 ?k7 ?_ ?c2 ?c3 ?c4 ?c5; (case k1 => k_asm); (case k2 => exact T.nolimit); (case k3 => k_is); (case kA => (conv => lhs; whnf)); (case kB => (conv => lhs; whnf)); (case kS => (conv => lhs; whnf)); (case k4 => k_is); (case k5 => exact room_of (by omega)); (case k6 => first | exact BindsTo.of_eq rfl | exact binds_K (by k_in) rfl (by k_is) rfl rfl rfl); (case k7 => exact locs rfl); (case c5 => decide); (case c2 => exact rfl); (case c3 => exact rfl); (case c4 => exact rfl))
  intro L h₁ F0 N0
  dsimp only at F0 N0
  (try dsimp only)
  refine wpAny_noRaise ?_
  have fin : ∀ (v : Int) t' h' tk', v = b64v c → h₀.StaysIn h' → Q (.int v t') { heap := h', gens := gs, drawn := dr, toks := tk', os := os } := fun v t' h' tk' e st => by rw [e]; exact hret t' h' tk' st
  (repeat' (first | ((with_reducible show wpAny _ _ (PySem.call _ _ _) _ _ _); first | ((with_reducible show wpAny _ _ (PySem.call (Value.type _) _ _) _ _ _); k_dflt (refine type_bytes ?_)) | ((with_reducible show wpAny _ _ (PySem.call (Value.builtin "str.encode") _ _) _ _ _); k_dflt (refine encode_call (by assumption) (by assumption) ?_))) | ((with_reducible show wpAny _ _ (getMethod (Value.str _ _) _ _) _ _ _); k_dflt (refine gm_encode ?_)) | (k_unfold; (try dsimp only)) | (k_end; wrow_close) | walk1 | (dsimp only; walk1) | (leave1; (try dsimp only))))
  all_goals exact fin _ _ _ _ (by unfold b64v; (repeat' split) <;> omega) F0.keep
theorem truth_ctr {w : World} {dp un : Nat} {fr : Option (List Env)} {gd : Option (List Code)} {s : Shared} {mean : ExcName → Option Value} {pp : Program} {ll : List Str} {mg mb : Str → Option Value} {Q E : Value → Shared → Prop} {b : Bool} (X : (hp w.params).In s.heap) (T : Top pp ll mean mg mb s.heap) (hdp : dp + 1 < 400) (hu : un + 20 * 1 < 4000) (hret : ∀ h' tk', s.heap.StaysIn h' → Q (.bool b) { s with heap := h', toks := tk' }) :
   wpAny (model Challenge.rw_pa0034_01.row.prog w) (At dp un fr gd) (call (.ref 136) [.bool b]) Q E s := by
  rcases s with ⟨h₀, gs, dr, tk, os⟩
  dsimp only at *
  revert X
  k_fill
  intro X
  refine wpAny_call ?_
  k_dflt (refine' enter (binds := [(Str.ofString "x", .bool b)]) ?k1 ?k2 ?k3 ?kA ?kB ?kS ?k4 ?k5 ?k6 ?k7 ?_ ?c2 ?c3 ?c4 ?c5; (case k1 => k_asm); (case k2 => exact T.nolimit); (case k3 => k_is); (case kA => (conv => lhs; whnf)); (case kB => (conv => lhs; whnf)); (case kS => (conv => lhs; whnf)); (case k4 => k_is); (case k5 => exact room_of (by omega)); (case k6 => first | exact BindsTo.of_eq rfl | exact binds_K (by k_in) rfl (by k_is) rfl rfl rfl); (case k7 => exact locs rfl); (case c5 => decide); (case c2 => exact rfl); (case c3 => exact rfl); (case c4 => exact rfl))
  intro L h₁ F0 N0
  dsimp only at F0 N0
  (try dsimp only)
  refine wpAny_noRaise ?_
  cases b
  all_goals (repeat' (first | ((with_reducible show wpAny _ _ (PySem.call _ _ _) _ _ _); first | ((with_reducible show wpAny _ _ (PySem.call (Value.type _) _ _) _ _ _); k_dflt (refine type_bytes ?_)) | ((with_reducible show wpAny _ _ (PySem.call (Value.builtin "str.encode") _ _) _ _ _); k_dflt (refine encode_call (by assumption) (by assumption) ?_))) | ((with_reducible show wpAny _ _ (getMethod (Value.str _ _) _ _) _ _ _); k_dflt (refine gm_encode ?_)) | (k_unfold; (try dsimp only)) | (k_end; wrow_close) | walk1 | (dsimp only; walk1) | (leave1; (try dsimp only))))
  all_goals (rename Fr _ _ _ _ => F; exact hret _ _ F.keep)
theorem buffer_ctr {w : World} {dp un : Nat} {fr : Option (List Env)} {gd : Option (List Code)} {s : Shared} {mean : ExcName → Option Value} {pp : Program} {ll : List Str} {mg mb : Str → Option Value} {Q E : Value → Shared → Prop} {b : Array UInt8} {t : Tok} (X : (hp w.params).In s.heap) (T : Top pp ll mean mg mb s.heap) (hdp : dp + 1 < 400) (hu : un + 20 * 1 < 4000) (hret : ∀ h' tk', s.heap.StaysIn h' → Q (.bytes b t) { s with heap := h', toks := tk' }) :
   wpAny (model Challenge.rw_pa0034_01.row.prog w) (At dp un fr gd) (call (.ref 129) [.bytes b t]) Q E s := by
  rcases s with ⟨h₀, gs, dr, tk, os⟩
  dsimp only at *
  revert X
  k_fill
  intro X
  refine wpAny_call ?_
  k_dflt (refine' enter (binds := [(Str.ofString "data", .bytes b t)]) ?k1 ?k2 ?k3 ?kA ?kB ?kS ?k4 ?k5 ?k6 ?k7 ?_ ?c2 ?c3 ?c4 ?c5; (case k1 => k_asm); (case k2 => exact T.nolimit); (case k3 => k_is); (case kA => (conv => lhs; whnf)); (case kB => (conv => lhs; whnf)); (case kS => (conv => lhs; whnf)); (case k4 => k_is); (case k5 => exact room_of (by omega)); (case k6 => first | exact BindsTo.of_eq rfl | exact binds_K (by k_in) rfl (by k_is) rfl rfl rfl); (case k7 => exact locs rfl); (case c5 => decide); (case c2 => exact rfl); (case c3 => exact rfl); (case c4 => exact rfl))
  intro L h₁ F0 N0
  dsimp only at F0 N0
  (try dsimp only)
  refine wpAny_noRaise ?_
  (repeat' (first | ((with_reducible show wpAny _ _ (PySem.call _ _ _) _ _ _); first | ((with_reducible show wpAny _ _ (PySem.call (Value.type _) _ _) _ _ _); k_dflt (refine type_bytes ?_)) | ((with_reducible show wpAny _ _ (PySem.call (Value.builtin "str.encode") _ _) _ _ _); k_dflt (refine encode_call (by assumption) (by assumption) ?_))) | ((with_reducible show wpAny _ _ (getMethod (Value.str _ _) _ _) _ _ _); k_dflt (refine gm_encode ?_)) | (k_unfold; (try dsimp only)) | (k_end; wrow_close) | walk1 | (dsimp only; walk1) | (leave1; (try dsimp only))))
  all_goals (rename Fr _ _ _ _ => F; exact hret _ _ F.keep)
theorem abuffer_ctr {w : World} {dp un : Nat} {fr : Option (List Env)} {gd : Option (List Code)} {s : Shared} {mean : ExcName → Option Value} {pp : Program} {ll : List Str} {mg mb : Str → Option Value} {Q E : Value → Shared → Prop} {b : Array UInt8} {t : Tok} (X : (hp w.params).In s.heap) (T : Top pp ll mean mg mb s.heap) (hdp : dp + 1 < 400) (hu : un + 20 * 1 < 4000) (hret : ∀ h' tk', s.heap.StaysIn h' → Q (.bytes b t) { s with heap := h', toks := tk' }) :
   wpAny (model Challenge.rw_pa0034_01.row.prog w) (At dp un fr gd) (call (.ref 122) [.bytes b t]) Q E s := by
  rcases s with ⟨h₀, gs, dr, tk, os⟩
  dsimp only at *
  revert X
  k_fill
  intro X
  refine wpAny_call ?_
  k_dflt (refine' enter (binds := [(Str.ofString "data", .bytes b t)]) ?k1 ?k2 ?k3 ?kA ?kB ?kS ?k4 ?k5 ?k6 ?k7 ?_ ?c2 ?c3 ?c4 ?c5; (case k1 => k_asm); (case k2 => exact T.nolimit); (case k3 => k_is); (case kA => (conv => lhs; whnf)); (case kB => (conv => lhs; whnf)); (case kS => (conv => lhs; whnf)); (case k4 => k_is); (case k5 => exact room_of (by omega)); (case k6 => first | exact BindsTo.of_eq rfl | exact binds_K (by k_in) rfl (by k_is) rfl rfl rfl); (case k7 => exact locs rfl); (case c5 => decide); (case c2 => exact rfl); (case c3 => exact rfl); (case c4 => exact rfl))
  intro L h₁ F0 N0
  dsimp only at F0 N0
  (try dsimp only)
  refine wpAny_noRaise ?_
  (repeat' (first | ((with_reducible show wpAny _ _ (PySem.call _ _ _) _ _ _); first | ((with_reducible show wpAny _ _ (PySem.call (Value.type _) _ _) _ _ _); k_dflt (refine type_bytes ?_)) | ((with_reducible show wpAny _ _ (PySem.call (Value.builtin "str.encode") _ _) _ _ _); k_dflt (refine encode_call (by assumption) (by assumption) ?_))) | ((with_reducible show wpAny _ _ (getMethod (Value.str _ _) _ _) _ _ _); k_dflt (refine gm_encode ?_)) | (k_unfold; (try dsimp only)) | (k_end; wrow_close) | walk1 | (dsimp only; walk1) | (leave1; (try dsimp only))))
  all_goals (rename Fr _ _ _ _ => F; exact hret _ _ F.keep)
theorem bfdB_ctr {w : World} {dp un : Nat} {fr : Option (List Env)} {gd : Option (List Code)} {s : Shared} {mean : ExcName → Option Value} {pp : Program} {ll : List Str} {mg mb : Str → Option Value} {Q E : Value → Shared → Prop} {b : Array UInt8} {t : Tok} (X : (hp w.params).In s.heap) (T : Top pp ll mean mg mb s.heap) (hdp : dp + 1 < 400) (hu : un + 20 * 1 < 4000) (hret : ∀ h' tk', s.heap.StaysIn h' → Q (.bytes b t) { s with heap := h', toks := tk' }) :
   wpAny (model Challenge.rw_pa0034_01.row.prog w) (At dp un fr gd) (call (.ref 102) [.bytes b t]) Q E s := by
  rcases s with ⟨h₀, gs, dr, tk, os⟩
  dsimp only at *
  revert X
  k_fill
  intro X
  refine wpAny_call ?_
  k_dflt (refine' enter (binds := [(Str.ofString "s", .bytes b t)]) ?k1 ?k2 ?k3 ?kA ?kB ?kS ?k4 ?k5 ?k6 ?k7 ?_ ?c2 ?c3 ?c4 ?c5; (case k1 => k_asm); (case k2 => exact T.nolimit); (case k3 => k_is); (case kA => (conv => lhs; whnf)); (case kB => (conv => lhs; whnf)); (case kS => (conv => lhs; whnf)); (case k4 => k_is); (case k5 => exact room_of (by omega)); (case k6 => first | exact BindsTo.of_eq rfl | exact binds_K (by k_in) rfl (by k_is) rfl rfl rfl); (case k7 => exact locs rfl); (case c5 => decide); (case c2 => exact rfl); (case c3 => exact rfl); (case c4 => exact rfl))
  intro L h₁ F0 N0
  dsimp only at F0 N0
  (try dsimp only)
  refine wpAny_noRaise ?_
  (repeat' (first | ((with_reducible show wpAny _ _ (PySem.call _ _ _) _ _ _); first | ((with_reducible show wpAny _ _ (PySem.call (Value.type _) _ _) _ _ _); k_dflt (refine type_bytes ?_)) | ((with_reducible show wpAny _ _ (PySem.call (Value.builtin "str.encode") _ _) _ _ _); k_dflt (refine encode_call (by assumption) (by assumption) ?_))) | ((with_reducible show wpAny _ _ (getMethod (Value.str _ _) _ _) _ _ _); k_dflt (refine gm_encode ?_)) | (k_unfold; (try dsimp only)) | (k_end; wrow_close) | walk1 | (dsimp only; walk1) | (leave1; (try dsimp only))))
  all_goals (rename Fr _ _ _ _ => F; exact hret _ _ F.keep)
theorem bfdS_ctr {w : World} {dp un : Nat} {fr : Option (List Env)} {gd : Option (List Code)} {s : Shared} {mean : ExcName → Option Value} {pp : Program} {ll : List Str} {mg mb : Str → Option Value} {Q E : Value → Shared → Prop} {l : List Nat} {t : Tok} (X : (hp w.params).In s.heap) (T : Top pp ll mean mg mb s.heap) (hdp : dp + 1 < 400) (hu : un + 20 * 1 < 4000) (h128 : ∀ c ∈ l, c < 128) (hl : l.length < 100000) (hret : ∀ t' h' tk', s.heap.StaysIn h' → Q (.bytes (bts l) t') { s with heap := h', toks := tk' }) :
   wpAny (model Challenge.rw_pa0034_01.row.prog w) (At dp un fr gd) (call (.ref 102) [.str (S l) t]) Q E s := by
  rcases s with ⟨h₀, gs, dr, tk, os⟩
  dsimp only at *
  revert X
  k_fill
  intro X
  refine wpAny_call ?_
  k_dflt (refine' enter (binds := [(Str.ofString "s", .str (S l) t)]) ?k1 ?k2 ?k3 ?kA ?kB ?kS ?k4 ?k5 ?k6 ?k7 ?_ ?c2 ?c3 ?c4 ?c5; (case k1 => k_asm); (case k2 => exact T.nolimit); (case k3 => k_is); (case kA => (conv => lhs; whnf)); (case kB => (conv => lhs; whnf)); (case kS => (conv => lhs; whnf)); (case k4 => k_is); (case k5 => exact room_of (by omega)); (case k6 => first | exact BindsTo.of_eq rfl | exact binds_K (by k_in) rfl (by k_is) rfl rfl rfl); (case k7 => exact locs rfl); (case c5 => decide); (case c2 => exact rfl); (case c3 => exact rfl); (case c4 => exact rfl))
  intro L h₁ F0 N0
  dsimp only at F0 N0
  (try dsimp only)
  refine wpAny_noRaise ?_
  (repeat' (first | ((with_reducible show wpAny _ _ (PySem.call _ _ _) _ _ _); first | ((with_reducible show wpAny _ _ (PySem.call (Value.type _) _ _) _ _ _); k_dflt (refine type_bytes ?_)) | ((with_reducible show wpAny _ _ (PySem.call (Value.builtin "str.encode") _ _) _ _ _); k_dflt (refine encode_call (by assumption) (by assumption) ?_))) | ((with_reducible show wpAny _ _ (getMethod (Value.str _ _) _ _) _ _ _); k_dflt (refine gm_encode ?_)) | (k_unfold; (try dsimp only)) | (k_end; wrow_close) | walk1 | (dsimp only; walk1) | (leave1; (try dsimp only))))
  all_goals (rename Fr _ _ _ _ => F; exact hret _ _ _ F.keep)
end Mine
end
section
open PySem PySem.W PyProof.Rows PySem.Calls
set_option Elab.async false
set_option maxRecDepth 100000
set_option maxHeartbeats 8000000
namespace Mine
theorem bitOr_nat (x y : Nat) : Builtin.bitOr (x : Int) (y : Int) = ((x ||| y : Nat) : Int) := by
  unfold Builtin.bitOr
  have h1 : ∀ n : Nat, Builtin.bitNot (n : Int) = -(n : Int) - 1 := fun _ => rfl
  have h2 : ∀ n : Nat, Builtin.bitNot (-(n : Int) - 1) = (n : Int) := fun n => by show -(-(n : Int) - 1) - 1 = (n : Int); omega
  rw [h1, h1]
  unfold Builtin.bitAnd
  rw [decide_eq_false (show ¬ (0 : Int) ≤ -(x : Int) - 1 from by omega), decide_eq_false (show ¬ (0 : Int) ≤ -(y : Int) - 1 from by omega)]
  show Builtin.bitNot (Builtin.bitNot (((Builtin.bitNot (-(x : Int) - 1)).toNat ||| (Builtin.bitNot (-(y : Int) - 1)).toNat : Nat) : Int)) = _
  rw [h2, h2, h1, h2]
  simp
theorem or_add {a b : Int} {k : Nat} (ha : 0 ≤ a) (hb : 0 ≤ b) (hk : b < 2 ^ k) : Builtin.bitOr (a * 2 ^ k) b = a * 2 ^ k + b := by
  obtain ⟨a, rfl⟩ := Int.eq_ofNat_of_zero_le ha
  obtain ⟨b, rfl⟩ := Int.eq_ofNat_of_zero_le hb
  have e : ((a : Int) * 2 ^ k) = ((a <<< k : Nat) : Int) := by rw [Nat.shiftLeft_eq]; push_cast; rfl
  rw [e, bitOr_nat, ← Nat.shiftLeft_add_eq_or_of_lt (by exact_mod_cast hk) a]
  push_cast
  rfl
section
variable {prog : Program} {w : World} {A : Around} {E : Value → Shared → Prop} {s : Shared} {x y : Int} {t u : Tok} {Q : Value → Shared → Prop}
theorem and16 (h : Q (.int (x % 65536) s.toks) { s with toks := s.toks + 1 }) : wpAny (model prog w) A (binaryOp .BitAnd (.int x t) (.int 65535 u)) Q E s := and_int (by rw [bitAnd_m16]; exact h)
theorem and6 (h : Q (.int (x % 64) s.toks) { s with toks := s.toks + 1 }) : wpAny (model prog w) A (binaryOp .BitAnd (.int x t) (.int 63 u)) Q E s := and_int (by rw [bitAnd_m6]; exact h)
theorem and4 (h : Q (.int (x % 16) s.toks) { s with toks := s.toks + 1 }) : wpAny (model prog w) A (binaryOp .BitAnd (.int x t) (.int 15 u)) Q E s := and_int (by rw [bitAnd_m4]; exact h)
theorem and2 (h : Q (.int (x % 4) s.toks) { s with toks := s.toks + 1 }) : wpAny (model prog w) A (binaryOp .BitAnd (.int x t) (.int 3 u)) Q E s := and_int (by rw [bitAnd_m2]; exact h)
theorem or8 (hx : 0 ≤ x) (hy : 0 ≤ y) (hk : y < 256) (h : Q (.int (x * 256 + y) s.toks) { s with toks := s.toks + 1 }) : wpAny (model prog w) A (binaryOp .BitOr (.int (x * 2 ^ Int.toNat 8) t) (.int y u)) Q E s := or_int (by rw [show Int.toNat 8 = 8 from rfl, or_add hx hy (by simpa using hk)]; exact h)
theorem or2 (hx : 0 ≤ x) (hy : 0 ≤ y) (hk : y < 4) (h : Q (.int (x * 4 + y) s.toks) { s with toks := s.toks + 1 }) : wpAny (model prog w) A (binaryOp .BitOr (.int (x * 2 ^ Int.toNat 2) t) (.int y u)) Q E s := or_int (by rw [show Int.toNat 2 = 2 from rfl, or_add hx hy (by simpa using hk)]; exact h)
theorem or4 (hx : 0 ≤ x) (hy : 0 ≤ y) (hk : y < 16) (h : Q (.int (x * 16 + y) s.toks) { s with toks := s.toks + 1 }) : wpAny (model prog w) A (binaryOp .BitOr (.int (x * 2 ^ Int.toNat 4) t) (.int y u)) Q E s := or_int (by rw [show Int.toNat 4 = 4 from rfl, or_add hx hy (by simpa using hk)]; exact h)
theorem or6 (hx : 0 ≤ x) (hy : 0 ≤ y) (hk : y < 64) (h : Q (.int (x * 64 + y) s.toks) { s with toks := s.toks + 1 }) : wpAny (model prog w) A (binaryOp .BitOr (.int (x * 2 ^ Int.toNat 6) t) (.int y u)) Q E s := or_int (by rw [show Int.toNat 6 = 6 from rfl, or_add hx hy (by simpa using hk)]; exact h)
noncomputable abbrev B64 : List UInt8 := [65, 66, 67, 68, 69, 70, 71, 72, 73, 74, 75, 76, 77, 78, 79, 80, 81, 82, 83, 84, 85, 86, 87, 88, 89, 90, 97, 98, 99, 100, 101, 102, 103, 104, 105, 106, 107, 108, 109, 110, 111, 112, 113, 114, 115, 116, 117, 118, 119, 120, 121, 122, 48, 49, 50, 51, 52, 53, 54, 55, 56, 57, 43, 47]
noncomputable def b64c (i : Int) : Int := ((B64.getD i.toNat 0).toNat : Int)
theorem b64_item {value slice : PySem.Expr} {i : Int} (h0 : 0 ≤ i) (h1 : i < 64) (h : Q (.int (b64c i) s.toks) { s with toks := s.toks + 1 })
    (hs : subscripted slice false (.bytes B64.toArray t) (.int i u) = operate [.bytes B64.toArray t, .int i u] (getItem (.bytes B64.toArray t) (.int i u)) := by with_unfolding_all rfl) :
    wpAny (model prog w) A (subscriptTail value slice (.bytes B64.toArray t) (.int i u)) Q E s :=
  tail_any (typeIs_bytes _ _ _) FB.slot_bytes_getitem.lookup (getItem_bytes (by decide) h0 (by show i < ((64 : Nat) : Int); exact h1) h) hs
end
end Mine
end
section
open PySem PySem.W PyProof.Rows PySem.Calls
set_option Elab.async false
set_option maxRecDepth 100000
set_option maxHeartbeats 8000000
namespace Mine
noncomputable def bstep (c : List Int × Int × Int) (k : Int) : List Int × Int × Int :=
  if c.2.1 = 0 then (c.1 ++ [b64c ((c.2.2 * 256 + k) % 65536 / 4 % 64)], 2, (c.2.2 * 256 + k) % 65536)
  else if c.2.1 = 2 then (c.1 ++ [b64c ((c.2.2 * 256 + k) % 65536 / 16 % 64)], 4, (c.2.2 * 256 + k) % 65536)
  else (c.1 ++ [b64c ((c.2.2 * 256 + k) % 65536 / 64 % 64)] ++ [b64c ((c.2.2 * 256 + k) % 65536 % 64)], 0, (c.2.2 * 256 + k) % 65536)
noncomputable def bfold (b : List Int) : List Int × Int × Int := b.foldl bstep ([], 0, 0)
noncomputable def bEnd (c : List Int × Int × Int) : List Int := if c.2.1 = 2 then c.1 ++ [b64c (c.2.2 % 4 * 16)] ++ [61] ++ [61] else if c.2.1 = 4 then c.1 ++ [b64c (c.2.2 % 16 * 4)] ++ [61] else c.1
noncomputable def BInv (c : List Int × Int × Int) : Prop := (c.2.1 = 0 ∨ c.2.1 = 2 ∨ c.2.1 = 4) ∧ 0 ≤ c.2.2 ∧ c.2.2 < 65536 ∧ ∀ n ∈ c.1, 0 ≤ n ∧ n < 256
theorem b64c_in (i : Int) : 0 ≤ b64c i ∧ b64c i < 256 := ⟨Int.natCast_nonneg _, by unfold b64c; have := (B64.getD i.toNat 0).toNat_lt; omega⟩
theorem in_app {os : List Int} {v : Int} (h : ∀ n ∈ os, 0 ≤ n ∧ n < 256) (hv : 0 ≤ v ∧ v < 256) : ∀ n ∈ os ++ [v], 0 ≤ n ∧ n < 256 := by
  intro n hn
  rcases List.mem_append.mp hn with hn | hn
  · exact h n hn
  · rw [List.mem_singleton.mp hn]; exact hv
theorem bstep_inv {c : List Int × Int × Int} {k : Int} (h : BInv c) : BInv (bstep c k) ∧ (bstep c k).1.length ≤ c.1.length + 2 := by
  obtain ⟨os, lb, lc⟩ := c
  obtain ⟨h1, h2, h3, h4⟩ := h
  simp only at h1 h2 h3 h4
  have e1 : 0 ≤ (lc * 256 + k) % 65536 := by omega
  have e2 : (lc * 256 + k) % 65536 < 65536 := by omega
  rcases h1 with rfl | rfl | rfl
  · exact ⟨⟨.inr (.inl rfl), e1, e2, in_app h4 (b64c_in _)⟩, by simp [bstep]⟩
  · exact ⟨⟨.inr (.inr rfl), e1, e2, in_app h4 (b64c_in _)⟩, by simp [bstep]⟩
  · exact ⟨⟨.inl rfl, e1, e2, in_app (in_app h4 (b64c_in _)) (b64c_in _)⟩, by simp [bstep]⟩
theorem bfold_inv : ∀ (b : List Int) (c : List Int × Int × Int), BInv c → BInv (b.foldl bstep c) ∧ (b.foldl bstep c).1.length ≤ c.1.length + 2 * b.length
  | [], _, h => ⟨h, Nat.le_refl _⟩
  | k :: r, c, h => by
    obtain ⟨h1, h2⟩ := bstep_inv (k := k) h
    obtain ⟨h3, h4⟩ := bfold_inv r _ h1
    refine ⟨h3, ?_⟩
    rw [List.foldl_cons, List.length_cons]
    omega
theorem bfold_inv0 (b : List Int) : BInv (bfold b) ∧ (bfold b).1.length ≤ 2 * b.length := by
  have := bfold_inv b ([], 0, 0) ⟨.inl rfl, Int.le_refl _, by decide, fun n hn => nomatch hn⟩
  simpa [bfold] using this
noncomputable abbrev bI (b : Array UInt8) : List Int := b.toList.map fun k => (k.toNat : Int)
theorem bI_take {b : Array UInt8} {i : Nat} {k : UInt8} (h : b[i]? = some k) : bfold ((bI b).take (i + 1)) = bstep (bfold ((bI b).take i)) k.toNat := by
  have : (bI b)[i]? = some (k.toNat : Int) := by simp [bI, h]
  rw [List.take_add_one, this]
  simp [bfold]

end Mine
end
section
open PySem PySem.W PyProof.Rows PySem.Calls
set_option Elab.async false
set_option maxRecDepth 100000
set_option maxHeartbeats 8000000
namespace Mine
section
variable {prog : Program} {w : World} {A : Around} {E : Value → Shared → Prop} {s : Shared} {x : Int} {t u : Tok} {Q : Value → Shared → Prop}
theorem b64_item4 {value slice : PySem.Expr} (h0 : 0 ≤ x) (h1 : x < 4) (h : Q (.int (b64c (x * 16)) s.toks) { s with toks := s.toks + 1 })
    (hs : subscripted slice false (.bytes B64.toArray t) (.int (x * 2 ^ Int.toNat 4) u) = operate [.bytes B64.toArray t, .int (x * 2 ^ Int.toNat 4) u] (getItem (.bytes B64.toArray t) (.int (x * 2 ^ Int.toNat 4) u)) := by with_unfolding_all rfl) :
    wpAny (model prog w) A (subscriptTail value slice (.bytes B64.toArray t) (.int (x * 2 ^ Int.toNat 4) u)) Q E s := b64_item (by show 0 ≤ x * 16; omega) (by show x * 16 < 64; omega) h hs
theorem b64_item2 {value slice : PySem.Expr} (h0 : 0 ≤ x) (h1 : x < 16) (h : Q (.int (b64c (x * 4)) s.toks) { s with toks := s.toks + 1 })
    (hs : subscripted slice false (.bytes B64.toArray t) (.int (x * 2 ^ Int.toNat 2) u) = operate [.bytes B64.toArray t, .int (x * 2 ^ Int.toNat 2) u] (getItem (.bytes B64.toArray t) (.int (x * 2 ^ Int.toNat 2) u)) := by with_unfolding_all rfl) :
    wpAny (model prog w) A (subscriptTail value slice (.bytes B64.toArray t) (.int (x * 2 ^ Int.toNat 2) u)) Q E s := b64_item (by show 0 ≤ x * 4; omega) (by show x * 4 < 64; omega) h hs
end
theorem gen_postB {α : Type} {M : Model} {A : Around} {x : Sem α} {Q : α → Shared → Prop} {E : Value → Shared → Prop} {s : Shared} (h : ∀ R : α → Shared → Prop, (∀ f s', Q f s' → R f s') → wpAny M A x R E s) : wpAny M A x Q E s := h Q fun _ _ h => h
theorem b2a_ctr {w : World} {dp un : Nat} {fr : Option (List Env)} {gd : Option (List Code)} {s : Shared} {mean : ExcName → Option Value} {pp : Program} {ll : List Str} {mg mb : Str → Option Value} {Q E : Value → Shared → Prop} {b : Array UInt8} {t : Tok} (X : (hp w.params).In s.heap) (T : Top pp ll mean mg mb s.heap) (hdp : dp + 2 < 400) (hu : un + 20 * 2 < 4000) (hb : b.size < 1000)
   (hret : ∀ t' h' tk', s.heap.StaysIn h' → Q (.bytes (byteArr (bEnd (bfold (bI b)))) t') { s with heap := h', toks := tk' }) :
   wpAny (model Challenge.rw_pa0034_01.row.prog w) (At dp un fr gd) (call (.ref 159) [.bytes b t] [(Str.ofString "newline", .bool false)]) Q E s := by
  have hsz : (10000 : Nat) ≤ sizeLine := by decide
  rcases s with ⟨h₀, gs, dr, tk, os⟩
  dsimp only at *
  revert X
  k_fill
  intro X
  refine wpAny_call ?_
  k_dflt (refine' enter (binds := [(Str.ofString "data", .bytes b t), (Str.ofString "newline", .bool false)]) ?k1 ?k2 ?k3 ?kA ?kB ?kS ?k4 ?k5 ?k6 ?k7 ?_ ?c2 ?c3 ?c4 ?c5; (case k1 => k_asm); (case k2 => exact T.nolimit); (case k3 => k_is); (case kA => (conv => lhs; whnf)); (case kB => (conv => lhs; whnf)); (case kS => (conv => lhs; whnf)); (case k4 => k_is); (case k5 => exact room_of (by omega)); (case k6 => first | exact BindsTo.of_eq rfl | exact binds_K (by k_in) rfl (by k_is) rfl rfl rfl); (case k7 => exact locs rfl); (case c5 => decide); (case c2 => exact rfl); (case c3 => exact rfl); (case c4 => exact rfl))
  intro L h₁ F0 N0
  dsimp only at F0 N0
  (try dsimp only)
  refine wpAny_noRaise ?_
  iterate 41 (first | ((with_reducible show wpAny _ _ (PySem.call _ _ _) _ _ _); first | ((with_reducible show wpAny _ _ (PySem.call (Value.ref _) _ _) _ _ _); ((with_reducible show wpAny _ _ (PySem.call (Value.ref 136) _ _) _ _ _); k_dflt (refine' truth_ctr ?k1 ?k2 ?k3 ?k4  ?_; (case k1 => exact Frag.In.keeps (by k_asm) (Fr.keep (by k_asm))); (case k2 => exact Top.keeps (by k_asm) (Fr.keep (by k_asm))); (case k3 => (((try simp only [Around.deeper]); omega))); (case k4 => (((try simp only [Around.deeper]); omega)));  intro h' tk' st'; (have F' := fr_after (by k_asm) st'); (have N' := news_after (by k_asm) st'); clear st'; (try dsimp only); (try k_sweep)))) | ((with_reducible show wpAny _ _ (PySem.call (Value.ref _) _ _) _ _ _); ((with_reducible show wpAny _ _ (PySem.call (Value.ref 129) _ _) _ _ _); k_dflt (refine' buffer_ctr ?k1 ?k2 ?k3 ?k4  ?_; (case k1 => exact Frag.In.keeps (by k_asm) (Fr.keep (by k_asm))); (case k2 => exact Top.keeps (by k_asm) (Fr.keep (by k_asm))); (case k3 => (((try simp only [Around.deeper]); omega))); (case k4 => (((try simp only [Around.deeper]); omega)));  intro h' tk' st'; (have F' := fr_after (by k_asm) st'); (have N' := news_after (by k_asm) st'); clear st'; (try dsimp only); (try k_sweep)))) | ((with_reducible show wpAny _ _ (PySem.call (Value.builtin "list.append") _ _) _ _ _); k_dflt (refine' append_K ?k1 ?k2 ?k3 ?_ ?z; (case k1 => k_asm); (case k2 => k_asm); (case k3 => k_upd); (case z => first | assumption | (simp only [Array.size_push]; omega)); intro h' F' N'; (try k_sweep)))) | ((with_reducible show wpAny _ _ (subscriptTail _ _ _ _) _ _ _); first | ((with_reducible show wpAny _ _ (subscriptTail _ _ _ _) _ _ _); ((with_reducible show wpAny _ _ (subscriptTail _ _ _ (Value.int (_ * 2 ^ Int.toNat 2) _)) _ _ _); k_dflt (refine b64_item2 (by omega) (by omega) ?_))) | ((with_reducible show wpAny _ _ (subscriptTail _ _ _ _) _ _ _); ((with_reducible show wpAny _ _ (subscriptTail _ _ _ (Value.int (_ * 2 ^ Int.toNat 4) _)) _ _ _); k_dflt (refine b64_item4 (by omega) (by omega) ?_))) | ((with_reducible show wpAny _ _ (subscriptTail _ _ _ _) _ _ _); k_dflt (refine b64_item (by omega) (by omega) ?_))) | ((with_reducible show wpAny _ _ (binaryOp _ _ _) _ _ _); first | ((with_reducible show wpAny _ _ (binaryOp Operator.BitOr (Value.int _ _) (Value.int _ _)) _ _ _); k_dflt (refine or8 (by omega) (by omega) (by omega) ?_)) | ((with_reducible show wpAny _ _ (binaryOp Operator.BitAnd (Value.int _ _) (Value.int _ _)) _ _ _); (first | with_reducible refine and16 ?_ | with_reducible refine and6 ?_ | with_reducible refine and4 ?_ | with_reducible refine and2 ?_))) | walk1)
  rename_i oc _ _ _ _ hp F N
  refine For_start ?_
  (first | ((with_reducible show wpAny _ _ (PySem.call _ _ _) _ _ _); first | ((with_reducible show wpAny _ _ (PySem.call (Value.ref _) _ _) _ _ _); ((with_reducible show wpAny _ _ (PySem.call (Value.ref 136) _ _) _ _ _); k_dflt (refine' truth_ctr ?k1 ?k2 ?k3 ?k4  ?_; (case k1 => exact Frag.In.keeps (by k_asm) (Fr.keep (by k_asm))); (case k2 => exact Top.keeps (by k_asm) (Fr.keep (by k_asm))); (case k3 => (((try simp only [Around.deeper]); omega))); (case k4 => (((try simp only [Around.deeper]); omega)));  intro h' tk' st'; (have F' := fr_after (by k_asm) st'); (have N' := news_after (by k_asm) st'); clear st'; (try dsimp only); (try k_sweep)))) | ((with_reducible show wpAny _ _ (PySem.call (Value.ref _) _ _) _ _ _); ((with_reducible show wpAny _ _ (PySem.call (Value.ref 129) _ _) _ _ _); k_dflt (refine' buffer_ctr ?k1 ?k2 ?k3 ?k4  ?_; (case k1 => exact Frag.In.keeps (by k_asm) (Fr.keep (by k_asm))); (case k2 => exact Top.keeps (by k_asm) (Fr.keep (by k_asm))); (case k3 => (((try simp only [Around.deeper]); omega))); (case k4 => (((try simp only [Around.deeper]); omega)));  intro h' tk' st'; (have F' := fr_after (by k_asm) st'); (have N' := news_after (by k_asm) st'); clear st'; (try dsimp only); (try k_sweep)))) | ((with_reducible show wpAny _ _ (PySem.call (Value.builtin "list.append") _ _) _ _ _); k_dflt (refine' append_K ?k1 ?k2 ?k3 ?_ ?z; (case k1 => k_asm); (case k2 => k_asm); (case k3 => k_upd); (case z => first | assumption | (simp only [Array.size_push]; omega)); intro h' F' N'; (try k_sweep)))) | ((with_reducible show wpAny _ _ (subscriptTail _ _ _ _) _ _ _); first | ((with_reducible show wpAny _ _ (subscriptTail _ _ _ _) _ _ _); ((with_reducible show wpAny _ _ (subscriptTail _ _ _ (Value.int (_ * 2 ^ Int.toNat 2) _)) _ _ _); k_dflt (refine b64_item2 (by omega) (by omega) ?_))) | ((with_reducible show wpAny _ _ (subscriptTail _ _ _ _) _ _ _); ((with_reducible show wpAny _ _ (subscriptTail _ _ _ (Value.int (_ * 2 ^ Int.toNat 4) _)) _ _ _); k_dflt (refine b64_item4 (by omega) (by omega) ?_))) | ((with_reducible show wpAny _ _ (subscriptTail _ _ _ _) _ _ _); k_dflt (refine b64_item (by omega) (by omega) ?_))) | ((with_reducible show wpAny _ _ (binaryOp _ _ _) _ _ _); first | ((with_reducible show wpAny _ _ (binaryOp Operator.BitOr (Value.int _ _) (Value.int _ _)) _ _ _); k_dflt (refine or8 (by omega) (by omega) (by omega) ?_)) | ((with_reducible show wpAny _ _ (binaryOp Operator.BitAnd (Value.int _ _) (Value.int _ _)) _ _ _); (first | with_reducible refine and16 ?_ | with_reducible refine and6 ?_ | with_reducible refine and4 ?_ | with_reducible refine and2 ?_))) | walk1)
  refine loop_bytes (fun c : (List Value × Int × Int) × Nat × Tok × Tok => [(oc, W.listOf c.1.1.toArray c.2.1)]) (fun c => [(Str.ofString "out", Value.ref oc), (Str.ofString "leftbits", Value.int c.1.2.1 c.2.2.1), (Str.ofString "leftchar", Value.int c.1.2.2 c.2.2.2), (Str.ofString "newline", Value.bool false)])
    (fun i c => IntsAre c.1.1 (bfold ((bI b).take i)).1 ∧ c.1.2 = (bfold ((bI b).take i)).2) (([], 0, 0), 0, _, _) rfl rfl rfl F N ⟨rfl, rfl, rfl, rfl, trivial⟩ ⟨.nil, rfl⟩ ?turn ?done
  case turn =>
    rintro I i k t m₁ h tk1 oi ⟨⟨os, lb, lc⟩, cnt, t1, t2⟩ hki hoff ⟨hio, hst⟩ F' N'
    dsimp only at F' N'
    have hsn := bI_take hki
    obtain ⟨hinv, hlen⟩ := bfold_inv0 ((bI b).take i)
    generalize bfold ((bI b).take i) = c at *
    obtain ⟨os', lb', lc'⟩ := c
    obtain ⟨hlb, hlc0, hlc1, _⟩ := hinv
    simp only at hio hst hlb hlc0 hlc1 hlen
    obtain ⟨rfl, rfl⟩ : lb = lb' ∧ lc = lc' := by simpa using hst
    have hI : @Ne Nat oc I := hoff.1
    have hz0 : os.toArray.size + 10 ≤ sizeLine := by
      have e1 : os.length = os'.length := hio.length
      simp at hlen ⊢
      omega
    have hz : os.toArray.size ≤ sizeLine := by omega
    have hk : (0 : Int) ≤ k.toNat ∧ (k.toNat : Int) < 256 := ⟨Int.natCast_nonneg _, by have := k.toNat_lt; omega⟩
    clear F N
    have hI' : @Ne Nat I oc := Ne.symm hI
    refine gen_postB ?_
    intro R hR
    repeat ((fail_if_success (with_reducible show wpAny _ _ (exec (Stmt.While _ _ _ _) _) _ _ _)); (first | ((with_reducible show wpAny _ _ (PySem.call _ _ _) _ _ _); first | ((with_reducible show wpAny _ _ (PySem.call (Value.ref _) _ _) _ _ _); ((with_reducible show wpAny _ _ (PySem.call (Value.ref 136) _ _) _ _ _); k_dflt (refine' truth_ctr ?k1 ?k2 ?k3 ?k4  ?_; (case k1 => exact Frag.In.keeps (by k_asm) (Fr.keep (by k_asm))); (case k2 => exact Top.keeps (by k_asm) (Fr.keep (by k_asm))); (case k3 => (((try simp only [Around.deeper]); omega))); (case k4 => (((try simp only [Around.deeper]); omega)));  intro h' tk' st'; (have F' := fr_after (by k_asm) st'); (have N' := news_after (by k_asm) st'); clear st'; (try dsimp only); (try k_sweep)))) | ((with_reducible show wpAny _ _ (PySem.call (Value.ref _) _ _) _ _ _); ((with_reducible show wpAny _ _ (PySem.call (Value.ref 129) _ _) _ _ _); k_dflt (refine' buffer_ctr ?k1 ?k2 ?k3 ?k4  ?_; (case k1 => exact Frag.In.keeps (by k_asm) (Fr.keep (by k_asm))); (case k2 => exact Top.keeps (by k_asm) (Fr.keep (by k_asm))); (case k3 => (((try simp only [Around.deeper]); omega))); (case k4 => (((try simp only [Around.deeper]); omega)));  intro h' tk' st'; (have F' := fr_after (by k_asm) st'); (have N' := news_after (by k_asm) st'); clear st'; (try dsimp only); (try k_sweep)))) | ((with_reducible show wpAny _ _ (PySem.call (Value.builtin "list.append") _ _) _ _ _); k_dflt (refine' append_K ?k1 ?k2 ?k3 ?_ ?z; (case k1 => k_asm); (case k2 => k_asm); (case k3 => k_upd); (case z => first | assumption | (simp only [Array.size_push]; omega)); intro h' F' N'; (try k_sweep)))) | ((with_reducible show wpAny _ _ (subscriptTail _ _ _ _) _ _ _); first | ((with_reducible show wpAny _ _ (subscriptTail _ _ _ _) _ _ _); ((with_reducible show wpAny _ _ (subscriptTail _ _ _ (Value.int (_ * 2 ^ Int.toNat 2) _)) _ _ _); k_dflt (refine b64_item2 (by omega) (by omega) ?_))) | ((with_reducible show wpAny _ _ (subscriptTail _ _ _ _) _ _ _); ((with_reducible show wpAny _ _ (subscriptTail _ _ _ (Value.int (_ * 2 ^ Int.toNat 4) _)) _ _ _); k_dflt (refine b64_item4 (by omega) (by omega) ?_))) | ((with_reducible show wpAny _ _ (subscriptTail _ _ _ _) _ _ _); k_dflt (refine b64_item (by omega) (by omega) ?_))) | ((with_reducible show wpAny _ _ (binaryOp _ _ _) _ _ _); first | ((with_reducible show wpAny _ _ (binaryOp Operator.BitOr (Value.int _ _) (Value.int _ _)) _ _ _); k_dflt (refine or8 (by omega) (by omega) (by omega) ?_)) | ((with_reducible show wpAny _ _ (binaryOp Operator.BitAnd (Value.int _ _) (Value.int _ _)) _ _ _); (first | with_reducible refine and16 ?_ | with_reducible refine and6 ?_ | with_reducible refine and4 ?_ | with_reducible refine and2 ?_))) | walk1))
    rcases hlb with rfl | rfl | rfl
    all_goals (repeat' (first | ((with_reducible show wpAny _ _ (PySem.call _ _ _) _ _ _); first | ((with_reducible show wpAny _ _ (PySem.call (Value.ref _) _ _) _ _ _); ((with_reducible show wpAny _ _ (PySem.call (Value.ref 136) _ _) _ _ _); k_dflt (refine' truth_ctr ?k1 ?k2 ?k3 ?k4  ?_; (case k1 => exact Frag.In.keeps (by k_asm) (Fr.keep (by k_asm))); (case k2 => exact Top.keeps (by k_asm) (Fr.keep (by k_asm))); (case k3 => (((try simp only [Around.deeper]); omega))); (case k4 => (((try simp only [Around.deeper]); omega)));  intro h' tk' st'; (have F' := fr_after (by k_asm) st'); (have N' := news_after (by k_asm) st'); clear st'; (try dsimp only); (try k_sweep)))) | ((with_reducible show wpAny _ _ (PySem.call (Value.ref _) _ _) _ _ _); ((with_reducible show wpAny _ _ (PySem.call (Value.ref 129) _ _) _ _ _); k_dflt (refine' buffer_ctr ?k1 ?k2 ?k3 ?k4  ?_; (case k1 => exact Frag.In.keeps (by k_asm) (Fr.keep (by k_asm))); (case k2 => exact Top.keeps (by k_asm) (Fr.keep (by k_asm))); (case k3 => (((try simp only [Around.deeper]); omega))); (case k4 => (((try simp only [Around.deeper]); omega)));  intro h' tk' st'; (have F' := fr_after (by k_asm) st'); (have N' := news_after (by k_asm) st'); clear st'; (try dsimp only); (try k_sweep)))) | ((with_reducible show wpAny _ _ (PySem.call (Value.builtin "list.append") _ _) _ _ _); k_dflt (refine' append_K ?k1 ?k2 ?k3 ?_ ?z; (case k1 => k_asm); (case k2 => k_asm); (case k3 => k_upd); (case z => first | assumption | (simp only [Array.size_push]; omega)); intro h' F' N'; (try k_sweep)))) | ((with_reducible show wpAny _ _ (subscriptTail _ _ _ _) _ _ _); first | ((with_reducible show wpAny _ _ (subscriptTail _ _ _ _) _ _ _); ((with_reducible show wpAny _ _ (subscriptTail _ _ _ (Value.int (_ * 2 ^ Int.toNat 2) _)) _ _ _); k_dflt (refine b64_item2 (by omega) (by omega) ?_))) | ((with_reducible show wpAny _ _ (subscriptTail _ _ _ _) _ _ _); ((with_reducible show wpAny _ _ (subscriptTail _ _ _ (Value.int (_ * 2 ^ Int.toNat 4) _)) _ _ _); k_dflt (refine b64_item4 (by omega) (by omega) ?_))) | ((with_reducible show wpAny _ _ (subscriptTail _ _ _ _) _ _ _); k_dflt (refine b64_item (by omega) (by omega) ?_))) | ((with_reducible show wpAny _ _ (binaryOp _ _ _) _ _ _); first | ((with_reducible show wpAny _ _ (binaryOp Operator.BitOr (Value.int _ _) (Value.int _ _)) _ _ _); k_dflt (refine or8 (by omega) (by omega) (by omega) ?_)) | ((with_reducible show wpAny _ _ (binaryOp Operator.BitAnd (Value.int _ _) (Value.int _ _)) _ _ _); (first | with_reducible refine and16 ?_ | with_reducible refine and6 ?_ | with_reducible refine and4 ?_ | with_reducible refine and2 ?_))) | (k_unfold; (try dsimp only)) | (k_end; wrow_close) | walk1 | (dsimp only; walk1) | (leave1; (try dsimp only))))
    all_goals refine hR _ _ ?_
    · rename Fr _ _ _ _ => F; rename News _ _ _ _ => N
      simp only [List.push_toArray] at N
      refine ⟨((os ++ [Value.int (b64c (((lc * 256 + k.toNat) % 65536).fdiv (2 ^ (0 + 8 - 6 : Int).toNat) % 64)) _], 0 + 8 - 6, (lc * 256 + k.toNat) % 65536), _, _, _), _, _, _, rfl, F, N, ⟨hI, trivial⟩, ⟨rfl, rfl, rfl, rfl, trivial⟩, ?_⟩
      rw [hsn]
      refine ⟨?_, by simp [bstep]⟩
      have e : ((lc * 256 + k.toNat) % 65536).fdiv (2 ^ (0 + 8 - 6 : Int).toNat) = (lc * 256 + k.toNat) % 65536 / 4 := Int.fdiv_eq_ediv_of_nonneg _ (by decide)
      rw [e]
      exact ints_push hio
    · rename Fr _ _ _ _ => F; rename News _ _ _ _ => N
      simp only [List.push_toArray] at N
      refine ⟨((os ++ [Value.int (b64c (((lc * 256 + k.toNat) % 65536).fdiv (2 ^ (2 + 8 - 6 : Int).toNat) % 64)) _], 2 + 8 - 6, (lc * 256 + k.toNat) % 65536), _, _, _), _, _, _, rfl, F, N, ⟨hI, trivial⟩, ⟨rfl, rfl, rfl, rfl, trivial⟩, ?_⟩
      rw [hsn]
      refine ⟨?_, by simp [bstep]⟩
      have e : ((lc * 256 + k.toNat) % 65536).fdiv (2 ^ (2 + 8 - 6 : Int).toNat) = (lc * 256 + k.toNat) % 65536 / 16 := Int.fdiv_eq_ediv_of_nonneg _ (by decide)
      rw [e]
      exact ints_push hio
    · rename Fr _ _ _ _ => F; rename News _ _ _ _ => N
      simp only [List.push_toArray] at N
      refine ⟨((os ++ [Value.int (b64c (((lc * 256 + k.toNat) % 65536).fdiv (2 ^ (4 + 8 - 6 : Int).toNat) % 64)) _] ++ [Value.int (b64c (((lc * 256 + k.toNat) % 65536).fdiv (2 ^ (4 + 8 - 6 - 6 : Int).toNat) % 64)) _], 4 + 8 - 6 - 6, (lc * 256 + k.toNat) % 65536), _, _, _), _, _, _, rfl, F, N, ⟨hI, trivial⟩, ⟨rfl, rfl, rfl, rfl, trivial⟩, ?_⟩
      rw [hsn]
      refine ⟨?_, by simp [bstep]⟩
      have e : ((lc * 256 + k.toNat) % 65536).fdiv (2 ^ (4 + 8 - 6 : Int).toNat) = (lc * 256 + k.toNat) % 65536 / 64 := Int.fdiv_eq_ediv_of_nonneg _ (by decide)
      have e2 : ((lc * 256 + k.toNat) % 65536).fdiv (2 ^ (4 + 8 - 6 - 6 : Int).toNat) = (lc * 256 + k.toNat) % 65536 := by
        rw [Int.fdiv_eq_ediv_of_nonneg _ (by decide)]
        exact Int.ediv_one _
      rw [e, e2]
      exact ints_push (ints_push hio)
  case done =>
    rintro ⟨⟨os, lb, lc⟩, cnt, t1, t2⟩ m h tk1 ⟨hio, hst⟩ F' N'
    dsimp only at F' N'
    have hlt : ((bI b).take b.size) = bI b := List.take_of_length_le (by simp [bI])
    rw [hlt] at hio hst
    obtain ⟨hinv, hlen⟩ := bfold_inv0 (bI b)
    generalize bfold (bI b) = c at *
    obtain ⟨os', lb', lc'⟩ := c
    obtain ⟨hlb, hlc0, hlc1, hin⟩ := hinv
    simp only at hio hst hlb hlc0 hlc1 hlen hin
    obtain ⟨rfl, rfl⟩ : lb = lb' ∧ lc = lc' := by simpa using hst
    have hz0 : os.toArray.size + 10 ≤ sizeLine := by
      have e1 : os.length = os'.length := hio.length
      simp [bI] at hlen ⊢
      omega
    have hz : os.toArray.size ≤ sizeLine := by omega
    clear F N
    rcases hlb with rfl | rfl | rfl
    all_goals (repeat' (first | ((with_reducible show wpAny _ _ (PySem.call _ _ _) _ _ _); first | ((with_reducible show wpAny _ _ (PySem.call (Value.ref _) _ _) _ _ _); ((with_reducible show wpAny _ _ (PySem.call (Value.ref 136) _ _) _ _ _); k_dflt (refine' truth_ctr ?k1 ?k2 ?k3 ?k4  ?_; (case k1 => exact Frag.In.keeps (by k_asm) (Fr.keep (by k_asm))); (case k2 => exact Top.keeps (by k_asm) (Fr.keep (by k_asm))); (case k3 => (((try simp only [Around.deeper]); omega))); (case k4 => (((try simp only [Around.deeper]); omega)));  intro h' tk' st'; (have F' := fr_after (by k_asm) st'); (have N' := news_after (by k_asm) st'); clear st'; (try dsimp only); (try k_sweep)))) | ((with_reducible show wpAny _ _ (PySem.call (Value.ref _) _ _) _ _ _); ((with_reducible show wpAny _ _ (PySem.call (Value.ref 129) _ _) _ _ _); k_dflt (refine' buffer_ctr ?k1 ?k2 ?k3 ?k4  ?_; (case k1 => exact Frag.In.keeps (by k_asm) (Fr.keep (by k_asm))); (case k2 => exact Top.keeps (by k_asm) (Fr.keep (by k_asm))); (case k3 => (((try simp only [Around.deeper]); omega))); (case k4 => (((try simp only [Around.deeper]); omega)));  intro h' tk' st'; (have F' := fr_after (by k_asm) st'); (have N' := news_after (by k_asm) st'); clear st'; (try dsimp only); (try k_sweep)))) | ((with_reducible show wpAny _ _ (PySem.call (Value.builtin "list.append") _ _) _ _ _); k_dflt (refine' append_K ?k1 ?k2 ?k3 ?_ ?z; (case k1 => k_asm); (case k2 => k_asm); (case k3 => k_upd); (case z => first | assumption | (simp only [Array.size_push]; omega)); intro h' F' N'; (try k_sweep)))) | ((with_reducible show wpAny _ _ (subscriptTail _ _ _ _) _ _ _); first | ((with_reducible show wpAny _ _ (subscriptTail _ _ _ _) _ _ _); ((with_reducible show wpAny _ _ (subscriptTail _ _ _ (Value.int (_ * 2 ^ Int.toNat 2) _)) _ _ _); k_dflt (refine b64_item2 (by omega) (by omega) ?_))) | ((with_reducible show wpAny _ _ (subscriptTail _ _ _ _) _ _ _); ((with_reducible show wpAny _ _ (subscriptTail _ _ _ (Value.int (_ * 2 ^ Int.toNat 4) _)) _ _ _); k_dflt (refine b64_item4 (by omega) (by omega) ?_))) | ((with_reducible show wpAny _ _ (subscriptTail _ _ _ _) _ _ _); k_dflt (refine b64_item (by omega) (by omega) ?_))) | ((with_reducible show wpAny _ _ (binaryOp _ _ _) _ _ _); first | ((with_reducible show wpAny _ _ (binaryOp Operator.BitOr (Value.int _ _) (Value.int _ _)) _ _ _); k_dflt (refine or8 (by omega) (by omega) (by omega) ?_)) | ((with_reducible show wpAny _ _ (binaryOp Operator.BitAnd (Value.int _ _) (Value.int _ _)) _ _ _); (first | with_reducible refine and16 ?_ | with_reducible refine and6 ?_ | with_reducible refine and4 ?_ | with_reducible refine and2 ?_))) | (k_unfold; (try dsimp only)) | (k_end; wrow_close) | walk1 | (dsimp only; walk1) | (leave1; (try dsimp only))))
    · refine call_bytes_ints (N'.isList (.head _)) hio hin (by simpa using hz) rfl fun h' t k hk => ?_
      exact hret _ _ _ fun b o e => hk b o (F'.keep b o e)
    · rename Fr _ _ _ _ => F; rename News _ _ _ _ => N
      simp only [List.push_toArray] at N
      refine call_bytes_ints (N.isList (.head _)) (ints_push (ints_push (ints_push hio))) (in_app (in_app (in_app hin (b64c_in _)) (by decide)) (by decide)) (by simp at hz0 ⊢; omega) rfl fun h' t k hk => ?_
      exact hret _ _ _ fun b o e => hk b o (F.keep b o e)
    · rename Fr _ _ _ _ => F; rename News _ _ _ _ => N
      simp only [List.push_toArray] at N
      refine call_bytes_ints (N.isList (.head _)) (ints_push (ints_push hio)) (in_app (in_app hin (b64c_in _)) (by decide)) (by simp at hz0 ⊢; omega) rfl fun h' t k hk => ?_
      exact hret _ _ _ fun b o e => hk b o (F.keep b o e)
end Mine
end
section
open PySem PySem.W PyProof.Rows PySem.Calls
set_option Elab.async false
set_option maxRecDepth 100000
set_option maxHeartbeats 8000000
namespace Mine
noncomputable abbrev AS := List Int × Int × Int × Int
noncomputable def astep (c : AS) (k : Int) : AS :=
  if k = 61 then (c.1, c.2.1, c.2.2.1, c.2.2.2 + 1)
  else if 64 ≤ b64v k then c
  else if c.2.1 = 0 then (c.1, 1, b64v k, 0)
  else if c.2.1 = 1 then (c.1 ++ [c.2.2.1 * 4 + b64v k / 16], 2, b64v k % 16, 0)
  else if c.2.1 = 2 then (c.1 ++ [c.2.2.1 * 16 + b64v k / 4], 3, b64v k % 4, 0)
  else (c.1 ++ [c.2.2.1 * 64 + b64v k], 0, 0, 0)
noncomputable def afold (b : List Int) : AS := b.foldl astep ([], 0, 0, 0)
noncomputable def AInv (c : AS) : Prop := ((c.2.1 = 0 ∧ c.2.2.1 = 0) ∨ (c.2.1 = 1 ∧ c.2.2.1 < 64) ∨ (c.2.1 = 2 ∧ c.2.2.1 < 16) ∨ (c.2.1 = 3 ∧ c.2.2.1 < 4)) ∧ 0 ≤ c.2.2.1 ∧ 0 ≤ c.2.2.2 ∧ ∀ n ∈ c.1, 0 ≤ n ∧ n < 256
noncomputable def SOk (c : AS) (k : Int) : Prop := (k = 61 ∧ 2 ≤ c.2.1 ∧ c.2.1 + c.2.2.2 + 1 ≤ 4) ∨ (k ≠ 61 ∧ b64v k < 64 ∧ c.2.2.2 = 0)
theorem b64v_nonneg (k : Int) : 0 ≤ b64v k := by unfold b64v; (repeat' split) <;> omega
theorem astep_inv {c : AS} {k : Int} (h : AInv c) : AInv (astep c k) ∧ (astep c k).1.length ≤ c.1.length + 1 := by
  obtain ⟨os, q, lc, pd⟩ := c
  obtain ⟨h1, h2, h3, h4⟩ := h
  simp only at h1 h2 h3 h4
  have hv := b64v_nonneg k
  by_cases e1 : k = 61
  · simp only [astep, if_pos e1]
    exact ⟨⟨h1, h2, (by show 0 ≤ pd + 1; omega), h4⟩, Nat.le_succ _⟩
  by_cases e2 : 64 ≤ b64v k
  · simp only [astep, if_neg e1, if_pos e2]
    exact ⟨⟨h1, h2, h3, h4⟩, Nat.le_succ _⟩
  simp only [astep, if_neg e1, if_neg e2]
  generalize b64v k = v at *
  rcases h1 with ⟨rfl, rfl⟩ | ⟨rfl, h1⟩ | ⟨rfl, h1⟩ | ⟨rfl, h1⟩
  · exact ⟨⟨.inr (.inl ⟨rfl, by show v < 64; omega⟩), hv, Int.le_refl _, h4⟩, Nat.le_succ _⟩
  · exact ⟨⟨.inr (.inr (.inl ⟨rfl, by show v % 16 < 16; omega⟩)), by show 0 ≤ v % 16; omega, Int.le_refl _, in_app h4 (by constructor <;> omega)⟩, by simp⟩
  · exact ⟨⟨.inr (.inr (.inr ⟨rfl, by show v % 4 < 4; omega⟩)), by show 0 ≤ v % 4; omega, Int.le_refl _, in_app h4 (by constructor <;> omega)⟩, by simp⟩
  · exact ⟨⟨.inl ⟨rfl, rfl⟩, Int.le_refl _, Int.le_refl _, in_app h4 (by constructor <;> omega)⟩, by simp⟩
theorem afold_inv (b : List Int) : ∀ (c : AS), AInv c → AInv (b.foldl astep c) ∧ (b.foldl astep c).1.length ≤ c.1.length + b.length := by
  induction b with
  | nil => exact fun _ h => ⟨h, Nat.le_refl _⟩
  | cons k r ih =>
    intro c h
    obtain ⟨h1, h2⟩ := astep_inv (k := k) h
    obtain ⟨h3, h4⟩ := ih _ h1
    refine ⟨h3, ?_⟩
    rw [List.foldl_cons, List.length_cons]
    omega
theorem afold_inv0 (b : List Int) : AInv (afold b) ∧ (afold b).1.length ≤ b.length := by
  have := afold_inv b ([], 0, 0, 0) ⟨.inl ⟨rfl, rfl⟩, Int.le_refl _, Int.le_refl _, fun n hn => nomatch hn⟩
  simpa [afold] using this
theorem aI_take {b : Array UInt8} {i : Nat} {k : UInt8} (h : b[i]? = some k) : afold ((bI b).take (i + 1)) = astep (afold ((bI b).take i)) k.toNat := by
  have : (bI b)[i]? = some (k.toNat : Int) := by simp [bI, h]
  rw [List.take_add_one, this]
  simp [afold]
section
variable {prog : Program} {w : World} {A : Around} {E : Value → Shared → Prop} {s : Shared} {x y : Int} {t u : Tok} {Q : Value → Shared → Prop}
theorem shr4 (h : Q (.int (x / 16) s.toks) { s with toks := s.toks + 1 }) : wpAny (model prog w) A (binaryOp .RShift (.int x t) (.int 4 u)) Q E s :=
  rshift_int (by decide) (by rw [Int.fdiv_eq_ediv_of_nonneg _ (by decide)]; exact h)
theorem shr2 (h : Q (.int (x / 4) s.toks) { s with toks := s.toks + 1 }) : wpAny (model prog w) A (binaryOp .RShift (.int x t) (.int 2 u)) Q E s :=
  rshift_int (by decide) (by rw [Int.fdiv_eq_ediv_of_nonneg _ (by decide)]; exact h)
end
end Mine
end
section
open PySem PySem.W PyProof.Rows PySem.Calls
set_option Elab.async false
set_option maxRecDepth 100000
set_option maxHeartbeats 8000000
namespace Mine
section
variable {prog : Program} {w : World} {A : Around} {E : Value → Shared → Prop} {s : Shared} {a b : Int} {t u : Tok} {Q : Value → Shared → Prop}
theorem eq_F (e : ¬ a = b) (h : Q (.bool false) s) : wpAny (model prog w) A (compareOp .Eq (.int a t) (.int b u)) Q E s := eq_int (by rw [show (a == b) = false from beq_eq_false_iff_ne.mpr e]; exact h)
theorem tr_T {R : Bool → Shared → Prop} (e : a ≠ 0) (h : R true s) : wpAny (model prog w) A (truthy (.int a t)) R E s := PyProof.Rows.truthy_int (by rw [show (a != 0) = true from bne_iff_ne.mpr e]; exact h)
theorem ne_T (e : ¬ a = b) (h : Q (.bool true) s) : wpAny (model prog w) A (compareOp .NotEq (.int a t) (.int b u)) Q E s := ne_int (by rw [show (a != b) = true from bne_iff_ne.mpr e]; exact h)
end
theorem bytes_K {prog : Program} {w : World} {A : Around} {E : Value → Shared → Prop} {s : Shared} {h₀ : Heap} {L l : Addr} {m : Str → Option Value} {vs : List Value} {ns : List Int} {Q : Value → Shared → Prop} {c : Nat} (F : Fr h₀ L s.heap m) (N : News h₀ L s.heap [(l, W.listOf vs.toArray c)]) (hi : IntsAre vs ns) (hin : ∀ n ∈ ns, 0 ≤ n ∧ n < 256) (hz : vs.toArray.size ≤ sizeLine) (hh : A.handled = none)
    (h : ∀ h' t k, h₀.StaysIn h' → Q (.bytes (byteArr ns) t) { s with heap := h', toks := k }) : wpAny (model prog w) A (call (.type "bytes") [.ref l]) Q E s :=
  call_bytes_ints (N.isList (.head _)) hi hin (by simpa using hz) hh fun h' t k hk => h _ _ _ fun b o e => hk b o (F.keep b o e)
theorem len_K {prog : Program} {w : World} {A : Around} {E : Value → Shared → Prop} {s : Shared} {h₀ : Heap} {L l : Addr} {vs : List Value} {Q : Value → Shared → Prop} {c : Nat} (N : News h₀ L s.heap [(l, W.listOf vs.toArray c)]) (hz : vs.toArray.size ≤ sizeLine)
    (h : Q (.int (vs.length : Int) (s.toks + 1)) { s with toks := s.toks + 1 + 1 }) : wpAny (model prog w) A (call (.builtin "len") [.ref l]) Q E s :=
  len_list (N.isList (.head _)) (by have : sizeLine < 2 ^ 62 := by decide
                                    omega) (by simpa using h)
theorem gen_post {α : Type} {M : Model} {A : Around} {x : Sem α} {Q : α → Shared → Prop} {E : Value → Shared → Prop} {s : Shared} (h : ∀ R : α → Shared → Prop, (∀ f s', Q f s' → R f s') → wpAny M A x R E s) : wpAny M A x Q E s := h Q fun _ _ h => h
theorem is_false {M : Model} {A : Around} {x : Sem Bool} {Q : Bool → Shared → Prop} {E : Value → Shared → Prop} {s : Shared} (h : ∀ R : Bool → Shared → Prop, (∀ tk, R false { s with toks := tk }) → wpAny M A x R E s) (h2 : ∀ tk, Q false { s with toks := tk }) : wpAny M A x Q E s := h Q h2
theorem a2b_ctr {w : World} {dp un : Nat} {fr : Option (List Env)} {gd : Option (List Code)} {s : Shared} {mean : ExcName → Option Value} {pp : Program} {ll : List Str} {mg mb : Str → Option Value} {Q E : Value → Shared → Prop} {b : Array UInt8} {t : Tok} {st : Bool} {base : Heap} {outer : List Env} (X : (hp w.params).In s.heap) (T : Top pp ll mean mg mb s.heap) (hdp : dp + 2 < 400) (hu : un + 20 * 2 < 4000) (K : Below (At dp un fr gd) base outer s.heap) (hb : b.size < 1000)
   (hst : st = true → ∀ i k, b[i]? = some k → SOk (afold ((bI b).take i)) k.toNat)
   (hret : ∀ t' h' tk', s.heap.StaysIn h' → (afold (bI b)).2.1 ≠ 1 → ((afold (bI b)).2.1 = 0 ∨ 4 ≤ (afold (bI b)).2.1 + (afold (bI b)).2.2.2) → Q (.bytes (byteArr (afold (bI b)).1) t') { s with heap := h', toks := tk' })
   (hexc : ∀ e t' vs h' tk', ((afold (bI b)).2.1 = 1 ∨ ((afold (bI b)).2.1 ≠ 0 ∧ (afold (bI b)).2.1 + (afold (bI b)).2.2.2 < 4)) → RaisedS base s.heap outer e (.ref 112) t' vs [] h' → s.heap.UpToSlots h' → E (.ref e) { s with heap := h', toks := tk' }) :
   wpAny (model Challenge.rw_pa0034_01.row.prog w) (At dp un fr gd) (call (.ref 151) [.bytes b t] [(Str.ofString "strict_mode", .bool st)]) Q E s := by
  have hsz : (10000 : Nat) ≤ sizeLine := by decide
  rcases s with ⟨h₀, gs, dr, tk, os⟩
  dsimp only at *
  revert X
  k_fill
  intro X
  refine wpAny_call ?_
  k_dflt (refine' enter (binds := [(Str.ofString "data", .bytes b t), (Str.ofString "strict_mode", .bool st)]) ?k1 ?k2 ?k3 ?kA ?kB ?kS ?k4 ?k5 ?k6 ?k7 ?_ ?c2 ?c3 ?c4 ?c5; (case k1 => k_asm); (case k2 => exact T.nolimit); (case k3 => k_is); (case kA => (conv => lhs; whnf)); (case kB => (conv => lhs; whnf)); (case kS => (conv => lhs; whnf)); (case k4 => k_is); (case k5 => exact room_of (by omega)); (case k6 => first | exact BindsTo.of_eq rfl | exact binds_K (by k_in) rfl (by k_is) rfl rfl rfl); (case k7 => exact locs rfl); (case c5 => decide); (case c2 => exact rfl); (case c3 => exact rfl); (case c4 => exact rfl))
  intro L h₁ F0 N0
  dsimp only at F0 N0
  (try dsimp only)
  iterate 49 (first | ((with_reducible show wpAny _ _ (leaving _ _) _ _ _); k_dflt (refine' leave_raiseS ?k1 ?k0 ?k2 News.nil ?_; (case k0 => assumption); (case k1 => assumption); (case k2 => assumption); k_whole; intro h' t' R' _ U'; (try dsimp only at R' U' ⊢))) | ((with_reducible show wpAny _ _ (PySem.call _ _ _) _ _ _); first | ((with_reducible show wpAny _ _ (PySem.call (Value.builtin "len") _ _) _ _ _); k_dflt (refine' len_K ?k1 ?k2 ?_; (case k1 => k_asm); (case k2 => assumption))) | ((with_reducible show wpAny _ _ (PySem.call (Value.type _) _ _) _ _ _); k_dflt (refine' bytes_K ?k1 ?k2 ?k3 ?k4 ?k5 ?k6 ?_; (case k1 => k_asm); (case k2 => k_asm); (case k3 => assumption); (case k4 => assumption); (case k5 => assumption); (case k6 => rfl); intro h' t' k' st')) | ((with_reducible show wpAny _ _ (PySem.call (Value.ref _) _ _) _ _ _); ((with_reducible show wpAny _ _ (PySem.call (Value.ref 143) _ _) _ _ _); k_dflt (refine' b64_value_ctr ?k1 ?k2 ?k3 ?k4  ?_; (case k1 => exact Frag.In.keeps (by k_asm) (Fr.keep (by k_asm))); (case k2 => exact Top.keeps (by k_asm) (Fr.keep (by k_asm))); (case k3 => (((try simp only [Around.deeper]); omega))); (case k4 => (((try simp only [Around.deeper]); omega)));  intro t' h' tk' st'; (have F' := fr_after (by k_asm) st'); (have N' := news_after (by k_asm) st'); clear st'; (try dsimp only); (try k_sweep)))) | ((with_reducible show wpAny _ _ (PySem.call (Value.ref _) _ _) _ _ _); ((with_reducible show wpAny _ _ (PySem.call (Value.ref 136) _ _) _ _ _); k_dflt (refine' truth_ctr ?k1 ?k2 ?k3 ?k4  ?_; (case k1 => exact Frag.In.keeps (by k_asm) (Fr.keep (by k_asm))); (case k2 => exact Top.keeps (by k_asm) (Fr.keep (by k_asm))); (case k3 => (((try simp only [Around.deeper]); omega))); (case k4 => (((try simp only [Around.deeper]); omega)));  intro h' tk' st'; (have F' := fr_after (by k_asm) st'); (have N' := news_after (by k_asm) st'); clear st'; (try dsimp only); (try k_sweep)))) | ((with_reducible show wpAny _ _ (PySem.call (Value.ref _) _ _) _ _ _); ((with_reducible show wpAny _ _ (PySem.call (Value.ref 122) _ _) _ _ _); k_dflt (refine' abuffer_ctr ?k1 ?k2 ?k3 ?k4  ?_; (case k1 => exact Frag.In.keeps (by k_asm) (Fr.keep (by k_asm))); (case k2 => exact Top.keeps (by k_asm) (Fr.keep (by k_asm))); (case k3 => (((try simp only [Around.deeper]); omega))); (case k4 => (((try simp only [Around.deeper]); omega)));  intro h' tk' st'; (have F' := fr_after (by k_asm) st'); (have N' := news_after (by k_asm) st'); clear st'; (try dsimp only); (try k_sweep)))) | ((with_reducible show wpAny _ _ (PySem.call (Value.builtin "list.append") _ _) _ _ _); k_dflt (refine' append_K ?k1 ?k2 ?k3 ?_ ?z; (case k1 => k_asm); (case k2 => k_asm); (case k3 => k_upd); (case z => first | assumption | (simp only [Array.size_push]; omega)); intro h' F' N'; (try k_sweep)))) | ((with_reducible show wpAny _ _ (compareOp _ _ _) _ _ _); first | ((with_reducible show wpAny _ _ (compareOp CmpOp.NotEq (Value.int _ _) (Value.int _ _)) _ _ _); (with_reducible refine ne_T (by assumption) ?_)) | ((with_reducible show wpAny _ _ (compareOp CmpOp.Eq (Value.int _ _) (Value.int _ _)) _ _ _); (with_reducible refine eq_F (by assumption) ?_))) | ((with_reducible show wpAny _ _ (truthy (Value.int _ _)) _ _ _); (with_reducible refine tr_T (by assumption) ?_)) | ((with_reducible show wpAny _ _ (binaryOp _ _ _) _ _ _); first | ((with_reducible show wpAny _ _ (binaryOp Operator.BitOr (Value.int _ _) (Value.int _ _)) _ _ _); (first | ((with_reducible refine' or2 ?_ ?_ ?_ ?_); omega; omega; omega) | ((with_reducible refine' or4 ?_ ?_ ?_ ?_); omega; omega; omega) | ((with_reducible refine' or6 ?_ ?_ ?_ ?_); omega; omega; omega))) | ((with_reducible show wpAny _ _ (binaryOp Operator.RShift (Value.int _ _) (Value.int _ _)) _ _ _); (first | with_reducible refine shr4 ?_ | with_reducible refine shr2 ?_)) | ((with_reducible show wpAny _ _ (binaryOp Operator.BitAnd (Value.int _ _) (Value.int _ _)) _ _ _); (first | with_reducible refine and4 ?_ | with_reducible refine and2 ?_))) | walk1)
  rename_i oc _ _ _ _ _ _ _ F N
  refine wpAny_noRaise ?_
  refine For_start ?_
  (first | ((with_reducible show wpAny _ _ (leaving _ _) _ _ _); k_dflt (refine' leave_raiseS ?k1 ?k0 ?k2 News.nil ?_; (case k0 => assumption); (case k1 => assumption); (case k2 => assumption); k_whole; intro h' t' R' _ U'; (try dsimp only at R' U' ⊢))) | ((with_reducible show wpAny _ _ (PySem.call _ _ _) _ _ _); first | ((with_reducible show wpAny _ _ (PySem.call (Value.builtin "len") _ _) _ _ _); k_dflt (refine' len_K ?k1 ?k2 ?_; (case k1 => k_asm); (case k2 => assumption))) | ((with_reducible show wpAny _ _ (PySem.call (Value.type _) _ _) _ _ _); k_dflt (refine' bytes_K ?k1 ?k2 ?k3 ?k4 ?k5 ?k6 ?_; (case k1 => k_asm); (case k2 => k_asm); (case k3 => assumption); (case k4 => assumption); (case k5 => assumption); (case k6 => rfl); intro h' t' k' st')) | ((with_reducible show wpAny _ _ (PySem.call (Value.ref _) _ _) _ _ _); ((with_reducible show wpAny _ _ (PySem.call (Value.ref 143) _ _) _ _ _); k_dflt (refine' b64_value_ctr ?k1 ?k2 ?k3 ?k4  ?_; (case k1 => exact Frag.In.keeps (by k_asm) (Fr.keep (by k_asm))); (case k2 => exact Top.keeps (by k_asm) (Fr.keep (by k_asm))); (case k3 => (((try simp only [Around.deeper]); omega))); (case k4 => (((try simp only [Around.deeper]); omega)));  intro t' h' tk' st'; (have F' := fr_after (by k_asm) st'); (have N' := news_after (by k_asm) st'); clear st'; (try dsimp only); (try k_sweep)))) | ((with_reducible show wpAny _ _ (PySem.call (Value.ref _) _ _) _ _ _); ((with_reducible show wpAny _ _ (PySem.call (Value.ref 136) _ _) _ _ _); k_dflt (refine' truth_ctr ?k1 ?k2 ?k3 ?k4  ?_; (case k1 => exact Frag.In.keeps (by k_asm) (Fr.keep (by k_asm))); (case k2 => exact Top.keeps (by k_asm) (Fr.keep (by k_asm))); (case k3 => (((try simp only [Around.deeper]); omega))); (case k4 => (((try simp only [Around.deeper]); omega)));  intro h' tk' st'; (have F' := fr_after (by k_asm) st'); (have N' := news_after (by k_asm) st'); clear st'; (try dsimp only); (try k_sweep)))) | ((with_reducible show wpAny _ _ (PySem.call (Value.ref _) _ _) _ _ _); ((with_reducible show wpAny _ _ (PySem.call (Value.ref 122) _ _) _ _ _); k_dflt (refine' abuffer_ctr ?k1 ?k2 ?k3 ?k4  ?_; (case k1 => exact Frag.In.keeps (by k_asm) (Fr.keep (by k_asm))); (case k2 => exact Top.keeps (by k_asm) (Fr.keep (by k_asm))); (case k3 => (((try simp only [Around.deeper]); omega))); (case k4 => (((try simp only [Around.deeper]); omega)));  intro h' tk' st'; (have F' := fr_after (by k_asm) st'); (have N' := news_after (by k_asm) st'); clear st'; (try dsimp only); (try k_sweep)))) | ((with_reducible show wpAny _ _ (PySem.call (Value.builtin "list.append") _ _) _ _ _); k_dflt (refine' append_K ?k1 ?k2 ?k3 ?_ ?z; (case k1 => k_asm); (case k2 => k_asm); (case k3 => k_upd); (case z => first | assumption | (simp only [Array.size_push]; omega)); intro h' F' N'; (try k_sweep)))) | ((with_reducible show wpAny _ _ (compareOp _ _ _) _ _ _); first | ((with_reducible show wpAny _ _ (compareOp CmpOp.NotEq (Value.int _ _) (Value.int _ _)) _ _ _); (with_reducible refine ne_T (by assumption) ?_)) | ((with_reducible show wpAny _ _ (compareOp CmpOp.Eq (Value.int _ _) (Value.int _ _)) _ _ _); (with_reducible refine eq_F (by assumption) ?_))) | ((with_reducible show wpAny _ _ (truthy (Value.int _ _)) _ _ _); (with_reducible refine tr_T (by assumption) ?_)) | ((with_reducible show wpAny _ _ (binaryOp _ _ _) _ _ _); first | ((with_reducible show wpAny _ _ (binaryOp Operator.BitOr (Value.int _ _) (Value.int _ _)) _ _ _); (first | ((with_reducible refine' or2 ?_ ?_ ?_ ?_); omega; omega; omega) | ((with_reducible refine' or4 ?_ ?_ ?_ ?_); omega; omega; omega) | ((with_reducible refine' or6 ?_ ?_ ?_ ?_); omega; omega; omega))) | ((with_reducible show wpAny _ _ (binaryOp Operator.RShift (Value.int _ _) (Value.int _ _)) _ _ _); (first | with_reducible refine shr4 ?_ | with_reducible refine shr2 ?_)) | ((with_reducible show wpAny _ _ (binaryOp Operator.BitAnd (Value.int _ _) (Value.int _ _)) _ _ _); (first | with_reducible refine and4 ?_ | with_reducible refine and2 ?_))) | walk1)
  refine loop_bytes (fun c : (List Value × Int × Int × Int) × Nat × Int × Tok × Tok × Tok × Tok => [(oc, W.listOf c.1.1.toArray c.2.1)])
    (fun c => [(Str.ofString "out", Value.ref oc), (Str.ofString "quad_pos", Value.int c.1.2.1 c.2.2.2.1), (Str.ofString "leftchar", Value.int c.1.2.2.1 c.2.2.2.2.1), (Str.ofString "pads", Value.int c.1.2.2.2 c.2.2.2.2.2.1), (Str.ofString "i", Value.int c.2.2.1 c.2.2.2.2.2.2), (Str.ofString "strict_mode", Value.bool st)])
    (fun i c => IntsAre c.1.1 (afold ((bI b).take i)).1 ∧ c.1.2 = (afold ((bI b).take i)).2) (([], 0, 0, 0), 0, 0, _, _, _, _) rfl rfl rfl F N ⟨rfl, rfl, rfl, rfl, rfl, rfl, trivial⟩ ⟨.nil, rfl⟩ ?turn ?done
  case turn =>
    rintro I i k t m₁ h tk1 oi ⟨⟨os', q, lc, pd⟩, cnt, iv, t1, t2, t3, t4⟩ hki hoff ⟨hio, hs⟩ F' N'
    dsimp only at F' N'
    have hsn := aI_take hki
    obtain ⟨hinv, hlen⟩ := afold_inv0 ((bI b).take i)
    have hso := fun e => hst e i k hki
    generalize afold ((bI b).take i) = c at *
    obtain ⟨os'', q', lc', pd'⟩ := c
    obtain ⟨hq, hlc, hpd, _⟩ := hinv
    simp only at hio hs hq hlc hpd hlen
    obtain ⟨rfl, rfl, rfl⟩ : q = q' ∧ lc = lc' ∧ pd = pd' := by simpa using hs
    have hI : @Ne Nat oc I := hoff.1
    have hI' : @Ne Nat I oc := Ne.symm hI
    have hz0 : os'.toArray.size + 10 ≤ sizeLine := by
      have e1 : os'.length = os''.length := hio.length
      have e2 : ((bI b).take i).length ≤ b.size := by simp [bI]; omega
      simp at hlen ⊢
      omega
    have hz : os'.toArray.size ≤ sizeLine := by omega
    clear F N hret hexc hst
    generalize hkk : (k.toNat : Int) = kk at *
    refine gen_post ?_
    intro R hR
    by_cases e1 : kk = 61
    · have hq2 : 0 ≤ q ∧ q ≤ 3 := by rcases hq with h | h | h | h <;> rw [h.1] <;> decide
      subst e1
      repeat ((fail_if_success (with_reducible show wpAny _ _ (exec (Stmt.If (Expr.BoolOp _ _ _) _ _ _) _) _ _ _)); (first | ((with_reducible show wpAny _ _ (leaving _ _) _ _ _); k_dflt (refine' leave_raiseS ?k1 ?k0 ?k2 News.nil ?_; (case k0 => assumption); (case k1 => assumption); (case k2 => assumption); k_whole; intro h' t' R' _ U'; (try dsimp only at R' U' ⊢))) | ((with_reducible show wpAny _ _ (PySem.call _ _ _) _ _ _); first | ((with_reducible show wpAny _ _ (PySem.call (Value.builtin "len") _ _) _ _ _); k_dflt (refine' len_K ?k1 ?k2 ?_; (case k1 => k_asm); (case k2 => assumption))) | ((with_reducible show wpAny _ _ (PySem.call (Value.type _) _ _) _ _ _); k_dflt (refine' bytes_K ?k1 ?k2 ?k3 ?k4 ?k5 ?k6 ?_; (case k1 => k_asm); (case k2 => k_asm); (case k3 => assumption); (case k4 => assumption); (case k5 => assumption); (case k6 => rfl); intro h' t' k' st')) | ((with_reducible show wpAny _ _ (PySem.call (Value.ref _) _ _) _ _ _); ((with_reducible show wpAny _ _ (PySem.call (Value.ref 143) _ _) _ _ _); k_dflt (refine' b64_value_ctr ?k1 ?k2 ?k3 ?k4  ?_; (case k1 => exact Frag.In.keeps (by k_asm) (Fr.keep (by k_asm))); (case k2 => exact Top.keeps (by k_asm) (Fr.keep (by k_asm))); (case k3 => (((try simp only [Around.deeper]); omega))); (case k4 => (((try simp only [Around.deeper]); omega)));  intro t' h' tk' st'; (have F' := fr_after (by k_asm) st'); (have N' := news_after (by k_asm) st'); clear st'; (try dsimp only); (try k_sweep)))) | ((with_reducible show wpAny _ _ (PySem.call (Value.ref _) _ _) _ _ _); ((with_reducible show wpAny _ _ (PySem.call (Value.ref 136) _ _) _ _ _); k_dflt (refine' truth_ctr ?k1 ?k2 ?k3 ?k4  ?_; (case k1 => exact Frag.In.keeps (by k_asm) (Fr.keep (by k_asm))); (case k2 => exact Top.keeps (by k_asm) (Fr.keep (by k_asm))); (case k3 => (((try simp only [Around.deeper]); omega))); (case k4 => (((try simp only [Around.deeper]); omega)));  intro h' tk' st'; (have F' := fr_after (by k_asm) st'); (have N' := news_after (by k_asm) st'); clear st'; (try dsimp only); (try k_sweep)))) | ((with_reducible show wpAny _ _ (PySem.call (Value.ref _) _ _) _ _ _); ((with_reducible show wpAny _ _ (PySem.call (Value.ref 122) _ _) _ _ _); k_dflt (refine' abuffer_ctr ?k1 ?k2 ?k3 ?k4  ?_; (case k1 => exact Frag.In.keeps (by k_asm) (Fr.keep (by k_asm))); (case k2 => exact Top.keeps (by k_asm) (Fr.keep (by k_asm))); (case k3 => (((try simp only [Around.deeper]); omega))); (case k4 => (((try simp only [Around.deeper]); omega)));  intro h' tk' st'; (have F' := fr_after (by k_asm) st'); (have N' := news_after (by k_asm) st'); clear st'; (try dsimp only); (try k_sweep)))) | ((with_reducible show wpAny _ _ (PySem.call (Value.builtin "list.append") _ _) _ _ _); k_dflt (refine' append_K ?k1 ?k2 ?k3 ?_ ?z; (case k1 => k_asm); (case k2 => k_asm); (case k3 => k_upd); (case z => first | assumption | (simp only [Array.size_push]; omega)); intro h' F' N'; (try k_sweep)))) | ((with_reducible show wpAny _ _ (compareOp _ _ _) _ _ _); first | ((with_reducible show wpAny _ _ (compareOp CmpOp.NotEq (Value.int _ _) (Value.int _ _)) _ _ _); (with_reducible refine ne_T (by assumption) ?_)) | ((with_reducible show wpAny _ _ (compareOp CmpOp.Eq (Value.int _ _) (Value.int _ _)) _ _ _); (with_reducible refine eq_F (by assumption) ?_))) | ((with_reducible show wpAny _ _ (truthy (Value.int _ _)) _ _ _); (with_reducible refine tr_T (by assumption) ?_)) | ((with_reducible show wpAny _ _ (binaryOp _ _ _) _ _ _); first | ((with_reducible show wpAny _ _ (binaryOp Operator.BitOr (Value.int _ _) (Value.int _ _)) _ _ _); (first | ((with_reducible refine' or2 ?_ ?_ ?_ ?_); omega; omega; omega) | ((with_reducible refine' or4 ?_ ?_ ?_ ?_); omega; omega; omega) | ((with_reducible refine' or6 ?_ ?_ ?_ ?_); omega; omega; omega))) | ((with_reducible show wpAny _ _ (binaryOp Operator.RShift (Value.int _ _) (Value.int _ _)) _ _ _); (first | with_reducible refine shr4 ?_ | with_reducible refine shr2 ?_)) | ((with_reducible show wpAny _ _ (binaryOp Operator.BitAnd (Value.int _ _) (Value.int _ _)) _ _ _); (first | with_reducible refine and4 ?_ | with_reducible refine and2 ?_))) | walk1))
      cases st
      · clear hso
        (repeat' (first | ((with_reducible show wpAny _ _ (leaving _ _) _ _ _); k_dflt (refine' leave_raiseS ?k1 ?k0 ?k2 News.nil ?_; (case k0 => assumption); (case k1 => assumption); (case k2 => assumption); k_whole; intro h' t' R' _ U'; (try dsimp only at R' U' ⊢))) | ((with_reducible show wpAny _ _ (PySem.call _ _ _) _ _ _); first | ((with_reducible show wpAny _ _ (PySem.call (Value.builtin "len") _ _) _ _ _); k_dflt (refine' len_K ?k1 ?k2 ?_; (case k1 => k_asm); (case k2 => assumption))) | ((with_reducible show wpAny _ _ (PySem.call (Value.type _) _ _) _ _ _); k_dflt (refine' bytes_K ?k1 ?k2 ?k3 ?k4 ?k5 ?k6 ?_; (case k1 => k_asm); (case k2 => k_asm); (case k3 => assumption); (case k4 => assumption); (case k5 => assumption); (case k6 => rfl); intro h' t' k' st')) | ((with_reducible show wpAny _ _ (PySem.call (Value.ref _) _ _) _ _ _); ((with_reducible show wpAny _ _ (PySem.call (Value.ref 143) _ _) _ _ _); k_dflt (refine' b64_value_ctr ?k1 ?k2 ?k3 ?k4  ?_; (case k1 => exact Frag.In.keeps (by k_asm) (Fr.keep (by k_asm))); (case k2 => exact Top.keeps (by k_asm) (Fr.keep (by k_asm))); (case k3 => (((try simp only [Around.deeper]); omega))); (case k4 => (((try simp only [Around.deeper]); omega)));  intro t' h' tk' st'; (have F' := fr_after (by k_asm) st'); (have N' := news_after (by k_asm) st'); clear st'; (try dsimp only); (try k_sweep)))) | ((with_reducible show wpAny _ _ (PySem.call (Value.ref _) _ _) _ _ _); ((with_reducible show wpAny _ _ (PySem.call (Value.ref 136) _ _) _ _ _); k_dflt (refine' truth_ctr ?k1 ?k2 ?k3 ?k4  ?_; (case k1 => exact Frag.In.keeps (by k_asm) (Fr.keep (by k_asm))); (case k2 => exact Top.keeps (by k_asm) (Fr.keep (by k_asm))); (case k3 => (((try simp only [Around.deeper]); omega))); (case k4 => (((try simp only [Around.deeper]); omega)));  intro h' tk' st'; (have F' := fr_after (by k_asm) st'); (have N' := news_after (by k_asm) st'); clear st'; (try dsimp only); (try k_sweep)))) | ((with_reducible show wpAny _ _ (PySem.call (Value.ref _) _ _) _ _ _); ((with_reducible show wpAny _ _ (PySem.call (Value.ref 122) _ _) _ _ _); k_dflt (refine' abuffer_ctr ?k1 ?k2 ?k3 ?k4  ?_; (case k1 => exact Frag.In.keeps (by k_asm) (Fr.keep (by k_asm))); (case k2 => exact Top.keeps (by k_asm) (Fr.keep (by k_asm))); (case k3 => (((try simp only [Around.deeper]); omega))); (case k4 => (((try simp only [Around.deeper]); omega)));  intro h' tk' st'; (have F' := fr_after (by k_asm) st'); (have N' := news_after (by k_asm) st'); clear st'; (try dsimp only); (try k_sweep)))) | ((with_reducible show wpAny _ _ (PySem.call (Value.builtin "list.append") _ _) _ _ _); k_dflt (refine' append_K ?k1 ?k2 ?k3 ?_ ?z; (case k1 => k_asm); (case k2 => k_asm); (case k3 => k_upd); (case z => first | assumption | (simp only [Array.size_push]; omega)); intro h' F' N'; (try k_sweep)))) | ((with_reducible show wpAny _ _ (compareOp _ _ _) _ _ _); first | ((with_reducible show wpAny _ _ (compareOp CmpOp.NotEq (Value.int _ _) (Value.int _ _)) _ _ _); (with_reducible refine ne_T (by assumption) ?_)) | ((with_reducible show wpAny _ _ (compareOp CmpOp.Eq (Value.int _ _) (Value.int _ _)) _ _ _); (with_reducible refine eq_F (by assumption) ?_))) | ((with_reducible show wpAny _ _ (truthy (Value.int _ _)) _ _ _); (with_reducible refine tr_T (by assumption) ?_)) | ((with_reducible show wpAny _ _ (binaryOp _ _ _) _ _ _); first | ((with_reducible show wpAny _ _ (binaryOp Operator.BitOr (Value.int _ _) (Value.int _ _)) _ _ _); (first | ((with_reducible refine' or2 ?_ ?_ ?_ ?_); omega; omega; omega) | ((with_reducible refine' or4 ?_ ?_ ?_ ?_); omega; omega; omega) | ((with_reducible refine' or6 ?_ ?_ ?_ ?_); omega; omega; omega))) | ((with_reducible show wpAny _ _ (binaryOp Operator.RShift (Value.int _ _) (Value.int _ _)) _ _ _); (first | with_reducible refine shr4 ?_ | with_reducible refine shr2 ?_)) | ((with_reducible show wpAny _ _ (binaryOp Operator.BitAnd (Value.int _ _) (Value.int _ _)) _ _ _); (first | with_reducible refine and4 ?_ | with_reducible refine and2 ?_))) | (k_unfold; (try dsimp only)) | (k_end; wrow_close) | walk1 | (dsimp only; walk1) | (leave1; (try dsimp only))))
        all_goals (refine hR _ _ ?_; rename Fr _ _ _ _ => F; rename News _ _ _ _ => N; refine ⟨((os', q, lc, pd + 1), _, _, _, _, _, _), _, _, _, rfl, F, N, ⟨hI, trivial⟩, ⟨rfl, rfl, rfl, rfl, rfl, rfl, trivial⟩, ?_⟩; rw [hsn]; exact ⟨hio, rfl⟩)
      · rcases hso rfl with ⟨_, z1, z2⟩ | ⟨z, _⟩
        · (repeat' (first | ((with_reducible show wpAny _ _ (leaving _ _) _ _ _); k_dflt (refine' leave_raiseS ?k1 ?k0 ?k2 News.nil ?_; (case k0 => assumption); (case k1 => assumption); (case k2 => assumption); k_whole; intro h' t' R' _ U'; (try dsimp only at R' U' ⊢))) | ((with_reducible show wpAny _ _ (PySem.call _ _ _) _ _ _); first | ((with_reducible show wpAny _ _ (PySem.call (Value.builtin "len") _ _) _ _ _); k_dflt (refine' len_K ?k1 ?k2 ?_; (case k1 => k_asm); (case k2 => assumption))) | ((with_reducible show wpAny _ _ (PySem.call (Value.type _) _ _) _ _ _); k_dflt (refine' bytes_K ?k1 ?k2 ?k3 ?k4 ?k5 ?k6 ?_; (case k1 => k_asm); (case k2 => k_asm); (case k3 => assumption); (case k4 => assumption); (case k5 => assumption); (case k6 => rfl); intro h' t' k' st')) | ((with_reducible show wpAny _ _ (PySem.call (Value.ref _) _ _) _ _ _); ((with_reducible show wpAny _ _ (PySem.call (Value.ref 143) _ _) _ _ _); k_dflt (refine' b64_value_ctr ?k1 ?k2 ?k3 ?k4  ?_; (case k1 => exact Frag.In.keeps (by k_asm) (Fr.keep (by k_asm))); (case k2 => exact Top.keeps (by k_asm) (Fr.keep (by k_asm))); (case k3 => (((try simp only [Around.deeper]); omega))); (case k4 => (((try simp only [Around.deeper]); omega)));  intro t' h' tk' st'; (have F' := fr_after (by k_asm) st'); (have N' := news_after (by k_asm) st'); clear st'; (try dsimp only); (try k_sweep)))) | ((with_reducible show wpAny _ _ (PySem.call (Value.ref _) _ _) _ _ _); ((with_reducible show wpAny _ _ (PySem.call (Value.ref 136) _ _) _ _ _); k_dflt (refine' truth_ctr ?k1 ?k2 ?k3 ?k4  ?_; (case k1 => exact Frag.In.keeps (by k_asm) (Fr.keep (by k_asm))); (case k2 => exact Top.keeps (by k_asm) (Fr.keep (by k_asm))); (case k3 => (((try simp only [Around.deeper]); omega))); (case k4 => (((try simp only [Around.deeper]); omega)));  intro h' tk' st'; (have F' := fr_after (by k_asm) st'); (have N' := news_after (by k_asm) st'); clear st'; (try dsimp only); (try k_sweep)))) | ((with_reducible show wpAny _ _ (PySem.call (Value.ref _) _ _) _ _ _); ((with_reducible show wpAny _ _ (PySem.call (Value.ref 122) _ _) _ _ _); k_dflt (refine' abuffer_ctr ?k1 ?k2 ?k3 ?k4  ?_; (case k1 => exact Frag.In.keeps (by k_asm) (Fr.keep (by k_asm))); (case k2 => exact Top.keeps (by k_asm) (Fr.keep (by k_asm))); (case k3 => (((try simp only [Around.deeper]); omega))); (case k4 => (((try simp only [Around.deeper]); omega)));  intro h' tk' st'; (have F' := fr_after (by k_asm) st'); (have N' := news_after (by k_asm) st'); clear st'; (try dsimp only); (try k_sweep)))) | ((with_reducible show wpAny _ _ (PySem.call (Value.builtin "list.append") _ _) _ _ _); k_dflt (refine' append_K ?k1 ?k2 ?k3 ?_ ?z; (case k1 => k_asm); (case k2 => k_asm); (case k3 => k_upd); (case z => first | assumption | (simp only [Array.size_push]; omega)); intro h' F' N'; (try k_sweep)))) | ((with_reducible show wpAny _ _ (compareOp _ _ _) _ _ _); first | ((with_reducible show wpAny _ _ (compareOp CmpOp.NotEq (Value.int _ _) (Value.int _ _)) _ _ _); (with_reducible refine ne_T (by assumption) ?_)) | ((with_reducible show wpAny _ _ (compareOp CmpOp.Eq (Value.int _ _) (Value.int _ _)) _ _ _); (with_reducible refine eq_F (by assumption) ?_))) | ((with_reducible show wpAny _ _ (truthy (Value.int _ _)) _ _ _); (with_reducible refine tr_T (by assumption) ?_)) | ((with_reducible show wpAny _ _ (binaryOp _ _ _) _ _ _); first | ((with_reducible show wpAny _ _ (binaryOp Operator.BitOr (Value.int _ _) (Value.int _ _)) _ _ _); (first | ((with_reducible refine' or2 ?_ ?_ ?_ ?_); omega; omega; omega) | ((with_reducible refine' or4 ?_ ?_ ?_ ?_); omega; omega; omega) | ((with_reducible refine' or6 ?_ ?_ ?_ ?_); omega; omega; omega))) | ((with_reducible show wpAny _ _ (binaryOp Operator.RShift (Value.int _ _) (Value.int _ _)) _ _ _); (first | with_reducible refine shr4 ?_ | with_reducible refine shr2 ?_)) | ((with_reducible show wpAny _ _ (binaryOp Operator.BitAnd (Value.int _ _) (Value.int _ _)) _ _ _); (first | with_reducible refine and4 ?_ | with_reducible refine and2 ?_))) | (k_unfold; (try dsimp only)) | (k_end; wrow_close) | walk1 | (dsimp only; walk1) | (leave1; (try dsimp only))))
          all_goals (refine hR _ _ ?_; rename Fr _ _ _ _ => F; rename News _ _ _ _ => N; refine ⟨((os', q, lc, pd + 1), _, _, _, _, _, _), _, _, _, rfl, F, N, ⟨hI, trivial⟩, ⟨rfl, rfl, rfl, rfl, rfl, rfl, trivial⟩, ?_⟩; rw [hsn]; exact ⟨hio, rfl⟩)
        · exact absurd rfl z
    · have hv := b64v_nonneg kk
      repeat ((fail_if_success (with_reducible show wpAny _ _ (exec (Stmt.If (Expr.Compare _ [CmpOp.GtE] _ _) _ _ _) _) _ _ _)); (first | ((with_reducible show wpAny _ _ (leaving _ _) _ _ _); k_dflt (refine' leave_raiseS ?k1 ?k0 ?k2 News.nil ?_; (case k0 => assumption); (case k1 => assumption); (case k2 => assumption); k_whole; intro h' t' R' _ U'; (try dsimp only at R' U' ⊢))) | ((with_reducible show wpAny _ _ (PySem.call _ _ _) _ _ _); first | ((with_reducible show wpAny _ _ (PySem.call (Value.builtin "len") _ _) _ _ _); k_dflt (refine' len_K ?k1 ?k2 ?_; (case k1 => k_asm); (case k2 => assumption))) | ((with_reducible show wpAny _ _ (PySem.call (Value.type _) _ _) _ _ _); k_dflt (refine' bytes_K ?k1 ?k2 ?k3 ?k4 ?k5 ?k6 ?_; (case k1 => k_asm); (case k2 => k_asm); (case k3 => assumption); (case k4 => assumption); (case k5 => assumption); (case k6 => rfl); intro h' t' k' st')) | ((with_reducible show wpAny _ _ (PySem.call (Value.ref _) _ _) _ _ _); ((with_reducible show wpAny _ _ (PySem.call (Value.ref 143) _ _) _ _ _); k_dflt (refine' b64_value_ctr ?k1 ?k2 ?k3 ?k4  ?_; (case k1 => exact Frag.In.keeps (by k_asm) (Fr.keep (by k_asm))); (case k2 => exact Top.keeps (by k_asm) (Fr.keep (by k_asm))); (case k3 => (((try simp only [Around.deeper]); omega))); (case k4 => (((try simp only [Around.deeper]); omega)));  intro t' h' tk' st'; (have F' := fr_after (by k_asm) st'); (have N' := news_after (by k_asm) st'); clear st'; (try dsimp only); (try k_sweep)))) | ((with_reducible show wpAny _ _ (PySem.call (Value.ref _) _ _) _ _ _); ((with_reducible show wpAny _ _ (PySem.call (Value.ref 136) _ _) _ _ _); k_dflt (refine' truth_ctr ?k1 ?k2 ?k3 ?k4  ?_; (case k1 => exact Frag.In.keeps (by k_asm) (Fr.keep (by k_asm))); (case k2 => exact Top.keeps (by k_asm) (Fr.keep (by k_asm))); (case k3 => (((try simp only [Around.deeper]); omega))); (case k4 => (((try simp only [Around.deeper]); omega)));  intro h' tk' st'; (have F' := fr_after (by k_asm) st'); (have N' := news_after (by k_asm) st'); clear st'; (try dsimp only); (try k_sweep)))) | ((with_reducible show wpAny _ _ (PySem.call (Value.ref _) _ _) _ _ _); ((with_reducible show wpAny _ _ (PySem.call (Value.ref 122) _ _) _ _ _); k_dflt (refine' abuffer_ctr ?k1 ?k2 ?k3 ?k4  ?_; (case k1 => exact Frag.In.keeps (by k_asm) (Fr.keep (by k_asm))); (case k2 => exact Top.keeps (by k_asm) (Fr.keep (by k_asm))); (case k3 => (((try simp only [Around.deeper]); omega))); (case k4 => (((try simp only [Around.deeper]); omega)));  intro h' tk' st'; (have F' := fr_after (by k_asm) st'); (have N' := news_after (by k_asm) st'); clear st'; (try dsimp only); (try k_sweep)))) | ((with_reducible show wpAny _ _ (PySem.call (Value.builtin "list.append") _ _) _ _ _); k_dflt (refine' append_K ?k1 ?k2 ?k3 ?_ ?z; (case k1 => k_asm); (case k2 => k_asm); (case k3 => k_upd); (case z => first | assumption | (simp only [Array.size_push]; omega)); intro h' F' N'; (try k_sweep)))) | ((with_reducible show wpAny _ _ (compareOp _ _ _) _ _ _); first | ((with_reducible show wpAny _ _ (compareOp CmpOp.NotEq (Value.int _ _) (Value.int _ _)) _ _ _); (with_reducible refine ne_T (by assumption) ?_)) | ((with_reducible show wpAny _ _ (compareOp CmpOp.Eq (Value.int _ _) (Value.int _ _)) _ _ _); (with_reducible refine eq_F (by assumption) ?_))) | ((with_reducible show wpAny _ _ (truthy (Value.int _ _)) _ _ _); (with_reducible refine tr_T (by assumption) ?_)) | ((with_reducible show wpAny _ _ (binaryOp _ _ _) _ _ _); first | ((with_reducible show wpAny _ _ (binaryOp Operator.BitOr (Value.int _ _) (Value.int _ _)) _ _ _); (first | ((with_reducible refine' or2 ?_ ?_ ?_ ?_); omega; omega; omega) | ((with_reducible refine' or4 ?_ ?_ ?_ ?_); omega; omega; omega) | ((with_reducible refine' or6 ?_ ?_ ?_ ?_); omega; omega; omega))) | ((with_reducible show wpAny _ _ (binaryOp Operator.RShift (Value.int _ _) (Value.int _ _)) _ _ _); (first | with_reducible refine shr4 ?_ | with_reducible refine shr2 ?_)) | ((with_reducible show wpAny _ _ (binaryOp Operator.BitAnd (Value.int _ _) (Value.int _ _)) _ _ _); (first | with_reducible refine and4 ?_ | with_reducible refine and2 ?_))) | walk1))
      by_cases e2 : 64 ≤ b64v kk
      · have : st = false := by
          cases st with
          | false => rfl
          | true => rcases hso rfl with ⟨z, _⟩ | ⟨_, z, _⟩ <;> omega
        subst this
        clear hso
        (repeat' (first | ((with_reducible show wpAny _ _ (leaving _ _) _ _ _); k_dflt (refine' leave_raiseS ?k1 ?k0 ?k2 News.nil ?_; (case k0 => assumption); (case k1 => assumption); (case k2 => assumption); k_whole; intro h' t' R' _ U'; (try dsimp only at R' U' ⊢))) | ((with_reducible show wpAny _ _ (PySem.call _ _ _) _ _ _); first | ((with_reducible show wpAny _ _ (PySem.call (Value.builtin "len") _ _) _ _ _); k_dflt (refine' len_K ?k1 ?k2 ?_; (case k1 => k_asm); (case k2 => assumption))) | ((with_reducible show wpAny _ _ (PySem.call (Value.type _) _ _) _ _ _); k_dflt (refine' bytes_K ?k1 ?k2 ?k3 ?k4 ?k5 ?k6 ?_; (case k1 => k_asm); (case k2 => k_asm); (case k3 => assumption); (case k4 => assumption); (case k5 => assumption); (case k6 => rfl); intro h' t' k' st')) | ((with_reducible show wpAny _ _ (PySem.call (Value.ref _) _ _) _ _ _); ((with_reducible show wpAny _ _ (PySem.call (Value.ref 143) _ _) _ _ _); k_dflt (refine' b64_value_ctr ?k1 ?k2 ?k3 ?k4  ?_; (case k1 => exact Frag.In.keeps (by k_asm) (Fr.keep (by k_asm))); (case k2 => exact Top.keeps (by k_asm) (Fr.keep (by k_asm))); (case k3 => (((try simp only [Around.deeper]); omega))); (case k4 => (((try simp only [Around.deeper]); omega)));  intro t' h' tk' st'; (have F' := fr_after (by k_asm) st'); (have N' := news_after (by k_asm) st'); clear st'; (try dsimp only); (try k_sweep)))) | ((with_reducible show wpAny _ _ (PySem.call (Value.ref _) _ _) _ _ _); ((with_reducible show wpAny _ _ (PySem.call (Value.ref 136) _ _) _ _ _); k_dflt (refine' truth_ctr ?k1 ?k2 ?k3 ?k4  ?_; (case k1 => exact Frag.In.keeps (by k_asm) (Fr.keep (by k_asm))); (case k2 => exact Top.keeps (by k_asm) (Fr.keep (by k_asm))); (case k3 => (((try simp only [Around.deeper]); omega))); (case k4 => (((try simp only [Around.deeper]); omega)));  intro h' tk' st'; (have F' := fr_after (by k_asm) st'); (have N' := news_after (by k_asm) st'); clear st'; (try dsimp only); (try k_sweep)))) | ((with_reducible show wpAny _ _ (PySem.call (Value.ref _) _ _) _ _ _); ((with_reducible show wpAny _ _ (PySem.call (Value.ref 122) _ _) _ _ _); k_dflt (refine' abuffer_ctr ?k1 ?k2 ?k3 ?k4  ?_; (case k1 => exact Frag.In.keeps (by k_asm) (Fr.keep (by k_asm))); (case k2 => exact Top.keeps (by k_asm) (Fr.keep (by k_asm))); (case k3 => (((try simp only [Around.deeper]); omega))); (case k4 => (((try simp only [Around.deeper]); omega)));  intro h' tk' st'; (have F' := fr_after (by k_asm) st'); (have N' := news_after (by k_asm) st'); clear st'; (try dsimp only); (try k_sweep)))) | ((with_reducible show wpAny _ _ (PySem.call (Value.builtin "list.append") _ _) _ _ _); k_dflt (refine' append_K ?k1 ?k2 ?k3 ?_ ?z; (case k1 => k_asm); (case k2 => k_asm); (case k3 => k_upd); (case z => first | assumption | (simp only [Array.size_push]; omega)); intro h' F' N'; (try k_sweep)))) | ((with_reducible show wpAny _ _ (compareOp _ _ _) _ _ _); first | ((with_reducible show wpAny _ _ (compareOp CmpOp.NotEq (Value.int _ _) (Value.int _ _)) _ _ _); (with_reducible refine ne_T (by assumption) ?_)) | ((with_reducible show wpAny _ _ (compareOp CmpOp.Eq (Value.int _ _) (Value.int _ _)) _ _ _); (with_reducible refine eq_F (by assumption) ?_))) | ((with_reducible show wpAny _ _ (truthy (Value.int _ _)) _ _ _); (with_reducible refine tr_T (by assumption) ?_)) | ((with_reducible show wpAny _ _ (binaryOp _ _ _) _ _ _); first | ((with_reducible show wpAny _ _ (binaryOp Operator.BitOr (Value.int _ _) (Value.int _ _)) _ _ _); (first | ((with_reducible refine' or2 ?_ ?_ ?_ ?_); omega; omega; omega) | ((with_reducible refine' or4 ?_ ?_ ?_ ?_); omega; omega; omega) | ((with_reducible refine' or6 ?_ ?_ ?_ ?_); omega; omega; omega))) | ((with_reducible show wpAny _ _ (binaryOp Operator.RShift (Value.int _ _) (Value.int _ _)) _ _ _); (first | with_reducible refine shr4 ?_ | with_reducible refine shr2 ?_)) | ((with_reducible show wpAny _ _ (binaryOp Operator.BitAnd (Value.int _ _) (Value.int _ _)) _ _ _); (first | with_reducible refine and4 ?_ | with_reducible refine and2 ?_))) | (k_unfold; (try dsimp only)) | (k_end; wrow_close) | walk1 | (dsimp only; walk1) | (leave1; (try dsimp only))))
        all_goals (try (exfalso; omega))
        all_goals (refine hR _ _ ?_; rename Fr _ _ _ _ => F; rename News _ _ _ _ => N; refine ⟨((os', q, lc, pd), _, _, _, _, _, _), _, _, _, rfl, F, N, ⟨hI, trivial⟩, ⟨rfl, rfl, rfl, rfl, rfl, rfl, trivial⟩, ?_⟩; rw [hsn]; refine ⟨?_, ?_⟩ <;> simp only [astep, if_neg e1, if_pos e2]; exact hio)
      · have e2' : b64v kk < 64 := by omega
        have hps : pd = 0 ∨ (pd ≠ 0 ∧ st = false) := by
          rcases Decidable.em (pd = 0) with z | z
          · exact .inl z
          · refine .inr ⟨z, ?_⟩
            cases st with
            | false => rfl
            | true => exact (hso rfl).elim (fun y => absurd y.1 e1) (fun y => absurd y.2.2 z)
        clear hso
        have fin : ∀ (o₂ : List Value) (ns : List Int) (q₂ l₂ : Int) cnt₂ iv₂ u₁ u₂ u₃ u₄ h₂ tk₂ m₂, astep (os'', q, lc, pd) kk = (ns, q₂, l₂, 0) → IntsAre o₂ ns →
            Fr h₀ L h₂ m₂ → News h₀ L h₂ [(I, oi), (oc, W.listOf o₂.toArray cnt₂)] →
            Bd m₂ [(Str.ofString "out", Value.ref oc), (Str.ofString "quad_pos", Value.int q₂ u₁), (Str.ofString "leftchar", Value.int l₂ u₂), (Str.ofString "pads", Value.int 0 u₃), (Str.ofString "i", Value.int iv₂ u₄), (Str.ofString "strict_mode", Value.bool st)] →
            StEnd (fun c : (List Value × Int × Int × Int) × Nat × Int × Tok × Tok × Tok × Tok => [(oc, W.listOf c.1.1.toArray c.2.1)])
              (fun c => [(Str.ofString "out", Value.ref oc), (Str.ofString "quad_pos", Value.int c.1.2.1 c.2.2.2.1), (Str.ofString "leftchar", Value.int c.1.2.2.1 c.2.2.2.2.1), (Str.ofString "pads", Value.int c.1.2.2.2 c.2.2.2.2.2.1), (Str.ofString "i", Value.int c.2.2.1 c.2.2.2.2.2.2), (Str.ofString "strict_mode", Value.bool st)])
              (fun c => IntsAre c.1.1 (afold ((bI b).take (i + 1))).1 ∧ c.1.2 = (afold ((bI b).take (i + 1))).2) h₀ L I oi { heap := h, gens := gs, drawn := dr, toks := tk1, os := os } { heap := h₂, gens := gs, drawn := dr, toks := tk₂, os := os } := by
          intro o₂ ns q₂ l₂ cnt₂ iv₂ u₁ u₂ u₃ u₄ h₂ tk₂ m₂ ea eo F N B
          exact ⟨((o₂, q₂, l₂, 0), cnt₂, iv₂, u₁, u₂, u₃, u₄), _, _, _, rfl, F, N, ⟨hI, trivial⟩, B, by rw [hsn, ea]; exact ⟨eo, rfl⟩⟩
        repeat ((fail_if_success (with_reducible show wpAny _ _ (isTrue (Expr.BoolOp _ [Expr.Name (Str.ofString "pads") _, _] _) _ _) _ _ _)); (first | ((with_reducible show wpAny _ _ (leaving _ _) _ _ _); k_dflt (refine' leave_raiseS ?k1 ?k0 ?k2 News.nil ?_; (case k0 => assumption); (case k1 => assumption); (case k2 => assumption); k_whole; intro h' t' R' _ U'; (try dsimp only at R' U' ⊢))) | ((with_reducible show wpAny _ _ (PySem.call _ _ _) _ _ _); first | ((with_reducible show wpAny _ _ (PySem.call (Value.builtin "len") _ _) _ _ _); k_dflt (refine' len_K ?k1 ?k2 ?_; (case k1 => k_asm); (case k2 => assumption))) | ((with_reducible show wpAny _ _ (PySem.call (Value.type _) _ _) _ _ _); k_dflt (refine' bytes_K ?k1 ?k2 ?k3 ?k4 ?k5 ?k6 ?_; (case k1 => k_asm); (case k2 => k_asm); (case k3 => assumption); (case k4 => assumption); (case k5 => assumption); (case k6 => rfl); intro h' t' k' st')) | ((with_reducible show wpAny _ _ (PySem.call (Value.ref _) _ _) _ _ _); ((with_reducible show wpAny _ _ (PySem.call (Value.ref 143) _ _) _ _ _); k_dflt (refine' b64_value_ctr ?k1 ?k2 ?k3 ?k4  ?_; (case k1 => exact Frag.In.keeps (by k_asm) (Fr.keep (by k_asm))); (case k2 => exact Top.keeps (by k_asm) (Fr.keep (by k_asm))); (case k3 => (((try simp only [Around.deeper]); omega))); (case k4 => (((try simp only [Around.deeper]); omega)));  intro t' h' tk' st'; (have F' := fr_after (by k_asm) st'); (have N' := news_after (by k_asm) st'); clear st'; (try dsimp only); (try k_sweep)))) | ((with_reducible show wpAny _ _ (PySem.call (Value.ref _) _ _) _ _ _); ((with_reducible show wpAny _ _ (PySem.call (Value.ref 136) _ _) _ _ _); k_dflt (refine' truth_ctr ?k1 ?k2 ?k3 ?k4  ?_; (case k1 => exact Frag.In.keeps (by k_asm) (Fr.keep (by k_asm))); (case k2 => exact Top.keeps (by k_asm) (Fr.keep (by k_asm))); (case k3 => (((try simp only [Around.deeper]); omega))); (case k4 => (((try simp only [Around.deeper]); omega)));  intro h' tk' st'; (have F' := fr_after (by k_asm) st'); (have N' := news_after (by k_asm) st'); clear st'; (try dsimp only); (try k_sweep)))) | ((with_reducible show wpAny _ _ (PySem.call (Value.ref _) _ _) _ _ _); ((with_reducible show wpAny _ _ (PySem.call (Value.ref 122) _ _) _ _ _); k_dflt (refine' abuffer_ctr ?k1 ?k2 ?k3 ?k4  ?_; (case k1 => exact Frag.In.keeps (by k_asm) (Fr.keep (by k_asm))); (case k2 => exact Top.keeps (by k_asm) (Fr.keep (by k_asm))); (case k3 => (((try simp only [Around.deeper]); omega))); (case k4 => (((try simp only [Around.deeper]); omega)));  intro h' tk' st'; (have F' := fr_after (by k_asm) st'); (have N' := news_after (by k_asm) st'); clear st'; (try dsimp only); (try k_sweep)))) | ((with_reducible show wpAny _ _ (PySem.call (Value.builtin "list.append") _ _) _ _ _); k_dflt (refine' append_K ?k1 ?k2 ?k3 ?_ ?z; (case k1 => k_asm); (case k2 => k_asm); (case k3 => k_upd); (case z => first | assumption | (simp only [Array.size_push]; omega)); intro h' F' N'; (try k_sweep)))) | ((with_reducible show wpAny _ _ (compareOp _ _ _) _ _ _); first | ((with_reducible show wpAny _ _ (compareOp CmpOp.NotEq (Value.int _ _) (Value.int _ _)) _ _ _); (with_reducible refine ne_T (by assumption) ?_)) | ((with_reducible show wpAny _ _ (compareOp CmpOp.Eq (Value.int _ _) (Value.int _ _)) _ _ _); (with_reducible refine eq_F (by assumption) ?_))) | ((with_reducible show wpAny _ _ (truthy (Value.int _ _)) _ _ _); (with_reducible refine tr_T (by assumption) ?_)) | ((with_reducible show wpAny _ _ (binaryOp _ _ _) _ _ _); first | ((with_reducible show wpAny _ _ (binaryOp Operator.BitOr (Value.int _ _) (Value.int _ _)) _ _ _); (first | ((with_reducible refine' or2 ?_ ?_ ?_ ?_); omega; omega; omega) | ((with_reducible refine' or4 ?_ ?_ ?_ ?_); omega; omega; omega) | ((with_reducible refine' or6 ?_ ?_ ?_ ?_); omega; omega; omega))) | ((with_reducible show wpAny _ _ (binaryOp Operator.RShift (Value.int _ _) (Value.int _ _)) _ _ _); (first | with_reducible refine shr4 ?_ | with_reducible refine shr2 ?_)) | ((with_reducible show wpAny _ _ (binaryOp Operator.BitAnd (Value.int _ _) (Value.int _ _)) _ _ _); (first | with_reducible refine and4 ?_ | with_reducible refine and2 ?_))) | walk1))
        refine is_false ?_ ?_
        · intro R' hR'
          clear fin hR
          rcases hps with rfl | ⟨z, rfl⟩
          all_goals (repeat' (first | ((with_reducible show wpAny _ _ (leaving _ _) _ _ _); k_dflt (refine' leave_raiseS ?k1 ?k0 ?k2 News.nil ?_; (case k0 => assumption); (case k1 => assumption); (case k2 => assumption); k_whole; intro h' t' R' _ U'; (try dsimp only at R' U' ⊢))) | ((with_reducible show wpAny _ _ (PySem.call _ _ _) _ _ _); first | ((with_reducible show wpAny _ _ (PySem.call (Value.builtin "len") _ _) _ _ _); k_dflt (refine' len_K ?k1 ?k2 ?_; (case k1 => k_asm); (case k2 => assumption))) | ((with_reducible show wpAny _ _ (PySem.call (Value.type _) _ _) _ _ _); k_dflt (refine' bytes_K ?k1 ?k2 ?k3 ?k4 ?k5 ?k6 ?_; (case k1 => k_asm); (case k2 => k_asm); (case k3 => assumption); (case k4 => assumption); (case k5 => assumption); (case k6 => rfl); intro h' t' k' st')) | ((with_reducible show wpAny _ _ (PySem.call (Value.ref _) _ _) _ _ _); ((with_reducible show wpAny _ _ (PySem.call (Value.ref 143) _ _) _ _ _); k_dflt (refine' b64_value_ctr ?k1 ?k2 ?k3 ?k4  ?_; (case k1 => exact Frag.In.keeps (by k_asm) (Fr.keep (by k_asm))); (case k2 => exact Top.keeps (by k_asm) (Fr.keep (by k_asm))); (case k3 => (((try simp only [Around.deeper]); omega))); (case k4 => (((try simp only [Around.deeper]); omega)));  intro t' h' tk' st'; (have F' := fr_after (by k_asm) st'); (have N' := news_after (by k_asm) st'); clear st'; (try dsimp only); (try k_sweep)))) | ((with_reducible show wpAny _ _ (PySem.call (Value.ref _) _ _) _ _ _); ((with_reducible show wpAny _ _ (PySem.call (Value.ref 136) _ _) _ _ _); k_dflt (refine' truth_ctr ?k1 ?k2 ?k3 ?k4  ?_; (case k1 => exact Frag.In.keeps (by k_asm) (Fr.keep (by k_asm))); (case k2 => exact Top.keeps (by k_asm) (Fr.keep (by k_asm))); (case k3 => (((try simp only [Around.deeper]); omega))); (case k4 => (((try simp only [Around.deeper]); omega)));  intro h' tk' st'; (have F' := fr_after (by k_asm) st'); (have N' := news_after (by k_asm) st'); clear st'; (try dsimp only); (try k_sweep)))) | ((with_reducible show wpAny _ _ (PySem.call (Value.ref _) _ _) _ _ _); ((with_reducible show wpAny _ _ (PySem.call (Value.ref 122) _ _) _ _ _); k_dflt (refine' abuffer_ctr ?k1 ?k2 ?k3 ?k4  ?_; (case k1 => exact Frag.In.keeps (by k_asm) (Fr.keep (by k_asm))); (case k2 => exact Top.keeps (by k_asm) (Fr.keep (by k_asm))); (case k3 => (((try simp only [Around.deeper]); omega))); (case k4 => (((try simp only [Around.deeper]); omega)));  intro h' tk' st'; (have F' := fr_after (by k_asm) st'); (have N' := news_after (by k_asm) st'); clear st'; (try dsimp only); (try k_sweep)))) | ((with_reducible show wpAny _ _ (PySem.call (Value.builtin "list.append") _ _) _ _ _); k_dflt (refine' append_K ?k1 ?k2 ?k3 ?_ ?z; (case k1 => k_asm); (case k2 => k_asm); (case k3 => k_upd); (case z => first | assumption | (simp only [Array.size_push]; omega)); intro h' F' N'; (try k_sweep)))) | ((with_reducible show wpAny _ _ (compareOp _ _ _) _ _ _); first | ((with_reducible show wpAny _ _ (compareOp CmpOp.NotEq (Value.int _ _) (Value.int _ _)) _ _ _); (with_reducible refine ne_T (by assumption) ?_)) | ((with_reducible show wpAny _ _ (compareOp CmpOp.Eq (Value.int _ _) (Value.int _ _)) _ _ _); (with_reducible refine eq_F (by assumption) ?_))) | ((with_reducible show wpAny _ _ (truthy (Value.int _ _)) _ _ _); (with_reducible refine tr_T (by assumption) ?_)) | ((with_reducible show wpAny _ _ (binaryOp _ _ _) _ _ _); first | ((with_reducible show wpAny _ _ (binaryOp Operator.BitOr (Value.int _ _) (Value.int _ _)) _ _ _); (first | ((with_reducible refine' or2 ?_ ?_ ?_ ?_); omega; omega; omega) | ((with_reducible refine' or4 ?_ ?_ ?_ ?_); omega; omega; omega) | ((with_reducible refine' or6 ?_ ?_ ?_ ?_); omega; omega; omega))) | ((with_reducible show wpAny _ _ (binaryOp Operator.RShift (Value.int _ _) (Value.int _ _)) _ _ _); (first | with_reducible refine shr4 ?_ | with_reducible refine shr2 ?_)) | ((with_reducible show wpAny _ _ (binaryOp Operator.BitAnd (Value.int _ _) (Value.int _ _)) _ _ _); (first | with_reducible refine and4 ?_ | with_reducible refine and2 ?_))) | (k_unfold; (try dsimp only)) | (k_end; wrow_close) | walk1 | (dsimp only; walk1) | (leave1; (try dsimp only))))
          all_goals exact hR' _
        intro tk2
        repeat ((fail_if_success (with_reducible show wpAny _ _ (exec (Stmt.If (Expr.Compare (Expr.Name (Str.ofString "quad_pos") _) _ _ _) _ _ _) _) _ _ _)); (first | ((with_reducible show wpAny _ _ (leaving _ _) _ _ _); k_dflt (refine' leave_raiseS ?k1 ?k0 ?k2 News.nil ?_; (case k0 => assumption); (case k1 => assumption); (case k2 => assumption); k_whole; intro h' t' R' _ U'; (try dsimp only at R' U' ⊢))) | ((with_reducible show wpAny _ _ (PySem.call _ _ _) _ _ _); first | ((with_reducible show wpAny _ _ (PySem.call (Value.builtin "len") _ _) _ _ _); k_dflt (refine' len_K ?k1 ?k2 ?_; (case k1 => k_asm); (case k2 => assumption))) | ((with_reducible show wpAny _ _ (PySem.call (Value.type _) _ _) _ _ _); k_dflt (refine' bytes_K ?k1 ?k2 ?k3 ?k4 ?k5 ?k6 ?_; (case k1 => k_asm); (case k2 => k_asm); (case k3 => assumption); (case k4 => assumption); (case k5 => assumption); (case k6 => rfl); intro h' t' k' st')) | ((with_reducible show wpAny _ _ (PySem.call (Value.ref _) _ _) _ _ _); ((with_reducible show wpAny _ _ (PySem.call (Value.ref 143) _ _) _ _ _); k_dflt (refine' b64_value_ctr ?k1 ?k2 ?k3 ?k4  ?_; (case k1 => exact Frag.In.keeps (by k_asm) (Fr.keep (by k_asm))); (case k2 => exact Top.keeps (by k_asm) (Fr.keep (by k_asm))); (case k3 => (((try simp only [Around.deeper]); omega))); (case k4 => (((try simp only [Around.deeper]); omega)));  intro t' h' tk' st'; (have F' := fr_after (by k_asm) st'); (have N' := news_after (by k_asm) st'); clear st'; (try dsimp only); (try k_sweep)))) | ((with_reducible show wpAny _ _ (PySem.call (Value.ref _) _ _) _ _ _); ((with_reducible show wpAny _ _ (PySem.call (Value.ref 136) _ _) _ _ _); k_dflt (refine' truth_ctr ?k1 ?k2 ?k3 ?k4  ?_; (case k1 => exact Frag.In.keeps (by k_asm) (Fr.keep (by k_asm))); (case k2 => exact Top.keeps (by k_asm) (Fr.keep (by k_asm))); (case k3 => (((try simp only [Around.deeper]); omega))); (case k4 => (((try simp only [Around.deeper]); omega)));  intro h' tk' st'; (have F' := fr_after (by k_asm) st'); (have N' := news_after (by k_asm) st'); clear st'; (try dsimp only); (try k_sweep)))) | ((with_reducible show wpAny _ _ (PySem.call (Value.ref _) _ _) _ _ _); ((with_reducible show wpAny _ _ (PySem.call (Value.ref 122) _ _) _ _ _); k_dflt (refine' abuffer_ctr ?k1 ?k2 ?k3 ?k4  ?_; (case k1 => exact Frag.In.keeps (by k_asm) (Fr.keep (by k_asm))); (case k2 => exact Top.keeps (by k_asm) (Fr.keep (by k_asm))); (case k3 => (((try simp only [Around.deeper]); omega))); (case k4 => (((try simp only [Around.deeper]); omega)));  intro h' tk' st'; (have F' := fr_after (by k_asm) st'); (have N' := news_after (by k_asm) st'); clear st'; (try dsimp only); (try k_sweep)))) | ((with_reducible show wpAny _ _ (PySem.call (Value.builtin "list.append") _ _) _ _ _); k_dflt (refine' append_K ?k1 ?k2 ?k3 ?_ ?z; (case k1 => k_asm); (case k2 => k_asm); (case k3 => k_upd); (case z => first | assumption | (simp only [Array.size_push]; omega)); intro h' F' N'; (try k_sweep)))) | ((with_reducible show wpAny _ _ (compareOp _ _ _) _ _ _); first | ((with_reducible show wpAny _ _ (compareOp CmpOp.NotEq (Value.int _ _) (Value.int _ _)) _ _ _); (with_reducible refine ne_T (by assumption) ?_)) | ((with_reducible show wpAny _ _ (compareOp CmpOp.Eq (Value.int _ _) (Value.int _ _)) _ _ _); (with_reducible refine eq_F (by assumption) ?_))) | ((with_reducible show wpAny _ _ (truthy (Value.int _ _)) _ _ _); (with_reducible refine tr_T (by assumption) ?_)) | ((with_reducible show wpAny _ _ (binaryOp _ _ _) _ _ _); first | ((with_reducible show wpAny _ _ (binaryOp Operator.BitOr (Value.int _ _) (Value.int _ _)) _ _ _); (first | ((with_reducible refine' or2 ?_ ?_ ?_ ?_); omega; omega; omega) | ((with_reducible refine' or4 ?_ ?_ ?_ ?_); omega; omega; omega) | ((with_reducible refine' or6 ?_ ?_ ?_ ?_); omega; omega; omega))) | ((with_reducible show wpAny _ _ (binaryOp Operator.RShift (Value.int _ _) (Value.int _ _)) _ _ _); (first | with_reducible refine shr4 ?_ | with_reducible refine shr2 ?_)) | ((with_reducible show wpAny _ _ (binaryOp Operator.BitAnd (Value.int _ _) (Value.int _ _)) _ _ _); (first | with_reducible refine and4 ?_ | with_reducible refine and2 ?_))) | walk1))
        rcases hq with ⟨rfl, rfl⟩ | ⟨rfl, hq⟩ | ⟨rfl, hq⟩ | ⟨rfl, hq⟩
        all_goals (repeat' (first | ((with_reducible show wpAny _ _ (leaving _ _) _ _ _); k_dflt (refine' leave_raiseS ?k1 ?k0 ?k2 News.nil ?_; (case k0 => assumption); (case k1 => assumption); (case k2 => assumption); k_whole; intro h' t' R' _ U'; (try dsimp only at R' U' ⊢))) | ((with_reducible show wpAny _ _ (PySem.call _ _ _) _ _ _); first | ((with_reducible show wpAny _ _ (PySem.call (Value.builtin "len") _ _) _ _ _); k_dflt (refine' len_K ?k1 ?k2 ?_; (case k1 => k_asm); (case k2 => assumption))) | ((with_reducible show wpAny _ _ (PySem.call (Value.type _) _ _) _ _ _); k_dflt (refine' bytes_K ?k1 ?k2 ?k3 ?k4 ?k5 ?k6 ?_; (case k1 => k_asm); (case k2 => k_asm); (case k3 => assumption); (case k4 => assumption); (case k5 => assumption); (case k6 => rfl); intro h' t' k' st')) | ((with_reducible show wpAny _ _ (PySem.call (Value.ref _) _ _) _ _ _); ((with_reducible show wpAny _ _ (PySem.call (Value.ref 143) _ _) _ _ _); k_dflt (refine' b64_value_ctr ?k1 ?k2 ?k3 ?k4  ?_; (case k1 => exact Frag.In.keeps (by k_asm) (Fr.keep (by k_asm))); (case k2 => exact Top.keeps (by k_asm) (Fr.keep (by k_asm))); (case k3 => (((try simp only [Around.deeper]); omega))); (case k4 => (((try simp only [Around.deeper]); omega)));  intro t' h' tk' st'; (have F' := fr_after (by k_asm) st'); (have N' := news_after (by k_asm) st'); clear st'; (try dsimp only); (try k_sweep)))) | ((with_reducible show wpAny _ _ (PySem.call (Value.ref _) _ _) _ _ _); ((with_reducible show wpAny _ _ (PySem.call (Value.ref 136) _ _) _ _ _); k_dflt (refine' truth_ctr ?k1 ?k2 ?k3 ?k4  ?_; (case k1 => exact Frag.In.keeps (by k_asm) (Fr.keep (by k_asm))); (case k2 => exact Top.keeps (by k_asm) (Fr.keep (by k_asm))); (case k3 => (((try simp only [Around.deeper]); omega))); (case k4 => (((try simp only [Around.deeper]); omega)));  intro h' tk' st'; (have F' := fr_after (by k_asm) st'); (have N' := news_after (by k_asm) st'); clear st'; (try dsimp only); (try k_sweep)))) | ((with_reducible show wpAny _ _ (PySem.call (Value.ref _) _ _) _ _ _); ((with_reducible show wpAny _ _ (PySem.call (Value.ref 122) _ _) _ _ _); k_dflt (refine' abuffer_ctr ?k1 ?k2 ?k3 ?k4  ?_; (case k1 => exact Frag.In.keeps (by k_asm) (Fr.keep (by k_asm))); (case k2 => exact Top.keeps (by k_asm) (Fr.keep (by k_asm))); (case k3 => (((try simp only [Around.deeper]); omega))); (case k4 => (((try simp only [Around.deeper]); omega)));  intro h' tk' st'; (have F' := fr_after (by k_asm) st'); (have N' := news_after (by k_asm) st'); clear st'; (try dsimp only); (try k_sweep)))) | ((with_reducible show wpAny _ _ (PySem.call (Value.builtin "list.append") _ _) _ _ _); k_dflt (refine' append_K ?k1 ?k2 ?k3 ?_ ?z; (case k1 => k_asm); (case k2 => k_asm); (case k3 => k_upd); (case z => first | assumption | (simp only [Array.size_push]; omega)); intro h' F' N'; (try k_sweep)))) | ((with_reducible show wpAny _ _ (compareOp _ _ _) _ _ _); first | ((with_reducible show wpAny _ _ (compareOp CmpOp.NotEq (Value.int _ _) (Value.int _ _)) _ _ _); (with_reducible refine ne_T (by assumption) ?_)) | ((with_reducible show wpAny _ _ (compareOp CmpOp.Eq (Value.int _ _) (Value.int _ _)) _ _ _); (with_reducible refine eq_F (by assumption) ?_))) | ((with_reducible show wpAny _ _ (truthy (Value.int _ _)) _ _ _); (with_reducible refine tr_T (by assumption) ?_)) | ((with_reducible show wpAny _ _ (binaryOp _ _ _) _ _ _); first | ((with_reducible show wpAny _ _ (binaryOp Operator.BitOr (Value.int _ _) (Value.int _ _)) _ _ _); (first | ((with_reducible refine' or2 ?_ ?_ ?_ ?_); omega; omega; omega) | ((with_reducible refine' or4 ?_ ?_ ?_ ?_); omega; omega; omega) | ((with_reducible refine' or6 ?_ ?_ ?_ ?_); omega; omega; omega))) | ((with_reducible show wpAny _ _ (binaryOp Operator.RShift (Value.int _ _) (Value.int _ _)) _ _ _); (first | with_reducible refine shr4 ?_ | with_reducible refine shr2 ?_)) | ((with_reducible show wpAny _ _ (binaryOp Operator.BitAnd (Value.int _ _) (Value.int _ _)) _ _ _); (first | with_reducible refine and4 ?_ | with_reducible refine and2 ?_))) | (k_unfold; (try dsimp only)) | (k_end; wrow_close) | walk1 | (dsimp only; walk1) | (leave1; (try dsimp only))))
        all_goals (refine hR _ _ ?_; rename Fr _ _ _ _ => F; rename News _ _ _ _ => N)
        · exact fin os' os'' 1 (b64v kk) _ _ _ _ _ _ _ _ _ (by simp [astep, e1, e2]) hio F N ⟨rfl, rfl, rfl, rfl, rfl, rfl, trivial⟩
        · simp only [List.push_toArray] at N; exact fin (os' ++ [_]) (os'' ++ [lc * 4 + b64v kk / 16]) 2 (b64v kk % 16) _ _ _ _ _ _ _ _ _ (by simp [astep, e1, e2]) (ints_push hio) F N ⟨rfl, rfl, rfl, rfl, rfl, rfl, trivial⟩
        · simp only [List.push_toArray] at N; exact fin (os' ++ [_]) (os'' ++ [lc * 16 + b64v kk / 4]) 3 (b64v kk % 4) _ _ _ _ _ _ _ _ _ (by simp [astep, e1, e2]) (ints_push hio) F N ⟨rfl, rfl, rfl, rfl, rfl, rfl, trivial⟩
        · simp only [List.push_toArray] at N; exact fin (os' ++ [_]) (os'' ++ [lc * 64 + b64v kk]) 0 0 _ _ _ _ _ _ _ _ _ (by simp [astep, e1, e2]) (ints_push hio) F N ⟨rfl, rfl, rfl, rfl, rfl, rfl, trivial⟩
  case done =>
    rintro ⟨⟨os', q, lc, pd⟩, cnt, iv, t1, t2, t3, t4⟩ m h tk1 ⟨hio, hs⟩ F' N'
    dsimp only at F' N'
    have hlt : ((bI b).take b.size) = bI b := List.take_of_length_le (by simp [bI])
    rw [hlt] at hio hs
    obtain ⟨hinv, hlen⟩ := afold_inv0 (bI b)
    clear hst
    generalize afold (bI b) = c at *
    obtain ⟨os'', q', lc', pd'⟩ := c
    obtain ⟨hq, hlc, hpd, hin⟩ := hinv
    simp only at hio hs hq hlc hpd hlen hin hret hexc
    obtain ⟨rfl, rfl, rfl⟩ : q = q' ∧ lc = lc' ∧ pd = pd' := by simpa using hs
    have hz : os'.toArray.size ≤ sizeLine := by
      have e1 : os'.length = os''.length := hio.length
      simp [bI] at hlen ⊢
      omega
    clear F N
    have hq2 : 0 ≤ q ∧ q ≤ 3 := by rcases hq with h | h | h | h <;> rw [h.1] <;> decide
    by_cases e1 : q = 1
    · subst e1
      have hfd : (os'.length : Int).fdiv 3 = (os'.length : Int) / 3 := Int.fdiv_eq_ediv_of_nonneg _ (by decide)
      have hln : os'.length < 100000 := by rw [hio.length]; simp [bI] at hlen; omega
      have hf0 : 0 ≤ (os'.length : Int).fdiv 3 * 4 + 1 := by rw [hfd]; omega
      have hf1 : (os'.length : Int).fdiv 3 * 4 + 1 < 10 ^ 10 := by rw [hfd]; omega
      (repeat' (first | ((with_reducible show wpAny _ _ (leaving _ _) _ _ _); k_dflt (refine' leave_raiseS ?k1 ?k0 ?k2 News.nil ?_; (case k0 => assumption); (case k1 => assumption); (case k2 => assumption); k_whole; intro h' t' R' _ U'; (try dsimp only at R' U' ⊢))) | ((with_reducible show wpAny _ _ (PySem.call _ _ _) _ _ _); first | ((with_reducible show wpAny _ _ (PySem.call (Value.builtin "len") _ _) _ _ _); k_dflt (refine' len_K ?k1 ?k2 ?_; (case k1 => k_asm); (case k2 => assumption))) | ((with_reducible show wpAny _ _ (PySem.call (Value.type _) _ _) _ _ _); k_dflt (refine' bytes_K ?k1 ?k2 ?k3 ?k4 ?k5 ?k6 ?_; (case k1 => k_asm); (case k2 => k_asm); (case k3 => assumption); (case k4 => assumption); (case k5 => assumption); (case k6 => rfl); intro h' t' k' st')) | ((with_reducible show wpAny _ _ (PySem.call (Value.ref _) _ _) _ _ _); ((with_reducible show wpAny _ _ (PySem.call (Value.ref 143) _ _) _ _ _); k_dflt (refine' b64_value_ctr ?k1 ?k2 ?k3 ?k4  ?_; (case k1 => exact Frag.In.keeps (by k_asm) (Fr.keep (by k_asm))); (case k2 => exact Top.keeps (by k_asm) (Fr.keep (by k_asm))); (case k3 => (((try simp only [Around.deeper]); omega))); (case k4 => (((try simp only [Around.deeper]); omega)));  intro t' h' tk' st'; (have F' := fr_after (by k_asm) st'); (have N' := news_after (by k_asm) st'); clear st'; (try dsimp only); (try k_sweep)))) | ((with_reducible show wpAny _ _ (PySem.call (Value.ref _) _ _) _ _ _); ((with_reducible show wpAny _ _ (PySem.call (Value.ref 136) _ _) _ _ _); k_dflt (refine' truth_ctr ?k1 ?k2 ?k3 ?k4  ?_; (case k1 => exact Frag.In.keeps (by k_asm) (Fr.keep (by k_asm))); (case k2 => exact Top.keeps (by k_asm) (Fr.keep (by k_asm))); (case k3 => (((try simp only [Around.deeper]); omega))); (case k4 => (((try simp only [Around.deeper]); omega)));  intro h' tk' st'; (have F' := fr_after (by k_asm) st'); (have N' := news_after (by k_asm) st'); clear st'; (try dsimp only); (try k_sweep)))) | ((with_reducible show wpAny _ _ (PySem.call (Value.ref _) _ _) _ _ _); ((with_reducible show wpAny _ _ (PySem.call (Value.ref 122) _ _) _ _ _); k_dflt (refine' abuffer_ctr ?k1 ?k2 ?k3 ?k4  ?_; (case k1 => exact Frag.In.keeps (by k_asm) (Fr.keep (by k_asm))); (case k2 => exact Top.keeps (by k_asm) (Fr.keep (by k_asm))); (case k3 => (((try simp only [Around.deeper]); omega))); (case k4 => (((try simp only [Around.deeper]); omega)));  intro h' tk' st'; (have F' := fr_after (by k_asm) st'); (have N' := news_after (by k_asm) st'); clear st'; (try dsimp only); (try k_sweep)))) | ((with_reducible show wpAny _ _ (PySem.call (Value.builtin "list.append") _ _) _ _ _); k_dflt (refine' append_K ?k1 ?k2 ?k3 ?_ ?z; (case k1 => k_asm); (case k2 => k_asm); (case k3 => k_upd); (case z => first | assumption | (simp only [Array.size_push]; omega)); intro h' F' N'; (try k_sweep)))) | ((with_reducible show wpAny _ _ (compareOp _ _ _) _ _ _); first | ((with_reducible show wpAny _ _ (compareOp CmpOp.NotEq (Value.int _ _) (Value.int _ _)) _ _ _); (with_reducible refine ne_T (by assumption) ?_)) | ((with_reducible show wpAny _ _ (compareOp CmpOp.Eq (Value.int _ _) (Value.int _ _)) _ _ _); (with_reducible refine eq_F (by assumption) ?_))) | ((with_reducible show wpAny _ _ (truthy (Value.int _ _)) _ _ _); (with_reducible refine tr_T (by assumption) ?_)) | ((with_reducible show wpAny _ _ (binaryOp _ _ _) _ _ _); first | ((with_reducible show wpAny _ _ (binaryOp Operator.BitOr (Value.int _ _) (Value.int _ _)) _ _ _); (first | ((with_reducible refine' or2 ?_ ?_ ?_ ?_); omega; omega; omega) | ((with_reducible refine' or4 ?_ ?_ ?_ ?_); omega; omega; omega) | ((with_reducible refine' or6 ?_ ?_ ?_ ?_); omega; omega; omega))) | ((with_reducible show wpAny _ _ (binaryOp Operator.RShift (Value.int _ _) (Value.int _ _)) _ _ _); (first | with_reducible refine shr4 ?_ | with_reducible refine shr2 ?_)) | ((with_reducible show wpAny _ _ (binaryOp Operator.BitAnd (Value.int _ _) (Value.int _ _)) _ _ _); (first | with_reducible refine and4 ?_ | with_reducible refine and2 ?_))) | (k_unfold; (try dsimp only)) | (k_end; wrow_close) | walk1 | (dsimp only; walk1) | (leave1; (try dsimp only))))
      all_goals (rename RaisedS _ _ _ _ _ _ _ _ _ => R; rename Heap.UpToSlots _ _ => U; exact hexc _ _ _ _ _ (.inl rfl) R U)
    · by_cases e2 : q = 0
      · subst e2
        (repeat' (first | ((with_reducible show wpAny _ _ (leaving _ _) _ _ _); k_dflt (refine' leave_raiseS ?k1 ?k0 ?k2 News.nil ?_; (case k0 => assumption); (case k1 => assumption); (case k2 => assumption); k_whole; intro h' t' R' _ U'; (try dsimp only at R' U' ⊢))) | ((with_reducible show wpAny _ _ (PySem.call _ _ _) _ _ _); first | ((with_reducible show wpAny _ _ (PySem.call (Value.builtin "len") _ _) _ _ _); k_dflt (refine' len_K ?k1 ?k2 ?_; (case k1 => k_asm); (case k2 => assumption))) | ((with_reducible show wpAny _ _ (PySem.call (Value.type _) _ _) _ _ _); k_dflt (refine' bytes_K ?k1 ?k2 ?k3 ?k4 ?k5 ?k6 ?_; (case k1 => k_asm); (case k2 => k_asm); (case k3 => assumption); (case k4 => assumption); (case k5 => assumption); (case k6 => rfl); intro h' t' k' st')) | ((with_reducible show wpAny _ _ (PySem.call (Value.ref _) _ _) _ _ _); ((with_reducible show wpAny _ _ (PySem.call (Value.ref 143) _ _) _ _ _); k_dflt (refine' b64_value_ctr ?k1 ?k2 ?k3 ?k4  ?_; (case k1 => exact Frag.In.keeps (by k_asm) (Fr.keep (by k_asm))); (case k2 => exact Top.keeps (by k_asm) (Fr.keep (by k_asm))); (case k3 => (((try simp only [Around.deeper]); omega))); (case k4 => (((try simp only [Around.deeper]); omega)));  intro t' h' tk' st'; (have F' := fr_after (by k_asm) st'); (have N' := news_after (by k_asm) st'); clear st'; (try dsimp only); (try k_sweep)))) | ((with_reducible show wpAny _ _ (PySem.call (Value.ref _) _ _) _ _ _); ((with_reducible show wpAny _ _ (PySem.call (Value.ref 136) _ _) _ _ _); k_dflt (refine' truth_ctr ?k1 ?k2 ?k3 ?k4  ?_; (case k1 => exact Frag.In.keeps (by k_asm) (Fr.keep (by k_asm))); (case k2 => exact Top.keeps (by k_asm) (Fr.keep (by k_asm))); (case k3 => (((try simp only [Around.deeper]); omega))); (case k4 => (((try simp only [Around.deeper]); omega)));  intro h' tk' st'; (have F' := fr_after (by k_asm) st'); (have N' := news_after (by k_asm) st'); clear st'; (try dsimp only); (try k_sweep)))) | ((with_reducible show wpAny _ _ (PySem.call (Value.ref _) _ _) _ _ _); ((with_reducible show wpAny _ _ (PySem.call (Value.ref 122) _ _) _ _ _); k_dflt (refine' abuffer_ctr ?k1 ?k2 ?k3 ?k4  ?_; (case k1 => exact Frag.In.keeps (by k_asm) (Fr.keep (by k_asm))); (case k2 => exact Top.keeps (by k_asm) (Fr.keep (by k_asm))); (case k3 => (((try simp only [Around.deeper]); omega))); (case k4 => (((try simp only [Around.deeper]); omega)));  intro h' tk' st'; (have F' := fr_after (by k_asm) st'); (have N' := news_after (by k_asm) st'); clear st'; (try dsimp only); (try k_sweep)))) | ((with_reducible show wpAny _ _ (PySem.call (Value.builtin "list.append") _ _) _ _ _); k_dflt (refine' append_K ?k1 ?k2 ?k3 ?_ ?z; (case k1 => k_asm); (case k2 => k_asm); (case k3 => k_upd); (case z => first | assumption | (simp only [Array.size_push]; omega)); intro h' F' N'; (try k_sweep)))) | ((with_reducible show wpAny _ _ (compareOp _ _ _) _ _ _); first | ((with_reducible show wpAny _ _ (compareOp CmpOp.NotEq (Value.int _ _) (Value.int _ _)) _ _ _); (with_reducible refine ne_T (by assumption) ?_)) | ((with_reducible show wpAny _ _ (compareOp CmpOp.Eq (Value.int _ _) (Value.int _ _)) _ _ _); (with_reducible refine eq_F (by assumption) ?_))) | ((with_reducible show wpAny _ _ (truthy (Value.int _ _)) _ _ _); (with_reducible refine tr_T (by assumption) ?_)) | ((with_reducible show wpAny _ _ (binaryOp _ _ _) _ _ _); first | ((with_reducible show wpAny _ _ (binaryOp Operator.BitOr (Value.int _ _) (Value.int _ _)) _ _ _); (first | ((with_reducible refine' or2 ?_ ?_ ?_ ?_); omega; omega; omega) | ((with_reducible refine' or4 ?_ ?_ ?_ ?_); omega; omega; omega) | ((with_reducible refine' or6 ?_ ?_ ?_ ?_); omega; omega; omega))) | ((with_reducible show wpAny _ _ (binaryOp Operator.RShift (Value.int _ _) (Value.int _ _)) _ _ _); (first | with_reducible refine shr4 ?_ | with_reducible refine shr2 ?_)) | ((with_reducible show wpAny _ _ (binaryOp Operator.BitAnd (Value.int _ _) (Value.int _ _)) _ _ _); (first | with_reducible refine and4 ?_ | with_reducible refine and2 ?_))) | (k_unfold; (try dsimp only)) | (k_end; wrow_close) | walk1 | (dsimp only; walk1) | (leave1; (try dsimp only))))
        all_goals (try (exfalso; omega))
        all_goals exact hret _ _ _ (by assumption) (by decide) (.inl rfl)
      · by_cases e3 : 4 ≤ q + pd
        · (repeat' (first | ((with_reducible show wpAny _ _ (leaving _ _) _ _ _); k_dflt (refine' leave_raiseS ?k1 ?k0 ?k2 News.nil ?_; (case k0 => assumption); (case k1 => assumption); (case k2 => assumption); k_whole; intro h' t' R' _ U'; (try dsimp only at R' U' ⊢))) | ((with_reducible show wpAny _ _ (PySem.call _ _ _) _ _ _); first | ((with_reducible show wpAny _ _ (PySem.call (Value.builtin "len") _ _) _ _ _); k_dflt (refine' len_K ?k1 ?k2 ?_; (case k1 => k_asm); (case k2 => assumption))) | ((with_reducible show wpAny _ _ (PySem.call (Value.type _) _ _) _ _ _); k_dflt (refine' bytes_K ?k1 ?k2 ?k3 ?k4 ?k5 ?k6 ?_; (case k1 => k_asm); (case k2 => k_asm); (case k3 => assumption); (case k4 => assumption); (case k5 => assumption); (case k6 => rfl); intro h' t' k' st')) | ((with_reducible show wpAny _ _ (PySem.call (Value.ref _) _ _) _ _ _); ((with_reducible show wpAny _ _ (PySem.call (Value.ref 143) _ _) _ _ _); k_dflt (refine' b64_value_ctr ?k1 ?k2 ?k3 ?k4  ?_; (case k1 => exact Frag.In.keeps (by k_asm) (Fr.keep (by k_asm))); (case k2 => exact Top.keeps (by k_asm) (Fr.keep (by k_asm))); (case k3 => (((try simp only [Around.deeper]); omega))); (case k4 => (((try simp only [Around.deeper]); omega)));  intro t' h' tk' st'; (have F' := fr_after (by k_asm) st'); (have N' := news_after (by k_asm) st'); clear st'; (try dsimp only); (try k_sweep)))) | ((with_reducible show wpAny _ _ (PySem.call (Value.ref _) _ _) _ _ _); ((with_reducible show wpAny _ _ (PySem.call (Value.ref 136) _ _) _ _ _); k_dflt (refine' truth_ctr ?k1 ?k2 ?k3 ?k4  ?_; (case k1 => exact Frag.In.keeps (by k_asm) (Fr.keep (by k_asm))); (case k2 => exact Top.keeps (by k_asm) (Fr.keep (by k_asm))); (case k3 => (((try simp only [Around.deeper]); omega))); (case k4 => (((try simp only [Around.deeper]); omega)));  intro h' tk' st'; (have F' := fr_after (by k_asm) st'); (have N' := news_after (by k_asm) st'); clear st'; (try dsimp only); (try k_sweep)))) | ((with_reducible show wpAny _ _ (PySem.call (Value.ref _) _ _) _ _ _); ((with_reducible show wpAny _ _ (PySem.call (Value.ref 122) _ _) _ _ _); k_dflt (refine' abuffer_ctr ?k1 ?k2 ?k3 ?k4  ?_; (case k1 => exact Frag.In.keeps (by k_asm) (Fr.keep (by k_asm))); (case k2 => exact Top.keeps (by k_asm) (Fr.keep (by k_asm))); (case k3 => (((try simp only [Around.deeper]); omega))); (case k4 => (((try simp only [Around.deeper]); omega)));  intro h' tk' st'; (have F' := fr_after (by k_asm) st'); (have N' := news_after (by k_asm) st'); clear st'; (try dsimp only); (try k_sweep)))) | ((with_reducible show wpAny _ _ (PySem.call (Value.builtin "list.append") _ _) _ _ _); k_dflt (refine' append_K ?k1 ?k2 ?k3 ?_ ?z; (case k1 => k_asm); (case k2 => k_asm); (case k3 => k_upd); (case z => first | assumption | (simp only [Array.size_push]; omega)); intro h' F' N'; (try k_sweep)))) | ((with_reducible show wpAny _ _ (compareOp _ _ _) _ _ _); first | ((with_reducible show wpAny _ _ (compareOp CmpOp.NotEq (Value.int _ _) (Value.int _ _)) _ _ _); (with_reducible refine ne_T (by assumption) ?_)) | ((with_reducible show wpAny _ _ (compareOp CmpOp.Eq (Value.int _ _) (Value.int _ _)) _ _ _); (with_reducible refine eq_F (by assumption) ?_))) | ((with_reducible show wpAny _ _ (truthy (Value.int _ _)) _ _ _); (with_reducible refine tr_T (by assumption) ?_)) | ((with_reducible show wpAny _ _ (binaryOp _ _ _) _ _ _); first | ((with_reducible show wpAny _ _ (binaryOp Operator.BitOr (Value.int _ _) (Value.int _ _)) _ _ _); (first | ((with_reducible refine' or2 ?_ ?_ ?_ ?_); omega; omega; omega) | ((with_reducible refine' or4 ?_ ?_ ?_ ?_); omega; omega; omega) | ((with_reducible refine' or6 ?_ ?_ ?_ ?_); omega; omega; omega))) | ((with_reducible show wpAny _ _ (binaryOp Operator.RShift (Value.int _ _) (Value.int _ _)) _ _ _); (first | with_reducible refine shr4 ?_ | with_reducible refine shr2 ?_)) | ((with_reducible show wpAny _ _ (binaryOp Operator.BitAnd (Value.int _ _) (Value.int _ _)) _ _ _); (first | with_reducible refine and4 ?_ | with_reducible refine and2 ?_))) | (k_unfold; (try dsimp only)) | (k_end; wrow_close) | walk1 | (dsimp only; walk1) | (leave1; (try dsimp only))))
          all_goals (try (exfalso; omega))
          all_goals exact hret _ _ _ (by assumption) e1 (.inr e3)
        · (repeat' (first | ((with_reducible show wpAny _ _ (leaving _ _) _ _ _); k_dflt (refine' leave_raiseS ?k1 ?k0 ?k2 News.nil ?_; (case k0 => assumption); (case k1 => assumption); (case k2 => assumption); k_whole; intro h' t' R' _ U'; (try dsimp only at R' U' ⊢))) | ((with_reducible show wpAny _ _ (PySem.call _ _ _) _ _ _); first | ((with_reducible show wpAny _ _ (PySem.call (Value.builtin "len") _ _) _ _ _); k_dflt (refine' len_K ?k1 ?k2 ?_; (case k1 => k_asm); (case k2 => assumption))) | ((with_reducible show wpAny _ _ (PySem.call (Value.type _) _ _) _ _ _); k_dflt (refine' bytes_K ?k1 ?k2 ?k3 ?k4 ?k5 ?k6 ?_; (case k1 => k_asm); (case k2 => k_asm); (case k3 => assumption); (case k4 => assumption); (case k5 => assumption); (case k6 => rfl); intro h' t' k' st')) | ((with_reducible show wpAny _ _ (PySem.call (Value.ref _) _ _) _ _ _); ((with_reducible show wpAny _ _ (PySem.call (Value.ref 143) _ _) _ _ _); k_dflt (refine' b64_value_ctr ?k1 ?k2 ?k3 ?k4  ?_; (case k1 => exact Frag.In.keeps (by k_asm) (Fr.keep (by k_asm))); (case k2 => exact Top.keeps (by k_asm) (Fr.keep (by k_asm))); (case k3 => (((try simp only [Around.deeper]); omega))); (case k4 => (((try simp only [Around.deeper]); omega)));  intro t' h' tk' st'; (have F' := fr_after (by k_asm) st'); (have N' := news_after (by k_asm) st'); clear st'; (try dsimp only); (try k_sweep)))) | ((with_reducible show wpAny _ _ (PySem.call (Value.ref _) _ _) _ _ _); ((with_reducible show wpAny _ _ (PySem.call (Value.ref 136) _ _) _ _ _); k_dflt (refine' truth_ctr ?k1 ?k2 ?k3 ?k4  ?_; (case k1 => exact Frag.In.keeps (by k_asm) (Fr.keep (by k_asm))); (case k2 => exact Top.keeps (by k_asm) (Fr.keep (by k_asm))); (case k3 => (((try simp only [Around.deeper]); omega))); (case k4 => (((try simp only [Around.deeper]); omega)));  intro h' tk' st'; (have F' := fr_after (by k_asm) st'); (have N' := news_after (by k_asm) st'); clear st'; (try dsimp only); (try k_sweep)))) | ((with_reducible show wpAny _ _ (PySem.call (Value.ref _) _ _) _ _ _); ((with_reducible show wpAny _ _ (PySem.call (Value.ref 122) _ _) _ _ _); k_dflt (refine' abuffer_ctr ?k1 ?k2 ?k3 ?k4  ?_; (case k1 => exact Frag.In.keeps (by k_asm) (Fr.keep (by k_asm))); (case k2 => exact Top.keeps (by k_asm) (Fr.keep (by k_asm))); (case k3 => (((try simp only [Around.deeper]); omega))); (case k4 => (((try simp only [Around.deeper]); omega)));  intro h' tk' st'; (have F' := fr_after (by k_asm) st'); (have N' := news_after (by k_asm) st'); clear st'; (try dsimp only); (try k_sweep)))) | ((with_reducible show wpAny _ _ (PySem.call (Value.builtin "list.append") _ _) _ _ _); k_dflt (refine' append_K ?k1 ?k2 ?k3 ?_ ?z; (case k1 => k_asm); (case k2 => k_asm); (case k3 => k_upd); (case z => first | assumption | (simp only [Array.size_push]; omega)); intro h' F' N'; (try k_sweep)))) | ((with_reducible show wpAny _ _ (compareOp _ _ _) _ _ _); first | ((with_reducible show wpAny _ _ (compareOp CmpOp.NotEq (Value.int _ _) (Value.int _ _)) _ _ _); (with_reducible refine ne_T (by assumption) ?_)) | ((with_reducible show wpAny _ _ (compareOp CmpOp.Eq (Value.int _ _) (Value.int _ _)) _ _ _); (with_reducible refine eq_F (by assumption) ?_))) | ((with_reducible show wpAny _ _ (truthy (Value.int _ _)) _ _ _); (with_reducible refine tr_T (by assumption) ?_)) | ((with_reducible show wpAny _ _ (binaryOp _ _ _) _ _ _); first | ((with_reducible show wpAny _ _ (binaryOp Operator.BitOr (Value.int _ _) (Value.int _ _)) _ _ _); (first | ((with_reducible refine' or2 ?_ ?_ ?_ ?_); omega; omega; omega) | ((with_reducible refine' or4 ?_ ?_ ?_ ?_); omega; omega; omega) | ((with_reducible refine' or6 ?_ ?_ ?_ ?_); omega; omega; omega))) | ((with_reducible show wpAny _ _ (binaryOp Operator.RShift (Value.int _ _) (Value.int _ _)) _ _ _); (first | with_reducible refine shr4 ?_ | with_reducible refine shr2 ?_)) | ((with_reducible show wpAny _ _ (binaryOp Operator.BitAnd (Value.int _ _) (Value.int _ _)) _ _ _); (first | with_reducible refine and4 ?_ | with_reducible refine and2 ?_))) | (k_unfold; (try dsimp only)) | (k_end; wrow_close) | walk1 | (dsimp only; walk1) | (leave1; (try dsimp only))))
          all_goals (try (exfalso; omega))
          all_goals (rename RaisedS _ _ _ _ _ _ _ _ _ => R; rename Heap.UpToSlots _ _ => U; exact hexc _ _ _ _ _ (.inr ⟨e2, by omega⟩) R U)
end Mine
end
section
open PySem PySem.W PyProof.Rows PySem.Calls
set_option Elab.async false
set_option maxRecDepth 100000
set_option maxHeartbeats 8000000
namespace Mine
open PySem.Builtin in
noncomputable def mkt (f1 f2 c1 c2 : UInt8) : Array UInt8 := (((Array.range 256).map (·.toUInt8)).setIfInBounds f1.toNat c1).setIfInBounds f2.toNat c2
theorem mkt_size (f1 f2 c1 c2 : UInt8) : (mkt f1 f2 c1 c2).size = 256 := by simp [mkt]
theorem mkt_get (f1 f2 c1 c2 i : UInt8) : (mkt f1 f2 c1 c2).getD i.toNat i = if i = f2 then c2 else if i = f1 then c1 else i := by
  have hi := i.toNat_lt
  have h1 := f1.toNat_lt
  have h2 := f2.toNat_lt
  have e2 : (f2.toNat = i.toNat) = (i = f2) := by rw [UInt8.toNat_inj]; exact propext eq_comm
  have e1 : (f1.toNat = i.toNat) = (i = f1) := by rw [UInt8.toNat_inj]; exact propext eq_comm
  unfold mkt
  rw [Array.getD_eq_getD_getElem?, Array.getElem?_setIfInBounds, Array.getElem?_setIfInBounds]
  simp only [Array.size_setIfInBounds, Array.size_map, Array.size_range, e1, e2, Array.getElem?_map]
  rw [if_pos h2, if_pos h1, Array.getElem?_range, if_pos hi]
  split
  · rfl
  · split
    · rfl
    · exact UInt8.ofNat_toNat
noncomputable def tr (tb b : Array UInt8) : Array UInt8 := b.map fun c => tb.getD c.toNat c
theorem tr_size (tb b : Array UInt8) : (tr tb b).size = b.size := by simp [tr]
theorem kind_mkt : builtinKind "bytes.maketrans" = some .staticMethod := by decide +kernel
theorem split_mkt : splitId "bytes.maketrans" = some ("bytes", "maketrans") := by decide +kernel
theorem plain_mkt : plainId "bytes.maketrans" = true := by decide +kernel
theorem entry_mkt : entryFor table "bytes.maketrans" = some Builtin.«bytes.maketrans» := entryFor_of_tree (by kernel_rfl)
theorem args_mkt (a b : Value) : argsOk "bytes.maketrans" ⟨[a, b], []⟩ := by
  unfold argsOk; rw [signature?_of (id := "bytes.maketrans") (n := ['s', 'n', 'a', 'r', 't', 'e', 'k', 'a', 'm']) (o := ['s', 'e', 't', 'y', 'b']) (by kernel_rfl) own_bytes]; kernel_rfl
section
variable {prog : Program} {w : World} {M : Model} {A : Around} {E : Value → Shared → Prop} {s : Shared} {b tb : Array UInt8} {t u : Tok} {pl : Sem Bool} {f1 f2 c1 c2 : UInt8}
theorem gm_translate {Q : Value × List Value → Shared → Prop} (h : Q (.builtin "bytes.translate", [.bytes b t]) s) : wpAny M A (getMethod (.bytes b t) "translate" pl) Q E s := by
  with_reducible exact KBd.method_of (.bytes b t) (typeIs_bytes _ _ _) slot_bytes_translate type_bytes_translate KBd.noRef h
theorem len2 {Q : Value → Shared → Prop} (h : Q (.int 2 (s.toks + 1)) { s with toks := s.toks + 1 + 1 }) : wpAny (model prog w) A (call (.builtin "len") [.bytes #[c1, c2] t]) Q E s := len_bytes (by simp) h
theorem mkt_meets : Meets (Builtin.«bytes.maketrans» ⟨[.bytes #[f1, f2] t, .bytes #[c1, c2] u], []⟩) (fun _ R s => R (.ok (.ret (.bytes (mkt f1 f2 c1 c2) s.toks))) { s with toks := s.toks + 1 }) := by
  refine .of_wp fun prog w A R s h => ?_
  show wpAny _ _ (Builtin.Bytes.bytesLike _ (.bytes #[f1, f2] t) >>= fun r => _) _ _ s
  refine wpAny_bind (wpAny_of_eq KBd.like_eq ?_)
  refine wpAny_bind (wpAny_of_eq KBd.like_eq ?_)
  dsimp only
  rw [if_neg (by simp)]
  unfold mkBytes
  have e : List.foldl (fun t (x : UInt8 × UInt8) => match x with | (f, x) => t.setIfInBounds f.toNat x) (Array.map (fun x => x.toUInt8) (Array.range 256)) (#[f1, f2].toList.zip #[c1, c2].toList) = mkt f1 f2 c1 c2 := rfl
  rw [e, if_neg (by rw [mkt_size]; decide)]
  exact wpAny_bind (wpAny_bind (wpAny_fresh (wpAny_pure (wpAny_pure ⟨_, rfl, h⟩))))
theorem mkt_call {Q : Value → Shared → Prop} (h : Q (.bytes (mkt f1 f2 c1 c2) s.toks) { s with toks := s.toks + 1 }) : wpAny (model prog w) A (call (.builtin "bytes.maketrans") [.bytes #[f1, f2] t, .bytes #[c1, c2] u]) Q E s := by
  refine wpAny_call (codeAny_call_builtin plain_mkt entry_mkt ?_)
  have hfin := mkt_meets (t := t) (u := u) (f1 := f1) (f2 := f2) (c1 := c1) (c2 := c2) prog w A (wants Q E) s h
  have ok := args_mkt (.bytes #[f1, f2] t) (.bytes #[c1, c2] u)
  simp only [checkBuiltinCall, kind_mkt, split_mkt]
  cases hsig : Manifest.signature? "bytes.maketrans" with
  | none => exact wpAny_pure hfin
  | some sig =>
    simp only [argsOk, hsig] at ok
    have h2 : Bind.checkArgs "bytes.maketrans" sig ⟨[.bytes #[f1, f2] t, .bytes #[c1, c2] u], []⟩ = pure () := ok
    show wpAny _ _ (Bind.checkArgs "bytes.maketrans" sig ⟨[.bytes #[f1, f2] t, .bytes #[c1, c2] u], []⟩) _ _ s
    rw [h2]; exact wpAny_pure hfin
theorem tr_call {Q : Value → Shared → Prop} (hb : b.size < 100000) (htb : tb.size = 256) (h : ∀ t' k, Q (.bytes (tr tb b) t') { s with toks := k }) : wpAny (model prog w) A (call (.builtin "bytes.translate") [.bytes b t, .bytes tb u]) Q E s := by
  refine call_meets (S := fun _ R s => ∀ t' k, R (.ok (.ret (.bytes (tr tb b) t'))) { s with toks := k }) slot_bytes_translate (typeIs_bytes _ _ _) entry_bytes_translate (args_bytes_translate_2 _ _) ?_ h
  refine .of_wp fun prog w A R s h => ?_
  show wpAny _ _ (Builtin.Bytes.bytesLike _ (.bytes tb u) >>= fun r => _) _ _ s
  refine wpAny_bind (wpAny_of_eq KBd.like_eq ?_)
  dsimp only
  rw [if_neg (by rw [htb]; decide)]
  refine wpAny_bind (wpAny_pure ?_)
  show wpAny _ _ (pure #[] >>= fun r => _) _ _ s
  refine wpAny_bind (wpAny_pure ?_)
  refine wpAny_bind (wpAny_of_eq (a := b) rfl ?_)
  have e : (Array.filter (fun x => !(#[] : Array UInt8).contains x) b) = b := by
    rw [Array.filter_eq_self]
    intro a _
    simp
  dsimp only
  rw [e]
  have e2 : Array.map (fun c => tb.getD c.toNat c) b = tr tb b := rfl
  rw [e2]
  by_cases q : (tr tb b == b) = true
  · rw [if_pos q]
    have e3 : Builtin.Bytes.Kind.bytes.same (Value.bytes b t) = pure (Value.bytes b t) := rfl
    rw [e3]
    have q' : tr tb b = b := by simpa using q
    refine wpAny_bind (wpAny_rule (wpAny_bind (wpAny_pure (wpAny_pure ⟨_, rfl, ?_⟩))))
    have := h t s.toks
    rw [q'] at this
    exact this
  · rw [if_neg q]
    show wpAny _ _ (mkBytes (tr tb b) >>= fun r => _) _ _ s
    unfold mkBytes
    rw [if_neg (by rw [tr_size]; have : (100000 : Nat) ≤ sizeLine := by decide
                   omega)]
    exact wpAny_bind (wpAny_bind (wpAny_fresh (wpAny_pure (wpAny_pure ⟨_, rfl, h _ _⟩))))
end
end Mine
end
section
open PySem PySem.W PyProof.Rows PySem.Calls
set_option Elab.async false
set_option maxRecDepth 100000
set_option maxHeartbeats 8000000
namespace Mine
theorem mkt_f1 : findIn [] (.type "type") "maketrans" = some none := by kernel_rfl
theorem mkt_f2 : findIn [] (.type "bytes") "maketrans" = some (some (.builtin "bytes.maketrans")) := by kernel_rfl
theorem mkt_f3 : Builtin.heldUnderItsOwnName "maketrans" (.builtin "bytes.maketrans") = false := by decide +kernel
theorem mkt_f4 : typeIn [] (.builtin "bytes.maketrans") = some (.type "builtin_function_or_method") := by kernel_rfl
theorem mkt_f5 : bareKinds.contains (.type "builtin_function_or_method") = false := by decide +kernel
theorem mkt_f6 : specialIn [] (.builtin "bytes.maketrans") "__get__" = some none := by kernel_rfl
theorem mkt_f7 : handedIn (.builtin "bytes.maketrans") = true := by decide +kernel
theorem mkt_find : findCls [] (.type "bytes") (.type "type") "maketrans" = some (.val (.builtin "bytes.maketrans")) := by
  unfold findCls
  rw [mkt_f1]
  simp only [Option.bind_some, mkt_f2, mkt_f3, mkt_f4, mkt_f5, mkt_f6, mkt_f7, if_true, Bool.false_eq_true, if_false]
theorem gm_mkt {prog : Program} {w : World} {A : Around} {E : Value → Shared → Prop} {s : Shared} {h₀ : Heap} {L : Addr} {m : Str → Option Value} {pl : Sem Bool} {Q : Value × List Value → Shared → Prop} (F : Fr h₀ L s.heap m) (h : Q (.builtin "bytes.maketrans", []) { s with toks := s.toks + 1 }) : wpAny (model prog w) A (getMethod (.type "bytes") "maketrans" pl) Q E s :=
by
  have h1 : typeOf (.type "bytes") = pure (.type "type") := by kernel_rfl
  have h2 : Manifest.isStub "bytes" = false := by decide +kernel
  have hX : Frag.In [] h₀ := fun _ _ e => nomatch e
  refine method_type (T := "bytes") (v := .builtin "bytes.maketrans") (K := []) F hX h1 h2 mkt_find mkt_f7 ?_
  exact h
theorem byteArr_size (l : List Int) : (byteArr l).size = l.length := by simp [byteArr]
theorem b64encode_ctr {w : World} {dp un : Nat} {fr : Option (List Env)} {gd : Option (List Code)} {s : Shared} {mean : ExcName → Option Value} {pp : Program} {ll : List Str} {mg mb : Str → Option Value} {Q E : Value → Shared → Prop} {b : Array UInt8} {c1 c2 : UInt8} {t u : Tok} (X : (hp w.params).In s.heap) (T : Top pp ll mean mg mb s.heap) (hdp : dp + 3 < 400) (hu : un + 20 * 3 < 4000) (hb : b.size < 1000)
   (hret : ∀ t' h' tk', s.heap.StaysIn h' → Q (.bytes (tr (mkt 43 47 c1 c2) (byteArr (bEnd (bfold (bI b))))) t') { s with heap := h', toks := tk' }) :
   wpAny (model Challenge.rw_pa0034_01.row.prog w) (At dp un fr gd) (call (.ref 167) [.bytes b t, .bytes #[c1, c2] u]) Q E s := by
  have hsz : (byteArr (bEnd (bfold (bI b)))).size < 100000 := by
    rw [byteArr_size]
    have h2 := (bfold_inv0 (bI b)).2
    have h3 : (bEnd (bfold (bI b))).length ≤ (bfold (bI b)).1.length + 3 := by unfold bEnd; (repeat' split) <;> simp
    have h4 : (bI b).length = b.size := by simp [bI]
    omega
  rcases s with ⟨h₀, gs, dr, tk, os⟩
  dsimp only at *
  revert X
  k_fill
  intro X
  refine wpAny_call ?_
  k_dflt (refine' enter (binds := [(Str.ofString "s", .bytes b t), (Str.ofString "altchars", .bytes #[c1, c2] u)]) ?k1 ?k2 ?k3 ?kA ?kB ?kS ?k4 ?k5 ?k6 ?k7 ?_ ?c2 ?c3 ?c4 ?c5; (case k1 => k_asm); (case k2 => exact T.nolimit); (case k3 => k_is); (case kA => (conv => lhs; whnf)); (case kB => (conv => lhs; whnf)); (case kS => (conv => lhs; whnf)); (case k4 => k_is); (case k5 => exact room_of (by omega)); (case k6 => first | exact BindsTo.of_eq rfl | exact binds_K (by k_in) rfl (by k_is) rfl rfl rfl); (case k7 => exact locs rfl); (case c5 => decide); (case c2 => exact rfl); (case c3 => exact rfl); (case c4 => exact rfl))
  intro L h₁ F0 N0
  dsimp only at F0 N0
  (try dsimp only)
  refine wpAny_noRaise ?_
  (repeat' (first | ((with_reducible show wpAny _ _ (PySem.call _ _ _) _ _ _); first | ((with_reducible show wpAny _ _ (PySem.call (Value.ref _) _ _) _ _ _); ((with_reducible show wpAny _ _ (PySem.call (Value.ref 159) _ _) _ _ _); k_dflt (refine' b2a_ctr ?k1 ?k2 ?k3 ?k4 ?x0 ?_; (case k1 => exact Frag.In.keeps (by k_asm) (Fr.keep (by k_asm))); (case k2 => exact Top.keeps (by k_asm) (Fr.keep (by k_asm))); (case k3 => (((try simp only [Around.deeper]); omega))); (case k4 => (((try simp only [Around.deeper]); omega))); (case x0 => first | assumption | omega); intro t' h' tk' st'; (have F' := fr_after (by k_asm) st'); (have N' := news_after (by k_asm) st'); clear st'; (try dsimp only); (try k_sweep)))) | ((with_reducible show wpAny _ _ (PySem.call (Value.builtin "bytes.translate") _ _) _ _ _); ((with_reducible refine tr_call (by assumption) (by exact mkt_size _ _ _ _) ?_); intro t' k')) | ((with_reducible show wpAny _ _ (PySem.call (Value.builtin "bytes.maketrans") _ _) _ _ _); (with_reducible refine mkt_call ?_)) | ((with_reducible show wpAny _ _ (PySem.call (Value.builtin "len") _ _) _ _ _); (with_reducible refine len2 ?_))) | ((with_reducible show wpAny _ _ (getMethod _ _ _) _ _ _); first | ((with_reducible show wpAny _ _ (getMethod (Value.type _) _ _) _ _ _); (with_reducible refine gm_mkt (by k_asm) ?_)) | ((with_reducible show wpAny _ _ (getMethod (Value.bytes _ _) _ _) _ _ _); (with_reducible refine gm_translate ?_))) | (k_unfold; (try dsimp only)) | (k_end; wrow_close) | walk1 | (dsimp only; walk1) | (leave1; (try dsimp only))))
  rename Fr _ _ _ _ => F
  exact hret _ _ _ F.keep
end Mine
end
section
open PySem PySem.W PyProof.Rows PySem.Calls
set_option Elab.async false
set_option maxRecDepth 100000
set_option maxHeartbeats 8000000
namespace Mine
/-- the octets read, where all is well -/
noncomputable def ARead (b : Array UInt8) : Prop := (afold (bI b)).2.1 ≠ 1 ∧ ((afold (bI b)).2.1 = 0 ∨ 4 ≤ (afold (bI b)).2.1 + (afold (bI b)).2.2.2)
theorem aread_no {b : Array UInt8} (h : (afold (bI b)).2.1 = 1 ∨ ((afold (bI b)).2.1 ≠ 0 ∧ (afold (bI b)).2.1 + (afold (bI b)).2.2.2 < 4)) : ¬ ARead b := by
  rintro ⟨h1, h2⟩
  rcases h with h | ⟨h3, h4⟩
  · exact h1 h
  · rcases h2 with h2 | h2
    · exact h3 h2
    · omega
theorem a2bOk_ctr {w : World} {dp un : Nat} {fr : Option (List Env)} {gd : Option (List Code)} {s : Shared} {mean : ExcName → Option Value} {pp : Program} {ll : List Str} {mg mb : Str → Option Value} {Q E : Value → Shared → Prop} {b : Array UInt8} {t : Tok} {st : Bool} {base : Heap} {outer : List Env} (X : (hp w.params).In s.heap) (T : Top pp ll mean mg mb s.heap) (hdp : dp + 2 < 400) (hu : un + 20 * 2 < 4000) (K : Below (At dp un fr gd) base outer s.heap) (hb : b.size < 1000)
   (hst : st = true → ∀ i k, b[i]? = some k → SOk (afold ((bI b).take i)) k.toNat) (hok : ARead b)
   (hret : ∀ t' h' tk', s.heap.StaysIn h' → Q (.bytes (byteArr (afold (bI b)).1) t') { s with heap := h', toks := tk' }) :
   wpAny (model Challenge.rw_pa0034_01.row.prog w) (At dp un fr gd) (call (.ref 151) [.bytes b t] [(Str.ofString "strict_mode", .bool st)]) Q E s :=
  a2b_ctr X T hdp hu K hb hst (fun t' h' tk' st _ _ => hret t' h' tk' st) (fun e t' vs h' tk' c _ _ => absurd hok (aread_no c))
theorem b64decodeB_ctr {w : World} {dp un : Nat} {fr : Option (List Env)} {gd : Option (List Code)} {s : Shared} {mean : ExcName → Option Value} {pp : Program} {ll : List Str} {mg mb : Str → Option Value} {Q E : Value → Shared → Prop} {b : Array UInt8} {c1 c2 : UInt8} {t u : Tok} {base : Heap} {outer : List Env} (X : (hp w.params).In s.heap) (T : Top pp ll mean mg mb s.heap) (hdp : dp + 3 < 400) (hu : un + 20 * 3 < 4000) (K : Below (At dp un fr gd) base outer s.heap) (hb : b.size < 1000)
   (hst : ∀ i k, (tr (mkt c1 c2 43 47) b)[i]? = some k → SOk (afold ((bI (tr (mkt c1 c2 43 47) b)).take i)) k.toNat) (hok : ARead (tr (mkt c1 c2 43 47) b))
   (hret : ∀ t' h' tk', s.heap.StaysIn h' → Q (.bytes (byteArr (afold (bI (tr (mkt c1 c2 43 47) b))).1) t') { s with heap := h', toks := tk' }) :
   wpAny (model Challenge.rw_pa0034_01.row.prog w) (At dp un fr gd) (call (.ref 175) [.bytes b t, .bytes #[c1, c2] u, .bool true]) Q E s := by
  have hb2 : b.size < 100000 := by omega
  rcases s with ⟨h₀, gs, dr, tk, os⟩
  dsimp only at *
  revert X
  k_fill
  intro X
  refine wpAny_call ?_
  k_dflt (refine' enter (binds := [(Str.ofString "s", .bytes b t), (Str.ofString "altchars", .bytes #[c1, c2] u), (Str.ofString "validate", .bool true)]) ?k1 ?k2 ?k3 ?kA ?kB ?kS ?k4 ?k5 ?k6 ?k7 ?_ ?c2 ?c3 ?c4 ?c5; (case k1 => k_asm); (case k2 => exact T.nolimit); (case k3 => k_is); (case kA => (conv => lhs; whnf)); (case kB => (conv => lhs; whnf)); (case kS => (conv => lhs; whnf)); (case k4 => k_is); (case k5 => exact room_of (by omega)); (case k6 => first | exact BindsTo.of_eq rfl | exact binds_K (by k_in) rfl (by k_is) rfl rfl rfl); (case k7 => exact locs rfl); (case c5 => decide); (case c2 => exact rfl); (case c3 => exact rfl); (case c4 => exact rfl))
  intro L h₁ F0 N0
  dsimp only at F0 N0
  (try dsimp only)
  refine wpAny_noRaise ?_
  (repeat' (first | ((with_reducible show wpAny _ _ (PySem.call _ _ _) _ _ _); first | ((with_reducible show wpAny _ _ (PySem.call (Value.ref _) _ _) _ _ _); ((with_reducible show wpAny _ _ (PySem.call (Value.ref 102) [Value.str _ _] _) _ _ _); k_dflt (refine' bfdS_ctr ?k1 ?k2 ?k3 ?k4 ?x0 ?x1 ?_; (case k1 => exact Frag.In.keeps (by k_asm) (Fr.keep (by k_asm))); (case k2 => exact Top.keeps (by k_asm) (Fr.keep (by k_asm))); (case k3 => (((try simp only [Around.deeper]); omega))); (case k4 => (((try simp only [Around.deeper]); omega))); (case x0 => assumption); (case x1 => assumption); intro t' h' tk' st'; (have F' := fr_after (by k_asm) st'); (have N' := news_after (by k_asm) st'); clear st'; (try dsimp only); (try k_sweep)))) | ((with_reducible show wpAny _ _ (PySem.call (Value.ref _) _ _) _ _ _); ((with_reducible show wpAny _ _ (PySem.call (Value.ref 102) [Value.bytes _ _] _) _ _ _); k_dflt (refine' bfdB_ctr ?k1 ?k2 ?k3 ?k4  ?_; (case k1 => exact Frag.In.keeps (by k_asm) (Fr.keep (by k_asm))); (case k2 => exact Top.keeps (by k_asm) (Fr.keep (by k_asm))); (case k3 => (((try simp only [Around.deeper]); omega))); (case k4 => (((try simp only [Around.deeper]); omega)));  intro h' tk' st'; (have F' := fr_after (by k_asm) st'); (have N' := news_after (by k_asm) st'); clear st'; (try dsimp only); (try k_sweep)))) | ((with_reducible show wpAny _ _ (PySem.call (Value.builtin "bytes.translate") _ _) _ _ _); ((with_reducible refine tr_call (by assumption) (by exact mkt_size _ _ _ _) ?_); intro t' k')) | ((with_reducible show wpAny _ _ (PySem.call (Value.builtin "bytes.maketrans") _ _) _ _ _); (with_reducible refine mkt_call ?_)) | ((with_reducible show wpAny _ _ (PySem.call (Value.builtin "len") _ _) _ _ _); (with_reducible refine len2 ?_))) | ((with_reducible show wpAny _ _ (getMethod _ _ _) _ _ _); first | ((with_reducible show wpAny _ _ (getMethod (Value.type _) _ _) _ _ _); (with_reducible refine gm_mkt (by k_asm) ?_)) | ((with_reducible show wpAny _ _ (getMethod (Value.bytes _ _) _ _) _ _ _); (with_reducible refine gm_translate ?_))) | (k_unfold; (try dsimp only)) | (k_end; wrow_close) | walk1 | (dsimp only; walk1) | (leave1; (try dsimp only))))
  rename Fr _ _ _ _ => F
  refine a2bOk_ctr (X.keeps F.keep) (T.keeps F.keep) (by (try simp only [Around.deeper]); omega) (by (try simp only [Around.deeper]); omega) (K.push F) (by rw [tr_size]; exact hb) (fun _ => hst) hok fun t' h' tk' st => ?_
  (repeat' (first | ((with_reducible show wpAny _ _ (PySem.call _ _ _) _ _ _); first | ((with_reducible show wpAny _ _ (PySem.call (Value.ref _) _ _) _ _ _); ((with_reducible show wpAny _ _ (PySem.call (Value.ref 102) [Value.str _ _] _) _ _ _); k_dflt (refine' bfdS_ctr ?k1 ?k2 ?k3 ?k4 ?x0 ?x1 ?_; (case k1 => exact Frag.In.keeps (by k_asm) (Fr.keep (by k_asm))); (case k2 => exact Top.keeps (by k_asm) (Fr.keep (by k_asm))); (case k3 => (((try simp only [Around.deeper]); omega))); (case k4 => (((try simp only [Around.deeper]); omega))); (case x0 => assumption); (case x1 => assumption); intro t' h' tk' st'; (have F' := fr_after (by k_asm) st'); (have N' := news_after (by k_asm) st'); clear st'; (try dsimp only); (try k_sweep)))) | ((with_reducible show wpAny _ _ (PySem.call (Value.ref _) _ _) _ _ _); ((with_reducible show wpAny _ _ (PySem.call (Value.ref 102) [Value.bytes _ _] _) _ _ _); k_dflt (refine' bfdB_ctr ?k1 ?k2 ?k3 ?k4  ?_; (case k1 => exact Frag.In.keeps (by k_asm) (Fr.keep (by k_asm))); (case k2 => exact Top.keeps (by k_asm) (Fr.keep (by k_asm))); (case k3 => (((try simp only [Around.deeper]); omega))); (case k4 => (((try simp only [Around.deeper]); omega)));  intro h' tk' st'; (have F' := fr_after (by k_asm) st'); (have N' := news_after (by k_asm) st'); clear st'; (try dsimp only); (try k_sweep)))) | ((with_reducible show wpAny _ _ (PySem.call (Value.builtin "bytes.translate") _ _) _ _ _); ((with_reducible refine tr_call (by assumption) (by exact mkt_size _ _ _ _) ?_); intro t' k')) | ((with_reducible show wpAny _ _ (PySem.call (Value.builtin "bytes.maketrans") _ _) _ _ _); (with_reducible refine mkt_call ?_)) | ((with_reducible show wpAny _ _ (PySem.call (Value.builtin "len") _ _) _ _ _); (with_reducible refine len2 ?_))) | ((with_reducible show wpAny _ _ (getMethod _ _ _) _ _ _); first | ((with_reducible show wpAny _ _ (getMethod (Value.type _) _ _) _ _ _); (with_reducible refine gm_mkt (by k_asm) ?_)) | ((with_reducible show wpAny _ _ (getMethod (Value.bytes _ _) _ _) _ _ _); (with_reducible refine gm_translate ?_))) | (k_unfold; (try dsimp only)) | (k_end; wrow_close) | walk1 | (dsimp only; walk1) | (leave1; (try dsimp only))))
  exact hret _ _ _ fun b o e => st b o (F.keep b o e)
theorem b64decodeS_ctr {w : World} {dp un : Nat} {fr : Option (List Env)} {gd : Option (List Code)} {s : Shared} {mean : ExcName → Option Value} {pp : Program} {ll : List Str} {mg mb : Str → Option Value} {Q E : Value → Shared → Prop} {l : List Nat} {c1 c2 : UInt8} {t u : Tok} {base : Heap} {outer : List Env} (X : (hp w.params).In s.heap) (T : Top pp ll mean mg mb s.heap) (hdp : dp + 3 < 400) (hu : un + 20 * 3 < 4000) (K : Below (At dp un fr gd) base outer s.heap) (h128 : ∀ c ∈ l, c < 128) (hl : l.length < 1000)
   (hret : ∀ t' h' tk', s.heap.StaysIn h' → ARead (tr (mkt c1 c2 43 47) (bts l)) → Q (.bytes (byteArr (afold (bI (tr (mkt c1 c2 43 47) (bts l)))).1) t') { s with heap := h', toks := tk' })
   (hexc : ∀ e t' vs h' tk', ¬ ARead (tr (mkt c1 c2 43 47) (bts l)) → RaisedS base s.heap outer e (.ref 112) t' vs [] h' → s.heap.UpToSlots h' → E (.ref e) { s with heap := h', toks := tk' }) :
   wpAny (model Challenge.rw_pa0034_01.row.prog w) (At dp un fr gd) (call (.ref 175) [.str (S l) t, .bytes #[c1, c2] u]) Q E s := by
  have hl2 : l.length < 100000 := by omega
  have hb2 : (bts l).size < 100000 := by simpa using hl2
  rcases s with ⟨h₀, gs, dr, tk, os⟩
  dsimp only at *
  revert X
  k_fill
  intro X
  refine wpAny_call ?_
  k_dflt (refine' enter (binds := [(Str.ofString "s", .str (S l) t), (Str.ofString "altchars", .bytes #[c1, c2] u), (Str.ofString "validate", .bool false)]) ?k1 ?k2 ?k3 ?kA ?kB ?kS ?k4 ?k5 ?k6 ?k7 ?_ ?c2 ?c3 ?c4 ?c5; (case k1 => k_asm); (case k2 => exact T.nolimit); (case k3 => k_is); (case kA => (conv => lhs; whnf)); (case kB => (conv => lhs; whnf)); (case kS => (conv => lhs; whnf)); (case k4 => k_is); (case k5 => exact room_of (by omega)); (case k6 => first | exact BindsTo.of_eq rfl | exact binds_K (by k_in) rfl (by k_is) rfl rfl rfl); (case k7 => exact locs rfl); (case c5 => decide); (case c2 => exact rfl); (case c3 => exact rfl); (case c4 => exact rfl))
  intro L h₁ F0 N0
  dsimp only at F0 N0
  (try dsimp only)
  (repeat' (first | ((with_reducible show wpAny _ _ (PySem.call _ _ _) _ _ _); first | ((with_reducible show wpAny _ _ (PySem.call (Value.ref _) _ _) _ _ _); ((with_reducible show wpAny _ _ (PySem.call (Value.ref 102) [Value.str _ _] _) _ _ _); k_dflt (refine' bfdS_ctr ?k1 ?k2 ?k3 ?k4 ?x0 ?x1 ?_; (case k1 => exact Frag.In.keeps (by k_asm) (Fr.keep (by k_asm))); (case k2 => exact Top.keeps (by k_asm) (Fr.keep (by k_asm))); (case k3 => (((try simp only [Around.deeper]); omega))); (case k4 => (((try simp only [Around.deeper]); omega))); (case x0 => assumption); (case x1 => assumption); intro t' h' tk' st'; (have F' := fr_after (by k_asm) st'); (have N' := news_after (by k_asm) st'); clear st'; (try dsimp only); (try k_sweep)))) | ((with_reducible show wpAny _ _ (PySem.call (Value.ref _) _ _) _ _ _); ((with_reducible show wpAny _ _ (PySem.call (Value.ref 102) [Value.bytes _ _] _) _ _ _); k_dflt (refine' bfdB_ctr ?k1 ?k2 ?k3 ?k4  ?_; (case k1 => exact Frag.In.keeps (by k_asm) (Fr.keep (by k_asm))); (case k2 => exact Top.keeps (by k_asm) (Fr.keep (by k_asm))); (case k3 => (((try simp only [Around.deeper]); omega))); (case k4 => (((try simp only [Around.deeper]); omega)));  intro h' tk' st'; (have F' := fr_after (by k_asm) st'); (have N' := news_after (by k_asm) st'); clear st'; (try dsimp only); (try k_sweep)))) | ((with_reducible show wpAny _ _ (PySem.call (Value.builtin "bytes.translate") _ _) _ _ _); ((with_reducible refine tr_call (by assumption) (by exact mkt_size _ _ _ _) ?_); intro t' k')) | ((with_reducible show wpAny _ _ (PySem.call (Value.builtin "bytes.maketrans") _ _) _ _ _); (with_reducible refine mkt_call ?_)) | ((with_reducible show wpAny _ _ (PySem.call (Value.builtin "len") _ _) _ _ _); (with_reducible refine len2 ?_))) | ((with_reducible show wpAny _ _ (getMethod _ _ _) _ _ _); first | ((with_reducible show wpAny _ _ (getMethod (Value.type _) _ _) _ _ _); (with_reducible refine gm_mkt (by k_asm) ?_)) | ((with_reducible show wpAny _ _ (getMethod (Value.bytes _ _) _ _) _ _ _); (with_reducible refine gm_translate ?_))) | (k_unfold; (try dsimp only)) | (k_end; wrow_close) | walk1 | (dsimp only; walk1) | (leave1; (try dsimp only))))
  rename Fr _ _ _ _ => F
  refine a2b_ctr (X.keeps F.keep) (T.keeps F.keep) (by (try simp only [Around.deeper]); omega) (by (try simp only [Around.deeper]); omega) (K.push F) (by rw [tr_size]; simpa using hl) (fun e => nomatch e) (fun t' h' tk' st c1 c2 => ?_) (fun e t' vs h' tk' c R U => ?_)
  · (repeat' (first | ((with_reducible show wpAny _ _ (PySem.call _ _ _) _ _ _); first | ((with_reducible show wpAny _ _ (PySem.call (Value.ref _) _ _) _ _ _); ((with_reducible show wpAny _ _ (PySem.call (Value.ref 102) [Value.str _ _] _) _ _ _); k_dflt (refine' bfdS_ctr ?k1 ?k2 ?k3 ?k4 ?x0 ?x1 ?_; (case k1 => exact Frag.In.keeps (by k_asm) (Fr.keep (by k_asm))); (case k2 => exact Top.keeps (by k_asm) (Fr.keep (by k_asm))); (case k3 => (((try simp only [Around.deeper]); omega))); (case k4 => (((try simp only [Around.deeper]); omega))); (case x0 => assumption); (case x1 => assumption); intro t' h' tk' st'; (have F' := fr_after (by k_asm) st'); (have N' := news_after (by k_asm) st'); clear st'; (try dsimp only); (try k_sweep)))) | ((with_reducible show wpAny _ _ (PySem.call (Value.ref _) _ _) _ _ _); ((with_reducible show wpAny _ _ (PySem.call (Value.ref 102) [Value.bytes _ _] _) _ _ _); k_dflt (refine' bfdB_ctr ?k1 ?k2 ?k3 ?k4  ?_; (case k1 => exact Frag.In.keeps (by k_asm) (Fr.keep (by k_asm))); (case k2 => exact Top.keeps (by k_asm) (Fr.keep (by k_asm))); (case k3 => (((try simp only [Around.deeper]); omega))); (case k4 => (((try simp only [Around.deeper]); omega)));  intro h' tk' st'; (have F' := fr_after (by k_asm) st'); (have N' := news_after (by k_asm) st'); clear st'; (try dsimp only); (try k_sweep)))) | ((with_reducible show wpAny _ _ (PySem.call (Value.builtin "bytes.translate") _ _) _ _ _); ((with_reducible refine tr_call (by assumption) (by exact mkt_size _ _ _ _) ?_); intro t' k')) | ((with_reducible show wpAny _ _ (PySem.call (Value.builtin "bytes.maketrans") _ _) _ _ _); (with_reducible refine mkt_call ?_)) | ((with_reducible show wpAny _ _ (PySem.call (Value.builtin "len") _ _) _ _ _); (with_reducible refine len2 ?_))) | ((with_reducible show wpAny _ _ (getMethod _ _ _) _ _ _); first | ((with_reducible show wpAny _ _ (getMethod (Value.type _) _ _) _ _ _); (with_reducible refine gm_mkt (by k_asm) ?_)) | ((with_reducible show wpAny _ _ (getMethod (Value.bytes _ _) _ _) _ _ _); (with_reducible refine gm_translate ?_))) | (k_unfold; (try dsimp only)) | (k_end; wrow_close) | walk1 | (dsimp only; walk1) | (leave1; (try dsimp only))))
    exact hret _ _ _ (fun b o e => st b o (F.keep b o e)) ⟨c1, c2⟩
  · refine leave_onS K F R U fun h' R' _ U' => ?_
    exact hexc _ _ _ _ _ (aread_no c) R' U'
end Mine
end
section
open PySem PySem.W PyProof.Rows PySem.Calls
set_option Elab.async false
set_option maxRecDepth 100000
set_option maxHeartbeats 8000000
namespace Mine
theorem told_ctr {w : World} {dp un : Nat} {fr : Option (List Env)} {gd : Option (List Code)} {s : Shared} {mean : ExcName → Option Value} {pp : Program} {ll : List Str} {mg mb : Str → Option Value} {Q E : Value → Shared → Prop} {l : List Nat} {c1 c2 : UInt8} {t u : Tok} {base : Heap} {outer : List Env} (X : (hp w.params).In s.heap) (T : Top pp ll mean mg mb s.heap) (hdp : dp + 4 < 400) (hu : un + 20 * 4 < 4000) (K : Below (At dp un fr gd) base outer s.heap) (XB : (hp w.params).In base) (TB : Top pp ll mean mg mb base)
   (D : KtsDicts (outer.filterMap (·.frame)) s.heap) (h128 : ∀ c ∈ l, c < 128) (hl : l.length < 1000)
   (hret : ∀ t' h' tk', s.heap.StaysIn h' → ARead (tr (mkt c1 c2 43 47) (bts l)) → Q (.bytes (byteArr (afold (bI (tr (mkt c1 c2 43 47) (bts l)))).1) t') { s with heap := h', toks := tk' })
   (hno : ∀ g' h' tk', ¬ ARead (tr (mkt c1 c2 43 47) (bts l)) → KtsTurn (outer.filterMap (·.frame)) s.heap g' → g'.StaysIn h' → Q .none { s with heap := h', toks := tk' }) :
   wpAny (model Challenge.rw_pa0034_01.row.prog w) (At dp un fr gd) (call (.ref 210) [.str (S l) t, .bytes #[c1, c2] u]) Q E s := by
  rcases s with ⟨h₀, gs, dr, tk, os⟩
  dsimp only at *
  revert X
  k_fill
  intro X
  refine wpAny_call ?_
  k_dflt (refine' enter (binds := [(Str.ofString "text", .str (S l) t), (Str.ofString "marks", .bytes #[c1, c2] u)]) ?k1 ?k2 ?k3 ?kA ?kB ?kS ?k4 ?k5 ?k6 ?k7 ?_ ?c2 ?c3 ?c4 ?c5; (case k1 => k_asm); (case k2 => exact T.nolimit); (case k3 => k_is); (case kA => (conv => lhs; whnf)); (case kB => (conv => lhs; whnf)); (case kS => (conv => lhs; whnf)); (case k4 => k_is); (case k5 => exact room_of (by omega)); (case k6 => first | exact BindsTo.of_eq rfl | exact binds_K (by k_in) rfl (by k_is) rfl rfl rfl); (case k7 => exact locs rfl); (case c5 => decide); (case c2 => exact rfl); (case c3 => exact rfl); (case c4 => exact rfl))
  intro L h₁ F0 N0
  dsimp only at F0 N0
  (try dsimp only)
  repeat ((fail_if_success (with_reducible show wpAny _ _ (PySem.call (Value.ref 175) _ _) _ _ _)); walk1)
  rename Fr _ _ _ _ => F
  refine b64decodeS_ctr (X.keeps F.keep) (T.keeps F.keep) (by (try simp only [Around.deeper]); omega) (by (try simp only [Around.deeper]); omega) (K.push F) h128 hl (fun t' h' tk' st ok => ?_) (fun e t' vs h' tk' no R U => ?_)
  · have F' := fr_after F st
    have N' := news_after (News.nil (h₀ := h₀) (L := L) (h := _)) st
    clear F
    refine wpAny_noRaise ?_
    k_steps
    rename Fr _ _ _ _ => F
    exact hret _ _ _ F.keep ok
  · have kx : ktsIn (hp w.params) 112 "ValueError" = true := by kts_isx
    refine caught_ST0 (T' := "ValueError") R F K U XB TB D KtsTurn.refl kx (by k_is) PyProof.Rows.Boot.«ValueError» (by decide) PySem.F.isExc_ValueError PySem.F.notTuple_ValueError ?_
    intro h2 g' n₂ Tn F' N₂ G' N' K' X' P' D'
    clear F K X T XB TB D
    k_steps
    exact hno g' _ _ no Tn F'.keep
end Mine
end
section
open PySem PySem.W PyProof.Rows PySem.Calls
set_option Elab.async false
set_option maxRecDepth 100000
set_option maxHeartbeats 8000000
namespace Mine
/-- what bears a value, whatever the heap around it -/
noncomputable def Sup (r : List (Addr × Obj)) (v : Value) (d : PyData) : Prop := ∀ h : Heap, (∀ p ∈ r, h.get? p.1 = some p.2) → ∃ as, Reads h v d as
noncomputable def SupA (r : List (Addr × Obj)) (vs : List Value) (ds : List PyData) : Prop := ∀ h : Heap, (∀ p ∈ r, h.get? p.1 = some p.2) → ∃ as, ReadsAll h vs ds as
theorem readsAll_snoc {h : Heap} {v : Value} {d : PyData} : ∀ {vs : List Value} {ds : List PyData} {as bs : List Addr}, ReadsAll h vs ds as → Reads h v d bs → ReadsAll h (vs ++ [v]) (ds ++ [d]) (as ++ (bs ++ []))
  | _, _, _, bs, .nil, q => by
    show ReadsAll h [v] [d] (bs ++ [])
    exact .cons q .nil
  | _, _, _, _, .cons p r, q => by
    rw [List.append_assoc]
    exact .cons p (readsAll_snoc r q)
theorem Sup.mono {r r' : List (Addr × Obj)} {v : Value} {d : PyData} (s : Sup r v d) (k : ∀ p ∈ r, p ∈ r') : Sup r' v d := fun h q => s h fun p hp => q p (k p hp)
theorem SupA.mono {r r' : List (Addr × Obj)} {vs : List Value} {ds : List PyData} (s : SupA r vs ds) (k : ∀ p ∈ r, p ∈ r') : SupA r' vs ds := fun h q => s h fun p hp => q p (k p hp)
theorem SupA.nil {r : List (Addr × Obj)} : SupA r [] [] := fun _ _ => ⟨_, .nil⟩
theorem SupA.snoc {r : List (Addr × Obj)} {vs : List Value} {ds : List PyData} {v : Value} {d : PyData} (s : SupA r vs ds) (t : Sup r v d) : SupA r (vs ++ [v]) (ds ++ [d]) := fun h q => by
  obtain ⟨as, a⟩ := s h q
  obtain ⟨bs, b⟩ := t h q
  exact ⟨_, readsAll_snoc a b⟩
theorem SupA.length {r : List (Addr × Obj)} {vs : List Value} {ds : List PyData} {h : Heap} (s : SupA r vs ds) (q : ∀ p ∈ r, h.get? p.1 = some p.2) : vs.length = ds.length := by
  obtain ⟨as, a⟩ := s h q
  have key : ∀ (vs : List Value) (ds : List PyData) (as : List Addr), ReadsAll h vs ds as → vs.length = ds.length := by
    intro vs
    induction vs with
    | nil => intro ds as a; cases a; rfl
    | cons v vs ih => intro ds as a; cases a with | cons _ r => simp [ih _ _ r]
  exact key _ _ _ a
theorem Sup.list {r : List (Addr × Obj)} {a : Addr} {vs : List Value} {ds : List PyData} {c : Nat} (s : SupA r vs ds) (m : (a, W.listOf vs.toArray c) ∈ r) : Sup r (.ref a) (.list ds) := fun h q => by
  obtain ⟨as, x⟩ := s h q
  exact ⟨_, reads_list_at (q _ m) rfl rfl (by simpa using x)⟩
theorem Sup.tup {r : List (Addr × Obj)} {a : Addr} {vs : List Value} {ds : List PyData} (s : SupA r vs ds) (m : (a, tupObj vs) ∈ r) : Sup r (.ref a) (.tuple ds) := fun h q => by
  obtain ⟨as, x⟩ := s h q
  exact ⟨_, reads_tuple_at (q _ m) rfl rfl (by simpa using x)⟩
theorem Sup.int {r : List (Addr × Obj)} {i : Int} {t : Tok} : Sup r (.int i t) (.int i) := fun _ _ => ⟨_, .int i t⟩
theorem Sup.str {r : List (Addr × Obj)} {x : Str} {t : Tok} : Sup r (.str x t) (.str x) := fun _ _ => ⟨_, .str x t⟩
theorem Sup.none {r : List (Addr × Obj)} : Sup r .none .none := fun _ _ => ⟨_, .none⟩
theorem SupA.ints {r : List (Addr × Obj)} : ∀ {vs : List Value} {ns : List Int}, IntsAre vs ns → SupA r vs (ns.map PyData.int)
  | _, _, .nil => SupA.nil
  | _, _, .cons n t h => fun g q => by
    obtain ⟨as, a⟩ := SupA.ints h g q
    exact ⟨_, .cons (.int n t) a⟩
/-- a value's own bearers, in a heap where it is read -/
theorem sup_of {h : Heap} {v : Value} {d : PyData} {as : List Addr} (x : Reads h v d as) : ∃ r : List (Addr × Obj), (∀ p ∈ r, h.get? p.1 = some p.2 ∧ p.2.cls ≠ .none) ∧ Sup r v d := by
  refine Reads.rec (motive_1 := fun v d _ _ => ∃ r : List (Addr × Obj), (∀ p ∈ r, h.get? p.1 = some p.2 ∧ p.2.cls ≠ .none) ∧ Sup r v d) (motive_2 := fun vs ds _ _ => ∃ r : List (Addr × Obj), (∀ p ∈ r, h.get? p.1 = some p.2 ∧ p.2.cls ≠ .none) ∧ SupA r vs ds) ?_ ?_ ?_ ?_ ?_ ?_ ?_ ?_ ?_ x
  · exact ⟨[], (fun _ m => nomatch m), Sup.none⟩
  · exact fun b => ⟨[], (fun _ m => nomatch m), fun _ _ => ⟨_, .bool b⟩⟩
  · exact fun i t => ⟨[], (fun _ m => nomatch m), Sup.int⟩
  · exact fun x t => ⟨[], (fun _ m => nomatch m), Sup.str⟩
  · intro a o vs n xs as ho hc hd _ ⟨r, k, s⟩
    refine ⟨(a, o) :: r, fun p hp => ?_, fun g q => ?_⟩
    · rcases List.mem_cons.mp hp with rfl | hp
      · exact ⟨ho, by rw [hc]; nofun⟩
      · exact k p hp
    · obtain ⟨bs, b⟩ := s g fun p hp => q p (.tail _ hp)
      exact ⟨_, reads_list_at (q _ (.head _)) hc hd b⟩
  · intro a o vs n xs as ho hc hd _ ⟨r, k, s⟩
    refine ⟨(a, o) :: r, fun p hp => ?_, fun g q => ?_⟩
    · rcases List.mem_cons.mp hp with rfl | hp
      · exact ⟨ho, by rw [hc]; nofun⟩
      · exact k p hp
    · obtain ⟨bs, b⟩ := s g fun p hp => q p (.tail _ hp)
      exact ⟨_, reads_tuple_at (q _ (.head _)) hc hd b⟩
  · intro a o es n kvs as bs ho hc hd _ _ ⟨r, k, s⟩ ⟨r', k', s'⟩
    refine ⟨(a, o) :: (r ++ r'), fun p hp => ?_, fun g q => ?_⟩
    · rcases List.mem_cons.mp hp with rfl | hp
      · exact ⟨ho, by rw [hc]; nofun⟩
      · rcases List.mem_append.mp hp with hp | hp
        · exact k p hp
        · exact k' p hp
    · obtain ⟨cs, c⟩ := s g fun p hp => q p (.tail _ (List.mem_append_left _ hp))
      obtain ⟨ds, d⟩ := s' g fun p hp => q p (.tail _ (List.mem_append_right _ hp))
      exact ⟨_, .dict (q _ (.head _)) hc hd c d⟩
  · exact ⟨[], (fun _ m => nomatch m), SupA.nil⟩
  · intro v vs d ds as bs _ _ ⟨r, k, s⟩ ⟨r', k', s'⟩
    refine ⟨r ++ r', fun p hp => ?_, fun g q => ?_⟩
    · rcases List.mem_append.mp hp with hp | hp
      · exact k p hp
      · exact k' p hp
    · obtain ⟨cs, c⟩ := s g fun p hp => q p (List.mem_append_left _ hp)
      obtain ⟨ds, d⟩ := s' g fun p hp => q p (List.mem_append_right _ hp)
      exact ⟨_, .cons c d⟩
theorem reads_aside {h₀ g : Heap} {P : Addr} {ps : Array Value} {v : Value} {d : PyData} {as : List Addr} (kg : ∀ b o, b ≠ P → h₀.get? b = some o → g.get? b = some o) (hP : h₀.get? P = some { cls := .none, data := .fields ps }) (x : Reads h₀ v d as) : ∃ bs, Reads g v d bs := by
  obtain ⟨r, k, s⟩ := sup_of x
  refine s g fun p hp => kg _ _ (fun e => ?_) (k p hp).1
  have := (k p hp).1
  rw [e, hP] at this
  exact (k p hp).2 (by rw [← Option.some.inj this])
-- a list's and a tuple's reading, opened
theorem reads_list {h : Heap} {v : Value} {ds : List PyData} {as : List Addr} (x : Reads h v (.list ds) as) : ∃ a vs bs, v = .ref a ∧ h.IsList a vs.toArray ∧ ReadsAll h vs ds bs := by
  cases x with
  | list ho hc hd r => exact ⟨_, _, _, rfl, ⟨_, ho, hc, _, by simpa using hd⟩, r⟩
theorem readsAll_at {h : Heap} : ∀ {vs : List Value} {ds : List PyData} {as : List Addr}, ReadsAll h vs ds as → vs.length = ds.length ∧ ∀ (i : Nat) (v : Value), vs[i]? = some v → ∃ (d : PyData) (bs : List Addr), ds[i]? = some d ∧ Reads h v d bs
  | _, _, _, .nil => ⟨rfl, fun i v e => by simp at e⟩
  | _, _, _, .cons p r => by
    obtain ⟨l, k⟩ := readsAll_at r
    refine ⟨by simp [l], fun i v e => ?_⟩
    cases i with
    | zero => simp at e; subst e; exact ⟨_, _, rfl, p⟩
    | succ i => exact k i v (by simpa using e)
theorem readsAll_nil_inv {h : Heap} {vs : List Value} {ds : List PyData} {as : List Addr} (x : ReadsAll h vs ds as) (e : ds = []) : vs = [] := by
  cases x with
  | nil => rfl
  | cons p r => cases e
theorem readsAll_cons_inv {h : Heap} {vs : List Value} {ds : List PyData} {d : PyData} {ds' : List PyData} {as : List Addr} (x : ReadsAll h vs ds as) (e : ds = d :: ds') : ∃ v vs' bs cs, vs = v :: vs' ∧ Reads h v d bs ∧ ReadsAll h vs' ds' cs := by
  cases x with
  | nil => cases e
  | cons p r =>
    cases e
    exact ⟨_, _, _, _, rfl, p, r⟩
theorem reads_int_inv {h : Heap} {v : Value} {d : PyData} {n : Int} {as : List Addr} (x : Reads h v d as) (e : d = .int n) : ∃ t, v = .int n t := by
  cases x <;> cases e
  exact ⟨_, rfl⟩
theorem reads_str_inv {h : Heap} {v : Value} {d : PyData} {x : Str} {as : List Addr} (y : Reads h v d as) (e : d = .str x) : ∃ t, v = .str x t := by
  cases y <;> cases e
  exact ⟨_, rfl⟩
theorem reads_ints {h : Heap} {vs : List Value} {ns : List Int} {as : List Addr} (x : ReadsAll h vs (ns.map PyData.int) as) : IntsAre vs ns := by
  induction ns generalizing vs as with
  | nil => rw [readsAll_nil_inv x rfl]; exact .nil
  | cons n ns ih =>
    obtain ⟨v, vs', bs, cs, rfl, p, r⟩ := readsAll_cons_inv x rfl
    obtain ⟨t, rfl⟩ := reads_int_inv p rfl
    exact .cons n t (ih r)
theorem reads_intlist {h : Heap} {v : Value} {ns : List Int} {as : List Addr} (x : Reads h v (.list (ns.map PyData.int)) as) : ∃ a vs, v = .ref a ∧ h.IsList a vs.toArray ∧ IntsAre vs ns := by
  obtain ⟨a, vs, bs, e, l, r⟩ := reads_list x
  exact ⟨a, vs, e, l, reads_ints r⟩
theorem reads_pair {h : Heap} {v : Value} {k : Str} {d : PyData} {as : List Addr} (x : Reads h v (.tuple [.str k, d]) as) : ∃ a v2 t bs, v = .ref a ∧ IsTup h a #[.str k t, v2] ∧ Reads h v2 d bs := by
  cases x with
  | @tuple a o vs n xs as ho hc hd r =>
    obtain ⟨v1, vs1, _, _, e1, p, r⟩ := readsAll_cons_inv r rfl
    obtain ⟨v2, vs2, bs, _, rfl, q, r⟩ := readsAll_cons_inv r rfl
    obtain rfl := readsAll_nil_inv r rfl
    obtain ⟨t, rfl⟩ := reads_str_inv p rfl
    refine ⟨a, v2, t, bs, rfl, ⟨o, ho, hc, n, ?_⟩, q⟩
    rw [hd, ← Array.toArray_toList (xs := vs), e1]
end Mine
end
section
open PySem PySem.W PyProof.Rows PySem.Calls
set_option Elab.async false
set_option maxRecDepth 100000
set_option maxHeartbeats 8000000
namespace Mine
theorem allLt_mem {d : Nat} : ∀ {l : List (Addr × Obj)}, AllLt d l → ∀ p ∈ l, @LT.lt Nat _ p.1 d
  | [], _, _, h => nomatch h
  | q :: r, x, p, h => by
    rcases List.mem_cons.mp h with rfl | h
    · exact x.1
    · exact allLt_mem x.2 p h
noncomputable abbrev Pr := List Nat × Option (List Nat)
noncomputable def tokC (c : Nat) : Bool := c == 61 || c == 59 || c == 44 || spB c
noncomputable def fin (p : List Pr) (r : List (List Pr)) : List (List Pr) := if p = [] then r else r ++ [p]
/-- what may stand behind the last word: quoted or not, its text, its value -/
inductive Tl : Bool → List Nat → List Nat → Prop
  | e1 : Tl false [61] []
  | e2 : Tl false [61, 61] [61]
  | q1 : Tl true [61, 34, 34] []
  | q2 : Tl true [61, 34, 61, 34] [61]
/-- how a text is taken apart -/
inductive Par (qd : Bool) : List Nat → List Pr → List (List Pr) → List (List Pr) → Prop
  | done {p r} : Par qd [] p r (fin p r)
  | word {ws tok rest p r out} : (∀ c ∈ ws, spB c = true) → (∀ c ∈ tok, tokC c = false) → tok ≠ [] → (rest = [] ∨ ∃ c r', rest = c :: r' ∧ (c = 59 ∨ c = 44)) → Par qd rest (p ++ [(tok, none)]) r out → Par qd (ws ++ tok ++ rest) p r out
  | last {ws tok b t v p r} : (∀ c ∈ ws, spB c = true) → (∀ c ∈ tok, tokC c = false) → tok ≠ [] → Tl b t v → (b = true → qd = true) → Par qd (ws ++ tok ++ t) p r (fin (p ++ [(tok, some v)]) r)
  | comma {rest p r out} : Par qd rest [] (fin p r) out → Par qd (44 :: rest) p r out
  | junk {jk rest p r out} : (∀ c ∈ jk, (c == 61 || c == 59 || spB c) = true) → (∀ c r', rest = c :: r' → (c == 61 || c == 59 || spB c) = false) → Par qd rest p r out → Par qd (59 :: jk ++ rest) p r out
noncomputable def prD (w : Pr) : PyData := .tuple [.str (S w.1), match w.2 with | none => .none | some v => .str (S v)]
noncomputable def prsD (p : List Pr) : PyData := .list (p.map prD)
noncomputable def resD (r : List (List Pr)) : PyData := .list (r.map prsD)

theorem lstrip_head {c : Nat} {r : List Nat} (h : Unicode.isSpace c = false) : Txt.lstrip (S (c :: r)) = S (c :: r) := by
  have h0 : stripLo Unicode.isSpace true (S (c :: r)) = 0 := by
    unfold stripLo
    simp [h]
  unfold Txt.lstrip Txt.stripBy
  rw [if_pos]
  unfold stripSame stripHi
  rw [h0]
  simp
theorem startswith_comma {c : Nat} {r : List Nat} : Txt.startswith (S (c :: r)) (Str.ofString ",") = (c == 44) := by
  have e : (Str.ofString ",") = S [44] := by decide
  rw [e]
  unfold Txt.startswith Builtin.Str.subAt
  rw [S_length, S_length]
  simp only [List.length_cons, List.length_nil]
  have h1 : (0 + (0 + 1) ≤ r.length + 1) := by omega
  rw [decide_eq_true h1, Bool.true_and]
  have h2 : (c :: r).toArray.extract 0 (0 + (0 + 1)) = #[c] := by
    apply Array.ext'
    simp
  rw [h2]
  show (#[c] == #[44]) = _
  by_cases q : c = 44
  · subst q; rfl
  · have : (#[c] == #[44]) = false := by
      rw [beq_eq_false_iff_ne]
      intro h
      exact q (by simpa using h)
    rw [this]
    symm
    simpa using q
section
variable {M : Model} {A : Around} {E : Value → Shared → Prop} {s : Shared} {a : Addr} {str : Value} {vs : List Value}
theorem noBool_match : typeLookup (.type "re.Match") "__bool__" = pure none := by rw [typeLookup_type, builtinLookup_eq_fast]; kernel_rfl
theorem noLen_match : typeLookup (.type "re.Match") "__len__" = pure none := by rw [typeLookup_type, builtinLookup_eq_fast]; kernel_rfl
theorem truthy_match {Q : Bool → Shared → Prop} (h1 : s.heap.get? a = some (mObj str vs)) (h : Q true s) : wpAny M A (truthy (.ref a)) Q E s := by
  have hT : s.TypeIs (.ref a) "re.Match" := ⟨_, h1, rfl⟩
  unfold truthy
  refine wpAny_bind (wpAny_callSpecial?_none (name := Str.ofString "__bool__") hT noBool_match ?_)
  refine wpAny_bind (wpAny_specialOf (name := Str.ofString "__len__") hT noLen_match ?_)
  exact wpAny_pure h
end
end Mine
end
section
open PySem PySem.W PyProof.Rows PySem.Calls
set_option Elab.async false
set_option maxRecDepth 100000
set_option maxHeartbeats 8000000
namespace Mine
section
variable {prog : Program} {w : World} {A : Around} {E : Value → Shared → Prop} {s : Shared} {h₀ : Heap} {L a p q tp : Addr} {m : Str → Option Value} {news : List (Addr × Obj)} {l l2 : List Nat} {t u : Tok} {st hd b e lim k g : Nat} {code : Array Nat} {Q : Value → Shared → Prop}
theorem search_S (F : Fr h₀ L s.heap m) (N : News h₀ L s.heap news) (hp : PatAt h₀ a code 1) (hm : Matches k (Sre.forSearch code l.toArray 1 0 l.length false) (fun m => m.start = st ∧ m.handed = hd ∧ m.marks = #[some b, some e] ∧ m.lastmark = 1 ∧ m.lastindex = 1))
    (hx : l.length < 1000) (hk : k ≤ 1000000) (hbe : b ≤ e)
    (h : ∀ q q' h', Fr h₀ L h' m → News h₀ L h' ((q', mObj (.str (S l) t) (matchVs a l.length q)) :: (q, spanObj st hd b e) :: news) → (∀ p ∈ news, p.1 < q) → q < q' → Q (.ref q') { s with heap := h' }) :
    wpAny (model prog w) A (call (.builtin "re.Pattern.search") [.ref a, .str (S l) t]) Q E s := by
  have e1 : (S l).cps.size = l.length := by simp
  refine search_K (k := k) F N (hp.keeps F.keep) (by rw [e1]; omega) (by omega) hbe (by rw [e1]; exact hm) ?_
  rw [e1]; exact h
theorem search_N (F : Fr h₀ L s.heap m) (hp : PatAt h₀ a code 1) (hf : Fails k (Sre.forSearch code l.toArray 1 0 l.length false)) (hx : l.length < 1000) (hk : k ≤ 1000000) (h : Q .none s) :
    wpAny (model prog w) A (call (.builtin "re.Pattern.search") [.ref a, .str (S l) t]) Q E s := by
  have e1 : (S l).cps.size = l.length := by simp
  exact search_none (k := k) (hp.keeps F.keep) (by rw [e1]; omega) (by omega) (by rw [e1]; exact hf) h
theorem group_S (h1 : s.heap.get? a = some (mObj (.str (S l) t) (matchVs p lim tp))) (h2 : s.heap.get? tp = some (spanObj st hd b e)) (he : (l.drop b).take (e - b) = l2) (hx : l.length < 1000)
    (h : Q (.str (S l2) s.toks) { s with toks := s.toks + 1 }) : wpAny (model prog w) A (call (.builtin "re.Match.group") [.ref a, .int 1 u]) Q E s := by
  have e1 : (S l).cps.size = l.length := by simp
  have hz : (1000 : Nat) ≤ sizeLine := by decide
  refine group_call h1 h2 (by rw [e1]; omega) ?_
  rw [S_extract, he]; exact h
theorem sub_S {fo : Obj} {f : Addr} (F : Fr h₀ L s.heap m) (N : News h₀ L s.heap news) (hp : PatAt h₀ a code 1) (hfo : s.heap.get? f = some fo) (hfc : fo.cls = .type "function") (hf : Fails k (Sre.forSearch code l.toArray 1 0 l.length false)) (hx : l.length < 1000) (hk : k ≤ 1000000)
    (h : ∀ t' h' tk', Fr h₀ L h' m → News h₀ L h' news → Q (.str (S l) t') { s with heap := h', toks := tk' }) :
    wpAny (model prog w) A (call (.builtin "re.Pattern.sub") [.ref a, .ref f, .str (S l) t]) Q E s := by
  have e1 : (S l).cps.size = l.length := by simp
  exact sub_none (k := k) (hp.keeps F.keep) hfo hfc (by rw [e1]; omega) (by omega) (by rw [e1]; exact hf) fun t' h' tk' st => h t' h' tk' (fr_after F st) (news_after N st)
theorem subn_S {n : Nat} (F : Fr h₀ L s.heap m) (N : News h₀ L s.heap news) (hp : PatAt h₀ a code 0) (hm : Matches k (Sre.forSearch code l.toArray 0 0 l.length false) (fun m => m.start = 0 ∧ m.handed = n)) (hf : Fails g (Sre.forSearch code l.toArray 0 n l.length false))
    (hx : l.length < 1000) (hk : k ≤ 1000000) (hg : g ≤ 1000000) (hn : 0 < n) (hd : l.drop n = l2)
    (h : ∀ tp t' u' h' tk', Fr h₀ L h' m → News h₀ L h' ((tp, cntObj (S l2) t' 1 u') :: news) → Off tp news → Q (.ref tp) { s with heap := h', toks := tk' }) :
    wpAny (model prog w) A (call (.builtin "re.Pattern.subn") [.ref a, .str (Str.ofString "") u, .str (S l) t]) Q E s := by
  have e1 : (S l).cps.size = l.length := by simp
  have e2 : (Str.ofString "") = (⟨#[]⟩ : Str) := by decide
  have e3 : (⟨(S l).cps.extract n (S l).cps.size⟩ : Str) = S l2 := by
    rw [S_extract, e1, ← hd, List.take_of_length_le (by simp)]
  rw [e2]
  refine subn_one (hp.keeps F.keep) (by rw [e1]; omega) (k := k) (k' := g) (by omega) (by omega) hn (by rw [e1]; exact hm) (by rw [e1]; exact hf) fun tp t' u' h' tk' st hf' ho => ?_
  rw [e3] at ho
  have hns : ∀ o, s.heap.get? tp ≠ some o := fun o q => by rw [hf'] at q; cases q
  refine h tp t' u' h' tk' (fr_after F st) (News.more (fr_after F st) (news_after N st) ho (fun es n q => by cases q) ?_) (Off.of fun p hp e => ?_)
  · cases q : h₀.get? tp with
    | none => rfl
    | some o => exact absurd (F.keep _ _ q) (hns _)
  · exact absurd (N p hp).1 (by rw [e]; exact hns _)
theorem truthy_L {c : Nat} {vs : List Value} {bb : Bool} {Q : Bool → Shared → Prop} (N : News h₀ L s.heap news) (hm : (a, W.listOf vs.toArray c) ∈ news) (he : vs.isEmpty = bb) (hz : vs.length < 5000) (h : Q (!bb) { s with toks := s.toks + 1 + 1 }) :
    wpAny (model prog w) A (truthy (.ref a)) Q E s :=
  wpAny_truthy_list (N.isList hm) (by simp; omega) (by
    have e : vs.toArray.isEmpty = vs.isEmpty := by cases vs <;> rfl
    rw [e, he]; exact h)
theorem truthy_S {bb : Bool} {Q : Bool → Shared → Prop} (he : l.isEmpty = bb) (hz : l.length < 1000) (h : ∀ k, Q (!bb) { s with toks := k }) : wpAny (model prog w) A (truthy (.str (S l) t)) Q E s :=
  KXt.truthy (by rw [S_length, ← he]; cases l <;> simp; omega) (by rw [S_length]; omega) h
theorem lstrip_S (he : Txt.lstrip (S l) = S l) (hz : l.length < 1000) (h : ∀ t' k, Q (.str (S l) t') { s with toks := k }) : wpAny (model prog w) A (call (.builtin "str.lstrip") [.str (S l) t]) Q E s :=
  SC.lstrip (by rw [he]; exact h) (by have : (1000 : Nat) ≤ sizeLine := by decide
                                      rw [S_length]; omega)
theorem rstrip_S (he : Txt.rstrip (S l) = S l) (hz : l.length < 1000) (h : ∀ t' k, Q (.str (S l) t') { s with toks := k }) : wpAny (model prog w) A (call (.builtin "str.rstrip") [.str (S l) t]) Q E s :=
  SC.rstrip (by rw [he]; exact h) (by have : (1000 : Nat) ≤ sizeLine := by decide
                                      rw [S_length]; omega)
theorem starts_S {bb : Bool} {y : Str} (he : Txt.startswith (S l) y = bb) (h : Q (.bool bb) s) : wpAny (model prog w) A (call (.builtin "str.startswith") [.str (S l) t, .str y u]) Q E s :=
  SC.startswith (by rw [he]; exact h)
end
theorem lay_aside {K : Frag} {h₀ h₁ : Heap} {L c P : Addr} {m mg mb : Str → Option Value} {pp : Program} {ll : List Str} {mean : ExcName → Option Value} (X : K.In h₀) (T : Top pp ll mean mg mb h₀) (F : Fr h₀ L h₁ m) (hc : codeHdIn K c P = true) (hP : h₀.get? P = some (tabObj #[])) (hK : noTabs K = true) :
    ∃ g, (∀ b o, b ≠ P → h₀.get? b = some o → g.get? b = some o) ∧ Fr g L h₁ m ∧ News g L h₁ [(P, tabObj #[])] ∧ K.In g ∧ (∃ pp ll, Top pp ll mean mg mb g) ∧ CodeHd g c P ∧ (∀ a its, h₀.IsList a its → g.IsList a its) := by
  have hT : TabsAt ([(c, P)] : List (Addr × Addr)) h₀ := List.forall_mem_cons.mpr ⟨⟨codeHd_of_K X hc, hP⟩, fun _ h => nomatch h⟩
  exact ⟨ghostOf h₀ [(c, P)], (fun b o ne e => ghost_ne e (by simpa using ne)), ghost_fr hT F, ghost_news hT F News.nil, ghost_K hT X hK, ⟨_, _, ghost_top hT T⟩, (ghost_code hT).1, fun a its x => ghost_list hT x⟩
noncomputable def WhEnd (I : Nat → Shared → Prop) (n : Nat) (s : Shared) : Prop := ∃ m, m < n ∧ I m s
theorem while_rule2 {prog : Program} {w : World} {A : Around} {s : Shared} {env : Env} {body : List Stmt} {Q : Flow → Shared → Prop} {test : Expr} (I : Nat → Shared → Prop)
    (turn : ∀ n s, I n s → wpAny (model prog w) A (isTrue test env (eval test env)) (fun b s₂ =>
        if b then wpAny (model prog w) A (execs body env) (fun f s₃ => match f with
            | .next | .cont => WhEnd I n s₃
            | .brk => Q .next s₃
            | .ret v => Q (.ret v) s₃) (fun _ _ => False) s₂
        else Q .next s₂) (fun _ _ => False) s)
    (n : Nat) (h : I n s) : codeAny (model prog w) A (.whileLoop test body [] env) (fun r s' => match r with | .ok f => Q f s' | .error _ => False) s := while_rule I turn n h
theorem unmatched2_ctr {w : World} {dp un : Nat} {fr : Option (List Env)} {gd : Option (List Code)} {s : Shared} {mean : ExcName → Option Value} {pp : Program} {ll : List Str} {mg mb : Str → Option Value} {Q E : Value → Shared → Prop} {a tp p : Addr} {l l2 : List Nat} {t : Tok} {n b e lim : Nat} (X : (hp w.params).In s.heap) (T : Top pp ll mean mg mb s.heap) (hdp : dp + 1 < 400) (hu : un + 20 * 1 < 4000)
   (h1 : s.heap.get? a = some (mObj (.str (S l) t) (matchVs p lim tp))) (h2 : s.heap.get? tp = some (spanObj 0 n b e)) (hd : l.drop n = l2) (hx : l.length < 1000) (hn : n ≤ l.length)
   (hret : ∀ t' h' tk', s.heap.StaysIn h' → Q (.str (S l2) t') { s with heap := h', toks := tk' }) :
   wpAny (model Challenge.rw_pa0034_01.row.prog w) (At dp un fr gd) (call (.ref 50) [.ref a]) Q E s := by
  subst hd
  exact unmatched_ctr X T hdp hu h1 h2 (by omega) hn hret
end Mine
end
section
open PySem PySem.W PyProof.Rows PySem.Calls
set_option Elab.async false
set_option maxRecDepth 100000
set_option maxHeartbeats 8000000
namespace Mine
structure WSt where
  l : List Nat
  t : Tok
  p : List Pr
  r : List (List Pr)
  pr : Addr
  vs : List Value
  us : List Value
  c1 : Nat
  c2 : Nat
  tb : Obj
  rest : List (Addr × Obj)
noncomputable def WSt.led (x : WSt) (I : Addr) (oi : Obj) (rs : Addr) : List (Addr × Obj) := (x.pr, W.listOf x.vs.toArray x.c1) :: (I, oi) :: (rs, W.listOf x.us.toArray x.c2) :: (72, x.tb) :: x.rest
noncomputable def WSt.nm (x : WSt) (rs : Addr) : List (Str × Value) := [(Str.ofString "text", .str (S x.l) x.t), (Str.ofString "pairs", .ref x.pr), (Str.ofString "result", .ref rs)]
structure WSt.Ok (x : WSt) (qd : Bool) (out : List (List Pr)) (I rs : Addr) : Prop where
  par : Par qd x.l x.p x.r out
  sp : SupA x.rest x.vs (x.p.map prD)
  su : SupA x.rest x.us (x.r.map prsD)
  tb1 : x.l ≠ [] → x.tb = tabObj #[]
  tb2 : qd = false → x.tb = tabObj #[]
  tb3 : ∃ ps, x.tb = tabObj ps
  len : x.l.length + x.vs.length + x.us.length < 5000
  len2 : x.l.length < 1000
  ch : ∀ c ∈ x.l, c < 128
  o1 : @Ne Nat x.pr I
  o2 : @Ne Nat x.pr rs
  o3 : @Ne Nat x.pr 72
  r1 : ∀ p ∈ x.rest, p.1 ≠ x.pr
  r2 : ∀ p ∈ x.rest, p.1 ≠ I
  r3 : ∀ p ∈ x.rest, p.1 ≠ rs
  r4 : ∀ p ∈ x.rest, p.1 ≠ 72
noncomputable def WInv (g : Heap) (L I : Addr) (oi : Obj) (rs : Addr) (qd : Bool) (out : List (List Pr)) (s : Shared) (n : Nat) (s' : Shared) : Prop :=
  ∃ x h tk m, s' = { s with heap := h, toks := tk } ∧ Fr g L h m ∧ Bd m (WSt.nm x rs) ∧ News g L h (WSt.led x I oi rs) ∧ WSt.Ok x qd out I rs ∧ n = x.l.length
local macro_rules | `(tactic| k_all) => `(tactic| assumption)
local macro_rules | `(tactic| walk_at "my:get") => `(tactic| exact News.get (by k_asm) (by k_mem))
local macro_rules | `(tactic| walk_at "my:pat") => `(tactic| exact PatAt.keeps (by assumption) (Fr.keep (by k_asm)))
theorem par_cases {qd : Bool} {l : List Nat} {p : List Pr} {r out : List (List Pr)} (h : Par qd l p r out) : (l = [] ∧ out = fin p r) ∨
   (∃ ws tok rst, l = ws ++ tok ++ rst ∧ (∀ c ∈ ws, spB c = true) ∧ (∀ c ∈ tok, tokC c = false) ∧ tok ≠ [] ∧ (((rst = [] ∨ ∃ c r', rst = c :: r' ∧ (c = 59 ∨ c = 44)) ∧ Par qd rst (p ++ [(tok, none)]) r out) ∨ (∃ b v, Tl b rst v ∧ (b = true → qd = true) ∧ out = fin (p ++ [(tok, some v)]) r))) ∨
   (∃ rst, l = 44 :: rst ∧ Par qd rst [] (fin p r) out) ∨
   (∃ jk rst, l = 59 :: jk ++ rst ∧ (∀ c ∈ jk, (c == 61 || c == 59 || spB c) = true) ∧ (∀ c r', rst = c :: r' → (c == 61 || c == 59 || spB c) = false) ∧ Par qd rst p r out) := by
  cases h with
  | done => exact .inl ⟨rfl, rfl⟩
  | word a b c d e => exact .inr (.inl ⟨_, _, _, rfl, a, b, c, .inl ⟨d, e⟩⟩)
  | last a b c d e => exact .inr (.inl ⟨_, _, _, rfl, a, b, c, .inr ⟨_, _, d, e, rfl⟩⟩)
  | comma a => exact .inr (.inr (.inl ⟨_, rfl, a⟩))
  | junk a b c => exact .inr (.inr (.inr ⟨_, _, rfl, a, b, c⟩))
theorem gen_while {M M' : Model} {A A' : Around} {x : Sem Bool} {y : Sem Flow} {Q1 : Flow → Shared → Prop} {Q2 : Shared → Prop} {E E1 : Value → Shared → Prop} {s : Shared}
   (h : ∀ (R1 : Flow → Shared → Prop) (R2 : Shared → Prop), (∀ f s', Q1 f s' → R1 f s') → (∀ s', Q2 s' → R2 s') → wpAny M A x (fun b s₂ => if b then wpAny M' A' y R1 E1 s₂ else R2 s₂) E s) :
   wpAny M A x (fun b s₂ => if b then wpAny M' A' y Q1 E1 s₂ else Q2 s₂) E s := h Q1 Q2 (fun _ _ h => h) fun _ h => h
theorem split_ctr {w : World} {dp un : Nat} {fr : Option (List Env)} {gd : Option (List Code)} {s : Shared} {mean : ExcName → Option Value} {pp : Program} {ll : List Str} {mg mb : Str → Option Value} {Q E : Value → Shared → Prop} {a : Addr} {l : List Nat} {t : Tok} {qd : Bool} {out : List (List Pr)} (X : (hp w.params).In s.heap) (T : Top pp ll mean mg mb s.heap) (hdp : dp + 3 < 400) (hu : un + 20 * 3 < 4000)
   (hl : s.heap.IsList a [Value.str (S l) t].toArray) (h128 : ∀ c ∈ l, c < 128) (hlen : l.length < 1000) (hp : Par qd l [] [] out) (h72 : s.heap.get? 72 = some (tabObj #[]))
   (hret : ∀ r rest h' tk', (∀ b o, b ≠ 72 → s.heap.get? b = some o → h'.get? b = some o) → (∃ ps, h'.get? 72 = some (tabObj ps)) → (qd = false → h'.get? 72 = some (tabObj #[])) → (∀ p ∈ rest, h'.get? p.1 = some p.2 ∧ s.heap.get? p.1 = none) → Sup rest (.ref r) (resD out) → Q (.ref r) { s with heap := h', toks := tk' }) :
   wpAny (model Challenge.rw_pa0034_01.row.prog w) (At dp un fr gd) (call (.ref 77) [.ref a]) Q E s := by
  rcases s with ⟨h₀, gs, dr, tk, os⟩
  dsimp only at *
  revert X
  k_fill
  intro X
  refine wpAny_call ?_
  k_dflt (refine' enter (binds := [(Str.ofString "header_values", .ref a)]) ?k1 ?k2 ?k3 ?kA ?kB ?kS ?k4 ?k5 ?k6 ?k7 ?_ ?c2 ?c3 ?c4 ?c5; (case k1 => k_asm); (case k2 => exact T.nolimit); (case k3 => k_is); (case kA => (conv => lhs; whnf)); (case kB => (conv => lhs; whnf)); (case kS => (conv => lhs; whnf)); (case k4 => k_is); (case k5 => exact room_of (by omega)); (case k6 => first | exact BindsTo.of_eq rfl | exact binds_K (by k_in) rfl (by k_is) rfl rfl rfl); (case k7 => exact locs rfl); (case c5 => decide); (case c2 => exact rfl); (case c3 => exact rfl); (case c4 => exact rfl))
  intro L h₁ F0 N0
  dsimp only at F0 N0
  (try dsimp only)
  obtain ⟨g, kg, F1, N1, X1, ⟨pp1, ll1, T1⟩, C1, hlg⟩ := lay_aside (c := 76) (P := 72) X T F0 (by kernel_rfl) h72 (by kernel_rfl)
  have hl1 := hlg _ _ hl
  clear X T N0 F0 hl hlg
  refine wpAny_noRaise ?_
  repeat ((fail_if_success (with_reducible show wpAny _ _ (exec (Stmt.For _ _ _ _ _) _) _ _ _)); (first | ((with_reducible show wpAny _ _ (PySem.call _ _ _) _ _ _); first | ((with_reducible show wpAny _ _ (PySem.call (Value.ref _) _ _) _ _ _); ((with_reducible show wpAny _ _ (PySem.call (Value.ref 50) _ _) _ _ _); k_dflt (refine' unmatched2_ctr ?k1 ?k2 ?k3 ?k4 ?x0 ?x1 ?x2 ?x3 ?x4 ?_; (case k1 => exact Frag.In.keeps (by k_asm) (Fr.keep (by k_asm))); (case k2 => exact Top.keeps (by k_asm) (Fr.keep (by k_asm))); (case k3 => (((try simp only [Around.deeper]); omega))); (case k4 => (((try simp only [Around.deeper]); omega))); (case x0 => walk_at "my:get"); (case x1 => walk_at "my:get"); (case x2 => assumption); (case x3 => assumption); (case x4 => first | assumption | omega); intro t' h' tk' st'; (have F' := fr_after (by k_asm) st'); (have N' := news_after (by k_asm) st'); clear st'; (try dsimp only); (try k_sweep)))) | ((with_reducible show wpAny _ _ (PySem.call (Value.builtin "list.append") _ _) _ _ _); k_dflt (refine' append_K ?k1 ?k2 ?k3 ?_ ?z; (case k1 => k_asm); (case k2 => k_asm); (case k3 => k_upd); (case z => assumption); intro h' F' N'; (try k_sweep))) | ((with_reducible show wpAny _ _ (PySem.call (Value.builtin "str.startswith") _ _) _ _ _); k_dflt (refine' starts_S ?k1 ?_; (case k1 => assumption))) | ((with_reducible show wpAny _ _ (PySem.call (Value.builtin "str.rstrip") _ _) _ _ _); k_dflt (refine' rstrip_S ?k1 ?k2 ?_; (case k1 => first | assumption | decide | rfl); (case k2 => first | assumption | decide); intro t' k')) | ((with_reducible show wpAny _ _ (PySem.call (Value.builtin "str.lstrip") _ _) _ _ _); k_dflt (refine' lstrip_S ?k1 ?k2 ?_; (case k1 => assumption); (case k2 => assumption); intro t' k')) | ((with_reducible show wpAny _ _ (PySem.call (Value.builtin "re.Pattern.sub") _ _) _ _ _); k_dflt (refine' sub_S ?k1 ?k2 ?k3 ?k4 ?k5 ?k6 ?k7 ?k8 ?_; (case k6 => assumption); (case k3 => assumption); (case k1 => k_asm); (case k2 => k_asm); (case k4 => walk_at "my:get"); (case k5 => rfl); (case k7 => assumption); (case k8 => omega); intro t' h' tk' F' N'; (try k_sweep))) | ((with_reducible show wpAny _ _ (PySem.call (Value.builtin "re.Pattern.subn") _ _) _ _ _); k_dflt (refine' subn_S ?k1 ?k2 ?k3 ?k4 ?k5 ?k6 ?k7 ?k8 ?k9 ?k10 ?_; (case k4 => assumption); (case k5 => assumption); (case k3 => assumption); (case k1 => k_asm); (case k2 => k_asm); (case k6 => assumption); (case k7 => omega); (case k8 => omega); (case k9 => assumption); (case k10 => assumption); intro tp t' u' h' tk' F' N' l1; (try simp only [Off, and_true] at l1); (try k_sweep))) | ((with_reducible show wpAny _ _ (PySem.call (Value.builtin "re.Match.group") _ _) _ _ _); k_dflt (refine' group_S ?k1 ?k2 ?k3 ?k4 ?_; (case k1 => walk_at "my:get"); (case k2 => walk_at "my:get"); (case k3 => assumption); (case k4 => assumption))) | ((with_reducible show wpAny _ _ (PySem.call (Value.builtin "re.Pattern.search") _ _) _ _ _); k_dflt (first | (refine' search_S ?k1 ?k2 ?k3 ?k4 ?k5 ?k6 ?k7 ?_; (case k3 => assumption); (case k4 => assumption); (case k1 => k_asm); (case k2 => k_asm); (case k5 => assumption); (case k6 => omega); (case k7 => omega); intro q q' h' F' N' l1 l2; (try k_lt l1); (try k_lt2 l2); (try k_sweep)) | (refine' search_N ?k1 ?k3 ?k4 ?k5 ?k6 ?_; (case k3 => assumption); (case k4 => assumption); (case k1 => k_asm); (case k5 => assumption); (case k6 => omega))))) | ((with_reducible show wpAny _ _ (truthy _) _ _ _); first | ((with_reducible show wpAny _ _ (truthy (Value.str _ _)) _ _ _); k_dflt (refine' truthy_S ?k1 ?k2 ?_; (case k1 => assumption); (case k2 => assumption); intro k')) | ((with_reducible show wpAny _ _ (truthy (Value.ref _)) _ _ _); k_dflt (first | (refine' truthy_match ?k1 ?_; (case k1 => walk_at "my:get")) | (refine' truthy_L ?k1 ?k2 ?k3 ?k4 ?_; (case k1 => k_asm); (case k2 => k_mem); (case k3 => assumption); (case k4 => omega))))) | ((with_reducible show wpAny _ _ (getMethod _ _ _) _ _ _); first | ((with_reducible show wpAny _ _ (getMethod (Value.ref _) _ _) _ _ _); ((with_reducible show wpAny _ _ (getMethod (Value.ref _) (Str.ofString "group") _) _ _ _); k_dflt (refine' gm_group ?k1 ?_; (case k1 => walk_at "my:get")))) | ((with_reducible show wpAny _ _ (getMethod (Value.ref _) _ _) _ _ _); ((with_reducible show wpAny _ _ (getMethod (Value.ref _) (Str.ofString "sub") _) _ _ _); k_dflt (refine' gm_sub ?k1 ?_; (case k1 => walk_at "my:pat")))) | ((with_reducible show wpAny _ _ (getMethod (Value.ref _) _ _) _ _ _); ((with_reducible show wpAny _ _ (getMethod (Value.ref _) (Str.ofString "subn") _) _ _ _); k_dflt (refine' gm_subn ?k1 ?_; (case k1 => walk_at "my:pat")))) | ((with_reducible show wpAny _ _ (getMethod (Value.ref _) _ _) _ _ _); ((with_reducible show wpAny _ _ (getMethod (Value.ref _) (Str.ofString "search") _) _ _ _); k_dflt (refine' gm_search ?k1 ?_; (case k1 => walk_at "my:pat"))))) | walk1))
  rename_i rs _ lrs _ F N
  refine For_start ?_
  (first | ((with_reducible show wpAny _ _ (PySem.call _ _ _) _ _ _); first | ((with_reducible show wpAny _ _ (PySem.call (Value.ref _) _ _) _ _ _); ((with_reducible show wpAny _ _ (PySem.call (Value.ref 50) _ _) _ _ _); k_dflt (refine' unmatched2_ctr ?k1 ?k2 ?k3 ?k4 ?x0 ?x1 ?x2 ?x3 ?x4 ?_; (case k1 => exact Frag.In.keeps (by k_asm) (Fr.keep (by k_asm))); (case k2 => exact Top.keeps (by k_asm) (Fr.keep (by k_asm))); (case k3 => (((try simp only [Around.deeper]); omega))); (case k4 => (((try simp only [Around.deeper]); omega))); (case x0 => walk_at "my:get"); (case x1 => walk_at "my:get"); (case x2 => assumption); (case x3 => assumption); (case x4 => first | assumption | omega); intro t' h' tk' st'; (have F' := fr_after (by k_asm) st'); (have N' := news_after (by k_asm) st'); clear st'; (try dsimp only); (try k_sweep)))) | ((with_reducible show wpAny _ _ (PySem.call (Value.builtin "list.append") _ _) _ _ _); k_dflt (refine' append_K ?k1 ?k2 ?k3 ?_ ?z; (case k1 => k_asm); (case k2 => k_asm); (case k3 => k_upd); (case z => assumption); intro h' F' N'; (try k_sweep))) | ((with_reducible show wpAny _ _ (PySem.call (Value.builtin "str.startswith") _ _) _ _ _); k_dflt (refine' starts_S ?k1 ?_; (case k1 => assumption))) | ((with_reducible show wpAny _ _ (PySem.call (Value.builtin "str.rstrip") _ _) _ _ _); k_dflt (refine' rstrip_S ?k1 ?k2 ?_; (case k1 => first | assumption | decide | rfl); (case k2 => first | assumption | decide); intro t' k')) | ((with_reducible show wpAny _ _ (PySem.call (Value.builtin "str.lstrip") _ _) _ _ _); k_dflt (refine' lstrip_S ?k1 ?k2 ?_; (case k1 => assumption); (case k2 => assumption); intro t' k')) | ((with_reducible show wpAny _ _ (PySem.call (Value.builtin "re.Pattern.sub") _ _) _ _ _); k_dflt (refine' sub_S ?k1 ?k2 ?k3 ?k4 ?k5 ?k6 ?k7 ?k8 ?_; (case k6 => assumption); (case k3 => assumption); (case k1 => k_asm); (case k2 => k_asm); (case k4 => walk_at "my:get"); (case k5 => rfl); (case k7 => assumption); (case k8 => omega); intro t' h' tk' F' N'; (try k_sweep))) | ((with_reducible show wpAny _ _ (PySem.call (Value.builtin "re.Pattern.subn") _ _) _ _ _); k_dflt (refine' subn_S ?k1 ?k2 ?k3 ?k4 ?k5 ?k6 ?k7 ?k8 ?k9 ?k10 ?_; (case k4 => assumption); (case k5 => assumption); (case k3 => assumption); (case k1 => k_asm); (case k2 => k_asm); (case k6 => assumption); (case k7 => omega); (case k8 => omega); (case k9 => assumption); (case k10 => assumption); intro tp t' u' h' tk' F' N' l1; (try simp only [Off, and_true] at l1); (try k_sweep))) | ((with_reducible show wpAny _ _ (PySem.call (Value.builtin "re.Match.group") _ _) _ _ _); k_dflt (refine' group_S ?k1 ?k2 ?k3 ?k4 ?_; (case k1 => walk_at "my:get"); (case k2 => walk_at "my:get"); (case k3 => assumption); (case k4 => assumption))) | ((with_reducible show wpAny _ _ (PySem.call (Value.builtin "re.Pattern.search") _ _) _ _ _); k_dflt (first | (refine' search_S ?k1 ?k2 ?k3 ?k4 ?k5 ?k6 ?k7 ?_; (case k3 => assumption); (case k4 => assumption); (case k1 => k_asm); (case k2 => k_asm); (case k5 => assumption); (case k6 => omega); (case k7 => omega); intro q q' h' F' N' l1 l2; (try k_lt l1); (try k_lt2 l2); (try k_sweep)) | (refine' search_N ?k1 ?k3 ?k4 ?k5 ?k6 ?_; (case k3 => assumption); (case k4 => assumption); (case k1 => k_asm); (case k5 => assumption); (case k6 => omega))))) | ((with_reducible show wpAny _ _ (truthy _) _ _ _); first | ((with_reducible show wpAny _ _ (truthy (Value.str _ _)) _ _ _); k_dflt (refine' truthy_S ?k1 ?k2 ?_; (case k1 => assumption); (case k2 => assumption); intro k')) | ((with_reducible show wpAny _ _ (truthy (Value.ref _)) _ _ _); k_dflt (first | (refine' truthy_match ?k1 ?_; (case k1 => walk_at "my:get")) | (refine' truthy_L ?k1 ?k2 ?k3 ?k4 ?_; (case k1 => k_asm); (case k2 => k_mem); (case k3 => assumption); (case k4 => omega))))) | ((with_reducible show wpAny _ _ (getMethod _ _ _) _ _ _); first | ((with_reducible show wpAny _ _ (getMethod (Value.ref _) _ _) _ _ _); ((with_reducible show wpAny _ _ (getMethod (Value.ref _) (Str.ofString "group") _) _ _ _); k_dflt (refine' gm_group ?k1 ?_; (case k1 => walk_at "my:get")))) | ((with_reducible show wpAny _ _ (getMethod (Value.ref _) _ _) _ _ _); ((with_reducible show wpAny _ _ (getMethod (Value.ref _) (Str.ofString "sub") _) _ _ _); k_dflt (refine' gm_sub ?k1 ?_; (case k1 => walk_at "my:pat")))) | ((with_reducible show wpAny _ _ (getMethod (Value.ref _) _ _) _ _ _); ((with_reducible show wpAny _ _ (getMethod (Value.ref _) (Str.ofString "subn") _) _ _ _); k_dflt (refine' gm_subn ?k1 ?_; (case k1 => walk_at "my:pat")))) | ((with_reducible show wpAny _ _ (getMethod (Value.ref _) _ _) _ _ _); ((with_reducible show wpAny _ _ (getMethod (Value.ref _) (Str.ofString "search") _) _ _ _); k_dflt (refine' gm_search ?k1 ?_; (case k1 => walk_at "my:pat"))))) | walk1)
  refine loop_vals (vs := [Value.str (S l) t]) (fun c : List Value × Nat × Obj × List (Addr × Obj) => (rs, W.listOf c.1.toArray c.2.1) :: (72, c.2.2.1) :: c.2.2.2) (fun _ => [(Str.ofString "result", Value.ref rs)])
    (fun i c => (i = 0 → c = ([], 0, tabObj #[], [])) ∧ (i = 1 → SupA c.2.2.2 c.1 (out.map prsD) ∧ (qd = false → c.2.2.1 = tabObj #[]) ∧ (∃ ps, c.2.2.1 = tabObj ps) ∧ (∀ p ∈ c.2.2.2, p.1 ≠ rs) ∧ ∀ p ∈ c.2.2.2, p.1 ≠ 72)) ([], 0, tabObj #[], []) rfl rfl rfl hl1 F N ⟨rfl, trivial⟩ ⟨fun _ => rfl, fun e => nomatch e⟩ ?turn ?done
  case done =>
    rintro ⟨us, cnt, tb, rest⟩ m h tk1 ⟨_, hi⟩ F' N'
    obtain ⟨hS, hq, ⟨ps, hps⟩, o1, o2⟩ := hi rfl
    dsimp only at F' N' hS hq hps o1 o2
    clear F N
    (repeat' (first | ((with_reducible show wpAny _ _ (PySem.call _ _ _) _ _ _); first | ((with_reducible show wpAny _ _ (PySem.call (Value.ref _) _ _) _ _ _); ((with_reducible show wpAny _ _ (PySem.call (Value.ref 50) _ _) _ _ _); k_dflt (refine' unmatched2_ctr ?k1 ?k2 ?k3 ?k4 ?x0 ?x1 ?x2 ?x3 ?x4 ?_; (case k1 => exact Frag.In.keeps (by k_asm) (Fr.keep (by k_asm))); (case k2 => exact Top.keeps (by k_asm) (Fr.keep (by k_asm))); (case k3 => (((try simp only [Around.deeper]); omega))); (case k4 => (((try simp only [Around.deeper]); omega))); (case x0 => walk_at "my:get"); (case x1 => walk_at "my:get"); (case x2 => assumption); (case x3 => assumption); (case x4 => first | assumption | omega); intro t' h' tk' st'; (have F' := fr_after (by k_asm) st'); (have N' := news_after (by k_asm) st'); clear st'; (try dsimp only); (try k_sweep)))) | ((with_reducible show wpAny _ _ (PySem.call (Value.builtin "list.append") _ _) _ _ _); k_dflt (refine' append_K ?k1 ?k2 ?k3 ?_ ?z; (case k1 => k_asm); (case k2 => k_asm); (case k3 => k_upd); (case z => assumption); intro h' F' N'; (try k_sweep))) | ((with_reducible show wpAny _ _ (PySem.call (Value.builtin "str.startswith") _ _) _ _ _); k_dflt (refine' starts_S ?k1 ?_; (case k1 => assumption))) | ((with_reducible show wpAny _ _ (PySem.call (Value.builtin "str.rstrip") _ _) _ _ _); k_dflt (refine' rstrip_S ?k1 ?k2 ?_; (case k1 => first | assumption | decide | rfl); (case k2 => first | assumption | decide); intro t' k')) | ((with_reducible show wpAny _ _ (PySem.call (Value.builtin "str.lstrip") _ _) _ _ _); k_dflt (refine' lstrip_S ?k1 ?k2 ?_; (case k1 => assumption); (case k2 => assumption); intro t' k')) | ((with_reducible show wpAny _ _ (PySem.call (Value.builtin "re.Pattern.sub") _ _) _ _ _); k_dflt (refine' sub_S ?k1 ?k2 ?k3 ?k4 ?k5 ?k6 ?k7 ?k8 ?_; (case k6 => assumption); (case k3 => assumption); (case k1 => k_asm); (case k2 => k_asm); (case k4 => walk_at "my:get"); (case k5 => rfl); (case k7 => assumption); (case k8 => omega); intro t' h' tk' F' N'; (try k_sweep))) | ((with_reducible show wpAny _ _ (PySem.call (Value.builtin "re.Pattern.subn") _ _) _ _ _); k_dflt (refine' subn_S ?k1 ?k2 ?k3 ?k4 ?k5 ?k6 ?k7 ?k8 ?k9 ?k10 ?_; (case k4 => assumption); (case k5 => assumption); (case k3 => assumption); (case k1 => k_asm); (case k2 => k_asm); (case k6 => assumption); (case k7 => omega); (case k8 => omega); (case k9 => assumption); (case k10 => assumption); intro tp t' u' h' tk' F' N' l1; (try simp only [Off, and_true] at l1); (try k_sweep))) | ((with_reducible show wpAny _ _ (PySem.call (Value.builtin "re.Match.group") _ _) _ _ _); k_dflt (refine' group_S ?k1 ?k2 ?k3 ?k4 ?_; (case k1 => walk_at "my:get"); (case k2 => walk_at "my:get"); (case k3 => assumption); (case k4 => assumption))) | ((with_reducible show wpAny _ _ (PySem.call (Value.builtin "re.Pattern.search") _ _) _ _ _); k_dflt (first | (refine' search_S ?k1 ?k2 ?k3 ?k4 ?k5 ?k6 ?k7 ?_; (case k3 => assumption); (case k4 => assumption); (case k1 => k_asm); (case k2 => k_asm); (case k5 => assumption); (case k6 => omega); (case k7 => omega); intro q q' h' F' N' l1 l2; (try k_lt l1); (try k_lt2 l2); (try k_sweep)) | (refine' search_N ?k1 ?k3 ?k4 ?k5 ?k6 ?_; (case k3 => assumption); (case k4 => assumption); (case k1 => k_asm); (case k5 => assumption); (case k6 => omega))))) | ((with_reducible show wpAny _ _ (truthy _) _ _ _); first | ((with_reducible show wpAny _ _ (truthy (Value.str _ _)) _ _ _); k_dflt (refine' truthy_S ?k1 ?k2 ?_; (case k1 => assumption); (case k2 => assumption); intro k')) | ((with_reducible show wpAny _ _ (truthy (Value.ref _)) _ _ _); k_dflt (first | (refine' truthy_match ?k1 ?_; (case k1 => walk_at "my:get")) | (refine' truthy_L ?k1 ?k2 ?k3 ?k4 ?_; (case k1 => k_asm); (case k2 => k_mem); (case k3 => assumption); (case k4 => omega))))) | ((with_reducible show wpAny _ _ (getMethod _ _ _) _ _ _); first | ((with_reducible show wpAny _ _ (getMethod (Value.ref _) _ _) _ _ _); ((with_reducible show wpAny _ _ (getMethod (Value.ref _) (Str.ofString "group") _) _ _ _); k_dflt (refine' gm_group ?k1 ?_; (case k1 => walk_at "my:get")))) | ((with_reducible show wpAny _ _ (getMethod (Value.ref _) _ _) _ _ _); ((with_reducible show wpAny _ _ (getMethod (Value.ref _) (Str.ofString "sub") _) _ _ _); k_dflt (refine' gm_sub ?k1 ?_; (case k1 => walk_at "my:pat")))) | ((with_reducible show wpAny _ _ (getMethod (Value.ref _) _ _) _ _ _); ((with_reducible show wpAny _ _ (getMethod (Value.ref _) (Str.ofString "subn") _) _ _ _); k_dflt (refine' gm_subn ?k1 ?_; (case k1 => walk_at "my:pat")))) | ((with_reducible show wpAny _ _ (getMethod (Value.ref _) _ _) _ _ _); ((with_reducible show wpAny _ _ (getMethod (Value.ref _) (Str.ofString "search") _) _ _ _); k_dflt (refine' gm_search ?k1 ?_; (case k1 => walk_at "my:pat"))))) | (k_unfold; (try dsimp only)) | (k_end; wrow_close) | walk1 | (dsimp only; walk1) | (leave1; (try dsimp only))))
    have i72 := (N' _ (.tail _ (.head _))).1
    refine hret rs ((rs, W.listOf us.toArray cnt) :: rest) _ _ (fun b o ne e => F'.keep b o (kg b o ne e)) ⟨ps, by rw [← hps]; exact i72⟩ (fun e => by rw [← hq e]; exact i72) (fun p hp => ?_) (Sup.list (hS.mono fun p hp => .tail _ hp) (.head _))
    have hp' : p ∈ (rs, W.listOf us.toArray cnt) :: (72, tb) :: rest := by
      rcases List.mem_cons.mp hp with rfl | hp
      · exact .head _
      · exact .tail _ (.tail _ hp)
    refine ⟨(N' p hp').1, ?_⟩
    have ne : p.1 ≠ 72 := by
      rcases List.mem_cons.mp hp with rfl | hp
      · exact (show @Ne Nat rs 72 from by omega)
      · exact o2 p hp
    have z := (N' p hp').2.2
    cases q : h₀.get? p.1 with
    | none => rfl
    | some o => rw [kg _ o ne q] at z; cases z
  case turn =>
    rintro I i v m₁ h tk1 oi ⟨us, cnt, tb, rest⟩ hv hoff ⟨hi, hj⟩ F' N'
    clear hj
    have hi0 : i = 0 := by
      have := (List.getElem?_eq_some_iff.mp hv).1
      simp at this
      exact this
    subst hi0
    obtain ⟨rfl, rfl, rfl, rfl⟩ : us = [] ∧ cnt = 0 ∧ tb = tabObj #[] ∧ rest = [] := by simpa using hi rfl
    obtain rfl : v = .str (S l) t := by simpa using hv.symm
    dsimp only at F' N'
    obtain ⟨o1, o2, _⟩ := hoff
    clear F N hi
    repeat ((fail_if_success (with_reducible show wpAny _ _ (exec (Stmt.While _ _ _ _) _) _ _ _)); (first | ((with_reducible show wpAny _ _ (PySem.call _ _ _) _ _ _); first | ((with_reducible show wpAny _ _ (PySem.call (Value.ref _) _ _) _ _ _); ((with_reducible show wpAny _ _ (PySem.call (Value.ref 50) _ _) _ _ _); k_dflt (refine' unmatched2_ctr ?k1 ?k2 ?k3 ?k4 ?x0 ?x1 ?x2 ?x3 ?x4 ?_; (case k1 => exact Frag.In.keeps (by k_asm) (Fr.keep (by k_asm))); (case k2 => exact Top.keeps (by k_asm) (Fr.keep (by k_asm))); (case k3 => (((try simp only [Around.deeper]); omega))); (case k4 => (((try simp only [Around.deeper]); omega))); (case x0 => walk_at "my:get"); (case x1 => walk_at "my:get"); (case x2 => assumption); (case x3 => assumption); (case x4 => first | assumption | omega); intro t' h' tk' st'; (have F' := fr_after (by k_asm) st'); (have N' := news_after (by k_asm) st'); clear st'; (try dsimp only); (try k_sweep)))) | ((with_reducible show wpAny _ _ (PySem.call (Value.builtin "list.append") _ _) _ _ _); k_dflt (refine' append_K ?k1 ?k2 ?k3 ?_ ?z; (case k1 => k_asm); (case k2 => k_asm); (case k3 => k_upd); (case z => assumption); intro h' F' N'; (try k_sweep))) | ((with_reducible show wpAny _ _ (PySem.call (Value.builtin "str.startswith") _ _) _ _ _); k_dflt (refine' starts_S ?k1 ?_; (case k1 => assumption))) | ((with_reducible show wpAny _ _ (PySem.call (Value.builtin "str.rstrip") _ _) _ _ _); k_dflt (refine' rstrip_S ?k1 ?k2 ?_; (case k1 => first | assumption | decide | rfl); (case k2 => first | assumption | decide); intro t' k')) | ((with_reducible show wpAny _ _ (PySem.call (Value.builtin "str.lstrip") _ _) _ _ _); k_dflt (refine' lstrip_S ?k1 ?k2 ?_; (case k1 => assumption); (case k2 => assumption); intro t' k')) | ((with_reducible show wpAny _ _ (PySem.call (Value.builtin "re.Pattern.sub") _ _) _ _ _); k_dflt (refine' sub_S ?k1 ?k2 ?k3 ?k4 ?k5 ?k6 ?k7 ?k8 ?_; (case k6 => assumption); (case k3 => assumption); (case k1 => k_asm); (case k2 => k_asm); (case k4 => walk_at "my:get"); (case k5 => rfl); (case k7 => assumption); (case k8 => omega); intro t' h' tk' F' N'; (try k_sweep))) | ((with_reducible show wpAny _ _ (PySem.call (Value.builtin "re.Pattern.subn") _ _) _ _ _); k_dflt (refine' subn_S ?k1 ?k2 ?k3 ?k4 ?k5 ?k6 ?k7 ?k8 ?k9 ?k10 ?_; (case k4 => assumption); (case k5 => assumption); (case k3 => assumption); (case k1 => k_asm); (case k2 => k_asm); (case k6 => assumption); (case k7 => omega); (case k8 => omega); (case k9 => assumption); (case k10 => assumption); intro tp t' u' h' tk' F' N' l1; (try simp only [Off, and_true] at l1); (try k_sweep))) | ((with_reducible show wpAny _ _ (PySem.call (Value.builtin "re.Match.group") _ _) _ _ _); k_dflt (refine' group_S ?k1 ?k2 ?k3 ?k4 ?_; (case k1 => walk_at "my:get"); (case k2 => walk_at "my:get"); (case k3 => assumption); (case k4 => assumption))) | ((with_reducible show wpAny _ _ (PySem.call (Value.builtin "re.Pattern.search") _ _) _ _ _); k_dflt (first | (refine' search_S ?k1 ?k2 ?k3 ?k4 ?k5 ?k6 ?k7 ?_; (case k3 => assumption); (case k4 => assumption); (case k1 => k_asm); (case k2 => k_asm); (case k5 => assumption); (case k6 => omega); (case k7 => omega); intro q q' h' F' N' l1 l2; (try k_lt l1); (try k_lt2 l2); (try k_sweep)) | (refine' search_N ?k1 ?k3 ?k4 ?k5 ?k6 ?_; (case k3 => assumption); (case k4 => assumption); (case k1 => k_asm); (case k5 => assumption); (case k6 => omega))))) | ((with_reducible show wpAny _ _ (truthy _) _ _ _); first | ((with_reducible show wpAny _ _ (truthy (Value.str _ _)) _ _ _); k_dflt (refine' truthy_S ?k1 ?k2 ?_; (case k1 => assumption); (case k2 => assumption); intro k')) | ((with_reducible show wpAny _ _ (truthy (Value.ref _)) _ _ _); k_dflt (first | (refine' truthy_match ?k1 ?_; (case k1 => walk_at "my:get")) | (refine' truthy_L ?k1 ?k2 ?k3 ?k4 ?_; (case k1 => k_asm); (case k2 => k_mem); (case k3 => assumption); (case k4 => omega))))) | ((with_reducible show wpAny _ _ (getMethod _ _ _) _ _ _); first | ((with_reducible show wpAny _ _ (getMethod (Value.ref _) _ _) _ _ _); ((with_reducible show wpAny _ _ (getMethod (Value.ref _) (Str.ofString "group") _) _ _ _); k_dflt (refine' gm_group ?k1 ?_; (case k1 => walk_at "my:get")))) | ((with_reducible show wpAny _ _ (getMethod (Value.ref _) _ _) _ _ _); ((with_reducible show wpAny _ _ (getMethod (Value.ref _) (Str.ofString "sub") _) _ _ _); k_dflt (refine' gm_sub ?k1 ?_; (case k1 => walk_at "my:pat")))) | ((with_reducible show wpAny _ _ (getMethod (Value.ref _) _ _) _ _ _); ((with_reducible show wpAny _ _ (getMethod (Value.ref _) (Str.ofString "subn") _) _ _ _); k_dflt (refine' gm_subn ?k1 ?_; (case k1 => walk_at "my:pat")))) | ((with_reducible show wpAny _ _ (getMethod (Value.ref _) _ _) _ _ _); ((with_reducible show wpAny _ _ (getMethod (Value.ref _) (Str.ofString "search") _) _ _ _); k_dflt (refine' gm_search ?k1 ?_; (case k1 => walk_at "my:pat"))))) | walk1))
    rename_i pr0 _ lpr _ F N
    have n1 : @Ne Nat rs I := o1
    have n2 : @Ne Nat 72 I := o2
    refine While_start ?_
    refine while_rule2 (WInv g L I oi rs qd out { heap := h, gens := gs, drawn := dr, toks := tk1, os := os }) ?wturn l.length ⟨⟨l, t, [], [], pr0, [], [], 0, 0, tabObj #[], []⟩, _, _, _, rfl, F, ⟨rfl, rfl, rfl, trivial⟩, N, ⟨hp, SupA.nil, SupA.nil, fun _ => rfl, fun _ => rfl, ⟨_, rfl⟩, by simp; omega, hlen, h128, (by show @Ne Nat pr0 I; omega), (by show @Ne Nat pr0 rs; omega), (by show @Ne Nat pr0 72; omega), (fun _ m => nomatch m), (fun _ m => nomatch m), (fun _ m => nomatch m), (fun _ m => nomatch m)⟩, rfl⟩
    case wturn =>
      rintro n s' ⟨x, h2, tk2, m2, rfl, F2, B2, N2, O, rfl⟩
      obtain ⟨l', t', p, r, pr, vs, us, k1, k2, tb, rest⟩ := x
      obtain ⟨par, sp, su, tb1, tb2, tb3, ln, ln2, ch, q1, q2, q3, r1, r2, r3, r4⟩ := O
      dsimp only [WSt.led, WSt.nm] at par sp su tb1 tb2 tb3 ln ln2 ch q1 q2 q3 r1 r2 r3 r4 B2 N2
      have F3 := fr_wr' _ B2.all F2
      clear F F2 N hp hret B2
      have lsp := sp.length fun p hp => (N2 p (by repeat (first | exact hp | refine List.Mem.tail _ ?_))).1
      have hsz : (6000 : Nat) ≤ sizeLine := by decide
      have hz1 : vs.toArray.size ≤ sizeLine := by simp; omega
      have hz2 : us.toArray.size ≤ sizeLine := by simp; omega
      have hu5 : vs.length < 5000 := by omega
      rw [List.length_map] at lsp
      have P43 := pat43 X1
      have P55 := pat55 X1
      have P60 := pat60 X1
      have P65 := pat65 X1
      have P70 := pat70 X1
      have n1' : @Ne Nat I rs := Ne.symm n1
      have n2' : @Ne Nat I 72 := Ne.symm n2
      have q1' : @Ne Nat I pr := Ne.symm q1
      have q2' : @Ne Nat rs pr := Ne.symm q2
      have q3' : @Ne Nat 72 pr := Ne.symm q3
      have m1 : @Ne Nat rs 72 := Nat.ne_of_gt lrs
      have m2 : @Ne Nat 72 rs := Nat.ne_of_lt lrs
      refine gen_while ?_
      intro R1 R2 hR1 hR2
      rcases par_cases par with ⟨rfl, rfl⟩ | ⟨ws, tok, rst, rfl, hws, htok, hne, hrest⟩ | ⟨rst, rfl, hpar⟩ | ⟨jk, rst, rfl, hj, hr, hpar⟩
      · have he : ([] : List Nat).isEmpty = true := rfl
        by_cases hpe : p = []
        · subst hpe
          obtain rfl : vs = [] := List.length_eq_zero_iff.mp lsp
          have hve : ([] : List Value).isEmpty = true := rfl
          (repeat' (first | ((with_reducible show wpAny _ _ (PySem.call _ _ _) _ _ _); first | ((with_reducible show wpAny _ _ (PySem.call (Value.ref _) _ _) _ _ _); ((with_reducible show wpAny _ _ (PySem.call (Value.ref 50) _ _) _ _ _); k_dflt (refine' unmatched2_ctr ?k1 ?k2 ?k3 ?k4 ?x0 ?x1 ?x2 ?x3 ?x4 ?_; (case k1 => exact Frag.In.keeps (by k_asm) (Fr.keep (by k_asm))); (case k2 => exact Top.keeps (by k_asm) (Fr.keep (by k_asm))); (case k3 => (((try simp only [Around.deeper]); omega))); (case k4 => (((try simp only [Around.deeper]); omega))); (case x0 => walk_at "my:get"); (case x1 => walk_at "my:get"); (case x2 => assumption); (case x3 => assumption); (case x4 => first | assumption | omega); intro t' h' tk' st'; (have F' := fr_after (by k_asm) st'); (have N' := news_after (by k_asm) st'); clear st'; (try dsimp only); (try k_sweep)))) | ((with_reducible show wpAny _ _ (PySem.call (Value.builtin "list.append") _ _) _ _ _); k_dflt (refine' append_K ?k1 ?k2 ?k3 ?_ ?z; (case k1 => k_asm); (case k2 => k_asm); (case k3 => k_upd); (case z => assumption); intro h' F' N'; (try k_sweep))) | ((with_reducible show wpAny _ _ (PySem.call (Value.builtin "str.startswith") _ _) _ _ _); k_dflt (refine' starts_S ?k1 ?_; (case k1 => assumption))) | ((with_reducible show wpAny _ _ (PySem.call (Value.builtin "str.rstrip") _ _) _ _ _); k_dflt (refine' rstrip_S ?k1 ?k2 ?_; (case k1 => first | assumption | decide | rfl); (case k2 => first | assumption | decide); intro t' k')) | ((with_reducible show wpAny _ _ (PySem.call (Value.builtin "str.lstrip") _ _) _ _ _); k_dflt (refine' lstrip_S ?k1 ?k2 ?_; (case k1 => assumption); (case k2 => assumption); intro t' k')) | ((with_reducible show wpAny _ _ (PySem.call (Value.builtin "re.Pattern.sub") _ _) _ _ _); k_dflt (refine' sub_S ?k1 ?k2 ?k3 ?k4 ?k5 ?k6 ?k7 ?k8 ?_; (case k6 => assumption); (case k3 => assumption); (case k1 => k_asm); (case k2 => k_asm); (case k4 => walk_at "my:get"); (case k5 => rfl); (case k7 => assumption); (case k8 => omega); intro t' h' tk' F' N'; (try k_sweep))) | ((with_reducible show wpAny _ _ (PySem.call (Value.builtin "re.Pattern.subn") _ _) _ _ _); k_dflt (refine' subn_S ?k1 ?k2 ?k3 ?k4 ?k5 ?k6 ?k7 ?k8 ?k9 ?k10 ?_; (case k4 => assumption); (case k5 => assumption); (case k3 => assumption); (case k1 => k_asm); (case k2 => k_asm); (case k6 => assumption); (case k7 => omega); (case k8 => omega); (case k9 => assumption); (case k10 => assumption); intro tp t' u' h' tk' F' N' l1; (try simp only [Off, and_true] at l1); (try k_sweep))) | ((with_reducible show wpAny _ _ (PySem.call (Value.builtin "re.Match.group") _ _) _ _ _); k_dflt (refine' group_S ?k1 ?k2 ?k3 ?k4 ?_; (case k1 => walk_at "my:get"); (case k2 => walk_at "my:get"); (case k3 => assumption); (case k4 => assumption))) | ((with_reducible show wpAny _ _ (PySem.call (Value.builtin "re.Pattern.search") _ _) _ _ _); k_dflt (first | (refine' search_S ?k1 ?k2 ?k3 ?k4 ?k5 ?k6 ?k7 ?_; (case k3 => assumption); (case k4 => assumption); (case k1 => k_asm); (case k2 => k_asm); (case k5 => assumption); (case k6 => omega); (case k7 => omega); intro q q' h' F' N' l1 l2; (try k_lt l1); (try k_lt2 l2); (try k_sweep)) | (refine' search_N ?k1 ?k3 ?k4 ?k5 ?k6 ?_; (case k3 => assumption); (case k4 => assumption); (case k1 => k_asm); (case k5 => assumption); (case k6 => omega))))) | ((with_reducible show wpAny _ _ (truthy _) _ _ _); first | ((with_reducible show wpAny _ _ (truthy (Value.str _ _)) _ _ _); k_dflt (refine' truthy_S ?k1 ?k2 ?_; (case k1 => assumption); (case k2 => assumption); intro k')) | ((with_reducible show wpAny _ _ (truthy (Value.ref _)) _ _ _); k_dflt (first | (refine' truthy_match ?k1 ?_; (case k1 => walk_at "my:get")) | (refine' truthy_L ?k1 ?k2 ?k3 ?k4 ?_; (case k1 => k_asm); (case k2 => k_mem); (case k3 => assumption); (case k4 => omega))))) | ((with_reducible show wpAny _ _ (getMethod _ _ _) _ _ _); first | ((with_reducible show wpAny _ _ (getMethod (Value.ref _) _ _) _ _ _); ((with_reducible show wpAny _ _ (getMethod (Value.ref _) (Str.ofString "group") _) _ _ _); k_dflt (refine' gm_group ?k1 ?_; (case k1 => walk_at "my:get")))) | ((with_reducible show wpAny _ _ (getMethod (Value.ref _) _ _) _ _ _); ((with_reducible show wpAny _ _ (getMethod (Value.ref _) (Str.ofString "sub") _) _ _ _); k_dflt (refine' gm_sub ?k1 ?_; (case k1 => walk_at "my:pat")))) | ((with_reducible show wpAny _ _ (getMethod (Value.ref _) _ _) _ _ _); ((with_reducible show wpAny _ _ (getMethod (Value.ref _) (Str.ofString "subn") _) _ _ _); k_dflt (refine' gm_subn ?k1 ?_; (case k1 => walk_at "my:pat")))) | ((with_reducible show wpAny _ _ (getMethod (Value.ref _) _ _) _ _ _); ((with_reducible show wpAny _ _ (getMethod (Value.ref _) (Str.ofString "search") _) _ _ _); k_dflt (refine' gm_search ?k1 ?_; (case k1 => walk_at "my:pat"))))) | (k_unfold; (try dsimp only)) | (k_end; wrow_close) | walk1 | (dsimp only; walk1) | (leave1; (try dsimp only))))
          refine hR2 _ ?_
          (repeat' (first | ((with_reducible show wpAny _ _ (PySem.call _ _ _) _ _ _); first | ((with_reducible show wpAny _ _ (PySem.call (Value.ref _) _ _) _ _ _); ((with_reducible show wpAny _ _ (PySem.call (Value.ref 50) _ _) _ _ _); k_dflt (refine' unmatched2_ctr ?k1 ?k2 ?k3 ?k4 ?x0 ?x1 ?x2 ?x3 ?x4 ?_; (case k1 => exact Frag.In.keeps (by k_asm) (Fr.keep (by k_asm))); (case k2 => exact Top.keeps (by k_asm) (Fr.keep (by k_asm))); (case k3 => (((try simp only [Around.deeper]); omega))); (case k4 => (((try simp only [Around.deeper]); omega))); (case x0 => walk_at "my:get"); (case x1 => walk_at "my:get"); (case x2 => assumption); (case x3 => assumption); (case x4 => first | assumption | omega); intro t' h' tk' st'; (have F' := fr_after (by k_asm) st'); (have N' := news_after (by k_asm) st'); clear st'; (try dsimp only); (try k_sweep)))) | ((with_reducible show wpAny _ _ (PySem.call (Value.builtin "list.append") _ _) _ _ _); k_dflt (refine' append_K ?k1 ?k2 ?k3 ?_ ?z; (case k1 => k_asm); (case k2 => k_asm); (case k3 => k_upd); (case z => assumption); intro h' F' N'; (try k_sweep))) | ((with_reducible show wpAny _ _ (PySem.call (Value.builtin "str.startswith") _ _) _ _ _); k_dflt (refine' starts_S ?k1 ?_; (case k1 => assumption))) | ((with_reducible show wpAny _ _ (PySem.call (Value.builtin "str.rstrip") _ _) _ _ _); k_dflt (refine' rstrip_S ?k1 ?k2 ?_; (case k1 => first | assumption | decide | rfl); (case k2 => first | assumption | decide); intro t' k')) | ((with_reducible show wpAny _ _ (PySem.call (Value.builtin "str.lstrip") _ _) _ _ _); k_dflt (refine' lstrip_S ?k1 ?k2 ?_; (case k1 => assumption); (case k2 => assumption); intro t' k')) | ((with_reducible show wpAny _ _ (PySem.call (Value.builtin "re.Pattern.sub") _ _) _ _ _); k_dflt (refine' sub_S ?k1 ?k2 ?k3 ?k4 ?k5 ?k6 ?k7 ?k8 ?_; (case k6 => assumption); (case k3 => assumption); (case k1 => k_asm); (case k2 => k_asm); (case k4 => walk_at "my:get"); (case k5 => rfl); (case k7 => assumption); (case k8 => omega); intro t' h' tk' F' N'; (try k_sweep))) | ((with_reducible show wpAny _ _ (PySem.call (Value.builtin "re.Pattern.subn") _ _) _ _ _); k_dflt (refine' subn_S ?k1 ?k2 ?k3 ?k4 ?k5 ?k6 ?k7 ?k8 ?k9 ?k10 ?_; (case k4 => assumption); (case k5 => assumption); (case k3 => assumption); (case k1 => k_asm); (case k2 => k_asm); (case k6 => assumption); (case k7 => omega); (case k8 => omega); (case k9 => assumption); (case k10 => assumption); intro tp t' u' h' tk' F' N' l1; (try simp only [Off, and_true] at l1); (try k_sweep))) | ((with_reducible show wpAny _ _ (PySem.call (Value.builtin "re.Match.group") _ _) _ _ _); k_dflt (refine' group_S ?k1 ?k2 ?k3 ?k4 ?_; (case k1 => walk_at "my:get"); (case k2 => walk_at "my:get"); (case k3 => assumption); (case k4 => assumption))) | ((with_reducible show wpAny _ _ (PySem.call (Value.builtin "re.Pattern.search") _ _) _ _ _); k_dflt (first | (refine' search_S ?k1 ?k2 ?k3 ?k4 ?k5 ?k6 ?k7 ?_; (case k3 => assumption); (case k4 => assumption); (case k1 => k_asm); (case k2 => k_asm); (case k5 => assumption); (case k6 => omega); (case k7 => omega); intro q q' h' F' N' l1 l2; (try k_lt l1); (try k_lt2 l2); (try k_sweep)) | (refine' search_N ?k1 ?k3 ?k4 ?k5 ?k6 ?_; (case k3 => assumption); (case k4 => assumption); (case k1 => k_asm); (case k5 => assumption); (case k6 => omega))))) | ((with_reducible show wpAny _ _ (truthy _) _ _ _); first | ((with_reducible show wpAny _ _ (truthy (Value.str _ _)) _ _ _); k_dflt (refine' truthy_S ?k1 ?k2 ?_; (case k1 => assumption); (case k2 => assumption); intro k')) | ((with_reducible show wpAny _ _ (truthy (Value.ref _)) _ _ _); k_dflt (first | (refine' truthy_match ?k1 ?_; (case k1 => walk_at "my:get")) | (refine' truthy_L ?k1 ?k2 ?k3 ?k4 ?_; (case k1 => k_asm); (case k2 => k_mem); (case k3 => assumption); (case k4 => omega))))) | ((with_reducible show wpAny _ _ (getMethod _ _ _) _ _ _); first | ((with_reducible show wpAny _ _ (getMethod (Value.ref _) _ _) _ _ _); ((with_reducible show wpAny _ _ (getMethod (Value.ref _) (Str.ofString "group") _) _ _ _); k_dflt (refine' gm_group ?k1 ?_; (case k1 => walk_at "my:get")))) | ((with_reducible show wpAny _ _ (getMethod (Value.ref _) _ _) _ _ _); ((with_reducible show wpAny _ _ (getMethod (Value.ref _) (Str.ofString "sub") _) _ _ _); k_dflt (refine' gm_sub ?k1 ?_; (case k1 => walk_at "my:pat")))) | ((with_reducible show wpAny _ _ (getMethod (Value.ref _) _ _) _ _ _); ((with_reducible show wpAny _ _ (getMethod (Value.ref _) (Str.ofString "subn") _) _ _ _); k_dflt (refine' gm_subn ?k1 ?_; (case k1 => walk_at "my:pat")))) | ((with_reducible show wpAny _ _ (getMethod (Value.ref _) _ _) _ _ _); ((with_reducible show wpAny _ _ (getMethod (Value.ref _) (Str.ofString "search") _) _ _ _); k_dflt (refine' gm_search ?k1 ?_; (case k1 => walk_at "my:pat"))))) | (k_unfold; (try dsimp only)) | (k_end; wrow_close) | walk1 | (dsimp only; walk1) | (leave1; (try dsimp only))))
          rename Fr _ _ _ _ => F; rename News _ _ _ _ => N
          exact ⟨(us, k2, tb, rest), _, _, _, rfl, F, fun p hp => N p (.tail _ hp), ⟨n1, n2, Off.of r2⟩, ⟨rfl, trivial⟩, ⟨(fun e => nomatch e), fun _ => ⟨su, tb2, tb3, r3, r4⟩⟩⟩
        · have hve : vs.isEmpty = false := by
            cases vs with
            | nil => exact absurd (List.length_eq_zero_iff.mp lsp.symm) hpe
            | cons _ _ => rfl
          (repeat' (first | ((with_reducible show wpAny _ _ (PySem.call _ _ _) _ _ _); first | ((with_reducible show wpAny _ _ (PySem.call (Value.ref _) _ _) _ _ _); ((with_reducible show wpAny _ _ (PySem.call (Value.ref 50) _ _) _ _ _); k_dflt (refine' unmatched2_ctr ?k1 ?k2 ?k3 ?k4 ?x0 ?x1 ?x2 ?x3 ?x4 ?_; (case k1 => exact Frag.In.keeps (by k_asm) (Fr.keep (by k_asm))); (case k2 => exact Top.keeps (by k_asm) (Fr.keep (by k_asm))); (case k3 => (((try simp only [Around.deeper]); omega))); (case k4 => (((try simp only [Around.deeper]); omega))); (case x0 => walk_at "my:get"); (case x1 => walk_at "my:get"); (case x2 => assumption); (case x3 => assumption); (case x4 => first | assumption | omega); intro t' h' tk' st'; (have F' := fr_after (by k_asm) st'); (have N' := news_after (by k_asm) st'); clear st'; (try dsimp only); (try k_sweep)))) | ((with_reducible show wpAny _ _ (PySem.call (Value.builtin "list.append") _ _) _ _ _); k_dflt (refine' append_K ?k1 ?k2 ?k3 ?_ ?z; (case k1 => k_asm); (case k2 => k_asm); (case k3 => k_upd); (case z => assumption); intro h' F' N'; (try k_sweep))) | ((with_reducible show wpAny _ _ (PySem.call (Value.builtin "str.startswith") _ _) _ _ _); k_dflt (refine' starts_S ?k1 ?_; (case k1 => assumption))) | ((with_reducible show wpAny _ _ (PySem.call (Value.builtin "str.rstrip") _ _) _ _ _); k_dflt (refine' rstrip_S ?k1 ?k2 ?_; (case k1 => first | assumption | decide | rfl); (case k2 => first | assumption | decide); intro t' k')) | ((with_reducible show wpAny _ _ (PySem.call (Value.builtin "str.lstrip") _ _) _ _ _); k_dflt (refine' lstrip_S ?k1 ?k2 ?_; (case k1 => assumption); (case k2 => assumption); intro t' k')) | ((with_reducible show wpAny _ _ (PySem.call (Value.builtin "re.Pattern.sub") _ _) _ _ _); k_dflt (refine' sub_S ?k1 ?k2 ?k3 ?k4 ?k5 ?k6 ?k7 ?k8 ?_; (case k6 => assumption); (case k3 => assumption); (case k1 => k_asm); (case k2 => k_asm); (case k4 => walk_at "my:get"); (case k5 => rfl); (case k7 => assumption); (case k8 => omega); intro t' h' tk' F' N'; (try k_sweep))) | ((with_reducible show wpAny _ _ (PySem.call (Value.builtin "re.Pattern.subn") _ _) _ _ _); k_dflt (refine' subn_S ?k1 ?k2 ?k3 ?k4 ?k5 ?k6 ?k7 ?k8 ?k9 ?k10 ?_; (case k4 => assumption); (case k5 => assumption); (case k3 => assumption); (case k1 => k_asm); (case k2 => k_asm); (case k6 => assumption); (case k7 => omega); (case k8 => omega); (case k9 => assumption); (case k10 => assumption); intro tp t' u' h' tk' F' N' l1; (try simp only [Off, and_true] at l1); (try k_sweep))) | ((with_reducible show wpAny _ _ (PySem.call (Value.builtin "re.Match.group") _ _) _ _ _); k_dflt (refine' group_S ?k1 ?k2 ?k3 ?k4 ?_; (case k1 => walk_at "my:get"); (case k2 => walk_at "my:get"); (case k3 => assumption); (case k4 => assumption))) | ((with_reducible show wpAny _ _ (PySem.call (Value.builtin "re.Pattern.search") _ _) _ _ _); k_dflt (first | (refine' search_S ?k1 ?k2 ?k3 ?k4 ?k5 ?k6 ?k7 ?_; (case k3 => assumption); (case k4 => assumption); (case k1 => k_asm); (case k2 => k_asm); (case k5 => assumption); (case k6 => omega); (case k7 => omega); intro q q' h' F' N' l1 l2; (try k_lt l1); (try k_lt2 l2); (try k_sweep)) | (refine' search_N ?k1 ?k3 ?k4 ?k5 ?k6 ?_; (case k3 => assumption); (case k4 => assumption); (case k1 => k_asm); (case k5 => assumption); (case k6 => omega))))) | ((with_reducible show wpAny _ _ (truthy _) _ _ _); first | ((with_reducible show wpAny _ _ (truthy (Value.str _ _)) _ _ _); k_dflt (refine' truthy_S ?k1 ?k2 ?_; (case k1 => assumption); (case k2 => assumption); intro k')) | ((with_reducible show wpAny _ _ (truthy (Value.ref _)) _ _ _); k_dflt (first | (refine' truthy_match ?k1 ?_; (case k1 => walk_at "my:get")) | (refine' truthy_L ?k1 ?k2 ?k3 ?k4 ?_; (case k1 => k_asm); (case k2 => k_mem); (case k3 => assumption); (case k4 => omega))))) | ((with_reducible show wpAny _ _ (getMethod _ _ _) _ _ _); first | ((with_reducible show wpAny _ _ (getMethod (Value.ref _) _ _) _ _ _); ((with_reducible show wpAny _ _ (getMethod (Value.ref _) (Str.ofString "group") _) _ _ _); k_dflt (refine' gm_group ?k1 ?_; (case k1 => walk_at "my:get")))) | ((with_reducible show wpAny _ _ (getMethod (Value.ref _) _ _) _ _ _); ((with_reducible show wpAny _ _ (getMethod (Value.ref _) (Str.ofString "sub") _) _ _ _); k_dflt (refine' gm_sub ?k1 ?_; (case k1 => walk_at "my:pat")))) | ((with_reducible show wpAny _ _ (getMethod (Value.ref _) _ _) _ _ _); ((with_reducible show wpAny _ _ (getMethod (Value.ref _) (Str.ofString "subn") _) _ _ _); k_dflt (refine' gm_subn ?k1 ?_; (case k1 => walk_at "my:pat")))) | ((with_reducible show wpAny _ _ (getMethod (Value.ref _) _ _) _ _ _); ((with_reducible show wpAny _ _ (getMethod (Value.ref _) (Str.ofString "search") _) _ _ _); k_dflt (refine' gm_search ?k1 ?_; (case k1 => walk_at "my:pat"))))) | (k_unfold; (try dsimp only)) | (k_end; wrow_close) | walk1 | (dsimp only; walk1) | (leave1; (try dsimp only))))
          refine hR2 _ ?_
          (repeat' (first | ((with_reducible show wpAny _ _ (PySem.call _ _ _) _ _ _); first | ((with_reducible show wpAny _ _ (PySem.call (Value.ref _) _ _) _ _ _); ((with_reducible show wpAny _ _ (PySem.call (Value.ref 50) _ _) _ _ _); k_dflt (refine' unmatched2_ctr ?k1 ?k2 ?k3 ?k4 ?x0 ?x1 ?x2 ?x3 ?x4 ?_; (case k1 => exact Frag.In.keeps (by k_asm) (Fr.keep (by k_asm))); (case k2 => exact Top.keeps (by k_asm) (Fr.keep (by k_asm))); (case k3 => (((try simp only [Around.deeper]); omega))); (case k4 => (((try simp only [Around.deeper]); omega))); (case x0 => walk_at "my:get"); (case x1 => walk_at "my:get"); (case x2 => assumption); (case x3 => assumption); (case x4 => first | assumption | omega); intro t' h' tk' st'; (have F' := fr_after (by k_asm) st'); (have N' := news_after (by k_asm) st'); clear st'; (try dsimp only); (try k_sweep)))) | ((with_reducible show wpAny _ _ (PySem.call (Value.builtin "list.append") _ _) _ _ _); k_dflt (refine' append_K ?k1 ?k2 ?k3 ?_ ?z; (case k1 => k_asm); (case k2 => k_asm); (case k3 => k_upd); (case z => assumption); intro h' F' N'; (try k_sweep))) | ((with_reducible show wpAny _ _ (PySem.call (Value.builtin "str.startswith") _ _) _ _ _); k_dflt (refine' starts_S ?k1 ?_; (case k1 => assumption))) | ((with_reducible show wpAny _ _ (PySem.call (Value.builtin "str.rstrip") _ _) _ _ _); k_dflt (refine' rstrip_S ?k1 ?k2 ?_; (case k1 => first | assumption | decide | rfl); (case k2 => first | assumption | decide); intro t' k')) | ((with_reducible show wpAny _ _ (PySem.call (Value.builtin "str.lstrip") _ _) _ _ _); k_dflt (refine' lstrip_S ?k1 ?k2 ?_; (case k1 => assumption); (case k2 => assumption); intro t' k')) | ((with_reducible show wpAny _ _ (PySem.call (Value.builtin "re.Pattern.sub") _ _) _ _ _); k_dflt (refine' sub_S ?k1 ?k2 ?k3 ?k4 ?k5 ?k6 ?k7 ?k8 ?_; (case k6 => assumption); (case k3 => assumption); (case k1 => k_asm); (case k2 => k_asm); (case k4 => walk_at "my:get"); (case k5 => rfl); (case k7 => assumption); (case k8 => omega); intro t' h' tk' F' N'; (try k_sweep))) | ((with_reducible show wpAny _ _ (PySem.call (Value.builtin "re.Pattern.subn") _ _) _ _ _); k_dflt (refine' subn_S ?k1 ?k2 ?k3 ?k4 ?k5 ?k6 ?k7 ?k8 ?k9 ?k10 ?_; (case k4 => assumption); (case k5 => assumption); (case k3 => assumption); (case k1 => k_asm); (case k2 => k_asm); (case k6 => assumption); (case k7 => omega); (case k8 => omega); (case k9 => assumption); (case k10 => assumption); intro tp t' u' h' tk' F' N' l1; (try simp only [Off, and_true] at l1); (try k_sweep))) | ((with_reducible show wpAny _ _ (PySem.call (Value.builtin "re.Match.group") _ _) _ _ _); k_dflt (refine' group_S ?k1 ?k2 ?k3 ?k4 ?_; (case k1 => walk_at "my:get"); (case k2 => walk_at "my:get"); (case k3 => assumption); (case k4 => assumption))) | ((with_reducible show wpAny _ _ (PySem.call (Value.builtin "re.Pattern.search") _ _) _ _ _); k_dflt (first | (refine' search_S ?k1 ?k2 ?k3 ?k4 ?k5 ?k6 ?k7 ?_; (case k3 => assumption); (case k4 => assumption); (case k1 => k_asm); (case k2 => k_asm); (case k5 => assumption); (case k6 => omega); (case k7 => omega); intro q q' h' F' N' l1 l2; (try k_lt l1); (try k_lt2 l2); (try k_sweep)) | (refine' search_N ?k1 ?k3 ?k4 ?k5 ?k6 ?_; (case k3 => assumption); (case k4 => assumption); (case k1 => k_asm); (case k5 => assumption); (case k6 => omega))))) | ((with_reducible show wpAny _ _ (truthy _) _ _ _); first | ((with_reducible show wpAny _ _ (truthy (Value.str _ _)) _ _ _); k_dflt (refine' truthy_S ?k1 ?k2 ?_; (case k1 => assumption); (case k2 => assumption); intro k')) | ((with_reducible show wpAny _ _ (truthy (Value.ref _)) _ _ _); k_dflt (first | (refine' truthy_match ?k1 ?_; (case k1 => walk_at "my:get")) | (refine' truthy_L ?k1 ?k2 ?k3 ?k4 ?_; (case k1 => k_asm); (case k2 => k_mem); (case k3 => assumption); (case k4 => omega))))) | ((with_reducible show wpAny _ _ (getMethod _ _ _) _ _ _); first | ((with_reducible show wpAny _ _ (getMethod (Value.ref _) _ _) _ _ _); ((with_reducible show wpAny _ _ (getMethod (Value.ref _) (Str.ofString "group") _) _ _ _); k_dflt (refine' gm_group ?k1 ?_; (case k1 => walk_at "my:get")))) | ((with_reducible show wpAny _ _ (getMethod (Value.ref _) _ _) _ _ _); ((with_reducible show wpAny _ _ (getMethod (Value.ref _) (Str.ofString "sub") _) _ _ _); k_dflt (refine' gm_sub ?k1 ?_; (case k1 => walk_at "my:pat")))) | ((with_reducible show wpAny _ _ (getMethod (Value.ref _) _ _) _ _ _); ((with_reducible show wpAny _ _ (getMethod (Value.ref _) (Str.ofString "subn") _) _ _ _); k_dflt (refine' gm_subn ?k1 ?_; (case k1 => walk_at "my:pat")))) | ((with_reducible show wpAny _ _ (getMethod (Value.ref _) _ _) _ _ _); ((with_reducible show wpAny _ _ (getMethod (Value.ref _) (Str.ofString "search") _) _ _ _); k_dflt (refine' gm_search ?k1 ?_; (case k1 => walk_at "my:pat"))))) | (k_unfold; (try dsimp only)) | (k_end; wrow_close) | walk1 | (dsimp only; walk1) | (leave1; (try dsimp only))))
          rename Fr _ _ _ _ => F; rename News _ _ _ _ => N
          simp only [List.push_toArray] at N
          refine ⟨(us ++ [.ref pr], k2 + 1, tb, (pr, W.listOf vs.toArray k1) :: rest), _, _, _, rfl, F, fun p hp => N p ((List.forall_mem_cons.mpr ⟨by k_mem, (List.forall_mem_cons.mpr ⟨by k_mem, (List.forall_mem_cons.mpr ⟨by k_mem, (List.forall_mem_cons.mpr ⟨by k_mem, (fun p hp => by repeat (first | exact hp | refine List.Mem.tail _ ?_))⟩)⟩)⟩)⟩) p hp), ⟨n1, n2, q1, Off.of r2⟩, ⟨rfl, trivial⟩, ⟨(fun e => nomatch e), fun _ => ⟨?_, tb2, tb3, List.forall_mem_cons.mpr ⟨q2, r3⟩, List.forall_mem_cons.mpr ⟨q3, r4⟩⟩⟩⟩
          unfold fin
          rw [if_neg hpe, List.map_append]
          exact (su.mono fun p hp => .tail _ hp).snoc (Sup.list (sp.mono fun p hp => .tail _ hp) (.head _))
      · obtain rfl := tb1 (by simp [hne])
        have he : (ws ++ tok ++ rst).isEmpty = false := by cases tok <;> simp_all
        have hrl : rst.length < 1000 := by simp at ln2; omega
        have hc : ∀ c ∈ rst, c < 128 := fun c hc => ch c (by simp [hc])
        have hnx : ∀ c r', rst = c :: r' → tokC c = true := fun c r' e => by
          rcases hrest with ⟨h | ⟨c', r'', h, h'⟩, _⟩ | ⟨b, v, htl, _⟩
          · rw [h] at e; cases e
          · rw [h] at e; cases e; rcases h' with rfl | rfl <;> decide
          · cases htl <;> (cases e; rfl)
        have hT := tok_match ch hws htok hne hnx (by omega)
        have hd1 : (ws ++ tok ++ rst).drop (ws.length + tok.length) = rst := by
          rw [← List.length_append]; exact List.drop_left
        have hg1 : ((ws ++ tok ++ rst).drop ws.length).take (ws.length + tok.length - ws.length) = tok := by
          rw [List.append_assoc, List.drop_left, Nat.add_sub_cancel_left, List.take_left]
        have hle : ws.length + tok.length ≤ (ws ++ tok ++ rst).length := by simp only [List.length_append]; omega
        have htl0 : 0 < tok.length := List.length_pos_iff.mpr hne
        have hlt : 0 < (ws ++ tok ++ rst).length := by simp only [List.length_append]; omega
        clear hnx
        repeat ((fail_if_success (with_reducible show wpAny _ _ (PySem.call (Value.builtin "re.Pattern.search") _ _) _ _ _)); (first | ((with_reducible show wpAny _ _ (PySem.call _ _ _) _ _ _); first | ((with_reducible show wpAny _ _ (PySem.call (Value.ref _) _ _) _ _ _); ((with_reducible show wpAny _ _ (PySem.call (Value.ref 50) _ _) _ _ _); k_dflt (refine' unmatched2_ctr ?k1 ?k2 ?k3 ?k4 ?x0 ?x1 ?x2 ?x3 ?x4 ?_; (case k1 => exact Frag.In.keeps (by k_asm) (Fr.keep (by k_asm))); (case k2 => exact Top.keeps (by k_asm) (Fr.keep (by k_asm))); (case k3 => (((try simp only [Around.deeper]); omega))); (case k4 => (((try simp only [Around.deeper]); omega))); (case x0 => walk_at "my:get"); (case x1 => walk_at "my:get"); (case x2 => assumption); (case x3 => assumption); (case x4 => first | assumption | omega); intro t' h' tk' st'; (have F' := fr_after (by k_asm) st'); (have N' := news_after (by k_asm) st'); clear st'; (try dsimp only); (try k_sweep)))) | ((with_reducible show wpAny _ _ (PySem.call (Value.builtin "list.append") _ _) _ _ _); k_dflt (refine' append_K ?k1 ?k2 ?k3 ?_ ?z; (case k1 => k_asm); (case k2 => k_asm); (case k3 => k_upd); (case z => assumption); intro h' F' N'; (try k_sweep))) | ((with_reducible show wpAny _ _ (PySem.call (Value.builtin "str.startswith") _ _) _ _ _); k_dflt (refine' starts_S ?k1 ?_; (case k1 => assumption))) | ((with_reducible show wpAny _ _ (PySem.call (Value.builtin "str.rstrip") _ _) _ _ _); k_dflt (refine' rstrip_S ?k1 ?k2 ?_; (case k1 => first | assumption | decide | rfl); (case k2 => first | assumption | decide); intro t' k')) | ((with_reducible show wpAny _ _ (PySem.call (Value.builtin "str.lstrip") _ _) _ _ _); k_dflt (refine' lstrip_S ?k1 ?k2 ?_; (case k1 => assumption); (case k2 => assumption); intro t' k')) | ((with_reducible show wpAny _ _ (PySem.call (Value.builtin "re.Pattern.sub") _ _) _ _ _); k_dflt (refine' sub_S ?k1 ?k2 ?k3 ?k4 ?k5 ?k6 ?k7 ?k8 ?_; (case k6 => assumption); (case k3 => assumption); (case k1 => k_asm); (case k2 => k_asm); (case k4 => walk_at "my:get"); (case k5 => rfl); (case k7 => assumption); (case k8 => omega); intro t' h' tk' F' N'; (try k_sweep))) | ((with_reducible show wpAny _ _ (PySem.call (Value.builtin "re.Pattern.subn") _ _) _ _ _); k_dflt (refine' subn_S ?k1 ?k2 ?k3 ?k4 ?k5 ?k6 ?k7 ?k8 ?k9 ?k10 ?_; (case k4 => assumption); (case k5 => assumption); (case k3 => assumption); (case k1 => k_asm); (case k2 => k_asm); (case k6 => assumption); (case k7 => omega); (case k8 => omega); (case k9 => assumption); (case k10 => assumption); intro tp t' u' h' tk' F' N' l1; (try simp only [Off, and_true] at l1); (try k_sweep))) | ((with_reducible show wpAny _ _ (PySem.call (Value.builtin "re.Match.group") _ _) _ _ _); k_dflt (refine' group_S ?k1 ?k2 ?k3 ?k4 ?_; (case k1 => walk_at "my:get"); (case k2 => walk_at "my:get"); (case k3 => assumption); (case k4 => assumption))) | ((with_reducible show wpAny _ _ (PySem.call (Value.builtin "re.Pattern.search") _ _) _ _ _); k_dflt (first | (refine' search_S ?k1 ?k2 ?k3 ?k4 ?k5 ?k6 ?k7 ?_; (case k3 => assumption); (case k4 => assumption); (case k1 => k_asm); (case k2 => k_asm); (case k5 => assumption); (case k6 => omega); (case k7 => omega); intro q q' h' F' N' l1 l2; (try k_lt l1); (try k_lt2 l2); (try k_sweep)) | (refine' search_N ?k1 ?k3 ?k4 ?k5 ?k6 ?_; (case k3 => assumption); (case k4 => assumption); (case k1 => k_asm); (case k5 => assumption); (case k6 => omega))))) | ((with_reducible show wpAny _ _ (truthy _) _ _ _); first | ((with_reducible show wpAny _ _ (truthy (Value.str _ _)) _ _ _); k_dflt (refine' truthy_S ?k1 ?k2 ?_; (case k1 => assumption); (case k2 => assumption); intro k')) | ((with_reducible show wpAny _ _ (truthy (Value.ref _)) _ _ _); k_dflt (first | (refine' truthy_match ?k1 ?_; (case k1 => walk_at "my:get")) | (refine' truthy_L ?k1 ?k2 ?k3 ?k4 ?_; (case k1 => k_asm); (case k2 => k_mem); (case k3 => assumption); (case k4 => omega))))) | ((with_reducible show wpAny _ _ (getMethod _ _ _) _ _ _); first | ((with_reducible show wpAny _ _ (getMethod (Value.ref _) _ _) _ _ _); ((with_reducible show wpAny _ _ (getMethod (Value.ref _) (Str.ofString "group") _) _ _ _); k_dflt (refine' gm_group ?k1 ?_; (case k1 => walk_at "my:get")))) | ((with_reducible show wpAny _ _ (getMethod (Value.ref _) _ _) _ _ _); ((with_reducible show wpAny _ _ (getMethod (Value.ref _) (Str.ofString "sub") _) _ _ _); k_dflt (refine' gm_sub ?k1 ?_; (case k1 => walk_at "my:pat")))) | ((with_reducible show wpAny _ _ (getMethod (Value.ref _) _ _) _ _ _); ((with_reducible show wpAny _ _ (getMethod (Value.ref _) (Str.ofString "subn") _) _ _ _); k_dflt (refine' gm_subn ?k1 ?_; (case k1 => walk_at "my:pat")))) | ((with_reducible show wpAny _ _ (getMethod (Value.ref _) _ _) _ _ _); ((with_reducible show wpAny _ _ (getMethod (Value.ref _) (Str.ofString "search") _) _ _ _); k_dflt (refine' gm_search ?k1 ?_; (case k1 => walk_at "my:pat"))))) | walk1))
        (first | ((with_reducible show wpAny _ _ (PySem.call _ _ _) _ _ _); first | ((with_reducible show wpAny _ _ (PySem.call (Value.ref _) _ _) _ _ _); ((with_reducible show wpAny _ _ (PySem.call (Value.ref 50) _ _) _ _ _); k_dflt (refine' unmatched2_ctr ?k1 ?k2 ?k3 ?k4 ?x0 ?x1 ?x2 ?x3 ?x4 ?_; (case k1 => exact Frag.In.keeps (by k_asm) (Fr.keep (by k_asm))); (case k2 => exact Top.keeps (by k_asm) (Fr.keep (by k_asm))); (case k3 => (((try simp only [Around.deeper]); omega))); (case k4 => (((try simp only [Around.deeper]); omega))); (case x0 => walk_at "my:get"); (case x1 => walk_at "my:get"); (case x2 => assumption); (case x3 => assumption); (case x4 => first | assumption | omega); intro t' h' tk' st'; (have F' := fr_after (by k_asm) st'); (have N' := news_after (by k_asm) st'); clear st'; (try dsimp only); (try k_sweep)))) | ((with_reducible show wpAny _ _ (PySem.call (Value.builtin "list.append") _ _) _ _ _); k_dflt (refine' append_K ?k1 ?k2 ?k3 ?_ ?z; (case k1 => k_asm); (case k2 => k_asm); (case k3 => k_upd); (case z => assumption); intro h' F' N'; (try k_sweep))) | ((with_reducible show wpAny _ _ (PySem.call (Value.builtin "str.startswith") _ _) _ _ _); k_dflt (refine' starts_S ?k1 ?_; (case k1 => assumption))) | ((with_reducible show wpAny _ _ (PySem.call (Value.builtin "str.rstrip") _ _) _ _ _); k_dflt (refine' rstrip_S ?k1 ?k2 ?_; (case k1 => first | assumption | decide | rfl); (case k2 => first | assumption | decide); intro t' k')) | ((with_reducible show wpAny _ _ (PySem.call (Value.builtin "str.lstrip") _ _) _ _ _); k_dflt (refine' lstrip_S ?k1 ?k2 ?_; (case k1 => assumption); (case k2 => assumption); intro t' k')) | ((with_reducible show wpAny _ _ (PySem.call (Value.builtin "re.Pattern.sub") _ _) _ _ _); k_dflt (refine' sub_S ?k1 ?k2 ?k3 ?k4 ?k5 ?k6 ?k7 ?k8 ?_; (case k6 => assumption); (case k3 => assumption); (case k1 => k_asm); (case k2 => k_asm); (case k4 => walk_at "my:get"); (case k5 => rfl); (case k7 => assumption); (case k8 => omega); intro t' h' tk' F' N'; (try k_sweep))) | ((with_reducible show wpAny _ _ (PySem.call (Value.builtin "re.Pattern.subn") _ _) _ _ _); k_dflt (refine' subn_S ?k1 ?k2 ?k3 ?k4 ?k5 ?k6 ?k7 ?k8 ?k9 ?k10 ?_; (case k4 => assumption); (case k5 => assumption); (case k3 => assumption); (case k1 => k_asm); (case k2 => k_asm); (case k6 => assumption); (case k7 => omega); (case k8 => omega); (case k9 => assumption); (case k10 => assumption); intro tp t' u' h' tk' F' N' l1; (try simp only [Off, and_true] at l1); (try k_sweep))) | ((with_reducible show wpAny _ _ (PySem.call (Value.builtin "re.Match.group") _ _) _ _ _); k_dflt (refine' group_S ?k1 ?k2 ?k3 ?k4 ?_; (case k1 => walk_at "my:get"); (case k2 => walk_at "my:get"); (case k3 => assumption); (case k4 => assumption))) | ((with_reducible show wpAny _ _ (PySem.call (Value.builtin "re.Pattern.search") _ _) _ _ _); k_dflt (first | (refine' search_S ?k1 ?k2 ?k3 ?k4 ?k5 ?k6 ?k7 ?_; (case k3 => assumption); (case k4 => assumption); (case k1 => k_asm); (case k2 => k_asm); (case k5 => assumption); (case k6 => omega); (case k7 => omega); intro q q' h' F' N' l1 l2; (try k_lt l1); (try k_lt2 l2); (try k_sweep)) | (refine' search_N ?k1 ?k3 ?k4 ?k5 ?k6 ?_; (case k3 => assumption); (case k4 => assumption); (case k1 => k_asm); (case k5 => assumption); (case k6 => omega))))) | ((with_reducible show wpAny _ _ (truthy _) _ _ _); first | ((with_reducible show wpAny _ _ (truthy (Value.str _ _)) _ _ _); k_dflt (refine' truthy_S ?k1 ?k2 ?_; (case k1 => assumption); (case k2 => assumption); intro k')) | ((with_reducible show wpAny _ _ (truthy (Value.ref _)) _ _ _); k_dflt (first | (refine' truthy_match ?k1 ?_; (case k1 => walk_at "my:get")) | (refine' truthy_L ?k1 ?k2 ?k3 ?k4 ?_; (case k1 => k_asm); (case k2 => k_mem); (case k3 => assumption); (case k4 => omega))))) | ((with_reducible show wpAny _ _ (getMethod _ _ _) _ _ _); first | ((with_reducible show wpAny _ _ (getMethod (Value.ref _) _ _) _ _ _); ((with_reducible show wpAny _ _ (getMethod (Value.ref _) (Str.ofString "group") _) _ _ _); k_dflt (refine' gm_group ?k1 ?_; (case k1 => walk_at "my:get")))) | ((with_reducible show wpAny _ _ (getMethod (Value.ref _) _ _) _ _ _); ((with_reducible show wpAny _ _ (getMethod (Value.ref _) (Str.ofString "sub") _) _ _ _); k_dflt (refine' gm_sub ?k1 ?_; (case k1 => walk_at "my:pat")))) | ((with_reducible show wpAny _ _ (getMethod (Value.ref _) _ _) _ _ _); ((with_reducible show wpAny _ _ (getMethod (Value.ref _) (Str.ofString "subn") _) _ _ _); k_dflt (refine' gm_subn ?k1 ?_; (case k1 => walk_at "my:pat")))) | ((with_reducible show wpAny _ _ (getMethod (Value.ref _) _ _) _ _ _); ((with_reducible show wpAny _ _ (getMethod (Value.ref _) (Str.ofString "search") _) _ _ _); k_dflt (refine' gm_search ?k1 ?_; (case k1 => walk_at "my:pat"))))) | walk1)
        repeat ((fail_if_success (with_reducible show wpAny _ _ (PySem.call (Value.builtin "re.Pattern.search") _ _) _ _ _)); (first | ((with_reducible show wpAny _ _ (PySem.call _ _ _) _ _ _); first | ((with_reducible show wpAny _ _ (PySem.call (Value.ref _) _ _) _ _ _); ((with_reducible show wpAny _ _ (PySem.call (Value.ref 50) _ _) _ _ _); k_dflt (refine' unmatched2_ctr ?k1 ?k2 ?k3 ?k4 ?x0 ?x1 ?x2 ?x3 ?x4 ?_; (case k1 => exact Frag.In.keeps (by k_asm) (Fr.keep (by k_asm))); (case k2 => exact Top.keeps (by k_asm) (Fr.keep (by k_asm))); (case k3 => (((try simp only [Around.deeper]); omega))); (case k4 => (((try simp only [Around.deeper]); omega))); (case x0 => walk_at "my:get"); (case x1 => walk_at "my:get"); (case x2 => assumption); (case x3 => assumption); (case x4 => first | assumption | omega); intro t' h' tk' st'; (have F' := fr_after (by k_asm) st'); (have N' := news_after (by k_asm) st'); clear st'; (try dsimp only); (try k_sweep)))) | ((with_reducible show wpAny _ _ (PySem.call (Value.builtin "list.append") _ _) _ _ _); k_dflt (refine' append_K ?k1 ?k2 ?k3 ?_ ?z; (case k1 => k_asm); (case k2 => k_asm); (case k3 => k_upd); (case z => assumption); intro h' F' N'; (try k_sweep))) | ((with_reducible show wpAny _ _ (PySem.call (Value.builtin "str.startswith") _ _) _ _ _); k_dflt (refine' starts_S ?k1 ?_; (case k1 => assumption))) | ((with_reducible show wpAny _ _ (PySem.call (Value.builtin "str.rstrip") _ _) _ _ _); k_dflt (refine' rstrip_S ?k1 ?k2 ?_; (case k1 => first | assumption | decide | rfl); (case k2 => first | assumption | decide); intro t' k')) | ((with_reducible show wpAny _ _ (PySem.call (Value.builtin "str.lstrip") _ _) _ _ _); k_dflt (refine' lstrip_S ?k1 ?k2 ?_; (case k1 => assumption); (case k2 => assumption); intro t' k')) | ((with_reducible show wpAny _ _ (PySem.call (Value.builtin "re.Pattern.sub") _ _) _ _ _); k_dflt (refine' sub_S ?k1 ?k2 ?k3 ?k4 ?k5 ?k6 ?k7 ?k8 ?_; (case k6 => assumption); (case k3 => assumption); (case k1 => k_asm); (case k2 => k_asm); (case k4 => walk_at "my:get"); (case k5 => rfl); (case k7 => assumption); (case k8 => omega); intro t' h' tk' F' N'; (try k_sweep))) | ((with_reducible show wpAny _ _ (PySem.call (Value.builtin "re.Pattern.subn") _ _) _ _ _); k_dflt (refine' subn_S ?k1 ?k2 ?k3 ?k4 ?k5 ?k6 ?k7 ?k8 ?k9 ?k10 ?_; (case k4 => assumption); (case k5 => assumption); (case k3 => assumption); (case k1 => k_asm); (case k2 => k_asm); (case k6 => assumption); (case k7 => omega); (case k8 => omega); (case k9 => assumption); (case k10 => assumption); intro tp t' u' h' tk' F' N' l1; (try simp only [Off, and_true] at l1); (try k_sweep))) | ((with_reducible show wpAny _ _ (PySem.call (Value.builtin "re.Match.group") _ _) _ _ _); k_dflt (refine' group_S ?k1 ?k2 ?k3 ?k4 ?_; (case k1 => walk_at "my:get"); (case k2 => walk_at "my:get"); (case k3 => assumption); (case k4 => assumption))) | ((with_reducible show wpAny _ _ (PySem.call (Value.builtin "re.Pattern.search") _ _) _ _ _); k_dflt (first | (refine' search_S ?k1 ?k2 ?k3 ?k4 ?k5 ?k6 ?k7 ?_; (case k3 => assumption); (case k4 => assumption); (case k1 => k_asm); (case k2 => k_asm); (case k5 => assumption); (case k6 => omega); (case k7 => omega); intro q q' h' F' N' l1 l2; (try k_lt l1); (try k_lt2 l2); (try k_sweep)) | (refine' search_N ?k1 ?k3 ?k4 ?k5 ?k6 ?_; (case k3 => assumption); (case k4 => assumption); (case k1 => k_asm); (case k5 => assumption); (case k6 => omega))))) | ((with_reducible show wpAny _ _ (truthy _) _ _ _); first | ((with_reducible show wpAny _ _ (truthy (Value.str _ _)) _ _ _); k_dflt (refine' truthy_S ?k1 ?k2 ?_; (case k1 => assumption); (case k2 => assumption); intro k')) | ((with_reducible show wpAny _ _ (truthy (Value.ref _)) _ _ _); k_dflt (first | (refine' truthy_match ?k1 ?_; (case k1 => walk_at "my:get")) | (refine' truthy_L ?k1 ?k2 ?k3 ?k4 ?_; (case k1 => k_asm); (case k2 => k_mem); (case k3 => assumption); (case k4 => omega))))) | ((with_reducible show wpAny _ _ (getMethod _ _ _) _ _ _); first | ((with_reducible show wpAny _ _ (getMethod (Value.ref _) _ _) _ _ _); ((with_reducible show wpAny _ _ (getMethod (Value.ref _) (Str.ofString "group") _) _ _ _); k_dflt (refine' gm_group ?k1 ?_; (case k1 => walk_at "my:get")))) | ((with_reducible show wpAny _ _ (getMethod (Value.ref _) _ _) _ _ _); ((with_reducible show wpAny _ _ (getMethod (Value.ref _) (Str.ofString "sub") _) _ _ _); k_dflt (refine' gm_sub ?k1 ?_; (case k1 => walk_at "my:pat")))) | ((with_reducible show wpAny _ _ (getMethod (Value.ref _) _ _) _ _ _); ((with_reducible show wpAny _ _ (getMethod (Value.ref _) (Str.ofString "subn") _) _ _ _); k_dflt (refine' gm_subn ?k1 ?_; (case k1 => walk_at "my:pat")))) | ((with_reducible show wpAny _ _ (getMethod (Value.ref _) _ _) _ _ _); ((with_reducible show wpAny _ _ (getMethod (Value.ref _) (Str.ofString "search") _) _ _ _); k_dflt (refine' gm_search ?k1 ?_; (case k1 => walk_at "my:pat"))))) | walk1))
        clear hT hg1 hd1
        rcases hrest with ⟨hrst, hpar⟩ | ⟨b, v, htl, hb, rfl⟩
        · obtain ⟨kq, hkq, hQ⟩ : ∃ k, k ≤ 1000000 ∧ Fails k (Sre.forSearch codeQuo rst.toArray 1 0 rst.length false) := by
            rcases hrst with h | ⟨c', r'', h, h'⟩
            · subst h; exact ⟨100, by omega, quo_nil⟩
            · subst h; exact ⟨_, by omega, quo_fails (hc _ (by simp)) (by omega) (by rcases h' with rfl | rfl <;> rfl) (by omega)⟩
          obtain ⟨kv, hkv, hV⟩ : ∃ k, k ≤ 1000000 ∧ Fails k (Sre.forSearch codeVal rst.toArray 1 0 rst.length false) := by
            rcases hrst with h | ⟨c', r'', h, h'⟩
            · subst h; exact ⟨100, by omega, val_nil⟩
            · subst h; exact ⟨_, by omega, val_fails (hc _ (by simp)) (by omega) (by rcases h' with rfl | rfl <;> rfl) (by omega)⟩
          (repeat' (first | ((with_reducible show wpAny _ _ (PySem.call _ _ _) _ _ _); first | ((with_reducible show wpAny _ _ (PySem.call (Value.ref _) _ _) _ _ _); ((with_reducible show wpAny _ _ (PySem.call (Value.ref 50) _ _) _ _ _); k_dflt (refine' unmatched2_ctr ?k1 ?k2 ?k3 ?k4 ?x0 ?x1 ?x2 ?x3 ?x4 ?_; (case k1 => exact Frag.In.keeps (by k_asm) (Fr.keep (by k_asm))); (case k2 => exact Top.keeps (by k_asm) (Fr.keep (by k_asm))); (case k3 => (((try simp only [Around.deeper]); omega))); (case k4 => (((try simp only [Around.deeper]); omega))); (case x0 => walk_at "my:get"); (case x1 => walk_at "my:get"); (case x2 => assumption); (case x3 => assumption); (case x4 => first | assumption | omega); intro t' h' tk' st'; (have F' := fr_after (by k_asm) st'); (have N' := news_after (by k_asm) st'); clear st'; (try dsimp only); (try k_sweep)))) | ((with_reducible show wpAny _ _ (PySem.call (Value.builtin "list.append") _ _) _ _ _); k_dflt (refine' append_K ?k1 ?k2 ?k3 ?_ ?z; (case k1 => k_asm); (case k2 => k_asm); (case k3 => k_upd); (case z => assumption); intro h' F' N'; (try k_sweep))) | ((with_reducible show wpAny _ _ (PySem.call (Value.builtin "str.startswith") _ _) _ _ _); k_dflt (refine' starts_S ?k1 ?_; (case k1 => assumption))) | ((with_reducible show wpAny _ _ (PySem.call (Value.builtin "str.rstrip") _ _) _ _ _); k_dflt (refine' rstrip_S ?k1 ?k2 ?_; (case k1 => first | assumption | decide | rfl); (case k2 => first | assumption | decide); intro t' k')) | ((with_reducible show wpAny _ _ (PySem.call (Value.builtin "str.lstrip") _ _) _ _ _); k_dflt (refine' lstrip_S ?k1 ?k2 ?_; (case k1 => assumption); (case k2 => assumption); intro t' k')) | ((with_reducible show wpAny _ _ (PySem.call (Value.builtin "re.Pattern.sub") _ _) _ _ _); k_dflt (refine' sub_S ?k1 ?k2 ?k3 ?k4 ?k5 ?k6 ?k7 ?k8 ?_; (case k6 => assumption); (case k3 => assumption); (case k1 => k_asm); (case k2 => k_asm); (case k4 => walk_at "my:get"); (case k5 => rfl); (case k7 => assumption); (case k8 => omega); intro t' h' tk' F' N'; (try k_sweep))) | ((with_reducible show wpAny _ _ (PySem.call (Value.builtin "re.Pattern.subn") _ _) _ _ _); k_dflt (refine' subn_S ?k1 ?k2 ?k3 ?k4 ?k5 ?k6 ?k7 ?k8 ?k9 ?k10 ?_; (case k4 => assumption); (case k5 => assumption); (case k3 => assumption); (case k1 => k_asm); (case k2 => k_asm); (case k6 => assumption); (case k7 => omega); (case k8 => omega); (case k9 => assumption); (case k10 => assumption); intro tp t' u' h' tk' F' N' l1; (try simp only [Off, and_true] at l1); (try k_sweep))) | ((with_reducible show wpAny _ _ (PySem.call (Value.builtin "re.Match.group") _ _) _ _ _); k_dflt (refine' group_S ?k1 ?k2 ?k3 ?k4 ?_; (case k1 => walk_at "my:get"); (case k2 => walk_at "my:get"); (case k3 => assumption); (case k4 => assumption))) | ((with_reducible show wpAny _ _ (PySem.call (Value.builtin "re.Pattern.search") _ _) _ _ _); k_dflt (first | (refine' search_S ?k1 ?k2 ?k3 ?k4 ?k5 ?k6 ?k7 ?_; (case k3 => assumption); (case k4 => assumption); (case k1 => k_asm); (case k2 => k_asm); (case k5 => assumption); (case k6 => omega); (case k7 => omega); intro q q' h' F' N' l1 l2; (try k_lt l1); (try k_lt2 l2); (try k_sweep)) | (refine' search_N ?k1 ?k3 ?k4 ?k5 ?k6 ?_; (case k3 => assumption); (case k4 => assumption); (case k1 => k_asm); (case k5 => assumption); (case k6 => omega))))) | ((with_reducible show wpAny _ _ (truthy _) _ _ _); first | ((with_reducible show wpAny _ _ (truthy (Value.str _ _)) _ _ _); k_dflt (refine' truthy_S ?k1 ?k2 ?_; (case k1 => assumption); (case k2 => assumption); intro k')) | ((with_reducible show wpAny _ _ (truthy (Value.ref _)) _ _ _); k_dflt (first | (refine' truthy_match ?k1 ?_; (case k1 => walk_at "my:get")) | (refine' truthy_L ?k1 ?k2 ?k3 ?k4 ?_; (case k1 => k_asm); (case k2 => k_mem); (case k3 => assumption); (case k4 => omega))))) | ((with_reducible show wpAny _ _ (getMethod _ _ _) _ _ _); first | ((with_reducible show wpAny _ _ (getMethod (Value.ref _) _ _) _ _ _); ((with_reducible show wpAny _ _ (getMethod (Value.ref _) (Str.ofString "group") _) _ _ _); k_dflt (refine' gm_group ?k1 ?_; (case k1 => walk_at "my:get")))) | ((with_reducible show wpAny _ _ (getMethod (Value.ref _) _ _) _ _ _); ((with_reducible show wpAny _ _ (getMethod (Value.ref _) (Str.ofString "sub") _) _ _ _); k_dflt (refine' gm_sub ?k1 ?_; (case k1 => walk_at "my:pat")))) | ((with_reducible show wpAny _ _ (getMethod (Value.ref _) _ _) _ _ _); ((with_reducible show wpAny _ _ (getMethod (Value.ref _) (Str.ofString "subn") _) _ _ _); k_dflt (refine' gm_subn ?k1 ?_; (case k1 => walk_at "my:pat")))) | ((with_reducible show wpAny _ _ (getMethod (Value.ref _) _ _) _ _ _); ((with_reducible show wpAny _ _ (getMethod (Value.ref _) (Str.ofString "search") _) _ _ _); k_dflt (refine' gm_search ?k1 ?_; (case k1 => walk_at "my:pat"))))) | (k_unfold; (try dsimp only)) | (k_end; wrow_close) | walk1 | (dsimp only; walk1) | (leave1; (try dsimp only))))
          rename Fr _ _ _ _ => F; rename News _ _ _ _ => N
          rename_i dq _ lq
          simp only [List.push_toArray] at N
          refine hR1 _ _ ?_
          refine ⟨_, ?_, ⟨rst, _, p ++ [(tok, none)], r, pr, vs ++ [.ref dq], us, k1 + 1, k2, tabObj #[], (dq, _) :: rest⟩, _, _, _, rfl, F, ⟨rfl, rfl, rfl, trivial⟩, fun p hp => N p ((List.forall_mem_cons.mpr ⟨by k_mem, (List.forall_mem_cons.mpr ⟨by k_mem, (List.forall_mem_cons.mpr ⟨by k_mem, (List.forall_mem_cons.mpr ⟨by k_mem, (List.forall_mem_cons.mpr ⟨by k_mem, (fun p hp => by repeat (first | exact hp | refine List.Mem.tail _ ?_))⟩)⟩)⟩)⟩)⟩) p hp),
            ⟨hpar, ?_, su.mono fun p hp => .tail _ hp, fun _ => rfl, fun _ => rfl, ⟨_, rfl⟩, ?_, hrl, hc, q1, q2, q3, List.forall_mem_cons.mpr ⟨(show @Ne Nat dq pr from by omega), r1⟩, List.forall_mem_cons.mpr ⟨(show @Ne Nat dq I from by omega), r2⟩, List.forall_mem_cons.mpr ⟨(show @Ne Nat dq rs from by omega), r3⟩, List.forall_mem_cons.mpr ⟨(show @Ne Nat dq 72 from by omega), r4⟩⟩, rfl⟩
          · simp; omega
          · rw [List.map_append]
            exact (sp.mono fun p hp => .tail _ hp).snoc (Sup.tup (vs := [_, _]) ((SupA.nil.snoc Sup.str).snoc Sup.none) (.head _))
          · simp at ln ⊢; omega
        · have fin' : ∀ (dq lv : Addr) (tb' : Obj) h' tk' m' t1 t2, Fr g L h' m' → Bd m' [(Str.ofString "text", Value.str (S []) t1), (Str.ofString "pairs", .ref pr), (Str.ofString "result", .ref rs)] →
              News g L h' ((pr, W.listOf (vs ++ [Value.ref dq]).toArray (k1 + 1)) :: (I, oi) :: (rs, W.listOf us.toArray k2) :: (72, tb') :: (dq, tupObj [Value.str (S tok) t2, Value.str (S v) lv]) :: rest) → (qd = false → tb' = tabObj #[]) → (∃ ps, tb' = tabObj ps) → @Ne Nat dq pr → @Ne Nat dq I → @Ne Nat dq rs → @Ne Nat dq 72 →
              WhEnd (WInv g L I oi rs qd (fin (p ++ [(tok, some v)]) r) { heap := h, gens := gs, drawn := dr, toks := tk1, os := os }) (ws ++ tok ++ rst).length { heap := h', gens := gs, drawn := dr, toks := tk', os := os } := by
            intro dq lv tb' h' tk' m' t1 t2 F B N e1 e2 d1 d2 d3 d4
            refine ⟨_, hlt, ⟨[], t1, p ++ [(tok, some v)], r, pr, vs ++ [Value.ref dq], us, k1 + 1, k2, tb', (dq, tupObj [Value.str (S tok) t2, Value.str (S v) lv]) :: rest⟩, _, _, _, rfl, F, B, N,
              ⟨.done, ?_, su.mono fun p hp => .tail _ hp, fun h => absurd rfl h, e1, e2, ?_, by show 0 < 1000; omega, (fun _ m => nomatch m), q1, q2, q3, List.forall_mem_cons.mpr ⟨d1, r1⟩, List.forall_mem_cons.mpr ⟨d2, r2⟩, List.forall_mem_cons.mpr ⟨d3, r3⟩, List.forall_mem_cons.mpr ⟨d4, r4⟩⟩, rfl⟩
            · rw [List.map_append]
              exact (sp.mono fun p hp => .tail _ hp).snoc (Sup.tup (vs := [_, _]) ((SupA.nil.snoc Sup.str).snoc Sup.str) (.head _))
            · simp at ln ⊢; omega
          have hk : (b = false ∧ ∃ n e, Fails 100 (Sre.forSearch codeQuo rst.toArray 1 0 rst.length false) ∧ Matches 100 (Sre.forSearch codeVal rst.toArray 1 0 rst.length false) (fun m => m.start = 0 ∧ m.handed = n ∧ m.marks = #[some 1, some e] ∧ m.lastmark = 1 ∧ m.lastindex = 1) ∧ rst.drop n = [] ∧ (rst.drop 1).take (e - 1) = v ∧ n ≤ rst.length ∧ 1 ≤ e) ∨
              (b = true ∧ ∃ n e k, Matches 100 (Sre.forSearch codeQuo rst.toArray 1 0 rst.length false) (fun m => m.start = 0 ∧ m.handed = n ∧ m.marks = #[some 2, some e] ∧ m.lastmark = 1 ∧ m.lastindex = 1) ∧ Fails 100 (Sre.forSearch codeEsc v.toArray 1 0 v.length false) ∧ rst.drop n = [] ∧ (rst.drop 2).take (e - 2) = v ∧ n ≤ rst.length ∧ 2 ≤ e ∧ v.length < 1000 ∧ k = 0) := by
            cases htl with
            | e1 => exact .inl ⟨rfl, 1, 1, quo_1, val_1, rfl, rfl, by decide, by decide⟩
            | e2 => exact .inl ⟨rfl, 2, 2, quo_2, val_2, rfl, rfl, by decide, by decide⟩
            | q1 => exact .inr ⟨rfl, 3, 2, 0, quo_3, esc_0, rfl, rfl, by decide, by decide, by decide, rfl⟩
            | q2 => exact .inr ⟨rfl, 4, 3, 0, quo_4, esc_1, rfl, rfl, by decide, by decide, by decide, rfl⟩
          have hrs : Txt.rstrip (S v) = S v := by cases htl <;> decide
          have hvl : v.length < 1000 := by cases htl <;> decide
          clear htl
          rcases hk with ⟨hbf, n, e, hQ, hV, y2, y3, y4, y5⟩ | ⟨hbt, n, e, _, hQ, hE, y2, y3, y4, y5, y6, _⟩
          · (repeat' (first | ((with_reducible show wpAny _ _ (PySem.call _ _ _) _ _ _); first | ((with_reducible show wpAny _ _ (PySem.call (Value.ref _) _ _) _ _ _); ((with_reducible show wpAny _ _ (PySem.call (Value.ref 50) _ _) _ _ _); k_dflt (refine' unmatched2_ctr ?k1 ?k2 ?k3 ?k4 ?x0 ?x1 ?x2 ?x3 ?x4 ?_; (case k1 => exact Frag.In.keeps (by k_asm) (Fr.keep (by k_asm))); (case k2 => exact Top.keeps (by k_asm) (Fr.keep (by k_asm))); (case k3 => (((try simp only [Around.deeper]); omega))); (case k4 => (((try simp only [Around.deeper]); omega))); (case x0 => walk_at "my:get"); (case x1 => walk_at "my:get"); (case x2 => assumption); (case x3 => assumption); (case x4 => first | assumption | omega); intro t' h' tk' st'; (have F' := fr_after (by k_asm) st'); (have N' := news_after (by k_asm) st'); clear st'; (try dsimp only); (try k_sweep)))) | ((with_reducible show wpAny _ _ (PySem.call (Value.builtin "list.append") _ _) _ _ _); k_dflt (refine' append_K ?k1 ?k2 ?k3 ?_ ?z; (case k1 => k_asm); (case k2 => k_asm); (case k3 => k_upd); (case z => assumption); intro h' F' N'; (try k_sweep))) | ((with_reducible show wpAny _ _ (PySem.call (Value.builtin "str.startswith") _ _) _ _ _); k_dflt (refine' starts_S ?k1 ?_; (case k1 => assumption))) | ((with_reducible show wpAny _ _ (PySem.call (Value.builtin "str.rstrip") _ _) _ _ _); k_dflt (refine' rstrip_S ?k1 ?k2 ?_; (case k1 => first | assumption | decide | rfl); (case k2 => first | assumption | decide); intro t' k')) | ((with_reducible show wpAny _ _ (PySem.call (Value.builtin "str.lstrip") _ _) _ _ _); k_dflt (refine' lstrip_S ?k1 ?k2 ?_; (case k1 => assumption); (case k2 => assumption); intro t' k')) | ((with_reducible show wpAny _ _ (PySem.call (Value.builtin "re.Pattern.sub") _ _) _ _ _); k_dflt (refine' sub_S ?k1 ?k2 ?k3 ?k4 ?k5 ?k6 ?k7 ?k8 ?_; (case k6 => assumption); (case k3 => assumption); (case k1 => k_asm); (case k2 => k_asm); (case k4 => walk_at "my:get"); (case k5 => rfl); (case k7 => assumption); (case k8 => omega); intro t' h' tk' F' N'; (try k_sweep))) | ((with_reducible show wpAny _ _ (PySem.call (Value.builtin "re.Pattern.subn") _ _) _ _ _); k_dflt (refine' subn_S ?k1 ?k2 ?k3 ?k4 ?k5 ?k6 ?k7 ?k8 ?k9 ?k10 ?_; (case k4 => assumption); (case k5 => assumption); (case k3 => assumption); (case k1 => k_asm); (case k2 => k_asm); (case k6 => assumption); (case k7 => omega); (case k8 => omega); (case k9 => assumption); (case k10 => assumption); intro tp t' u' h' tk' F' N' l1; (try simp only [Off, and_true] at l1); (try k_sweep))) | ((with_reducible show wpAny _ _ (PySem.call (Value.builtin "re.Match.group") _ _) _ _ _); k_dflt (refine' group_S ?k1 ?k2 ?k3 ?k4 ?_; (case k1 => walk_at "my:get"); (case k2 => walk_at "my:get"); (case k3 => assumption); (case k4 => assumption))) | ((with_reducible show wpAny _ _ (PySem.call (Value.builtin "re.Pattern.search") _ _) _ _ _); k_dflt (first | (refine' search_S ?k1 ?k2 ?k3 ?k4 ?k5 ?k6 ?k7 ?_; (case k3 => assumption); (case k4 => assumption); (case k1 => k_asm); (case k2 => k_asm); (case k5 => assumption); (case k6 => omega); (case k7 => omega); intro q q' h' F' N' l1 l2; (try k_lt l1); (try k_lt2 l2); (try k_sweep)) | (refine' search_N ?k1 ?k3 ?k4 ?k5 ?k6 ?_; (case k3 => assumption); (case k4 => assumption); (case k1 => k_asm); (case k5 => assumption); (case k6 => omega))))) | ((with_reducible show wpAny _ _ (truthy _) _ _ _); first | ((with_reducible show wpAny _ _ (truthy (Value.str _ _)) _ _ _); k_dflt (refine' truthy_S ?k1 ?k2 ?_; (case k1 => assumption); (case k2 => assumption); intro k')) | ((with_reducible show wpAny _ _ (truthy (Value.ref _)) _ _ _); k_dflt (first | (refine' truthy_match ?k1 ?_; (case k1 => walk_at "my:get")) | (refine' truthy_L ?k1 ?k2 ?k3 ?k4 ?_; (case k1 => k_asm); (case k2 => k_mem); (case k3 => assumption); (case k4 => omega))))) | ((with_reducible show wpAny _ _ (getMethod _ _ _) _ _ _); first | ((with_reducible show wpAny _ _ (getMethod (Value.ref _) _ _) _ _ _); ((with_reducible show wpAny _ _ (getMethod (Value.ref _) (Str.ofString "group") _) _ _ _); k_dflt (refine' gm_group ?k1 ?_; (case k1 => walk_at "my:get")))) | ((with_reducible show wpAny _ _ (getMethod (Value.ref _) _ _) _ _ _); ((with_reducible show wpAny _ _ (getMethod (Value.ref _) (Str.ofString "sub") _) _ _ _); k_dflt (refine' gm_sub ?k1 ?_; (case k1 => walk_at "my:pat")))) | ((with_reducible show wpAny _ _ (getMethod (Value.ref _) _ _) _ _ _); ((with_reducible show wpAny _ _ (getMethod (Value.ref _) (Str.ofString "subn") _) _ _ _); k_dflt (refine' gm_subn ?k1 ?_; (case k1 => walk_at "my:pat")))) | ((with_reducible show wpAny _ _ (getMethod (Value.ref _) _ _) _ _ _); ((with_reducible show wpAny _ _ (getMethod (Value.ref _) (Str.ofString "search") _) _ _ _); k_dflt (refine' gm_search ?k1 ?_; (case k1 => walk_at "my:pat"))))) | (k_unfold; (try dsimp only)) | (k_end; wrow_close) | walk1 | (dsimp only; walk1) | (leave1; (try dsimp only))))
            rename Fr _ _ _ _ => F; rename News _ _ _ _ => N
            rename_i dq _ lq
            simp only [List.push_toArray] at N
            exact hR1 _ _ (fin' dq _ _ _ _ _ _ _ F ⟨rfl, rfl, rfl, trivial⟩ (fun p hp => N p ((List.forall_mem_cons.mpr ⟨by k_mem, (List.forall_mem_cons.mpr ⟨by k_mem, (List.forall_mem_cons.mpr ⟨by k_mem, (List.forall_mem_cons.mpr ⟨by k_mem, (List.forall_mem_cons.mpr ⟨by k_mem, (fun p hp => by repeat (first | exact hp | refine List.Mem.tail _ ?_))⟩)⟩)⟩)⟩)⟩) p hp)) (fun _ => rfl) ⟨_, rfl⟩ (by show @Ne Nat dq pr; omega) (by show @Ne Nat dq I; omega) (by show @Ne Nat dq rs; omega) (by show @Ne Nat dq 72; omega))
          · (repeat' (first | ((with_reducible show wpAny _ _ (PySem.call _ _ _) _ _ _); first | ((with_reducible show wpAny _ _ (PySem.call (Value.ref _) _ _) _ _ _); ((with_reducible show wpAny _ _ (PySem.call (Value.ref 50) _ _) _ _ _); k_dflt (refine' unmatched2_ctr ?k1 ?k2 ?k3 ?k4 ?x0 ?x1 ?x2 ?x3 ?x4 ?_; (case k1 => exact Frag.In.keeps (by k_asm) (Fr.keep (by k_asm))); (case k2 => exact Top.keeps (by k_asm) (Fr.keep (by k_asm))); (case k3 => (((try simp only [Around.deeper]); omega))); (case k4 => (((try simp only [Around.deeper]); omega))); (case x0 => walk_at "my:get"); (case x1 => walk_at "my:get"); (case x2 => assumption); (case x3 => assumption); (case x4 => first | assumption | omega); intro t' h' tk' st'; (have F' := fr_after (by k_asm) st'); (have N' := news_after (by k_asm) st'); clear st'; (try dsimp only); (try k_sweep)))) | ((with_reducible show wpAny _ _ (PySem.call (Value.builtin "list.append") _ _) _ _ _); k_dflt (refine' append_K ?k1 ?k2 ?k3 ?_ ?z; (case k1 => k_asm); (case k2 => k_asm); (case k3 => k_upd); (case z => assumption); intro h' F' N'; (try k_sweep))) | ((with_reducible show wpAny _ _ (PySem.call (Value.builtin "str.startswith") _ _) _ _ _); k_dflt (refine' starts_S ?k1 ?_; (case k1 => assumption))) | ((with_reducible show wpAny _ _ (PySem.call (Value.builtin "str.rstrip") _ _) _ _ _); k_dflt (refine' rstrip_S ?k1 ?k2 ?_; (case k1 => first | assumption | decide | rfl); (case k2 => first | assumption | decide); intro t' k')) | ((with_reducible show wpAny _ _ (PySem.call (Value.builtin "str.lstrip") _ _) _ _ _); k_dflt (refine' lstrip_S ?k1 ?k2 ?_; (case k1 => assumption); (case k2 => assumption); intro t' k')) | ((with_reducible show wpAny _ _ (PySem.call (Value.builtin "re.Pattern.sub") _ _) _ _ _); k_dflt (refine' sub_S ?k1 ?k2 ?k3 ?k4 ?k5 ?k6 ?k7 ?k8 ?_; (case k6 => assumption); (case k3 => assumption); (case k1 => k_asm); (case k2 => k_asm); (case k4 => walk_at "my:get"); (case k5 => rfl); (case k7 => assumption); (case k8 => omega); intro t' h' tk' F' N'; (try k_sweep))) | ((with_reducible show wpAny _ _ (PySem.call (Value.builtin "re.Pattern.subn") _ _) _ _ _); k_dflt (refine' subn_S ?k1 ?k2 ?k3 ?k4 ?k5 ?k6 ?k7 ?k8 ?k9 ?k10 ?_; (case k4 => assumption); (case k5 => assumption); (case k3 => assumption); (case k1 => k_asm); (case k2 => k_asm); (case k6 => assumption); (case k7 => omega); (case k8 => omega); (case k9 => assumption); (case k10 => assumption); intro tp t' u' h' tk' F' N' l1; (try simp only [Off, and_true] at l1); (try k_sweep))) | ((with_reducible show wpAny _ _ (PySem.call (Value.builtin "re.Match.group") _ _) _ _ _); k_dflt (refine' group_S ?k1 ?k2 ?k3 ?k4 ?_; (case k1 => walk_at "my:get"); (case k2 => walk_at "my:get"); (case k3 => assumption); (case k4 => assumption))) | ((with_reducible show wpAny _ _ (PySem.call (Value.builtin "re.Pattern.search") _ _) _ _ _); k_dflt (first | (refine' search_S ?k1 ?k2 ?k3 ?k4 ?k5 ?k6 ?k7 ?_; (case k3 => assumption); (case k4 => assumption); (case k1 => k_asm); (case k2 => k_asm); (case k5 => assumption); (case k6 => omega); (case k7 => omega); intro q q' h' F' N' l1 l2; (try k_lt l1); (try k_lt2 l2); (try k_sweep)) | (refine' search_N ?k1 ?k3 ?k4 ?k5 ?k6 ?_; (case k3 => assumption); (case k4 => assumption); (case k1 => k_asm); (case k5 => assumption); (case k6 => omega))))) | ((with_reducible show wpAny _ _ (truthy _) _ _ _); first | ((with_reducible show wpAny _ _ (truthy (Value.str _ _)) _ _ _); k_dflt (refine' truthy_S ?k1 ?k2 ?_; (case k1 => assumption); (case k2 => assumption); intro k')) | ((with_reducible show wpAny _ _ (truthy (Value.ref _)) _ _ _); k_dflt (first | (refine' truthy_match ?k1 ?_; (case k1 => walk_at "my:get")) | (refine' truthy_L ?k1 ?k2 ?k3 ?k4 ?_; (case k1 => k_asm); (case k2 => k_mem); (case k3 => assumption); (case k4 => omega))))) | ((with_reducible show wpAny _ _ (getMethod _ _ _) _ _ _); first | ((with_reducible show wpAny _ _ (getMethod (Value.ref _) _ _) _ _ _); ((with_reducible show wpAny _ _ (getMethod (Value.ref _) (Str.ofString "group") _) _ _ _); k_dflt (refine' gm_group ?k1 ?_; (case k1 => walk_at "my:get")))) | ((with_reducible show wpAny _ _ (getMethod (Value.ref _) _ _) _ _ _); ((with_reducible show wpAny _ _ (getMethod (Value.ref _) (Str.ofString "sub") _) _ _ _); k_dflt (refine' gm_sub ?k1 ?_; (case k1 => walk_at "my:pat")))) | ((with_reducible show wpAny _ _ (getMethod (Value.ref _) _ _) _ _ _); ((with_reducible show wpAny _ _ (getMethod (Value.ref _) (Str.ofString "subn") _) _ _ _); k_dflt (refine' gm_subn ?k1 ?_; (case k1 => walk_at "my:pat")))) | ((with_reducible show wpAny _ _ (getMethod (Value.ref _) _ _) _ _ _); ((with_reducible show wpAny _ _ (getMethod (Value.ref _) (Str.ofString "search") _) _ _ _); k_dflt (refine' gm_search ?k1 ?_; (case k1 => walk_at "my:pat"))))) | (k_unfold; (try dsimp only)) | (k_end; wrow_close) | walk1 | (dsimp only; walk1) | (leave1; (try dsimp only))))
            rename Fr _ _ _ _ => F; rename News _ _ _ _ => N
            rename_i dq _ lq
            simp only [List.push_toArray] at N
            exact hR1 _ _ (fin' dq _ _ _ _ _ _ _ F ⟨rfl, rfl, rfl, trivial⟩ (fun p hp => N p ((List.forall_mem_cons.mpr ⟨by k_mem, (List.forall_mem_cons.mpr ⟨by k_mem, (List.forall_mem_cons.mpr ⟨by k_mem, (List.forall_mem_cons.mpr ⟨by k_mem, (List.forall_mem_cons.mpr ⟨by k_mem, (fun p hp => by repeat (first | exact hp | refine List.Mem.tail _ ?_))⟩)⟩)⟩)⟩)⟩) p hp)) (fun e => absurd e (by rw [hb hbt]; decide)) ⟨_, rfl⟩ (by show @Ne Nat dq pr; omega) (by show @Ne Nat dq I; omega) (by show @Ne Nat dq rs; omega) (by show @Ne Nat dq 72; omega))
      · obtain rfl := tb1 (by simp)
        have he : (44 :: rst).isEmpty = false := rfl
        have hrl : rst.length < 1000 := by simp at ln2; omega
        have hc : ∀ c ∈ rst, c < 128 := fun c hc => ch c (by simp [hc])
        have hT := tok_fails (c := 44) (r := rst) (by decide) rfl rfl (by omega)
        have hls := lstrip_head (c := 44) (r := rst) (by decide)
        have hst : Txt.startswith (S (44 :: rst)) (Str.ofString ",") = true := startswith_comma
        have hsl : Txt.slice (S (44 :: rst)) (some 1) none = S rst := S_slice_from (44 :: rst) 1 (by simp)
        have hz0 : (S (44 :: rst)).length ≤ sizeLine := by rw [S_length]; omega
        by_cases hpe : p = []
        · subst hpe
          obtain rfl : vs = [] := List.length_eq_zero_iff.mp lsp
          have hve : ([] : List Value).isEmpty = true := rfl
          (repeat' (first | ((with_reducible show wpAny _ _ (PySem.call _ _ _) _ _ _); first | ((with_reducible show wpAny _ _ (PySem.call (Value.ref _) _ _) _ _ _); ((with_reducible show wpAny _ _ (PySem.call (Value.ref 50) _ _) _ _ _); k_dflt (refine' unmatched2_ctr ?k1 ?k2 ?k3 ?k4 ?x0 ?x1 ?x2 ?x3 ?x4 ?_; (case k1 => exact Frag.In.keeps (by k_asm) (Fr.keep (by k_asm))); (case k2 => exact Top.keeps (by k_asm) (Fr.keep (by k_asm))); (case k3 => (((try simp only [Around.deeper]); omega))); (case k4 => (((try simp only [Around.deeper]); omega))); (case x0 => walk_at "my:get"); (case x1 => walk_at "my:get"); (case x2 => assumption); (case x3 => assumption); (case x4 => first | assumption | omega); intro t' h' tk' st'; (have F' := fr_after (by k_asm) st'); (have N' := news_after (by k_asm) st'); clear st'; (try dsimp only); (try k_sweep)))) | ((with_reducible show wpAny _ _ (PySem.call (Value.builtin "list.append") _ _) _ _ _); k_dflt (refine' append_K ?k1 ?k2 ?k3 ?_ ?z; (case k1 => k_asm); (case k2 => k_asm); (case k3 => k_upd); (case z => assumption); intro h' F' N'; (try k_sweep))) | ((with_reducible show wpAny _ _ (PySem.call (Value.builtin "str.startswith") _ _) _ _ _); k_dflt (refine' starts_S ?k1 ?_; (case k1 => assumption))) | ((with_reducible show wpAny _ _ (PySem.call (Value.builtin "str.rstrip") _ _) _ _ _); k_dflt (refine' rstrip_S ?k1 ?k2 ?_; (case k1 => first | assumption | decide | rfl); (case k2 => first | assumption | decide); intro t' k')) | ((with_reducible show wpAny _ _ (PySem.call (Value.builtin "str.lstrip") _ _) _ _ _); k_dflt (refine' lstrip_S ?k1 ?k2 ?_; (case k1 => assumption); (case k2 => assumption); intro t' k')) | ((with_reducible show wpAny _ _ (PySem.call (Value.builtin "re.Pattern.sub") _ _) _ _ _); k_dflt (refine' sub_S ?k1 ?k2 ?k3 ?k4 ?k5 ?k6 ?k7 ?k8 ?_; (case k6 => assumption); (case k3 => assumption); (case k1 => k_asm); (case k2 => k_asm); (case k4 => walk_at "my:get"); (case k5 => rfl); (case k7 => assumption); (case k8 => omega); intro t' h' tk' F' N'; (try k_sweep))) | ((with_reducible show wpAny _ _ (PySem.call (Value.builtin "re.Pattern.subn") _ _) _ _ _); k_dflt (refine' subn_S ?k1 ?k2 ?k3 ?k4 ?k5 ?k6 ?k7 ?k8 ?k9 ?k10 ?_; (case k4 => assumption); (case k5 => assumption); (case k3 => assumption); (case k1 => k_asm); (case k2 => k_asm); (case k6 => assumption); (case k7 => omega); (case k8 => omega); (case k9 => assumption); (case k10 => assumption); intro tp t' u' h' tk' F' N' l1; (try simp only [Off, and_true] at l1); (try k_sweep))) | ((with_reducible show wpAny _ _ (PySem.call (Value.builtin "re.Match.group") _ _) _ _ _); k_dflt (refine' group_S ?k1 ?k2 ?k3 ?k4 ?_; (case k1 => walk_at "my:get"); (case k2 => walk_at "my:get"); (case k3 => assumption); (case k4 => assumption))) | ((with_reducible show wpAny _ _ (PySem.call (Value.builtin "re.Pattern.search") _ _) _ _ _); k_dflt (first | (refine' search_S ?k1 ?k2 ?k3 ?k4 ?k5 ?k6 ?k7 ?_; (case k3 => assumption); (case k4 => assumption); (case k1 => k_asm); (case k2 => k_asm); (case k5 => assumption); (case k6 => omega); (case k7 => omega); intro q q' h' F' N' l1 l2; (try k_lt l1); (try k_lt2 l2); (try k_sweep)) | (refine' search_N ?k1 ?k3 ?k4 ?k5 ?k6 ?_; (case k3 => assumption); (case k4 => assumption); (case k1 => k_asm); (case k5 => assumption); (case k6 => omega))))) | ((with_reducible show wpAny _ _ (truthy _) _ _ _); first | ((with_reducible show wpAny _ _ (truthy (Value.str _ _)) _ _ _); k_dflt (refine' truthy_S ?k1 ?k2 ?_; (case k1 => assumption); (case k2 => assumption); intro k')) | ((with_reducible show wpAny _ _ (truthy (Value.ref _)) _ _ _); k_dflt (first | (refine' truthy_match ?k1 ?_; (case k1 => walk_at "my:get")) | (refine' truthy_L ?k1 ?k2 ?k3 ?k4 ?_; (case k1 => k_asm); (case k2 => k_mem); (case k3 => assumption); (case k4 => omega))))) | ((with_reducible show wpAny _ _ (getMethod _ _ _) _ _ _); first | ((with_reducible show wpAny _ _ (getMethod (Value.ref _) _ _) _ _ _); ((with_reducible show wpAny _ _ (getMethod (Value.ref _) (Str.ofString "group") _) _ _ _); k_dflt (refine' gm_group ?k1 ?_; (case k1 => walk_at "my:get")))) | ((with_reducible show wpAny _ _ (getMethod (Value.ref _) _ _) _ _ _); ((with_reducible show wpAny _ _ (getMethod (Value.ref _) (Str.ofString "sub") _) _ _ _); k_dflt (refine' gm_sub ?k1 ?_; (case k1 => walk_at "my:pat")))) | ((with_reducible show wpAny _ _ (getMethod (Value.ref _) _ _) _ _ _); ((with_reducible show wpAny _ _ (getMethod (Value.ref _) (Str.ofString "subn") _) _ _ _); k_dflt (refine' gm_subn ?k1 ?_; (case k1 => walk_at "my:pat")))) | ((with_reducible show wpAny _ _ (getMethod (Value.ref _) _ _) _ _ _); ((with_reducible show wpAny _ _ (getMethod (Value.ref _) (Str.ofString "search") _) _ _ _); k_dflt (refine' gm_search ?k1 ?_; (case k1 => walk_at "my:pat"))))) | (k_unfold; (try dsimp only)) | (k_end; wrow_close) | walk1 | (dsimp only; walk1) | (leave1; (try dsimp only))))
          rename Fr _ _ _ _ => F; rename News _ _ _ _ => N
          have hfin : fin [] r = r := rfl
          rw [hfin] at hpar
          rename_i lp _ lq _
          have alt : ∀ p ∈ rest, @LT.lt Nat _ p.1 lp := allLt_mem lq.2.2.2.2
          refine hR1 _ _ ?_
          refine ⟨_, ?_, ⟨rst, _, [], r, lp, [], us, 0, k2, tabObj #[], rest⟩, _, _, _, rfl, F, ⟨by rw [← hsl]; rfl, rfl, rfl, trivial⟩, fun p hp => N p ((List.forall_mem_cons.mpr ⟨by k_mem, (List.forall_mem_cons.mpr ⟨by k_mem, (List.forall_mem_cons.mpr ⟨by k_mem, (List.forall_mem_cons.mpr ⟨by k_mem, (fun p hp => by repeat (first | exact hp | refine List.Mem.tail _ ?_))⟩)⟩)⟩)⟩) p hp),
            ⟨hpar, SupA.nil, su, fun _ => rfl, fun _ => rfl, ⟨_, rfl⟩, ?_, hrl, hc, (by show @Ne Nat lp I; omega), (by show @Ne Nat lp rs; omega), (by show @Ne Nat lp 72; omega), fun p hp => (show @Ne Nat p.1 lp from by have := alt p hp; omega), r2, r3, r4⟩, rfl⟩
          · simp
          · simp at ln ⊢; omega
        · have hve : vs.isEmpty = false := by
            cases vs with
            | nil => exact absurd (List.length_eq_zero_iff.mp lsp.symm) hpe
            | cons _ _ => rfl
          (repeat' (first | ((with_reducible show wpAny _ _ (PySem.call _ _ _) _ _ _); first | ((with_reducible show wpAny _ _ (PySem.call (Value.ref _) _ _) _ _ _); ((with_reducible show wpAny _ _ (PySem.call (Value.ref 50) _ _) _ _ _); k_dflt (refine' unmatched2_ctr ?k1 ?k2 ?k3 ?k4 ?x0 ?x1 ?x2 ?x3 ?x4 ?_; (case k1 => exact Frag.In.keeps (by k_asm) (Fr.keep (by k_asm))); (case k2 => exact Top.keeps (by k_asm) (Fr.keep (by k_asm))); (case k3 => (((try simp only [Around.deeper]); omega))); (case k4 => (((try simp only [Around.deeper]); omega))); (case x0 => walk_at "my:get"); (case x1 => walk_at "my:get"); (case x2 => assumption); (case x3 => assumption); (case x4 => first | assumption | omega); intro t' h' tk' st'; (have F' := fr_after (by k_asm) st'); (have N' := news_after (by k_asm) st'); clear st'; (try dsimp only); (try k_sweep)))) | ((with_reducible show wpAny _ _ (PySem.call (Value.builtin "list.append") _ _) _ _ _); k_dflt (refine' append_K ?k1 ?k2 ?k3 ?_ ?z; (case k1 => k_asm); (case k2 => k_asm); (case k3 => k_upd); (case z => assumption); intro h' F' N'; (try k_sweep))) | ((with_reducible show wpAny _ _ (PySem.call (Value.builtin "str.startswith") _ _) _ _ _); k_dflt (refine' starts_S ?k1 ?_; (case k1 => assumption))) | ((with_reducible show wpAny _ _ (PySem.call (Value.builtin "str.rstrip") _ _) _ _ _); k_dflt (refine' rstrip_S ?k1 ?k2 ?_; (case k1 => first | assumption | decide | rfl); (case k2 => first | assumption | decide); intro t' k')) | ((with_reducible show wpAny _ _ (PySem.call (Value.builtin "str.lstrip") _ _) _ _ _); k_dflt (refine' lstrip_S ?k1 ?k2 ?_; (case k1 => assumption); (case k2 => assumption); intro t' k')) | ((with_reducible show wpAny _ _ (PySem.call (Value.builtin "re.Pattern.sub") _ _) _ _ _); k_dflt (refine' sub_S ?k1 ?k2 ?k3 ?k4 ?k5 ?k6 ?k7 ?k8 ?_; (case k6 => assumption); (case k3 => assumption); (case k1 => k_asm); (case k2 => k_asm); (case k4 => walk_at "my:get"); (case k5 => rfl); (case k7 => assumption); (case k8 => omega); intro t' h' tk' F' N'; (try k_sweep))) | ((with_reducible show wpAny _ _ (PySem.call (Value.builtin "re.Pattern.subn") _ _) _ _ _); k_dflt (refine' subn_S ?k1 ?k2 ?k3 ?k4 ?k5 ?k6 ?k7 ?k8 ?k9 ?k10 ?_; (case k4 => assumption); (case k5 => assumption); (case k3 => assumption); (case k1 => k_asm); (case k2 => k_asm); (case k6 => assumption); (case k7 => omega); (case k8 => omega); (case k9 => assumption); (case k10 => assumption); intro tp t' u' h' tk' F' N' l1; (try simp only [Off, and_true] at l1); (try k_sweep))) | ((with_reducible show wpAny _ _ (PySem.call (Value.builtin "re.Match.group") _ _) _ _ _); k_dflt (refine' group_S ?k1 ?k2 ?k3 ?k4 ?_; (case k1 => walk_at "my:get"); (case k2 => walk_at "my:get"); (case k3 => assumption); (case k4 => assumption))) | ((with_reducible show wpAny _ _ (PySem.call (Value.builtin "re.Pattern.search") _ _) _ _ _); k_dflt (first | (refine' search_S ?k1 ?k2 ?k3 ?k4 ?k5 ?k6 ?k7 ?_; (case k3 => assumption); (case k4 => assumption); (case k1 => k_asm); (case k2 => k_asm); (case k5 => assumption); (case k6 => omega); (case k7 => omega); intro q q' h' F' N' l1 l2; (try k_lt l1); (try k_lt2 l2); (try k_sweep)) | (refine' search_N ?k1 ?k3 ?k4 ?k5 ?k6 ?_; (case k3 => assumption); (case k4 => assumption); (case k1 => k_asm); (case k5 => assumption); (case k6 => omega))))) | ((with_reducible show wpAny _ _ (truthy _) _ _ _); first | ((with_reducible show wpAny _ _ (truthy (Value.str _ _)) _ _ _); k_dflt (refine' truthy_S ?k1 ?k2 ?_; (case k1 => assumption); (case k2 => assumption); intro k')) | ((with_reducible show wpAny _ _ (truthy (Value.ref _)) _ _ _); k_dflt (first | (refine' truthy_match ?k1 ?_; (case k1 => walk_at "my:get")) | (refine' truthy_L ?k1 ?k2 ?k3 ?k4 ?_; (case k1 => k_asm); (case k2 => k_mem); (case k3 => assumption); (case k4 => omega))))) | ((with_reducible show wpAny _ _ (getMethod _ _ _) _ _ _); first | ((with_reducible show wpAny _ _ (getMethod (Value.ref _) _ _) _ _ _); ((with_reducible show wpAny _ _ (getMethod (Value.ref _) (Str.ofString "group") _) _ _ _); k_dflt (refine' gm_group ?k1 ?_; (case k1 => walk_at "my:get")))) | ((with_reducible show wpAny _ _ (getMethod (Value.ref _) _ _) _ _ _); ((with_reducible show wpAny _ _ (getMethod (Value.ref _) (Str.ofString "sub") _) _ _ _); k_dflt (refine' gm_sub ?k1 ?_; (case k1 => walk_at "my:pat")))) | ((with_reducible show wpAny _ _ (getMethod (Value.ref _) _ _) _ _ _); ((with_reducible show wpAny _ _ (getMethod (Value.ref _) (Str.ofString "subn") _) _ _ _); k_dflt (refine' gm_subn ?k1 ?_; (case k1 => walk_at "my:pat")))) | ((with_reducible show wpAny _ _ (getMethod (Value.ref _) _ _) _ _ _); ((with_reducible show wpAny _ _ (getMethod (Value.ref _) (Str.ofString "search") _) _ _ _); k_dflt (refine' gm_search ?k1 ?_; (case k1 => walk_at "my:pat"))))) | (k_unfold; (try dsimp only)) | (k_end; wrow_close) | walk1 | (dsimp only; walk1) | (leave1; (try dsimp only))))
          rename Fr _ _ _ _ => F; rename News _ _ _ _ => N
          have hfin : fin p r = r ++ [p] := if_neg hpe
          rw [hfin] at hpar
          simp only [List.push_toArray] at N
          rename_i lp _ lq _
          have alt : ∀ p ∈ rest, @LT.lt Nat _ p.1 lp := allLt_mem lq.2.2.2.2
          refine hR1 _ _ ?_
          refine ⟨_, ?_, ⟨rst, _, [], r ++ [p], lp, [], us ++ [Value.ref pr], 0, k2 + 1, tabObj #[], (pr, W.listOf vs.toArray k1) :: rest⟩, _, _, _, rfl, F, ⟨by rw [← hsl]; rfl, rfl, rfl, trivial⟩, fun p hp => N p ((List.forall_mem_cons.mpr ⟨by k_mem, (List.forall_mem_cons.mpr ⟨by k_mem, (List.forall_mem_cons.mpr ⟨by k_mem, (List.forall_mem_cons.mpr ⟨by k_mem, (List.forall_mem_cons.mpr ⟨by k_mem, (fun p hp => by repeat (first | exact hp | refine List.Mem.tail _ ?_))⟩)⟩)⟩)⟩)⟩) p hp),
            ⟨hpar, SupA.nil, (by rw [List.map_append]; exact (su.mono fun p hp => .tail _ hp).snoc (Sup.list (sp.mono fun p hp => .tail _ hp) (.head _))), fun _ => rfl, fun _ => rfl, ⟨_, rfl⟩, ?_, hrl, hc, (by show @Ne Nat lp I; omega), (by show @Ne Nat lp rs; omega), (by show @Ne Nat lp 72; omega), List.forall_mem_cons.mpr ⟨(by show @Ne Nat pr lp; omega), fun p hp => (show @Ne Nat p.1 lp from by have := alt p hp; omega)⟩, List.forall_mem_cons.mpr ⟨q1, r2⟩, List.forall_mem_cons.mpr ⟨q2, r3⟩, List.forall_mem_cons.mpr ⟨q3, r4⟩⟩, rfl⟩
          · simp
          · simp at ln ⊢; omega
      · obtain rfl := tb1 (by simp)
        have he : (59 :: jk ++ rst).isEmpty = false := rfl
        have hrl : rst.length < 1000 := by simp at ln2; omega
        have hc : ∀ c ∈ rst, c < 128 := fun c hc => ch c (by simp [hc])
        obtain ⟨kt, hkt, hT⟩ : ∃ k, k ≤ 1000000 ∧ Fails k (Sre.forSearch codeTok (59 :: jk ++ rst).toArray 1 0 (59 :: jk ++ rst).length false) := ⟨_, by simp at ln2 ⊢; omega, tok_fails (c := 59) (r := jk ++ rst) (by decide) rfl rfl (by simp at ln2 ⊢; omega)⟩
        have hls : Txt.lstrip (S (59 :: jk ++ rst)) = S (59 :: jk ++ rst) := lstrip_head (c := 59) (r := jk ++ rst) (by decide)
        have hst : Txt.startswith (S (59 :: jk ++ rst)) (Str.ofString ",") = false := startswith_comma
        have hJ := junk_match (jk := 59 :: jk) (rest := rst) ch (List.forall_mem_cons.mpr ⟨rfl, hj⟩) hr (by omega)
        have hF := junk_fails (T := 59 :: jk ++ rst) (p := (59 :: jk).length) (by simp) (by simp)
        have hpos : 0 < (59 :: jk).length := by simp
        have hd1 : (59 :: jk ++ rst).drop (59 :: jk).length = rst := List.drop_left
        (repeat' (first | ((with_reducible show wpAny _ _ (PySem.call _ _ _) _ _ _); first | ((with_reducible show wpAny _ _ (PySem.call (Value.ref _) _ _) _ _ _); ((with_reducible show wpAny _ _ (PySem.call (Value.ref 50) _ _) _ _ _); k_dflt (refine' unmatched2_ctr ?k1 ?k2 ?k3 ?k4 ?x0 ?x1 ?x2 ?x3 ?x4 ?_; (case k1 => exact Frag.In.keeps (by k_asm) (Fr.keep (by k_asm))); (case k2 => exact Top.keeps (by k_asm) (Fr.keep (by k_asm))); (case k3 => (((try simp only [Around.deeper]); omega))); (case k4 => (((try simp only [Around.deeper]); omega))); (case x0 => walk_at "my:get"); (case x1 => walk_at "my:get"); (case x2 => assumption); (case x3 => assumption); (case x4 => first | assumption | omega); intro t' h' tk' st'; (have F' := fr_after (by k_asm) st'); (have N' := news_after (by k_asm) st'); clear st'; (try dsimp only); (try k_sweep)))) | ((with_reducible show wpAny _ _ (PySem.call (Value.builtin "list.append") _ _) _ _ _); k_dflt (refine' append_K ?k1 ?k2 ?k3 ?_ ?z; (case k1 => k_asm); (case k2 => k_asm); (case k3 => k_upd); (case z => assumption); intro h' F' N'; (try k_sweep))) | ((with_reducible show wpAny _ _ (PySem.call (Value.builtin "str.startswith") _ _) _ _ _); k_dflt (refine' starts_S ?k1 ?_; (case k1 => assumption))) | ((with_reducible show wpAny _ _ (PySem.call (Value.builtin "str.rstrip") _ _) _ _ _); k_dflt (refine' rstrip_S ?k1 ?k2 ?_; (case k1 => first | assumption | decide | rfl); (case k2 => first | assumption | decide); intro t' k')) | ((with_reducible show wpAny _ _ (PySem.call (Value.builtin "str.lstrip") _ _) _ _ _); k_dflt (refine' lstrip_S ?k1 ?k2 ?_; (case k1 => assumption); (case k2 => assumption); intro t' k')) | ((with_reducible show wpAny _ _ (PySem.call (Value.builtin "re.Pattern.sub") _ _) _ _ _); k_dflt (refine' sub_S ?k1 ?k2 ?k3 ?k4 ?k5 ?k6 ?k7 ?k8 ?_; (case k6 => assumption); (case k3 => assumption); (case k1 => k_asm); (case k2 => k_asm); (case k4 => walk_at "my:get"); (case k5 => rfl); (case k7 => assumption); (case k8 => omega); intro t' h' tk' F' N'; (try k_sweep))) | ((with_reducible show wpAny _ _ (PySem.call (Value.builtin "re.Pattern.subn") _ _) _ _ _); k_dflt (refine' subn_S ?k1 ?k2 ?k3 ?k4 ?k5 ?k6 ?k7 ?k8 ?k9 ?k10 ?_; (case k4 => assumption); (case k5 => assumption); (case k3 => assumption); (case k1 => k_asm); (case k2 => k_asm); (case k6 => assumption); (case k7 => omega); (case k8 => omega); (case k9 => assumption); (case k10 => assumption); intro tp t' u' h' tk' F' N' l1; (try simp only [Off, and_true] at l1); (try k_sweep))) | ((with_reducible show wpAny _ _ (PySem.call (Value.builtin "re.Match.group") _ _) _ _ _); k_dflt (refine' group_S ?k1 ?k2 ?k3 ?k4 ?_; (case k1 => walk_at "my:get"); (case k2 => walk_at "my:get"); (case k3 => assumption); (case k4 => assumption))) | ((with_reducible show wpAny _ _ (PySem.call (Value.builtin "re.Pattern.search") _ _) _ _ _); k_dflt (first | (refine' search_S ?k1 ?k2 ?k3 ?k4 ?k5 ?k6 ?k7 ?_; (case k3 => assumption); (case k4 => assumption); (case k1 => k_asm); (case k2 => k_asm); (case k5 => assumption); (case k6 => omega); (case k7 => omega); intro q q' h' F' N' l1 l2; (try k_lt l1); (try k_lt2 l2); (try k_sweep)) | (refine' search_N ?k1 ?k3 ?k4 ?k5 ?k6 ?_; (case k3 => assumption); (case k4 => assumption); (case k1 => k_asm); (case k5 => assumption); (case k6 => omega))))) | ((with_reducible show wpAny _ _ (truthy _) _ _ _); first | ((with_reducible show wpAny _ _ (truthy (Value.str _ _)) _ _ _); k_dflt (refine' truthy_S ?k1 ?k2 ?_; (case k1 => assumption); (case k2 => assumption); intro k')) | ((with_reducible show wpAny _ _ (truthy (Value.ref _)) _ _ _); k_dflt (first | (refine' truthy_match ?k1 ?_; (case k1 => walk_at "my:get")) | (refine' truthy_L ?k1 ?k2 ?k3 ?k4 ?_; (case k1 => k_asm); (case k2 => k_mem); (case k3 => assumption); (case k4 => omega))))) | ((with_reducible show wpAny _ _ (getMethod _ _ _) _ _ _); first | ((with_reducible show wpAny _ _ (getMethod (Value.ref _) _ _) _ _ _); ((with_reducible show wpAny _ _ (getMethod (Value.ref _) (Str.ofString "group") _) _ _ _); k_dflt (refine' gm_group ?k1 ?_; (case k1 => walk_at "my:get")))) | ((with_reducible show wpAny _ _ (getMethod (Value.ref _) _ _) _ _ _); ((with_reducible show wpAny _ _ (getMethod (Value.ref _) (Str.ofString "sub") _) _ _ _); k_dflt (refine' gm_sub ?k1 ?_; (case k1 => walk_at "my:pat")))) | ((with_reducible show wpAny _ _ (getMethod (Value.ref _) _ _) _ _ _); ((with_reducible show wpAny _ _ (getMethod (Value.ref _) (Str.ofString "subn") _) _ _ _); k_dflt (refine' gm_subn ?k1 ?_; (case k1 => walk_at "my:pat")))) | ((with_reducible show wpAny _ _ (getMethod (Value.ref _) _ _) _ _ _); ((with_reducible show wpAny _ _ (getMethod (Value.ref _) (Str.ofString "search") _) _ _ _); k_dflt (refine' gm_search ?k1 ?_; (case k1 => walk_at "my:pat"))))) | (k_unfold; (try dsimp only)) | (k_end; wrow_close) | walk1 | (dsimp only; walk1) | (leave1; (try dsimp only))))
        rename Fr _ _ _ _ => F; rename News _ _ _ _ => N
        refine hR1 _ _ ?_
        refine ⟨_, ?_, ⟨rst, _, p, r, pr, vs, us, k1, k2, tabObj #[], rest⟩, _, _, _, rfl, F, ⟨rfl, rfl, rfl, trivial⟩, fun p hp => N p ((List.forall_mem_cons.mpr ⟨by k_mem, (List.forall_mem_cons.mpr ⟨by k_mem, (List.forall_mem_cons.mpr ⟨by k_mem, (List.forall_mem_cons.mpr ⟨by k_mem, (fun p hp => by repeat (first | exact hp | refine List.Mem.tail _ ?_))⟩)⟩)⟩)⟩) p hp), ⟨hpar, sp, su, fun _ => rfl, fun _ => rfl, ⟨_, rfl⟩, ?_, hrl, hc, q1, q2, q3, r1, r2, r3, r4⟩, rfl⟩
        · simp; omega
        · simp at ln ⊢; omega
end Mine
end
section
open PySem PySem.W PyProof.Rows PySem.Calls
set_option Elab.async false
set_option maxRecDepth 100000
set_option maxHeartbeats 8000000
namespace Mine
local macro_rules | `(tactic| walk_at "my:get") => `(tactic| exact News.get (by k_asm) (by k_mem))
local macro_rules | `(tactic| walk_at "my:pat") => `(tactic| exact PatAt.keeps (by assumption) (Fr.keep (by k_asm)))
theorem fullmatch_S {prog : Program} {w : World} {A : Around} {E : Value → Shared → Prop} {s : Shared} {h₀ : Heap} {L a : Addr} {m : Str → Option Value} {l : List Nat} {t : Tok} {k : Nat} {code : Array Nat} {Q : Value → Shared → Prop} (F : Fr h₀ L s.heap m) (hp : PatAt h₀ a code 0) (hf : Fails k (Sre.forMatch code l.toArray 0 0 l.length true false)) (hx : l.length < 1000) (hk : k ≤ 1000000) (h : Q .none s) :
    wpAny (model prog w) A (call (.builtin "re.Pattern.fullmatch") [.ref a, .str (S l) t]) Q E s := by
  have e1 : (S l).cps.size = l.length := by simp
  exact fullmatch_none (k := k) (hp.keeps F.keep) (by rw [e1]; omega) (by omega) (by rw [e1]; exact hf) h
local macro_rules | `(tactic| walk_at "convS str") => `(tactic| (refine SB.convS_str (fun t' k' => ?_) (by assumption)))
local macro_rules | `(tactic| walk_at "formatField str") => `(tactic| (refine SB.field_str (fun t' k' => ?_) (by assumption)))
theorem md0 (t u : Tok) : Builtin.«str.__mod__» ⟨[.str (Str.ofString "\"%s\"") t, .str (S []) u], []⟩ = (do ret (← mkStr (Str.ofString "\"\""))) := by kernel_rfl
theorem md1 (t u : Tok) : Builtin.«str.__mod__» ⟨[.str (Str.ofString "\"%s\"") t, .str (S [61]) u], []⟩ = (do ret (← mkStr (Str.ofString "\"=\""))) := by kernel_rfl
theorem md_meets {x : Sem Fin} {T : Str} (e : x = (do ret (← mkStr T))) (hT : T.length ≤ sizeLine) : Meets x (fun _ R s => ∀ t' k, R (.ok (.ret (.str T t'))) { s with toks := k }) := by
  subst e
  exact Meets.of_wp fun prog w A _ s hS => wpAny_bind (wpAny_mkStr (wpAny_pure ⟨_, rfl, hS _ _⟩) hT)
theorem mod_q {prog : Program} {w : World} {A : Around} {E : Value → Shared → Prop} {s : Shared} {v : List Nat} {t u : Tok} {Q : Value → Shared → Prop} (hv : v = [] ∨ v = [61]) (h : ∀ t' k, Q (.str (S ([34] ++ v ++ [34])) t') { s with toks := k }) :
    wpAny (model prog w) A (binaryOp .Mod (.str (Str.ofString "\"%s\"") t) (.str (S v) u)) Q E s := by
  have hz : (2 : Nat) ≤ sizeLine ∧ (3 : Nat) ≤ sizeLine := by decide
  rcases hv with rfl | rfl
  · exact binaryOp_meets (T := "str") (op := .Mod) (typeIs_str s _ t) (typeIs_str s _ u) F.fills_str_mod F.slot_str_mod F.entry_str_mod (F.args_str_mod_2 _ _) (md_meets (md0 t u) hz.1) (fun t' k => ⟨(fun e => nomatch e), h t' k⟩)
  · exact binaryOp_meets (T := "str") (op := .Mod) (typeIs_str s _ t) (typeIs_str s _ u) F.fills_str_mod F.slot_str_mod F.entry_str_mod (F.args_str_mod_2 _ _) (md_meets (md1 t u) hz.2) (fun t' k => ⟨(fun e => nomatch e), h t' k⟩)
local macro_rules | `(tactic| walk_at "And") => `(tactic| refine ⟨by assumption, ?_⟩)
noncomputable def jn (sep : List Nat) : List (List Nat) → List Nat
  | [] => []
  | [x] => x
  | x :: y :: r => x ++ sep ++ jn sep (y :: r)
theorem join_S (sep : List Nat) : ∀ xs : List (List Nat), Txt.join (S sep) (xs.map S) = S (jn sep xs) := by
  intro xs
  unfold Txt.join
  rw [StrLaws.glued_eq_join]
  induction xs with
  | nil => rfl
  | cons x r ih =>
    cases r with
    | nil => rfl
    | cons y r =>
      simp only [List.map_cons] at ih ⊢
      rw [join_cons2, ih, S_append, S_append]
      rfl
noncomputable def pairS (w : Pr) : List Nat := match w.2 with | none => w.1 | some v => w.1 ++ [61] ++ ([34] ++ v ++ [34])
noncomputable def jnp (ps : List Pr) : List Nat := jn [59, 32] (ps.map pairS)
noncomputable def jnl (L : List (List Pr)) : List Nat := jn [44, 32] (L.map jnp)
noncomputable def nS (ps : List Pr) : Nat := (ps.filter (·.2.isSome)).length
noncomputable def nL (L : List (List Pr)) : Nat := (L.map nS).sum
theorem nS_cons {w : Pr} {r : List Pr} : nS (w :: r) = (if w.2.isSome then 1 else 0) + nS r := by
  unfold nS
  rw [List.filter_cons]
  by_cases h : w.2.isSome = true
  · rw [if_pos h, if_pos h, List.length_cons]; omega
  · rw [if_neg h, if_neg h]; omega
theorem nS_drop : ∀ (j : Nat) (l : List Pr), nS (l.drop j) ≤ nS l
  | 0, l => Nat.le_refl _
  | j + 1, [] => Nat.le_refl _
  | j + 1, x :: r => Nat.le_trans (nS_drop j r) (by rw [nS_cons]; omega)
theorem strValues_snoc {hs : List (Str × Tok)} {x : Str} {t : Tok} : strValues (hs ++ [(x, t)]) = strValues hs ++ [.str x t] := by simp [strValues]
theorem gen_nestJ {α β : Type} {M M' : Model} {A A' : Around} {x : Sem α} {y : Sem β} {Q1 : β → Shared → Prop} {E E1 : Value → Shared → Prop} {s : Shared} (h : ∀ R : β → Shared → Prop, (∀ f s', Q1 f s' → R f s') → wpAny M A x (fun _ s₂ => wpAny M' A' y R E1 s₂) E s) : wpAny M A x (fun _ s₂ => wpAny M' A' y Q1 E1 s₂) E s := h Q1 fun _ _ h => h
theorem nL_drop : ∀ (i : Nat) (l : List (List Pr)), nL (l.drop i) ≤ nL l
  | 0, l => Nat.le_refl _
  | i + 1, [] => Nat.le_refl _
  | i + 1, x :: r => Nat.le_trans (nL_drop i r) (by show nL r ≤ nS x + nL r; omega)
theorem join_ctr {w : World} {dp un : Nat} {fr : Option (List Env)} {gd : Option (List Code)} {s : Shared} {mean : ExcName → Option Value} {pp : Program} {ll : List Str} {mg mb : Str → Option Value} {Q E : Value → Shared → Prop} {a : Addr} {LL : List (List Pr)} {as : List Addr} (X : (hp w.params).In s.heap) (T : Top pp ll mean mg mb s.heap) (hdp : dp + 3 < 400) (hu : un + 20 * 3 < 4000)
   (x : Reads s.heap (.ref a) (resD LL) as) (h89 : s.heap.get? 89 = some (tabObj #[])) (hne : ∀ ps ∈ LL, ps ≠ []) (hn : nL LL ≤ 1) (hv : ∀ ps ∈ LL, ∀ w ∈ ps, w.2 = none ∨ w.2 = some [] ∨ w.2 = some [61]) (hz1 : LL.length < 1000) (hz2 : ∀ ps ∈ LL, ps.length < 1000 ∧ (jnp ps).length < 1000 ∧ ∀ w ∈ ps, (pairS w).length < 1000)
   (hret : ∀ t' h' tk', (∀ b o, b ≠ 89 → s.heap.get? b = some o → h'.get? b = some o) → (∃ ps, h'.get? 89 = some (tabObj ps)) → Q (.str (S (jnl LL)) t') { s with heap := h', toks := tk' }) :
   wpAny (model Challenge.rw_pa0034_01.row.prog w) (At dp un fr gd) (call (.ref 94) [.ref a]) Q E s := by
  rcases s with ⟨h₀, gs, dr, tk, os⟩
  dsimp only at *
  revert X
  k_fill
  intro X
  refine wpAny_call ?_
  k_dflt (refine' enter (binds := [(Str.ofString "lists", .ref a)]) ?k1 ?k2 ?k3 ?kA ?kB ?kS ?k4 ?k5 ?k6 ?k7 ?_ ?c2 ?c3 ?c4 ?c5; (case k1 => k_asm); (case k2 => exact T.nolimit); (case k3 => k_is); (case kA => (conv => lhs; whnf)); (case kB => (conv => lhs; whnf)); (case kS => (conv => lhs; whnf)); (case k4 => k_is); (case k5 => exact room_of (by omega)); (case k6 => first | exact BindsTo.of_eq rfl | exact binds_K (by k_in) rfl (by k_is) rfl rfl rfl); (case k7 => exact locs rfl); (case c5 => decide); (case c2 => exact rfl); (case c3 => exact rfl); (case c4 => exact rfl))
  intro L h₁ F0 N0
  dsimp only at F0 N0
  (try dsimp only)
  obtain ⟨g, kg, F1, N1, X1, ⟨pp1, ll1, T1⟩, C1, _⟩ := lay_aside (c := 93) (P := 89) X T F0 (by kernel_rfl) h89 (by kernel_rfl)
  obtain ⟨bs, y⟩ := reads_aside kg h89 x
  clear X T N0 F0 x
  obtain ⟨_, vs, cs, e, hl, hr⟩ := reads_list y
  obtain rfl := (Value.ref.inj e).symm
  obtain ⟨hvl, hit⟩ := readsAll_at hr
  refine wpAny_noRaise ?_
  repeat ((fail_if_success (with_reducible show wpAny _ _ (exec (Stmt.For _ _ _ _ _) _) _ _ _)); (first | ((with_reducible show wpAny _ _ (joinParts _ _) _ _ _); k_dflt (first | refine joinParts_nil ?_ (by assumption) | refine joinParts_nilE (joinParts_nil ?_ (by assumption)))) | ((with_reducible show wpAny _ _ (binaryOp Operator.Mod (Value.str _ _) (Value.str _ _)) _ _ _); (refine mod_q (by assumption) (fun t' k' => ?_))) | ((with_reducible show wpAny _ _ (truthy (Value.ref _)) _ _ _); k_dflt (refine' truthy_L ?k1 ?k2 ?k3 ?k4 ?_; (case k1 => k_asm); (case k2 => k_mem); (case k3 => assumption); (case k4 => assumption))) | ((with_reducible show wpAny _ _ (PySem.call _ _ _) _ _ _); first | ((with_reducible show wpAny _ _ (PySem.call (Value.builtin "list.append") _ _) _ _ _); k_dflt (refine' append_K ?k1 ?k2 ?k3 ?_ ?z; (case k1 => k_asm); (case k2 => k_asm); (case k3 => k_upd); (case z => assumption); intro h' F' N'; (try k_sweep))) | ((with_reducible show wpAny _ _ (PySem.call (Value.builtin "re.Pattern.sub") _ _) _ _ _); k_dflt (refine' sub_S ?k1 ?k2 ?k3 ?k4 ?k5 ?k6 ?k7 ?k8 ?_; (case k3 => assumption); (case k6 => assumption); (case k1 => k_asm); (case k2 => k_asm); (case k4 => walk_at "my:get"); (case k5 => rfl); (case k7 => assumption); (case k8 => omega); intro t' h' tk' F' N'; (try k_sweep))) | ((with_reducible show wpAny _ _ (PySem.call (Value.builtin "re.Pattern.fullmatch") _ _) _ _ _); k_dflt (refine' fullmatch_S ?k1 ?k3 ?k4 ?k5 ?k6 ?_; (case k3 => assumption); (case k4 => assumption); (case k1 => k_asm); (case k5 => assumption); (case k6 => omega)))) | ((with_reducible show wpAny _ _ (getMethod _ _ _) _ _ _); first | ((with_reducible show wpAny _ _ (getMethod (Value.ref _) _ _) _ _ _); ((with_reducible show wpAny _ _ (getMethod (Value.ref _) (Str.ofString "sub") _) _ _ _); k_dflt (refine' gm_sub ?k1 ?_; (case k1 => walk_at "my:pat")))) | ((with_reducible show wpAny _ _ (getMethod (Value.ref _) _ _) _ _ _); ((with_reducible show wpAny _ _ (getMethod (Value.ref _) (Str.ofString "fullmatch") _) _ _ _); k_dflt (refine' gm_fullmatch ?k1 ?_; (case k1 => walk_at "my:pat"))))) | walk1))
  rename_i hd _ lhd _ F N
  refine For_start ?_
  (first | ((with_reducible show wpAny _ _ (joinParts _ _) _ _ _); k_dflt (first | refine joinParts_nil ?_ (by assumption) | refine joinParts_nilE (joinParts_nil ?_ (by assumption)))) | ((with_reducible show wpAny _ _ (binaryOp Operator.Mod (Value.str _ _) (Value.str _ _)) _ _ _); (refine mod_q (by assumption) (fun t' k' => ?_))) | ((with_reducible show wpAny _ _ (truthy (Value.ref _)) _ _ _); k_dflt (refine' truthy_L ?k1 ?k2 ?k3 ?k4 ?_; (case k1 => k_asm); (case k2 => k_mem); (case k3 => assumption); (case k4 => assumption))) | ((with_reducible show wpAny _ _ (PySem.call _ _ _) _ _ _); first | ((with_reducible show wpAny _ _ (PySem.call (Value.builtin "list.append") _ _) _ _ _); k_dflt (refine' append_K ?k1 ?k2 ?k3 ?_ ?z; (case k1 => k_asm); (case k2 => k_asm); (case k3 => k_upd); (case z => assumption); intro h' F' N'; (try k_sweep))) | ((with_reducible show wpAny _ _ (PySem.call (Value.builtin "re.Pattern.sub") _ _) _ _ _); k_dflt (refine' sub_S ?k1 ?k2 ?k3 ?k4 ?k5 ?k6 ?k7 ?k8 ?_; (case k3 => assumption); (case k6 => assumption); (case k1 => k_asm); (case k2 => k_asm); (case k4 => walk_at "my:get"); (case k5 => rfl); (case k7 => assumption); (case k8 => omega); intro t' h' tk' F' N'; (try k_sweep))) | ((with_reducible show wpAny _ _ (PySem.call (Value.builtin "re.Pattern.fullmatch") _ _) _ _ _); k_dflt (refine' fullmatch_S ?k1 ?k3 ?k4 ?k5 ?k6 ?_; (case k3 => assumption); (case k4 => assumption); (case k1 => k_asm); (case k5 => assumption); (case k6 => omega)))) | ((with_reducible show wpAny _ _ (getMethod _ _ _) _ _ _); first | ((with_reducible show wpAny _ _ (getMethod (Value.ref _) _ _) _ _ _); ((with_reducible show wpAny _ _ (getMethod (Value.ref _) (Str.ofString "sub") _) _ _ _); k_dflt (refine' gm_sub ?k1 ?_; (case k1 => walk_at "my:pat")))) | ((with_reducible show wpAny _ _ (getMethod (Value.ref _) _ _) _ _ _); ((with_reducible show wpAny _ _ (getMethod (Value.ref _) (Str.ofString "fullmatch") _) _ _ _); k_dflt (refine' gm_fullmatch ?k1 ?_; (case k1 => walk_at "my:pat"))))) | walk1)
  refine loop_valsA (vs := vs) (fun c : List (Str × Tok) × Nat × Obj => [(hd, W.listOf (strValues c.1).toArray c.2.1), (89, c.2.2)]) (fun _ => [(Str.ofString "headers", Value.ref hd)])
    (fun i c => c.1.map (·.1) = (LL.take i).map (fun ps => S (jnp ps)) ∧ (nL (LL.drop i) = 1 → c.2.2 = tabObj #[]) ∧ ∃ ps, c.2.2 = tabObj ps) ([], 0, tabObj #[]) rfl (hl.at fun o e => F.keep _ o e) (by obtain ⟨ol, hol, _⟩ := hl; exact ⟨ol, fun _ _ _ F' _ => F'.keep _ _ hol⟩) F N ⟨rfl, trivial⟩ ⟨rfl, fun _ => rfl, ⟨_, rfl⟩⟩ ?turn ?done
  case done =>
    rintro ⟨hs, cnt, tb⟩ m h tk1 ⟨hi, _, ps, hps⟩ F' N'
    dsimp only at F' N' hi hps
    clear F N
    (repeat' (first | ((with_reducible show wpAny _ _ (joinParts _ _) _ _ _); k_dflt (first | refine joinParts_nil ?_ (by assumption) | refine joinParts_nilE (joinParts_nil ?_ (by assumption)))) | ((with_reducible show wpAny _ _ (binaryOp Operator.Mod (Value.str _ _) (Value.str _ _)) _ _ _); (refine mod_q (by assumption) (fun t' k' => ?_))) | ((with_reducible show wpAny _ _ (truthy (Value.ref _)) _ _ _); k_dflt (refine' truthy_L ?k1 ?k2 ?k3 ?k4 ?_; (case k1 => k_asm); (case k2 => k_mem); (case k3 => assumption); (case k4 => assumption))) | ((with_reducible show wpAny _ _ (PySem.call _ _ _) _ _ _); first | ((with_reducible show wpAny _ _ (PySem.call (Value.builtin "list.append") _ _) _ _ _); k_dflt (refine' append_K ?k1 ?k2 ?k3 ?_ ?z; (case k1 => k_asm); (case k2 => k_asm); (case k3 => k_upd); (case z => assumption); intro h' F' N'; (try k_sweep))) | ((with_reducible show wpAny _ _ (PySem.call (Value.builtin "re.Pattern.sub") _ _) _ _ _); k_dflt (refine' sub_S ?k1 ?k2 ?k3 ?k4 ?k5 ?k6 ?k7 ?k8 ?_; (case k3 => assumption); (case k6 => assumption); (case k1 => k_asm); (case k2 => k_asm); (case k4 => walk_at "my:get"); (case k5 => rfl); (case k7 => assumption); (case k8 => omega); intro t' h' tk' F' N'; (try k_sweep))) | ((with_reducible show wpAny _ _ (PySem.call (Value.builtin "re.Pattern.fullmatch") _ _) _ _ _); k_dflt (refine' fullmatch_S ?k1 ?k3 ?k4 ?k5 ?k6 ?_; (case k3 => assumption); (case k4 => assumption); (case k1 => k_asm); (case k5 => assumption); (case k6 => omega)))) | ((with_reducible show wpAny _ _ (getMethod _ _ _) _ _ _); first | ((with_reducible show wpAny _ _ (getMethod (Value.ref _) _ _) _ _ _); ((with_reducible show wpAny _ _ (getMethod (Value.ref _) (Str.ofString "sub") _) _ _ _); k_dflt (refine' gm_sub ?k1 ?_; (case k1 => walk_at "my:pat")))) | ((with_reducible show wpAny _ _ (getMethod (Value.ref _) _ _) _ _ _); ((with_reducible show wpAny _ _ (getMethod (Value.ref _) (Str.ofString "fullmatch") _) _ _ _); k_dflt (refine' gm_fullmatch ?k1 ?_; (case k1 => walk_at "my:pat"))))) | (k_unfold; (try dsimp only)) | (k_end; wrow_close) | walk1 | (dsimp only; walk1) | (leave1; (try dsimp only))))
    have hlv : vs.length = LL.length := by simpa using hvl
    rw [hlv, List.take_length] at hi
    refine SC.join (l := hs) ⟨_, N'.get (.head _), rfl, _, rfl⟩ hi (joinOk_small (by decide) (by simpa using hz1) (by
      intro x hx
      obtain ⟨ps, hps, rfl⟩ := List.mem_map.mp hx
      rw [S_length]; exact (hz2 ps hps).2.1)) fun t' k => ?_
    have e : (LL.map fun ps => S (jnp ps)) = (LL.map jnp).map S := by rw [List.map_map]; rfl
    have e2 : (Str.ofString ", ") = S [44, 32] := by decide
    rw [e, e2, join_S]
    exact hret _ _ _ (fun b o ne e => F'.keep b o (kg b o ne e)) ⟨ps, by rw [← hps]; exact (N' _ (.tail _ (.head _))).1⟩
  case turn =>
    rintro I i v m₁ h tk1 oi ⟨hs, cnt, tb⟩ hvi hoff ⟨hi, htb, htb2⟩ F' N'
    dsimp only at F' N' hi htb htb2
    obtain ⟨o1, o2, _⟩ := hoff
    obtain ⟨d, ds, hd', hrv⟩ := hit i v hvi
    rw [List.length_map] at hvl
    have hilt : i < LL.length := by rw [← hvl]; exact (List.getElem?_eq_some_iff.mp hvi).1
    obtain rfl : prsD LL[i] = d := by simpa [List.getElem?_map, List.getElem?_eq_getElem hilt] using hd'
    obtain ⟨pa, pvs, es, rfl, hpl, hpr⟩ := reads_list hrv
    obtain ⟨hpvl, hpit⟩ := readsAll_at hpr
    clear F N hd'
    refine gen_nestJ ?_
    intro R hR
    repeat ((fail_if_success (with_reducible show wpAny _ _ (exec (Stmt.For _ _ _ _ _) _) _ _ _)); (first | ((with_reducible show wpAny _ _ (joinParts _ _) _ _ _); k_dflt (first | refine joinParts_nil ?_ (by assumption) | refine joinParts_nilE (joinParts_nil ?_ (by assumption)))) | ((with_reducible show wpAny _ _ (binaryOp Operator.Mod (Value.str _ _) (Value.str _ _)) _ _ _); (refine mod_q (by assumption) (fun t' k' => ?_))) | ((with_reducible show wpAny _ _ (truthy (Value.ref _)) _ _ _); k_dflt (refine' truthy_L ?k1 ?k2 ?k3 ?k4 ?_; (case k1 => k_asm); (case k2 => k_mem); (case k3 => assumption); (case k4 => assumption))) | ((with_reducible show wpAny _ _ (PySem.call _ _ _) _ _ _); first | ((with_reducible show wpAny _ _ (PySem.call (Value.builtin "list.append") _ _) _ _ _); k_dflt (refine' append_K ?k1 ?k2 ?k3 ?_ ?z; (case k1 => k_asm); (case k2 => k_asm); (case k3 => k_upd); (case z => assumption); intro h' F' N'; (try k_sweep))) | ((with_reducible show wpAny _ _ (PySem.call (Value.builtin "re.Pattern.sub") _ _) _ _ _); k_dflt (refine' sub_S ?k1 ?k2 ?k3 ?k4 ?k5 ?k6 ?k7 ?k8 ?_; (case k3 => assumption); (case k6 => assumption); (case k1 => k_asm); (case k2 => k_asm); (case k4 => walk_at "my:get"); (case k5 => rfl); (case k7 => assumption); (case k8 => omega); intro t' h' tk' F' N'; (try k_sweep))) | ((with_reducible show wpAny _ _ (PySem.call (Value.builtin "re.Pattern.fullmatch") _ _) _ _ _); k_dflt (refine' fullmatch_S ?k1 ?k3 ?k4 ?k5 ?k6 ?_; (case k3 => assumption); (case k4 => assumption); (case k1 => k_asm); (case k5 => assumption); (case k6 => omega)))) | ((with_reducible show wpAny _ _ (getMethod _ _ _) _ _ _); first | ((with_reducible show wpAny _ _ (getMethod (Value.ref _) _ _) _ _ _); ((with_reducible show wpAny _ _ (getMethod (Value.ref _) (Str.ofString "sub") _) _ _ _); k_dflt (refine' gm_sub ?k1 ?_; (case k1 => walk_at "my:pat")))) | ((with_reducible show wpAny _ _ (getMethod (Value.ref _) _ _) _ _ _); ((with_reducible show wpAny _ _ (getMethod (Value.ref _) (Str.ofString "fullmatch") _) _ _ _); k_dflt (refine' gm_fullmatch ?k1 ?_; (case k1 => walk_at "my:pat"))))) | walk1))
    rename_i ad _ lad _ F N
    obtain ⟨hps1, hps2, hps3⟩ := hz2 _ (List.getElem_mem hilt)
    have hv' := hv _ (List.getElem_mem hilt)
    have hne' := hne _ (List.getElem_mem hilt)
    have hcnt : nS LL[i] + nL (LL.drop (i + 1)) ≤ nL (LL.drop i) := by rw [List.drop_eq_getElem_cons hilt]; exact Nat.le_refl _
    have hcn1 : nL (LL.drop i) ≤ 1 := Nat.le_trans (nL_drop i LL) hn
    have htk1 : (LL.take (i + 1)).map (fun ps => S (jnp ps)) = (LL.take i).map (fun ps => S (jnp ps)) ++ [S (jnp LL[i])] := by rw [List.take_succ_eq_append_getElem hilt, List.map_append]; rfl
    generalize LL[i] = ps at *
    refine For_start ?_
    (first | ((with_reducible show wpAny _ _ (joinParts _ _) _ _ _); k_dflt (first | refine joinParts_nil ?_ (by assumption) | refine joinParts_nilE (joinParts_nil ?_ (by assumption)))) | ((with_reducible show wpAny _ _ (binaryOp Operator.Mod (Value.str _ _) (Value.str _ _)) _ _ _); (refine mod_q (by assumption) (fun t' k' => ?_))) | ((with_reducible show wpAny _ _ (truthy (Value.ref _)) _ _ _); k_dflt (refine' truthy_L ?k1 ?k2 ?k3 ?k4 ?_; (case k1 => k_asm); (case k2 => k_mem); (case k3 => assumption); (case k4 => assumption))) | ((with_reducible show wpAny _ _ (PySem.call _ _ _) _ _ _); first | ((with_reducible show wpAny _ _ (PySem.call (Value.builtin "list.append") _ _) _ _ _); k_dflt (refine' append_K ?k1 ?k2 ?k3 ?_ ?z; (case k1 => k_asm); (case k2 => k_asm); (case k3 => k_upd); (case z => assumption); intro h' F' N'; (try k_sweep))) | ((with_reducible show wpAny _ _ (PySem.call (Value.builtin "re.Pattern.sub") _ _) _ _ _); k_dflt (refine' sub_S ?k1 ?k2 ?k3 ?k4 ?k5 ?k6 ?k7 ?k8 ?_; (case k3 => assumption); (case k6 => assumption); (case k1 => k_asm); (case k2 => k_asm); (case k4 => walk_at "my:get"); (case k5 => rfl); (case k7 => assumption); (case k8 => omega); intro t' h' tk' F' N'; (try k_sweep))) | ((with_reducible show wpAny _ _ (PySem.call (Value.builtin "re.Pattern.fullmatch") _ _) _ _ _); k_dflt (refine' fullmatch_S ?k1 ?k3 ?k4 ?k5 ?k6 ?_; (case k3 => assumption); (case k4 => assumption); (case k1 => k_asm); (case k5 => assumption); (case k6 => omega)))) | ((with_reducible show wpAny _ _ (getMethod _ _ _) _ _ _); first | ((with_reducible show wpAny _ _ (getMethod (Value.ref _) _ _) _ _ _); ((with_reducible show wpAny _ _ (getMethod (Value.ref _) (Str.ofString "sub") _) _ _ _); k_dflt (refine' gm_sub ?k1 ?_; (case k1 => walk_at "my:pat")))) | ((with_reducible show wpAny _ _ (getMethod (Value.ref _) _ _) _ _ _); ((with_reducible show wpAny _ _ (getMethod (Value.ref _) (Str.ofString "fullmatch") _) _ _ _); k_dflt (refine' gm_fullmatch ?k1 ?_; (case k1 => walk_at "my:pat"))))) | walk1)
    refine loop_valsA (vs := pvs) (fun c : List (Str × Tok) × Nat × Obj => [(ad, W.listOf (strValues c.1).toArray c.2.1), (I, oi), (hd, W.listOf (strValues hs).toArray cnt), (89, c.2.2)]) (fun _ => [(Str.ofString "attr", Value.ref ad), (Str.ofString "headers", Value.ref hd)])
      (fun j c => c.1.map (·.1) = (ps.take j).map (fun w => S (pairS w)) ∧ (nS (ps.drop j) + nL (LL.drop (i + 1)) = 1 → c.2.2 = tabObj #[]) ∧ ∃ ps, c.2.2 = tabObj ps) ([], 0, tb) rfl (hpl.at fun o e => F.keep _ o e) (by obtain ⟨ol, hol, _⟩ := hpl; exact ⟨ol, fun _ _ _ F' _ => F'.keep _ _ hol⟩) F N ⟨rfl, rfl, trivial⟩ ⟨rfl, fun e => htb (by rw [List.drop_zero] at e; omega), htb2⟩ ?iturn ?idone
    case idone =>
      rintro ⟨hs2, cnt2, tb2⟩ m2 h2 tk2 ⟨hi2, hb2, ps2, hps2'⟩ F2 N2
      dsimp only at F2 N2 hi2 hb2 hps2'
      clear F N
      rw [List.length_map] at hpvl
      rw [hpvl, List.take_length] at hi2
      have hl2 : hs2.length = ps.length := by have := congrArg List.length hi2; simpa using this
      have hsz : (6000 : Nat) ≤ sizeLine := by decide
      have hve : (strValues hs2).isEmpty = false := by
        cases hs2 with
        | nil => exact absurd (List.length_eq_zero_iff.mp hl2.symm) hne'
        | cons _ _ => rfl
      have hv5 : (strValues hs2).length < 5000 := by simp [strValues]; omega
      have hih : hs.length = i := by have := congrArg List.length hi; simp at this; omega
      have hz4 : (strValues hs).toArray.size ≤ sizeLine := by simp [strValues]; omega
      repeat ((fail_if_success (with_reducible show wpAny _ _ (PySem.call (Value.builtin "str.join") _ _) _ _ _)); (first | ((with_reducible show wpAny _ _ (joinParts _ _) _ _ _); k_dflt (first | refine joinParts_nil ?_ (by assumption) | refine joinParts_nilE (joinParts_nil ?_ (by assumption)))) | ((with_reducible show wpAny _ _ (binaryOp Operator.Mod (Value.str _ _) (Value.str _ _)) _ _ _); (refine mod_q (by assumption) (fun t' k' => ?_))) | ((with_reducible show wpAny _ _ (truthy (Value.ref _)) _ _ _); k_dflt (refine' truthy_L ?k1 ?k2 ?k3 ?k4 ?_; (case k1 => k_asm); (case k2 => k_mem); (case k3 => assumption); (case k4 => assumption))) | ((with_reducible show wpAny _ _ (PySem.call _ _ _) _ _ _); first | ((with_reducible show wpAny _ _ (PySem.call (Value.builtin "list.append") _ _) _ _ _); k_dflt (refine' append_K ?k1 ?k2 ?k3 ?_ ?z; (case k1 => k_asm); (case k2 => k_asm); (case k3 => k_upd); (case z => assumption); intro h' F' N'; (try k_sweep))) | ((with_reducible show wpAny _ _ (PySem.call (Value.builtin "re.Pattern.sub") _ _) _ _ _); k_dflt (refine' sub_S ?k1 ?k2 ?k3 ?k4 ?k5 ?k6 ?k7 ?k8 ?_; (case k3 => assumption); (case k6 => assumption); (case k1 => k_asm); (case k2 => k_asm); (case k4 => walk_at "my:get"); (case k5 => rfl); (case k7 => assumption); (case k8 => omega); intro t' h' tk' F' N'; (try k_sweep))) | ((with_reducible show wpAny _ _ (PySem.call (Value.builtin "re.Pattern.fullmatch") _ _) _ _ _); k_dflt (refine' fullmatch_S ?k1 ?k3 ?k4 ?k5 ?k6 ?_; (case k3 => assumption); (case k4 => assumption); (case k1 => k_asm); (case k5 => assumption); (case k6 => omega)))) | ((with_reducible show wpAny _ _ (getMethod _ _ _) _ _ _); first | ((with_reducible show wpAny _ _ (getMethod (Value.ref _) _ _) _ _ _); ((with_reducible show wpAny _ _ (getMethod (Value.ref _) (Str.ofString "sub") _) _ _ _); k_dflt (refine' gm_sub ?k1 ?_; (case k1 => walk_at "my:pat")))) | ((with_reducible show wpAny _ _ (getMethod (Value.ref _) _ _) _ _ _); ((with_reducible show wpAny _ _ (getMethod (Value.ref _) (Str.ofString "fullmatch") _) _ _ _); k_dflt (refine' gm_fullmatch ?k1 ?_; (case k1 => walk_at "my:pat"))))) | walk1))
      rename Fr _ _ _ _ => F; rename News _ _ _ _ => N
      have ejp : Txt.join (Str.ofString "; ") (ps.map fun w => S (pairS w)) = S (jnp ps) := by
        have e : (ps.map fun w => S (pairS w)) = (ps.map pairS).map S := by rw [List.map_map]; rfl
        have e2 : (Str.ofString "; ") = S [59, 32] := by decide
        rw [e, e2, join_S]
        rfl
      refine SC.join (l := hs2) ⟨_, N.get (by k_mem), rfl, _, rfl⟩ hi2 (joinOk_small (by decide) (by simpa using hps1) (by
        intro x hx
        obtain ⟨w, hw, rfl⟩ := List.mem_map.mp hx
        rw [S_length]; exact hps3 w hw)) fun t' k => ?_
      rw [ejp]
      (repeat' (first | ((with_reducible show wpAny _ _ (joinParts _ _) _ _ _); k_dflt (first | refine joinParts_nil ?_ (by assumption) | refine joinParts_nilE (joinParts_nil ?_ (by assumption)))) | ((with_reducible show wpAny _ _ (binaryOp Operator.Mod (Value.str _ _) (Value.str _ _)) _ _ _); (refine mod_q (by assumption) (fun t' k' => ?_))) | ((with_reducible show wpAny _ _ (truthy (Value.ref _)) _ _ _); k_dflt (refine' truthy_L ?k1 ?k2 ?k3 ?k4 ?_; (case k1 => k_asm); (case k2 => k_mem); (case k3 => assumption); (case k4 => assumption))) | ((with_reducible show wpAny _ _ (PySem.call _ _ _) _ _ _); first | ((with_reducible show wpAny _ _ (PySem.call (Value.builtin "list.append") _ _) _ _ _); k_dflt (refine' append_K ?k1 ?k2 ?k3 ?_ ?z; (case k1 => k_asm); (case k2 => k_asm); (case k3 => k_upd); (case z => assumption); intro h' F' N'; (try k_sweep))) | ((with_reducible show wpAny _ _ (PySem.call (Value.builtin "re.Pattern.sub") _ _) _ _ _); k_dflt (refine' sub_S ?k1 ?k2 ?k3 ?k4 ?k5 ?k6 ?k7 ?k8 ?_; (case k3 => assumption); (case k6 => assumption); (case k1 => k_asm); (case k2 => k_asm); (case k4 => walk_at "my:get"); (case k5 => rfl); (case k7 => assumption); (case k8 => omega); intro t' h' tk' F' N'; (try k_sweep))) | ((with_reducible show wpAny _ _ (PySem.call (Value.builtin "re.Pattern.fullmatch") _ _) _ _ _); k_dflt (refine' fullmatch_S ?k1 ?k3 ?k4 ?k5 ?k6 ?_; (case k3 => assumption); (case k4 => assumption); (case k1 => k_asm); (case k5 => assumption); (case k6 => omega)))) | ((with_reducible show wpAny _ _ (getMethod _ _ _) _ _ _); first | ((with_reducible show wpAny _ _ (getMethod (Value.ref _) _ _) _ _ _); ((with_reducible show wpAny _ _ (getMethod (Value.ref _) (Str.ofString "sub") _) _ _ _); k_dflt (refine' gm_sub ?k1 ?_; (case k1 => walk_at "my:pat")))) | ((with_reducible show wpAny _ _ (getMethod (Value.ref _) _ _) _ _ _); ((with_reducible show wpAny _ _ (getMethod (Value.ref _) (Str.ofString "fullmatch") _) _ _ _); k_dflt (refine' gm_fullmatch ?k1 ?_; (case k1 => walk_at "my:pat"))))) | (k_unfold; (try dsimp only)) | (k_end; wrow_close) | walk1 | (dsimp only; walk1) | (leave1; (try dsimp only))))
      rename Fr _ _ _ _ => F; rename News _ _ _ _ => N
      simp only [List.push_toArray] at N
      refine hR _ _ ?_
      refine ⟨(hs ++ [(S (jnp ps), t')], cnt + 1, tb2), _, _, _, rfl, F, by dsimp only; rw [strValues_snoc]; exact fun p hp => N p ((List.forall_mem_cons.mpr ⟨by k_mem, (List.forall_mem_cons.mpr ⟨by k_mem, (List.forall_mem_cons.mpr ⟨by k_mem, (fun p hp => by repeat (first | exact hp | refine List.Mem.tail _ ?_))⟩)⟩)⟩) p hp), ⟨o1, o2, trivial⟩, ⟨rfl, trivial⟩, ?_, fun e => hb2 (by rw [hpvl, List.drop_length]; simpa [nS] using e), ⟨ps2, hps2'⟩⟩
      rw [List.map_append, hi, htk1]; rfl
    case iturn =>
      rintro I2 j v2 m2 h2 tk2 oi2 ⟨hs2, cnt2, tb2⟩ hvj hoff2 ⟨hi2, hb2, htb3⟩ F2 N2
      dsimp only at F2 N2 hi2 hb2 htb3
      obtain ⟨p1, p2, p3, p4, _⟩ := hoff2
      rw [List.length_map] at hpvl
      have hjlt : j < ps.length := by rw [← hpvl]; exact (List.getElem?_eq_some_iff.mp hvj).1
      obtain ⟨d2, es2, hd2, hr2⟩ := hpit j v2 hvj
      obtain rfl : prD ps[j] = d2 := by simpa [List.getElem?_map, List.getElem?_eq_getElem hjlt] using hd2
      obtain ⟨t2, v3, tt, es3, rfl, ht2, hr3⟩ := reads_pair hr2
      clear F N hd2
      have hw := hv' _ (List.getElem_mem hjlt)
      have hwz := hps3 _ (List.getElem_mem hjlt)
      have hdr : nS (ps.drop j) = (if ps[j].2.isSome then 1 else 0) + nS (ps.drop (j + 1)) := by rw [List.drop_eq_getElem_cons hjlt]; exact nS_cons
      have htk : (ps.take (j + 1)).map (fun w => S (pairS w)) = (ps.take j).map (fun w => S (pairS w)) ++ [S (pairS ps[j])] := by rw [List.take_succ_eq_append_getElem hjlt, List.map_append]; rfl
      generalize ps[j] = w at *
      obtain ⟨k, vo⟩ := w
      have n1 : @Ne Nat ad I2 := p1
      have n2 : @Ne Nat I I2 := p2
      have n3 : @Ne Nat hd I2 := p3
      have n4 : @Ne Nat 89 I2 := p4
      have n5 : @Ne Nat hd I := o1
      have n6 : @Ne Nat 89 I := o2
      have n1' : @Ne Nat I2 ad := Ne.symm n1
      have n2' : @Ne Nat I2 I := Ne.symm n2
      have n3' : @Ne Nat I2 hd := Ne.symm n3
      have n4' : @Ne Nat I2 89 := Ne.symm n4
      have n5' : @Ne Nat I hd := Ne.symm n5
      have n6' : @Ne Nat I 89 := Ne.symm n6
      clear p1 p2 p3 p4
      have hsz : (6000 : Nat) ≤ sizeLine := by decide
      have hl2 : hs2.length ≤ ps.length := by have := congrArg List.length hi2; simp at this; omega
      have hz4 : (strValues hs2).toArray.size ≤ sizeLine := by simp [strValues]; omega
      refine gen_nestJ ?_
      intro R2 hR2
      have P82 := pat82 X1
      have P87 := pat87 X1
      have hkz : (S k).length ≤ sizeLine := by rw [S_length]; unfold pairS at hwz; cases vo <;> simp at hwz <;> omega
      have hw2 : vo = none ∨ ∃ v, vo = some v ∧ (v = [] ∨ v = [61]) ∧ v.length < 1000 ∧ Fails 100 (Sre.forMatch codeJT v.toArray 0 0 v.length true false) ∧ Fails 100 (Sre.forSearch codeJE v.toArray 1 0 v.length false) := by
        rcases hw with e | e | e
        · exact .inl e
        · exact .inr ⟨[], e, .inl rfl, by decide, jt_0, je_0⟩
        · exact .inr ⟨[61], e, .inr rfl, by decide, jt_1, je_1⟩
      rcases hw2 with rfl | ⟨v, rfl, y0, y1, hT, hE⟩
      · cases hr3
        dsimp only at ht2
        (repeat' (first | ((with_reducible show wpAny _ _ (joinParts _ _) _ _ _); k_dflt (first | refine joinParts_nil ?_ (by assumption) | refine joinParts_nilE (joinParts_nil ?_ (by assumption)))) | ((with_reducible show wpAny _ _ (binaryOp Operator.Mod (Value.str _ _) (Value.str _ _)) _ _ _); (refine mod_q (by assumption) (fun t' k' => ?_))) | ((with_reducible show wpAny _ _ (truthy (Value.ref _)) _ _ _); k_dflt (refine' truthy_L ?k1 ?k2 ?k3 ?k4 ?_; (case k1 => k_asm); (case k2 => k_mem); (case k3 => assumption); (case k4 => assumption))) | ((with_reducible show wpAny _ _ (PySem.call _ _ _) _ _ _); first | ((with_reducible show wpAny _ _ (PySem.call (Value.builtin "list.append") _ _) _ _ _); k_dflt (refine' append_K ?k1 ?k2 ?k3 ?_ ?z; (case k1 => k_asm); (case k2 => k_asm); (case k3 => k_upd); (case z => assumption); intro h' F' N'; (try k_sweep))) | ((with_reducible show wpAny _ _ (PySem.call (Value.builtin "re.Pattern.sub") _ _) _ _ _); k_dflt (refine' sub_S ?k1 ?k2 ?k3 ?k4 ?k5 ?k6 ?k7 ?k8 ?_; (case k3 => assumption); (case k6 => assumption); (case k1 => k_asm); (case k2 => k_asm); (case k4 => walk_at "my:get"); (case k5 => rfl); (case k7 => assumption); (case k8 => omega); intro t' h' tk' F' N'; (try k_sweep))) | ((with_reducible show wpAny _ _ (PySem.call (Value.builtin "re.Pattern.fullmatch") _ _) _ _ _); k_dflt (refine' fullmatch_S ?k1 ?k3 ?k4 ?k5 ?k6 ?_; (case k3 => assumption); (case k4 => assumption); (case k1 => k_asm); (case k5 => assumption); (case k6 => omega)))) | ((with_reducible show wpAny _ _ (getMethod _ _ _) _ _ _); first | ((with_reducible show wpAny _ _ (getMethod (Value.ref _) _ _) _ _ _); ((with_reducible show wpAny _ _ (getMethod (Value.ref _) (Str.ofString "sub") _) _ _ _); k_dflt (refine' gm_sub ?k1 ?_; (case k1 => walk_at "my:pat")))) | ((with_reducible show wpAny _ _ (getMethod (Value.ref _) _ _) _ _ _); ((with_reducible show wpAny _ _ (getMethod (Value.ref _) (Str.ofString "fullmatch") _) _ _ _); k_dflt (refine' gm_fullmatch ?k1 ?_; (case k1 => walk_at "my:pat"))))) | (k_unfold; (try dsimp only)) | (k_end; wrow_close) | walk1 | (dsimp only; walk1) | (leave1; (try dsimp only))))
        rename Fr _ _ _ _ => F; rename News _ _ _ _ => N
        simp only [List.push_toArray] at N
        refine hR2 _ _ ?_
        refine ⟨(hs2 ++ [(S k, tt)], cnt2 + 1, tb2), _, _, _, rfl, F, by dsimp only; rw [strValues_snoc]; exact N, ⟨n1, n2, n3, n4, trivial⟩, ⟨rfl, rfl, trivial⟩, ?_, fun e => hb2 (by rw [hdr]; simp; exact e), htb3⟩
        rw [List.map_append, hi2, htk]; rfl
      · cases hr3
        dsimp only at ht2
        have hone : nS (ps.drop j) + nL (LL.drop (i + 1)) = 1 := by
          have h1 := nS_drop j ps
          rw [hdr] at h1 ⊢
          simp at h1 ⊢
          omega
        obtain rfl := hb2 hone
        have z1 : (Str.empty ++ S k).length ≤ sizeLine := by rw [Str.length_append]; exact (by simpa [Str.empty, Str.length] using hkz)
        have hwz' : k.length + v.length + 3 < 1000 := by simp [pairS] at hwz; omega
        have eq0 : Str.ofString "=" = S [61] := by decide
        have z2 : (Str.empty ++ S k ++ Str.ofString "=").length ≤ sizeLine := by
          rw [show Str.empty = S [] from rfl, eq0, S_append, S_append, S_length]
          simp
          omega
        have z3 : (Str.empty ++ S k ++ Str.ofString "=" ++ S ([34] ++ v ++ [34])).length ≤ sizeLine := by
          rw [show Str.empty = S [] from rfl, eq0, S_append, S_append, S_append, S_length]
          simp
          omega
        have z4 : (S ([34] ++ v ++ [34])).length ≤ sizeLine := by
          rw [S_length]
          simp
          omega
        have ev : Str.empty ++ S k ++ Str.ofString "=" ++ S ([34] ++ v ++ [34]) = S (pairS (k, some v)) := by
          have e1 : Str.empty = S [] := rfl
          have e2 : Str.ofString "=" = S [61] := by decide
          rw [e1, e2, S_append, S_append, S_append]
          rfl
        (repeat' (first | ((with_reducible show wpAny _ _ (joinParts _ _) _ _ _); k_dflt (first | refine joinParts_nil ?_ (by assumption) | refine joinParts_nilE (joinParts_nil ?_ (by assumption)))) | ((with_reducible show wpAny _ _ (binaryOp Operator.Mod (Value.str _ _) (Value.str _ _)) _ _ _); (refine mod_q (by assumption) (fun t' k' => ?_))) | ((with_reducible show wpAny _ _ (truthy (Value.ref _)) _ _ _); k_dflt (refine' truthy_L ?k1 ?k2 ?k3 ?k4 ?_; (case k1 => k_asm); (case k2 => k_mem); (case k3 => assumption); (case k4 => assumption))) | ((with_reducible show wpAny _ _ (PySem.call _ _ _) _ _ _); first | ((with_reducible show wpAny _ _ (PySem.call (Value.builtin "list.append") _ _) _ _ _); k_dflt (refine' append_K ?k1 ?k2 ?k3 ?_ ?z; (case k1 => k_asm); (case k2 => k_asm); (case k3 => k_upd); (case z => assumption); intro h' F' N'; (try k_sweep))) | ((with_reducible show wpAny _ _ (PySem.call (Value.builtin "re.Pattern.sub") _ _) _ _ _); k_dflt (refine' sub_S ?k1 ?k2 ?k3 ?k4 ?k5 ?k6 ?k7 ?k8 ?_; (case k3 => assumption); (case k6 => assumption); (case k1 => k_asm); (case k2 => k_asm); (case k4 => walk_at "my:get"); (case k5 => rfl); (case k7 => assumption); (case k8 => omega); intro t' h' tk' F' N'; (try k_sweep))) | ((with_reducible show wpAny _ _ (PySem.call (Value.builtin "re.Pattern.fullmatch") _ _) _ _ _); k_dflt (refine' fullmatch_S ?k1 ?k3 ?k4 ?k5 ?k6 ?_; (case k3 => assumption); (case k4 => assumption); (case k1 => k_asm); (case k5 => assumption); (case k6 => omega)))) | ((with_reducible show wpAny _ _ (getMethod _ _ _) _ _ _); first | ((with_reducible show wpAny _ _ (getMethod (Value.ref _) _ _) _ _ _); ((with_reducible show wpAny _ _ (getMethod (Value.ref _) (Str.ofString "sub") _) _ _ _); k_dflt (refine' gm_sub ?k1 ?_; (case k1 => walk_at "my:pat")))) | ((with_reducible show wpAny _ _ (getMethod (Value.ref _) _ _) _ _ _); ((with_reducible show wpAny _ _ (getMethod (Value.ref _) (Str.ofString "fullmatch") _) _ _ _); k_dflt (refine' gm_fullmatch ?k1 ?_; (case k1 => walk_at "my:pat"))))) | (k_unfold; (try dsimp only)) | (k_end; wrow_close) | walk1 | (dsimp only; walk1) | (leave1; (try dsimp only))))
        rename Fr _ _ _ _ => F; rename News _ _ _ _ => N
        simp only [List.push_toArray] at N
        have N2 := (show Str.empty ++ S k ++ Str.ofString "=" ++ S (34 :: (v ++ [34])) = S (pairS (k, some v)) from ev) ▸ N
        refine hR2 _ _ ?_
        refine ⟨(hs2 ++ [(S (pairS (k, some v)), _)], cnt2 + 1, _), _, _, _, rfl, F, by dsimp only; rw [strValues_snoc]; exact fun p hp => N2 p ((List.forall_mem_cons.mpr ⟨by k_mem, (List.forall_mem_cons.mpr ⟨by k_mem, (List.forall_mem_cons.mpr ⟨by k_mem, (List.forall_mem_cons.mpr ⟨by k_mem, (List.forall_mem_cons.mpr ⟨by k_mem, (fun p hp => by repeat (first | exact hp | refine List.Mem.tail _ ?_))⟩)⟩)⟩)⟩)⟩) p hp), ⟨n1, n2, n3, n4, trivial⟩, ⟨rfl, rfl, trivial⟩, ?_, fun e => by rw [hdr] at hone; simp at hone; omega, ⟨_, rfl⟩⟩
        rw [List.map_append, hi2, htk]; rfl
end Mine
end
section
open PySem PySem.W PyProof.Rows PySem.Calls
set_option Elab.async false
set_option maxRecDepth 100000
set_option maxHeartbeats 8000000
namespace Mine
/-- the items whose data are lists that hold something -/
noncomputable def filt : List Value → List (List PyData) → List Value
  | v :: vs, e :: es => if e.isEmpty then filt vs es else v :: filt vs es
  | _, _ => []
theorem filt_snoc {v : Value} {e : List PyData} : ∀ {vs : List Value} {es : List (List PyData)}, vs.length = es.length → filt (vs ++ [v]) (es ++ [e]) = filt vs es ++ (if e.isEmpty then [] else [v])
  | [], [], _ => by cases e <;> rfl
  | [], _ :: _, h => by simp at h
  | _ :: _, [], h => by simp at h
  | a :: vs, b :: es, h => by
    have ih := filt_snoc (v := v) (e := e) (vs := vs) (es := es) (by simpa using h)
    show (if b.isEmpty then filt (vs ++ [v]) (es ++ [e]) else a :: filt (vs ++ [v]) (es ++ [e])) = (if b.isEmpty then filt vs es else a :: filt vs es) ++ _
    rw [ih]
    by_cases q : b.isEmpty = true
    · rw [if_pos q, if_pos q]
    · rw [if_neg q, if_neg q]; rfl
theorem SupA.filt {r : List (Addr × Obj)} {vs : List Value} {es : List (List PyData)} (s : SupA r vs (es.map PyData.list)) : SupA r (Mine.filt vs es) ((es.filter fun e => !e.isEmpty).map PyData.list) := fun h q => by
  obtain ⟨as, a⟩ := s h q
  have key : ∀ (vs : List Value) (es : List (List PyData)) (as : List Addr), ReadsAll h vs (es.map PyData.list) as → ∃ bs, ReadsAll h (Mine.filt vs es) ((es.filter fun e => !e.isEmpty).map PyData.list) bs := by
    intro vs
    induction vs with
    | nil => intro es as a; cases es with
      | nil => exact ⟨_, .nil⟩
      | cons e es => cases a
    | cons v vs ih =>
      intro es as a
      cases es with
      | nil => cases a
      | cons e es =>
        cases a with
        | cons p r =>
          obtain ⟨bs, b⟩ := ih es _ r
          cases e with
          | nil => exact ⟨bs, b⟩
          | cons e0 e => exact ⟨_, .cons p b⟩
  exact key vs es as a
theorem SupA.get {r : List (Addr × Obj)} {vs : List Value} {ds : List PyData} {h : Heap} (s : SupA r vs ds) (q : ∀ p ∈ r, h.get? p.1 = some p.2) {i : Nat} {v : Value} (e : vs[i]? = some v) : ∃ d bs, ds[i]? = some d ∧ Reads h v d bs := by
  obtain ⟨as, a⟩ := s h q
  exact (readsAll_at a).2 i v e
section
variable {prog : Program} {w : World} {A : Around} {h₀ : Heap} {L ax : Addr} {m : Str → Option Value} {env : Env} {x : Str} {p1 p2 p3 p4 : Pos} {scope : Scope} {cl : List (Str × Addr)} {s : Shared} {K : Frag} {its : List Value} {ess : List (List PyData)} {news : List (Addr × Obj)} {Fin : List Value → List (Addr × Obj) → Prop}
open LCt LCg in
theorem filter_rest (X : K.In h₀) (hu : A.units + 64 < cLine) (hkd : scope.kind = .function) (hloc : (relabel scope env).names.lookup x = some .local) (hdb : (x == ("__debug__" : Str)) = false)
    (hS : SupA news its (ess.map PyData.list)) (hle : its.length = ess.length) (hsh : ∀ es ∈ ess, SeqAt.shaped (.list es) = true) (hsrc : SrcAt h₀ ax its.toArray news) (fin : Fin (filt its ess) news) :
    CompRestT prog w A h₀ L m env (.Compare (.Name x p1) [.NotEq] [.List [] p2] p3) (.Name x p4) x scope cl s (SrcAt h₀ ax its.toArray) (fun i v => its.toArray[i]? = some v) Fin its.toArray.size 0 [] news := by
  have key : ∀ (j i : Nat) (ys : List Value), i + j = its.length → ys = filt (its.take i) (ess.take i) → CompRestT prog w A h₀ L m env (.Compare (.Name x p1) [.NotEq] [.List [] p2] p3) (.Name x p4) x scope cl s (SrcAt h₀ ax its.toArray) (fun i v => its.toArray[i]? = some v) Fin j i ys news := by
    intro j
    induction j with
    | zero =>
      intro i ys hi hy
      have e : i = its.length := by omega
      subst e
      rw [List.take_length, hle, List.take_length] at hy
      exact CompRestT.zero (hy ▸ fin)
    | succ j ih =>
      intro i ys hi hy
      refine CompRestT.succ ?_
      intro v I oI C oC D m₂ h tk E' hv hC hx F N off ne
      have hk : (compEnvC scope cl C env).scope.kind = .function := hkd
      have hl : (compEnvC scope cl C env).kindOf x = some .local := hloc
      have hv' : its[i]? = some v := by simpa using hv
      obtain ⟨d, bs, hd, hr⟩ := hS.get (h := h) (fun p hp => (N p (.tail _ (.tail _ (.tail _ hp)))).1) hv'
      obtain ⟨es, hes, rfl⟩ : ∃ es, ess[i]? = some es ∧ PyData.list es = d := by simpa [List.getElem?_map] using hd
      have hsh' := hsh es (List.mem_of_getElem? hes)
      clear hv
      obtain ⟨va, vvs, cs, rfl, hvl, hvr⟩ := reads_list hr
      have htk : filt (its.take (i + 1)) (ess.take (i + 1)) = filt (its.take i) (ess.take i) ++ (if es.isEmpty then [] else [.ref va]) := by
        rw [List.take_add_one, List.take_add_one, hv', hes]
        exact filt_snoc (by simp [hle])
      (repeat' (first | ((with_reducible show wpAny _ _ (eval (Expr.Name _ _) _) _ _ _); ((with_reducible show wpAny _ _ (eval (Expr.Name _ _) (compEnvC _ _ _ _)) _ _ _); k_dflt (refine LCgL.ld_own (by k_asm) (by k_mem) (by assumption) (by assumption) ?_ (by assumption) (by assumption) (by assumption)))) | (k_unfold; (try dsimp only)) | (k_end; wrow_close) | walk1 | (dsimp only; walk1) | (leave1; (try dsimp only))))
      rename Fr _ _ _ _ => F; rename News _ _ _ _ => N
      rename_i nl _ l1
      obtain ⟨d2, bs2, hd2, hr2⟩ := hS.get (fun p hp => (N p (.tail _ (.tail _ (.tail _ (.tail _ hp))))).1) hv'
      obtain rfl : PyData.list es = d2 := by rw [hd] at hd2; exact Option.some.inj hd2
      refine ne_dataH hr2 (reads_list_at (N _ (.head _)).1 rfl rfl ReadsAll.nil) hsh' rfl hu ?_
      have fin' : ∀ ys', ys' = filt (its.take (i + 1)) (ess.take (i + 1)) → CompRestT prog w A h₀ L m env (.Compare (.Name x p1) [.NotEq] [.List [] p2] p3) (.Name x p4) x scope cl s (SrcAt h₀ ax its.toArray) (fun i v => its.toArray[i]? = some v) Fin j (i + 1) ys' news := fun ys' e => ih (i + 1) ys' (by omega) e
      have hsub : ∀ p ∈ (I, oI) :: (C, oC) :: (D, lst ys) :: news, p ∈ (nl, W.listOf #[] 0) :: (I, oI) :: (C, oC) :: (D, lst ys) :: news := fun p hp => .tail _ hp
      cases es with
      | nil =>
        have ev : (!PyData.eqv (.list []) (.list [])) = false := rfl
        rw [ev]
        refine wpAny_truthy_bool ?_
        rw [if_neg Bool.false_ne_true]
        exact CompEnd.intro F N news hsub off hsrc (fin' _ (by rw [htk, hy]; simp))
      | cons e0 es =>
        have ev : (!PyData.eqv (.list (e0 :: es)) (.list [])) = true := rfl
        rw [ev]
        (repeat' (first | ((with_reducible show wpAny _ _ (eval (Expr.Name _ _) _) _ _ _); ((with_reducible show wpAny _ _ (eval (Expr.Name _ _) (compEnvC _ _ _ _)) _ _ _); k_dflt (refine LCgL.ld_own (by k_asm) (by k_mem) (by assumption) (by assumption) ?_ (by assumption) (by assumption) (by assumption)))) | (k_unfold; (try dsimp only)) | (k_end; wrow_close) | walk1 | (dsimp only; walk1) | (leave1; (try dsimp only))))
        exact CompEnd.intro F N news hsub off hsrc (fin' _ (by rw [htk, hy]; simp))
  exact key its.toArray.size 0 [] (by simp) rfl
open LCg in
theorem inv_rest {elt : Expr} (Inv : Nat → List Value → List (Addr × Obj) → Prop) (h0 : Inv 0 [] news) (fin : ∀ ys nw, Inv its.length ys nw → Fin ys nw)
    (turn : ∀ i v I oI C oC D m₂ ys nw h tk (E' : Value → Shared → Prop), Inv i ys nw → its[i]? = some v → NsObj oC m₂ → m₂ x = some v → Fr h₀ L h m → News h₀ L h ((I, oI) :: (C, oC) :: (D, lst ys) :: nw) → Off3 I C D nw → ((@Ne Nat I C) ∧ (@Ne Nat I D) ∧ (@Ne Nat C D)) →
      wpAny (model prog w) A (eval elt (compEnvC scope cl C env)) (CompEnd h₀ L m { s with heap := h, toks := tk } I oI C oC D (lst ys) (SrcAt h₀ ax its.toArray) (fun y nw' => Inv (i + 1) (ys ++ [y]) nw')) E' { s with heap := h, toks := tk }) :
    CompRest prog w A h₀ L m env elt x scope cl s (SrcAt h₀ ax its.toArray) (fun i v => its.toArray[i]? = some v) Fin its.toArray.size 0 [] news := by
  have key : ∀ (j i : Nat) (ys : List Value) (nw : List (Addr × Obj)), i + j = its.length → Inv i ys nw → CompRest prog w A h₀ L m env elt x scope cl s (SrcAt h₀ ax its.toArray) (fun i v => its.toArray[i]? = some v) Fin j i ys nw := by
    intro j
    induction j with
    | zero =>
      intro i ys nw hi hI
      obtain rfl : i = its.length := by omega
      exact CompRest.zero (fin ys nw hI)
    | succ j ih =>
      intro i ys nw hi hI
      refine CompRest.succ ?_
      intro v I oI C oC D m₂ h tk E' hv hC hx F N off ne
      refine wpAny_mono (turn i v I oI C oC D m₂ ys nw h tk E' hI (by simpa using hv) hC hx F N off ne) (fun y s₂ hq => ?_) fun _ _ e => e
      obtain ⟨h', tk', nw', e, F', N', off', hS, hI'⟩ := hq
      exact ⟨h', tk', nw', e, F', N', off', hS, ih (i + 1) _ nw' (by omega) hI'⟩
  exact key its.toArray.size 0 [] news (by simp) h0
end
/-- a list that the bearers bear stands among them -/
theorem sup_list {r : List (Addr × Obj)} {a : Addr} {ds : List PyData} {h : Heap} (s : Sup r (.ref a) (.list ds)) (q : ∀ p ∈ r, h.get? p.1 = some p.2) :
    ∃ o vs n, (a, o) ∈ r ∧ o.cls = .type "list" ∧ o.data = .seq vs n ∧ SupA r vs.toList ds := by
  have hm : ∃ o, (a, o) ∈ r := by
    by_cases hn : ∃ o, (a, o) ∈ r
    · exact hn
    · obtain ⟨as, x⟩ := s (hideAll h [a]) fun p hp => hideAll_get _ (q p hp) fun hm => hn ⟨p.2, by rw [← List.mem_singleton.mp hm]; exact hp⟩
      cases x with
      | list ho _ _ _ => rw [hideAll_none _ (List.mem_singleton.mpr rfl)] at ho; cases ho
  obtain ⟨o, hm⟩ := hm
  obtain ⟨as, x⟩ := s h q
  cases x with
  | @list _ o' vs n xs as ho hc hd hr =>
    rw [q _ hm] at ho
    cases ho
    refine ⟨_, vs, n, hm, hc, hd, fun g qg => ?_⟩
    obtain ⟨bs, y⟩ := s g qg
    cases y with
    | list ho' hc' hd' hr' =>
      rw [qg _ hm] at ho'
      cases ho'
      rw [hd] at hd'
      cases hd'
      exact ⟨_, hr'⟩
theorem supA_get {r : List (Addr × Obj)} {h : Heap} (q : ∀ p ∈ r, h.get? p.1 = some p.2) : ∀ {vs : List Value} {ds : List PyData} {i : Nat} {v : Value}, SupA r vs ds → vs[i]? = some v → ∃ d, ds[i]? = some d ∧ Sup r v d := by
  intro vs ds i v s e
  obtain ⟨d, _, hd, _⟩ := s.get q e
  refine ⟨d, hd, fun g qg => ?_⟩
  obtain ⟨d', bs, hd', hr⟩ := s.get qg e
  rw [hd] at hd'
  cases hd'
  exact ⟨_, hr⟩
end Mine
end
section
open PySem PySem.W PyProof.Rows PySem.Calls
set_option Elab.async false
set_option maxRecDepth 100000
set_option maxHeartbeats 8000000
namespace Mine
noncomputable abbrev LS := List (List (List Int)) × List (List Int) × List Int
noncomputable def lstep (comma : Int) (c : LS) (f : Int) : LS := if f < 62 then (c.1, c.2.1, c.2.2 ++ [f]) else if f = comma then (c.1 ++ [c.2.1 ++ [c.2.2]], [], []) else (c.1, c.2.1 ++ [c.2.2], [])
noncomputable def lfold (comma : Int) (ns : List Int) : LS := ns.foldl (lstep comma) ([], [], [])
noncomputable def lall (comma : Int) (ns : List Int) : List (List (List Int)) := (lfold comma ns).1 ++ [(lfold comma ns).2.1 ++ [(lfold comma ns).2.2]]
noncomputable def llists (comma : Int) (ns : List Int) : List (List (List Int)) := ((lall comma ns).map fun ws => ws.filter fun w => !w.isEmpty).filter fun ws => !ws.isEmpty
noncomputable def wD (w : List Int) : PyData := .list (w.map PyData.int)
noncomputable def wsD (ws : List (List Int)) : PyData := .list (ws.map wD)
noncomputable def lD (L : List (List (List Int))) : PyData := .list (L.map wsD)
theorem lfold_snoc (comma : Int) (ns : List Int) (f : Int) : lfold comma (ns ++ [f]) = lstep comma (lfold comma ns) f := by simp [lfold]
theorem can_all : ∀ {ds : List PyData}, (∀ d ∈ ds, d.canLay0 = true) → PyData.canLayAll0 ds = true
  | [], _ => rfl
  | d :: r, h => by
    show (d.canLay0 && PyData.canLayAll0 r) = true
    rw [h d (.head _), can_all fun e he => h e (.tail _ he)]; rfl
theorem dep_all {k : Nat} : ∀ {ds : List PyData}, (∀ d ∈ ds, d.depth ≤ k) → PyData.depthAll ds ≤ k
  | [], _ => Nat.zero_le _
  | d :: r, h => by
    show max d.depth (PyData.depthAll r) ≤ k
    have := dep_all fun e he => h e (.tail _ he)
    have := h d (.head _)
    omega
theorem can_wD (w : List Int) : (wD w).canLay0 = true ∧ (wD w).depth ≤ 1 := by
  refine ⟨?_, ?_⟩
  · exact can_all (by intro d hd; obtain ⟨n, _, rfl⟩ := List.mem_map.mp hd; rfl)
  · exact Nat.succ_le_succ (dep_all (k := 0) (by intro d hd; obtain ⟨n, _, rfl⟩ := List.mem_map.mp hd; exact Nat.le_refl _))
theorem can_wsD (ws : List (List Int)) : (wsD ws).canLay0 = true ∧ (wsD ws).depth ≤ 2 := by
  refine ⟨?_, ?_⟩
  · exact can_all (by intro d hd; obtain ⟨n, _, rfl⟩ := List.mem_map.mp hd; exact (can_wD n).1)
  · exact Nat.succ_le_succ (dep_all (k := 1) (by intro d hd; obtain ⟨n, _, rfl⟩ := List.mem_map.mp hd; exact (can_wD n).2))
theorem shaped_wD (w : List Int) : SeqAt.shaped (wD w) = true := by
  unfold SeqAt.shaped; rw [(can_wD w).1, decide_eq_true (Nat.le_trans (can_wD w).2 (by decide))]; rfl
theorem shaped_wsD (w : List (List Int)) : SeqAt.shaped (wsD w) = true := by
  unfold SeqAt.shaped; rw [(can_wsD w).1, decide_eq_true (Nat.le_trans (can_wsD w).2 (by decide))]; rfl
theorem fws (ws : List (List Int)) : ((ws.map fun w => w.map PyData.int).filter fun e => !e.isEmpty).map PyData.list = (ws.filter fun w => !w.isEmpty).map wD := by
  induction ws with
  | nil => rfl
  | cons w ws ih =>
    cases w with
    | nil => exact ih
    | cons a w => exact congrArg (wD (a :: w) :: ·) ih
theorem fls (LA : List (List (List Int))) : ((LA.map fun ws => (ws.filter fun w => !w.isEmpty).map wD).filter fun e => !e.isEmpty).map PyData.list = ((LA.map fun ws => ws.filter fun w => !w.isEmpty).filter fun ws => !ws.isEmpty).map wsD := by
  induction LA with
  | nil => rfl
  | cons ws LA ih =>
    simp only [List.map_cons, List.filter_cons]
    cases ws.filter fun w => !w.isEmpty with
    | nil => exact ih
    | cons a w => exact congrArg (wsD (a :: w) :: ·) ih
theorem lstep_small {c : LS} {f : Int} {comma : Int} {n : Nat} (h : (∀ ws ∈ c.1, ws.length ≤ n) ∧ c.2.1.length + 1 ≤ n) : (∀ ws ∈ (lstep comma c f).1, ws.length ≤ n + 1) ∧ (lstep comma c f).2.1.length + 1 ≤ n + 1 := by
  unfold lstep
  split
  · exact ⟨fun ws hw => Nat.le_succ_of_le (h.1 ws hw), Nat.le_succ_of_le h.2⟩
  · split
    · refine ⟨fun ws hw => ?_, by simp⟩
      rcases List.mem_append.mp hw with hw | hw
      · exact Nat.le_succ_of_le (h.1 ws hw)
      · rw [List.mem_singleton.mp hw]; simp; omega
    · exact ⟨fun ws hw => Nat.le_succ_of_le (h.1 ws hw), by simp; omega⟩
theorem lfold_small (comma : Int) : ∀ (ns : List Int) (c : LS) (n : Nat), (∀ ws ∈ c.1, ws.length ≤ n) → c.2.1.length + 1 ≤ n → (∀ ws ∈ (ns.foldl (lstep comma) c).1, ws.length ≤ n + ns.length) ∧ (ns.foldl (lstep comma) c).2.1.length + 1 ≤ n + ns.length
  | [], c, n, a, b => ⟨a, b⟩
  | f :: ns, c, n, a, b => by
    have := lstep_small (comma := comma) (f := f) ⟨a, b⟩
    have := lfold_small comma ns _ (n + 1) this.1 this.2
    rw [show n + (f :: ns).length = n + 1 + ns.length from by simp; omega]
    exact this
theorem lall_small (comma : Int) (ns : List Int) : ∀ ws ∈ lall comma ns, ws.length ≤ ns.length + 1 := by
  intro ws hw
  have := lfold_small comma ns ([], [], []) 1 (by simp) (by simp)
  rcases List.mem_append.mp hw with hw | hw
  · have := this.1 ws hw; omega
  · rw [List.mem_singleton.mp hw]
    have h2 := this.2
    simp only [List.length_append, List.length_singleton]
    show (ns.foldl (lstep comma) ([], [], [])).2.1.length + 1 ≤ _
    omega
theorem SupA.mono' {r r' : List (Addr × Obj)} {vs : List Value} {ds ds' : List PyData} (s : SupA r vs ds) (e : ds = ds') (k : ∀ p ∈ r, p ∈ r') : SupA r' vs ds' := e ▸ s.mono k
theorem item_last {prog : Program} {w : World} {A : Around} {E : Value → Shared → Prop} {s : Shared} {h₀ : Heap} {L l : Addr} {news : List (Addr × Obj)} {value slice : Expr} {vs : List Value} {x : Value} {c : Nat} {k : Int} {u : Tok} {Q : Value → Shared → Prop} (N : News h₀ L s.heap news) (hm : (l, W.listOf (vs ++ [x]).toArray c) ∈ news) (hk : k = -1) (h : Q x s)
    (hs : subscripted slice false (.ref l) (.int k u) = operate [.ref l, .int k u] (getItem (.ref l) (.int k u)) := by with_unfolding_all rfl) :
    wpAny (model prog w) A (subscriptTail value slice (.ref l) (.int k u)) Q E s := by
  have hl := N.isList hm
  subst hk
  have e : (-1 + ((vs ++ [x]).toArray.size : Int)).toNat = vs.length := by simp; omega
  refine tail_any hl.typeIs slot_list_getitem.lookup (wpAny_getItem_list_neg hl (by decide) (by simp; omega) (by decide) (x := x) ?_ h) hs
  rw [e]
  simp
local macro_rules | `(tactic| k_all) => `(tactic| assumption)
noncomputable def LObj (l : List (Addr × Obj)) : Prop := ∀ p ∈ l, ∃ vs n, p.2 = W.listOf vs n
theorem LObj.nil : LObj [] := fun _ m => nomatch m
theorem LObj.cons {a : Addr} {vs : Array Value} {n : Nat} {l : List (Addr × Obj)} (x : LObj l) : LObj ((a, W.listOf vs n) :: l) := List.forall_mem_cons.mpr ⟨⟨_, _, rfl⟩, x⟩
structure LSt where
  wa : Addr
  ca : Addr
  wv : List Value
  cs : List Value
  ds : List Value
  k1 : Nat
  k2 : Nat
  k3 : Nat
  rest : List (Addr × Obj)
noncomputable def LSt.led (x : LSt) (ls : Addr) : List (Addr × Obj) := (x.wa, W.listOf x.wv.toArray x.k1) :: (x.ca, W.listOf (x.cs ++ [Value.ref x.wa]).toArray x.k2) :: (ls, W.listOf (x.ds ++ [Value.ref x.ca]).toArray x.k3) :: x.rest
theorem gen_postL {α : Type} {M : Model} {A : Around} {x : Sem α} {Q : α → Shared → Prop} {E : Value → Shared → Prop} {s : Shared} (h : ∀ R : α → Shared → Prop, (∀ f s', Q f s' → R f s') → wpAny M A x R E s) : wpAny M A x Q E s := h Q fun _ _ h => h
structure LSt.Ok (x : LSt) (ls : Addr) (c : LS) (i : Nat) : Prop where
  w : IntsAre x.wv c.2.2
  cu : SupA x.rest x.cs (c.2.1.map wD)
  de : SupA x.rest x.ds (c.1.map wsD)
  n1 : @Ne Nat x.wa x.ca
  n2 : @Ne Nat x.wa ls
  n3 : @Ne Nat x.ca ls
  r1 : ∀ p ∈ x.rest, p.1 ≠ x.wa
  r2 : ∀ p ∈ x.rest, p.1 ≠ x.ca
  r3 : ∀ p ∈ x.rest, p.1 ≠ ls
  z : x.wv.length + x.cs.length + x.ds.length ≤ i
  lo : LObj x.rest
theorem lists_ctr {w : World} {dp un : Nat} {fr : Option (List Env)} {gd : Option (List Code)} {s : Shared} {mean : ExcName → Option Value} {pp : Program} {ll : List Str} {mg mb : Str → Option Value} {Q E : Value → Shared → Prop} {a : Addr} {vs : List Value} {ns : List Int} {comma : Int} {t : Tok} (X : (hp w.params).In s.heap) (T : Top pp ll mean mg mb s.heap) (hdp : dp + 1 < 400) (hu : un + 20 * 1 < 4000)
   (hl : s.heap.IsList a vs.toArray) (hi : IntsAre vs ns) (hn : ns.length < 1000) (hf : ∀ f ∈ ns, 0 ≤ f ∧ f < 64)
   (hret : ∀ r rest h' tk', s.heap.StaysIn h' → (∀ p ∈ rest, h'.get? p.1 = some p.2 ∧ s.heap.get? p.1 = none) → LObj rest → Sup rest (.ref r) (lD (llists comma ns)) → Q (.ref r) { s with heap := h', toks := tk' }) :
   wpAny (model Challenge.rw_pa0034_01.row.prog w) (At dp un fr gd) (call (.ref 215) [.ref a, .int comma t]) Q E s := by
  rcases s with ⟨h₀, gs, dr, tk, os⟩
  dsimp only at *
  revert X
  k_fill
  intro X
  refine wpAny_call ?_
  k_dflt (refine' enter (binds := [(Str.ofString "row", .ref a), (Str.ofString "comma", .int comma t)]) ?k1 ?k2 ?k3 ?kA ?kB ?kS ?k4 ?k5 ?k6 ?k7 ?_ ?c2 ?c3 ?c4 ?c5; (case k1 => k_asm); (case k2 => exact T.nolimit); (case k3 => k_is); (case kA => (conv => lhs; whnf)); (case kB => (conv => lhs; whnf)); (case kS => (conv => lhs; whnf)); (case k4 => k_is); (case k5 => exact room_of (by omega)); (case k6 => first | exact BindsTo.of_eq rfl | exact binds_K (by k_in) rfl (by k_is) rfl rfl rfl); (case k7 => exact locs rfl); (case c5 => decide); (case c2 => exact rfl); (case c3 => exact rfl); (case c4 => exact rfl))
  intro L h₁ F0 N0
  dsimp only at F0 N0
  (try dsimp only)
  refine wpAny_noRaise ?_
  repeat ((fail_if_success (with_reducible show wpAny _ _ (exec (Stmt.For _ _ _ _ _) _) _ _ _)); (first | ((with_reducible show wpAny _ _ (subscriptTail _ _ _ _) _ _ _); k_dflt (refine' item_last ?k1 ?k2 ?k3 ?_; (case k1 => k_asm); (case k2 => k_mem); (case k3 => rfl))) | ((with_reducible show wpAny _ _ (PySem.call (Value.builtin "list.append") _ _) _ _ _); k_dflt (refine' append_K ?k1 ?k2 ?k3 ?_ ?z; (case k1 => k_asm); (case k2 => k_asm); (case k3 => k_upd); (case z => assumption); intro h' F' N'; (try k_sweep))) | walk1))
  rename_i wa0 _ _ ca0 _ l1 ls _ l2 _ F N
  refine For_start ?_
  (first | ((with_reducible show wpAny _ _ (subscriptTail _ _ _ _) _ _ _); k_dflt (refine' item_last ?k1 ?k2 ?k3 ?_; (case k1 => k_asm); (case k2 => k_mem); (case k3 => rfl))) | ((with_reducible show wpAny _ _ (PySem.call (Value.builtin "list.append") _ _) _ _ _); k_dflt (refine' append_K ?k1 ?k2 ?k3 ?_ ?z; (case k1 => k_asm); (case k2 => k_asm); (case k3 => k_upd); (case z => assumption); intro h' F' N'; (try k_sweep))) | walk1)
  refine loop_ints (fun x : LSt => x.led ls) (fun _ => [(Str.ofString "lists", Value.ref ls), (Str.ofString "comma", Value.int comma t)]) (fun i x => LSt.Ok x ls (lfold comma (ns.take i)) i)
    ⟨wa0, ca0, [], [], [], 0, 0, 0, []⟩ rfl rfl rfl hl hi F (fun p hp => N p ((List.forall_mem_cons.mpr ⟨by k_mem, (List.forall_mem_cons.mpr ⟨by k_mem, (List.forall_mem_cons.mpr ⟨by k_mem, (fun p hp => by repeat (first | exact hp | refine List.Mem.tail _ ?_))⟩)⟩)⟩) p hp)) ⟨rfl, rfl, trivial⟩ ⟨.nil, SupA.nil, SupA.nil, (by show @Ne Nat wa0 ca0; omega), (by show @Ne Nat wa0 ls; omega), (by show @Ne Nat ca0 ls; omega), (fun _ m => nomatch m), (fun _ m => nomatch m), (fun _ m => nomatch m), Nat.le_refl _, LObj.nil⟩ ?turn ?done
  case turn =>
    rintro I i f ft m₁ h tk1 oi ⟨wa, ca, wv, cs, ds, k1, k2, k3, rest⟩ hfi hoff O F' N'
    have hfb := hf f (List.mem_of_getElem? hfi)
    have hsn : lfold comma (ns.take (i + 1)) = lstep comma (lfold comma (ns.take i)) f := by
      rw [List.take_add_one, hfi]; exact lfold_snoc _ _ _
    have hil : i < ns.length := (List.getElem?_eq_some_iff.mp hfi).1
    obtain ⟨w1, w2, w3, n1, n2, n3, r1, r2, r3, z, lo⟩ := O
    dsimp only [LSt.led] at hoff w1 w2 w3 n1 n2 n3 r1 r2 r3 z N'
    generalize lfold comma (ns.take i) = c at *
    obtain ⟨done, cur, w⟩ := c
    dsimp only at w1 w2 w3
    obtain ⟨o1, o2, o3, o4⟩ := hoff
    have e1 : @Ne Nat wa I := o1
    have e2 : @Ne Nat ca I := o2
    have e3 : @Ne Nat ls I := o3
    have e4 := o4.all
    have hsz : (6000 : Nat) ≤ sizeLine := by decide
    have hz1 : wv.toArray.size ≤ sizeLine := by simp; omega
    have hz2 : (cs ++ [Value.ref wa]).toArray.size ≤ sizeLine := by simp; omega
    have hz3 : (ds ++ [Value.ref ca]).toArray.size ≤ sizeLine := by simp; omega
    have n1' : @Ne Nat ca wa := Ne.symm n1
    have n2' : @Ne Nat ls wa := Ne.symm n2
    have n3' : @Ne Nat ls ca := Ne.symm n3
    clear F N o4 o1 o2 o3
    refine gen_postL ?_
    intro R hR
    (repeat' (first | ((with_reducible show wpAny _ _ (subscriptTail _ _ _ _) _ _ _); k_dflt (refine' item_last ?k1 ?k2 ?k3 ?_; (case k1 => k_asm); (case k2 => k_mem); (case k3 => rfl))) | ((with_reducible show wpAny _ _ (PySem.call (Value.builtin "list.append") _ _) _ _ _); k_dflt (refine' append_K ?k1 ?k2 ?k3 ?_ ?z; (case k1 => k_asm); (case k2 => k_asm); (case k3 => k_upd); (case z => assumption); intro h' F' N'; (try k_sweep))) | (k_unfold; (try dsimp only)) | (k_end; wrow_close) | walk1 | (dsimp only; walk1) | (leave1; (try dsimp only))))
    all_goals (refine hR _ _ ?_; rename Fr _ _ _ _ => F; rename News _ _ _ _ => N; simp only [List.push_toArray] at N)
    · refine ⟨⟨wa, ca, wv ++ [Value.int f ft], cs, ds, k1 + 1, k2, k3, rest⟩, _, _, _, rfl, F, N, ⟨e1, e2, e3, Off.of e4⟩, ⟨rfl, rfl, trivial⟩, ?_⟩
      rw [hsn]
      unfold lstep
      rw [if_pos (by assumption)]
      exact ⟨ints_push w1, w2, w3, n1, n2, n3, r1, r2, r3, by simp; omega, lo⟩
    · rename_i wb _ la cb _ lb
      have sw : SupA ((wa, W.listOf wv.toArray k1) :: (ca, W.listOf (cs ++ [Value.ref wa]).toArray k2) :: rest) (cs ++ [Value.ref wa]) ((cur ++ [w]).map wD) := by
        rw [List.map_append]
        exact (w2.mono fun p hp => .tail _ (.tail _ hp)).snoc (Sup.list (SupA.ints w1) (.head _))
      refine ⟨⟨wb, cb, [], [], ds ++ [Value.ref ca], 0, 0, k3 + 1, (wa, W.listOf wv.toArray k1) :: (ca, W.listOf (cs ++ [Value.ref wa]).toArray k2) :: rest⟩, _, _, _, rfl, F, fun p hp => N p ((List.forall_mem_cons.mpr ⟨by k_mem, (List.forall_mem_cons.mpr ⟨by k_mem, (List.forall_mem_cons.mpr ⟨by k_mem, (List.forall_mem_cons.mpr ⟨by k_mem, (List.forall_mem_cons.mpr ⟨by k_mem, (List.forall_mem_cons.mpr ⟨by k_mem, (fun p hp => by repeat (first | exact hp | refine List.Mem.tail _ ?_))⟩)⟩)⟩)⟩)⟩)⟩) p hp),
        ⟨(Nat.ne_of_gt la.1), (Nat.ne_of_gt lb.2.1), e3, e1, e2, Off.of e4⟩, ⟨rfl, rfl, trivial⟩, ?_⟩
      rw [hsn]
      unfold lstep
      rw [if_neg (by assumption), if_pos (by assumption)]
      have aw := allLt_mem la.2.2.2.2
      have ac := allLt_mem lb.2.2.2.2.2
      refine ⟨.nil, SupA.nil, ?_, (Nat.ne_of_lt lb.1), (Nat.ne_of_gt la.2.2.2.1), (Nat.ne_of_gt lb.2.2.2.2.1),
        List.forall_mem_cons.mpr ⟨(Nat.ne_of_lt la.2.1), List.forall_mem_cons.mpr ⟨(Nat.ne_of_lt la.2.2.1), fun p hp => (Nat.ne_of_lt (aw p hp))⟩⟩,
        List.forall_mem_cons.mpr ⟨(Nat.ne_of_lt lb.2.2.1), List.forall_mem_cons.mpr ⟨(Nat.ne_of_lt lb.2.2.2.1), fun p hp => (Nat.ne_of_lt (ac p hp))⟩⟩,
        List.forall_mem_cons.mpr ⟨n2, List.forall_mem_cons.mpr ⟨n3, r3⟩⟩, by simp; omega, lo.cons.cons⟩
      rw [List.map_append]
      exact (w3.mono fun p hp => .tail _ (.tail _ hp)).snoc (Sup.list sw (.tail _ (.head _)))
    · rename_i wb _ la
      refine ⟨⟨wb, ca, [], cs ++ [Value.ref wa], ds, 0, k2 + 1, k3, (wa, W.listOf wv.toArray k1) :: rest⟩, _, _, _, rfl, F, fun p hp => N p ((List.forall_mem_cons.mpr ⟨by k_mem, (List.forall_mem_cons.mpr ⟨by k_mem, (List.forall_mem_cons.mpr ⟨by k_mem, (List.forall_mem_cons.mpr ⟨by k_mem, (List.forall_mem_cons.mpr ⟨by k_mem, (fun p hp => by repeat (first | exact hp | refine List.Mem.tail _ ?_))⟩)⟩)⟩)⟩)⟩) p hp),
        ⟨(Nat.ne_of_gt la.1), e2, e3, e1, Off.of e4⟩, ⟨rfl, rfl, trivial⟩, ?_⟩
      rw [hsn]
      unfold lstep
      rw [if_neg (by assumption), if_neg (by assumption)]
      have aw := allLt_mem la.2.2.2.2
      refine ⟨.nil, ?_, w3.mono fun p hp => .tail _ hp, (Nat.ne_of_gt la.2.2.1), (Nat.ne_of_gt la.2.2.2.1), n3,
        List.forall_mem_cons.mpr ⟨(Nat.ne_of_lt la.2.1), fun p hp => (Nat.ne_of_lt (aw p hp))⟩, List.forall_mem_cons.mpr ⟨n1, r2⟩, List.forall_mem_cons.mpr ⟨n2, r3⟩, by simp; omega, lo.cons⟩
      rw [List.map_append]
      exact (w2.mono fun p hp => .tail _ hp).snoc (Sup.list (SupA.ints w1) (.head _))
  case done =>
    rintro ⟨wa, ca, wv, cs, ds, k1, k2, k3, rest⟩ m h tk1 O F' N'
    rw [List.take_length] at O
    obtain ⟨w1, w2, w3, n1, n2, n3, r1, r2, r3, z, lo⟩ := O
    dsimp only [LSt.led] at w1 w2 w3 n1 n2 n3 r1 r2 r3 z N'
    clear F N
    have F3 : Fr h₀ L h (wr [(Str.ofString "lists", Value.ref ls), (Str.ofString "comma", Value.int comma t)] m) := F'
    have N3 : News h₀ L h ((wa, W.listOf wv.toArray k1) :: (ca, W.listOf (cs ++ [Value.ref wa]).toArray k2) :: (ls, W.listOf (ds ++ [Value.ref ca]).toArray k3) :: rest) := N'
    clear F' N'
    repeat ((fail_if_success (with_reducible show wpAny _ _ (exec (Stmt.Assign _ (Expr.ListComp _ _ _ _) _) _) _ _ _)); (first | ((with_reducible show wpAny _ _ (subscriptTail _ _ _ _) _ _ _); k_dflt (refine' item_last ?k1 ?k2 ?k3 ?_; (case k1 => k_asm); (case k2 => k_mem); (case k3 => rfl))) | ((with_reducible show wpAny _ _ (PySem.call (Value.builtin "list.append") _ _) _ _ _); k_dflt (refine' append_K ?k1 ?k2 ?k3 ?_ ?z; (case k1 => k_asm); (case k2 => k_asm); (case k3 => k_upd); (case z => assumption); intro h' F' N'; (try k_sweep))) | walk1))
    refine LCg.Assign_ListComp_U (F₀ := F3) rfl (by with_unfolding_all rfl) rfl (by decide) rfl (by decide) rfl rfl rfl ?_
    (first | ((with_reducible show wpAny _ _ (subscriptTail _ _ _ _) _ _ _); k_dflt (refine' item_last ?k1 ?k2 ?k3 ?_; (case k1 => k_asm); (case k2 => k_mem); (case k3 => rfl))) | ((with_reducible show wpAny _ _ (PySem.call (Value.builtin "list.append") _ _) _ _ _); k_dflt (refine' append_K ?k1 ?k2 ?k3 ?_ ?z; (case k1 => k_asm); (case k2 => k_asm); (case k3 => k_upd); (case z => assumption); intro h' F' N'; (try k_sweep))) | walk1)
    have hsz : (6000 : Nat) ≤ sizeLine := by decide
    have hun : (At dp un fr gd).units + 64 < cLine := by show un + 64 < cLine; unfold cLine; omega
    generalize hbase : ((wa, W.listOf wv.toArray k1) :: (ca, W.listOf (cs ++ [Value.ref wa]).toArray k2) :: (ls, W.listOf (ds ++ [Value.ref ca]).toArray k3) :: rest) = base at N3
    have hlo : LObj base := by
      rw [← hbase]
      exact lo.cons.cons.cons
    have hmem : (ls, W.listOf (ds ++ [Value.ref ca]).toArray k3) ∈ base := by rw [← hbase]; k_mem
    have hall : SupA base (ds ++ [Value.ref ca]) ((lall comma ns).map wsD) := by
      rw [← hbase]
      unfold lall
      rw [List.map_append]
      refine (w3.mono fun p hp => .tail _ (.tail _ (.tail _ hp))).snoc (Sup.list (vs := cs ++ [Value.ref wa]) ?_ (.tail _ (.head _)))
      rw [List.map_append]
      exact (w2.mono fun p hp => .tail _ (.tail _ (.tail _ hp))).snoc (Sup.list (SupA.ints w1) (.head _))
    have hlen : (ds ++ [Value.ref ca]).length = (lall comma ns).length := by
      have := hall.length fun p hp => (N3 p hp).1
      simpa using this
    have hLAw := lall_small comma ns
    have hLl : (lall comma ns).length ≤ ns.length + 1 := by
      simp at hlen
      omega
    generalize hLA : lall comma ns = LA at *
    refine LCg.CompSrc.ledger rfl F3 N3 hmem (by simp; omega) fun g => ?_
    refine inv_rest (its := ds ++ [Value.ref ca]) (Inv := fun i ys nw => (∀ p ∈ base, p ∈ nw) ∧ LObj nw ∧ SupA nw ys ((LA.take i).map fun ws => wsD (ws.filter fun w => !w.isEmpty))) ⟨fun p hp => hp, hlo, SupA.nil⟩ ?fin ?turn
    case turn =>
      intro i v I oI C oC D m₂ ys nw h2 tk2 E' hI hv hC hx F N off ne
      obtain ⟨hb, hlob, hS⟩ := hI
      have q : ∀ p ∈ nw, h2.get? p.1 = some p.2 := fun p hp => (N p (.tail _ (.tail _ (.tail _ hp)))).1
      obtain ⟨d, hd, sv⟩ := supA_get q (SupA.mono hall hb) hv
      obtain ⟨ws, hws, rfl⟩ : ∃ ws, LA[i]? = some ws ∧ wsD ws = d := by simpa [List.getElem?_map] using hd
      obtain ⟨as, rv⟩ := sv h2 q
      obtain ⟨pa, vvs, cs', rfl, hvl, hvr⟩ := reads_list rv
      obtain ⟨o, ⟨vl⟩, n', hpm, hoc, hod, hSv⟩ := sup_list sv q
      have hSv' : SupA nw vl ((ws.map fun w => w.map PyData.int).map PyData.list) := by
        rw [List.map_map]; exact hSv
      have hle2 : vl.length = ws.length := by
        have := hSv.length q
        simpa using this
      have hwn : ws.length ≤ sizeLine := by
        have := hLAw ws (List.mem_of_getElem? hws)
        omega
      refine LCt.ListComp_T (F₀ := F) (by with_unfolding_all rfl) (by decide) rfl (by decide) rfl ?_
      refine LCgL.ld_own N (by k_mem) hC hx ?_
      refine .inl ⟨pa, ⟨vl⟩, (I, oI) :: (C, oC) :: (D, LCg.lst ys) :: nw, rfl, rfl, F, N, .inr ⟨o, .tail _ (.tail _ (.tail _ hpm)), hoc, n', hod⟩, (by show vl.length ≤ sizeLine; omega), fun s₂ ⟨g, e⟩ => e ▸ ?_⟩
      refine filter_rest (its := vl) (ess := ws.map fun w => w.map PyData.int) X (by (try simp only [Around.deeper]); (show _ < 9900); omega) rfl rfl (by decide) (SupA.mono hSv' fun p hp => .tail _ (.tail _ (.tail _ hp))) (by simpa using hle2) ?_ (.inr ⟨o, .tail _ (.tail _ (.tail _ hpm)), hoc, n', hod⟩) ?_
      · intro es he
        obtain ⟨w, _, rfl⟩ := List.mem_map.mp he
        exact shaped_wD w
      · intro D' h3 tk3 F3' N3' o1
        obtain ⟨oI', oC', oD', or⟩ := o1
        refine LCg.CompEnd.intro F3' N3' ((D', LCg.lst _) :: nw) ((List.forall_mem_cons.mpr ⟨by k_mem, (List.forall_mem_cons.mpr ⟨by k_mem, (List.forall_mem_cons.mpr ⟨by k_mem, (List.forall_mem_cons.mpr ⟨by k_mem, (fun p hp => by repeat (first | exact hp | refine List.Mem.tail _ ?_))⟩)⟩)⟩)⟩)) ⟨⟨Ne.symm oI', Ne.symm oC', Ne.symm oD'⟩, off⟩ (.inr ⟨_, .tail _ (hb _ hmem), rfl, _, rfl⟩) ⟨fun p hp => .tail _ (hb p hp), hlob.cons, ?_⟩
        rw [List.take_add_one, hws, List.map_append]
        refine (hS.mono fun p hp => .tail _ hp).snoc (Sup.list ((SupA.filt hSv').mono' (fws ws) fun p hp => .tail _ hp) (.head _))
    case fin =>
      intro ys nw hI D h3 tk3 F N o1
      obtain ⟨hb, hlob, hS⟩ := hI
      rw [hlen, List.take_length] at hS
      have F3 : Fr h₀ L h3 (wr [(Str.ofString "full", Value.ref D), (Str.ofString "lists", Value.ref ls), (Str.ofString "comma", Value.int comma t)] m) := F
      clear F
      have hSf : SupA nw ys ((LA.map fun ws => (ws.filter fun w => !w.isEmpty).map wD).map PyData.list) := by
        rw [List.map_map]; exact hS
      have hle3 : ys.length = LA.length := by
        have := hS.length fun p hp => (N p (.tail _ hp)).1
        simpa using this
      dsimp only
      repeat ((fail_if_success (with_reducible show wpAny _ _ (eval (Expr.ListComp _ _ _ _) _) _ _ _)); (first | ((with_reducible show wpAny _ _ (subscriptTail _ _ _ _) _ _ _); k_dflt (refine' item_last ?k1 ?k2 ?k3 ?_; (case k1 => k_asm); (case k2 => k_mem); (case k3 => rfl))) | ((with_reducible show wpAny _ _ (PySem.call (Value.builtin "list.append") _ _) _ _ _); k_dflt (refine' append_K ?k1 ?k2 ?k3 ?_ ?z; (case k1 => k_asm); (case k2 => k_asm); (case k3 => k_upd); (case z => assumption); intro h' F' N'; (try k_sweep))) | walk1))
      refine LCt.ListComp_T (F₀ := F3) (by with_unfolding_all rfl) (by decide) rfl (by decide) rfl ?_
      (first | ((with_reducible show wpAny _ _ (subscriptTail _ _ _ _) _ _ _); k_dflt (refine' item_last ?k1 ?k2 ?k3 ?_; (case k1 => k_asm); (case k2 => k_mem); (case k3 => rfl))) | ((with_reducible show wpAny _ _ (PySem.call (Value.builtin "list.append") _ _) _ _ _); k_dflt (refine' append_K ?k1 ?k2 ?k3 ?_ ?z; (case k1 => k_asm); (case k2 => k_asm); (case k3 => k_upd); (case z => assumption); intro h' F' N'; (try k_sweep))) | walk1)
      refine LCt.CompSrcT.ledger rfl F3 N (.head _) (by simp; omega) fun g => ?_
      refine filter_rest (its := ys) (ess := LA.map fun ws => (ws.filter fun w => !w.isEmpty).map wD) X (by (try simp only [Around.deeper]); (show _ < 9900); omega) rfl rfl (by decide) (hSf.mono fun p hp => .tail _ hp) (by simpa using hle3) ?_ (.inr ⟨_, .head _, rfl, _, rfl⟩) ?_
      · intro es he
        obtain ⟨ws, _, rfl⟩ := List.mem_map.mp he
        exact shaped_wsD _
      · intro D' h4 tk4 F4 N4 o4
        dsimp only
        (repeat' (first | ((with_reducible show wpAny _ _ (subscriptTail _ _ _ _) _ _ _); k_dflt (refine' item_last ?k1 ?k2 ?k3 ?_; (case k1 => k_asm); (case k2 => k_mem); (case k3 => rfl))) | ((with_reducible show wpAny _ _ (PySem.call (Value.builtin "list.append") _ _) _ _ _); k_dflt (refine' append_K ?k1 ?k2 ?k3 ?_ ?z; (case k1 => k_asm); (case k2 => k_asm); (case k3 => k_upd); (case z => assumption); intro h' F' N'; (try k_sweep))) | (k_unfold; (try dsimp only)) | (k_end; wrow_close) | walk1 | (dsimp only; walk1) | (leave1; (try dsimp only))))
        refine hret D' _ _ _ F4.keep (fun p hp => ⟨(N4 p hp).1, (N4 p hp).2.2⟩) hlob.cons.cons (Sup.list (vs := filt ys (LA.map fun ws => (ws.filter fun w => !w.isEmpty).map wD)) (ds := (llists comma ns).map wsD) ?_ (.head _))
        unfold llists
        rw [hLA]
        exact (SupA.filt hSf).mono' (fls LA) fun p hp => .tail _ (.tail _ hp)
end Mine
end
section
open PySem PySem.W PyProof.Rows PySem.Calls
set_option Elab.async false
set_option maxRecDepth 100000
set_option maxHeartbeats 8000000
namespace Mine
theorem enterC {prog : Program} {w : World} {A : Around} {s : Shared} {K : Frag} {R : Result → Shared → Prop} {name qual : Str} {params pa : Arguments} {body bo : List Stmt} {scope sc : Scope} {dV kV doc pm cdv ct oc : Value} {an od : Option Addr} {osl : Array (Option Value)} {f : Addr} {args : Args} {binds : List (Str × Value)}
    (X : K.In s.heap) (hlim : s.heap.NoLimit)
    (ho : K.lookup f = some ⟨oc, od, .func (fnOf name qual pa bo sc dV kV doc pm an cdv ct), osl⟩) (hA : pa = params) (hB : bo = body) (hS : sc = scope) (hcd : codeIn K cdv qual = true) (hroom : A.depth < recursionLimit)
    (hbind : BindsTo s (fnOf name qual params body scope dV kV doc pm an cdv ct) args binds) (hkind : (binds.all fun y => scope.names.lookup y.1 == some .local || scope.names.lookup y.1 == some .cell) = true)
    (hnd : ((cellsFrom 0 scope.names []).map (·.1)).Nodup)
    (h : ∀ L h₁ tk cells, Fr s.heap L h₁ (bindL (envOfC qual scope L f cdv).kindOf binds fun _ => none) → News s.heap L h₁ cells →
      CellsAre (bindC (envOfC qual scope L f cdv).kindOf binds fun _ => none) (cellsFrom (L + 1) scope.names []) cells →
      wpAny (model prog w) (A.deeper (envOfC qual scope L f cdv)) (execs body (envOfC qual scope L f cdv))
        (fun fl s' => R (.ok (.ret (match fl with | .ret v => v | _ => .none))) s')
        (fun e s' => wpAny (model prog w) (A.deeper (envOfC qual scope L f cdv)) (leaving (envOfC qual scope L f cdv) e) (fun _ s'' => R (.error e) s'') (fun e' s'' => R (.error e') s'') s')
        { s with heap := h₁, toks := tk })
    (hco : scope.isCoroutine = false := by rfl) (hgen : scope.isGenerator = false := by rfl) (hk : scope.kind = .function := by rfl) : codeAny (model prog w) A (.call (.ref f) args) R s := by
  subst hA; subst hB; subst hS
  refine codeAny_call_function hroom (X _ _ ho) rfl hco hgen rfl (codeRec_of X hcd) (hbind _ _ _ _ ?_)
  refine wpAny_newFunctionEnv_cells hk (kindsX hkind _) fun env' he s' x => ?_
  subst he
  refine ⟨hlim.keeps x.toInCall.keep, codeAny_func ?_⟩
  obtain ⟨h₁, tk, rfl, _⟩ := x.done
  obtain ⟨cells, NC, Y⟩ := Cl.news (h₀ := s.heap) (Nat.le_refl _) fun n c hm => ⟨x.cell n c (lookup_of_mem_nodup (cellsFrom_names sc.names 0 (s.heap.objs.size + 1) [] [] rfl ▸ hnd) hm), x.above n c hm⟩
  exact h s.heap.objs.size h₁ tk cells ⟨x.toInCall.ns, x.toInCall.keep, Nat.le_refl _⟩ NC Y
local macro_rules | `(tactic| k_all) => `(tactic| assumption)
noncomputable def wP (c1 c2 : Nat) (w : List Int) : Pr := (w.map (sgn c1 c2), none)
noncomputable def dueR (c1 c2 : Nat) (LL : List (List (List Int))) : List (List Pr) := LL.map fun ws => ws.map (wP c1 c2)
noncomputable def due (c1 c2 p : Nat) (LL : List (List (List Int))) : List (List Pr) := if p = 0 then dueR c1 c2 LL else dueR c1 c2 LL.dropLast ++ [(LL.getLastD []).dropLast.map (wP c1 c2) ++ [(((LL.getLastD []).getLastD []).map (sgn c1 c2), some (List.replicate (p - 1) 61))]]
noncomputable def LI (c1 c2 : Nat) (P : List (List (List Int))) (ys : List Value) (nw : List (Addr × Obj)) : Prop :=
  (P = [] ∧ ys = []) ∨ ∃ P' ws Dl zs nw' ys', P = P' ++ [ws] ∧ nw = (Dl, LCg.lst zs) :: nw' ∧ ys = ys' ++ [.ref Dl] ∧ (∀ p ∈ nw', p.1 ≠ Dl) ∧ SupA nw' ys' (P'.map fun ws => prsD (ws.map (wP c1 c2))) ∧ SupA nw' zs (ws.map fun w => prD (wP c1 c2 w))
theorem LI.sup {c1 c2 : Nat} {P : List (List (List Int))} {ys : List Value} {nw : List (Addr × Obj)} (x : LI c1 c2 P ys nw) : SupA nw ys (P.map fun ws => prsD (ws.map (wP c1 c2))) := by
  rcases x with ⟨rfl, rfl⟩ | ⟨P', ws, Dl, zs, nw', ys', rfl, rfl, rfl, _, a, b⟩
  · exact SupA.nil
  · rw [List.map_append]
    refine (a.mono fun p hp => .tail _ hp).snoc (Sup.list (ds := (ws.map (wP c1 c2)).map prD) ?_ (.head _))
    rw [List.map_map]
    exact b.mono fun p hp => .tail _ hp
theorem off3_of {I C D : Addr} : ∀ {l : List (Addr × Obj)}, (∀ p ∈ l, p.1 ≠ I ∧ p.1 ≠ C ∧ p.1 ≠ D) → LCg.Off3 I C D l
  | [], _ => trivial
  | _ :: _, h => ⟨h _ (.head _), off3_of fun p hp => h p (.tail _ hp)⟩
theorem off1_mem {D : Addr} : ∀ {l : List (Addr × Obj)}, LCg.Off1 D l → ∀ p ∈ l, p.1 ≠ D
  | [], _, _, h => nomatch h
  | _ :: _, x, p, h => by
    rcases List.mem_cons.mp h with rfl | h
    · exact x.1
    · exact off1_mem x.2 p h
theorem kl_last_snoc : ∀ (p : List Value) (y : Value), kl_last (p ++ [y]) = some (p, y)
  | [], _ => rfl
  | x :: p, y => by
    show (match kl_last (p ++ [y]) with | some (p, y) => some (x :: p, y) | none => some ([], x)) = _
    rw [kl_last_snoc p y]
theorem pop_K {prog : Program} {w : World} {A : Around} {E : Value → Shared → Prop} {s : Shared} {h₀ : Heap} {L D : Addr} {m : Str → Option Value} {news news' : List (Addr × Obj)} {n : Nat} {p : List Value} {y : Value} {Q : Value → Shared → Prop} (F : Fr h₀ L s.heap m) (N : News h₀ L s.heap news) (U : Upd D (W.listOf (p ++ [y]).toArray n) (W.listOf p.toArray (n + 1)) news news')
    (hz : (p ++ [y]).toArray.toList.length ≤ sizeLine) (h : ∀ h', Fr h₀ L h' m → News h₀ L h' news' → Q y { s with heap := h' }) : wpAny (model prog w) A (call (.builtin "list.pop") [.ref D]) Q E s :=
  kl_pop F N (kl_last_snoc p y) U hz h
theorem readsAll_snoc_inv {h : Heap} {d : PyData} : ∀ {vs : List Value} {ds : List PyData} {as : List Addr}, ReadsAll h vs (ds ++ [d]) as → ∃ vs' v as' bs, vs = vs' ++ [v] ∧ ReadsAll h vs' ds as' ∧ Reads h v d bs
  | _, [], _, x => by
    cases x with
    | cons p r => cases r; exact ⟨[], _, _, _, rfl, .nil, p⟩
  | _, e :: ds, _, x => by
    cases x with
    | cons p r =>
      obtain ⟨vs', v, as', bs, rfl, a, b⟩ := readsAll_snoc_inv r
      exact ⟨_ :: vs', v, _, bs, rfl, .cons p a, b⟩
theorem SupA.unsnoc {r : List (Addr × Obj)} {vs : List Value} {ds : List PyData} {d : PyData} {h : Heap} (s : SupA r vs (ds ++ [d])) (q : ∀ p ∈ r, h.get? p.1 = some p.2) : ∃ vs' v, vs = vs' ++ [v] ∧ SupA r vs' ds ∧ Sup r v d := by
  obtain ⟨as, x⟩ := s h q
  obtain ⟨vs', v, as', bs, rfl, a, b⟩ := readsAll_snoc_inv x
  refine ⟨vs', v, rfl, fun g qg => ?_, fun g qg => ?_⟩
  · obtain ⟨_, y⟩ := s g qg
    obtain ⟨vs2, v2, as2, bs2, e, a2, b2⟩ := readsAll_snoc_inv y
    obtain ⟨rfl, e2⟩ := List.append_inj' e rfl
    exact ⟨_, a2⟩
  · obtain ⟨_, y⟩ := s g qg
    obtain ⟨vs2, v2, as2, bs2, e, a2, b2⟩ := readsAll_snoc_inv y
    obtain ⟨rfl, e2⟩ := List.append_inj' e rfl
    obtain rfl := (List.cons.inj e2).1
    exact ⟨_, b2⟩
theorem mul_eq {p : Nat} (h : 0 < p) (h4 : p < 4) : Txt.mul (Str.ofString "=") ((p : Int) - 1) = S (List.replicate (p - 1) 61) := by
  obtain rfl | rfl | rfl : p = 1 ∨ p = 2 ∨ p = 3 := by omega
  all_goals decide
theorem pairs_ctr {w : World} {dp un : Nat} {fr : Option (List Env)} {gd : Option (List Code)} {s : Shared} {mean : ExcName → Option Value} {pp : Program} {ll : List Str} {mg mb : Str → Option Value} {Q E : Value → Shared → Prop} {a : Addr} {LL : List (List (List Int))} {as : List Addr} {c1 c2 : UInt8} {tb tp : Tok} {p : Nat} (X : (hp w.params).In s.heap) (T : Top pp ll mean mg mb s.heap) (hdp : dp + 2 < 400) (hu : un + 20 * 2 < 4000)
   (hr : Reads s.heap (.ref a) (lD LL) as) (hf : ∀ ws ∈ LL, ws.length < 1000 ∧ ∀ w ∈ ws, w.length < 1000 ∧ ∀ f ∈ w, 0 ≤ f ∧ f < 64) (hz : LL.length < 1000) (hp : p < 4)
   (hL : p = 0 ∨ ∃ LL' ws' w, LL = LL' ++ [ws' ++ [w]])
   (hret : ∀ r rest h' tk', s.heap.StaysIn h' → (∀ p ∈ rest, h'.get? p.1 = some p.2 ∧ s.heap.get? p.1 = none) → Sup rest (.ref r) (resD (due c1.toNat c2.toNat p LL)) → Q (.ref r) { s with heap := h', toks := tk' }) :
   wpAny (model Challenge.rw_pa0034_01.row.prog w) (At dp un fr gd) (call (.ref 220) [.ref a, .bytes #[c1, c2] tb, .int p tp]) Q E s := by
  rcases s with ⟨h₀, gs, dr, tk, os⟩
  dsimp only at *
  revert X
  k_fill
  intro X
  refine wpAny_call ?_
  k_dflt (refine' enterC (binds := [(Str.ofString "lists", .ref a), (Str.ofString "marks", .bytes #[c1, c2] tb), (Str.ofString "pads", .int p tp)]) ?k1 ?k2 ?k3 ?kA ?kB ?kS ?k4 ?k5 ?k6 ?kZ ?kD ?_ ?c2 ?c3 ?c4; (case k1 => k_asm); (case k2 => exact T.nolimit); (case k3 => k_is); (case kA => (conv => lhs; whnf)); (case kB => (conv => lhs; whnf)); (case kS => (conv => lhs; whnf)); (case k4 => k_is); (case k5 => exact room_of (by omega)); (case k6 => first | exact BindsTo.of_eq rfl | exact binds_K (by k_in) rfl (by k_is) rfl rfl rfl); (case kZ => exact rfl); (case kD => decide +kernel); (case c2 => exact rfl); (case c3 => exact rfl); (case c4 => exact rfl))
  intro L h₁ tkc cells F0 N0 Y0
  obtain ⟨co, rfl, hco⟩ := CellsAre.one Y0
  dsimp only at F0 N0
  (try dsimp only)
  have F1 : Fr h₀ L h₁ (wr [(Str.ofString "pads", .int p tp), (Str.ofString "lists", .ref a)] fun _ => none) := F0
  have hcd : co.data = .cell (some (.bytes #[c1, c2] tb)) := hco
  clear F0 Y0 hco
  obtain ⟨_, vs, bs, e, hl, hra⟩ := reads_list hr
  cases e
  obtain ⟨hlen, hat⟩ := readsAll_at hra
  rw [List.length_map] at hlen
  have hszn : (6000 : Nat) ≤ sizeLine := by decide
  refine wpAny_noRaise ?_
  repeat ((fail_if_success (with_reducible show wpAny _ _ (exec (Stmt.Assign _ (Expr.ListComp _ _ _ _) _) _) _ _ _)); (first | ((with_reducible show wpAny _ _ (subscriptTail _ _ _ _) _ _ _); k_dflt (refine' item_last ?k1 ?k2 ?k3 ?_; (case k1 => k_asm); (case k2 => k_mem); (case k3 => rfl))) | ((with_reducible show wpAny _ _ (PySem.call _ _ _) _ _ _); first | ((with_reducible show wpAny _ _ (PySem.call (Value.builtin "list.pop") _ _) _ _ _); k_dflt (refine' pop_K ?F ?N ?U ?z ?_; (case F => k_asm); (case N => k_asm); (case U => k_upd); (case z => assumption); intro h' F' N'; (try k_sweep))) | ((with_reducible show wpAny _ _ (PySem.call (Value.builtin "list.append") _ _) _ _ _); k_dflt (refine' append_K ?k1 ?k2 ?k3 ?_ ?z; (case k1 => k_asm); (case k2 => k_asm); (case k3 => k_upd); (case z => assumption); intro h' F' N'; (try k_sweep))) | ((with_reducible show wpAny _ _ (PySem.call (Value.ref _) _ _) _ _ _); ((with_reducible show wpAny _ _ (PySem.call (Value.ref 182) _ _) _ _ _); k_dflt (refine' signs_ctr ?k1 ?k2 ?k3 ?k4 ?x0 ?x1 ?x2 ?x3 ?_; (case k1 => exact Frag.In.keeps (by k_asm) (Fr.keep (by k_asm))); (case k2 => exact Top.keeps (by k_asm) (Fr.keep (by k_asm))); (case k3 => (((try simp only [Around.deeper]); omega))); (case k4 => (((try simp only [Around.deeper]); omega))); (case x0 => assumption); (case x1 => assumption); (case x2 => assumption); (case x3 => assumption); intro t' h' tk' st'; (have F' := fr_after (by k_asm) st'); (have N' := news_after (by k_asm) st'); clear st'; (try dsimp only); (try k_sweep))))) | ((with_reducible show wpAny _ _ (eval (Expr.Name _ _) _) _ _ _); ((with_reducible show wpAny _ _ (eval (Expr.Name _ _) (compEnvC _ _ _ _)) _ _ _); k_dflt (refine LCgL.ld_own (by k_asm) (by k_mem) (by assumption) (by assumption) ?_ (by assumption) (by assumption) (by assumption)))) | walk1))
  refine LCg.Assign_ListComp_U (F₀ := F1) rfl (by with_unfolding_all rfl) (by with_unfolding_all rfl) (by decide) rfl (by decide) rfl rfl rfl ?_
  (first | ((with_reducible show wpAny _ _ (subscriptTail _ _ _ _) _ _ _); k_dflt (refine' item_last ?k1 ?k2 ?k3 ?_; (case k1 => k_asm); (case k2 => k_mem); (case k3 => rfl))) | ((with_reducible show wpAny _ _ (PySem.call _ _ _) _ _ _); first | ((with_reducible show wpAny _ _ (PySem.call (Value.builtin "list.pop") _ _) _ _ _); k_dflt (refine' pop_K ?F ?N ?U ?z ?_; (case F => k_asm); (case N => k_asm); (case U => k_upd); (case z => assumption); intro h' F' N'; (try k_sweep))) | ((with_reducible show wpAny _ _ (PySem.call (Value.builtin "list.append") _ _) _ _ _); k_dflt (refine' append_K ?k1 ?k2 ?k3 ?_ ?z; (case k1 => k_asm); (case k2 => k_asm); (case k3 => k_upd); (case z => assumption); intro h' F' N'; (try k_sweep))) | ((with_reducible show wpAny _ _ (PySem.call (Value.ref _) _ _) _ _ _); ((with_reducible show wpAny _ _ (PySem.call (Value.ref 182) _ _) _ _ _); k_dflt (refine' signs_ctr ?k1 ?k2 ?k3 ?k4 ?x0 ?x1 ?x2 ?x3 ?_; (case k1 => exact Frag.In.keeps (by k_asm) (Fr.keep (by k_asm))); (case k2 => exact Top.keeps (by k_asm) (Fr.keep (by k_asm))); (case k3 => (((try simp only [Around.deeper]); omega))); (case k4 => (((try simp only [Around.deeper]); omega))); (case x0 => assumption); (case x1 => assumption); (case x2 => assumption); (case x3 => assumption); intro t' h' tk' st'; (have F' := fr_after (by k_asm) st'); (have N' := news_after (by k_asm) st'); clear st'; (try dsimp only); (try k_sweep))))) | ((with_reducible show wpAny _ _ (eval (Expr.Name _ _) _) _ _ _); ((with_reducible show wpAny _ _ (eval (Expr.Name _ _) (compEnvC _ _ _ _)) _ _ _); k_dflt (refine LCgL.ld_own (by k_asm) (by k_mem) (by assumption) (by assumption) ?_ (by assumption) (by assumption) (by assumption)))) | walk1)
  refine LCg.CompSrc.base rfl F1 N0 hl (by simp; omega) fun g => ?_
  refine inv_rest (its := vs) (Inv := fun i ys nw => (L + 1, co) ∈ nw ∧ LI c1.toNat c2.toNat (LL.take i) ys nw) ⟨.head _, .inl ⟨rfl, rfl⟩⟩ ?fin ?turn
  case turn =>
    intro i v I oI C oC D m₂ ys nw h2 tk2 E' hI hv hC hx F N off ne
    obtain ⟨hb, hS⟩ := hI
    obtain ⟨d, cs, hd, rv⟩ := hat i v hv
    obtain ⟨ws, hws, rfl⟩ : ∃ ws, LL[i]? = some ws ∧ wsD ws = d := by simpa [List.getElem?_map] using hd
    obtain ⟨pa, vvs, cs', rfl, hvl, hvr⟩ := reads_list rv
    obtain ⟨hlen2, hat2⟩ := readsAll_at hvr
    rw [List.length_map] at hlen2
    obtain ⟨hwn, hfw⟩ := hf ws (List.mem_of_getElem? hws)
    refine LCg.ListComp_U (F₀ := F) (by with_unfolding_all rfl) (by decide) rfl (by decide) rfl ?_
    refine LCgL.ld_own N (by k_mem) hC hx ?_
    refine LCg.CompSrc.base rfl F N hvl (by simp; omega) fun g => ?_
    refine inv_rest (its := vvs) (Inv := fun j zs nw' => ∃ TT, nw' = TT ++ ((I, oI) :: (C, oC) :: (D, LCg.lst ys) :: nw) ∧ (∀ p ∈ TT, p.1 ≠ I ∧ p.1 ≠ C ∧ p.1 ≠ D) ∧ SupA TT zs ((ws.take j).map fun w => prD (wP c1.toNat c2.toNat w))) ⟨[], rfl, by simp, SupA.nil⟩ ?fin2 ?turn2
    case turn2 =>
      intro j v2 I2 oI2 C2 oC2 D2 m₃ zs nw2 h3 tk3 E3 hI2 hv2 hC2 hx2 F2 N2 off2 ne2
      obtain ⟨TT, hnw, hT, hS2⟩ := hI2
      obtain ⟨d, cs, hd, rv⟩ := hat2 j v2 hv2
      obtain ⟨w', hws2, rfl⟩ : ∃ w, ws[j]? = some w ∧ wD w = d := by simpa [List.getElem?_map] using hd
      obtain ⟨pw, wvs, rfl, hwl, hwi⟩ := reads_intlist rv
      obtain ⟨hw1, hw2⟩ := hfw w' (List.mem_of_getElem? hws2)
      have hwl2 := hwl.at fun o e => F2.keep _ o e
      have hcm : (L + 1, co) ∈ nw2 := by rw [hnw]; exact List.mem_append_right _ (.tail _ (.tail _ (.tail _ hb)))
      clear F N F1
      iterate 9 (first | ((with_reducible show wpAny _ _ (subscriptTail _ _ _ _) _ _ _); k_dflt (refine' item_last ?k1 ?k2 ?k3 ?_; (case k1 => k_asm); (case k2 => k_mem); (case k3 => rfl))) | ((with_reducible show wpAny _ _ (PySem.call _ _ _) _ _ _); first | ((with_reducible show wpAny _ _ (PySem.call (Value.builtin "list.pop") _ _) _ _ _); k_dflt (refine' pop_K ?F ?N ?U ?z ?_; (case F => k_asm); (case N => k_asm); (case U => k_upd); (case z => assumption); intro h' F' N'; (try k_sweep))) | ((with_reducible show wpAny _ _ (PySem.call (Value.builtin "list.append") _ _) _ _ _); k_dflt (refine' append_K ?k1 ?k2 ?k3 ?_ ?z; (case k1 => k_asm); (case k2 => k_asm); (case k3 => k_upd); (case z => assumption); intro h' F' N'; (try k_sweep))) | ((with_reducible show wpAny _ _ (PySem.call (Value.ref _) _ _) _ _ _); ((with_reducible show wpAny _ _ (PySem.call (Value.ref 182) _ _) _ _ _); k_dflt (refine' signs_ctr ?k1 ?k2 ?k3 ?k4 ?x0 ?x1 ?x2 ?x3 ?_; (case k1 => exact Frag.In.keeps (by k_asm) (Fr.keep (by k_asm))); (case k2 => exact Top.keeps (by k_asm) (Fr.keep (by k_asm))); (case k3 => (((try simp only [Around.deeper]); omega))); (case k4 => (((try simp only [Around.deeper]); omega))); (case x0 => assumption); (case x1 => assumption); (case x2 => assumption); (case x3 => assumption); intro t' h' tk' st'; (have F' := fr_after (by k_asm) st'); (have N' := news_after (by k_asm) st'); clear st'; (try dsimp only); (try k_sweep))))) | ((with_reducible show wpAny _ _ (eval (Expr.Name _ _) _) _ _ _); ((with_reducible show wpAny _ _ (eval (Expr.Name _ _) (compEnvC _ _ _ _)) _ _ _); k_dflt (refine LCgL.ld_own (by k_asm) (by k_mem) (by assumption) (by assumption) ?_ (by assumption) (by assumption) (by assumption)))) | walk1)
      refine lcf_cell N2 (by rfl) (show (L + 1, co) ∈ _ from .tail _ (.tail _ (.tail _ hcm))) hcd ?_ (by rfl) (by rfl)
      (repeat' (first | ((with_reducible show wpAny _ _ (subscriptTail _ _ _ _) _ _ _); k_dflt (refine' item_last ?k1 ?k2 ?k3 ?_; (case k1 => k_asm); (case k2 => k_mem); (case k3 => rfl))) | ((with_reducible show wpAny _ _ (PySem.call _ _ _) _ _ _); first | ((with_reducible show wpAny _ _ (PySem.call (Value.builtin "list.pop") _ _) _ _ _); k_dflt (refine' pop_K ?F ?N ?U ?z ?_; (case F => k_asm); (case N => k_asm); (case U => k_upd); (case z => assumption); intro h' F' N'; (try k_sweep))) | ((with_reducible show wpAny _ _ (PySem.call (Value.builtin "list.append") _ _) _ _ _); k_dflt (refine' append_K ?k1 ?k2 ?k3 ?_ ?z; (case k1 => k_asm); (case k2 => k_asm); (case k3 => k_upd); (case z => assumption); intro h' F' N'; (try k_sweep))) | ((with_reducible show wpAny _ _ (PySem.call (Value.ref _) _ _) _ _ _); ((with_reducible show wpAny _ _ (PySem.call (Value.ref 182) _ _) _ _ _); k_dflt (refine' signs_ctr ?k1 ?k2 ?k3 ?k4 ?x0 ?x1 ?x2 ?x3 ?_; (case k1 => exact Frag.In.keeps (by k_asm) (Fr.keep (by k_asm))); (case k2 => exact Top.keeps (by k_asm) (Fr.keep (by k_asm))); (case k3 => (((try simp only [Around.deeper]); omega))); (case k4 => (((try simp only [Around.deeper]); omega))); (case x0 => assumption); (case x1 => assumption); (case x2 => assumption); (case x3 => assumption); intro t' h' tk' st'; (have F' := fr_after (by k_asm) st'); (have N' := news_after (by k_asm) st'); clear st'; (try dsimp only); (try k_sweep))))) | ((with_reducible show wpAny _ _ (eval (Expr.Name _ _) _) _ _ _); ((with_reducible show wpAny _ _ (eval (Expr.Name _ _) (compEnvC _ _ _ _)) _ _ _); k_dflt (refine LCgL.ld_own (by k_asm) (by k_mem) (by assumption) (by assumption) ?_ (by assumption) (by assumption) (by assumption)))) | (k_unfold; (try dsimp only)) | (k_end; wrow_close) | walk1 | (dsimp only; walk1) | (leave1; (try dsimp only))))
      rename_i t' _ _ T2 _ F' N' l1
      have al := allLt_mem l1.2.2.2
      have q : Sup ((T2, tupObj [.str (S (w'.map (sgn c1.toNat c2.toNat))) t', .none]) :: TT) (.ref T2) (prD (wP c1.toNat c2.toNat w')) :=
        Sup.tup ((SupA.nil.snoc (v := .str (S (w'.map (sgn c1.toNat c2.toNat))) t') Sup.str).snoc (v := .none) Sup.none) (.head _)
      refine LCg.CompEnd.intro F' N' ((T2, tupObj [.str (S (w'.map (sgn c1.toNat c2.toNat))) t', .none]) :: nw2) ((List.forall_mem_cons.mpr ⟨by k_mem, (List.forall_mem_cons.mpr ⟨by k_mem, (List.forall_mem_cons.mpr ⟨by k_mem, (List.forall_mem_cons.mpr ⟨by k_mem, (fun p hp => by repeat (first | exact hp | refine List.Mem.tail _ ?_))⟩)⟩)⟩)⟩)) ⟨⟨?_, ?_, ?_⟩, off2⟩ (.inl hvl) ⟨(T2, tupObj [.str (S (w'.map (sgn c1.toNat c2.toNat))) t', .none]) :: TT, by rw [hnw]; rfl, ?_, ?_⟩
      · show @Ne Nat T2 I2
        omega
      · show @Ne Nat T2 C2
        omega
      · show @Ne Nat T2 D2
        omega
      · intro p hp
        rcases List.mem_cons.mp hp with rfl | hp
        · have a1 : @LT.lt Nat _ I T2 := al (I, oI) (by rw [hnw]; exact List.mem_append_right _ (.head _))
          have a2 : @LT.lt Nat _ C T2 := al (C, oC) (by rw [hnw]; exact List.mem_append_right _ (.tail _ (.head _)))
          have a3 : @LT.lt Nat _ D T2 := al (D, LCg.lst ys) (by rw [hnw]; exact List.mem_append_right _ (.tail _ (.tail _ (.head _))))
          exact ⟨(by show @Ne Nat T2 I; omega), (by show @Ne Nat T2 C; omega), (by show @Ne Nat T2 D; omega)⟩
        · exact hT p hp
      · rw [List.take_add_one, hws2, List.map_append]
        exact (hS2.mono fun p hp => .tail _ hp).snoc q
    case fin2 =>
      intro zs nw2 hI2 D' h3 tk3 F' N' o1
      obtain ⟨TT, rfl, hT, hS2⟩ := hI2
      rw [hlen2, List.take_length] at hS2
      have b1 := off1_mem o1
      have sb : ∀ p ∈ (I, oI) :: (C, oC) :: (D, LCg.lst ys) :: (D', LCg.lst zs) :: (TT ++ nw), p ∈ (D', LCg.lst zs) :: (TT ++ ((I, oI) :: (C, oC) :: (D, LCg.lst ys) :: nw)) := by
        intro p hp
        simp only [List.mem_cons, List.mem_append] at hp ⊢
        rcases hp with h | h | h | h | h | h
        · exact .inr (.inr (.inl h))
        · exact .inr (.inr (.inr (.inl h)))
        · exact .inr (.inr (.inr (.inr (.inl h))))
        · exact .inl h
        · exact .inr (.inl h)
        · exact .inr (.inr (.inr (.inr (.inr h))))
      refine LCg.CompEnd.intro F' N' ((D', LCg.lst zs) :: (TT ++ nw)) sb (off3_of ?_) (.inl hl) ⟨.tail _ (List.mem_append_right _ hb), .inr ⟨LL.take i, ws, D', zs, TT ++ nw, ys, ?_, rfl, rfl, ?_, ?_, ?_⟩⟩
      · intro p hp
        rcases List.mem_cons.mp hp with rfl | hp
        · exact ⟨Ne.symm (b1 (I, oI) (List.mem_append_right _ (.head _))), Ne.symm (b1 (C, oC) (List.mem_append_right _ (.tail _ (.head _)))), Ne.symm (b1 (D, LCg.lst ys) (List.mem_append_right _ (.tail _ (.tail _ (.head _)))))⟩
        · rcases List.mem_append.mp hp with hp | hp
          · exact hT p hp
          · exact off.mem p hp
      · rw [List.take_add_one, hws]; rfl
      · intro p hp
        rcases List.mem_append.mp hp with hp | hp
        · exact b1 p (List.mem_append_left _ hp)
        · exact b1 p (List.mem_append_right _ (.tail _ (.tail _ (.tail _ hp))))
      · exact hS.sup.mono fun p hp => List.mem_append_right _ hp
      · exact hS2.mono fun p hp => List.mem_append_left _ hp
  case fin =>
    intro ys nw hI D h3 tk3 F N o1
    obtain ⟨hb, hS⟩ := hI
    rw [hlen, List.take_length] at hS
    have F3 : Fr h₀ L h3 (wr [(Str.ofString "due", Value.ref D), (Str.ofString "pads", .int p tp), (Str.ofString "lists", .ref a)] fun _ => none) := F
    clear F F1
    dsimp only
    by_cases hp0 : p = 0
    · subst hp0
      (repeat' (first | ((with_reducible show wpAny _ _ (subscriptTail _ _ _ _) _ _ _); k_dflt (refine' item_last ?k1 ?k2 ?k3 ?_; (case k1 => k_asm); (case k2 => k_mem); (case k3 => rfl))) | ((with_reducible show wpAny _ _ (PySem.call _ _ _) _ _ _); first | ((with_reducible show wpAny _ _ (PySem.call (Value.builtin "list.pop") _ _) _ _ _); k_dflt (refine' pop_K ?F ?N ?U ?z ?_; (case F => k_asm); (case N => k_asm); (case U => k_upd); (case z => assumption); intro h' F' N'; (try k_sweep))) | ((with_reducible show wpAny _ _ (PySem.call (Value.builtin "list.append") _ _) _ _ _); k_dflt (refine' append_K ?k1 ?k2 ?k3 ?_ ?z; (case k1 => k_asm); (case k2 => k_asm); (case k3 => k_upd); (case z => assumption); intro h' F' N'; (try k_sweep))) | ((with_reducible show wpAny _ _ (PySem.call (Value.ref _) _ _) _ _ _); ((with_reducible show wpAny _ _ (PySem.call (Value.ref 182) _ _) _ _ _); k_dflt (refine' signs_ctr ?k1 ?k2 ?k3 ?k4 ?x0 ?x1 ?x2 ?x3 ?_; (case k1 => exact Frag.In.keeps (by k_asm) (Fr.keep (by k_asm))); (case k2 => exact Top.keeps (by k_asm) (Fr.keep (by k_asm))); (case k3 => (((try simp only [Around.deeper]); omega))); (case k4 => (((try simp only [Around.deeper]); omega))); (case x0 => assumption); (case x1 => assumption); (case x2 => assumption); (case x3 => assumption); intro t' h' tk' st'; (have F' := fr_after (by k_asm) st'); (have N' := news_after (by k_asm) st'); clear st'; (try dsimp only); (try k_sweep))))) | ((with_reducible show wpAny _ _ (eval (Expr.Name _ _) _) _ _ _); ((with_reducible show wpAny _ _ (eval (Expr.Name _ _) (compEnvC _ _ _ _)) _ _ _); k_dflt (refine LCgL.ld_own (by k_asm) (by k_mem) (by assumption) (by assumption) ?_ (by assumption) (by assumption) (by assumption)))) | (k_unfold; (try dsimp only)) | (k_end; wrow_close) | walk1 | (dsimp only; walk1) | (leave1; (try dsimp only))))
      refine hret D ((D, LCg.lst ys) :: nw) _ _ F3.keep (fun p hp => ⟨(N p hp).1, (N p hp).2.2⟩) (Sup.list (vs := ys) (ds := (dueR c1.toNat c2.toNat LL).map prsD) ?_ (.head _))
      unfold dueR
      rw [List.map_map]
      exact hS.sup.mono fun p hp => .tail _ hp
    · obtain ⟨LL', ws', w', rfl⟩ := hL.resolve_left hp0
      obtain ⟨P', ws, Dl, zs, nw', ys', e1, rfl, rfl, ol, sy, sz⟩ : ∃ P' ws Dl zs nw' ys', LL' ++ [ws' ++ [w']] = P' ++ [ws] ∧ nw = (Dl, LCg.lst zs) :: nw' ∧ ys = ys' ++ [.ref Dl] ∧ (∀ p ∈ nw', p.1 ≠ Dl) ∧ SupA nw' ys' (P'.map fun ws => prsD (ws.map (wP c1.toNat c2.toNat))) ∧ SupA nw' zs (ws.map fun w => prD (wP c1.toNat c2.toNat w)) := by
        rcases hS with ⟨e, _⟩ | x
        · exact absurd (congrArg List.length e) (by simp)
        · exact x
      obtain ⟨rfl, e2⟩ := List.append_inj' e1 rfl
      obtain rfl := (List.cons.inj e2).1
      rw [List.map_append] at sz
      obtain ⟨zs', tv, rfl, sz', st'⟩ := sz.unsnoc fun p hp => (N p (.tail _ (.tail _ hp))).1
      obtain ⟨_, x0⟩ := st' h3 fun p hp => (N p (.tail _ (.tail _ hp))).1
      obtain ⟨ta, _, _, _, rfl, _, _⟩ := reads_pair x0
      have o2 : @Ne Nat Dl D := o1.1
      have hzl : zs'.length = ws'.length := by
        have := sz'.length fun p hp => (N p (.tail _ (.tail _ hp))).1
        simpa using this
      have hzw := (hf (ws' ++ [w']) (List.mem_append_right _ (.head _))).1
      simp only [List.length_append, List.length_singleton] at hzw
      have z1 : (zs' ++ [Value.ref ta]).toArray.toList.length ≤ sizeLine := by simp; omega
      have z2 : zs'.toArray.size ≤ sizeLine := by simp; omega
      have N3 : News h₀ L h3 ((D, W.listOf (ys' ++ [Value.ref Dl]).toArray (ys' ++ [Value.ref Dl]).length) :: (Dl, W.listOf (zs' ++ [Value.ref ta]).toArray (zs' ++ [Value.ref ta]).length) :: nw') := N
      clear N x0
      (repeat' (first | ((with_reducible show wpAny _ _ (subscriptTail _ _ _ _) _ _ _); k_dflt (refine' item_last ?k1 ?k2 ?k3 ?_; (case k1 => k_asm); (case k2 => k_mem); (case k3 => rfl))) | ((with_reducible show wpAny _ _ (PySem.call _ _ _) _ _ _); first | ((with_reducible show wpAny _ _ (PySem.call (Value.builtin "list.pop") _ _) _ _ _); k_dflt (refine' pop_K ?F ?N ?U ?z ?_; (case F => k_asm); (case N => k_asm); (case U => k_upd); (case z => assumption); intro h' F' N'; (try k_sweep))) | ((with_reducible show wpAny _ _ (PySem.call (Value.builtin "list.append") _ _) _ _ _); k_dflt (refine' append_K ?k1 ?k2 ?k3 ?_ ?z; (case k1 => k_asm); (case k2 => k_asm); (case k3 => k_upd); (case z => assumption); intro h' F' N'; (try k_sweep))) | ((with_reducible show wpAny _ _ (PySem.call (Value.ref _) _ _) _ _ _); ((with_reducible show wpAny _ _ (PySem.call (Value.ref 182) _ _) _ _ _); k_dflt (refine' signs_ctr ?k1 ?k2 ?k3 ?k4 ?x0 ?x1 ?x2 ?x3 ?_; (case k1 => exact Frag.In.keeps (by k_asm) (Fr.keep (by k_asm))); (case k2 => exact Top.keeps (by k_asm) (Fr.keep (by k_asm))); (case k3 => (((try simp only [Around.deeper]); omega))); (case k4 => (((try simp only [Around.deeper]); omega))); (case x0 => assumption); (case x1 => assumption); (case x2 => assumption); (case x3 => assumption); intro t' h' tk' st'; (have F' := fr_after (by k_asm) st'); (have N' := news_after (by k_asm) st'); clear st'; (try dsimp only); (try k_sweep))))) | ((with_reducible show wpAny _ _ (eval (Expr.Name _ _) _) _ _ _); ((with_reducible show wpAny _ _ (eval (Expr.Name _ _) (compEnvC _ _ _ _)) _ _ _); k_dflt (refine LCgL.ld_own (by k_asm) (by k_mem) (by assumption) (by assumption) ?_ (by assumption) (by assumption) (by assumption)))) | (k_unfold; (try dsimp only)) | (k_end; wrow_close) | walk1 | (dsimp only; walk1) | (leave1; (try dsimp only))))
      rename Fr _ _ _ _ => F; rename News _ _ _ _ => N
      obtain ⟨_, x1⟩ := st' _ fun p hp => (N p (.tail _ (.tail _ hp))).1
      obtain ⟨_, v2, tt, _, e3, ht, _⟩ := reads_pair x1
      cases e3
      refine item_tupleT (l := [.str (S (wP c1.toNat c2.toNat w').1) tt, v2]) (j := 0) ht (by decide) (by decide) rfl rfl ?_
      clear x1
      (repeat' (first | ((with_reducible show wpAny _ _ (subscriptTail _ _ _ _) _ _ _); k_dflt (refine' item_last ?k1 ?k2 ?k3 ?_; (case k1 => k_asm); (case k2 => k_mem); (case k3 => rfl))) | ((with_reducible show wpAny _ _ (PySem.call _ _ _) _ _ _); first | ((with_reducible show wpAny _ _ (PySem.call (Value.builtin "list.pop") _ _) _ _ _); k_dflt (refine' pop_K ?F ?N ?U ?z ?_; (case F => k_asm); (case N => k_asm); (case U => k_upd); (case z => assumption); intro h' F' N'; (try k_sweep))) | ((with_reducible show wpAny _ _ (PySem.call (Value.builtin "list.append") _ _) _ _ _); k_dflt (refine' append_K ?k1 ?k2 ?k3 ?_ ?z; (case k1 => k_asm); (case k2 => k_asm); (case k3 => k_upd); (case z => assumption); intro h' F' N'; (try k_sweep))) | ((with_reducible show wpAny _ _ (PySem.call (Value.ref _) _ _) _ _ _); ((with_reducible show wpAny _ _ (PySem.call (Value.ref 182) _ _) _ _ _); k_dflt (refine' signs_ctr ?k1 ?k2 ?k3 ?k4 ?x0 ?x1 ?x2 ?x3 ?_; (case k1 => exact Frag.In.keeps (by k_asm) (Fr.keep (by k_asm))); (case k2 => exact Top.keeps (by k_asm) (Fr.keep (by k_asm))); (case k3 => (((try simp only [Around.deeper]); omega))); (case k4 => (((try simp only [Around.deeper]); omega))); (case x0 => assumption); (case x1 => assumption); (case x2 => assumption); (case x3 => assumption); intro t' h' tk' st'; (have F' := fr_after (by k_asm) st'); (have N' := news_after (by k_asm) st'); clear st'; (try dsimp only); (try k_sweep))))) | ((with_reducible show wpAny _ _ (eval (Expr.Name _ _) _) _ _ _); ((with_reducible show wpAny _ _ (eval (Expr.Name _ _) (compEnvC _ _ _ _)) _ _ _); k_dflt (refine LCgL.ld_own (by k_asm) (by k_mem) (by assumption) (by assumption) ?_ (by assumption) (by assumption) (by assumption)))) | (k_unfold; (try dsimp only)) | (k_end; wrow_close) | walk1 | (dsimp only; walk1) | (leave1; (try dsimp only))))
      rename Fr _ _ _ _ => F'; rename News _ _ _ _ => N'
      rename_i tm _ _ _ T2 _ _
      rw [mul_eq (by omega) hp] at N'
      simp only [List.push_toArray] at N'
      refine hret D _ _ _ F'.keep (fun p hp => ⟨(N' p hp).1, (N' p hp).2.2⟩) ?_
      have hdue : due c1.toNat c2.toNat p (LL' ++ [ws' ++ [w']]) = dueR c1.toNat c2.toNat LL' ++ [ws'.map (wP c1.toNat c2.toNat) ++ [(w'.map (sgn c1.toNat c2.toNat), some (List.replicate (p - 1) 61))]] := by
        unfold due
        rw [if_neg hp0]
        simp
      rw [hdue]
      have q : Sup ((T2, tupObj [.str (S (w'.map (sgn c1.toNat c2.toNat))) tt, .str (S (List.replicate (p - 1) 61)) tm]) :: nw') (.ref T2) (prD (w'.map (sgn c1.toNat c2.toNat), some (List.replicate (p - 1) 61))) :=
        Sup.tup ((SupA.nil.snoc (v := .str (S (w'.map (sgn c1.toNat c2.toNat))) tt) Sup.str).snoc (v := .str (S (List.replicate (p - 1) 61)) tm) Sup.str) (.head _)
      refine Sup.list (vs := ys' ++ [.ref Dl]) (ds := (dueR c1.toNat c2.toNat LL' ++ _).map prsD) ?_ (.tail _ (.head _))
      rw [List.map_append]
      refine SupA.snoc ?_ (Sup.list (vs := zs' ++ [.ref T2]) (ds := (ws'.map (wP c1.toNat c2.toNat) ++ [(w'.map (sgn c1.toNat c2.toNat), some (List.replicate (p - 1) 61))]).map prD) ?_ (.tail _ (.tail _ (.head _))))
      · unfold dueR
        rw [List.map_map]
        exact sy.mono fun p hp => .tail _ (.tail _ (.tail _ hp))
      · rw [List.map_append, List.map_map]
        exact (sz'.mono fun p hp => .tail _ (.tail _ (.tail _ hp))).snoc (q.mono fun p hp => by rcases List.mem_cons.mp hp with rfl | hp; exact .head _; exact .tail _ (.tail _ (.tail _ hp)))
end Mine
end
section
open PySem PySem.W PyProof.Rows PySem.Calls
set_option Elab.async false
set_option maxRecDepth 100000
set_option maxHeartbeats 8000000
namespace Mine
theorem execs_as {M : Model} {A : Around} {Q : Flow → Shared → Prop} {E : Value → Shared → Prop} {s : Shared} {bo body : List Stmt} {env : Env} (e : bo = body) (h : wpAny M A (execs body env) Q E s) : wpAny M A (execs bo env) Q E s := e ▸ h
section
variable {prog : Program} {w : World} {A : Around} {s : Shared} {env : Env} {h₀ : Heap} {x : Str} {px : Pos} {body : List Stmt} {Q : Flow → Shared → Prop} {m₀ : Str → Option Value} {σ : Type}
theorem loop_valsL {l : Addr} {vs : List Value} (Led : σ → List (Addr × Obj)) (Nm : σ → List (Str × Value)) (inv : Nat → σ → Prop) (c₀ : σ) (hh : A.handled = none) (hx : env.kindOf x = some .local)
    (hp : (env.scope.kind == .class || (env.scope.kind == .module && env.locals != env.globals)) = false) {cnt : Nat} (hl : ∀ c, (l, W.listOf vs.toArray cnt) ∈ Led c)
    (F : Fr h₀ env.locals s.heap m₀) (N : News h₀ env.locals s.heap (Led c₀)) (hm : Bd m₀ (Nm c₀)) (hj : inv 0 c₀)
    (turn : ∀ I i v m₁ h tk oi c, vs[i]? = some v → Off I (Led c) → inv i c → Fr h₀ env.locals h (fun y => if y = x then some v else wr (Nm c) m₁ y) → News h₀ env.locals h ((I, oi) :: Led c) →
      wpAny (model prog w) A (execs body env) (StPost Led Nm (inv (i + 1)) h₀ env.locals I oi s Q) (fun _ _ => False) { s with heap := h, toks := tk })
    (done : ∀ c m h tk, inv vs.length c → Fr h₀ env.locals h (wr (Nm c) m) → News h₀ env.locals h (Led c) → Q .next { s with heap := h, toks := tk }) :
    wpAny (model prog w) A (pyIter (.ref l)) (fun it s₂ => codeAny (model prog w) A (.forLoop (.Name x px) it body [] env) (fun r s' => match r with | .ok f => Q f s' | .error _ => False) s₂) (fun _ _ => False) s := by
  refine loop_valsA Led Nm inv c₀ hh (N.isList (hl c₀)) ⟨_, fun c h m _ N' => (N' _ (hl c)).1⟩ F N hm hj (fun I i v m₁ h tk oi c hv ho hi F' N' => ?_) done
  exact wpAny_assign_Name (wpAny_storeName_local hx F'.ns (fun h₂ hn₂ hs₂ => turn I i v m₁ h₂ _ oi c hv ho hi (F'.set hn₂ hs₂) (N'.set hs₂)) hp)
theorem loop_range {r : Addr} {n : Nat} {t u v : Tok} (Led : σ → List (Addr × Obj)) (Nm : σ → List (Str × Value)) (inv : Nat → σ → Prop) (c₀ : σ) (hh : A.handled = none) (hx : env.kindOf x = some .local)
    (hp : (env.scope.kind == .class || (env.scope.kind == .module && env.locals != env.globals)) = false)
    (hr : IsRange s.heap r 0 n 1 t u v) (hsm : Builtin.Range.small 0 n 1 = true)
    (F : Fr h₀ env.locals s.heap m₀) (N : News h₀ env.locals s.heap (Led c₀)) (hm : Bd m₀ (Nm c₀)) (hj : inv 0 c₀)
    (turn : ∀ I i t m₁ h tk oi c, i < n → Off I (Led c) → inv i c → Fr h₀ env.locals h (fun y => if y = x then some (.int ((i : Nat) : Int) t) else wr (Nm c) m₁ y) → News h₀ env.locals h ((I, oi) :: Led c) →
      wpAny (model prog w) A (execs body env) (StPost Led Nm (inv (i + 1)) h₀ env.locals I oi s Q) (fun _ _ => False) { s with heap := h, toks := tk })
    (done : ∀ c m h tk, inv n c → Fr h₀ env.locals h (wr (Nm c) m) → News h₀ env.locals h (Led c) → Q .next { s with heap := h, toks := tk }) :
    wpAny (model prog w) A (pyIter (.ref r)) (fun it s₂ => codeAny (model prog w) A (.forLoop (.Name x px) it body [] env) (fun r s' => match r with | .ok f => Q f s' | .error _ => False) s₂) (fun _ _ => False) s := by
  refine wpAny_pyIter_range hr hsm ?_
  have W := LCg.range_walks (prog := prog) (w := w) (I := s.heap.objs.size) hh 0 n
  have hn : Builtin.Range.rangeSize 0 n 1 = (n : Int) := by rw [rangeSize_one]; split <;> omega
  refine for_W (ax := s.heap.objs.size + 1) W (fun i m nx => ∃ c, nx = Led c ∧ Bd m (Nm c) ∧ inv i c) hx hp (Nat.ne_of_lt F.ns.lt) (next_is_new F) (fun b hb => .inl (List.mem_singleton.mp hb)) (fun hm => absurd (List.mem_singleton.mp hm) (Nat.succ_ne_self _)) (by show IsRangeIter _ _ _ _ _; rw [hn]; simpa using Heap.get?_push_size _ rfl) (fun i h hst => ⟨_, hst⟩) (F.push _)
    (fun p hp => ⟨Heap.get?_push_of_some _ (N p hp).1, (N p hp).2⟩) (fun p hp => Nat.ne_of_lt (Heap.lt_size (N p hp).1)) ⟨c₀, rfl, hm, hj⟩ (Nat.ne_of_gt (Nat.lt_succ_of_lt F.ns.lt)) ?_ ?_
  · rintro i v m₁ nx h tk oi hi ⟨t, rfl⟩ hoff ⟨c, rfl, hb, hi'⟩ F' N'
    rw [Int.zero_add] at F'
    refine wpAny_mono (turn _ i t m₁ h tk oi c hi (Off.of hoff) hi' (fr_wr _ hb.all F') N') (fun f s₂ q => ?_) fun _ _ e => e
    have fin : StEnd Led Nm (inv (i + 1)) h₀ env.locals s.heap.objs.size oi s s₂ → TurnEnd h₀ env.locals s.heap.objs.size oi (fun m nx => ∃ c, nx = Led c ∧ Bd m (Nm c) ∧ inv (i + 1) c) s s₂ := by
      rintro ⟨c', h', tk', m', rfl, F'', N'', ho, hb', hi'⟩
      exact ⟨h', tk', m', Led c', rfl, F'', N'', ho.all, c', rfl, hb', hi'⟩
    cases f with
    | ret v => exact q
    | brk => exact q
    | next => exact fin q
    | cont => exact fin q
  · rintro m nx h tk ⟨c, rfl, hb, hi⟩ F' N'
    exact done c m h tk hi (fr_wr' _ hb.all F') N'
end
theorem sup_listO {r : List (Addr × Obj)} {a : Addr} {ds : List PyData} {h : Heap} (lo : LObj r) (s : Sup r (.ref a) (.list ds)) (q : ∀ p ∈ r, h.get? p.1 = some p.2) : ∃ vs n, (a, W.listOf vs.toArray n) ∈ r ∧ SupA r vs ds := by
  obtain ⟨o, vs, n, hm, _, hd, hS⟩ := sup_list s q
  obtain ⟨vs2, n2, e⟩ := lo _ hm
  cases e
  cases hd
  exact ⟨vs.toList, n, by simpa using hm, hS⟩
end Mine
end
section
open PySem PySem.W PyProof.Rows PySem.Calls
set_option Elab.async false
set_option maxRecDepth 100000
set_option maxHeartbeats 8000000
namespace Mine
theorem law_as {prog : Program} {w : World} {A : Around} {Q : Flow → Shared → Prop} {E : Value → Shared → Prop} {s : Shared} {bo body : List Stmt} {so sc : Scope} {L fa : Addr} {cd : Value} {nm : Str} (e2 : so = sc) (e : bo = body)
    (h : wpAny (model prog w) (A.deeper (envOfC nm sc L fa cd)) (execs body (envOfC nm sc L fa cd)) Q E s) : wpAny (model prog w) (A.deeper (envOfC nm so L fa cd)) (execs bo (envOfC nm so L fa cd)) Q E s := by subst e; subst e2; exact h
noncomputable def kput (cm : Int) (first : Bool) (K w : List Int) : List Int := (if K = [] then [] else K ++ [if first then cm else 125 - cm]) ++ w
noncomputable def kword (cm : Int) : Bool → List Int → List (List Int) → List Int
  | _, K, [] => K
  | f, K, w :: r => kword cm false (kput cm f K w) r
noncomputable def kall (cm : Int) (LL : List (List (List Int))) : List Int := LL.foldl (fun K ws => kword cm true K ws) []
theorem kword_take {cm : Int} : ∀ {ws : List (List Int)} {f : Bool} {K : List Int} {j : Nat} {w : List Int}, ws[j]? = some w → kword cm f K (ws.take (j + 1)) = kput cm (f && j == 0) (kword cm f K (ws.take j)) w
  | [], _, _, _, _, h => by simp at h
  | v :: ws, f, K, 0, w, h => by
    obtain rfl : v = w := by simpa using h
    simp [kword]
  | v :: ws, f, K, j + 1, w, h => by
    have := kword_take (cm := cm) (f := false) (K := kput cm f K v) (j := j) (w := w) (ws := ws) (by simpa using h)
    simpa [kword] using this
theorem kput_z {cm : Int} {j : Nat} {k : Int} {K w : List Int} (h : j = 0) : kput cm (true && j == 0) (k :: K) w = (k :: K) ++ [cm] ++ w := by subst h; simp [kput]
theorem kput_s {cm : Int} {j : Nat} {k : Int} {K w : List Int} (h : j ≠ 0) : kput cm (true && j == 0) (k :: K) w = (k :: K) ++ [125 - cm] ++ w := by simp [kput, h]
theorem kall_take {cm : Int} {LL : List (List (List Int))} {i : Nat} {ws : List (List Int)} (h : LL[i]? = some ws) : kall cm (LL.take (i + 1)) = kword cm true (kall cm (LL.take i)) ws := by
  rw [List.take_add_one, h]
  simp [kall]
noncomputable def lsum (LL : List (List (List Int))) : Nat := (LL.map fun ws => (ws.map fun w => w.length + 1).sum).sum
theorem kword_len {cm : Int} : ∀ {ws : List (List Int)} {f : Bool} {K : List Int}, (kword cm f K ws).length ≤ K.length + (ws.map fun w => w.length + 1).sum
  | [], _, _ => by simp [kword]
  | w :: ws, f, K => by
    have := kword_len (cm := cm) (ws := ws) (f := false) (K := kput cm f K w)
    have h2 : (kput cm f K w).length ≤ K.length + (w.length + 1) := by
      unfold kput
      split <;> simp_all <;> omega
    simp only [kword, List.map_cons, List.sum_cons]
    omega
theorem kall_len {cm : Int} (LL : List (List (List Int))) : (kall cm LL).length ≤ lsum LL := by
  have key : ∀ (LL : List (List (List Int))) (K : List Int), (LL.foldl (fun K ws => kword cm true K ws) K).length ≤ K.length + lsum LL := by
    intro LL
    induction LL with
    | nil => intro K; simp [lsum]
    | cons ws LL ih =>
      intro K
      have h1 := ih (kword cm true K ws)
      have h2 := kword_len (cm := cm) (ws := ws) (f := true) (K := K)
      simp only [List.foldl_cons, lsum, List.map_cons, List.sum_cons] at h1 ⊢
      omega
  have := key LL []
  rw [List.length_nil, Nat.zero_add] at this
  exact this
theorem sum_take_le {α : Type} {f : α → Nat} : ∀ (l : List α) (j : Nat), ((l.take j).map f).sum ≤ (l.map f).sum
  | [], _ => by simp
  | a :: l, 0 => by simp
  | a :: l, j + 1 => by
    have := sum_take_le (f := f) l j
    simp only [List.take_succ_cons, List.map_cons, List.sum_cons]
    omega
theorem sum_mem_le {α : Type} {f : α → Nat} {a : α} : ∀ {l : List α}, a ∈ l → f a ≤ (l.map f).sum
  | b :: l, h => by
    rcases List.mem_cons.mp h with rfl | h
    · simp
    · have := sum_mem_le (f := f) h
      simp only [List.map_cons, List.sum_cons]
      omega
theorem sum_ge_len {l : List (List Int)} : l.length ≤ (l.map fun w => w.length + 1).sum := by
  induction l with
  | nil => simp
  | cons a l ih => simp only [List.map_cons, List.sum_cons, List.length_cons]; omega
theorem lsum_ws {LL : List (List (List Int))} {ws : List (List Int)} (h : ws ∈ LL) : ws.length ≤ lsum LL ∧ ∀ w ∈ ws, w.length + 1 ≤ lsum LL := by
  have h1 := sum_mem_le (f := fun ws : List (List Int) => (ws.map fun w => w.length + 1).sum) h
  have h2 := sum_ge_len (l := ws)
  refine ⟨Nat.le_trans h2 h1, fun w hw => ?_⟩
  exact Nat.le_trans (sum_mem_le (f := fun w : List Int => w.length + 1) hw) h1
theorem kmid_len {cm : Int} {LL : List (List (List Int))} {i : Nat} {ws : List (List Int)} (h : LL[i]? = some ws) (j : Nat) : (kword cm true (kall cm (LL.take i)) (ws.take j)).length ≤ lsum LL := by
  have h1 := kword_len (cm := cm) (ws := ws.take j) (f := true) (K := kall cm (LL.take i))
  have h2 := kall_len (cm := cm) (LL.take i)
  have h3 := sum_take_le (f := fun w : List Int => w.length + 1) ws j
  have h4 := sum_take_le (f := fun ws : List (List Int) => (ws.map fun w => w.length + 1).sum) LL (i + 1)
  rw [List.take_add_one, h, List.map_append, List.sum_append] at h4
  simp only [Option.toList_some, List.map_cons, List.map_nil, List.sum_cons, List.sum_nil, Nat.add_zero] at h4
  unfold lsum at h2 ⊢
  omega
theorem item_at {prog : Program} {w : World} {A : Around} {E : Value → Shared → Prop} {s : Shared} {l : Addr} {value slice : Expr} {vs : List Value} {x : Value} {j : Nat} {u : Tok} {Q : Value → Shared → Prop} (hl : s.heap.IsList l vs.toArray) (hx : vs[j]? = some x) (hj : j < 1000000) (h : Q x s)
    (hs : subscripted slice false (.ref l) (.int (j : Int) u) = operate [.ref l, .int (j : Int) u] (getItem (.ref l) (.int (j : Int) u)) := by with_unfolding_all rfl) :
    wpAny (model prog w) A (subscriptTail value slice (.ref l) (.int (j : Int) u)) Q E s :=
  tail_any hl.typeIs slot_list_getitem.lookup (wpAny_getItem_list hl (by omega) (by omega) (x := x) (by simpa using hx) h) hs
theorem cellName {prog : Program} {w : World} {A : Around} {Q : Value → Shared → Prop} {E : Value → Shared → Prop} {s : Shared} {g : Heap} {L fa : Addr} {cd v : Value} {nm x : Str} {sc : Scope} {pos : Pos} {news : List (Addr × Obj)} {o : Obj} (N : News g L s.heap news) (hm : (L + 1, o) ∈ news) (hd : o.data = .cell (some v)) (h : Q v s)
    (hk : (envOfC nm sc L fa cd).scope.kind = .function) (hx : (envOfC nm sc L fa cd).kindOf x = some .cell) (hc : (envOfC nm sc L fa cd).cells.lookup x = some (L + 1)) (hb : (x == ("__debug__" : Str)) = false := by decide) :
    wpAny (model prog w) A (eval (.Name x pos) (envOfC nm sc L fa cd)) Q E s := wpAny_Name (wpAny_loadName_cell hk hx hc ⟨o, N.get hm, hd⟩ h) hb
local macro_rules | `(tactic| k_all) => `(tactic| assumption)
theorem pushC {A : Around} {base h₀ h : Heap} {outer : List Env} {L a : Addr} {m : Str → Option Value} {name : Str} {scope : Scope} {cd : Value}
    (K : Below A base outer h₀) (F : Fr h₀ L h m) (hk : scope.kind = .function) : Below (A.deeper (envOfC name scope L a cd)) base (envOfC name scope L a cd :: outer) h := by
  have hnew : base.get? L = none := by
    cases hq : base.get? L with
    | none => rfl
    | some o => exact absurd (Nat.lt_of_lt_of_le (Heap.lt_size (K.stays L o hq)) F.above) (Nat.lt_irrefl _)
  refine ⟨Around.frames_deeper K.stack, fun b o e => F.keep b o (K.stays b o e), ?_⟩
  exact .cons (by show scope.kind ≠ .module; rw [hk]; decide) rfl F.ns hnew (K.frames.of_keeps fun b o e _ => ⟨o, F.keep b o e, rfl⟩)
theorem dicts_L {g h : Heap} {nm : Str} {sc : Scope} {L fa : Addr} {cd : Value} {m : Str → Option Value} (F : Fr g L h m) : KtsDicts (([envOfC nm sc L fa cd] : List Env).filterMap (·.frame)) h := fun b hb => by
  obtain rfl : b = L := List.mem_singleton.mp hb
  obtain ⟨oL, es, ep, hL, hLd, _⟩ := F.ns
  exact ⟨oL, es, ep, hL, hLd⟩
theorem fr_turn {g h g' : Heap} {nm : Str} {sc : Scope} {L fa : Addr} {cd : Value} {m : Str → Option Value} (F : Fr g L h m) (T : KtsTurn (([envOfC nm sc L fa cd] : List Env).filterMap (·.frame)) h g') : Fr g L g' m := by
  obtain ⟨oL, es, ep, hL, hLd, r⟩ := F.ns
  obtain ⟨sl, e⟩ := T.frame L _ hL (List.mem_singleton.mpr rfl)
  exact ⟨⟨_, es, ep, e, hLd, r⟩, fun b o e => T.other b o (F.keep b o e) fun hm => absurd (List.mem_singleton.mp hm) (Nat.ne_of_lt (Nat.lt_of_lt_of_le (Heap.lt_size e) F.above)), F.above⟩
theorem news_turn {g h g' : Heap} {nm : Str} {sc : Scope} {L fa : Addr} {cd : Value} {news : List (Addr × Obj)} (N : News g L h news) (T : KtsTurn (([envOfC nm sc L fa cd] : List Env).filterMap (·.frame)) h g') : News g L g' news := fun p hp =>
  ⟨T.other _ _ (N p hp).1 fun hm => (N p hp).2.1 (List.mem_singleton.mp hm), (N p hp).2⟩
theorem tail3 {w : World} {dp un : Nat} {fr : Option (List Env)} {gd : Option (List Code)} {mean : ExcName → Option Value} {pp : Program} {ll : List Str} {mg mb : Str → Option Value} {Q : Flow → Shared → Prop} {E : Value → Shared → Prop} {g h : Heap} {gs : Array GenState} {dr : Drawn} {tk : Nat} {os : OsState}
   {L fa la : Addr} {cd : Value} {m : Str → Option Value} {led rest : List (Addr × Obj)} {co : Obj} {LL : List (List (List Int))} {cl : List Nat} {tc tm tp tb : Tok} {p : Nat} {cm : Int} {c1 c2 : UInt8}
   (X : (hp w.params).In g) (T : Top pp ll mean mg mb g) (K : Below (At dp un fr gd) g [] g) (hdp : dp + 6 < 400) (hu : un + 20 * 6 < 4000)
   (F : Fr g L h m) (hb : Bd m [(Str.ofString "clean", .str (S cl) tc), (Str.ofString "lists", .ref la), (Str.ofString "comma", .int cm tm), (Str.ofString "pads", .int p tp)])
   (N : News g L h led) (hco : (L + 1, co) ∈ led) (hcd : co.data = .cell (some (.bytes #[c1, c2] tb))) (hrest : ∀ p ∈ rest, p ∈ led) (lo : LObj rest) (hS : Sup rest (.ref la) (lD LL)) (hz : lsum LL < 1000)
   (h128 : ∀ c ∈ cl, c < 128) (hcl : cl.length < 1000) (hp3 : p < 3) (hf : ∀ f ∈ kall cm LL, 0 ≤ f ∧ f < 64)
   (hA : ARead (tr (mkt c1 c2 43 47) (bts cl)) ↔ ¬ (((kall cm LL).length : Int).fmod 4 = 1 ∨ (1 < ((kall cm LL).length : Int).fmod 4 ∧ ((kall cm LL).length : Int).fmod 4 + p < 4)))
   (hE : ARead (tr (mkt c1 c2 43 47) (bts cl)) → (afold (bI (tr (mkt c1 c2 43 47) (bts cl)))).1 = (octs (kall cm LL)).1)
   (hret : ∀ h' tk' m', Fr g L h' m' → News g L h' led → Q (.ret (.bool true)) { heap := h', gens := gs, drawn := dr, toks := tk', os := os }) :
   wpAny (model Challenge.rw_pa0034_01.row.prog w) ((At dp un fr gd).deeper (envOfC (Str.ofString "law") (fS 36) L fa cd)) (execs ((fB 36).drop 17) (envOfC (Str.ofString "law") (fS 36) L fa cd)) Q E { heap := h, gens := gs, drawn := dr, toks := tk, os := os } := by
  revert X
  k_fill
  intro X
  refine' law_as ?kS ?kB ?_
  case kS => (conv => lhs; whnf)
  case kB => (conv => lhs; whnf)
  have F1 := fr_wr' _ hb.all F
  clear F hb
  refine wpAny_noRaise ?_
  repeat ((fail_if_success (with_reducible show wpAny _ _ (exec (Stmt.For _ _ _ _ _) _) _ _ _)); (first | ((with_reducible show wpAny _ _ (PySem.call _ _ _) _ _ _); first | ((with_reducible show wpAny _ _ (PySem.call (Value.builtin "list.append") _ _) _ _ _); k_dflt (refine' append_K ?k1 ?k2 ?k3 ?_ ?z; (case k1 => k_asm); (case k2 => k_asm); (case k3 => k_upd); (case z => assumption); intro h' F' N'; (try k_sweep))) | ((with_reducible show wpAny _ _ (PySem.call (Value.type _) _ _) _ _ _); k_dflt (refine' range1_rows ?k1 ?k2 ?_; (case k1 => k_asm); (case k2 => k_asm); intro h' tk' t' u' v' R' F' N' st')) | ((with_reducible show wpAny _ _ (PySem.call (Value.builtin "len") _ _) _ _ _); k_dflt (refine' call_len_list ?k1 ?k2 ?_; (case k1 => assumption); (case k2 => simp; omega)))) | ((with_reducible show wpAny _ _ (eval (Expr.Name _ _) _) _ _ _); ((with_reducible show wpAny _ _ (eval (Expr.Name (Str.ofString "marks") _) (envOfC _ _ _ _ _)) _ _ _); k_dflt (refine' cellName ?k1 ?k2 ?k3 ?_ ?a ?b ?c; (case k1 => k_asm); (case k2 => repeat (first | assumption | refine List.Mem.tail _ ?_)); (case k3 => assumption); (case a => exact rfl); (case b => exact rfl); (case c => exact rfl)))) | walk1))
  rename_i kd _ l1 _ F N'


  have F2 : Fr g L _ (wr [(Str.ofString "kept", .ref kd), (Str.ofString "clean", .str (S cl) tc), (Str.ofString "lists", .ref la), (Str.ofString "comma", .int cm tm), (Str.ofString "pads", .int p tp)] m) := F
  clear F
  have hkl : ∀ p ∈ led, p.1 ≠ kd := fun p hp => Nat.ne_of_lt (l1 p hp)
  obtain ⟨vs, cnt, hmv, hvs⟩ := sup_listO lo hS fun p hp => (N' p (.tail _ (hrest p hp))).1
  refine For_start ?_
  (first | ((with_reducible show wpAny _ _ (PySem.call _ _ _) _ _ _); first | ((with_reducible show wpAny _ _ (PySem.call (Value.builtin "list.append") _ _) _ _ _); k_dflt (refine' append_K ?k1 ?k2 ?k3 ?_ ?z; (case k1 => k_asm); (case k2 => k_asm); (case k3 => k_upd); (case z => assumption); intro h' F' N'; (try k_sweep))) | ((with_reducible show wpAny _ _ (PySem.call (Value.type _) _ _) _ _ _); k_dflt (refine' range1_rows ?k1 ?k2 ?_; (case k1 => k_asm); (case k2 => k_asm); intro h' tk' t' u' v' R' F' N' st')) | ((with_reducible show wpAny _ _ (PySem.call (Value.builtin "len") _ _) _ _ _); k_dflt (refine' call_len_list ?k1 ?k2 ?_; (case k1 => assumption); (case k2 => simp; omega)))) | ((with_reducible show wpAny _ _ (eval (Expr.Name _ _) _) _ _ _); ((with_reducible show wpAny _ _ (eval (Expr.Name (Str.ofString "marks") _) (envOfC _ _ _ _ _)) _ _ _); k_dflt (refine' cellName ?k1 ?k2 ?k3 ?_ ?a ?b ?c; (case k1 => k_asm); (case k2 => repeat (first | assumption | refine List.Mem.tail _ ?_)); (case k3 => assumption); (case a => exact rfl); (case b => exact rfl); (case c => exact rfl)))) | walk1)
  refine loop_valsL (cnt := cnt) (fun c : List Value × Nat => (kd, W.listOf c.1.toArray c.2) :: led) (fun _ => [(Str.ofString "kept", .ref kd), (Str.ofString "clean", .str (S cl) tc), (Str.ofString "lists", .ref la), (Str.ofString "comma", .int cm tm), (Str.ofString "pads", .int p tp)]) (fun i c => IntsAre c.1 (kall cm (LL.take i)))
    ([], 0) rfl rfl rfl (fun c => .tail _ (hrest _ hmv)) F2 N' ⟨rfl, rfl, rfl, rfl, rfl, trivial⟩ .nil ?turn ?done
  case turn =>
    rintro I i v m₁ h2 tk1 oi ⟨kvs, kc⟩ hv hoff O F3 N3
    clear F2 N'
    have q : ∀ p ∈ rest, h2.get? p.1 = some p.2 := fun p hp => (N3 p (.tail _ (.tail _ (hrest p hp)))).1
    obtain ⟨d, hd, sv⟩ := supA_get q hvs hv
    obtain ⟨ws, hws, rfl⟩ : ∃ ws, LL[i]? = some ws ∧ wsD ws = d := by simpa [List.getElem?_map] using hd
    obtain ⟨as, rv⟩ := sv h2 q
    obtain ⟨pa, _, _, rfl, _, _⟩ := reads_list rv
    obtain ⟨wvs, wn, hwm, hwS⟩ := sup_listO lo sv q
    have hwl : wvs.length = ws.length := by
      have := hwS.length q
      simpa using this
    clear rv
    obtain ⟨hw1, hw2⟩ := lsum_ws (List.mem_of_getElem? hws)
    have F4 : Fr g L h2 (wr [(Str.ofString "words", .ref pa), (Str.ofString "kept", .ref kd), (Str.ofString "clean", .str (S cl) tc), (Str.ofString "lists", .ref la), (Str.ofString "comma", .int cm tm), (Str.ofString "pads", .int p tp)] m₁) := F3
    have N4 : News g L h2 ((I, oi) :: (kd, W.listOf kvs.toArray kc) :: led) := N3
    clear F3 N3
    have hwm2 := hrest _ hwm
    refine gen_postL ?_
    intro R hR
    have hwl2 := N4.isList (.tail _ (.tail _ hwm2))
    repeat ((fail_if_success (with_reducible show wpAny _ _ (exec (Stmt.For _ _ _ _ _) _) _ _ _)); (first | ((with_reducible show wpAny _ _ (PySem.call _ _ _) _ _ _); first | ((with_reducible show wpAny _ _ (PySem.call (Value.builtin "list.append") _ _) _ _ _); k_dflt (refine' append_K ?k1 ?k2 ?k3 ?_ ?z; (case k1 => k_asm); (case k2 => k_asm); (case k3 => k_upd); (case z => assumption); intro h' F' N'; (try k_sweep))) | ((with_reducible show wpAny _ _ (PySem.call (Value.type _) _ _) _ _ _); k_dflt (refine' range1_rows ?k1 ?k2 ?_; (case k1 => k_asm); (case k2 => k_asm); intro h' tk' t' u' v' R' F' N' st')) | ((with_reducible show wpAny _ _ (PySem.call (Value.builtin "len") _ _) _ _ _); k_dflt (refine' call_len_list ?k1 ?k2 ?_; (case k1 => assumption); (case k2 => simp; omega)))) | ((with_reducible show wpAny _ _ (eval (Expr.Name _ _) _) _ _ _); ((with_reducible show wpAny _ _ (eval (Expr.Name (Str.ofString "marks") _) (envOfC _ _ _ _ _)) _ _ _); k_dflt (refine' cellName ?k1 ?k2 ?k3 ?_ ?a ?b ?c; (case k1 => k_asm); (case k2 => repeat (first | assumption | refine List.Mem.tail _ ?_)); (case k3 => assumption); (case a => exact rfl); (case b => exact rfl); (case c => exact rfl)))) | walk1))
    refine For_start ?_
    repeat ((fail_if_success (with_reducible show wpAny _ _ (pyIter _) _ _ _)); (first | ((with_reducible show wpAny _ _ (PySem.call _ _ _) _ _ _); first | ((with_reducible show wpAny _ _ (PySem.call (Value.builtin "list.append") _ _) _ _ _); k_dflt (refine' append_K ?k1 ?k2 ?k3 ?_ ?z; (case k1 => k_asm); (case k2 => k_asm); (case k3 => k_upd); (case z => assumption); intro h' F' N'; (try k_sweep))) | ((with_reducible show wpAny _ _ (PySem.call (Value.type _) _ _) _ _ _); k_dflt (refine' range1_rows ?k1 ?k2 ?_; (case k1 => k_asm); (case k2 => k_asm); intro h' tk' t' u' v' R' F' N' st')) | ((with_reducible show wpAny _ _ (PySem.call (Value.builtin "len") _ _) _ _ _); k_dflt (refine' call_len_list ?k1 ?k2 ?_; (case k1 => assumption); (case k2 => simp; omega)))) | ((with_reducible show wpAny _ _ (eval (Expr.Name _ _) _) _ _ _); ((with_reducible show wpAny _ _ (eval (Expr.Name (Str.ofString "marks") _) (envOfC _ _ _ _ _)) _ _ _); k_dflt (refine' cellName ?k1 ?k2 ?k3 ?_ ?a ?b ?c; (case k1 => k_asm); (case k2 => repeat (first | assumption | refine List.Mem.tail _ ?_)); (case k3 => assumption); (case a => exact rfl); (case b => exact rfl); (case c => exact rfl)))) | walk1))
    rename Fr _ _ _ _ => F5; rename News _ _ _ _ => N5; rename IsRange _ _ _ _ _ _ _ _ => R5
    have R6 : IsRange _ _ 0 ((wvs.length : Nat) : Int) 1 _ _ _ := R5
    have N6 : News g L _ ((kd, W.listOf kvs.toArray kc) :: (I, oi) :: led) := fun p hp => N5 p ((List.forall_mem_cons.mpr ⟨by k_mem, (List.forall_mem_cons.mpr ⟨by k_mem, (fun p hp => by repeat (first | exact hp | refine List.Mem.tail _ ?_))⟩)⟩) p hp)
    refine loop_range (fun c : List Value × Nat => (kd, W.listOf c.1.toArray c.2) :: (I, oi) :: led) (fun _ => [(Str.ofString "words", .ref pa), (Str.ofString "kept", .ref kd), (Str.ofString "clean", .str (S cl) tc), (Str.ofString "lists", .ref la), (Str.ofString "comma", .int cm tm), (Str.ofString "pads", .int p tp)])
      (fun j c => IntsAre c.1 (kword cm true (kall cm (LL.take i)) (ws.take j))) (kvs, kc) rfl rfl rfl R6 ?sm F5 N6 ⟨rfl, rfl, rfl, rfl, rfl, rfl, trivial⟩ O ?turn2 ?done2
    case sm => exact small_one (by omega) (by omega) (by omega) (by omega)
    case turn2 =>
      clear F5 N5 R5 N6 R6
      rintro J j jt m₂ h3 tk2 oj ⟨kvs2, kc2⟩ hj hoff2 O2 F5 N5
      obtain ⟨w', hw'⟩ : ∃ w, ws[j]? = some w := ⟨_, List.getElem?_eq_getElem (by omega)⟩
      obtain ⟨x, hx⟩ : ∃ x, wvs[j]? = some x := ⟨_, List.getElem?_eq_getElem (by omega)⟩
      have q3 : ∀ p ∈ rest, h3.get? p.1 = some p.2 := fun p hp => (N5 p (.tail _ (.tail _ (.tail _ (hrest p hp))))).1
      obtain ⟨d2, hd2, sx⟩ := supA_get q3 hwS hx
      obtain rfl : wD w' = d2 := by simpa [List.getElem?_map, hw'] using hd2
      obtain ⟨_, rx⟩ := sx h3 q3
      obtain ⟨pw, _, _, rfl, _, _⟩ := reads_list rx
      obtain ⟨xs, xn, hxm, hxS⟩ := sup_listO lo sx q3
      obtain ⟨_, rxs⟩ := hxS h3 q3
      have hxi : IntsAre xs w' := reads_ints rxs
      have hxl := hw2 w' (List.mem_of_getElem? hw')
      have hxl2 := hxi.length
      clear rx rxs hd2 hxS
      have hlen := kmid_len (cm := cm) hws j
      have htk := kword_take (cm := cm) (f := true) (K := kall cm (LL.take i)) hw'
      generalize kword cm true (kall cm (LL.take i)) (ws.take j) = KK at O2 hlen htk
      have F6 : Fr g L h3 (wr [(Str.ofString "place", .int j jt), (Str.ofString "words", .ref pa), (Str.ofString "kept", .ref kd), (Str.ofString "clean", .str (S cl) tc), (Str.ofString "lists", .ref la), (Str.ofString "comma", .int cm tm), (Str.ofString "pads", .int p tp)] m₂) := F5
      have N6 : News g L h3 ((J, oj) :: (kd, W.listOf kvs2.toArray kc2) :: (I, oi) :: led) := N5
      have O3 : IntsAre kvs2 KK := O2
      clear F5 N5
      obtain ⟨o1, o2, o5'⟩ := hoff2
      obtain ⟨o4, o5⟩ := hoff
      have e1 : @Ne Nat kd J := o1
      have e2 : @Ne Nat I J := o2
      have e3 : @Ne Nat kd I := o4
      have e1' : @Ne Nat J kd := Ne.symm e1
      have e2' : @Ne Nat J I := Ne.symm e2
      have e3' : @Ne Nat I kd := Ne.symm e3
      clear o1 o2 o4
      refine gen_postL ?_
      intro R2 hR2
      have hkl2 : ∀ p ∈ (I, oi) :: led, p.1 ≠ kd := List.forall_mem_cons.mpr ⟨Ne.symm e3, hkl⟩
      have hO := O3.length
      have h6 : (6000 : Nat) ≤ sizeLine := by decide
      have hzz : kvs2.toArray.size ≤ sizeLine := by
        simp; omega
      repeat ((fail_if_success (with_reducible show wpAny _ _ (compareOp _ _ _) _ _ _)); (first | ((with_reducible show wpAny _ _ (PySem.call _ _ _) _ _ _); first | ((with_reducible show wpAny _ _ (PySem.call (Value.builtin "list.append") _ _) _ _ _); k_dflt (refine' append_K ?k1 ?k2 ?k3 ?_ ?z; (case k1 => k_asm); (case k2 => k_asm); (case k3 => k_upd); (case z => assumption); intro h' F' N'; (try k_sweep))) | ((with_reducible show wpAny _ _ (PySem.call (Value.type _) _ _) _ _ _); k_dflt (refine' range1_rows ?k1 ?k2 ?_; (case k1 => k_asm); (case k2 => k_asm); intro h' tk' t' u' v' R' F' N' st')) | ((with_reducible show wpAny _ _ (PySem.call (Value.builtin "len") _ _) _ _ _); k_dflt (refine' call_len_list ?k1 ?k2 ?_; (case k1 => assumption); (case k2 => simp; omega)))) | ((with_reducible show wpAny _ _ (eval (Expr.Name _ _) _) _ _ _); ((with_reducible show wpAny _ _ (eval (Expr.Name (Str.ofString "marks") _) (envOfC _ _ _ _ _)) _ _ _); k_dflt (refine' cellName ?k1 ?k2 ?k3 ?_ ?a ?b ?c; (case k1 => k_asm); (case k2 => repeat (first | assumption | refine List.Mem.tail _ ?_)); (case k3 => assumption); (case a => exact rfl); (case b => exact rfl); (case c => exact rfl)))) | walk1))
      rename Fr _ _ _ _ => F6; rename News _ _ _ _ => N6
      rename_i nl _ l2
      obtain ⟨_, rk⟩ := (Sup.list (r := [(kd, W.listOf kvs2.toArray kc2)]) (SupA.ints O3) (.head _)) _ fun p hp => by rw [List.mem_singleton.mp hp]; exact (N6 _ (.tail _ (.tail _ (.head _)))).1
      refine ne_dataH rk (reads_list_at (N6 _ (.head _)).1 rfl rfl ReadsAll.nil) (shaped_wD KK) rfl (by (try simp only [Around.deeper]); (show _ < 9900); omega) ?_
      clear rk
      have N7 : News g L _ ((J, oj) :: (kd, W.listOf kvs2.toArray kc2) :: (I, oi) :: led) := fun p hp => N6 p (.tail _ hp)
      clear N6
      cases KK with
      | nil =>
        have ev : (!PyData.eqv (.list (([] : List Int).map PyData.int)) (.list [])) = false := rfl
        rw [ev]
        (repeat' (first | ((with_reducible show wpAny _ _ (PySem.call _ _ _) _ _ _); first | ((with_reducible show wpAny _ _ (PySem.call (Value.builtin "list.append") _ _) _ _ _); k_dflt (refine' append_K ?k1 ?k2 ?k3 ?_ ?z; (case k1 => k_asm); (case k2 => k_asm); (case k3 => k_upd); (case z => assumption); intro h' F' N'; (try k_sweep))) | ((with_reducible show wpAny _ _ (PySem.call (Value.type _) _ _) _ _ _); k_dflt (refine' range1_rows ?k1 ?k2 ?_; (case k1 => k_asm); (case k2 => k_asm); intro h' tk' t' u' v' R' F' N' st')) | ((with_reducible show wpAny _ _ (PySem.call (Value.builtin "len") _ _) _ _ _); k_dflt (refine' call_len_list ?k1 ?k2 ?_; (case k1 => assumption); (case k2 => simp; omega)))) | ((with_reducible show wpAny _ _ (eval (Expr.Name _ _) _) _ _ _); ((with_reducible show wpAny _ _ (eval (Expr.Name (Str.ofString "marks") _) (envOfC _ _ _ _ _)) _ _ _); k_dflt (refine' cellName ?k1 ?k2 ?k3 ?_ ?a ?b ?c; (case k1 => k_asm); (case k2 => repeat (first | assumption | refine List.Mem.tail _ ?_)); (case k3 => assumption); (case a => exact rfl); (case b => exact rfl); (case c => exact rfl)))) | (k_unfold; (try dsimp only)) | (k_end; wrow_close) | walk1 | (dsimp only; walk1) | (leave1; (try dsimp only))))
        all_goals (
          rename Fr _ _ _ _ => F8; rename News _ _ _ _ => N8
          (try simp only [List.push_toArray] at N8)
          refine item_at (N8.isList (.tail _ (.tail _ (.tail _ hwm2)))) hx (by omega) ?_
          (repeat' (first | ((with_reducible show wpAny _ _ (PySem.call _ _ _) _ _ _); first | ((with_reducible show wpAny _ _ (PySem.call (Value.builtin "list.append") _ _) _ _ _); k_dflt (refine' append_K ?k1 ?k2 ?k3 ?_ ?z; (case k1 => k_asm); (case k2 => k_asm); (case k3 => k_upd); (case z => assumption); intro h' F' N'; (try k_sweep))) | ((with_reducible show wpAny _ _ (PySem.call (Value.type _) _ _) _ _ _); k_dflt (refine' range1_rows ?k1 ?k2 ?_; (case k1 => k_asm); (case k2 => k_asm); intro h' tk' t' u' v' R' F' N' st')) | ((with_reducible show wpAny _ _ (PySem.call (Value.builtin "len") _ _) _ _ _); k_dflt (refine' call_len_list ?k1 ?k2 ?_; (case k1 => assumption); (case k2 => simp; omega)))) | ((with_reducible show wpAny _ _ (eval (Expr.Name _ _) _) _ _ _); ((with_reducible show wpAny _ _ (eval (Expr.Name (Str.ofString "marks") _) (envOfC _ _ _ _ _)) _ _ _); k_dflt (refine' cellName ?k1 ?k2 ?k3 ?_ ?a ?b ?c; (case k1 => k_asm); (case k2 => repeat (first | assumption | refine List.Mem.tail _ ?_)); (case k3 => assumption); (case a => exact rfl); (case b => exact rfl); (case c => exact rfl)))) | (k_unfold; (try dsimp only)) | (k_end; wrow_close) | walk1 | (dsimp only; walk1) | (leave1; (try dsimp only))))
          refine extend_in (own := [(J, oj)]) (n2 := xn) (its2 := xs.toArray) F8 N8 (apart1 (Ne.symm e1)) hkl2 (N8 _ (.tail _ (.tail _ (.tail _ (hrest _ hxm))))).1 (fun h9 n9 F9 N9 => ?_) (by simp; omega)
          (repeat' (first | ((with_reducible show wpAny _ _ (PySem.call _ _ _) _ _ _); first | ((with_reducible show wpAny _ _ (PySem.call (Value.builtin "list.append") _ _) _ _ _); k_dflt (refine' append_K ?k1 ?k2 ?k3 ?_ ?z; (case k1 => k_asm); (case k2 => k_asm); (case k3 => k_upd); (case z => assumption); intro h' F' N'; (try k_sweep))) | ((with_reducible show wpAny _ _ (PySem.call (Value.type _) _ _) _ _ _); k_dflt (refine' range1_rows ?k1 ?k2 ?_; (case k1 => k_asm); (case k2 => k_asm); intro h' tk' t' u' v' R' F' N' st')) | ((with_reducible show wpAny _ _ (PySem.call (Value.builtin "len") _ _) _ _ _); k_dflt (refine' call_len_list ?k1 ?k2 ?_; (case k1 => assumption); (case k2 => simp; omega)))) | ((with_reducible show wpAny _ _ (eval (Expr.Name _ _) _) _ _ _); ((with_reducible show wpAny _ _ (eval (Expr.Name (Str.ofString "marks") _) (envOfC _ _ _ _ _)) _ _ _); k_dflt (refine' cellName ?k1 ?k2 ?k3 ?_ ?a ?b ?c; (case k1 => k_asm); (case k2 => repeat (first | assumption | refine List.Mem.tail _ ?_)); (case k3 => assumption); (case a => exact rfl); (case b => exact rfl); (case c => exact rfl)))) | (k_unfold; (try dsimp only)) | (k_end; wrow_close) | walk1 | (dsimp only; walk1) | (leave1; (try dsimp only))))
          refine hR2 _ _ ?_
          refine ⟨(_, n9), _, _, _, rfl, F9, N9, ⟨e1, e2, o5'⟩, ⟨rfl, rfl, rfl, rfl, rfl, rfl, trivial⟩, ?_⟩)
        show IntsAre (kvs2 ++ xs) _
        rw [htk]
        exact O3.append hxi
      | cons k0 KK =>
        have ev : (!PyData.eqv (.list ((k0 :: KK).map PyData.int)) (.list [])) = true := rfl
        rw [ev]
        (repeat' (first | ((with_reducible show wpAny _ _ (PySem.call _ _ _) _ _ _); first | ((with_reducible show wpAny _ _ (PySem.call (Value.builtin "list.append") _ _) _ _ _); k_dflt (refine' append_K ?k1 ?k2 ?k3 ?_ ?z; (case k1 => k_asm); (case k2 => k_asm); (case k3 => k_upd); (case z => assumption); intro h' F' N'; (try k_sweep))) | ((with_reducible show wpAny _ _ (PySem.call (Value.type _) _ _) _ _ _); k_dflt (refine' range1_rows ?k1 ?k2 ?_; (case k1 => k_asm); (case k2 => k_asm); intro h' tk' t' u' v' R' F' N' st')) | ((with_reducible show wpAny _ _ (PySem.call (Value.builtin "len") _ _) _ _ _); k_dflt (refine' call_len_list ?k1 ?k2 ?_; (case k1 => assumption); (case k2 => simp; omega)))) | ((with_reducible show wpAny _ _ (eval (Expr.Name _ _) _) _ _ _); ((with_reducible show wpAny _ _ (eval (Expr.Name (Str.ofString "marks") _) (envOfC _ _ _ _ _)) _ _ _); k_dflt (refine' cellName ?k1 ?k2 ?k3 ?_ ?a ?b ?c; (case k1 => k_asm); (case k2 => repeat (first | assumption | refine List.Mem.tail _ ?_)); (case k3 => assumption); (case a => exact rfl); (case b => exact rfl); (case c => exact rfl)))) | (k_unfold; (try dsimp only)) | (k_end; wrow_close) | walk1 | (dsimp only; walk1) | (leave1; (try dsimp only))))
        all_goals (
          rename Fr _ _ _ _ => F8; rename News _ _ _ _ => N8
          (try simp only [List.push_toArray] at N8)
          refine item_at (N8.isList (.tail _ (.tail _ (.tail _ hwm2)))) hx (by omega) ?_
          (repeat' (first | ((with_reducible show wpAny _ _ (PySem.call _ _ _) _ _ _); first | ((with_reducible show wpAny _ _ (PySem.call (Value.builtin "list.append") _ _) _ _ _); k_dflt (refine' append_K ?k1 ?k2 ?k3 ?_ ?z; (case k1 => k_asm); (case k2 => k_asm); (case k3 => k_upd); (case z => assumption); intro h' F' N'; (try k_sweep))) | ((with_reducible show wpAny _ _ (PySem.call (Value.type _) _ _) _ _ _); k_dflt (refine' range1_rows ?k1 ?k2 ?_; (case k1 => k_asm); (case k2 => k_asm); intro h' tk' t' u' v' R' F' N' st')) | ((with_reducible show wpAny _ _ (PySem.call (Value.builtin "len") _ _) _ _ _); k_dflt (refine' call_len_list ?k1 ?k2 ?_; (case k1 => assumption); (case k2 => simp; omega)))) | ((with_reducible show wpAny _ _ (eval (Expr.Name _ _) _) _ _ _); ((with_reducible show wpAny _ _ (eval (Expr.Name (Str.ofString "marks") _) (envOfC _ _ _ _ _)) _ _ _); k_dflt (refine' cellName ?k1 ?k2 ?k3 ?_ ?a ?b ?c; (case k1 => k_asm); (case k2 => repeat (first | assumption | refine List.Mem.tail _ ?_)); (case k3 => assumption); (case a => exact rfl); (case b => exact rfl); (case c => exact rfl)))) | (k_unfold; (try dsimp only)) | (k_end; wrow_close) | walk1 | (dsimp only; walk1) | (leave1; (try dsimp only))))
          refine extend_in (own := [(J, oj)]) (n2 := xn) (its2 := xs.toArray) F8 N8 (apart1 (Ne.symm e1)) hkl2 (N8 _ (.tail _ (.tail _ (.tail _ (hrest _ hxm))))).1 (fun h9 n9 F9 N9 => ?_) (by simp; omega)
          (repeat' (first | ((with_reducible show wpAny _ _ (PySem.call _ _ _) _ _ _); first | ((with_reducible show wpAny _ _ (PySem.call (Value.builtin "list.append") _ _) _ _ _); k_dflt (refine' append_K ?k1 ?k2 ?k3 ?_ ?z; (case k1 => k_asm); (case k2 => k_asm); (case k3 => k_upd); (case z => assumption); intro h' F' N'; (try k_sweep))) | ((with_reducible show wpAny _ _ (PySem.call (Value.type _) _ _) _ _ _); k_dflt (refine' range1_rows ?k1 ?k2 ?_; (case k1 => k_asm); (case k2 => k_asm); intro h' tk' t' u' v' R' F' N' st')) | ((with_reducible show wpAny _ _ (PySem.call (Value.builtin "len") _ _) _ _ _); k_dflt (refine' call_len_list ?k1 ?k2 ?_; (case k1 => assumption); (case k2 => simp; omega)))) | ((with_reducible show wpAny _ _ (eval (Expr.Name _ _) _) _ _ _); ((with_reducible show wpAny _ _ (eval (Expr.Name (Str.ofString "marks") _) (envOfC _ _ _ _ _)) _ _ _); k_dflt (refine' cellName ?k1 ?k2 ?k3 ?_ ?a ?b ?c; (case k1 => k_asm); (case k2 => repeat (first | assumption | refine List.Mem.tail _ ?_)); (case k3 => assumption); (case a => exact rfl); (case b => exact rfl); (case c => exact rfl)))) | (k_unfold; (try dsimp only)) | (k_end; wrow_close) | walk1 | (dsimp only; walk1) | (leave1; (try dsimp only))))
          refine hR2 _ _ ?_
          refine ⟨(_, n9), _, _, _, rfl, F9, N9, ⟨e1, e2, o5'⟩, ⟨rfl, rfl, rfl, rfl, rfl, rfl, trivial⟩, ?_⟩)
        · show IntsAre (kvs2 ++ [_] ++ xs) _
          rw [htk, kput_z (by omega)]
          exact (ints_push O3).append hxi
        · show IntsAre (kvs2 ++ [_] ++ xs) _
          rw [htk, kput_s (by omega)]
          exact (ints_push O3).append hxi
    case done2 =>
      rintro ⟨kvs2, kc2⟩ m₂ h3 tk2 O2 F5 N5
      clear R5 R6 N6
      rw [hwl, List.take_length, ← kall_take hws] at O2
      (repeat' (first | ((with_reducible show wpAny _ _ (PySem.call _ _ _) _ _ _); first | ((with_reducible show wpAny _ _ (PySem.call (Value.builtin "list.append") _ _) _ _ _); k_dflt (refine' append_K ?k1 ?k2 ?k3 ?_ ?z; (case k1 => k_asm); (case k2 => k_asm); (case k3 => k_upd); (case z => assumption); intro h' F' N'; (try k_sweep))) | ((with_reducible show wpAny _ _ (PySem.call (Value.type _) _ _) _ _ _); k_dflt (refine' range1_rows ?k1 ?k2 ?_; (case k1 => k_asm); (case k2 => k_asm); intro h' tk' t' u' v' R' F' N' st')) | ((with_reducible show wpAny _ _ (PySem.call (Value.builtin "len") _ _) _ _ _); k_dflt (refine' call_len_list ?k1 ?k2 ?_; (case k1 => assumption); (case k2 => simp; omega)))) | ((with_reducible show wpAny _ _ (eval (Expr.Name _ _) _) _ _ _); ((with_reducible show wpAny _ _ (eval (Expr.Name (Str.ofString "marks") _) (envOfC _ _ _ _ _)) _ _ _); k_dflt (refine' cellName ?k1 ?k2 ?k3 ?_ ?a ?b ?c; (case k1 => k_asm); (case k2 => repeat (first | assumption | refine List.Mem.tail _ ?_)); (case k3 => assumption); (case a => exact rfl); (case b => exact rfl); (case c => exact rfl)))) | (k_unfold; (try dsimp only)) | (k_end; wrow_close) | walk1 | (dsimp only; walk1) | (leave1; (try dsimp only))))
      refine hR _ _ ?_
      refine ⟨(kvs2, kc2), _, _, _, rfl, F5, fun p hp => N5 p ((List.forall_mem_cons.mpr ⟨by k_mem, (List.forall_mem_cons.mpr ⟨by k_mem, (fun p hp => by repeat (first | exact hp | refine List.Mem.tail _ ?_))⟩)⟩) p hp), hoff, ⟨rfl, rfl, rfl, rfl, rfl, trivial⟩, O2⟩
  case done =>
    rintro ⟨kvs, kc⟩ m₂ h2 tk1 O F3 N3
    have hvl : vs.length = LL.length := by
      have := hvs.length fun p hp => (N3 p (.tail _ (hrest p hp))).1
      simpa using this
    rw [hvl, List.take_length] at O
    have hkl := kall_len (cm := cm) LL
    clear F2 N'
    have F4 : Fr g L h2 (wr [(Str.ofString "kept", .ref kd), (Str.ofString "clean", .str (S cl) tc), (Str.ofString "lists", .ref la), (Str.ofString "comma", .int cm tm), (Str.ofString "pads", .int p tp)] m₂) := F3
    have N4 : News g L h2 ((kd, W.listOf kvs.toArray kc) :: led) := N3
    clear F3 N3
    repeat ((fail_if_success (with_reducible show wpAny _ _ (PySem.call (Value.ref 210) _ _) _ _ _)); (first | ((with_reducible show wpAny _ _ (PySem.call _ _ _) _ _ _); first | ((with_reducible show wpAny _ _ (PySem.call (Value.builtin "list.append") _ _) _ _ _); k_dflt (refine' append_K ?k1 ?k2 ?k3 ?_ ?z; (case k1 => k_asm); (case k2 => k_asm); (case k3 => k_upd); (case z => assumption); intro h' F' N'; (try k_sweep))) | ((with_reducible show wpAny _ _ (PySem.call (Value.type _) _ _) _ _ _); k_dflt (refine' range1_rows ?k1 ?k2 ?_; (case k1 => k_asm); (case k2 => k_asm); intro h' tk' t' u' v' R' F' N' st')) | ((with_reducible show wpAny _ _ (PySem.call (Value.builtin "len") _ _) _ _ _); k_dflt (refine' call_len_list ?k1 ?k2 ?_; (case k1 => assumption); (case k2 => simp; omega)))) | ((with_reducible show wpAny _ _ (eval (Expr.Name _ _) _) _ _ _); ((with_reducible show wpAny _ _ (eval (Expr.Name (Str.ofString "marks") _) (envOfC _ _ _ _ _)) _ _ _); k_dflt (refine' cellName ?k1 ?k2 ?k3 ?_ ?a ?b ?c; (case k1 => k_asm); (case k2 => repeat (first | assumption | refine List.Mem.tail _ ?_)); (case k3 => assumption); (case a => exact rfl); (case b => exact rfl); (case c => exact rfl)))) | walk1))
    refine told_ctr (X.keeps F4.keep) (T.keeps F4.keep) (by (try simp only [Around.deeper]); omega) (by (try simp only [Around.deeper]); omega) (pushC K F4 rfl) X T (dicts_L F4) h128 hcl (fun t' h' tk' st ok => ?_) (fun g' h' tk' no Tn st => ?_)
    · have F5 := fr_after F4 st
      have N5 := news_after N4 st
      clear F4 N4
      (repeat' (first | ((with_reducible show wpAny _ _ (PySem.call _ _ _) _ _ _); first | ((with_reducible show wpAny _ _ (PySem.call (Value.builtin "list.append") _ _) _ _ _); k_dflt (refine' append_K ?k1 ?k2 ?k3 ?_ ?z; (case k1 => k_asm); (case k2 => k_asm); (case k3 => k_upd); (case z => assumption); intro h' F' N'; (try k_sweep))) | ((with_reducible show wpAny _ _ (PySem.call (Value.type _) _ _) _ _ _); k_dflt (refine' range1_rows ?k1 ?k2 ?_; (case k1 => k_asm); (case k2 => k_asm); intro h' tk' t' u' v' R' F' N' st')) | ((with_reducible show wpAny _ _ (PySem.call (Value.builtin "len") _ _) _ _ _); k_dflt (refine' call_len_list ?k1 ?k2 ?_; (case k1 => assumption); (case k2 => simp; omega)))) | ((with_reducible show wpAny _ _ (eval (Expr.Name _ _) _) _ _ _); ((with_reducible show wpAny _ _ (eval (Expr.Name (Str.ofString "marks") _) (envOfC _ _ _ _ _)) _ _ _); k_dflt (refine' cellName ?k1 ?k2 ?k3 ?_ ?a ?b ?c; (case k1 => k_asm); (case k2 => repeat (first | assumption | refine List.Mem.tail _ ?_)); (case k3 => assumption); (case a => exact rfl); (case b => exact rfl); (case c => exact rfl)))) | (k_unfold; (try dsimp only)) | (k_end; wrow_close) | walk1 | (dsimp only; walk1) | (leave1; (try dsimp only))))
      have ne := hA.mp ok
      refine read_ctr (X.keeps F5.keep) (T.keeps F5.keep) (by (try simp only [Around.deeper]); omega) (by (try simp only [Around.deeper]); omega) (N5.isList (.head _)) O (by omega) hf (by omega) (fun c => absurd c ne) (fun _ t2 h3 tk3 st2 => ?_)
      have F6 := fr_after F5 st2
      have N6 := news_after N5 st2
      rw [hE ok]
      clear F5 N5
      (repeat' (first | ((with_reducible show wpAny _ _ (PySem.call _ _ _) _ _ _); first | ((with_reducible show wpAny _ _ (PySem.call (Value.builtin "list.append") _ _) _ _ _); k_dflt (refine' append_K ?k1 ?k2 ?k3 ?_ ?z; (case k1 => k_asm); (case k2 => k_asm); (case k3 => k_upd); (case z => assumption); intro h' F' N'; (try k_sweep))) | ((with_reducible show wpAny _ _ (PySem.call (Value.type _) _ _) _ _ _); k_dflt (refine' range1_rows ?k1 ?k2 ?_; (case k1 => k_asm); (case k2 => k_asm); intro h' tk' t' u' v' R' F' N' st')) | ((with_reducible show wpAny _ _ (PySem.call (Value.builtin "len") _ _) _ _ _); k_dflt (refine' call_len_list ?k1 ?k2 ?_; (case k1 => assumption); (case k2 => simp; omega)))) | ((with_reducible show wpAny _ _ (eval (Expr.Name _ _) _) _ _ _); ((with_reducible show wpAny _ _ (eval (Expr.Name (Str.ofString "marks") _) (envOfC _ _ _ _ _)) _ _ _); k_dflt (refine' cellName ?k1 ?k2 ?k3 ?_ ?a ?b ?c; (case k1 => k_asm); (case k2 => repeat (first | assumption | refine List.Mem.tail _ ?_)); (case k3 => assumption); (case a => exact rfl); (case b => exact rfl); (case c => exact rfl)))) | (k_unfold; (try dsimp only)) | (k_end; wrow_close) | walk1 | (dsimp only; walk1) | (leave1; (try dsimp only))))
      rw [beq_self_eq_true]
      exact hret _ _ _ F6 fun p hp => N6 p (.tail _ hp)
    · have F5 := fr_after (fr_turn F4 Tn) st
      have N5 := news_after (news_turn N4 Tn) st
      clear F4 N4
      (repeat' (first | ((with_reducible show wpAny _ _ (PySem.call _ _ _) _ _ _); first | ((with_reducible show wpAny _ _ (PySem.call (Value.builtin "list.append") _ _) _ _ _); k_dflt (refine' append_K ?k1 ?k2 ?k3 ?_ ?z; (case k1 => k_asm); (case k2 => k_asm); (case k3 => k_upd); (case z => assumption); intro h' F' N'; (try k_sweep))) | ((with_reducible show wpAny _ _ (PySem.call (Value.type _) _ _) _ _ _); k_dflt (refine' range1_rows ?k1 ?k2 ?_; (case k1 => k_asm); (case k2 => k_asm); intro h' tk' t' u' v' R' F' N' st')) | ((with_reducible show wpAny _ _ (PySem.call (Value.builtin "len") _ _) _ _ _); k_dflt (refine' call_len_list ?k1 ?k2 ?_; (case k1 => assumption); (case k2 => simp; omega)))) | ((with_reducible show wpAny _ _ (eval (Expr.Name _ _) _) _ _ _); ((with_reducible show wpAny _ _ (eval (Expr.Name (Str.ofString "marks") _) (envOfC _ _ _ _ _)) _ _ _); k_dflt (refine' cellName ?k1 ?k2 ?k3 ?_ ?a ?b ?c; (case k1 => k_asm); (case k2 => repeat (first | assumption | refine List.Mem.tail _ ?_)); (case k3 => assumption); (case a => exact rfl); (case b => exact rfl); (case c => exact rfl)))) | (k_unfold; (try dsimp only)) | (k_end; wrow_close) | walk1 | (dsimp only; walk1) | (leave1; (try dsimp only))))
      have c : _ := Decidable.byContradiction fun q => no (hA.mpr q)
      refine read_ctr (X.keeps F5.keep) (T.keeps F5.keep) (by (try simp only [Around.deeper]); omega) (by (try simp only [Around.deeper]); omega) (N5.isList (.head _)) O (by omega) hf (by omega) (fun _ h3 tk3 st2 => ?_) (fun q => absurd c q)
      have F6 := fr_after F5 st2
      have N6 := news_after N5 st2
      clear F5 N5
      (repeat' (first | ((with_reducible show wpAny _ _ (PySem.call _ _ _) _ _ _); first | ((with_reducible show wpAny _ _ (PySem.call (Value.builtin "list.append") _ _) _ _ _); k_dflt (refine' append_K ?k1 ?k2 ?k3 ?_ ?z; (case k1 => k_asm); (case k2 => k_asm); (case k3 => k_upd); (case z => assumption); intro h' F' N'; (try k_sweep))) | ((with_reducible show wpAny _ _ (PySem.call (Value.type _) _ _) _ _ _); k_dflt (refine' range1_rows ?k1 ?k2 ?_; (case k1 => k_asm); (case k2 => k_asm); intro h' tk' t' u' v' R' F' N' st')) | ((with_reducible show wpAny _ _ (PySem.call (Value.builtin "len") _ _) _ _ _); k_dflt (refine' call_len_list ?k1 ?k2 ?_; (case k1 => assumption); (case k2 => simp; omega)))) | ((with_reducible show wpAny _ _ (eval (Expr.Name _ _) _) _ _ _); ((with_reducible show wpAny _ _ (eval (Expr.Name (Str.ofString "marks") _) (envOfC _ _ _ _ _)) _ _ _); k_dflt (refine' cellName ?k1 ?k2 ?k3 ?_ ?a ?b ?c; (case k1 => k_asm); (case k2 => repeat (first | assumption | refine List.Mem.tail _ ?_)); (case k3 => assumption); (case a => exact rfl); (case b => exact rfl); (case c => exact rfl)))) | (k_unfold; (try dsimp only)) | (k_end; wrow_close) | walk1 | (dsimp only; walk1) | (leave1; (try dsimp only))))
      exact hret _ _ _ F6 fun p hp => N6 p (.tail _ hp)
end Mine
end
section
open PySem PySem.W PyProof.Rows PySem.Calls
set_option Elab.async false
set_option maxRecDepth 100000
set_option maxHeartbeats 8000000
namespace Mine
/-! the plain law: signs, octets and what is read back -/
noncomputable def sg (c1 c2 : UInt8) (w : List Int) : List Nat := w.map (sgn c1.toNat c2.toNat)
noncomputable def clean0 (c1 c2 : UInt8) (LL : List (List (List Int))) : List Nat := jn [44, 32] (LL.map fun ws => jn [59, 32] (ws.map (sg c1 c2)))
noncomputable def cleanT (c1 c2 : UInt8) (p : Nat) (LL : List (List (List Int))) : List Nat := if p = 0 then clean0 c1 c2 LL else clean0 c1 c2 LL ++ [61, 34] ++ List.replicate (p - 1) 61 ++ [34]
noncomputable def Mk (c1 c2 : UInt8) (cm : Int) : Prop := (c1 = 59 ∧ c2 = 44 ∧ cm = 63) ∨ (c1 = 44 ∧ c2 = 59 ∧ cm = 62)
noncomputable def trI (c1 c2 : UInt8) (c : Nat) : Int := (((mkt c1 c2 43 47).getD c.toUInt8.toNat c.toUInt8).toNat : Int)
theorem bI_tr (c1 c2 : UInt8) (l : List Nat) : bI (tr (mkt c1 c2 43 47) (bts l)) = l.map (trI c1 c2) := by
  simp only [bI, tr, bts, List.map_toArray, List.map_map]
  rfl
theorem fin64 {P : Int → Prop} (h : ∀ f : Fin 64, P (f.val : Int)) {f : Int} (h0 : 0 ≤ f) (h1 : f < 64) : P f := by
  have := h ⟨f.toNat, by omega⟩
  have e : ((f.toNat : Nat) : Int) = f := by omega
  rw [← e]
  exact this
theorem trI_eq (c1 c2 : UInt8) (c : Nat) : trI c1 c2 c = ((if c.toUInt8 = c2 then (47 : UInt8) else if c.toUInt8 = c1 then 43 else c.toUInt8).toNat : Int) := by
  unfold trI; rw [mkt_get]
theorem mk_fig {c1 c2 : UInt8} {cm : Int} (M : Mk c1 c2 cm) {f : Int} (h0 : 0 ≤ f) (h1 : f < 64) : b64v (trI c1 c2 (sgn c1.toNat c2.toNat f)) = f ∧ trI c1 c2 (sgn c1.toNat c2.toNat f) ≠ 61 := by
  rw [trI_eq]
  rcases M with ⟨rfl, rfl, _⟩ | ⟨rfl, rfl, _⟩
  · exact fin64 (P := fun f => b64v ((if (sgn (59 : UInt8).toNat (44 : UInt8).toNat f).toUInt8 = 44 then (47 : UInt8) else if (sgn (59 : UInt8).toNat (44 : UInt8).toNat f).toUInt8 = 59 then 43 else (sgn (59 : UInt8).toNat (44 : UInt8).toNat f).toUInt8).toNat : Int) = f ∧ ((if (sgn (59 : UInt8).toNat (44 : UInt8).toNat f).toUInt8 = 44 then (47 : UInt8) else if (sgn (59 : UInt8).toNat (44 : UInt8).toNat f).toUInt8 = 59 then 43 else (sgn (59 : UInt8).toNat (44 : UInt8).toNat f).toUInt8).toNat : Int) ≠ 61) (by decide +kernel) h0 h1
  · exact fin64 (P := fun f => b64v ((if (sgn (44 : UInt8).toNat (59 : UInt8).toNat f).toUInt8 = 59 then (47 : UInt8) else if (sgn (44 : UInt8).toNat (59 : UInt8).toNat f).toUInt8 = 44 then 43 else (sgn (44 : UInt8).toNat (59 : UInt8).toNat f).toUInt8).toNat : Int) = f ∧ ((if (sgn (44 : UInt8).toNat (59 : UInt8).toNat f).toUInt8 = 59 then (47 : UInt8) else if (sgn (44 : UInt8).toNat (59 : UInt8).toNat f).toUInt8 = 44 then 43 else (sgn (44 : UInt8).toNat (59 : UInt8).toNat f).toUInt8).toNat : Int) ≠ 61) (by decide +kernel) h0 h1
theorem mk_oth {c1 c2 : UInt8} {cm : Int} (M : Mk c1 c2 cm) : trI c1 c2 32 = 32 ∧ trI c1 c2 34 = 34 ∧ trI c1 c2 61 = 61 := by
  rw [trI_eq, trI_eq, trI_eq]
  rcases M with ⟨rfl, rfl, _⟩ | ⟨rfl, rfl, _⟩ <;> decide
theorem mk_sep {c1 c2 : UInt8} {cm : Int} (M : Mk c1 c2 cm) : sgn c1.toNat c2.toNat cm = 44 ∧ sgn c1.toNat c2.toNat (125 - cm) = 59 ∧ 62 ≤ cm ∧ cm < 64 ∧ 62 ≤ 125 - cm ∧ 125 - cm < 64 := by
  rcases M with ⟨rfl, rfl, rfl⟩ | ⟨rfl, rfl, rfl⟩ <;> decide +kernel
/-- a figure's sign below 62 is a letter or a figure -/
theorem sgn_low {c1 c2 : Nat} {f : Int} (h0 : 0 ≤ f) (h1 : f < 62) : tokC (sgn c1 c2 f) = false ∧ sgn c1 c2 f < 128 := by
  have : ∀ f : Fin 62, tokC (sgn 0 0 (f.val : Int)) = false ∧ sgn 0 0 (f.val : Int) < 128 := by decide +kernel
  have h2 := this ⟨f.toNat, by omega⟩
  have e : ((f.toNat : Nat) : Int) = f := by omega
  have e2 : sgn c1 c2 f = sgn 0 0 f := by
    unfold sgn
    simp only [if_pos h1]
  rw [e2, ← e]
  exact h2
noncomputable def qOf (b : Int) : Int := if b = 0 then 0 else if b = 6 then 1 else if b = 4 then 2 else 3
noncomputable def aOf (o : List Int × Int × Int) (pd : Int) : AS := (o.1, qOf o.2.2, o.2.1, pd)
theorem astep_fig {o : List Int × Int × Int} {k f : Int} (h : OInv o) (h0 : 0 ≤ f ∧ f < 64) (hk : b64v k = f) (h61 : k ≠ 61) : astep (aOf o 0) k = aOf (ostep o f) 0 := by
  obtain ⟨os, he, b⟩ := o
  obtain ⟨h1, h2, h3⟩ := h
  simp only at h1 h2 h3
  unfold astep aOf ostep
  rw [if_neg h61, hk, if_neg (by omega)]
  rcases h1 with ⟨rfl, rfl⟩ | ⟨rfl, h4⟩ | ⟨rfl, h4⟩ | ⟨rfl, h4⟩
  · simp [qOf]
  · simp [qOf]
    omega
  · simp [qOf]
    omega
  · simp [qOf]
noncomputable def afr (c : AS) (l : List Int) : AS := l.foldl astep c
theorem afr_append (c : AS) (a b : List Int) : afr c (a ++ b) = afr (afr c a) b := by simp [afr]
theorem octs_invF {ns : List Int} (h : ∀ f ∈ ns, 0 ≤ f ∧ f < 64) : ∀ {o : List Int × Int × Int}, OInv o → OInv (ns.foldl ostep o) := by
  induction ns with
  | nil => intro o ho; exact ho
  | cons f ns ih => intro o ho; exact ih (fun g hg => h g (.tail _ hg)) (ostep_inv ho (h f (.head _))).1
theorem oinv0 : OInv ([], 0, 0) := ⟨.inl ⟨rfl, rfl⟩, Int.le_refl 0, fun _ m => nomatch m⟩
theorem afr_sg {c1 c2 : UInt8} {cm : Int} (M : Mk c1 c2 cm) : ∀ {w : List Int} {o : List Int × Int × Int}, OInv o → (∀ f ∈ w, 0 ≤ f ∧ f < 64) → afr (aOf o 0) ((sg c1 c2 w).map (trI c1 c2)) = aOf (w.foldl ostep o) 0
  | [], _, _, _ => rfl
  | f :: w, o, ho, h => by
    have hf := h f (.head _)
    have k := mk_fig M hf.1 hf.2
    show afr (astep (aOf o 0) (trI c1 c2 (sgn c1.toNat c2.toNat f))) ((sg c1 c2 w).map (trI c1 c2)) = _
    rw [astep_fig ho hf k.1 k.2, afr_sg M (ostep_inv ho hf).1 fun g hg => h g (.tail _ hg)]
    rfl
theorem astep_skip {c : AS} {k : Int} (h : k ≠ 61) (h2 : 64 ≤ b64v k) : astep c k = c := by unfold astep; rw [if_neg h, if_pos h2]
end Mine
end
section
open PySem PySem.W PyProof.Rows PySem.Calls
set_option Elab.async false
set_option maxRecDepth 100000
set_option maxHeartbeats 8000000
namespace Mine
theorem jn_cons (sep x : List Nat) : ∀ xs : List (List Nat), jn sep (x :: xs) = x ++ xs.flatMap (sep ++ ·)
  | [] => by simp [jn]
  | y :: r => by
    rw [show jn sep (x :: y :: r) = x ++ sep ++ jn sep (y :: r) from rfl, jn_cons sep y r]
    simp
noncomputable def wfl (cm : Int) : List (List Int) → List Int
  | [] => []
  | w :: r => w ++ r.flatMap fun v => (125 - cm) :: v
theorem kword_flat {cm : Int} : ∀ {r : List (List Int)} {K : List Int}, K ≠ [] → kword cm false K r = K ++ r.flatMap fun v => (125 - cm) :: v
  | [], K, _ => by simp [kword]
  | v :: r, K, h => by
    have e : kput cm false K v = K ++ (125 - cm) :: v := by unfold kput; rw [if_neg h]; simp
    rw [kword, e, kword_flat (by simp)]
    simp
theorem kword_first {cm : Int} {ws : List (List Int)} {K : List Int} (h : ws ≠ []) (hw : ∀ w ∈ ws, w ≠ []) : kword cm true K ws = (if K = [] then [] else K ++ [cm]) ++ wfl cm ws := by
  obtain ⟨w, r, rfl⟩ := List.exists_cons_of_ne_nil h
  have hn : kput cm true K w ≠ [] := by
    unfold kput
    exact fun e => hw w (.head _) (List.append_eq_nil_iff.mp e).2
  rw [kword, kword_flat hn]
  unfold kput wfl
  simp
noncomputable def Ne2 (LL : List (List (List Int))) : Prop := ∀ ws ∈ LL, ws ≠ [] ∧ ∀ w ∈ ws, w ≠ []
theorem wfl_ne {cm : Int} {ws : List (List Int)} (h : ws ≠ []) (hw : ∀ w ∈ ws, w ≠ []) : wfl cm ws ≠ [] := by
  obtain ⟨w, r, rfl⟩ := List.exists_cons_of_ne_nil h
  exact fun e => hw w (.head _) (List.append_eq_nil_iff.mp e).1
theorem kall_go {cm : Int} : ∀ {R : List (List (List Int))} {K : List Int}, Ne2 R → K ≠ [] → R.foldl (fun K ws => kword cm true K ws) K = K ++ R.flatMap fun ws => cm :: wfl cm ws
  | [], _, _, _ => by simp
  | ws :: R, K, h, hK => by
    have h1 := h ws (.head _)
    rw [List.foldl_cons, kword_first h1.1 h1.2, if_neg hK, kall_go (fun v hv => h v (.tail _ hv)) (by simp)]
    simp
theorem kall_flat {cm : Int} {ws : List (List Int)} {R : List (List (List Int))} (h : Ne2 (ws :: R)) : kall cm (ws :: R) = wfl cm ws ++ R.flatMap fun ws => cm :: wfl cm ws := by
  have h1 := h ws (.head _)
  unfold kall
  rw [List.foldl_cons, kword_first h1.1 h1.2, if_pos rfl, List.nil_append, kall_go (fun v hv => h v (.tail _ hv)) (wfl_ne h1.1 h1.2)]
section
variable {c1 c2 : UInt8} {cm : Int} (M : Mk c1 c2 cm)
include M
theorem afr_sep {o : List Int × Int × Int} (ho : OInv o) : afr (aOf o 0) (([59, 32] : List Nat).map (trI c1 c2)) = aOf (ostep o (125 - cm)) 0 ∧ afr (aOf o 0) (([44, 32] : List Nat).map (trI c1 c2)) = aOf (ostep o cm) 0 := by
  obtain ⟨e1, e2, h1, h2, h3, h4⟩ := mk_sep M
  have k1 := mk_fig M (f := 125 - cm) (by omega) h4
  have k2 := mk_fig M (f := cm) (by omega) h2
  rw [e2] at k1
  rw [e1] at k2
  have o1 := (mk_oth M).1
  constructor
  · show astep (astep (aOf o 0) (trI c1 c2 59)) (trI c1 c2 32) = _
    rw [astep_fig ho ⟨by omega, h4⟩ k1.1 k1.2, o1, astep_skip (by decide) (by decide)]
  · show astep (astep (aOf o 0) (trI c1 c2 44)) (trI c1 c2 32) = _
    rw [astep_fig ho ⟨by omega, h2⟩ k2.1 k2.2, o1, astep_skip (by decide) (by decide)]
theorem afr_wordsGo : ∀ {r : List (List Int)} {o : List Int × Int × Int}, OInv o → (∀ w ∈ r, ∀ f ∈ w, 0 ≤ f ∧ f < 64) →
    afr (aOf o 0) (((r.map (sg c1 c2)).flatMap ([59, 32] ++ ·)).map (trI c1 c2)) = aOf ((r.flatMap fun v => (125 - cm) :: v).foldl ostep o) 0
  | [], _, _, _ => rfl
  | v :: r, o, ho, h => by
    obtain ⟨_, _, h1, h2, h3, h4⟩ := mk_sep M
    have i1 := (ostep_inv ho (f := 125 - cm) ⟨by omega, h4⟩).1
    rw [List.map_cons, List.flatMap_cons, List.map_append, List.map_append, List.append_assoc, afr_append, afr_append, (afr_sep M ho).1, afr_sg M i1 (h v (.head _)), afr_wordsGo (octs_invF (h v (.head _)) i1) fun w hw => h w (.tail _ hw)]
    rw [List.flatMap_cons, List.foldl_append]
    rfl
theorem afr_words {ws : List (List Int)} {o : List Int × Int × Int} (ho : OInv o) (h : ∀ w ∈ ws, ∀ f ∈ w, 0 ≤ f ∧ f < 64) :
    afr (aOf o 0) ((jn [59, 32] (ws.map (sg c1 c2))).map (trI c1 c2)) = aOf ((wfl cm ws).foldl ostep o) 0 := by
  cases ws with
  | nil => rfl
  | cons w r =>
    rw [List.map_cons, jn_cons, List.map_append, afr_append, afr_sg M ho (h w (.head _)), afr_wordsGo M (octs_invF (h w (.head _)) ho) fun v hv => h v (.tail _ hv)]
    unfold wfl
    rw [List.foldl_append]
theorem wfl_fig {ws : List (List Int)} (h : ∀ w ∈ ws, ∀ f ∈ w, 0 ≤ f ∧ f < 64) : ∀ f ∈ wfl cm ws, 0 ≤ f ∧ f < 64 := by
  obtain ⟨_, _, h1, h2, h3, h4⟩ := mk_sep M
  cases ws with
  | nil => intro f hf; exact nomatch hf
  | cons w r =>
    intro f hf
    rcases List.mem_append.mp hf with hf | hf
    · exact h w (.head _) f hf
    · obtain ⟨v, hv, hf⟩ := List.mem_flatMap.mp hf
      rcases List.mem_cons.mp hf with rfl | hf
      · exact ⟨by omega, h4⟩
      · exact h v (.tail _ hv) f hf
theorem afr_lists : ∀ {R : List (List (List Int))} {o : List Int × Int × Int}, OInv o → (∀ ws ∈ R, ∀ w ∈ ws, ∀ f ∈ w, 0 ≤ f ∧ f < 64) →
    afr (aOf o 0) (((R.map fun ws => jn [59, 32] (ws.map (sg c1 c2))).flatMap ([44, 32] ++ ·)).map (trI c1 c2)) = aOf ((R.flatMap fun v => cm :: wfl cm v).foldl ostep o) 0
  | [], _, _, _ => rfl
  | v :: r, o, ho, h => by
    obtain ⟨_, _, h1, h2, h3, h4⟩ := mk_sep M
    have i1 := (ostep_inv ho (f := cm) ⟨by omega, h2⟩).1
    rw [List.map_cons, List.flatMap_cons, List.map_append, List.map_append, List.append_assoc, afr_append, afr_append, (afr_sep M ho).2, afr_words M i1 (h v (.head _)), afr_lists (octs_invF (wfl_fig M (h v (.head _))) i1) fun w hw => h w (.tail _ hw)]
    rw [List.flatMap_cons, List.foldl_append]
    rfl
theorem afr_clean {LL : List (List (List Int))} (n2 : Ne2 LL) (h : ∀ ws ∈ LL, ∀ w ∈ ws, ∀ f ∈ w, 0 ≤ f ∧ f < 64) : afr (aOf ([], 0, 0) 0) ((clean0 c1 c2 LL).map (trI c1 c2)) = aOf (octs (kall cm LL)) 0 := by
  cases LL with
  | nil => rfl
  | cons ws R =>
    unfold clean0
    rw [List.map_cons, jn_cons, List.map_append, afr_append, afr_words M oinv0 (h ws (.head _)), afr_lists M (octs_invF (wfl_fig M (h ws (.head _))) oinv0) fun v hv => h v (.tail _ hv), kall_flat n2]
    unfold octs
    rw [List.foldl_append]
theorem afr_pad {o : List Int × Int × Int} {p : Nat} (h0 : 0 < p) (hp : p < 3) : afr (aOf o 0) (([61, 34] ++ List.replicate (p - 1) 61 ++ [34] : List Nat).map (trI c1 c2)) = aOf o p := by
  obtain ⟨_, e1, e2⟩ := mk_oth M
  have s34 : ∀ c : AS, astep c 34 = c := fun c => astep_skip (by decide) (by decide)
  obtain rfl | rfl : p = 1 ∨ p = 2 := by omega
  · show astep (astep (astep (aOf o 0) (trI c1 c2 61)) (trI c1 c2 34)) (trI c1 c2 34) = _
    rw [e1, e2, s34, s34]; rfl
  · show astep (astep (astep (astep (aOf o 0) (trI c1 c2 61)) (trI c1 c2 34)) (trI c1 c2 61)) (trI c1 c2 34) = _
    rw [e1, e2, s34, s34]; rfl
theorem afold_clean {LL : List (List (List Int))} {p : Nat} (hp : p < 3) (n2 : Ne2 LL) (h : ∀ ws ∈ LL, ∀ w ∈ ws, ∀ f ∈ w, 0 ≤ f ∧ f < 64) : afold (bI (tr (mkt c1 c2 43 47) (bts (cleanT c1 c2 p LL)))) = aOf (octs (kall cm LL)) p := by
  rw [bI_tr]
  show afr (aOf ([], 0, 0) 0) _ = _
  unfold cleanT
  split
  · rename_i e
    subst e
    exact afr_clean M n2 h
  · rw [List.append_assoc, List.append_assoc, ← List.append_assoc [61, 34], List.map_append, afr_append, afr_clean M n2 h]
    exact afr_pad M (by omega) hp
end
noncomputable def bB (n : Nat) : Int := if n % 4 = 0 then 0 else if n % 4 = 1 then 6 else if n % 4 = 2 then 4 else 2
theorem ostep_bits {o : List Int × Int × Int} {n : Nat} {f : Int} (h : o.2.2 = bB n) : (ostep o f).2.2 = bB (n + 1) := by
  obtain ⟨os, he, b⟩ := o
  simp only at h
  subst h
  unfold ostep bB
  obtain h | h | h | h : n % 4 = 0 ∨ n % 4 = 1 ∨ n % 4 = 2 ∨ n % 4 = 3 := by omega
  · rw [h, show (n + 1) % 4 = 1 by omega]; rfl
  · rw [h, show (n + 1) % 4 = 2 by omega]; rfl
  · rw [h, show (n + 1) % 4 = 3 by omega]; rfl
  · rw [h, show (n + 1) % 4 = 0 by omega]; rfl
theorem octs_bits (ns : List Int) : (octs ns).2.2 = bB ns.length := by
  have key : ∀ (ns : List Int) (o : List Int × Int × Int) (n : Nat), o.2.2 = bB n → (ns.foldl ostep o).2.2 = bB (n + ns.length) := by
    intro ns
    induction ns with
    | nil => intro o n h; exact h
    | cons f ns ih =>
      intro o n h
      have := ih (ostep o f) (n + 1) (ostep_bits h)
      rw [List.foldl_cons, this, List.length_cons]
      congr 1
      omega
  have := key ns ([], 0, 0) 0 rfl
  rwa [Nat.zero_add] at this
theorem qOf_octs (ns : List Int) : qOf (octs ns).2.2 = (ns.length : Int).fmod 4 := by
  rw [octs_bits]
  unfold bB
  have h4 : ns.length % 4 < 4 := Nat.mod_lt _ (by decide)
  have e : (ns.length : Int).fmod 4 = ((ns.length % 4 : Nat) : Int) := by
    rw [Int.fmod_eq_emod_of_nonneg _ (by decide)]; omega
  rw [e]
  obtain h | h | h | h : ns.length % 4 = 0 ∨ ns.length % 4 = 1 ∨ ns.length % 4 = 2 ∨ ns.length % 4 = 3 := by omega
  all_goals (rw [h]; rfl)
theorem tail_A {c1 c2 : UInt8} {cm : Int} (M : Mk c1 c2 cm) {LL : List (List (List Int))} {p : Nat} (hp : p < 3) (n2 : Ne2 LL) (h : ∀ ws ∈ LL, ∀ w ∈ ws, ∀ f ∈ w, 0 ≤ f ∧ f < 64) :
    ARead (tr (mkt c1 c2 43 47) (bts (cleanT c1 c2 p LL))) ↔ ¬ (((kall cm LL).length : Int).fmod 4 = 1 ∨ (1 < ((kall cm LL).length : Int).fmod 4 ∧ ((kall cm LL).length : Int).fmod 4 + p < 4)) := by
  unfold ARead
  rw [afold_clean M hp n2 h]
  show (qOf (octs (kall cm LL)).2.2 ≠ 1 ∧ (qOf (octs (kall cm LL)).2.2 = 0 ∨ 4 ≤ qOf (octs (kall cm LL)).2.2 + (p : Int))) ↔ _
  rw [qOf_octs]
  have : 0 ≤ ((kall cm LL).length : Int).fmod 4 := by
    rw [Int.fmod_eq_emod_of_nonneg _ (by decide)]; omega
  omega
theorem tail_E {c1 c2 : UInt8} {cm : Int} (M : Mk c1 c2 cm) {LL : List (List (List Int))} {p : Nat} (hp : p < 3) (n2 : Ne2 LL) (h : ∀ ws ∈ LL, ∀ w ∈ ws, ∀ f ∈ w, 0 ≤ f ∧ f < 64) :
    (afold (bI (tr (mkt c1 c2 43 47) (bts (cleanT c1 c2 p LL))))).1 = (octs (kall cm LL)).1 := by
  rw [afold_clean M hp n2 h]; rfl
end Mine
end
section
open PySem PySem.W PyProof.Rows PySem.Calls
set_option Elab.async false
set_option maxRecDepth 100000
set_option maxHeartbeats 8000000
namespace Mine
theorem dep_res (r : List (List Pr)) : (resD r).depth ≤ 3 := by
  refine Nat.succ_le_succ (dep_all (k := 2) ?_)
  intro d hd
  obtain ⟨p, _, rfl⟩ := List.mem_map.mp hd
  refine Nat.succ_le_succ (dep_all (k := 1) ?_)
  intro d hd
  obtain ⟨⟨k, v⟩, _, rfl⟩ := List.mem_map.mp hd
  cases v <;> exact Nat.le_refl _
theorem shaped_res {r : List (List Pr)} (h : (resD r).canLay0 = true) : SeqAt.shaped (resD r) = true := by
  unfold SeqAt.shaped; rw [h, decide_eq_true (Nat.le_trans (dep_res r) (by decide))]; rfl
theorem news_but1 {g h h' : Heap} {L P : Addr} {news : List (Addr × Obj)} (N : News g L h news) (hk : ∀ b o, b ≠ P → h.get? b = some o → h'.get? b = some o) (hn : ∀ p ∈ news, p.1 ≠ P) : News g L h' news := fun p hp => ⟨hk _ _ (hn p hp) (N p hp).1, (N p hp).2⟩
theorem fr_but1 {g h h' : Heap} {L P : Addr} {m : Str → Option Value} (F : Fr g L h m) (hk : ∀ b o, b ≠ P → h.get? b = some o → h'.get? b = some o) (hL : L ≠ P) (hg : g.get? P = none) : Fr g L h' m :=
  LCg.fr_but F (fun b o hb e => hk b o (fun q => hb (q ▸ List.mem_singleton.mpr rfl)) e) hL hg
local macro_rules | `(tactic| k_all) => `(tactic| assumption)
theorem tail16 {w : World} {dp un : Nat} {fr : Option (List Env)} {gd : Option (List Code)} {mean : ExcName → Option Value} {pp : Program} {ll : List Str} {mg mb : Str → Option Value} {Q : Flow → Shared → Prop} {E : Value → Shared → Prop} {g h : Heap} {gs : Array GenState} {dr : Drawn} {tk : Nat} {os : OsState}
   {L fa la da : Addr} {cd : Value} {m : Str → Option Value} {led rest rest2 : List (Addr × Obj)} {co : Obj} {LL : List (List (List Int))} {DU : List (List Pr)} {cl : List Nat} {tc tm tp tb : Tok} {p : Nat} {cm : Int} {c1 c2 : UInt8}
   (X : (hp w.params).In g) (T : Top pp ll mean mg mb g) (K : Below (At dp un fr gd) g [] g) (hdp : dp + 6 < 400) (hu : un + 20 * 6 < 4000)
   (F : Fr g L h m) (hb : Bd m [(Str.ofString "clean", .str (S cl) tc), (Str.ofString "due", .ref da), (Str.ofString "lists", .ref la), (Str.ofString "comma", .int cm tm), (Str.ofString "pads", .int p tp)])
   (N : News g L h ((89, tabObj #[]) :: (72, tabObj #[]) :: led)) (hoff : ∀ p ∈ led, p.1 ≠ 89 ∧ p.1 ≠ 72) (hco : (L + 1, co) ∈ led) (hcd : co.data = .cell (some (.bytes #[c1, c2] tb))) (hrest : ∀ p ∈ rest, p ∈ led) (lo : LObj rest) (hS : Sup rest (.ref la) (lD LL)) (hz : lsum LL < 1000)
   (hrest2 : ∀ p ∈ rest2, p ∈ led) (sd : Sup rest2 (.ref da) (resD DU)) (hcan : (resD DU).canLay0 = true)
   (h128 : ∀ c ∈ cl, c < 128) (hcl : cl.length < 1000) (hp3 : p < 3) (hf : ∀ f ∈ kall cm LL, 0 ≤ f ∧ f < 64)
   (hA : ARead (tr (mkt c1 c2 43 47) (bts cl)) ↔ ¬ (((kall cm LL).length : Int).fmod 4 = 1 ∨ (1 < ((kall cm LL).length : Int).fmod 4 ∧ ((kall cm LL).length : Int).fmod 4 + p < 4)))
   (hE : ARead (tr (mkt c1 c2 43 47) (bts cl)) → (afold (bI (tr (mkt c1 c2 43 47) (bts cl)))).1 = (octs (kall cm LL)).1)
   (hj : jnl DU = cl) (hne : ∀ ps ∈ DU, ps ≠ []) (hn : nL DU ≤ 1) (hv : ∀ ps ∈ DU, ∀ w ∈ ps, w.2 = none ∨ w.2 = some [] ∨ w.2 = some [61]) (hz1 : DU.length < 1000) (hz2 : ∀ ps ∈ DU, ps.length < 1000 ∧ (jnp ps).length < 1000 ∧ ∀ w ∈ ps, (pairS w).length < 1000)
   (hP2 : Par true cl [] [] DU)
   (hret : ∀ h' tk' m' ps ps', Fr g L h' m' → News g L h' ((89, tabObj ps) :: (72, tabObj ps') :: led) → Q (.ret (.bool true)) { heap := h', gens := gs, drawn := dr, toks := tk', os := os }) :
   wpAny (model Challenge.rw_pa0034_01.row.prog w) ((At dp un fr gd).deeper (envOfC (Str.ofString "law") (fS 36) L fa cd)) (execs ((fB 36).drop 16) (envOfC (Str.ofString "law") (fS 36) L fa cd)) Q E { heap := h, gens := gs, drawn := dr, toks := tk, os := os } := by
  revert X
  k_fill
  intro X
  refine' law_as ?kS ?kB ?_
  case kS => (conv => lhs; whnf)
  case kB => (conv => lhs; whnf)
  have F1 := fr_wr' _ hb.all F
  clear F hb
  refine wpAny_noRaise ?_
  have h6 : (6000 : Nat) ≤ sizeLine := by decide
  repeat ((fail_if_success (with_reducible show wpAny _ _ (PySem.call (Value.ref 94) _ _) _ _ _)); walk1)
  obtain ⟨_, rd⟩ := sd _ fun p hp => (N p (.tail _ (.tail _ (hrest2 p hp)))).1
  refine join_ctr (X.keeps F1.keep) (T.keeps F1.keep) (by (try simp only [Around.deeper]); omega) (by (try simp only [Around.deeper]); omega) rd (N (89, tabObj #[]) (.head _)).1 hne hn hv hz1 hz2 (fun t' h2 tk2 kp k89 => ?_)
  obtain ⟨ps, k89⟩ := k89
  rw [hj]
  have F2 := fr_but1 F1 kp (Ne.symm (N (89, tabObj #[]) (.head _)).2.1) (N (89, tabObj #[]) (.head _)).2.2
  have N2 : News g L h2 ((89, tabObj ps) :: (72, tabObj #[]) :: led) := List.forall_mem_cons.mpr ⟨⟨k89, (N (89, tabObj #[]) (.head _)).2⟩, news_but1 (fun p hp => N p (.tail _ hp)) kp (List.forall_mem_cons.mpr ⟨(by decide), fun p hp => (hoff p hp).1⟩)⟩
  clear F1 N rd kp k89
  repeat ((fail_if_success (with_reducible show wpAny _ _ (compareOp _ _ _) _ _ _)); walk1)
  walk1
  rw [show (S cl != S cl) = false from by simp]
  repeat ((fail_if_success (with_reducible show wpAny _ _ (PySem.call (Value.ref 77) _ _) _ _ _)); walk1)
  rename Fr _ _ _ _ => F5; rename News _ _ _ _ => N6
  refine split_ctr (X.keeps F5.keep) (T.keeps F5.keep) (by (try simp only [Around.deeper]); omega) (by (try simp only [Around.deeper]); omega) (N6.isList (.head _)) h128 hcl hP2 (N6 (72, tabObj #[]) (by k_mem)).1 (fun sr rest3 h5 tk5 kp5 k72 _ nw5 s5 => ?_)
  obtain ⟨ps', k72⟩ := k72
  have F6 := fr_but1 F5 kp5 (Ne.symm (N6 (72, tabObj #[]) (by k_mem)).2.1) (N6 (72, tabObj #[]) (by k_mem)).2.2
  have N7 : News g L h5 ((89, tabObj ps) :: (72, tabObj ps') :: led) := List.forall_mem_cons.mpr ⟨⟨kp5 _ _ (show (89 : Nat) ≠ 72 by decide) (N6 (89, tabObj ps) (by k_mem)).1, (N6 (89, tabObj ps) (by k_mem)).2⟩, List.forall_mem_cons.mpr ⟨⟨k72, (N6 (72, tabObj #[]) (by k_mem)).2⟩, news_but1 (fun p hp => N6 p (.tail _ (.tail _ (.tail _ hp)))) kp5 fun p hp => (hoff p hp).2⟩⟩
  clear F5 N6 kp5 k72
  repeat ((fail_if_success (with_reducible show wpAny _ _ (compareOp _ _ _) _ _ _)); walk1)
  obtain ⟨_, r1⟩ := s5 _ fun p hp => (nw5 p hp).1
  obtain ⟨_, r2⟩ := sd _ fun p hp => (N7 p (.tail _ (.tail _ (hrest2 p hp)))).1
  refine ne_dataH r1 r2 (shaped_res hcan) (shaped_res hcan) (by (try simp only [Around.deeper]); (show _ < 9900); omega) ?_
  rw [PySem.SeqAt.eqv_refl _ hcan]
  clear r1 r2 nw5 s5
  repeat ((fail_if_success (with_reducible show wpAny _ _ (execs (Stmt.Assign [Expr.Name (Str.ofString "kept") _] _ _ :: _) _) _ _ _)); walk1)
  dsimp only
  exact tail3 X T K hdp hu F6 ⟨rfl, rfl, rfl, rfl, trivial⟩ N7 (.tail _ (.tail _ hco)) hcd (fun p hp => .tail _ (.tail _ (hrest p hp))) lo hS hz h128 hcl hp3 hf hA hE fun h' tk' m' F' N' => hret _ _ _ _ _ F' N'
end Mine
end
section
open PySem PySem.W PyProof.Rows PySem.Calls
set_option Elab.async false
set_option maxRecDepth 100000
set_option maxHeartbeats 8000000
namespace Mine
theorem news_add {g h h' : Heap} {L : Addr} {m : Str → Option Value} {led rest : List (Addr × Obj)} (F : Fr g L h m) (N : News g L h led) (st : h.StaysIn h') (nw : ∀ p ∈ rest, h'.get? p.1 = some p.2 ∧ h.get? p.1 = none) : News g L h' (rest ++ led) := by
  intro p hp
  rcases List.mem_append.mp hp with hp | hp
  · obtain ⟨a, b⟩ := nw p hp
    refine ⟨a, fun e => ?_, ?_⟩
    · obtain ⟨oL, _, _, hL, _⟩ := F.ns
      rw [← e, b] at hL
      cases hL
    · cases q : g.get? p.1 with
      | none => rfl
      | some o => rw [F.keep _ _ q] at b; cases b
  · exact ⟨st _ _ (N p hp).1, (N p hp).2⟩
local macro_rules | `(tactic| k_all) => `(tactic| assumption)
theorem tail2 {w : World} {dp un : Nat} {fr : Option (List Env)} {gd : Option (List Code)} {mean : ExcName → Option Value} {pp : Program} {ll : List Str} {mg mb : Str → Option Value} {Q : Flow → Shared → Prop} {E : Value → Shared → Prop} {g h : Heap} {gs : Array GenState} {drx : Drawn} {tk : Nat} {os : OsState}
   {L fa ra : Addr} {cd : Value} {m : Str → Option Value} {co : Obj} {vs : List Value} {ns : List Int} {TX : List Nat} {tt tm tp tb : Tok} {p : Nat} {cm : Int} {c1 c2 : UInt8}
   (X : (hp w.params).In g) (T : Top pp ll mean mg mb g) (K : Below (At dp un fr gd) g [] g) (hdp : dp + 6 < 400) (hu : un + 20 * 6 < 4000)
   (F : Fr g L h m) (hb : Bd m [(Str.ofString "text", .str (S TX) tt), (Str.ofString "row", .ref ra), (Str.ofString "comma", .int cm tm), (Str.ofString "pads", .int p tp)])
   (hrow : h.IsList ra vs.toArray) (hi : IntsAre vs ns) (hn : ns.length < 1000) (hfig : ∀ f ∈ ns, 0 ≤ f ∧ f < 64)
   (N : News g L h [(L + 1, co), (89, tabObj #[]), (72, tabObj #[])]) (hcd : co.data = .cell (some (.bytes #[c1, c2] tb)))
   (hz : lsum (llists cm ns) < 1000) (hp3 : p < 3) (hfl : ∀ ws ∈ llists cm ns, ∀ w ∈ ws, ∀ f ∈ w, 0 ≤ f ∧ f < 64) (hll : (llists cm ns).length < 1000)
   (hL : p = 0 ∨ ∃ LL' ws' w, llists cm ns = LL' ++ [ws' ++ [w]])
   (hT128 : ∀ c ∈ TX, c < 128) (hTl : TX.length < 1000) (hP : Par false TX [] [] (due c1.toNat c2.toNat p (llists cm ns)))
   (hcl : ∀ c ∈ cleanT c1 c2 p (llists cm ns), c < 128) (hcz : (cleanT c1 c2 p (llists cm ns)).length < 1000) (hP2 : Par true (cleanT c1 c2 p (llists cm ns)) [] [] (due c1.toNat c2.toNat p (llists cm ns)))
   (hcan : (resD (due c1.toNat c2.toNat p (llists cm ns))).canLay0 = true) (hjz : ∀ ws ∈ llists cm ns, (jn [59, 32] (ws.map (sg c1 c2))).length < 1000) (hL89 : 89 < L)
   (M : Mk c1 c2 cm) (n2 : Ne2 (llists cm ns)) (hf : ∀ f ∈ kall cm (llists cm ns), 0 ≤ f ∧ f < 64)
   (hj : jnl (due c1.toNat c2.toNat p (llists cm ns)) = cleanT c1 c2 p (llists cm ns)) (hne : ∀ ps ∈ due c1.toNat c2.toNat p (llists cm ns), ps ≠ []) (hnL : nL (due c1.toNat c2.toNat p (llists cm ns)) ≤ 1) (hv : ∀ ps ∈ due c1.toNat c2.toNat p (llists cm ns), ∀ w ∈ ps, w.2 = none ∨ w.2 = some [] ∨ w.2 = some [61])
   (hz1 : (due c1.toNat c2.toNat p (llists cm ns)).length < 1000) (hz2 : ∀ ps ∈ due c1.toNat c2.toNat p (llists cm ns), ps.length < 1000 ∧ (jnp ps).length < 1000 ∧ ∀ w ∈ ps, (pairS w).length < 1000)
   (hret : ∀ h' tk' m' led' ps ps', Fr g L h' m' → News g L h' ((89, tabObj ps) :: (72, tabObj ps') :: led') → Q (.ret (.bool true)) { heap := h', gens := gs, drawn := drx, toks := tk', os := os }) :
   wpAny (model Challenge.rw_pa0034_01.row.prog w) ((At dp un fr gd).deeper (envOfC (Str.ofString "law") (fS 36) L fa cd)) (execs ((fB 36).drop 11) (envOfC (Str.ofString "law") (fS 36) L fa cd)) Q E { heap := h, gens := gs, drawn := drx, toks := tk, os := os } := by
  revert X
  k_fill
  intro X
  refine' law_as ?kS ?kB ?_
  case kS => (conv => lhs; whnf)
  case kB => (conv => lhs; whnf)
  have F1 := fr_wr' _ hb.all F
  clear F hb
  refine wpAny_noRaise ?_
  generalize hLL : llists cm ns = LL at *
  repeat ((fail_if_success (with_reducible show wpAny _ _ (PySem.call (Value.ref 215) _ _) _ _ _)); (first | ((with_reducible show wpAny _ _ (binaryOp Operator.Add (Value.str _ _) (Value.str _ _)) _ _ _); k_dflt (refine' add_str ?_ ?z; (case z => first | assumption))) | ((with_reducible show wpAny _ _ (PySem.call (Value.ref _) _ _) _ _ _); ((with_reducible show wpAny _ _ (PySem.call (Value.ref 182) _ _) _ _ _); k_dflt (refine' signs_ctr ?k1 ?k2 ?k3 ?k4 ?x0 ?x1 ?x2 ?x3 ?_; (case k1 => exact Frag.In.keeps (by k_asm) (Fr.keep (by k_asm))); (case k2 => exact Top.keeps (by k_asm) (Fr.keep (by k_asm))); (case k3 => (((try simp only [Around.deeper]); omega))); (case k4 => (((try simp only [Around.deeper]); omega))); (case x0 => assumption); (case x1 => assumption); (case x2 => assumption); (case x3 => assumption); intro t' h' tk' st'; (have F' := fr_after (by k_asm) st'); (have N' := news_after (by k_asm) st'); clear st'; (try dsimp only); (try k_sweep)))) | ((with_reducible show wpAny _ _ (eval (Expr.Name _ _) _) _ _ _); first | ((with_reducible show wpAny _ _ (eval (Expr.Name _ _) _) _ _ _); (first | ((with_reducible show wpAny _ _ (eval (Expr.Name (Str.ofString "marks") _) (compEnvC _ _ _ _)) _ _ _); k_dflt (refine' lcf_cell ?k1 ?k2 ?k3 ?k4 ?_ ?a ?b; (case a => exact rfl); (case b => exact rfl); (case k1 => k_asm); (case k2 => exact rfl); (case k3 => repeat (first | assumption | refine List.Mem.tail _ ?_)); (case k4 => assumption))) | ((with_reducible show wpAny _ _ (eval (Expr.Name (Str.ofString "word") _) (compEnvC _ _ _ _)) _ _ _); k_dflt (refine LCgL.ld_own (by k_asm) (by k_mem) (by assumption) (by assumption) ?_ (by assumption) (by assumption) (by assumption))))) | ((with_reducible show wpAny _ _ (eval (Expr.Name _ _) _) _ _ _); ((with_reducible show wpAny _ _ (eval (Expr.Name (Str.ofString "marks") _) (envOfC _ _ _ _ _)) _ _ _); k_dflt (refine' cellName ?k1 ?k2 ?k3 ?_ ?a ?b ?c; (case k1 => k_asm); (case k2 => repeat (first | assumption | refine List.Mem.tail _ ?_)); (case k3 => assumption); (case a => exact rfl); (case b => exact rfl); (case c => exact rfl))))) | walk1))
  refine lists_ctr (X.keeps F1.keep) (T.keeps F1.keep) (by (try simp only [Around.deeper]); omega) (by (try simp only [Around.deeper]); omega) hrow hi hn hfig (fun la rest h2 tk2 st nw lo sp => ?_)
  rw [hLL] at sp
  have off1 : ∀ p ∈ rest, p.1 ≠ 89 ∧ p.1 ≠ 72 := fun p hp => ⟨fun e => (by have := (nw p hp).2; rw [e, (N (89, tabObj #[]) (by k_mem)).1] at this; cases this), fun e => (by have := (nw p hp).2; rw [e, (N (72, tabObj #[]) (by k_mem)).1] at this; cases this)⟩
  have F2 := fr_after F1 st
  have N2 := news_add F1 N st nw
  clear F1 N hrow
  repeat ((fail_if_success (with_reducible show wpAny _ _ (PySem.call (Value.ref 220) _ _) _ _ _)); (first | ((with_reducible show wpAny _ _ (binaryOp Operator.Add (Value.str _ _) (Value.str _ _)) _ _ _); k_dflt (refine' add_str ?_ ?z; (case z => first | assumption))) | ((with_reducible show wpAny _ _ (PySem.call (Value.ref _) _ _) _ _ _); ((with_reducible show wpAny _ _ (PySem.call (Value.ref 182) _ _) _ _ _); k_dflt (refine' signs_ctr ?k1 ?k2 ?k3 ?k4 ?x0 ?x1 ?x2 ?x3 ?_; (case k1 => exact Frag.In.keeps (by k_asm) (Fr.keep (by k_asm))); (case k2 => exact Top.keeps (by k_asm) (Fr.keep (by k_asm))); (case k3 => (((try simp only [Around.deeper]); omega))); (case k4 => (((try simp only [Around.deeper]); omega))); (case x0 => assumption); (case x1 => assumption); (case x2 => assumption); (case x3 => assumption); intro t' h' tk' st'; (have F' := fr_after (by k_asm) st'); (have N' := news_after (by k_asm) st'); clear st'; (try dsimp only); (try k_sweep)))) | ((with_reducible show wpAny _ _ (eval (Expr.Name _ _) _) _ _ _); first | ((with_reducible show wpAny _ _ (eval (Expr.Name _ _) _) _ _ _); (first | ((with_reducible show wpAny _ _ (eval (Expr.Name (Str.ofString "marks") _) (compEnvC _ _ _ _)) _ _ _); k_dflt (refine' lcf_cell ?k1 ?k2 ?k3 ?k4 ?_ ?a ?b; (case a => exact rfl); (case b => exact rfl); (case k1 => k_asm); (case k2 => exact rfl); (case k3 => repeat (first | assumption | refine List.Mem.tail _ ?_)); (case k4 => assumption))) | ((with_reducible show wpAny _ _ (eval (Expr.Name (Str.ofString "word") _) (compEnvC _ _ _ _)) _ _ _); k_dflt (refine LCgL.ld_own (by k_asm) (by k_mem) (by assumption) (by assumption) ?_ (by assumption) (by assumption) (by assumption))))) | ((with_reducible show wpAny _ _ (eval (Expr.Name _ _) _) _ _ _); ((with_reducible show wpAny _ _ (eval (Expr.Name (Str.ofString "marks") _) (envOfC _ _ _ _ _)) _ _ _); k_dflt (refine' cellName ?k1 ?k2 ?k3 ?_ ?a ?b ?c; (case k1 => k_asm); (case k2 => repeat (first | assumption | refine List.Mem.tail _ ?_)); (case k3 => assumption); (case a => exact rfl); (case b => exact rfl); (case c => exact rfl))))) | walk1))
  rename Fr _ _ _ _ => F3; rename News _ _ _ _ => N3
  have hws : ∀ ws ∈ LL, ws.length < 1000 ∧ ∀ w ∈ ws, w.length < 1000 ∧ ∀ f ∈ w, 0 ≤ f ∧ f < 64 := fun ws hw => by
    obtain ⟨a, b⟩ := lsum_ws hw
    exact ⟨by omega, fun w hv => ⟨by have := b w hv; omega, hfl ws hw w hv⟩⟩
  obtain ⟨_, rl⟩ := sp _ fun p hp => (N3 p (List.mem_append_left _ hp)).1
  refine pairs_ctr (X.keeps F3.keep) (T.keeps F3.keep) (by (try simp only [Around.deeper]); omega) (by (try simp only [Around.deeper]); omega) rl hws hll (by omega) hL (fun dr rest2 h4 tk4 st4 nw4 sd => ?_)
  clear rl nw st
  have off2 : ∀ p ∈ rest2, p.1 ≠ 89 ∧ p.1 ≠ 72 := fun p hp => ⟨fun e => (by have := (nw4 p hp).2; rw [e, (N3 (89, tabObj #[]) (List.mem_append_right _ (by k_mem))).1] at this; cases this), fun e => (by have := (nw4 p hp).2; rw [e, (N3 (72, tabObj #[]) (List.mem_append_right _ (by k_mem))).1] at this; cases this)⟩
  have F4 := fr_after F3 st4
  have N4 := news_add F3 N3 st4 nw4
  have N5 : News g L h4 ((L + 1, co) :: (89, tabObj #[]) :: (72, tabObj #[]) :: (rest2 ++ rest)) := fun p hp => N4 p (by
    simp only [List.mem_append, List.mem_cons, List.not_mem_nil, or_false] at hp ⊢
    rcases hp with h | h | h | h | h
    · exact .inr (.inr (.inl h))
    · exact .inr (.inr (.inr (.inl h)))
    · exact .inr (.inr (.inr (.inr h)))
    · exact .inl h
    · exact .inr (.inl h))
  clear F3 N3 N4 st4 nw4
  generalize hDU : due c1.toNat c2.toNat p LL = DU at *
  repeat ((fail_if_success (with_reducible show wpAny _ _ (PySem.call (Value.ref 77) _ _) _ _ _)); (first | ((with_reducible show wpAny _ _ (binaryOp Operator.Add (Value.str _ _) (Value.str _ _)) _ _ _); k_dflt (refine' add_str ?_ ?z; (case z => first | assumption))) | ((with_reducible show wpAny _ _ (PySem.call (Value.ref _) _ _) _ _ _); ((with_reducible show wpAny _ _ (PySem.call (Value.ref 182) _ _) _ _ _); k_dflt (refine' signs_ctr ?k1 ?k2 ?k3 ?k4 ?x0 ?x1 ?x2 ?x3 ?_; (case k1 => exact Frag.In.keeps (by k_asm) (Fr.keep (by k_asm))); (case k2 => exact Top.keeps (by k_asm) (Fr.keep (by k_asm))); (case k3 => (((try simp only [Around.deeper]); omega))); (case k4 => (((try simp only [Around.deeper]); omega))); (case x0 => assumption); (case x1 => assumption); (case x2 => assumption); (case x3 => assumption); intro t' h' tk' st'; (have F' := fr_after (by k_asm) st'); (have N' := news_after (by k_asm) st'); clear st'; (try dsimp only); (try k_sweep)))) | ((with_reducible show wpAny _ _ (eval (Expr.Name _ _) _) _ _ _); first | ((with_reducible show wpAny _ _ (eval (Expr.Name _ _) _) _ _ _); (first | ((with_reducible show wpAny _ _ (eval (Expr.Name (Str.ofString "marks") _) (compEnvC _ _ _ _)) _ _ _); k_dflt (refine' lcf_cell ?k1 ?k2 ?k3 ?k4 ?_ ?a ?b; (case a => exact rfl); (case b => exact rfl); (case k1 => k_asm); (case k2 => exact rfl); (case k3 => repeat (first | assumption | refine List.Mem.tail _ ?_)); (case k4 => assumption))) | ((with_reducible show wpAny _ _ (eval (Expr.Name (Str.ofString "word") _) (compEnvC _ _ _ _)) _ _ _); k_dflt (refine LCgL.ld_own (by k_asm) (by k_mem) (by assumption) (by assumption) ?_ (by assumption) (by assumption) (by assumption))))) | ((with_reducible show wpAny _ _ (eval (Expr.Name _ _) _) _ _ _); ((with_reducible show wpAny _ _ (eval (Expr.Name (Str.ofString "marks") _) (envOfC _ _ _ _ _)) _ _ _); k_dflt (refine' cellName ?k1 ?k2 ?k3 ?_ ?a ?b ?c; (case k1 => k_asm); (case k2 => repeat (first | assumption | refine List.Mem.tail _ ?_)); (case k3 => assumption); (case a => exact rfl); (case b => exact rfl); (case c => exact rfl))))) | walk1))
  rename Fr _ _ _ _ => F5; rename News _ _ _ _ => N6
  refine split_ctr (X.keeps F5.keep) (T.keeps F5.keep) (by (try simp only [Around.deeper]); omega) (by (try simp only [Around.deeper]); omega) (N6.isList (.head _)) hT128 hTl hP (N6 (72, tabObj #[]) (by k_mem)).1 (fun sr rest3 h5 tk5 kp5 _ k72 nw5 s5 => ?_)
  have st5 : Heap.StaysIn _ h5 := fun b o e => by
    by_cases q : b = 72
    · subst q
      rw [(N6 (72, tabObj #[]) (by k_mem)).1] at e
      cases e
      exact k72 rfl
    · exact kp5 b o q e
  have F6 := fr_after F5 st5
  have N7 := news_after N6 st5
  clear F5 N6 kp5 k72
  repeat ((fail_if_success (with_reducible show wpAny _ _ (compareOp _ _ _) _ _ _)); (first | ((with_reducible show wpAny _ _ (binaryOp Operator.Add (Value.str _ _) (Value.str _ _)) _ _ _); k_dflt (refine' add_str ?_ ?z; (case z => first | assumption))) | ((with_reducible show wpAny _ _ (PySem.call (Value.ref _) _ _) _ _ _); ((with_reducible show wpAny _ _ (PySem.call (Value.ref 182) _ _) _ _ _); k_dflt (refine' signs_ctr ?k1 ?k2 ?k3 ?k4 ?x0 ?x1 ?x2 ?x3 ?_; (case k1 => exact Frag.In.keeps (by k_asm) (Fr.keep (by k_asm))); (case k2 => exact Top.keeps (by k_asm) (Fr.keep (by k_asm))); (case k3 => (((try simp only [Around.deeper]); omega))); (case k4 => (((try simp only [Around.deeper]); omega))); (case x0 => assumption); (case x1 => assumption); (case x2 => assumption); (case x3 => assumption); intro t' h' tk' st'; (have F' := fr_after (by k_asm) st'); (have N' := news_after (by k_asm) st'); clear st'; (try dsimp only); (try k_sweep)))) | ((with_reducible show wpAny _ _ (eval (Expr.Name _ _) _) _ _ _); first | ((with_reducible show wpAny _ _ (eval (Expr.Name _ _) _) _ _ _); (first | ((with_reducible show wpAny _ _ (eval (Expr.Name (Str.ofString "marks") _) (compEnvC _ _ _ _)) _ _ _); k_dflt (refine' lcf_cell ?k1 ?k2 ?k3 ?k4 ?_ ?a ?b; (case a => exact rfl); (case b => exact rfl); (case k1 => k_asm); (case k2 => exact rfl); (case k3 => repeat (first | assumption | refine List.Mem.tail _ ?_)); (case k4 => assumption))) | ((with_reducible show wpAny _ _ (eval (Expr.Name (Str.ofString "word") _) (compEnvC _ _ _ _)) _ _ _); k_dflt (refine LCgL.ld_own (by k_asm) (by k_mem) (by assumption) (by assumption) ?_ (by assumption) (by assumption) (by assumption))))) | ((with_reducible show wpAny _ _ (eval (Expr.Name _ _) _) _ _ _); ((with_reducible show wpAny _ _ (eval (Expr.Name (Str.ofString "marks") _) (envOfC _ _ _ _ _)) _ _ _); k_dflt (refine' cellName ?k1 ?k2 ?k3 ?_ ?a ?b ?c; (case k1 => k_asm); (case k2 => repeat (first | assumption | refine List.Mem.tail _ ?_)); (case k3 => assumption); (case a => exact rfl); (case b => exact rfl); (case c => exact rfl))))) | walk1))
  obtain ⟨_, r1⟩ := s5 _ fun p hp => (nw5 p hp).1
  obtain ⟨_, r2⟩ := sd _ fun p hp => (N7 p (.tail _ (.tail _ (.tail _ (.tail _ (List.mem_append_left _ hp)))))).1
  refine ne_dataH r1 r2 (shaped_res hcan) (shaped_res hcan) (by (try simp only [Around.deeper]); (show _ < 9900); omega) ?_
  rw [PySem.SeqAt.eqv_refl _ hcan]
  clear r1 r2 nw5 s5 st5
  have F8 : Fr g L _ (wr [(Str.ofString "due", Value.ref dr), (Str.ofString "lists", Value.ref la), (Str.ofString "text", .str (S TX) tt), (Str.ofString "row", .ref ra), (Str.ofString "comma", .int cm tm), (Str.ofString "pads", .int p tp)] m) := F6
  have N8 : News g L h5 ((L + 1, co) :: (89, tabObj #[]) :: (72, tabObj #[]) :: (rest2 ++ rest)) := fun p hp => N7 p (.tail _ hp)
  clear F6 N7
  repeat ((fail_if_success (with_reducible show wpAny _ _ (eval (Expr.ListComp _ _ _ _) _) _ _ _)); (first | ((with_reducible show wpAny _ _ (binaryOp Operator.Add (Value.str _ _) (Value.str _ _)) _ _ _); k_dflt (refine' add_str ?_ ?z; (case z => first | assumption))) | ((with_reducible show wpAny _ _ (PySem.call (Value.ref _) _ _) _ _ _); ((with_reducible show wpAny _ _ (PySem.call (Value.ref 182) _ _) _ _ _); k_dflt (refine' signs_ctr ?k1 ?k2 ?k3 ?k4 ?x0 ?x1 ?x2 ?x3 ?_; (case k1 => exact Frag.In.keeps (by k_asm) (Fr.keep (by k_asm))); (case k2 => exact Top.keeps (by k_asm) (Fr.keep (by k_asm))); (case k3 => (((try simp only [Around.deeper]); omega))); (case k4 => (((try simp only [Around.deeper]); omega))); (case x0 => assumption); (case x1 => assumption); (case x2 => assumption); (case x3 => assumption); intro t' h' tk' st'; (have F' := fr_after (by k_asm) st'); (have N' := news_after (by k_asm) st'); clear st'; (try dsimp only); (try k_sweep)))) | ((with_reducible show wpAny _ _ (eval (Expr.Name _ _) _) _ _ _); first | ((with_reducible show wpAny _ _ (eval (Expr.Name _ _) _) _ _ _); (first | ((with_reducible show wpAny _ _ (eval (Expr.Name (Str.ofString "marks") _) (compEnvC _ _ _ _)) _ _ _); k_dflt (refine' lcf_cell ?k1 ?k2 ?k3 ?k4 ?_ ?a ?b; (case a => exact rfl); (case b => exact rfl); (case k1 => k_asm); (case k2 => exact rfl); (case k3 => repeat (first | assumption | refine List.Mem.tail _ ?_)); (case k4 => assumption))) | ((with_reducible show wpAny _ _ (eval (Expr.Name (Str.ofString "word") _) (compEnvC _ _ _ _)) _ _ _); k_dflt (refine LCgL.ld_own (by k_asm) (by k_mem) (by assumption) (by assumption) ?_ (by assumption) (by assumption) (by assumption))))) | ((with_reducible show wpAny _ _ (eval (Expr.Name _ _) _) _ _ _); ((with_reducible show wpAny _ _ (eval (Expr.Name (Str.ofString "marks") _) (envOfC _ _ _ _ _)) _ _ _); k_dflt (refine' cellName ?k1 ?k2 ?k3 ?_ ?a ?b ?c; (case k1 => k_asm); (case k2 => repeat (first | assumption | refine List.Mem.tail _ ?_)); (case k3 => assumption); (case a => exact rfl); (case b => exact rfl); (case c => exact rfl))))) | walk1))
  obtain ⟨vs2, cnt, hmv, hvs⟩ := sup_listO lo sp fun p hp => (N8 p (.tail _ (.tail _ (.tail _ (List.mem_append_right _ hp))))).1
  have hvl : vs2.length = LL.length := by
    have := hvs.length fun p hp => (N8 p (.tail _ (.tail _ (.tail _ (List.mem_append_right _ hp))))).1
    simpa using this
  have h6 : (6000 : Nat) ≤ sizeLine := by decide
  generalize hbase : ((L + 1, co) :: (89, tabObj #[]) :: (72, tabObj #[]) :: (rest2 ++ rest)) = base at N8
  have hco : (L + 1, co) ∈ base := by rw [← hbase]; exact .head _
  have hrs : ∀ p ∈ rest, p ∈ base := by rw [← hbase]; exact fun p hp => .tail _ (.tail _ (.tail _ (List.mem_append_right _ hp)))
  refine LCg.ListComp_U (F₀ := F8) (by with_unfolding_all rfl) (by decide) rfl (by decide) rfl ?_
  (first | ((with_reducible show wpAny _ _ (binaryOp Operator.Add (Value.str _ _) (Value.str _ _)) _ _ _); k_dflt (refine' add_str ?_ ?z; (case z => first | assumption))) | ((with_reducible show wpAny _ _ (PySem.call (Value.ref _) _ _) _ _ _); ((with_reducible show wpAny _ _ (PySem.call (Value.ref 182) _ _) _ _ _); k_dflt (refine' signs_ctr ?k1 ?k2 ?k3 ?k4 ?x0 ?x1 ?x2 ?x3 ?_; (case k1 => exact Frag.In.keeps (by k_asm) (Fr.keep (by k_asm))); (case k2 => exact Top.keeps (by k_asm) (Fr.keep (by k_asm))); (case k3 => (((try simp only [Around.deeper]); omega))); (case k4 => (((try simp only [Around.deeper]); omega))); (case x0 => assumption); (case x1 => assumption); (case x2 => assumption); (case x3 => assumption); intro t' h' tk' st'; (have F' := fr_after (by k_asm) st'); (have N' := news_after (by k_asm) st'); clear st'; (try dsimp only); (try k_sweep)))) | ((with_reducible show wpAny _ _ (eval (Expr.Name _ _) _) _ _ _); first | ((with_reducible show wpAny _ _ (eval (Expr.Name _ _) _) _ _ _); (first | ((with_reducible show wpAny _ _ (eval (Expr.Name (Str.ofString "marks") _) (compEnvC _ _ _ _)) _ _ _); k_dflt (refine' lcf_cell ?k1 ?k2 ?k3 ?k4 ?_ ?a ?b; (case a => exact rfl); (case b => exact rfl); (case k1 => k_asm); (case k2 => exact rfl); (case k3 => repeat (first | assumption | refine List.Mem.tail _ ?_)); (case k4 => assumption))) | ((with_reducible show wpAny _ _ (eval (Expr.Name (Str.ofString "word") _) (compEnvC _ _ _ _)) _ _ _); k_dflt (refine LCgL.ld_own (by k_asm) (by k_mem) (by assumption) (by assumption) ?_ (by assumption) (by assumption) (by assumption))))) | ((with_reducible show wpAny _ _ (eval (Expr.Name _ _) _) _ _ _); ((with_reducible show wpAny _ _ (eval (Expr.Name (Str.ofString "marks") _) (envOfC _ _ _ _ _)) _ _ _); k_dflt (refine' cellName ?k1 ?k2 ?k3 ?_ ?a ?b ?c; (case k1 => k_asm); (case k2 => repeat (first | assumption | refine List.Mem.tail _ ?_)); (case k3 => assumption); (case a => exact rfl); (case b => exact rfl); (case c => exact rfl))))) | walk1)
  refine LCg.CompSrc.ledger rfl F8 N8 (hrs _ hmv) (by simp; omega) fun _g => ?_
  refine inv_rest (its := vs2) (Inv := fun i ys nw => nw = base ∧ ∃ hs, ys = strValues hs ∧ hs.map (·.1) = (LL.take i).map fun ws => S (jn [59, 32] (ws.map (sg c1 c2)))) ⟨rfl, [], rfl, rfl⟩ ?fin ?turn
  case turn =>
    intro i v I oI C oC D m₂ ys nw h2 tk2 E' hI hv hC hx F N off ne
    obtain ⟨rfl, hs, rfl, hhs⟩ := hI
    have q : ∀ p ∈ rest, h2.get? p.1 = some p.2 := fun p hp => (N p (.tail _ (.tail _ (.tail _ (hrs p hp))))).1
    obtain ⟨d, hd, sv⟩ := supA_get q hvs hv
    obtain ⟨ws, hws', rfl⟩ : ∃ ws, LL[i]? = some ws ∧ wsD ws = d := by simpa [List.getElem?_map] using hd
    obtain ⟨_, rv⟩ := sv h2 q
    obtain ⟨pa, _, _, rfl, _, _⟩ := reads_list rv
    obtain ⟨wvs, wn, hwm, hwS⟩ := sup_listO lo sv q
    have hwl : wvs.length = ws.length := by
      have := hwS.length q
      simpa using this
    clear rv F8 N8
    obtain ⟨hw1, hw2⟩ := hws ws (List.mem_of_getElem? hws')
    repeat ((fail_if_success (with_reducible show wpAny _ _ (eval (Expr.ListComp _ _ _ _) _) _ _ _)); (first | ((with_reducible show wpAny _ _ (binaryOp Operator.Add (Value.str _ _) (Value.str _ _)) _ _ _); k_dflt (refine' add_str ?_ ?z; (case z => first | assumption))) | ((with_reducible show wpAny _ _ (PySem.call (Value.ref _) _ _) _ _ _); ((with_reducible show wpAny _ _ (PySem.call (Value.ref 182) _ _) _ _ _); k_dflt (refine' signs_ctr ?k1 ?k2 ?k3 ?k4 ?x0 ?x1 ?x2 ?x3 ?_; (case k1 => exact Frag.In.keeps (by k_asm) (Fr.keep (by k_asm))); (case k2 => exact Top.keeps (by k_asm) (Fr.keep (by k_asm))); (case k3 => (((try simp only [Around.deeper]); omega))); (case k4 => (((try simp only [Around.deeper]); omega))); (case x0 => assumption); (case x1 => assumption); (case x2 => assumption); (case x3 => assumption); intro t' h' tk' st'; (have F' := fr_after (by k_asm) st'); (have N' := news_after (by k_asm) st'); clear st'; (try dsimp only); (try k_sweep)))) | ((with_reducible show wpAny _ _ (eval (Expr.Name _ _) _) _ _ _); first | ((with_reducible show wpAny _ _ (eval (Expr.Name _ _) _) _ _ _); (first | ((with_reducible show wpAny _ _ (eval (Expr.Name (Str.ofString "marks") _) (compEnvC _ _ _ _)) _ _ _); k_dflt (refine' lcf_cell ?k1 ?k2 ?k3 ?k4 ?_ ?a ?b; (case a => exact rfl); (case b => exact rfl); (case k1 => k_asm); (case k2 => exact rfl); (case k3 => repeat (first | assumption | refine List.Mem.tail _ ?_)); (case k4 => assumption))) | ((with_reducible show wpAny _ _ (eval (Expr.Name (Str.ofString "word") _) (compEnvC _ _ _ _)) _ _ _); k_dflt (refine LCgL.ld_own (by k_asm) (by k_mem) (by assumption) (by assumption) ?_ (by assumption) (by assumption) (by assumption))))) | ((with_reducible show wpAny _ _ (eval (Expr.Name _ _) _) _ _ _); ((with_reducible show wpAny _ _ (eval (Expr.Name (Str.ofString "marks") _) (envOfC _ _ _ _ _)) _ _ _); k_dflt (refine' cellName ?k1 ?k2 ?k3 ?_ ?a ?b ?c; (case k1 => k_asm); (case k2 => repeat (first | assumption | refine List.Mem.tail _ ?_)); (case k3 => assumption); (case a => exact rfl); (case b => exact rfl); (case c => exact rfl))))) | walk1))
    refine LCg.ListComp_U (F₀ := F) (by with_unfolding_all rfl) (by decide) rfl (by decide) rfl ?_
    refine LCgL.ld_own N (by k_mem) hC hx ?_
    refine LCg.CompSrc.ledger rfl F N (.tail _ (.tail _ (.tail _ (hrs _ hwm)))) (by simp; omega) fun _g => ?_
    refine inv_rest (its := wvs) (Inv := fun j zs nw' => nw' = (I, oI) :: (C, oC) :: (D, LCg.lst (strValues hs)) :: nw ∧ ∃ hs2, zs = strValues hs2 ∧ hs2.map (·.1) = (ws.take j).map fun w => S (sg c1 c2 w)) ⟨rfl, [], rfl, rfl⟩ ?fin2 ?turn2
    case turn2 =>
      intro j v2 I2 oI2 C2 oC2 D2 m₃ zs nw2 h3 tk3 E3 hI2 hv2 hC2 hx2 F2 N2 off2 ne2
      obtain ⟨rfl, hs2, rfl, hhs2⟩ := hI2
      have q3 : ∀ p ∈ rest, h3.get? p.1 = some p.2 := fun p hp => (N2 p (.tail _ (.tail _ (.tail _ (.tail _ (.tail _ (.tail _ (hrs p hp)))))))).1
      obtain ⟨d2, hd2, sx⟩ := supA_get q3 hwS hv2
      obtain ⟨w', hw', rfl⟩ : ∃ w, ws[j]? = some w ∧ wD w = d2 := by simpa [List.getElem?_map] using hd2
      obtain ⟨_, rx⟩ := sx h3 q3
      obtain ⟨pw, xs, rfl, hxl, hxi⟩ := reads_intlist rx
      obtain ⟨hx1, hx2'⟩ := hw2 w' (List.mem_of_getElem? hw')
      clear rx F N
      (repeat' (first | ((with_reducible show wpAny _ _ (binaryOp Operator.Add (Value.str _ _) (Value.str _ _)) _ _ _); k_dflt (refine' add_str ?_ ?z; (case z => first | assumption))) | ((with_reducible show wpAny _ _ (PySem.call (Value.ref _) _ _) _ _ _); ((with_reducible show wpAny _ _ (PySem.call (Value.ref 182) _ _) _ _ _); k_dflt (refine' signs_ctr ?k1 ?k2 ?k3 ?k4 ?x0 ?x1 ?x2 ?x3 ?_; (case k1 => exact Frag.In.keeps (by k_asm) (Fr.keep (by k_asm))); (case k2 => exact Top.keeps (by k_asm) (Fr.keep (by k_asm))); (case k3 => (((try simp only [Around.deeper]); omega))); (case k4 => (((try simp only [Around.deeper]); omega))); (case x0 => assumption); (case x1 => assumption); (case x2 => assumption); (case x3 => assumption); intro t' h' tk' st'; (have F' := fr_after (by k_asm) st'); (have N' := news_after (by k_asm) st'); clear st'; (try dsimp only); (try k_sweep)))) | ((with_reducible show wpAny _ _ (eval (Expr.Name _ _) _) _ _ _); first | ((with_reducible show wpAny _ _ (eval (Expr.Name _ _) _) _ _ _); (first | ((with_reducible show wpAny _ _ (eval (Expr.Name (Str.ofString "marks") _) (compEnvC _ _ _ _)) _ _ _); k_dflt (refine' lcf_cell ?k1 ?k2 ?k3 ?k4 ?_ ?a ?b; (case a => exact rfl); (case b => exact rfl); (case k1 => k_asm); (case k2 => exact rfl); (case k3 => repeat (first | assumption | refine List.Mem.tail _ ?_)); (case k4 => assumption))) | ((with_reducible show wpAny _ _ (eval (Expr.Name (Str.ofString "word") _) (compEnvC _ _ _ _)) _ _ _); k_dflt (refine LCgL.ld_own (by k_asm) (by k_mem) (by assumption) (by assumption) ?_ (by assumption) (by assumption) (by assumption))))) | ((with_reducible show wpAny _ _ (eval (Expr.Name _ _) _) _ _ _); ((with_reducible show wpAny _ _ (eval (Expr.Name (Str.ofString "marks") _) (envOfC _ _ _ _ _)) _ _ _); k_dflt (refine' cellName ?k1 ?k2 ?k3 ?_ ?a ?b ?c; (case k1 => k_asm); (case k2 => repeat (first | assumption | refine List.Mem.tail _ ?_)); (case k3 => assumption); (case a => exact rfl); (case b => exact rfl); (case c => exact rfl))))) | (k_unfold; (try dsimp only)) | (k_end; wrow_close) | walk1 | (dsimp only; walk1) | (leave1; (try dsimp only))))
      rename Fr _ _ _ _ => F2; rename News _ _ _ _ => N2
      refine LCg.CompEnd.intro F2 N2 _ (fun p hp => hp) off2 (.inr ⟨_, .tail _ (.tail _ (.tail _ (hrs _ hwm))), rfl, _, rfl⟩) ⟨rfl, hs2 ++ [(_, _)], strValues_snoc.symm, ?_⟩
      rw [List.map_append, hhs2, List.take_add_one, hw', List.map_append]
      rfl
    case fin2 =>
      intro zs nw2 hI2 D' h3 tk3 F' N' o1
      obtain ⟨rfl, hs2, rfl, hhs2⟩ := hI2
      rw [hwl, List.take_length] at hhs2
      clear F N
      repeat ((fail_if_success (with_reducible show wpAny _ _ (PySem.call (Value.builtin "str.join") _ _) _ _ _)); (first | ((with_reducible show wpAny _ _ (binaryOp Operator.Add (Value.str _ _) (Value.str _ _)) _ _ _); k_dflt (refine' add_str ?_ ?z; (case z => first | assumption))) | ((with_reducible show wpAny _ _ (PySem.call (Value.ref _) _ _) _ _ _); ((with_reducible show wpAny _ _ (PySem.call (Value.ref 182) _ _) _ _ _); k_dflt (refine' signs_ctr ?k1 ?k2 ?k3 ?k4 ?x0 ?x1 ?x2 ?x3 ?_; (case k1 => exact Frag.In.keeps (by k_asm) (Fr.keep (by k_asm))); (case k2 => exact Top.keeps (by k_asm) (Fr.keep (by k_asm))); (case k3 => (((try simp only [Around.deeper]); omega))); (case k4 => (((try simp only [Around.deeper]); omega))); (case x0 => assumption); (case x1 => assumption); (case x2 => assumption); (case x3 => assumption); intro t' h' tk' st'; (have F' := fr_after (by k_asm) st'); (have N' := news_after (by k_asm) st'); clear st'; (try dsimp only); (try k_sweep)))) | ((with_reducible show wpAny _ _ (eval (Expr.Name _ _) _) _ _ _); first | ((with_reducible show wpAny _ _ (eval (Expr.Name _ _) _) _ _ _); (first | ((with_reducible show wpAny _ _ (eval (Expr.Name (Str.ofString "marks") _) (compEnvC _ _ _ _)) _ _ _); k_dflt (refine' lcf_cell ?k1 ?k2 ?k3 ?k4 ?_ ?a ?b; (case a => exact rfl); (case b => exact rfl); (case k1 => k_asm); (case k2 => exact rfl); (case k3 => repeat (first | assumption | refine List.Mem.tail _ ?_)); (case k4 => assumption))) | ((with_reducible show wpAny _ _ (eval (Expr.Name (Str.ofString "word") _) (compEnvC _ _ _ _)) _ _ _); k_dflt (refine LCgL.ld_own (by k_asm) (by k_mem) (by assumption) (by assumption) ?_ (by assumption) (by assumption) (by assumption))))) | ((with_reducible show wpAny _ _ (eval (Expr.Name _ _) _) _ _ _); ((with_reducible show wpAny _ _ (eval (Expr.Name (Str.ofString "marks") _) (envOfC _ _ _ _ _)) _ _ _); k_dflt (refine' cellName ?k1 ?k2 ?k3 ?_ ?a ?b ?c; (case k1 => k_asm); (case k2 => repeat (first | assumption | refine List.Mem.tail _ ?_)); (case k3 => assumption); (case a => exact rfl); (case b => exact rfl); (case c => exact rfl))))) | walk1))
      refine SC.join (l := hs2) ⟨_, N'.get (.head _), rfl, _, rfl⟩ hhs2 (joinOk_small (by decide) (by simpa using hw1) (by
        intro x hx
        obtain ⟨w, hw, rfl⟩ := List.mem_map.mp hx
        rw [S_length]
        unfold sg
        rw [List.length_map]
        exact (hw2 w hw).1)) fun t' k => ?_
      have e : (ws.map fun w => S (sg c1 c2 w)) = (ws.map (sg c1 c2)).map S := by rw [List.map_map]; rfl
      have e2 : (Str.ofString "; ") = S [59, 32] := by decide
      rw [e, e2, join_S]
      (repeat' (first | ((with_reducible show wpAny _ _ (binaryOp Operator.Add (Value.str _ _) (Value.str _ _)) _ _ _); k_dflt (refine' add_str ?_ ?z; (case z => first | assumption))) | ((with_reducible show wpAny _ _ (PySem.call (Value.ref _) _ _) _ _ _); ((with_reducible show wpAny _ _ (PySem.call (Value.ref 182) _ _) _ _ _); k_dflt (refine' signs_ctr ?k1 ?k2 ?k3 ?k4 ?x0 ?x1 ?x2 ?x3 ?_; (case k1 => exact Frag.In.keeps (by k_asm) (Fr.keep (by k_asm))); (case k2 => exact Top.keeps (by k_asm) (Fr.keep (by k_asm))); (case k3 => (((try simp only [Around.deeper]); omega))); (case k4 => (((try simp only [Around.deeper]); omega))); (case x0 => assumption); (case x1 => assumption); (case x2 => assumption); (case x3 => assumption); intro t' h' tk' st'; (have F' := fr_after (by k_asm) st'); (have N' := news_after (by k_asm) st'); clear st'; (try dsimp only); (try k_sweep)))) | ((with_reducible show wpAny _ _ (eval (Expr.Name _ _) _) _ _ _); first | ((with_reducible show wpAny _ _ (eval (Expr.Name _ _) _) _ _ _); (first | ((with_reducible show wpAny _ _ (eval (Expr.Name (Str.ofString "marks") _) (compEnvC _ _ _ _)) _ _ _); k_dflt (refine' lcf_cell ?k1 ?k2 ?k3 ?k4 ?_ ?a ?b; (case a => exact rfl); (case b => exact rfl); (case k1 => k_asm); (case k2 => exact rfl); (case k3 => repeat (first | assumption | refine List.Mem.tail _ ?_)); (case k4 => assumption))) | ((with_reducible show wpAny _ _ (eval (Expr.Name (Str.ofString "word") _) (compEnvC _ _ _ _)) _ _ _); k_dflt (refine LCgL.ld_own (by k_asm) (by k_mem) (by assumption) (by assumption) ?_ (by assumption) (by assumption) (by assumption))))) | ((with_reducible show wpAny _ _ (eval (Expr.Name _ _) _) _ _ _); ((with_reducible show wpAny _ _ (eval (Expr.Name (Str.ofString "marks") _) (envOfC _ _ _ _ _)) _ _ _); k_dflt (refine' cellName ?k1 ?k2 ?k3 ?_ ?a ?b ?c; (case k1 => k_asm); (case k2 => repeat (first | assumption | refine List.Mem.tail _ ?_)); (case k3 => assumption); (case a => exact rfl); (case b => exact rfl); (case c => exact rfl))))) | (k_unfold; (try dsimp only)) | (k_end; wrow_close) | walk1 | (dsimp only; walk1) | (leave1; (try dsimp only))))
      refine LCg.CompEnd.intro F' N' nw (fun p hp => .tail _ hp) off (.inr ⟨_, hrs _ hmv, rfl, _, rfl⟩) ⟨rfl, hs ++ [(_, _)], strValues_snoc.symm, ?_⟩
      rw [List.map_append, hhs, List.take_add_one, hws', List.map_append]
      rfl
  case fin =>
    intro ys nw hI D h2 tk2 F N o1
    obtain ⟨rfl, hs, rfl, hhs⟩ := hI
    rw [hvl, List.take_length] at hhs
    clear F8 N8
    repeat ((fail_if_success (with_reducible show wpAny _ _ (PySem.call (Value.builtin "str.join") _ _) _ _ _)); (first | ((with_reducible show wpAny _ _ (binaryOp Operator.Add (Value.str _ _) (Value.str _ _)) _ _ _); k_dflt (refine' add_str ?_ ?z; (case z => first | assumption))) | ((with_reducible show wpAny _ _ (PySem.call (Value.ref _) _ _) _ _ _); ((with_reducible show wpAny _ _ (PySem.call (Value.ref 182) _ _) _ _ _); k_dflt (refine' signs_ctr ?k1 ?k2 ?k3 ?k4 ?x0 ?x1 ?x2 ?x3 ?_; (case k1 => exact Frag.In.keeps (by k_asm) (Fr.keep (by k_asm))); (case k2 => exact Top.keeps (by k_asm) (Fr.keep (by k_asm))); (case k3 => (((try simp only [Around.deeper]); omega))); (case k4 => (((try simp only [Around.deeper]); omega))); (case x0 => assumption); (case x1 => assumption); (case x2 => assumption); (case x3 => assumption); intro t' h' tk' st'; (have F' := fr_after (by k_asm) st'); (have N' := news_after (by k_asm) st'); clear st'; (try dsimp only); (try k_sweep)))) | ((with_reducible show wpAny _ _ (eval (Expr.Name _ _) _) _ _ _); first | ((with_reducible show wpAny _ _ (eval (Expr.Name _ _) _) _ _ _); (first | ((with_reducible show wpAny _ _ (eval (Expr.Name (Str.ofString "marks") _) (compEnvC _ _ _ _)) _ _ _); k_dflt (refine' lcf_cell ?k1 ?k2 ?k3 ?k4 ?_ ?a ?b; (case a => exact rfl); (case b => exact rfl); (case k1 => k_asm); (case k2 => exact rfl); (case k3 => repeat (first | assumption | refine List.Mem.tail _ ?_)); (case k4 => assumption))) | ((with_reducible show wpAny _ _ (eval (Expr.Name (Str.ofString "word") _) (compEnvC _ _ _ _)) _ _ _); k_dflt (refine LCgL.ld_own (by k_asm) (by k_mem) (by assumption) (by assumption) ?_ (by assumption) (by assumption) (by assumption))))) | ((with_reducible show wpAny _ _ (eval (Expr.Name _ _) _) _ _ _); ((with_reducible show wpAny _ _ (eval (Expr.Name (Str.ofString "marks") _) (envOfC _ _ _ _ _)) _ _ _); k_dflt (refine' cellName ?k1 ?k2 ?k3 ?_ ?a ?b ?c; (case k1 => k_asm); (case k2 => repeat (first | assumption | refine List.Mem.tail _ ?_)); (case k3 => assumption); (case a => exact rfl); (case b => exact rfl); (case c => exact rfl))))) | walk1))
    refine SC.join (l := hs) ⟨_, N.get (.head _), rfl, _, rfl⟩ hhs (joinOk_small (by decide) (by simpa using hll) (by
      intro x hx
      obtain ⟨ws, hw, rfl⟩ := List.mem_map.mp hx
      rw [S_length]
      exact hjz ws hw)) fun t' k => ?_
    have e : (LL.map fun ws => S (jn [59, 32] (ws.map (sg c1 c2)))) = (LL.map fun ws => jn [59, 32] (ws.map (sg c1 c2))).map S := by rw [List.map_map]; rfl
    have e2 : (Str.ofString ", ") = S [44, 32] := by decide
    rw [e, e2, join_S]
    have e3 : jn [44, 32] (LL.map fun ws => jn [59, 32] (ws.map (sg c1 c2))) = clean0 c1 c2 LL := rfl
    rw [e3]
    have fin0 : ∀ h9 tk9 t9 m9, Fr g L h9 m9 → Bd m9 [(Str.ofString "clean", .str (S (cleanT c1 c2 p LL)) t9), (Str.ofString "due", .ref dr), (Str.ofString "lists", .ref la), (Str.ofString "comma", .int cm tm), (Str.ofString "pads", .int p tp)] → News g L h9 nw →
        wpAny (model Challenge.rw_pa0034_01.row.prog w) ((At dp un fr gd).deeper (envOfC (Str.ofString "law") (fS 36) L fa cd)) (execs ((fB 36).drop 16) (envOfC (Str.ofString "law") (fS 36) L fa cd)) Q (fun _ _ => False) { heap := h9, gens := gs, drawn := drx, toks := tk9, os := os } := by
      intro h9 tk9 t9 m9 F9 hb9 N9
      rw [← hbase] at N9
      refine tail16 (rest := rest) (rest2 := rest2) (led := (L + 1, co) :: (rest2 ++ rest)) X T K hdp hu F9 hb9 (fun p hp => N9 p ?_) ?_ (.head _) hcd (fun p hp => .tail _ (List.mem_append_right _ hp)) lo sp hz (fun p hp => .tail _ (List.mem_append_left _ hp)) sd hcan hcl hcz hp3 hf (tail_A M hp3 n2 hfl) (fun _ => tail_E M hp3 n2 hfl) hj hne hnL hv hz1 hz2 hP2 fun h' tk' m' ps ps' F' N' => hret _ _ _ _ _ _ F' N'
      · simp only [List.mem_cons] at hp ⊢
        rcases hp with h | h | h | h
        · exact .inr (.inl h)
        · exact .inr (.inr (.inl h))
        · exact .inl h
        · exact .inr (.inr (.inr h))
      · refine List.forall_mem_cons.mpr ⟨⟨(show @Ne Nat (L + 1) 89 from (by have := hL89; exact fun e => absurd (show (89 : Nat) < L from this) (by omega))), (show @Ne Nat (L + 1) 72 from fun e => absurd (show (89 : Nat) < L from hL89) (by omega))⟩, fun p hp => ?_⟩
        rcases List.mem_append.mp hp with hp | hp
        · exact off2 p hp
        · exact off1 p hp
    by_cases hp0 : p = 0
    · subst hp0
      repeat ((fail_if_success (with_reducible show wpAny _ _ (execs (Stmt.If (Expr.BoolOp _ _ _) _ _ _ :: _) _) _ _ _)); (first | ((with_reducible show wpAny _ _ (binaryOp Operator.Add (Value.str _ _) (Value.str _ _)) _ _ _); k_dflt (refine' add_str ?_ ?z; (case z => first | assumption))) | ((with_reducible show wpAny _ _ (PySem.call (Value.ref _) _ _) _ _ _); ((with_reducible show wpAny _ _ (PySem.call (Value.ref 182) _ _) _ _ _); k_dflt (refine' signs_ctr ?k1 ?k2 ?k3 ?k4 ?x0 ?x1 ?x2 ?x3 ?_; (case k1 => exact Frag.In.keeps (by k_asm) (Fr.keep (by k_asm))); (case k2 => exact Top.keeps (by k_asm) (Fr.keep (by k_asm))); (case k3 => (((try simp only [Around.deeper]); omega))); (case k4 => (((try simp only [Around.deeper]); omega))); (case x0 => assumption); (case x1 => assumption); (case x2 => assumption); (case x3 => assumption); intro t' h' tk' st'; (have F' := fr_after (by k_asm) st'); (have N' := news_after (by k_asm) st'); clear st'; (try dsimp only); (try k_sweep)))) | ((with_reducible show wpAny _ _ (eval (Expr.Name _ _) _) _ _ _); first | ((with_reducible show wpAny _ _ (eval (Expr.Name _ _) _) _ _ _); (first | ((with_reducible show wpAny _ _ (eval (Expr.Name (Str.ofString "marks") _) (compEnvC _ _ _ _)) _ _ _); k_dflt (refine' lcf_cell ?k1 ?k2 ?k3 ?k4 ?_ ?a ?b; (case a => exact rfl); (case b => exact rfl); (case k1 => k_asm); (case k2 => exact rfl); (case k3 => repeat (first | assumption | refine List.Mem.tail _ ?_)); (case k4 => assumption))) | ((with_reducible show wpAny _ _ (eval (Expr.Name (Str.ofString "word") _) (compEnvC _ _ _ _)) _ _ _); k_dflt (refine LCgL.ld_own (by k_asm) (by k_mem) (by assumption) (by assumption) ?_ (by assumption) (by assumption) (by assumption))))) | ((with_reducible show wpAny _ _ (eval (Expr.Name _ _) _) _ _ _); ((with_reducible show wpAny _ _ (eval (Expr.Name (Str.ofString "marks") _) (envOfC _ _ _ _ _)) _ _ _); k_dflt (refine' cellName ?k1 ?k2 ?k3 ?_ ?a ?b ?c; (case k1 => k_asm); (case k2 => repeat (first | assumption | refine List.Mem.tail _ ?_)); (case k3 => assumption); (case a => exact rfl); (case b => exact rfl); (case c => exact rfl))))) | walk1))
      rename Fr _ _ _ _ => F; rename News _ _ _ _ => N
      refine fin0 _ _ _ _ F ⟨rfl, rfl, rfl, rfl, rfl, trivial⟩ fun p hp => N p (.tail _ hp)
    · have hc0 : (clean0 c1 c2 LL).length < 1000 := by
        unfold cleanT at hcz
        rw [if_neg hp0] at hcz
        simp at hcz
        omega
      have s1 : (S (clean0 c1 c2 LL)).length + (Str.ofString "=\"").length ≤ sizeLine := by
        rw [S_length, show (Str.ofString "=\"").length = 2 from by decide]; omega
      have s2 : (S (clean0 c1 c2 LL) ++ Str.ofString "=\"").length + (Txt.mul (Str.ofString "=") ((p : Int) - 1)).length ≤ sizeLine := by
        rw [show (Str.ofString "=\"") = S [61, 34] from by decide, S_append, S_length, mul_eq (by omega) (by omega), S_length, List.length_append, List.length_replicate]
        simp
        omega
      have s3 : (S (clean0 c1 c2 LL) ++ Str.ofString "=\"" ++ Txt.mul (Str.ofString "=") ((p : Int) - 1)).length + (Str.ofString "\"").length ≤ sizeLine := by
        rw [show (Str.ofString "=\"") = S [61, 34] from by decide, S_append, mul_eq (by omega) (by omega), S_append, S_length, show (Str.ofString "\"").length = 1 from by decide, List.length_append, List.length_append, List.length_replicate]
        simp
        omega
      have ecl : S (clean0 c1 c2 LL) ++ Str.ofString "=\"" ++ Txt.mul (Str.ofString "=") ((p : Int) - 1) ++ Str.ofString "\"" = S (cleanT c1 c2 p LL) := by
        rw [show (Str.ofString "=\"") = S [61, 34] from by decide, S_append, mul_eq (by omega) (by omega), S_append, show (Str.ofString "\"") = S [34] from by decide, S_append]
        unfold cleanT
        rw [if_neg hp0]
      repeat ((fail_if_success (with_reducible show wpAny _ _ (execs (Stmt.If (Expr.BoolOp _ _ _) _ _ _ :: _) _) _ _ _)); (first | ((with_reducible show wpAny _ _ (binaryOp Operator.Add (Value.str _ _) (Value.str _ _)) _ _ _); k_dflt (refine' add_str ?_ ?z; (case z => first | assumption))) | ((with_reducible show wpAny _ _ (PySem.call (Value.ref _) _ _) _ _ _); ((with_reducible show wpAny _ _ (PySem.call (Value.ref 182) _ _) _ _ _); k_dflt (refine' signs_ctr ?k1 ?k2 ?k3 ?k4 ?x0 ?x1 ?x2 ?x3 ?_; (case k1 => exact Frag.In.keeps (by k_asm) (Fr.keep (by k_asm))); (case k2 => exact Top.keeps (by k_asm) (Fr.keep (by k_asm))); (case k3 => (((try simp only [Around.deeper]); omega))); (case k4 => (((try simp only [Around.deeper]); omega))); (case x0 => assumption); (case x1 => assumption); (case x2 => assumption); (case x3 => assumption); intro t' h' tk' st'; (have F' := fr_after (by k_asm) st'); (have N' := news_after (by k_asm) st'); clear st'; (try dsimp only); (try k_sweep)))) | ((with_reducible show wpAny _ _ (eval (Expr.Name _ _) _) _ _ _); first | ((with_reducible show wpAny _ _ (eval (Expr.Name _ _) _) _ _ _); (first | ((with_reducible show wpAny _ _ (eval (Expr.Name (Str.ofString "marks") _) (compEnvC _ _ _ _)) _ _ _); k_dflt (refine' lcf_cell ?k1 ?k2 ?k3 ?k4 ?_ ?a ?b; (case a => exact rfl); (case b => exact rfl); (case k1 => k_asm); (case k2 => exact rfl); (case k3 => repeat (first | assumption | refine List.Mem.tail _ ?_)); (case k4 => assumption))) | ((with_reducible show wpAny _ _ (eval (Expr.Name (Str.ofString "word") _) (compEnvC _ _ _ _)) _ _ _); k_dflt (refine LCgL.ld_own (by k_asm) (by k_mem) (by assumption) (by assumption) ?_ (by assumption) (by assumption) (by assumption))))) | ((with_reducible show wpAny _ _ (eval (Expr.Name _ _) _) _ _ _); ((with_reducible show wpAny _ _ (eval (Expr.Name (Str.ofString "marks") _) (envOfC _ _ _ _ _)) _ _ _); k_dflt (refine' cellName ?k1 ?k2 ?k3 ?_ ?a ?b ?c; (case k1 => k_asm); (case k2 => repeat (first | assumption | refine List.Mem.tail _ ?_)); (case k3 => assumption); (case a => exact rfl); (case b => exact rfl); (case c => exact rfl))))) | walk1))
      rename Fr _ _ _ _ => F; rename News _ _ _ _ => N
      rw [ecl] at F
      refine fin0 _ _ _ _ F ⟨rfl, rfl, rfl, rfl, rfl, trivial⟩ fun p hp => N p (.tail _ hp)
end Mine
end
section
open PySem PySem.W PyProof.Rows PySem.Calls
set_option Elab.async false
set_option maxRecDepth 100000
set_option maxHeartbeats 8000000
namespace Mine
section
variable {c1 c2 : UInt8} {cm : Int} (M : Mk c1 c2 cm)
include M
noncomputable def txt (c1 c2 : UInt8) (row : List Int) (p : Nat) : List Nat := sg c1 c2 row ++ List.replicate p 61
theorem afr_eqs {o : List Int × Int × Int} : ∀ (n : Nat) (k : Int), afr (aOf o k) ((List.replicate n 61).map (trI c1 c2)) = aOf o (k + n)
  | 0, k => by simp [afr]
  | n + 1, k => by
    have e := (mk_oth M).2.2
    show afr (astep (aOf o k) (trI c1 c2 61)) ((List.replicate n 61).map (trI c1 c2)) = _
    rw [e, show astep (aOf o k) 61 = aOf o (k + 1) from rfl, afr_eqs n (k + 1)]
    congr 1
    omega
theorem afold_txt {row : List Int} (h : ∀ f ∈ row, 0 ≤ f ∧ f < 64) (p : Nat) : afold (bI (tr (mkt c1 c2 43 47) (bts (txt c1 c2 row p)))) = aOf (octs row) p := by
  rw [bI_tr]
  show afr (aOf ([], 0, 0) 0) _ = _
  unfold txt
  rw [List.map_append, afr_append, afr_sg M oinv0 h, afr_eqs M]
  rw [Int.zero_add]
  rfl
theorem sok_txt {row : List Int} (h : ∀ f ∈ row, 0 ≤ f ∧ f < 64) {p : Nat} (hp : p = 0 ∨ (1 < row.length % 4 ∧ row.length % 4 + p = 4)) (i : Nat) (k : UInt8) (hk : (tr (mkt c1 c2 43 47) (bts (txt c1 c2 row p)))[i]? = some k) : SOk (afold ((bI (tr (mkt c1 c2 43 47) (bts (txt c1 c2 row p)))).take i)) k.toNat := by
  have hk2 : (bI (tr (mkt c1 c2 43 47) (bts (txt c1 c2 row p))))[i]? = some (k.toNat : Int) := by simp [bI, hk]
  rw [bI_tr] at hk2 ⊢
  have hl : (sg c1 c2 row).length = row.length := by simp [sg]
  show SOk (afr (aOf ([], 0, 0) 0) _) _
  by_cases hi : i < row.length
  · have e : ((txt c1 c2 row p).map (trI c1 c2)).take i = (sg c1 c2 (row.take i)).map (trI c1 c2) := by
      unfold txt sg
      rw [← List.map_take, List.take_append_of_le_length (by simp; omega)]
      simp only [List.map_take]
    have e2 : (k.toNat : Int) = trI c1 c2 (sgn c1.toNat c2.toNat row[i]) := by
      unfold txt sg at hk2
      rw [List.getElem?_map, List.getElem?_append_left (by simpa using hi), List.getElem?_map, List.getElem?_eq_getElem hi] at hk2
      simpa using hk2.symm
    have hf := h row[i] (List.getElem_mem _)
    rw [e, afr_sg M oinv0 fun f hf => h f (List.mem_of_mem_take hf), e2]
    have := mk_fig M hf.1 hf.2
    exact .inr ⟨this.2, by rw [this.1]; exact hf.2, rfl⟩
  · have hip : i - row.length < p := by
      have h1 := (List.getElem?_eq_some_iff.mp hk2).1
      unfold txt at h1
      simp [sg] at h1
      omega
    have e : ((txt c1 c2 row p).map (trI c1 c2)).take i = (sg c1 c2 row).map (trI c1 c2) ++ (List.replicate (i - row.length) 61).map (trI c1 c2) := by
      unfold txt
      rw [← List.map_take, List.take_append, hl, List.take_of_length_le (by omega), List.take_replicate, List.map_append, Nat.min_eq_left (by omega)]
    have e2 : (k.toNat : Int) = 61 := by
      unfold txt at hk2
      rw [List.getElem?_map, List.getElem?_append_right (by omega), hl, List.getElem?_replicate, if_pos hip] at hk2
      have := (mk_oth M).2.2
      simp at hk2
      rw [← hk2, this]
    rw [e, afr_append, afr_sg M oinv0 h, afr_eqs M, e2]
    refine .inl ⟨rfl, ?_, ?_⟩
    · show 2 ≤ qOf (octs row).2.2
      rw [qOf_octs, Int.fmod_eq_emod_of_nonneg _ (by decide)]
      omega
    · show qOf (octs row).2.2 + (0 + ((i - row.length : Nat) : Int)) + 1 ≤ 4
      rw [qOf_octs, Int.fmod_eq_emod_of_nonneg _ (by decide)]
      omega
end
end Mine
end
section
open PySem PySem.W PyProof.Rows PySem.Calls
set_option Elab.async false
set_option maxRecDepth 100000
set_option maxHeartbeats 8000000
namespace Mine
noncomputable def chI (f : Int) : Int := b64c f
/-- four figures are three octets -/
theorem lin16 (a b : Int) : a * 64 + b = b + a * 4 * 16 := by rw [Int.mul_assoc, Int.add_comm]; rfl
theorem lin4 (a b : Int) : a * 64 + b = b + a * 16 * 4 := by rw [Int.mul_assoc, Int.add_comm]; rfl
theorem rem16 {a b : Int} : (a * 64 + b) % 16 = b % 16 := by rw [lin16, Int.add_mul_emod_self_right]
theorem rem4 {b c : Int} : (b * 64 + c) % 4 = c % 4 := by rw [lin4, Int.add_mul_emod_self_right]
theorem l256 (l x : Int) (m k : Int) (h : m * k = 256) : l * 256 + x = x + l * m * k := by rw [Int.mul_assoc, h, Int.add_comm]
theorem fin64b {P : Int → Int → Prop} (h : ∀ f g : Fin 64, P (f.val : Int) (g.val : Int)) {f g : Int} (hf : 0 ≤ f ∧ f < 64) (hg : 0 ≤ g ∧ g < 64) : P f g :=
  fin64 (P := fun f => P f g) (fun f => fin64 (P := fun g => P (f.val : Int) g) (fun g => h f g) hg.1 hg.2) hf.1 hf.2
theorem octs4 {a b c d : Int} (os : List Int) :
    ostep (ostep (ostep (ostep (os, 0, 0) a) b) c) d = (os ++ [(a * 64 + b) / 16, (b % 16 * 64 + c) / 4, c % 4 * 64 + d], 0, 0) := by
  simp [ostep, rem16, rem4]
/-- what is held behind an octet -/
theorem bmask {lc x : Int} (h : 0 ≤ x ∧ x < 256) : (lc * 256 + x) % 65536 = lc % 256 * 256 + x := by omega
theorem bm1 {l x : Int} : (l * 256 + x) / 4 % 64 = x / 4 % 64 := by rw [l256 l x 64 4 rfl, Int.add_mul_ediv_right _ _ (by decide), Int.add_mul_emod_self_right]
theorem bm256 {l x : Int} (h : 0 ≤ x ∧ x < 256) : (l * 256 + x) % 256 = x := by rw [Int.add_comm, Int.add_mul_emod_self_right]; exact Int.emod_eq_of_lt h.1 h.2
theorem oct1 {a b : Int} (ha : 0 ≤ a ∧ a < 64) (hb : 0 ≤ b ∧ b < 64) : 0 ≤ (a * 64 + b) / 16 ∧ (a * 64 + b) / 16 < 256 ∧ (a * 64 + b) / 16 / 4 % 64 = a ∧ (a * 64 + b) / 16 % 4 = b / 16 :=
  fin64b (P := fun a b => 0 ≤ (a * 64 + b) / 16 ∧ (a * 64 + b) / 16 < 256 ∧ (a * 64 + b) / 16 / 4 % 64 = a ∧ (a * 64 + b) / 16 % 4 = b / 16) (by decide +kernel) ha hb
theorem oct2 {b c : Int} (hb : 0 ≤ b ∧ b < 64) (hc : 0 ≤ c ∧ c < 64) : 0 ≤ (b % 16 * 64 + c) / 4 ∧ (b % 16 * 64 + c) / 4 < 256 ∧ (b % 16 * 64 + c) / 4 / 16 = b % 16 ∧ (b % 16 * 64 + c) / 4 % 16 = c / 4 :=
  fin64b (P := fun b c => 0 ≤ (b % 16 * 64 + c) / 4 ∧ (b % 16 * 64 + c) / 4 < 256 ∧ (b % 16 * 64 + c) / 4 / 16 = b % 16 ∧ (b % 16 * 64 + c) / 4 % 16 = c / 4) (by decide +kernel) hb hc
theorem oct3 {c d : Int} (hc : 0 ≤ c ∧ c < 64) (hd : 0 ≤ d ∧ d < 64) : 0 ≤ c % 4 * 64 + d ∧ c % 4 * 64 + d < 256 ∧ (c % 4 * 64 + d) / 64 = c % 4 ∧ (c % 4 * 64 + d) % 64 = d :=
  fin64b (P := fun c d => 0 ≤ c % 4 * 64 + d ∧ c % 4 * 64 + d < 256 ∧ (c % 4 * 64 + d) / 64 = c % 4 ∧ (c % 4 * 64 + d) % 64 = d) (by decide +kernel) hc hd
theorem bm2 {x y b : Int} (hb : 0 ≤ b ∧ b < 64) (h1 : x % 4 = b / 16) (h2 : y / 16 = b % 16) : (x * 256 + y) / 16 % 64 = b := by
  rw [l256 x y 16 16 rfl, Int.add_mul_ediv_right _ _ (by decide), h2]
  have := Int.mul_ediv_add_emod x 4
  rw [h1] at this
  rw [← this]
  clear h1 h2 this
  generalize x / 4 = k
  rw [Int.add_mul, show 4 * k * 16 = k * 64 from by rw [Int.mul_comm 4 k, Int.mul_assoc]; rfl, ← Int.add_assoc, Int.add_right_comm, Int.add_mul_emod_self_right]
  exact fin64 (P := fun b => (b % 16 + b / 16 * 16) % 64 = b) (by decide +kernel) hb.1 hb.2
theorem bm3 {x y c : Int} (hc : 0 ≤ c ∧ c < 64) (h1 : x % 16 = c / 4) (h2 : y / 64 = c % 4) : (x * 256 + y) / 64 % 64 = c := by
  rw [l256 x y 4 64 rfl, Int.add_mul_ediv_right _ _ (by decide), h2]
  have := Int.mul_ediv_add_emod x 16
  rw [h1] at this
  rw [← this]
  clear h1 h2 this
  generalize x / 16 = k
  rw [Int.add_mul, show 16 * k * 4 = k * 64 from by rw [Int.mul_comm 16 k, Int.mul_assoc]; rfl, ← Int.add_assoc, Int.add_right_comm, Int.add_mul_emod_self_right]
  exact fin64 (P := fun c => (c % 4 + c / 4 * 4) % 64 = c) (by decide +kernel) hc.1 hc.2
theorem bm4 {x y : Int} : (x * 256 + y) % 64 = y % 64 := by rw [l256 x y 4 64 rfl, Int.add_mul_emod_self_right]
theorem benc3 {a b c d lc : Int} (ha : 0 ≤ a ∧ a < 64) (hb : 0 ≤ b ∧ b < 64) (hc : 0 ≤ c ∧ c < 64) (hd : 0 ≤ d ∧ d < 64) (cs : List Int) :
    ∃ lc', bstep (bstep (bstep (cs, 0, lc) ((a * 64 + b) / 16)) ((b % 16 * 64 + c) / 4)) (c % 4 * 64 + d) = (cs ++ [b64c a, b64c b, b64c c, b64c d], 0, lc') := by
  obtain ⟨p1, p2, p3, p4⟩ := oct1 ha hb
  obtain ⟨q1, q2, q3, q4⟩ := oct2 hb hc
  obtain ⟨r1, r2, r3, r4⟩ := oct3 hc hd
  refine ⟨((((lc * 256 + (a * 64 + b) / 16) % 65536) * 256 + (b % 16 * 64 + c) / 4) % 65536 * 256 + (c % 4 * 64 + d)) % 65536, ?_⟩
  have e1 : (lc * 256 + (a * 64 + b) / 16) % 65536 / 4 % 64 = a := by rw [bmask ⟨p1, p2⟩, bm1, p3]
  have e2 : ((lc * 256 + (a * 64 + b) / 16) % 65536 * 256 + (b % 16 * 64 + c) / 4) % 65536 / 16 % 64 = b := by
    rw [bmask ⟨q1, q2⟩, bmask ⟨p1, p2⟩, bm256 ⟨p1, p2⟩, bm2 hb p4 q3]
  have e3 : (((lc * 256 + (a * 64 + b) / 16) % 65536 * 256 + (b % 16 * 64 + c) / 4) % 65536 * 256 + (c % 4 * 64 + d)) % 65536 / 64 % 64 = c := by
    rw [bmask ⟨r1, r2⟩, bmask ⟨q1, q2⟩, bm256 ⟨q1, q2⟩, bm3 hc q4 r3]
  have e4 : (((lc * 256 + (a * 64 + b) / 16) % 65536 * 256 + (b % 16 * 64 + c) / 4) % 65536 * 256 + (c % 4 * 64 + d)) % 65536 % 64 = d := by
    rw [bmask ⟨r1, r2⟩, bm4, r4]
  simp [bstep, e1, e2, e3, e4]
noncomputable def Vr : List Int → Prop
  | [] => True
  | [_] => False
  | [_, b] => b % 16 = 0
  | [_, _, c] => c % 4 = 0
  | _ :: _ :: _ :: _ :: r => Vr r
noncomputable def padsOf (n : Nat) : Nat := if n % 4 = 0 then 0 else 4 - n % 4
theorem enc_go : ∀ (row : List Int), Vr row → (∀ f ∈ row, 0 ≤ f ∧ f < 64) → ∀ (os cs : List Int) (lc : Int),
    ∃ new, (row.foldl ostep (os, 0, 0)).1 = os ++ new ∧ bEnd (new.foldl bstep (cs, 0, lc)) = cs ++ row.map b64c ++ List.replicate (padsOf row.length) 61
  | [], _, _, os, cs, lc => ⟨[], by simp, by simp [bEnd, padsOf]⟩
  | [_], v, _, _, _, _ => v.elim
  | [a, b], v, h, os, cs, lc => by
    have hb := h b (.tail _ (.head _))
    have v' : b % 16 = 0 := v
    obtain ⟨p1, p2, p3, p4⟩ := oct1 (h a (.head _)) hb
    refine ⟨[(a * 64 + b) / 16], by simp [ostep], ?_⟩
    have e1 : (lc * 256 + (a * 64 + b) / 16) % 65536 / 4 % 64 = a := by rw [bmask ⟨p1, p2⟩, bm1, p3]
    have e2 : (lc * 256 + (a * 64 + b) / 16) % 4 * 16 = b := by
      rw [l256 lc _ 64 4 rfl, Int.add_mul_emod_self_right, p4]; exact Int.ediv_mul_cancel (Int.dvd_of_emod_eq_zero v')
    have e3 : padsOf 2 = 2 := rfl
    simp only [List.foldl_cons, List.foldl_nil, bstep, bEnd]
    simp [e1, e2, e3, List.replicate]
  | [a, b, c], v, h, os, cs, lc => by
    have hb := h b (.tail _ (.head _))
    have hc := h c (.tail _ (.tail _ (.head _)))
    have v' : c % 4 = 0 := v
    obtain ⟨p1, p2, p3, p4⟩ := oct1 (h a (.head _)) hb
    obtain ⟨q1, q2, q3, q4⟩ := oct2 hb hc
    refine ⟨[(a * 64 + b) / 16, (b % 16 * 64 + c) / 4], by simp [ostep, rem16], ?_⟩
    have e1 : (lc * 256 + (a * 64 + b) / 16) % 65536 / 4 % 64 = a := by rw [bmask ⟨p1, p2⟩, bm1, p3]
    have e2 : ((lc * 256 + (a * 64 + b) / 16) % 65536 * 256 + (b % 16 * 64 + c) / 4) % 65536 / 16 % 64 = b := by
      rw [bmask ⟨q1, q2⟩, bmask ⟨p1, p2⟩, bm256 ⟨p1, p2⟩, bm2 hb p4 q3]
    have e4 : ((lc * 256 + (a * 64 + b) / 16) % 65536 * 256 + (b % 16 * 64 + c) / 4) % 16 * 4 = c := by
      rw [l256 _ _ 16 16 rfl, Int.add_mul_emod_self_right, q4]; exact Int.ediv_mul_cancel (Int.dvd_of_emod_eq_zero v')
    have e3 : padsOf 3 = 1 := rfl
    simp only [List.foldl_cons, List.foldl_nil, bstep, bEnd]
    simp [e1, e2, e3, e4, List.replicate]
  | a :: b :: c :: d :: r, v, h, os, cs, lc => by
    obtain ⟨lc', e⟩ := benc3 (lc := lc) (h a (.head _)) (h b (.tail _ (.head _))) (h c (.tail _ (.tail _ (.head _)))) (h d (.tail _ (.tail _ (.tail _ (.head _))))) cs
    obtain ⟨new, n1, n2⟩ := enc_go r v (fun f hf => h f (.tail _ (.tail _ (.tail _ (.tail _ hf))))) (os ++ [(a * 64 + b) / 16, (b % 16 * 64 + c) / 4, c % 4 * 64 + d]) (cs ++ [b64c a, b64c b, b64c c, b64c d]) lc'
    refine ⟨[(a * 64 + b) / 16, (b % 16 * 64 + c) / 4, c % 4 * 64 + d] ++ new, ?_, ?_⟩
    · show (r.foldl ostep (ostep (ostep (ostep (ostep (os, 0, 0) a) b) c) d)).1 = _
      rw [octs4, n1, List.append_assoc]
    · show bEnd (new.foldl bstep (bstep (bstep (bstep (cs, 0, lc) ((a * 64 + b) / 16)) ((b % 16 * 64 + c) / 4)) (c % 4 * 64 + d))) = _
      rw [e, n2]
      have e5 : padsOf (a :: b :: c :: d :: r).length = padsOf r.length := by
        unfold padsOf
        rw [show (a :: b :: c :: d :: r).length % 4 = r.length % 4 from Nat.add_mod_right r.length 4]
      rw [e5]
      simp
theorem enc_row {row : List Int} (v : Vr row) (h : ∀ f ∈ row, 0 ≤ f ∧ f < 64) : bEnd (bfold (octs row).1) = row.map b64c ++ List.replicate (padsOf row.length) 61 := by
  obtain ⟨new, n1, n2⟩ := enc_go row v h [] [] 0
  have e : (octs row).1 = new := by simpa [octs] using n1
  rw [e]
  simpa [bfold] using n2
end Mine
end
section
open PySem PySem.W PyProof.Rows PySem.Calls
set_option Elab.async false
set_option maxRecDepth 100000
set_option maxHeartbeats 8000000
namespace Mine
theorem bI_byteArr {l : List Int} (h : ∀ n ∈ l, 0 ≤ n ∧ n < 256) : bI (byteArr l) = l := by
  simp only [bI, byteArr, List.map_map]
  conv => rhs; rw [← List.map_id l]
  refine List.map_congr_left fun n hn => ?_
  have := h n hn
  simp
  omega
theorem mk_enc {c1 c2 : UInt8} {cm : Int} (M : Mk c1 c2 cm) {f : Int} (h0 : 0 ≤ f) (h1 : f < 64) : (mkt 43 47 c1 c2).getD (b64c f).toNat.toUInt8.toNat (b64c f).toNat.toUInt8 = (sgn c1.toNat c2.toNat f).toUInt8 := by
  rw [mkt_get]
  rcases M with ⟨rfl, rfl, _⟩ | ⟨rfl, rfl, _⟩
  · exact fin64 (P := fun f => (if (b64c f).toNat.toUInt8 = 47 then (44 : UInt8) else if (b64c f).toNat.toUInt8 = 43 then 59 else (b64c f).toNat.toUInt8) = (sgn (59 : UInt8).toNat (44 : UInt8).toNat f).toUInt8) (by decide +kernel) h0 h1
  · exact fin64 (P := fun f => (if (b64c f).toNat.toUInt8 = 47 then (59 : UInt8) else if (b64c f).toNat.toUInt8 = 43 then 44 else (b64c f).toNat.toUInt8) = (sgn (44 : UInt8).toNat (59 : UInt8).toNat f).toUInt8) (by decide +kernel) h0 h1
theorem mk_enc61 {c1 c2 : UInt8} {cm : Int} (M : Mk c1 c2 cm) : (mkt 43 47 c1 c2).getD (61 : Int).toNat.toUInt8.toNat (61 : Int).toNat.toUInt8 = (61 : Nat).toUInt8 := by
  rw [mkt_get]
  rcases M with ⟨rfl, rfl, _⟩ | ⟨rfl, rfl, _⟩ <;> decide
theorem tr_txt {c1 c2 : UInt8} {cm : Int} (M : Mk c1 c2 cm) {row : List Int} (h : ∀ f ∈ row, 0 ≤ f ∧ f < 64) (p : Nat) : tr (mkt 43 47 c1 c2) (byteArr (row.map b64c ++ List.replicate p 61)) = bts (txt c1 c2 row p) := by
  unfold tr bts txt sg byteArr
  apply Array.toList_inj.mp
  simp only [Array.toList_map, List.map_append, List.map_map]
  congr 1
  · refine List.map_congr_left fun f hf => ?_
    exact mk_enc M (h f hf).1 (h f hf).2
  · simp only [List.map_replicate]
    exact congrArg _ (mk_enc61 M)
theorem enc_txt {c1 c2 : UInt8} {cm : Int} (M : Mk c1 c2 cm) {row : List Int} (v : Vr row) (h : ∀ f ∈ row, 0 ≤ f ∧ f < 64) : tr (mkt 43 47 c1 c2) (byteArr (bEnd (bfold (bI (byteArr (octs row).1))))) = bts (txt c1 c2 row (padsOf row.length)) := by
  have e : bI (byteArr (octs row).1) = (octs row).1 := bI_byteArr (octs_invF h oinv0).2.2
  rw [e, enc_row v h, tr_txt M h]
end Mine
end
section
open PySem PySem.W PyProof.Rows PySem.Calls
set_option Elab.async false
set_option maxRecDepth 100000
set_option maxHeartbeats 8000000
namespace Mine
noncomputable def Low (w : List Int) : Prop := w ≠ [] ∧ ∀ f ∈ w, 0 ≤ f ∧ f < 62
theorem low_tok {c1 c2 : UInt8} {w : List Int} (h : Low w) : (∀ c ∈ sg c1 c2 w, tokC c = false) ∧ sg c1 c2 w ≠ [] := by
  refine ⟨fun c hc => ?_, fun e => h.1 (by simpa [sg] using e)⟩
  obtain ⟨f, hf, rfl⟩ := List.mem_map.mp hc
  exact (sgn_low (h.2 f hf).1 (h.2 f hf).2).1
theorem tokC_junk {c : Nat} (h : tokC c = false) : (c == 61 || c == 59 || spB c) = false := by
  unfold tokC at h
  simp only [Bool.or_eq_false_iff] at h ⊢
  exact ⟨⟨h.1.1.1, h.1.1.2⟩, h.2⟩
theorem par_words {c1 c2 : UInt8} {qd : Bool} {tl : List Nat} {R out : List (List Pr)} (htl : tl = [] ∨ ∃ r', tl = 44 :: r') : ∀ (r : List (List Int)) (w : List Int) (lead : List Nat) (p : List Pr), (∀ c ∈ lead, spB c = true) → (∀ v ∈ w :: r, Low v) →
    Par qd tl (p ++ (w :: r).map (wP c1.toNat c2.toNat)) R out → Par qd (lead ++ jn [59, 32] ((w :: r).map (sg c1 c2)) ++ tl) p R out
  | [], w, lead, p, hl, hw, h => by
    have k := low_tok (c1 := c1) (c2 := c2) (hw w (.head _))
    exact Par.word (ws := lead) (tok := sg c1 c2 w) (rest := tl) hl k.1 k.2 (htl.imp id fun ⟨r', e⟩ => ⟨44, r', e, .inr rfl⟩) h
  | v :: r, w, lead, p, hl, hw, h => by
    have k := low_tok (c1 := c1) (c2 := c2) (hw w (.head _))
    have k2 := low_tok (c1 := c1) (c2 := c2) (hw v (.tail _ (.head _)))
    have ih := par_words htl r v [] (p ++ [wP c1.toNat c2.toNat w]) (by simp) (fun u hu => hw u (.tail _ hu)) (by simpa using h)
    have e : lead ++ jn [59, 32] ((w :: v :: r).map (sg c1 c2)) ++ tl = lead ++ sg c1 c2 w ++ (59 :: [32] ++ (jn [59, 32] ((v :: r).map (sg c1 c2)) ++ tl)) := by
      rw [List.map_cons, jn_cons, List.map_cons, jn_cons]
      simp
    rw [e]
    refine Par.word hl k.1 k.2 (.inr ⟨59, _, rfl, .inl rfl⟩) (Par.junk (jk := [32]) (by decide) (fun c r' e => ?_) ?_)
    · rw [List.map_cons, jn_cons] at e
      obtain ⟨a, as, ea⟩ := List.exists_cons_of_ne_nil k2.2
      rw [ea] at e
      have : a = c := by simpa using (List.cons.inj e).1
      subst this
      exact tokC_junk (k2.1 a (by rw [ea]; exact .head _))
    · exact ih
end Mine
end
section
open PySem PySem.W PyProof.Rows PySem.Calls
set_option Elab.async false
set_option maxRecDepth 100000
set_option maxHeartbeats 8000000
namespace Mine
noncomputable def LowL (LL : List (List (List Int))) : Prop := ∀ ws ∈ LL, ws ≠ [] ∧ ∀ w ∈ ws, Low w
theorem fin_ne {p : List Pr} {r : List (List Pr)} (h : p ≠ []) : fin p r = r ++ [p] := by unfold fin; rw [if_neg h]
theorem par_lists {c1 c2 : UInt8} {qd : Bool} : ∀ (R : List (List (List Int))) (ws : List (List Int)) (lead : List Nat) (R0 : List (List Pr)), (∀ c ∈ lead, spB c = true) → LowL (ws :: R) →
    Par qd (lead ++ jn [44, 32] ((ws :: R).map fun ws => jn [59, 32] (ws.map (sg c1 c2)))) [] R0 (R0 ++ (ws :: R).map fun ws => ws.map (wP c1.toNat c2.toNat))
  | [], ws, lead, R0, hl, h => by
    obtain ⟨w, r, rfl⟩ := List.exists_cons_of_ne_nil (h ws (.head _)).1
    have := par_words (c1 := c1) (c2 := c2) (qd := qd) (tl := []) (R := R0) (.inl rfl) r w lead [] hl (h _ (.head _)).2 (Par.done (qd := qd))
    rw [List.append_nil, fin_ne (by simp)] at this
    exact this
  | v :: R, ws, lead, R0, hl, h => by
    obtain ⟨w, r, rfl⟩ := List.exists_cons_of_ne_nil (h ws (.head _)).1
    have ih := par_lists (c1 := c1) (c2 := c2) (qd := qd) R v [32] (R0 ++ [(w :: r).map (wP c1.toNat c2.toNat)]) (by decide) fun u hu => h u (.tail _ hu)
    have := par_words (c1 := c1) (c2 := c2) (qd := qd) (tl := 44 :: ([32] ++ jn [44, 32] ((v :: R).map fun ws => jn [59, 32] (ws.map (sg c1 c2))))) (R := R0) (.inr ⟨_, rfl⟩) r w lead [] hl (h _ (.head _)).2 (Par.comma (by rw [List.nil_append, fin_ne (by simp)]; exact ih))
    have e : ∀ A B C : List Nat, A ++ (B ++ ([44, 32] ++ C)) = A ++ B ++ (44 :: ([32] ++ C)) := by intro A B C; simp
    have e2 : jn [44, 32] (((w :: r) :: v :: R).map fun ws => jn [59, 32] (ws.map (sg c1 c2))) = jn [59, 32] ((w :: r).map (sg c1 c2)) ++ ([44, 32] ++ jn [44, 32] ((v :: R).map fun ws => jn [59, 32] (ws.map (sg c1 c2)))) := by
      rw [List.map_cons, List.map_cons]
      exact (List.append_assoc _ _ _)
    rw [e2, e]
    rw [List.append_assoc] at this
    simpa using this
end Mine
end
section
open PySem PySem.W PyProof.Rows PySem.Calls
set_option Elab.async false
set_option maxRecDepth 100000
set_option maxHeartbeats 8000000
namespace Mine
theorem par_wordsL {c1 c2 : UInt8} {qd b : Bool} {t v : List Nat} {R : List (List Pr)} (ht : Tl b t v) (hb : b = true → qd = true) (l : List Int) (hl' : Low l) : ∀ (r : List (List Int)) (lead : List Nat) (p : List Pr), (∀ c ∈ lead, spB c = true) → (∀ v ∈ r, Low v) →
    Par qd (lead ++ jn [59, 32] ((r ++ [l]).map (sg c1 c2)) ++ t) p R (fin (p ++ r.map (wP c1.toNat c2.toNat) ++ [(sg c1 c2 l, some v)]) R)
  | [], lead, p, hl, _ => by
    have k := low_tok (c1 := c1) (c2 := c2) hl'
    have := Par.last (qd := qd) (ws := lead) (tok := sg c1 c2 l) (p := p) (r := R) hl k.1 k.2 ht hb
    simpa [jn] using this
  | u :: r, lead, p, hl, hw => by
    have k := low_tok (c1 := c1) (c2 := c2) (hw u (.head _))
    have ih := par_wordsL (c1 := c1) (c2 := c2) (R := R) ht hb l hl' r [] (p ++ [wP c1.toNat c2.toNat u]) (by simp) fun u hu => hw u (.tail _ hu)
    obtain ⟨x, xs, ex, hx⟩ : ∃ x xs, r ++ [l] = x :: xs ∧ Low x := by
      cases r with
      | nil => exact ⟨l, [], rfl, hl'⟩
      | cons a r => exact ⟨a, r ++ [l], rfl, hw a (.tail _ (.head _))⟩
    have k2 := low_tok (c1 := c1) (c2 := c2) hx
    have e : lead ++ jn [59, 32] ((u :: r ++ [l]).map (sg c1 c2)) ++ t = lead ++ sg c1 c2 u ++ (59 :: [32] ++ (jn [59, 32] ((r ++ [l]).map (sg c1 c2)) ++ t)) := by
      rw [List.cons_append, ex, List.map_cons, List.map_cons, show jn [59, 32] (sg c1 c2 u :: sg c1 c2 x :: xs.map (sg c1 c2)) = sg c1 c2 u ++ [59, 32] ++ jn [59, 32] (sg c1 c2 x :: xs.map (sg c1 c2)) from rfl]
      simp
    rw [e]
    refine Par.word hl k.1 k.2 (.inr ⟨59, _, rfl, .inl rfl⟩) (Par.junk (jk := [32]) (by decide) (fun c r' e => ?_) ?_)
    · rw [ex, List.map_cons, jn_cons] at e
      obtain ⟨a, as, ea⟩ := List.exists_cons_of_ne_nil k2.2
      rw [ea] at e
      have : a = c := by simpa using (List.cons.inj e).1
      subst this
      exact tokC_junk (k2.1 a (by rw [ea]; exact .head _))
    · simpa [wP, sg] using ih
end Mine
end
section
open PySem PySem.W PyProof.Rows PySem.Calls
set_option Elab.async false
set_option maxRecDepth 100000
set_option maxHeartbeats 8000000
namespace Mine
theorem par_listsL {c1 c2 : UInt8} {qd b : Bool} {t v : List Nat} (ht : Tl b t v) (hb : b = true → qd = true) (l : List Int) (hl' : Low l) (ws' : List (List Int)) (hw' : ∀ w ∈ ws', Low w) : ∀ (R : List (List (List Int))) (lead : List Nat) (R0 : List (List Pr)), (∀ c ∈ lead, spB c = true) → LowL R →
    Par qd (lead ++ jn [44, 32] ((R ++ [ws' ++ [l]]).map fun ws => jn [59, 32] (ws.map (sg c1 c2))) ++ t) [] R0 (R0 ++ (R.map fun ws => ws.map (wP c1.toNat c2.toNat)) ++ [ws'.map (wP c1.toNat c2.toNat) ++ [(sg c1 c2 l, some v)]])
  | [], lead, R0, hl, _ => by
    have := par_wordsL (c1 := c1) (c2 := c2) (R := R0) ht hb l hl' ws' lead [] hl hw'
    rw [fin_ne (by simp)] at this
    simpa [jn] using this
  | u :: R, lead, R0, hl, h => by
    obtain ⟨w, r, rfl⟩ := List.exists_cons_of_ne_nil (h u (.head _)).1
    have ih := par_listsL (c1 := c1) (c2 := c2) ht hb l hl' ws' hw' R [32] (R0 ++ [(w :: r).map (wP c1.toNat c2.toNat)]) (by decide) fun u hu => h u (.tail _ hu)
    have := par_words (c1 := c1) (c2 := c2) (qd := qd) (tl := 44 :: ([32] ++ jn [44, 32] ((R ++ [ws' ++ [l]]).map fun ws => jn [59, 32] (ws.map (sg c1 c2))) ++ t)) (R := R0) (.inr ⟨_, rfl⟩) r w lead [] hl (h _ (.head _)).2 (Par.comma (by rw [List.nil_append, fin_ne (by simp)]; exact ih))
    obtain ⟨x, xs, ex⟩ : ∃ x xs, R ++ [ws' ++ [l]] = x :: xs := List.exists_cons_of_ne_nil (by simp)
    have e2 : jn [44, 32] (((w :: r) :: R ++ [ws' ++ [l]]).map fun ws => jn [59, 32] (ws.map (sg c1 c2))) = jn [59, 32] ((w :: r).map (sg c1 c2)) ++ ([44, 32] ++ jn [44, 32] ((R ++ [ws' ++ [l]]).map fun ws => jn [59, 32] (ws.map (sg c1 c2)))) := by
      rw [List.cons_append, ex, List.map_cons, List.map_cons]
      exact (List.append_assoc _ _ _)
    rw [e2]
    simpa using this
end Mine
end
section
open PySem PySem.W PyProof.Rows PySem.Calls
set_option Elab.async false
set_option maxRecDepth 100000
set_option maxHeartbeats 8000000
namespace Mine
theorem due_last {c1 c2 p : Nat} {LL' : List (List (List Int))} {ws' : List (List Int)} {w : List Int} (hp : p ≠ 0) : due c1 c2 p (LL' ++ [ws' ++ [w]]) = dueR c1 c2 LL' ++ [ws'.map (wP c1 c2) ++ [(w.map (sgn c1 c2), some (List.replicate (p - 1) 61))]] := by
  unfold due
  rw [if_neg hp]
  simp
theorem par_clean {c1 c2 : UInt8} {LL : List (List (List Int))} {p : Nat} (hp : p < 3) (h : LowL LL) (hL : p = 0 ∨ ∃ LL' ws' w, LL = LL' ++ [ws' ++ [w]]) : Par true (cleanT c1 c2 p LL) [] [] (due c1.toNat c2.toNat p LL) := by
  by_cases hp0 : p = 0
  · subst hp0
    cases LL with
    | nil => exact Par.done
    | cons ws R =>
      have := par_lists (c1 := c1) (c2 := c2) (qd := true) R ws [] [] (by simp) h
      exact this
  · obtain ⟨LL', ws', w, rfl⟩ := hL.resolve_left hp0
    have hl := h _ (List.mem_append_right _ (.head _))
    have ht : Tl true ([61, 34] ++ List.replicate (p - 1) 61 ++ [34]) (List.replicate (p - 1) 61) := by
      obtain rfl | rfl : p = 1 ∨ p = 2 := by omega
      · exact Tl.q1
      · exact Tl.q2
    have := par_listsL (c1 := c1) (c2 := c2) (qd := true) ht (fun _ => rfl) w (hl.2 w (by simp)) ws' (fun v hv => hl.2 v (by simp [hv])) LL' [] [] (by simp) fun u hu => h u (List.mem_append_left _ hu)
    rw [due_last hp0]
    unfold cleanT clean0
    rw [if_neg hp0]
    simpa [dueR, sg] using this
end Mine
end
section
open PySem PySem.W PyProof.Rows PySem.Calls
set_option Elab.async false
set_option maxRecDepth 100000
set_option maxHeartbeats 8000000
namespace Mine
theorem jn_tail (sep y z : List Nat) : ∀ xs : List (List Nat), jn sep (xs ++ [y ++ z]) = jn sep (xs ++ [y]) ++ z
  | [] => rfl
  | [x] => by simp [jn]
  | x :: x2 :: xs => by
    have ih := jn_tail sep y z (x2 :: xs)
    simp only [List.cons_append, jn] at ih ⊢
    rw [ih]
    simp
theorem jnp_plain {c1 c2 : UInt8} (ws : List (List Int)) : jnp (ws.map (wP c1.toNat c2.toNat)) = jn [59, 32] (ws.map (sg c1 c2)) := by
  unfold jnp
  rw [List.map_map]
  rfl
theorem jnl_due {c1 c2 : UInt8} {LL : List (List (List Int))} {p : Nat} (hL : p = 0 ∨ ∃ LL' ws' w, LL = LL' ++ [ws' ++ [w]]) : jnl (due c1.toNat c2.toNat p LL) = cleanT c1 c2 p LL := by
  by_cases hp0 : p = 0
  · subst hp0
    show jn [44, 32] ((dueR c1.toNat c2.toNat LL).map jnp) = clean0 c1 c2 LL
    unfold dueR clean0
    rw [List.map_map]
    congr 1
    refine List.map_congr_left fun ws _ => ?_
    exact jnp_plain ws
  · obtain ⟨LL', ws', w, rfl⟩ := hL.resolve_left hp0
    rw [due_last hp0]
    unfold cleanT clean0 jnl dueR
    rw [if_neg hp0, List.map_append, List.map_map, List.map_append]
    have e1 : (LL'.map (jnp ∘ fun ws => ws.map (wP c1.toNat c2.toNat))) = LL'.map fun ws => jn [59, 32] (ws.map (sg c1 c2)) := List.map_congr_left fun ws _ => jnp_plain ws
    have e2 : jnp (ws'.map (wP c1.toNat c2.toNat) ++ [(w.map (sgn c1.toNat c2.toNat), some (List.replicate (p - 1) 61))]) = jn [59, 32] ((ws' ++ [w]).map (sg c1 c2)) ++ ([61, 34] ++ List.replicate (p - 1) 61 ++ [34]) := by
      unfold jnp
      rw [List.map_append, List.map_map, List.map_append]
      have e3 : (ws'.map (pairS ∘ wP c1.toNat c2.toNat)) = ws'.map (sg c1 c2) := List.map_congr_left fun _ _ => rfl
      rw [e3]
      have e4 : ([(w.map (sgn c1.toNat c2.toNat), some (List.replicate (p - 1) 61))] : List Pr).map pairS = [sg c1 c2 w ++ ([61, 34] ++ List.replicate (p - 1) 61 ++ [34])] := by
        simp [pairS, sg]
      rw [e4, jn_tail]
      rfl
    rw [e1, List.map_singleton, e2, jn_tail]
    simp
end Mine
end
section
open PySem PySem.W PyProof.Rows PySem.Calls
set_option Elab.async false
set_option maxRecDepth 100000
set_option maxHeartbeats 8000000
namespace Mine
noncomputable def fltW (C : List (List Int)) : List (List Int) := C.filter fun w => !w.isEmpty
noncomputable def fltL (D : List (List (List Int))) : List (List (List Int)) := (D.map fltW).filter fun ws => !ws.isEmpty
noncomputable def pW (c1 c2 : UInt8) (C : List (List Int)) : List Pr := (fltW C).map (wP c1.toNat c2.toNat)
noncomputable def pL (c1 c2 : UInt8) (D : List (List (List Int))) : List (List Pr) := (fltL D).map fun ws => ws.map (wP c1.toNat c2.toNat)
theorem fltW_snoc (C : List (List Int)) (w : List Int) : fltW (C ++ [w]) = fltW C ++ (if w = [] then [] else [w]) := by
  unfold fltW
  cases w <;> simp
theorem fltL_snoc (D : List (List (List Int))) (C : List (List Int)) : fltL (D ++ [C]) = fltL D ++ (if fltW C = [] then [] else [fltW C]) := by
  unfold fltL
  rw [List.map_append, List.filter_append]
  cases h : fltW C <;> simp [h]
theorem pL_snoc (c1 c2 : UInt8) (D : List (List (List Int))) (C : List (List Int)) : pL c1 c2 (D ++ [C]) = fin (pW c1 c2 C) (pL c1 c2 D) := by
  unfold pL fin pW
  rw [fltL_snoc]
  by_cases h : fltW C = []
  · rw [if_pos h, h]; simp
  · rw [if_neg h, if_neg (by simpa using h)]; simp
noncomputable def finL (s : LS) : List (List (List Int)) := s.1 ++ [s.2.1 ++ [s.2.2]]
theorem llists_eq (cm : Int) (ns : List Int) : llists cm ns = fltL (finL (ns.foldl (lstep cm) ([], [], []))) := rfl
theorem run_low {cm : Int} : ∀ {w : List Int} {D : List (List (List Int))} {C : List (List Int)} {w0 : List Int}, (∀ f ∈ w, f < 62) → w.foldl (lstep cm) (D, C, w0) = (D, C, w0 ++ w)
  | [], _, _, _, _ => by simp
  | f :: w, D, C, w0, h => by
    have e : lstep cm (D, C, w0) f = (D, C, w0 ++ [f]) := by unfold lstep; rw [if_pos (h f (.head _))]
    rw [List.foldl_cons, e, run_low fun g hg => h g (.tail _ hg)]
    simp
theorem pW_nil (c1 c2 : UInt8) (C : List (List Int)) : pW c1 c2 (C ++ [[]]) = pW c1 c2 C := by unfold pW; rw [fltW_snoc]; simp
theorem pW_word (c1 c2 : UInt8) (C : List (List Int)) {w : List Int} (h : w ≠ []) : pW c1 c2 (C ++ [w]) = pW c1 c2 C ++ [wP c1.toNat c2.toNat w] := by unfold pW; rw [fltW_snoc, if_neg h]; simp
theorem due0 (c1 c2 : UInt8) (D : List (List (List Int))) (C : List (List Int)) : due c1.toNat c2.toNat 0 (fltL (D ++ [C])) = fin (pW c1 c2 C) (pL c1 c2 D) := pL_snoc c1 c2 D C
end Mine
end
section
open PySem PySem.W PyProof.Rows PySem.Calls
set_option Elab.async false
set_option maxRecDepth 100000
set_option maxHeartbeats 8000000
namespace Mine
theorem tw_all {α : Type} (q : α → Bool) : ∀ l : List α, ∀ x ∈ l.takeWhile q, q x = true
  | [], _, h => nomatch h
  | a :: l, x, h => by
    rw [List.takeWhile_cons] at h
    by_cases e : q a = true
    · rw [if_pos e] at h
      rcases List.mem_cons.mp h with rfl | h
      · exact e
      · exact tw_all q l x h
    · rw [if_neg e] at h
      exact nomatch h
theorem dw_head {α : Type} (q : α → Bool) : ∀ l : List α, ∀ x r, l.dropWhile q = x :: r → q x = false
  | [], _, _, h => nomatch h
  | a :: l, x, r, h => by
    rw [List.dropWhile_cons] at h
    by_cases e : q a = true
    · rw [if_pos e] at h
      exact dw_head q l x r h
    · rw [if_neg e] at h
      obtain ⟨rfl, rfl⟩ := List.cons.inj h
      simpa using e
section
variable {c1 c2 : UInt8} {cm : Int} (M : Mk c1 c2 cm)
include M
theorem step_cm {D : List (List (List Int))} {C : List (List Int)} {w : List Int} : lstep cm (D, C, w) cm = (D ++ [C ++ [w]], [], []) := by
  obtain ⟨_, _, h1, h2, h3, h4⟩ := mk_sep M
  unfold lstep
  rw [if_neg (by omega), if_pos rfl]
theorem step_o {D : List (List (List Int))} {C : List (List Int)} {w : List Int} : lstep cm (D, C, w) (125 - cm) = (D, C ++ [w], []) := by
  obtain ⟨_, _, h1, h2, h3, h4⟩ := mk_sep M
  unfold lstep
  rw [if_neg (by omega), if_neg (by rcases M with ⟨_, _, rfl⟩ | ⟨_, _, rfl⟩ <;> decide)]
theorem run_o : ∀ (k : Nat) {D : List (List (List Int))} {C : List (List Int)}, ∃ C', pW c1 c2 C' = pW c1 c2 C ∧ (List.replicate k (125 - cm)).foldl (lstep cm) (D, C, []) = (D, C', [])
  | 0, D, C => ⟨C, rfl, rfl⟩
  | k + 1, D, C => by
    obtain ⟨C', e1, e2⟩ := run_o k (D := D) (C := C ++ [[]])
    refine ⟨C', e1.trans (pW_nil c1 c2 C), ?_⟩
    rw [List.replicate_succ, List.foldl_cons, step_o M]
    exact e2
theorem hi_two {f : Int} (h0 : 0 ≤ f ∧ f < 64) (h : ¬ f < 62) : f = cm ∨ f = 125 - cm := by
  rcases M with ⟨_, _, rfl⟩ | ⟨_, _, rfl⟩ <;> omega
end
theorem last_drop {ns a b : List Int} {p : Nat} (e : ns = a ++ b) (hb : b ≠ []) (h : p = 0 ∨ ∃ ns' f, ns = ns' ++ [f] ∧ f < 62) : p = 0 ∨ ∃ ns' f, b = ns' ++ [f] ∧ f < 62 := by
  rcases h with h | ⟨ns', f, e2, hf⟩
  · exact .inl h
  · obtain ⟨b', g, rfl⟩ : ∃ b' g, b = b' ++ [g] := ⟨b.dropLast, b.getLast hb, (List.dropLast_concat_getLast hb).symm⟩
    refine .inr ⟨b', g, rfl, ?_⟩
    rw [e2, ← List.append_assoc] at e
    have := (List.append_inj' e rfl).2
    obtain rfl : f = g := by simpa using this
    exact hf
end Mine
end
section
open PySem PySem.W PyProof.Rows PySem.Calls
set_option Elab.async false
set_option maxRecDepth 100000
set_option maxHeartbeats 8000000
namespace Mine
section
variable {c1 c2 : UInt8} {cm : Int} (M : Mk c1 c2 cm)
include M
noncomputable def TxI (c1 c2 : UInt8) (cm : Int) (p : Nat) (ns : List Int) : Prop := ∀ (D : List (List (List Int))) (C : List (List Int)), Par false (sg c1 c2 ns ++ List.replicate p 61) (pW c1 c2 C) (pL c1 c2 D) (due c1.toNat c2.toNat p (fltL (finL (ns.foldl (lstep cm) (D, C, [])))))
theorem last_rest {r : List Int} {x : Int} {p : Nat} (hx : ¬ x < 62) (h : p = 0 ∨ ∃ ns' f, x :: r = ns' ++ [f] ∧ f < 62) : p = 0 ∨ ∃ ns' f, r = ns' ++ [f] ∧ f < 62 := by
  cases r with
  | nil =>
    rcases h with h | ⟨ns', f, e, hf⟩
    · exact .inl h
    · have : ns' ++ [f] = [] ++ [x] := e.symm
      have := (List.append_inj' this rfl).2
      obtain rfl : f = x := by simpa using this
      exact absurd hf hx
  | cons y r => exact last_drop (a := [x]) (b := y :: r) rfl (by simp) h
theorem sep_step {p : Nat} (hp : p < 3) {r : List Int} {x : Int} (hx : ¬ x < 62) (h : ∀ f ∈ x :: r, 0 ≤ f ∧ f < 64) (hl : p = 0 ∨ ∃ ns' f, x :: r = ns' ++ [f] ∧ f < 62)
    (ih : ∀ r' : List Int, r'.length ≤ r.length → (∀ f ∈ r', 0 ≤ f ∧ f < 64) → (p = 0 ∨ ∃ ns' f, r' = ns' ++ [f] ∧ f < 62) → TxI c1 c2 cm p r') (D : List (List (List Int))) (C : List (List Int)) (w : List Int) :
    Par false (sg c1 c2 (x :: r) ++ List.replicate p 61) (pW c1 c2 (C ++ [w])) (pL c1 c2 D) (due c1.toNat c2.toNat p (fltL (finL ((x :: r).foldl (lstep cm) (D, C, w))))) := by
  obtain ⟨e1, e2, h1, h2, h3, h4⟩ := mk_sep M
  rcases hi_two M (h x (.head _)) hx with rfl | rfl
  · rw [List.foldl_cons, step_cm M]
    have := ih r (Nat.le_refl _) (fun f hf => h f (.tail _ hf)) (last_rest M hx hl) (D ++ [C ++ [w]]) []
    rw [pL_snoc] at this
    show Par false (sgn c1.toNat c2.toNat x :: (sg c1 c2 r ++ List.replicate p 61)) _ _ _
    rw [e1]
    exact Par.comma this
  · rw [List.foldl_cons, step_o M]
    have hk : ∀ y ∈ r.takeWhile (fun y => y == 125 - cm), y = 125 - cm := fun y hy => by simpa using tw_all _ r y hy
    have hr : r = List.replicate (r.takeWhile fun y => y == 125 - cm).length (125 - cm) ++ r.dropWhile fun y => y == 125 - cm := by
      rw [← List.eq_replicate_of_mem hk, List.takeWhile_append_dropWhile]
    have hd := dw_head (fun y => y == 125 - cm) r
    generalize (r.takeWhile fun y => y == 125 - cm).length = k at hr
    generalize (r.dropWhile fun y => y == 125 - cm) = r2 at hr hd
    subst hr
    obtain ⟨C', q1, q2⟩ := run_o M k (D := D) (C := C ++ [w])
    rw [List.foldl_append, q2, ← q1]
    have hl2 := last_rest M hx hl
    have hl3 : p = 0 ∨ ∃ ns' f, r2 = ns' ++ [f] ∧ f < 62 := by
      cases r2 with
      | nil =>
        rcases hl2 with h | ⟨ns', f, e, hf⟩
        · exact .inl h
        · have hm : f ∈ List.replicate k (125 - cm) ++ [] := by rw [e]; simp
          rw [List.append_nil] at hm
          have := List.eq_of_mem_replicate hm
          omega
      | cons y r => exact last_drop rfl (by simp) hl2
    have := ih r2 (by simp) (fun f hf => h f (.tail _ (List.mem_append_right _ hf))) hl3 D C'
    have e : sg c1 c2 ((125 - cm) :: (List.replicate k (125 - cm) ++ r2)) ++ List.replicate p 61 = 59 :: List.replicate k 59 ++ (sg c1 c2 r2 ++ List.replicate p 61) := by
      unfold sg
      rw [List.map_cons, List.map_append, List.map_replicate, e2]
      simp
    rw [e]
    refine Par.junk (fun c hc => by rw [List.eq_of_mem_replicate hc]; rfl) (fun c r' ec => ?_) this
    cases r2 with
    | nil =>
      rcases hl3 with rfl | ⟨ns', f, e, _⟩
      · exact nomatch ec
      · exact absurd (congrArg List.length e) (by simp)
    | cons y r2 =>
      have hy : y ≠ 125 - cm := by simpa using hd y r2 rfl
      have hyf := h y (by simp)
      have ec1 : sgn c1.toNat c2.toNat y = c := (List.cons.inj ec).1
      by_cases hy2 : y < 62
      · rw [← ec1]
        exact tokC_junk (sgn_low hyf.1 hy2).1
      · rcases hi_two M hyf hy2 with rfl | rfl
        · rw [← ec1, e1]; rfl
        · exact absurd rfl hy
theorem par_txt {p : Nat} (hp : p < 3) : ∀ (n : Nat) (ns : List Int), ns.length ≤ n → (∀ f ∈ ns, 0 ≤ f ∧ f < 64) → (p = 0 ∨ ∃ ns' f, ns = ns' ++ [f] ∧ f < 62) → TxI c1 c2 cm p ns
  | _, [], _, _, hl, D, C => by
    obtain rfl : p = 0 := by
      rcases hl with h | ⟨ns', f, e, _⟩
      · exact h
      · exact absurd (congrArg List.length e) (by simp)
    show Par false [] _ _ (due c1.toNat c2.toNat 0 (fltL (D ++ [C ++ [[]]])))
    rw [due0, pW_nil]
    exact Par.done
  | n + 1, x :: r, hn, h, hl, D, C => by
    have ih := par_txt hp n
    rw [List.length_cons] at hn
    by_cases hx : x < 62
    · have hw := tw_all (fun y => decide (y < 62)) (x :: r)
      have hd := dw_head (fun y => decide (y < 62)) (x :: r)
      have hwd : (x :: r).takeWhile (fun y => decide (y < 62)) ++ (x :: r).dropWhile (fun y => decide (y < 62)) = x :: r := List.takeWhile_append_dropWhile
      have hne : (x :: r).takeWhile (fun y => decide (y < 62)) ≠ [] := by simp [hx]
      generalize (x :: r).takeWhile (fun y => decide (y < 62)) = w at *
      generalize (x :: r).dropWhile (fun y => decide (y < 62)) = b at *
      have hlow : Low w := ⟨hne, fun f hf => ⟨(h f (by rw [← hwd]; simp [hf])).1, by simpa using hw f hf⟩⟩
      have k := low_tok (c1 := c1) (c2 := c2) hlow
      have hwl : 0 < w.length := List.length_pos_iff.mpr hne
      have hlen := congrArg List.length hwd
      rw [List.length_append, List.length_cons] at hlen
      rw [← hwd, List.foldl_append, run_low fun f hf => (hlow.2 f hf).2, List.nil_append]
      cases b with
      | nil =>
        rw [List.append_nil]
        by_cases hp0 : p = 0
        · subst hp0
          show Par false _ _ _ (due c1.toNat c2.toNat 0 (fltL (D ++ [C ++ [w]])))
          rw [due0, pW_word _ _ _ hne]
          exact Par.word (ws := []) (tok := sg c1 c2 w) (rest := []) (by simp) k.1 k.2 (.inl rfl) Par.done
        · show Par false _ _ _ (due c1.toNat c2.toNat p (fltL (D ++ [C ++ [w]])))
          rw [fltL_snoc, fltW_snoc, if_neg hne, if_neg (by simp), due_last hp0]
          have ht : Tl false (List.replicate p 61) (List.replicate (p - 1) 61) := by
            obtain rfl | rfl : p = 1 ∨ p = 2 := by omega
            · exact Tl.e1
            · exact Tl.e2
          have := Par.last (qd := false) (ws := []) (tok := sg c1 c2 w) (p := pW c1 c2 C) (r := pL c1 c2 D) (by simp) k.1 k.2 ht (fun e => nomatch e)
          rw [fin_ne (by simp)] at this
          exact this
      | cons y b =>
        have hy : ¬ y < 62 := by simpa using hd y b rfl
        rw [List.length_cons] at hlen
        have st := sep_step M hp hy (fun f hf => h f (by rw [← hwd]; exact List.mem_append_right _ hf)) (last_drop hwd.symm (by simp) hl) (fun r' hr' hf' hl' => ih r' (by omega) hf' hl') D C w
        rw [pW_word _ _ _ hne] at st
        have e : sg c1 c2 (w ++ y :: b) ++ List.replicate p 61 = [] ++ sg c1 c2 w ++ (sg c1 c2 (y :: b) ++ List.replicate p 61) := by simp [sg]
        rw [e]
        refine Par.word (ws := []) (tok := sg c1 c2 w) (by simp) k.1 k.2 (.inr ⟨sgn c1.toNat c2.toNat y, _, rfl, ?_⟩) st
        obtain ⟨e1, e2, _⟩ := mk_sep M
        rcases hi_two M (h y (by rw [← hwd]; simp)) hy with rfl | rfl
        · exact .inr e1
        · exact .inl e2
    · have st := sep_step M hp hx h hl (fun r' hr' hf' hl' => ih r' (by omega) hf' hl') D C []
      rw [pW_nil] at st
      exact st
theorem par_text {p : Nat} (hp : p < 3) {ns : List Int} (h : ∀ f ∈ ns, 0 ≤ f ∧ f < 64) (hl : p = 0 ∨ ∃ ns' f, ns = ns' ++ [f] ∧ f < 62) : Par false (txt c1 c2 ns p) [] [] (due c1.toNat c2.toNat p (llists cm ns)) := par_txt M hp ns.length ns (Nat.le_refl _) h hl [] []
end
end Mine
end
section
open PySem PySem.W PyProof.Rows PySem.Calls
set_option Elab.async false
set_option maxRecDepth 100000
set_option maxHeartbeats 8000000
namespace Mine
noncomputable def Lo3 (s : LS) : Prop := (∀ C ∈ s.1, ∀ w ∈ C, ∀ f ∈ w, 0 ≤ f ∧ f < (62 : Int)) ∧ (∀ w ∈ s.2.1, ∀ f ∈ w, 0 ≤ f ∧ f < (62 : Int)) ∧ ∀ f ∈ s.2.2, 0 ≤ f ∧ f < (62 : Int)
theorem lo3_step {cm f : Int} {s : LS} (x : Lo3 s) (h : 0 ≤ f) : Lo3 (lstep cm s f) := by
  obtain ⟨D, C, w⟩ := s
  obtain ⟨a, b, c⟩ := x
  dsimp only at a b c
  unfold lstep
  dsimp only
  split
  · refine ⟨a, b, fun g hg => ?_⟩
    rcases List.mem_append.mp hg with hg | hg
    · exact c g hg
    · rw [List.mem_singleton.mp hg]; exact ⟨h, by assumption⟩
  · have b2 : ∀ v ∈ C ++ [w], ∀ f ∈ v, 0 ≤ f ∧ f < (62 : Int) := fun v hv => by
      rcases List.mem_append.mp hv with hv | hv
      · exact b v hv
      · rw [List.mem_singleton.mp hv]; exact c
    split
    · refine ⟨fun v hv => ?_, fun v hv => (nomatch hv), fun v hv => (nomatch hv)⟩
      rcases List.mem_append.mp hv with hv | hv
      · exact a v hv
      · rw [List.mem_singleton.mp hv]; exact b2
    · exact ⟨a, b2, fun v hv => (nomatch hv)⟩
theorem lo3_fold {cm : Int} : ∀ {ns : List Int} {s : LS}, (∀ f ∈ ns, 0 ≤ f) → Lo3 s → Lo3 (ns.foldl (lstep cm) s) := by
  intro ns
  induction ns with
  | nil => intro s _ x; exact x
  | cons f ns ih => intro s h x; exact ih (fun g hg => h g (.tail _ hg)) (lo3_step x (h f (.head _)))
theorem lowL_llists {cm : Int} {ns : List Int} (h : ∀ f ∈ ns, 0 ≤ f) : LowL (llists cm ns) := by
  have x : Lo3 (ns.foldl (lstep cm) ([], [], [])) := lo3_fold h ⟨fun _ h => (nomatch h), fun _ h => (nomatch h), fun _ h => (nomatch h)⟩
  rw [llists_eq]
  generalize ns.foldl (lstep cm) ([], [], []) = s at x
  obtain ⟨a, b, c⟩ := x
  intro ws hws
  unfold fltL at hws
  obtain ⟨h1, h2⟩ := List.mem_filter.mp hws
  obtain ⟨C, hC, rfl⟩ := List.mem_map.mp h1
  refine ⟨by intro e; rw [e] at h2; exact absurd h2 (by decide), fun w hw => ?_⟩
  obtain ⟨h3, h4⟩ := List.mem_filter.mp hw
  refine ⟨by intro e; rw [e] at h4; exact absurd h4 (by decide), ?_⟩
  unfold finL at hC
  rcases List.mem_append.mp hC with hC | hC
  · exact a C hC w h3
  · rw [List.mem_singleton.mp hC] at h3
    rcases List.mem_append.mp h3 with h3 | h3
    · exact b w h3
    · rw [List.mem_singleton.mp h3]; exact c
theorem last_llists {cm : Int} {ns : List Int} {p : Nat} (h : p = 0 ∨ ∃ ns' f, ns = ns' ++ [f] ∧ f < 62) : p = 0 ∨ ∃ LL' ws' w, llists cm ns = LL' ++ [ws' ++ [w]] := by
  refine h.imp id ?_
  rintro ⟨ns', f, rfl, hf⟩
  rw [llists_eq, List.foldl_append]
  generalize ns'.foldl (lstep cm) ([], [], []) = s
  obtain ⟨D, C, w⟩ := s
  have e : List.foldl (lstep cm) (D, C, w) [f] = (D, C, w ++ [f]) := by
    show lstep cm (D, C, w) f = _
    unfold lstep
    rw [if_pos hf]
  refine ⟨fltL D, fltW C, w ++ [f], ?_⟩
  rw [e]
  show fltL (D ++ [C ++ [w ++ [f]]]) = _
  rw [fltL_snoc, fltW_snoc, if_neg (by simp), if_neg (by simp)]
noncomputable def wt (X : List (List (List Int))) : Nat := (X.map fun C => (C.map List.length).sum).sum
theorem wt_step {cm f : Int} {s : LS} : wt (finL (lstep cm s f)) ≤ wt (finL s) + 1 := by
  obtain ⟨D, C, w⟩ := s
  unfold lstep finL wt
  dsimp only
  split
  · simp; omega
  · split
    · simp
    · simp
theorem wt_fold {cm : Int} : ∀ (ns : List Int) (s : LS), wt (finL (ns.foldl (lstep cm) s)) ≤ wt (finL s) + ns.length := by
  intro ns
  induction ns with
  | nil => intro s; exact Nat.le_refl _
  | cons f ns ih =>
    intro s
    have h1 := ih (lstep cm s f)
    have h2 := wt_step (cm := cm) (f := f) (s := s)
    rw [List.foldl_cons, List.length_cons]
    omega
theorem fltW_sum : ∀ C : List (List Int), ((fltW C).map fun w => w.length + 1).sum ≤ 2 * (C.map List.length).sum
  | [] => by simp [fltW]
  | [] :: C => by
    have := fltW_sum C
    simpa [fltW] using this
  | (x :: w) :: C => by
    have := fltW_sum C
    simp [fltW] at this ⊢
    omega
theorem fltL_sum : ∀ X : List (List (List Int)), lsum (fltL X) ≤ 2 * wt X
  | [] => by simp [fltL, lsum]
  | C :: X => by
    have h1 := fltL_sum X
    have h2 := fltW_sum C
    have e : fltL (C :: X) = (if fltW C = [] then [] else [fltW C]) ++ fltL X := by
      unfold fltL
      rw [List.map_cons, List.filter_cons]
      cases fltW C <;> simp
    rw [e]
    unfold lsum wt at *
    split
    · simp at h1 ⊢; omega
    · simp at h1 h2 ⊢; omega
theorem lsum_llists {cm : Int} (ns : List Int) : lsum (llists cm ns) ≤ 2 * ns.length := by
  rw [llists_eq]
  have h1 := fltL_sum (finL (ns.foldl (lstep cm) ([], [], [])))
  have h2 := wt_fold (cm := cm) ns ([], [], [])
  have h3 : wt (finL (([], [], []) : LS)) = 0 := rfl
  omega
theorem jn_len (sep : List Nat) : ∀ xs : List (List Nat), (jn sep xs).length ≤ (xs.map fun x => x.length + sep.length).sum
  | [] => Nat.le_refl _
  | [x] => by simp [jn]
  | x :: y :: r => by
    have := jn_len sep (y :: r)
    rw [show jn sep (x :: y :: r) = x ++ sep ++ jn sep (y :: r) from rfl, List.map_cons, List.sum_cons, List.length_append, List.length_append]
    omega
theorem jn_mem_len (sep : List Nat) : ∀ (xs : List (List Nat)) (x : List Nat), x ∈ xs → x.length ≤ (jn sep xs).length
  | [], _, h => nomatch h
  | [y], x, h => by rw [List.mem_singleton.mp h]; exact Nat.le_refl _
  | y :: z :: r, x, h => by
    rw [show jn sep (y :: z :: r) = y ++ sep ++ jn sep (z :: r) from rfl, List.length_append, List.length_append]
    rcases List.mem_cons.mp h with rfl | h
    · omega
    · have := jn_mem_len sep (z :: r) x h
      omega
theorem jn_cnt (sep : List Nat) (hs : sep ≠ []) : ∀ xs : List (List Nat), xs.length ≤ (jn sep xs).length + 1
  | [] => by simp
  | [x] => by simp
  | x :: y :: r => by
    have := jn_cnt sep hs (y :: r)
    have h0 := List.length_pos_iff.mpr hs
    rw [show jn sep (x :: y :: r) = x ++ sep ++ jn sep (y :: r) from rfl, List.length_append, List.length_append, List.length_cons]
    omega
theorem jn_mem (sep : List Nat) : ∀ (xs : List (List Nat)) (c : Nat), c ∈ jn sep xs → c ∈ sep ∨ ∃ x ∈ xs, c ∈ x
  | [], _, h => nomatch h
  | [x], c, h => .inr ⟨x, .head _, h⟩
  | x :: y :: r, c, h => by
    rw [show jn sep (x :: y :: r) = x ++ sep ++ jn sep (y :: r) from rfl] at h
    rcases List.mem_append.mp h with h | h
    · rcases List.mem_append.mp h with h | h
      · exact .inr ⟨x, .head _, h⟩
      · exact .inl h
    · rcases jn_mem sep (y :: r) c h with h | ⟨z, hz, h⟩
      · exact .inl h
      · exact .inr ⟨z, .tail _ hz, h⟩
theorem ws_len {c1 c2 : UInt8} : ∀ ws : List (List Int), ((ws.map (sg c1 c2)).map fun x => x.length + [59, 32].length).sum ≤ 2 * (ws.map fun w => w.length + 1).sum
  | [] => Nat.le_refl _
  | w :: ws => by
    have := ws_len (c1 := c1) (c2 := c2) ws
    simp [sg] at this ⊢
    omega
theorem clean0_len {c1 c2 : UInt8} : ∀ {LL : List (List (List Int))}, (∀ ws ∈ LL, ws ≠ []) → ((LL.map fun ws => jn [59, 32] (ws.map (sg c1 c2))).map fun x => x.length + [44, 32].length).sum ≤ 4 * lsum LL
  | [], _ => Nat.le_refl _
  | ws :: LL, h => by
    have h1 := clean0_len (c1 := c1) (c2 := c2) (LL := LL) fun v hv => h v (.tail _ hv)
    have h2 := jn_len [59, 32] (ws.map (sg c1 c2))
    have h3 := ws_len (c1 := c1) (c2 := c2) ws
    have h4 : 1 ≤ (ws.map fun w => w.length + 1).sum := by
      have := h ws (.head _)
      cases ws with
      | nil => exact absurd rfl this
      | cons w r => simp; omega
    unfold lsum at h1 ⊢
    rw [List.map_cons, List.map_cons, List.sum_cons, List.map_cons, List.sum_cons]
    show _ + 2 + _ ≤ _
    omega
theorem cleanT_len {c1 c2 : UInt8} {LL : List (List (List Int))} {p : Nat} (hp : p < 3) (h : ∀ ws ∈ LL, ws ≠ []) : (cleanT c1 c2 p LL).length ≤ 4 * lsum LL + 5 := by
  have h1 := clean0_len (c1 := c1) (c2 := c2) h
  have h2 := jn_len [44, 32] (LL.map fun ws => jn [59, 32] (ws.map (sg c1 c2)))
  have h3 : (clean0 c1 c2 LL).length ≤ 4 * lsum LL := Nat.le_trans h2 h1
  unfold cleanT
  split
  · omega
  · simp; omega
theorem clean0_le {c1 c2 : UInt8} {LL : List (List (List Int))} {p : Nat} : (clean0 c1 c2 LL).length ≤ (cleanT c1 c2 p LL).length := by
  unfold cleanT
  split
  · exact Nat.le_refl _
  · simp
theorem cleanT_128 {c1 c2 : UInt8} {LL : List (List (List Int))} {p : Nat} (h : LowL LL) : ∀ c ∈ cleanT c1 c2 p LL, c < 128 := by
  have h0 : ∀ c ∈ clean0 c1 c2 LL, c < 128 := fun c hc => by
    rcases jn_mem _ _ c hc with hc | ⟨x, hx, hc⟩
    · simp at hc; omega
    · obtain ⟨ws, hws, rfl⟩ := List.mem_map.mp hx
      rcases jn_mem _ _ c hc with hc | ⟨x, hx, hc⟩
      · simp at hc; omega
      · obtain ⟨w, hw, rfl⟩ := List.mem_map.mp hx
        obtain ⟨f, hf, rfl⟩ := List.mem_map.mp hc
        have := ((h ws hws).2 w hw).2 f hf
        exact (sgn_low this.1 this.2).2
  unfold cleanT
  split
  · exact h0
  · intro c hc
    rw [List.append_assoc, List.append_assoc] at hc
    rcases List.mem_append.mp hc with hc | hc
    · exact h0 c hc
    · rcases List.mem_append.mp hc with hc | hc
      · simp at hc; omega
      · rcases List.mem_append.mp hc with hc | hc
        · rw [List.eq_of_mem_replicate hc]; decide
        · simp at hc; omega
theorem txt_128 {c1 c2 : UInt8} {cm : Int} (M : Mk c1 c2 cm) {ns : List Int} {p : Nat} (h : ∀ f ∈ ns, 0 ≤ f ∧ f < 64) : ∀ c ∈ txt c1 c2 ns p, c < 128 := by
  intro c hc
  rcases List.mem_append.mp hc with hc | hc
  · obtain ⟨f, hf, rfl⟩ := List.mem_map.mp hc
    obtain ⟨h0, h1⟩ := h f hf
    by_cases h2 : f < 62
    · exact (sgn_low h0 h2).2
    · obtain ⟨e1, e2, _⟩ := mk_sep M
      rcases hi_two M ⟨h0, h1⟩ h2 with rfl | rfl
      · rw [e1]; decide
      · rw [e2]; decide
  · rw [List.eq_of_mem_replicate hc]; decide
theorem due_mem {c1 c2 p : Nat} {LL : List (List (List Int))} (hp : p < 3) (hL : p = 0 ∨ ∃ LL' ws' w, LL = LL' ++ [ws' ++ [w]]) (hn : ∀ ws ∈ LL, ws ≠ []) {ps : List Pr} (h : ps ∈ due c1 c2 p LL) : ps ≠ [] ∧ ∀ w ∈ ps, w.2 = none ∨ w.2 = some [] ∨ w.2 = some [61] := by
  have key : ∀ ws : List (List Int), ∀ x ∈ ws.map (wP c1 c2), x.2 = none := fun ws x hx => by
    obtain ⟨w, _, rfl⟩ := List.mem_map.mp hx; rfl
  by_cases hp0 : p = 0
  · subst hp0
    obtain ⟨ws, hws, rfl⟩ := List.mem_map.mp (show ps ∈ dueR c1 c2 LL from h)
    exact ⟨fun e => hn ws hws (List.map_eq_nil_iff.mp e), fun w hw => .inl (key ws w hw)⟩
  · obtain ⟨LL', ws', w, rfl⟩ := hL.resolve_left hp0
    rw [due_last hp0] at h
    rcases List.mem_append.mp h with h | h
    · obtain ⟨ws, hws, rfl⟩ := List.mem_map.mp h
      exact ⟨fun e => hn ws (List.mem_append_left _ hws) (List.map_eq_nil_iff.mp e), fun w hw => .inl (key ws w hw)⟩
    · rw [List.mem_singleton.mp h]
      refine ⟨by simp, fun x hx => ?_⟩
      rcases List.mem_append.mp hx with hx | hx
      · exact .inl (key ws' x hx)
      · rw [List.mem_singleton.mp hx]
        obtain rfl | rfl : p = 1 ∨ p = 2 := by omega
        · exact .inr (.inl rfl)
        · exact .inr (.inr rfl)
theorem nS_wP {c1 c2 : Nat} : ∀ ws : List (List Int), nS (ws.map (wP c1 c2)) = 0
  | [] => rfl
  | w :: ws => by rw [List.map_cons, nS_cons, nS_wP ws]; rfl
theorem nL_dueR {c1 c2 : Nat} : ∀ LL : List (List (List Int)), nL (dueR c1 c2 LL) = 0
  | [] => rfl
  | ws :: LL => by
    show nS (ws.map (wP c1 c2)) + nL (dueR c1 c2 LL) = 0
    rw [nS_wP, nL_dueR LL]
theorem nS_app (a b : List Pr) : nS (a ++ b) = nS a + nS b := by simp [nS]
theorem nL_app (a b : List (List Pr)) : nL (a ++ b) = nL a + nL b := by simp [nL]
theorem nL_due {c1 c2 p : Nat} {LL : List (List (List Int))} (hL : p = 0 ∨ ∃ LL' ws' w, LL = LL' ++ [ws' ++ [w]]) : nL (due c1 c2 p LL) ≤ 1 := by
  by_cases hp0 : p = 0
  · subst hp0
    rw [show due c1 c2 0 LL = dueR c1 c2 LL from rfl, nL_dueR]
    decide
  · obtain ⟨LL', ws', w, rfl⟩ := hL.resolve_left hp0
    rw [due_last hp0, nL_app, nL_dueR]
    show 0 + (nS _ + 0) ≤ 1
    rw [nS_app, nS_wP]
    exact Nat.le_refl _
theorem jn_sub (sep : List Nat) : ∀ (xs : List (List Nat)) (x : List Nat) (c : Nat), x ∈ xs → c ∈ x → c ∈ jn sep xs
  | [], _, _, h, _ => nomatch h
  | [y], x, c, h, hc => by rw [← List.mem_singleton.mp h]; exact hc
  | y :: z :: r, x, c, h, hc => by
    rw [show jn sep (y :: z :: r) = y ++ sep ++ jn sep (z :: r) from rfl]
    rcases List.mem_cons.mp h with rfl | h
    · exact List.mem_append_left _ (List.mem_append_left _ hc)
    · exact List.mem_append_right _ (jn_sub sep (z :: r) x c h hc)
theorem strOk_S {l : List Nat} (h : ∀ c ∈ l, c < 128) : PySem.PyData.canLay0 (.str (S l)) = true := by
  show ((S l).cps.all (· < 0x110000)) = true
  rw [Array.all_eq_true_iff_forall_mem]
  intro c hc
  have := h c (by simpa using hc)
  simp
  omega
theorem can_res {r : List (List Pr)} (h : ∀ c ∈ jnl r, c < 128) : (resD r).canLay0 = true := by
  refine can_all fun d hd => ?_
  obtain ⟨p, hp, rfl⟩ := List.mem_map.mp hd
  refine can_all fun d hd => ?_
  obtain ⟨⟨k, v⟩, hw, rfl⟩ := List.mem_map.mp hd
  have h2 : ∀ c ∈ pairS (k, v), c < 128 := fun c hc => h c (jn_sub _ _ (jnp p) c (List.mem_map.mpr ⟨p, hp, rfl⟩) (jn_sub _ _ (pairS (k, v)) c (List.mem_map.mpr ⟨(k, v), hw, rfl⟩) hc))
  cases v with
  | none =>
    refine can_all fun d hd => ?_
    rcases List.mem_cons.mp hd with rfl | hd
    · exact strOk_S (l := k) h2
    · rw [List.mem_singleton.mp hd]; rfl
  | some v =>
    refine can_all fun d hd => ?_
    rcases List.mem_cons.mp hd with rfl | hd
    · exact strOk_S (l := _) fun c hc => h2 c (by simp only [pairS, List.mem_append]; simp [hc])
    · rw [List.mem_singleton.mp hd]
      exact strOk_S (l := _) fun c hc => h2 c (by simp only [pairS, List.mem_append]; simp [hc])
theorem jnl_sizes {DU : List (List Pr)} {n : Nat} (h : (jnl DU).length < n) : DU.length < n + 1 ∧ ∀ ps ∈ DU, ps.length < n + 1 ∧ (jnp ps).length < n ∧ ∀ w ∈ ps, (pairS w).length < n := by
  have h1 := jn_cnt [44, 32] (by simp) (DU.map jnp)
  rw [List.length_map] at h1
  refine ⟨by unfold jnl at h; omega, fun ps hps => ?_⟩
  have h2 : (jnp ps).length ≤ (jnl DU).length := jn_mem_len [44, 32] (DU.map jnp) _ (List.mem_map.mpr ⟨ps, hps, rfl⟩)
  have h3 := jn_cnt [59, 32] (by simp) (ps.map pairS)
  rw [List.length_map] at h3
  refine ⟨by unfold jnp at h2; omega, by omega, fun w hw => ?_⟩
  have h4 : (pairS w).length ≤ (jnp ps).length := jn_mem_len [59, 32] (ps.map pairS) _ (List.mem_map.mpr ⟨w, hw, rfl⟩)
  omega
end Mine
end
section
open PySem PySem.W PyProof.Rows PySem.Calls
set_option Elab.async false
set_option maxRecDepth 100000
set_option maxHeartbeats 8000000
namespace Mine
theorem octs_len (ns : List Int) : (octs ns).1.length = ns.length * 3 / 4 := by
  have key : ∀ (ns : List Int) (o : List Int × Int × Int) (n : Nat), o.2.2 = bB n → o.1.length = n * 3 / 4 → (ns.foldl ostep o).1.length = (n + ns.length) * 3 / 4 := by
    intro ns
    induction ns with
    | nil => intro o n _ h; exact h
    | cons f ns ih =>
      intro o n h1 h2
      have h3 : (ostep o f).1.length = (n + 1) * 3 / 4 := by
        obtain ⟨os, he, b⟩ := o
        simp only at h1 h2
        subst h1
        unfold ostep bB
        obtain h | h | h | h : n % 4 = 0 ∨ n % 4 = 1 ∨ n % 4 = 2 ∨ n % 4 = 3 := by omega
        all_goals simp [h, h2]; omega
      have := ih (ostep o f) (n + 1) (ostep_bits h1) h3
      rw [List.foldl_cons, this, List.length_cons]
      congr 2
      omega
  have := key ns ([], 0, 0) 0 rfl rfl
  rwa [Nat.zero_add] at this
theorem vr_len : ∀ (ns : List Int), Vr ns → ns.length % 4 ≠ 1
  | [], _ => by decide
  | [_], v => v.elim
  | [_, _], _ => by simp
  | [_, _, _], _ => by simp
  | _ :: _ :: _ :: _ :: r, v => by
    have := vr_len r v
    simp only [List.length_cons]
    omega
theorem vr_last : ∀ (ns : List Int), Vr ns → (∀ f ∈ ns, 0 ≤ f ∧ f < 64) → padsOf ns.length = 0 ∨ ∃ ns' f, ns = ns' ++ [f] ∧ f < 62
  | [], _, _ => .inl rfl
  | [_], v, _ => v.elim
  | [a, b], v, h => .inr ⟨[a], b, rfl, by
      have v' : b % 16 = 0 := v
      have := h b (by simp)
      omega⟩
  | [a, b, c], v, h => .inr ⟨[a, b], c, rfl, by
      have v' : c % 4 = 0 := v
      have := h c (by simp)
      omega⟩
  | a :: b :: c :: d :: r, v, h => by
    have := vr_last r v fun f hf => h f (by simp [hf])
    have e : padsOf (a :: b :: c :: d :: r).length = padsOf r.length := by
      unfold padsOf
      simp only [List.length_cons]
      rw [show (r.length + 1 + 1 + 1 + 1) % 4 = r.length % 4 by omega]
    rw [e]
    refine this.imp id ?_
    rintro ⟨ns', f, rfl, hf⟩
    exact ⟨a :: b :: c :: d :: ns', f, rfl, hf⟩
theorem fmod4 (n : Nat) : (n : Int).fmod 4 = ((n % 4 : Nat) : Int) := by
  rw [Int.fmod_eq_emod_of_nonneg _ (by decide)]; exact (Int.natCast_emod n 4).symm
noncomputable def pr (r : Nat) : Nat := if r = 0 then 0 else 4 - r
theorem padsOf_pr (n : Nat) : padsOf n = pr (n % 4) := rfl
theorem pads_lt {n : Nat} (h : n % 4 ≠ 1) : padsOf n < 3 ∧ (padsOf n = 0 ∨ (1 < n % 4 ∧ n % 4 + padsOf n = 4)) ∧ ((n : Int).fmod 4 ≠ 1 ∧ ((n : Int).fmod 4 = 0 ∨ 4 ≤ (n : Int).fmod 4 + (padsOf n : Int))) := by
  rw [fmod4, padsOf_pr]
  have key : ∀ r : Fin 4, r.val ≠ 1 → pr r.val < 3 ∧ (pr r.val = 0 ∨ (1 < r.val ∧ r.val + pr r.val = 4)) ∧ (((r.val : Nat) : Int) ≠ 1 ∧ (((r.val : Nat) : Int) = 0 ∨ 4 ≤ ((r.val : Nat) : Int) + (pr r.val : Int))) := by decide
  exact key ⟨n % 4, Nat.mod_lt _ (by decide)⟩ h
theorem pads_eq {ns : List Int} (v : Vr ns) : Int.fmod (-((byteArr (octs ns).1).size : Int)) 3 = (padsOf ns.length : Int) := by
  have h := vr_len ns v
  rw [byteArr_size, octs_len, Int.fmod_eq_emod_of_nonneg _ (by decide), padsOf_pr]
  have hk := Nat.div_add_mod ns.length 4
  have h4 := Nat.mod_lt ns.length (show 0 < 4 by decide)
  generalize ns.length % 4 = r at *
  generalize ns.length / 4 = k at *
  generalize ns.length = n at *
  subst hk
  have e : (4 * k + r) * 3 / 4 = 3 * k + r * 3 / 4 := by omega
  rw [e]
  have key : ∀ r : Fin 4, r.val ≠ 1 → (r.val = 0 ∧ pr r.val = 0 ∧ r.val * 3 / 4 = 0) ∨ (pr r.val = 2 ∧ r.val * 3 / 4 = 1) ∨ (pr r.val = 1 ∧ r.val * 3 / 4 = 2) := by decide
  rcases key ⟨r, h4⟩ h with ⟨_, a, b⟩ | ⟨a, b⟩ | ⟨a, b⟩ <;> (simp only at a b; rw [a, b]; omega)
theorem whole_rec (a b c d : Int) (r : List Int) : whole (a :: b :: c :: d :: r) = a :: b :: c :: d :: whole r := by
  have hl : (a :: b :: c :: d :: r).length = r.length + 4 := rfl
  have hm : (((a :: b :: c :: d :: r).length : Nat) : Int).fmod 4 = (r.length : Int).fmod 4 := by
    rw [fmod4, fmod4, hl, Nat.add_mod_right]
  unfold whole
  rw [hm]
  cases r with
  | nil => rfl
  | cons x r =>
    have e1 : (-1 + ((a :: b :: c :: d :: x :: r).length : Int)).toNat = r.length + 4 := by simp only [List.length_cons]; omega
    have e2 : (-1 + ((x :: r).length : Int)).toNat = r.length := by simp only [List.length_cons]; omega
    rw [e1, e2]
    have e3 : (a :: b :: c :: d :: x :: r).getD (r.length + 4) 0 = (x :: r).getD r.length 0 := rfl
    have e4 : (a :: b :: c :: d :: x :: r).take ((a :: b :: c :: d :: x :: r).length - 1) = a :: b :: c :: d :: (x :: r).take ((x :: r).length - 1) := rfl
    rw [e3, e4]
    (repeat' split) <;> rfl
theorem fig16 {y : Int} (h : 0 ≤ y ∧ y < 64) : (y.fdiv 16 * 16) % 16 = 0 ∧ 0 ≤ y.fdiv 16 * 16 ∧ y.fdiv 16 * 16 < 64 ∧ (y.fdiv 4 * 4) % 4 = 0 ∧ 0 ≤ y.fdiv 4 * 4 ∧ y.fdiv 4 * 4 < 64 := by
  exact fin64 (P := fun y => (y.fdiv 16 * 16) % 16 = 0 ∧ 0 ≤ y.fdiv 16 * 16 ∧ y.fdiv 16 * 16 < 64 ∧ (y.fdiv 4 * 4) % 4 = 0 ∧ 0 ≤ y.fdiv 4 * 4 ∧ y.fdiv 4 * 4 < 64) (by decide +kernel) h.1 h.2
theorem whole_ok : ∀ {ns : List Int}, (∀ f ∈ ns, 0 ≤ f ∧ f < 64) → Vr (whole ns) ∧ (∀ f ∈ whole ns, 0 ≤ f ∧ f < 64) ∧ (whole ns).length ≤ ns.length + 1
  | [], _ => ⟨trivial, fun _ h => (nomatch h), Nat.zero_le _⟩
  | [x], h => ⟨show (0 : Int) % 16 = 0 by decide, List.forall_mem_cons.mpr ⟨h x (.head _), List.forall_mem_cons.mpr ⟨by decide, fun _ h => nomatch h⟩⟩, Nat.le_refl _⟩
  | [x, y], h => by
    obtain ⟨a, b, c, _⟩ := fig16 (h y (.tail _ (.head _)))
    exact ⟨a, List.forall_mem_cons.mpr ⟨h x (.head _), List.forall_mem_cons.mpr ⟨⟨b, c⟩, fun _ h => nomatch h⟩⟩, Nat.le_succ _⟩
  | [x, y, z], h => by
    obtain ⟨_, _, _, a, b, c⟩ := fig16 (h z (.tail _ (.tail _ (.head _))))
    exact ⟨a, List.forall_mem_cons.mpr ⟨h x (.head _), List.forall_mem_cons.mpr ⟨h y (.tail _ (.head _)), List.forall_mem_cons.mpr ⟨⟨b, c⟩, fun _ h => nomatch h⟩⟩⟩, Nat.le_succ _⟩
  | a :: b :: c :: d :: r, h => by
    obtain ⟨v, f, l⟩ := whole_ok (ns := r) fun f hf => h f (.tail _ (.tail _ (.tail _ (.tail _ hf))))
    rw [whole_rec]
    exact ⟨v, List.forall_mem_cons.mpr ⟨h a (.head _), List.forall_mem_cons.mpr ⟨h b (.tail _ (.head _)), List.forall_mem_cons.mpr ⟨h c (.tail _ (.tail _ (.head _))), List.forall_mem_cons.mpr ⟨h d (.tail _ (.tail _ (.tail _ (.head _)))), f⟩⟩⟩⟩, Nat.add_le_add_right l 4⟩
end Mine
end
section
open PySem PySem.W PyProof.Rows PySem.Calls
set_option Elab.async false
set_option maxRecDepth 100000
set_option maxHeartbeats 8000000
namespace Mine
/-- a list stays as it is, whether it lies in the ground or is new -/
theorem list_keep {g h : Heap} {L r : Addr} {m : Str → Option Value} {xs : Array Value} (F : Fr g L h m) (x : h.IsList r xs) : ∃ led, News g L h led ∧ (∀ p ∈ led, p.1 = r) ∧ ∀ h' m', Fr g L h' m' → (∀ p ∈ led, h'.get? p.1 = some p.2) → h'.IsList r xs := by
  obtain ⟨o, ho, hd⟩ := x
  cases q : g.get? r with
  | some o' =>
    have := F.keep _ _ q
    rw [ho] at this
    cases this
    exact ⟨[], News.nil, fun _ h => (nomatch h), fun h' m' F' _ => ⟨o, F'.keep _ _ q, hd⟩⟩
  | none =>
    have hrL : r ≠ L := fun e => by
      obtain ⟨oL, _, _, hL, hLd, _⟩ := F.ns
      rw [← e, ho] at hL
      cases hL
      obtain ⟨_, _, hd2⟩ := hd
      rw [hd2] at hLd
      cases hLd
    exact ⟨[(r, o)], List.forall_mem_cons.mpr ⟨⟨ho, hrL, q⟩, fun _ h => (nomatch h)⟩, fun p hp => by rw [List.mem_singleton.mp hp], fun h' m' F' n' => ⟨o, n' _ (.head _), hd⟩⟩
theorem mul_p {p : Nat} (h : p < 3) : Txt.mul (Str.ofString "=") (p : Int) = S (List.replicate p 61) := by
  obtain rfl | rfl | rfl : p = 0 ∨ p = 1 ∨ p = 2 := by omega
  all_goals decide
local macro_rules | `(tactic| k_all) => `(tactic| assumption)
theorem law4 {w : World} {dp un : Nat} {fr : Option (List Env)} {gd : Option (List Code)} {mean : ExcName → Option Value} {pp : Program} {ll : List Str} {mg mb : Str → Option Value} {Q : Flow → Shared → Prop} {E : Value → Shared → Prop} {g h : Heap} {gs : Array GenState} {drx : Drawn} {tk : Nat} {os : OsState}
   {L fa ra : Addr} {cd : Value} {m : Str → Option Value} {co : Obj} {vs : List Value} {ns : List Int} {tm tb : Tok} {cm : Int} {c1 c2 : UInt8}
   (X : (hp w.params).In g) (T : Top pp ll mean mg mb g) (K : Below (At dp un fr gd) g [] g) (hdp : dp + 6 < 400) (hu : un + 20 * 6 < 4000)
   (F : Fr g L h m) (hb : Bd m [(Str.ofString "row", .ref ra), (Str.ofString "comma", .int cm tm)])
   (hrow : h.IsList ra vs.toArray) (hi : IntsAre vs ns) (hn : ns.length ≤ 21) (hfig : ∀ f ∈ ns, 0 ≤ f ∧ f < 64) (hvr : Vr ns)
   (N : News g L h [(L + 1, co), (89, tabObj #[]), (72, tabObj #[])]) (hcd : co.data = .cell (some (.bytes #[c1, c2] tb))) (hL89 : 89 < L) (M : Mk c1 c2 cm)
   (hret : ∀ h' tk' m' led' ps ps', Fr g L h' m' → News g L h' ((89, tabObj ps) :: (72, tabObj ps') :: led') → Q (.ret (.bool true)) { heap := h', gens := gs, drawn := drx, toks := tk', os := os }) :
   wpAny (model Challenge.rw_pa0034_01.row.prog w) ((At dp un fr gd).deeper (envOfC (Str.ofString "law") (fS 36) L fa cd)) (execs ((fB 36).drop 4) (envOfC (Str.ofString "law") (fS 36) L fa cd)) Q E { heap := h, gens := gs, drawn := drx, toks := tk, os := os } := by
  revert X
  k_fill
  intro X
  refine' law_as ?kS ?kB ?_
  case kS => (conv => lhs; whnf)
  case kB => (conv => lhs; whnf)
  have F1 := fr_wr' _ hb.all F
  clear F hb
  refine wpAny_noRaise ?_
  obtain ⟨led0, N0, hr0, keep0⟩ := list_keep F1 hrow
  have N1 : News g L h ((L + 1, co) :: (89, tabObj #[]) :: (72, tabObj #[]) :: led0) := List.forall_mem_cons.mpr ⟨N _ (.head _), List.forall_mem_cons.mpr ⟨N _ (.tail _ (.head _)), List.forall_mem_cons.mpr ⟨N _ (.tail _ (.tail _ (.head _))), N0⟩⟩⟩
  have hln := vr_len ns hvr
  obtain ⟨hp3, hp4, hp5⟩ := pads_lt hln
  have hpe := pads_eq hvr
  have hlast := vr_last ns hvr hfig
  have hmul := mul_p hp3
  have henc := enc_txt M hvr hfig
  have h6 : (6000 : Nat) ≤ sizeLine := by decide
  have hosz : (byteArr (octs ns).1).size < 1000 := by rw [byteArr_size, octs_len]; omega
  generalize padsOf ns.length = p at *
  clear N N0
  repeat ((fail_if_success (with_reducible show wpAny _ _ (PySem.call (Value.ref 189) _ _) _ _ _)); (first | ((with_reducible show wpAny _ _ (binaryOp Operator.Add (Value.str _ _) (Value.str _ _)) _ _ _); k_dflt (refine' add_str ?_ ?z; (case z => first | assumption))) | ((with_reducible show wpAny _ _ (PySem.call (Value.builtin "str.encode") _ _) _ _ _); k_dflt (refine encode_call (by assumption) (by assumption) ?_)) | ((with_reducible show wpAny _ _ (getMethod (Value.str _ _) _ _) _ _ _); k_dflt (refine gm_encode ?_)) | ((with_reducible show wpAny _ _ (eval (Expr.Name _ _) _) _ _ _); ((with_reducible show wpAny _ _ (eval (Expr.Name (Str.ofString "marks") _) (envOfC _ _ _ _ _)) _ _ _); k_dflt (refine' cellName ?k1 ?k2 ?k3 ?_ ?a ?b ?c; (case k1 => k_asm); (case k2 => repeat (first | assumption | refine List.Mem.tail _ ?_)); (case k3 => assumption); (case a => exact rfl); (case b => exact rfl); (case c => exact rfl)))) | walk1))
  refine octets_ctr (X.keeps F1.keep) (T.keeps F1.keep) (by (try simp only [Around.deeper]); omega) (by (try simp only [Around.deeper]); omega) hrow hi (by omega) hfig (fun t2 h2 tk2 st2 => ?_)
  have F2 := fr_after F1 st2
  have N2 := news_after N1 st2
  clear F1 N1 hrow st2
  repeat ((fail_if_success (with_reducible show wpAny _ _ (storeName _ (Str.ofString "pads") _) _ _ _)); (first | ((with_reducible show wpAny _ _ (binaryOp Operator.Add (Value.str _ _) (Value.str _ _)) _ _ _); k_dflt (refine' add_str ?_ ?z; (case z => first | assumption))) | ((with_reducible show wpAny _ _ (PySem.call (Value.builtin "str.encode") _ _) _ _ _); k_dflt (refine encode_call (by assumption) (by assumption) ?_)) | ((with_reducible show wpAny _ _ (getMethod (Value.str _ _) _ _) _ _ _); k_dflt (refine gm_encode ?_)) | ((with_reducible show wpAny _ _ (eval (Expr.Name _ _) _) _ _ _); ((with_reducible show wpAny _ _ (eval (Expr.Name (Str.ofString "marks") _) (envOfC _ _ _ _ _)) _ _ _); k_dflt (refine' cellName ?k1 ?k2 ?k3 ?_ ?a ?b ?c; (case k1 => k_asm); (case k2 => repeat (first | assumption | refine List.Mem.tail _ ?_)); (case k3 => assumption); (case a => exact rfl); (case b => exact rfl); (case c => exact rfl)))) | walk1))
  rw [hpe]
  repeat ((fail_if_success (with_reducible show wpAny _ _ (PySem.call (Value.ref 182) _ _) _ _ _)); (first | ((with_reducible show wpAny _ _ (binaryOp Operator.Add (Value.str _ _) (Value.str _ _)) _ _ _); k_dflt (refine' add_str ?_ ?z; (case z => first | assumption))) | ((with_reducible show wpAny _ _ (PySem.call (Value.builtin "str.encode") _ _) _ _ _); k_dflt (refine encode_call (by assumption) (by assumption) ?_)) | ((with_reducible show wpAny _ _ (getMethod (Value.str _ _) _ _) _ _ _); k_dflt (refine gm_encode ?_)) | ((with_reducible show wpAny _ _ (eval (Expr.Name _ _) _) _ _ _); ((with_reducible show wpAny _ _ (eval (Expr.Name (Str.ofString "marks") _) (envOfC _ _ _ _ _)) _ _ _); k_dflt (refine' cellName ?k1 ?k2 ?k3 ?_ ?a ?b ?c; (case k1 => k_asm); (case k2 => repeat (first | assumption | refine List.Mem.tail _ ?_)); (case k3 => assumption); (case a => exact rfl); (case b => exact rfl); (case c => exact rfl)))) | walk1))
  rename Fr _ _ _ _ => F3; rename News _ _ _ _ => N3
  have kr : ∀ h' m', Fr g L h' m' → News g L h' ((L + 1, co) :: (89, tabObj #[]) :: (72, tabObj #[]) :: led0) → h'.IsList ra vs.toArray := fun h' m' F' N' => keep0 h' m' F' fun p hp => (N' p (.tail _ (.tail _ (.tail _ hp)))).1
  refine signs_ctr (X.keeps F3.keep) (T.keeps F3.keep) (by (try simp only [Around.deeper]); omega) (by (try simp only [Around.deeper]); omega) (kr _ _ F3 N3) hi (by omega) hfig (fun t3 h3 tk3 st3 => ?_)
  have F4 := fr_after F3 st3
  have N4 := news_after N3 st3
  clear F3 N3 st3
  have s1 : (S (ns.map (sgn c1.toNat c2.toNat))).length + (Txt.mul (Str.ofString "=") (p : Int)).length ≤ sizeLine := by
    rw [hmul, S_length, S_length, List.length_map, List.length_replicate]; omega
  repeat ((fail_if_success (with_reducible show wpAny _ _ (storeName _ (Str.ofString "text") _) _ _ _)); (first | ((with_reducible show wpAny _ _ (binaryOp Operator.Add (Value.str _ _) (Value.str _ _)) _ _ _); k_dflt (refine' add_str ?_ ?z; (case z => first | assumption))) | ((with_reducible show wpAny _ _ (PySem.call (Value.builtin "str.encode") _ _) _ _ _); k_dflt (refine encode_call (by assumption) (by assumption) ?_)) | ((with_reducible show wpAny _ _ (getMethod (Value.str _ _) _ _) _ _ _); k_dflt (refine gm_encode ?_)) | ((with_reducible show wpAny _ _ (eval (Expr.Name _ _) _) _ _ _); ((with_reducible show wpAny _ _ (eval (Expr.Name (Str.ofString "marks") _) (envOfC _ _ _ _ _)) _ _ _); k_dflt (refine' cellName ?k1 ?k2 ?k3 ?_ ?a ?b ?c; (case k1 => k_asm); (case k2 => repeat (first | assumption | refine List.Mem.tail _ ?_)); (case k3 => assumption); (case a => exact rfl); (case b => exact rfl); (case c => exact rfl)))) | walk1))
  rw [hmul, S_append]
  have ht128 := txt_128 (p := p) M hfig
  have htl : (txt c1 c2 ns p).length < 1000 := by unfold txt sg; rw [List.length_append, List.length_map, List.length_replicate]; omega
  have htl2 : (txt c1 c2 ns p).length < 100000 := by omega
  have hbt : (bts (txt c1 c2 ns p)).size < 1000 := by simpa using htl
  have eT : List.map (sgn c1.toNat c2.toNat) ns ++ List.replicate p 61 = txt c1 c2 ns p := rfl
  rw [eT]
  generalize hTX : txt c1 c2 ns p = TX at *
  repeat ((fail_if_success (with_reducible show wpAny _ _ (PySem.call (Value.ref 167) _ _) _ _ _)); (first | ((with_reducible show wpAny _ _ (binaryOp Operator.Add (Value.str _ _) (Value.str _ _)) _ _ _); k_dflt (refine' add_str ?_ ?z; (case z => first | assumption))) | ((with_reducible show wpAny _ _ (PySem.call (Value.builtin "str.encode") _ _) _ _ _); k_dflt (refine encode_call (by assumption) (by assumption) ?_)) | ((with_reducible show wpAny _ _ (getMethod (Value.str _ _) _ _) _ _ _); k_dflt (refine gm_encode ?_)) | ((with_reducible show wpAny _ _ (eval (Expr.Name _ _) _) _ _ _); ((with_reducible show wpAny _ _ (eval (Expr.Name (Str.ofString "marks") _) (envOfC _ _ _ _ _)) _ _ _); k_dflt (refine' cellName ?k1 ?k2 ?k3 ?_ ?a ?b ?c; (case k1 => k_asm); (case k2 => repeat (first | assumption | refine List.Mem.tail _ ?_)); (case k3 => assumption); (case a => exact rfl); (case b => exact rfl); (case c => exact rfl)))) | walk1))
  rename Fr _ _ _ _ => F5; rename News _ _ _ _ => N5
  refine b64encode_ctr (X.keeps F5.keep) (T.keeps F5.keep) (by (try simp only [Around.deeper]); omega) (by (try simp only [Around.deeper]); omega) hosz (fun t4 h5 tk4 st5 => ?_)
  rw [henc]
  have F6 := fr_after F5 st5
  have N6 := news_after N5 st5
  clear F5 N5 st5
  repeat ((fail_if_success (with_reducible show wpAny _ _ (compareOp _ _ _) _ _ _)); (first | ((with_reducible show wpAny _ _ (binaryOp Operator.Add (Value.str _ _) (Value.str _ _)) _ _ _); k_dflt (refine' add_str ?_ ?z; (case z => first | assumption))) | ((with_reducible show wpAny _ _ (PySem.call (Value.builtin "str.encode") _ _) _ _ _); k_dflt (refine encode_call (by assumption) (by assumption) ?_)) | ((with_reducible show wpAny _ _ (getMethod (Value.str _ _) _ _) _ _ _); k_dflt (refine gm_encode ?_)) | ((with_reducible show wpAny _ _ (eval (Expr.Name _ _) _) _ _ _); ((with_reducible show wpAny _ _ (eval (Expr.Name (Str.ofString "marks") _) (envOfC _ _ _ _ _)) _ _ _); k_dflt (refine' cellName ?k1 ?k2 ?k3 ?_ ?a ?b ?c; (case k1 => k_asm); (case k2 => repeat (first | assumption | refine List.Mem.tail _ ?_)); (case k3 => assumption); (case a => exact rfl); (case b => exact rfl); (case c => exact rfl)))) | walk1))
  (first | ((with_reducible show wpAny _ _ (binaryOp Operator.Add (Value.str _ _) (Value.str _ _)) _ _ _); k_dflt (refine' add_str ?_ ?z; (case z => first | assumption))) | ((with_reducible show wpAny _ _ (PySem.call (Value.builtin "str.encode") _ _) _ _ _); k_dflt (refine encode_call (by assumption) (by assumption) ?_)) | ((with_reducible show wpAny _ _ (getMethod (Value.str _ _) _ _) _ _ _); k_dflt (refine gm_encode ?_)) | ((with_reducible show wpAny _ _ (eval (Expr.Name _ _) _) _ _ _); ((with_reducible show wpAny _ _ (eval (Expr.Name (Str.ofString "marks") _) (envOfC _ _ _ _ _)) _ _ _); k_dflt (refine' cellName ?k1 ?k2 ?k3 ?_ ?a ?b ?c; (case k1 => k_asm); (case k2 => repeat (first | assumption | refine List.Mem.tail _ ?_)); (case k3 => assumption); (case a => exact rfl); (case b => exact rfl); (case c => exact rfl)))) | walk1)
  rw [show ((bts TX).toList != (bts TX).toList) = false from by simp]
  repeat ((fail_if_success (with_reducible show wpAny _ _ (PySem.call (Value.ref 175) _ _) _ _ _)); (first | ((with_reducible show wpAny _ _ (binaryOp Operator.Add (Value.str _ _) (Value.str _ _)) _ _ _); k_dflt (refine' add_str ?_ ?z; (case z => first | assumption))) | ((with_reducible show wpAny _ _ (PySem.call (Value.builtin "str.encode") _ _) _ _ _); k_dflt (refine encode_call (by assumption) (by assumption) ?_)) | ((with_reducible show wpAny _ _ (getMethod (Value.str _ _) _ _) _ _ _); k_dflt (refine gm_encode ?_)) | ((with_reducible show wpAny _ _ (eval (Expr.Name _ _) _) _ _ _); ((with_reducible show wpAny _ _ (eval (Expr.Name (Str.ofString "marks") _) (envOfC _ _ _ _ _)) _ _ _); k_dflt (refine' cellName ?k1 ?k2 ?k3 ?_ ?a ?b ?c; (case k1 => k_asm); (case k2 => repeat (first | assumption | refine List.Mem.tail _ ?_)); (case k3 => assumption); (case a => exact rfl); (case b => exact rfl); (case c => exact rfl)))) | walk1))
  rename Fr _ _ _ _ => F7; rename News _ _ _ _ => N7
  have hafold := afold_txt M hfig p
  have hsok := sok_txt M hfig hp4
  rw [hTX] at hafold hsok
  have hard : ARead (tr (mkt c1 c2 43 47) (bts TX)) := by
    unfold ARead
    rw [hafold]
    show qOf (octs ns).2.2 ≠ 1 ∧ (qOf (octs ns).2.2 = 0 ∨ 4 ≤ qOf (octs ns).2.2 + (p : Int))
    rw [qOf_octs]
    exact hp5
  have hrd : (afold (bI (tr (mkt c1 c2 43 47) (bts TX)))).1 = (octs ns).1 := by rw [hafold]; rfl
  refine b64decodeB_ctr (X.keeps F7.keep) (T.keeps F7.keep) (by (try simp only [Around.deeper]); omega) (by (try simp only [Around.deeper]); omega) (pushC K F7 rfl) hbt hsok hard (fun t5 h7 tk6 st7 => ?_)
  rw [hrd]
  have F8 := fr_after F7 st7
  have N8 := news_after N7 st7
  clear F7 N7 st7 hsok hard hrd hafold
  repeat ((fail_if_success (with_reducible show wpAny _ _ (compareOp _ _ _) _ _ _)); (first | ((with_reducible show wpAny _ _ (binaryOp Operator.Add (Value.str _ _) (Value.str _ _)) _ _ _); k_dflt (refine' add_str ?_ ?z; (case z => first | assumption))) | ((with_reducible show wpAny _ _ (PySem.call (Value.builtin "str.encode") _ _) _ _ _); k_dflt (refine encode_call (by assumption) (by assumption) ?_)) | ((with_reducible show wpAny _ _ (getMethod (Value.str _ _) _ _) _ _ _); k_dflt (refine gm_encode ?_)) | ((with_reducible show wpAny _ _ (eval (Expr.Name _ _) _) _ _ _); ((with_reducible show wpAny _ _ (eval (Expr.Name (Str.ofString "marks") _) (envOfC _ _ _ _ _)) _ _ _); k_dflt (refine' cellName ?k1 ?k2 ?k3 ?_ ?a ?b ?c; (case k1 => k_asm); (case k2 => repeat (first | assumption | refine List.Mem.tail _ ?_)); (case k3 => assumption); (case a => exact rfl); (case b => exact rfl); (case c => exact rfl)))) | walk1))
  (first | ((with_reducible show wpAny _ _ (binaryOp Operator.Add (Value.str _ _) (Value.str _ _)) _ _ _); k_dflt (refine' add_str ?_ ?z; (case z => first | assumption))) | ((with_reducible show wpAny _ _ (PySem.call (Value.builtin "str.encode") _ _) _ _ _); k_dflt (refine encode_call (by assumption) (by assumption) ?_)) | ((with_reducible show wpAny _ _ (getMethod (Value.str _ _) _ _) _ _ _); k_dflt (refine gm_encode ?_)) | ((with_reducible show wpAny _ _ (eval (Expr.Name _ _) _) _ _ _); ((with_reducible show wpAny _ _ (eval (Expr.Name (Str.ofString "marks") _) (envOfC _ _ _ _ _)) _ _ _); k_dflt (refine' cellName ?k1 ?k2 ?k3 ?_ ?a ?b ?c; (case k1 => k_asm); (case k2 => repeat (first | assumption | refine List.Mem.tail _ ?_)); (case k3 => assumption); (case a => exact rfl); (case b => exact rfl); (case c => exact rfl)))) | walk1)
  rw [show ((byteArr (octs ns).1).toList != (byteArr (octs ns).1).toList) = false from by simp]
  repeat ((fail_if_success (with_reducible show wpAny _ _ (execs (Stmt.Assign [Expr.Name (Str.ofString "lists") _] _ _ :: _) _) _ _ _)); (first | ((with_reducible show wpAny _ _ (binaryOp Operator.Add (Value.str _ _) (Value.str _ _)) _ _ _); k_dflt (refine' add_str ?_ ?z; (case z => first | assumption))) | ((with_reducible show wpAny _ _ (PySem.call (Value.builtin "str.encode") _ _) _ _ _); k_dflt (refine encode_call (by assumption) (by assumption) ?_)) | ((with_reducible show wpAny _ _ (getMethod (Value.str _ _) _ _) _ _ _); k_dflt (refine gm_encode ?_)) | ((with_reducible show wpAny _ _ (eval (Expr.Name _ _) _) _ _ _); ((with_reducible show wpAny _ _ (eval (Expr.Name (Str.ofString "marks") _) (envOfC _ _ _ _ _)) _ _ _); k_dflt (refine' cellName ?k1 ?k2 ?k3 ?_ ?a ?b ?c; (case k1 => k_asm); (case k2 => repeat (first | assumption | refine List.Mem.tail _ ?_)); (case k3 => assumption); (case a => exact rfl); (case b => exact rfl); (case c => exact rfl)))) | walk1))
  rename Fr _ _ _ _ => F9; rename News _ _ _ _ => N9
  dsimp only
  have hlow := lowL_llists (cm := cm) fun f hf => (hfig f hf).1
  have hsum := lsum_llists (cm := cm) ns
  have hL := last_llists (cm := cm) hlast
  have hcl := cleanT_len (c1 := c1) (c2 := c2) hp3 fun ws hw => (hlow ws hw).1
  have hcd2 := clean0_le (c1 := c1) (c2 := c2) (LL := llists cm ns) (p := p)
  have hj := jnl_due (c1 := c1) (c2 := c2) hL
  have hsz := jnl_sizes (DU := due c1.toNat c2.toNat p (llists cm ns)) (n := 999) (by rw [hj]; omega)
  have hc128 := cleanT_128 (c1 := c1) (c2 := c2) (p := p) hlow
  have hdm := fun ps h => due_mem (c1 := c1.toNat) (c2 := c2.toNat) (ps := ps) hp3 hL (fun ws hw => (hlow ws hw).1) h
  have hn2 : Ne2 (llists cm ns) := fun ws hw => ⟨(hlow ws hw).1, fun w hv => ((hlow ws hw).2 w hv).1⟩
  have hfl : ∀ ws ∈ llists cm ns, ∀ w ∈ ws, ∀ f ∈ w, 0 ≤ f ∧ f < 64 := fun ws hw w hv f hf => ⟨(((hlow ws hw).2 w hv).2 f hf).1, by have := (((hlow ws hw).2 w hv).2 f hf).2; omega⟩
  have hpt := par_text M hp3 hfig hlast
  rw [hTX] at hpt
  have hjm : ∀ ws ∈ llists cm ns, (jn [59, 32] (ws.map (sg c1 c2))).length < 1000 := fun ws hw => by
    have h1 : (jn [59, 32] (ws.map (sg c1 c2))).length ≤ (clean0 c1 c2 (llists cm ns)).length := jn_mem_len [44, 32] ((llists cm ns).map fun ws => jn [59, 32] (ws.map (sg c1 c2))) _ (List.mem_map.mpr ⟨ws, hw, rfl⟩)
    omega
  have hLl : (llists cm ns).length < 1000 := by
    have h1 := jn_cnt [44, 32] (by simp) ((llists cm ns).map fun ws => jn [59, 32] (ws.map (sg c1 c2)))
    have h2 : (jn [44, 32] ((llists cm ns).map fun ws => jn [59, 32] (ws.map (sg c1 c2)))).length = (clean0 c1 c2 (llists cm ns)).length := rfl
    rw [List.length_map] at h1
    omega
  have hkf : ∀ f ∈ kall cm (llists cm ns), 0 ≤ f ∧ f < 64 := by
    generalize llists cm ns = LL at hn2 hfl
    cases LL with
    | nil => intro f hf; exact nomatch hf
    | cons ws R =>
      rw [kall_flat hn2]
      intro f hf
      rcases List.mem_append.mp hf with hf | hf
      · exact wfl_fig M (hfl ws (.head _)) f hf
      · obtain ⟨v, hv, hf⟩ := List.mem_flatMap.mp hf
        rcases List.mem_cons.mp hf with rfl | hf
        · obtain ⟨_, _, h1, h2, _⟩ := mk_sep M
          omega
        · exact wfl_fig M (hfl v (.tail _ hv)) f hf
  exact tail2 X T K hdp hu F9 ⟨rfl, rfl, rfl, rfl, trivial⟩ (kr _ _ F9 N9) hi (by omega) hfig (List.forall_mem_cons.mpr ⟨N9 _ (.head _), List.forall_mem_cons.mpr ⟨N9 _ (.tail _ (.head _)), List.forall_mem_cons.mpr ⟨N9 _ (.tail _ (.tail _ (.head _))), News.nil⟩⟩⟩) hcd (by omega) hp3 hfl hLl hL ht128 htl hpt hc128 (by omega) (par_clean hp3 hlow hL) (can_res (by rw [hj]; exact hc128)) hjm hL89 M hn2 hkf hj (fun ps h => (hdm ps h).1) (nL_due hL) (fun ps h => (hdm ps h).2) hsz.1 (fun ps h => ⟨(hsz.2 ps h).1, by have := (hsz.2 ps h).2.1; omega, fun w hw => by have := (hsz.2 ps h).2.2 w hw; omega⟩) hret
end Mine
end
section
open PySem PySem.W PyProof.Rows PySem.Calls
set_option Elab.async false
set_option maxRecDepth 100000
set_option maxHeartbeats 8000000
namespace Mine
theorem figs_ok {ns : List Int} (hz : ∀ x ∈ ns, 0 ≤ x ∧ x < 248) : ∀ f ∈ ns.map (fun k => if k.fmod 4 < 2 then 62 + k.fmod 4 else k.fdiv 4), 0 ≤ f ∧ f < 64 := by
  intro f hf
  obtain ⟨k, hk, rfl⟩ := List.mem_map.mp hf
  have := hz k hk
  rw [Int.fmod_eq_emod_of_nonneg _ (by decide), Int.fdiv_eq_ediv_of_nonneg _ (by decide)]
  split <;> omega
local macro_rules | `(tactic| k_all) => `(tactic| assumption)
theorem law1 {w : World} {dp un : Nat} {fr : Option (List Env)} {gd : Option (List Code)} {mean : ExcName → Option Value} {pp : Program} {ll : List Str} {mg mb : Str → Option Value} {Q : Flow → Shared → Prop} {E : Value → Shared → Prop} {g h : Heap} {gs : Array GenState} {drx : Drawn} {tk : Nat} {os : OsState}
   {L fa na : Addr} {cd : Value} {m : Str → Option Value} {co : Obj} {vs : List Value} {ns : List Int} {cnt : Nat}
   (X : (hp w.params).In g) (T : Top pp ll mean mg mb g) (K : Below (At dp un fr gd) g [] g) (hdp : dp + 6 < 400) (hu : un + 20 * 6 < 4000)
   (F : Fr g L h m) (hb : Bd m [(Str.ofString "numbers", .ref na)]) (hi : IntsAre vs ns) (hn : ns.length ≤ 20) (hz : ∀ x ∈ ns, 0 ≤ x ∧ x < 248)
   (N : News g L h [(na, W.listOf vs.toArray cnt), (L + 1, co), (89, tabObj #[]), (72, tabObj #[])]) (hcd : co.data = .cell none) (hne : na ≠ L + 1) (hL89 : 89 < L)
   (hret : ∀ h' tk' m' led' ps ps', Fr g L h' m' → News g L h' ((89, tabObj ps) :: (72, tabObj ps') :: led') → Q (.ret (.bool true)) { heap := h', gens := gs, drawn := drx, toks := tk', os := os }) :
   wpAny (model Challenge.rw_pa0034_01.row.prog w) ((At dp un fr gd).deeper (envOfC (Str.ofString "law") (fS 36) L fa cd)) (execs ((fB 36).drop 1) (envOfC (Str.ofString "law") (fS 36) L fa cd)) Q E { heap := h, gens := gs, drawn := drx, toks := tk, os := os } := by
  have hfig := figs_ok hz
  have hwf := whole_ok hfig
  have hwl : (whole (ns.map (fun k => if k.fmod 4 < 2 then 62 + k.fmod 4 else k.fdiv 4))).length ≤ 21 := by
    have := hwf.2.2
    rw [List.length_map] at this
    omega
  have hml : (ns.map (fun k => if k.fmod 4 < 2 then 62 + k.fmod 4 else k.fdiv 4)).length < 1000 := by rw [List.length_map]; omega
  revert X
  k_fill
  intro X
  refine' law_as ?kS ?kB ?_
  case kS => (conv => lhs; whnf)
  case kB => (conv => lhs; whnf)
  have F1 := fr_wr' _ hb.all F
  clear F hb
  refine wpAny_noRaise ?_
  have fin4 : ∀ (c1 c2 : UInt8) (cm : Int) (tm tb : Tok) (ra : Addr) (ys : List Value) (h3 : Heap) (m3 : Str → Option Value) (co3 : Obj) (tk3 : Nat), Mk c1 c2 cm → Fr g L h3 m3 → Bd m3 [(Str.ofString "row", .ref ra), (Str.ofString "comma", .int cm tm)] → h3.IsList ra ys.toArray → IntsAre ys (whole (ns.map (fun k => if k.fmod 4 < 2 then 62 + k.fmod 4 else k.fdiv 4))) →
      News g L h3 [(L + 1, co3), (89, tabObj #[]), (72, tabObj #[])] → co3.data = .cell (some (.bytes #[c1, c2] tb)) →
      wpAny (model Challenge.rw_pa0034_01.row.prog w) ((At dp un fr gd).deeper (envOfC (Str.ofString "law") (fS 36) L fa cd)) (execs ((fB 36).drop 4) (envOfC (Str.ofString "law") (fS 36) L fa cd)) Q (fun _ _ => False) { heap := h3, gens := gs, drawn := drx, toks := tk3, os := os } :=
    fun c1 c2 cm tm tb ra ys h3 m3 co3 tk3 M F hb hl hi N hcd => law4 X T K hdp hu F hb hl hi hwl hwf.2.1 hwf.1 N hcd hL89 M hret
  by_cases hpar : ns.sum.fmod 2 = 0
  · repeat (first | contradiction | ((fail_if_success (with_reducible show wpAny _ _ (PySem.call (Value.ref 196) _ _) _ _ _)); walk1))
    all_goals try contradiction
    rename Fr _ _ _ _ => F3; rename News _ _ _ _ => N3; rename IntsAre _ (List.map _ _) => I3
    refine whole_ctr (X.keeps F3.keep) (T.keeps F3.keep) (by (try simp only [Around.deeper]); omega) (by (try simp only [Around.deeper]); omega) (N3.isList (.head _)) I3 hml hfig (fun ra ys h4 tk4 st4 hl4 hi4 => ?_)
    have F4 := fr_after F3 st4
    have N4 := news_after N3 st4
    obtain ⟨led0, N0, _, keep0⟩ := list_keep F4 hl4
    obtain ⟨co3, N4', hco3⟩ : ∃ co3 : Obj, News g L h4 ((L + 1, co3) :: (89, tabObj #[]) :: (72, tabObj #[]) :: led0) ∧ co3.data = .cell (some (.bytes #[59, 44] _)) := ⟨_, List.forall_mem_cons.mpr ⟨N4 _ (.tail _ (.tail _ (.head _))), List.forall_mem_cons.mpr ⟨N4 _ (.tail _ (.tail _ (.tail _ (.head _)))), List.forall_mem_cons.mpr ⟨N4 _ (.tail _ (.tail _ (.tail _ (.tail _ (.head _))))), N0⟩⟩⟩, by assumption⟩
    clear F3 N3 I3 st4 N4 N0
    repeat ((fail_if_success (with_reducible show wpAny _ _ (execs (Stmt.Assign [Expr.Name (Str.ofString "octets") _] _ _ :: _) _) _ _ _)); walk1)
    rename Fr _ _ _ _ => F5; rename News _ _ _ _ => N5
    dsimp only
    refine fin4 59 44 63 _ _ _ _ _ _ _ _ (.inl ⟨rfl, rfl, rfl⟩) F5 ⟨rfl, rfl, trivial⟩ (keep0 _ _ F5 fun p hp => (N5 p (.tail _ (.tail _ (.tail _ hp)))).1) hi4 (fun p hp => N5 p (by simp only [List.mem_cons, List.not_mem_nil, or_false] at hp ⊢; rcases hp with h | h | h <;> simp [h])) hco3
  · repeat (first | contradiction | ((fail_if_success (with_reducible show wpAny _ _ (PySem.call (Value.ref 196) _ _) _ _ _)); walk1))
    all_goals try contradiction
    rename Fr _ _ _ _ => F3; rename News _ _ _ _ => N3; rename IntsAre _ (List.map _ _) => I3
    refine whole_ctr (X.keeps F3.keep) (T.keeps F3.keep) (by (try simp only [Around.deeper]); omega) (by (try simp only [Around.deeper]); omega) (N3.isList (.head _)) I3 hml hfig (fun ra ys h4 tk4 st4 hl4 hi4 => ?_)
    have F4 := fr_after F3 st4
    have N4 := news_after N3 st4
    obtain ⟨led0, N0, _, keep0⟩ := list_keep F4 hl4
    obtain ⟨co3, N4', hco3⟩ : ∃ co3 : Obj, News g L h4 ((L + 1, co3) :: (89, tabObj #[]) :: (72, tabObj #[]) :: led0) ∧ co3.data = .cell (some (.bytes #[44, 59] _)) := ⟨_, List.forall_mem_cons.mpr ⟨N4 _ (.tail _ (.tail _ (.head _))), List.forall_mem_cons.mpr ⟨N4 _ (.tail _ (.tail _ (.tail _ (.head _)))), List.forall_mem_cons.mpr ⟨N4 _ (.tail _ (.tail _ (.tail _ (.tail _ (.head _))))), N0⟩⟩⟩, by assumption⟩
    clear F3 N3 I3 st4 N4 N0
    repeat ((fail_if_success (with_reducible show wpAny _ _ (execs (Stmt.Assign [Expr.Name (Str.ofString "octets") _] _ _ :: _) _) _ _ _)); walk1)
    rename Fr _ _ _ _ => F5; rename News _ _ _ _ => N5
    dsimp only
    refine fin4 44 59 62 _ _ _ _ _ _ _ _ (.inr ⟨rfl, rfl, rfl⟩) F5 ⟨rfl, rfl, trivial⟩ (keep0 _ _ F5 fun p hp => (N5 p (.tail _ (.tail _ (.tail _ hp)))).1) hi4 (fun p hp => N5 p (by simp only [List.mem_cons, List.not_mem_nil, or_false] at hp ⊢; rcases hp with h | h | h <;> simp [h])) hco3
end Mine
end
section
open PySem PySem.W PyProof.Rows PySem.Calls
set_option Elab.async false
set_option maxRecDepth 100000
set_option maxHeartbeats 8000000
namespace Mine
theorem nums_ok {ns : List Int} : ∀ x ∈ ns.map (fun k => k.fmod 248), 0 ≤ x ∧ x < 248 := by
  intro x hx
  obtain ⟨k, _, rfl⟩ := List.mem_map.mp hx
  rw [Int.fmod_eq_emod_of_nonneg _ (by decide)]
  omega
theorem ne_cell {g h : Heap} {L na c : Addr} {led : List (Addr × Obj)} {o co : Obj} (N : News g L h led) (h1 : (na, o) ∈ led) (h2 : (c, co) ∈ led) (hd : co.data = .cell none) (ho : ∃ a n, o.data = .seq a n) : na ≠ c := by
  rintro rfl
  have e := (N _ h1).1
  rw [(N _ h2).1] at e
  cases e
  obtain ⟨a, n, e⟩ := ho
  rw [hd] at e
  cases e
local macro_rules | `(tactic| k_all) => `(tactic| assumption)
theorem law0 {w : World} {dp un : Nat} {fr : Option (List Env)} {gd : Option (List Code)} {mean : ExcName → Option Value} {pp : Program} {ll : List Str} {mg mb : Str → Option Value} {Q : Flow → Shared → Prop} {E : Value → Shared → Prop} {g h : Heap} {gs : Array GenState} {drx : Drawn} {tk : Nat} {os : OsState}
   {L fa sa : Addr} {cd : Value} {m : Str → Option Value} {co : Obj} {vs : List Value} {ns : List Int}
   (X : (hp w.params).In g) (T : Top pp ll mean mg mb g) (K : Below (At dp un fr gd) g [] g) (hdp : dp + 6 < 400) (hu : un + 20 * 6 < 4000)
   (F : Fr g L h m) (hb : Bd m [(Str.ofString "script", .ref sa)]) (hl : g.IsList sa vs.toArray) (hi : IntsAre vs ns) (hn : ns.length ≤ 63)
   (N : News g L h [(L + 1, co), (89, tabObj #[]), (72, tabObj #[])]) (hcd : co.data = .cell none) (hL89 : 89 < L)
   (hret : ∀ h' tk' m' led' ps ps', Fr g L h' m' → News g L h' ((89, tabObj ps) :: (72, tabObj ps') :: led') → Q (.ret (.bool true)) { heap := h', gens := gs, drawn := drx, toks := tk', os := os }) :
   wpAny (model Challenge.rw_pa0034_01.row.prog w) ((At dp un fr gd).deeper (envOfC (Str.ofString "law") (fS 36) L fa cd)) (execs (fB 36) (envOfC (Str.ofString "law") (fS 36) L fa cd)) Q E { heap := h, gens := gs, drawn := drx, toks := tk, os := os } := by
  revert X
  k_fill
  intro X
  refine' law_as ?kS ?kB ?_
  case kS => (conv => lhs; whnf)
  case kB => (conv => lhs; whnf)
  have F1 := fr_wr' _ hb.all F
  clear F hb
  refine wpAny_noRaise ?_
  repeat ((fail_if_success (with_reducible show wpAny _ _ (execs (Stmt.Assign [Expr.Name (Str.ofString "marks") _] _ _ :: _) _) _ _ _)); walk1)
  · rename Fr _ _ _ _ => F3; rename News _ _ _ _ => N3; rename IntsAre _ (List.map _ _) => I3
    dsimp only
    exact law1 X T K hdp hu F3 ⟨rfl, trivial⟩ I3 (by rw [List.length_map, List.length_take]; omega) nums_ok (List.forall_mem_cons.mpr ⟨N3 _ (.head _), fun p hp => N3 p (.tail _ (.tail _ hp))⟩) hcd (ne_cell N3 (.head _) (by k_mem) hcd ⟨_, _, rfl⟩) hL89 hret
  · repeat ((fail_if_success (with_reducible show wpAny _ _ (execs (Stmt.Assign [Expr.Name (Str.ofString "marks") _] _ _ :: _) _) _ _ _)); walk1)
    rename Fr _ _ _ _ => F3; rename News _ _ _ _ => N3
    dsimp only
    exact law1 X T K hdp hu F3 ⟨rfl, trivial⟩ (ns := [2, 0, 6, 1, 10]) (.cons _ _ (.cons _ _ (.cons _ _ (.cons _ _ (.cons _ _ .nil))))) (by decide) (by decide) (List.forall_mem_cons.mpr ⟨N3 _ (.head _), fun p hp => N3 p (.tail _ (.tail _ (.tail _ hp)))⟩) hcd (ne_cell N3 (.head _) (by k_mem) hcd ⟨_, _, rfl⟩) hL89 hret
end Mine
end
section
open PySem PySem.W PyProof.Rows PySem.Calls
set_option Elab.async false
set_option maxRecDepth 100000
set_option maxHeartbeats 8000000
namespace Mine
end Mine
open Mine in
set_option maxRecDepth 100000 in
set_option maxHeartbeats 8000000 in
theorem PySem.Challenge.cw_pa0034_01_holds : PySem.Challenge.rw_pa0034_01.Holds := by
  w_on
  refine holds_law law_said fun said => ?_
  refine holds_open (q := vw) (loose := L0) (XP := XL vw []) (Yf := HK.obs) (Ya := HK.val) (YP := HK.says) (N := 3140) hl HK.of HK.keeps (fun s e => xl_of s (Bool.and_eq_true_iff.mp e).1) XL.keeps (by rfl) (by rfl) (by rfl) (fun s e => recFacts_of (Bool.and_eq_true_iff.mp e).2) (by rfl) said (by decide +kernel) ⟨rfl, rfl, rfl, rfl, rfl, by decide +kernel⟩ ?hw ?hc
  case hw => w_witness2
  k_fill
  intro w s₀ s₁ mg mb G Y fa o pm cd doc dV kV ho hd hcd hD hmg hg args vals as hpre hlay hrd hwl hlo
  have KX : (hp w.params).In s₁.heap := km_in_of Y
  revert KX; k_fill; intro KX
  km_tabs Y
  have X := (Ground.X G).1
  have V := (Ground.X G).2
  refine Ground.open G ?_
  intro T B D TE TW
  try (refine guard_noD D (by decide +kernel) ?_; clear D)
  km_lay T hmg ho hd cd
  clear hmg
  wrow_args hpre hlay hrd hwl hlo
  first | refine callC_kw (enter_call ?_) | refine enter_call ?_
  w_top on
  kn_posts
  w_call any ho hd hcd hD T F
  clear hd
  kn_ghosts F T
  k_drop
  rename Frag.In _ _ => X9; rename Top topProg _ _ _ _ _ => T9; rename Below _ _ _ _ => K9; rename Fr _ _ _ _ => F9; rename News _ _ _ _ => N9; rename IntsAre _ _ => I9; rename _ ∧ _ => l9
  refine law0 (dp := 1 + claimMargin) (un := 4) (m := _) X9 T9 K9 (by decide) (by decide) F9 ⟨rfl, trivial⟩ lifted I9 (by omega) N9 (by assumption) l9.1 (fun h' tk' m' led' ps ps' F' N' => ?_)
  have g9 : s₁.gens = #[] := hg
  refine ⟨?_, ⟨_, (N' _ (.head _)).1⟩, ⟨_, (N' _ (.tail _ (.head _))).1⟩, trivial⟩
  dsimp only
  close_w
end
