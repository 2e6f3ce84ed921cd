import PyProof.Rows.All
import Wide.All
import OpenK.AllK
import Wide.FinOn
import PySem.Challenge.RW_ta0110_01
open PySem PySem.W PyProof.Rows PySem.Spec PySem.Calls
set_option Elab.async false
set_option maxRecDepth 100000
set_option linter.unusedVariables false
set_option linter.unusedSimpArgs false
set_option maxHeartbeats 8000000
set_option genSizeOfSpec false
set_option genInjectivity false
namespace Mine
local macro_rules | `(tactic| k_data) => `(tactic| first | (exact Nat.le_trans (by assumption) (by decide)) | lia | omega)
section
noncomputable def sAt (i : Nat) : Stmt := PySem.Challenge.pw_ta0110_01.main.body.getD i default
noncomputable def hAt (i : Nat) : Stmt := match sAt 22 with
  | .ClassDef _ _ _ body _ _ _ _ _ _ _ => body.getD i default
  | x => x
noncomputable def ks (x : String) (t : Nat) : Value := .str (Str.ofString x) t
noncomputable def kd (P : Params) (x : String) (t : Nat) (v : Value) : DictEntry := ⟨PyData.keyHash P (Str.ofString x), .str (Str.ofString x) t, v⟩
noncomputable def fnS (st : Stmt) (qual : String) (df : Value) (pm : String) (tk cd : Nat) : Obj := match st with
  | .FunctionDef name ps body _ _ _ scope _ _ _ => ⟨.type "function", none, .func (fnOf name (Str.ofString qual) ps body scope df .none .none (ks pm tk) none (.ref cd) .none), #[]⟩
  | _ => default
noncomputable def KK (P : Params) : Frag :=
  (nat_lit 3, ⟨.type "dict", none, .dict #[kd P "__name__" 165 (ks "law_ta0110_01" 702), kd P "__doc__" 166 (.none), kd P "__package__" 167 (.none), kd P "__loader__" 168 (.builtin "__main__.__loader__#opaque"), kd P "__spec__" 169 (.none), kd P "__annotations__" 170 (.ref 6), kd P "__builtins__" 171 (.ref 4), kd P "__file__" 173 (ks "/claim/cut.py" 172), kd P "__cached__" 174 (.none), kd P "_sre" 275 (.ref 12), kd P "_wall" 288 (.ref 38), kd P "_DIV_LIMIT" 292 (.int 4000 291), kd P "_div2n1n" 309 (.ref 45), kd P "_div3n2n" 323 (.ref 52), kd P "_int2digits" 334 (.ref 59), kd P "_digits2int" 345 (.ref 66), kd P "_divmod_pos" 360 (.ref 73), kd P "int_divmod" 370 (.ref 80), kd P "COMPILER_FLAG_NAMES" 403 (.ref 81), kd P "pretty_flags" 413 (.ref 88), kd P "_parse_varint" 422 (.ref 95), kd P "ELLIPSIS_MARKER" 426 (ks "..." 425), kd P "_ellipsis_match" 438 (.ref 102), kd P "tspecials" 474 (.ref 107), kd P "_name_disallowed_re" 500 (.ref 112), kd P "_value_disallowed_re" 534 (.ref 117), kd P "_formatparam" 544 (.ref 125), kd P "Headers" 701 (.ref 246), kd P "_law_sums" 709 (.ref 255), kd P "_law_word" 717 (.ref 262), kd P "_law_octets" 723 (.ref 267), kd P "_law_over" 730 (.ref 274), kd P "_law_table" 741 (.ref 281), kd P "_law_brings" 747 (.ref 286), kd P "_law_cut" 758 (.ref 293), kd P "_law_follow" 770 (.ref 300), kd P "_law_rules" 785 (.ref 307), kd P "_law_common" 795 (.ref 314), kd P "_law_takes_rightly" 801 (.ref 319), kd P "law" 807 (.ref 324)] 40, #[]⟩) ::
  (nat_lit 44, ⟨.type "code", none, .fields #[ks "_div2n1n" 293, ks "_div2n1n" 294, ks "/claim/cut.py" 295, .int 7 0, .int 3 0, .int 0 0, .int 0 0, .int 3 0, .ref 39, .bool true, .int 276 0, .ref 40, .none, .ref 41, .ref 42, .ref 43, .int 307 0, .int 7 0, ks "/claim/cut.py" 308], #[]⟩) ::
  (nat_lit 45, fnS (sAt 4) "_div2n1n" (.none) "cpy313._pylong" 289 44) ::
  (nat_lit 51, ⟨.type "code", none, .fields #[ks "_div3n2n" 310, ks "_div3n2n" 311, ks "/claim/cut.py" 312, .int 23 0, .int 6 0, .int 0 0, .int 0 0, .int 3 0, .ref 46, .bool true, .int 276 0, .ref 47, .none, .ref 48, .ref 49, .ref 50, .int 321 0, .int 23 0, ks "/claim/cut.py" 322], #[]⟩) ::
  (nat_lit 52, fnS (sAt 5) "_div3n2n" (.none) "cpy313._pylong" 289 51) ::
  (nat_lit 58, ⟨.type "code", none, .fields #[ks "_int2digits" 324, ks "_int2digits" 325, ks "/claim/cut.py" 326, .int 33 0, .int 2 0, .int 0 0, .int 0 0, .int 3 0, .ref 53, .bool true, .int 276 0, .ref 54, .none, .ref 55, .ref 56, .ref 57, .int 332 0, .int 33 0, ks "/claim/cut.py" 333], #[]⟩) ::
  (nat_lit 59, fnS (sAt 6) "_int2digits" (.none) "cpy313._pylong" 289 58) ::
  (nat_lit 65, ⟨.type "code", none, .fields #[ks "_digits2int" 335, ks "_digits2int" 336, ks "/claim/cut.py" 337, .int 49 0, .int 2 0, .int 0 0, .int 0 0, .int 3 0, .ref 60, .bool true, .int 276 0, .ref 61, .none, .ref 62, .ref 63, .ref 64, .int 343 0, .int 49 0, ks "/claim/cut.py" 344], #[]⟩) ::
  (nat_lit 66, fnS (sAt 7) "_digits2int" (.none) "cpy313._pylong" 289 65) ::
  (nat_lit 72, ⟨.type "code", none, .fields #[ks "_divmod_pos" 346, ks "_divmod_pos" 347, ks "/claim/cut.py" 348, .int 58 0, .int 2 0, .int 0 0, .int 0 0, .int 3 0, .ref 67, .bool true, .int 276 0, .ref 68, .none, .ref 69, .ref 70, .ref 71, .int 358 0, .int 58 0, ks "/claim/cut.py" 359], #[]⟩) ::
  (nat_lit 73, fnS (sAt 8) "_divmod_pos" (.none) "cpy313._pylong" 289 72) ::
  (nat_lit 79, ⟨.type "code", none, .fields #[ks "int_divmod" 361, ks "int_divmod" 362, ks "/claim/cut.py" 363, .int 69 0, .int 2 0, .int 0 0, .int 0 0, .int 3 0, .ref 74, .bool true, .int 276 0, .ref 75, .none, .ref 76, .ref 77, .ref 78, .int 368 0, .int 69 0, ks "/claim/cut.py" 369], #[]⟩) ::
  (nat_lit 80, fnS (sAt 9) "int_divmod" (.none) "cpy313._pylong" 289 79) ::
  (nat_lit 81, ⟨.type "dict", none, .dict #[⟨1, .int 1 373, ks "OPTIMIZED" 374⟩, ⟨2, .int 2 375, ks "NEWLOCALS" 376⟩, ⟨4, .int 4 377, ks "VARARGS" 378⟩, ⟨8, .int 8 379, ks "VARKEYWORDS" 380⟩, ⟨16, .int 16 381, ks "NESTED" 382⟩, ⟨32, .int 32 383, ks "GENERATOR" 384⟩, ⟨64, .int 64 385, ks "NOFREE" 386⟩, ⟨128, .int 128 387, ks "COROUTINE" 388⟩, ⟨256, .int 256 389, ks "ITERABLE_COROUTINE" 390⟩, ⟨512, .int 512 391, ks "ASYNC_GENERATOR" 392⟩] 10, #[]⟩) ::
  (nat_lit 87, ⟨.type "code", none, .fields #[ks "pretty_flags" 404, ks "pretty_flags" 405, ks "/claim/cut.py" 406, .int 82 0, .int 1 0, .int 0 0, .int 0 0, .int 3 0, .ref 82, .bool true, .int 276 0, .ref 83, .none, .ref 84, .ref 85, .ref 86, .int 411 0, .int 82 0, ks "/claim/cut.py" 412], #[]⟩) ::
  (nat_lit 88, fnS (sAt 12) "pretty_flags" (.none) "cpy313.dis" 371 87) ::
  (nat_lit 94, ⟨.type "code", none, .fields #[ks "_parse_varint" 414, ks "_parse_varint" 415, ks "/claim/cut.py" 416, .int 94 0, .int 1 0, .int 0 0, .int 0 0, .int 3 0, .ref 89, .bool true, .int 276 0, .ref 90, .none, .ref 91, .ref 92, .ref 93, .int 420 0, .int 94 0, ks "/claim/cut.py" 421], #[]⟩) ::
  (nat_lit 95, fnS (sAt 13) "_parse_varint" (.none) "cpy313.dis" 371 94) ::
  (nat_lit 101, ⟨.type "code", none, .fields #[ks "_ellipsis_match" 427, ks "_ellipsis_match" 428, ks "/claim/cut.py" 429, .int 104 0, .int 2 0, .int 0 0, .int 0 0, .int 3 0, .ref 96, .bool true, .int 276 0, .ref 97, .none, .ref 98, .ref 99, .ref 100, .int 436 0, .int 104 0, ks "/claim/cut.py" 437], #[]⟩) ::
  (nat_lit 102, fnS (sAt 16) "_ellipsis_match" (.none) "cpy313.doctest" 423 101) ::
  (nat_lit 111, ⟨.type "tuple", none, .seq #[.int 14 0, .int 10 0, .int 4 0, .int 1 0, .int 1 0, .int 22 0, .int 0 0, .int 31 0, .int 16 0, .int 127 0, .int 0 0, .int 13 0, .int 7 0, .int 22 0, .int 0 0, .int 31 0, .int 16 0, .int 127 0, .int 0 0, .int 1 0], #[]⟩) ::
  (nat_lit 112, ⟨.type "re.Pattern", none, .fields #[ks "[\\x00-\\x1F\\x7F]" 476, .int 32 499, .int 0 0, .none, .none, .ref 111, .int 0 0], #[]⟩) ::
  (nat_lit 116, ⟨.type "tuple", none, .seq #[.int 14 0, .int 14 0, .int 4 0, .int 1 0, .int 1 0, .int 9 0, .int 4294966783 0, .int 0 0, .int 0 0, .int 2147483648 0, .int 0 0, .int 0 0, .int 0 0, .int 0 0, .int 0 0, .int 13 0, .int 11 0, .int 9 0, .int 4294966783 0, .int 0 0, .int 0 0, .int 2147483648 0, .int 0 0, .int 0 0, .int 0 0, .int 0 0, .int 0 0, .int 1 0], #[]⟩) ::
  (nat_lit 117, ⟨.type "re.Pattern", none, .fields #[ks "[\\x00-\\x08\\x0A-\\x1F\\x7F]" 502, .int 32 533, .int 0 0, .none, .none, .ref 116, .int 0 0], #[]⟩) ::
  (nat_lit 133, ⟨.type "tuple", none, .seq #[.none], #[]⟩) ::
  (nat_lit 139, ⟨.type "code", none, .fields #[ks "__init__" 557, ks "Headers.__init__" 558, ks "/claim/cut.py" 559, .int 147 0, .int 2 0, .int 0 0, .int 0 0, .int 3 0, .ref 134, .bool true, .int 276 0, .ref 135, .none, .ref 136, .ref 137, .ref 138, .int 564 0, .int 147 0, ks "/claim/cut.py" 565], #[]⟩) ::
  (nat_lit 140, fnS (hAt 0) "Headers.__init__" (.ref 133) "cpy313.wsgiref.headers" 439 139) ::
  (nat_lit 146, ⟨.type "code", none, .fields #[ks "_convert_string_type" 567, ks "Headers._convert_string_type" 568, ks "/claim/cut.py" 569, .int 157 0, .int 2 0, .int 0 0, .int 1 0, .int 3 0, .ref 141, .bool true, .int 276 0, .ref 142, .none, .ref 143, .ref 144, .ref 145, .int 574 0, .int 157 0, ks "/claim/cut.py" 575], #[]⟩) ::
  (nat_lit 147, fnS (hAt 1) "Headers._convert_string_type" (.none) "cpy313.wsgiref.headers" 439 146) ::
  (nat_lit 184, ⟨.type "code", none, .fields #[ks "get_all" 615, ks "Headers.get_all" 616, ks "/claim/cut.py" 617, .int 182 0, .int 2 0, .int 0 0, .int 0 0, .int 3 0, .ref 181, .bool true, .int 276 0, .ref 182, .none, .none, .none, .ref 183, .int 618 0, .int 182 0, ks "/claim/cut.py" 619], #[]⟩) ::
  (nat_lit 185, fnS (hAt 7) "Headers.get_all" (.none) "cpy313.wsgiref.headers" 439 184) ::
  (nat_lit 209, ⟨.type "code", none, .fields #[ks "items" 644, ks "Headers.items" 645, ks "/claim/cut.py" 646, .int 199 0, .int 1 0, .int 0 0, .int 0 0, .int 3 0, .ref 204, .bool true, .int 276 0, .ref 205, .none, .ref 206, .ref 207, .ref 208, .int 648 0, .int 199 0, ks "/claim/cut.py" 649], #[]⟩) ::
  (nat_lit 210, fnS (hAt 11) "Headers.items" (.none) "cpy313.wsgiref.headers" 439 209) ::
  (nat_lit 242, ⟨.type "code", none, .fields #[ks "add_header" 680, ks "Headers.add_header" 681, ks "/claim/cut.py" 682, .int 214 0, .int 3 0, .int 0 0, .int 0 0, .int 11 0, .ref 237, .bool true, .int 276 0, .ref 238, .none, .ref 239, .ref 240, .ref 241, .int 690 0, .int 214 0, ks "/claim/cut.py" 691], #[]⟩) ::
  (nat_lit 243, fnS (hAt 16) "Headers.add_header" (.none) "cpy313.wsgiref.headers" 439 242) ::
  (nat_lit 245, ⟨.type "dict", none, .dict #[kd P "__module__" 552 (ks "cpy313.wsgiref.headers" 439), kd P "__firstlineno__" 556 (.int 145 555), kd P "__init__" 566 (.ref 140), kd P "_convert_string_type" 576 (.ref 147), kd P "__len__" 583 (.ref 154), kd P "__setitem__" 592 (.ref 161), kd P "__delitem__" 598 (.ref 166), kd P "__getitem__" 606 (.ref 173), kd P "__contains__" 614 (.ref 180), kd P "get_all" 620 (.ref 185), kd P "get" 631 (.ref 193), kd P "keys" 637 (.ref 198), kd P "values" 643 (.ref 203), kd P "items" 650 (.ref 210), kd P "__repr__" 657 (.ref 217), kd P "__str__" 663 (.ref 222), kd P "__bytes__" 670 (.ref 229), kd P "setdefault" 679 (.ref 236), kd P "add_header" 692 (.ref 243), kd P "__static_attributes__" 694 (.ref 244), kd P "__dict__" 696 (.ref 247), kd P "__weakref__" 698 (.ref 248), kd P "__doc__" 699 (.none)] 4, #[]⟩) ::
  (nat_lit 246, ⟨.type "type", none, .cls { name := "Headers", bases := [.type "object"], mro := [.ref 246, .type "object"], ns := 245, qualname := "Headers" }, #[none, none, some (ks "Headers" 545), some (ks "Headers" 553), some (.builtin "object.__new__"), some (.bool true)]⟩) ::
  (nat_lit 254, ⟨.type "code", none, .fields #[ks "_law_sums" 704, ks "_law_sums" 705, ks "/claim/cut.py" 706, .int 228 0, .int 1 0, .int 0 0, .int 0 0, .int 3 0, .ref 251, .bool true, .int 276 0, .ref 252, .none, .none, .none, .ref 253, .int 707 0, .int 228 0, ks "/claim/cut.py" 708], #[]⟩) ::
  (nat_lit 255, fnS (sAt 24) "_law_sums" (.none) "law_ta0110_01" 702 254) ::
  (nat_lit 261, ⟨.type "code", none, .fields #[ks "_law_word" 710, ks "_law_word" 711, ks "/claim/cut.py" 712, .int 233 0, .int 1 0, .int 0 0, .int 0 0, .int 3 0, .ref 256, .bool true, .int 276 0, .ref 257, .none, .ref 258, .ref 259, .ref 260, .int 715 0, .int 233 0, ks "/claim/cut.py" 716], #[]⟩) ::
  (nat_lit 262, fnS (sAt 25) "_law_word" (.none) "law_ta0110_01" 702 261) ::
  (nat_lit 266, ⟨.type "code", none, .fields #[ks "_law_octets" 718, ks "_law_octets" 719, ks "/claim/cut.py" 720, .int 236 0, .int 2 0, .int 0 0, .int 0 0, .int 3 0, .ref 263, .bool true, .int 276 0, .ref 264, .none, .none, .none, .ref 265, .int 721 0, .int 236 0, ks "/claim/cut.py" 722], #[]⟩) ::
  (nat_lit 267, fnS (sAt 26) "_law_octets" (.none) "law_ta0110_01" 702 266) ::
  (nat_lit 273, ⟨.type "code", none, .fields #[ks "_law_over" 724, ks "_law_over" 725, ks "/claim/cut.py" 726, .int 239 0, .int 1 0, .int 0 0, .int 0 0, .int 3 0, .ref 268, .bool true, .int 276 0, .ref 269, .none, .ref 270, .ref 271, .ref 272, .int 728 0, .int 239 0, ks "/claim/cut.py" 729], #[]⟩) ::
  (nat_lit 274, fnS (sAt 27) "_law_over" (.none) "law_ta0110_01" 702 273) ::
  (nat_lit 280, ⟨.type "code", none, .fields #[ks "_law_table" 731, ks "_law_table" 732, ks "/claim/cut.py" 733, .int 245 0, .int 1 0, .int 0 0, .int 0 0, .int 3 0, .ref 275, .bool true, .int 276 0, .ref 276, .none, .ref 277, .ref 278, .ref 279, .int 739 0, .int 245 0, ks "/claim/cut.py" 740], #[]⟩) ::
  (nat_lit 281, fnS (sAt 28) "_law_table" (.none) "law_ta0110_01" 702 280) ::
  (nat_lit 285, ⟨.type "code", none, .fields #[ks "_law_brings" 742, ks "_law_brings" 743, ks "/claim/cut.py" 744, .int 251 0, .int 2 0, .int 0 0, .int 0 0, .int 3 0, .ref 282, .bool true, .int 276 0, .ref 283, .none, .none, .none, .ref 284, .int 745 0, .int 251 0, ks "/claim/cut.py" 746], #[]⟩) ::
  (nat_lit 286, fnS (sAt 29) "_law_brings" (.none) "law_ta0110_01" 702 285) ::
  (nat_lit 292, ⟨.type "code", none, .fields #[ks "_law_cut" 748, ks "_law_cut" 749, ks "/claim/cut.py" 750, .int 255 0, .int 3 0, .int 0 0, .int 0 0, .int 3 0, .ref 287, .bool true, .int 276 0, .ref 288, .none, .ref 289, .ref 290, .ref 291, .int 756 0, .int 255 0, ks "/claim/cut.py" 757], #[]⟩) ::
  (nat_lit 293, fnS (sAt 30) "_law_cut" (.none) "law_ta0110_01" 702 292) ::
  (nat_lit 299, ⟨.type "code", none, .fields #[ks "_law_follow" 759, ks "_law_follow" 760, ks "/claim/cut.py" 761, .int 263 0, .int 3 0, .int 0 0, .int 0 0, .int 3 0, .ref 294, .bool true, .int 276 0, .ref 295, .none, .ref 296, .ref 297, .ref 298, .int 768 0, .int 263 0, ks "/claim/cut.py" 769], #[]⟩) ::
  (nat_lit 300, fnS (sAt 31) "_law_follow" (.none) "law_ta0110_01" 702 299) ::
  (nat_lit 306, ⟨.type "code", none, .fields #[ks "_law_rules" 771, ks "_law_rules" 772, ks "/claim/cut.py" 773, .int 269 0, .int 2 0, .int 0 0, .int 0 0, .int 3 0, .ref 301, .bool true, .int 276 0, .ref 302, .none, .ref 303, .ref 304, .ref 305, .int 783 0, .int 269 0, ks "/claim/cut.py" 784], #[]⟩) ::
  (nat_lit 307, fnS (sAt 32) "_law_rules" (.none) "law_ta0110_01" 702 306) ::
  (nat_lit 313, ⟨.type "code", none, .fields #[ks "_law_common" 786, ks "_law_common" 787, ks "/claim/cut.py" 788, .int 285 0, .int 2 0, .int 0 0, .int 0 0, .int 3 0, .ref 308, .bool true, .int 276 0, .ref 309, .none, .ref 310, .ref 311, .ref 312, .int 793 0, .int 285 0, ks "/claim/cut.py" 794], #[]⟩) ::
  (nat_lit 314, fnS (sAt 33) "_law_common" (.none) "law_ta0110_01" 702 313) ::
  (nat_lit 318, ⟨.type "code", none, .fields #[ks "_law_takes_rightly" 796, ks "_law_takes_rightly" 797, ks "/claim/cut.py" 798, .int 291 0, .int 2 0, .int 0 0, .int 0 0, .int 3 0, .ref 315, .bool true, .int 276 0, .ref 316, .none, .none, .none, .ref 317, .int 799 0, .int 291 0, ks "/claim/cut.py" 800], #[]⟩) ::
  (nat_lit 319, fnS (sAt 34) "_law_takes_rightly" (.none) "law_ta0110_01" 702 318) ::
  (nat_lit 323, ⟨.type "code", none, .fields #[ks "law" 802, ks "law" 803, ks "/claim/cut.py" 804, .int 295 0, .int 1 0, .int 0 0, .int 0 0, .int 3 0, .ref 320, .bool true, .int 276 0, .ref 321, .none, .none, .none, .ref 322, .int 805 0, .int 295 0, ks "/claim/cut.py" 806], #[]⟩) ::
  (nat_lit 324, fnS (sAt 35) "law" (.none) "law_ta0110_01" 702 323) :: []
noncomputable def KK0 (P : Params) : Frag := (nat_lit 54, tabObj #[]) :: (nat_lit 61, tabObj #[]) :: KK P
noncomputable def asK : List Addr := [54, 61, 3, 44, 45, 51, 52, 58, 59, 65, 66, 72, 73, 79, 80, 81, 87, 88, 94, 95, 101, 102, 111, 112, 116, 117, 133, 139, 140, 146, 147, 184, 185, 209, 210, 242, 243, 245, 246, 254, 255, 261, 262, 266, 267, 273, 274, 280, 281, 285, 286, 292, 293, 299, 300, 306, 307, 313, 314, 318, 319, 323, 324]
noncomputable abbrev RR : OpenRow := PySem.Challenge.rw_ta0110_01.row
noncomputable abbrev Vw : Program := view PySem.Challenge.pw_ta0110_01 [35]
noncomputable def lse : List Str := ["_sre", "_wall", "_DIV_LIMIT", "_div2n1n", "_div3n2n", "_int2digits", "_digits2int", "_divmod_pos", "int_divmod", "COMPILER_FLAG_NAMES", "pretty_flags", "_parse_varint", "ELLIPSIS_MARKER", "_ellipsis_match", "tspecials", "_name_disallowed_re", "_value_disallowed_re", "_formatparam", "Headers", "_law_sums", "_law_word", "_law_octets", "_law_over", "_law_table", "_law_brings", "_law_cut", "_law_follow", "_law_rules", "_law_common", "_law_takes_rightly"]
theorem asK_eq (P : Params) : asK = (KK0 P).map (·.1) := by kernel_rfl
noncomputable abbrev HK : Hook := kHook KK0 asK asK_eq
noncomputable abbrev xt (s : Shared) : Bool := xlAt Vw [] s && recOk (RowW.records RR.toRowW) s
section
variable {p : Program} {w : World}
noncomputable def impT (sp : SharedT → Thread → Option (SharedT × Thread)) (ex : Thread → Option (List Value)) : Nat → SharedT → Thread → Option SharedT
  | 0, _, _ => none
  | n + 1, s, t => match ex t with
    | some [] => some s
    | some (_ :: _) => none
    | none => match sp s t with
      | some (s', t') => impT sp ex n s' t'
      | none => none
theorem impT_of : ∀ {n : Nat} {s s' : SharedT} {t : Thread}, impT (stepT (denote treeTable) p w) Thread.atExitBegin n s t = some s' → importEnds treeTable p w n s.abs t = some s'.abs
  | 0, _, _, _, h => by cases h
  | n + 1, s, s', t, h => by
    unfold impT at h
    unfold importEnds
    cases he : t.atExitBegin with
    | some x =>
      rw [he] at h
      cases x with
      | nil => cases h; rfl
      | cons => cases h
    | none =>
      rw [he] at h
      cases hs : stepT (denote treeTable) p w s t with
      | none => rw [hs] at h; cases h
      | some r => obtain ⟨s₂, t₂⟩ := r; rw [hs] at h; dsimp only; rw [stepT_spec hs]; exact impT_of h
noncomputable def topT (sp : SharedT → Thread → Option (SharedT × Thread)) (ok : Thread → Bool) : Nat → SharedT → Thread → Option SharedT
  | 0, _, _ => none
  | n + 1, s, t => match through t with
    | true => some s
    | false => match ok t with
      | false => none
      | true => match sp s t with
        | some (s', t') => topT sp ok n s' t'
        | none => none
theorem topT_of {m : Nat} {ann : Option Value} : ∀ {n : Nat} {s s' : SharedT} {t : Thread}, topT (stepT (denote treeTable) p w) (stepOk m ann) n s t = some s' → topRun treeTable p w m ann n s.abs t = some s'.abs
  | 0, _, _, _, h => by cases h
  | n + 1, s, s', t, h => by
    unfold topT at h
    unfold topRun
    cases he : through t with
    | true => rw [he] at h; cases h; rfl
    | false =>
      rw [he] at h
      cases hk : stepOk m ann t with
      | false => rw [hk] at h; cases h
      | true =>
        rw [hk] at h
        cases hs : stepT (denote treeTable) p w s t with
        | none => rw [hs] at h; cases h
        | some r => obtain ⟨s₂, t₂⟩ := r; rw [hs] at h; rw [stepT_spec hs]; exact topT_of h
noncomputable def ofL : List Obj → BT → Nat → Option BT
  | [], t, _ => some t
  | o :: r, t, n => match ((t.ins n o).get n).isSome with
    | true => ofL r (t.ins n o) (n + 1)
    | false => none
theorem ofL_of {life : Life} : ∀ {l : List Obj} {t t' : BT} {n : Nat}, ofL l t n = some t' → absHeap t' (n + l.length) life = ⟨(absHeap t n life).objs ++ l.toArray, life⟩
  | [], t, t', n, h => by cases h; show absHeap t n life = _; simp [absHeap]
  | o :: r, t, t', n, h => by
    unfold ofL at h
    cases hs : ((t.ins n o).get n).isSome with
    | false => rw [hs] at h; cases h
    | true =>
      rw [hs] at h
      have e := ofL_of (life := life) h
      rw [absHeap_ins hs] at e
      rw [List.length_cons, Nat.add_comm r.length 1, ← Nat.add_assoc, e]
      simp [Heap.push]
theorem abs_ofL {h : Heap} {t : BT} (e : ofL h.objs.toList .nil 0 = some t) : absHeap t h.objs.size h.life = h := by
  have := ofL_of (life := h.life) e
  rw [Nat.zero_add, Array.length_toList] at this
  rw [this]
  show Heap.mk (#[] ++ h.objs.toList.toArray) h.life = h
  rw [Array.empty_append]
noncomputable def headT (s1 s2 : SharedT → Thread → Option (SharedT × Thread)) (ex : Thread → Option (List Value)) (ok : Nat → Option Value → Thread → Bool) (st : Shared × Thread) (fe : Shared → Option Shared) (t₁ : Thread) (N : Nat) : Option (Shared × Shared) :=
  match impT s1 ex N ⟨.nil, 0, {}, #[], {}, 1, st.1.os⟩ st.2 with
  | none => none
  | some se => match fe se.abs with
    | none => none
    | some s₀ => match ofL s₀.heap.objs.toList .nil 0 with
      | none => none
      | some t₀ => match topT s2 (ok s₀.heap.objs.size (s₀.heap.nsMap mainGlobals "__annotations__")) N ⟨t₀, s₀.heap.objs.size, s₀.heap.life, s₀.gens, s₀.drawn, s₀.toks, s₀.os⟩ t₁ with
        | none => none
        | some s₁ => some (s₀, s₁.abs)
noncomputable def fine (p : Program) (s₀ s₁ : Shared) : Bool := (s₀.heap.isNs mainGlobals && s₀.gens.size == 0) && (staticsOk (importedModules p.main.body) s₀.heap s₁.heap && namesBound p s₁.heap && gensDone s₁ && laidKept s₀.heap s₁.heap)
theorem headT_of {N : Nat} {s₀ s₁ : Shared} (h : headT (stepT (denote treeTable) (opening p) w) (stepT (denote treeTable) p w) Thread.atExitBegin stepOk (start (opening p)) (fenceModules? p) (topStub p) N = some (s₀, s₁)) (f : fine p s₀ s₁ = true) : openEnds treeTable p w N = some s₁ := by
  obtain ⟨f1, f2⟩ := Bool.and_eq_true_iff.mp f
  unfold headT at h
  cases h1 : impT (stepT (denote treeTable) (opening p) w) Thread.atExitBegin N ⟨.nil, 0, {}, #[], {}, 1, (start (opening p)).1.os⟩ (start (opening p)).2 with
  | none => rw [h1] at h; cases h
  | some se =>
    rw [h1] at h
    dsimp only at h
    cases h2 : fenceModules? p se.abs with
    | none => rw [h2] at h; cases h
    | some s =>
      rw [h2] at h
      dsimp only at h
      cases h3 : ofL s.heap.objs.toList .nil 0 with
      | none => rw [h3] at h; cases h
      | some t₀ =>
        rw [h3] at h
        dsimp only at h
        cases h4 : topT (stepT (denote treeTable) p w) (stepOk s.heap.objs.size (s.heap.nsMap mainGlobals "__annotations__")) N ⟨t₀, s.heap.objs.size, s.heap.life, s.gens, s.drawn, s.toks, s.os⟩ (topStub p) with
        | none => rw [h4] at h; cases h
        | some r =>
          rw [h4] at h
          dsimp only at h
          obtain ⟨rfl, rfl⟩ := Prod.mk.inj (Option.some.inj h)
          have a1 := impT_of h1
          have a2 := topT_of h4
          unfold openEnds fencedOpening
          rw [show (start (opening p)).1 = SharedT.abs ⟨.nil, 0, {}, #[], {}, 1, (start (opening p)).1.os⟩ from rfl, a1]
          show ((fenceModules? p se.abs).bind (topFrom treeTable p w N)) = _
          rw [h2]
          show topFrom treeTable p w N s = _
          unfold topFrom
          rw [f1]
          have a3 : (SharedT.abs ⟨t₀, s.heap.objs.size, s.heap.life, s.gens, s.drawn, s.toks, s.os⟩) = s := by
            show Shared.mk (absHeap t₀ s.heap.objs.size s.heap.life) _ _ _ _ = s
            rw [abs_ofL h3]
          rw [a3] at a2
          rw [a2]
          show (match staticsOk (importedModules p.main.body) s.heap r.abs.heap && namesBound p r.abs.heap && gensDone r.abs && laidKept s.heap r.abs.heap with | true => some r.abs | false => none) = _
          rw [f2]
theorem left_of {α β : Type} {N : Nat} {F F' : Shared → α} {G : Shared → β} {a : α} {b : β} {s1 s2 : SharedT → Thread → Option (SharedT × Thread)} {ex : Thread → Option (List Value)} {ok : Nat → Option Value → Thread → Bool} {st : Shared × Thread} {fe : Shared → Option Shared}
    (h1 : stepT (denote treeTable) (opening p) w = s1) (h2 : stepT (denote treeTable) p w = s2) (h3 : Thread.atExitBegin = ex) (h4 : stepOk = ok) (h5 : start (opening p) = st) (h6 : fenceModules? p = fe) (h7 : F = F')
    (h : (headT s1 s2 ex ok st fe (topStub p) N).map (fun r => (fine p r.1 r.2, F' r.2, G r.2)) = some (true, a, b)) : (openEnds treeTable p w N).map (fun s => (F s, G s)) = some (a, b) := by
  subst h1 h2 h3 h4 h5 h6 h7
  obtain ⟨⟨s₀, s₁⟩, e1, e2⟩ := Option.map_eq_some_iff.mp h
  obtain ⟨e3, e4⟩ := Prod.mk.inj e2
  rw [headT_of e1 e3]
  exact congrArg some e4
end
theorem leftF (w : World) : (openEnds treeTable RR.toRowW.prog (w.withFollow "special-get-raises" false) 3884).map (fun s => (openSeen Vw lse (importedModules RR.toRowW.prog.main.body) xt true s, HK.obs s)) = some (openGood Vw lse, HK.val (w.withFollow "special-get-raises" false)) := by
  first
    | exact left_of (s1 := PySem.W.Fast.tw10156331382660048174 (PySem.W.Fast.tw11892475500146522536 PySem.W.Fast.tw14364793385576792824) (opening RR.toRowW.prog) _) (s2 := PySem.W.Fast.tw10156331382660048174 (PySem.W.Fast.tw11892475500146522536 PySem.W.Fast.tw14364793385576792824) RR.toRowW.prog _) (ex := PySem.W.Fast.tw3805553451399329143) (ok := PySem.W.Fast.tw6613529449190102663) (st := PySem.W.Fast.tw1435165496053646825 (opening RR.toRowW.prog)) (fe := PySem.W.Fast.tw14289696077712309145 RR.toRowW.prog) (F' := PySem.W.Fast.tw4187177175401517315 Vw lse (importedModules RR.toRowW.prog.main.body) xt true)
        (by rw [PySem.W.Fast.te10156331382660048174, PySem.W.Fast.te11892475500146522536, PySem.W.Fast.te14364793385576792824]) (by rw [PySem.W.Fast.te10156331382660048174, PySem.W.Fast.te11892475500146522536, PySem.W.Fast.te14364793385576792824]) PySem.W.Fast.te3805553451399329143 PySem.W.Fast.te6613529449190102663 (congrFun PySem.W.Fast.te1435165496053646825 _) (congrFun PySem.W.Fast.te14289696077712309145 _) (by rw [PySem.W.Fast.te4187177175401517315]) (by kernel_rfl)
    | kernel_rfl
theorem leftT (w : World) : (openEnds treeTable RR.toRowW.prog (w.withFollow "special-get-raises" true) 3884).map (fun s => (openSeen Vw lse (importedModules RR.toRowW.prog.main.body) xt true s, HK.obs s)) = some (openGood Vw lse, HK.val (w.withFollow "special-get-raises" true)) := by
  first
    | exact left_of (s1 := PySem.W.Fast.tw10156331382660048174 (PySem.W.Fast.tw11892475500146522536 PySem.W.Fast.tw14364793385576792824) (opening RR.toRowW.prog) _) (s2 := PySem.W.Fast.tw10156331382660048174 (PySem.W.Fast.tw11892475500146522536 PySem.W.Fast.tw14364793385576792824) RR.toRowW.prog _) (ex := PySem.W.Fast.tw3805553451399329143) (ok := PySem.W.Fast.tw6613529449190102663) (st := PySem.W.Fast.tw1435165496053646825 (opening RR.toRowW.prog)) (fe := PySem.W.Fast.tw14289696077712309145 RR.toRowW.prog) (F' := PySem.W.Fast.tw4187177175401517315 Vw lse (importedModules RR.toRowW.prog.main.body) xt true)
        (by rw [PySem.W.Fast.te10156331382660048174, PySem.W.Fast.te11892475500146522536, PySem.W.Fast.te14364793385576792824]) (by rw [PySem.W.Fast.te10156331382660048174, PySem.W.Fast.te11892475500146522536, PySem.W.Fast.te14364793385576792824]) PySem.W.Fast.te3805553451399329143 PySem.W.Fast.te6613529449190102663 (congrFun PySem.W.Fast.te1435165496053646825 _) (congrFun PySem.W.Fast.te14289696077712309145 _) (by rw [PySem.W.Fast.te4187177175401517315]) (by kernel_rfl)
    | kernel_rfl
theorem left : LeftO RR.toRowW.prog Vw lse xt HK.obs HK.val 3884 := byRow2 "special-get-raises" (P := fun w => (openEnds treeTable RR.toRowW.prog w 3884).map (fun s => (openSeen Vw lse (importedModules RR.toRowW.prog.main.body) xt true s, HK.obs s)) = some (openGood Vw lse, HK.val w)) leftF leftT
theorem saidLaw : PySem.Challenge.rw_ta0110_01.wellSaid = true := by
  first
    | refine (congrFun PySem.W.Fast.te9446332074065402090 _).trans ?_
      unfold PySem.W.Fast.tw9446332074065402090
      repeat' (with_reducible refine Bool.and_eq_true_iff.mpr ⟨?_, ?_⟩)
      · unfold PySem.W.Fast.tw17960256430627541270
        repeat' (with_reducible refine Bool.and_eq_true_iff.mpr ⟨?_, ?_⟩)
        · unfold PySem.W.Fast.tw2436336058641802641
          repeat' (with_reducible refine Bool.and_eq_true_iff.mpr ⟨?_, ?_⟩)
          · unfold PySem.W.Fast.tw12908688711261696721
            repeat' (with_reducible refine Bool.and_eq_true_iff.mpr ⟨?_, ?_⟩)
            all_goals decide +kernel
          all_goals decide +kernel
        all_goals decide +kernel
      all_goals decide +kernel
    | decide +kernel
end
section
noncomputable abbrev Prog : Program := PySem.Challenge.rw_ta0110_01.row.prog
noncomputable abbrev KF (w : World) : Frag := KK w.params
inductive V where
  | none
  | bool (b : Bool)
  | int (i : Int)
  | str (s : Str)
  | tup (l : List V)
  | list (l : List V)
  | hdr (l : List (Str × Str))
  | raw (v : Value) (fr : Frag)
noncomputable def pairV (p : Str × Str) : V := .tup [.str p.1, .str p.2]
structure HdrAt (h : Heap) (a dx l : Addr) (vs : List Value) : Prop where
  inst : h.get? a = some (instObj 246 dx)
  dict : ∃ hs t n, h.get? dx = some (dictOf [⟨hs, .str "_headers" t, .ref l⟩] n)
  lst : h.PlainList l vs.toArray
mutual
inductive R (av : Addr → Prop) (h : Heap) : Value → V → Prop
  | none : R av h .none .none
  | bool (b : Bool) : R av h (.bool b) (.bool b)
  | int (i : Int) (t : Tok) : R av h (.int i t) (.int i)
  | str (x : Str) (t : Tok) : R av h (.str x t) (.str x)
  | tup {a : Addr} {vs : List Value} {ds : List V} : ¬ av a → IsTup h a vs.toArray → Rs av h vs ds → R av h (.ref a) (.tup ds)
  | list {a : Addr} {vs : List Value} {ds : List V} : ¬ av a → h.PlainList a vs.toArray → Rs av h vs ds → R av h (.ref a) (.list ds)
  | hdr {a dx l : Addr} {vs : List Value} {es : List (Str × Str)} : ¬ av a → ¬ av dx → ¬ av l → HdrAt h a dx l vs → Rs av h vs (es.map pairV) → R av h (.ref a) (.hdr es)
  | raw (v : Value) (fr : Frag) : (∀ p ∈ fr, ¬ av p.1 ∧ h.get? p.1 = some p.2) → R av h v (.raw v fr)
inductive Rs (av : Addr → Prop) (h : Heap) : List Value → List V → Prop
  | nil : Rs av h [] []
  | cons {v : Value} {d : V} {vs : List Value} {ds : List V} : R av h v d → Rs av h vs ds → Rs av h (v :: vs) (d :: ds)
end
section
variable {av : Addr → Prop} {h : Heap} {v : Value} {ds : List V} {P : Value → Prop} {Q : List Value → Prop}
theorem R.noneE (r : R av h v .none) (k : P .none) : P v := by cases r; exact k
theorem R.boolE {b : Bool} (r : R av h v (.bool b)) (k : P (.bool b)) : P v := by cases r; exact k
theorem R.intE {i : Int} (r : R av h v (.int i)) (k : ∀ t, P (.int i t)) : P v := by cases r; exact k _
theorem R.strE {x : Str} (r : R av h v (.str x)) (k : ∀ t, P (.str x t)) : P v := by cases r; exact k _
theorem R.tupE (r : R av h v (.tup ds)) (k : ∀ a vs, ¬ av a → IsTup h a vs.toArray → Rs av h vs ds → P (.ref a)) : P v := by cases r with | tup n x s => exact k _ _ n x s
theorem R.listE (r : R av h v (.list ds)) (k : ∀ a vs, ¬ av a → h.PlainList a vs.toArray → Rs av h vs ds → P (.ref a)) : P v := by cases r with | list n x s => exact k _ _ n x s
theorem Rs.nilE {vs : List Value} (r : Rs av h vs []) (k : Q []) : Q vs := by cases r; exact k
theorem Rs.consE {vs : List Value} {d : V} (r : Rs av h vs (d :: ds)) (k : ∀ v ws, R av h v d → Rs av h ws ds → Q (v :: ws)) : Q vs := by cases r with | cons a b => exact k _ _ a b
theorem R.noneI (r : R av h v .none) : v = .none := r.noneE (P := (· = .none)) rfl
theorem R.boolI {b : Bool} (r : R av h v (.bool b)) : v = .bool b := r.boolE (P := (· = .bool b)) rfl
theorem R.intI {i : Int} (r : R av h v (.int i)) : ∃ t, v = .int i t := r.intE (P := fun v => ∃ t, v = .int i t) fun t => ⟨t, rfl⟩
theorem R.strI {x : Str} (r : R av h v (.str x)) : ∃ t, v = .str x t := r.strE (P := fun v => ∃ t, v = .str x t) fun t => ⟨t, rfl⟩
theorem R.tupI (r : R av h v (.tup ds)) : ∃ a vs, v = .ref a ∧ ¬ av a ∧ IsTup h a vs.toArray ∧ Rs av h vs ds := r.tupE (P := fun v => ∃ a vs, v = .ref a ∧ ¬ av a ∧ IsTup h a vs.toArray ∧ Rs av h vs ds) fun a vs n x s => ⟨a, vs, rfl, n, x, s⟩
theorem R.listI (r : R av h v (.list ds)) : ∃ a vs, v = .ref a ∧ ¬ av a ∧ h.PlainList a vs.toArray ∧ Rs av h vs ds := r.listE (P := fun v => ∃ a vs, v = .ref a ∧ ¬ av a ∧ h.PlainList a vs.toArray ∧ Rs av h vs ds) fun a vs n x s => ⟨a, vs, rfl, n, x, s⟩
theorem Rs.consI {vs : List Value} {d : V} (r : Rs av h vs (d :: ds)) : ∃ v ws, vs = v :: ws ∧ R av h v d ∧ Rs av h ws ds := r.consE (Q := fun vs => ∃ v ws, vs = v :: ws ∧ R av h v d ∧ Rs av h ws ds) fun v ws a b => ⟨v, ws, rfl, a, b⟩
theorem Rs.consI' {w : Value} {ws : List Value} {d : V} (r : Rs av h (w :: ws) (d :: ds)) : R av h w d ∧ Rs av h ws ds := by cases r with | cons a b => exact ⟨a, b⟩
theorem Rs.nilI {vs : List Value} (r : Rs av h vs []) : vs = [] := r.nilE (Q := (· = [])) rfl
end
theorem bind1 {P : List Value → Prop} (h : ∀ a, P [a]) (vs : List Value) (e : vs.length = 1) : P vs := (List.length_eq_one_iff.mp e).elim fun a q => q ▸ h a
theorem bind2 {P : List Value → Prop} (h : ∀ a b, P [a, b]) (vs : List Value) (e : vs.length = 2) : P vs := by
  cases vs with
  | nil => cases e
  | cons a l => exact bind1 (P := fun l => P (a :: l)) (h a) l (Nat.succ.inj e)
theorem bind3 {P : List Value → Prop} (h : ∀ a b c, P [a, b, c]) (vs : List Value) (e : vs.length = 3) : P vs := by
  cases vs with
  | nil => cases e
  | cons a l => exact bind2 (P := fun l => P (a :: l)) (h a) l (Nat.succ.inj e)
theorem lk_nil {β : Type} {P : Str → β → Prop} : ∀ (y : Str) (d : β), List.lookup y [] = some d → P y d := fun _ _ e => nomatch e
theorem lk_cons {β : Type} {P : Str → β → Prop} {x : Str} {d : β} {ρ : List (Str × β)} (h : P x d) (t : ∀ y e, ρ.lookup y = some e → P y e) : ∀ y e, List.lookup y ((x, d) :: ρ) = some e → P y e := fun y e q => by
  rw [List.lookup_cons] at q
  cases hb : y == x with
  | true => rw [hb] at q; cases q; rw [eq_of_beq hb]; exact h
  | false => rw [hb] at q; exact t y e q
theorem fm0 {α : Type} {P : α → Prop} : ∀ p ∈ ([] : List α), P p := fun _ h => nomatch h
theorem fm1 {α : Type} {P : α → Prop} {a : α} {l : List α} (h : P a) (t : ∀ p ∈ l, P p) : ∀ p ∈ a :: l, P p := fun p q => (List.mem_cons.mp q).elim (fun e => e ▸ h) (t p)
theorem islist_of {h h' : Heap} {a : Addr} {items : Array Value} (x : h.IsList a items) (k : ∀ o, h.get? a = some o → h'.get? a = some o) : h'.IsList a items :=
  let ⟨o, ho, r⟩ := x; ⟨o, k o ho, r⟩
theorem istup_of {h h' : Heap} {a : Addr} {items : Array Value} (x : IsTup h a items) (k : ∀ o, h.get? a = some o → h'.get? a = some o) : IsTup h' a items :=
  let ⟨o, ho, r⟩ := x; ⟨o, k o ho, r⟩
theorem hdrAt_of {h h' : Heap} {a dx l : Addr} {vs : List Value} (x : HdrAt h a dx l vs) (k : ∀ b o, (b = a ∨ b = dx ∨ b = l) → h.get? b = some o → h'.get? b = some o) : HdrAt h' a dx l vs :=
  ⟨k _ _ (.inl rfl) x.inst, let ⟨hs, t, n, e⟩ := x.dict; ⟨hs, t, n, k _ _ (.inr (.inl rfl)) e⟩, x.lst.at fun o e => k _ _ (.inr (.inr rfl)) e⟩
theorem none_some {α : Type} {x : Option α} {o : α} {P : Prop} (e : x = some o) (n : x = none) : P := absurd (n.symm.trans e) (fun q => nomatch q)
theorem R.move {av av' : Addr → Prop} {h h' : Heap} (k : ∀ b o, ¬ av b → h.get? b = some o → h'.get? b = some o) (ha : ∀ b, av' b → av b ∨ h.get? b = Option.none) {v : Value} {d : V} (r : R av h v d) : R av' h' v d := by
  have m : ∀ {a o}, ¬ av a → h.get? a = some o → ¬ av' a := fun n e q => (ha _ q).elim n (none_some e)
  exact R.rec (motive_1 := fun v d _ => R av' h' v d) (motive_2 := fun vs ds _ => Rs av' h' vs ds) .none (fun b => .bool b) (fun i t => .int i t) (fun x t => .str x t)
    (fun n x _ r => x.elim fun o y => .tup (m n y.1) (istup_of x fun o e => k _ o n e) r)
    (fun n x _ r => x.elim fun _ y => .list (m n y) (x.at fun o e => k _ o n e) r)
    (fun n1 n2 n3 x _ r => x.dict.elim fun _ y => y.elim fun _ y => y.elim fun _ y => x.lst.elim fun _ z => .hdr (m n1 x.inst) (m n2 y) (m n3 z)
      (hdrAt_of x fun b o hb e => k b o (hb.elim (fun q => q ▸ n1) fun hb => hb.elim (fun q => q ▸ n2) fun q => q ▸ n3) e) r)
    (fun v fr r => .raw v fr fun p hp => ⟨m (r p hp).1 (r p hp).2, k _ _ (r p hp).1 (r p hp).2⟩) .nil (fun _ _ a b => .cons a b) r
theorem Rs.ind {av : Addr → Prop} {h : Heap} {P : List Value → List V → Prop} (h0 : P [] []) (h1 : ∀ v d vs ds, R av h v d → Rs av h vs ds → P vs ds → P (v :: vs) (d :: ds)) : ∀ {ds : List V} {vs : List Value}, Rs av h vs ds → P vs ds := fun {ds} => by
  induction ds with
  | nil => intro vs r; apply Rs.nilE r; exact h0
  | cons d ds ih => intro vs r; apply Rs.consE r; intro v ws a b; exact h1 _ _ _ _ a b (ih b)
theorem Rs.move {av av' : Addr → Prop} {h h' : Heap} (k : ∀ b o, ¬ av b → h.get? b = some o → h'.get? b = some o) (ha : ∀ b, av' b → av b ∨ h.get? b = Option.none) {vs : List Value} {ds : List V} (r : Rs av h vs ds) : Rs av' h' vs ds :=
  r.ind (P := fun vs ds => Rs av' h' vs ds) .nil fun _ _ _ _ r _ e => .cons (r.move k ha) e
theorem Rs.length {av : Addr → Prop} {h : Heap} {vs : List Value} {ds : List V} (r : Rs av h vs ds) : vs.length = ds.length :=
  r.ind (P := fun vs ds => vs.length = ds.length) rfl fun _ _ _ _ _ _ e => congrArg (· + 1) e
theorem Rs.append {av : Addr → Prop} {h : Heap} {vs' : List Value} {ds' : List V} {vs : List Value} {ds : List V} (r : Rs av h vs ds) (x : Rs av h vs' ds') : Rs av h (vs ++ vs') (ds ++ ds') :=
  r.ind (P := fun vs ds => Rs av h (vs ++ vs') (ds ++ ds')) x fun _ _ _ _ r _ e => .cons r e
theorem Rs.snoc {av : Addr → Prop} {h : Heap} {v : Value} {d : V} {vs : List Value} {ds : List V} (r : Rs av h vs ds) (x : R av h v d) : Rs av h (vs ++ [v]) (ds ++ [d]) := r.append (.cons x .nil)
theorem Rs.get {av : Addr → Prop} {h : Heap} {vs : List Value} {ds : List V} (r : Rs av h vs ds) {i : Nat} {d : V} (e : ds[i]? = some d) : ∃ v, vs[i]? = some v ∧ R av h v d :=
  r.ind (P := fun vs ds => ∀ (i : Nat) (d : V), ds[i]? = some d → ∃ v : Value, vs[i]? = some v ∧ R av h v d) (fun _ _ e => nomatch e) (fun v d vs ds r _ ih i d' e => by
    cases i with
    | zero => exact ⟨v, rfl, Option.some.inj e ▸ r⟩
    | succ i => exact ih i d' e) i d e
theorem Rs.getV {av : Addr → Prop} {h : Heap} {vs : List Value} {ds : List V} (r : Rs av h vs ds) {i : Nat} {v : Value} (e : vs[i]? = some v) : ∃ d, ds[i]? = some d ∧ R av h v d :=
  r.ind (P := fun vs ds => ∀ (i : Nat) (v : Value), vs[i]? = some v → ∃ d : V, ds[i]? = some d ∧ R av h v d) (fun _ _ e => nomatch e) (fun v d vs ds r _ ih i d' e => by
    cases i with
    | zero => exact ⟨d, rfl, Option.some.inj e ▸ r⟩
    | succ i => exact ih i d' e) i v e
theorem Rs.take {av : Addr → Prop} {h : Heap} {vs : List Value} {ds : List V} (n : Nat) (r : Rs av h vs ds) : Rs av h (vs.take n) (ds.take n) :=
  r.ind (P := fun vs ds => ∀ n, Rs av h (vs.take n) (ds.take n)) (fun n => by rw [List.take_nil, List.take_nil]; exact .nil) (fun _ _ _ _ r _ ih n => by
    cases n with
    | zero => exact .nil
    | succ n => exact .cons r (ih n)) n
theorem Rs.drop {av : Addr → Prop} {h : Heap} {vs : List Value} {ds : List V} (n : Nat) (r : Rs av h vs ds) : Rs av h (vs.drop n) (ds.drop n) :=
  r.ind (P := fun vs ds => ∀ n, Rs av h (vs.drop n) (ds.drop n)) (fun n => by rw [List.drop_nil, List.drop_nil]; exact .nil) (fun _ _ _ _ r s ih n => by
    cases n with
    | zero => exact .cons r s
    | succ n => exact ih n) n
noncomputable def tab (b : Addr) : Prop := b = 61 ∨ b = 54
noncomputable def Ext (h h' : Heap) : Prop := ∀ b o, ¬ tab b → h.get? b = some o → h'.get? b = some o
theorem Ext.refl (h : Heap) : Ext h h := fun _ _ _ e => e
theorem Ext.trans {h₁ h₂ h₃ : Heap} (x : Ext h₁ h₂) (y : Ext h₂ h₃) : Ext h₁ h₃ := fun b o n e => y b o n (x b o n e)
theorem Ext.of {h h' : Heap} (k : ∀ b o, h.get? b = some o → h'.get? b = some o) : Ext h h' := fun b o _ e => k b o e
structure Cx where
  w : World
  S : Heap
  mg : Str → Option Value
  mb : Str → Option Value
  K : (KK w.params).In S
  g : S.Ns mainGlobals mg
  b : S.Ns builtinsNs mb
  bb : ∀ x : Str, x ≠ "__name__" → mb x = bootBuiltins x
  nolimit : S.NoLimit
  nodigits : ∃ mc, S.Ns cStatics mc ∧ mc "sys.int_max_str_digits" = none
  last : ∃ o, S.get? (S.objs.size - 1) = some o
  big : 100 < S.objs.size
  t1 : S.get? 61 = some (tabObj #[])
  t2 : S.get? 54 = some (tabObj #[])
  bmain : ∃ bm ob, mg "__builtins__" = some (.ref bm) ∧ bm ≠ builtinsNs ∧ S.get? bm = some ob ∧ ob.cls = .type "module" ∧ ob.dict = some builtinsNs ∧ ob.data = .plain
noncomputable def NCh (h : Heap) (a : Addr) : Prop := ∀ o vs q t, h.get? a = some o → o.data = .fields vs → vs[1]? ≠ some (.str q t)
theorem NCh.ns {h : Heap} {a : Addr} {m : Str → Option Value} (x : h.Ns a m) : NCh h a := fun o vs q t e hd => by
  obtain ⟨o', es, ep, ho, hd', _⟩ := x
  rw [ho] at e; cases e; rw [hd'] at hd; cases hd
theorem NCh.cell {h : Heap} {a : Addr} {v : Option Value} (x : h.IsCell a v) : NCh h a := fun o vs q t e hd => by
  obtain ⟨o', ho, hd'⟩ := x
  rw [ho] at e; cases e; rw [hd'] at hd; cases hd
theorem NCh.list {h : Heap} {a : Addr} {v : Array Value} (x : h.IsList a v) : NCh h a := fun o vs q t e hd => by
  obtain ⟨o', ho, _, n, hd'⟩ := x
  rw [ho] at e; cases e; rw [hd'] at hd; cases hd
theorem NCh.of {h : Heap} {a : Addr} {o : Obj} {vs : Array Value} (e : h.get? a = some o) (hd : o.data = .fields vs) (hv : ∀ q t, vs[1]? ≠ some (.str q t)) : NCh h a := fun o' vs' q t e' hd' => by
  rw [e] at e'; cases e'; rw [hd] at hd'; cases hd'; exact hv q t
theorem NCh.at {h : Heap} {a : Addr} {o : Obj} {vs : Array Value} {y : Value} (e : h.get? a = some o) (hd : o.data = .fields vs) (hv : vs[1]? = some y) (hy : ∀ q t, y ≠ .str q t) : NCh h a :=
  .of e hd fun q t z => by rw [hv] at z; exact hy q t (Option.some.inj z)
theorem NCh.seq {h : Heap} {a : Addr} {o : Obj} {vs : Array Value} (e : h.get? a = some o) (hd : o.data = .seq vs) : NCh h a := fun o' vs' q t e' hd' => by
  rw [e] at e'; cases e'; rw [hd] at hd'; cases hd'
theorem CodeRec.but {h h' : Heap} {a : Addr} {cd : Value} {q : Str} (x : h.CodeRec cd q) (n : NCh h a) (k : ∀ b o, b ≠ a → h.get? b = some o → h'.get? b = some o) : h'.CodeRec cd q :=
  let ⟨c, o, vs, t, e, g, r1, r2⟩ := x; ⟨c, o, vs, t, e, k _ _ (fun z => n o vs q t (z ▸ g) r1 r2) g, r1, r2⟩
noncomputable def tabName (P : Addr) : Str := if P == 54 then Str.ofString "_int2digits.<locals>.inner" else Str.ofString "_digits2int.<locals>.inner"
structure TabAt' (X : Cx) (h : Heap) (P : Addr) : Prop where
  ex : ∃ ps : Array Value, h.get? P = some (tabObj ps) ∧ TriplesOk ps.toList ∧ ∀ pos cv, codeAmong pos ps.toList = some cv → h.CodeRec cv (tabName P)
structure GOk (X : Cx) (h : Heap) : Prop where
  ext : Ext X.S h
  old : OldK X.S h
  p1 : TabAt' X h 61
  p2 : TabAt' X h 54
theorem TabAt'.keeps {X : Cx} {h h' : Heap} {P : Addr} (x : TabAt' X h P) (k : ∀ b o, h.get? b = some o → h'.get? b = some o) : TabAt' X h' P := ⟨let ⟨ps, e, r, c⟩ := x.ex; ⟨ps, k _ _ e, r, fun p v h => (c p v h).keeps k⟩⟩
theorem GOk.keeps {X : Cx} {h h' : Heap} (G : GOk X h) (k : ∀ b o, h.get? b = some o → h'.get? b = some o) : GOk X h' :=
  ⟨G.ext.trans (.of k), G.old.step_keeps k, G.p1.keeps k, G.p2.keeps k⟩
theorem Cx.lt61 (X : Cx) : 61 < X.S.objs.size := Heap.lt_size X.t1
theorem Cx.lt54 (X : Cx) : 54 < X.S.objs.size := Heap.lt_size X.t2
theorem GOk.same {X : Cx} {h h' : Heap} {a : Addr} (G : GOk X h) (ha : X.S.objs.size ≤ a) (hs : Heap.SameBut a h h') (nc : NCh h a) : GOk X h' := by
  have n1 : (61 : Nat) ≠ a := Nat.ne_of_lt (Nat.lt_of_lt_of_le X.lt61 ha)
  have n2 : (54 : Nat) ≠ a := Nat.ne_of_lt (Nat.lt_of_lt_of_le X.lt54 ha)
  refine ⟨fun b o n e => ?_, G.old.step_same ha hs, ?_, ?_⟩
  · exact (hs.2 b (Nat.ne_of_lt (Nat.lt_of_lt_of_le (Heap.lt_size e) ha))).trans (G.ext b o n e)
  · exact ⟨let ⟨ps, e, r, c⟩ := G.p1.ex; ⟨ps, (hs.2 _ n1).trans e, r, fun p v h => CodeRec.but (c p v h) nc fun b o n e => (hs.2 b n).trans e⟩⟩
  · exact ⟨let ⟨ps, e, r, c⟩ := G.p2.ex; ⟨ps, (hs.2 _ n2).trans e, r, fun p v h => CodeRec.but (c p v h) nc fun b o n e => (hs.2 b n).trans e⟩⟩
theorem k61 (w : World) : (KK w.params).lookup 61 = none := by kernel_rfl
theorem k54 (w : World) : (KK w.params).lookup 54 = none := by kernel_rfl
theorem GOk.K {X : Cx} {h : Heap} (G : GOk X h) : (KK X.w.params).In h := fun a o e => by
  refine G.ext a o ?_ (X.K a o e)
  rintro (rfl | rfl)
  · rw [k61] at e; cases e
  · rw [k54] at e; cases e
theorem ns_ext {h h' : Heap} {a : Addr} {m : Str → Option Value} (x : h.Ns a m) (k : ∀ o, h.get? a = some o → h'.get? a = some o) : h'.Ns a m :=
  let ⟨o, es, ep, ho, r⟩ := x; ⟨o, es, ep, k o ho, r⟩
theorem nt0 : ¬ tab builtinsNs := by rintro (h | h) <;> cases h
theorem nt2 : ¬ tab cStatics := by rintro (h | h) <;> cases h
theorem nt3 : ¬ tab mainGlobals := by rintro (h | h) <;> cases h
theorem GOk.g {X : Cx} {h : Heap} (G : GOk X h) : h.Ns mainGlobals X.mg := ns_ext X.g fun o e => G.ext _ o nt3 e
theorem GOk.b {X : Cx} {h : Heap} (G : GOk X h) : h.Ns builtinsNs X.mb := ns_ext X.b fun o e => G.ext _ o nt0 e
theorem GOk.nolimit {X : Cx} {h : Heap} (G : GOk X h) : h.NoLimit := let ⟨mc, a, b⟩ := X.nolimit; ⟨mc, ns_ext a fun o e => G.ext _ o nt2 e, b⟩
theorem GOk.nodigits {X : Cx} {h : Heap} (G : GOk X h) : ∃ mc, h.Ns cStatics mc ∧ mc "sys.int_max_str_digits" = none := let ⟨mc, a, b⟩ := X.nodigits; ⟨mc, ns_ext a fun o e => G.ext _ o nt2 e, b⟩
theorem GOk.sz {X : Cx} {h : Heap} (G : GOk X h) : X.S.objs.size ≤ h.objs.size := by
  obtain ⟨o, e⟩ := X.last
  have hb := X.big
  have lt : @LT.lt Nat _ (X.S.objs.size - 1) h.objs.size := Heap.lt_size (G.ext _ o (by
    rintro (q | q)
    · have q : @Eq Nat (X.S.objs.size - 1) 61 := q
      k_data
    · have q : @Eq Nat (X.S.objs.size - 1) 54 := q
      k_data) e)
  k_data
noncomputable def Lv (h : Heap) (b : Addr) : Prop := (∃ o, h.get? b = some o) ∧ NCh h b
theorem Lv.keep {h h' : Heap} {b : Addr} (x : Lv h b) (k : ∀ o, h.get? b = some o → h'.get? b = some o) : Lv h' b :=
  let ⟨⟨o, e⟩, n⟩ := x; ⟨⟨o, k o e⟩, fun o' vs q t e' => by rw [k o e] at e'; cases e'; exact n o vs q t e⟩
theorem Lv.ns {h : Heap} {a : Addr} {m : Str → Option Value} (x : h.Ns a m) : Lv h a := ⟨let ⟨o, _, _, e, _⟩ := x; ⟨o, e⟩, .ns x⟩
theorem Lv.cell {h : Heap} {a : Addr} {v : Option Value} (x : h.IsCell a v) : Lv h a := ⟨let ⟨o, e, _⟩ := x; ⟨o, e⟩, .cell x⟩
theorem Lv.list {h : Heap} {a : Addr} {v : Array Value} (x : h.IsList a v) : Lv h a := ⟨let ⟨o, e, _⟩ := x; ⟨o, e⟩, .list x⟩
theorem Lv.tab {h : Heap} {a : Addr} {ps : Array Value} (e : h.get? a = some (tabObj ps)) (t : TriplesOk ps.toList) : Lv h a := ⟨⟨_, e⟩, .of e rfl fun q u z => by
  obtain ⟨l⟩ := ps
  cases l with
  | nil => cases z
  | cons v l =>
    cases l with
    | nil => cases z
    | cons w l =>
      have z : w = .str q u := Option.some.inj z
      subst z
      cases v <;> exact t⟩
structure AvOk (X : Cx) (av : Addr → Prop) (h : Heap) : Prop where
  tab : ∀ b, tab b → av b
  live : ∀ b, av b → Lv h b
structure Stp (X : Cx) (s s' : Shared) : Prop where
  eq : ∃ h' tk, s' = { s with heap := h', toks := tk }
  ext : Ext s.heap s'.heap
  ok : GOk X s'.heap
theorem Stp.refl {X : Cx} {s : Shared} (G : GOk X s.heap) : Stp X s s := ⟨⟨s.heap, s.toks, rfl⟩, .refl _, G⟩
theorem Stp.trans {X : Cx} {s₁ s₂ s₃ : Shared} (x : Stp X s₁ s₂) (y : Stp X s₂ s₃) : Stp X s₁ s₃ :=
  ⟨by obtain ⟨h, t, rfl⟩ := x.eq; obtain ⟨h', t', rfl⟩ := y.eq; exact ⟨h', t', rfl⟩, x.ext.trans y.ext, y.ok⟩
theorem Stp.keeps {X : Cx} {s : Shared} {h' : Heap} {tk : Nat} (G : GOk X s.heap) (k : ∀ b o, s.heap.get? b = some o → h'.get? b = some o) : Stp X s { s with heap := h', toks := tk } :=
  ⟨⟨h', tk, rfl⟩, .of k, G.keeps k⟩
theorem Stp.tok {X : Cx} {s : Shared} {tk : Nat} (G : GOk X s.heap) : Stp X s { s with toks := tk } := ⟨⟨s.heap, tk, rfl⟩, .refl _, G⟩
theorem Stp.push {X : Cx} {s : Shared} {o : Obj} {tk : Nat} (G : GOk X s.heap) : Stp X s { s with heap := s.heap.push o, toks := tk } := .keeps G fun _ _ e => Heap.get?_push_of_some _ e
theorem AvOk.step {X : Cx} {av : Addr → Prop} {s s' : Shared} (a : AvOk X av s.heap) (x : Stp X s s') : AvOk X av s'.heap :=
  ⟨a.tab, fun b hb => by
    by_cases t : Mine.tab b
    · rcases t with rfl | rfl
      · obtain ⟨ps, e, r, _⟩ := x.ok.p1.ex; exact .tab e r
      · obtain ⟨ps, e, r, _⟩ := x.ok.p2.ex; exact .tab e r
    · exact (a.live b hb).keep fun o e => x.ext b o t e⟩
theorem R.step {X : Cx} {av : Addr → Prop} {s s' : Shared} {v : Value} {d : V} (r : R av s.heap v d) (a : AvOk X av s.heap) (x : Stp X s s') : R av s'.heap v d :=
  r.move (fun b o n e => x.ext b o (fun t => n (a.tab b t)) e) fun _ q => .inl q
theorem Rs.step {X : Cx} {av : Addr → Prop} {s s' : Shared} {v : List Value} {d : List V} (r : Rs av s.heap v d) (a : AvOk X av s.heap) (x : Stp X s s') : Rs av s'.heap v d :=
  r.move (fun b o n e => x.ext b o (fun t => n (a.tab b t)) e) fun _ q => .inl q
theorem AvOk.fresh {X : Cx} {av : Addr → Prop} {h : Heap} (a : AvOk X av h) {b : Addr} (e : h.get? b = none) : ¬ av b := fun q => by obtain ⟨⟨o, ho⟩, _⟩ := a.live b q; rw [e] at ho; cases ho
theorem size_none (h : Heap) : h.get? h.objs.size = none := Heap.get?_none_of_le (Nat.le_refl _)
structure EnvOk (X : Cx) (av : Addr → Prop) (env : Env) (ρ : List (Str × V)) (h : Heap) : Prop where
  fn : env.scope.kind = .function
  gl : env.globals = mainGlobals
  bl : env.builtins = builtinsNs
  loc : av env.locals
  ns : ∃ m, h.Ns env.locals m ∧ ∀ x d, ρ.lookup x = some d → env.kindOf x = some .local → ∃ v, m x = some v ∧ R av h v d
  cl : ∀ x d, ρ.lookup x = some d → env.kindOf x = some .local ∨
    ((env.kindOf x = some .cell ∨ env.kindOf x = some .free) ∧ ∃ c v, env.cells.lookup x = some c ∧ (env.kindOf x = some .cell → av c) ∧ h.IsCell c (some v) ∧ R av h v d)
theorem ns_nt {X : Cx} {h : Heap} {a : Addr} {m : Str → Option Value} (G : GOk X h) (x : h.Ns a m) : ¬ tab a := by
  rintro (rfl | rfl)
  · obtain ⟨o, es, ep, ho, hd, _⟩ := x; obtain ⟨ps, e, _⟩ := G.p1.ex; rw [e] at ho; cases ho; cases hd
  · obtain ⟨o, es, ep, ho, hd, _⟩ := x; obtain ⟨ps, e, _⟩ := G.p2.ex; rw [e] at ho; cases ho; cases hd
theorem cell_nt {X : Cx} {h : Heap} {a : Addr} {v : Option Value} (G : GOk X h) (x : h.IsCell a v) : ¬ tab a := by
  rintro (rfl | rfl)
  · obtain ⟨o, ho, hd⟩ := x; obtain ⟨ps, e, _⟩ := G.p1.ex; rw [e] at ho; cases ho; cases hd
  · obtain ⟨o, ho, hd⟩ := x; obtain ⟨ps, e, _⟩ := G.p2.ex; rw [e] at ho; cases ho; cases hd
theorem EnvOk.step {X : Cx} {av : Addr → Prop} {env : Env} {ρ : List (Str × V)} {s s' : Shared} (G : GOk X s.heap) (a : AvOk X av s.heap) (V : EnvOk X av env ρ s.heap) (x : Stp X s s') : EnvOk X av env ρ s'.heap where
  fn := V.fn
  gl := V.gl
  bl := V.bl
  loc := V.loc
  ns := by
    obtain ⟨m, hm, hr⟩ := V.ns
    exact ⟨m, ns_ext hm fun o e => x.ext _ o (ns_nt G hm) e, fun y d h1 h2 => let ⟨v, e, r⟩ := hr y d h1 h2; ⟨v, e, r.step a x⟩⟩
  cl := fun y d hy => (V.cl y d hy).imp id fun ⟨h1, c, v, h2, ha, h3, r⟩ => ⟨h1, c, v, h2, ha, let ⟨o, ho, hd⟩ := h3; ⟨o, x.ext _ o (cell_nt G h3) ho, hd⟩, r.step a x⟩
structure Bud (n : Nat) (A : Around) : Prop where
  hh : A.handled = none
  d : A.depth + n < recursionLimit
  u : A.units + 8 * n + 16 < cLine
theorem Bud.le {n m : Nat} {A : Around} (b : Bud n A) (h : m ≤ n) : Bud m A := ⟨b.hh, by have := b.d; k_data, by have := b.u; k_data⟩
theorem Bud.depth {n : Nat} {A : Around} (b : Bud n A) : A.depth < recursionLimit := by have := b.d; k_data
theorem Bud.units {n : Nat} {A : Around} (b : Bud n A) : A.units < cLine := by have := b.u; k_data
noncomputable abbrev MX (X : Cx) : Model := model Prog X.w
structure EvJ (X : Cx) (n : Nat) (env : Env) (ρ : List (Str × V)) (e : Expr) (d : V) : Prop where
  run : ∀ (A : Around) (E : Value → Shared → Prop) (s : Shared) (av : Addr → Prop), Bud n A → GOk X s.heap → AvOk X av s.heap → EnvOk X av env ρ s.heap →
    wpAny (MX X) A (eval e env) (fun v s' => Stp X s s' ∧ R av s'.heap v d) E s
structure TrJ (X : Cx) (n : Nat) (env : Env) (ρ : List (Str × V)) (e : Expr) (b : Bool) : Prop where
  run : ∀ (A : Around) (E : Value → Shared → Prop) (s : Shared) (av : Addr → Prop), Bud n A → GOk X s.heap → AvOk X av s.heap → EnvOk X av env ρ s.heap →
    wpAny (MX X) A (isTrue e env (eval e env)) (fun v s' => Stp X s s' ∧ v = b) E s
structure EvsJ (X : Cx) (n : Nat) (env : Env) (ρ : List (Str × V)) (es : List Expr) (ds : List V) : Prop where
  run : ∀ (pos : Pos) (A : Around) (E : Value → Shared → Prop) (s : Shared) (av : Addr → Prop), Bud n A → GOk X s.heap → AvOk X av s.heap → EnvOk X av env ρ s.heap →
    wpAny (MX X) A (spliced (backTo pos (starEach es env))) (fun vs s' => Stp X s s' ∧ Rs av s'.heap vs ds) E s
structure CallJ (X : Cx) (n : Nat) (f : Value) (args : List V) (d : V) : Prop where
  run : ∀ (A : Around) (E : Value → Shared → Prop) (s : Shared) (av : Addr → Prop) (vs : List Value), Bud n A → GOk X s.heap → AvOk X av s.heap → Rs av s.heap vs args →
    wpAny (MX X) A (call f vs) (fun v s' => Stp X s s' ∧ R av s'.heap v d) E s
end
section
section
variable {X : Cx} {n : Nat} {env : Env} {ρ : List (Str × V)}
theorem EvJ.int {i : Int} {k : Nat} {pos : Pos} : EvJ X n env ρ (.Constant (.int i) k pos) (.int i) :=
  .mk fun A E s av b G a V => wpAny_Constant_int ⟨.tok G, .int _ _⟩
theorem EvJ.strc {x : Str} {k : Nat} {pos : Pos} : EvJ X n env ρ (.Constant (.str x) k pos) (.str x) :=
  .mk fun A E s av b G a V => wpAny_Constant_str ⟨.tok G, .str _ _⟩
theorem EvJ.boolc {x : Bool} {k : Nat} {pos : Pos} : EvJ X n env ρ (.Constant (.bool x) k pos) (.bool x) :=
  .mk fun A E s av b G a V => wpAny_Constant_bool ⟨.refl G, .bool _⟩
theorem EvJ.nonec {k : Nat} {pos : Pos} : EvJ X n env ρ (.Constant .none k pos) .none :=
  .mk fun A E s av b G a V => wpAny_Constant_none ⟨.refl G, .none⟩
theorem EvJ.name {x : Str} {pos : Pos} {d : V} (hx : ρ.lookup x = some d) (hd : (x == ("__debug__" : Str)) = false) (hc : (x == ("__classdict__" : Str)) = false) : EvJ X n env ρ (.Name x pos) d :=
  .mk fun A E s av b G a V => by
    refine wpAny_Name ?_ hd
    rcases V.cl x d hx with h | ⟨h | h, c, v, h1, _, h2, r⟩
    · obtain ⟨m, hm, hr⟩ := V.ns
      obtain ⟨v, hv, r⟩ := hr x d hx h
      exact wpAny_loadName_local V.fn h hm hv ⟨.refl G, r⟩
    · exact wpAny_loadName_cell V.fn h h1 h2 ⟨.refl G, r⟩
    · exact wpAny_loadName_free V.fn h h1 h2 ⟨.refl G, r⟩ hc
structure GlV (X : Cx) (n : Nat) (env : Env) (ρ : List (Str × V)) (e : Expr) (v : Value) : Prop where
  run : ∀ (A : Around) (E : Value → Shared → Prop) (s : Shared) (av : Addr → Prop), Bud n A → GOk X s.heap → EnvOk X av env ρ s.heap →
    wpAny (MX X) A (eval e env) (fun v' s' => s' = s ∧ v' = v) E s
theorem mg_is {X : Cx} {x : Str} {v : Value} (e : nsIn (KK X.w.params) mainGlobals x = some (some v)) : X.mg x = some v := mg_of X.K X.g e
theorem GlV.glob {x : Str} {pos : Pos} {v : Value} (hk : env.kindOf x = some .globalImplicit) (hx : nsIn (KK X.w.params) mainGlobals x = some (some v)) (hd : (x == ("__debug__" : Str)) = false) : GlV X n env ρ (.Name x pos) v :=
  .mk fun A E s av b G V => Name_function_global V.fn hk (loadGlobal_global (by rw [V.gl]; exact G.g) (mg_is hx) ⟨rfl, rfl⟩) hd
theorem mg_no {X : Cx} {x : Str} (e : nsIn (KK X.w.params) mainGlobals x = some none) : X.mg x = none := by
  obtain ⟨o, es, ep, ho, hd, _, hf⟩ := X.g
  unfold nsIn at e
  split at e
  · rename_i c d es' n' sl q
    have := X.K _ _ q
    rw [ho] at this
    cases this
    cases hd
    rw [← hf]
    split at e
    · cases e
    · rename_i he
      unfold nsFind findBy
      rw [← Array.find?_toList, he]
      rfl
  · cases e
theorem GlV.builtin {x : Str} {pos : Pos} {v : Value} (hk : env.kindOf x = some .globalImplicit) (hx : nsIn (KK X.w.params) mainGlobals x = some none) (hn : x ≠ "__name__") (hb : bootBuiltins x = some v)
    (hd : (x == ("__debug__" : Str)) = false) : GlV X n env ρ (.Name x pos) v :=
  .mk fun A E s av b G V => Name_function_global V.fn hk (loadGlobal_builtin (by rw [V.gl]; exact G.g) (mg_no hx) (by rw [V.bl]; exact G.b) ((X.bb x hn).trans hb) ⟨rfl, rfl⟩) hd
theorem EvJ.ofG {e : Expr} {v : Value} {d : V} (h : GlV X n env ρ e v) (r : ∀ (av : Addr → Prop) (h : Heap), R av h v d) : EvJ X n env ρ e d :=
  .mk fun A E s av b G a V => wpAny_mono (h.run A E s av b G V) (fun v' s' q => by obtain ⟨rfl, rfl⟩ := q; exact ⟨.refl G, r _ _⟩) fun _ _ e => e
structure BinJ (op : Operator) (x y d : V) : Prop where
  run : ∀ (X : Cx) (n : Nat) (A : Around) (E : Value → Shared → Prop) (s : Shared) (av : Addr → Prop) (u v : Value), Bud n A → GOk X s.heap → AvOk X av s.heap → R av s.heap u x → R av s.heap v y →
    wpAny (MX X) A (binaryOp op u v) (fun r s' => Stp X s s' ∧ R av s'.heap r d) E s
structure InJ (op : Operator) (x y d : V) : Prop where
  run : ∀ (X : Cx) (n : Nat) (A : Around) (E : Value → Shared → Prop) (s : Shared) (av : Addr → Prop) (u v : Value), Bud n A → GOk X s.heap → AvOk X av s.heap → R av s.heap u x → R av s.heap v y →
    wpAny (MX X) A (inplaceOp op u v) (fun r s' => Stp X s s' ∧ R av s'.heap r d) E s
structure UnJ (op : UnaryOp) (x d : V) : Prop where
  run : ∀ (X : Cx) (n : Nat) (A : Around) (E : Value → Shared → Prop) (s : Shared) (av : Addr → Prop) (u : Value), Bud n A → GOk X s.heap → AvOk X av s.heap → R av s.heap u x →
    wpAny (MX X) A (unaryOp op u) (fun r s' => Stp X s s' ∧ R av s'.heap r d) E s
structure CmpJ (op : CmpOp) (x y : V) (b : Bool) : Prop where
  run : ∀ (X : Cx) (n : Nat) (A : Around) (E : Value → Shared → Prop) (s : Shared) (av : Addr → Prop) (u v : Value), Bud n A → GOk X s.heap → AvOk X av s.heap → R av s.heap u x → R av s.heap v y →
    wpAny (MX X) A (compareOp op u v) (fun r s' => Stp X s s' ∧ r = .bool b) E s
structure TruJ (x : V) (b : Bool) : Prop where
  run : ∀ (X : Cx) (n : Nat) (A : Around) (E : Value → Shared → Prop) (s : Shared) (av : Addr → Prop) (u : Value), Bud n A → GOk X s.heap → AvOk X av s.heap → R av s.heap u x →
    wpAny (MX X) A (truthy u) (fun r s' => Stp X s s' ∧ r = b) E s
theorem EvJ.bin {a c : Expr} {op : Operator} {pos : Pos} {x y d : V} (h1 : EvJ X n env ρ a x) (h2 : EvJ X n env ρ c y) (h3 : BinJ op x y d) : EvJ X n env ρ (.BinOp a op c pos) d :=
  .mk fun A E s av b G a V => wpAny_BinOp (wpAny_mono (h1.run A E s av b G a V) (fun u s₁ q₁ => wpAny_mono (h2.run A E s₁ av b q₁.1.ok (a.step q₁.1) (V.step G a q₁.1))
    (fun v s₂ q₂ => wpAny_mono (h3.run X n A E s₂ av u v b q₂.1.ok ((a.step q₁.1).step q₂.1) (q₁.2.step (a.step q₁.1) q₂.1) q₂.2) (fun r s₃ q₃ => ⟨(q₁.1.trans q₂.1).trans q₃.1, q₃.2⟩) fun _ _ e => e) fun _ _ e => e) fun _ _ e => e)
theorem EvJ.un {a : Expr} {op : UnaryOp} {pos : Pos} {x d : V} (h1 : EvJ X n env ρ a x) (h3 : UnJ op x d) : EvJ X n env ρ (.UnaryOp op a pos) d :=
  .mk fun A E s av b G a V => wpAny_UnaryOp (wpAny_mono (h1.run A E s av b G a V) (fun u s₁ q₁ => wpAny_mono (h3.run X n A E s₁ av u b q₁.1.ok (a.step q₁.1) q₁.2) (fun r s₃ q₃ => ⟨q₁.1.trans q₃.1, q₃.2⟩) fun _ _ e => e) fun _ _ e => e)
theorem EvJ.cmp {a c : Expr} {op : CmpOp} {pos : Pos} {x y : V} {t : Bool} (h1 : EvJ X n env ρ a x) (h2 : EvJ X n env ρ c y) (h3 : CmpJ op x y t) (hm : behindInMarks op c = false) : EvJ X n env ρ (.Compare a [op] [c] pos) (.bool t) :=
  .mk fun A E s av b G a V => wpAny_Compare1 (wpAny_mono (h1.run A E s av b G a V) (fun u s₁ q₁ => wpAny_mono (h2.run A E s₁ av b q₁.1.ok (a.step q₁.1) (V.step G a q₁.1))
    (fun v s₂ q₂ => wpAny_mono (h3.run X n A E s₂ av u v b q₂.1.ok ((a.step q₁.1).step q₂.1) (q₁.2.step (a.step q₁.1) q₂.1) q₂.2) (fun r s₃ q₃ => ⟨(q₁.1.trans q₂.1).trans q₃.1, q₃.2 ▸ .bool _⟩) fun _ _ e => e) fun _ _ e => e) fun _ _ e => e) hm
theorem TrJ.cmp {a c : Expr} {op : CmpOp} {pos : Pos} {x y : V} {t : Bool} (h1 : EvJ X n env ρ a x) (h2 : EvJ X n env ρ c y) (h3 : CmpJ op x y t) (hm : behindInMarks op c = false) : TrJ X n env ρ (.Compare a [op] [c] pos) t :=
  .mk fun A E s av b G a V => wpAny_isTrue_Compare1 (wpAny_mono (h1.run A E s av b G a V) (fun u s₁ q₁ => wpAny_mono (h2.run A E s₁ av b q₁.1.ok (a.step q₁.1) (V.step G a q₁.1))
    (fun v s₂ q₂ => wpAny_mono (h3.run X n A E s₂ av u v b q₂.1.ok ((a.step q₁.1).step q₂.1) (q₁.2.step (a.step q₁.1) q₂.1) q₂.2)
      (fun r s₃ q₃ => by obtain ⟨q, rfl⟩ := q₃; exact wpAny_truthy_bool ⟨(q₁.1.trans q₂.1).trans q, rfl⟩) fun _ _ e => e) fun _ _ e => e) fun _ _ e => e) hm
theorem TrJ.val {e : Expr} {x : V} {t : Bool} (h1 : EvJ X n env ρ e x) (h2 : TruJ x t) (he : ∀ whole, isTrue e env whole = (do let v ← whole; standAt e.pos; holding [v] (truthy v))) : TrJ X n env ρ e t :=
  .mk fun A E s av b G a V => wpAny_isTrue_value (wpAny_mono (h1.run A E s av b G a V) (fun u s₁ q₁ => wpAny_mono (h2.run X n A E s₁ av u b q₁.1.ok (a.step q₁.1) q₁.2) (fun r s₂ q₂ => ⟨q₁.1.trans q₂.1, q₂.2⟩) fun _ _ e => e) fun _ _ e => e) (he _)
theorem TrJ.not {e : Expr} {pos : Pos} {t : Bool} (h : TrJ X n env ρ e t) : TrJ X n env ρ (.UnaryOp .Not e pos) (!t) :=
  .mk fun A E s av b G a V => wpAny_isTrue_Not (wpAny_mono (h.run A E s av b G a V) (fun r s₁ q => ⟨q.1, by rw [q.2]⟩) fun _ _ e => e)
structure AllJ (X : Cx) (n : Nat) (env : Env) (ρ : List (Str × V)) (op : BoolOp) (es : List Expr) (b : Bool) : Prop where
  run : ∀ (A : Around) (E : Value → Shared → Prop) (s : Shared) (av : Addr → Prop), Bud n A → GOk X s.heap → AvOk X av s.heap → EnvOk X av env ρ s.heap →
    wpAny (MX X) A (allTrue op es env) (fun v s' => Stp X s s' ∧ v = b) E s
theorem TrJ.bool {op : BoolOp} {es : List Expr} {pos : Pos} {t : Bool} (h : AllJ X n env ρ op es t) : TrJ X n env ρ (.BoolOp op es pos) t := .mk fun A E s av b G a V => wpAny_isTrue_BoolOp (h.run A E s av b G a V)
theorem AllJ.andNil : AllJ X n env ρ .And [] true := .mk fun A E s av b G a V => wpAny_allTrue_And_nil ⟨.refl G, rfl⟩
theorem AllJ.orNil : AllJ X n env ρ .Or [] false := .mk fun A E s av b G a V => wpAny_allTrue_Or_nil ⟨.refl G, rfl⟩
theorem AllJ.andCons {e : Expr} {es : List Expr} {t u : Bool} (h1 : TrJ X n env ρ e t) (h2 : t = true → AllJ X n env ρ .And es u) : AllJ X n env ρ .And (e :: es) (t && u) :=
  .mk fun A E s av b G a V => wpAny_allTrue_And_cons (wpAny_mono (h1.run A E s av b G a V) (fun r s₁ q => by
    obtain ⟨q, rfl⟩ := q
    cases r with
    | false => exact ⟨q, rfl⟩
    | true => exact wpAny_mono ((h2 rfl).run A E s₁ av b q.ok (a.step q) (V.step G a q)) (fun r s₂ z => ⟨q.trans z.1, by rw [z.2]; rfl⟩) fun _ _ e => e) fun _ _ e => e)
theorem AllJ.orCons {e : Expr} {es : List Expr} {t u : Bool} (h1 : TrJ X n env ρ e t) (h2 : t = false → AllJ X n env ρ .Or es u) : AllJ X n env ρ .Or (e :: es) (t || u) :=
  .mk fun A E s av b G a V => wpAny_allTrue_Or_cons (wpAny_mono (h1.run A E s av b G a V) (fun r s₁ q => by
    obtain ⟨q, rfl⟩ := q
    cases r with
    | true => exact ⟨q, rfl⟩
    | false => exact wpAny_mono ((h2 rfl).run A E s₁ av b q.ok (a.step q) (V.step G a q)) (fun r s₂ z => ⟨q.trans z.1, by rw [z.2]; rfl⟩) fun _ _ e => e) fun _ _ e => e)
theorem EvJ.ite {t x y : Expr} {pos : Pos} {b : Bool} {d : V} (h : TrJ X n env ρ t b) (h1 : b = true → EvJ X n env ρ x d) (h2 : b = false → EvJ X n env ρ y d) : EvJ X n env ρ (.IfExp t x y pos) d :=
  .mk fun A E s av bd G a V => wpAny_IfExp (wpAny_mono (h.run A E s av bd G a V) (fun r s₁ q => by
    obtain ⟨q, rfl⟩ := q
    cases r with
    | true => exact wpAny_mono ((h1 rfl).run A E s₁ av bd q.ok (a.step q) (V.step G a q)) (fun r s₂ z => ⟨q.trans z.1, z.2⟩) fun _ _ e => e
    | false => exact wpAny_mono ((h2 rfl).run A E s₁ av bd q.ok (a.step q) (V.step G a q)) (fun r s₂ z => ⟨q.trans z.1, z.2⟩) fun _ _ e => e) fun _ _ e => e)
theorem EvJ.or2 {x y : Expr} {pos : Pos} {b : Bool} {dx d : V} (h1 : EvJ X n env ρ x dx) (h2 : TruJ dx b) (ht : b = true → d = dx) (hf : b = false → EvJ X n env ρ y d) : EvJ X n env ρ (.BoolOp .Or [x, y] pos) d :=
  .mk fun A E s av bd G a V => wpAny_Or2 (wpAny_mono (h1.run A E s av bd G a V) (fun v s₁ q₁ => wpAny_mono (h2.run X n A E s₁ av v bd q₁.1.ok (a.step q₁.1) q₁.2) (fun r s₂ q₂ => by
    obtain ⟨q, rfl⟩ := q₂
    cases r with
    | true => exact ⟨q₁.1.trans q, ht rfl ▸ q₁.2.step (a.step q₁.1) q⟩
    | false => exact wpAny_mono ((hf rfl).run A E s₂ av bd q.ok ((a.step q₁.1).step q) ((V.step G a q₁.1).step q₁.1.ok (a.step q₁.1) q)) (fun r s₃ z => ⟨(q₁.1.trans q).trans z.1, z.2⟩) fun _ _ e => e) fun _ _ e => e) fun _ _ e => e)
theorem EvsJ.nil : EvsJ X n env ρ [] [] := .mk fun pos A E s av b G a V => wpAny_items_nil ⟨.refl G, .nil⟩
theorem EvsJ.cons {e : Expr} {es : List Expr} {d : V} {ds : List V} (h1 : EvJ X n env ρ e d) (h2 : EvsJ X n env ρ es ds) (he : starEach (e :: es) env = (false, eval e env) :: starEach es env) : EvsJ X n env ρ (e :: es) (d :: ds) :=
  .mk fun pos A E s av b G a V => wpAny_items_cons (wpAny_mono (h1.run A E s av b G a V) (fun v s₁ q₁ => wpAny_mono (h2.run pos A E s₁ av b q₁.1.ok (a.step q₁.1) (V.step G a q₁.1))
    (fun vs s₂ q₂ => ⟨q₁.1.trans q₂.1, .cons (q₁.2.step (a.step q₁.1) q₂.1) q₂.2⟩) fun _ _ e => e) fun _ _ e => e) he
theorem newSeq {av : Addr → Prop} {s : Shared} {vs : List Value} {ds : List V} (G : GOk X s.heap) (a : AvOk X av s.heap) (r : Rs av s.heap vs ds) :
    Stp X s { s with heap := s.heap.push { cls := .type "list", data := .seq vs.toArray } } ∧ R av (s.heap.push { cls := .type "list", data := .seq vs.toArray }) (.ref s.heap.objs.size) (.list ds) :=
  ⟨.push G, .list (a.fresh (size_none _)) ⟨_, Heap.get?_push_size _ rfl⟩ (r.step a (s' := { s with heap := s.heap.push { cls := .type "list", data := .seq vs.toArray } }) (.push G))⟩
theorem newTup {av : Addr → Prop} {s : Shared} {vs : List Value} {ds : List V} (G : GOk X s.heap) (a : AvOk X av s.heap) (r : Rs av s.heap vs ds) :
    Stp X s { s with heap := s.heap.push { cls := .type "tuple", data := .seq vs.toArray } } ∧ R av (s.heap.push { cls := .type "tuple", data := .seq vs.toArray }) (.ref s.heap.objs.size) (.tup ds) :=
  ⟨.push G, .tup (a.fresh (size_none _)) ⟨_, Heap.get?_push_size _ rfl, rfl, _, rfl⟩ (r.step a (s' := { s with heap := s.heap.push { cls := .type "tuple", data := .seq vs.toArray } }) (.push G))⟩
theorem EvJ.list {es : List Expr} {pos : Pos} {ds : List V} (h : EvsJ X n env ρ es ds) (hsz : ds.length ≤ 1000) : EvJ X n env ρ (.List es pos) (.list ds) :=
  .mk fun A E s av b G a V => wpAny_List (wpAny_mono (h.run pos A E s av b G a V) (fun vs s₁ q => by
    have z := newSeq q.1.ok (a.step q.1) q.2
    exact ⟨by rw [q.2.length, sizeLine_eq]; k_data, q.1.trans z.1, z.2⟩) fun _ _ e => e)
theorem EvJ.tup {es : List Expr} {k : Nat} {pos : Pos} {ds : List V} (h : EvsJ X n env ρ es ds) (hsz : ds.length ≤ 1000) : EvJ X n env ρ (.Tuple es k pos) (.tup ds) :=
  .mk fun A E s av b G a V => wpAny_Tuple (wpAny_mono (h.run pos A E s av b G a V) (fun vs s₁ q => by
    have z := newTup q.1.ok (a.step q.1) q.2
    exact ⟨by rw [q.2.length, sizeLine_eq]; k_data, q.1.trans z.1, z.2⟩) fun _ _ e => e)
theorem starEach_of {e : Expr} {rest : List Expr} (h : isStarred e = false) : starEach (e :: rest) env = (false, eval e env) :: starEach rest env := by
  cases e <;> first | rfl | (simp [isStarred] at h)
theorem backTo_of {pos : Pos} : ∀ {l : List Expr}, l.any isStarred = false → (backTo pos (starEach l env)).any (·.1) = false
  | [], _ => rfl
  | y :: l, hy => by
    rw [List.any_cons, Bool.or_eq_false_iff] at hy
    have ih := backTo_of (pos := pos) hy.2
    rw [starEach_of hy.1]
    exact ih
theorem EvJ.fcall0 {fv : Value} {pos p : Pos} {d : V} {x : Str} (hf : GlV X n env ρ (.Name x p) fv) (hk : keepIn (KK X.w.params) fv = true) (hc : CallJ X n fv [] d) : EvJ X n env ρ (.Call (.Name x p) [] [] pos) d := .mk fun A E s av b G a V => by
  refine wpAny_Call_Name_kw (wpAny_mono (hf.run A E s av b G V) (fun v s₁ q => ?_) fun _ _ e => e)
  obtain ⟨rfl, rfl⟩ := q
  exact callWith_K0 G.K hk (hc.run A E s₁ av [] b G a .nil)
theorem EvJ.fcall {fv : Value} {e : Expr} {es : List Expr} {pos p : Pos} {ds : List V} {d : V} {x : Str} (hf : GlV X n env ρ (.Name x p) fv) (hk : keepIn (KK X.w.params) fv = true) (hs : EvsJ X n env ρ (e :: es) ds) (hc : CallJ X n fv ds d)
    (hst : (e :: es).any isStarred = false) : EvJ X n env ρ (.Call (.Name x p) (e :: es) [] pos) d := .mk fun A E s av b G a V => by
  refine wpAny_Call_Name_kw (wpAny_mono (hf.run A E s av b G V) (fun v s₁ q => ?_) fun _ _ e => e)
  obtain ⟨rfl, rfl⟩ := q
  rw [List.any_cons, Bool.or_eq_false_iff] at hst
  exact callWith_K G.K hk (wpAny_mono (hs.run pos A E s₁ av b G a V) (fun vs s₂ q => ⟨q.1.ok.K,
    wpAny_mono (hc.run A E s₂ av vs b q.1.ok (a.step q.1) q.2) (fun r s₃ z => ⟨q.1.trans z.1, z.2⟩) fun _ _ e => e⟩) fun _ _ e => e) (starEach_of hst.1) (backTo_of hst.2)
end
end
section
structure Gh where
  a : Addr
  σ : Type
  P : σ → (Addr → Prop) → Heap → Prop
  mv : ∀ {x : σ} {av av' : Addr → Prop} {h h' : Heap}, (∀ b o, (b = a ∨ ¬ av b) → h.get? b = some o → h'.get? b = some o) → (∀ b, av' b → av b ∨ b = a ∨ h.get? b = none) → P x av h → P x av' h'
  lv : ∀ {x : σ} {av : Addr → Prop} {h : Heap}, P x av h → Lv h a
inductive Own where
  | lst (x : Str) (ds : List V)
  | gh (g : Gh) (x : g.σ)
inductive Out where
  | next (ρ : List (Str × V)) (ω : Option Own)
  | brk (ρ : List (Str × V)) (ω : Option Own)
  | cont (ρ : List (Str × V)) (ω : Option Own)
  | ret (d : V)
  | retG (d : V) (g : Gh) (x : g.σ)
noncomputable def AvB (av0 : Addr → Prop) (env : Env) (oa : Option Addr) (b : Addr) : Prop :=
  av0 b ∨ b = env.locals ∨ (∃ x, env.kindOf x = some .cell ∧ env.cells.lookup x = some b) ∨ oa = some b
noncomputable def VarIs (env : Env) (h : Heap) (x : Str) (v : Value) : Prop :=
  (env.kindOf x = some .local ∧ ∃ m, h.Ns env.locals m ∧ m x = some v) ∨ (env.kindOf x = some .cell ∧ ∃ c, env.cells.lookup x = some c ∧ h.IsCell c (some v))
noncomputable def OwnIs (X : Cx) (hb : Heap) (av : Addr → Prop) (env : Env) (h : Heap) (a : Addr) : Own → Prop
  | .lst x ds => hb.objs.size ≤ a ∧ VarIs env h x (.ref a) ∧ ∃ vs : List Value, h.PlainList a vs.toArray ∧ Rs av h vs ds
  | .gh g x => a = g.a ∧ X.S.objs.size ≤ a ∧ hb.get? a = none ∧ (env.locals ≠ a ∧ ∀ y c, env.cells.lookup y = some c → c ≠ a) ∧ g.P x av h
noncomputable def OwnOk (X : Cx) (hb : Heap) (av : Addr → Prop) (env : Env) (h : Heap) : Option Own → Option Addr → Prop
  | none, none => True
  | some p, some a => OwnIs X hb av env h a p
  | _, _ => False
structure Inv (X : Cx) (hb : Heap) (av0 : Addr → Prop) (env : Env) (ρ : List (Str × V)) (ω : Option Own) (oa : Option Addr) (h : Heap) : Prop where
  ok : GOk X h
  ext : Ext hb h
  base : X.S.objs.size ≤ hb.objs.size
  avk : AvOk X (AvB av0 env oa) h
  en : EnvOk X (AvB av0 env oa) env ρ h
  fl : hb.objs.size ≤ env.locals
  cs : ∀ x c, env.cells.lookup x = some c → (∃ o, hb.get? c = some o) ∨ (env.locals < c ∧ env.kindOf x = some .cell)
  fc : ∀ x c, env.kindOf x = some .cell → env.cells.lookup x = some c → ∃ v, h.IsCell c v
  ap : ∀ x y c, env.cells.lookup x = some c → env.cells.lookup y = some c → env.locals < c → x = y
  d1 : ¬ av0 env.locals
  d2 : ∀ x c, env.cells.lookup x = some c → env.locals < c → ¬ av0 c
  d3 : ∀ a, oa = some a → ¬ av0 a
  own : OwnOk X hb (AvB av0 env oa) env h ω oa
noncomputable def Mut (env : Env) (oa : Option Addr) (b : Addr) : Prop := tab b ∨ b = env.locals ∨ (env.locals < b ∧ ∃ x, env.cells.lookup x = some b) ∨ oa = some b
noncomputable def OaOk (oa : Option Addr) (hs : Heap) (oa' : Option Addr) : Prop := ∀ a, oa' = some a → oa = some a ∨ hs.get? a = none
theorem OaOk.refl {oa : Option Addr} {hs : Heap} : OaOk oa hs oa := fun _ h => .inl h
structure Same (env : Env) (oa : Option Addr) (s s' : Shared) : Prop where
  eq : ∃ h' tk, s' = { s with heap := h', toks := tk }
  kp : ∀ b o, ¬ Mut env oa b → s.heap.get? b = some o → s'.heap.get? b = some o
  al : ∀ b o, s.heap.get? b = some o → ∃ o', s'.heap.get? b = some o'
theorem Same.refl {env : Env} {oa : Option Addr} (s : Shared) : Same env oa s s := ⟨⟨s.heap, s.toks, rfl⟩, fun _ _ _ e => e, fun _ o e => ⟨o, e⟩⟩
theorem Same.trans' {env : Env} {oa oa' : Option Addr} {s₁ s₂ s₃ : Shared} (x : Same env oa s₁ s₂) (o : OaOk oa s₁.heap oa') (y : Same env oa' s₂ s₃) : Same env oa s₁ s₃ :=
  ⟨by obtain ⟨h, t, rfl⟩ := x.eq; obtain ⟨h', t', rfl⟩ := y.eq; exact ⟨h', t', rfl⟩, fun b ob n e => y.kp b ob (fun q => n (q.imp_right (.imp_right (.imp_right fun q => (o b q).elim id fun z => by rw [z] at e; cases e)))) (x.kp b ob n e),
    fun b o e => let ⟨o', e'⟩ := x.al b o e; y.al b o' e'⟩
theorem Same.trans {env : Env} {oa : Option Addr} {s₁ s₂ s₃ : Shared} (x : Same env oa s₁ s₂) (y : Same env oa s₂ s₃) : Same env oa s₁ s₃ := x.trans' .refl y
theorem Stp.same {X : Cx} {env : Env} {oa : Option Addr} {s s' : Shared} (x : Stp X s s') : Same env oa s s' := ⟨x.eq, fun b o t e => x.ext b o (fun q => t (.inl q)) e, fun b o e => by
  by_cases t : tab b
  · rcases t with rfl | rfl
    · obtain ⟨ps, e, _⟩ := x.ok.p1.ex; exact ⟨_, e⟩
    · obtain ⟨ps, e, _⟩ := x.ok.p2.ex; exact ⟨_, e⟩
  · exact ⟨o, x.ext b o t e⟩⟩
theorem al_same {h h' : Heap} {a : Addr} (hs : Heap.SameBut a h h') (hl : ∃ o, h'.get? a = some o) (b : Addr) (o : Obj) (e : h.get? b = some o) : ∃ o', h'.get? b = some o' := by
  by_cases q : b = a
  · subst q; exact hl
  · exact ⟨o, (hs.2 b q).trans e⟩
theorem OaOk.from {env : Env} {oa oa' oo : Option Addr} {s s' : Shared} (x : OaOk oa s'.heap oa') (y : Same env oo s s') : OaOk oa s.heap oa' := fun a h => (x a h).imp id fun e => by
  cases q : s.heap.get? a with
  | none => rfl
  | some o => obtain ⟨o', e'⟩ := y.al a o q; rw [e] at e'; cases e'
theorem OaOk.trans {env : Env} {oa oa' oa'' oo : Option Addr} {s s' : Shared} (z : OaOk oa s.heap oa') (x : OaOk oa' s'.heap oa'') (y : Same env oo s s') : OaOk oa s.heap oa'' := fun a h => ((x.from y) a h).elim (z a) .inr
noncomputable def OutOk (X : Cx) (hb : Heap) (av0 : Addr → Prop) (env : Env) (oa : Option Addr) (hs : Heap) (out : Out) (fl : Flow) (h : Heap) : Prop := match out with
  | .next ρ ω => fl = .next ∧ ∃ oa', Inv X hb av0 env ρ ω oa' h ∧ OaOk oa hs oa'
  | .brk ρ ω => fl = .brk ∧ ∃ oa', Inv X hb av0 env ρ ω oa' h ∧ OaOk oa hs oa'
  | .cont ρ ω => fl = .cont ∧ ∃ oa', Inv X hb av0 env ρ ω oa' h ∧ OaOk oa hs oa'
  | .ret d => ∃ v, fl = .ret v ∧ GOk X h ∧ Ext hb h ∧ R av0 h v d
  | .retG d g y => ∃ v, fl = .ret v ∧ GOk X h ∧ Ext hb h ∧ R av0 h v d ∧ g.P y av0 h
structure ExJ (X : Cx) (n : Nat) (env : Env) (ρ : List (Str × V)) (ω : Option Own) (ss : List Stmt) (out : Out) : Prop where
  run : ∀ (A : Around) (E : Value → Shared → Prop) (s : Shared) (hb : Heap) (av0 : Addr → Prop) (oa : Option Addr), Bud n A → Inv X hb av0 env ρ ω oa s.heap →
    wpAny (MX X) A (execs ss env) (fun fl s' => Same env oa s s' ∧ OutOk X hb av0 env oa s.heap out fl s'.heap) E s
structure StJ (X : Cx) (n : Nat) (env : Env) (ρ : List (Str × V)) (ω : Option Own) (st : Stmt) (out : Out) : Prop where
  run : ∀ (A : Around) (E : Value → Shared → Prop) (s : Shared) (hb : Heap) (av0 : Addr → Prop) (oa : Option Addr), Bud n A → Inv X hb av0 env ρ ω oa s.heap →
    wpAny (MX X) A (exec st env) (fun fl s' => Same env oa s s' ∧ OutOk X hb av0 env oa s.heap out fl s'.heap) E s
theorem ns_cell {h : Heap} {a c : Addr} {m : Str → Option Value} {v : Option Value} (x : h.Ns a m) (y : h.IsCell c v) : c ≠ a := by
  rintro rfl
  obtain ⟨o, es, ep, ho, hd, _⟩ := x
  obtain ⟨o', ho', hd'⟩ := y
  rw [ho] at ho'; cases ho'; rw [hd] at hd'; cases hd'
theorem ns_list {h : Heap} {a c : Addr} {m : Str → Option Value} {v : Array Value} (x : h.Ns a m) (y : h.IsList c v) : c ≠ a := by
  rintro rfl
  obtain ⟨o, es, ep, ho, hd, _⟩ := x
  obtain ⟨o', ho', _, n, hd'⟩ := y
  rw [ho] at ho'; cases ho'; rw [hd] at hd'; cases hd'
theorem cell_list {h : Heap} {a c : Addr} {m : Option Value} {v : Array Value} (x : h.IsCell a m) (y : h.IsList c v) : c ≠ a := by
  rintro rfl
  obtain ⟨o, ho, hd⟩ := x
  obtain ⟨o', ho', _, n, hd'⟩ := y
  rw [ho] at ho'; cases ho'; rw [hd] at hd'; cases hd'
section
variable {X : Cx} {n : Nat} {env : Env} {ρ : List (Str × V)} {ω : Option Own} {hb : Heap} {av0 : Addr → Prop} {oa : Option Addr}
theorem Inv.step {s s' : Shared} (I : Inv X hb av0 env ρ ω oa s.heap) (x : Stp X s s') : Inv X hb av0 env ρ ω oa s'.heap where
  ok := x.ok
  ext := I.ext.trans x.ext
  base := I.base
  avk := I.avk.step x
  en := I.en.step I.ok I.avk x
  fl := I.fl
  cs := I.cs
  fc := fun y c h1 h2 => let ⟨v, b⟩ := I.fc y c h1 h2; ⟨v, let ⟨o, ho, hd⟩ := b; ⟨o, x.ext _ o (cell_nt I.ok b) ho, hd⟩⟩
  ap := I.ap
  d1 := I.d1
  d2 := I.d2
  d3 := I.d3
  own := by
    have o := I.own
    cases ω with
    | none => cases oa with
      | none => trivial
      | some a => exact o.elim
    | some p => cases oa with
      | none => exact o.elim
      | some a =>
        cases p with
        | gh g x0 =>
        obtain ⟨h1, h2, h3, h4, h5⟩ := o
        have la : ¬ tab a := by
          rintro (rfl | rfl)
          · have := X.lt61; k_data
          · have := X.lt54; k_data
        exact ⟨h1, h2, h3, h4, g.mv (fun b o q e => x.ext b o (fun t => q.elim (fun q => la (by rw [h1, ← q]; exact t)) fun q => q (I.avk.tab b t)) e) (fun _ q => .inl q) h5⟩
        | lst y ds =>
        obtain ⟨h1, h2, vs, h3, h4⟩ := o
        have la : ¬ tab a := by
          rintro (rfl | rfl)
          · have := X.lt61; have := I.base; k_data
          · have := X.lt54; have := I.base; k_data
        refine ⟨h1, ?_, vs, h3.at fun o e => x.ext _ o la e, h4.step I.avk x⟩
        rcases h2 with ⟨k, m, hm, e⟩ | ⟨k, c, hc, hi⟩
        · exact .inl ⟨k, m, ns_ext hm fun o e => x.ext _ o (ns_nt I.ok hm) e, e⟩
        · exact .inr ⟨k, c, hc, let ⟨o, ho, hd⟩ := hi; ⟨o, x.ext _ o (cell_nt I.ok hi) ho, hd⟩⟩
theorem Inv.change {h h' : Heap} {a : Addr} (I : Inv X hb av0 env ρ ω oa h) (hs : Heap.SameBut a h h') (ha : hb.objs.size ≤ a) (hl : Lv h' a) (nc : NCh h a) : GOk X h' ∧ Ext hb h' ∧ AvOk X (AvB av0 env oa) h' := by
  refine ⟨I.ok.same (Nat.le_trans I.base ha) hs nc, fun b o t e => (hs.2 b (Nat.ne_of_lt (Nat.lt_of_lt_of_le (Heap.lt_size e) ha))).trans (I.ext b o t e), I.avk.tab, fun b hb' => ?_⟩
  by_cases e : b = a
  · subst e; exact hl
  · exact (I.avk.live b hb').keep fun o ho => (hs.2 b e).trans ho
theorem kind_ne {env : Env} {x y : Str} {k k' : NameKind} (h1 : env.kindOf x = some k) (h2 : env.kindOf y = some k') (hk : k ≠ k') : x ≠ y := by rintro rfl; rw [h1] at h2; exact hk (Option.some.inj h2)
theorem Inv.store' {A : Around} {E : Value → Shared → Prop} {s : Shared} {x : Str} {v : Value} {ρ' : List (Str × V)} (I : Inv X hb av0 env ρ ω oa s.heap) (hρ : ∀ y d, ρ'.lookup y = some d → (y = x ∧ R (AvB av0 env oa) s.heap v d) ∨ (y ≠ x ∧ ρ.lookup y = some d))
    (hx : env.kindOf x = some .local ∨ (env.kindOf x = some .cell ∧ ∃ c, env.cells.lookup x = some c ∧ env.locals < c)) (hω : ∀ y ds, ω = some (Own.lst y ds) → y ≠ x) :
    wpAny (MX X) A (storeName env x v) (fun _ s' => Same env oa s s' ∧ (Inv X hb av0 env ρ' ω oa s'.heap ∧ VarIs env s'.heap x v) ∧ ∀ b o, ¬ AvB av0 env oa b → s.heap.get? b = some o → s'.heap.get? b = some o) E s := by
  rcases hx with hx | ⟨hx, c, hc, hlt⟩
  · obtain ⟨m, hm, hr⟩ := I.en.ns
    refine wpAny_storeName_local hx hm (fun h' hn hs => ⟨⟨⟨h', _, rfl⟩, fun b o ha e => (hs.2 b fun q => ha (.inr (.inl q))).trans e, al_same hs (let ⟨o, _, _, ho, _⟩ := hn; ⟨o, ho⟩)⟩, ?_⟩) (by rw [I.en.fn]; rfl)
    obtain ⟨c1, c2, c3⟩ := I.change hs I.fl (.ns hn) (.ns hm)
    have mv : ∀ {v : Value} {d : V}, R (AvB av0 env oa) s.heap v d → R (AvB av0 env oa) h' v d := fun r => r.move (fun b o nb e => (hs.2 b (fun q => nb (.inr (.inl q)))).trans e) fun _ q => .inl q
    have mvs : ∀ {v : List Value} {d : List V}, Rs (AvB av0 env oa) s.heap v d → Rs (AvB av0 env oa) h' v d := fun r => r.move (fun b o nb e => (hs.2 b (fun q => nb (.inr (.inl q)))).trans e) fun _ q => .inl q
    refine ⟨⟨?_, .inl ⟨hx, _, hn, if_pos rfl⟩⟩, fun b o nb e => (hs.2 b (fun q => nb (.inr (.inl q)))).trans e⟩
    refine ⟨c1, c2, I.base, c3, ⟨I.en.fn, I.en.gl, I.en.bl, I.en.loc, ⟨_, hn, fun y d' hy hk => ?_⟩, fun y d' hy => ?_⟩, I.fl, I.cs, fun y c' h1 h2 => ?_, I.ap, I.d1, I.d2, I.d3, ?_⟩
    · rcases hρ y d' hy with ⟨rfl, r⟩ | ⟨e, hy⟩
      · exact ⟨v, if_pos rfl, mv r⟩
      · obtain ⟨v', e', r'⟩ := hr y d' hy hk
        exact ⟨v', by rw [if_neg e]; exact e', mv r'⟩
    · rcases hρ y d' hy with ⟨rfl, r⟩ | ⟨e, hy⟩
      · exact .inl hx
      · exact (I.en.cl y d' hy).imp id fun ⟨k, c', v', e1, e2, e3, r'⟩ => ⟨k, c', v', e1, e2, e3.sameBut hs (ns_cell hm e3), mv r'⟩
    · obtain ⟨v', b⟩ := I.fc y c' h1 h2
      exact ⟨v', b.sameBut hs (ns_cell hm b)⟩
    · have o := I.own
      cases ω with
      | none => cases oa with
        | none => trivial
        | some a => exact o.elim
      | some p => cases oa with
        | none => exact o.elim
        | some a =>
          cases p with
          | gh g x0 =>
          obtain ⟨h1, h2, h3, h4, h5⟩ := o
          exact ⟨h1, h2, h3, h4, g.mv (fun b o q e => (hs.2 b (fun z => q.elim (fun q => h4.1 (by rw [h1, ← q]; exact z.symm)) fun q => q (.inr (.inl z)))).trans e) (fun _ q => .inl q) h5⟩
          | lst y ds =>
          obtain ⟨h1, h2, vs, h3, h4⟩ := o
          have ny := hω y ds rfl
          refine ⟨h1, ?_, vs, h3.extBut hs.extBut (ns_list hm h3.isList), mvs h4⟩
          rcases h2 with ⟨k, m', hm', e⟩ | ⟨k, c, hc, hi⟩
          · refine .inl ⟨k, _, hn, ?_⟩
            rw [if_neg ny]
            have : m' y = m y := by
              obtain ⟨o1, es1, ep1, g1, d1, _, f1⟩ := hm
              obtain ⟨o2, es2, ep2, g2, d2, _, f2⟩ := hm'
              rw [g1] at g2; cases g2; rw [d1] at d2; cases d2
              rw [← f1, ← f2]
            rw [← this]; exact e
          · exact .inr ⟨k, c, hc, hi.sameBut hs (ns_cell hm hi)⟩
  · obtain ⟨v₀, hc0⟩ := I.fc x c hx hc
    have hcb : hb.objs.size ≤ c := Nat.le_of_lt (Nat.lt_of_le_of_lt I.fl hlt)
    obtain ⟨m, hm, hr⟩ := I.en.ns
    refine wpAny_storeName_cell I.en.fn hx hc hc0 fun h' hn hs => ⟨⟨⟨h', _, rfl⟩, fun b o ha e => (hs.2 b fun q => ha (.inr (.inr (.inl (q ▸ ⟨hlt, x, hc⟩))))).trans e, al_same hs (let ⟨o, ho, _⟩ := hn; ⟨o, ho⟩)⟩, ?_⟩
    obtain ⟨c1, c2, c3⟩ := I.change hs hcb (.cell hn) (.cell hc0)
    have avc : AvB av0 env oa c := .inr (.inr (.inl ⟨x, hx, hc⟩))
    have mv : ∀ {v : Value} {d : V}, R (AvB av0 env oa) s.heap v d → R (AvB av0 env oa) h' v d := fun r => r.move (fun b o nb e => (hs.2 b (fun q => nb (q ▸ avc))).trans e) fun _ q => .inl q
    have mvs : ∀ {v : List Value} {d : List V}, Rs (AvB av0 env oa) s.heap v d → Rs (AvB av0 env oa) h' v d := fun r => r.move (fun b o nb e => (hs.2 b (fun q => nb (q ▸ avc))).trans e) fun _ q => .inl q
    have hmn : h'.Ns env.locals m := ns_ext hm fun o e => (hs.2 _ (Ne.symm (ns_cell hm hc0))).trans e
    have oth : ∀ y c' v', y ≠ x → env.cells.lookup y = some c' → s.heap.IsCell c' v' → h'.IsCell c' v' := fun y c' v' ne e z => z.sameBut hs fun q => ne (I.ap y x c' e (q ▸ hc) (q ▸ hlt))
    refine ⟨⟨?_, .inr ⟨hx, c, hc, hn⟩⟩, fun b o nb e => (hs.2 b (fun q => nb (q ▸ avc))).trans e⟩
    refine ⟨c1, c2, I.base, c3, ⟨I.en.fn, I.en.gl, I.en.bl, I.en.loc, ⟨m, hmn, fun y d' hy hk => ?_⟩, fun y d' hy => ?_⟩, I.fl, I.cs, fun y c' h1 h2 => ?_, I.ap, I.d1, I.d2, I.d3, ?_⟩
    · have ne : y ≠ x := kind_ne hk hx (by decide)
      have hy := ((hρ y d' hy).resolve_left fun q => ne q.1).2
      obtain ⟨v', e', r'⟩ := hr y d' hy hk
      exact ⟨v', e', mv r'⟩
    · rcases hρ y d' hy with ⟨rfl, r⟩ | ⟨e, hy⟩
      · exact .inr ⟨.inl hx, c, v, hc, fun _ => avc, hn, mv r⟩
      · exact (I.en.cl y d' hy).imp id fun ⟨k, c', v', e1, e2, e3, r'⟩ => ⟨k, c', v', e1, e2, oth y c' _ e e1 e3, mv r'⟩
    · by_cases e : y = x
      · subst e
        rw [hc] at h2; cases h2
        exact ⟨_, hn⟩
      · obtain ⟨v', b⟩ := I.fc y c' h1 h2
        exact ⟨v', oth y c' _ e h2 b⟩
    · have o := I.own
      cases ω with
      | none => cases oa with
        | none => trivial
        | some a => exact o.elim
      | some p => cases oa with
        | none => exact o.elim
        | some a =>
          cases p with
          | gh g x0 =>
          obtain ⟨h1, h2, h3, h4, h5⟩ := o
          exact ⟨h1, h2, h3, h4, g.mv (fun b o q e => (hs.2 b (fun z => q.elim (fun q => h4.2 x c hc (by rw [h1, ← q]; exact z.symm)) fun q => q (z ▸ avc))).trans e) (fun _ q => .inl q) h5⟩
          | lst y ds =>
          obtain ⟨h1, h2, vs, h3, h4⟩ := o
          have ny := hω y ds rfl
          refine ⟨h1, ?_, vs, h3.extBut hs.extBut (cell_list hc0 h3.isList), mvs h4⟩
          rcases h2 with ⟨k, m', hm', e⟩ | ⟨k, c', hc', hi⟩
          · exact .inl ⟨k, m', ns_ext hm' fun o e => (hs.2 _ (Ne.symm (ns_cell hm' hc0))).trans e, e⟩
          · exact .inr ⟨k, c', hc', oth y c' _ ny hc' hi⟩
theorem OutOk.back {X : Cx} {hb : Heap} {av0 : Addr → Prop} {env : Env} {oa oa' oo : Option Addr} {s s' : Shared} {out : Out} {fl : Flow} {h : Heap} (z : OutOk X hb av0 env oa' s'.heap out fl h) (y : Same env oo s s') (o : OaOk oa s.heap oa') : OutOk X hb av0 env oa s.heap out fl h := by
  cases out with
  | next ρ ω => obtain ⟨a, b, c, d⟩ := z; exact ⟨a, b, c, o.trans d y⟩
  | brk ρ ω => obtain ⟨a, b, c, d⟩ := z; exact ⟨a, b, c, o.trans d y⟩
  | cont ρ ω => obtain ⟨a, b, c, d⟩ := z; exact ⟨a, b, c, o.trans d y⟩
  | ret d => exact z
  | retG d g y => exact z
theorem Inv.store {A : Around} {E : Value → Shared → Prop} {s : Shared} {x : Str} {v : Value} {d : V} (I : Inv X hb av0 env ρ ω oa s.heap) (r : R (AvB av0 env oa) s.heap v d)
    (hx : env.kindOf x = some .local ∨ (env.kindOf x = some .cell ∧ ∃ c, env.cells.lookup x = some c ∧ env.locals < c)) (hω : ∀ y ds, ω = some (Own.lst y ds) → y ≠ x) :
    wpAny (MX X) A (storeName env x v) (fun _ s' => Same env oa s s' ∧ Inv X hb av0 env ((x, d) :: ρ) ω oa s'.heap ∧ ∀ b o, ¬ AvB av0 env oa b → s.heap.get? b = some o → s'.heap.get? b = some o) E s := by
  refine wpAny_mono (I.store' (ρ' := (x, d) :: ρ) (fun y d' hy => ?_) hx hω) (fun _ s' z => ⟨z.1, z.2.1.1, z.2.2⟩) fun _ _ e => e
  rw [List.lookup_cons] at hy
  by_cases e : y = x
  · subst e
    simp only [beq_self_eq_true] at hy
    cases hy
    exact .inl ⟨rfl, r⟩
  · have : (y == x) = false := by simpa using e
    simp only [this] at hy
    exact .inr ⟨e, hy⟩
theorem ExJ.nil : ExJ X n env ρ ω [] (.next ρ ω) := .mk fun A E s hb av0 oa b I => wpAny_execs_nil ⟨.refl s, rfl, oa, I, .refl⟩
theorem ExJ.cons {st : Stmt} {ss : List Stmt} {ρ' : List (Str × V)} {ω' : Option Own} {out : Out} (h1 : StJ X n env ρ ω st (.next ρ' ω')) (h2 : ExJ X n env ρ' ω' ss out) : ExJ X n env ρ ω (st :: ss) out :=
  .mk fun A E s hb av0 oa b I => wpAny_execs_cons (wpAny_mono (h1.run A E s hb av0 oa b I) (fun fl s₁ q => by
    obtain ⟨q1, rfl, oa', I', o1⟩ := q
    exact wpAny_mono (h2.run A E s₁ hb av0 oa' b I') (fun fl s₂ z => ⟨q1.trans' o1 z.1, z.2.back q1 o1⟩) fun _ _ e => e) fun _ _ e => e)
theorem ExJ.ret {st : Stmt} {ss : List Stmt} {d : V} (h1 : StJ X n env ρ ω st (.ret d)) : ExJ X n env ρ ω (st :: ss) (.ret d) :=
  .mk fun A E s hb av0 oa b I => wpAny_execs_cons (wpAny_mono (h1.run A E s hb av0 oa b I) (fun fl s₁ q => by
    obtain ⟨q1, v, rfl, q2⟩ := q
    exact ⟨q1, v, rfl, q2⟩) fun _ _ e => e)
theorem ExJ.brk {st : Stmt} {ss : List Stmt} {ρ' : List (Str × V)} {ω' : Option Own} (h1 : StJ X n env ρ ω st (.brk ρ' ω')) : ExJ X n env ρ ω (st :: ss) (.brk ρ' ω') :=
  .mk fun A E s hb av0 oa b I => wpAny_execs_cons (wpAny_mono (h1.run A E s hb av0 oa b I) (fun fl s₁ q => by
    obtain ⟨q1, rfl, q2⟩ := q
    exact ⟨q1, rfl, q2⟩) fun _ _ e => e)
noncomputable def Stores (env : Env) (ω : Option Own) (x : Str) : Prop :=
  (env.kindOf x = some .local ∨ (env.kindOf x = some .cell ∧ ∃ c, env.cells.lookup x = some c ∧ env.locals < c)) ∧ ∀ y ds, ω = some (Own.lst y ds) → y ≠ x
theorem Stores.none {x : Str} (hx : env.kindOf x = some .local ∨ (env.kindOf x = some .cell ∧ ∃ c, env.cells.lookup x = some c ∧ env.locals < c)) : Stores env none x := ⟨hx, fun _ _ h => nomatch h⟩
theorem Stores.some {x y : Str} {ds : List V} (hx : env.kindOf x = some .local ∨ (env.kindOf x = some .cell ∧ ∃ c, env.cells.lookup x = some c ∧ env.locals < c)) (h : (y == x) = false) : Stores env (some (Own.lst y ds)) x :=
  ⟨hx, fun _ _ e => by cases e; intro q; subst q; simp at h⟩
theorem StJ.assign {x : Str} {p pos : Pos} {e : Expr} {d : V} (h : EvJ X n env ρ e d) (hx : Stores env ω x) (hs : swapsWith e (some (.Name x p)) pos.line env = pure false) : StJ X n env ρ ω (.Assign [.Name x p] e pos) (.next ((x, d) :: ρ) ω) :=
  .mk fun A E s hb av0 oa b I => wpAny_Assign_Name (wpAny_mono (h.run A E s _ b I.ok I.avk I.en) (fun v s₁ q => wpAny_mono ((I.step q.1).store q.2 hx.1 hx.2) (fun _ s₂ z => ⟨q.1.same.trans z.1, rfl, oa, z.2.1, .refl⟩) fun _ _ e => e) fun _ _ e => e) hs
theorem ldName {A : Around} {E : Value → Shared → Prop} {s : Shared} {av : Addr → Prop} {x : Str} {d : V} (V : EnvOk X av env ρ s.heap) (hx : ρ.lookup x = some d) (hc : (x == ("__classdict__" : Str)) = false) :
    wpAny (MX X) A (loadName env x) (fun v s' => s' = s ∧ R av s.heap v d) E s := by
  rcases V.cl x d hx with h | ⟨h | h, c, v, h1, _, h2, r⟩
  · obtain ⟨m, hm, hr⟩ := V.ns
    obtain ⟨v, hv, r⟩ := hr x d hx h
    exact wpAny_loadName_local V.fn h hm hv ⟨rfl, r⟩
  · exact wpAny_loadName_cell V.fn h h1 h2 ⟨rfl, r⟩
  · exact wpAny_loadName_free V.fn h h1 h2 ⟨rfl, r⟩ hc
theorem StJ.aug {x : Str} {p pos : Pos} {op : Operator} {e : Expr} {d y d' : V} (h0 : ρ.lookup x = some y) (h : EvJ X n env ρ e d) (hi : InJ op y d d') (hx : Stores env ω x) (hc : (x == ("__classdict__" : Str)) = false) : StJ X n env ρ ω (.AugAssign (.Name x p) op e pos) (.next ((x, d') :: ρ) ω) :=
  .mk fun A E s hb av0 oa b I => by
    refine wpAny_AugAssign_Name (wpAny_mono (ldName I.en h0 hc) (fun u s₁ q₁ => ?_) fun _ _ e => e)
    obtain ⟨rfl, q₁⟩ := q₁
    refine wpAny_mono (h.run A E s₁ _ b I.ok I.avk I.en) (fun v s₂ q₂ => ?_) fun _ _ e => e
    have I2 := I.step q₂.1
    exact wpAny_mono (hi.run X n A E s₂ _ u v b q₂.1.ok I2.avk (q₁.step I.avk q₂.1) q₂.2) (fun r s₃ q₃ => wpAny_mono ((I2.step q₃.1).store q₃.2 hx.1 hx.2)
      (fun _ s₄ z => ⟨(q₂.1.same.trans q₃.1.same).trans z.1, rfl, oa, z.2.1, .refl⟩) fun _ _ e => e) fun _ _ e => e
theorem StJ.ret {e : Expr} {pos : Pos} {d : V} (h : EvJ X n env ρ e d) : StJ X n env ρ ω (.Return (some e) pos) (.ret d) :=
  .mk fun A E s hb av0 oa b I => wpAny_Return_some (wpAny_mono (h.run A E s _ b I.ok I.avk I.en) (fun v s₁ q => ⟨q.1.same, v, rfl, q.1.ok, I.ext.trans q.1.ext, q.2.move (fun _ _ _ e => e) fun b q => .inl (.inl q)⟩) fun _ _ e => e)
theorem StJ.ite {t : Expr} {x y : List Stmt} {pos : Pos} {c : Bool} {out : Out} (h : TrJ X n env ρ t c) (h1 : c = true → ExJ X n env ρ ω x out) (h2 : c = false → ExJ X n env ρ ω y out) : StJ X n env ρ ω (.If t x y pos) out :=
  .mk fun A E s hb av0 oa b I => wpAny_If (wpAny_mono (h.run A E s _ b I.ok I.avk I.en) (fun r s₁ q => by
    obtain ⟨q, rfl⟩ := q
    cases r with
    | true => exact wpAny_mono ((h1 rfl).run A E s₁ hb av0 oa b (I.step q)) (fun fl s₂ z => ⟨q.same.trans z.1, z.2.back (q.same (env := env) (oa := oa)) .refl⟩) fun _ _ e => e
    | false => exact wpAny_mono ((h2 rfl).run A E s₁ hb av0 oa b (I.step q)) (fun fl s₂ z => ⟨q.same.trans z.1, z.2.back (q.same (env := env) (oa := oa)) .refl⟩) fun _ _ e => e) fun _ _ e => e)
theorem StJ.break {pos : Pos} : StJ X n env ρ ω (.Break pos) (.brk ρ ω) := .mk fun A E s hb av0 oa b I => wpAny_Break ⟨.refl s, rfl, oa, I, .refl⟩
end
end
section
theorem bindL_off {k : Str → Option NameKind} {x : Str} : ∀ {l : List (Str × Value)} {m : Str → Option Value}, x ∉ l.map (·.1) → bindL k l m x = m x
  | [], _, _ => rfl
  | (n, v) :: r, m, h => by
    rw [List.map_cons, List.mem_cons, not_or] at h
    unfold bindL
    rw [bindL_off h.2]
    split
    · show (if x = n then some v else m x) = m x
      rw [if_neg h.1]
    · rfl
theorem bindC_off {k : Str → Option NameKind} {x : Str} : ∀ {l : List (Str × Value)} {m : Str → Option Value}, x ∉ l.map (·.1) → bindC k l m x = m x
  | [], _, _ => rfl
  | (n, v) :: r, m, h => by
    rw [List.map_cons, List.mem_cons, not_or] at h
    unfold bindC
    rw [bindC_off h.2]
    split
    · rfl
    · show (if x = n then some v else m x) = m x
      rw [if_neg h.1]
theorem mem_of_lk {x : Str} {v : Value} : ∀ {l : List (Str × Value)}, l.lookup x = some v → x ∈ l.map (·.1)
  | (n, w) :: r, h => by
    rw [List.lookup_cons] at h
    by_cases e : x = n
    · subst e; exact .head _
    · have : (x == n) = false := by simpa using e
      simp only [this] at h
      exact .tail _ (mem_of_lk h)
theorem bindL_at {k : Str → Option NameKind} {x : Str} {v : Value} (hk : k x = some .local) : ∀ {l : List (Str × Value)} {m : Str → Option Value}, (l.map (·.1)).Nodup → l.lookup x = some v → bindL k l m x = some v
  | (n, w) :: r, m, nd, h => by
    rw [List.map_cons, List.nodup_cons] at nd
    rw [List.lookup_cons] at h
    unfold bindL
    by_cases e : x = n
    · subst e
      simp only [beq_self_eq_true] at h
      cases h
      rw [bindL_off nd.1, if_pos hk]
      exact if_pos rfl
    · have : (x == n) = false := by simpa using e
      simp only [this] at h
      exact bindL_at hk nd.2 h
theorem bindC_at {k : Str → Option NameKind} {x : Str} {v : Value} (hk : k x ≠ some .local) : ∀ {l : List (Str × Value)} {m : Str → Option Value}, (l.map (·.1)).Nodup → l.lookup x = some v → bindC k l m x = some v
  | (n, w) :: r, m, nd, h => by
    rw [List.map_cons, List.nodup_cons] at nd
    rw [List.lookup_cons] at h
    unfold bindC
    by_cases e : x = n
    · subst e
      simp only [beq_self_eq_true] at h
      cases h
      rw [bindC_off nd.1, if_neg hk]
      exact if_pos rfl
    · have : (x == n) = false := by simpa using e
      simp only [this] at h
      exact bindC_at hk nd.2 h
theorem zip_lk {x : Str} {d : V} {av : Addr → Prop} {h : Heap} : ∀ {ns : List Str} {vs : List Value} {ds : List V}, Rs av h vs ds → (ns.zip ds).lookup x = some d → ∃ v, (ns.zip vs).lookup x = some v ∧ R av h v d
  | [], _, _, _, e => by simp at e
  | n :: ns, _, _, .nil, e => by simp at e
  | n :: ns, v :: vs, d' :: ds, .cons r rs, e => by
    rw [List.zip_cons_cons, List.lookup_cons] at e ⊢
    by_cases q : x = n
    · subst q
      simp only [beq_self_eq_true] at e ⊢
      cases e
      exact ⟨v, rfl, r⟩
    · have : (x == n) = false := by simpa using q
      simp only [this] at e ⊢
      exact zip_lk rs e
theorem lk_of_apart {cs : List (Str × Addr)} (h : cs.Pairwise fun x y => x.2 ≠ y.2) {x y : Str} {c : Addr} (h1 : cs.lookup x = some c) (h2 : cs.lookup y = some c) : x = y :=
  name_of_addr h (mem_of_lookup h1) (mem_of_lookup h2)
theorem keepIn_fn {K : Frag} {f : Addr} (h : fnIn K f = true) : keepIn K (.ref f) = true := by
  unfold fnIn at h; unfold keepIn
  split at h
  · rename_i q; dsimp only; rw [q]
  · cases h
theorem cellsFrom_kind {x : Str} {c : Addr} : ∀ (names : List (Str × NameKind)) (n : Nat) (acc : List (Str × Addr)), (names.map (·.1)).Nodup → (cellsFrom n names acc).lookup x = some c → names.lookup x = some .cell ∨ acc.lookup x = some c
  | [], _, _, _, h => .inr h
  | (y, k) :: r, n, acc, nd, h => by
    rw [List.map_cons, List.nodup_cons] at nd
    unfold cellsFrom at h
    by_cases e : x = y
    · subst e
      have no : r.lookup x ≠ some .cell := fun q => nd.1 (by have := mem_of_lookup q; exact List.mem_map.mpr ⟨_, this, rfl⟩)
      split at h
      · rename_i hk
        exact .inl (by rw [List.lookup_cons, beq_self_eq_true]; simpa using hk)
      · exact .inr ((cellsFrom_kind r n acc nd.2 h).resolve_left no)
    · have b : (x == y) = false := by simpa using e
      split at h
      · rcases cellsFrom_kind r _ _ nd.2 h with q | q
        · exact .inl (by rw [List.lookup_cons, b]; exact q)
        · rw [List.lookup_cons, b] at q; exact .inr q
      · rcases cellsFrom_kind r _ _ nd.2 h with q | q
        · exact .inl (by rw [List.lookup_cons, b]; exact q)
        · exact .inr q
noncomputable abbrev fenv (scope : Scope) (qual : Str) (f : Addr) (cdv : Value) (L : Addr) : Env := newEnv scope L mainGlobals (cellsFrom (L + 1) scope.names []) (qual ++ ".<locals>.") (some f) cdv none builtinsNs
inductive Lk : List (Str × V) → Str → V → Prop
  | head {x d ρ} : Lk ((x, d) :: ρ) x d
  | tail {x y d e ρ} : (x == y) = false → Lk ρ x d → Lk ((y, e) :: ρ) x d
theorem Lk.lk {ρ : List (Str × V)} {x : Str} {d : V} (h : Lk ρ x d) : ρ.lookup x = some d := by
  induction h with
  | head => rw [List.lookup_cons, beq_self_eq_true]
  | tail e _ ih => rw [List.lookup_cons, e]; exact ih
theorem callCellsK {prog : Program} {w : World} {A : Around} {s : Shared} {R : Result → Shared → Prop} {a : Addr} {o : Obj} {fd : FuncData} {body : List Stmt} {args : Args} {binds : List (Str × Value)}
    (hroom : A.depth < recursionLimit) (ho : s.heap.get? a = some o) (hdata : o.data = .func fd) (hlim : s.heap.NoLimit) (hcd : s.heap.CodeRec fd.code fd.qualname)
    (hbody : fd.body = .stmts body) (hbind : bindArgs fd args = pure binds) (hclo : fd.closure = [])
    (hkind : ∀ x ∈ binds, fd.scope.names.lookup x.1 = some .local ∨ (fd.scope.names.lookup x.1 = some .cell ∧ ((cellsFrom (s.heap.objs.size + 1) fd.scope.names []).lookup x.1).isSome = true))
    (h : ∀ s₁, InCallC s (callEnvC fd s.heap.objs.size a).locals (bindL (callEnvC fd s.heap.objs.size a).kindOf binds fun _ => none) (callEnvC fd s.heap.objs.size a).cells
        (bindC (callEnvC fd s.heap.objs.size a).kindOf binds fun _ => none) s₁ →
      wpAny (model prog w) (A.deeper (callEnvC fd s.heap.objs.size a)) (execs body (callEnvC fd s.heap.objs.size a)) (fun f s' => R (.ok (.ret (match f with | .ret v => v | _ => .none))) s')
        (fun e s' => wpAny (model prog w) (A.deeper (callEnvC fd s.heap.objs.size a)) (leaving (callEnvC fd s.heap.objs.size a) e) (fun _ s'' => R (.error e) s'') (fun e' s'' => R (.error e') s'') s') s₁)
    (hco : fd.scope.isCoroutine = false) (hgen : fd.scope.isGenerator = false) (hk : fd.scope.kind = .function) :
    codeAny (model prog w) A (.call (.ref a) args) R s := by
  refine codeAny_call_function hroom ho hdata hco hgen hbody hcd ?_
  rw [hbind, hclo]
  refine wpAny_pure (wpAny_newFunctionEnv_cells hk hkind fun env he s' x => ?_)
  subst he
  exact ⟨hlim.keeps x.toInCall.keep, codeAny_func (h s' x)⟩
section
variable {X : Cx}
structure CallK (X : Cx) (n : Nat) (f : Value) (args : List V) (kws : List (Str × Value)) (d : V) : Prop where
  run : ∀ (A : Around) (E : Value → Shared → Prop) (s : Shared) (av : Addr → Prop) (vs : List Value), Bud n A → GOk X s.heap → AvOk X av s.heap → Rs av s.heap vs args →
    wpAny (MX X) A (call f vs kws) (fun v s' => Stp X s s' ∧ R av s'.heap v d) E s
theorem callFnK {A : Around} {E : Value → Shared → Prop} {s : Shared} {av : Addr → Prop} {vs0 : List Value} {Q : Value → Shared → Prop} {n : Nat} {f : Addr} {name qual : Str} {params : Arguments} {body : List Stmt} {scope : Scope} {dV kV doc pm cdv ct oc : Value} {an od : Option Addr} {osl : Array (Option Value)} {ns : List Str} {args kds : List V} {kws : List (Str × Value)} (ρ : List (Str × V)) (hρ : ns.zip (args ++ kds) = ρ) (hkv : ∀ (av : Addr → Prop) (h : Heap), Rs av h (kws.map (·.2)) kds)
    (ho : (KK X.w.params).lookup f = some ⟨oc, od, .func (fnOf name qual params body scope dV kV doc pm an cdv ct), osl⟩) (hcd : codeIn (KK X.w.params) cdv qual = true)
    (hbind : ∀ vs : List Value, vs.length = args.length → bindArgs (fnOf name qual params body scope dV kV doc pm an cdv ct) ⟨vs, kws⟩ = pure (ns.zip (vs ++ kws.map (·.2))))
    (hlen : (args ++ kds).length = ns.length) (hnd : ns.Nodup)
    (hkind : ns.all (fun y => scope.names.lookup y == some .local || scope.names.lookup y == some .cell) = true)
    (b : Bud (n + 1) A) (G : GOk X s.heap) (a : AvOk X av s.heap) (r0 : Rs av s.heap vs0 args)
    (h : ∀ h₁ tk, (∀ b o, s.heap.get? b = some o → h₁.get? b = some o) → Bud n (A.deeper (fenv scope qual f cdv s.heap.objs.size)) → Inv X s.heap av (fenv scope qual f cdv s.heap.objs.size) ρ none none h₁ →
      wpAny (MX X) (A.deeper (fenv scope qual f cdv s.heap.objs.size)) (execs body (fenv scope qual f cdv s.heap.objs.size)) (fun fl s' => ∃ v, fl = .ret v ∧ Q v s') (fun _ _ => False) { s with heap := h₁, toks := tk })
    (hco : scope.isCoroutine = false) (hgen : scope.isGenerator = false) (hk : scope.kind = .function) (hsn : (scope.names.map (·.1)).Nodup) : wpAny (MX X) A (call (.ref f) vs0 kws) Q E s := by
  subst hρ
  have r := r0.append (hkv av s.heap)
  have hb0 := hbind vs0 r0.length
  generalize vs0 ++ kws.map (·.2) = vs at r hb0
  have hvl : vs.length = ns.length := r.length.trans hlen
  refine wpAny_call (callCellsK (binds := ns.zip vs) b.depth (G.K _ _ ho) rfl G.nolimit (codeRec_of G.K hcd) rfl hb0 rfl ?_ (fun s₁ x => ?_) hco hgen hk)
  · intro y hy
    have hy1 : y.1 ∈ ns := (List.of_mem_zip hy).1
    have := List.all_eq_true.mp hkind y.1 hy1
    rcases Bool.or_eq_true_iff.mp this with q | q
    · exact .inl (by simpa using q)
    · have q' : scope.names.lookup y.1 = some .cell := by simpa using q
      exact .inr ⟨q', cellsFrom_some _ _ _ (.inl q')⟩
  · obtain ⟨h₁, tk, rfl⟩ := x.toInCall.same
    have keep := x.toInCall.keep
    have ckind : ∀ {y c}, (cellsFrom (s.heap.objs.size + 1) scope.names []).lookup y = some c → scope.names.lookup y = some .cell := fun h => (cellsFrom_kind _ _ _ hsn h).resolve_right (by simp)
    have bd : Bud n (A.deeper (callEnvC (fnOf name qual params body scope dV kV doc pm an cdv ct) s.heap.objs.size f)) :=
      ⟨b.hh, by have := b.d; show A.depth + 1 + n < _; k_data, by have := b.u; show A.units + 3 + 8 * n + 16 < _; k_data⟩
    have G₁ : GOk X h₁ := G.keeps keep
    have nd : ((ns.zip vs).map (·.1)).Nodup := by rw [List.map_fst_zip (by k_data)]; exact hnd
    have live : ∀ x c, (callEnvC (fnOf name qual params body scope dV kV doc pm an cdv ct) s.heap.objs.size f).cells.lookup x = some c → s.heap.objs.size < c ∧ h₁.IsCell c (bindC (callEnvC (fnOf name qual params body scope dV kV doc pm an cdv ct) s.heap.objs.size f).kindOf (ns.zip vs) (fun _ => none) x) :=
      fun y c hc => ⟨x.above y c (mem_of_lookup hc), x.cell y c hc⟩
    have avk : AvOk X (AvB av (callEnvC (fnOf name qual params body scope dV kV doc pm an cdv ct) s.heap.objs.size f) none) h₁ := by
      refine ⟨fun b' t => .inl (a.tab b' t), fun b' hb' => ?_⟩
      rcases hb' with q | q | ⟨y, _, q⟩ | q
      · exact (a.live b' q).keep fun o e => keep _ _ e
      · subst q; exact .ns x.toInCall.ns
      · exact .cell (live y b' q).2
      · cases q
    have rs : Rs (AvB av (callEnvC (fnOf name qual params body scope dV kV doc pm an cdv ct) s.heap.objs.size f) none) h₁ vs (args ++ kds) := by
      refine r.move (fun b' o _ e => keep b' o e) fun b' hb' => ?_
      rcases hb' with q | q | ⟨y, _, q⟩ | q
      · exact .inl q
      · subst q; exact .inr (size_none _)
      · exact .inr (Heap.get?_none_of_le (Nat.le_of_lt (live y b' q).1))
      · cases q
    refine wpAny_mono (h h₁ tk keep bd ?_) (fun fl s' z => ?_) fun _ _ e => e.elim
    · refine ⟨G₁, .of keep, G.sz, avk, ⟨hk, rfl, rfl, .inr (.inl rfl), ⟨_, x.toInCall.ns, fun y d' hy hk' => ?_⟩, fun y d' hy => ?_⟩, Nat.le_refl _, fun y c hc => .inr ⟨(live y c hc).1, ckind hc⟩, fun y c h1 h2 => ⟨_, (live y c h2).2⟩, fun y z c h1 h2 _ => lk_of_apart x.apart h1 h2,
        fun q => a.fresh (size_none _) q, fun y c hc _ q => a.fresh (Heap.get?_none_of_le (Nat.le_of_lt (live y c hc).1)) q, fun _ q => (nomatch q), trivial⟩
      · obtain ⟨v, hv, r'⟩ := zip_lk rs hy
        exact ⟨v, bindL_at hk' nd hv, r'⟩
      · obtain ⟨v, hv, r'⟩ := zip_lk rs hy
        have hy1 : y ∈ ns := by have := mem_of_lk hv; rwa [List.map_fst_zip (by k_data)] at this
        have := List.all_eq_true.mp hkind y hy1
        rcases Bool.or_eq_true_iff.mp this with q | q
        · exact .inl (show scope.names.lookup y = _ by simpa using q)
        · have q' : scope.names.lookup y = some .cell := by simpa using q
          obtain ⟨c, hc⟩ := Option.isSome_iff_exists.mp (cellsFrom_some scope.names (s.heap.objs.size + 1) [] (.inl q'))
          have kn : (callEnvC (fnOf name qual params body scope dV kV doc pm an cdv ct) s.heap.objs.size f).kindOf y ≠ some .local := by
            show scope.names.lookup y ≠ _
            rw [q']; decide
          exact .inr ⟨.inl q', c, v, hc, fun _ => .inr (.inr (.inl ⟨y, q', hc⟩)), bindC_at kn nd hv ▸ (live y c hc).2, r'⟩
    · obtain ⟨v, rfl, z⟩ := z
      exact z
theorem CallK.fn {n : Nat} {f : Addr} {name qual : Str} {params : Arguments} {body : List Stmt} {scope : Scope} {dV kV doc pm cdv ct oc : Value} {an od : Option Addr} {osl : Array (Option Value)} {ns : List Str} {args kds : List V} {kws : List (Str × Value)} {d : V} (ρ : List (Str × V)) (hρ : ns.zip (args ++ kds) = ρ) (hkv : ∀ (av : Addr → Prop) (h : Heap), Rs av h (kws.map (·.2)) kds)
    (ho : (KK X.w.params).lookup f = some ⟨oc, od, .func (fnOf name qual params body scope dV kV doc pm an cdv ct), osl⟩) (hcd : codeIn (KK X.w.params) cdv qual = true)
    (hbind : ∀ vs : List Value, vs.length = args.length → bindArgs (fnOf name qual params body scope dV kV doc pm an cdv ct) ⟨vs, kws⟩ = pure (ns.zip (vs ++ kws.map (·.2))))
    (hlen : (args ++ kds).length = ns.length) (hnd : ns.Nodup)
    (hkind : ns.all (fun y => scope.names.lookup y == some .local || scope.names.lookup y == some .cell) = true)
    (h : ∀ L, ExJ X n (fenv scope qual f cdv L) ρ none body (.ret d))
    (hco : scope.isCoroutine = false) (hgen : scope.isGenerator = false) (hk : scope.kind = .function) (hsn : (scope.names.map (·.1)).Nodup) : CallK X (n + 1) (.ref f) args kws d :=
  .mk fun A E s av vs0 b G a r0 => callFnK ρ hρ hkv ho hcd hbind hlen hnd hkind b G a r0 (fun h₁ tk keep bd I => wpAny_mono ((h s.heap.objs.size).run _ (fun _ _ => False) _ s.heap av none bd I) (fun fl s' z => by
    obtain ⟨q1, v, rfl, q2, q3, q4⟩ := z
    obtain ⟨h2, t2, rfl⟩ := q1.eq
    exact ⟨v, rfl, ⟨⟨h2, t2, rfl⟩, q3, q2⟩, q4⟩) fun _ _ e => e) hco hgen hk hsn
theorem CallJ.fn {n : Nat} {f : Addr} {name qual : Str} {params : Arguments} {body : List Stmt} {scope : Scope} {dV kV doc pm cdv ct oc : Value} {an od : Option Addr} {osl : Array (Option Value)} {ns : List Str} {args : List V} {d : V} (ρ : List (Str × V)) (hρ : ns.zip args = ρ)
    (ho : (KK X.w.params).lookup f = some ⟨oc, od, .func (fnOf name qual params body scope dV kV doc pm an cdv ct), osl⟩) (hcd : codeIn (KK X.w.params) cdv qual = true)
    (hbind : ∀ vs : List Value, vs.length = args.length → bindArgs (fnOf name qual params body scope dV kV doc pm an cdv ct) ⟨vs, []⟩ = pure (ns.zip vs))
    (hlen : args.length = ns.length) (hnd : ns.Nodup)
    (hkind : ns.all (fun y => scope.names.lookup y == some .local || scope.names.lookup y == some .cell) = true)
    (h : ∀ L, ExJ X n (fenv scope qual f cdv L) ρ none body (.ret d))
    (hco : scope.isCoroutine = false) (hgen : scope.isGenerator = false) (hk : scope.kind = .function) (hsn : (scope.names.map (·.1)).Nodup) : CallJ X (n + 1) (.ref f) args d :=
  .mk fun A E s av vs b G a r => (CallK.fn (kds := []) (kws := []) ρ (by rw [List.append_nil]; exact hρ) (fun _ _ => .nil) ho hcd (fun vs h => by rw [List.map_nil, List.append_nil]; exact hbind vs h) (by rw [List.append_nil]; exact hlen) hnd hkind h hco hgen hk hsn).run A E s av vs b G a r
end
end
section
section
variable {a c : Int} {x y : Str} {p q : Bool}
theorem BinJ.add : BinJ .Add (.int a) (.int c) (.int (a + c)) := .mk fun X n A E s av u v b G k r1 r2 => by (first | (obtain ⟨_, rfl⟩ := R.intI r1; clear r1) | (obtain ⟨_, rfl⟩ := R.strI r1; clear r1) | (obtain rfl := R.boolI r1; clear r1) | (obtain rfl := Rs.nilI r1; clear r1) | (obtain rfl := R.noneI r1; clear r1) | cases r1); (first | (obtain ⟨_, rfl⟩ := R.intI r2; clear r2) | (obtain ⟨_, rfl⟩ := R.strI r2; clear r2) | (obtain rfl := R.boolI r2; clear r2) | (obtain rfl := Rs.nilI r2; clear r2) | (obtain rfl := R.noneI r2; clear r2) | cases r2); exact add_int ⟨.tok G, .int _ _⟩
theorem BinJ.sub : BinJ .Sub (.int a) (.int c) (.int (a - c)) := .mk fun X n A E s av u v b G k r1 r2 => by (first | (obtain ⟨_, rfl⟩ := R.intI r1; clear r1) | (obtain ⟨_, rfl⟩ := R.strI r1; clear r1) | (obtain rfl := R.boolI r1; clear r1) | (obtain rfl := Rs.nilI r1; clear r1) | (obtain rfl := R.noneI r1; clear r1) | cases r1); (first | (obtain ⟨_, rfl⟩ := R.intI r2; clear r2) | (obtain ⟨_, rfl⟩ := R.strI r2; clear r2) | (obtain rfl := R.boolI r2; clear r2) | (obtain rfl := Rs.nilI r2; clear r2) | (obtain rfl := R.noneI r2; clear r2) | cases r2); exact sub_int ⟨.tok G, .int _ _⟩
theorem BinJ.mul (h : a.natAbs < 2 ^ 64) : BinJ .Mult (.int a) (.int c) (.int (a * c)) := .mk fun X n A E s av u v b G k r1 r2 => by (first | (obtain ⟨_, rfl⟩ := R.intI r1; clear r1) | (obtain ⟨_, rfl⟩ := R.strI r1; clear r1) | (obtain rfl := R.boolI r1; clear r1) | (obtain rfl := Rs.nilI r1; clear r1) | (obtain rfl := R.noneI r1; clear r1) | cases r1); (first | (obtain ⟨_, rfl⟩ := R.intI r2; clear r2) | (obtain ⟨_, rfl⟩ := R.strI r2; clear r2) | (obtain rfl := R.boolI r2; clear r2) | (obtain rfl := Rs.nilI r2; clear r2) | (obtain rfl := R.noneI r2; clear r2) | cases r2); exact mul_int ⟨.tok G, .int _ _⟩ (IntMulOk.of_left (intBits_le h))
theorem BinJ.fdiv (h0 : c ≠ 0) (h : c.natAbs < 1073741824) : BinJ .FloorDiv (.int a) (.int c) (.int (a.fdiv c)) := .mk fun X n A E s av u v b G k r1 r2 => by (first | (obtain ⟨_, rfl⟩ := R.intI r1; clear r1) | (obtain ⟨_, rfl⟩ := R.strI r1; clear r1) | (obtain rfl := R.boolI r1; clear r1) | (obtain rfl := Rs.nilI r1; clear r1) | (obtain rfl := R.noneI r1; clear r1) | cases r1); (first | (obtain ⟨_, rfl⟩ := R.intI r2; clear r2) | (obtain ⟨_, rfl⟩ := R.strI r2; clear r2) | (obtain rfl := R.boolI r2; clear r2) | (obtain rfl := Rs.nilI r2; clear r2) | (obtain rfl := R.noneI r2; clear r2) | cases r2); exact floordiv_int h0 ⟨.tok G, .int _ _⟩ (.inl (PyProof.noPylong_small h))
theorem BinJ.fmod (h0 : c ≠ 0) : BinJ .Mod (.int a) (.int c) (.int (a.fmod c)) := .mk fun X n A E s av u v b G k r1 r2 => by (first | (obtain ⟨_, rfl⟩ := R.intI r1; clear r1) | (obtain ⟨_, rfl⟩ := R.strI r1; clear r1) | (obtain rfl := R.boolI r1; clear r1) | (obtain rfl := Rs.nilI r1; clear r1) | (obtain rfl := R.noneI r1; clear r1) | cases r1); (first | (obtain ⟨_, rfl⟩ := R.intI r2; clear r2) | (obtain ⟨_, rfl⟩ := R.strI r2; clear r2) | (obtain rfl := R.boolI r2; clear r2) | (obtain rfl := Rs.nilI r2; clear r2) | (obtain rfl := R.noneI r2; clear r2) | cases r2); exact mod_int' h0 ⟨.tok G, .int _ _⟩
theorem BinJ.shl (h0 : 0 ≤ c) (h1 : c ≤ 1000000) (h : a.natAbs < 2 ^ 64) : BinJ .LShift (.int a) (.int c) (.int (a * 2 ^ c.toNat)) := .mk fun X n A E s av u v b G k r1 r2 => by (first | (obtain ⟨_, rfl⟩ := R.intI r1; clear r1) | (obtain ⟨_, rfl⟩ := R.strI r1; clear r1) | (obtain rfl := R.boolI r1; clear r1) | (obtain rfl := Rs.nilI r1; clear r1) | (obtain rfl := R.noneI r1; clear r1) | cases r1); (first | (obtain ⟨_, rfl⟩ := R.intI r2; clear r2) | (obtain ⟨_, rfl⟩ := R.strI r2; clear r2) | (obtain rfl := R.boolI r2; clear r2) | (obtain rfl := Rs.nilI r2; clear r2) | (obtain rfl := R.noneI r2; clear r2) | cases r2); exact lshift_int_small h0 h1 h ⟨.tok G, .int _ _⟩
theorem BinJ.shr (h0 : 0 ≤ c) : BinJ .RShift (.int a) (.int c) (.int (a.fdiv (2 ^ c.toNat))) := .mk fun X n A E s av u v b G k r1 r2 => by (first | (obtain ⟨_, rfl⟩ := R.intI r1; clear r1) | (obtain ⟨_, rfl⟩ := R.strI r1; clear r1) | (obtain rfl := R.boolI r1; clear r1) | (obtain rfl := Rs.nilI r1; clear r1) | (obtain rfl := R.noneI r1; clear r1) | cases r1); (first | (obtain ⟨_, rfl⟩ := R.intI r2; clear r2) | (obtain ⟨_, rfl⟩ := R.strI r2; clear r2) | (obtain rfl := R.boolI r2; clear r2) | (obtain rfl := Rs.nilI r2; clear r2) | (obtain rfl := R.noneI r2; clear r2) | cases r2); exact rshift_int h0 ⟨.tok G, .int _ _⟩
theorem BinJ.and : BinJ .BitAnd (.int a) (.int c) (.int (Builtin.bitAnd a c)) := .mk fun X n A E s av u v b G k r1 r2 => by (first | (obtain ⟨_, rfl⟩ := R.intI r1; clear r1) | (obtain ⟨_, rfl⟩ := R.strI r1; clear r1) | (obtain rfl := R.boolI r1; clear r1) | (obtain rfl := Rs.nilI r1; clear r1) | (obtain rfl := R.noneI r1; clear r1) | cases r1); (first | (obtain ⟨_, rfl⟩ := R.intI r2; clear r2) | (obtain ⟨_, rfl⟩ := R.strI r2; clear r2) | (obtain rfl := R.boolI r2; clear r2) | (obtain rfl := Rs.nilI r2; clear r2) | (obtain rfl := R.noneI r2; clear r2) | cases r2); exact and_int ⟨.tok G, .int _ _⟩
theorem BinJ.or : BinJ .BitOr (.int a) (.int c) (.int (Builtin.bitOr a c)) := .mk fun X n A E s av u v b G k r1 r2 => by (first | (obtain ⟨_, rfl⟩ := R.intI r1; clear r1) | (obtain ⟨_, rfl⟩ := R.strI r1; clear r1) | (obtain rfl := R.boolI r1; clear r1) | (obtain rfl := Rs.nilI r1; clear r1) | (obtain rfl := R.noneI r1; clear r1) | cases r1); (first | (obtain ⟨_, rfl⟩ := R.intI r2; clear r2) | (obtain ⟨_, rfl⟩ := R.strI r2; clear r2) | (obtain rfl := R.boolI r2; clear r2) | (obtain rfl := Rs.nilI r2; clear r2) | (obtain rfl := R.noneI r2; clear r2) | cases r2); exact or_int ⟨.tok G, .int _ _⟩
theorem BinJ.xor : BinJ .BitXor (.int a) (.int c) (.int (Builtin.bitXor a c)) := .mk fun X n A E s av u v b G k r1 r2 => by (first | (obtain ⟨_, rfl⟩ := R.intI r1; clear r1) | (obtain ⟨_, rfl⟩ := R.strI r1; clear r1) | (obtain rfl := R.boolI r1; clear r1) | (obtain rfl := Rs.nilI r1; clear r1) | (obtain rfl := R.noneI r1; clear r1) | cases r1); (first | (obtain ⟨_, rfl⟩ := R.intI r2; clear r2) | (obtain ⟨_, rfl⟩ := R.strI r2; clear r2) | (obtain rfl := R.boolI r2; clear r2) | (obtain rfl := Rs.nilI r2; clear r2) | (obtain rfl := R.noneI r2; clear r2) | cases r2); exact xor_int ⟨.tok G, .int _ _⟩
theorem BinJ.pow (h0 : 0 ≤ c) (h1 : c ≤ 1000000) (h : a.natAbs < 2 ^ 64) : BinJ .Pow (.int a) (.int c) (.int (a ^ c.toNat)) := .mk fun X n A E s av u v b G k r1 r2 => by (first | (obtain ⟨_, rfl⟩ := R.intI r1; clear r1) | (obtain ⟨_, rfl⟩ := R.strI r1; clear r1) | (obtain rfl := R.boolI r1; clear r1) | (obtain rfl := Rs.nilI r1; clear r1) | (obtain rfl := R.noneI r1; clear r1) | cases r1); (first | (obtain ⟨_, rfl⟩ := R.intI r2; clear r2) | (obtain ⟨_, rfl⟩ := R.strI r2; clear r2) | (obtain rfl := R.boolI r2; clear r2) | (obtain rfl := Rs.nilI r2; clear r2) | (obtain rfl := R.noneI r2; clear r2) | cases r2); exact pow_int_small h0 h1 h ⟨.tok G, .int _ _⟩
theorem BinJ.adds (h : x.length + y.length ≤ 1000000) : BinJ .Add (.str x) (.str y) (.str (x ++ y)) := .mk fun X n A E s av u v b G k r1 r2 => by
  (first | (obtain ⟨_, rfl⟩ := R.intI r1; clear r1) | (obtain ⟨_, rfl⟩ := R.strI r1; clear r1) | (obtain rfl := R.boolI r1; clear r1) | (obtain rfl := Rs.nilI r1; clear r1) | (obtain rfl := R.noneI r1; clear r1) | cases r1); (first | (obtain ⟨_, rfl⟩ := R.intI r2; clear r2) | (obtain ⟨_, rfl⟩ := R.strI r2; clear r2) | (obtain rfl := R.boolI r2; clear r2) | (obtain rfl := Rs.nilI r2; clear r2) | (obtain rfl := R.noneI r2; clear r2) | cases r2); exact PyProof.Rows.add_str (fun _ _ => ⟨.tok G, .str _ _⟩) (by rw [sizeLine_eq]; k_data)
theorem BinJ.muls (h : MulOk x c) : BinJ .Mult (.str x) (.int c) (.str (Txt.mul x c)) := .mk fun X n A E s av u v b G k r1 r2 => by
  (first | (obtain ⟨_, rfl⟩ := R.intI r1; clear r1) | (obtain ⟨_, rfl⟩ := R.strI r1; clear r1) | (obtain rfl := R.boolI r1; clear r1) | (obtain rfl := Rs.nilI r1; clear r1) | (obtain rfl := R.noneI r1; clear r1) | cases r1); (first | (obtain ⟨_, rfl⟩ := R.intI r2; clear r2) | (obtain ⟨_, rfl⟩ := R.strI r2; clear r2) | (obtain rfl := R.boolI r2; clear r2) | (obtain rfl := Rs.nilI r2; clear r2) | (obtain rfl := R.noneI r2; clear r2) | cases r2); exact SB.mul h (fun _ _ => ⟨.tok G, .str _ _⟩)
theorem BinJ.addl {l l' : List V} (h : l.length + l'.length ≤ 1000000) : BinJ .Add (.list l) (.list l') (.list (l ++ l')) := .mk fun X n A E s av u v b G k r1 r2 => by
  (have hx := R.listI r1; clear r1; obtain ⟨_, _, rfl, n1, x1, s1⟩ := hx); case _ => (have hx := R.listI r2; clear r2; obtain ⟨_, _, rfl, n2, x2, s2⟩ := hx); case _ =>
      obtain ⟨m1, e1⟩ := x1; obtain ⟨m2, e2⟩ := x2
      rename_i vs1 _ vs2
      have z := newSeq G k (s1.append s2)
      refine P.add_list e1 e2 ?_ (by rw [List.size_toArray, List.size_toArray, s1.length, s2.length, sizeLine_eq]; k_data)
      rw [List.append_toArray]
      exact z
theorem InJ.add : InJ .Add (.int a) (.int c) (.int (a + c)) := .mk fun X n A E s av u v b G k r1 r2 => by (first | (obtain ⟨_, rfl⟩ := R.intI r1; clear r1) | (obtain ⟨_, rfl⟩ := R.strI r1; clear r1) | (obtain rfl := R.boolI r1; clear r1) | (obtain rfl := Rs.nilI r1; clear r1) | (obtain rfl := R.noneI r1; clear r1) | cases r1); (first | (obtain ⟨_, rfl⟩ := R.intI r2; clear r2) | (obtain ⟨_, rfl⟩ := R.strI r2; clear r2) | (obtain rfl := R.boolI r2; clear r2) | (obtain rfl := Rs.nilI r2; clear r2) | (obtain rfl := R.noneI r2; clear r2) | cases r2); exact iadd_int ⟨.tok G, .int _ _⟩
theorem InJ.sub : InJ .Sub (.int a) (.int c) (.int (a - c)) := .mk fun X n A E s av u v b G k r1 r2 => by (first | (obtain ⟨_, rfl⟩ := R.intI r1; clear r1) | (obtain ⟨_, rfl⟩ := R.strI r1; clear r1) | (obtain rfl := R.boolI r1; clear r1) | (obtain rfl := Rs.nilI r1; clear r1) | (obtain rfl := R.noneI r1; clear r1) | cases r1); (first | (obtain ⟨_, rfl⟩ := R.intI r2; clear r2) | (obtain ⟨_, rfl⟩ := R.strI r2; clear r2) | (obtain rfl := R.boolI r2; clear r2) | (obtain rfl := Rs.nilI r2; clear r2) | (obtain rfl := R.noneI r2; clear r2) | cases r2); exact isub_int ⟨.tok G, .int _ _⟩
theorem InJ.and : InJ .BitAnd (.int a) (.int c) (.int (Builtin.bitAnd a c)) := .mk fun X n A E s av u v b G k r1 r2 => by (first | (obtain ⟨_, rfl⟩ := R.intI r1; clear r1) | (obtain ⟨_, rfl⟩ := R.strI r1; clear r1) | (obtain rfl := R.boolI r1; clear r1) | (obtain rfl := Rs.nilI r1; clear r1) | (obtain rfl := R.noneI r1; clear r1) | cases r1); (first | (obtain ⟨_, rfl⟩ := R.intI r2; clear r2) | (obtain ⟨_, rfl⟩ := R.strI r2; clear r2) | (obtain rfl := R.boolI r2; clear r2) | (obtain rfl := Rs.nilI r2; clear r2) | (obtain rfl := R.noneI r2; clear r2) | cases r2); exact iand_int ⟨.tok G, .int _ _⟩
theorem InJ.or : InJ .BitOr (.int a) (.int c) (.int (Builtin.bitOr a c)) := .mk fun X n A E s av u v b G k r1 r2 => by (first | (obtain ⟨_, rfl⟩ := R.intI r1; clear r1) | (obtain ⟨_, rfl⟩ := R.strI r1; clear r1) | (obtain rfl := R.boolI r1; clear r1) | (obtain rfl := Rs.nilI r1; clear r1) | (obtain rfl := R.noneI r1; clear r1) | cases r1); (first | (obtain ⟨_, rfl⟩ := R.intI r2; clear r2) | (obtain ⟨_, rfl⟩ := R.strI r2; clear r2) | (obtain rfl := R.boolI r2; clear r2) | (obtain rfl := Rs.nilI r2; clear r2) | (obtain rfl := R.noneI r2; clear r2) | cases r2); exact ior_int ⟨.tok G, .int _ _⟩
theorem InJ.xor : InJ .BitXor (.int a) (.int c) (.int (Builtin.bitXor a c)) := .mk fun X n A E s av u v b G k r1 r2 => by (first | (obtain ⟨_, rfl⟩ := R.intI r1; clear r1) | (obtain ⟨_, rfl⟩ := R.strI r1; clear r1) | (obtain rfl := R.boolI r1; clear r1) | (obtain rfl := Rs.nilI r1; clear r1) | (obtain rfl := R.noneI r1; clear r1) | cases r1); (first | (obtain ⟨_, rfl⟩ := R.intI r2; clear r2) | (obtain ⟨_, rfl⟩ := R.strI r2; clear r2) | (obtain rfl := R.boolI r2; clear r2) | (obtain rfl := Rs.nilI r2; clear r2) | (obtain rfl := R.noneI r2; clear r2) | cases r2); exact ixor_int ⟨.tok G, .int _ _⟩
theorem InJ.shl (h0 : 0 ≤ c) (h1 : c ≤ 1000000) (h : a.natAbs < 2 ^ 64) : InJ .LShift (.int a) (.int c) (.int (a * 2 ^ c.toNat)) := .mk fun X n A E s av u v b G k r1 r2 => by (first | (obtain ⟨_, rfl⟩ := R.intI r1; clear r1) | (obtain ⟨_, rfl⟩ := R.strI r1; clear r1) | (obtain rfl := R.boolI r1; clear r1) | (obtain rfl := Rs.nilI r1; clear r1) | (obtain rfl := R.noneI r1; clear r1) | cases r1); (first | (obtain ⟨_, rfl⟩ := R.intI r2; clear r2) | (obtain ⟨_, rfl⟩ := R.strI r2; clear r2) | (obtain rfl := R.boolI r2; clear r2) | (obtain rfl := Rs.nilI r2; clear r2) | (obtain rfl := R.noneI r2; clear r2) | cases r2); exact ilshift_int_small h0 h1 h ⟨.tok G, .int _ _⟩
theorem UnJ.neg : UnJ .USub (.int a) (.int (-a)) := .mk fun X n A E s av u b G k r1 => by (first | (obtain ⟨_, rfl⟩ := R.intI r1; clear r1) | (obtain ⟨_, rfl⟩ := R.strI r1; clear r1) | (obtain rfl := R.boolI r1; clear r1) | (obtain rfl := Rs.nilI r1; clear r1) | (obtain rfl := R.noneI r1; clear r1) | cases r1); exact PyProof.Rows.neg_int ⟨.tok G, .int _ _⟩
theorem UnJ.inv : UnJ .Invert (.int a) (.int (Builtin.bitNot a)) := .mk fun X n A E s av u b G k r1 => by (first | (obtain ⟨_, rfl⟩ := R.intI r1; clear r1) | (obtain ⟨_, rfl⟩ := R.strI r1; clear r1) | (obtain rfl := R.boolI r1; clear r1) | (obtain rfl := Rs.nilI r1; clear r1) | (obtain rfl := R.noneI r1; clear r1) | cases r1); exact PyProof.Rows.invert_int ⟨.tok G, .int _ _⟩
theorem UnJ.not {d : V} {t : Bool} (h : TruJ d t) : UnJ .Not d (.bool (!t)) := .mk fun X n A E s av u b G k r1 => not_value (wpAny_mono (h.run X n A E s av u b G k r1) (fun r s' z => ⟨z.1, by rw [z.2]; exact .bool _⟩) fun _ _ e => e)
theorem CmpJ.eqi : CmpJ .Eq (.int a) (.int c) (a == c) := .mk fun X n A E s av u v b G k r1 r2 => by (first | (obtain ⟨_, rfl⟩ := R.intI r1; clear r1) | (obtain ⟨_, rfl⟩ := R.strI r1; clear r1) | (obtain rfl := R.boolI r1; clear r1) | (obtain rfl := Rs.nilI r1; clear r1) | (obtain rfl := R.noneI r1; clear r1) | cases r1); (first | (obtain ⟨_, rfl⟩ := R.intI r2; clear r2) | (obtain ⟨_, rfl⟩ := R.strI r2; clear r2) | (obtain rfl := R.boolI r2; clear r2) | (obtain rfl := Rs.nilI r2; clear r2) | (obtain rfl := R.noneI r2; clear r2) | cases r2); exact eq_int ⟨.refl G, rfl⟩
theorem CmpJ.nei : CmpJ .NotEq (.int a) (.int c) (a != c) := .mk fun X n A E s av u v b G k r1 r2 => by (first | (obtain ⟨_, rfl⟩ := R.intI r1; clear r1) | (obtain ⟨_, rfl⟩ := R.strI r1; clear r1) | (obtain rfl := R.boolI r1; clear r1) | (obtain rfl := Rs.nilI r1; clear r1) | (obtain rfl := R.noneI r1; clear r1) | cases r1); (first | (obtain ⟨_, rfl⟩ := R.intI r2; clear r2) | (obtain ⟨_, rfl⟩ := R.strI r2; clear r2) | (obtain rfl := R.boolI r2; clear r2) | (obtain rfl := Rs.nilI r2; clear r2) | (obtain rfl := R.noneI r2; clear r2) | cases r2); exact ne_int ⟨.refl G, rfl⟩
theorem CmpJ.lti : CmpJ .Lt (.int a) (.int c) (decide (a < c)) := .mk fun X n A E s av u v b G k r1 r2 => by (first | (obtain ⟨_, rfl⟩ := R.intI r1; clear r1) | (obtain ⟨_, rfl⟩ := R.strI r1; clear r1) | (obtain rfl := R.boolI r1; clear r1) | (obtain rfl := Rs.nilI r1; clear r1) | (obtain rfl := R.noneI r1; clear r1) | cases r1); (first | (obtain ⟨_, rfl⟩ := R.intI r2; clear r2) | (obtain ⟨_, rfl⟩ := R.strI r2; clear r2) | (obtain rfl := R.boolI r2; clear r2) | (obtain rfl := Rs.nilI r2; clear r2) | (obtain rfl := R.noneI r2; clear r2) | cases r2); exact lt_int ⟨.refl G, rfl⟩
theorem CmpJ.gti : CmpJ .Gt (.int a) (.int c) (decide (c < a)) := .mk fun X n A E s av u v b G k r1 r2 => by (first | (obtain ⟨_, rfl⟩ := R.intI r1; clear r1) | (obtain ⟨_, rfl⟩ := R.strI r1; clear r1) | (obtain rfl := R.boolI r1; clear r1) | (obtain rfl := Rs.nilI r1; clear r1) | (obtain rfl := R.noneI r1; clear r1) | cases r1); (first | (obtain ⟨_, rfl⟩ := R.intI r2; clear r2) | (obtain ⟨_, rfl⟩ := R.strI r2; clear r2) | (obtain rfl := R.boolI r2; clear r2) | (obtain rfl := Rs.nilI r2; clear r2) | (obtain rfl := R.noneI r2; clear r2) | cases r2); exact gt_int ⟨.refl G, rfl⟩
theorem CmpJ.lei : CmpJ .LtE (.int a) (.int c) (decide (a ≤ c)) := .mk fun X n A E s av u v b G k r1 r2 => by (first | (obtain ⟨_, rfl⟩ := R.intI r1; clear r1) | (obtain ⟨_, rfl⟩ := R.strI r1; clear r1) | (obtain rfl := R.boolI r1; clear r1) | (obtain rfl := Rs.nilI r1; clear r1) | (obtain rfl := R.noneI r1; clear r1) | cases r1); (first | (obtain ⟨_, rfl⟩ := R.intI r2; clear r2) | (obtain ⟨_, rfl⟩ := R.strI r2; clear r2) | (obtain rfl := R.boolI r2; clear r2) | (obtain rfl := Rs.nilI r2; clear r2) | (obtain rfl := R.noneI r2; clear r2) | cases r2); exact le_int ⟨.refl G, rfl⟩
theorem CmpJ.gei : CmpJ .GtE (.int a) (.int c) (decide (c ≤ a)) := .mk fun X n A E s av u v b G k r1 r2 => by (first | (obtain ⟨_, rfl⟩ := R.intI r1; clear r1) | (obtain ⟨_, rfl⟩ := R.strI r1; clear r1) | (obtain rfl := R.boolI r1; clear r1) | (obtain rfl := Rs.nilI r1; clear r1) | (obtain rfl := R.noneI r1; clear r1) | cases r1); (first | (obtain ⟨_, rfl⟩ := R.intI r2; clear r2) | (obtain ⟨_, rfl⟩ := R.strI r2; clear r2) | (obtain rfl := R.boolI r2; clear r2) | (obtain rfl := Rs.nilI r2; clear r2) | (obtain rfl := R.noneI r2; clear r2) | cases r2); exact ge_int ⟨.refl G, rfl⟩
theorem CmpJ.eqs : CmpJ .Eq (.str x) (.str y) (x == y) := .mk fun X n A E s av u v b G k r1 r2 => by (first | (obtain ⟨_, rfl⟩ := R.intI r1; clear r1) | (obtain ⟨_, rfl⟩ := R.strI r1; clear r1) | (obtain rfl := R.boolI r1; clear r1) | (obtain rfl := Rs.nilI r1; clear r1) | (obtain rfl := R.noneI r1; clear r1) | cases r1); (first | (obtain ⟨_, rfl⟩ := R.intI r2; clear r2) | (obtain ⟨_, rfl⟩ := R.strI r2; clear r2) | (obtain rfl := R.boolI r2; clear r2) | (obtain rfl := Rs.nilI r2; clear r2) | (obtain rfl := R.noneI r2; clear r2) | cases r2); exact PyProof.Rows.eq_str ⟨.refl G, rfl⟩
theorem CmpJ.nes : CmpJ .NotEq (.str x) (.str y) (x != y) := .mk fun X n A E s av u v b G k r1 r2 => by (first | (obtain ⟨_, rfl⟩ := R.intI r1; clear r1) | (obtain ⟨_, rfl⟩ := R.strI r1; clear r1) | (obtain rfl := R.boolI r1; clear r1) | (obtain rfl := Rs.nilI r1; clear r1) | (obtain rfl := R.noneI r1; clear r1) | cases r1); (first | (obtain ⟨_, rfl⟩ := R.intI r2; clear r2) | (obtain ⟨_, rfl⟩ := R.strI r2; clear r2) | (obtain rfl := R.boolI r2; clear r2) | (obtain rfl := Rs.nilI r2; clear r2) | (obtain rfl := R.noneI r2; clear r2) | cases r2); exact PyProof.Rows.ne_str ⟨.refl G, rfl⟩
theorem CmpJ.ins : CmpJ .In (.str y) (.str x) (Txt.contains x y) := .mk fun X n A E s av u v b G k r1 r2 => by (first | (obtain ⟨_, rfl⟩ := R.intI r1; clear r1) | (obtain ⟨_, rfl⟩ := R.strI r1; clear r1) | (obtain rfl := R.boolI r1; clear r1) | (obtain rfl := Rs.nilI r1; clear r1) | (obtain rfl := R.noneI r1; clear r1) | cases r1); (first | (obtain ⟨_, rfl⟩ := R.intI r2; clear r2) | (obtain ⟨_, rfl⟩ := R.strI r2; clear r2) | (obtain rfl := R.boolI r2; clear r2) | (obtain rfl := Rs.nilI r2; clear r2) | (obtain rfl := R.noneI r2; clear r2) | cases r2); exact PyProof.Rows.in_str ⟨.refl G, rfl⟩
theorem CmpJ.nins : CmpJ .NotIn (.str y) (.str x) (!Txt.contains x y) := .mk fun X n A E s av u v b G k r1 r2 => by (first | (obtain ⟨_, rfl⟩ := R.intI r1; clear r1) | (obtain ⟨_, rfl⟩ := R.strI r1; clear r1) | (obtain rfl := R.boolI r1; clear r1) | (obtain rfl := Rs.nilI r1; clear r1) | (obtain rfl := R.noneI r1; clear r1) | cases r1); (first | (obtain ⟨_, rfl⟩ := R.intI r2; clear r2) | (obtain ⟨_, rfl⟩ := R.strI r2; clear r2) | (obtain rfl := R.boolI r2; clear r2) | (obtain rfl := Rs.nilI r2; clear r2) | (obtain rfl := R.noneI r2; clear r2) | cases r2); exact PyProof.Rows.notIn_str ⟨.refl G, rfl⟩
theorem CmpJ.isb : CmpJ .Is (.bool p) (.bool q) (p == q) := .mk fun X n A E s av u v b G k r1 r2 => by (first | (obtain ⟨_, rfl⟩ := R.intI r1; clear r1) | (obtain ⟨_, rfl⟩ := R.strI r1; clear r1) | (obtain rfl := R.boolI r1; clear r1) | (obtain rfl := Rs.nilI r1; clear r1) | (obtain rfl := R.noneI r1; clear r1) | cases r1); (first | (obtain ⟨_, rfl⟩ := R.intI r2; clear r2) | (obtain ⟨_, rfl⟩ := R.strI r2; clear r2) | (obtain rfl := R.boolI r2; clear r2) | (obtain rfl := Rs.nilI r2; clear r2) | (obtain rfl := R.noneI r2; clear r2) | cases r2); exact wpAny_is_plain rfl ⟨.refl G, by cases p <;> cases q <;> rfl⟩
theorem CmpJ.isntb : CmpJ .IsNot (.bool p) (.bool q) (!(p == q)) := .mk fun X n A E s av u v b G k r1 r2 => by (first | (obtain ⟨_, rfl⟩ := R.intI r1; clear r1) | (obtain ⟨_, rfl⟩ := R.strI r1; clear r1) | (obtain rfl := R.boolI r1; clear r1) | (obtain rfl := Rs.nilI r1; clear r1) | (obtain rfl := R.noneI r1; clear r1) | cases r1); (first | (obtain ⟨_, rfl⟩ := R.intI r2; clear r2) | (obtain ⟨_, rfl⟩ := R.strI r2; clear r2) | (obtain rfl := R.boolI r2; clear r2) | (obtain rfl := Rs.nilI r2; clear r2) | (obtain rfl := R.noneI r2; clear r2) | cases r2); exact wpAny_isNot_plain rfl ⟨.refl G, by cases p <;> cases q <;> rfl⟩
theorem TruJ.int : TruJ (.int a) (a != 0) := .mk fun X n A E s av u b G k r => by (first | (obtain ⟨_, rfl⟩ := R.intI r; clear r) | (obtain ⟨_, rfl⟩ := R.strI r; clear r) | (obtain rfl := R.boolI r; clear r) | (obtain rfl := Rs.nilI r; clear r) | (obtain rfl := R.noneI r; clear r) | cases r); exact truthy_int ⟨.refl G, rfl⟩
theorem TruJ.bool : TruJ (.bool p) p := .mk fun X n A E s av u b G k r => by (first | (obtain ⟨_, rfl⟩ := R.intI r; clear r) | (obtain ⟨_, rfl⟩ := R.strI r; clear r) | (obtain rfl := R.boolI r; clear r) | (obtain rfl := Rs.nilI r; clear r) | (obtain rfl := R.noneI r; clear r) | cases r); exact wpAny_truthy_bool ⟨.refl G, rfl⟩
theorem TruJ.str (h : x.length ≤ 1000000) : TruJ (.str x) ((x.length : Int) != 0) := .mk fun X n A E s av u b G k r => by (first | (obtain ⟨_, rfl⟩ := R.intI r; clear r) | (obtain ⟨_, rfl⟩ := R.strI r; clear r) | (obtain rfl := R.boolI r; clear r) | (obtain rfl := Rs.nilI r; clear r) | (obtain rfl := R.noneI r; clear r) | cases r); exact P.truthy_str (by k_data) ⟨.tok G, rfl⟩
theorem TruJ.list {l : List V} (h : l.length ≤ 1000000) : TruJ (.list l) (l.length != 0) := .mk fun X n A E s av u b G k r => by
  (have hx := R.listI r; clear r; obtain ⟨_, _, rfl, n1, x1, s1⟩ := hx); case _ =>
    refine wpAny_truthy_list x1.isList (by rw [List.size_toArray, s1.length]; k_data) ?_
    refine ⟨.tok G, ?_⟩
    have e := s1.length
    rename_i vs
    cases vs with
    | nil => rw [← e]; rfl
    | cons v vs => rw [← e]; rfl
end
/-! equality of trees -/
mutual
noncomputable def V.eqb : V → V → Bool
  | .bool a, .bool b => a == b
  | .int a, .int b => a == b
  | .str a, .str b => a == b
  | .tup l, .tup l' => V.eqbs l l'
  | .list l, .list l' => V.eqbs l l'
  | _, _ => false
noncomputable def V.eqbs : List V → List V → Bool
  | [], [] => true
  | a :: l, b :: l' => V.eqb a b && V.eqbs l l'
  | _, _ => false
end
mutual
inductive Shp : Nat → V → V → Prop
  | bool {n a b} : Shp n (.bool a) (.bool b)
  | int {n a b} : Shp n (.int a) (.int b)
  | str {n a b} : Shp n (.str a) (.str b)
  | tup {n l l'} : Shps n l l' → Shp (n + 1) (.tup l) (.tup l')
  | list {n l l'} : Shps n l l' → Shp (n + 1) (.list l) (.list l')
inductive Shps : Nat → List V → List V → Prop
  | nil {n l} : Shps n [] l
  | nil' {n l} : Shps n l []
  | cons {n a b l l'} : Shp n a b → Shps n l l' → Shps n (a :: l) (b :: l')
end
open PySem.SeqAt in
theorem eqbs_all (f : Nat → Bool) : ∀ {l l' : List V}, l.length = l'.length → (∀ j (h1 : j < l.length) (h2 : j < l'.length), f j = V.eqb l[j] l'[j]) → (List.range l.length).all f = V.eqbs l l'
  | [], [], _, _ => rfl
  | a :: l, b :: l', h, hf => by
    rw [List.length_cons, List.range_succ_eq_map, List.all_cons, List.all_map, V.eqbs]
    have h' : l.length = l'.length := by simpa using h
    rw [hf 0 (by simp) (by simp)]
    congr 1
    exact eqbs_all (fun j => f (j + 1)) h' fun j h1 h2 => by rw [hf (j + 1) (by simp; exact h1) (by simp; exact h2)]; rfl
theorem eqbs_len : ∀ {l l' : List V}, l.length ≠ l'.length → V.eqbs l l' = false
  | [], [], h => absurd rfl h
  | [], _ :: _, _ => rfl
  | _ :: _, [], _ => rfl
  | a :: l, b :: l', h => by rw [V.eqbs, eqbs_len (by simpa using h), Bool.and_false]
theorem Shps.at {n : Nat} {l l' : List V} (hs : Shps n l l') (j : Nat) (h1 : j < l.length) (h2 : j < l'.length) : Shp n l[j] l'[j] :=
  Shps.rec (motive_1 := fun _ _ _ _ => True) (motive_2 := fun n l l' _ => ∀ (j : Nat) (h1 : j < l.length) (h2 : j < l'.length), Shp n l[j] l'[j]) trivial trivial trivial (fun _ _ => trivial) (fun _ _ => trivial)
    (fun j h1 _ => absurd h1 (Nat.not_lt_zero j)) (fun j _ h2 => absurd h2 (Nat.not_lt_zero j)) (fun h _ _ ih j h1 h2 => by
      cases j with
      | zero => exact h
      | succ j => exact ih j (Nat.lt_of_succ_lt_succ h1) (Nat.lt_of_succ_lt_succ h2)) hs j h1 h2
theorem Rs.at {av : Addr → Prop} {h : Heap} {vs : List Value} {ds : List V} (r : Rs av h vs ds) (j : Nat) (h1 : j < vs.length) (h2 : j < ds.length) : R av h vs[j] ds[j] := by
  obtain ⟨v, hv, rr⟩ := r.get (i := j) (d := ds[j]) (by rw [List.getElem?_eq_getElem h2])
  rw [List.getElem?_eq_getElem h1] at hv
  cases hv; exact rr
theorem eqb_self {av av' : Addr → Prop} {h : Heap} {n : Nat} {d d' : V} {v : Value} (x : Shp n d d') (r1 : R av h v d) (r2 : R av' h v d') : V.eqb d d' = true :=
  Shp.rec (motive_1 := fun _ d d' _ => ∀ v, R av h v d → R av' h v d' → V.eqb d d' = true) (motive_2 := fun _ l l' _ => ∀ vs, Rs av h vs l → Rs av' h vs l' → V.eqbs l l' = true)
    (fun v r1 r2 => by
      obtain rfl := r1.boolI
      cases r2.boolI
      exact beq_self_eq_true _)
    (fun v r1 r2 => by
      obtain ⟨_, rfl⟩ := r1.intI
      obtain ⟨_, e⟩ := r2.intI
      cases e
      exact beq_self_eq_true _)
    (fun v r1 r2 => by
      obtain ⟨_, rfl⟩ := r1.strI
      obtain ⟨_, e⟩ := r2.strI
      cases e
      exact beq_self_eq_true _)
    (fun _ ih v r1 r2 => by
      obtain ⟨a, vs, rfl, _, x1, s1⟩ := r1.tupI
      obtain ⟨b, ws, e, _, x2, s2⟩ := r2.tupI
      cases e
      obtain ⟨o, ho, _, m, hd⟩ := x1
      obtain ⟨o', ho', _, m', hd'⟩ := x2
      rw [ho] at ho'; cases ho'; rw [hd] at hd'
      cases hd'
      exact ih _ s1 s2)
    (fun _ ih v r1 r2 => by
      obtain ⟨a, vs, rfl, _, x1, s1⟩ := r1.listI
      obtain ⟨b, ws, e, _, x2, s2⟩ := r2.listI
      cases e
      obtain ⟨m, ho⟩ := x1
      obtain ⟨m', ho'⟩ := x2
      rw [ho] at ho'
      cases ho'
      exact ih _ s1 s2)
    (fun vs r1 r2 => by
      obtain rfl := r1.nilI
      (first | (obtain ⟨_, rfl⟩ := R.intI r2; clear r2) | (obtain ⟨_, rfl⟩ := R.strI r2; clear r2) | (obtain rfl := R.boolI r2; clear r2) | (obtain rfl := Rs.nilI r2; clear r2) | (obtain rfl := R.noneI r2; clear r2) | cases r2); rfl)
    (fun vs r1 r2 => by
      obtain rfl := r2.nilI
      (first | (obtain ⟨_, rfl⟩ := R.intI r1; clear r1) | (obtain ⟨_, rfl⟩ := R.strI r1; clear r1) | (obtain rfl := R.boolI r1; clear r1) | (obtain rfl := Rs.nilI r1; clear r1) | (obtain rfl := R.noneI r1; clear r1) | cases r1); rfl)
    (fun _ _ ih1 ih2 vs r1 r2 => by
      cases vs with
      | nil => (first | (obtain ⟨_, rfl⟩ := R.intI r1; clear r1) | (obtain ⟨_, rfl⟩ := R.strI r1; clear r1) | (obtain rfl := R.boolI r1; clear r1) | (obtain rfl := Rs.nilI r1; clear r1) | (obtain rfl := R.noneI r1; clear r1) | cases r1)
      | cons w ws =>
        obtain ⟨a1, b1⟩ := r1.consI'
        obtain ⟨a2, b2⟩ := r2.consI'
        show (V.eqb _ _ && V.eqbs _ _) = true
        rw [ih1 _ a1 a2, ih2 _ b1 b2]; rfl) x v r1 r2
open PySem.SeqAt in
theorem eqAt : ∀ (n : Nat) {A : Around} {s : Shared} {av : Addr → Prop} {u v : Value} {d d' : V}, Shp n d d' → A.units + n + 2 < cLine → R av s.heap u d → R av s.heap v d' → EqAt A s u v (V.eqb d d') := by
  intro n
  induction n with
  | zero =>
    intro A s av u v d d' h hu r1 r2
    cases h with
    | bool => (first | (obtain ⟨_, rfl⟩ := R.intI r1; clear r1) | (obtain ⟨_, rfl⟩ := R.strI r1; clear r1) | (obtain rfl := R.boolI r1; clear r1) | (obtain rfl := Rs.nilI r1; clear r1) | (obtain rfl := R.noneI r1; clear r1) | cases r1); (first | (obtain ⟨_, rfl⟩ := R.intI r2; clear r2) | (obtain ⟨_, rfl⟩ := R.strI r2; clear r2) | (obtain rfl := R.boolI r2; clear r2) | (obtain rfl := Rs.nilI r2; clear r2) | (obtain rfl := R.noneI r2; clear r2) | cases r2); exact EqAt.bool_bool _ _
    | int => (first | (obtain ⟨_, rfl⟩ := R.intI r1; clear r1) | (obtain ⟨_, rfl⟩ := R.strI r1; clear r1) | (obtain rfl := R.boolI r1; clear r1) | (obtain rfl := Rs.nilI r1; clear r1) | (obtain rfl := R.noneI r1; clear r1) | cases r1); (first | (obtain ⟨_, rfl⟩ := R.intI r2; clear r2) | (obtain ⟨_, rfl⟩ := R.strI r2; clear r2) | (obtain rfl := R.boolI r2; clear r2) | (obtain rfl := Rs.nilI r2; clear r2) | (obtain rfl := R.noneI r2; clear r2) | cases r2); exact EqAt.int_int _ _ _ _
    | str => (first | (obtain ⟨_, rfl⟩ := R.intI r1; clear r1) | (obtain ⟨_, rfl⟩ := R.strI r1; clear r1) | (obtain rfl := R.boolI r1; clear r1) | (obtain rfl := Rs.nilI r1; clear r1) | (obtain rfl := R.noneI r1; clear r1) | cases r1); (first | (obtain ⟨_, rfl⟩ := R.intI r2; clear r2) | (obtain ⟨_, rfl⟩ := R.strI r2; clear r2) | (obtain rfl := R.boolI r2; clear r2) | (obtain rfl := Rs.nilI r2; clear r2) | (obtain rfl := R.noneI r2; clear r2) | cases r2); exact EqAt.str_str _ _ _ _
  | succ n ih =>
    intro A s av u v d d' h hu r1 r2
    have both := fun q : u = v => eqb_self h r1 (q ▸ r2)
    cases h with
    | bool => (first | (obtain ⟨_, rfl⟩ := R.intI r1; clear r1) | (obtain ⟨_, rfl⟩ := R.strI r1; clear r1) | (obtain rfl := R.boolI r1; clear r1) | (obtain rfl := Rs.nilI r1; clear r1) | (obtain rfl := R.noneI r1; clear r1) | cases r1); (first | (obtain ⟨_, rfl⟩ := R.intI r2; clear r2) | (obtain ⟨_, rfl⟩ := R.strI r2; clear r2) | (obtain rfl := R.boolI r2; clear r2) | (obtain rfl := Rs.nilI r2; clear r2) | (obtain rfl := R.noneI r2; clear r2) | cases r2); exact EqAt.bool_bool _ _
    | int => (first | (obtain ⟨_, rfl⟩ := R.intI r1; clear r1) | (obtain ⟨_, rfl⟩ := R.strI r1; clear r1) | (obtain rfl := R.boolI r1; clear r1) | (obtain rfl := Rs.nilI r1; clear r1) | (obtain rfl := R.noneI r1; clear r1) | cases r1); (first | (obtain ⟨_, rfl⟩ := R.intI r2; clear r2) | (obtain ⟨_, rfl⟩ := R.strI r2; clear r2) | (obtain rfl := R.boolI r2; clear r2) | (obtain rfl := Rs.nilI r2; clear r2) | (obtain rfl := R.noneI r2; clear r2) | cases r2); exact EqAt.int_int _ _ _ _
    | str => (first | (obtain ⟨_, rfl⟩ := R.intI r1; clear r1) | (obtain ⟨_, rfl⟩ := R.strI r1; clear r1) | (obtain rfl := R.boolI r1; clear r1) | (obtain rfl := Rs.nilI r1; clear r1) | (obtain rfl := R.noneI r1; clear r1) | cases r1); (first | (obtain ⟨_, rfl⟩ := R.intI r2; clear r2) | (obtain ⟨_, rfl⟩ := R.strI r2; clear r2) | (obtain rfl := R.boolI r2; clear r2) | (obtain rfl := Rs.nilI r2; clear r2) | (obtain rfl := R.noneI r2; clear r2) | cases r2); exact EqAt.str_str _ _ _ _
    | @tup _ l1 l2 hs =>
      (have hx := R.tupI r1; clear r1; obtain ⟨a1, vs1, rfl, n1, x1, s1⟩ := hx); case _ => (have hx := R.tupI r2; clear r2; obtain ⟨a2, vs2, rfl, n2, x2, s2⟩ := hx); case _ =>
          by_cases q : a1 = a2
          · subst q
            rw [both rfl]
            exact EqAt.same _
          · refine EqAt.of_refs q ?_
            have z := RcAt.tuples (A := A) (s := s) (e := fun j => if h : j < l1.length ∧ j < l2.length then V.eqb l1[j] l2[j] else false) x1 x2 (by k_data) fun j h1 h2 => by
              have h1' : j < vs1.length := by simpa using h1
              have h2' : j < vs2.length := by simpa using h2
              have g1 : j < l1.length := s1.length ▸ h1'
              have g2 : j < l2.length := s2.length ▸ h2'
              rw [dif_pos ⟨g1, g2⟩]
              exact ih (hs.at j g1 g2) (by show A.units + 1 + n + 2 < _; k_data) (by simpa using s1.at j h1' g1) (by simpa using s2.at j h2' g2)
            have e : ((List.range (min vs1.toArray.size vs2.toArray.size)).all (fun j => if h : j < l1.length ∧ j < l2.length then V.eqb l1[j] l2[j] else false) && vs1.toArray.size == vs2.toArray.size) = V.eqb (.tup l1) (.tup l2) := by
              rw [List.size_toArray, List.size_toArray, s1.length, s2.length, V.eqb]
              by_cases el : l1.length = l2.length
              · rw [show min l1.length l2.length = l1.length by k_data, show (l1.length == l2.length) = true by simpa using el, Bool.and_true]
                exact eqbs_all _ el fun j h1 h2 => dif_pos ⟨h1, h2⟩
              · rw [eqbs_len el, (by simpa using el : (l1.length == l2.length) = false), Bool.and_false]
            rw [e] at z
            exact z
    | @list _ l1 l2 hs =>
      (have hx := R.listI r1; clear r1; obtain ⟨a1, vs1, rfl, n1, x1, s1⟩ := hx); case _ => (have hx := R.listI r2; clear r2; obtain ⟨a2, vs2, rfl, n2, x2, s2⟩ := hx); case _ =>
          by_cases q : a1 = a2
          · subst q
            rw [both rfl]
            exact EqAt.same _
          · refine EqAt.of_refs q ?_
            exact rcList n (fun h => ih h) hs hu s1 s2 x1.isList x2.isList
where
  rcList (n : Nat) (ih : ∀ {A : Around} {s : Shared} {av : Addr → Prop} {u v : Value} {d d' : V}, Shp n d d' → A.units + n + 2 < cLine → R av s.heap u d → R av s.heap v d' → EqAt A s u v (V.eqb d d'))
      {A : Around} {s : Shared} {av : Addr → Prop} {a1 a2 : Addr} {vs1 vs2 : List Value} {l1 l2 : List V} (hs : Shps n l1 l2) (hu : A.units + (n + 1) + 2 < cLine) (s1 : Rs av s.heap vs1 l1) (s2 : Rs av s.heap vs2 l2)
      (x1 : s.heap.IsList a1 vs1.toArray) (x2 : s.heap.IsList a2 vs2.toArray) : RcAt A s (.ref a1) (.ref a2) (V.eqb (.list l1) (.list l2)) := by
    by_cases el : l1.length = l2.length
    · have z := RcAt.lists (A := A) (s := s) (e := fun j => if h : j < l1.length ∧ j < l2.length then V.eqb l1[j] l2[j] else false) x1 x2 (by rw [List.size_toArray, List.size_toArray, s1.length, s2.length, el]) (by k_data) fun j h1 h2 => by
        have h1' : j < vs1.length := by simpa using h1
        have h2' : j < vs2.length := by simpa using h2
        have g1 : j < l1.length := s1.length ▸ h1'
        have g2 : j < l2.length := s2.length ▸ h2'
        rw [dif_pos ⟨g1, g2⟩]
        exact ih (hs.at j g1 g2) (by show A.units + 1 + n + 2 < _; k_data) (by simpa using s1.at j h1' g1) (by simpa using s2.at j h2' g2)
      have e : (List.range vs1.toArray.size).all (fun j => if h : j < l1.length ∧ j < l2.length then V.eqb l1[j] l2[j] else false) = V.eqb (.list l1) (.list l2) := by
        rw [List.size_toArray, s1.length, V.eqb]
        exact eqbs_all _ el fun j h1 h2 => dif_pos ⟨h1, h2⟩
      rw [e] at z
      exact z
    · rw [V.eqb, eqbs_len el]
      exact RcAt.lists_lengths x1 x2 (by rw [List.size_toArray, List.size_toArray, s1.length, s2.length]; simpa using el) (by k_data)
open PySem.SeqAt in
theorem CmpJ.eql {n : Nat} {l l' : List V} (h : Shps n l l') (hn : n ≤ 3) : CmpJ .Eq (.list l) (.list l') (V.eqbs l l') := .mk fun X m A E s av u v b G k r1 r2 => by
  (have hx := R.listI r1; clear r1; obtain ⟨a1, vs1, rfl, n1, x1, s1⟩ := hx); case _ => (have hx := R.listI r2; clear r2; obtain ⟨a2, vs2, rfl, n2, x2, s2⟩ := hx); case _ =>
      exact eqAt.rcList n (eqAt n) h (by have := b.u; k_data) s1 s2 x1.isList x2.isList Prog X.w E _ ⟨.refl G, by rw [V.eqb]⟩
end
section
open PySem.SeqAt in
theorem CmpJ.nel {n : Nat} {l l' : List V} (hs : Shps n l l') (hn : n ≤ 3) : CmpJ .NotEq (.list l) (.list l') (!V.eqbs l l') := .mk fun X m A E s av u v b G k r1 r2 => by
  have hu : A.units + (n + 1) + 2 < cLine := by have := b.u; k_data
  (have hx := R.listI r1; clear r1; obtain ⟨a1, vs1, rfl, n1, x1, s1⟩ := hx); case _ => (have hx := R.listI r2; clear r2; obtain ⟨a2, vs2, rfl, n2, x2, s2⟩ := hx); case _ =>
      by_cases el : l.length = l'.length
      · have z := RcNeAt.lists (A := A) (s := s) (e := fun j => if h : j < l.length ∧ j < l'.length then V.eqb l[j] l'[j] else false) x1.isList x2.isList (by rw [List.size_toArray, List.size_toArray, s1.length, s2.length, el]) (by k_data) fun j h1 h2 => by
          have h1' : j < vs1.length := by simpa using h1
          have h2' : j < vs2.length := by simpa using h2
          have g1 : j < l.length := s1.length ▸ h1'
          have g2 : j < l'.length := s2.length ▸ h2'
          rw [dif_pos ⟨g1, g2⟩]
          exact eqAt n (hs.at j g1 g2) (by show A.units + 1 + n + 2 < _; k_data) (by simpa using s1.at j h1' g1) (by simpa using s2.at j h2' g2)
        have e : (List.range vs1.toArray.size).all (fun j => if h : j < l.length ∧ j < l'.length then V.eqb l[j] l'[j] else false) = V.eqbs l l' := by
          rw [List.size_toArray, s1.length]
          exact eqbs_all _ el fun j h1 h2 => dif_pos ⟨h1, h2⟩
        rw [e] at z
        exact z Prog X.w E _ ⟨.refl G, rfl⟩
      · rw [eqbs_len el]
        exact RcNeAt.lists_lengths x1.isList x2.isList (by rw [List.size_toArray, List.size_toArray, s1.length, s2.length]; simpa using el) (by k_data) Prog X.w E _ ⟨.refl G, rfl⟩
noncomputable def anyb (x : V) (l : List V) : Bool := l.any fun y => V.eqb y x
inductive Sh0 : V → V → Prop
  | int {a b} : Sh0 (.int a) (.int b)
  | str {a b} : Sh0 (.str a) (.str b)
theorem mem_at {l : List Value} {v : Value} (h : v ∈ l) : ∃ j, ∃ hj : j < l.length, l[j] = v := List.getElem_of_mem h
open PySem.SeqAt in
theorem CmpJ.inl {x : V} {l : List V} (hs : ∀ y ∈ l, Shp 0 y x) : CmpJ .In x (.list l) (anyb x l) := .mk fun X m A E s av u v b G k r1 r2 => by
  have hu : A.units + 4 < cLine := by have := b.u; k_data
  (have hx := R.listI r2; clear r2; obtain ⟨a2, vs2, rfl, n2, x2, s2⟩ := hx); case _ =>
    obtain ⟨e, he0⟩ : ∃ e : Value → Bool, e = fun y => match u, y with | .int a _, .int c _ => c == a | .str a _, .str c _ => c == a | .bool a, .bool c => c == a | _, _ => false := ⟨_, rfl⟩
    have he : ∀ {y : Value} {d : V}, R av s.heap y d → Shp 0 d x → e y = V.eqb d x := fun rr hh => by
      subst he0
      cases hh
      · obtain rfl := R.boolI r1
        obtain rfl := R.boolI rr
        rfl
      · obtain ⟨_, rfl⟩ := R.intI r1
        obtain ⟨_, rfl⟩ := R.intI rr
        rfl
      · obtain ⟨_, rfl⟩ := R.strI r1
        obtain ⟨_, rfl⟩ := R.strI rr
        rfl
    have h1 : ∀ y ∈ vs2, ∃ d ∈ l, R av s.heap y d := s2.ind (P := fun vs l => ∀ y ∈ vs, ∃ d ∈ l, R av s.heap y d) (fun _ q => nomatch q) fun v d vs ds a _ ih => fm1 ⟨d, .head _, a⟩ fun y q => (ih y q).elim fun d z => ⟨d, .tail _ z.1, z.2⟩
    have h2 : vs2.any e = anyb x l := s2.ind (P := fun vs l => (∀ y ∈ l, Shp 0 y x) → vs.any e = anyb x l) (fun _ => rfl) (fun v d vs ds a _ ih h => by
      rw [List.any_cons, anyb, List.any_cons, he a (h d (.head _)), ih fun y q => h y (.tail _ q)]; rfl) hs
    refine in_listAt e x2.isList (fun y hy => ?_) ⟨.refl G, ?_⟩
    · obtain ⟨d, hd, rr⟩ := h1 y (by simpa using hy)
      rw [he rr (hs d hd)]
      exact eqAt 0 (hs d hd) (by show A.units + 1 + 0 + 2 < _; k_data) rr r1
    · rw [← h2]; simp
/-! subscripts -/
structure GetJ (x i d : V) : Prop where
  run : ∀ (X : Cx) (n : Nat) (A : Around) (E : Value → Shared → Prop) (s : Shared) (av : Addr → Prop) (u v : Value), Bud n A → GOk X s.heap → AvOk X av s.heap → R av s.heap u x → R av s.heap v i →
    ∃ T id, s.TypeIs u T ∧ typeLookup (.type T) "__getitem__" = pure (some (.builtin id)) ∧ wpAny (MX X) A (getItem u v) (fun r s' => Stp X s s' ∧ R av s'.heap r d) E s
theorem seqIx {k : Int} {n j : Nat} (h0 : 0 ≤ k) (hj : k.toNat = j) (h1 : j < n) : seqIndex? k n = some j := by
  unfold seqIndex?
  have h2 : ¬ (k < 0) := by k_data
  have h3 : ¬ ((n : Int) ≤ k) := by k_data
  simp [h2, h3]
  k_data
theorem GetJ.tup {l : List V} {k : Int} {d : V} (h0 : 0 ≤ k) (hk : k < 1000000) (hd : l[k.toNat]? = some d) : GetJ (.tup l) (.int k) d := .mk fun X m A E s av u v b G a r1 r2 => by
  (have hx := R.tupI r1; clear r1; obtain ⟨a1, vs1, rfl, n1, x1, s1⟩ := hx); case _ =>
    (first | (obtain ⟨_, rfl⟩ := R.intI r2; clear r2) | (obtain ⟨_, rfl⟩ := R.strI r2; clear r2) | (obtain rfl := R.boolI r2; clear r2) | (obtain rfl := Rs.nilI r2; clear r2) | (obtain rfl := R.noneI r2; clear r2) | cases r2)
    obtain ⟨v, hv, r⟩ := s1.get hd
    have hlt := (List.getElem?_eq_some_iff.mp hv).1
    exact ⟨_, _, x1.typeIs, slot_tuple_getitem.lookup, getItem_tuple (j := k.toNat) x1 (by k_data) (by k_data) (by rw [List.size_toArray]; exact seqIx h0 rfl hlt) (by simpa using hv) ⟨.refl G, r⟩⟩
theorem GetJ.list {l : List V} {k : Int} {d : V} (h0 : 0 ≤ k) (hk : k < 1000000) (hd : l[k.toNat]? = some d) : GetJ (.list l) (.int k) d := .mk fun X m A E s av u v b G a r1 r2 => by
  (have hx := R.listI r1; clear r1; obtain ⟨a1, vs1, rfl, n1, x1, s1⟩ := hx); case _ =>
    (first | (obtain ⟨_, rfl⟩ := R.intI r2; clear r2) | (obtain ⟨_, rfl⟩ := R.strI r2; clear r2) | (obtain rfl := R.boolI r2; clear r2) | (obtain rfl := Rs.nilI r2; clear r2) | (obtain rfl := R.noneI r2; clear r2) | cases r2)
    obtain ⟨v, hv, r⟩ := s1.get hd
    exact ⟨_, _, x1.isList.typeIs, slot_list_getitem.lookup, wpAny_getItem_list x1.isList h0 (by k_data) (by simpa using hv) ⟨.refl G, r⟩⟩
theorem GetJ.str {x : Str} {k : Int} {c : Nat} (h0 : 0 ≤ k) (hk : k < 1000000) (hc : x.cps[k.toNat]? = some c) : GetJ (.str x) (.int k) (.str ⟨#[c]⟩) := .mk fun X m A E s av u v b G a r1 r2 => by
  (first | (obtain ⟨_, rfl⟩ := R.intI r1; clear r1) | (obtain ⟨_, rfl⟩ := R.strI r1; clear r1) | (obtain rfl := R.boolI r1; clear r1) | (obtain rfl := Rs.nilI r1; clear r1) | (obtain rfl := R.noneI r1; clear r1) | cases r1); (first | (obtain ⟨_, rfl⟩ := R.intI r2; clear r2) | (obtain ⟨_, rfl⟩ := R.strI r2; clear r2) | (obtain rfl := R.boolI r2; clear r2) | (obtain rfl := Rs.nilI r2; clear r2) | (obtain rfl := R.noneI r2; clear r2) | cases r2)
  have hlt : k.toNat < x.length := (Array.getElem?_eq_some_iff.mp hc).1
  refine ⟨_, _, typeIs_str _ _ _, slot_str_getitem.lookup, PyProof.Rows.getItem_str (by simp; k_data) (by rw [seqIx h0 rfl hlt]; exact hc) ⟨.tok G, .str _ _⟩⟩
theorem GetJ.tupD {l : List V} {k : Int} (h0 : 0 ≤ k) (hk : k < 1000000) (h : k.toNat < l.length) : GetJ (.tup l) (.int k) (l.getD k.toNat .none) :=
  .tup h0 hk (by rw [List.getElem?_eq_getElem h, List.getD_eq_getElem?_getD, List.getElem?_eq_getElem h]; rfl)
theorem GetJ.listD {l : List V} {k : Int} (h0 : 0 ≤ k) (hk : k < 1000000) (h : k.toNat < l.length) : GetJ (.list l) (.int k) (l.getD k.toNat .none) :=
  .list h0 hk (by rw [List.getElem?_eq_getElem h, List.getD_eq_getElem?_getD, List.getElem?_eq_getElem h]; rfl)
theorem GetJ.strD {x : Str} {k : Int} (h0 : 0 ≤ k) (hk : k < 1000000) (h : k.toNat < x.length) : GetJ (.str x) (.int k) (.str (Txt.item x k)) := by
  have e : Txt.item x k = ⟨#[x.cps[k.toNat]]⟩ := by
    unfold Txt.item Txt.charAt
    rw [seqIx h0 rfl h]
    simp only [Option.bind_some]
    rw [Array.getElem?_eq_getElem h]
    rfl
  rw [e]
  exact .str h0 hk (Array.getElem?_eq_getElem h)
section
variable {X : Cx} {n : Nat} {env : Env} {ρ : List (Str × V)}
theorem EvJ.sub {o i : Expr} {pos : Pos} {x y d : V} (h1 : EvJ X n env ρ o x) (h2 : EvJ X n env ρ i y) (h3 : GetJ x y d) (hs : ∀ u v, subscripted i false u v = operate [u, v] (getItem u v)) : EvJ X n env ρ (.Subscript o i pos) d :=
  .mk fun A E s av b G a V => Subscript_ (wpAny_mono (h1.run A E s av b G a V) (fun u s₁ q₁ => wpAny_mono (h2.run A E s₁ av b q₁.1.ok (a.step q₁.1) (V.step G a q₁.1)) (fun v s₂ q₂ => by
    obtain ⟨T, id, hT, hl, hg⟩ := h3.run X n A E s₂ av u v b q₂.1.ok ((a.step q₁.1).step q₂.1) (q₁.2.step (a.step q₁.1) q₂.1) q₂.2
    exact tail_any hT hl (wpAny_mono hg (fun r s₃ q₃ => ⟨(q₁.1.trans q₂.1).trans q₃.1, q₃.2⟩) fun _ _ e => e) (hs u v)) fun _ _ e => e) fun _ _ e => e)
noncomputable def PartJ (X : Cx) (n : Nat) (env : Env) (ρ : List (Str × V)) : Option Expr → Option Int → Prop
  | none, none => True
  | some e, some i => EvJ X n env ρ e (.int i)
  | _, _ => False
structure SliJ (x : V) (lo hi : Option Int) (d : V) : Prop where
  run : ∀ (X : Cx) (n : Nat) (A : Around) (E : Value → Shared → Prop) (s : Shared) (av : Addr → Prop) (u vl vu : Value) (sl : Addr), Bud n A → GOk X s.heap → AvOk X av s.heap → R av s.heap u x → IsPart vl lo → IsPart vu hi → s.heap.get? sl = some { cls := .type "slice", data := .fields #[vl, vu, .none] } →
    ∃ T id, s.TypeIs u T ∧ typeLookup (.type T) "__getitem__" = pure (some (.builtin id)) ∧ wpAny (MX X) A (getItem u (.ref sl)) (fun r s' => Stp X s s' ∧ R av s'.heap r d) E s
theorem PartJ.ev {e : Option Expr} {i : Option Int} (h : PartJ X n env ρ e i) {A : Around} {E : Value → Shared → Prop} {s : Shared} {av : Addr → Prop} (b : Bud n A) (G : GOk X s.heap) (a : AvOk X av s.heap) (V : EnvOk X av env ρ s.heap) :
    wpAny (MX X) A (evalPart e env) (fun v s' => Stp X s s' ∧ IsPart v i) E s := by
  cases e with
  | none => cases i with
    | none => exact wpAny_pure ⟨.refl G, .none⟩
    | some i => exact h.elim
  | some e => cases i with
    | none => exact h.elim
    | some i => exact wpAny_mono (h.run A E s av b G a V) (fun v s' q => ⟨q.1, by obtain ⟨_, q⟩ := q; cases q; exact .int _ _⟩) fun _ _ e => e
theorem EvJ.slice {o : Expr} {lo hi : Option Expr} {p pos : Pos} {x d : V} {l u : Option Int} (h1 : EvJ X n env ρ o x) (h2 : PartJ X n env ρ lo l) (h3 : PartJ X n env ρ hi u) (h4 : SliJ x l u d)
    (hs : ∀ o i, subscripted (.Slice lo hi none p) false o i = operate [i, o] (getItem o i)) : EvJ X n env ρ (.Subscript o (.Slice lo hi none p) pos) d :=
  .mk fun A E s av b G a V => Subscript_ (wpAny_mono (h1.run A E s av b G a V) (fun ov s₁ q₁ => wpAny_Slice (wpAny_mono (h2.ev b q₁.1.ok (a.step q₁.1) (V.step G a q₁.1)) (fun vl s₂ q₂ => by
    have a2 := (a.step q₁.1).step q₂.1
    have V2 := (V.step G a q₁.1).step q₁.1.ok (a.step q₁.1) q₂.1
    refine wpAny_mono (h3.ev b q₂.1.ok a2 V2) (fun vu s₃ q₃ => ?_) fun _ _ e => e
    refine wpAny_pure ?_
    have a3 := a2.step q₃.1
    have st : Stp X s₃ { s₃ with heap := s₃.heap.push { cls := .type "slice", data := .fields #[vl, vu, .none] } } := .push q₃.1.ok
    have all := ((q₁.1.trans q₂.1).trans q₃.1).trans st
    obtain ⟨T, id, hT, hl, hg⟩ := h4.run X n A E { s₃ with heap := s₃.heap.push { cls := .type "slice", data := .fields #[vl, vu, .none] } } av ov vl vu s₃.heap.objs.size b st.ok (a3.step st) (((q₁.2.step (a.step q₁.1) q₂.1).step a2 q₃.1).step a3 st) q₂.2 q₃.2 (Heap.get?_push_size _ rfl)
    exact tail_any hT hl (wpAny_mono hg (fun r s₄ q₄ => ⟨all.trans q₄.1, q₄.2⟩) fun _ _ e => e) (hs _ _)) fun _ _ e => e)) fun _ _ e => e)
/-! methods of built-in values -/
noncomputable def MethJ (name : Str) (x : V) (args : List V) (d : V) : Prop := ∃ id : String,
  (∀ (M : Model) (A : Around) (E : Value → Shared → Prop) (s : Shared) (av : Addr → Prop) (u : Value) (pl : Sem Bool) (Q : Value × List Value → Shared → Prop), R av s.heap u x → Q (.builtin id, [u]) s → wpAny M A (getMethod u name pl) Q E s) ∧
  ∀ (X : Cx) (n : Nat) (A : Around) (E : Value → Shared → Prop) (s : Shared) (av : Addr → Prop) (u : Value) (vs : List Value), Bud n A → GOk X s.heap → AvOk X av s.heap → R av s.heap u x → Rs av s.heap vs args →
    wpAny (MX X) A (call (.builtin id) (u :: vs)) (fun r s' => Stp X s s' ∧ R av s'.heap r d) E s
theorem starAll : ∀ {l : List Expr} {pos : Pos}, l.any isStarred = false → (backTo pos (starEach l env)).all (!·.1) = true
  | [], _, _ => rfl
  | y :: l, pos, h => by
    rw [List.any_cons, Bool.or_eq_false_iff] at h
    rw [starEach_of h.1]
    exact starAll h.2
theorem methTail {o : Expr} {name : Str} {apos pos : Pos} {es : List Expr} {x : V} {A : Around} {E : Value → Shared → Prop} {s : Shared} {av : Addr → Prop} {u : Value} {id : String}
    (hg : ∀ (M : Model) (A : Around) (E : Value → Shared → Prop) (s : Shared) (av : Addr → Prop) (u : Value) (pl : Sem Bool) (Q : Value × List Value → Shared → Prop), R av s.heap u x → Q (.builtin id, [u]) s → wpAny M A (getMethod u name pl) Q E s)
    (r : R av s.heap u x) (hp : (apos.endLine == pos.line) = true) (hst : es.any isStarred = false) (hn : es.length < 20)
    {Q : Value → Shared → Prop} (h : wpAny (MX X) A (callWith pos (.builtin id) [u] (backTo pos (starEach es env)) []) Q E s) :
    wpAny (MX X) A (methodCall o name apos pos env u (es.length + ([] : List Keyword).length) (backTo pos (starEach es env)) (backToKw pos (keywordEach [] env))) Q E s := by
  have hform : methodCallForm (es.length + ([] : List Keyword).length) (backTo pos (starEach es env)) (backToKw pos (keywordEach [] env)) = true := by
    unfold methodCallForm
    rw [starAll hst]
    show (true && true && decide (es.length + 0 + 0 < 30)) = true
    simp; k_data
  unfold methodCall
  rw [hform]
  refine wpAny_bind (wpAny_holding ?_)
  refine hg _ A E s av u _ _ r ?_
  refine wpAny_bind ?_
  unfold methodCallPos
  rw [hp]
  exact wpAny_pure h
theorem EvJ.meth0 {o : Expr} {name : Str} {apos pos : Pos} {x d : V} (h1 : EvJ X n env ρ o x) (h3 : MethJ name x [] d)
    (hb : ∀ w, attributeBase o name env w = w) (hp : (apos.endLine == pos.line) = true) : EvJ X n env ρ (.Call (.Attribute o name apos) [] [] pos) d := .mk fun A E s av b G a V => by
  obtain ⟨id, hg, hc⟩ := h3
  rw [arm_eval_Call, hb]
  refine wpAny_bind (wpAny_mono (h1.run A E s av b G a V) (fun u s₁ q₁ => wpAny_bind (wpAny_standAt ?_)) fun _ _ e => e)
  refine methTail hg q₁.2 hp rfl (by decide) (callWith_builtin rfl (evalArgs_nil3 ?_))
  exact wpAny_mono (hc X n A E s₁ av u [] b q₁.1.ok (a.step q₁.1) q₁.2 .nil) (fun r s₃ z => ⟨q₁.1.trans z.1, z.2⟩) fun _ _ e => e
theorem EvJ.meth {o : Expr} {name : Str} {apos pos : Pos} {e : Expr} {es : List Expr} {x d : V} {ds : List V} (h1 : EvJ X n env ρ o x) (h2 : EvsJ X n env ρ (e :: es) ds) (h3 : MethJ name x ds d)
    (hb : ∀ w, attributeBase o name env w = w) (hp : (apos.endLine == pos.line) = true) (hst : (e :: es).any isStarred = false) (hn : (e :: es).length < 20) : EvJ X n env ρ (.Call (.Attribute o name apos) (e :: es) [] pos) d := .mk fun A E s av b G a V => by
  obtain ⟨id, hg, hc⟩ := h3
  rw [arm_eval_Call, hb]
  refine wpAny_bind (wpAny_mono (h1.run A E s av b G a V) (fun u s₁ q₁ => wpAny_bind (wpAny_standAt ?_)) fun _ _ e => e)
  have a1 := a.step q₁.1
  have hst' := hst
  rw [List.any_cons, Bool.or_eq_false_iff] at hst
  refine methTail hg q₁.2 hp hst' hn (callWith_builtin (backTo_of hst') ?_)
  have := h2.run pos A E s₁ av b q₁.1.ok a1 (V.step G a q₁.1)
  rw [starEach_of hst.1] at this ⊢
  exact evalArgs_plain (wpAny_mono this (fun vs s₂ q => wpAny_mono (hc X n A E s₂ av u vs b q.1.ok (a1.step q.1) (q₁.2.step a1 q.1) q.2) (fun r s₃ z => ⟨(q₁.1.trans q.1).trans z.1, z.2⟩) fun _ _ e => e) fun _ _ e => e)
end
end
section
theorem OldK.step_but {h₀ h h' : Heap} {T : List Addr} (K : OldK h₀ h) (ha : ∀ a ∈ T, h₀.objs.size ≤ a) (hs : ∀ b o, b ∉ T → h.get? b = some o → h'.get? b = some o) : OldK h₀ h' := by
  have ne : ∀ b o, h₀.get? b = some o → b ∉ T := fun b o e q => Nat.lt_irrefl _ (Nat.lt_of_lt_of_le (Heap.lt_size e) (ha b q))
  refine ⟨fun b o e => ?_, fun b o e => let ⟨o', ho'⟩ := K.there b o e; ⟨o', hs b _ (ne b o e) ho'⟩⟩
  rcases K.old b o e with x | ⟨t, hc, vs, more, hv, x⟩ | ⟨rfl, hc, ⟨o', es, n, ho', r⟩, z⟩
  · exact .inl (hs b _ (ne b o e) x)
  · exact .inr (.inl ⟨t, hc, vs, more, hv, hs b _ (ne b o e) x⟩)
  · exact .inr (.inr ⟨rfl, hc, ⟨o', es, n, hs _ _ (ne _ o e) ho', r⟩, fun key => by rw [OldK.staticOf_congr ((hs _ _ (ne _ o e) ho').trans ho'.symm) key]; exact z key⟩)
theorem CodeRec.buts {h h' : Heap} {T : List Addr} {cd : Value} {q : Str} (x : h.CodeRec cd q) (n : ∀ a ∈ T, NCh h a) (k : ∀ b o, b ∉ T → h.get? b = some o → h'.get? b = some o) : h'.CodeRec cd q :=
  let ⟨c, o, vs, t, e, g, r1, r2⟩ := x; ⟨c, o, vs, t, e, k _ _ (fun z => n c z o vs q t g r1 r2) g, r1, r2⟩
theorem GOk.but {X : Cx} {h h' : Heap} {T : List Addr} (G : GOk X h) (ha : ∀ a ∈ T, X.S.objs.size ≤ a) (hs : ∀ b o, b ∉ T → h.get? b = some o → h'.get? b = some o) (nc : ∀ a ∈ T, NCh h a) : GOk X h' := by
  have n1 : (61 : Nat) ∉ T := fun q => Nat.lt_irrefl _ (Nat.lt_of_lt_of_le X.lt61 (ha _ q))
  have n2 : (54 : Nat) ∉ T := fun q => Nat.lt_irrefl _ (Nat.lt_of_lt_of_le X.lt54 (ha _ q))
  refine ⟨fun b o n e => ?_, OldK.step_but G.old ha hs, ?_, ?_⟩
  · exact hs b _ (fun q => Nat.lt_irrefl _ (Nat.lt_of_lt_of_le (Heap.lt_size e) (ha b q))) (G.ext b o n e)
  · exact ⟨let ⟨ps, e, r, c⟩ := G.p1.ex; ⟨ps, hs _ _ n1 e, r, fun p v h => CodeRec.buts (c p v h) nc hs⟩⟩
  · exact ⟨let ⟨ps, e, r, c⟩ := G.p2.ex; ⟨ps, hs _ _ n2 e, r, fun p v h => CodeRec.buts (c p v h) nc hs⟩⟩
theorem Cx.tab_lt (X : Cx) {b : Addr} (t : tab b) : b < X.S.objs.size := by
  rcases t with rfl | rfl
  · exact X.lt61
  · exact X.lt54
theorem Cx.ntab (X : Cx) {a : Addr} (h : X.S.objs.size ≤ a) : ¬ tab a := fun t => Nat.lt_irrefl _ (Nat.lt_of_lt_of_le (X.tab_lt t) h)
structure Tch (T : List Addr) (s s' : Shared) : Prop where
  eq : ∃ h' tk, s' = { s with heap := h', toks := tk }
  kp : ∀ b o, b ∉ T → s.heap.get? b = some o → s'.heap.get? b = some o
  nc : ∀ b ∈ T, NCh s.heap b
section
variable {X : Cx} {n : Nat} {env : Env} {ρ : List (Str × V)} {ω : Option Own} {hb : Heap} {av0 : Addr → Prop} {oa : Option Addr}
theorem Inv.touch {T : List Addr} {s s' : Shared} (I : Inv X hb av0 env ρ ω oa s.heap) (x : Tch T s s') (hT : ∀ b ∈ T, av0 b ∧ X.S.objs.size ≤ b ∧ hb.get? b = none ∧ Lv s'.heap b) : Inv X hb av0 env ρ ω oa s'.heap := by
  have mv : ∀ {v : Value} {d : V}, R (AvB av0 env oa) s.heap v d → R (AvB av0 env oa) s'.heap v d := fun r => r.move (fun b o nb e => x.kp b o (fun q => nb (.inl (hT b q).1)) e) fun _ q => .inl q
  have mvs : ∀ {v : List Value} {d : List V}, Rs (AvB av0 env oa) s.heap v d → Rs (AvB av0 env oa) s'.heap v d := fun r => r.move (fun b o nb e => x.kp b o (fun q => nb (.inl (hT b q).1)) e) fun _ q => .inl q
  have nl : env.locals ∉ T := fun q => I.d1 (hT _ q).1
  have nc : ∀ y c, env.cells.lookup y = some c → c ∉ T := fun y c hc q => by
    rcases I.cs y c hc with ⟨o, e⟩ | e
    · rw [(hT c q).2.2.1] at e; cases e
    · exact I.d2 y c hc e.1 (hT c q).1
  refine ⟨I.ok.but (fun b q => (hT b q).2.1) x.kp x.nc, fun b o t e => x.kp b o (fun q => by rw [(hT b q).2.2.1] at e; cases e) (I.ext b o t e), I.base, ⟨I.avk.tab, fun b q => ?_⟩,
    ⟨I.en.fn, I.en.gl, I.en.bl, I.en.loc, ?_, fun y d hy => ?_⟩, I.fl, I.cs, fun y c h1 h2 => ?_, I.ap, I.d1, I.d2, I.d3, ?_⟩
  · by_cases e : b ∈ T
    · exact (hT b e).2.2.2
    · exact (I.avk.live b q).keep fun o ho => x.kp b o e ho
  · obtain ⟨m, hm, hr⟩ := I.en.ns
    exact ⟨m, ns_ext hm fun o e => x.kp _ o nl e, fun y d h1 h2 => let ⟨v, e, r⟩ := hr y d h1 h2; ⟨v, e, mv r⟩⟩
  · exact (I.en.cl y d hy).imp id fun ⟨h1, c, v, h2, ha, h3, r⟩ => ⟨h1, c, v, h2, ha, let ⟨o, ho, hd⟩ := h3; ⟨o, x.kp _ o (nc y c h2) ho, hd⟩, mv r⟩
  · obtain ⟨v, o, ho, hd⟩ := I.fc y c h1 h2
    exact ⟨v, o, x.kp _ o (nc y c h2) ho, hd⟩
  · have o := I.own
    cases ω with
    | none => cases oa with
      | none => trivial
      | some a => exact o.elim
    | some p => cases oa with
      | none => exact o.elim
      | some a =>
        have la : a ∉ T := fun q => I.d3 a rfl (hT a q).1
        cases p with
        | gh g x0 =>
        obtain ⟨h1, h2, h3, h4, h5⟩ := o
        exact ⟨h1, h2, h3, h4, g.mv (fun b o q e => x.kp b o (fun z => q.elim (fun q => la (by rw [h1, ← q]; exact z)) fun q => q (.inl (hT b z).1)) e) (fun _ q => .inl q) h5⟩
        | lst y ds =>
        obtain ⟨h1, h2, vs, h3, h4⟩ := o
        refine ⟨h1, ?_, vs, h3.at fun o e => x.kp _ o la e, mvs h4⟩
        rcases h2 with ⟨k, m, hm, e⟩ | ⟨k, c, hc, hi⟩
        · exact .inl ⟨k, m, ns_ext hm fun o e => x.kp _ o nl e, e⟩
        · exact .inr ⟨k, c, hc, let ⟨o, ho, hd⟩ := hi; ⟨o, x.kp _ o (nc y c hc) ho, hd⟩⟩
theorem AvB.mono {av1 : Addr → Prop} (h : ∀ b, av0 b → av1 b) {b : Addr} (x : AvB av0 env oa b) : AvB av1 env oa b := x.imp (h b) id
theorem Inv.narrow {wr : List Addr} {h : Heap} (I : Inv X hb (fun b => av0 b ∨ b ∈ wr) env ρ ω oa h) (ht : ∀ b, tab b → av0 b) : Inv X hb av0 env ρ ω oa h := by
  have m : ∀ b, AvB av0 env oa b → AvB (fun b => av0 b ∨ b ∈ wr) env oa b := fun b x => x.mono fun _ => .inl
  have mv : ∀ (v : Value) (d : V), R (AvB (fun b => av0 b ∨ b ∈ wr) env oa) h v d → R (AvB av0 env oa) h v d := fun v d r => r.move (fun _ _ _ e => e) fun b q => .inl (m b q)
  have mvs : ∀ (v : List Value) (d : List V), Rs (AvB (fun b => av0 b ∨ b ∈ wr) env oa) h v d → Rs (AvB av0 env oa) h v d := fun v d r => r.move (fun _ _ _ e => e) fun b q => .inl (m b q)
  refine ⟨I.ok, I.ext, I.base, ⟨fun b t => .inl (ht b t), fun b q => I.avk.live b (m b q)⟩, ⟨I.en.fn, I.en.gl, I.en.bl, .inr (.inl rfl), ?_, fun y d hy => ?_⟩, I.fl, I.cs, I.fc, I.ap, fun q => I.d1 (.inl q), fun x c h1 h2 q => I.d2 x c h1 h2 (.inl q), fun a h q => I.d3 a h (.inl q), ?_⟩
  · obtain ⟨m, hm, hr⟩ := I.en.ns
    exact ⟨m, hm, fun y d h1 h2 => let ⟨v, e, r⟩ := hr y d h1 h2; ⟨v, e, mv _ _ r⟩⟩
  · exact (I.en.cl y d hy).imp id fun ⟨h1, c, v, h2, ha, h3, r⟩ => ⟨h1, c, v, h2, fun k => .inr (.inr (.inl ⟨y, k, h2⟩)), h3, mv _ _ r⟩
  · have o := I.own
    cases ω with
    | none => cases oa with
      | none => trivial
      | some a => exact o.elim
    | some p => cases oa with
      | none => exact o.elim
      | some a =>
        cases p with
        | gh g x0 =>
        obtain ⟨h1, h2, h3, h4, h5⟩ := o
        exact ⟨h1, h2, h3, h4, g.mv (fun _ _ _ e => e) (fun b q => .inl (m b q)) h5⟩
        | lst y ds =>
        obtain ⟨h1, h2, vs, h3, h4⟩ := o
        exact ⟨h1, h2, vs, h3, mvs _ _ h4⟩
theorem Inv.wide {wr : List Addr} {s s' : Shared} {h₀ : Heap} (I : Inv X hb av0 env ρ ω oa s.heap) (x : Stp X s s') (e1 : Ext s.heap h₀) (hf : ∀ b ∈ wr, h₀.get? b = none) (hl : ∀ b ∈ wr, Lv s'.heap b) (ht : ∀ b, tab b → av0 b) :
    Inv X hb (fun b => av0 b ∨ b ∈ wr) env ρ ω oa s'.heap := by
  have I' := I.step x
  have fr : ∀ b ∈ wr, ¬ tab b → s.heap.get? b = none := fun b q t => by
    cases e : s.heap.get? b with
    | none => rfl
    | some o => have := e1 b o t e; rw [hf b q] at this; cases this
  have nt : ∀ b ∈ wr, tab b → False ∨ True := fun _ _ _ => .inr trivial
  have key : ∀ b, AvB (fun b => av0 b ∨ b ∈ wr) env oa b → AvB av0 env oa b ∨ (b ∈ wr ∧ s.heap.get? b = none) := fun b q => by
    rcases q with (q | q) | q
    · exact .inl (.inl q)
    · by_cases t : tab b
      · exact .inl (.inl (ht b t))
      · exact .inr ⟨q, fr b q t⟩
    · exact .inl (.inr q)
  have ne : ∀ b o, s.heap.get? b = some o → b ∈ wr → av0 b := fun b o e q => by
    by_cases t : tab b
    · exact ht b t
    · rw [fr b q t] at e; cases e
  have mv : ∀ (v : Value) (d : V), R (AvB av0 env oa) s.heap v d → R (AvB (fun b => av0 b ∨ b ∈ wr) env oa) s'.heap v d := fun v d r =>
    r.move (fun b o nb e => x.ext b o (fun t => nb (.inl (ht b t))) e) fun b q => (key b q).imp id fun z => z.2
  have mvs : ∀ (v : List Value) (d : List V), Rs (AvB av0 env oa) s.heap v d → Rs (AvB (fun b => av0 b ∨ b ∈ wr) env oa) s'.heap v d := fun v d r =>
    r.move (fun b o nb e => x.ext b o (fun t => nb (.inl (ht b t))) e) fun b q => (key b q).imp id fun z => z.2
  have d1 : ¬ (av0 env.locals ∨ env.locals ∈ wr) := by
    rintro (q | q)
    · exact I.d1 q
    · obtain ⟨m, hm, _⟩ := I.en.ns
      obtain ⟨o, _, _, e, _⟩ := hm
      exact I.d1 (ne _ o e q)
  have own := I.own
  refine ⟨I'.ok, I'.ext, I.base, ⟨fun b t => .inl (.inl (ht b t)), fun b q => (key b q).elim (I'.avk.live b) fun z => hl b z.1⟩, ⟨I.en.fn, I.en.gl, I.en.bl, .inr (.inl rfl), ?_, fun y d hy => ?_⟩, I.fl, I.cs, I'.fc, I.ap, d1, ?_, ?_, ?_⟩
  · obtain ⟨m, hm, hr⟩ := I.en.ns
    exact ⟨m, ns_ext hm fun o e => x.ext _ o (ns_nt I.ok hm) e, fun y d h1 h2 => let ⟨v, e, r⟩ := hr y d h1 h2; ⟨v, e, mv _ _ r⟩⟩
  · exact (I.en.cl y d hy).imp id fun ⟨h1, c, v, h2, ha, h3, r⟩ => ⟨h1, c, v, h2, fun k => .inr (.inr (.inl ⟨y, k, h2⟩)), let ⟨o, ho, hd⟩ := h3; ⟨o, x.ext _ o (cell_nt I.ok h3) ho, hd⟩, mv _ _ r⟩
  · rintro y c hc hlt (q | q)
    · exact I.d2 y c hc hlt q
    · by_cases t : tab c
      · exact I.d2 y c hc hlt (ht c t)
      · rcases I.cs y c hc with ⟨o, e⟩ | ⟨_, k⟩
        · exact I.d2 y c hc hlt (ne c o (I.ext c o t e) q)
        · obtain ⟨_, o, e, _⟩ := I.fc y c k hc
          exact I.d2 y c hc hlt (ne c o e q)
  · rintro a rfl (q | q)
    · exact I.d3 a rfl q
    · cases ω with
      | none => exact own.elim
      | some p =>
        cases p with
        | gh g x0 =>
        obtain ⟨h1, h2, h3, h4, h5⟩ := own
        obtain ⟨⟨o, e⟩, _⟩ := g.lv h5
        exact I.d3 a rfl (ne a _ (h1 ▸ e) q)
        | lst y ds =>
        obtain ⟨_, _, vs, h3, _⟩ := own
        obtain ⟨m, e⟩ := h3
        exact I.d3 a rfl (ne a _ e q)
  · cases ω with
    | none => cases oa with
      | none => trivial
      | some a => exact own.elim
    | some p => cases oa with
      | none => exact own.elim
      | some a =>
        cases p with
        | gh g x0 =>
        obtain ⟨h1, h2, h3, h4, h5⟩ := own
        exact ⟨h1, h2, h3, h4, g.mv (fun b o q e => x.ext b o (fun t => q.elim (fun q => I.d3 a rfl (ht a (by rw [h1, ← q]; exact t))) fun q => q (.inl (ht b t))) e) (fun b q => (key b q).imp id fun z => .inr z.2) h5⟩
        | lst y ds =>
        obtain ⟨h1, h2, vs, h3, h4⟩ := I'.own
        obtain ⟨_, _, vs', h3', h4'⟩ := own
        exact ⟨h1, h2, vs', h3'.at fun o e => x.ext _ o (fun t => I.d3 a rfl (ht a t)) e, mvs _ _ h4'⟩
theorem Inv.drop {wr : List Addr} {s s' : Shared} (I : Inv X hb (fun b => av0 b ∨ b ∈ wr) env ρ ω oa s.heap) (x : Tch wr s s') (hT : ∀ b ∈ wr, X.S.objs.size ≤ b ∧ hb.get? b = none ∧ ¬ av0 b) (ht : ∀ b, tab b → av0 b) : Inv X hb av0 env ρ ω oa s'.heap := by
  have m : ∀ b, AvB av0 env oa b → AvB (fun b => av0 b ∨ b ∈ wr) env oa b := fun b x => x.mono fun _ => .inl
  have mv : ∀ {v : Value} {d : V}, R (AvB (fun b => av0 b ∨ b ∈ wr) env oa) s.heap v d → R (AvB av0 env oa) s'.heap v d := fun r => r.move (fun b o nb e => x.kp b o (fun q => nb (.inl (.inr q))) e) fun b q => .inl (m b q)
  have mvs : ∀ {v : List Value} {d : List V}, Rs (AvB (fun b => av0 b ∨ b ∈ wr) env oa) s.heap v d → Rs (AvB av0 env oa) s'.heap v d := fun r => r.move (fun b o nb e => x.kp b o (fun q => nb (.inl (.inr q))) e) fun b q => .inl (m b q)
  have nl : env.locals ∉ wr := fun q => I.d1 (.inr q)
  have nc : ∀ y c, env.cells.lookup y = some c → c ∉ wr := fun y c hc q => by
    rcases I.cs y c hc with ⟨o, e⟩ | e
    · rw [(hT c q).2.1] at e; cases e
    · exact I.d2 y c hc e.1 (.inr q)
  refine ⟨I.ok.but (fun b q => (hT b q).1) x.kp x.nc, fun b o t e => x.kp b o (fun q => by rw [(hT b q).2.1] at e; cases e) (I.ext b o t e), I.base, ⟨fun b t => .inl (ht b t), fun b q => ?_⟩,
    ⟨I.en.fn, I.en.gl, I.en.bl, .inr (.inl rfl), ?_, fun y d hy => ?_⟩, I.fl, I.cs, fun y c h1 h2 => ?_, I.ap, fun q => I.d1 (.inl q), fun x c h1 h2 q => I.d2 x c h1 h2 (.inl q), fun a h q => I.d3 a h (.inl q), ?_⟩
  · have nb : b ∉ wr := fun h => by
      rcases q with q | q | ⟨y, _, q⟩ | q
      · exact (hT b h).2.2 q
      · exact nl (q ▸ h)
      · exact nc y b q h
      · exact I.d3 b q (.inr h)
    exact (I.avk.live b (m b q)).keep fun o ho => x.kp b o nb ho
  · obtain ⟨m, hm, hr⟩ := I.en.ns
    exact ⟨m, ns_ext hm fun o e => x.kp _ o nl e, fun y d h1 h2 => let ⟨v, e, r⟩ := hr y d h1 h2; ⟨v, e, mv r⟩⟩
  · exact (I.en.cl y d hy).imp id fun ⟨h1, c, v, h2, ha, h3, r⟩ => ⟨h1, c, v, h2, fun k => .inr (.inr (.inl ⟨y, k, h2⟩)), let ⟨o, ho, hd⟩ := h3; ⟨o, x.kp _ o (nc y c h2) ho, hd⟩, mv r⟩
  · obtain ⟨v, o, ho, hd⟩ := I.fc y c h1 h2
    exact ⟨v, o, x.kp _ o (nc y c h2) ho, hd⟩
  · have o := I.own
    cases ω with
    | none => cases oa with
      | none => trivial
      | some a => exact o.elim
    | some p => cases oa with
      | none => exact o.elim
      | some a =>
        have la : a ∉ wr := fun q => I.d3 a rfl (.inr q)
        cases p with
        | gh g x0 =>
        obtain ⟨h1, h2, h3, h4, h5⟩ := o
        exact ⟨h1, h2, h3, h4, g.mv (fun b o q e => x.kp b o (fun z => q.elim (fun q => la (by rw [h1, ← q]; exact z)) fun q => q (.inl (.inr z))) e) (fun b q => .inl (m b q)) h5⟩
        | lst y ds =>
        obtain ⟨h1, h2, vs, h3, h4⟩ := o
        refine ⟨h1, ?_, vs, h3.at fun o e => x.kp _ o la e, mvs h4⟩
        rcases h2 with ⟨k, m, hm, e⟩ | ⟨k, c, hc, hi⟩
        · exact .inl ⟨k, m, ns_ext hm fun o e => x.kp _ o nl e, e⟩
        · exact .inr ⟨k, c, hc, let ⟨o, ho, hd⟩ := hi; ⟨o, x.kp _ o (nc y c hc) ho, hd⟩⟩
end
end
section
theorem cps {M : Model} {A : Around} {α : Type} {t : Sem α} {P : α → Shared → Prop} {E : Value → Shared → Prop} {s : Shared} (h : ∀ Q : α → Shared → Prop, (∀ v s', P v s' → Q v s') → wpAny M A t Q E s) : wpAny M A t P E s := h P fun _ _ z => z
theorem opq2 {α β : Type} (B : α → β → Prop) : ∃ P : α → β → Prop, (∀ a b, B a b → P a b) ∧ ∀ a b, P a b → B a b := ⟨B, fun _ _ h => h, fun _ _ h => h⟩
section
variable {X : Cx} {n : Nat} {env : Env} {ρ : List (Str × V)} {ω : Option Own} {hb : Heap} {av0 : Addr → Prop} {oa : Option Addr}
structure TgJ (X : Cx) (env : Env) (ω : Option Own) (t : Expr) (d : V) (ρ ρ' : List (Str × V)) : Prop where
  run : ∀ (A : Around) (E : Value → Shared → Prop) (s : Shared) (hb : Heap) (av0 : Addr → Prop) (oa : Option Addr) (v : Value), A.handled = none → Inv X hb av0 env ρ ω oa s.heap → R (AvB av0 env oa) s.heap v d →
    wpAny (MX X) A (assign t env v) (fun _ s' => Same env oa s s' ∧ Inv X hb av0 env ρ' ω oa s'.heap) E s
theorem TgJ.name {x : Str} {p : Pos} {d : V} (hx : Stores env ω x) : TgJ X env ω (.Name x p) d ρ ((x, d) :: ρ) :=
  .mk fun A E s hb av0 oa v _ I r => wpAny_assign_Name (wpAny_mono (I.store r hx.1 hx.2) (fun _ _ z => ⟨z.1, z.2.1⟩) fun _ _ e => e)
theorem Inv.rstep {s s' : Shared} (I : Inv X hb av0 env ρ ω oa s.heap) (x : Stp X s s') {v : Value} {d : V} (r : R (AvB av0 env oa) s.heap v d) : R (AvB av0 env oa) s'.heap v d := r.step I.avk x
theorem TgJ.pair {x y : Str} {p q pos : Pos} {k : Nat} {d e : V} (hx : Stores env ω x) (hy : Stores env ω y)
    : TgJ X env ω (.Tuple [.Name x p, .Name y q] k pos) (.tup [d, e]) ρ ((y, e) :: (x, d) :: ρ) :=
  .mk fun A E s hb av0 oa v hh I r => by
    (have hx := R.tupI r; clear r; obtain ⟨a, vs, rfl, na, ta, rs⟩ := hx); case _ =>
      (have hx := Rs.consI rs; clear rs; obtain ⟨v1, vs1, rfl, r1, rs⟩ := hx); case _ => (have hx := Rs.consI rs; clear rs; obtain ⟨v2, vs2, rfl, r2, rs⟩ := hx); case _ =>
          (first | (obtain ⟨_, rfl⟩ := R.intI rs; clear rs) | (obtain ⟨_, rfl⟩ := R.strI rs; clear rs) | (obtain rfl := R.boolI rs; clear rs) | (obtain rfl := Rs.nilI rs; clear rs) | (obtain rfl := R.noneI rs; clear rs) | cases rs)
          refine assign_Tuple_tuple (items := #[v1, v2]) hh ta rfl rfl fun h' he => ?_
          have keep : ∀ b o, s.heap.get? b = some o → h'.get? b = some o := fun b o e => he b o (Nat.ne_of_lt (Heap.lt_size e)) e
          have st : Stp X s { s with heap := h' } := .keeps I.ok keep
          have I1 := I.step st
          show wpAny _ A (assignInOrder [assign (.Name x p) env, assign (.Name y q) env] [v1, v2]) _ _ _
          refine wpAny_assignInOrder_more (wpAny_mono (wpAny_assign_Name (I1.store (I.rstep st r1) hx.1 hx.2)) (fun _ s₂ z => ?_) fun _ _ e => e)
          refine wpAny_assignInOrder_more (wpAny_mono (wpAny_assign_Name (z.2.1.store ((I.rstep st r2).move z.2.2 fun _ q => .inl q) hy.1 hy.2)) (fun _ s₃ y => ?_) fun _ _ e => e)
          exact wpAny_assignInOrder_none ⟨(st.same.trans z.1).trans y.1, y.2.1⟩
noncomputable def Off (av : Addr → Prop) (h h' : Heap) : Prop := ∀ b o, ¬ av b → h.get? b = some o → h'.get? b = some o
structure Walk (X : Cx) (A : Around) (target : Expr) (I : Addr) (h₀ : Heap) (av : Addr → Prop) (wr : List Addr) (ds : List V) (St : Nat → Heap → Prop) : Prop where
  fresh : ∀ b ∈ wr, h₀.objs.size ≤ b
  live : ∀ i h, St i h → ∀ b ∈ wr, Lv h b
  frame : ∀ i h h', St i h → Off av h₀ h → Off av h₀ h' → (∀ b ∈ wr, ∀ o, h.get? b = some o → h'.get? b = some o) → St i h'
  item : ∀ i d (s : Shared) (av' : Addr → Prop) (E E' : Value → Shared → Prop), ds[i]? = some d → St i s.heap → Off av h₀ s.heap → AvOk X av' s.heap → (∀ b, av' b → av b ∨ h₀.get? b = none) →
    wpAny (MX X) A (pyNext (.ref I)) (fun r s₁ => ∃ v, r = some v ∧ wpAny (MX X) A (letOwnedTupleGo target (.ref I) v) (fun _ s₂ => St (i + 1) s₂.heap ∧ Tch wr s s₂ ∧ R av' s₂.heap v d) E' s₁) E s
  done : ∀ (s : Shared) (E : Value → Shared → Prop), St ds.length s.heap → Off av h₀ s.heap → wpAny (MX X) A (pyNext (.ref I)) (fun r s₁ => r = none ∧ Tch wr s s₁) E s
  self : ∀ i (s : Shared) (Q : Value → Shared → Prop) (E : Value → Shared → Prop), St i s.heap → Q (.ref I) s → wpAny (MX X) A (pyIter (.ref I)) Q E s
structure WkJ (X : Cx) (n : Nat) (env : Env) (ρ : List (Str × V)) (target : Expr) (e : Expr) (ds : List V) : Prop where
  run : ∀ (A : Around) (E : Value → Shared → Prop) (s : Shared) (av : Addr → Prop), Bud n A → GOk X s.heap → AvOk X av s.heap → EnvOk X av env ρ s.heap →
    wpAny (MX X) A (eval e env) (fun xv s₁ => wpAny (MX X) A (pyIter xv) (fun it s₂ => Stp X s s₂ ∧ ∃ I h₀ wr St, it = .ref I ∧ Ext s.heap h₀ ∧ Ext h₀ s₂.heap ∧ GOk X h₀ ∧ h₀.objs.size ≤ s₂.heap.objs.size ∧ Walk X A target I h₀ av wr ds St ∧ St 0 s₂.heap) E s₁) E s
inductive LoopJ (X : Cx) (n : Nat) (env : Env) (target : Expr) (body orelse : List Stmt) : List V → List (Str × V) → Option Own → Out → Prop
  | nil {ρ ω out} : ExJ X n env ρ ω orelse out → LoopJ X n env target body orelse [] ρ ω out
  | next {d ds ρ ρ₁ ρ₂ ω ω₂ out} : TgJ X env ω target d ρ ρ₁ → ExJ X n env ρ₁ ω body (.next ρ₂ ω₂) → LoopJ X n env target body orelse ds ρ₂ ω₂ out → LoopJ X n env target body orelse (d :: ds) ρ ω out
  | brk {d ds ρ ρ₁ ρ₂ ω ω₂} : TgJ X env ω target d ρ ρ₁ → ExJ X n env ρ₁ ω body (.brk ρ₂ ω₂) → LoopJ X n env target body orelse (d :: ds) ρ ω (.next ρ₂ ω₂)
  | ret {d ds ρ ρ₁ ω v} : TgJ X env ω target d ρ ρ₁ → ExJ X n env ρ₁ ω body (.ret v) → LoopJ X n env target body orelse (d :: ds) ρ ω (.ret v)
theorem Inv.tab0 {h : Heap} (I : Inv X hb av0 env ρ ω oa h) (b : Addr) (t : tab b) : av0 b := by
  have lt : b < X.S.objs.size := X.tab_lt t
  rcases I.avk.tab b t with q | q | ⟨x, k, q⟩ | q
  · exact q
  · have : @LT.lt Nat _ b b := Nat.lt_of_lt_of_le lt (q ▸ Nat.le_trans I.base I.fl); exact (Nat.lt_irrefl _ this).elim
  · obtain ⟨v, c⟩ := I.fc x b k q; exact (cell_nt I.ok c t).elim
  · have o := I.own
    subst q
    cases ω with
    | none => exact o.elim
    | some p => cases p with
      | gh g x0 => obtain ⟨_, h2, _⟩ := o; exact (Nat.lt_irrefl _ (Nat.lt_of_lt_of_le lt h2)).elim
      | lst y ds => obtain ⟨h1, _⟩ := o; exact (Nat.lt_irrefl _ (Nat.lt_of_lt_of_le lt (Nat.le_trans I.base h1))).elim
theorem Inv.mut {h : Heap} (I : Inv X hb av0 env ρ ω oa h) (b : Addr) (t : Mut env oa b) : AvB av0 env oa b := by
  rcases t with q | q | ⟨h1, x, h2⟩ | q
  · exact .inl (I.tab0 b q)
  · exact .inr (.inl q)
  · rcases I.cs x b h2 with ⟨o, e⟩ | ⟨_, k⟩
    · exact (Nat.lt_irrefl _ (Nat.lt_trans (Heap.lt_size e) (Nat.lt_of_le_of_lt I.fl h1))).elim
    · exact .inr (.inr (.inl ⟨x, k, h2⟩))
  · exact .inr (.inr (.inr q))
theorem Inv.nmut {h : Heap} (I : Inv X hb av0 env ρ ω oa h) (b : Addr) (a : av0 b) (t : ¬ tab b) : ¬ Mut env oa b := by
  rintro (q | q | ⟨h1, x, h2⟩ | q)
  · exact t q
  · exact I.d1 (q ▸ a)
  · exact I.d2 x b h2 h1 a
  · exact I.d3 b q a
theorem Off.trans {av av' : Addr → Prop} {h₁ h₂ h₃ : Heap} (x : Off av h₁ h₂) (y : Off av' h₂ h₃) (i : ∀ b, av' b → av b ∨ h₁.get? b = none) : Off av h₁ h₃ :=
  fun b o n e => y b o (fun q => (i b q).elim n fun z => by rw [z] at e; cases e) (x b o n e)
theorem OutOk.narrow {wr : List Addr} {hs : Heap} {out : Out} {fl : Flow} {h : Heap} (z : OutOk X hb (fun b => av0 b ∨ b ∈ wr) env oa hs out fl h) (ht : ∀ b, tab b → av0 b) : OutOk X hb av0 env oa hs out fl h := by
  cases out with
  | next ρ ω => obtain ⟨a, b, c, d⟩ := z; exact ⟨a, b, c.narrow ht, d⟩
  | brk ρ ω => obtain ⟨a, b, c, d⟩ := z; exact ⟨a, b, c.narrow ht, d⟩
  | cont ρ ω => obtain ⟨a, b, c, d⟩ := z; exact ⟨a, b, c.narrow ht, d⟩
  | ret d => obtain ⟨v, a, b, c, e⟩ := z; exact ⟨v, a, b, c, e.move (fun _ _ _ e => e) fun _ q => .inl (.inl q)⟩
  | retG d g y => obtain ⟨v, a, b, c, e, f⟩ := z; exact ⟨v, a, b, c, e.move (fun _ _ _ e => e) fun _ q => .inl (.inl q), g.mv (fun _ _ _ e => e) (fun _ q => .inl (.inl q)) f⟩
theorem StJ.for {target iter : Expr} {body orelse : List Stmt} {pos : Pos} {ds : List V} {out : Out} (hw : WkJ X n env ρ target iter ds) (hl : LoopJ X n env target body orelse ds ρ ω out)
    (hs : ∀ x, foldedSetIterable iter env x = pure x) : StJ X n env ρ ω (.For target iter body orelse pos) out :=
  .mk fun A E s hb av0 oa b I => by
    refine cps fun Q hQ => ?_
    have ht := I.tab0
    refine wpAny_For (wpAny_mono (hw.run A E s _ b I.ok I.avk I.en) (fun xv s₁ h₁ => wpAny_mono h₁ (fun it s₂ h₂ => ?_) fun _ _ e => e) fun _ _ e => e) hs
    obtain ⟨x, Ia, h₀, wr, St, rfl, e1, e2, G0, _, W, st0⟩ := h₂
    have hf : ∀ b ∈ wr, h₀.get? b = none := fun b q => Heap.get?_none_of_le (W.fresh b q)
    have I₂ := I.wide x e1 hf (W.live _ _ st0) ht
    have tb : ∀ b ∈ wr, ¬ tab b := fun b q t => by
      have lt : b < X.S.objs.size := X.tab_lt t
      exact Nat.lt_irrefl _ (Nat.lt_of_lt_of_le lt (Nat.le_trans G0.sz (W.fresh b q)))
    have hT : ∀ b ∈ wr, (av0 b ∨ b ∈ wr) ∧ X.S.objs.size ≤ b ∧ hb.get? b = none := fun b q => ⟨.inr q, Nat.le_trans G0.sz (W.fresh b q), by
      cases e : hb.get? b with
      | none => rfl
      | some o => have := e1 b o (tb b q) (I.ext b o (tb b q) e); rw [hf b q] at this; cases this⟩
    have nm : ∀ {oa' : Option Addr} {ρ' ω' h}, Inv X hb (fun b => av0 b ∨ b ∈ wr) env ρ' ω' oa' h → ∀ b ∈ wr, ¬ Mut env oa' b := fun I' b q => I'.nmut b (.inr q) (tb b q)
    -- a turn of the walk is no change of the frame's
    have tch : ∀ {oa' : Option Addr} {s₃ s₄ : Shared} {ρ' ω'}, Inv X hb (fun b => av0 b ∨ b ∈ wr) env ρ' ω' oa' s₃.heap → Tch wr s₃ s₄ → (∀ b ∈ wr, Lv s₄.heap b) → Inv X hb (fun b => av0 b ∨ b ∈ wr) env ρ' ω' oa' s₄.heap :=
      fun I' t l => I'.touch t fun b q => ⟨(hT b q).1, (hT b q).2.1, (hT b q).2.2, l b q⟩
    have ns : ∀ b ∈ wr, s.heap.get? b = none := fun b q => by
      cases e : s.heap.get? b with
      | none => rfl
      | some o => have := e1 b o (tb b q) e; rw [hf b q] at this; cases this
    have smT : ∀ {s₃ s₄ : Shared}, Same env oa s s₃ → Tch wr s₃ s₄ → Same env oa s s₄ := fun {s₃ s₄} z t =>
      ⟨by obtain ⟨h, t1, e⟩ := z.eq; obtain ⟨h', t', e'⟩ := t.eq; subst e; exact ⟨h', t', e'⟩, fun b o n e => t.kp b o (fun q => by rw [ns b q] at e; cases e) (z.kp b o n e),
        fun b o e => let ⟨o', e'⟩ := z.al b o e; ⟨o', t.kp b o' (fun q => by rw [ns b q] at e; cases e) e'⟩⟩
    have alT : ∀ {s₃ s₄ : Shared}, (∀ b o, s₂.heap.get? b = some o → ∃ o', s₃.heap.get? b = some o') → Tch wr s₃ s₄ → (∀ b ∈ wr, Lv s₄.heap b) → (∀ b o, s₂.heap.get? b = some o → ∃ o', s₄.heap.get? b = some o') := fun z t l b o e => by
      by_cases q : b ∈ wr
      · exact (l b q).1
      · obtain ⟨o', e'⟩ := z b o e; exact ⟨o', t.kp b o' q e'⟩
    have offT : ∀ {s₃ s₄ : Shared}, Off (AvB av0 env oa) h₀ s₃.heap → Tch wr s₃ s₄ → Off (AvB av0 env oa) h₀ s₄.heap := fun z t b o n e => t.kp b o (fun q => by rw [hf b q] at e; cases e) (z b o n e)
    have av' : ∀ {oa' : Option Addr}, OaOk oa s₂.heap oa' → ∀ b, AvB (fun b => av0 b ∨ b ∈ wr) env oa' b → AvB av0 env oa b ∨ h₀.get? b = none := fun oo b q => by
      rcases q with (q | q) | q | q | q
      · exact .inl (.inl q)
      · exact .inr (hf b q)
      · exact .inl (.inr (.inl q))
      · exact .inl (.inr (.inr (.inl q)))
      · rcases oo b q with q | q
        · exact .inl (.inr (.inr (.inr q)))
        · by_cases t : tab b
          · exact .inl (.inl (ht b t))
          · refine .inr ?_
            cases e : h₀.get? b with
            | none => rfl
            | some o => have := e2 b o t e; rw [q] at this; cases this
    have offS : ∀ {oa' oa'' : Option Addr} {s₃ s₄ : Shared} {ρ' ω'}, OaOk oa s₂.heap oa' → Inv X hb (fun b => av0 b ∨ b ∈ wr) env ρ' ω' oa' s₃.heap → Off (AvB av0 env oa) h₀ s₃.heap → Same env oa' s₃ s₄ → Off (AvB av0 env oa) h₀ s₄.heap := fun oo I' z y b o n e =>
      y.kp b o (fun q => by
        rcases av' oo b (I'.mut b q) with q | q
        · exact n q
        · rw [q] at e; cases e) (z b o n e)
    have stS : ∀ {oa' : Option Addr} {s₃ s₄ : Shared} {ρ' ω' i}, Inv X hb (fun b => av0 b ∨ b ∈ wr) env ρ' ω' oa' s₃.heap → St i s₃.heap → Off (AvB av0 env oa) h₀ s₃.heap → Off (AvB av0 env oa) h₀ s₄.heap → Same env oa' s₃ s₄ → St i s₄.heap := fun I' st z z' y =>
      W.frame _ _ _ st z z' fun b q o e => y.kp b o (nm I' b q) e
    obtain ⟨Φ, toΦ, ofΦ⟩ := opq2 fun (k : Nat) (s' : Shared) => ∃ i ρ' ω' oa', Inv X hb (fun b => av0 b ∨ b ∈ wr) env ρ' ω' oa' s'.heap ∧ LoopJ X n env target body orelse (ds.drop i) ρ' ω' out ∧ St i s'.heap ∧ Off (AvB av0 env oa) h₀ s'.heap ∧ Same env oa s s' ∧
      (∀ b o, s₂.heap.get? b = some o → ∃ o', s'.heap.get? b = some o') ∧ OaOk oa s₂.heap oa' ∧ i ≤ ds.length ∧ k = ds.length + 1 - i
    refine codeAny_forLoop_any Φ ?_ (ds.length + 1)
      (toΦ _ _ ⟨0, ρ, ω, oa, I₂, hl, st0, fun b o n e => e2 b o (fun t => n (.inl (ht b t))) e, x.same, fun b o e => ⟨o, e⟩, .refl, Nat.zero_le _, rfl⟩)
    intro k s' hk
    replace hk := ofΦ _ _ hk
    obtain ⟨i, ρ', ω', oa', I', hl', st', off', sm', al', oo', hi, rfl⟩ := hk
    cases hd : ds.drop i with
    | nil =>
      have hin : i = ds.length := Nat.le_antisymm hi (by simpa using hd)
      subst hin
      refine wpAny_mono (W.done s' _ st' off') (fun r s₃ q => ?_) fun _ _ e => e
      obtain ⟨rfl, t⟩ := q
      rw [hd] at hl'
      cases hl' with
      | nil hx =>
        have I3 := I'.drop t (fun b q => ⟨(hT b q).2.1, (hT b q).2.2, fun z => by obtain ⟨⟨o, e⟩, _⟩ := I.avk.live b (.inl z); rw [ns b q] at e; cases e⟩) ht
        refine wpAny_mono (hx.run A _ s₃ hb _ oa' b I3) (fun fl s₄ z => ?_) fun _ _ e => e
        have sm3 := smT sm' t
        have o3 := oo'.from (x.same (env := env) (oa := oa))
        exact hQ _ _ ⟨sm3.trans' o3 z.1, z.2.back sm3 o3⟩
    | cons d rest =>
      have hdi : ds[i]? = some d := by rw [← List.head?_drop, hd]; rfl
      have hlt : i < ds.length := (List.getElem?_eq_some_iff.mp hdi).1
      have hrest : rest = ds.drop (i + 1) := by rw [← List.tail_drop, hd]; rfl
      refine wpAny_mono (W.item i d s' _ _ (notedBy (MX X) A env (cameBackBy (MX X) A env E)) hdi st' off' I'.avk (av' oo')) (fun r s₃ q => ?_) fun _ _ e => e
      obtain ⟨v, rfl, q⟩ := q
      refine wpAny_mono q (fun _ s₄ q => ?_) fun _ _ e => e
      obtain ⟨st4, t, r⟩ := q
      have l4 := W.live _ _ st4
      have I4 := tch I' t l4
      have off4 := offT off' t
      have sm4 := smT sm' t
      have al4 := alT al' t l4
      rw [hd] at hl'
      -- after the target
      have tgt : ∀ {ρ₁}, TgJ X env ω' target d ρ' ρ₁ → ∀ (E' : Value → Shared → Prop) (Q : Unit → Shared → Prop), (∀ s₅, Inv X hb (fun b => av0 b ∨ b ∈ wr) env ρ₁ ω' oa' s₅.heap → St (i + 1) s₅.heap → Off (AvB av0 env oa) h₀ s₅.heap → Same env oa s s₅ →
          (∀ b o, s₂.heap.get? b = some o → ∃ o', s₅.heap.get? b = some o') → Q () s₅) → wpAny (MX X) A (PySem.assign target env v) Q E' s₄ := fun hg E' Q h =>
        wpAny_mono (hg.run A E' s₄ hb _ oa' v b.hh I4 r) (fun _ s₅ z => h s₅ z.2 (stS I4 st4 off4 (offS (oa'' := oa') oo' I4 off4 z.1) z.1) (offS (oa'' := oa') oo' I4 off4 z.1) (sm4.trans' (oo'.from (x.same (env := env) (oa := oa))) z.1)
          fun b o e => let ⟨o', e'⟩ := al4 b o e; z.1.al b o' e') fun _ _ e => e
      have o5 := oo'.from (x.same (env := env) (oa := oa))
      cases hl' with
      | next hg hx hr =>
        refine tgt hg _ _ fun s₅ I5 st5 off5 sm5 al5 => wpAny_mono (hx.run A _ s₅ hb _ oa' b I5) (fun fl s₆ z => ?_) fun _ _ e => e
        obtain ⟨z1, rfl, oa'', I6, o6⟩ := z
        have off6 := offS (oa'' := oa') oo' I5 off5 z1
        exact ⟨ds.length + 1 - (i + 1), by k_data, toΦ _ _ ⟨i + 1, _, _, oa'', I6, hrest ▸ hr, stS I5 st5 off5 off6 z1, off6, sm5.trans' o5 z1, fun b o e => let ⟨o', e'⟩ := al5 b o e; z1.al b o' e',
          fun a h => (o6 a h).elim (oo' a) fun q => .inr (by
            cases e : s₂.heap.get? a with
            | none => rfl
            | some o => obtain ⟨o', e'⟩ := al5 a o e; rw [q] at e'; cases e'), hlt, rfl⟩⟩
      | brk hg hx =>
        refine tgt hg _ _ fun s₅ I5 st5 off5 sm5 al5 => wpAny_mono (hx.run A _ s₅ hb _ oa' b I5) (fun fl s₆ z => ?_) fun _ _ e => e
        obtain ⟨z1, rfl, oa'', I6, o6⟩ := z
        exact hQ _ _ ⟨sm5.trans' o5 z1, rfl, oa'', I6.narrow ht, o5.trans o6 sm5⟩
      | ret hg hx =>
        refine tgt hg _ _ fun s₅ I5 st5 off5 sm5 al5 => wpAny_mono (hx.run A _ s₅ hb _ oa' b I5) (fun fl s₆ z => ?_) fun _ _ e => e
        obtain ⟨z1, v', rfl, z2⟩ := z
        have z3 : OutOk X hb _ env oa' s₅.heap (.ret _) (.ret v') s₆.heap := ⟨v', rfl, z2⟩
        exact hQ _ _ ⟨sm5.trans' o5 z1, z3.narrow ht⟩
end
end
section
/-! comprehensions -/
noncomputable def closL (env : Env) : List (Str × NameKind) → List (Str × Addr) → List (Str × Addr)
  | [], acc => acc
  | (n, k) :: r, acc => if k == .free then closL env r ((n, (env.cells.lookup n).getD 0) :: acc) else closL env r acc
theorem closureFor_go (env : Env) (f : Str × NameKind → List (Str × Addr) → Sem (ForInStep (List (Str × Addr))))
    (hf : ∀ n k c, f (n, k) c = if k == .free then (do let a ← cellOf env n; pure (.yield ((n, a) :: c))) else pure (.yield c)) :
    ∀ (names : List (Str × NameKind)) (acc : List (Str × Addr)), (∀ x ∈ names, x.2 = .free → ∃ c, env.cells.lookup x.1 = some c) → forIn names acc f = pure (closL env names acc)
  | [], acc, _ => by rw [List.forIn_nil]; rfl
  | (n, k) :: r, acc, h => by
    rw [List.forIn_cons, hf]
    have hr := fun a => closureFor_go env f hf r a fun x hx => h x (List.mem_cons_of_mem _ hx)
    unfold closL
    by_cases hk : k = .free
    · subst hk
      obtain ⟨c, hc⟩ := h (n, .free) List.mem_cons_self rfl
      have : cellOf env n = pure c := by unfold cellOf; rw [hc]
      simp only [beq_self_eq_true, if_true, this, pure_bind, hc, Option.getD_some]
      exact hr _
    · have : (k == NameKind.free) = false := by simpa using hk
      simp only [this, Bool.false_eq_true, if_false, pure_bind]
      exact hr _
theorem closureFor_eq {scope : Scope} {env : Env} (h : ∀ x ∈ scope.names, x.2 = .free → ∃ c, env.cells.lookup x.1 = some c) : closureFor scope env = pure (closL env scope.names []) := by
  simp only [closureFor]
  rw [closureFor_go env _ (fun n k c => by cases hk : k == NameKind.free <;> simp [hk]) scope.names [] h]
  simp
theorem closL_lk {env : Env} {x : Str} : ∀ {names : List (Str × NameKind)} {acc : List (Str × Addr)}, (closL env names acc).lookup x = if (x, NameKind.free) ∈ names then some ((env.cells.lookup x).getD 0) else acc.lookup x
  | [], acc => by simp [closL]
  | (n, k) :: r, acc => by
    unfold closL
    by_cases hk : k = .free
    · subst hk
      simp only [beq_self_eq_true, if_true]
      rw [closL_lk]
      by_cases h1 : (x, NameKind.free) ∈ r
      · simp [h1]
      · by_cases h2 : x = n
        · subst h2; simp [h1]
        · have : (x == n) = false := by simpa using h2
          simp [h1, h2, List.lookup_cons, this]
    · have : (k == NameKind.free) = false := by simpa using hk
      simp only [this, Bool.false_eq_true, if_false]
      rw [closL_lk]
      have : (x, NameKind.free) ≠ (n, k) := fun e => hk (by injection e with _ e; exact e.symm)
      simp [this]
theorem cellsFrom_app : ∀ (names : List (Str × NameKind)) (n : Nat) (acc : List (Str × Addr)), cellsFrom n names acc = cellsFrom n names [] ++ acc
  | [], _, acc => rfl
  | (y, k) :: r, n, acc => by
    unfold cellsFrom
    split
    · rw [cellsFrom_app r (n + 1) ((y, n) :: acc), cellsFrom_app r (n + 1) [(y, n)], List.append_assoc]; rfl
    · exact cellsFrom_app r n acc
theorem lookup_app {α : Type} {x : Str} : ∀ {l l' : List (Str × α)}, (l ++ l').lookup x = (l.lookup x).or (l'.lookup x)
  | [], _ => rfl
  | (y, a) :: l, l' => by
    rw [List.cons_append, List.lookup_cons, List.lookup_cons]
    cases x == y
    · exact lookup_app
    · rfl
noncomputable def cenvOf (scope : Scope) (env : Env) (C : Addr) : Env :=
  { scope := relabel scope env, locals := C, globals := env.globals, cells := cellsFrom (C + 1) scope.names (closL env scope.names []), qual := env.qual, func := none, code := env.code, frame := env.frame, builtins := env.builtins }
inductive CloOk (env : Env) (ρ : List (Str × V)) : List (Str × NameKind) → List (Str × V) → Prop
  | nil : CloOk env ρ [] []
  | skip {n k r ρc} : (k == NameKind.free) = false → CloOk env ρ r ρc → CloOk env ρ ((n, k) :: r) ρc
  | free {n d r ρc} : ρ.lookup n = some d → (env.kindOf n == some .cell || env.kindOf n == some .free) = true → CloOk env ρ r ρc → CloOk env ρ ((n, .free) :: r) ((n, d) :: ρc)
theorem CloOk.of {env : Env} {ρ ρc : List (Str × V)} {names : List (Str × NameKind)} (h : CloOk env ρ names ρc) : ∀ {x d}, ρc.lookup x = some d → ρ.lookup x = some d ∧ (x, NameKind.free) ∈ names := by
  induction h with
  | nil => intro x d e; cases e
  | skip _ _ ih => intro x d e; exact ⟨(ih e).1, List.mem_cons_of_mem _ (ih e).2⟩
  | @free n d' r ρc h1 h2 h3 ih =>
    intro x d e
    rw [List.lookup_cons] at e
    by_cases q : x = n
    · subst q
      simp only [beq_self_eq_true] at e
      cases e
      exact ⟨h1, List.mem_cons_self⟩
    · have : (x == n) = false := by simpa using q
      simp only [this] at e
      exact ⟨(ih e).1, List.mem_cons_of_mem _ (ih e).2⟩
theorem CloOk.all {env : Env} {ρ ρc : List (Str × V)} {names : List (Str × NameKind)} (h : CloOk env ρ names ρc) : ∀ {x}, (x, NameKind.free) ∈ names → (∃ d, ρ.lookup x = some d) ∧ (env.kindOf x = some .cell ∨ env.kindOf x = some .free) := by
  induction h with
  | nil => intro x e; cases e
  | @skip n k r ρc h1 _ ih =>
    intro x e
    rcases List.mem_cons.mp e with q | q
    · injection q with _ q; subst q; simp at h1
    · exact ih q
  | @free n d' r ρc h1 h2 h3 ih =>
    intro x e
    rcases List.mem_cons.mp e with q | q
    · injection q with q _; subst q
      refine ⟨⟨_, h1⟩, ?_⟩
      rcases Bool.or_eq_true_iff.mp h2 with z | z
      · exact .inl (by simpa using z)
      · exact .inr (by simpa using z)
    · exact ih q
theorem relabel_lk {scope : Scope} {env : Env} (hf : env.scope.kind = .function) {x : Str} : ∀ {names : List (Str × NameKind)}, 
    (names.map fun (n, k) => if (k == NameKind.free && env.scope.kind == .function && env.kindOf n == some .cell) then (n, NameKind.cell) else (n, k)).lookup x =
      (names.lookup x).map fun k => if (k == NameKind.free && env.kindOf x == some .cell) then NameKind.cell else k
  | [] => rfl
  | (n, k) :: r => by
    have hk : (env.scope.kind == ScopeKind.function) = true := by rw [hf]; rfl
    have ih := relabel_lk (scope := scope) hf (x := x) (names := r)
    rw [List.map_cons]
    dsimp only
    by_cases hc : (k == NameKind.free && env.scope.kind == .function && env.kindOf n == some .cell) = true
    · rw [if_pos hc, List.lookup_cons, List.lookup_cons]
      by_cases q : x = n
      · subst q
        rw [beq_self_eq_true]
        simp only [hk, Bool.and_true] at hc
        simp only [Option.map_some, if_pos hc]
      · have b : (x == n) = false := by simpa using q
        rw [b]; exact ih
    · rw [if_neg hc, List.lookup_cons, List.lookup_cons]
      by_cases q : x = n
      · subst q
        rw [beq_self_eq_true]
        simp only [hk, Bool.and_true] at hc
        simp only [Option.map_some, if_neg hc]
      · have b : (x == n) = false := by simpa using q
        rw [b]; exact ih
theorem lk_of_mem {α : Type} {x : Str} {k : α} : ∀ {l : List (Str × α)}, (l.map (·.1)).Nodup → (x, k) ∈ l → l.lookup x = some k
  | (y, a) :: l, nd, h => by
    rw [List.map_cons, List.nodup_cons] at nd
    rw [List.lookup_cons]
    rcases List.mem_cons.mp h with e | h
    · injection e with e1 e2; subst e1; subst e2; rw [beq_self_eq_true]
    · have : (x == y) = false := by
        have : x ≠ y := fun e => nd.1 (e ▸ List.mem_map.mpr ⟨_, h, rfl⟩)
        simpa using this
      rw [this]; exact lk_of_mem nd.2 h
section
variable {M : Model} {A : Around} {E : Value → Shared → Prop} {s : Shared}
theorem newCompEnv {scope : Scope} {cl : List (Str × Addr)} {env : Env} {globals : Addr} {qual : Str} {Q : Env → Shared → Prop} 
    (hQ : ∀ h', h'.Ns s.heap.objs.size (fun _ => none) → (∀ b o, s.heap.get? b = some o → h'.get? b = some o) → (∀ n c, (n, c) ∈ cellsFrom (s.heap.objs.size + 1) scope.names [] → h'.IsCell c none ∧ s.heap.objs.size + 1 ≤ c) →
      ((cellsFrom (s.heap.objs.size + 1) scope.names []).Pairwise fun x y => x.2 ≠ y.2) →
      Q { scope, locals := s.heap.objs.size, globals, cells := cellsFrom (s.heap.objs.size + 1) scope.names cl, qual, func := none, code := env.code, frame := env.frame, builtins := env.builtins } { s with heap := h' }) :
    wpAny M A (newFunctionEnv scope globals cl [] qual none .none (some env)) Q E s := by
  simp only [newFunctionEnv, Option.isSome_some, if_true]
  refine wpAny_bind (wpAny_alloc ?_)
  refine wpAny_bind (wpAny_layCells _ (fun name kind cells => by cases hkc : kind == NameKind.cell <;> simp [hkc]) _ _ _ _ ?_)
  have ok := cellsFrom_ok scope.names (s.heap.push { cls := .type "dict", data := .dict #[] }) (s.heap.objs.size + 1) [] ⟨fun _ _ hm => (nomatch hm), List.Pairwise.nil⟩ (by rw [Heap.size_push]; exact Nat.le_refl _)
  rw [Heap.size_push] at ok
  rw [show ({ s with heap := s.heap.push { cls := .type "dict", data := .dict #[] } } : Shared).heap.objs.size = s.heap.objs.size + 1 from Heap.size_push ..]
  rw [List.forIn_nil]
  refine wpAny_bind (wpAny_pure (wpAny_pure ?_))
  exact hQ _ ((Heap.Ns.new s.heap (.type "dict")).keeps (pushCells_keeps _ _)) (fun b o e => pushCells_keeps _ _ b o (Heap.get?_push_of_some _ e)) ok.empty ok.apart
end
section
variable {X : Cx} {n : Nat} {env : Env} {ρ : List (Str × V)} {ω : Option Own} {hb : Heap} {av0 : Addr → Prop} {oa : Option Addr}
theorem EnvOk.weak {av : Addr → Prop} {ρ' : List (Str × V)} {h : Heap} (V : EnvOk X av env ρ h) (w : ∀ x d, ρ'.lookup x = some d → ρ.lookup x = some d) : EnvOk X av env ρ' h :=
  ⟨V.fn, V.gl, V.bl, V.loc, let ⟨m, hm, hr⟩ := V.ns; ⟨m, hm, fun x d e k => hr x d (w x d e) k⟩, fun x d e => V.cl x d (w x d e)⟩
theorem Inv.weak {ρ' : List (Str × V)} {h : Heap} (I : Inv X hb av0 env ρ ω oa h) (w : ∀ x d, ρ'.lookup x = some d → ρ.lookup x = some d) : Inv X hb av0 env ρ' ω oa h :=
  ⟨I.ok, I.ext, I.base, I.avk, I.en.weak w, I.fl, I.cs, I.fc, I.ap, I.d1, I.d2, I.d3, I.own⟩
structure TsJ (X : Cx) (n : Nat) (env : Env) (ρ : List (Str × V)) (ifs : List Expr) (b : Bool) : Prop where
  run : ∀ (A : Around) (E : Value → Shared → Prop) (s : Shared) (av : Addr → Prop), Bud n A → GOk X s.heap → AvOk X av s.heap → EnvOk X av env ρ s.heap →
    wpAny (MX X) A (forIn ifs true fun c r => if r = true then do let ok ← isTrue c env (eval c env); pure (ForInStep.yield ok) else pure (ForInStep.yield r)) (fun ok s' => Stp X s s' ∧ ok = b) E s
theorem TsJ.nil : TsJ X n env ρ [] true := .mk fun A E s av b G a V => wpAny_tests_nil ⟨.refl G, rfl⟩
theorem TsJ.one {c : Expr} {t : Bool} (h : TrJ X n env ρ c t) : TsJ X n env ρ [c] t := .mk fun A E s av b G a V => wpAny_tests_one (h.run A E s av b G a V)
theorem Inv.comp {scope : Scope} {ρc : List (Str × V)} {av av1 : Addr → Prop} {s s₃ : Shared} {h₀ h₁ : Heap} (V : EnvOk X av env ρ s.heap) (a : AvOk X av s.heap) (G : GOk X s.heap) (x : Stp X s s₃) (hclo : CloOk env ρ scope.names ρc) (hnd : (scope.names.map (·.1)).Nodup)
    (hkind : scope.kind = .function) (e1 : Ext s.heap h₀) (e2 : Ext h₀ s₃.heap) (G0 : GOk X h₀) (hsz : h₀.objs.size ≤ s₃.heap.objs.size)
    (ha1 : ∀ b, av b → av1 b) (ha2 : ∀ b, av1 b → av b ∨ (s.heap.get? b = none ∧ Lv s₃.heap b))
    (hns : h₁.Ns s₃.heap.objs.size (fun _ => none)) (hk : ∀ b o, s₃.heap.get? b = some o → h₁.get? b = some o)
    (hce : ∀ n c, (n, c) ∈ cellsFrom (s₃.heap.objs.size + 1) scope.names [] → h₁.IsCell c none ∧ s₃.heap.objs.size + 1 ≤ c) (hap : (cellsFrom (s₃.heap.objs.size + 1) scope.names []).Pairwise fun x y => x.2 ≠ y.2) :
    Inv X h₀ av1 (cenvOf scope env s₃.heap.objs.size) ρc none none h₁ := by
  have a3 := a.step x
  have V3 := V.step G a x
  have G1 : GOk X h₁ := x.ok.keeps hk
  have live1 : ∀ b, av1 b → Lv s₃.heap b := fun b q => (ha2 b q).elim (a3.live b) fun z => z.2
  have lt1 : ∀ b, av1 b → b < s₃.heap.objs.size := fun b q => let ⟨⟨o, e⟩, _⟩ := live1 b q; Heap.lt_size e
  have cells : ∀ y c, (cenvOf scope env s₃.heap.objs.size).cells.lookup y = some c → ((y, c) ∈ cellsFrom (s₃.heap.objs.size + 1) scope.names [] ∧ scope.names.lookup y = some .cell) ∨
      (scope.names.lookup y = some .free ∧ (y, NameKind.free) ∈ scope.names ∧ env.cells.lookup y = some c) := by
    intro y c h
    have h : (cellsFrom (s₃.heap.objs.size + 1) scope.names (closL env scope.names [])).lookup y = some c := h
    rw [cellsFrom_app, lookup_app] at h
    cases q : (cellsFrom (s₃.heap.objs.size + 1) scope.names []).lookup y with
    | some c' =>
      rw [q] at h
      cases h
      exact .inl ⟨mem_of_lookup q, (cellsFrom_kind _ _ _ hnd q).resolve_right (by simp)⟩
    | none =>
      rw [q] at h
      have h : (closL env scope.names []).lookup y = some c := h
      rw [closL_lk] at h
      split at h
      · rename_i hm
        refine .inr ⟨lk_of_mem hnd hm, hm, ?_⟩
        obtain ⟨⟨d, hd⟩, hk'⟩ := hclo.all hm
        rcases V.cl y d hd with k | ⟨_, c', v, hc, _⟩
        · rcases hk' with z | z <;> rw [k] at z <;> cases z
        · rw [hc] at h ⊢; exact h
      · cases h
  have free : ∀ y, (y, NameKind.free) ∈ scope.names → ∃ d c v, ρ.lookup y = some d ∧ env.cells.lookup y = some c ∧ (env.kindOf y = some .cell ∨ env.kindOf y = some .free) ∧ (env.kindOf y = some .cell → av c) ∧ s₃.heap.IsCell c (some v) ∧ R av s₃.heap v d ∧ s.heap.IsCell c (some v) := by
    intro y hm
    obtain ⟨⟨d, hd⟩, hk'⟩ := hclo.all hm
    rcases V.cl y d hd with k | ⟨k, c', v, hc, hav, hi, r⟩
    · rcases hk' with z | z <;> rw [k] at z <;> cases z
    · exact ⟨d, c', v, hd, hc, k, hav, let ⟨o, ho, hd⟩ := hi; ⟨o, x.ext _ o (cell_nt G hi) ho, hd⟩, r.step a x, hi⟩
  have fc : ∀ y, (y, NameKind.free) ∈ scope.names → ∀ c, (cenvOf scope env s₃.heap.objs.size).cells.lookup y = some c → env.cells.lookup y = some c := by
    intro y hm c h
    rcases cells y c h with ⟨_, q⟩ | ⟨_, _, q⟩
    · rw [lk_of_mem hnd hm] at q; cases q
    · exact q
  have kind : ∀ y, (cenvOf scope env s₃.heap.objs.size).kindOf y = (scope.names.lookup y).map fun k => if (k == NameKind.free && env.kindOf y == some .cell) then NameKind.cell else k := fun y => relabel_lk (scope := scope) V.fn
  have lkfree : ∀ y, (y, NameKind.free) ∈ scope.names → ∃ c, (cenvOf scope env s₃.heap.objs.size).cells.lookup y = some c ∧ env.cells.lookup y = some c := by
    intro y hm
    obtain ⟨d, c, v, _, hc, _⟩ := free y hm
    have : (cellsFrom (s₃.heap.objs.size + 1) scope.names (closL env scope.names [])).lookup y = some c := by
      rw [cellsFrom_app, lookup_app]
      cases q : (cellsFrom (s₃.heap.objs.size + 1) scope.names []).lookup y with
      | some c' =>
        have := (cellsFrom_kind _ _ _ hnd q).resolve_right (by simp)
        rw [lk_of_mem hnd hm] at this; cases this
      | none =>
        show (closL env scope.names []).lookup y = some c
        rw [closL_lk, if_pos hm, hc]; rfl
    exact ⟨c, this, hc⟩
  have fresh : ∀ b, AvB av1 (cenvOf scope env s₃.heap.objs.size) none b → av b ∨ s.heap.get? b = none := by
    have nn : ∀ b, s₃.heap.objs.size ≤ b → av b ∨ s.heap.get? b = none := fun b hb => by
      cases e : s.heap.get? b with
      | none => exact .inr rfl
      | some o =>
        by_cases t : tab b
        · exact .inl (a.tab b t)
        · exact (Nat.lt_irrefl _ (Nat.lt_of_lt_of_le (Heap.lt_size (x.ext b o t e)) hb)).elim
    rintro b (q | q | ⟨y, k, q⟩ | q)
    · exact (ha2 b q).imp id fun z => z.1
    · exact nn b (Nat.le_of_eq q.symm)
    · rcases cells y b q with ⟨h1, _⟩ | ⟨h1, h2, h3⟩
      · exact nn b (Nat.le_of_succ_le (hce y b h1).2)
      · rw [kind, h1] at k
        obtain ⟨d, c, v, _, hc, hk', hav, _⟩ := free y h2
        rw [hc] at h3; cases h3
        refine .inl (hav ?_)
        rcases hk' with z | z
        · exact z
        · rw [z] at k; simp at k
    · cases q
  have mv : ∀ {v : Value} {d : Mine.V}, R av s.heap v d → R (AvB av1 (cenvOf scope env s₃.heap.objs.size) none) h₁ v d := fun r => r.move (fun b o nb e => hk b o (x.ext b o (fun t => nb (a.tab b t)) e)) fresh
  refine ⟨G1, e2.trans (.of hk), G0.sz, ⟨fun b t => .inl (ha1 b (a.tab b t)), ?_⟩, ⟨?_, V.gl, V.bl, .inr (.inl rfl), ⟨_, hns, ?_⟩, ?_⟩, hsz, ?_, ?_, ?_, fun q => Nat.lt_irrefl _ (lt1 _ q), ?_, fun _ q => (nomatch q), trivial⟩
  · rintro b (q | q | ⟨y, k, q⟩ | q)
    · exact (live1 b q).keep fun o e => hk b o e
    · subst q; exact .ns hns
    · rcases cells y b q with ⟨h1, _⟩ | ⟨h1, h2, h3⟩
      · exact .cell (hce y b h1).1
      · obtain ⟨d, c, v, _, hc, _, _, hi, _⟩ := free y h2
        rw [hc] at h3; cases h3
        exact (Lv.cell hi).keep fun o e => hk _ o e
    · cases q
  · exact hkind
  · intro y d hy k
    obtain ⟨_, hm⟩ := hclo.of hy
    rw [kind, lk_of_mem hnd hm] at k
    obtain ⟨_, _, _, _, _, hk', _⟩ := free y hm
    rcases hk' with z | z <;> rw [z] at k <;> simp at k
  · intro y d hy
    obtain ⟨hd, hm⟩ := hclo.of hy
    obtain ⟨d', c, v, hd', hc, hk', hav, hi, r, hi0⟩ := free y hm
    obtain ⟨c', hc1, hc2⟩ := lkfree y hm
    rw [hc] at hc2; cases hc2
    rw [hd] at hd'; cases hd'
    refine .inr ⟨?_, c, v, hc1, fun k => ?_, let ⟨o, ho, hd⟩ := hi; ⟨o, hk _ o ho, hd⟩, ?_⟩
    · rw [kind, lk_of_mem hnd hm]
      rcases hk' with z | z
      · left; simp [z]
      · right; simp [z]
    · exact .inr (.inr (.inl ⟨y, k, hc1⟩))
    · obtain ⟨⟨d2, hd2⟩, _⟩ := hclo.all hm
      rcases V.cl y d hd with k | ⟨_, c2, v2, hc2, _, hi2, r2⟩
      · rcases hk' with z | z <;> rw [k] at z <;> cases z
      · rw [hc] at hc2; cases hc2
        obtain ⟨o1, g1, g2⟩ := hi0; obtain ⟨o2, g3, g4⟩ := hi2
        rw [g1] at g3; cases g3; rw [g2] at g4; injection g4 with g4; injection g4 with g4; subst g4
        exact mv r2
  · intro y c h
    rcases cells y c h with ⟨h1, h2⟩ | ⟨h1, h2, h3⟩
    · refine .inr ⟨(hce y c h1).2, ?_⟩
      rw [kind, h2]; rfl
    · obtain ⟨d, c', v, _, hc, _, _, _, _, hi⟩ := free y h2
      rw [hc] at h3; cases h3
      have := cell_nt G hi
      obtain ⟨o, e, _⟩ := hi
      exact .inl ⟨o, e1 _ o this e⟩
  · intro y c k h
    rcases cells y c h with ⟨h1, h2⟩ | ⟨h1, h2, h3⟩
    · exact ⟨_, (hce y c h1).1⟩
    · obtain ⟨d, c', v, _, hc, _, _, hi, _⟩ := free y h2
      rw [hc] at h3; cases h3
      exact ⟨_, let ⟨o, ho, hd⟩ := hi; ⟨o, hk _ o ho, hd⟩⟩
  · intro y z c h1 h2 hlt
    have own : ∀ y, (cenvOf scope env s₃.heap.objs.size).cells.lookup y = some c → (y, c) ∈ cellsFrom (s₃.heap.objs.size + 1) scope.names [] := fun y h => by
      rcases cells y c h with ⟨h1, _⟩ | ⟨_, h2, h3⟩
      · exact h1
      · obtain ⟨d, c', v, _, hc, _, _, hi, _⟩ := free y h2
        rw [hc] at h3; cases h3
        obtain ⟨o, e, _⟩ := hi
        exact (Nat.lt_irrefl _ (Nat.lt_trans hlt (Heap.lt_size e))).elim
    exact name_of_addr hap (own y h1) (own z h2)
  · intro y c _ hlt q
    exact Nat.lt_irrefl _ (Nat.lt_trans (lt1 c q) hlt)
end
end
section
noncomputable abbrev testsOf (ifs : List Expr) (env : Env) : Sem Bool := forIn ifs true fun c r => if r = true then do let ok ← isTrue c env (eval c env); pure (ForInStep.yield ok) else pure (ForInStep.yield r)
section
variable {prog : Program} {w : World} {A : Around} {E : Value → Shared → Prop} {R : Result → Shared → Prop} {s : Shared}
theorem codeAny_compLoop_gen {e : Expr} {depth : Nat} {target : Expr} {ifs : List Expr} {P : Pos} {it acc : Value} {env : Env} {emit : Sem Unit} {K : Sem Fin}
    (heq : compTurn e depth it acc env = (do
      standAt P
      match ← pyNext it with
      | none => pure (.done .next)
      | some v =>
        letOwnedTupleGo target it v
        PySem.assign target env v
        let ok ← testsOf ifs env
        if ok then K else again (.compLoop e depth it acc env))) (hK : K = (emit >>= fun _ => again (.compLoop e depth it acc env))) 
    (hd : (model prog w).den (.compLoop e depth it acc env) = (compTurn e depth it acc env).onRaise (fun x => do noteFrame x env; theTreesLotGoes x)) (hu : A.under (.compLoop e depth it acc env) = A) (hq : (Code.compLoop e depth it acc env).quiet = true)
    (I : Nat → Shared → Prop)
    (turn : ∀ n s, I n s → wpAny (model prog w) A (pyNext it) (fun r s₁ => match r with
      | none => R (.ok .next) s₁
      | some v => wpAny (model prog w) A (letOwnedTupleGo target it v) (fun _ s₁' => wpAny (model prog w) A (PySem.assign target env v) (fun _ s₂ =>
          wpAny (model prog w) A (testsOf ifs env) (fun ok s₃ =>
            if ok = true then wpAny (model prog w) A emit (fun _ s₅ => ∃ m, m < n ∧ I m s₅) (notedBy (model prog w) A env fun e s' => R (.error e) s') s₃
            else ∃ m, m < n ∧ I m s₃) (notedBy (model prog w) A env fun e s' => R (.error e) s') s₂) (notedBy (model prog w) A env fun e s' => R (.error e) s') s₁') (notedBy (model prog w) A env fun e s' => R (.error e) s') s₁) (notedBy (model prog w) A env fun e s' => R (.error e) s') s)
    (n : Nat) (h : I n s) : codeAny (model prog w) A (.compLoop e depth it acc env) R s := by
  refine codeAny_loop hq I (fun n s hI => ?_) n h
  rw [hu, hd]
  refine wpAny_noted ?_
  rw [heq]
  refine wpAny_bind (wpAny_standAt (wpAny_bind (wpAny_mono (turn n s hI) (fun r s₁ h₁ => ?_) fun _ _ h' => h')))
  cases r with
  | none => exact wpAny_pure h₁
  | some v =>
    refine wpAny_bind (wpAny_mono h₁ (fun _ s₁' h₁' => ?_) fun _ _ h' => h')
    refine wpAny_bind (wpAny_mono h₁' (fun _ s₂ h₂ => wpAny_bind (wpAny_mono h₂ (fun ok s₃ h₃ => ?_) fun _ _ h' => h')) fun _ _ h' => h')
    cases ok with
    | false => exact wpAny_pure ⟨rfl, h₃⟩
    | true => rw [hK]; exact wpAny_bind (wpAny_mono h₃ (fun _ s₅ h₅ => wpAny_pure ⟨rfl, h₅⟩) fun _ _ h' => h')
theorem turn1 (elt target iter : Expr) (ifs : List Expr) (scope : Scope) (pos : Pos) (it acc : Value) (env : Env) :
    compTurn (.ListComp elt [⟨target, iter, ifs, 0⟩] scope pos) 0 it acc env = (do
      standAt iter.pos
      match ← pyNext it with
      | none => pure (.done .next)
      | some v =>
        letOwnedTupleGo target it v
        PySem.assign target env v
        let ok ← testsOf ifs env
        if ok then (do let _ ← (do let _ ← call (.builtin "list.append") [acc, ← eval elt env]); again (.compLoop (.ListComp elt [⟨target, iter, ifs, 0⟩] scope pos) 0 it acc env)) else again (.compLoop (.ListComp elt [⟨target, iter, ifs, 0⟩] scope pos) 0 it acc env)) := by rfl
theorem turnIn (elt t1 i1 t2 i2 : Expr) (f1 f2 : List Expr) (scope : Scope) (pos : Pos) (it acc : Value) (env : Env) :
    compTurn (.ListComp elt [⟨t1, i1, f1, 0⟩, ⟨t2, i2, f2, 0⟩] scope pos) 1 it acc env = (do
      standAt i2.pos
      match ← pyNext it with
      | none => pure (.done .next)
      | some v =>
        letOwnedTupleGo t2 it v
        PySem.assign t2 env v
        let ok ← testsOf f2 env
        if ok then (do let _ ← (do let _ ← call (.builtin "list.append") [acc, ← eval elt env]); again (.compLoop (.ListComp elt [⟨t1, i1, f1, 0⟩, ⟨t2, i2, f2, 0⟩] scope pos) 1 it acc env)) else again (.compLoop (.ListComp elt [⟨t1, i1, f1, 0⟩, ⟨t2, i2, f2, 0⟩] scope pos) 1 it acc env)) := by rfl
noncomputable def emitIn (elt t1 i1 t2 i2 : Expr) (f1 f2 : List Expr) (scope : Scope) (pos : Pos) (env : Env) (acc : Value) : Sem Unit := do
  let x ← eval i2 env
  standAt i2.pos
  let x ← foldedSetIterable i2 env x
  let _ ← runOwn (.compStart (.ListComp elt [⟨t1, i1, f1, 0⟩, ⟨t2, i2, f2, 0⟩] scope pos) 1 (← holding [x] (pyIter x)) acc env) env
theorem turnOut (elt t1 i1 t2 i2 : Expr) (f1 f2 : List Expr) (scope : Scope) (pos : Pos) (it acc : Value) (env : Env) :
    compTurn (.ListComp elt [⟨t1, i1, f1, 0⟩, ⟨t2, i2, f2, 0⟩] scope pos) 0 it acc env = (do
      standAt i1.pos
      match ← pyNext it with
      | none => pure (.done .next)
      | some v =>
        letOwnedTupleGo t1 it v
        PySem.assign t1 env v
        let ok ← testsOf f1 env
        if ok then (do
            let x ← eval i2 env
            standAt i2.pos
            let x ← foldedSetIterable i2 env x
            let it2 ← holding [x] (pyIter x)
            let _ ← runOwn (.compStart (.ListComp elt [⟨t1, i1, f1, 0⟩, ⟨t2, i2, f2, 0⟩] scope pos) 1 it2 acc env) env
            again (.compLoop (.ListComp elt [⟨t1, i1, f1, 0⟩, ⟨t2, i2, f2, 0⟩] scope pos) 0 it acc env))
          else again (.compLoop (.ListComp elt [⟨t1, i1, f1, 0⟩, ⟨t2, i2, f2, 0⟩] scope pos) 0 it acc env)) := by
  rfl
theorem keyOut (elt t1 i1 t2 i2 : Expr) (f1 f2 : List Expr) (scope : Scope) (pos : Pos) (it acc : Value) (env : Env) :
    (do
            let x ← eval i2 env
            standAt i2.pos
            let x ← foldedSetIterable i2 env x
            let it2 ← holding [x] (pyIter x)
            let _ ← runOwn (.compStart (.ListComp elt [⟨t1, i1, f1, 0⟩, ⟨t2, i2, f2, 0⟩] scope pos) 1 it2 acc env) env
            again (.compLoop (.ListComp elt [⟨t1, i1, f1, 0⟩, ⟨t2, i2, f2, 0⟩] scope pos) 0 it acc env)) = 
    (emitIn elt t1 i1 t2 i2 f1 f2 scope pos env acc >>= fun _ => again (.compLoop (.ListComp elt [⟨t1, i1, f1, 0⟩, ⟨t2, i2, f2, 0⟩] scope pos) 0 it acc env)) := by
  simp only [emitIn, bind_assoc, pure_bind]
end
section
variable {X : Cx} {n : Nat} {env : Env} {ρ : List (Str × V)} {ω : Option Own} {hb : Heap} {av0 : Addr → Prop} {oa : Option Addr}
structure Chg (env : Env) (T : List Addr) (s s' : Shared) : Prop where
  eq : ∃ h' tk, s' = { s with heap := h', toks := tk }
  kp : ∀ b o, b ∉ T → ¬ Mut env none b → s.heap.get? b = some o → s'.heap.get? b = some o
theorem Chg.trans {T : List Addr} {s₁ s₂ s₃ : Shared} (x : Chg env T s₁ s₂) (y : Chg env T s₂ s₃) : Chg env T s₁ s₃ :=
  ⟨by obtain ⟨h, t, rfl⟩ := x.eq; obtain ⟨h', t', rfl⟩ := y.eq; exact ⟨h', t', rfl⟩, fun b o n m e => y.kp b o n m (x.kp b o n m e)⟩
theorem Chg.refl {T : List Addr} (s : Shared) : Chg env T s s := ⟨⟨s.heap, s.toks, rfl⟩, fun _ _ _ _ e => e⟩
theorem Chg.of {T : List Addr} {s s' : Shared} (x : Same env none s s') : Chg env T s s' := ⟨x.eq, fun b o _ n e => x.kp b o n e⟩
theorem Chg.tch {T wr : List Addr} {s s' : Shared} (x : Tch wr s s') (hw : ∀ b ∈ wr, b ∈ T) : Chg env T s s' := ⟨x.eq, fun b o n _ e => x.kp b o (fun q => n (hw b q)) e⟩
theorem Chg.mono {T T' : List Addr} {s s' : Shared} (x : Chg env T s s') (h : ∀ b ∈ T, b ∈ T') : Chg env T' s s' := ⟨x.eq, fun b o n m e => x.kp b o (fun q => n (h b q)) m e⟩
structure Acc (X : Cx) (hb : Heap) (av1 : Addr → Prop) (env : Env) (ρ : List (Str × V)) (D : Addr) (L : List V) (h : Heap) : Prop where
  inv : Inv X hb av1 env ρ none none h
  av : av1 D
  new : hb.get? D = none
  big : X.S.objs.size ≤ D
  ls : ∃ ys : List Value, h.PlainList D ys.toArray ∧ Rs (AvB av1 env none) h ys L
structure GmOk (T : List Addr) (Γ : (Addr → Prop) → List V → Heap → Prop) : Prop where
  mv : ∀ {av av' : Addr → Prop} {L : List V} {h h' : Heap}, Γ av L h → (∀ b o, (b ∈ T ∨ ¬ av b) → h.get? b = some o → h'.get? b = some o) → (∀ b, av' b → av b ∨ b ∈ T ∨ h.get? b = none) → Γ av' L h'
  lv : ∀ {av : Addr → Prop} {L : List V} {h : Heap}, Γ av L h → ∀ b ∈ T, Lv h b
noncomputable abbrev noGm : (Addr → Prop) → List V → Heap → Prop := fun _ _ _ => True
theorem GmOk.none : GmOk [] noGm := ⟨fun _ _ _ => trivial, fun _ _ q => nomatch q⟩
noncomputable def OffE (env : Env) (a : Addr) : Prop := env.locals ≠ a ∧ ∀ y c, env.cells.lookup y = some c → c ≠ a
structure EmX (X : Cx) (n : Nat) (env : Env) (ρ : List (Str × V)) (T : List Addr) (Γ : (Addr → Prop) → List V → Heap → Prop) (emit : Value → Sem Unit) (L ds : List V) : Prop where
  run : ∀ (A : Around) (E : Value → Shared → Prop) (s : Shared) (hb : Heap) (av1 : Addr → Prop) (D : Addr), Bud n A → Acc X hb av1 env ρ D L s.heap → (∀ b ∈ T, av1 b ∧ hb.get? b = none ∧ X.S.objs.size ≤ b ∧ OffE env b ∧ b ≠ D) → Γ (AvB av1 env none) L s.heap → (L ++ ds).length ≤ 1000 →
    wpAny (MX X) A (emit (.ref D)) (fun _ s' => Chg env (D :: T) s s' ∧ Acc X hb av1 env ρ D (L ++ ds) s'.heap ∧ Γ (AvB av1 env none) (L ++ ds) s'.heap) E s
noncomputable abbrev EmJ (X : Cx) (n : Nat) (env : Env) (ρ : List (Str × V)) (emit : Value → Sem Unit) (ds : List V) : Prop := ∀ L, EmX X n env ρ [] noGm emit L ds
theorem Acc.ntab {av1 : Addr → Prop} {D : Addr} {L : List V} {h : Heap} (c : Acc X hb av1 env ρ D L h) : ¬ tab D := fun t => Nat.lt_irrefl _ (Nat.lt_of_lt_of_le (X.tab_lt t) c.big)
theorem Acc.nmut {av1 : Addr → Prop} {D : Addr} {L : List V} {h : Heap} (c : Acc X hb av1 env ρ D L h) : ¬ Mut env none D := c.inv.nmut D c.av c.ntab
theorem Acc.chg {av1 : Addr → Prop} {D : Addr} {L : List V} {s s' : Shared} {ρ' : List (Str × V)} (c : Acc X hb av1 env ρ D L s.heap) (x : Same env none s s') (I : Inv X hb av1 env ρ' none none s'.heap) : Acc X hb av1 env ρ' D L s'.heap :=
  ⟨I, c.av, c.new, c.big, let ⟨ys, h1, h2⟩ := c.ls; ⟨ys, h1.at fun o e => x.kp D o c.nmut e, h2.move (fun b o nb e => x.kp b o (fun q => nb (c.inv.mut b q)) e) fun _ q => .inl q⟩⟩
theorem Acc.tch {av1 : Addr → Prop} {D : Addr} {L : List V} {wr : List Addr} {s s' : Shared} (c : Acc X hb av1 env ρ D L s.heap) (x : Tch wr s s') (hT : ∀ b ∈ wr, av1 b ∧ X.S.objs.size ≤ b ∧ hb.get? b = none ∧ Lv s'.heap b) (hD : D ∉ wr) : Acc X hb av1 env ρ D L s'.heap :=
  ⟨c.inv.touch x hT, c.av, c.new, c.big, let ⟨ys, h1, h2⟩ := c.ls; ⟨ys, h1.at fun o e => x.kp D o hD e, h2.move (fun b o nb e => x.kp b o (fun q => nb (.inl (hT b q).1)) e) fun _ q => .inl q⟩⟩
theorem EmJ.elt {elt : Expr} {d : V} (h : EvJ X n env ρ elt d) : EmJ X n env ρ (fun acc => do let _ ← call (.builtin "list.append") [acc, ← eval elt env]) [d] := fun L =>
  .mk fun A E s hb av1 D b c _ _ hsz => by
    refine wpAny_bind (wpAny_mono (h.run A E s _ b c.inv.ok c.inv.avk c.inv.en) (fun v s₁ q => ?_) fun _ _ e => e)
    have c1 := c.chg q.1.same (c.inv.step q.1)
    obtain ⟨ys, h1, h2⟩ := c1.ls
    refine wpAny_bind (wpAny_list_append_plain h1 (fun h' hl hs => wpAny_pure ?_) (by rw [List.size_toArray, h2.length, sizeLine_eq]; simp at hsz; k_data))
    have t : Tch [D] s₁ { s₁ with heap := h' } := ⟨⟨h', s₁.toks, rfl⟩, fun b o n e => (hs.2 b (by simpa using n)).trans e, fun b q => by cases List.mem_singleton.mp q; exact .list h1.isList⟩
    have al : ∀ b ∈ [D], Lv h' b := fun b q => by
      cases List.mem_singleton.mp q
      exact .list hl.isList
    have I' := c1.inv.touch t fun b q => by
      cases List.mem_singleton.mp q
      exact ⟨c.av, c.big, c.new, al _ q⟩
    refine ⟨(Chg.of q.1.same).trans (Chg.tch t (fun _ q => q)), ⟨I', c.av, c.new, c.big, ys ++ [v], ?_, ?_⟩, trivial⟩
    · simpa using hl
    · have mv : ∀ b o, ¬ AvB av1 env none b → s₁.heap.get? b = some o → h'.get? b = some o := fun b o nb e => (hs.2 b (fun q => nb (.inl (q ▸ c.av)))).trans e
      exact (h2.move mv fun _ q => .inl q).snoc (q.2.move mv fun _ q => .inl q)
structure BdX (X : Cx) (n : Nat) (env : Env) (ρ : List (Str × V)) (T : List Addr) (Γ : (Addr → Prop) → List V → Heap → Prop) (target : Expr) (ifs : List Expr) (emit : Value → Sem Unit) (L : List V) (d : V) (ys : List V) : Prop where
  ex : ∃ ρ₁ b, TgJ X env none target d ρ ρ₁ ∧ (∀ x d, ρ.lookup x = some d → ρ₁.lookup x = some d) ∧ TsJ X n env ρ₁ ifs b ∧ (b = true → EmX X n env ρ₁ T Γ emit L ys) ∧ (b = false → ys = [])
inductive BdsX (X : Cx) (n : Nat) (env : Env) (ρ : List (Str × V)) (T : List Addr) (Γ : (Addr → Prop) → List V → Heap → Prop) (target : Expr) (ifs : List Expr) (emit : Value → Sem Unit) : List V → List V → List V → Prop
  | nil {L} : BdsX X n env ρ T Γ target ifs emit L [] []
  | cons {L d ds ys zs} : BdX X n env ρ T Γ target ifs emit L d ys → BdsX X n env ρ T Γ target ifs emit (L ++ ys) ds zs → BdsX X n env ρ T Γ target ifs emit L (d :: ds) (ys ++ zs)
noncomputable def BdJ (X : Cx) (n : Nat) (env : Env) (ρ : List (Str × V)) (target : Expr) (ifs : List Expr) (emit : Value → Sem Unit) (d : V) (ys : List V) : Prop :=
  ∃ ρ₁ b, TgJ X env none target d ρ ρ₁ ∧ (∀ x d, ρ.lookup x = some d → ρ₁.lookup x = some d) ∧ TsJ X n env ρ₁ ifs b ∧ (b = true → EmJ X n env ρ₁ emit ys) ∧ (b = false → ys = [])
noncomputable abbrev BdsJ (X : Cx) (n : Nat) (env : Env) (ρ : List (Str × V)) (target : Expr) (ifs : List Expr) (emit : Value → Sem Unit) (ds zs : List V) : Prop := ∀ L, BdsX X n env ρ [] noGm target ifs emit L ds zs
theorem Acc.weak {ρ' : List (Str × V)} {av1 : Addr → Prop} {D : Addr} {L : List V} {h : Heap} (c : Acc X hb av1 env ρ D L h) (w : ∀ x d, ρ'.lookup x = some d → ρ.lookup x = some d) : Acc X hb av1 env ρ' D L h := ⟨c.inv.weak w, c.av, c.new, c.big, c.ls⟩
theorem comp_loop {e : Expr} {depth : Nat} {target : Expr} {ifs : List Expr} {P : Pos} {Ia D : Addr} {emit : Value → Sem Unit} {A : Around} {ds zs L : List V} {av av1 : Addr → Prop} {wr : List Addr} {h₀ : Heap} {St : Nat → Heap → Prop} {s : Shared} {K : Sem Fin} {T : List Addr} {Γ : (Addr → Prop) → List V → Heap → Prop}
    (b : Bud n A) (W : Walk X A target Ia h₀ av wr ds St)
    (heq : compTurn e depth (.ref Ia) (.ref D) env = (do
      standAt P
      match ← pyNext (.ref Ia) with
      | none => pure (.done .next)
      | some v =>
        letOwnedTupleGo target (.ref Ia) v
        PySem.assign target env v
        let ok ← testsOf ifs env
        if ok then K else again (.compLoop e depth (.ref Ia) (.ref D) env))) (hK : K = (emit (.ref D) >>= fun _ => again (.compLoop e depth (.ref Ia) (.ref D) env)))
    (hd : (model Prog X.w).den (.compLoop e depth (.ref Ia) (.ref D) env) = (compTurn e depth (.ref Ia) (.ref D) env).onRaise (fun x => do noteFrame x env; theTreesLotGoes x)) (hu : A.under (.compLoop e depth (.ref Ia) (.ref D) env) = A)
    (hq : (Code.compLoop e depth (.ref Ia) (.ref D) env).quiet = true)
    (st0 : St 0 s.heap) (hbd : BdsX X n env ρ T Γ target ifs emit L ds zs) (gm : GmOk T Γ) (hT : ∀ b ∈ T, av1 b ∧ hb.get? b = none ∧ X.S.objs.size ≤ b ∧ OffE env b ∧ b ≠ D ∧ b ∉ wr) (g0 : Γ (AvB (fun b => av1 b ∨ b ∈ wr) env none) L s.heap) (c : Acc X hb (fun b => av1 b ∨ b ∈ wr) env ρ D L s.heap) (haD : av1 D) (htab : ∀ b, tab b → av1 b) (hna : ∀ b ∈ wr, ¬ av1 b) (off0 : Off av h₀ s.heap) (hwr : ∀ b ∈ wr, hb.get? b = none) (hD : D ∉ wr)
    (hav : ∀ b, AvB (fun b => av1 b ∨ b ∈ wr) env none b → av b ∨ h₀.get? b = none) (G0 : GOk X h₀) (hlen : (L ++ zs).length ≤ 1000) {R : Result → Shared → Prop}
    (hR : ∀ s', Chg env (D :: (T ++ wr)) s s' → Acc X hb av1 env ρ D (L ++ zs) s'.heap → Γ (AvB av1 env none) (L ++ zs) s'.heap → R (.ok .next) s') : codeAny (MX X) A (.compLoop e depth (.ref Ia) (.ref D) env) R s := by
  have tb : ∀ b ∈ wr, ¬ tab b := fun b q t => Nat.lt_irrefl _ (Nat.lt_of_lt_of_le (X.tab_lt t) (Nat.le_trans G0.sz (W.fresh b q)))
  have offC : ∀ {T : List Addr} {s₃ s₄ : Shared} {ρ'}, Inv X hb (fun b => av1 b ∨ b ∈ wr) env ρ' none none s₃.heap → Off av h₀ s₃.heap → Chg env T s₃ s₄ → (∀ b ∈ T, av1 b ∨ b ∈ wr) → Off av h₀ s₄.heap := fun I z y hT b o nb e =>
    y.kp b o (fun q => (hav b (.inl (hT b q))).elim nb fun z => by rw [z] at e; cases e) (fun q => (hav b (I.mut b q)).elim nb fun z => by rw [z] at e; cases e) (z b o nb e)
  have stC : ∀ {T : List Addr} {s₃ s₄ : Shared} {ρ' i}, Inv X hb (fun b => av1 b ∨ b ∈ wr) env ρ' none none s₃.heap → St i s₃.heap → Off av h₀ s₃.heap → Off av h₀ s₄.heap → Chg env T s₃ s₄ → (∀ b ∈ wr, b ∉ T) → St i s₄.heap := fun I st z z' y hT =>
    W.frame _ _ _ st z z' fun b q o e => y.kp b o (hT b q) (I.nmut b (.inr q) (tb b q)) e
  have tc : ∀ {s₃ s₄ : Shared}, Tch wr s₃ s₄ → Chg env wr s₃ s₄ := fun t => Chg.tch t (fun _ q => q)
  have touch : ∀ {L' : List V} {s₃ s₄ : Shared}, Acc X hb (fun b => av1 b ∨ b ∈ wr) env ρ D L' s₃.heap → Tch wr s₃ s₄ → (∀ b ∈ wr, Lv s₄.heap b) → Acc X hb (fun b => av1 b ∨ b ∈ wr) env ρ D L' s₄.heap := fun c t l =>
    c.tch t (fun b q => ⟨.inr q, Nat.le_trans G0.sz (W.fresh b q), hwr b q, l b q⟩) hD
  have wT : ∀ b ∈ wr, b ∈ D :: (T ++ wr) := fun _ q => List.mem_cons_of_mem _ (List.mem_append_right _ q)
  have dT : ∀ b ∈ D :: T, b ∈ D :: (T ++ wr) := fun b q => (List.mem_cons.mp q).elim (fun q => q ▸ .head _) fun q => List.mem_cons_of_mem _ (List.mem_append_left _ q)
  have nT : ∀ b ∈ T, ¬ Mut env none b := fun b q m => m.elim (X.ntab (hT b q).2.2.1) fun m => m.elim (fun m => (hT b q).2.2.2.1.1 m.symm) fun m => m.elim (fun ⟨_, y, m⟩ => (hT b q).2.2.2.1.2 y b m rfl) fun m => nomatch m
  have gT : ∀ {L' : List V} {s₃ s₄ : Shared}, Γ (AvB (fun b => av1 b ∨ b ∈ wr) env none) L' s₃.heap → Tch wr s₃ s₄ → Γ (AvB (fun b => av1 b ∨ b ∈ wr) env none) L' s₄.heap := fun g t =>
    gm.mv g (fun b o q e => t.kp b o (fun z => q.elim (fun q => (hT b q).2.2.2.2.2 z) fun q => q (.inl (.inr z))) e) fun _ q => .inl q
  have gS : ∀ {L' : List V} {s₃ s₄ : Shared} {ρ'}, Inv X hb (fun b => av1 b ∨ b ∈ wr) env ρ' none none s₃.heap → Γ (AvB (fun b => av1 b ∨ b ∈ wr) env none) L' s₃.heap → Chg env [] s₃ s₄ → Γ (AvB (fun b => av1 b ∨ b ∈ wr) env none) L' s₄.heap := fun I g y =>
    gm.mv g (fun b o q e => y.kp b o (fun z => nomatch z) (fun m => q.elim (fun q => nT b q m) fun q => q (I.mut b m)) e) fun _ q => .inl q
  obtain ⟨Φ, toΦ, ofΦ⟩ := opq2 fun (k : Nat) (s' : Shared) => ∃ i L' zs', St i s'.heap ∧ BdsX X n env ρ T Γ target ifs emit L' (ds.drop i) zs' ∧ L' ++ zs' = L ++ zs ∧ Acc X hb (fun b => av1 b ∨ b ∈ wr) env ρ D L' s'.heap ∧ Off av h₀ s'.heap ∧ Chg env (D :: (T ++ wr)) s s' ∧ Γ (AvB (fun b => av1 b ∨ b ∈ wr) env none) L' s'.heap ∧ i ≤ ds.length ∧ k = ds.length + 1 - i
  refine codeAny_compLoop_gen heq hK hd hu hq Φ ?_ (ds.length + 1) (toΦ _ _ ⟨0, L, zs, st0, hbd, rfl, c, off0, .refl s, g0, Nat.zero_le _, rfl⟩)
  intro k s' hk
  replace hk := ofΦ _ _ hk
  obtain ⟨i, L', zs', st', hbd', hL, c', off', ch', g', hi, rfl⟩ := hk
  cases hdd : ds.drop i with
  | nil =>
    have hin : i = ds.length := Nat.le_antisymm hi (by simpa using hdd)
    subst hin
    rw [hdd] at hbd'
    cases hbd'
    refine wpAny_mono (W.done s' _ st' off') (fun r s₃ q => ?_) fun _ _ e => e
    obtain ⟨rfl, t⟩ := q
    rw [List.append_nil] at hL
    subst hL
    obtain ⟨ys, p1, p2⟩ := c'.ls
    refine hR s₃ (ch'.trans ((tc t).mono wT)) ⟨c'.inv.drop t (fun b q => ⟨Nat.le_trans G0.sz (W.fresh b q), hwr b q, hna b q⟩) htab, haD, c'.new, c'.big, ys, p1.at fun o e => t.kp D o hD e,
      p2.move (fun b o nb e => t.kp b o (fun q => nb (.inl (.inr q))) e) fun b q => .inl (q.mono fun _ => .inl)⟩ (gm.mv (gT g' t) (fun _ _ _ e => e) fun b q => .inl (q.mono fun _ => .inl))
  | cons d rest =>
    have hdi : ds[i]? = some d := by rw [← List.head?_drop, hdd]; rfl
    have hlt : i < ds.length := (List.getElem?_eq_some_iff.mp hdi).1
    have hrest : rest = ds.drop (i + 1) := by rw [← List.tail_drop, hdd]; rfl
    rw [hdd] at hbd'
    cases hbd' with
    | @cons _ _ _ ys zs1 hbx hbr =>
      obtain ⟨ρ₁, bt, htg, hwk, hts, hem, hno⟩ := hbx.ex
      refine wpAny_mono (W.item i d s' _ _ (notedBy (MX X) A env fun e s' => R (.error e) s') hdi st' off' c'.inv.avk hav) (fun r s₃ q => ?_) fun _ _ e => e
      obtain ⟨v, rfl, q⟩ := q
      refine wpAny_mono q (fun _ s₄ q => ?_) fun _ _ e => e
      obtain ⟨st4, t, r⟩ := q
      have l4 := W.live _ _ st4
      have c4 := touch c' t l4
      have off4 := offC c'.inv off' (tc t) fun b q => .inr q
      have ch4 := ch'.trans ((tc t).mono wT)
      have g4 := gT g' t
      refine wpAny_mono (htg.run A _ s₄ hb _ none v b.hh c4.inv r) (fun _ s₅ q5 => ?_) fun _ _ e => e
      have y5 : Chg env [] s₄ s₅ := .of q5.1
      have c5 := c4.chg q5.1 q5.2
      have g5 := gS c4.inv g4 y5
      have off5 := offC c4.inv off4 y5 (fun _ q => nomatch q)
      have st5 := stC c4.inv st4 off4 off5 y5 (fun _ _ q => nomatch q)
      refine wpAny_mono (hts.run A _ s₅ _ b c5.inv.ok c5.inv.avk c5.inv.en) (fun ok s₆ q6 => ?_) fun _ _ e => e
      have y6 : Chg env [] s₅ s₆ := .of q6.1.same
      have c6 := c5.chg q6.1.same (c5.inv.step q6.1)
      have g6 := gS c5.inv g5 y6
      have off6 := offC c5.inv off5 y6 (fun _ q => nomatch q)
      have st6 := stC c5.inv st5 off5 off6 y6 (fun _ _ q => nomatch q)
      have ch6 := (ch4.trans (y5.mono fun _ q => nomatch q)).trans (y6.mono fun _ q => nomatch q)
      obtain ⟨_, rfl⟩ := q6
      cases ok with
      | false =>
        have := hno rfl
        subst this
        exact ⟨ds.length + 1 - (i + 1), by k_data, toΦ _ _ ⟨i + 1, L', zs1, st6, hrest ▸ (by simpa using hbr), by simpa using hL, c6.weak hwk, off6, ch6, g6, hlt, rfl⟩⟩
      | true =>
        have hl : (L' ++ ys).length ≤ 1000 := by
          rw [← hL] at hlen; simp only [List.length_append] at hlen ⊢; k_data
        refine wpAny_mono ((hem rfl).run A _ s₆ hb _ D b c6 (fun b q => ⟨.inl (hT b q).1, (hT b q).2.1, (hT b q).2.2.1, (hT b q).2.2.2.1, (hT b q).2.2.2.2.1⟩) g6 hl) (fun _ s₇ q7 => ?_) fun _ _ e => e
        have off7 := offC c6.inv off6 q7.1 (fun b q => (List.mem_cons.mp q).elim (fun q => q ▸ c.av) fun q => .inl (hT b q).1)
        have st7 := stC c6.inv st6 off6 off7 q7.1 (fun b q h => (List.mem_cons.mp h).elim (fun h => hD (h ▸ q)) fun h => (hT b h).2.2.2.2.2 q)
        exact ⟨ds.length + 1 - (i + 1), by k_data, toΦ _ _ ⟨i + 1, L' ++ ys, zs1, st7, hrest ▸ hbr, by simpa using hL, q7.2.1.weak hwk, off7, ch6.trans (q7.1.mono dT), q7.2.2, hlt, rfl⟩⟩
end
end
section
section
variable {X : Cx} {n : Nat} {env : Env} {ρ : List (Str × V)} {ω : Option Own} {hb : Heap} {av0 : Addr → Prop} {oa : Option Addr}
structure Fin1 (X : Cx) (av : Addr → Prop) (zs : List V) (s : Shared) (D C : Addr) (s' : Shared) : Prop where
  stp : Stp X s s'
  ns : ∃ m, s'.heap.Ns C m
  newC : X.S.objs.size ≤ C ∧ s.heap.get? C = none
  ne : D ≠ C
  res : R (fun b => av b ∨ b = C) s'.heap (.ref D) (.list zs)
structure StpT (X : Cx) (T : List Addr) (s s' : Shared) : Prop where
  eq : ∃ h' tk, s' = { s with heap := h', toks := tk }
  kp : ∀ b o, ¬ tab b → b ∉ T → s.heap.get? b = some o → s'.heap.get? b = some o
  lv : ∀ b ∈ T, Lv s'.heap b
  ok : GOk X s'.heap
structure FinT (X : Cx) (av : Addr → Prop) (T : List Addr) (Γ : (Addr → Prop) → List V → Heap → Prop) (zs : List V) (s : Shared) (D C : Addr) (s' : Shared) : Prop where
  stp : StpT X T s s'
  ns : ∃ m, s'.heap.Ns C m
  newC : X.S.objs.size ≤ C ∧ s.heap.get? C = none
  ne : D ≠ C
  res : R (fun b => av b ∨ b = C) s'.heap (.ref D) (.list zs)
  gh : Γ (fun b => av b ∨ b = C) zs s'.heap
theorem FinT.to1 {X : Cx} {av : Addr → Prop} {zs : List V} {s : Shared} {D C : Addr} {s' : Shared} (f : FinT X av [] noGm zs s D C s') : Fin1 X av zs s D C s' :=
  ⟨⟨f.stp.eq, fun b o t e => f.stp.kp b o t (fun q => nomatch q) e, f.stp.ok⟩, f.ns, f.newC, f.ne, f.res⟩
theorem Inv.hide {T : List Addr} {h : Heap} (I : Inv X hb av0 env ρ none none h) (hc : ∀ b ∈ T, OffE env b) : Inv X (hideAll hb T) av0 env ρ none none h :=
  ⟨I.ok, fun b o t e => I.ext b o t (of_hideAll T e), by rw [hideAll_size]; exact I.base, I.avk, I.en, by rw [hideAll_size]; exact I.fl, fun y c h => (I.cs y c h).imp (fun ⟨o, e⟩ => ⟨o, hideAll_get T e fun q => (hc c q).2 y c h rfl⟩) id, I.fc, I.ap, I.d1, I.d2, I.d3, trivial⟩
theorem offComp {T : List Addr} {scope : Scope} {ρc : List (Str × V)} {av : Addr → Prop} {h : Heap} {C b : Addr} (VV : EnvOk X av env ρ h) (hclo : CloOk env ρ scope.names ρc) (hlt : @LT.lt Nat _ b C) (hce : ∀ n c, (n, c) ∈ cellsFrom (C + 1) scope.names [] → @LE.le Nat _ (C + 1) c) (hb : OffE env b) : OffE (cenvOf scope env C) b := by
  refine ⟨fun q => Nat.lt_irrefl _ (q ▸ hlt), fun y c hc q => ?_⟩
  rw [q] at hc
  have hc : (cellsFrom (C + 1) scope.names (closL env scope.names [])).lookup y = some b := hc
  rw [cellsFrom_app, lookup_app] at hc
  cases q : (cellsFrom (C + 1) scope.names []).lookup y with
  | some c' =>
    rw [q] at hc; cases hc
    exact Nat.lt_irrefl _ (Nat.lt_trans hlt (hce y b (mem_of_lookup q)))
  | none =>
    rw [q] at hc
    have hc : (closL env scope.names []).lookup y = some b := hc
    rw [closL_lk] at hc
    split at hc
    · rename_i hm
      obtain ⟨⟨d, hd⟩, hk'⟩ := hclo.all hm
      rcases VV.cl y d hd with k2 | ⟨_, c', v, hc', _⟩
      · rcases hk' with z | z <;> rw [k2] at z <;> cases z
      · rw [hc'] at hc
        have hc : c' = b := Option.some.inj hc
        exact hb.2 y c' hc' hc
    · cases hc
theorem sz_of {X : Cx} {s s' : Shared} (G : GOk X s.heap) (x : Stp X s s') (b : Addr) (h : s'.heap.get? b = none) (t : ¬ tab b) : s.heap.get? b = none := by
  cases e : s.heap.get? b with
  | none => rfl
  | some o => rw [x.ext b o t e] at h; cases h
theorem compCell {scope : Scope} {ρc : List (Str × V)} {av : Addr → Prop} {h h₀ h₁ : Heap} {C : Addr} (VV : EnvOk X av env ρ h) (hclo : CloOk env ρ scope.names ρc) (hnd : (scope.names.map (·.1)).Nodup) (hsz : h₀.objs.size ≤ C)
    (hce : ∀ n c, (n, c) ∈ cellsFrom (C + 1) scope.names [] → h₁.IsCell c none ∧ C + 1 ≤ c) {y : Str} {b : Addr} (k : (cenvOf scope env C).kindOf y = some .cell) (q : (cenvOf scope env C).cells.lookup y = some b) : av b ∨ h₀.get? b = none := by
  have h : (cellsFrom (C + 1) scope.names (closL env scope.names [])).lookup y = some b := q
  rw [cellsFrom_app, lookup_app] at h
  cases q : (cellsFrom (C + 1) scope.names []).lookup y with
  | some c' =>
    rw [q] at h
    cases h
    exact .inr (Heap.get?_none_of_le (Nat.le_trans hsz (Nat.le_of_succ_le (hce _ _ (mem_of_lookup q)).2)))
  | none =>
    rw [q] at h
    have h : (closL env scope.names []).lookup y = some b := h
    rw [closL_lk] at h
    split at h
    · rename_i hm
      have k : (relabel scope env).names.lookup y = some .cell := k
      unfold relabel at k
      rw [show (_ : List (Str × NameKind)).lookup y = _ from relabel_lk (scope := scope) VV.fn, lk_of_mem hnd hm] at k
      obtain ⟨⟨d, hd⟩, hk'⟩ := hclo.all hm
      have kc : env.kindOf y = some .cell := by
        rcases hk' with z | z
        · exact z
        · rw [z] at k; simp at k
      rcases VV.cl y d hd with k2 | ⟨_, c', v, hc, hav, _⟩
      · rw [kc] at k2; cases k2
      · rw [hc] at h
        cases h
        exact .inl (hav kc)
    · cases h
theorem comp_core {elt target iter : Expr} {ifs : List Expr} {rest : List Comprehension} {scope : Scope} {pos : Pos} {ds zs : List V} {ρc : List (Str × V)} {emit : Env → Value → Sem Unit} {K : Env → Value → Value → Sem Fin} {A : Around} {E : Value → Shared → Prop} {s : Shared} {av : Addr → Prop} {T : List Addr} {Γ : (Addr → Prop) → List V → Heap → Prop}
    (b : Bud n A) (G : GOk X s.heap) (a : AvOk X av s.heap) (VV : EnvOk X av env ρ s.heap) (gm : GmOk T Γ) (hT : ∀ b ∈ T, av b ∧ X.S.objs.size ≤ b ∧ OffE env b) (g0 : Γ av [] s.heap) (RR : Value → Addr → Result → Shared → Prop)
    (hw : WkJ X n env ρ target iter ds) (hclo : CloOk env ρ scope.names ρc) (hnd : (scope.names.map (·.1)).Nodup) (hkind : scope.kind = .function)
    (hbd : ∀ C, BdsX X n (cenvOf scope env C) ρc T Γ target ifs (emit (cenvOf scope env C)) [] ds zs) (hlen : zs.length ≤ 1000)
    (heq : ∀ it acc env, compTurn (.ListComp elt (⟨target, iter, ifs, 0⟩ :: rest) scope pos) 0 it acc env = (do
      standAt iter.pos
      match ← pyNext it with
      | none => pure (.done .next)
      | some v =>
        letOwnedTupleGo target it v
        PySem.assign target env v
        let ok ← testsOf ifs env
        if ok then K env it acc else again (.compLoop (.ListComp elt (⟨target, iter, ifs, 0⟩ :: rest) scope pos) 0 it acc env))) 
    (hK : ∀ env it acc, K env it acc = (emit env acc >>= fun _ => again (.compLoop (.ListComp elt (⟨target, iter, ifs, 0⟩ :: rest) scope pos) 0 it acc env)))
    (hRR : ∀ D C s', FinT X av T Γ zs s D C s' → RR (.ref D) C (.ok .next) s') :
    wpAny (MX X) A (eval iter env) (fun xv s₁ => wpAny (MX X) A (pyIter xv) (fun it s₂ => wpAny (MX X) A (newList []) (fun acc s₃ =>
      wpAny (MX X) A (newFunctionEnv scope env.globals (closL env scope.names []) [] env.qual none .none (some env)) (fun cenv s₄ =>
        codeAny (MX X) A (.compStart (.ListComp elt (⟨target, iter, ifs, 0⟩ :: rest) scope pos) 0 it acc { cenv with scope := relabel scope env }) (RR acc cenv.locals) s₄) E s₃) E s₂) E s₁) E s := by
  refine wpAny_mono (hw.run A E s av b G a VV) (fun xv s₁ h₁ => wpAny_mono h₁ (fun it s₂ h₂ => ?_) fun _ _ e => e) fun _ _ e => e
  obtain ⟨x, Ia, h₀, wr, St, rfl, e1, e2, G0, hsz, W, st0⟩ := h₂
  refine wpAny_newObj_type ?_
  generalize hs3 : ({ s₂ with heap := s₂.heap.push { cls := .type "list", dict := none, data := .seq ([] : List Value).toArray } } : Shared) = s₃
  have p3 : Stp X s₂ s₃ := hs3 ▸ .push x.ok
  have z3 : s₃.heap.objs.size = s₂.heap.objs.size + 1 := by rw [← hs3]; exact Heap.size_push ..
  have hD3 : s₃.heap.PlainList s₂.heap.objs.size #[] := by rw [← hs3]; exact ⟨_, Heap.get?_push_size _ rfl⟩
  have x3 := x.trans p3
  have tb : ∀ b ∈ wr, ¬ tab b := fun b q t => Nat.lt_irrefl _ (Nat.lt_of_lt_of_le (X.tab_lt t) (Nat.le_trans G0.sz (W.fresh b q)))
  have hf : ∀ b ∈ wr, h₀.get? b = none := fun b q => Heap.get?_none_of_le (W.fresh b q)
  have l3 : ∀ b ∈ wr, Lv s₃.heap b := fun b q => (W.live _ _ st0 b q).keep fun o e => p3.ext b o (tb b q) e
  have ns : ∀ b, ¬ tab b → h₀.get? b = none → s.heap.get? b = none := fun b t h => by
    cases e : s.heap.get? b with
    | none => rfl
    | some o => rw [e1 b o t e] at h; cases h
  have tD : ¬ tab s₂.heap.objs.size := fun t => Nat.lt_irrefl _ (Nat.lt_of_lt_of_le (X.tab_lt t) x.ok.sz)
  have nD0 : h₀.get? s₂.heap.objs.size = none := Heap.get?_none_of_le hsz
  have hDw : s₂.heap.objs.size ∉ wr := fun q => by
    obtain ⟨⟨o, e⟩, _⟩ := W.live _ _ st0 _ q
    exact Nat.lt_irrefl _ (Heap.lt_size e)
  have ea : ∀ b o, s₂.heap.get? b = some o → s₃.heap.get? b = some o := by rw [← hs3]; exact fun b o e => Heap.get?_push_of_some _ e
  refine newCompEnv fun h₁ hns hk hce hap => ?_
  have hT3 : ∀ b ∈ T, OffE (cenvOf scope env s₃.heap.objs.size) b := fun b q => offComp (T := T) VV hclo (by obtain ⟨⟨o, e⟩, _⟩ := (a.step x3).live b (hT b q).1; exact Heap.lt_size e) (fun n c q => (hce n c q).2) (hT b q).2.2
  have I1 := Inv.hide (T := T) (h := h₁) (ρ := ρc) (hb := h₀) (env := cenvOf scope env s₃.heap.objs.size) (Inv.comp (av1 := fun b => (av b ∨ b = s₂.heap.objs.size) ∨ b ∈ wr) VV a G x3 hclo hnd hkind e1 (e2.trans p3.ext) G0 (by rw [z3]; exact Nat.le_succ_of_le hsz) (fun _ q => .inl (.inl q))
    (fun b q => by
      rcases q with (q | q) | q
      · exact .inl q
      · subst q; exact .inr ⟨ns _ tD nD0, .list hD3.isList⟩
      · exact .inr ⟨ns b (tb b q) (hf b q), l3 b q⟩) hns hk hce hap) hT3
  show codeAny (MX X) A (.compStart (.ListComp elt (⟨target, iter, ifs, 0⟩ :: rest) scope pos) 0 (.ref Ia) (.ref s₂.heap.objs.size) (cenvOf scope env s₃.heap.objs.size)) (RR (.ref s₂.heap.objs.size) s₃.heap.objs.size) { s₃ with heap := h₁ }
  have off : Off av h₀ h₁ := fun b o nb e => hk b o ((e2.trans p3.ext) b o (fun t => nb (a.tab b t)) e)
  have st1 : St 0 h₁ := W.frame _ _ _ st0 (fun b o nb e => e2 b o (fun t => nb (a.tab b t)) e) off fun b q o e => hk b o (ea b o e)
  have hav : ∀ b, AvB (fun b => (av b ∨ b = s₂.heap.objs.size) ∨ b ∈ wr) (cenvOf scope env s₃.heap.objs.size) none b → av b ∨ h₀.get? b = none := by
    rintro b (((q | q) | q) | q | ⟨y, k, q⟩ | q)
    · exact .inl q
    · subst q; exact .inr nD0
    · exact .inr (hf b q)
    · subst q; exact .inr (Heap.get?_none_of_le (by show _ ≤ s₃.heap.objs.size; rw [z3]; exact Nat.le_succ_of_le hsz))
    · exact compCell VV hclo hnd (by rw [z3]; exact Nat.le_succ_of_le hsz) hce k q
    · cases q
  have oh : ∀ b o, (hideAll h₀ T).get? b = some o → h₀.get? b = some o := fun b o e => of_hideAll T e
  have hn : ∀ b, h₀.get? b = none → (hideAll h₀ T).get? b = none := fun b h => by
    cases e : (hideAll h₀ T).get? b with
    | none => rfl
    | some o => rw [oh b o e] at h; cases h
  have lT : ∀ b ∈ T, ∃ o, s.heap.get? b = some o := fun b q => (a.live b (hT b q).1).1
  have tT : ∀ b ∈ T, ¬ tab b := fun b q => X.ntab (hT b q).2.1
  have s0 : ∀ b, ¬ tab b → h₀.get? b = none → s.heap.get? b = none := ns
  have c0 : Acc X (hideAll h₀ T) (fun b => (av b ∨ b = s₂.heap.objs.size) ∨ b ∈ wr) (cenvOf scope env s₃.heap.objs.size) ρc s₂.heap.objs.size [] h₁ :=
    ⟨I1, .inl (.inr rfl), hn _ nD0, x.ok.sz, [], hD3.at fun o e => hk _ o e, .nil⟩
  have loop : codeAny (MX X) A (.compLoop (.ListComp elt (⟨target, iter, ifs, 0⟩ :: rest) scope pos) 0 (.ref Ia) (.ref s₂.heap.objs.size) (cenvOf scope env s₃.heap.objs.size)) (RR (.ref s₂.heap.objs.size) s₃.heap.objs.size) { s₃ with heap := h₁ } := by
    refine comp_loop b W (heq _ _ _) (hK _ _ _) rfl rfl rfl st1 (hbd _) gm (fun b q => ⟨.inl (hT b q).1, hideAll_none T q, (hT b q).2.1, hT3 b q, fun e => ?_, fun e => ?_⟩)
      (gm.mv g0 (fun b o q e => hk b o ((e1.trans (e2.trans p3.ext)) b o (fun t => q.elim (fun q => tT b q t) fun q => q (a.tab b t)) e)) fun b q => ?_) c0 (.inr rfl) (fun b t => .inl (a.tab b t)) (fun b q h => ?_) off (fun b q => hn b (hf b q)) hDw hav G0 (by simpa using hlen) fun s' ch c' g' => hRR _ _ _ ?_
    · obtain ⟨o, z⟩ := lT b q; rw [e, ns _ tD nD0] at z; cases z
    · obtain ⟨o, z⟩ := lT b q; rw [ns b (tT b q) (hf b e)] at z; cases z
    · by_cases t : tab b
      · exact .inl (a.tab b t)
      · exact (hav b q).imp id fun h => .inr (ns b t h)
    · rcases h with h | h
      · obtain ⟨⟨o, e⟩, _⟩ := a.live b h; rw [ns b (tb b q) (hf b q)] at e; cases e
      · exact hDw (h ▸ q)
    obtain ⟨h', tk, rfl⟩ := ch.eq
    have I' := c'.inv
    have stp : StpT X T s { s₃ with heap := h', toks := tk } := by
      obtain ⟨h3, t3, q3⟩ := x3.eq
      subst q3
      exact ⟨⟨h', tk, rfl⟩, fun b o t n e => I'.ext b o t (hideAll_get T (e1 b o t e) n), fun b q => gm.lv g' b q, I'.ok⟩
    obtain ⟨m, hm, _⟩ := I'.en.ns
    have tC : ¬ tab s₃.heap.objs.size := fun t => Nat.lt_irrefl _ (Nat.lt_of_lt_of_le (X.tab_lt t) p3.ok.sz)
    refine ⟨stp, ⟨m, hm⟩, ⟨p3.ok.sz, sz_of G x3 _ (size_none _) tC⟩, by rw [z3]; exact Nat.ne_of_lt (Nat.lt_succ_self _), ?_, gm.mv g' (fun _ _ _ e => e) fun b q => .inl (q.elim (fun q => .inl (.inl q)) fun q => .inr (.inl q))⟩
    obtain ⟨ys, h1, h2⟩ := c'.ls
    refine .list ?_ h1 (h2.move (fun _ _ _ e => e) fun b q => .inl ?_)
    · rintro (q | q)
      · obtain ⟨⟨o, e⟩, _⟩ := a.live _ q; rw [ns _ tD nD0] at e; cases e
      · rw [z3] at q; exact Nat.lt_irrefl _ (Nat.lt_of_lt_of_eq (Nat.lt_succ_self _) q.symm)
    · rcases q with q | q
      · exact .inl (.inl q)
      · exact .inr (.inl q)
  exact codeAny_compStart_list loop (W.self 0 _ _ _ st1 loop)
theorem Fin1.keep {av : Addr → Prop} {zs : List V} {s s' : Shared} {D C : Addr} {h' : Heap} (f : Fin1 X av zs s D C s') (G : GOk X s.heap) (hs : Heap.SameBut C s'.heap h') : Stp X s { s' with heap := h' } ∧ R av h' (.ref D) (.list zs) := by
  refine ⟨?_, ?_⟩
  · obtain ⟨h₁, tk, q⟩ := f.stp.eq
    subst q
    exact ⟨⟨h', tk, rfl⟩, fun b o t e => (hs.2 b (fun q => by subst q; rw [f.newC.2] at e; cases e)).trans (f.stp.ext b o t e), f.stp.ok.same f.newC.1 hs (let ⟨m, hm⟩ := f.ns; .ns hm)⟩
  · exact f.res.move (fun b o nb e => (hs.2 b fun q => nb (.inr q)).trans e) fun b q => .inl (.inl q)
theorem namesLk {scope : Scope} (hnd : (scope.names.map (·.1)).Nodup) : ∀ x ∈ scope.names, x.2 = .local → scope.names.lookup x.1 = some .local := fun x hx h => by
  obtain ⟨y, k⟩ := x
  subst h
  exact lk_of_mem hnd hx
theorem closOk {scope : Scope} {ρc : List (Str × V)} {av : Addr → Prop} {h : Heap} (VV : EnvOk X av env ρ h) (hclo : CloOk env ρ scope.names ρc) : closureFor scope env = pure (closL env scope.names []) :=
  closureFor_eq fun x hx hk => by
    obtain ⟨y, k⟩ := x
    subst hk
    obtain ⟨⟨d, hd⟩, hk'⟩ := hclo.all hx
    rcases VV.cl y d hd with k2 | ⟨_, c', v, hc, _⟩
    · rcases hk' with z | z <;> rw [k2] at z <;> cases z
    · exact ⟨c', hc⟩
theorem Fin1.useQ {A : Around} {E : Value → Shared → Prop} {zs : List V} {s s' : Shared} {D C : Addr} {y : Str} {py : Pos} {Q : Value → Shared → Prop} (f : Fin1 X (AvB av0 env oa) zs s D C s') (I : Inv X hb av0 env ρ ω oa s.heap) (hy : Stores env ω y)
    (hQ : ∀ s'' h', (∃ h₂ tk, s'' = { s' with heap := h₂, toks := tk }) → Inv X hb av0 env ((y, .list zs) :: ρ) ω oa h' → Same env oa s { s'' with heap := h' } → (∀ b o, b ≠ C → (¬ Mut env oa b ∨ ¬ AvB av0 env oa b) → s'.heap.get? b = some o → h'.get? b = some o) → Q .none { s'' with heap := h' }) :
    compPost (MX X) A E (some (PySem.assign (.Name y py) env)) Q (.ref D) C (.ok .next) s' := by
  obtain ⟨m, hm⟩ := f.ns
  have hC : ∀ b ∈ [C], Lv s'.heap b := fun b q => by
    cases List.mem_singleton.mp q
    exact .ns hm
  have tC : ¬ tab C := fun t => Nat.lt_irrefl _ (Nat.lt_of_lt_of_le (X.tab_lt t) f.newC.1)
  have I' := I.wide f.stp (Ext.refl _) (wr := [C]) (fun b q => by cases List.mem_singleton.mp q; exact f.newC.2) hC I.tab0
  have r : R (AvB (fun b => av0 b ∨ b ∈ [C]) env oa) s'.heap (.ref D) (.list zs) := f.res.move (fun _ _ _ e => e) fun b q => by
    rcases q with (q | q) | q
    · exact .inl (.inl (.inl q))
    · exact .inl (.inr (List.mem_singleton.mp q))
    · exact .inl (.inl (.inr q))
  refine wpAny_mono (wpAny_assign_Name (I'.store r hy.1 hy.2)) (fun _ s'' z => ?_) fun _ _ e => e
  obtain ⟨z1, z2, z3⟩ := z
  have nm : ¬ Mut env oa C := I'.nmut C (.inr List.mem_cons_self) tC
  refine ⟨m, ns_ext hm fun o e => z1.kp C o nm e, fun h' hs' => ?_⟩
  have t : Tch [C] s'' { s'' with heap := h' } := ⟨⟨h', s''.toks, rfl⟩, fun b o n e => (hs'.2 b (by simpa using n)).trans e, fun b q => by cases List.mem_singleton.mp q; exact .ns (ns_ext hm fun o e => z1.kp C o nm e)⟩
  have I'' := z2.drop t (fun b q => by
    cases List.mem_singleton.mp q
    refine ⟨f.newC.1, ?_, fun q => ?_⟩
    · cases e : hb.get? C with
      | none => rfl
      | some o => have := I.ext C o tC e; rw [f.newC.2] at this; cases this
    · obtain ⟨⟨o, e⟩, _⟩ := I.avk.live C (.inl q); rw [f.newC.2] at e; cases e) I.tab0
  have sm := f.stp.same.trans z1
  refine hQ s'' h' (let ⟨h₂, tk, q⟩ := z1.eq; ⟨h₂, tk, q⟩) I'' ⟨?_, fun b o n e => (hs'.2 b (fun q => by subst q; rw [f.newC.2] at e; cases e)).trans (sm.kp b o n e), fun b o e => ?_⟩ fun b o n q e => (hs'.2 b n).trans (q.elim (fun q => z1.kp b o q e) fun q => z3 b o (fun z => z.elim (fun z => z.elim (fun z => q (.inl z)) fun z => n (by simpa using z)) fun z => q (.inr z)) e)
  · obtain ⟨h2, t2, q⟩ := sm.eq
    subst q; exact ⟨h', t2, rfl⟩
  · obtain ⟨o', e'⟩ := sm.al b o e
    exact ⟨o', (hs'.2 b (fun q => by subst q; rw [f.newC.2] at e; cases e)).trans e'⟩
theorem Fin1.use {A : Around} {E : Value → Shared → Prop} {zs : List V} {s s' : Shared} {D C : Addr} {y : Str} {py : Pos} (f : Fin1 X (AvB av0 env oa) zs s D C s') (I : Inv X hb av0 env ρ ω oa s.heap) (hy : Stores env ω y) :
    compPost (MX X) A E (some (PySem.assign (.Name y py) env)) (fun _ s' => Same env oa s s' ∧ OutOk X hb av0 env oa s.heap (.next ((y, .list zs) :: ρ) ω) .next s'.heap) (.ref D) C (.ok .next) s' :=
  f.useQ I hy fun s'' h' _ I'' sm _ => ⟨sm, rfl, oa, I'', .refl⟩
theorem EvJ.comp1 {elt target iter : Expr} {ifs : List Expr} {scope : Scope} {pos : Pos} {ds zs : List V} {ρc : List (Str × V)}
    (hw : WkJ X n env ρ target iter ds) (hclo : CloOk env ρ scope.names ρc) (hnd : (scope.names.map (·.1)).Nodup) (hkind : scope.kind = .function)
    (hbd : ∀ C, BdsJ X n (cenvOf scope env C) ρc target ifs (fun acc => do let _ ← call (.builtin "list.append") [acc, ← eval elt (cenvOf scope env C)]) ds zs) (hlen : zs.length ≤ 1000)
    (hs : ∀ x, foldedSetIterable iter env x = pure x) : EvJ X n env ρ (.ListComp elt [⟨target, iter, ifs, 0⟩] scope pos) (.list zs) :=
  .mk fun A E s av b G a VV => by
    rw [eval_ListComp]
    refine wpAny_comprehension_free (use := none) rfl hs (closOk VV hclo) hkind (namesLk hnd) ?_
    refine comp_core (T := []) (Γ := noGm) (emit := fun env acc => do let _ ← call (.builtin "list.append") [acc, ← eval elt env]) b G a VV .none (fun _ q => nomatch q) trivial (fun acc C => compPost (MX X) A E none _ acc C) hw hclo hnd hkind (fun C => hbd C []) hlen (fun it acc env => turn1 ..) (fun _ _ _ => rfl) fun D C s' f => ?_
    obtain ⟨m, hm⟩ := f.ns
    exact ⟨m, hm, fun h' hs' => f.to1.keep G hs'⟩
theorem StJ.comp1 {elt target iter : Expr} {ifs : List Expr} {scope : Scope} {pos spos : Pos} {ds zs : List V} {ρc : List (Str × V)} {y : Str} {py : Pos}
    (hw : WkJ X n env ρ target iter ds) (hclo : CloOk env ρ scope.names ρc) (hnd : (scope.names.map (·.1)).Nodup) (hkind : scope.kind = .function)
    (hbd : ∀ C, BdsJ X n (cenvOf scope env C) ρc target ifs (fun acc => do let _ ← call (.builtin "list.append") [acc, ← eval elt (cenvOf scope env C)]) ds zs) (hlen : zs.length ≤ 1000)
    (hs : ∀ x, foldedSetIterable iter env x = pure x) (hy : Stores env ω y)
    (hsw : swapsWith (.ListComp elt [⟨target, iter, ifs, 0⟩] scope pos) (some (.Name y py)) spos.line env = pure true) : StJ X n env ρ ω (.Assign [.Name y py] (.ListComp elt [⟨target, iter, ifs, 0⟩] scope pos) spos) (.next ((y, .list zs) :: ρ) ω) :=
  .mk fun A E s hb av0 oa b I => by
    rw [exec_Assign_Name_used _ _ _ _ hsw]
    refine wpAny_bind (wpAny_standAt (wpAny_bind ?_))
    show wpAny _ A (do let _ ← comprehension (.ListComp elt [⟨target, iter, ifs, 0⟩] scope pos) scope env _ (newList []) false (eval iter env) (some (PySem.assign (.Name y py) env))) _ _ s
    refine wpAny_bind (wpAny_mono (wpAny_comprehension_free (use := some (PySem.assign (.Name y py) env)) (Q := fun _ s' => Same env oa s s' ∧ OutOk X hb av0 env oa s.heap (.next ((y, .list zs) :: ρ) ω) .next s'.heap) rfl hs (closOk I.en hclo) hkind (namesLk hnd) ?_)
      (fun _ s' hq => wpAny_pure (wpAny_pure hq)) fun _ _ e => e)
    refine comp_core (T := []) (Γ := noGm) (emit := fun env acc => do let _ ← call (.builtin "list.append") [acc, ← eval elt env]) b I.ok I.avk I.en .none (fun _ q => nomatch q) trivial (fun acc C => compPost (MX X) A E (some (PySem.assign (.Name y py) env)) _ acc C) hw hclo hnd hkind (fun C => hbd C []) hlen (fun it acc env => turn1 ..) (fun _ _ _ => rfl) fun D C s' f => f.to1.use I hy
end
end
section
/-! zip over two drawers of any kind -/
structure ZA (z TI TO i1 i2 : Addr) (fp1 fp2 : List Addr) : Prop where
  m1 : i1 ∈ fp1
  m2 : i2 ∈ fp2
  TIz : TI ≠ z
  TITO : TI ≠ TO
  TOz : TO ≠ z
  TIi1 : TI ≠ i1
  TIi2 : TI ≠ i2
  z1 : z ∉ fp1
  z2 : z ∉ fp2
  O1 : TO ∉ fp1
  O2 : TO ∉ fp2
  i2f : i2 ∉ fp1
  i1f : i1 ∉ fp2
section
variable {z TI TO i1 i2 : Addr} {fp1 fp2 : List Addr}
theorem ZA.i1z (D : ZA z TI TO i1 i2 fp1 fp2) : i1 ≠ z := fun e => D.z1 (e ▸ D.m1)
theorem ZA.i2z (D : ZA z TI TO i1 i2 fp1 fp2) : i2 ≠ z := fun e => D.z2 (e ▸ D.m2)
theorem ZA.i1O (D : ZA z TI TO i1 i2 fp1 fp2) : i1 ≠ TO := fun e => D.O1 (e ▸ D.m1)
theorem ZA.i2O (D : ZA z TI TO i1 i2 fp1 fp2) : i2 ≠ TO := fun e => D.O2 (e ▸ D.m2)
theorem ZA.i12 (D : ZA z TI TO i1 i2 fp1 fp2) : i1 ≠ i2 := fun e => D.i1f (e ▸ D.m2)
variable {w : World} {A : Around} {E : Value → Shared → Prop} {s : Shared} {n1 n2 k : Nat} {P1 P2 : Nat → Value → Prop} {St1 St2 : Nat → Heap → Prop}
theorem keep_but {T : List Addr} {h h' : Heap} {a : Addr} (hs : Heap.SameBut a h h') (ha : a ∉ T) : ∀ b ∈ T, ∀ o, h.get? b = some o → h'.get? b = some o := fun b hb o e => (hs.2 b (fun q => ha (q ▸ hb))).trans e
theorem zipItem (D : ZA z TI TO i1 i2 fp1 fp2) (D1 : Draws Prog w A i1 fp1 n1 P1 St1) (D2 : Draws Prog w A i2 fp2 n2 P2 St2) {Q : Value → Shared → Prop}
    (hz : IsZip s.heap z TI TO .none) (hTI : IsPair s.heap TI (.ref i1) (.ref i2)) (hTO : ∃ a b, IsPair s.heap TO a b) (h1 : St1 k s.heap) (h2 : St2 k s.heap) (l1 : k < n1) (l2 : k < n2)
    (hQ : ∀ h' tk x y, P1 k x → P2 k y → IsZip h' z TI TO (rawInt s.heap.objs.size) → (∃ a b, IsPair h' TO a b) → St1 (k + 1) h' → St2 (k + 1) h' → IsPair h' s.heap.objs.size x y →
      (∀ c o, c ∉ [z, TO, i1, i2] → s.heap.get? c = some o → h'.get? c = some o) → Q (.ref s.heap.objs.size) { s with heap := h', toks := tk }) :
    wpAny (model Prog w) A (Builtin.«zip.__next__» ⟨[.ref z], []⟩) (fun fin s' => ∃ v, fin = .done (.ret v) ∧ Q v s') E s := by
  obtain ⟨a, b, hTO⟩ := hTO
  show wpAny _ _ (field (.ref z) 2 >>= _) _ _ _
  refine wpAny_bind (wpAny_field hz rfl (x := .bool false) rfl ?_)
  show wpAny _ _ (field (.ref z) 3 >>= _) _ _ _
  refine wpAny_bind (wpAny_field hz rfl (x := .ref TI) rfl (wpAny_bind (wpAny_seqItems hTI rfl ?_)))
  show wpAny _ _ (Builtin.SmallTypes.ownedTupleIsFree (.ref z) >>= _) _ _ _
  unfold Builtin.SmallTypes.ownedTupleIsFree
  refine wpAny_bind (wpAny_bind (wpAny_field hz rfl (x := .none) rfl (wpAny_pure ?_)))
  simp only [if_true]
  refine wpAny_bind (wpAny_rule (wpAny_bind (wpAny_field hz rfl (x := .ref TO) rfl (wpAny_bind (wpAny_setField_rec hz (by simp) fun h₁ z₁ s₁ => wpAny_bind ?_)))))
  replace z₁ : IsZip h₁ z TI TO .ellipsis := z₁
  simp only [List.zipIdx_cons, List.zipIdx_nil, List.forIn_cons, List.forIn_nil]
  refine wpAny_bind (wpAny_bind (wpAny_onRaise ?_))
  show wpAny _ _ (Builtin.SmallTypes.nextOf (.ref i1) >>= _) _ _ _
  refine wpAny_bind (D1.item k _ _ _ l1 (D1.frame _ _ _ h1 (keep_but s₁ D.z1)) fun x h₂ t₂ px r₂ s₂ => wpAny_pure ?_)
  have o₂ : IsPair h₂ TO a b := (s₂.2 _ (Ne.symm D.i1O)).trans ((s₁.2 _ D.TOz).trans hTO)
  refine wpAny_bind (wpAny_seqItems o₂ rfl (wpAny_bind (wpAny_updateSeq_pair o₂ fun h₃ o₃ s₃ => wpAny_bind (wpAny_letGo (wpAny_pure ?_)))))
  replace o₃ : IsPair h₃ TO x b := o₃
  refine wpAny_bind (wpAny_bind (wpAny_onRaise ?_))
  show wpAny _ _ (Builtin.SmallTypes.nextOf (.ref i2) >>= _) _ _ _
  have q₃ : St2 k h₃ := D2.frame _ _ _ (D2.frame _ _ _ (D2.frame _ _ _ h2 (keep_but s₁ D.z2)) (keep_but s₂ D.i1f)) (keep_but s₃ D.O2)
  refine wpAny_bind (D2.item k _ _ _ l2 q₃ fun y h₄ t₄ py q₄ s₄ => wpAny_pure ?_)
  have o₄ : IsPair h₄ TO x b := (s₄.2 _ (Ne.symm D.i2O)).trans o₃
  refine wpAny_bind (wpAny_seqItems o₄ rfl (wpAny_bind (wpAny_updateSeq_pair o₄ fun h₅ o₅ s₅ => wpAny_bind (wpAny_letGo (wpAny_pure (wpAny_pure ?_))))))
  replace o₅ : IsPair h₅ TO x y := o₅
  refine wpAny_bind (wpAny_seqItems o₅ rfl (wpAny_bind (wpAny_newTuple ?_)))
  have sz : h₅.objs.size = s.heap.objs.size := by rw [s₅.1, s₄.1, s₃.1, s₂.1, s₁.1]
  have z₅ : IsZip h₅ z TI TO .ellipsis := (s₅.2 _ (Ne.symm D.TOz)).trans ((s₄.2 _ (Ne.symm D.i2z)).trans ((s₃.2 _ (Ne.symm D.TOz)).trans ((s₂.2 _ (Ne.symm D.i1z)).trans z₁)))
  have k₅ : ∀ c o, c ∉ [z, TO, i1, i2] → s.heap.get? c = some o → h₅.get? c = some o := fun c o n e => by
    simp only [List.mem_cons, List.not_mem_nil, or_false, not_or] at n
    exact (s₅.2 _ n.2.1).trans ((s₄.2 _ n.2.2.2).trans ((s₃.2 _ n.2.1).trans ((s₂.2 _ n.2.2.1).trans ((s₁.2 _ n.1).trans e))))
  have r₅ : St1 (k + 1) h₅ := D1.frame _ _ _ (D1.frame _ _ _ (D1.frame _ _ _ r₂ (keep_but s₃ D.O1)) (keep_but s₄ D.i2f)) (keep_but s₅ D.O1)
  have q₅ : St2 (k + 1) h₅ := D2.frame _ _ _ q₄ (keep_but s₅ D.O2)
  have zlt : h₅.objs.size ≠ z := Nat.ne_of_gt (Heap.lt_size z₅)
  show wpAny _ _ (Builtin.SmallTypes.ownedTupleHandOut (.ref z) (.ref h₅.objs.size) >>= _) _ _ _
  unfold Builtin.SmallTypes.ownedTupleHandOut
  have z₆ : IsZip (h₅.push { cls := .type "tuple", data := .seq #[x, y] }) z TI TO .ellipsis := Heap.get?_push_of_some _ z₅
  refine wpAny_bind (wpAny_bind (wpAny_setField_rec z₆ (by simp) fun h₇ z₇ s₇ => wpAny_setField_rec (vs := #[rawInt h₅.objs.size, .bool false, .bool false, .ref TI, .ref TO]) z₇ (by simp) fun h₈ z₈ s₈ => wpAny_pure ⟨_, rfl, ?_⟩))
  replace z₈ : IsZip h₈ z TI TO (rawInt h₅.objs.size) := z₈
  have up : ∀ c o, c ≠ z → h₅.get? c = some o → h₈.get? c = some o := fun c o n e => (s₈.2 _ n).trans ((s₇.2 _ n).trans (Heap.get?_push_of_some _ e))
  have t₈ : IsPair h₈ h₅.objs.size x y := (s₈.2 _ zlt).trans ((s₇.2 _ zlt).trans (Heap.get?_push_size _ rfl))
  show Q (.ref h₅.objs.size) _
  rw [sz] at z₈ t₈ ⊢
  exact hQ h₈ _ x y px py z₈ ⟨x, y, up _ _ D.TOz o₅⟩ (D1.frame _ _ _ r₅ fun c m o e => up c o (fun q => D.z1 (q ▸ m)) e) (D2.frame _ _ _ q₅ fun c m o e => up c o (fun q => D.z2 (q ▸ m)) e) t₈
    fun c o n e => up c o (fun q => n (by simp [q])) (k₅ c o n e)
theorem zipEnd (D : ZA z TI TO i1 i2 fp1 fp2) (D1 : Draws Prog w A i1 fp1 n1 P1 St1) (D2 : Draws Prog w A i2 fp2 n2 P2 St2) {Q : Fin → Shared → Prop}
    (hz : IsZip s.heap z TI TO .none) (hTI : IsPair s.heap TI (.ref i1) (.ref i2)) (hTO : ∃ a b, IsPair s.heap TO a b) (h1 : St1 k s.heap) (h2 : St2 k s.heap) (hend : k = n1 ∨ (k < n1 ∧ k = n2))
    (hE : ∀ h' tk e, (∀ c o, c ∉ [z, TO, i1, i2] → s.heap.get? c = some o → h'.get? c = some o) → (∃ o, h'.get? z = some o) → (∃ o, h'.get? TO = some o) → (∃ o, h'.get? e = some o ∧ o.cls = .type "StopIteration") → E (.ref e) { s with heap := h', toks := tk }) :
    wpAny (model Prog w) A (Builtin.«zip.__next__» ⟨[.ref z], []⟩) Q E s := by
  obtain ⟨a, b, hTO⟩ := hTO
  show wpAny _ _ (field (.ref z) 2 >>= _) _ _ _
  refine wpAny_bind (wpAny_field hz rfl (x := .bool false) rfl ?_)
  show wpAny _ _ (field (.ref z) 3 >>= _) _ _ _
  refine wpAny_bind (wpAny_field hz rfl (x := .ref TI) rfl (wpAny_bind (wpAny_seqItems hTI rfl ?_)))
  show wpAny _ _ (Builtin.SmallTypes.ownedTupleIsFree (.ref z) >>= _) _ _ _
  unfold Builtin.SmallTypes.ownedTupleIsFree
  refine wpAny_bind (wpAny_bind (wpAny_field hz rfl (x := .none) rfl (wpAny_pure ?_)))
  simp only [if_true]
  refine wpAny_bind (wpAny_rule (wpAny_bind (wpAny_field hz rfl (x := .ref TO) rfl (wpAny_bind (wpAny_setField_rec hz (by simp) fun h₁ z₁ s₁ => wpAny_bind ?_)))))
  replace z₁ : IsZip h₁ z TI TO .ellipsis := z₁
  simp only [List.zipIdx_cons, List.zipIdx_nil, List.forIn_cons, List.forIn_nil]
  refine wpAny_bind (wpAny_bind (wpAny_onRaise ?_))
  show wpAny _ _ (Builtin.SmallTypes.nextOf (.ref i1) >>= _) _ _ _
  have r₁ : St1 k h₁ := D1.frame _ _ _ h1 (keep_but s₁ D.z1)
  rcases hend with rfl | ⟨l1, rfl⟩
  · refine wpAny_bind (D1.done _ _ _ r₁ fun h₂ e s₂ he => ?_)
    obtain ⟨oe, ho, hc⟩ := he
    have z₂ : IsZip h₂ z TI TO .ellipsis := s₂ _ _ (Ne.symm D.i1z) z₁
    have ez : e ≠ z := fun q => by subst q; rw [z₂] at ho; cases ho; simp at hc
    refine wpAny_setField_rec z₂ (by simp) fun h₃ z₃ s₃ => hE h₃ _ e (fun c o n q => ?_) ⟨_, z₃⟩ ⟨_, (s₃.2 _ D.TOz).trans (s₂ _ _ (Ne.symm D.i1O) ((s₁.2 _ D.TOz).trans hTO))⟩ ⟨oe, (s₃.2 _ ez).trans ho, hc⟩
    simp only [List.mem_cons, List.not_mem_nil, or_false, not_or] at n
    exact (s₃.2 _ n.1).trans (s₂ _ _ n.2.2.1 ((s₁.2 _ n.1).trans q))
  · refine wpAny_bind (D1.item k _ _ _ l1 r₁ fun x h₂ t₂ px r₂ s₂ => wpAny_pure ?_)
    have o₂ : IsPair h₂ TO a b := (s₂.2 _ (Ne.symm D.i1O)).trans ((s₁.2 _ D.TOz).trans hTO)
    refine wpAny_bind (wpAny_seqItems o₂ rfl (wpAny_bind (wpAny_updateSeq_pair o₂ fun h₃ o₃ s₃ => wpAny_bind (wpAny_letGo (wpAny_pure ?_)))))
    refine wpAny_bind (wpAny_bind (wpAny_onRaise ?_))
    show wpAny _ _ (Builtin.SmallTypes.nextOf (.ref i2) >>= _) _ _ _
    have q₃ : St2 k h₃ := D2.frame _ _ _ (D2.frame _ _ _ (D2.frame _ _ _ h2 (keep_but s₁ D.z2)) (keep_but s₂ D.i1f)) (keep_but s₃ D.O2)
    refine wpAny_bind (D2.done _ _ _ q₃ fun h₄ e s₄ he => ?_)
    obtain ⟨oe, ho, hc⟩ := he
    have z₄ : IsZip h₄ z TI TO .ellipsis := s₄ _ _ (Ne.symm D.i2z) ((s₃.2 _ (Ne.symm D.TOz)).trans ((s₂.2 _ (Ne.symm D.i1z)).trans z₁))
    have ez : e ≠ z := fun q => by subst q; rw [z₄] at ho; cases ho; simp at hc
    refine wpAny_setField_rec z₄ (by simp) fun h₅ z₅ s₅ => hE h₅ _ e (fun c o n q => ?_) ⟨_, z₅⟩ ⟨_, (s₅.2 _ D.TOz).trans (s₄ _ _ (Ne.symm D.i2O) o₃)⟩ ⟨oe, (s₅.2 _ ez).trans ho, hc⟩
    simp only [List.mem_cons, List.not_mem_nil, or_false, not_or] at n
    exact (s₅.2 _ n.1).trans (s₄ _ _ n.2.2.2 ((s₃.2 _ n.2.1).trans ((s₂.2 _ n.2.2.1).trans ((s₁.2 _ n.1).trans q))))
end
end
section
section
variable {X : Cx} {n : Nat} {env : Env} {ρ : List (Str × V)}
noncomputable def TgOk (target : Expr) (ds : List V) : Prop := (∃ x p, target = .Name x p) ∨ ((∃ elts k pos, target = .Tuple elts k pos) ∧ ∀ d ∈ ds, ∃ l, d = .tup l)
theorem TgOk.name {x : Str} {p : Pos} {ds : List V} : TgOk (.Name x p) ds := .inl ⟨x, p, rfl⟩
theorem TgOk.tup {elts : List Expr} {k : Nat} {pos : Pos} {ds : List V} (h : ∀ d ∈ ds, ∃ l, d = .tup l) : TgOk (.Tuple elts k pos) ds := .inr ⟨⟨elts, k, pos, rfl⟩, h⟩
theorem go_name {A : Around} {E : Value → Shared → Prop} {s : Shared} {x : Str} {p : Pos} {it v : Value} : wpAny (MX X) A (letOwnedTupleGo (.Name x p) it v) (fun _ s' => s' = s) E s := wpAny_pure rfl
theorem Walk.of_walks {A : Around} {target : Expr} {I : Addr} {h₀ : Heap} {av : Addr → Prop} {fp wr : List Addr} {ds : List V} {P : Nat → Value → Prop} {St : Nat → Heap → Prop}
    (W : Walks Prog X.w A I fp wr ds.length P St) (hval : ∀ i v d, P i v → ds[i]? = some d → R av h₀ v d) (hfp : ∀ b ∈ fp, b ∈ wr ∨ ∃ o, h₀.get? b = some o ∧ ¬ av b) (hfresh : ∀ b ∈ wr, h₀.objs.size ≤ b)
    (hlive : ∀ i h, St i h → ∀ b ∈ wr, (∃ o, h.get? b = some o) ∧ NCh h b)     (hgo : ∀ i v d (s : Shared) (E : Value → Shared → Prop), P i v → ds[i]? = some d → St (i + 1) s.heap → wpAny (MX X) A (letOwnedTupleGo target (.ref I) v) (fun _ s' => s' = s) E s) :
    Walk X A target I h₀ av wr ds St where
  fresh := hfresh
  live := hlive
  frame := fun i h h' st o1 o2 hk => W.frame i h h' st fun b hb o e => by
    rcases hfp b hb with q | ⟨o₀, q, nb⟩
    · exact hk b q o e
    · have := o1 b _ nb q; rw [this] at e; cases e; exact o2 b _ nb q
  item := fun i d s av' E E' hd st off a hav => by
    have hlt : i < ds.length := (List.getElem?_eq_some_iff.mp hd).1
    refine W.item i s _ _ hlt st fun v h' tk hP st' hk => ⟨v, rfl, ?_⟩
    refine wpAny_mono (hgo i v d _ _ hP hd st') (fun _ s' q => ?_) fun _ _ e => e
    subst q
    refine ⟨st', ⟨⟨h', tk, rfl⟩, hk, fun b q => (hlive i _ st b q).2⟩, (hval i v d hP hd).move (fun b o nb e => hk b o (fun q => ?_) (off b o nb e)) hav⟩
    exact Nat.lt_irrefl _ (Nat.lt_of_lt_of_le (Heap.lt_size e) (hfresh b q))
  done := fun s E st off => W.done s _ _ st fun h' tk hk => ⟨rfl, ⟨⟨h', tk, rfl⟩, hk, fun b q => (hlive _ _ st b q).2⟩⟩
  self := W.self
theorem chrs_get {x : Str} {i : Nat} {d : V} (h : (x.cps.toList.map fun c => V.str ⟨#[c]⟩)[i]? = some d) : ∃ c, x.cps[i]? = some c ∧ d = .str ⟨#[c]⟩ := by
  rw [List.getElem?_map] at h
  cases e : x.cps.toList[i]? with
  | none => rw [e] at h; cases h
  | some c => rw [e] at h; cases h; exact ⟨c, by simpa using e, rfl⟩
noncomputable def chrs (x : Str) : List V := x.cps.toList.map fun c => .str ⟨#[c]⟩
theorem chrs_len (x : Str) : (chrs x).length = x.cps.size := by simp [chrs]
theorem go_ref {A : Around} {E : Value → Shared → Prop} {s : Shared} {target : Expr} {ds : List V} {I l : Addr} {j i : Nat} {v : Value} {d : V} {av : Addr → Prop} {h : Heap} (ht : TgOk target ds) (hd : ds[i]? = some d) (r : R av h v d) (hit : s.heap.IsListIter I l j) :
    wpAny (MX X) A (letOwnedTupleGo target (.ref I) v) (fun _ s' => s' = s) E s := by
  rcases ht with ⟨x, p, rfl⟩ | ⟨⟨elts, k, pos, rfl⟩, ht⟩
  · exact wpAny_pure rfl
  · obtain ⟨l, rfl⟩ := ht d (List.mem_of_getElem? hd)
    (first | (obtain ⟨_, rfl⟩ := R.intI r; clear r) | (obtain ⟨_, rfl⟩ := R.strI r; clear r) | (obtain rfl := R.boolI r; clear r) | (obtain rfl := Rs.nilI r; clear r) | (obtain rfl := R.noneI r; clear r) | cases r)
    exact wpAny_letOwnedTupleGo_listiter hit rfl
theorem walk_list {A : Around} {E : Value → Shared → Prop} {s s₁ : Shared} {av : Addr → Prop} {target : Expr} {ds : List V} {u : Value} (b : Bud n A) (x : Stp X s s₁) (a : AvOk X av s₁.heap) (ht : TgOk target ds) (r : R av s₁.heap u (.list ds)) :
    wpAny (MX X) A (pyIter u) (fun it s₂ => Stp X s s₂ ∧ ∃ I h₀ wr St, it = .ref I ∧ Ext s.heap h₀ ∧ Ext h₀ s₂.heap ∧ GOk X h₀ ∧ h₀.objs.size ≤ s₂.heap.objs.size ∧ Walk X A target I h₀ av wr ds St ∧ St 0 s₂.heap) E s₁ := by
  (have hx := R.listI r; clear r; obtain ⟨l, vs, rfl, nl, pl, rs⟩ := hx); case _ =>
    refine wpAny_pyIter_list pl.isList ?_
    have hne : l ≠ s₁.heap.objs.size := by obtain ⟨m, e⟩ := pl; exact Nat.ne_of_lt (Heap.lt_size e)
    have hl : vs.toArray.size = ds.length := by rw [List.size_toArray, rs.length]
    refine ⟨x.trans (.push x.ok), _, s₁.heap, [s₁.heap.objs.size], _, rfl, x.ext, .of fun _ _ e => Heap.get?_push_of_some _ e, x.ok, by rw [Heap.size_push]; exact Nat.le_succ _, 
      .of_walks (hl ▸ Walks.list b.hh s₁.heap.objs.size l hne vs.toArray) ?_ ?_ ?_ ?_ ?_, ⟨_, Heap.get?_push_size _ rfl, rfl, rfl⟩, pl.isList.push _⟩
    · intro i v d hv hd
      obtain ⟨v', hv', r'⟩ := rs.get hd
      have hv : vs.toArray[i]? = some v := hv
      rw [List.getElem?_toArray, hv'] at hv
      cases hv
      exact r'
    · intro c hc
      simp only [List.mem_cons, List.not_mem_nil, or_false] at hc
      rcases hc with rfl | rfl
      · exact .inl List.mem_cons_self
      · obtain ⟨m, e⟩ := pl; exact .inr ⟨_, e, nl⟩
    · intro c hc; cases List.mem_singleton.mp hc; exact Nat.le_refl _
    · rintro i h ⟨⟨o, e, _, d⟩, _⟩ c hc; cases List.mem_singleton.mp hc; exact ⟨⟨o, e⟩, .at e d rfl fun _ _ q => nomatch q⟩
    · rintro i v d s' E' hv hd ⟨hit, _⟩
      obtain ⟨v', hv', r'⟩ := rs.get hd
      have hv : vs.toArray[i]? = some v := hv
      rw [List.getElem?_toArray, hv'] at hv
      cases hv
      exact go_ref ht hd r' hit
theorem walk_tup {A : Around} {E : Value → Shared → Prop} {s s₁ : Shared} {av : Addr → Prop} {x : Str} {p : Pos} {ds : List V} {u : Value} (b : Bud n A) (x₁ : Stp X s s₁) (a : AvOk X av s₁.heap) (r : R av s₁.heap u (.tup ds)) :
    wpAny (MX X) A (pyIter u) (fun it s₂ => Stp X s s₂ ∧ ∃ I h₀ wr St, it = .ref I ∧ Ext s.heap h₀ ∧ Ext h₀ s₂.heap ∧ GOk X h₀ ∧ h₀.objs.size ≤ s₂.heap.objs.size ∧ Walk X A (.Name x p) I h₀ av wr ds St ∧ St 0 s₂.heap) E s₁ := by
  (have hx := R.tupI r; clear r; obtain ⟨l, vs, rfl, nl, pl, rs⟩ := hx); case _ =>
    have pt : s₁.heap.IsTuple l vs.toArray := by obtain ⟨o, h1, h2, h3⟩ := pl; exact ⟨o, h1, h2, h3⟩
    refine wpAny_pyIter_tuple pt ?_
    have hne : l ≠ s₁.heap.objs.size := by obtain ⟨o, e, _⟩ := pl; exact Nat.ne_of_lt (Heap.lt_size e)
    have hl : vs.toArray.size = ds.length := by rw [List.size_toArray, rs.length]
    refine ⟨x₁.trans (.push x₁.ok), _, s₁.heap, [s₁.heap.objs.size], _, rfl, x₁.ext, .of fun _ _ e => Heap.get?_push_of_some _ e, x₁.ok, by rw [Heap.size_push]; exact Nat.le_succ _, 
      .of_walks (hl ▸ Walks.tuple b.hh s₁.heap.objs.size l hne vs.toArray) ?_ ?_ ?_ ?_ (fun _ _ _ _ _ _ _ _ => go_name), ⟨_, Heap.get?_push_size _ rfl, rfl, rfl⟩, pt.push _⟩
    · intro i v d hv hd
      obtain ⟨v', hv', r'⟩ := rs.get hd
      have hv : vs.toArray[i]? = some v := hv
      rw [List.getElem?_toArray, hv'] at hv
      cases hv
      exact r'
    · intro c hc
      simp only [List.mem_cons, List.not_mem_nil, or_false] at hc
      rcases hc with rfl | rfl
      · exact .inl List.mem_cons_self
      · obtain ⟨o, e, _⟩ := pl; exact .inr ⟨_, e, nl⟩
    · intro c hc; cases List.mem_singleton.mp hc; exact Nat.le_refl _
    · rintro i h ⟨⟨o, e, _, d⟩, _⟩ c hc; cases List.mem_singleton.mp hc; exact ⟨⟨o, e⟩, .at e d rfl fun _ _ q => nomatch q⟩
theorem walk_str {A : Around} {E : Value → Shared → Prop} {s s₁ : Shared} {av : Addr → Prop} {x : Str} {p : Pos} {z : Str} {u : Value} (b : Bud n A) (x₁ : Stp X s s₁) (a : AvOk X av s₁.heap) (r : R av s₁.heap u (.str z)) :
    wpAny (MX X) A (pyIter u) (fun it s₂ => Stp X s s₂ ∧ ∃ I h₀ wr St, it = .ref I ∧ Ext s.heap h₀ ∧ Ext h₀ s₂.heap ∧ GOk X h₀ ∧ h₀.objs.size ≤ s₂.heap.objs.size ∧ Walk X A (.Name x p) I h₀ av wr (chrs z) St ∧ St 0 s₂.heap) E s₁ := by
  cases r with
  | str _ t =>
    have key : ∀ T : String, Walks Prog X.w A s₁.heap.objs.size [s₁.heap.objs.size] [s₁.heap.objs.size] z.cps.size (SignAt z) (fun i h => h.IsStrIter s₁.heap.objs.size T z t i) →
        ∃ St, Walk X A (.Name x p) s₁.heap.objs.size s₁.heap av [s₁.heap.objs.size] (chrs z) St ∧ St 0 (s₁.heap.push { cls := .type T, data := .fields #[.str z t, .int 0 0] }) := fun T W => by
      refine ⟨_, .of_walks (fp := [s₁.heap.objs.size]) (P := SignAt z) (St := fun i h => h.IsStrIter s₁.heap.objs.size T z t i) (chrs_len z ▸ W) ?_ ?_ ?_ ?_ (fun _ _ _ _ _ _ _ _ => go_name), ⟨_, Heap.get?_push_size _ rfl, rfl, rfl⟩⟩
      · intro i v d hv hd
        obtain ⟨c, hc, rfl⟩ := chrs_get hd
        obtain ⟨c', u', hc', rfl⟩ := hv
        rw [hc] at hc'; cases hc'
        exact .str _ _
      · intro c hc; exact .inl hc
      · intro c hc; cases List.mem_singleton.mp hc; exact Nat.le_refl _
      · rintro i h ⟨o, e, _, d⟩ c hc; cases List.mem_singleton.mp hc; exact ⟨⟨o, e⟩, .at e d rfl fun _ _ q => nomatch q⟩
    refine wpAny_pyIter_strU ?_
    have fin : ∃ St, Walk X A (.Name x p) s₁.heap.objs.size s₁.heap av [s₁.heap.objs.size] (chrs z) St ∧ St 0 (s₁.heap.push { cls := .type (strIterType z), data := .fields #[.str z t, .int 0 0] }) := by
      by_cases ha : z.cps.all (· < 128) = true
      · rw [show strIterType z = "str_ascii_iterator" from if_pos ha]; exact key _ (Walks.strAscii b.hh _ _ _)
      · rw [show strIterType z = "str_iterator" from if_neg ha]; exact key _ (Walks.strWide b.hh _ _ _)
    obtain ⟨St, W, st⟩ := fin
    exact ⟨x₁.trans (.push x₁.ok), _, s₁.heap, _, St, rfl, x₁.ext, .of fun _ _ e => Heap.get?_push_of_some _ e, x₁.ok, by rw [Heap.size_push]; exact Nat.le_succ _, W, st⟩
theorem WkJ.list {e target : Expr} {ds : List V} (h : EvJ X n env ρ e (.list ds)) (ht : TgOk target ds) : WkJ X n env ρ target e ds :=
  .mk fun A E s av b G a VV => wpAny_mono (h.run A E s av b G a VV) (fun u s₁ q => walk_list b q.1 (a.step q.1) ht q.2) fun _ _ e => e
theorem WkJ.tup {e : Expr} {x : Str} {p : Pos} {ds : List V} (h : EvJ X n env ρ e (.tup ds)) : WkJ X n env ρ (.Name x p) e ds :=
  .mk fun A E s av b G a VV => wpAny_mono (h.run A E s av b G a VV) (fun u s₁ q => walk_tup b q.1 (a.step q.1) q.2) fun _ _ e => e
theorem WkJ.str {e : Expr} {x : Str} {p : Pos} {z : Str} (h : EvJ X n env ρ e (.str z)) : WkJ X n env ρ (.Name x p) e (chrs z) :=
  .mk fun A E s av b G a VV => wpAny_mono (h.run A E s av b G a VV) (fun u s₁ q => walk_str b q.1 (a.step q.1) q.2) fun _ _ e => e
structure WcJ (X : Cx) (fv : Value) (target : Expr) (args : List V) (ds : List V) : Prop where
  run : ∀ (n : Nat) (A : Around) (E : Value → Shared → Prop) (s : Shared) (av : Addr → Prop) (vs : List Value), Bud n A → GOk X s.heap → AvOk X av s.heap → Rs av s.heap vs args →
    wpAny (MX X) A (call fv vs) (fun xv s₁ => wpAny (MX X) A (pyIter xv) (fun it s₂ => Stp X s s₂ ∧ ∃ I wr St, it = .ref I ∧ s.heap.objs.size ≤ s₂.heap.objs.size ∧ Walk X A target I s.heap av wr ds St ∧ St 0 s₂.heap) E s₁) E s
theorem WkJ.tcall {target e : Expr} {es : List Expr} {pos p : Pos} {args ds : List V} {T : String} {x : Str} (hf : GlV X n env ρ (.Name x p) (.type T)) (hs : EvsJ X n env ρ (e :: es) args) (hc : WcJ X (.type T) target args ds)
    (hst : (e :: es).any isStarred = false) : WkJ X n env ρ target (.Call (.Name x p) (e :: es) [] pos) ds := .mk fun A E s av b G a VV => by
  refine wpAny_Call_Name_kw (wpAny_mono (hf.run A E s av b G VV) (fun v s₁ q => ?_) fun _ _ e => e)
  obtain ⟨rfl, rfl⟩ := q
  have hst' := hst
  rw [List.any_cons, Bool.or_eq_false_iff] at hst
  refine PyProof.Rows.callWith_type (backTo_of hst') ?_
  have := hs.run pos A E s₁ av b G a VV
  rw [starEach_of hst.1] at this ⊢
  refine evalArgs_plain (wpAny_mono this (fun vs s₂ q => ?_) fun _ _ e => e)
  refine wpAny_mono (hc.run n A E s₂ av vs b q.1.ok (a.step q.1) q.2) (fun xv s₃ h => wpAny_mono h (fun it s₄ h => ?_) fun _ _ e => e) fun _ _ e => e
  obtain ⟨st, I, wr, St, rfl, sz, W, st0⟩ := h
  exact ⟨q.1.trans st, I, s₂.heap, wr, St, rfl, q.1.ext, st.ext, q.1.ok, sz, W, st0⟩
noncomputable def rangeL (a : Int) (n : Nat) : List V := (List.range n).map fun (i : Nat) => V.int (a + (i : Int))
theorem rangeL_get {a : Int} {n i : Nat} {d : V} (h : (rangeL a n)[i]? = some d) : d = .int (a + i) := by
  unfold rangeL at h
  rw [List.getElem?_map] at h
  cases e : (List.range n)[i]? with
  | none => rw [e] at h; cases h
  | some c => rw [e] at h; cases h; obtain ⟨h1, rfl⟩ := List.getElem?_eq_some_iff.mp e; simp
theorem WcJ.range1 {x : Str} {p : Pos} {k : Nat} (hsm : Builtin.Range.small 0 (k : Int) 1 = true) (hsz : Builtin.Range.rangeSize 0 (k : Int) 1 = k) : WcJ X (.type "range") (.Name x p) [.int k] (rangeL 0 k) :=
  .mk fun n A E s av vs b G a r => by
    (have hx := Rs.consI r; clear r; obtain ⟨_, _, rfl, r1, r⟩ := hx); case _ => (first | (obtain ⟨_, rfl⟩ := R.intI r; clear r) | (obtain ⟨_, rfl⟩ := R.strI r; clear r) | (obtain rfl := R.boolI r; clear r) | (obtain rfl := Rs.nilI r; clear r) | (obtain rfl := R.noneI r; clear r) | cases r); cases r1 with
      | int _ t =>
        refine call_range_1 (wpAny_pyIter_range (IsRange.new ..) hsm ?_)
        generalize hH : s.heap.push { cls := .type "range", data := .fields #[.int 0 s.toks, .int (k : Int) t, .int 1 (s.toks + 1)] } = H
        have kp : ∀ b o, s.heap.get? b = some o → (H.push { cls := .type "range_iterator", data := .fields #[rawInt 0, rawInt (Builtin.Range.rangeSize 0 k 1), rawInt 1] }).get? b = some o := fun b o e => Heap.get?_push_of_some _ (hH ▸ Heap.get?_push_of_some _ e)
        have sz : H.objs.size = s.heap.objs.size + 1 := by rw [← hH]; exact Heap.size_push ..
        have hlen : (rangeL 0 k).length = k := by simp [rangeL]
        refine ⟨.keeps G kp, H.objs.size, [H.objs.size], _, rfl, by show _ ≤ (H.push _).objs.size; rw [Heap.size_push, sz]; k_data,
          .of_walks (hlen.symm ▸ Walks.range b.hh H.objs.size 0 1 k) ?_ ?_ ?_ ?_ (fun _ _ _ _ _ _ _ _ => go_name), ?_⟩
        · rintro i v d ⟨t, rfl⟩ hd
          have := rangeL_get hd
          subst this
          rw [Int.mul_one]
          exact .int _ _
        · intro c hc; exact .inl hc
        · intro c hc; cases List.mem_singleton.mp hc; rw [sz]; exact Nat.le_succ _
        · rintro i h st c hc; cases List.mem_singleton.mp hc; exact ⟨⟨_, st⟩, .at st rfl rfl fun _ _ q => nomatch q⟩
        · show IsRangeIter _ _ _ _ _
          rw [hsz]
          simpa [hlen] using (Heap.get?_push_size _ rfl : IsRangeIter (H.push { cls := .type "range_iterator", data := .fields #[rawInt 0, rawInt (k : Int), rawInt 1] }) H.objs.size 0 k 1)
theorem WcJ.rev {x : Str} {p : Pos} {ds : List V} : WcJ X (.type "reversed") (.Name x p) [.list ds] ds.reverse :=
  .mk fun n A E s av vs b G a r => by
    (have hx := Rs.consI r; clear r; obtain ⟨_, _, rfl, r1, r⟩ := hx); case _ => (first | (obtain ⟨_, rfl⟩ := R.intI r; clear r) | (obtain ⟨_, rfl⟩ := R.strI r; clear r) | (obtain rfl := R.boolI r; clear r) | (obtain rfl := Rs.nilI r; clear r) | (obtain rfl := R.noneI r; clear r) | cases r); (have hx := R.listI r1; clear r1; obtain ⟨l, vs, rfl, nl, pl, rs⟩ := hx); case _ =>
        refine call_reversed_list pl.isList (wpAny_pyIter_revIter (l := l) (i := (vs.toArray.size : Int) - 1) ⟨_, Heap.get?_push_size _ rfl, rfl, rfl⟩ ?_)
        have hne : l ≠ s.heap.objs.size := by obtain ⟨m, e⟩ := pl; exact Nat.ne_of_lt (Heap.lt_size e)
        have hl : vs.toArray.size = ds.reverse.length := by rw [List.size_toArray, rs.length, List.length_reverse]
        refine ⟨.push G, _, [s.heap.objs.size], _, rfl, by show _ ≤ (s.heap.push _).objs.size; rw [Heap.size_push]; exact Nat.le_succ _,
          .of_walks (hl ▸ Walks.listRev b.hh s.heap.objs.size l hne vs.toArray) ?_ ?_ ?_ ?_ (fun _ _ _ _ _ _ _ _ => go_name), ⟨Nat.zero_le _, ⟨_, Heap.get?_push_size _ rfl, rfl, by simp [revObj, rs.length]⟩, pl.isList.push _⟩⟩
        · intro i v d hv hd
          have hlt : i < ds.length := by have := (List.getElem?_eq_some_iff.mp hd).1; rwa [List.length_reverse] at this
          rw [List.getElem?_reverse hlt] at hd
          obtain ⟨v', hv', r'⟩ := rs.get hd
          have hv : vs.toArray[ds.reverse.length - 1 - i]? = some v := hv
          rw [List.getElem?_toArray, List.length_reverse, hv'] at hv
          cases hv
          exact r'
        · intro c hc
          simp only [List.mem_cons, List.not_mem_nil, or_false] at hc
          rcases hc with rfl | rfl
          · exact .inl List.mem_cons_self
          · obtain ⟨m, e⟩ := pl; exact .inr ⟨_, e, nl⟩
        · intro c hc; cases List.mem_singleton.mp hc; exact Nat.le_refl _
        · rintro i h ⟨_, ⟨o, e, _, d⟩, _⟩ c hc; cases List.mem_singleton.mp hc; exact ⟨⟨o, e⟩, .at e d rfl fun _ _ q => nomatch q⟩
noncomputable def enumL (ds : List V) : List V := ds.zipIdx.map fun p => .tup [.int (p.2 : Nat), p.1]
theorem enumL_get {ds : List V} {i : Nat} {d : V} (h : (enumL ds)[i]? = some d) : ∃ e, ds[i]? = some e ∧ d = .tup [.int i, e] := by
  unfold enumL at h
  rw [List.getElem?_map, List.getElem?_zipIdx] at h
  cases e : ds[i]? with
  | none => rw [e] at h; cases h
  | some c => rw [e] at h; cases h; exact ⟨c, rfl, by simp⟩
theorem zipL_get {ds es : List V} {i : Nat} {d : V} (h : (List.zipWith (fun a b => V.tup [a, b]) ds es)[i]? = some d) : ∃ a b, ds[i]? = some a ∧ es[i]? = some b ∧ d = .tup [a, b] := by
  rw [List.getElem?_zipWith] at h
  split at h
  · rename_i a b h1 h2; cases h; exact ⟨_, _, h1, h2, rfl⟩
  · cases h
theorem newPair {av : Addr → Prop} {h : Heap} {T : Addr} {x y : Value} {d e : V} (hT : IsPair h T x y) (nT : ¬ av T) (r1 : R av h x d) (r2 : R av h y e) : R av h (.ref T) (.tup [d, e]) :=
  .tup nT (vs := [x, y]) ⟨_, hT, rfl, _, rfl⟩ (.cons r1 (.cons r2 .nil))
theorem WcJ.enum {elts : List Expr} {k : Nat} {pos : Pos} {ds : List V} : WcJ X (.type "enumerate") (.Tuple elts k pos) [.list ds] (enumL ds) :=
  .mk fun n A E s av vs b G a r => by
    (have hx := Rs.consI r; clear r; obtain ⟨_, _, rfl, r1, r⟩ := hx); case _ => (first | (obtain ⟨_, rfl⟩ := R.intI r; clear r) | (obtain ⟨_, rfl⟩ := R.strI r; clear r) | (obtain rfl := R.boolI r; clear r) | (obtain rfl := Rs.nilI r; clear r) | (obtain rfl := R.noneI r; clear r) | cases r); (have hx := R.listI r1; clear r1; obtain ⟨l, vs, rfl, nl, pl, rs⟩ := hx); case _ =>
        refine call_enumerate_list pl.isList fun h₁ he hit sz kp => ?_
        have hle : l < s.heap.objs.size := by obtain ⟨m, e⟩ := pl; exact Heap.lt_size e
        have hl : vs.toArray.size = (enumL ds).length := by rw [List.size_toArray, rs.length]; simp [enumL]
        have W := WalksT.enumerate (prog := Prog) (w := X.w) b.hh (s.heap.objs.size + 1) s.heap.objs.size l (Nat.succ_ne_self _) (Nat.ne_of_lt (Nat.lt_succ_of_lt hle)) (Nat.ne_of_lt hle) vs.toArray
        have ncE : ∀ (i : Nat) (h : Heap), ((∃ old, IsEnum h (s.heap.objs.size + 1) s.heap.objs.size i old) ∧ h.IsListIter s.heap.objs.size l i ∧ h.IsList l vs.toArray) → ∀ b ∈ [s.heap.objs.size + 1, s.heap.objs.size], NCh h b := by
          rintro i h ⟨⟨old, e1⟩, ⟨o, e2, _, d⟩, _⟩ c hc; simp only [List.mem_cons, List.not_mem_nil, or_false] at hc; rcases hc with rfl | rfl
          · exact .at e1 rfl rfl fun _ _ q => nomatch q
          · exact .at e2 d rfl fun _ _ q => nomatch q
        refine wpAny_pyIter_enum he ?_
        refine ⟨.keeps G kp, _, [s.heap.objs.size + 1, s.heap.objs.size], (fun (i : Nat) h => (∃ old, IsEnum h (s.heap.objs.size + 1) s.heap.objs.size i old) ∧ h.IsListIter s.heap.objs.size l i ∧ h.IsList l vs.toArray), rfl, by show _ ≤ h₁.objs.size; rw [sz]; k_data, ?_, ⟨⟨_, he⟩, hit, pl.isList.at fun o e => kp _ o e⟩⟩
        refine ⟨?_, ?_, ?_, ?_, ?_, W.self⟩
        · intro c hc; simp only [List.mem_cons, List.not_mem_nil, or_false] at hc; rcases hc with rfl | rfl
          · exact Nat.le_succ _
          · exact Nat.le_refl _
        · intro i h st c hc; exact ⟨by
            obtain ⟨⟨old, e1⟩, ⟨o, e2, _⟩, _⟩ := st
            simp only [List.mem_cons, List.not_mem_nil, or_false] at hc; rcases hc with rfl | rfl
            · exact ⟨_, e1⟩
            · exact ⟨o, e2⟩, ncE i h st c hc⟩
        · intro i h h' st o1 o2 hk
          refine W.frame i h h' st fun c hc o e => ?_
          simp only [List.mem_cons, List.not_mem_nil, or_false] at hc
          rcases hc with rfl | rfl | rfl
          · exact hk _ (by simp) o e
          · exact hk _ (by simp) o e
          · obtain ⟨m, el⟩ := pl
            have := o1 _ _ nl el; rw [this] at e; cases e; exact o2 _ _ nl el
        · intro i d s' av' E₁ E₂ hd st off aok hav
          obtain ⟨e, hde, rfl⟩ := enumL_get hd
          have hlt : i < vs.toArray.size := by rw [hl]; exact (List.getElem?_eq_some_iff.mp hd).1
          refine W.item i s' _ _ hlt st fun T vals h' tk hP hT hTt hM hk => ⟨_, rfl, ?_⟩
          refine W.go _ _ _ i T _ _ _ hM fun h'' st'' hk' => ?_
          obtain ⟨t, x, hx, rfl⟩ := hP
          obtain ⟨v', hv', r'⟩ := rs.get hde
          rw [List.getElem?_toArray, hv'] at hx
          (first | (obtain ⟨_, rfl⟩ := R.intI hx; clear hx) | (obtain ⟨_, rfl⟩ := R.strI hx; clear hx) | (obtain rfl := R.boolI hx; clear hx) | (obtain rfl := Rs.nilI hx; clear hx) | (obtain rfl := R.noneI hx; clear hx) | cases hx)
          have kk : ∀ b o, b ∉ [s.heap.objs.size + 1, s.heap.objs.size] → s'.heap.get? b = some o → h''.get? b = some o := fun b o n e => hk' b o n (hk b o n e)
          refine ⟨st'', ⟨⟨h'', tk, rfl⟩, kk, ncE i s'.heap st⟩, ?_⟩
          have nT : ¬ av' T := aok.fresh (Heap.get?_none_of_le hT)
          have mv : ∀ b o, ¬ av b → s.heap.get? b = some o → h''.get? b = some o := fun b o nb e => kk b o (fun q => by
            have := Heap.lt_size e
            simp only [List.mem_cons, List.not_mem_nil, or_false] at q
            rcases q with rfl | rfl
            · exact Nat.lt_irrefl _ (Nat.lt_of_succ_lt this)
            · exact Nat.lt_irrefl _ this) (off b o nb e)
          have hTt'' : IsTup h'' T #[.int i t, x] := by
            obtain ⟨o, h1, h2⟩ := hTt
            exact ⟨o, hk' T o (W.apart _ _ _ hM) h1, h2⟩
          exact .tup (vs := [.int i t, x]) nT hTt'' (.cons (.int _ _) (.cons (r'.move mv hav) .nil))
        · intro s' E₁ st off
          rw [← hl] at st
          exact W.done s' _ _ st fun h' tk hk => ⟨rfl, ⟨h', tk, rfl⟩, hk, ncE _ _ st⟩
structure Dr (X : Cx) (av : Addr → Prop) (h₀ : Heap) (it : Addr) (fp : List Addr) (ds : List V) (P : Nat → Value → Prop) (St : Nat → Heap → Prop) : Prop where
  nc : ∀ i h, St i h → NCh h it
  draws : ∀ A : Around, A.handled = none → Draws Prog X.w A it fp ds.length P St
  val : ∀ i v d, P i v → ds[i]? = some d → R av h₀ v d
  mem : it ∈ fp
  fp : ∀ b ∈ fp, b = it ∨ ∃ o, h₀.get? b = some o ∧ ¬ av b
theorem Dr.list {av : Addr → Prop} {h₀ : Heap} {l it : Addr} {vs : List Value} {ds : List V} (nl : ¬ av l) (pl : h₀.PlainList l vs.toArray) (rs : Rs av h₀ vs ds) (hne : l ≠ it) :
    Dr X av h₀ it [it, l] ds (fun i v => vs.toArray[i]? = some v) (fun i h => h.IsListIter it l i ∧ h.IsList l vs.toArray) :=
  ⟨fun i h ⟨⟨o, e, _, d⟩, _⟩ => .at e d rfl (fun _ _ q => nomatch q), fun A hA => by
    have := Draws.list (prog := Prog) (w := X.w) hA it l hne vs.toArray
    rwa [List.size_toArray, rs.length] at this, fun i v d hv hd => by
      obtain ⟨v', hv', r'⟩ := rs.get hd
      rw [List.getElem?_toArray, hv'] at hv
      cases hv; exact r', by simp, fun b hb => by
      simp only [List.mem_cons, List.not_mem_nil, or_false] at hb
      rcases hb with rfl | rfl
      · exact .inl rfl
      · obtain ⟨m, e⟩ := pl; exact .inr ⟨_, e, nl⟩⟩
theorem Dr.str {av : Addr → Prop} {h₀ : Heap} {it : Addr} {x : Str} {t : Tok} : Dr X av h₀ it [it] (chrs x) (fun i v => ∃ c u, x.cps[i]? = some c ∧ v = .str ⟨#[c]⟩ u) (fun i h => h.IsStrIter it (strIterType x) x t i) :=
  ⟨fun i h ⟨o, e, _, d⟩ => .at e d rfl (fun _ _ q => nomatch q), fun A hA => by
    rw [chrs_len]
    by_cases ha : x.cps.all (· < 128) = true
    · rw [show strIterType x = "str_ascii_iterator" from if_pos ha]; exact Draws.strAscii hA it x t
    · rw [show strIterType x = "str_iterator" from if_neg ha]; exact Draws.strWide hA it x t, fun i v d hv hd => by
      obtain ⟨c, hc, rfl⟩ := chrs_get hd
      obtain ⟨c', u', hc', rfl⟩ := hv
      rw [hc] at hc'; cases hc'
      exact .str _ _, by simp, fun b hb => .inl (by simpa using hb)⟩
theorem ncZ {z TI TO i1 i2 : Addr} (h : Heap) (h1 : IsZip h z TI TO .none) (h2 : IsPair h TI (.ref i1) (.ref i2)) (h3 : ∃ a b, IsPair h TO a b) (h4 : NCh h i1) (h5 : NCh h i2) : ∀ b ∈ [z, TO, i1, i2, TI], NCh h b := fun b hb => by
  simp only [List.mem_cons, List.not_mem_nil, or_false] at hb
  obtain ⟨_, _, h3⟩ := h3
  rcases hb with rfl | rfl | rfl | rfl | rfl
  · exact .at h1 rfl rfl fun _ _ q => nomatch q
  · exact .seq h3 rfl
  · exact h4
  · exact h5
  · exact .seq h2 rfl
theorem Walk.zip {A : Around} {elts : List Expr} {kk : Nat} {pos : Pos} {h₀ : Heap} {av : Addr → Prop} {z TI TO i1 i2 : Addr} {fp1 fp2 : List Addr} {ds1 ds2 : List V} {P1 P2 : Nat → Value → Prop} {St1 St2 : Nat → Heap → Prop}
    (hh : A.handled = none) (D1 : Dr X av h₀ i1 fp1 ds1 P1 St1) (D2 : Dr X av h₀ i2 fp2 ds2 P2 St2) (D : ZA z TI TO i1 i2 fp1 fp2) (hf : ∀ b ∈ [z, TO, i1, i2, TI], h₀.objs.size ≤ b) :
    Walk X A (.Tuple elts kk pos) z h₀ av [z, TO, i1, i2, TI] (List.zipWith (fun a b => V.tup [a, b]) ds1 ds2)
      (fun k h => IsZip h z TI TO .none ∧ IsPair h TI (.ref i1) (.ref i2) ∧ (∃ a b, IsPair h TO a b) ∧ St1 k h ∧ St2 k h) where
  fresh := hf
  live := fun i h ⟨h1, h2, ⟨_, _, h3⟩, h4, h5⟩ c hc => by
    refine ⟨?_, ncZ h h1 h2 ⟨_, _, h3⟩ (D1.nc _ _ h4) (D2.nc _ _ h5) c hc⟩
    simp only [List.mem_cons, List.not_mem_nil, or_false] at hc
    rcases hc with rfl | rfl | rfl | rfl | rfl
    · exact ⟨_, h1⟩
    · exact ⟨_, h3⟩
    · exact (D1.draws A hh).live i h h4
    · exact (D2.draws A hh).live i h h5
    · exact ⟨_, h2⟩
  frame := fun i h h' ⟨h1, h2, ⟨a, b, h3⟩, h4, h5⟩ o1 o2 hk => by
    refine ⟨hk _ (by simp) _ h1, hk _ (by simp) _ h2, ⟨a, b, hk _ (by simp) _ h3⟩, (D1.draws A hh).frame _ _ _ h4 fun c hc o e => ?_, (D2.draws A hh).frame _ _ _ h5 fun c hc o e => ?_⟩
    · rcases D1.fp c hc with rfl | ⟨o', q, nb⟩
      · exact hk _ (by simp) o e
      · have := o1 c _ nb q; rw [this] at e; cases e; exact o2 c _ nb q
    · rcases D2.fp c hc with rfl | ⟨o', q, nb⟩
      · exact hk _ (by simp) o e
      · have := o1 c _ nb q; rw [this] at e; cases e; exact o2 c _ nb q
  item := fun i d s av' E E' hd ⟨h1, h2, h3, h4, h5⟩ off aok hav => by
    obtain ⟨d1, d2, e1, e2, rfl⟩ := zipL_get hd
    have hT : s.TypeIs (.ref z) "zip" := ⟨_, h1, rfl⟩
    unfold pyNext
    refine wpAny_bind (wpAny_attempt (wpAny_callSpecial?_slot (name := Str.ofString "__next__") hT F.slot_zip_next
      (wpAny_call_entry F.slot_zip_next hT F.entry_zip_next
        (zipItem D (D1.draws A.in1 (show A.in1.handled = none from hh)) (D2.draws A.in1 (show A.in1.handled = none from hh)) h1 h2 h3 h4 h5 (List.getElem?_eq_some_iff.mp e1).1 (List.getElem?_eq_some_iff.mp e2).1 fun h' tk x y p1 p2 z' o' s1 s2 t' kp => wpAny_pure ⟨_, rfl, ?_⟩) (F.args_zip_next_1 _))))
    refine wpAny_letOwnedTupleGo_zip z' fun h'' z'' hs => ?_
    have lt : ∀ {c o}, s.heap.get? c = some o → s.heap.objs.size ≠ c := fun e => Nat.ne_of_gt (Heap.lt_size e)
    have Tz : s.heap.objs.size ≠ z := lt h1
    have kp2 : ∀ c o, c ∉ [z, TO, i1, i2, TI] → s.heap.get? c = some o → h''.get? c = some o := fun c o n e => (hs.2 c (fun q => n (by simp [q]))).trans (kp c o (fun q => n (by
      simp only [List.mem_cons, List.not_mem_nil, or_false] at q ⊢
      rcases q with q | q | q | q <;> simp [q])) e)
    have mv : ∀ b o, ¬ av b → h₀.get? b = some o → h''.get? b = some o := fun b o nb e => kp2 b o (fun q => Nat.lt_irrefl _ (Nat.lt_of_lt_of_le (Heap.lt_size e) (hf b q))) (off b o nb e)
    obtain ⟨a', b', o'⟩ := o'
    refine ⟨⟨z'', (hs.2 _ D.TIz).trans (kp _ _ ?_ h2), ⟨a', b', (hs.2 _ D.TOz).trans o'⟩, (D1.draws A hh).frame _ _ _ s1 (keep_but hs D.z1), (D2.draws A hh).frame _ _ _ s2 (keep_but hs D.z2)⟩, ⟨⟨h'', tk, rfl⟩, kp2, ncZ s.heap h1 h2 h3 (D1.nc _ _ h4) (D2.nc _ _ h5)⟩,
      newPair ((hs.2 _ Tz).trans t') (aok.fresh (size_none _)) ((D1.val i x d1 p1 e1).move mv hav) ((D2.val i y d2 p2 e2).move mv hav)⟩
    simp only [List.mem_cons, List.not_mem_nil, or_false, not_or]
    exact ⟨D.TIz, D.TITO, D.TIi1, D.TIi2⟩
  done := fun s E ⟨h1, h2, h3, h4, h5⟩ off => by
    have hT : s.TypeIs (.ref z) "zip" := ⟨_, h1, rfl⟩
    have hm : (List.zipWith (fun a b => V.tup [a, b]) ds1 ds2).length = min ds1.length ds2.length := by simp
    rw [hm] at h4 h5
    unfold pyNext
    refine wpAny_bind (wpAny_attempt (wpAny_callSpecial?_slot (name := Str.ofString "__next__") hT F.slot_zip_next
      (wpAny_call_entry F.slot_zip_next hT F.entry_zip_next (zipEnd D (D1.draws A.in1 (show A.in1.handled = none from hh)) (D2.draws A.in1 (show A.in1.handled = none from hh)) h1 h2 h3 h4 h5 (by k_data) fun h' tk e kp _ _ he => ?_) (F.args_zip_next_1 _))))
    obtain ⟨o, ho, hc⟩ := he
    refine wpAny_bind (wpAny_isInstance (T := "StopIteration") (b := true) ⟨o, ho, hc⟩ isSubtype_stop ?_)
    exact wpAny_pure ⟨rfl, ⟨h', tk, rfl⟩, fun b o n e => kp b o (fun q => n (by
      simp only [List.mem_cons, List.not_mem_nil, or_false] at q ⊢
      rcases q with q | q | q | q <;> simp [q])) e, ncZ s.heap h1 h2 h3 (D1.nc _ _ h4) (D2.nc _ _ h5)⟩
  self := fun i s Q E ⟨h1, _⟩ hQ => wpAny_pyIter_zip h1 hQ
end
end
section
noncomputable abbrev yH1 (h : Heap) (x : Str) (t : Tok) : Heap := h.push { cls := .type (strIterType x), data := .fields #[.str x t, .int 0 0] }
noncomputable abbrev yH2 (h : Heap) (x : Str) (t : Tok) (l2 : Addr) : Heap := (yH1 h x t).push { cls := .type "list_iterator", data := .fields #[.ref l2, .int 0 0] }
noncomputable abbrev yH3 (h : Heap) (x : Str) (t : Tok) (l2 : Addr) : Heap := (yH2 h x t l2).push { cls := .type "tuple", data := .seq #[.ref h.objs.size, .ref (yH1 h x t).objs.size] }
noncomputable abbrev yH4 (h : Heap) (x : Str) (t : Tok) (l2 : Addr) : Heap := (yH3 h x t l2).push { cls := .type "tuple", data := .seq #[.none, .none] }
noncomputable abbrev yH5 (h : Heap) (x : Str) (t : Tok) (l2 : Addr) : Heap := (yH4 h x t l2).push { cls := .type "zip", data := .fields #[.none, .bool false, .bool false, .ref (yH2 h x t l2).objs.size, .ref (yH3 h x t l2).objs.size] }
set_option maxHeartbeats 8000000 in
theorem meets_zip_sl (x : Str) (t : Tok) (l2 : Addr) (ys : Array Value) :
    Meets (Builtin.«zip.__new__» ⟨[.type "zip", .str x t, .ref l2], []⟩) (fun _ R s => s.heap.IsList l2 ys ∧ R (.ok (.ret (.ref (yH4 s.heap x t l2).objs.size))) { s with heap := yH5 s.heap x t l2 }) :=
  .of_wp fun prog w A R s h => by
    obtain ⟨hp, g, d, tk, os⟩ := s; obtain ⟨hl2, h⟩ := h
    have hsub := sub_zip
    have hL2 : Heap.IsList (Shared.heap ⟨hp.push { cls := .type (strIterType x), data := .fields #[.str x t, .int 0 0] }, g, d, tk, os⟩) l2 ys := Heap.IsList.push hl2 _
    wp_walk using wpAny_pyIter_strU, wpAny_pyIter_list hL2
    exact ⟨_, rfl, h⟩
section
variable {X : Cx} {n : Nat} {env : Env} {ρ : List (Str × V)}
theorem ZA.new (m : Nat) {fp1 fp2 : List Addr} (m1 : m ∈ fp1) (m2 : m + 1 ∈ fp2) (h1 : ∀ b ∈ fp1, @Eq Nat b m ∨ @LT.lt Nat _ b m) (h2 : ∀ b ∈ fp2, @Eq Nat b (m + 1) ∨ @LT.lt Nat _ b m) : ZA (m + 4) (m + 2) (m + 3) m (m + 1) fp1 fp2 where
  m1 := m1
  m2 := m2
  TIz := by simp
  TITO := by simp
  TOz := by simp
  TIi1 := by simp
  TIi2 := by simp
  z1 := fun q => by have := h1 _ q; k_data
  z2 := fun q => by have := h2 _ q; k_data
  O1 := fun q => by have := h1 _ q; k_data
  O2 := fun q => by have := h2 _ q; k_data
  i2f := fun q => by have := h1 _ q; k_data
  i1f := fun q => by have := h2 _ q; k_data
theorem zipFresh (m : Nat) : ∀ b ∈ [m + 4, m + 3, m, m + 1, m + 2], @LE.le Nat _ m b := fun b hb => by
  simp only [List.mem_cons, List.not_mem_nil, or_false] at hb
  rcases hb with rfl | rfl | rfl | rfl | rfl <;> k_data
theorem WcJ.zipll {elts : List Expr} {k : Nat} {pos : Pos} {ds es : List V} : WcJ X (.type "zip") (.Tuple elts k pos) [.list ds, .list es] (List.zipWith (fun a b => V.tup [a, b]) ds es) :=
  .mk fun n A E s av vs b G a r => by
    (have hx := Rs.consI r; clear r; obtain ⟨_, _, rfl, r1, r⟩ := hx); case _ => (have hx := Rs.consI r; clear r; obtain ⟨_, _, rfl, r2, r⟩ := hx); case _ => (first | (obtain ⟨_, rfl⟩ := R.intI r; clear r) | (obtain ⟨_, rfl⟩ := R.strI r; clear r) | (obtain rfl := R.boolI r; clear r) | (obtain rfl := Rs.nilI r; clear r) | (obtain rfl := R.noneI r; clear r) | cases r); (have hx := R.listI r1; clear r1; obtain ⟨l1, v1, rfl, n1, p1, s1⟩ := hx); case _ => (have hx := R.listI r2; clear r2; obtain ⟨l2, v2, rfl, n2, p2, s2⟩ := hx); case _ =>
            refine call_zip_2 p1.isList p2.isList fun h' hz hTI hTO h1 h2 sz kp => wpAny_pyIter_zip hz ?_
            have g1 : l1 < s.heap.objs.size := by obtain ⟨m, e⟩ := p1; exact Heap.lt_size e
            have g2 : l2 < s.heap.objs.size := by obtain ⟨m, e⟩ := p2; exact Heap.lt_size e
            exact ⟨.keeps G kp, _, _, _, rfl, by show _ ≤ h'.objs.size; rw [sz]; k_data,
              Walk.zip b.hh (Dr.list (it := s.heap.objs.size) n1 p1 s1 (Nat.ne_of_lt g1)) (Dr.list (it := s.heap.objs.size + 1) n2 p2 s2 (Nat.ne_of_lt (Nat.lt_succ_of_lt g2)))
                (ZA.new _ (by simp) (by simp) (by simpa using Or.inr g1) (by simpa using Or.inr g2)) (zipFresh _), hz, hTI, ⟨_, _, hTO⟩, ⟨h1, p1.isList.at fun o e => kp _ o e⟩, ⟨h2, p2.isList.at fun o e => kp _ o e⟩⟩
theorem WcJ.zipsl {elts : List Expr} {k : Nat} {pos : Pos} {x : Str} {es : List V} : WcJ X (.type "zip") (.Tuple elts k pos) [.str x, .list es] (List.zipWith (fun a b => V.tup [a, b]) (chrs x) es) :=
  .mk fun n A E s av vs b G a r => by
    (have hx := Rs.consI r; clear r; obtain ⟨_, _, rfl, r1, r⟩ := hx); case _ => (have hx := Rs.consI r; clear r; obtain ⟨_, _, rfl, r2, r⟩ := hx); case _ => (first | (obtain ⟨_, rfl⟩ := R.intI r; clear r) | (obtain ⟨_, rfl⟩ := R.strI r; clear r) | (obtain rfl := R.boolI r; clear r) | (obtain rfl := Rs.nilI r; clear r) | (obtain rfl := R.noneI r; clear r) | cases r); cases r1 with
        | str _ t => (have hx := R.listI r2; clear r2; obtain ⟨l2, v2, rfl, n2, p2, s2⟩ := hx); case _ =>
            refine callType_new F.called_zip (by decide) (F.typeCall_zip_2 _ _) (F.newCall_zip_2 _ _) (fun obj => F.args_object_init_3 obj _ _) F.entry_zip_new (meets_zip_sl x t l2 v2.toArray) ⟨p2.isList, ?_⟩
            have g2 : l2 < s.heap.objs.size := by obtain ⟨m, e⟩ := p2; exact Heap.lt_size e
            have z1 : (yH1 s.heap x t).objs.size = s.heap.objs.size + 1 := Heap.size_push ..
            have z2 : (yH2 s.heap x t l2).objs.size = s.heap.objs.size + 2 := by rw [Heap.size_push, z1]
            have z3 : (yH3 s.heap x t l2).objs.size = s.heap.objs.size + 3 := by rw [Heap.size_push, z2]
            have z4 : (yH4 s.heap x t l2).objs.size = s.heap.objs.size + 4 := by rw [Heap.size_push, z3]
            have z5 : (yH5 s.heap x t l2).objs.size = s.heap.objs.size + 5 := by rw [Heap.size_push, z4]
            have q5 : (yH5 s.heap x t l2).get? (yH4 s.heap x t l2).objs.size = some _ := Heap.get?_push_size _ rfl
            have q4 : (yH5 s.heap x t l2).get? (yH3 s.heap x t l2).objs.size = some _ := Heap.get?_push_of_some _ (Heap.get?_push_size _ rfl)
            have q3 : (yH5 s.heap x t l2).get? (yH2 s.heap x t l2).objs.size = some _ := Heap.get?_push_of_some _ (Heap.get?_push_of_some _ (Heap.get?_push_size _ rfl))
            have q2 : (yH5 s.heap x t l2).get? (yH1 s.heap x t).objs.size = some _ := Heap.get?_push_of_some _ (Heap.get?_push_of_some _ (Heap.get?_push_of_some _ (Heap.get?_push_size _ rfl)))
            have q1 : (yH5 s.heap x t l2).get? s.heap.objs.size = some _ := Heap.get?_push_of_some _ (Heap.get?_push_of_some _ (Heap.get?_push_of_some _ (Heap.get?_push_of_some _ (Heap.get?_push_size _ rfl))))
            have kp : ∀ c o, s.heap.get? c = some o → (yH5 s.heap x t l2).get? c = some o := fun c o e =>
              Heap.get?_push_of_some _ (Heap.get?_push_of_some _ (Heap.get?_push_of_some _ (Heap.get?_push_of_some _ (Heap.get?_push_of_some _ e))))
            rw [z2, z3, z4] at q5
            rw [z1, z2] at q3
            rw [z3] at q4
            rw [z1] at q2
            show _ ∧ _
            rw [z4]
            refine ⟨⟨_, q5, rfl⟩, ?_⟩
            generalize yH5 s.heap x t l2 = h' at q1 q2 q3 q4 q5 kp z5
            refine wpAny_pyIter_zip q5 ?_
            exact ⟨.keeps G kp, _, _, _, rfl, by show _ ≤ h'.objs.size; rw [z5]; k_data,
              Walk.zip b.hh (Dr.str (it := s.heap.objs.size) (x := x) (t := t)) (Dr.list (it := s.heap.objs.size + 1) n2 p2 s2 (Nat.ne_of_lt (Nat.lt_succ_of_lt g2)))
                (ZA.new _ (by simp) (by simp) (by simp) (by simpa using Or.inr g2)) (zipFresh _), q5, q3, ⟨_, _, q4⟩, ⟨_, q1, rfl, rfl⟩, ⟨⟨_, q2, rfl, rfl⟩, p2.isList.at fun o e => kp _ o e⟩⟩
end
end
section
section
variable {prog : Program} {w : World} {A : Around} {E : Value → Shared → Prop} {R : Result → Shared → Prop} {s : Shared}
theorem compStart1 {elt t1 i1 t2 i2 : Expr} {f1 f2 : List Expr} {scope : Scope} {pos : Pos} {it acc : Value} {env : Env}
    (h0 : codeAny (model prog w) A (.compLoop (.ListComp elt [⟨t1, i1, f1, 0⟩, ⟨t2, i2, f2, 0⟩] scope pos) 1 it acc env) R s)
    (h : wpAny (model prog w) A (pyIter it) (fun it' s' => codeAny (model prog w) A (.compLoop (.ListComp elt [⟨t1, i1, f1, 0⟩, ⟨t2, i2, f2, 0⟩] scope pos) 1 it' acc env) R s')
      (notedBy (model prog w) A env fun x s' => R (.error x) s') s) :
    codeAny (model prog w) A (.compStart (.ListComp elt [⟨t1, i1, f1, 0⟩, ⟨t2, i2, f2, 0⟩] scope pos) 1 it acc env) R s := by
  refine codeAny_of_tree ?_
  show wpAny _ _ ((compStart (.ListComp elt [⟨t1, i1, f1, 0⟩, ⟨t2, i2, f2, 0⟩] scope pos) 1 it acc env).onRaise (fun x => do noteFrame x env; standAt theWindowsPlace)) _ _ s
  refine wpAny_notedAt ?_
  unfold compStart
  show wpAny _ _ (ask >>= _) _ _ s
  refine wpAny_bind (wpAny_askSetting (wpAny_ite ?_))
  split
  · first
      | exact wpAny_bind (wpAny_pure (wpAny_pure (And.intro rfl h0)))
      | exact wpAny_pure (And.intro rfl h0)
  · first
      | exact wpAny_bind (wpAny_rule (wpAny_bind (wpAny_standAt (wpAny_bind (wpAny_mono h (fun it' s' h' => wpAny_pure (And.intro rfl h')) fun _ _ x => x)))))
      | (refine wpAny_bind (wpAny_rule ?_); show wpAny _ _ (standAt i2.pos >>= _) _ _ s; exact wpAny_bind (wpAny_standAt (wpAny_bind (wpAny_mono h (fun it' s' h' => wpAny_pure (And.intro rfl h')) fun _ _ x => x))))
end
section
variable {X : Cx} {n : Nat} {env : Env} {ρ : List (Str × V)} {ω : Option Own} {hb : Heap} {av0 : Addr → Prop} {oa : Option Addr}
theorem EmJ.inner {elt t1 i1 t2 i2 : Expr} {f1 f2 : List Expr} {scope : Scope} {pos : Pos} {ds zs : List V} (hw : WkJ X n env ρ t2 i2 ds)
    (hbd : BdsJ X n env ρ t2 f2 (fun acc => do let _ ← call (.builtin "list.append") [acc, ← eval elt env]) ds zs) (hs : ∀ x, foldedSetIterable i2 env x = pure x) :
    EmJ X n env ρ (fun acc => emitIn elt t1 i1 t2 i2 f1 f2 scope pos env acc) zs := fun L =>
  .mk fun A E s hb av1 D b c _ _ hsz => by
    have ht := c.inv.tab0
    unfold emitIn
    refine wpAny_bind (wpAny_mono (hw.run A E s _ b c.inv.ok c.inv.avk c.inv.en) (fun xv s₁ h₁ => wpAny_bind (wpAny_standAt (wpAny_bind (wpAny_of_eq (hs xv) (wpAny_bind (wpAny_holding (wpAny_mono h₁ (fun it s₂ h₂ => ?_) fun _ _ e => e))))))) fun _ _ e => e)
    obtain ⟨x, Ia, h₀, wr, St, rfl, e1, e2, G0, hsz0, W, st0⟩ := h₂
    have hf : ∀ b ∈ wr, h₀.get? b = none := fun b q => Heap.get?_none_of_le (W.fresh b q)
    have tb : ∀ b ∈ wr, ¬ tab b := fun b q t => Nat.lt_irrefl _ (Nat.lt_of_lt_of_le (X.tab_lt t) (Nat.le_trans G0.sz (W.fresh b q)))
    have ns : ∀ b ∈ wr, s.heap.get? b = none := fun b q => by
      cases e : s.heap.get? b with
      | none => rfl
      | some o => have := e1 b o (tb b q) e; rw [hf b q] at this; cases this
    have I₂ := c.inv.wide x e1 hf (W.live _ _ st0) ht
    obtain ⟨ys, p1, p2⟩ := c.ls
    have hD : D ∉ wr := fun q => by obtain ⟨m, e⟩ := p1; rw [ns D q] at e; cases e
    have c₂ : Acc X hb (fun b => av1 b ∨ b ∈ wr) env ρ D L s₂.heap := ⟨I₂, .inl c.av, c.new, c.big, ys, p1.at fun o e => x.ext D o c.ntab e,
      p2.move (fun b o nb e => x.ext b o (fun t => nb (.inl (ht b t))) e) fun b q => by
        rcases q with (q | q) | q
        · exact .inl (.inl q)
        · exact .inr (ns b q)
        · exact .inl (.inr q)⟩
    have loop : codeAny (MX X) A (.compLoop (.ListComp elt [⟨t1, i1, f1, 0⟩, ⟨t2, i2, f2, 0⟩] scope pos) 1 (.ref Ia) (.ref D) env) 
        (fun r s' => match r with | .ok f => wpAny (MX X) A (pure ()) (fun _ s' => Chg env [D] s s' ∧ Acc X hb av1 env ρ D (L ++ zs) s'.heap ∧ noGm (AvB av1 env none) (L ++ zs) s'.heap) E s' | .error e => cameBackBy (MX X) A env E e s') s₂ := by
      refine comp_loop (emit := fun acc => do let _ ← call (.builtin "list.append") [acc, ← eval elt env]) b W (turnIn ..) rfl rfl rfl rfl st0 (hbd L) .none (fun _ q => nomatch q) trivial c₂ c.av ht (fun b q h => by obtain ⟨⟨o, e⟩, _⟩ := c.inv.avk.live b (.inl h); rw [ns b q] at e; cases e)
        (fun b o nb e => e2 b o (fun t => nb (.inl (ht b t))) e) (fun b q => by
          cases e : hb.get? b with
          | none => rfl
          | some o => have := c.inv.ext b o (tb b q) e; rw [ns b q] at this; cases this) hD (fun b q => by
          rcases q with (q | q) | q
          · exact .inl (.inl q)
          · exact .inr (hf b q)
          · exact .inl (.inr q)) G0 hsz fun s' ch c' _ => wpAny_pure ⟨⟨?_, fun b o n m e => ?_⟩, c', trivial⟩
      · obtain ⟨h2, t2, q⟩ := x.eq
        obtain ⟨h3, t3, q'⟩ := ch.eq
        subst q; exact ⟨h3, t3, q'⟩
      · refine ch.kp b o (fun q => ?_) m (x.ext b o (fun t => m (.inl t)) e)
        rcases List.mem_cons.mp q with q | q
        · exact n (List.mem_singleton.mpr q)
        · rw [ns b q] at e; cases e
    exact wpAny_bind (wpAny_runOwn (compStart1 loop (W.self 0 _ _ _ st0 loop)))
theorem EvJ.comp2 {elt target iter t2 i2 : Expr} {ifs f2 : List Expr} {scope : Scope} {pos : Pos} {ds zs : List V} {ρc : List (Str × V)}
    (hw : WkJ X n env ρ target iter ds) (hclo : CloOk env ρ scope.names ρc) (hnd : (scope.names.map (·.1)).Nodup) (hkind : scope.kind = .function)
    (hbd : ∀ C, BdsJ X n (cenvOf scope env C) ρc target ifs (fun acc => emitIn elt target iter t2 i2 ifs f2 scope pos (cenvOf scope env C) acc) ds zs) (hlen : zs.length ≤ 1000)
    (hs : ∀ x, foldedSetIterable iter env x = pure x) : EvJ X n env ρ (.ListComp elt [⟨target, iter, ifs, 0⟩, ⟨t2, i2, f2, 0⟩] scope pos) (.list zs) :=
  .mk fun A E s av b G a VV => by
    rw [eval_ListComp]
    refine wpAny_comprehension_free (use := none) rfl hs (closOk VV hclo) hkind (namesLk hnd) ?_
    refine comp_core (T := []) (Γ := noGm) (emit := fun env acc => emitIn elt target iter t2 i2 ifs f2 scope pos env acc) b G a VV .none (fun _ q => nomatch q) trivial (fun acc C => compPost (MX X) A E none _ acc C) hw hclo hnd hkind (fun C => hbd C []) hlen (fun it acc env => turnOut ..) (fun _ _ _ => keyOut ..) fun D C s' f => ?_
    obtain ⟨m, hm⟩ := f.ns
    exact ⟨m, hm, fun h' hs' => f.to1.keep G hs'⟩
theorem StJ.comp2 {elt target iter t2 i2 : Expr} {ifs f2 : List Expr} {scope : Scope} {pos spos : Pos} {ds zs : List V} {ρc : List (Str × V)} {y : Str} {py : Pos}
    (hw : WkJ X n env ρ target iter ds) (hclo : CloOk env ρ scope.names ρc) (hnd : (scope.names.map (·.1)).Nodup) (hkind : scope.kind = .function)
    (hbd : ∀ C, BdsJ X n (cenvOf scope env C) ρc target ifs (fun acc => emitIn elt target iter t2 i2 ifs f2 scope pos (cenvOf scope env C) acc) ds zs) (hlen : zs.length ≤ 1000)
    (hs : ∀ x, foldedSetIterable iter env x = pure x) (hy : Stores env ω y)
    (hsw : swapsWith (.ListComp elt [⟨target, iter, ifs, 0⟩, ⟨t2, i2, f2, 0⟩] scope pos) (some (.Name y py)) spos.line env = pure true) : StJ X n env ρ ω (.Assign [.Name y py] (.ListComp elt [⟨target, iter, ifs, 0⟩, ⟨t2, i2, f2, 0⟩] scope pos) spos) (.next ((y, .list zs) :: ρ) ω) :=
  .mk fun A E s hb av0 oa b I => by
    rw [exec_Assign_Name_used _ _ _ _ hsw]
    refine wpAny_bind (wpAny_standAt (wpAny_bind ?_))
    show wpAny _ A (do let _ ← comprehension (.ListComp elt [⟨target, iter, ifs, 0⟩, ⟨t2, i2, f2, 0⟩] scope pos) scope env _ (newList []) false (eval iter env) (some (PySem.assign (.Name y py) env))) _ _ s
    refine wpAny_bind (wpAny_mono (wpAny_comprehension_free (use := some (PySem.assign (.Name y py) env)) (Q := fun _ s' => Same env oa s s' ∧ OutOk X hb av0 env oa s.heap (.next ((y, .list zs) :: ρ) ω) .next s'.heap) rfl hs (closOk I.en hclo) hkind (namesLk hnd) ?_)
      (fun _ s' hq => wpAny_pure (wpAny_pure hq)) fun _ _ e => e)
    exact comp_core (T := []) (Γ := noGm) (emit := fun env acc => emitIn elt target iter t2 i2 ifs f2 scope pos env acc) b I.ok I.avk I.en .none (fun _ q => nomatch q) trivial (fun acc C => compPost (MX X) A E (some (PySem.assign (.Name y py) env)) _ acc C) hw hclo hnd hkind (fun C => hbd C []) hlen (fun it acc env => turnOut ..) (fun _ _ _ => keyOut ..) fun D C s' f => f.to1.use I hy
end
end
section
section
variable {X : Cx} {n : Nat} {env : Env} {ρ : List (Str × V)} {ω : Option Own} {hb : Heap} {av0 : Addr → Prop} {oa : Option Addr}
theorem StJ.assignT {x y : Str} {p q tp pos : Pos} {k : Nat} {e : Expr} {d1 d2 : V} (h : EvJ X n env ρ e (.tup [d1, d2])) (hx : Stores env ω x) (hy : Stores env ω y)
    (hs : swapsWithSole [.Tuple [.Name x p, .Name y q] k tp] e pos.line env = pure false) (hw : swappedStores [.Tuple [.Name x p, .Name y q] k tp] e env = pure none) :
    StJ X n env ρ ω (.Assign [.Tuple [.Name x p, .Name y q] k tp] e pos) (.next ((y, d2) :: (x, d1) :: ρ) ω) :=
  .mk fun A E s hb av0 oa b I => Assign_Tuple (wpAny_mono (h.run A E s _ b I.ok I.avk I.en) (fun v s₁ z => wpAny_mono ((TgJ.pair (k := k) (pos := tp) hx hy).run A E s₁ hb av0 oa v b.hh (I.step z.1) z.2)
    (fun _ s₂ y => ⟨z.1.same.trans y.1, rfl, oa, y.2, .refl⟩) fun _ _ e => e) fun _ _ e => e) hs hw
theorem StJ.assignSw {x y : Str} {p q tp pos : Pos} {k : Nat} {e : Expr} {d1 d2 : V} (h : EvJ X n env ρ e (.tup [d1, d2])) (hx : Stores env ω x) (hy : Stores env ω y)
    (hs : swapsWithSole [.Tuple [.Name x p, .Name y q] k tp] e pos.line env = pure false) (hw : swappedStores [.Tuple [.Name x p, .Name y q] k tp] e env = pure (some [x, y])) :
    StJ X n env ρ ω (.Assign [.Tuple [.Name x p, .Name y q] k tp] e pos) (.next ((x, d1) :: (y, d2) :: ρ) ω) :=
  .mk fun A E s hb av0 oa b I => Assign_Tuple_swapped (wpAny_mono (h.run A E s _ b I.ok I.avk I.en) (fun v s₁ z => by
    obtain ⟨z1, r⟩ := z
    have I1 := I.step z1
    (have hx := R.tupI r; clear r; obtain ⟨a, vs, rfl, na, ta, rs⟩ := hx); case _ =>
      (have hx := Rs.consI rs; clear rs; obtain ⟨v1, vs1, rfl, r1, rs⟩ := hx); case _ => (have hx := Rs.consI rs; clear rs; obtain ⟨v2, vs2, rfl, r2, rs⟩ := hx); case _ =>
          (first | (obtain ⟨_, rfl⟩ := R.intI rs; clear rs) | (obtain ⟨_, rfl⟩ := R.strI rs; clear rs) | (obtain rfl := R.boolI rs; clear rs) | (obtain rfl := Rs.nilI rs; clear rs) | (obtain rfl := R.noneI rs; clear rs) | cases rs)
          refine unpackItems_tuple (items := #[v1, v2]) b.hh ta fun h' he => ?_
          have keep : ∀ b o, s₁.heap.get? b = some o → h'.get? b = some o := fun b o e => he b o (Nat.ne_of_lt (Heap.lt_size e)) e
          have st : Stp X s₁ { s₁ with heap := h' } := .keeps I1.ok keep
          have I2 := I1.step st
          show wpAny _ A (assignInOrder [bindName env y, bindName env x] [v2, v1]) _ _ _
          refine wpAny_assignInOrder_more (wpAny_bindName (wpAny_mono (I2.store (I1.rstep st r2) hy.1 hy.2) (fun _ s₂ z => ?_) fun _ _ e => e))
          refine wpAny_assignInOrder_more (wpAny_bindName (wpAny_mono (z.2.1.store ((I1.rstep st r1).move z.2.2 fun _ q => .inl q) hx.1 hx.2) (fun _ s₃ y => ?_) fun _ _ e => e))
          exact wpAny_assignInOrder_none ⟨((z1.same.trans st.same).trans z.1).trans y.1, rfl, oa, y.2.1, .refl⟩) fun _ _ e => e) hs hw
structure FrJ (X : Cx) (n : Nat) (env : Env) (ρ : List (Str × V)) (e : Expr) (ds : List V) : Prop where
  run : ∀ (A : Around) (E : Value → Shared → Prop) (s : Shared) (av : Addr → Prop), Bud n A → GOk X s.heap → AvOk X av s.heap → EnvOk X av env ρ s.heap →
    wpAny (MX X) A (eval e env) (fun v s' => Stp X s s' ∧ ∃ a vs, v = .ref a ∧ (∀ b o, s.heap.get? b = some o → b < a) ∧ s'.heap.PlainList a vs.toArray ∧ Rs (fun b => av b ∨ b = a) s'.heap vs ds) E s
theorem FrJ.list {es : List Expr} {pos : Pos} {ds : List V} (h : EvsJ X n env ρ es ds) (hsz : ds.length ≤ 1000) : FrJ X n env ρ (.List es pos) ds :=
  .mk fun A E s av b G a V => wpAny_List (wpAny_mono (h.run pos A E s av b G a V) (fun vs s₁ q => by
    refine ⟨by rw [q.2.length, sizeLine_eq]; k_data, q.1.trans (.push q.1.ok), s₁.heap.objs.size, vs, rfl, fun b o e => ?_, ⟨_, Heap.get?_push_size _ rfl⟩, ?_⟩
    · obtain ⟨o', e'⟩ := (q.1.same (env := env) (oa := none)).al b o e; exact Heap.lt_size e'
    · exact q.2.move (fun b o _ e => Heap.get?_push_of_some _ e) fun b z => z.imp id fun z => by subst z; exact size_none _) fun _ _ e => e)
theorem Inv.toOwn {x : Str} {a : Addr} {vs : List Value} {ds : List V} {h : Heap} (I : Inv X hb (fun b => av0 b ∨ b ∈ [a]) env ρ none none h) (hv : VarIs env h x (.ref a)) (hn : hb.objs.size ≤ a) (hl : h.PlainList a vs.toArray) (hr : Rs (AvB av0 env (some a)) h vs ds)
    (ha : ¬ av0 a) (ht : ∀ b, tab b → av0 b) : Inv X hb av0 env ρ (some (Own.lst x ds)) (some a) h := by
  have m : ∀ b, AvB av0 env (some a) b → AvB (fun b => av0 b ∨ b ∈ [a]) env none b := fun b q => by
    rcases q with q | q | q | q
    · exact .inl (.inl q)
    · exact .inr (.inl q)
    · exact .inr (.inr (.inl q))
    · cases q; exact .inl (.inr List.mem_cons_self)
  have mv : ∀ {v : Value} {d : V}, R (AvB (fun b => av0 b ∨ b ∈ [a]) env none) h v d → R (AvB av0 env (some a)) h v d := fun r => r.move (fun _ _ _ e => e) fun b q => .inl (m b q)
  refine ⟨I.ok, I.ext, I.base, ⟨fun b t => .inl (ht b t), fun b q => I.avk.live b (m b q)⟩, ⟨I.en.fn, I.en.gl, I.en.bl, .inr (.inl rfl), ?_, fun y d hy => ?_⟩, I.fl, I.cs, I.fc, I.ap, fun q => I.d1 (.inl q), fun x c h1 h2 q => I.d2 x c h1 h2 (.inl q), ?_, ⟨hn, hv, vs, hl, hr⟩⟩
  · obtain ⟨m, hm, hr⟩ := I.en.ns
    exact ⟨m, hm, fun y d h1 h2 => let ⟨v, e, r⟩ := hr y d h1 h2; ⟨v, e, mv r⟩⟩
  · exact (I.en.cl y d hy).imp id fun ⟨h1, c, v, h2, ha, h3, r⟩ => ⟨h1, c, v, h2, fun k => .inr (.inr (.inl ⟨y, k, h2⟩)), h3, mv r⟩
  · rintro a' h; cases h; exact ha
theorem StJ.own {x : Str} {p pos : Pos} {e : Expr} {ds : List V} (h : FrJ X n env ρ e ds) (hx : env.kindOf x = some .local ∨ (env.kindOf x = some .cell ∧ ∃ c, env.cells.lookup x = some c ∧ env.locals < c)) (hρ : ρ.lookup x = none)
    (hs : swapsWith e (some (.Name x p)) pos.line env = pure false) : StJ X n env ρ none (.Assign [.Name x p] e pos) (.next ρ (some (Own.lst x ds))) :=
  .mk fun A E s hb av0 oa b I => by
    have ho : oa = none := by
      have := I.own
      cases oa with
      | none => rfl
      | some a => exact this.elim
    subst ho
    refine wpAny_Assign_Name (wpAny_mono (h.run A E s _ b I.ok I.avk I.en) (fun v s₁ q => ?_) fun _ _ e => e) hs
    obtain ⟨st, a, vs, rfl, lt, pl, rs⟩ := q
    have na : s.heap.get? a = none := by
      cases e : s.heap.get? a with
      | none => rfl
      | some o => exact absurd (lt a o e) (Nat.lt_irrefl _)
    have lv : Lv s₁.heap a := .list pl.isList
    obtain ⟨m, hm, _⟩ := I.en.ns
    obtain ⟨ol, _, _, eol, _⟩ := hm
    have hla : hb.objs.size ≤ a := Nat.le_of_lt (Nat.lt_of_le_of_lt I.fl (lt _ _ eol))
    have n0 : ¬ av0 a := fun q => by obtain ⟨⟨o, e⟩, _⟩ := I.avk.live a (.inl q); rw [na] at e; cases e
    have I1 := I.wide st (.refl _) (wr := [a]) (fun b q => by cases List.mem_singleton.mp q; exact na) (fun b q => by cases List.mem_singleton.mp q; exact lv) I.tab0
    refine wpAny_mono (I1.store' (v := .ref a) (ρ' := ρ) (fun y d hy => .inr ⟨fun q => (by subst q; rw [hρ] at hy; cases hy), hy⟩) hx (fun _ _ h => nomatch h)) (fun _ s₂ z => ?_) fun _ _ e => e
    obtain ⟨z1, ⟨z2, z3⟩, z4⟩ := z
    have nm : ¬ Mut env none a := I1.nmut a (.inr List.mem_cons_self) fun t => n0 (I.tab0 a t)
    have off : ∀ b o, ¬ (AvB av0 env none b ∨ b = a) → s₁.heap.get? b = some o → s₂.heap.get? b = some o := fun b o nb e => z4 b o (fun q => nb (by
      rcases q with (q | q) | q
      · exact .inl (.inl q)
      · exact .inr (List.mem_singleton.mp q)
      · exact .inl (.inr q))) e
    refine ⟨st.same.trans z1, rfl, some a, z2.toOwn z3 hla (pl.at fun o e => z1.kp a o nm e) (rs.move off fun b q => .inl ?_) n0 I.tab0, fun a' h => by cases h; exact .inr na⟩
    rcases q with q | q | q | q
    · exact .inl (.inl q)
    · exact .inl (.inr (.inl q))
    · exact .inl (.inr (.inr (.inl q)))
    · cases q; exact .inr rfl
theorem AvB.none' {b : Addr} (q : AvB av0 env none b) : AvB av0 env oa b := by
  rcases q with q | q | q | q
  · exact .inl q
  · exact .inr (.inl q)
  · exact .inr (.inr (.inl q))
  · cases q
theorem Inv.view {x : Str} {ds : List V} {h : Heap} (I : Inv X hb av0 env ρ (some (Own.lst x ds)) oa h) : AvOk X (AvB av0 env none) h ∧ EnvOk X (AvB av0 env none) env ((x, .list ds) :: ρ) h := by
  have mv : ∀ {v : Value} {d : V}, R (AvB av0 env oa) h v d → R (AvB av0 env none) h v d := fun r => r.move (fun _ _ _ e => e) fun b q => .inl q.none'
  have mvs : ∀ {v : List Value} {d : List V}, Rs (AvB av0 env oa) h v d → Rs (AvB av0 env none) h v d := fun r => r.move (fun _ _ _ e => e) fun b q => .inl q.none'
  have o := I.own
  cases oa with
  | none => exact o.elim
  | some a =>
    obtain ⟨h1, h2, vs, h3, h4⟩ := o
    have na : ¬ AvB av0 env none a := by
      rintro (q | q | ⟨y, k, q⟩ | q)
      · exact I.d3 a rfl q
      · obtain ⟨m, hm, _⟩ := I.en.ns; exact ns_list hm h3.isList q
      · obtain ⟨v, c⟩ := I.fc y a k q; exact cell_list c h3.isList rfl
      · cases q
    have r : R (AvB av0 env none) h (.ref a) (.list ds) := .list na h3 (mvs h4)
    refine ⟨⟨fun b t => .inl (I.tab0 b t), fun b q => I.avk.live b q.none'⟩, I.en.fn, I.en.gl, I.en.bl, .inr (.inl rfl), ?_, fun y d hy => ?_⟩
    · obtain ⟨m, hm, hr⟩ := I.en.ns
      refine ⟨m, hm, fun y d hy k => ?_⟩
      rw [List.lookup_cons] at hy
      by_cases e : y = x
      · subst e
        simp only [beq_self_eq_true] at hy
        cases hy
        rcases h2 with ⟨_, m', hm', e⟩ | ⟨k', _⟩
        · refine ⟨_, ?_, r⟩
          obtain ⟨o1, es1, ep1, g1, d1, _, f1⟩ := hm
          obtain ⟨o2, es2, ep2, g2, d2, _, f2⟩ := hm'
          rw [g1] at g2; cases g2; rw [d1] at d2; cases d2
          rw [← f1]; rw [← f2] at e; exact e
        · rw [k] at k'; cases k'
      · have : (y == x) = false := by simpa using e
        simp only [this] at hy
        obtain ⟨v, e, r⟩ := hr y d hy k
        exact ⟨v, e, mv r⟩
    · rw [List.lookup_cons] at hy
      by_cases e : y = x
      · subst e
        simp only [beq_self_eq_true] at hy
        cases hy
        rcases h2 with ⟨k, _⟩ | ⟨k, c, hc, hi⟩
        · exact .inl k
        · exact .inr ⟨.inl k, c, _, hc, fun _ => .inr (.inr (.inl ⟨y, k, hc⟩)), hi, r⟩
      · have : (y == x) = false := by simpa using e
        simp only [this] at hy
        exact (I.en.cl y d hy).imp id fun ⟨h1, c, v, h2, ha, h3, r⟩ => ⟨h1, c, v, h2, fun k => .inr (.inr (.inl ⟨y, k, h2⟩)), h3, mv r⟩
theorem Inv.freeze {x : Str} {ds : List V} {h : Heap} (I : Inv X hb av0 env ρ (some (Own.lst x ds)) oa h) : Inv X hb av0 env ((x, .list ds) :: ρ) none none h :=
  ⟨I.ok, I.ext, I.base, I.view.1, I.view.2, I.fl, I.cs, I.fc, I.ap, I.d1, I.d2, fun _ q => (nomatch q), trivial⟩
theorem Same.some' {s s' : Shared} (x : Same env none s s') : Same env oa s s' := ⟨x.eq, fun b o n e => x.kp b o (fun q => n (by
  rcases q with q | q | q | q
  · exact .inl q
  · exact .inr (.inl q)
  · exact .inr (.inr (.inl q))
  · cases q)) e, x.al⟩
theorem OutOk.some' {hs : Heap} {out : Out} {fl : Flow} {h : Heap} (z : OutOk X hb av0 env none hs out fl h) : OutOk X hb av0 env oa hs out fl h := by
  have k : ∀ {oa'}, OaOk none hs oa' → OaOk oa hs oa' := fun h a e => .inr ((h a e).resolve_left (by simp))
  cases out with
  | next ρ ω => obtain ⟨a, b, c, d⟩ := z; exact ⟨a, b, c, k d⟩
  | brk ρ ω => obtain ⟨a, b, c, d⟩ := z; exact ⟨a, b, c, k d⟩
  | cont ρ ω => obtain ⟨a, b, c, d⟩ := z; exact ⟨a, b, c, k d⟩
  | ret d => exact z
  | retG d g y => exact z
theorem ExJ.freeze {x : Str} {ds : List V} {ss : List Stmt} {out : Out} (h : ExJ X n env ((x, .list ds) :: ρ) none ss out) : ExJ X n env ρ (some (Own.lst x ds)) ss out :=
  .mk fun A E s hb av0 oa b I => wpAny_mono (h.run A E s hb av0 none b I.freeze) (fun fl s' z => ⟨z.1.some', z.2.some'⟩) fun _ _ e => e
noncomputable def V.flat : V → Bool
  | .none | .bool _ | .int _ | .str _ => true
  | _ => false
theorem R.flat {av av' : Addr → Prop} {h h' : Heap} {v : Value} {d : V} (r : R av h v d) (hd : d.flat = true) : R av' h' v d := by
  cases r with
  | none => exact .none
  | bool => exact .bool _
  | int => exact .int _ _
  | str => exact .str _ _
  | tup => cases hd
  | list => cases hd
  | hdr => cases hd
  | raw => cases hd
theorem StJ.assignV {x y : Str} {ds : List V} {p pos : Pos} {e : Expr} {d : V} (h : EvJ X n env ((x, .list ds) :: ρ) e d) (hd : d.flat = true) (hy : Stores env (some (Own.lst x ds)) y) (hs : swapsWith e (some (.Name y p)) pos.line env = pure false) :
    StJ X n env ρ (some (Own.lst x ds)) (.Assign [.Name y p] e pos) (.next ((y, d) :: ρ) (some (Own.lst x ds))) :=
  .mk fun A E s hb av0 oa b I => wpAny_Assign_Name (wpAny_mono (h.run A E s _ b I.ok I.view.1 I.view.2) (fun v s₁ q => wpAny_mono ((I.step q.1).store (q.2.flat hd) hy.1 hy.2) (fun _ s₂ z => ⟨q.1.same.trans z.1, rfl, oa, z.2.1, .refl⟩) fun _ _ e => e) fun _ _ e => e) hs
theorem Inv.setOwn {x : Str} {a : Addr} {ds ds' : List V} {vs : List Value} {s : Shared} {h' : Heap} (I : Inv X hb av0 env ρ (some (Own.lst x ds)) (some a) s.heap) (hs : Heap.SameBut a s.heap h') (hl : h'.PlainList a vs.toArray) (hr : Rs (AvB av0 env (some a)) s.heap vs ds') :
    Inv X hb av0 env ρ (some (Own.lst x ds')) (some a) h' ∧ Same env (some a) s { s with heap := h' } := by
  have mv : ∀ {v : Value} {d : V}, R (AvB av0 env (some a)) s.heap v d → R (AvB av0 env (some a)) h' v d := fun r => r.move (fun b o nb e => (hs.2 b (fun q => nb (.inr (.inr (.inr (q ▸ rfl)))))).trans e) fun _ q => .inl q
  have mvs : Rs (AvB av0 env (some a)) h' vs ds' := hr.move (fun b o nb e => (hs.2 b (fun q => nb (.inr (.inr (.inr (q ▸ rfl)))))).trans e) fun _ q => .inl q
  obtain ⟨h1, h2, vs0, h3, h4⟩ := I.own
  have lv : Lv h' a := .list hl.isList
  obtain ⟨c1, c2, c3⟩ := I.change hs h1 lv (.list h3.isList)
  obtain ⟨m, hm, hr'⟩ := I.en.ns
  have nl : env.locals ≠ a := fun q => ns_list hm h3.isList q.symm
  have hm' : h'.Ns env.locals m := ns_ext hm fun o e => (hs.2 _ nl).trans e
  have nc : ∀ {c : Addr} {v : Option Value}, s.heap.IsCell c v → h'.IsCell c v := fun z => z.sameBut hs fun q => cell_list z h3.isList q.symm
  refine ⟨⟨c1, c2, I.base, c3, ⟨I.en.fn, I.en.gl, I.en.bl, .inr (.inl rfl), ⟨m, hm', fun y d h1 h2 => let ⟨v, e, r⟩ := hr' y d h1 h2; ⟨v, e, mv r⟩⟩, fun y d hy => ?_⟩, I.fl, I.cs, fun y c k hc => ?_, I.ap, I.d1, I.d2, I.d3, h1, ?_, vs, hl, mvs⟩, ⟨h', s.toks, rfl⟩, fun b o n e => (hs.2 b fun q => n (.inr (.inr (.inr (q ▸ rfl))))).trans e, al_same hs lv.1⟩
  · exact (I.en.cl y d hy).imp id fun ⟨h1, c, v, h2, ha, h3, r⟩ => ⟨h1, c, v, h2, ha, nc h3, mv r⟩
  · obtain ⟨v, z⟩ := I.fc y c k hc; exact ⟨v, nc z⟩
  · rcases h2 with ⟨k, m', hm2, e⟩ | ⟨k, c, hc, hi⟩
    · exact .inl ⟨k, m', ns_ext hm2 fun o e => (hs.2 _ nl).trans e, e⟩
    · exact .inr ⟨k, c, hc, nc hi⟩
theorem Inv.name {x : Str} {p : Pos} {a : Addr} {ds : List V} {s : Shared} {A : Around} {E : Value → Shared → Prop} (I : Inv X hb av0 env ρ (some (Own.lst x ds)) (some a) s.heap) (hd : (x == ("__debug__" : Str)) = false) :
    wpAny (MX X) A (eval (.Name x p) env) (fun v s' => s' = s ∧ v = .ref a) E s := by
  refine wpAny_Name ?_ hd
  obtain ⟨h1, h2, _⟩ := I.own
  rcases h2 with ⟨k, m, hm, e⟩ | ⟨k, c, hc, hi⟩
  · exact wpAny_loadName_local I.en.fn k hm e ⟨rfl, rfl⟩
  · exact wpAny_loadName_cell I.en.fn k hc hi ⟨rfl, rfl⟩
end
end
section
section
variable {X : Cx} {n : Nat} {env : Env} {ρ : List (Str × V)} {ω : Option Own} {hb : Heap} {av0 : Addr → Prop} {oa : Option Addr}
theorem Rs.reverse {av : Addr → Prop} {h : Heap} {vs : List Value} {ds : List V} (r : Rs av h vs ds) : Rs av h vs.reverse ds.reverse :=
  r.ind (P := fun vs ds => Rs av h vs.reverse ds.reverse) .nil fun _ _ _ _ r _ e => by rw [List.reverse_cons, List.reverse_cons]; exact e.snoc r
theorem Rs.eraseIdx {av : Addr → Prop} {h : Heap} {vs : List Value} {ds : List V} (k : Nat) (r : Rs av h vs ds) : Rs av h (vs.eraseIdx k) (ds.eraseIdx k) :=
  r.ind (P := fun vs ds => ∀ k, Rs av h (vs.eraseIdx k) (ds.eraseIdx k)) (fun _ => .nil) (fun _ _ _ _ r s ih k => by
    cases k with
    | zero => exact s
    | succ k => exact .cons r (ih k)) k
theorem Rs.set {av : Addr → Prop} {h : Heap} {v : Value} {d : V} (r0 : R av h v d) {vs : List Value} {ds : List V} (k : Nat) (r : Rs av h vs ds) : Rs av h (vs.set k v) (ds.set k d) :=
  r.ind (P := fun vs ds => ∀ k, Rs av h (vs.set k v) (ds.set k d)) (fun _ => .nil) (fun _ _ _ _ r s ih k => by
    cases k with
    | zero => exact .cons r0 s
    | succ k => exact .cons r (ih k)) k
theorem setItem_plain {A : Around} {E : Value → Shared → Prop} {s : Shared} {l : Addr} {items : Array Value} {k : Int} {t : Tok} {v : Value} {Q : Unit → Shared → Prop} (hl : s.heap.PlainList l items) (h0 : 0 ≤ k) (hn : k < items.size) (hfit : k < 2 ^ 63)
    (hQ : ∀ h', h'.PlainList l (items.setIfInBounds k.toNat v) → Heap.SameBut l s.heap h' → Q () { s with heap := h' }) : wpAny (MX X) A (setItem (.ref l) (.int k t) v) Q E s := by
  obtain ⟨m, e⟩ := hl
  have ty : s.TypeIs (.ref l) "list" := ⟨_, e, rfl⟩
  unfold setItem
  try with_reducible refine wpAny_holding ?_
  first | refine wpAny_bind (wpAny_pure ?_) | skip
  refine wpAny_bind (wpAny_sequenceKey ty (by decide) ?_)
  refine wpAny_bind (wpAny_callSpecial?_slot (name := Str.ofString "__setitem__") ty PySem.slot_list_setitem (wpAny_call_entry PySem.slot_list_setitem ty PySem.entry_list_setitem ?_ (PySem.args_list_setitem _ _ _)))
  show wpAny _ _ (Builtin.List.listSubscript? (.int k t) >>= _) _ _ s
  refine wpAny_bind (wpAny_listSubscript_int (fitsIndex_of h0 hfit) ?_)
  clear hfit
  obtain ⟨j, rfl⟩ := Int.eq_ofNat_of_zero_le h0
  have hj : j < items.size := by k_data
  have hx : items[j]? = some items[j] := Array.getElem?_eq_getElem hj
  have fin : (s.heap.update l (Obj.mapSeq (·.setIfInBounds j v))).PlainList l (items.setIfInBounds j v) := ⟨_, IsL.update (n := m) e _⟩
  show wpAny _ _ ((seqItemAt l j >>= fun r => pure (r.map (j, ·))) >>= _) _ _ s
  refine wpAny_bind (wpAny_bind (wpAny_seqItemAt e rfl (wpAny_pure ?_)))
  rw [hx]
  show wpAny _ _ (setSeqItemAt l j v >>= _) _ _ s
  refine wpAny_bind (wpAny_setSeqItemAt e rfl ?_)
  first
    | exact wpAny_bind (wpAny_pure (wpAny_pure ⟨.none, rfl, wpAny_pure (hQ _ fin (Heap.SameBut.update ..))⟩))
    | exact wpAny_pure ⟨.none, rfl, wpAny_pure (hQ _ fin (Heap.SameBut.update ..))⟩
theorem methTailO {o : Expr} {name : Str} {apos pos : Pos} {es : List Expr} {A : Around} {E : Value → Shared → Prop} {s : Shared} {u : Value} {id : String}
    (hg : ∀ (pl : Sem Bool) (Q : Value × List Value → Shared → Prop), Q (.builtin id, [u]) s → wpAny (MX X) A (getMethod u name pl) Q E s)
    (hp : (apos.endLine == pos.line) = true) (hst : es.any isStarred = false) (hn : es.length < 20)
    {Q : Value → Shared → Prop} (h : wpAny (MX X) A (callWith pos (.builtin id) [u] (backTo pos (starEach es env)) []) Q E s) :
    wpAny (MX X) A (methodCall o name apos pos env u (es.length + ([] : List Keyword).length) (backTo pos (starEach es env)) (backToKw pos (keywordEach [] env))) Q E s := by
  have hform : methodCallForm (es.length + ([] : List Keyword).length) (backTo pos (starEach es env)) (backToKw pos (keywordEach [] env)) = true := by
    unfold methodCallForm
    rw [starAll hst]
    show (true && true && decide (es.length + 0 + 0 < 30)) = true
    simp; k_data
  unfold methodCall
  rw [hform]
  refine wpAny_bind (wpAny_holding ?_)
  refine hg _ _ ?_
  refine wpAny_bind ?_
  unfold methodCallPos
  rw [hp]
  exact wpAny_pure h
theorem StJ.append {x : Str} {p apos pos spos : Pos} {e : Expr} {d : V} {ds : List V} (h : EvJ X n env ρ e d) (hlen : ds.length ≤ 1000) (hx : (x == ("__debug__" : Str)) = false)
    (hb : ∀ w, attributeBase (.Name x p) "append" env w = w) (hp : (apos.endLine == pos.line) = true) (hst : isStarred e = false) (hi : interactive env = false) (hs : swapsWith (.Call (.Attribute (.Name x p) "append" apos) [e] [] pos) none spos.line env = pure false) :
    StJ X n env ρ (some (Own.lst x ds)) (.Expr (.Call (.Attribute (.Name x p) "append" apos) [e] [] pos) spos) (.next ρ (some (Own.lst x (ds ++ [d])))) :=
  .mk fun A E s hb0 av0 oa b I => by
    have o := I.own
    cases oa with
    | none => exact o.elim
    | some a =>
      obtain ⟨h1, h2, vs0, h3, h4⟩ := o
      refine wpAny_Expr ?_ hi hs
      rw [arm_eval_Call, hb]
      refine wpAny_bind (wpAny_mono (I.name hx) (fun u s₀ q₁ => wpAny_bind (wpAny_standAt ?_)) fun _ _ e => e)
      obtain ⟨rfl, rfl⟩ := q₁
      refine methTailO (id := "list.append") (fun pl Q hQ => by obtain ⟨m, e⟩ := h3; exact Calls.getMethod_list_append e rfl rfl hQ) hp (by rw [List.any_cons, hst]; rfl) (by show 1 < 20; decide) (callWith_builtin (by rw [starEach_of hst]; rfl) ?_)
      have ev := (EvsJ.cons h EvsJ.nil (starEach_of hst)).run pos A (fun e s' => E e s') s₀ _ b I.ok I.avk I.en
      rw [starEach_of hst] at ev ⊢
      refine evalArgs_plain (wpAny_mono ev (fun vs s₁ q => ?_) fun _ _ e => e)
      obtain ⟨q1, q2⟩ := q
      (have hx := Rs.consI q2; clear q2; obtain ⟨v, _, rfl, r, rs⟩ := hx)
      case _ =>
        (first | (obtain ⟨_, rfl⟩ := R.intI rs; clear rs) | (obtain ⟨_, rfl⟩ := R.strI rs; clear rs) | (obtain rfl := R.boolI rs; clear rs) | (obtain rfl := Rs.nilI rs; clear rs) | (obtain rfl := R.noneI rs; clear rs) | cases rs)
        have I1 := I.step q1
        obtain ⟨_, _, vs1, g3, g4⟩ := I1.own
        refine wpAny_list_append_plain g3 (fun h' hl hs' => ?_) (by rw [List.size_toArray, g4.length, sizeLine_eq]; k_data)
        have z := I1.setOwn (vs := vs1 ++ [v]) (ds' := ds ++ [d]) hs' (by simpa using hl) (g4.snoc r)
        exact ⟨q1.same.trans z.2, rfl, some a, z.1, .refl⟩
theorem StJ.reverse {x : Str} {p apos pos spos : Pos} {ds : List V} (hlen : ds.length ≤ 1000) (hx : (x == ("__debug__" : Str)) = false)
    (hb : ∀ w, attributeBase (.Name x p) "reverse" env w = w) (hp : (apos.endLine == pos.line) = true) (hi : interactive env = false) (hs : swapsWith (.Call (.Attribute (.Name x p) "reverse" apos) [] [] pos) none spos.line env = pure false) :
    StJ X n env ρ (some (Own.lst x ds)) (.Expr (.Call (.Attribute (.Name x p) "reverse" apos) [] [] pos) spos) (.next ρ (some (Own.lst x (ds.reverse)))) :=
  .mk fun A E s hb0 av0 oa b I => by
    have o := I.own
    cases oa with
    | none => exact o.elim
    | some a =>
      obtain ⟨h1, h2, vs0, h3, h4⟩ := o
      refine wpAny_Expr ?_ hi hs
      rw [arm_eval_Call, hb]
      refine wpAny_bind (wpAny_mono (I.name hx) (fun u s₀ q₁ => wpAny_bind (wpAny_standAt ?_)) fun _ _ e => e)
      obtain ⟨rfl, rfl⟩ := q₁
      obtain ⟨m, e⟩ := h3
      refine methTailO (id := "list.reverse") (fun pl Q hQ => getMethod_list_of PySem.F.slot_list_reverse (by first | rfl | kernel_rfl) (Heap.PlainList.isList ⟨m, e⟩) ⟨_, e, rfl⟩ hQ) hp rfl (by decide) (callWith_builtin rfl (evalArgs_nil3 ?_))
      have hz : vs0.toArray.size ≤ sizeLine := by rw [List.size_toArray, h4.length, sizeLine_eq]; k_data
      refine call_meets PySem.F.slot_list_reverse ⟨_, e, rfl⟩ PySem.F.entry_list_reverse (PySem.F.args_list_reverse_1 _) (AutoSeq1.list_reverse_list_0 a vs0.toArray m hz) ⟨e, ?_⟩
      have z := I.setOwn (vs := vs0.reverse) (ds' := ds.reverse) (h' := s₀.heap.update a (Obj.mapSeq fun x => x.reverse)) (Heap.SameBut.update ..) ⟨m, by rw [Heap.get?_update_self _ e (by rw [mapSeq_reverse]; rfl), mapSeq_reverse]⟩ h4.reverse
      exact ⟨z.2, rfl, some a, z.1, .refl⟩
theorem StJ.delItem {x : Str} {p ipos pos : Pos} {e : Expr} {ds : List V} {i : Int} {k : Nat} (h : EvJ X n env ρ e (.int i)) (hlen : ds.length ≤ 1000) (hx : (x == ("__debug__" : Str)) = false) (hi : -1000 ≤ i ∧ i ≤ 1000) (hk : seqIndex? i ds.length = some k) :
    StJ X n env ρ (some (Own.lst x ds)) (.Delete [.Subscript (.Name x p) e ipos] pos) (.next ρ (some (Own.lst x (ds.eraseIdx k)))) :=
  .mk fun A E s hb0 av0 oa b I => by
    have o := I.own
    cases oa with
    | none => exact o.elim
    | some a =>
      refine wpAny_Delete (wpAny_deleteEach_cons ?_)
      rw [arm_delete_Subscript]
      refine wpAny_bind (wpAny_mono (I.name hx) (fun u s₀ q₁ => ?_) fun _ _ e => e)
      obtain ⟨rfl, rfl⟩ := q₁
      refine wpAny_bind (wpAny_holding (wpAny_mono (h.run A _ s₀ _ b I.ok I.avk I.en) (fun v s₁ q => ?_) fun _ _ e => e))
      obtain ⟨q1, r⟩ := q
      (first | (obtain ⟨_, rfl⟩ := R.intI r; clear r) | (obtain ⟨_, rfl⟩ := R.strI r; clear r) | (obtain rfl := R.boolI r; clear r) | (obtain rfl := Rs.nilI r; clear r) | (obtain rfl := R.noneI r; clear r) | cases r)
      have I1 := I.step q1
      obtain ⟨_, _, vs1, g3, g4⟩ := I1.own
      refine wpAny_bind (wpAny_standAt (wpAny_bind (wpAny_holding (wpAny_delItem_plain g3 (by unfold Builtin.List.listFitsIndex; simp; k_data) (by rw [List.size_toArray, g4.length]; exact hk) (fun h' hl hs' => ?_) (by rw [List.size_toArray, g4.length, sizeLine_eq]; k_data)))))
      have z := I1.setOwn (vs := vs1.eraseIdx k) (ds' := ds.eraseIdx k) hs' (by simpa using hl) (g4.eraseIdx k)
      refine wpAny_release' ?_
      exact wpAny_deleteEach_nil ⟨q1.same.trans z.2, rfl, some a, z.1, .refl⟩
end
end
section
section
variable {X : Cx} {n : Nat} {env : Env} {ρ : List (Str × V)} {ω : Option Own} {hb : Heap} {av0 : Addr → Prop} {oa : Option Addr}
theorem Rs.lk {av : Addr → Prop} {h : Heap} {vs : List Value} {ds : List V} (r : Rs av h vs ds) {i : Nat} {d : V} (e : ds[i]? = some d) : ∃ v, vs.toArray[i]? = some v ∧ R av h v d := by
  obtain ⟨v, hv, rr⟩ := r.get e; exact ⟨v, by rw [List.getElem?_toArray]; exact hv, rr⟩
theorem StJ.augSub {x : Str} {p ipos pos : Pos} {i e : Expr} {op : Operator} {ds : List V} {k : Int} {y d d' : V} (h1 : EvJ X n env ρ i (.int k)) (h2 : EvJ X n env ρ e d) (h0 : 0 ≤ k) (hk : k < 1000) (hy : ds[k.toNat]? = some y) (hop : InJ op y d d') (hx : (x == ("__debug__" : Str)) = false)
    (hi : ∀ ov iv new, augStore i ov iv new = (do holding [new, ov, iv] (setItem ov iv new); release [new, ov, iv] []; pure .next)) :
    StJ X n env ρ (some (Own.lst x ds)) (.AugAssign (.Subscript (.Name x p) i ipos) op e pos) (.next ρ (some (Own.lst x (ds.set k.toNat d')))) :=
  .mk fun A E s hb0 av0 oa b I => by
    have o := I.own
    cases oa with
    | none => exact o.elim
    | some a =>
      refine wpAny_AugAssign_SubscriptAny (wpAny_mono (I.name hx) (fun u s₀ q₁ => ?_) fun _ _ e => e) hi
      obtain ⟨rfl, rfl⟩ := q₁
      refine wpAny_mono (h1.run A _ s₀ _ b I.ok I.avk I.en) (fun iv s₁ q => ?_) fun _ _ e => e
      obtain ⟨q1, r⟩ := q
      cases r with
      | int _ t =>
        have I1 := I.step q1
        obtain ⟨_, _, vs1, g3, g4⟩ := I1.own
        obtain ⟨v0, e0, r0⟩ := g4.lk hy
        refine wpAny_getItem_list g3.isList h0 (by k_data) e0 ?_
        refine wpAny_mono (h2.run A _ s₁ _ b I1.ok I1.avk I1.en) (fun v s₂ q2 => ?_) fun _ _ e => e
        obtain ⟨q2, r2⟩ := q2
        have I2 := I1.step q2
        refine wpAny_mono (hop.run X n A _ s₂ _ v0 v b I2.ok I2.avk (r0.step I1.avk q2) r2) (fun new s₃ q3 => ?_) fun _ _ e => e
        obtain ⟨q3, r3⟩ := q3
        have I3 := I2.step q3
        obtain ⟨_, _, vs3, g5, g6⟩ := I3.own
        have hlt : k.toNat < ds.length := (List.getElem?_eq_some_iff.mp hy).1
        refine setItem_plain g5 h0 (by rw [List.size_toArray, g6.length]; k_data) (by k_data) fun h' hl hs' => ?_
        have z := I3.setOwn (vs := vs3.set k.toNat new) (ds' := ds.set k.toNat d') hs' (by simpa using hl) (Rs.set r3 k.toNat g6)
        exact ⟨((q1.same.trans q2.same).trans q3.same).trans z.2, rfl, some a, z.1, .refl⟩
inductive WhJ (X : Cx) (n : Nat) (env : Env) (test : Expr) (body orelse : List Stmt) : Nat → List (Str × V) → Option Own → Out → Prop
  | done {m ρ ω out} : TrJ X n env ρ test false → ExJ X n env ρ ω orelse out → WhJ X n env test body orelse m ρ ω out
  | next {m ρ ρ₂ ω ω₂ out} : TrJ X n env ρ test true → ExJ X n env ρ ω body (.next ρ₂ ω₂) → WhJ X n env test body orelse m ρ₂ ω₂ out → WhJ X n env test body orelse (m + 1) ρ ω out
theorem StJ.while {test : Expr} {body orelse : List Stmt} {pos : Pos} {m : Nat} {out : Out} (h : WhJ X n env test body orelse m ρ ω out) : StJ X n env ρ ω (.While test body orelse pos) out :=
  .mk fun A E s hb av0 oa b I => by
    refine wpAny_While ?_
    refine codeAny_whileLoop (fun k s' => ∃ ρ' ω' oa', Inv X hb av0 env ρ' ω' oa' s'.heap ∧ WhJ X n env test body orelse k ρ' ω' out ∧ Same env oa s s' ∧ OaOk oa s.heap oa') ?_ m ⟨ρ, ω, oa, I, h, .refl s, .refl⟩
    rintro k s' ⟨ρ', ω', oa', I', hw, sm, oo⟩
    cases hw with
    | done ht hx =>
      refine wpAny_mono (ht.run A _ s' _ b I'.ok I'.avk I'.en) (fun t s₁ q => ?_) fun _ _ e => e
      obtain ⟨q, rfl⟩ := q
      refine wpAny_mono (hx.run A _ s₁ hb av0 oa' b (I'.step q)) (fun fl s₂ z => ?_) fun _ _ e => e
      have sm1 := sm.trans' oo q.same
      exact ⟨sm1.trans' oo z.1, z.2.back sm1 oo⟩
    | next ht hx hr =>
      refine wpAny_mono (ht.run A _ s' _ b I'.ok I'.avk I'.en) (fun t s₁ q => ?_) fun _ _ e => e
      obtain ⟨q, rfl⟩ := q
      refine wpAny_mono (hx.run A _ s₁ hb av0 oa' b (I'.step q)) (fun fl s₂ z => ?_) fun _ _ e => e
      obtain ⟨z1, rfl, oa'', I2, o2⟩ := z
      have sm1 := sm.trans' oo q.same
      exact ⟨_, Nat.lt_succ_self _, _, _, oa'', I2, hr, sm1.trans' oo z1, oo.trans o2 sm1⟩
theorem StJ.expr {e : Expr} {pos : Pos} {d : V} (h : EvJ X n env ρ e d) (hd : d.flat = true) (hi : interactive env = false) (hs : swapsWith e none pos.line env = pure false) : StJ X n env ρ ω (.Expr e pos) (.next ρ ω) :=
  .mk fun A E s hb av0 oa b I => wpAny_Expr (wpAny_mono (h.run A E s _ b I.ok I.avk I.en) (fun v s₁ q => by
    obtain ⟨q1, r⟩ := q
    have fin : Same env oa s s₁ ∧ OutOk X hb av0 env oa s.heap (.next ρ ω) .next s₁.heap := ⟨q1.same, rfl, oa, I.step q1, .refl⟩
    cases r with
    | none => exact fin
    | bool => exact fin
    | int => exact fin
    | str => exact fin
    | tup => cases hd
    | list => cases hd
    | hdr => cases hd
    | raw => cases hd) fun _ _ e => e) hi hs
theorem StJ.assert {t : Expr} {m : Option Expr} {pos : Pos} (h : TrJ X n env ρ t true) : True := trivial
end
end
section
open PySem.Builtin PySem.Builtin.Str in
noncomputable def find4 (x y : Str) (a b : Int) : Int := match occurrences x y (fromIndex x.length a) (min (fromIndex x.length b) x.length) 1 with | k :: _ => (k : Int) | [] => -1
open PySem.Builtin PySem.Builtin.Str in
theorem gives_find4 (x y : Str) (a b : Int) (t u v w : Tok) : Gives («str.find» ⟨[.str x t, .str y u, .int a v, .int b w], []⟩) (.int (find4 x y a b)) := by
  show Gives (match occurrences x y (fromIndex x.length a) (min (fromIndex x.length b) x.length) 1 with | k :: _ => retInt k | [] => (do rule "str.find.not-found"; retInt (-1))) _
  unfold find4
  cases occurrences x y (fromIndex x.length a) (min (fromIndex x.length b) x.length) 1 with
  | nil => exact .rule (.of_eq rfl)
  | cons k _ => exact .of_eq rfl
section
variable {X : Cx} {n : Nat} {env : Env} {ρ : List (Str × V)}
theorem EvJ.bcall {e : Expr} {es : List Expr} {pos p : Pos} {ds : List V} {d : V} {id : String} {x : Str} (hf : GlV X n env ρ (.Name x p) (.builtin id)) (hs : EvsJ X n env ρ (e :: es) ds) (hc : CallJ X n (.builtin id) ds d)
    (hst : (e :: es).any isStarred = false) : EvJ X n env ρ (.Call (.Name x p) (e :: es) [] pos) d := .mk fun A E s av b G a VV => by
  refine wpAny_Call_Name_kw (wpAny_mono (hf.run A E s av b G VV) (fun v s₁ q => ?_) fun _ _ e => e)
  obtain ⟨rfl, rfl⟩ := q
  have hst' := hst
  rw [List.any_cons, Bool.or_eq_false_iff] at hst
  refine callWith_builtin (backTo_of hst') ?_
  have := hs.run pos A E s₁ av b G a VV
  rw [starEach_of hst.1] at this ⊢
  exact evalArgs_plain (wpAny_mono this (fun vs s₂ q => wpAny_mono (hc.run A E s₂ av vs b q.1.ok (a.step q.1) q.2) (fun r s₃ z => ⟨q.1.trans z.1, z.2⟩) fun _ _ e => e) fun _ _ e => e)
theorem CallJ.lenl {ds : List V} (h : ds.length ≤ 1000000) : CallJ X n (.builtin "len") [.list ds] (.int ds.length) :=
  .mk fun A E s av vs b G a r => by
    (have hx := Rs.consI r; clear r; obtain ⟨_, _, rfl, r1, r⟩ := hx)
    case _ => cases r; cases r1 with
      | list nl pl rs =>
        refine Calls.call_len_list pl.isList (by rw [List.size_toArray, rs.length]; k_data) ?_
        rw [List.size_toArray, rs.length]
        exact ⟨.tok G, .int _ _⟩
theorem CallJ.lens {x : Str} (h : x.length ≤ 1000000) : CallJ X n (.builtin "len") [.str x] (.int x.length) :=
  .mk fun A E s av vs b G a r => by
    cases r with
    | cons r1 r => cases r; cases r1; exact PyProof.Rows.len_str (by k_data) ⟨.tok G, .int _ _⟩
theorem CallJ.divmod {x y : Int} (h0 : y ≠ 0) (h : y.natAbs < 1073741824) : CallJ X n (.builtin "divmod") [.int x, .int y] (.tup [.int (x.fdiv y), .int (x.fmod y)]) :=
  .mk fun A E s av vs b G a r => by
    (have hx := Rs.consI r; clear r; obtain ⟨_, _, rfl, r1, r⟩ := hx)
    case _ => cases r with
      | cons r2 r => cases r; cases r1; cases r2; exact divmod_int h0 (by
          have z := newTup G a (.cons (.int (x.fdiv y) s.toks) (.cons (.int (x.fmod y) (s.toks + 1)) .nil))
          exact ⟨.keeps G fun _ _ e => Heap.get?_push_of_some _ e, z.2⟩) (.inl (PyProof.noPylong_small h))
theorem CallJ.hex {i : Int} (h : (baseText "0x" 16 i).length ≤ 1000000) : CallJ X n (.builtin "hex") [.int i] (.str (baseText "0x" 16 i)) :=
  .mk fun A E s av vs b G a r => by
    (have hx := Rs.consI r; clear r; obtain ⟨_, _, rfl, r1, r⟩ := hx)
    case _ => (first | (obtain ⟨_, rfl⟩ := R.intI r; clear r) | (obtain ⟨_, rfl⟩ := R.strI r; clear r) | (obtain rfl := R.boolI r; clear r) | (obtain rfl := Rs.nilI r; clear r) | (obtain rfl := R.noneI r; clear r) | cases r); (first | (obtain ⟨_, rfl⟩ := R.intI r1; clear r1) | (obtain ⟨_, rfl⟩ := R.strI r1; clear r1) | (obtain rfl := R.boolI r1; clear r1) | (obtain rfl := Rs.nilI r1; clear r1) | (obtain rfl := R.noneI r1; clear r1) | cases r1); exact P.hex_of_int ⟨.tok G, .str _ _⟩ (by rw [sizeLine_eq]; k_data)
theorem MethJ.bitlen {i : Int} : MethJ "bit_length" (.int i) [] (.int (Builtin.Int.intBits i)) :=
  ⟨_, fun M A E s av u pl Q r h => by (first | (obtain ⟨_, rfl⟩ := R.intI r; clear r) | (obtain ⟨_, rfl⟩ := R.strI r; clear r) | (obtain rfl := R.boolI r; clear r) | (obtain rfl := Rs.nilI r; clear r) | (obtain rfl := R.noneI r; clear r) | cases r); exact getMethod_int_bit_length h, fun X n A E s av u vs b G a r rs => by (first | (obtain ⟨_, rfl⟩ := R.intI r; clear r) | (obtain ⟨_, rfl⟩ := R.strI r; clear r) | (obtain rfl := R.boolI r; clear r) | (obtain rfl := Rs.nilI r; clear r) | (obtain rfl := R.noneI r; clear r) | cases r); (first | (obtain ⟨_, rfl⟩ := R.intI rs; clear rs) | (obtain ⟨_, rfl⟩ := R.strI rs; clear rs) | (obtain rfl := R.boolI rs; clear rs) | (obtain rfl := Rs.nilI rs; clear rs) | (obtain rfl := R.noneI rs; clear rs) | cases rs); exact call_int_bit_length ⟨.tok G, .int _ _⟩⟩
theorem MethJ.upper {x : Str} (h : (Txt.upper x).length ≤ 1000000) : MethJ "upper" (.str x) [] (.str (Txt.upper x)) :=
  ⟨_, fun M A E s av u pl Q r h => by (first | (obtain ⟨_, rfl⟩ := R.intI r; clear r) | (obtain ⟨_, rfl⟩ := R.strI r; clear r) | (obtain rfl := R.boolI r; clear r) | (obtain rfl := Rs.nilI r; clear r) | (obtain rfl := R.noneI r; clear r) | cases r); exact GM.upper h, fun X n A E s av u vs b G a r rs => by
    (first | (obtain ⟨_, rfl⟩ := R.intI r; clear r) | (obtain ⟨_, rfl⟩ := R.strI r; clear r) | (obtain rfl := R.boolI r; clear r) | (obtain rfl := Rs.nilI r; clear r) | (obtain rfl := R.noneI r; clear r) | cases r); (first | (obtain ⟨_, rfl⟩ := R.intI rs; clear rs) | (obtain ⟨_, rfl⟩ := R.strI rs; clear rs) | (obtain rfl := R.boolI rs; clear rs) | (obtain rfl := Rs.nilI rs; clear rs) | (obtain rfl := R.noneI rs; clear rs) | cases rs); exact SC.upper (by show decide (_ > sizeLine) = false; rw [sizeLine_eq]; exact decide_eq_false (by k_data)) ⟨.tok G, .str _ _⟩⟩
theorem MethJ.lower {x : Str} (h : (Txt.lower x).length ≤ 1000000) : MethJ "lower" (.str x) [] (.str (Txt.lower x)) :=
  ⟨_, fun M A E s av u pl Q r h => by (first | (obtain ⟨_, rfl⟩ := R.intI r; clear r) | (obtain ⟨_, rfl⟩ := R.strI r; clear r) | (obtain rfl := R.boolI r; clear r) | (obtain rfl := Rs.nilI r; clear r) | (obtain rfl := R.noneI r; clear r) | cases r); exact GM.lower h, fun X n A E s av u vs b G a r rs => by
    (first | (obtain ⟨_, rfl⟩ := R.intI r; clear r) | (obtain ⟨_, rfl⟩ := R.strI r; clear r) | (obtain rfl := R.boolI r; clear r) | (obtain rfl := Rs.nilI r; clear r) | (obtain rfl := R.noneI r; clear r) | cases r); (first | (obtain ⟨_, rfl⟩ := R.intI rs; clear rs) | (obtain ⟨_, rfl⟩ := R.strI rs; clear rs) | (obtain rfl := R.boolI rs; clear rs) | (obtain rfl := Rs.nilI rs; clear rs) | (obtain rfl := R.noneI rs; clear rs) | cases rs); exact SC.lower (by show decide (_ > sizeLine) = false; rw [sizeLine_eq]; exact decide_eq_false (by k_data)) ⟨.tok G, .str _ _⟩⟩
theorem MethJ.startswith {x y : Str} : MethJ "startswith" (.str x) [.str y] (.bool (Txt.startswith x y)) :=
  ⟨_, fun M A E s av u pl Q r h => by (first | (obtain ⟨_, rfl⟩ := R.intI r; clear r) | (obtain ⟨_, rfl⟩ := R.strI r; clear r) | (obtain rfl := R.boolI r; clear r) | (obtain rfl := Rs.nilI r; clear r) | (obtain rfl := R.noneI r; clear r) | cases r); exact GM.startswith h, fun X n A E s av u vs b G a r rs => by
    (first | (obtain ⟨_, rfl⟩ := R.intI r; clear r) | (obtain ⟨_, rfl⟩ := R.strI r; clear r) | (obtain rfl := R.boolI r; clear r) | (obtain rfl := Rs.nilI r; clear r) | (obtain rfl := R.noneI r; clear r) | cases r); (have hx := Rs.consI rs; clear rs; obtain ⟨_, _, rfl, r1, rs⟩ := hx)
    case _ => (first | (obtain ⟨_, rfl⟩ := R.intI rs; clear rs) | (obtain ⟨_, rfl⟩ := R.strI rs; clear rs) | (obtain rfl := R.boolI rs; clear rs) | (obtain rfl := Rs.nilI rs; clear rs) | (obtain rfl := R.noneI rs; clear rs) | cases rs); (first | (obtain ⟨_, rfl⟩ := R.intI r1; clear r1) | (obtain ⟨_, rfl⟩ := R.strI r1; clear r1) | (obtain rfl := R.boolI r1; clear r1) | (obtain rfl := Rs.nilI r1; clear r1) | (obtain rfl := R.noneI r1; clear r1) | cases r1); exact SC.startswith ⟨.refl G, .bool _⟩⟩
theorem MethJ.endswith {x y : Str} : MethJ "endswith" (.str x) [.str y] (.bool (Txt.endswith x y)) :=
  ⟨_, fun M A E s av u pl Q r h => by (first | (obtain ⟨_, rfl⟩ := R.intI r; clear r) | (obtain ⟨_, rfl⟩ := R.strI r; clear r) | (obtain rfl := R.boolI r; clear r) | (obtain rfl := Rs.nilI r; clear r) | (obtain rfl := R.noneI r; clear r) | cases r); exact GM.endswith h, fun X n A E s av u vs b G a r rs => by
    (first | (obtain ⟨_, rfl⟩ := R.intI r; clear r) | (obtain ⟨_, rfl⟩ := R.strI r; clear r) | (obtain rfl := R.boolI r; clear r) | (obtain rfl := Rs.nilI r; clear r) | (obtain rfl := R.noneI r; clear r) | cases r); (have hx := Rs.consI rs; clear rs; obtain ⟨_, _, rfl, r1, rs⟩ := hx)
    case _ => (first | (obtain ⟨_, rfl⟩ := R.intI rs; clear rs) | (obtain ⟨_, rfl⟩ := R.strI rs; clear rs) | (obtain rfl := R.boolI rs; clear rs) | (obtain rfl := Rs.nilI rs; clear rs) | (obtain rfl := R.noneI rs; clear rs) | cases rs); (first | (obtain ⟨_, rfl⟩ := R.intI r1; clear r1) | (obtain ⟨_, rfl⟩ := R.strI r1; clear r1) | (obtain rfl := R.boolI r1; clear r1) | (obtain rfl := Rs.nilI r1; clear r1) | (obtain rfl := R.noneI r1; clear r1) | cases r1); exact SC.endswith ⟨.refl G, .bool _⟩⟩
theorem MethJ.find {x y : Str} {i j : Int} : MethJ "find" (.str x) [.str y, .int i, .int j] (.int (find4 x y i j)) :=
  ⟨_, fun M A E s av u pl Q r h => by (first | (obtain ⟨_, rfl⟩ := R.intI r; clear r) | (obtain ⟨_, rfl⟩ := R.strI r; clear r) | (obtain rfl := R.boolI r; clear r) | (obtain rfl := Rs.nilI r; clear r) | (obtain rfl := R.noneI r; clear r) | cases r); exact GM.find h, fun X n A E s av u vs b G a r rs => by
    (first | (obtain ⟨_, rfl⟩ := R.intI r; clear r) | (obtain ⟨_, rfl⟩ := R.strI r; clear r) | (obtain rfl := R.boolI r; clear r) | (obtain rfl := Rs.nilI r; clear r) | (obtain rfl := R.noneI r; clear r) | cases r); (have hx := Rs.consI rs; clear rs; obtain ⟨_, _, rfl, r1, rs⟩ := hx)
    case _ => cases rs with
      | cons r2 rs => cases rs with
        | cons r3 rs => (first | (obtain ⟨_, rfl⟩ := R.intI rs; clear rs) | (obtain ⟨_, rfl⟩ := R.strI rs; clear rs) | (obtain rfl := R.boolI rs; clear rs) | (obtain rfl := Rs.nilI rs; clear rs) | (obtain rfl := R.noneI rs; clear rs) | cases rs); (first | (obtain ⟨_, rfl⟩ := R.intI r1; clear r1) | (obtain ⟨_, rfl⟩ := R.strI r1; clear r1) | (obtain rfl := R.boolI r1; clear r1) | (obtain rfl := Rs.nilI r1; clear r1) | (obtain rfl := R.noneI r1; clear r1) | cases r1); (first | (obtain ⟨_, rfl⟩ := R.intI r2; clear r2) | (obtain ⟨_, rfl⟩ := R.strI r2; clear r2) | (obtain rfl := R.boolI r2; clear r2) | (obtain rfl := Rs.nilI r2; clear r2) | (obtain rfl := R.noneI r2; clear r2) | cases r2); (first | (obtain ⟨_, rfl⟩ := R.intI r3; clear r3) | (obtain ⟨_, rfl⟩ := R.strI r3; clear r3) | (obtain rfl := R.boolI r3; clear r3) | (obtain rfl := Rs.nilI r3; clear r3) | (obtain rfl := R.noneI r3; clear r3) | cases r3)
                        exact call_gives F.slot_str_find (typeIs_str _ _ _) F.entry_str_find (F.args_str_find_4 _ _ _ _) (gives_find4 x y i j _ _ _ _) ⟨.tok G, .int _ _⟩⟩
theorem strs_of {av : Addr → Prop} {h : Heap} : ∀ {vs : List Value} {ts : List Str}, Rs av h vs (ts.map V.str) → ∃ l : List (Str × Tok), strValues l = vs ∧ l.map (·.1) = ts
  | [], [], _ => ⟨[], rfl, rfl⟩
  | v :: vs, t :: ts, r => by
    cases r with
    | cons r rs =>
      obtain ⟨l, h1, h2⟩ := strs_of rs
      (first | (obtain ⟨_, rfl⟩ := R.intI r; clear r) | (obtain ⟨_, rfl⟩ := R.strI r; clear r) | (obtain rfl := R.boolI r; clear r) | (obtain rfl := Rs.nilI r; clear r) | (obtain rfl := R.noneI r; clear r) | cases r)
      exact ⟨(_, _) :: l, by rw [← h1]; rfl, by rw [← h2]; rfl⟩
  | [], t :: ts, r => by (first | (obtain ⟨_, rfl⟩ := R.intI r; clear r) | (obtain ⟨_, rfl⟩ := R.strI r; clear r) | (obtain rfl := R.boolI r; clear r) | (obtain rfl := Rs.nilI r; clear r) | (obtain rfl := R.noneI r; clear r) | cases r)
  | v :: vs, [], r => by (first | (obtain ⟨_, rfl⟩ := R.intI r; clear r) | (obtain ⟨_, rfl⟩ := R.strI r; clear r) | (obtain rfl := R.boolI r; clear r) | (obtain rfl := Rs.nilI r; clear r) | (obtain rfl := R.noneI r; clear r) | cases r)
theorem MethJ.join {x : Str} {ts : List Str} (hok : JoinOk x ts = true) : MethJ "join" (.str x) [.list (ts.map V.str)] (.str (Txt.join x ts)) :=
  ⟨_, fun M A E s av u pl Q r h => by (first | (obtain ⟨_, rfl⟩ := R.intI r; clear r) | (obtain ⟨_, rfl⟩ := R.strI r; clear r) | (obtain rfl := R.boolI r; clear r) | (obtain rfl := Rs.nilI r; clear r) | (obtain rfl := R.noneI r; clear r) | cases r); exact GM.join h, fun X n A E s av u vs b G a r rs => by
    (first | (obtain ⟨_, rfl⟩ := R.intI r; clear r) | (obtain ⟨_, rfl⟩ := R.strI r; clear r) | (obtain rfl := R.boolI r; clear r) | (obtain rfl := Rs.nilI r; clear r) | (obtain rfl := R.noneI r; clear r) | cases r); (have hx := Rs.consI rs; clear rs; obtain ⟨_, _, rfl, r1, rs⟩ := hx)
    case _ => cases rs; cases r1 with
      | list nl pl rs =>
        obtain ⟨l, h1, h2⟩ := strs_of rs
        subst h1
        exact SC.join pl.isList h2 hok fun t' k => ⟨.tok G, .str _ _⟩⟩
end
end
section
open PySem.Builtin PySem.Builtin.Str in
theorem split1P {prog : Program} {w : World} {A : Around} {E : Value → Shared → Prop} {s : Shared} {x y : Str} {t u : Tok} {Q : Value → Shared → Prop} (hy : (y.length == 0) = false) (hsz : x.length ≤ sizeLine)
    (hsz2 : (partsBetween x (occurrences x y 0 x.length (x.length + 1)) y.length).length ≤ sizeLine)
    (hq : ∀ l tk, l.map (·.1) = Txt.split x y → Q (.ref s.heap.objs.size) { s with heap := s.heap.push { cls := .type "list", data := .seq (strValues l).toArray }, toks := tk }) :
    wpAny (model prog w) A (call (.builtin "str.split") [.str x t, .str y u]) Q E s := by
  cases h1 : (decide (x.length < y.length) || decide (strKind x < strKind y))
  · cases hf : (occurrences x y 0 x.length (x.length + 1)).isEmpty
    · refine call_meets F.slot_str_split (typeIs_str _ _ _) F.entry_str_split (F.args_str_split_2 _ _) (meets_str_split_sep x y t u h1 hy hf hsz hsz2) ?_
      show wants Q E _ { s with toks := _, heap := s.heap.push { cls := .type "list", data := .seq (strsFrom s.toks (partsBetween x (occurrences x y 0 x.length (x.length + 1)) y.length)).toArray } }
      rw [strsFrom_eq]
      exact hq (numbered s.toks _) _ ((numbered_texts _ _).trans ((if_neg (ne_true_of_eq_false h1)).trans (if_neg (ne_true_of_eq_false hf))).symm)
    · exact call_meets F.slot_str_split (typeIs_str _ _ _) F.entry_str_split (F.args_str_split_2 _ _) (meets_str_split_not_found x y t u h1 hy hf)
        (hq [(x, t)] s.toks ((if_neg (ne_true_of_eq_false h1)).trans (if_pos hf)).symm)
  · exact call_meets F.slot_str_split (typeIs_str _ _ _) F.entry_str_split (F.args_str_split_2 _ _) (meets_str_split_cannot_occur x y t u h1)
      (hq [(x, t)] s.toks (if_pos h1).symm)
theorem rs_strs {av : Addr → Prop} {h : Heap} : ∀ {l : List (Str × Tok)} {ts : List Str}, l.map (·.1) = ts → Rs av h (strValues l) (ts.map V.str)
  | [], _, rfl => .nil
  | (x, t) :: l, _, rfl => .cons (.str _ _) (rs_strs rfl)
section
variable {X : Cx} {n : Nat} {env : Env} {ρ : List (Str × V)} {ω : Option Own}
theorem FrJ.ev {e : Expr} {ds : List V} (h : FrJ X n env ρ e ds) : EvJ X n env ρ e (.list ds) :=
  .mk fun A E s av b G a VV => wpAny_mono (h.run A E s av b G a VV) (fun v s₁ q => by
    obtain ⟨q1, c, vs, rfl, lt, pl, rs⟩ := q
    refine ⟨q1, .list (fun z => ?_) pl (rs.move (fun _ _ _ e => e) fun _ q => .inl (.inl q))⟩
    obtain ⟨⟨o, e⟩, _⟩ := a.live c z
    exact Nat.lt_irrefl _ (lt c o e)) fun _ _ e => e
open PySem.Builtin PySem.Builtin.Str in
theorem FrJ.split {o e : Expr} {apos pos : Pos} {x y : Str} (h1 : EvJ X n env ρ o (.str x)) (h2 : EvJ X n env ρ e (.str y)) (hy : (y.length == 0) = false) (hsz : x.length ≤ 1000000)
    (hsz2 : (partsBetween x (occurrences x y 0 x.length (x.length + 1)) y.length).length ≤ 1000000)
    (hb : ∀ w, attributeBase o "split" env w = w) (hp : (apos.endLine == pos.line) = true) (hst : isStarred e = false) : FrJ X n env ρ (.Call (.Attribute o "split" apos) [e] [] pos) ((Txt.split x y).map V.str) := .mk fun A E s av b G a VV => by
  rw [arm_eval_Call, hb]
  refine wpAny_bind (wpAny_mono (h1.run A E s av b G a VV) (fun u s₁ q₁ => wpAny_bind (wpAny_standAt ?_)) fun _ _ e => e)
  have a1 := a.step q₁.1
  obtain ⟨q1, r⟩ := q₁
  cases r with
  | str _ t =>
    refine methTailO (id := "str.split") (fun pl Q hQ => GM.split hQ) hp (by rw [List.any_cons, hst]; rfl) (by show 1 < 20; decide) (callWith_builtin (by rw [starEach_of hst]; rfl) ?_)
    have ev := (EvsJ.cons h2 EvsJ.nil (starEach_of hst)).run pos A E s₁ av b q1.ok a1 (VV.step G a q1)
    rw [starEach_of hst] at ev ⊢
    refine evalArgs_plain (wpAny_mono ev (fun vs s₂ q => ?_) fun _ _ e => e)
    obtain ⟨q2, rr⟩ := q
    (have hx := Rs.consI rr; clear rr; obtain ⟨_, _, rfl, r2, rs⟩ := hx)
    case _ =>
      (first | (obtain ⟨_, rfl⟩ := R.intI rs; clear rs) | (obtain ⟨_, rfl⟩ := R.strI rs; clear rs) | (obtain rfl := R.boolI rs; clear rs) | (obtain rfl := Rs.nilI rs; clear rs) | (obtain rfl := R.noneI rs; clear rs) | cases rs)
      (first | (obtain ⟨_, rfl⟩ := R.intI r2; clear r2) | (obtain ⟨_, rfl⟩ := R.strI r2; clear r2) | (obtain rfl := R.boolI r2; clear r2) | (obtain rfl := Rs.nilI r2; clear r2) | (obtain rfl := R.noneI r2; clear r2) | cases r2)
      refine split1P hy (by rw [sizeLine_eq]; k_data) (by rw [sizeLine_eq]; k_data) fun l tk hl => ?_
      have all := q1.trans q2
      refine ⟨all.trans (.push q2.ok), s₂.heap.objs.size, strValues l, rfl, fun b o e => ?_, ⟨_, Heap.get?_push_size _ rfl⟩, rs_strs hl⟩
      obtain ⟨o', e'⟩ := (all.same (env := env) (oa := none)).al b o e
      exact Heap.lt_size e'
/-! slices of lists -/
theorem Rs.part {av : Addr → Prop} {h : Heap} {vs : List Value} {ds : List V} (r : Rs av h vs ds) (a k : Nat) : Rs av h ((vs.drop a).take k) ((ds.drop a).take k) := (r.drop a).take k
theorem SliJ.from {l : List V} {a : Nat} (hsz : l.length ≤ 1000000) : SliJ (.list l) (some (a : Int)) none (.list (l.drop a)) :=
  .mk fun X n A E s av u vl vu sl b G k r p1 p2 hs => by
    (have hx := R.listI r; clear r; obtain ⟨c, vs, rfl, nl, pl, rs⟩ := hx)
    case _ =>
      refine ⟨_, _, pl.isList.typeIs, slot_list_getitem.lookup, wpAny_getItem_list_slice pl.isList ⟨_, hs, rfl, rfl⟩ p1 p2 .none (by simp) ?_ (by rw [List.size_toArray, rs.length, sizeLine_eq]; k_data)⟩
      rw [slicePick_from']
      exact newSeq G k (rs.drop a)
theorem SliJ.upto {l : List V} {a : Nat} (hsz : l.length ≤ 1000000) : SliJ (.list l) none (some (a : Int)) (.list (l.take a)) :=
  .mk fun X n A E s av u vl vu sl b G k r p1 p2 hs => by
    (have hx := R.listI r; clear r; obtain ⟨c, vs, rfl, nl, pl, rs⟩ := hx)
    case _ =>
      refine ⟨_, _, pl.isList.typeIs, slot_list_getitem.lookup, wpAny_getItem_list_slice pl.isList ⟨_, hs, rfl, rfl⟩ p1 p2 .none (by simp) ?_ (by rw [List.size_toArray, rs.length, sizeLine_eq]; k_data)⟩
      rw [slicePick_upto']
      exact newSeq G k (rs.take a)
theorem SliJ.all {l : List V} (hsz : l.length ≤ 1000000) : SliJ (.list l) none none (.list l) :=
  .mk fun X n A E s av u vl vu sl b G k r p1 p2 hs => by
    (have hx := R.listI r; clear r; obtain ⟨c, vs, rfl, nl, pl, rs⟩ := hx)
    case _ =>
      refine ⟨_, _, pl.isList.typeIs, slot_list_getitem.lookup, wpAny_getItem_list_slice pl.isList ⟨_, hs, rfl, rfl⟩ p1 p2 .none (by simp) ?_ (by rw [List.size_toArray, rs.length, sizeLine_eq]; k_data)⟩
      rw [slicePick_all]
      exact newSeq G k rs
noncomputable def subStr (x : Str) (lo hi : Option Int) : Str :=
  if ((Builtin.Str.strSliceIndices lo hi 1 x.length).length == x.length) = true then x else ⟨((Builtin.Str.strSliceIndices lo hi 1 x.length).filterMap (x.cps[·]?)).toArray⟩
theorem part_of {v : Value} {i : Option Int} (p : IsPart v i) : ∃ l : Option (Int × Tok), v = partValue l ∧ l.map (·.1) = i := by
  cases p with
  | none => exact ⟨none, rfl, rfl⟩
  | int i t => exact ⟨some (i, t), rfl, rfl⟩
theorem SliJ.str {x : Str} {lo hi : Option Int} (hsz : (subStr x lo hi).length ≤ 1000000) : SliJ (.str x) lo hi (.str (subStr x lo hi)) :=
  .mk fun X n A E s av u vl vu sl b G k r p1 p2 hs => by
    cases r with
    | str _ t =>
      obtain ⟨l1, rfl, e1⟩ := part_of p1
      obtain ⟨l2, rfl, e2⟩ := part_of p2
      refine ⟨_, _, typeIs_str _ _ _, slot_str_getitem.lookup, wpAny_getItem_str_slice (l := l1) (u := l2) (st := none) ⟨_, hs, rfl, rfl⟩ rfl ?_⟩
      unfold sliceMade slicePicked
      unfold subStr at hsz ⊢
      rw [e1, e2]
      simp only [Option.map_none, Option.getD_none, beq_self_eq_true, Bool.true_and]
      split
      · exact ⟨.refl G, .str _ _⟩
      · rename_i h; rw [if_neg h] at hsz; exact ⟨by rw [sizeLine_eq]; k_data, .tok G, .str _ _⟩
end
end
section
inductive Sub (ρ : List (Str × V)) : List (Str × V) → Prop
  | nil : Sub ρ []
  | cons {x d ρ'} : Lk ρ x d → Sub ρ ρ' → Sub ρ ((x, d) :: ρ')
theorem Sub.lk {ρ ρ' : List (Str × V)} (h : Sub ρ ρ') : ∀ x d, ρ'.lookup x = some d → ρ.lookup x = some d := by
  induction h with
  | nil => intro x d e; cases e
  | @cons y e ρ' h1 h2 ih =>
    intro x d h
    rw [List.lookup_cons] at h
    by_cases q : x = y
    · subst q
      simp only [beq_self_eq_true] at h
      cases h
      exact h1.lk
    · have : (x == y) = false := by simpa using q
      simp only [this] at h
      exact ih x d h
theorem GetJ.listNeg {l : List V} {k : Int} {d : V} (h0 : k < 0) (h1 : -(l.length : Int) ≤ k) (hk : -1000000 ≤ k) (hd : l[(k + l.length).toNat]? = some d) : GetJ (.list l) (.int k) d := .mk fun X m A E s av u v b G a r1 r2 => by
  (have hx := R.listI r1; clear r1; obtain ⟨a1, vs1, rfl, n1, x1, s1⟩ := hx)
  case _ =>
    (first | (obtain ⟨_, rfl⟩ := R.intI r2; clear r2) | (obtain ⟨_, rfl⟩ := R.strI r2; clear r2) | (obtain rfl := R.boolI r2; clear r2) | (obtain rfl := Rs.nilI r2; clear r2) | (obtain rfl := R.noneI r2; clear r2) | cases r2)
    obtain ⟨v, hv, r⟩ := s1.get hd
    have e : vs1.toArray.size = l.length := by rw [List.size_toArray, s1.length]
    exact ⟨_, _, x1.isList.typeIs, slot_list_getitem.lookup, wpAny_getItem_list_neg x1.isList h0 (by rw [e]; exact h1) (by k_data) (by rw [e, List.getElem?_toArray]; exact hv) ⟨.refl G, r⟩⟩
section
variable {X : Cx} {n : Nat} {env : Env} {ρ : List (Str × V)} {ω : Option Own}
theorem ExJ.to {ρ₂ ρ₂' : List (Str × V)} {ω₂ : Option Own} {ss : List Stmt} (h : ExJ X n env ρ ω ss (.next ρ₂ ω₂)) (w : Sub ρ₂ ρ₂') : ExJ X n env ρ ω ss (.next ρ₂' ω₂) :=
  .mk fun A E s hb av0 oa b I => wpAny_mono (h.run A E s hb av0 oa b I) (fun fl s' z => ⟨z.1, let ⟨a, c, d, e⟩ := z.2; ⟨a, c, d.weak w.lk, e⟩⟩) fun _ _ e => e
theorem StJ.to {ρ₂ ρ₂' : List (Str × V)} {ω₂ : Option Own} {st : Stmt} (h : StJ X n env ρ ω st (.next ρ₂ ω₂)) (w : Sub ρ₂ ρ₂') : StJ X n env ρ ω st (.next ρ₂' ω₂) :=
  .mk fun A E s hb av0 oa b I => wpAny_mono (h.run A E s hb av0 oa b I) (fun fl s' z => ⟨z.1, let ⟨a, c, d, e⟩ := z.2; ⟨a, c, d.weak w.lk, e⟩⟩) fun _ _ e => e
theorem ExJ.one {ρ' : List (Str × V)} {ω' : Option Own} {st : Stmt} (h : StJ X n env ρ ω st (.next ρ' ω')) : ExJ X n env ρ ω [st] (.next ρ' ω') := .cons h .nil
theorem CallJ.mono {m : Nat} {f : Value} {args : List V} {d : V} (h : CallJ X n f args d) (hm : n ≤ m) : CallJ X m f args d := .mk fun A E s av vs b G a r => h.run A E s av vs (b.le hm) G a r
theorem ExJ.sub {ρ' : List (Str × V)} {ss : List Stmt} {out : Out} (w : Sub ρ ρ') (h : ExJ X n env ρ' ω ss out) : ExJ X n env ρ ω ss out :=
  .mk fun A E s hb av0 oa b I => h.run A E s hb av0 oa b (I.weak w.lk)
theorem StJ.sub {ρ' : List (Str × V)} {st : Stmt} {out : Out} (w : Sub ρ ρ') (h : StJ X n env ρ' ω st out) : StJ X n env ρ ω st out :=
  .mk fun A E s hb av0 oa b I => h.run A E s hb av0 oa b (I.weak w.lk)
theorem StJ.assertOk {t : Expr} {pos : Pos} (h : TrJ X n env ρ t true) : StJ X n env ρ ω (.Assert t none pos) (.next ρ ω) :=
  .mk fun A E s hb av0 oa b I => wpAny_Assert_new b.hh (wpAny_mono (h.run A E s _ b I.ok I.avk I.en) (fun r s₁ q => by
    obtain ⟨q, rfl⟩ := q
    exact ⟨q.same, rfl, oa, I.step q, .refl⟩) fun _ _ e => e)
theorem StJ.iteV {x : Str} {ds : List V} {t : Expr} {p q : List Stmt} {pos : Pos} {c : Bool} {out : Out} (h : TrJ X n env ((x, .list ds) :: ρ) t c) (h1 : c = true → ExJ X n env ρ (some (Own.lst x ds)) p out) (h2 : c = false → ExJ X n env ρ (some (Own.lst x ds)) q out) : StJ X n env ρ (some (Own.lst x ds)) (.If t p q pos) out :=
  .mk fun A E s hb av0 oa b I => wpAny_If (wpAny_mono (h.run A E s _ b I.ok I.view.1 I.view.2) (fun r s₁ q => by
    obtain ⟨q, rfl⟩ := q
    cases r with
    | true => exact wpAny_mono ((h1 rfl).run A E s₁ hb av0 oa b (I.step q)) (fun fl s₂ z => ⟨q.same.trans z.1, z.2.back (q.same (env := env) (oa := oa)) .refl⟩) fun _ _ e => e
    | false => exact wpAny_mono ((h2 rfl).run A E s₁ hb av0 oa b (I.step q)) (fun fl s₂ z => ⟨q.same.trans z.1, z.2.back (q.same (env := env) (oa := oa)) .refl⟩) fun _ _ e => e) fun _ _ e => e)
theorem StJ.assertV {x : Str} {ds : List V} {t : Expr} {pos : Pos} (h : TrJ X n env ((x, .list ds) :: ρ) t true) : StJ X n env ρ (some (Own.lst x ds)) (.Assert t none pos) (.next ρ (some (Own.lst x ds))) :=
  .mk fun A E s hb av0 oa b I => wpAny_Assert_new b.hh (wpAny_mono (h.run A E s _ b I.ok I.view.1 I.view.2) (fun r s₁ q => by
    obtain ⟨q, rfl⟩ := q
    exact ⟨q.same, rfl, oa, I.step q, .refl⟩) fun _ _ e => e)
theorem TrJ.eq {t : Expr} {c c' : Bool} (h : TrJ X n env ρ t c) (e : c = c') : TrJ X n env ρ t c' := e ▸ h
theorem StJ.iteT {t : Expr} {p q : List Stmt} {pos : Pos} {c : Bool} {out : Out} (h : TrJ X n env ρ t c) (e : c = true) (h1 : ExJ X n env ρ ω p out) : StJ X n env ρ ω (.If t p q pos) out := .ite h (fun _ => h1) (fun f => by rw [e] at f; cases f)
theorem StJ.iteF {t : Expr} {p q : List Stmt} {pos : Pos} {c : Bool} {out : Out} (h : TrJ X n env ρ t c) (e : c = false) (h1 : ExJ X n env ρ ω q out) : StJ X n env ρ ω (.If t p q pos) out := .ite h (fun f => by rw [e] at f; cases f) (fun _ => h1)
theorem LoopJ.fold {target : Expr} {body orelse : List Stmt} {α σ : Type} {out : Out} (emb : α → V) (ρf : σ → List (Str × V)) (ωf : σ → Option Own) (step : σ → α → σ) (l : List α) (P : σ → Prop) (hP : ∀ σ a, a ∈ l → P σ → P (step σ a))
    (hb : ∀ σ a, a ∈ l → P σ → ∃ ρ₁, TgJ X env (ωf σ) target (emb a) (ρf σ) ρ₁ ∧ ExJ X n env ρ₁ (ωf σ) body (.next (ρf (step σ a)) (ωf (step σ a)))) (σ : σ) (h0 : P σ) (he : P (l.foldl step σ) → ExJ X n env (ρf (l.foldl step σ)) (ωf (l.foldl step σ)) orelse out) :
    LoopJ X n env target body orelse (l.map emb) (ρf σ) (ωf σ) out := by
  induction l generalizing σ with
  | nil => exact .nil (he h0)
  | cons a l ih =>
    obtain ⟨ρ₁, t, x⟩ := hb σ a (.head _) h0
    exact .next t x (ih (fun σ b hm => hP σ b (.tail _ hm)) (fun σ b hm => hb σ b (.tail _ hm)) _ (hP σ a (.head _) h0) he)
theorem BdsJ.of {target : Expr} {ifs : List Expr} {emit : Value → Sem Unit} {α : Type} (emb : α → V) (l : List α) (F : α → List V) (hb : ∀ a ∈ l, BdJ X n env ρ target ifs emit (emb a) (F a)) : BdsJ X n env ρ target ifs emit (l.map emb) (l.flatMap F) := by
  induction l with
  | nil => exact fun _ => .nil
  | cons a l ih =>
    rw [List.map_cons, List.flatMap_cons]
    obtain ⟨ρ₁, b, h1, h2, h3, h4, h5⟩ := hb a (.head _)
    exact fun L => .cons ⟨⟨ρ₁, b, h1, h2, h3, fun e => h4 e L, h5⟩⟩ (ih (fun b hm => hb b (.tail _ hm)) _)
end
end
section
noncomputable def runO {α σ : Type} (step : σ → α → Except V σ) : List α → σ → Except V σ
  | [], s => .ok s
  | a :: l, s => match step s a with | .ok s' => runO step l s' | .error d => .error d
section
variable {X : Cx} {n : Nat} {env : Env} {ρ : List (Str × V)} {ω : Option Own}
theorem LoopJ.foldE {target : Expr} {body orelse : List Stmt} {α τ : Type} {out : Out} (emb : α → V) (ρf : τ → List (Str × V)) (ωf : τ → Option Own) (step : τ → α → Except V τ) (l : List α) (P : τ → Prop)
    (hb : ∀ σ a, a ∈ l → P σ → ∃ ρ₁, TgJ X env (ωf σ) target (emb a) (ρf σ) ρ₁ ∧ match step σ a with | .ok σ' => P σ' ∧ ExJ X n env ρ₁ (ωf σ) body (.next (ρf σ') (ωf σ')) | .error d => ExJ X n env ρ₁ (ωf σ) body (.ret d))
    (σ : τ) (h0 : P σ) (he : match runO step l σ with | .ok σ' => P σ' → ExJ X n env (ρf σ') (ωf σ') orelse out | .error d => out = .ret d) :
    LoopJ X n env target body orelse (l.map emb) (ρf σ) (ωf σ) out := by
  induction l generalizing σ with
  | nil => exact .nil (he h0)
  | cons a l ih =>
    obtain ⟨ρ₁, t, x⟩ := hb σ a (.head _) h0
    unfold runO at he
    cases hs : step σ a with
    | ok σ' =>
      rw [hs] at x he
      exact .next t x.2 (ih (fun σ b hm => hb σ b (.tail _ hm)) _ x.1 he)
    | error d =>
      rw [hs] at x he
      cases he
      exact .ret t x
theorem ExJ.forE {target iter : Expr} {body ss : List Stmt} {pos : Pos} {α τ : Type} {out : Out} (emb : α → V) (ρf : τ → List (Str × V)) (ωf : τ → Option Own) (step : τ → α → Except V τ) (l : List α) (P : τ → Prop) (σ : τ)
    (hw : WkJ X n env (ρf σ) target iter (l.map emb)) (hs : ∀ x, foldedSetIterable iter env x = pure x)
    (hb : ∀ σ a, a ∈ l → P σ → ∃ ρ₁, TgJ X env (ωf σ) target (emb a) (ρf σ) ρ₁ ∧ match step σ a with | .ok σ' => P σ' ∧ ExJ X n env ρ₁ (ωf σ) body (.next (ρf σ') (ωf σ')) | .error d => ExJ X n env ρ₁ (ωf σ) body (.ret d))
    (h0 : P σ) (he : match runO step l σ with | .ok σ' => P σ' → ExJ X n env (ρf σ') (ωf σ') ss out | .error d => out = .ret d) :
    ExJ X n env (ρf σ) (ωf σ) (.For target iter body [] pos :: ss) out := by
  cases hr : runO step l σ with
  | ok σ' =>
    rw [hr] at he
    have hP : ∀ (l' : List α) (s : τ), (∀ a ∈ l', a ∈ l) → P s → ∀ s', runO step l' s = .ok s' → P s' := fun l' => by
      induction l' with
      | nil => intro s _ h s' e; cases e; exact h
      | cons a l' ih =>
        intro s hl h s' e
        unfold runO at e
        obtain ⟨_, _, x⟩ := hb s a (hl a (.head _)) h
        cases hs' : step s a with
        | ok s₁ => rw [hs'] at e x; exact ih s₁ (fun b hb => hl b (.tail _ hb)) x.1 s' e
        | error d => rw [hs'] at e; cases e
    exact .cons (.for hw (LoopJ.foldE emb ρf ωf step l P hb σ h0 (by rw [hr]; exact fun h => .nil)) hs) (he (hP l σ (fun a h => h) h0 σ' hr))
  | error d =>
    rw [hr] at he
    cases he
    exact .ret (.for hw (LoopJ.foldE emb ρf ωf step l P hb σ h0 (by rw [hr])) hs)
end
end
section
structure StpG (X : Cx) (a : Addr) (s s' : Shared) : Prop where
  eq : ∃ h' tk, s' = { s with heap := h', toks := tk }
  kp : ∀ b o, ¬ tab b → b ≠ a → s.heap.get? b = some o → s'.heap.get? b = some o
  al : ∀ o, s.heap.get? a = some o → ∃ o', s'.heap.get? a = some o'
  nl : Lv s.heap a → Lv s'.heap a
  ok : GOk X s'.heap
theorem Stp.toG {X : Cx} {a : Addr} {s s' : Shared} (x : Stp X s s') (h : X.S.objs.size ≤ a) : StpG X a s s' := ⟨x.eq, fun b o t _ e => x.ext b o t e, fun o e => ⟨o, x.ext a o (X.ntab h) e⟩, fun l => l.keep fun o e => x.ext a o (X.ntab h) e, x.ok⟩
theorem StpG.trans {X : Cx} {a : Addr} {s₁ s₂ s₃ : Shared} (x : StpG X a s₁ s₂) (y : StpG X a s₂ s₃) : StpG X a s₁ s₃ :=
  ⟨by obtain ⟨h, t, rfl⟩ := x.eq; obtain ⟨h', t', rfl⟩ := y.eq; exact ⟨h', t', rfl⟩, fun b o n m e => y.kp b o n m (x.kp b o n m e), fun o e => let ⟨o', e'⟩ := x.al o e; y.al o' e', fun l => y.nl (x.nl l), y.ok⟩
theorem StpG.alive {X : Cx} {a : Addr} {s s' : Shared} (x : StpG X a s s') (b : Addr) (o : Obj) (e : s.heap.get? b = some o) : ∃ o', s'.heap.get? b = some o' := by
  by_cases t : tab b
  · rcases t with rfl | rfl
    · obtain ⟨ps, e, _⟩ := x.ok.p1.ex; exact ⟨_, e⟩
    · obtain ⟨ps, e, _⟩ := x.ok.p2.ex; exact ⟨_, e⟩
  · by_cases q : b = a
    · subst q; exact x.al o e
    · exact ⟨o, x.kp b o t q e⟩
theorem StpG.lv {X : Cx} {a : Addr} {s s' : Shared} (x : StpG X a s s') (b : Addr) (h : Lv s.heap b) : Lv s'.heap b := by
  by_cases t : tab b
  · rcases t with rfl | rfl
    · obtain ⟨ps, e, r, _⟩ := x.ok.p1.ex; exact .tab e r
    · obtain ⟨ps, e, r, _⟩ := x.ok.p2.ex; exact .tab e r
  · by_cases q : b = a
    · subst q; exact x.nl h
    · exact h.keep fun o e => x.kp b o t q e
theorem AvOk.stepG {X : Cx} {av : Addr → Prop} {a : Addr} {s s' : Shared} (k : AvOk X av s.heap) (x : StpG X a s s') : AvOk X av s'.heap := ⟨k.tab, fun b q => x.lv b (k.live b q)⟩
theorem R.stepG {X : Cx} {av : Addr → Prop} {a : Addr} {s s' : Shared} {v : Value} {d : V} (r : R av s.heap v d) (k : AvOk X av s.heap) (ha : av a) (x : StpG X a s s') : R av s'.heap v d :=
  r.move (fun b o n e => x.kp b o (fun t => n (k.tab b t)) (fun q => n (q ▸ ha)) e) fun _ q => .inl q
theorem Rs.stepG {X : Cx} {av : Addr → Prop} {a : Addr} {s s' : Shared} {v : List Value} {d : List V} (r : Rs av s.heap v d) (k : AvOk X av s.heap) (ha : av a) (x : StpG X a s s') : Rs av s'.heap v d :=
  r.move (fun b o n e => x.kp b o (fun t => n (k.tab b t)) (fun q => n (q ▸ ha)) e) fun _ q => .inl q
theorem EnvOk.stepG {X : Cx} {av : Addr → Prop} {a : Addr} {env : Env} {ρ : List (Str × V)} {s s' : Shared} (G : GOk X s.heap) (k : AvOk X av s.heap) (VV : EnvOk X av env ρ s.heap) (ha : av a) (of : OffE env a) (x : StpG X a s s') : EnvOk X av env ρ s'.heap where
  fn := VV.fn
  gl := VV.gl
  bl := VV.bl
  loc := VV.loc
  ns := by
    obtain ⟨m, hm, hr⟩ := VV.ns
    exact ⟨m, ns_ext hm fun o e => x.kp _ o (ns_nt G hm) of.1 e, fun y d h1 h2 => let ⟨v, e, r⟩ := hr y d h1 h2; ⟨v, e, r.stepG k ha x⟩⟩
  cl := fun y d hy => (VV.cl y d hy).imp id fun ⟨h1, c, v, h2, ha', h3, r⟩ => ⟨h1, c, v, h2, ha', let ⟨o, ho, hd⟩ := h3; ⟨o, x.kp _ o (cell_nt G h3) (of.2 y c h2) ho, hd⟩, r.stepG k ha x⟩
theorem Gh.step {X : Cx} {g : Gh} {x : g.σ} {av : Addr → Prop} {s s' : Shared} (h : g.P x av s.heap) (k : AvOk X av s.heap) (hs : X.S.objs.size ≤ g.a) (z : Stp X s s') : g.P x av s'.heap :=
  g.mv (fun b o q e => z.ext b o (fun t => q.elim (fun q => X.ntab hs (q ▸ t)) fun q => q (k.tab b t)) e) (fun _ q => .inl q) h
structure EvG (X : Cx) (n : Nat) (env : Env) (ρ : List (Str × V)) (g : Gh) (x : g.σ) (e : Expr) (y : g.σ) (d : V) : Prop where
  run : ∀ (A : Around) (E : Value → Shared → Prop) (s : Shared) (av : Addr → Prop), Bud n A → GOk X s.heap → AvOk X av s.heap → EnvOk X av env ρ s.heap → av g.a → X.S.objs.size ≤ g.a → OffE env g.a → g.P x av s.heap →
    wpAny (MX X) A (eval e env) (fun v s' => StpG X g.a s s' ∧ R av s'.heap v d ∧ g.P y av s'.heap) E s
structure CallG (X : Cx) (n : Nat) (g : Gh) (x : g.σ) (f : V) (args : List V) (y : g.σ) (d : V) : Prop where
  run : ∀ (A : Around) (E : Value → Shared → Prop) (s : Shared) (av : Addr → Prop) (u : Value) (vs : List Value), Bud n A → GOk X s.heap → AvOk X av s.heap → av g.a → X.S.objs.size ≤ g.a → R av s.heap u f → Rs av s.heap vs args → g.P x av s.heap →
    wpAny (MX X) A (call u vs) (fun v s' => StpG X g.a s s' ∧ R av s'.heap v d ∧ g.P y av s'.heap) E s
structure CallV (X : Cx) (n : Nat) (f : V) (args : List V) (d : V) : Prop where
  run : ∀ (A : Around) (E : Value → Shared → Prop) (s : Shared) (av : Addr → Prop) (u : Value) (vs : List Value), Bud n A → GOk X s.heap → AvOk X av s.heap → R av s.heap u f → Rs av s.heap vs args →
    wpAny (MX X) A (call u vs) (fun v s' => Stp X s s' ∧ R av s'.heap v d) E s
noncomputable def isFn (f : Addr) (fr : Frag) : Bool := fr.any fun p => p.1 == f && (match p.2.data with | .func _ => true | _ => false)
theorem isFn_at {f : Addr} {fr : Frag} {av : Addr → Prop} {h : Heap} {u : Value} (q : isFn f fr = true) (r : R av h u (.raw (.ref f) fr)) : u = .ref f ∧ FnAt f h := by
  cases r with
  | raw _ _ r =>
    refine ⟨rfl, ?_⟩
    obtain ⟨⟨a, o⟩, hm, hq⟩ := List.any_eq_true.mp q
    obtain ⟨c, d, dat, sl⟩ := o
    rw [Bool.and_eq_true] at hq
    have e : a = f := by simpa using hq.1
    subst e
    have hq2 := hq.2
    split at hq2
    · rename_i fd hd
      cases hd
      exact ⟨c, d, fd, sl, (r _ hm).2⟩
    · cases hq2
section
variable {X : Cx} {n : Nat} {env : Env} {ρ : List (Str × V)} {g : Gh}
theorem EvG.of {x : g.σ} {e : Expr} {d : V} (h : EvJ X n env ρ e d) : EvG X n env ρ g x e x d := .mk fun A E s av b G k VV ha hs of hp =>
  wpAny_mono (h.run A E s av b G k VV) (fun v s' z => ⟨z.1.toG hs, z.2, Gh.step hp k hs z.1⟩) fun _ _ e => e
theorem EvG.fcall {fv : Value} {e : Expr} {es : List Expr} {pos p : Pos} {ds : List V} {x y : g.σ} {d : V} {nm : Str} (hf : GlV X n env ρ (.Name nm p) fv) (hk : keepIn (KK X.w.params) fv = true) (hs : EvsJ X n env ρ (e :: es) ds) (hc : CallG X n g x (.raw fv []) ds y d)
    (hst : (e :: es).any isStarred = false) : EvG X n env ρ g x (.Call (.Name nm p) (e :: es) [] pos) y d := .mk fun A E s av b G a VV ha hsz of hp => by
  refine wpAny_Call_Name_kw (wpAny_mono (hf.run A E s av b G VV) (fun v s₁ q => ?_) fun _ _ e => e)
  obtain ⟨rfl, rfl⟩ := q
  rw [List.any_cons, Bool.or_eq_false_iff] at hst
  exact callWith_K G.K hk (wpAny_mono (hs.run pos A E s₁ av b G a VV) (fun vs s₂ q => ⟨q.1.ok.K,
    wpAny_mono (hc.run A E s₂ av v vs b q.1.ok (a.step q.1) ha hsz (.raw _ _ fun _ h => nomatch h) q.2 (Gh.step hp a hsz q.1)) (fun r s₃ z => ⟨(q.1.toG hsz).trans z.1, z.2⟩) fun _ _ e => e⟩) fun _ _ e => e) (starEach_of hst.1) (backTo_of hst.2)
theorem EvG.bcall {e : Expr} {es : List Expr} {pos p : Pos} {ds : List V} {x y : g.σ} {d : V} {id : String} {nm : Str} (hf : GlV X n env ρ (.Name nm p) (.builtin id)) (hs : EvsJ X n env ρ (e :: es) ds) (hc : CallG X n g x (.raw (.builtin id) []) ds y d)
    (hst : (e :: es).any isStarred = false) : EvG X n env ρ g x (.Call (.Name nm p) (e :: es) [] pos) y d := .mk fun A E s av b G a VV ha hsz of hp => by
  refine wpAny_Call_Name_kw (wpAny_mono (hf.run A E s av b G VV) (fun v s₁ q => ?_) fun _ _ e => e)
  obtain ⟨rfl, rfl⟩ := q
  have hst' := hst
  rw [List.any_cons, Bool.or_eq_false_iff] at hst
  refine callWith_builtin (backTo_of hst') ?_
  have := hs.run pos A E s₁ av b G a VV
  rw [starEach_of hst.1] at this ⊢
  exact evalArgs_plain (wpAny_mono this (fun vs s₂ q => wpAny_mono (hc.run A E s₂ av _ vs b q.1.ok (a.step q.1) ha hsz (.raw _ _ fun _ h => nomatch h) q.2 (Gh.step hp a hsz q.1)) (fun r s₃ z => ⟨(q.1.toG hsz).trans z.1, z.2⟩) fun _ _ e => e) fun _ _ e => e)
theorem EvG.lcall {f : Addr} {fr : Frag} {e : Expr} {es : List Expr} {pos p : Pos} {ds : List V} {x y : g.σ} {d : V} {nm : Str} (hx : ρ.lookup nm = some (.raw (.ref f) fr)) (hfn : isFn f fr = true) (hd : (nm == ("__debug__" : Str)) = false) (hcd : (nm == ("__classdict__" : Str)) = false)
    (hs : EvsJ X n env ρ (e :: es) ds) (hc : CallG X n g x (.raw (.ref f) fr) ds y d) (hst : (e :: es).any isStarred = false) : EvG X n env ρ g x (.Call (.Name nm p) (e :: es) [] pos) y d := .mk fun A E s av b G a VV ha hsz of hp => by
  refine wpAny_Call_Name_kw (wpAny_mono ((EvJ.name (pos := p) (n := n) hx hd hcd).run A E s av b G a VV) (fun v s₁ q => ?_) fun _ _ e => e)
  obtain ⟨q1, r⟩ := q
  obtain ⟨rfl, fa⟩ := isFn_at hfn r
  rw [List.any_cons, Bool.or_eq_false_iff] at hst
  have a1 := a.step q1
  exact callWith_F fa (wpAny_mono (hs.run pos A E s₁ av b q1.ok a1 (VV.step G a q1)) (fun vs s₂ q => ⟨(isFn_at hfn (r.step a1 q.1)).2,
    wpAny_mono (hc.run A E s₂ av _ vs b q.1.ok (a1.step q.1) ha hsz (r.step a1 q.1) q.2 (Gh.step (Gh.step hp a hsz q1) a1 hsz q.1)) (fun r s₃ z => ⟨((q1.trans q.1).toG hsz).trans z.1, z.2⟩) fun _ _ e => e⟩) fun _ _ e => e) (starEach_of hst.1) (backTo_of hst.2)
theorem EvJ.lcall {f : Addr} {fr : Frag} {e : Expr} {es : List Expr} {pos p : Pos} {ds : List V} {d : V} {nm : Str} (hx : ρ.lookup nm = some (.raw (.ref f) fr)) (hfn : isFn f fr = true) (hd : (nm == ("__debug__" : Str)) = false) (hcd : (nm == ("__classdict__" : Str)) = false)
    (hs : EvsJ X n env ρ (e :: es) ds) (hc : CallV X n (.raw (.ref f) fr) ds d) (hst : (e :: es).any isStarred = false) : EvJ X n env ρ (.Call (.Name nm p) (e :: es) [] pos) d := .mk fun A E s av b G a VV => by
  refine wpAny_Call_Name_kw (wpAny_mono ((EvJ.name (pos := p) (n := n) hx hd hcd).run A E s av b G a VV) (fun v s₁ q => ?_) fun _ _ e => e)
  obtain ⟨q1, r⟩ := q
  obtain ⟨rfl, fa⟩ := isFn_at hfn r
  rw [List.any_cons, Bool.or_eq_false_iff] at hst
  have a1 := a.step q1
  exact callWith_F fa (wpAny_mono (hs.run pos A E s₁ av b q1.ok a1 (VV.step G a q1)) (fun vs s₂ q => ⟨(isFn_at hfn (r.step a1 q.1)).2,
    wpAny_mono (hc.run A E s₂ av _ vs b q.1.ok (a1.step q.1) (r.step a1 q.1) q.2) (fun r s₃ z => ⟨(q1.trans q.1).trans z.1, z.2⟩) fun _ _ e => e⟩) fun _ _ e => e) (starEach_of hst.1) (backTo_of hst.2)
/-! statements that change the object -/
variable {hb : Heap} {av0 : Addr → Prop} {oa : Option Addr} {ω : Option Own}
theorem Inv.gh {x : g.σ} {h : Heap} (I : Inv X hb av0 env ρ (some (.gh g x)) oa h) : oa = some g.a ∧ X.S.objs.size ≤ g.a ∧ hb.get? g.a = none ∧ OffE env g.a ∧ g.P x (AvB av0 env oa) h := by
  have o := I.own
  cases oa with
  | none => exact o.elim
  | some a =>
    obtain ⟨rfl, h2, h3, h4, h5⟩ := o
    exact ⟨rfl, h2, h3, h4, h5⟩
theorem Inv.stepG {x y : g.σ} {s s' : Shared} (I : Inv X hb av0 env ρ (some (.gh g x)) (some g.a) s.heap) (z : StpG X g.a s s') (hp : g.P y (AvB av0 env (some g.a)) s'.heap) : Inv X hb av0 env ρ (some (.gh g y)) (some g.a) s'.heap where
  ok := z.ok
  ext := fun b o t e => z.kp b o t (fun q => by rw [q, I.gh.2.2.1] at e; cases e) (I.ext b o t e)
  base := I.base
  avk := I.avk.stepG z
  en := I.en.stepG I.ok I.avk (.inr (.inr (.inr rfl))) I.gh.2.2.2.1 z
  fl := I.fl
  cs := I.cs
  fc := fun v c h1 h2 => let ⟨w, o, ho, hd⟩ := I.fc v c h1 h2; ⟨w, o, z.kp _ o (cell_nt I.ok ⟨o, ho, hd⟩) (I.gh.2.2.2.1.2 v c h2) ho, hd⟩
  ap := I.ap
  d1 := I.d1
  d2 := I.d2
  d3 := I.d3
  own := ⟨rfl, I.gh.2.1, I.gh.2.2.1, I.gh.2.2.2.1, hp⟩
theorem StpG.same {s s' : Shared} {a : Addr} (z : StpG X a s s') : Same env (some a) s s' := ⟨z.eq, fun b o m e => z.kp b o (fun t => m (.inl t)) (fun q => m (.inr (.inr (.inr (q ▸ rfl))))) e, fun b o e => z.alive b o e⟩
theorem StJ.exprG {x y : g.σ} {e : Expr} {pos : Pos} {d : V} (h : EvG X n env ρ g x e y d) (hd : d.flat = true) (hi : interactive env = false) (hs : swapsWith e none pos.line env = pure false) : StJ X n env ρ (some (.gh g x)) (.Expr e pos) (.next ρ (some (.gh g y))) :=
  .mk fun A E s hb av0 oa b I => by
    obtain ⟨rfl, i2, i3, i4, i5⟩ := I.gh
    refine wpAny_Expr (wpAny_mono (h.run A E s _ b I.ok I.avk I.en (.inr (.inr (.inr rfl))) i2 i4 i5) (fun v s₁ q => ?_) fun _ _ e => e) hi hs
    obtain ⟨q1, r, q2⟩ := q
    have fin : Same env (some g.a) s s₁ ∧ OutOk X hb av0 env (some g.a) s.heap (.next ρ (some (.gh g y))) .next s₁.heap := ⟨q1.same, rfl, _, I.stepG q1 q2, .refl⟩
    cases r with
    | none => exact fin
    | bool => exact fin
    | int => exact fin
    | str => exact fin
    | tup => cases hd
    | list => cases hd
    | hdr => cases hd
    | raw => cases hd
theorem StJ.assignG {x y : g.σ} {nm : Str} {p pos : Pos} {e : Expr} {d : V} (h : EvG X n env ρ g x e y d) (hx : Stores env (some (.gh g y)) nm) (hs : swapsWith e (some (.Name nm p)) pos.line env = pure false) : StJ X n env ρ (some (.gh g x)) (.Assign [.Name nm p] e pos) (.next ((nm, d) :: ρ) (some (.gh g y))) :=
  .mk fun A E s hb av0 oa b I => by
    obtain ⟨rfl, i2, i3, i4, i5⟩ := I.gh
    exact wpAny_Assign_Name (wpAny_mono (h.run A E s _ b I.ok I.avk I.en (.inr (.inr (.inr rfl))) i2 i4 i5) (fun v s₁ q => wpAny_mono ((I.stepG q.1 q.2.2).store q.2.1 hx.1 hx.2)
      (fun _ s₂ z => ⟨q.1.same.trans z.1, rfl, _, z.2.1, .refl⟩) fun _ _ e => e) fun _ _ e => e) hs
theorem StJ.retG {x : g.σ} {e : Expr} {pos : Pos} {d : V} (h : EvJ X n env ρ e d) : StJ X n env ρ (some (.gh g x)) (.Return (some e) pos) (.retG d g x) :=
  .mk fun A E s hb av0 oa b I => wpAny_Return_some (wpAny_mono (h.run A E s _ b I.ok I.avk I.en) (fun v s₁ q => by
    have I1 := I.step q.1
    exact ⟨q.1.same, v, rfl, q.1.ok, I1.ext, q.2.move (fun _ _ _ e => e) fun b q => .inl (.inl q), g.mv (fun _ _ _ e => e) (fun b q => .inl (.inl q)) I1.gh.2.2.2.2⟩) fun _ _ e => e)
theorem ExJ.retG {st : Stmt} {ss : List Stmt} {d : V} {y : g.σ} (h1 : StJ X n env ρ ω st (.retG d g y)) : ExJ X n env ρ ω (st :: ss) (.retG d g y) :=
  .mk fun A E s hb av0 oa b I => wpAny_execs_cons (wpAny_mono (h1.run A E s hb av0 oa b I) (fun fl s₁ q => by
    obtain ⟨q1, v, rfl, q2⟩ := q
    exact ⟨q1, v, rfl, q2⟩) fun _ _ e => e)
end
end
section
noncomputable def flv : Flow → Value
  | .ret v => v
  | _ => .none
theorem frameInv {X : Cx} {s : Shared} {f : Addr} {qual : Str} {scope : Scope} {cl : List (Str × Addr)} {cdv : Value} {h₁ : Heap}
    {av0 : Addr → Prop} {oa : Option Addr} {hb : Heap} {ω : Option Own} {ρ : List (Str × V)} {binds : List (Str × Value)} (G : GOk X s.heap)
    (hb1 : hb.objs.size = s.heap.objs.size) (hb2 : ∀ b o, hb.get? b = some o → s.heap.get? b = some o) (atb : ∀ b, tab b → av0 b) (al : ∀ b, av0 b → Lv s.heap b) (oal : ∀ a, oa = some a → Lv s.heap a ∧ ¬ av0 a)
    (hcell : ∀ x ∈ scope.names, x.2 ≠ .cell)
    (hρ : ∀ y d, ρ.lookup y = some d → (scope.names.lookup y = some .local ∧ ∃ v, binds.reverse.lookup y = some v ∧ R (fun b => av0 b ∨ oa = some b) s.heap v d) ∨
      (scope.names.lookup y = some .free ∧ ∃ c v, cl.lookup y = some c ∧ s.heap.IsCell c (some v) ∧ R (fun b => av0 b ∨ oa = some b) s.heap v d))
    (hcs : ∀ z c, cl.lookup z = some c → ∃ o, hb.get? c = some o)
    (own : ∀ h₁, (∀ b o, s.heap.get? b = some o → h₁.get? b = some o) → OwnOk X hb (AvB av0 (envX qual scope s.heap.objs.size f cdv cl) oa) (envX qual scope s.heap.objs.size f cdv cl) h₁ ω oa)
    (hns : h₁.Ns s.heap.objs.size fun x => binds.reverse.lookup x) (keep : ∀ b o, s.heap.get? b = some o → h₁.get? b = some o) (hk : scope.kind = .function) :
    Inv X hb av0 (envX qual scope s.heap.objs.size f cdv cl) ρ ω oa h₁ := by
  have G₁ : GOk X h₁ := G.keeps keep
  have nocell : ∀ {y}, (envX qual scope s.heap.objs.size f cdv cl).kindOf y = some .cell → False := fun {y} q => by
    have : scope.names.lookup y = some .cell := q
    exact hcell _ (mem_of_lookup this) rfl
  have sub : ∀ b', AvB av0 (envX qual scope s.heap.objs.size f cdv cl) oa b' → (av0 b' ∨ oa = some b') ∨ s.heap.get? b' = none := fun b' q => by
    rcases q with q | q | ⟨y, q, _⟩ | q
    · exact .inl (.inl q)
    · subst q; exact .inr (size_none _)
    · exact (nocell q).elim
    · exact .inl (.inr q)
  have mv : ∀ {v : Value} {d : V}, R (fun b => av0 b ∨ oa = some b) s.heap v d → R (AvB av0 (envX qual scope s.heap.objs.size f cdv cl) oa) h₁ v d := fun r => r.move (fun b' o _ e => keep b' o e) sub
  have cin : ∀ {z c}, cl.lookup z = some c → @LT.lt Nat _ c s.heap.objs.size := fun hc => by
    obtain ⟨o, e⟩ := hcs _ _ hc
    exact Heap.lt_size (hb2 _ _ e)
  refine ⟨G₁, .of fun b' o e => keep b' o (hb2 b' o e), by rw [hb1]; exact G.sz, ⟨fun b' t => .inl (atb b' t), fun b' q => ?_⟩, ⟨hk, rfl, rfl, .inr (.inl rfl), ⟨_, hns, fun y d hy hk' => ?_⟩, fun y d hy => ?_⟩, Nat.le_of_eq hb1, fun y c hc => .inl (hcs y c hc), fun y c h1 _ => (nocell h1).elim,
    fun y z c h1 h2 lt => (Nat.lt_irrefl _ (Nat.lt_trans lt (cin h1))).elim, fun q => (by obtain ⟨⟨o, e⟩, _⟩ := al _ q; rw [size_none] at e; cases e), fun y c hc lt => (Nat.lt_irrefl _ (Nat.lt_trans lt (cin hc))).elim, fun a q => (oal a q).2, own h₁ keep⟩
  · rcases q with q | q | ⟨y, q, _⟩ | q
    · exact (al b' q).keep fun o e => keep _ _ e
    · subst q; exact .ns hns
    · exact (nocell q).elim
    · exact (oal b' q).1.keep fun o e => keep _ _ e
  · rcases hρ y d hy with ⟨_, v, e, r⟩ | ⟨k, _⟩
    · exact ⟨v, e, mv r⟩
    · have k' : scope.names.lookup y = some .local := hk'
      rw [k] at k'; cases k'
  · rcases hρ y d hy with ⟨k, _⟩ | ⟨k, c, v, hc, i, r⟩
    · exact .inl k
    · refine .inr ⟨.inr k, c, v, hc, fun q => (nocell q).elim, let ⟨o, e, hd⟩ := i; ⟨o, keep _ _ e, hd⟩, mv r⟩
theorem frame {X : Cx} {n : Nat} {A : Around} {s : Shared} {R' : Result → Shared → Prop} {f : Addr} {name qual : Str} {params : Arguments} {body : List Stmt} {scope : Scope} {cl : List (Str × Addr)} {dV kV doc pm cdv ct oc : Value} {an od : Option Addr} {osl : Array (Option Value)}
    {av0 : Addr → Prop} {oa : Option Addr} {hb : Heap} {ω : Option Own} {out : Out} {ρ : List (Str × V)} {args : Args} {binds : List (Str × Value)}
    (ho : s.heap.get? f = some ⟨oc, od, .func (fnX name qual params body scope cl dV kV doc pm an cdv ct), osl⟩) (hrec : s.heap.CodeRec cdv qual) (b : Bud (n + 1) A) (G : GOk X s.heap)
    (hb1 : hb.objs.size = s.heap.objs.size) (hb2 : ∀ b o, hb.get? b = some o → s.heap.get? b = some o) (atb : ∀ b, tab b → av0 b) (al : ∀ b, av0 b → Lv s.heap b) (oal : ∀ a, oa = some a → Lv s.heap a ∧ ¬ av0 a)
    (hbind : BindsTo s (fnX name qual params body scope cl dV kV doc pm an cdv ct) args binds) (hloc : ∀ x ∈ binds, scope.names.lookup x.1 = some .local) (hcell : ∀ x ∈ scope.names, x.2 ≠ .cell)
    (hρ : ∀ y d, ρ.lookup y = some d → (scope.names.lookup y = some .local ∧ ∃ v, binds.reverse.lookup y = some v ∧ R (fun b => av0 b ∨ oa = some b) s.heap v d) ∨
      (scope.names.lookup y = some .free ∧ ∃ c v, cl.lookup y = some c ∧ s.heap.IsCell c (some v) ∧ R (fun b => av0 b ∨ oa = some b) s.heap v d))
    (hcs : ∀ z c, cl.lookup z = some c → ∃ o, hb.get? c = some o)
    (own : ∀ h₁, (∀ b o, s.heap.get? b = some o → h₁.get? b = some o) → OwnOk X hb (AvB av0 (envX qual scope s.heap.objs.size f cdv cl) oa) (envX qual scope s.heap.objs.size f cdv cl) h₁ ω oa)
    (h : ExJ X n (envX qual scope s.heap.objs.size f cdv cl) ρ ω body out)
    (hq : ∀ h₁ fl s', OutOk X hb av0 (envX qual scope s.heap.objs.size f cdv cl) oa h₁ out fl s'.heap → (∃ h' tk, s' = { s with heap := h', toks := tk }) → (∀ b o, ¬ tab b → oa ≠ some b → s.heap.get? b = some o → s'.heap.get? b = some o) →
      (∀ b o, s.heap.get? b = some o → ∃ o', s'.heap.get? b = some o') → R' (.ok (.ret (flv fl))) s')
    (hco : scope.isCoroutine = false) (hgen : scope.isGenerator = false) (hk : scope.kind = .function) : codeAny (MX X) A (.call (.ref f) args) R' s := by
  refine codeAny_call_def (fd := fnX name qual params body scope cl dV kV doc pm an cdv ct) b.depth ho rfl G.nolimit hrec rfl hbind hcell hloc (fun h₁ hns keep => ?_) hco hgen hk
  have bd : Bud n (A.deeper (callEnv (fnX name qual params body scope cl dV kV doc pm an cdv ct) s.heap.objs.size f)) :=
    ⟨b.hh, by have := b.d; show A.depth + 1 + n < _; k_data, by have := b.u; show A.units + 3 + 8 * n + 16 < _; k_data⟩
  have cin : ∀ {z c}, cl.lookup z = some c → @LT.lt Nat _ c s.heap.objs.size := fun hc => by
    obtain ⟨o, e⟩ := hcs _ _ hc
    exact Heap.lt_size (hb2 _ _ e)
  have I : Inv X hb av0 (envX qual scope s.heap.objs.size f cdv cl) ρ ω oa h₁ := frameInv G hb1 hb2 atb al oal hcell hρ hcs own hns keep hk
  refine wpAny_mono (h.run _ (fun _ _ => False) _ hb av0 oa bd I) (fun fl s' z => ?_) fun _ _ e => e.elim
  obtain ⟨q1, q2⟩ := z
  refine hq _ fl s' q2 (by obtain ⟨h2, t2, rfl⟩ := q1.eq; exact ⟨h2, t2, rfl⟩) (fun b' o nt no e => q1.kp b' o ?_ (keep _ _ e)) fun b' o e => q1.al b' o (keep _ _ e)
  rintro (q | q | ⟨h1, y, q⟩ | q)
  · exact nt q
  · rw [q] at e; have := size_none s.heap; exact nomatch this.symm.trans e
  · exact Nat.lt_irrefl _ (Nat.lt_trans h1 (cin q))
  · exact no q
theorem zip_rev {x : Str} {v : Value} : ∀ {ns : List Str} {vs : List Value}, ns.Nodup → (ns.zip vs).lookup x = some v → (ns.zip vs).reverse.lookup x = some v := fun {ns vs} nd h => by
  have nd' : ((ns.zip vs).map (·.1)).Nodup := by
    have : (ns.zip vs).map (·.1) = ns.take vs.length := by
      rw [List.zip_eq_zip_take_min, List.map_fst_zip (by simp [List.length_take])]
      by_cases q : ns.length ≤ vs.length
      · rw [Nat.min_eq_left q, List.take_of_length_le q, List.take_of_length_le (Nat.le_refl _)]
      · rw [Nat.min_eq_right (Nat.le_of_lt (Nat.lt_of_not_le q))]
    rw [this]; exact nd.sublist (List.take_sublist _ _)
  generalize ns.zip vs = l at nd' h ⊢
  induction l with
  | nil => cases h
  | cons p l ih =>
    rw [List.map_cons, List.nodup_cons] at nd'
    rw [List.reverse_cons, List.lookup_append]
    obtain ⟨y, w⟩ := p
    rw [List.lookup_cons] at h
    by_cases e : x = y
    · subst e
      simp only [beq_self_eq_true] at h
      cases h
      have : l.reverse.lookup x = none := by
        cases q : l.reverse.lookup x with
        | none => rfl
        | some u => exact (nd'.1 (List.mem_map.mpr ⟨_, List.mem_reverse.mp (mem_of_lookup q), rfl⟩)).elim
      rw [this]
      show List.lookup x [(x, _)] = _
      rw [List.lookup_cons, beq_self_eq_true]
    · have be : (x == y) = false := by simpa using e
      simp only [be] at h
      rw [ih nd'.2 h]
      rfl
section
variable {X : Cx} {n : Nat} {g : Gh}
theorem callOf {X : Cx} {A : Around} {E : Value → Shared → Prop} {s : Shared} {f : Value} {vs : List Value} {Q : Value → Shared → Prop}
    (h : codeAny (MX X) A (.call f ⟨vs, []⟩) (fun r s' => match r with | .ok (.ret v) => Q v s' | .ok _ => False | .error e => E e s') s) : wpAny (MX X) A (call f vs) Q E s := wpAny_call h
noncomputable def OutD (g : Gh) (y : g.σ) (d : V) : Out → Prop
  | .retG d' g' y' => d' = d ∧ ∃ e : g' = g, e ▸ y' = y
  | .next _ (some (.gh g' y')) => d = .none ∧ ∃ e : g' = g, e ▸ y' = y
  | _ => False
theorem outD {hb : Heap} {av0 : Addr → Prop} {env : Env} {oa : Option Addr} {h₁ h : Heap} {y : g.σ} {d : V} {out : Out} {fl : Flow} (hd : OutD g y d out) (o : OutOk X hb av0 env oa h₁ out fl h) :
    GOk X h ∧ Ext hb h ∧ R av0 h (flv fl) d ∧ g.P y av0 h := by
  cases out with
  | retG d' g' y' =>
    obtain ⟨rfl, rfl, rfl⟩ := hd
    obtain ⟨v, rfl, h1, h2, h3, h4⟩ := o
    exact ⟨h1, h2, h3, h4⟩
  | next ρ ω =>
    cases ω with
    | none => exact hd.elim
    | some w => cases w with
      | lst x ds => exact hd.elim
      | gh g' y' =>
        obtain ⟨rfl, rfl, rfl⟩ := hd
        obtain ⟨rfl, oa', I, _⟩ := o
        exact ⟨I.ok, I.ext, .none, g'.mv (fun _ _ _ e => e) (fun _ q => .inl (.inl q)) I.gh.2.2.2.2⟩
  | brk => exact hd.elim
  | cont => exact hd.elim
  | ret => exact hd.elim
theorem CallG.clo {x y : g.σ} {f : Addr} {name qual : Str} {params : Arguments} {body : List Stmt} {scope : Scope} {cl : List (Str × Addr)} {dV kV doc pm cdv ct oc : Value} {an od : Option Addr} {osl : Array (Option Value)} {ns : List Str} {args : List V} {d : V} {fr : Frag} (ρc : List (Str × V))
    (ho : ∀ h : Heap, (KK X.w.params).In h → (∀ p ∈ fr, h.get? p.1 = some p.2) → h.get? f = some ⟨oc, od, .func (fnX name qual params body scope cl dV kV doc pm an cdv ct), osl⟩ ∧ h.CodeRec cdv qual)
    (hbind : ∀ vs : List Value, vs.length = args.length → bindArgs (fnX name qual params body scope cl dV kV doc pm an cdv ct) ⟨vs, []⟩ = pure (ns.zip vs))
    (hlen : args.length = ns.length) (hnd : ns.Nodup) (hloc : ns.all (fun y => scope.names.lookup y == some .local) = true) (hcell : scope.names.all (fun x => x.2 != .cell) = true)
    (hρc : ∀ (av : Addr → Prop) (h : Heap), (∀ p ∈ fr, ¬ av p.1 ∧ h.get? p.1 = some p.2) → ∀ y d, ρc.lookup y = some d → scope.names.lookup y = some .free ∧ ∃ c v, cl.lookup y = some c ∧ h.IsCell c (some v) ∧ R av h v d)
    (hcs : ∀ z c, cl.lookup z = some c → ∃ o, (c, o) ∈ fr)
    (h : ∀ L, ∃ out, ExJ X n (envX qual scope L f cdv cl) (ns.zip args ++ ρc) (some (.gh g x)) body out ∧ OutD g y d out) (hfl : d.flat = true)
    (hco : scope.isCoroutine = false) (hgen : scope.isGenerator = false) (hk : scope.kind = .function) : CallG X (n + 1) g x (.raw (.ref f) fr) args y d := .mk fun A E s av u vs b G a ha hs r rs hp => by
  cases r with
  | raw _ _ r =>
  obtain ⟨out, h, hout⟩ := h s.heap.objs.size
  obtain ⟨o1, o2⟩ := ho s.heap G.K fun p hp => (r p hp).2
  obtain ⟨⟨oo, he⟩, _⟩ := g.lv hp
  have hvl : vs.length = ns.length := rs.length.trans hlen
  have av1 : ∀ b, ((av b ∧ b ≠ g.a) ∨ some g.a = some b) → av b := fun b q => q.elim And.left fun q => by cases q; exact ha
  have hcs' : ∀ z c, cl.lookup z = some c → s.heap.get? c ≠ none ∧ c ≠ g.a := fun z c hc => by
    obtain ⟨o, ho⟩ := hcs z c hc
    have := r _ ho
    exact ⟨(by rw [this.2]; exact fun q => nomatch q), fun q => this.1 (by rw [show c = g.a from q]; exact ha)⟩
  refine callOf (frame (av0 := fun b => av b ∧ b ≠ g.a) (oa := some g.a) (hb := hideAll s.heap [g.a]) o1 o2 b G (hideAll_size _ _) (fun b o e => of_hideAll _ e) (fun b t => ⟨a.tab b t, fun q => X.ntab hs (q ▸ t)⟩) (fun b q => a.live b q.1) (fun c q => by cases q; exact ⟨g.lv hp, fun z => z.2 rfl⟩)
    (.of_eq (hbind vs rs.length)) (fun y hy => ?_) (fun z hz => by simpa using List.all_eq_true.mp hcell z hz) (fun z d' hz => ?_) (fun z c hc => ?_) (fun h₁ keep => ?_) h (fun h₁ fl s' q e1 e2 e3 => ?_) hco hgen hk)
  · have := List.all_eq_true.mp hloc y.1 (List.of_mem_zip hy).1
    simpa using this
  · rw [List.lookup_append] at hz
    cases e : (ns.zip args).lookup z with
    | some d1 =>
      rw [e] at hz
      cases hz
      obtain ⟨v, hv, r'⟩ := zip_lk rs e
      have hz1 : z ∈ ns := by have := mem_of_lk hv; rwa [List.map_fst_zip (by k_data)] at this
      have := List.all_eq_true.mp hloc z hz1
      exact .inl ⟨by simpa using this, v, zip_rev hnd hv, r'.move (fun _ _ _ e => e) fun b q => .inl (av1 b q)⟩
    | none =>
      rw [e] at hz
      obtain ⟨k, c, v, hc, i, r'⟩ := hρc av s.heap r z d' hz
      exact .inr ⟨k, c, v, hc, i, r'.move (fun _ _ _ e => e) fun b q => .inl (av1 b q)⟩
  · obtain ⟨h1, h2⟩ := hcs' z c hc
    cases e : s.heap.get? c with
    | none => exact (h1 e).elim
    | some o => exact ⟨o, hideAll_get _ e (by simpa using h2)⟩
  · refine ⟨rfl, hs, hideAll_none _ (.head _), ⟨fun q => ?_, fun z c hc => (hcs' z c hc).2⟩, ?_⟩
    · have := size_none s.heap
      have q' : s.heap.objs.size = g.a := q
      rw [q', he] at this; cases this
    · refine g.mv (fun b o _ e => keep b o e) (fun b q => ?_) hp
      rcases q with q | q | ⟨y, q, _⟩ | q
      · exact .inl q.1
      · subst q; exact .inr (.inr (size_none _))
      · have : scope.names.lookup y = some .cell := q
        have := List.all_eq_true.mp hcell _ (mem_of_lookup this)
        simp at this
      · cases q; exact .inr (.inl rfl)
  · obtain ⟨q1, q2, q3, q4⟩ := outD hout q
    exact ⟨⟨e1, fun b o t nb e => e2 b o t (fun q => nb (by cases q; rfl)) e, fun o e => e3 _ o e, fun _ => g.lv q4, q1⟩, q3.flat hfl, g.mv (fun _ _ _ e => e) (fun b q => by
      by_cases z : b = g.a
      · exact .inr (.inl z)
      · exact .inl ⟨q, z⟩) q4⟩
theorem CallG.fn {x y : g.σ} {f : Addr} {name qual : Str} {params : Arguments} {body : List Stmt} {scope : Scope} {dV kV doc pm cdv ct oc : Value} {an od : Option Addr} {osl : Array (Option Value)} {ns : List Str} {args : List V} {d : V} {out : Out} (ρ : List (Str × V)) (hρ : ns.zip args = ρ)
    (ho : (KK X.w.params).lookup f = some ⟨oc, od, .func (fnX name qual params body scope [] dV kV doc pm an cdv ct), osl⟩) (hcd : codeIn (KK X.w.params) cdv qual = true)
    (hbind : ∀ vs : List Value, vs.length = args.length → bindArgs (fnX name qual params body scope [] dV kV doc pm an cdv ct) ⟨vs, []⟩ = pure (ns.zip vs))
    (hlen : args.length = ns.length) (hnd : ns.Nodup) (hloc : ns.all (fun y => scope.names.lookup y == some .local) = true) (hcell : scope.names.all (fun x => x.2 != .cell) = true)
    (h : ∀ L, ExJ X n (envX qual scope L f cdv []) ρ (some (.gh g x)) body out) (hout : OutD g y d out) (hfl : d.flat = true)
    (hco : scope.isCoroutine = false) (hgen : scope.isGenerator = false) (hk : scope.kind = .function) : CallG X (n + 1) g x (.raw (.ref f) []) args y d :=
  .clo [] (fun h hK _ => ⟨hK _ _ ho, codeRec_of hK hcd⟩) hbind hlen hnd hloc hcell (fun _ _ _ _ _ q => by cases q) (fun _ _ q => by cases q) (fun L => ⟨out, by rw [List.append_nil, hρ]; exact h L, hout⟩) hfl hco hgen hk
theorem CallV.clo {f : Addr} {name qual : Str} {params : Arguments} {body : List Stmt} {scope : Scope} {cl : List (Str × Addr)} {dV kV doc pm cdv ct oc : Value} {an od : Option Addr} {osl : Array (Option Value)} {ns : List Str} {args : List V} {d : V} {fr : Frag} (ρc : List (Str × V))
    (ho : ∀ h : Heap, (KK X.w.params).In h → (∀ p ∈ fr, h.get? p.1 = some p.2) → h.get? f = some ⟨oc, od, .func (fnX name qual params body scope cl dV kV doc pm an cdv ct), osl⟩ ∧ h.CodeRec cdv qual)
    (hbind : ∀ vs : List Value, vs.length = args.length → bindArgs (fnX name qual params body scope cl dV kV doc pm an cdv ct) ⟨vs, []⟩ = pure (ns.zip vs))
    (hlen : args.length = ns.length) (hnd : ns.Nodup) (hloc : ns.all (fun y => scope.names.lookup y == some .local) = true) (hcell : scope.names.all (fun x => x.2 != .cell) = true)
    (hρc : ∀ (av : Addr → Prop) (h : Heap), (∀ p ∈ fr, ¬ av p.1 ∧ h.get? p.1 = some p.2) → ∀ y d, ρc.lookup y = some d → scope.names.lookup y = some .free ∧ ∃ c v, cl.lookup y = some c ∧ h.IsCell c (some v) ∧ R av h v d)
    (hcs : ∀ z c, cl.lookup z = some c → ∃ o, (c, o) ∈ fr)
    (h : ∀ L, ExJ X n (envX qual scope L f cdv cl) (ns.zip args ++ ρc) none body (.ret d))
    (hco : scope.isCoroutine = false) (hgen : scope.isGenerator = false) (hk : scope.kind = .function) : CallV X (n + 1) (.raw (.ref f) fr) args d := .mk fun A E s av u vs b G a r rs => by
  cases r with
  | raw _ _ r =>
  obtain ⟨o1, o2⟩ := ho s.heap G.K fun p hp => (r p hp).2
  have hvl : vs.length = ns.length := rs.length.trans hlen
  have av1 : ∀ b, (av b ∨ none = some b) → av b := fun b q => q.elim id fun q => nomatch q
  refine callOf (frame (av0 := av) (oa := none) (ω := none) (hb := s.heap) o1 o2 b G rfl (fun b o e => e) a.tab a.live (fun c q => nomatch q)
    (.of_eq (hbind vs rs.length)) (fun y hy => ?_) (fun z hz => by simpa using List.all_eq_true.mp hcell z hz) (fun z d' hz => ?_) (fun z c hc => ?_) (fun h₁ keep => trivial) (h _) (fun h₁ fl s' q e1 e2 e3 => ?_) hco hgen hk)
  · have := List.all_eq_true.mp hloc y.1 (List.of_mem_zip hy).1
    simpa using this
  · rw [List.lookup_append] at hz
    cases e : (ns.zip args).lookup z with
    | some d1 =>
      rw [e] at hz
      cases hz
      obtain ⟨v, hv, r'⟩ := zip_lk rs e
      have hz1 : z ∈ ns := by have := mem_of_lk hv; rwa [List.map_fst_zip (by k_data)] at this
      have := List.all_eq_true.mp hloc z hz1
      exact .inl ⟨by simpa using this, v, zip_rev hnd hv, r'.move (fun _ _ _ e => e) fun b q => .inl (av1 b q)⟩
    | none =>
      rw [e] at hz
      obtain ⟨k, c, v, hc, i, r'⟩ := hρc av s.heap r z d' hz
      exact .inr ⟨k, c, v, hc, i, r'.move (fun _ _ _ e => e) fun b q => .inl (av1 b q)⟩
  · obtain ⟨o, ho⟩ := hcs z c hc
    exact ⟨o, (r _ ho).2⟩
  · obtain ⟨v, rfl, q1, q2, q3⟩ := q
    exact ⟨⟨e1, fun b o t e => e2 b o t (fun q => nomatch q) e, q1⟩, q3⟩
end
end
section
theorem codeAmong_some {pos pos' : Pos} {c v : Value} (l : List Value) (h : TriplesOk l) (hn : codeAmong pos' (l ++ [rawInt pos.line, rawInt pos.col, c]) = some v) : codeAmong pos' l = some v ∨ v = c := by
  fun_induction TriplesOk l with
  | case1 =>
    simp only [List.nil_append, rawInt, codeAmong] at hn
    split at hn
    · cases hn; exact .inr rfl
    · cases hn
  | case2 a t b u x rest ih =>
    simp only [List.cons_append, codeAmong] at hn ⊢
    split at hn
    · rename_i hc; rw [if_pos hc]; exact .inl hn
    · rename_i hc; rw [if_neg hc]; exact ih h hn
  | case3 l h1 h2 => exact h.elim
theorem w_def {M : Model} {A : Around} {E : Value → Shared → Prop} {s : Shared} {env : Env} {name : Str} {params : Arguments} {body : List Stmt} {scope : Scope} {pos : Pos} {Q : Flow → Shared → Prop} (h0 : params.defaults = []) (hk0 : params.kw_defaults = []) (ha : annTrees params none env = [])
    (h : wpAny M A (makeTail name (qualnameIn env name name) params (.stmts body) scope env .none .none none pos pos.line) (fun v s' => wpAny M A (storeName env name v) (fun _ s'' => Q .next s'') E s') E s) :
    wpAny M A (exec (.FunctionDef name params body [] none [] scope none name pos) env) Q E s := by
  rw [exec_def]
  refine wpAny_bind (wpAny_standAt (wpAny_bind (wpAny_holding ?_)))
  rw [defaultsOf_eq, hk0, ha, h0]
  refine wpAny_bind (kdv_all0 (env := env) ?_)
  refine wpAny_bind (wpAny_holding (wpAny_pure ?_))
  refine wpAny_holding (wpAny_bind (wpAny_pure ?_))
  rw [makeFunction_eq]
  simp only [List.zip_nil_right, List.filterMap_nil, List.isEmpty_nil, if_true, pure_bind]
  exact wpAny_mono h (fun v s' h' => wpAny_bind (wpAny_standAt (wpAny_bind (wpAny_bindName (wpAny_mono h' (fun _ _ h'' => wpAny_pure h'') fun _ _ x => x))))) fun _ _ x => x
noncomputable abbrev fnObj (name qual : Str) (params : Arguments) (body : List Stmt) (scope : Scope) (cl : List (Str × Addr)) (doc pm cdv ct : Value) : Obj := { cls := .type "function", data := .func (fnX name qual params body scope cl .none .none doc pm none cdv ct) }
theorem Cx.tabs (X : Cx) {P : Addr} (t : tab P) : X.S.get? P = some (tabObj #[]) := by
  rcases t with rfl | rfl
  · exact X.t1
  · exact X.t2
theorem GOk.tabs {X : Cx} {h : Heap} (G : GOk X h) {P : Addr} (t : tab P) : TabAt' X h P := by
  rcases t with rfl | rfl
  · exact G.p1
  · exact G.p2
theorem defTail {X : Cx} {A : Around} {E : Value → Shared → Prop} {s : Shared} {name qual : Str} {params : Arguments} {body : List Stmt} {scope : Scope} {env : Env} {c P : Addr} {pos : Pos} {line : Nat} {clos : List (Str × Addr)} {Q : Value → Shared → Prop} (G : GOk X s.heap) (hP : tab P) (hq : tabName P = qual)
    (hcl : closureFor scope env = pure clos) (hge0 : env.globals = mainGlobals) (hcode : env.code = .ref c) (hc : codeHdIn (KK X.w.params) c P = true)
    (h : ∀ f c' ct doc pm s', Stp X s s' → s'.heap.CodeRec (.ref c') qual → s'.heap.get? f = some (fnObj name qual params body scope clos doc pm (.ref c') ct) → s.heap.objs.size ≤ f → Q (.ref f) s') :
    wpAny (MX X) A (makeTail name qual params (.stmts body) scope env .none .none none pos line) Q E s := by
  have C := codeHd_of_K G.K hc
  have C0 := codeHd_of_K X.K hc
  obtain ⟨ps, e, r, cd⟩ := (G.tabs hP).ex
  have hgP : mainGlobals ≠ P := fun q => by subst q; exact nt3 hP
  have hb : s.heap.BuiltinsAt X.mg P := by
    obtain ⟨bm, ob, b1, b2, b3, b4, b5, b6⟩ := X.bmain
    have nt : ¬ tab bm := fun t => by rw [X.tabs t] at b3; cases b3; cases b4
    refine ⟨bm, ob, b1, b2, fun q => ?_, fun q => nt (q ▸ hP), G.ext _ _ nt b3, b4, b5, b6⟩
    subst q
    obtain ⟨o, es, ep, e, hd, _⟩ := X.g
    rw [e] at b3; cases b3; rw [hd] at b6; cases b6
  cases hf : codeAmong pos ps.toList with
  | none =>
    refine makeTail_K hcl hge0 G.g hcode C e r hf hgP hb fun c' ctv doc h' tk hx hge hlt hrec htb => ?_
    have nP : P ≠ cStatics := fun q => by subst q; exact nt2 hP
    have G' : GOk X h' := by
      have tb' : ∀ {P'}, tab P' → TabAt' X h' P' := fun {P'} t' => by
        have recs : ∀ {cv q}, s.heap.CodeRec cv q → h'.CodeRec cv q := fun x => CodeRec.but x (Lv.tab e r).2 fun b o n e => hx b o n e
        by_cases q : P' = P
        · subst q
          refine ⟨_, htb, by rw [Array.toList_append]; exact TriplesOk_snoc _ _ _ _ r, fun p v hv => ?_⟩
          rw [Array.toList_append] at hv
          rcases codeAmong_some _ r hv with z | rfl
          · exact recs (cd p v z)
          · rw [hq]; exact hrec
        · obtain ⟨ps', e', r', cd'⟩ := (G.tabs t').ex
          exact ⟨ps', hx _ _ q e', r', fun p v hv => recs (cd' p v hv)⟩
      refine ⟨fun b o t e => hx b o (fun q => t (q ▸ hP)) (G.ext b o t e), G.old.step_table (C0.tab (X.tabs hP)) (C.tab e) ((⟨?_, htb⟩ : h'.TableAt c P _)) hx nP, tb' (.inl rfl), tb' (.inr rfl)⟩
      obtain ⟨⟨o, vs, e1, e2, e3, e4⟩, _⟩ := C.tab e
      exact ⟨o, vs, hx _ _ (fun q => by subst q; obtain ⟨_, _, _, _, _, _, _, _, _, _, _, _, _, _, _, _, _, _, ne⟩ := C; exact ne rfl) e1, e2, e3, e4⟩
    refine h h'.objs.size c' ctv doc _ _ ⟨⟨_, _, rfl⟩, fun b o t e => Heap.get?_push_of_some _ (hx b o (fun q => t (q ▸ hP)) e), G'.keeps fun _ _ e => Heap.get?_push_of_some _ e⟩ (hrec.push _) (Heap.get?_push_size _ rfl) (Nat.le_trans hge (Nat.le_of_lt hlt))
  | some cv =>
    have rec' := cd pos cv hf
    rw [hq] at rec'
    obtain ⟨c', oc, vs, t, rfl, g, r1, r2⟩ := rec'
    refine makeTail_hit hcl hge0 G.g hcode C e r hf hb fun ctv doc h' tk hk hsz => ?_
    have hk' : ∀ (o' : Obj) b o, s.heap.get? b = some o → (h'.push o').get? b = some o := fun o' b o e => Heap.get?_push_of_some _ (hk b o e)
    exact h h'.objs.size c' ctv doc _ _ ⟨⟨_, _, rfl⟩, .of (hk' _), G.keeps (hk' _)⟩ ⟨c', oc, vs, t, rfl, hk' _ _ _ g, r1, r2⟩ (Heap.get?_push_size _ rfl) hsz
theorem ints_of {av : Addr → Prop} {h : Heap} : ∀ {vs : List Value} {ts : List Int}, Rs av h vs (ts.map V.int) → ∀ (av' : Addr → Prop) (h' : Heap), Rs av' h' vs (ts.map V.int)
  | [], [], _, _, _ => .nil
  | v :: vs, t :: ts, r, _, _ => by
    cases r with
    | cons r rs => cases r; exact .cons (.int _ _) (ints_of rs _ _)
  | [], t :: ts, r, _, _ => by (first | (obtain ⟨_, rfl⟩ := R.intI r; clear r) | (obtain ⟨_, rfl⟩ := R.strI r; clear r) | (obtain rfl := R.boolI r; clear r) | (obtain rfl := Rs.nilI r; clear r) | (obtain rfl := R.noneI r; clear r) | cases r)
  | v :: vs, [], r, _, _ => by (first | (obtain ⟨_, rfl⟩ := R.intI r; clear r) | (obtain ⟨_, rfl⟩ := R.strI r; clear r) | (obtain rfl := R.boolI r; clear r) | (obtain rfl := Rs.nilI r; clear r) | (obtain rfl := R.noneI r; clear r) | cases r)
theorem finRet {X : Cx} {env : Env} {ρ : List (Str × V)} {ω : Option Own} {oa oo : Option Addr} {hb : Heap} {av0 : Addr → Prop} {s s2 : Shared} (I2 : Inv X hb av0 env ρ ω oo s2.heap) (y : Same env oa s s2) (s4 : Shared) (v : Value) (d : V) (st : Stp X s2 s4) (r : R av0 s4.heap v d) :
    Same env oa s s4 ∧ OutOk X hb av0 env oa s.heap (.ret d) (.ret v) s4.heap := ⟨y.trans st.same, v, rfl, st.ok, I2.ext.trans st.ext, r⟩
theorem EvJ.to {X : Cx} {n : Nat} {env : Env} {ρ : List (Str × V)} {e : Expr} {d d' : V} (h : EvJ X n env ρ e d) (q : d = d') : EvJ X n env ρ e d' := q ▸ h
end
section
theorem foldRep (v : Value) : ∀ (k : Nat) (acc : Array Value), List.foldl (fun x1 x2 => x1 ++ x2) acc (List.replicate k #[v]) = acc ++ (List.replicate k v).toArray
  | 0, acc => by simp
  | k + 1, acc => by rw [List.replicate_succ, List.foldl_cons, foldRep v k, List.replicate_succ, Array.append_assoc]; congr 1; apply Array.ext'; simp
theorem Rs.replicate {av : Addr → Prop} {h : Heap} {v : Value} {d : V} (r : R av h v d) : ∀ k, Rs av h (List.replicate k v) (List.replicate k d)
  | 0 => .nil
  | k + 1 => .cons r (Rs.replicate r k)
theorem storesGh {env : Env} {g : Gh} {y : g.σ} {x : Str} (hx : env.kindOf x = some .local ∨ (env.kindOf x = some .cell ∧ ∃ c, env.cells.lookup x = some c ∧ env.locals < c)) : Stores env (some (.gh g y)) x := ⟨hx, fun _ _ h => nomatch h⟩
theorem midI (lo hi : Nat) : ((lo : Int) + (hi : Int)).fdiv (2 ^ (1 : Int).toNat) = (((lo + hi) / 2 : Nat) : Int) := by
  show Int.fdiv _ 2 = _
  rw [Int.fdiv_eq_ediv_of_nonneg _ (by decide)]; k_data
theorem small64 {x : Int} {k : Nat} (h0 : 0 ≤ x) (h : x < 2 ^ k) (hk : k ≤ 60) : x.natAbs < 2 ^ 64 := by
  have : ((2 ^ k : Nat) : Int) ≤ ((2 ^ 60 : Nat) : Int) := Int.ofNat_le.mpr (Nat.pow_le_pow_right (by decide) hk)
  rw [Int.natCast_pow, Int.natCast_pow] at this
  simp only [Int.cast_ofNat_Int] at this
  have e : (2 : Int) ^ 60 = 1152921504606846976 := by decide
  rw [e] at this
  show x.natAbs < 18446744073709551616
  k_data
noncomputable def ghI (la : Addr) : Gh where
  a := la
  σ := List Int
  P := fun is _ h => ∃ vs : List Value, h.PlainList la vs.toArray ∧ Rs (fun _ => False) h vs (is.map V.int)
  mv := fun {x av av' h h'} k _ ⟨vs, pl, rs⟩ => ⟨vs, pl.at fun o e => k _ o (.inl rfl) e, ints_of rs _ _⟩
  lv := fun ⟨vs, pl, _⟩ => .list pl.isList
section
variable {X : Cx} {n : Nat} {env : Env} {ρ : List (Str × V)} {g : Gh}
theorem FrJ.rep {e k : Expr} {lpos pos : Pos} {d : V} {x : Int} (h1 : EvJ X n env ρ e d) (he : isStarred e = false) (h2 : EvJ X n env ρ k (.int x)) (h0 : 0 ≤ x) (hx : x ≤ 1000) : FrJ X n env ρ (.BinOp (.List [e] lpos) .Mult k pos) (List.replicate x.toNat d) :=
  .mk fun A E s av b G a VV => by
    refine wpAny_BinOp (wpAny_mono ((EvJ.list (EvsJ.cons h1 .nil (starEach_of he)) (by show 1 ≤ 1000; decide)).run A E s av b G a VV) (fun u s₁ q₁ => wpAny_mono (h2.run A E s₁ av b q₁.1.ok (a.step q₁.1) (VV.step G a q₁.1)) (fun v s₂ q₂ => ?_) fun _ _ e => e) fun _ _ e => e)
    have r1 := q₁.2.step (a.step q₁.1) q₂.1
    have q2 := q₂.2
    have st := q₁.1.trans q₂.1
    cases q2 with
    | int _ t =>
    (have hx := R.listI r1; clear r1; obtain ⟨l, vs, rfl, nl, pl, rs⟩ := hx)
    case _ =>
    cases rs with
    | @cons w _ ws _ rw' rs =>
    (first | (obtain ⟨_, rfl⟩ := R.intI rs; clear rs) | (obtain ⟨_, rfl⟩ := R.strI rs; clear rs) | (obtain rfl := R.boolI rs; clear rs) | (obtain rfl := Rs.nilI rs; clear rs) | (obtain rfl := R.noneI rs; clear rs) | cases rs)
    obtain ⟨m, hl⟩ := pl
    refine wpAny_binaryOp_repeat_ref (T := "list") (U := "int") (by decide) ⟨_, hl, rfl⟩ (fun s' => typeIs_int s' x t) noFill_list_mul F.fills_int_mul F.slot_int_rmul repeat_list F.slot_int_index.lookup
      (call_meets F.slot_int_rmul (typeIs_int s₂ x t) F.entry_int_rmul (F.args_int_rmul_2 _ _) (int___rmul___int_list x t l _ m)
        ⟨hl, rfl, ⟨_, hl, rfl⟩, call_meets F.slot_list_mul ⟨_, hl, rfl⟩ F.entry_list_mul (F.args_list_mul_2 _ _)
          (AutoListH.list___mul___list_int_3 l _ m x t (by simp [Builtin.List.listFitsIndex]; k_data) (by simp; k_data) (by simp [Builtin.List.listTooLong, sizeLine]; k_data))
          ⟨hl, ?_⟩⟩)
    have e : List.foldl (fun x1 x2 => x1 ++ x2) #[] (List.replicate (if ([w] : List Value).toArray.isEmpty = true then 0 else x.toNat) ([w] : List Value).toArray) = (List.replicate x.toNat w).toArray := by
      rw [if_neg (by simp), foldRep]; simp
    show wants _ _ _ { s₂ with toks := _, heap := s₂.heap.push { cls := .type "list", data := .seq (List.foldl (fun x1 x2 => x1 ++ x2) #[] (List.replicate (if ([w] : List Value).toArray.isEmpty = true then 0 else x.toNat) ([w] : List Value).toArray)) } }
    rw [e]
    refine ⟨st.trans (.push st.ok), s₂.heap.objs.size, List.replicate x.toNat w, rfl, fun b o e => ?_, ⟨_, Heap.get?_push_size _ rfl⟩, ?_⟩
    · obtain ⟨o', e'⟩ := (st.same (env := env) (oa := none)).al b o e; exact Heap.lt_size e'
    · exact Rs.replicate (rw'.move (fun b o _ e => Heap.get?_push_of_some _ e) fun b z => z.imp id fun z => by subst z; exact size_none _) _
theorem StJ.retN {x : g.σ} {pos : Pos} : StJ X n env ρ (some (.gh g x)) (.Return none pos) (.retG .none g x) :=
  .mk fun A E s hb av0 oa b I => wpAny_Return_none ⟨.refl s, .none, rfl, I.ok, I.ext, .none, g.mv (fun _ _ _ e => e) (fun b q => .inl (.inl q)) I.gh.2.2.2.2⟩
theorem StJ.setG {la : Addr} {nm : Str} {p ipos pos : Pos} {i e : Expr} {k d : Int} {is : List Int} (h0 : ρ.lookup nm = some (.raw (.ref la) [])) (h1 : EvJ X n env ρ i (.int k)) (h2 : EvJ X n env ρ e (.int d)) (hk : 0 ≤ k) (hl : k.toNat < is.length) (hl' : is.length ≤ 1000)
    (hd : (nm == ("__debug__" : Str)) = false) (hcd : (nm == ("__classdict__" : Str)) = false) (hs : swapsWith e (some (.Subscript (.Name nm p) i ipos)) pos.line env = pure false) :
    StJ X n env ρ (some (.gh (ghI la) is)) (.Assign [.Subscript (.Name nm p) i ipos] e pos) (.next ρ (some (.gh (ghI la) (is.set k.toNat d)))) :=
  .mk fun A E s hb av0 oa b I => by
    refine wpAny_Assign_Subscript (wpAny_mono (h2.run A E s _ b I.ok I.avk I.en) (fun v s₁ q₁ => wpAny_mono ((EvJ.name (pos := p) (n := n) h0 hd hcd).run A E s₁ _ b q₁.1.ok (I.step q₁.1).avk (I.step q₁.1).en)
      (fun ov s₂ q₂ => wpAny_mono (h1.run A E s₂ _ b q₂.1.ok ((I.step q₁.1).step q₂.1).avk ((I.step q₁.1).step q₂.1).en) (fun iv s₃ q₃ => ?_) fun _ _ e => e) fun _ _ e => e) fun _ _ e => e) hs
    have st := (q₁.1.trans q₂.1).trans q₃.1
    have I3 := I.step st
    obtain ⟨rfl, i2, i3, i4, vs, pl, rs⟩ := I3.gh
    obtain ⟨_, r2⟩ := q₂
    obtain ⟨_, r3⟩ := q₃
    obtain ⟨_, r1⟩ := q₁
    cases r2 with
    | raw _ _ _ =>
    cases r3 with
    | int _ t =>
    cases r1 with
    | int _ t1 =>
    have hvl : vs.length = is.length := by rw [rs.length, List.length_map]
    refine setItem_plain pl hk (by rw [List.size_toArray, hvl]; k_data) (by k_data) fun h' hl2 hs' => ?_
    have z : StpG X la s₃ { s₃ with heap := h' } := by
      refine ⟨⟨_, _, rfl⟩, fun b o _ nb e => (hs'.2 b nb).trans e, fun o e => ?_, fun _ => .list hl2.isList, I3.ok.same i2 hs' (.list pl.isList)⟩
      obtain ⟨m, e⟩ := hl2; exact ⟨_, e⟩
    refine ⟨(st.same).trans z.same, rfl, _, I3.stepG (g := ghI la) z ⟨vs.set k.toNat (.int d t1), by simpa using hl2, ?_⟩, .refl⟩
    rw [List.map_set]
    exact Rs.set (.int d t1) k.toNat (ints_of rs _ _)
theorem LoopJ.foldI {target : Expr} {body orelse : List Stmt} {α σ : Type} {out : Out} (emb : α → V) (ρf : σ → List (Str × V)) (ωf : σ → Option Own) (step : σ → α → σ) (P : Nat → σ → Prop) (l : List α) (k : Nat)
    (hb : ∀ i σ a, l[i]? = some a → P (k + i) σ → P (k + i + 1) (step σ a) ∧ ∃ ρ₁, TgJ X env (ωf σ) target (emb a) (ρf σ) ρ₁ ∧ ExJ X n env ρ₁ (ωf σ) body (.next (ρf (step σ a)) (ωf (step σ a)))) (σ : σ) (h0 : P k σ) (he : P (k + l.length) (l.foldl step σ) → ExJ X n env (ρf (l.foldl step σ)) (ωf (l.foldl step σ)) orelse out) :
    LoopJ X n env target body orelse (l.map emb) (ρf σ) (ωf σ) out := by
  induction l generalizing σ k with
  | nil => exact .nil (he h0)
  | cons a l ih =>
    obtain ⟨hp, ρ₁, t, x⟩ := hb 0 σ a rfl h0
    refine .next t x (ih (k + 1) (fun i σ b hm h => ?_) _ hp fun h => he (by rwa [List.length_cons, show k + (l.length + 1) = k + 1 + l.length by k_data]))
    have := hb (i + 1) σ b hm (by rwa [show k + (i + 1) = k + 1 + i by k_data])
    rwa [show k + (i + 1) = k + 1 + i by k_data] at this
variable {hb : Heap} {av0 : Addr → Prop} {oa : Option Addr} {ω : Option Own}
theorem Inv.stepL {x : Str} {a : Addr} {ds ds' : List V} {vs : List Value} {s s' : Shared} (I : Inv X hb av0 env ρ (some (Own.lst x ds)) (some a) s.heap) (z : StpG X a s s') (hl : s'.heap.PlainList a vs.toArray) (hr : Rs (AvB av0 env (some a)) s'.heap vs ds') :
    Inv X hb av0 env ρ (some (Own.lst x ds')) (some a) s'.heap := by
  obtain ⟨h1, h2, vs0, h3, h4⟩ := I.own
  obtain ⟨m, hm, hr'⟩ := I.en.ns
  have nl : env.locals ≠ a := fun q => ns_list hm h3.isList q.symm
  have nc : ∀ {c : Addr} {v : Option Value}, s.heap.IsCell c v → c ≠ a := fun z q => cell_list z h3.isList q.symm
  have kc : ∀ {c : Addr} {v : Option Value}, s.heap.IsCell c v → s'.heap.IsCell c v := fun i => let ⟨o, e, hd⟩ := i; ⟨o, z.kp _ o (cell_nt I.ok i) (nc i) e, hd⟩
  have ha : AvB av0 env (some a) a := .inr (.inr (.inr rfl))
  have hm' : s'.heap.Ns env.locals m := ns_ext hm fun o e => z.kp _ o (ns_nt I.ok hm) nl e
  refine ⟨z.ok, fun b o t e => z.kp b o t (fun q => Nat.lt_irrefl _ (Nat.lt_of_lt_of_le (Heap.lt_size (q ▸ e)) h1)) (I.ext b o t e), I.base, I.avk.stepG z, ⟨I.en.fn, I.en.gl, I.en.bl, .inr (.inl rfl), ⟨m, hm', fun y d h1 h2 => let ⟨v, e, r⟩ := hr' y d h1 h2; ⟨v, e, r.stepG I.avk ha z⟩⟩, fun y d hy => ?_⟩,
    I.fl, I.cs, fun y c k hc => let ⟨v, i⟩ := I.fc y c k hc; ⟨v, kc i⟩, I.ap, I.d1, I.d2, I.d3, h1, ?_, vs, hl, hr⟩
  · exact (I.en.cl y d hy).imp id fun ⟨h1, c, v, h2, ha', h3, r⟩ => ⟨h1, c, v, h2, ha', kc h3, r.stepG I.avk ha z⟩
  · rcases h2 with ⟨k, m', hm2, e⟩ | ⟨k, c, hc, i⟩
    · exact .inl ⟨k, m', ns_ext hm2 fun o e => z.kp _ o (ns_nt I.ok hm2) nl e, e⟩
    · exact .inr ⟨k, c, hc, kc i⟩
end
end
section
noncomputable def entOk (e : DictEntry) : Bool := match e.key, e.val with
  | .int k _, .str _ _ => e.hash == hashInt k
  | _, _ => false
noncomputable def entPair (e : DictEntry) : Int × Str := match e.key, e.val with
  | .int k _, .str x _ => (k, x)
  | _, _ => (0, "")
theorem find_pair (k : Int) : ∀ (l : List DictEntry), l.all entOk = true → (∃ x t, (l.find? fun e => Value.isInt k e.key).map (·.val) = some (.str x t) ∧ (l.map entPair).lookup k = some x) ∨ ((l.find? fun e => Value.isInt k e.key).map (·.val) = none ∧ (l.map entPair).lookup k = none)
  | [], _ => .inr ⟨rfl, rfl⟩
  | e :: l, h => by
    rw [List.all_cons, Bool.and_eq_true] at h
    obtain ⟨hash, key, val⟩ := e
    have h1 := h.1
    unfold entOk at h1
    split at h1
    · rename_i i t x u hk hv
      simp only at hk hv
      subst hk hv
      rw [List.find?_cons, List.map_cons]
      show (∃ x' t', Option.map _ (match Value.isInt k (.int i t) with | true => _ | false => _) = _ ∧ List.lookup k ((i, x) :: _) = _) ∨ (Option.map _ (match Value.isInt k (.int i t) with | true => _ | false => _) = _ ∧ List.lookup k ((i, x) :: _) = _)
      by_cases e : k = i
      · subst e
        have : Value.isInt k (.int k t) = true := by simp [Value.isInt]
        rw [this, List.lookup_cons, beq_self_eq_true]
        exact .inl ⟨x, u, rfl, rfl⟩
      · have h1 : Value.isInt k (.int i t) = false := by simp [Value.isInt]; exact fun q => e q.symm
        have h2 : (k == i) = false := by simpa using e
        rw [h1, List.lookup_cons, h2]
        exact find_pair k l h.2
    · cases h1
section
variable {X : Cx} {n : Nat} {env : Env} {ρ : List (Str × V)}
theorem ExJ.toB {ω ω₂ : Option Own} {ρ₂ ρ₂' : List (Str × V)} {ss : List Stmt} (h : ExJ X n env ρ ω ss (.brk ρ₂ ω₂)) (w : Sub ρ₂ ρ₂') : ExJ X n env ρ ω ss (.brk ρ₂' ω₂) :=
  .mk fun A E s hb av0 oa b I => wpAny_mono (h.run A E s hb av0 oa b I) (fun fl s' z => ⟨z.1, let ⟨a, c, d, e⟩ := z.2; ⟨a, c, d.weak w.lk, e⟩⟩) fun _ _ e => e
noncomputable def runB {α σ : Type} (step : σ → α → Bool × σ) : List α → σ → Bool × σ
  | [], s => (false, s)
  | a :: l, s => match step s a with | (true, s') => (true, s') | (false, s') => runB step l s'
theorem LoopJ.foldB {target : Expr} {body orelse : List Stmt} {α σ : Type} {out : Out} (emb : α → V) (ρf : σ → List (Str × V)) (ωf : σ → Option Own) (step : σ → α → Bool × σ) (P : Nat → σ → Prop) (l : List α) (k : Nat)
    (hb : ∀ i σ a, l[i]? = some a → P (k + i) σ → P (k + i + 1) (step σ a).2 ∧ ∃ ρ₁, TgJ X env (ωf σ) target (emb a) (ρf σ) ρ₁ ∧ match step σ a with | (true, σ') => ExJ X n env ρ₁ (ωf σ) body (.brk (ρf σ') (ωf σ')) | (false, σ') => ExJ X n env ρ₁ (ωf σ) body (.next (ρf σ') (ωf σ')))
    (σ : σ) (h0 : P k σ) (he : match runB step l σ with | (true, σ') => out = .next (ρf σ') (ωf σ') | (false, σ') => P (k + l.length) σ' → ExJ X n env (ρf σ') (ωf σ') orelse out) :
    LoopJ X n env target body orelse (l.map emb) (ρf σ) (ωf σ) out := by
  induction l generalizing σ k with
  | nil => exact .nil (he h0)
  | cons a l ih =>
    obtain ⟨hp, ρ₁, t, x⟩ := hb 0 σ a rfl h0
    unfold runB at he
    cases hs : step σ a with
    | mk br σ' =>
      rw [hs] at x he hp
      cases br with
      | true => cases he; exact .brk t x
      | false =>
        refine .next t x (ih (k + 1) (fun i σ b hm h => ?_) _ hp ?_)
        · have := hb (i + 1) σ b hm (by rwa [show k + (i + 1) = k + 1 + i by k_data])
          rwa [show k + (i + 1) = k + 1 + i by k_data] at this
        · rwa [List.length_cons, show k + (l.length + 1) = k + 1 + l.length by k_data] at he
theorem EvJ.dget {nm : Str} {p apos pos : Pos} {a : Addr} {es : Array DictEntry} {ep : Nat} {e1 e2 : Expr} {k : Int} {x : Str} {tbl : List (Int × Str)} (hf : GlV X n env ρ (.Name nm p) (.ref a)) (hK : (KK X.w.params).lookup a = some ⟨.type "dict", none, .dict es ep, #[]⟩) (hok : es.toList.all entOk = true) (htab : es.toList.map entPair = tbl)
    (h1 : EvJ X n env ρ e1 (.int k)) (h2 : EvJ X n env ρ e2 (.str x)) (ha : (a == sysModules) = false) (hb : ∀ w, attributeBase (.Name nm p) "get" env w = w) (hp : (apos.endLine == pos.line) = true) (hst : [e1, e2].any isStarred = false) :
    EvJ X n env ρ (.Call (.Attribute (.Name nm p) "get" apos) [e1, e2] [] pos) (.str ((tbl.lookup k).getD x)) := .mk fun A E s av b G a' VV => by
  subst htab
  rw [arm_eval_Call, hb]
  refine wpAny_bind (wpAny_mono (hf.run A E s av b G VV) (fun u s₁ q₁ => wpAny_bind (wpAny_standAt ?_)) fun _ _ e => e)
  obtain ⟨rfl, rfl⟩ := q₁
  have ho := G.K _ _ hK
  have T : s₁.TypeIs (.ref a) "dict" := ⟨_, ho, rfl⟩
  refine methTailO (id := "dict.get") (fun pl Q hQ => getMethod_builtin T PySem.F.plainAttrs_dict F.slot_dict_get F.type_dict_get (fun b e => by cases e; exact ⟨_, ho, rfl⟩) hQ) hp hst (by decide : 2 < 20) (callWith_builtin (backTo_of hst) ?_)
  have hst' := hst
  rw [List.any_cons, Bool.or_eq_false_iff] at hst'
  have hst2 := hst'.2
  rw [List.any_cons, Bool.or_eq_false_iff] at hst2
  have := (EvsJ.cons h1 (EvsJ.cons h2 .nil (starEach_of hst2.1)) (starEach_of hst'.1)).run pos A E s₁ av b G a' VV
  rw [starEach_of hst'.1] at this ⊢
  refine evalArgs_plain (wpAny_mono this (fun vs s₂ q => ?_) fun _ _ e => e)
  obtain ⟨q1, rs⟩ := q
  (have hx := Rs.consI rs; clear rs; obtain ⟨_, _, rfl, r1, rs⟩ := hx); case _ => (have hx := Rs.consI rs; clear rs; obtain ⟨_, _, rfl, r2, rs⟩ := hx); case _ =>
      (first | (obtain ⟨_, rfl⟩ := R.intI rs; clear rs) | (obtain ⟨_, rfl⟩ := R.strI rs; clear rs) | (obtain rfl := R.boolI rs; clear rs) | (obtain rfl := Rs.nilI rs; clear rs) | (obtain rfl := R.noneI rs; clear rs) | cases rs); cases r1 with
      | int _ t => cases r2 with
        | str _ u =>
          have ho2 := q1.ok.K _ _ hK
          have T2 : s₂.TypeIs (.ref a) "dict" := ⟨_, ho2, rfl⟩
          refine call_meetsIn F.slot_dict_get T2 F.entry_dict_get (F.args_dict_get_3 _ _ _) (meets_dict_get_default (intKind Prog X.w) (k := k) (key := .int k t) a (by simp [intKind, Value.isInt]) ha (.str x u)) ?_
          refine ⟨fun y => findBy Value.isInt es y, ⟨_, es, ep, ho2, ⟨rfl, rfl, rfl⟩, rfl, fun e he => ?_, fun y => rfl⟩, ?_⟩
          · have := List.all_eq_true.mp hok e (Array.mem_toList_iff.mpr he)
            unfold entOk at this
            split at this
            · rename_i i ti xi ui hk hv
              exact ⟨i, by rw [hk]; simp [intKind, Value.isInt], by have := eq_of_beq this; exact this⟩
            · cases this
          · have hfind : findBy Value.isInt es k = (es.toList.find? fun e => Value.isInt k e.key).map (·.val) := by
              unfold findBy; rw [← Array.find?_toList]
            show wants _ _ (Except.ok (Flow.ret ((findBy Value.isInt es k).getD (Value.str x u)))) _
            rcases find_pair k es.toList hok with ⟨y, ty, g1, g2⟩ | ⟨g1, g2⟩
            · rw [hfind, g1, g2]
              exact ⟨q1.trans (.tok q1.ok), .str _ _⟩
            · rw [hfind, g1, g2]
              exact ⟨q1.trans (.tok q1.ok), .str _ _⟩
end
end
section
theorem MethJ.joins {x y : Str} (hok : JoinOk x (PyProof.Rows.signs y) = true) : MethJ "join" (.str x) [.str y] (.str (Txt.join x (PyProof.Rows.signs y))) :=
  ⟨_, fun M A E s av u pl Q r h => by (first | (obtain ⟨_, rfl⟩ := R.intI r; clear r) | (obtain ⟨_, rfl⟩ := R.strI r; clear r) | (obtain rfl := R.boolI r; clear r) | (obtain rfl := Rs.nilI r; clear r) | (obtain rfl := R.noneI r; clear r) | cases r); exact GM.join h, fun X n A E s av u vs b G a r rs => by
    (first | (obtain ⟨_, rfl⟩ := R.intI r; clear r) | (obtain ⟨_, rfl⟩ := R.strI r; clear r) | (obtain rfl := R.boolI r; clear r) | (obtain rfl := Rs.nilI r; clear r) | (obtain rfl := R.noneI r; clear r) | cases r); (have hx := Rs.consI rs; clear rs; obtain ⟨_, _, rfl, r1, rs⟩ := hx)
    case _ => (first | (obtain ⟨_, rfl⟩ := R.intI rs; clear rs) | (obtain ⟨_, rfl⟩ := R.strI rs; clear rs) | (obtain rfl := R.boolI rs; clear rs) | (obtain rfl := Rs.nilI rs; clear rs) | (obtain rfl := R.noneI rs; clear rs) | cases rs); (first | (obtain ⟨_, rfl⟩ := R.intI r1; clear r1) | (obtain ⟨_, rfl⟩ := R.strI r1; clear r1) | (obtain rfl := R.boolI r1; clear r1) | (obtain rfl := Rs.nilI r1; clear r1) | (obtain rfl := R.noneI r1; clear r1) | cases r1); exact SC.joinStr b.hh hok fun h' k t' hk => ⟨.keeps G hk, .str _ _⟩⟩
section
variable {X : Cx} {n : Nat} {env : Env} {ρ : List (Str × V)}
theorem EvJ.and2 {x y : Expr} {pos : Pos} {p q : Bool} (h1 : EvJ X n env ρ x (.bool p)) (h2 : p = true → EvJ X n env ρ y (.bool q)) : EvJ X n env ρ (.BoolOp .And [x, y] pos) (.bool (p && q)) :=
  .mk fun A E s av b G a VV => wpAny_And2 (wpAny_mono (h1.run A E s av b G a VV) (fun v s₁ q₁ => by
    obtain ⟨q1, r⟩ := q₁
    (first | (obtain ⟨_, rfl⟩ := R.intI r; clear r) | (obtain ⟨_, rfl⟩ := R.strI r; clear r) | (obtain rfl := R.boolI r; clear r) | (obtain rfl := Rs.nilI r; clear r) | (obtain rfl := R.noneI r; clear r) | cases r)
    refine wpAny_truthy_bool ?_
    cases p with
    | true => exact wpAny_mono ((h2 rfl).run A E s₁ av b q1.ok (a.step q1) (VV.step G a q1)) (fun r s₂ z => ⟨q1.trans z.1, z.2⟩) fun _ _ e => e
    | false => exact ⟨q1, .bool _⟩) fun _ _ e => e)
theorem EvJ.and3 {x y z : Expr} {pos : Pos} {p q : Bool} (h1 : EvJ X n env ρ x (.bool p)) (h2 : p = true → EvJ X n env ρ (.BoolOp .And [y, z] pos) (.bool q)) : EvJ X n env ρ (.BoolOp .And [x, y, z] pos) (.bool (p && q)) :=
  .mk fun A E s av b G a VV => by
    show wpAny _ A (do
      let v ← eval x env
      standAt pos
      let t ← holding [v] (truthy v)
      match BoolOp.And, t with
      | .And, false | .Or, true => pure v
      | _, _ => boolOp pos .And [eval y env, eval z env]) _ E s
    refine wpAny_bind (wpAny_mono (h1.run A E s av b G a VV) (fun v s₁ q₁ => ?_) fun _ _ x => x)
    obtain ⟨q1, r⟩ := q₁
    (first | (obtain ⟨_, rfl⟩ := R.intI r; clear r) | (obtain ⟨_, rfl⟩ := R.strI r; clear r) | (obtain rfl := R.boolI r; clear r) | (obtain rfl := Rs.nilI r; clear r) | (obtain rfl := R.noneI r; clear r) | cases r)
    refine wpAny_bind (wpAny_standAt (wpAny_bind (wpAny_holding (wpAny_truthy_bool ?_))))
    cases p with
    | true => exact wpAny_mono ((h2 rfl).run A E s₁ av b q1.ok (a.step q1) (VV.step G a q1)) (fun r s₂ z => ⟨q1.trans z.1, z.2⟩) fun _ _ e => e
    | false => exact wpAny_pure ⟨q1, .bool _⟩
theorem EvJ.slU {o e : Expr} {p pos : Pos} {x : Str} {k : Int} (h1 : EvJ X n env ρ o (.str x)) (h2 : EvJ X n env ρ e (.int k)) (h : (subStr x none (some k)).length ≤ 1000000)
    (hs : ∀ o i, subscripted (.Slice none (some e) none p) false o i = operate [i, o] (getItem o i)) : EvJ X n env ρ (.Subscript o (.Slice none (some e) none p) pos) (.str (subStr x none (some k))) := .slice (l := none) (u := some k) h1 trivial h2 (SliJ.str h) hs
theorem EvJ.slL {o e : Expr} {p pos : Pos} {x : Str} {k : Int} (h1 : EvJ X n env ρ o (.str x)) (h2 : EvJ X n env ρ e (.int k)) (h : (subStr x (some k) none).length ≤ 1000000)
    (hs : ∀ o i, subscripted (.Slice (some e) none none p) false o i = operate [i, o] (getItem o i)) : EvJ X n env ρ (.Subscript o (.Slice (some e) none none p) pos) (.str (subStr x (some k) none)) := .slice (l := some k) (u := none) h1 h2 trivial (SliJ.str h) hs
theorem EvJ.joins {o e : Expr} {apos pos : Pos} {x y : Str} (h1 : EvJ X n env ρ o (.str x)) (h2 : EvJ X n env ρ e (.str y)) (hok : JoinOk x (PyProof.Rows.signs y) = true) (hb : ∀ w, attributeBase o "join" env w = w) (hp : (apos.endLine == pos.line) = true) (hst : [e].any isStarred = false) :
    EvJ X n env ρ (.Call (.Attribute o "join" apos) [e] [] pos) (.str (Txt.join x (PyProof.Rows.signs y))) := by
  have hst' := hst
  rw [List.any_cons, Bool.or_eq_false_iff] at hst'
  exact .meth h1 (.cons h2 .nil (starEach_of hst'.1)) (MethJ.joins hok) hb hp hst (by show 1 < 20; decide)
theorem TrJ.chain2 {l r₁ r₂ : Expr} {op₁ op₂ : CmpOp} {pos : Pos} {x y z : V} {p q : Bool} (h1 : EvJ X n env ρ l x) (h2 : EvJ X n env ρ r₁ y) (c1 : CmpJ op₁ x y p) (h3 : p = true → EvJ X n env ρ r₂ z) (c2 : p = true → CmpJ op₂ y z q) (hm : lastMarks [op₁, op₂] [r₁, r₂] = false) :
    TrJ X n env ρ (.Compare l [op₁, op₂] [r₁, r₂] pos) (p && q) :=
  .mk fun A E s av b G a VV => by
    refine isTrue_chain (wpAny_mono (h1.run A E s av b G a VV) (fun u s₁ q₁ => ?_) fun _ _ e => e) hm
    have a1 := a.step q₁.1
    refine test_link (wpAny_mono (h2.run A E s₁ av b q₁.1.ok a1 (VV.step G a q₁.1)) (fun v s₂ q₂ => ?_) fun _ _ e => e)
    have st2 := q₁.1.trans q₂.1
    have a2 := a1.step q₂.1
    have r1 := q₁.2.step a1 q₂.1
    refine wpAny_mono (c1.run X n A E s₂ av u v b q₂.1.ok a2 r1 q₂.2) (fun c s₃ q₃ => ?_) fun _ _ e => e
    obtain ⟨q3, rfl⟩ := q₃
    refine wpAny_truthy_bool ?_
    have st3 := st2.trans q3
    cases p with
    | false => exact ⟨st3, rfl⟩
    | true =>
      refine test_last (wpAny_mono ((h3 rfl).run A E s₃ av b q3.ok (a2.step q3) (VV.step G a st3)) (fun w s₄ q₄ => ?_) fun _ _ e => e)
      refine wpAny_mono ((c2 rfl).run X n A E s₄ av v w b q₄.1.ok ((a2.step q3).step q₄.1) ((q₂.2.step a2 q3).step (a2.step q3) q₄.1) q₄.2) (fun c s₅ q₅ => ?_) fun _ _ e => e
      obtain ⟨q5, rfl⟩ := q₅
      exact wpAny_truthy_bool ⟨(st3.trans q₄.1).trans q5, rfl⟩
end
end
section
section
variable {prog : Program} {w : World} {A : Around} {E : Value → Shared → Prop} {s : Shared} {it l : Addr} {i : Nat} {items : Array Value}
theorem nextItem {x : Value} {Q : Value → Shared → Prop} (hit : s.heap.IsListIter it l i) (hl : s.heap.IsList l items) (hx : items[i]? = some x)
    (hQ : ∀ h', h'.IsListIter it l (i + 1) → Heap.SameBut it s.heap h' → Q x { s with heap := h' }) : wpAny (model prog w) A (call (.builtin "next") [.ref it]) Q E s := by
  refine call_function_entry (by decide +kernel) (by decide +kernel) kdk_entry_next (kdk_args_next _) ?_
  unfold Builtin.«next»
  refine wpAny_bind (m := someArgs "next" 1 2 _) (wpAny_of_eq (a := [Value.ref it]) (by first | rfl | kernel_rfl!) ?_)
  dsimp only
  refine wpAny_bind (wpAny_specialOf (name := Str.ofString "__next__") hit.typeIs slot_listiter_next.lookup ?_)
  refine wpAny_ite_split (fun hab => absurd hab (by decide)) (fun _ => ?_)
  obtain ⟨o, ho, hc, hd⟩ := id hit
  obtain ⟨ol, hol, _, nl, hdl⟩ := hl
  refine wpAny_bind (wpAny_callSpecial?_slot (name := Str.ofString "__next__") hit.typeIs slot_listiter_next
    (wpAny_call_entry slot_listiter_next hit.typeIs entry_listiter_next ?_ (args_listiter_next _)))
  show wpAny _ _ (field (.ref it) 0 >>= _) _ _ s
  refine wpAny_bind (wpAny_field ho hd (x := .ref l) rfl ?_)
  show wpAny _ _ (if (Value.ref l == Value.none) = true then _ else _) _ _ s
  rw [if_neg (show ¬ ((Value.ref l == Value.none) = true) from Bool.false_ne_true)]
  show wpAny _ _ (field (.ref it) 1 >>= _) _ _ s
  refine wpAny_bind (wpAny_field ho hd (x := .int i 0) rfl ?_)
  show wpAny _ _ (seqItems? (.ref l) >>= _) _ _ s
  refine wpAny_bind (wpAny_seqItems hol hdl ?_)
  simp only [Int.toNat_natCast, hx]
  refine wpAny_bind (wpAny_setField ho hd (by simp) (wpAny_pure ⟨x, rfl, wpAny_pure ⟨_, rfl, hQ _ ?_ (Heap.SameBut.update ..)⟩⟩))
  exact ⟨_, Heap.get?_update_self _ ho (Obj.isFreed_of_fields (Obj.data_mapFields hd _)), (Obj.cls_mapFields ..).trans hc, by
    rw [Obj.data_mapFields hd]; simp [rawInt]⟩
end
noncomputable def gR (it : Addr) : Gh where
  a := it
  σ := List Int
  P := fun rem av h => ∃ (l : Addr) (i : Nat) (vs : List Value) (is : List Int), h.IsListIter it l i ∧ h.PlainList l vs.toArray ∧ Rs (fun _ => False) h vs (is.map V.int) ∧ rem = is.drop i ∧ ¬ av l
  mv := fun {x av av' h h'} k ha ⟨l, i, vs, is, h1, h2, h3, h4, h5⟩ => by
    have ne : l ≠ it := fun q => by
      obtain ⟨m, e⟩ := h2; obtain ⟨o, e', _, d⟩ := h1
      rw [q, e'] at e; cases e; cases d
    refine ⟨l, i, vs, is, let ⟨o, e, r⟩ := h1; ⟨o, k _ o (.inl rfl) e, r⟩, h2.at fun o e => k _ o (.inr h5) e, ints_of h3 _ _, h4, fun q => (ha l q).elim h5 fun z => z.elim ne fun e => ?_⟩
    obtain ⟨m, e'⟩ := h2; rw [e] at e'; cases e'
  lv := fun ⟨l, i, vs, is, ⟨o, e, _, d⟩, _⟩ => ⟨⟨o, e⟩, .at e d rfl fun _ _ q => nomatch q⟩
section
variable {X : Cx} {n : Nat} {env : Env} {ρ : List (Str × V)}
noncomputable def runW {σ : Type} (step : σ → Option σ) : Nat → σ → Option σ
  | 0, s => match step s with | none => some s | some _ => none
  | m + 1, s => match step s with | none => some s | some s' => runW step m s'
theorem WhJ.iter {test : Expr} {body : List Stmt} {σ : Type} (ρf : σ → List (Str × V)) (ωf : σ → Option Own) (step : σ → Option σ) (P : σ → Prop)
    (hb : ∀ s, P s → match step s with | none => TrJ X n env (ρf s) test false | some s' => P s' ∧ TrJ X n env (ρf s) test true ∧ ExJ X n env (ρf s) (ωf s) body (.next (ρf s') (ωf s'))) :
    ∀ m s f, P s → runW step m s = some f → WhJ X n env test body [] m (ρf s) (ωf s) (.next (ρf f) (ωf f)) := by
  intro m
  induction m with
  | zero =>
    intro s f hp hr
    have h := hb s hp
    unfold runW at hr
    cases hs : step s with
    | none => rw [hs] at h hr; cases hr; exact .done h .nil
    | some s' => rw [hs] at hr; cases hr
  | succ m ih =>
    intro s f hp hr
    have h := hb s hp
    unfold runW at hr
    cases hs : step s with
    | none => rw [hs] at h hr; cases hr; exact .done h .nil
    | some s' => rw [hs] at h hr; exact .next h.2.1 h.2.2 (ih s' f h.1 hr)
theorem CallG.next {it : Addr} {b : Int} {rem : List Int} : CallG X n (gR it) (b :: rem) (.raw (.builtin "next") []) [.raw (.ref it) []] rem (.int b) :=
  .mk fun A E s av u vs bd G a ha hs r rs hp => by
    (first | (obtain ⟨_, rfl⟩ := R.intI r; clear r) | (obtain ⟨_, rfl⟩ := R.strI r; clear r) | (obtain rfl := R.boolI r; clear r) | (obtain rfl := Rs.nilI r; clear r) | (obtain rfl := R.noneI r; clear r) | cases r)
    (have hx := Rs.consI rs; clear rs; obtain ⟨_, _, rfl, r1, rs⟩ := hx); case _ =>
    (first | (obtain ⟨_, rfl⟩ := R.intI rs; clear rs) | (obtain ⟨_, rfl⟩ := R.strI rs; clear rs) | (obtain rfl := R.boolI rs; clear rs) | (obtain rfl := Rs.nilI rs; clear rs) | (obtain rfl := R.noneI rs; clear rs) | cases rs); (first | (obtain ⟨_, rfl⟩ := R.intI r1; clear r1) | (obtain ⟨_, rfl⟩ := R.strI r1; clear r1) | (obtain rfl := R.boolI r1; clear r1) | (obtain rfl := Rs.nilI r1; clear r1) | (obtain rfl := R.noneI r1; clear r1) | cases r1)
    obtain ⟨l, i, vl, is, h1, h2, h3, h4, h5⟩ := hp
    have hb : is[i]? = some b := by rw [← List.head?_drop, ← h4]; rfl
    have hr : rem = is.drop (i + 1) := by rw [← List.tail_drop, ← h4]; rfl
    obtain ⟨v, hv, r'⟩ := h3.get (i := i) (d := V.int b) (by rw [List.getElem?_map, hb]; rfl)
    cases r' with
    | int _ t =>
    have ne : l ≠ it := fun q => by
      obtain ⟨m, e⟩ := h2; obtain ⟨o, e', _, d⟩ := h1
      rw [q, e'] at e; cases e; cases d
    have nc : NCh s.heap it := by obtain ⟨o, e, _, d⟩ := h1; exact .at e d rfl fun _ _ q => nomatch q
    refine nextItem h1 h2.isList (by rw [List.getElem?_toArray]; exact hv) fun h' hit' hs' => ?_
    refine ⟨⟨⟨_, _, rfl⟩, fun b o _ nb e => (hs'.2 b nb).trans e, fun o _ => let ⟨o', e', _⟩ := hit'; ⟨o', e'⟩, fun _ => ?_, G.same hs hs' nc⟩, .int _ _, l, i + 1, vl, is, hit', h2.at fun o e => (hs'.2 l ne).trans e, ints_of h3 _ _, hr, h5⟩
    obtain ⟨o, e, _, d⟩ := hit'
    exact ⟨⟨o, e⟩, .at e d rfl fun _ _ q => nomatch q⟩
end
end
local macro_rules | `(tactic| k_data) => `(tactic| first | (exact Nat.le_trans (by assumption) (by decide)) | lia | omega)
local macro_rules | `(tactic| k_memK) => `(tactic| first | (with_reducible exact Lk.head) | (apply Lk.tail; kernel_rfl; k_memK))
local macro_rules | `(tactic| k_allIn) => `(tactic| first | k_data | decide | assumption)
local macro_rules | `(tactic| k_updF) => `(tactic| first
  | with_reducible exact BinJ.add | with_reducible exact BinJ.sub | with_reducible exact BinJ.and | with_reducible exact BinJ.or | with_reducible exact BinJ.xor
  | ((with_reducible apply BinJ.fmod); k_allIn) | ((with_reducible apply BinJ.fdiv) <;> k_allIn) | ((with_reducible apply BinJ.mul); k_allIn)
  | ((with_reducible apply BinJ.shl) <;> k_allIn) | ((with_reducible apply BinJ.shr); k_allIn) | ((with_reducible apply BinJ.pow) <;> k_allIn)
  | ((with_reducible apply BinJ.adds); k_allIn) | ((with_reducible apply BinJ.muls); k_allIn) | ((with_reducible apply BinJ.addl); k_allIn)
  | with_reducible exact CmpJ.lti | with_reducible exact CmpJ.eqi | with_reducible exact CmpJ.nei | with_reducible exact CmpJ.lei | with_reducible exact CmpJ.gti | with_reducible exact CmpJ.gei
  | with_reducible exact CmpJ.ins | with_reducible exact CmpJ.nins | with_reducible exact CmpJ.eqs | with_reducible exact CmpJ.nes | with_reducible exact CmpJ.isb | with_reducible exact CmpJ.isntb
  | with_reducible exact UnJ.neg | with_reducible exact UnJ.inv
  | with_reducible exact InJ.add | with_reducible exact InJ.sub | with_reducible exact InJ.and | with_reducible exact InJ.or | with_reducible exact InJ.xor
  | with_reducible exact TruJ.int | with_reducible exact TruJ.bool
  | ((with_reducible apply GetJ.tupD) <;> k_allIn) | ((with_reducible apply GetJ.listD) <;> k_allIn) | ((with_reducible apply GetJ.strD) <;> k_allIn))
local macro_rules | `(tactic| k_upd) => `(tactic| first
  | with_reducible exact EvJ.int | with_reducible exact EvJ.strc | with_reducible exact EvJ.boolc | with_reducible exact EvJ.nonec
  | ((with_reducible apply EvJ.name); apply Lk.lk; k_memK; kernel_rfl; kernel_rfl)
  | ((with_reducible apply EvJ.bin); k_upd; k_upd; k_updF)
  | ((with_reducible apply EvJ.un); k_upd; k_updF)
  | ((with_reducible apply TrJ.cmp); k_upd; k_upd; k_updF; kernel_rfl)
  | ((with_reducible apply TrJ.not); k_upd)
  | ((with_reducible apply TrJ.val); k_upd; k_updF; exact fun _ => rfl)
  | ((with_reducible apply EvJ.cmp); k_upd; k_upd; k_updF; kernel_rfl)
  | ((with_reducible apply TrJ.bool); k_upd)
  | with_reducible exact AllJ.andNil | with_reducible exact AllJ.orNil
  | ((with_reducible apply AllJ.andCons) <;> (try intro _) <;> k_upd)
  | ((with_reducible apply AllJ.orCons) <;> (try intro _) <;> k_upd)
  | with_reducible exact EvsJ.nil
  | ((with_reducible apply EvsJ.cons); k_upd; k_upd; kernel_rfl)
  | ((with_reducible apply EvJ.tup); k_upd; exact Nat.le_of_ble_eq_true rfl)
  | ((with_reducible apply EvJ.list); k_upd; exact Nat.le_of_ble_eq_true rfl)
  | ((with_reducible apply EvJ.sub); k_upd; k_upd; k_updF; exact fun _ _ => by with_unfolding_all rfl))
local macro_rules | `(tactic| k_subL) => `(tactic| first | exact Sub.nil | (apply Sub.cons; k_memK; k_subL))
local macro_rules | `(tactic| k_clsL) => `(tactic| first | exact CloOk.nil | (apply CloOk.skip rfl; k_clsL) | (apply CloOk.free (by apply Lk.lk; k_memK) (by kernel_rfl); k_clsL))
section
theorem fillK : PySem.Challenge.rw_ta0110_01 = PySem.Challenge.rw_ta0110_01 ∧ KK = KK := by k_fill; exact ⟨rfl, rfl⟩
noncomputable def dval (n : Nat) : List Int → Int
  | [] => 0
  | d :: l => d + dval n l * 2 ^ n
theorem dval_append (n : Nat) (l m : List Int) : dval n (l ++ m) = dval n l + dval n m * 2 ^ (n * l.length) := by
  induction l with
  | nil => simp [dval]
  | cons d l ih => rw [List.cons_append, dval, dval, ih, List.length_cons, Nat.mul_succ, Int.pow_add, Int.add_mul, Int.mul_assoc, ← Int.add_assoc]
theorem dval_bound (n : Nat) (l : List Int) (h : ∀ d ∈ l, 0 ≤ d ∧ d < 2 ^ n) : 0 ≤ dval n l ∧ dval n l < 2 ^ (n * l.length) := by
  induction l with
  | nil => simp [dval]
  | cons d l ih =>
    have h1 := h d (.head _)
    have h2 := ih fun e he => h e (.tail _ he)
    rw [dval, List.length_cons, Nat.mul_succ, Int.pow_add]
    have hp : (0 : Int) < 2 ^ n := Int.pow_pos (by decide)
    refine ⟨Int.add_nonneg h1.1 (Int.mul_nonneg h2.1 (Int.le_of_lt hp)), ?_⟩
    have : dval n l + 1 ≤ 2 ^ (n * l.length) := h2.2
    have := Int.mul_le_mul_of_nonneg_right this (Int.le_of_lt hp)
    rw [Int.add_mul, Int.one_mul] at this
    k_data
noncomputable def cut (lo hi : Nat) (ds : List Int) : List Int := (ds.drop lo).take (hi - lo)
theorem cut_add {lo mid hi : Nat} (h1 : lo ≤ mid) (h2 : mid ≤ hi) (ds : List Int) : cut lo hi ds = cut lo mid ds ++ cut mid hi ds := by
  unfold cut
  rw [show hi - lo = (mid - lo) + (hi - mid) by k_data, List.take_add, List.drop_drop]
  congr 3; k_data
theorem cut_len {lo hi : Nat} {ds : List Int} (h : hi ≤ ds.length) : (cut lo hi ds).length = hi - lo := by
  unfold cut; rw [List.length_take, List.length_drop]; k_data
theorem cut_mem {lo hi : Nat} {ds : List Int} {d : Int} (h : d ∈ cut lo hi ds) : d ∈ ds := List.mem_of_mem_drop (List.mem_of_mem_take h)
theorem cut_one {lo : Nat} {ds : List Int} (n : Nat) (h : lo < ds.length) : ds[lo]? = some (dval n (cut lo (lo + 1) ds)) := by
  unfold cut
  rw [show lo + 1 - lo = 1 by k_data, List.getElem?_eq_getElem h]
  have : List.take 1 (List.drop lo ds) = [ds[lo]] := by rw [List.drop_eq_getElem_cons h]; rfl
  rw [this]
  simp [dval]
theorem c_d2i {X : Cx} {ds : List Int} {n : Nat} (hn : n ≤ 60) (h8 : ds.length ≤ 8) (hb : n * ds.length ≤ 60) (hd : ∀ d ∈ ds, 0 ≤ d ∧ d < 2 ^ n) : CallJ X 6 (.ref 66) [.list (ds.map V.int), .int n] (.int (dval n ds)) := by
  refine CallJ.fn (ns := [Str.ofString "digits", Str.ofString "n"]) [(Str.ofString "digits", .list (ds.map V.int)), (Str.ofString "n", .int n)] rfl (by k_is) (by k_is) ?_ rfl (by decide) (by kernel_rfl) ?_ (by kernel_rfl) (by kernel_rfl) (by kernel_rfl) (by decide)
  · exact bind2 fun _ _ => by kernel_rfl
  · intro L
    refine .mk fun A E s hb0 av0 oa b I => ?_
    refine wpAny_execs_cons (w_def rfl rfl rfl ?_)
    refine defTail (c := 65) (P := 61) (clos := [(Str.ofString "n", L + 2), (Str.ofString "inner", L + 3), (Str.ofString "digits", L + 1)]) I.ok (.inl rfl) (by kernel_rfl) ?hcl rfl rfl (by kernel_rfl) ?_
    case hcl => exact rfl
    intro f c' ct doc pm s1 st rec' fo hf
    generalize hF : fnObj _ _ _ _ _ _ _ _ _ _ = F at fo
    have nc' : ∀ {P : Addr → Prop}, (∀ b, P b → Lv s1.heap b) → ¬ P c' := fun k q => by
      obtain ⟨c2, o, vs, t, e, g, r1, r2⟩ := rec'
      cases e
      exact (k _ q).2 o vs _ t g r1 r2
    have lvs : ∀ b, AvB av0 _ oa b → Lv s.heap b := I.avk.live
    have I1 := I.step st
    refine wpAny_mono (I1.store' (x := Str.ofString "inner") (v := .ref f) (ρ' := [(Str.ofString "digits", .list (ds.map V.int)), (Str.ofString "n", .int n)]) (fun y d hy => .inr ⟨?hne, hy⟩) (.inr ⟨by kernel_rfl, L + 3, rfl, Nat.lt_add_of_pos_right (by decide)⟩) (fun _ _ q => nomatch q)) (fun _ s2 z => ?_) fun _ _ e => e
    case hne => rintro rfl; cases hy
    obtain ⟨sm, ⟨I2, vi⟩, kp⟩ := z
    have nf : ¬ AvB av0 _ oa f := fun q => by
      obtain ⟨⟨o, e⟩, _⟩ := lvs f q
      exact Nat.lt_irrefl _ (Nat.lt_of_lt_of_le (Heap.lt_size e) hf)
    have nc2 : ¬ AvB av0 _ oa c' := nc' I1.avk.live
    obtain ⟨c2, oc, vs2, t2, e2, g2, r1, r2⟩ := rec'
    cases e2
    have fo2 := kp _ _ nf fo
    have g22 := kp _ _ nc2 g2
    have cellOf : ∀ {x : Str} {d : V} {c : Addr}, List.lookup x [(Str.ofString "digits", V.list (ds.map V.int)), (Str.ofString "n", V.int n)] = some d → Env.kindOf _ x = some .cell → (fenv _ _ 66 _ L).cells.lookup x = some c → ∃ v o, s2.heap.get? c = some o ∧ o.data = .cell (some v) ∧ R (AvB av0 _ oa) s2.heap v d := fun {x d c} h1 h2 h3 => by
      rcases I2.en.cl x d h1 with k | ⟨_, c1, v1, hc1, _, ⟨o, e, hd⟩, r⟩
      · rw [h2] at k; cases k
      · rw [h3] at hc1; cases hc1; exact ⟨v1, o, e, hd, r⟩
    obtain ⟨v1, o1, e1, d1, R1⟩ := cellOf (x := Str.ofString "digits") (c := L + 1) rfl (by kernel_rfl) rfl
    obtain ⟨v2, o2, e2, d2, R2⟩ := cellOf (x := Str.ofString "n") (c := L + 2) rfl (by kernel_rfl) rfl
    have h3 : ∃ o3, s2.heap.get? (L + 3) = some o3 ∧ o3.data = .cell (some (.ref f)) := by
      rcases vi with ⟨k, _⟩ | ⟨_, c, hc, o, e, hd⟩
      · have k' : some NameKind.cell = some NameKind.local := k
        cases k'
      · have hc' : some (L + 3) = some c := hc
        cases hc'; exact ⟨o, e, hd⟩
    obtain ⟨o3, e3, d3⟩ := h3
    cases R2 with
    | int _ t2n =>
    (have hx := R.listI R1; clear R1; obtain ⟨ld, vsl, rfl, nl, pl, rl⟩ := hx)
    case _ =>
    obtain ⟨ml, el⟩ := pl
    generalize hol : ({ cls := .type "list", data := .seq vsl.toArray ml } : Obj) = ol at el
    obtain ⟨fr, hfr⟩ : ∃ fr : Frag, fr = [(f, F), (c', oc), (L + 1, o1), (L + 2, o2), (L + 3, o3), (ld, ol)] := ⟨_, rfl⟩
    have hfr2 : ∀ p ∈ fr, s2.heap.get? p.1 = some p.2 ∧ ¬ tab p.1 ∧ ¬ av0 p.1 := by
      have nown : ∀ {x : Str} {c : Addr}, L < c → (fenv _ _ 66 _ L).cells.lookup x = some c → ¬ av0 c := fun {x c} h1 h2 => I2.d2 x c h2 h1
      subst hfr
      refine fm1 ?_ (fm1 ?_ (fm1 ?_ (fm1 ?_ (fm1 ?_ (fm1 ?_ (fm0))))))
      · exact ⟨fo2, fun t => nf (I.avk.tab _ t), fun q => nf (.inl q)⟩
      · exact ⟨g22, fun t => nc2 (I.avk.tab _ t), fun q => nc2 (.inl q)⟩
      · exact ⟨e1, cell_nt I2.ok ⟨_, e1, d1⟩, nown (x := Str.ofString "digits") (Nat.lt_add_of_pos_right (by decide)) rfl⟩
      · exact ⟨e2, cell_nt I2.ok ⟨_, e2, d2⟩, nown (x := Str.ofString "n") (Nat.lt_add_of_pos_right (by decide)) rfl⟩
      · exact ⟨e3, cell_nt I2.ok ⟨_, e3, d3⟩, nown (x := Str.ofString "inner") (Nat.lt_add_of_pos_right (by decide)) rfl⟩
      · exact ⟨el, fun t => nl (I.avk.tab _ t), fun q => nl (.inl q)⟩
    have hisf : isFn f fr = true := by rw [hfr, ← hF]; simp [isFn]
    have step : ∀ k, (∀ k', k = k' + 1 → ∀ lo hi : Nat, lo < hi → hi ≤ ds.length → hi - lo ≤ 2 ^ k' → CallV X (k' + 1) (.raw (.ref f) fr) [.int lo, .int hi] (.int (dval n (cut lo hi ds)))) →
        ∀ lo hi : Nat, lo < hi → hi ≤ ds.length → hi - lo ≤ 2 ^ k → CallV X (k + 1) (.raw (.ref f) fr) [.int lo, .int hi] (.int (dval n (cut lo hi ds))) := by
      intro k ih lo hi hlt hle hk
      refine CallV.clo (ns := [Str.ofString "L", Str.ofString "R"]) (cl := [(Str.ofString "n", L + 2), (Str.ofString "inner", L + 3), (Str.ofString "digits", L + 1)])
        [(Str.ofString "digits", .list (ds.map V.int)), (Str.ofString "n", .int n), (Str.ofString "inner", .raw (.ref f) fr)] (fun h _ hh => ⟨(hh (f, F) (by rw [hfr]; exact .head _)).trans (congrArg some hF.symm), ⟨c', oc, vs2, t2, rfl, hh (c', oc) (by rw [hfr]; exact .tail _ (.head _)), r1, r2⟩⟩)
        ?bind rfl (by decide) (by kernel_rfl) (by kernel_rfl) ?rc ?cs (fun L' => ?body) (by kernel_rfl) (by kernel_rfl) (by kernel_rfl)
      case bind =>
        exact bind2 fun _ _ => by kernel_rfl
      case cs =>
        rw [hfr]
        exact lk_cons ⟨o2, by simp⟩ (lk_cons ⟨o3, by simp⟩ (lk_cons ⟨o1, by simp⟩ lk_nil))
      case rc =>
        intro av h hh y d hy
        have m1 := hh (L + 1, o1) (hfr ▸ .tail _ (.tail _ (.head _)))
        have m2 := hh (L + 2, o2) (hfr ▸ .tail _ (.tail _ (.tail _ (.head _))))
        have m3 := hh (L + 3, o3) (hfr ▸ .tail _ (.tail _ (.tail _ (.tail _ (.head _)))))
        have ml := hh (ld, ol) (hfr ▸ .tail _ (.tail _ (.tail _ (.tail _ (.tail _ (.head _))))))
        revert y d hy
        refine lk_cons ?_ (lk_cons ?_ (lk_cons ?_ (lk_nil)))
        · exact ⟨by kernel_rfl, L + 1, .ref ld, rfl, ⟨o1, m1.2, d1⟩, .list ml.1 ⟨_, ml.2.trans (congrArg some hol.symm)⟩ (ints_of rl _ _)⟩
        · exact ⟨by kernel_rfl, L + 2, _, rfl, ⟨o2, m2.2, d2⟩, .int _ _⟩
        · exact ⟨by kernel_rfl, L + 3, .ref f, rfl, ⟨o3, m3.2, d3⟩, .raw _ _ hh⟩
      case body =>
        change ExJ X k _ [(Str.ofString "L", V.int lo), (Str.ofString "R", V.int hi), (Str.ofString "digits", .list (ds.map V.int)), (Str.ofString "n", .int n), (Str.ofString "inner", .raw (.ref f) fr)] none _ _
        by_cases e : hi = lo + 1
        · subst e
          apply ExJ.ret
          apply StJ.iteT
          · k_upd
          · simp
          · apply ExJ.ret
            apply StJ.ret
            apply EvJ.sub
            · k_upd
            · k_upd
            · refine GetJ.list (by k_data) (by k_data) ?_
              rw [Int.toNat_natCast, List.getElem?_map, cut_one n (by k_data)]; rfl
            · exact fun _ _ => by with_unfolding_all rfl
        · obtain ⟨k', rfl⟩ : ∃ k', k = k' + 1 := by
            cases k with
            | zero => simp at hk; k_data
            | succ k' => exact ⟨k', rfl⟩
          have ih' := ih k' rfl
          have hp : 2 ^ (k' + 1) = 2 * 2 ^ k' := by rw [Nat.pow_succ, Nat.mul_comm]
          obtain ⟨mid, hmid⟩ : ∃ mid : Nat, mid = (lo + hi) / 2 := ⟨_, rfl⟩
          have m1 : lo < mid := by k_data
          have m2 : mid < hi := by k_data
          apply ExJ.cons
          · apply StJ.iteF
            · k_upd
            · simp; k_data
            · exact ExJ.nil
          apply ExJ.cons
          · apply StJ.assign (d := V.int mid)
            · refine EvJ.to (d := V.int (((lo : Int) + (hi : Int)).fdiv (2 ^ (1 : Int).toNat))) ?_ (by rw [midI, hmid])
              k_upd
            · exact Stores.none (.inl (by kernel_rfl))
            · kernel_rfl
          apply ExJ.cons
          · apply StJ.assign (d := V.int (((mid - lo) * n : Nat) : Int))
            · refine EvJ.to (d := V.int (((mid : Int) - (lo : Int)) * n)) ?_ (by rw [Int.natCast_mul, Int.natCast_sub (Nat.le_of_lt m1)])
              apply EvJ.bin
              · k_upd
              · k_upd
              · exact BinJ.mul (by show _ < 18446744073709551616; k_data)
            · exact Stores.none (.inl (by kernel_rfl))
            · kernel_rfl
          apply ExJ.ret
          apply StJ.ret
          have b1 := dval_bound n (cut mid hi ds) fun d h => hd d (cut_mem h)
          have b2 : n * (cut mid hi ds).length ≤ 60 := Nat.le_trans (Nat.mul_le_mul_left _ (by rw [cut_len hle]; k_data)) hb
          refine EvJ.to (d := V.int (dval n (cut mid hi ds) * 2 ^ (((mid - lo) * n : Nat) : Int).toNat + dval n (cut lo mid ds))) ?_ ?_
          · apply EvJ.bin
            · apply EvJ.bin (y := V.int (((mid - lo) * n : Nat) : Int))
              · apply EvJ.lcall
                · apply Lk.lk; k_memK
                · exact hisf
                · kernel_rfl
                · kernel_rfl
                · k_upd
                · exact ih' mid hi m2 hle (by k_data)
                · kernel_rfl
              · k_upd
              · refine BinJ.shl (by k_data) ?_ (small64 b1.1 b1.2 b2)
                have : (mid - lo) * n ≤ 8 * 60 := Nat.mul_le_mul (by k_data) hn
                k_data
            · apply EvJ.lcall
              · apply Lk.lk; k_memK
              · exact hisf
              · kernel_rfl
              · kernel_rfl
              · k_upd
              · exact ih' lo mid m1 (by k_data) (by k_data)
              · kernel_rfl
            · exact BinJ.add
          · rw [Int.toNat_natCast, cut_add (Nat.le_of_lt m1) (Nat.le_of_lt m2), dval_append, cut_len (by k_data : mid ≤ ds.length), Nat.mul_comm n, Int.add_comm]
    have inner : ∀ k lo hi : Nat, lo < hi → hi ≤ ds.length → hi - lo ≤ 2 ^ k → CallV X (k + 1) (.raw (.ref f) fr) [.int lo, .int hi] (.int (dval n (cut lo hi ds))) := fun k => by
      induction k with
      | zero => exact step 0 fun _ h => nomatch h
      | succ k ih => exact step (k + 1) fun k' e => by cases e; exact ih
    have fin := finRet I2 (st.same.trans sm)
    refine wpAny_execs_cons (wpAny_Return_some (wpAny_IfExp (wpAny_mono ((TrJ.val (X := X) (n := 5) (ρ := [(Str.ofString "digits", .list (ds.map V.int)), (Str.ofString "n", .int n)]) (t := (ds.map V.int).length != 0) (EvJ.name (x := Str.ofString "digits") (by apply Lk.lk; k_memK) (by kernel_rfl) (by kernel_rfl)) (TruJ.list (by rw [List.length_map]; k_data)) (fun _ => rfl)).run A E s2 _ b I2.ok I2.avk I2.en) (fun r s3 q => ?_) fun _ _ e => e)))
    obtain ⟨q, rfl⟩ := q
    have I3 := I2.step q
    cases h0 : (ds.map V.int).length != 0 with
    | false =>
      have hnil : ds = [] := by cases ds with
        | nil => rfl
        | cons => simp at h0
      refine wpAny_mono (EvJ.int.run (n := 5) A E s3 _ b I3.ok I3.avk I3.en) (fun v s4 q4 => ?_) fun _ _ e => e
      exact fin s4 v _ (q.trans q4.1) (by have := q4.2.flat (av' := av0) (h' := s4.heap) rfl; rw [hnil]; exact this)
    | true =>
      have hpos : 0 < ds.length := by rw [List.length_map] at h0; simp at h0; exact List.length_pos_iff.mpr h0
      have hfr3 : ∀ {s4 : Shared}, Stp X s2 s4 → ∀ p ∈ fr, ¬ av0 p.1 ∧ s4.heap.get? p.1 = some p.2 := fun st4 p hp => ⟨(hfr2 p hp).2.2, st4.ext _ _ (hfr2 p hp).2.1 (hfr2 p hp).1⟩
      have fnA : ∀ {s4 : Shared}, Stp X s2 s4 → FnAt f s4.heap := fun st4 => (isFn_at hisf (.raw _ _ (hfr3 st4))).2
      refine wpAny_Call_Name_kw (wpAny_Name (wpAny_loadName_cell (c := L + 3) (v := .ref f) rfl (by kernel_rfl) rfl ⟨o3, (hfr3 q (L + 3, o3) (by rw [hfr]; simp)).2, d3⟩ ?_) (by kernel_rfl))
      refine callWith_F (fnA q) (wpAny_mono (EvsJ.run (X := X) (n := 5) (ρ := [(Str.ofString "digits", .list (ds.map V.int)), (Str.ofString "n", .int n)]) (ds := [.int (0 : Nat), .int ds.length]) ?evs _ A E s3 _ b I3.ok I3.avk I3.en) (fun vs s4 q4 => ?_) fun _ _ e => e) (starEach_of (by kernel_rfl)) (backTo_of (by kernel_rfl))
      case evs =>
        apply EvsJ.cons
        · exact EvJ.int
        · apply EvsJ.cons
          · rw [show (ds.length : Int) = ((ds.map V.int).length : Int) by rw [List.length_map]]
            apply EvJ.bcall (id := "len")
            · apply GlV.builtin
              · kernel_rfl
              · k_is
              · decide
              · decide +kernel
              · kernel_rfl
            · k_upd
            · exact CallJ.lenl (by rw [List.length_map]; k_data)
            · kernel_rfl
          · exact EvsJ.nil
          · kernel_rfl
        · kernel_rfl
      have st4 := q.trans q4.1
      have I4 := I2.step st4
      refine ⟨fnA st4, wpAny_mono ((inner 3 0 ds.length hpos (Nat.le_refl _) (by k_data)).run A E s4 av0 (.ref f) vs (b.le (by k_data)) st4.ok ⟨I2.tab0, fun b q => I4.avk.live b (.inl q)⟩ (.raw _ _ (hfr3 st4)) (q4.2.move (fun _ _ _ e => e) fun b q => .inl (.inl q))) (fun v s5 q5 => ?_) fun _ _ e => e⟩
      have : cut 0 ds.length ds = ds := by unfold cut; rw [List.drop_zero, Nat.sub_zero, List.take_length]
      rw [this] at q5
      exact fin s5 v _ (st4.trans q5.1) q5.2
end
section
noncomputable def digs (n : Nat) : Nat → Nat → List Int
  | 0, _ => []
  | k + 1, x => ((x % 2 ^ n : Nat) : Int) :: digs n k (x / 2 ^ n)
theorem digs_len (n : Nat) : ∀ k x, (digs n k x).length = k
  | 0, _ => rfl
  | k + 1, x => by rw [digs, List.length_cons, digs_len n k]
theorem digs_zero (n : Nat) : ∀ k, digs n k 0 = List.replicate k 0
  | 0 => rfl
  | k + 1 => by rw [digs, Nat.zero_mod, Nat.zero_div, digs_zero n k]; rfl
theorem digs_split (n k : Nat) : ∀ j x, digs n (j + k) x = digs n j (x % 2 ^ (n * j)) ++ digs n k (x / 2 ^ (n * j))
  | 0, x => by simp [digs]
  | j + 1, x => by
    have e : 2 ^ (n * (j + 1)) = 2 ^ n * 2 ^ (n * j) := by rw [Nat.mul_succ, Nat.pow_add, Nat.mul_comm]
    rw [Nat.add_right_comm, digs, digs_split n k j, digs, e, Nat.mod_mul_right_mod, Nat.mod_mul_right_div_self, Nat.div_div_eq_div_mul, List.cons_append]
theorem shrI (x s : Nat) : ((x : Int)).fdiv (2 ^ (s : Int).toNat) = ((x / 2 ^ s : Nat) : Int) := by
  rw [Int.toNat_natCast, Int.fdiv_eq_ediv_of_nonneg _ (Int.le_of_lt (Int.pow_pos (by decide))), Int.natCast_ediv, Int.natCast_pow]; rfl
theorem xorI' (x s : Nat) : x &&& ((x >>> s) <<< s) = (x >>> s) <<< s ∧ x ||| ((x >>> s) <<< s) = x := by
  have key : ∀ i, ((x >>> s) <<< s).testBit i = (decide (s ≤ i) && x.testBit i) := fun i => by
    rw [Nat.testBit_shiftLeft, Nat.testBit_shiftRight]
    by_cases h : s ≤ i
    · rw [show s + (i - s) = i by k_data]
    · simp [h]
  refine ⟨Nat.eq_of_testBit_eq fun i => ?_, Nat.eq_of_testBit_eq fun i => ?_⟩
  · rw [Nat.testBit_and, key]; cases x.testBit i <;> simp
  · rw [Nat.testBit_or, key]; cases x.testBit i <;> simp
theorem bitAnd_nat (a b : Nat) : Builtin.bitAnd (a : Int) (b : Int) = ((a &&& b : Nat) : Int) := by
  unfold Builtin.bitAnd
  rw [decide_eq_true (Int.natCast_nonneg a), decide_eq_true (Int.natCast_nonneg b)]
  rfl
theorem bitOr_nat (a b : Nat) : Builtin.bitOr (a : Int) (b : Int) = ((a ||| b : Nat) : Int) := by
  have h : ∀ a : Nat, Builtin.bitNot (a : Int) = -(a : Int) - 1 := fun a => by unfold Builtin.bitNot; k_data
  have n : ∀ a : Nat, decide (0 ≤ Builtin.bitNot (a : Int)) = false := fun a => decide_eq_false (by rw [h]; k_data)
  have nn : ∀ a : Nat, (Builtin.bitNot (Builtin.bitNot (a : Int))).toNat = a := fun a => by unfold Builtin.bitNot; k_data
  unfold Builtin.bitOr
  have e : Builtin.bitAnd (Builtin.bitNot (a : Int)) (Builtin.bitNot (b : Int)) = Builtin.bitNot ((a ||| b : Nat) : Int) := by
    unfold Builtin.bitAnd
    rw [n, n]
    show Builtin.bitNot (((Builtin.bitNot (Builtin.bitNot (a : Int))).toNat ||| (Builtin.bitNot (Builtin.bitNot (b : Int))).toNat : Nat) : Int) = _
    rw [nn, nn]
  rw [e]
  have := h (a ||| b)
  unfold Builtin.bitNot at this ⊢
  k_data
theorem xorI (x s : Nat) : Builtin.bitXor (x : Int) (((x / 2 ^ s : Nat) : Int) * 2 ^ (s : Int).toNat) = ((x % 2 ^ s : Nat) : Int) := by
  rw [Int.toNat_natCast, show ((x / 2 ^ s : Nat) : Int) * 2 ^ s = (((x >>> s) <<< s : Nat) : Int) by rw [Nat.shiftLeft_eq, Nat.shiftRight_eq_div_pow, Int.natCast_mul, Int.natCast_pow]; rfl]
  have h := xorI' x s
  have e := Nat.div_add_mod x (2 ^ s)
  have e2 : (x >>> s) <<< s = 2 ^ s * (x / 2 ^ s) := by rw [Nat.shiftLeft_eq, Nat.shiftRight_eq_div_pow, Nat.mul_comm]
  unfold Builtin.bitXor
  rw [bitOr_nat, bitAnd_nat, h.1, h.2, e2]
  k_data
theorem c_i2d {X : Cx} {a n : Nat} (h1 : 1 ≤ n) (hn : n ≤ 60) (hm : (Builtin.Int.intBits a + n - 1) / n ≤ 8) (hb : n * ((Builtin.Int.intBits a + n - 1) / n) ≤ 60) : CallJ X 6 (.ref 59) [.int a, .int n] (.list ((digs n ((Builtin.Int.intBits a + n - 1) / n) a).map V.int)) := by
  refine CallJ.fn (ns := [Str.ofString "a", Str.ofString "n"]) [(Str.ofString "a", .int a), (Str.ofString "n", .int n)] rfl (by k_is) (by k_is) ?_ rfl (by decide) (by kernel_rfl) ?_ (by kernel_rfl) (by kernel_rfl) (by kernel_rfl) (by decide)
  · exact bind2 fun _ _ => by kernel_rfl
  · intro L
    have hbits : a < 2 ^ (n * ((Builtin.Int.intBits a + n - 1) / n)) := by
      have e1 : a < 2 ^ Builtin.Int.intBits a := by have := intBits_le_iff.mp (Nat.le_refl (Builtin.Int.intBits (a : Int))); simpa using this
      refine Nat.lt_of_lt_of_le e1 (Nat.pow_le_pow_right (by decide) ?_)
      have := Nat.div_add_mod (Builtin.Int.intBits a + n - 1) n
      have := Nat.mod_lt (Builtin.Int.intBits a + n - 1) (by k_data : n > 0)
      k_data
    refine .mk fun A E s hb0 av0 oa b I => ?_
    have hoa : oa = none := by
      have := I.own
      cases oa with
      | none => rfl
      | some a => exact this.elim
    subst hoa
    refine wpAny_execs_cons (wpAny_mono (StJ.run (ω := none) (ρ := [(Str.ofString "a", V.int a), (Str.ofString "n", .int n)]) (out := .next [(Str.ofString "a", .int a), (Str.ofString "n", .int n)] (some (Own.lst (Str.ofString "a_digits") (List.replicate ((Builtin.Int.intBits a + n - 1) / n) (V.int 0))))) ?first A E s hb0 av0 none b I) (fun fl s0 q0 => ?_) fun _ _ e => e)
    case first =>
      refine StJ.own ?_ (.inr ⟨by kernel_rfl, L + 2, rfl, Nat.lt_add_of_pos_right (by decide)⟩) (by kernel_rfl) (by kernel_rfl)
      have hval : (((Builtin.Int.intBits (a : Int) : Nat) : Int) + (n : Int) - 1).fdiv n = (((Builtin.Int.intBits a + n - 1) / n : Nat) : Int) := by
        rw [Int.fdiv_eq_ediv_of_nonneg _ (by k_data), show (((Builtin.Int.intBits (a : Int) : Nat) : Int) + (n : Int) - 1) = ((Builtin.Int.intBits (a : Int) + n - 1 : Nat) : Int) by k_data, ← Int.natCast_ediv]
      rw [show List.replicate ((Builtin.Int.intBits a + n - 1) / n) (V.int 0) = List.replicate ((((Builtin.Int.intBits (a : Int) : Nat) : Int) + (n : Int) - 1).fdiv n).toNat (V.int 0) by rw [hval, Int.toNat_natCast]]
      apply FrJ.rep
      · k_upd
      · kernel_rfl
      · apply EvJ.bin
        · apply EvJ.bin
          · apply EvJ.bin
            · apply EvJ.meth0
              · k_upd
              · exact MethJ.bitlen
              · intro w; rfl
              · kernel_rfl
            · k_upd
            · exact BinJ.add
          · k_upd
          · exact BinJ.sub
        · k_upd
        · exact BinJ.fdiv (by k_data) (by k_data)
      · rw [hval]; exact Int.natCast_nonneg _
      · rw [hval]; exact Int.ofNat_le.mpr (Nat.le_trans hm (by decide))
    obtain ⟨sm0, rfl, oa1, I0, oo⟩ := q0
    have hoa1 := I0.own
    cases oa1 with
    | none => exact hoa1.elim
    | some la =>
    obtain ⟨m, hmm⟩ : ∃ m : Nat, m = (Builtin.Int.intBits a + n - 1) / n := ⟨_, rfl⟩
    rw [← hmm] at hm hb hbits I0 ⊢
    refine cps fun Q hQ => ?_
    refine wpAny_execs_cons (w_def rfl rfl rfl ?_)
    refine defTail (c := 58) (P := 54) (clos := [(Str.ofString "n", L + 1), (Str.ofString "inner", L + 3), (Str.ofString "a_digits", L + 2)]) I0.ok (.inr rfl) (by kernel_rfl) ?hcl rfl rfl (by kernel_rfl) ?_
    case hcl => exact rfl
    intro f c' ct doc pm s1 st rec' fo hf
    generalize hF : fnObj _ _ _ _ _ _ _ _ _ _ = F at fo
    have nc' : ∀ {P : Addr → Prop}, (∀ b, P b → Lv s1.heap b) → ¬ P c' := fun k q => by
      obtain ⟨c2, o, vs, t, e, g, r1, r2⟩ := rec'
      cases e
      exact (k _ q).2 o vs _ t g r1 r2
    have I1 := I0.step st
    refine wpAny_mono (I1.store' (x := Str.ofString "inner") (v := .ref f) (ρ' := [(Str.ofString "a", .int a), (Str.ofString "n", .int n)]) (fun y d hy => .inr ⟨?hne, hy⟩) (.inr ⟨by kernel_rfl, L + 3, rfl, Nat.lt_add_of_pos_right (by decide)⟩) (fun y ds q => by cases q; decide)) (fun _ s2 z => ?_) fun _ _ e => e
    case hne => rintro rfl; cases hy
    obtain ⟨sm, ⟨I2, vi⟩, kp⟩ := z
    have nf : ¬ AvB av0 _ (some la) f := fun q => by
      obtain ⟨⟨o, e⟩, _⟩ := I0.avk.live f q
      exact Nat.lt_irrefl _ (Nat.lt_of_lt_of_le (Heap.lt_size e) hf)
    have nc2 : ¬ AvB av0 _ (some la) c' := nc' I1.avk.live
    obtain ⟨c2, oc, vs2, t2, e2, g2, r1, r2⟩ := rec'
    cases e2
    have fo2 := kp _ _ nf fo
    have g22 := kp _ _ nc2 g2
    have h2 : ∃ v2 o2, s2.heap.get? (L + 1) = some o2 ∧ o2.data = .cell (some v2) ∧ ∃ t, v2 = .int n t := by
      rcases I2.en.cl (Str.ofString "n") (.int n) rfl with k | ⟨_, c1, v1, hc1, _, ⟨o, e, hd⟩, r⟩
      · have k' : some NameKind.cell = some NameKind.local := k
        cases k'
      · have hc' : some (L + 1) = some c1 := hc1
        cases hc'; (first | (obtain ⟨_, rfl⟩ := R.intI r; clear r) | (obtain ⟨_, rfl⟩ := R.strI r; clear r) | (obtain rfl := R.boolI r; clear r) | (obtain rfl := Rs.nilI r; clear r) | (obtain rfl := R.noneI r; clear r) | cases r); exact ⟨_, o, e, hd, _, rfl⟩
    obtain ⟨v2, o2, e2, d2, t2n, rfl⟩ := h2
    have h3 : ∃ o3, s2.heap.get? (L + 3) = some o3 ∧ o3.data = .cell (some (.ref f)) := by
      rcases vi with ⟨k, _⟩ | ⟨_, c, hc, o, e, hd⟩
      · have k' : some NameKind.cell = some NameKind.local := k
        cases k'
      · have hc' : some (L + 3) = some c := hc
        cases hc'; exact ⟨o, e, hd⟩
    obtain ⟨o3, e3, d3⟩ := h3
    obtain ⟨hla, va, vl, pl, rl⟩ := I2.own
    have h1c : ∃ o1, s2.heap.get? (L + 2) = some o1 ∧ o1.data = .cell (some (.ref la)) := by
      rcases va with ⟨k, _⟩ | ⟨_, c, hc, o, e, hd⟩
      · have k' : some NameKind.cell = some NameKind.local := k
        cases k'
      · have hc' : some (L + 2) = some c := hc
        cases hc'; exact ⟨o, e, hd⟩
    obtain ⟨o1, e1, d1⟩ := h1c
    obtain ⟨fr, hfr⟩ : ∃ fr : Frag, fr = [(f, F), (c', oc), (L + 1, o2), (L + 2, o1), (L + 3, o3)] := ⟨_, rfl⟩
    have hfr2 : ∀ p ∈ fr, s2.heap.get? p.1 = some p.2 ∧ ¬ tab p.1 ∧ ¬ av0 p.1 ∧ p.1 ≠ la := by
      have nown : ∀ {x : Str} {c : Addr}, L < c → (fenv _ _ 59 _ L).cells.lookup x = some c → ¬ av0 c := fun {x c} h1 h2 => I2.d2 x c h2 h1
      subst hfr
      refine fm1 ?_ (fm1 ?_ (fm1 ?_ (fm1 ?_ (fm1 ?_ (fm0)))))
      · exact ⟨fo2, fun t => nf (I0.avk.tab _ t), fun q => nf (.inl q), fun q => nf (.inr (.inr (.inr (q ▸ rfl))))⟩
      · exact ⟨g22, fun t => nc2 (I0.avk.tab _ t), fun q => nc2 (.inl q), fun q => nc2 (.inr (.inr (.inr (q ▸ rfl))))⟩
      · exact ⟨e2, cell_nt I2.ok ⟨_, e2, d2⟩, nown (x := Str.ofString "n") (Nat.lt_add_of_pos_right (by decide)) rfl, fun q => cell_list ⟨_, e2, d2⟩ pl.isList q.symm⟩
      · exact ⟨e1, cell_nt I2.ok ⟨_, e1, d1⟩, nown (x := Str.ofString "a_digits") (Nat.lt_add_of_pos_right (by decide)) rfl, fun q => cell_list ⟨_, e1, d1⟩ pl.isList q.symm⟩
      · exact ⟨e3, cell_nt I2.ok ⟨_, e3, d3⟩, nown (x := Str.ofString "inner") (Nat.lt_add_of_pos_right (by decide)) rfl, fun q => cell_list ⟨_, e3, d3⟩ pl.isList q.symm⟩
    have hisf : isFn f fr = true := by rw [hfr, ← hF]; simp [isFn]
    have step : ∀ k, (∀ k', k = k' + 1 → ∀ (p r q : List Int) (x : Nat), 0 < r.length → r.length ≤ 8 → p.length + r.length + q.length ≤ 8 → r.length ≤ 2 ^ k' → x < 2 ^ (n * r.length) → n * r.length ≤ 60 → CallG X (k' + 1) (ghI la) (p ++ r ++ q) (.raw (.ref f) fr) [.int x, .int p.length, .int (p.length + r.length : Nat)] (p ++ digs n r.length x ++ q) .none) →
        ∀ (p r q : List Int) (x : Nat), 0 < r.length → r.length ≤ 8 → p.length + r.length + q.length ≤ 8 → r.length ≤ 2 ^ k → x < 2 ^ (n * r.length) → n * r.length ≤ 60 → CallG X (k + 1) (ghI la) (p ++ r ++ q) (.raw (.ref f) fr) [.int x, .int p.length, .int (p.length + r.length : Nat)] (p ++ digs n r.length x ++ q) .none := by
      intro k ih p r q x hr0 hr8 hall hk hx hb
      refine CallG.clo (ns := [Str.ofString "x", Str.ofString "L", Str.ofString "R"]) (cl := [(Str.ofString "n", L + 1), (Str.ofString "inner", L + 3), (Str.ofString "a_digits", L + 2)])
        [(Str.ofString "a_digits", .raw (.ref la) []), (Str.ofString "n", .int n), (Str.ofString "inner", .raw (.ref f) fr)] (fun h _ hh => ⟨(hh (f, F) (by rw [hfr]; exact .head _)).trans (congrArg some hF.symm), ⟨c', oc, vs2, t2, rfl, hh (c', oc) (by rw [hfr]; exact .tail _ (.head _)), r1, r2⟩⟩)
        ?bind rfl (by decide) (by kernel_rfl) (by kernel_rfl) ?rc ?cs (fun L' => ?body) rfl (by kernel_rfl) (by kernel_rfl) (by kernel_rfl)
      case bind =>
        exact bind3 fun _ _ _ => by kernel_rfl
      case cs =>
        rw [hfr]
        exact lk_cons ⟨o2, by simp⟩ (lk_cons ⟨o3, by simp⟩ (lk_cons ⟨o1, by simp⟩ lk_nil))
      case rc =>
        intro av h hh y d hy
        have m1 := hh (L + 2, o1) (hfr ▸ .tail _ (.tail _ (.tail _ (.head _))))
        have m2 := hh (L + 1, o2) (hfr ▸ .tail _ (.tail _ (.head _)))
        have m3 := hh (L + 3, o3) (hfr ▸ .tail _ (.tail _ (.tail _ (.tail _ (.head _)))))
        revert y d hy
        refine lk_cons ?_ (lk_cons ?_ (lk_cons ?_ (lk_nil)))
        · exact ⟨by kernel_rfl, L + 2, .ref la, rfl, ⟨o1, m1.2, d1⟩, .raw _ _ fun _ h => nomatch h⟩
        · exact ⟨by kernel_rfl, L + 1, _, rfl, ⟨o2, m2.2, d2⟩, .int _ _⟩
        · exact ⟨by kernel_rfl, L + 3, .ref f, rfl, ⟨o3, m3.2, d3⟩, .raw _ _ hh⟩
      case body =>
        by_cases e : r.length = 1
        · obtain ⟨d0, rfl⟩ : ∃ d0, r = [d0] := by
            match r, e with
            | [d0], _ => exact ⟨d0, rfl⟩
          refine ⟨.retG .none (ghI la) (p ++ digs n 1 x ++ q), ?_, rfl, rfl, rfl⟩
          change ExJ X k _ [(Str.ofString "x", V.int x), (Str.ofString "L", V.int p.length), (Str.ofString "R", V.int (p.length + 1 : Nat)), (Str.ofString "a_digits", .raw (.ref la) []), (Str.ofString "n", .int n), (Str.ofString "inner", .raw (.ref f) fr)] (some (.gh (ghI la) (p ++ [d0] ++ q))) _ _
          have es : p ++ digs n 1 x ++ q = (p ++ [d0] ++ q).set ((p.length : Int)).toNat (x : Int) := by
            have : x % 2 ^ n = x := Nat.mod_eq_of_lt (by simpa using hx)
            rw [Int.toNat_natCast, digs, digs, this]
            simp
          rw [es]
          apply ExJ.retG
          apply StJ.iteT
          · k_upd
          · simp
          · apply ExJ.cons
            · refine StJ.setG (k := (p.length : Int)) (d := (x : Int)) ?_ ?_ ?_ ?_ ?_ ?_ ?_ ?_ ?_
              · apply Lk.lk; k_memK
              · k_upd
              · k_upd
              · k_data
              · simp
              · simp; k_data
              · kernel_rfl
              · kernel_rfl
              · kernel_rfl
            · exact ExJ.retG StJ.retN
        · obtain ⟨k', rfl⟩ : ∃ k', k = k' + 1 := by
            cases k with
            | zero => simp at hk; k_data
            | succ k' => exact ⟨k', rfl⟩
          have ih' := ih k' rfl
          have hp : 2 ^ (k' + 1) = 2 * 2 ^ k' := by rw [Nat.pow_succ, Nat.mul_comm]
          obtain ⟨r1', r2', rfl, hj1⟩ : ∃ r1 r2 : List Int, r = r1 ++ r2 ∧ r1.length = (2 * p.length + r.length) / 2 - p.length :=
            ⟨r.take ((2 * p.length + r.length) / 2 - p.length), r.drop ((2 * p.length + r.length) / 2 - p.length), (List.take_append_drop _ _).symm, by rw [List.length_take]; k_data⟩
          rw [List.length_append] at hr0 hr8 hall hk hx hb e hj1
          have hmid : (p.length + (p.length + (r1'.length + r2'.length))) / 2 = p.length + r1'.length := by k_data
          have jn : r1'.length * n ≤ 8 * 60 := Nat.mul_le_mul (by k_data) hn
          have hx1 : x % 2 ^ (n * r1'.length) < 2 ^ (n * r1'.length) := Nat.mod_lt _ (Nat.pow_pos (by decide))
          have hx2 : x / 2 ^ (n * r1'.length) < 2 ^ (n * r2'.length) := by
            rw [Nat.div_lt_iff_lt_mul (Nat.pow_pos (by decide)), ← Nat.pow_add, ← Nat.mul_add, Nat.add_comm r2'.length]; exact hx
          have hb1 : n * r1'.length ≤ 60 := Nat.le_trans (Nat.mul_le_mul_left _ (by k_data)) hb
          have hb2 : n * r2'.length ≤ 60 := Nat.le_trans (Nat.mul_le_mul_left _ (by k_data)) hb
          have ih1 := ih' p r1' (r2' ++ q) (x % 2 ^ (n * r1'.length)) (by k_data) (by k_data) (by rw [List.length_append]; k_data) (by k_data) hx1 hb1
          have ih2 := ih' (p ++ digs n r1'.length (x % 2 ^ (n * r1'.length))) r2' q (x / 2 ^ (n * r1'.length)) (by k_data) (by k_data) (by rw [List.length_append, digs_len]; k_data) (by k_data) hx2 hb2
          rw [List.length_append, digs_len] at ih2
          have efin : p ++ digs n (r1' ++ r2').length x ++ q = p ++ digs n r1'.length (x % 2 ^ (n * r1'.length)) ++ digs n r2'.length (x / 2 ^ (n * r1'.length)) ++ q := by
            rw [List.length_append, digs_split]; simp [List.append_assoc]
          rw [efin]
          clear efin
          refine ⟨.next [(Str.ofString "lower", V.int ((x % 2 ^ (n * r1'.length) : Nat) : Int)), (Str.ofString "upper", V.int ((x / 2 ^ (n * r1'.length) : Nat) : Int)), (Str.ofString "shift", V.int ((r1'.length * n : Nat) : Int)), (Str.ofString "mid", V.int (p.length + r1'.length : Nat)), (Str.ofString "x", V.int x), (Str.ofString "L", V.int p.length), (Str.ofString "R", V.int (p.length + (r1'.length + r2'.length) : Nat)), (Str.ofString "a_digits", .raw (.ref la) []), (Str.ofString "n", .int n), (Str.ofString "inner", .raw (.ref f) fr)] (some (.gh (ghI la) (p ++ digs n r1'.length (x % 2 ^ (n * r1'.length)) ++ digs n r2'.length (x / 2 ^ (n * r1'.length)) ++ q))), ?_, rfl, rfl, rfl⟩
          change ExJ X (k' + 1) _ [(Str.ofString "x", V.int x), (Str.ofString "L", V.int p.length), (Str.ofString "R", V.int (p.length + (r1' ++ r2').length : Nat)), (Str.ofString "a_digits", .raw (.ref la) []), (Str.ofString "n", .int n), (Str.ofString "inner", .raw (.ref f) fr)] (some (.gh (ghI la) (p ++ (r1' ++ r2') ++ q))) _ _
          rw [List.length_append, show p ++ (r1' ++ r2') ++ q = p ++ r1' ++ (r2' ++ q) by simp [List.append_assoc]]
          apply ExJ.cons
          · apply StJ.iteF
            · k_upd
            · simp; k_data
            · exact ExJ.nil
          apply ExJ.cons
          · apply StJ.assign (d := V.int (p.length + r1'.length : Nat))
            · refine EvJ.to (d := V.int (((p.length : Int) + ((p.length + (r1'.length + r2'.length) : Nat) : Int)).fdiv (2 ^ (1 : Int).toNat))) ?_ (by rw [midI, hmid])
              k_upd
            · exact storesGh (.inl (by kernel_rfl))
            · kernel_rfl
          apply ExJ.cons
          · apply StJ.assign (d := V.int ((r1'.length * n : Nat) : Int))
            · refine EvJ.to (d := V.int ((((p.length + r1'.length : Nat) : Int) - (p.length : Int)) * n)) ?_ (by rw [show ((p.length + r1'.length : Nat) : Int) - (p.length : Int) = (r1'.length : Int) by k_data, Int.natCast_mul])
              apply EvJ.bin
              · k_upd
              · k_upd
              · exact BinJ.mul (by show _ < 18446744073709551616; k_data)
            · exact storesGh (.inl (by kernel_rfl))
            · kernel_rfl
          apply ExJ.cons
          · apply StJ.assign (d := V.int ((x / 2 ^ (n * r1'.length) : Nat) : Int))
            · refine EvJ.to (d := V.int ((x : Int).fdiv (2 ^ ((r1'.length * n : Nat) : Int).toNat))) ?_ (by rw [shrI, Nat.mul_comm])
              apply EvJ.bin
              · k_upd
              · k_upd
              · exact BinJ.shr (Int.natCast_nonneg _)
            · exact storesGh (.inl (by kernel_rfl))
            · kernel_rfl
          apply ExJ.cons
          · apply StJ.assign (d := V.int ((x % 2 ^ (n * r1'.length) : Nat) : Int))
            · refine EvJ.to (d := V.int (Builtin.bitXor x (((x / 2 ^ (n * r1'.length) : Nat) : Int) * 2 ^ ((r1'.length * n : Nat) : Int).toNat))) ?_ (by rw [Nat.mul_comm r1'.length, xorI])
              apply EvJ.bin
              · k_upd
              · apply EvJ.bin
                · k_upd
                · k_upd
                · refine BinJ.shl (Int.natCast_nonneg _) (by k_data) (small64 (k := n * r2'.length) (Int.natCast_nonneg _) ?_ hb2)
                  have := Int.ofNat_lt.mpr hx2
                  rwa [Int.natCast_pow] at this
              · exact BinJ.xor
            · exact storesGh (.inl (by kernel_rfl))
            · kernel_rfl
          apply ExJ.cons
          · apply StJ.exprG (y := p ++ digs n r1'.length (x % 2 ^ (n * r1'.length)) ++ (r2' ++ q)) (d := .none)
            · apply EvG.lcall
              · apply Lk.lk; k_memK
              · exact hisf
              · kernel_rfl
              · kernel_rfl
              · k_upd
              · exact ih1
              · kernel_rfl
            · rfl
            · kernel_rfl
            · kernel_rfl
          apply ExJ.one
          apply StJ.exprG (g := ghI la) (x := p ++ digs n r1'.length (x % 2 ^ (n * r1'.length)) ++ (r2' ++ q)) (d := .none)
          · rw [show p ++ digs n r1'.length (x % 2 ^ (n * r1'.length)) ++ (r2' ++ q) = p ++ digs n r1'.length (x % 2 ^ (n * r1'.length)) ++ r2' ++ q by simp [List.append_assoc]]
            apply EvG.lcall
            · apply Lk.lk; k_memK
            · exact hisf
            · kernel_rfl
            · kernel_rfl
            · rw [show p.length + r1'.length + r2'.length = p.length + (r1'.length + r2'.length) by k_data] at ih2
              k_upd
            · rw [show p.length + r1'.length + r2'.length = p.length + (r1'.length + r2'.length) by k_data] at ih2
              exact ih2
            · kernel_rfl
          · rfl
          · kernel_rfl
          · kernel_rfl
    have inner : ∀ k, ∀ (p r q : List Int) (x : Nat), 0 < r.length → r.length ≤ 8 → p.length + r.length + q.length ≤ 8 → r.length ≤ 2 ^ k → x < 2 ^ (n * r.length) → n * r.length ≤ 60 → CallG X (k + 1) (ghI la) (p ++ r ++ q) (.raw (.ref f) fr) [.int x, .int p.length, .int (p.length + r.length : Nat)] (p ++ digs n r.length x ++ q) .none := fun k => by
      induction k with
      | zero => exact step 0 fun _ h => nomatch h
      | succ k ih => exact step (k + 1) fun k' e => by cases e; exact ih
    have hlen : vl.length = m := by rw [rl.length, List.length_replicate]
    have hfr3 : ∀ {s4 : Shared}, Stp X s2 s4 → ∀ p ∈ fr, ¬ (av0 p.1 ∨ p.1 = la) ∧ s4.heap.get? p.1 = some p.2 := fun st4 p hp => ⟨fun q => q.elim (hfr2 p hp).2.2.1 (hfr2 p hp).2.2.2, st4.ext _ _ (hfr2 p hp).2.1 (hfr2 p hp).1⟩
    have fnA : ∀ {s4 : Shared}, Stp X s2 s4 → FnAt f s4.heap := fun st4 => (isFn_at (av := fun b => av0 b ∨ b = la) hisf (.raw _ _ (hfr3 st4))).2
    refine wpAny_execs_cons (wpAny_If (wpAny_mono ((TrJ.val (X := X) (n := 5) (ρ := [(Str.ofString "a", .int a), (Str.ofString "n", .int n)]) (t := (a : Int) != 0) (EvJ.name (x := Str.ofString "a") (by apply Lk.lk; k_memK) (by kernel_rfl) (by kernel_rfl)) TruJ.int (fun _ => rfl)).run A E s2 _ b I2.ok I2.avk I2.en) (fun r s3 q => ?_) fun _ _ e => e))
    obtain ⟨q, rfl⟩ := q
    have I3 := I2.step q
    have sm3 := sm0.trans' oo ((st.same.trans sm).trans q.same)
    cases h0 : (a : Int) != 0 with
    | false =>
      have ha : a = 0 := by simpa using h0
      refine wpAny_execs_nil ?_
      have er : List.replicate m (V.int 0) = (digs n m a).map V.int := by rw [ha, digs_zero, List.map_replicate]
      rw [er] at I3
      refine wpAny_mono (ExJ.run (X := X) (n := 5) (ρ := [(Str.ofString "a", .int a), (Str.ofString "n", .int n)]) (out := .ret (.list ((digs n m a).map V.int))) ?ret A E s3 hb0 av0 _ b I3) (fun fl s6 z => hQ _ _ ⟨sm3.trans' oo z.1, z.2.back sm3 oo⟩) fun _ _ e => e
      case ret =>
        apply ExJ.freeze
        apply ExJ.ret
        apply StJ.ret
        k_upd
    | true =>
      have ha : a ≠ 0 := by simpa using h0
      have hm0 : 0 < m := by
        rw [hmm]
        refine Nat.div_pos ?_ (by k_data)
        have : 0 < Builtin.Int.intBits (a : Int) := by
          rcases Nat.eq_zero_or_pos (Builtin.Int.intBits (a : Int)) with z | z
          · have := intBits_le_iff.mp (Nat.le_of_eq z); simp at this; k_data
          · exact z
        k_data
      refine wpAny_execs_cons (wpAny_Expr (wpAny_Call_Name_kw (wpAny_Name (wpAny_loadName_cell (c := L + 3) (v := .ref f) rfl (by kernel_rfl) rfl ⟨o3, (hfr3 q (L + 3, o3) (by rw [hfr]; simp)).2, d3⟩ ?_) (by kernel_rfl))) (by kernel_rfl) (by kernel_rfl))
      refine callWith_F (fnA q) (wpAny_mono (EvsJ.run (X := X) (n := 5) (ρ := [(Str.ofString "a_digits", .list (List.replicate m (V.int 0))), (Str.ofString "a", .int a), (Str.ofString "n", .int n)]) (ds := [.int a, .int (0 : Nat), .int m]) ?evs _ A E s3 _ b I3.ok I3.view.1 I3.view.2) (fun vs s4 q4 => ?_) fun _ _ e => e) (starEach_of (by kernel_rfl)) (backTo_of (by kernel_rfl))
      case evs =>
        apply EvsJ.cons
        · k_upd
        · apply EvsJ.cons
          · exact EvJ.int
          · apply EvsJ.cons
            · rw [show (m : Int) = ((List.replicate m (V.int 0)).length : Int) by rw [List.length_replicate]]
              apply EvJ.bcall (id := "len")
              · apply GlV.builtin
                · kernel_rfl
                · k_is
                · decide
                · decide +kernel
                · kernel_rfl
              · k_upd
              · exact CallJ.lenl (by rw [List.length_replicate]; k_data)
              · kernel_rfl
            · exact EvsJ.nil
            · kernel_rfl
          · kernel_rfl
        · kernel_rfl
      have st4 := q.trans q4.1
      have I4 := I2.step st4
      obtain ⟨_, _, vl4, pl4, rl4⟩ := I4.own
      have hcall := inner 3 [] (List.replicate m 0) [] a (by rw [List.length_replicate]; exact hm0) (by rw [List.length_replicate]; exact hm) (by rw [List.length_replicate]; simpa using hm) (by rw [List.length_replicate]; exact hm) (by rw [List.length_replicate]; exact hbits) (by rw [List.length_replicate]; exact hb)
      simp only [List.length_replicate, List.nil_append, List.append_nil, List.length_nil, Nat.zero_add] at hcall
      have rs4 : Rs (AvB av0 _ none) s4.heap vs ([(a : Int), ((0 : Nat) : Int), (m : Int)].map V.int) := q4.2
      have al4 : AvOk X (fun b => av0 b ∨ b = la) s4.heap := ⟨fun b t => .inl (I4.tab0 b t), fun b q => q.elim (fun q => I4.avk.live b (.inl q)) fun q => q ▸ .list pl4.isList⟩
      refine ⟨fnA st4, wpAny_mono (hcall.run A E s4 (fun b => av0 b ∨ b = la) (.ref f) vs (b.le (by k_data)) st4.ok al4 (.inr rfl) (Nat.le_trans I.base hla) (.raw _ _ (hfr3 st4)) (ints_of rs4 _ _) ⟨vl4, pl4, ints_of (ts := List.replicate m 0) (by rw [List.map_replicate]; exact rl4) _ _⟩) (fun v s5 q5 => ?_) fun _ _ e => e⟩
      obtain ⟨z5, rv, vs5, pl5, rs5⟩ := q5
      (first | (obtain ⟨_, rfl⟩ := R.intI rv; clear rv) | (obtain ⟨_, rfl⟩ := R.strI rv; clear rv) | (obtain rfl := R.boolI rv; clear rv) | (obtain rfl := Rs.nilI rv; clear rv) | (obtain rfl := R.noneI rv; clear rv) | cases rv)
      have I5 := I4.stepL z5 pl5 (ints_of rs5 _ _)
      have sm5 := (sm0.trans' oo ((st.same.trans sm).trans st4.same)).trans' oo z5.same
      refine wpAny_execs_nil ?_
      refine wpAny_mono (ExJ.run (X := X) (n := 5) (ρ := [(Str.ofString "a", .int a), (Str.ofString "n", .int n)]) (out := .ret (.list ((digs n m a).map V.int))) ?ret A E s5 hb0 av0 _ b I5) (fun fl s6 z => hQ _ _ ⟨sm5.trans' oo z.1, z.2.back sm5 oo⟩) fun _ _ e => e
      case ret =>
        apply ExJ.freeze
        apply ExJ.ret
        apply StJ.ret
        k_upd
end
section
theorem c_div2 {X : Cx} {a b n : Nat} (ha : a < 2 ^ 120) (hb : 0 < b) (hb' : b < 1073741824) : CallJ X 2 (.ref 45) [.int a, .int b, .int n] (.tup [.int (a / b : Nat), .int (a % b : Nat)]) := by
  refine CallJ.fn (ns := [Str.ofString "a", Str.ofString "b", Str.ofString "n"]) [(Str.ofString "a", .int a), (Str.ofString "b", .int b), (Str.ofString "n", .int n)] rfl (by k_is) (by k_is) ?_ rfl (by decide) (by kernel_rfl) ?_ (by kernel_rfl) (by kernel_rfl) (by kernel_rfl) (by decide)
  · exact bind3 fun _ _ _ => by kernel_rfl
  · intro L
    have hbits : Builtin.Int.intBits (a : Int) ≤ 120 := intBits_le_iff.mpr (by simpa using ha)
    apply ExJ.ret
    apply StJ.iteT
    · apply TrJ.cmp
      · apply EvJ.bin
        · apply EvJ.meth0
          · k_upd
          · exact MethJ.bitlen
          · intro w; rfl
          · kernel_rfl
        · k_upd
        · exact BinJ.sub
      · apply EvJ.ofG (d := .int 4000)
        · apply GlV.glob
          · kernel_rfl
          · k_is
          · kernel_rfl
        · intro av h; exact .int _ _
      · exact CmpJ.lei
      · kernel_rfl
    · simp; k_data
    · apply ExJ.ret
      apply StJ.ret
      apply EvJ.bcall (id := "divmod")
      · apply GlV.builtin
        · kernel_rfl
        · k_is
        · decide
        · decide +kernel
        · kernel_rfl
      · k_upd
      · have h := CallJ.divmod (X := X) (n := 1) (x := (a : Int)) (y := (b : Int)) (by k_data) (by k_data)
        rwa [Int.fdiv_eq_ediv_of_nonneg _ (by k_data), Int.fmod_eq_emod_of_nonneg _ (by k_data), ← Int.natCast_ediv, ← Int.natCast_emod] at h
      · kernel_rfl
end
section
noncomputable def digsN (n : Nat) : Nat → Nat → List Nat
  | 0, _ => []
  | k + 1, x => (x % 2 ^ n) :: digsN n k (x / 2 ^ n)
theorem digs_N (n : Nat) : ∀ k x, digs n k x = (digsN n k x).map fun d => ((d : Nat) : Int)
  | 0, _ => rfl
  | k + 1, x => by rw [digs, digsN, List.map_cons, digs_N n k]
theorem digsN_lt (n : Nat) : ∀ k x, ∀ d ∈ digsN n k x, d < 2 ^ n
  | 0, _, _, h => by cases h
  | k + 1, x, d, h => by
    rw [digsN] at h
    rcases List.mem_cons.mp h with rfl | h
    · exact Nat.mod_lt _ (Nat.pow_pos (by decide))
    · exact digsN_lt n k _ d h
theorem digsN_len (n : Nat) : ∀ k x, (digsN n k x).length = k
  | 0, _ => rfl
  | k + 1, x => by rw [digsN, List.length_cons, digsN_len n k]
theorem snocInd {α : Type} {P : List α → Prop} (h0 : P []) (h1 : ∀ l a, P l → P (l ++ [a])) (l : List α) : P l := by
  have : ∀ m : List α, P m.reverse := fun m => by
    induction m with
    | nil => exact h0
    | cons a m ih => rw [List.reverse_cons]; exact h1 _ _ ih
  have := this l.reverse
  rwa [List.reverse_reverse] at this
noncomputable def bev (B : Nat) (l : List Nat) : Nat := l.foldl (fun v d => v * B + d) 0
theorem bev_snoc (B : Nat) (l : List Nat) (d : Nat) : bev B (l ++ [d]) = bev B l * B + d := by unfold bev; rw [List.foldl_append]; rfl
theorem bev_digs (n : Nat) : ∀ k x, x < 2 ^ (n * k) → bev (2 ^ n) (digsN n k x).reverse = x
  | 0, x, h => by simp at h; subst h; rfl
  | k + 1, x, h => by
    rw [digsN, List.reverse_cons, bev_snoc, bev_digs n k _ (by rw [Nat.div_lt_iff_lt_mul (Nat.pow_pos (by decide)), ← Nat.pow_add]; rwa [Nat.mul_succ] at h)]
    exact Nat.div_add_mod' x (2 ^ n)
theorem dval_bev (n : Nat) (l : List Nat) : dval n ((l.map fun d => ((d : Nat) : Int)).reverse) = (bev (2 ^ n) l : Int) := by
  induction l using snocInd with
  | h0 => rfl
  | h1 l d ih => rw [List.map_append, List.reverse_append, List.map_cons, List.map_nil, List.reverse_singleton, List.singleton_append, bev_snoc, dval, ih, Int.natCast_add, Int.natCast_mul, Int.natCast_pow, Int.add_comm]; rfl
noncomputable def dstep (b B : Nat) (s : Nat × List Nat) (d : Nat) : Nat × List Nat := ((s.1 * B + d) % b, s.2 ++ [(s.1 * B + d) / b])
theorem dstep_inv (b B : Nat) (hb : 0 < b) (l : List Nat) (h : ∀ d ∈ l, d < B) : (l.foldl (dstep b B) (0, [])).1 = bev B l % b ∧ bev B (l.foldl (dstep b B) (0, [])).2 = bev B l / b ∧ (l.foldl (dstep b B) (0, [])).2.length = l.length ∧ (∀ q ∈ (l.foldl (dstep b B) (0, [])).2, q < B) := by
  induction l using snocInd with
  | h0 => exact ⟨by simp [bev], by simp [bev], rfl, fun _ h => by cases h⟩
  | h1 l d ih =>
    obtain ⟨i1, i2, i3, i4⟩ := ih fun e he => h e (List.mem_append_left _ he)
    have hd := h d (List.mem_append_right _ (.head _))
    rw [List.foldl_append, bev_snoc]
    generalize l.foldl (dstep b B) (0, []) = s at i1 i2 i3 i4
    show (s.1 * B + d) % b = _ ∧ bev B (s.2 ++ [(s.1 * B + d) / b]) = _ ∧ (s.2 ++ [(s.1 * B + d) / b]).length = _ ∧ _
    have e : bev B l * B + d = b * (bev B l / b * B) + (s.1 * B + d) := by
      have := Nat.div_add_mod (bev B l) b
      rw [i1]
      calc bev B l * B + d = (b * (bev B l / b) + bev B l % b) * B + d := by rw [this]
        _ = _ := by rw [Nat.add_mul, Nat.mul_assoc, Nat.add_assoc]
    refine ⟨?_, ?_, by rw [List.length_append, List.length_append, i3]; rfl, fun q hq => ?_⟩
    · rw [e, Nat.mul_add_mod]
    · rw [bev_snoc, i2, e, Nat.mul_add_div hb]
    · rcases List.mem_append.mp hq with q' | q'
      · exact i4 q q'
      · cases List.mem_singleton.mp q'
        have : s.1 < b := by rw [i1]; exact Nat.mod_lt _ hb
        rw [Nat.div_lt_iff_lt_mul hb]
        calc s.1 * B + d < s.1 * B + B := by k_data
          _ = (s.1 + 1) * B := by rw [Nat.add_mul, Nat.one_mul]
          _ ≤ b * B := Nat.mul_le_mul_right _ this
          _ = B * b := Nat.mul_comm _ _
theorem c_dmp {X : Cx} {a b : Nat} (hb : 0 < b) (hb' : b < 2 ^ 20) (hm : (Builtin.Int.intBits a + Builtin.Int.intBits b - 1) / Builtin.Int.intBits b ≤ 8) (hn : Builtin.Int.intBits b * ((Builtin.Int.intBits a + Builtin.Int.intBits b - 1) / Builtin.Int.intBits b) ≤ 60) : CallJ X 8 (.ref 73) [.int a, .int b] (.tup [.int (a / b : Nat), .int (a % b : Nat)]) := by
  refine CallJ.fn (ns := [Str.ofString "a", Str.ofString "b"]) [(Str.ofString "a", .int a), (Str.ofString "b", .int b)] rfl (by k_is) (by k_is) ?_ rfl (by decide) (by kernel_rfl) ?_ (by kernel_rfl) (by kernel_rfl) (by kernel_rfl) (by decide)
  · exact bind2 fun _ _ => by kernel_rfl
  · intro L
    have n1 : 1 ≤ Builtin.Int.intBits (b : Int) := by
      rcases Nat.eq_zero_or_pos (Builtin.Int.intBits (b : Int)) with z | z
      · have := intBits_le_iff.mp (Nat.le_of_eq z); simp at this; k_data
      · exact z
    have n20 : Builtin.Int.intBits (b : Int) ≤ 20 := intBits_le_iff.mpr (by simpa using hb')
    have ea : a < 2 ^ (Builtin.Int.intBits (b : Int) * ((Builtin.Int.intBits a + Builtin.Int.intBits b - 1) / Builtin.Int.intBits b)) := by
      have e1 : a < 2 ^ Builtin.Int.intBits a := by have := intBits_le_iff.mp (Nat.le_refl (Builtin.Int.intBits (a : Int))); simpa using this
      refine Nat.lt_of_lt_of_le e1 (Nat.pow_le_pow_right (by decide) ?_)
      have := Nat.div_add_mod (Builtin.Int.intBits a + Builtin.Int.intBits b - 1) (Builtin.Int.intBits b)
      have := Nat.mod_lt (Builtin.Int.intBits a + Builtin.Int.intBits b - 1) (by k_data : Builtin.Int.intBits (b : Int) > 0)
      k_data
    have ci := c_i2d (X := X) (a := a) (n := Builtin.Int.intBits (b : Int)) n1 (by k_data) hm hn
    have bbits : b < 2 ^ Builtin.Int.intBits (b : Int) := by have := intBits_le_iff.mp (Nat.le_refl (Builtin.Int.intBits (b : Int))); simpa using this
    apply ExJ.cons
    · apply StJ.assign (d := V.int (Builtin.Int.intBits (b : Int) : Nat))
      · apply EvJ.meth0
        · k_upd
        · exact MethJ.bitlen
        · intro w; rfl
        · kernel_rfl
      · exact Stores.none (.inl (by kernel_rfl))
      · kernel_rfl
    revert ea ci bbits hm hn n1 n20
    generalize Builtin.Int.intBits (b : Int) = n
    intro hm hn n1 n20 ea ci bbits
    revert hm hn ea ci
    generalize (Builtin.Int.intBits a + n - 1) / n = m
    intro hm hn ea ci
    obtain ⟨d1, d2, d3, d4⟩ := dstep_inv b (2 ^ n) hb (digsN n m a).reverse fun d h => digsN_lt n m a d (List.mem_reverse.mp h)
    rw [bev_digs n m a ea] at d1 d2
    rw [List.length_reverse, digsN_len] at d3
    apply ExJ.cons
    · apply StJ.assign (d := V.list ((digs n m a).map V.int))
      · apply EvJ.fcall
        · apply GlV.glob
          · kernel_rfl
          · k_is
          · kernel_rfl
        · k_is
        · k_upd
        · exact ci.mono (by decide)
        · kernel_rfl
      · exact Stores.none (.inl (by kernel_rfl))
      · kernel_rfl
    apply ExJ.cons
    · apply StJ.assign (d := V.int (0 : Nat))
      · exact EvJ.int
      · exact Stores.none (.inl (by kernel_rfl))
      · kernel_rfl
    apply ExJ.cons
    · refine StJ.own (ds := []) ?_ (.inl (by kernel_rfl)) (by kernel_rfl) (by kernel_rfl)
      apply FrJ.list
      · exact EvsJ.nil
      · decide
    apply ExJ.sub (ρ' := [(Str.ofString "r", V.int (0 : Nat)), (Str.ofString "a_digits", V.list ((digs n m a).map V.int)), (Str.ofString "n", .int n), (Str.ofString "b", .int b)])
    · k_subL
    apply ExJ.cons
    · apply StJ.for (ds := ((digs n m a).map V.int).reverse)
      · apply WkJ.tcall (T := "reversed")
        · apply GlV.builtin
          · kernel_rfl
          · k_is
          · decide
          · decide +kernel
          · kernel_rfl
        · k_upd
        · exact WcJ.rev
        · kernel_rfl
      · rw [show ((digs n m a).map V.int).reverse = (digsN n m a).reverse.map fun d : Nat => V.int d by rw [digs_N, List.map_map, List.map_reverse]; rfl]
        refine LoopJ.foldI (fun d : Nat => V.int d) (fun (s : Nat × List Nat) => [(Str.ofString "r", V.int s.1), (Str.ofString "a_digits", V.list ((digs n m a).map V.int)), (Str.ofString "n", .int n), (Str.ofString "b", .int b)]) (fun s => some (Own.lst (Str.ofString "q_digits") (s.2.map fun d : Nat => V.int d)))
          (dstep b (2 ^ n)) (fun i s => s.1 < b ∧ s.2.length = i) (digsN n m a).reverse 0 (fun i s d hd hP => ?_) (0, []) ⟨hb, rfl⟩ (fun _ => ExJ.nil)
        have hlt : i < m := by have := (List.getElem?_eq_some_iff.mp hd).1; rwa [List.length_reverse, digsN_len] at this
        have hdB : d < 2 ^ n := digsN_lt n m a d (List.mem_reverse.mp (List.mem_of_getElem? hd))
        refine ⟨⟨Nat.mod_lt _ hb, by show (s.2 ++ [_]).length = _; rw [List.length_append, hP.2]; rfl⟩, _, TgJ.name (Stores.some (.inl (by kernel_rfl)) (by kernel_rfl)), ?_⟩
        change ExJ _ _ _ _ _ _ (.next [(Str.ofString "r", V.int ((s.1 * 2 ^ n + d) % b : Nat)), (Str.ofString "a_digits", V.list ((digs n m a).map V.int)), (Str.ofString "n", .int n), (Str.ofString "b", .int b)] _)
        refine ExJ.to (ρ₂ := (Str.ofString "r", V.int ((s.1 * 2 ^ n + d) % b : Nat)) :: (Str.ofString "q_digit", V.int ((s.1 * 2 ^ n + d) / b : Nat)) :: (Str.ofString "a_digit", V.int d) :: [(Str.ofString "r", V.int s.1), (Str.ofString "a_digits", V.list ((digs n m a).map V.int)), (Str.ofString "n", .int n), (Str.ofString "b", .int b)]) ?_ (by k_subL)
        have e20 : 2 ^ n ≤ 2 ^ 20 := Nat.pow_le_pow_right (by decide) n20
        apply ExJ.cons
        · apply StJ.assignT (d1 := V.int ((s.1 * 2 ^ n + d) / b : Nat)) (d2 := V.int ((s.1 * 2 ^ n + d) % b : Nat))
          · apply EvJ.fcall (ds := [.int (s.1 * 2 ^ n + d : Nat), .int b, .int n])
            · apply GlV.glob
              · kernel_rfl
              · k_is
              · kernel_rfl
            · k_is
            · apply EvsJ.cons
              · refine EvJ.to (d := V.int ((s.1 : Int) * 2 ^ (n : Int).toNat + (d : Int))) ?_ (by rw [Int.toNat_natCast, Int.natCast_add, Int.natCast_mul, Int.natCast_pow]; rfl)
                apply EvJ.bin
                · apply EvJ.bin
                  · k_upd
                  · k_upd
                  · exact BinJ.shl (by k_data) (by k_data) (by show _ < 18446744073709551616; k_data)
                · k_upd
                · exact BinJ.add
              · k_upd
              · kernel_rfl
            · refine (c_div2 (X := X) ?_ hb (by k_data)).mono (by decide)
              have : s.1 * 2 ^ n ≤ 2 ^ 20 * 2 ^ 20 := Nat.mul_le_mul (by k_data) e20
              k_data
            · kernel_rfl
          · exact Stores.some (.inl (by kernel_rfl)) (by kernel_rfl)
          · exact Stores.some (.inl (by kernel_rfl)) (by kernel_rfl)
          · kernel_rfl
          · kernel_rfl
        · apply ExJ.one
          rw [show (dstep b (2 ^ n) s d).2.map (fun d : Nat => V.int d) = s.2.map (fun d : Nat => V.int d) ++ [V.int ((s.1 * 2 ^ n + d) / b : Nat)] by show (s.2 ++ [_]).map _ = _; rw [List.map_append]; rfl]
          apply StJ.append
          · k_upd
          · rw [List.length_map]; k_data
          · kernel_rfl
          · intro w; rfl
          · kernel_rfl
          · kernel_rfl
          · kernel_rfl
          · kernel_rfl
      · intro x; rfl
    revert d1 d2 d3 d4
    generalize List.foldl (dstep b (2 ^ n)) (0, []) (digsN n m a).reverse = s
    intro d1 d2 d3 d4
    apply ExJ.cons
    · apply StJ.reverse
      · rw [List.length_map]; k_data
      · kernel_rfl
      · intro w; rfl
      · kernel_rfl
      · kernel_rfl
      · kernel_rfl
    apply ExJ.cons
    · apply StJ.assignV (d := V.int (a / b : Nat))
      · have hq := c_d2i (X := X) (ds := (s.2.map fun d : Nat => (d : Int)).reverse) (n := n) (by k_data) (by rw [List.length_reverse, List.length_map]; k_data) (by rw [List.length_reverse, List.length_map, d3]; exact hn)
          (fun q hq => by
            obtain ⟨q', hm', rfl⟩ := List.mem_map.mp (List.mem_reverse.mp hq)
            have := Int.ofNat_lt.mpr (d4 q' hm')
            rw [Int.natCast_pow] at this
            exact ⟨Int.natCast_nonneg _, this⟩)
        rw [dval_bev, d2, List.map_reverse, List.map_map, show List.map (V.int ∘ fun d : Nat => (d : Int)) s.2 = s.2.map (fun d : Nat => V.int d) from rfl] at hq
        apply EvJ.fcall (ds := [.list (s.2.map (fun d : Nat => V.int d)).reverse, .int n])
        · apply GlV.glob
          · kernel_rfl
          · k_is
          · kernel_rfl
        · k_is
        · k_upd
        · exact hq.mono (by decide)
        · kernel_rfl
      · rfl
      · exact Stores.some (.inl (by kernel_rfl)) (by kernel_rfl)
      · kernel_rfl
    apply ExJ.freeze
    apply ExJ.ret
    apply StJ.ret
    rw [← d1]
    k_upd
end
section
noncomputable def DmOk (a b : Nat) : Prop := 0 < b ∧ b < 2 ^ 20 ∧ (Builtin.Int.intBits a + Builtin.Int.intBits b - 1) / Builtin.Int.intBits b ≤ 8 ∧ Builtin.Int.intBits b * ((Builtin.Int.intBits a + Builtin.Int.intBits b - 1) / Builtin.Int.intBits b) ≤ 60
theorem c_idm_pos {X : Cx} {a b : Nat} (h : DmOk a b) : CallJ X 9 (.ref 80) [.int a, .int b] (.tup [.int (a / b : Nat), .int (a % b : Nat)]) := by
  refine CallJ.fn (ns := [Str.ofString "a", Str.ofString "b"]) [(Str.ofString "a", .int a), (Str.ofString "b", .int b)] rfl (by k_is) (by k_is) ?_ rfl (by decide) (by kernel_rfl) ?_ (by kernel_rfl) (by kernel_rfl) (by kernel_rfl) (by decide)
  · exact bind2 fun _ _ => by kernel_rfl
  · intro L
    have h0 := h.1
    apply ExJ.ret
    apply StJ.iteF
    · k_upd
    · simp; k_data
    · apply ExJ.ret
      apply StJ.iteF
      · k_upd
      · simp
      · apply ExJ.ret
        apply StJ.iteF
        · k_upd
        · simp
        · apply ExJ.ret
          apply StJ.ret
          apply EvJ.fcall
          · apply GlV.glob
            · kernel_rfl
            · k_is
            · kernel_rfl
          · k_is
          · k_upd
          · exact c_dmp h.1 h.2.1 h.2.2.1 h.2.2.2
          · kernel_rfl
theorem c_idm_neg {X : Cx} {a b : Nat} (h : DmOk a b) : CallJ X 10 (.ref 80) [.int (Builtin.bitNot a), .int b] (.tup [.int (Builtin.bitNot (a / b : Nat)), .int ((b : Int) + Builtin.bitNot (a % b : Nat))]) := by
  refine CallJ.fn (ns := [Str.ofString "a", Str.ofString "b"]) [(Str.ofString "a", .int (Builtin.bitNot a)), (Str.ofString "b", .int b)] rfl (by k_is) (by k_is) ?_ rfl (by decide) (by kernel_rfl) ?_ (by kernel_rfl) (by kernel_rfl) (by kernel_rfl) (by decide)
  · exact bind2 fun _ _ => by kernel_rfl
  · intro L
    have h0 := h.1
    have hn : Builtin.bitNot (a : Int) < 0 := by unfold Builtin.bitNot; k_data
    have hnn : Builtin.bitNot (Builtin.bitNot (a : Int)) = a := by unfold Builtin.bitNot; k_data
    apply ExJ.ret
    apply StJ.iteF
    · k_upd
    · simp; k_data
    · apply ExJ.ret
      apply StJ.iteF
      · k_upd
      · simp
      · apply ExJ.ret
        apply StJ.iteT
        · k_upd
        · simpa using hn
        · apply ExJ.cons
          · apply StJ.assignT (d1 := V.int (a / b : Nat)) (d2 := V.int (a % b : Nat))
            · apply EvJ.fcall (ds := [.int a, .int b])
              · apply GlV.glob
                · kernel_rfl
                · k_is
                · kernel_rfl
              · k_is
              · apply EvsJ.cons
                · refine EvJ.to (d := .int (Builtin.bitNot (Builtin.bitNot (a : Int)))) ?_ (by rw [hnn])
                  k_upd
                · k_upd
                · kernel_rfl
              · exact c_idm_pos h
              · kernel_rfl
            · exact Stores.none (.inl (by kernel_rfl))
            · exact Stores.none (.inl (by kernel_rfl))
            · kernel_rfl
            · kernel_rfl
          · apply ExJ.ret
            apply StJ.ret
            k_upd
theorem c_idm_nb {X : Cx} {k : Nat} {a b q r : Int} (hb : b < 0) (h : CallJ X k (.ref 80) [.int (-a), .int (-b)] (.tup [.int q, .int r])) : CallJ X (k + 1) (.ref 80) [.int a, .int b] (.tup [.int q, .int (-r)]) := by
  refine CallJ.fn (ns := [Str.ofString "a", Str.ofString "b"]) [(Str.ofString "a", .int a), (Str.ofString "b", .int b)] rfl (by k_is) (by k_is) ?_ rfl (by decide) (by kernel_rfl) ?_ (by kernel_rfl) (by kernel_rfl) (by kernel_rfl) (by decide)
  · exact bind2 fun _ _ => by kernel_rfl
  · intro L
    apply ExJ.ret
    apply StJ.iteF
    · k_upd
    · simp; k_data
    · apply ExJ.ret
      apply StJ.iteT
      · k_upd
      · simpa using hb
      · apply ExJ.cons
        · apply StJ.assignT (d1 := V.int q) (d2 := V.int r)
          · apply EvJ.fcall
            · apply GlV.glob
              · kernel_rfl
              · k_is
              · kernel_rfl
            · k_is
            · k_upd
            · exact h
            · kernel_rfl
          · exact Stores.none (.inl (by kernel_rfl))
          · exact Stores.none (.inl (by kernel_rfl))
          · kernel_rfl
          · kernel_rfl
        · apply ExJ.ret
          apply StJ.ret
          k_upd
end
section
theorem c_cut {X : Cx} {x p mode : Nat} (h : DmOk x (2 ^ p)) (hp : p ≤ 20) (hm : mode < 3) : CallJ X 12 (.ref 293) [.int x, .int p, .int mode] (.tup [.int (x / 2 ^ p : Nat), .int (x % 2 ^ p : Nat)]) := by
  refine CallJ.fn (ns := [Str.ofString "number", Str.ofString "place", Str.ofString "mode"]) [(Str.ofString "number", .int x), (Str.ofString "place", .int p), (Str.ofString "mode", .int mode)] rfl (by k_is) (by k_is) ?_ rfl (by decide) (by kernel_rfl) ?_ (by kernel_rfl) (by kernel_rfl) (by kernel_rfl) (by decide)
  · exact bind3 fun _ _ _ => by kernel_rfl
  · intro L
    have e1 : (1 : Int) * 2 ^ (p : Int).toNat = ((2 ^ p : Nat) : Int) := by rw [Int.toNat_natCast, Int.one_mul, Int.natCast_pow]; rfl
    have e2 : (-1 : Int) * 2 ^ (p : Int).toNat = -((2 ^ p : Nat) : Int) := by rw [Int.toNat_natCast, Int.natCast_pow]; show -1 * 2 ^ p = -(2 ^ p); k_data
    have pos : 0 < 2 ^ p := Nat.pow_pos (by decide)
    match mode, hm with
    | 0, _ =>
      apply ExJ.ret
      apply StJ.iteT
      · k_upd
      · rfl
      · apply ExJ.ret
        apply StJ.ret
        apply EvJ.fcall (ds := [.int x, .int (2 ^ p : Nat)])
        · apply GlV.glob
          · kernel_rfl
          · k_is
          · kernel_rfl
        · k_is
        · apply EvsJ.cons
          · k_upd
          · apply EvsJ.cons
            · refine EvJ.to (d := .int ((1 : Int) * 2 ^ (p : Int).toNat)) ?_ (by rw [e1])
              k_upd
            · exact EvsJ.nil
            · kernel_rfl
          · kernel_rfl
        · exact (c_idm_pos h).mono (by decide)
        · kernel_rfl
    | 1, _ =>
      apply ExJ.cons
      · apply StJ.iteF
        · k_upd
        · rfl
        · exact ExJ.nil
      apply ExJ.ret
      apply StJ.iteT
      · k_upd
      · rfl
      · apply ExJ.cons
        · apply StJ.assignT (d1 := V.int (x / 2 ^ p : Nat)) (d2 := V.int (-((x % 2 ^ p : Nat) : Int)))
          · apply EvJ.fcall (ds := [.int (-(x : Int)), .int (-((2 ^ p : Nat) : Int))])
            · apply GlV.glob
              · kernel_rfl
              · k_is
              · kernel_rfl
            · k_is
            · apply EvsJ.cons
              · k_upd
              · apply EvsJ.cons
                · refine EvJ.to (d := .int ((-1 : Int) * 2 ^ (p : Int).toNat)) ?_ (by rw [e2])
                  k_upd
                · exact EvsJ.nil
                · kernel_rfl
              · kernel_rfl
            · refine (c_idm_nb (k := 9) (by k_data) ?_).mono (by decide)
              rw [Int.neg_neg, Int.neg_neg]
              exact c_idm_pos h
            · kernel_rfl
          · exact Stores.none (.inl (by kernel_rfl))
          · exact Stores.none (.inl (by kernel_rfl))
          · kernel_rfl
          · kernel_rfl
        · apply ExJ.ret
          apply StJ.ret
          refine EvJ.to (d := .tup [.int (x / 2 ^ p : Nat), .int (-(-((x % 2 ^ p : Nat) : Int)))]) ?_ (by rw [Int.neg_neg])
          k_upd
    | 2, _ =>
      apply ExJ.cons
      · apply StJ.iteF
        · k_upd
        · rfl
        · exact ExJ.nil
      apply ExJ.cons
      · apply StJ.iteF
        · k_upd
        · rfl
        · exact ExJ.nil
      apply ExJ.cons
      · apply StJ.assignT (d1 := V.int (Builtin.bitNot (x / 2 ^ p : Nat))) (d2 := V.int (((2 ^ p : Nat) : Int) + Builtin.bitNot (x % 2 ^ p : Nat)))
        · apply EvJ.fcall (ds := [.int (Builtin.bitNot x), .int (2 ^ p : Nat)])
          · apply GlV.glob
            · kernel_rfl
            · k_is
            · kernel_rfl
          · k_is
          · apply EvsJ.cons
            · k_upd
            · apply EvsJ.cons
              · refine EvJ.to (d := .int ((1 : Int) * 2 ^ (p : Int).toNat)) ?_ (by rw [e1])
                k_upd
              · exact EvsJ.nil
              · kernel_rfl
            · kernel_rfl
          · exact (c_idm_neg h).mono (by decide)
          · kernel_rfl
        · exact Stores.none (.inl (by kernel_rfl))
        · exact Stores.none (.inl (by kernel_rfl))
        · kernel_rfl
        · kernel_rfl
      · apply ExJ.ret
        apply StJ.ret
        refine EvJ.to (d := .tup [.int (Builtin.bitNot (Builtin.bitNot (x / 2 ^ p : Nat))), .int ((1 : Int) * 2 ^ (p : Int).toNat - 1 - (((2 ^ p : Nat) : Int) + Builtin.bitNot (x % 2 ^ p : Nat)))]) ?_ (by
          rw [e1, show Builtin.bitNot (Builtin.bitNot ((x / 2 ^ p : Nat) : Int)) = ((x / 2 ^ p : Nat) : Int) by unfold Builtin.bitNot; k_data,
            show ((2 ^ p : Nat) : Int) - 1 - (((2 ^ p : Nat) : Int) + Builtin.bitNot ((x % 2 ^ p : Nat) : Int)) = ((x % 2 ^ p : Nat) : Int) by unfold Builtin.bitNot; k_data])
        k_upd
end
section
noncomputable def fstep (lesser : Bool) (want : Int) (lr : Int × Int) : Int := if (Builtin.bitAnd lr.1 want == lr.1 && ((lr.1 != want || (!lesser || false)) && true)) = true then Builtin.bitOr want lr.2 else want
noncomputable def follow (want : Int) (rules : List (Int × Int)) (lesser : Bool) : Int := (List.range 4).foldl (fun w _ => rules.foldl (fstep lesser) w) want
noncomputable def pairI (p : Int × Int) : V := .tup [.int p.1, .int p.2]
theorem c_follow {X : Cx} {want : Int} {rules : List (Int × Int)} {lesser : Bool} : CallJ X 1 (.ref 300) [.int want, .list (rules.map pairI), .bool lesser] (.int (follow want rules lesser)) := by
  refine CallJ.fn (ns := [Str.ofString "want", Str.ofString "rules", Str.ofString "lesser"]) [(Str.ofString "want", .int want), (Str.ofString "rules", .list (rules.map pairI)), (Str.ofString "lesser", .bool lesser)] rfl (by k_is) (by k_is) ?_ rfl (by decide) (by kernel_rfl) ?_ (by kernel_rfl) (by kernel_rfl) (by kernel_rfl) (by decide)
  · exact bind3 fun _ _ _ => by kernel_rfl
  · intro L
    apply ExJ.cons
    · apply StJ.for
      · apply WkJ.tcall (T := "range")
        · apply GlV.builtin
          · kernel_rfl
          · k_is
          · decide
          · decide +kernel
          · kernel_rfl
        · k_upd
        · exact WcJ.range1 (k := 4) (by decide +kernel) (by decide +kernel)
        · kernel_rfl
      · refine LoopJ.fold (fun (i : Nat) => V.int (0 + (i : Int))) (fun (c : Int) => [(Str.ofString "want", V.int c), (Str.ofString "rules", .list (rules.map pairI)), (Str.ofString "lesser", .bool lesser)]) (fun _ => none)
          (fun w _ => rules.foldl (fstep lesser) w) (List.range 4) (fun _ => True) (fun _ _ _ _ => trivial) (fun c row _ _ => ?_) want trivial (fun _ => ExJ.nil)
        refine ⟨_, TgJ.name (Stores.none (.inl (by kernel_rfl))), ?_⟩
        apply ExJ.one
        refine StJ.sub (ρ' := [(Str.ofString "want", V.int c), (Str.ofString "rules", .list (rules.map pairI)), (Str.ofString "lesser", .bool lesser)]) (.cons ?_ (.cons ?_ (.cons ?_ .nil))) ?_ <;> try k_memK
        apply StJ.for
        · apply WkJ.list
          · k_upd
          · refine TgOk.tup fun d h => ?_
            obtain ⟨p, _, rfl⟩ := List.mem_map.mp h
            exact ⟨_, rfl⟩
        · refine LoopJ.fold pairI (fun (c : Int) => [(Str.ofString "want", V.int c), (Str.ofString "rules", .list (rules.map pairI)), (Str.ofString "lesser", .bool lesser)]) (fun _ => none)
            (fstep lesser) rules (fun _ => True) (fun _ _ _ _ => trivial) (fun c lr _ _ => ?_) c trivial (fun _ => ExJ.nil)
          refine ⟨_, TgJ.pair (Stores.none (.inl (by kernel_rfl))) (Stores.none (.inl (by kernel_rfl))), ?_⟩
          apply ExJ.one
          apply StJ.ite
          · k_upd
          · intro h
            rw [show fstep lesser c lr = Builtin.bitOr c lr.2 from if_pos h]
            refine ExJ.one (StJ.to (ρ₂ := (Str.ofString "want", V.int (Builtin.bitOr c lr.2)) :: (Str.ofString "right", V.int lr.2) :: (Str.ofString "left", V.int lr.1) :: [(Str.ofString "want", V.int c), (Str.ofString "rules", .list (rules.map pairI)), (Str.ofString "lesser", .bool lesser)]) ?_ (.cons ?_ (.cons ?_ (.cons ?_ .nil)))) <;> try k_memK
            apply StJ.aug
            · apply Lk.lk; k_memK
            · k_upd
            · k_updF
            · exact Stores.none (.inl (by kernel_rfl))
            · kernel_rfl
          · intro h
            rw [show fstep lesser c lr = c from if_neg (by rw [h]; decide)]
            refine ExJ.to ExJ.nil (.cons ?_ (.cons ?_ (.cons ?_ .nil))) <;> k_memK
        · intro x; rfl
      · intro x; rfl
    · apply ExJ.ret
      apply StJ.ret
      unfold follow
      k_upd
end
section
noncomputable def fstepN (lesser : Bool) (want : Nat) (lr : Nat × Nat) : Nat := if (lr.1 &&& want == lr.1 && (lr.1 != want || !lesser)) = true then want ||| lr.2 else want
noncomputable def followN (want : Nat) (rules : List (Nat × Nat)) (lesser : Bool) : Nat := (List.range 4).foldl (fun w _ => rules.foldl (fstepN lesser) w) want
noncomputable def castR (p : Nat × Nat) : Int × Int := ((p.1 : Int), (p.2 : Int))
theorem natCast_beq (a b : Nat) : ((a : Int) == (b : Int)) = (a == b) := by rw [Bool.eq_iff_iff]; simp; k_data
theorem natCast_bne (a b : Nat) : ((a : Int) != (b : Int)) = (a != b) := by unfold bne; rw [natCast_beq]
theorem fstep_N (lesser : Bool) (w : Nat) (lr : Nat × Nat) : fstep lesser (w : Int) (castR lr) = (fstepN lesser w lr : Int) := by
  unfold fstep fstepN castR
  rw [bitAnd_nat, bitOr_nat, natCast_beq, natCast_bne]
  rw [Bool.or_false, Bool.and_true]
  split <;> rfl
theorem follow_N (w : Nat) (rules : List (Nat × Nat)) (lesser : Bool) : follow (w : Int) (rules.map castR) lesser = (followN w rules lesser : Int) := by
  unfold follow followN
  have h1 : ∀ (rs : List (Nat × Nat)) (w : Nat), (rs.map castR).foldl (fstep lesser) (w : Int) = ((rs.foldl (fstepN lesser) w : Nat) : Int) := fun rs => by
    induction rs with
    | nil => intro w; rfl
    | cons a rs ih => intro w; rw [List.map_cons, List.foldl_cons, fstep_N, ih]; rfl
  generalize List.range 4 = l
  induction l generalizing w with
  | nil => rfl
  | cons a l ih => rw [List.foldl_cons, List.foldl_cons, h1, ih]
theorem followN_lt (w : Nat) (rules : List (Nat × Nat)) (lesser : Bool) (hw : w < 16) (hr : ∀ r ∈ rules, r.2 < 16) : followN w rules lesser < 16 := by
  unfold followN
  have h1 : ∀ (rs : List (Nat × Nat)) (w : Nat), (∀ r ∈ rs, r.2 < 16) → w < 16 → rs.foldl (fstepN lesser) w < 16 := fun rs => by
    induction rs with
    | nil => intro w _ h; exact h
    | cons a rs ih =>
      intro w hr h
      refine ih _ (fun r q => hr r (.tail _ q)) ?_
      unfold fstepN
      split
      · exact Nat.or_lt_two_pow (n := 4) h (hr a (.head _))
      · exact h
  generalize List.range 4 = l
  induction l generalizing w with
  | nil => exact hw
  | cons a l ih => exact ih _ (h1 _ _ hr hw)
noncomputable def pstepR (now : Nat) (rules : List (Nat × Nat)) (w : Option Nat) (p : Nat) : Bool × Option Nat :=
  if (now / 2 ^ p) % 2 = 0 then (followN (now - now % 2 ^ p + 2 ^ p) rules true / 2 ^ p == now / 2 ^ p + 1, some (followN (now - now % 2 ^ p + 2 ^ p) rules true)) else (false, w)
noncomputable def nextN (now : Nat) (rules : List (Nat × Nat)) : Option Nat := (runB (pstepR now rules) (List.range 4) none).2
noncomputable def rulesOf (br : List Nat) (now : Nat) (rules : List (Nat × Nat)) : List (Nat × Nat) := if (br.getD now 0 != now) = true then rules ++ [(now, br.getD now 0)] else rules
noncomputable def ostep (br : List Nat) (s : Nat × List (Nat × Nat)) (turn : Nat) : Bool × (Nat × List (Nat × Nat)) :=
  if (s.1 == 15) = true then (true, (s.1, rulesOf br s.1 s.2)) else (false, ((nextN s.1 (rulesOf br s.1 s.2)).getD 0, rulesOf br s.1 s.2))
noncomputable def rulesM (br : List Nat) : List (Nat × Nat) := (runB (ostep br) (List.range 16) (0, [])).2.2
theorem dm16 : ∀ p, p < 4 → ∀ x, x < 16 → DmOk x (2 ^ p) := by unfold DmOk; decide +kernel
theorem even_some : ∀ now, now < 16 → now ≠ 15 → ∃ p ∈ List.range 4, (now / 2 ^ p) % 2 = 0 := by decide +kernel
theorem runB_some (now : Nat) (rules : List (Nat × Nat)) : ∀ (l : List Nat) (w : Option Nat), (w.isSome = true ∨ ∃ p ∈ l, (now / 2 ^ p) % 2 = 0) → (runB (pstepR now rules) l w).2.isSome = true
  | [], w, h => h.resolve_right fun ⟨_, q, _⟩ => nomatch q
  | a :: l, w, h => by
    unfold runB
    by_cases e : (now / 2 ^ a) % 2 = 0
    · have : pstepR now rules w a = (followN (now - now % 2 ^ a + 2 ^ a) rules true / 2 ^ a == now / 2 ^ a + 1, some (followN (now - now % 2 ^ a + 2 ^ a) rules true)) := if_pos e
      rw [this]
      cases followN (now - now % 2 ^ a + 2 ^ a) rules true / 2 ^ a == now / 2 ^ a + 1 with
      | true => rfl
      | false => exact runB_some now rules l _ (.inl rfl)
    · have : pstepR now rules w a = (false, w) := if_neg e
      rw [this]
      refine runB_some now rules l w (h.imp id fun ⟨p, hp, q⟩ => ?_)
      rcases List.mem_cons.mp hp with rfl | hp
      · exact (e q).elim
      · exact ⟨p, hp, q⟩
theorem runB_lt (now : Nat) (rules : List (Nat × Nat)) (hn : now < 16) (hr : ∀ r ∈ rules, r.2 < 16) : ∀ (l : List Nat) (w : Option Nat), (∀ p ∈ l, p < 4) → (∀ v, w = some v → v < 16) → ∀ v, (runB (pstepR now rules) l w).2 = some v → v < 16
  | [], w, _, h, v, e => h v e
  | a :: l, w, hl, h, v, e => by
    unfold runB at e
    have ha := hl a (.head _)
    by_cases ev : (now / 2 ^ a) % 2 = 0
    · have q : pstepR now rules w a = (followN (now - now % 2 ^ a + 2 ^ a) rules true / 2 ^ a == now / 2 ^ a + 1, some (followN (now - now % 2 ^ a + 2 ^ a) rules true)) := if_pos ev
      rw [q] at e
      have lt : followN (now - now % 2 ^ a + 2 ^ a) rules true < 16 := followN_lt _ _ _ (by
        have : ∀ a, a < 4 → ∀ now, now < 16 → (now / 2 ^ a) % 2 = 0 → now - now % 2 ^ a + 2 ^ a < 16 := by decide +kernel
        exact this a ha now hn ev) hr
      cases hb : followN (now - now % 2 ^ a + 2 ^ a) rules true / 2 ^ a == now / 2 ^ a + 1 with
      | true => rw [hb] at e; cases e; exact lt
      | false => rw [hb] at e; exact runB_lt now rules hn hr l _ (fun p hp => hl p (.tail _ hp)) (fun v q => by cases q; exact lt) v e
    · have q : pstepR now rules w a = (false, w) := if_neg ev
      rw [q] at e
      exact runB_lt now rules hn hr l w (fun p hp => hl p (.tail _ hp)) h v e
noncomputable def RV (r : Nat × Nat) : V := pairI (castR r)
noncomputable def ρw (base : List (Str × V)) : Option Nat → List (Str × V)
  | none => base
  | some v => (Str.ofString "wider", V.int v) :: base
theorem c_rules {X : Cx} {br : List Nat} {mode : Nat} (hb : br.length = 16) (hlt : ∀ b ∈ br, b < 16) (hm : mode < 3) : CallJ X 13 (.ref 307) [.list (br.map fun b : Nat => V.int b), .int mode] (.list ((rulesM br).map RV)) := by
  refine CallJ.fn (ns := [Str.ofString "brings", Str.ofString "mode"]) [(Str.ofString "brings", .list (br.map fun b : Nat => V.int b)), (Str.ofString "mode", .int mode)] rfl (by k_is) (by k_is) ?_ rfl (by decide) (by kernel_rfl) ?_ (by kernel_rfl) (by kernel_rfl) (by kernel_rfl) (by decide)
  · exact bind2 fun _ _ => by kernel_rfl
  · intro L
    apply ExJ.cons
    · refine StJ.own (ds := []) ?_ (.inl (by kernel_rfl)) (by kernel_rfl) (by kernel_rfl)
      apply FrJ.list
      · exact EvsJ.nil
      · decide
    apply ExJ.cons
    · apply StJ.assign (d := V.int (0 : Nat))
      · exact EvJ.int
      · exact Stores.some (.inl (by kernel_rfl)) (by kernel_rfl)
      · kernel_rfl
    apply ExJ.cons (ρ' := [(Str.ofString "now", V.int ((runB (ostep br) (List.range 16) (0, [])).2.1 : Nat)), (Str.ofString "brings", .list (br.map fun b : Nat => V.int b)), (Str.ofString "mode", .int mode)]) (ω' := some (Own.lst (Str.ofString "rules") ((rulesM br).map RV)))
    · apply StJ.for (ds := (List.range 16).map fun i : Nat => V.int (0 + (i : Int)))
      · apply WkJ.tcall (T := "range")
        · apply GlV.builtin
          · kernel_rfl
          · k_is
          · decide
          · decide +kernel
          · kernel_rfl
        · k_upd
        · exact WcJ.range1 (k := 16) (by decide +kernel) (by decide +kernel)
        · kernel_rfl
      · refine LoopJ.foldB (fun i : Nat => V.int (0 + (i : Int))) (fun (s : Nat × List (Nat × Nat)) => [(Str.ofString "now", V.int s.1), (Str.ofString "brings", .list (br.map fun b : Nat => V.int b)), (Str.ofString "mode", .int mode)]) (fun s => some (Own.lst (Str.ofString "rules") (s.2.map RV))) (ostep br)
          (fun i s => s.1 < 16 ∧ (∀ r ∈ s.2, r.2 < 16) ∧ s.2.length ≤ i) (List.range 16) 0 (fun i s turn ha hP => ?_) (0, []) ⟨by decide, (fun _ h => nomatch h), Nat.le_refl _⟩ ?_
        · have hi16 : i < 16 := by have := (List.getElem?_eq_some_iff.mp ha).1; rwa [List.length_range] at this
          obtain ⟨p1, p2, p3⟩ := hP
          have hbn : br.getD s.1 0 < 16 := by
            rw [List.getD_eq_getElem?_getD, List.getElem?_eq_getElem (by k_data)]
            exact hlt _ (List.getElem_mem _)
          have r1 : ∀ r ∈ rulesOf br s.1 s.2, r.2 < 16 := by
            unfold rulesOf
            split
            · intro r hr
              rcases List.mem_append.mp hr with q | q
              · exact p2 r q
              · cases List.mem_singleton.mp q; exact hbn
            · exact p2
          have r2 : (rulesOf br s.1 s.2).length ≤ 0 + i + 1 := by
            unfold rulesOf
            split
            · rw [List.length_append]; show s.2.length + 1 ≤ _; k_data
            · k_data
          refine ⟨?_, _, TgJ.name (Stores.some (.inl (by kernel_rfl)) (by kernel_rfl)), ?_⟩
          · unfold ostep
            split
            · exact ⟨p1, r1, r2⟩
            · refine ⟨?_, r1, r2⟩
              show (nextN s.1 (rulesOf br s.1 s.2)).getD 0 < 16
              cases hn : nextN s.1 (rulesOf br s.1 s.2) with
              | none => decide
              | some v => exact runB_lt s.1 _ p1 r1 _ none (fun p hp => List.mem_range.mp hp) (fun v q => nomatch q) v hn
          have hget : ((br.map fun b : Nat => V.int b))[((s.1 : Int)).toNat]? = some (V.int (br.getD s.1 0 : Nat)) := by
            rw [Int.toNat_natCast, List.getElem?_map, List.getD_eq_getElem?_getD, List.getElem?_eq_getElem (by k_data)]; rfl
          have evb : ∀ {env p1 p2 p3}, True → EvJ X 12 env [(Str.ofString "turn", V.int (0 + (turn : Int))), (Str.ofString "now", V.int s.1), (Str.ofString "brings", .list (br.map fun b : Nat => V.int b)), (Str.ofString "mode", .int mode)] (.Subscript (.Name (Str.ofString "brings") p1) (.Name (Str.ofString "now") p2) p3) (V.int (br.getD s.1 0 : Nat)) := fun {env p1 p2 p3} _ => by
            apply EvJ.sub
            · k_upd
            · k_upd
            · exact GetJ.list (by k_data) (by k_data) hget
            · exact fun _ _ => by with_unfolding_all rfl
          cases h15 : (s.1 == 15) with
          | true =>
            rw [show ostep br s turn = (true, (s.1, rulesOf br s.1 s.2)) from if_pos h15]
            show ExJ _ _ _ _ _ _ (.brk [(Str.ofString "now", V.int s.1), (Str.ofString "brings", .list (br.map fun b : Nat => V.int b)), (Str.ofString "mode", .int mode)] (some (Own.lst (Str.ofString "rules") ((rulesOf br s.1 s.2).map RV))))
            refine ExJ.toB (ρ₂ := (Str.ofString "turn", V.int (0 + (turn : Int))) :: [(Str.ofString "now", V.int s.1), (Str.ofString "brings", .list (br.map fun b : Nat => V.int b)), (Str.ofString "mode", .int mode)]) ?_ (by k_subL)
            apply ExJ.cons (ρ' := (Str.ofString "turn", V.int (0 + (turn : Int))) :: [(Str.ofString "now", V.int s.1), (Str.ofString "brings", .list (br.map fun b : Nat => V.int b)), (Str.ofString "mode", .int mode)]) (ω' := (some (Own.lst (Str.ofString "rules") ((rulesOf br s.1 s.2).map RV))))
            · apply StJ.ite (c := (br.getD s.1 0 != s.1))
              · apply TrJ.eq
                · apply TrJ.cmp
                  · exact evb trivial
                  · k_upd
                  · exact CmpJ.nei
                  · kernel_rfl
                · exact natCast_bne _ _
              · intro h
                rw [show rulesOf br s.1 s.2 = s.2 ++ [(s.1, br.getD s.1 0)] from if_pos h, List.map_append]
                apply ExJ.one
                apply StJ.append
                · show EvJ _ _ _ _ _ (.tup [.int s.1, .int (br.getD s.1 0 : Nat)])
                  apply EvJ.tup
                  · apply EvsJ.cons
                    · k_upd
                    · apply EvsJ.cons
                      · exact evb trivial
                      · exact EvsJ.nil
                      · kernel_rfl
                    · kernel_rfl
                  · exact Nat.le_of_ble_eq_true rfl
                · rw [List.length_map]; k_data
                · kernel_rfl
                · intro w; rfl
                · kernel_rfl
                · kernel_rfl
                · kernel_rfl
                · kernel_rfl
              · intro h
                rw [show rulesOf br s.1 s.2 = s.2 from if_neg (by rw [h]; decide)]
                exact ExJ.nil
            · apply ExJ.brk
              apply StJ.iteT
              · k_upd
              · exact (natCast_beq s.1 15).trans h15
              · exact ExJ.brk StJ.break
          | false =>
            have hne : s.1 ≠ 15 := by simpa using h15
            obtain ⟨w, hw⟩ : ∃ w, nextN s.1 (rulesOf br s.1 s.2) = some w := Option.isSome_iff_exists.mp (runB_some s.1 _ _ none (.inr (even_some s.1 p1 hne)))
            rw [show ostep br s turn = (false, (w, rulesOf br s.1 s.2)) from (if_neg (by rw [h15]; decide)).trans (by rw [hw]; rfl)]
            show ExJ _ _ _ _ _ _ (.next [(Str.ofString "now", V.int w), (Str.ofString "brings", .list (br.map fun b : Nat => V.int b)), (Str.ofString "mode", .int mode)] (some (Own.lst (Str.ofString "rules") ((rulesOf br s.1 s.2).map RV))))
            apply ExJ.cons (ρ' := (Str.ofString "turn", V.int (0 + (turn : Int))) :: [(Str.ofString "now", V.int s.1), (Str.ofString "brings", .list (br.map fun b : Nat => V.int b)), (Str.ofString "mode", .int mode)]) (ω' := (some (Own.lst (Str.ofString "rules") ((rulesOf br s.1 s.2).map RV))))
            · apply StJ.ite (c := (br.getD s.1 0 != s.1))
              · apply TrJ.eq
                · apply TrJ.cmp
                  · exact evb trivial
                  · k_upd
                  · exact CmpJ.nei
                  · kernel_rfl
                · exact natCast_bne _ _
              · intro h
                rw [show rulesOf br s.1 s.2 = s.2 ++ [(s.1, br.getD s.1 0)] from if_pos h, List.map_append]
                apply ExJ.one
                apply StJ.append
                · show EvJ _ _ _ _ _ (.tup [.int s.1, .int (br.getD s.1 0 : Nat)])
                  apply EvJ.tup
                  · apply EvsJ.cons
                    · k_upd
                    · apply EvsJ.cons
                      · exact evb trivial
                      · exact EvsJ.nil
                      · kernel_rfl
                    · kernel_rfl
                  · exact Nat.le_of_ble_eq_true rfl
                · rw [List.length_map]; k_data
                · kernel_rfl
                · intro w; rfl
                · kernel_rfl
                · kernel_rfl
                · kernel_rfl
                · kernel_rfl
              · intro h
                rw [show rulesOf br s.1 s.2 = s.2 from if_neg (by rw [h]; decide)]
                exact ExJ.nil
            apply ExJ.cons
            · apply StJ.iteF
              · k_upd
              · exact (natCast_beq s.1 15).trans h15
              · exact ExJ.nil
            apply ExJ.sub (ρ' := [(Str.ofString "now", V.int s.1), (Str.ofString "brings", .list (br.map fun b : Nat => V.int b)), (Str.ofString "mode", .int mode)])
            · k_subL
            revert r1 hw
            generalize rulesOf br s.1 s.2 = rs
            intro r1 hw
            apply ExJ.cons (ρ' := ρw [(Str.ofString "now", V.int s.1), (Str.ofString "brings", .list (br.map fun b : Nat => V.int b)), (Str.ofString "mode", .int mode)] (some w)) (ω' := some (Own.lst (Str.ofString "rules") (rs.map RV)))
            · apply StJ.for (ds := (List.range 4).map fun i : Nat => V.int (i : Int))
              · rw [show ((List.range 4).map fun i : Nat => V.int (i : Int)) = (List.range 4).map fun i : Nat => V.int (0 + (i : Int)) by simp only [Int.zero_add]]
                apply WkJ.tcall (T := "range")
                · apply GlV.builtin
                  · kernel_rfl
                  · k_is
                  · decide
                  · decide +kernel
                  · kernel_rfl
                · k_upd
                · exact WcJ.range1 (k := 4) (by decide +kernel) (by decide +kernel)
                · kernel_rfl
              · refine LoopJ.foldB (fun i : Nat => V.int (i : Int)) (ρw [(Str.ofString "now", V.int s.1), (Str.ofString "brings", .list (br.map fun b : Nat => V.int b)), (Str.ofString "mode", .int mode)]) (fun _ => some (Own.lst (Str.ofString "rules") (rs.map RV))) (pstepR s.1 rs) (fun _ _ => True) (List.range 4) 0 (fun i w p hp _ => ⟨trivial, ?_⟩) none trivial ?_
                · have hp4 : p < 4 := List.mem_range.mp (List.mem_of_getElem? hp)
                  refine ⟨_, TgJ.name (Stores.some (.inl (by kernel_rfl)) (by kernel_rfl)), ?_⟩
                  have hev : (((s.1 / 2 ^ p : Nat) : Int).fmod 2 == 0) = decide ((s.1 / 2 ^ p) % 2 = 0) := by
                    rw [Int.fmod_eq_emod_of_nonneg _ (by decide), show ((s.1 / 2 ^ p : Nat) : Int) % 2 = (((s.1 / 2 ^ p) % 2 : Nat) : Int) from rfl]
                    exact natCast_beq _ 0
                  by_cases ev : (s.1 / 2 ^ p) % 2 = 0
                  · rw [decide_eq_true ev] at hev
                    rw [show pstepR s.1 rs w p = ((followN (s.1 - s.1 % 2 ^ p + 2 ^ p) rs true) / 2 ^ p == s.1 / 2 ^ p + 1, some (followN (s.1 - s.1 % 2 ^ p + 2 ^ p) rs true)) from if_pos ev]
                    have hF : (followN (s.1 - s.1 % 2 ^ p + 2 ^ p) rs true) < 16 := followN_lt _ _ _ (by
                      have : ∀ a, a < 4 → ∀ now, now < 16 → (now / 2 ^ a) % 2 = 0 → now - now % 2 ^ a + 2 ^ a < 16 := by decide +kernel
                      exact this p hp4 s.1 p1 ev) r1
                    have earg : (s.1 : Int) - (s.1 % 2 ^ p : Nat) + 1 * 2 ^ (p : Int).toNat = ((s.1 - s.1 % 2 ^ p + 2 ^ p : Nat) : Int) := by
                      have h1 : s.1 % 2 ^ p ≤ s.1 := Nat.mod_le _ _
                      have h2 : (1 : Int) * 2 ^ (p : Int).toNat = ((2 ^ p : Nat) : Int) := by rw [Int.toNat_natCast, Int.one_mul, Int.natCast_pow]; rfl
                      rw [h2]; k_data
                    have hfol := c_follow (X := X) (want := ((s.1 - s.1 % 2 ^ p + 2 ^ p : Nat) : Int)) (rules := rs.map castR) (lesser := true)
                    rw [follow_N, List.map_map, show List.map (pairI ∘ castR) rs = rs.map RV from rfl] at hfol
                    cases hb : ((followN (s.1 - s.1 % 2 ^ p + 2 ^ p) rs true) / 2 ^ p == s.1 / 2 ^ p + 1) with
                    | true =>
                      show ExJ _ _ _ _ _ _ (.brk ((Str.ofString "wider", V.int (followN (s.1 - s.1 % 2 ^ p + 2 ^ p) rs true)) :: [(Str.ofString "now", V.int s.1), (Str.ofString "brings", .list (br.map fun b : Nat => V.int b)), (Str.ofString "mode", .int mode)]) (some (Own.lst (Str.ofString "rules") (rs.map RV))))
                      apply ExJ.sub (ρ' := (Str.ofString "place", V.int p) :: [(Str.ofString "now", V.int s.1), (Str.ofString "brings", .list (br.map fun b : Nat => V.int b)), (Str.ofString "mode", .int mode)])
                      · cases w <;> (unfold ρw; k_subL)
                      refine ExJ.toB (ρ₂ := (Str.ofString "wider", V.int (followN (s.1 - s.1 % 2 ^ p + 2 ^ p) rs true)) :: (Str.ofString "low", V.int (s.1 % 2 ^ p : Nat)) :: (Str.ofString "high", V.int (s.1 / 2 ^ p : Nat)) :: (Str.ofString "place", V.int p) :: [(Str.ofString "now", V.int s.1), (Str.ofString "brings", .list (br.map fun b : Nat => V.int b)), (Str.ofString "mode", .int mode)]) ?_ (by k_subL)
                      apply ExJ.cons
                      · apply StJ.assignT (d1 := V.int (s.1 / 2 ^ p : Nat)) (d2 := V.int (s.1 % 2 ^ p : Nat))
                        · apply EvJ.fcall
                          · apply GlV.glob
                            · kernel_rfl
                            · k_is
                            · kernel_rfl
                          · k_is
                          · k_upd
                          · exact c_cut (dm16 p hp4 s.1 p1) (by k_data) hm
                          · kernel_rfl
                        · exact Stores.some (.inl (by kernel_rfl)) (by kernel_rfl)
                        · exact Stores.some (.inl (by kernel_rfl)) (by kernel_rfl)
                        · kernel_rfl
                        · kernel_rfl
                      · apply ExJ.brk
                        apply StJ.iteT
                        · k_upd
                        · exact hev
                        · apply ExJ.cons
                          · apply StJ.assignV (d := V.int (followN (s.1 - s.1 % 2 ^ p + 2 ^ p) rs true))
                            · apply EvJ.fcall (ds := [.int (s.1 - s.1 % 2 ^ p + 2 ^ p : Nat), .list (rs.map RV), .bool true])
                              · apply GlV.glob
                                · kernel_rfl
                                · k_is
                                · kernel_rfl
                              · k_is
                              · apply EvsJ.cons
                                · refine EvJ.to (d := .int ((s.1 : Int) - (s.1 % 2 ^ p : Nat) + 1 * 2 ^ (p : Int).toNat)) ?_ (by rw [earg])
                                  k_upd
                                · k_upd
                                · kernel_rfl
                              · exact hfol.mono (by decide)
                              · kernel_rfl
                            · rfl
                            · exact Stores.some (.inl (by kernel_rfl)) (by kernel_rfl)
                            · kernel_rfl
                          · apply ExJ.brk
                            apply StJ.iteT
                            · apply TrJ.cmp
                              · apply EvJ.sub
                                · apply EvJ.fcall
                                  · apply GlV.glob
                                    · kernel_rfl
                                    · k_is
                                    · kernel_rfl
                                  · k_is
                                  · k_upd
                                  · exact c_cut (dm16 p hp4 _ hF) (by k_data) hm
                                  · kernel_rfl
                                · k_upd
                                · exact GetJ.tup (d := V.int ((followN (s.1 - s.1 % 2 ^ p + 2 ^ p) rs true) / 2 ^ p : Nat)) (by decide) (by decide) rfl
                                · exact fun _ _ => by with_unfolding_all rfl
                              · k_upd
                              · exact CmpJ.eqi
                              · kernel_rfl
                            · rw [show ((s.1 / 2 ^ p : Nat) : Int) + 1 = ((s.1 / 2 ^ p + 1 : Nat) : Int) from rfl, natCast_beq]; exact hb
                            · exact ExJ.brk StJ.break
                    | false =>
                      show ExJ _ _ _ _ _ _ (.next ((Str.ofString "wider", V.int (followN (s.1 - s.1 % 2 ^ p + 2 ^ p) rs true)) :: [(Str.ofString "now", V.int s.1), (Str.ofString "brings", .list (br.map fun b : Nat => V.int b)), (Str.ofString "mode", .int mode)]) (some (Own.lst (Str.ofString "rules") (rs.map RV))))
                      apply ExJ.sub (ρ' := (Str.ofString "place", V.int p) :: [(Str.ofString "now", V.int s.1), (Str.ofString "brings", .list (br.map fun b : Nat => V.int b)), (Str.ofString "mode", .int mode)])
                      · cases w <;> (unfold ρw; k_subL)
                      refine ExJ.to (ρ₂ := (Str.ofString "wider", V.int (followN (s.1 - s.1 % 2 ^ p + 2 ^ p) rs true)) :: (Str.ofString "low", V.int (s.1 % 2 ^ p : Nat)) :: (Str.ofString "high", V.int (s.1 / 2 ^ p : Nat)) :: (Str.ofString "place", V.int p) :: [(Str.ofString "now", V.int s.1), (Str.ofString "brings", .list (br.map fun b : Nat => V.int b)), (Str.ofString "mode", .int mode)]) ?_ (by k_subL)
                      apply ExJ.cons
                      · apply StJ.assignT (d1 := V.int (s.1 / 2 ^ p : Nat)) (d2 := V.int (s.1 % 2 ^ p : Nat))
                        · apply EvJ.fcall
                          · apply GlV.glob
                            · kernel_rfl
                            · k_is
                            · kernel_rfl
                          · k_is
                          · k_upd
                          · exact c_cut (dm16 p hp4 s.1 p1) (by k_data) hm
                          · kernel_rfl
                        · exact Stores.some (.inl (by kernel_rfl)) (by kernel_rfl)
                        · exact Stores.some (.inl (by kernel_rfl)) (by kernel_rfl)
                        · kernel_rfl
                        · kernel_rfl
                      · apply ExJ.one
                        apply StJ.iteT
                        · k_upd
                        · exact hev
                        · apply ExJ.cons
                          · apply StJ.assignV (d := V.int (followN (s.1 - s.1 % 2 ^ p + 2 ^ p) rs true))
                            · apply EvJ.fcall (ds := [.int (s.1 - s.1 % 2 ^ p + 2 ^ p : Nat), .list (rs.map RV), .bool true])
                              · apply GlV.glob
                                · kernel_rfl
                                · k_is
                                · kernel_rfl
                              · k_is
                              · apply EvsJ.cons
                                · refine EvJ.to (d := .int ((s.1 : Int) - (s.1 % 2 ^ p : Nat) + 1 * 2 ^ (p : Int).toNat)) ?_ (by rw [earg])
                                  k_upd
                                · k_upd
                                · kernel_rfl
                              · exact hfol.mono (by decide)
                              · kernel_rfl
                            · rfl
                            · exact Stores.some (.inl (by kernel_rfl)) (by kernel_rfl)
                            · kernel_rfl
                          · apply ExJ.one
                            apply StJ.iteF
                            · apply TrJ.cmp
                              · apply EvJ.sub
                                · apply EvJ.fcall
                                  · apply GlV.glob
                                    · kernel_rfl
                                    · k_is
                                    · kernel_rfl
                                  · k_is
                                  · k_upd
                                  · exact c_cut (dm16 p hp4 _ hF) (by k_data) hm
                                  · kernel_rfl
                                · k_upd
                                · exact GetJ.tup (d := V.int ((followN (s.1 - s.1 % 2 ^ p + 2 ^ p) rs true) / 2 ^ p : Nat)) (by decide) (by decide) rfl
                                · exact fun _ _ => by with_unfolding_all rfl
                              · k_upd
                              · exact CmpJ.eqi
                              · kernel_rfl
                            · rw [show ((s.1 / 2 ^ p : Nat) : Int) + 1 = ((s.1 / 2 ^ p + 1 : Nat) : Int) from rfl, natCast_beq]; exact hb
                            · exact ExJ.nil
                  · rw [decide_eq_false ev] at hev
                    rw [show pstepR s.1 rs w p = (false, w) from if_neg ev]
                    cases w with
                    | none =>
                      show ExJ _ _ _ _ _ _ (.next ([(Str.ofString "now", V.int s.1), (Str.ofString "brings", .list (br.map fun b : Nat => V.int b)), (Str.ofString "mode", .int mode)]) (some (Own.lst (Str.ofString "rules") (rs.map RV))))
                      refine ExJ.to (ρ₂ := (Str.ofString "low", V.int (s.1 % 2 ^ p : Nat)) :: (Str.ofString "high", V.int (s.1 / 2 ^ p : Nat)) :: (Str.ofString "place", V.int p) :: [(Str.ofString "now", V.int s.1), (Str.ofString "brings", .list (br.map fun b : Nat => V.int b)), (Str.ofString "mode", .int mode)]) ?_ (by k_subL)
                      show ExJ _ _ _ ((Str.ofString "place", V.int p) :: [(Str.ofString "now", V.int s.1), (Str.ofString "brings", .list (br.map fun b : Nat => V.int b)), (Str.ofString "mode", .int mode)]) _ _ _
                      apply ExJ.cons
                      · apply StJ.assignT (d1 := V.int (s.1 / 2 ^ p : Nat)) (d2 := V.int (s.1 % 2 ^ p : Nat))
                        · apply EvJ.fcall
                          · apply GlV.glob
                            · kernel_rfl
                            · k_is
                            · kernel_rfl
                          · k_is
                          · k_upd
                          · exact c_cut (dm16 p hp4 s.1 p1) (by k_data) hm
                          · kernel_rfl
                        · exact Stores.some (.inl (by kernel_rfl)) (by kernel_rfl)
                        · exact Stores.some (.inl (by kernel_rfl)) (by kernel_rfl)
                        · kernel_rfl
                        · kernel_rfl
                      · apply ExJ.one
                        apply StJ.iteF
                        · k_upd
                        · exact hev
                        · exact ExJ.nil
                    | some v =>
                      show ExJ _ _ _ _ _ _ (.next ((Str.ofString "wider", V.int v) :: [(Str.ofString "now", V.int s.1), (Str.ofString "brings", .list (br.map fun b : Nat => V.int b)), (Str.ofString "mode", .int mode)]) (some (Own.lst (Str.ofString "rules") (rs.map RV))))
                      refine ExJ.to (ρ₂ := (Str.ofString "low", V.int (s.1 % 2 ^ p : Nat)) :: (Str.ofString "high", V.int (s.1 / 2 ^ p : Nat)) :: (Str.ofString "place", V.int p) :: (Str.ofString "wider", V.int v) :: [(Str.ofString "now", V.int s.1), (Str.ofString "brings", .list (br.map fun b : Nat => V.int b)), (Str.ofString "mode", .int mode)]) ?_ (by k_subL)
                      show ExJ _ _ _ ((Str.ofString "place", V.int p) :: (Str.ofString "wider", V.int v) :: [(Str.ofString "now", V.int s.1), (Str.ofString "brings", .list (br.map fun b : Nat => V.int b)), (Str.ofString "mode", .int mode)]) _ _ _
                      apply ExJ.cons
                      · apply StJ.assignT (d1 := V.int (s.1 / 2 ^ p : Nat)) (d2 := V.int (s.1 % 2 ^ p : Nat))
                        · apply EvJ.fcall
                          · apply GlV.glob
                            · kernel_rfl
                            · k_is
                            · kernel_rfl
                          · k_is
                          · k_upd
                          · exact c_cut (dm16 p hp4 s.1 p1) (by k_data) hm
                          · kernel_rfl
                        · exact Stores.some (.inl (by kernel_rfl)) (by kernel_rfl)
                        · exact Stores.some (.inl (by kernel_rfl)) (by kernel_rfl)
                        · kernel_rfl
                        · kernel_rfl
                      · apply ExJ.one
                        apply StJ.iteF
                        · k_upd
                        · exact hev
                        · exact ExJ.nil
                · unfold nextN at hw
                  generalize runB (pstepR s.1 rs) (List.range 4) none = r at hw
                  obtain ⟨b', w'⟩ := r
                  cases hw
                  cases b' with
                  | true => rfl
                  | false => exact fun _ => ExJ.nil
              · intro x; rfl
            · refine ExJ.to (ρ₂ := (Str.ofString "now", V.int w) :: (Str.ofString "wider", V.int w) :: [(Str.ofString "now", V.int s.1), (Str.ofString "brings", .list (br.map fun b : Nat => V.int b)), (Str.ofString "mode", .int mode)]) ?_ (by k_subL)
              apply ExJ.one
              unfold ρw
              apply StJ.assign
              · k_upd
              · exact Stores.some (.inl (by kernel_rfl)) (by kernel_rfl)
              · kernel_rfl
        · unfold rulesM
          generalize runB (ostep br) (List.range 16) (0, []) = r
          obtain ⟨br', s⟩ := r
          cases br' with
          | true => rfl
          | false => exact fun _ => ExJ.nil
      · intro x; rfl
    apply ExJ.freeze
    apply ExJ.ret
    apply StJ.ret
    k_upd
end
section
noncomputable abbrev sub (a b : Nat) : Prop := a &&& b = a
theorem sub_refl (a : Nat) : sub a a := Nat.and_self a
theorem sub_trans {a b c : Nat} (h : sub a b) (k : sub b c) : sub a c := by
  unfold sub at *; rw [← h, Nat.and_assoc, k]
theorem sub_anti {a b : Nat} (h : sub a b) (k : sub b a) : a = b := by
  unfold sub at *; rw [← h, Nat.and_comm, k]
theorem sub_or_l (a b : Nat) : sub a (a ||| b) := by
  unfold sub; apply Nat.eq_of_testBit_eq; intro i; simp; exact .inl
theorem sub_or {a b c : Nat} (h : sub a c) (k : sub b c) : sub (a ||| b) c := by
  unfold sub at *; rw [Nat.and_or_distrib_right, h, k]
theorem sub_or_r (a b : Nat) : sub b (a ||| b) := by rw [Nat.or_comm]; exact sub_or_l b a
theorem sub_le {a b : Nat} (h : sub a b) : a ≤ b := by rw [← h]; exact Nat.and_le_right
theorem or_lt {a b : Nat} (h : a < 16) (k : b < 16) : a ||| b < 16 := Nat.or_lt_two_pow (n := 4) h k
noncomputable def okR (lesser : Bool) (w : Nat) (r : Nat × Nat) : Prop := sub r.1 w → (lesser = false ∨ r.1 ≠ w) → sub r.2 w
theorem fstepN_ok {lesser : Bool} {w : Nat} {r : Nat × Nat} : sub w (fstepN lesser w r) := by
  unfold fstepN; split
  · exact sub_or_l ..
  · exact sub_refl _
theorem fstepN_fix {lesser : Bool} {w : Nat} {r : Nat × Nat} (h : fstepN lesser w r = w) : okR lesser w r := by
  intro a b
  unfold fstepN at h
  split at h
  · rw [← h]; exact sub_or_r ..
  · rename_i c
    refine (c ?_).elim
    unfold sub at a
    rw [a]
    rcases b with rfl | b
    · simp
    · simp [b]
theorem fold_sub {lesser : Bool} : ∀ (rs : List (Nat × Nat)) (w : Nat), sub w (rs.foldl (fstepN lesser) w)
  | [], w => sub_refl w
  | r :: rs, w => sub_trans fstepN_ok (fold_sub rs _)
theorem fold_lt {lesser : Bool} : ∀ (rs : List (Nat × Nat)) (w : Nat), (∀ r ∈ rs, r.2 < 16) → w < 16 → rs.foldl (fstepN lesser) w < 16
  | [], w, _, h => h
  | r :: rs, w, k, h => by
    refine fold_lt rs _ (fun r q => k r (.tail _ q)) ?_
    unfold fstepN; split
    · exact or_lt h (k r (.head _))
    · exact h
theorem fold_fix {lesser : Bool} : ∀ (rs : List (Nat × Nat)) (w : Nat), rs.foldl (fstepN lesser) w = w → ∀ r ∈ rs, okR lesser w r
  | r :: rs, w, h, q, hq => by
    rw [List.foldl_cons] at h
    have e : fstepN lesser w r = w := sub_anti (by conv => rhs; rw [← h]
                                                   exact fold_sub rs _) fstepN_ok
    rw [e] at h
    rcases List.mem_cons.mp hq with rfl | hq
    · exact fstepN_fix e
    · exact fold_fix rs w h q hq
theorem fold_below {lesser : Bool} {Y : Nat} : ∀ (rs : List (Nat × Nat)) (w : Nat), (∀ r ∈ rs, ∀ w, sub w Y → sub r.1 w → (lesser = false ∨ r.1 ≠ w) → sub r.2 Y) → sub w Y → sub (rs.foldl (fstepN lesser) w) Y
  | [], _, _, h => h
  | r :: rs, w, k, h => by
    refine fold_below rs _ (fun r q => k r (.tail _ q)) ?_
    unfold fstepN; split
    · rename_i c
      simp only [Bool.and_eq_true, beq_iff_eq, Bool.or_eq_true, bne_iff_ne, Bool.not_eq_true'] at c
      exact sub_or h (k r (.head _) w h c.1 c.2.symm)
    · exact h
noncomputable def turns (lesser : Bool) (rs : List (Nat × Nat)) (w : Nat) : Nat → Nat
  | 0 => w
  | k + 1 => turns lesser rs (rs.foldl (fstepN lesser) w) k
theorem followN_turns (w : Nat) (rs : List (Nat × Nat)) (lesser : Bool) : followN w rs lesser = turns lesser rs w 4 := rfl
theorem turns_sub {lesser : Bool} {rs : List (Nat × Nat)} : ∀ (k w : Nat), sub w (turns lesser rs w k)
  | 0, w => sub_refl w
  | k + 1, w => sub_trans (fold_sub rs w) (turns_sub k _)
theorem turns_below {lesser : Bool} {rs : List (Nat × Nat)} {Y : Nat} (h : ∀ r ∈ rs, ∀ w, sub w Y → sub r.1 w → (lesser = false ∨ r.1 ≠ w) → sub r.2 Y) : ∀ (k w : Nat), sub w Y → sub (turns lesser rs w k) Y
  | 0, w, q => q
  | k + 1, w, q => turns_below h k _ (fold_below rs w h q)
theorem turns_lt {lesser : Bool} {rs : List (Nat × Nat)} (hr : ∀ r ∈ rs, r.2 < 16) : ∀ (k w : Nat), w < 16 → turns lesser rs w k < 16
  | 0, w, q => q
  | k + 1, w, q => turns_lt hr k _ (fold_lt rs w hr q)
theorem turns_fix {lesser : Bool} {rs : List (Nat × Nat)} {w : Nat} (h : rs.foldl (fstepN lesser) w = w) : ∀ k, turns lesser rs w k = w
  | 0 => rfl
  | k + 1 => by rw [turns, h]; exact turns_fix h k
noncomputable def pc (w : Nat) : Nat := w % 2 + w / 2 % 2 + w / 4 % 2 + w / 8 % 2
theorem pc_lt : ∀ b, b < 16 → ∀ a, a < 16 → sub a b → a ≠ b → pc a < pc b := by decide +kernel
theorem pc_15 : ∀ a, a < 16 → 4 ≤ pc a → a = 15 := by decide +kernel
theorem sub_15 : ∀ a, a < 16 → sub a 15 := by decide +kernel
theorem turns_end {lesser : Bool} {rs : List (Nat × Nat)} (hr : ∀ r ∈ rs, r.2 < 16) : ∀ (k w : Nat), w < 16 → (rs.foldl (fstepN lesser) (turns lesser rs w k) = turns lesser rs w k) ∨ pc w + k ≤ pc (turns lesser rs w k)
  | 0, w, h => .inr (Nat.le_refl _)
  | k + 1, w, h => by
    by_cases e : rs.foldl (fstepN lesser) w = w
    · rw [turns_fix e]; exact .inl e
    · have := pc_lt _ (fold_lt rs w hr h) w h (fold_sub rs w) (fun q => e q.symm)
      refine (turns_end hr k _ (fold_lt rs w hr h)).imp id fun q => ?_
      show pc w + (k + 1) ≤ pc (turns lesser rs (rs.foldl (fstepN lesser) w) k)
      k_data
theorem follow_fix {lesser : Bool} {rs : List (Nat × Nat)} {w : Nat} (hr : ∀ r ∈ rs, r.2 < 16) (h : w < 16) : ∀ r ∈ rs, okR lesser (followN w rs lesser) r := by
  rw [followN_turns]
  rcases turns_end (lesser := lesser) hr 4 w h with e | e
  · exact fold_fix rs _ e
  · intro r hr' _ _
    rw [pc_15 _ (turns_lt hr 4 w h) (by k_data)]
    exact sub_15 _ (hr r hr')
structure Clo (c : Nat → Nat) : Prop where
  lt : ∀ w, w < 16 → c w < 16
  ext : ∀ w, w < 16 → sub w (c w)
  mono : ∀ a b, a < 16 → b < 16 → sub a b → sub (c a) (c b)
  idem : ∀ w, w < 16 → c (c w) = c w
noncomputable def DR (R : List (Nat × Nat)) (q : Nat) : Prop := ∀ r ∈ R, okR true q r
structure RI (c : Nat → Nat) (now : Nat) (R : List (Nat × Nat)) : Prop where
  lt : now < 16
  each : ∀ r ∈ R, r.1 < now ∧ r.2 = c r.1
  sorted : R.Pairwise fun a b => a.1 < b.1
  all : ∀ Z, Z < now → DR R Z → c Z ≠ Z → (Z, c Z) ∈ R
section
variable {c : Nat → Nat} (hc : Clo c)
include hc
theorem RI.rlt {now : Nat} {R : List (Nat × Nat)} (h : RI c now R) : ∀ r ∈ R, r.2 < 16 := fun r q => by
  obtain ⟨a, b⟩ := h.each r q
  have := h.lt
  rw [b]; exact hc.lt _ (by k_data)
theorem getD_cm (now : Nat) (h : now < 16) : ((List.range 16).map c).getD now 0 = c now := by
  rw [List.getD_eq_getElem?_getD, List.getElem?_map, List.getElem?_range h]; rfl
structure RJ (c : Nat → Nat) (now : Nat) (R : List (Nat × Nat)) : Prop where
  lt : now < 16
  each : ∀ r ∈ R, r.1 ≤ now ∧ r.2 = c r.1
  sorted : R.Pairwise fun a b => a.1 < b.1
  all : ∀ Z, Z ≤ now → DR R Z → c Z ≠ Z → (Z, c Z) ∈ R
theorem RI.told {now : Nat} {R : List (Nat × Nat)} (h : RI c now R) : RJ c now (rulesOf ((List.range 16).map c) now R) := by
  unfold rulesOf
  rw [getD_cm hc now h.lt]
  by_cases e : (c now != now) = true
  · rw [if_pos e]
    refine ⟨h.lt, fun r q => ?_, ?_, fun Z hz d n => ?_⟩
    · rcases List.mem_append.mp q with q | q
      · obtain ⟨a, b⟩ := h.each r q; exact ⟨by k_data, b⟩
      · cases List.mem_singleton.mp q; exact ⟨Nat.le_refl _, rfl⟩
    · refine List.pairwise_append.mpr ⟨h.sorted, List.pairwise_singleton .., fun a ha b hb => ?_⟩
      cases List.mem_singleton.mp hb; exact (h.each a ha).1
    · by_cases z : Z = now
      · subst z; exact List.mem_append.mpr (.inr (.head _))
      · exact List.mem_append.mpr (.inl (h.all Z (by k_data) (fun r q => d r (List.mem_append.mpr (.inl q))) n))
  · rw [if_neg e]
    refine ⟨h.lt, fun r q => ?_, h.sorted, fun Z hz d n => ?_⟩
    · obtain ⟨a, b⟩ := h.each r q; exact ⟨by k_data, b⟩
    · by_cases z : Z = now
      · subst z; exact (e (by simpa using n)).elim
      · exact h.all Z (by k_data) d n
theorem RJ.rlt {now : Nat} {R : List (Nat × Nat)} (h : RJ c now R) : ∀ r ∈ R, r.2 < 16 := fun r q => by
  obtain ⟨a, b⟩ := h.each r q
  have := h.lt
  rw [b]; exact hc.lt _ (by k_data)
omit hc in
theorem X_sub1 : ∀ p, p < 4 → ∀ now, now < 16 → now / 2 ^ p % 2 = 0 → now - now % 2 ^ p + 2 ^ p < 16 ∧ (now - now % 2 ^ p + 2 ^ p) / 2 ^ p = now / 2 ^ p + 1 ∧ now < now - now % 2 ^ p + 2 ^ p := by decide +kernel
omit hc in
theorem X_sub2 : ∀ p, p < 4 → ∀ now, now < 16 → ∀ Z, Z < 16 → now / 2 ^ p % 2 = 0 → Z / 2 ^ p = now / 2 ^ p + 1 → sub (now - now % 2 ^ p + 2 ^ p) Z := by decide +kernel
omit hc in
theorem DR.below {R : List (Nat × Nat)} {X Z : Nat} (d : DR R Z) (h : sub X Z) : sub (followN X R true) Z := by
  rw [followN_turns]
  refine turns_below (fun r hr w a b e => d r hr (sub_trans b a) (.inr fun q => ?_)) 4 X h
  rcases e with e | e
  · cases e
  · exact e (sub_anti b (q ▸ a))
theorem next_ok {now : Nat} {R : List (Nat × Nat)} (h : RJ c now R) (h15 : now ≠ 15) : ∀ (k p : Nat) (w : Option Nat), p + k = 4 → (∀ Z, Z < 16 → DR R Z → now < Z → Z / 2 ^ p ≠ now / 2 ^ p) →
    ∃ Y, (runB (pstepR now R) (List.range' p k) w).2 = some Y ∧ Y < 16 ∧ now < Y ∧ ∀ Z, Z < 16 → DR R Z → now < Z → Y ≤ Z
  | 0, p, w, e, q => by
    have hp : p = 4 := e
    subst hp
    have lt := h.lt
    refine (q 15 (by decide) (fun r hr _ _ => sub_15 _ (h.rlt hc r hr)) (by k_data) ?_).elim
    show 15 / 16 = now / 16
    k_data
  | k + 1, p, w, e, q => by
    have hp : p < 4 := by k_data
    have lt := h.lt
    have nz : ∀ Z, Z < 16 → DR R Z → now < Z → now / 2 ^ p < Z / 2 ^ p := fun Z a b z => Nat.lt_of_le_of_ne (Nat.div_le_div_right (Nat.le_of_lt z)) fun y => q Z a b z y.symm
    have hs : ∀ Z, Z / 2 ^ (p + 1) = Z / 2 ^ p / 2 := fun Z => by rw [Nat.pow_succ, Nat.div_div_eq_div_mul]
    rw [List.range'_succ]
    unfold runB
    by_cases ev : (now / 2 ^ p) % 2 = 0
    · have he : pstepR now R w p = (followN (now - now % 2 ^ p + 2 ^ p) R true / 2 ^ p == now / 2 ^ p + 1, some (followN (now - now % 2 ^ p + 2 ^ p) R true)) := if_pos ev
      obtain ⟨x1, x2, x3⟩ := X_sub1 p hp now lt ev
      have x4 := fun Z (h : Z < 16) => X_sub2 p hp now lt Z h ev
      rw [he]
      have y0 : sub (now - now % 2 ^ p + 2 ^ p) (followN (now - now % 2 ^ p + 2 ^ p) R true) := turns_sub 4 _
      have y1 : followN (now - now % 2 ^ p + 2 ^ p) R true < 16 := turns_lt (h.rlt hc) 4 _ x1
      have y2 := fun (Z : Nat) (hz : Z < 16) (d : DR R Z) (e : Z / 2 ^ p = now / 2 ^ p + 1) => sub_le (DR.below d (x4 Z hz e))
      have y3 := sub_le y0
      generalize followN (now - now % 2 ^ p + 2 ^ p) R true = Y at y0 y1 y2 y3 ⊢
      cases hb : Y / 2 ^ p == now / 2 ^ p + 1 with
      | true =>
        have hb := eq_of_beq hb
        refine ⟨Y, rfl, y1, by k_data, fun Z a b z => ?_⟩
        have k1 := nz Z a b z
        by_cases f : Z / 2 ^ p = now / 2 ^ p + 1
        · exact y2 Z a b f
        · refine Nat.le_of_lt (Nat.lt_of_not_le fun l => ?_)
          have := Nat.div_le_div_right (c := 2 ^ p) l
          k_data
      | false =>
        refine next_ok h h15 k (p + 1) _ (by k_data) fun Z a b z f => ?_
        have k1 := nz Z a b z
        rw [hs, hs] at f
        have f' : Z / 2 ^ p = now / 2 ^ p + 1 := by k_data
        have k2 := Nat.div_le_div_right (c := 2 ^ p) (y2 Z a b f')
        have k3 := Nat.div_le_div_right (c := 2 ^ p) y3
        rw [x2] at k3
        have : Y / 2 ^ p = now / 2 ^ p + 1 := by k_data
        rw [this] at hb
        simp at hb
    · have he : pstepR now R w p = (false, w) := if_neg ev
      rw [he]
      refine next_ok h h15 k (p + 1) _ (by k_data) fun Z a b z f => ?_
      have k1 := nz Z a b z
      rw [hs, hs] at f
      k_data
theorem outer_ok : ∀ (l : List Nat) (now : Nat) (R : List (Nat × Nat)), RI c now R → 15 < now + l.length → ∃ R', (runB (ostep ((List.range 16).map c)) l (now, R)).2.2 = R' ∧ RJ c 15 R'
  | [], now, R, h, e => by have := h.lt; exact absurd e (by simp; k_data)
  | a :: l, now, R, h, e => by
    unfold runB
    have hj := h.told hc
    by_cases h15 : now = 15
    · subst h15
      exact ⟨_, rfl, hj⟩
    · have he : ostep ((List.range 16).map c) (now, R) a = (false, ((nextN now (rulesOf ((List.range 16).map c) now R)).getD 0, rulesOf ((List.range 16).map c) now R)) := if_neg (by simpa using h15)
      rw [he]
      generalize rulesOf ((List.range 16).map c) now R = R1 at hj ⊢
      obtain ⟨Y, e1, e2, e3, e4⟩ := next_ok hc hj h15 4 0 none rfl fun Z _ _ z => by rw [Nat.pow_zero, Nat.div_one, Nat.div_one]; k_data
      have e1 : nextN now R1 = some Y := e1
      rw [e1]
      refine outer_ok l Y R1 ⟨e2, fun r q => ?_, hj.sorted, fun Z hz d n => ?_⟩ ?_
      · obtain ⟨a, b⟩ := hj.each r q; exact ⟨by k_data, b⟩
      · by_cases z : now < Z
        · have := e4 Z (by k_data) d z; k_data
        · exact hj.all Z (by k_data) d n
      · rw [List.length_cons] at e; k_data
theorem rules_RJ : RJ c 15 (rulesM ((List.range 16).map c)) := by
  obtain ⟨R', e, h⟩ := outer_ok hc (List.range 16) 0 [] { lt := by decide, each := (fun _ q => nomatch q), sorted := List.Pairwise.nil, all := (fun _ q => nomatch q) } (by decide)
  rw [rulesM, e]; exact h
omit hc in
theorem sorted_filter : ∀ (n k : Nat) (l : List Nat), l.Pairwise (· < ·) → (∀ x ∈ l, k ≤ x ∧ x < k + n) → l = (List.range' k n).filter fun w => l.any fun x => w == x
  | 0, k, l, h, m => by
    cases l with
    | nil => rfl
    | cons a l => have := m a (.head _); k_data
  | n + 1, k, l, h, m => by
    rw [List.range'_succ]
    cases l with
    | nil => simp
    | cons a l =>
      have ha := m a (.head _)
      obtain ⟨h1, h2⟩ := List.pairwise_cons.mp h
      by_cases e : k = a
      · subst e
        rw [List.filter_cons_of_pos (by simp)]
        refine congrArg (k :: ·) ?_
        refine (sorted_filter n (k + 1) l h2 fun x hx => ?_).trans (List.filter_congr fun w hw => ?_)
        · have := h1 x hx; have := m x (.tail _ hx); k_data
        · rw [List.any_cons]
          have := (List.mem_range'_1.mp hw).1
          rw [show (w == k) = false from beq_eq_false_iff_ne.mpr (by k_data)]; rfl
      · have nk : ∀ x ∈ a :: l, k ≠ x := fun x hx => by
          rcases List.mem_cons.mp hx with rfl | hx
          · exact e
          · have := h1 x hx; k_data
        rw [List.filter_cons_of_neg (by rw [List.any_eq_true]; rintro ⟨x, hx, q⟩; exact nk x hx (eq_of_beq q))]
        exact sorted_filter n (k + 1) (a :: l) h fun x hx => by have := nk x hx; have := m x hx; k_data
theorem rules_lefts : (rulesM ((List.range 16).map c)).map (·.1) = (List.range 16).filter fun w => ((rulesM ((List.range 16).map c)).map (·.1)).any fun x => w == x := by
  have h := rules_RJ hc
  rw [List.range_eq_range']
  refine sorted_filter 16 0 _ (List.pairwise_map.mpr h.sorted) fun x hx => ?_
  obtain ⟨r, hr, rfl⟩ := List.mem_map.mp hx
  have := (h.each r hr).1; k_data
theorem rules_len : (rulesM ((List.range 16).map c)).length ≤ 16 := by
  have h := rules_lefts hc
  have := congrArg List.length h
  rw [List.length_map] at this
  rw [this]
  exact Nat.le_trans (List.length_filter_le ..) (by decide)
theorem rules_follow (w : Nat) (hw : w < 16) : followN w (rulesM ((List.range 16).map c)) false = c w := by
  have h := rules_RJ hc
  generalize rulesM ((List.range 16).map c) = R at h ⊢
  have hr := h.rlt hc
  have f1 := follow_fix (lesser := false) hr hw
  have f2 : sub w (followN w R false) := turns_sub 4 w
  have f3 : followN w R false < 16 := turns_lt hr 4 w hw
  have f4 : sub (followN w R false) (c w) := by
    refine turns_below (fun r q x a b _ => ?_) 4 w (hc.ext w hw)
    obtain ⟨r1, r2⟩ := h.each r q
    rw [r2, ← hc.idem w hw]
    exact hc.mono _ _ (by k_data) (hc.lt w hw) (sub_trans b a)
  generalize followN w R false = X at f1 f2 f3 f4 ⊢
  have f5 : c X = X := by
    by_cases e : c X = X
    · exact e
    · have := h.all X (by k_data) (fun r q a _ => f1 r q a (.inl rfl)) e
      exact sub_anti (f1 _ this (sub_refl X) (.inl rfl)) (hc.ext X f3)
  refine sub_anti f4 ?_
  rw [← f5]
  exact hc.mono _ _ hw f3 f2
end
end
section
noncomputable def pvGo (val b : Int) : List Int → Option (Int × List Int)
  | [] => if (Builtin.bitAnd b 64 != 0) = true then none else some (val, [])
  | c :: r => if (Builtin.bitAnd b 64 != 0) = true then (if val.natAbs < 18446744073709551616 then pvGo (Builtin.bitOr (val * 2 ^ (6 : Int).toNat) (Builtin.bitAnd c 63)) c r else none) else some (val, c :: r)
noncomputable def pv : List Int → Option (Int × List Int)
  | [] => none
  | b :: r => pvGo (Builtin.bitAnd b 63) b r
noncomputable def pvStep (s : Int × Int × List Int) : Option (Int × Int × List Int) :=
  if (Builtin.bitAnd s.2.1 64 != 0) = true then (match s.2.2 with | [] => none | c :: r => some (Builtin.bitOr (s.1 * 2 ^ (6 : Int).toNat) (Builtin.bitAnd c 63), c, r)) else none
theorem runW_none {σ : Type} {step : σ → Option σ} {s : σ} (h : step s = none) : ∀ m, runW step m s = some s
  | 0 => by unfold runW; rw [h]
  | m + 1 => by unfold runW; rw [h]
theorem runW_some {σ : Type} {step : σ → Option σ} {s s' : σ} (h : step s = some s') (m : Nat) : runW step (m + 1) s = runW step m s' := by
  rw [runW, h]
theorem pv_run : ∀ (rest : List Int) (val b v : Int) (r' : List Int), pvGo val b rest = some (v, r') → ∃ b', runW pvStep rest.length (val, b, rest) = some (v, b', r')
  | [], val, b, v, r', h => by
    unfold pvGo at h
    split at h
    · cases h
    · rename_i hc; cases h
      exact ⟨b, runW_none (show pvStep (val, b, []) = none from if_neg hc) _⟩
  | c :: r, val, b, v, r', h => by
    unfold pvGo at h
    split at h
    · rename_i hc
      split at h
      · obtain ⟨b', e⟩ := pv_run r _ _ v r' h
        refine ⟨b', ?_⟩
        exact (runW_some (step := pvStep) (s := (val, b, c :: r)) (if_pos hc) r.length).trans e
      · cases h
    · rename_i hc; cases h
      exact ⟨b, runW_none (show pvStep (val, b, c :: r) = none from if_neg hc) _⟩
theorem c_varint {X : Cx} {it : Addr} {l rem : List Int} {v : Int} (h : pv l = some (v, rem)) : CallG X 2 (gR it) l (.raw (.ref 95) []) [.raw (.ref it) []] rem (.int v) := by
  cases l with
  | nil => cases h
  | cons b0 rest =>
  refine CallG.fn (ns := [Str.ofString "iterator"]) (out := .retG (.int v) (gR it) rem) [(Str.ofString "iterator", .raw (.ref it) [])] rfl (by k_is) (by k_is) ?_ rfl (by decide) (by kernel_rfl) (by kernel_rfl) ?_ ⟨rfl, rfl, rfl⟩ rfl (by kernel_rfl) (by kernel_rfl) (by kernel_rfl)
  · exact bind1 fun _ => by kernel_rfl
  · intro L
    obtain ⟨b', hrun⟩ := pv_run rest _ b0 v rem h
    apply ExJ.cons
    · apply StJ.assignG (y := rest) (d := V.int b0)
      · apply EvG.bcall (id := "next")
        · apply GlV.builtin
          · kernel_rfl
          · k_is
          · decide
          · decide +kernel
          · kernel_rfl
        · k_upd
        · exact CallG.next
        · kernel_rfl
      · exact storesGh (.inl (by kernel_rfl))
      · kernel_rfl
    apply ExJ.cons
    · apply StJ.assign (d := V.int (Builtin.bitAnd b0 63))
      · k_upd
      · exact storesGh (.inl (by kernel_rfl))
      · kernel_rfl
    apply ExJ.sub (ρ' := [(Str.ofString "b", V.int b0), (Str.ofString "val", V.int (Builtin.bitAnd b0 63)), (Str.ofString "iterator", .raw (.ref it) [])])
    · k_subL
    apply ExJ.cons
    · refine StJ.while (m := rest.length) (WhJ.iter (fun (s : Int × Int × List Int) => [(Str.ofString "b", V.int s.2.1), (Str.ofString "val", V.int s.1), (Str.ofString "iterator", .raw (.ref it) [])]) (fun s => some (.gh (gR it) s.2.2)) pvStep (fun s => (pvGo s.1 s.2.1 s.2.2).isSome = true) (fun s hs => ?_) rest.length (Builtin.bitAnd b0 63, b0, rest) (v, b', rem) ?_ hrun)
      · obtain ⟨val, b, rs⟩ := s
        cases hc : (Builtin.bitAnd b 64 != 0) with
        | false =>
          rw [show pvStep (val, b, rs) = none from if_neg (by rw [hc]; decide)]
          apply TrJ.eq
          · k_upd
          · exact hc
        | true =>
          cases rs with
          | nil =>
            have hs' : (pvGo val b []).isSome = true := hs
            unfold pvGo at hs'
            rw [if_pos hc] at hs'; cases hs'
          | cons c r =>
            have hs' : (pvGo val b (c :: r)).isSome = true := hs
            unfold pvGo at hs'
            rw [if_pos hc] at hs'
            split at hs'
            · rename_i hv
              rw [show pvStep (val, b, c :: r) = some (Builtin.bitOr (val * 2 ^ (6 : Int).toNat) (Builtin.bitAnd c 63), c, r) from if_pos hc]
              refine ⟨hs', ?_, ?_⟩
              · apply TrJ.eq
                · k_upd
                · exact hc
              · refine ExJ.to (ρ₂ := (Str.ofString "val", V.int (Builtin.bitOr (val * 2 ^ (6 : Int).toNat) (Builtin.bitAnd c 63))) :: (Str.ofString "b", V.int c) :: (Str.ofString "val", V.int (val * 2 ^ (6 : Int).toNat)) :: [(Str.ofString "b", V.int b), (Str.ofString "val", V.int val), (Str.ofString "iterator", .raw (.ref it) [])]) ?_ (by k_subL)
                apply ExJ.cons
                · apply StJ.aug (d := V.int 6) (y := V.int val)
                  · apply Lk.lk; k_memK
                  · k_upd
                  · exact InJ.shl (by decide) (by decide) hv
                  · exact storesGh (.inl (by kernel_rfl))
                  · kernel_rfl
                apply ExJ.cons
                · apply StJ.assignG (g := gR it) (y := r) (d := V.int c)
                  · apply EvG.bcall (id := "next")
                    · apply GlV.builtin
                      · kernel_rfl
                      · k_is
                      · decide
                      · decide +kernel
                      · kernel_rfl
                    · k_upd
                    · exact CallG.next
                    · kernel_rfl
                  · exact storesGh (.inl (by kernel_rfl))
                  · kernel_rfl
                · apply ExJ.one
                  apply StJ.aug (d := V.int (Builtin.bitAnd c 63)) (y := V.int (val * 2 ^ (6 : Int).toNat))
                  · apply Lk.lk; k_memK
                  · k_upd
                  · exact InJ.or
                  · exact storesGh (.inl (by kernel_rfl))
                  · kernel_rfl
            · cases hs'
      · show (pvGo _ _ _).isSome = true
        have h' : pvGo (Builtin.bitAnd b0 63) b0 rest = some (v, rem) := h
        rw [h']; rfl
    · apply ExJ.retG
      apply StJ.retG
      k_upd
end
section
section
variable {prog : Program} {w : World} {A : Around} {E : Value → Shared → Prop} {s : Shared} {it l : Addr} {i : Nat} {items : Array Value}
theorem nextStop {Q : Value → Shared → Prop} (hh : A.handled = none) (hit : s.heap.IsListIter it l i) (hl : s.heap.IsList l items) (hx : items[i]? = none)
    (hE : ∀ h₁ h₂ e, Heap.SameBut it s.heap h₁ → Lv h₁ it → Heap.MadeExcOf h₁ h₂ e (.type "StopIteration") [] → E (.ref e) { s with heap := h₂ }) : wpAny (model prog w) A (call (.builtin "next") [.ref it]) Q E s := by
  refine call_function_entry (by decide +kernel) (by decide +kernel) kdk_entry_next (kdk_args_next _) ?_
  unfold Builtin.«next»
  refine wpAny_bind (m := someArgs "next" 1 2 _) (wpAny_of_eq (a := [Value.ref it]) (by first | rfl | kernel_rfl!) ?_)
  dsimp only
  refine wpAny_bind (wpAny_specialOf (name := Str.ofString "__next__") hit.typeIs slot_listiter_next.lookup ?_)
  refine wpAny_ite_split (fun hab => absurd hab (by decide)) (fun _ => ?_)
  obtain ⟨o, ho, hc, hd⟩ := id hit
  obtain ⟨ol, hol, _, nl, hdl⟩ := hl
  refine wpAny_bind (wpAny_callSpecial?_slot (name := Str.ofString "__next__") hit.typeIs slot_listiter_next
    (wpAny_call_entry slot_listiter_next hit.typeIs entry_listiter_next ?_ (args_listiter_next _)))
  show wpAny _ _ (field (.ref it) 0 >>= _) _ _ s
  refine wpAny_bind (wpAny_field ho hd (x := .ref l) rfl ?_)
  show wpAny _ _ (if (Value.ref l == Value.none) = true then _ else _) _ _ s
  rw [if_neg (show ¬ ((Value.ref l == Value.none) = true) from Bool.false_ne_true)]
  show wpAny _ _ (field (.ref it) 1 >>= _) _ _ s
  refine wpAny_bind (wpAny_field ho hd (x := .int i 0) rfl ?_)
  show wpAny _ _ (seqItems? (.ref l) >>= _) _ _ s
  refine wpAny_bind (wpAny_seqItems hol hdl ?_)
  simp only [Int.toNat_natCast, hx]
  refine wpAny_bind (wpAny_rule (wpAny_bind (wpAny_setField ho hd (by simp) ?_)))
  show wpAny _ _ (newExc (.type "StopIteration") [] >>= _) _ _ _
  refine wpAny_bind ?_
  simp only [newExc, newTuple]
  refine wpAny_bind (wpAny_newObj_type ?_ (by size_fits))
  refine wpAny_bind (m := firstArgMember _ _) (wpAny_of_eq (a := Value.none) (by first | rfl | (simp only [firstArgMember]; rfl)) ?_)
  refine wpAny_newObj_type ?_ (by size_fits)
  simp only [raiseNew]
  refine wpAny_bind (wpAny_handled ?_)
  rw [show A.in1.in1.handled = none from hh]
  refine wpAny_bind (wpAny_pure (wpAny_throw ?_))
  have nf := Obj.isFreed_of_fields (Obj.data_mapFields hd (·.setIfInBounds 0 .none))
  refine hE (s.heap.update it (Obj.mapFields (·.setIfInBounds 0 .none))) _ _ (Heap.SameBut.update ..) ⟨⟨_, Heap.get?_update_self _ ho nf⟩, .at (Heap.get?_update_self _ ho nf) (Obj.data_mapFields hd _) (y := .int i 0) rfl fun _ _ q => nomatch q⟩ ⟨fun b o e => Heap.get?_push_of_some _ (Heap.get?_push_of_some _ e), ?_, (s.heap.update it (Obj.mapFields (·.setIfInBounds 0 .none))).objs.size, ?_, Heap.get?_none_of_le (Nat.le_refl _), ?_⟩
  · exact Heap.get?_none_of_le (by rw [Heap.size_push]; exact Nat.le_succ _)
  · exact Heap.get?_push_size _ rfl
  · exact Heap.get?_push_of_some _ (Heap.get?_push_size _ rfl)
end
section
variable {X : Cx} {n : Nat} {env : Env} {ρ : List (Str × V)} {ω : Option Own}
structure RaJ (X : Cx) (n : Nat) (env : Env) (ρ : List (Str × V)) (ω : Option Own) (it : Addr) (ss : List Stmt) : Prop where
  run : ∀ (A : Around) (E : Value → Shared → Prop) (s : Shared) (hb : Heap) (av0 : Addr → Prop) (oa : Option Addr), Bud n A → Inv X hb av0 env ρ ω oa s.heap → PassesOwn (MX X) A env E →
    (∀ s₁ h₁ h₂ e ρ' ω' oa', Same env oa s s₁ → Inv X hb av0 env ρ' ω' oa' s₁.heap → Lv s₁.heap it → Heap.SameBut it s₁.heap h₁ → Lv h₁ it → Heap.MadeExcOf h₁ h₂ e (.type "StopIteration") [] → E (.ref e) { s₁ with heap := h₂ }) →
    wpAny (MX X) A (execs ss env) (fun _ _ => False) E s
theorem RaJ.cons {it : Addr} {st : Stmt} {ss : List Stmt} {ρ' : List (Str × V)} {ω' : Option Own} (h1 : StJ X n env ρ ω st (.next ρ' ω')) (h2 : RaJ X n env ρ' ω' it ss) : RaJ X n env ρ ω it (st :: ss) :=
  .mk fun A E s hb av0 oa b I pe hE => wpAny_execs_cons (wpAny_mono (h1.run A E s hb av0 oa b I) (fun fl s₁ q => by
    obtain ⟨q1, rfl, oa', I', o1⟩ := q
    exact h2.run A E s₁ hb av0 oa' b I' pe fun s₂ h₁ h₂ e ρ₂ ω₂ oa₂ sm I₂ k x l m => hE s₂ h₁ h₂ e ρ₂ ω₂ oa₂ (q1.trans' o1 sm) I₂ k x l m) fun _ _ e => e)
theorem RaJ.next {it : Addr} {y x : Str} {p pos cp fp np : Pos} {ss : List Stmt} (hf : GlV X n env ρ (.Name "next" fp) (.builtin "next")) (hx : ρ.lookup x = some (.raw (.ref it) [])) (hd : (x == ("__debug__" : Str)) = false) (hc : (x == ("__classdict__" : Str)) = false)
    (hs : swapsWith (.Call (.Name "next" fp) [.Name x np] [] cp) (some (.Name y p)) pos.line env = pure false) :
    RaJ X n env ρ (some (.gh (gR it) [])) it (.Assign [.Name y p] (.Call (.Name "next" fp) [.Name x np] [] cp) pos :: ss) :=
  .mk fun A E s hb av0 oa b I pe hE => by
    obtain ⟨rfl, i2, i3, i4, i5⟩ := I.gh
    refine wpAny_execs_cons (wpAny_Assign_Name ?_ hs)
    refine wpAny_Call_Name_kw (wpAny_mono (hf.run A E s _ b I.ok I.en) (fun v s₁ q => ?_) fun _ _ e => e)
    obtain ⟨rfl, rfl⟩ := q
    refine callWith_builtin rfl (evalArgs_plain (wpAny_mono ((EvsJ.cons (EvJ.name hx hd hc) .nil rfl).run cp A E s₁ _ b I.ok I.avk I.en) (fun vs s₂ q => ?_) fun _ _ e => e))
    obtain ⟨q1, q2⟩ := q
    (have hx := Rs.consI q2; clear q2; obtain ⟨_, _, rfl, r1, r2⟩ := hx)
    case _ =>
    (first | (obtain ⟨_, rfl⟩ := R.intI r2; clear r2) | (obtain ⟨_, rfl⟩ := R.strI r2; clear r2) | (obtain rfl := R.boolI r2; clear r2) | (obtain rfl := Rs.nilI r2; clear r2) | (obtain rfl := R.noneI r2; clear r2) | cases r2); (first | (obtain ⟨_, rfl⟩ := R.intI r1; clear r1) | (obtain ⟨_, rfl⟩ := R.strI r1; clear r1) | (obtain rfl := R.boolI r1; clear r1) | (obtain rfl := Rs.nilI r1; clear r1) | (obtain rfl := R.noneI r1; clear r1) | cases r1)
    have I2 := I.step q1
    obtain ⟨l, i, vl, is, h1, h2, h3, h4, h5⟩ := I2.gh.2.2.2.2
    have hb' : vl.toArray[i]? = none := by
      have : is.length ≤ i := by
        have := congrArg List.length h4
        simp at this; k_data
      rw [List.getElem?_toArray, List.getElem?_eq_none (by rw [h3.length, List.length_map]; exact this)]
    exact nextStop b.hh h1 h2.isList hb' fun h₁ h₂ e x l m => hE s₂ h₁ h₂ e _ _ _ q1.same I2 ((gR it).lv I2.gh.2.2.2.2) x l m
inductive WhR (X : Cx) (n : Nat) (env : Env) (it : Addr) (test : Expr) (body : List Stmt) : Nat → List (Str × V) → Option Own → Prop
  | stop {m ρ ω} : TrJ X n env ρ test true → RaJ X n env ρ ω it body → WhR X n env it test body m ρ ω
  | next {m ρ ρ₂ ω ω₂} : TrJ X n env ρ test true → ExJ X n env ρ ω body (.next ρ₂ ω₂) → WhR X n env it test body m ρ₂ ω₂ → WhR X n env it test body (m + 1) ρ ω
theorem RaJ.while {it : Addr} {test : Expr} {body orelse : List Stmt} {pos : Pos} {m : Nat} {ss : List Stmt} (h : WhR X n env it test body m ρ ω) : RaJ X n env ρ ω it (.While test body orelse pos :: ss) :=
  .mk fun A E s hb av0 oa b I pe hE => by
    refine wpAny_execs_cons (wpAny_While ?_)
    refine codeAny_mono (codeAny_whileLoop (R := fun r s' => match r with | .ok _ => False | .error e => cameBackBy (MX X) A env E e s') (fun k s' => ∃ ρ' ω' oa', Inv X hb av0 env ρ' ω' oa' s'.heap ∧ WhR X n env it test body k ρ' ω' ∧ Same env oa s s' ∧ OaOk oa s.heap oa') ?_ m ⟨ρ, ω, oa, I, h, .refl s, .refl⟩) fun r s' z => ?_
    · rintro k s' ⟨ρ', ω', oa', I', hw, sm, oo⟩
      cases hw with
      | stop ht hx =>
        refine wpAny_mono (ht.run A _ s' _ b I'.ok I'.avk I'.en) (fun t s₁ q => ?_) fun _ _ e => e
        obtain ⟨q, rfl⟩ := q
        have sm1 := sm.trans' oo q.same
        refine wpAny_mono (hx.run A E s₁ hb av0 oa' b (I'.step q) pe fun s₂ h₁ h₂ e ρ₂ ω₂ oa₂ sm2 I₂ k x l m => hE s₂ h₁ h₂ e ρ₂ ω₂ oa₂ (sm1.trans' oo sm2) I₂ k x l m) (fun _ _ f => f.elim) fun e s₂ z => pe e s₂ z
      | next ht hx hr =>
        refine wpAny_mono (ht.run A _ s' _ b I'.ok I'.avk I'.en) (fun t s₁ q => ?_) fun _ _ e => e
        obtain ⟨q, rfl⟩ := q
        refine wpAny_mono (hx.run A _ s₁ hb av0 oa' b (I'.step q)) (fun fl s₂ z => ?_) fun _ _ e => e
        obtain ⟨z1, rfl, oa'', I2, o2⟩ := z
        have sm1 := sm.trans' oo q.same
        exact ⟨_, Nat.lt_succ_self _, _, _, oa'', I2, hr, sm1.trans' oo z1, oo.trans o2 sm1⟩
    · cases r with
      | ok f => exact z.elim
      | error e => exact z
end
theorem isExc_Stop : isSubtype (.type "StopIteration") (.type "BaseException") = pure true := by rw [isSubtype_type]; kernel_rfl
theorem notTuple_Stop : isSubtype (.type ((Manifest.find? "StopIteration").elim "type" fun x => x.metatype)) (.type "tuple") = pure false := by
  rw [show ((Manifest.find? "StopIteration").elim "type" fun x => x.metatype) = "type" from by kernel_rfl, isSubtype_type]; kernel_rfl
theorem self_Stop : isSubtype (.type "StopIteration") (.type "StopIteration") = pure true := by rw [isSubtype_type]; kernel_rfl
theorem callRaise {X : Cx} {n : Nat} {A : Around} {E : Value → Shared → Prop} {Q : Value → Shared → Prop} {s : Shared} {it f : Addr} {rem : List Int} {x name qual : Str} {params : Arguments} {body : List Stmt} {scope : Scope} {dV kV doc pm cdv ct oc : Value} {an od : Option Addr} {osl : Array (Option Value)} {outer : List Env} {as : List Addr}
    (ho : (KK X.w.params).lookup f = some ⟨oc, od, .func (fnX name qual params body scope [] dV kV doc pm an cdv ct), osl⟩) (hcd : codeIn (KK X.w.params) cdv qual = true)
    (hbind : bindArgs (fnX name qual params body scope [] dV kV doc pm an cdv ct) ⟨[.ref it], []⟩ = pure [(x, .ref it)]) (hloc : scope.names.lookup x = some .local) (hcell : scope.names.all (fun x => x.2 != .cell) = true)
    (h : ∀ L, RaJ X n (envX qual scope L f cdv []) [(x, .raw (.ref it) [])] (some (.gh (gR it) rem)) it body)
    (hco : scope.isCoroutine = false) (hgen : scope.isGenerator = false) (hk : scope.kind = .function)
    (b : Bud (n + 1) A) (G : GOk X s.heap) (hib : X.S.objs.size ≤ it) (hp : (gR it).P rem tab s.heap) (hfr : A.frames = some outer)
    (hfun : ∀ h' : Heap, (∀ b o, ¬ tab b → b ≠ it → s.heap.get? b = some o → h'.get? b = some o) → h'.FunFrames (hideAll h' (s.heap.objs.size :: as)) outer)
    (hE : ∀ (h₄ h₆ : Heap) tk e t m, GOk X h₄ → (∀ b o, ¬ tab b → b ≠ it → s.heap.get? b = some o → h₄.get? b = some o) → Lv h₄ it → h₄.Ns s.heap.objs.size m → Heap.FlyingW (hideAll h₄ (s.heap.objs.size :: as)) outer e (.type "StopIteration") (.ref t) h₆ → h₄.UpToSlots h₆ → E (.ref e) { s with heap := h₆, toks := tk }) :
    wpAny (MX X) A (call (.ref f) [.ref it]) Q E s := by
  have nit : ¬ tab it := X.ntab hib
  obtain ⟨⟨oi, ei⟩, _⟩ := (gR it).lv hp
  have ei : s.heap.get? it = some oi := ei
  refine callOf (codeAny_call_def (fd := fnX name qual params body scope [] dV kV doc pm an cdv ct) b.depth (G.K _ _ ho) rfl G.nolimit (codeRec_of G.K hcd) rfl (.of_eq hbind) (fun z hz => by simpa using List.all_eq_true.mp hcell z hz) (fun y hy => ?_) (fun h₁ hns keep => ?_) hco hgen hk)
  · cases List.mem_singleton.mp hy; exact hloc
  have bd : Bud n (A.deeper (callEnv (fnX name qual params body scope [] dV kV doc pm an cdv ct) s.heap.objs.size f)) :=
    ⟨b.hh, by have := b.d; show A.depth + 1 + n < _; k_data, by have := b.u; show A.units + 3 + 8 * n + 16 < _; k_data⟩
  have I := frameInv (X := X) (s := s) (f := f) (qual := qual) (cdv := cdv) (av0 := tab) (oa := some it) (hb := hideAll s.heap [it]) (ω := some (.gh (gR it) rem)) (ρ := [(x, .raw (.ref it) [])]) (cl := []) (scope := scope) (h₁ := h₁) (binds := [(x, .ref it)]) G (hideAll_size _ _) (fun b o e => of_hideAll _ e) (fun b t => t)
    (fun b t => by
      obtain ⟨ps, e, r, _⟩ := (G.tabs t).ex
      exact .tab e r)
    (fun c q => by cases q; exact ⟨(gR it).lv hp, nit⟩) (fun z hz => by simpa using List.all_eq_true.mp hcell z hz)
    (fun y d hy => by
      rw [List.lookup_cons] at hy
      by_cases e : y = x
      · subst e
        rw [beq_self_eq_true] at hy
        cases hy
        exact .inl ⟨hloc, _, by rw [List.reverse_singleton, List.lookup_cons, beq_self_eq_true], .raw _ _ fun _ q => nomatch q⟩
      · have : (y == x) = false := by simpa using e
        simp [this] at hy)
    (fun z c hc => by cases hc)
    (fun h₁ keep => ⟨rfl, hib, hideAll_none _ (.head _), ⟨fun q => (by rw [show it = s.heap.objs.size from q.symm, size_none] at ei; cases ei), fun z c hc => (by cases hc)⟩, (gR it).mv (fun b o _ e => keep b o e) (fun b q => by
      rcases q with q | q | ⟨y, q, _⟩ | q
      · exact .inl q
      · subst q; exact .inr (.inr (size_none _))
      · have : scope.names.lookup y = some .cell := q
        have := List.all_eq_true.mp hcell _ (mem_of_lookup this)
        simp at this
      · cases q; exact .inr (.inl rfl)) hp⟩) hns keep hk
  refine wpAny_mono ((h s.heap.objs.size).run _ (fun e s' => wpAny (MX X) (A.deeper (envX qual scope s.heap.objs.size f cdv [])) (leaving (envX qual scope s.heap.objs.size f cdv []) e) (fun _ s'' => E e s'') (fun e' s'' => E e' s'') s') _ _ _ _ bd I PassesOwn.leaving fun s₁ h₄ h₅ e ρ' ω' oa' sm I₁ lv0 hs lv mx => ?_) (fun _ _ f => f.elim) fun _ _ z => z
  have keep4 : ∀ b o, ¬ tab b → b ≠ it → s.heap.get? b = some o → h₄.get? b = some o := fun b o nt ni e => (hs.2 b ni).trans (sm.kp b o (by
    rintro (q | q | ⟨_, y, q⟩ | q)
    · exact nt q
    · rw [show b = s.heap.objs.size from q, size_none] at e; cases e
    · cases q
    · exact ni (by cases q; rfl)) (keep b o e))
  obtain ⟨mm, hmm, _⟩ := I₁.en.ns
  have neL : s.heap.objs.size ≠ it := fun q => by rw [← q, size_none] at ei; cases ei
  have ns4 : h₄.Ns s.heap.objs.size mm := ns_ext hmm fun o e => (hs.2 _ neL).trans e
  have G4 : GOk X h₄ := I₁.ok.same hib hs lv0.2
  obtain ⟨hh, tk, rfl⟩ := sm.eq
  refine wpAny_leaves_madeW (base := hideAll h₄ (s.heap.objs.size :: as)) (h := h₄) (outer := outer) (L := s.heap.objs.size) (Around.frames_deeper hfr) rfl (fun b o e => of_hideAll _ e)
    (.cons (by show scope.kind ≠ .module; rw [hk]; decide) rfl ns4 (hideAll_none _ (.head _)) (hfun h₄ keep4)) mx fun h₆ t fl _ _ us => ?_
  exact hE h₄ h₆ tk e t mm G4 keep4 lv ns4 fl ((Heap.UpToSlots.of_keeps mx.keeps).trans us)
theorem codeInv {X : Cx} {n : Nat} {A : Around} {R' : Result → Shared → Prop} {s : Shared} {f : Addr} {av : Addr → Prop} {hb : Heap} {name qual : Str} {params : Arguments} {body : List Stmt} {scope : Scope} {dV kV doc pm cdv ct oc : Value} {an od : Option Addr} {osl : Array (Option Value)} {args : Args} {binds : List (Str × Value)} (ρ : List (Str × V))
    (ho : (KK X.w.params).lookup f = some ⟨oc, od, .func (fnX name qual params body scope [] dV kV doc pm an cdv ct), osl⟩) (hcd : codeIn (KK X.w.params) cdv qual = true)
    (hbind : BindsTo s (fnX name qual params body scope [] dV kV doc pm an cdv ct) args binds) (hloc : binds.all (fun y => scope.names.lookup y.1 == some .local) = true) (hcell : scope.names.all (fun x => x.2 != .cell) = true)
    (b : Bud (n + 1) A) (G : GOk X s.heap) (hb1 : hb.objs.size = s.heap.objs.size) (hb2 : ∀ b o, hb.get? b = some o → s.heap.get? b = some o) (a : AvOk X av s.heap)
    (hρ : ∀ y d, ρ.lookup y = some d → ∃ v, binds.reverse.lookup y = some v ∧ R av s.heap v d)
    (h : ∀ h₁ tk, (∀ b o, s.heap.get? b = some o → h₁.get? b = some o) → Bud n (A.deeper (envX qual scope s.heap.objs.size f cdv [])) → Inv X hb av (envX qual scope s.heap.objs.size f cdv []) ρ none none h₁ →
      wpAny (MX X) (A.deeper (envX qual scope s.heap.objs.size f cdv [])) (execs body (envX qual scope s.heap.objs.size f cdv [])) (fun fl s' => R' (.ok (.ret (flv fl))) s')
        (fun e s' => wpAny (MX X) (A.deeper (envX qual scope s.heap.objs.size f cdv [])) (leaving (envX qual scope s.heap.objs.size f cdv []) e) (fun _ s'' => R' (.error e) s'') (fun e' s'' => R' (.error e') s'') s') { s with heap := h₁, toks := tk })
    (hco : scope.isCoroutine = false) (hgen : scope.isGenerator = false) (hk : scope.kind = .function) : codeAny (MX X) A (.call (.ref f) args) R' s := by
  have loc : ∀ y ∈ binds, scope.names.lookup y.1 = some .local := fun y hy => by simpa using List.all_eq_true.mp hloc y hy
  refine codeAny_call_def (fd := fnX name qual params body scope [] dV kV doc pm an cdv ct) b.depth (G.K _ _ ho) rfl G.nolimit (codeRec_of G.K hcd) rfl hbind (fun z hz => by simpa using List.all_eq_true.mp hcell z hz) loc (fun h₁ hns keep => ?_) hco hgen hk
  refine wpAny_mono (h h₁ _ keep ⟨b.hh, by have := b.d; show A.depth + 1 + n < _; k_data, by have := b.u; show A.units + 3 + 8 * n + 16 < _; k_data⟩
    (frameInv G hb1 hb2 a.tab a.live (fun _ q => nomatch q) (fun z hz => by simpa using List.all_eq_true.mp hcell z hz) (fun z d hz => ?_) (fun z c hc => by cases hc) (fun _ _ => trivial) hns keep hk)) (fun fl s' z => z) fun _ _ z => z
  obtain ⟨v, hv, r'⟩ := hρ z d hz
  have hm := mem_of_lookup hv
  exact .inl ⟨loc (z, v) (List.mem_reverse.mp hm), v, hv, r'.move (fun _ _ _ e => e) fun b q => .inl (q.resolve_right fun q => nomatch q)⟩
theorem callInv {X : Cx} {n : Nat} {A : Around} {E : Value → Shared → Prop} {Q : Value → Shared → Prop} {s : Shared} {f : Addr} {av : Addr → Prop} {name qual : Str} {params : Arguments} {body : List Stmt} {scope : Scope} {dV kV doc pm cdv ct oc : Value} {an od : Option Addr} {osl : Array (Option Value)} {ns : List Str} {vs : List Value} {args : List V}
    (ho : (KK X.w.params).lookup f = some ⟨oc, od, .func (fnX name qual params body scope [] dV kV doc pm an cdv ct), osl⟩) (hcd : codeIn (KK X.w.params) cdv qual = true)
    (hbind : bindArgs (fnX name qual params body scope [] dV kV doc pm an cdv ct) ⟨vs, []⟩ = pure (ns.zip vs)) (hlen : args.length = ns.length) (hnd : ns.Nodup) (hloc : ns.all (fun y => scope.names.lookup y == some .local) = true) (hcell : scope.names.all (fun x => x.2 != .cell) = true)
    (b : Bud (n + 1) A) (G : GOk X s.heap) (a : AvOk X av s.heap) (r : Rs av s.heap vs args)
    (h : ∀ h₁ tk, (∀ b o, s.heap.get? b = some o → h₁.get? b = some o) → Bud n (A.deeper (envX qual scope s.heap.objs.size f cdv [])) → Inv X s.heap av (envX qual scope s.heap.objs.size f cdv []) (ns.zip args) none none h₁ →
      wpAny (MX X) (A.deeper (envX qual scope s.heap.objs.size f cdv [])) (execs body (envX qual scope s.heap.objs.size f cdv [])) (fun fl s' => Q (flv fl) s')
        (fun e s' => wpAny (MX X) (A.deeper (envX qual scope s.heap.objs.size f cdv [])) (leaving (envX qual scope s.heap.objs.size f cdv []) e) (fun _ s'' => E e s'') (fun e' s'' => E e' s'') s') { s with heap := h₁, toks := tk })
    (hco : scope.isCoroutine = false) (hgen : scope.isGenerator = false) (hk : scope.kind = .function) : wpAny (MX X) A (call (.ref f) vs) Q E s :=
  callOf (codeInv (ns.zip args) ho hcd (.of_eq hbind) (List.all_eq_true.mpr fun y hy => List.all_eq_true.mp hloc y.1 (List.of_mem_zip hy).1) hcell b G rfl (fun _ _ e => e) a (fun z d hz => by
    obtain ⟨v, hv, r'⟩ := zip_lk r hz
    exact ⟨v, zip_rev hnd hv, r'⟩) h hco hgen hk)
theorem c_over {X : Cx} {A : Around} {E : Value → Shared → Prop} {s : Shared} {it Lo : Addr} {rem : List Int} {lawEnv : Env} {m : Str → Option Value} (hr : rem = [] ∨ rem = [127] ∨ rem = [127, 64]) (b : Bud 3 A) (G : GOk X s.heap) (hib : X.S.objs.size ≤ it) (hp : (gR it).P rem tab s.heap)
    (hfr : A.frames = some [lawEnv]) (hlf : lawEnv.frame = some Lo) (hlk : lawEnv.scope.kind ≠ .module) (hLo : s.heap.Ns Lo m) (hlb : X.S.objs.size ≤ Lo) :
    wpAny (MX X) A (call (.ref 274) [.ref it]) (fun v s' => v = .bool true ∧ (∃ h' tk, s' = { s with heap := h', toks := tk }) ∧ (∀ b o, ¬ tab b → b ≠ it → b ≠ Lo → s.heap.get? b = some o → s'.heap.get? b = some o) ∧ s'.heap.Ns Lo m ∧ Lv s'.heap it ∧ GOk X s'.heap) E s := by
  refine cps fun Q hQ => ?_
  have nit : ¬ tab it := X.ntab hib
  obtain ⟨⟨oi, ei⟩, _⟩ := (gR it).lv hp
  have ei : s.heap.get? it = some oi := ei
  have neLo : Lo ≠ it := fun q => by
    obtain ⟨o, _, _, e, hd, _⟩ := hLo
    obtain ⟨l, i, vs, is, ⟨o', e', _, hd'⟩, _⟩ := hp
    rw [q, e'] at e; cases e; rw [hd] at hd'; cases hd'
  have ntLo : ¬ tab Lo := X.ntab hlb
  refine callInv (n := 2) (av := tab) (ns := [Str.ofString "reader"]) (args := [.raw (.ref it) []]) (by k_is) (by k_is) (by kernel_rfl) rfl (by decide) (by kernel_rfl) (by kernel_rfl) b G
    ⟨fun _ t => t, fun b t => by
      obtain ⟨ps, e, r, _⟩ := (G.tabs t).ex
      exact .tab e r⟩ (.cons (.raw _ _ fun _ q => nomatch q) .nil) (fun h₁ tk keep bd I => ?_) rfl rfl rfl
  refine wpAny_execs_cons (wpAny_Try_except (wpAny_execs_cons (wpAny_Expr (wpAny_Call_Name_kw (wpAny_mono ((GlV.glob (by kernel_rfl) (by k_is) (by kernel_rfl)).run _ _ _ _ bd I.ok I.en) (fun v s₁ q => ?_) fun _ _ e => e)) (by kernel_rfl) (by kernel_rfl))))
  obtain ⟨rfl, rfl⟩ := q
  refine callWith_K I.ok.K (by k_is) (wpAny_mono ((EvsJ.cons (EvJ.name (x := Str.ofString "reader") (d := .raw (.ref it) []) rfl (by kernel_rfl) (by kernel_rfl)) .nil rfl).run _ _ _ _ _ bd I.ok I.avk I.en) (fun vs s₂ q => ?_) fun _ _ e => e) (starEach_of (by kernel_rfl)) (backTo_of (by kernel_rfl))
  obtain ⟨q1, q2⟩ := q
  (have hx := Rs.consI q2; clear q2; obtain ⟨_, _, rfl, r1, r2⟩ := hx)
  case _ =>
  (first | (obtain ⟨_, rfl⟩ := R.intI r2; clear r2) | (obtain ⟨_, rfl⟩ := R.strI r2; clear r2) | (obtain rfl := R.boolI r2; clear r2) | (obtain rfl := Rs.nilI r2; clear r2) | (obtain rfl := R.noneI r2; clear r2) | cases r2); (first | (obtain ⟨_, rfl⟩ := R.intI r1; clear r1) | (obtain ⟨_, rfl⟩ := R.strI r1; clear r1) | (obtain rfl := R.boolI r1; clear r1) | (obtain rfl := Rs.nilI r1; clear r1) | (obtain rfl := R.noneI r1; clear r1) | cases r1)
  refine ⟨q1.ok.K, ?_⟩
  have k2 : ∀ b o, ¬ tab b → s.heap.get? b = some o → s₂.heap.get? b = some o := fun b o t e => q1.ext b o t (keep b o e)
  have ns1 : ∃ m1, s₂.heap.Ns s.heap.objs.size m1 := by
    obtain ⟨m1, hm1, _⟩ := I.en.ns
    exact ⟨m1, ns_ext hm1 fun o e => q1.ext _ o (ns_nt I.ok hm1) e⟩
  obtain ⟨m1, ns1⟩ := ns1
  have neL : s.heap.objs.size ≠ it := fun q => by rw [← q, size_none] at ei; cases ei
  have ntL : ¬ tab s.heap.objs.size := X.ntab G.sz
  refine callRaise (n := 1) (rem := rem) (x := Str.ofString "iterator") (as := [s.heap.objs.size, Lo]) (by k_is) (by k_is) (by kernel_rfl) (by kernel_rfl) (by kernel_rfl) (fun L => ?ra) rfl rfl rfl bd q1.ok hib
    ((gR it).mv (fun b o q e => k2 b o (q.elim (fun q => q ▸ nit) id) e) (fun b q => .inl q) hp) (Around.frames_deeper hfr)
    (fun h' k => .cons (fun q => nomatch q) rfl (ns_ext ns1 fun o e => k _ o ntL neL e) (hideAll_none _ (.tail _ (.head _))) ⟨hlk, let ⟨o, _, _, e, hd, _⟩ := hLo; ⟨Lo, o, hlf, hideAll_none _ (.tail _ (.tail _ (.head _))), k _ o ntLo neLo (k2 _ o ntLo e), fun vs q => by rw [hd] at q; cases q⟩, trivial⟩)
    (fun h₄ h₆ tk e t m' G4 keep4 lv ns4 fl us => ?_)
  case ra =>
    rcases hr with rfl | rfl | rfl
    · refine RaJ.next (x := Str.ofString "iterator") (GlV.builtin (by kernel_rfl) (by k_is) (by decide) (by decide +kernel) (by kernel_rfl)) (by apply Lk.lk; k_memK) (by kernel_rfl) (by kernel_rfl) (by kernel_rfl)
    · refine RaJ.cons (StJ.assignG (g := gR it) (y := []) (d := V.int 127) (EvG.bcall (id := "next") (GlV.builtin (by kernel_rfl) (by k_is) (by decide) (by decide +kernel) (by kernel_rfl)) (by k_upd) CallG.next (by kernel_rfl)) (storesGh (.inl (by kernel_rfl))) (by kernel_rfl)) ?_
      refine RaJ.cons (StJ.assign (d := V.int (Builtin.bitAnd 127 63)) (by k_upd) (storesGh (.inl (by kernel_rfl))) (by kernel_rfl)) ?_
      refine RaJ.while (m := 0) (.stop (.eq (by k_upd) (by decide)) ?_)
      refine RaJ.cons (StJ.aug (d := V.int 6) (y := V.int (Builtin.bitAnd 127 63)) (by apply Lk.lk; k_memK) (by k_upd) (InJ.shl (by decide) (by decide) (by decide)) (storesGh (.inl (by kernel_rfl))) (by kernel_rfl)) ?_
      refine RaJ.next (x := Str.ofString "iterator") (GlV.builtin (by kernel_rfl) (by k_is) (by decide) (by decide +kernel) (by kernel_rfl)) (by apply Lk.lk; k_memK) (by kernel_rfl) (by kernel_rfl) (by kernel_rfl)
    · refine RaJ.cons (StJ.assignG (g := gR it) (y := [64]) (d := V.int 127) (EvG.bcall (id := "next") (GlV.builtin (by kernel_rfl) (by k_is) (by decide) (by decide +kernel) (by kernel_rfl)) (by k_upd) CallG.next (by kernel_rfl)) (storesGh (.inl (by kernel_rfl))) (by kernel_rfl)) ?_
      refine RaJ.cons (StJ.assign (d := V.int (Builtin.bitAnd 127 63)) (by k_upd) (storesGh (.inl (by kernel_rfl))) (by kernel_rfl)) ?_
      refine RaJ.while (m := 1) (.next (.eq (by k_upd) (by decide)) (.cons (StJ.aug (d := V.int 6) (y := V.int (Builtin.bitAnd 127 63)) (by apply Lk.lk; k_memK) (by k_upd) (InJ.shl (by decide) (by decide) (by decide)) (storesGh (.inl (by kernel_rfl))) (by kernel_rfl)) (.cons (StJ.assignG (g := gR it) (y := []) (d := V.int 64) (EvG.bcall (id := "next") (GlV.builtin (by kernel_rfl) (by k_is) (by decide) (by decide +kernel) (by kernel_rfl)) (by k_upd) CallG.next (by kernel_rfl)) (storesGh (.inl (by kernel_rfl))) (by kernel_rfl)) (.one (StJ.aug (d := V.int (Builtin.bitAnd 64 63)) (y := V.int (Builtin.bitAnd 127 63 * 2 ^ (6 : Int).toNat)) (by apply Lk.lk; k_memK) (by k_upd) InJ.or (storesGh (.inl (by kernel_rfl))) (by kernel_rfl))))) (.stop (.eq (by k_upd) (by decide)) ?_))
      refine RaJ.cons (StJ.aug (d := V.int 6) (y := V.int (Builtin.bitOr (Builtin.bitAnd 127 63 * 2 ^ (6 : Int).toNat) (Builtin.bitAnd 64 63))) (by apply Lk.lk; k_memK) (by k_upd) (InJ.shl (by decide) (by decide) (by decide)) (storesGh (.inl (by kernel_rfl))) (by kernel_rfl)) ?_
      refine RaJ.next (x := Str.ofString "iterator") (GlV.builtin (by kernel_rfl) (by k_is) (by decide) (by decide +kernel) (by kernel_rfl)) (by apply Lk.lk; k_memK) (by kernel_rfl) (by kernel_rfl) (by kernel_rfl)
  have gk : ∀ h' : Heap, (hideAll h₄ [s₂.heap.objs.size, s.heap.objs.size, Lo]).StaysIn h' → GOk X h' := fun h' st => G4.but (T := [s₂.heap.objs.size, s.heap.objs.size, Lo]) (fun a q => by
      simp only [List.mem_cons, List.not_mem_nil, or_false] at q
      rcases q with rfl | rfl | rfl
      · exact q1.ok.sz
      · exact G.sz
      · exact hlb) (fun b o n e => st b o (hideAll_get _ e n)) (fun a q => by
      simp only [List.mem_cons, List.not_mem_nil, or_false] at q
      rcases q with rfl | rfl | rfl
      · exact .ns ns4
      · exact .ns (ns_ext ns1 fun o e => keep4 _ o ntL neL e)
      · exact .ns (ns_ext hLo fun o e => keep4 _ o ntLo neLo (k2 _ o ntLo e)))
  refine wpAny_looks_onW (Around.frames_deeper hfr) rfl fl fun h7 held sm7 => ?_
  refine wpAny_landsW held fun h8 fl8 sm8 => ?_
  obtain ⟨ob, hob, hobc⟩ := fl8.there
  have G8 := gk h8 fl8.1
  refine wpAny_handleBy_builtin (X := "StopIteration") (T := "StopIteration") (b := true) isExc_Stop notTuple_Stop self_Stop (Name_function_global rfl (by kernel_rfl) (loadGlobal_builtin G8.g (mg_no (by k_is)) G8.b ((X.bb _ (by decide)).trans (by decide +kernel)) ⟨rfl, ⟨ob, hob, hobc⟩, ?_⟩) (by kernel_rfl))
  refine lands_againW fl8 fun h9 fl9 sm9 => ?_
  refine wpAny_execs_cons (wpAny_Return_some (wpAny_Constant_bool ?_))
  have us9 := ((us.trans sm7).trans sm8).trans sm9
  obtain ⟨h2, tk2, e2⟩ := q1.eq
  refine hQ _ _ ⟨rfl, ⟨h9, tk, ?_⟩, fun b o t n1 n2 e => ?_, us9.ns (ns_ext hLo fun o e => keep4 _ o ntLo neLo (k2 _ o ntLo e)), ?_, gk h9 fl9.1⟩
  · rw [e2]
  · have e4 := keep4 b o t n1 (k2 b o t e)
    refine fl9.1 b o (hideAll_get _ e4 fun q => ?_)
    simp only [List.mem_cons, List.not_mem_nil, or_false] at q
    rcases q with q | q | q
    · have := Heap.lt_size (k2 b o t e)
      rw [q] at this
      exact Nat.lt_irrefl _ this
    · rw [q, size_none] at e; cases e
    · exact n2 q
  · refine lv.keep fun o e => fl9.1 it o (hideAll_get _ e fun q => ?_)
    simp only [List.mem_cons, List.not_mem_nil, or_false] at q
    rcases q with q | q | q
    · have := Heap.lt_size (k2 it oi nit ei)
      rw [← q] at this
      exact Nat.lt_irrefl _ this
    · exact neL q.symm
    · exact neLo q.symm
end
section
theorem alive_nf {o : Obj} (h : o.alive = true) : o.isFreed = false := by
  obtain ⟨c, d, dt, sl⟩ := o
  cases dt <;> first | rfl | cases h
section
variable {X : Cx} {n : Nat} {env : Env} {ρ : List (Str × V)} {hb : Heap} {av0 : Addr → Prop} {g : Gh}
theorem gmGh (f : Nat → g.σ) : GmOk [g.a] (fun av L h => g.P (f L.length) av h) where
  mv := fun p k a => g.mv (fun b o q e => k b o (q.imp (fun q => by rw [q]; exact .head _) id) e) (fun b q => (a b q).imp id (Or.imp (fun q => List.mem_singleton.mp q) id)) p
  lv := fun p b q => by cases List.mem_singleton.mp q; exact g.lv p
theorem EmX.eltG {elt : Expr} {d : V} {f : Nat → g.σ} {L : List V} (h : EvG X n env ρ g (f L.length) elt (f (L.length + 1)) d) :
    EmX X n env ρ [g.a] (fun av L h => g.P (f L.length) av h) (fun acc => do let _ ← call (.builtin "list.append") [acc, ← eval elt env]) L [d] :=
  .mk fun A E s hb av1 D b c hT hp hsz => by
    obtain ⟨t1, t2, t3, t4, t5⟩ := hT g.a (.head _)
    refine wpAny_bind (wpAny_mono (h.run A E s _ b c.inv.ok c.inv.avk c.inv.en (.inl t1) t3 t4 hp) (fun v s₁ q => ?_) fun _ _ e => e)
    obtain ⟨q1, r, q2⟩ := q
    have nt : ¬ tab g.a := X.ntab t3
    have tc : Tch [g.a] s s₁ → True := fun _ => trivial
    obtain ⟨ys, h1, h2⟩ := c.ls
    have h1' : s₁.heap.PlainList D ys.toArray := h1.at fun o e => q1.kp D o c.ntab (Ne.symm t5) e
    have h2' := h2.stepG c.inv.avk (.inl t1) q1
    refine wpAny_bind (wpAny_list_append_plain h1' (fun h' hl hs => wpAny_pure ?_) (by rw [List.size_toArray, h2'.length, sizeLine_eq]; simp at hsz; k_data))
    have I1 : Inv X hb av1 env ρ none none s₁.heap := ⟨q1.ok, fun b o t e => q1.kp b o t (fun q => by rw [q, t2] at e; cases e) (c.inv.ext b o t e), c.inv.base, c.inv.avk.stepG q1, c.inv.en.stepG c.inv.ok c.inv.avk (.inl t1) t4 q1, c.inv.fl, c.inv.cs,
      fun v z k e => let ⟨w, o, ho, hd⟩ := c.inv.fc v z k e; ⟨w, o, q1.kp _ o (cell_nt c.inv.ok ⟨o, ho, hd⟩) (t4.2 v z e) ho, hd⟩, c.inv.ap, c.inv.d1, c.inv.d2, c.inv.d3, trivial⟩
    have t : Tch [D] s₁ { s₁ with heap := h' } := ⟨⟨h', s₁.toks, rfl⟩, fun b o n e => (hs.2 b (by simpa using n)).trans e, fun b q => by cases List.mem_singleton.mp q; exact .list h1'.isList⟩
    have I' := I1.touch t fun b q => by
      cases List.mem_singleton.mp q
      exact ⟨c.av, c.big, c.new, .list hl.isList⟩
    have mv : ∀ b o, ¬ AvB av1 env none b → s₁.heap.get? b = some o → h'.get? b = some o := fun b o nb e => (hs.2 b (fun q => nb (.inl (q ▸ c.av)))).trans e
    refine ⟨⟨let ⟨h₂, tk, q⟩ := q1.eq; ⟨h', tk, by rw [q]⟩, fun b o n m e => (hs.2 b fun q => n (q ▸ .head _)).trans (q1.kp b o (fun q => m (.inl q)) (fun q => n (q ▸ .tail _ (.head _))) e)⟩,
      ⟨I', c.av, c.new, c.big, ys ++ [v], by simpa using hl, (h2'.move mv fun _ q => .inl q).snoc (r.move mv fun _ q => .inl q)⟩, ?_⟩
    show g.P (f (L ++ [d]).length) _ h'
    rw [List.length_append]
    exact g.mv (fun b o q e => (hs.2 b fun z => q.elim (fun q => t5 (q.symm.trans z)) fun q => q (.inl (z ▸ c.av))).trans e) (fun _ q => .inl q) q2
theorem comp1G {A : Around} {E : Value → Shared → Prop} {s : Shared} {elt target iter : Expr} {ifs : List Expr} {scope : Scope} {pos spos : Pos} {ds zs : List V} {ρc : List (Str × V)} {y : Str} {py : Pos} {f : Nat → g.σ}
    (b : Bud n A) (I : Inv X hb av0 env ρ none none s.heap) (ha : av0 g.a) (hs2 : X.S.objs.size ≤ g.a) (hn : hb.get? g.a = none) (ho : OffE env g.a) (hp : g.P (f 0) (AvB av0 env none) s.heap)
    (hw : WkJ X n env ρ target iter ds) (hclo : CloOk env ρ scope.names ρc) (hnd : (scope.names.map (·.1)).Nodup) (hkind : scope.kind = .function)
    (hbd : ∀ C, BdsX X n (cenvOf scope env C) ρc [g.a] (fun av L h => g.P (f L.length) av h) target ifs (fun acc => do let _ ← call (.builtin "list.append") [acc, ← eval elt (cenvOf scope env C)]) [] ds zs) (hlen : zs.length ≤ 1000)
    (hs : ∀ x, foldedSetIterable iter env x = pure x) (hy : Stores env none y)
    (hsw : swapsWith (.ListComp elt [⟨target, iter, ifs, 0⟩] scope pos) (some (.Name y py)) spos.line env = pure true) :
    wpAny (MX X) A (exec (.Assign [.Name y py] (.ListComp elt [⟨target, iter, ifs, 0⟩] scope pos) spos) env) (fun fl s' => fl = .next ∧ (∃ h' tk, s' = { s with heap := h', toks := tk }) ∧ Inv X hb av0 env ((y, .list zs) :: ρ) none none s'.heap ∧ g.P (f zs.length) (AvB av0 env none) s'.heap ∧
      ∀ b o, b ≠ g.a → ¬ Mut env none b → s.heap.get? b = some o → s'.heap.get? b = some o) E s := by
  rw [exec_Assign_Name_used _ _ _ _ hsw]
  refine wpAny_bind (wpAny_standAt (wpAny_bind ?_))
  show wpAny _ A (do let _ ← comprehension (.ListComp elt [⟨target, iter, ifs, 0⟩] scope pos) scope env _ (newList []) false (eval iter env) (some (PySem.assign (.Name y py) env))) _ _ s
  refine wpAny_bind (wpAny_mono (wpAny_comprehension_free (use := some (PySem.assign (.Name y py) env)) (Q := fun _ s' => (∃ h' tk, s' = { s with heap := h', toks := tk }) ∧ Inv X hb av0 env ((y, .list zs) :: ρ) none none s'.heap ∧ g.P (f zs.length) (AvB av0 env none) s'.heap ∧
      ∀ b o, b ≠ g.a → ¬ Mut env none b → s.heap.get? b = some o → s'.heap.get? b = some o) rfl hs (closOk I.en hclo) hkind (namesLk hnd) ?_)
    (fun _ s' hq => wpAny_pure (wpAny_pure ⟨rfl, hq⟩)) fun _ _ e => e)
  refine comp_core (T := [g.a]) (Γ := fun av L h => g.P (f L.length) av h) (emit := fun env acc => do let _ ← call (.builtin "list.append") [acc, ← eval elt env]) b I.ok I.avk I.en (gmGh f) (fun b q => by cases List.mem_singleton.mp q; exact ⟨.inl ha, hs2, ho⟩) hp
    (fun acc C => compPost (MX X) A E (some (PySem.assign (.Name y py) env)) _ acc C) hw hclo hnd hkind hbd hlen (fun it acc env => turn1 ..) (fun _ _ _ => rfl) fun D C s' fT => ?_
  obtain ⟨⟨o', eo⟩, nco⟩ := fT.stp.lv g.a (.head _)
  obtain ⟨⟨oo, eoo⟩, nc0⟩ := g.lv hp
  have nt : ¬ tab g.a := X.ntab hs2
  have nf : o'.isFreed = false := alive_nf ((Heap.get?_eq_some _ _ _).1 eo).2
  obtain ⟨s₁, hs₁⟩ : ∃ s₁ : Shared, s₁ = { s with heap := s.heap.update g.a fun _ => o' } := ⟨_, rfl⟩
  have u1 : s₁.heap.get? g.a = some o' := by rw [hs₁]; exact Heap.get?_update_self _ eoo nf
  have u2 : ∀ b, b ≠ g.a → s₁.heap.get? b = s.heap.get? b := fun b h => by rw [hs₁]; exact Heap.get?_update_other _ _ (Ne.symm h)
  have neC : C ≠ g.a := fun q => by have := fT.newC.2; rw [q, eoo] at this; cases this
  have tch : Tch [g.a] s s₁ := ⟨⟨s₁.heap, s.toks, by rw [hs₁]⟩, fun b o n e => (u2 b (by simpa using n)).trans e, fun b q => by cases List.mem_singleton.mp q; exact nc0⟩
  have I₁ := I.touch tch fun b q => by
    cases List.mem_singleton.mp q
    exact ⟨ha, hs2, hn, ⟨o', u1⟩, fun o vs q t e => by rw [u1] at e; cases e; exact nco _ _ _ _ eo⟩
  have f1 : Fin1 X (AvB av0 env none) zs s₁ D C s' := ⟨⟨by obtain ⟨h₂, tk, q⟩ := fT.stp.eq; exact ⟨h₂, tk, by rw [q, hs₁]⟩, fun b o t e => by
      by_cases q : b = g.a
      · subst q; rw [u1] at e; cases e; exact eo
      · exact fT.stp.kp b o t (by simpa using q) ((u2 b q).symm.trans e), fT.stp.ok⟩, fT.ns, ⟨fT.newC.1, (u2 C neC).trans fT.newC.2⟩, fT.ne, fT.res⟩
  refine f1.useQ I₁ hy fun s'' h' e'' I'' sm kp => ⟨?_, I'', ?_, fun b o n m e => sm.kp b o m ((u2 b n).trans e)⟩
  · obtain ⟨h₂, tk, q⟩ := e''
    obtain ⟨h₃, tk', q'⟩ := fT.stp.eq
    exact ⟨h', tk, by rw [q, q']⟩
  · refine g.mv (fun b o q e => ?_) (fun b q => .inl (.inl q)) fT.gh
    rcases q with q | q
    · subst q
      exact kp _ o (Ne.symm neC) (.inl (I.nmut _ ha nt)) e
    · exact kp b o (fun z => q (.inr z)) (.inr fun z => q (.inl z)) e
end
end
section
theorem slot_rs : Slot "re.Pattern" "search" "re.Pattern.search" :=
  .of (owner := "re.Pattern") (n := "search") (by rw [typeLookup_type, builtinLookup_eq_fast]; kernel_rfl) (by decide +kernel) (by decide +kernel) (by decide +kernel)
    (by first | exact .inl (by decide +kernel) | exact .inr (by decide +kernel)) (by rw [isSubtype_type]; kernel_rfl)
theorem type_rs : typeOf (.builtin "re.Pattern.search") = pure (.type "method_descriptor") := by show builtinType _ = _; rw [builtinType_eq_fast]; kernel_rfl
theorem entry_rs : entryFor table "re.Pattern.search" = some Builtin.«re.Pattern.search» := entryFor_of_tree (by kernel_rfl)
theorem args_rs (a b : Value) : argsOk "re.Pattern.search" ⟨[a, b], []⟩ := by unfold argsOk; kernel_rfl
theorem plainAttrs_rp : PlainAttrs "re.Pattern" :=
  ⟨⟨"object.__getattribute__", by rw [typeLookup_type, builtinLookup_eq_fast]; kernel_rfl, by decide +kernel⟩, by rw [typeLookup_type, builtinLookup_eq_fast]; kernel_rfl⟩
noncomputable def reMiss (code : Array Nat) (x : Str) : Bool :=
  let m := (PySem.Sre.forSearch code x.cps 0 0 x.cps.size false).runFor PySem.Builtin.Re.reTurnSteps
  match m.outcome with | some .failed => true | _ => false
noncomputable def codeName : Array Nat := #[14, 10, 4, 1, 1, 22, 0, 31, 16, 127, 0, 13, 7, 22, 0, 31, 16, 127, 0, 1]
noncomputable def codeVal : Array Nat := #[14, 14, 4, 1, 1, 9, 4294966783, 0, 0, 2147483648, 0, 0, 0, 0, 0, 13, 11, 9, 4294966783, 0, 0, 2147483648, 0, 0, 0, 0, 0, 1]
open PySem.Builtin.Re in
theorem reDrive_one {m : PySem.Sre.M} (k : Nat) (h : (m.runFor reTurnSteps).outcome.isSome = true) : reDrive (k + 1) m = pure (m.runFor reTurnSteps) := by
  unfold reDrive
  simp only [h, if_true]
theorem wpAny_forUnit {M : Model} {A : Around} {E : Value → Shared → Prop} {s : Shared} {α : Type} {f : α → PUnit → Sem (ForInStep PUnit)} (hf : ∀ a, wpAny M A (f a ⟨⟩) (fun r s' => r = .yield ⟨⟩ ∧ s' = s) E s) :
    ∀ l : List α, wpAny M A (forIn l PUnit.unit f) (fun _ s' => s' = s) E s
  | [] => by rw [List.forIn_nil]; exact wpAny_pure rfl
  | a :: l => by
    rw [List.forIn_cons]
    refine wpAny_bind (wpAny_mono (hf a) (fun r s' q => ?_) fun _ _ e => e)
    obtain ⟨rfl, rfl⟩ := q
    exact wpAny_forUnit hf l
open PySem.Builtin.Re in
theorem runMiss {M : Model} {A : Around} {E : Value → Shared → Prop} {s : Shared} {m : PySem.Sre.M} {Q : Option PySem.Sre.M → Shared → Prop} (h : (m.runFor reTurnSteps).outcome = some .failed) (hQ : Q none s) : wpAny M A (reRunToEnd m) Q E s := by
  unfold reRunToEnd
  rw [show (2 ^ 64 : Nat) = 18446744073709551615 + 1 from rfl, reDrive_one _ (by rw [h]; rfl)]
  refine wpAny_bind (wpAny_pure (wpAny_bind (wpAny_mono (wpAny_forUnit (s := s) (fun i => ?_) _) (fun _ s' q => ?_) fun _ _ e => e)))
  · split
    · exact wpAny_bind (wpAny_rule (wpAny_pure ⟨rfl, rfl⟩))
    · exact wpAny_pure ⟨rfl, rfl⟩
  · subst q
    rw [h]
    exact wpAny_pure hQ
open PySem.Builtin PySem.Builtin.Re in
theorem search_none {prog : Program} {w : World} {A : Around} {E : Value → Shared → Prop} {s : Shared} {p c : Addr} {x : Str} {t : Tok} {pv fl : Value} {cs : Array Value} {Q : Value → Shared → Prop}
    (hp : s.heap.get? p = some ⟨.type "re.Pattern", none, .fields #[pv, fl, .int 0 0, .none, .none, .ref c, .int 0 0], #[]⟩) (hc : s.heap.get? c = some ⟨.type "tuple", none, .seq cs, #[]⟩)
    (hx : x.length ≤ 1000000) (h : reMiss ((cs.map reRawOf).map (·.toNat)) x = true) (hQ : Q .none s) :
    wpAny (model prog w) A (call (.builtin "re.Pattern.search") [.ref p, .str x t]) Q E s := by
  have hT : s.TypeIs (.ref p) "re.Pattern" := ⟨_, hp, rfl⟩
  refine wpAny_call_entry slot_rs hT entry_rs ?_ (args_rs _ _)
  unfold «re.Pattern.search»
  refine wpAny_bind ?_
  unfold reTarget
  dsimp only
  refine wpAny_bind (wpAny_of_eq (a := [some (.str x t), none, none]) (by first | rfl | kernel_rfl!) ?_)
  dsimp only
  refine wpAny_bind (wpAny_pure (wpAny_bind (wpAny_pure ?_)))
  refine wpAny_bind (wpAny_fieldsOf hp rfl ?_)
  refine wpAny_bind (wpAny_of_eq (a := (x.cps, 0)) (by first | rfl | kernel_rfl!) ?_)
  refine wpAny_bind (wpAny_of_eq (a := ()) rfl ?_)
  refine wpAny_bind ?_
  show wpAny _ _ (reRawItems (.ref c)) _ _ s
  unfold reRawItems
  refine wpAny_bind (wpAny_seqItems hc rfl ?_)
  refine wpAny_pure (wpAny_pure ?_)
  unfold reAnswer
  dsimp only
  refine wpAny_bind (runMiss ?_ ?_)
  · have hl : Min.min ((2 : Int) ^ 63 - 1).toNat x.cps.size = x.cps.size := Nat.min_eq_right (by have : x.cps.size ≤ 1000000 := hx; k_data)
    rw [hl]
    unfold reMiss at h
    dsimp only at h
    rw [show Min.min (Int.toNat 0) x.cps.size = 0 from Nat.zero_min _]
    split at h
    · rename_i q; exact q
    · cases h
  · exact wpAny_pure ⟨_, rfl, hQ⟩
section
variable {X : Cx} {n : Nat} {env : Env} {ρ : List (Str × V)}
theorem EvJ.search {o e : Expr} {apos pos : Pos} {p c : Addr} {x : Str} {pv fl : Value} {cs : Array Value} (h1 : EvJ X n env ρ o (.raw (.ref p) [])) (h2 : EvJ X n env ρ e (.str x))
    (hK1 : (KK X.w.params).lookup p = some ⟨.type "re.Pattern", none, .fields #[pv, fl, .int 0 0, .none, .none, .ref c, .int 0 0], #[]⟩) (hK2 : (KK X.w.params).lookup c = some ⟨.type "tuple", none, .seq cs, #[]⟩)
    (hx : x.length ≤ 1000000) (h : reMiss ((cs.map PySem.Builtin.Re.reRawOf).map (·.toNat)) x = true)
    (hb : ∀ w, attributeBase o "search" env w = w) (hp : (apos.endLine == pos.line) = true) (hst : isStarred e = false) : EvJ X n env ρ (.Call (.Attribute o "search" apos) [e] [] pos) .none := .mk fun A E s av b G a V => by
  rw [arm_eval_Call, hb]
  refine wpAny_bind (wpAny_mono (h1.run A E s av b G a V) (fun u s₁ q₁ => wpAny_bind (wpAny_standAt ?_)) fun _ _ e => e)
  obtain ⟨q₁, r₁⟩ := q₁
  (first | (obtain ⟨_, rfl⟩ := R.intI r₁; clear r₁) | (obtain ⟨_, rfl⟩ := R.strI r₁; clear r₁) | (obtain rfl := R.boolI r₁; clear r₁) | (obtain rfl := Rs.nilI r₁; clear r₁) | (obtain rfl := R.noneI r₁; clear r₁) | cases r₁)
  have ho := q₁.ok.K _ _ hK1
  have a1 := a.step q₁
  have T : s₁.TypeIs (.ref p) "re.Pattern" := ⟨_, ho, rfl⟩
  refine methTailO (id := "re.Pattern.search") (fun pl Q hQ => getMethod_builtin T plainAttrs_rp slot_rs type_rs (fun b e => by cases e; exact ⟨_, ho, rfl⟩) hQ) hp (by rw [List.any_cons, hst]; rfl) (by show 1 < 20; decide) (callWith_builtin (by rw [starEach_of hst]; rfl) ?_)
  have ev := (EvsJ.cons h2 EvsJ.nil (starEach_of hst)).run pos A E s₁ av b q₁.ok a1 (V.step G a q₁)
  rw [starEach_of hst] at ev ⊢
  refine evalArgs_plain (wpAny_mono ev (fun vs s₂ q => ?_) fun _ _ e => e)
  obtain ⟨q2, r2⟩ := q
  (have hx := Rs.consI r2; clear r2; obtain ⟨_, _, rfl, r2, rs⟩ := hx)
  case _ =>
  (first | (obtain ⟨_, rfl⟩ := R.intI rs; clear rs) | (obtain ⟨_, rfl⟩ := R.strI rs; clear rs) | (obtain rfl := R.boolI rs; clear rs) | (obtain rfl := Rs.nilI rs; clear rs) | (obtain rfl := R.noneI rs; clear rs) | cases rs); (first | (obtain ⟨_, rfl⟩ := R.intI r2; clear r2) | (obtain ⟨_, rfl⟩ := R.strI r2; clear r2) | (obtain rfl := R.boolI r2; clear r2) | (obtain rfl := Rs.nilI r2; clear r2) | (obtain rfl := R.noneI r2; clear r2) | cases r2)
  exact search_none (q2.ok.K _ _ hK1) (q2.ok.K _ _ hK2) hx h ⟨q₁.trans q2, .none⟩
theorem EvJ.typeStr {e : Expr} {pos p : Pos} {x : Str} {nm : Str} (hf : GlV X n env ρ (.Name nm p) (.type "type")) (h : EvJ X n env ρ e (.str x)) (hst : isStarred e = false) : EvJ X n env ρ (.Call (.Name nm p) [e] [] pos) (.raw (.type "str") []) := .mk fun A E s av b G a VV => by
  refine wpAny_Call_Name_kw (wpAny_mono (hf.run A E s av b G VV) (fun v s₁ q => ?_) fun _ _ e => e)
  obtain ⟨rfl, rfl⟩ := q
  refine PyProof.Rows.callWith_type (backTo_of (l := [e]) (by rw [List.any_cons, hst]; rfl)) ?_
  have := (EvsJ.cons h .nil (starEach_of hst)).run pos A E s₁ av b G a VV
  rw [starEach_of hst] at this ⊢
  refine evalArgs_plain (wpAny_mono this (fun vs s₂ q => ?_) fun _ _ e => e)
  obtain ⟨q2, r2⟩ := q
  (have hx := Rs.consI r2; clear r2; obtain ⟨_, _, rfl, r2, rs⟩ := hx)
  case _ =>
  (first | (obtain ⟨_, rfl⟩ := R.intI rs; clear rs) | (obtain ⟨_, rfl⟩ := R.strI rs; clear rs) | (obtain rfl := R.boolI rs; clear rs) | (obtain rfl := Rs.nilI rs; clear rs) | (obtain rfl := R.noneI rs; clear rs) | cases rs); (first | (obtain ⟨_, rfl⟩ := R.intI r2; clear r2) | (obtain ⟨_, rfl⟩ := R.strI r2; clear r2) | (obtain rfl := R.boolI r2; clear r2) | (obtain rfl := Rs.nilI r2; clear r2) | (obtain rfl := R.noneI r2; clear r2) | cases r2)
  exact call_type_of (Tx := "str") rfl (by decide +kernel) ⟨q2, .raw _ _ fun _ q => nomatch q⟩
theorem CmpJ.isT {T U : String} : CmpJ .Is (.raw (.type T) []) (.raw (.type U) []) (Value.type T == Value.type U) := .mk fun X n A E s av u v b G k r1 r2 => by (first | (obtain ⟨_, rfl⟩ := R.intI r1; clear r1) | (obtain ⟨_, rfl⟩ := R.strI r1; clear r1) | (obtain rfl := R.boolI r1; clear r1) | (obtain rfl := Rs.nilI r1; clear r1) | (obtain rfl := R.noneI r1; clear r1) | cases r1); (first | (obtain ⟨_, rfl⟩ := R.intI r2; clear r2) | (obtain ⟨_, rfl⟩ := R.strI r2; clear r2) | (obtain rfl := R.boolI r2; clear r2) | (obtain rfl := Rs.nilI r2; clear r2) | (obtain rfl := R.noneI r2; clear r2) | cases r2); exact wpAny_is_plain rfl ⟨.refl G, rfl⟩
theorem CmpJ.isntT {T U : String} : CmpJ .IsNot (.raw (.type T) []) (.raw (.type U) []) (!(Value.type T == Value.type U)) := .mk fun X n A E s av u v b G k r1 r2 => by (first | (obtain ⟨_, rfl⟩ := R.intI r1; clear r1) | (obtain ⟨_, rfl⟩ := R.strI r1; clear r1) | (obtain rfl := R.boolI r1; clear r1) | (obtain rfl := Rs.nilI r1; clear r1) | (obtain rfl := R.noneI r1; clear r1) | cases r1); (first | (obtain ⟨_, rfl⟩ := R.intI r2; clear r2) | (obtain ⟨_, rfl⟩ := R.strI r2; clear r2) | (obtain rfl := R.boolI r2; clear r2) | (obtain rfl := Rs.nilI r2; clear r2) | (obtain rfl := R.noneI r2; clear r2) | cases r2); exact wpAny_isNot_plain rfl ⟨.refl G, rfl⟩
theorem TruJ.none : TruJ .none false := .mk fun X n A E s av u b G k r => by (first | (obtain ⟨_, rfl⟩ := R.intI r; clear r) | (obtain ⟨_, rfl⟩ := R.strI r; clear r) | (obtain rfl := R.boolI r; clear r) | (obtain rfl := Rs.nilI r; clear r) | (obtain rfl := R.noneI r; clear r) | cases r); exact truthy_none ⟨.refl G, rfl⟩
theorem EvJ.globR {nm : Str} {pos : Pos} {a : Addr} (h : GlV X n env ρ (.Name nm pos) (.ref a)) : EvJ X n env ρ (.Name nm pos) (.raw (.ref a) []) := .ofG h fun _ _ => .raw _ _ fun _ q => nomatch q
end
theorem c_conv {X : Cx} {d0 : V} {x : Str} {nb : Bool} (hx : x.length ≤ 1000000) (h : reMiss (if nb then codeName else codeVal) x = true) : CallK X 1 (.ref 147) [d0, .str x] [(Str.ofString "name", .bool nb)] (.str x) := by
  refine CallK.fn (ns := [Str.ofString "self", Str.ofString "value", Str.ofString "name"]) (kds := [.bool nb]) [(Str.ofString "self", d0), (Str.ofString "value", .str x), (Str.ofString "name", .bool nb)] rfl (fun _ _ => .cons (.bool _) .nil) (by k_is) (by k_is) ?_ rfl (by decide) (by kernel_rfl) ?_ (by kernel_rfl) (by kernel_rfl) (by kernel_rfl) (by decide)
  · exact bind2 fun _ _ => by kernel_rfl
  · intro L
    apply ExJ.ret
    refine StJ.iteT (TrJ.cmp (EvJ.typeStr (GlV.builtin (by kernel_rfl) (by k_is) (by decide) (by decide +kernel) (by kernel_rfl)) (by k_upd) (by kernel_rfl))
      (EvJ.ofG (v := .type "str") (d := .raw (.type "str") []) (GlV.builtin (by kernel_rfl) (by k_is) (by decide) (by decide +kernel) (by kernel_rfl)) fun _ _ => .raw _ _ fun _ q => nomatch q) CmpJ.isT (by kernel_rfl)) (by decide) ?_
    refine ExJ.cons (StJ.assign (d := .raw (.ref (if nb then 112 else 117)) []) (EvJ.ite (TrJ.val (by k_upd) TruJ.bool fun _ => rfl) (fun e => ?_) fun e => ?_) (Stores.none (.inl (by kernel_rfl))) (by kernel_rfl)) ?_
    · subst e
      exact EvJ.globR (GlV.glob (by kernel_rfl) (by k_is) (by kernel_rfl))
    · subst e
      exact EvJ.globR (GlV.glob (by kernel_rfl) (by k_is) (by kernel_rfl))
    refine ExJ.cons (StJ.iteF (TrJ.val (x := .none) ?_ TruJ.none fun _ => rfl) rfl ExJ.nil) (ExJ.ret (StJ.ret (by k_upd)))
    cases nb with
    | true =>
      refine EvJ.search (by k_upd) (by k_upd) (by k_is) (by k_is) hx ?_ (fun w => rfl) (by kernel_rfl) (by kernel_rfl)
      exact (congrArg (reMiss · x) (show _ = codeName by kernel_rfl)).trans h
    | false =>
      refine EvJ.search (by k_upd) (by k_upd) (by k_is) (by k_is) hx ?_ (fun w => rfl) (by kernel_rfl) (by kernel_rfl)
      exact (congrArg (reMiss · x) (show _ = codeVal by kernel_rfl)).trans h
end
section
noncomputable def octPlaces (num dress : Int) : List Int := [5, 4, 3, 2, 1, 0].filter fun p => (dress.fmod 2 == 1) || ((p == 0) || ((num.fdiv (2 ^ (6 * p).toNat) != 0) || false))
noncomputable def octets (num dress : Int) : List Int := (octPlaces num dress).map fun p => Builtin.bitAnd (num.fdiv (2 ^ (6 * p).toNat)) 63 + (if p != 0 then 64 else 128 * dress.fdiv 2)
theorem flatMap_if {α β : Type} (l : List α) (p : α → Bool) (f : α → β) : (l.flatMap fun a => if p a then [f a] else []) = (l.filter p).map f := by
  induction l with
  | nil => rfl
  | cons a l ih => rw [List.flatMap_cons, ih, List.filter_cons]; split <;> simp_all
theorem flatMap_one {α β : Type} (l : List α) (f : α → β) : (l.flatMap fun a => [f a]) = l.map f := by
  induction l with
  | nil => rfl
  | cons a l ih => rw [List.flatMap_cons, ih]; rfl
theorem c_octets {X : Cx} {num dress : Int} (hd0 : 0 ≤ dress) (hd1 : dress < 4) : CallJ X 1 (.ref 267) [.int num, .int dress] (.list ((octets num dress).map V.int)) := by
  refine CallJ.fn (ns := [Str.ofString "number", Str.ofString "dress"]) [(Str.ofString "number", .int num), (Str.ofString "dress", .int dress)] rfl (by k_is) (by k_is) ?_ rfl (by decide) (by kernel_rfl) ?_ (by kernel_rfl) (by kernel_rfl) (by kernel_rfl) (by decide)
  · exact bind2 fun _ _ => by kernel_rfl
  · intro L
    apply ExJ.cons
    · apply StJ.comp1 (ds := ([5, 4, 3, 2, 1, 0] : List Int).map V.int) (zs := (octPlaces num dress).map V.int)
      case hclo => k_clsL
      case hnd => decide
      case hkind => rfl
      case hw =>
        apply WkJ.tup
        show EvJ _ _ _ _ _ (V.tup [.int 5, .int 4, .int 3, .int 2, .int 1, .int 0])
        k_upd
      case hs => intro x; rfl
      case hy => exact Stores.none (.inl (by kernel_rfl))
      case hsw => kernel_rfl
      case hlen => rw [List.length_map]; exact Nat.le_trans (List.length_filter_le ..) (by decide)
      case hbd =>
        intro C
        rw [show (octPlaces num dress).map V.int = ([5, 4, 3, 2, 1, 0] : List Int).flatMap fun p => if (dress.fmod 2 == 1) || ((p == 0) || ((num.fdiv (2 ^ (6 * p).toNat) != 0) || false)) then [V.int p] else [] from (flatMap_if _ _ _).symm]
        refine BdsJ.of V.int _ _ fun p hp => ⟨_, (dress.fmod 2 == 1) || ((p == 0) || ((num.fdiv (2 ^ (6 * p).toNat) != 0) || false)), TgJ.name (Stores.none (.inl (by kernel_rfl))), Sub.lk ?_, TsJ.one ?_, fun h => ?_, fun h => ?_⟩
        · k_subL
        · have : 0 ≤ 6 * p := by simp at hp; k_data
          k_upd
        · rw [if_pos h]
          apply EmJ.elt
          k_upd
        · rw [h]; rfl
    · apply ExJ.ret
      apply StJ.ret
      apply EvJ.comp1 (ds := (octPlaces num dress).map V.int)
      case hclo => k_clsL
      case hnd => decide
      case hkind => rfl
      case hw =>
        apply WkJ.list
        · k_upd
        · exact TgOk.name
      case hs => intro x; rfl
      case hlen => rw [List.length_map, octets, List.length_map]; exact Nat.le_trans (List.length_filter_le ..) (by decide)
      case hbd =>
        intro C
        rw [show (octets num dress).map V.int = (octPlaces num dress).flatMap fun p => [V.int (Builtin.bitAnd (num.fdiv (2 ^ (6 * p).toNat)) 63 + (if p != 0 then 64 else 128 * dress.fdiv 2))] by
          rw [octets, List.map_map]; exact (flatMap_one _ _).symm]
        refine BdsJ.of V.int _ _ fun p hp => ⟨_, true, TgJ.name (Stores.none (.inl (by kernel_rfl))), Sub.lk ?_, TsJ.nil, fun _ => ?_, fun h => nomatch h⟩
        · k_subL
        · have : 0 ≤ 6 * p := by have := (List.mem_filter.mp hp).1; simp at this; k_data
          apply EmJ.elt
          apply EvJ.bin (y := V.int (if p != 0 then 64 else 128 * dress.fdiv 2))
          · k_upd
          · apply EvJ.ite (b := p != 0)
            · k_upd
            · intro h; rw [if_pos h]; k_upd
            · intro h; rw [if_neg (by simp [h])]; k_upd
          · k_updF
end
section
noncomputable def InstJ (d0 : V) : Prop := ∀ av h u, R av h u d0 → ∃ x dx hs t v n, u = .ref x ∧ h.get? x = some (instObj 246 dx) ∧ h.get? dx = some (dictOf [⟨hs, .str (Str.ofString "_headers") t, v⟩] n)
theorem InstJ.hdr {es : List (Str × Str)} : InstJ (.hdr es) := fun av h u r => by
  cases r with
  | hdr n1 n2 n3 x rs => obtain ⟨e, ⟨hs, t, n, e2⟩, _⟩ := x; exact ⟨_, _, hs, t, _, n, rfl, e, e2⟩
noncomputable def instFr (x dx l : Addr) (hs : Int) (t : Tok) (n : Nat) : Frag := [(x, instObj 246 dx), (dx, dictOf [⟨hs, .str (Str.ofString "_headers") t, .ref l⟩] n)]
theorem InstJ.raw {x dx l : Addr} {hs : Int} {t : Tok} {n : Nat} : InstJ (.raw (.ref x) (instFr x dx l hs t n)) := fun av h u r => by
  cases r with
  | raw _ _ r => exact ⟨x, dx, hs, t, _, n, rfl, (r _ (.head _)).2, (r _ (.tail _ (.head _))).2⟩
section
variable {X : Cx} {n : Nat} {env : Env} {ρ : List (Str × V)}
theorem instAt {h : Heap} {x dx : Addr} {od : Obj} (h1 : h.get? x = some (instObj 246 dx)) (h2 : h.get? dx = some od) : PySem.W.InstAt h x (instObj 246 dx) 246 (some od) := ⟨h1, rfl, rfl, h2⟩
theorem getHeaders {A : Around} {E : Value → Shared → Prop} {s : Shared} {x dx : Addr} {hs : Int} {t : Tok} {v : Value} {k : Nat} {Q : Value → Shared → Prop} {expr : Bool} (G : GOk X s.heap) (h1 : s.heap.get? x = some (instObj 246 dx)) (h2 : s.heap.get? dx = some (dictOf [⟨hs, .str (Str.ofString "_headers") t, v⟩] k)) (hv : handedIn v = true)
    (hQ : Q v { s with toks := s.toks + 1 }) : wpAny (MX X) A (getAttr (.ref x) (Str.ofString "_headers") expr) Q E s := by
  have hg : plainGet (KK X.w.params) 246 (Str.ofString "_headers") = true := by k_is
  have hh : hasDictIn (KK X.w.params) 246 = true := by k_is
  have ha : findIn (KK X.w.params) (.ref 246) (Str.ofString "_headers") = some none := by k_is
  exact get_value G.K (instAt h1 h2) (plainGet_of hg).1 (findObj_own hh ha rfl (by rw [lookIn_dict]; kernel_rfl)) hv hQ
theorem EvJ.hattr {y : Str} {p pos : Pos} {es : List (Str × Str)} (h : EvJ X n env ρ (.Name y p) (.hdr es)) : EvJ X n env ρ (.Attribute (.Name y p) "_headers" pos) (.list (es.map pairV)) := .mk fun A E s av b G a VV => by
  rw [arm_eval_Attribute]
  refine wpAny_bind (wpAny_mono (h.run A E s av b G a VV) (fun u s₁ q => ?_) fun _ _ e => e)
  obtain ⟨q, r⟩ := q
  cases r with
  | hdr n1 n2 n3 x rs =>
  obtain ⟨e, ⟨hs, t, k, e2⟩, pl⟩ := x
  refine wpAny_bind (wpAny_standAt (wpAny_bind (wpAny_holding (getHeaders q.ok e e2 rfl (wpAny_bind (wpAny_pure ?_))))))
  have st : Stp X s₁ { s₁ with toks := s₁.toks + 1 } := .tok q.ok
  exact wpAny_pure ⟨q.trans st, .list n3 pl rs⟩
theorem methTailV {o : Expr} {name : Str} {apos pos : Pos} {es : List Expr} {A : Around} {E : Value → Shared → Prop} {s : Shared} {u fv : Value}
    (hg : ∀ (pl : Sem Bool) (Q : Value × List Value → Shared → Prop), Q (fv, [u]) s → wpAny (MX X) A (getMethod u name pl) Q E s)
    (hp : (apos.endLine == pos.line) = true) (hst : es.any isStarred = false) (hn : es.length < 20)
    {Q : Value → Shared → Prop} (h : wpAny (MX X) A (callWith pos fv [u] (backTo pos (starEach es env)) []) Q E s) :
    wpAny (MX X) A (methodCall o name apos pos env u (es.length + ([] : List Keyword).length) (backTo pos (starEach es env)) (backToKw pos (keywordEach [] env))) Q E s := by
  have hform : methodCallForm (es.length + ([] : List Keyword).length) (backTo pos (starEach es env)) (backToKw pos (keywordEach [] env)) = true := by
    unfold methodCallForm
    rw [starAll hst]
    show (true && true && decide (es.length + 0 + 0 < 30)) = true
    simp; k_data
  unfold methodCall
  rw [hform]
  refine wpAny_bind (wpAny_holding ?_)
  refine hg _ _ ?_
  refine wpAny_bind ?_
  unfold methodCallPos
  rw [hp]
  exact wpAny_pure h
theorem instMethod {A : Around} {E : Value → Shared → Prop} {s : Shared} {d0 : V} {av : Addr → Prop} {u : Value} {name : Str} {f : Addr} {pl : Sem Bool} {Q : Value × List Value → Shared → Prop} (hi : InstJ d0) (G : GOk X s.heap) (r : R av s.heap u d0)
    (hg : plainGet (KK X.w.params) 246 name = true) (hf : findIn (KK X.w.params) (.ref 246) name = some (some (.ref f))) (ht : PySem.W.isFn (KK X.w.params) (.ref f) = true) (hne : (Str.ofString "_headers" == name) = false) (hQ : Q (.ref f, [u]) s) :
    wpAny (MX X) A (getMethod u name pl) Q E s := by
  obtain ⟨x, dx, hs, t, v, k, rfl, e1, e2⟩ := hi av s.heap u r
  refine method_fn G.K (instAt e1 e2) (plainGet_of hg).1 (plainGet_of hg).2 hf (beq_iff_eq.mp ht) ?_ hQ
  show (lookIn name (dictOf [⟨hs, .str (Str.ofString "_headers") t, v⟩] k)).map _ = _
  rw [lookIn_dict]
  unfold getL
  have : (Value.str (Str.ofString "_headers") t).isStr name = false := by
    show decide _ = false <;> simpa [Value.isStr] using hne
  simp [this, DictEntry.refKey]
theorem EvJ.hmeth {o : Expr} {name : Str} {apos pos : Pos} {e : Expr} {es : List Expr} {d0 d : V} {ds : List V} {f : Addr} (h1 : EvJ X n env ρ o d0) (h2 : EvsJ X n env ρ (e :: es) ds) (hi : InstJ d0)
    (hg : plainGet (KK X.w.params) 246 name = true) (hf : findIn (KK X.w.params) (.ref 246) name = some (some (.ref f))) (ht : PySem.W.isFn (KK X.w.params) (.ref f) = true) (hne : (Str.ofString "_headers" == name) = false) (hk : keepIn (KK X.w.params) (.ref f) = true) (hc : CallJ X n (.ref f) (d0 :: ds) d)
    (hb : ∀ w, attributeBase o name env w = w) (hp : (apos.endLine == pos.line) = true) (hst : (e :: es).any isStarred = false) (hn : (e :: es).length < 20) : EvJ X n env ρ (.Call (.Attribute o name apos) (e :: es) [] pos) d := .mk fun A E s av b G a V => by
  rw [arm_eval_Call, hb]
  refine wpAny_bind (wpAny_mono (h1.run A E s av b G a V) (fun u s₁ q₁ => wpAny_bind (wpAny_standAt ?_)) fun _ _ e => e)
  obtain ⟨q₁, r₁⟩ := q₁
  have a1 := a.step q₁
  refine methTailV (fv := .ref f) (fun pl Q hQ => instMethod hi q₁.ok r₁ hg hf ht hne hQ) hp hst hn ?_
  rw [List.any_cons, Bool.or_eq_false_iff] at hst
  exact callWith_K q₁.ok.K hk (wpAny_mono (h2.run pos A E s₁ av b q₁.ok a1 (V.step G a q₁)) (fun vs s₂ q => ⟨q.1.ok.K, wpAny_mono (hc.run A E s₂ av (u :: vs) b q.1.ok (a1.step q.1) (.cons (r₁.step a1 q.1) q.2)) (fun r s₃ z => ⟨(q₁.trans q.1).trans z.1, z.2⟩) fun _ _ e => e⟩) fun _ _ e => e) (starEach_of hst.1) (backTo_of hst.2)
theorem EvJ.hmeth0 {o : Expr} {name : Str} {apos pos : Pos} {d0 d : V} {f : Addr} (h1 : EvJ X n env ρ o d0) (hi : InstJ d0)
    (hg : plainGet (KK X.w.params) 246 name = true) (hf : findIn (KK X.w.params) (.ref 246) name = some (some (.ref f))) (ht : PySem.W.isFn (KK X.w.params) (.ref f) = true) (hne : (Str.ofString "_headers" == name) = false) (hk : keepIn (KK X.w.params) (.ref f) = true) (hc : CallJ X n (.ref f) [d0] d)
    (hb : ∀ w, attributeBase o name env w = w) (hp : (apos.endLine == pos.line) = true) : EvJ X n env ρ (.Call (.Attribute o name apos) [] [] pos) d := .mk fun A E s av b G a V => by
  rw [arm_eval_Call, hb]
  refine wpAny_bind (wpAny_mono (h1.run A E s av b G a V) (fun u s₁ q₁ => wpAny_bind (wpAny_standAt ?_)) fun _ _ e => e)
  obtain ⟨q₁, r₁⟩ := q₁
  have a1 := a.step q₁
  refine methTailV (es := []) (fv := .ref f) (fun pl Q hQ => instMethod hi q₁.ok r₁ hg hf ht hne hQ) hp rfl (by show 0 < 20; decide) ?_
  exact callWith_K0 q₁.ok.K hk (wpAny_mono (hc.run A E s₁ av [u] b q₁.ok a1 (.cons r₁ .nil)) (fun r s₃ z => ⟨q₁.trans z.1, z.2⟩) fun _ _ e => e)
theorem EvJ.hconv {o : Expr} {apos pos kp cp : Pos} {e : Expr} {d0 : V} {x : Str} {nb : Bool} {ck : Nat} {pl : Sem Bool} (h1 : EvJ X n env ρ o d0) (h2 : EvJ X n env ρ e (.str x)) (hi : InstJ d0) (hx : x.length ≤ 1000000) (h : reMiss (if nb then codeName else codeVal) x = true) (hn1 : 1 ≤ n)
    (he : eval (.Call (.Attribute o "_convert_string_type" apos) [e] [⟨some "name", .Constant (.bool nb) ck cp, kp⟩] pos) env = (do
      let ov ← eval o env
      standAt apos.atName
      let (f, first) ← holding [ov] (getMethod ov "_convert_string_type" pl)
      callWith pos f first (backTo pos (starEach [e] env)) (backToKw pos (keywordEach [⟨some "name", .Constant (.bool nb) ck cp, kp⟩] env)))) (hst : isStarred e = false) :
    EvJ X n env ρ (.Call (.Attribute o "_convert_string_type" apos) [e] [⟨some "name", .Constant (.bool nb) ck cp, kp⟩] pos) (.str x) := .mk fun A E s av b G a V => by
  refine methodCall_KW (wpAny_mono (h1.run A E s av b G a V) (fun u s₁ q₁ => ?_) fun _ _ e => e) he
  obtain ⟨q₁, r₁⟩ := q₁
  have a1 := a.step q₁
  refine instMethod (f := 147) hi q₁.ok r₁ (by k_is) (by k_is) (by k_is) (by decide) ?_
  refine callWith_KW q₁.ok.K (by k_is) rfl (wpAny_mono ((EvsJ.cons h2 .nil (starEach_of hst)).run pos A E s₁ av b q₁.ok a1 (V.step G a q₁)) (fun vs s₂ q₂ => kwAll_cons (wpAny_Constant_bool (kwAll_nil ⟨q₂.1.ok.K, ?_⟩))) fun _ _ e => e) (by rw [starEach_of hst]; rfl) (starEach_of hst)
  exact wpAny_mono ((c_conv hx h).run A E s₂ av (u :: vs) (b.le hn1) q₂.1.ok (a1.step q₂.1) (.cons (r₁.step a1 q₂.1) q₂.2)) (fun r s₃ z => ⟨(q₁.trans q₂.1).trans z.1, z.2⟩) fun _ _ e => e
end
noncomputable def getAll (es : List (Str × Str)) (nm : Str) : List Str := (es.filter fun p => Txt.lower p.1 == Txt.lower nm).map (·.2)
theorem c_getAll {X : Cx} {es : List (Str × Str)} {nm : Str} (hn : (Txt.lower nm).length ≤ 1000000) (hm : reMiss codeName (Txt.lower nm) = true) (hl : ∀ p ∈ es, (Txt.lower p.1).length ≤ 1000000) (hlen : es.length ≤ 1000) : CallJ X 2 (.ref 185) [.hdr es, .str nm] (.list ((getAll es nm).map V.str)) := by
  refine CallJ.fn (ns := [Str.ofString "self", Str.ofString "name"]) [(Str.ofString "self", .hdr es), (Str.ofString "name", .str nm)] rfl (by k_is) (by k_is) ?_ rfl (by decide) (by kernel_rfl) ?_ (by kernel_rfl) (by kernel_rfl) (by kernel_rfl) (by decide)
  · exact bind2 fun _ _ => by kernel_rfl
  · intro L
    refine ExJ.cons (StJ.assign (d := .str (Txt.lower nm)) (EvJ.hconv (nb := true) (by k_upd) (EvJ.meth0 (by k_upd) (MethJ.lower hn) (fun w => rfl) (by kernel_rfl)) .hdr hn hm (by decide) (by rfl) (by kernel_rfl)) (Stores.none (.inr ⟨by kernel_rfl, L + 1, rfl, Nat.lt_add_of_pos_right (by decide)⟩)) (by kernel_rfl)) ?_
    apply ExJ.ret
    apply StJ.ret
    refine EvJ.comp1 (ds := es.map pairV) (zs := (getAll es nm).map V.str) (ρc := [(Str.ofString "name", .str (Txt.lower nm))]) (.list (EvJ.hattr (by k_upd)) .name) (by k_clsL) (by decide) rfl (fun C => ?_) (by rw [List.length_map]; unfold getAll; rw [List.length_map]; exact Nat.le_trans (List.length_filter_le ..) hlen) (fun x => rfl)
    rw [show (getAll es nm).map V.str = es.flatMap fun p => if (Txt.lower p.1 == Txt.lower nm) = true then [V.str p.2] else [] by
      unfold getAll; rw [List.map_map]; exact (flatMap_if _ _ _).symm]
    refine BdsJ.of pairV _ _ fun p hp => ⟨_, Txt.lower p.1 == Txt.lower nm, TgJ.name (Stores.none (.inl (by kernel_rfl))), Sub.lk (by k_subL), TsJ.one ?_, fun h => ?_, fun h => ?_⟩
    · refine TrJ.cmp (EvJ.meth0 (x := .str p.1) (EvJ.sub (x := pairV p) (by k_upd) (by k_upd) (GetJ.tup (l := [.str p.1, .str p.2]) (by decide) (by decide) rfl) (fun _ _ => by with_unfolding_all rfl)) (MethJ.lower (hl p hp)) (fun w => rfl) (by kernel_rfl)) (by k_upd) CmpJ.eqs (by kernel_rfl)
    · rw [if_pos h]
      exact EmJ.elt (EvJ.sub (x := pairV p) (by k_upd) (by k_upd) (GetJ.tup (l := [.str p.1, .str p.2]) (by decide) (by decide) rfl) (fun _ _ => by with_unfolding_all rfl))
    · rw [h]; rfl
theorem c_items {X : Cx} {es : List (Str × Str)} (hlen : es.length ≤ 1000) : CallJ X 1 (.ref 210) [.hdr es] (.list (es.map pairV)) := by
  refine CallJ.fn (ns := [Str.ofString "self"]) [(Str.ofString "self", .hdr es)] rfl (by k_is) (by k_is) ?_ rfl (by decide) (by kernel_rfl) ?_ (by kernel_rfl) (by kernel_rfl) (by kernel_rfl) (by decide)
  · exact bind1 fun _ => by kernel_rfl
  · intro L
    apply ExJ.ret
    apply StJ.ret
    refine EvJ.slice (l := none) (u := none) (EvJ.hattr (by k_upd)) trivial trivial (SliJ.all (by rw [List.length_map]; k_data)) (fun _ _ => by with_unfolding_all rfl)
end
section
section
variable {X : Cx} {n : Nat} {env : Env} {ρ : List (Str × V)} {hb : Heap} {av0 : Addr → Prop}
theorem Inv.relay {T : List Addr} {h h' : Heap} {m : Str → Option Value} (I : Inv X hb av0 env ρ none none h) (G' : GOk X h') (hm : h.Ns env.locals m) (hm' : h'.Ns env.locals m) (k : ∀ b o, ¬ tab b → b ∉ T → b ≠ env.locals → h.get? b = some o → h'.get? b = some o)
    (hT : ∀ b ∈ T, av0 b ∧ hb.get? b = none ∧ Lv h' b) : Inv X hb av0 env ρ none none h' := by
  have cellT : ∀ y c v, env.cells.lookup y = some c → h.IsCell c v → c ∉ T ∧ c ≠ env.locals ∧ ¬ tab c := fun y c v hc hi => ⟨fun q => by
    rcases I.cs y c hc with ⟨o, e⟩ | ⟨lt, _⟩
    · rw [(hT c q).2.1] at e; cases e
    · exact I.d2 y c hc lt (hT c q).1, ns_cell hm hi, cell_nt I.ok hi⟩
  have cell : ∀ y c v, env.cells.lookup y = some c → h.IsCell c v → h'.IsCell c v := fun y c v hc hi => by
    obtain ⟨c1, c2, c3⟩ := cellT y c v hc hi
    obtain ⟨o, ho, hd⟩ := hi
    exact ⟨o, k c o c3 c1 c2 ho, hd⟩
  have mv : ∀ {v : Value} {d : V}, R (AvB av0 env none) h v d → R (AvB av0 env none) h' v d := fun r => r.move (fun b o nb e => k b o (fun t => nb (.inl (I.tab0 b t))) (fun q => nb (.inl (hT b q).1)) (fun q => nb (.inr (.inl q))) e) fun _ q => .inl q
  refine ⟨G', fun b o t e => k b o t (fun q => by rw [(hT b q).2.1] at e; cases e) (fun q => Nat.lt_irrefl _ (Nat.lt_of_lt_of_le (Heap.lt_size e) (q ▸ I.fl))) (I.ext b o t e), I.base, ⟨I.avk.tab, fun b q => ?_⟩,
    ⟨I.en.fn, I.en.gl, I.en.bl, I.en.loc, ⟨m, hm', fun y d h1 h2 => ?_⟩, fun y d hy => (I.en.cl y d hy).imp id fun ⟨h1, c, v, h2, ha, h3, r⟩ => ⟨h1, c, v, h2, ha, cell y c _ h2 h3, mv r⟩⟩, I.fl, I.cs, fun y c h1 h2 => let ⟨v, b⟩ := I.fc y c h1 h2; ⟨v, cell y c _ h2 b⟩, I.ap, I.d1, I.d2, I.d3, trivial⟩
  · by_cases t : tab b
    · obtain ⟨ps, e, r, _⟩ := (G'.tabs t).ex
      exact .tab e r
    by_cases q1 : b ∈ T
    · exact (hT b q1).2.2
    by_cases q2 : b = env.locals
    · subst q2; exact .ns hm'
    · exact (I.avk.live b q).keep fun o e => k b o t q1 q2 e
  · obtain ⟨m2, hm2, hr⟩ := I.en.ns
    have : m2 = m := by
      obtain ⟨o1, es1, ep1, g1, d1, _, f1⟩ := hm
      obtain ⟨o2, es2, ep2, g2, d2, _, f2⟩ := hm2
      rw [g1] at g2; cases g2; rw [d1] at d2; cases d2
      exact funext fun z => (f2 z).symm.trans (f1 z)
    subst this
    obtain ⟨v, e, r⟩ := hr y d h1 h2
    exact ⟨v, e, mv r⟩
end
noncomputable def restOf (h : Heap) (a b : Addr) : List (Addr × Obj) := (List.range h.objs.size).filterMap fun c => if c = a ∨ c = b then none else (h.get? c).map (c, ·)
theorem restOf_mem {h : Heap} {a b c : Addr} {o : Obj} (e : h.get? c = some o) (h1 : c ≠ a) (h2 : c ≠ b) : (c, o) ∈ restOf h a b :=
  List.mem_filterMap.mpr ⟨c, List.mem_range.mpr (Heap.lt_size e), by rw [if_neg (fun q => q.elim h1 h2), e]; rfl⟩
theorem restOf_of {h : Heap} {a b : Addr} {p : Addr × Obj} (q : p ∈ restOf h a b) : h.get? p.1 = some p.2 ∧ p.1 ≠ a ∧ p.1 ≠ b := by
  obtain ⟨c, _, e⟩ := List.mem_filterMap.mp q
  split at e
  · cases e
  · rename_i hn
    obtain ⟨o, ho, rfl⟩ := Option.map_eq_some_iff.mp e
    exact ⟨ho, fun z => hn (.inl z), fun z => hn (.inr z)⟩
theorem setHeaders {X : Cx} {A : Around} {E : Value → Shared → Prop} {s : Shared} {x dx L : Addr} {m : Str → Option Value} {v : Value} {Q : Unit → Shared → Prop} (G : GOk X s.heap) (hns : s.heap.Ns L m) (h1 : s.heap.get? x = some (instObj 246 dx)) (h2 : s.heap.get? dx = some (dictOf [] 0)) (hL : dx ≠ L)
    (hQ : ∀ h' hs t k, (∀ b o, b ≠ dx → b ≠ L → s.heap.get? b = some o → h'.get? b = some o) → h'.Ns L m → h'.get? dx = some (dictOf [⟨hs, .str (Str.ofString "_headers") t, v⟩] k) → Q () { s with heap := h', toks := s.toks + 2 }) :
    wpAny (MX X) A (setAttr (.ref x) (Str.ofString "_headers") v) Q E s := by
  have hs : findIn (KK X.w.params) (.ref 246) "__setattr__" = some (some (.builtin "object.__setattr__")) := by k_is
  have hp : plainOver (KK X.w.params) 246 = true := by k_is
  have ht : takerIn (KK X.w.params) 246 (Str.ofString "_headers") = some none := by k_is
  have hh : hasDictIn (KK X.w.params) 246 = true := by k_is
  have F : Fr ⟨#[], s.heap.life⟩ L s.heap m := ⟨hns, fun b o e => by have := Heap.lt_size e; exact absurd this (Nat.not_lt_zero _), Nat.zero_le _⟩
  have N : News ⟨#[], s.heap.life⟩ L s.heap ([] ++ (dx, dictOf [] 0) :: restOf s.heap dx L) := fun p q => by
    have nn : ∀ b : Addr, (⟨#[], s.heap.life⟩ : Heap).get? b = none := fun b => Heap.get?_none_of_le (Nat.zero_le _)
    rcases List.mem_cons.mp q with rfl | q
    · exact ⟨h2, hL, nn _⟩
    · obtain ⟨a1, a2, a3⟩ := restOf_of q
      exact ⟨a1, a3, nn _⟩
  refine set_plain G.K (instAt h1 h2) hs (osa_dict (s := { s with toks := s.toks + 1 }) F N G.K (instAt h1 h2) rfl hp ht hh rfl (fun _ q => nomatch q) (fun p q => (restOf_of q).2.1) (putName_dict ..) rfl (Nat.le_of_ble_eq_true rfl) fun h' F' N' => ?_)
  exact hQ h' _ _ _ (fun b o n1 n2 e => (N' (b, o) (.tail _ (restOf_mem e n1 n2))).1) F'.ns (N' _ (.head _)).1
section
variable {X : Cx} {n : Nat} {env : Env} {ρ : List (Str × V)}
theorem EvJ.typeRaw {e : Expr} {pos p : Pos} {l : Addr} {o : Obj} {nm : Str} {T : String} {fr : Frag} (hf : GlV X n env ρ (.Name nm p) (.type "type")) (h : EvJ X n env ρ e (.raw (.ref l) ((l, o) :: fr))) (hT : o.cls = .type T) (hst : isStarred e = false) (hnb : (Value.type T == Value.type "builtin_function_or_method") = false) : EvJ X n env ρ (.Call (.Name nm p) [e] [] pos) (.raw (.type T) []) := .mk fun A E s av b G a VV => by
  refine wpAny_Call_Name_kw (wpAny_mono (hf.run A E s av b G VV) (fun v s₁ q => ?_) fun _ _ e => e)
  obtain ⟨rfl, rfl⟩ := q
  refine PyProof.Rows.callWith_type (backTo_of (l := [e]) (by rw [List.any_cons, hst]; rfl)) ?_
  have := (EvsJ.cons h .nil (starEach_of hst)).run pos A E s₁ av b G a VV
  rw [starEach_of hst] at this ⊢
  refine evalArgs_plain (wpAny_mono this (fun vs s₂ q => ?_) fun _ _ e => e)
  obtain ⟨q2, r2⟩ := q
  (have hx := Rs.consI r2; clear r2; obtain ⟨_, _, rfl, r2, rs⟩ := hx)
  case _ =>
  (first | (obtain ⟨_, rfl⟩ := R.intI rs; clear rs) | (obtain ⟨_, rfl⟩ := R.strI rs; clear rs) | (obtain rfl := R.boolI rs; clear rs) | (obtain rfl := Rs.nilI rs; clear rs) | (obtain rfl := R.noneI rs; clear rs) | cases rs); cases r2 with
  | raw _ _ hr => exact call_type_of (Tx := T) ⟨o, (hr _ (.head _)).2, hT⟩ hnb ⟨q2, .raw _ _ fun _ q => nomatch q⟩
theorem EvJ.rawList {e : Expr} {l : Addr} {fr : Frag} (h : EvJ X n env ρ e (.raw (.ref l) ((l, ⟨.type "list", none, .seq #[], #[]⟩) :: fr))) : EvJ X n env ρ e (.list []) := .mk fun A E s av b G a VV =>
  wpAny_mono (h.run A E s av b G a VV) (fun v s' q => ⟨q.1, by
    obtain ⟨_, q⟩ := q
    cases q with
    | raw _ _ hr => exact .list (hr _ (.head _)).1 ⟨0, (hr _ (.head _)).2⟩ .nil⟩) fun _ _ e => e
theorem CmpJ.isntNone {l : Addr} {fr : Frag} : CmpJ .IsNot (.raw (.ref l) fr) .none true := .mk fun X n A E s av u v b G k r1 r2 => by (first | (obtain ⟨_, rfl⟩ := R.intI r1; clear r1) | (obtain ⟨_, rfl⟩ := R.strI r1; clear r1) | (obtain rfl := R.boolI r1; clear r1) | (obtain rfl := Rs.nilI r1; clear r1) | (obtain rfl := R.noneI r1; clear r1) | cases r1); (first | (obtain ⟨_, rfl⟩ := R.intI r2; clear r2) | (obtain ⟨_, rfl⟩ := R.strI r2; clear r2) | (obtain rfl := R.boolI r2; clear r2) | (obtain rfl := Rs.nilI r2; clear r2) | (obtain rfl := R.noneI r2; clear r2) | cases r2); exact wpAny_isNot_plain rfl ⟨.refl G, rfl⟩
theorem CmpJ.isntNoneS {x : Str} : CmpJ .IsNot (.str x) .none true := .mk fun X n A E s av u v b G k r1 r2 => by (first | (obtain ⟨_, rfl⟩ := R.intI r1; clear r1) | (obtain ⟨_, rfl⟩ := R.strI r1; clear r1) | (obtain rfl := R.boolI r1; clear r1) | (obtain rfl := Rs.nilI r1; clear r1) | (obtain rfl := R.noneI r1; clear r1) | cases r1); (first | (obtain ⟨_, rfl⟩ := R.intI r2; clear r2) | (obtain ⟨_, rfl⟩ := R.strI r2; clear r2) | (obtain rfl := R.boolI r2; clear r2) | (obtain rfl := Rs.nilI r2; clear r2) | (obtain rfl := R.noneI r2; clear r2) | cases r2); exact wpAny_isNot_plain rfl ⟨.refl G, rfl⟩
end
theorem c_init {X : Cx} {A : Around} {s : Shared} {x dx l : Addr} {R' : Result → Shared → Prop} (b : Bud 2 A) (G : GOk X s.heap) (h1 : s.heap.get? x = some (instObj 246 dx)) (h2 : s.heap.get? dx = some emptyDict) (h3 : s.heap.get? l = some ⟨.type "list", none, .seq #[], #[]⟩)
    (nx : ¬ tab x) (hdx : X.S.objs.size ≤ dx) (nl : ¬ tab l) (hR : ∀ h' tk hs t k, GOk X h' → (∀ b o, ¬ tab b → b ≠ dx → s.heap.get? b = some o → h'.get? b = some o) → h'.get? dx = some (dictOf [⟨hs, .str (Str.ofString "_headers") t, .ref l⟩] k) → R' (.ok (.ret .none)) { s with heap := h', toks := tk }) :
    codeAny (MX X) A (.call (.ref 140) ⟨[.ref x, .ref l], []⟩) R' s := by
  have ne1 : x ≠ dx := fun q => by rw [q, h2] at h1; cases h1
  have ne2 : l ≠ dx := fun q => by
    rw [q, h2] at h3
    injection h3 with h3
    injection h3 with c _ _ _
    injection c with c
    exact absurd c (by decide)
  have ndx : ¬ tab dx := X.ntab hdx
  refine codeInv (n := 1) (av := fun b => tab b ∨ b = dx) (hb := hideAll s.heap [dx]) (binds := [(Str.ofString "self", .ref x), (Str.ofString "headers", .ref l)]) [(Str.ofString "self", .raw (.ref x) [(x, instObj 246 dx)]), (Str.ofString "headers", .raw (.ref l) [(l, ⟨.type "list", none, .seq #[], #[]⟩)])]
    (by k_is) (by k_is) (.of_defaults (T := 133) rfl (G.K _ _ (by k_is)) rfl rfl (by kernel_rfl)) (by kernel_rfl) (by kernel_rfl) b G (hideAll_size _ _) (fun b o e => of_hideAll _ e) ⟨fun b t => .inl t, fun b q => ?_⟩ (fun y d hy => ?_) (fun h₁ tk keep bd I => ?_) rfl rfl rfl
  · rcases q with t | rfl
    · obtain ⟨ps, e, r, _⟩ := (G.tabs t).ex
      exact .tab e r
    · exact ⟨⟨_, h2⟩, fun o vs q t e hd => by rw [h2] at e; cases e; cases hd⟩
  · revert y d hy
    refine lk_cons ?_ (lk_cons ?_ (lk_nil))
    · exact ⟨.ref x, by kernel_rfl, .raw _ _ fun p q => by cases List.mem_singleton.mp q; exact ⟨fun z => z.elim nx ne1, h1⟩⟩
    · exact ⟨.ref l, by kernel_rfl, .raw _ _ fun p q => by cases List.mem_singleton.mp q; exact ⟨fun z => z.elim nl ne2, h3⟩⟩
  refine wpAny_execs_cons (wpAny_mono (StJ.run (X := X) (n := 1) (ω := none) (ρ := [(Str.ofString "self", .raw (.ref x) [(x, instObj 246 dx)]), (Str.ofString "headers", .raw (.ref l) [(l, ⟨.type "list", none, .seq #[], #[]⟩)])])
    (out := .next ((Str.ofString "headers", .raw (.ref l) [(l, ⟨.type "list", none, .seq #[], #[]⟩)]) :: [(Str.ofString "self", .raw (.ref x) [(x, instObj 246 dx)]), (Str.ofString "headers", .raw (.ref l) [(l, ⟨.type "list", none, .seq #[], #[]⟩)])]) none)
    (StJ.assign (EvJ.ite (b := true) (TrJ.cmp (by k_upd) EvJ.nonec CmpJ.isntNone (by kernel_rfl)) (fun _ => by k_upd) fun h => nomatch h) (Stores.none (.inl (by kernel_rfl))) (by kernel_rfl)) _ _ _ _ _ none bd I) (fun fl s1 z1 => ?_) fun _ _ e => e)
  obtain ⟨sm1, rfl, oa1, I1, oo1⟩ := z1
  have ho1 : oa1 = none := by
    have := I1.own
    cases oa1 with
    | none => rfl
    | some a => exact this.elim
  subst ho1
  refine wpAny_execs_cons (wpAny_mono (StJ.run (X := X) (n := 1) (ω := none) (out := .next _ none)
    (StJ.iteF (TrJ.cmp (EvJ.typeRaw (T := "list") (GlV.builtin (by kernel_rfl) (by k_is) (by decide) (by decide +kernel) (by kernel_rfl)) (by k_upd) rfl (by kernel_rfl) (by decide +kernel))
      (EvJ.ofG (v := .type "list") (d := .raw (.type "list") []) (GlV.builtin (by kernel_rfl) (by k_is) (by decide) (by decide +kernel) (by kernel_rfl)) fun _ _ => .raw _ _ fun _ q => nomatch q) CmpJ.isntT (by kernel_rfl)) (by decide) ExJ.nil) _ _ _ _ _ none bd I1) (fun fl s2 z2 => ?_) fun _ _ e => e)
  obtain ⟨sm2, rfl, oa2, I2, oo2⟩ := z2
  have ho2 : oa2 = none := by
    have := I2.own
    cases oa2 with
    | none => rfl
    | some a => exact this.elim
  subst ho2
  have sm12 := sm1.trans sm2
  -- self._headers = headers
  refine wpAny_execs_cons (plainObj_wpAny_Assign_Attribute (wpAny_mono ((EvJ.name (X := X) (n := 1) (x := Str.ofString "headers") (d := .raw (.ref l) [(l, ⟨.type "list", none, .seq #[], #[]⟩)]) (by apply Lk.lk; k_memK) (by kernel_rfl) (by kernel_rfl)).run _ _ _ _ bd I2.ok I2.avk I2.en) (fun v s3 q3 => wpAny_mono ((EvJ.name (X := X) (n := 1) (x := Str.ofString "self") (d := .raw (.ref x) [(x, instObj 246 dx)]) (by apply Lk.lk; k_memK) (by kernel_rfl) (by kernel_rfl)).run _ _ _ _ bd q3.1.ok (I2.step q3.1).avk (I2.step q3.1).en) (fun u s4 q4 => ?_) fun _ _ e => e) fun _ _ e => e) (by kernel_rfl))
  obtain ⟨q3, r3⟩ := q3
  obtain ⟨q4, r4⟩ := q4
  have I4 := (I2.step q3).step q4
  have sm4 := (sm12.trans q3.same).trans q4.same
  (first | (obtain ⟨_, rfl⟩ := R.intI r3; clear r3) | (obtain ⟨_, rfl⟩ := R.strI r3; clear r3) | (obtain rfl := R.boolI r3; clear r3) | (obtain rfl := Rs.nilI r3; clear r3) | (obtain rfl := R.noneI r3; clear r3) | cases r3)
  cases r4 with
  | raw _ _ r4 =>
  obtain ⟨m, hm, _⟩ := I4.en.ns
  have nm : ¬ Mut _ none dx := I4.nmut dx (.inr rfl) ndx
  have e2 : s4.heap.get? dx = some emptyDict := sm4.kp dx _ nm (keep dx _ h2)
  have neL : dx ≠ s.heap.objs.size := fun q => by rw [q, size_none] at h2; cases h2
  refine setHeaders I4.ok hm (r4 _ (.head _)).2 e2 neL fun h' hs t k kp hm' hd' => ?_
  have G' : GOk X h' := I4.ok.but (T := [dx, s.heap.objs.size]) (fun a q => by
      rcases List.mem_cons.mp q with rfl | q
      · exact hdx
      · cases List.mem_singleton.mp q; exact G.sz) (fun b o n e => kp b o (fun z => n (z ▸ .head _)) (fun z => n (z ▸ .tail _ (.head _))) e) (fun a q => by
      rcases List.mem_cons.mp q with rfl | q
      · intro o vs q t e hd; rw [e2] at e; cases e; cases hd
      · cases List.mem_singleton.mp q; exact .ns hm)
  have I5 := I4.relay (T := [dx]) G' hm hm' (fun b o t n1 n2 e => kp b o (fun z => n1 (z ▸ .head _)) n2 e) (fun b q => by
      cases List.mem_singleton.mp q
      exact ⟨.inr rfl, hideAll_none _ (.head _), ⟨_, hd'⟩, fun o vs q t e hd => by rw [hd'] at e; cases e; cases hd⟩)
  refine wpAny_execs_cons (wpAny_mono (StJ.run (X := X) (n := 1) (ω := none) (out := .next _ none)
    (StJ.iteT (TrJ.val EvJ.boolc TruJ.bool fun _ => rfl) rfl (ExJ.one (StJ.for (.list (EvJ.rawList (by k_upd)) (.tup fun _ q => nomatch q)) (.nil ExJ.nil) fun _ => rfl))) _ _ _ _ _ none bd I5) (fun fl s6 z6 => ?_) fun _ _ e => e)
  obtain ⟨sm6, rfl, oa6, I6, _⟩ := z6
  refine wpAny_execs_nil ?_
  have nm6 : ¬ Mut _ none dx := nm
  obtain ⟨h4, t4, e4⟩ := sm4.eq
  obtain ⟨h6, t6, e6⟩ := sm6.eq
  have fin := hR h6 t6 hs t k (by rw [e6] at I6; exact I6.ok) (fun b o nt nd e => ?_) (by have := sm6.kp dx _ nm6 hd'; rw [e6] at this; exact this)
  · rw [e6, e4]; exact fin
  · have nmb : ∀ env : Env, env.locals = s.heap.objs.size → env.cells = [] → ¬ Mut env none b := by
      rintro env q1 q2 (q | q | ⟨_, y, q⟩ | q)
      · exact nt q
      · rw [q.trans q1, size_none] at e; cases e
      · rw [q2] at q; cases q
      · cases q
    have a1 := kp b o nd (fun q => by rw [q, size_none] at e; cases e) (sm4.kp b o (nmb _ rfl rfl) (keep b o e))
    have := sm6.kp b o (nmb _ rfl rfl) a1
    rw [e6] at this; exact this
theorem c_newHdr {X : Cx} {A : Around} {E : Value → Shared → Prop} {s : Shared} {l : Addr} {Q : Value → Shared → Prop} (b : Bud 4 A) (G : GOk X s.heap) (h3 : s.heap.get? l = some ⟨.type "list", none, .seq #[], #[]⟩) (nl : ¬ tab l)
    (hQ : ∀ h' tk x dx hs t k, x ≠ dx → s.heap.get? x = none → s.heap.get? dx = none → X.S.objs.size ≤ x → X.S.objs.size ≤ dx → GOk X h' → (∀ b o, ¬ tab b → s.heap.get? b = some o → h'.get? b = some o) → h'.get? x = some (instObj 246 dx) →
      h'.get? dx = some (dictOf [⟨hs, .str (Str.ofString "_headers") t, .ref l⟩] k) → Q (.ref x) { s with heap := h', toks := tk }) : wpAny (MX X) A (call (.ref 246) [.ref l]) Q E s := by
  refine wpAny_call ?_
  obtain ⟨hh, g, d, t, os⟩ := s
  have G : GOk X hh := G
  have h3 : hh.get? l = some ⟨.type "list", none, .seq #[], #[]⟩ := h3
  have kp : ∀ b o, hh.get? b = some o → ((hh.push emptyDict).push (instObj 246 hh.objs.size)).get? b = some o := fun b o e => Heap.get?_push_of_some _ (Heap.get?_push_of_some _ e)
  have G2 : GOk X ((hh.push emptyDict).push (instObj 246 hh.objs.size)) := G.keeps kp
  have ex : ((hh.push emptyDict).push (instObj 246 hh.objs.size)).get? (hh.objs.size + 1) = some (instObj 246 hh.objs.size) := by
    have := Heap.get?_push_size (hh.push emptyDict) (o := instObj 246 hh.objs.size) rfl
    rwa [Heap.size_push] at this
  have edx : ((hh.push emptyDict).push (instObj 246 hh.objs.size)).get? hh.objs.size = some emptyDict := Heap.get?_push_of_some _ (Heap.get?_push_size _ rfl)
  refine make_core (makes_of G.K (by k_is)) (looks_findIn (r := some (.ref 140)) G.K (by k_is)) (fun self => bind_fn G.K self (by k_is)) (.inl rfl) ?_
  refine c_init ⟨b.hh, ?_, ?_⟩ G2 ex edx (kp _ _ h3) (X.ntab (Nat.le_succ_of_le G.sz)) G.sz nl fun h' tk hs t' k G' k' hd' => ⟨rfl, ?_⟩
  · have w : (Code.builtin "type.__call__" ⟨.ref 246 :: [.ref l], []⟩).weight = 1 := by kernel_rfl
    have := b.d
    show A.depth + (Code.builtin "type.__call__" ⟨.ref 246 :: [.ref l], []⟩).weight + 2 < _
    k_data
  · have w : (Code.builtin "type.__call__" ⟨.ref 246 :: [.ref l], []⟩).cUnits = 1 := by kernel_rfl
    have := b.u
    show A.units + (Code.builtin "type.__call__" ⟨.ref 246 :: [.ref l], []⟩).cUnits + 8 * 2 + 16 < _
    k_data
  · exact hQ h' tk _ _ hs t' k (Nat.succ_ne_self _) (Heap.get?_none_of_le (Nat.le_succ _)) (size_none _) (Nat.le_succ_of_le G.sz) G.sz G' (fun b o nt e => k' b o nt (fun q => by rw [q, size_none] at e; cases e) (kp b o e))
      (k' _ _ (X.ntab (Nat.le_succ_of_le G.sz)) (Nat.succ_ne_self _) ex) hd'
end
section
noncomputable def gH (l : Addr) : Gh where
  a := l
  σ := List (Str × Str)
  P := fun es av h => ∃ vs : List Value, h.PlainList l vs.toArray ∧ Rs (fun b => av b ∨ b = l) h vs (es.map pairV)
  mv := fun {x av av' h h'} k ha ⟨vs, h1, h2⟩ => ⟨vs, h1.at fun o e => k _ o (.inl rfl) e, h2.move (fun b o nb e => k b o (.inr fun q => nb (.inl q)) e) fun b q => q.elim (fun q => (ha b q).elim (fun q => .inl (.inl q)) fun q => q.imp .inr id) fun q => .inl (.inr q)⟩
  lv := fun ⟨vs, h1, _⟩ => .list h1.isList
section
variable {X : Cx} {n : Nat} {env : Env} {ρ ρ' : List (Str × V)} {ω ω' : Option Own} {hb : Heap} {av0 : Addr → Prop} {oa : Option Addr}
theorem runSt {A : Around} {E : Value → Shared → Prop} {s : Shared} {st : Stmt} {ss : List Stmt} {Q : Flow → Shared → Prop} (h : StJ X n env ρ ω st (.next ρ' ω')) (b : Bud n A) (I : Inv X hb av0 env ρ ω oa s.heap)
    (k : ∀ s₁ oa', Same env oa s s₁ → OaOk oa s.heap oa' → Inv X hb av0 env ρ' ω' oa' s₁.heap → wpAny (MX X) A (execs ss env) Q E s₁) : wpAny (MX X) A (execs (st :: ss) env) Q E s :=
  wpAny_execs_cons (wpAny_mono (h.run A E s hb av0 oa b I) (fun fl s₁ z => by
    obtain ⟨z1, rfl, oa', I', o⟩ := z
    exact k s₁ oa' z1 o I') fun _ _ e => e)
theorem Inv.oaNone {h : Heap} (I : Inv X hb av0 env ρ none oa h) : oa = none := by
  have := I.own
  cases oa with
  | none => rfl
  | some a => exact this.elim
theorem EvJ.hattrR {y : Str} {p pos : Pos} {x dx l : Addr} {hs : Int} {t : Tok} {k : Nat} (h : EvJ X n env ρ (.Name y p) (.raw (.ref x) (instFr x dx l hs t k))) : EvJ X n env ρ (.Attribute (.Name y p) "_headers" pos) (.raw (.ref l) []) := .mk fun A E s av b G a VV => by
  rw [arm_eval_Attribute]
  refine wpAny_bind (wpAny_mono (h.run A E s av b G a VV) (fun u s₁ q => ?_) fun _ _ e => e)
  obtain ⟨q, r⟩ := q
  cases r with
  | raw _ _ r =>
  refine wpAny_bind (wpAny_standAt (wpAny_bind (wpAny_holding (getHeaders q.ok (r _ (.head _)).2 (r _ (.tail _ (.head _))).2 rfl (wpAny_bind (wpAny_pure ?_))))))
  exact wpAny_pure ⟨q.trans (.tok q.ok), .raw _ _ fun _ q => nomatch q⟩
noncomputable abbrev dict0 : Obj := { cls := .type "dict", data := .dict #[] }
theorem WkJ.noItems {target : Expr} {nm : Str} {p apos pos : Pos} {d : Addr} (h1 : EvJ X n env ρ (.Name nm p) (.raw (.ref d) [(d, dict0)])) (hsm : (d == sysModules) = false) (hb : ∀ w, attributeBase (.Name nm p) "items" env w = w) (hp : (apos.endLine == pos.line) = true) :
    WkJ X n env ρ target (.Call (.Attribute (.Name nm p) "items" apos) [] [] pos) [] := .mk fun A E s av b G a VV => by
  rw [arm_eval_Call, hb]
  refine wpAny_bind (wpAny_mono (h1.run A E s av b G a VV) (fun u s₁ q₁ => wpAny_bind (wpAny_standAt ?_)) fun _ _ e => e)
  obtain ⟨q₁, r₁⟩ := q₁
  cases r₁ with
  | raw _ _ r =>
  obtain ⟨nd, ed⟩ := r _ (.head _)
  have T : s₁.TypeIs (.ref d) "dict" := ⟨_, ed, rfl⟩
  have D : s₁.heap.DictAt (strKind Prog X.w) d [] 0 := ⟨_, #[], ed, ⟨rfl, rfl, rfl⟩, rfl, fun e he => by simp at he, .nil, .nil⟩
  refine methTailO (id := "dict.items") (fun pl Q hQ => getMethod_builtin T PySem.F.plainAttrs_dict F.slot_dict_items F.type_dict_items (fun b e => by cases e; exact ⟨_, ed, rfl⟩) hQ) hp rfl (by show 0 < 20; decide) (callWith_builtin rfl (evalArgs_nil3 ?_))
  refine call_meetsIn F.slot_dict_items T F.entry_dict_items (F.args_dict_items_1 _) (meets_dict_items (strKind Prog X.w) d hsm) ⟨⟨[], D.dictOf⟩, ?_⟩
  have G1 := q₁.ok
  have x2 : Stp X s₁ { s₁ with heap := s₁.heap.push { cls := .type "dict_items", data := .fields #[.ref d] } } := .push G1
  have D2 := D.at' (fun o e => Heap.get?_push_of_some { cls := .type "dict_items", data := .fields #[.ref d] } e)
  refine wpAny_pyIter_items ⟨_, Heap.get?_push_size _ rfl, rfl, rfl⟩ D2 ?_
  have G2 := x2.ok
  refine ⟨(q₁.trans x2).trans (.push G2), _, s₁.heap, [s₁.heap.objs.size + 1], fun _ h => IsItemIter h (s₁.heap.objs.size + 1) d 0 0 0 .none .none, by rw [Heap.size_push], q₁.ext, .of fun _ _ e => Heap.get?_push_of_some _ (Heap.get?_push_of_some _ e), G1, ?_, ?_, ?_⟩
  · show _ ≤ ((s₁.heap.push _).push _).objs.size
    rw [Heap.size_push, Heap.size_push]; exact Nat.le_succ_of_le (Nat.le_succ _)
  · have dd : ∀ h, Off av s₁.heap h → h.DictAt (strKind Prog X.w) d [] 0 := fun h o => D.at' fun _ e => o d _ nd e
    refine { fresh := fun b q => ?_, live := fun i h st b q => ?_, frame := fun i h h' st _ _ k => k _ (.head _) _ st, item := fun i d' s' av' E E' q => ?_, done := fun s' E st o => ?_, self := fun i s' Q E st hQ => kcp_self st hQ }
    · cases List.mem_singleton.mp q; exact Nat.le_succ _
    · cases List.mem_singleton.mp q; exact ⟨⟨_, st⟩, .at st rfl rfl fun _ _ q => nomatch q⟩
    · cases i <;> cases q
    · exact wpAny_pyNext_items_end b.hh st (dd _ o) rfl fun h' hx => ⟨rfl, ⟨h', _, rfl⟩, fun b o hb e => hx b o (fun q => hb (q ▸ .head _)) e, fun b q => by cases List.mem_singleton.mp q; exact .at st rfl rfl fun _ _ q => nomatch q⟩
  · have := Heap.get?_push_size (s₁.heap.push { cls := .type "dict_items", data := .fields #[.ref d] }) (o := { cls := .type "dict_itemiterator", data := .fields #[.none, .bool false, .ref d, .int 0 0, .int 0 0, .int 0 0, .none, .none] }) rfl
    rwa [Heap.size_push] at this
end
end
section
theorem codeInvD {X : Cx} {n : Nat} {A : Around} {R' : Result → Shared → Prop} {s s1 : Shared} {f : Addr} {av : Addr → Prop} {hb : Heap} {name qual : Str} {params : Arguments} {body : List Stmt} {scope : Scope} {dV kV doc pm cdv ct oc : Value} {an od : Option Addr} {osl : Array (Option Value)} {args : Args} {binds : Addr → List (Str × Value)} (ρ : List (Str × V))
    (ho : (KK X.w.params).lookup f = some ⟨oc, od, .func (fnX name qual params body scope [] dV kV doc pm an cdv ct), osl⟩) (hcd : codeIn (KK X.w.params) cdv qual = true)
    (hbind : bindArgs (fnX name qual params body scope [] dV kV doc pm an cdv ct) args = alloc dict0 >>= fun d => pure (binds d)) (hs1 : s1 = { s with heap := s.heap.push dict0 }) (hloc : ((binds s.heap.objs.size)).all (fun y => scope.names.lookup y.1 == some .local) = true) (hcell : scope.names.all (fun x => x.2 != .cell) = true)
    (b : Bud (n + 1) A) (G : GOk X s.heap) (hb1 : hb.objs.size = s1.heap.objs.size) (hb2 : ∀ b o, hb.get? b = some o → s1.heap.get? b = some o) (a : AvOk X av s1.heap)
    (hρ : ∀ y d, ρ.lookup y = some d → ∃ v, (binds s.heap.objs.size).reverse.lookup y = some v ∧ R av s1.heap v d)
    (h : ∀ h₁ tk, (∀ b o, s1.heap.get? b = some o → h₁.get? b = some o) → Bud n (A.deeper (envX qual scope s1.heap.objs.size f cdv [])) → Inv X hb av (envX qual scope s1.heap.objs.size f cdv []) ρ none none h₁ →
      wpAny (MX X) (A.deeper (envX qual scope s1.heap.objs.size f cdv [])) (execs body (envX qual scope s1.heap.objs.size f cdv [])) (fun fl s' => R' (.ok (.ret (flv fl))) s')
        (fun e s' => wpAny (MX X) (A.deeper (envX qual scope s1.heap.objs.size f cdv [])) (leaving (envX qual scope s1.heap.objs.size f cdv []) e) (fun _ s'' => R' (.error e) s'') (fun e' s'' => R' (.error e') s'') s') { s1 with heap := h₁, toks := tk })
    (hco : scope.isCoroutine = false) (hgen : scope.isGenerator = false) (hk : scope.kind = .function) : codeAny (MX X) A (.call (.ref f) args) R' s := by
  have loc : ∀ y ∈ binds s.heap.objs.size, scope.names.lookup y.1 = some .local := fun y hy => by simpa using List.all_eq_true.mp hloc y hy
  have G1 : GOk X s1.heap := hs1 ▸ G.keeps fun _ _ e => Heap.get?_push_of_some _ e
  refine codeAny_call_function (fd := fnX name qual params body scope [] dV kV doc pm an cdv ct) b.depth (G.K _ _ ho) rfl hco hgen rfl (codeRec_of G.K hcd) ?_
  rw [hbind]
  refine wpAny_bind (wpAny_alloc (wpAny_pure ?_))
  rw [← hs1]
  refine wpAny_newFunctionEnv (fun z hz => by simpa using List.all_eq_true.mp hcell z hz) loc (fun h₁ hns hsb => ⟨G1.nolimit.fresh _ hsb, codeAny_func ?_⟩) hk
  have keep : ∀ b o, s1.heap.get? b = some o → h₁.get? b = some o := fun b o e => hsb.extBut b o (Nat.ne_of_lt (Heap.lt_size e)) (Heap.get?_push_of_some _ e)
  refine wpAny_mono (h h₁ _ keep ⟨b.hh, by have := b.d; show A.depth + 1 + n < _; k_data, by have := b.u; show A.units + 3 + 8 * n + 16 < _; k_data⟩
    (frameInv G1 hb1 hb2 a.tab a.live (fun _ q => nomatch q) (fun z hz => by simpa using List.all_eq_true.mp hcell z hz) (fun z d hz => ?_) (fun z c hc => by cases hc) (fun _ _ => trivial) hns keep hk)) (fun fl s' z => z) fun _ _ z => z
  obtain ⟨v, hv, r'⟩ := hρ z d hz
  have hm := mem_of_lookup hv
  exact .inl ⟨loc (z, v) (List.mem_reverse.mp hm), v, hv, r'.move (fun _ _ _ e => e) fun b q => .inl (q.resolve_right fun q => nomatch q)⟩
end
section
theorem runS {X : Cx} {n : Nat} {env : Env} {ρ ρ' : List (Str × V)} {ω ω' : Option Own} {hb : Heap} {av0 : Addr → Prop} {oa : Option Addr} {A : Around} {E : Value → Shared → Prop} {s0 s : Shared} {st : Stmt} {ss : List Stmt} {Q : Flow → Shared → Prop} (h : StJ X n env ρ ω st (.next ρ' ω')) (b : Bud n A) (sm : Same env none s0 s ∧ OaOk none s0.heap oa) (I : Inv X hb av0 env ρ ω oa s.heap)
    (k : ∀ s₁ oa', Same env none s0 s₁ ∧ OaOk none s0.heap oa' → Inv X hb av0 env ρ' ω' oa' s₁.heap → wpAny (MX X) A (execs ss env) Q E s₁) : wpAny (MX X) A (execs (st :: ss) env) Q E s :=
  runSt h b I fun s₁ oa' x o I' => k s₁ oa' ⟨sm.1.trans' sm.2 x, sm.2.trans o sm.1⟩ I'
theorem callAppend {X : Cx} {n : Nat} {env : Env} {ρ : List (Str × V)} {hb : Heap} {av0 : Addr → Prop} {A : Around} {E : Value → Shared → Prop} {s : Shared} {e : Expr} {d : V} {pos : Pos} {l : Addr} {vs0 : List Value} {Q : Value → Shared → Prop} (h : EvJ X n env ρ e d) (hst : isStarred e = false) (b : Bud n A) (I : Inv X hb av0 env ρ none none s.heap)
    (pl : s.heap.PlainList l vs0.toArray) (hl : ¬ tab l) (hlen : vs0.length ≤ 1000) (k : ∀ v s1 h', Stp X s s1 → R (AvB av0 env none) s1.heap v d → h'.PlainList l (vs0.toArray.push v) → Heap.SameBut l s1.heap h' → Q .none { s1 with heap := h' }) : wpAny (MX X) A (callWith pos (.builtin "list.append") [.ref l] (backTo pos (starEach [e] env)) []) Q E s := by
  refine callWith_builtin (by rw [starEach_of hst]; rfl) ?_
  have ev := (EvsJ.cons h EvsJ.nil (starEach_of hst)).run pos A (fun e s' => E e s') s _ b I.ok I.avk I.en
  rw [starEach_of hst] at ev ⊢
  refine evalArgs_plain (wpAny_mono ev (fun vs s₁ q => ?_) fun _ _ e => e)
  obtain ⟨q1, q2⟩ := q
  (have hx := Rs.consI q2; clear q2; obtain ⟨v, _, rfl, r, rs⟩ := hx)
  case _ =>
    (first | (obtain ⟨_, rfl⟩ := R.intI rs; clear rs) | (obtain ⟨_, rfl⟩ := R.strI rs; clear rs) | (obtain rfl := R.boolI rs; clear rs) | (obtain rfl := Rs.nilI rs; clear rs) | (obtain rfl := R.noneI rs; clear rs) | cases rs)
    exact wpAny_list_append_plain (pl.at fun o e => q1.ext l o hl e) (fun h' hl hs' => k v s₁ h' q1 r hl hs') (by rw [List.size_toArray, sizeLine_eq]; k_data)
theorem EvJ.cast {X : Cx} {n : Nat} {env : Env} {ρ : List (Str × V)} {e : Expr} {d d' : V} (q : d = d') (h : EvJ X n env ρ e d) : EvJ X n env ρ e d' := q ▸ h
theorem c_add {X : Cx} {x dx l : Addr} {hs : Int} {t : Tok} {k : Nat} {es : List (Str × Str)} {nm val : Str} (hn : nm.length ≤ 1000) (hv : val.length ≤ 1000) (hmn : reMiss codeName nm = true) (hmv : reMiss codeVal val = true) (hlen : es.length ≤ 1000) :
    CallG X 3 (gH l) es (.raw (.ref 243) []) [.raw (.ref x) (instFr x dx l hs t k), .str nm, .str val] (es ++ [(nm, val)]) .none := .mk fun A E s av u vs b G a hl hlb ru rv hP => by
  refine cps fun Q hQ => ?_
  cases ru with
  | raw _ _ _ =>
  apply Rs.consE rv; intro v1 _ r1 rv
  apply Rs.consE rv; intro v2 _ r2 rv
  apply Rs.consE rv; intro v3 _ r3 rv
  apply Rs.nilE rv
  cases r2 with
  | str _ t2 =>
  cases r3 with
  | str _ t3 =>
  have r1' := r1
  cases r1 with
  | raw _ _ _ =>
  have x1 : Stp X s { s with heap := s.heap.push dict0 } := .push G
  have a1 := a.step x1
  have nd : ¬ av s.heap.objs.size := fun q => by
    obtain ⟨⟨o, e⟩, _⟩ := a.live _ q
    rw [size_none] at e; cases e
  have ed : (s.heap.push dict0).get? s.heap.objs.size = some dict0 := Heap.get?_push_size _ rfl
  have lne : l ≠ s.heap.objs.size := fun q => nd (q ▸ hl)
  refine callOf (codeInvD (n := 2) (av := av) (hb := hideAll (s.heap.push dict0) [l]) (binds := fun d => [(Str.ofString "self", .ref x), (Str.ofString "_name", .str nm t2), (Str.ofString "_value", .str val t3), (Str.ofString "_params", .ref d)])
    [(Str.ofString "self", .raw (.ref x) (instFr x dx l hs t k)), (Str.ofString "_name", .str nm), (Str.ofString "_value", .str val), (Str.ofString "_params", .raw (.ref s.heap.objs.size) [(s.heap.objs.size, dict0)])]
    (by k_is) (by k_is) (by kernel_rfl) rfl (by kernel_rfl) (by kernel_rfl) b G (hideAll_size _ _) (fun b o e => of_hideAll _ e) a1 (fun y d hy => ?_) (fun h₁ tk keep bd I => ?_) rfl rfl rfl)
  · revert y d hy
    refine lk_cons ?_ (lk_cons ?_ (lk_cons ?_ (lk_cons ?_ (lk_nil))))
    · exact ⟨_, by kernel_rfl, r1'.step a x1⟩
    · exact ⟨.str nm t2, by kernel_rfl, .str _ _⟩
    · exact ⟨.str val t3, by kernel_rfl, .str _ _⟩
    · exact ⟨.ref s.heap.objs.size, by kernel_rfl, .raw _ _ fun p q => by cases List.mem_singleton.mp q; exact ⟨nd, ed⟩⟩
  -- parts = []; if _value is not None: ..
  refine runS (X := X) (n := 2) (StJ.own (ds := []) (FrJ.list .nil (by decide)) (.inl (by kernel_rfl)) (by kernel_rfl) (by kernel_rfl)) bd ⟨.refl _, .refl⟩ I fun s2 oa2 sm2 I2 => ?_
  refine runS (X := X) (n := 2) (StJ.iteT (TrJ.cmp (by k_upd) EvJ.nonec CmpJ.isntNoneS (by kernel_rfl)) rfl
    (.cons (StJ.assign (d := .str val) (EvJ.hconv (nb := false) (by k_upd) (by k_upd) .raw (Nat.le_trans hv (by decide)) hmv (by decide) (by rfl) (by kernel_rfl)) (.some (.inl (by kernel_rfl)) (by kernel_rfl)) (by kernel_rfl))
      (.one (StJ.append (d := .str val) (by k_upd) (by decide) (by kernel_rfl) (fun w => rfl) (by kernel_rfl) (by kernel_rfl) (by kernel_rfl) (by kernel_rfl))))) bd sm2 I2 fun s3 oa3 sm3 I3 => ?_
  refine runS (X := X) (n := 2) (StJ.for (ds := []) (WkJ.noItems (by k_upd) ?_ (fun w => rfl) (by kernel_rfl)) (.nil ExJ.nil) fun _ => rfl) bd sm3 I3 fun s4 oa4 sm4 I4 => ?_
  · have h54 : 54 < X.S.objs.size := X.tab_lt (.inr rfl)
    have := G.sz
    exact beq_false_of_ne fun q => by have q : s.heap.objs.size = 1 := q; k_data
  have I4 := I4.freeze
  have sm4 := sm4.1
  -- self._headers.append((.., ..))
  refine wpAny_execs_cons (wpAny_Expr ?_ (by kernel_rfl) (by kernel_rfl))
  rw [arm_eval_Call]
  refine wpAny_bind (wpAny_mono ((EvJ.hattrR (X := X) (n := 2) (x := x) (dx := dx) (l := l) (hs := hs) (t := t) (k := k) (by k_upd)).run _ _ _ _ bd I4.ok I4.avk I4.en) (fun u s5 q5 => wpAny_bind (wpAny_standAt ?_)) fun _ _ e => e)
  obtain ⟨q5, r5⟩ := q5
  cases r5 with
  | raw _ _ _ =>
  have I5 := I4.step q5
  have sm5 := sm4.trans q5.same
  have ntl : ¬ tab l := X.ntab hlb
  obtain ⟨vs0, pl0, rs0⟩ := hP
  have nmut : ∀ b o, ¬ tab b → s.heap.get? b = some o → s5.heap.get? b = some o := fun b o nt e => sm5.kp b o (by
    rintro (q | q | ⟨_, y, q⟩ | q)
    · exact nt q
    · have q : b = (s.heap.push dict0).objs.size := q
      rw [q, Heap.get?_none_of_le (by rw [Heap.size_push]; exact Nat.le_succ _)] at e; cases e
    · cases q
    · cases q) (keep b o (Heap.get?_push_of_some _ e))
  have pl5 : s5.heap.PlainList l vs0.toArray := pl0.at fun o e => nmut l o ntl e
  refine methTailO (id := "list.append") (fun pl Q hQ => by obtain ⟨m, e⟩ := pl5; exact Calls.getMethod_list_append e rfl rfl hQ) (by kernel_rfl) (by kernel_rfl) (by decide)
    (callAppend (d := pairV (nm, val)) (EvJ.tup (.cons (EvJ.hconv (x := nm) (nb := true) (X := X) (n := 2) (by k_upd) (by k_upd) (.raw (x := x) (dx := dx) (l := l) (hs := hs) (t := t) (n := k)) (Nat.le_trans hn (by decide)) hmn (by decide) (by rfl) (by kernel_rfl))
    (.cons (d := .str val) ?_ .nil (by kernel_rfl)) (by kernel_rfl)) (by show 2 ≤ 1000; decide)) (by kernel_rfl) bd I5 pl5 ntl ?_ fun v s6 h' q6 r6 pl6 sb6 => ?_)
  · refine EvJ.cast (?_ : V.str (Txt.join (Str.ofString "; ") [val]) = V.str val) (EvJ.meth (d := .str (Txt.join (Str.ofString "; ") [val])) (by k_upd) (ds := [.list ([] ++ [V.str val])]) (by k_upd) (MethJ.join (ts := [val]) ?_) (fun w => rfl) (by kernel_rfl) rfl (by decide))
    · rfl
    · have : ¬ 0 + (val.length + (Str.ofString "; ").length) > sizeLine := by rw [sizeLine_eq]; have : (Str.ofString "; ").length = 2 := rfl; k_data
      unfold JoinOk PySem.Builtin.Str.tooLong
      rw [List.foldl_toArray]
      simpa using this
  · rw [← List.length_map (f := pairV)] at hlen
    rw [rs0.length]; exact hlen
  · refine wpAny_execs_nil ?_
    refine hQ .none { s6 with heap := h' } ?_
    show StpG X l s { s6 with heap := h' } ∧ R av h' .none .none ∧ (gH l).P (es ++ [(nm, val)]) av h'
    have k6 : ∀ b o, ¬ tab b → b ≠ l → s.heap.get? b = some o → h'.get? b = some o := fun b o nt ne e => (sb6.2 b ne).trans (q6.ext b o nt (nmut b o nt e))
    have pl6' := pl5.at fun o e => q6.ext l o ntl e
    have G6 : GOk X h' := q6.ok.but (T := [l]) (fun a q => by cases List.mem_singleton.mp q; exact hlb) (fun b o n e => (sb6.2 b fun z => n (z ▸ .head _)).trans e) (fun a q => by cases List.mem_singleton.mp q; exact .list pl6'.isList)
    obtain ⟨h5, t5, e5⟩ := (sm5.trans q6.same).eq
    refine ⟨⟨⟨h', s6.toks, by rw [e5]⟩, k6, fun o e => let ⟨m, e⟩ := pl6; ⟨_, e⟩, fun _ => .list pl6.isList, G6⟩, .none, vs0 ++ [v], by simpa using pl6, ?_⟩
    rw [List.map_append]
    refine (rs0.move (fun b o nb e => k6 b o (fun z => nb (.inl (a.tab b z))) (fun z => nb (.inr z)) e) fun b q => .inl q).snoc (r6.move (fun b o nb e => (sb6.2 b fun z => nb (.inl (z ▸ hl))).trans e) fun b q => .inl (.inl (q.elim id fun z => z ▸ hl)))
end
section
noncomputable def flagNames : List (Int × Str) := [(1, "OPTIMIZED"), (2, "NEWLOCALS"), (4, "VARARGS"), (8, "VARKEYWORDS"), (16, "NESTED"), (32, "GENERATOR"), (64, "NOFREE"), (128, "COROUTINE"), (256, "ITERABLE_COROUTINE"), (512, "ASYNC_GENERATOR")]
noncomputable def flg (i : Nat) : Int := 1 * 2 ^ (0 + (i : Int)).toNat
noncomputable def hexT (i : Int) : Str := baseText "0x" 16 i
noncomputable def pstep (s : Int × List Str) (i : Nat) : Bool × (Int × List Str) :=
  if (Builtin.bitAnd s.1 (flg i) != 0) = true then (!(Builtin.bitXor s.1 (flg i) != 0), (Builtin.bitXor s.1 (flg i), s.2 ++ [(flagNames.lookup (flg i)).getD (hexT (flg i))])) else (false, s)
noncomputable def pnames (flags : Int) : List Str := match runB pstep (List.range 32) (flags, []) with
  | (true, s) => s.2
  | (false, s) => s.2 ++ [hexT s.1]
noncomputable def pfOk (flags : Int) : Bool := match runB pstep (List.range 32) (flags, []) with
  | (true, s) => JoinOk ", " s.2
  | (false, s) => decide ((hexT s.1).length ≤ 1000000) && JoinOk ", " (s.2 ++ [hexT s.1])
theorem hexLen : ∀ i, i < 32 → (hexT (flg i)).length ≤ 1000000 := by decide +kernel
theorem c_pf {X : Cx} {flags : Int} (h : pfOk flags = true) : CallJ X 2 (.ref 88) [.int flags] (.str (Txt.join ", " (pnames flags))) := by
  refine CallJ.fn (ns := [Str.ofString "flags"]) [(Str.ofString "flags", .int flags)] rfl (by k_is) (by k_is) ?_ rfl (by decide) (by kernel_rfl) ?_ (by kernel_rfl) (by kernel_rfl) (by kernel_rfl) (by decide)
  · exact bind1 fun _ => by kernel_rfl
  · intro L
    apply ExJ.cons
    · refine StJ.own (ds := []) ?_ (.inl (by kernel_rfl)) (by kernel_rfl) (by kernel_rfl)
      apply FrJ.list
      · exact EvsJ.nil
      · decide
    have hj : JoinOk ", " (pnames flags) = true := by
      unfold pfOk at h; unfold pnames
      split at h
      · exact h
      · exact (Bool.and_eq_true_iff.mp h).2
    apply ExJ.cons (ρ' := [(Str.ofString "flags", .int (runB pstep (List.range 32) (flags, [])).2.1)]) (ω' := some (Own.lst (Str.ofString "names") ((pnames flags).map V.str)))
    · apply StJ.for (ds := (List.range 32).map fun i : Nat => V.int (0 + (i : Int)))
      · apply WkJ.tcall (T := "range")
        · apply GlV.builtin
          · kernel_rfl
          · k_is
          · decide
          · decide +kernel
          · kernel_rfl
        · k_upd
        · exact WcJ.range1 (k := 32) (by decide +kernel) (by decide +kernel)
        · kernel_rfl
      · refine LoopJ.foldB (fun i : Nat => V.int (0 + (i : Int))) (fun (s : Int × List Str) => [(Str.ofString "flags", .int s.1)]) (fun s => some (Own.lst (Str.ofString "names") (s.2.map V.str))) pstep (fun i s => s.2.length ≤ i) (List.range 32) 0 (fun i s a ha hP => ?_) (flags, []) (Nat.le_refl _) ?_
        · have ha32 : a < 32 := by
            obtain ⟨hlt, e⟩ := List.getElem?_eq_some_iff.mp ha
            rw [List.getElem_range] at e; rw [List.length_range] at hlt; k_data
          have hfl := hexLen a ha32
          have hi32 : i < 32 := by have := (List.getElem?_eq_some_iff.mp ha).1; rwa [List.length_range] at this
          refine ⟨?_, _, TgJ.name (Stores.some (.inl (by kernel_rfl)) (by kernel_rfl)), ?_⟩
          · unfold pstep
            split
            · show (s.2 ++ [_]).length ≤ _
              rw [List.length_append]; simp; k_data
            · show s.2.length ≤ _; k_data
          cases hc : (Builtin.bitAnd s.1 (flg a) != 0) with
          | false =>
            rw [show pstep s a = (false, s) from if_neg (by rw [hc]; decide)]
            show ExJ _ _ _ _ _ _ (.next _ _)
            refine ExJ.to (ρ₂ := (Str.ofString "flag", V.int (flg a)) :: [(Str.ofString "i", V.int (0 + (a : Int))), (Str.ofString "flags", .int s.1)]) ?_ (by k_subL)
            apply ExJ.cons
            · apply StJ.assign (d := V.int (flg a))
              · show EvJ _ _ _ _ _ (V.int (1 * 2 ^ (0 + (a : Int)).toNat))
                k_upd
              · exact Stores.some (.inl (by kernel_rfl)) (by kernel_rfl)
              · kernel_rfl
            · apply ExJ.one
              apply StJ.iteF
              · k_upd
              · exact hc
              · exact ExJ.nil
          | true =>
            cases hx : (Builtin.bitXor s.1 (flg a) != 0) with
            | false =>
              rw [show pstep s a = (true, (Builtin.bitXor s.1 (flg a), s.2 ++ [(flagNames.lookup (flg a)).getD (hexT (flg a))])) from (if_pos hc).trans (by rw [hx]; rfl)]
              show ExJ _ _ _ _ _ _ (.brk [(Str.ofString "flags", .int (Builtin.bitXor s.1 (flg a)))] (some (Own.lst (Str.ofString "names") ((s.2 ++ [(flagNames.lookup (flg a)).getD (hexT (flg a))]).map V.str))))
              rw [List.map_append]
              refine ExJ.toB (ρ₂ := (Str.ofString "flags", V.int (Builtin.bitXor s.1 (flg a))) :: (Str.ofString "flag", V.int (flg a)) :: [(Str.ofString "i", V.int (0 + (a : Int))), (Str.ofString "flags", .int s.1)]) ?_ (by k_subL)
              apply ExJ.cons
              · apply StJ.assign (d := V.int (flg a))
                · show EvJ _ _ _ _ _ (V.int (1 * 2 ^ (0 + (a : Int)).toNat))
                  k_upd
                · exact Stores.some (.inl (by kernel_rfl)) (by kernel_rfl)
                · kernel_rfl
              · apply ExJ.brk
                apply StJ.iteT
                · k_upd
                · exact hc
                apply ExJ.cons
                · apply StJ.append
                  · refine EvJ.to (d := V.str ((flagNames.lookup (flg a)).getD (hexT (flg a)))) ?_ rfl
                    apply EvJ.dget
                    · apply GlV.glob
                      · kernel_rfl
                      · k_is
                      · kernel_rfl
                    · k_is
                    · kernel_rfl
                    · kernel_rfl
                    · k_upd
                    · apply EvJ.bcall (id := "hex")
                      · apply GlV.builtin
                        · kernel_rfl
                        · k_is
                        · decide
                        · decide +kernel
                        · kernel_rfl
                      · k_upd
                      · exact CallJ.hex hfl
                      · kernel_rfl
                    · kernel_rfl
                    · intro w; rfl
                    · kernel_rfl
                    · kernel_rfl
                  · rw [List.length_map]; k_data
                  · kernel_rfl
                  · intro w; rfl
                  · kernel_rfl
                  · kernel_rfl
                  · kernel_rfl
                  · kernel_rfl
                apply ExJ.cons
                · apply StJ.aug (d := V.int (flg a)) (y := V.int s.1)
                  · apply Lk.lk; k_memK
                  · k_upd
                  · exact InJ.xor
                  · exact Stores.some (.inl (by kernel_rfl)) (by kernel_rfl)
                  · kernel_rfl
                · apply ExJ.brk
                  apply StJ.iteT
                  · k_upd
                  · rw [hx]; rfl
                  · exact ExJ.brk StJ.break
            | true =>
              rw [show pstep s a = (false, (Builtin.bitXor s.1 (flg a), s.2 ++ [(flagNames.lookup (flg a)).getD (hexT (flg a))])) from (if_pos hc).trans (by rw [hx]; rfl)]
              show ExJ _ _ _ _ _ _ (.next [(Str.ofString "flags", .int (Builtin.bitXor s.1 (flg a)))] (some (Own.lst (Str.ofString "names") ((s.2 ++ [(flagNames.lookup (flg a)).getD (hexT (flg a))]).map V.str))))
              rw [List.map_append]
              refine ExJ.to (ρ₂ := (Str.ofString "flags", V.int (Builtin.bitXor s.1 (flg a))) :: (Str.ofString "flag", V.int (flg a)) :: [(Str.ofString "i", V.int (0 + (a : Int))), (Str.ofString "flags", .int s.1)]) ?_ (by k_subL)
              apply ExJ.cons
              · apply StJ.assign (d := V.int (flg a))
                · show EvJ _ _ _ _ _ (V.int (1 * 2 ^ (0 + (a : Int)).toNat))
                  k_upd
                · exact Stores.some (.inl (by kernel_rfl)) (by kernel_rfl)
                · kernel_rfl
              · apply ExJ.one
                apply StJ.iteT
                · k_upd
                · exact hc
                apply ExJ.cons
                · apply StJ.append
                  · refine EvJ.to (d := V.str ((flagNames.lookup (flg a)).getD (hexT (flg a)))) ?_ rfl
                    apply EvJ.dget
                    · apply GlV.glob
                      · kernel_rfl
                      · k_is
                      · kernel_rfl
                    · k_is
                    · kernel_rfl
                    · kernel_rfl
                    · k_upd
                    · apply EvJ.bcall (id := "hex")
                      · apply GlV.builtin
                        · kernel_rfl
                        · k_is
                        · decide
                        · decide +kernel
                        · kernel_rfl
                      · k_upd
                      · exact CallJ.hex hfl
                      · kernel_rfl
                    · kernel_rfl
                    · intro w; rfl
                    · kernel_rfl
                    · kernel_rfl
                  · rw [List.length_map]; k_data
                  · kernel_rfl
                  · intro w; rfl
                  · kernel_rfl
                  · kernel_rfl
                  · kernel_rfl
                  · kernel_rfl
                apply ExJ.cons
                · apply StJ.aug (d := V.int (flg a)) (y := V.int s.1)
                  · apply Lk.lk; k_memK
                  · k_upd
                  · exact InJ.xor
                  · exact Stores.some (.inl (by kernel_rfl)) (by kernel_rfl)
                  · kernel_rfl
                · apply ExJ.one
                  apply StJ.iteF
                  · k_upd
                  · rw [hx]; rfl
                  · exact ExJ.nil
        · unfold pnames
          unfold pfOk at h
          generalize runB pstep (List.range 32) (flags, []) = r at h
          obtain ⟨br, s⟩ := r
          cases br with
          | true => rfl
          | false =>
            intro hP
            have hl := of_decide_eq_true (Bool.and_eq_true_iff.mp h).1
            apply ExJ.one
            show StJ _ _ _ _ _ _ (.next _ (some (Own.lst _ ((s.2 ++ [hexT s.1]).map V.str))))
            rw [List.map_append]
            apply StJ.append
            · apply EvJ.bcall (id := "hex")
              · apply GlV.builtin
                · kernel_rfl
                · k_is
                · decide
                · decide +kernel
                · kernel_rfl
              · k_upd
              · exact CallJ.hex hl
              · kernel_rfl
            · rw [List.length_map]; simp at hP; k_data
            · kernel_rfl
            · intro w; rfl
            · kernel_rfl
            · kernel_rfl
            · kernel_rfl
            · kernel_rfl
      · intro x; rfl
    apply ExJ.freeze
    apply ExJ.ret
    apply StJ.ret
    apply EvJ.meth
    · k_upd
    · k_upd
    · exact MethJ.join hj
    · intro w; rfl
    · kernel_rfl
    · rfl
    · exact Nat.le_of_ble_eq_true rfl
end
section
section
variable {X : Cx} {n : Nat} {env : Env} {ρ ρ' : List (Str × V)} {ω : Option Own} {g : Gh} {hb : Heap} {av0 : Addr → Prop}
theorem EvG.hmeth {m : Nat} {o : Expr} {name : Str} {apos pos : Pos} {e : Expr} {es : List Expr} {d0 d : V} {ds : List V} {f : Addr} {x y : g.σ} (h1 : EvJ X n env ρ o d0) (h2 : EvsJ X n env ρ (e :: es) ds) (hi : InstJ d0)
    (hg : plainGet (KK X.w.params) 246 name = true) (hf : findIn (KK X.w.params) (.ref 246) name = some (some (.ref f))) (ht : PySem.W.isFn (KK X.w.params) (.ref f) = true) (hne : (Str.ofString "_headers" == name) = false) (hk : keepIn (KK X.w.params) (.ref f) = true) (hc : CallG X m g x (.raw (.ref f) []) (d0 :: ds) y d) (hm : m ≤ n)
    (hb : ∀ w, attributeBase o name env w = w) (hp : (apos.endLine == pos.line) = true) (hst : (e :: es).any isStarred = false) (hn : (e :: es).length < 20) : EvG X n env ρ g x (.Call (.Attribute o name apos) (e :: es) [] pos) y d := .mk fun A E s av b G a V ha hsz of hP => by
  rw [arm_eval_Call, hb]
  refine wpAny_bind (wpAny_mono (h1.run A E s av b G a V) (fun u s₁ q₁ => wpAny_bind (wpAny_standAt ?_)) fun _ _ e => e)
  obtain ⟨q₁, r₁⟩ := q₁
  have a1 := a.step q₁
  refine methTailV (fv := .ref f) (fun pl Q hQ => instMethod hi q₁.ok r₁ hg hf ht hne hQ) hp hst hn ?_
  rw [List.any_cons, Bool.or_eq_false_iff] at hst
  exact callWith_K q₁.ok.K hk (wpAny_mono (h2.run pos A E s₁ av b q₁.ok a1 (V.step G a q₁)) (fun vs s₂ q => ⟨q.1.ok.K, wpAny_mono (hc.run A E s₂ av (.ref f) (u :: vs) (b.le hm) q.1.ok (a1.step q.1) ha hsz (.raw _ _ fun _ h => nomatch h) (.cons (r₁.step a1 q.1) q.2) (Gh.step (Gh.step hP a hsz q₁) a1 hsz q.1)) (fun r s₃ z => ⟨((q₁.trans q.1).toG hsz).trans z.1, z.2⟩) fun _ _ e => e⟩) fun _ _ e => e) (starEach_of hst.1) (backTo_of hst.2)
theorem Inv.toGh {x : g.σ} {h : Heap} (I : Inv X hb (fun b => av0 b ∨ b ∈ [g.a]) env ρ none none h) (h2 : X.S.objs.size ≤ g.a) (h3 : hb.get? g.a = none) (n0 : ¬ av0 g.a) (P : g.P x (AvB av0 env (some g.a)) h) : Inv X hb av0 env ρ (some (.gh g x)) (some g.a) h := by
  have q1 : ∀ b, AvB (fun b => av0 b ∨ b ∈ [g.a]) env none b → AvB av0 env (some g.a) b := fun b z => by
    rcases z with (z | z) | z | z | z
    · exact .inl z
    · exact .inr (.inr (.inr (congrArg some (List.mem_singleton.mp z).symm)))
    · exact .inr (.inl z)
    · exact .inr (.inr (.inl z))
    · cases z
  have q2 : ∀ b, AvB av0 env (some g.a) b → AvB (fun b => av0 b ∨ b ∈ [g.a]) env none b := fun b z => by
    rcases z with z | z | z | z
    · exact .inl (.inl z)
    · exact .inr (.inl z)
    · exact .inr (.inr (.inl z))
    · cases z; exact .inl (.inr (.head _))
  have q : AvB (fun b => av0 b ∨ b ∈ [g.a]) env none = AvB av0 env (some g.a) := funext fun b => propext ⟨q1 b, q2 b⟩
  refine ⟨I.ok, I.ext, I.base, q ▸ I.avk, q ▸ I.en, I.fl, I.cs, I.fc, I.ap, fun z => I.d1 (.inl z), fun y c hc hl z => I.d2 y c hc hl (.inl z), fun a e => by cases e; exact n0, rfl, h2, h3, ⟨fun z => I.d1 (.inr (z ▸ .head _)), fun y c hc z => ?_⟩, P⟩
  rcases I.cs y c hc with ⟨o, e⟩ | e
  · rw [z, h3] at e; cases e
  · exact I.d2 y c hc e.1 (.inr (z ▸ .head _))
theorem Inv.off1 {h : Heap} {l b : Addr} (I : Inv X hb av0 env ρ none none h) (e : h.get? b = none) (ne : b ≠ l) : ¬ AvB (fun b => av0 b ∨ b ∈ [l]) env none b := fun z => by
  have k : ¬ AvB av0 env none b := fun z => by
    obtain ⟨⟨o, e'⟩, _⟩ := I.avk.live b z
    rw [e] at e'; cases e'
  rcases z with (z | z) | z
  · exact k (.inl z)
  · exact ne (List.mem_singleton.mp z)
  · exact k (.inr z)
theorem StJ.retH {x dx l : Addr} {hs : Int} {t : Tok} {k : Nat} {es : List (Str × Str)} {e : Expr} {pos : Pos} (h : EvJ X n env ρ e (.raw (.ref x) (instFr x dx l hs t k))) : StJ X n env ρ (some (.gh (gH l) es)) (.Return (some e) pos) (.ret (.hdr es)) :=
  .mk fun A E s hb av0 oa b I => wpAny_Return_some (wpAny_mono (h.run A E s _ b I.ok I.avk I.en) (fun v s₁ q => by
    have I1 := I.step q.1
    obtain ⟨rfl, _, _, _, vs, pl, rs⟩ := I1.gh
    obtain ⟨q1, q2⟩ := q
    cases q2 with
    | raw _ _ r =>
    obtain ⟨n1, e1⟩ := r _ (.head _)
    obtain ⟨n2, e2⟩ := r _ (.tail _ (.head _))
    exact ⟨q1.same, _, rfl, q1.ok, I1.ext, .hdr (fun z => n1 (.inl z)) (fun z => n2 (.inl z)) (I1.d3 _ rfl) ⟨e1, ⟨hs, t, k, e2⟩, pl⟩ (rs.move (fun _ _ _ e => e) fun b z => .inl (.inl (.inl z)))⟩) fun _ _ e => e)
end
noncomputable def wordsOf (nb : Int) : List Str := Txt.split (Txt.join ", " (pnames nb)) (Str.ofString ", ")
noncomputable def caseOf (letter w : Str) : Str := if Txt.contains (Str.ofString "AC") letter then Txt.upper w else Txt.lower w
noncomputable def tbStep (es : List (Str × Str)) (p : Str × Int) : List (Str × Str) := es ++ (wordsOf p.2).map fun w => (caseOf p.1 w, p.1)
noncomputable def tableOf (nums : List Int) : List (Str × Str) := ((["A", "B", "C", "D"] : List Str).zip nums).foldl tbStep []
noncomputable def pbLen (x y : Str) : Nat := (PySem.Builtin.Str.partsBetween x (PySem.Builtin.Str.occurrences x y 0 x.length (x.length + 1)) y.length).length
noncomputable def tbOk (letter : Str) (nb : Int) : Bool := decide (pbLen (Txt.join ", " (pnames nb)) (Str.ofString ", ") ≤ 1000000) && decide (letter.length ≤ 1000) && pfOk nb && decide ((wordsOf nb).length ≤ 200) && decide ((Txt.join ", " (pnames nb)).length ≤ 1000) && (wordsOf nb).all fun w => decide ((Txt.upper w).length ≤ 1000) && decide ((Txt.lower w).length ≤ 1000) && reMiss codeName (caseOf letter w) && reMiss codeVal letter
theorem foldl_snoc {α β : Type} (f : α → β) : ∀ (l : List α) (es : List β), l.foldl (fun es w => es ++ [f w]) es = es ++ l.map f
  | [], es => (List.append_nil es).symm
  | a :: l, es => by rw [List.foldl_cons, foldl_snoc f l, List.append_assoc]; rfl
theorem zip_tups : ∀ (l : List Str) (ns : List Int), List.zipWith (fun a b => V.tup [a, b]) (l.map V.str) (ns.map V.int) = (l.zip ns).map fun p => V.tup [.str p.1, .int p.2]
  | [], _ => rfl
  | _ :: _, [] => rfl
  | a :: l, b :: ns => congrArg (V.tup [.str a, .int b] :: ·) (zip_tups l ns)
theorem c_table {X : Cx} {nums : List Int} (hn : nums.length ≤ 4) (h : ((["A", "B", "C", "D"] : List Str).zip nums).all (fun p => tbOk p.1 p.2) = true) : CallJ X 5 (.ref 281) [.list (nums.map V.int)] (.hdr (tableOf nums)) := .mk fun A E s av vs b G a r => by
  refine cps fun Q hQ => ?_
  apply Rs.consE r; intro v1 _ r1 r
  apply Rs.nilE r
  refine callOf (codeInv (n := 4) (av := av) (hb := s.heap) (binds := [(Str.ofString "read", v1)]) [(Str.ofString "read", .list (nums.map V.int))] (by k_is) (by k_is) (.of_eq (by kernel_rfl)) (by kernel_rfl) (by kernel_rfl) b G rfl (fun _ _ e => e) a (fun y d hy => ?_) (fun h₁ tk keep bd I => ?_) rfl rfl rfl)
  · revert y d hy
    refine lk_cons ?_ lk_nil
    exact ⟨v1, by kernel_rfl, r1⟩
  refine wpAny_execs_cons (wpAny_Assign_Name (wpAny_Call_Name_kw (wpAny_mono ((GlV.glob (by kernel_rfl) (by k_is) (by kernel_rfl)).run _ _ _ _ bd I.ok I.en) (fun v s₁ q => ?_) fun _ _ e => e)) (by kernel_rfl))
  obtain ⟨rfl, rfl⟩ := q
  refine callWith_K I.ok.K (by k_is) (wpAny_items_cons (wpAny_List (wpAny_items_nil ⟨by rw [sizeLine_eq]; exact Nat.zero_le _, wpAny_items_nil ?_⟩)) (by kernel_rfl)) (starEach_of (by kernel_rfl)) (backTo_of (by kernel_rfl))
  obtain ⟨l, hl⟩ : ∃ l, l = h₁.objs.size := ⟨_, rfl⟩
  have fr : h₁.get? l = none := hl ▸ size_none _
  obtain ⟨s2, hs2⟩ : ∃ s2 : Shared, s2 = { s with heap := h₁.push { cls := .type "list", data := .seq #[] }, toks := tk } := ⟨_, rfl⟩
  have q2 : Stp X { s with heap := h₁, toks := tk } s2 := hs2 ▸ .push I.ok
  refine ⟨hs2 ▸ q2.ok.K, ?_⟩
  show wpAny _ _ (call (.ref 246) [.ref h₁.objs.size]) _ _ { s with heap := h₁.push { cls := .type "list", data := .seq #[] }, toks := tk }
  rw [← hl, ← hs2]
  have pl2 : s2.heap.get? l = some { cls := .type "list", data := .seq #[] } := by rw [hs2, hl]; exact Heap.get?_push_size _ rfl
  have I2 := I.step q2
  have fr0 : s.heap.get? l = none := by
    cases e : s.heap.get? l with
    | none => rfl
    | some o => rw [keep l o e] at fr; cases fr
  have hsz : X.S.objs.size ≤ l := hl ▸ I.ok.sz
  have n0 : ¬ av l := fun z => by
    obtain ⟨⟨o, e⟩, _⟩ := a.live l z
    rw [fr0] at e; cases e
  refine c_newHdr bd q2.ok pl2 (X.ntab hsz) fun h' tk' x dx hs t k hne hx hdx sx sdx G' kp ex edx => ?_
  have st3 : Stp X s2 { s2 with heap := h', toks := tk' } := ⟨⟨h', tk', rfl⟩, kp, G'⟩
  have pl3 : h'.PlainList l #[] := ⟨0, kp l _ (X.ntab hsz) pl2⟩
  have I3 := I.wide (q2.trans st3) (.refl _) (wr := [l]) (fun b z => by cases List.mem_singleton.mp z; exact fr) (fun b z => by cases List.mem_singleton.mp z; exact .list pl3.isList) I.tab0
  have nel : ∀ b, s2.heap.get? b = none → b ≠ l := fun b e z => by rw [z, pl2] at e; cases e
  have rx : R (AvB (fun b => av b ∨ b ∈ [l]) _ none) h' (.ref x) (.raw (.ref x) (instFr x dx l hs t k)) := .raw _ _ fun p z => by
    rcases List.mem_cons.mp z with rfl | z
    · exact ⟨I2.off1 hx (nel x hx), ex⟩
    · cases List.mem_singleton.mp z
      exact ⟨I2.off1 hdx (nel dx hdx), edx⟩
  refine wpAny_mono (I3.store (x := Str.ofString "table") rx (.inl (by kernel_rfl)) fun _ _ z => nomatch z) (fun _ s4 z => ?_) fun _ _ e => e
  obtain ⟨sm4, I4, _⟩ := z
  have pl4 : s4.heap.PlainList l #[] := pl3.at fun o e => sm4.kp l o (I3.nmut l (.inr (.head _)) (X.ntab hsz)) e
  have I5 := I4.toGh (g := gH l) (x := []) hsz fr0 n0 ⟨[], pl4, .nil⟩
  refine wpAny_mono (ExJ.run (X := X) (n := 4) (ω := some (.gh (gH l) [])) (out := .ret (.hdr (tableOf nums))) ?body _ _ _ _ _ _ bd I5) (fun fl s5 z => ?_) fun _ _ e => e
  case body =>
    refine .cons (StJ.for (out := .next ((Str.ofString "table", .raw (.ref x) (instFr x dx l hs t k)) :: [(Str.ofString "read", .list (nums.map V.int))]) (some (.gh (gH l) (tableOf nums)))) (ds := ((["A", "B", "C", "D"] : List Str).zip nums).map fun p => .tup [.str p.1, .int p.2]) ?hw ?hl fun _ => rfl) (.ret (StJ.retH (x := x) (dx := dx) (hs := hs) (t := t) (k := k) (by k_upd)))
    · rw [← zip_tups]
      exact WkJ.tcall (T := "zip") (args := [.str "ABCD", .list (nums.map V.int)]) (GlV.builtin (by kernel_rfl) (by k_is) (by decide) (by decide +kernel) (by kernel_rfl)) (by k_upd) WcJ.zipsl (by kernel_rfl)
    · refine LoopJ.foldI _ (fun _ => [(Str.ofString "table", .raw (.ref x) (instFr x dx l hs t k)), (Str.ofString "read", .list (nums.map V.int))]) (fun es => some (.gh (gH l) es)) tbStep (fun i (es : List (Str × Str)) => es.length ≤ 200 * i) _ 0 (fun i (es : List (Str × Str)) p hp hle => ?_) [] (Nat.zero_le _) fun _ => ExJ.nil
      have hi : i < 4 := by
        have := (List.getElem?_eq_some_iff.mp hp).1
        rw [List.length_zip] at this
        k_data
      have hm := List.mem_of_getElem? hp
      have ok := List.all_eq_true.mp h p hm
      obtain ⟨letter, nb⟩ := p
      simp only [tbOk, Bool.and_eq_true, decide_eq_true_eq, List.all_eq_true] at ok
      obtain ⟨⟨⟨⟨⟨ok0, hl1⟩, ok1⟩, ok2⟩, ok3⟩, ok4⟩ := ok
      refine ⟨?_, _, TgJ.pair ⟨.inl (by kernel_rfl), fun _ _ z => nomatch z⟩ ⟨.inl (by kernel_rfl), fun _ _ z => nomatch z⟩, ?_⟩
      · show (es ++ (wordsOf nb).map fun w => (caseOf letter w, letter)).length ≤ _
        rw [List.length_append, List.length_map]
        k_data
      · show ExJ X 4 _ _ _ _ (.next _ (some (.gh (gH l) (es ++ (wordsOf nb).map fun w => (caseOf letter w, letter)))))
        rw [← foldl_snoc]
        refine .one (StJ.for (.list (FrJ.split (x := Txt.join ", " (pnames nb)) (y := Str.ofString ", ") (EvJ.fcall (GlV.glob (by kernel_rfl) (by k_is) (by kernel_rfl)) (by k_is) (by k_upd) ((c_pf ok1).mono (by decide)) (by kernel_rfl)) (by k_upd) (by kernel_rfl) (Nat.le_trans ok3 (by decide)) ?_ (fun w => rfl) (by kernel_rfl) (by kernel_rfl)).ev .name) ?_ fun _ => rfl)
        · exact ok0
        · refine LoopJ.foldI V.str (fun _ => [(Str.ofString "number", .int nb), (Str.ofString "letter", .str letter), (Str.ofString "table", .raw (.ref x) (instFr x dx l hs t k)), (Str.ofString "read", .list (nums.map V.int))]) (fun es => some (.gh (gH l) es)) (fun (es : List (Str × Str)) w => es ++ [(caseOf letter w, letter)]) (fun j (e : List (Str × Str)) => e.length ≤ 200 * i + j) _ 0 (fun j (e : List (Str × Str)) w hw hle2 => ?_) es (by rw [Nat.zero_add] at hle; exact hle) fun _ => (ExJ.nil (ω := some (.gh (gH l) _))).to (by k_subL)
          have hj : j < (wordsOf nb).length := (List.getElem?_eq_some_iff.mp hw).1
          have okw := ok4 w (List.mem_of_getElem? hw)
          obtain ⟨⟨⟨w1, w2⟩, w3⟩, w4⟩ := okw
          refine ⟨?_, _, TgJ.name ⟨.inl (by kernel_rfl), fun _ _ z => nomatch z⟩, ?_⟩
          · show (e ++ [(caseOf letter w, letter)]).length ≤ _
            rw [List.length_append]
            show e.length + 1 ≤ _
            k_data
          · refine (ExJ.one (StJ.exprG (EvG.hmeth (f := 243) (m := 3) (d := .none) (by k_upd) (ds := [.str (caseOf letter w), .str letter]) ?_ (.raw (x := x) (dx := dx) (l := l) (hs := hs) (t := t) (n := k)) (by k_is) (by k_is) (by k_is) (by decide) (by k_is) (c_add ?_ hl1 w3 w4 ?_) (by decide) (fun w => rfl) (by kernel_rfl) (by kernel_rfl) (by decide)) rfl (by kernel_rfl) (by kernel_rfl))).to (by k_subL)
            · refine .cons (EvJ.ite (b := Txt.contains (Str.ofString "AC") letter) (by k_upd) (fun z => ?_) fun z => ?_) (by k_upd) (by kernel_rfl)
              · have : caseOf letter w = Txt.upper w := if_pos z
                rw [this]
                exact EvJ.meth0 (by k_upd) (MethJ.upper (Nat.le_trans w1 (by decide))) (fun w => rfl) (by kernel_rfl)
              · have : caseOf letter w = Txt.lower w := if_neg (by rw [z]; decide)
                rw [this]
                exact EvJ.meth0 (by k_upd) (MethJ.lower (Nat.le_trans w2 (by decide))) (fun w => rfl) (by kernel_rfl)
            · unfold caseOf; split <;> assumption
            · k_data
  · obtain ⟨z1, v, rfl, G5, x5, r5⟩ := z
    obtain ⟨h4, t4, e4⟩ := sm4.eq
    obtain ⟨h5, t5, e5⟩ := z1.eq
    refine hQ _ _ ⟨⟨⟨h5, t5, ?_⟩, x5, G5⟩, r5⟩
    rw [e5, e4, hs2]
end
section
open PySem.StrLaws PySem.Builtin PySem.Builtin.Str
noncomputable def jl : List (List Nat) → List Nat
  | [] => []
  | [w] => w
  | w :: v :: r => w ++ 44 :: 32 :: jl (v :: r)
noncomputable def cutsOf : Nat → List (List Nat) → List Nat
  | _, [] => []
  | _, [_] => []
  | a, w :: v :: r => (a + w.length) :: cutsOf (a + w.length + 2) (v :: r)
theorem jl_cons (c : Nat) (w : List Nat) : ∀ r : List (List Nat), jl ((c :: w) :: r) = c :: jl (w :: r)
  | [] => rfl
  | _ :: _ => rfl
theorem cuts_cons (a c : Nat) (w : List Nat) : ∀ r : List (List Nat), cutsOf a ((c :: w) :: r) = cutsOf (a + 1) (w :: r)
  | [] => rfl
  | v :: r => by
    rw [cutsOf, cutsOf, List.length_cons, show a + (w.length + 1) = a + 1 + w.length by k_data]
theorem occ_skip {x y : Str} {n lim i : Nat} {st : Array Nat × Nat} (h : subAt x y i = false) : occBody x y n lim i st = pure (ForInStep.yield st) := by
  unfold occBody
  rw [if_neg (fun q => by rw [h] at q; exact absurd q.2 (by decide))]
theorem occ_run {x y : Str} (hy : y.cps.toList = [44, 32]) (hl : y.length = 2) : ∀ (m a : Nat) (w : List Nat) (r : List (List Nat)) (found : Array Nat) (free : Nat), a + m = x.length + 1 → x.cps.toList.drop a = jl (w :: r) → (∀ v ∈ w :: r, 44 ∉ v) → found.size ≤ a → free ≤ a + w.length →
    (forIn (List.range' a m) (found, free) (occBody x y x.length (x.length + 1))).run.fst.toList = found.toList ++ cutsOf a (w :: r)
  | 0, a, w, r, found, free, e, hd, hc, hs, hf => by
    have hn : x.cps.toList.drop a = [] := List.drop_eq_nil_of_le (by simp only [Array.length_toList]; unfold Str.length at e; k_data)
    rw [hn] at hd
    cases w with
    | cons c w => rw [jl_cons] at hd; cases hd
    | nil => cases r with
      | nil => exact (List.append_nil _).symm
      | cons v r => cases hd
  | m + 1, a, w, r, found, free, e, hd, hc, hs, hf => by
    rw [List.range'_succ, List.forIn_cons]
    have hd1 : x.cps.toList.drop (a + 1) = (jl (w :: r)).tail := by rw [← hd, List.tail_drop]
    cases w with
    | cons c w =>
      have hc44 : c ≠ 44 := fun q => hc (c :: w) (.head _) (q ▸ .head _)
      rw [occ_skip (by rw [subAt_eq, hd, hy, hl, jl_cons]; show (c :: _ == _) = false; rw [List.cons_beq_cons, beq_eq_false_iff_ne.mpr hc44]; rfl), cuts_cons]
      rw [jl_cons] at hd1
      exact occ_run hy hl m (a + 1) w r found free (by k_data) hd1 (fun v hv => by
        rcases List.mem_cons.mp hv with rfl | hv
        · exact fun q => hc _ (.head _) (.tail _ q)
        · exact hc v (.tail _ hv)) (by k_data) (by rw [List.length_cons] at hf; k_data)
    | nil => cases r with
      | nil =>
        rw [occ_skip (by rw [subAt_eq, hd, hy, hl]; rfl)]
        exact occ_run hy hl m (a + 1) [] [] found free (by k_data) hd1 hc (by k_data) (by k_data)
      | cons v r =>
        have h2 : subAt x y a = true := by rw [subAt_eq, hd, hy, hl]; rfl
        have hlen : a + 2 ≤ x.length := by
          have := congrArg List.length hd
          rw [List.length_drop, Array.length_toList] at this
          unfold Str.length
          simp only [jl, List.nil_append, List.length_cons] at this
          k_data
        have hb : occBody x y x.length (x.length + 1) a (found, free) = pure (ForInStep.yield (found.push a, a + y.length)) := by
          unfold occBody
          exact if_pos ⟨⟨⟨(show found.size < x.length + 1 by k_data), (show free ≤ a from hf)⟩, (show a + y.length ≤ x.length by k_data)⟩, h2⟩
        rw [hb]
        have ih := occ_run (x := x) hy hl m (a + 1) (32 :: v) r (found.push a) (a + y.length) (by k_data) (by rw [hd1, jl_cons]; rfl) (fun u hu => by
          rcases List.mem_cons.mp hu with rfl | hu
          · intro q
            rcases List.mem_cons.mp q with q | q
            · cases q
            · exact hc v (.tail _ (.head _)) q
          · exact hc u (.tail _ (.tail _ hu))) (by rw [Array.size_push]; k_data) (by rw [List.length_cons, hl]; k_data)
        refine ih.trans ?_
        rw [Array.toList_push, cuts_cons, List.append_assoc]
        rfl
theorem jl_strs {sep : Str} (hy : sep.cps.toList = [44, 32]) : ∀ ws : List Str, (Str.join sep ws).cps.toList = jl (ws.map fun w => w.cps.toList)
  | [] => rfl
  | [w] => rfl
  | w :: v :: r => by
    show (w ++ sep ++ Str.join sep (v :: r)).cps.toList = _
    rw [Str.cps_append, Str.cps_append, Array.toList_append, Array.toList_append, jl_strs hy (v :: r), hy, List.append_assoc]
    rfl
theorem parts_run {x : Str} : ∀ (ws : List Str) (a : Nat), ws ≠ [] → x.cps.toList.drop a = jl (ws.map fun w => w.cps.toList) → partsFrom x 2 a (cutsOf a (ws.map fun w => w.cps.toList)) = ws
  | [w], a, _, hd => by
    show [strSub x a x.length] = [w]
    refine congrArg (· :: []) (Str.ext' (Array.toList_inj.mp ?_))
    rw [strSub_toList, hd]
    exact List.take_of_length_le (by
      have := congrArg List.length hd
      rw [List.length_drop, Array.length_toList] at this
      unfold Str.length
      exact Nat.le_of_eq this.symm)
  | w :: v :: r, a, _, hd => by
    show strSub x a (a + w.cps.toList.length) :: partsFrom x 2 (a + w.cps.toList.length + 2) (cutsOf (a + w.cps.toList.length + 2) ((v :: r).map fun w => w.cps.toList)) = _
    have hd : x.cps.toList.drop a = w.cps.toList ++ 44 :: 32 :: jl ((v :: r).map fun w => w.cps.toList) := hd
    rw [parts_run (v :: r) _ (fun q => nomatch q) (by
      rw [Nat.add_assoc, ← List.drop_drop, hd, ← List.drop_drop, List.drop_left]; rfl)]
    refine congrArg (· :: v :: r) (Str.ext' (Array.toList_inj.mp ?_))
    rw [strSub_toList, hd, Nat.add_sub_cancel_left, List.take_left]
theorem split_join {sep : Str} (hy : sep.cps.toList = [44, 32]) (ws : List Str) (hn : ws ≠ []) (hc : ∀ w ∈ ws, 44 ∉ w.cps.toList) : Txt.split (Txt.join sep ws) sep = ws := by
  have hl : sep.length = 2 := by rw [Str.length, ← Array.length_toList, hy]; rfl
  have hk : strKind sep = 1 := by
    obtain ⟨⟨l⟩⟩ := sep
    cases hy
    decide +kernel
  obtain ⟨x, hx⟩ : ∃ x, x = Txt.join sep ws := ⟨_, rfl⟩
  have hj : x.cps.toList = jl (ws.map fun w => w.cps.toList) := by
    rw [hx]
    show (glued sep ws).cps.toList = _
    rw [glued_eq_join, jl_strs hy]
  rw [← hx]
  have ho : occurrences x sep 0 x.length (x.length + 1) = cutsOf 0 (ws.map fun w => w.cps.toList) := by
    rw [occ_eq]
    cases ws with
    | nil => exact (hn rfl).elim
    | cons w r =>
      refine (occ_run hy hl (x.length + 1) 0 w.cps.toList (r.map fun w => w.cps.toList) #[] 0 (Nat.zero_add _) (by rw [List.drop_zero, hj]; rfl) (fun v hv => ?_) (Nat.le_refl _) (Nat.zero_le _)).trans rfl
      obtain ⟨u, hu, rfl⟩ := List.mem_map.mp (show v ∈ (w :: r).map fun w => w.cps.toList from hv)
      exact hc u hu
  have hp : partsBetween x (cutsOf 0 (ws.map fun w => w.cps.toList)) sep.length = ws := by
    rw [partsBetween_eq, hl]
    exact parts_run ws 0 hn (by rw [List.drop_zero, hj])
  unfold Txt.split
  rw [ho, hp]
  cases ws with
  | nil => exact (hn rfl).elim
  | cons w r => cases r with
    | nil =>
      have : x = w := Str.ext' (Array.toList_inj.mp hj)
      rw [this]
      split
      · rfl
      · split <;> rfl
    | cons v r =>
      have hj : x.cps.toList = w.cps.toList ++ 44 :: 32 :: jl ((v :: r).map fun w => w.cps.toList) := hj
      have h2 : 2 ≤ x.length := by
        rw [Str.length, ← Array.length_toList, hj, List.length_append, List.length_cons, List.length_cons]; k_data
      rw [if_neg, if_neg (by exact fun q => nomatch q)]
      rw [hk, hl, Bool.or_eq_true, decide_eq_true_eq, decide_eq_true_eq]
      rintro (q | q)
      · k_data
      · unfold PySem.Builtin.Str.strKind at q
        split at q
        · k_data
        · split at q <;> k_data
noncomputable def lo (c : Nat) : Nat := if 65 ≤ c ∧ c ≤ 90 then c + 32 else c
noncomputable def up (c : Nat) : Nat := if 97 ≤ c ∧ c ≤ 122 then c - 32 else c
theorem loOf : ∀ c, c < 128 → PySem.Unicode.lowerOf c = [lo c] := by decide +kernel
theorem upOf : ∀ c, c < 128 → PySem.Unicode.upperOf c = [up c] := by decide +kernel
theorem lo_up : ∀ c, c < 128 → lo (up c) = lo c ∧ up c < 128 ∧ lo (lo c) = lo c ∧ lo c < 128 := by decide +kernel
noncomputable def loS (x : Str) : Str := ⟨(x.cps.toList.map lo).toArray⟩
noncomputable def upS (x : Str) : Str := ⟨(x.cps.toList.map up).toArray⟩
noncomputable def asc (x : Str) : Bool := x.cps.toList.all fun c => decide (c < 128)
theorem placed_map {x : Str} {f : Nat → Nat → List Nat} {g : Nat → Nat} (h : ∀ i c, x.cps[i]? = some c → f i c = [g c]) : placed x f = (x.cps.toList.map g).toArray := by
  apply Array.toList_inj.mp
  unfold placed
  have e : (x.cps.mapIdx fun i c => (f i c).toArray) = x.cps.map fun c => #[g c] := by
    apply Array.ext
    · rw [Array.size_mapIdx, Array.size_map]
    · intro i h1 h2
      rw [Array.getElem_mapIdx, Array.getElem_map]
      rw [Array.size_mapIdx] at h1
      rw [h i _ (Array.getElem?_eq_getElem h1)]
  rw [e, Array.toList_flatten, Array.toList_map, List.map_map]
  show (List.map (fun c => [g c]) x.cps.toList).flatten = _
  rw [← List.flatMap_def, List.map_eq_flatMap]
theorem asc_of {x : Str} (h : asc x = true) {i c : Nat} (e : x.cps[i]? = some c) : c < 128 := by
  have := List.all_eq_true.mp h c (Array.mem_toList_iff.mpr (Array.mem_of_getElem? e))
  exact of_decide_eq_true this
theorem lower_asc {x : Str} (h : asc x = true) : Txt.lower x = loS x := by
  refine congrArg Str.mk (placed_map fun i c e => ?_)
  have hc := asc_of h e
  unfold PySem.Unicode.lowerAt
  rw [e]
  show (if (c == 0x3A3 && PySem.Unicode.endsWord x.cps i) = true then _ else _) = _
  rw [show (c == 0x3A3) = false from beq_eq_false_iff_ne.mpr (by k_data), Bool.false_and, if_neg (by decide)]
  exact loOf c hc
theorem upper_asc {x : Str} (h : asc x = true) : Txt.upper x = upS x := congrArg Str.mk (placed_map fun i c e => upOf c (asc_of h e))
theorem asc_lo {x : Str} (h : asc x = true) : asc (loS x) = true ∧ loS (loS x) = loS x := by
  have k := List.all_eq_true.mp h
  constructor
  · refine List.all_eq_true.mpr fun c hc => ?_
    obtain ⟨d, hd, rfl⟩ := List.mem_map.mp hc
    exact decide_eq_true (lo_up d (of_decide_eq_true (k d hd))).2.2.2
  · refine congrArg (fun l : List Nat => (⟨l.toArray⟩ : Str)) ?_
    show List.map lo (List.map lo x.cps.toList) = _
    rw [List.map_map]
    exact List.map_congr_left fun d hd => (lo_up d (of_decide_eq_true (k d hd))).2.2.1
theorem asc_up {x : Str} (h : asc x = true) : asc (upS x) = true ∧ loS (upS x) = loS x := by
  have k := List.all_eq_true.mp h
  constructor
  · refine List.all_eq_true.mpr fun c hc => ?_
    obtain ⟨d, hd, rfl⟩ := List.mem_map.mp hc
    exact decide_eq_true (lo_up d (of_decide_eq_true (k d hd))).2.1
  · refine congrArg (fun l : List Nat => (⟨l.toArray⟩ : Str)) ?_
    show List.map lo (List.map up x.cps.toList) = _
    rw [List.map_map]
    exact List.map_congr_left fun d hd => (lo_up d (of_decide_eq_true (k d hd))).1
end
section
noncomputable def ellLoop : List Str → Str → Int → Int → Bool
  | [], _, _, _ => true
  | w :: ws, got, st, en => if find4 got w st en < 0 then false else ellLoop ws got (find4 got w st en + w.length) en
noncomputable def ellB (ws : List Str) (got : Str) (st : Int) : Bool :=
  let w := ws.getLastD ""
  if w.length != 0 then (if Txt.endswith got w then (if (got.length : Int) - w.length < st then false else ellLoop ws.dropLast got st (got.length - w.length)) else false)
  else (if (got.length : Int) < st then false else ellLoop ws got st got.length)
noncomputable def ellMatch (want got : Str) : Bool :=
  if Txt.contains want "..." then
    let ws := Txt.split want "..."
    let w := ws.headD ""
    if w.length != 0 then (if Txt.startswith got w then ellB (ws.eraseIdx 0) got w.length else false) else ellB ws got 0
  else want == got
noncomputable def ellStep (got : Str) (en : Int) (st : Int) (w : Str) : Except V Int := if find4 got w st en < 0 then .error (.bool false) else .ok (find4 got w st en + w.length)
theorem ell_run (got : Str) (en : Int) : ∀ (ws : List Str) (st : Int), (ellLoop ws got st en = true ∧ ∃ s, runO (ellStep got en) ws st = .ok s) ∨ (ellLoop ws got st en = false ∧ runO (ellStep got en) ws st = .error (.bool false))
  | [], st => .inl ⟨rfl, _, rfl⟩
  | w :: ws, st => by
    unfold ellLoop runO ellStep
    by_cases h : find4 got w st en < 0
    · rw [if_pos h, if_pos h]; exact .inr ⟨rfl, rfl⟩
    · rw [if_neg h, if_neg h]; exact ell_run got en ws _
theorem dropLast_erase {α : Type} (l : List α) : l.dropLast = l.eraseIdx (l.length - 1) := by
  induction l with
  | nil => rfl
  | cons a l ih => cases l with
    | nil => rfl
    | cons b l => rw [List.dropLast_cons₂, ih]; rfl
theorem erase_map {α β : Type} (f : α → β) : ∀ (l : List α) (k : Nat), (l.map f).eraseIdx k = (l.eraseIdx k).map f
  | [], _ => rfl
  | _ :: _, 0 => rfl
  | a :: l, k + 1 => by rw [List.map_cons, List.eraseIdx_cons_succ, erase_map f l k]; rfl
theorem lenNe (n : Nat) : ((n : Int) != 0) = (n != 0) := by
  rw [Bool.eq_iff_iff]; simp
theorem c_ell {X : Cx} {want got : Str} (h1 : want.length ≤ 1000) (h2 : got.length ≤ 1000)
    (h3 : (Builtin.Str.partsBetween want (Builtin.Str.occurrences want "..." 0 want.length (want.length + 1)) ("..." : Str).length).length ≤ 1000000) (h4 : Txt.contains want "..." = true → 2 ≤ (Txt.split want "...").length ∧ (Txt.split want "...").length ≤ 900) (h5 : ∀ w ∈ Txt.split want "...", w.length ≤ 1000) : CallJ X 1 (.ref 102) [.str want, .str got] (.bool (ellMatch want got)) := by
  refine CallJ.fn (ns := [Str.ofString "want", Str.ofString "got"]) [(Str.ofString "want", .str want), (Str.ofString "got", .str got)] rfl (by k_is) (by k_is) ?_ rfl (by decide) (by kernel_rfl) ?_ (by kernel_rfl) (by kernel_rfl) (by kernel_rfl) (by decide)
  · exact bind2 fun _ _ => by kernel_rfl
  · intro L
    cases hc : Txt.contains want "..." with
    | false =>
      rw [show ellMatch want got = (want == got) from by unfold ellMatch; rw [hc]; rfl]
      apply ExJ.ret
      apply StJ.iteT
      · apply TrJ.cmp
        · apply EvJ.ofG
          · apply GlV.glob
            · kernel_rfl
            · k_is
            · kernel_rfl
          · intro av h; exact .str _ _
        · k_upd
        · exact CmpJ.nins
        · kernel_rfl
      · rw [hc]; rfl
      · apply ExJ.ret
        apply StJ.ret
        k_upd
    | true =>
      apply ExJ.cons
      · apply StJ.iteF
        · apply TrJ.cmp
          · apply EvJ.ofG
            · apply GlV.glob
              · kernel_rfl
              · k_is
              · kernel_rfl
            · intro av h; exact .str _ _
          · k_upd
          · exact CmpJ.nins
          · kernel_rfl
        · rw [hc]; rfl
        · exact ExJ.nil
      apply ExJ.cons
      · refine StJ.own (ds := (Txt.split want "...").map V.str) ?_ (.inl (by kernel_rfl)) (by kernel_rfl) (by kernel_rfl)
        apply FrJ.split (x := want) (y := "...")
        · k_upd
        · apply EvJ.ofG
          · apply GlV.glob
            · kernel_rfl
            · k_is
            · kernel_rfl
          · intro av h; exact .str _ _
        · decide +kernel
        · k_data
        · exact h3
        · intro w; rfl
        · kernel_rfl
        · rfl
      apply ExJ.cons
      · apply StJ.assertV
        apply TrJ.eq
        · apply TrJ.cmp
          · apply EvJ.bcall (id := "len")
            · apply GlV.builtin
              · kernel_rfl
              · k_is
              · decide
              · decide +kernel
              · kernel_rfl
            · k_upd
            · apply CallJ.lenl; rw [List.length_map]; have := (h4 hc).2; k_data
            · kernel_rfl
          · k_upd
          · k_updF
          · kernel_rfl
        · rw [List.length_map]; have := (h4 hc).1; simp; k_data
      apply ExJ.cons
      · apply StJ.assignSw (d1 := V.int 0) (d2 := V.int got.length)
        · apply EvJ.tup
          · apply EvsJ.cons
            · k_upd
            · apply EvsJ.cons
              · apply EvJ.bcall (id := "len")
                · apply GlV.builtin
                  · kernel_rfl
                  · k_is
                  · decide
                  · decide +kernel
                  · kernel_rfl
                · k_upd
                · exact CallJ.lens (by k_data)
                · kernel_rfl
              · exact EvsJ.nil
              · kernel_rfl
            · kernel_rfl
          · exact Nat.le_of_ble_eq_true rfl
        · exact Stores.some (.inl (by kernel_rfl)) (by kernel_rfl)
        · exact Stores.some (.inl (by kernel_rfl)) (by kernel_rfl)
        · kernel_rfl
        · kernel_rfl
      have hws := h4 hc
      have hm : ellMatch want got = (if ((Txt.split want "...").headD "").length != 0 then (if Txt.startswith got ((Txt.split want "...").headD "") then ellB ((Txt.split want "...").eraseIdx 0) got ((Txt.split want "...").headD "").length else false) else ellB (Txt.split want "...") got 0) := by unfold ellMatch; rw [if_pos hc]
      rw [hm]
      clear hm
      revert hws h5
      generalize Txt.split want "..." = ws
      intro h5 hws
      match ws, hws, h5 with
      | w0 :: w1 :: wr, hws, h5 =>
      apply ExJ.cons
      · apply StJ.assignV (d := V.str w0)
        · apply EvJ.sub
          · k_upd
          · k_upd
          · exact GetJ.list (by decide) (by decide) rfl
          · exact fun _ _ => by with_unfolding_all rfl
        · rfl
        · exact Stores.some (.inl (by kernel_rfl)) (by kernel_rfl)
        · kernel_rfl
      cases he : (w0.length != 0 && !Txt.startswith got w0) with
      | true =>
        simp only [Bool.and_eq_true, Bool.not_eq_true'] at he
        rw [show (if (((w0 :: w1 :: wr).headD "").length != 0) = true then (if Txt.startswith got ((w0 :: w1 :: wr).headD "") = true then ellB ((w0 :: w1 :: wr).eraseIdx 0) got ((w0 :: w1 :: wr).headD "").length else false) else ellB (w0 :: w1 :: wr) got 0) = false from by
          show (if (w0.length != 0) = true then (if Txt.startswith got w0 = true then ellB (w1 :: wr) got w0.length else false) else ellB (w0 :: w1 :: wr) got 0) = false
          rw [if_pos he.1, if_neg (by rw [he.2]; decide)]]
        apply ExJ.ret
        apply StJ.iteT
        · apply TrJ.val
          · k_upd
          · exact TruJ.str (by have := h5 w0 (.head _); k_data)
          · exact fun _ => rfl
        · rw [lenNe]; exact he.1
        · apply ExJ.ret
          apply StJ.iteF
          · apply TrJ.val
            · apply EvJ.meth
              · k_upd
              · k_upd
              · exact MethJ.startswith
              · intro w; rfl
              · kernel_rfl
              · rfl
              · exact Nat.le_of_ble_eq_true rfl
            · exact TruJ.bool
            · exact fun _ => rfl
          · exact he.2
          · apply ExJ.ret
            apply StJ.ret
            k_upd
      | false =>
        apply ExJ.cons (ρ' := [(Str.ofString "startpos", V.int (if w0.length != 0 then (w0.length : Int) else 0)), (Str.ofString "endpos", V.int got.length), (Str.ofString "want", .str want), (Str.ofString "got", .str got)])
          (ω' := some (Own.lst (Str.ofString "ws") ((if w0.length != 0 then w1 :: wr else w0 :: w1 :: wr).map V.str)))
        · apply StJ.ite (c := w0.length != 0)
          · apply TrJ.eq
            · apply TrJ.val
              · k_upd
              · exact TruJ.str (by have := h5 w0 (.head _); k_data)
              · exact fun _ => rfl
            · exact lenNe _
          · intro h
            have hst : Txt.startswith got w0 = true := by rw [h] at he; simpa using he
            rw [if_pos h, if_pos h]
            apply ExJ.one
            apply StJ.iteT
            · apply TrJ.val
              · apply EvJ.meth
                · k_upd
                · k_upd
                · exact MethJ.startswith
                · intro w; rfl
                · kernel_rfl
                · rfl
                · exact Nat.le_of_ble_eq_true rfl
              · exact TruJ.bool
              · exact fun _ => rfl
            · exact hst
            · refine ExJ.to (ρ₂ := (Str.ofString "startpos", V.int w0.length) :: (Str.ofString "w", .str w0) :: [(Str.ofString "startpos", V.int 0), (Str.ofString "endpos", V.int got.length), (Str.ofString "want", .str want), (Str.ofString "got", .str got)]) ?_ ?_
              · apply ExJ.cons
                · apply StJ.assign (d := V.int w0.length)
                  · apply EvJ.bcall (id := "len")
                    · apply GlV.builtin
                      · kernel_rfl
                      · k_is
                      · decide
                      · decide +kernel
                      · kernel_rfl
                    · k_upd
                    · exact CallJ.lens (by have := h5 w0 (.head _); k_data)
                    · kernel_rfl
                  · exact Stores.some (.inl (by kernel_rfl)) (by kernel_rfl)
                  · kernel_rfl
                · apply ExJ.one
                  exact StJ.delItem (k := 0) EvJ.int (by rw [List.length_map]; k_data) (by kernel_rfl) (by decide) (by simp [seqIndex?]; k_data)
              · k_subL
          · intro h
            rw [if_neg (by simp [h]), if_neg (by simp [h])]
            refine ExJ.to ExJ.nil ?_
            k_subL
        · have fin : ∃ ws' : List Str, ∃ st' : Int, (if w0.length != 0 then w1 :: wr else w0 :: w1 :: wr) = ws' ∧ (if w0.length != 0 then (w0.length : Int) else 0) = st' ∧ ws' ≠ [] ∧ ws'.length ≤ 900 ∧ (∀ w ∈ ws', w.length ≤ 1000) ∧
              (if (((w0 :: w1 :: wr).headD "").length != 0) = true then (if Txt.startswith got ((w0 :: w1 :: wr).headD "") = true then ellB ((w0 :: w1 :: wr).eraseIdx 0) got ((w0 :: w1 :: wr).headD "").length else false) else ellB (w0 :: w1 :: wr) got 0) = ellB ws' got st' := by
            refine ⟨_, _, rfl, rfl, ?_⟩
            show _ ∧ _ ∧ _ ∧ (if (w0.length != 0) = true then (if Txt.startswith got w0 = true then ellB (w1 :: wr) got w0.length else false) else ellB (w0 :: w1 :: wr) got 0) = _
            cases h0 : (w0.length != 0) with
            | true =>
              have hst : Txt.startswith got w0 = true := by rw [h0] at he; simpa using he
              have hw := hws.2
              refine ⟨by simp, by simp at hw ⊢; k_data, fun w hw => h5 w (List.mem_cons_of_mem _ hw), ?_⟩
              simp [hst]
            | false => exact ⟨by simp, by simpa using hws.2, fun w hw => h5 w hw, by simp⟩
          obtain ⟨ws', st', e1, e2, n1, n2, n3, e3⟩ := fin
          rw [e1, e2, e3]
          clear e1 e2 e3 he hws h5
          have hl : 0 < ws'.length := List.length_pos_iff.mpr n1
          have hlast : (ws'.map V.str)[((-1 : Int) + (ws'.map V.str).length).toNat]? = some (V.str (ws'.getLastD "")) := by
            rw [List.length_map, show ((-1 : Int) + ws'.length).toNat = ws'.length - 1 by k_data, List.getElem?_map, List.getLastD_eq_getLast?, List.getLast?_eq_getElem?]
            rw [List.getElem?_eq_getElem (by k_data)]; rfl
          have n4 : (ws'.getLastD "").length ≤ 1000 := n3 _ (by rw [List.getLastD_eq_getLast?, List.getLast?_eq_some_getLast n1]; exact List.getLast_mem n1)
          apply ExJ.cons
          · apply StJ.assignV (d := V.str (ws'.getLastD ""))
            · apply EvJ.sub
              · k_upd
              · k_upd
              · exact GetJ.listNeg (by decide) (by rw [List.length_map]; k_data) (by decide) hlast
              · exact fun _ _ => by with_unfolding_all rfl
            · rfl
            · exact Stores.some (.inl (by kernel_rfl)) (by kernel_rfl)
            · kernel_rfl
          have hB : ellB ws' got st' = (if (ws'.getLastD "").length != 0 then (if Txt.endswith got (ws'.getLastD "") then (if (got.length : Int) - (ws'.getLastD "").length < st' then false else ellLoop ws'.dropLast got st' (got.length - (ws'.getLastD "").length)) else false)
              else (if (got.length : Int) < st' then false else ellLoop ws' got st' got.length)) := rfl
          rw [hB]
          clear hB
          revert n4
          generalize ws'.getLastD "" = wl
          intro n4
          cases he : (wl.length != 0 && !Txt.endswith got wl) with
          | true =>
            simp only [Bool.and_eq_true, Bool.not_eq_true'] at he
            rw [if_pos he.1, if_neg (by rw [he.2]; decide)]
            apply ExJ.ret
            apply StJ.iteT
            · apply TrJ.val
              · k_upd
              · exact TruJ.str (by k_data)
              · exact fun _ => rfl
            · rw [lenNe]; exact he.1
            · apply ExJ.ret
              apply StJ.iteF
              · apply TrJ.val
                · apply EvJ.meth
                  · k_upd
                  · k_upd
                  · exact MethJ.endswith
                  · intro w; rfl
                  · kernel_rfl
                  · rfl
                  · exact Nat.le_of_ble_eq_true rfl
                · exact TruJ.bool
                · exact fun _ => rfl
              · exact he.2
              · apply ExJ.ret
                apply StJ.ret
                k_upd
          | false =>
            apply ExJ.cons (ρ' := [(Str.ofString "startpos", V.int st'), (Str.ofString "endpos", V.int (if wl.length != 0 then (got.length : Int) - wl.length else got.length)), (Str.ofString "want", .str want), (Str.ofString "got", .str got)])
              (ω' := some (Own.lst (Str.ofString "ws") ((if wl.length != 0 then ws'.dropLast else ws').map V.str)))
            · apply StJ.ite (c := wl.length != 0)
              · apply TrJ.eq
                · apply TrJ.val
                  · k_upd
                  · exact TruJ.str (by k_data)
                  · exact fun _ => rfl
                · exact lenNe _
              · intro h
                have hst : Txt.endswith got wl = true := by rw [h] at he; simpa using he
                rw [if_pos h, if_pos h]
                apply ExJ.one
                apply StJ.iteT
                · apply TrJ.val
                  · apply EvJ.meth
                    · k_upd
                    · k_upd
                    · exact MethJ.endswith
                    · intro w; rfl
                    · kernel_rfl
                    · rfl
                    · exact Nat.le_of_ble_eq_true rfl
                  · exact TruJ.bool
                  · exact fun _ => rfl
                · exact hst
                · refine ExJ.to (ρ₂ := (Str.ofString "endpos", V.int ((got.length : Int) - wl.length)) :: (Str.ofString "w", .str wl) :: [(Str.ofString "startpos", V.int st'), (Str.ofString "endpos", V.int got.length), (Str.ofString "want", .str want), (Str.ofString "got", .str got)]) ?_ ?_
                  · apply ExJ.cons
                    · apply StJ.aug (d := V.int wl.length) (y := V.int got.length)
                      · apply Lk.lk; k_memK
                      · apply EvJ.bcall (id := "len")
                        · apply GlV.builtin
                          · kernel_rfl
                          · k_is
                          · decide
                          · decide +kernel
                          · kernel_rfl
                        · k_upd
                        · exact CallJ.lens (by k_data)
                        · kernel_rfl
                      · exact InJ.sub
                      · exact Stores.some (.inl (by kernel_rfl)) (by kernel_rfl)
                      · kernel_rfl
                    · apply ExJ.one
                      rw [show ws'.dropLast.map V.str = (ws'.map V.str).eraseIdx (ws'.length - 1) from by rw [dropLast_erase, erase_map]]
                      apply StJ.delItem (i := -1)
                      · k_upd
                      · rw [List.length_map]; k_data
                      · kernel_rfl
                      · decide
                      · rw [List.length_map]; simp [seqIndex?]; k_data
                  · k_subL
              · intro h
                rw [if_neg (by simp [h]), if_neg (by simp [h])]
                refine ExJ.to ExJ.nil ?_
                k_subL
            · have fin : ∃ wsx : List Str, ∃ en : Int, (if wl.length != 0 then ws'.dropLast else ws') = wsx ∧ (if wl.length != 0 then (got.length : Int) - wl.length else got.length) = en ∧ wsx.length ≤ 900 ∧ (∀ w ∈ wsx, w.length ≤ 1000) ∧
                  (if (wl.length != 0) = true then (if Txt.endswith got wl = true then (if (got.length : Int) - wl.length < st' then false else ellLoop ws'.dropLast got st' (got.length - wl.length)) else false)
                  else (if (got.length : Int) < st' then false else ellLoop ws' got st' got.length)) = (if en < st' then false else ellLoop wsx got st' en) := by
                refine ⟨_, _, rfl, rfl, ?_⟩
                cases h0 : (wl.length != 0) with
                | true =>
                  have hst : Txt.endswith got wl = true := by rw [h0] at he; simpa using he
                  refine ⟨by simp; k_data, fun w hw => n3 _ (List.dropLast_subset _ (by simpa using hw)), ?_⟩
                  simp only [hst, if_true]
                | false => exact ⟨by simpa using n2, fun w hw => n3 w (by simpa using hw), by simp⟩
              obtain ⟨wsx, en, e1, e2, m2, m3, e3⟩ := fin
              rw [e1, e2, e3]
              clear e1 e2 e3 he hl hlast n1 n2 n3 n4
              cases hlt : decide (en < st') with
              | true =>
                have hlt' : en < st' := of_decide_eq_true hlt
                rw [if_pos hlt']
                apply ExJ.ret
                apply StJ.iteT
                · k_upd
                · exact hlt
                · apply ExJ.ret
                  apply StJ.ret
                  k_upd
              | false =>
                have hlt' : ¬ en < st' := of_decide_eq_false hlt
                rw [if_neg hlt']
                apply ExJ.cons
                · apply StJ.iteF
                  · k_upd
                  · exact hlt
                  · exact ExJ.nil
                apply ExJ.freeze
                apply ExJ.sub (ρ' := [(Str.ofString "startpos", V.int st'), (Str.ofString "endpos", V.int en), (Str.ofString "got", .str got), (Str.ofString "ws", .list (wsx.map V.str))])
                · k_subL
                refine ExJ.forE V.str (fun st => [(Str.ofString "startpos", V.int st), (Str.ofString "endpos", V.int en), (Str.ofString "got", .str got), (Str.ofString "ws", .list (wsx.map V.str))]) (fun _ => none) (ellStep got en) wsx (fun _ => True) st' ?_ ?_ ?_ trivial ?_
                · apply WkJ.list
                  · k_upd
                  · exact TgOk.name
                · intro x; rfl
                · intro st w hw _
                  refine ⟨_, TgJ.name (Stores.none (.inl (by kernel_rfl))), ?_⟩
                  have hst : ellStep got en st w = if find4 got w st en < 0 then .error (.bool false) else .ok (find4 got w st en + w.length) := rfl
                  rw [hst]
                  cases hf : decide (find4 got w st en < 0) with
                  | true =>
                    rw [if_pos (of_decide_eq_true hf)]
                    apply ExJ.cons
                    · apply StJ.assign (d := V.int (find4 got w st en))
                      · apply EvJ.meth
                        · k_upd
                        · k_upd
                        · exact MethJ.find
                        · intro w; rfl
                        · kernel_rfl
                        · rfl
                        · exact Nat.le_of_ble_eq_true rfl
                      · exact Stores.none (.inl (by kernel_rfl))
                      · kernel_rfl
                    apply ExJ.ret
                    apply StJ.iteT
                    · k_upd
                    · exact hf
                    · apply ExJ.ret
                      apply StJ.ret
                      k_upd
                  | false =>
                    rw [if_neg (of_decide_eq_false hf)]
                    refine ⟨trivial, ?_⟩
                    apply ExJ.cons
                    · apply StJ.assign (d := V.int (find4 got w st en))
                      · apply EvJ.meth
                        · k_upd
                        · k_upd
                        · exact MethJ.find
                        · intro w; rfl
                        · kernel_rfl
                        · rfl
                        · exact Nat.le_of_ble_eq_true rfl
                      · exact Stores.none (.inl (by kernel_rfl))
                      · kernel_rfl
                    apply ExJ.cons
                    · apply StJ.iteF
                      · k_upd
                      · exact hf
                      · exact ExJ.nil
                    refine ExJ.to (ρ₂ := (Str.ofString "startpos", V.int (find4 got w st en + w.length)) :: (Str.ofString "startpos", V.int (find4 got w st en)) :: (Str.ofString "w", V.str w) :: [(Str.ofString "startpos", V.int st), (Str.ofString "endpos", V.int en), (Str.ofString "got", .str got), (Str.ofString "ws", .list (wsx.map V.str))]) ?_ (by k_subL)
                    apply ExJ.one
                    apply StJ.aug (d := V.int w.length) (y := V.int (find4 got w st en))
                    · apply Lk.lk; k_memK
                    · apply EvJ.bcall (id := "len")
                      · apply GlV.builtin
                        · kernel_rfl
                        · k_is
                        · decide
                        · decide +kernel
                        · kernel_rfl
                      · k_upd
                      · exact CallJ.lens (by have := m3 w hw; k_data)
                      · kernel_rfl
                    · exact InJ.add
                    · exact Stores.none (.inl (by kernel_rfl))
                    · kernel_rfl
                · rcases ell_run got en wsx st' with ⟨e1, sF, e2⟩ | ⟨e1, e2⟩
                  · rw [e2, e1]
                    intro _
                    apply ExJ.ret
                    apply StJ.ret
                    k_upd
                  · rw [e2, e1]
end
section
noncomputable def ellOk (want got : Str) : Bool := decide (want.length ≤ 1000) && (decide (got.length ≤ 1000) && (decide ((Builtin.Str.partsBetween want (Builtin.Str.occurrences want "..." 0 want.length (want.length + 1)) ("..." : Str).length).length ≤ 1000000) &&
  ((!Txt.contains want "..." || (decide (2 ≤ (Txt.split want "...").length) && decide ((Txt.split want "...").length ≤ 900))) && (Txt.split want "...").all fun w => decide (w.length ≤ 1000))))
theorem c_ell' {X : Cx} {want got : Str} (h : ellOk want got = true) : CallJ X 1 (.ref 102) [.str want, .str got] (.bool (ellMatch want got)) := by
  unfold ellOk at h
  simp only [Bool.and_eq_true, decide_eq_true_eq, List.all_eq_true, Bool.or_eq_true, Bool.not_eq_true'] at h
  exact c_ell h.1 h.2.1 h.2.2.1 (fun hc => (h.2.2.2.1.resolve_left fun q => by rw [hc] at q; cases q)) h.2.2.2.2
noncomputable def letters : List Str := ["A", "B", "C", "D"]
noncomputable def missT (ts : List Str) (want : Int) (one : Str) (p : Nat) : Bool := Builtin.bitAnd (want.fdiv (2 ^ (0 + (p : Int)).toNat)) 1 != 0 && (!Txt.contains (ts.getD p "") one && true)
noncomputable def missP (ts : List Str) (want : Int) (one : Str) : List Nat := (List.range 4).filter (missT ts want one)
noncomputable def hasAll (ts : List Str) (want : Int) (one : Str) : Bool := V.eqbs ((missP ts want one).map fun p : Nat => V.int (0 + (p : Int))) []
noncomputable def things (ts : List Str) (want : Int) : List Str := letters.filter (hasAll ts want)
noncomputable def patOf (l : List Str) : Str := "..." ++ Txt.join "" (l.map fun one : Str => one ++ ("..." : Str))
noncomputable def ellBit (pat t : Str) : Int := if (ellMatch pat t == true) = true then 1 else 0
noncomputable def brings (ts : List Str) (want : Int) : Int := dval 1 (ts.map (ellBit (patOf (things ts want))))
theorem c_brings {X : Cx} {ts : List Str} {want : Int} (h4 : ts.length = 4) (hok : ∀ t ∈ ts, ellOk (patOf (things ts want)) t = true) (hj : JoinOk "" ((things ts want).map fun one : Str => one ++ ("..." : Str)) = true) (hl : ("..." : Str).length + (Txt.join "" ((things ts want).map fun one : Str => one ++ ("..." : Str))).length ≤ 1000) :
    CallJ X 8 (.ref 286) [.list (ts.map V.str), .int want] (.int (brings ts want)) := by
  refine CallJ.fn (ns := [Str.ofString "texts", Str.ofString "want"]) [(Str.ofString "texts", .list (ts.map V.str)), (Str.ofString "want", .int want)] rfl (by k_is) (by k_is) ?_ rfl (by decide) (by kernel_rfl) ?_ (by kernel_rfl) (by kernel_rfl) (by kernel_rfl) (by decide)
  · exact bind2 fun _ _ => by kernel_rfl
  · intro L
    apply ExJ.cons
    · apply StJ.comp1 (ds := letters.map V.str) (zs := (things ts want).map V.str)
      case hclo => k_clsL
      case hnd => decide
      case hkind => rfl
      case hw =>
        rw [show letters.map V.str = chrs (Str.ofString "ABCD") by kernel_rfl]
        apply WkJ.str
        k_upd
      case hs => intro x; rfl
      case hy => exact Stores.none (.inl (by kernel_rfl))
      case hsw => kernel_rfl
      case hlen => rw [List.length_map]; exact Nat.le_trans (List.length_filter_le ..) (by decide)
      case hbd =>
        intro C
        rw [show (things ts want).map V.str = letters.flatMap fun one => if hasAll ts want one then [V.str one] else [] from (flatMap_if _ _ _).symm]
        refine BdsJ.of V.str _ _ fun one hone => ⟨_, hasAll ts want one, TgJ.name (Stores.none (.inr ⟨by kernel_rfl, C + 1, rfl, Nat.lt_add_of_pos_right (by decide)⟩)), Sub.lk ?_, TsJ.one ?_, fun h => ?_, fun h => ?_⟩
        · k_subL
        · unfold hasAll
          apply TrJ.cmp
          · apply EvJ.comp1 (ds := (List.range 4).map fun p : Nat => V.int (0 + (p : Int))) (zs := (missP ts want one).map fun p : Nat => V.int (0 + (p : Int)))
            case hclo => k_clsL
            case hnd => decide
            case hkind => rfl
            case hw =>
              apply WkJ.tcall (T := "range")
              · apply GlV.builtin
                · kernel_rfl
                · k_is
                · decide
                · decide +kernel
                · kernel_rfl
              · k_upd
              · exact WcJ.range1 (k := 4) (by decide +kernel) (by decide +kernel)
              · kernel_rfl
            case hs => intro x; rfl
            case hlen => rw [List.length_map]; exact Nat.le_trans (List.length_filter_le ..) (by decide)
            case hbd =>
              intro C2
              rw [show (missP ts want one).map (fun p : Nat => V.int (0 + (p : Int))) = (List.range 4).flatMap fun p => if missT ts want one p then [V.int (0 + (p : Int))] else [] from (flatMap_if _ _ _).symm]
              refine BdsJ.of (fun p : Nat => V.int (0 + (p : Int))) _ _ fun p hp => ⟨_, missT ts want one p, TgJ.name (Stores.none (.inl (by kernel_rfl))), Sub.lk ?_, TsJ.one ?_, fun h => ?_, fun h => ?_⟩
              · k_subL
              · unfold missT
                have hp4 : p < 4 := List.mem_range.mp hp
                apply TrJ.bool
                apply AllJ.andCons
                · k_upd
                · intro _
                  apply AllJ.andCons
                  · apply TrJ.cmp
                    · k_upd
                    · apply EvJ.sub
                      · k_upd
                      · k_upd
                      · refine GetJ.list (d := V.str (ts.getD p "")) (by k_data) (by k_data) ?_
                        rw [show (0 + (p : Int)).toNat = p by k_data, List.getElem?_map, List.getD_eq_getElem?_getD, List.getElem?_eq_getElem (by k_data)]; rfl
                      · exact fun _ _ => by with_unfolding_all rfl
                    · exact CmpJ.nins
                    · kernel_rfl
                  · intro _; exact AllJ.andNil
              · rw [if_pos h]
                apply EmJ.elt
                k_upd
              · rw [h]; rfl
          · apply EvJ.list
            · exact EvsJ.nil
            · decide
          · refine CmpJ.eql (n := 0) ?_ (by decide)
            exact Shps.nil'
          · kernel_rfl
        · rw [if_pos h]
          apply EmJ.elt
          k_upd
        · rw [h]; rfl
    apply ExJ.cons
    · apply StJ.assign (d := V.str (patOf (things ts want)))
      · unfold patOf
        apply EvJ.bin
        · k_upd
        · apply EvJ.meth (ds := [.list (((things ts want).map fun one : Str => one ++ ("..." : Str)).map V.str)])
          · k_upd
          · apply EvsJ.cons
            · apply EvJ.comp1 (ds := (things ts want).map V.str)
              case hclo => k_clsL
              case hnd => decide
              case hkind => rfl
              case hw =>
                apply WkJ.list
                · k_upd
                · exact TgOk.name
              case hs => intro x; rfl
              case hlen => rw [List.length_map, List.length_map]; exact Nat.le_trans (List.length_filter_le ..) (by decide)
              case hbd =>
                intro C
                rw [show ((things ts want).map fun one : Str => one ++ ("..." : Str)).map V.str = (things ts want).flatMap fun one => [V.str (one ++ "...")] by rw [List.map_map]; exact (flatMap_one _ _).symm]
                refine BdsJ.of V.str _ _ fun one hone => ⟨_, true, TgJ.name (Stores.none (.inl (by kernel_rfl))), Sub.lk ?_, TsJ.nil, fun _ => ?_, fun h => nomatch h⟩
                · k_subL
                · have : one.length + ("..." : Str).length ≤ 1000000 := by
                    have hm := (List.mem_filter.mp hone).1
                    have : ∀ o ∈ letters, o.length + ("..." : Str).length ≤ 1000000 := by decide +kernel
                    exact this one hm
                  apply EmJ.elt
                  k_upd
            · exact EvsJ.nil
            · kernel_rfl
          · exact MethJ.join hj
          · intro w; rfl
          · kernel_rfl
          · rfl
          · exact Nat.le_of_ble_eq_true rfl
        · exact BinJ.adds (by k_data)
      · exact Stores.none (.inr ⟨by kernel_rfl, L + 3, rfl, Nat.lt_add_of_pos_right (by decide)⟩)
      · kernel_rfl
    apply ExJ.ret
    apply StJ.ret
    have hbits : ∀ d ∈ ts.map (ellBit (patOf (things ts want))), 0 ≤ d ∧ d < 2 ^ 1 := fun d hd => by
      obtain ⟨t, _, rfl⟩ := List.mem_map.mp hd
      unfold ellBit
      split <;> decide
    have hd2 := c_d2i (X := X) (ds := ts.map (ellBit (patOf (things ts want)))) (n := 1) (by decide) (by rw [List.length_map, h4]; decide) (by rw [List.length_map, h4]; decide) hbits
    apply EvJ.fcall (ds := [.list ((ts.map (ellBit (patOf (things ts want)))).map V.int), .int (1 : Nat)])
    · apply GlV.glob
      · kernel_rfl
      · k_is
      · kernel_rfl
    · k_is
    · apply EvsJ.cons
      · apply EvJ.comp1 (ds := ts.map V.str)
        case hclo => k_clsL
        case hnd => decide
        case hkind => rfl
        case hw =>
          apply WkJ.list
          · k_upd
          · exact TgOk.name
        case hs => intro x; rfl
        case hlen => rw [List.length_map, List.length_map, h4]; decide
        case hbd =>
          intro C
          rw [show (ts.map (ellBit (patOf (things ts want)))).map V.int = ts.flatMap fun t => [V.int (ellBit (patOf (things ts want)) t)] by rw [List.map_map]; exact (flatMap_one _ _).symm]
          refine BdsJ.of V.str _ _ fun t ht => ⟨_, true, TgJ.name (Stores.none (.inl (by kernel_rfl))), Sub.lk ?_, TsJ.nil, fun _ => ?_, fun h => nomatch h⟩
          · k_subL
          · apply EmJ.elt
            unfold ellBit
            apply EvJ.ite (b := ellMatch (patOf (things ts want)) t == true)
            · apply TrJ.cmp
              · apply EvJ.fcall
                · apply GlV.glob
                  · kernel_rfl
                  · k_is
                  · kernel_rfl
                · k_is
                · k_upd
                · exact (c_ell' (hok t ht)).mono (by decide)
                · kernel_rfl
              · k_upd
              · exact CmpJ.isb
              · kernel_rfl
            · intro h; rw [if_pos h]; k_upd
            · intro h; rw [if_neg (by rw [h]; decide)]; k_upd
      · apply EvsJ.cons
        · exact EvJ.int
        · exact EvsJ.nil
        · kernel_rfl
      · kernel_rfl
    · exact hd2.mono (by decide)
    · kernel_rfl
end
section
local macro_rules | `(tactic| k_allIn) => `(tactic| first | with_reducible assumption | omega | decide)
local macro_rules | `(tactic| k_upd) => `(tactic| first
  | ((with_reducible apply EvJ.slU); k_upd; k_upd; k_allIn; exact fun _ _ => by with_unfolding_all rfl)
  | ((with_reducible apply EvJ.slL); k_upd; k_upd; k_allIn; exact fun _ _ => by with_unfolding_all rfl)
  | ((with_reducible apply EvJ.joins); k_upd; k_upd; k_allIn; (intro w; rfl); kernel_rfl; kernel_rfl))
noncomputable def asked (f s : Str) : List (Str × Str) :=
  [(Txt.join ("..." : Str) (PyProof.Rows.signs f), s), (f ++ ("..." : Str) ++ f, f), (f ++ ("..." : Str) ++ f, f ++ f), (("..." : Str) ++ Txt.join ("..." : Str) (PyProof.Rows.signs f) ++ ("..." : Str), f ++ subStr f none (some 1)),
    (("..." : Str) ++ Txt.join ("..." : Str) (PyProof.Rows.signs (subStr f (some 1) none ++ subStr f none (some 1))) ++ ("..." : Str), f), (("..." : Str) ++ subStr f none (some (-1)) ++ ("..." : Str) ++ subStr f (some 1) none ++ ("..." : Str), f)]
noncomputable def missing (f s : Str) : List Str := (PyProof.Rows.signs f).filter fun one => !Txt.contains s one
noncomputable def due (f s : Str) : List Bool := [V.eqbs ((missing f s).map V.str) [] && ((subStr f none (some 1) == subStr s none (some 1)) && (subStr f (some (-1)) none == subStr s (some (-1)) none)), f == "", true, true, decide ((f.length : Int) < 2), decide ((f.length : Int) < 3)]
noncomputable def wrong (f s : Str) : List ((Str × Str) × Bool) := ((asked f s).zip (due f s)).filter fun p => ellMatch p.1.1 p.1.2 != p.2
noncomputable def rightly (f s : Str) : Bool := V.eqbs ((wrong f s).map fun p => V.tup [.str p.1.1, .str p.1.2]) []
noncomputable def trOk (f s : Str) : Bool := decide (f.length ≤ 100) && decide (s.length ≤ 100) && JoinOk ("..." : Str) (PyProof.Rows.signs f) && JoinOk ("..." : Str) (PyProof.Rows.signs (subStr f (some 1) none ++ subStr f none (some 1))) &&
  ([subStr f none (some 1), subStr s none (some 1), subStr f (some (-1)) none, subStr s (some (-1)) none, subStr f (some 1) none, subStr f none (some (-1)), Txt.join ("..." : Str) (PyProof.Rows.signs f), Txt.join ("..." : Str) (PyProof.Rows.signs (subStr f (some 1) none ++ subStr f none (some 1))),
    f ++ ("..." : Str), ("..." : Str) ++ Txt.join ("..." : Str) (PyProof.Rows.signs f), ("..." : Str) ++ Txt.join ("..." : Str) (PyProof.Rows.signs (subStr f (some 1) none ++ subStr f none (some 1))), ("..." : Str) ++ subStr f none (some (-1)), ("..." : Str) ++ subStr f none (some (-1)) ++ ("..." : Str), ("..." : Str) ++ subStr f none (some (-1)) ++ ("..." : Str) ++ subStr f (some 1) none, ("..." : Str)].all fun x => decide (x.length ≤ 1000)) &&
  ((asked f s).all fun p => ellOk p.1 p.2)
noncomputable def pairS (p : Str × Str) : V := .tup [.str p.1, .str p.2]
theorem c_rightly {X : Cx} {f s : Str} (h : trOk f s = true) : CallJ X 4 (.ref 319) [.str f, .str s] (.bool (rightly f s)) := by
  have h' := h
  clear h
  unfold trOk at h'
  simp only [Bool.and_eq_true, decide_eq_true_eq, List.all_cons, List.all_nil] at h'
  obtain ⟨⟨⟨⟨⟨hf, hs⟩, hj1⟩, hj2⟩, l1, l2, l3, l4, l5, l6, l7, l8, l9, l10, l11, l12, l13, l14, l15, _⟩, hall⟩ := h'
  have l0 : ("..." : Str).length = 3 := by decide +kernel
  have l16 : (subStr f (some 1) none ++ subStr f none (some 1)).length ≤ 1000000 := by
    rw [PySem.Str.length_append]; omega
  refine CallJ.fn (ns := [Str.ofString "first", Str.ofString "second"]) [(Str.ofString "first", .str f), (Str.ofString "second", .str s)] rfl (by k_is) (by k_is) ?_ rfl (by decide) (by kernel_rfl) ?_ (by kernel_rfl) (by kernel_rfl) (by kernel_rfl) (by decide)
  · exact bind2 fun _ _ => by kernel_rfl
  · intro L
    apply ExJ.cons
    · apply StJ.assign (d := V.list ((asked f s).map pairS))
      · show EvJ _ _ _ _ _ (V.list [.tup [.str (Txt.join ("..." : Str) (PyProof.Rows.signs f)), .str s], .tup [.str (f ++ ("..." : Str) ++ f), .str f], .tup [.str (f ++ ("..." : Str) ++ f), .str (f ++ f)],
          .tup [.str (("..." : Str) ++ Txt.join ("..." : Str) (PyProof.Rows.signs f) ++ ("..." : Str)), .str (f ++ subStr f none (some 1))],
          .tup [.str (("..." : Str) ++ Txt.join ("..." : Str) (PyProof.Rows.signs (subStr f (some 1) none ++ subStr f none (some 1))) ++ ("..." : Str)), .str f],
          .tup [.str (("..." : Str) ++ subStr f none (some (-1)) ++ ("..." : Str) ++ subStr f (some 1) none ++ ("..." : Str)), .str f]])
        k_upd
      · exact Stores.none (.inl (by kernel_rfl))
      · kernel_rfl
    apply ExJ.cons
    · apply StJ.assign (d := V.list ((due f s).map V.bool))
      · show EvJ _ _ _ _ _ (V.list [.bool (V.eqbs ((missing f s).map V.str) [] && ((subStr f none (some 1) == subStr s none (some 1)) && (subStr f (some (-1)) none == subStr s (some (-1)) none))), .bool (f == ""), .bool true, .bool true, .bool (decide ((f.length : Int) < 2)), .bool (decide ((f.length : Int) < 3))])
        have hlen : ∀ {env p1 p2 p3 ρ'}, Env.kindOf env (Str.ofString "len") = some .globalImplicit → Lk ρ' (Str.ofString "first") (V.str f) → EvJ X 3 env ρ' (.Call (.Name (Str.ofString "len") p1) [.Name (Str.ofString "first") p2] [] p3) (.int f.length) := fun {env p1 p2 p3 ρ'} hk lk => by
          apply EvJ.bcall (id := "len")
          · apply GlV.builtin
            · exact hk
            · k_is
            · decide
            · decide +kernel
            · kernel_rfl
          · apply EvsJ.cons
            · exact EvJ.name lk.lk (by kernel_rfl) (by kernel_rfl)
            · exact EvsJ.nil
            · kernel_rfl
          · exact CallJ.lens (by omega)
          · kernel_rfl
        apply EvJ.list
        · apply EvsJ.cons
          · apply EvJ.and3
            · apply EvJ.cmp
              · apply EvJ.comp1 (ds := (PyProof.Rows.signs f).map V.str) (zs := (missing f s).map V.str)
                case hclo => k_clsL
                case hnd => decide
                case hkind => rfl
                case hw =>
                  rw [show (PyProof.Rows.signs f).map V.str = chrs f by unfold PyProof.Rows.signs chrs; rw [List.map_map]; rfl]
                  apply WkJ.str
                  k_upd
                case hs => intro x; rfl
                case hlen =>
                  rw [List.length_map]
                  refine Nat.le_trans (List.length_filter_le ..) ?_
                  unfold PyProof.Rows.signs
                  rw [List.length_map, Array.length_toList]
                  exact Nat.le_trans hf (by decide)
                case hbd =>
                  intro C
                  rw [show (missing f s).map V.str = (PyProof.Rows.signs f).flatMap fun one => if (!Txt.contains s one) then [V.str one] else [] from (flatMap_if _ _ _).symm]
                  refine BdsJ.of V.str _ _ fun one hone => ⟨_, !Txt.contains s one, TgJ.name (Stores.none (.inl (by kernel_rfl))), Sub.lk ?_, TsJ.one ?_, fun h => ?_, fun h => ?_⟩
                  · k_subL
                  · k_upd
                  · rw [if_pos h]
                    apply EmJ.elt
                    k_upd
                  · rw [h]; rfl
              · apply EvJ.list
                · exact EvsJ.nil
                · decide
              · exact CmpJ.eql (n := 0) Shps.nil' (by decide)
              · kernel_rfl
            · intro _
              apply EvJ.and2
              · k_upd
              · intro _
                k_upd
          · apply EvsJ.cons
            · k_upd
            · apply EvsJ.cons
              · k_upd
              · apply EvsJ.cons
                · k_upd
                · apply EvsJ.cons
                  · apply EvJ.cmp
                    · exact hlen (by kernel_rfl) (by k_memK)
                    · k_upd
                    · exact CmpJ.lti
                    · kernel_rfl
                  · apply EvsJ.cons
                    · apply EvJ.cmp
                      · exact hlen (by kernel_rfl) (by k_memK)
                      · k_upd
                      · exact CmpJ.lti
                      · kernel_rfl
                    · exact EvsJ.nil
                    · kernel_rfl
                  · kernel_rfl
                · kernel_rfl
              · kernel_rfl
            · kernel_rfl
          · kernel_rfl
        · exact Nat.le_of_ble_eq_true rfl
      · exact Stores.none (.inl (by kernel_rfl))
      · kernel_rfl
    apply ExJ.ret
    apply StJ.ret
    unfold rightly
    apply EvJ.cmp
    · apply EvJ.comp1 (ds := List.zipWith (fun a b => V.tup [a, b]) ((asked f s).map pairS) ((due f s).map V.bool)) (zs := (wrong f s).map fun p => pairS p.1)
      case hclo => k_clsL
      case hnd => decide
      case hkind => rfl
      case hw =>
        apply WkJ.tcall (T := "zip")
        · apply GlV.builtin
          · kernel_rfl
          · k_is
          · decide
          · decide +kernel
          · kernel_rfl
        · k_upd
        · exact WcJ.zipll
        · kernel_rfl
      case hs => intro x; rfl
      case hlen =>
        rw [List.length_map]
        refine Nat.le_trans (List.length_filter_le ..) ?_
        rw [List.length_zip]
        exact Nat.le_trans (Nat.min_le_left _ _) (by show 6 ≤ 1000; decide)
      case hbd =>
        intro C
        rw [show List.zipWith (fun a b => V.tup [a, b]) ((asked f s).map pairS) ((due f s).map V.bool) = ((asked f s).zip (due f s)).map fun p => V.tup [pairS p.1, V.bool p.2] by
          rw [List.zipWith_map, List.zip, List.map_zipWith]]
        rw [show (wrong f s).map (fun p => pairS p.1) = ((asked f s).zip (due f s)).flatMap fun p => if (ellMatch p.1.1 p.1.2 != p.2) then [pairS p.1] else [] from (flatMap_if _ _ _).symm]
        refine BdsJ.of _ _ _ fun p hp => ⟨_, ellMatch p.1.1 p.1.2 != p.2, TgJ.pair (Stores.none (.inl (by kernel_rfl))) (Stores.none (.inl (by kernel_rfl))), Sub.lk ?_, TsJ.one ?_, fun h => ?_, fun h => ?_⟩
        · k_subL
        · have hok : ellOk p.1.1 p.1.2 = true := List.all_eq_true.mp hall p.1 (List.of_mem_zip hp).1
          apply TrJ.cmp
          · apply EvJ.fcall (ds := [.str p.1.1, .str p.1.2])
            · apply GlV.glob
              · kernel_rfl
              · k_is
              · kernel_rfl
            · k_is
            · apply EvsJ.cons
              · apply EvJ.sub
                · k_upd
                · k_upd
                · exact GetJ.tup (by decide) (by decide) rfl
                · exact fun _ _ => by with_unfolding_all rfl
              · apply EvsJ.cons
                · apply EvJ.sub
                  · k_upd
                  · k_upd
                  · exact GetJ.tup (by decide) (by decide) rfl
                  · exact fun _ _ => by with_unfolding_all rfl
                · exact EvsJ.nil
                · kernel_rfl
              · kernel_rfl
            · exact (c_ell' hok).mono (by decide)
            · kernel_rfl
          · k_upd
          · exact CmpJ.isntb
          · kernel_rfl
        · rw [if_pos h]
          apply EmJ.elt
          k_upd
        · rw [h]; rfl
    · apply EvJ.list
      · exact EvsJ.nil
      · decide
    · exact CmpJ.eql (n := 0) Shps.nil' (by decide)
    · kernel_rfl
end
section
noncomputable def sstep (s : List Int) (p : Int × Nat) : List Int := s.set ((p.2 : Int).fmod 5).toNat (s.getD ((p.2 : Int).fmod 5).toNat 0 + p.1.fmod ((10 : Int) ^ (6 : Int).toNat))
noncomputable def sums (script : List Int) : List Int := ((script.take 60).zipIdx.foldl sstep [19, 36, 58, 140, 66]).map fun x => x.fmod ((10 : Int) ^ (6 : Int).toNat)
noncomputable def enumI (p : Int × Nat) : V := .tup [.int (p.2 : Nat), .int p.1]
theorem enum_map (l : List Int) : enumL (l.map V.int) = l.zipIdx.map enumI := by
  unfold enumL
  rw [List.zipIdx_map, List.map_map]; rfl
theorem flatMap_one5 {α β : Type} (l : List α) (f : α → β) : (l.flatMap fun a => [f a]) = l.map f := by
  induction l with
  | nil => rfl
  | cons a l ih => rw [List.flatMap_cons, ih]; rfl
theorem c_sums {X : Cx} {script : List Int} (hs : script.length ≤ 63) : CallJ X 1 (.ref 255) [.list (script.map V.int)] (.list ((sums script).map V.int)) := by
  refine CallJ.fn (ns := [Str.ofString "script"]) [(Str.ofString "script", .list (script.map V.int))] rfl (by k_is) (by k_is) ?_ rfl (by decide) (by kernel_rfl) ?_ (by kernel_rfl) (by kernel_rfl) (by kernel_rfl) (by decide)
  · exact bind1 fun _ => by kernel_rfl
  · intro L
    have hl : ∀ l : List Int, l.length = 5 → ∀ p, (sstep l p).length = 5 := fun l h p => by unfold sstep; rw [List.length_set]; exact h
    apply ExJ.cons
    · refine StJ.own (ds := ([19, 36, 58, 140, 66] : List Int).map V.int) ?_ (.inl (by kernel_rfl)) (by kernel_rfl) (by kernel_rfl)
      apply FrJ.list
      · show EvsJ _ _ _ _ _ [V.int 19, .int 36, .int 58, .int 140, .int 66]
        k_upd
      · decide
    apply ExJ.cons
    · apply StJ.for (ds := (script.take 60).zipIdx.map enumI)
      · rw [← enum_map]
        apply WkJ.tcall (T := "enumerate")
        · apply GlV.builtin
          · kernel_rfl
          · k_is
          · decide
          · decide +kernel
          · kernel_rfl
        · apply EvsJ.cons
          · apply EvJ.slice (l := none) (u := some ((60 : Nat) : Int)) (d := .list ((script.take 60).map V.int))
            · k_upd
            · trivial
            · exact EvJ.int
            · rw [List.map_take]
              exact SliJ.upto (by rw [List.length_map]; k_data)
            · intro o i; with_unfolding_all rfl
          · exact EvsJ.nil
          · kernel_rfl
        · exact WcJ.enum
        · kernel_rfl
      · refine LoopJ.fold enumI (fun (_ : List Int) => [(Str.ofString "script", .list (script.map V.int))]) (fun s => some (Own.lst (Str.ofString "sums") (s.map V.int))) sstep (script.take 60).zipIdx (fun s => s.length = 5) (fun s p _ h => hl s h p) (fun s p _ h => ?_) [19, 36, 58, 140, 66] rfl (fun _ => ExJ.nil)
        refine ⟨_, TgJ.pair (Stores.some (.inl (by kernel_rfl)) (by kernel_rfl)) (Stores.some (.inl (by kernel_rfl)) (by kernel_rfl)), ?_⟩
        have b1 : 0 ≤ (p.2 : Int).fmod 5 := Int.fmod_nonneg_of_pos _ (by decide)
        have b2 : (p.2 : Int).fmod 5 < 5 := Int.fmod_lt_of_pos _ (by decide)
        have hlt : ((p.2 : Int).fmod 5).toNat < s.length := by k_data
        have e : (sstep s p).map V.int = (s.map V.int).set ((p.2 : Int).fmod 5).toNat (V.int (s.getD ((p.2 : Int).fmod 5).toNat 0 + p.1.fmod ((10 : Int) ^ (6 : Int).toNat))) := by unfold sstep; rw [List.map_set]
        rw [e]
        apply ExJ.one
        apply StJ.to
        · refine StJ.augSub (y := V.int (s.getD ((p.2 : Int).fmod 5).toNat 0)) (d := V.int (p.1.fmod ((10 : Int) ^ (6 : Int).toNat))) ?_ ?_ b1 (by k_data) ?_ ?_ (by kernel_rfl) (fun _ _ _ => rfl)
          · k_upd
          · k_upd
          · rw [List.getElem?_map, List.getD_eq_getElem?_getD, List.getElem?_eq_getElem hlt]; rfl
          · exact InJ.add
        · k_subL
      · intro x; rfl
    · apply ExJ.freeze
      apply ExJ.ret
      apply StJ.ret
      apply EvJ.comp1 (ds := ((script.take 60).zipIdx.foldl sstep [19, 36, 58, 140, 66]).map V.int)
      case hclo => k_clsL
      case hnd => decide
      case hkind => rfl
      case hw =>
        apply WkJ.list
        · k_upd
        · exact TgOk.name
      case hs => intro x; rfl
      case hlen =>
        have : ∀ (ps : List (Int × Nat)) (l : List Int), l.length = 5 → (ps.foldl sstep l).length = 5 := fun ps => by
          induction ps with
          | nil => intro l h; exact h
          | cons p ps ih => intro l h; exact ih _ (hl l h p)
        rw [List.length_map, sums, List.length_map, this _ _ rfl]; decide
      case hbd =>
        intro C
        rw [show (sums script).map V.int = ((script.take 60).zipIdx.foldl sstep [19, 36, 58, 140, 66]).flatMap fun p => [V.int (p.fmod ((10 : Int) ^ (6 : Int).toNat))] by rw [sums, List.map_map]; exact (flatMap_one5 _ _).symm]
        refine BdsJ.of V.int _ _ fun p hp => ⟨_, true, TgJ.name (Stores.none (.inl (by kernel_rfl))), Sub.lk ?_, TsJ.nil, fun _ => ?_, fun h => nomatch h⟩
        · k_subL
        · apply EmJ.elt
          show EvJ _ _ _ _ _ (V.int (p.fmod ((10 : Int) ^ (6 : Int).toNat)))
          k_upd
end
section
noncomputable def common (rows : List Int) (want : Int) : Int := rows.foldl (fun c row => if Builtin.bitAnd row want == want then Builtin.bitAnd c row else c) 15
theorem c_common {X : Cx} {rows : List Int} {want : Int} : CallJ X 1 (.ref 314) [.list (rows.map V.int), .int want] (.int (common rows want)) := by
  refine CallJ.fn (ns := [Str.ofString "rows", Str.ofString "want"]) [(Str.ofString "rows", .list (rows.map V.int)), (Str.ofString "want", .int want)] rfl (by k_is) (by k_is) ?_ rfl (by decide) (by kernel_rfl) ?_ (by kernel_rfl) (by kernel_rfl) (by kernel_rfl) (by decide)
  · exact bind2 fun _ _ => by kernel_rfl
  · intro L
    apply ExJ.cons
    · apply StJ.assign
      · k_upd
      · exact Stores.none (.inl (by kernel_rfl))
      · kernel_rfl
    apply ExJ.cons
    · apply StJ.for
      · apply WkJ.list
        · k_upd
        · exact TgOk.name
      · refine LoopJ.fold V.int (fun (c : Int) => [(Str.ofString "common", V.int c), (Str.ofString "rows", .list (rows.map V.int)), (Str.ofString "want", .int want)]) (fun _ => none)
          (fun c row => if Builtin.bitAnd row want == want then Builtin.bitAnd c row else c) rows (fun _ => True) (fun _ _ _ _ => trivial) (fun c row _ _ => ?_) 15 trivial (fun _ => ExJ.nil)
        refine ⟨_, TgJ.name (Stores.none (.inl (by kernel_rfl))), ?_⟩
        refine ExJ.to (ρ₂ := (Str.ofString "common", V.int (if Builtin.bitAnd row want == want then Builtin.bitAnd c row else c)) :: (Str.ofString "row", .int row) :: (Str.ofString "common", V.int c) :: [(Str.ofString "rows", .list (rows.map V.int)), (Str.ofString "want", .int want)]) ?_ ?_
        · apply ExJ.one
          apply StJ.ite
          · k_upd
          · intro h
            rw [if_pos h]
            apply ExJ.one
            apply StJ.aug
            · apply Lk.lk; k_memK
            · k_upd
            · k_updF
            · exact Stores.none (.inl (by kernel_rfl))
            · kernel_rfl
          · intro h
            rw [if_neg (by simp [h])]
            refine ExJ.to ExJ.nil ?_
            refine .cons ?_ (.cons ?_ (.cons ?_ (.cons ?_ (.cons ?_ .nil)))) <;> k_memK
        · refine .cons ?_ (.cons ?_ (.cons ?_ .nil)) <;> k_memK
      · intro x; rfl
    · apply ExJ.ret
      apply StJ.ret
      unfold common
      k_upd
end
section
noncomputable abbrev names10 : List V := [.str "OPTIMIZED", .str "NEWLOCALS", .str "VARARGS", .str "VARKEYWORDS", .str "NESTED", .str "GENERATOR", .str "NOFREE", .str "COROUTINE", .str "ITERABLE_COROUTINE", .str "ASYNC_GENERATOR"]
noncomputable def wordV (i : Int) : V := if i < 10 then names10.getD i.toNat .none else .str (("0x" : Str) ++ Txt.item "1248" (i.fmod 4) ++ Txt.mul "0" (i.fdiv 4))
theorem word_aux : ∀ n : Nat, n < 40 → (0 ≤ (n : Int).fmod 4 ∧ (n : Int).fmod 4 < 1000000) ∧ MulOk "0" ((n : Int).fdiv 4) ∧ (((n : Int).fmod 4).toNat < ("1248" : Str).length) ∧ (("0x" : Str).length + (Txt.item "1248" ((n : Int).fmod 4)).length ≤ 1000000) ∧
    ((("0x" : Str) ++ Txt.item "1248" ((n : Int).fmod 4)).length + (Txt.mul "0" ((n : Int).fdiv 4)).length ≤ 1000000) := by
  unfold MulOk
  decide +kernel
theorem c_word {X : Cx} {i : Int} (h0 : 0 ≤ i) (h1 : i < 40) : CallJ X 1 (.ref 262) [.int i] (wordV i) := by
  refine CallJ.fn (ns := [Str.ofString "place"]) [(Str.ofString "place", .int i)] rfl (by k_is) (by k_is) ?_ rfl (by decide) (by kernel_rfl) ?_ (by kernel_rfl) (by kernel_rfl) (by kernel_rfl) (by decide)
  · exact bind1 fun _ => by kernel_rfl
  · intro L
    apply ExJ.cons
    · apply StJ.assign
      · k_upd
      · exact Stores.none (.inl (by kernel_rfl))
      · kernel_rfl
    apply ExJ.ret
    apply StJ.ret
    apply EvJ.ite
    · k_upd
    · intro h
      have h2 := of_decide_eq_true h
      rw [show wordV i = names10.getD i.toNat .none from if_pos h2]
      have : i.toNat < names10.length := by show i.toNat < 10; k_data
      k_upd
    · intro h
      have h2 := of_decide_eq_false h
      rw [show wordV i = .str (("0x" : Str) ++ Txt.item "1248" (i.fmod 4) ++ Txt.mul "0" (i.fdiv 4)) from if_neg h2]
      obtain ⟨n, rfl⟩ := Int.eq_ofNat_of_zero_le h0
      obtain ⟨⟨a5, a6⟩, a1, a2, a3, a4⟩ := word_aux n (by k_data)
      k_upd
end
section
noncomputable def tapeOf (base : Nat) (S4 : List Nat) : List Int := S4.flatMap fun n => octets (((n % 16 : Nat) : Int) * 2 ^ base) ((n / 16 % 4 : Nat) : Int)
theorem natI (n : Nat) : V.int (n : Int) = (fun k : Nat => V.int (k : Int)) n := rfl
theorem fmodN (a b : Nat) : ((a : Int).fmod (b : Int)) = ((a % b : Nat) : Int) := by rw [Int.fmod_eq_emod_of_nonneg _ (Int.natCast_nonneg b)]; exact (Int.natCast_emod a b).symm
theorem fdivN (a b : Nat) : ((a : Int).fdiv (b : Int)) = ((a / b : Nat) : Int) := by rw [Int.fdiv_eq_ediv_of_nonneg _ (Int.natCast_nonneg b)]; exact (Int.natCast_ediv a b).symm
theorem oct_len (num dress : Int) : (octets num dress).length ≤ 6 := by
  unfold octets
  rw [List.length_map]
  exact Nat.le_trans (List.length_filter_le ..) (by decide)
theorem BdsJ.maps {X : Cx} {n : Nat} {env : Env} {ρ : List (Str × V)} {target elt : Expr} {α : Type} (emb : α → V) (l : List α) (F : α → V) (hb : ∀ a ∈ l, ∃ ρ₁, TgJ X env none target (emb a) ρ ρ₁ ∧ Sub ρ₁ ρ ∧ EvJ X n env ρ₁ elt (F a)) :
    BdsJ X n env ρ target [] (fun acc => do let _ ← call (.builtin "list.append") [acc, ← eval elt env]) (l.map emb) (l.map F) := by
  have := BdsJ.of (X := X) (n := n) (env := env) (ρ := ρ) (target := target) (ifs := []) (emit := fun acc => do let _ ← call (.builtin "list.append") [acc, ← eval elt env]) emb l (fun a => [F a]) fun a ha => by
    obtain ⟨ρ₁, h1, h2, h3⟩ := hb a ha
    exact ⟨ρ₁, true, h1, h2.lk, TsJ.nil, fun _ => EmJ.elt h3, fun h => nomatch h⟩
  rwa [flatMap_one] at this
theorem BdsJ.filt {X : Cx} {n : Nat} {env : Env} {ρ : List (Str × V)} {target elt test : Expr} {α : Type} (emb : α → V) (l : List α) (p : α → Bool) (F : α → V) (hb : ∀ a ∈ l, ∃ ρ₁, TgJ X env none target (emb a) ρ ρ₁ ∧ Sub ρ₁ ρ ∧ TrJ X n env ρ₁ test (p a) ∧ (p a = true → EvJ X n env ρ₁ elt (F a))) :
    BdsJ X n env ρ target [test] (fun acc => do let _ ← call (.builtin "list.append") [acc, ← eval elt env]) (l.map emb) ((l.filter p).map F) := by
  have := BdsJ.of (X := X) (n := n) (env := env) (ρ := ρ) (target := target) (ifs := [test]) (emit := fun acc => do let _ ← call (.builtin "list.append") [acc, ← eval elt env]) emb l (fun a => if p a then [F a] else []) fun a ha => by
    obtain ⟨ρ₁, h1, h2, h3, h4⟩ := hb a ha
    exact ⟨ρ₁, p a, h1, h2.lk, TsJ.one h3, fun h => by rw [if_pos h]; exact EmJ.elt (h4 h), fun h => by rw [h]; rfl⟩
  rwa [flatMap_if] at this
end
section
section
variable {X : Cx} {n : Nat} {env : Env} {ρ : List (Str × V)} {hb : Heap} {av0 : Addr → Prop}
theorem WkJ.rangeN {e : Expr} {nm x : Str} {p q pos : Pos} {k : Nat} (hf : GlV X n env ρ (.Name nm q) (.type "range")) (he : EvJ X n env ρ e (.int (k : Int))) (hst : isStarred e = false) (hsm : Builtin.Range.small 0 (k : Int) 1 = true) (hsz : Builtin.Range.rangeSize 0 (k : Int) 1 = k) :
    WkJ X n env ρ (.Name x p) (.Call (.Name nm q) [e] [] pos) ((List.range k).map fun i : Nat => V.int i) := by
  have := WkJ.tcall (pos := pos) hf (.cons he .nil (starEach_of hst)) (WcJ.range1 (X := X) (x := x) (p := p) hsm hsz) (by rw [List.any_cons, hst]; rfl)
  rwa [show rangeL 0 k = (List.range k).map fun i : Nat => V.int i from List.map_congr_left fun i _ => by rw [Int.zero_add]] at this
theorem callIter {A : Around} {E : Value → Shared → Prop} {s : Shared} {l : Addr} {items : Array Value} {Q : Value → Shared → Prop} (hl : s.heap.IsList l items)
    (hQ : Q (.ref s.heap.objs.size) { s with heap := s.heap.push { cls := .type "list_iterator", data := .fields #[.ref l, .int 0 0] } }) : wpAny (MX X) A (call (.builtin "iter") [.ref l]) Q E s := by
  refine call_function_entry (by decide +kernel) (by decide +kernel) kdk_entry_iter (kdk_args_iter _) ?_
  unfold Builtin.«iter»
  refine wpAny_bind (m := someArgs "iter" 1 2 _) (wpAny_of_eq (a := [Value.ref l]) (by first | rfl | kernel_rfl!) ?_)
  show wpAny _ _ (pyIter (.ref l) >>= _) _ _ _
  refine wpAny_bind (wpAny_pyIter_list hl ?_)
  exact wpAny_pure ⟨_, rfl, hQ⟩
theorem Inv.offE {h : Heap} {l : Addr} (I : Inv X hb (fun b => av0 b ∨ b ∈ [l]) env ρ none none h) (h3 : hb.get? l = none) : OffE env l := ⟨fun z => I.d1 (.inr (z ▸ .head _)), fun y c hc z => by
  rcases I.cs y c hc with ⟨o, e⟩ | e
  · rw [z, h3] at e; cases e
  · exact I.d2 y c hc e.1 (.inr (z ▸ .head _))⟩
theorem stIter {A : Around} {E : Value → Shared → Prop} {s : Shared} {y nm : Str} {p py pos spos : Pos} {e : Expr} {ds : List Int} (hf : GlV X n env ρ (.Name nm p) (.builtin "iter")) (h : EvJ X n env ρ e (.list (ds.map V.int))) (hst : isStarred e = false) (hy : Stores env none y) (b : Bud n A) (I : Inv X hb av0 env ρ none none s.heap)
    (hs : swapsWith (.Call (.Name nm p) [e] [] pos) (some (.Name y py)) spos.line env = pure false) :
    wpAny (MX X) A (exec (.Assign [.Name y py] (.Call (.Name nm p) [e] [] pos) spos) env) (fun fl s' => fl = .next ∧ ∃ it, s.heap.get? it = none ∧ X.S.objs.size ≤ it ∧ hb.get? it = none ∧ OffE env it ∧ Inv X hb (fun b => av0 b ∨ b ∈ [it]) env ((y, .raw (.ref it) []) :: ρ) none none s'.heap ∧
      (gR it).P ds (AvB (fun b => av0 b ∨ b ∈ [it]) env none) s'.heap ∧ Same env none s s') E s := by
  refine wpAny_Assign_Name (wpAny_Call_Name_kw (wpAny_mono (hf.run A E s _ b I.ok I.en) (fun v s₁ q => ?_) fun _ _ e => e)) hs
  obtain ⟨rfl, rfl⟩ := q
  refine callWith_builtin (by rw [starEach_of hst]; rfl) ?_
  have ev := (EvsJ.cons h EvsJ.nil (starEach_of hst)).run pos A E s₁ _ b I.ok I.avk I.en
  rw [starEach_of hst] at ev ⊢
  refine evalArgs_plain (wpAny_mono ev (fun vs s₂ q => ?_) fun _ _ e => e)
  obtain ⟨q1, q2⟩ := q
  (have hx := Rs.consI q2; clear q2; obtain ⟨_, _, rfl, r, rs⟩ := hx)
  case _ =>
  (first | (obtain ⟨_, rfl⟩ := R.intI rs; clear rs) | (obtain ⟨_, rfl⟩ := R.strI rs; clear rs) | (obtain rfl := R.boolI rs; clear rs) | (obtain rfl := Rs.nilI rs; clear rs) | (obtain rfl := R.noneI rs; clear rs) | cases rs)
  (have hx := R.listI r; clear r; obtain ⟨l, vs, rfl, nl, pl, rs⟩ := hx)
  case _ =>
  refine callIter pl.isList ?_
  have I2 := I.step q1
  have st : Stp X s₂ { s₂ with heap := s₂.heap.push { cls := .type "list_iterator", data := .fields #[.ref l, .int 0 0] } } := .push q1.ok
  have eit : (s₂.heap.push { cls := .type "list_iterator", data := .fields #[.ref l, .int 0 0] }).get? s₂.heap.objs.size = some { cls := .type "list_iterator", data := .fields #[.ref l, .int 0 0] } := Heap.get?_push_size _ rfl
  have fit : s₂.heap.get? s₂.heap.objs.size = none := size_none _
  have lt := q1.ok.sz
  generalize hit : s₂.heap.objs.size = it at *
  have nt : ¬ tab it := X.ntab lt
  have ne : l ≠ it := fun z => by obtain ⟨m, e⟩ := pl; rw [z, fit] at e; cases e
  have I3 := I2.wide st (.refl _) (wr := [it]) (fun b z => by cases List.mem_singleton.mp z; exact fit) (fun b z => by cases List.mem_singleton.mp z; exact ⟨⟨_, eit⟩, .at eit rfl rfl fun _ _ q => nomatch q⟩) I2.tab0
  have hbn : hb.get? it = none := by
    cases e : hb.get? it with
    | none => rfl
    | some o => rw [I2.ext it o nt e] at fit; cases fit
  have nl' : ¬ AvB (fun b => av0 b ∨ b ∈ [it]) env none l := fun z => by
    rcases z with (z | z) | z
    · exact nl (.inl z)
    · exact ne (List.mem_singleton.mp z)
    · exact nl (.inr z)
  have P3 : (gR it).P ds (AvB (fun b => av0 b ∨ b ∈ [it]) env none) _ := ⟨l, 0, vs, ds, ⟨_, eit, rfl, rfl⟩, let ⟨m, e⟩ := pl; ⟨m, Heap.get?_push_of_some _ e⟩, ints_of rs _ _, rfl, nl'⟩
  refine wpAny_mono (I3.store (d := .raw (.ref it) []) (.raw _ _ fun _ q => nomatch q) hy.1 hy.2) (fun _ s₄ z => ?_) fun _ _ e => e
  obtain ⟨z1, z2, z3⟩ := z
  refine ⟨rfl, it, ?_, lt, hbn, I3.offE hbn, z2, (gR it).mv (fun b o q e => ?_) (fun _ q => .inl q) P3, (q1.same.trans st.same).trans z1⟩
  · exact sz_of I.ok q1 it fit nt
  · rcases q with rfl | q
    · exact z1.kp _ o (I3.nmut _ (.inr (.head _)) nt) e
    · exact z3 b o q e
end
end
section
noncomputable def wS (i : Nat) : Str := match wordV (i : Int) with | .str x => x | _ => ""
noncomputable def isStr : V → Bool | .str _ => true | _ => false
theorem wordV_wS (i : Nat) (h : i < 40) : wordV (i : Int) = .str (wS i) := by
  have k : ∀ i : Nat, i < 40 → isStr (wordV (i : Int)) = true := by decide +kernel
  have := k i h
  unfold wS
  revert this
  cases wordV (i : Int) <;> intro q <;> first | rfl | cases q
theorem natNe : ∀ n : Nat, ((n : Int) != 0) = (n != 0)
  | 0 => rfl
  | _ + 1 => rfl
noncomputable def bitsOf (r : Nat) : List Nat := (List.range 4).filter fun p => Builtin.bitAnd ((r : Int).fdiv (2 ^ p)) 1 != 0
noncomputable def rowText (base r : Nat) : Str := if r != 0 then Txt.join ", " ((bitsOf r).map fun p => wS (base + p)) else "0x0"
theorem eqbs_map {α : Type} (F : α → V) (h : ∀ a, V.eqb (F a) (F a) = true) : ∀ l : List α, V.eqbs (l.map F) (l.map F) = true
  | [] => by rw [List.map_nil, V.eqbs]
  | a :: l => by rw [List.map_cons, V.eqbs, h a, eqbs_map F h l]; rfl
theorem shps_map {α : Type} {n : Nat} (F : α → V) (h : ∀ a, Shp n (F a) (F a)) : ∀ l : List α, Shps n (l.map F) (l.map F)
  | [] => .nil
  | a :: l => .cons (h a) (shps_map F h l)
theorem CmpJ.neM {α : Type} {n : Nat} (F : α → V) (hn : n ≤ 3) (h1 : ∀ a, Shp n (F a) (F a)) (h2 : ∀ a, V.eqb (F a) (F a) = true) (l : List α) : CmpJ .NotEq (.list (l.map F)) (.list (l.map F)) false := by
  have := CmpJ.nel (shps_map F h1 l) hn
  rwa [eqbs_map F h2 l] at this
theorem CallG.mono {X : Cx} {n m : Nat} {g : Gh} {x y : g.σ} {f d : V} {args : List V} (h : CallG X n g x f args y d) (hm : n ≤ m) : CallG X m g x f args y d := .mk fun A E s av u vs b => h.run A E s av u vs (b.le hm)
noncomputable abbrev letters4 : List Str := ["A", "B", "C", "D"]
noncomputable def cw (base p : Nat) : Str := if p % 2 == 0 then Txt.lower (wS (base + p)) else Txt.upper (wS (base + p))
noncomputable def letsOf (rows : List Nat) (p : Nat) : List Str := ((letters4.zip rows).filter fun q => Builtin.bitAnd ((q.2 : Int).fdiv (2 ^ p)) 1 != 0).map (·.1)
noncomputable def gaOk (es : List (Str × Str)) (nm : Str) : Bool := decide ((Txt.lower nm).length ≤ 1000000) && reMiss codeName (Txt.lower nm) && decide (es.length ≤ 1000) && es.all fun p => decide ((Txt.lower p.1).length ≤ 1000000)
theorem c_getAll' {X : Cx} {es : List (Str × Str)} {nm : Str} (h : gaOk es nm = true) : CallJ X 2 (.ref 185) [.hdr es, .str nm] (.list ((getAll es nm).map V.str)) := by
  simp only [gaOk, Bool.and_eq_true, decide_eq_true_eq, List.all_eq_true] at h
  exact c_getAll h.1.1.1 h.1.1.2 h.2 h.1.2
noncomputable def itemW (base r : Nat) : List Str := if (bitsOf r).length != 0 then (bitsOf r).map fun p => wS (base + p) else ["0x0"]
theorem eqb_pair (a : Str × Str) : V.eqb (pairV a) (pairV a) = true := by
  show V.eqb (.tup [.str a.1, .str a.2]) (.tup [.str a.1, .str a.2]) = true
  rw [V.eqb, V.eqbs, V.eqbs, V.eqbs, V.eqb, V.eqb, beq_self_eq_true, beq_self_eq_true]; rfl
noncomputable def brOk (ts : List Str) (w : Int) : Bool := decide (ts.length = 4) && (ts.all fun t => ellOk (patOf (things ts w)) t) && JoinOk "" ((things ts w).map fun one : Str => one ++ ("..." : Str)) && decide (("..." : Str).length + (Txt.join "" ((things ts w).map fun one : Str => one ++ ("..." : Str))).length ≤ 1000)
theorem c_brings' {X : Cx} {ts : List Str} {w : Int} (h : brOk ts w = true) : CallJ X 8 (.ref 286) [.list (ts.map V.str), .int w] (.int (brings ts w)) := by
  simp only [brOk, Bool.and_eq_true, decide_eq_true_eq, List.all_eq_true] at h
  exact c_brings h.1.1.1 h.1.1.2 h.1.2 h.2
theorem span {P : Nat → Prop} {m n : Nat} (h : ∀ b, b < n → P b) (k : ∀ b, b < m → P (n + b)) : ∀ b, b < n + m → P b := fun b hb =>
  if c : b < n then h b c else Nat.add_sub_cancel' (Nat.le_of_not_lt c) ▸ k (b - n) (Nat.sub_lt_left_of_lt_add (Nat.le_of_not_lt c) hb)
end
section
noncomputable def cmN (rows : List Nat) (w : Nat) : Nat := rows.foldl (fun c r => if (r &&& w == w) = true then c &&& r else c) 15
noncomputable def cmF (rows : List Nat) (w c0 : Nat) : Nat := rows.foldl (fun c r => if (r &&& w == w) = true then c &&& r else c) c0
theorem sub_iff (r w : Nat) : (r &&& w == w) = true ↔ sub w r := by rw [beq_iff_eq, Nat.and_comm]
theorem sub_and {a b c : Nat} (h : sub a b) (k : sub a c) : sub a (b &&& c) := by unfold sub at *; rw [← Nat.and_assoc, h, k]
theorem and_sub_l (a b : Nat) : sub (a &&& b) a := by unfold sub; rw [Nat.and_comm, ← Nat.and_assoc, Nat.and_self]
theorem and_sub_r (a b : Nat) : sub (a &&& b) b := by rw [Nat.and_comm]; exact and_sub_l b a
theorem cmF_le : ∀ (rows : List Nat) (w c : Nat), sub (cmF rows w c) c
  | [], _, c => sub_refl c
  | r :: rows, w, c => by
    refine sub_trans (cmF_le rows w (if (r &&& w == w) = true then c &&& r else c)) ?_
    split
    · exact and_sub_l ..
    · exact sub_refl _
theorem cmF_row : ∀ (rows : List Nat) (w c : Nat), ∀ r ∈ rows, sub w r → sub (cmF rows w c) r
  | a :: rows, w, c, r, h, s => by
    rcases List.mem_cons.mp h with rfl | h
    · refine sub_trans (cmF_le rows w (if (r &&& w == w) = true then c &&& r else c)) ?_
      rw [if_pos ((sub_iff r w).mpr s)]
      exact and_sub_r ..
    · exact cmF_row rows w _ r h s
theorem cmF_ext : ∀ (rows : List Nat) (w c : Nat), sub w c → sub w (cmF rows w c)
  | [], _, c, h => h
  | r :: rows, w, c, h => by
    refine cmF_ext rows w (if (r &&& w == w) = true then c &&& r else c) ?_
    split
    · rename_i q; exact sub_and h ((sub_iff r w).mp q)
    · exact h
theorem cmF_mono : ∀ (rows : List Nat) (a b x y : Nat), sub a b → sub x y → sub (cmF rows a x) (cmF rows b y)
  | [], _, _, _, _, _, h => h
  | r :: rows, a, b, x, y, s, h => by
    refine cmF_mono rows a b (if (r &&& a == a) = true then x &&& r else x) (if (r &&& b == b) = true then y &&& r else y) s ?_
    by_cases q : (r &&& b == b) = true
    · rw [if_pos q, if_pos ((sub_iff r a).mpr (sub_trans s ((sub_iff r b).mp q)))]
      exact sub_and (sub_trans (and_sub_l ..) h) (and_sub_r ..)
    · rw [if_neg q]
      split
      · exact sub_trans (and_sub_l ..) h
      · exact h
theorem cmF_congr : ∀ (rows : List Nat) (a b c : Nat), (∀ r ∈ rows, sub a r ↔ sub b r) → cmF rows a c = cmF rows b c
  | [], _, _, _, _ => rfl
  | r :: rows, a, b, c, h => by
    have e : (r &&& a == a) = (r &&& b == b) := Bool.eq_iff_iff.mpr (((sub_iff r a).trans (h r (.head _))).trans (sub_iff r b).symm)
    show cmF rows a (if (r &&& a == a) = true then c &&& r else c) = cmF rows b (if (r &&& b == b) = true then c &&& r else c)
    rw [e]
    exact cmF_congr rows a b _ fun r q => h r (.tail _ q)
theorem cm_clo (rows : List Nat) : Clo (cmN rows) where
  lt w _ := Nat.lt_of_le_of_lt (sub_le (cmF_le rows w 15)) (by decide)
  ext w h := cmF_ext rows w 15 (sub_15 w h)
  mono a b _ _ s := cmF_mono rows a b 15 15 s (sub_refl _)
  idem w h := cmF_congr rows _ w 15 fun r q => ⟨fun s => sub_trans (cmF_ext rows w 15 (sub_15 w h)) s, fun s => cmF_row rows w 15 r q s⟩
noncomputable def bt (r p : Nat) : Bool := Builtin.bitAnd ((r : Int).fdiv (2 ^ p)) 1 != 0
theorem bt_test : ∀ r, r < 16 → ∀ p, p < 4 → bt r p = r.testBit p := by decide +kernel
noncomputable def code (a b c d : Bool) : Nat := a.toNat + 2 * b.toNat + 4 * c.toNat + 8 * d.toNat
theorem code_lt : ∀ a b c d, code a b c d < 16 := by decide
theorem code_bit : ∀ a b c d, (code a b c d).testBit 0 = a ∧ (code a b c d).testBit 1 = b ∧ (code a b c d).testBit 2 = c ∧ (code a b c d).testBit 3 = d := by decide
noncomputable def letsN (m : Nat) : List Str := ((letters4.zip (List.range 4)).filter fun q => m.testBit q.2).map (·.1)
noncomputable def txtN (m : Nat) : Str := Txt.join "" (letsN m)
theorem letsN_code (a b c d : Bool) : letsN (code a b c d) = ((letters4.zip [a, b, c, d]).filter (·.2)).map (·.1) := by
  cases a <;> cases b <;> cases c <;> cases d <;> kernel_rfl
theorem zip_filter {α : Type} (f : α → Bool) : ∀ (l : List Str) (k : List α), ((l.zip k).filter fun q => f q.2).map (·.1) = ((l.zip (k.map f)).filter (·.2)).map (·.1)
  | [], _ => rfl
  | _ :: _, [] => rfl
  | a :: l, b :: k => by
    rw [List.map_cons, List.zip_cons_cons, List.zip_cons_cons, List.filter_cons, List.filter_cons]
    show List.map _ (if f b = true then _ else _) = List.map _ (if f b = true then _ else _)
    split
    · rw [List.map_cons, List.map_cons, zip_filter f l k]
    · exact zip_filter f l k
theorem lets_col (r0 r1 r2 r3 p : Nat) : letsOf [r0, r1, r2, r3] p = letsN (code (bt r0 p) (bt r1 p) (bt r2 p) (bt r3 p)) := by
  rw [letsN_code]
  exact zip_filter (fun r => bt r p) letters4 [r0, r1, r2, r3]
theorem contains_txt : ∀ m, m < 16 → Txt.contains (txtN m) "A" = m.testBit 0 ∧ Txt.contains (txtN m) "B" = m.testBit 1 ∧ Txt.contains (txtN m) "C" = m.testBit 2 ∧ Txt.contains (txtN m) "D" = m.testBit 3 := by decide +kernel
theorem ell_sub : ∀ T, T < 16 → ∀ S, S < 16 → ellMatch (patOf (letsN T)) (txtN S) = (T &&& S == T) ∧ ellOk (patOf (letsN T)) (txtN S) = true := by decide +kernel
theorem pat_ok : ∀ T, T < 16 → (JoinOk "" ((letsN T).map fun one : Str => one ++ ("..." : Str)) && decide (("..." : Str).length + (Txt.join "" ((letsN T).map fun one : Str => one ++ ("..." : Str))).length ≤ 1000)) = true := by decide +kernel
theorem hasAll_eq (ts : List Str) (want : Int) (one : Str) : hasAll ts want one = (missP ts want one).isEmpty := by
  unfold hasAll
  cases missP ts want one with
  | nil => rfl
  | cons a l => rfl
theorem bt_want (w p : Nat) : (Builtin.bitAnd ((w : Int).fdiv (2 ^ (0 + (p : Int)).toNat)) 1 != 0) = bt w p := by
  rw [Int.zero_add, Int.toNat_natCast]; rfl
theorem miss_nil : ∀ w, w < 16 → ∀ r, r < 16 → ((List.range 4).filter fun p => w.testBit p && !r.testBit p).isEmpty = (r &&& w == w) := by decide +kernel
noncomputable def txts (r0 r1 r2 r3 : Nat) : List Str := (List.range 4).map fun p => txtN (code (bt r0 p) (bt r1 p) (bt r2 p) (bt r3 p))
theorem hasAll_of {ts : List Str} {w r : Nat} {one : Str} (hw : w < 16) (hr : r < 16) (h : ∀ p, p < 4 → Txt.contains (ts.getD p "") one = r.testBit p) : hasAll ts (w : Int) one = (r &&& w == w) := by
  rw [hasAll_eq, ← miss_nil w hw r hr]
  refine congrArg _ (List.filter_congr fun p hp => ?_)
  have hp := List.mem_range.mp hp
  rw [missT, bt_want, bt_test w hw p hp, h p hp, Bool.and_true]
theorem txts_get (r0 r1 r2 r3 : Nat) (p : Nat) (hp : p < 4) : (txts r0 r1 r2 r3).getD p "" = txtN (code (bt r0 p) (bt r1 p) (bt r2 p) (bt r3 p)) := by
  rw [txts, List.getD_eq_getElem?_getD, List.getElem?_map, List.getElem?_range hp]; rfl
theorem things_txts (r0 r1 r2 r3 w : Nat) (h0 : r0 < 16) (h1 : r1 < 16) (h2 : r2 < 16) (h3 : r3 < 16) (hw : w < 16) : things (txts r0 r1 r2 r3) (w : Int) = letsN (code (r0 &&& w == w) (r1 &&& w == w) (r2 &&& w == w) (r3 &&& w == w)) := by
  rw [letsN_code]
  unfold things letters
  rw [List.filter_cons, List.filter_cons, List.filter_cons, List.filter_cons, List.filter_nil]
  rw [hasAll_of (r := r0) hw h0 fun p hp => by rw [txts_get _ _ _ _ _ hp, (contains_txt _ (code_lt ..)).1, (code_bit ..).1, bt_test r0 h0 p hp],
    hasAll_of (r := r1) hw h1 fun p hp => by rw [txts_get _ _ _ _ _ hp, (contains_txt _ (code_lt ..)).2.1, (code_bit ..).2.1, bt_test r1 h1 p hp],
    hasAll_of (r := r2) hw h2 fun p hp => by rw [txts_get _ _ _ _ _ hp, (contains_txt _ (code_lt ..)).2.2.1, (code_bit ..).2.2.1, bt_test r2 h2 p hp],
    hasAll_of (r := r3) hw h3 fun p hp => by rw [txts_get _ _ _ _ _ hp, (contains_txt _ (code_lt ..)).2.2.2, (code_bit ..).2.2.2, bt_test r3 h3 p hp]]
  cases (r0 &&& w == w) <;> cases (r1 &&& w == w) <;> cases (r2 &&& w == w) <;> cases (r3 &&& w == w) <;> rfl
theorem cmF_bit (w p : Nat) : ∀ (rows : List Nat) (c : Nat), (cmF rows w c).testBit p = (c.testBit p && rows.all fun r => !(r &&& w == w) || r.testBit p)
  | [], c => by rw [List.all_nil, Bool.and_true]; rfl
  | r :: rows, c => by
    show (cmF rows w (if (r &&& w == w) = true then c &&& r else c)).testBit p = _
    rw [cmF_bit w p rows, List.all_cons]
    cases (r &&& w == w) with
    | true => rw [if_pos rfl, Nat.testBit_and, Bool.not_true, Bool.false_or, Bool.and_assoc]
    | false => rw [if_neg (by decide), Bool.not_false, Bool.true_or, Bool.true_and]
theorem code_sub : ∀ a b c d e f g h : Bool, (code a b c d &&& code e f g h == code a b c d) = ((!a || e) && ((!b || f) && ((!c || g) && (!d || h)))) := by decide
theorem code_self : ∀ m, m < 16 → code (m.testBit 0) (m.testBit 1) (m.testBit 2) (m.testBit 3) = m := by decide
theorem t15 : ∀ p, p < 4 → (15).testBit p = true := by decide
theorem dval_code : ∀ a b c d : Bool, dval 1 [if a = true then 1 else 0, if b = true then 1 else 0, if c = true then 1 else 0, if d = true then 1 else 0] = (code a b c d : Int) := by decide +kernel
theorem brings_cm (r0 r1 r2 r3 w : Nat) (h0 : r0 < 16) (h1 : r1 < 16) (h2 : r2 < 16) (h3 : r3 < 16) (hw : w < 16) : brOk (txts r0 r1 r2 r3) (w : Int) = true ∧ brings (txts r0 r1 r2 r3) (w : Int) = (cmN [r0, r1, r2, r3] w : Int) := by
  have ht := things_txts r0 r1 r2 r3 w h0 h1 h2 h3 hw
  have key : ∀ p, p < 4 → (ellMatch (patOf (letsN (code (r0 &&& w == w) (r1 &&& w == w) (r2 &&& w == w) (r3 &&& w == w)))) (txtN (code (bt r0 p) (bt r1 p) (bt r2 p) (bt r3 p))) == true) = (cmN [r0, r1, r2, r3] w).testBit p := fun p hp => by
    rw [(ell_sub _ (code_lt ..) _ (code_lt ..)).1, code_sub, bt_test r0 h0 p hp, bt_test r1 h1 p hp, bt_test r2 h2 p hp, bt_test r3 h3 p hp]
    refine Eq.trans ?_ (cmF_bit w p [r0, r1, r2, r3] 15).symm
    rw [t15 p hp, Bool.true_and, List.all_cons, List.all_cons, List.all_cons, List.all_cons, List.all_nil, Bool.and_true, beq_true]
  have hp := pat_ok _ (code_lt (r0 &&& w == w) (r1 &&& w == w) (r2 &&& w == w) (r3 &&& w == w))
  rw [Bool.and_eq_true] at hp
  constructor
  · unfold brOk
    rw [ht, hp.1, hp.2, Bool.and_true, Bool.and_true, Bool.and_eq_true, List.all_eq_true]
    refine ⟨by rw [txts, List.length_map]; rfl, fun t q => ?_⟩
    obtain ⟨p, _, rfl⟩ := List.mem_map.mp q
    exact (ell_sub _ (code_lt ..) _ (code_lt ..)).2
  · unfold brings
    rw [ht]
    show dval 1 [ellBit _ _, ellBit _ _, ellBit _ _, ellBit _ _] = _
    unfold ellBit
    rw [key 0 (by decide), key 1 (by decide), key 2 (by decide), key 3 (by decide), dval_code, code_self _ ((cm_clo _).lt w hw)]
theorem common_cm (w : Nat) : ∀ (rows : List Nat) (c : Nat), (rows.map fun r : Nat => (r : Int)).foldl (fun c row => if Builtin.bitAnd row (w : Int) == (w : Int) then Builtin.bitAnd c row else c) (c : Int) = (cmF rows w c : Int)
  | [], _ => rfl
  | r :: rows, c => by
    rw [List.map_cons, List.foldl_cons, bitAnd_nat, bitAnd_nat, natCast_beq]
    show _ = ((cmF rows w (if (r &&& w == w) = true then c &&& r else c) : Nat) : Int)
    rw [← common_cm w rows]
    refine congrArg (List.foldl _ · _) ?_
    split <;> rfl
end
section
noncomputable def nb (r b : Nat) : Int := (r : Int) * 2 ^ b
theorem pn_ok : ∀ b, b < 29 → ∀ r, r < 16 → pnames (nb r b) = itemW b r := by decide +kernel
noncomputable def okWd (w : Str) : Bool := asc w && (decide (w.length ≤ 100) && (w.cps.toList.all (fun c => c != 44) && (reMiss codeName (loS w) && reMiss codeName (upS w))))
theorem okWd_0 : okWd "0x0" = true := by decide +kernel
theorem okWd_i : ∀ i, i < 32 → okWd (wS i) = true := by decide +kernel
theorem lw_inj0 : ∀ i, i < 32 → ∀ j, j < 32 → (loS (wS i) == loS (wS j)) = (i == j) := by decide +kernel
theorem lw_00 : ∀ i, i < 32 → (loS (wS i) == loS "0X0") = false ∧ (loS "0x0" == loS (wS i)) = false := by decide +kernel
theorem lw_000 : (loS "0x0" == loS "0X0") = true ∧ asc "0X0" = true := by decide +kernel
theorem val_ok : ∀ l, l ∈ letters4 → reMiss codeVal l = true ∧ l.length ≤ 1000 := by decide +kernel
theorem bits_filter : ∀ r, r < 16 → ∀ p, p < 4 → (bitsOf r).filter (fun q => q == p) = if bt r p = true then [p] else [] := by decide +kernel
structure OkWd (w : Str) : Prop where
  up : (Txt.upper w).length ≤ 100
  lo : (Txt.lower w).length ≤ 100
  len : w.length ≤ 100
  lu : Txt.lower (Txt.upper w) = Txt.lower w
  ll : Txt.lower (Txt.lower w) = Txt.lower w
  ru : reMiss codeName (Txt.upper w) = true
  rl : reMiss codeName (Txt.lower w) = true
  c44 : 44 ∉ w.cps.toList
  asc : asc w = true
theorem OkWd.of {w : Str} (h : okWd w = true) : OkWd w := by
  unfold okWd at h
  rw [Bool.and_eq_true, Bool.and_eq_true, Bool.and_eq_true, Bool.and_eq_true, decide_eq_true_eq] at h
  obtain ⟨a, l, c, r1, r2⟩ := h
  have e1 := lower_asc a
  have e2 := upper_asc a
  have hm : ∀ f : Nat → Nat, (⟨(w.cps.toList.map f).toArray⟩ : Str).length ≤ 100 := fun f => by
    show (List.toArray _).size ≤ 100
    rw [List.size_toArray, List.length_map, Array.length_toList]; exact l
  refine ⟨by rw [e2]; exact hm _, by rw [e1]; exact hm _, l, ?_, ?_, by rw [e2]; exact r2, by rw [e1]; exact r1, fun q => ?_, a⟩
  · rw [e2, lower_asc (asc_up a).1, (asc_up a).2, e1]
  · rw [e1, lower_asc (asc_lo a).1, (asc_lo a).2]
  · exact absurd (List.all_eq_true.mp c 44 q) (by decide)
theorem lw_inj {i j : Nat} (hi : i < 32) (hj : j < 32) : (Txt.lower (wS i) == Txt.lower (wS j)) = (i == j) := by
  rw [lower_asc (OkWd.of (okWd_i i hi)).asc, lower_asc (OkWd.of (okWd_i j hj)).asc, lw_inj0 i hi j hj]
theorem lw_0 {i : Nat} (hi : i < 32) : (Txt.lower (wS i) == Txt.lower "0X0") = false ∧ (Txt.lower "0x0" == Txt.lower (wS i)) = false := by
  rw [lower_asc (OkWd.of (okWd_i i hi)).asc, lower_asc (OkWd.of okWd_0).asc, lower_asc lw_000.2]
  exact lw_00 i hi
theorem lw_x : (Txt.lower "0x0" == Txt.lower "0X0") = true := by
  rw [lower_asc (OkWd.of okWd_0).asc, lower_asc lw_000.2]; exact lw_000.1
theorem bits_0 : ∀ r, r < 16 → ((bitsOf r).length != 0) = (r != 0) := by decide +kernel
theorem bits_lt {r p : Nat} (h : p ∈ bitsOf r) : p < 4 := List.mem_range.mp (List.mem_filter.mp h).1
theorem bits_len (r : Nat) : (bitsOf r).length ≤ 4 := Nat.le_trans (List.length_filter_le ..) (by decide)
theorem itemW_ok {b r : Nat} (hb : b < 29) {w : Str} (h : w ∈ itemW b r) : OkWd w := by
  unfold itemW at h
  split at h
  · obtain ⟨p, hp, rfl⟩ := List.mem_map.mp h
    have := bits_lt hp
    exact .of (okWd_i _ (by k_data))
  · cases List.mem_singleton.mp h; exact .of okWd_0
theorem itemW_len (b r : Nat) : (itemW b r).length ≤ 4 := by
  unfold itemW
  split
  · rw [List.length_map]; exact bits_len r
  · exact by decide
theorem sum_le : ∀ ws : List Str, (∀ w ∈ ws, w.length ≤ 100) → (ws.map fun w => w.length).sum ≤ 100 * ws.length
  | [], _ => Nat.le_refl _
  | w :: ws, h => by
    have := sum_le ws fun v q => h v (.tail _ q)
    have := h w (.head _)
    rw [List.map_cons, List.sum_cons, List.length_cons]; k_data
theorem joinOk_words {ws : List Str} (h : ∀ w ∈ ws, w.length ≤ 100) (h4 : ws.length ≤ 4) : JoinOk ", " ws = true := by
  refine joinOk_of ?_
  have h1 := sum_le ws h
  have h2 : ws.length * (Str.ofString ", ").length ≤ 4 * 2 := Nat.mul_le_mul h4 (by decide +kernel)
  k_data
theorem join_len {ws : List Str} (h : ∀ w ∈ ws, w.length ≤ 100) (h4 : ws.length ≤ 4) : (Txt.join ", " ws).length ≤ 408 := by
  have h1 := sum_le ws h
  have h3 := StrLaws.join_length_le (Str.ofString ", ") ws
  rw [← StrLaws.glued_eq_join] at h3
  have h2 : ws.length * (Str.ofString ", ").length ≤ 4 * 2 := Nat.mul_le_mul h4 (by decide +kernel)
  exact Nat.le_trans h3 (by k_data)
theorem pbLen_le (x y : Str) : pbLen x y ≤ x.length + 2 := by
  unfold pbLen
  rw [StrLaws.partsBetween_eq]
  have hp : ∀ (cuts : List Nat) (a : Nat), (StrLaws.partsFrom x y.length a cuts).length = cuts.length + 1 := fun cuts => by
    induction cuts with
    | nil => intro a; rfl
    | cons c r ih => intro a; show (StrLaws.partsFrom x y.length _ r).length + 1 = _; rw [ih]; rfl
  rw [hp]
  have := StrLaws.occ_length_le x y 0 x.length (x.length + 1)
  k_data
theorem sep_list : (Str.ofString ", ").cps.toList = [44, 32] := by decide +kernel
theorem words_of {b r : Nat} (hb : b < 29) (hr : r < 16) : wordsOf (nb r b) = itemW b r := by
  unfold wordsOf
  rw [pn_ok b hb r hr]
  refine split_join sep_list _ ?_ fun w hw => (itemW_ok hb hw).c44
  unfold itemW
  split
  · rename_i h
    intro q
    rw [List.map_eq_nil_iff] at q
    rw [q] at h; exact absurd h (by decide)
  · exact fun q => nomatch q
theorem row_join {b r : Nat} (hr : r < 16) : Txt.join ", " (itemW b r) = rowText b r := by
  unfold itemW rowText
  rw [bits_0 r hr]
  split
  · rfl
  · decide +kernel
theorem pf_ok {b r : Nat} (hb : b < 29) (hr : r < 16) : pfOk (nb r b) = true := by
  have h := pn_ok b hb r hr
  have k : ∀ w ∈ itemW b r, w.length ≤ 100 := fun w hw => (itemW_ok hb hw).len
  have hj := joinOk_words k (itemW_len b r)
  unfold pnames at h
  unfold pfOk
  split at h
  · rw [h]; exact hj
  · rw [h, hj, Bool.and_true]
    refine decide_eq_true (Nat.le_trans (k _ ?_) (by decide))
    rw [← h]; exact List.mem_append.mpr (.inr (.head _))
theorem tb_ok {b r : Nat} (hb : b < 29) (hr : r < 16) {l : Str} (hl : l ∈ letters4) : tbOk l (nb r b) = true := by
  obtain ⟨v1, v2⟩ := val_ok l hl
  have k : ∀ w ∈ itemW b r, w.length ≤ 100 := fun w hw => (itemW_ok hb hw).len
  have h7 := join_len k (itemW_len b r)
  have h6 := pbLen_le (Txt.join ", " (itemW b r)) (Str.ofString ", ")
  unfold tbOk
  rw [pn_ok b hb r hr, pf_ok hb hr, words_of hb hr, decide_eq_true (show pbLen (Txt.join ", " (itemW b r)) (Str.ofString ", ") ≤ 1000000 by k_data), decide_eq_true v2, decide_eq_true (Nat.le_trans (itemW_len b r) (by decide)), decide_eq_true (Nat.le_trans h7 (by decide)), v1]
  rw [Bool.true_and, Bool.true_and, Bool.true_and, Bool.true_and, Bool.true_and, List.all_eq_true]
  intro w hw
  have o := itemW_ok hb hw
  rw [decide_eq_true (Nat.le_trans o.up (by decide)), decide_eq_true (Nat.le_trans o.lo (by decide)), Bool.true_and, Bool.true_and, Bool.and_true]
  unfold caseOf
  split
  · exact o.ru
  · exact o.rl
theorem table_flat : ∀ (l : List (Str × Int)) (es : List (Str × Str)), l.foldl tbStep es = es ++ l.flatMap fun p => (wordsOf p.2).map fun w => (caseOf p.1 w, p.1)
  | [], es => (List.append_nil es).symm
  | a :: l, es => by rw [List.foldl_cons, table_flat l, List.flatMap_cons, tbStep, List.append_assoc]
noncomputable def entsOf (b : Nat) (rows : List Nat) : List (Str × Str) := (letters4.zip rows).flatMap fun q => (itemW b q.2).map fun w => (caseOf q.1 w, q.1)
theorem flat_congr {α β : Type} {f g : α → List β} : ∀ {l : List α}, (∀ a ∈ l, f a = g a) → l.flatMap f = l.flatMap g
  | [], _ => rfl
  | a :: l, h => by rw [List.flatMap_cons, List.flatMap_cons, h a (.head _), flat_congr fun a q => h a (.tail _ q)]
theorem table_ents {b : Nat} (hb : b < 29) (rows : List Nat) (hr : ∀ r ∈ rows, r < 16) : tableOf (rows.map fun r => nb r b) = entsOf b rows := by
  rw [tableOf, table_flat, List.nil_append, List.zip_map_right, List.flatMap_map]
  refine flat_congr fun q hq => ?_
  have := hr q.2 (List.of_mem_zip hq).2
  show (wordsOf (nb q.2 b)).map _ = _
  rw [words_of hb this]; rfl
theorem lower_case {l w : Str} (o : OkWd w) : Txt.lower (caseOf l w) = Txt.lower w := by
  unfold caseOf; split
  · exact o.lu
  · exact o.ll
theorem getAll_ents {b : Nat} (hb : b < 29) (rows : List Nat) (nm : Str) : getAll (entsOf b rows) nm = (letters4.zip rows).flatMap fun q => ((itemW b q.2).filter fun w => Txt.lower w == Txt.lower nm).map fun _ => q.1 := by
  rw [getAll, entsOf, List.filter_flatMap, List.map_flatMap]
  refine flat_congr fun q hq => ?_
  rw [List.filter_map, List.map_map]
  refine (congrArg (List.map _) (List.filter_congr fun w hw => ?_))
  show (Txt.lower (caseOf q.1 w) == Txt.lower nm) = _
  rw [lower_case (itemW_ok hb hw)]
theorem flat_if {α β : Type} (f : α → Bool) (g : α → β) : ∀ l : List α, (l.flatMap fun a => if f a = true then [g a] else []) = (l.filter f).map g
  | [] => rfl
  | a :: l => by
    rw [List.flatMap_cons, List.filter_cons, flat_if f g l]
    split
    · rw [List.map_cons]; rfl
    · rfl
theorem filter_item {b r p : Nat} (hb : b < 29) (hr : r < 16) (hp : p < 4) : ((itemW b r).filter fun w => Txt.lower w == Txt.lower (wS (b + p))) = if bt r p = true then [wS (b + p)] else [] := by
  have hf := bits_filter r hr p hp
  unfold itemW
  by_cases h : ((bitsOf r).length != 0) = true
  · rw [if_pos h, List.filter_map]
    rw [show (bitsOf r).filter ((fun w => Txt.lower w == Txt.lower (wS (b + p))) ∘ fun p => wS (b + p)) = (bitsOf r).filter fun q => q == p from List.filter_congr fun q hq => by
      have := bits_lt hq
      show (Txt.lower (wS (b + q)) == Txt.lower (wS (b + p))) = _
      rw [lw_inj (by k_data) (by k_data)]
      exact Bool.eq_iff_iff.mpr ⟨fun z => beq_iff_eq.mpr (by have := eq_of_beq z; k_data), fun z => beq_iff_eq.mpr (by have := eq_of_beq z; k_data)⟩]
    rw [hf]
    split <;> rfl
  · rw [if_neg h]
    have e : bitsOf r = [] := by
      cases hb : bitsOf r with
      | nil => rfl
      | cons a l => rw [hb] at h; exact (h rfl).elim
    rw [e, List.filter_nil] at hf
    rw [List.filter_cons, (lw_0 (i := b + p) (by k_data)).2, List.filter_nil, if_neg (by decide)]
    split at hf
    · cases hf
    · rename_i z; rw [if_neg z]
theorem cw_lower {b p : Nat} (hb : b < 29) (hp : p < 4) : Txt.lower (cw b p) = Txt.lower (wS (b + p)) := by
  have o := OkWd.of (okWd_i (b + p) (by k_data))
  unfold cw; split
  · exact o.ll
  · exact o.lu
theorem getAll_cw {b p : Nat} (hb : b < 29) (hp : p < 4) (rows : List Nat) (hr : ∀ r ∈ rows, r < 16) : getAll (entsOf b rows) (cw b p) = letsOf rows p := by
  rw [getAll_ents hb, cw_lower hb hp]
  unfold letsOf
  rw [← flat_if]
  refine flat_congr fun q hq => ?_
  rw [filter_item hb (hr _ (List.of_mem_zip hq).2) hp]
  show _ = if bt q.2 p = true then _ else _
  split <;> rfl
theorem getAll_0 {b : Nat} (hb : b < 29) (rows : List Nat) (hr : ∀ r ∈ rows, r < 16) : getAll (entsOf b rows) "0X0" = ((letters4.zip rows).filter fun q => (q.2 : Int) == 0).map (·.1) := by
  rw [getAll_ents hb, ← flat_if]
  refine flat_congr fun q hq => ?_
  have hq16 := hr _ (List.of_mem_zip hq).2
  unfold itemW
  rw [bits_0 _ hq16]
  by_cases h : q.2 = 0
  · rw [h, if_neg (by decide), if_pos (by decide), List.filter_cons, lw_x]; rfl
  · rw [if_pos (by simpa using h), if_neg (by simpa using h), List.filter_map]
    rw [show (bitsOf q.2).filter ((fun w => Txt.lower w == Txt.lower "0X0") ∘ fun p => wS (b + p)) = [] from List.filter_eq_nil_iff.mpr fun p hp => by
      have := bits_lt hp
      show ¬ (Txt.lower (wS (b + p)) == Txt.lower "0X0") = true
      rw [(lw_0 (i := b + p) (by k_data)).1]; decide]
    rfl
theorem ents_len (b : Nat) : ∀ (l : List (Str × Nat)), (l.flatMap fun q => (itemW b q.2).map fun w => (caseOf q.1 w, q.1)).length ≤ 4 * l.length
  | [] => Nat.le_refl _
  | a :: l => by
    have := ents_len b l
    have := itemW_len b a.2
    rw [List.flatMap_cons, List.length_append, List.length_map, List.length_cons]
    k_data
theorem ents_mem {b : Nat} (hb : b < 29) {rows : List Nat} {p : Str × Str} (h : p ∈ entsOf b rows) : (Txt.lower p.1).length ≤ 100 := by
  obtain ⟨q, _, hq⟩ := List.mem_flatMap.mp h
  obtain ⟨w, hw, rfl⟩ := List.mem_map.mp hq
  have o := itemW_ok hb hw
  show (Txt.lower (caseOf q.1 w)).length ≤ 100
  rw [lower_case o]; exact o.lo
theorem ga_ok {b : Nat} (hb : b < 29) {rows : List Nat} (hl : (entsOf b rows).length ≤ 1000) {nm w : Str} (o : OkWd w) (h : Txt.lower nm = Txt.lower w) : gaOk (entsOf b rows) nm = true := by
  unfold gaOk
  rw [h, o.rl, decide_eq_true (Nat.le_trans o.lo (by decide)), decide_eq_true hl, Bool.true_and, Bool.true_and, Bool.true_and, List.all_eq_true]
  exact fun p hp => decide_eq_true (Nat.le_trans (ents_mem hb hp) (by decide))
end
section
theorem pvGo_app (rest : List Int) (w : Int) : ∀ (l : List Int) (val b : Int), pvGo val b l = some (w, []) → pvGo val b (l ++ rest) = some (w, rest)
  | [], val, b, h => by
    unfold pvGo at h
    split at h
    · cases h
    · rename_i c
      cases h
      cases rest with
      | nil => exact if_neg c
      | cons x r => exact if_neg c
  | x :: l, val, b, h => by
    unfold pvGo at h
    rw [List.cons_append]
    unfold pvGo
    split at h
    · rename_i c
      rw [if_pos c]
      split at h
      · rename_i d
        rw [if_pos d]
        exact pvGo_app rest w l _ _ h
      · cases h
    · cases h
theorem pv_app {l : List Int} {w : Int} (rest : List Int) (h : pv l = some (w, [])) : pv (l ++ rest) = some (w, rest) := by
  cases l with
  | nil => cases h
  | cons x l => exact pvGo_app rest w l _ _ h
theorem pv_oct : ∀ b, b < 29 → ∀ d : Nat, d < 4 → ∀ r : Nat, r < 16 → pv (octets ((r : Int) * 2 ^ b) (d : Int)) = some ((r : Int) * 2 ^ b, []) :=
  span (n := 8) (m := 21) (by decide +kernel) (span (n := 8) (m := 13) (by decide +kernel) (span (n := 8) (m := 5) (by decide +kernel) (by decide +kernel)))
end
section
theorem right_ok : ∀ a, a < 16 → ∀ b, b < 16 → (trOk (txtN a) (txtN b) && rightly (txtN a) (txtN b)) = true :=
  span (n := 4) (m := 12) (by decide +kernel) (span (n := 4) (m := 8) (by decide +kernel) (span (n := 4) (m := 4) (by decide +kernel) (by decide +kernel)))
end
section
theorem c_law {X : Cx} {A : Around} {E : Value → Shared → Prop} {s : Shared} {v : Value} {script : List Int} {s0 s1 s2 s3 s4 : Nat} (hl : script.length ≤ 63) (hpv : ∀ (a : Nat) (rest : List Int), pv (octets (((a % 16 : Nat) : Int) * 2 ^ (s4 % 29)) ((a / 16 % 4 : Nat) : Int) ++ rest) = some (((a % 16 : Nat) : Int) * 2 ^ (s4 % 29), rest)) (hS : sums script = [(s0 : Int), (s1 : Int), (s2 : Int), (s3 : Int), (s4 : Int)])
    (hpf : ∀ a : Nat, pfOk (((a % 16 : Nat) : Int) * 2 ^ (s4 % 29)) = true ∧ Txt.join ", " (pnames (((a % 16 : Nat) : Int) * 2 ^ (s4 % 29))) = rowText (s4 % 29) (a % 16))
    (hjw : ∀ r, r < 16 → JoinOk ", " ((bitsOf r).map fun p => wS (s4 % 29 + p)) = true)
    (hT : (letters4.zip ([s0, s1, s2, s3].map fun k => ((k % 16 : Nat) : Int) * 2 ^ (s4 % 29))).all (fun p => tbOk p.1 p.2) = true) {es : List (Str × Str)} (hes : tableOf ([s0, s1, s2, s3].map fun k => ((k % 16 : Nat) : Int) * 2 ^ (s4 % 29)) = es)
    (hgo : ∀ p, p < 4 → gaOk es (cw (s4 % 29) p) = true) (hga : ∀ p, p < 4 → getAll es (cw (s4 % 29) p) = letsOf [s0 % 16, s1 % 16, s2 % 16, s3 % 16] p)
    (hjl : ∀ p, p < 4 → JoinOk "" (letsOf [s0 % 16, s1 % 16, s2 % 16, s3 % 16] p) = true) (hcl : ∀ p, p < 4 → (Txt.lower (wS (s4 % 29 + p))).length ≤ 1000000 ∧ (Txt.upper (wS (s4 % 29 + p))).length ≤ 1000000)
    (hg0 : gaOk es "0X0" = true) (hg1 : getAll es "0X0" = ((letters4.zip [s0 % 16, s1 % 16, s2 % 16, s3 % 16]).filter fun q => (q.2 : Int) == 0).map (·.1))
    (hit : es = (letters4.zip [s0 % 16, s1 % 16, s2 % 16, s3 % 16]).flatMap fun q => (itemW (s4 % 29) q.2).map fun w => (caseOf q.1 w, q.1)) (hil : es.length ≤ 1000) (hiw : ∀ w : Str, w = "0x0" ∨ (∃ p, p < 4 ∧ w = wS (s4 % 29 + p)) → (Txt.upper w).length ≤ 1000000 ∧ (Txt.lower w).length ≤ 1000000)
    {cm : Nat → Nat} (hcm : ∀ w, w < 16 → cm w < 16) (hbo : ∀ w : Nat, w < 16 → brOk ((List.range 4).map fun p => Txt.join "" (letsOf [s0 % 16, s1 % 16, s2 % 16, s3 % 16] p)) (w : Int) = true ∧ brings ((List.range 4).map fun p => Txt.join "" (letsOf [s0 % 16, s1 % 16, s2 % 16, s3 % 16] p)) (w : Int) = (cm w : Int))
    (hco : ∀ w : Nat, w < 16 → common ([s0, s1, s2, s3].map fun k : Nat => ((k % 16 : Nat) : Int)) (w : Int) = (cm w : Int))
    (hrl : (rulesM ((List.range 16).map cm)).length ≤ 16) (hlf : (rulesM ((List.range 16).map cm)).map (·.1) = (List.range 16).filter fun w : Nat => anyb (V.int w) ((rulesM ((List.range 16).map cm)).map fun r => V.int (r.1 : Nat)))
    (hfo : ∀ w : Nat, w < 16 → follow (w : Int) ((rulesM ((List.range 16).map cm)).map castR) false = (cm w : Int))
    {q1 r1 q2 r2 : Int} (hd1 : CallJ X 11 (.ref 80) [.int (s4 : Int), .int 29] (.tup [.int q1, .int r1])) (hd2 : CallJ X 11 (.ref 80) [.int (s4 : Int), .int (-29)] (.tup [.int q2, .int r2]))
    (hq1 : q1 * 29 + r1 = s4 ∧ 0 ≤ r1 * 29 ∧ r1 * 29 < 841 ∧ q1.natAbs < 2 ^ 64 ∧ r1.natAbs < 2 ^ 64) (hq2 : q2 * (-29) + r2 = s4 ∧ 0 ≤ r2 * (-29) ∧ r2 * (-29) < 841 ∧ q2.natAbs < 2 ^ 64 ∧ r2.natAbs < 2 ^ 64)
    (hri : ∀ p, p < 4 → trOk (Txt.join "" (letsOf [s0 % 16, s1 % 16, s2 % 16, s3 % 16] p)) (Txt.join "" (letsOf [s0 % 16, s1 % 16, s2 % 16, s3 % 16] ((p + 1) % 4))) = true ∧ rightly (Txt.join "" (letsOf [s0 % 16, s1 % 16, s2 % 16, s3 % 16] p)) (Txt.join "" (letsOf [s0 % 16, s1 % 16, s2 % 16, s3 % 16] ((p + 1) % 4))) = true)
    (b : Bud 15 A) (hfr : A.frames = some []) (G : GOk X s.heap) (r : R tab s.heap v (.list (script.map V.int))) : wpAny (MX X) A (call (.ref 324) [v]) (fun u s' => u = .bool true ∧ Stp X s s') E s := by
  refine callFnK (n := 14) (av := tab) (ns := [Str.ofString "script"]) (args := [.list (script.map V.int)]) (kds := []) (kws := []) [(Str.ofString "script", .list (script.map V.int))] rfl (fun _ _ => .nil) (by k_is) (by k_is) (fun vs h => ?_) rfl (by decide) (by kernel_rfl) b G ⟨fun _ t => t, fun b t => by
      obtain ⟨ps, e, r, _⟩ := (G.tabs t).ex
      exact .tab e r⟩ (.cons r .nil) (fun h₁ tk keep bd I => ?_) rfl rfl rfl (by decide)
  · revert vs; exact bind1 fun _ => by kernel_rfl
  have hpv' : ∀ (a : Nat) (S : List Nat) (r : List Int), pv (tapeOf (s4 % 29) (a :: S) ++ r) = some (((a % 16 : Nat) : Int) * 2 ^ (s4 % 29), tapeOf (s4 % 29) S ++ r) := fun a S r => by
    rw [show tapeOf (s4 % 29) (a :: S) ++ r = octets (((a % 16 : Nat) : Int) * 2 ^ (s4 % 29)) ((a / 16 % 4 : Nat) : Int) ++ (tapeOf (s4 % 29) S ++ r) from List.append_assoc ..]
    exact hpv a _
  have tlen : (tapeOf (s4 % 29) [s0, s1, s2, s3]).length ≤ 24 := by
    show (_ ++ (_ ++ (_ ++ (_ ++ [])))).length ≤ 24
    have h := oct_len
    simp only [List.length_append, List.length_nil]
    have a0 := h (((s0 % 16 : Nat) : Int) * 2 ^ (s4 % 29)) ((s0 / 16 % 4 : Nat) : Int)
    have a1 := h (((s1 % 16 : Nat) : Int) * 2 ^ (s4 % 29)) ((s1 / 16 % 4 : Nat) : Int)
    have a2 := h (((s2 % 16 : Nat) : Int) * 2 ^ (s4 % 29)) ((s2 / 16 % 4 : Nat) : Int)
    have a3 := h (((s3 % 16 : Nat) : Int) * 2 ^ (s4 % 29)) ((s3 / 16 % 4 : Nat) : Int)
    k_data
  have hb29 : s4 % 29 < 29 := Nat.mod_lt _ (by decide)
  refine runS (X := X) (n := 14) (StJ.assign (d := .list ([s0, s1, s2, s3, s4].map fun k : Nat => V.int k)) ((EvJ.fcall (GlV.glob (by kernel_rfl) (by k_is) (by kernel_rfl)) (by k_is) (by k_upd) ((c_sums hl).mono (by decide)) (by kernel_rfl)).to (by rw [hS]; rfl)) (Stores.none (.inl (by kernel_rfl))) (by kernel_rfl)) bd ⟨.refl _, .refl⟩ I fun t1 o1 z1 I1 => ?_
  refine runS (X := X) (n := 14) (StJ.assign (d := .int ((s4 % 29 : Nat) : Int)) ((EvJ.bin (EvJ.sub (x := .list ([s0, s1, s2, s3, s4].map fun k : Nat => V.int k)) (d := .int (s4 : Int)) (by k_upd) (by k_upd) (GetJ.listD (k := 4) (by decide) (by decide) (by show 4 < 5; decide)) (fun _ _ => by with_unfolding_all rfl)) (by k_upd) (BinJ.fmod (by decide))).to (congrArg V.int (show (s4 : Int).fmod 29 = ((s4 % 29 : Nat) : Int) from fmodN s4 29))) (Stores.none (.inr ⟨by kernel_rfl, s.heap.objs.size + 1, by kernel_rfl, Nat.lt_add_of_pos_right (by decide)⟩)) (by kernel_rfl)) bd z1 I1 fun t2 o2 z2 I2 => ?_
  -- rows
  refine runS (X := X) (n := 14) (StJ.assign (EvJ.comp1 (ds := [s0, s1, s2, s3].map fun k : Nat => V.int k) (zs := [s0, s1, s2, s3].map fun k : Nat => V.int (k % 16 : Nat)) (.list (EvJ.slice (l := none) (u := some ((4 : Nat) : Int)) (x := .list ([s0, s1, s2, s3, s4].map fun k : Nat => V.int k)) (by k_upd) trivial EvJ.int ?_ (fun o i => by with_unfolding_all rfl)) .name) (by k_clsL) (by decide) rfl (fun C => ?_) (Nat.le_of_ble_eq_true rfl) (fun x => rfl)) (Stores.none (.inr ⟨by kernel_rfl, s.heap.objs.size + 2, by kernel_rfl, Nat.lt_add_of_pos_right (by decide)⟩)) (by kernel_rfl)) bd z2 I2 fun t3 o3 z3 I3 => ?_
  · exact SliJ.upto (l := [s0, s1, s2, s3, s4].map fun k : Nat => V.int k) (a := 4) (Nat.le_of_ble_eq_true rfl)
  · exact BdsJ.maps (fun k : Nat => V.int k) [s0, s1, s2, s3] (fun k : Nat => V.int (k % 16 : Nat)) fun a _ => ⟨_, TgJ.name (Stores.none (.inl (by kernel_rfl))), by k_subL, (EvJ.bin (by k_upd) (by k_upd) (BinJ.fmod (by decide))).to (congrArg V.int (show (a : Int).fmod 16 = ((a % 16 : Nat) : Int) from fmodN a 16))⟩
  -- tape
  refine runS (X := X) (n := 14) (StJ.comp2 (ds := [s0, s1, s2, s3].map fun k : Nat => V.tup [.int k, .int (k % 16 : Nat)]) (zs := (tapeOf (s4 % 29) [s0, s1, s2, s3]).map V.int) (ρc := [(Str.ofString "base", .int ((s4 % 29 : Nat) : Int))]) (WkJ.tcall (T := "zip") (args := [.list ([s0, s1, s2, s3, s4].map fun k : Nat => V.int k), .list ([s0, s1, s2, s3].map fun k : Nat => V.int (k % 16 : Nat))]) (GlV.builtin (by kernel_rfl) (by k_is) (by decide) (by decide +kernel) (by kernel_rfl)) (by k_upd) ?_ (by kernel_rfl)) (by k_clsL) (by decide) rfl (fun C => ?_) ?_ (fun x => rfl) (Stores.none (.inl (by kernel_rfl))) (by kernel_rfl)) bd z3 I3 fun t4 o4 z4' I4 => ?_
  · exact (WcJ.zipll (ds := [s0, s1, s2, s3, s4].map fun k : Nat => V.int k) (es := [s0, s1, s2, s3].map fun k : Nat => V.int (k % 16 : Nat)) : WcJ X (.type "zip") _ _ (List.zipWith (fun a b => V.tup [a, b]) ([s0, s1, s2, s3, s4].map fun k : Nat => V.int k) ([s0, s1, s2, s3].map fun k : Nat => V.int (k % 16 : Nat))))
  · rw [show (tapeOf (s4 % 29) [s0, s1, s2, s3]).map V.int = [s0, s1, s2, s3].flatMap fun k => (octets (((k % 16 : Nat) : Int) * 2 ^ (s4 % 29)) ((k / 16 % 4 : Nat) : Int)).map V.int from List.map_flatMap]
    refine BdsJ.of (fun k : Nat => V.tup [.int k, .int (k % 16 : Nat)]) _ _ fun a _ => ⟨_, true, TgJ.pair (Stores.none (.inl (by kernel_rfl))) (Stores.none (.inl (by kernel_rfl))), Sub.lk (by k_subL), TsJ.nil, fun _ => ?_, fun h => nomatch h⟩
    have hsh : ((a % 16 : Nat) : Int) * 2 ^ ((s4 % 29 : Nat) : Int).toNat = ((a % 16 : Nat) : Int) * 2 ^ (s4 % 29) := by rw [Int.toNat_natCast]
    have hdr : ((a : Int).fdiv 16).fmod 4 = ((a / 16 % 4 : Nat) : Int) := (congrArg (Int.fmod · 4) (fdivN a 16)).trans (fmodN (a / 16) 4)
    generalize hN : ((a % 16 : Nat) : Int) * 2 ^ (s4 % 29) = N at hsh
    generalize hD : ((a / 16 % 4 : Nat) : Int) = D at hdr
    refine EmJ.inner (ds := (octets N D).map V.int) (.list ?_ .name) ?_ (fun x => rfl)
    · refine EvJ.fcall (ds := [.int N, .int D]) (GlV.glob (by kernel_rfl) (by k_is) (by kernel_rfl)) (by k_is) (.cons ((EvJ.bin (d := .int (((a % 16 : Nat) : Int) * 2 ^ ((s4 % 29 : Nat) : Int).toNat)) (by k_upd) (by k_upd) ?_).to (congrArg V.int hsh)) (.cons ((EvJ.bin (EvJ.bin (by k_upd) (by k_upd) (BinJ.fdiv (by decide) (by decide))) (by k_upd) (BinJ.fmod (by decide))).to (congrArg V.int hdr)) .nil (by kernel_rfl)) (by kernel_rfl)) (CallJ.mono (n := 1) (c_octets ?_ ?_) (by decide)) (by kernel_rfl)
      · refine BinJ.shl (Int.natCast_nonneg _) (by k_data) (by k_data)
      · rw [← hD]; exact Int.natCast_nonneg _
      · rw [← hD]; k_data
    · exact BdsJ.maps V.int (octets N D) V.int fun o _ => ⟨_, TgJ.name (Stores.none (.inl (by kernel_rfl))), by k_subL, by k_upd⟩
  · rw [List.length_map]; k_data
  have ho4 := I4.oaNone
  subst ho4
  -- reader
  obtain ⟨tl, htl⟩ : ∃ tl : List Int, tl = ([127, 64] : List Int).take (s4 / 29 % 3) := ⟨_, rfl⟩
  refine wpAny_execs_cons (wpAny_mono (stIter (X := X) (n := 14) (ds := tapeOf (s4 % 29) [s0, s1, s2, s3] ++ tl) (GlV.builtin (by kernel_rfl) (by k_is) (by decide) (by decide +kernel) (by kernel_rfl)) ?_ (by kernel_rfl) (Stores.none (.inr ⟨by kernel_rfl, s.heap.objs.size + 3, by kernel_rfl, Nat.lt_add_of_pos_right (by decide)⟩)) bd I4 (by kernel_rfl)) (fun fl t5 z5 => ?_) fun _ _ e => e)
  · have e29 : ((s4 : Int).fdiv 29).fmod 3 = ((s4 / 29 % 3 : Nat) : Int) := (congrArg (Int.fmod · 3) (fdivN s4 29)).trans (fmodN (s4 / 29) 3)
    refine EvJ.to (EvJ.bin (by k_upd) (EvJ.slice (l := none) (u := some ((s4 / 29 % 3 : Nat) : Int)) (x := .list [.int 127, .int 64]) (d := .list ([V.int 127, .int 64].take (s4 / 29 % 3))) (by k_upd) trivial ((EvJ.bin (EvJ.bin (EvJ.sub (x := .list ([s0, s1, s2, s3, s4].map fun k : Nat => V.int k)) (d := .int (s4 : Int)) (by k_upd) (by k_upd) (GetJ.listD (k := 4) (by decide) (by decide) (by show 4 < 5; decide)) (fun _ _ => by with_unfolding_all rfl)) (by k_upd) (BinJ.fdiv (by decide) (by decide))) (by k_upd) (BinJ.fmod (by decide))).to (congrArg V.int e29)) (SliJ.upto (Nat.le_of_ble_eq_true rfl)) (fun o i => by with_unfolding_all rfl)) (BinJ.addl ?_)) ?_
    · rw [List.length_map]
      show _ + ([V.int 127, V.int 64].take _).length ≤ _
      rw [List.length_take]
      show (tapeOf _ _).length + min _ 2 ≤ _
      k_data
    · rw [htl, List.map_append, List.map_take]; rfl
  obtain ⟨rfl, it, fit, lit, hbit, oit, I5, P5, sm5⟩ := z5
  -- read
  refine wpAny_execs_cons (wpAny_mono (comp1G (X := X) (n := 14) (g := gR it) (f := fun i => tapeOf (s4 % 29) ([s0, s1, s2, s3].drop i) ++ tl) (ds := [s0, s1, s2, s3].map fun k : Nat => V.int (k % 16 : Nat)) (zs := [s0, s1, s2, s3].map fun k : Nat => V.int (((k % 16 : Nat) : Int) * 2 ^ (s4 % 29))) (ρc := [(Str.ofString "reader", .raw (.ref it) [])]) bd I5 (.inr (.head _)) lit hbit oit P5 (.list (by k_upd) .name) (by k_clsL) (by decide) rfl (fun C => ?_) (Nat.le_of_ble_eq_true rfl) (fun x => rfl) (Stores.none (.inl (by kernel_rfl))) (by kernel_rfl)) (fun fl t6 z6 => ?_) fun _ _ e => e)
  · refine BdsX.cons (ys := [V.int (((s0 % 16 : Nat) : Int) * 2 ^ (s4 % 29))]) ⟨⟨_, true, TgJ.name (Stores.none (.inl (by kernel_rfl))), Sub.lk (by k_subL), TsJ.nil, fun _ => EmX.eltG (g := gR it) (f := fun i => tapeOf (s4 % 29) ([s0, s1, s2, s3].drop i) ++ tl) ?_, fun h => nomatch h⟩⟩ (.cons (ys := [V.int (((s1 % 16 : Nat) : Int) * 2 ^ (s4 % 29))]) ⟨⟨_, true, TgJ.name (Stores.none (.inl (by kernel_rfl))), Sub.lk (by k_subL), TsJ.nil, fun _ => EmX.eltG (g := gR it) (f := fun i => tapeOf (s4 % 29) ([s0, s1, s2, s3].drop i) ++ tl) ?_, fun h => nomatch h⟩⟩ (.cons (ys := [V.int (((s2 % 16 : Nat) : Int) * 2 ^ (s4 % 29))]) ⟨⟨_, true, TgJ.name (Stores.none (.inl (by kernel_rfl))), Sub.lk (by k_subL), TsJ.nil, fun _ => EmX.eltG (g := gR it) (f := fun i => tapeOf (s4 % 29) ([s0, s1, s2, s3].drop i) ++ tl) ?_, fun h => nomatch h⟩⟩ (.cons (ys := [V.int (((s3 % 16 : Nat) : Int) * 2 ^ (s4 % 29))]) ⟨⟨_, true, TgJ.name (Stores.none (.inl (by kernel_rfl))), Sub.lk (by k_subL), TsJ.nil, fun _ => EmX.eltG (g := gR it) (f := fun i => tapeOf (s4 % 29) ([s0, s1, s2, s3].drop i) ++ tl) ?_, fun h => nomatch h⟩⟩ .nil)))
    · exact EvG.fcall (GlV.glob (by kernel_rfl) (by k_is) (by kernel_rfl)) (by k_is) (by k_upd) ((c_varint (hpv' s0 [s1, s2, s3] tl)).mono (by decide)) (by kernel_rfl)
    · exact EvG.fcall (GlV.glob (by kernel_rfl) (by k_is) (by kernel_rfl)) (by k_is) (by k_upd) ((c_varint (hpv' s1 [s2, s3] tl)).mono (by decide)) (by kernel_rfl)
    · exact EvG.fcall (GlV.glob (by kernel_rfl) (by k_is) (by kernel_rfl)) (by k_is) (by k_upd) ((c_varint (hpv' s2 [s3] tl)).mono (by decide)) (by kernel_rfl)
    · exact EvG.fcall (GlV.glob (by kernel_rfl) (by k_is) (by kernel_rfl)) (by k_is) (by k_upd) ((c_varint (hpv' s3 [] tl)).mono (by decide)) (by kernel_rfl)
  obtain ⟨rfl, sm6, I6, P6, kp6⟩ := z6
  -- if read != .. or not _law_over(reader)
  obtain ⟨m6, hm6, _⟩ := I6.en.ns
  refine wpAny_execs_cons (wpAny_If (wpAny_isTrue_BoolOp (wpAny_allTrue_Or_cons (wpAny_mono (TrJ.run (X := X) (n := 14) (b := false) (TrJ.cmp (by k_upd) (EvJ.comp1 (ds := [s0, s1, s2, s3].map fun k : Nat => V.int (k % 16 : Nat)) (zs := [s0, s1, s2, s3].map fun k : Nat => V.int (((k % 16 : Nat) : Int) * 2 ^ (s4 % 29))) (ρc := [(Str.ofString "base", .int ((s4 % 29 : Nat) : Int))]) (.list (by k_upd) .name) (by k_clsL) (by decide) rfl (fun C => ?_) (Nat.le_of_ble_eq_true rfl) (fun x => rfl)) (CmpJ.neM (n := 0) _ (by decide) (fun _ => .int) (fun a => beq_self_eq_true _) _) (by kernel_rfl)) _ _ _ _ bd I6.ok I6.avk I6.en) (fun r t7 z7 => ?_) fun _ _ e => e))))
  · refine BdsJ.maps (fun k : Nat => V.int (k % 16 : Nat)) [s0, s1, s2, s3] (fun k : Nat => V.int (((k % 16 : Nat) : Int) * 2 ^ (s4 % 29))) fun a _ => ⟨_, TgJ.name (Stores.none (.inl (by kernel_rfl))), by k_subL, (EvJ.bin (d := .int (((a % 16 : Nat) : Int) * 2 ^ ((s4 % 29 : Nat) : Int).toNat)) (by k_upd) (by k_upd) (BinJ.shl (Int.natCast_nonneg _) (by k_data) (by k_data))).to (congrArg V.int (by rw [Int.toNat_natCast]))⟩
  obtain ⟨q7, rfl⟩ := z7
  have I7 := I6.step q7
  have P7 : (gR it).P tl tab t7.heap := (gR it).mv (fun _ _ _ e => e) (fun b z => .inl (.inl (.inl z))) (Gh.step P6 I6.avk lit q7)
  have hm7 : t7.heap.Ns s.heap.objs.size m6 := ns_ext hm6 fun o e => q7.ext _ o (ns_nt I6.ok hm6) e
  have htl3 : tl = [] ∨ tl = [127] ∨ tl = [127, 64] := by
    have : s4 / 29 % 3 < 3 := Nat.mod_lt _ (by decide)
    rcases (by k_data : s4 / 29 % 3 = 0 ∨ s4 / 29 % 3 = 1 ∨ s4 / 29 % 3 = 2) with q | q | q <;> rw [htl, q]
    · exact .inl rfl
    · exact .inr (.inl rfl)
    · exact .inr (.inr rfl)
  refine wpAny_allTrue_Or_cons (wpAny_isTrue_Not (wpAny_isTrue_value (wpAny_Call_Name_kw (wpAny_mono ((GlV.glob (by kernel_rfl) (by k_is) (by kernel_rfl)).run _ _ _ _ bd I7.ok I7.en) (fun v s₁ q => ?_) fun _ _ e => e)) rfl))
  obtain ⟨rfl, rfl⟩ := q
  refine callWith_K I7.ok.K (by k_is) (wpAny_mono ((EvsJ.cons (EvJ.name (x := Str.ofString "reader") (d := .raw (.ref it) []) (by apply Lk.lk; k_memK) (by kernel_rfl) (by kernel_rfl)) .nil (by kernel_rfl)).run _ _ _ _ _ bd I7.ok I7.avk I7.en) (fun vs t8 q => ?_) fun _ _ e => e) (starEach_of (by kernel_rfl)) (backTo_of (by kernel_rfl))
  obtain ⟨q8, r8⟩ := q
  (have hx := Rs.consI r8; clear r8; obtain ⟨_, _, rfl, r1, r2⟩ := hx)
  case _ =>
  (first | (obtain ⟨_, rfl⟩ := R.intI r2; clear r2) | (obtain ⟨_, rfl⟩ := R.strI r2; clear r2) | (obtain rfl := R.boolI r2; clear r2) | (obtain rfl := Rs.nilI r2; clear r2) | (obtain rfl := R.noneI r2; clear r2) | cases r2); (first | (obtain ⟨_, rfl⟩ := R.intI r1; clear r1) | (obtain ⟨_, rfl⟩ := R.strI r1; clear r1) | (obtain rfl := R.boolI r1; clear r1) | (obtain rfl := Rs.nilI r1; clear r1) | (obtain rfl := R.noneI r1; clear r1) | cases r1)
  refine ⟨q8.ok.K, ?_⟩
  have I8 := I7.step q8
  have P8 : (gR it).P tl tab t8.heap := Gh.step P7 ⟨fun _ t => t, fun b t => I7.avk.live b (.inl (.inl t))⟩ lit q8
  have hm8 : t8.heap.Ns s.heap.objs.size m6 := ns_ext hm7 fun o e => q8.ext _ o (ns_nt I7.ok hm7) e
  refine wpAny_mono (c_over htl3 (bd.le (by decide)) q8.ok lit P8 (show _ = some [_] from congrArg (Option.map _) hfr) ?_ ?_ hm8 (G.sz)) (fun v t9 z => ?_) fun _ _ e => e
  · rfl
  · intro q; cases q
  obtain ⟨rfl, z2, z3, z4, z5, z6⟩ := z
  refine wpAny_truthy_bool (wpAny_allTrue_Or_nil (wpAny_execs_nil ?_))
  have I9 := I8.relay (T := [it]) z6 hm8 z4 (fun b o t n1 n2 e => z3 b o t (fun z => n1 (z ▸ .head _)) n2 e) (fun b z => by cases List.mem_singleton.mp z; exact ⟨.inr (.head _), hbit, z5⟩)
  refine wpAny_mono (ExJ.run (X := X) (n := 14) (ω := none) (out := .ret (.bool true)) ?body _ _ _ _ _ none bd I9) (fun fl t10 z => ?fin) fun _ _ e => e
  case fin =>
    obtain ⟨y1, v, rfl, y2, y3, y4⟩ := z
    refine ⟨v, rfl, by cases y4; rfl, ?_, y3, y2⟩
    obtain ⟨a0, a1, e4⟩ := z4'.1.eq
    obtain ⟨b0, b1, e5⟩ := sm5.eq
    obtain ⟨c0, c1, e6⟩ := sm6
    obtain ⟨d0, d1, e7⟩ := q7.eq
    obtain ⟨f0, f1, e8⟩ := q8.eq
    obtain ⟨g0, g1, e9⟩ := z2
    obtain ⟨h0, h1, e10⟩ := y1.eq
    exact ⟨h0, h1, by rw [e10, e9, e8, e7, e6, e5, e4]⟩
  case body =>
    -- words
    refine .cons (StJ.assign (EvJ.comp1 (ds := (List.range 4).map fun p : Nat => V.int p) (zs := (List.range 4).map fun p : Nat => V.str (wS (s4 % 29 + p))) (ρc := [(Str.ofString "base", .int ((s4 % 29 : Nat) : Int))]) (.rangeN (GlV.builtin (by kernel_rfl) (by k_is) (by decide) (by decide +kernel) (by kernel_rfl)) (k := 4) EvJ.int (by kernel_rfl) (by decide +kernel) (by decide +kernel)) (by k_clsL) (by decide) rfl (fun C => ?_) (Nat.le_of_ble_eq_true rfl) (fun x => rfl)) (Stores.none (.inr ⟨by kernel_rfl, s.heap.objs.size + 4, by kernel_rfl, Nat.lt_add_of_pos_right (by decide)⟩)) (by kernel_rfl)) ?_
    · refine BdsJ.maps (fun p : Nat => V.int p) (List.range 4) (fun p : Nat => V.str (wS (s4 % 29 + p))) fun p hp => ⟨_, TgJ.name (Stores.none (.inl (by kernel_rfl))), by k_subL, ?_⟩
      have hp4 : p < 4 := List.mem_range.mp hp
      refine (EvJ.fcall (GlV.glob (by kernel_rfl) (by k_is) (by kernel_rfl)) (by k_is) (.cons (EvJ.bin (d := .int (((s4 % 29 : Nat) : Int) + (p : Int))) (by k_upd) (by k_upd) BinJ.add) .nil (by kernel_rfl)) (CallJ.mono (n := 1) (c_word (by k_data) (by k_data)) (by decide)) (by kernel_rfl)).to ?_
      rw [← Int.natCast_add]
      exact wordV_wS _ (by k_data)
    -- if [pretty_flags ..] != ..
    have wget : ∀ p : Nat, p < 4 → ((List.range 4).map fun p : Nat => V.str (wS (s4 % 29 + p)))[(p : Int).toNat]? = some (V.str (wS (s4 % 29 + p))) := fun p hp => by
      rw [Int.toNat_natCast, List.getElem?_map, List.getElem?_range hp]; rfl
    have hbit : ∀ (r p : Nat), (Builtin.bitAnd ((r : Int).fdiv (2 ^ (p : Int).toNat)) 1 != 0) = (Builtin.bitAnd ((r : Int).fdiv (2 ^ p)) 1 != 0) := fun r p => by rw [Int.toNat_natCast]
    refine .cons (StJ.iteF (TrJ.cmp (EvJ.comp1 (ds := [s0, s1, s2, s3].map fun k : Nat => V.int (((k % 16 : Nat) : Int) * 2 ^ (s4 % 29))) (zs := [s0, s1, s2, s3].map fun k : Nat => V.str (rowText (s4 % 29) (k % 16))) (ρc := []) (.list (by k_upd) .name) (by k_clsL) (by decide) rfl (fun C => ?_) (Nat.le_of_ble_eq_true rfl) (fun x => rfl))
      (EvJ.comp1 (ds := [s0, s1, s2, s3].map fun k : Nat => V.int (k % 16 : Nat)) (zs := [s0, s1, s2, s3].map fun k : Nat => V.str (rowText (s4 % 29) (k % 16))) (ρc := [(Str.ofString "words", .list ((List.range 4).map fun p : Nat => V.str (wS (s4 % 29 + p))))]) (.list (by k_upd) .name) (by k_clsL) (by decide) rfl (fun C => ?_) (Nat.le_of_ble_eq_true rfl) (fun x => rfl))
      (CmpJ.neM (n := 0) _ (by decide) (fun _ => .str) (fun a => beq_self_eq_true _) _) (by kernel_rfl)) rfl ExJ.nil) ?_
    · exact BdsJ.maps (fun k : Nat => V.int (((k % 16 : Nat) : Int) * 2 ^ (s4 % 29))) [s0, s1, s2, s3] (fun k : Nat => V.str (rowText (s4 % 29) (k % 16))) fun a _ => ⟨_, TgJ.name (Stores.none (.inl (by kernel_rfl))), by k_subL, (EvJ.fcall (GlV.glob (by kernel_rfl) (by k_is) (by kernel_rfl)) (by k_is) (by k_upd) (CallJ.mono (n := 2) (c_pf (hpf a).1) (by decide)) (by kernel_rfl)).to (congrArg V.str (hpf a).2)⟩
    · refine BdsJ.maps (fun k : Nat => V.int (k % 16 : Nat)) [s0, s1, s2, s3] (fun k : Nat => V.str (rowText (s4 % 29) (k % 16))) fun a _ => ⟨_, TgJ.name (Stores.none (.inr ⟨by kernel_rfl, C + 1, by kernel_rfl, Nat.lt_add_of_pos_right (by decide)⟩)), by k_subL, ?_⟩
      refine EvJ.ite (b := (a % 16 != 0)) ((TrJ.cmp (by k_upd) (by k_upd) CmpJ.nei (by kernel_rfl)).eq (natNe _)) (fun h => ?_) fun h => ?_
      · refine EvJ.to (EvJ.meth (d := .str (Txt.join ", " ((bitsOf (a % 16)).map fun p => wS (s4 % 29 + p)))) (by k_upd) (.cons (d := .list (((bitsOf (a % 16)).map fun p => wS (s4 % 29 + p)).map V.str)) (EvJ.to (EvJ.comp1 (ds := (List.range 4).map fun p : Nat => V.int p) (zs := (bitsOf (a % 16)).map fun p : Nat => V.str (wS (s4 % 29 + p))) (ρc := [(Str.ofString "row", .int ((a % 16 : Nat) : Int)), (Str.ofString "words", .list ((List.range 4).map fun p : Nat => V.str (wS (s4 % 29 + p))))]) (.rangeN (GlV.builtin (by kernel_rfl) (by k_is) (by decide) (by decide +kernel) (by kernel_rfl)) (k := 4) EvJ.int (by kernel_rfl) (by decide +kernel) (by decide +kernel)) (by k_clsL) (by decide) rfl (fun C2 => ?_) ?_ (fun x => rfl)) (by rw [List.map_map]; rfl)) .nil (by kernel_rfl)) (MethJ.join (hjw _ (Nat.mod_lt _ (by decide)))) (fun w => rfl) (by kernel_rfl) rfl (by decide)) (congrArg V.str (if_pos h).symm)
        · refine BdsJ.filt (fun p : Nat => V.int p) (List.range 4) (fun p => Builtin.bitAnd (((a % 16 : Nat) : Int).fdiv (2 ^ p)) 1 != 0) (fun p : Nat => V.str (wS (s4 % 29 + p))) fun p hp => ⟨_, TgJ.name (Stores.none (.inl (by kernel_rfl))), by k_subL, ?_, fun _ => ?_⟩
          · exact TrJ.eq (TrJ.val (EvJ.bin (EvJ.bin (by k_upd) (by k_upd) (BinJ.shr (Int.natCast_nonneg _))) (by k_upd) BinJ.and) TruJ.int (fun _ => rfl)) (hbit _ p)
          · have hp4 : p < 4 := List.mem_range.mp hp
            exact EvJ.sub (by k_upd) (by k_upd) (GetJ.list (Int.natCast_nonneg _) (by k_data) (wget p hp4)) (fun _ _ => by with_unfolding_all rfl)
        · rw [List.length_map]; exact Nat.le_trans (List.length_filter_le ..) (by decide)
      · exact EvJ.to EvJ.strc (congrArg V.str (if_neg (by rw [h]; decide)).symm)
    -- table
    refine .cons (StJ.assign (d := .hdr es) (EvJ.fcall (ds := [.list (([s0, s1, s2, s3].map fun k : Nat => ((k % 16 : Nat) : Int) * 2 ^ (s4 % 29)).map V.int)]) (GlV.glob (by kernel_rfl) (by k_is) (by kernel_rfl)) (by k_is) (.cons (EvJ.to (by k_upd) (by rw [List.map_map]; rfl)) .nil (by kernel_rfl)) (CallJ.mono (n := 5) (hes ▸ c_table (nums := [s0, s1, s2, s3].map fun k : Nat => ((k % 16 : Nat) : Int) * 2 ^ (s4 % 29)) (Nat.le_of_ble_eq_true rfl) hT) (by decide)) (by kernel_rfl)) (Stores.none (.inr ⟨by kernel_rfl, s.heap.objs.size + 5, by kernel_rfl, Nat.lt_add_of_pos_right (by decide)⟩)) (by kernel_rfl)) ?_
    -- texts
    obtain ⟨rs, hrs⟩ : ∃ rs, rs = [s0 % 16, s1 % 16, s2 % 16, s3 % 16] := ⟨_, rfl⟩
    rw [← hrs] at hga hjl hg1 hit hbo
    refine .cons (StJ.assign (EvJ.comp1 (ds := (List.range 4).map fun p : Nat => V.tup [.int p, .str (wS (s4 % 29 + p))]) (zs := (List.range 4).map fun p : Nat => V.str (Txt.join "" (letsOf rs p))) (ρc := [(Str.ofString "table", .hdr es)]) ?_ (by k_clsL) (by decide) rfl (fun C => ?_) (Nat.le_of_ble_eq_true rfl) (fun x => rfl)) (Stores.none (.inr ⟨by kernel_rfl, s.heap.objs.size + 6, by kernel_rfl, Nat.lt_add_of_pos_right (by decide)⟩)) (by kernel_rfl)) ?_
    · rw [show ((List.range 4).map fun p : Nat => V.tup [.int p, .str (wS (s4 % 29 + p))]) = enumL ((List.range 4).map fun p : Nat => V.str (wS (s4 % 29 + p))) from rfl]
      exact WkJ.tcall (T := "enumerate") (GlV.builtin (by kernel_rfl) (by k_is) (by decide) (by decide +kernel) (by kernel_rfl)) (.cons (by k_upd) .nil (by kernel_rfl)) WcJ.enum (by kernel_rfl)
    · refine BdsJ.maps (fun p : Nat => V.tup [.int p, .str (wS (s4 % 29 + p))]) (List.range 4) (fun p : Nat => V.str (Txt.join "" (letsOf rs p))) fun p hp => ⟨_, TgJ.pair (Stores.none (.inl (by kernel_rfl))) (Stores.none (.inl (by kernel_rfl))), by k_subL, ?_⟩
      have hp4 : p < 4 := List.mem_range.mp hp
      refine EvJ.meth (by k_upd) (.cons (d := .list ((letsOf rs p).map V.str)) (EvJ.to (EvJ.hmeth (f := 185) (by k_upd) (.cons (d := .str (cw (s4 % 29) p)) (EvJ.ite (b := (p % 2 == 0)) ?_ (fun h => ?_) fun h => ?_) .nil (by kernel_rfl)) .hdr (by k_is) (by k_is) (by k_is) (by decide) (by k_is) (CallJ.mono (n := 2) (c_getAll' (hgo p hp4)) (by decide)) (fun w => rfl) (by kernel_rfl) (by kernel_rfl) (by decide)) (by rw [hga p hp4])) .nil (by kernel_rfl)) (MethJ.join (hjl p hp4)) (fun w => rfl) (by kernel_rfl) rfl (by decide)
      · refine (TrJ.cmp (EvJ.bin (by k_upd) (by k_upd) (BinJ.fmod (by decide))) (by k_upd) CmpJ.eqi (by kernel_rfl)).eq ?_
        have : ∀ p, p < 4 → ((((p : Nat) : Int).fmod 2) == 0) = (p % 2 == 0) := by decide
        exact this p hp4
      · rw [show cw (s4 % 29) p = Txt.lower (wS (s4 % 29 + p)) from if_pos h]
        exact EvJ.meth0 (by k_upd) (MethJ.lower (hcl p hp4).1) (fun w => rfl) (by kernel_rfl)
      · rw [show cw (s4 % 29) p = Txt.upper (wS (s4 % 29 + p)) from if_neg (by rw [h]; decide)]
        exact EvJ.meth0 (by k_upd) (MethJ.upper (hcl p hp4).2) (fun w => rfl) (by kernel_rfl)
    have hzip : ∀ {env : Env} {ρ : List (Str × V)} {elts : List Expr} {k : Nat} {e1 e2 : Expr} {pos pos2 q : Pos} {nm : Str}, GlV X 14 env ρ (.Name nm q) (.type "zip") → EvsJ X 14 env ρ [e1, e2] [.str "ABCD", .list ([s0, s1, s2, s3].map fun k : Nat => V.int (k % 16 : Nat))] → [e1, e2].any isStarred = false →
        WkJ X 14 env ρ (.Tuple elts k pos2) (.Call (.Name nm q) [e1, e2] [] pos) ((letters4.zip rs).map fun q => V.tup [.str q.1, .int (q.2 : Nat)]) := fun h1 h2 h3 => by
      rw [show ((letters4.zip rs).map fun q => V.tup [.str q.1, .int (q.2 : Nat)]) = List.zipWith (fun a b => V.tup [a, b]) (chrs "ABCD") ([s0, s1, s2, s3].map fun k : Nat => V.int (k % 16 : Nat)) by rw [hrs]; rfl]
      exact WkJ.tcall (T := "zip") h1 h2 WcJ.zipsl h3
    have hzl : (letters4.zip rs).length ≤ 1000 := by rw [hrs]; exact Nat.le_of_ble_eq_true rfl
    -- if texts != ..
    refine .cons (StJ.iteF (TrJ.cmp (by k_upd) (EvJ.comp1 (ds := (List.range 4).map fun p : Nat => V.int p) (zs := (List.range 4).map fun p : Nat => V.str (Txt.join "" (letsOf rs p))) (ρc := [(Str.ofString "rows", .list ([s0, s1, s2, s3].map fun k : Nat => V.int (k % 16 : Nat)))]) (.rangeN (GlV.builtin (by kernel_rfl) (by k_is) (by decide) (by decide +kernel) (by kernel_rfl)) (k := 4) EvJ.int (by kernel_rfl) (by decide +kernel) (by decide +kernel)) (by k_clsL) (by decide) rfl (fun C => ?_) (Nat.le_of_ble_eq_true rfl) (fun x => rfl))
      (CmpJ.neM (n := 0) _ (by decide) (fun _ => .str) (fun a => beq_self_eq_true _) _) (by kernel_rfl)) rfl ExJ.nil) ?_
    · refine BdsJ.maps (fun p : Nat => V.int p) (List.range 4) (fun p : Nat => V.str (Txt.join "" (letsOf rs p))) fun p hp => ⟨_, TgJ.name (Stores.none (.inr ⟨by kernel_rfl, C + 1, by kernel_rfl, Nat.lt_add_of_pos_right (by decide)⟩)), by k_subL, ?_⟩
      have hp4 : p < 4 := List.mem_range.mp hp
      refine EvJ.meth (by k_upd) (.cons (d := .list ((letsOf rs p).map V.str)) (EvJ.to (EvJ.comp1 (ds := (letters4.zip rs).map fun q => V.tup [.str q.1, .int (q.2 : Nat)]) (zs := ((letters4.zip rs).filter fun q => Builtin.bitAnd ((q.2 : Int).fdiv (2 ^ p)) 1 != 0).map fun q => V.str q.1) (ρc := [(Str.ofString "place", .int (p : Nat))]) (hzip (GlV.builtin (by kernel_rfl) (by k_is) (by decide) (by decide +kernel) (by kernel_rfl)) (by k_upd) (by kernel_rfl)) (by k_clsL) (by decide) rfl (fun C2 => ?_) ?_ (fun x => rfl)) (by unfold letsOf; rw [List.map_map]; rfl)) .nil (by kernel_rfl)) (MethJ.join (hjl p hp4)) (fun w => rfl) (by kernel_rfl) rfl (by decide)
      · refine BdsJ.filt (fun q : Str × Nat => V.tup [.str q.1, .int (q.2 : Nat)]) (letters4.zip rs) (fun q => Builtin.bitAnd ((q.2 : Int).fdiv (2 ^ p)) 1 != 0) (fun q => V.str q.1) fun q hq => ⟨_, TgJ.pair (Stores.none (.inl (by kernel_rfl))) (Stores.none (.inl (by kernel_rfl))), by k_subL, ?_, fun _ => by k_upd⟩
        exact TrJ.eq (TrJ.val (EvJ.bin (EvJ.bin (by k_upd) (by k_upd) (BinJ.shr (Int.natCast_nonneg _))) (by k_upd) BinJ.and) TruJ.int (fun _ => rfl)) (hbit _ p)
      · rw [List.length_map]; exact Nat.le_trans (List.length_filter_le ..) hzl
    -- if table.get_all('0X0') != ..
    refine .cons (StJ.iteF (TrJ.cmp (EvJ.to (EvJ.hmeth (f := 185) (by k_upd) (.cons (d := .str "0X0") (by k_upd) .nil (by kernel_rfl)) .hdr (by k_is) (by k_is) (by k_is) (by decide) (by k_is) (CallJ.mono (n := 2) (c_getAll' hg0) (by decide)) (fun w => rfl) (by kernel_rfl) (by kernel_rfl) (by decide)) (show V.list _ = .list (((letters4.zip rs).filter fun q => (q.2 : Int) == 0).map fun q => V.str q.1) by rw [hg1, List.map_map]; rfl))
      (EvJ.comp1 (ds := (letters4.zip rs).map fun q => V.tup [.str q.1, .int (q.2 : Nat)]) (zs := ((letters4.zip rs).filter fun q => (q.2 : Int) == 0).map fun q => V.str q.1) (ρc := []) (hzip (GlV.builtin (by kernel_rfl) (by k_is) (by decide) (by decide +kernel) (by kernel_rfl)) (by k_upd) (by kernel_rfl)) (by k_clsL) (by decide) rfl (fun C => ?_) ?_ (fun x => rfl))
      (CmpJ.neM (n := 0) _ (by decide) (fun _ => .str) (fun a => beq_self_eq_true _) _) (by kernel_rfl)) rfl ExJ.nil) ?_
    · exact BdsJ.filt (fun q : Str × Nat => V.tup [.str q.1, .int (q.2 : Nat)]) (letters4.zip rs) (fun q => (q.2 : Int) == 0) (fun q => V.str q.1) fun q hq => ⟨_, TgJ.pair (Stores.none (.inl (by kernel_rfl))) (Stores.none (.inl (by kernel_rfl))), by k_subL, TrJ.cmp (by k_upd) (by k_upd) CmpJ.eqi (by kernel_rfl), fun _ => by k_upd⟩
    · rw [List.length_map]; exact Nat.le_trans (List.length_filter_le ..) hzl
    -- if table.items() != ..
    refine .cons (StJ.iteF (TrJ.cmp (EvJ.hmeth0 (f := 210) (d := .list (es.map pairV)) (by k_upd) .hdr (by k_is) (by k_is) (by k_is) (by decide) (by k_is) (CallJ.mono (n := 1) (c_items hil) (by decide)) (fun w => rfl) (by kernel_rfl))
      (EvJ.comp2 (ds := (letters4.zip rs).map fun q => V.tup [.str q.1, .int (q.2 : Nat)]) (zs := es.map pairV) (ρc := [(Str.ofString "words", .list ((List.range 4).map fun p : Nat => V.str (wS (s4 % 29 + p))))]) (hzip (GlV.builtin (by kernel_rfl) (by k_is) (by decide) (by decide +kernel) (by kernel_rfl)) (by k_upd) (by kernel_rfl)) (by k_clsL) (by decide) rfl (fun C => ?_) ?_ (fun x => rfl))
      (CmpJ.neM (n := 1) pairV (by decide) (fun _ => .tup (.cons .str (.cons .str .nil))) eqb_pair es) (by kernel_rfl)) rfl ExJ.nil) ?_
    · rw [show es.map pairV = (letters4.zip rs).flatMap fun q => (itemW (s4 % 29) q.2).map fun w => pairV (caseOf q.1 w, q.1) by rw [hit, List.map_flatMap]; exact congrArg (List.flatMap · _) (funext fun q => List.map_map)]
      refine BdsJ.of (fun q : Str × Nat => V.tup [.str q.1, .int (q.2 : Nat)]) (letters4.zip rs) _ fun q hq => ⟨_, true, TgJ.pair (Stores.none (.inl (by kernel_rfl))) (Stores.none (.inr ⟨by kernel_rfl, C + 1, by kernel_rfl, Nat.lt_add_of_pos_right (by decide)⟩)), Sub.lk (by k_subL), TsJ.nil, fun _ => ?_, fun h => nomatch h⟩
      refine EmJ.inner (ds := (itemW (s4 % 29) q.2).map V.str) (.list (EvJ.or2 (b := ((bitsOf q.2).map fun p : Nat => V.str (wS (s4 % 29 + p))).length != 0) (EvJ.comp1 (ds := (List.range 4).map fun p : Nat => V.int p) (zs := (bitsOf q.2).map fun p : Nat => V.str (wS (s4 % 29 + p))) (ρc := [(Str.ofString "row", .int (q.2 : Nat)), (Str.ofString "words", .list ((List.range 4).map fun p : Nat => V.str (wS (s4 % 29 + p))))]) (.rangeN (GlV.builtin (by kernel_rfl) (by k_is) (by decide) (by decide +kernel) (by kernel_rfl)) (k := 4) EvJ.int (by kernel_rfl) (by decide +kernel) (by decide +kernel)) (by k_clsL) (by decide) rfl (fun C2 => ?_) ?_ (fun x => rfl)) (TruJ.list ?_) (fun h => ?_) fun h => ?_) .name) ?_ (fun x => rfl)
      · refine BdsJ.filt (fun p : Nat => V.int p) (List.range 4) (fun p => Builtin.bitAnd ((q.2 : Int).fdiv (2 ^ p)) 1 != 0) (fun p : Nat => V.str (wS (s4 % 29 + p))) fun p hp => ⟨_, TgJ.name (Stores.none (.inl (by kernel_rfl))), by k_subL, ?_, fun _ => ?_⟩
        · exact TrJ.eq (TrJ.val (EvJ.bin (EvJ.bin (by k_upd) (by k_upd) (BinJ.shr (Int.natCast_nonneg _))) (by k_upd) BinJ.and) TruJ.int (fun _ => rfl)) (hbit _ p)
        · have hp4 : p < 4 := List.mem_range.mp hp
          exact EvJ.sub (by k_upd) (by k_upd) (GetJ.list (Int.natCast_nonneg _) (by k_data) (wget p hp4)) (fun _ _ => by with_unfolding_all rfl)
      · rw [List.length_map]; exact Nat.le_trans (List.length_filter_le ..) (by decide)
      · rw [List.length_map]; exact Nat.le_trans (List.length_filter_le ..) (by decide)
      · rw [List.length_map] at h
        rw [show itemW (s4 % 29) q.2 = (bitsOf q.2).map fun p => wS (s4 % 29 + p) from if_pos h, List.map_map]; rfl
      · rw [List.length_map] at h
        rw [show itemW (s4 % 29) q.2 = [Str.ofString "0x0"] from if_neg (by rw [h]; decide)]
        exact EvJ.list (ds := [.str "0x0"]) (by k_upd) (by decide)
      · refine BdsJ.maps V.str (itemW (s4 % 29) q.2) (fun w => pairV (caseOf q.1 w, q.1)) fun w hw => ⟨_, TgJ.name (Stores.none (.inl (by kernel_rfl))), by k_subL, ?_⟩
        have hwl := hiw w (by
          unfold itemW at hw
          split at hw
          · obtain ⟨p, hp, rfl⟩ := List.mem_map.mp hw
            exact .inr ⟨p, List.mem_range.mp (List.mem_filter.mp hp).1, rfl⟩
          · exact .inl (List.mem_singleton.mp hw))
        refine EvJ.tup (ds := [.str (caseOf q.1 w), .str q.1]) (.cons (EvJ.ite (b := Txt.contains (Str.ofString "AC") q.1) (by k_upd) (fun z => ?_) fun z => ?_) (by k_upd) (by kernel_rfl)) (by show 2 ≤ 1000; decide)
        · rw [show caseOf q.1 w = Txt.upper w from if_pos z]
          exact EvJ.meth0 (by k_upd) (MethJ.upper hwl.1) (fun w => rfl) (by kernel_rfl)
        · rw [show caseOf q.1 w = Txt.lower w from if_neg (by rw [z]; decide)]
          exact EvJ.meth0 (by k_upd) (MethJ.lower hwl.2) (fun w => rfl) (by kernel_rfl)
    · rw [List.length_map]; exact hil
    -- brings
    refine .cons (StJ.comp1 (ds := (List.range 16).map fun w : Nat => V.int w) (zs := (List.range 16).map fun w : Nat => V.int (cm w : Nat)) (ρc := [(Str.ofString "texts", .list ((List.range 4).map fun p : Nat => V.str (Txt.join "" (letsOf rs p))))]) (.rangeN (GlV.builtin (by kernel_rfl) (by k_is) (by decide) (by decide +kernel) (by kernel_rfl)) (k := 16) EvJ.int (by kernel_rfl) (by decide +kernel) (by decide +kernel)) (by k_clsL) (by decide) rfl (fun C => ?_) (Nat.le_of_ble_eq_true rfl) (fun x => rfl) (Stores.none (.inl (by kernel_rfl))) (by kernel_rfl)) ?_
    · refine BdsJ.maps (fun w : Nat => V.int w) (List.range 16) (fun w : Nat => V.int (cm w : Nat)) fun w hw => ⟨_, TgJ.name (Stores.none (.inl (by kernel_rfl))), by k_subL, ?_⟩
      have hb := hbo w (List.mem_range.mp hw)
      exact (EvJ.fcall (ds := [.list (((List.range 4).map fun p => Txt.join "" (letsOf rs p)).map V.str), .int w]) (GlV.glob (by kernel_rfl) (by k_is) (by kernel_rfl)) (by k_is) (.cons (EvJ.to (by k_upd) (by rw [List.map_map]; rfl)) (by k_upd) (by kernel_rfl)) (CallJ.mono (n := 8) (c_brings' hb.1) (by decide)) (by kernel_rfl)).to (congrArg V.int hb.2)
    -- if brings != ..
    refine .cons (StJ.iteF (TrJ.cmp (by k_upd) (EvJ.comp1 (ds := (List.range 16).map fun w : Nat => V.int w) (zs := (List.range 16).map fun w : Nat => V.int (cm w : Nat)) (ρc := [(Str.ofString "rows", .list ([s0, s1, s2, s3].map fun k : Nat => V.int (k % 16 : Nat)))]) (.rangeN (GlV.builtin (by kernel_rfl) (by k_is) (by decide) (by decide +kernel) (by kernel_rfl)) (k := 16) EvJ.int (by kernel_rfl) (by decide +kernel) (by decide +kernel)) (by k_clsL) (by decide) rfl (fun C => ?_) (Nat.le_of_ble_eq_true rfl) (fun x => rfl))
      (CmpJ.neM (n := 0) _ (by decide) (fun _ => .int) (fun a => beq_self_eq_true _) _) (by kernel_rfl)) rfl ExJ.nil) ?_
    · refine BdsJ.maps (fun w : Nat => V.int w) (List.range 16) (fun w : Nat => V.int (cm w : Nat)) fun w hw => ⟨_, TgJ.name (Stores.none (.inl (by kernel_rfl))), by k_subL, ?_⟩
      exact (EvJ.fcall (ds := [.list (([s0, s1, s2, s3].map fun k : Nat => ((k % 16 : Nat) : Int)).map V.int), .int w]) (GlV.glob (by kernel_rfl) (by k_is) (by kernel_rfl)) (by k_is) (.cons (EvJ.to (by k_upd) (by rw [List.map_map]; rfl)) (by k_upd) (by kernel_rfl)) (CallJ.mono (n := 1) c_common (by decide)) (by kernel_rfl)).to (congrArg V.int (hco w (List.mem_range.mp hw)))
    -- rules
    obtain ⟨br, hbr⟩ : ∃ br : List Nat, br = (List.range 16).map cm := ⟨_, rfl⟩
    have hbl : br.length = 16 := by rw [hbr, List.length_map]; rfl
    have hblt : ∀ b ∈ br, b < 16 := fun b hb => by
      rw [hbr] at hb
      obtain ⟨w, hw, rfl⟩ := List.mem_map.mp hb
      exact hcm w (List.mem_range.mp hw)
    have e64 : ((s3 : Int).fdiv 64).fmod 3 = ((s3 / 64 % 3 : Nat) : Int) := (congrArg (Int.fmod · 3) (fdivN s3 64)).trans (fmodN (s3 / 64) 3)
    refine .cons (StJ.assign (d := .list ((rulesM br).map RV)) (EvJ.fcall (ds := [.list (br.map fun b : Nat => V.int b), .int (s3 / 64 % 3 : Nat)]) (GlV.glob (by kernel_rfl) (by k_is) (by kernel_rfl)) (by k_is) (.cons (EvJ.to (by k_upd) (by rw [hbr, List.map_map]; rfl)) (.cons ((EvJ.bin (EvJ.bin (EvJ.sub (x := .list ([s0, s1, s2, s3, s4].map fun k : Nat => V.int k)) (d := .int (s3 : Int)) (by k_upd) (by k_upd) (GetJ.listD (k := 3) (by decide) (by decide) (by show 3 < 5; decide)) (fun _ _ => by with_unfolding_all rfl)) (by k_upd) (BinJ.fdiv (by decide) (by decide))) (by k_upd) (BinJ.fmod (by decide))).to (congrArg V.int e64)) .nil (by kernel_rfl)) (by kernel_rfl)) (CallJ.mono (n := 13) (c_rules hbl hblt (Nat.mod_lt _ (by decide))) (by decide)) (by kernel_rfl)) (Stores.none (.inr ⟨by kernel_rfl, s.heap.objs.size + 7, by kernel_rfl, Nat.lt_add_of_pos_right (by decide)⟩)) (by kernel_rfl)) ?_
    rw [← hbr] at hrl hlf hfo
    obtain ⟨R, hR⟩ : ∃ R, R = rulesM br := ⟨_, rfl⟩
    rw [← hR] at hrl hlf hfo ⊢
    -- lefts
    refine .cons (StJ.assign (d := .list (R.map fun r => V.int (r.1 : Nat))) (EvJ.comp1 (ds := R.map RV) (ρc := []) (.list (by k_upd) (.tup fun d hd => by obtain ⟨r, _, rfl⟩ := List.mem_map.mp hd; exact ⟨_, rfl⟩)) (by k_clsL) (by decide) rfl (fun C => ?_) (by rw [List.length_map]; k_data) (fun x => rfl)) (Stores.none (.inr ⟨by kernel_rfl, s.heap.objs.size + 8, by kernel_rfl, Nat.lt_add_of_pos_right (by decide)⟩)) (by kernel_rfl)) ?_
    · exact BdsJ.maps RV R (fun r => V.int (r.1 : Nat)) fun r _ => ⟨_, TgJ.pair (d := .int (r.1 : Nat)) (e := .int (r.2 : Nat)) (Stores.none (.inl (by kernel_rfl))) (Stores.none (.inl (by kernel_rfl))), by k_subL, by k_upd⟩
    -- if lefts != .. or ..
    have hz : R.map (fun r => V.int (r.1 : Nat)) = ((List.range 16).filter fun w : Nat => anyb (V.int w) (R.map fun r => V.int (r.1 : Nat))).map fun w : Nat => V.int w := by
      rw [← hlf, List.map_map]; rfl
    have hcR : R.map RV = (R.map castR).map pairI := by rw [List.map_map]; rfl
    refine .cons (StJ.iteF (c := false) (TrJ.bool (AllJ.orCons (t := false) (u := false) ?t1 fun _ => AllJ.orCons (t := false) (u := false) ?t2 fun _ => .orNil)) rfl ExJ.nil) ?_
    case t1 =>
      refine TrJ.cmp (x := .list (R.map fun r => V.int (r.1 : Nat))) (y := .list (R.map fun r => V.int (r.1 : Nat))) (by k_upd) ?_ (CmpJ.neM (n := 0) (fun r : Nat × Nat => V.int (r.1 : Nat)) (by decide) (fun _ => .int) (fun a => beq_self_eq_true _) R) (by kernel_rfl)
      refine EvJ.to (d := .list (((List.range 16).filter fun w : Nat => anyb (V.int w) (R.map fun r => V.int (r.1 : Nat))).map fun w : Nat => V.int w)) (EvJ.comp1 (ds := (List.range 16).map fun w : Nat => V.int w) (zs := ((List.range 16).filter fun w : Nat => anyb (V.int w) (R.map fun r => V.int (r.1 : Nat))).map fun w : Nat => V.int w) (ρc := [(Str.ofString "lefts", .list (R.map fun r => V.int (r.1 : Nat)))]) (.rangeN (GlV.builtin (by kernel_rfl) (by k_is) (by decide) (by decide +kernel) (by kernel_rfl)) (k := 16) EvJ.int (by kernel_rfl) (by decide +kernel) (by decide +kernel)) (by k_clsL) (by decide) rfl (fun C => ?_) ?_ (fun x => rfl)) (congrArg V.list hz.symm)
      · refine BdsJ.filt (fun w : Nat => V.int w) (List.range 16) (fun w : Nat => anyb (V.int w) (R.map fun r => V.int (r.1 : Nat))) (fun w : Nat => V.int w) fun w _ => ?_
        refine ⟨_, TgJ.name (Stores.none (.inl (by kernel_rfl))), ?_, ?_, ?_⟩
        · k_subL
        · refine TrJ.cmp (x := V.int w) (y := .list (R.map fun r => V.int (r.1 : Nat))) ?_ ?_ (CmpJ.inl fun y hy => by obtain ⟨r, _, rfl⟩ := List.mem_map.mp hy; exact .int) ?_
          · k_upd
          · k_upd
          · kernel_rfl
        · intro _; k_upd
      · rw [List.length_map]; exact Nat.le_trans (List.length_filter_le ..) (by decide)
    case t2 =>
      refine TrJ.cmp (x := .list ((List.range 16).map fun w : Nat => V.int (cm w : Nat))) (y := .list ((List.range 16).map fun w : Nat => V.int (cm w : Nat))) ?_ (by k_upd) (CmpJ.neM (n := 0) (fun w : Nat => V.int (cm w : Nat)) (by decide) (fun _ => .int) (fun a => beq_self_eq_true _) (List.range 16)) (by kernel_rfl)
      refine EvJ.comp1 (ds := (List.range 16).map fun w : Nat => V.int w) (zs := (List.range 16).map fun w : Nat => V.int (cm w : Nat)) (ρc := [(Str.ofString "rules", .list (R.map RV))]) (.rangeN (GlV.builtin (by kernel_rfl) (by k_is) (by decide) (by decide +kernel) (by kernel_rfl)) (k := 16) EvJ.int (by kernel_rfl) (by decide +kernel) (by decide +kernel)) (by k_clsL) (by decide) rfl (fun C => ?_) (Nat.le_of_ble_eq_true rfl) (fun x => rfl)
      refine BdsJ.maps (fun w : Nat => V.int w) (List.range 16) (fun w : Nat => V.int (cm w : Nat)) fun w hw => ⟨_, TgJ.name (Stores.none (.inl (by kernel_rfl))), by k_subL, ?_⟩
      refine EvJ.to (d := .int (follow (w : Int) (R.map castR) false)) ?_ (congrArg V.int (hfo w (List.mem_range.mp hw)))
      exact EvJ.fcall (ds := [.int w, .list ((R.map castR).map pairI), .bool false]) (GlV.glob (by kernel_rfl) (by k_is) (by kernel_rfl)) (by k_is) (.cons (by k_upd) (.cons (EvJ.to (d := .list (R.map RV)) (by k_upd) (congrArg V.list hcR)) (.cons (by k_upd) .nil (by kernel_rfl)) (by kernel_rfl)) (by kernel_rfl)) (CallJ.mono (n := 1) c_follow (by decide)) (by kernel_rfl)
    -- the two divisions
    have hs4 : ([s0, s1, s2, s3, s4].map fun k : Nat => V.int k)[(4 : Int).toNat]? = some (V.int (s4 : Int)) := rfl
    refine .cons (StJ.for (ds := [.int 29, .int (-29)]) (WkJ.tup (by k_upd)) (LoopJ.next (TgJ.name (Stores.none (.inl (by kernel_rfl)))) (ExJ.cons (StJ.assignT (d1 := .int q1) (d2 := .int r1) (EvJ.fcall (ds := [.int (s4 : Int), .int 29]) (GlV.glob (by kernel_rfl) (by k_is) (by kernel_rfl)) (by k_is) (.cons (EvJ.sub (by k_upd) (by k_upd) (GetJ.list (by decide) (by decide) hs4) (fun _ _ => by with_unfolding_all rfl)) (by k_upd) (by kernel_rfl)) (CallJ.mono (n := 11) hd1 (by decide)) (by kernel_rfl)) (Stores.none (.inl (by kernel_rfl))) (Stores.none (.inl (by kernel_rfl))) (by kernel_rfl) (by kernel_rfl)) (.cons (StJ.iteF (c := false) (TrJ.bool (AllJ.orCons (t := false) (u := false) ?c1 fun _ => AllJ.orCons (t := false) (u := false) ?c2 fun _ => .orNil)) rfl ExJ.nil) .nil))
      (LoopJ.next (TgJ.name (Stores.none (.inl (by kernel_rfl)))) (ExJ.cons (StJ.assignT (d1 := .int q2) (d2 := .int r2) (EvJ.fcall (ds := [.int (s4 : Int), .int (-29)]) (GlV.glob (by kernel_rfl) (by k_is) (by kernel_rfl)) (by k_is) (.cons (EvJ.sub (by k_upd) (by k_upd) (GetJ.list (by decide) (by decide) hs4) (fun _ _ => by with_unfolding_all rfl)) (by k_upd) (by kernel_rfl)) (CallJ.mono (n := 11) hd2 (by decide)) (by kernel_rfl)) (Stores.none (.inl (by kernel_rfl))) (Stores.none (.inl (by kernel_rfl))) (by kernel_rfl) (by kernel_rfl)) (.cons (StJ.iteF (c := false) (TrJ.bool (AllJ.orCons (t := false) (u := false) ?c3 fun _ => AllJ.orCons (t := false) (u := false) ?c4 fun _ => .orNil)) rfl ExJ.nil) .nil)) (LoopJ.nil .nil))) (fun x => rfl)) ?_
    case c1 =>
      refine TrJ.eq (TrJ.cmp (x := .int (q1 * 29 + r1)) (y := .int (s4 : Int)) (EvJ.bin (EvJ.bin (by k_upd) (by k_upd) (BinJ.mul hq1.2.2.2.1)) (by k_upd) BinJ.add) (EvJ.sub (by k_upd) (by k_upd) (GetJ.list (by decide) (by decide) hs4) (fun _ _ => by with_unfolding_all rfl)) CmpJ.nei (by kernel_rfl)) ?_
      rw [hq1.1]; exact bne_self_eq_false _
    case c2 =>
      refine TrJ.eq (TrJ.not (TrJ.chain2 (x := .int 0) (y := .int (r1 * 29)) (z := .int (29 ^ (2 : Int).toNat)) (by k_upd) (EvJ.bin (by k_upd) (by k_upd) (BinJ.mul hq1.2.2.2.2)) CmpJ.lei (fun _ => EvJ.bin (by k_upd) (by k_upd) (BinJ.pow (by decide) (by decide) (by decide))) (fun _ => CmpJ.lti) (by kernel_rfl))) ?_
      rw [decide_eq_true hq1.2.1, decide_eq_true (show r1 * 29 < 29 ^ (2 : Int).toNat from hq1.2.2.1)]; rfl
    case c3 =>
      refine TrJ.eq (TrJ.cmp (x := .int (q2 * (-29) + r2)) (y := .int (s4 : Int)) (EvJ.bin (EvJ.bin (by k_upd) (by k_upd) (BinJ.mul hq2.2.2.2.1)) (by k_upd) BinJ.add) (EvJ.sub (by k_upd) (by k_upd) (GetJ.list (by decide) (by decide) hs4) (fun _ _ => by with_unfolding_all rfl)) CmpJ.nei (by kernel_rfl)) ?_
      rw [hq2.1]; exact bne_self_eq_false _
    case c4 =>
      refine TrJ.eq (TrJ.not (TrJ.chain2 (x := .int 0) (y := .int (r2 * (-29))) (z := .int (29 ^ (2 : Int).toNat)) (by k_upd) (EvJ.bin (by k_upd) (by k_upd) (BinJ.mul hq2.2.2.2.2)) CmpJ.lei (fun _ => EvJ.bin (by k_upd) (by k_upd) (BinJ.pow (by decide) (by decide) (by decide))) (fun _ => CmpJ.lti) (by kernel_rfl))) ?_
      rw [decide_eq_true hq2.2.1, decide_eq_true (show r2 * (-29) < 29 ^ (2 : Int).toNat from hq2.2.2.1)]; rfl
    -- the last
    have hT4 : ∀ p : Nat, p < 4 → ((List.range 4).map fun p : Nat => V.str (Txt.join "" (letsOf rs p)))[(p : Int).toNat]? = some (V.str (Txt.join "" (letsOf rs p))) := fun p hp => by
      rw [Int.toNat_natCast, List.getElem?_map, List.getElem?_range hp]; rfl
    refine ExJ.ret (StJ.ret (EvJ.cmp (x := .list (([] : List Nat).map fun p : Nat => V.int p)) (y := .list (([] : List Nat).map fun p : Nat => V.int p)) (t := true) ?e1 (show EvJ _ _ _ _ _ (.list []) from EvJ.list (ds := []) .nil (Nat.le_of_ble_eq_true rfl)) ?e2 (by kernel_rfl)))
    case e2 =>
      have := CmpJ.eql (n := 0) (shps_map (n := 0) (fun p : Nat => V.int p) (fun _ => .int) []) (by decide)
      rwa [eqbs_map (fun p : Nat => V.int p) (fun a => beq_self_eq_true _) []] at this
    case e1 =>
      refine EvJ.to (d := .list (((List.range 4).filter fun _ => false).map fun p : Nat => V.int p)) (EvJ.comp1 (ds := (List.range 4).map fun p : Nat => V.int p) (zs := ((List.range 4).filter fun _ => false).map fun p : Nat => V.int p) (ρc := [(Str.ofString "texts", .list ((List.range 4).map fun p : Nat => V.str (Txt.join "" (letsOf rs p))))]) (.rangeN (GlV.builtin (by kernel_rfl) (by k_is) (by decide) (by decide +kernel) (by kernel_rfl)) (k := 4) EvJ.int (by kernel_rfl) (by decide +kernel) (by decide +kernel)) (by k_clsL) (by decide) rfl (fun C => ?_) (by decide) (fun x => rfl)) rfl
      refine BdsJ.filt (fun p : Nat => V.int p) (List.range 4) (fun _ => false) (fun p : Nat => V.int p) fun p hp => ?_
      have hp4 : p < 4 := List.mem_range.mp hp
      have hp5 : (p + 1) % 4 < 4 := Nat.mod_lt _ (by decide)
      have hr := hri p hp4
      rw [← hrs] at hr
      refine ⟨_, TgJ.name (Stores.none (.inl (by kernel_rfl))), ?_, ?_, fun h => nomatch h⟩
      · k_subL
      · refine TrJ.eq (TrJ.not (t := rightly (Txt.join "" (letsOf rs p)) (Txt.join "" (letsOf rs ((p + 1) % 4)))) (TrJ.val (EvJ.fcall (ds := [.str (Txt.join "" (letsOf rs p)), .str (Txt.join "" (letsOf rs ((p + 1) % 4)))]) (GlV.glob (by kernel_rfl) (by k_is) (by kernel_rfl)) (by k_is) (.cons (EvJ.sub (by k_upd) (by k_upd) (GetJ.list (Int.natCast_nonneg _) (by k_data) (hT4 p hp4)) (fun _ _ => by with_unfolding_all rfl)) (.cons (EvJ.sub (by k_upd) (y := .int (((p + 1) % 4 : Nat) : Int)) (EvJ.to (EvJ.bin (EvJ.bin (by k_upd) (by k_upd) BinJ.add) (by k_upd) (BinJ.fmod (by decide))) (congrArg V.int (fmodN (p + 1) 4))) (GetJ.list (Int.natCast_nonneg _) (by k_data) (hT4 _ hp5)) (fun _ _ => by with_unfolding_all rfl)) .nil (by kernel_rfl)) (by kernel_rfl)) (CallJ.mono (n := 4) (c_rightly hr.1) (by decide)) (by kernel_rfl)) TruJ.bool (fun _ => rfl))) ?_
        rw [hr.2]; rfl
end
section
theorem foldl_sstep_len : ∀ (l : List (Int × Nat)) (s : List Int), (l.foldl sstep s).length = s.length
  | [], _ => rfl
  | a :: l, s => by rw [List.foldl_cons, foldl_sstep_len l, sstep, List.length_set]
theorem sums_five (script : List Int) : ∃ s0 s1 s2 s3 s4 : Nat, sums script = [(s0 : Int), (s1 : Int), (s2 : Int), (s3 : Int), (s4 : Int)] ∧ s4 < 1000000 := by
  have hl := foldl_sstep_len ((script.take 60).zipIdx) [19, 36, 58, 140, 66]
  unfold sums
  generalize ((script.take 60).zipIdx).foldl sstep [19, 36, 58, 140, 66] = l at hl ⊢
  match l, hl with
  | [a, b, c, d, e], _ =>
    have k : ∀ x : Int, ∃ n : Nat, x.fmod ((10 : Int) ^ (6 : Int).toNat) = n ∧ n < 1000000 := fun x => by
      have h0 : 0 ≤ x.fmod 1000000 := Int.fmod_nonneg_of_pos x (by decide)
      have h1 : x.fmod 1000000 < 1000000 := Int.fmod_lt_of_pos x (by decide)
      refine ⟨(x.fmod 1000000).toNat, ?_, by k_data⟩
      show x.fmod 1000000 = _
      k_data
    obtain ⟨s0, e0, _⟩ := k a
    obtain ⟨s1, e1, _⟩ := k b
    obtain ⟨s2, e2, _⟩ := k c
    obtain ⟨s3, e3, _⟩ := k d
    obtain ⟨s4, e4, h4⟩ := k e
    refine ⟨s0, s1, s2, s3, s4, ?_, h4⟩
    rw [List.map_cons, List.map_cons, List.map_cons, List.map_cons, List.map_cons, e0, e1, e2, e3, e4]; rfl
theorem dm29 {a : Nat} (h : a < 1000000) : DmOk a 29 := by
  have h1 : Builtin.Int.intBits (a : Int) ≤ 20 := intBits_le_iff.mpr (by rw [Int.natAbs_natCast]; exact Nat.lt_trans h (by decide))
  have h2 : Builtin.Int.intBits ((29 : Nat) : Int) = 5 := by decide +kernel
  refine ⟨by decide, by decide, ?_, ?_⟩ <;> rw [h2] <;> k_data
theorem div_neg {X : Cx} {s : Nat} (h : s < 1000000) : ∃ q r : Int, CallJ X 11 (.ref 80) [.int (s : Int), .int (-29)] (.tup [.int q, .int r]) ∧ q * (-29) + r = s ∧ 0 ≤ r * (-29) ∧ r * (-29) < 841 ∧ q.natAbs < 2 ^ 64 ∧ r.natAbs < 2 ^ 64 := by
  cases s with
  | zero =>
    refine ⟨0, 0, ?_, by decide, by decide, by decide, by decide, by decide⟩
    exact c_idm_nb (X := X) (k := 10) (a := 0) (b := -29) (q := 0) (r := 0) (by decide) (CallJ.mono (c_idm_pos (X := X) (a := 0) (b := 29) (dm29 h)) (by decide))
  | succ m =>
    have hc := c_idm_nb (X := X) (k := 10) (a := ((m + 1 : Nat) : Int)) (b := -29) (by decide) (by
      have := c_idm_neg (X := X) (a := m) (b := 29) (dm29 (by k_data))
      rw [show Builtin.bitNot (m : Int) = -((m + 1 : Nat) : Int) by unfold Builtin.bitNot; k_data] at this
      exact this)
    refine ⟨_, _, hc, ?_⟩
    unfold Builtin.bitNot
    have e := Nat.div_add_mod m 29
    have l := Nat.mod_lt m (show 29 > 0 by decide)
    generalize m / 29 = x at e ⊢
    generalize m % 29 = y at e l ⊢
    have hx : x ≤ 1000000 := by k_data
    refine ⟨by k_data, by k_data, by k_data, ?_, ?_⟩
    · exact Nat.lt_of_le_of_lt (show (-(x : Int) - 1).natAbs ≤ 1000001 by k_data) (by decide)
    · exact Nat.lt_of_le_of_lt (show (-(((29 : Nat) : Int) + (-(y : Int) - 1))).natAbs ≤ 100 by k_data) (by decide)
theorem let_join : ∀ m, m < 16 → JoinOk "" (letsN m) = true := by decide +kernel
theorem anyb_any (w : Nat) (l : List (Nat × Nat)) : anyb (V.int w) (l.map fun r => V.int (r.1 : Nat)) = (l.map (·.1)).any fun x => w == x := by
  unfold anyb
  rw [List.any_map, List.any_map]
  refine congrArg (List.any l) (funext fun r => ?_)
  show ((r.1 : Int) == (w : Int)) = (w == r.1)
  rw [natCast_beq, Bool.eq_iff_iff, beq_iff_eq, beq_iff_eq]
  exact eq_comm
theorem lawTrue {X : Cx} {A : Around} {E : Value → Shared → Prop} {s : Shared} {v : Value} {script : List Int} (hl : script.length ≤ 63)
    (b : Bud 15 A) (hfr : A.frames = some []) (G : GOk X s.heap) (r : R tab s.heap v (.list (script.map V.int))) : wpAny (MX X) A (call (.ref 324) [v]) (fun u s' => u = .bool true ∧ Stp X s s') E s := by
  obtain ⟨s0, s1, s2, s3, s4, hS, h4⟩ := sums_five script
  have m16 : ∀ k : Nat, k % 16 < 16 := fun k => Nat.mod_lt _ (by decide)
  have hb : s4 % 29 < 29 := Nat.mod_lt _ (by decide)
  have rlt : ∀ r ∈ [s0 % 16, s1 % 16, s2 % 16, s3 % 16], r < 16 := fun r hr => by
    rcases List.mem_cons.mp hr with rfl | hr
    · exact m16 _
    rcases List.mem_cons.mp hr with rfl | hr
    · exact m16 _
    rcases List.mem_cons.mp hr with rfl | hr
    · exact m16 _
    rcases List.mem_cons.mp hr with rfl | hr
    · exact m16 _
    · cases hr
  have hclo := cm_clo [s0 % 16, s1 % 16, s2 % 16, s3 % 16]
  have hes : tableOf ([s0, s1, s2, s3].map fun k => ((k % 16 : Nat) : Int) * 2 ^ (s4 % 29)) = entsOf (s4 % 29) [s0 % 16, s1 % 16, s2 % 16, s3 % 16] := table_ents hb [s0 % 16, s1 % 16, s2 % 16, s3 % 16] rlt
  have elen : (entsOf (s4 % 29) [s0 % 16, s1 % 16, s2 % 16, s3 % 16]).length ≤ 1000 := Nat.le_trans (ents_len _ (letters4.zip [s0 % 16, s1 % 16, s2 % 16, s3 % 16])) (by show 4 * 4 ≤ 1000; decide)
  have htx : ((List.range 4).map fun p => Txt.join "" (letsOf [s0 % 16, s1 % 16, s2 % 16, s3 % 16] p)) = txts (s0 % 16) (s1 % 16) (s2 % 16) (s3 % 16) := congrArg (List.map · (List.range 4)) (funext fun p => by rw [lets_col]; rfl)
  have okp : ∀ p, p < 4 → OkWd (wS (s4 % 29 + p)) := fun p hp => .of (okWd_i _ (by k_data))
  obtain ⟨q2, r2, hd2, hq2⟩ := div_neg (X := X) h4
  refine c_law (cm := cmN [s0 % 16, s1 % 16, s2 % 16, s3 % 16]) (q1 := (s4 / 29 : Nat)) (r1 := (s4 % 29 : Nat)) hl (fun a rest => ?_) hS (fun a => ⟨pf_ok hb (m16 a), ?_⟩) (fun r hr => ?_) ?_ hes (fun p hp => ?_) (fun p hp => getAll_cw hb hp _ rlt) (fun p hp => ?_) (fun p hp => ?_) ?_ (getAll_0 hb _ rlt) rfl elen (fun w hw => ?_) hclo.lt (fun w hw => ?_) (fun w hw => ?_) (rules_len hclo) ?_ (fun w hw => ?_) ?_ hd2 ?_ hq2 (fun p hp => ?_) b hfr G r
  · exact pv_app rest (pv_oct _ hb _ (Nat.mod_lt _ (by decide)) _ (m16 a))
  · exact (congrArg (Txt.join ", ") (pn_ok _ hb _ (m16 a))).trans (row_join (m16 a))
  · refine joinOk_words (fun w hw => ?_) (by rw [List.length_map]; exact bits_len r)
    obtain ⟨p, hp, rfl⟩ := List.mem_map.mp hw
    exact (okp p (bits_lt hp)).len
  · rw [List.all_eq_true]
    intro p hp
    have h1 := List.of_mem_zip hp
    obtain ⟨k, _, e⟩ := List.mem_map.mp h1.2
    rw [← e]
    exact tb_ok hb (m16 k) h1.1
  · exact ga_ok hb elen (okp p hp) (cw_lower hb hp)
  · rw [lets_col]; exact let_join _ (code_lt ..)
  · exact ⟨Nat.le_trans (okp p hp).lo (by decide), Nat.le_trans (okp p hp).up (by decide)⟩
  · exact ga_ok hb elen (.of okWd_0) (eq_of_beq lw_x).symm
  · rcases hw with rfl | ⟨p, hp, rfl⟩
    · have o := OkWd.of okWd_0
      exact ⟨Nat.le_trans o.up (by decide), Nat.le_trans o.lo (by decide)⟩
    · exact ⟨Nat.le_trans (okp p hp).up (by decide), Nat.le_trans (okp p hp).lo (by decide)⟩
  · rw [htx]; exact brings_cm _ _ _ _ w (m16 _) (m16 _) (m16 _) (m16 _) hw
  · exact common_cm w [s0 % 16, s1 % 16, s2 % 16, s3 % 16] 15
  · refine (rules_lefts hclo).trans (List.filter_congr fun w _ => (anyb_any w _).symm)
  · rw [follow_N, rules_follow hclo w hw]
  · exact CallJ.mono (c_idm_pos (dm29 h4)) (by decide)
  · have e := Nat.div_add_mod s4 29
    have l := Nat.mod_lt s4 (show 29 > 0 by decide)
    generalize s4 / 29 = x at e ⊢
    generalize s4 % 29 = y at e l ⊢
    have hx : x ≤ 1000000 := by k_data
    refine ⟨by k_data, by k_data, by k_data, ?_, ?_⟩
    · exact Nat.lt_of_le_of_lt (show (x : Int).natAbs ≤ 1000001 by k_data) (by decide)
    · exact Nat.lt_of_le_of_lt (show (y : Int).natAbs ≤ 100 by k_data) (by decide)
  · rw [lets_col, lets_col, ← Bool.and_eq_true]
    exact right_ok _ (code_lt ..) _ (code_lt ..)
end
section
theorem live_top (h : Heap) (hl : ∃ b o, h.get? b = some o) : ∃ N, (∀ b o, h.get? b = some o → b < N) ∧ ∃ o, h.get? (N - 1) = some o := by
  have key : ∀ n : Nat, (∀ b o, h.get? b = some o → b < n) → ∃ N, (∀ b o, h.get? b = some o → b < N) ∧ ∃ o, h.get? (N - 1) = some o := fun n => by
    induction n with
    | zero => intro k; obtain ⟨b, o, e⟩ := hl; exact absurd (k b o e) (Nat.not_lt_zero b)
    | succ n ih =>
      intro k
      cases e : h.get? n with
      | some o => exact ⟨n + 1, k, o, e⟩
      | none => exact ih fun b o q => Nat.lt_of_le_of_ne (Nat.le_of_lt_succ (k b o q)) fun z => by rw [z, e] at q; cases q
  exact key h.objs.size fun b o e => Heap.lt_size e
noncomputable def trunc (h : Heap) (N : Nat) : Heap := ⟨h.objs.extract 0 N, h.life⟩
theorem trunc_get {h : Heap} {N : Nat} (k : ∀ b o, h.get? b = some o → b < N) (b : Addr) : (trunc h N).get? b = h.get? b := by
  by_cases hb : @LT.lt Nat _ b N
  · have : (h.objs.extract 0 N)[b]? = h.objs[b]? := by
      rw [Array.getElem?_extract]
      split
      · rw [Nat.zero_add]
      · rename_i q
        rw [Array.getElem?_eq_none (by k_data)]
    unfold Heap.get? trunc
    rw [this]
  · have e1 : h.get? b = none := by
      cases e : h.get? b with
      | none => rfl
      | some o => exact (hb (k b o e)).elim
    rw [e1]
    exact Heap.get?_none_of_le (by show @LE.le Nat _ (h.objs.extract 0 N).size b; rw [Array.size_extract]; k_data)
theorem oldTr {h S h' : Heap} (e : ∀ b, S.get? b = h.get? b) (k : OldK S h') : OldK h h' := by
  refine ⟨fun b o q => ?_, fun b o q => k.there b o ((e b).trans q)⟩
  rcases k.old b o ((e b).trans q) with x | ⟨⟨c, o', vs, g, r⟩, x⟩ | ⟨x, y, z, t⟩
  · exact .inl x
  · exact .inr (.inl ⟨⟨c, o', vs, (e c).symm.trans g, r⟩, x⟩)
  · exact .inr (.inr ⟨x, y, z, fun key => by rw [← OldK.staticOf_congr (e cStatics) key]; exact t key⟩)
theorem ints_R {h : Heap} : ∀ {vs : List Value} {l : List Int}, IntsAre vs l → Rs tab h vs (l.map V.int)
  | _, _, .nil => .nil
  | _, _, .cons n t r => .cons (.int n t) (ints_R r)
theorem bud15 : Bud 15 callerA := ⟨rfl, by decide +kernel, by decide +kernel⟩
theorem k324 (P : Params) : nsIn (KK P) mainGlobals (Str.ofString "law") = some (some (.ref 324)) := by k_is
theorem in_tail {K : Frag} {p q : Addr × Obj} {h : Heap} (x : Frag.In (p :: q :: K) h) (k1 : K.lookup p.1 = none) (k2 : K.lookup q.1 = none) : K.In h ∧ h.get? p.1 = some p.2 := by
  constructor
  · intro a o e
    refine x a o ?_
    have n1 : a ≠ p.1 := fun q => by rw [q, k1] at e; cases e
    have n2 : a ≠ q.1 := fun q => by rw [q, k2] at e; cases e
    rw [List.lookup_cons, List.lookup_cons, show (a == p.1) = false from beq_eq_false_iff_ne.mpr n1, show (a == q.1) = false from beq_eq_false_iff_ne.mpr n2]
    exact e
  · refine x p.1 p.2 ?_
    rw [List.lookup_cons, show (p.1 == p.1) = true from beq_self_eq_true _]
theorem in_sec {K : Frag} {p q : Addr × Obj} {h : Heap} (x : Frag.In (p :: q :: K) h) (n : (q.1 == p.1) = false) : h.get? q.1 = some q.2 := by
  refine x q.1 q.2 ?_
  rw [List.lookup_cons, n, List.lookup_cons, show (q.1 == q.1) = true from beq_self_eq_true _]
theorem in0 {w : World} {h : Heap} (x : HK.says w h) : (KK w.params).In h ∧ h.get? 54 = some (tabObj #[]) ∧ h.get? 61 = some (tabObj #[]) := by
  have x : Frag.In ((nat_lit 54, tabObj #[]) :: (nat_lit 61, tabObj #[]) :: KK w.params) h := x
  have := in_tail x (k54 w) (k61 w)
  exact ⟨this.1, this.2, in_sec x rfl⟩
end
section
theorem post_ok (args ds : List WData) : PySem.Challenge.rw_ta0110_01.row.claim.post args (.bool true) ds = true := by
  show (WShape.has [] (.bool true) .bool && (WTm.eq .res (.lit (.bool true))).holds [] { args := args, res := some (.bool true), after := ds }) = true
  simp [WTm.holds, WTm.value, WShape.has, W.same, WShape.arms]
noncomputable def lawD : DefRec × List (Str × Expr) := match defOf Vw RR.name with | some x => x | none => (⟨"", ⟨[], [], none, [], [], none, []⟩, [], ⟨.function, [], false, false, []⟩, ⟨0, 0, 0, 0⟩⟩, [])
theorem ref_inj {a b : Addr} (h : some (Value.ref a) = some (Value.ref b)) : a = b := by cases h; rfl
theorem lawRuns {w : World} {s : Shared} {mg mb : Str → Option Value} {mean : ExcName → Option Value} {p : Program} {lo : List Str} (Y : HK.says w s.heap) (T : Top p lo mean mg mb s.heap) {a : Addr} {vs : List Value} {script : List Int}
    {o4 : Obj} (h4 : s.heap.get? 324 = some o4) (hL : s.heap.PlainList a vs.toArray) (hI : IntsAre vs script) (hl : script.length ≤ 63) {E : Value → Shared → Prop} :
    wpAny (model Prog w) callerA (call (.ref 324) [.ref a]) (fun u s' => u = .bool true ∧ OldK s.heap s'.heap ∧ s'.os = s.os ∧ s'.gens = s.gens) E s := by
  obtain ⟨K, t1, t2⟩ := in0 Y
  obtain ⟨N, hN, o, ho⟩ := live_top s.heap ⟨_, _, t1⟩
  have eg := trunc_get hN
  have kp : ∀ b o, s.heap.get? b = some o → (trunc s.heap N).get? b = some o := fun b o e => (eg b).trans e
  have sz : (trunc s.heap N).objs.size = N := by
    show (s.heap.objs.extract 0 N).size = N
    have l1 : @LT.lt Nat _ (N - 1) s.heap.objs.size := Heap.lt_size ho
    have l2 : @LT.lt Nat _ 54 N := hN _ _ t1
    rw [Array.size_extract]; omega
  have big : 100 < N := by
    have q : @LT.lt Nat _ 324 N := hN 324 _ h4
    exact Nat.lt_trans (by decide) q
  obtain ⟨bm, ob, b1, b2, b3, b4⟩ := T.bmain
  let X : Cx := { w := w, S := trunc s.heap N, mg := mg, mb := mb, K := K.keeps kp, g := T.g.keeps kp, b := T.b.keeps kp, bb := T.builtins, nolimit := T.nolimit.keeps kp
                  nodigits := T.nodigits.elim fun mc z => ⟨mc, z.1.keeps kp, z.2⟩, last := by rw [sz]; exact ⟨o, kp _ _ ho⟩, big := by rw [sz]; exact big
                  t1 := kp _ _ t2, t2 := kp _ _ t1, bmain := ⟨bm, ob, b1, b2, kp _ _ b3, b4⟩ }
  have G : GOk X s.heap := by
    refine ⟨fun b o _ e => (eg b).symm.trans e, .of_keep fun b o e => (eg b).symm.trans e, ⟨#[], t2, trivial, fun pos cv e => ?_⟩, ⟨#[], t1, trivial, fun pos cv e => ?_⟩⟩
    all_goals exact absurd (show (none : Option Value) = some cv from e) (fun q => nomatch q)
  have na : ¬ tab a := by
    rintro (q | q)
    · obtain ⟨n, e⟩ := hL
      rw [q, t2] at e; cases e
    · obtain ⟨n, e⟩ := hL
      rw [q, t1] at e; cases e
  refine wpAny_mono (lawTrue (X := X) hl bud15 rfl G (.list na hL (ints_R hI))) (fun u s' z => ⟨z.1, oldTr eg z.2.ok.old, ?_, ?_⟩) fun _ _ e => e
  · obtain ⟨h', tk, rfl⟩ := z.2.eq; rfl
  · obtain ⟨h', tk, rfl⟩ := z.2.eq; rfl
end
end Mine
open Mine
theorem PySem.Challenge.cw_ta0110_01_holds : PySem.Challenge.rw_ta0110_01.Holds := by
  refine holds_law saidLaw fun said => ?_
  refine holds_open (q := Vw) (loose := lse) (Xt := xt) (XP := XL Vw []) (Yf := HK.obs) (Ya := HK.val) (YP := HK.says) (d := lawD.1) (kwd := lawD.2) (N := 3884) left HK.of HK.keeps (fun s e => xl_of s (Bool.and_eq_true_iff.mp e).1) XL.keeps (by rfl) (by rfl) (by rfl) (fun s e => recFacts_of (Bool.and_eq_true_iff.mp e).2) (by rfl) (by first | assumption | decide +kernel) (by decide +kernel) ⟨rfl, rfl, rfl, rfl, rfl, by decide +kernel⟩ ?hw ?hc
  case hw => exact ⟨[.list []], by decide +kernel, by decide +kernel⟩
  case hc =>
    intro w s₀ s₁ mg mb G Y fa o pm cd doc dV kV ho hd hcd hD hmg hg args vals as hpre hlay hrd hwl hlo
    clear hd hcd hD
    have hlaw : mg (Str.ofString "law") = some (.ref 324) := mg_of (in0 Y).1 G.T.g (k324 _)
    have hfa : fa = 324 := ref_inj (hmg.symm.trans hlaw)
    subst hfa
    clear hmg hlaw
    wrow_args hpre hlay hrd hwl hlo
    rename_i script _ _ _ _ _ _ a vs _ hL _ w1 _ hI _ hlen _
    have hpl : s₁.heap.PlainList a vs.toArray := by
      obtain ⟨o1, e1, c1, n, d1⟩ := hL
      cases w1 with
      | list e _ =>
        refine ⟨0, ?_⟩
        rw [e] at e1
        cases e1
        cases d1
        exact e
    refine wpAny_mono (lawRuns Y G.T ho hpl hI (by omega)) (fun u s' z => ?_) fun _ _ e => e
    obtain ⟨rfl, z1, z2, z3⟩ := z
    exact ⟨.inl ⟨.bool true, .bool true, [], rfl, fun _ => rfl, .bool true, post_ok _ _, fun _ => ⟨List.nodup_nil, fun _ h => nomatch h⟩⟩, z1, z2, .of_eq (z3.trans hg)⟩
