import PyProof.Rows.All
import Wide.All
import OpenK.AllK
import Wide.FinOn
import PySem.Challenge.RW_jb0011_01
open PySem PySem.W PyProof.Rows
set_option Elab.async false
set_option maxRecDepth 100000
set_option maxHeartbeats 8000000
set_option linter.unusedVariables false

namespace Mine
/-- the statement of a number -/
def stAt : List Stmt → Nat → Stmt
  | s :: _, 0 => s
  | _ :: r, n + 1 => stAt r n
  | [], _ => .Pass default
/-- the object that a def of the text's leaves -/
def fnObj9 (md : Str) (mt c : Nat) (df : Value) : Stmt → Obj
  | .FunctionDef n a b _ _ _ sc _ _ _ => ⟨.type "function", (none : Option Nat), .func ⟨n, n, a, .stmts b, sc, (3 : Nat), ([] : List (Str × Nat)), df, .none, .none, .str md mt, (none : Option Nat), .ref c, .none, (0 : Nat)⟩, #[]⟩
  | _ => default
noncomputable def prog0 : Program := PySem.Challenge.rw_jb0011_01.row.toRowW.prog

noncomputable def hd.heap_39 : Params → Frag := by

  refine' (?f : ∀ (x22 : Obj) (_ : fnObj9 (Str.ofString "convertdate.utils") 187 21 .none (stAt prog0.main.body 2) = x22), ∀ (x29 : Obj) (_ : fnObj9 (Str.ofString "convertdate.utils") 187 28 .none (stAt prog0.main.body 3) = x29), ∀ (x36 : Obj) (_ : fnObj9 (Str.ofString "convertdate.utils") 187 35 .none (stAt prog0.main.body 4) = x36), ∀ (x43 : Obj) (_ : fnObj9 (Str.ofString "convertdate.utils") 187 42 .none (stAt prog0.main.body 5) = x43), ∀ (x48 : Obj) (_ : fnObj9 (Str.ofString "convertdate.utils") 187 47 .none (stAt prog0.main.body 6) = x48), ∀ (x56 : Obj) (_ : fnObj9 (Str.ofString "convertdate.gregorian") 243 55 .none (stAt prog0.main.body 14) = x56), ∀ (x63 : Obj) (_ : fnObj9 (Str.ofString "convertdate.gregorian") 243 62 .none (stAt prog0.main.body 16) = x63), ∀ (x70 : Obj) (_ : fnObj9 (Str.ofString "convertdate.gregorian") 243 69 .none (stAt prog0.main.body 18) = x70), ∀ (x77 : Obj) (_ : fnObj9 (Str.ofString "convertdate.gregorian") 243 76 .none (stAt prog0.main.body 20) = x77), ∀ (x85 : Obj) (_ : fnObj9 (Str.ofString "convertdate.julian") 302 84 .none (stAt prog0.main.body 24) = x85), ∀ (x92 : Obj) (_ : fnObj9 (Str.ofString "convertdate.julian") 302 91 .none (stAt prog0.main.body 26) = x92), ∀ (x99 : Obj) (_ : fnObj9 (Str.ofString "convertdate.julian") 302 98 .none (stAt prog0.main.body 28) = x99), ∀ (x106 : Obj) (_ : fnObj9 (Str.ofString "convertdate.julian") 302 105 .none (stAt prog0.main.body 30) = x106), ∀ (x113 : Obj) (_ : fnObj9 (Str.ofString "convertdate.julian") 302 112 .none (stAt prog0.main.body 32) = x113), ∀ (x121 : Obj) (_ : fnObj9 (Str.ofString "convertdate.islamic") 359 120 .none (stAt prog0.main.body 37) = x121), ∀ (x128 : Obj) (_ : fnObj9 (Str.ofString "convertdate.islamic") 359 127 .none (stAt prog0.main.body 39) = x128), ∀ (x135 : Obj) (_ : fnObj9 (Str.ofString "convertdate.islamic") 359 134 .none (stAt prog0.main.body 41) = x135), ∀ (x142 : Obj) (_ : fnObj9 (Str.ofString "convertdate.islamic") 359 141 .none (stAt prog0.main.body 43) = x142), ∀ (x149 : Obj) (_ : fnObj9 (Str.ofString "convertdate.coptic") 408 148 .none (stAt prog0.main.body 47) = x149), ∀ (x156 : Obj) (_ : fnObj9 (Str.ofString "convertdate.coptic") 408 155 .none (stAt prog0.main.body 48) = x156), ∀ (x163 : Obj) (_ : fnObj9 (Str.ofString "convertdate.coptic") 408 162 .none (stAt prog0.main.body 50) = x163), ∀ (x170 : Obj) (_ : fnObj9 (Str.ofString "convertdate.coptic") 408 169 .none (stAt prog0.main.body 52) = x170), ∀ (x178 : Obj) (_ : fnObj9 (Str.ofString "convertdate.indian_civil") 449 177 .none (stAt prog0.main.body 57) = x178), ∀ (x185 : Obj) (_ : fnObj9 (Str.ofString "convertdate.indian_civil") 449 184 .none (stAt prog0.main.body 59) = x185), ∀ (x192 : Obj) (_ : fnObj9 (Str.ofString "convertdate.indian_civil") 449 191 .none (stAt prog0.main.body 61) = x192), ∀ (x200 : Obj) (_ : fnObj9 (Str.ofString "convertdate.armenian") 495 199 (.ref (193 : Nat)) (stAt prog0.main.body 66) = x200), ∀ (x207 : Obj) (_ : fnObj9 (Str.ofString "convertdate.armenian") 495 206 .none (stAt prog0.main.body 67) = x207), ∀ (x215 : Obj) (_ : fnObj9 (Str.ofString "convertdate.armenian") 495 214 (.ref (208 : Nat)) (stAt prog0.main.body 69) = x215), ∀ (x223 : Obj) (_ : fnObj9 (Str.ofString "convertdate.armenian") 495 222 (.ref (216 : Nat)) (stAt prog0.main.body 71) = x223), ∀ (x231 : Obj) (_ : fnObj9 (Str.ofString "convertdate.armenian") 495 230 (.ref (224 : Nat)) (stAt prog0.main.body 73) = x231), ∀ (x238 : Obj) (_ : fnObj9 (Str.ofString "law_jb0011_01") 559 237 .none (stAt prog0.main.body 76) = x238), ∀ (x245 : Obj) (_ : fnObj9 (Str.ofString "law_jb0011_01") 559 244 .none (stAt prog0.main.body 77) = x245), ∀ (x250 : Obj) (_ : fnObj9 (Str.ofString "law_jb0011_01") 559 249 .none (stAt prog0.main.body 78) = x250), ∀ (x257 : Obj) (_ : fnObj9 (Str.ofString "law_jb0011_01") 559 256 .none (stAt prog0.main.body 79) = x257), ∀ (x264 : Obj) (_ : fnObj9 (Str.ofString "law_jb0011_01") 559 263 .none (stAt prog0.main.body 80) = x264), ∀ (x271 : Obj) (_ : fnObj9 (Str.ofString "law_jb0011_01") 559 270 .none (stAt prog0.main.body 81) = x271), Params → Frag) _ ?h22 _ ?h29 _ ?h36 _ ?h43 _ ?h48 _ ?h56 _ ?h63 _ ?h70 _ ?h77 _ ?h85 _ ?h92 _ ?h99 _ ?h106 _ ?h113 _ ?h121 _ ?h128 _ ?h135 _ ?h142 _ ?h149 _ ?h156 _ ?h163 _ ?h170 _ ?h178 _ ?h185 _ ?h192 _ ?h200 _ ?h207 _ ?h215 _ ?h223 _ ?h231 _ ?h238 _ ?h245 _ ?h250 _ ?h257 _ ?h264 _ ?h271

  case h22 => conv => lhs; whnf

  case h29 => conv => lhs; whnf

  case h36 => conv => lhs; whnf

  case h43 => conv => lhs; whnf

  case h48 => conv => lhs; whnf

  case h56 => conv => lhs; whnf

  case h63 => conv => lhs; whnf

  case h70 => conv => lhs; whnf

  case h77 => conv => lhs; whnf

  case h85 => conv => lhs; whnf

  case h92 => conv => lhs; whnf

  case h99 => conv => lhs; whnf

  case h106 => conv => lhs; whnf

  case h113 => conv => lhs; whnf

  case h121 => conv => lhs; whnf

  case h128 => conv => lhs; whnf

  case h135 => conv => lhs; whnf

  case h142 => conv => lhs; whnf

  case h149 => conv => lhs; whnf

  case h156 => conv => lhs; whnf

  case h163 => conv => lhs; whnf

  case h170 => conv => lhs; whnf

  case h178 => conv => lhs; whnf

  case h185 => conv => lhs; whnf

  case h192 => conv => lhs; whnf

  case h200 => conv => lhs; whnf

  case h207 => conv => lhs; whnf

  case h215 => conv => lhs; whnf

  case h223 => conv => lhs; whnf

  case h231 => conv => lhs; whnf

  case h238 => conv => lhs; whnf

  case h245 => conv => lhs; whnf

  case h250 => conv => lhs; whnf

  case h257 => conv => lhs; whnf

  case h264 => conv => lhs; whnf

  case h271 => conv => lhs; whnf

  case f => exact fun x22 _ x29 _ x36 _ x43 _ x48 _ x56 _ x63 _ x70 _ x77 _ x85 _ x92 _ x99 _ x106 _ x113 _ x121 _ x128 _ x135 _ x142 _ x149 _ x156 _ x163 _ x170 _ x178 _ x185 _ x192 _ x200 _ x207 _ x215 _ x223 _ x231 _ x238 _ x245 _ x250 _ x257 _ x264 _ x271 _ P =>
    (nat_lit 3, (⟨.type "dict", (none : Option Nat), .dict (List.toArray (⟨PyData.keyHash P (Str.ofString "__name__"), .str (Str.ofString "__name__") (165 : Nat), .str (Str.ofString "law_jb0011_01") (559 : Nat)⟩ :: ⟨PyData.keyHash P (Str.ofString "__doc__"), .str (Str.ofString "__doc__") (166 : Nat), .none⟩ :: ⟨PyData.keyHash P (Str.ofString "__package__"), .str (Str.ofString "__package__") (167 : Nat), .none⟩ :: ⟨PyData.keyHash P (Str.ofString "__loader__"), .str (Str.ofString "__loader__") (168 : Nat), .builtin "__main__.__loader__#opaque"⟩ :: ⟨PyData.keyHash P (Str.ofString "__spec__"), .str (Str.ofString "__spec__") (169 : Nat), .none⟩ :: ⟨PyData.keyHash P (Str.ofString "__annotations__"), .str (Str.ofString "__annotations__") (170 : Nat), .ref (6 : Nat)⟩ :: ⟨PyData.keyHash P (Str.ofString "__builtins__"), .str (Str.ofString "__builtins__") (171 : Nat), .ref (4 : Nat)⟩ :: ⟨PyData.keyHash P (Str.ofString "__file__"), .str (Str.ofString "__file__") (173 : Nat), .str (Str.ofString "/claim/cut.py") (172 : Nat)⟩ :: ⟨PyData.keyHash P (Str.ofString "__cached__"), .str (Str.ofString "__cached__") (174 : Nat), .none⟩ :: ⟨PyData.keyHash P (Str.ofString "MONTH_DAYS"), .str (Str.ofString "MONTH_DAYS") (202 : Nat), .ref (15 : Nat)⟩ :: ⟨PyData.keyHash P (Str.ofString "isleap"), .str (Str.ofString "isleap") (209 : Nat), .ref (22 : Nat)⟩ :: ⟨PyData.keyHash P (Str.ofString "monthrange"), .str (Str.ofString "monthrange") (220 : Nat), .ref (29 : Nat)⟩ :: ⟨PyData.keyHash P (Str.ofString "trunc"), .str (Str.ofString "trunc") (229 : Nat), .ref (36 : Nat)⟩ :: ⟨PyData.keyHash P (Str.ofString "jwday"), .str (Str.ofString "jwday") (236 : Nat), .ref (43 : Nat)⟩ :: ⟨PyData.keyHash P (Str.ofString "monthcalendarhelper"), .str (Str.ofString "monthcalendarhelper") (242 : Nat), .ref (48 : Nat)⟩ :: ⟨PyData.keyHash P (Str.ofString "EPOCH_gregorian"), .str (Str.ofString "EPOCH_gregorian") (246 : Nat), .int 1721426 (245 : Nat)⟩ :: ⟨PyData.keyHash P (Str.ofString "INTERCALATION_CYCLE_YEARS"), .str (Str.ofString "INTERCALATION_CYCLE_YEARS") (248 : Nat), .int 400 (247 : Nat)⟩ :: ⟨PyData.keyHash P (Str.ofString "LEAP_SUPPRESSION_YEARS"), .str (Str.ofString "LEAP_SUPPRESSION_YEARS") (250 : Nat), .int 100 (249 : Nat)⟩ :: ⟨PyData.keyHash P (Str.ofString "LEAP_CYCLE_YEARS"), .str (Str.ofString "LEAP_CYCLE_YEARS") (252 : Nat), .int 4 (251 : Nat)⟩ :: ⟨PyData.keyHash P (Str.ofString "YEAR_DAYS"), .str (Str.ofString "YEAR_DAYS") (254 : Nat), .int 365 (253 : Nat)⟩ :: ⟨PyData.keyHash P (Str.ofString "HAVE_30_DAYS_gregorian"), .str (Str.ofString "HAVE_30_DAYS_gregorian") (259 : Nat), .ref (49 : Nat)⟩ :: ⟨PyData.keyHash P (Str.ofString "legal_date"), .str (Str.ofString "legal_date") (269 : Nat), .ref (99 : Nat)⟩ :: ⟨PyData.keyHash P (Str.ofString "legal_date_gregorian"), .str (Str.ofString "legal_date_gregorian") (270 : Nat), .ref (56 : Nat)⟩ :: ⟨PyData.keyHash P (Str.ofString "to_jd"), .str (Str.ofString "to_jd") (280 : Nat), .ref (215 : Nat)⟩ :: ⟨PyData.keyHash P (Str.ofString "to_jd_gregorian"), .str (Str.ofString "to_jd_gregorian") (281 : Nat), .ref (63 : Nat)⟩ :: ⟨PyData.keyHash P (Str.ofString "month_length"), .str (Str.ofString "month_length") (289 : Nat), .ref (223 : Nat)⟩ :: ⟨PyData.keyHash P (Str.ofString "month_length_gregorian"), .str (Str.ofString "month_length_gregorian") (290 : Nat), .ref (70 : Nat)⟩ :: ⟨PyData.keyHash P (Str.ofString "monthcalendar"), .str (Str.ofString "monthcalendar") (300 : Nat), .ref (231 : Nat)⟩ :: ⟨PyData.keyHash P (Str.ofString "monthcalendar_gregorian"), .str (Str.ofString "monthcalendar_gregorian") (301 : Nat), .ref (77 : Nat)⟩ :: ⟨PyData.keyHash P (Str.ofString "HAVE_30_DAYS_julian"), .str (Str.ofString "HAVE_30_DAYS_julian") (308 : Nat), .ref (78 : Nat)⟩ :: ⟨PyData.keyHash P (Str.ofString "leap"), .str (Str.ofString "leap") (315 : Nat), .ref (207 : Nat)⟩ :: ⟨PyData.keyHash P (Str.ofString "leap_julian"), .str (Str.ofString "leap_julian") (316 : Nat), .ref (85 : Nat)⟩ :: ⟨PyData.keyHash P (Str.ofString "month_length_julian"), .str (Str.ofString "month_length_julian") (326 : Nat), .ref (92 : Nat)⟩ :: ⟨PyData.keyHash P (Str.ofString "legal_date_julian"), .str (Str.ofString "legal_date_julian") (337 : Nat), .ref (99 : Nat)⟩ :: ⟨PyData.keyHash P (Str.ofString "to_jd_julian"), .str (Str.ofString "to_jd_julian") (347 : Nat), .ref (106 : Nat)⟩ :: ⟨PyData.keyHash P (Str.ofString "monthcalendar_julian"), .str (Str.ofString "monthcalendar_julian") (358 : Nat), .ref (113 : Nat)⟩ :: ⟨PyData.keyHash P (Str.ofString "EPOCH_islamic"), .str (Str.ofString "EPOCH_islamic") (362 : Nat), .int 1948440 (361 : Nat)⟩ :: ⟨PyData.keyHash P (Str.ofString "HAS_30_DAYS"), .str (Str.ofString "HAS_30_DAYS") (369 : Nat), .ref (114 : Nat)⟩ :: ⟨PyData.keyHash P (Str.ofString "leap_islamic"), .str (Str.ofString "leap_islamic") (377 : Nat), .ref (121 : Nat)⟩ :: ⟨PyData.keyHash P (Str.ofString "to_jd_islamic"), .str (Str.ofString "to_jd_islamic") (387 : Nat), .ref (128 : Nat)⟩ :: ⟨PyData.keyHash P (Str.ofString "month_length_islamic"), .str (Str.ofString "month_length_islamic") (396 : Nat), .ref (135 : Nat)⟩ :: ⟨PyData.keyHash P (Str.ofString "monthcalendar_islamic"), .str (Str.ofString "monthcalendar_islamic") (407 : Nat), .ref (142 : Nat)⟩ :: ⟨PyData.keyHash P (Str.ofString "EPOCH_coptic"), .str (Str.ofString "EPOCH_coptic") (411 : Nat), .int 1825030 (410 : Nat)⟩ :: ⟨PyData.keyHash P (Str.ofString "is_leap"), .str (Str.ofString "is_leap") (418 : Nat), .ref (149 : Nat)⟩ :: ⟨PyData.keyHash P (Str.ofString "to_jd_coptic"), .str (Str.ofString "to_jd_coptic") (428 : Nat), .ref (156 : Nat)⟩ :: ⟨PyData.keyHash P (Str.ofString "month_length_coptic"), .str (Str.ofString "month_length_coptic") (437 : Nat), .ref (163 : Nat)⟩ :: ⟨PyData.keyHash P (Str.ofString "monthcalendar_coptic"), .str (Str.ofString "monthcalendar_coptic") (448 : Nat), .ref (170 : Nat)⟩ :: ⟨PyData.keyHash P (Str.ofString "HAVE_31_DAYS"), .str (Str.ofString "HAVE_31_DAYS") (456 : Nat), .ref (171 : Nat)⟩ :: ⟨PyData.keyHash P (Str.ofString "SAKA_EPOCH"), .str (Str.ofString "SAKA_EPOCH") (458 : Nat), .int 78 (457 : Nat)⟩ :: ⟨PyData.keyHash P (Str.ofString "to_jd_indian_civil"), .str (Str.ofString "to_jd_indian_civil") (474 : Nat), .ref (178 : Nat)⟩ :: ⟨PyData.keyHash P (Str.ofString "month_length_indian_civil"), .str (Str.ofString "month_length_indian_civil") (483 : Nat), .ref (185 : Nat)⟩ :: ⟨PyData.keyHash P (Str.ofString "monthcalendar_indian_civil"), .str (Str.ofString "monthcalendar_indian_civil") (494 : Nat), .ref (192 : Nat)⟩ :: ⟨PyData.keyHash P (Str.ofString "EPOCH_armenian"), .str (Str.ofString "EPOCH_armenian") (498 : Nat), .int 1922502 (497 : Nat)⟩ :: ⟨PyData.keyHash P (Str.ofString "EPOCH_SARKAWAG"), .str (Str.ofString "EPOCH_SARKAWAG") (500 : Nat), .int 2117211 (499 : Nat)⟩ :: ⟨PyData.keyHash P (Str.ofString "_valid_date"), .str (Str.ofString "_valid_date") (514 : Nat), .ref (200 : Nat)⟩ :: ⟨PyData.keyHash P (Str.ofString "leap_armenian"), .str (Str.ofString "leap_armenian") (522 : Nat), .ref (207 : Nat)⟩ :: ⟨PyData.keyHash P (Str.ofString "to_jd_armenian"), .str (Str.ofString "to_jd_armenian") (536 : Nat), .ref (215 : Nat)⟩ :: ⟨PyData.keyHash P (Str.ofString "month_length_armenian"), .str (Str.ofString "month_length_armenian") (546 : Nat), .ref (223 : Nat)⟩ :: ⟨PyData.keyHash P (Str.ofString "monthcalendar_armenian"), .str (Str.ofString "monthcalendar_armenian") (558 : Nat), .ref (231 : Nat)⟩ :: ⟨PyData.keyHash P (Str.ofString "_law_long_moon_years"), .str (Str.ofString "_law_long_moon_years") (566 : Nat), .ref (238 : Nat)⟩ :: ⟨PyData.keyHash P (Str.ofString "_law_january"), .str (Str.ofString "_law_january") (575 : Nat), .ref (245 : Nat)⟩ :: ⟨PyData.keyHash P (Str.ofString "_law_year"), .str (Str.ofString "_law_year") (581 : Nat), .ref (250 : Nat)⟩ :: ⟨PyData.keyHash P (Str.ofString "_law_length"), .str (Str.ofString "_law_length") (590 : Nat), .ref (257 : Nat)⟩ :: ⟨PyData.keyHash P (Str.ofString "_law_leaf"), .str (Str.ofString "_law_leaf") (599 : Nat), .ref (264 : Nat)⟩ :: ⟨PyData.keyHash P (Str.ofString "law"), .str (Str.ofString "law") (616 : Nat), .ref (271 : Nat)⟩ :: [])) 65, #[]⟩ : Obj)) ::
    (nat_lit 15, (⟨.type "tuple", (none : Option Nat), .seq #[.int 0 (189 : Nat), .int 31 (190 : Nat), .int 28 (191 : Nat), .int 31 (192 : Nat), .int 30 (193 : Nat), .int 31 (194 : Nat), .int 30 (195 : Nat), .int 31 (196 : Nat), .int 31 (197 : Nat), .int 30 (198 : Nat), .int 31 (199 : Nat), .int 30 (200 : Nat), .int 31 (201 : Nat)], #[]⟩ : Obj)) ::
    (nat_lit 21, (⟨.type "code", (none : Option Nat), .fields #[.str (Str.ofString "isleap") (203 : Nat), .str (Str.ofString "isleap") (204 : Nat), .str (Str.ofString "/claim/cut.py") (205 : Nat), .int 3 (0 : Nat), .int 1 (0 : Nat), .int 0 (0 : Nat), .int 0 (0 : Nat), .int 3 (0 : Nat), .ref (16 : Nat), .bool true, .int 181 (0 : Nat), .ref (17 : Nat), .none, .ref (18 : Nat), .ref (19 : Nat), .ref (20 : Nat), .int 207 (0 : Nat), .int 3 (0 : Nat), .str (Str.ofString "/claim/cut.py") (208 : Nat)], #[]⟩ : Obj)) ::
    (nat_lit 22, (x22 : Obj)) ::
    (nat_lit 28, (⟨.type "code", (none : Option Nat), .fields #[.str (Str.ofString "monthrange") (210 : Nat), .str (Str.ofString "monthrange") (211 : Nat), .str (Str.ofString "/claim/cut.py") (212 : Nat), .int 5 (0 : Nat), .int 2 (0 : Nat), .int 0 (0 : Nat), .int 0 (0 : Nat), .int 3 (0 : Nat), .ref (23 : Nat), .bool true, .int 181 (0 : Nat), .ref (24 : Nat), .none, .ref (25 : Nat), .ref (26 : Nat), .ref (27 : Nat), .int 218 (0 : Nat), .int 5 (0 : Nat), .str (Str.ofString "/claim/cut.py") (219 : Nat)], #[]⟩ : Obj)) ::
    (nat_lit 29, (x29 : Obj)) ::
    (nat_lit 35, (⟨.type "code", (none : Option Nat), .fields #[.str (Str.ofString "trunc") (221 : Nat), .str (Str.ofString "trunc") (222 : Nat), .str (Str.ofString "/claim/cut.py") (223 : Nat), .int 15 (0 : Nat), .int 2 (0 : Nat), .int 0 (0 : Nat), .int 0 (0 : Nat), .int 3 (0 : Nat), .ref (30 : Nat), .bool true, .int 181 (0 : Nat), .ref (31 : Nat), .none, .ref (32 : Nat), .ref (33 : Nat), .ref (34 : Nat), .int 227 (0 : Nat), .int 15 (0 : Nat), .str (Str.ofString "/claim/cut.py") (228 : Nat)], #[]⟩ : Obj)) ::
    (nat_lit 36, (x36 : Obj)) ::
    (nat_lit 42, (⟨.type "code", (none : Option Nat), .fields #[.str (Str.ofString "jwday") (230 : Nat), .str (Str.ofString "jwday") (231 : Nat), .str (Str.ofString "/claim/cut.py") (232 : Nat), .int 18 (0 : Nat), .int 1 (0 : Nat), .int 0 (0 : Nat), .int 0 (0 : Nat), .int 3 (0 : Nat), .ref (37 : Nat), .bool true, .int 181 (0 : Nat), .ref (38 : Nat), .none, .ref (39 : Nat), .ref (40 : Nat), .ref (41 : Nat), .int 234 (0 : Nat), .int 18 (0 : Nat), .str (Str.ofString "/claim/cut.py") (235 : Nat)], #[]⟩ : Obj)) ::
    (nat_lit 43, (x43 : Obj)) ::
    (nat_lit 47, (⟨.type "code", (none : Option Nat), .fields #[.str (Str.ofString "monthcalendarhelper") (237 : Nat), .str (Str.ofString "monthcalendarhelper") (238 : Nat), .str (Str.ofString "/claim/cut.py") (239 : Nat), .int 20 (0 : Nat), .int 2 (0 : Nat), .int 0 (0 : Nat), .int 0 (0 : Nat), .int 3 (0 : Nat), .ref (44 : Nat), .bool true, .int 181 (0 : Nat), .ref (45 : Nat), .none, .none, .none, .ref (46 : Nat), .int 240 (0 : Nat), .int 20 (0 : Nat), .str (Str.ofString "/claim/cut.py") (241 : Nat)], #[]⟩ : Obj)) ::
    (nat_lit 48, (x48 : Obj)) ::
    (nat_lit 49, (⟨.type "tuple", (none : Option Nat), .seq #[.int 4 (255 : Nat), .int 6 (256 : Nat), .int 9 (257 : Nat), .int 11 (258 : Nat)], #[]⟩ : Obj)) ::
    (nat_lit 55, (⟨.type "code", (none : Option Nat), .fields #[.str (Str.ofString "legal_date") (260 : Nat), .str (Str.ofString "legal_date") (261 : Nat), .str (Str.ofString "/claim/cut.py") (262 : Nat), .int 31 (0 : Nat), .int 3 (0 : Nat), .int 0 (0 : Nat), .int 0 (0 : Nat), .int 3 (0 : Nat), .ref (50 : Nat), .bool true, .int 181 (0 : Nat), .ref (51 : Nat), .none, .ref (52 : Nat), .ref (53 : Nat), .ref (54 : Nat), .int 267 (0 : Nat), .int 31 (0 : Nat), .str (Str.ofString "/claim/cut.py") (268 : Nat)], #[]⟩ : Obj)) ::
    (nat_lit 56, (x56 : Obj)) ::
    (nat_lit 62, (⟨.type "code", (none : Option Nat), .fields #[.str (Str.ofString "to_jd") (271 : Nat), .str (Str.ofString "to_jd") (272 : Nat), .str (Str.ofString "/claim/cut.py") (273 : Nat), .int 40 (0 : Nat), .int 3 (0 : Nat), .int 0 (0 : Nat), .int 0 (0 : Nat), .int 3 (0 : Nat), .ref (57 : Nat), .bool true, .int 181 (0 : Nat), .ref (58 : Nat), .none, .ref (59 : Nat), .ref (60 : Nat), .ref (61 : Nat), .int 278 (0 : Nat), .int 40 (0 : Nat), .str (Str.ofString "/claim/cut.py") (279 : Nat)], #[]⟩ : Obj)) ::
    (nat_lit 63, (x63 : Obj)) ::
    (nat_lit 69, (⟨.type "code", (none : Option Nat), .fields #[.str (Str.ofString "month_length") (282 : Nat), .str (Str.ofString "month_length") (283 : Nat), .str (Str.ofString "/claim/cut.py") (284 : Nat), .int 50 (0 : Nat), .int 2 (0 : Nat), .int 0 (0 : Nat), .int 0 (0 : Nat), .int 3 (0 : Nat), .ref (64 : Nat), .bool true, .int 181 (0 : Nat), .ref (65 : Nat), .none, .ref (66 : Nat), .ref (67 : Nat), .ref (68 : Nat), .int 287 (0 : Nat), .int 50 (0 : Nat), .str (Str.ofString "/claim/cut.py") (288 : Nat)], #[]⟩ : Obj)) ::
    (nat_lit 70, (x70 : Obj)) ::
    (nat_lit 76, (⟨.type "code", (none : Option Nat), .fields #[.str (Str.ofString "monthcalendar") (291 : Nat), .str (Str.ofString "monthcalendar") (292 : Nat), .str (Str.ofString "/claim/cut.py") (293 : Nat), .int 53 (0 : Nat), .int 2 (0 : Nat), .int 0 (0 : Nat), .int 0 (0 : Nat), .int 3 (0 : Nat), .ref (71 : Nat), .bool true, .int 181 (0 : Nat), .ref (72 : Nat), .none, .ref (73 : Nat), .ref (74 : Nat), .ref (75 : Nat), .int 298 (0 : Nat), .int 53 (0 : Nat), .str (Str.ofString "/claim/cut.py") (299 : Nat)], #[]⟩ : Obj)) ::
    (nat_lit 77, (x77 : Obj)) ::
    (nat_lit 78, (⟨.type "tuple", (none : Option Nat), .seq #[.int 4 (304 : Nat), .int 6 (305 : Nat), .int 9 (306 : Nat), .int 11 (307 : Nat)], #[]⟩ : Obj)) ::
    (nat_lit 84, (⟨.type "code", (none : Option Nat), .fields #[.str (Str.ofString "leap") (309 : Nat), .str (Str.ofString "leap") (310 : Nat), .str (Str.ofString "/claim/cut.py") (311 : Nat), .int 60 (0 : Nat), .int 1 (0 : Nat), .int 0 (0 : Nat), .int 0 (0 : Nat), .int 3 (0 : Nat), .ref (79 : Nat), .bool true, .int 181 (0 : Nat), .ref (80 : Nat), .none, .ref (81 : Nat), .ref (82 : Nat), .ref (83 : Nat), .int 313 (0 : Nat), .int 60 (0 : Nat), .str (Str.ofString "/claim/cut.py") (314 : Nat)], #[]⟩ : Obj)) ::
    (nat_lit 85, (x85 : Obj)) ::
    (nat_lit 91, (⟨.type "code", (none : Option Nat), .fields #[.str (Str.ofString "month_length") (317 : Nat), .str (Str.ofString "month_length") (318 : Nat), .str (Str.ofString "/claim/cut.py") (319 : Nat), .int 63 (0 : Nat), .int 2 (0 : Nat), .int 0 (0 : Nat), .int 0 (0 : Nat), .int 3 (0 : Nat), .ref (86 : Nat), .bool true, .int 181 (0 : Nat), .ref (87 : Nat), .none, .ref (88 : Nat), .ref (89 : Nat), .ref (90 : Nat), .int 323 (0 : Nat), .int 63 (0 : Nat), .str (Str.ofString "/claim/cut.py") (324 : Nat)], #[]⟩ : Obj)) ::
    (nat_lit 92, (x92 : Obj)) ::
    (nat_lit 98, (⟨.type "code", (none : Option Nat), .fields #[.str (Str.ofString "legal_date") (327 : Nat), .str (Str.ofString "legal_date") (328 : Nat), .str (Str.ofString "/claim/cut.py") (329 : Nat), .int 70 (0 : Nat), .int 3 (0 : Nat), .int 0 (0 : Nat), .int 0 (0 : Nat), .int 3 (0 : Nat), .ref (93 : Nat), .bool true, .int 181 (0 : Nat), .ref (94 : Nat), .none, .ref (95 : Nat), .ref (96 : Nat), .ref (97 : Nat), .int 334 (0 : Nat), .int 70 (0 : Nat), .str (Str.ofString "/claim/cut.py") (335 : Nat)], #[]⟩ : Obj)) ::
    (nat_lit 99, (x99 : Obj)) ::
    (nat_lit 105, (⟨.type "code", (none : Option Nat), .fields #[.str (Str.ofString "to_jd") (338 : Nat), .str (Str.ofString "to_jd") (339 : Nat), .str (Str.ofString "/claim/cut.py") (340 : Nat), .int 76 (0 : Nat), .int 3 (0 : Nat), .int 0 (0 : Nat), .int 0 (0 : Nat), .int 3 (0 : Nat), .ref (100 : Nat), .bool true, .int 181 (0 : Nat), .ref (101 : Nat), .none, .ref (102 : Nat), .ref (103 : Nat), .ref (104 : Nat), .int 344 (0 : Nat), .int 76 (0 : Nat), .str (Str.ofString "/claim/cut.py") (345 : Nat)], #[]⟩ : Obj)) ::
    (nat_lit 106, (x106 : Obj)) ::
    (nat_lit 112, (⟨.type "code", (none : Option Nat), .fields #[.str (Str.ofString "monthcalendar") (348 : Nat), .str (Str.ofString "monthcalendar") (349 : Nat), .str (Str.ofString "/claim/cut.py") (350 : Nat), .int 83 (0 : Nat), .int 2 (0 : Nat), .int 0 (0 : Nat), .int 0 (0 : Nat), .int 3 (0 : Nat), .ref (107 : Nat), .bool true, .int 181 (0 : Nat), .ref (108 : Nat), .none, .ref (109 : Nat), .ref (110 : Nat), .ref (111 : Nat), .int 355 (0 : Nat), .int 83 (0 : Nat), .str (Str.ofString "/claim/cut.py") (356 : Nat)], #[]⟩ : Obj)) ::
    (nat_lit 113, (x113 : Obj)) ::
    (nat_lit 114, (⟨.type "tuple", (none : Option Nat), .seq #[.int 1 (363 : Nat), .int 3 (364 : Nat), .int 5 (365 : Nat), .int 7 (366 : Nat), .int 9 (367 : Nat), .int 11 (368 : Nat)], #[]⟩ : Obj)) ::
    (nat_lit 120, (⟨.type "code", (none : Option Nat), .fields #[.str (Str.ofString "leap") (370 : Nat), .str (Str.ofString "leap") (371 : Nat), .str (Str.ofString "/claim/cut.py") (372 : Nat), .int 91 (0 : Nat), .int 1 (0 : Nat), .int 0 (0 : Nat), .int 0 (0 : Nat), .int 3 (0 : Nat), .ref (115 : Nat), .bool true, .int 181 (0 : Nat), .ref (116 : Nat), .none, .ref (117 : Nat), .ref (118 : Nat), .ref (119 : Nat), .int 374 (0 : Nat), .int 91 (0 : Nat), .str (Str.ofString "/claim/cut.py") (375 : Nat)], #[]⟩ : Obj)) ::
    (nat_lit 121, (x121 : Obj)) ::
    (nat_lit 127, (⟨.type "code", (none : Option Nat), .fields #[.str (Str.ofString "to_jd") (378 : Nat), .str (Str.ofString "to_jd") (379 : Nat), .str (Str.ofString "/claim/cut.py") (380 : Nat), .int 94 (0 : Nat), .int 3 (0 : Nat), .int 0 (0 : Nat), .int 0 (0 : Nat), .int 3 (0 : Nat), .ref (122 : Nat), .bool true, .int 181 (0 : Nat), .ref (123 : Nat), .none, .ref (124 : Nat), .ref (125 : Nat), .ref (126 : Nat), .int 384 (0 : Nat), .int 94 (0 : Nat), .str (Str.ofString "/claim/cut.py") (385 : Nat)], #[]⟩ : Obj)) ::
    (nat_lit 128, (x128 : Obj)) ::
    (nat_lit 134, (⟨.type "code", (none : Option Nat), .fields #[.str (Str.ofString "month_length") (388 : Nat), .str (Str.ofString "month_length") (389 : Nat), .str (Str.ofString "/claim/cut.py") (390 : Nat), .int 97 (0 : Nat), .int 2 (0 : Nat), .int 0 (0 : Nat), .int 0 (0 : Nat), .int 3 (0 : Nat), .ref (129 : Nat), .bool true, .int 181 (0 : Nat), .ref (130 : Nat), .none, .ref (131 : Nat), .ref (132 : Nat), .ref (133 : Nat), .int 393 (0 : Nat), .int 97 (0 : Nat), .str (Str.ofString "/claim/cut.py") (394 : Nat)], #[]⟩ : Obj)) ::
    (nat_lit 135, (x135 : Obj)) ::
    (nat_lit 141, (⟨.type "code", (none : Option Nat), .fields #[.str (Str.ofString "monthcalendar") (397 : Nat), .str (Str.ofString "monthcalendar") (398 : Nat), .str (Str.ofString "/claim/cut.py") (399 : Nat), .int 102 (0 : Nat), .int 2 (0 : Nat), .int 0 (0 : Nat), .int 0 (0 : Nat), .int 3 (0 : Nat), .ref (136 : Nat), .bool true, .int 181 (0 : Nat), .ref (137 : Nat), .none, .ref (138 : Nat), .ref (139 : Nat), .ref (140 : Nat), .int 404 (0 : Nat), .int 102 (0 : Nat), .str (Str.ofString "/claim/cut.py") (405 : Nat)], #[]⟩ : Obj)) ::
    (nat_lit 142, (x142 : Obj)) ::
    (nat_lit 148, (⟨.type "code", (none : Option Nat), .fields #[.str (Str.ofString "is_leap") (412 : Nat), .str (Str.ofString "is_leap") (413 : Nat), .str (Str.ofString "/claim/cut.py") (414 : Nat), .int 109 (0 : Nat), .int 1 (0 : Nat), .int 0 (0 : Nat), .int 0 (0 : Nat), .int 3 (0 : Nat), .ref (143 : Nat), .bool true, .int 181 (0 : Nat), .ref (144 : Nat), .none, .ref (145 : Nat), .ref (146 : Nat), .ref (147 : Nat), .int 416 (0 : Nat), .int 109 (0 : Nat), .str (Str.ofString "/claim/cut.py") (417 : Nat)], #[]⟩ : Obj)) ::
    (nat_lit 149, (x149 : Obj)) ::
    (nat_lit 155, (⟨.type "code", (none : Option Nat), .fields #[.str (Str.ofString "to_jd") (419 : Nat), .str (Str.ofString "to_jd") (420 : Nat), .str (Str.ofString "/claim/cut.py") (421 : Nat), .int 111 (0 : Nat), .int 3 (0 : Nat), .int 0 (0 : Nat), .int 0 (0 : Nat), .int 3 (0 : Nat), .ref (150 : Nat), .bool true, .int 181 (0 : Nat), .ref (151 : Nat), .none, .ref (152 : Nat), .ref (153 : Nat), .ref (154 : Nat), .int 425 (0 : Nat), .int 111 (0 : Nat), .str (Str.ofString "/claim/cut.py") (426 : Nat)], #[]⟩ : Obj)) ::
    (nat_lit 156, (x156 : Obj)) ::
    (nat_lit 162, (⟨.type "code", (none : Option Nat), .fields #[.str (Str.ofString "month_length") (429 : Nat), .str (Str.ofString "month_length") (430 : Nat), .str (Str.ofString "/claim/cut.py") (431 : Nat), .int 114 (0 : Nat), .int 2 (0 : Nat), .int 0 (0 : Nat), .int 0 (0 : Nat), .int 3 (0 : Nat), .ref (157 : Nat), .bool true, .int 181 (0 : Nat), .ref (158 : Nat), .none, .ref (159 : Nat), .ref (160 : Nat), .ref (161 : Nat), .int 434 (0 : Nat), .int 114 (0 : Nat), .str (Str.ofString "/claim/cut.py") (435 : Nat)], #[]⟩ : Obj)) ::
    (nat_lit 163, (x163 : Obj)) ::
    (nat_lit 169, (⟨.type "code", (none : Option Nat), .fields #[.str (Str.ofString "monthcalendar") (438 : Nat), .str (Str.ofString "monthcalendar") (439 : Nat), .str (Str.ofString "/claim/cut.py") (440 : Nat), .int 123 (0 : Nat), .int 2 (0 : Nat), .int 0 (0 : Nat), .int 0 (0 : Nat), .int 3 (0 : Nat), .ref (164 : Nat), .bool true, .int 181 (0 : Nat), .ref (165 : Nat), .none, .ref (166 : Nat), .ref (167 : Nat), .ref (168 : Nat), .int 445 (0 : Nat), .int 123 (0 : Nat), .str (Str.ofString "/claim/cut.py") (446 : Nat)], #[]⟩ : Obj)) ::
    (nat_lit 170, (x170 : Obj)) ::
    (nat_lit 171, (⟨.type "tuple", (none : Option Nat), .seq #[.int 2 (451 : Nat), .int 3 (452 : Nat), .int 4 (453 : Nat), .int 5 (454 : Nat), .int 6 (455 : Nat)], #[]⟩ : Obj)) ::
    (nat_lit 177, (⟨.type "code", (none : Option Nat), .fields #[.str (Str.ofString "to_jd") (459 : Nat), .str (Str.ofString "to_jd") (460 : Nat), .str (Str.ofString "/claim/cut.py") (461 : Nat), .int 131 (0 : Nat), .int 3 (0 : Nat), .int 0 (0 : Nat), .int 0 (0 : Nat), .int 3 (0 : Nat), .ref (172 : Nat), .bool true, .int 181 (0 : Nat), .ref (173 : Nat), .none, .ref (174 : Nat), .ref (175 : Nat), .ref (176 : Nat), .int 471 (0 : Nat), .int 131 (0 : Nat), .str (Str.ofString "/claim/cut.py") (472 : Nat)], #[]⟩ : Obj)) ::
    (nat_lit 178, (x178 : Obj)) ::
    (nat_lit 184, (⟨.type "code", (none : Option Nat), .fields #[.str (Str.ofString "month_length") (475 : Nat), .str (Str.ofString "month_length") (476 : Nat), .str (Str.ofString "/claim/cut.py") (477 : Nat), .int 152 (0 : Nat), .int 2 (0 : Nat), .int 0 (0 : Nat), .int 0 (0 : Nat), .int 3 (0 : Nat), .ref (179 : Nat), .bool true, .int 181 (0 : Nat), .ref (180 : Nat), .none, .ref (181 : Nat), .ref (182 : Nat), .ref (183 : Nat), .int 480 (0 : Nat), .int 152 (0 : Nat), .str (Str.ofString "/claim/cut.py") (481 : Nat)], #[]⟩ : Obj)) ::
    (nat_lit 185, (x185 : Obj)) ::
    (nat_lit 191, (⟨.type "code", (none : Option Nat), .fields #[.str (Str.ofString "monthcalendar") (484 : Nat), .str (Str.ofString "monthcalendar") (485 : Nat), .str (Str.ofString "/claim/cut.py") (486 : Nat), .int 157 (0 : Nat), .int 2 (0 : Nat), .int 0 (0 : Nat), .int 0 (0 : Nat), .int 3 (0 : Nat), .ref (186 : Nat), .bool true, .int 181 (0 : Nat), .ref (187 : Nat), .none, .ref (188 : Nat), .ref (189 : Nat), .ref (190 : Nat), .int 491 (0 : Nat), .int 157 (0 : Nat), .str (Str.ofString "/claim/cut.py") (492 : Nat)], #[]⟩ : Obj)) ::
    (nat_lit 192, (x192 : Obj)) ::
    (nat_lit 193, (⟨.type "tuple", (none : Option Nat), .seq #[.none], #[]⟩ : Obj)) ::
    (nat_lit 199, (⟨.type "code", (none : Option Nat), .fields #[.str (Str.ofString "_valid_date") (501 : Nat), .str (Str.ofString "_valid_date") (502 : Nat), .str (Str.ofString "/claim/cut.py") (503 : Nat), .int 165 (0 : Nat), .int 4 (0 : Nat), .int 0 (0 : Nat), .int 0 (0 : Nat), .int 3 (0 : Nat), .ref (194 : Nat), .bool true, .int 181 (0 : Nat), .ref (195 : Nat), .none, .ref (196 : Nat), .ref (197 : Nat), .ref (198 : Nat), .int 512 (0 : Nat), .int 165 (0 : Nat), .str (Str.ofString "/claim/cut.py") (513 : Nat)], #[]⟩ : Obj)) ::
    (nat_lit 200, (x200 : Obj)) ::
    (nat_lit 206, (⟨.type "code", (none : Option Nat), .fields #[.str (Str.ofString "leap") (515 : Nat), .str (Str.ofString "leap") (516 : Nat), .str (Str.ofString "/claim/cut.py") (517 : Nat), .int 189 (0 : Nat), .int 1 (0 : Nat), .int 0 (0 : Nat), .int 0 (0 : Nat), .int 3 (0 : Nat), .ref (201 : Nat), .bool true, .int 181 (0 : Nat), .ref (202 : Nat), .none, .ref (203 : Nat), .ref (204 : Nat), .ref (205 : Nat), .int 519 (0 : Nat), .int 189 (0 : Nat), .str (Str.ofString "/claim/cut.py") (520 : Nat)], #[]⟩ : Obj)) ::
    (nat_lit 207, (x207 : Obj)) ::
    (nat_lit 208, (⟨.type "tuple", (none : Option Nat), .seq #[.none], #[]⟩ : Obj)) ::
    (nat_lit 214, (⟨.type "code", (none : Option Nat), .fields #[.str (Str.ofString "to_jd") (523 : Nat), .str (Str.ofString "to_jd") (524 : Nat), .str (Str.ofString "/claim/cut.py") (525 : Nat), .int 194 (0 : Nat), .int 4 (0 : Nat), .int 0 (0 : Nat), .int 0 (0 : Nat), .int 3 (0 : Nat), .ref (209 : Nat), .bool true, .int 181 (0 : Nat), .ref (210 : Nat), .none, .ref (211 : Nat), .ref (212 : Nat), .ref (213 : Nat), .int 533 (0 : Nat), .int 194 (0 : Nat), .str (Str.ofString "/claim/cut.py") (534 : Nat)], #[]⟩ : Obj)) ::
    (nat_lit 215, (x215 : Obj)) ::
    (nat_lit 216, (⟨.type "tuple", (none : Option Nat), .seq #[.none], #[]⟩ : Obj)) ::
    (nat_lit 222, (⟨.type "code", (none : Option Nat), .fields #[.str (Str.ofString "month_length") (537 : Nat), .str (Str.ofString "month_length") (538 : Nat), .str (Str.ofString "/claim/cut.py") (539 : Nat), .int 203 (0 : Nat), .int 3 (0 : Nat), .int 0 (0 : Nat), .int 0 (0 : Nat), .int 3 (0 : Nat), .ref (217 : Nat), .bool true, .int 181 (0 : Nat), .ref (218 : Nat), .none, .ref (219 : Nat), .ref (220 : Nat), .ref (221 : Nat), .int 543 (0 : Nat), .int 203 (0 : Nat), .str (Str.ofString "/claim/cut.py") (544 : Nat)], #[]⟩ : Obj)) ::
    (nat_lit 223, (x223 : Obj)) ::
    (nat_lit 224, (⟨.type "tuple", (none : Option Nat), .seq #[.none], #[]⟩ : Obj)) ::
    (nat_lit 230, (⟨.type "code", (none : Option Nat), .fields #[.str (Str.ofString "monthcalendar") (547 : Nat), .str (Str.ofString "monthcalendar") (548 : Nat), .str (Str.ofString "/claim/cut.py") (549 : Nat), .int 210 (0 : Nat), .int 3 (0 : Nat), .int 0 (0 : Nat), .int 0 (0 : Nat), .int 3 (0 : Nat), .ref (225 : Nat), .bool true, .int 181 (0 : Nat), .ref (226 : Nat), .none, .ref (227 : Nat), .ref (228 : Nat), .ref (229 : Nat), .int 555 (0 : Nat), .int 210 (0 : Nat), .str (Str.ofString "/claim/cut.py") (556 : Nat)], #[]⟩ : Obj)) ::
    (nat_lit 231, (x231 : Obj)) ::
    (nat_lit 237, (⟨.type "code", (none : Option Nat), .fields #[.str (Str.ofString "_law_long_moon_years") (561 : Nat), .str (Str.ofString "_law_long_moon_years") (562 : Nat), .str (Str.ofString "/claim/cut.py") (563 : Nat), .int 216 (0 : Nat), .int 0 (0 : Nat), .int 0 (0 : Nat), .int 0 (0 : Nat), .int 3 (0 : Nat), .ref (232 : Nat), .bool true, .int 181 (0 : Nat), .ref (233 : Nat), .none, .ref (234 : Nat), .ref (235 : Nat), .ref (236 : Nat), .int 564 (0 : Nat), .int 216 (0 : Nat), .str (Str.ofString "/claim/cut.py") (565 : Nat)], #[]⟩ : Obj)) ::
    (nat_lit 238, (x238 : Obj)) ::
    (nat_lit 244, (⟨.type "code", (none : Option Nat), .fields #[.str (Str.ofString "_law_january") (567 : Nat), .str (Str.ofString "_law_january") (568 : Nat), .str (Str.ofString "/claim/cut.py") (569 : Nat), .int 218 (0 : Nat), .int 1 (0 : Nat), .int 0 (0 : Nat), .int 0 (0 : Nat), .int 3 (0 : Nat), .ref (239 : Nat), .bool true, .int 181 (0 : Nat), .ref (240 : Nat), .none, .ref (241 : Nat), .ref (242 : Nat), .ref (243 : Nat), .int 573 (0 : Nat), .int 218 (0 : Nat), .str (Str.ofString "/claim/cut.py") (574 : Nat)], #[]⟩ : Obj)) ::
    (nat_lit 245, (x245 : Obj)) ::
    (nat_lit 249, (⟨.type "code", (none : Option Nat), .fields #[.str (Str.ofString "_law_year") (576 : Nat), .str (Str.ofString "_law_year") (577 : Nat), .str (Str.ofString "/claim/cut.py") (578 : Nat), .int 221 (0 : Nat), .int 2 (0 : Nat), .int 0 (0 : Nat), .int 0 (0 : Nat), .int 3 (0 : Nat), .ref (246 : Nat), .bool true, .int 181 (0 : Nat), .ref (247 : Nat), .none, .none, .none, .ref (248 : Nat), .int 579 (0 : Nat), .int 221 (0 : Nat), .str (Str.ofString "/claim/cut.py") (580 : Nat)], #[]⟩ : Obj)) ::
    (nat_lit 250, (x250 : Obj)) ::
    (nat_lit 256, (⟨.type "code", (none : Option Nat), .fields #[.str (Str.ofString "_law_length") (582 : Nat), .str (Str.ofString "_law_length") (583 : Nat), .str (Str.ofString "/claim/cut.py") (584 : Nat), .int 242 (0 : Nat), .int 3 (0 : Nat), .int 0 (0 : Nat), .int 0 (0 : Nat), .int 3 (0 : Nat), .ref (251 : Nat), .bool true, .int 181 (0 : Nat), .ref (252 : Nat), .none, .ref (253 : Nat), .ref (254 : Nat), .ref (255 : Nat), .int 588 (0 : Nat), .int 242 (0 : Nat), .str (Str.ofString "/claim/cut.py") (589 : Nat)], #[]⟩ : Obj)) ::
    (nat_lit 257, (x257 : Obj)) ::
    (nat_lit 263, (⟨.type "code", (none : Option Nat), .fields #[.str (Str.ofString "_law_leaf") (591 : Nat), .str (Str.ofString "_law_leaf") (592 : Nat), .str (Str.ofString "/claim/cut.py") (593 : Nat), .int 254 (0 : Nat), .int 3 (0 : Nat), .int 0 (0 : Nat), .int 0 (0 : Nat), .int 3 (0 : Nat), .ref (258 : Nat), .bool true, .int 181 (0 : Nat), .ref (259 : Nat), .none, .ref (260 : Nat), .ref (261 : Nat), .ref (262 : Nat), .int 597 (0 : Nat), .int 254 (0 : Nat), .str (Str.ofString "/claim/cut.py") (598 : Nat)], #[]⟩ : Obj)) ::
    (nat_lit 264, (x264 : Obj)) ::
    (nat_lit 270, (⟨.type "code", (none : Option Nat), .fields #[.str (Str.ofString "law") (600 : Nat), .str (Str.ofString "law") (601 : Nat), .str (Str.ofString "/claim/cut.py") (602 : Nat), .int 266 (0 : Nat), .int 1 (0 : Nat), .int 0 (0 : Nat), .int 0 (0 : Nat), .int 3 (0 : Nat), .ref (265 : Nat), .bool true, .int 181 (0 : Nat), .ref (266 : Nat), .none, .ref (267 : Nat), .ref (268 : Nat), .ref (269 : Nat), .int 614 (0 : Nat), .int 266 (0 : Nat), .str (Str.ofString "/claim/cut.py") (615 : Nat)], #[]⟩ : Obj)) ::
    (nat_lit 271, (x271 : Obj)) :: []

noncomputable def hd.view_39 : Program := { prog0 with main := { prog0.main with body := [1, 2, 3, 4, 5, 6, 8, 9, 10, 11, 12, 13, 15, 17, 19, 21, 23, 25, 27, 28, 29, 31, 33, 35, 36, 38, 40, 42, 44, 46, 47, 49, 51, 53, 55, 56, 58, 60, 62, 64, 65, 67, 68, 70, 72, 74, 76, 77, 78, 79, 80, 81].map (stAt prog0.main.body) } }

end Mine

namespace Mine
def fnAt9 (cls : Value) (g : Nat) (md code df : Value) : Stmt → Obj
  | .FunctionDef n a b _ _ _ sc _ _ _ => ⟨cls, none, .func ⟨n, n, a, .stmts b, sc, g, [], df, .none, .none, md, none, code, .none, 0⟩, #[]⟩
  | _ => default
noncomputable def o943 : Params → Obj := fun P => ⟨Value.type "tuple", none, Data.seq #[], #[]⟩
noncomputable def o944 : Params → Obj := fun P => ⟨Value.none, none, Data.fields #[], #[]⟩
noncomputable def o945 : Params → Obj := fun P => ⟨Value.type "code", none, Data.fields #[Value.str (Str.ofString "<module>") 182, Value.str (Str.ofString "<module>") 183, Value.str (Str.ofString "/claim/cut.py") 184, Value.int 1 0, Value.int 0 0, Value.int 0 0, Value.int 0 0, Value.int 0 0, Value.ref 11, Value.bool false, Value.int 181 0, Value.ref 12, Value.none, Value.none, Value.none, Value.none, Value.int 185 0, Value.int 1 0, Value.str (Str.ofString "/claim/cut.py") 186], #[]⟩
noncomputable def o946 : Params → Obj := fun P => ⟨Value.type "frame", none, Data.plain, #[some (Value.ref 13), some (Value.ref 3), some (Value.ref 3), none, some (Value.str (Str.ofString "__main__") 164),   none, some (Value.ref 0)]⟩
noncomputable def o949 : Params → Obj := fun P => ⟨Value.type "dict", none, Data.dict #[DictEntry.mk (PyData.keyHash P (Str.ofString "__name__")) (Value.str (Str.ofString "__name__") 165) (Value.str (Str.ofString "convertdate.gregorian") 243), DictEntry.mk (PyData.keyHash P (Str.ofString "__doc__")) (Value.str (Str.ofString "__doc__") 166) Value.none, DictEntry.mk (PyData.keyHash P (Str.ofString "__package__")) (Value.str (Str.ofString "__package__") 167) Value.none, DictEntry.mk (PyData.keyHash P (Str.ofString "__loader__")) (Value.str (Str.ofString "__loader__") 168) (Value.builtin "__main__.__loader__#opaque"), DictEntry.mk (PyData.keyHash P (Str.ofString "__spec__")) (Value.str (Str.ofString "__spec__") 169) Value.none, DictEntry.mk (PyData.keyHash P (Str.ofString "__annotations__")) (Value.str (Str.ofString "__annotations__") 170) (Value.ref 6), DictEntry.mk (PyData.keyHash P (Str.ofString "__builtins__")) (Value.str (Str.ofString "__builtins__") 171) (Value.ref 4), DictEntry.mk (PyData.keyHash P (Str.ofString "__file__")) (Value.str (Str.ofString "__file__") 173) (Value.str (Str.ofString "/claim/cut.py") 172), DictEntry.mk (PyData.keyHash P (Str.ofString "__cached__")) (Value.str (Str.ofString "__cached__") 174) Value.none, DictEntry.mk (PyData.keyHash P (Str.ofString "MONTH_DAYS")) (Value.str (Str.ofString "MONTH_DAYS") 202) (Value.ref 15), DictEntry.mk (PyData.keyHash P (Str.ofString "isleap")) (Value.str (Str.ofString "isleap") 209) (Value.ref 22), DictEntry.mk (PyData.keyHash P (Str.ofString "monthrange")) (Value.str (Str.ofString "monthrange") 220) (Value.ref 29), DictEntry.mk (PyData.keyHash P (Str.ofString "trunc")) (Value.str (Str.ofString "trunc") 229) (Value.ref 36), DictEntry.mk (PyData.keyHash P (Str.ofString "jwday")) (Value.str (Str.ofString "jwday") 236) (Value.ref 43), DictEntry.mk (PyData.keyHash P (Str.ofString "monthcalendarhelper")) (Value.str (Str.ofString "monthcalendarhelper") 242) (Value.ref 48), DictEntry.mk (PyData.keyHash P (Str.ofString "EPOCH_gregorian")) (Value.str (Str.ofString "EPOCH_gregorian") 246) (Value.int 1721426 245), DictEntry.mk (PyData.keyHash P (Str.ofString "INTERCALATION_CYCLE_YEARS")) (Value.str (Str.ofString "INTERCALATION_CYCLE_YEARS") 248) (Value.int 400 247), DictEntry.mk (PyData.keyHash P (Str.ofString "LEAP_SUPPRESSION_YEARS")) (Value.str (Str.ofString "LEAP_SUPPRESSION_YEARS") 250) (Value.int 100 249), DictEntry.mk (PyData.keyHash P (Str.ofString "LEAP_CYCLE_YEARS")) (Value.str (Str.ofString "LEAP_CYCLE_YEARS") 252) (Value.int 4 251), DictEntry.mk (PyData.keyHash P (Str.ofString "YEAR_DAYS")) (Value.str (Str.ofString "YEAR_DAYS") 254) (Value.int 365 253), DictEntry.mk (PyData.keyHash P (Str.ofString "HAVE_30_DAYS_gregorian")) (Value.str (Str.ofString "HAVE_30_DAYS_gregorian") 259) (Value.ref 49), DictEntry.mk (PyData.keyHash P (Str.ofString "legal_date")) (Value.str (Str.ofString "legal_date") 269) (Value.ref 56), DictEntry.mk (PyData.keyHash P (Str.ofString "legal_date_gregorian")) (Value.str (Str.ofString "legal_date_gregorian") 270) (Value.ref 56), DictEntry.mk (PyData.keyHash P (Str.ofString "to_jd")) (Value.str (Str.ofString "to_jd") 280) (Value.ref 63), DictEntry.mk (PyData.keyHash P (Str.ofString "to_jd_gregorian")) (Value.str (Str.ofString "to_jd_gregorian") 281) (Value.ref 63), DictEntry.mk (PyData.keyHash P (Str.ofString "month_length")) (Value.str (Str.ofString "month_length") 289) (Value.ref 70), DictEntry.mk (PyData.keyHash P (Str.ofString "month_length_gregorian")) (Value.str (Str.ofString "month_length_gregorian") 290) (Value.ref 70)] 27, #[]⟩
noncomputable def o950 : Params → Obj := fun P => ⟨Value.none, none, Data.fields #[Value.int 3 0, Value.int 0 0, Value.ref 21, Value.int 5 0, Value.int 0 0, Value.ref 28, Value.int 15 0, Value.int 0 0, Value.ref 35, Value.int 18 0, Value.int 0 0, Value.ref 42, Value.int 20 0, Value.int 0 0, Value.ref 47, Value.int 31 0, Value.int 0 0, Value.ref 55, Value.int 40 0, Value.int 0 0, Value.ref 62, Value.int 50 0, Value.int 0 0, Value.ref 69], #[]⟩
noncomputable def o951 : Params → Obj := fun P => ⟨Value.type "tuple", none, Data.seq #[Value.int 0 189, Value.int 31 190, Value.int 28 191, Value.int 31 192, Value.int 30 193, Value.int 31 194, Value.int 30 195, Value.int 31 196, Value.int 31 197, Value.int 30 198, Value.int 31 199, Value.int 30 200, Value.int 31 201], #[]⟩
noncomputable def o952 : Params → Obj := fun P => ⟨Value.type "tuple", none, Data.seq #[], #[]⟩
noncomputable def o953 : Params → Obj := fun P => ⟨Value.none, none, Data.fields #[], #[]⟩
noncomputable def o954 : Params → Obj := fun P => ⟨Value.type "tuple", none, Data.seq #[Value.str (Str.ofString "year") 206], #[]⟩
noncomputable def o955 : Params → Obj := fun P => ⟨Value.type "tuple", none, Data.seq #[], #[]⟩
noncomputable def o956 : Params → Obj := fun _ => fnAt9 (Value.none) 0 (Value.none) (Value.none) (Value.none) (stAt prog0.main.body 2)
noncomputable def o957 : Params → Obj := fun P => ⟨Value.type "code", none, Data.fields #[Value.str (Str.ofString "isleap") 203, Value.str (Str.ofString "isleap") 204, Value.str (Str.ofString "/claim/cut.py") 205, Value.int 3 0, Value.int 1 0, Value.int 0 0, Value.int 0 0, Value.int 3 0, Value.ref 16, Value.bool true, Value.int 181 0, Value.ref 17, Value.none, Value.ref 18, Value.ref 19, Value.ref 20, Value.int 207 0, Value.int 3 0, Value.str (Str.ofString "/claim/cut.py") 208], #[]⟩
noncomputable def o958 : Params → Obj := fun _ => fnAt9 (Value.type "function") 3 (Value.str (Str.ofString "convertdate.utils") 187) (Value.ref 21) (Value.none) (stAt prog0.main.body 2)
noncomputable def o959 : Params → Obj := fun P => ⟨Value.type "tuple", none, Data.seq #[], #[]⟩
noncomputable def o960 : Params → Obj := fun P => ⟨Value.none, none, Data.fields #[], #[]⟩
noncomputable def o961 : Params → Obj := fun P => ⟨Value.type "tuple", none, Data.seq #[Value.str (Str.ofString "year") 213, Value.str (Str.ofString "month") 214, Value.str (Str.ofString "past") 215, Value.str (Str.ofString "first") 216, Value.str (Str.ofString "days") 217], #[]⟩
noncomputable def o962 : Params → Obj := fun P => ⟨Value.type "tuple", none, Data.seq #[], #[]⟩
noncomputable def o963 : Params → Obj := fun _ => fnAt9 (Value.none) 0 (Value.none) (Value.none) (Value.none) (stAt prog0.main.body 3)
noncomputable def o964 : Params → Obj := fun P => ⟨Value.type "code", none, Data.fields #[Value.str (Str.ofString "monthrange") 210, Value.str (Str.ofString "monthrange") 211, Value.str (Str.ofString "/claim/cut.py") 212, Value.int 5 0, Value.int 2 0, Value.int 0 0, Value.int 0 0, Value.int 3 0, Value.ref 23, Value.bool true, Value.int 181 0, Value.ref 24, Value.none, Value.ref 25, Value.ref 26, Value.ref 27, Value.int 218 0, Value.int 5 0, Value.str (Str.ofString "/claim/cut.py") 219], #[]⟩
noncomputable def o965 : Params → Obj := fun _ => fnAt9 (Value.type "function") 3 (Value.str (Str.ofString "convertdate.utils") 187) (Value.ref 28) (Value.none) (stAt prog0.main.body 3)
noncomputable def o966 : Params → Obj := fun P => ⟨Value.type "tuple", none, Data.seq #[], #[]⟩
noncomputable def o967 : Params → Obj := fun P => ⟨Value.none, none, Data.fields #[], #[]⟩
noncomputable def o968 : Params → Obj := fun P => ⟨Value.type "tuple", none, Data.seq #[Value.str (Str.ofString "a") 224, Value.str (Str.ofString "b") 225, Value.str (Str.ofString "share") 226], #[]⟩
noncomputable def o969 : Params → Obj := fun P => ⟨Value.type "tuple", none, Data.seq #[], #[]⟩
noncomputable def o970 : Params → Obj := fun _ => fnAt9 (Value.none) 0 (Value.none) (Value.none) (Value.none) (stAt prog0.main.body 4)
noncomputable def o971 : Params → Obj := fun P => ⟨Value.type "code", none, Data.fields #[Value.str (Str.ofString "trunc") 221, Value.str (Str.ofString "trunc") 222, Value.str (Str.ofString "/claim/cut.py") 223, Value.int 15 0, Value.int 2 0, Value.int 0 0, Value.int 0 0, Value.int 3 0, Value.ref 30, Value.bool true, Value.int 181 0, Value.ref 31, Value.none, Value.ref 32, Value.ref 33, Value.ref 34, Value.int 227 0, Value.int 15 0, Value.str (Str.ofString "/claim/cut.py") 228], #[]⟩
noncomputable def o972 : Params → Obj := fun _ => fnAt9 (Value.type "function") 3 (Value.str (Str.ofString "convertdate.utils") 187) (Value.ref 35) (Value.none) (stAt prog0.main.body 4)
noncomputable def o973 : Params → Obj := fun P => ⟨Value.type "tuple", none, Data.seq #[], #[]⟩
noncomputable def o974 : Params → Obj := fun P => ⟨Value.none, none, Data.fields #[], #[]⟩
noncomputable def o975 : Params → Obj := fun P => ⟨Value.type "tuple", none, Data.seq #[Value.str (Str.ofString "j") 233], #[]⟩
noncomputable def o976 : Params → Obj := fun P => ⟨Value.type "tuple", none, Data.seq #[], #[]⟩
noncomputable def o977 : Params → Obj := fun _ => fnAt9 (Value.none) 0 (Value.none) (Value.none) (Value.none) (stAt prog0.main.body 5)
noncomputable def o978 : Params → Obj := fun P => ⟨Value.type "code", none, Data.fields #[Value.str (Str.ofString "jwday") 230, Value.str (Str.ofString "jwday") 231, Value.str (Str.ofString "/claim/cut.py") 232, Value.int 18 0, Value.int 1 0, Value.int 0 0, Value.int 0 0, Value.int 3 0, Value.ref 37, Value.bool true, Value.int 181 0, Value.ref 38, Value.none, Value.ref 39, Value.ref 40, Value.ref 41, Value.int 234 0, Value.int 18 0, Value.str (Str.ofString "/claim/cut.py") 235], #[]⟩
noncomputable def o979 : Params → Obj := fun _ => fnAt9 (Value.type "function") 3 (Value.str (Str.ofString "convertdate.utils") 187) (Value.ref 42) (Value.none) (stAt prog0.main.body 5)
noncomputable def o980 : Params → Obj := fun P => ⟨Value.type "tuple", none, Data.seq #[], #[]⟩
noncomputable def o981 : Params → Obj := fun P => ⟨Value.none, none, Data.fields #[], #[]⟩
noncomputable def o982 : Params → Obj := fun _ => fnAt9 (Value.none) 0 (Value.none) (Value.none) (Value.none) (stAt prog0.main.body 6)
noncomputable def o983 : Params → Obj := fun P => ⟨Value.type "code", none, Data.fields #[Value.str (Str.ofString "monthcalendarhelper") 237, Value.str (Str.ofString "monthcalendarhelper") 238, Value.str (Str.ofString "/claim/cut.py") 239, Value.int 20 0, Value.int 2 0, Value.int 0 0, Value.int 0 0, Value.int 3 0, Value.ref 44, Value.bool true, Value.int 181 0, Value.ref 45, Value.none, Value.none, Value.none, Value.ref 46, Value.int 240 0, Value.int 20 0, Value.str (Str.ofString "/claim/cut.py") 241], #[]⟩
noncomputable def o984 : Params → Obj := fun _ => fnAt9 (Value.type "function") 3 (Value.str (Str.ofString "convertdate.utils") 187) (Value.ref 47) (Value.none) (stAt prog0.main.body 6)
noncomputable def o985 : Params → Obj := fun P => ⟨Value.type "tuple", none, Data.seq #[Value.int 4 255, Value.int 6 256, Value.int 9 257, Value.int 11 258], #[]⟩
noncomputable def o986 : Params → Obj := fun P => ⟨Value.type "tuple", none, Data.seq #[], #[]⟩
noncomputable def o987 : Params → Obj := fun P => ⟨Value.none, none, Data.fields #[], #[]⟩
noncomputable def o988 : Params → Obj := fun P => ⟨Value.type "tuple", none, Data.seq #[Value.str (Str.ofString "year") 263, Value.str (Str.ofString "month") 264, Value.str (Str.ofString "day") 265, Value.str (Str.ofString "daysinmonth") 266], #[]⟩
noncomputable def o989 : Params → Obj := fun P => ⟨Value.type "tuple", none, Data.seq #[], #[]⟩
noncomputable def o990 : Params → Obj := fun _ => fnAt9 (Value.none) 0 (Value.none) (Value.none) (Value.none) (stAt prog0.main.body 14)
noncomputable def o991 : Params → Obj := fun P => ⟨Value.type "code", none, Data.fields #[Value.str (Str.ofString "legal_date") 260, Value.str (Str.ofString "legal_date") 261, Value.str (Str.ofString "/claim/cut.py") 262, Value.int 31 0, Value.int 3 0, Value.int 0 0, Value.int 0 0, Value.int 3 0, Value.ref 50, Value.bool true, Value.int 181 0, Value.ref 51, Value.none, Value.ref 52, Value.ref 53, Value.ref 54, Value.int 267 0, Value.int 31 0, Value.str (Str.ofString "/claim/cut.py") 268], #[]⟩
noncomputable def o992 : Params → Obj := fun _ => fnAt9 (Value.type "function") 3 (Value.str (Str.ofString "convertdate.gregorian") 243) (Value.ref 55) (Value.none) (stAt prog0.main.body 14)
noncomputable def o993 : Params → Obj := fun P => ⟨Value.type "tuple", none, Data.seq #[], #[]⟩
noncomputable def o994 : Params → Obj := fun P => ⟨Value.none, none, Data.fields #[], #[]⟩
noncomputable def o995 : Params → Obj := fun P => ⟨Value.type "tuple", none, Data.seq #[Value.str (Str.ofString "year") 274, Value.str (Str.ofString "month") 275, Value.str (Str.ofString "day") 276, Value.str (Str.ofString "leap_adj") 277], #[]⟩
noncomputable def o996 : Params → Obj := fun P => ⟨Value.type "tuple", none, Data.seq #[], #[]⟩
noncomputable def o997 : Params → Obj := fun _ => fnAt9 (Value.none) 0 (Value.none) (Value.none) (Value.none) (stAt prog0.main.body 16)
noncomputable def o998 : Params → Obj := fun P => ⟨Value.type "code", none, Data.fields #[Value.str (Str.ofString "to_jd") 271, Value.str (Str.ofString "to_jd") 272, Value.str (Str.ofString "/claim/cut.py") 273, Value.int 40 0, Value.int 3 0, Value.int 0 0, Value.int 0 0, Value.int 3 0, Value.ref 57, Value.bool true, Value.int 181 0, Value.ref 58, Value.none, Value.ref 59, Value.ref 60, Value.ref 61, Value.int 278 0, Value.int 40 0, Value.str (Str.ofString "/claim/cut.py") 279], #[]⟩
noncomputable def o999 : Params → Obj := fun _ => fnAt9 (Value.type "function") 3 (Value.str (Str.ofString "convertdate.gregorian") 243) (Value.ref 62) (Value.none) (stAt prog0.main.body 16)
noncomputable def o9100 : Params → Obj := fun P => ⟨Value.type "tuple", none, Data.seq #[], #[]⟩
noncomputable def o9101 : Params → Obj := fun P => ⟨Value.none, none, Data.fields #[], #[]⟩
noncomputable def o9102 : Params → Obj := fun P => ⟨Value.type "tuple", none, Data.seq #[Value.str (Str.ofString "year") 285, Value.str (Str.ofString "month") 286], #[]⟩
noncomputable def o9103 : Params → Obj := fun P => ⟨Value.type "tuple", none, Data.seq #[], #[]⟩
noncomputable def o9104 : Params → Obj := fun _ => fnAt9 (Value.none) 0 (Value.none) (Value.none) (Value.none) (stAt prog0.main.body 18)
noncomputable def o9105 : Params → Obj := fun P => ⟨Value.type "code", none, Data.fields #[Value.str (Str.ofString "month_length") 282, Value.str (Str.ofString "month_length") 283, Value.str (Str.ofString "/claim/cut.py") 284, Value.int 50 0, Value.int 2 0, Value.int 0 0, Value.int 0 0, Value.int 3 0, Value.ref 64, Value.bool true, Value.int 181 0, Value.ref 65, Value.none, Value.ref 66, Value.ref 67, Value.ref 68, Value.int 287 0, Value.int 50 0, Value.str (Str.ofString "/claim/cut.py") 288], #[]⟩
noncomputable def o9106 : Params → Obj := fun _ => fnAt9 (Value.type "function") 3 (Value.str (Str.ofString "convertdate.gregorian") 243) (Value.ref 69) (Value.none) (stAt prog0.main.body 18)
noncomputable def o9107 : Params → Obj := fun P => ⟨Value.type "dict", none, Data.dict #[DictEntry.mk (PyData.keyHash P (Str.ofString "__name__")) (Value.str (Str.ofString "__name__") 165) (Value.str (Str.ofString "convertdate.islamic") 359), DictEntry.mk (PyData.keyHash P (Str.ofString "__doc__")) (Value.str (Str.ofString "__doc__") 166) Value.none, DictEntry.mk (PyData.keyHash P (Str.ofString "__package__")) (Value.str (Str.ofString "__package__") 167) Value.none, DictEntry.mk (PyData.keyHash P (Str.ofString "__loader__")) (Value.str (Str.ofString "__loader__") 168) (Value.builtin "__main__.__loader__#opaque"), DictEntry.mk (PyData.keyHash P (Str.ofString "__spec__")) (Value.str (Str.ofString "__spec__") 169) Value.none, DictEntry.mk (PyData.keyHash P (Str.ofString "__annotations__")) (Value.str (Str.ofString "__annotations__") 170) (Value.ref 6), DictEntry.mk (PyData.keyHash P (Str.ofString "__builtins__")) (Value.str (Str.ofString "__builtins__") 171) (Value.ref 4), DictEntry.mk (PyData.keyHash P (Str.ofString "__file__")) (Value.str (Str.ofString "__file__") 173) (Value.str (Str.ofString "/claim/cut.py") 172), DictEntry.mk (PyData.keyHash P (Str.ofString "__cached__")) (Value.str (Str.ofString "__cached__") 174) Value.none, DictEntry.mk (PyData.keyHash P (Str.ofString "MONTH_DAYS")) (Value.str (Str.ofString "MONTH_DAYS") 202) (Value.ref 15), DictEntry.mk (PyData.keyHash P (Str.ofString "isleap")) (Value.str (Str.ofString "isleap") 209) (Value.ref 22), DictEntry.mk (PyData.keyHash P (Str.ofString "monthrange")) (Value.str (Str.ofString "monthrange") 220) (Value.ref 29), DictEntry.mk (PyData.keyHash P (Str.ofString "trunc")) (Value.str (Str.ofString "trunc") 229) (Value.ref 36), DictEntry.mk (PyData.keyHash P (Str.ofString "jwday")) (Value.str (Str.ofString "jwday") 236) (Value.ref 43), DictEntry.mk (PyData.keyHash P (Str.ofString "monthcalendarhelper")) (Value.str (Str.ofString "monthcalendarhelper") 242) (Value.ref 48), DictEntry.mk (PyData.keyHash P (Str.ofString "EPOCH_gregorian")) (Value.str (Str.ofString "EPOCH_gregorian") 246) (Value.int 1721426 245), DictEntry.mk (PyData.keyHash P (Str.ofString "INTERCALATION_CYCLE_YEARS")) (Value.str (Str.ofString "INTERCALATION_CYCLE_YEARS") 248) (Value.int 400 247), DictEntry.mk (PyData.keyHash P (Str.ofString "LEAP_SUPPRESSION_YEARS")) (Value.str (Str.ofString "LEAP_SUPPRESSION_YEARS") 250) (Value.int 100 249), DictEntry.mk (PyData.keyHash P (Str.ofString "LEAP_CYCLE_YEARS")) (Value.str (Str.ofString "LEAP_CYCLE_YEARS") 252) (Value.int 4 251), DictEntry.mk (PyData.keyHash P (Str.ofString "YEAR_DAYS")) (Value.str (Str.ofString "YEAR_DAYS") 254) (Value.int 365 253), DictEntry.mk (PyData.keyHash P (Str.ofString "HAVE_30_DAYS_gregorian")) (Value.str (Str.ofString "HAVE_30_DAYS_gregorian") 259) (Value.ref 49), DictEntry.mk (PyData.keyHash P (Str.ofString "legal_date")) (Value.str (Str.ofString "legal_date") 269) (Value.ref 99), DictEntry.mk (PyData.keyHash P (Str.ofString "legal_date_gregorian")) (Value.str (Str.ofString "legal_date_gregorian") 270) (Value.ref 56), DictEntry.mk (PyData.keyHash P (Str.ofString "to_jd")) (Value.str (Str.ofString "to_jd") 280) (Value.ref 128), DictEntry.mk (PyData.keyHash P (Str.ofString "to_jd_gregorian")) (Value.str (Str.ofString "to_jd_gregorian") 281) (Value.ref 63), DictEntry.mk (PyData.keyHash P (Str.ofString "month_length")) (Value.str (Str.ofString "month_length") 289) (Value.ref 92), DictEntry.mk (PyData.keyHash P (Str.ofString "month_length_gregorian")) (Value.str (Str.ofString "month_length_gregorian") 290) (Value.ref 70), DictEntry.mk (PyData.keyHash P (Str.ofString "monthcalendar")) (Value.str (Str.ofString "monthcalendar") 300) (Value.ref 113), DictEntry.mk (PyData.keyHash P (Str.ofString "monthcalendar_gregorian")) (Value.str (Str.ofString "monthcalendar_gregorian") 301) (Value.ref 77), DictEntry.mk (PyData.keyHash P (Str.ofString "HAVE_30_DAYS_julian")) (Value.str (Str.ofString "HAVE_30_DAYS_julian") 308) (Value.ref 78), DictEntry.mk (PyData.keyHash P (Str.ofString "leap")) (Value.str (Str.ofString "leap") 315) (Value.ref 121), DictEntry.mk (PyData.keyHash P (Str.ofString "leap_julian")) (Value.str (Str.ofString "leap_julian") 316) (Value.ref 85), DictEntry.mk (PyData.keyHash P (Str.ofString "month_length_julian")) (Value.str (Str.ofString "month_length_julian") 326) (Value.ref 92), DictEntry.mk (PyData.keyHash P (Str.ofString "legal_date_julian")) (Value.str (Str.ofString "legal_date_julian") 337) (Value.ref 99), DictEntry.mk (PyData.keyHash P (Str.ofString "to_jd_julian")) (Value.str (Str.ofString "to_jd_julian") 347) (Value.ref 106), DictEntry.mk (PyData.keyHash P (Str.ofString "monthcalendar_julian")) (Value.str (Str.ofString "monthcalendar_julian") 358) (Value.ref 113), DictEntry.mk (PyData.keyHash P (Str.ofString "EPOCH_islamic")) (Value.str (Str.ofString "EPOCH_islamic") 362) (Value.int 1948440 361), DictEntry.mk (PyData.keyHash P (Str.ofString "HAS_30_DAYS")) (Value.str (Str.ofString "HAS_30_DAYS") 369) (Value.ref 114), DictEntry.mk (PyData.keyHash P (Str.ofString "leap_islamic")) (Value.str (Str.ofString "leap_islamic") 377) (Value.ref 121), DictEntry.mk (PyData.keyHash P (Str.ofString "to_jd_islamic")) (Value.str (Str.ofString "to_jd_islamic") 387) (Value.ref 128)] 40, #[]⟩
noncomputable def o9108 : Params → Obj := fun P => ⟨Value.none, none, Data.fields #[Value.int 3 0, Value.int 0 0, Value.ref 21, Value.int 5 0, Value.int 0 0, Value.ref 28, Value.int 15 0, Value.int 0 0, Value.ref 35, Value.int 18 0, Value.int 0 0, Value.ref 42, Value.int 20 0, Value.int 0 0, Value.ref 47, Value.int 31 0, Value.int 0 0, Value.ref 55, Value.int 40 0, Value.int 0 0, Value.ref 62, Value.int 50 0, Value.int 0 0, Value.ref 69, Value.int 53 0, Value.int 0 0, Value.ref 76, Value.int 60 0, Value.int 0 0, Value.ref 84, Value.int 63 0, Value.int 0 0, Value.ref 91, Value.int 70 0, Value.int 0 0, Value.ref 98, Value.int 76 0, Value.int 0 0, Value.ref 105, Value.int 83 0, Value.int 0 0, Value.ref 112, Value.int 91 0, Value.int 0 0, Value.ref 120, Value.int 94 0, Value.int 0 0, Value.ref 127], #[]⟩
noncomputable def o9109 : Params → Obj := fun P => ⟨Value.type "tuple", none, Data.seq #[], #[]⟩
noncomputable def o9110 : Params → Obj := fun P => ⟨Value.none, none, Data.fields #[], #[]⟩
noncomputable def o9111 : Params → Obj := fun P => ⟨Value.type "tuple", none, Data.seq #[Value.str (Str.ofString "year") 294, Value.str (Str.ofString "month") 295, Value.str (Str.ofString "start_weekday") 296, Value.str (Str.ofString "monthlen") 297], #[]⟩
noncomputable def o9112 : Params → Obj := fun P => ⟨Value.type "tuple", none, Data.seq #[], #[]⟩
noncomputable def o9113 : Params → Obj := fun _ => fnAt9 (Value.none) 0 (Value.none) (Value.none) (Value.none) (stAt prog0.main.body 20)
noncomputable def o9114 : Params → Obj := fun P => ⟨Value.type "code", none, Data.fields #[Value.str (Str.ofString "monthcalendar") 291, Value.str (Str.ofString "monthcalendar") 292, Value.str (Str.ofString "/claim/cut.py") 293, Value.int 53 0, Value.int 2 0, Value.int 0 0, Value.int 0 0, Value.int 3 0, Value.ref 71, Value.bool true, Value.int 181 0, Value.ref 72, Value.none, Value.ref 73, Value.ref 74, Value.ref 75, Value.int 298 0, Value.int 53 0, Value.str (Str.ofString "/claim/cut.py") 299], #[]⟩
noncomputable def o9115 : Params → Obj := fun _ => fnAt9 (Value.type "function") 3 (Value.str (Str.ofString "convertdate.gregorian") 243) (Value.ref 76) (Value.none) (stAt prog0.main.body 20)
noncomputable def o9116 : Params → Obj := fun P => ⟨Value.type "tuple", none, Data.seq #[Value.int 4 304, Value.int 6 305, Value.int 9 306, Value.int 11 307], #[]⟩
noncomputable def o9117 : Params → Obj := fun P => ⟨Value.type "tuple", none, Data.seq #[], #[]⟩
noncomputable def o9118 : Params → Obj := fun P => ⟨Value.none, none, Data.fields #[], #[]⟩
noncomputable def o9119 : Params → Obj := fun P => ⟨Value.type "tuple", none, Data.seq #[Value.str (Str.ofString "year") 312], #[]⟩
noncomputable def o9120 : Params → Obj := fun P => ⟨Value.type "tuple", none, Data.seq #[], #[]⟩
noncomputable def o9121 : Params → Obj := fun _ => fnAt9 (Value.none) 0 (Value.none) (Value.none) (Value.none) (stAt prog0.main.body 24)
noncomputable def o9122 : Params → Obj := fun P => ⟨Value.type "code", none, Data.fields #[Value.str (Str.ofString "leap") 309, Value.str (Str.ofString "leap") 310, Value.str (Str.ofString "/claim/cut.py") 311, Value.int 60 0, Value.int 1 0, Value.int 0 0, Value.int 0 0, Value.int 3 0, Value.ref 79, Value.bool true, Value.int 181 0, Value.ref 80, Value.none, Value.ref 81, Value.ref 82, Value.ref 83, Value.int 313 0, Value.int 60 0, Value.str (Str.ofString "/claim/cut.py") 314], #[]⟩
noncomputable def o9123 : Params → Obj := fun _ => fnAt9 (Value.type "function") 3 (Value.str (Str.ofString "convertdate.julian") 302) (Value.ref 84) (Value.none) (stAt prog0.main.body 24)
noncomputable def o9124 : Params → Obj := fun P => ⟨Value.type "tuple", none, Data.seq #[], #[]⟩
noncomputable def o9125 : Params → Obj := fun P => ⟨Value.none, none, Data.fields #[], #[]⟩
noncomputable def o9126 : Params → Obj := fun P => ⟨Value.type "tuple", none, Data.seq #[Value.str (Str.ofString "year") 320, Value.str (Str.ofString "month") 321, Value.str (Str.ofString "daysinmonth") 322], #[]⟩
noncomputable def o9127 : Params → Obj := fun P => ⟨Value.type "tuple", none, Data.seq #[], #[]⟩
noncomputable def o9128 : Params → Obj := fun _ => fnAt9 (Value.none) 0 (Value.none) (Value.none) (Value.none) (stAt prog0.main.body 26)
noncomputable def o9129 : Params → Obj := fun P => ⟨Value.type "code", none, Data.fields #[Value.str (Str.ofString "month_length") 317, Value.str (Str.ofString "month_length") 318, Value.str (Str.ofString "/claim/cut.py") 319, Value.int 63 0, Value.int 2 0, Value.int 0 0, Value.int 0 0, Value.int 3 0, Value.ref 86, Value.bool true, Value.int 181 0, Value.ref 87, Value.none, Value.ref 88, Value.ref 89, Value.ref 90, Value.int 323 0, Value.int 63 0, Value.str (Str.ofString "/claim/cut.py") 324], #[]⟩
noncomputable def o9130 : Params → Obj := fun _ => fnAt9 (Value.type "function") 3 (Value.str (Str.ofString "convertdate.julian") 302) (Value.ref 91) (Value.none) (stAt prog0.main.body 26)
noncomputable def o9131 : Params → Obj := fun P => ⟨Value.type "tuple", none, Data.seq #[], #[]⟩
noncomputable def o9132 : Params → Obj := fun P => ⟨Value.none, none, Data.fields #[], #[]⟩
noncomputable def o9133 : Params → Obj := fun P => ⟨Value.type "tuple", none, Data.seq #[Value.str (Str.ofString "year") 330, Value.str (Str.ofString "month") 331, Value.str (Str.ofString "day") 332, Value.str (Str.ofString "daysinmonth") 333], #[]⟩
noncomputable def o9134 : Params → Obj := fun P => ⟨Value.type "tuple", none, Data.seq #[], #[]⟩
noncomputable def o9135 : Params → Obj := fun _ => fnAt9 (Value.none) 0 (Value.none) (Value.none) (Value.none) (stAt prog0.main.body 28)
noncomputable def o9136 : Params → Obj := fun P => ⟨Value.type "code", none, Data.fields #[Value.str (Str.ofString "legal_date") 327, Value.str (Str.ofString "legal_date") 328, Value.str (Str.ofString "/claim/cut.py") 329, Value.int 70 0, Value.int 3 0, Value.int 0 0, Value.int 0 0, Value.int 3 0, Value.ref 93, Value.bool true, Value.int 181 0, Value.ref 94, Value.none, Value.ref 95, Value.ref 96, Value.ref 97, Value.int 334 0, Value.int 70 0, Value.str (Str.ofString "/claim/cut.py") 335], #[]⟩
noncomputable def o9137 : Params → Obj := fun _ => fnAt9 (Value.type "function") 3 (Value.str (Str.ofString "convertdate.julian") 302) (Value.ref 98) (Value.none) (stAt prog0.main.body 28)
noncomputable def o9138 : Params → Obj := fun P => ⟨Value.type "tuple", none, Data.seq #[], #[]⟩
noncomputable def o9139 : Params → Obj := fun P => ⟨Value.none, none, Data.fields #[], #[]⟩
noncomputable def o9140 : Params → Obj := fun P => ⟨Value.type "tuple", none, Data.seq #[Value.str (Str.ofString "year") 341, Value.str (Str.ofString "month") 342, Value.str (Str.ofString "day") 343], #[]⟩
noncomputable def o9141 : Params → Obj := fun P => ⟨Value.type "tuple", none, Data.seq #[], #[]⟩
noncomputable def o9142 : Params → Obj := fun _ => fnAt9 (Value.none) 0 (Value.none) (Value.none) (Value.none) (stAt prog0.main.body 30)
noncomputable def o9143 : Params → Obj := fun P => ⟨Value.type "code", none, Data.fields #[Value.str (Str.ofString "to_jd") 338, Value.str (Str.ofString "to_jd") 339, Value.str (Str.ofString "/claim/cut.py") 340, Value.int 76 0, Value.int 3 0, Value.int 0 0, Value.int 0 0, Value.int 3 0, Value.ref 100, Value.bool true, Value.int 181 0, Value.ref 101, Value.none, Value.ref 102, Value.ref 103, Value.ref 104, Value.int 344 0, Value.int 76 0, Value.str (Str.ofString "/claim/cut.py") 345], #[]⟩
noncomputable def o9144 : Params → Obj := fun _ => fnAt9 (Value.type "function") 3 (Value.str (Str.ofString "convertdate.julian") 302) (Value.ref 105) (Value.none) (stAt prog0.main.body 30)
noncomputable def o9145 : Params → Obj := fun P => ⟨Value.type "tuple", none, Data.seq #[], #[]⟩
noncomputable def o9146 : Params → Obj := fun P => ⟨Value.none, none, Data.fields #[], #[]⟩
noncomputable def o9147 : Params → Obj := fun P => ⟨Value.type "tuple", none, Data.seq #[Value.str (Str.ofString "year") 351, Value.str (Str.ofString "month") 352, Value.str (Str.ofString "start_weekday") 353, Value.str (Str.ofString "monthlen") 354], #[]⟩
noncomputable def o9148 : Params → Obj := fun P => ⟨Value.type "tuple", none, Data.seq #[], #[]⟩
noncomputable def o9149 : Params → Obj := fun _ => fnAt9 (Value.none) 0 (Value.none) (Value.none) (Value.none) (stAt prog0.main.body 32)
noncomputable def o9150 : Params → Obj := fun P => ⟨Value.type "code", none, Data.fields #[Value.str (Str.ofString "monthcalendar") 348, Value.str (Str.ofString "monthcalendar") 349, Value.str (Str.ofString "/claim/cut.py") 350, Value.int 83 0, Value.int 2 0, Value.int 0 0, Value.int 0 0, Value.int 3 0, Value.ref 107, Value.bool true, Value.int 181 0, Value.ref 108, Value.none, Value.ref 109, Value.ref 110, Value.ref 111, Value.int 355 0, Value.int 83 0, Value.str (Str.ofString "/claim/cut.py") 356], #[]⟩
noncomputable def o9151 : Params → Obj := fun _ => fnAt9 (Value.type "function") 3 (Value.str (Str.ofString "convertdate.julian") 302) (Value.ref 112) (Value.none) (stAt prog0.main.body 32)
noncomputable def o9152 : Params → Obj := fun P => ⟨Value.type "tuple", none, Data.seq #[Value.int 1 363, Value.int 3 364, Value.int 5 365, Value.int 7 366, Value.int 9 367, Value.int 11 368], #[]⟩
noncomputable def o9153 : Params → Obj := fun P => ⟨Value.type "tuple", none, Data.seq #[], #[]⟩
noncomputable def o9154 : Params → Obj := fun P => ⟨Value.none, none, Data.fields #[], #[]⟩
noncomputable def o9155 : Params → Obj := fun P => ⟨Value.type "tuple", none, Data.seq #[Value.str (Str.ofString "year") 373], #[]⟩
noncomputable def o9156 : Params → Obj := fun P => ⟨Value.type "tuple", none, Data.seq #[], #[]⟩
noncomputable def o9157 : Params → Obj := fun _ => fnAt9 (Value.none) 0 (Value.none) (Value.none) (Value.none) (stAt prog0.main.body 37)
noncomputable def o9158 : Params → Obj := fun P => ⟨Value.type "code", none, Data.fields #[Value.str (Str.ofString "leap") 370, Value.str (Str.ofString "leap") 371, Value.str (Str.ofString "/claim/cut.py") 372, Value.int 91 0, Value.int 1 0, Value.int 0 0, Value.int 0 0, Value.int 3 0, Value.ref 115, Value.bool true, Value.int 181 0, Value.ref 116, Value.none, Value.ref 117, Value.ref 118, Value.ref 119, Value.int 374 0, Value.int 91 0, Value.str (Str.ofString "/claim/cut.py") 375], #[]⟩
noncomputable def o9159 : Params → Obj := fun _ => fnAt9 (Value.type "function") 3 (Value.str (Str.ofString "convertdate.islamic") 359) (Value.ref 120) (Value.none) (stAt prog0.main.body 37)
noncomputable def o9160 : Params → Obj := fun P => ⟨Value.type "tuple", none, Data.seq #[], #[]⟩
noncomputable def o9161 : Params → Obj := fun P => ⟨Value.none, none, Data.fields #[], #[]⟩
noncomputable def o9162 : Params → Obj := fun P => ⟨Value.type "tuple", none, Data.seq #[Value.str (Str.ofString "year") 381, Value.str (Str.ofString "month") 382, Value.str (Str.ofString "day") 383], #[]⟩
noncomputable def o9163 : Params → Obj := fun P => ⟨Value.type "tuple", none, Data.seq #[], #[]⟩
noncomputable def o9164 : Params → Obj := fun _ => fnAt9 (Value.none) 0 (Value.none) (Value.none) (Value.none) (stAt prog0.main.body 39)
noncomputable def o9165 : Params → Obj := fun P => ⟨Value.type "code", none, Data.fields #[Value.str (Str.ofString "to_jd") 378, Value.str (Str.ofString "to_jd") 379, Value.str (Str.ofString "/claim/cut.py") 380, Value.int 94 0, Value.int 3 0, Value.int 0 0, Value.int 0 0, Value.int 3 0, Value.ref 122, Value.bool true, Value.int 181 0, Value.ref 123, Value.none, Value.ref 124, Value.ref 125, Value.ref 126, Value.int 384 0, Value.int 94 0, Value.str (Str.ofString "/claim/cut.py") 385], #[]⟩
noncomputable def o9166 : Params → Obj := fun _ => fnAt9 (Value.type "function") 3 (Value.str (Str.ofString "convertdate.islamic") 359) (Value.ref 127) (Value.none) (stAt prog0.main.body 39)
noncomputable def o9167 : Params → Obj := fun P => ⟨Value.type "dict", none, Data.dict #[DictEntry.mk (PyData.keyHash P (Str.ofString "__name__")) (Value.str (Str.ofString "__name__") 165) (Value.str (Str.ofString "convertdate.indian_civil") 449), DictEntry.mk (PyData.keyHash P (Str.ofString "__doc__")) (Value.str (Str.ofString "__doc__") 166) Value.none, DictEntry.mk (PyData.keyHash P (Str.ofString "__package__")) (Value.str (Str.ofString "__package__") 167) Value.none, DictEntry.mk (PyData.keyHash P (Str.ofString "__loader__")) (Value.str (Str.ofString "__loader__") 168) (Value.builtin "__main__.__loader__#opaque"), DictEntry.mk (PyData.keyHash P (Str.ofString "__spec__")) (Value.str (Str.ofString "__spec__") 169) Value.none, DictEntry.mk (PyData.keyHash P (Str.ofString "__annotations__")) (Value.str (Str.ofString "__annotations__") 170) (Value.ref 6), DictEntry.mk (PyData.keyHash P (Str.ofString "__builtins__")) (Value.str (Str.ofString "__builtins__") 171) (Value.ref 4), DictEntry.mk (PyData.keyHash P (Str.ofString "__file__")) (Value.str (Str.ofString "__file__") 173) (Value.str (Str.ofString "/claim/cut.py") 172), DictEntry.mk (PyData.keyHash P (Str.ofString "__cached__")) (Value.str (Str.ofString "__cached__") 174) Value.none, DictEntry.mk (PyData.keyHash P (Str.ofString "MONTH_DAYS")) (Value.str (Str.ofString "MONTH_DAYS") 202) (Value.ref 15), DictEntry.mk (PyData.keyHash P (Str.ofString "isleap")) (Value.str (Str.ofString "isleap") 209) (Value.ref 22), DictEntry.mk (PyData.keyHash P (Str.ofString "monthrange")) (Value.str (Str.ofString "monthrange") 220) (Value.ref 29), DictEntry.mk (PyData.keyHash P (Str.ofString "trunc")) (Value.str (Str.ofString "trunc") 229) (Value.ref 36), DictEntry.mk (PyData.keyHash P (Str.ofString "jwday")) (Value.str (Str.ofString "jwday") 236) (Value.ref 43), DictEntry.mk (PyData.keyHash P (Str.ofString "monthcalendarhelper")) (Value.str (Str.ofString "monthcalendarhelper") 242) (Value.ref 48), DictEntry.mk (PyData.keyHash P (Str.ofString "EPOCH_gregorian")) (Value.str (Str.ofString "EPOCH_gregorian") 246) (Value.int 1721426 245), DictEntry.mk (PyData.keyHash P (Str.ofString "INTERCALATION_CYCLE_YEARS")) (Value.str (Str.ofString "INTERCALATION_CYCLE_YEARS") 248) (Value.int 400 247), DictEntry.mk (PyData.keyHash P (Str.ofString "LEAP_SUPPRESSION_YEARS")) (Value.str (Str.ofString "LEAP_SUPPRESSION_YEARS") 250) (Value.int 100 249), DictEntry.mk (PyData.keyHash P (Str.ofString "LEAP_CYCLE_YEARS")) (Value.str (Str.ofString "LEAP_CYCLE_YEARS") 252) (Value.int 4 251), DictEntry.mk (PyData.keyHash P (Str.ofString "YEAR_DAYS")) (Value.str (Str.ofString "YEAR_DAYS") 254) (Value.int 365 253), DictEntry.mk (PyData.keyHash P (Str.ofString "HAVE_30_DAYS_gregorian")) (Value.str (Str.ofString "HAVE_30_DAYS_gregorian") 259) (Value.ref 49), DictEntry.mk (PyData.keyHash P (Str.ofString "legal_date")) (Value.str (Str.ofString "legal_date") 269) (Value.ref 99), DictEntry.mk (PyData.keyHash P (Str.ofString "legal_date_gregorian")) (Value.str (Str.ofString "legal_date_gregorian") 270) (Value.ref 56), DictEntry.mk (PyData.keyHash P (Str.ofString "to_jd")) (Value.str (Str.ofString "to_jd") 280) (Value.ref 178), DictEntry.mk (PyData.keyHash P (Str.ofString "to_jd_gregorian")) (Value.str (Str.ofString "to_jd_gregorian") 281) (Value.ref 63), DictEntry.mk (PyData.keyHash P (Str.ofString "month_length")) (Value.str (Str.ofString "month_length") 289) (Value.ref 185), DictEntry.mk (PyData.keyHash P (Str.ofString "month_length_gregorian")) (Value.str (Str.ofString "month_length_gregorian") 290) (Value.ref 70), DictEntry.mk (PyData.keyHash P (Str.ofString "monthcalendar")) (Value.str (Str.ofString "monthcalendar") 300) (Value.ref 170), DictEntry.mk (PyData.keyHash P (Str.ofString "monthcalendar_gregorian")) (Value.str (Str.ofString "monthcalendar_gregorian") 301) (Value.ref 77), DictEntry.mk (PyData.keyHash P (Str.ofString "HAVE_30_DAYS_julian")) (Value.str (Str.ofString "HAVE_30_DAYS_julian") 308) (Value.ref 78), DictEntry.mk (PyData.keyHash P (Str.ofString "leap")) (Value.str (Str.ofString "leap") 315) (Value.ref 121), DictEntry.mk (PyData.keyHash P (Str.ofString "leap_julian")) (Value.str (Str.ofString "leap_julian") 316) (Value.ref 85), DictEntry.mk (PyData.keyHash P (Str.ofString "month_length_julian")) (Value.str (Str.ofString "month_length_julian") 326) (Value.ref 92), DictEntry.mk (PyData.keyHash P (Str.ofString "legal_date_julian")) (Value.str (Str.ofString "legal_date_julian") 337) (Value.ref 99), DictEntry.mk (PyData.keyHash P (Str.ofString "to_jd_julian")) (Value.str (Str.ofString "to_jd_julian") 347) (Value.ref 106), DictEntry.mk (PyData.keyHash P (Str.ofString "monthcalendar_julian")) (Value.str (Str.ofString "monthcalendar_julian") 358) (Value.ref 113), DictEntry.mk (PyData.keyHash P (Str.ofString "EPOCH_islamic")) (Value.str (Str.ofString "EPOCH_islamic") 362) (Value.int 1948440 361), DictEntry.mk (PyData.keyHash P (Str.ofString "HAS_30_DAYS")) (Value.str (Str.ofString "HAS_30_DAYS") 369) (Value.ref 114), DictEntry.mk (PyData.keyHash P (Str.ofString "leap_islamic")) (Value.str (Str.ofString "leap_islamic") 377) (Value.ref 121), DictEntry.mk (PyData.keyHash P (Str.ofString "to_jd_islamic")) (Value.str (Str.ofString "to_jd_islamic") 387) (Value.ref 128), DictEntry.mk (PyData.keyHash P (Str.ofString "month_length_islamic")) (Value.str (Str.ofString "month_length_islamic") 396) (Value.ref 135), DictEntry.mk (PyData.keyHash P (Str.ofString "monthcalendar_islamic")) (Value.str (Str.ofString "monthcalendar_islamic") 407) (Value.ref 142), DictEntry.mk (PyData.keyHash P (Str.ofString "EPOCH_coptic")) (Value.str (Str.ofString "EPOCH_coptic") 411) (Value.int 1825030 410), DictEntry.mk (PyData.keyHash P (Str.ofString "is_leap")) (Value.str (Str.ofString "is_leap") 418) (Value.ref 149), DictEntry.mk (PyData.keyHash P (Str.ofString "to_jd_coptic")) (Value.str (Str.ofString "to_jd_coptic") 428) (Value.ref 156), DictEntry.mk (PyData.keyHash P (Str.ofString "month_length_coptic")) (Value.str (Str.ofString "month_length_coptic") 437) (Value.ref 163), DictEntry.mk (PyData.keyHash P (Str.ofString "monthcalendar_coptic")) (Value.str (Str.ofString "monthcalendar_coptic") 448) (Value.ref 170), DictEntry.mk (PyData.keyHash P (Str.ofString "HAVE_31_DAYS")) (Value.str (Str.ofString "HAVE_31_DAYS") 456) (Value.ref 171), DictEntry.mk (PyData.keyHash P (Str.ofString "SAKA_EPOCH")) (Value.str (Str.ofString "SAKA_EPOCH") 458) (Value.int 78 457), DictEntry.mk (PyData.keyHash P (Str.ofString "to_jd_indian_civil")) (Value.str (Str.ofString "to_jd_indian_civil") 474) (Value.ref 178), DictEntry.mk (PyData.keyHash P (Str.ofString "month_length_indian_civil")) (Value.str (Str.ofString "month_length_indian_civil") 483) (Value.ref 185)] 51, #[]⟩
noncomputable def o9168 : Params → Obj := fun P => ⟨Value.none, none, Data.fields #[Value.int 3 0, Value.int 0 0, Value.ref 21, Value.int 5 0, Value.int 0 0, Value.ref 28, Value.int 15 0, Value.int 0 0, Value.ref 35, Value.int 18 0, Value.int 0 0, Value.ref 42, Value.int 20 0, Value.int 0 0, Value.ref 47, Value.int 31 0, Value.int 0 0, Value.ref 55, Value.int 40 0, Value.int 0 0, Value.ref 62, Value.int 50 0, Value.int 0 0, Value.ref 69, Value.int 53 0, Value.int 0 0, Value.ref 76, Value.int 60 0, Value.int 0 0, Value.ref 84, Value.int 63 0, Value.int 0 0, Value.ref 91, Value.int 70 0, Value.int 0 0, Value.ref 98, Value.int 76 0, Value.int 0 0, Value.ref 105, Value.int 83 0, Value.int 0 0, Value.ref 112, Value.int 91 0, Value.int 0 0, Value.ref 120, Value.int 94 0, Value.int 0 0, Value.ref 127, Value.int 97 0, Value.int 0 0, Value.ref 134, Value.int 102 0, Value.int 0 0, Value.ref 141, Value.int 109 0, Value.int 0 0, Value.ref 148, Value.int 111 0, Value.int 0 0, Value.ref 155, Value.int 114 0, Value.int 0 0, Value.ref 162, Value.int 123 0, Value.int 0 0, Value.ref 169, Value.int 131 0, Value.int 0 0, Value.ref 177, Value.int 152 0, Value.int 0 0, Value.ref 184], #[]⟩
noncomputable def o9169 : Params → Obj := fun P => ⟨Value.type "tuple", none, Data.seq #[], #[]⟩
noncomputable def o9170 : Params → Obj := fun P => ⟨Value.none, none, Data.fields #[], #[]⟩
noncomputable def o9171 : Params → Obj := fun P => ⟨Value.type "tuple", none, Data.seq #[Value.str (Str.ofString "year") 391, Value.str (Str.ofString "month") 392], #[]⟩
noncomputable def o9172 : Params → Obj := fun P => ⟨Value.type "tuple", none, Data.seq #[], #[]⟩
noncomputable def o9173 : Params → Obj := fun _ => fnAt9 (Value.none) 0 (Value.none) (Value.none) (Value.none) (stAt prog0.main.body 41)
noncomputable def o9174 : Params → Obj := fun P => ⟨Value.type "code", none, Data.fields #[Value.str (Str.ofString "month_length") 388, Value.str (Str.ofString "month_length") 389, Value.str (Str.ofString "/claim/cut.py") 390, Value.int 97 0, Value.int 2 0, Value.int 0 0, Value.int 0 0, Value.int 3 0, Value.ref 129, Value.bool true, Value.int 181 0, Value.ref 130, Value.none, Value.ref 131, Value.ref 132, Value.ref 133, Value.int 393 0, Value.int 97 0, Value.str (Str.ofString "/claim/cut.py") 394], #[]⟩
noncomputable def o9175 : Params → Obj := fun _ => fnAt9 (Value.type "function") 3 (Value.str (Str.ofString "convertdate.islamic") 359) (Value.ref 134) (Value.none) (stAt prog0.main.body 41)
noncomputable def o9176 : Params → Obj := fun P => ⟨Value.type "tuple", none, Data.seq #[], #[]⟩
noncomputable def o9177 : Params → Obj := fun P => ⟨Value.none, none, Data.fields #[], #[]⟩
noncomputable def o9178 : Params → Obj := fun P => ⟨Value.type "tuple", none, Data.seq #[Value.str (Str.ofString "year") 400, Value.str (Str.ofString "month") 401, Value.str (Str.ofString "start_weekday") 402, Value.str (Str.ofString "monthlen") 403], #[]⟩
noncomputable def o9179 : Params → Obj := fun P => ⟨Value.type "tuple", none, Data.seq #[], #[]⟩
noncomputable def o9180 : Params → Obj := fun _ => fnAt9 (Value.none) 0 (Value.none) (Value.none) (Value.none) (stAt prog0.main.body 43)
noncomputable def o9181 : Params → Obj := fun P => ⟨Value.type "code", none, Data.fields #[Value.str (Str.ofString "monthcalendar") 397, Value.str (Str.ofString "monthcalendar") 398, Value.str (Str.ofString "/claim/cut.py") 399, Value.int 102 0, Value.int 2 0, Value.int 0 0, Value.int 0 0, Value.int 3 0, Value.ref 136, Value.bool true, Value.int 181 0, Value.ref 137, Value.none, Value.ref 138, Value.ref 139, Value.ref 140, Value.int 404 0, Value.int 102 0, Value.str (Str.ofString "/claim/cut.py") 405], #[]⟩
noncomputable def o9182 : Params → Obj := fun _ => fnAt9 (Value.type "function") 3 (Value.str (Str.ofString "convertdate.islamic") 359) (Value.ref 141) (Value.none) (stAt prog0.main.body 43)
noncomputable def o9183 : Params → Obj := fun P => ⟨Value.type "tuple", none, Data.seq #[], #[]⟩
noncomputable def o9184 : Params → Obj := fun P => ⟨Value.none, none, Data.fields #[], #[]⟩
noncomputable def o9185 : Params → Obj := fun P => ⟨Value.type "tuple", none, Data.seq #[Value.str (Str.ofString "year") 415], #[]⟩
noncomputable def o9186 : Params → Obj := fun P => ⟨Value.type "tuple", none, Data.seq #[], #[]⟩
noncomputable def o9187 : Params → Obj := fun _ => fnAt9 (Value.none) 0 (Value.none) (Value.none) (Value.none) (stAt prog0.main.body 47)
noncomputable def o9188 : Params → Obj := fun P => ⟨Value.type "code", none, Data.fields #[Value.str (Str.ofString "is_leap") 412, Value.str (Str.ofString "is_leap") 413, Value.str (Str.ofString "/claim/cut.py") 414, Value.int 109 0, Value.int 1 0, Value.int 0 0, Value.int 0 0, Value.int 3 0, Value.ref 143, Value.bool true, Value.int 181 0, Value.ref 144, Value.none, Value.ref 145, Value.ref 146, Value.ref 147, Value.int 416 0, Value.int 109 0, Value.str (Str.ofString "/claim/cut.py") 417], #[]⟩
noncomputable def o9189 : Params → Obj := fun _ => fnAt9 (Value.type "function") 3 (Value.str (Str.ofString "convertdate.coptic") 408) (Value.ref 148) (Value.none) (stAt prog0.main.body 47)
noncomputable def o9190 : Params → Obj := fun P => ⟨Value.type "tuple", none, Data.seq #[], #[]⟩
noncomputable def o9191 : Params → Obj := fun P => ⟨Value.none, none, Data.fields #[], #[]⟩
noncomputable def o9192 : Params → Obj := fun P => ⟨Value.type "tuple", none, Data.seq #[Value.str (Str.ofString "year") 422, Value.str (Str.ofString "month") 423, Value.str (Str.ofString "day") 424], #[]⟩
noncomputable def o9193 : Params → Obj := fun P => ⟨Value.type "tuple", none, Data.seq #[], #[]⟩
noncomputable def o9194 : Params → Obj := fun _ => fnAt9 (Value.none) 0 (Value.none) (Value.none) (Value.none) (stAt prog0.main.body 48)
noncomputable def o9195 : Params → Obj := fun P => ⟨Value.type "code", none, Data.fields #[Value.str (Str.ofString "to_jd") 419, Value.str (Str.ofString "to_jd") 420, Value.str (Str.ofString "/claim/cut.py") 421, Value.int 111 0, Value.int 3 0, Value.int 0 0, Value.int 0 0, Value.int 3 0, Value.ref 150, Value.bool true, Value.int 181 0, Value.ref 151, Value.none, Value.ref 152, Value.ref 153, Value.ref 154, Value.int 425 0, Value.int 111 0, Value.str (Str.ofString "/claim/cut.py") 426], #[]⟩
noncomputable def o9196 : Params → Obj := fun _ => fnAt9 (Value.type "function") 3 (Value.str (Str.ofString "convertdate.coptic") 408) (Value.ref 155) (Value.none) (stAt prog0.main.body 48)
noncomputable def o9197 : Params → Obj := fun P => ⟨Value.type "tuple", none, Data.seq #[], #[]⟩
noncomputable def o9198 : Params → Obj := fun P => ⟨Value.none, none, Data.fields #[], #[]⟩
noncomputable def o9199 : Params → Obj := fun P => ⟨Value.type "tuple", none, Data.seq #[Value.str (Str.ofString "year") 432, Value.str (Str.ofString "month") 433], #[]⟩
noncomputable def o9200 : Params → Obj := fun P => ⟨Value.type "tuple", none, Data.seq #[], #[]⟩
noncomputable def o9201 : Params → Obj := fun _ => fnAt9 (Value.none) 0 (Value.none) (Value.none) (Value.none) (stAt prog0.main.body 50)
noncomputable def o9202 : Params → Obj := fun P => ⟨Value.type "code", none, Data.fields #[Value.str (Str.ofString "month_length") 429, Value.str (Str.ofString "month_length") 430, Value.str (Str.ofString "/claim/cut.py") 431, Value.int 114 0, Value.int 2 0, Value.int 0 0, Value.int 0 0, Value.int 3 0, Value.ref 157, Value.bool true, Value.int 181 0, Value.ref 158, Value.none, Value.ref 159, Value.ref 160, Value.ref 161, Value.int 434 0, Value.int 114 0, Value.str (Str.ofString "/claim/cut.py") 435], #[]⟩
noncomputable def o9203 : Params → Obj := fun _ => fnAt9 (Value.type "function") 3 (Value.str (Str.ofString "convertdate.coptic") 408) (Value.ref 162) (Value.none) (stAt prog0.main.body 50)
noncomputable def o9204 : Params → Obj := fun P => ⟨Value.type "tuple", none, Data.seq #[], #[]⟩
noncomputable def o9205 : Params → Obj := fun P => ⟨Value.none, none, Data.fields #[], #[]⟩
noncomputable def o9206 : Params → Obj := fun P => ⟨Value.type "tuple", none, Data.seq #[Value.str (Str.ofString "year") 441, Value.str (Str.ofString "month") 442, Value.str (Str.ofString "start_weekday") 443, Value.str (Str.ofString "monthlen") 444], #[]⟩
noncomputable def o9207 : Params → Obj := fun P => ⟨Value.type "tuple", none, Data.seq #[], #[]⟩
noncomputable def o9208 : Params → Obj := fun _ => fnAt9 (Value.none) 0 (Value.none) (Value.none) (Value.none) (stAt prog0.main.body 52)
noncomputable def o9209 : Params → Obj := fun P => ⟨Value.type "code", none, Data.fields #[Value.str (Str.ofString "monthcalendar") 438, Value.str (Str.ofString "monthcalendar") 439, Value.str (Str.ofString "/claim/cut.py") 440, Value.int 123 0, Value.int 2 0, Value.int 0 0, Value.int 0 0, Value.int 3 0, Value.ref 164, Value.bool true, Value.int 181 0, Value.ref 165, Value.none, Value.ref 166, Value.ref 167, Value.ref 168, Value.int 445 0, Value.int 123 0, Value.str (Str.ofString "/claim/cut.py") 446], #[]⟩
noncomputable def o9210 : Params → Obj := fun _ => fnAt9 (Value.type "function") 3 (Value.str (Str.ofString "convertdate.coptic") 408) (Value.ref 169) (Value.none) (stAt prog0.main.body 52)
noncomputable def o9211 : Params → Obj := fun P => ⟨Value.type "tuple", none, Data.seq #[Value.int 2 451, Value.int 3 452, Value.int 4 453, Value.int 5 454, Value.int 6 455], #[]⟩
noncomputable def o9212 : Params → Obj := fun P => ⟨Value.type "tuple", none, Data.seq #[], #[]⟩
noncomputable def o9213 : Params → Obj := fun P => ⟨Value.none, none, Data.fields #[], #[]⟩
noncomputable def o9214 : Params → Obj := fun P => ⟨Value.type "tuple", none, Data.seq #[Value.str (Str.ofString "year") 462, Value.str (Str.ofString "month") 463, Value.str (Str.ofString "day") 464, Value.str (Str.ofString "gyear") 465, Value.str (Str.ofString "leap") 466, Value.str (Str.ofString "start") 467, Value.str (Str.ofString "caitra") 468, Value.str (Str.ofString "jd") 469, Value.str (Str.ofString "m") 470], #[]⟩
noncomputable def o9215 : Params → Obj := fun P => ⟨Value.type "tuple", none, Data.seq #[], #[]⟩
noncomputable def o9216 : Params → Obj := fun _ => fnAt9 (Value.none) 0 (Value.none) (Value.none) (Value.none) (stAt prog0.main.body 57)
noncomputable def o9217 : Params → Obj := fun P => ⟨Value.type "code", none, Data.fields #[Value.str (Str.ofString "to_jd") 459, Value.str (Str.ofString "to_jd") 460, Value.str (Str.ofString "/claim/cut.py") 461, Value.int 131 0, Value.int 3 0, Value.int 0 0, Value.int 0 0, Value.int 3 0, Value.ref 172, Value.bool true, Value.int 181 0, Value.ref 173, Value.none, Value.ref 174, Value.ref 175, Value.ref 176, Value.int 471 0, Value.int 131 0, Value.str (Str.ofString "/claim/cut.py") 472], #[]⟩
noncomputable def o9218 : Params → Obj := fun _ => fnAt9 (Value.type "function") 3 (Value.str (Str.ofString "convertdate.indian_civil") 449) (Value.ref 177) (Value.none) (stAt prog0.main.body 57)
noncomputable def o9219 : Params → Obj := fun P => ⟨Value.type "tuple", none, Data.seq #[], #[]⟩
noncomputable def o9220 : Params → Obj := fun P => ⟨Value.none, none, Data.fields #[], #[]⟩
noncomputable def o9221 : Params → Obj := fun P => ⟨Value.type "tuple", none, Data.seq #[Value.str (Str.ofString "year") 478, Value.str (Str.ofString "month") 479], #[]⟩
noncomputable def o9222 : Params → Obj := fun P => ⟨Value.type "tuple", none, Data.seq #[], #[]⟩
noncomputable def o9223 : Params → Obj := fun _ => fnAt9 (Value.none) 0 (Value.none) (Value.none) (Value.none) (stAt prog0.main.body 59)
noncomputable def o9224 : Params → Obj := fun P => ⟨Value.type "code", none, Data.fields #[Value.str (Str.ofString "month_length") 475, Value.str (Str.ofString "month_length") 476, Value.str (Str.ofString "/claim/cut.py") 477, Value.int 152 0, Value.int 2 0, Value.int 0 0, Value.int 0 0, Value.int 3 0, Value.ref 179, Value.bool true, Value.int 181 0, Value.ref 180, Value.none, Value.ref 181, Value.ref 182, Value.ref 183, Value.int 480 0, Value.int 152 0, Value.str (Str.ofString "/claim/cut.py") 481], #[]⟩
noncomputable def o9225 : Params → Obj := fun _ => fnAt9 (Value.type "function") 3 (Value.str (Str.ofString "convertdate.indian_civil") 449) (Value.ref 184) (Value.none) (stAt prog0.main.body 59)
noncomputable def o9226 : Params → Obj := fun P => ⟨Value.type "dict", none, Data.dict #[DictEntry.mk (PyData.keyHash P (Str.ofString "__name__")) (Value.str (Str.ofString "__name__") 165) (Value.str (Str.ofString "law_jb0011_01") 559), DictEntry.mk (PyData.keyHash P (Str.ofString "__doc__")) (Value.str (Str.ofString "__doc__") 166) Value.none, DictEntry.mk (PyData.keyHash P (Str.ofString "__package__")) (Value.str (Str.ofString "__package__") 167) Value.none, DictEntry.mk (PyData.keyHash P (Str.ofString "__loader__")) (Value.str (Str.ofString "__loader__") 168) (Value.builtin "__main__.__loader__#opaque"), DictEntry.mk (PyData.keyHash P (Str.ofString "__spec__")) (Value.str (Str.ofString "__spec__") 169) Value.none, DictEntry.mk (PyData.keyHash P (Str.ofString "__annotations__")) (Value.str (Str.ofString "__annotations__") 170) (Value.ref 6), DictEntry.mk (PyData.keyHash P (Str.ofString "__builtins__")) (Value.str (Str.ofString "__builtins__") 171) (Value.ref 4), DictEntry.mk (PyData.keyHash P (Str.ofString "__file__")) (Value.str (Str.ofString "__file__") 173) (Value.str (Str.ofString "/claim/cut.py") 172), DictEntry.mk (PyData.keyHash P (Str.ofString "__cached__")) (Value.str (Str.ofString "__cached__") 174) Value.none, DictEntry.mk (PyData.keyHash P (Str.ofString "MONTH_DAYS")) (Value.str (Str.ofString "MONTH_DAYS") 202) (Value.ref 15), DictEntry.mk (PyData.keyHash P (Str.ofString "isleap")) (Value.str (Str.ofString "isleap") 209) (Value.ref 22), DictEntry.mk (PyData.keyHash P (Str.ofString "monthrange")) (Value.str (Str.ofString "monthrange") 220) (Value.ref 29), DictEntry.mk (PyData.keyHash P (Str.ofString "trunc")) (Value.str (Str.ofString "trunc") 229) (Value.ref 36), DictEntry.mk (PyData.keyHash P (Str.ofString "jwday")) (Value.str (Str.ofString "jwday") 236) (Value.ref 43), DictEntry.mk (PyData.keyHash P (Str.ofString "monthcalendarhelper")) (Value.str (Str.ofString "monthcalendarhelper") 242) (Value.ref 48), DictEntry.mk (PyData.keyHash P (Str.ofString "EPOCH_gregorian")) (Value.str (Str.ofString "EPOCH_gregorian") 246) (Value.int 1721426 245), DictEntry.mk (PyData.keyHash P (Str.ofString "INTERCALATION_CYCLE_YEARS")) (Value.str (Str.ofString "INTERCALATION_CYCLE_YEARS") 248) (Value.int 400 247), DictEntry.mk (PyData.keyHash P (Str.ofString "LEAP_SUPPRESSION_YEARS")) (Value.str (Str.ofString "LEAP_SUPPRESSION_YEARS") 250) (Value.int 100 249), DictEntry.mk (PyData.keyHash P (Str.ofString "LEAP_CYCLE_YEARS")) (Value.str (Str.ofString "LEAP_CYCLE_YEARS") 252) (Value.int 4 251), DictEntry.mk (PyData.keyHash P (Str.ofString "YEAR_DAYS")) (Value.str (Str.ofString "YEAR_DAYS") 254) (Value.int 365 253), DictEntry.mk (PyData.keyHash P (Str.ofString "HAVE_30_DAYS_gregorian")) (Value.str (Str.ofString "HAVE_30_DAYS_gregorian") 259) (Value.ref 49), DictEntry.mk (PyData.keyHash P (Str.ofString "legal_date")) (Value.str (Str.ofString "legal_date") 269) (Value.ref 99), DictEntry.mk (PyData.keyHash P (Str.ofString "legal_date_gregorian")) (Value.str (Str.ofString "legal_date_gregorian") 270) (Value.ref 56), DictEntry.mk (PyData.keyHash P (Str.ofString "to_jd")) (Value.str (Str.ofString "to_jd") 280) (Value.ref 215), DictEntry.mk (PyData.keyHash P (Str.ofString "to_jd_gregorian")) (Value.str (Str.ofString "to_jd_gregorian") 281) (Value.ref 63), DictEntry.mk (PyData.keyHash P (Str.ofString "month_length")) (Value.str (Str.ofString "month_length") 289) (Value.ref 223), DictEntry.mk (PyData.keyHash P (Str.ofString "month_length_gregorian")) (Value.str (Str.ofString "month_length_gregorian") 290) (Value.ref 70), DictEntry.mk (PyData.keyHash P (Str.ofString "monthcalendar")) (Value.str (Str.ofString "monthcalendar") 300) (Value.ref 231), DictEntry.mk (PyData.keyHash P (Str.ofString "monthcalendar_gregorian")) (Value.str (Str.ofString "monthcalendar_gregorian") 301) (Value.ref 77), DictEntry.mk (PyData.keyHash P (Str.ofString "HAVE_30_DAYS_julian")) (Value.str (Str.ofString "HAVE_30_DAYS_julian") 308) (Value.ref 78), DictEntry.mk (PyData.keyHash P (Str.ofString "leap")) (Value.str (Str.ofString "leap") 315) (Value.ref 207), DictEntry.mk (PyData.keyHash P (Str.ofString "leap_julian")) (Value.str (Str.ofString "leap_julian") 316) (Value.ref 85), DictEntry.mk (PyData.keyHash P (Str.ofString "month_length_julian")) (Value.str (Str.ofString "month_length_julian") 326) (Value.ref 92), DictEntry.mk (PyData.keyHash P (Str.ofString "legal_date_julian")) (Value.str (Str.ofString "legal_date_julian") 337) (Value.ref 99), DictEntry.mk (PyData.keyHash P (Str.ofString "to_jd_julian")) (Value.str (Str.ofString "to_jd_julian") 347) (Value.ref 106), DictEntry.mk (PyData.keyHash P (Str.ofString "monthcalendar_julian")) (Value.str (Str.ofString "monthcalendar_julian") 358) (Value.ref 113), DictEntry.mk (PyData.keyHash P (Str.ofString "EPOCH_islamic")) (Value.str (Str.ofString "EPOCH_islamic") 362) (Value.int 1948440 361), DictEntry.mk (PyData.keyHash P (Str.ofString "HAS_30_DAYS")) (Value.str (Str.ofString "HAS_30_DAYS") 369) (Value.ref 114), DictEntry.mk (PyData.keyHash P (Str.ofString "leap_islamic")) (Value.str (Str.ofString "leap_islamic") 377) (Value.ref 121), DictEntry.mk (PyData.keyHash P (Str.ofString "to_jd_islamic")) (Value.str (Str.ofString "to_jd_islamic") 387) (Value.ref 128), DictEntry.mk (PyData.keyHash P (Str.ofString "month_length_islamic")) (Value.str (Str.ofString "month_length_islamic") 396) (Value.ref 135), DictEntry.mk (PyData.keyHash P (Str.ofString "monthcalendar_islamic")) (Value.str (Str.ofString "monthcalendar_islamic") 407) (Value.ref 142), DictEntry.mk (PyData.keyHash P (Str.ofString "EPOCH_coptic")) (Value.str (Str.ofString "EPOCH_coptic") 411) (Value.int 1825030 410), DictEntry.mk (PyData.keyHash P (Str.ofString "is_leap")) (Value.str (Str.ofString "is_leap") 418) (Value.ref 149), DictEntry.mk (PyData.keyHash P (Str.ofString "to_jd_coptic")) (Value.str (Str.ofString "to_jd_coptic") 428) (Value.ref 156), DictEntry.mk (PyData.keyHash P (Str.ofString "month_length_coptic")) (Value.str (Str.ofString "month_length_coptic") 437) (Value.ref 163), DictEntry.mk (PyData.keyHash P (Str.ofString "monthcalendar_coptic")) (Value.str (Str.ofString "monthcalendar_coptic") 448) (Value.ref 170), DictEntry.mk (PyData.keyHash P (Str.ofString "HAVE_31_DAYS")) (Value.str (Str.ofString "HAVE_31_DAYS") 456) (Value.ref 171), DictEntry.mk (PyData.keyHash P (Str.ofString "SAKA_EPOCH")) (Value.str (Str.ofString "SAKA_EPOCH") 458) (Value.int 78 457), DictEntry.mk (PyData.keyHash P (Str.ofString "to_jd_indian_civil")) (Value.str (Str.ofString "to_jd_indian_civil") 474) (Value.ref 178), DictEntry.mk (PyData.keyHash P (Str.ofString "month_length_indian_civil")) (Value.str (Str.ofString "month_length_indian_civil") 483) (Value.ref 185), DictEntry.mk (PyData.keyHash P (Str.ofString "monthcalendar_indian_civil")) (Value.str (Str.ofString "monthcalendar_indian_civil") 494) (Value.ref 192), DictEntry.mk (PyData.keyHash P (Str.ofString "EPOCH_armenian")) (Value.str (Str.ofString "EPOCH_armenian") 498) (Value.int 1922502 497), DictEntry.mk (PyData.keyHash P (Str.ofString "EPOCH_SARKAWAG")) (Value.str (Str.ofString "EPOCH_SARKAWAG") 500) (Value.int 2117211 499), DictEntry.mk (PyData.keyHash P (Str.ofString "_valid_date")) (Value.str (Str.ofString "_valid_date") 514) (Value.ref 200), DictEntry.mk (PyData.keyHash P (Str.ofString "leap_armenian")) (Value.str (Str.ofString "leap_armenian") 522) (Value.ref 207), DictEntry.mk (PyData.keyHash P (Str.ofString "to_jd_armenian")) (Value.str (Str.ofString "to_jd_armenian") 536) (Value.ref 215), DictEntry.mk (PyData.keyHash P (Str.ofString "month_length_armenian")) (Value.str (Str.ofString "month_length_armenian") 546) (Value.ref 223), DictEntry.mk (PyData.keyHash P (Str.ofString "monthcalendar_armenian")) (Value.str (Str.ofString "monthcalendar_armenian") 558) (Value.ref 231), DictEntry.mk (PyData.keyHash P (Str.ofString "_law_long_moon_years")) (Value.str (Str.ofString "_law_long_moon_years") 566) (Value.ref 238), DictEntry.mk (PyData.keyHash P (Str.ofString "_law_january")) (Value.str (Str.ofString "_law_january") 575) (Value.ref 245), DictEntry.mk (PyData.keyHash P (Str.ofString "_law_year")) (Value.str (Str.ofString "_law_year") 581) (Value.ref 250)] 62, #[]⟩
noncomputable def o9227 : Params → Obj := fun P => ⟨Value.none, none, Data.fields #[Value.int 3 0, Value.int 0 0, Value.ref 21, Value.int 5 0, Value.int 0 0, Value.ref 28, Value.int 15 0, Value.int 0 0, Value.ref 35, Value.int 18 0, Value.int 0 0, Value.ref 42, Value.int 20 0, Value.int 0 0, Value.ref 47, Value.int 31 0, Value.int 0 0, Value.ref 55, Value.int 40 0, Value.int 0 0, Value.ref 62, Value.int 50 0, Value.int 0 0, Value.ref 69, Value.int 53 0, Value.int 0 0, Value.ref 76, Value.int 60 0, Value.int 0 0, Value.ref 84, Value.int 63 0, Value.int 0 0, Value.ref 91, Value.int 70 0, Value.int 0 0, Value.ref 98, Value.int 76 0, Value.int 0 0, Value.ref 105, Value.int 83 0, Value.int 0 0, Value.ref 112, Value.int 91 0, Value.int 0 0, Value.ref 120, Value.int 94 0, Value.int 0 0, Value.ref 127, Value.int 97 0, Value.int 0 0, Value.ref 134, Value.int 102 0, Value.int 0 0, Value.ref 141, Value.int 109 0, Value.int 0 0, Value.ref 148, Value.int 111 0, Value.int 0 0, Value.ref 155, Value.int 114 0, Value.int 0 0, Value.ref 162, Value.int 123 0, Value.int 0 0, Value.ref 169, Value.int 131 0, Value.int 0 0, Value.ref 177, Value.int 152 0, Value.int 0 0, Value.ref 184, Value.int 157 0, Value.int 0 0, Value.ref 191, Value.int 165 0, Value.int 0 0, Value.ref 199, Value.int 189 0, Value.int 0 0, Value.ref 206, Value.int 194 0, Value.int 0 0, Value.ref 214, Value.int 203 0, Value.int 0 0, Value.ref 222, Value.int 210 0, Value.int 0 0, Value.ref 230, Value.int 216 0, Value.int 0 0, Value.ref 237, Value.int 218 0, Value.int 0 0, Value.ref 244, Value.int 221 0, Value.int 0 0, Value.ref 249], #[]⟩
noncomputable def o9228 : Params → Obj := fun P => ⟨Value.type "tuple", none, Data.seq #[], #[]⟩
noncomputable def o9229 : Params → Obj := fun P => ⟨Value.none, none, Data.fields #[], #[]⟩
noncomputable def o9230 : Params → Obj := fun P => ⟨Value.type "tuple", none, Data.seq #[Value.str (Str.ofString "year") 487, Value.str (Str.ofString "month") 488, Value.str (Str.ofString "start_weekday") 489, Value.str (Str.ofString "monthlen") 490], #[]⟩
noncomputable def o9231 : Params → Obj := fun P => ⟨Value.type "tuple", none, Data.seq #[], #[]⟩
noncomputable def o9232 : Params → Obj := fun _ => fnAt9 (Value.none) 0 (Value.none) (Value.none) (Value.none) (stAt prog0.main.body 61)
noncomputable def o9233 : Params → Obj := fun P => ⟨Value.type "code", none, Data.fields #[Value.str (Str.ofString "monthcalendar") 484, Value.str (Str.ofString "monthcalendar") 485, Value.str (Str.ofString "/claim/cut.py") 486, Value.int 157 0, Value.int 2 0, Value.int 0 0, Value.int 0 0, Value.int 3 0, Value.ref 186, Value.bool true, Value.int 181 0, Value.ref 187, Value.none, Value.ref 188, Value.ref 189, Value.ref 190, Value.int 491 0, Value.int 157 0, Value.str (Str.ofString "/claim/cut.py") 492], #[]⟩
noncomputable def o9234 : Params → Obj := fun _ => fnAt9 (Value.type "function") 3 (Value.str (Str.ofString "convertdate.indian_civil") 449) (Value.ref 191) (Value.none) (stAt prog0.main.body 61)
noncomputable def o9235 : Params → Obj := fun P => ⟨Value.type "tuple", none, Data.seq #[Value.none], #[]⟩
noncomputable def o9236 : Params → Obj := fun P => ⟨Value.type "tuple", none, Data.seq #[], #[]⟩
noncomputable def o9237 : Params → Obj := fun P => ⟨Value.none, none, Data.fields #[], #[]⟩
noncomputable def o9238 : Params → Obj := fun P => ⟨Value.type "tuple", none, Data.seq #[Value.str (Str.ofString "year") 504, Value.str (Str.ofString "month") 505, Value.str (Str.ofString "day") 506, Value.str (Str.ofString "method") 507, Value.str (Str.ofString "error") 508, Value.str (Str.ofString "day_max") 509, Value.str (Str.ofString "year_min") 510, Value.str (Str.ofString "err") 511], #[]⟩
noncomputable def o9239 : Params → Obj := fun P => ⟨Value.type "tuple", none, Data.seq #[], #[]⟩
noncomputable def o9240 : Params → Obj := fun _ => fnAt9 (Value.none) 0 (Value.none) (Value.none) (Value.none) (stAt prog0.main.body 66)
noncomputable def o9241 : Params → Obj := fun P => ⟨Value.type "code", none, Data.fields #[Value.str (Str.ofString "_valid_date") 501, Value.str (Str.ofString "_valid_date") 502, Value.str (Str.ofString "/claim/cut.py") 503, Value.int 165 0, Value.int 4 0, Value.int 0 0, Value.int 0 0, Value.int 3 0, Value.ref 194, Value.bool true, Value.int 181 0, Value.ref 195, Value.none, Value.ref 196, Value.ref 197, Value.ref 198, Value.int 512 0, Value.int 165 0, Value.str (Str.ofString "/claim/cut.py") 513], #[]⟩
noncomputable def o9242 : Params → Obj := fun _ => fnAt9 (Value.type "function") 3 (Value.str (Str.ofString "convertdate.armenian") 495) (Value.ref 199) (Value.ref 193) (stAt prog0.main.body 66)
noncomputable def o9243 : Params → Obj := fun P => ⟨Value.type "tuple", none, Data.seq #[], #[]⟩
noncomputable def o9244 : Params → Obj := fun P => ⟨Value.none, none, Data.fields #[], #[]⟩
noncomputable def o9245 : Params → Obj := fun P => ⟨Value.type "tuple", none, Data.seq #[Value.str (Str.ofString "year") 518], #[]⟩
noncomputable def o9246 : Params → Obj := fun P => ⟨Value.type "tuple", none, Data.seq #[], #[]⟩
noncomputable def o9247 : Params → Obj := fun _ => fnAt9 (Value.none) 0 (Value.none) (Value.none) (Value.none) (stAt prog0.main.body 67)
noncomputable def o9248 : Params → Obj := fun P => ⟨Value.type "code", none, Data.fields #[Value.str (Str.ofString "leap") 515, Value.str (Str.ofString "leap") 516, Value.str (Str.ofString "/claim/cut.py") 517, Value.int 189 0, Value.int 1 0, Value.int 0 0, Value.int 0 0, Value.int 3 0, Value.ref 201, Value.bool true, Value.int 181 0, Value.ref 202, Value.none, Value.ref 203, Value.ref 204, Value.ref 205, Value.int 519 0, Value.int 189 0, Value.str (Str.ofString "/claim/cut.py") 520], #[]⟩
noncomputable def o9249 : Params → Obj := fun _ => fnAt9 (Value.type "function") 3 (Value.str (Str.ofString "convertdate.armenian") 495) (Value.ref 206) (Value.none) (stAt prog0.main.body 67)
noncomputable def o9250 : Params → Obj := fun P => ⟨Value.type "tuple", none, Data.seq #[Value.none], #[]⟩
noncomputable def o9251 : Params → Obj := fun P => ⟨Value.type "tuple", none, Data.seq #[], #[]⟩
noncomputable def o9252 : Params → Obj := fun P => ⟨Value.none, none, Data.fields #[], #[]⟩
noncomputable def o9253 : Params → Obj := fun P => ⟨Value.type "tuple", none, Data.seq #[Value.str (Str.ofString "year") 526, Value.str (Str.ofString "month") 527, Value.str (Str.ofString "day") 528, Value.str (Str.ofString "method") 529, Value.str (Str.ofString "yeardays") 530, Value.str (Str.ofString "yeardelta") 531, Value.str (Str.ofString "leapdays") 532], #[]⟩
noncomputable def o9254 : Params → Obj := fun P => ⟨Value.type "tuple", none, Data.seq #[], #[]⟩
noncomputable def o9255 : Params → Obj := fun _ => fnAt9 (Value.none) 0 (Value.none) (Value.none) (Value.none) (stAt prog0.main.body 69)
noncomputable def o9256 : Params → Obj := fun P => ⟨Value.type "code", none, Data.fields #[Value.str (Str.ofString "to_jd") 523, Value.str (Str.ofString "to_jd") 524, Value.str (Str.ofString "/claim/cut.py") 525, Value.int 194 0, Value.int 4 0, Value.int 0 0, Value.int 0 0, Value.int 3 0, Value.ref 209, Value.bool true, Value.int 181 0, Value.ref 210, Value.none, Value.ref 211, Value.ref 212, Value.ref 213, Value.int 533 0, Value.int 194 0, Value.str (Str.ofString "/claim/cut.py") 534], #[]⟩
noncomputable def o9257 : Params → Obj := fun _ => fnAt9 (Value.type "function") 3 (Value.str (Str.ofString "convertdate.armenian") 495) (Value.ref 214) (Value.ref 208) (stAt prog0.main.body 69)
noncomputable def o9258 : Params → Obj := fun P => ⟨Value.type "tuple", none, Data.seq #[Value.none], #[]⟩
noncomputable def o9259 : Params → Obj := fun P => ⟨Value.type "tuple", none, Data.seq #[], #[]⟩
noncomputable def o9260 : Params → Obj := fun P => ⟨Value.none, none, Data.fields #[], #[]⟩
noncomputable def o9261 : Params → Obj := fun P => ⟨Value.type "tuple", none, Data.seq #[Value.str (Str.ofString "year") 540, Value.str (Str.ofString "month") 541, Value.str (Str.ofString "method") 542], #[]⟩
noncomputable def o9262 : Params → Obj := fun P => ⟨Value.type "tuple", none, Data.seq #[], #[]⟩
noncomputable def o9263 : Params → Obj := fun _ => fnAt9 (Value.none) 0 (Value.none) (Value.none) (Value.none) (stAt prog0.main.body 71)
noncomputable def o9264 : Params → Obj := fun P => ⟨Value.type "code", none, Data.fields #[Value.str (Str.ofString "month_length") 537, Value.str (Str.ofString "month_length") 538, Value.str (Str.ofString "/claim/cut.py") 539, Value.int 203 0, Value.int 3 0, Value.int 0 0, Value.int 0 0, Value.int 3 0, Value.ref 217, Value.bool true, Value.int 181 0, Value.ref 218, Value.none, Value.ref 219, Value.ref 220, Value.ref 221, Value.int 543 0, Value.int 203 0, Value.str (Str.ofString "/claim/cut.py") 544], #[]⟩
noncomputable def o9265 : Params → Obj := fun _ => fnAt9 (Value.type "function") 3 (Value.str (Str.ofString "convertdate.armenian") 495) (Value.ref 222) (Value.ref 216) (stAt prog0.main.body 71)
noncomputable def o9266 : Params → Obj := fun P => ⟨Value.type "tuple", none, Data.seq #[Value.none], #[]⟩
noncomputable def o9267 : Params → Obj := fun P => ⟨Value.type "tuple", none, Data.seq #[], #[]⟩
noncomputable def o9268 : Params → Obj := fun P => ⟨Value.none, none, Data.fields #[], #[]⟩
noncomputable def o9269 : Params → Obj := fun P => ⟨Value.type "tuple", none, Data.seq #[Value.str (Str.ofString "year") 550, Value.str (Str.ofString "month") 551, Value.str (Str.ofString "method") 552, Value.str (Str.ofString "start_weekday") 553, Value.str (Str.ofString "monthlen") 554], #[]⟩
noncomputable def o9270 : Params → Obj := fun P => ⟨Value.type "tuple", none, Data.seq #[], #[]⟩
noncomputable def o9271 : Params → Obj := fun _ => fnAt9 (Value.none) 0 (Value.none) (Value.none) (Value.none) (stAt prog0.main.body 73)
noncomputable def o9272 : Params → Obj := fun P => ⟨Value.type "code", none, Data.fields #[Value.str (Str.ofString "monthcalendar") 547, Value.str (Str.ofString "monthcalendar") 548, Value.str (Str.ofString "/claim/cut.py") 549, Value.int 210 0, Value.int 3 0, Value.int 0 0, Value.int 0 0, Value.int 3 0, Value.ref 225, Value.bool true, Value.int 181 0, Value.ref 226, Value.none, Value.ref 227, Value.ref 228, Value.ref 229, Value.int 555 0, Value.int 210 0, Value.str (Str.ofString "/claim/cut.py") 556], #[]⟩
noncomputable def o9273 : Params → Obj := fun _ => fnAt9 (Value.type "function") 3 (Value.str (Str.ofString "convertdate.armenian") 495) (Value.ref 230) (Value.ref 224) (stAt prog0.main.body 73)
noncomputable def o9274 : Params → Obj := fun P => ⟨Value.type "tuple", none, Data.seq #[], #[]⟩
noncomputable def o9275 : Params → Obj := fun P => ⟨Value.none, none, Data.fields #[], #[]⟩
noncomputable def o9276 : Params → Obj := fun P => ⟨Value.type "tuple", none, Data.seq #[], #[]⟩
noncomputable def o9277 : Params → Obj := fun P => ⟨Value.type "tuple", none, Data.seq #[], #[]⟩
noncomputable def o9278 : Params → Obj := fun _ => fnAt9 (Value.none) 0 (Value.none) (Value.none) (Value.none) (stAt prog0.main.body 76)
noncomputable def o9279 : Params → Obj := fun P => ⟨Value.type "code", none, Data.fields #[Value.str (Str.ofString "_law_long_moon_years") 561, Value.str (Str.ofString "_law_long_moon_years") 562, Value.str (Str.ofString "/claim/cut.py") 563, Value.int 216 0, Value.int 0 0, Value.int 0 0, Value.int 0 0, Value.int 3 0, Value.ref 232, Value.bool true, Value.int 181 0, Value.ref 233, Value.none, Value.ref 234, Value.ref 235, Value.ref 236, Value.int 564 0, Value.int 216 0, Value.str (Str.ofString "/claim/cut.py") 565], #[]⟩
noncomputable def o9280 : Params → Obj := fun _ => fnAt9 (Value.type "function") 3 (Value.str (Str.ofString "law_jb0011_01") 559) (Value.ref 237) (Value.none) (stAt prog0.main.body 76)
noncomputable def o9281 : Params → Obj := fun P => ⟨Value.type "tuple", none, Data.seq #[], #[]⟩
noncomputable def o9282 : Params → Obj := fun P => ⟨Value.none, none, Data.fields #[], #[]⟩
noncomputable def o9283 : Params → Obj := fun P => ⟨Value.type "tuple", none, Data.seq #[Value.str (Str.ofString "year") 570, Value.str (Str.ofString "rounds") 571, Value.str (Str.ofString "past") 572], #[]⟩
noncomputable def o9284 : Params → Obj := fun P => ⟨Value.type "tuple", none, Data.seq #[], #[]⟩
noncomputable def o9285 : Params → Obj := fun _ => fnAt9 (Value.none) 0 (Value.none) (Value.none) (Value.none) (stAt prog0.main.body 77)
noncomputable def o9286 : Params → Obj := fun P => ⟨Value.type "code", none, Data.fields #[Value.str (Str.ofString "_law_january") 567, Value.str (Str.ofString "_law_january") 568, Value.str (Str.ofString "/claim/cut.py") 569, Value.int 218 0, Value.int 1 0, Value.int 0 0, Value.int 0 0, Value.int 3 0, Value.ref 239, Value.bool true, Value.int 181 0, Value.ref 240, Value.none, Value.ref 241, Value.ref 242, Value.ref 243, Value.int 573 0, Value.int 218 0, Value.str (Str.ofString "/claim/cut.py") 574], #[]⟩
noncomputable def o9287 : Params → Obj := fun _ => fnAt9 (Value.type "function") 3 (Value.str (Str.ofString "law_jb0011_01") 559) (Value.ref 244) (Value.none) (stAt prog0.main.body 77)
noncomputable def o9288 : Params → Obj := fun P => ⟨Value.type "tuple", none, Data.seq #[], #[]⟩
noncomputable def o9289 : Params → Obj := fun P => ⟨Value.none, none, Data.fields #[], #[]⟩
noncomputable def o9290 : Params → Obj := fun _ => fnAt9 (Value.none) 0 (Value.none) (Value.none) (Value.none) (stAt prog0.main.body 78)
noncomputable def o9291 : Params → Obj := fun P => ⟨Value.type "code", none, Data.fields #[Value.str (Str.ofString "_law_year") 576, Value.str (Str.ofString "_law_year") 577, Value.str (Str.ofString "/claim/cut.py") 578, Value.int 221 0, Value.int 2 0, Value.int 0 0, Value.int 0 0, Value.int 3 0, Value.ref 246, Value.bool true, Value.int 181 0, Value.ref 247, Value.none, Value.none, Value.none, Value.ref 248, Value.int 579 0, Value.int 221 0, Value.str (Str.ofString "/claim/cut.py") 580], #[]⟩
noncomputable def o9292 : Params → Obj := fun _ => fnAt9 (Value.type "function") 3 (Value.str (Str.ofString "law_jb0011_01") 559) (Value.ref 249) (Value.none) (stAt prog0.main.body 78)
noncomputable def o9293 : Params → Obj := fun P => ⟨Value.type "dict", none, Data.dict #[DictEntry.mk (PyData.keyHash P (Str.ofString "__name__")) (Value.str (Str.ofString "__name__") 165) (Value.str (Str.ofString "law_jb0011_01") 559), DictEntry.mk (PyData.keyHash P (Str.ofString "__doc__")) (Value.str (Str.ofString "__doc__") 166) Value.none, DictEntry.mk (PyData.keyHash P (Str.ofString "__package__")) (Value.str (Str.ofString "__package__") 167) Value.none, DictEntry.mk (PyData.keyHash P (Str.ofString "__loader__")) (Value.str (Str.ofString "__loader__") 168) (Value.builtin "__main__.__loader__#opaque"), DictEntry.mk (PyData.keyHash P (Str.ofString "__spec__")) (Value.str (Str.ofString "__spec__") 169) Value.none, DictEntry.mk (PyData.keyHash P (Str.ofString "__annotations__")) (Value.str (Str.ofString "__annotations__") 170) (Value.ref 6), DictEntry.mk (PyData.keyHash P (Str.ofString "__builtins__")) (Value.str (Str.ofString "__builtins__") 171) (Value.ref 4), DictEntry.mk (PyData.keyHash P (Str.ofString "__file__")) (Value.str (Str.ofString "__file__") 173) (Value.str (Str.ofString "/claim/cut.py") 172), DictEntry.mk (PyData.keyHash P (Str.ofString "__cached__")) (Value.str (Str.ofString "__cached__") 174) Value.none, DictEntry.mk (PyData.keyHash P (Str.ofString "MONTH_DAYS")) (Value.str (Str.ofString "MONTH_DAYS") 202) (Value.ref 15), DictEntry.mk (PyData.keyHash P (Str.ofString "isleap")) (Value.str (Str.ofString "isleap") 209) (Value.ref 22), DictEntry.mk (PyData.keyHash P (Str.ofString "monthrange")) (Value.str (Str.ofString "monthrange") 220) (Value.ref 29), DictEntry.mk (PyData.keyHash P (Str.ofString "trunc")) (Value.str (Str.ofString "trunc") 229) (Value.ref 36), DictEntry.mk (PyData.keyHash P (Str.ofString "jwday")) (Value.str (Str.ofString "jwday") 236) (Value.ref 43), DictEntry.mk (PyData.keyHash P (Str.ofString "monthcalendarhelper")) (Value.str (Str.ofString "monthcalendarhelper") 242) (Value.ref 48), DictEntry.mk (PyData.keyHash P (Str.ofString "EPOCH_gregorian")) (Value.str (Str.ofString "EPOCH_gregorian") 246) (Value.int 1721426 245), DictEntry.mk (PyData.keyHash P (Str.ofString "INTERCALATION_CYCLE_YEARS")) (Value.str (Str.ofString "INTERCALATION_CYCLE_YEARS") 248) (Value.int 400 247), DictEntry.mk (PyData.keyHash P (Str.ofString "LEAP_SUPPRESSION_YEARS")) (Value.str (Str.ofString "LEAP_SUPPRESSION_YEARS") 250) (Value.int 100 249), DictEntry.mk (PyData.keyHash P (Str.ofString "LEAP_CYCLE_YEARS")) (Value.str (Str.ofString "LEAP_CYCLE_YEARS") 252) (Value.int 4 251), DictEntry.mk (PyData.keyHash P (Str.ofString "YEAR_DAYS")) (Value.str (Str.ofString "YEAR_DAYS") 254) (Value.int 365 253), DictEntry.mk (PyData.keyHash P (Str.ofString "HAVE_30_DAYS_gregorian")) (Value.str (Str.ofString "HAVE_30_DAYS_gregorian") 259) (Value.ref 49), DictEntry.mk (PyData.keyHash P (Str.ofString "legal_date")) (Value.str (Str.ofString "legal_date") 269) (Value.ref 99), DictEntry.mk (PyData.keyHash P (Str.ofString "legal_date_gregorian")) (Value.str (Str.ofString "legal_date_gregorian") 270) (Value.ref 56), DictEntry.mk (PyData.keyHash P (Str.ofString "to_jd")) (Value.str (Str.ofString "to_jd") 280) (Value.ref 215), DictEntry.mk (PyData.keyHash P (Str.ofString "to_jd_gregorian")) (Value.str (Str.ofString "to_jd_gregorian") 281) (Value.ref 63), DictEntry.mk (PyData.keyHash P (Str.ofString "month_length")) (Value.str (Str.ofString "month_length") 289) (Value.ref 223), DictEntry.mk (PyData.keyHash P (Str.ofString "month_length_gregorian")) (Value.str (Str.ofString "month_length_gregorian") 290) (Value.ref 70), DictEntry.mk (PyData.keyHash P (Str.ofString "monthcalendar")) (Value.str (Str.ofString "monthcalendar") 300) (Value.ref 231), DictEntry.mk (PyData.keyHash P (Str.ofString "monthcalendar_gregorian")) (Value.str (Str.ofString "monthcalendar_gregorian") 301) (Value.ref 77), DictEntry.mk (PyData.keyHash P (Str.ofString "HAVE_30_DAYS_julian")) (Value.str (Str.ofString "HAVE_30_DAYS_julian") 308) (Value.ref 78), DictEntry.mk (PyData.keyHash P (Str.ofString "leap")) (Value.str (Str.ofString "leap") 315) (Value.ref 207), DictEntry.mk (PyData.keyHash P (Str.ofString "leap_julian")) (Value.str (Str.ofString "leap_julian") 316) (Value.ref 85), DictEntry.mk (PyData.keyHash P (Str.ofString "month_length_julian")) (Value.str (Str.ofString "month_length_julian") 326) (Value.ref 92), DictEntry.mk (PyData.keyHash P (Str.ofString "legal_date_julian")) (Value.str (Str.ofString "legal_date_julian") 337) (Value.ref 99), DictEntry.mk (PyData.keyHash P (Str.ofString "to_jd_julian")) (Value.str (Str.ofString "to_jd_julian") 347) (Value.ref 106), DictEntry.mk (PyData.keyHash P (Str.ofString "monthcalendar_julian")) (Value.str (Str.ofString "monthcalendar_julian") 358) (Value.ref 113), DictEntry.mk (PyData.keyHash P (Str.ofString "EPOCH_islamic")) (Value.str (Str.ofString "EPOCH_islamic") 362) (Value.int 1948440 361), DictEntry.mk (PyData.keyHash P (Str.ofString "HAS_30_DAYS")) (Value.str (Str.ofString "HAS_30_DAYS") 369) (Value.ref 114), DictEntry.mk (PyData.keyHash P (Str.ofString "leap_islamic")) (Value.str (Str.ofString "leap_islamic") 377) (Value.ref 121), DictEntry.mk (PyData.keyHash P (Str.ofString "to_jd_islamic")) (Value.str (Str.ofString "to_jd_islamic") 387) (Value.ref 128), DictEntry.mk (PyData.keyHash P (Str.ofString "month_length_islamic")) (Value.str (Str.ofString "month_length_islamic") 396) (Value.ref 135), DictEntry.mk (PyData.keyHash P (Str.ofString "monthcalendar_islamic")) (Value.str (Str.ofString "monthcalendar_islamic") 407) (Value.ref 142), DictEntry.mk (PyData.keyHash P (Str.ofString "EPOCH_coptic")) (Value.str (Str.ofString "EPOCH_coptic") 411) (Value.int 1825030 410), DictEntry.mk (PyData.keyHash P (Str.ofString "is_leap")) (Value.str (Str.ofString "is_leap") 418) (Value.ref 149), DictEntry.mk (PyData.keyHash P (Str.ofString "to_jd_coptic")) (Value.str (Str.ofString "to_jd_coptic") 428) (Value.ref 156), DictEntry.mk (PyData.keyHash P (Str.ofString "month_length_coptic")) (Value.str (Str.ofString "month_length_coptic") 437) (Value.ref 163), DictEntry.mk (PyData.keyHash P (Str.ofString "monthcalendar_coptic")) (Value.str (Str.ofString "monthcalendar_coptic") 448) (Value.ref 170), DictEntry.mk (PyData.keyHash P (Str.ofString "HAVE_31_DAYS")) (Value.str (Str.ofString "HAVE_31_DAYS") 456) (Value.ref 171), DictEntry.mk (PyData.keyHash P (Str.ofString "SAKA_EPOCH")) (Value.str (Str.ofString "SAKA_EPOCH") 458) (Value.int 78 457), DictEntry.mk (PyData.keyHash P (Str.ofString "to_jd_indian_civil")) (Value.str (Str.ofString "to_jd_indian_civil") 474) (Value.ref 178), DictEntry.mk (PyData.keyHash P (Str.ofString "month_length_indian_civil")) (Value.str (Str.ofString "month_length_indian_civil") 483) (Value.ref 185), DictEntry.mk (PyData.keyHash P (Str.ofString "monthcalendar_indian_civil")) (Value.str (Str.ofString "monthcalendar_indian_civil") 494) (Value.ref 192), DictEntry.mk (PyData.keyHash P (Str.ofString "EPOCH_armenian")) (Value.str (Str.ofString "EPOCH_armenian") 498) (Value.int 1922502 497), DictEntry.mk (PyData.keyHash P (Str.ofString "EPOCH_SARKAWAG")) (Value.str (Str.ofString "EPOCH_SARKAWAG") 500) (Value.int 2117211 499), DictEntry.mk (PyData.keyHash P (Str.ofString "_valid_date")) (Value.str (Str.ofString "_valid_date") 514) (Value.ref 200), DictEntry.mk (PyData.keyHash P (Str.ofString "leap_armenian")) (Value.str (Str.ofString "leap_armenian") 522) (Value.ref 207), DictEntry.mk (PyData.keyHash P (Str.ofString "to_jd_armenian")) (Value.str (Str.ofString "to_jd_armenian") 536) (Value.ref 215), DictEntry.mk (PyData.keyHash P (Str.ofString "month_length_armenian")) (Value.str (Str.ofString "month_length_armenian") 546) (Value.ref 223), DictEntry.mk (PyData.keyHash P (Str.ofString "monthcalendar_armenian")) (Value.str (Str.ofString "monthcalendar_armenian") 558) (Value.ref 231), DictEntry.mk (PyData.keyHash P (Str.ofString "_law_long_moon_years")) (Value.str (Str.ofString "_law_long_moon_years") 566) (Value.ref 238), DictEntry.mk (PyData.keyHash P (Str.ofString "_law_january")) (Value.str (Str.ofString "_law_january") 575) (Value.ref 245), DictEntry.mk (PyData.keyHash P (Str.ofString "_law_year")) (Value.str (Str.ofString "_law_year") 581) (Value.ref 250), DictEntry.mk (PyData.keyHash P (Str.ofString "_law_length")) (Value.str (Str.ofString "_law_length") 590) (Value.ref 257), DictEntry.mk (PyData.keyHash P (Str.ofString "_law_leaf")) (Value.str (Str.ofString "_law_leaf") 599) (Value.ref 264), DictEntry.mk (PyData.keyHash P (Str.ofString "law")) (Value.str (Str.ofString "law") 616) (Value.ref 271)] 65, #[]⟩
noncomputable def o9294 : Params → Obj := fun P => ⟨Value.none, none, Data.fields #[Value.int 3 0, Value.int 0 0, Value.ref 21, Value.int 5 0, Value.int 0 0, Value.ref 28, Value.int 15 0, Value.int 0 0, Value.ref 35, Value.int 18 0, Value.int 0 0, Value.ref 42, Value.int 20 0, Value.int 0 0, Value.ref 47, Value.int 31 0, Value.int 0 0, Value.ref 55, Value.int 40 0, Value.int 0 0, Value.ref 62, Value.int 50 0, Value.int 0 0, Value.ref 69, Value.int 53 0, Value.int 0 0, Value.ref 76, Value.int 60 0, Value.int 0 0, Value.ref 84, Value.int 63 0, Value.int 0 0, Value.ref 91, Value.int 70 0, Value.int 0 0, Value.ref 98, Value.int 76 0, Value.int 0 0, Value.ref 105, Value.int 83 0, Value.int 0 0, Value.ref 112, Value.int 91 0, Value.int 0 0, Value.ref 120, Value.int 94 0, Value.int 0 0, Value.ref 127, Value.int 97 0, Value.int 0 0, Value.ref 134, Value.int 102 0, Value.int 0 0, Value.ref 141, Value.int 109 0, Value.int 0 0, Value.ref 148, Value.int 111 0, Value.int 0 0, Value.ref 155, Value.int 114 0, Value.int 0 0, Value.ref 162, Value.int 123 0, Value.int 0 0, Value.ref 169, Value.int 131 0, Value.int 0 0, Value.ref 177, Value.int 152 0, Value.int 0 0, Value.ref 184, Value.int 157 0, Value.int 0 0, Value.ref 191, Value.int 165 0, Value.int 0 0, Value.ref 199, Value.int 189 0, Value.int 0 0, Value.ref 206, Value.int 194 0, Value.int 0 0, Value.ref 214, Value.int 203 0, Value.int 0 0, Value.ref 222, Value.int 210 0, Value.int 0 0, Value.ref 230, Value.int 216 0, Value.int 0 0, Value.ref 237, Value.int 218 0, Value.int 0 0, Value.ref 244, Value.int 221 0, Value.int 0 0, Value.ref 249, Value.int 242 0, Value.int 0 0, Value.ref 256, Value.int 254 0, Value.int 0 0, Value.ref 263, Value.int 266 0, Value.int 0 0, Value.ref 270], #[]⟩
noncomputable def o9295 : Params → Obj := fun P => ⟨Value.type "tuple", none, Data.seq #[], #[]⟩
noncomputable def o9296 : Params → Obj := fun P => ⟨Value.none, none, Data.fields #[], #[]⟩
noncomputable def o9297 : Params → Obj := fun P => ⟨Value.type "tuple", none, Data.seq #[Value.str (Str.ofString "kind") 585, Value.str (Str.ofString "year") 586, Value.str (Str.ofString "month") 587], #[]⟩
noncomputable def o9298 : Params → Obj := fun P => ⟨Value.type "tuple", none, Data.seq #[], #[]⟩
noncomputable def o9299 : Params → Obj := fun _ => fnAt9 (Value.none) 0 (Value.none) (Value.none) (Value.none) (stAt prog0.main.body 79)
noncomputable def o9300 : Params → Obj := fun P => ⟨Value.type "code", none, Data.fields #[Value.str (Str.ofString "_law_length") 582, Value.str (Str.ofString "_law_length") 583, Value.str (Str.ofString "/claim/cut.py") 584, Value.int 242 0, Value.int 3 0, Value.int 0 0, Value.int 0 0, Value.int 3 0, Value.ref 251, Value.bool true, Value.int 181 0, Value.ref 252, Value.none, Value.ref 253, Value.ref 254, Value.ref 255, Value.int 588 0, Value.int 242 0, Value.str (Str.ofString "/claim/cut.py") 589], #[]⟩
noncomputable def o9301 : Params → Obj := fun _ => fnAt9 (Value.type "function") 3 (Value.str (Str.ofString "law_jb0011_01") 559) (Value.ref 256) (Value.none) (stAt prog0.main.body 79)
noncomputable def o9302 : Params → Obj := fun P => ⟨Value.type "tuple", none, Data.seq #[], #[]⟩
noncomputable def o9303 : Params → Obj := fun P => ⟨Value.none, none, Data.fields #[], #[]⟩
noncomputable def o9304 : Params → Obj := fun P => ⟨Value.type "tuple", none, Data.seq #[Value.str (Str.ofString "kind") 594, Value.str (Str.ofString "year") 595, Value.str (Str.ofString "month") 596], #[]⟩
noncomputable def o9305 : Params → Obj := fun P => ⟨Value.type "tuple", none, Data.seq #[], #[]⟩
noncomputable def o9306 : Params → Obj := fun _ => fnAt9 (Value.none) 0 (Value.none) (Value.none) (Value.none) (stAt prog0.main.body 80)
noncomputable def o9307 : Params → Obj := fun P => ⟨Value.type "code", none, Data.fields #[Value.str (Str.ofString "_law_leaf") 591, Value.str (Str.ofString "_law_leaf") 592, Value.str (Str.ofString "/claim/cut.py") 593, Value.int 254 0, Value.int 3 0, Value.int 0 0, Value.int 0 0, Value.int 3 0, Value.ref 258, Value.bool true, Value.int 181 0, Value.ref 259, Value.none, Value.ref 260, Value.ref 261, Value.ref 262, Value.int 597 0, Value.int 254 0, Value.str (Str.ofString "/claim/cut.py") 598], #[]⟩
noncomputable def o9308 : Params → Obj := fun _ => fnAt9 (Value.type "function") 3 (Value.str (Str.ofString "law_jb0011_01") 559) (Value.ref 263) (Value.none) (stAt prog0.main.body 80)
noncomputable def o9309 : Params → Obj := fun P => ⟨Value.type "tuple", none, Data.seq #[], #[]⟩
noncomputable def o9310 : Params → Obj := fun P => ⟨Value.none, none, Data.fields #[], #[]⟩
noncomputable def o9311 : Params → Obj := fun P => ⟨Value.type "tuple", none, Data.seq #[Value.str (Str.ofString "script") 603, Value.str (Str.ofString "numbers") 604, Value.str (Str.ofString "kind") 605, Value.str (Str.ofString "year") 606, Value.str (Str.ofString "number") 607, Value.str (Str.ofString "lengths") 608, Value.str (Str.ofString "month") 609, Value.str (Str.ofString "rows") 610, Value.str (Str.ofString "row") 611, Value.str (Str.ofString "day") 612, Value.str (Str.ofString "column") 613], #[]⟩
noncomputable def o9312 : Params → Obj := fun P => ⟨Value.type "tuple", none, Data.seq #[], #[]⟩
noncomputable def o9313 : Params → Obj := fun _ => fnAt9 (Value.none) 0 (Value.none) (Value.none) (Value.none) (stAt prog0.main.body 81)
noncomputable def o9314 : Params → Obj := fun P => ⟨Value.type "code", none, Data.fields #[Value.str (Str.ofString "law") 600, Value.str (Str.ofString "law") 601, Value.str (Str.ofString "/claim/cut.py") 602, Value.int 266 0, Value.int 1 0, Value.int 0 0, Value.int 0 0, Value.int 3 0, Value.ref 265, Value.bool true, Value.int 181 0, Value.ref 266, Value.none, Value.ref 267, Value.ref 268, Value.ref 269, Value.int 614 0, Value.int 266 0, Value.str (Str.ofString "/claim/cut.py") 615], #[]⟩
noncomputable def o9315 : Params → Obj := fun _ => fnAt9 (Value.type "function") 3 (Value.str (Str.ofString "law_jb0011_01") 559) (Value.ref 270) (Value.none) (stAt prog0.main.body 81)
noncomputable def tree_479 : Params → BT := fun P => (.node (boot_o_0 P) (.node (boot_o_1 P) (.node (boot_o_3 P) (.node (boot_o_7 P) .nil .nil) (.node (o943 P) .nil .nil)) (.node (boot_o_5 P) (.node (boot_o_9 P) .nil .nil) (.node (o945 P) .nil .nil))) (.node (boot_o_2 P) (.node (boot_o_4 P) (.node (boot_o_8 P) .nil .nil) (.node (o944 P) .nil .nil)) (.node (boot_o_6 P) (.node (boot_o_10 P) .nil .nil) (.node (o946 P) .nil .nil))))
noncomputable def tree_1069 : Params → BT := fun P => (.node (boot_o_0 P) (.node (boot_o_1 P) (.node (o949 P) (.node (boot_o_7 P) (.node (o951 P) (.node (o967 P) (.node (o999 P) .nil .nil) .nil) (.node (o983 P) .nil .nil)) (.node (o959 P) (.node (o975 P) .nil .nil) (.node (o991 P) .nil .nil))) (.node (o943 P) (.node (o955 P) (.node (o971 P) (.node (o9103 P) .nil .nil) .nil) (.node (o987 P) .nil .nil)) (.node (o963 P) (.node (o979 P) .nil .nil) (.node (o995 P) .nil .nil)))) (.node (boot_o_5 P) (.node (boot_o_9 P) (.node (o953 P) (.node (o969 P) (.node (o9101 P) .nil .nil) .nil) (.node (o985 P) .nil .nil)) (.node (o961 P) (.node (o977 P) .nil .nil) (.node (o993 P) .nil .nil))) (.node (o945 P) (.node (o957 P) (.node (o973 P) (.node (o9105 P) .nil .nil) .nil) (.node (o989 P) .nil .nil)) (.node (o965 P) (.node (o981 P) .nil .nil) (.node (o997 P) .nil .nil))))) (.node (boot_o_2 P) (.node (boot_o_4 P) (.node (boot_o_8 P) (.node (o952 P) (.node (o968 P) (.node (o9100 P) .nil .nil) .nil) (.node (o984 P) .nil .nil)) (.node (o960 P) (.node (o976 P) .nil .nil) (.node (o992 P) .nil .nil))) (.node (o950 P) (.node (o956 P) (.node (o972 P) (.node (o9104 P) .nil .nil) .nil) (.node (o988 P) .nil .nil)) (.node (o964 P) (.node (o980 P) .nil .nil) (.node (o996 P) .nil .nil)))) (.node (boot_o_6 P) (.node (boot_o_10 P) (.node (o954 P) (.node (o970 P) (.node (o9102 P) .nil .nil) .nil) (.node (o986 P) .nil .nil)) (.node (o962 P) (.node (o978 P) .nil .nil) (.node (o994 P) .nil .nil))) (.node (o946 P) (.node (o958 P) (.node (o974 P) (.node (o9106 P) .nil .nil) .nil) (.node (o990 P) .nil .nil)) (.node (o966 P) (.node (o982 P) .nil .nil) (.node (o998 P) .nil .nil))))))
noncomputable def tree_1669 : Params → BT := fun P => (.node (boot_o_0 P) (.node (boot_o_1 P) (.node (o9107 P) (.node (boot_o_7 P) (.node (o951 P) (.node (o967 P) (.node (o999 P) (.node (o9165 P) .nil .nil) .nil) (.node (o9133 P) .nil .nil)) (.node (o983 P) (.node (o9117 P) .nil .nil) (.node (o9149 P) .nil .nil))) (.node (o959 P) (.node (o975 P) (.node (o9109 P) .nil .nil) (.node (o9141 P) .nil .nil)) (.node (o991 P) (.node (o9125 P) .nil .nil) (.node (o9157 P) .nil .nil)))) (.node (o943 P) (.node (o955 P) (.node (o971 P) (.node (o9103 P) .nil .nil) (.node (o9137 P) .nil .nil)) (.node (o987 P) (.node (o9121 P) .nil .nil) (.node (o9153 P) .nil .nil))) (.node (o963 P) (.node (o979 P) (.node (o9113 P) .nil .nil) (.node (o9145 P) .nil .nil)) (.node (o995 P) (.node (o9129 P) .nil .nil) (.node (o9161 P) .nil .nil))))) (.node (boot_o_5 P) (.node (boot_o_9 P) (.node (o953 P) (.node (o969 P) (.node (o9101 P) .nil .nil) (.node (o9135 P) .nil .nil)) (.node (o985 P) (.node (o9119 P) .nil .nil) (.node (o9151 P) .nil .nil))) (.node (o961 P) (.node (o977 P) (.node (o9111 P) .nil .nil) (.node (o9143 P) .nil .nil)) (.node (o993 P) (.node (o9127 P) .nil .nil) (.node (o9159 P) .nil .nil)))) (.node (o945 P) (.node (o957 P) (.node (o973 P) (.node (o9105 P) .nil .nil) (.node (o9139 P) .nil .nil)) (.node (o989 P) (.node (o9123 P) .nil .nil) (.node (o9155 P) .nil .nil))) (.node (o965 P) (.node (o981 P) (.node (o9115 P) .nil .nil) (.node (o9147 P) .nil .nil)) (.node (o997 P) (.node (o9131 P) .nil .nil) (.node (o9163 P) .nil .nil)))))) (.node (boot_o_2 P) (.node (boot_o_4 P) (.node (boot_o_8 P) (.node (o952 P) (.node (o968 P) (.node (o9100 P) (.node (o9166 P) .nil .nil) .nil) (.node (o9134 P) .nil .nil)) (.node (o984 P) (.node (o9118 P) .nil .nil) (.node (o9150 P) .nil .nil))) (.node (o960 P) (.node (o976 P) (.node (o9110 P) .nil .nil) (.node (o9142 P) .nil .nil)) (.node (o992 P) (.node (o9126 P) .nil .nil) (.node (o9158 P) .nil .nil)))) (.node (o9108 P) (.node (o956 P) (.node (o972 P) (.node (o9104 P) .nil .nil) (.node (o9138 P) .nil .nil)) (.node (o988 P) (.node (o9122 P) .nil .nil) (.node (o9154 P) .nil .nil))) (.node (o964 P) (.node (o980 P) (.node (o9114 P) .nil .nil) (.node (o9146 P) .nil .nil)) (.node (o996 P) (.node (o9130 P) .nil .nil) (.node (o9162 P) .nil .nil))))) (.node (boot_o_6 P) (.node (boot_o_10 P) (.node (o954 P) (.node (o970 P) (.node (o9102 P) .nil .nil) (.node (o9136 P) .nil .nil)) (.node (o986 P) (.node (o9120 P) .nil .nil) (.node (o9152 P) .nil .nil))) (.node (o962 P) (.node (o978 P) (.node (o9112 P) .nil .nil) (.node (o9144 P) .nil .nil)) (.node (o994 P) (.node (o9128 P) .nil .nil) (.node (o9160 P) .nil .nil)))) (.node (o946 P) (.node (o958 P) (.node (o974 P) (.node (o9106 P) .nil .nil) (.node (o9140 P) .nil .nil)) (.node (o990 P) (.node (o9124 P) .nil .nil) (.node (o9156 P) .nil .nil))) (.node (o966 P) (.node (o982 P) (.node (o9116 P) .nil .nil) (.node (o9148 P) .nil .nil)) (.node (o998 P) (.node (o9132 P) .nil .nil) (.node (o9164 P) .nil .nil)))))))
noncomputable def tree_2259 : Params → BT := fun P => (.node (boot_o_0 P) (.node (boot_o_1 P) (.node (o9167 P) (.node (boot_o_7 P) (.node (o951 P) (.node (o967 P) (.node (o999 P) (.node (o9165 P) .nil .nil) .nil) (.node (o9133 P) (.node (o9199 P) .nil .nil) .nil)) (.node (o983 P) (.node (o9117 P) (.node (o9183 P) .nil .nil) .nil) (.node (o9149 P) (.node (o9215 P) .nil .nil) .nil))) (.node (o959 P) (.node (o975 P) (.node (o9109 P) (.node (o9175 P) .nil .nil) .nil) (.node (o9141 P) (.node (o9207 P) .nil .nil) .nil)) (.node (o991 P) (.node (o9125 P) (.node (o9191 P) .nil .nil) .nil) (.node (o9157 P) (.node (o9223 P) .nil .nil) .nil)))) (.node (o943 P) (.node (o955 P) (.node (o971 P) (.node (o9103 P) (.node (o9171 P) .nil .nil) .nil) (.node (o9137 P) (.node (o9203 P) .nil .nil) .nil)) (.node (o987 P) (.node (o9121 P) (.node (o9187 P) .nil .nil) .nil) (.node (o9153 P) (.node (o9219 P) .nil .nil) .nil))) (.node (o963 P) (.node (o979 P) (.node (o9113 P) (.node (o9179 P) .nil .nil) .nil) (.node (o9145 P) (.node (o9211 P) .nil .nil) .nil)) (.node (o995 P) (.node (o9129 P) (.node (o9195 P) .nil .nil) .nil) (.node (o9161 P) .nil .nil))))) (.node (boot_o_5 P) (.node (boot_o_9 P) (.node (o953 P) (.node (o969 P) (.node (o9101 P) (.node (o9169 P) .nil .nil) .nil) (.node (o9135 P) (.node (o9201 P) .nil .nil) .nil)) (.node (o985 P) (.node (o9119 P) (.node (o9185 P) .nil .nil) .nil) (.node (o9151 P) (.node (o9217 P) .nil .nil) .nil))) (.node (o961 P) (.node (o977 P) (.node (o9111 P) (.node (o9177 P) .nil .nil) .nil) (.node (o9143 P) (.node (o9209 P) .nil .nil) .nil)) (.node (o993 P) (.node (o9127 P) (.node (o9193 P) .nil .nil) .nil) (.node (o9159 P) (.node (o9225 P) .nil .nil) .nil)))) (.node (o945 P) (.node (o957 P) (.node (o973 P) (.node (o9105 P) (.node (o9173 P) .nil .nil) .nil) (.node (o9139 P) (.node (o9205 P) .nil .nil) .nil)) (.node (o989 P) (.node (o9123 P) (.node (o9189 P) .nil .nil) .nil) (.node (o9155 P) (.node (o9221 P) .nil .nil) .nil))) (.node (o965 P) (.node (o981 P) (.node (o9115 P) (.node (o9181 P) .nil .nil) .nil) (.node (o9147 P) (.node (o9213 P) .nil .nil) .nil)) (.node (o997 P) (.node (o9131 P) (.node (o9197 P) .nil .nil) .nil) (.node (o9163 P) .nil .nil)))))) (.node (boot_o_2 P) (.node (boot_o_4 P) (.node (boot_o_8 P) (.node (o952 P) (.node (o968 P) (.node (o9100 P) (.node (o9166 P) .nil .nil) .nil) (.node (o9134 P) (.node (o9200 P) .nil .nil) .nil)) (.node (o984 P) (.node (o9118 P) (.node (o9184 P) .nil .nil) .nil) (.node (o9150 P) (.node (o9216 P) .nil .nil) .nil))) (.node (o960 P) (.node (o976 P) (.node (o9110 P) (.node (o9176 P) .nil .nil) .nil) (.node (o9142 P) (.node (o9208 P) .nil .nil) .nil)) (.node (o992 P) (.node (o9126 P) (.node (o9192 P) .nil .nil) .nil) (.node (o9158 P) (.node (o9224 P) .nil .nil) .nil)))) (.node (o9168 P) (.node (o956 P) (.node (o972 P) (.node (o9104 P) (.node (o9172 P) .nil .nil) .nil) (.node (o9138 P) (.node (o9204 P) .nil .nil) .nil)) (.node (o988 P) (.node (o9122 P) (.node (o9188 P) .nil .nil) .nil) (.node (o9154 P) (.node (o9220 P) .nil .nil) .nil))) (.node (o964 P) (.node (o980 P) (.node (o9114 P) (.node (o9180 P) .nil .nil) .nil) (.node (o9146 P) (.node (o9212 P) .nil .nil) .nil)) (.node (o996 P) (.node (o9130 P) (.node (o9196 P) .nil .nil) .nil) (.node (o9162 P) .nil .nil))))) (.node (boot_o_6 P) (.node (boot_o_10 P) (.node (o954 P) (.node (o970 P) (.node (o9102 P) (.node (o9170 P) .nil .nil) .nil) (.node (o9136 P) (.node (o9202 P) .nil .nil) .nil)) (.node (o986 P) (.node (o9120 P) (.node (o9186 P) .nil .nil) .nil) (.node (o9152 P) (.node (o9218 P) .nil .nil) .nil))) (.node (o962 P) (.node (o978 P) (.node (o9112 P) (.node (o9178 P) .nil .nil) .nil) (.node (o9144 P) (.node (o9210 P) .nil .nil) .nil)) (.node (o994 P) (.node (o9128 P) (.node (o9194 P) .nil .nil) .nil) (.node (o9160 P) .nil .nil)))) (.node (o946 P) (.node (o958 P) (.node (o974 P) (.node (o9106 P) (.node (o9174 P) .nil .nil) .nil) (.node (o9140 P) (.node (o9206 P) .nil .nil) .nil)) (.node (o990 P) (.node (o9124 P) (.node (o9190 P) .nil .nil) .nil) (.node (o9156 P) (.node (o9222 P) .nil .nil) .nil))) (.node (o966 P) (.node (o982 P) (.node (o9116 P) (.node (o9182 P) .nil .nil) .nil) (.node (o9148 P) (.node (o9214 P) .nil .nil) .nil)) (.node (o998 P) (.node (o9132 P) (.node (o9198 P) .nil .nil) .nil) (.node (o9164 P) .nil .nil)))))))
noncomputable def tree_2929 : Params → BT := fun P => (.node (boot_o_0 P) (.node (boot_o_1 P) (.node (o9226 P) (.node (boot_o_7 P) (.node (o951 P) (.node (o967 P) (.node (o999 P) (.node (o9165 P) .nil .nil) (.node (o9233 P) .nil .nil)) (.node (o9133 P) (.node (o9199 P) .nil .nil) (.node (o9265 P) .nil .nil))) (.node (o983 P) (.node (o9117 P) (.node (o9183 P) .nil .nil) (.node (o9249 P) .nil .nil)) (.node (o9149 P) (.node (o9215 P) .nil .nil) (.node (o9281 P) .nil .nil)))) (.node (o959 P) (.node (o975 P) (.node (o9109 P) (.node (o9175 P) .nil .nil) (.node (o9241 P) .nil .nil)) (.node (o9141 P) (.node (o9207 P) .nil .nil) (.node (o9273 P) .nil .nil))) (.node (o991 P) (.node (o9125 P) (.node (o9191 P) .nil .nil) (.node (o9257 P) .nil .nil)) (.node (o9157 P) (.node (o9223 P) .nil .nil) (.node (o9289 P) .nil .nil))))) (.node (o943 P) (.node (o955 P) (.node (o971 P) (.node (o9103 P) (.node (o9171 P) .nil .nil) (.node (o9237 P) .nil .nil)) (.node (o9137 P) (.node (o9203 P) .nil .nil) (.node (o9269 P) .nil .nil))) (.node (o987 P) (.node (o9121 P) (.node (o9187 P) .nil .nil) (.node (o9253 P) .nil .nil)) (.node (o9153 P) (.node (o9219 P) .nil .nil) (.node (o9285 P) .nil .nil)))) (.node (o963 P) (.node (o979 P) (.node (o9113 P) (.node (o9179 P) .nil .nil) (.node (o9245 P) .nil .nil)) (.node (o9145 P) (.node (o9211 P) .nil .nil) (.node (o9277 P) .nil .nil))) (.node (o995 P) (.node (o9129 P) (.node (o9195 P) .nil .nil) (.node (o9261 P) .nil .nil)) (.node (o9161 P) (.node (o9229 P) .nil .nil) .nil))))) (.node (boot_o_5 P) (.node (boot_o_9 P) (.node (o953 P) (.node (o969 P) (.node (o9101 P) (.node (o9169 P) .nil .nil) (.node (o9235 P) .nil .nil)) (.node (o9135 P) (.node (o9201 P) .nil .nil) (.node (o9267 P) .nil .nil))) (.node (o985 P) (.node (o9119 P) (.node (o9185 P) .nil .nil) (.node (o9251 P) .nil .nil)) (.node (o9151 P) (.node (o9217 P) .nil .nil) (.node (o9283 P) .nil .nil)))) (.node (o961 P) (.node (o977 P) (.node (o9111 P) (.node (o9177 P) .nil .nil) (.node (o9243 P) .nil .nil)) (.node (o9143 P) (.node (o9209 P) .nil .nil) (.node (o9275 P) .nil .nil))) (.node (o993 P) (.node (o9127 P) (.node (o9193 P) .nil .nil) (.node (o9259 P) .nil .nil)) (.node (o9159 P) (.node (o9225 P) .nil .nil) (.node (o9291 P) .nil .nil))))) (.node (o945 P) (.node (o957 P) (.node (o973 P) (.node (o9105 P) (.node (o9173 P) .nil .nil) (.node (o9239 P) .nil .nil)) (.node (o9139 P) (.node (o9205 P) .nil .nil) (.node (o9271 P) .nil .nil))) (.node (o989 P) (.node (o9123 P) (.node (o9189 P) .nil .nil) (.node (o9255 P) .nil .nil)) (.node (o9155 P) (.node (o9221 P) .nil .nil) (.node (o9287 P) .nil .nil)))) (.node (o965 P) (.node (o981 P) (.node (o9115 P) (.node (o9181 P) .nil .nil) (.node (o9247 P) .nil .nil)) (.node (o9147 P) (.node (o9213 P) .nil .nil) (.node (o9279 P) .nil .nil))) (.node (o997 P) (.node (o9131 P) (.node (o9197 P) .nil .nil) (.node (o9263 P) .nil .nil)) (.node (o9163 P) (.node (o9231 P) .nil .nil) .nil)))))) (.node (boot_o_2 P) (.node (boot_o_4 P) (.node (boot_o_8 P) (.node (o952 P) (.node (o968 P) (.node (o9100 P) (.node (o9166 P) .nil .nil) (.node (o9234 P) .nil .nil)) (.node (o9134 P) (.node (o9200 P) .nil .nil) (.node (o9266 P) .nil .nil))) (.node (o984 P) (.node (o9118 P) (.node (o9184 P) .nil .nil) (.node (o9250 P) .nil .nil)) (.node (o9150 P) (.node (o9216 P) .nil .nil) (.node (o9282 P) .nil .nil)))) (.node (o960 P) (.node (o976 P) (.node (o9110 P) (.node (o9176 P) .nil .nil) (.node (o9242 P) .nil .nil)) (.node (o9142 P) (.node (o9208 P) .nil .nil) (.node (o9274 P) .nil .nil))) (.node (o992 P) (.node (o9126 P) (.node (o9192 P) .nil .nil) (.node (o9258 P) .nil .nil)) (.node (o9158 P) (.node (o9224 P) .nil .nil) (.node (o9290 P) .nil .nil))))) (.node (o9227 P) (.node (o956 P) (.node (o972 P) (.node (o9104 P) (.node (o9172 P) .nil .nil) (.node (o9238 P) .nil .nil)) (.node (o9138 P) (.node (o9204 P) .nil .nil) (.node (o9270 P) .nil .nil))) (.node (o988 P) (.node (o9122 P) (.node (o9188 P) .nil .nil) (.node (o9254 P) .nil .nil)) (.node (o9154 P) (.node (o9220 P) .nil .nil) (.node (o9286 P) .nil .nil)))) (.node (o964 P) (.node (o980 P) (.node (o9114 P) (.node (o9180 P) .nil .nil) (.node (o9246 P) .nil .nil)) (.node (o9146 P) (.node (o9212 P) .nil .nil) (.node (o9278 P) .nil .nil))) (.node (o996 P) (.node (o9130 P) (.node (o9196 P) .nil .nil) (.node (o9262 P) .nil .nil)) (.node (o9162 P) (.node (o9230 P) .nil .nil) .nil))))) (.node (boot_o_6 P) (.node (boot_o_10 P) (.node (o954 P) (.node (o970 P) (.node (o9102 P) (.node (o9170 P) .nil .nil) (.node (o9236 P) .nil .nil)) (.node (o9136 P) (.node (o9202 P) .nil .nil) (.node (o9268 P) .nil .nil))) (.node (o986 P) (.node (o9120 P) (.node (o9186 P) .nil .nil) (.node (o9252 P) .nil .nil)) (.node (o9152 P) (.node (o9218 P) .nil .nil) (.node (o9284 P) .nil .nil)))) (.node (o962 P) (.node (o978 P) (.node (o9112 P) (.node (o9178 P) .nil .nil) (.node (o9244 P) .nil .nil)) (.node (o9144 P) (.node (o9210 P) .nil .nil) (.node (o9276 P) .nil .nil))) (.node (o994 P) (.node (o9128 P) (.node (o9194 P) .nil .nil) (.node (o9260 P) .nil .nil)) (.node (o9160 P) (.node (o9228 P) .nil .nil) (.node (o9292 P) .nil .nil))))) (.node (o946 P) (.node (o958 P) (.node (o974 P) (.node (o9106 P) (.node (o9174 P) .nil .nil) (.node (o9240 P) .nil .nil)) (.node (o9140 P) (.node (o9206 P) .nil .nil) (.node (o9272 P) .nil .nil))) (.node (o990 P) (.node (o9124 P) (.node (o9190 P) .nil .nil) (.node (o9256 P) .nil .nil)) (.node (o9156 P) (.node (o9222 P) .nil .nil) (.node (o9288 P) .nil .nil)))) (.node (o966 P) (.node (o982 P) (.node (o9116 P) (.node (o9182 P) .nil .nil) (.node (o9248 P) .nil .nil)) (.node (o9148 P) (.node (o9214 P) .nil .nil) (.node (o9280 P) .nil .nil))) (.node (o998 P) (.node (o9132 P) (.node (o9198 P) .nil .nil) (.node (o9264 P) .nil .nil)) (.node (o9164 P) (.node (o9232 P) .nil .nil) .nil)))))))
noncomputable def tree_3159 : Params → BT := fun P => (.node (boot_o_0 P) (.node (boot_o_1 P) (.node (o9293 P) (.node (boot_o_7 P) (.node (o951 P) (.node (o967 P) (.node (o999 P) (.node (o9165 P) (.node (o9299 P) .nil .nil) .nil) (.node (o9233 P) .nil .nil)) (.node (o9133 P) (.node (o9199 P) .nil .nil) (.node (o9265 P) .nil .nil))) (.node (o983 P) (.node (o9117 P) (.node (o9183 P) (.node (o9315 P) .nil .nil) .nil) (.node (o9249 P) .nil .nil)) (.node (o9149 P) (.node (o9215 P) .nil .nil) (.node (o9281 P) .nil .nil)))) (.node (o959 P) (.node (o975 P) (.node (o9109 P) (.node (o9175 P) (.node (o9307 P) .nil .nil) .nil) (.node (o9241 P) .nil .nil)) (.node (o9141 P) (.node (o9207 P) .nil .nil) (.node (o9273 P) .nil .nil))) (.node (o991 P) (.node (o9125 P) (.node (o9191 P) .nil .nil) (.node (o9257 P) .nil .nil)) (.node (o9157 P) (.node (o9223 P) .nil .nil) (.node (o9289 P) .nil .nil))))) (.node (o943 P) (.node (o955 P) (.node (o971 P) (.node (o9103 P) (.node (o9171 P) (.node (o9303 P) .nil .nil) .nil) (.node (o9237 P) .nil .nil)) (.node (o9137 P) (.node (o9203 P) .nil .nil) (.node (o9269 P) .nil .nil))) (.node (o987 P) (.node (o9121 P) (.node (o9187 P) .nil .nil) (.node (o9253 P) .nil .nil)) (.node (o9153 P) (.node (o9219 P) .nil .nil) (.node (o9285 P) .nil .nil)))) (.node (o963 P) (.node (o979 P) (.node (o9113 P) (.node (o9179 P) (.node (o9311 P) .nil .nil) .nil) (.node (o9245 P) .nil .nil)) (.node (o9145 P) (.node (o9211 P) .nil .nil) (.node (o9277 P) .nil .nil))) (.node (o995 P) (.node (o9129 P) (.node (o9195 P) .nil .nil) (.node (o9261 P) .nil .nil)) (.node (o9161 P) (.node (o9229 P) .nil .nil) (.node (o9295 P) .nil .nil)))))) (.node (boot_o_5 P) (.node (boot_o_9 P) (.node (o953 P) (.node (o969 P) (.node (o9101 P) (.node (o9169 P) (.node (o9301 P) .nil .nil) .nil) (.node (o9235 P) .nil .nil)) (.node (o9135 P) (.node (o9201 P) .nil .nil) (.node (o9267 P) .nil .nil))) (.node (o985 P) (.node (o9119 P) (.node (o9185 P) .nil .nil) (.node (o9251 P) .nil .nil)) (.node (o9151 P) (.node (o9217 P) .nil .nil) (.node (o9283 P) .nil .nil)))) (.node (o961 P) (.node (o977 P) (.node (o9111 P) (.node (o9177 P) (.node (o9309 P) .nil .nil) .nil) (.node (o9243 P) .nil .nil)) (.node (o9143 P) (.node (o9209 P) .nil .nil) (.node (o9275 P) .nil .nil))) (.node (o993 P) (.node (o9127 P) (.node (o9193 P) .nil .nil) (.node (o9259 P) .nil .nil)) (.node (o9159 P) (.node (o9225 P) .nil .nil) (.node (o9291 P) .nil .nil))))) (.node (o945 P) (.node (o957 P) (.node (o973 P) (.node (o9105 P) (.node (o9173 P) (.node (o9305 P) .nil .nil) .nil) (.node (o9239 P) .nil .nil)) (.node (o9139 P) (.node (o9205 P) .nil .nil) (.node (o9271 P) .nil .nil))) (.node (o989 P) (.node (o9123 P) (.node (o9189 P) .nil .nil) (.node (o9255 P) .nil .nil)) (.node (o9155 P) (.node (o9221 P) .nil .nil) (.node (o9287 P) .nil .nil)))) (.node (o965 P) (.node (o981 P) (.node (o9115 P) (.node (o9181 P) (.node (o9313 P) .nil .nil) .nil) (.node (o9247 P) .nil .nil)) (.node (o9147 P) (.node (o9213 P) .nil .nil) (.node (o9279 P) .nil .nil))) (.node (o997 P) (.node (o9131 P) (.node (o9197 P) .nil .nil) (.node (o9263 P) .nil .nil)) (.node (o9163 P) (.node (o9231 P) .nil .nil) (.node (o9297 P) .nil .nil))))))) (.node (boot_o_2 P) (.node (boot_o_4 P) (.node (boot_o_8 P) (.node (o952 P) (.node (o968 P) (.node (o9100 P) (.node (o9166 P) (.node (o9300 P) .nil .nil) .nil) (.node (o9234 P) .nil .nil)) (.node (o9134 P) (.node (o9200 P) .nil .nil) (.node (o9266 P) .nil .nil))) (.node (o984 P) (.node (o9118 P) (.node (o9184 P) .nil .nil) (.node (o9250 P) .nil .nil)) (.node (o9150 P) (.node (o9216 P) .nil .nil) (.node (o9282 P) .nil .nil)))) (.node (o960 P) (.node (o976 P) (.node (o9110 P) (.node (o9176 P) (.node (o9308 P) .nil .nil) .nil) (.node (o9242 P) .nil .nil)) (.node (o9142 P) (.node (o9208 P) .nil .nil) (.node (o9274 P) .nil .nil))) (.node (o992 P) (.node (o9126 P) (.node (o9192 P) .nil .nil) (.node (o9258 P) .nil .nil)) (.node (o9158 P) (.node (o9224 P) .nil .nil) (.node (o9290 P) .nil .nil))))) (.node (o9294 P) (.node (o956 P) (.node (o972 P) (.node (o9104 P) (.node (o9172 P) (.node (o9304 P) .nil .nil) .nil) (.node (o9238 P) .nil .nil)) (.node (o9138 P) (.node (o9204 P) .nil .nil) (.node (o9270 P) .nil .nil))) (.node (o988 P) (.node (o9122 P) (.node (o9188 P) .nil .nil) (.node (o9254 P) .nil .nil)) (.node (o9154 P) (.node (o9220 P) .nil .nil) (.node (o9286 P) .nil .nil)))) (.node (o964 P) (.node (o980 P) (.node (o9114 P) (.node (o9180 P) (.node (o9312 P) .nil .nil) .nil) (.node (o9246 P) .nil .nil)) (.node (o9146 P) (.node (o9212 P) .nil .nil) (.node (o9278 P) .nil .nil))) (.node (o996 P) (.node (o9130 P) (.node (o9196 P) .nil .nil) (.node (o9262 P) .nil .nil)) (.node (o9162 P) (.node (o9230 P) .nil .nil) (.node (o9296 P) .nil .nil)))))) (.node (boot_o_6 P) (.node (boot_o_10 P) (.node (o954 P) (.node (o970 P) (.node (o9102 P) (.node (o9170 P) (.node (o9302 P) .nil .nil) .nil) (.node (o9236 P) .nil .nil)) (.node (o9136 P) (.node (o9202 P) .nil .nil) (.node (o9268 P) .nil .nil))) (.node (o986 P) (.node (o9120 P) (.node (o9186 P) .nil .nil) (.node (o9252 P) .nil .nil)) (.node (o9152 P) (.node (o9218 P) .nil .nil) (.node (o9284 P) .nil .nil)))) (.node (o962 P) (.node (o978 P) (.node (o9112 P) (.node (o9178 P) (.node (o9310 P) .nil .nil) .nil) (.node (o9244 P) .nil .nil)) (.node (o9144 P) (.node (o9210 P) .nil .nil) (.node (o9276 P) .nil .nil))) (.node (o994 P) (.node (o9128 P) (.node (o9194 P) .nil .nil) (.node (o9260 P) .nil .nil)) (.node (o9160 P) (.node (o9228 P) .nil .nil) (.node (o9292 P) .nil .nil))))) (.node (o946 P) (.node (o958 P) (.node (o974 P) (.node (o9106 P) (.node (o9174 P) (.node (o9306 P) .nil .nil) .nil) (.node (o9240 P) .nil .nil)) (.node (o9140 P) (.node (o9206 P) .nil .nil) (.node (o9272 P) .nil .nil))) (.node (o990 P) (.node (o9124 P) (.node (o9190 P) .nil .nil) (.node (o9256 P) .nil .nil)) (.node (o9156 P) (.node (o9222 P) .nil .nil) (.node (o9288 P) .nil .nil)))) (.node (o966 P) (.node (o982 P) (.node (o9116 P) (.node (o9182 P) (.node (o9314 P) .nil .nil) .nil) (.node (o9248 P) .nil .nil)) (.node (o9148 P) (.node (o9214 P) .nil .nil) (.node (o9280 P) .nil .nil))) (.node (o998 P) (.node (o9132 P) (.node (o9198 P) .nil .nil) (.node (o9264 P) .nil .nil)) (.node (o9164 P) (.node (o9232 P) .nil .nil) (.node (o9298 P) .nil .nil))))))))
noncomputable def heap_469 : Params → Heap := fun P => ⟨⟨boot_o_0 P :: boot_o_1 P :: boot_o_2 P :: boot_o_3 P :: boot_o_4 P :: boot_o_5 P :: boot_o_6 P :: boot_o_7 P :: boot_o_8 P :: boot_o_9 P :: boot_o_10 P :: o943 P :: o944 P :: o945 P :: o946 P :: []⟩, {}⟩
noncomputable def env9 : Env := { scope := prog0.main.scope, locals := mainNs, globals := mainNs, cells := [], code := Value.ref 13, frame := some 14 }
noncomputable def stub9 : Code := Code.body (behindTheImports prog0) env9
def pos9 : Pos := ⟨0, 0, 0, 0⟩
/-- so many of a list's, behind so many -/
def part9 : List Stmt → Nat → Nat → List Stmt
  | _ :: r, a + 1, n => part9 r a n
  | s :: r, 0, n + 1 => s :: part9 r 0 n
  | _, _, _ => []
theorem pre9 : ∀ (w : World) (os : OsState), topGo treeTable prog0 w 11 (some (.ref 6)) 12 ⟨boot_heap w.params, #[], boot_drawn, boot_toks, os⟩ (topStub prog0) =
    some (⟨heap_469 w.params, #[], {}, 187, os⟩, ⟨denote treeTable stub9, stub9, pos9, [topFrame pos9]⟩) := by
  intro w os
  kernel_rfl
theorem block9 : ∀ (w : World) (os : OsState), segRun treeTable prog0 w 11 (some (.ref 6)) 1 1 ⟨heap_469 w.params, #[], {}, 187, os⟩ (blockOf (behindTheImports prog0) env9 stub9 pos9 [topFrame pos9]) =
    some (.next, (⟨tree_479 w.params, 15, {}, #[], {}, 187, os⟩ : SharedT).abs, stub9, pos9) := by
  intro w os
  kernel_rfl
theorem seg09 : ∀ (w : World) (os : OsState), segRunT treeTable prog0 w 11 (some (.ref 6)) 1 373 ⟨tree_479 w.params, 15, {}, #[], {}, 187, os⟩ (piecesOf (part9 (behindTheImports prog0) 0 20) env9 stub9 pos9 [topFrame pos9]) =
    some (.next, ⟨tree_1069 w.params, 71, {}, #[], {}, 291, os⟩, stub9, (⟨52, 0, 52, 22⟩ : Pos)) := by
  intro w os
  kernel_rfl
theorem seg19 : ∀ (w : World) (os : OsState), segRunT treeTable prog0 w 11 (some (.ref 6)) 1 385 ⟨tree_1069 w.params, 71, {}, #[], {}, 291, os⟩ (piecesOf (part9 (behindTheImports prog0) 20 21) env9 stub9 (⟨52, 0, 52, 22⟩ : Pos) [topFrame pos9]) =
    some (.next, ⟨tree_1669 w.params, 129, {}, #[], {}, 388, os⟩, stub9, (⟨96, 0, 96, 13⟩ : Pos)) := by
  intro w os
  kernel_rfl
theorem seg29 : ∀ (w : World) (os : OsState), segRunT treeTable prog0 w 11 (some (.ref 6)) 1 373 ⟨tree_1669 w.params, 129, {}, #[], {}, 388, os⟩ (piecesOf (part9 (behindTheImports prog0) 41 20) env9 stub9 (⟨96, 0, 96, 13⟩ : Pos) [topFrame pos9]) =
    some (.next, ⟨tree_2259 w.params, 186, {}, #[], {}, 484, os⟩, stub9, (⟨156, 0, 156, 25⟩ : Pos)) := by
  intro w os
  kernel_rfl
theorem seg39 : ∀ (w : World) (os : OsState), segRunT treeTable prog0 w 11 (some (.ref 6)) 1 372 ⟨tree_2259 w.params, 186, {}, #[], {}, 484, os⟩ (piecesOf (part9 (behindTheImports prog0) 61 18) env9 stub9 (⟨156, 0, 156, 25⟩ : Pos) [topFrame pos9]) =
    some (.next, ⟨tree_2929 w.params, 251, {}, #[], {}, 582, os⟩, stub9, (⟨221, 0, 241, 86⟩ : Pos)) := by
  intro w os
  kernel_rfl
theorem seg49 : ∀ (w : World) (os : OsState), segRunT treeTable prog0 w 11 (some (.ref 6)) 1 102 ⟨tree_2929 w.params, 251, {}, #[], {}, 582, os⟩ (piecesOf (part9 (behindTheImports prog0) 79 3) env9 stub9 (⟨221, 0, 241, 86⟩ : Pos) [topFrame pos9]) =
    some (.next, ⟨tree_3159 w.params, 272, {}, #[], {}, 617, os⟩, stub9, (⟨266, 0, 291, 15⟩ : Pos)) := by
  intro w os
  kernel_rfl
noncomputable def end9 : Params → Heap := fun P => absHeap (tree_3159 P) 272 {}
theorem fin9 : ∀ (w : World) (os : OsState), topRun treeTable prog0 w 11 (some (.ref 6)) 2 (⟨tree_3159 w.params, 272, {}, #[], {}, 617, os⟩ : SharedT).abs ⟨doneF Flow.next, stub9, (⟨266, 0, 291, 15⟩ : Pos), [topFrame pos9]⟩ = some ⟨end9 w.params, #[], {}, 617, os⟩ := by
  intro w os
  kernel_rfl
theorem body9 : behindTheImports prog0 = (part9 (behindTheImports prog0) 0 20 ++ (part9 (behindTheImports prog0) 20 21 ++ (part9 (behindTheImports prog0) 41 20 ++ (part9 (behindTheImports prog0) 61 18 ++ (part9 (behindTheImports prog0) 79 3 ++ []))))) := by kernel_rfl
theorem run9 : ∀ (w : World) (os : OsState), topRun treeTable prog0 w 11 (some (.ref 6)) (12 + (1 + (373 + (385 + (373 + (372 + (102 + 2))))))) ⟨boot_heap w.params, #[], boot_drawn, boot_toks, os⟩ (topStub prog0) = some ⟨end9 w.params, #[], {}, 617, os⟩ := by
  intro w os
  refine go_top (pre9 w os) ?_
  refine piece_block (env := env9) (b := behindTheImports prog0) (block9 w os) ?_
  rw [show restOf (behindTheImports prog0) env9 = restOf (part9 (behindTheImports prog0) 0 20 ++ (part9 (behindTheImports prog0) 20 21 ++ (part9 (behindTheImports prog0) 41 20 ++ (part9 (behindTheImports prog0) 61 18 ++ (part9 (behindTheImports prog0) 79 3 ++ []))))) env9 from congrArg (fun b => restOf b env9) body9]
  refine piece_app (segRun_of (seg09 w os)) ?_
  refine piece_app (segRun_of (seg19 w os)) ?_
  refine piece_app (segRun_of (seg29 w os)) ?_
  refine piece_app (segRun_of (seg39 w os)) ?_
  refine piece_app (segRun_of (seg49 w os)) ?_
  exact fin9 w os

end Mine

namespace Mine
noncomputable def loose9 : List Str := [Str.ofString "legal_date_gregorian", Str.ofString "to_jd", Str.ofString "to_jd_gregorian", Str.ofString "month_length", Str.ofString "month_length_gregorian", Str.ofString "monthcalendar", Str.ofString "monthcalendar_gregorian", Str.ofString "leap_julian", Str.ofString "month_length_julian", Str.ofString "legal_date_julian", Str.ofString "to_jd_julian", Str.ofString "monthcalendar_julian", Str.ofString "leap_islamic", Str.ofString "to_jd_islamic", Str.ofString "month_length_islamic", Str.ofString "monthcalendar_islamic", Str.ofString "to_jd_coptic", Str.ofString "month_length_coptic", Str.ofString "monthcalendar_coptic", Str.ofString "to_jd_indian_civil", Str.ofString "month_length_indian_civil", Str.ofString "monthcalendar_indian_civil", Str.ofString "_valid_date", Str.ofString "leap_armenian", Str.ofString "to_jd_armenian", Str.ofString "month_length_armenian", Str.ofString "monthcalendar_armenian"]
theorem open9 : ∀ w : World, (fencedOpening treeTable prog0 w 3326).map (fun s => (s.heap, s.gens, s.drawn, s.toks)) = some (boot_heap w.params, #[], boot_drawn, boot_toks) := by
  intro w
  kernel_rfl
theorem size9 : ∀ w : World, ((boot_heap w.params).isNs mainGlobals && (#[] : Array GenState).size == 0, (boot_heap w.params).objs.size, (boot_heap w.params).nsMap mainGlobals "__annotations__") = (true, 11, some (.ref 6)) := by
  intro w
  kernel_rfl
theorem stat9 : ∀ (w : World) (os : OsState), (staticsOk (importedModules prog0.main.body) (boot_heap w.params) (end9 w.params) && namesBound prog0 (end9 w.params) && gensDone ⟨end9 w.params, #[], {}, 617, os⟩ && laidKept (boot_heap w.params) (end9 w.params)) = true := by
  intro w os
  kernel_rfl
theorem obs9 : ∀ (w : World) (os : OsState), Hook.obs (kHook hd.heap_39 [nat_lit 3, nat_lit 15, nat_lit 21, nat_lit 22, nat_lit 28, nat_lit 29, nat_lit 35, nat_lit 36, nat_lit 42, nat_lit 43, nat_lit 47, nat_lit 48, nat_lit 49, nat_lit 55, nat_lit 56, nat_lit 62, nat_lit 63, nat_lit 69, nat_lit 70, nat_lit 76, nat_lit 77, nat_lit 78, nat_lit 84, nat_lit 85, nat_lit 91, nat_lit 92, nat_lit 98, nat_lit 99, nat_lit 105, nat_lit 106, nat_lit 112, nat_lit 113, nat_lit 114, nat_lit 120, nat_lit 121, nat_lit 127, nat_lit 128, nat_lit 134, nat_lit 135, nat_lit 141, nat_lit 142, nat_lit 148, nat_lit 149, nat_lit 155, nat_lit 156, nat_lit 162, nat_lit 163, nat_lit 169, nat_lit 170, nat_lit 171, nat_lit 177, nat_lit 178, nat_lit 184, nat_lit 185, nat_lit 191, nat_lit 192, nat_lit 193, nat_lit 199, nat_lit 200, nat_lit 206, nat_lit 207, nat_lit 208, nat_lit 214, nat_lit 215, nat_lit 216, nat_lit 222, nat_lit 223, nat_lit 224, nat_lit 230, nat_lit 231, nat_lit 237, nat_lit 238, nat_lit 244, nat_lit 245, nat_lit 249, nat_lit 250, nat_lit 256, nat_lit 257, nat_lit 263, nat_lit 264, nat_lit 270, nat_lit 271] (fun _ => by kernel_rfl)) ⟨end9 w.params, #[], {}, 617, os⟩ = Hook.val (kHook hd.heap_39 [nat_lit 3, nat_lit 15, nat_lit 21, nat_lit 22, nat_lit 28, nat_lit 29, nat_lit 35, nat_lit 36, nat_lit 42, nat_lit 43, nat_lit 47, nat_lit 48, nat_lit 49, nat_lit 55, nat_lit 56, nat_lit 62, nat_lit 63, nat_lit 69, nat_lit 70, nat_lit 76, nat_lit 77, nat_lit 78, nat_lit 84, nat_lit 85, nat_lit 91, nat_lit 92, nat_lit 98, nat_lit 99, nat_lit 105, nat_lit 106, nat_lit 112, nat_lit 113, nat_lit 114, nat_lit 120, nat_lit 121, nat_lit 127, nat_lit 128, nat_lit 134, nat_lit 135, nat_lit 141, nat_lit 142, nat_lit 148, nat_lit 149, nat_lit 155, nat_lit 156, nat_lit 162, nat_lit 163, nat_lit 169, nat_lit 170, nat_lit 171, nat_lit 177, nat_lit 178, nat_lit 184, nat_lit 185, nat_lit 191, nat_lit 192, nat_lit 193, nat_lit 199, nat_lit 200, nat_lit 206, nat_lit 207, nat_lit 208, nat_lit 214, nat_lit 215, nat_lit 216, nat_lit 222, nat_lit 223, nat_lit 224, nat_lit 230, nat_lit 231, nat_lit 237, nat_lit 238, nat_lit 244, nat_lit 245, nat_lit 249, nat_lit 250, nat_lit 256, nat_lit 257, nat_lit 263, nat_lit 264, nat_lit 270, nat_lit 271] (fun _ => by kernel_rfl)) w := by
  intro w os
  kernel_rfl
theorem seenA9 : ∀ (w : World) (os : OsState), (openSeen hd.view_39 loose9 (importedModules prog0.main.body) (fun s => xlAt hd.view_39 [] s && recOk (RowW.records PySem.Challenge.rw_jb0011_01.row.toRowW) s) true ⟨end9 w.params, #[], {}, 617, os⟩).1 = (openGood hd.view_39 loose9).1 := by
  intro w os
  unfold openSeen openGood
  dsimp only
  kernel_rfl
theorem seenB9 : ∀ (w : World) (os : OsState), (openSeen hd.view_39 loose9 (importedModules prog0.main.body) (fun s => xlAt hd.view_39 [] s && recOk (RowW.records PySem.Challenge.rw_jb0011_01.row.toRowW) s) true ⟨end9 w.params, #[], {}, 617, os⟩).2.1 = (openGood hd.view_39 loose9).2.1 := by
  intro w os
  unfold openSeen openGood
  dsimp only
  kernel_rfl
theorem seenC9 : ∀ (w : World) (os : OsState), (openSeen hd.view_39 loose9 (importedModules prog0.main.body) (fun s => xlAt hd.view_39 [] s && recOk (RowW.records PySem.Challenge.rw_jb0011_01.row.toRowW) s) true ⟨end9 w.params, #[], {}, 617, os⟩).2.2.1 = (openGood hd.view_39 loose9).2.2.1 := by
  intro w os
  unfold openSeen openGood
  dsimp only
  kernel_rfl
theorem seenD9 : ∀ (w : World) (os : OsState), (openSeen hd.view_39 loose9 (importedModules prog0.main.body) (fun s => xlAt hd.view_39 [] s && recOk (RowW.records PySem.Challenge.rw_jb0011_01.row.toRowW) s) true ⟨end9 w.params, #[], {}, 617, os⟩).2.2.2.1 = (openGood hd.view_39 loose9).2.2.2.1 := by
  intro w os
  unfold openSeen openGood
  dsimp only
  kernel_rfl
theorem seenE9 : ∀ (w : World) (os : OsState), (openSeen hd.view_39 loose9 (importedModules prog0.main.body) (fun s => xlAt hd.view_39 [] s && recOk (RowW.records PySem.Challenge.rw_jb0011_01.row.toRowW) s) true ⟨end9 w.params, #[], {}, 617, os⟩).2.2.2.2.1 = (openGood hd.view_39 loose9).2.2.2.2.1 := by
  intro w os
  unfold openSeen openGood
  dsimp only
  kernel_rfl
theorem seenF9 : ∀ (w : World) (os : OsState), (openSeen hd.view_39 loose9 (importedModules prog0.main.body) (fun s => xlAt hd.view_39 [] s && recOk (RowW.records PySem.Challenge.rw_jb0011_01.row.toRowW) s) true ⟨end9 w.params, #[], {}, 617, os⟩).2.2.2.2.2.1 = (openGood hd.view_39 loose9).2.2.2.2.2.1 := by
  intro w os
  unfold openSeen openGood
  dsimp only
  kernel_rfl
theorem seenG9 : ∀ (w : World) (os : OsState), (openSeen hd.view_39 loose9 (importedModules prog0.main.body) (fun s => xlAt hd.view_39 [] s && recOk (RowW.records PySem.Challenge.rw_jb0011_01.row.toRowW) s) true ⟨end9 w.params, #[], {}, 617, os⟩).2.2.2.2.2.2.1 = (openGood hd.view_39 loose9).2.2.2.2.2.2.1 := by
  intro w os
  unfold openSeen openGood
  dsimp only
  kernel_rfl
theorem seenH9 : ∀ (w : World) (os : OsState), (openSeen hd.view_39 loose9 (importedModules prog0.main.body) (fun s => xlAt hd.view_39 [] s && recOk (RowW.records PySem.Challenge.rw_jb0011_01.row.toRowW) s) true ⟨end9 w.params, #[], {}, 617, os⟩).2.2.2.2.2.2.2.1 = (openGood hd.view_39 loose9).2.2.2.2.2.2.2.1 := by
  intro w os
  unfold openSeen openGood
  dsimp only
  kernel_rfl
theorem seenI9 : ∀ (w : World) (os : OsState), (openSeen hd.view_39 loose9 (importedModules prog0.main.body) (fun s => xlAt hd.view_39 [] s && recOk (RowW.records PySem.Challenge.rw_jb0011_01.row.toRowW) s) true ⟨end9 w.params, #[], {}, 617, os⟩).2.2.2.2.2.2.2.2 = (openGood hd.view_39 loose9).2.2.2.2.2.2.2.2 := by
  intro w os
  unfold openSeen openGood
  dsimp only
  kernel_rfl
theorem pack9 {A0 A1 A2 A3 A4 A5 A6 A7 A8 α : Type} {b : Bool} {x y : α} {s g : A0 × A1 × A2 × A3 × A4 × A5 × A6 × A7 × A8} (hb : b = true) (h0 : s.1 = g.1) (h1 : s.2.1 = g.2.1) (h2 : s.2.2.1 = g.2.2.1) (h3 : s.2.2.2.1 = g.2.2.2.1) (h4 : s.2.2.2.2.1 = g.2.2.2.2.1) (h5 : s.2.2.2.2.2.1 = g.2.2.2.2.2.1) (h6 : s.2.2.2.2.2.2.1 = g.2.2.2.2.2.2.1) (h7 : s.2.2.2.2.2.2.2.1 = g.2.2.2.2.2.2.2.1) (h8 : s.2.2.2.2.2.2.2.2 = g.2.2.2.2.2.2.2.2) (ho : x = y) : (b, s, x) = (true, g, y) :=
  Prod.ext hb (Prod.ext (Prod.ext h0 (Prod.ext h1 (Prod.ext h2 (Prod.ext h3 (Prod.ext h4 (Prod.ext h5 (Prod.ext h6 (Prod.ext h7 h8)))))))) ho)
theorem looks9 : ∀ w : World, (fun os => ((staticsOk (importedModules prog0.main.body) (boot_heap w.params) (end9 w.params) && namesBound prog0 (end9 w.params) && gensDone ⟨end9 w.params, #[], {}, 617, os⟩ && laidKept (boot_heap w.params) (end9 w.params)),
        openSeen hd.view_39 loose9 (importedModules prog0.main.body) (fun s => xlAt hd.view_39 [] s && recOk (RowW.records PySem.Challenge.rw_jb0011_01.row.toRowW) s) true ⟨end9 w.params, #[], {}, 617, os⟩, Hook.obs (kHook hd.heap_39 [nat_lit 3, nat_lit 15, nat_lit 21, nat_lit 22, nat_lit 28, nat_lit 29, nat_lit 35, nat_lit 36, nat_lit 42, nat_lit 43, nat_lit 47, nat_lit 48, nat_lit 49, nat_lit 55, nat_lit 56, nat_lit 62, nat_lit 63, nat_lit 69, nat_lit 70, nat_lit 76, nat_lit 77, nat_lit 78, nat_lit 84, nat_lit 85, nat_lit 91, nat_lit 92, nat_lit 98, nat_lit 99, nat_lit 105, nat_lit 106, nat_lit 112, nat_lit 113, nat_lit 114, nat_lit 120, nat_lit 121, nat_lit 127, nat_lit 128, nat_lit 134, nat_lit 135, nat_lit 141, nat_lit 142, nat_lit 148, nat_lit 149, nat_lit 155, nat_lit 156, nat_lit 162, nat_lit 163, nat_lit 169, nat_lit 170, nat_lit 171, nat_lit 177, nat_lit 178, nat_lit 184, nat_lit 185, nat_lit 191, nat_lit 192, nat_lit 193, nat_lit 199, nat_lit 200, nat_lit 206, nat_lit 207, nat_lit 208, nat_lit 214, nat_lit 215, nat_lit 216, nat_lit 222, nat_lit 223, nat_lit 224, nat_lit 230, nat_lit 231, nat_lit 237, nat_lit 238, nat_lit 244, nat_lit 245, nat_lit 249, nat_lit 250, nat_lit 256, nat_lit 257, nat_lit 263, nat_lit 264, nat_lit 270, nat_lit 271] (fun _ => by kernel_rfl)) ⟨end9 w.params, #[], {}, 617, os⟩)) = fun _ => (true, openGood hd.view_39 loose9, Hook.val (kHook hd.heap_39 [nat_lit 3, nat_lit 15, nat_lit 21, nat_lit 22, nat_lit 28, nat_lit 29, nat_lit 35, nat_lit 36, nat_lit 42, nat_lit 43, nat_lit 47, nat_lit 48, nat_lit 49, nat_lit 55, nat_lit 56, nat_lit 62, nat_lit 63, nat_lit 69, nat_lit 70, nat_lit 76, nat_lit 77, nat_lit 78, nat_lit 84, nat_lit 85, nat_lit 91, nat_lit 92, nat_lit 98, nat_lit 99, nat_lit 105, nat_lit 106, nat_lit 112, nat_lit 113, nat_lit 114, nat_lit 120, nat_lit 121, nat_lit 127, nat_lit 128, nat_lit 134, nat_lit 135, nat_lit 141, nat_lit 142, nat_lit 148, nat_lit 149, nat_lit 155, nat_lit 156, nat_lit 162, nat_lit 163, nat_lit 169, nat_lit 170, nat_lit 171, nat_lit 177, nat_lit 178, nat_lit 184, nat_lit 185, nat_lit 191, nat_lit 192, nat_lit 193, nat_lit 199, nat_lit 200, nat_lit 206, nat_lit 207, nat_lit 208, nat_lit 214, nat_lit 215, nat_lit 216, nat_lit 222, nat_lit 223, nat_lit 224, nat_lit 230, nat_lit 231, nat_lit 237, nat_lit 238, nat_lit 244, nat_lit 245, nat_lit 249, nat_lit 250, nat_lit 256, nat_lit 257, nat_lit 263, nat_lit 264, nat_lit 270, nat_lit 271] (fun _ => by kernel_rfl)) w) := by
  intro w
  funext os
  exact pack9 (stat9 w os) (seenA9 w os) (seenB9 w os) (seenC9 w os) (seenD9 w os) (seenE9 w os) (seenF9 w os) (seenG9 w os) (seenH9 w os) (seenI9 w os) (obs9 w os)
theorem left : LeftO PySem.Challenge.rw_jb0011_01.row.toRowW.prog hd.view_39 loose9 (fun s => xlAt hd.view_39 [] s && recOk (RowW.records PySem.Challenge.rw_jb0011_01.row.toRowW) s) (Hook.obs (kHook hd.heap_39 [nat_lit 3, nat_lit 15, nat_lit 21, nat_lit 22, nat_lit 28, nat_lit 29, nat_lit 35, nat_lit 36, nat_lit 42, nat_lit 43, nat_lit 47, nat_lit 48, nat_lit 49, nat_lit 55, nat_lit 56, nat_lit 62, nat_lit 63, nat_lit 69, nat_lit 70, nat_lit 76, nat_lit 77, nat_lit 78, nat_lit 84, nat_lit 85, nat_lit 91, nat_lit 92, nat_lit 98, nat_lit 99, nat_lit 105, nat_lit 106, nat_lit 112, nat_lit 113, nat_lit 114, nat_lit 120, nat_lit 121, nat_lit 127, nat_lit 128, nat_lit 134, nat_lit 135, nat_lit 141, nat_lit 142, nat_lit 148, nat_lit 149, nat_lit 155, nat_lit 156, nat_lit 162, nat_lit 163, nat_lit 169, nat_lit 170, nat_lit 171, nat_lit 177, nat_lit 178, nat_lit 184, nat_lit 185, nat_lit 191, nat_lit 192, nat_lit 193, nat_lit 199, nat_lit 200, nat_lit 206, nat_lit 207, nat_lit 208, nat_lit 214, nat_lit 215, nat_lit 216, nat_lit 222, nat_lit 223, nat_lit 224, nat_lit 230, nat_lit 231, nat_lit 237, nat_lit 238, nat_lit 244, nat_lit 245, nat_lit 249, nat_lit 250, nat_lit 256, nat_lit 257, nat_lit 263, nat_lit 264, nat_lit 270, nat_lit 271] (fun _ => by kernel_rfl))) (Hook.val (kHook hd.heap_39 [nat_lit 3, nat_lit 15, nat_lit 21, nat_lit 22, nat_lit 28, nat_lit 29, nat_lit 35, nat_lit 36, nat_lit 42, nat_lit 43, nat_lit 47, nat_lit 48, nat_lit 49, nat_lit 55, nat_lit 56, nat_lit 62, nat_lit 63, nat_lit 69, nat_lit 70, nat_lit 76, nat_lit 77, nat_lit 78, nat_lit 84, nat_lit 85, nat_lit 91, nat_lit 92, nat_lit 98, nat_lit 99, nat_lit 105, nat_lit 106, nat_lit 112, nat_lit 113, nat_lit 114, nat_lit 120, nat_lit 121, nat_lit 127, nat_lit 128, nat_lit 134, nat_lit 135, nat_lit 141, nat_lit 142, nat_lit 148, nat_lit 149, nat_lit 155, nat_lit 156, nat_lit 162, nat_lit 163, nat_lit 169, nat_lit 170, nat_lit 171, nat_lit 177, nat_lit 178, nat_lit 184, nat_lit 185, nat_lit 191, nat_lit 192, nat_lit 193, nat_lit 199, nat_lit 200, nat_lit 206, nat_lit 207, nat_lit 208, nat_lit 214, nat_lit 215, nat_lit 216, nat_lit 222, nat_lit 223, nat_lit 224, nat_lit 230, nat_lit 231, nat_lit 237, nat_lit 238, nat_lit 244, nat_lit 245, nat_lit 249, nat_lit 250, nat_lit 256, nat_lit 257, nat_lit 263, nat_lit 264, nat_lit 270, nat_lit 271] (fun _ => by kernel_rfl))) 3326 :=
  LeftO.of_pieces (H₀ := boot_heap) (H₁ := end9) open9 size9 run9 (by decide) looks9
theorem said : PySem.Challenge.rw_jb0011_01.wellSaid = true := by
  unfold OpenLaw.wellSaid
  repeat' (with_reducible refine look_both ?_ ?_)
  all_goals try unfold OpenRow.wellSaid
  all_goals (repeat' (with_reducible refine look_both ?_ ?_))
  all_goals try unfold OpenRow.partSaid
  all_goals (repeat' (with_reducible refine look_both ?_ ?_))
  all_goals try unfold looksOpen
  all_goals (repeat' (with_reducible refine look_both ?_ ?_))
  all_goals decide +kernel
theorem hd {d : DefRec} {kwd : List (Str × Expr)} (hdef : defOf hd.view_39 PySem.Challenge.rw_jb0011_01.row.toRowW.name = some (d, kwd)) (hp : PySem.Challenge.rw_jb0011_01.row.toRowW.prog.theDef PySem.Challenge.rw_jb0011_01.row.toRowW.name = some (d.params, d.body, d.scope))
    (hk : kwWritten? d.params.kwonlyargs d.params.kw_defaults = some kwd)
    (call : WalkO hd.view_39 loose9 (XL hd.view_39 []) (Hook.says (kHook hd.heap_39 [nat_lit 3, nat_lit 15, nat_lit 21, nat_lit 22, nat_lit 28, nat_lit 29, nat_lit 35, nat_lit 36, nat_lit 42, nat_lit 43, nat_lit 47, nat_lit 48, nat_lit 49, nat_lit 55, nat_lit 56, nat_lit 62, nat_lit 63, nat_lit 69, nat_lit 70, nat_lit 76, nat_lit 77, nat_lit 78, nat_lit 84, nat_lit 85, nat_lit 91, nat_lit 92, nat_lit 98, nat_lit 99, nat_lit 105, nat_lit 106, nat_lit 112, nat_lit 113, nat_lit 114, nat_lit 120, nat_lit 121, nat_lit 127, nat_lit 128, nat_lit 134, nat_lit 135, nat_lit 141, nat_lit 142, nat_lit 148, nat_lit 149, nat_lit 155, nat_lit 156, nat_lit 162, nat_lit 163, nat_lit 169, nat_lit 170, nat_lit 171, nat_lit 177, nat_lit 178, nat_lit 184, nat_lit 185, nat_lit 191, nat_lit 192, nat_lit 193, nat_lit 199, nat_lit 200, nat_lit 206, nat_lit 207, nat_lit 208, nat_lit 214, nat_lit 215, nat_lit 216, nat_lit 222, nat_lit 223, nat_lit 224, nat_lit 230, nat_lit 231, nat_lit 237, nat_lit 238, nat_lit 244, nat_lit 245, nat_lit 249, nat_lit 250, nat_lit 256, nat_lit 257, nat_lit 263, nat_lit 264, nat_lit 270, nat_lit 271] (fun _ => by kernel_rfl))) PySem.Challenge.rw_jb0011_01.row.toRowW d kwd fun f vs => PySem.call f vs) : PySem.Challenge.rw_jb0011_01.Holds := by
  refine holds_law said fun said' => ?_
  refine holds_open (Xt := (fun s => xlAt hd.view_39 [] s && recOk (RowW.records PySem.Challenge.rw_jb0011_01.row.toRowW) s)) (Yf := Hook.obs (kHook hd.heap_39 [nat_lit 3, nat_lit 15, nat_lit 21, nat_lit 22, nat_lit 28, nat_lit 29, nat_lit 35, nat_lit 36, nat_lit 42, nat_lit 43, nat_lit 47, nat_lit 48, nat_lit 49, nat_lit 55, nat_lit 56, nat_lit 62, nat_lit 63, nat_lit 69, nat_lit 70, nat_lit 76, nat_lit 77, nat_lit 78, nat_lit 84, nat_lit 85, nat_lit 91, nat_lit 92, nat_lit 98, nat_lit 99, nat_lit 105, nat_lit 106, nat_lit 112, nat_lit 113, nat_lit 114, nat_lit 120, nat_lit 121, nat_lit 127, nat_lit 128, nat_lit 134, nat_lit 135, nat_lit 141, nat_lit 142, nat_lit 148, nat_lit 149, nat_lit 155, nat_lit 156, nat_lit 162, nat_lit 163, nat_lit 169, nat_lit 170, nat_lit 171, nat_lit 177, nat_lit 178, nat_lit 184, nat_lit 185, nat_lit 191, nat_lit 192, nat_lit 193, nat_lit 199, nat_lit 200, nat_lit 206, nat_lit 207, nat_lit 208, nat_lit 214, nat_lit 215, nat_lit 216, nat_lit 222, nat_lit 223, nat_lit 224, nat_lit 230, nat_lit 231, nat_lit 237, nat_lit 238, nat_lit 244, nat_lit 245, nat_lit 249, nat_lit 250, nat_lit 256, nat_lit 257, nat_lit 263, nat_lit 264, nat_lit 270, nat_lit 271] (fun _ => by kernel_rfl))) (Ya := Hook.val (kHook hd.heap_39 [nat_lit 3, nat_lit 15, nat_lit 21, nat_lit 22, nat_lit 28, nat_lit 29, nat_lit 35, nat_lit 36, nat_lit 42, nat_lit 43, nat_lit 47, nat_lit 48, nat_lit 49, nat_lit 55, nat_lit 56, nat_lit 62, nat_lit 63, nat_lit 69, nat_lit 70, nat_lit 76, nat_lit 77, nat_lit 78, nat_lit 84, nat_lit 85, nat_lit 91, nat_lit 92, nat_lit 98, nat_lit 99, nat_lit 105, nat_lit 106, nat_lit 112, nat_lit 113, nat_lit 114, nat_lit 120, nat_lit 121, nat_lit 127, nat_lit 128, nat_lit 134, nat_lit 135, nat_lit 141, nat_lit 142, nat_lit 148, nat_lit 149, nat_lit 155, nat_lit 156, nat_lit 162, nat_lit 163, nat_lit 169, nat_lit 170, nat_lit 171, nat_lit 177, nat_lit 178, nat_lit 184, nat_lit 185, nat_lit 191, nat_lit 192, nat_lit 193, nat_lit 199, nat_lit 200, nat_lit 206, nat_lit 207, nat_lit 208, nat_lit 214, nat_lit 215, nat_lit 216, nat_lit 222, nat_lit 223, nat_lit 224, nat_lit 230, nat_lit 231, nat_lit 237, nat_lit 238, nat_lit 244, nat_lit 245, nat_lit 249, nat_lit 250, nat_lit 256, nat_lit 257, nat_lit 263, nat_lit 264, nat_lit 270, nat_lit 271] (fun _ => by kernel_rfl))) (YP := Hook.says (kHook hd.heap_39 [nat_lit 3, nat_lit 15, nat_lit 21, nat_lit 22, nat_lit 28, nat_lit 29, nat_lit 35, nat_lit 36, nat_lit 42, nat_lit 43, nat_lit 47, nat_lit 48, nat_lit 49, nat_lit 55, nat_lit 56, nat_lit 62, nat_lit 63, nat_lit 69, nat_lit 70, nat_lit 76, nat_lit 77, nat_lit 78, nat_lit 84, nat_lit 85, nat_lit 91, nat_lit 92, nat_lit 98, nat_lit 99, nat_lit 105, nat_lit 106, nat_lit 112, nat_lit 113, nat_lit 114, nat_lit 120, nat_lit 121, nat_lit 127, nat_lit 128, nat_lit 134, nat_lit 135, nat_lit 141, nat_lit 142, nat_lit 148, nat_lit 149, nat_lit 155, nat_lit 156, nat_lit 162, nat_lit 163, nat_lit 169, nat_lit 170, nat_lit 171, nat_lit 177, nat_lit 178, nat_lit 184, nat_lit 185, nat_lit 191, nat_lit 192, nat_lit 193, nat_lit 199, nat_lit 200, nat_lit 206, nat_lit 207, nat_lit 208, nat_lit 214, nat_lit 215, nat_lit 216, nat_lit 222, nat_lit 223, nat_lit 224, nat_lit 230, nat_lit 231, nat_lit 237, nat_lit 238, nat_lit 244, nat_lit 245, nat_lit 249, nat_lit 250, nat_lit 256, nat_lit 257, nat_lit 263, nat_lit 264, nat_lit 270, nat_lit 271] (fun _ => by kernel_rfl))) (N := 3326) left (Hook.of (kHook hd.heap_39 [nat_lit 3, nat_lit 15, nat_lit 21, nat_lit 22, nat_lit 28, nat_lit 29, nat_lit 35, nat_lit 36, nat_lit 42, nat_lit 43, nat_lit 47, nat_lit 48, nat_lit 49, nat_lit 55, nat_lit 56, nat_lit 62, nat_lit 63, nat_lit 69, nat_lit 70, nat_lit 76, nat_lit 77, nat_lit 78, nat_lit 84, nat_lit 85, nat_lit 91, nat_lit 92, nat_lit 98, nat_lit 99, nat_lit 105, nat_lit 106, nat_lit 112, nat_lit 113, nat_lit 114, nat_lit 120, nat_lit 121, nat_lit 127, nat_lit 128, nat_lit 134, nat_lit 135, nat_lit 141, nat_lit 142, nat_lit 148, nat_lit 149, nat_lit 155, nat_lit 156, nat_lit 162, nat_lit 163, nat_lit 169, nat_lit 170, nat_lit 171, nat_lit 177, nat_lit 178, nat_lit 184, nat_lit 185, nat_lit 191, nat_lit 192, nat_lit 193, nat_lit 199, nat_lit 200, nat_lit 206, nat_lit 207, nat_lit 208, nat_lit 214, nat_lit 215, nat_lit 216, nat_lit 222, nat_lit 223, nat_lit 224, nat_lit 230, nat_lit 231, nat_lit 237, nat_lit 238, nat_lit 244, nat_lit 245, nat_lit 249, nat_lit 250, nat_lit 256, nat_lit 257, nat_lit 263, nat_lit 264, nat_lit 270, nat_lit 271] (fun _ => by kernel_rfl))) (Hook.keeps (kHook hd.heap_39 [nat_lit 3, nat_lit 15, nat_lit 21, nat_lit 22, nat_lit 28, nat_lit 29, nat_lit 35, nat_lit 36, nat_lit 42, nat_lit 43, nat_lit 47, nat_lit 48, nat_lit 49, nat_lit 55, nat_lit 56, nat_lit 62, nat_lit 63, nat_lit 69, nat_lit 70, nat_lit 76, nat_lit 77, nat_lit 78, nat_lit 84, nat_lit 85, nat_lit 91, nat_lit 92, nat_lit 98, nat_lit 99, nat_lit 105, nat_lit 106, nat_lit 112, nat_lit 113, nat_lit 114, nat_lit 120, nat_lit 121, nat_lit 127, nat_lit 128, nat_lit 134, nat_lit 135, nat_lit 141, nat_lit 142, nat_lit 148, nat_lit 149, nat_lit 155, nat_lit 156, nat_lit 162, nat_lit 163, nat_lit 169, nat_lit 170, nat_lit 171, nat_lit 177, nat_lit 178, nat_lit 184, nat_lit 185, nat_lit 191, nat_lit 192, nat_lit 193, nat_lit 199, nat_lit 200, nat_lit 206, nat_lit 207, nat_lit 208, nat_lit 214, nat_lit 215, nat_lit 216, nat_lit 222, nat_lit 223, nat_lit 224, nat_lit 230, nat_lit 231, nat_lit 237, nat_lit 238, nat_lit 244, nat_lit 245, nat_lit 249, nat_lit 250, nat_lit 256, nat_lit 257, nat_lit 263, nat_lit 264, nat_lit 270, nat_lit 271] (fun _ => by kernel_rfl))) (fun s e => xl_of s (Bool.and_eq_true_iff.mp e).1) XL.keeps hdef hp hk (fun s e => recFacts_of (Bool.and_eq_true_iff.mp e).2) (by rfl) said' (by decide +kernel) ⟨rfl, rfl, rfl, rfl, rfl, by decide +kernel⟩ ?hw call
  w_witness2
end Mine

namespace Mine
theorem topOffCuts1 : (1 : Nat) = 1 := by
  w_top off
  walk1
theorem fill1 : PySem.Challenge.rw_jb0011_01 = PySem.Challenge.rw_jb0011_01 ∧ hd.heap_39 = hd.heap_39 := by
  k_fill
  exact ⟨rfl, rfl⟩

def isleap (y : Int) : Bool := y.fmod 4 == 0 && (y.fmod 100 != 0 || y.fmod 400 == 0)
def toJdG (y m d : Int) : Int := 1721426 - 1 + 365 * (y - 1) + (y - 1).fdiv 4 + -((y - 1).fdiv 100) + (y - 1).fdiv 400 + ((367 * m - 362).fdiv 12 + (if m ≤ 2 then 0 else if isleap y then -1 else -2) + d)
def lenJ (y m : Int) : Int := if m = 2 then (if y.fmod 4 = 0 then 29 else 28) else if m = 4 ∨ m = 6 ∨ m = 9 ∨ m = 11 then 30 else 31
def toJdJ (y m d : Int) : Int := (1461 * ((if m ≤ 2 then y - 1 else y) + 4716)).fdiv 4 + (306001 * ((if m ≤ 2 then m + 12 else m) + 1)).fdiv 10000 + d - 1524
theorem lenJ_ge (y m : Int) : 28 ≤ lenJ y m := by
  unfold lenJ
  repeat' split
  all_goals decide
def leapI (y : Int) : Bool := decide ((y * 11 + 14).fmod 30 < 11)
def toJdI (y m d : Int) : Int := d + -((-59 * (m - 1)).fdiv 2) + (y - 1) * 354 + (3 + 11 * y).fdiv 30 + 1948440 - 1
def lenI (y m : Int) : Int := if m = 1 ∨ m = 3 ∨ m = 5 ∨ m = 7 ∨ m = 9 ∨ m = 11 then 30 else if m = 12 ∧ leapI y = true then 30 else 29
def leapC (y : Int) : Bool := y.fmod 4 == 3 || y.fmod 4 == -1
def toJdC (y m d : Int) : Int := d + (m - 1) * 30 + (y - 1) * 365 + y.fdiv 4 + 1825030 - 1
def lenC (y m : Int) : Int := if m ≤ 12 then 30 else if leapC y = true then 6 else 5
section
variable {prog : Program} {w : World} {loose : List Str} {mean : ExcName → Option Value} {mg mb : Str → Option Value} {dp un : Nat} {gd : Option (List Code)} {cn : Str} {cs : Scope} {a : Addr} {ccd : Value} {cl : List (Str × Addr)} {outer : List Env} {A₀ : Around} {base h₀ : Heap} {L : Addr} {m : Str → Option Value} {news : List (Addr × Obj)} {s : Shared} {Q E : Value → Shared → Prop}
theorem retB {h' : Heap} {tk' : Nat} {x y : Bool} (hret : ∀ h' tk', Fr h₀ L h' m → News h₀ L h' news → Q (.bool x) { s with heap := h', toks := tk' }) (F : Fr h₀ L h' m) (N : News h₀ L h' news) (e : y = x) : Q (.bool y) { s with heap := h', toks := tk' } := by
  subst e
  exact hret h' tk' F N
theorem retI {h' : Heap} {tk' : Nat} {t : Tok} {x y : Int} (hret : ∀ t h' tk', Fr h₀ L h' m → News h₀ L h' news → Q (.int x t) { s with heap := h', toks := tk' }) (F : Fr h₀ L h' m) (N : News h₀ L h' news) (e : y = x) : Q (.int y t) { s with heap := h', toks := tk' } := by
  subst e
  exact hret t h' tk' F N
theorem inTup {K : Frag} {A : Around} {b : Addr} {items : List Value} {dd : Option Addr} {sl : Array (Option Value)} {n : Nat} {ns : List Int} {x : Int} {u : Tok} (F : Fr h₀ L s.heap m) (X : K.In h₀) (hl : K.lookup b = some ⟨.type "tuple", dd, .seq items.toArray n, sl⟩) (hi : IntsAre items ns) (h : Q (.bool (ns.any (· == x))) s) :
    wpAny (model prog w) A (compareOp .In (.int x u) (.ref b)) Q E s := in_tuple_ints ⟨_, F.keep _ _ (X _ _ hl), rfl, n, rfl⟩ (by simpa using hi) h
theorem newsDrop {h : Heap} {l l' : List (Addr × Obj)} (N : News h₀ L h l') (hs : ∀ p ∈ l, p ∈ l') : News h₀ L h l := fun p hp => N p (hs p hp)
end
local macro_rules | `(tactic| walk_at "compareOp In int ref") => `(tactic| (k_here; k_dflt (refine' inTup ?F ?X ?l ?i ?_; (case F => k_asm); (case X => k_asm); (case l => k_is); (case i => repeat constructor); k_whole)))
section
variable {prog : Program} {w : World} {loose : List Str} {mean : ExcName → Option Value} {mg mb : Str → Option Value} {dp un : Nat} {gd : Option (List Code)} {cn : Str} {cs : Scope} {a : Addr} {ccd : Value} {cl : List (Str × Addr)} {outer : List Env} {A₀ : Around} {base h₀ : Heap} {L : Addr} {m : Str → Option Value} {news : List (Addr × Obj)} {s : Shared} {Q E : Value → Shared → Prop}

theorem cut_isleap (B : Below A₀ base outer h₀) (F : Fr h₀ L s.heap m) (X : (hd.heap_39 w.params).In h₀) (N : News h₀ L s.heap news) (T : Top hd.view_39 loose mean mg mb h₀) (hk : cs.kind = .function) (hdp : dp + 4 < recursionLimit) (hun : un + 32 < cLine)
    {yy : Int} {tyy : Tok} (hret : ∀ h' tk', Fr h₀ L h' m → News h₀ L h' news → Q (.bool (isleap yy)) { s with heap := h', toks := tk' }) :
    wpAny (model prog w) (ktrTop dp un gd cn cs L a ccd cl outer) (call (.ref 22) [.int yy tyy]) Q E s := by
  all_goals (refine wpAny_call ?_; k_dflt cell_enter; k_steps)
  all_goals (try (exfalso; omega))
  all_goals (refine retB (Q := Q) hret (by k_asm) (by first | with_reducible assumption | exact newsDrop (by assumption) (by kcj_all)) ?_)
  all_goals (simp [isleap, *])
end
local macro_rules | `(tactic| walk_at "call ref") => `(tactic| (k_here; (with_reducible show wpAny _ _ (call (Value.ref 22) _) _ _ _); k_dflt (refine' cut_isleap ?kB ?kF ?kX ?kN ?kT ?kK ?kd ?ku  ?_; (case kB => k_asm); (case kF => k_asm); (case kX => k_asm); (case kN => k_asm); (case kT => k_asm); (case kK => first | exact rfl | assumption); (case kd => first | omega | ktr_room); (case ku => first | omega | ktr_units); k_whole; intro h9 tk9 F9 N9; (try dsimp only); (try k_fold))))
section
variable {prog : Program} {w : World} {loose : List Str} {mean : ExcName → Option Value} {mg mb : Str → Option Value} {dp un : Nat} {gd : Option (List Code)} {cn : Str} {cs : Scope} {a : Addr} {ccd : Value} {cl : List (Str × Addr)} {outer : List Env} {A₀ : Around} {base h₀ : Heap} {L : Addr} {m : Str → Option Value} {news : List (Addr × Obj)} {s : Shared} {Q E : Value → Shared → Prop}

theorem cut_legalG (B : Below A₀ base outer h₀) (F : Fr h₀ L s.heap m) (X : (hd.heap_39 w.params).In h₀) (N : News h₀ L s.heap news) (T : Top hd.view_39 loose mean mg mb h₀) (hk : cs.kind = .function) (hdp : dp + 8 < recursionLimit) (hun : un + 64 < cLine)
    {yy : Int} {tyy : Tok} {mm : Int} {tmm : Tok} {dd : Int} {tdd : Tok} (hp0 : 1 ≤ dd) (hp1 : dd ≤ 28) (hret : ∀ h' tk', Fr h₀ L h' m → News h₀ L h' news → Q (.bool (true)) { s with heap := h', toks := tk' }) :
    wpAny (model prog w) (ktrTop dp un gd cn cs L a ccd cl outer) (call (.ref 56) [.int yy tyy, .int mm tmm, .int dd tdd]) Q E s := by
  all_goals (refine wpAny_call ?_; k_dflt cell_enter; k_steps)
  all_goals (try (exfalso; omega))
  all_goals (refine retB (Q := Q) hret (by k_asm) (by first | with_reducible assumption | exact newsDrop (by assumption) (by kcj_all)) ?_)
  all_goals (rfl)
end
local macro_rules | `(tactic| walk_at "call ref") => `(tactic| (k_here; (with_reducible show wpAny _ _ (call (Value.ref 56) _) _ _ _); k_dflt (refine' cut_legalG ?kB ?kF ?kX ?kN ?kT ?kK ?kd ?ku ?kp0 ?kp1 ?_; (case kB => k_asm); (case kF => k_asm); (case kX => k_asm); (case kN => k_asm); (case kT => k_asm); (case kK => first | exact rfl | assumption); (case kd => first | omega | ktr_room); (case ku => first | omega | ktr_units); (case kp0 => first | assumption | omega | decide | (dsimp only; omega) | (dsimp only; decide)); (case kp1 => first | assumption | omega | decide | (dsimp only; omega) | (dsimp only; decide)); k_whole; intro h9 tk9 F9 N9; (try dsimp only); (try k_fold))))
section
variable {prog : Program} {w : World} {loose : List Str} {mean : ExcName → Option Value} {mg mb : Str → Option Value} {dp un : Nat} {gd : Option (List Code)} {cn : Str} {cs : Scope} {a : Addr} {ccd : Value} {cl : List (Str × Addr)} {outer : List Env} {A₀ : Around} {base h₀ : Heap} {L : Addr} {m : Str → Option Value} {news : List (Addr × Obj)} {s : Shared} {Q E : Value → Shared → Prop}

theorem cut_toJdG (B : Below A₀ base outer h₀) (F : Fr h₀ L s.heap m) (X : (hd.heap_39 w.params).In h₀) (N : News h₀ L s.heap news) (T : Top hd.view_39 loose mean mg mb h₀) (hk : cs.kind = .function) (hdp : dp + 12 < recursionLimit) (hun : un + 96 < cLine)
    {yy : Int} {tyy : Tok} {mm : Int} {tmm : Tok} {dd : Int} {tdd : Tok} (hp0 : 1 ≤ dd) (hp1 : dd ≤ 28) (hret : ∀ t h' tk', Fr h₀ L h' m → News h₀ L h' news → Q (.int (toJdG yy mm dd) t) { s with heap := h', toks := tk' }) :
    wpAny (model prog w) (ktrTop dp un gd cn cs L a ccd cl outer) (call (.ref 63) [.int yy tyy, .int mm tmm, .int dd tdd]) Q E s := by
  all_goals (refine wpAny_call ?_; k_dflt cell_enter; k_steps)
  all_goals (try (exfalso; omega))
  all_goals (refine retI (Q := Q) hret (by k_asm) (by first | with_reducible assumption | exact newsDrop (by assumption) (by kcj_all)) ?_)
  all_goals (simp [toJdG, *])
end
local macro_rules | `(tactic| walk_at "call ref") => `(tactic| (k_here; (with_reducible show wpAny _ _ (call (Value.ref 63) _) _ _ _); k_dflt (refine' cut_toJdG ?kB ?kF ?kX ?kN ?kT ?kK ?kd ?ku ?kp0 ?kp1 ?_; (case kB => k_asm); (case kF => k_asm); (case kX => k_asm); (case kN => k_asm); (case kT => k_asm); (case kK => first | exact rfl | assumption); (case kd => first | omega | ktr_room); (case ku => first | omega | ktr_units); (case kp0 => first | assumption | omega | decide | (dsimp only; omega) | (dsimp only; decide)); (case kp1 => first | assumption | omega | decide | (dsimp only; omega) | (dsimp only; decide)); k_whole; intro t9 h9 tk9 F9 N9; (try dsimp only); (try k_fold))))
section
variable {prog : Program} {w : World} {loose : List Str} {mean : ExcName → Option Value} {mg mb : Str → Option Value} {dp un : Nat} {gd : Option (List Code)} {cn : Str} {cs : Scope} {a : Addr} {ccd : Value} {cl : List (Str × Addr)} {outer : List Env} {A₀ : Around} {base h₀ : Heap} {L : Addr} {m : Str → Option Value} {news : List (Addr × Obj)} {s : Shared} {Q E : Value → Shared → Prop}

theorem cut_leapJ (B : Below A₀ base outer h₀) (F : Fr h₀ L s.heap m) (X : (hd.heap_39 w.params).In h₀) (N : News h₀ L s.heap news) (T : Top hd.view_39 loose mean mg mb h₀) (hk : cs.kind = .function) (hdp : dp + 4 < recursionLimit) (hun : un + 32 < cLine)
    {yy : Int} {tyy : Tok} (hret : ∀ h' tk', Fr h₀ L h' m → News h₀ L h' news → Q (.bool (yy.fmod 4 == 0)) { s with heap := h', toks := tk' }) :
    wpAny (model prog w) (ktrTop dp un gd cn cs L a ccd cl outer) (call (.ref 85) [.int yy tyy]) Q E s := by
  all_goals (refine wpAny_call ?_; k_dflt cell_enter; k_steps)
  all_goals (try (exfalso; omega))
  all_goals (refine retB (Q := Q) hret (by k_asm) (by first | with_reducible assumption | exact newsDrop (by assumption) (by kcj_all)) ?_)
  all_goals (rfl)
end
local macro_rules | `(tactic| walk_at "call ref") => `(tactic| (k_here; (with_reducible show wpAny _ _ (call (Value.ref 85) _) _ _ _); k_dflt (refine' cut_leapJ ?kB ?kF ?kX ?kN ?kT ?kK ?kd ?ku  ?_; (case kB => k_asm); (case kF => k_asm); (case kX => k_asm); (case kN => k_asm); (case kT => k_asm); (case kK => first | exact rfl | assumption); (case kd => first | omega | ktr_room); (case ku => first | omega | ktr_units); k_whole; intro h9 tk9 F9 N9; (try dsimp only); (try k_fold))))
section
variable {prog : Program} {w : World} {loose : List Str} {mean : ExcName → Option Value} {mg mb : Str → Option Value} {dp un : Nat} {gd : Option (List Code)} {cn : Str} {cs : Scope} {a : Addr} {ccd : Value} {cl : List (Str × Addr)} {outer : List Env} {A₀ : Around} {base h₀ : Heap} {L : Addr} {m : Str → Option Value} {news : List (Addr × Obj)} {s : Shared} {Q E : Value → Shared → Prop}

theorem cut_lenJ (B : Below A₀ base outer h₀) (F : Fr h₀ L s.heap m) (X : (hd.heap_39 w.params).In h₀) (N : News h₀ L s.heap news) (T : Top hd.view_39 loose mean mg mb h₀) (hk : cs.kind = .function) (hdp : dp + 8 < recursionLimit) (hun : un + 64 < cLine)
    {yy : Int} {tyy : Tok} {mm : Int} {tmm : Tok} (hret : ∀ t h' tk', Fr h₀ L h' m → News h₀ L h' news → Q (.int (lenJ yy mm) t) { s with heap := h', toks := tk' }) :
    wpAny (model prog w) (ktrTop dp un gd cn cs L a ccd cl outer) (call (.ref 92) [.int yy tyy, .int mm tmm]) Q E s := by
  all_goals (refine wpAny_call ?_; k_dflt cell_enter; k_steps)
  all_goals (try (exfalso; omega))
  all_goals (refine retI (Q := Q) hret (by k_asm) (by first | with_reducible assumption | exact newsDrop (by assumption) (by kcj_all)) ?_)
  all_goals (simp_all [lenJ]; try omega)
end
local macro_rules | `(tactic| walk_at "call ref") => `(tactic| (k_here; (with_reducible show wpAny _ _ (call (Value.ref 92) _) _ _ _); k_dflt (refine' cut_lenJ ?kB ?kF ?kX ?kN ?kT ?kK ?kd ?ku  ?_; (case kB => k_asm); (case kF => k_asm); (case kX => k_asm); (case kN => k_asm); (case kT => k_asm); (case kK => first | exact rfl | assumption); (case kd => first | omega | ktr_room); (case ku => first | omega | ktr_units); k_whole; intro t9 h9 tk9 F9 N9; (try dsimp only); (try k_fold))))
section
variable {prog : Program} {w : World} {loose : List Str} {mean : ExcName → Option Value} {mg mb : Str → Option Value} {dp un : Nat} {gd : Option (List Code)} {cn : Str} {cs : Scope} {a : Addr} {ccd : Value} {cl : List (Str × Addr)} {outer : List Env} {A₀ : Around} {base h₀ : Heap} {L : Addr} {m : Str → Option Value} {news : List (Addr × Obj)} {s : Shared} {Q E : Value → Shared → Prop}

theorem cut_legalJ (B : Below A₀ base outer h₀) (F : Fr h₀ L s.heap m) (X : (hd.heap_39 w.params).In h₀) (N : News h₀ L s.heap news) (T : Top hd.view_39 loose mean mg mb h₀) (hk : cs.kind = .function) (hdp : dp + 12 < recursionLimit) (hun : un + 96 < cLine)
    {yy : Int} {tyy : Tok} {mm : Int} {tmm : Tok} {dd : Int} {tdd : Tok} (hp0 : 1 ≤ dd) (hp1 : dd ≤ 28) (hret : ∀ h' tk', Fr h₀ L h' m → News h₀ L h' news → Q (.bool (true)) { s with heap := h', toks := tk' }) :
    wpAny (model prog w) (ktrTop dp un gd cn cs L a ccd cl outer) (call (.ref 99) [.int yy tyy, .int mm tmm, .int dd tdd]) Q E s := by
  have hlen9 := lenJ_ge yy mm
  all_goals (refine wpAny_call ?_; k_dflt cell_enter; k_steps)
  all_goals (try (exfalso; omega))
  all_goals (refine retB (Q := Q) hret (by k_asm) (by first | with_reducible assumption | exact newsDrop (by assumption) (by kcj_all)) ?_)
  all_goals (rfl)
end
local macro_rules | `(tactic| walk_at "call ref") => `(tactic| (k_here; (with_reducible show wpAny _ _ (call (Value.ref 99) _) _ _ _); k_dflt (refine' cut_legalJ ?kB ?kF ?kX ?kN ?kT ?kK ?kd ?ku ?kp0 ?kp1 ?_; (case kB => k_asm); (case kF => k_asm); (case kX => k_asm); (case kN => k_asm); (case kT => k_asm); (case kK => first | exact rfl | assumption); (case kd => first | omega | ktr_room); (case ku => first | omega | ktr_units); (case kp0 => first | assumption | omega | decide | (dsimp only; omega) | (dsimp only; decide)); (case kp1 => first | assumption | omega | decide | (dsimp only; omega) | (dsimp only; decide)); k_whole; intro h9 tk9 F9 N9; (try dsimp only); (try k_fold))))
section
variable {prog : Program} {w : World} {loose : List Str} {mean : ExcName → Option Value} {mg mb : Str → Option Value} {dp un : Nat} {gd : Option (List Code)} {cn : Str} {cs : Scope} {a : Addr} {ccd : Value} {cl : List (Str × Addr)} {outer : List Env} {A₀ : Around} {base h₀ : Heap} {L : Addr} {m : Str → Option Value} {news : List (Addr × Obj)} {s : Shared} {Q E : Value → Shared → Prop}

theorem cut_toJdJ (B : Below A₀ base outer h₀) (F : Fr h₀ L s.heap m) (X : (hd.heap_39 w.params).In h₀) (N : News h₀ L s.heap news) (T : Top hd.view_39 loose mean mg mb h₀) (hk : cs.kind = .function) (hdp : dp + 16 < recursionLimit) (hun : un + 128 < cLine)
    {yy : Int} {tyy : Tok} {mm : Int} {tmm : Tok} {dd : Int} {tdd : Tok} (hp0 : 1 ≤ dd) (hp1 : dd ≤ 28) (hret : ∀ t h' tk', Fr h₀ L h' m → News h₀ L h' news → Q (.int (toJdJ yy mm dd) t) { s with heap := h', toks := tk' }) :
    wpAny (model prog w) (ktrTop dp un gd cn cs L a ccd cl outer) (call (.ref 106) [.int yy tyy, .int mm tmm, .int dd tdd]) Q E s := by
  all_goals (refine wpAny_call ?_; k_dflt cell_enter; k_steps)
  all_goals (try (exfalso; omega))
  all_goals (refine retI (Q := Q) hret (by k_asm) (by first | with_reducible assumption | exact newsDrop (by assumption) (by kcj_all)) ?_)
  all_goals (simp [toJdJ, *])
end
local macro_rules | `(tactic| walk_at "call ref") => `(tactic| (k_here; (with_reducible show wpAny _ _ (call (Value.ref 106) _) _ _ _); k_dflt (refine' cut_toJdJ ?kB ?kF ?kX ?kN ?kT ?kK ?kd ?ku ?kp0 ?kp1 ?_; (case kB => k_asm); (case kF => k_asm); (case kX => k_asm); (case kN => k_asm); (case kT => k_asm); (case kK => first | exact rfl | assumption); (case kd => first | omega | ktr_room); (case ku => first | omega | ktr_units); (case kp0 => first | assumption | omega | decide | (dsimp only; omega) | (dsimp only; decide)); (case kp1 => first | assumption | omega | decide | (dsimp only; omega) | (dsimp only; decide)); k_whole; intro t9 h9 tk9 F9 N9; (try dsimp only); (try k_fold))))
section
variable {prog : Program} {w : World} {loose : List Str} {mean : ExcName → Option Value} {mg mb : Str → Option Value} {dp un : Nat} {gd : Option (List Code)} {cn : Str} {cs : Scope} {a : Addr} {ccd : Value} {cl : List (Str × Addr)} {outer : List Env} {A₀ : Around} {base h₀ : Heap} {L : Addr} {m : Str → Option Value} {news : List (Addr × Obj)} {s : Shared} {Q E : Value → Shared → Prop}

theorem cut_leapI (B : Below A₀ base outer h₀) (F : Fr h₀ L s.heap m) (X : (hd.heap_39 w.params).In h₀) (N : News h₀ L s.heap news) (T : Top hd.view_39 loose mean mg mb h₀) (hk : cs.kind = .function) (hdp : dp + 4 < recursionLimit) (hun : un + 32 < cLine)
    {yy : Int} {tyy : Tok} (hret : ∀ h' tk', Fr h₀ L h' m → News h₀ L h' news → Q (.bool (leapI yy)) { s with heap := h', toks := tk' }) :
    wpAny (model prog w) (ktrTop dp un gd cn cs L a ccd cl outer) (call (.ref 121) [.int yy tyy]) Q E s := by
  all_goals (refine wpAny_call ?_; k_dflt cell_enter; k_steps)
  all_goals (try (exfalso; omega))
  all_goals (refine retB (Q := Q) hret (by k_asm) (by first | with_reducible assumption | exact newsDrop (by assumption) (by kcj_all)) ?_)
  all_goals (rfl)
end
local macro_rules | `(tactic| walk_at "call ref") => `(tactic| (k_here; (with_reducible show wpAny _ _ (call (Value.ref 121) _) _ _ _); k_dflt (refine' cut_leapI ?kB ?kF ?kX ?kN ?kT ?kK ?kd ?ku  ?_; (case kB => k_asm); (case kF => k_asm); (case kX => k_asm); (case kN => k_asm); (case kT => k_asm); (case kK => first | exact rfl | assumption); (case kd => first | omega | ktr_room); (case ku => first | omega | ktr_units); k_whole; intro h9 tk9 F9 N9; (try dsimp only); (try k_fold))))
section
variable {prog : Program} {w : World} {loose : List Str} {mean : ExcName → Option Value} {mg mb : Str → Option Value} {dp un : Nat} {gd : Option (List Code)} {cn : Str} {cs : Scope} {a : Addr} {ccd : Value} {cl : List (Str × Addr)} {outer : List Env} {A₀ : Around} {base h₀ : Heap} {L : Addr} {m : Str → Option Value} {news : List (Addr × Obj)} {s : Shared} {Q E : Value → Shared → Prop}

theorem cut_toJdI (B : Below A₀ base outer h₀) (F : Fr h₀ L s.heap m) (X : (hd.heap_39 w.params).In h₀) (N : News h₀ L s.heap news) (T : Top hd.view_39 loose mean mg mb h₀) (hk : cs.kind = .function) (hdp : dp + 4 < recursionLimit) (hun : un + 32 < cLine)
    {yy : Int} {tyy : Tok} {mm : Int} {tmm : Tok} {dd : Int} {tdd : Tok} (hret : ∀ t h' tk', Fr h₀ L h' m → News h₀ L h' news → Q (.int (toJdI yy mm dd) t) { s with heap := h', toks := tk' }) :
    wpAny (model prog w) (ktrTop dp un gd cn cs L a ccd cl outer) (call (.ref 128) [.int yy tyy, .int mm tmm, .int dd tdd]) Q E s := by
  all_goals (refine wpAny_call ?_; k_dflt cell_enter; k_steps)
  all_goals (try (exfalso; omega))
  all_goals (refine retI (Q := Q) hret (by k_asm) (by first | with_reducible assumption | exact newsDrop (by assumption) (by kcj_all)) ?_)
  all_goals (rfl)
end
local macro_rules | `(tactic| walk_at "call ref") => `(tactic| (k_here; (with_reducible show wpAny _ _ (call (Value.ref 128) _) _ _ _); k_dflt (refine' cut_toJdI ?kB ?kF ?kX ?kN ?kT ?kK ?kd ?ku  ?_; (case kB => k_asm); (case kF => k_asm); (case kX => k_asm); (case kN => k_asm); (case kT => k_asm); (case kK => first | exact rfl | assumption); (case kd => first | omega | ktr_room); (case ku => first | omega | ktr_units); k_whole; intro t9 h9 tk9 F9 N9; (try dsimp only); (try k_fold))))
section
variable {prog : Program} {w : World} {loose : List Str} {mean : ExcName → Option Value} {mg mb : Str → Option Value} {dp un : Nat} {gd : Option (List Code)} {cn : Str} {cs : Scope} {a : Addr} {ccd : Value} {cl : List (Str × Addr)} {outer : List Env} {A₀ : Around} {base h₀ : Heap} {L : Addr} {m : Str → Option Value} {news : List (Addr × Obj)} {s : Shared} {Q E : Value → Shared → Prop}

theorem cut_lenI (B : Below A₀ base outer h₀) (F : Fr h₀ L s.heap m) (X : (hd.heap_39 w.params).In h₀) (N : News h₀ L s.heap news) (T : Top hd.view_39 loose mean mg mb h₀) (hk : cs.kind = .function) (hdp : dp + 8 < recursionLimit) (hun : un + 64 < cLine)
    {yy : Int} {tyy : Tok} {mm : Int} {tmm : Tok} (hret : ∀ t h' tk', Fr h₀ L h' m → News h₀ L h' news → Q (.int (lenI yy mm) t) { s with heap := h', toks := tk' }) :
    wpAny (model prog w) (ktrTop dp un gd cn cs L a ccd cl outer) (call (.ref 135) [.int yy tyy, .int mm tmm]) Q E s := by
  all_goals (refine wpAny_call ?_; k_dflt cell_enter; k_steps)
  all_goals (try (exfalso; omega))
  all_goals (refine retI (Q := Q) hret (by k_asm) (by first | with_reducible assumption | exact newsDrop (by assumption) (by kcj_all)) ?_)
  all_goals (simp_all [lenI]; try omega)
end
local macro_rules | `(tactic| walk_at "call ref") => `(tactic| (k_here; (with_reducible show wpAny _ _ (call (Value.ref 135) _) _ _ _); k_dflt (refine' cut_lenI ?kB ?kF ?kX ?kN ?kT ?kK ?kd ?ku  ?_; (case kB => k_asm); (case kF => k_asm); (case kX => k_asm); (case kN => k_asm); (case kT => k_asm); (case kK => first | exact rfl | assumption); (case kd => first | omega | ktr_room); (case ku => first | omega | ktr_units); k_whole; intro t9 h9 tk9 F9 N9; (try dsimp only); (try k_fold))))
section
variable {prog : Program} {w : World} {loose : List Str} {mean : ExcName → Option Value} {mg mb : Str → Option Value} {dp un : Nat} {gd : Option (List Code)} {cn : Str} {cs : Scope} {a : Addr} {ccd : Value} {cl : List (Str × Addr)} {outer : List Env} {A₀ : Around} {base h₀ : Heap} {L : Addr} {m : Str → Option Value} {news : List (Addr × Obj)} {s : Shared} {Q E : Value → Shared → Prop}

theorem cut_leapC (B : Below A₀ base outer h₀) (F : Fr h₀ L s.heap m) (X : (hd.heap_39 w.params).In h₀) (N : News h₀ L s.heap news) (T : Top hd.view_39 loose mean mg mb h₀) (hk : cs.kind = .function) (hdp : dp + 4 < recursionLimit) (hun : un + 32 < cLine)
    {yy : Int} {tyy : Tok} (hret : ∀ h' tk', Fr h₀ L h' m → News h₀ L h' news → Q (.bool (leapC yy)) { s with heap := h', toks := tk' }) :
    wpAny (model prog w) (ktrTop dp un gd cn cs L a ccd cl outer) (call (.ref 149) [.int yy tyy]) Q E s := by
  all_goals (refine wpAny_call ?_; k_dflt cell_enter; k_steps)
  all_goals (try (exfalso; omega))
  all_goals (refine retB (Q := Q) hret (by k_asm) (by first | with_reducible assumption | exact newsDrop (by assumption) (by kcj_all)) ?_)
  all_goals (simp_all [leapC])
end
local macro_rules | `(tactic| walk_at "call ref") => `(tactic| (k_here; (with_reducible show wpAny _ _ (call (Value.ref 149) _) _ _ _); k_dflt (refine' cut_leapC ?kB ?kF ?kX ?kN ?kT ?kK ?kd ?ku  ?_; (case kB => k_asm); (case kF => k_asm); (case kX => k_asm); (case kN => k_asm); (case kT => k_asm); (case kK => first | exact rfl | assumption); (case kd => first | omega | ktr_room); (case ku => first | omega | ktr_units); k_whole; intro h9 tk9 F9 N9; (try dsimp only); (try k_fold))))
section
variable {prog : Program} {w : World} {loose : List Str} {mean : ExcName → Option Value} {mg mb : Str → Option Value} {dp un : Nat} {gd : Option (List Code)} {cn : Str} {cs : Scope} {a : Addr} {ccd : Value} {cl : List (Str × Addr)} {outer : List Env} {A₀ : Around} {base h₀ : Heap} {L : Addr} {m : Str → Option Value} {news : List (Addr × Obj)} {s : Shared} {Q E : Value → Shared → Prop}

theorem cut_toJdC (B : Below A₀ base outer h₀) (F : Fr h₀ L s.heap m) (X : (hd.heap_39 w.params).In h₀) (N : News h₀ L s.heap news) (T : Top hd.view_39 loose mean mg mb h₀) (hk : cs.kind = .function) (hdp : dp + 4 < recursionLimit) (hun : un + 32 < cLine)
    {yy : Int} {tyy : Tok} {mm : Int} {tmm : Tok} {dd : Int} {tdd : Tok} (hret : ∀ t h' tk', Fr h₀ L h' m → News h₀ L h' news → Q (.int (toJdC yy mm dd) t) { s with heap := h', toks := tk' }) :
    wpAny (model prog w) (ktrTop dp un gd cn cs L a ccd cl outer) (call (.ref 156) [.int yy tyy, .int mm tmm, .int dd tdd]) Q E s := by
  all_goals (refine wpAny_call ?_; k_dflt cell_enter; k_steps)
  all_goals (try (exfalso; omega))
  all_goals (refine retI (Q := Q) hret (by k_asm) (by first | with_reducible assumption | exact newsDrop (by assumption) (by kcj_all)) ?_)
  all_goals (rfl)
end
local macro_rules | `(tactic| walk_at "call ref") => `(tactic| (k_here; (with_reducible show wpAny _ _ (call (Value.ref 156) _) _ _ _); k_dflt (refine' cut_toJdC ?kB ?kF ?kX ?kN ?kT ?kK ?kd ?ku  ?_; (case kB => k_asm); (case kF => k_asm); (case kX => k_asm); (case kN => k_asm); (case kT => k_asm); (case kK => first | exact rfl | assumption); (case kd => first | omega | ktr_room); (case ku => first | omega | ktr_units); k_whole; intro t9 h9 tk9 F9 N9; (try dsimp only); (try k_fold))))
section
variable {prog : Program} {w : World} {loose : List Str} {mean : ExcName → Option Value} {mg mb : Str → Option Value} {dp un : Nat} {gd : Option (List Code)} {cn : Str} {cs : Scope} {a : Addr} {ccd : Value} {cl : List (Str × Addr)} {outer : List Env} {A₀ : Around} {base h₀ : Heap} {L : Addr} {m : Str → Option Value} {news : List (Addr × Obj)} {s : Shared} {Q E : Value → Shared → Prop}

theorem cut_lenC (B : Below A₀ base outer h₀) (F : Fr h₀ L s.heap m) (X : (hd.heap_39 w.params).In h₀) (N : News h₀ L s.heap news) (T : Top hd.view_39 loose mean mg mb h₀) (hk : cs.kind = .function) (hdp : dp + 8 < recursionLimit) (hun : un + 64 < cLine)
    {yy : Int} {tyy : Tok} {mm : Int} {tmm : Tok} (hp0 : mm ≤ 13) (hret : ∀ t h' tk', Fr h₀ L h' m → News h₀ L h' news → Q (.int (lenC yy mm) t) { s with heap := h', toks := tk' }) :
    wpAny (model prog w) (ktrTop dp un gd cn cs L a ccd cl outer) (call (.ref 163) [.int yy tyy, .int mm tmm]) Q E s := by
  all_goals (refine wpAny_call ?_; k_dflt cell_enter; k_steps)
  all_goals (try (exfalso; omega))
  all_goals (refine retI (Q := Q) hret (by k_asm) (by first | with_reducible assumption | exact newsDrop (by assumption) (by kcj_all)) ?_)
  all_goals (simp_all [lenC]; try omega)
end
local macro_rules | `(tactic| walk_at "call ref") => `(tactic| (k_here; (with_reducible show wpAny _ _ (call (Value.ref 163) _) _ _ _); k_dflt (refine' cut_lenC ?kB ?kF ?kX ?kN ?kT ?kK ?kd ?ku ?kp0 ?_; (case kB => k_asm); (case kF => k_asm); (case kX => k_asm); (case kN => k_asm); (case kT => k_asm); (case kK => first | exact rfl | assumption); (case kd => first | omega | ktr_room); (case ku => first | omega | ktr_units); (case kp0 => first | assumption | omega | decide | (dsimp only; omega) | (dsimp only; decide)); k_whole; intro t9 h9 tk9 F9 N9; (try dsimp only); (try k_fold))))
section
variable {prog : Program} {w : World} {loose : List Str} {mean : ExcName → Option Value} {mg mb : Str → Option Value} {dp un : Nat} {gd : Option (List Code)} {cn : Str} {cs : Scope} {a : Addr} {ccd : Value} {cl : List (Str × Addr)} {outer : List Env} {A₀ : Around} {base h₀ : Heap} {L : Addr} {m : Str → Option Value} {news : List (Addr × Obj)} {s : Shared} {Q E : Value → Shared → Prop}

end
theorem topOffCuts2 : (1 : Nat) = 1 := by
  w_top off
  walk1
theorem fill2 : PySem.Challenge.rw_jb0011_01 = PySem.Challenge.rw_jb0011_01 ∧ hd.heap_39 = hd.heap_39 := by
  k_fill
  exact ⟨rfl, rfl⟩

def lenG (y m : Int) : Int := if m = 2 then (if isleap y = true then 29 else 28) else if m = 4 ∨ m = 6 ∨ m = 9 ∨ m = 11 then 30 else 31
theorem lenG_eq (y m : Int) (h1 : 1 ≤ m) (h2 : m ≤ 12) : [0, 31, 28, 31, 30, 31, 30, 31, 31, 30, 31, 30, 31].getD m.toNat 0 + (if m = 2 ∧ isleap y = true then 1 else 0) = lenG y m := by
  have hm9 : m = 1 ∨ m = 2 ∨ m = 3 ∨ m = 4 ∨ m = 5 ∨ m = 6 ∨ m = 7 ∨ m = 8 ∨ m = 9 ∨ m = 10 ∨ m = 11 ∨ m = 12 := by omega
  rcases hm9 with rfl | rfl | rfl | rfl | rfl | rfl | rfl | rfl | rfl | rfl | rfl | rfl
  all_goals first
    | rfl
    | (cases h : isleap y <;> simp [lenG, h])
def toJdS (y m d : Int) : Int := toJdG (y + 78) 3 (22 - (if isleap (y + 78) = true then 1 else 0)) + (if isleap (y + 78) = true then 31 else 30) + (if 5 < m - 2 then 5 else m - 2) * 31 + (if 8 ≤ m then (m - 7) * 30 else 0) + (d - 1)
def lenS (m : Int) : Int := if m = 2 ∨ m = 3 ∨ m = 4 ∨ m = 5 ∨ m = 6 then 31 else 30
def lenA (m : Int) : Int := if m = 13 then 5 else 30
def toJdA (y m d : Int) : Int := 1922502 + 365 * y + ((m - 1) * 30 + d)
def lenK (y m : Int) : Int := if m = 13 then (if y.fmod 4 = 0 then 6 else 5) else 30
def toJdK (y m d : Int) : Int := 2117211 + 365 * (y - 533) + (y - 533).fdiv 4 + ((m - 1) * 30 + d)

section
variable {prog : Program} {w : World} {A : Around} {E : Value → Shared → Prop} {s : Shared} {h₀ : Heap} {L : Addr} {m : Str → Option Value} {news : List (Addr × Obj)}
theorem upto_applied {sl : Addr} {b n : Nat} {u : Tok} {Q : Int × Int × Nat → Shared → Prop} (hs : s.heap.IsSliceOf sl .none (.int b u) .none) (hb : b < n) (h : Q (0, 1, b) s) :
    wpAny (model prog w) A (Builtin.Slice.sliceApplied (.ref sl) (pure (n : Int))) Q E s := by
  obtain ⟨os, hos, hcs, hds⟩ := id hs
  have e1 : Builtin.Slice.sliceAdjust none (some (b : Int)) 1 (n : Int) = (0, (b : Int)) := by
    unfold Builtin.Slice.sliceAdjust
    have h1 : ¬ ((1 : Int) < 0) := by omega
    have h2 : ¬ ((b : Int) < 0) := by omega
    simp only [h1, h2, if_false]
    congr 1
    omega
  have e2 : Builtin.Slice.slicePlaces 0 (b : Int) 1 = b := by
    unfold Builtin.Slice.slicePlaces
    have h1 : (1 : Int) > 0 := by omega
    simp only [h1, if_true, Int.ediv_one]
    split <;> omega
  unfold Builtin.Slice.sliceApplied Builtin.Slice.sliceFields
  refine wpAny_bind (wpAny_bind (wpAny_field hos hds (x := .none) rfl (wpAny_bind (wpAny_field hos hds (x := .int b u) rfl (wpAny_bind (wpAny_field hos hds (x := .none) rfl (wpAny_pure ?_)))))))
  refine wpAny_bind (slicePart_none ?_)
  show wpAny _ _ (if ((1 : Int) == 0) = true then _ else _) _ _ s
  rw [if_neg (by decide)]
  refine wpAny_bind (slicePart_none (wpAny_bind (slicePart_int (wpAny_bind (wpAny_pure ?_)))))
  show wpAny _ _ (match Builtin.Slice.sliceAdjust none (some (b : Int)) 1 (n : Int) with | (lo, hi) => pure (lo, (1 : Int), Builtin.Slice.slicePlaces lo hi 1)) _ _ s
  rw [e1]
  show wpAny _ _ (pure ((0 : Int), (1 : Int), Builtin.Slice.slicePlaces 0 (b : Int) 1)) _ _ s
  rw [e2]
  exact wpAny_pure h
theorem upto_item {t sl : Addr} {items : Array Value} {b : Nat} {u : Tok} {Q : Value → Shared → Prop} (ht : IsTup s.heap t items) (hs : s.heap.IsSliceOf sl .none (.int b u) .none) (hb : b < items.size) (hsz : items.size ≤ sizeLine)
    (h : Q (.ref s.heap.objs.size) { s with heap := s.heap.push { cls := .type "tuple", data := .seq (items.toList.take b).toArray } }) :
    wpAny (model prog w) A (getItem (.ref t) (.ref sl)) Q E s := by
  have hok : sizeOk (.seq (items.toList.take b).toArray) := by
    show (items.toList.take b).toArray.size ≤ sizeLine
    rw [List.size_toArray, List.length_take, Array.length_toList]
    omega
  have hpick : ((List.range b).filterMap fun (k : Nat) => items[((0 : Int) + (k : Int) * 1).toNat]?).toArray = (items.toList.take b).toArray := by
    have e : (fun (k : Nat) => items[((0 : Int) + (k : Int) * 1).toNat]?) = fun k => items[k]? := by
      funext k
      have e3 : ((0 : Int) + (k : Int) * 1).toNat = k := by omega
      rw [e3]
    have q := pick_run items 0 b
    rw [List.filterMap_map, List.drop_zero] at q
    have e2 : ((fun x => items[x]?) ∘ fun x => 0 + x) = fun k => items[k]? := by
      funext k
      simp
    rw [e2] at q
    rw [e, q]
  obtain ⟨os, hos, hcs, hds⟩ := id hs
  have hTs : s.TypeIs (.ref sl) "slice" := ⟨os, hos, hcs⟩
  unfold getItem
  try with_reducible refine wpAny_holding ?_
  first | refine wpAny_bind (wpAny_pure ?_) | skip
  refine wpAny_bind (wpAny_sequenceKey ht.typeIs (by decide) ?_)
  refine wpAny_bind (wpAny_callSpecial?_slot (name := Str.ofString "__getitem__") ht.typeIs slot_tuple_getitem
    (wpAny_call_entry slot_tuple_getitem ht.typeIs entry_tuple_getitem ?_ (args_tuple_getitem _ _)))
  show wpAny _ _ (Builtin.Tuple.tupleItemsOf (.ref t) >>= _) _ _ s
  refine wpAny_bind (tupleItemsOf_ ht ?_)
  refine wpAny_bind (wpAny_typeOf hTs ?_)
  rw [if_pos (by decide)]
  refine wpAny_bind (upto_applied hs hb ?_)
  have hno : ¬ (((0 : Int) == 0 && (1 : Int) == 1 && b == items.size) = true) := by
    have : (b == items.size) = false := by rw [beq_eq_false_iff_ne]; omega
    rw [this]; simp
  show wpAny _ _ (if ((0 : Int) == 0 && (1 : Int) == 1 && b == items.size) = true then _ else _) _ _ s
  rw [if_neg hno, hpick]
  first
    | exact wpAny_bind (m := Builtin.Tuple.tupleExact _) (wpAny_newObj_type (wpAny_pure ⟨_, rfl, wpAny_pure h⟩) hok)
    | exact wpAny_bind (wpAny_bind (m := Builtin.Tuple.tupleExact _) (wpAny_newObj_type (wpAny_pure (wpAny_pure ⟨_, rfl, wpAny_pure h⟩)) hok))
    | exact wpAny_bind (wpAny_bind (m := Builtin.Tuple.tupleExact _) (wpAny_newObj_type (wpAny_pure ⟨_, rfl, wpAny_pure h⟩) hok))
theorem upto_K {K : Frag} {value slice : Expr} {t : Addr} {items zs : List Value} {dd : Option Addr} {sl : Array (Option Value)} {n : Nat} {b : Int} {u : Tok} {Q : Value → Shared → Prop}
    (F : Fr h₀ L s.heap m) (N : News h₀ L s.heap news) (X : K.In h₀) (hl : K.lookup t = some ⟨.type "tuple", dd, .seq items.toArray n, sl⟩) (hb0 : 0 ≤ b) (hb : b < items.length) (e : items.take b.toNat = zs) (hsz : items.length ≤ sizeLine)
    (h : ∀ D h', Fr h₀ L h' m → News h₀ L h' ((D, { cls := .type "tuple", data := .seq zs.toArray }) :: news) → (∀ p ∈ news, p.1 < D) → Q (.ref D) { s with heap := h' })
    (hs : subscripted slice false (.ref t) (.ref s.heap.objs.size) = operate [.ref s.heap.objs.size, .ref t] (getItem (.ref t) (.ref s.heap.objs.size)))
    (hg : ∀ r, letTemporaryGo value (.ref t) r = pure ()) :
    wpAny (model prog w) A (subscriptTail value slice (.ref t) (.ref s.heap.objs.size)) Q E { s with heap := s.heap.push { cls := .type "slice", data := .fields #[.none, .int b u, .none] } } := by
  obtain ⟨b, rfl⟩ := Int.eq_ofNat_of_zero_le hb0
  rw [Int.toNat_natCast] at e
  have ht : IsTup s.heap t items.toArray := ⟨_, F.keep _ _ (X _ _ hl), rfl, n, rfl⟩
  have ht' : IsTup (s.heap.push { cls := .type "slice", data := .fields #[.none, .int b u, .none] }) t items.toArray := ht.keeps fun _ _ e => Heap.get?_push_of_some _ e
  refine subscriptTail_ops (s := { s with heap := s.heap.push { cls := .type "slice", data := .fields #[.none, .int b u, .none] } }) ht'.typeIs slot_tuple_getitem.lookup
    (upto_item ht' (Heap.IsSliceOf.new ..) (by rw [List.size_toArray]; omega) (by rw [List.size_toArray]; exact hsz) ?_) hs hg
  have N1 := News.push (F.push { cls := .type "slice", data := .fields #[.none, .int b u, .none] }) (N.grown fun _ _ e => Heap.get?_push_of_some _ e) { cls := .type "tuple", data := .seq zs.toArray }
  rw [Heap.size_push] at N1
  show Q (.ref (s.heap.push _).objs.size) _
  rw [Heap.size_push, List.toList_toArray, e]
  exact h _ _ ((F.push _).push _) N1 fun p hp => Nat.lt_succ_of_lt (Heap.lt_size (N p hp).1)
end
section
variable {prog : Program} {w : World} {A : Around} {E : Value → Shared → Prop} {s : Shared} {env : Env} {h₀ : Heap} {x : Str} {body : List Stmt} {Q : Flow → Shared → Prop}
open PySem.Spec
theorem iterTup {D : Addr} {vs : List Value} {ns : List Int} {n : Nat} {m₀ : Str → Option Value} {news : List (Addr × Obj)} (y : Str) (hh : A.handled = none)
    (F : Fr h₀ env.locals s.heap m₀) (N : News h₀ env.locals s.heap ((D, ({ cls := .type "tuple", data := .seq vs.toArray n } : Obj)) :: news)) (l1 : ∀ p ∈ news, p.1 < D) (hi : IntsAre vs ns) (hxy : y ≠ x) (hm : ∃ v t, m₀ y = some (.int v t))
    (turn : ∀ k t v tv h tk own, OwnOff own (news.map (·.1)) → Fr h₀ env.locals h (fun z => if z = x then some (.int k t) else if z = y then some (.int v tv) else m₀ z) → News h₀ env.locals h (news ++ own) →
      wpAny (model prog w) A (execs body env) (InvPostN h₀ env.locals (fun m' nx => nx = news ∧ (∃ v t, m' y = some (.int v t)) ∧ ∀ z, z ≠ x → z ≠ y → m' z = m₀ z) own (news.map (·.1)) { s with heap := h, toks := tk } Q) E { s with heap := h, toks := tk })
    (done : ∀ u v tv h tk, Fr h₀ env.locals h (fun z => if z = x then u else if z = y then some (.int v tv) else m₀ z) → News h₀ env.locals h news → Q .next { s with heap := h, toks := tk }) :
    wpAny (model prog w) A (pyIter (.ref D)) (fun it s₂ => LoopAtV prog w A h₀ env x body Q E it s₂) E s := by
  have hD := N _ (.head _)
  have hol : s.heap.get? D = some { cls := .type "tuple", data := .seq vs.toArray n } := hD.1
  have hls : s.heap.IsTuple D vs.toArray := ⟨_, hol, rfl, n, rfl⟩
  have hne : D ≠ s.heap.objs.size := Nat.ne_of_lt (Heap.lt_size hol)
  refine wpAny_pyIter_tuple hls ?_
  have W := Walks.tuple (prog := prog) (w := w) hh s.heap.objs.size D hne vs.toArray
  have hlen : vs.toArray.size = ns.length := by simp [hi.length]
  rw [hlen] at W
  refine loop_invN (fun _ m nx => nx = news ∧ (∃ v t, m y = some (.int v t)) ∧ ∀ z, z ≠ x → z ≠ y → m z = m₀ z) W ?_ ?_ ?_ ?_ ⟨⟨_, Heap.get?_push_size _ rfl, rfl, rfl⟩, hls.at fun o e => Heap.get?_push_of_some _ e⟩ (F.push _) (fun p hp => ⟨Heap.get?_push_of_some _ (N p (.tail _ hp)).1, (N p (.tail _ hp)).2⟩) ⟨rfl, hm, fun _ _ _ => rfl⟩ ?_ ?_
  · intro hq
    rcases List.mem_cons.mp hq with e | hq
    · exact absurd F.ns.lt (e ▸ Nat.lt_irrefl _)
    · exact hD.2.1 ((List.mem_singleton.mp hq).symm)
  · intro b hb
    rw [List.mem_singleton.mp hb]
    exact next_is_new F
  · intro p hp hI
    exact absurd (Heap.lt_size (N p (.tail _ hp)).1) ((List.mem_singleton.mp hI) ▸ Nat.lt_irrefl _)
  · intro q hq hI
    rcases List.mem_cons.mp hI with e | hI
    · exact absurd (Heap.lt_size (N q (.tail _ hq)).1) (by rw [e]; exact Nat.lt_irrefl _)
    · exact absurd (l1 q hq) (by rw [List.mem_singleton.mp hI]; exact Nat.lt_irrefl _)
  · rintro i v m₁ nx h tk own hi' hP _ hoff ⟨rfl, ⟨v₁, t₁, hy⟩, hz⟩ F₁ N₁
    obtain ⟨t, hx⟩ := hi.get i ns[i] (by simp [hi'])
    have hv : v = .int ns[i] t := by
      have hP' : vs[i]? = some v := by simpa using hP
      rw [hx] at hP'; exact (Option.some.inj hP').symm
    subst hv
    have e : (fun z => if z = x then some (Value.int ns[i] t) else m₁ z) = fun z => if z = x then some (Value.int ns[i] t) else if z = y then some (Value.int v₁ t₁) else m₀ z := by
      funext z
      by_cases h1 : z = x
      · simp [h1]
      · by_cases h2 : z = y
        · simp only [if_neg h1, if_pos h2]; rw [h2]; exact hy
        · simp only [if_neg h1, if_neg h2]; exact hz z h1 h2
    rw [e] at F₁
    exact turn _ _ _ _ h tk own hoff F₁ N₁
  · rintro m₁ nx h tk ⟨rfl, ⟨v₁, t₁, hy⟩, hz⟩ F₁ N₁
    refine done (m₁ x) v₁ t₁ h tk ?_ N₁
    have e : (fun z => if z = x then m₁ x else if z = y then some (Value.int v₁ t₁) else m₀ z) = m₁ := by
      funext z
      by_cases h1 : z = x
      · simp [h1]
      · by_cases h2 : z = y
        · simp only [if_neg h1, if_pos h2]; rw [h2]; exact hy.symm
        · simp only [if_neg h1, if_neg h2]; exact (hz z h1 h2).symm
    rw [e]
    exact F₁
end
local macro_rules | `(tactic| walk_at "exec For") => `(tactic| (k_here; (rename Fr _ _ _ _ => lF'); (with_unfolding_all refine' For_invVF lF' ?k1 ?k2 ?_; (case k1 => exact rfl); (case k2 => exact rfl); k_whole)))
local macro_rules | `(tactic| walk_at "pyIter ref") => `(tactic| (k_here; (with_reducible show wpAny _ _ (pyIter (Value.ref _)) (fun it s₂ => LoopAtV _ _ _ _ _ _ _ _ _ it s₂) _ _); k_dflt (refine' iterTup (Str.ofString "first") ?h ?F ?N ?l ?i ?e ?m (fun k' t' v' tv' h' tk' own' hoff' F' N' => ?_) (fun u' v' tv' h' tk' F' N' => ?_); (case h => exact rfl); (case F => k_asm); (case N => k_asm); (case l => assumption); (case i => exact IntsAre.take (by repeat constructor) _); (case e => decide); (case m => exact ⟨_, _, rfl⟩)); (all_goals (try dsimp only)); (all_goals (try k_fold))))
local macro_rules | `(tactic| walk_at "InvPostN") => `(tactic| (k_dflt (dsimp only [InvPostN]; refine InvEndN.intro (by assumption) (by assumption) ⟨rfl, ⟨_, _, by with_unfolding_all rfl⟩, by (intro z h1 h2; simp [h1, h2])⟩ rfl (fun p hp => List.mem_append.mpr (.inl hp)) (fun p hp => List.mem_append.mpr (.inr hp)))))
local macro_rules | `(tactic| walk_at "subscriptTail Name Slice ref ref") => `(tactic| (k_here; (with_reducible show wpAny _ _ (subscriptTail _ (PySem.Expr.Slice none (some _) none _) (Value.ref _) (Value.ref _)) _ _ _); k_dflt (refine' upto_K ?F ?N ?X ?l ?p ?q ?e ?z ?_ ?s ?t; (case F => k_asm); (case N => k_asm); (case X => k_asm); (case l => k_is); (case p => omega); (case q => (simp only [List.length_cons, List.length_nil]; omega)); (case e => exact rfl); (case z => exact Nat.le_of_ble_eq_true rfl); (case s => with_unfolding_all rfl); (case t => (intro _; with_unfolding_all rfl)); k_whole); intro D' h' F' N' l1; (try k_lt l1); (try k_sweep)))
section
variable {prog : Program} {w : World} {loose : List Str} {mean : ExcName → Option Value} {mg mb : Str → Option Value} {dp un : Nat} {gd : Option (List Code)} {cn : Str} {cs : Scope} {a : Addr} {ccd : Value} {cl : List (Str × Addr)} {outer : List Env} {A₀ : Around} {base h₀ : Heap} {L : Addr} {m : Str → Option Value} {news : List (Addr × Obj)} {s : Shared} {Q E : Value → Shared → Prop}
local macro_rules | `(tactic| k_room) => `(tactic| ((try simp only [depth_mark, depth_under_make, depth_under_kw, depth_in1, depth_deeper]); (try dsimp only [ktrTop]); omega))














theorem cut_lenG (B : Below A₀ base outer h₀) (F : Fr h₀ L s.heap m) (X : (hd.heap_39 w.params).In h₀) (N : News h₀ L s.heap news) (T : Top hd.view_39 loose mean mg mb h₀) (hk : cs.kind = .function) (hdp : dp + 16 < recursionLimit) (hun : un + 128 < cLine)
    {yy : Int} {tyy : Tok} {mm : Int} {tmm : Tok} (hp0 : 1 ≤ mm) (hp1 : mm ≤ 12) (hret : ∀ t h' tk', Fr h₀ L h' m → News h₀ L h' news → Q (.int (lenG yy mm) t) { s with heap := h', toks := tk' }) :
    wpAny (model prog w) (ktrTop dp un gd cn cs L a ccd cl outer) (call (.ref 70) [.int yy tyy, .int mm tmm]) Q E s := by
  all_goals (refine wpAny_call ?_; k_dflt cell_enter; k_steps)
  all_goals (try (exfalso; omega))
  all_goals (refine retI (Q := Q) hret (by k_asm) (by first | with_reducible assumption | exact newsDrop (by assumption) (by kcj_all)) ?_)
  all_goals (rw [← lenG_eq _ _ (by omega) (by omega)]; simp [*])
local macro_rules | `(tactic| walk_at "call ref") => `(tactic| (k_here; (with_reducible show wpAny _ _ (call (Value.ref 70) _) _ _ _); k_dflt (refine' cut_lenG ?kB ?kF ?kX ?kN ?kT ?kK ?kd ?ku ?kp0 ?kp1 ?_; (case kB => k_asm); (case kF => k_asm); (case kX => k_asm); (case kN => k_asm); (case kT => k_asm); (case kK => first | exact rfl | assumption); (case kd => first | omega | ktr_room); (case ku => first | omega | ktr_units); (case kp0 => first | assumption | omega | decide | (dsimp only; omega) | (dsimp only; decide)); (case kp1 => first | assumption | omega | decide | (dsimp only; omega) | (dsimp only; decide)); k_whole; intro t9 h9 tk9 F9 N9; (try dsimp only); (try k_fold))))

theorem cut_toJdS (B : Below A₀ base outer h₀) (F : Fr h₀ L s.heap m) (X : (hd.heap_39 w.params).In h₀) (N : News h₀ L s.heap news) (T : Top hd.view_39 loose mean mg mb h₀) (hk : cs.kind = .function) (hdp : dp + 20 < recursionLimit) (hun : un + 160 < cLine)
    {yy : Int} {tyy : Tok} {mm : Int} {tmm : Tok} {dd : Int} {tdd : Tok} (hp0 : 2 ≤ mm) (hret : ∀ t h' tk', Fr h₀ L h' m → News h₀ L h' news → Q (.int (toJdS yy mm dd) t) { s with heap := h', toks := tk' }) :
    wpAny (model prog w) (ktrTop dp un gd cn cs L a ccd cl outer) (call (.ref 178) [.int yy tyy, .int mm tmm, .int dd tdd]) Q E s := by
  all_goals (refine wpAny_call ?_; k_dflt cell_enter; k_steps)
  all_goals (try (exfalso; omega))
  all_goals (refine retI (Q := Q) hret (by k_asm) (by first | with_reducible assumption | exact newsDrop (by assumption) (by kcj_all)) ?_)
  all_goals (simp [toJdS, *])
local macro_rules | `(tactic| walk_at "call ref") => `(tactic| (k_here; (with_reducible show wpAny _ _ (call (Value.ref 178) _) _ _ _); k_dflt (refine' cut_toJdS ?kB ?kF ?kX ?kN ?kT ?kK ?kd ?ku ?kp0 ?_; (case kB => k_asm); (case kF => k_asm); (case kX => k_asm); (case kN => k_asm); (case kT => k_asm); (case kK => first | exact rfl | assumption); (case kd => first | omega | ktr_room); (case ku => first | omega | ktr_units); (case kp0 => first | assumption | omega | decide | (dsimp only; omega) | (dsimp only; decide)); k_whole; intro t9 h9 tk9 F9 N9; (try dsimp only); (try k_fold))))

theorem cut_lenS (B : Below A₀ base outer h₀) (F : Fr h₀ L s.heap m) (X : (hd.heap_39 w.params).In h₀) (N : News h₀ L s.heap news) (T : Top hd.view_39 loose mean mg mb h₀) (hk : cs.kind = .function) (hdp : dp + 8 < recursionLimit) (hun : un + 64 < cLine)
    {yy : Int} {tyy : Tok} {mm : Int} {tmm : Tok} (hp0 : 2 ≤ mm) (hret : ∀ t h' tk', Fr h₀ L h' m → News h₀ L h' news → Q (.int (lenS mm) t) { s with heap := h', toks := tk' }) :
    wpAny (model prog w) (ktrTop dp un gd cn cs L a ccd cl outer) (call (.ref 185) [.int yy tyy, .int mm tmm]) Q E s := by
  all_goals (refine wpAny_call ?_; k_dflt cell_enter; k_steps)
  all_goals (try (exfalso; omega))
  all_goals (refine retI (Q := Q) hret (by k_asm) (by first | with_reducible assumption | exact newsDrop (by assumption) (by kcj_all)) ?_)
  all_goals (simp_all [lenS]; try omega)
local macro_rules | `(tactic| walk_at "call ref") => `(tactic| (k_here; (with_reducible show wpAny _ _ (call (Value.ref 185) _) _ _ _); k_dflt (refine' cut_lenS ?kB ?kF ?kX ?kN ?kT ?kK ?kd ?ku ?kp0 ?_; (case kB => k_asm); (case kF => k_asm); (case kX => k_asm); (case kN => k_asm); (case kT => k_asm); (case kK => first | exact rfl | assumption); (case kd => first | omega | ktr_room); (case ku => first | omega | ktr_units); (case kp0 => first | assumption | omega | decide | (dsimp only; omega) | (dsimp only; decide)); k_whole; intro t9 h9 tk9 F9 N9; (try dsimp only); (try k_fold))))

theorem cut_leapK (B : Below A₀ base outer h₀) (F : Fr h₀ L s.heap m) (X : (hd.heap_39 w.params).In h₀) (N : News h₀ L s.heap news) (T : Top hd.view_39 loose mean mg mb h₀) (hk : cs.kind = .function) (hdp : dp + 4 < recursionLimit) (hun : un + 32 < cLine)
    {yy : Int} {tyy : Tok} (hp0 : 533 ≤ yy) (hret : ∀ h' tk', Fr h₀ L h' m → News h₀ L h' news → Q (.bool (yy.fmod 4 == 0)) { s with heap := h', toks := tk' }) :
    wpAny (model prog w) (ktrTop dp un gd cn cs L a ccd cl outer) (call (.ref 207) [.int yy tyy]) Q E s := by
  all_goals (refine wpAny_call ?_; k_dflt cell_enter; k_steps)
  all_goals (try (exfalso; omega))
  all_goals (refine retB (Q := Q) hret (by k_asm) (by first | with_reducible assumption | exact newsDrop (by assumption) (by kcj_all)) ?_)
  all_goals (rfl)
local macro_rules | `(tactic| walk_at "call ref") => `(tactic| (k_here; (with_reducible show wpAny _ _ (call (Value.ref 207) _) _ _ _); k_dflt (refine' cut_leapK ?kB ?kF ?kX ?kN ?kT ?kK ?kd ?ku ?kp0 ?_; (case kB => k_asm); (case kF => k_asm); (case kX => k_asm); (case kN => k_asm); (case kT => k_asm); (case kK => first | exact rfl | assumption); (case kd => first | omega | ktr_room); (case ku => first | omega | ktr_units); (case kp0 => first | assumption | omega | decide | (dsimp only; omega) | (dsimp only; decide)); k_whole; intro h9 tk9 F9 N9; (try dsimp only); (try k_fold))))

theorem cut_lenA (B : Below A₀ base outer h₀) (F : Fr h₀ L s.heap m) (X : (hd.heap_39 w.params).In h₀) (N : News h₀ L s.heap news) (T : Top hd.view_39 loose mean mg mb h₀) (hk : cs.kind = .function) (hdp : dp + 8 < recursionLimit) (hun : un + 64 < cLine)
    {yy : Int} {tyy : Tok} {mm : Int} {tmm : Tok} {tmoveable : Tok} (hp0 : mm ≤ 13) (hret : ∀ t h' tk', Fr h₀ L h' m → News h₀ L h' news → Q (.int (lenA mm) t) { s with heap := h', toks := tk' }) :
    wpAny (model prog w) (ktrTop dp un gd cn cs L a ccd cl outer) (call (.ref 223) [.int yy tyy, .int mm tmm, .str (Str.ofString "moveable") tmoveable]) Q E s := by
  all_goals (refine wpAny_call ?_; k_dflt (refine' code_def ?k1 ?k2 ?k3 ?k4 ?k5 ?kA ?kF ?kK ?k6 ?k7 ?k8 ?k9 ?kB ?_ ?c2 ?c3 ?c4 ?c5; (case kA => exact rfl); (case kF => exact rfl); (case kK => assumption); (case k1 => k_asm); (case k2 => k_asm); (case k3 => k_asm); (case k4 => k_asm); (case k5 => k_asm); (case k6 => k_is); (case k7 => k_is); (case k8 => ktr_room); (case k9 => exact binds_K (by k_in) rfl (by k_is) rfl rfl rfl); (case c5 => decide); (case kB => exact locs rfl); (case c2 => exact rfl); (case c3 => exact rfl); (case c4 => exact rfl); k_whole; intro g' L' h' FG' F' N' B' X' T'; (try dsimp only); (try k_lift B'); (try k_fold)); k_steps)
  all_goals (try (exfalso; omega))
  all_goals (refine retI (Q := Q) hret (by k_asm) (by first | with_reducible assumption | exact newsDrop (by assumption) (by kcj_all)) ?_)
  all_goals (simp_all [lenA])
local macro_rules | `(tactic| walk_at "call ref") => `(tactic| (k_here; (with_reducible show wpAny _ _ (call (Value.ref 223) _) _ _ _); k_dflt (refine' cut_lenA ?kB ?kF ?kX ?kN ?kT ?kK ?kd ?ku ?kp0 ?_; (case kB => k_asm); (case kF => k_asm); (case kX => k_asm); (case kN => k_asm); (case kT => k_asm); (case kK => first | exact rfl | assumption); (case kd => first | omega | ktr_room); (case ku => first | omega | ktr_units); (case kp0 => first | assumption | omega | decide | (dsimp only; omega) | (dsimp only; decide)); k_whole; intro t9 h9 tk9 F9 N9; (try dsimp only); (try k_fold))))

theorem cut_lenK (B : Below A₀ base outer h₀) (F : Fr h₀ L s.heap m) (X : (hd.heap_39 w.params).In h₀) (N : News h₀ L s.heap news) (T : Top hd.view_39 loose mean mg mb h₀) (hk : cs.kind = .function) (hdp : dp + 8 < recursionLimit) (hun : un + 64 < cLine)
    {yy : Int} {tyy : Tok} {mm : Int} {tmm : Tok} {tsarkawag : Tok} (hp0 : 533 ≤ yy) (hp1 : mm ≤ 13) (hret : ∀ t h' tk', Fr h₀ L h' m → News h₀ L h' news → Q (.int (lenK yy mm) t) { s with heap := h', toks := tk' }) :
    wpAny (model prog w) (ktrTop dp un gd cn cs L a ccd cl outer) (call (.ref 223) [.int yy tyy, .int mm tmm, .str (Str.ofString "sarkawag") tsarkawag]) Q E s := by
  all_goals (refine wpAny_call ?_; k_dflt (refine' code_def ?k1 ?k2 ?k3 ?k4 ?k5 ?kA ?kF ?kK ?k6 ?k7 ?k8 ?k9 ?kB ?_ ?c2 ?c3 ?c4 ?c5; (case kA => exact rfl); (case kF => exact rfl); (case kK => assumption); (case k1 => k_asm); (case k2 => k_asm); (case k3 => k_asm); (case k4 => k_asm); (case k5 => k_asm); (case k6 => k_is); (case k7 => k_is); (case k8 => ktr_room); (case k9 => exact binds_K (by k_in) rfl (by k_is) rfl rfl rfl); (case c5 => decide); (case kB => exact locs rfl); (case c2 => exact rfl); (case c3 => exact rfl); (case c4 => exact rfl); k_whole; intro g' L' h' FG' F' N' B' X' T'; (try dsimp only); (try k_lift B'); (try k_fold)); k_steps)
  all_goals (try (exfalso; omega))
  all_goals (refine retI (Q := Q) hret (by k_asm) (by first | with_reducible assumption | exact newsDrop (by assumption) (by kcj_all)) ?_)
  all_goals (simp_all [lenK])
local macro_rules | `(tactic| walk_at "call ref") => `(tactic| (k_here; (with_reducible show wpAny _ _ (call (Value.ref 223) _) _ _ _); k_dflt (refine' cut_lenK ?kB ?kF ?kX ?kN ?kT ?kK ?kd ?ku ?kp0 ?kp1 ?_; (case kB => k_asm); (case kF => k_asm); (case kX => k_asm); (case kN => k_asm); (case kT => k_asm); (case kK => first | exact rfl | assumption); (case kd => first | omega | ktr_room); (case ku => first | omega | ktr_units); (case kp0 => first | assumption | omega | decide | (dsimp only; omega) | (dsimp only; decide)); (case kp1 => first | assumption | omega | decide | (dsimp only; omega) | (dsimp only; decide)); k_whole; intro t9 h9 tk9 F9 N9; (try dsimp only); (try k_fold))))

theorem cut_toJdA (B : Below A₀ base outer h₀) (F : Fr h₀ L s.heap m) (X : (hd.heap_39 w.params).In h₀) (N : News h₀ L s.heap news) (T : Top hd.view_39 loose mean mg mb h₀) (hk : cs.kind = .function) (hdp : dp + 12 < recursionLimit) (hun : un + 96 < cLine)
    {yy : Int} {tyy : Tok} {mm : Int} {tmm : Tok} {t1 : Tok} {tmoveable : Tok} (hp0 : 1 ≤ yy) (hp1 : 1 ≤ mm) (hp2 : mm ≤ 13) (hret : ∀ t h' tk', Fr h₀ L h' m → News h₀ L h' news → Q (.int (toJdA yy mm 1) t) { s with heap := h', toks := tk' }) :
    wpAny (model prog w) (ktrTop dp un gd cn cs L a ccd cl outer) (call (.ref 215) [.int yy tyy, .int mm tmm, .int 1 t1, .str (Str.ofString "moveable") tmoveable]) Q E s := by
  all_goals (refine wpAny_call ?_; k_dflt (refine' code_def ?k1 ?k2 ?k3 ?k4 ?k5 ?kA ?kF ?kK ?k6 ?k7 ?k8 ?k9 ?kB ?_ ?c2 ?c3 ?c4 ?c5; (case kA => exact rfl); (case kF => exact rfl); (case kK => assumption); (case k1 => k_asm); (case k2 => k_asm); (case k3 => k_asm); (case k4 => k_asm); (case k5 => k_asm); (case k6 => k_is); (case k7 => k_is); (case k8 => ktr_room); (case k9 => exact binds_K (by k_in) rfl (by k_is) rfl rfl rfl); (case c5 => decide); (case kB => exact locs rfl); (case c2 => exact rfl); (case c3 => exact rfl); (case c4 => exact rfl); k_whole; intro g' L' h' FG' F' N' B' X' T'; (try dsimp only); (try k_lift B'); (try k_fold)); k_steps)
  all_goals (try (exfalso; omega))
  all_goals (refine retI (Q := Q) hret (by k_asm) (by first | with_reducible assumption | exact newsDrop (by assumption) (by kcj_all)) ?_)
  all_goals (rfl)
local macro_rules | `(tactic| walk_at "call ref") => `(tactic| (k_here; (with_reducible show wpAny _ _ (call (Value.ref 215) _) _ _ _); k_dflt (refine' cut_toJdA ?kB ?kF ?kX ?kN ?kT ?kK ?kd ?ku ?kp0 ?kp1 ?kp2 ?_; (case kB => k_asm); (case kF => k_asm); (case kX => k_asm); (case kN => k_asm); (case kT => k_asm); (case kK => first | exact rfl | assumption); (case kd => first | omega | ktr_room); (case ku => first | omega | ktr_units); (case kp0 => first | assumption | omega | decide | (dsimp only; omega) | (dsimp only; decide)); (case kp1 => first | assumption | omega | decide | (dsimp only; omega) | (dsimp only; decide)); (case kp2 => first | assumption | omega | decide | (dsimp only; omega) | (dsimp only; decide)); k_whole; intro t9 h9 tk9 F9 N9; (try dsimp only); (try k_fold))))

theorem cut_toJdK (B : Below A₀ base outer h₀) (F : Fr h₀ L s.heap m) (X : (hd.heap_39 w.params).In h₀) (N : News h₀ L s.heap news) (T : Top hd.view_39 loose mean mg mb h₀) (hk : cs.kind = .function) (hdp : dp + 12 < recursionLimit) (hun : un + 96 < cLine)
    {yy : Int} {tyy : Tok} {mm : Int} {tmm : Tok} {t1 : Tok} {tsarkawag : Tok} (hp0 : 533 ≤ yy) (hp1 : 1 ≤ mm) (hp2 : mm ≤ 13) (hret : ∀ t h' tk', Fr h₀ L h' m → News h₀ L h' news → Q (.int (toJdK yy mm 1) t) { s with heap := h', toks := tk' }) :
    wpAny (model prog w) (ktrTop dp un gd cn cs L a ccd cl outer) (call (.ref 215) [.int yy tyy, .int mm tmm, .int 1 t1, .str (Str.ofString "sarkawag") tsarkawag]) Q E s := by
  all_goals (refine wpAny_call ?_; k_dflt (refine' code_def ?k1 ?k2 ?k3 ?k4 ?k5 ?kA ?kF ?kK ?k6 ?k7 ?k8 ?k9 ?kB ?_ ?c2 ?c3 ?c4 ?c5; (case kA => exact rfl); (case kF => exact rfl); (case kK => assumption); (case k1 => k_asm); (case k2 => k_asm); (case k3 => k_asm); (case k4 => k_asm); (case k5 => k_asm); (case k6 => k_is); (case k7 => k_is); (case k8 => ktr_room); (case k9 => exact binds_K (by k_in) rfl (by k_is) rfl rfl rfl); (case c5 => decide); (case kB => exact locs rfl); (case c2 => exact rfl); (case c3 => exact rfl); (case c4 => exact rfl); k_whole; intro g' L' h' FG' F' N' B' X' T'; (try dsimp only); (try k_lift B'); (try k_fold)); k_steps)
  all_goals (try (exfalso; omega))
  all_goals (refine retI (Q := Q) hret (by k_asm) (by first | with_reducible assumption | exact newsDrop (by assumption) (by kcj_all)) ?_)
  all_goals ((have h99 : ¬ (yy - 533 < 0) := (by omega)); first | (simp only [toJdK, if_neg h99]; rfl) | (exfalso; simp_all; done) | (exfalso; simp_all; omega))
local macro_rules | `(tactic| walk_at "call ref") => `(tactic| (k_here; (with_reducible show wpAny _ _ (call (Value.ref 215) _) _ _ _); k_dflt (refine' cut_toJdK ?kB ?kF ?kX ?kN ?kT ?kK ?kd ?ku ?kp0 ?kp1 ?kp2 ?_; (case kB => k_asm); (case kF => k_asm); (case kX => k_asm); (case kN => k_asm); (case kT => k_asm); (case kK => first | exact rfl | assumption); (case kd => first | omega | ktr_room); (case ku => first | omega | ktr_units); (case kp0 => first | assumption | omega | decide | (dsimp only; omega) | (dsimp only; decide)); (case kp1 => first | assumption | omega | decide | (dsimp only; omega) | (dsimp only; decide)); (case kp2 => first | assumption | omega | decide | (dsimp only; omega) | (dsimp only; decide)); k_whole; intro t9 h9 tk9 F9 N9; (try dsimp only); (try k_fold))))

end
end Mine

namespace Mine
theorem topOffH2a : (1 : Nat) = 1 := by
  w_top off
  walk1
theorem fill3 : PySem.Challenge.rw_jb0011_01 = PySem.Challenge.rw_jb0011_01 ∧ hd.heap_39 = hd.heap_39 := by
  k_fill
  exact ⟨rfl, rfl⟩
section
variable {prog : Program} {w : World} {loose : List Str} {mean : ExcName → Option Value} {mg mb : Str → Option Value} {dp un : Nat} {gd : Option (List Code)} {cn : Str} {cs : Scope} {a : Addr} {ccd : Value} {cl : List (Str × Addr)} {outer : List Env} {A₀ : Around} {base h₀ : Heap} {L : Addr} {m : Str → Option Value} {news : List (Addr × Obj)} {s : Shared} {Q E : Value → Shared → Prop}


theorem repOne {x : Int} {v : Value} : (List.replicate x.toNat [v]).flatten = List.replicate x.toNat v := List.flatten_replicate_singleton
theorem mulR {prog : Program} {w : World} {A : Around} {E : Value → Shared → Prop} {s : Shared} {h₀ : Heap} {L : Addr} {m : Str → Option Value} {news : List (Addr × Obj)} {l : Addr} {v : Value} {k : Nat} {x : Int} {u : Tok} {Q : Value → Shared → Prop}
    (Fm : Fr h₀ L s.heap m) (N : News h₀ L s.heap news) (hl : (l, listOf [v].toArray k) ∈ news) (hlo : 0 ≤ x) (hhi : x ≤ 100)
    (h : ∀ D h', Fr h₀ L h' m → News h₀ L h' ((D, listOf (List.replicate x.toNat v).toArray 0) :: news) → (∀ p ∈ news, p.1 < D) → Q (.ref D) { s with heap := h' }) :
    wpAny (model prog w) A (binaryOp .Mult (.int x u) (.ref l)) Q E s := by
  refine mul_list_r (items := [v].toArray) Fm N (News.get N hl) (by omega) (by omega) (by simp; omega) fun h' F' N' => ?_
  rw [listMul_foldl_if] at N'
  have e : (List.replicate x.toNat [v].toArray.toList).flatten = List.replicate x.toNat v := repOne
  rw [e] at N'
  exact h _ _ F' N' fun p hp => Heap.lt_size (N p hp).1
theorem allNe {news : List (Addr × Obj)} {b d : Addr} (h : ∀ p ∈ news, p.1 < b) (e : @LE.le Nat _ b d) : ∀ p ∈ news, p.1 ≠ d := fun p hp => Nat.ne_of_lt (Nat.lt_of_lt_of_le (h p hp) e)

end
section
open PySem.Spec PySem.Calls
variable {prog : Program} {w : World} {A : Around} {E : Value → Shared → Prop} {s : Shared} {h₀ : Heap} {L : Addr} {m : Str → Option Value} {env : Env}
def SrcS (prog : Program) (w : World) (A : Around) (h₀ : Heap) (L : Addr) (m : Str → Option Value) (env : Env) (elt : Expr) (x : Str) (scope : Scope) (cl : List (Str × Addr)) (Fin : Shared → List Value → List (Addr × Obj) → Prop) (xv : Value) (s₁ : Shared) : Prop :=
  ∃ r a b c t u v n news, xv = .ref r ∧ A.handled = none ∧ Fr h₀ L s₁.heap m ∧ News h₀ L s₁.heap news ∧ IsRange s₁.heap r a b c t u v ∧ Builtin.Range.small a b c = true ∧ Builtin.Range.rangeSize a b c = ((n : Nat) : Int) ∧ n ≤ sizeLine ∧
    ∀ s₂ : Shared, (∃ h, s₂ = { s₁ with heap := h }) → LCg.CompRest prog w A h₀ L m env elt x scope cl s₂ (fun _ => True) (fun i v => i < n ∧ ∃ t, v = .int (a + (i : Int) * c) t) (Fin s₂) n 0 [] news
theorem listCompS {elt iter : Expr} {x : Str} {px : Pos} {scope : Scope} {cl : List (Str × Addr)} {pos : Pos} {Q : Value → Shared → Prop} (_F₀ : Fr h₀ L s.heap m)
    (hclos : closureFor scope env = pure cl) (hcell : ∀ y ∈ scope.names, y.2 ≠ .cell) (hkind : scope.kind = .function)
    (hnames : ∀ y ∈ scope.names, y.2 = .local → scope.names.lookup y.1 = some .local) (hx : scope.names.lookup x = some .local)
    (h : wpAny (model prog w) A (eval iter env) (SrcS prog w A h₀ L m env elt x scope cl (fun s₂ => LCg.FinE h₀ L m s₂ Q)) E s)
    (hs : ∀ x, foldedSetIterable iter env x = pure x := by intro _; rfl) :
    wpAny (model prog w) A (eval (.ListComp elt [⟨.Name x px, iter, [], 0⟩] scope pos) env) Q E s := by
  rw [eval_ListComp]
  refine wpAny_comprehension_free (use := none) rfl hs hclos hkind hnames (wpAny_mono h (fun xv s₁ h₁ => ?_) fun _ _ e => e)
  obtain ⟨r, a, b, c, t, u, v, n, news, rfl, hh, F, N, hr, hsm, hn, hsz, R⟩ := h₁
  refine wpAny_pyIter_range hr hsm ?_
  have W : Walks prog w A s₁.heap.objs.size [s₁.heap.objs.size] [s₁.heap.objs.size] n (fun i v => i < n ∧ ∃ t, v = .int (a + i * c) t) (fun i h => IsRangeIter h s₁.heap.objs.size (a + (i : Nat) * c) ((n : Int) - (i : Nat)) c) := (Walks.range hh _ a c n).bound
  refine LCg.block_U W hsz (fun i h st => ⟨_, st⟩) (fun i h h' o nw st e e' _ _ _ => ?_) hcell hkind hx (by show IsRangeIter _ _ _ _ _; rw [hn]; simpa using Heap.get?_push_size _ rfl) (fun b hb => ?_)
    (F.keeps fun _ _ e => Heap.get?_push_of_some _ e) (N.grown fun _ _ e => Heap.get?_push_of_some _ e) (Nat.ne_of_lt F.ns.lt) (next_is_new F) (fun p hp => Nat.ne_of_lt (Heap.lt_size (N p hp).1)) trivial (R _ ⟨_, rfl⟩) ?_
  · have st' : h.get? s₁.heap.objs.size = some _ := st
    show h'.get? s₁.heap.objs.size = some _
    rw [e', ← e]; exact st'
  · rw [List.mem_singleton.mp hb]
    show s₁.heap.objs.size < (s₁.heap.push _).objs.size
    rw [Heap.size_push]; exact Nat.lt_succ_self _
  · intro D C h tk m' ys news' F' N' o1 hn' hC₀ hD₀ hCL hDL hCD offC fin
    refine ⟨m', hn', fun h'' hs'' => fin D h'' tk (F'.change hs'' hCL hC₀) (fun p hp => ?_) o1⟩
    refine ⟨hs''.extBut _ _ ?_ (N' p hp).1, (N' p hp).2⟩
    rcases List.mem_cons.mp hp with rfl | hp
    · exact Ne.symm hCD
    · exact offC p hp
theorem rest_ind {elt : Expr} {x : Str} {scope : Scope} {cl : List (Str × Addr)} {S : List (Addr × Obj) → Prop} {P : Nat → Value → Prop} {Fin : List Value → List (Addr × Obj) → Prop} {n : Nat} (Inv : Nat → List Value → List (Addr × Obj) → Prop)
    (step : ∀ i ys nx, i < n → Inv i ys nx → ∀ v I oI C oC D m₂ h tk (E' : Value → Shared → Prop), P i v → LCg.NsObj oC m₂ → m₂ x = some v → Fr h₀ L h m → News h₀ L h ((I, oI) :: (C, oC) :: (D, LCg.lst ys) :: nx) → LCg.Off3 I C D nx → ((@Ne Nat I C) ∧ (@Ne Nat I D) ∧ (@Ne Nat C D)) →
      wpAny (model prog w) A (eval elt (compEnvC scope cl C env)) (LCg.CompEnd h₀ L m { s with heap := h, toks := tk } I oI C oC D (LCg.lst ys) S (fun y nx' => Inv (i + 1) (ys ++ [y]) nx')) E' { s with heap := h, toks := tk })
    (fin : ∀ ys nx, Inv n ys nx → Fin ys nx) : ∀ k i ys nx, i + k = n → Inv i ys nx → LCg.CompRest prog w A h₀ L m env elt x scope cl s S P Fin k i ys nx := by
  intro k
  induction k with
  | zero =>
    intro i ys nx e hI
    have e' : i = n := by omega
    subst e'
    exact LCg.CompRest.zero (fin ys nx hI)
  | succ k ih =>
    intro i ys nx e hI
    refine LCg.CompRest.succ fun v I oI C oC D m₂ h tk E' hP hC hx F N off ne => ?_
    refine wpAny_mono (step i ys nx (by omega) hI v I oI C oC D m₂ h tk E' hP hC hx F N off ne) (fun y s' q => ?_) fun _ _ z => z
    obtain ⟨h', tk', nx', e1, F', N', o', hS, r⟩ := q
    exact ⟨h', tk', nx', e1, F', N', o', hS, ih (i + 1) _ _ (by omega) r⟩
def daysD (p n : Int) : List Dat := List.replicate p.toNat Dat.none ++ (rangeKs 1 n.toNat).map Dat.int ++ List.replicate 7 Dat.none
def rowD (p n : Int) (i : Nat) : Dat := Dat.list (((daysD p n).drop (7 * i)).take 7)
def rowsOf (p n : Int) : List Dat := (List.range ((p + n + 6) / 7).toNat).map (rowD p n)
theorem datNones (l : List (Addr × Obj)) : ∀ k : Nat, DatAll l (List.replicate k Value.none) (List.replicate k Dat.none)
  | 0 => .nil
  | k + 1 => by rw [List.replicate_succ, List.replicate_succ]; exact .cons .none (datNones l k)
theorem datInts (l : List (Addr × Obj)) : ∀ {vs : List Value} {ns : List Int}, IntsAre vs ns → DatAll l vs (ns.map Dat.int)
  | _, _, .nil => .nil
  | _, _, .cons n t h => .cons (.int n t) (datInts l h)
theorem datDrop {l : List (Addr × Obj)} : ∀ {vs : List Value} {ds : List Dat} (k : Nat), DatAll l vs ds → DatAll l (vs.drop k) (ds.drop k)
  | _, _, 0, h => h
  | _, _, _ + 1, .nil => .nil
  | _, _, k + 1, .cons _ r => datDrop k r
theorem datTake {l : List (Addr × Obj)} : ∀ {vs : List Value} {ds : List Dat} (k : Nat), DatAll l vs ds → DatAll l (vs.take k) (ds.take k)
  | _, _, 0, _ => .nil
  | _, _, _ + 1, .nil => .nil
  | _, _, k + 1, .cons h r => .cons h (datTake k r)
theorem range7 (b : Int) (h0 : 0 < b) : Builtin.Range.rangeSize 0 b 7 = (((b + 6) / 7).toNat : Int) := by
  unfold Builtin.Range.rangeSize
  simp only [show (7 : Int) > 0 by decide, if_true, if_pos h0]
  omega
theorem small7 (b : Int) (h0 : 0 < b) (h1 : b < 1000) : Builtin.Range.small 0 b 7 = true := by
  unfold Builtin.Range.small
  rw [range7 b h0]
  simp only [Builtin.Range.rangeFitsLong, Bool.and_eq_true, Bool.or_eq_true, decide_eq_true_eq, beq_iff_eq, show (7 : Int) > 0 by decide, if_true]
  omega
theorem pick7 (items : List Value) (i : Nat) : slicePick items.toArray (some (0 + (i : Int) * 7)) (some (0 + (i : Int) * 7 + 7)) none = ((items.drop (7 * i)).take 7).toArray := by
  rw [kms_pick_eq]
  unfold kms_pick kms_lo kms_hi
  simp only [if_neg (show ¬ (0 + (i : Int) * 7 < 0) by omega), if_neg (show ¬ (0 + (i : Int) * 7 + 7 < 0) by omega)]
  have e1 : (0 + (i : Int) * 7).toNat = 7 * i := by omega
  have e2 : (0 + (i : Int) * 7 + 7).toNat = 7 * i + 7 := by omega
  rw [e1, e2]
  congr 1
  rw [kmk_drop_min]
  have e3 : min (7 * i + 7) items.length - min (7 * i) items.length = min 7 (items.drop (7 * i)).length := by rw [List.length_drop]; omega
  rw [e3, kmk_take_min]
end
local macro_rules | `(tactic| k_room) => `(tactic| ((try simp only [depth_mark, depth_under_make, depth_under_kw, depth_in1, depth_deeper]); (try dsimp only [ktrTop]); omega))
local macro_rules | `(tactic| walk_at "binaryOp Mult ref int") => `(tactic| (k_here; (with_reducible show wpAny _ _ (binaryOp Operator.Mult (Value.ref _) (Value.int _ _)) _ _ _); k_dflt (refine' KMa.mul ?F ?N ?l ?lo ?hi ?z ?e ?_; (case F => k_asm); (case N => k_asm); (case l => kmk_list); (case lo => omega); (case hi => omega); (case z => (simp only [List.length_cons, List.length_nil]; omega)); (case e => exact repOne); k_whole); intro D' h' F' N' l1; (try k_lt l1); (try k_sweep)))
local macro_rules | `(tactic| walk_at "binaryOp Mult int ref") => `(tactic| (k_here; (with_reducible show wpAny _ _ (binaryOp Operator.Mult (Value.int _ _) (Value.ref _)) _ _ _); k_dflt (refine' mulR ?F ?N ?l ?lo ?hi ?_; (case F => k_asm); (case N => k_asm); (case l => k_mem); (case lo => decide); (case hi => decide); k_whole); intro D' h' F' N' l1; (try k_lt l1); (try k_sweep)))
local macro_rules | `(tactic| walk_at "binaryOp Add ref ref") => `(tactic| (k_here; (with_reducible show wpAny _ _ (binaryOp _ (Value.ref _) (Value.ref _)) _ _ _); k_dflt (refine' kmk_add_lit ?F ?N ?a ?b ?e ?_ ?z; (case F => k_asm); (case N => k_asm); (case a => kmk_list); (case b => kmk_list); (case e => exact rfl); (case z => ((have hq9 := IntsAre.length (by assumption)); (simp only [rangeKs_length] at hq9); (simp only [List.length_append, List.length_replicate, List.length_cons, List.length_nil]); rw [sizeLine_eq]; omega))); intro D' h' F' N' l1; (try k_lt l1); (try k_sweep)))
local macro_rules | `(tactic| k_all) => `(tactic| exact allNe (by assumption) (by omega))
local macro_rules | `(tactic| walk_at "eval ListComp") => `(tactic| (k_here; k_dflt (refine listCompS (_F₀ := by k_asm) (by with_unfolding_all rfl) (by decide) (by rfl) (by decide) (by rfl) ?_)))
local macro_rules | `(tactic| walk_at "subscriptTail Name Slice ref ref") => `(tactic| (k_here; (with_reducible show wpAny _ _ (subscriptTail _ (PySem.Expr.Slice (some _) (some _) none _) (Value.ref _) (Value.ref _)) _ _ _); k_dflt (refine' kmk_slice ?F ?N ?l ?p ?q ?_ ?s ?t ?z; (case F => k_asm); (case N => k_asm); (case l => first | exact News.isList (by k_asm) (by k_mem) | exact News.isList (by k_asm) (.tail _ (.tail _ (.tail _ (by assumption))))); (case p => exact IsPart.int _ _); (case q => exact IsPart.int _ _); (case s => with_unfolding_all rfl); (case t => (intro _; with_unfolding_all rfl)); (case z => assumption); k_whole); intro D' h' F' N' l1))

theorem topOffH3 : (1 : Nat) = 1 := by
  w_top off
  walk1
theorem fill4 : PySem.Challenge.rw_jb0011_01 = PySem.Challenge.rw_jb0011_01 ∧ hd.heap_39 = hd.heap_39 := by
  k_fill
  exact ⟨rfl, rfl⟩
section
variable {prog : Program} {w : World} {loose : List Str} {mean : ExcName → Option Value} {mg mb : Str → Option Value} {dp un : Nat} {gd : Option (List Code)} {cn : Str} {cs : Scope} {a : Addr} {ccd : Value} {cl : List (Str × Addr)} {outer : List Env} {A₀ : Around} {base h₀ : Heap} {L : Addr} {m : Str → Option Value} {news : List (Addr × Obj)} {s : Shared} {Q E : Value → Shared → Prop}

theorem absBase {G : Prop} {g h : Heap} {L : Addr} {base₀ news : List (Addr × Obj)} {d₁ d₂ : Addr × Obj} (hN : News g L h base₀) (h1 : d₁ ∈ base₀) (h2 : d₂ ∈ base₀) (h3 : ∀ p ∈ news, p ∈ base₀)
    (k : ∀ base, News g L h base → d₁ ∈ base → d₂ ∈ base → (∀ p ∈ news, p ∈ base) → G) : G := k _ hN h1 h2 h3
theorem sizeDays {vs : List Value} {p k : Nat} (hL : vs.length = k) (hk : k ≤ 31) (hp : p ≤ 6) : (List.replicate p Value.none ++ vs ++ List.replicate (Int.toNat 7) Value.none).toArray.size ≤ sizeLine := by
  rw [sizeLine_eq, List.size_toArray]
  simp only [List.length_append, List.length_replicate]
  have e : Int.toNat 7 = 7 := rfl
  omega
theorem compEndRow {s₁ : Shared} {h' : Heap} {tk : Nat} {I C D G : Addr} {oI oC oD row : Obj} {nx : List (Addr × Obj)} {rest : Value → List (Addr × Obj) → Prop} (F : Fr h₀ L h' m) (N : News h₀ L h' ((G, row) :: (I, oI) :: (C, oC) :: (D, oD) :: nx))
    (l : ∀ p ∈ ((I, oI) :: (C, oC) :: (D, oD) :: nx), p.1 < G) (off : LCg.Off3 I C D nx) (r : rest (.ref G) ((G, row) :: nx)) : LCg.CompEnd h₀ L m s₁ I oI C oC D oD (fun _ => True) rest (.ref G) { s₁ with heap := h', toks := tk } := by
  refine LCg.CompEnd.intro F N ((G, row) :: nx) (fun p hp => ?_) ⟨⟨?_, ?_, ?_⟩, off⟩ trivial r
  · rcases List.mem_cons.mp hp with rfl | hp
    · exact .tail _ (.head _)
    rcases List.mem_cons.mp hp with rfl | hp
    · exact .tail _ (.tail _ (.head _))
    rcases List.mem_cons.mp hp with rfl | hp
    · exact .tail _ (.tail _ (.tail _ (.head _)))
    rcases List.mem_cons.mp hp with rfl | hp
    · exact .head _
    · exact .tail _ (.tail _ (.tail _ (.tail _ hp)))
  · exact Nat.ne_of_gt (l _ (.head _))
  · exact Nat.ne_of_gt (l _ (.tail _ (.head _)))
  · exact Nat.ne_of_gt (l _ (.tail _ (.tail _ (.head _))))
theorem rowIn {p n : Int} {vs : List Value} {i : Nat} {G : Addr} {tl : List (Addr × Obj)} (hD : DatAll [] vs (daysD p n)) : DatIn ((G, W.listOf ((vs.drop (7 * i)).take 7).toArray 0) :: tl) (.ref G) (rowD p n i) :=
  DatIn.list (.head _) (DatAll.mono (news := []) (fun p hp => by cases hp) (datTake 7 (datDrop (7 * i) hD)))
theorem cut_helper (B : Below A₀ base outer h₀) (F : Fr h₀ L s.heap m) (X : (hd.heap_39 w.params).In h₀) (N : News h₀ L s.heap news) (T : Top hd.view_39 loose mean mg mb h₀) (hk : cs.kind = .function) (hdp : dp + 8 < recursionLimit) (hun : un + 64 < cLine)
    {sw ml : Int} {t1 t2 : Tok} (h1 : 0 ≤ sw) (h2 : sw < 7) (h3 : 1 ≤ ml) (h4 : ml ≤ 31)
    (hret : ∀ D h' tk' tl ys, Fr h₀ L h' m → News h₀ L h' ((D, LCg.lst ys) :: (tl ++ news)) → DatAll tl ys (rowsOf ((sw + 1).fmod 7) ml) → Q (.ref D) { s with heap := h', toks := tk' }) :
    wpAny (model prog w) (ktrTop dp un gd cn cs L a ccd cl outer) (call (.ref 48) [.int sw t1, .int ml t2]) Q E s := by
  have hq1 : 0 ≤ (sw + 1).fmod 7 := by rw [Int.fmod_eq_emod_of_nonneg _ (by decide)]; omega
  have hq2 : (sw + 1).fmod 7 < 7 := by rw [Int.fmod_eq_emod_of_nonneg _ (by decide)]; omega
  refine wpAny_call ?_
  k_dflt (refine' code_defC ?k1 ?k2 ?k3 ?k4 ?k5 ?kA ?kF ?kK ?k6 ?k7 ?k8 ?k9 ?kB ?kD ?_ ?c2 ?c3 ?c4; (case kA => exact rfl); (case kF => exact rfl); (case kK => assumption); (case k1 => k_asm); (case k2 => k_asm); (case k3 => k_asm); (case k4 => k_asm); (case k5 => k_asm); (case k6 => k_is); (case k7 => k_is); (case k8 => ktr_room); (case k9 => exact BindsTo.of_eq rfl); (case kB => exact rfl); (case kD => decide +kernel); (case c2 => exact rfl); (case c3 => exact rfl); (case c4 => exact rfl); k_whole; intro g' L' h' tk' cells' FG' F' N' Y' B' X' T' l1; (try k_lt l1); k_cells Y'; (try simp only [List.cons_append, List.nil_append] at N'); (try dsimp only); (try k_lift B'); (try k_fold))
  k_steps
  rename IsRange _ _ 0 _ 7 _ _ _ => hR
  rename Fr _ _ _ _ => hF
  rename News _ _ _ _ => hN
  rename IntsAre _ _ => hI
  rename Obj => oCell
  rename oCell.data = _ => hcd
  have hI' : (1 + ml - 1).toNat = ml.toNat := by omega
  rw [hI'] at hI
  have hL := IntsAre.length hI
  rw [rangeKs_length] at hL
  have hD := DatAll.append (DatAll.append (datNones [] ((sw + 1).fmod 7).toNat) (datInts [] hI)) (datNones [] 7)
  have hz := sizeDays (p := ((sw + 1).fmod 7).toNat) hL (by omega) (by omega)
  refine absBase (d₁ := (L' + 1, oCell)) (d₂ := (_, W.listOf _ 0)) (news := news) hN (by k_mem) (by k_mem) (fun p hp => by simp [hp]) ?_
  intro base hN hmC hmD hsub
  refine ⟨_, _, _, _, _, _, _, (((sw + 1).fmod 7 + ml + 6) / 7).toNat, _, rfl, rfl, hF, hN, hR, small7 _ (by omega) (by omega), range7 _ (by omega), by rw [sizeLine_eq]; omega, ?_⟩
  rintro s₂ ⟨h₂, rfl⟩
  refine rest_ind (fun i ys nx => ∃ tl, nx = tl ++ base ∧ DatAll tl ys ((List.range i).map (rowD ((sw + 1).fmod 7) ml))) ?step ?fin _ 0 [] _ (Nat.zero_add _) ⟨[], rfl, .nil⟩
  case step =>
    rintro i ys nx hi ⟨tl, rfl, hT⟩ v I oI C oC D m₂ h tk E' ⟨_, t, rfl⟩ hC hx F5 N5 off ne
    have hmC' := List.mem_append.mpr (Or.inr hmC : _ ∈ tl ∨ _ ∈ base)
    have hmD' := List.mem_append.mpr (Or.inr hmD : _ ∈ tl ∨ _ ∈ base)
    refine Subscript_ (lcf_cell (c := L' + 1) (o := oCell) N5 rfl (.tail _ (.tail _ (.tail _ hmC'))) hcd ?_ rfl rfl)
    k_steps
    rename Fr _ _ _ _ => F7
    rename News _ _ _ _ => N7
    rw [pick7] at N7
    refine compEndRow F7 N7 (by assumption) off ⟨_ :: tl, rfl, ?_⟩
    rw [List.range_succ, List.map_append]
    exact DatAll.append (hT.mono fun p hp => .tail _ hp) (.cons (rowIn hD) .nil)
  case fin =>
    rintro ys nx ⟨tl, rfl, hT⟩
    intro D h tk F9 N9 o9
    k_steps
    refine hret D _ _ tl ys (by k_asm) ?_ hT
    refine newsDrop (by assumption) (fun p hp => ?_)
    rcases List.mem_cons.mp hp with rfl | hp
    · exact .head _
    · refine .tail _ ?_
      rcases List.mem_append.mp hp with hp | hp
      · exact List.mem_append.mpr (.inl hp)
      · exact List.mem_append.mpr (.inr (hsub p hp))
end
end Mine

namespace Mine
theorem topOffYears : (1 : Nat) = 1 := by
  w_top off
  walk1
theorem fill6 : PySem.Challenge.rw_jb0011_01 = PySem.Challenge.rw_jb0011_01 ∧ hd.heap_39 = hd.heap_39 := by
  k_fill
  exact ⟨rfl, rfl⟩

def jan (y : Int) : Int := 2451545 + 146097 * (y - 2000).fdiv 400 + 365 * (y - 2000).fmod 400 + ((y - 2000).fmod 400 + 3).fdiv 4 - (if (y - 2000).fmod 400 - 1 > 0 then (y - 2000).fmod 400 - 1 else 0).fdiv 100
def longs : List Int := [2, 5, 7, 10, 13, 16, 18, 21, 24, 26, 29]
def firstOf (k y : Int) : Int :=
  if k = 0 then jan y
  else if k = 1 then 1461 * (y + 4712).fdiv 4 + 365 * (y + 4712).fmod 4 + (if 0 < (y + 4712).fmod 4 then 1 else 0)
  else if k = 2 then 1948440 + 10631 * (y - 1).fdiv 30 + 354 * (y - 1).fmod 30 + ((longs.filter (fun o => decide (o ≤ (y - 1).fmod 30))).length : Int)
  else if k = 3 then 1825030 + 1461 * (y - 1).fdiv 4 + 365 * (y - 1).fmod 4 + (if (y - 1).fmod 4 = 3 then 1 else 0)
  else if k = 4 then jan (y + 78) + 80
  else if k = 5 then 1922868 + 365 * (y - 1)
  else 2117212 + 1461 * (y - 533).fdiv 4 + 365 * (y - 533).fmod 4
def lensOf (k y : Int) : List Int :=
  if k = 0 then [31, jan (y + 1) - jan y - 337, 31, 30, 31, 30, 31, 31, 30, 31, 30, 31]
  else if k = 1 then [31, if (y + 4712).fmod 4 = 0 then 29 else 28, 31, 30, 31, 30, 31, 31, 30, 31, 30, 31]
  else if k = 2 then [30, 29, 30, 29, 30, 29, 30, 29, 30, 29, 30, if (longs.any (fun x => x == (y - 1).fmod 30 + 1)) = true then 30 else 29]
  else if k = 3 then [30, 30, 30, 30, 30, 30, 30, 30, 30, 30, 30, 30, if (y - 1).fmod 4 = 2 then 6 else 5]
  else if k = 4 then [jan (y + 79) - jan (y + 78) - 335, 31, 31, 31, 31, 31, 30, 30, 30, 30, 30, 30]
  else if k = 5 then [30, 30, 30, 30, 30, 30, 30, 30, 30, 30, 30, 30, 5]
  else [30, 30, 30, 30, 30, 30, 30, 30, 30, 30, 30, 30, if (y - 533).fmod 4 = 3 then 6 else 5]
local macro_rules | `(tactic| k_room) => `(tactic| ((try simp only [depth_mark, depth_under_make, depth_under_kw, depth_in1, depth_deeper]); (try dsimp only [ktrTop]); omega))
local macro_rules | `(tactic| k_all) => `(tactic| exact allNe (by assumption) (by omega))

section
open PySem.Spec PySem.Calls
variable {prog : Program} {w : World} {A : Around} {E : Value → Shared → Prop} {s : Shared} {h₀ : Heap} {L : Addr} {m : Str → Option Value} {env : Env}
theorem lenInts {news : List (Addr × Obj)} {D : Addr} {ys : List Value} {ns : List Int} {Q : Value → Shared → Prop} (N : News h₀ L s.heap news) (hm : (D, LCg.lst ys) ∈ news) (hT : IntsAre ys ns) (hfit : ns.length < 1000)
    (h : Q (.int (ns.length : Int) (s.toks + 1)) { s with toks := s.toks + 1 + 1 }) : wpAny (model prog w) A (call (.builtin "len") [.ref D]) Q E s := by
  have hl := hT.length
  refine len_list (items := ys.toArray) (News.isList N hm) (by rw [List.size_toArray, hl]; omega) ?_
  rw [List.size_toArray, hl]
  exact h
theorem longAt {its : Array Value} {ns : List Int} (hi : IntsAre its.toList ns) {i : Nat} {v : Value} (hP : its[i]? = some v) : ∃ n t, ns[i]? = some n ∧ v = .int n t := by
  have hl := hi.length
  have hlt : i < ns.length := by
    have h1 := (Array.getElem?_eq_some_iff.mp hP).1
    rw [← hl, Array.length_toList]; exact h1
  obtain ⟨t, hx⟩ := hi.get i ns[i] (List.getElem?_eq_getElem hlt)
  rw [Array.getElem?_toList, hP] at hx
  exact ⟨_, t, List.getElem?_eq_getElem hlt, Option.some.inj hx⟩
theorem newsFront {h : Heap} {a b c q : Addr × Obj} {nx : List (Addr × Obj)} (N : News h₀ L h (a :: b :: c :: nx)) (hq : q ∈ nx) : News h₀ L h (a :: b :: c :: q :: nx) := fun p hp => N p (by
  rcases List.mem_cons.mp hp with rfl | hp
  · exact .head _
  rcases List.mem_cons.mp hp with rfl | hp
  · exact .tail _ (.head _)
  rcases List.mem_cons.mp hp with rfl | hp
  · exact .tail _ (.tail _ (.head _))
  rcases List.mem_cons.mp hp with rfl | hp
  · exact .tail _ (.tail _ (.tail _ hq))
  · exact .tail _ (.tail _ (.tail _ hp)))
theorem newsFront1 {h : Heap} {a q : Addr × Obj} {nx : List (Addr × Obj)} (N : News h₀ L h (a :: nx)) (hq : q ∈ nx) : News h₀ L h (q :: a :: nx) := fun p hp => N p (by
  rcases List.mem_cons.mp hp with rfl | hp
  · exact .tail _ hq
  · exact hp)
theorem compEndSame {s₁ : Shared} {h' : Heap} {tk : Nat} {I C D : Addr} {oI oC oD : Obj} {q : Addr × Obj} {nx : List (Addr × Obj)} {S : List (Addr × Obj) → Prop} {rest : Value → List (Addr × Obj) → Prop} {y : Value} (F : Fr h₀ L h' m) (N : News h₀ L h' ((I, oI) :: (C, oC) :: (D, oD) :: q :: nx))
    (off : LCg.Off3 I C D nx) (hS : S nx) (r : rest y nx) : LCg.CompEnd h₀ L m s₁ I oI C oC D oD S rest y { s₁ with heap := h', toks := tk } := by
  refine LCg.CompEnd.intro F N nx (fun p hp => ?_) off hS r
  rcases List.mem_cons.mp hp with rfl | hp
  · exact .head _
  rcases List.mem_cons.mp hp with rfl | hp
  · exact .tail _ (.head _)
  rcases List.mem_cons.mp hp with rfl | hp
  · exact .tail _ (.tail _ (.head _))
  · exact .tail _ (.tail _ (.tail _ (.tail _ hp)))
theorem rest_indT {ct elt : Expr} {x : Str} {scope : Scope} {cl : List (Str × Addr)} {S : List (Addr × Obj) → Prop} {P : Nat → Value → Prop} {Fin : List Value → List (Addr × Obj) → Prop} {n : Nat} (Inv : Nat → List Value → List (Addr × Obj) → Prop)
    (step : ∀ i ys nx, i < n → Inv i ys nx → ∀ v I oI C oC D m₂ h tk (E' : Value → Shared → Prop), P i v → LCg.NsObj oC m₂ → m₂ x = some v → Fr h₀ L h m → News h₀ L h ((I, oI) :: (C, oC) :: (D, LCg.lst ys) :: nx) → LCg.Off3 I C D nx → ((@Ne Nat I C) ∧ (@Ne Nat I D) ∧ (@Ne Nat C D)) →
      wpAny (model prog w) A (isTrue ct (compEnvC scope cl C env) (eval ct (compEnvC scope cl C env))) (fun ok s' => if ok = true then
        wpAny (model prog w) A (eval elt (compEnvC scope cl C env)) (LCg.CompEnd h₀ L m { s with heap := h, toks := tk } I oI C oC D (LCg.lst ys) S (fun y nx' => Inv (i + 1) (ys ++ [y]) nx')) E' s'
        else LCg.CompEnd h₀ L m { s with heap := h, toks := tk } I oI C oC D (LCg.lst ys) S (fun _ nx' => Inv (i + 1) ys nx') Value.none s') E' { s with heap := h, toks := tk })
    (fin : ∀ ys nx, Inv n ys nx → Fin ys nx) : ∀ k i ys nx, i + k = n → Inv i ys nx → LCt.CompRestT prog w A h₀ L m env ct elt x scope cl s S P Fin k i ys nx := by
  intro k
  induction k with
  | zero =>
    intro i ys nx e hI
    have e' : i = n := by omega
    subst e'
    exact LCt.CompRestT.zero (fin ys nx hI)
  | succ k ih =>
    intro i ys nx e hI
    refine LCt.CompRestT.succ fun v I oI C oC D m₂ h tk E' hP hC hx F N off ne => ?_
    refine wpAny_mono (step i ys nx (by omega) hI v I oI C oC D m₂ h tk E' hP hC hx F N off ne) (fun ok s' q => ?_) fun _ _ z => z
    cases ok with
    | true =>
      simp only [if_true] at q ⊢
      refine wpAny_mono q (fun y s₂ q => ?_) fun _ _ z => z
      obtain ⟨h', tk', nx', e1, F', N', o', hS, r⟩ := q
      exact ⟨h', tk', nx', e1, F', N', o', hS, ih (i + 1) _ _ (by omega) r⟩
    | false =>
      simp only [Bool.false_eq_true, if_false] at q ⊢
      obtain ⟨h', tk', nx', e1, F', N', o', hS, r⟩ := q
      exact ⟨h', tk', nx', e1, F', N', o', hS, ih (i + 1) _ _ (by omega) r⟩
end
section
variable {h₀ : Heap} {L : Addr} {m : Str → Option Value} {s : Shared} {news : List (Addr × Obj)} {Q : Value → Shared → Prop}
theorem yearEnd {f : Int} {ls : List Int} (hret : ∀ T l h' tk' t1 vs kl, Fr h₀ L h' m → News h₀ L h' ((T, ({ cls := .type "tuple", data := .seq #[.int f t1, .ref l] } : Obj)) :: (l, W.listOf vs.toArray kl) :: news) → IntsAre vs ls → Q (.ref T) { s with heap := h', toks := tk' })
    {T l : Addr} {h' : Heap} {tk' : Nat} {t1 : Tok} {vs : List Value} {kl : Nat} {all : List (Addr × Obj)} {x : Int} {ls' : List Int} (F : Fr h₀ L h' m) (N : News h₀ L h' ((T, ({ cls := .type "tuple", data := .seq #[.int x t1, .ref l] } : Obj)) :: all))
    (hl : (l, W.listOf vs.toArray kl) ∈ all) (hs : ∀ p ∈ news, p ∈ all) (hi : IntsAre vs ls') (e : x = f) (e2 : ls' = ls) : Q (.ref T) { s with heap := h', toks := tk' } := by
  subst e e2
  refine hret T l h' tk' t1 vs kl F (fun p hp => N p ?_) hi
  rcases List.mem_cons.mp hp with rfl | hp
  · exact .head _
  rcases List.mem_cons.mp hp with rfl | hp
  · exact .tail _ hl
  · exact .tail _ (hs p hp)
end
local macro_rules | `(tactic| walk_at "eval ListComp") => `(tactic| (k_here; k_dflt (refine LCt.ListComp_T (F₀ := by k_asm) (by with_unfolding_all rfl) (by decide) (by rfl) (by decide) (by rfl) ?_)))
local macro_rules | `(tactic| walk_at "call builtin:len") => `(tactic| (k_here; (with_reducible show wpAny _ _ (call (Value.builtin "len") [Value.ref _]) _ _ _); k_dflt (refine' lenInts ?N ?m ?t ?f ?_; (case N => k_asm); (case m => k_mem); (case t => assumption); (case f => assumption); k_whole)))
section
variable {prog : Program} {w : World} {loose : List Str} {mean : ExcName → Option Value} {mg mb : Str → Option Value} {dp un : Nat} {gd : Option (List Code)} {cn : Str} {cs : Scope} {a : Addr} {ccd : Value} {cl : List (Str × Addr)} {outer : List Env} {A₀ : Around} {base h₀ : Heap} {L : Addr} {m : Str → Option Value} {news : List (Addr × Obj)} {s : Shared} {Q E : Value → Shared → Prop}

theorem cut_year0 (B : Below A₀ base outer h₀) (F : Fr h₀ L s.heap m) (X : (hd.heap_39 w.params).In h₀) (N : News h₀ L s.heap news) (T : Top hd.view_39 loose mean mg mb h₀) (hk : cs.kind = .function) (hdp : dp + 32 < recursionLimit) (hun : un + 256 < cLine)
    {t0 : Tok} {yy : Int} {tyy : Tok}
    (hret : ∀ T l h' tk' t1 vs kl, Fr h₀ L h' m → News h₀ L h' ((T, ({ cls := .type "tuple", data := .seq #[.int (firstOf 0 yy) t1, .ref l] } : Obj)) :: (l, W.listOf vs.toArray kl) :: news) → IntsAre vs (lensOf 0 yy) → Q (.ref T) { s with heap := h', toks := tk' }) :
    wpAny (model prog w) (ktrTop dp un gd cn cs L a ccd cl outer) (call (.ref 250) [.int 0 t0, .int yy tyy]) Q E s := by
  refine wpAny_call ?_
  k_dflt (refine' code_defC ?k1 ?k2 ?k3 ?k4 ?k5 ?kA ?kF ?kK ?k6 ?k7 ?k8 ?k9 ?kB ?kD ?_ ?c2 ?c3 ?c4; (case kA => exact rfl); (case kF => exact rfl); (case kK => assumption); (case k1 => k_asm); (case k2 => k_asm); (case k3 => k_asm); (case k4 => k_asm); (case k5 => k_asm); (case k6 => k_is); (case k7 => k_is); (case k8 => ktr_room); (case k9 => exact BindsTo.of_eq rfl); (case kB => exact rfl); (case kD => decide +kernel); (case c2 => exact rfl); (case c3 => exact rfl); (case c4 => exact rfl); k_whole; intro g' L' h' tk' cells' FG' F' N' Y' B' X' T' l1; (try k_lt l1); k_cells Y'; (try simp only [List.cons_append, List.nil_append] at N'); (try dsimp only); (try k_lift B'); (try k_fold))
  rename News _ _ _ _ => N0
  have hlt9 := ltN (Heap.lt_size (N0 _ (.head _)).1)
  dsimp only at hlt9
  k_steps
  all_goals refine yearEnd (Q := Q) hret (by k_asm) (by k_asm) (by k_mem) (fun p hp => by first | (simp [hp]; done) | (simp [hsub p hp]; done)) (by repeat constructor) ?_ ?_
  all_goals first | rfl | (exfalso; omega) | (simp [firstOf, lensOf, *]; done) | (simp only [lensOf, longs, *]; rfl) | (simp_all [firstOf, lensOf, longs]; done) | skip
  all_goals trace_state


theorem cut_year1 (B : Below A₀ base outer h₀) (F : Fr h₀ L s.heap m) (X : (hd.heap_39 w.params).In h₀) (N : News h₀ L s.heap news) (T : Top hd.view_39 loose mean mg mb h₀) (hk : cs.kind = .function) (hdp : dp + 32 < recursionLimit) (hun : un + 256 < cLine)
    {t0 : Tok} {yy : Int} {tyy : Tok}
    (hret : ∀ T l h' tk' t1 vs kl, Fr h₀ L h' m → News h₀ L h' ((T, ({ cls := .type "tuple", data := .seq #[.int (firstOf 1 yy) t1, .ref l] } : Obj)) :: (l, W.listOf vs.toArray kl) :: news) → IntsAre vs (lensOf 1 yy) → Q (.ref T) { s with heap := h', toks := tk' }) :
    wpAny (model prog w) (ktrTop dp un gd cn cs L a ccd cl outer) (call (.ref 250) [.int 1 t0, .int yy tyy]) Q E s := by
  refine wpAny_call ?_
  k_dflt (refine' code_defC ?k1 ?k2 ?k3 ?k4 ?k5 ?kA ?kF ?kK ?k6 ?k7 ?k8 ?k9 ?kB ?kD ?_ ?c2 ?c3 ?c4; (case kA => exact rfl); (case kF => exact rfl); (case kK => assumption); (case k1 => k_asm); (case k2 => k_asm); (case k3 => k_asm); (case k4 => k_asm); (case k5 => k_asm); (case k6 => k_is); (case k7 => k_is); (case k8 => ktr_room); (case k9 => exact BindsTo.of_eq rfl); (case kB => exact rfl); (case kD => decide +kernel); (case c2 => exact rfl); (case c3 => exact rfl); (case c4 => exact rfl); k_whole; intro g' L' h' tk' cells' FG' F' N' Y' B' X' T' l1; (try k_lt l1); k_cells Y'; (try simp only [List.cons_append, List.nil_append] at N'); (try dsimp only); (try k_lift B'); (try k_fold))
  rename News _ _ _ _ => N0
  have hlt9 := ltN (Heap.lt_size (N0 _ (.head _)).1)
  dsimp only at hlt9
  k_steps
  all_goals refine yearEnd (Q := Q) hret (by k_asm) (by k_asm) (by k_mem) (fun p hp => by first | (simp [hp]; done) | (simp [hsub p hp]; done)) (by repeat constructor) ?_ ?_
  all_goals first | rfl | (exfalso; omega) | (simp [firstOf, lensOf, *]; done) | (simp only [lensOf, longs, *]; rfl) | (simp_all [firstOf, lensOf, longs]; done) | skip
  all_goals trace_state


theorem cut_year2 (B : Below A₀ base outer h₀) (F : Fr h₀ L s.heap m) (X : (hd.heap_39 w.params).In h₀) (N : News h₀ L s.heap news) (T : Top hd.view_39 loose mean mg mb h₀) (hk : cs.kind = .function) (hdp : dp + 32 < recursionLimit) (hun : un + 256 < cLine)
    {t0 : Tok} {yy : Int} {tyy : Tok}
    (hret : ∀ T l h' tk' t1 vs kl, Fr h₀ L h' m → News h₀ L h' ((T, ({ cls := .type "tuple", data := .seq #[.int (firstOf 2 yy) t1, .ref l] } : Obj)) :: (l, W.listOf vs.toArray kl) :: news) → IntsAre vs (lensOf 2 yy) → Q (.ref T) { s with heap := h', toks := tk' }) :
    wpAny (model prog w) (ktrTop dp un gd cn cs L a ccd cl outer) (call (.ref 250) [.int 2 t0, .int yy tyy]) Q E s := by
  refine wpAny_call ?_
  k_dflt (refine' code_defC ?k1 ?k2 ?k3 ?k4 ?k5 ?kA ?kF ?kK ?k6 ?k7 ?k8 ?k9 ?kB ?kD ?_ ?c2 ?c3 ?c4; (case kA => exact rfl); (case kF => exact rfl); (case kK => assumption); (case k1 => k_asm); (case k2 => k_asm); (case k3 => k_asm); (case k4 => k_asm); (case k5 => k_asm); (case k6 => k_is); (case k7 => k_is); (case k8 => ktr_room); (case k9 => exact BindsTo.of_eq rfl); (case kB => exact rfl); (case kD => decide +kernel); (case c2 => exact rfl); (case c3 => exact rfl); (case c4 => exact rfl); k_whole; intro g' L' h' tk' cells' FG' F' N' Y' B' X' T' l1; (try k_lt l1); k_cells Y'; (try simp only [List.cons_append, List.nil_append] at N'); (try dsimp only); (try k_lift B'); (try k_fold))
  rename News _ _ _ _ => N0
  have hlt9 := ltN (Heap.lt_size (N0 _ (.head _)).1)
  dsimp only at hlt9
  k_steps
  rename Fr _ _ _ _ => kF
  rename News _ _ _ _ => kN
  rename Obj => oCell
  rename oCell.data = _ => hcd
  refine absBase (d₁ := (L' + 1, oCell)) (d₂ := (_, W.listOf _ 0)) (news := news) kN (by k_mem) (by k_mem) (fun p hp => by simp [hp]) ?_
  intro base hN hmC hmD hsub
  refine LCt.CompSrcT.ledger rfl kF hN hmD (Nat.le_of_ble_eq_true rfl) ?_
  intro gh
  clear kN hN kF
  refine rest_indT (fun i ys nx => nx = base ∧ IntsAre ys ((longs.take i).filter (fun o => decide (o ≤ (yy - 1).fmod 30)))) ?step ?fin _ 0 [] _ (Nat.zero_add _) ⟨rfl, .nil⟩
  case step =>
    rintro i ys nx hi' ⟨rfl, hT⟩ v I oI C oC D m₂ h tk E' hP hC hx F5 N5 off ne
    obtain ⟨n, t, hn, rfl⟩ := longAt (ns := longs) (by repeat constructor) hP
    have N6 := newsFront N5 hmC
    clear N5
    k_steps
    all_goals refine compEndSame F5 N6 off (.inr ⟨_, hmD, rfl, _, rfl⟩) ⟨rfl, ?_⟩
    all_goals rw [List.take_add_one, hn, List.filter_append]
    · have e : List.filter (fun o => decide (o ≤ (yy - 1).fmod 30)) (Option.some n).toList = [n] := by simp [*]
      rw [e]
      exact IntsAre.append hT (.cons _ _ .nil)
    · have e : List.filter (fun o => decide (o ≤ (yy - 1).fmod 30)) (Option.some n).toList = [] := by simp [*]
      rw [e, List.append_nil]
      exact hT
  case fin =>
    rintro ys nx ⟨rfl, hT⟩
    intro D h tk F9 N9 o9
    have N10 := newsFront1 N9 hmC
    clear N9
    replace hT : IntsAre ys (longs.filter (fun o => decide (o ≤ (yy - 1).fmod 30))) := hT
    have hlf : (longs.filter (fun o => decide (o ≤ (yy - 1).fmod 30))).length < 1000 := Nat.lt_of_le_of_lt (List.length_filter_le _ _) (by decide)
    k_steps
    all_goals refine yearEnd (Q := Q) hret (by k_asm) (by k_asm) (by k_mem) (fun p hp => by first | (simp [hp]; done) | (simp [hsub p hp]; done)) (by repeat constructor) ?_ ?_
    all_goals first | rfl | (exfalso; omega) | (simp [firstOf, lensOf, *]; done) | (simp only [lensOf, longs, *]; rfl) | (simp_all [firstOf, lensOf, longs]; done) | skip
    all_goals trace_state


theorem cut_year3 (B : Below A₀ base outer h₀) (F : Fr h₀ L s.heap m) (X : (hd.heap_39 w.params).In h₀) (N : News h₀ L s.heap news) (T : Top hd.view_39 loose mean mg mb h₀) (hk : cs.kind = .function) (hdp : dp + 32 < recursionLimit) (hun : un + 256 < cLine)
    {t0 : Tok} {yy : Int} {tyy : Tok}
    (hret : ∀ T l h' tk' t1 vs kl, Fr h₀ L h' m → News h₀ L h' ((T, ({ cls := .type "tuple", data := .seq #[.int (firstOf 3 yy) t1, .ref l] } : Obj)) :: (l, W.listOf vs.toArray kl) :: news) → IntsAre vs (lensOf 3 yy) → Q (.ref T) { s with heap := h', toks := tk' }) :
    wpAny (model prog w) (ktrTop dp un gd cn cs L a ccd cl outer) (call (.ref 250) [.int 3 t0, .int yy tyy]) Q E s := by
  refine wpAny_call ?_
  k_dflt (refine' code_defC ?k1 ?k2 ?k3 ?k4 ?k5 ?kA ?kF ?kK ?k6 ?k7 ?k8 ?k9 ?kB ?kD ?_ ?c2 ?c3 ?c4; (case kA => exact rfl); (case kF => exact rfl); (case kK => assumption); (case k1 => k_asm); (case k2 => k_asm); (case k3 => k_asm); (case k4 => k_asm); (case k5 => k_asm); (case k6 => k_is); (case k7 => k_is); (case k8 => ktr_room); (case k9 => exact BindsTo.of_eq rfl); (case kB => exact rfl); (case kD => decide +kernel); (case c2 => exact rfl); (case c3 => exact rfl); (case c4 => exact rfl); k_whole; intro g' L' h' tk' cells' FG' F' N' Y' B' X' T' l1; (try k_lt l1); k_cells Y'; (try simp only [List.cons_append, List.nil_append] at N'); (try dsimp only); (try k_lift B'); (try k_fold))
  rename News _ _ _ _ => N0
  have hlt9 := ltN (Heap.lt_size (N0 _ (.head _)).1)
  dsimp only at hlt9
  k_steps
  all_goals refine yearEnd (Q := Q) hret (by k_asm) (by k_asm) (by k_mem) (fun p hp => by first | (simp [hp]; done) | (simp [hsub p hp]; done)) (by repeat constructor) ?_ ?_
  all_goals first | rfl | (exfalso; omega) | (simp [firstOf, lensOf, *]; done) | (simp only [lensOf, longs, *]; rfl) | (simp_all [firstOf, lensOf, longs]; done) | skip
  all_goals trace_state


theorem cut_year4 (B : Below A₀ base outer h₀) (F : Fr h₀ L s.heap m) (X : (hd.heap_39 w.params).In h₀) (N : News h₀ L s.heap news) (T : Top hd.view_39 loose mean mg mb h₀) (hk : cs.kind = .function) (hdp : dp + 32 < recursionLimit) (hun : un + 256 < cLine)
    {t0 : Tok} {yy : Int} {tyy : Tok}
    (hret : ∀ T l h' tk' t1 vs kl, Fr h₀ L h' m → News h₀ L h' ((T, ({ cls := .type "tuple", data := .seq #[.int (firstOf 4 yy) t1, .ref l] } : Obj)) :: (l, W.listOf vs.toArray kl) :: news) → IntsAre vs (lensOf 4 yy) → Q (.ref T) { s with heap := h', toks := tk' }) :
    wpAny (model prog w) (ktrTop dp un gd cn cs L a ccd cl outer) (call (.ref 250) [.int 4 t0, .int yy tyy]) Q E s := by
  refine wpAny_call ?_
  k_dflt (refine' code_defC ?k1 ?k2 ?k3 ?k4 ?k5 ?kA ?kF ?kK ?k6 ?k7 ?k8 ?k9 ?kB ?kD ?_ ?c2 ?c3 ?c4; (case kA => exact rfl); (case kF => exact rfl); (case kK => assumption); (case k1 => k_asm); (case k2 => k_asm); (case k3 => k_asm); (case k4 => k_asm); (case k5 => k_asm); (case k6 => k_is); (case k7 => k_is); (case k8 => ktr_room); (case k9 => exact BindsTo.of_eq rfl); (case kB => exact rfl); (case kD => decide +kernel); (case c2 => exact rfl); (case c3 => exact rfl); (case c4 => exact rfl); k_whole; intro g' L' h' tk' cells' FG' F' N' Y' B' X' T' l1; (try k_lt l1); k_cells Y'; (try simp only [List.cons_append, List.nil_append] at N'); (try dsimp only); (try k_lift B'); (try k_fold))
  rename News _ _ _ _ => N0
  have hlt9 := ltN (Heap.lt_size (N0 _ (.head _)).1)
  dsimp only at hlt9
  k_steps
  all_goals refine yearEnd (Q := Q) hret (by k_asm) (by k_asm) (by k_mem) (fun p hp => by first | (simp [hp]; done) | (simp [hsub p hp]; done)) (by repeat constructor) ?_ ?_
  all_goals first | rfl | (exfalso; omega) | (simp [firstOf, lensOf, *]; done) | (simp only [lensOf, longs, *]; rfl) | (simp_all [firstOf, lensOf, longs]; done) | skip
  all_goals trace_state


theorem cut_year5 (B : Below A₀ base outer h₀) (F : Fr h₀ L s.heap m) (X : (hd.heap_39 w.params).In h₀) (N : News h₀ L s.heap news) (T : Top hd.view_39 loose mean mg mb h₀) (hk : cs.kind = .function) (hdp : dp + 32 < recursionLimit) (hun : un + 256 < cLine)
    {t0 : Tok} {yy : Int} {tyy : Tok}
    (hret : ∀ T l h' tk' t1 vs kl, Fr h₀ L h' m → News h₀ L h' ((T, ({ cls := .type "tuple", data := .seq #[.int (firstOf 5 yy) t1, .ref l] } : Obj)) :: (l, W.listOf vs.toArray kl) :: news) → IntsAre vs (lensOf 5 yy) → Q (.ref T) { s with heap := h', toks := tk' }) :
    wpAny (model prog w) (ktrTop dp un gd cn cs L a ccd cl outer) (call (.ref 250) [.int 5 t0, .int yy tyy]) Q E s := by
  refine wpAny_call ?_
  k_dflt (refine' code_defC ?k1 ?k2 ?k3 ?k4 ?k5 ?kA ?kF ?kK ?k6 ?k7 ?k8 ?k9 ?kB ?kD ?_ ?c2 ?c3 ?c4; (case kA => exact rfl); (case kF => exact rfl); (case kK => assumption); (case k1 => k_asm); (case k2 => k_asm); (case k3 => k_asm); (case k4 => k_asm); (case k5 => k_asm); (case k6 => k_is); (case k7 => k_is); (case k8 => ktr_room); (case k9 => exact BindsTo.of_eq rfl); (case kB => exact rfl); (case kD => decide +kernel); (case c2 => exact rfl); (case c3 => exact rfl); (case c4 => exact rfl); k_whole; intro g' L' h' tk' cells' FG' F' N' Y' B' X' T' l1; (try k_lt l1); k_cells Y'; (try simp only [List.cons_append, List.nil_append] at N'); (try dsimp only); (try k_lift B'); (try k_fold))
  rename News _ _ _ _ => N0
  have hlt9 := ltN (Heap.lt_size (N0 _ (.head _)).1)
  dsimp only at hlt9
  k_steps
  all_goals refine yearEnd (Q := Q) hret (by k_asm) (by k_asm) (by k_mem) (fun p hp => by first | (simp [hp]; done) | (simp [hsub p hp]; done)) (by repeat constructor) ?_ ?_
  all_goals first | rfl | (exfalso; omega) | (simp [firstOf, lensOf, *]; done) | (simp only [lensOf, longs, *]; rfl) | (simp_all [firstOf, lensOf, longs]; done) | skip
  all_goals trace_state


theorem cut_year6 (B : Below A₀ base outer h₀) (F : Fr h₀ L s.heap m) (X : (hd.heap_39 w.params).In h₀) (N : News h₀ L s.heap news) (T : Top hd.view_39 loose mean mg mb h₀) (hk : cs.kind = .function) (hdp : dp + 32 < recursionLimit) (hun : un + 256 < cLine)
    {t0 : Tok} {yy : Int} {tyy : Tok}
    (hret : ∀ T l h' tk' t1 vs kl, Fr h₀ L h' m → News h₀ L h' ((T, ({ cls := .type "tuple", data := .seq #[.int (firstOf 6 yy) t1, .ref l] } : Obj)) :: (l, W.listOf vs.toArray kl) :: news) → IntsAre vs (lensOf 6 yy) → Q (.ref T) { s with heap := h', toks := tk' }) :
    wpAny (model prog w) (ktrTop dp un gd cn cs L a ccd cl outer) (call (.ref 250) [.int 6 t0, .int yy tyy]) Q E s := by
  refine wpAny_call ?_
  k_dflt (refine' code_defC ?k1 ?k2 ?k3 ?k4 ?k5 ?kA ?kF ?kK ?k6 ?k7 ?k8 ?k9 ?kB ?kD ?_ ?c2 ?c3 ?c4; (case kA => exact rfl); (case kF => exact rfl); (case kK => assumption); (case k1 => k_asm); (case k2 => k_asm); (case k3 => k_asm); (case k4 => k_asm); (case k5 => k_asm); (case k6 => k_is); (case k7 => k_is); (case k8 => ktr_room); (case k9 => exact BindsTo.of_eq rfl); (case kB => exact rfl); (case kD => decide +kernel); (case c2 => exact rfl); (case c3 => exact rfl); (case c4 => exact rfl); k_whole; intro g' L' h' tk' cells' FG' F' N' Y' B' X' T' l1; (try k_lt l1); k_cells Y'; (try simp only [List.cons_append, List.nil_append] at N'); (try dsimp only); (try k_lift B'); (try k_fold))
  rename News _ _ _ _ => N0
  have hlt9 := ltN (Heap.lt_size (N0 _ (.head _)).1)
  dsimp only at hlt9
  k_steps
  all_goals refine yearEnd (Q := Q) hret (by k_asm) (by k_asm) (by k_mem) (fun p hp => by first | (simp [hp]; done) | (simp [hsub p hp]; done)) (by repeat constructor) ?_ ?_
  all_goals first | rfl | (exfalso; omega) | (simp [firstOf, lensOf, *]; done) | (simp only [lensOf, longs, *]; rfl) | (simp_all [firstOf, lensOf, longs]; done) | skip
  all_goals trace_state


end
end Mine

namespace Mine
theorem topOffLeafs : (1 : Nat) = 1 := by
  w_top off
  walk1
theorem fill5 : PySem.Challenge.rw_jb0011_01 = PySem.Challenge.rw_jb0011_01 ∧ hd.heap_39 = hd.heap_39 := by
  k_fill
  exact ⟨rfl, rfl⟩

theorem fm7lo (x : Int) : 0 ≤ x.fmod 7 := by rw [Int.fmod_eq_emod_of_nonneg _ (by decide)]; omega
theorem fm7hi (x : Int) : x.fmod 7 < 7 := by rw [Int.fmod_eq_emod_of_nonneg _ (by decide)]; omega
theorem lenG_bd (y m : Int) : 28 ≤ lenG y m ∧ lenG y m ≤ 31 := by unfold lenG; (repeat' split) <;> decide
theorem lenJ_bd (y m : Int) : 28 ≤ lenJ y m ∧ lenJ y m ≤ 31 := by unfold lenJ; (repeat' split) <;> decide
theorem lenI_bd (y m : Int) : 28 ≤ lenI y m ∧ lenI y m ≤ 31 := by unfold lenI; (repeat' split) <;> decide
theorem lenC_bd (y m : Int) : 5 ≤ lenC y m ∧ lenC y m ≤ 31 := by unfold lenC; (repeat' split) <;> decide
theorem lenS_bd (m : Int) : 28 ≤ lenS m ∧ lenS m ≤ 31 := by unfold lenS; (repeat' split) <;> decide
theorem lenA_bd (m : Int) : 5 ≤ lenA m ∧ lenA m ≤ 31 := by unfold lenA; (repeat' split) <;> decide
theorem lenK_bd (y m : Int) : 5 ≤ lenK y m ∧ lenK y m ≤ 31 := by unfold lenK; (repeat' split) <;> decide
local macro_rules | `(tactic| k_room) => `(tactic| ((try simp only [depth_mark, depth_under_make, depth_under_kw, depth_in1, depth_deeper]); (try dsimp only [ktrTop]); omega))
local macro_rules | `(tactic| walk_at "call ref") => `(tactic| (k_here; (with_reducible show wpAny _ _ (call (Value.ref 22) _) _ _ _); k_dflt (refine' cut_isleap ?kB ?kF ?kX ?kN ?kT ?kK ?kd ?ku  ?_; (case kB => k_asm); (case kF => k_asm); (case kX => k_asm); (case kN => k_asm); (case kT => k_asm); (case kK => first | exact rfl | assumption); (case kd => first | omega | ktr_room); (case ku => first | omega | ktr_units); k_whole; intro h9 tk9 F9 N9; (try dsimp only); (try k_fold))))

local macro_rules | `(tactic| walk_at "call ref") => `(tactic| (k_here; (with_reducible show wpAny _ _ (call (Value.ref 56) _) _ _ _); k_dflt (refine' cut_legalG ?kB ?kF ?kX ?kN ?kT ?kK ?kd ?ku ?kp0 ?kp1 ?_; (case kB => k_asm); (case kF => k_asm); (case kX => k_asm); (case kN => k_asm); (case kT => k_asm); (case kK => first | exact rfl | assumption); (case kd => first | omega | ktr_room); (case ku => first | omega | ktr_units); (case kp0 => first | assumption | omega | decide | (dsimp only; omega) | (dsimp only; decide)); (case kp1 => first | assumption | omega | decide | (dsimp only; omega) | (dsimp only; decide)); k_whole; intro h9 tk9 F9 N9; (try dsimp only); (try k_fold))))

local macro_rules | `(tactic| walk_at "call ref") => `(tactic| (k_here; (with_reducible show wpAny _ _ (call (Value.ref 63) _) _ _ _); k_dflt (refine' cut_toJdG ?kB ?kF ?kX ?kN ?kT ?kK ?kd ?ku ?kp0 ?kp1 ?_; (case kB => k_asm); (case kF => k_asm); (case kX => k_asm); (case kN => k_asm); (case kT => k_asm); (case kK => first | exact rfl | assumption); (case kd => first | omega | ktr_room); (case ku => first | omega | ktr_units); (case kp0 => first | assumption | omega | decide | (dsimp only; omega) | (dsimp only; decide)); (case kp1 => first | assumption | omega | decide | (dsimp only; omega) | (dsimp only; decide)); k_whole; intro t9 h9 tk9 F9 N9; (try dsimp only); (try k_fold))))

local macro_rules | `(tactic| walk_at "call ref") => `(tactic| (k_here; (with_reducible show wpAny _ _ (call (Value.ref 85) _) _ _ _); k_dflt (refine' cut_leapJ ?kB ?kF ?kX ?kN ?kT ?kK ?kd ?ku  ?_; (case kB => k_asm); (case kF => k_asm); (case kX => k_asm); (case kN => k_asm); (case kT => k_asm); (case kK => first | exact rfl | assumption); (case kd => first | omega | ktr_room); (case ku => first | omega | ktr_units); k_whole; intro h9 tk9 F9 N9; (try dsimp only); (try k_fold))))

local macro_rules | `(tactic| walk_at "call ref") => `(tactic| (k_here; (with_reducible show wpAny _ _ (call (Value.ref 92) _) _ _ _); k_dflt (refine' cut_lenJ ?kB ?kF ?kX ?kN ?kT ?kK ?kd ?ku  ?_; (case kB => k_asm); (case kF => k_asm); (case kX => k_asm); (case kN => k_asm); (case kT => k_asm); (case kK => first | exact rfl | assumption); (case kd => first | omega | ktr_room); (case ku => first | omega | ktr_units); k_whole; intro t9 h9 tk9 F9 N9; (try dsimp only); (try k_fold))))

local macro_rules | `(tactic| walk_at "call ref") => `(tactic| (k_here; (with_reducible show wpAny _ _ (call (Value.ref 99) _) _ _ _); k_dflt (refine' cut_legalJ ?kB ?kF ?kX ?kN ?kT ?kK ?kd ?ku ?kp0 ?kp1 ?_; (case kB => k_asm); (case kF => k_asm); (case kX => k_asm); (case kN => k_asm); (case kT => k_asm); (case kK => first | exact rfl | assumption); (case kd => first | omega | ktr_room); (case ku => first | omega | ktr_units); (case kp0 => first | assumption | omega | decide | (dsimp only; omega) | (dsimp only; decide)); (case kp1 => first | assumption | omega | decide | (dsimp only; omega) | (dsimp only; decide)); k_whole; intro h9 tk9 F9 N9; (try dsimp only); (try k_fold))))

local macro_rules | `(tactic| walk_at "call ref") => `(tactic| (k_here; (with_reducible show wpAny _ _ (call (Value.ref 106) _) _ _ _); k_dflt (refine' cut_toJdJ ?kB ?kF ?kX ?kN ?kT ?kK ?kd ?ku ?kp0 ?kp1 ?_; (case kB => k_asm); (case kF => k_asm); (case kX => k_asm); (case kN => k_asm); (case kT => k_asm); (case kK => first | exact rfl | assumption); (case kd => first | omega | ktr_room); (case ku => first | omega | ktr_units); (case kp0 => first | assumption | omega | decide | (dsimp only; omega) | (dsimp only; decide)); (case kp1 => first | assumption | omega | decide | (dsimp only; omega) | (dsimp only; decide)); k_whole; intro t9 h9 tk9 F9 N9; (try dsimp only); (try k_fold))))

local macro_rules | `(tactic| walk_at "call ref") => `(tactic| (k_here; (with_reducible show wpAny _ _ (call (Value.ref 121) _) _ _ _); k_dflt (refine' cut_leapI ?kB ?kF ?kX ?kN ?kT ?kK ?kd ?ku  ?_; (case kB => k_asm); (case kF => k_asm); (case kX => k_asm); (case kN => k_asm); (case kT => k_asm); (case kK => first | exact rfl | assumption); (case kd => first | omega | ktr_room); (case ku => first | omega | ktr_units); k_whole; intro h9 tk9 F9 N9; (try dsimp only); (try k_fold))))

local macro_rules | `(tactic| walk_at "call ref") => `(tactic| (k_here; (with_reducible show wpAny _ _ (call (Value.ref 128) _) _ _ _); k_dflt (refine' cut_toJdI ?kB ?kF ?kX ?kN ?kT ?kK ?kd ?ku  ?_; (case kB => k_asm); (case kF => k_asm); (case kX => k_asm); (case kN => k_asm); (case kT => k_asm); (case kK => first | exact rfl | assumption); (case kd => first | omega | ktr_room); (case ku => first | omega | ktr_units); k_whole; intro t9 h9 tk9 F9 N9; (try dsimp only); (try k_fold))))

local macro_rules | `(tactic| walk_at "call ref") => `(tactic| (k_here; (with_reducible show wpAny _ _ (call (Value.ref 135) _) _ _ _); k_dflt (refine' cut_lenI ?kB ?kF ?kX ?kN ?kT ?kK ?kd ?ku  ?_; (case kB => k_asm); (case kF => k_asm); (case kX => k_asm); (case kN => k_asm); (case kT => k_asm); (case kK => first | exact rfl | assumption); (case kd => first | omega | ktr_room); (case ku => first | omega | ktr_units); k_whole; intro t9 h9 tk9 F9 N9; (try dsimp only); (try k_fold))))

local macro_rules | `(tactic| walk_at "call ref") => `(tactic| (k_here; (with_reducible show wpAny _ _ (call (Value.ref 149) _) _ _ _); k_dflt (refine' cut_leapC ?kB ?kF ?kX ?kN ?kT ?kK ?kd ?ku  ?_; (case kB => k_asm); (case kF => k_asm); (case kX => k_asm); (case kN => k_asm); (case kT => k_asm); (case kK => first | exact rfl | assumption); (case kd => first | omega | ktr_room); (case ku => first | omega | ktr_units); k_whole; intro h9 tk9 F9 N9; (try dsimp only); (try k_fold))))

local macro_rules | `(tactic| walk_at "call ref") => `(tactic| (k_here; (with_reducible show wpAny _ _ (call (Value.ref 156) _) _ _ _); k_dflt (refine' cut_toJdC ?kB ?kF ?kX ?kN ?kT ?kK ?kd ?ku  ?_; (case kB => k_asm); (case kF => k_asm); (case kX => k_asm); (case kN => k_asm); (case kT => k_asm); (case kK => first | exact rfl | assumption); (case kd => first | omega | ktr_room); (case ku => first | omega | ktr_units); k_whole; intro t9 h9 tk9 F9 N9; (try dsimp only); (try k_fold))))

local macro_rules | `(tactic| walk_at "call ref") => `(tactic| (k_here; (with_reducible show wpAny _ _ (call (Value.ref 163) _) _ _ _); k_dflt (refine' cut_lenC ?kB ?kF ?kX ?kN ?kT ?kK ?kd ?ku ?kp0 ?_; (case kB => k_asm); (case kF => k_asm); (case kX => k_asm); (case kN => k_asm); (case kT => k_asm); (case kK => first | exact rfl | assumption); (case kd => first | omega | ktr_room); (case ku => first | omega | ktr_units); (case kp0 => first | assumption | omega | decide | (dsimp only; omega) | (dsimp only; decide)); k_whole; intro t9 h9 tk9 F9 N9; (try dsimp only); (try k_fold))))

local macro_rules | `(tactic| walk_at "call ref") => `(tactic| (k_here; (with_reducible show wpAny _ _ (call (Value.ref 70) _) _ _ _); k_dflt (refine' cut_lenG ?kB ?kF ?kX ?kN ?kT ?kK ?kd ?ku ?kp0 ?kp1 ?_; (case kB => k_asm); (case kF => k_asm); (case kX => k_asm); (case kN => k_asm); (case kT => k_asm); (case kK => first | exact rfl | assumption); (case kd => first | omega | ktr_room); (case ku => first | omega | ktr_units); (case kp0 => first | assumption | omega | decide | (dsimp only; omega) | (dsimp only; decide)); (case kp1 => first | assumption | omega | decide | (dsimp only; omega) | (dsimp only; decide)); k_whole; intro t9 h9 tk9 F9 N9; (try dsimp only); (try k_fold))))

local macro_rules | `(tactic| walk_at "call ref") => `(tactic| (k_here; (with_reducible show wpAny _ _ (call (Value.ref 178) _) _ _ _); k_dflt (refine' cut_toJdS ?kB ?kF ?kX ?kN ?kT ?kK ?kd ?ku ?kp0 ?_; (case kB => k_asm); (case kF => k_asm); (case kX => k_asm); (case kN => k_asm); (case kT => k_asm); (case kK => first | exact rfl | assumption); (case kd => first | omega | ktr_room); (case ku => first | omega | ktr_units); (case kp0 => first | assumption | omega | decide | (dsimp only; omega) | (dsimp only; decide)); k_whole; intro t9 h9 tk9 F9 N9; (try dsimp only); (try k_fold))))

local macro_rules | `(tactic| walk_at "call ref") => `(tactic| (k_here; (with_reducible show wpAny _ _ (call (Value.ref 185) _) _ _ _); k_dflt (refine' cut_lenS ?kB ?kF ?kX ?kN ?kT ?kK ?kd ?ku ?kp0 ?_; (case kB => k_asm); (case kF => k_asm); (case kX => k_asm); (case kN => k_asm); (case kT => k_asm); (case kK => first | exact rfl | assumption); (case kd => first | omega | ktr_room); (case ku => first | omega | ktr_units); (case kp0 => first | assumption | omega | decide | (dsimp only; omega) | (dsimp only; decide)); k_whole; intro t9 h9 tk9 F9 N9; (try dsimp only); (try k_fold))))

local macro_rules | `(tactic| walk_at "call ref") => `(tactic| (k_here; (with_reducible show wpAny _ _ (call (Value.ref 207) _) _ _ _); k_dflt (refine' cut_leapK ?kB ?kF ?kX ?kN ?kT ?kK ?kd ?ku ?kp0 ?_; (case kB => k_asm); (case kF => k_asm); (case kX => k_asm); (case kN => k_asm); (case kT => k_asm); (case kK => first | exact rfl | assumption); (case kd => first | omega | ktr_room); (case ku => first | omega | ktr_units); (case kp0 => first | assumption | omega | decide | (dsimp only; omega) | (dsimp only; decide)); k_whole; intro h9 tk9 F9 N9; (try dsimp only); (try k_fold))))

local macro_rules | `(tactic| walk_at "call ref") => `(tactic| (k_here; (with_reducible show wpAny _ _ (call (Value.ref 223) _) _ _ _); k_dflt (refine' cut_lenA ?kB ?kF ?kX ?kN ?kT ?kK ?kd ?ku ?kp0 ?_; (case kB => k_asm); (case kF => k_asm); (case kX => k_asm); (case kN => k_asm); (case kT => k_asm); (case kK => first | exact rfl | assumption); (case kd => first | omega | ktr_room); (case ku => first | omega | ktr_units); (case kp0 => first | assumption | omega | decide | (dsimp only; omega) | (dsimp only; decide)); k_whole; intro t9 h9 tk9 F9 N9; (try dsimp only); (try k_fold))))

local macro_rules | `(tactic| walk_at "call ref") => `(tactic| (k_here; (with_reducible show wpAny _ _ (call (Value.ref 223) _) _ _ _); k_dflt (refine' cut_lenK ?kB ?kF ?kX ?kN ?kT ?kK ?kd ?ku ?kp0 ?kp1 ?_; (case kB => k_asm); (case kF => k_asm); (case kX => k_asm); (case kN => k_asm); (case kT => k_asm); (case kK => first | exact rfl | assumption); (case kd => first | omega | ktr_room); (case ku => first | omega | ktr_units); (case kp0 => first | assumption | omega | decide | (dsimp only; omega) | (dsimp only; decide)); (case kp1 => first | assumption | omega | decide | (dsimp only; omega) | (dsimp only; decide)); k_whole; intro t9 h9 tk9 F9 N9; (try dsimp only); (try k_fold))))

local macro_rules | `(tactic| walk_at "call ref") => `(tactic| (k_here; (with_reducible show wpAny _ _ (call (Value.ref 215) _) _ _ _); k_dflt (refine' cut_toJdA ?kB ?kF ?kX ?kN ?kT ?kK ?kd ?ku ?kp0 ?kp1 ?kp2 ?_; (case kB => k_asm); (case kF => k_asm); (case kX => k_asm); (case kN => k_asm); (case kT => k_asm); (case kK => first | exact rfl | assumption); (case kd => first | omega | ktr_room); (case ku => first | omega | ktr_units); (case kp0 => first | assumption | omega | decide | (dsimp only; omega) | (dsimp only; decide)); (case kp1 => first | assumption | omega | decide | (dsimp only; omega) | (dsimp only; decide)); (case kp2 => first | assumption | omega | decide | (dsimp only; omega) | (dsimp only; decide)); k_whole; intro t9 h9 tk9 F9 N9; (try dsimp only); (try k_fold))))

local macro_rules | `(tactic| walk_at "call ref") => `(tactic| (k_here; (with_reducible show wpAny _ _ (call (Value.ref 215) _) _ _ _); k_dflt (refine' cut_toJdK ?kB ?kF ?kX ?kN ?kT ?kK ?kd ?ku ?kp0 ?kp1 ?kp2 ?_; (case kB => k_asm); (case kF => k_asm); (case kX => k_asm); (case kN => k_asm); (case kT => k_asm); (case kK => first | exact rfl | assumption); (case kd => first | omega | ktr_room); (case ku => first | omega | ktr_units); (case kp0 => first | assumption | omega | decide | (dsimp only; omega) | (dsimp only; decide)); (case kp1 => first | assumption | omega | decide | (dsimp only; omega) | (dsimp only; decide)); (case kp2 => first | assumption | omega | decide | (dsimp only; omega) | (dsimp only; decide)); k_whole; intro t9 h9 tk9 F9 N9; (try dsimp only); (try k_fold))))

local macro_rules | `(tactic| walk_at "call ref") => `(tactic| (k_here; (with_reducible show wpAny _ _ (call (Value.ref 48) _) _ _ _); k_dflt (refine' cut_helper ?kB ?kF ?kX ?kN ?kT ?kK ?kd ?ku ?kp0 ?kp1 ?kp2 ?kp3 ?_; (case kB => k_asm); (case kF => k_asm); (case kX => k_asm); (case kN => k_asm); (case kT => k_asm); (case kK => first | exact rfl | assumption); (case kd => first | omega | ktr_room); (case ku => first | omega | ktr_units); (case kp0 => exact fm7lo _); (case kp1 => exact fm7hi _); (case kp2 => omega); (case kp3 => omega); k_whole; intro D9 h9 tk9 tl9 ys9 F9 N9 dat9; (try dsimp only); (try k_fold))))

section
variable {prog : Program} {w : World} {loose : List Str} {mean : ExcName → Option Value} {mg mb : Str → Option Value} {dp un : Nat} {gd : Option (List Code)} {cn : Str} {cs : Scope} {a : Addr} {ccd : Value} {cl : List (Str × Addr)} {outer : List Env} {A₀ : Around} {base h₀ : Heap} {L : Addr} {m : Str → Option Value} {news : List (Addr × Obj)} {s : Shared} {Q E : Value → Shared → Prop}

theorem cut_leafG (B : Below A₀ base outer h₀) (F : Fr h₀ L s.heap m) (X : (hd.heap_39 w.params).In h₀) (N : News h₀ L s.heap news) (T : Top hd.view_39 loose mean mg mb h₀) (hk : cs.kind = .function) (hdp : dp + 32 < recursionLimit) (hun : un + 256 < cLine)
    {t0 : Tok} {yy : Int} {tyy : Tok} {mm : Int} {tmm : Tok} (hp0 : 1 ≤ mm) (hp1 : mm ≤ 12)
    (hret : ∀ D h' tk' tl ys, Fr h₀ L h' m → News h₀ L h' ((D, LCg.lst ys) :: (tl ++ news)) → DatAll tl ys (rowsOf ((((toJdG yy mm 1)).fmod 7 + 1).fmod 7) (lenG yy mm)) → Q (.ref D) { s with heap := h', toks := tk' }) :
    wpAny (model prog w) (ktrTop dp un gd cn cs L a ccd cl outer) (call (.ref 264) [.int 0 t0, .int yy tyy, .int mm tmm]) Q E s := by
  have hb9 := lenG_bd yy mm
  refine wpAny_call ?_
  k_dflt cell_enter
  k_steps
  exact hret _ _ _ _ _ (by k_asm) (by k_asm) (by assumption)

theorem cut_leafJ (B : Below A₀ base outer h₀) (F : Fr h₀ L s.heap m) (X : (hd.heap_39 w.params).In h₀) (N : News h₀ L s.heap news) (T : Top hd.view_39 loose mean mg mb h₀) (hk : cs.kind = .function) (hdp : dp + 32 < recursionLimit) (hun : un + 256 < cLine)
    {t0 : Tok} {yy : Int} {tyy : Tok} {mm : Int} {tmm : Tok}
    (hret : ∀ D h' tk' tl ys, Fr h₀ L h' m → News h₀ L h' ((D, LCg.lst ys) :: (tl ++ news)) → DatAll tl ys (rowsOf ((((toJdJ yy mm 1)).fmod 7 + 1).fmod 7) (lenJ yy mm)) → Q (.ref D) { s with heap := h', toks := tk' }) :
    wpAny (model prog w) (ktrTop dp un gd cn cs L a ccd cl outer) (call (.ref 264) [.int 1 t0, .int yy tyy, .int mm tmm]) Q E s := by
  have hb9 := lenJ_bd yy mm
  refine wpAny_call ?_
  k_dflt cell_enter
  k_steps
  exact hret _ _ _ _ _ (by k_asm) (by k_asm) (by assumption)

theorem cut_leafI (B : Below A₀ base outer h₀) (F : Fr h₀ L s.heap m) (X : (hd.heap_39 w.params).In h₀) (N : News h₀ L s.heap news) (T : Top hd.view_39 loose mean mg mb h₀) (hk : cs.kind = .function) (hdp : dp + 32 < recursionLimit) (hun : un + 256 < cLine)
    {t0 : Tok} {yy : Int} {tyy : Tok} {mm : Int} {tmm : Tok}
    (hret : ∀ D h' tk' tl ys, Fr h₀ L h' m → News h₀ L h' ((D, LCg.lst ys) :: (tl ++ news)) → DatAll tl ys (rowsOf ((((toJdI yy mm 1)).fmod 7 + 1).fmod 7) (lenI yy mm)) → Q (.ref D) { s with heap := h', toks := tk' }) :
    wpAny (model prog w) (ktrTop dp un gd cn cs L a ccd cl outer) (call (.ref 264) [.int 2 t0, .int yy tyy, .int mm tmm]) Q E s := by
  have hb9 := lenI_bd yy mm
  refine wpAny_call ?_
  k_dflt cell_enter
  k_steps
  exact hret _ _ _ _ _ (by k_asm) (by k_asm) (by assumption)

theorem cut_leafC (B : Below A₀ base outer h₀) (F : Fr h₀ L s.heap m) (X : (hd.heap_39 w.params).In h₀) (N : News h₀ L s.heap news) (T : Top hd.view_39 loose mean mg mb h₀) (hk : cs.kind = .function) (hdp : dp + 32 < recursionLimit) (hun : un + 256 < cLine)
    {t0 : Tok} {yy : Int} {tyy : Tok} {mm : Int} {tmm : Tok} (hp0 : mm ≤ 13)
    (hret : ∀ D h' tk' tl ys, Fr h₀ L h' m → News h₀ L h' ((D, LCg.lst ys) :: (tl ++ news)) → DatAll tl ys (rowsOf ((((toJdC yy mm 1)).fmod 7 + 1).fmod 7) (lenC yy mm)) → Q (.ref D) { s with heap := h', toks := tk' }) :
    wpAny (model prog w) (ktrTop dp un gd cn cs L a ccd cl outer) (call (.ref 264) [.int 3 t0, .int yy tyy, .int mm tmm]) Q E s := by
  have hb9 := lenC_bd yy mm
  refine wpAny_call ?_
  k_dflt cell_enter
  k_steps
  exact hret _ _ _ _ _ (by k_asm) (by k_asm) (by assumption)

theorem cut_leafS (B : Below A₀ base outer h₀) (F : Fr h₀ L s.heap m) (X : (hd.heap_39 w.params).In h₀) (N : News h₀ L s.heap news) (T : Top hd.view_39 loose mean mg mb h₀) (hk : cs.kind = .function) (hdp : dp + 32 < recursionLimit) (hun : un + 256 < cLine)
    {t0 : Tok} {yy : Int} {tyy : Tok} {mm : Int} {tmm : Tok} (hp0 : 2 ≤ mm)
    (hret : ∀ D h' tk' tl ys, Fr h₀ L h' m → News h₀ L h' ((D, LCg.lst ys) :: (tl ++ news)) → DatAll tl ys (rowsOf ((((toJdS yy mm 1)).fmod 7 + 1).fmod 7) (lenS mm)) → Q (.ref D) { s with heap := h', toks := tk' }) :
    wpAny (model prog w) (ktrTop dp un gd cn cs L a ccd cl outer) (call (.ref 264) [.int 4 t0, .int yy tyy, .int mm tmm]) Q E s := by
  have hb9 := lenS_bd mm
  refine wpAny_call ?_
  k_dflt cell_enter
  k_steps
  exact hret _ _ _ _ _ (by k_asm) (by k_asm) (by assumption)

theorem cut_leafA (B : Below A₀ base outer h₀) (F : Fr h₀ L s.heap m) (X : (hd.heap_39 w.params).In h₀) (N : News h₀ L s.heap news) (T : Top hd.view_39 loose mean mg mb h₀) (hk : cs.kind = .function) (hdp : dp + 32 < recursionLimit) (hun : un + 256 < cLine)
    {t0 : Tok} {yy : Int} {tyy : Tok} {mm : Int} {tmm : Tok} (hp0 : 1 ≤ yy) (hp1 : 1 ≤ mm) (hp2 : mm ≤ 13)
    (hret : ∀ D h' tk' tl ys, Fr h₀ L h' m → News h₀ L h' ((D, LCg.lst ys) :: (tl ++ news)) → DatAll tl ys (rowsOf ((((toJdA yy mm 1)).fmod 7 + 1).fmod 7) (lenA mm)) → Q (.ref D) { s with heap := h', toks := tk' }) :
    wpAny (model prog w) (ktrTop dp un gd cn cs L a ccd cl outer) (call (.ref 264) [.int 5 t0, .int yy tyy, .int mm tmm]) Q E s := by
  have hb9 := lenA_bd mm
  refine wpAny_call ?_
  k_dflt cell_enter
  k_steps
  exact hret _ _ _ _ _ (by k_asm) (by k_asm) (by assumption)

theorem cut_leafK (B : Below A₀ base outer h₀) (F : Fr h₀ L s.heap m) (X : (hd.heap_39 w.params).In h₀) (N : News h₀ L s.heap news) (T : Top hd.view_39 loose mean mg mb h₀) (hk : cs.kind = .function) (hdp : dp + 32 < recursionLimit) (hun : un + 256 < cLine)
    {t0 : Tok} {yy : Int} {tyy : Tok} {mm : Int} {tmm : Tok} (hp0 : 533 ≤ yy) (hp1 : 1 ≤ mm) (hp2 : mm ≤ 13)
    (hret : ∀ D h' tk' tl ys, Fr h₀ L h' m → News h₀ L h' ((D, LCg.lst ys) :: (tl ++ news)) → DatAll tl ys (rowsOf ((((toJdK yy mm 1)).fmod 7 + 1).fmod 7) (lenK yy mm)) → Q (.ref D) { s with heap := h', toks := tk' }) :
    wpAny (model prog w) (ktrTop dp un gd cn cs L a ccd cl outer) (call (.ref 264) [.int 6 t0, .int yy tyy, .int mm tmm]) Q E s := by
  have hb9 := lenK_bd yy mm
  refine wpAny_call ?_
  k_dflt cell_enter
  k_steps
  exact hret _ _ _ _ _ (by k_asm) (by k_asm) (by assumption)

end
theorem topOffGens : (1 : Nat) = 1 := by
  w_top off
  walk1
theorem fill7 : PySem.Challenge.rw_jb0011_01 = PySem.Challenge.rw_jb0011_01 ∧ hd.heap_39 = hd.heap_39 := by
  k_fill
  exact ⟨rfl, rfl⟩

def lenOf (k y m : Int) : Int := if k = 0 then lenG y m else if k = 1 then lenJ y m else if k = 2 then lenI y m else if k = 3 then lenC y m else if k = 4 then lenS m else if k = 5 then lenA m else lenK y m
def jdOf (k y m : Int) : Int := if k = 0 then toJdG y m 1 else if k = 1 then toJdJ y m 1 else if k = 2 then toJdI y m 1 else if k = 3 then toJdC y m 1 else if k = 4 then toJdS y m 1 else if k = 5 then toJdA y m 1 else toJdK y m 1
structure Ok (k y m : Int) : Prop where
  k0 : 0 ≤ k
  k7 : k < 7
  m1 : 1 ≤ m
  m13 : m ≤ 13
  m12 : k = 0 ∨ k = 1 ∨ k = 2 ∨ k = 4 → m ≤ 12
  m2 : k = 4 → 2 ≤ m
  y5 : k = 5 → 1 ≤ y
  y6 : k = 6 → 533 ≤ y
theorem seven {k : Int} (h0 : 0 ≤ k) (h7 : k < 7) : k = 0 ∨ k = 1 ∨ k = 2 ∨ k = 3 ∨ k = 4 ∨ k = 5 ∨ k = 6 := by omega





















section
variable {prog : Program} {w : World} {loose : List Str} {mean : ExcName → Option Value} {mg mb : Str → Option Value} {dp un : Nat} {gd : Option (List Code)} {cn : Str} {cs : Scope} {a : Addr} {ccd : Value} {cl : List (Str × Addr)} {outer : List Env} {A₀ : Around} {base h₀ : Heap} {L : Addr} {m : Str → Option Value} {news : List (Addr × Obj)} {s : Shared} {Q E : Value → Shared → Prop}

theorem cut_len0 (B : Below A₀ base outer h₀) (F : Fr h₀ L s.heap m) (X : (hd.heap_39 w.params).In h₀) (N : News h₀ L s.heap news) (T : Top hd.view_39 loose mean mg mb h₀) (hk : cs.kind = .function) (hdp : dp + 32 < recursionLimit) (hun : un + 256 < cLine)
    {t0 : Tok} {yy : Int} {tyy : Tok} {mm : Int} {tmm : Tok} (hp0 : 1 ≤ mm) (hp1 : mm ≤ 12)
    (hret : ∀ t h' tk', Fr h₀ L h' m → News h₀ L h' news → Q (.int (lenG yy mm) t) { s with heap := h', toks := tk' }) :
    wpAny (model prog w) (ktrTop dp un gd cn cs L a ccd cl outer) (call (.ref 257) [.int 0 t0, .int yy tyy, .int mm tmm]) Q E s := by
  refine wpAny_call ?_
  k_dflt cell_enter
  k_steps
  exact hret _ _ _ (by k_asm) (by k_asm)

theorem cut_len1 (B : Below A₀ base outer h₀) (F : Fr h₀ L s.heap m) (X : (hd.heap_39 w.params).In h₀) (N : News h₀ L s.heap news) (T : Top hd.view_39 loose mean mg mb h₀) (hk : cs.kind = .function) (hdp : dp + 32 < recursionLimit) (hun : un + 256 < cLine)
    {t0 : Tok} {yy : Int} {tyy : Tok} {mm : Int} {tmm : Tok}
    (hret : ∀ t h' tk', Fr h₀ L h' m → News h₀ L h' news → Q (.int (lenJ yy mm) t) { s with heap := h', toks := tk' }) :
    wpAny (model prog w) (ktrTop dp un gd cn cs L a ccd cl outer) (call (.ref 257) [.int 1 t0, .int yy tyy, .int mm tmm]) Q E s := by
  refine wpAny_call ?_
  k_dflt cell_enter
  k_steps
  exact hret _ _ _ (by k_asm) (by k_asm)

theorem cut_len2 (B : Below A₀ base outer h₀) (F : Fr h₀ L s.heap m) (X : (hd.heap_39 w.params).In h₀) (N : News h₀ L s.heap news) (T : Top hd.view_39 loose mean mg mb h₀) (hk : cs.kind = .function) (hdp : dp + 32 < recursionLimit) (hun : un + 256 < cLine)
    {t0 : Tok} {yy : Int} {tyy : Tok} {mm : Int} {tmm : Tok}
    (hret : ∀ t h' tk', Fr h₀ L h' m → News h₀ L h' news → Q (.int (lenI yy mm) t) { s with heap := h', toks := tk' }) :
    wpAny (model prog w) (ktrTop dp un gd cn cs L a ccd cl outer) (call (.ref 257) [.int 2 t0, .int yy tyy, .int mm tmm]) Q E s := by
  refine wpAny_call ?_
  k_dflt cell_enter
  k_steps
  exact hret _ _ _ (by k_asm) (by k_asm)

theorem cut_len3 (B : Below A₀ base outer h₀) (F : Fr h₀ L s.heap m) (X : (hd.heap_39 w.params).In h₀) (N : News h₀ L s.heap news) (T : Top hd.view_39 loose mean mg mb h₀) (hk : cs.kind = .function) (hdp : dp + 32 < recursionLimit) (hun : un + 256 < cLine)
    {t0 : Tok} {yy : Int} {tyy : Tok} {mm : Int} {tmm : Tok} (hp0 : mm ≤ 13)
    (hret : ∀ t h' tk', Fr h₀ L h' m → News h₀ L h' news → Q (.int (lenC yy mm) t) { s with heap := h', toks := tk' }) :
    wpAny (model prog w) (ktrTop dp un gd cn cs L a ccd cl outer) (call (.ref 257) [.int 3 t0, .int yy tyy, .int mm tmm]) Q E s := by
  refine wpAny_call ?_
  k_dflt cell_enter
  k_steps
  exact hret _ _ _ (by k_asm) (by k_asm)

theorem cut_len4 (B : Below A₀ base outer h₀) (F : Fr h₀ L s.heap m) (X : (hd.heap_39 w.params).In h₀) (N : News h₀ L s.heap news) (T : Top hd.view_39 loose mean mg mb h₀) (hk : cs.kind = .function) (hdp : dp + 32 < recursionLimit) (hun : un + 256 < cLine)
    {t0 : Tok} {yy : Int} {tyy : Tok} {mm : Int} {tmm : Tok} (hp0 : 2 ≤ mm)
    (hret : ∀ t h' tk', Fr h₀ L h' m → News h₀ L h' news → Q (.int (lenS mm) t) { s with heap := h', toks := tk' }) :
    wpAny (model prog w) (ktrTop dp un gd cn cs L a ccd cl outer) (call (.ref 257) [.int 4 t0, .int yy tyy, .int mm tmm]) Q E s := by
  refine wpAny_call ?_
  k_dflt cell_enter
  k_steps
  exact hret _ _ _ (by k_asm) (by k_asm)

theorem cut_len5 (B : Below A₀ base outer h₀) (F : Fr h₀ L s.heap m) (X : (hd.heap_39 w.params).In h₀) (N : News h₀ L s.heap news) (T : Top hd.view_39 loose mean mg mb h₀) (hk : cs.kind = .function) (hdp : dp + 32 < recursionLimit) (hun : un + 256 < cLine)
    {t0 : Tok} {yy : Int} {tyy : Tok} {mm : Int} {tmm : Tok} (hp0 : 1 ≤ yy) (hp1 : 1 ≤ mm) (hp2 : mm ≤ 13)
    (hret : ∀ t h' tk', Fr h₀ L h' m → News h₀ L h' news → Q (.int (lenA mm) t) { s with heap := h', toks := tk' }) :
    wpAny (model prog w) (ktrTop dp un gd cn cs L a ccd cl outer) (call (.ref 257) [.int 5 t0, .int yy tyy, .int mm tmm]) Q E s := by
  refine wpAny_call ?_
  k_dflt cell_enter
  k_steps
  exact hret _ _ _ (by k_asm) (by k_asm)

theorem cut_len6 (B : Below A₀ base outer h₀) (F : Fr h₀ L s.heap m) (X : (hd.heap_39 w.params).In h₀) (N : News h₀ L s.heap news) (T : Top hd.view_39 loose mean mg mb h₀) (hk : cs.kind = .function) (hdp : dp + 32 < recursionLimit) (hun : un + 256 < cLine)
    {t0 : Tok} {yy : Int} {tyy : Tok} {mm : Int} {tmm : Tok} (hp0 : 533 ≤ yy) (hp1 : 1 ≤ mm) (hp2 : mm ≤ 13)
    (hret : ∀ t h' tk', Fr h₀ L h' m → News h₀ L h' news → Q (.int (lenK yy mm) t) { s with heap := h', toks := tk' }) :
    wpAny (model prog w) (ktrTop dp un gd cn cs L a ccd cl outer) (call (.ref 257) [.int 6 t0, .int yy tyy, .int mm tmm]) Q E s := by
  refine wpAny_call ?_
  k_dflt cell_enter
  k_steps
  exact hret _ _ _ (by k_asm) (by k_asm)

theorem cut_year (B : Below A₀ base outer h₀) (F : Fr h₀ L s.heap m) (X : (hd.heap_39 w.params).In h₀) (N : News h₀ L s.heap news) (T : Top hd.view_39 loose mean mg mb h₀) (hk : cs.kind = .function) (hdp : dp + 32 < recursionLimit) (hun : un + 256 < cLine)
    {k : Int} {t0 : Tok} {yy : Int} {tyy : Tok} (hk0 : 0 ≤ k) (hk7 : k < 7)
    (hret : ∀ T l h' tk' t1 vs kl, Fr h₀ L h' m → News h₀ L h' ((T, ({ cls := .type "tuple", data := .seq #[.int (firstOf k yy) t1, .ref l] } : Obj)) :: (l, W.listOf vs.toArray kl) :: news) → IntsAre vs (lensOf k yy) → Q (.ref T) { s with heap := h', toks := tk' }) :
    wpAny (model prog w) (ktrTop dp un gd cn cs L a ccd cl outer) (call (.ref 250) [.int k t0, .int yy tyy]) Q E s := by
  rcases seven hk0 hk7 with rfl | rfl | rfl | rfl | rfl | rfl | rfl
  · exact cut_year0 B F X N T hk hdp hun hret
  · exact cut_year1 B F X N T hk hdp hun hret
  · exact cut_year2 B F X N T hk hdp hun hret
  · exact cut_year3 B F X N T hk hdp hun hret
  · exact cut_year4 B F X N T hk hdp hun hret
  · exact cut_year5 B F X N T hk hdp hun hret
  · exact cut_year6 B F X N T hk hdp hun hret
theorem cut_len (B : Below A₀ base outer h₀) (F : Fr h₀ L s.heap m) (X : (hd.heap_39 w.params).In h₀) (N : News h₀ L s.heap news) (T : Top hd.view_39 loose mean mg mb h₀) (hk : cs.kind = .function) (hdp : dp + 32 < recursionLimit) (hun : un + 256 < cLine)
    {k : Int} {t0 : Tok} {yy : Int} {tyy : Tok} {mm : Int} {tmm : Tok} (ok : Ok k yy mm)
    (hret : ∀ t h' tk', Fr h₀ L h' m → News h₀ L h' news → Q (.int (lenOf k yy mm) t) { s with heap := h', toks := tk' }) :
    wpAny (model prog w) (ktrTop dp un gd cn cs L a ccd cl outer) (call (.ref 257) [.int k t0, .int yy tyy, .int mm tmm]) Q E s := by
  obtain ⟨k0, k7, m1, m13, m12, m2, y5, y6⟩ := ok
  rcases seven k0 k7 with rfl | rfl | rfl | rfl | rfl | rfl | rfl
  · exact cut_len0 B F X N T hk hdp hun (by omega) (by omega) hret
  · exact cut_len1 B F X N T hk hdp hun  hret
  · exact cut_len2 B F X N T hk hdp hun  hret
  · exact cut_len3 B F X N T hk hdp hun (by omega) hret
  · exact cut_len4 B F X N T hk hdp hun (by omega) hret
  · exact cut_len5 B F X N T hk hdp hun (by omega) (by omega) (by omega) hret
  · exact cut_len6 B F X N T hk hdp hun (by omega) (by omega) (by omega) hret
theorem cut_leaf (B : Below A₀ base outer h₀) (F : Fr h₀ L s.heap m) (X : (hd.heap_39 w.params).In h₀) (N : News h₀ L s.heap news) (T : Top hd.view_39 loose mean mg mb h₀) (hk : cs.kind = .function) (hdp : dp + 32 < recursionLimit) (hun : un + 256 < cLine)
    {k : Int} {t0 : Tok} {yy : Int} {tyy : Tok} {mm : Int} {tmm : Tok} (ok : Ok k yy mm)
    (hret : ∀ D h' tk' tl ys, Fr h₀ L h' m → News h₀ L h' ((D, LCg.lst ys) :: (tl ++ news)) → DatAll tl ys (rowsOf (((jdOf k yy mm).fmod 7 + 1).fmod 7) (lenOf k yy mm)) → Q (.ref D) { s with heap := h', toks := tk' }) :
    wpAny (model prog w) (ktrTop dp un gd cn cs L a ccd cl outer) (call (.ref 264) [.int k t0, .int yy tyy, .int mm tmm]) Q E s := by
  obtain ⟨k0, k7, m1, m13, m12, m2, y5, y6⟩ := ok
  rcases seven k0 k7 with rfl | rfl | rfl | rfl | rfl | rfl | rfl
  · exact cut_leafG B F X N T hk hdp hun (by omega) (by omega) hret
  · exact cut_leafJ B F X N T hk hdp hun  hret
  · exact cut_leafI B F X N T hk hdp hun  hret
  · exact cut_leafC B F X N T hk hdp hun (by omega) hret
  · exact cut_leafS B F X N T hk hdp hun (by omega) hret
  · exact cut_leafA B F X N T hk hdp hun (by omega) (by omega) (by omega) hret
  · exact cut_leafK B F X N T hk hdp hun (by omega) (by omega) (by omega) hret
end
end Mine

namespace Mine
theorem lensOf_len {vs : List Value} {k y : Int} (_h : IntsAre vs (lensOf k y)) : ((lensOf k y).length : Int) = if k = 0 ∨ k = 1 ∨ k = 2 ∨ k = 4 then 12 else 13 := by
  unfold lensOf
  by_cases h0 : k = 0
  · subst h0; rfl
  by_cases h1 : k = 1
  · subst h1; rfl
  by_cases h2 : k = 2
  · subst h2; rfl
  by_cases h3 : k = 3
  · subst h3; rfl
  by_cases h4 : k = 4
  · subst h4; rfl
  by_cases h5 : k = 5
  · subst h5; rfl
  simp only [h0, h1, h2, h3, h4, h5, if_false, or_self]
  rfl
/-- the month's rows, day by day: what is done, what is being filled -/
def st (num n : Int) : Nat → List Dat × List Dat
  | 0 => ([], List.replicate 7 Dat.none)
  | i + 1 =>
    let d : Int := 1 + (i : Int)
    let c := (num + d).fmod 7
    let cur := (st num n i).2.set c.toNat (Dat.int d)
    if c = 6 ∨ d = n then ((st num n i).1 ++ [Dat.list cur], List.replicate 7 Dat.none) else ((st num n i).1, cur)
theorem st_len (num n : Int) : ∀ i, (st num n i).2.length = 7
  | 0 => by simp [st]
  | i + 1 => by
    simp only [st]
    split
    · simp
    · simp [st_len num n i]
theorem datSet {l : List (Addr × Obj)} {v : Value} {d : Dat} (hv : DatIn l v d) : ∀ {vs : List Value} {ds : List Dat} (k : Nat), DatAll l vs ds → DatAll l (vs.set k v) (ds.set k d)
  | _, _, _, .nil => .nil
  | _, _, 0, .cons _ r => .cons hv r
  | _, _, k + 1, .cons h r => .cons h (datSet hv k r)
section
open PySem.Spec PySem.Calls
variable {prog : Program} {w : World} {A : Around} {E : Value → Shared → Prop} {s : Shared} {env : Env} {h₀ : Heap} {x : Str} {body : List Stmt} {L : Addr} {m : Str → Option Value}

theorem iterKind {Q : Flow → Shared → Prop} {r : Addr} {t₀ u₀ v₀ : Tok} {m₀ : Str → Option Value} {news : List (Addr × Obj)} (stored : List Str) (hh : A.handled = none) (hr : IsRange s.heap r 0 7 1 t₀ u₀ v₀)
    (F : Fr h₀ env.locals s.heap m₀) (N : News h₀ env.locals s.heap news)
    (turn : ∀ k t (u : Str → Option Value) h tk own, 0 ≤ k → k < 7 → Fr h₀ env.locals h (fun y => if y = x then some (.int k t) else if stored.contains y then u y else m₀ y) → News h₀ env.locals h (news ++ own) →
      wpAny (model prog w) A (execs body env) (InvPostN h₀ env.locals (fun m' nx => nx = news ∧ ∀ z, z ≠ x → stored.contains z = false → m' z = m₀ z) own (news.map (·.1)) { s with heap := h, toks := tk } Q) E { s with heap := h, toks := tk })
    (done : ∀ (u : Str → Option Value) h tk, Fr h₀ env.locals h (fun y => if y = x then u y else if stored.contains y then u y else m₀ y) → News h₀ env.locals h news → Q .next { s with heap := h, toks := tk }) :
    wpAny (model prog w) A (pyIter (.ref r)) (fun it s₂ => LoopAtV prog w A h₀ env x body Q E it s₂) E s := by
  have hn : Builtin.Range.rangeSize 0 7 1 = ((7 : Nat) : Int) := by decide
  refine wpAny_pyIter_range hr (by decide) ?_
  have W : Walks prog w A s.heap.objs.size [s.heap.objs.size] [s.heap.objs.size] 7 (fun i v => i < 7 ∧ ∃ t, v = .int (0 + i * 1) t)
      (fun i h => IsRangeIter h s.heap.objs.size (0 + (i : Nat) * 1) (((7 : Nat) : Int) - (i : Nat)) 1) := (Walks.range hh _ 0 1 7).bound
  refine loop_invN (fun _ m nx => nx = news ∧ ∀ z, z ≠ x → stored.contains z = false → m z = m₀ z) W ?_ ?_ ?_ ?_ (by show IsRangeIter _ _ _ _ _; rw [hn]; simpa using Heap.get?_push_size _ rfl) (F.push _) (fun p hp => ⟨Heap.get?_push_of_some _ (N p hp).1, (N p hp).2⟩) ⟨rfl, fun _ _ _ => rfl⟩ ?_ ?_
  · intro hm
    exact absurd F.ns.lt ((List.mem_singleton.mp hm) ▸ Nat.lt_irrefl _)
  · intro b hb
    rw [List.mem_singleton.mp hb]
    exact next_is_new F
  · intro p hp hI
    exact absurd (Heap.lt_size (N p hp).1) ((List.mem_singleton.mp hI) ▸ Nat.lt_irrefl _)
  · intro p hp hI
    exact absurd (Heap.lt_size (N p hp).1) ((List.mem_singleton.mp hI) ▸ Nat.lt_irrefl _)
  · rintro i v m₁ nx h tk own hi ⟨_, t, rfl⟩ _ hoff ⟨rfl, hz⟩ F₁ N₁
    have e : (fun y => if y = x then some (Value.int (0 + (i : Int) * 1) t) else m₁ y) = fun y => if y = x then some (Value.int (0 + (i : Int) * 1) t) else if stored.contains y then m₁ y else m₀ y := by
      funext y
      by_cases h1 : y = x
      · simp only [if_pos h1]
      · simp only [if_neg h1]
        cases h2 : stored.contains y with
        | true => simp
        | false => simpa using hz y h1 h2
    rw [e] at F₁
    exact turn _ t m₁ h tk own (by omega) (by omega) F₁ N₁
  · rintro m₁ nx h tk ⟨rfl, hz⟩ F₁ N₁
    refine done m₁ h tk ?_ N₁
    have e : (fun y => if y = x then m₁ y else if stored.contains y then m₁ y else m₀ y) = m₁ := by
      funext y
      by_cases h1 : y = x
      · simp only [if_pos h1]
      · simp only [if_neg h1]
        cases h2 : stored.contains y with
        | true => simp
        | false => simpa using (hz y h1 h2).symm
    rw [e]
    exact F₁

/-- what holds between the days -/
def DayJ (num n : Int) (rest : List (Addr × Obj)) (Ra : Addr) (m₀ : Str → Option Value) (i : Nat) (m : Str → Option Value) (nx : List (Addr × Obj)) : Prop :=
  ∃ us refs r kr kR tl, nx = (r, W.listOf (List.toArray us) kr) :: (Ra, W.listOf (List.toArray refs) kR) :: (tl ++ rest) ∧ DatAll [] us (st num n i).2 ∧ DatAll tl refs (st num n i).1 ∧ refs.length ≤ i ∧ @Ne Nat Ra r ∧ (∀ p ∈ tl ++ rest, @Ne Nat p.1 r ∧ @Ne Nat p.1 Ra) ∧
    m (Str.ofString "row") = some (.ref r) ∧ ∀ z, z ≠ Str.ofString "day" → z ≠ Str.ofString "column" → z ≠ Str.ofString "row" → m z = m₀ z

theorem iterDay {Q : Flow → Shared → Prop} {rg rr Ra : Addr} {b : Int} {t₀ u₀ v₀ : Tok} {n : Nat} {num : Int} {k0 k1 : Nat} {rv : List Value} {m₀ : Str → Option Value} {rest : List (Addr × Obj)} (hh : A.handled = none) (hr : IsRange s.heap rg 1 b 1 t₀ u₀ v₀) (hb : b = (n : Int) + 1) (hn9 : n ≤ 31)
    (F : Fr h₀ env.locals s.heap m₀) (N : News h₀ env.locals s.heap ((rr, W.listOf rv.toArray k0) :: (Ra, W.listOf (List.toArray []) k1) :: rest)) (hrv : DatAll [] rv (List.replicate 7 Dat.none)) (l1 : ∀ p ∈ ((Ra, W.listOf (List.toArray []) k1) :: rest), p.1 < rr) (l2 : ∀ p ∈ rest, p.1 < Ra)
    (hm1 : m₀ (Str.ofString "row") = some (.ref rr))
    (turn : ∀ i t us refs r kr kR tl rst (u : Option Value) h tk own, i < n → us.length = 7 → refs.length ≤ i → @Ne Nat Ra r → (∀ p ∈ rst, @Ne Nat p.1 r) → (∀ p ∈ rst, @Ne Nat p.1 Ra) → DatAll [] us (st num n i).2 → DatAll tl refs (st num n i).1 → rst = tl ++ rest ++ own →
      OwnOff own (((r, W.listOf (List.toArray us) kr) :: (Ra, W.listOf (List.toArray refs) kR) :: (tl ++ rest)).map (·.1)) →
      Fr h₀ env.locals h (fun y => if y = Str.ofString "day" then some (.int (1 + (i : Int)) t) else if y = Str.ofString "row" then some (.ref r) else if y = Str.ofString "column" then u else m₀ y) →
      News h₀ env.locals h ((r, W.listOf us.toArray kr) :: (Ra, W.listOf refs.toArray kR) :: rst) →
      wpAny (model prog w) A (execs body env) (InvPostG h₀ env.locals (DayJ num n rest Ra m₀ (i + 1)) own { s with heap := h, toks := tk } Q) E { s with heap := h, toks := tk })
    (done : ∀ us refs r kr kR tl (u1 u2 : Option Value) h tk, DatAll tl refs (st num n n).1 →
      Fr h₀ env.locals h (fun y => if y = Str.ofString "day" then u1 else if y = Str.ofString "row" then some (.ref r) else if y = Str.ofString "column" then u2 else m₀ y) →
      News h₀ env.locals h ((r, W.listOf (List.toArray us) kr) :: (Ra, W.listOf (List.toArray refs) kR) :: (tl ++ rest)) → Q .next { s with heap := h, toks := tk }) :
    wpAny (model prog w) A (pyIter (.ref rg)) (fun it s₂ => LoopAtV prog w A h₀ env (Str.ofString "day") body Q E it s₂) E s := by
  have hn : Builtin.Range.rangeSize 1 b 1 = (n : Int) := by
    rw [rangeSize_one, hb]
    split <;> omega
  refine wpAny_pyIter_range hr (small_one (by omega) (by omega) (by omega) (by omega)) ?_
  have W : Walks prog w A s.heap.objs.size [s.heap.objs.size] [s.heap.objs.size] n (fun i v => i < n ∧ ∃ t, v = .int (1 + i * 1) t)
      (fun i h => IsRangeIter h s.heap.objs.size (1 + (i : Nat) * 1) ((n : Int) - (i : Nat)) 1) := (Walks.range hh _ 1 1 n).bound
  have fe : ∀ {m₁ : Str → Option Value} {r : Addr} (v : Option Value), m₁ (Str.ofString "row") = some (.ref r) → (∀ z, z ≠ Str.ofString "day" → z ≠ Str.ofString "column" → z ≠ Str.ofString "row" → m₁ z = m₀ z) →
      (fun y => if y = Str.ofString "day" then v else m₁ y) = fun y => if y = Str.ofString "day" then v else if y = Str.ofString "row" then some (.ref r) else if y = Str.ofString "column" then m₁ (Str.ofString "column") else m₀ y := by
    intro m₁ r v h1 h2
    funext y
    by_cases e1 : y = Str.ofString "day"
    · simp only [if_pos e1]
    · by_cases e2 : y = Str.ofString "row"
      · simp only [if_neg e1, if_pos e2]; rw [e2]; exact h1
      · by_cases e3 : y = Str.ofString "column"
        · simp only [if_neg e1, if_neg e2, if_pos e3]; rw [e3]
        · simp only [if_neg e1, if_neg e2, if_neg e3]; exact h2 y e1 e3 e2
  refine kdr_loop (DayJ num n rest Ra m₀) W (fun _ h => h) (fun _ h => h) (fun i h hi c hc => ?_) ?_ ?_ ?_ (by show IsRangeIter _ _ _ _ _; rw [hn]; simpa using Heap.get?_push_size _ rfl) (F.push _) (fun p hp => ⟨Heap.get?_push_of_some _ (N p hp).1, (N p hp).2⟩)
    ⟨rv, [], rr, k0, k1, [], rfl, hrv, .nil, Nat.le_refl _, Nat.ne_of_lt (l1 _ (.head _)), fun p hp => ⟨Nat.ne_of_lt (l1 p (.tail _ hp)), Nat.ne_of_lt (l2 p hp)⟩, hm1, fun _ _ _ _ => rfl⟩ ?_ ?_
  · rw [List.mem_singleton.mp hc]
    exact ⟨_, hi⟩
  · intro hm
    exact absurd F.ns.lt ((List.mem_singleton.mp hm) ▸ Nat.lt_irrefl _)
  · intro b hb
    rw [List.mem_singleton.mp hb]
    exact next_is_new F
  · intro p hp hI
    exact absurd (Heap.lt_size (N p hp).1) ((List.mem_singleton.mp hI) ▸ Nat.lt_irrefl _)
  · rintro i v m₁ nx h tk own hi ⟨_, t, rfl⟩ hoff ⟨us, refs, r, kr, kR, tl, rfl, hus, hrefs, hlen, hne, hrst, hrow, hz⟩ F₁ N₁
    have e1 : (1 + (i : Int) * 1) = 1 + (i : Int) := by omega
    rw [e1, fe _ hrow hz] at F₁
    have hu7 : us.length = 7 := by rw [hus.length]; exact st_len num n i
    have ho : ∀ p ∈ own, @Ne Nat p.1 r ∧ @Ne Nat p.1 Ra := fun p hp => ⟨hoff p hp _ (.head _), hoff p hp _ (.tail _ (.head _))⟩
    refine turn i t us refs r kr kR tl (tl ++ rest ++ own) (m₁ (Str.ofString "column")) h tk own hi hu7 hlen hne (fun p hp => ?_) (fun p hp => ?_) hus hrefs rfl hoff F₁ (fun p hp => N₁ p ?_)
    · rcases List.mem_append.mp hp with hp | hp
      · exact (hrst p hp).1
      · exact (ho p hp).1
    · rcases List.mem_append.mp hp with hp | hp
      · exact (hrst p hp).2
      · exact (ho p hp).2
    · exact hp
  · rintro m₁ nx h tk ⟨us, refs, r, kr, kR, tl, rfl, hus, hrefs, hlen, hne, hrst, hrow, hz⟩ F₁ N₁
    have e : m₁ = fun y => if y = Str.ofString "day" then m₁ (Str.ofString "day") else m₁ y := by
      funext y
      by_cases e1 : y = Str.ofString "day"
      · simp only [if_pos e1]; rw [e1]
      · simp only [if_neg e1]
    rw [e, fe _ hrow hz] at F₁
    exact done us refs r kr kR tl _ _ h tk hrefs F₁ N₁
end
end Mine

namespace Mine
theorem fmE (a : Int) {b : Int} (h : 0 ≤ b) : a.fmod b = a % b := Int.fmod_eq_emod_of_nonneg a h
theorem fdE (a : Int) {b : Int} (h : 0 ≤ b) : a.fdiv b = a / b := Int.fdiv_eq_ediv_of_nonneg a h
theorem leapIff (y : Int) : isleap y = true ↔ (y % 4 = 0 ∧ (y % 100 ≠ 0 ∨ y % 400 = 0)) := by
  unfold isleap
  rw [fmE _ (by decide), fmE _ (by decide), fmE _ (by decide)]
  simp
theorem janEq (y : Int) : jan y = 1721426 + 365 * (y - 1) + (y - 1) / 4 - (y - 1) / 100 + (y - 1) / 400 := by
  unfold jan
  rw [fmE _ (by decide), fdE _ (by decide), fdE _ (by decide), fdE _ (by decide)]
  split <;> omega
theorem janNext (y : Int) : jan (y + 1) = jan y + 365 + (if isleap y = true then 1 else 0) := by
  rw [janEq, janEq]
  by_cases h : isleap y = true
  · rw [if_pos h]
    have q := (leapIff y).mp h
    omega
  · rw [if_neg h]
    have q : ¬ (y % 4 = 0 ∧ (y % 100 ≠ 0 ∨ y % 400 = 0)) := fun z => h ((leapIff y).mpr z)
    omega
theorem jdG (y m : Int) : toJdG y m 1 = jan y + ((367 * m - 362) / 12 + (if m ≤ 2 then 0 else if isleap y = true then -1 else -2)) := by
  unfold toJdG
  rw [janEq, fdE _ (by decide), fdE _ (by decide), fdE _ (by decide), fdE _ (by decide)]
  omega
theorem jdJ (y m : Int) : toJdJ y m 1 = (1461 * ((if m ≤ 2 then y - 1 else y) + 4716)) / 4 + (306001 * ((if m ≤ 2 then m + 12 else m) + 1)) / 10000 + 1 - 1524 := by
  unfold toJdJ
  rw [fdE _ (by decide), fdE _ (by decide)]
theorem m12 {M : Int} (h0 : 0 ≤ M) (h1 : M < 12) : M = 0 ∨ M = 1 ∨ M = 2 ∨ M = 3 ∨ M = 4 ∨ M = 5 ∨ M = 6 ∨ M = 7 ∨ M = 8 ∨ M = 9 ∨ M = 10 ∨ M = 11 := by omega
theorem m13 {M : Int} (h0 : 0 ≤ M) (h1 : M < 13) : M = 0 ∨ M = 1 ∨ M = 2 ∨ M = 3 ∨ M = 4 ∨ M = 5 ∨ M = 6 ∨ M = 7 ∨ M = 8 ∨ M = 9 ∨ M = 10 ∨ M = 11 ∨ M = 12 := by omega
def Pl (k y M : Int) : Prop := jdOf k y (M + 1) = firstOf k y + ((lensOf k y).take M.toNat).sum ∧ lenOf k y (M + 1) = (lensOf k y).getD M.toNat 0
theorem pl0 (y M : Int) (h0 : 0 ≤ M) (h1 : M < 12) : Pl 0 y M := by
  unfold Pl
  have e1 : ∀ m, jdOf 0 y m = toJdG y m 1 := fun _ => rfl
  have e2 : ∀ m, lenOf 0 y m = lenG y m := fun _ => rfl
  have e3 : firstOf 0 y = jan y := rfl
  have e4 : lensOf 0 y = [31, jan (y + 1) - jan y - 337, 31, 30, 31, 30, 31, 31, 30, 31, 30, 31] := rfl
  rw [e1, e2, e3, e4, jdG, janNext]
  generalize jan y = J
  cases hL : isleap y <;> rcases m12 h0 h1 with rfl | rfl | rfl | rfl | rfl | rfl | rfl | rfl | rfl | rfl | rfl | rfl <;> simp [lenG, hL] <;> omega
theorem pl1 (y M : Int) (h0 : 0 ≤ M) (h1 : M < 12) : Pl 1 y M := by
  unfold Pl
  have e1 : ∀ m, jdOf 1 y m = toJdJ y m 1 := fun _ => rfl
  have e2 : ∀ m, lenOf 1 y m = lenJ y m := fun _ => rfl
  have e3 : firstOf 1 y = 1461 * (y + 4712).fdiv 4 + 365 * (y + 4712).fmod 4 + (if 0 < (y + 4712).fmod 4 then 1 else 0) := rfl
  have e4 : lensOf 1 y = [31, if (y + 4712).fmod 4 = 0 then 29 else 28, 31, 30, 31, 30, 31, 31, 30, 31, 30, 31] := rfl
  rw [e1, e2, e3, e4, jdJ, fmE _ (by decide), fdE _ (by decide)]
  have hb : y.fmod 4 = (y + 4712) % 4 := by rw [fmE _ (by decide)]; omega
  by_cases h : (y + 4712) % 4 = 0
  · rcases m12 h0 h1 with rfl | rfl | rfl | rfl | rfl | rfl | rfl | rfl | rfl | rfl | rfl | rfl <;> simp [lenJ, hb, h] <;> omega
  · have h' : 0 < (y + 4712) % 4 := by omega
    rcases m12 h0 h1 with rfl | rfl | rfl | rfl | rfl | rfl | rfl | rfl | rfl | rfl | rfl | rfl <;> simp [lenJ, hb, h, h'] <;> omega
theorem jdI (y m : Int) : toJdI y m 1 = 1 + -((-59 * (m - 1)) / 2) + (y - 1) * 354 + (3 + 11 * y) / 30 + 1948440 - 1 := by
  unfold toJdI
  rw [fdE _ (by decide), fdE _ (by decide)]
theorem thirty (r : Int) (h0 : 0 ≤ r) (h1 : r < 30) : ((longs.filter (fun o => decide (o ≤ r))).length : Int) = (14 + 11 * r) / 30 ∧ (longs.any (fun x => x == r + 1)) = decide (((r + 1) * 11 + 14) % 30 < 11) := by
  obtain ⟨n, rfl⟩ := Int.eq_ofNat_of_zero_le h0
  have hn : n < 30 := by omega
  have : ∀ n : Fin 30, ((longs.filter (fun o => decide (o ≤ ((n.val : Nat) : Int)))).length : Int) = (14 + 11 * ((n.val : Nat) : Int)) / 30 ∧ (longs.any (fun x => x == ((n.val : Nat) : Int) + 1)) = decide (((((n.val : Nat) : Int) + 1) * 11 + 14) % 30 < 11) := by decide
  exact this ⟨n, hn⟩
theorem pl2 (y M : Int) (h0 : 0 ≤ M) (h1 : M < 12) : Pl 2 y M := by
  unfold Pl
  have e1 : ∀ m, jdOf 2 y m = toJdI y m 1 := fun _ => rfl
  have e2 : ∀ m, lenOf 2 y m = lenI y m := fun _ => rfl
  have e3 : firstOf 2 y = 1948440 + 10631 * (y - 1).fdiv 30 + 354 * (y - 1).fmod 30 + ((longs.filter (fun o => decide (o ≤ (y - 1).fmod 30))).length : Int) := rfl
  have e4 : lensOf 2 y = [30, 29, 30, 29, 30, 29, 30, 29, 30, 29, 30, if (longs.any (fun x => x == (y - 1).fmod 30 + 1)) = true then 30 else 29] := rfl
  rw [e1, e2, e3, e4, jdI, fmE _ (by decide), fdE _ (by decide)]
  have t := thirty ((y - 1) % 30) (by omega) (by omega)
  rw [t.1, t.2]
  have hl : leapI y = decide ((((y - 1) % 30 + 1) * 11 + 14) % 30 < 11) := by
    unfold leapI
    rw [fmE _ (by decide)]
    congr 1
    have : (y * 11 + 14) % 30 = (((y - 1) % 30 + 1) * 11 + 14) % 30 := by omega
    rw [this]
  clear t
  rcases m12 h0 h1 with rfl | rfl | rfl | rfl | rfl | rfl | rfl | rfl | rfl | rfl | rfl | rfl <;> simp [lenI, hl] <;> omega
theorem pl3 (y M : Int) (h0 : 0 ≤ M) (h1 : M < 13) : Pl 3 y M := by
  unfold Pl
  have e1 : ∀ m, jdOf 3 y m = toJdC y m 1 := fun _ => rfl
  have e2 : ∀ m, lenOf 3 y m = lenC y m := fun _ => rfl
  have e3 : firstOf 3 y = 1825030 + 1461 * (y - 1).fdiv 4 + 365 * (y - 1).fmod 4 + (if (y - 1).fmod 4 = 3 then 1 else 0) := rfl
  have e4 : lensOf 3 y = [30, 30, 30, 30, 30, 30, 30, 30, 30, 30, 30, 30, if (y - 1).fmod 4 = 2 then 6 else 5] := rfl
  rw [e1, e2, e3, e4, fmE _ (by decide), fdE _ (by decide)]
  unfold toJdC
  rw [fdE _ (by decide)]
  have hl : leapC y = decide ((y - 1) % 4 = 2) := by
    unfold leapC
    rw [fmE _ (by decide)]
    by_cases h : (y - 1) % 4 = 2
    · have : y % 4 = 3 := by omega
      simp [h, this]
    · have a1 : ¬ y % 4 = 3 := by omega
      have a2 : ¬ y % 4 = -1 := by omega
      simp [h, a1, a2]
  rcases m13 h0 h1 with rfl | rfl | rfl | rfl | rfl | rfl | rfl | rfl | rfl | rfl | rfl | rfl | rfl <;> simp [lenC, hl] <;> (try split) <;> omega
theorem pl4 (y M : Int) (h0 : 1 ≤ M) (h1 : M < 12) : Pl 4 y M := by
  unfold Pl
  have e1 : ∀ m, jdOf 4 y m = toJdS y m 1 := fun _ => rfl
  have e2 : ∀ m, lenOf 4 y m = lenS m := fun _ => rfl
  have e3 : firstOf 4 y = jan (y + 78) + 80 := rfl
  have e4 : lensOf 4 y = [jan (y + 78 + 1) - jan (y + 78) - 335, 31, 31, 31, 31, 31, 30, 30, 30, 30, 30, 30] := by
    rw [show y + 78 + 1 = y + 79 by omega]
    rfl
  have e5 : ∀ d, toJdG (y + 78) 3 d = toJdG (y + 78) 3 1 + (d - 1) := by intro d; unfold toJdG; omega
  rw [e1, e2, e3, e4, janNext]
  unfold toJdS
  rw [e5, jdG]
  generalize jan (y + 78) = J
  cases isleap (y + 78) <;> rcases m12 (by omega) h1 with rfl | rfl | rfl | rfl | rfl | rfl | rfl | rfl | rfl | rfl | rfl | rfl <;> first | (exfalso; omega) | (simp [lenS]; omega) | (simp [lenS]; done)
theorem pl5 (y M : Int) (h0 : 0 ≤ M) (h1 : M < 13) : Pl 5 y M := by
  unfold Pl
  have e1 : ∀ m, jdOf 5 y m = toJdA y m 1 := fun _ => rfl
  have e2 : ∀ m, lenOf 5 y m = lenA m := fun _ => rfl
  have e3 : firstOf 5 y = 1922868 + 365 * (y - 1) := rfl
  have e4 : lensOf 5 y = [30, 30, 30, 30, 30, 30, 30, 30, 30, 30, 30, 30, 5] := rfl
  rw [e1, e2, e3, e4]
  unfold toJdA
  rcases m13 h0 h1 with rfl | rfl | rfl | rfl | rfl | rfl | rfl | rfl | rfl | rfl | rfl | rfl | rfl <;> simp [lenA] <;> omega
theorem pl6 (y M : Int) (h0 : 0 ≤ M) (h1 : M < 13) : Pl 6 y M := by
  unfold Pl
  have e1 : ∀ m, jdOf 6 y m = toJdK y m 1 := fun _ => rfl
  have e2 : ∀ m, lenOf 6 y m = lenK y m := fun _ => rfl
  have e3 : firstOf 6 y = 2117212 + 1461 * (y - 533).fdiv 4 + 365 * (y - 533).fmod 4 := rfl
  have e4 : lensOf 6 y = [30, 30, 30, 30, 30, 30, 30, 30, 30, 30, 30, 30, if (y - 533).fmod 4 = 3 then 6 else 5] := rfl
  rw [e1, e2, e3, e4]
  unfold toJdK
  rw [fmE _ (by decide), fdE _ (by decide)]
  have hb : (y.fmod 4 = 0) = ((y - 533) % 4 = 3) := by rw [fmE _ (by decide)]; exact propext ⟨fun h => by omega, fun h => by omega⟩
  rcases m13 h0 h1 with rfl | rfl | rfl | rfl | rfl | rfl | rfl | rfl | rfl | rfl | rfl | rfl | rfl <;> simp [lenK, hb] <;> omega
theorem plAll {k y M : Int} (ok : Ok k y (M + 1)) : Pl k y M := by
  obtain ⟨k0, k7, m1, m13, m12, m2, y5, y6⟩ := ok
  rcases seven k0 k7 with rfl | rfl | rfl | rfl | rfl | rfl | rfl
  · exact pl0 y M (by omega) (by omega)
  · exact pl1 y M (by omega) (by omega)
  · exact pl2 y M (by omega) (by omega)
  · exact pl3 y M (by omega) (by omega)
  · exact pl4 y M (by omega) (by omega)
  · exact pl5 y M (by omega) (by omega)
  · exact pl6 y M (by omega) (by omega)
end Mine

namespace Mine
theorem st_mod (num n : Int) : ∀ i, st num n i = st (num % 7) n i
  | 0 => rfl
  | i + 1 => by
    have e : (num + (1 + (i : Int))).fmod 7 = (num % 7 + (1 + (i : Int))).fmod 7 := by
      rw [fmE _ (by decide), fmE _ (by decide)]
      omega
    simp only [st]
    rw [← st_mod num n i, e]
theorem rowsGround (w : Nat) (hw : w < 7) (n : Nat) (hn : n = 5 ∨ n = 6 ∨ n = 28 ∨ n = 29 ∨ n = 30 ∨ n = 31) : (st (w : Int) (n : Int) n).1 = rowsOf (((w : Int) + 1).fmod 7) (n : Int) := by
  have h7 : w = 0 ∨ w = 1 ∨ w = 2 ∨ w = 3 ∨ w = 4 ∨ w = 5 ∨ w = 6 := by omega
  rcases h7 with rfl | rfl | rfl | rfl | rfl | rfl | rfl <;> rcases hn with rfl | rfl | rfl | rfl | rfl | rfl <;> kernel_rfl
theorem rowsPlain (num : Int) (n : Nat) (hn : n = 5 ∨ n = 6 ∨ n = 28 ∨ n = 29 ∨ n = 30 ∨ n = 31) : (st num (n : Int) n).1 = rowsOf ((num + 1).fmod 7) (n : Int) := by
  have h0 : 0 ≤ num % 7 := by omega
  have h1 : num % 7 < 7 := by omega
  have e : (num + 1).fmod 7 = (num % 7 + 1).fmod 7 := by
    rw [fmE _ (by decide), fmE _ (by decide)]
    omega
  rw [st_mod, e]
  obtain ⟨w, hw⟩ := Int.eq_ofNat_of_zero_le h0
  rw [hw]
  exact rowsGround w (by omega) n hn
theorem daysOk {p n : Int} : ∀ d ∈ daysD p n, kqdOk 7 d = true := by
  intro d hd
  unfold daysD at hd
  rcases List.mem_append.mp hd with hd | hd
  · rcases List.mem_append.mp hd with hd | hd
    · rw [List.eq_of_mem_replicate hd]; rfl
    · obtain ⟨x, _, rfl⟩ := List.mem_map.mp hd; rfl
  · rw [List.eq_of_mem_replicate hd]; rfl
theorem rowsOk {p n : Int} : ∀ d ∈ rowsOf p n, kqdOk 8 d = true := by
  intro d hd
  obtain ⟨i, _, rfl⟩ := List.mem_map.mp hd
  unfold rowD
  simp only [kqdOk, List.all_eq_true]
  intro e he
  exact daysOk e (List.mem_of_mem_drop (List.mem_of_mem_take he))
theorem lenSet {k y m : Int} : lenOf k y m = 5 ∨ lenOf k y m = 6 ∨ lenOf k y m = 28 ∨ lenOf k y m = 29 ∨ lenOf k y m = 30 ∨ lenOf k y m = 31 := by
  unfold lenOf lenG lenJ lenI lenC lenS lenA lenK
  (repeat' split) <;> decide
/-- the month's number of days; the number of the day ahead of its first -/
def dim (k y M : Int) : Nat := ((lensOf k y).getD M.toNat 0).toNat
def ahead (k y M : Int) : Int := firstOf k y + ((lensOf k y).take M.toNat).sum
theorem dimSet {k y M : Int} (ok : Ok k y (M + 1)) : dim k y M = 5 ∨ dim k y M = 6 ∨ dim k y M = 28 ∨ dim k y M = 29 ∨ dim k y M = 30 ∨ dim k y M = 31 := by
  unfold dim
  rw [← (plAll ok).2]
  have h := lenSet (k := k) (y := y) (m := M + 1)
  omega
theorem dimEq {k y M : Int} (ok : Ok k y (M + 1)) : (lensOf k y).getD M.toNat 0 = (dim k y M : Int) := by
  have h := lenSet (k := k) (y := y) (m := M + 1)
  rw [(plAll ok).2] at h
  unfold dim
  omega
theorem rowsLaw {k y M : Int} (ok : Ok k y (M + 1)) : rowsOf (((jdOf k y (M + 1)).fmod 7 + 1).fmod 7) (lenOf k y (M + 1)) = (st (ahead k y M) (dim k y M : Int) (dim k y M)).1 := by
  rw [rowsPlain _ _ (dimSet ok), (plAll ok).1, (plAll ok).2, dimEq ok]
  congr 1
  unfold ahead
  rw [fmE _ (by decide), fmE _ (by decide), fmE _ (by decide)]
  omega
section
variable {prog : Program} {w : World} {loose : List Str} {mean : ExcName → Option Value} {mg mb : Str → Option Value} {dp un : Nat} {gd : Option (List Code)} {cn : Str} {cs : Scope} {a : Addr} {ccd : Value} {cl : List (Str × Addr)} {outer : List Env} {A₀ : Around} {base h₀ : Heap} {L : Addr} {m : Str → Option Value} {news : List (Addr × Obj)} {s : Shared} {Q E : Value → Shared → Prop}

theorem cut_lenM (B : Below A₀ base outer h₀) (F : Fr h₀ L s.heap m) (X : (hd.heap_39 w.params).In h₀) (N : News h₀ L s.heap news) (T : Top hd.view_39 loose mean mg mb h₀) (hk : cs.kind = .function) (hdp : dp + 32 < recursionLimit) (hun : un + 256 < cLine)
    {k : Int} {t0 : Tok} {yy : Int} {tyy : Tok} {M : Int} {tmm : Tok} (ok : Ok k yy (M + 1))
    (hret : ∀ t h' tk', Fr h₀ L h' m → News h₀ L h' news → (lensOf k yy).getD M.toNat 0 = (dim k yy M : Int) → 5 ≤ dim k yy M → dim k yy M ≤ 31 → Q (.int ((lensOf k yy).getD M.toNat 0) t) { s with heap := h', toks := tk' }) :
    wpAny (model prog w) (ktrTop dp un gd cn cs L a ccd cl outer) (call (.ref 257) [.int k t0, .int yy tyy, .int (M + 1) tmm]) Q E s := by
  refine cut_len B F X N T hk hdp hun ok (fun t h' tk' F' N' => ?_)
  rw [(plAll ok).2]
  have h := dimSet ok
  exact hret t h' tk' F' N' (dimEq ok) (by omega) (by omega)
theorem cut_leafM (B : Below A₀ base outer h₀) (F : Fr h₀ L s.heap m) (X : (hd.heap_39 w.params).In h₀) (N : News h₀ L s.heap news) (T : Top hd.view_39 loose mean mg mb h₀) (hk : cs.kind = .function) (hdp : dp + 32 < recursionLimit) (hun : un + 256 < cLine)
    {k : Int} {t0 : Tok} {yy : Int} {tyy : Tok} {M : Int} {tmm : Tok} (ok : Ok k yy (M + 1))
    (hret : ∀ D h' tk' tl ys, Fr h₀ L h' m → News h₀ L h' ((D, LCg.lst ys) :: (tl ++ news)) → DatAll tl ys (st (ahead k yy M) (dim k yy M : Int) (dim k yy M)).1 → (∀ d ∈ (st (ahead k yy M) (dim k yy M : Int) (dim k yy M)).1, kqdOk 8 d = true) → Q (.ref D) { s with heap := h', toks := tk' }) :
    wpAny (model prog w) (ktrTop dp un gd cn cs L a ccd cl outer) (call (.ref 264) [.int k t0, .int yy tyy, .int (M + 1) tmm]) Q E s := by
  refine cut_leaf B F X N T hk hdp hun ok (fun D h' tk' tl ys F' N' d => ?_)
  rw [rowsLaw ok] at d
  exact hret D h' tk' tl ys F' N' d (by rw [← rowsLaw ok]; exact rowsOk)
end
section
open PySem.Spec PySem.Calls
variable {prog : Program} {w : World} {A : Around} {E : Value → Shared → Prop} {s : Shared} {env : Env} {h₀ : Heap} {x : Str} {L : Addr} {m : Str → Option Value}
theorem leafNe {Q : Value → Shared → Prop} {D r Ra : Addr} {o : Obj} {ys refs : List Value} {kR : Nat} {tl9 tl rest : List (Addr × Obj)} {ds : List Dat}
    (N : News h₀ L s.heap ((D, LCg.lst ys) :: (tl9 ++ ((r, o) :: (Ra, W.listOf (List.toArray refs) kR) :: (tl ++ rest))))) (d1 : DatAll tl9 ys ds) (d2 : DatAll tl refs ds) (hok : ∀ d ∈ ds, kqdOk 8 d = true) (hu : A.units + 64 < cLine) (h : Q (.bool false) s) :
    wpAny (model prog w) A (compareOp .NotEq (.ref D) (.ref Ra)) Q E s := by
  refine kqd_ne N (.head _) rfl rfl d1 (fun p hp => .tail _ (List.mem_append.mpr (.inl hp))) (.tail _ (List.mem_append.mpr (.inr (.tail _ (.head _))))) rfl rfl d2
    (fun p hp => .tail _ (List.mem_append.mpr (.inr (.tail _ (.tail _ (List.mem_append.mpr (.inl hp))))))) hok hok hu ?_
  simpa using h
theorem stStay {num n : Int} {i : Nat} (hc : ¬ ((num + (1 + (i : Int))).fmod 7 = 6 ∨ (1 + (i : Int)) = n)) : st num n (i + 1) = ((st num n i).1, (st num n i).2.set ((num + (1 + (i : Int))).fmod 7).toNat (Dat.int (1 + (i : Int)))) := by
  simp only [st]
  rw [if_neg hc]
theorem stNext {num n : Int} {i : Nat} (hc : (num + (1 + (i : Int))).fmod 7 = 6 ∨ (1 + (i : Int)) = n) : st num n (i + 1) = ((st num n i).1 ++ [Dat.list ((st num n i).2.set ((num + (1 + (i : Int))).fmod 7).toNat (Dat.int (1 + (i : Int))))], List.replicate 7 Dat.none) := by
  simp only [st]
  rw [if_pos hc]
theorem dayStay {s₁ : Shared} {num n : Int} {i : Nat} {t : Tok} {us refs : List Value} {r Ra : Addr} {kr kR : Nat} {tl rest own : List (Addr × Obj)} {m' m₀ : Str → Option Value} {h' : Heap} {tk : Nat}
    (hc : ¬ ((num + (1 + (i : Int))).fmod 7 = 6 ∨ (1 + (i : Int)) = n)) (hlen : refs.length ≤ i) (hne : @Ne Nat Ra r) (h1 : ∀ p ∈ tl ++ rest ++ own, @Ne Nat p.1 r) (h2 : ∀ p ∈ tl ++ rest ++ own, @Ne Nat p.1 Ra) (hus : DatAll [] us (st num n i).2) (hrefs : DatAll tl refs (st num n i).1)
    (hoff : OwnOff own (((r, W.listOf (List.toArray us) kr) :: (Ra, W.listOf (List.toArray refs) kR) :: (tl ++ rest)).map (·.1)))
    (F : Fr h₀ L h' m') (N : News h₀ L h' ((r, W.listOf (us.set ((num + (1 + (i : Int))).fmod 7).toNat (.int (1 + (i : Int)) t)).toArray kr) :: (Ra, W.listOf refs.toArray kR) :: (tl ++ rest ++ own)))
    (hrow : m' (Str.ofString "row") = some (.ref r)) (hz : ∀ z, z ≠ Str.ofString "day" → z ≠ Str.ofString "column" → z ≠ Str.ofString "row" → m' z = m₀ z) :
    InvEndG h₀ L (DayJ num n rest Ra m₀ (i + 1)) own s₁ { s₁ with heap := h', toks := tk } := by
  refine InvEndG.intro F N ⟨us.set ((num + (1 + (i : Int))).fmod 7).toNat (.int (1 + (i : Int)) t), refs, r, kr, kR, tl, rfl, ?_, ?_, Nat.le_succ_of_le hlen, hne, fun p hp => ⟨h1 p (List.mem_append.mpr (.inl hp)), h2 p (List.mem_append.mpr (.inl hp))⟩, hrow, hz⟩ hoff (fun p hp => ?_) (fun p hp => ?_)
  · rw [stStay hc]
    exact datSet (.int _ _) _ hus
  · rw [stStay hc]
    exact hrefs
  · rcases List.mem_cons.mp hp with rfl | hp
    · exact .head _
    rcases List.mem_cons.mp hp with rfl | hp
    · exact .tail _ (.head _)
    · exact .tail _ (.tail _ (List.mem_append.mpr (.inl hp)))
  · exact .tail _ (.tail _ (List.mem_append.mpr (.inr hp)))
theorem dayNext {s₁ : Shared} {num n : Int} {i : Nat} {t : Tok} {us refs nv : List Value} {r r' Ra : Addr} {kr kR k9 kn : Nat} {tl rest own : List (Addr × Obj)} {m' m₀ : Str → Option Value} {h' : Heap} {tk : Nat}
    (hc : (num + (1 + (i : Int))).fmod 7 = 6 ∨ (1 + (i : Int)) = n) (hlen : refs.length ≤ i) (hne : @Ne Nat Ra r) (h1 : ∀ p ∈ tl ++ rest ++ own, @Ne Nat p.1 r) (h2 : ∀ p ∈ tl ++ rest ++ own, @Ne Nat p.1 Ra) (hus : DatAll [] us (st num n i).2) (hrefs : DatAll tl refs (st num n i).1)
    (hoff : OwnOff own (((r, W.listOf (List.toArray us) kr) :: (Ra, W.listOf (List.toArray refs) kR) :: (tl ++ rest)).map (·.1)))
    (F : Fr h₀ L h' m') (N : News h₀ L h' ((r', W.listOf nv.toArray kn) :: (r, W.listOf (us.set ((num + (1 + (i : Int))).fmod 7).toNat (.int (1 + (i : Int)) t)).toArray kr) :: (Ra, W.listOf (refs.toArray.push (.ref r)) k9) :: (tl ++ rest ++ own)))
    (l : ∀ p ∈ ((r, W.listOf (us.set ((num + (1 + (i : Int))).fmod 7).toNat (.int (1 + (i : Int)) t)).toArray kr) :: (Ra, W.listOf (refs.toArray.push (.ref r)) k9) :: (tl ++ rest ++ own)), p.1 < r') (hnv : DatAll [] nv (List.replicate 7 Dat.none))
    (hrow : m' (Str.ofString "row") = some (.ref r')) (hz : ∀ z, z ≠ Str.ofString "day" → z ≠ Str.ofString "column" → z ≠ Str.ofString "row" → m' z = m₀ z) :
    InvEndG h₀ L (DayJ num n rest Ra m₀ (i + 1)) own s₁ { s₁ with heap := h', toks := tk } := by
  have lr : @LT.lt Nat _ r r' := l _ (.head _)
  have lR : @LT.lt Nat _ Ra r' := l _ (.tail _ (.head _))
  have lo : ∀ p ∈ tl ++ rest ++ own, @LT.lt Nat _ p.1 r' := fun p hp => l p (.tail _ (.tail _ hp))
  have ep : refs.toArray.push (.ref r) = (refs ++ [Value.ref r]).toArray := List.push_toArray ..
  rw [ep] at N
  refine InvEndG.intro F N ⟨nv, refs ++ [.ref r], r', kn, k9, (r, W.listOf (us.set ((num + (1 + (i : Int))).fmod 7).toNat (.int (1 + (i : Int)) t)).toArray kr) :: tl, rfl, ?_, ?_, ?_, Nat.ne_of_lt lR, fun p hp => ?_, hrow, hz⟩ ?_ (fun p hp => ?_) (fun p hp => ?_)
  · rw [stNext hc]
    exact hnv
  · rw [stNext hc]
    refine DatAll.append (hrefs.mono fun p hp => .tail _ hp) (.cons (.list (.head _) (DatAll.mono (news := []) (fun p hp => by cases hp) (datSet (.int _ _) _ hus))) .nil)
  · rw [List.length_append, List.length_singleton]
    exact Nat.succ_le_succ hlen
  · rcases List.mem_cons.mp hp with rfl | hp
    · exact ⟨Nat.ne_of_lt lr, fun e => hne e.symm⟩
    · exact ⟨Nat.ne_of_lt (lo p (List.mem_append.mpr (.inl hp))), h2 p (List.mem_append.mpr (.inl hp))⟩
  · intro p hp b hb
    simp only [List.map_cons, List.cons_append, List.mem_cons] at hb
    rcases hb with rfl | rfl | rfl | hb
    · exact Nat.ne_of_lt (lo p (List.mem_append.mpr (.inr hp)))
    · exact hoff p hp _ (.tail _ (.head _))
    · exact hoff p hp _ (.head _)
    · exact hoff p hp _ (.tail _ (.tail _ hb))
  · rcases List.mem_cons.mp hp with rfl | hp
    · exact .head _
    rcases List.mem_cons.mp hp with rfl | hp
    · exact .tail _ (.tail _ (.head _))
    rcases List.mem_cons.mp hp with rfl | hp
    · exact .tail _ (.head _)
    · exact .tail _ (.tail _ (.tail _ (List.mem_append.mpr (.inl hp))))
  · exact .tail _ (.tail _ (.tail _ (List.mem_append.mpr (.inr hp))))
theorem rowSet {Q : Unit → Shared → Prop} {D : Addr} {vs : List Value} {n : Nat} {k : Int} {t : Tok} {v : Value} {nx : List (Addr × Obj)} (F : Fr h₀ L s.heap m) (N : News h₀ L s.heap ((D, W.listOf vs.toArray n) :: nx)) (hne : ∀ p ∈ nx, @Ne Nat p.1 D) (h0 : 0 ≤ k) (h1 : k < vs.length) (hfit : k < 2 ^ 63)
    (h : ∀ h', Fr h₀ L h' m → News h₀ L h' ((D, W.listOf (vs.set k.toNat v).toArray n) :: nx) → Q () { s with heap := h' }) :
    wpAny (model prog w) A (setItem (.ref D) (.int k t) v) Q E s := by
  have z := N _ (.head _)
  have hs : vs.toArray.size = vs.length := List.size_toArray
  refine ki_setAt z.1 h0 hfit (by omega) (h _ (F.change (Heap.SameBut.update ..) z.2.1 z.2.2) (ki_turn (pre := []) _ N (fun _ hp => nomatch hp) hne ?_ ?_))
  · show vs.toArray.setIfInBounds k.toNat v = (vs.set k.toNat v).toArray
    apply Array.toList_inj.mp
    simp
  · simp
end
end Mine

namespace Mine
theorem topOffLaw : (1 : Nat) = 1 := by
  w_top off
  walk1
def Mark (P : Prop) : Prop := P
theorem Mark.out {P : Prop} (h : Mark P) : P := h
theorem lensLen {vs : List Value} {k y : Int} (h : IntsAre vs (lensOf k y)) : (((k = 0 ∨ k = 1 ∨ k = 2 ∨ k = 4) ∧ (lensOf k y).length = 12) ∨ (¬ (k = 0 ∨ k = 1 ∨ k = 2 ∨ k = 4) ∧ (lensOf k y).length = 13)) := by
  have q := lensOf_len h
  by_cases c : k = 0 ∨ k = 1 ∨ k = 2 ∨ k = 4
  · rw [if_pos c] at q; exact .inl ⟨c, by omega⟩
  · rw [if_neg c] at q; exact .inr ⟨c, by omega⟩
section
open PySem.Spec PySem.Calls
variable {prog : Program} {w : World} {A : Around} {E : Value → Shared → Prop} {s : Shared} {h₀ : Heap} {L : Addr} {m : Str → Option Value}
theorem absFront {G : Prop} {g h : Heap} {base₀ : List (Addr × Obj)} {d : Addr × Obj} (hN : News g L h base₀) (h1 : d ∈ base₀) (k : ∀ base, News g L h (d :: base) → (∀ p ∈ base₀, p ∈ base) → G) : G :=
  k base₀ (fun p hp => hN p (by rcases List.mem_cons.mp hp with rfl | hp; exact h1; exact hp)) (fun _ h => h)
def Joined (h₀ : Heap) (L : Addr) (m : Str → Option Value) (news : List (Addr × Obj)) (x : Str) (P : Int → Prop) (s : Shared) (fl : Flow) (s' : Shared) : Prop :=
  fl = .next ∧ ∃ v t h' tk', s' = { s with heap := h', toks := tk' } ∧ Fr h₀ L h' (fun z => if z = x then some (.int v t) else m z) ∧ News h₀ L h' news ∧ P v
theorem joinedStore {news : List (Addr × Obj)} {x : Str} {P : Int → Prop} {v : Int} {t : Tok} {h' : Heap} {tk' : Nat} (F : Fr h₀ L h' (fun z => if z = x then some (.int v t) else m z)) (N : News h₀ L h' news) (p : P v) : Joined h₀ L m news x P s .next { s with heap := h', toks := tk' } :=
  ⟨rfl, v, t, h', tk', rfl, F, N, p⟩
theorem joinedSame {news : List (Addr × Obj)} {x : Str} {P : Int → Prop} {v : Int} {t : Tok} {h' : Heap} {tk' : Nat} (hm : m x = some (.int v t)) (F : Fr h₀ L h' m) (N : News h₀ L h' news) (p : P v) : Joined h₀ L m news x P s .next { s with heap := h', toks := tk' } := by
  have e : (fun z => if z = x then some (Value.int v t) else m z) = m := by
    funext z
    by_cases h : z = x
    · rw [if_pos h, h]; exact hm.symm
    · rw [if_neg h]
  exact ⟨rfl, v, t, h', tk', rfl, by rw [e]; exact F, N, p⟩
theorem joinInt {x : Str} {P : Int → Prop} {news : List (Addr × Obj)} {stmt : Stmt} {env : Env} {Q : Flow → Shared → Prop} (h1 : wpAny (model prog w) A (exec stmt env) (fun fl s' => Joined h₀ L m news x P s fl s') E s)
    (h2 : ∀ v t h' tk', P v → Fr h₀ L h' (fun z => if z = x then some (.int v t) else m z) → News h₀ L h' news → Q .next { s with heap := h', toks := tk' }) : wpAny (model prog w) A (exec stmt env) Q E s := by
  refine wpAny_mono h1 (fun fl s' q => ?_) fun _ _ z => z
  obtain ⟨rfl, v, t, h', tk', rfl, F, N, p⟩ := q
  exact h2 v t h' tk' p F N
theorem joinYear5 {k : Int} {news : List (Addr × Obj)} {stmt : Stmt} {env : Env} {Q : Flow → Shared → Prop} (_k7 : k < 7) (_F : Fr h₀ L s.heap m) (_N : News h₀ L s.heap news) (h1 : wpAny (model prog w) A (exec stmt env) (fun fl s' => Joined h₀ L m news (Str.ofString "year") (fun v => k = 5 → 1 ≤ v) s fl s') E s)
    (h2 : ∀ v t h' tk', (k = 5 → 1 ≤ v) → Fr h₀ L h' (fun z => if z = Str.ofString "year" then some (.int v t) else m z) → News h₀ L h' news → Q .next { s with heap := h', toks := tk' }) : wpAny (model prog w) A (exec stmt env) Q E s := joinInt h1 h2
theorem joinYear6 {k : Int} {news : List (Addr × Obj)} {stmt : Stmt} {env : Env} {Q : Flow → Shared → Prop} (_k7 : k < 7) (_F : Fr h₀ L s.heap m) (_N : News h₀ L s.heap news) (h1 : wpAny (model prog w) A (exec stmt env) (fun fl s' => Joined h₀ L m news (Str.ofString "year") (fun v => (k = 5 → 1 ≤ v) ∧ (k = 6 → 533 ≤ v)) s fl s') E s)
    (h2 : ∀ v t h' tk', ((k = 5 → 1 ≤ v) ∧ (k = 6 → 533 ≤ v)) → Fr h₀ L h' (fun z => if z = Str.ofString "year" then some (.int v t) else m z) → News h₀ L h' news → Q .next { s with heap := h', toks := tk' }) : wpAny (model prog w) A (exec stmt env) Q E s := joinInt h1 h2
theorem joinMonth {k yy : Int} {vs : List Value} {news : List (Addr × Obj)} {stmt : Stmt} {env : Env} {Q : Flow → Shared → Prop} (_k7 : k < 7) (_I : IntsAre vs (lensOf k yy)) (_F : Fr h₀ L s.heap m) (_N : News h₀ L s.heap news) (h1 : wpAny (model prog w) A (exec stmt env) (fun fl s' => Joined h₀ L m news (Str.ofString "month") (fun v => 0 ≤ v ∧ v < ((lensOf k yy).length : Int) ∧ (k = 4 → 1 ≤ v)) s fl s') E s)
    (h2 : ∀ v t h' tk', (0 ≤ v ∧ v < ((lensOf k yy).length : Int) ∧ (k = 4 → 1 ≤ v)) → Fr h₀ L h' (fun z => if z = Str.ofString "month" then some (.int v t) else m z) → News h₀ L h' news → Q .next { s with heap := h', toks := tk' }) : wpAny (model prog w) A (exec stmt env) Q E s := joinInt h1 h2
theorem iterDayM {env : Env} {body : List Stmt} {Q : Flow → Shared → Prop} {k yy M : Int} {rg rr Ra : Addr} {t₀ u₀ v₀ : Tok} {k0 k1 : Nat} {m₀ : Str → Option Value} {rest : List (Addr × Obj)} (hd1 : (lensOf k yy).getD M.toNat 0 = (dim k yy M : Int)) (hd3 : dim k yy M ≤ 31) (hh : A.handled = none)
    (hr : IsRange s.heap rg 1 ((lensOf k yy).getD M.toNat 0 + 1) 1 t₀ u₀ v₀) (F : Fr h₀ env.locals s.heap m₀) (N : News h₀ env.locals s.heap ((rr, W.listOf (List.toArray [Value.none, Value.none, Value.none, Value.none, Value.none, Value.none, Value.none]) k0) :: (Ra, W.listOf (List.toArray []) k1) :: rest))
    (l1 : ∀ p ∈ ((Ra, W.listOf (List.toArray []) k1) :: rest), p.1 < rr) (l2 : ∀ p ∈ rest, p.1 < Ra) (hm1 : m₀ (Str.ofString "row") = some (.ref rr))
    (turn : Mark (∀ i t us refs r kr kR tl rst (u : Option Value) h tk own, i < dim k yy M → us.length = 7 → refs.length ≤ i → @Ne Nat Ra r → (∀ p ∈ rst, @Ne Nat p.1 r) → (∀ p ∈ rst, @Ne Nat p.1 Ra) → DatAll [] us (st (ahead k yy M) (dim k yy M : Int) i).2 → DatAll tl refs (st (ahead k yy M) (dim k yy M : Int) i).1 → rst = tl ++ rest ++ own →
      OwnOff own (((r, W.listOf (List.toArray us) kr) :: (Ra, W.listOf (List.toArray refs) kR) :: (tl ++ rest)).map (·.1)) →
      Fr h₀ env.locals h (fun y => if y = Str.ofString "day" then some (.int (1 + (i : Int)) t) else if y = Str.ofString "row" then some (.ref r) else if y = Str.ofString "column" then u else m₀ y) →
      News h₀ env.locals h ((r, W.listOf us.toArray kr) :: (Ra, W.listOf refs.toArray kR) :: rst) →
      wpAny (model prog w) A (execs body env) (InvPostG h₀ env.locals (DayJ (ahead k yy M) (dim k yy M : Int) rest Ra m₀ (i + 1)) own { s with heap := h, toks := tk } Q) E { s with heap := h, toks := tk }))
    (done : Mark (∀ us refs r kr kR tl (u1 u2 : Option Value) h tk, DatAll tl refs (st (ahead k yy M) (dim k yy M : Int) (dim k yy M)).1 →
      Fr h₀ env.locals h (fun y => if y = Str.ofString "day" then u1 else if y = Str.ofString "row" then some (.ref r) else if y = Str.ofString "column" then u2 else m₀ y) →
      News h₀ env.locals h ((r, W.listOf (List.toArray us) kr) :: (Ra, W.listOf (List.toArray refs) kR) :: (tl ++ rest)) → Q .next { s with heap := h, toks := tk })) :
    wpAny (model prog w) A (pyIter (.ref rg)) (fun it s₂ => LoopAtV prog w A h₀ env (Str.ofString "day") body Q E it s₂) E s :=
  iterDay hh hr (by rw [hd1]) hd3 F N (datNones [] 7) l1 l2 hm1 turn done
theorem rowSet7 {Q : Unit → Shared → Prop} {D Ra : Addr} {oR : Obj} {vs : List Value} {n : Nat} {x : Int} {t : Tok} {v : Value} {nx : List (Addr × Obj)} (F : Fr h₀ L s.heap m) (N : News h₀ L s.heap ((D, W.listOf vs.toArray n) :: (Ra, oR) :: nx)) (hu : vs.length = 7) (hR : @Ne Nat Ra D) (hne : ∀ p ∈ nx, @Ne Nat p.1 D)
    (h : ∀ h', Fr h₀ L h' m → News h₀ L h' ((D, W.listOf (vs.set (x.fmod 7).toNat v).toArray n) :: (Ra, oR) :: nx) → Q () { s with heap := h' }) :
    wpAny (model prog w) A (setItem (.ref D) (.int (x.fmod 7) t) v) Q E s := by
  have a1 := fm7lo x
  have a2 := fm7hi x
  exact rowSet F N (List.forall_mem_cons.mpr ⟨hR, hne⟩) a1 (by rw [hu]; exact a2) (by omega) h
theorem rowsApp {Q : Value → Shared → Prop} {r Ra : Addr} {o : Obj} {refs : List Value} {n : Nat} {x : Value} {nx : List (Addr × Obj)} (F : Fr h₀ L s.heap m) (N : News h₀ L s.heap ((r, o) :: (Ra, W.listOf refs.toArray n) :: nx)) (hR : @Ne Nat Ra r) (hne : ∀ p ∈ nx, @Ne Nat p.1 Ra) (hz : refs.length ≤ 1000)
    (h : ∀ h', Fr h₀ L h' m → News h₀ L h' ((r, o) :: (Ra, W.listOf (refs.toArray.push x) (n + 1)) :: nx) → Q .none { s with heap := h' }) :
    wpAny (model prog w) A (call (.builtin "list.append") [.ref Ra, x]) Q E s :=
  append_K F N (Upd.tail (fun e => hR e.symm) (Upd.head hne)) h (by rw [sizeLine_eq, List.size_toArray]; omega)
theorem neSame {a : Int} {t u : Tok} {Q : Value → Shared → Prop} (h : Q (.bool false) s) : wpAny (model prog w) A (compareOp .NotEq (.int a t) (.int a u)) Q E s := ne_int (by simpa using h)
theorem itemLens2 {value slice : PySem.Expr} {D r Ra : Addr} {o oR : Obj} {vs : List Value} {ns : List Int} {n : Nat} {k : Int} {u : Tok} {nx : List (Addr × Obj)} {Q : Value → Shared → Prop} (N : News h₀ L s.heap ((r, o) :: (Ra, oR) :: nx)) (hm : (D, W.listOf vs.toArray n) ∈ nx) (hi : IntsAre vs ns) (h0 : 0 ≤ k) (h1 : k < (ns.length : Int)) (hz : ns.length ≤ 13)
    (h : ∀ t, Q (.int (ns.getD k.toNat 0) t) s) (hs : subscripted slice false (.ref D) (.int k u) = operate [.ref D, .int k u] (getItem (.ref D) (.int k u))) :
    wpAny (model prog w) A (subscriptTail value slice (.ref D) (.int k u)) Q E s :=
  ksa_sub N (.tail _ (.tail _ hm)) hi h0 h1 (by omega) h hs
theorem memOf {vs : List Value} {ns : List Int} {tl rest own rst : List (Addr × Obj)} (_hI : IntsAre vs ns) (e : rst = tl ++ rest ++ own) {D : Addr} {n : Nat} (hm : (D, W.listOf vs.toArray n) ∈ rest) : (D, W.listOf vs.toArray n) ∈ rst := by
  rw [e]
  exact List.mem_append.mpr (.inl (List.mem_append.mpr (.inr hm)))
theorem lenLens {news : List (Addr × Obj)} {D : Addr} {vs : List Value} {kl : Nat} {k y : Int} {Q : Value → Shared → Prop} (N : News h₀ L s.heap news) (hm : (D, W.listOf vs.toArray kl) ∈ news) (hT : IntsAre vs (lensOf k y))
    (h : Q (.int ((lensOf k y).length : Int) (s.toks + 1)) { s with toks := s.toks + 1 + 1 }) : wpAny (model prog w) A (call (.builtin "len") [.ref D]) Q E s := by
  have hl := hT.length
  have q := lensLen hT
  refine len_list (items := vs.toArray) (News.isList N hm) (by rw [List.size_toArray, hl]; omega) ?_
  rw [List.size_toArray, hl]
  exact h
theorem modPos {x d : Int} {u v : Tok} {Q : Value → Shared → Prop} (hd : 0 < d) (h : ∀ r t, 0 ≤ r → r < d → Q (.int r t) { s with toks := s.toks + 1 }) : wpAny (model prog w) A (binaryOp .Mod (.int x u) (.int d v)) Q E s := by
  refine mod_int' (by omega) ?_
  refine h _ _ ?_ ?_
  · rw [fmE _ (by omega)]; exact Int.emod_nonneg _ (by omega)
  · rw [fmE _ (by omega)]; exact Int.emod_lt_of_pos _ hd
theorem itemLens {value slice : PySem.Expr} {D : Addr} {vs : List Value} {ns : List Int} {n : Nat} {k : Int} {u : Tok} {news : List (Addr × Obj)} {Q : Value → Shared → Prop} (N : News h₀ L s.heap news) (hm : (D, W.listOf vs.toArray n) ∈ news) (hi : IntsAre vs ns) (h0 : 0 ≤ k) (h1 : k < (ns.length : Int)) (hz : ns.length ≤ 13)
    (h : ∀ t, Q (.int (ns.getD k.toNat 0) t) s) (hs : subscripted slice false (.ref D) (.int k u) = operate [.ref D, .int k u] (getItem (.ref D) (.int k u))) :
    wpAny (model prog w) A (subscriptTail value slice (.ref D) (.int k u)) Q E s :=
  ksa_sub N hm hi h0 h1 (by omega) h hs
end
local macro_rules | `(tactic| walk_at "call ref") => `(tactic| (k_here; (with_reducible show wpAny _ _ (call (Value.ref 250) _) _ _ _); k_dflt (refine' cut_year ?kB ?kF ?kX ?kN ?kT ?kK ?kd ?ku ?kp0 ?kp1 ?_; (case kB => k_asm); (case kF => k_asm); (case kX => k_asm); (case kN => k_asm); (case kT => k_asm); (case kK => first | exact rfl | assumption); (case kd => first | omega | ktr_room); (case ku => first | omega | ktr_units); (case kp0 => omega); (case kp1 => omega); k_whole; intro T9 l9 h9 tk9 t9 vs9 kl9 F9 N9 hI9; (have hL9 := lensLen hI9); (try dsimp only); (try k_fold))))
local macro_rules | `(tactic| walk_at "call ref") => `(tactic| (k_here; (with_reducible show wpAny _ _ (call (Value.ref 257) _) _ _ _); k_dflt (refine' cut_lenM ?kB ?kF ?kX ?kN ?kT ?kK ?kd ?ku ?kp0 ?_; (case kB => k_asm); (case kF => k_asm); (case kX => k_asm); (case kN => k_asm); (case kT => k_asm); (case kK => first | exact rfl | assumption); (case kd => first | omega | ktr_room); (case ku => first | omega | ktr_units); (case kp0 => exact ⟨by omega, by omega, by omega, by omega, by omega, by omega, by omega, by omega⟩); k_whole; intro t9 h9 tk9 F9 N9 hd1 hd2 hd3; (try dsimp only); (try k_fold))))
local macro_rules | `(tactic| walk_at "call ref") => `(tactic| (k_here; (with_reducible show wpAny _ _ (call (Value.ref 264) _) _ _ _); k_dflt (refine' cut_leafM ?kB ?kF ?kX ?kN ?kT ?kK ?kd ?ku ?kp0 ?_; (case kB => k_asm); (case kF => k_asm); (case kX => k_asm); (case kN => k_asm); (case kT => k_asm); (case kK => first | exact rfl | assumption); (case kd => first | omega | ktr_room); (case ku => first | omega | ktr_units); (case kp0 => exact ⟨by omega, by omega, by omega, by omega, by omega, by omega, by omega, by omega⟩); k_whole; intro D9 h9 tk9 tl9 ys9 F9 N9 dat9 ok9; (try dsimp only); (try k_fold))))
local macro_rules | `(tactic| walk_at "exec For Name Call cons nil") => `(tactic| (k_here; (rename Fr _ _ _ _ => lF'); (k_dflt (with_unfolding_all refine' For_invVF lF' ?k1 ?k2 ?_; (case k1 => exact rfl); (case k2 => exact rfl); k_whole))))
local macro_rules | `(tactic| walk_at "pyIter ref") => `(tactic| (k_here; (with_reducible show wpAny _ _ (pyIter (Value.ref _)) (fun it s₂ => LoopAtV _ _ _ _ _ (Str.ofString "kind") _ _ _ it s₂) _ _); k_dflt (refine' iterKind [Str.ofString "year", Str.ofString "number", Str.ofString "lengths", Str.ofString "month", Str.ofString "rows", Str.ofString "row", Str.ofString "day", Str.ofString "column"] ?h ?r ?F ?N (fun k' t' u' h' tk' own' k0' k7' F' N' => Mark.out ?_) (fun u' h' tk' F' N' => ?_); (case h => exact rfl); (case r => assumption); (case F => k_asm); (case N => k_asm)); (all_goals (try dsimp only)); (all_goals (try k_fold))))
local macro_rules | `(tactic| walk_at "pyIter ref") => `(tactic| (k_here; (with_reducible show wpAny _ _ (pyIter (Value.ref _)) (fun it s₂ => LoopAtV _ _ _ _ _ (Str.ofString "day") _ _ _ it s₂) _ _); k_dflt (refine' iterDayM ?d1 ?d3 ?h ?r ?F ?N ?l1 ?l2 ?m1 ?_ ?_; (case d1 => assumption); (case d3 => assumption); (case h => exact rfl); (case r => assumption); (case F => k_asm); (case N => k_asm); (case l1 => assumption); (case l2 => assumption); (case m1 => exact rfl))))
local macro_rules | `(tactic| walk_at "exec If") => `(tactic| (k_here; (with_reducible show wpAny _ _ (exec (Stmt.If (PySem.Expr.Compare (PySem.Expr.Name (Str.ofString "kind") _) _ [PySem.Expr.Constant (PySem.Const.int 5) _ _] _) _ _ _) _) _ _ _); (fail_if_success (with_reducible show wpAny _ _ _ (fun fl s' => Joined _ _ _ _ _ _ _ fl s') _ _)); k_dflt (refine' joinYear5 ?k ?F ?N ?_ (fun v' t' h' tk' p' F' N' => ?_); (case k => assumption); (case F => k_asm); (case N => k_asm)); (all_goals (try dsimp only)); (all_goals (try k_fold))))
local macro_rules | `(tactic| walk_at "exec If") => `(tactic| (k_here; (with_reducible show wpAny _ _ (exec (Stmt.If (PySem.Expr.Compare (PySem.Expr.Name (Str.ofString "kind") _) _ [PySem.Expr.Constant (PySem.Const.int 6) _ _] _) _ _ _) _) _ _ _); (fail_if_success (with_reducible show wpAny _ _ _ (fun fl s' => Joined _ _ _ _ _ _ _ fl s') _ _)); k_dflt (refine' joinYear6 ?k ?F ?N ?_ (fun v' t' h' tk' p' F' N' => ?_); (case k => assumption); (case F => k_asm); (case N => k_asm)); (all_goals (try dsimp only)); (all_goals (try k_fold))))
local macro_rules | `(tactic| walk_at "exec If") => `(tactic| (k_here; (with_reducible show wpAny _ _ (exec (Stmt.If (PySem.Expr.BoolOp PySem.BoolOp.And _ _) _ _ _) _) _ _ _); (fail_if_success (with_reducible show wpAny _ _ _ (fun fl s' => Joined _ _ _ _ _ _ _ fl s') _ _)); k_dflt (refine' joinMonth ?k ?I ?F ?N ?_ (fun v' t' h' tk' p' F' N' => ?_); (case k => assumption); (case I => assumption); (case F => k_asm); (case N => k_asm)); (all_goals (try dsimp only)); (all_goals (try k_fold))))
local macro_rules | `(tactic| walk_at "Joined") => `(tactic| (k_dflt (first | (refine joinedStore (by k_asm) (by k_asm) ?_) | (refine joinedSame (by rfl) (by k_asm) (by k_asm) ?_)); (try dsimp only); first | omega | (intros; split <;> omega) | (refine ⟨?_, ?_⟩ <;> intros <;> first | omega | (split <;> omega))))
local macro_rules | `(tactic| walk_at "setItem ref int") => `(tactic| (k_here; (with_reducible show wpAny _ _ (setItem (Value.ref _) (Value.int (Int.fmod _ _) _) (Value.int _ _)) _ _ _); k_dflt (refine' rowSet7 ?F ?N ?u ?R ?ne ?_; (case F => k_asm); (case N => k_asm); (case u => assumption); (case R => assumption); (case ne => assumption); k_whole); intro h' F' N'))
local macro_rules | `(tactic| walk_at "call builtin:list.append") => `(tactic| (k_here; (with_reducible show wpAny _ _ (call (Value.builtin _) [Value.ref _, _]) _ _ _); k_dflt (refine' rowsApp ?F ?N ?R ?ne ?z ?_; (case F => k_asm); (case N => k_asm); (case R => assumption); (case ne => assumption); (case z => omega); k_whole); intro h' F' N'))
local macro_rules | `(tactic| walk_at "InvPostG") => `(tactic| refine Mark.out ?_)
local macro_rules | `(tactic| walk_at "InvPostN") => `(tactic| refine Mark.out ?_)
local macro_rules | `(tactic| walk_at "compareOp NotEq ref ref") => `(tactic| (k_here; (with_reducible show wpAny _ _ (compareOp CmpOp.NotEq (Value.ref _) (Value.ref _)) _ _ _); k_dflt (refine' leafNe ?N ?d1 ?d2 ?ok ?u ?_; (case N => k_asm); (case d1 => assumption); (case d2 => assumption); (case ok => assumption); (case u => ke_room); k_whole)))
local macro_rules | `(tactic| walk_at "compareOp NotEq int int") => `(tactic| (with_reducible refine neSame ?_))
local macro_rules | `(tactic| walk_at "newList") => `(tactic| (k_here; k_dflt (refine' newList_K ?k1 ?k2 ?_; (case k1 => k_asm); (case k2 => k_asm); k_whole); intro l' h' F' N' l1))
local macro_rules | `(tactic| k_all) => `(tactic| assumption)
local macro_rules | `(tactic| walk_at "call builtin:len") => `(tactic| (k_here; (with_reducible show wpAny _ _ (call (Value.builtin "len") [Value.ref _]) _ _ _); k_dflt (refine' lenLens ?N ?m ?t ?_; (case N => k_asm); (case m => k_mem); (case t => assumption); k_whole)))
local macro_rules | `(tactic| walk_at "binaryOp Mod int int") => `(tactic| (k_here; (with_reducible show wpAny _ _ (binaryOp _ (Value.int _ _) (Value.int (((List.length _ : Nat) : Int)) _)) _ _ _); k_dflt (refine' modPos ?d ?_; (case d => omega)); intro r' tr' rlo' rhi'))
local macro_rules | `(tactic| walk_at "subscriptTail Name Name ref int") => `(tactic| (k_here; (with_reducible show wpAny _ _ (subscriptTail _ _ (Value.ref _) (Value.int _ _)) _ _ _); k_dflt (first
  | (refine' itemLens2 ?k1 ?k2 ?k3 ?k4 ?k5 ?k6 ?_ ?k7; (case k1 => with_reducible assumption); (case k2 => with_reducible assumption); (case k3 => with_reducible assumption); (case k4 => omega); (case k5 => omega); (case k6 => omega); (case k7 => with_unfolding_all rfl); k_whole)
  | (refine' itemLens ?k1 ?k2 ?k3 ?k4 ?k5 ?k6 ?_ ?k7; (case k1 => k_asm); (case k2 => k_mem); (case k3 => with_reducible assumption); (case k4 => omega); (case k5 => omega); (case k6 => omega); (case k7 => with_unfolding_all rfl); k_whole)); intro _))

theorem law : PySem.Challenge.rw_jb0011_01.Holds := hd (by rfl) (by rfl) (by rfl) (by
  k_fill
  intro w9 s8 s9 mg9 mb9 G9 Y9 fa9 o9 pm9 cd9 doc9 dV9 kV9 ho9 hd9 hcd9 hD9 hmg9 hg9 args9 vals9 as9 hpre9 hlay9 hrd9 hwl9 hlo9
  have KX9 := kIn_of Y9
  have X9 := (Ground.X G9).1
  have V9 := (Ground.X G9).2
  have GL9 := glob_more (Ground.glob G9 (by decide +kernel) (by decide +kernel)) V9
  refine Ground.open G9 ?_
  intro T9 B9 D9 TE9 TW9
  try (refine guard_noD D9 (by decide +kernel) ?_; clear D9)
  obtain ⟨_, _, M9⟩ := bmod_of_top T9
  have TA9 := at_of_top T9
  try (obtain ⟨_, _, he9, B09⟩ := based_of_top T9 rfl hmg9 ho9 hd9; have he8 : cd9 = _ := he9; subst he8; clear he9)
  clear hmg9
  wrow_args hpre9 hlay9 hrd9 hwl9 hlo9
  first | refine callC_kw (enter_call ?_) | refine enter_call ?_
  w_top off
  try refine codeAny_mono ?_ (fun _ _ g => GoodW.toG g)
  have K09 := below_caller (Top.heap T9)
  w_call any ho9 hd9 hcd9 hD9 T9 F9
  clear hd9 TA9
  k_drop
  all_goals try k_fold
  k_steps
  unfold Mark
  rename News _ _ _ _ => hN
  refine absFront hN (List.mem_append.mpr (.inl (.head _))) ?_
  clear hN
  intro base hN hsub
  k_steps
  · unfold Mark
    intro i t us refs r kr kR tl rst u h tk own hi hu7 hlen hne hn1 hn2 hus hrefs hrst hoff F5 N5
    with_reducible rename IntsAre _ (lensOf _ _) => hI9
    with_reducible rename (List.getD (lensOf _ _) _ _ = ((dim _ _ _ : Nat) : Int)) => hd1
    have hl9 := memOf hI9 hrst (by k_mem)
    try k_fold
    k_steps
    all_goals unfold Mark
    all_goals dsimp only [InvPostG]
    all_goals subst hrst
    · exact dayNext (.inl (by assumption)) hlen hne hn1 hn2 hus hrefs hoff (by k_asm) (by k_asm) (by assumption) (datNones [] 7) (by with_unfolding_all rfl) (fun z h1 h2 h3 => by simp [h1, h2, h3])
    · exact dayNext (.inr (Eq.trans (by assumption) hd1)) hlen hne hn1 hn2 hus hrefs hoff (by k_asm) (by k_asm) (by assumption) (datNones [] 7) (by with_unfolding_all rfl) (fun z h1 h2 h3 => by simp [h1, h2, h3])
    · exact dayStay (fun h => h.elim (fun h => absurd h (by assumption)) (fun h => absurd (h.trans hd1.symm) (by assumption))) hlen hne hn1 hn2 hus hrefs hoff (by k_asm) (by k_asm) (by with_unfolding_all rfl) (fun z h1 h2 h3 => by simp [h1, h2, h3])
  · unfold Mark
    intro us refs r kr kR tl u1 u2 h tk hrefs F5 N5
    try k_fold
    try dsimp only
    k_steps
    all_goals unfold Mark
    all_goals dsimp only [InvPostN]
    refine InvEndN.intro (by k_asm) (by k_asm) ⟨rfl, ?_⟩ rfl ?_ ?_
    · intro z h1 h2
      simp only [List.contains_cons, List.contains_nil, Bool.or_eq_false_iff, beq_eq_false_iff_ne, ne_eq, and_true] at h2
      obtain ⟨a1, a2, a3, a4, a5, a6, a7, a8⟩ := h2
      simp [h1, a1, a2, a3, a4, a5, a6, a7, a8]
    · intro p hp
      have q := hsub p (List.mem_append.mpr (.inl hp))
      simp [q]
    · intro p hp
      have q := hsub p (List.mem_append.mpr (.inr hp))
      simp [q])
end Mine

theorem PySem.Challenge.cw_jb0011_01_holds : PySem.Challenge.rw_jb0011_01.Holds := by
  exact Mine.law
