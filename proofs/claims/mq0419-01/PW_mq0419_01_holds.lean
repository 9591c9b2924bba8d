import PyProof.Rows.All
import Wide.All
import OpenK.AllK
import Wide.FinOn
import Lean
import PySem.Challenge.RW_mq0419_01
set_option Elab.async false
set_option linter.unusedVariables false
set_option maxRecDepth 100000
namespace Mine
open PySem PySem.W PyProof.Rows
/-- the i-th statement of the program's text, a def, as the object that it leaves -/
noncomputable def fnD (i : Nat) (pm dv : Value) (code : Addr) : FuncData := match PySem.Challenge.pw_mq0419_01.main.body[i]? with
  | some (.FunctionDef n ps body _ _ _ sc _ _ _) => { name := n, qualname := n, params := ps, body := .stmts body, scope := sc, globals := 3, closure := [], defaults := dv, kwdefaults := .none, pyModule := pm, code := .ref code }
  | _ => default
/-- what the top leaves: its defs, their codes, the tables -/
noncomputable def hd.heap_39 : Params → Frag := fun P => [
  (3, { cls := .type "dict", data := .dict #[{ hash := PyData.keyHash P (Str.ofString "__name__"), key := .str (Str.ofString "__name__") 165, val := .str (Str.ofString "law_mq0419_01") 438 }, { hash := PyData.keyHash P (Str.ofString "__doc__"), key := .str (Str.ofString "__doc__") 166, val := .none }, { hash := PyData.keyHash P (Str.ofString "__package__"), key := .str (Str.ofString "__package__") 167, val := .none }, { hash := PyData.keyHash P (Str.ofString "__loader__"), key := .str (Str.ofString "__loader__") 168, val := .builtin "__main__.__loader__#opaque" }, { hash := PyData.keyHash P (Str.ofString "__spec__"), key := .str (Str.ofString "__spec__") 169, val := .none }, { hash := PyData.keyHash P (Str.ofString "__annotations__"), key := .str (Str.ofString "__annotations__") 170, val := .ref 6 }, { hash := PyData.keyHash P (Str.ofString "__builtins__"), key := .str (Str.ofString "__builtins__") 171, val := .ref 4 }, { hash := PyData.keyHash P (Str.ofString "__file__"), key := .str (Str.ofString "__file__") 173, val := .str (Str.ofString "/claim/cut.py") 172 }, { hash := PyData.keyHash P (Str.ofString "__cached__"), key := .str (Str.ofString "__cached__") 174, val := .none }, { hash := PyData.keyHash P (Str.ofString "_monthnames"), key := .str (Str.ofString "_monthnames") 213, val := .ref 15 }, { hash := PyData.keyHash P (Str.ofString "_daynames"), key := .str (Str.ofString "_daynames") 221, val := .ref 16 }, { hash := PyData.keyHash P (Str.ofString "_timezones"), key := .str (Str.ofString "_timezones") 274, val := .ref 17 }, { hash := PyData.keyHash P (Str.ofString "parsedate_tz"), key := .str (Str.ofString "parsedate_tz") 282, val := .ref 24 }, { hash := PyData.keyHash P (Str.ofString "_parsedate_tz"), key := .str (Str.ofString "_parsedate_tz") 302, val := .ref 31 }, { hash := PyData.keyHash P (Str.ofString "parsedate"), key := .str (Str.ofString "parsedate") 310, val := .ref 38 }, { hash := PyData.keyHash P (Str.ofString "_format_timetuple_and_zone"), key := .str (Str.ofString "_format_timetuple_and_zone") 320, val := .ref 45 }, { hash := PyData.keyHash P (Str.ofString "heappush"), key := .str (Str.ofString "heappush") 330, val := .ref 52 }, { hash := PyData.keyHash P (Str.ofString "heappop"), key := .str (Str.ofString "heappop") 339, val := .ref 59 }, { hash := PyData.keyHash P (Str.ofString "heapreplace"), key := .str (Str.ofString "heapreplace") 348, val := .ref 66 }, { hash := PyData.keyHash P (Str.ofString "heapify"), key := .str (Str.ofString "heapify") 357, val := .ref 73 }, { hash := PyData.keyHash P (Str.ofString "_heapreplace_max"), key := .str (Str.ofString "_heapreplace_max") 366, val := .ref 80 }, { hash := PyData.keyHash P (Str.ofString "_heapify_max"), key := .str (Str.ofString "_heapify_max") 375, val := .ref 87 }, { hash := PyData.keyHash P (Str.ofString "_siftdown"), key := .str (Str.ofString "_siftdown") 387, val := .ref 94 }, { hash := PyData.keyHash P (Str.ofString "_siftup"), key := .str (Str.ofString "_siftup") 400, val := .ref 101 }, { hash := PyData.keyHash P (Str.ofString "_siftdown_max"), key := .str (Str.ofString "_siftdown_max") 412, val := .ref 108 }, { hash := PyData.keyHash P (Str.ofString "_siftup_max"), key := .str (Str.ofString "_siftup_max") 425, val := .ref 115 }, { hash := PyData.keyHash P (Str.ofString "nsmallest"), key := .str (Str.ofString "nsmallest") 431, val := .ref 121 }, { hash := PyData.keyHash P (Str.ofString "nlargest"), key := .str (Str.ofString "nlargest") 437, val := .ref 127 }, { hash := PyData.keyHash P (Str.ofString "_law_cells"), key := .str (Str.ofString "_law_cells") 450, val := .ref 134 }, { hash := PyData.keyHash P (Str.ofString "_law_letters"), key := .str (Str.ofString "_law_letters") 456, val := .ref 139 }, { hash := PyData.keyHash P (Str.ofString "_law_zone"), key := .str (Str.ofString "_law_zone") 463, val := .ref 146 }, { hash := PyData.keyHash P (Str.ofString "_law_by_letters"), key := .str (Str.ofString "_law_by_letters") 472, val := .ref 153 }, { hash := PyData.keyHash P (Str.ofString "_law_by_time"), key := .str (Str.ofString "_law_by_time") 479, val := .ref 160 }, { hash := PyData.keyHash P (Str.ofString "law"), key := .str (Str.ofString "law") 485, val := .ref 165 }] 34 }),
  (15, { cls := .type "list", data := .seq #[.str (Str.ofString "jan") 189, .str (Str.ofString "feb") 190, .str (Str.ofString "mar") 191, .str (Str.ofString "apr") 192, .str (Str.ofString "may") 193, .str (Str.ofString "jun") 194, .str (Str.ofString "jul") 195, .str (Str.ofString "aug") 196, .str (Str.ofString "sep") 197, .str (Str.ofString "oct") 198, .str (Str.ofString "nov") 199, .str (Str.ofString "dec") 200, .str (Str.ofString "january") 201, .str (Str.ofString "february") 202, .str (Str.ofString "march") 203, .str (Str.ofString "april") 204, .str (Str.ofString "may") 205, .str (Str.ofString "june") 206, .str (Str.ofString "july") 207, .str (Str.ofString "august") 208, .str (Str.ofString "september") 209, .str (Str.ofString "october") 210, .str (Str.ofString "november") 211, .str (Str.ofString "december") 212] }),
  (16, { cls := .type "list", data := .seq #[.str (Str.ofString "mon") 214, .str (Str.ofString "tue") 215, .str (Str.ofString "wed") 216, .str (Str.ofString "thu") 217, .str (Str.ofString "fri") 218, .str (Str.ofString "sat") 219, .str (Str.ofString "sun") 220] }),
  (17, { cls := .type "dict", data := .dict #[{ hash := PyData.keyHash P (Str.ofString "UT"), key := .str (Str.ofString "UT") 222, val := .int 0 223 }, { hash := PyData.keyHash P (Str.ofString "UTC"), key := .str (Str.ofString "UTC") 224, val := .int 0 225 }, { hash := PyData.keyHash P (Str.ofString "GMT"), key := .str (Str.ofString "GMT") 226, val := .int 0 227 }, { hash := PyData.keyHash P (Str.ofString "Z"), key := .str (Str.ofString "Z") 228, val := .int 0 229 }, { hash := PyData.keyHash P (Str.ofString "AST"), key := .str (Str.ofString "AST") 230, val := .int (-400) 232 }, { hash := PyData.keyHash P (Str.ofString "ADT"), key := .str (Str.ofString "ADT") 233, val := .int (-300) 235 }, { hash := PyData.keyHash P (Str.ofString "EST"), key := .str (Str.ofString "EST") 236, val := .int (-500) 238 }, { hash := PyData.keyHash P (Str.ofString "EDT"), key := .str (Str.ofString "EDT") 239, val := .int (-400) 241 }, { hash := PyData.keyHash P (Str.ofString "CST"), key := .str (Str.ofString "CST") 242, val := .int (-600) 244 }, { hash := PyData.keyHash P (Str.ofString "CDT"), key := .str (Str.ofString "CDT") 245, val := .int (-500) 247 }, { hash := PyData.keyHash P (Str.ofString "MST"), key := .str (Str.ofString "MST") 248, val := .int (-700) 250 }, { hash := PyData.keyHash P (Str.ofString "MDT"), key := .str (Str.ofString "MDT") 251, val := .int (-600) 253 }, { hash := PyData.keyHash P (Str.ofString "PST"), key := .str (Str.ofString "PST") 254, val := .int (-800) 256 }, { hash := PyData.keyHash P (Str.ofString "PDT"), key := .str (Str.ofString "PDT") 257, val := .int (-700) 259 }] 14 }),
  (23, { cls := .type "code", data := .fields #[.str (Str.ofString "parsedate_tz") 275, .str (Str.ofString "parsedate_tz") 276, .str (Str.ofString "/claim/cut.py") 277, .int 5 0, .int 1 0, .int 0 0, .int 0 0, .int 3 0, .ref 18, .bool true, .int 181 0, .ref 19, .none, .ref 20, .ref 21, .ref 22, .int 280 0, .int 5 0, .str (Str.ofString "/claim/cut.py") 281] }),
  (24, { cls := .type "function", data := .func (fnD 4 (.str (Str.ofString "cpy313.email._parseaddr") 187) (.none) 23) }),
  (30, { cls := .type "code", data := .fields #[.str (Str.ofString "_parsedate_tz") 283, .str (Str.ofString "_parsedate_tz") 284, .str (Str.ofString "/claim/cut.py") 285, .int 12 0, .int 1 0, .int 0 0, .int 0 0, .int 3 0, .ref 25, .bool true, .int 181 0, .ref 26, .none, .ref 27, .ref 28, .ref 29, .int 300 0, .int 12 0, .str (Str.ofString "/claim/cut.py") 301] }),
  (31, { cls := .type "function", data := .func (fnD 5 (.str (Str.ofString "cpy313.email._parseaddr") 187) (.none) 30) }),
  (37, { cls := .type "code", data := .fields #[.str (Str.ofString "parsedate") 303, .str (Str.ofString "parsedate") 304, .str (Str.ofString "/claim/cut.py") 305, .int 113 0, .int 1 0, .int 0 0, .int 0 0, .int 3 0, .ref 32, .bool true, .int 181 0, .ref 33, .none, .ref 34, .ref 35, .ref 36, .int 308 0, .int 113 0, .str (Str.ofString "/claim/cut.py") 309] }),
  (38, { cls := .type "function", data := .func (fnD 6 (.str (Str.ofString "cpy313.email._parseaddr") 187) (.none) 37) }),
  (44, { cls := .type "code", data := .fields #[.str (Str.ofString "_format_timetuple_and_zone") 313, .str (Str.ofString "_format_timetuple_and_zone") 314, .str (Str.ofString "/claim/cut.py") 315, .int 120 0, .int 2 0, .int 0 0, .int 0 0, .int 3 0, .ref 39, .bool true, .int 181 0, .ref 40, .none, .ref 41, .ref 42, .ref 43, .int 318 0, .int 120 0, .str (Str.ofString "/claim/cut.py") 319] }),
  (45, { cls := .type "function", data := .func (fnD 8 (.str (Str.ofString "cpy313.email.utils") 311) (.none) 44) }),
  (51, { cls := .type "code", data := .fields #[.str (Str.ofString "heappush") 323, .str (Str.ofString "heappush") 324, .str (Str.ofString "/claim/cut.py") 325, .int 123 0, .int 2 0, .int 0 0, .int 0 0, .int 3 0, .ref 46, .bool true, .int 181 0, .ref 47, .none, .ref 48, .ref 49, .ref 50, .int 328 0, .int 123 0, .str (Str.ofString "/claim/cut.py") 329] }),
  (52, { cls := .type "function", data := .func (fnD 10 (.str (Str.ofString "cpy313.heapq") 321) (.none) 51) }),
  (58, { cls := .type "code", data := .fields #[.str (Str.ofString "heappop") 331, .str (Str.ofString "heappop") 332, .str (Str.ofString "/claim/cut.py") 333, .int 126 0, .int 1 0, .int 0 0, .int 0 0, .int 3 0, .ref 53, .bool true, .int 181 0, .ref 54, .none, .ref 55, .ref 56, .ref 57, .int 337 0, .int 126 0, .str (Str.ofString "/claim/cut.py") 338] }),
  (59, { cls := .type "function", data := .func (fnD 11 (.str (Str.ofString "cpy313.heapq") 321) (.none) 58) }),
  (65, { cls := .type "code", data := .fields #[.str (Str.ofString "heapreplace") 340, .str (Str.ofString "heapreplace") 341, .str (Str.ofString "/claim/cut.py") 342, .int 134 0, .int 2 0, .int 0 0, .int 0 0, .int 3 0, .ref 60, .bool true, .int 181 0, .ref 61, .none, .ref 62, .ref 63, .ref 64, .int 346 0, .int 134 0, .str (Str.ofString "/claim/cut.py") 347] }),
  (66, { cls := .type "function", data := .func (fnD 12 (.str (Str.ofString "cpy313.heapq") 321) (.none) 65) }),
  (72, { cls := .type "code", data := .fields #[.str (Str.ofString "heapify") 349, .str (Str.ofString "heapify") 350, .str (Str.ofString "/claim/cut.py") 351, .int 139 0, .int 1 0, .int 0 0, .int 0 0, .int 3 0, .ref 67, .bool true, .int 181 0, .ref 68, .none, .ref 69, .ref 70, .ref 71, .int 355 0, .int 139 0, .str (Str.ofString "/claim/cut.py") 356] }),
  (73, { cls := .type "function", data := .func (fnD 13 (.str (Str.ofString "cpy313.heapq") 321) (.none) 72) }),
  (79, { cls := .type "code", data := .fields #[.str (Str.ofString "_heapreplace_max") 358, .str (Str.ofString "_heapreplace_max") 359, .str (Str.ofString "/claim/cut.py") 360, .int 143 0, .int 2 0, .int 0 0, .int 0 0, .int 3 0, .ref 74, .bool true, .int 181 0, .ref 75, .none, .ref 76, .ref 77, .ref 78, .int 364 0, .int 143 0, .str (Str.ofString "/claim/cut.py") 365] }),
  (80, { cls := .type "function", data := .func (fnD 14 (.str (Str.ofString "cpy313.heapq") 321) (.none) 79) }),
  (86, { cls := .type "code", data := .fields #[.str (Str.ofString "_heapify_max") 367, .str (Str.ofString "_heapify_max") 368, .str (Str.ofString "/claim/cut.py") 369, .int 148 0, .int 1 0, .int 0 0, .int 0 0, .int 3 0, .ref 81, .bool true, .int 181 0, .ref 82, .none, .ref 83, .ref 84, .ref 85, .int 373 0, .int 148 0, .str (Str.ofString "/claim/cut.py") 374] }),
  (87, { cls := .type "function", data := .func (fnD 15 (.str (Str.ofString "cpy313.heapq") 321) (.none) 86) }),
  (93, { cls := .type "code", data := .fields #[.str (Str.ofString "_siftdown") 376, .str (Str.ofString "_siftdown") 377, .str (Str.ofString "/claim/cut.py") 378, .int 152 0, .int 3 0, .int 0 0, .int 0 0, .int 3 0, .ref 88, .bool true, .int 181 0, .ref 89, .none, .ref 90, .ref 91, .ref 92, .int 385 0, .int 152 0, .str (Str.ofString "/claim/cut.py") 386] }),
  (94, { cls := .type "function", data := .func (fnD 16 (.str (Str.ofString "cpy313.heapq") 321) (.none) 93) }),
  (100, { cls := .type "code", data := .fields #[.str (Str.ofString "_siftup") 388, .str (Str.ofString "_siftup") 389, .str (Str.ofString "/claim/cut.py") 390, .int 163 0, .int 2 0, .int 0 0, .int 0 0, .int 3 0, .ref 95, .bool true, .int 181 0, .ref 96, .none, .ref 97, .ref 98, .ref 99, .int 398 0, .int 163 0, .str (Str.ofString "/claim/cut.py") 399] }),
  (101, { cls := .type "function", data := .func (fnD 17 (.str (Str.ofString "cpy313.heapq") 321) (.none) 100) }),
  (107, { cls := .type "code", data := .fields #[.str (Str.ofString "_siftdown_max") 401, .str (Str.ofString "_siftdown_max") 402, .str (Str.ofString "/claim/cut.py") 403, .int 177 0, .int 3 0, .int 0 0, .int 0 0, .int 3 0, .ref 102, .bool true, .int 181 0, .ref 103, .none, .ref 104, .ref 105, .ref 106, .int 410 0, .int 177 0, .str (Str.ofString "/claim/cut.py") 411] }),
  (108, { cls := .type "function", data := .func (fnD 18 (.str (Str.ofString "cpy313.heapq") 321) (.none) 107) }),
  (114, { cls := .type "code", data := .fields #[.str (Str.ofString "_siftup_max") 413, .str (Str.ofString "_siftup_max") 414, .str (Str.ofString "/claim/cut.py") 415, .int 188 0, .int 2 0, .int 0 0, .int 0 0, .int 3 0, .ref 109, .bool true, .int 181 0, .ref 110, .none, .ref 111, .ref 112, .ref 113, .int 423 0, .int 188 0, .str (Str.ofString "/claim/cut.py") 424] }),
  (115, { cls := .type "function", data := .func (fnD 19 (.str (Str.ofString "cpy313.heapq") 321) (.none) 114) }),
  (116, { cls := .type "tuple", data := .seq #[.none] }),
  (120, { cls := .type "code", data := .fields #[.str (Str.ofString "nsmallest") 426, .str (Str.ofString "nsmallest") 427, .str (Str.ofString "/claim/cut.py") 428, .int 202 0, .int 3 0, .int 0 0, .int 0 0, .int 3 0, .ref 117, .bool true, .int 181 0, .ref 118, .none, .none, .none, .ref 119, .int 429 0, .int 202 0, .str (Str.ofString "/claim/cut.py") 430] }),
  (121, { cls := .type "function", data := .func (fnD 20 (.str (Str.ofString "cpy313.heapq") 321) (.ref 116) 120) }),
  (122, { cls := .type "tuple", data := .seq #[.none] }),
  (126, { cls := .type "code", data := .fields #[.str (Str.ofString "nlargest") 432, .str (Str.ofString "nlargest") 433, .str (Str.ofString "/claim/cut.py") 434, .int 247 0, .int 3 0, .int 0 0, .int 0 0, .int 3 0, .ref 123, .bool true, .int 181 0, .ref 124, .none, .none, .none, .ref 125, .int 435 0, .int 247 0, .str (Str.ofString "/claim/cut.py") 436] }),
  (127, { cls := .type "function", data := .func (fnD 21 (.str (Str.ofString "cpy313.heapq") 321) (.ref 122) 126) }),
  (133, { cls := .type "code", data := .fields #[.str (Str.ofString "_law_cells") 440, .str (Str.ofString "_law_cells") 441, .str (Str.ofString "/claim/cut.py") 442, .int 293 0, .int 2 0, .int 0 0, .int 0 0, .int 3 0, .ref 128, .bool true, .int 181 0, .ref 129, .none, .ref 130, .ref 131, .ref 132, .int 448 0, .int 293 0, .str (Str.ofString "/claim/cut.py") 449] }),
  (134, { cls := .type "function", data := .func (fnD 23 (.str (Str.ofString "law_mq0419_01") 438) (.none) 133) }),
  (138, { cls := .type "code", data := .fields #[.str (Str.ofString "_law_letters") 451, .str (Str.ofString "_law_letters") 452, .str (Str.ofString "/claim/cut.py") 453, .int 299 0, .int 1 0, .int 0 0, .int 0 0, .int 3 0, .ref 135, .bool true, .int 181 0, .ref 136, .none, .none, .none, .ref 137, .int 454 0, .int 299 0, .str (Str.ofString "/claim/cut.py") 455] }),
  (139, { cls := .type "function", data := .func (fnD 24 (.str (Str.ofString "law_mq0419_01") 438) (.none) 138) }),
  (145, { cls := .type "code", data := .fields #[.str (Str.ofString "_law_zone") 457, .str (Str.ofString "_law_zone") 458, .str (Str.ofString "/claim/cut.py") 459, .int 304 0, .int 1 0, .int 0 0, .int 0 0, .int 3 0, .ref 140, .bool true, .int 181 0, .ref 141, .none, .ref 142, .ref 143, .ref 144, .int 461 0, .int 304 0, .str (Str.ofString "/claim/cut.py") 462] }),
  (146, { cls := .type "function", data := .func (fnD 25 (.str (Str.ofString "law_mq0419_01") 438) (.none) 145) }),
  (152, { cls := .type "code", data := .fields #[.str (Str.ofString "_law_by_letters") 464, .str (Str.ofString "_law_by_letters") 465, .str (Str.ofString "/claim/cut.py") 466, .int 306 0, .int 1 0, .int 0 0, .int 0 0, .int 3 0, .ref 147, .bool true, .int 181 0, .ref 148, .none, .ref 149, .ref 150, .ref 151, .int 470 0, .int 306 0, .str (Str.ofString "/claim/cut.py") 471] }),
  (153, { cls := .type "function", data := .func (fnD 26 (.str (Str.ofString "law_mq0419_01") 438) (.none) 152) }),
  (159, { cls := .type "code", data := .fields #[.str (Str.ofString "_law_by_time") 473, .str (Str.ofString "_law_by_time") 474, .str (Str.ofString "/claim/cut.py") 475, .int 310 0, .int 1 0, .int 0 0, .int 0 0, .int 3 0, .ref 154, .bool true, .int 181 0, .ref 155, .none, .ref 156, .ref 157, .ref 158, .int 477 0, .int 310 0, .str (Str.ofString "/claim/cut.py") 478] }),
  (160, { cls := .type "function", data := .func (fnD 27 (.str (Str.ofString "law_mq0419_01") 438) (.none) 159) }),
  (164, { cls := .type "code", data := .fields #[.str (Str.ofString "law") 480, .str (Str.ofString "law") 481, .str (Str.ofString "/claim/cut.py") 482, .int 312 0, .int 1 0, .int 0 0, .int 0 0, .int 3 0, .ref 161, .bool true, .int 181 0, .ref 162, .none, .none, .none, .ref 163, .int 483 0, .int 312 0, .str (Str.ofString "/claim/cut.py") 484] }),
  (165, { cls := .type "function", data := .func (fnD 28 (.str (Str.ofString "law_mq0419_01") 438) (.none) 164) })]
noncomputable def hd.view_39 : Program := { PySem.Challenge.pw_mq0419_01 with main := { PySem.Challenge.pw_mq0419_01.main with body := ([28] : List Nat).filterMap fun i => PySem.Challenge.pw_mq0419_01.main.body[i]? } }
noncomputable def looseN : List Str := [Str.ofString "_monthnames", Str.ofString "_daynames", Str.ofString "_timezones", Str.ofString "parsedate_tz", Str.ofString "_parsedate_tz", Str.ofString "parsedate", Str.ofString "_format_timetuple_and_zone", Str.ofString "heappush", Str.ofString "heappop", Str.ofString "heapreplace", Str.ofString "heapify", Str.ofString "_heapreplace_max", Str.ofString "_heapify_max", Str.ofString "_siftdown", Str.ofString "_siftup", Str.ofString "_siftdown_max", Str.ofString "_siftup_max", Str.ofString "nsmallest", Str.ofString "nlargest", Str.ofString "_law_cells", Str.ofString "_law_letters", Str.ofString "_law_zone", Str.ofString "_law_by_letters", Str.ofString "_law_by_time"]
theorem keysK : ∀ P, [3, 15, 16, 17, 23, 24, 30, 31, 37, 38, 44, 45, 51, 52, 58, 59, 65, 66, 72, 73, 79, 80, 86, 87, 93, 94, 100, 101, 107, 108, 114, 115, 116, 120, 121, 122, 126, 127, 133, 134, 138, 139, 145, 146, 152, 153, 159, 160, 164, 165] = (hd.heap_39 P).map (·.1) := fun _ => by kernel_rfl
noncomputable abbrev HHk : Hook := kmHook hd.heap_39 [3, 15, 16, 17, 23, 24, 30, 31, 37, 38, 44, 45, 51, 52, 58, 59, 65, 66, 72, 73, 79, 80, 86, 87, 93, 94, 100, 101, 107, 108, 114, 115, 116, 120, 121, 122, 126, 127, 133, 134, 138, 139, 145, 146, 152, 153, 159, 160, 164, 165] keysK [162]
noncomputable abbrev headX : Shared → Bool := fun s => xlAt hd.view_39 [] s && recOk (RowW.records PySem.Challenge.rw_mq0419_01.row.toRowW) s
set_option maxHeartbeats 8000000 in
theorem headF (w : World) : (fencedOpening treeTable PySem.Challenge.rw_mq0419_01.row.prog w 2206).map (fun s₀ => (topFrom treeTable PySem.Challenge.rw_mq0419_01.row.prog (w.withFollow "special-get-raises" false) 2206 s₀).map (fun s => (openSeen hd.view_39 looseN (importedModules PySem.Challenge.rw_mq0419_01.row.prog.main.body) headX true s, HHk.obs s))) =
    some (some (openGood hd.view_39 looseN, HHk.val (w.withFollow "special-get-raises" false))) := by
  kernel_rfl
set_option maxHeartbeats 8000000 in
theorem headT (w : World) : (fencedOpening treeTable PySem.Challenge.rw_mq0419_01.row.prog w 2206).map (fun s₀ => (topFrom treeTable PySem.Challenge.rw_mq0419_01.row.prog (w.withFollow "special-get-raises" true) 2206 s₀).map (fun s => (openSeen hd.view_39 looseN (importedModules PySem.Challenge.rw_mq0419_01.row.prog.main.body) headX true s, HHk.obs s))) =
    some (some (openGood hd.view_39 looseN, HHk.val (w.withFollow "special-get-raises" true))) := by
  kernel_rfl
theorem headRuns : LeftO PySem.Challenge.rw_mq0419_01.row.prog hd.view_39 looseN headX HHk.obs HHk.val 2206 := by
  refine LeftO.of_split "special-get-raises" ?_
  intro w
  obtain ⟨s₀, a, b⟩ := Option.map_eq_some_iff.mp (headF w)
  obtain ⟨s₁, a', b'⟩ := Option.map_eq_some_iff.mp (headT w)
  rw [a] at a'
  obtain rfl := Option.some.inj a'
  rw [a]
  exact congrArg some (Prod.ext b b')
set_option maxHeartbeats 8000000 in
theorem lawSaid : OpenLaw.wellSaid PySem.Challenge.rw_mq0419_01 = true := by
  unfold OpenLaw.wellSaid OpenRow.wellSaid OpenRow.partSaid looksOpen
  repeat' (with_reducible refine look_both ?_ ?_)
  all_goals decide +kernel
set_option maxHeartbeats 8000000 in
theorem hd (walk : ∀ d kwd, defOf hd.view_39 (Str.ofString "law") = some (d, kwd) → WalkO hd.view_39 looseN (XL hd.view_39 []) HHk.says PySem.Challenge.rw_mq0419_01.row.toRowW d kwd fun f vs => PySem.call f vs) : PySem.Challenge.rw_mq0419_01.Holds := by
  refine holds_law lawSaid fun said => ?_
  refine holds_open (q := hd.view_39) (loose := looseN) (Xt := headX) (XP := XL hd.view_39 []) (Yf := HHk.obs) (Ya := HHk.val) (YP := HHk.says) (N := 2206)
    headRuns HHk.of HHk.keeps (fun s e => xl_of s (Bool.and_eq_true_iff.mp e).1) XL.keeps (by rfl) (by rfl) (by rfl) (fun s e => recFacts_of (Bool.and_eq_true_iff.mp e).2) (by rfl) (by first | assumption | decide +kernel) (by decide +kernel) ⟨rfl, rfl, rfl, rfl, rfl, by decide +kernel⟩ ?hw ?hc
  case hw => w_witness2
  case hc => exact walk _ _ rfl
end Mine
namespace Mine
open PySem PySem.W PyProof.Rows

noncomputable abbrev HK (w : World) : Frag := hd.heap_39 w.params

structure Cx (w : World) (mg mb : Str → Option Value) (B : Heap) : Prop where
  k : (HK w).In B
  g : B.Ns mainGlobals mg
  b : B.Ns builtinsNs mb
  bt : ∀ x : Str, x ≠ "__name__" → mb x = bootBuiltins x
  lim : B.NoLimit
  dig : ∃ mc, B.Ns cStatics mc ∧ mc "sys.int_max_str_digits" = none
  bm : ∃ bm ob, mg "__builtins__" = some (.ref bm) ∧ bm ≠ builtinsNs ∧ B.get? bm = some ob ∧ ob.cls = .type "module" ∧ ob.dict = some builtinsNs ∧ ob.data = .plain

theorem Cx.keeps {w : World} {mg mb : Str → Option Value} {h h' : Heap} (C : Cx w mg mb h) (k : ∀ b o, h.get? b = some o → h'.get? b = some o) : Cx w mg mb h' where
  k := C.k.keeps k
  g := C.g.keeps k
  b := C.b.keeps k
  bt := C.bt
  lim := C.lim.keeps k
  dig := let ⟨mc, h1, h2⟩ := C.dig; ⟨mc, h1.keeps k, h2⟩
  bm := let ⟨bm, ob, a, b, c, d⟩ := C.bm; ⟨bm, ob, a, b, k _ _ c, d⟩

section
variable {w : World} {mg mb : Str → Option Value} {B : Heap}

theorem Cx.glob (C : Cx w mg mb B) {x : Str} {v : Value} (e : nsIn (HK w) mainGlobals x = some (some v)) : mg x = some v := mg_of C.k C.g e
theorem Cx.noglob (C : Cx w mg mb B) {x : Str} (e : nsIn (HK w) mainGlobals x = some none) : mg x = none := mg_none_of C.k C.g e
end

section
variable {M : Model} {A : Around} {E : Value → Shared → Prop} {s : Shared} {env : Env} {w : World} {mg mb : Str → Option Value} {B : Heap}

theorem nmL {x : Str} {pos : Pos} {v : Value} {m : Str → Option Value} {Q : Value → Shared → Prop} (hn : s.heap.Ns env.locals m) (hv : m x = some v) (h : Q v s)
    (hk : env.scope.kind = .function := by rfl) (hl : env.kindOf x = some .local := by rfl) (hd : (x == ("__debug__" : Str)) = false := by decide) :
    wpAny M A (eval (.Name x pos) env) Q E s := wpAny_Name (wpAny_loadName_local hk hl hn hv h) hd

theorem nmG {x : Str} {pos : Pos} {v : Value} {Q : Value → Shared → Prop} (C : Cx w mg mb s.heap) (e : nsIn (HK w) mainGlobals x = some (some v)) (h : Q v s)
    (hg : env.globals = mainGlobals := by rfl)
    (hk : env.scope.kind = .function := by rfl) (hl : env.kindOf x = some .globalImplicit := by rfl) (hd : (x == ("__debug__" : Str)) = false := by decide) :
    wpAny M A (eval (.Name x pos) env) Q E s :=
  Calls.Name_function_global hk hl (Calls.loadGlobal_global (env := env) (by rw [hg]; exact C.g) (C.glob e) h) hd

theorem nmB {x : Str} {pos : Pos} {v : Value} {Q : Value → Shared → Prop} (C : Cx w mg mb s.heap) (e : nsIn (HK w) mainGlobals x = some none) (hv : bootBuiltins x = some v) (hn : x ≠ "__name__") (h : Q v s)
    (hg : env.globals = mainGlobals := by rfl) (hb : env.builtins = builtinsNs := by rfl)
    (hk : env.scope.kind = .function := by rfl) (hl : env.kindOf x = some .globalImplicit := by rfl) (hd : (x == ("__debug__" : Str)) = false := by decide) :
    wpAny M A (eval (.Name x pos) env) Q E s :=
  Calls.Name_function_global hk hl (Calls.loadGlobal_builtin (env := env) (by rw [hg]; exact C.g) (C.noglob e) (by rw [hb]; exact C.b) ((C.bt x hn).trans hv) h) hd
end

/-- the rest of the run behind a letter -/
theorem hideR {M : Model} {A : Around} {E : Value → Shared → Prop} {s : Shared} {β : Type} {m : Sem β} {Q : β → Shared → Prop} (h : ∀ R : β → Shared → Prop, (∀ a s', Q a s' → R a s') → wpAny M A m R E s) : wpAny M A m Q E s := h Q fun _ _ x => x
/-- one statement, what follows it behind a letter -/
theorem stmtN {M : Model} {A : Around} {E : Value → Shared → Prop} {s : Shared} {env : Env} {st : Stmt} {rest : List Stmt} {Q : Flow → Shared → Prop} (h : ∀ R : Flow → Shared → Prop, (∀ s', wpAny M A (execs rest env) Q E s' → R .next s') → wpAny M A (exec st env) R E s) :
    wpAny M A (execs (st :: rest) env) Q E s := wpAny_execs_cons (h _ fun _ x => x)
theorem stmtR {M : Model} {A : Around} {E : Value → Shared → Prop} {s : Shared} {env : Env} {st : Stmt} {rest : List Stmt} {Q : Flow → Shared → Prop} (h : ∀ R : Flow → Shared → Prop, (∀ s', wpAny M A (execs rest env) Q E s' → R .next s') → (∀ v s', Q (.ret v) s' → R (.ret v) s') → wpAny M A (exec st env) R E s) :
    wpAny M A (execs (st :: rest) env) Q E s := wpAny_execs_cons (h _ (fun _ x => x) fun _ _ x => x)
/-- the names behind one store -/
noncomputable def updN (m : Str → Option Value) (x : Str) (v : Value) : Str → Option Value := fun z => if z = x then some v else m z
theorem stN {M : Model} {A : Around} {E : Value → Shared → Prop} {s : Shared} {env : Env} {name : Str} {m : Str → Option Value} {v : Value} {Q : Unit → Shared → Prop} (hl : env.kindOf name = some .local)
    (hn : s.heap.Ns env.locals m) (h : ∀ h' tk, h'.Ns env.locals (updN m name v) → Heap.SameBut env.locals s.heap h' → Q () { s with heap := h', toks := tk })
    (hp : (env.scope.kind == .class || (env.scope.kind == .module && env.locals != env.globals)) = false := by rfl) : wpAny M A (storeName env name v) Q E s :=
  wpAny_storeName_local hl hn (fun h' a b => h h' _ a b) hp

noncomputable def P0 : Params := { strHash := fun _ => 0, shareClass := fun _ => 0, mergeTok := fun t => t, idOf := fun _ => 0, idOfShared := fun _ _ => 0, followText := fun _ => false, idOfImm := fun _ => 0 }
noncomputable def fb (fd : FuncData) : List Stmt := match fd.body with
  | .stmts b => b
  | _ => []
noncomputable def loopBody : List Stmt → List Stmt
  | .While _ b _ _ :: _ => b
  | .For _ _ b _ _ :: _ => b
  | .If _ b _ _ :: _ => b
  | _ => []
noncomputable def fdOf (a : Addr) : FuncData := match (hd.heap_39 P0).lookup a with
  | some ⟨_, _, .func fd, _⟩ => fd
  | _ => default

/-- room: n more levels of calls -/
noncomputable def Rm (A : Around) (n : Nat) : Prop := A.depth + n < 1000 ∧ A.units + 20 * n < 9900 ∧ A.handled = none
theorem Rm.deeper {A : Around} {n : Nat} {env : Env} (h : Rm A (n + 1)) : Rm (A.deeper env) n := by
  obtain ⟨a, b, c⟩ := h
  refine ⟨?_, ?_, c⟩
  · show A.depth + 1 + n < 1000; omega
  · show A.units + 3 + 20 * n < 9900; omega
theorem Rm.in1 {A : Around} {n : Nat} (h : Rm A (n + 1)) : Rm A.in1 n := by
  obtain ⟨a, b, c⟩ := h
  refine ⟨?_, ?_, c⟩
  · show A.depth + n < 1000; omega
  · show A.units + 1 + 20 * n < 9900; omega
theorem Rm.le {A : Around} {n k : Nat} (h : Rm A n) (hk : k ≤ n) : Rm A k := by
  obtain ⟨a, b, c⟩ := h
  exact ⟨by omega, by omega, c⟩
theorem Rm.depth {A : Around} {n : Nat} (h : Rm A n) : A.depth < recursionLimit := by
  obtain ⟨a, b, _⟩ := h
  show A.depth < 1000; omega
theorem Rm.units {A : Around} {n : Nat} (h : Rm A n) : A.units < cLine := by
  obtain ⟨a, b, _⟩ := h
  show A.units < 9900; omega
theorem Rm.hh {A : Around} {n : Nat} (h : Rm A n) : A.handled = none := h.2.2

noncomputable abbrev Keep (h h' : Heap) : Prop := ∀ b o, h.get? b = some o → h'.get? b = some o

/-- a list's contents, by a function -/
noncomputable def lst {α : Type} (val : α → Value) (f : Nat → α) (n : Nat) : List Value := (List.range n).map fun i => val (f i)
noncomputable def upd {α : Type} (f : Nat → α) (i : Nat) (x : α) : Nat → α := fun j => if j = i then x else f j
theorem lst_len {α : Type} (val : α → Value) (f : Nat → α) (n : Nat) : (lst val f n).length = n := by simp [lst]
theorem lst_get {α : Type} (val : α → Value) (f : Nat → α) {n i : Nat} (h : i < n) : (lst val f n).toArray[i]? = some (val (f i)) := by
  simp [lst, h]
theorem lst_set {α : Type} (val : α → Value) (f : Nat → α) {n i : Nat} (x : α) : (lst val f n).toArray.setIfInBounds i (val x) = (lst val (upd f i x) n).toArray := by
  apply Array.ext'
  simp only [lst, Array.toList_setIfInBounds]
  apply List.ext_getElem?
  intro j
  rw [List.getElem?_set]
  by_cases hj : i = j
  · subst hj
    by_cases hn : i < n
    · simp [upd, hn]
    · simp [hn]
  · have hj' : ¬ j = i := fun e => hj e.symm
    by_cases hn : j < n <;> simp [upd, hj, hj', hn]

/-- comparing by <, in every heap that has kept all but l -/
noncomputable def CmpLt (prog : Program) (w : World) (l : Addr) (h₀ : Heap) (x y : Value) (b : Bool) : Prop :=
  ∀ (A : Around) (E : Value → Shared → Prop) (s : Shared) (Q : Value → Shared → Prop), Rm A 5 → Heap.ExtBut l h₀ s.heap → (∀ tk, Q (.bool b) { s with toks := tk }) → wpAny (model prog w) A (compareOp .Lt x y) Q E s

section
variable {prog : Program} {w : World} {A : Around} {E : Value → Shared → Prop} {s : Shared} {mg mb : Str → Option Value}
theorem bind_locs {scope : Scope} {binds : List (Str × Value)} (h : (binds.all fun x => decide (scope.names.lookup x.1 = some .local)) = true) :
    ∀ x ∈ binds, scope.names.lookup x.1 = some .local := fun x hx => of_decide_eq_true (List.all_eq_true.mp h x hx)

theorem enterF {fd : FuncData} {a : Addr} {body : List Stmt} {pos : List Value} {kw : List (Str × Value)} {n : Nat} {Q : Value → Shared → Prop} (binds : List (Str × Value))
    (C : Cx w mg mb s.heap) (R : Rm A (n + 1)) (hf : (HK w).lookup a = some { cls := .type "function", data := .func fd }) (hcd : codeIn (HK w) fd.code fd.qualname = true)
    (hbody : fd.body = .stmts body) (hbind : BindsTo s fd ⟨pos, kw⟩ binds) (hloc : (binds.all fun x => decide (fd.scope.names.lookup x.1 = some .local)) = true)
    (hcell : ∀ x ∈ fd.scope.names, x.2 ≠ .cell)
    (h : ∀ h₁, h₁.Ns s.heap.objs.size (fun x => binds.reverse.lookup x) → Keep s.heap h₁ → Cx w mg mb h₁ → Rm (A.deeper (callEnv fd s.heap.objs.size a)) n →
      wpAny (model prog w) (A.deeper (callEnv fd s.heap.objs.size a)) (execs body (callEnv fd s.heap.objs.size a)) (fun f s' => Q (match f with | .ret v => v | _ => .none) s')
        (fun _ _ => False) { s with heap := h₁, toks := s.toks + binds.length })
    (hco : fd.scope.isCoroutine = false := by rfl) (hgen : fd.scope.isGenerator = false := by rfl) (hk : fd.scope.kind = .function := by rfl) :
    wpAny (model prog w) A (call (.ref a) pos kw) Q E s := by
  refine wpAny_call ?_
  refine codeAny_call_def (binds := binds) R.depth (C.k _ _ hf) rfl C.lim (codeRec_of C.k hcd) hbody hbind hcell (bind_locs hloc) (fun h1 hns hk => ?_) hco hgen hk
  exact wpAny_mono (h h1 hns hk (C.keeps hk) R.deeper) (fun f s' q => q) fun _ _ x => x.elim
end

theorem plain_same {h h' : Heap} {l a : Addr} {xs : Array Value} (hl : h.PlainList l xs) (hs : Heap.SameBut a h h') (hn : l ≠ a) : h'.PlainList l xs :=
  hl.at fun o e => (hs.2 l hn).trans e

section
variable {prog : Program} {w : World} {A : Around} {E : Value → Shared → Prop} {s : Shared}
theorem lenList {l : Addr} {xs : List Value} {Q : Value → Shared → Prop} (hl : s.heap.PlainList l xs.toArray) (hfit : xs.length < 2 ^ 40)
    (h : ∀ t, Q (.int (xs.length : Nat) t) { s with toks := s.toks + 1 + 1 }) : wpAny (model prog w) A (call (.builtin "len") [.ref l]) Q E s := by
  refine Calls.call_len_list hl.isList (by rw [List.size_toArray]; omega) ?_
  rw [List.size_toArray]; exact h _
theorem setPlain {l : Addr} {xs : Array Value} {k : Int} {u : Tok} {v : Value} {Q : Unit → Shared → Prop} (hl : s.heap.PlainList l xs) (h0 : 0 ≤ k) (hfit : k < 2 ^ 63) (hn : k < xs.size)
    (h : ∀ h', h'.PlainList l (xs.setIfInBounds k.toNat v) → Heap.SameBut l s.heap h' → Q () { s with heap := h' }) :
    wpAny (model prog w) A (setItem (.ref l) (.int k u) v) Q E s := by
  obtain ⟨n, ho⟩ := hl
  refine ki_setAt ho h0 hfit hn (h _ ⟨n, ?_⟩ (Heap.SameBut.update ..))
  rw [Heap.get?_update_self _ ho rfl]
  simp [Obj.mapSeq]
theorem methPlain {l : Addr} {xs : Array Value} {name : Str} {id : String} {pl : Sem Bool} {Q : Value × List Value → Shared → Prop} (hl : s.heap.PlainList l xs) (slot : Slot "list" name id)
    (hty : typeOf (.builtin id) = pure (.type "method_descriptor")) (h : Q (.builtin id, [.ref l]) s) : wpAny (model prog w) A (getMethod (.ref l) name pl) Q E s :=
  getMethod_list_of slot hty hl.isList (by obtain ⟨n, e⟩ := hl; exact ⟨_, e, rfl⟩) h
theorem appendPlain {l : Addr} {xs : List Value} {x : Value} {Q : Value → Shared → Prop} (hl : s.heap.PlainList l xs.toArray) (hsz : xs.length < 2 ^ 20)
    (h : ∀ h', h'.PlainList l (xs ++ [x]).toArray → Heap.SameBut l s.heap h' → Q .none { s with heap := h' }) : wpAny (model prog w) A (call (.builtin "list.append") [.ref l, x]) Q E s :=
  wpAny_list_append_plain hl (fun h' hl' hs => h h' (by simpa using hl') hs) (by rw [List.size_toArray, sizeLine_eq]; omega)
theorem popPlain {l : Addr} {xs : List Value} {x : Value} {Q : Value → Shared → Prop} (hl : s.heap.PlainList l (xs ++ [x]).toArray) (hsz : xs.length < 2 ^ 20)
    (h : ∀ h', h'.PlainList l xs.toArray → Heap.SameBut l s.heap h' → Q x { s with heap := h' }) : wpAny (model prog w) A (call (.builtin "list.pop") [.ref l]) Q E s := by
  obtain ⟨n, ho⟩ := hl
  refine call_meets PySem.F.slot_list_pop ⟨_, ho, rfl⟩ PySem.F.entry_list_pop (PySem.F.args_list_pop_1 _) (MeetsSeq.list_pop_last l _ n x (by simp) (by rw [List.size_toArray, List.length_append, sizeLine_eq]; simp; omega)) ⟨ho, h _ ⟨n + 1, ?_⟩ (Heap.SameBut.update ..)⟩
  rw [Heap.get?_update_self _ ho rfl]
  have e : (xs ++ [x]).toArray.eraseIdxIfInBounds ((xs ++ [x]).toArray.size - 1) = xs.toArray := by
    apply Array.ext'
    simp only [List.size_toArray, List.length_append, List.length_singleton, Nat.add_sub_cancel, Array.toList_eraseIdxIfInBounds]
    rw [List.eraseIdx_append_of_length_le (Nat.le_refl _)]
    simp
  simp only [Obj.mapSeq, e]
  simp
end

end Mine
namespace Mine
open PySem PySem.W PyProof.Rows

noncomputable def fd94 : FuncData := Subtype.val (p := fun x => x = fdOf 94) (by
  refine ⟨?_, ?_⟩
  rotate_left
  · conv => rhs; whnf)

theorem fn94 (w : World) : (HK w).lookup 94 = some { cls := .type "function", data := .func fd94 } := by kernel_rfl

/-- the frame of a sift: locals m at L, the list at l; all else of the start's heap kept -/
structure SF (h₀ : Heap) (l L : Addr) (m : Str → Option Value) (xs : List Value) (h : Heap) : Prop where
  ns : h.Ns L m
  ext : Heap.ExtBut l h₀ h
  lst : h.PlainList l xs.toArray
  above : h₀.objs.size ≤ L
  old : l < h₀.objs.size

section
variable {h₀ h h' : Heap} {l L : Addr} {m m' : Str → Option Value} {xs ys : List Value}
theorem SF.ne (F : SF h₀ l L m xs h) : l ≠ L := by
  exact Nat.ne_of_lt (Nat.lt_of_lt_of_le F.old F.above)
theorem SF.store (F : SF h₀ l L m xs h) (hn : h'.Ns L m') (hs : Heap.SameBut L h h') : SF h₀ l L m' xs h' where
  ns := hn
  ext := fun b o hb e => (hs.2 b (Nat.ne_of_lt (Nat.lt_of_lt_of_le (Heap.lt_size e) F.above))).trans (F.ext b o hb e)
  lst := plain_same F.lst hs F.ne
  above := F.above
  old := F.old
theorem SF.set (F : SF h₀ l L m xs h) (hl : h'.PlainList l ys.toArray) (hs : Heap.SameBut l h h') : SF h₀ l L m ys h' where
  ns := F.ns.sameBut hs F.ne.symm
  ext := fun b o hb e => (hs.2 b hb).trans (F.ext b o hb e)
  lst := hl
  above := F.above
  old := F.old
end

section
variable {M : Model} {prog : Program} {w : World} {A : Around} {E : Value → Shared → Prop} {s : Shared} {env : Env} {h₀ : Heap} {l L : Addr} {m : Str → Option Value} {xs : List Value}
theorem sfStore {x : Str} {v : Value} {Q : Unit → Shared → Prop} (F : SF h₀ l env.locals m xs s.heap)
    (h : ∀ h' tk, SF h₀ l env.locals (updN m x v) xs h' → Q () { s with heap := h', toks := tk })
    (hl : env.kindOf x = some .local := by rfl)
    (hp : (env.scope.kind == .class || (env.scope.kind == .module && env.locals != env.globals)) = false := by rfl) :
    wpAny M A (storeName env x v) Q E s := wpAny_storeName_local hl F.ns (fun h' hn hs => h h' _ (F.store hn hs)) hp
theorem sfItem {value slice : Expr} {k : Int} {u : Tok} {x : Value} {Q : Value → Shared → Prop} (F : SF h₀ l L m xs s.heap)
    (h0 : 0 ≤ k) (hhi : k < 2 ^ 63) (hx : xs.toArray[k.toNat]? = some x) (h : Q x s)
    (hs : subscripted slice false (.ref l) (.int k u) = operate [.ref l, .int k u] (getItem (.ref l) (.int k u)) := by with_unfolding_all rfl) :
    wpAny (model prog w) A (subscriptTail value slice (.ref l) (.int k u)) Q E s :=
  tail_any F.lst.isList.typeIs slot_list_getitem.lookup (wpAny_getItem_list F.lst.isList h0 hhi hx h) hs
theorem sfSet {k : Int} {u : Tok} {v : Value} {ys : List Value} {Q : Unit → Shared → Prop} (F : SF h₀ l L m xs s.heap)
    (h0 : 0 ≤ k) (hhi : k < 2 ^ 63) (hn : k < xs.length) (he : xs.toArray.setIfInBounds k.toNat v = ys.toArray)
    (h : ∀ h', SF h₀ l L m ys h' → Q () { s with heap := h' }) :
    wpAny (model prog w) A (setItem (.ref l) (.int k u) v) Q E s :=
  setPlain F.lst h0 hhi (by simpa using hn) (fun h' hl hs => h h' (F.set (by rw [← he]; exact hl) hs))
end

section
variable {α : Type}
noncomputable def sdn (lt : α → α → Bool) (st : Nat) (x : α) : Nat → Nat → (Nat → α) → (Nat → α)
  | 0, p, f => upd f p x
  | k + 1, p, f => if st < p then (if lt x (f ((p - 1) / 2)) then sdn lt st x k ((p - 1) / 2) (upd f p (f ((p - 1) / 2))) else upd f p x) else upd f p x
end

section
variable {α : Type} {prog : Program} {w : World} {A : Around} {E : Value → Shared → Prop} {s : Shared} {mg mb : Str → Option Value}

set_option maxHeartbeats 1000000 in
theorem siftdown_spec {val : α → Value} {lt : α → α → Bool} {P : α → Prop} {l : Addr} {f : Nat → α} {n st p : Nat} {t1 t2 : Tok} {Q : Value → Shared → Prop}
    (C : Cx w mg mb s.heap) (R : Rm A 8) (hl : s.heap.PlainList l (lst val f n).toArray) (hp : p < n) (hn : n < 2 ^ 40)
    (hP : ∀ i, i < n → P (f i)) (hc : ∀ x y, P x → P y → CmpLt prog w l s.heap (val x) (val y) (lt x y))
    (hQ : ∀ h' tk, Heap.ExtBut l s.heap h' → h'.PlainList l (lst val (sdn lt st (f p) p p f) n).toArray → Q .none { s with heap := h', toks := tk }) :
    wpAny (model prog w) A (call (.ref 94) [.ref l, .int (st : Int) t1, .int (p : Int) t2]) Q E s := by
  refine enterF [(Str.ofString "heap", .ref l), (Str.ofString "startpos", .int (st : Int) t1), (Str.ofString "pos", .int (p : Int) t2)] C R (fn94 w) (by kernel_rfl) rfl (BindsTo.of_eq rfl) (by rfl) (by decide) (fun h1 hns hk C1 R1 => ?_)
  have F : SF s.heap l s.heap.objs.size (fun x => [(Str.ofString "heap", Value.ref l), (Str.ofString "startpos", .int (st : Int) t1), (Str.ofString "pos", .int (p : Int) t2)].reverse.lookup x) (lst val f n) h1 := by
    refine ⟨hns, fun b o _ e => hk b o e, ?_, Nat.le_refl _, ?_⟩
    · exact hl.at fun o e => hk _ _ e
    · obtain ⟨n', ho⟩ := hl; exact Heap.lt_size ho
  refine wpAny_execs_cons (wpAny_Assign_Name (Subscript_ (nmL F.ns rfl (nmL F.ns rfl ?_))))
  have hnx : ∀ {a : Nat}, a < n → ((a : Nat) : Int) < 2 ^ 63 := fun {a} ha => by omega
  refine sfItem (x := val (f p)) F (by omega) (hnx hp) (lst_get val f hp) ?_
  refine sfStore F (fun h2 tq2 F2 => ?_)
  dsimp only at F2 ⊢
  -- the end: heap[pos] = newitem
  have fin : ∀ (h : Heap) (tk : Nat) (m : Str → Option Value) (g : Nat → α) (q : Nat) (u : Tok), SF s.heap l s.heap.objs.size m (lst val g n) h → m (Str.ofString "heap") = some (.ref l) → m (Str.ofString "newitem") = some (val (f p)) →
      m (Str.ofString "pos") = some (.int (q : Int) u) → q < n → upd g q (f p) = sdn lt st (f p) p p f →
      wpAny (model prog w) (A.deeper (callEnv fd94 s.heap.objs.size 94)) (execs ((fb fd94).drop 2) (callEnv fd94 s.heap.objs.size 94))
        (fun f s' => Q (match f with | .ret v => v | _ => .none) s') (fun _ _ => False) { s with heap := h, toks := tk } := by
    intro h tk m g q u G e1 e2 e3 hq e
    refine wpAny_execs_cons (wpAny_Assign_Subscript (nmL G.ns e2 (nmL G.ns e1 (nmL G.ns e3 ?_))))
    refine sfSet G (by omega) (hnx hq) (by rw [lst_len]; omega) (lst_set val g (f p)) fun h' G' => ?_
    refine wpAny_execs_nil ?_
    exact hQ h' tk G'.ext (by rw [← e]; exact G'.lst)
  refine wpAny_execs_cons (wpAny_While ?_)
  refine codeAny_whileLoop (fun k s' => ∃ h tk m g u, s' = { s with heap := h, toks := tk } ∧ SF s.heap l s.heap.objs.size m (lst val g n) h ∧ m (Str.ofString "heap") = some (.ref l) ∧ m (Str.ofString "newitem") = some (val (f p)) ∧
      m (Str.ofString "startpos") = some (.int (st : Int) t1) ∧ m (Str.ofString "pos") = some (.int (k : Int) u) ∧ k < n ∧ (∀ i, i < n → P (g i)) ∧ ∃ j, k ≤ j ∧ sdn lt st (f p) j k g = sdn lt st (f p) p p f) ?_ p
    ⟨h2, _, _, f, t2, rfl, F2, rfl, rfl, rfl, rfl, hp, hP, p, Nat.le_refl _, rfl⟩
  rintro k s' ⟨h, tk, m, g, u, rfl, G, e1, e2, e3, e4, hk, hPg, j, hj, e⟩
  refine wpAny_isTrue_Compare1 (nmL G.ns e4 (nmL G.ns e3 (SiftDown.gt_int (wpAny_truthy_bool ?_))))
  by_cases hlt : st < k
  · have hd : decide ((k : Int) > (st : Int)) = true := by simp; omega
    rw [hd, if_pos rfl]
    refine hideR ?_
    intro RQ hRQ
    refine wpAny_execs_cons (wpAny_Assign_Name (wpAny_BinOp (wpAny_BinOp (nmL G.ns e4 (wpAny_Constant_int (SiftDown.sub_int (wpAny_Constant_int (rshift_int (by decide) ?_))))))))
    have ev : ((k : Int) - 1).fdiv (2 ^ (1 : Int).toNat) = (((k - 1) / 2 : Nat) : Int) := by
      rw [Int.fdiv_eq_ediv_of_nonneg _ (by decide)]; simp; omega
    rw [ev]
    have hk2 : (k - 1) / 2 < n := by omega
    refine sfStore G (fun h3 tq3 G3 => ?_)
    dsimp only at G3 ⊢
    refine wpAny_execs_cons (wpAny_Assign_Name (Subscript_ (nmL G3.ns e1 (nmL G3.ns rfl ?_))))
    refine sfItem (x := val (g ((k - 1) / 2))) G3 (by omega) (hnx hk2) (lst_get val g hk2) ?_
    refine sfStore G3 (fun h4 tq4 G4 => ?_)
    dsimp only at G4 ⊢
    refine wpAny_execs_cons (wpAny_If (wpAny_isTrue_Compare1 (nmL G4.ns e2 (nmL G4.ns rfl ?_))))
    refine hc _ _ (hP p hp) (hPg _ hk2) _ _ _ _ (R1.le (by decide)) G4.ext fun tk5 => wpAny_truthy_bool ?_
    have hj' : ∃ j', j = j' + 1 := ⟨j - 1, by omega⟩
    obtain ⟨j, rfl⟩ := hj'
    rw [sdn, if_pos hlt] at e
    by_cases hx : lt (f p) (g ((k - 1) / 2)) = true
    · rw [if_pos hx]
      rw [if_pos hx] at e
      refine wpAny_execs_cons (wpAny_Assign_Subscript (nmL G4.ns rfl (nmL G4.ns e1 (nmL G4.ns e4 ?_))))
      refine sfSet G4 (by omega) (hnx hk) (by rw [lst_len]; omega) (lst_set val g _) fun h5 G5 => ?_
      dsimp only at G5 ⊢
      refine wpAny_execs_cons (wpAny_Assign_Name (nmL G5.ns rfl ?_))
      refine sfStore G5 (fun h6 tq6 G6 => ?_)
      dsimp only at G6 ⊢
      refine wpAny_execs_cons (SiftDown.continue_ ?_)
      refine hRQ _ _ ?_
      refine ⟨(k - 1) / 2, by omega, h6, _, _, _, _, rfl, G6, e1, e2, e3, rfl, hk2, ?_, j, by omega, e⟩
      intro i hi
      unfold upd
      split
      · exact hPg _ hk2
      · exact hPg _ hi
    · rw [if_neg hx]
      rw [if_neg hx] at e
      refine wpAny_execs_nil ?_
      refine wpAny_execs_cons (SiftDown.break_ ?_)
      refine hRQ _ _ ?_
      exact fin h4 _ _ g k u G4 e1 e2 e4 hk e
  · have hd : decide ((k : Int) > (st : Int)) = false := by simp; omega
    rw [hd, if_neg (by simp)]
    refine wpAny_execs_nil ?_
    have e' : upd g k (f p) = sdn lt st (f p) p p f := by
      rw [← e]; cases j with
      | zero => rfl
      | succ j => rw [sdn, if_neg hlt]
    exact fin h tk m g k u G e1 e2 e4 hk e'

/-- _siftup's way down: the place that is left open, and the contents -/
noncomputable def supL (lt : α → α → Bool) (n : Nat) : Nat → Nat → (Nat → α) → Nat × (Nat → α)
  | 0, p, f => (p, f)
  | k + 1, p, f => if 2 * p + 1 < n then
      (if 2 * p + 1 + 1 < n ∧ lt (f (2 * p + 1)) (f (2 * p + 1 + 1)) = false then supL lt n k (2 * p + 1 + 1) (upd f p (f (2 * p + 1 + 1))) else supL lt n k (2 * p + 1) (upd f p (f (2 * p + 1))))
    else (p, f)
noncomputable def sup (lt : α → α → Bool) (n p : Nat) (f : Nat → α) : Nat → α :=
  sdn lt p (f p) (supL lt n n p f).1 (supL lt n n p f).1 (upd (supL lt n n p f).2 (supL lt n n p f).1 (f p))

noncomputable def fd101 : FuncData := Subtype.val (p := fun x => x = fdOf 101) (by
  refine ⟨?_, ?_⟩
  rotate_left
  · conv => rhs; whnf)
theorem fn101 (w : World) : (HK w).lookup 101 = some { cls := .type "function", data := .func fd101 } := by kernel_rfl

theorem upd_P {P : α → Prop} {f : Nat → α} {n p : Nat} {x : α} (h : ∀ i, i < n → P (f i)) (hx : P x) : ∀ i, i < n → P (upd f p x i) := by
  intro i hi
  unfold upd
  split
  · exact hx
  · exact h i hi

noncomputable def SupInv (s : Shared) (l L : Addr) (val : α → Value) (lt : α → α → Bool) (P : α → Prop) (f : Nat → α) (n p : Nat) (t1 t2 : Tok) (k : Nat) (s' : Shared) : Prop :=
  ∃ (h : Heap) (tk : Nat) (m : Str → Option Value) (g : Nat → α) (q : Nat) (u u' : Tok), s' = { s with heap := h, toks := tk } ∧ SF s.heap l L m (lst val g n) h ∧ m (Str.ofString "heap") = some (.ref l) ∧ m (Str.ofString "newitem") = some (val (f p)) ∧
      m (Str.ofString "startpos") = some (.int (p : Int) t1) ∧ m (Str.ofString "endpos") = some (.int (n : Int) t2) ∧ m (Str.ofString "pos") = some (.int (q : Int) u) ∧ m (Str.ofString "childpos") = some (.int ((2 * q + 1 : Nat) : Int) u') ∧
      q < n ∧ k = n - q ∧ (∀ i, i < n → P (g i)) ∧ ∃ j : Nat, n ≤ q + j ∧ supL lt n j q g = supL lt n n p f

set_option maxHeartbeats 1000000 in
theorem siftup_spec {val : α → Value} {lt : α → α → Bool} {P : α → Prop} {l : Addr} {f : Nat → α} {n p : Nat} {t1 : Tok} {Q : Value → Shared → Prop}
    (C : Cx w mg mb s.heap) (hB : ∀ h', Heap.ExtBut l s.heap h' → Cx w mg mb h') (R : Rm A 9) (hl : s.heap.PlainList l (lst val f n).toArray) (hp : p < n) (hn : n < 2 ^ 40)
    (hP : ∀ i, i < n → P (f i)) (hc : ∀ x y, P x → P y → CmpLt prog w l s.heap (val x) (val y) (lt x y))
    (hQ : ∀ h' tk, Heap.ExtBut l s.heap h' → h'.PlainList l (lst val (sup lt n p f) n).toArray → Q .none { s with heap := h', toks := tk }) :
    wpAny (model prog w) A (call (.ref 101) [.ref l, .int (p : Int) t1]) Q E s := by
  refine enterF [(Str.ofString "heap", .ref l), (Str.ofString "pos", .int (p : Int) t1)] C R (fn101 w) (by kernel_rfl) rfl (BindsTo.of_eq rfl) (by rfl) (by decide) (fun h1 hns hk C1 R1 => ?_)
  have F : SF s.heap l s.heap.objs.size (fun x => [(Str.ofString "heap", Value.ref l), (Str.ofString "pos", .int (p : Int) t1)].reverse.lookup x) (lst val f n) h1 := by
    refine ⟨hns, fun b o _ e => hk b o e, ?_, Nat.le_refl _, ?_⟩
    · exact hl.at fun o e => hk _ _ e
    · obtain ⟨n', ho⟩ := hl; exact Heap.lt_size ho
  have hnx : ∀ {a : Nat}, a < n → ((a : Nat) : Int) < 2 ^ 63 := fun {a} ha => by omega
  refine wpAny_execs_cons (wpAny_Assign_Name (Call_ (nmB C1 (by kernel_rfl) boot_len (by decide) (callWith_builtin1 (args_cons (nmL F.ns rfl (args_nil ?_)))))))
  refine lenList F.lst (by rw [lst_len]; omega) (fun t2 => ?_)
  rw [lst_len]
  refine sfStore F (fun h2 tq2 F2 => ?_)
  dsimp only at F2 ⊢
  refine wpAny_execs_cons (wpAny_Assign_Name (nmL F2.ns rfl ?_))
  refine sfStore F2 (fun h3 tq3 F3 => ?_)
  dsimp only at F3 ⊢
  refine wpAny_execs_cons (wpAny_Assign_Name (Subscript_ (nmL F3.ns rfl (nmL F3.ns rfl ?_))))
  refine sfItem (x := val (f p)) F3 (by omega) (hnx hp) (lst_get val f hp) ?_
  refine sfStore F3 (fun h4 tq4 F4 => ?_)
  dsimp only at F4 ⊢
  refine wpAny_execs_cons (wpAny_Assign_Name (wpAny_BinOp (wpAny_BinOp (wpAny_Constant_int (nmL F4.ns rfl (mul_int (wpAny_Constant_int (add_int ?_)) (IntMulOk.of_left (by decide))))))))
  have c1 : ∀ q : Nat, (2 : Int) * (q : Int) + 1 = ((2 * q + 1 : Nat) : Int) := fun q => by omega
  rw [c1]
  refine sfStore F4 (fun h5 tq5 F5 => ?_)
  dsimp only at F5 ⊢
  -- the end
  have fin : ∀ (h : Heap) (tk : Nat) (m : Str → Option Value) (g : Nat → α) (q : Nat) (u : Tok), SF s.heap l s.heap.objs.size m (lst val g n) h → m (Str.ofString "heap") = some (.ref l) → m (Str.ofString "newitem") = some (val (f p)) →
      m (Str.ofString "startpos") = some (.int (p : Int) t1) → m (Str.ofString "pos") = some (.int (q : Int) u) → q < n → (∀ i, i < n → P (g i)) → (supL lt n n p f) = (q, g) →
      wpAny (model prog w) (A.deeper (callEnv fd101 s.heap.objs.size 101)) (execs ((fb fd101).drop 5) (callEnv fd101 s.heap.objs.size 101))
        (fun f s' => Q (match f with | .ret v => v | _ => .none) s') (fun _ _ => False) { s with heap := h, toks := tk } := by
    intro h tk m g q u G e1 e2 e3 e4 hq hPg e
    refine wpAny_execs_cons (wpAny_Assign_Subscript (nmL G.ns e2 (nmL G.ns e1 (nmL G.ns e4 ?_))))
    refine sfSet G (by omega) (hnx hq) (by rw [lst_len]; omega) (lst_set val g (f p)) fun h' G' => ?_
    dsimp only at G' ⊢
    have C' := hB h' G'.ext
    refine wpAny_execs_cons (wpAny_Expr (Call_ (nmG C' (by kernel_rfl) (callWith_def (o := { cls := .type "function", data := .func fd94 }) rfl (args_cons (nmL G'.ns e1 (args_cons (nmL G'.ns e3 (args_cons (nmL G'.ns e4 (args_nil ⟨C'.k _ _ (fn94 w), ?_⟩)))))))))))
    have hself : upd g q (f p) q = f p := by simp [upd]
    refine siftdown_spec (P := P) C' R1 G'.lst hq hn (upd_P hPg (hP p hp)) (fun x y hx hy A' E' s' Q' r e' hq' => hc x y hx hy A' E' s' Q' r (fun b o hb eb => e' b o hb (G'.ext b o hb eb)) hq') fun h6 tk6 e6 l6 => ?_
    refine wpAny_execs_nil ?_
    refine hQ h6 tk6 (fun b o hb eb => e6 b o hb (G'.ext b o hb eb)) ?_
    have : sup lt n p f = sdn lt p (upd g q (f p) q) q q (upd g q (f p)) := by
      unfold sup; rw [e, hself]
    rw [this]; exact l6
  refine wpAny_execs_cons (wpAny_While ?_)
  refine codeAny_whileLoop (SupInv s l s.heap.objs.size val lt P f n p t1 t2) ?_ (n - p)
    ⟨h5, _, _, f, p, t1, _, rfl, F5, rfl, rfl, rfl, rfl, rfl, rfl, hp, rfl, hP, n, by omega, rfl⟩
  rintro k s' ⟨h, tk, m, g, q, u, u', rfl, G, e1, e2, e3, e4, e5, e6, hq, rfl, hPg, j, hj, e⟩
  refine wpAny_isTrue_Compare1 (nmL G.ns e6 (nmL G.ns e4 (lt_int (wpAny_truthy_bool ?_))))
  by_cases hlt : 2 * q + 1 < n
  · have hd : decide (((2 * q + 1 : Nat) : Int) < (n : Int)) = true := by simp; omega
    rw [hd, if_pos rfl]
    refine hideR ?_
    intro RQ hRQ
    obtain ⟨j, rfl⟩ : ∃ j', j = j' + 1 := ⟨j - 1, by omega⟩
    rw [supL, if_pos hlt] at e
    refine wpAny_execs_cons (wpAny_Assign_Name (wpAny_BinOp (nmL G.ns e6 (wpAny_Constant_int (add_int ?_)))))
    have c2 : ((2 * q + 1 : Nat) : Int) + 1 = ((2 * q + 1 + 1 : Nat) : Int) := by omega
    rw [c2]
    refine sfStore G (fun h3 tq3 G3 => ?_)
    dsimp only at G3 ⊢
    -- the turn's last three statements, at the chosen child
    have last : ∀ (h : Heap) (tk : Nat) (m : Str → Option Value) (c : Nat) (u6 : Tok), SF s.heap l s.heap.objs.size m (lst val g n) h → m (Str.ofString "heap") = some (.ref l) → m (Str.ofString "newitem") = some (val (f p)) →
        m (Str.ofString "startpos") = some (.int (p : Int) t1) → m (Str.ofString "endpos") = some (.int (n : Int) t2) → m (Str.ofString "pos") = some (.int (q : Int) u) → m (Str.ofString "childpos") = some (.int (c : Int) u6) → c < n → q < c →
        supL lt n j c (upd g q (g c)) = supL lt n n p f →
        wpAny (model prog w) (A.deeper (callEnv fd101 s.heap.objs.size 101)) (execs ((loopBody ((fb fd101).drop 4)).drop 2) (callEnv fd101 s.heap.objs.size 101))
        (fun fl s₃ => (fl = .next ∨ fl = .cont) ∧ ∃ m', m' < n - q ∧ SupInv s l s.heap.objs.size val lt P f n p t1 t2 m' s₃) (fun _ _ => False) { s with heap := h, toks := tk } := by
      intro h tk m c u6 K f1 f2 f3 f4 f5 f6 hcn hqc he
      refine wpAny_execs_cons (wpAny_Assign_Subscript (Subscript_ (nmL K.ns f1 (nmL K.ns f6 ?_))))
      refine sfItem (x := val (g c)) K (by omega) (hnx hcn) (lst_get val g hcn) ?_
      refine nmL K.ns f1 (nmL K.ns f5 ?_)
      refine sfSet K (by omega) (hnx hq) (by rw [lst_len]; omega) (lst_set val g (g c)) fun h7 K7 => ?_
      dsimp only at K7 ⊢
      refine wpAny_execs_cons (wpAny_Assign_Name (nmL K7.ns f6 ?_))
      refine sfStore K7 (fun h8 tq8 K8 => ?_)
      dsimp only at K8 ⊢
      refine wpAny_execs_cons (wpAny_Assign_Name (wpAny_BinOp (wpAny_BinOp (wpAny_Constant_int (nmL K8.ns rfl (mul_int (wpAny_Constant_int (add_int ?_)) (IntMulOk.of_left (by decide))))))))
      rw [c1]
      refine sfStore K8 (fun h9 tq9 K9 => ?_)
      dsimp only at K9 ⊢
      refine wpAny_execs_nil ?_
      exact ⟨.inl rfl, n - c, by omega, h9, _, _, _, c, _, _, rfl, K9, f1, f2, f3, f4, rfl, rfl, hcn, rfl, upd_P hPg (hPg c hcn), j, by omega, he⟩
    refine wpAny_execs_cons (wpAny_If (isTrue_and (wpAny_isTrue_Compare1 (nmL G3.ns rfl (nmL G3.ns e4 (lt_int (wpAny_truthy_bool ?_)))))))
    by_cases hr : 2 * q + 1 + 1 < n
    · have hd2 : decide (((2 * q + 1 + 1 : Nat) : Int) < (n : Int)) = true := by simp; omega
      rw [hd2, if_pos rfl]
      refine isTrue_and (isTrue_not (wpAny_isTrue_Compare1 (Subscript_ (nmL G3.ns e1 (nmL G3.ns e6 (sfItem (x := val (g (2 * q + 1))) G3 (by omega) (hnx hlt) (lst_get val g hlt) ?_))))))
      refine Subscript_ (nmL G3.ns e1 (nmL G3.ns rfl (sfItem (x := val (g (2 * q + 1 + 1))) G3 (by omega) (hnx hr) (lst_get val g hr) ?_)))
      refine hc _ _ (hPg _ hlt) (hPg _ hr) _ _ _ _ (R1.le (by decide)) G3.ext fun tk5 => wpAny_truthy_bool ?_
      cases hx : lt (g (2 * q + 1)) (g (2 * q + 1 + 1)) with
      | false =>
        rw [if_pos ⟨hr, hx⟩] at e
        simp only [Bool.not_false, if_true]
        refine isTrue_and_nil ?_
        simp only [if_true]
        refine wpAny_execs_cons (wpAny_Assign_Name (nmL G3.ns rfl ?_))
        refine sfStore G3 (fun h6 tq6 G6 => ?_)
        dsimp only at G6 ⊢
        refine wpAny_execs_nil ?_
        exact wpAny_mono (last _ _ _ (2 * q + 1 + 1) _ G6 e1 e2 e3 e4 e5 rfl hr (by omega) e) (fun fl s₃ hh => by obtain ⟨rfl | rfl, hh⟩ := hh <;> exact hRQ _ _ hh) fun _ _ x => x.elim
      | true =>
        rw [if_neg (by rw [hx]; simp)] at e
        simp only [Bool.not_true, Bool.false_eq_true, if_false]
        refine wpAny_execs_nil ?_
        exact wpAny_mono (last _ _ _ (2 * q + 1) _ G3 e1 e2 e3 e4 e5 e6 hlt (by omega) e) (fun fl s₃ hh => by obtain ⟨rfl | rfl, hh⟩ := hh <;> exact hRQ _ _ hh) fun _ _ x => x.elim
    · have hd2 : decide (((2 * q + 1 + 1 : Nat) : Int) < (n : Int)) = false := by simp; omega
      rw [if_neg (by rintro ⟨a, _⟩; exact hr a)] at e
      rw [hd2, if_neg (by simp)]
      simp only [Bool.false_eq_true, if_false]
      refine wpAny_execs_nil ?_
      exact wpAny_mono (last _ _ _ (2 * q + 1) _ G3 e1 e2 e3 e4 e5 e6 hlt (by omega) e) (fun fl s₃ hh => by obtain ⟨rfl | rfl, hh⟩ := hh <;> exact hRQ _ _ hh) fun _ _ x => x.elim
  · have hd : decide (((2 * q + 1 : Nat) : Int) < (n : Int)) = false := by simp; omega
    rw [hd, if_neg (by simp)]
    refine wpAny_execs_nil ?_
    refine fin h tk m g q u G e1 e2 e3 e5 hq hPg ?_
    rw [← e]; cases j with
      | zero => rfl
      | succ j => rw [supL, if_neg hlt]
end
end Mine
namespace Mine
open PySem PySem.W PyProof.Rows

noncomputable def fd108 : FuncData := Subtype.val (p := fun x => x = fdOf 108) (by
  refine ⟨?_, ?_⟩
  rotate_left
  · conv => rhs; whnf)
theorem fn108 (w : World) : (HK w).lookup 108 = some { cls := .type "function", data := .func fd108 } := by kernel_rfl
noncomputable def fd115 : FuncData := Subtype.val (p := fun x => x = fdOf 115) (by
  refine ⟨?_, ?_⟩
  rotate_left
  · conv => rhs; whnf)
theorem fn115 (w : World) : (HK w).lookup 115 = some { cls := .type "function", data := .func fd115 } := by kernel_rfl

section
variable {α : Type} {prog : Program} {w : World} {A : Around} {E : Value → Shared → Prop} {s : Shared} {mg mb : Str → Option Value}

set_option maxHeartbeats 1000000 in
theorem siftdownM_spec {val : α → Value} {lt : α → α → Bool} {P : α → Prop} {l : Addr} {f : Nat → α} {n st p : Nat} {t1 t2 : Tok} {Q : Value → Shared → Prop}
    (C : Cx w mg mb s.heap) (R : Rm A 8) (hl : s.heap.PlainList l (lst val f n).toArray) (hp : p < n) (hn : n < 2 ^ 40)
    (hP : ∀ i, i < n → P (f i)) (hc : ∀ x y, P x → P y → CmpLt prog w l s.heap (val x) (val y) (lt x y))
    (hQ : ∀ h' tk, Heap.ExtBut l s.heap h' → h'.PlainList l (lst val (sdn (fun x y => lt y x) st (f p) p p f) n).toArray → Q .none { s with heap := h', toks := tk }) :
    wpAny (model prog w) A (call (.ref 108) [.ref l, .int (st : Int) t1, .int (p : Int) t2]) Q E s := by
  refine enterF [(Str.ofString "heap", .ref l), (Str.ofString "startpos", .int (st : Int) t1), (Str.ofString "pos", .int (p : Int) t2)] C R (fn108 w) (by kernel_rfl) rfl (BindsTo.of_eq rfl) (by rfl) (by decide) (fun h1 hns hk C1 R1 => ?_)
  have F : SF s.heap l s.heap.objs.size (fun x => [(Str.ofString "heap", Value.ref l), (Str.ofString "startpos", .int (st : Int) t1), (Str.ofString "pos", .int (p : Int) t2)].reverse.lookup x) (lst val f n) h1 := by
    refine ⟨hns, fun b o _ e => hk b o e, ?_, Nat.le_refl _, ?_⟩
    · exact hl.at fun o e => hk _ _ e
    · obtain ⟨n', ho⟩ := hl; exact Heap.lt_size ho
  refine wpAny_execs_cons (wpAny_Assign_Name (Subscript_ (nmL F.ns rfl (nmL F.ns rfl ?_))))
  have hnx : ∀ {a : Nat}, a < n → ((a : Nat) : Int) < 2 ^ 63 := fun {a} ha => by omega
  refine sfItem (x := val (f p)) F (by omega) (hnx hp) (lst_get val f hp) ?_
  refine sfStore F (fun h2 tq2 F2 => ?_)
  dsimp only at F2 ⊢
  -- the end: heap[pos] = newitem
  have fin : ∀ (h : Heap) (tk : Nat) (m : Str → Option Value) (g : Nat → α) (q : Nat) (u : Tok), SF s.heap l s.heap.objs.size m (lst val g n) h → m (Str.ofString "heap") = some (.ref l) → m (Str.ofString "newitem") = some (val (f p)) →
      m (Str.ofString "pos") = some (.int (q : Int) u) → q < n → upd g q (f p) = sdn (fun x y => lt y x) st (f p) p p f →
      wpAny (model prog w) (A.deeper (callEnv fd108 s.heap.objs.size 108)) (execs ((fb fd108).drop 2) (callEnv fd108 s.heap.objs.size 108))
        (fun f s' => Q (match f with | .ret v => v | _ => .none) s') (fun _ _ => False) { s with heap := h, toks := tk } := by
    intro h tk m g q u G e1 e2 e3 hq e
    refine wpAny_execs_cons (wpAny_Assign_Subscript (nmL G.ns e2 (nmL G.ns e1 (nmL G.ns e3 ?_))))
    refine sfSet G (by omega) (hnx hq) (by rw [lst_len]; omega) (lst_set val g (f p)) fun h' G' => ?_
    refine wpAny_execs_nil ?_
    exact hQ h' tk G'.ext (by rw [← e]; exact G'.lst)
  refine wpAny_execs_cons (wpAny_While ?_)
  refine codeAny_whileLoop (fun k s' => ∃ h tk m g u, s' = { s with heap := h, toks := tk } ∧ SF s.heap l s.heap.objs.size m (lst val g n) h ∧ m (Str.ofString "heap") = some (.ref l) ∧ m (Str.ofString "newitem") = some (val (f p)) ∧
      m (Str.ofString "startpos") = some (.int (st : Int) t1) ∧ m (Str.ofString "pos") = some (.int (k : Int) u) ∧ k < n ∧ (∀ i, i < n → P (g i)) ∧ ∃ j, k ≤ j ∧ sdn (fun x y => lt y x) st (f p) j k g = sdn (fun x y => lt y x) st (f p) p p f) ?_ p
    ⟨h2, _, _, f, t2, rfl, F2, rfl, rfl, rfl, rfl, hp, hP, p, Nat.le_refl _, rfl⟩
  rintro k s' ⟨h, tk, m, g, u, rfl, G, e1, e2, e3, e4, hk, hPg, j, hj, e⟩
  refine wpAny_isTrue_Compare1 (nmL G.ns e4 (nmL G.ns e3 (SiftDown.gt_int (wpAny_truthy_bool ?_))))
  by_cases hlt : st < k
  · have hd : decide ((k : Int) > (st : Int)) = true := by simp; omega
    rw [hd, if_pos rfl]
    refine hideR ?_
    intro RQ hRQ
    refine wpAny_execs_cons (wpAny_Assign_Name (wpAny_BinOp (wpAny_BinOp (nmL G.ns e4 (wpAny_Constant_int (SiftDown.sub_int (wpAny_Constant_int (rshift_int (by decide) ?_))))))))
    have ev : ((k : Int) - 1).fdiv (2 ^ (1 : Int).toNat) = (((k - 1) / 2 : Nat) : Int) := by
      rw [Int.fdiv_eq_ediv_of_nonneg _ (by decide)]; simp; omega
    rw [ev]
    have hk2 : (k - 1) / 2 < n := by omega
    refine sfStore G (fun h3 tq3 G3 => ?_)
    dsimp only at G3 ⊢
    refine wpAny_execs_cons (wpAny_Assign_Name (Subscript_ (nmL G3.ns e1 (nmL G3.ns rfl ?_))))
    refine sfItem (x := val (g ((k - 1) / 2))) G3 (by omega) (hnx hk2) (lst_get val g hk2) ?_
    refine sfStore G3 (fun h4 tq4 G4 => ?_)
    dsimp only at G4 ⊢
    refine wpAny_execs_cons (wpAny_If (wpAny_isTrue_Compare1 (nmL G4.ns rfl (nmL G4.ns e2 ?_))))
    refine hc _ _ (hPg _ hk2) (hP p hp) _ _ _ _ (R1.le (by decide)) G4.ext fun tk5 => wpAny_truthy_bool ?_
    have hj' : ∃ j', j = j' + 1 := ⟨j - 1, by omega⟩
    obtain ⟨j, rfl⟩ := hj'
    rw [sdn, if_pos hlt] at e
    by_cases hx : lt (g ((k - 1) / 2)) (f p) = true
    · rw [if_pos hx]
      rw [if_pos hx] at e
      refine wpAny_execs_cons (wpAny_Assign_Subscript (nmL G4.ns rfl (nmL G4.ns e1 (nmL G4.ns e4 ?_))))
      refine sfSet G4 (by omega) (hnx hk) (by rw [lst_len]; omega) (lst_set val g _) fun h5 G5 => ?_
      dsimp only at G5 ⊢
      refine wpAny_execs_cons (wpAny_Assign_Name (nmL G5.ns rfl ?_))
      refine sfStore G5 (fun h6 tq6 G6 => ?_)
      dsimp only at G6 ⊢
      refine wpAny_execs_cons (SiftDown.continue_ ?_)
      refine hRQ _ _ ?_
      refine ⟨(k - 1) / 2, by omega, h6, _, _, _, _, rfl, G6, e1, e2, e3, rfl, hk2, ?_, j, by omega, e⟩
      intro i hi
      unfold upd
      split
      · exact hPg _ hk2
      · exact hPg _ hi
    · rw [if_neg hx]
      rw [if_neg hx] at e
      refine wpAny_execs_nil ?_
      refine wpAny_execs_cons (SiftDown.break_ ?_)
      refine hRQ _ _ ?_
      exact fin h4 _ _ g k u G4 e1 e2 e4 hk e
  · have hd : decide ((k : Int) > (st : Int)) = false := by simp; omega
    rw [hd, if_neg (by simp)]
    refine wpAny_execs_nil ?_
    have e' : upd g k (f p) = sdn (fun x y => lt y x) st (f p) p p f := by
      rw [← e]; cases j with
      | zero => rfl
      | succ j => rw [sdn, if_neg hlt]
    exact fin h tk m g k u G e1 e2 e4 hk e'
set_option maxHeartbeats 1000000 in
theorem siftupM_spec {val : α → Value} {lt : α → α → Bool} {P : α → Prop} {l : Addr} {f : Nat → α} {n p : Nat} {t1 : Tok} {Q : Value → Shared → Prop}
    (C : Cx w mg mb s.heap) (hB : ∀ h', Heap.ExtBut l s.heap h' → Cx w mg mb h') (R : Rm A 9) (hl : s.heap.PlainList l (lst val f n).toArray) (hp : p < n) (hn : n < 2 ^ 40)
    (hP : ∀ i, i < n → P (f i)) (hc : ∀ x y, P x → P y → CmpLt prog w l s.heap (val x) (val y) (lt x y))
    (hQ : ∀ h' tk, Heap.ExtBut l s.heap h' → h'.PlainList l (lst val (sup (fun x y => lt y x) n p f) n).toArray → Q .none { s with heap := h', toks := tk }) :
    wpAny (model prog w) A (call (.ref 115) [.ref l, .int (p : Int) t1]) Q E s := by
  refine enterF [(Str.ofString "heap", .ref l), (Str.ofString "pos", .int (p : Int) t1)] C R (fn115 w) (by kernel_rfl) rfl (BindsTo.of_eq rfl) (by rfl) (by decide) (fun h1 hns hk C1 R1 => ?_)
  have F : SF s.heap l s.heap.objs.size (fun x => [(Str.ofString "heap", Value.ref l), (Str.ofString "pos", .int (p : Int) t1)].reverse.lookup x) (lst val f n) h1 := by
    refine ⟨hns, fun b o _ e => hk b o e, ?_, Nat.le_refl _, ?_⟩
    · exact hl.at fun o e => hk _ _ e
    · obtain ⟨n', ho⟩ := hl; exact Heap.lt_size ho
  have hnx : ∀ {a : Nat}, a < n → ((a : Nat) : Int) < 2 ^ 63 := fun {a} ha => by omega
  refine wpAny_execs_cons (wpAny_Assign_Name (Call_ (nmB C1 (by kernel_rfl) boot_len (by decide) (callWith_builtin1 (args_cons (nmL F.ns rfl (args_nil ?_)))))))
  refine lenList F.lst (by rw [lst_len]; omega) (fun t2 => ?_)
  rw [lst_len]
  refine sfStore F (fun h2 tq2 F2 => ?_)
  dsimp only at F2 ⊢
  refine wpAny_execs_cons (wpAny_Assign_Name (nmL F2.ns rfl ?_))
  refine sfStore F2 (fun h3 tq3 F3 => ?_)
  dsimp only at F3 ⊢
  refine wpAny_execs_cons (wpAny_Assign_Name (Subscript_ (nmL F3.ns rfl (nmL F3.ns rfl ?_))))
  refine sfItem (x := val (f p)) F3 (by omega) (hnx hp) (lst_get val f hp) ?_
  refine sfStore F3 (fun h4 tq4 F4 => ?_)
  dsimp only at F4 ⊢
  refine wpAny_execs_cons (wpAny_Assign_Name (wpAny_BinOp (wpAny_BinOp (wpAny_Constant_int (nmL F4.ns rfl (mul_int (wpAny_Constant_int (add_int ?_)) (IntMulOk.of_left (by decide))))))))
  have c1 : ∀ q : Nat, (2 : Int) * (q : Int) + 1 = ((2 * q + 1 : Nat) : Int) := fun q => by omega
  rw [c1]
  refine sfStore F4 (fun h5 tq5 F5 => ?_)
  dsimp only at F5 ⊢
  -- the end
  have fin : ∀ (h : Heap) (tk : Nat) (m : Str → Option Value) (g : Nat → α) (q : Nat) (u : Tok), SF s.heap l s.heap.objs.size m (lst val g n) h → m (Str.ofString "heap") = some (.ref l) → m (Str.ofString "newitem") = some (val (f p)) →
      m (Str.ofString "startpos") = some (.int (p : Int) t1) → m (Str.ofString "pos") = some (.int (q : Int) u) → q < n → (∀ i, i < n → P (g i)) → (supL (fun x y => lt y x) n n p f) = (q, g) →
      wpAny (model prog w) (A.deeper (callEnv fd115 s.heap.objs.size 115)) (execs ((fb fd115).drop 5) (callEnv fd115 s.heap.objs.size 115))
        (fun f s' => Q (match f with | .ret v => v | _ => .none) s') (fun _ _ => False) { s with heap := h, toks := tk } := by
    intro h tk m g q u G e1 e2 e3 e4 hq hPg e
    refine wpAny_execs_cons (wpAny_Assign_Subscript (nmL G.ns e2 (nmL G.ns e1 (nmL G.ns e4 ?_))))
    refine sfSet G (by omega) (hnx hq) (by rw [lst_len]; omega) (lst_set val g (f p)) fun h' G' => ?_
    dsimp only at G' ⊢
    have C' := hB h' G'.ext
    refine wpAny_execs_cons (wpAny_Expr (Call_ (nmG C' (by kernel_rfl) (callWith_def (o := { cls := .type "function", data := .func fd108 }) rfl (args_cons (nmL G'.ns e1 (args_cons (nmL G'.ns e3 (args_cons (nmL G'.ns e4 (args_nil ⟨C'.k _ _ (fn108 w), ?_⟩)))))))))))
    have hself : upd g q (f p) q = f p := by simp [upd]
    refine siftdownM_spec (P := P) C' R1 G'.lst hq hn (upd_P hPg (hP p hp)) (fun x y hx hy A' E' s' Q' r e' hq' => hc x y hx hy A' E' s' Q' r (fun b o hb eb => e' b o hb (G'.ext b o hb eb)) hq') fun h6 tk6 e6 l6 => ?_
    refine wpAny_execs_nil ?_
    refine hQ h6 tk6 (fun b o hb eb => e6 b o hb (G'.ext b o hb eb)) ?_
    have : sup (fun x y => lt y x) n p f = sdn (fun x y => lt y x) p (upd g q (f p) q) q q (upd g q (f p)) := by
      unfold sup; rw [e, hself]
    rw [this]; exact l6
  refine wpAny_execs_cons (wpAny_While ?_)
  refine codeAny_whileLoop (SupInv s l s.heap.objs.size val (fun x y => lt y x) P f n p t1 t2) ?_ (n - p)
    ⟨h5, _, _, f, p, t1, _, rfl, F5, rfl, rfl, rfl, rfl, rfl, rfl, hp, rfl, hP, n, by omega, rfl⟩
  rintro k s' ⟨h, tk, m, g, q, u, u', rfl, G, e1, e2, e3, e4, e5, e6, hq, rfl, hPg, j, hj, e⟩
  refine wpAny_isTrue_Compare1 (nmL G.ns e6 (nmL G.ns e4 (lt_int (wpAny_truthy_bool ?_))))
  by_cases hlt : 2 * q + 1 < n
  · have hd : decide (((2 * q + 1 : Nat) : Int) < (n : Int)) = true := by simp; omega
    rw [hd, if_pos rfl]
    refine hideR ?_
    intro RQ hRQ
    obtain ⟨j, rfl⟩ : ∃ j', j = j' + 1 := ⟨j - 1, by omega⟩
    rw [supL, if_pos hlt] at e
    refine wpAny_execs_cons (wpAny_Assign_Name (wpAny_BinOp (nmL G.ns e6 (wpAny_Constant_int (add_int ?_)))))
    have c2 : ((2 * q + 1 : Nat) : Int) + 1 = ((2 * q + 1 + 1 : Nat) : Int) := by omega
    rw [c2]
    refine sfStore G (fun h3 tq3 G3 => ?_)
    dsimp only at G3 ⊢
    -- the turn's last three statements, at the chosen child
    have last : ∀ (h : Heap) (tk : Nat) (m : Str → Option Value) (c : Nat) (u6 : Tok), SF s.heap l s.heap.objs.size m (lst val g n) h → m (Str.ofString "heap") = some (.ref l) → m (Str.ofString "newitem") = some (val (f p)) →
        m (Str.ofString "startpos") = some (.int (p : Int) t1) → m (Str.ofString "endpos") = some (.int (n : Int) t2) → m (Str.ofString "pos") = some (.int (q : Int) u) → m (Str.ofString "childpos") = some (.int (c : Int) u6) → c < n → q < c →
        supL (fun x y => lt y x) n j c (upd g q (g c)) = supL (fun x y => lt y x) n n p f →
        wpAny (model prog w) (A.deeper (callEnv fd115 s.heap.objs.size 115)) (execs ((loopBody ((fb fd115).drop 4)).drop 2) (callEnv fd115 s.heap.objs.size 115))
        (fun fl s₃ => (fl = .next ∨ fl = .cont) ∧ ∃ m', m' < n - q ∧ SupInv s l s.heap.objs.size val (fun x y => lt y x) P f n p t1 t2 m' s₃) (fun _ _ => False) { s with heap := h, toks := tk } := by
      intro h tk m c u6 K f1 f2 f3 f4 f5 f6 hcn hqc he
      refine wpAny_execs_cons (wpAny_Assign_Subscript (Subscript_ (nmL K.ns f1 (nmL K.ns f6 ?_))))
      refine sfItem (x := val (g c)) K (by omega) (hnx hcn) (lst_get val g hcn) ?_
      refine nmL K.ns f1 (nmL K.ns f5 ?_)
      refine sfSet K (by omega) (hnx hq) (by rw [lst_len]; omega) (lst_set val g (g c)) fun h7 K7 => ?_
      dsimp only at K7 ⊢
      refine wpAny_execs_cons (wpAny_Assign_Name (nmL K7.ns f6 ?_))
      refine sfStore K7 (fun h8 tq8 K8 => ?_)
      dsimp only at K8 ⊢
      refine wpAny_execs_cons (wpAny_Assign_Name (wpAny_BinOp (wpAny_BinOp (wpAny_Constant_int (nmL K8.ns rfl (mul_int (wpAny_Constant_int (add_int ?_)) (IntMulOk.of_left (by decide))))))))
      rw [c1]
      refine sfStore K8 (fun h9 tq9 K9 => ?_)
      dsimp only at K9 ⊢
      refine wpAny_execs_nil ?_
      exact ⟨.inl rfl, n - c, by omega, h9, _, _, _, c, _, _, rfl, K9, f1, f2, f3, f4, rfl, rfl, hcn, rfl, upd_P hPg (hPg c hcn), j, by omega, he⟩
    refine wpAny_execs_cons (wpAny_If (isTrue_and (wpAny_isTrue_Compare1 (nmL G3.ns rfl (nmL G3.ns e4 (lt_int (wpAny_truthy_bool ?_)))))))
    by_cases hr : 2 * q + 1 + 1 < n
    · have hd2 : decide (((2 * q + 1 + 1 : Nat) : Int) < (n : Int)) = true := by simp; omega
      rw [hd2, if_pos rfl]
      refine isTrue_and (isTrue_not (wpAny_isTrue_Compare1 (Subscript_ (nmL G3.ns e1 (nmL G3.ns rfl (sfItem (x := val (g (2 * q + 1 + 1))) G3 (by omega) (hnx hr) (lst_get val g hr) ?_))))))
      refine Subscript_ (nmL G3.ns e1 (nmL G3.ns e6 (sfItem (x := val (g (2 * q + 1))) G3 (by omega) (hnx hlt) (lst_get val g hlt) ?_)))
      refine hc _ _ (hPg _ hr) (hPg _ hlt) _ _ _ _ (R1.le (by decide)) G3.ext fun tk5 => wpAny_truthy_bool ?_
      cases hx : lt (g (2 * q + 1 + 1)) (g (2 * q + 1)) with
      | false =>
        rw [if_pos ⟨hr, hx⟩] at e
        simp only [Bool.not_false, if_true]
        refine isTrue_and_nil ?_
        simp only [if_true]
        refine wpAny_execs_cons (wpAny_Assign_Name (nmL G3.ns rfl ?_))
        refine sfStore G3 (fun h6 tq6 G6 => ?_)
        dsimp only at G6 ⊢
        refine wpAny_execs_nil ?_
        exact wpAny_mono (last _ _ _ (2 * q + 1 + 1) _ G6 e1 e2 e3 e4 e5 rfl hr (by omega) e) (fun fl s₃ hh => by obtain ⟨rfl | rfl, hh⟩ := hh <;> exact hRQ _ _ hh) fun _ _ x => x.elim
      | true =>
        rw [if_neg (by rw [hx]; simp)] at e
        simp only [Bool.not_true, Bool.false_eq_true, if_false]
        refine wpAny_execs_nil ?_
        exact wpAny_mono (last _ _ _ (2 * q + 1) _ G3 e1 e2 e3 e4 e5 e6 hlt (by omega) e) (fun fl s₃ hh => by obtain ⟨rfl | rfl, hh⟩ := hh <;> exact hRQ _ _ hh) fun _ _ x => x.elim
    · have hd2 : decide (((2 * q + 1 + 1 : Nat) : Int) < (n : Int)) = false := by simp; omega
      rw [if_neg (by rintro ⟨a, _⟩; exact hr a)] at e
      rw [hd2, if_neg (by simp)]
      simp only [Bool.false_eq_true, if_false]
      refine wpAny_execs_nil ?_
      exact wpAny_mono (last _ _ _ (2 * q + 1) _ G3 e1 e2 e3 e4 e5 e6 hlt (by omega) e) (fun fl s₃ hh => by obtain ⟨rfl | rfl, hh⟩ := hh <;> exact hRQ _ _ hh) fun _ _ x => x.elim
  · have hd : decide (((2 * q + 1 : Nat) : Int) < (n : Int)) = false := by simp; omega
    rw [hd, if_neg (by simp)]
    refine wpAny_execs_nil ?_
    refine fin h tk m g q u G e1 e2 e3 e5 hq hPg ?_
    rw [← e]; cases j with
      | zero => rfl
      | succ j => rw [supL, if_neg hlt]
end
end Mine
namespace Mine
open PySem PySem.W PyProof.Rows

section
variable {prog : Program} {w : World} {A : Around} {E : Value → Shared → Prop} {s : Shared}

theorem rev_fits {n : Int} (h0 : 0 ≤ n) (hn : n < 2 ^ 62) : (Builtin.Range.rangeFitsLong 0 && Builtin.Range.rangeFitsLong n && Builtin.Range.rangeFitsLong 1 && Builtin.Range.rangeFitsLong (-1) && Builtin.Range.rangeFitsLong (0 - 1) && Builtin.Range.rangeFitsLong n) = true := by
  simp only [Builtin.Range.rangeFitsLong, Bool.and_eq_true, decide_eq_true_eq]
  omega
theorem rangeSize0 {n : Int} (h0 : 0 ≤ n) : Builtin.Range.rangeSize 0 n 1 = n := by
  rw [rangeSize_one]; split <;> omega

theorem call_range_rev {r : Addr} {n : Int} {t u v : Tok} {Q : Value → Shared → Prop} (hr : IsRange s.heap r 0 n 1 t u v) (h0 : 0 ≤ n) (hn : n < 2 ^ 62)
    (h : Q (.ref s.heap.objs.size) { s with heap := s.heap.push { cls := .type "range_iterator", data := .fields #[rawInt (n - 1), rawInt n, rawInt (-1)] } }) :
    wpAny (model prog w) A (call (.builtin "range.__reversed__") [.ref r]) Q E s := by
  refine wpAny_call_entry F.slot_range_reversed ⟨_, hr, rfl⟩ F.entry_range_reversed ?_ (F.args_range_reversed_1 _)
  unfold Builtin.«range.__reversed__»
  refine wpAny_bind (wpAny_of_eq (a := Value.ref r) rfl ?_)
  refine wpAny_bind (m := Builtin.Range.rangeFields (.ref r)) ?_
  unfold Builtin.Range.rangeFields
  refine wpAny_bind (wpAny_field hr rfl rfl (wpAny_bind (wpAny_of_eq (a := some (0 : Int)) rfl (wpAny_bind (wpAny_field hr rfl rfl (wpAny_bind (wpAny_of_eq (a := some n) rfl (wpAny_bind (wpAny_field hr rfl rfl (wpAny_bind (wpAny_of_eq (a := some (1 : Int)) rfl (wpAny_pure ?_))))))))))))
  dsimp only
  rw [rangeSize0 h0, rev_fits h0 hn]
  simp only [Bool.not_true, Bool.false_eq_true, if_false, if_true]
  refine wpAny_bind (wpAny_newObj_type (wpAny_pure ⟨_, rfl, ?_⟩) (by size_fits))
  have e : (0 : Int) + (n - 1) * 1 = n - 1 := by omega
  rw [e]
  exact h

theorem sub_ri_reversed : isSubtype (.type "range_iterator") (.type "reversed") = pure false := by rw [isSubtype_type]; kernel_rfl

theorem code_reversed_range {r : Addr} {n : Int} {t u v : Tok} {Q₁ : Value → Shared → Prop} (hr : IsRange s.heap r 0 n 1 t u v) (h0 : 0 ≤ n) (hn : n < 2 ^ 62)
    (h : Q₁ (.ref s.heap.objs.size) { s with heap := s.heap.push { cls := .type "range_iterator", data := .fields #[rawInt (n - 1), rawInt n, rawInt (-1)] } }) :
    codeAny (model prog w) A (.call (.builtin "reversed.__new__") ⟨[.type "reversed", .ref r], []⟩) (wants Q₁ E) s := by
  have hT : s.TypeIs (.ref r) "range" := ⟨_, hr, rfl⟩
  refine codeAny_of_tree ?_
  show wpAny _ A.in1 (do checkBuiltinCall "reversed.__new__" ⟨[.type "reversed", .ref r], []⟩; again (.builtin "reversed.__new__" ⟨[.type "reversed", .ref r], []⟩)) _ _ s
  refine wpAny_bind (wpAny_of_eq (F.newCall_reversed_1 _) (wpAny_pure ⟨plainId_quiet F.plain_reversed_new _, codeAny_builtin F.entry_reversed_new ?_⟩))
  rw [Around.under_plainId F.plain_reversed_new _]
  unfold Builtin.«reversed.__new__»
  refine wpAny_bind (wpAny_of_eq (newClass_reversed _) ?_)
  try dsimp only
  refine wpAny_bind (wpAny_of_eq (a := ()) (by first | rfl | kernel_rfl) ?_)
  refine wpAny_bind (wpAny_of_eq (a := ()) (by first | rfl | kernel_rfl) ?_)
  try dsimp only
  refine wpAny_bind (wpAny_specialOf hT F.slot_range_reversed.lookup ?_)
  try dsimp only
  refine wpAny_bind (wpAny_of_eq (F.slot_range_reversed.bind _) ?_)
  try dsimp only
  first
  | rw [if_neg (show ¬ ((Value.builtin "range.__reversed__" == Value.none) = true) from Bool.false_ne_true)]
  | (show wpAny _ _ (if (Value.builtin "range.__reversed__" == Value.none) = true then _ else _) _ _ _; rw [if_neg (show ¬ ((Value.builtin "range.__reversed__" == Value.none) = true) from Bool.false_ne_true)])
  refine wpAny_bind (wpAny_rule ?_)
  refine wpAny_bind (m := runValue (.call (.builtin "range.__reversed__") ⟨[.ref r], []⟩)) (show wpAny _ _ (call (.builtin "range.__reversed__") [.ref r]) _ _ _ from call_range_rev hr h0 hn ?_)
  first
  | exact wpAny_pure h
  | exact wpAny_bind (wpAny_pure (wpAny_pure h))

theorem call_reversed_range {r : Addr} {n : Int} {t u v : Tok} {Q : Value → Shared → Prop} (hr : IsRange s.heap r 0 n 1 t u v) (h0 : 0 ≤ n) (hn : n < 2 ^ 62)
    (h : Q (.ref s.heap.objs.size) { s with heap := s.heap.push { cls := .type "range_iterator", data := .fields #[rawInt (n - 1), rawInt n, rawInt (-1)] } }) :
    wpAny (model prog w) A (call (.type "reversed") [.ref r]) Q E s := by
  refine callType_other (U := "range_iterator") (Q₁ := fun obj s₁ => obj = .ref s.heap.objs.size ∧ s₁ = { s with heap := s.heap.push { cls := .type "range_iterator", data := .fields #[rawInt (n - 1), rawInt n, rawInt (-1)] } }) (by decide +kernel) F.create_reversed ⟨_, _, F.mro_reversed⟩ F.made_reversed sub_ri_reversed (F.typeCall_reversed_1 _) (code_reversed_range hr h0 hn ⟨rfl, rfl⟩) ?_
  rintro obj s₁ ⟨rfl, rfl⟩
  exact ⟨⟨_, Heap.get?_push_size _ rfl, rfl⟩, h⟩
end
noncomputable def fd73 : FuncData := Subtype.val (p := fun x => x = fdOf 73) (by
  refine ⟨?_, ?_⟩
  rotate_left
  · conv => rhs; whnf)
theorem fn73 (w : World) : (HK w).lookup 73 = some { cls := .type "function", data := .func fd73 } := by kernel_rfl
noncomputable def fd87 : FuncData := Subtype.val (p := fun x => x = fdOf 87) (by
  refine ⟨?_, ?_⟩
  rotate_left
  · conv => rhs; whnf)
theorem fn87 (w : World) : (HK w).lookup 87 = some { cls := .type "function", data := .func fd87 } := by kernel_rfl

section
variable {α : Type}
noncomputable def hfy (lt : α → α → Bool) (n : Nat) : Nat → (Nat → α) → (Nat → α)
  | 0, f => f
  | k + 1, f => hfy lt n k (sup lt n k f)

theorem sdn_P {lt : α → α → Bool} {P : α → Prop} {st n : Nat} {x : α} (hx : P x) : ∀ (k p : Nat) (f : Nat → α), p < n → (∀ i, i < n → P (f i)) → ∀ i, i < n → P (sdn lt st x k p f i)
  | 0, p, f, hp, h => upd_P h hx
  | k + 1, p, f, hp, h => by
    rw [sdn]
    split
    · split
      · exact sdn_P hx k _ _ (by omega) (upd_P h (h _ (by omega)))
      · exact upd_P h hx
    · exact upd_P h hx
theorem supL_P {lt : α → α → Bool} {P : α → Prop} {n : Nat} : ∀ (k p : Nat) (f : Nat → α), p < n → (∀ i, i < n → P (f i)) → (supL lt n k p f).1 < n ∧ ∀ i, i < n → P ((supL lt n k p f).2 i)
  | 0, p, f, hp, h => ⟨hp, h⟩
  | k + 1, p, f, hp, h => by
    rw [supL]
    split
    · split
      · rename_i h1 h2
        exact supL_P k _ _ h2.1 (upd_P h (h _ h2.1))
      · rename_i h1 h2
        exact supL_P k _ _ h1 (upd_P h (h _ h1))
    · exact ⟨hp, h⟩
theorem sup_P {lt : α → α → Bool} {P : α → Prop} {n p : Nat} {f : Nat → α} (h : ∀ i, i < n → P (f i)) (hp : p < n) : ∀ i, i < n → P (sup lt n p f i) := by
  unfold sup
  have := supL_P (lt := lt) n p f hp h
  exact sdn_P (h p hp) _ _ _ this.1 (upd_P this.2 (h p hp))
end

section
variable {α : Type} {prog : Program} {w : World} {A : Around} {E : Value → Shared → Prop} {s : Shared} {mg mb : Str → Option Value}

set_option maxHeartbeats 1000000 in
theorem heapify_spec {val : α → Value} {lt : α → α → Bool} {P : α → Prop} {l : Addr} {f : Nat → α} {n : Nat} {Q : Value → Shared → Prop}
    (hB : ∀ h', Heap.ExtBut l s.heap h' → Cx w mg mb h') (R : Rm A 10) (hl : s.heap.PlainList l (lst val f n).toArray) (hn : n < 2 ^ 40)
    (hP : ∀ i, i < n → P (f i)) (hc : ∀ x y, P x → P y → CmpLt prog w l s.heap (val x) (val y) (lt x y))
    (hQ : ∀ h' tk, Heap.ExtBut l s.heap h' → h'.PlainList l (lst val (hfy lt n (n / 2) f) n).toArray → Q .none { s with heap := h', toks := tk }) :
    wpAny (model prog w) A (call (.ref 73) [.ref l]) Q E s := by
  have C := hB s.heap fun b o _ e => e
  refine enterF [(Str.ofString "x", .ref l)] C R (fn73 w) (by kernel_rfl) rfl (BindsTo.of_eq rfl) (by rfl) (by decide) (fun h1 hns hk C1 R1 => ?_)
  have hold : l < s.heap.objs.size := by obtain ⟨n', ho⟩ := hl; exact Heap.lt_size ho
  have hl1 : h1.PlainList l (lst val f n).toArray := hl.at fun o e => hk _ _ e
  refine wpAny_execs_cons (wpAny_Assign_Name (Call_ (nmB C1 (by kernel_rfl) boot_len (by decide) (callWith_builtin1 (args_cons (nmL hns rfl (args_nil ?_)))))))
  refine lenList hl1 (by rw [lst_len]; omega) (fun t2 => ?_)
  rw [lst_len]
  refine stN rfl hns (fun h2 tq2 hns2 hs2 => ?_)
  dsimp only at hns2 hs2 ⊢
  have hneL : l ≠ s.heap.objs.size := Nat.ne_of_lt hold
  have hl2 := plain_same hl1 hs2 hneL
  have k2 : Keep s.heap h2 := fun b o e => (hs2.2 b (Nat.ne_of_lt (Heap.lt_size e))).trans (hk b o e)
  have C2 := C.keeps k2
  refine wpAny_execs_cons (wpAny_For (Call_ (nmB C2 (by kernel_rfl) boot_reversed (by decide) (callWith_type1 (args_cons (Call_ (nmB C2 (by kernel_rfl) boot_range (by decide) (callWith_type1 (args_cons (wpAny_BinOp (nmL hns2 rfl (wpAny_Constant_int (floordiv_int (by decide) (args_nil (call_range_1 (args_nil ?_))))))))))))))))
  have ev : ((n : Nat) : Int).fdiv 2 = ((n / 2 : Nat) : Int) := by
    rw [Int.fdiv_eq_ediv_of_nonneg _ (by decide)]; simp
  rw [ev]
  have hlt2 : s.heap.objs.size < h2.objs.size := hns2.lt
  refine call_reversed_range (n := ((n / 2 : Nat) : Int)) (Heap.get?_push_size _ rfl) (by omega) (by omega) ?_
  dsimp only
  generalize hH3 : (h2.push { cls := Value.type "range", data := Data.fields #[Value.int 0 _, Value.int _ _, Value.int 1 _] }) = h3
  have k23 : Keep h2 h3 := fun b o e => by rw [← hH3]; exact Heap.get?_push_of_some _ e
  have hsz3 : h3.objs.size = h2.objs.size + 1 := by rw [← hH3, Heap.size_push]
  generalize hH4 : (h3.push { cls := Value.type "range_iterator", data := Data.fields #[rawInt (((n / 2 : Nat) : Int) - 1), rawInt ((n / 2 : Nat) : Int), rawInt (-1)] }) = h4
  have k34 : Keep h3 h4 := fun b o e => by rw [← hH4]; exact Heap.get?_push_of_some _ e
  have hI4 : IsRangeIter h4 h3.objs.size (((n / 2 : Nat) : Int) - 1) ((n / 2 : Nat) : Int) (-1) := by rw [← hH4]; exact Heap.get?_push_size _ rfl
  refine wpAny_pyIter_rangeiter hI4 ?_
  have hIL : h3.objs.size ≠ s.heap.objs.size := by rw [hsz3]; omega
  have hIl : h3.objs.size ≠ l := by rw [hsz3]; exact Nat.ne_of_gt (Nat.lt_succ_of_lt (Nat.lt_trans hold hlt2))
  obtain ⟨Inv, hInv⟩ : ∃ Inv : Nat → Shared → Prop, ∀ k s', Inv k s' ↔ (∃ (h : Heap) (tk : Nat) (m : Str → Option Value) (g : Nat → α) (j : Nat), s' = { s with heap := h, toks := tk } ∧ h.Ns s.heap.objs.size m ∧ m (Str.ofString "x") = some (.ref l) ∧
      h.PlainList l (lst val g n).toArray ∧ IsRangeIter h h3.objs.size ((j : Int) - 1) (j : Int) (-1) ∧ Heap.ExtBut l s.heap h ∧ (∀ i, i < n → P (g i)) ∧ hfy lt n j g = hfy lt n (n / 2) f ∧ j ≤ n / 2 ∧ k = j) := ⟨_, fun _ _ => Iff.rfl⟩
  refine codeAny_forLoop Inv ?_ (n / 2)
    ((hInv _ _).2 ⟨h4, _, _, f, n / 2, rfl, (hns2.keeps k23).keeps k34, rfl, ?_, hI4, fun b o _ e => k34 _ _ (k23 _ _ (k2 _ _ e)), hP, rfl, Nat.le_refl _, rfl⟩)
  · intro k s' hI0
    obtain ⟨h, tk, m, g, j, rfl, N, e1, hg, hI, hx, hPg, e, hj, rfl⟩ := (hInv _ _).1 hI0
    clear hI0
    cases k with
    | zero =>
      refine wpAny_pyNext_range_end R1.hh hI (by simp) fun h5 hx5 => ?_
      dsimp only
      refine wpAny_execs_nil ?_
      refine wpAny_execs_nil ?_
      refine hQ h5 _ (fun b o hb eb => hx5 b o ?_ (hx b o hb eb)) ?_
      · exact Nat.ne_of_lt (Nat.lt_trans (Heap.lt_size eb) (by rw [hsz3]; exact Nat.lt_succ_of_lt hlt2))
      · rw [← e]; exact hg.extBut hx5 hIl.symm
    | succ k =>
      have ev2 : ((k + 1 : Nat) : Int) - 1 = (k : Int) := by omega
      have ev3 : ((k + 1 : Nat) : Int) = (k : Int) + 1 := by omega
      rw [ev2, ev3] at hI
      refine wpAny_pyNext_range_item hI (by omega) fun h5 hI5 hs5 => ?_
      dsimp only at hI5 hs5 ⊢
      refine wpAny_assign_Name (stN rfl (N.sameBut hs5 hIL.symm) (fun h6 tq6 N6 hs6 => ?_))
      dsimp only at N6 hs6 ⊢
      refine hideR ?_
      intro RQ hRQ
      have hg6 : h6.PlainList l (lst val g n).toArray := plain_same (plain_same hg hs5 hIl.symm) hs6 hneL
      have hx6 : Heap.ExtBut l s.heap h6 := fun b o hb eb => (hs6.2 b (Nat.ne_of_lt (Heap.lt_size eb))).trans ((hs5.2 b (Nat.ne_of_lt (Nat.lt_trans (Heap.lt_size eb) (by rw [hsz3]; exact Nat.lt_succ_of_lt hlt2)))).trans (hx b o hb eb))
      have C6 := hB h6 hx6
      refine wpAny_execs_cons (wpAny_Expr (Call_ (nmG C6 (by kernel_rfl) (callWith_def (o := { cls := .type "function", data := .func fd101 }) rfl (args_cons (nmL N6 e1 (args_cons (nmL N6 rfl (args_nil ⟨C6.k _ _ (fn101 w), ?_⟩)))))))))
      refine siftup_spec (P := P) C6 (fun h' e' => hB h' fun b o hb eb => e' b o hb (hx6 b o hb eb)) R1 hg6 (by omega) hn hPg (fun x y hx' hy A' E' s' Q' r e' hq' => hc x y hx' hy A' E' s' Q' r (fun b o hb eb => e' b o hb (hx6 b o hb eb)) hq') fun h7 tk7 e7 l7 => ?_
      refine wpAny_execs_nil ?_
      refine hRQ _ _ ?_
      refine ⟨k, by omega, (hInv _ _).2 ⟨h7, _, _, sup lt n k g, k, rfl, N6.extBut e7 hneL.symm, e1, l7, ?_, fun b o hb eb => e7 b o hb (hx6 b o hb eb), ?_, e, by omega, rfl⟩⟩
      · have e9 : ((k : Int) + 1 - 1) = k := by omega
        rw [e9] at hI5
        exact e7 _ _ hIl ((hs6.2 _ hIL).trans hI5)
      · exact sup_P hPg (by omega)
  · exact (((hl2.at fun o e => k23 _ _ e)).at fun o e => k34 _ _ e)
end
end Mine
namespace Mine
open PySem PySem.W PyProof.Rows

noncomputable def fd52 : FuncData := Subtype.val (p := fun x => x = fdOf 52) (by
  refine ⟨?_, ?_⟩
  rotate_left
  · conv => rhs; whnf)
theorem fn52 (w : World) : (HK w).lookup 52 = some { cls := .type "function", data := .func fd52 } := by kernel_rfl
noncomputable def fd59 : FuncData := Subtype.val (p := fun x => x = fdOf 59) (by
  refine ⟨?_, ?_⟩
  rotate_left
  · conv => rhs; whnf)
theorem fn59 (w : World) : (HK w).lookup 59 = some { cls := .type "function", data := .func fd59 } := by kernel_rfl
noncomputable def fd66 : FuncData := Subtype.val (p := fun x => x = fdOf 66) (by
  refine ⟨?_, ?_⟩
  rotate_left
  · conv => rhs; whnf)
theorem fn66 (w : World) : (HK w).lookup 66 = some { cls := .type "function", data := .func fd66 } := by kernel_rfl
noncomputable def fd80 : FuncData := Subtype.val (p := fun x => x = fdOf 80) (by
  refine ⟨?_, ?_⟩
  rotate_left
  · conv => rhs; whnf)
theorem fn80 (w : World) : (HK w).lookup 80 = some { cls := .type "function", data := .func fd80 } := by kernel_rfl

theorem lst_snoc {α : Type} (val : α → Value) (f : Nat → α) (n : Nat) (x : α) : lst val f n ++ [val x] = lst val (upd f n x) (n + 1) := by
  unfold lst
  rw [List.range_succ, List.map_append]
  congr 1
  · apply List.map_congr_left
    intro i hi
    have : i < n := List.mem_range.mp hi
    have hne : ¬ i = n := by omega
    simp [upd, hne]
  · simp [upd]
theorem lst_last {α : Type} (val : α → Value) (f : Nat → α) (n : Nat) : lst val f (n + 1) = lst val f n ++ [val (f n)] := by
  unfold lst
  rw [List.range_succ, List.map_append]; rfl

theorem sf_start {s : Shared} {l : Addr} {m : Str → Option Value} {xs : List Value} {h1 : Heap} (hl : s.heap.PlainList l xs.toArray) (hns : h1.Ns s.heap.objs.size m) (hk : Keep s.heap h1) : SF s.heap l s.heap.objs.size m xs h1 :=
  ⟨hns, fun b o _ e => hk b o e, hl.at fun o e => hk _ _ e, Nat.le_refl _, by obtain ⟨n', ho⟩ := hl; exact Heap.lt_size ho⟩

section
variable {α : Type} {prog : Program} {w : World} {A : Around} {E : Value → Shared → Prop} {s : Shared} {mg mb : Str → Option Value}

theorem cmp_ext {l : Addr} {h₀ h : Heap} {x y : Value} {b : Bool} (hc : CmpLt prog w l h₀ x y b) (hx : Heap.ExtBut l h₀ h) : CmpLt prog w l h x y b :=
  fun A' E' s' Q' r e' hq' => hc A' E' s' Q' r (fun b o hb eb => e' b o hb (hx b o hb eb)) hq'

set_option maxHeartbeats 1000000 in
theorem heappush_spec {val : α → Value} {lt : α → α → Bool} {P : α → Prop} {l : Addr} {f : Nat → α} {n : Nat} {x : α} {Q : Value → Shared → Prop}
    (hB : ∀ h', Heap.ExtBut l s.heap h' → Cx w mg mb h') (R : Rm A 10) (hl : s.heap.PlainList l (lst val f n).toArray) (hn : n < 2 ^ 20)
    (hP : ∀ i, i < n → P (f i)) (hx : P x) (hc : ∀ x y, P x → P y → CmpLt prog w l s.heap (val x) (val y) (lt x y))
    (hQ : ∀ h' tk, Heap.ExtBut l s.heap h' → h'.PlainList l (lst val (sdn lt 0 x n n (upd f n x)) (n + 1)).toArray → Q .none { s with heap := h', toks := tk }) :
    wpAny (model prog w) A (call (.ref 52) [.ref l, val x]) Q E s := by
  have C := hB s.heap fun b o _ e => e
  refine enterF [(Str.ofString "heap", .ref l), (Str.ofString "item", val x)] C R (fn52 w) (by kernel_rfl) rfl (BindsTo.of_eq rfl) (by rfl) (by decide) (fun h1 hns hk C1 R1 => ?_)
  have F := sf_start hl hns hk
  refine wpAny_execs_cons (wpAny_Expr (MethodCall_ (nmL F.ns rfl (methPlain F.lst PySem.F.slot_list_append PySem.F.type_list_append (callWith_method1 (args_cons (nmL F.ns rfl (args_nil ?_))))))))
  refine appendPlain F.lst (by rw [lst_len]; exact hn) fun h2 hl2 hs2 => ?_
  rw [lst_snoc] at hl2
  have F2 := F.set hl2 hs2
  have C2 := hB h2 F2.ext
  dsimp only
  refine wpAny_execs_cons (wpAny_Expr (Call_ (nmG (v := .ref 94) C2 (by kernel_rfl) (callWith_def (o := { cls := .type "function", data := .func fd94 }) rfl (args_cons (nmL F2.ns rfl (args_cons (wpAny_Constant_int (args_cons (wpAny_BinOp (Call_ (nmB C2 (by kernel_rfl) boot_len (by decide) (callWith_builtin1 (args_cons (nmL F2.ns rfl (args_nil ?_))))))))))))))))
  refine lenList F2.lst (by rw [lst_len]; omega) (fun t2 => ?_)
  rw [lst_len]
  refine wpAny_Constant_int (SiftDown.sub_int (args_nil ⟨C2.k _ _ (fn94 w), ?_⟩))
  have e1 : ((n + 1 : Nat) : Int) - 1 = (n : Int) := by omega
  rw [e1]
  refine siftdown_spec (st := 0) (p := n) (P := P) C2 (R1.le (by decide)) F2.lst (by omega) (by omega) ?_ (fun x y hx hy => cmp_ext (hc x y hx hy) F2.ext) fun h3 tk3 e3 l3 => ?_
  · intro i hi
    unfold upd; split
    · exact hx
    · exact hP i (by omega)
  refine wpAny_execs_nil ?_
  have hself : upd f n x n = x := by simp [upd]
  rw [hself] at l3
  exact hQ h3 tk3 (fun b o hb eb => e3 b o hb (F2.ext b o hb eb)) l3

noncomputable def popped (lt : α → α → Bool) (n : Nat) (f : Nat → α) : Nat → α := if n = 0 then f else sup lt n 0 (upd f 0 (f n))

set_option maxHeartbeats 1000000 in
theorem heappop_spec {val : α → Value} {lt : α → α → Bool} {P : α → Prop} {l : Addr} {f : Nat → α} {n : Nat} {Q : Value → Shared → Prop}
    (hB : ∀ h', Heap.ExtBut l s.heap h' → Cx w mg mb h') (R : Rm A 10) (hl : s.heap.PlainList l (lst val f (n + 1)).toArray) (hn : n < 2 ^ 20)
    (hP : ∀ i, i < n + 1 → P (f i)) (hc : ∀ x y, P x → P y → CmpLt prog w l s.heap (val x) (val y) (lt x y))
    (hQ : ∀ h' tk, Heap.ExtBut l s.heap h' → h'.PlainList l (lst val (popped lt n f) n).toArray → Q (val (f 0)) { s with heap := h', toks := tk }) :
    wpAny (model prog w) A (call (.ref 59) [.ref l]) Q E s := by
  have C := hB s.heap fun b o _ e => e
  refine enterF [(Str.ofString "heap", .ref l)] C R (fn59 w) (by kernel_rfl) rfl (BindsTo.of_eq rfl) (by rfl) (by decide) (fun h1 hns hk C1 R1 => ?_)
  have F := sf_start hl hns hk
  have hnx : ∀ {a : Nat}, a < n → ((a : Nat) : Int) < 2 ^ 63 := fun {a} ha => by omega
  refine wpAny_execs_cons (wpAny_Assign_Name (MethodCall_ (nmL F.ns rfl (methPlain F.lst PySem.F.slot_list_pop PySem.F.type_list_pop (callWith_method0 ?_)))))
  refine popPlain (xs := lst val f n) (x := val (f n)) (by rw [← lst_last]; exact F.lst) (by rw [lst_len]; exact hn) fun h2 hl2 hs2 => ?_
  have F2 := F.set hl2 hs2
  dsimp only
  refine sfStore F2 (fun h3 tq3 F3 => ?_)
  dsimp only at F3 ⊢
  refine wpAny_execs_cons (wpAny_If (isTrue_plain (nmL F3.ns rfl ?_)))
  refine wpAny_truthy_list F3.lst.isList (by rw [List.size_toArray, lst_len]; omega) ?_
  cases n with
  | zero =>
    simp only [lst, List.range_zero, List.map_nil, List.isEmpty_toArray, List.isEmpty_nil, Bool.not_true, Bool.false_eq_true, if_false]
    refine wpAny_execs_nil ?_
    refine wpAny_execs_cons (wpAny_Return_some (nmL F3.ns rfl ?_))
    exact hQ h3 _ F3.ext (by simpa [lst, popped] using F3.lst)
  | succ n =>
    have hne : (!(lst val f (n + 1)).toArray.isEmpty) = true := by simp [lst]
    rw [hne, if_pos rfl]
    refine wpAny_execs_cons (wpAny_Assign_Name (Subscript_ (nmL F3.ns rfl (wpAny_Constant_int ?_))))
    refine sfItem (x := val (f 0)) F3 (by omega) (by omega) (lst_get val f (by omega)) ?_
    refine sfStore F3 (fun h4 tq4 F4 => ?_)
    dsimp only at F4 ⊢
    refine wpAny_execs_cons (wpAny_Assign_Subscript (nmL F4.ns rfl (nmL F4.ns rfl (wpAny_Constant_int ?_))))
    refine sfSet F4 (by omega) (by omega) (by rw [lst_len]; omega) (lst_set val f (f (n + 1))) fun h5 F5 => ?_
    dsimp only at F5 ⊢
    have C5 := hB h5 F5.ext
    refine wpAny_execs_cons (wpAny_Expr (Call_ (nmG C5 (by kernel_rfl) (callWith_def (o := { cls := .type "function", data := .func fd101 }) rfl (args_cons (nmL F5.ns rfl (args_cons (wpAny_Constant_int (args_nil ⟨C5.k _ _ (fn101 w), ?_⟩)))))))))
    refine siftup_spec (p := 0) (n := n + 1) (P := P) C5 (fun h' e' => hB h' fun b o hb eb => e' b o hb (F5.ext b o hb eb)) R1 F5.lst (by omega) (by omega) ?_ (fun x y hx hy => cmp_ext (hc x y hx hy) F5.ext) fun h6 tk6 e6 l6 => ?_
    · exact upd_P (fun i hi => hP i (by omega)) (hP _ (by omega))
    dsimp only
    refine wpAny_execs_cons (wpAny_Return_some (nmL (F5.ns.extBut e6 F5.ne.symm) rfl ?_))
    refine hQ h6 _ (fun b o hb eb => e6 b o hb (F5.ext b o hb eb)) ?_
    have : popped lt (n + 1) f = sup lt (n + 1) 0 (upd f (0 : Int).toNat (f (n + 1))) := by unfold popped; rw [if_neg (by omega)]; rfl
    rw [this]; exact l6

set_option maxHeartbeats 1000000 in
theorem heapreplace_spec {val : α → Value} {lt : α → α → Bool} {P : α → Prop} {l : Addr} {f : Nat → α} {n : Nat} {x : α} {Q : Value → Shared → Prop}
    (hB : ∀ h', Heap.ExtBut l s.heap h' → Cx w mg mb h') (R : Rm A 10) (hl : s.heap.PlainList l (lst val f n).toArray) (h0 : 0 < n) (hn : n < 2 ^ 20)
    (hP : ∀ i, i < n → P (f i)) (hx : P x) (hc : ∀ x y, P x → P y → CmpLt prog w l s.heap (val x) (val y) (lt x y))
    (hQ : ∀ h' tk, Heap.ExtBut l s.heap h' → h'.PlainList l (lst val (sup lt n 0 (upd f 0 x)) n).toArray → Q (val (f 0)) { s with heap := h', toks := tk }) :
    wpAny (model prog w) A (call (.ref 66) [.ref l, val x]) Q E s := by
  have C := hB s.heap fun b o _ e => e
  refine enterF [(Str.ofString "heap", .ref l), (Str.ofString "item", val x)] C R (fn66 w) (by kernel_rfl) rfl (BindsTo.of_eq rfl) (by rfl) (by decide) (fun h1 hns hk C1 R1 => ?_)
  have F3 := sf_start hl hns hk
  refine wpAny_execs_cons (wpAny_Assign_Name (Subscript_ (nmL F3.ns rfl (wpAny_Constant_int ?_))))
  refine sfItem (x := val (f 0)) F3 (by omega) (by omega) (lst_get val f (by omega)) ?_
  refine sfStore F3 (fun h4 tq4 F4 => ?_)
  dsimp only at F4 ⊢
  refine wpAny_execs_cons (wpAny_Assign_Subscript (nmL F4.ns rfl (nmL F4.ns rfl (wpAny_Constant_int ?_))))
  refine sfSet F4 (by omega) (by omega) (by rw [lst_len]; omega) (lst_set val f x) fun h5 F5 => ?_
  dsimp only at F5 ⊢
  have C5 := hB h5 F5.ext
  refine wpAny_execs_cons (wpAny_Expr (Call_ (nmG C5 (by kernel_rfl) (callWith_def (o := { cls := .type "function", data := .func fd101 }) rfl (args_cons (nmL F5.ns rfl (args_cons (wpAny_Constant_int (args_nil ⟨C5.k _ _ (fn101 w), ?_⟩)))))))))
  refine siftup_spec (p := 0) (n := n) (P := P) C5 (fun h' e' => hB h' fun b o hb eb => e' b o hb (F5.ext b o hb eb)) R1 F5.lst (by omega) (by omega) ?_ (fun x y hx hy => cmp_ext (hc x y hx hy) F5.ext) fun h6 tk6 e6 l6 => ?_
  · exact upd_P hP hx
  dsimp only
  refine wpAny_execs_cons (wpAny_Return_some (nmL (F5.ns.extBut e6 F5.ne.symm) rfl ?_))
  exact hQ h6 _ (fun b o hb eb => e6 b o hb (F5.ext b o hb eb)) l6

set_option maxHeartbeats 1000000 in
theorem heapreplaceM_spec {val : α → Value} {lt : α → α → Bool} {P : α → Prop} {l : Addr} {f : Nat → α} {n : Nat} {x : α} {Q : Value → Shared → Prop}
    (hB : ∀ h', Heap.ExtBut l s.heap h' → Cx w mg mb h') (R : Rm A 10) (hl : s.heap.PlainList l (lst val f n).toArray) (h0 : 0 < n) (hn : n < 2 ^ 20)
    (hP : ∀ i, i < n → P (f i)) (hx : P x) (hc : ∀ x y, P x → P y → CmpLt prog w l s.heap (val x) (val y) (lt x y))
    (hQ : ∀ h' tk, Heap.ExtBut l s.heap h' → h'.PlainList l (lst val (sup (fun x y => lt y x) n 0 (upd f 0 x)) n).toArray → Q (val (f 0)) { s with heap := h', toks := tk }) :
    wpAny (model prog w) A (call (.ref 80) [.ref l, val x]) Q E s := by
  have C := hB s.heap fun b o _ e => e
  refine enterF [(Str.ofString "heap", .ref l), (Str.ofString "item", val x)] C R (fn80 w) (by kernel_rfl) rfl (BindsTo.of_eq rfl) (by rfl) (by decide) (fun h1 hns hk C1 R1 => ?_)
  have F3 := sf_start hl hns hk
  refine wpAny_execs_cons (wpAny_Assign_Name (Subscript_ (nmL F3.ns rfl (wpAny_Constant_int ?_))))
  refine sfItem (x := val (f 0)) F3 (by omega) (by omega) (lst_get val f (by omega)) ?_
  refine sfStore F3 (fun h4 tq4 F4 => ?_)
  dsimp only at F4 ⊢
  refine wpAny_execs_cons (wpAny_Assign_Subscript (nmL F4.ns rfl (nmL F4.ns rfl (wpAny_Constant_int ?_))))
  refine sfSet F4 (by omega) (by omega) (by rw [lst_len]; omega) (lst_set val f x) fun h5 F5 => ?_
  dsimp only at F5 ⊢
  have C5 := hB h5 F5.ext
  refine wpAny_execs_cons (wpAny_Expr (Call_ (nmG C5 (by kernel_rfl) (callWith_def (o := { cls := .type "function", data := .func fd115 }) rfl (args_cons (nmL F5.ns rfl (args_cons (wpAny_Constant_int (args_nil ⟨C5.k _ _ (fn115 w), ?_⟩)))))))))
  refine siftupM_spec (p := 0) (n := n) (P := P) C5 (fun h' e' => hB h' fun b o hb eb => e' b o hb (F5.ext b o hb eb)) R1 F5.lst (by omega) (by omega) ?_ (fun x y hx hy => cmp_ext (hc x y hx hy) F5.ext) fun h6 tk6 e6 l6 => ?_
  · exact upd_P hP hx
  dsimp only
  refine wpAny_execs_cons (wpAny_Return_some (nmL (F5.ns.extBut e6 F5.ne.symm) rfl ?_))
  exact hQ h6 _ (fun b o hb eb => e6 b o hb (F5.ext b o hb eb)) l6
set_option maxHeartbeats 1000000 in
theorem heapifyM_spec {val : α → Value} {lt : α → α → Bool} {P : α → Prop} {l : Addr} {f : Nat → α} {n : Nat} {Q : Value → Shared → Prop}
    (hB : ∀ h', Heap.ExtBut l s.heap h' → Cx w mg mb h') (R : Rm A 10) (hl : s.heap.PlainList l (lst val f n).toArray) (hn : n < 2 ^ 40)
    (hP : ∀ i, i < n → P (f i)) (hc : ∀ x y, P x → P y → CmpLt prog w l s.heap (val x) (val y) (lt x y))
    (hQ : ∀ h' tk, Heap.ExtBut l s.heap h' → h'.PlainList l (lst val (hfy (fun x y => lt y x) n (n / 2) f) n).toArray → Q .none { s with heap := h', toks := tk }) :
    wpAny (model prog w) A (call (.ref 87) [.ref l]) Q E s := by
  have C := hB s.heap fun b o _ e => e
  refine enterF [(Str.ofString "x", .ref l)] C R (fn87 w) (by kernel_rfl) rfl (BindsTo.of_eq rfl) (by rfl) (by decide) (fun h1 hns hk C1 R1 => ?_)
  have hold : l < s.heap.objs.size := by obtain ⟨n', ho⟩ := hl; exact Heap.lt_size ho
  have hl1 : h1.PlainList l (lst val f n).toArray := hl.at fun o e => hk _ _ e
  refine wpAny_execs_cons (wpAny_Assign_Name (Call_ (nmB C1 (by kernel_rfl) boot_len (by decide) (callWith_builtin1 (args_cons (nmL hns rfl (args_nil ?_)))))))
  refine lenList hl1 (by rw [lst_len]; omega) (fun t2 => ?_)
  rw [lst_len]
  refine stN rfl hns (fun h2 tq2 hns2 hs2 => ?_)
  dsimp only at hns2 hs2 ⊢
  have hneL : l ≠ s.heap.objs.size := Nat.ne_of_lt hold
  have hl2 := plain_same hl1 hs2 hneL
  have k2 : Keep s.heap h2 := fun b o e => (hs2.2 b (Nat.ne_of_lt (Heap.lt_size e))).trans (hk b o e)
  have C2 := C.keeps k2
  refine wpAny_execs_cons (wpAny_For (Call_ (nmB C2 (by kernel_rfl) boot_reversed (by decide) (callWith_type1 (args_cons (Call_ (nmB C2 (by kernel_rfl) boot_range (by decide) (callWith_type1 (args_cons (wpAny_BinOp (nmL hns2 rfl (wpAny_Constant_int (floordiv_int (by decide) (args_nil (call_range_1 (args_nil ?_))))))))))))))))
  have ev : ((n : Nat) : Int).fdiv 2 = ((n / 2 : Nat) : Int) := by
    rw [Int.fdiv_eq_ediv_of_nonneg _ (by decide)]; simp
  rw [ev]
  have hlt2 : s.heap.objs.size < h2.objs.size := hns2.lt
  refine call_reversed_range (n := ((n / 2 : Nat) : Int)) (Heap.get?_push_size _ rfl) (by omega) (by omega) ?_
  dsimp only
  generalize hH3 : (h2.push { cls := Value.type "range", data := Data.fields #[Value.int 0 _, Value.int _ _, Value.int 1 _] }) = h3
  have k23 : Keep h2 h3 := fun b o e => by rw [← hH3]; exact Heap.get?_push_of_some _ e
  have hsz3 : h3.objs.size = h2.objs.size + 1 := by rw [← hH3, Heap.size_push]
  generalize hH4 : (h3.push { cls := Value.type "range_iterator", data := Data.fields #[rawInt (((n / 2 : Nat) : Int) - 1), rawInt ((n / 2 : Nat) : Int), rawInt (-1)] }) = h4
  have k34 : Keep h3 h4 := fun b o e => by rw [← hH4]; exact Heap.get?_push_of_some _ e
  have hI4 : IsRangeIter h4 h3.objs.size (((n / 2 : Nat) : Int) - 1) ((n / 2 : Nat) : Int) (-1) := by rw [← hH4]; exact Heap.get?_push_size _ rfl
  refine wpAny_pyIter_rangeiter hI4 ?_
  have hIL : h3.objs.size ≠ s.heap.objs.size := by rw [hsz3]; omega
  have hIl : h3.objs.size ≠ l := by rw [hsz3]; exact Nat.ne_of_gt (Nat.lt_succ_of_lt (Nat.lt_trans hold hlt2))
  obtain ⟨Inv, hInv⟩ : ∃ Inv : Nat → Shared → Prop, ∀ k s', Inv k s' ↔ (∃ (h : Heap) (tk : Nat) (m : Str → Option Value) (g : Nat → α) (j : Nat), s' = { s with heap := h, toks := tk } ∧ h.Ns s.heap.objs.size m ∧ m (Str.ofString "x") = some (.ref l) ∧
      h.PlainList l (lst val g n).toArray ∧ IsRangeIter h h3.objs.size ((j : Int) - 1) (j : Int) (-1) ∧ Heap.ExtBut l s.heap h ∧ (∀ i, i < n → P (g i)) ∧ hfy (fun x y => lt y x) n j g = hfy (fun x y => lt y x) n (n / 2) f ∧ j ≤ n / 2 ∧ k = j) := ⟨_, fun _ _ => Iff.rfl⟩
  refine codeAny_forLoop Inv ?_ (n / 2)
    ((hInv _ _).2 ⟨h4, _, _, f, n / 2, rfl, (hns2.keeps k23).keeps k34, rfl, ?_, hI4, fun b o _ e => k34 _ _ (k23 _ _ (k2 _ _ e)), hP, rfl, Nat.le_refl _, rfl⟩)
  · intro k s' hI0
    obtain ⟨h, tk, m, g, j, rfl, N, e1, hg, hI, hx, hPg, e, hj, rfl⟩ := (hInv _ _).1 hI0
    clear hI0
    cases k with
    | zero =>
      refine wpAny_pyNext_range_end R1.hh hI (by simp) fun h5 hx5 => ?_
      dsimp only
      refine wpAny_execs_nil ?_
      refine wpAny_execs_nil ?_
      refine hQ h5 _ (fun b o hb eb => hx5 b o ?_ (hx b o hb eb)) ?_
      · exact Nat.ne_of_lt (Nat.lt_trans (Heap.lt_size eb) (by rw [hsz3]; exact Nat.lt_succ_of_lt hlt2))
      · rw [← e]; exact hg.extBut hx5 hIl.symm
    | succ k =>
      have ev2 : ((k + 1 : Nat) : Int) - 1 = (k : Int) := by omega
      have ev3 : ((k + 1 : Nat) : Int) = (k : Int) + 1 := by omega
      rw [ev2, ev3] at hI
      refine wpAny_pyNext_range_item hI (by omega) fun h5 hI5 hs5 => ?_
      dsimp only at hI5 hs5 ⊢
      refine wpAny_assign_Name (stN rfl (N.sameBut hs5 hIL.symm) (fun h6 tq6 N6 hs6 => ?_))
      dsimp only at N6 hs6 ⊢
      refine hideR ?_
      intro RQ hRQ
      have hg6 : h6.PlainList l (lst val g n).toArray := plain_same (plain_same hg hs5 hIl.symm) hs6 hneL
      have hx6 : Heap.ExtBut l s.heap h6 := fun b o hb eb => (hs6.2 b (Nat.ne_of_lt (Heap.lt_size eb))).trans ((hs5.2 b (Nat.ne_of_lt (Nat.lt_trans (Heap.lt_size eb) (by rw [hsz3]; exact Nat.lt_succ_of_lt hlt2)))).trans (hx b o hb eb))
      have C6 := hB h6 hx6
      refine wpAny_execs_cons (wpAny_Expr (Call_ (nmG C6 (by kernel_rfl) (callWith_def (o := { cls := .type "function", data := .func fd115 }) rfl (args_cons (nmL N6 e1 (args_cons (nmL N6 rfl (args_nil ⟨C6.k _ _ (fn115 w), ?_⟩)))))))))
      refine siftupM_spec (P := P) C6 (fun h' e' => hB h' fun b o hb eb => e' b o hb (hx6 b o hb eb)) R1 hg6 (by omega) hn hPg (fun x y hx' hy A' E' s' Q' r e' hq' => hc x y hx' hy A' E' s' Q' r (fun b o hb eb => e' b o hb (hx6 b o hb eb)) hq') fun h7 tk7 e7 l7 => ?_
      refine wpAny_execs_nil ?_
      refine hRQ _ _ ?_
      refine ⟨k, by omega, (hInv _ _).2 ⟨h7, _, _, sup (fun x y => lt y x) n k g, k, rfl, N6.extBut e7 hneL.symm, e1, l7, ?_, fun b o hb eb => e7 b o hb (hx6 b o hb eb), ?_, e, by omega, rfl⟩⟩
      · have e9 : ((k : Int) + 1 - 1) = k := by omega
        rw [e9] at hI5
        exact e7 _ _ hIl ((hs6.2 _ hIL).trans hI5)
      · exact sup_P hPg (by omega)
  · exact (((hl2.at fun o e => k23 _ _ e)).at fun o e => k34 _ _ e)
end
end Mine
namespace Mine

structure Ord {α : Type} (lt : α → α → Bool) : Prop where
  asym : ∀ a b, lt a b = true → lt b a = false
  ntr : ∀ a b c, lt a b = false → lt b c = false → lt a c = false

section
variable {α : Type} {lt : α → α → Bool}
theorem Ord.irr (O : Ord lt) (a : α) : lt a a = false := by
  cases h : lt a a with
  | false => rfl
  | true => rw [O.asym a a h] at h; cases h
theorem Ord.flip (O : Ord lt) : Ord (fun x y => lt y x) := ⟨fun a b h => O.asym b a h, fun a b c h1 h2 => O.ntr c b a h2 h1⟩

/-- lists by functions -/
noncomputable def lf (f : Nat → α) (n : Nat) : List α := (List.range n).map f
theorem lf_len (f : Nat → α) (n : Nat) : (lf f n).length = n := by simp [lf]
theorem lf_get (f : Nat → α) {n i : Nat} (h : i < n) : (lf f n)[i]'(by simpa [lf] using h) = f i := by simp [lf]
theorem lf_upd (f : Nat → α) (n i : Nat) (x : α) : lf (upd f i x) n = (lf f n).set i x := by
  apply List.ext_getElem?
  intro j
  rw [List.getElem?_set]
  by_cases hj : i = j
  · subst hj
    by_cases hn : i < n
    · simp [lf, upd, hn]
    · simp [lf, hn]
  · have hj' : ¬ j = i := fun e => hj e.symm
    by_cases hn : j < n <;> simp [lf, upd, hj, hj', hn]
theorem lf_succ (f : Nat → α) (n : Nat) : lf f (n + 1) = lf f n ++ [f n] := by simp [lf, List.range_succ]

/-- the open place p with x in hand, moved to q -/
theorem lf_move (f : Nat → α) {n p q : Nat} (x : α) (hp : p < n) (hq : q < n) (hpq : p ≠ q) : (lf (upd (upd f p (f q)) q x) n).Perm (lf (upd f p x) n) := by
  have h := List.set_set_perm (as := lf (upd f p x) n) (i := p) (j := q) (by simpa [lf] using hp) (by simpa [lf] using hq)
  rw [lf_get _ hp, lf_get _ hq] at h
  have e1 : upd f p x q = f q := by simp [upd, hpq.symm]
  have e2 : upd f p x p = x := by simp [upd]
  rw [e1, e2, ← lf_upd, ← lf_upd] at h
  have e : upd (upd (upd f p x) p (f q)) q x = upd (upd f p (f q)) q x := by
    funext j
    unfold upd
    by_cases a : j = q <;> by_cases b : j = p <;> simp [a, b]
  rw [e] at h
  exact h

noncomputable def par (i : Nat) : Nat := (i - 1) / 2

noncomputable def HeapFrom (lt : α → α → Bool) (n k : Nat) (f : Nat → α) : Prop := ∀ i, 0 < i → i < n → k ≤ par i → lt (f i) (f (par i)) = false

/-- p lies below st -/
inductive Under (st : Nat) : Nat → Prop
  | here : Under st st
  | down {p : Nat} : 0 < p → Under st (par p) → Under st p
theorem Under.ge {st p : Nat} (h : Under st p) : st ≤ p := by
  induction h with
  | here => exact Nat.le_refl _
  | down h0 _ ih => unfold par at ih; omega
theorem Under.up {st p : Nat} (h : Under st p) (hne : st < p) : Under st (par p) := by
  cases h with
  | here => exact absurd hne (Nat.lt_irrefl _)
  | down _ h => exact h
theorem under_zero : ∀ p : Nat, Under 0 p := by
  intro p
  induction p using Nat.strongRecOn with
  | ind p ih =>
    by_cases h : p = 0
    · subst h; exact .here
    · exact .down (by omega) (ih (par p) (by unfold par; omega))

structure SdInv (lt : α → α → Bool) (n st p : Nat) (x : α) (f : Nat → α) : Prop where
  un : Under st p
  pn : p < n
  a : ∀ i, 0 < i → i < n → st ≤ par i → i ≠ p → par i ≠ p → lt (f i) (f (par i)) = false
  b : ∀ i, 0 < i → i < n → par i = p → lt (f i) x = false
  c : st < p → ∀ i, 0 < i → i < n → par i = p → lt (f i) (f (par p)) = false

theorem sdn_heap (O : Ord lt) {n st : Nat} {x : α} : ∀ (k p : Nat) (f : Nat → α), p ≤ k → SdInv lt n st p x f → HeapFrom lt n st (sdn lt st x k p f) ∧ (lf (sdn lt st x k p f) n).Perm (lf (upd f p x) n) := by
  have fin : ∀ (p : Nat) (f : Nat → α), SdInv lt n st p x f → (st < p → lt x (f (par p)) = false) → HeapFrom lt n st (upd f p x) := by
    intro p f I hx i h0 hn hk
    unfold upd
    by_cases e1 : i = p
    · subst e1
      have hne : par i ≠ i := by unfold par; omega
      simp only [if_true, if_neg hne]
      refine hx ?_
      have := I.un.ge
      unfold par at hk; omega
    · by_cases e2 : par i = p
      · rw [if_neg e1, if_pos e2]; exact I.b i h0 hn e2
      · rw [if_neg e1, if_neg e2]; exact I.a i h0 hn hk e1 e2
  intro k
  induction k with
  | zero =>
    intro p f hp I
    refine ⟨fin p f I (fun h => absurd h (by omega)), List.Perm.refl _⟩
  | succ k ih =>
    intro p f hp I
    rw [sdn]
    by_cases h1 : st < p
    · rw [if_pos h1]
      by_cases h2 : lt x (f ((p - 1) / 2)) = true
      · rw [if_pos h2]
        have hpp : (p - 1) / 2 = par p := rfl
        rw [hpp] at h2 ⊢
        have hlt : par p < p := by unfold par; omega
        have hge : st ≤ par p := (I.un.up h1).ge
        have hle : lt (f (par p)) x = false := O.asym _ _ h2
        have I' : SdInv lt n st (par p) x (upd f p (f (par p))) := by
          refine ⟨I.un.up h1, by have := I.pn; omega, ?_, ?_, ?_⟩
          · intro i h0 hn hk e1 e2
            unfold upd
            by_cases q1 : i = p
            · subst q1; exact absurd rfl e2
            · by_cases q2 : par i = p
              · rw [if_neg q1, if_pos q2]; exact I.c h1 i h0 hn q2
              · rw [if_neg q1, if_neg q2]; exact I.a i h0 hn hk q1 q2
          · intro i h0 hn e
            unfold upd
            by_cases q1 : i = p
            · rw [if_pos q1]; exact hle
            · rw [if_neg q1]
              have := I.a i h0 hn (by rw [e]; exact hge) q1 (by rw [e]; omega)
              rw [e] at this
              exact O.ntr _ _ _ this hle
          · intro hs i h0 hn e
            have hne : par (par p) ≠ p := by unfold par; omega
            have hpos : 0 < par p := by omega
            have hg2 : st ≤ par (par p) := ((I.un.up h1).up hs).ge
            have r := I.a (par p) hpos (by have := I.pn; omega) hg2 (by omega) hne
            unfold upd
            rw [if_neg hne]
            by_cases q1 : i = p
            · rw [if_pos q1]; exact r
            · rw [if_neg q1]
              have := I.a i h0 hn (by rw [e]; exact hge) q1 (by rw [e]; omega)
              rw [e] at this
              exact O.ntr _ _ _ this r
        obtain ⟨r1, r2⟩ := ih (par p) _ (by omega) I'
        exact ⟨r1, r2.trans (lf_move f x I.pn (by have := I.pn; omega) (by omega))⟩
      · rw [if_neg h2]
        exact ⟨fin p f I (fun _ => Bool.eq_false_iff.mpr h2), List.Perm.refl _⟩
    · rw [if_neg h1]
      exact ⟨fin p f I (fun h => absurd h h1), List.Perm.refl _⟩

structure SuInv (lt : α → α → Bool) (n st q : Nat) (g : Nat → α) : Prop where
  un : Under st q
  pn : q < n
  a : ∀ i, 0 < i → i < n → st ≤ par i → par i ≠ q → lt (g i) (g (par i)) = false
  b : st < q → ∀ i, 0 < i → i < n → par i = q → lt (g i) (g (par q)) = false

theorem supL_inv (O : Ord lt) {n st : Nat} (x : α) : ∀ (k q : Nat) (g : Nat → α), n ≤ q + k → SuInv lt n st q g →
    SuInv lt n st (supL lt n k q g).1 (supL lt n k q g).2 ∧ n ≤ 2 * (supL lt n k q g).1 + 1 ∧ (lf (upd (supL lt n k q g).2 (supL lt n k q g).1 x) n).Perm (lf (upd g q x) n)
  | 0, q, g, hk, I => by
    have := I.pn
    omega
  | k + 1, q, g, hk, I => by
    have step : ∀ c : Nat, c < n → par c = q → 0 < c → (∀ i, 0 < i → i < n → par i = q → lt (g i) (g c) = false) → SuInv lt n st c (upd g q (g c)) := by
      intro c hc hpc h0c hmin
      have hqc : q < c := by rw [← hpc]; unfold par; omega
      refine ⟨.down h0c (by rw [hpc]; exact I.un), hc, ?_, ?_⟩
      · intro i h0 hn hs hne
        unfold upd
        by_cases q1 : par i = q
        · rw [if_pos q1]
          by_cases q2 : i = q
          · subst q2; unfold par at q1; omega
          · rw [if_neg q2]; exact hmin i h0 hn q1
        · rw [if_neg q1]
          by_cases q2 : i = q
          · subst q2
            rw [if_pos rfl]
            have hsi : st < i := by
              have := I.un.ge
              unfold par at hs; omega
            exact I.b hsi c h0c hc hpc
          · rw [if_neg q2]; exact I.a i h0 hn hs q1
      · intro hs i h0 hn hpi
        rw [hpc]
        unfold upd
        have hic : c < i := by rw [← hpi]; unfold par; omega
        rw [if_pos rfl, if_neg (by omega)]
        have := I.a i h0 hn (by rw [hpi]; exact Nat.le_of_lt hs) (by rw [hpi]; omega)
        rw [hpi] at this
        exact this
    rw [supL]
    have p1 : par (2 * q + 1) = q := by unfold par; omega
    have p2 : par (2 * q + 1 + 1) = q := by unfold par; omega
    have two : ∀ i, 0 < i → par i = q → i = 2 * q + 1 ∨ i = 2 * q + 1 + 1 := by intro i h0 h; unfold par at h; omega
    by_cases h1 : 2 * q + 1 < n
    · rw [if_pos h1]
      by_cases h2 : 2 * q + 1 + 1 < n ∧ lt (g (2 * q + 1)) (g (2 * q + 1 + 1)) = false
      · rw [if_pos h2]
        have J := step (2 * q + 1 + 1) h2.1 p2 (by omega) (fun i h0 hn hp => by
          rcases two i h0 hp with e | e
          · rw [e]; exact h2.2
          · rw [e]; exact O.irr _)
        obtain ⟨r1, r2, r3⟩ := supL_inv O x k _ _ (by omega) J
        exact ⟨r1, r2, r3.trans (lf_move g x I.pn h2.1 (by omega))⟩
      · rw [if_neg h2]
        have J := step (2 * q + 1) h1 p1 (by omega) (fun i h0 hn hp => by
          rcases two i h0 hp with e | e
          · rw [e]; exact O.irr _
          · subst e
            cases hh : lt (g (2 * q + 1)) (g (2 * q + 1 + 1)) with
            | false => exact absurd ⟨hn, hh⟩ h2
            | true => exact O.asym _ _ hh)
        obtain ⟨r1, r2, r3⟩ := supL_inv O x k _ _ (by omega) J
        exact ⟨r1, r2, r3.trans (lf_move g x I.pn h1 (by omega))⟩
    · rw [if_neg h1]
      exact ⟨I, by omega, List.Perm.refl _⟩

theorem upd_self (f : Nat → α) (p : Nat) : upd f p (f p) = f := by
  funext j; unfold upd; split
  · rename_i e; rw [e]
  · rfl
theorem upd_upd (f : Nat → α) (p : Nat) (x y : α) : upd (upd f p x) p y = upd f p y := by
  funext j; unfold upd; split <;> rfl

theorem sup_heap (O : Ord lt) {n p : Nat} {f : Nat → α} (hp : p < n) (h : HeapFrom lt n (p + 1) f) : HeapFrom lt n p (sup lt n p f) ∧ (lf (sup lt n p f) n).Perm (lf f n) := by
  have I : SuInv lt n p p f := by
    refine ⟨.here, hp, ?_, fun h => absurd h (Nat.lt_irrefl _)⟩
    intro i h0 hn hs hne
    exact h i h0 hn (by omega)
  obtain ⟨J, hleaf, hperm⟩ := supL_inv O (f p) n p f (by omega) I
  rw [upd_self] at hperm
  unfold sup
  have K : SdInv lt n p (supL lt n n p f).1 (f p) (upd (supL lt n n p f).2 (supL lt n n p f).1 (f p)) := by
    refine ⟨J.un, J.pn, ?_, ?_, ?_⟩
    · intro i h0 hn hs e1 e2
      unfold upd
      rw [if_neg e1, if_neg e2]
      exact J.a i h0 hn hs e2
    · intro i h0 hn e
      unfold par at e; omega
    · intro hs i h0 hn e
      unfold par at e; omega
  obtain ⟨r1, r2⟩ := sdn_heap O _ _ _ (Nat.le_refl _) K
  rw [upd_upd] at r2
  exact ⟨r1, r2.trans hperm⟩

theorem hfy_heap (O : Ord lt) {n : Nat} : ∀ (k : Nat) (f : Nat → α), k ≤ n / 2 → HeapFrom lt n k f → HeapFrom lt n 0 (hfy lt n k f) ∧ (lf (hfy lt n k f) n).Perm (lf f n)
  | 0, f, hk, h => ⟨h, List.Perm.refl _⟩
  | k + 1, f, hk, h => by
    rw [hfy]
    obtain ⟨r1, r2⟩ := sup_heap O (p := k) (by omega) h
    obtain ⟨q1, q2⟩ := hfy_heap O k _ (by omega) r1
    exact ⟨q1, q2.trans r2⟩
theorem heapify_heap (O : Ord lt) (n : Nat) (f : Nat → α) : HeapFrom lt n 0 (hfy lt n (n / 2) f) ∧ (lf (hfy lt n (n / 2) f) n).Perm (lf f n) :=
  hfy_heap O _ _ (Nat.le_refl _) (fun i h0 hn hk => by unfold par at hk; omega)

/-- the root is the least -/
theorem heap_root (O : Ord lt) {n : Nat} {f : Nat → α} (h : HeapFrom lt n 0 f) : ∀ i, i < n → lt (f i) (f 0) = false := by
  intro i
  induction i using Nat.strongRecOn with
  | ind i ih =>
    intro hi
    by_cases h0 : i = 0
    · subst h0; exact O.irr _
    · have h1 := h i (by omega) hi (Nat.zero_le _)
      have h2 := ih (par i) (by unfold par; omega) (by unfold par; omega)
      exact O.ntr _ _ _ h1 h2

theorem replace_heap (O : Ord lt) {n : Nat} {f : Nat → α} {x : α} (h0 : 0 < n) (h : HeapFrom lt n 0 f) :
    HeapFrom lt n 0 (sup lt n 0 (upd f 0 x)) ∧ (lf (sup lt n 0 (upd f 0 x)) n).Perm (lf (upd f 0 x) n) := by
  refine sup_heap O h0 ?_
  intro i hi hn hk
  unfold upd
  rw [if_neg (by omega), if_neg (by omega)]
  exact h i hi hn (Nat.zero_le _)

theorem push_heap (O : Ord lt) {n : Nat} {f : Nat → α} {x : α} (h : HeapFrom lt n 0 f) :
    HeapFrom lt (n + 1) 0 (sdn lt 0 x n n (upd f n x)) ∧ (lf (sdn lt 0 x n n (upd f n x)) (n + 1)).Perm (lf f n ++ [x]) := by
  have K : SdInv lt (n + 1) 0 n x (upd f n x) := by
    refine ⟨under_zero _, by omega, ?_, ?_, ?_⟩
    · intro i h0 hn hs e1 e2
      unfold upd
      rw [if_neg e1, if_neg e2]
      exact h i h0 (by omega) hs
    · intro i h0 hn e; unfold par at e; omega
    · intro hs i h0 hn e; unfold par at e; omega
  obtain ⟨r1, r2⟩ := sdn_heap O n n _ (Nat.le_refl _) K
  refine ⟨r1, r2.trans ?_⟩
  rw [upd_upd, lf_succ]
  have e : lf (upd f n x) n = lf f n := by
    unfold lf
    apply List.map_congr_left
    intro i hi
    have : i < n := List.mem_range.mp hi
    have hne : ¬ i = n := by omega
    simp [upd, hne]
  rw [e]
  simp [upd]

theorem pop_heap (O : Ord lt) {n : Nat} {f : Nat → α} (h : HeapFrom lt (n + 1) 0 f) :
    HeapFrom lt n 0 (popped lt n f) ∧ (f 0 :: lf (popped lt n f) n).Perm (lf f (n + 1)) := by
  unfold popped
  by_cases h0 : n = 0
  · subst h0
    rw [if_pos rfl]
    exact ⟨fun i h0 hn => absurd hn (Nat.not_lt_zero _), by simp [lf]⟩
  · rw [if_neg h0]
    have h' : HeapFrom lt n 0 f := fun i hi hn hk => h i hi (by omega) hk
    obtain ⟨r1, r2⟩ := replace_heap (x := f n) O (by omega) h'
    refine ⟨r1, ?_⟩
    refine (List.Perm.cons _ r2).trans ?_
    rw [lf_succ, lf_upd]
    have e : lf f n = f 0 :: (lf f n).tail := by
      have hl := lf_len f n
      cases hh : lf f n with
      | nil => rw [hh] at hl; simp at hl; omega
      | cons y r =>
        have := lf_get f (n := n) (i := 0) (by omega)
        simp only [hh, List.getElem_cons_zero] at this
        rw [this]; rfl
    rw [e]
    simp only [List.set_cons_zero]
    have := List.perm_append_comm (l₁ := (lf f n).tail) (l₂ := [f n])
    exact List.Perm.cons _ (by simpa using this.symm)

/-- what n pops give -/
noncomputable def popSeq (lt : α → α → Bool) : Nat → (Nat → α) → List α
  | 0, _ => []
  | n + 1, f => f 0 :: popSeq lt n (popped lt n f)

theorem popSeq_sorted (O : Ord lt) : ∀ (n : Nat) (f : Nat → α), HeapFrom lt n 0 f → (popSeq lt n f).Perm (lf f n) ∧ (popSeq lt n f).Pairwise (fun a b => lt b a = false)
  | 0, f, h => ⟨by simp [popSeq, lf], List.Pairwise.nil⟩
  | n + 1, f, h => by
    obtain ⟨r1, r2⟩ := pop_heap O h
    obtain ⟨q1, q2⟩ := popSeq_sorted O n _ r1
    rw [popSeq]
    refine ⟨(List.Perm.cons _ q1).trans r2, List.Pairwise.cons ?_ q2⟩
    intro b hb
    have hb' : b ∈ lf f (n + 1) := r2.mem_iff.mp (List.mem_cons_of_mem _ (q1.mem_iff.mp hb))
    unfold lf at hb'
    obtain ⟨i, hi, rfl⟩ := List.mem_map.mp hb'
    exact heap_root O h i (List.mem_range.mp hi)
end
end Mine
namespace Mine
open PySem PySem.W PyProof.Rows PySem.SeqAt

noncomputable def LtAt (A : Around) (s : Shared) (a b : Value) (k : Bool) : Prop :=
  ∀ (prog : Program) (w : World) (E : Value → Shared → Prop) (Q : Value → Shared → Prop), Q (.bool k) s → wpAny (model prog w) A (richCompare .Lt a b) Q E s

noncomputable def LtZip (A : Around) (s : Shared) (fin : Bool) : List (Value × Value) → Bool → Prop
  | [], k => k = fin
  | (x, y) :: r, k => (EqAt A s x y true ∧ LtZip A s fin r k) ∨ (EqAt A s x y false ∧ LtAt A s x y k)

theorem tuple_lt_eq (a b : Addr) : Builtin.«tuple.__lt__» ⟨[.ref a, .ref b], []⟩ = (do
  let (a, [b]) ← slotArgs "__lt__" 1 ⟨[.ref a, .ref b], []⟩ | unsupported "internal:tuple.compare"
  if !(← isInstance b (.type "tuple")) then return ← ret .notImplemented
  let xs ← Builtin.Tuple.tupleItemsOf a
  let ys ← Builtin.Tuple.tupleItemsOf b
  for (x, y) in xs.toList.zip ys.toList do
    if !(← eqBool x y) then
      rule "tuple.compare.by-the-first-pair-that-differs"; return ← ret (← richCompare .Lt x y)
  ret (Builtin.Tuple.tupleCompareSizes .Lt xs.size ys.size)) := rfl

section
variable {prog : Program} {w : World} {A : Around} {E : Value → Shared → Prop} {s : Shared}

theorem tuple_lt_spec {l b : Addr} {items items2 : Array Value} {k : Bool} {Q : Fin → Shared → Prop} (hl : s.heap.IsTuple l items) (hb : s.heap.IsTuple b items2)
    (hz : LtZip A s (decide (items.size < items2.size)) (items.toList.zip items2.toList) k) (h : Q (.done (.ret (.bool k))) s) :
    wpAny (model prog w) A (Builtin.«tuple.__lt__» ⟨[.ref l, .ref b], []⟩) Q E s := by
  obtain ⟨o, ho, hc, n, hd⟩ := id hl
  obtain ⟨o2, ho2, hc2, n2, hd2⟩ := id hb
  rw [tuple_lt_eq]
  refine wpAny_bind (wpAny_of_eq (a := (Value.ref l, [Value.ref b])) rfl ?_)
  dsimp only
  have hT2 : s.TypeIs (.ref b) "tuple" := ⟨o2, ho2, hc2⟩
  refine wpAny_bind (wpAny_isInstance hT2 AutoSeq1.sub_tuple_tuple ?_)
  simp only [Bool.not_true, Bool.false_eq_true, if_false]
  unfold Builtin.Tuple.tupleItemsOf
  refine wpAny_bind (wpAny_bind (wpAny_seqItems ho hd (wpAny_pure ?_)))
  refine wpAny_bind (wpAny_bind (wpAny_seqItems ho2 hd2 (wpAny_pure ?_)))
  refine wpAny_bind (wpAny_forIn_list _ (fun rest b s' => b.1 = none ∧ s' = s ∧ LtZip A s (decide (items.size < items2.size)) rest k) _ ?_ ?_ _ _ ⟨rfl, rfl, hz⟩)
  · rintro ⟨x, y⟩ rest b s' ⟨hb', rfl, hz⟩
    rcases hz with ⟨he, hr⟩ | ⟨he, hr⟩
    · refine wpAny_bind (he prog w _ _ ?_)
      simp only [Bool.not_true, Bool.false_eq_true, if_false]
      exact wpAny_pure ⟨rfl, rfl, hr⟩
    · refine wpAny_bind (he prog w _ _ ?_)
      simp only [Bool.not_false, if_true]
      exact wpAny_bind (wpAny_rule (wpAny_bind (hr prog w _ _ (wpAny_bind (wpAny_pure (wpAny_pure (wpAny_pure h)))))))
  · rintro ⟨b1, b2⟩ s' ⟨hb', rfl, hz⟩
    simp only at hb'
    subst hb'
    refine wpAny_pure ?_
    have e : k = decide (items.size < items2.size) := hz
    rw [e] at h
    exact h

theorem LtAt.tuples {l b : Addr} {items items2 : Array Value} {k : Bool} (hl : s.heap.IsTuple l items) (hb : s.heap.IsTuple b items2) (hu : A.units < cLine)
    (hz : LtZip A.in1 s (decide (items.size < items2.size)) (items.toList.zip items2.toList) k) : LtAt A s (.ref l) (.ref b) k := fun prog w E Q h => by
  have hT : s.TypeIs (.ref l) "tuple" := let ⟨o, ho, hc, _⟩ := hl; ⟨o, ho, hc⟩
  have hT2 : s.TypeIs (.ref b) "tuple" := let ⟨o, ho, hc, _⟩ := hb; ⟨o, ho, hc⟩
  exact wpAny_richCompare_same_room (op := .Lt) hT hT2 PySem.F.slot_tuple_lt (wpAny_call_entry PySem.F.slot_tuple_lt hT PySem.F.entry_tuple_lt (tuple_lt_spec hl hb hz ⟨_, rfl, by simp, h⟩) (PySem.F.args_tuple_lt_2 _ _)) hu

theorem list_lt_loop (l b : Addr) (items items2 : Array Value) (n n2 : Nat) (hsz : items.size = items2.size) (v : Bool) (k : Nat) :
    ∀ i : Nat, items.size - i = k → Meets (Builtin.«list.__eq__.loop» ⟨[.ref l, .ref b, rawInt i, rawInt 0], []⟩)
      (fun A R s => s.heap.get? l = some { cls := .type "list", data := .seq items n } ∧ s.heap.get? b = some { cls := .type "list", data := .seq items2 n2 } ∧
        LtZip A.in1 s false ((items.toList.zip items2.toList).drop i) v ∧ R (.ok (.ret (.bool v))) s) := by
  have hzl : (items.toList.zip items2.toList).length = items.size := by simp [hsz]
  induction k with
  | zero =>
    intro i hk prog w A R s h
    obtain ⟨hp, g, d, tk, os⟩ := s; obtain ⟨hl, hb, he, h⟩ := h
    wp_walk using wpAny_loadPart' hl, wpAny_loadPart' hb
    have hi1 : items[((i : Nat) : Int).toNat]? = none := by simp; omega
    have hi2 : items2[((i : Nat) : Int).toNat]? = none := by simp; omega
    rw [List.drop_of_length_le (by rw [hzl]; omega)] at he
    rw [hi1, hi2]
    wp_walk using wpAny_loadPart' hl, wpAny_loadPart' hb
    show R (.ok (.ret (.bool (decide (items.size < items2.size))))) _
    have e : v = false := he
    subst e
    rw [hsz]
    simpa using h
  | succ k ih =>
    intro i hk prog w A R s h
    obtain ⟨hp, g, d, tk, os⟩ := s; obtain ⟨hl, hb, he, h⟩ := h
    wp_walk using wpAny_loadPart' hl, wpAny_loadPart' hb
    have hlt : i < items.size := by omega
    have hlt2 : i < items2.size := by omega
    have hi1 : items[((i : Nat) : Int).toNat]? = some items[i] := by simp [hlt]
    have hi2 : items2[((i : Nat) : Int).toNat]? = some items2[i] := by simp [hlt2]
    have hd : (items.toList.zip items2.toList).drop i = (items[i], items2[i]) :: (items.toList.zip items2.toList).drop (i + 1) := by
      rw [List.drop_eq_getElem_cons (by rw [hzl]; exact hlt)]
      simp
    have hc : ((i : Int) + 1) = ((i + 1 : Nat) : Int) := by push_cast; rfl
    rw [hd] at he
    rw [hi1, hi2]
    rcases he with ⟨he, hr⟩ | ⟨he, hr⟩
    · refine wpAny_bind (he prog w _ _ ?_)
      wp_walk
      rw [hc]
      exact ⟨plainId_quiet PySem.MeetsSeq3.plain_eq_loop _, codeAny_builtin PySem.MeetsSeq3.entry_eq_loop (by
        rw [Around.under_plainId PySem.MeetsSeq3.plain_eq_loop _]
        exact ih (i + 1) (by omega) prog w A R _ ⟨hl, hb, hr, h⟩)⟩
    · refine wpAny_bind (he prog w _ _ ?_)
      wp_walk using wpAny_loadPart' hl, wpAny_loadPart' hb
      rw [hi1, hi2]
      exact wpAny_bind (hr prog w _ _ (wpAny_pure h))

theorem list_lt_meets (l b : Addr) (items items2 : Array Value) (n n2 : Nat) (hsz : items.size = items2.size) (v : Bool) :
    Meets (Builtin.«list.__lt__» ⟨[.ref l, .ref b], []⟩)
      (fun A R s => s.heap.get? l = some { cls := .type "list", data := .seq items n } ∧ s.heap.get? b = some { cls := .type "list", data := .seq items2 n2 } ∧
        LtZip A.in1 s false (items.toList.zip items2.toList) v ∧ R (.ok (.ret (.bool v))) s) := by
  intro prog w A R s h
  obtain ⟨hp, g, d, tk, os⟩ := s; obtain ⟨hl, hb, he, h⟩ := h
  have f3 := AutoSeq1.sub_list_list
  wp_walk using wpAny_loadPart' hl, wpAny_loadPart' hb
  exact ⟨plainId_quiet PySem.MeetsSeq3.plain_eq_loop _, codeAny_builtin PySem.MeetsSeq3.entry_eq_loop (by
    rw [Around.under_plainId PySem.MeetsSeq3.plain_eq_loop _]
    exact list_lt_loop l b items items2 n n2 hsz v _ 0 rfl prog w A R _ ⟨hl, hb, he, h⟩)⟩

theorem call_list_lt {l b : Addr} {items items2 : Array Value} {v : Bool} {Q : Value → Shared → Prop} (hl : s.heap.PlainList l items) (hb : s.heap.PlainList b items2) (hsz : items.size = items2.size)
    (hz : LtZip A.in1 s false (items.toList.zip items2.toList) v) (h : Q (.bool v) s) : wpAny (model prog w) A (call (.builtin "list.__lt__") [.ref l, .ref b]) Q E s := by
  obtain ⟨n, ho⟩ := hl
  obtain ⟨n2, ho2⟩ := hb
  exact call_meets PySem.F.slot_list_lt ⟨_, ho, rfl⟩ PySem.F.entry_list_lt (PySem.F.args_list_lt_2 _ _) (list_lt_meets l b items items2 n n2 hsz v) ⟨ho, ho2, hz, h⟩

theorem LtAt.int (a b : Int) (t u : Tok) : LtAt A s (.int a t) (.int b u) (decide (a < b)) := fun prog w E Q h => lt_int h
theorem LtAt.str (a b : Str) (t u : Tok) : LtAt A s (.str a t) (.str b u) (decide (a.cps.toList < b.cps.toList)) := fun prog w E Q h => PyProof.Rows.lt_str h
theorem EqAt.int (a b : Int) (t u : Tok) : EqAt A s (.int a t) (.int b u) (a == b) := fun prog w E Q h => wpAny_eqBool_int h
theorem EqAt.str (a b : Str) (t u : Tok) : EqAt A s (.str a t) (.str b u) (decide (a = b)) := fun prog w E Q h => wpAny_eqBool_str h
end
end Mine
namespace Mine
open PySem PySem.W PyProof.Rows

noncomputable def krun {α : Type} (lt : Nat → Nat → Bool) : KasT α → α
  | .ret a => a
  | .ask i j k => krun lt (k (lt i j))
theorem krun_bind {α β : Type} (lt : Nat → Nat → Bool) (f : α → KasT β) : ∀ t : KasT α, krun lt (t.bind f) = krun lt (f (krun lt t))
  | .ret _ => rfl
  | .ask i j k => krun_bind lt f (k (lt i j))

/-- i comes ahead of j -/
noncomputable def Prec (lt : Nat → Nat → Bool) (i j : Nat) : Prop := lt j i = false ∧ (lt i j = false → i < j)

section
variable {lt : Nat → Nat → Bool}
theorem Prec.trans (O : Ord lt) {i j k : Nat} (h : Prec lt i j) (h' : Prec lt j k) : Prec lt i k := by
  refine ⟨O.ntr k j i h'.1 h.1, fun e => ?_⟩
  have a := h.2 (O.ntr i k j e h'.1)
  have b := h'.2 (O.ntr j i k h.1 e)
  omega
theorem Prec.of_lt (O : Ord lt) {i j : Nat} (h : lt i j = true) : Prec lt i j := ⟨O.asym _ _ h, fun e => by rw [e] at h; cases h⟩
theorem Prec.asym {i j : Nat} (h : Prec lt i j) (h' : Prec lt j i) : i = j := by
  have a := h.2 h'.1
  have b := h'.2 h.1
  omega
/-- j weakly below i, k strictly below j -/
theorem lt_of_lt_le (O : Ord lt) {k j i : Nat} (h : lt k j = true) (h' : lt i j = false) : lt k i = true := by
  cases e : lt k i with
  | true => rfl
  | false => rw [O.ntr k i j e h'] at h; cases h

noncomputable def at0 (p : Array Nat) (i : Nat) : Nat := p.getD i 0
theorem at0_of {p q : Array Nat} {i j : Nat} (h : p[i]? = q[j]?) : at0 p i = at0 q j := by
  unfold at0
  rw [Array.getD_eq_getD_getElem?, Array.getD_eq_getD_getElem?, h]
theorem at0_rev {p : Array Nat} {i j : Nat} (hj : j ≤ p.size) (k : Nat) : at0 (kas_rev p i j) k = if i ≤ k ∧ k < j then at0 p (i + j - 1 - k) else at0 p k := by
  have h := getElem?_mirror_all (xs := p) (i := i) hj k
  unfold kas_rev
  split
  · rename_i e; rw [if_pos e] at h; exact at0_of h
  · rename_i e; rw [if_neg e] at h; exact at0_of h
theorem at0_bubble {p : Array Nat} {src l : Nat} (hs : src < p.size) (hl : l ≤ src) (k : Nat) : at0 (bubble p src (src - l)) k = if k = l then at0 p src else if l < k ∧ k ≤ src then at0 p (k - 1) else at0 p k := by
  have h := getElem?_bubble (xs := p) hs (src - l) (by omega) k
  have e : src - (src - l) = l := by omega
  rw [e] at h
  split
  · rename_i e; rw [if_pos e] at h; exact at0_of h
  · rename_i e; rw [if_neg e] at h
    split
    · rename_i e; rw [if_pos e] at h; exact at0_of h
    · rename_i e; rw [if_neg e] at h; exact at0_of h

/-- the first m stand in order; below m are the first m; the rest as it was -/
structure Base (n m : Nat) (p : Array Nat) : Prop where
  size : p.size = n
  mn : m ≤ n
  perm : p.toList.Perm (List.range n)
  low : ∀ i, i < m → at0 p i < m
  rest : ∀ i, m ≤ i → i < n → at0 p i = i
noncomputable def Asc (lt : Nat → Nat → Bool) (m : Nat) (p : Array Nat) : Prop := ∀ a b, a < b → b < m → Prec lt (at0 p a) (at0 p b)
noncomputable def Desc (lt : Nat → Nat → Bool) (m : Nat) (p : Array Nat) : Prop := ∀ a b, a < b → b < m → Prec lt (at0 p b) (at0 p a)

theorem Base.rev {n m i j : Nat} {p : Array Nat} (B : Base n m p) (hj : j ≤ m) : Base n m (kas_rev p i j) := by
  have hs : j ≤ p.size := by rw [B.size]; have := B.mn; omega
  refine ⟨(kas_rev_size (p := p) i j).trans B.size, B.mn, ?_, ?_, ?_⟩
  · exact (Array.perm_iff_toList_perm.mp (mirror_perm p i j _)).trans B.perm
  · intro k hk
    rw [at0_rev hs]
    split
    · exact B.low _ (by omega)
    · exact B.low _ hk
  · intro k h1 h2
    rw [at0_rev hs, if_neg (by omega)]
    exact B.rest k h1 h2
theorem Base.grow {n m : Nat} {p : Array Nat} (B : Base n m p) (h : m < n) : Base n (m + 1) p := by
  refine ⟨B.size, h, B.perm, ?_, fun i h1 h2 => B.rest i (by omega) h2⟩
  intro i hi
  by_cases e : i < m
  · have := B.low i e; omega
  · have : i = m := by omega
    subst this
    rw [B.rest i (Nat.le_refl _) h]; omega

theorem Asc.snoc (O : Ord lt) {n m : Nat} {p : Array Nat} (B : Base n m p) (h : m < n) (h1 : 1 ≤ m) (A : Asc lt m p) (hle : lt (at0 p m) (at0 p (m - 1)) = false) : Asc lt (m + 1) p := by
  have hm := B.rest m (Nat.le_refl _) h
  have key : Prec lt (at0 p (m - 1)) (at0 p m) := ⟨hle, fun _ => by rw [hm]; exact B.low _ (by omega)⟩
  intro a b hab hb
  by_cases e : b < m
  · exact A a b hab e
  · have : b = m := by omega
    subst this
    by_cases e2 : a = b - 1
    · subst e2; exact key
    · exact (A a (b - 1) (by omega) (by omega)).trans O key

theorem asc_spec (O : Ord lt) {n : Nat} {p : Array Nat} : ∀ (f m : Nat), m + f = n → 1 ≤ m → Base n m p → Asc lt m p →
    m ≤ krun lt (kas_asc p f m) ∧ Base n (krun lt (kas_asc p f m)) p ∧ Asc lt (krun lt (kas_asc p f m)) p ∧
      (krun lt (kas_asc p f m) < n → lt (at0 p (krun lt (kas_asc p f m))) (at0 p (krun lt (kas_asc p f m) - 1)) = true)
  | 0, m, hf, h1, B, A => ⟨Nat.le_refl _, B, A, fun h => by
      have h' : m < n := h
      omega⟩
  | f + 1, m, hf, h1, B, A => by
    show m ≤ krun lt (if lt (at0 p m) (at0 p (m - 1)) = true then KasT.ret m else kas_asc p f (m + 1)) ∧ _
    have e0 : krun lt (kas_asc p (f + 1) m) = krun lt (if lt (at0 p m) (at0 p (m - 1)) = true then KasT.ret m else kas_asc p f (m + 1)) := rfl
    rw [e0]
    by_cases h : lt (at0 p m) (at0 p (m - 1)) = true
    · rw [if_pos h]
      exact ⟨Nat.le_refl _, B, A, fun _ => h⟩
    · rw [if_neg h]
      obtain ⟨r1, r2⟩ := asc_spec O f (m + 1) (by omega) (by omega) (B.grow (by omega)) (Asc.snoc O B (by omega) h1 A (Bool.eq_false_iff.mpr h))
      exact ⟨by omega, r2⟩

structure DInv (lt : Nat → Nat → Bool) (n m q : Nat) (p : Array Nat) : Prop where
  base : Base n m p
  qm : q + 1 ≤ m
  d1 : ∀ a b, a < b → b < m - (q + 1) → Prec lt (at0 p b) (at0 p a)
  d2 : ∀ a b, a < m - (q + 1) → m - (q + 1) ≤ b → b < m → lt (at0 p b) (at0 p a) = true
  d3 : ∀ a b, m - (q + 1) ≤ a → a < b → b < m → lt (at0 p a) (at0 p b) = false ∧ lt (at0 p b) (at0 p a) = false ∧ at0 p a < at0 p b

/-- with its last block turned over the whole is in falling order -/
theorem DInv.desc (O : Ord lt) {n m q : Nat} {p : Array Nat} (D : DInv lt n m q p) : Desc lt m (if q > 0 then kas_rev p (m - (q + 1)) m else p) := by
  have hs : m ≤ p.size := by rw [D.base.size]; exact D.base.mn
  intro a b hab hb
  split
  · rw [at0_rev hs, at0_rev hs]
    by_cases h1 : m - (q + 1) ≤ a
    · rw [if_pos ⟨by omega, hb⟩, if_pos ⟨h1, by omega⟩]
      have := D.d3 (m - (q + 1) + m - 1 - b) (m - (q + 1) + m - 1 - a) (by have := D.qm; omega) (by omega) (by omega)
      exact ⟨this.2.1, fun _ => this.2.2⟩
    · rw [if_neg (by omega : ¬ (m - (q + 1) ≤ a ∧ a < m))]
      by_cases h2 : m - (q + 1) ≤ b
      · rw [if_pos ⟨h2, hb⟩]
        exact Prec.of_lt O (D.d2 a _ (by omega) (by omega) (by omega))
      · rw [if_neg (by omega)]
        exact D.d1 a b hab (by omega)
  · have hq : q = 0 := by omega
    subst hq
    by_cases h2 : b < m - 1
    · exact D.d1 a b hab h2
    · exact Prec.of_lt O (D.d2 a b (by omega) (by omega) hb)

theorem DInv.base' {n m q : Nat} {p : Array Nat} (D : DInv lt n m q p) : Base n m (if q > 0 then kas_rev p (m - (q + 1)) m else p) := by
  split
  · exact D.base.rev (Nat.le_refl _)
  · exact D.base

/-- one more, strictly below the last -/
theorem DInv.start (O : Ord lt) {n m : Nat} {p : Array Nat} (B : Base n m p) (h : m < n) (h1 : 1 ≤ m) (D : Desc lt m p) (hl : lt (at0 p m) (at0 p (m - 1)) = true) : DInv lt n (m + 1) 0 p := by
  refine ⟨B.grow h, by omega, ?_, ?_, ?_⟩
  · intro a b hab hb
    exact D a b hab (by omega)
  · intro a b ha hb hbm
    have : b = m := by omega
    subst this
    by_cases e : a = b - 1
    · subst e; exact hl
    · exact lt_of_lt_le O hl (D a (b - 1) (by omega) (by omega)).1
  · intro a b ha hab hb
    omega

theorem desc_spec (O : Ord lt) {n : Nat} : ∀ (f : Nat) (p : Array Nat) (m q : Nat), m + f = n → DInv lt n m q p →
    m ≤ (krun lt (kas_desc f p m q)).2.1 ∧ DInv lt n (krun lt (kas_desc f p m q)).2.1 (krun lt (kas_desc f p m q)).2.2 (krun lt (kas_desc f p m q)).1
  | 0, p, m, q, hf, D => ⟨Nat.le_refl _, D⟩
  | f + 1, p, m, q, hf, D => by
    have e0 : krun lt (kas_desc (f + 1) p m q) = krun lt (if lt (at0 p m) (at0 p (m - 1)) = true then (if q > 0 then kas_desc f (kas_rev p (m - (q + 1)) m) (m + 1) 0 else kas_desc f p (m + 1) 0)
      else KasT.ask (at0 p (m - 1)) (at0 p m) fun d => if d = true then .ret (p, m, q) else kas_desc f p (m + 1) (q + 1)) := rfl
    have hqm := D.qm
    have hm := D.base.rest m (Nat.le_refl _) (by omega)
    rw [e0]
    by_cases h : lt (at0 p m) (at0 p (m - 1)) = true
    · rw [if_pos h]
      have e1 : krun lt (if q > 0 then kas_desc f (kas_rev p (m - (q + 1)) m) (m + 1) 0 else kas_desc f p (m + 1) 0) = krun lt (kas_desc f (if q > 0 then kas_rev p (m - (q + 1)) m else p) (m + 1) 0) := by
        split <;> rfl
      rw [e1]
      have hs : m ≤ p.size := by rw [D.base.size]; exact D.base.mn
      have hl' : lt (at0 (if q > 0 then kas_rev p (m - (q + 1)) m else p) m) (at0 (if q > 0 then kas_rev p (m - (q + 1)) m else p) (m - 1)) = true := by
        split
        · rename_i hq
          rw [at0_rev hs, at0_rev hs, if_neg (by omega), if_pos ⟨by omega, by omega⟩]
          have e : m - (q + 1) + m - 1 - (m - 1) = m - (q + 1) := by omega
          rw [e]
          exact lt_of_lt_le O h (D.d3 (m - (q + 1)) (m - 1) (Nat.le_refl _) (by omega) (by omega)).1
        · exact h
      have S := DInv.start O D.base' (by omega) (by omega) (D.desc O) hl'
      obtain ⟨r1, r2⟩ := desc_spec O f _ (m + 1) 0 (by omega) S
      exact ⟨by omega, r2⟩
    · rw [if_neg h]
      have e1 : krun lt (KasT.ask (at0 p (m - 1)) (at0 p m) fun d => if d = true then KasT.ret (p, m, q) else kas_desc f p (m + 1) (q + 1)) = krun lt (if lt (at0 p (m - 1)) (at0 p m) = true then KasT.ret (p, m, q) else kas_desc f p (m + 1) (q + 1)) := rfl
      rw [e1]
      by_cases h2 : lt (at0 p (m - 1)) (at0 p m) = true
      · rw [if_pos h2]
        exact ⟨Nat.le_refl _, D⟩
      · rw [if_neg h2]
        have h' := Bool.eq_false_iff.mpr h
        have h2' := Bool.eq_false_iff.mpr h2
        have D' : DInv lt n (m + 1) (q + 1) p := by
          have es : m + 1 - (q + 1 + 1) = m - (q + 1) := by omega
          refine ⟨D.base.grow (by omega), by omega, ?_, ?_, ?_⟩
          · rw [es]; exact D.d1
          · rw [es]
            intro a b ha hb hbm
            by_cases e : b < m
            · exact D.d2 a b ha hb e
            · have : b = m := by omega
              subst this
              have := D.d2 a (b - 1) ha (by omega) (by omega)
              cases e : lt (at0 p b) (at0 p a) with
              | true => rfl
              | false => rw [O.ntr _ _ _ h2' e] at this; cases this
          · rw [es]
            intro a b ha hab hb
            by_cases e : b < m
            · exact D.d3 a b ha hab e
            · have : b = m := by omega
              subst this
              have hlow := D.base.low a (by omega)
              by_cases e2 : a = b - 1
              · subst e2; exact ⟨h2', h', by rw [hm]; exact hlow⟩
              · have := D.d3 a (b - 1) ha (by omega) (by omega)
                exact ⟨O.ntr _ _ _ this.1 h2', O.ntr _ _ _ h' this.2.1, by rw [hm]; exact hlow⟩
        obtain ⟨r1, r2⟩ := desc_spec O f p (m + 1) (q + 1) (by omega) D'
        exact ⟨by omega, r2⟩

theorem Desc.rev {n m : Nat} {p : Array Nat} (B : Base n m p) (D : Desc lt m p) : Asc lt m (kas_rev p 0 m) := by
  have hs : m ≤ p.size := by rw [B.size]; exact B.mn
  intro a b hab hb
  rw [at0_rev hs, at0_rev hs, if_pos ⟨by omega, by omega⟩, if_pos ⟨by omega, by omega⟩]
  exact D _ _ (by omega) (by omega)

noncomputable def Out (lt : Nat → Nat → Bool) (n : Nat) (r : Nat × Array Nat) : Prop := 1 ≤ r.1 ∧ Base n r.1 r.2 ∧ Asc lt r.1 r.2

theorem tail3_spec (O : Ord lt) {n m : Nat} {p : Array Nat} (h1 : 1 ≤ m) (B : Base n m p) (D : Desc lt m p) : Out lt n (krun lt (kas_tail3 m n p)) := by
  unfold kas_tail3
  rw [krun_bind]
  obtain ⟨r1, r2, r3, _⟩ := asc_spec O (n - m) m (by have := B.mn; omega) h1 (B.rev (i := 0) (Nat.le_refl _)) (Desc.rev B D)
  exact ⟨by show 1 ≤ krun lt (kas_asc (kas_rev p 0 m) (n - m) m); omega, r2, r3⟩

theorem descPart_spec (O : Ord lt) {n m : Nat} {p : Array Nat} (h1 : 1 ≤ m) (hn : m < n) (B : Base n m p) (D : Desc lt m p) (hl : lt (at0 p m) (at0 p (m - 1)) = true) : Out lt n (krun lt (kas_descPart m n p)) := by
  unfold kas_descPart
  rw [krun_bind]
  obtain ⟨r1, r2⟩ := desc_spec O (n - (m + 1)) p (m + 1) 0 (by omega) (DInv.start O B hn h1 D hl)
  generalize krun lt (kas_desc (n - (m + 1)) p (m + 1) 0) = r at r1 r2
  obtain ⟨p', m', q'⟩ := r
  have B' := r2.base'
  have D' := r2.desc O
  dsimp only at r1 B' D' ⊢
  have e1 : krun lt (if q' > 0 then kas_tail3 m' n (kas_rev p' (m' - (q' + 1)) m') else kas_tail3 m' n p') = krun lt (kas_tail3 m' n (if q' > 0 then kas_rev p' (m' - (q' + 1)) m' else p')) := by
    split <;> rfl
  rw [e1]
  exact tail3_spec O (by omega) B' D'

theorem count_spec (O : Ord lt) {n : Nat} (h1 : 1 ≤ n) {p : Array Nat} (B : Base n 1 p) : Out lt n (krun lt (kas_count n p)) := by
  unfold kas_count
  rw [krun_bind]
  obtain ⟨r1, r2, r3, r4⟩ := asc_spec (lt := lt) O (n - 1) 1 (by omega) (Nat.le_refl _) B (fun a b hab hb => by omega)
  generalize krun lt (kas_asc p (n - 1) 1) = m at r1 r2 r3 r4
  by_cases e : (m == n) = true
  · rw [if_pos e]
    exact ⟨r1, r2, r3⟩
  · rw [if_neg e]
    have hne : m ≠ n := fun q => e (by simp [q])
    have hlt : m < n := by have := r2.mn; omega
    have hd := r4 hlt
    by_cases e2 : m > 1
    · rw [if_pos e2]
      have e3 : krun lt (KasT.ask (p.getD 0 0) (p.getD (m - 1) 0) fun c => if c = true then KasT.ret (m, p) else kas_descPart m n (kas_rev p 0 m)) = krun lt (if lt (at0 p 0) (at0 p (m - 1)) = true then KasT.ret (m, p) else kas_descPart m n (kas_rev p 0 m)) := rfl
      rw [e3]
      by_cases e4 : lt (at0 p 0) (at0 p (m - 1)) = true
      · rw [if_pos e4]
        exact ⟨r1, r2, r3⟩
      · rw [if_neg e4]
        have e4' := Bool.eq_false_iff.mpr e4
        have hs : m ≤ p.size := by rw [r2.size]; exact r2.mn
        -- all alike
        have alike : ∀ a b, a < m → b < m → lt (at0 p a) (at0 p b) = false := by
          intro a b ha hb
          have h0a : lt (at0 p a) (at0 p 0) = false ∧ lt (at0 p (m - 1)) (at0 p a) = false := by
            constructor
            · by_cases q : a = 0
              · subst q; exact O.irr _
              · exact (r3 0 a (by omega) ha).1
            · by_cases q : a = m - 1
              · subst q; exact O.irr _
              · exact (r3 a (m - 1) (by omega) (by omega)).1
          have h0b : lt (at0 p (m - 1)) (at0 p b) = false := by
            by_cases q : b = m - 1
            · subst q; exact O.irr _
            · exact (r3 b (m - 1) (by omega) (by omega)).1
          -- a <= ... : lt a b = false from lt a (m-1) = false and lt (m-1) b = false
          have ham : lt (at0 p a) (at0 p (m - 1)) = false := by
            by_cases q : a = 0
            · subst q; exact e4'
            · have h := r3 0 a (by omega) ha
              cases hh : lt (at0 p a) (at0 p (m - 1)) with
              | false => rfl
              | true =>
                have := lt_of_lt_le O hh (i := at0 p (m - 1)) (O.irr _)
                -- 0 <= a < m-1 gives 0 < m-1
                cases h0 : lt (at0 p 0) (at0 p (m - 1)) with
                | true => rw [h0] at e4'; cases e4'
                | false => rw [O.ntr _ _ _ h.1 h0] at hh; cases hh
          exact O.ntr _ _ _ ham h0b
        refine descPart_spec O (by omega) hlt (r2.rev (i := 0) (Nat.le_refl _)) ?_ ?_
        · intro a b hab hb
          rw [at0_rev hs, at0_rev hs, if_pos ⟨by omega, by omega⟩, if_pos ⟨by omega, by omega⟩]
          have := r3 (0 + m - 1 - b) (0 + m - 1 - a) (by omega) (by omega)
          exact this
        · rw [at0_rev hs, at0_rev hs, if_neg (by omega), if_pos ⟨by omega, by omega⟩]
          have ez : 0 + m - 1 - (m - 1) = 0 := by omega
          rw [ez]
          exact lt_of_lt_le O hd (alike 0 (m - 1) (by omega) (by omega))
    · rw [if_neg e2]
      have : m = 1 := by omega
      subst this
      exact descPart_spec O (Nat.le_refl _) hlt r2 (fun a b hab hb => by omega) hd

theorem place_spec (O : Ord lt) {p : Array Nat} {k : Nat} (A : Asc lt k p) : ∀ (f l r : Nat), r ≤ l + f → l ≤ r → r ≤ k → (∀ a, a < l → lt (at0 p k) (at0 p a) = false) → (∀ a, r ≤ a → a < k → lt (at0 p k) (at0 p a) = true) →
    krun lt (kas_place p k f l r) ≤ k ∧ (∀ a, a < krun lt (kas_place p k f l r) → lt (at0 p k) (at0 p a) = false) ∧ (∀ a, krun lt (kas_place p k f l r) ≤ a → a < k → lt (at0 p k) (at0 p a) = true)
  | 0, l, r, hf, hlr, hr, h1, h2 => ⟨by show l ≤ k; omega, h1, fun a ha => h2 a (by have : l ≤ a := ha; omega)⟩
  | f + 1, l, r, hf, hlr, hr, h1, h2 => by
    rw [kas_place]
    by_cases h : l ≥ r
    · rw [if_pos h]
      exact ⟨by show l ≤ k; omega, h1, fun a ha => h2 a (by have : l ≤ a := ha; omega)⟩
    · rw [if_neg h]
      have e0 : krun lt (KasT.ask (p.getD k 0) (p.getD ((l + r) / 2) 0) fun c => if c = true then kas_place p k f l ((l + r) / 2) else kas_place p k f ((l + r) / 2 + 1) r) =
        krun lt (if lt (at0 p k) (at0 p ((l + r) / 2)) = true then kas_place p k f l ((l + r) / 2) else kas_place p k f ((l + r) / 2 + 1) r) := rfl
      rw [e0]
      by_cases hc : lt (at0 p k) (at0 p ((l + r) / 2)) = true
      · rw [if_pos hc]
        refine place_spec O A f l ((l + r) / 2) (by omega) (by omega) (by omega) h1 ?_
        intro a ha hk
        by_cases e : a = (l + r) / 2
        · subst e; exact hc
        · exact lt_of_lt_le O hc (A ((l + r) / 2) a (by omega) hk).1
      · rw [if_neg hc]
        refine place_spec O A f ((l + r) / 2 + 1) r (by omega) (by omega) hr ?_ h2
        intro a ha
        by_cases e : a = (l + r) / 2
        · subst e; exact Bool.eq_false_iff.mpr hc
        · exact O.ntr _ _ _ (Bool.eq_false_iff.mpr hc) (A a ((l + r) / 2) (by omega) (by omega)).1

theorem bin_spec (O : Ord lt) {n : Nat} : ∀ (f : Nat) (p : Array Nat) (k : Nat), k + f = n → 1 ≤ k → Base n k p → Asc lt k p → Base n n (krun lt (kas_bin f p k)) ∧ Asc lt n (krun lt (kas_bin f p k))
  | 0, p, k, hf, h1, B, A => by
    have : k = n := by omega
    subst this
    exact ⟨B, A⟩
  | f + 1, p, k, hf, h1, B, A => by
    rw [kas_bin, krun_bind]
    obtain ⟨r1, r2, r3⟩ := place_spec O A k 0 k (by omega) (by omega) (Nat.le_refl _) (fun a ha => absurd ha (Nat.not_lt_zero _)) (fun a h1 h2 => by omega)
    generalize krun lt (kas_place p k k 0 k) = l at r1 r2 r3
    have hs : k < p.size := by rw [B.size]; omega
    have hk := B.rest k (Nat.le_refl _) (by omega)
    have hat := fun i => at0_bubble (p := p) hs r1 i
    refine bin_spec O f (bubble p k (k - l)) (k + 1) (by omega) (by omega) ?_ ?_
    · refine ⟨(bubble_size p k _).trans B.size, by omega, (Array.perm_iff_toList_perm.mp (bubble_perm p k _)).trans B.perm, ?_, ?_⟩
      · intro i hi
        rw [hat]
        split
        · rw [hk]; omega
        · split
          · have := B.low (i - 1) (by omega); omega
          · have := B.low i (by omega); omega
      · intro i h1 h2
        rw [hat, if_neg (by omega), if_neg (by omega)]
        exact B.rest i (by omega) h2
    · intro a b hab hb
      rw [hat, hat]
      by_cases q1 : a < l
      · rw [if_neg (by omega : ¬ a = l), if_neg (by omega : ¬ (l < a ∧ a ≤ k))]
        by_cases q2 : b = l
        · rw [if_pos q2, hk]
          have := r2 a q1
          rw [hk] at this
          exact ⟨this, fun _ => B.low a (by omega)⟩
        · rw [if_neg q2]
          by_cases q3 : l < b
          · rw [if_pos ⟨q3, by omega⟩]; exact A a (b - 1) (by omega) (by omega)
          · rw [if_neg (by omega)]; exact A a b hab (by omega)
      · by_cases q2 : a = l
        · rw [if_pos q2, if_neg (by omega), if_pos ⟨by omega, by omega⟩]
          exact Prec.of_lt O (r3 (b - 1) (by omega) (by omega))
        · rw [if_neg q2, if_pos ⟨by omega, by omega⟩, if_neg (by omega), if_pos ⟨by omega, by omega⟩]
          exact A (a - 1) (b - 1) (by omega) (by omega)

theorem base_range (n : Nat) (h : 1 ≤ n) : Base n 1 (List.toArray (List.range n)) := by
  have hat : ∀ i, i < n → at0 (List.toArray (List.range n)) i = i := by
    intro i hi
    simp [at0, Array.getD, hi]
  exact ⟨by simp, h, List.Perm.refl _, fun i hi => by rw [hat i (by omega)]; exact hi, fun i h1 h2 => hat i h2⟩

theorem sort_spec (O : Ord lt) {n : Nat} (h : 1 ≤ n) : Base n n (krun lt (kas_sort n)) ∧ Asc lt n (krun lt (kas_sort n)) := by
  unfold kas_sort
  rw [krun_bind]
  obtain ⟨r1, r2, r3⟩ := count_spec O h (base_range n h)
  generalize krun lt (kas_count n (List.toArray (List.range n))) = r at r1 r2 r3
  by_cases e : r.1 < n
  · rw [if_pos e]
    have : max r.1 1 = r.1 := by omega
    rw [this]
    exact bin_spec O (n - r.1) r.2 r.1 (by omega) r1 r2 r3
  · rw [if_neg e]
    have : r.1 = n := by have := r2.mn; omega
    rw [this] at r2 r3
    exact ⟨r2, r3⟩

theorem sort_list (O : Ord lt) {n : Nat} (h : 1 ≤ n) : (krun lt (kas_sort n)).toList.Perm (List.range n) ∧ (krun lt (kas_sort n)).toList.Pairwise (Prec lt) := by
  obtain ⟨B, A⟩ := sort_spec O h
  refine ⟨B.perm, ?_⟩
  rw [List.pairwise_iff_getElem]
  intro i j hi hj hij
  have hs := B.size
  have hi' : i < (krun lt (kas_sort n)).size := by simpa using hi
  have hj' : j < (krun lt (kas_sort n)).size := by simpa using hj
  have := A i j hij (by omega)
  simpa [at0, Array.getD, hi', hj'] using this
end
end Mine
namespace Mine
open PySem PySem.W PyProof.Rows PySem.SeqAt

/-- all that is asked lies below n, all that is handed back is R -/
inductive OkT {α : Type} (n : Nat) (R : α → Prop) : KasT α → Prop
  | ret {a : α} : R a → OkT n R (.ret a)
  | ask {i j : Nat} {k : Bool → KasT α} : i < n → j < n → (∀ b, OkT n R (k b)) → OkT n R (.ask i j k)
theorem OkT.bind {α β : Type} {n : Nat} {R : α → Prop} {R' : β → Prop} {f : α → KasT β} (hf : ∀ a, R a → OkT n R' (f a)) : ∀ {t : KasT α}, OkT n R t → OkT n R' (t.bind f)
  | _, .ret h => hf _ h
  | _, .ask h1 h2 h3 => .ask h1 h2 fun b => (h3 b).bind hf

noncomputable def Ent (n : Nat) (p : Array Nat) : Prop := ∀ x ∈ p.toList, x < n
theorem Ent.at {n : Nat} {p : Array Nat} (h : Ent n p) (h0 : 0 < n) (i : Nat) : p.getD i 0 < n := by
  by_cases hi : i < p.size
  · have e : p.getD i 0 = p[i] := by simp [Array.getD, hi]
    rw [e]
    exact h _ (by simp)
  · have e : p.getD i 0 = 0 := by simp [Array.getD, hi]
    rw [e]; exact h0
theorem Ent.perm {n : Nat} {p q : Array Nat} (h : Ent n p) (hp : q.Perm p) : Ent n q := fun x hx => h x ((Array.perm_iff_toList_perm.mp hp).mem_iff.mp hx)
theorem Ent.rev {n : Nat} {p : Array Nat} (h : Ent n p) (i j : Nat) : Ent n (kas_rev p i j) := h.perm (mirror_perm p i j _)

section
variable {n : Nat} (h0 : 0 < n)
include h0
theorem ok_asc {p : Array Nat} (h : Ent n p) : ∀ f m, OkT n (fun _ => True) (kas_asc p f m)
  | 0, m => .ret trivial
  | f + 1, m => .ask (h.at h0 _) (h.at h0 _) fun b => by
    cases b
    · exact ok_asc h f (m + 1)
    · exact .ret trivial
theorem ok_desc : ∀ f p m q, Ent n p → OkT n (fun r => Ent n r.1) (kas_desc f p m q)
  | 0, p, m, q, h => .ret h
  | f + 1, p, m, q, h => .ask (h.at h0 _) (h.at h0 _) fun b => by
    cases b
    · exact .ask (h.at h0 _) (h.at h0 _) fun d => by
        cases d
        · exact ok_desc f p _ _ h
        · exact .ret h
    · show OkT n _ (if q > 0 then kas_desc f (kas_rev p (m - (q + 1)) m) (m + 1) 0 else kas_desc f p (m + 1) 0)
      split
      · exact ok_desc f _ _ _ (h.rev _ _)
      · exact ok_desc f _ _ _ h
theorem ok_tail3 {p : Array Nat} (h : Ent n p) (a b : Nat) : OkT n (fun r => Ent n r.2) (kas_tail3 a b p) := by
  unfold kas_tail3
  refine (ok_asc h0 (h.rev _ _) _ _).bind (fun m _ => ?_)
  exact OkT.ret (R := fun r : Nat × Array Nat => Ent n r.2) (a := (m, kas_rev p 0 a)) (h.rev _ _)
theorem ok_descPart {p : Array Nat} (h : Ent n p) (a b : Nat) : OkT n (fun r => Ent n r.2) (kas_descPart a b p) :=
  (ok_desc h0 _ _ _ _ h).bind fun r hr => by
    split
    · exact ok_tail3 h0 (Ent.rev hr _ _) _ _
    · exact ok_tail3 h0 hr _ _
theorem ok_count {p : Array Nat} (h : Ent n p) (b : Nat) : OkT n (fun r => Ent n r.2) (kas_count b p) :=
  (ok_asc h0 h _ _).bind fun m _ => by
    split
    · exact .ret h
    · split
      · exact .ask (h.at h0 _) (h.at h0 _) fun c => by
          cases c
          · exact ok_descPart h0 (h.rev _ _) _ _
          · exact .ret h
      · exact ok_descPart h0 h _ _
theorem ok_place {p : Array Nat} (h : Ent n p) (k : Nat) : ∀ f l r, OkT n (fun _ => True) (kas_place p k f l r)
  | 0, l, r => .ret trivial
  | f + 1, l, r => by
    rw [kas_place]
    split
    · exact .ret trivial
    · exact .ask (h.at h0 _) (h.at h0 _) fun c => by
        cases c
        · exact ok_place h k f _ _
        · exact ok_place h k f _ _
theorem ok_bin : ∀ f p k, Ent n p → OkT n (fun r => Ent n r) (kas_bin f p k)
  | 0, p, k, h => .ret h
  | f + 1, p, k, h => (ok_place h0 h k _ _ _).bind fun l _ => ok_bin f _ _ (h.perm (bubble_perm p k _))
theorem ok_sort : OkT n (fun r => Ent n r) (kas_sort n) :=
  (ok_count h0 (p := List.toArray (List.range n)) (fun x hx => by simpa using hx) n).bind fun r hr => by
    split
    · exact ok_bin h0 _ _ _ hr
    · exact .ret hr
end

theorem kasWp_run {α : Type} {n : Nat} {R : α → Prop} {cmp : Nat → Nat → (Bool → Shared → Prop) → Shared → Prop} {lt : Nat → Nat → Bool} {s : Shared} {Q : α → Shared → Prop}
    (hc : ∀ i j (C : Bool → Shared → Prop), i < n → j < n → C (lt i j) s → cmp i j C s) : ∀ {t : KasT α}, OkT n R t → Q (krun lt t) s → t.kasWp cmp Q s
  | _, .ret _, h => h
  | _, .ask (k := k) h1 h2 h3, h => hc _ _ _ h1 h2 (kasWp_run hc (h3 _) h)

/-- the order of the indices that a sort gives -/
noncomputable def srt (clt : Nat → Nat → Bool) (n : Nat) (b : Bool) : List Nat :=
  if b = true then ((krun (fun i j => clt (n - 1 - i) (n - 1 - j)) (kas_sort n)).toList.map (fun i => n - 1 - i)).reverse else (krun clt (kas_sort n)).toList

section
variable {prog : Program} {w : World} {A : Around} {E : Value → Shared → Prop} {s : Shared}

theorem sortRuns_spec {ks vs : List Value} {κ : SortKind} {b : Bool} {clt : Nat → Nat → Bool} {Q : SortSt → Shared → Prop} (hl : ks.length = vs.length) (h2 : 2 ≤ vs.length) (h64 : vs.length < 64)
    (hc : ∀ i j (C : Bool → Shared → Prop), i < vs.length → j < vs.length → C (clt i j) s → wpAny (model prog w) A (keyLt' κ (ks.getD i Value.none) (ks.getD j Value.none)) C (fun _ _ => False) s)
    (h : ∀ st', (arrOf st').map (·.2) = List.toArray (katRev b ((srt clt vs.length b).map fun i => vs.getD i Value.none)) → failedOf st' = none → (srt clt vs.length b).length = vs.length → Q st' s) :
    wpAny (model prog w) A ((sortRuns').run (SortSt.mk' κ (if b = true then ((List.toArray ks).zip vs.toArray).reverse else (List.toArray ks).zip vs.toArray) #[] 7 none)) (fun r s' => Q r.2 s') E s := by
  rw [kat_pairs b hl]
  have hlr : (katRev b ks).length = (katRev b vs).length := by rw [kat_len, kat_len, hl]
  have hget : ∀ (xs : List Value) (i : Nat), xs.length = vs.length → i < vs.length → (katRev b xs).getD i Value.none = xs.getD (if b = true then vs.length - 1 - i else i) Value.none := by
    intro xs i hx hi
    unfold katRev
    cases b with
    | false => rfl
    | true =>
      simp only [if_true, List.getD]
      rw [List.getElem?_reverse (by rw [hx]; exact hi), hx]
  refine kat_run (Q := Q) (G := fun p s' => s' = s ∧ p = krun (fun i j => clt (if b = true then vs.length - 1 - i else i) (if b = true then vs.length - 1 - j else j)) (kas_sort (katRev b vs).length)) hlr (by rw [kat_len]; exact h2) (by rw [kat_len]; exact h64) ?_ ?_
  · rintro p st' s' hp har hf ⟨rfl, rfl⟩
    have hlen : (srt clt vs.length b).length = vs.length := by
      rw [kat_len] at hp
      unfold srt
      cases b with
      | false => simpa using hp
      | true => simpa using hp
    refine h st' ?_ hf hlen
    rw [kat_snds hlr har]
    congr 1
    have h0 : 0 < vs.length := by omega
    have hent : Ent vs.length (krun (fun i j => clt (if b = true then vs.length - 1 - i else i) (if b = true then vs.length - 1 - j else j)) (kas_sort vs.length)) := by
      have go : ∀ {t : KasT (Array Nat)} (lt : Nat → Nat → Bool), OkT vs.length (fun r => Ent vs.length r) t → Ent vs.length (krun lt t) := by
        intro t lt ht
        induction ht with
        | ret h => exact h
        | ask _ _ _ ih => exact ih _
      exact go _ (ok_sort h0)
    rw [kat_len]
    cases b with
    | false =>
      unfold katRev srt
      rfl
    | true =>
      unfold srt
      simp only [if_true] at hent ⊢
      unfold katRev
      simp only [if_true, List.map_reverse, List.map_map, List.reverse_reverse]
      apply List.map_congr_left
      intro i hi
      have hi' := hent i hi
      have := hget vs i rfl hi'
      unfold katRev at this
      simpa using this
  · rw [kat_len]
    refine kasWp_run ?_ (ok_sort (by omega)) ⟨rfl, rfl⟩
    intro i j C hi hj hC
    unfold kas_ask
    rw [hget ks i hl hi, hget ks j hl hj]
    refine hc _ _ C ?_ ?_ hC
    · split <;> omega
    · split <;> omega
end

section
variable {clt : Nat → Nat → Bool}
theorem srt_perm (O : Ord clt) {n : Nat} (h : 1 ≤ n) (b : Bool) : (srt clt n b).Perm (List.range n) := by
  unfold srt
  cases b with
  | false => exact (sort_list O h).1
  | true =>
    have O' : Ord (fun i j => clt (n - 1 - i) (n - 1 - j)) := ⟨fun a b h => O.asym _ _ h, fun a b c h1 h2 => O.ntr _ _ _ h1 h2⟩
    simp only [if_true]
    refine (List.reverse_perm _).trans (((sort_list O' h).1.map _).trans ?_)
    have e : (List.range n).map (fun i => n - 1 - i) = (List.range n).reverse := by
      apply List.ext_getElem
      · simp
      · intro i h1 h2
        simp
    rw [e]
    exact List.reverse_perm _
theorem srt_false (O : Ord clt) {n : Nat} (h : 1 ≤ n) : (srt clt n false).Pairwise (fun i j => clt j i = false ∧ (clt i j = false → i < j)) := (sort_list O h).2
theorem srt_true (O : Ord clt) {n : Nat} (h : 1 ≤ n) : (srt clt n true).Pairwise (fun i j => clt i j = false ∧ (clt j i = false → i < j)) := by
  have O' : Ord (fun i j => clt (n - 1 - i) (n - 1 - j)) := ⟨fun a b h => O.asym _ _ h, fun a b c h1 h2 => O.ntr _ _ _ h1 h2⟩
  unfold srt
  simp only [if_true]
  rw [List.pairwise_reverse, List.pairwise_map]
  refine (sort_list O' h).2.imp_of_mem ?_
  intro a b ha hb hp
  have ha' : a < n := List.mem_range.mp ((sort_list O' h).1.mem_iff.mp ha)
  have hb' : b < n := List.mem_range.mp ((sort_list O' h).1.mem_iff.mp hb)
  refine ⟨hp.1, fun e => ?_⟩
  have := hp.2 e
  omega
end
end Mine
namespace Mine
open PySem PySem.W PyProof.Rows PySem.SeqAt PySem.Calls

/-- the keys laid in the heap, one for each item -/
noncomputable def KeysAt (KeyOk : Nat → Obj → Prop) (h : Heap) (ks : List Value) : Prop := ∀ i k, ks[i]? = some k → ∃ ka ko, k = .ref ka ∧ h.get? ka = some ko ∧ KeyOk i ko
/-- what a call of the key does -/
noncomputable def KeyBack (KeyOk : Nat → Obj → Prop) (i : Nat) (s' : Shared) (k : Value) (s'' : Shared) : Prop :=
  ∃ ka ko h tk, k = .ref ka ∧ s'' = { s' with heap := h, toks := tk } ∧ Keep s'.heap h ∧ s'.heap.get? ka = none ∧ h.get? ka = some ko ∧ KeyOk i ko

section
variable {prog : Program} {w : World} {A : Around} {E : Value → Shared → Prop} {s : Shared}

set_option maxHeartbeats 1000000 in
theorem tree_spec {a : Addr} {vs : List Value} {n : Nat} {f : Value} {b : Bool} {κ : SortKind} {clt : Nat → Nat → Bool} {KeyOk : Nat → Obj → Prop} {P : PySem.Fin → Shared → Prop}
    (ho : s.heap.get? a = some (seqObj "list" vs.toArray n)) (h2 : 2 ≤ vs.length) (h64 : vs.length < 64)
    (hkey : ∀ i v h tk, vs[i]? = some v → Heap.ExtBut a s.heap h → wpAny (model prog w) A (call f [v]) (KeyBack KeyOk i { s with heap := h, toks := tk }) (fun _ _ => False) { s with heap := h, toks := tk })
    (hkind : ∀ s' (ks : List Value) (Qk : SortKind → Shared → Prop), ks.length = vs.length → KeysAt KeyOk s'.heap ks → Qk κ s' → wpAny (model prog w) A (keyKind' (List.toArray ks)) Qk (fun _ _ => False) s')
    (hcmp : ∀ s' i j ka kb ko kp (C : Bool → Shared → Prop), s'.heap.get? ka = some ko → KeyOk i ko → s'.heap.get? kb = some kp → KeyOk j kp → C (clt i j) s' → wpAny (model prog w) A (keyLt' κ (.ref ka) (.ref kb)) C (fun _ _ => False) s')
    (hP : ∀ h' tk, Heap.ExtBut a s.heap h' → h'.PlainList a (List.toArray ((srt clt vs.length b).map fun i => vs.getD i Value.none)) → P (.done (.ret .none)) { s with heap := h', toks := tk }) :
    wpAny (model prog w) A (ksk_tree a f b) P E s := by
  have ha : a < s.heap.objs.size := Heap.lt_size ho
  obtain ⟨e1, ho1⟩ : ∃ e1, (s.heap.update a (Obj.mapSeq fun _ => (#[] : Array Value))).get? a = some (seqObj "list" #[] e1) := ⟨_, get?_update_seq ho fun _ => #[]⟩
  unfold ksk_tree
  refine wpAny_bind (listItems_at ho rfl ?_)
  refine wpAny_bind (listUpdate_at ho rfl ?_ (by rw [List.size_toArray, sizeLine_eq]; omega) (Nat.zero_le _))
  refine wpAny_bind (seqEpoch_at ho1 rfl ?_)
  refine wpAny_bind (wpAny_newTuple ?_ (by show vs.length ≤ _; rw [sizeLine_eq]; omega))
  refine wpAny_bind (wpAny_newList ?_ (Nat.zero_le _))
  refine wpAny_holding ?_
  dsimp only
  generalize hH1 : s.heap.update a (Obj.mapSeq fun _ => (#[] : Array Value)) = H1 at ho1
  have x1 : Heap.ExtBut a s.heap H1 := by rw [← hH1]; exact (Heap.SameBut.update s.heap a _).extBut
  have sz1 : H1.objs.size = s.heap.objs.size := by rw [← hH1, Heap.size_update]
  generalize hH2 : H1.push (seqObj "tuple" vs.toArray 0) = H2
  have k2 : Keep H1 H2 := fun b o e => by rw [← hH2]; exact Heap.get?_push_of_some _ e
  have sz2 : H2.objs.size = s.heap.objs.size + 1 := by rw [← hH2, Heap.size_push, sz1]
  generalize hH3 : H2.push (seqObj "list" #[] 0) = H3
  have k3 : Keep H2 H3 := fun b o e => by rw [← hH3]; exact Heap.get?_push_of_some _ e
  have hkS : H3.get? H2.objs.size = some (seqObj "list" #[] 0) := by rw [← hH3]; exact Heap.get?_push_size _ rfl
  have hka : H2.objs.size ≠ a := by rw [sz2]; exact Nat.ne_of_gt (Nat.lt_succ_of_lt ha)
  generalize hkSe : H2.objs.size = kS at hkS hka
  have x3 : Heap.ExtBut a s.heap H3 := fun b o hb e => k3 _ _ (k2 _ _ (x1 b o hb e))
  have ho3 : H3.get? a = some (seqObj "list" #[] e1) := k3 _ _ (k2 _ _ ho1)
  have hkSn : s.heap.objs.size ≤ kS := by rw [← hkSe, sz2]; omega
  unfold ksk_rest
  refine wpAny_bind (wpAny_rule ?_)
  first
    | rw [List.forIn_toArray]
    | (rw [← Array.forIn_toList]; simp only [List.toList_toArray])
    | rw [← Array.forIn_toList]
  refine wpAny_bind (ksk_fold (fun i s' => ∃ (h : Heap) (tk : Nat) (ks : List Value) (e : Nat), s' = { s with heap := h, toks := tk } ∧ Heap.ExtBut a s.heap h ∧ h.get? a = some (seqObj "list" #[] e1) ∧ h.get? kS = some (seqObj "list" (List.toArray ks) e) ∧
      ks.length = i ∧ KeysAt KeyOk h ks ∧ (∀ ka, Value.ref ka ∈ ks → ka ≠ a ∧ ka ≠ kS)) vs 0 _
    ⟨H3, s.toks, [], 0, rfl, x3, ho3, hkS, rfl, fun i k hk => by simp at hk, fun ka hk => by simp at hk⟩ ?step ?done)
  case step =>
    rintro j x s' hx ⟨h, tk, ks, e, rfl, xh, ha0, hk0, hlen, hK, hne⟩
    simp only [Nat.zero_add] at hlen ⊢
    have hj : j < vs.length := (List.getElem?_eq_some_iff.mp hx).1
    refine wpAny_bind (wpAny_attempt (wpAny_mono (hkey j x h tk hx xh) (fun k s'' hb => ?_) fun _ _ hF => hF.elim))
    obtain ⟨ka, ko, g, tk2, rfl, rfl, hkeep, hfresh, hko, hok⟩ := hb
    dsimp only at hkeep hfresh ⊢
    have hk1 := hkeep _ _ hk0
    have ha1 := hkeep _ _ ha0
    have nka : ka ≠ a := fun q => by rw [q, ha0] at hfresh; cases hfresh
    have nkk : ka ≠ kS := fun q => by rw [q, hk0] at hfresh; cases hfresh
    have s1 := Heap.SameBut.update g kS (Obj.mapSeq (·.push (.ref ka)))
    have ea : (List.toArray ks).push (.ref ka) = List.toArray (ks ++ [.ref ka]) := by simp
    obtain ⟨c2, hc2⟩ : ∃ c2, (g.update kS (Obj.mapSeq (·.push (.ref ka)))).get? kS = some (seqObj "list" (List.toArray (ks ++ [.ref ka])) c2) := ⟨_, by rw [← ea]; exact get?_update_seq hk1 (·.push (.ref ka))⟩
    refine wpAny_bind (listUpdate_at hk1 rfl ?_ (by rw [List.size_toArray, sizeLine_eq]; omega) (Nat.le_trans (Nat.le_of_eq (Array.size_push ..)) (by rw [List.size_toArray, sizeLine_eq]; omega)))
    refine wpAny_pure ⟨rfl, _, _, ks ++ [.ref ka], c2, rfl, ?_, (s1.2 a hka.symm).trans ha1, hc2, by simp [hlen], ?_, ?_⟩
    · intro b o hb eb
      refine (s1.2 b ?_).trans (hkeep _ _ (xh b o hb eb))
      exact Nat.ne_of_lt (Nat.lt_of_lt_of_le (Heap.lt_size eb) hkSn)
    · intro i k hk
      by_cases hi : i < ks.length
      · rw [List.getElem?_append_left hi] at hk
        obtain ⟨kb, kp, rfl, hkb, hokb⟩ := hK i k hk
        have := hne kb (List.mem_of_getElem? hk)
        exact ⟨kb, kp, rfl, (s1.2 kb this.2).trans (hkeep _ _ hkb), hokb⟩
      · have hi' : i = ks.length := by
          have := (List.getElem?_eq_some_iff.mp hk).1
          simp at this; omega
        subst hi'
        simp at hk
        subst hk
        rw [hlen]
        exact ⟨ka, ko, rfl, (s1.2 ka nkk).trans hko, hok⟩
    · intro kb hm
      rcases List.mem_append.mp hm with hm | hm
      · exact hne kb hm
      · simp at hm; subst hm; exact ⟨nka, nkk⟩
  case done =>
    rintro s' ⟨h, tk, ks, e, rfl, xh, ha0, hk0, hlen, hK, hne⟩
    simp only [Nat.zero_add] at hlen
    refine wpAny_bind (listItems_at hk0 rfl ?_)
    unfold ksk_end
    have step : ∀ (t : Sem PySem.Fin) (s' : Shared), wpAny (model prog w) A t P E s' → wpAny (model prog w) A (if b = true then (do let _ ← rule "list.sort.reverse"; t) else t) P E s' := by
      intro t s' ht
      split
      · exact wpAny_bind (wpAny_rule ht)
      · exact ht
    have hn2 : ¬ vs.toArray.size < 2 := by rw [List.size_toArray]; omega
    refine step _ _ ?_
    rw [if_neg hn2, if_neg hn2]
    refine wpAny_bind (wpAny_mono (hkind _ ks (fun κ' s'' => κ' = κ ∧ s'' = { s with heap := h, toks := tk }) hlen hK ⟨rfl, rfl⟩) (fun κ' s'' hk => ?_) fun _ _ x => x.elim)
    obtain ⟨rfl, rfl⟩ := hk
    refine wpAny_bind (wpAny_mono (sortRuns_spec (clt := clt) (Q := fun st' s' => s' = { s with heap := h, toks := tk } ∧ (arrOf st').map (·.2) = List.toArray (katRev b ((srt clt vs.length b).map fun i => vs.getD i Value.none)) ∧ failedOf st' = none ∧ (srt clt vs.length b).length = vs.length)
      hlen h2 h64 (fun i j C hi hj hC => ?_) fun st' h1 h2 h3 => ⟨rfl, h1, h2, h3⟩) ?_ fun _ _ x => x)
    · obtain ⟨ka, ko, e1', hk1, ok1⟩ := hK i (ks.getD i Value.none) (by simp [List.getD, hlen, hi])
      obtain ⟨kb, kp, e2', hk2, ok2⟩ := hK j (ks.getD j Value.none) (by simp [List.getD, hlen, hj])
      rw [e1', e2']
      exact hcmp _ i j ka kb ko kp C hk1 ok1 hk2 ok2 hC
    rintro ⟨⟨⟩, st'⟩ s' ⟨rfl, hout, hf, hlenS⟩
    dsimp only at hout hf ⊢
    unfold ksk_tail
    dsimp only
    rw [hout, kat_outs]
    have hrr : katRev b (katRev b ((srt clt vs.length b).map fun i => vs.getD i Value.none)) = (srt clt vs.length b).map fun i => vs.getD i Value.none := by
      unfold katRev; cases b <;> simp
    rw [hrr]
    generalize hO : ((srt clt vs.length b).map fun i => vs.getD i Value.none) = out at hP
    have hol : out.length = vs.length := by rw [← hO, List.length_map, hlenS]
    have s1 := Heap.SameBut.update h kS (Obj.mapSeq fun _ => (#[] : Array Value))
    have ha1 : (h.update kS (Obj.mapSeq fun _ => (#[] : Array Value))).get? a = some (seqObj "list" #[] e1) := (s1.2 a hka.symm).trans ha0
    have s2 := Heap.SameBut.update (h.update kS (Obj.mapSeq fun _ => (#[] : Array Value))) a (Obj.mapSeq fun _ => List.toArray out)
    obtain ⟨c2, hc2⟩ : ∃ c2, ((h.update kS (Obj.mapSeq fun _ => (#[] : Array Value))).update a (Obj.mapSeq fun _ => List.toArray out)).get? a = some (seqObj "list" (List.toArray out) c2) := ⟨_, get?_update_seq ha1 fun _ => List.toArray out⟩
    refine wpAny_bind (listUpdate_at hk0 rfl ?_ (by rw [List.size_toArray, sizeLine_eq]; omega) (Nat.zero_le _))
    refine wpAny_bind (wpAny_letGo ?_)
    refine wpAny_bind (seqEpoch_at ha1 rfl ?_)
    refine wpAny_bind (listUpdate_at ha1 rfl ?_ (Nat.zero_le _) (by rw [List.size_toArray, sizeLine_eq]; omega))
    rw [hf]
    simp only [bne_self_eq_false, Bool.false_eq_true, if_false]
    refine wpAny_pure (hP _ tk (fun b o hb eb => ?_) ⟨c2, hc2⟩)
    refine (s2.2 b hb).trans ((s1.2 b ?_).trans (xh b o hb eb))
    exact Nat.ne_of_lt (Nat.lt_of_lt_of_le (Heap.lt_size eb) hkSn)

/-- sorted(l, key=f) or with reverse -/
theorem sorted_spec {l : Addr} {vs : List Value} {f : Value} {b : Bool} {kw : List (Str × Value)} {κ : SortKind} {clt : Nat → Nat → Bool} {KeyOk : Nat → Obj → Prop} {Q : Value → Shared → Prop}
    (hl : s.heap.IsList l vs.toArray) (h2 : 2 ≤ vs.length) (h64 : vs.length < 64)
    (ha1 : argsOk "sorted" ⟨[.ref l], kw⟩) (ha2 : ∀ x, argsOk "list.sort" ⟨[.ref x], kw⟩) (ht : ∀ x, Builtin.«list.sort» ⟨[.ref x], kw⟩ = ksk_tree x f b)
    (hkey : ∀ i v h tk, vs[i]? = some v → Keep s.heap h → wpAny (model prog w) A.in1.in1 (call f [v]) (KeyBack KeyOk i { s with heap := h, toks := tk }) (fun _ _ => False) { s with heap := h, toks := tk })
    (hkind : ∀ s' (ks : List Value) (Qk : SortKind → Shared → Prop), ks.length = vs.length → KeysAt KeyOk s'.heap ks → Qk κ s' → wpAny (model prog w) A.in1.in1 (keyKind' (List.toArray ks)) Qk (fun _ _ => False) s')
    (hcmp : ∀ s' i j ka kb ko kp (C : Bool → Shared → Prop), s'.heap.get? ka = some ko → KeyOk i ko → s'.heap.get? kb = some kp → KeyOk j kp → C (clt i j) s' → wpAny (model prog w) A.in1.in1 (keyLt' κ (.ref ka) (.ref kb)) C (fun _ _ => False) s')
    (hQ : ∀ D h' tk, Keep s.heap h' → s.heap.get? D = none → h'.PlainList D (List.toArray ((srt clt vs.length b).map fun i => vs.getD i Value.none)) → Q (.ref D) { s with heap := h', toks := tk }) :
    wpAny (model prog w) A (call (.builtin "sorted") [.ref l] kw) Q E s := by
  refine call_function_entry_kw kind_sorted plain_sorted entry_sorted ha1 ?_
  unfold Builtin.«sorted»
  refine wpAny_bind (m := checkCount "sorted" 1 1 _) (wpAny_pure ?_)
  refine wpAny_bind (collect_list hl ?_ (by rw [sizeLine_eq]; omega))
  refine wpAny_bind (wpAny_newList ?_ (by rw [sizeLine_eq]; omega))
  dsimp only
  generalize hH1 : (s.heap.push (seqObj "list" #[] 0)).update s.heap.objs.size (Obj.mapSeq (· ++ vs.toArray)) = H1
  have hsz : H1.objs.size = s.heap.objs.size + 1 := by rw [← hH1, Heap.size_update, size_push']
  have k1 : Keep s.heap H1 := fun b o q => by
    have hlt : b < s.heap.objs.size := Heap.lt_size q
    rw [← hH1, Heap.get?_update_ne _ _ _ _ (Nat.ne_of_lt hlt), Heap.get?_push_ne _ _ _ (Nat.ne_of_lt hlt)]
    exact q
  generalize hH2 : H1.push (seqObj "list" vs.toArray 0) = H2
  have k2 : Keep H1 H2 := fun b o e => by rw [← hH2]; exact Heap.get?_push_of_some _ e
  have hoL : H2.get? H1.objs.size = some (seqObj "list" vs.toArray 0) := by rw [← hH2]; exact Heap.get?_push_size _ rfl
  have hne : ∀ b o, s.heap.get? b = some o → b ≠ H1.objs.size := fun b o e => by rw [hsz]; exact Nat.ne_of_lt (Nat.lt_succ_of_lt (Heap.lt_size e))
  refine wpAny_bind (wpAny_holding (wpAny_call_entry_kw slot_list_sort ⟨_, hoL, rfl⟩ entry_list_sort ?body (ha2 _)))
  case body =>
    show wpAny (model prog w) A.in1.in1 (Builtin.«list.sort» ⟨[.ref H1.objs.size], kw⟩) _ _ { s with heap := H2 }
    rw [ht]
    refine tree_spec (κ := κ) (clt := clt) (KeyOk := KeyOk) hoL h2 h64 (fun i v h tk hv hx => hkey i v h tk hv fun b o e => hx b o (hne b o e) (k2 _ _ (k1 _ _ e))) hkind hcmp fun h' tk hx hp => ⟨_, rfl, ?_⟩
    exact wpAny_pure ⟨_, rfl, hQ _ h' tk (fun b o e => hx b o (hne b o e) (k2 _ _ (k1 _ _ e))) (Heap.get?_none_of_le (by rw [hsz]; omega)) hp⟩

noncomputable def nkTree (a : Addr) (b : Bool) : Sem PySem.Fin := do
    let items ← Builtin.List.listItems (.ref a)
    Builtin.List.listUpdate (.ref a) fun _ => #[]
    let before ← seqEpoch a
    let held ← newTuple items.toList
    let keyStore ← newList []
    holding [held, keyStore] do
      if b then rule "list.sort.reverse"
      let kind ← if items.size < 2 then pure general' else keyKind' items
      let ((), s) ← (if items.size < 2 then pure () else sortRuns').run (SortSt.mk' kind (if b then (items.zip items).reverse else items.zip items) #[] 7 none)
      let sorted := (arrOf s).map (·.2)
      let touched := (← seqEpoch a) != before
      Builtin.List.listUpdate (.ref a) fun _ => if b then sorted.reverse else sorted
      if let some e := failedOf s then rule "list.sort.comparison-raised"; throw e
      if touched then rule "list.sort.modified"; raiseError "ValueError" "list modified during sort"
      ret .none
theorem nkTree_rev (a : Addr) (b : Bool) : Builtin.«list.sort» ⟨[.ref a], [(Str.ofString "reverse", .bool b)]⟩ = nkTree a b := list_sort_rev a b
theorem nkTree_plain (a : Addr) : Builtin.«list.sort» ⟨[.ref a], []⟩ = nkTree a false := list_sort_plain a

set_option maxHeartbeats 1000000 in
theorem nkTree_spec {a : Addr} {vs : List Value} {n : Nat} {b : Bool} {κ : SortKind} {clt : Nat → Nat → Bool} {P : PySem.Fin → Shared → Prop}
    (ho : s.heap.get? a = some (seqObj "list" vs.toArray n)) (h64 : vs.length < 64)
    (hkind : ∀ s' (Qk : SortKind → Shared → Prop), 2 ≤ vs.length → Heap.ExtBut a s.heap s'.heap → Qk κ s' → wpAny (model prog w) A (keyKind' vs.toArray) Qk (fun _ _ => False) s')
    (hcmp : ∀ s' i j (C : Bool → Shared → Prop), Heap.ExtBut a s.heap s'.heap → i < vs.length → j < vs.length → C (clt i j) s' → wpAny (model prog w) A (keyLt' κ (vs.getD i Value.none) (vs.getD j Value.none)) C (fun _ _ => False) s')
    (hP : ∀ h' tk, Heap.ExtBut a s.heap h' → h'.PlainList a (List.toArray (if vs.length < 2 then vs else (srt clt vs.length b).map fun i => vs.getD i Value.none)) → P (.done (.ret .none)) { s with heap := h', toks := tk }) :
    wpAny (model prog w) A (nkTree a b) P E s := by
  have ha : a < s.heap.objs.size := Heap.lt_size ho
  obtain ⟨e1, ho1⟩ : ∃ e1, (s.heap.update a (Obj.mapSeq fun _ => (#[] : Array Value))).get? a = some (seqObj "list" #[] e1) := ⟨_, get?_update_seq ho fun _ => #[]⟩
  unfold nkTree
  refine wpAny_bind (listItems_at ho rfl ?_)
  refine wpAny_bind (listUpdate_at ho rfl ?_ (by rw [List.size_toArray, sizeLine_eq]; omega) (Nat.zero_le _))
  refine wpAny_bind (seqEpoch_at ho1 rfl ?_)
  refine wpAny_bind (wpAny_newTuple ?_ (by show vs.length ≤ _; rw [sizeLine_eq]; omega))
  refine wpAny_bind (wpAny_newList ?_ (Nat.zero_le _))
  refine wpAny_holding ?_
  dsimp only
  generalize hH1 : s.heap.update a (Obj.mapSeq fun _ => (#[] : Array Value)) = H1 at ho1
  have x1 : Heap.ExtBut a s.heap H1 := by rw [← hH1]; exact (Heap.SameBut.update s.heap a _).extBut
  generalize hH2 : H1.push (seqObj "tuple" vs.toArray 0) = H2
  have k2 : Keep H1 H2 := fun b o e => by rw [← hH2]; exact Heap.get?_push_of_some _ e
  generalize hH3 : H2.push (seqObj "list" #[] 0) = H3
  have k3 : Keep H2 H3 := fun b o e => by rw [← hH3]; exact Heap.get?_push_of_some _ e
  have x3 : Heap.ExtBut a s.heap H3 := fun b o hb e => k3 _ _ (k2 _ _ (x1 b o hb e))
  have ho3 : H3.get? a = some (seqObj "list" #[] e1) := k3 _ _ (k2 _ _ ho1)
  have step : ∀ (t : Sem PySem.Fin) (s' : Shared), wpAny (model prog w) A t P E s' → wpAny (model prog w) A (if b = true then (do let _ ← rule "list.sort.reverse"; t) else t) P E s' := by
    intro t s' ht
    split
    · exact wpAny_bind (wpAny_rule ht)
    · exact ht
  have fin : ∀ (st' : SortSt) (out : List Value), out.length = vs.length → (if b = true then ((arrOf st').map (·.2)).reverse else (arrOf st').map (·.2)) = List.toArray out → failedOf st' = none →
      (out = if vs.length < 2 then vs else (srt clt vs.length b).map fun i => vs.getD i Value.none) →
      wpAny (model prog w) A (do
        let __do_lift ← seqEpoch a
        let touched := __do_lift != e1
        Builtin.List.listUpdate (.ref a) fun _ => if b then ((arrOf st').map (·.2)).reverse else (arrOf st').map (·.2)
        if let some e := failedOf st' then rule "list.sort.comparison-raised"; throw e
        if touched then rule "list.sort.modified"; raiseError "ValueError" "list modified during sort"
        ret .none) P E { s with heap := H3 } := by
    intro st' out hol hout hf he
    rw [hout, hf]
    have s2 := Heap.SameBut.update H3 a (Obj.mapSeq fun _ => List.toArray out)
    obtain ⟨c2, hc2⟩ : ∃ c2, (H3.update a (Obj.mapSeq fun _ => List.toArray out)).get? a = some (seqObj "list" (List.toArray out) c2) := ⟨_, get?_update_seq ho3 fun _ => List.toArray out⟩
    refine wpAny_bind (seqEpoch_at ho3 rfl ?_)
    refine wpAny_bind (listUpdate_at ho3 rfl ?_ (Nat.zero_le _) (by rw [List.size_toArray, sizeLine_eq]; omega))
    simp only [bne_self_eq_false, Bool.false_eq_true, if_false]
    exact wpAny_pure (hP _ s.toks (fun b o hb eb => (s2.2 b hb).trans (x3 b o hb eb)) (by rw [← he]; exact ⟨c2, hc2⟩))
  refine step _ _ ?_
  by_cases h2 : vs.toArray.size < 2
  · rw [if_pos h2, if_pos h2]
    rw [List.size_toArray] at h2
    refine wpAny_bind (wpAny_pure ?_)
    rw [StateT.run_pure]
    refine wpAny_bind (wpAny_pure ?_)
    refine fin (SortSt.mk' general' (if b = true then (vs.toArray.zip vs.toArray).reverse else vs.toArray.zip vs.toArray) #[] 7 none) vs rfl ?_ rfl (by rw [if_pos h2])
    show (if b = true then ((if b = true then (vs.toArray.zip vs.toArray).reverse else vs.toArray.zip vs.toArray).map (·.2)).reverse else ((if b = true then (vs.toArray.zip vs.toArray).reverse else vs.toArray.zip vs.toArray).map (·.2))) = vs.toArray
    have em : (vs.toArray.zip vs.toArray).map (·.2) = vs.toArray := by
      apply Array.toList_inj.mp
      rw [Array.toList_map, ksk_zip]
      exact List.map_snd_zip (Nat.le_refl _)
    cases b with
    | false => simpa using em
    | true =>
      simp only [if_true]
      rw [Array.map_reverse, Array.reverse_reverse]
      exact em
  · rw [if_neg h2, if_neg h2]
    rw [List.size_toArray] at h2
    refine wpAny_bind (wpAny_mono (hkind { s with heap := H3 } (fun κ' s'' => κ' = κ ∧ s'' = { s with heap := H3 }) (by omega) x3 ⟨rfl, rfl⟩) (fun κ' s'' hk => ?_) fun _ _ x => x.elim)
    obtain ⟨rfl, rfl⟩ := hk
    refine wpAny_bind (wpAny_mono (sortRuns_spec (clt := clt) (Q := fun st' s' => s' = { s with heap := H3 } ∧ (arrOf st').map (·.2) = List.toArray (katRev b ((srt clt vs.length b).map fun i => vs.getD i Value.none)) ∧ failedOf st' = none ∧ (srt clt vs.length b).length = vs.length)
      rfl (by omega) h64 (fun i j C hi hj hC => hcmp _ i j C x3 hi hj hC) fun st' h1 h2 h3 => ⟨rfl, h1, h2, h3⟩) ?_ fun _ _ x => x)
    rintro ⟨⟨⟩, st'⟩ s' ⟨rfl, hout, hf, hlenS⟩
    dsimp only at hout hf
    refine fin st' ((srt clt vs.length b).map fun i => vs.getD i Value.none) (by rw [List.length_map, hlenS]) ?_ hf (by rw [if_neg (by omega)])
    rw [hout, kat_outs]
    have hrr : katRev b (katRev b ((srt clt vs.length b).map fun i => vs.getD i Value.none)) = (srt clt vs.length b).map fun i => vs.getD i Value.none := by
      unfold katRev; cases b <;> simp
    rw [hrr]

/-- xs.sort() -/
theorem lsort_spec {a : Addr} {vs : List Value} {κ : SortKind} {clt : Nat → Nat → Bool} {Q : Value → Shared → Prop}
    (ho : s.heap.PlainList a vs.toArray) (h64 : vs.length < 64)
    (hkind : ∀ s' (Qk : SortKind → Shared → Prop), 2 ≤ vs.length → Heap.ExtBut a s.heap s'.heap → Qk κ s' → wpAny (model prog w) A.in1 (keyKind' vs.toArray) Qk (fun _ _ => False) s')
    (hcmp : ∀ s' i j (C : Bool → Shared → Prop), Heap.ExtBut a s.heap s'.heap → i < vs.length → j < vs.length → C (clt i j) s' → wpAny (model prog w) A.in1 (keyLt' κ (vs.getD i Value.none) (vs.getD j Value.none)) C (fun _ _ => False) s')
    (hQ : ∀ h' tk, Heap.ExtBut a s.heap h' → h'.PlainList a (List.toArray (if vs.length < 2 then vs else (srt clt vs.length false).map fun i => vs.getD i Value.none)) → Q .none { s with heap := h', toks := tk }) :
    wpAny (model prog w) A (call (.builtin "list.sort") [.ref a]) Q E s := by
  obtain ⟨n, ho⟩ := ho
  refine wpAny_call_entry slot_list_sort ⟨_, ho, rfl⟩ entry_list_sort ?_ (args_list_sort _)
  rw [nkTree_plain]
  exact nkTree_spec ho h64 hkind hcmp fun h' tk hx hp => ⟨_, rfl, hQ h' tk hx hp⟩
/-- xs.sort(reverse=b) -/
theorem lsortR_spec {a : Addr} {vs : List Value} {b : Bool} {κ : SortKind} {clt : Nat → Nat → Bool} {Q : Value → Shared → Prop}
    (ho : s.heap.PlainList a vs.toArray) (h64 : vs.length < 64)
    (hkind : ∀ s' (Qk : SortKind → Shared → Prop), 2 ≤ vs.length → Heap.ExtBut a s.heap s'.heap → Qk κ s' → wpAny (model prog w) A.in1 (keyKind' vs.toArray) Qk (fun _ _ => False) s')
    (hcmp : ∀ s' i j (C : Bool → Shared → Prop), Heap.ExtBut a s.heap s'.heap → i < vs.length → j < vs.length → C (clt i j) s' → wpAny (model prog w) A.in1 (keyLt' κ (vs.getD i Value.none) (vs.getD j Value.none)) C (fun _ _ => False) s')
    (hQ : ∀ h' tk, Heap.ExtBut a s.heap h' → h'.PlainList a (List.toArray (if vs.length < 2 then vs else (srt clt vs.length b).map fun i => vs.getD i Value.none)) → Q .none { s with heap := h', toks := tk }) :
    wpAny (model prog w) A (call (.builtin "list.sort") [.ref a] [(Str.ofString "reverse", .bool b)]) Q E s := by
  obtain ⟨n, ho⟩ := ho
  refine wpAny_call_entry_kw slot_list_sort ⟨_, ho, rfl⟩ entry_list_sort ?_ (args_list_sort_rev _ _)
  rw [nkTree_rev]
  exact nkTree_spec ho h64 hkind hcmp fun h' tk hx hp => ⟨_, rfl, hQ h' tk hx hp⟩
/-- sorted(l) -/
theorem sorted0_spec {l : Addr} {vs : List Value} {κ : SortKind} {clt : Nat → Nat → Bool} {Q : Value → Shared → Prop}
    (hl : s.heap.IsList l vs.toArray) (h64 : vs.length < 64)
    (hkind : ∀ s' (Qk : SortKind → Shared → Prop), 2 ≤ vs.length → Keep s.heap s'.heap → Qk κ s' → wpAny (model prog w) A.in1.in1 (keyKind' vs.toArray) Qk (fun _ _ => False) s')
    (hcmp : ∀ s' i j (C : Bool → Shared → Prop), Keep s.heap s'.heap → i < vs.length → j < vs.length → C (clt i j) s' → wpAny (model prog w) A.in1.in1 (keyLt' κ (vs.getD i Value.none) (vs.getD j Value.none)) C (fun _ _ => False) s')
    (hQ : ∀ D h' tk, Keep s.heap h' → s.heap.get? D = none → h'.PlainList D (List.toArray (if vs.length < 2 then vs else (srt clt vs.length false).map fun i => vs.getD i Value.none)) → Q (.ref D) { s with heap := h', toks := tk }) :
    wpAny (model prog w) A (call (.builtin "sorted") [.ref l]) Q E s := by
  refine Calls.call_function_entry kind_sorted plain_sorted entry_sorted (args_sorted1 _) ?_
  unfold Builtin.«sorted»
  refine wpAny_bind (m := checkCount "sorted" 1 1 _) (wpAny_pure ?_)
  refine wpAny_bind (collect_list hl ?_ (by rw [sizeLine_eq]; omega))
  refine wpAny_bind (wpAny_newList ?_ (by rw [sizeLine_eq]; omega))
  dsimp only
  generalize hH1 : (s.heap.push (seqObj "list" #[] 0)).update s.heap.objs.size (Obj.mapSeq (· ++ vs.toArray)) = H1
  have hsz : H1.objs.size = s.heap.objs.size + 1 := by rw [← hH1, Heap.size_update, size_push']
  have k1 : Keep s.heap H1 := fun b o q => by
    have hlt : b < s.heap.objs.size := Heap.lt_size q
    rw [← hH1, Heap.get?_update_ne _ _ _ _ (Nat.ne_of_lt hlt), Heap.get?_push_ne _ _ _ (Nat.ne_of_lt hlt)]
    exact q
  generalize hH2 : H1.push (seqObj "list" vs.toArray 0) = H2
  have k2 : Keep H1 H2 := fun b o e => by rw [← hH2]; exact Heap.get?_push_of_some _ e
  have hoL : H2.get? H1.objs.size = some (seqObj "list" vs.toArray 0) := by rw [← hH2]; exact Heap.get?_push_size _ rfl
  have hne : ∀ b o, s.heap.get? b = some o → b ≠ H1.objs.size := fun b o e => by rw [hsz]; exact Nat.ne_of_lt (Nat.lt_succ_of_lt (Heap.lt_size e))
  refine wpAny_bind (wpAny_holding (wpAny_call_entry slot_list_sort ⟨_, hoL, rfl⟩ entry_list_sort ?body (args_list_sort _)))
  case body =>
    rw [nkTree_plain]
    refine nkTree_spec (s := { s with heap := H2 }) (κ := κ) (clt := clt) hoL h64 (fun s' Qk h2 hx hq => hkind s' Qk h2 (fun b o e => hx b o (hne b o e) (k2 _ _ (k1 _ _ e))) hq) (fun s' i j C hx hi hj hC => hcmp s' i j C (fun b o e => hx b o (hne b o e) (k2 _ _ (k1 _ _ e))) hi hj hC) fun h' tk hx hp => ⟨_, rfl, ?_⟩
    exact wpAny_pure ⟨_, rfl, hQ _ h' tk (fun b o e => hx b o (hne b o e) (k2 _ _ (k1 _ _ e))) (Heap.get?_none_of_le (by rw [hsz]; omega)) hp⟩
end
end Mine
namespace Mine
open PySem PySem.W PyProof.Rows PySem.Calls PySem.Builtin PySem.Builtin.Str
noncomputable def fmtX : PySem.Str := PySem.Str.mk #[37, 115, 44, 32, 37, 48, 50, 100, 32, 37, 115, 32, 37, 48, 52, 100, 32, 37, 48, 50, 100, 58, 37, 48, 50, 100, 58, 37, 48, 50, 100, 32, 37, 115]
theorem fmtX_eq : PySem.Str.ofString "%s, %02d %s %04d %02d:%02d:%02d %s" = fmtX := by decide +kernel
/-- k signs wide, noughts ahead -/
noncomputable def padL (k : Nat) (t : List Nat) : List Nat := List.replicate (k - t.length) 48 ++ t
noncomputable def padS (k : Nat) (n : Int) : PySem.Str := ⟨(padL k (PySem.Str.ofString (toString n)).cps.toList).toArray⟩
theorem field_zero {c : Percent} {k : Nat} {txt : List Nat} (hw : c.width = some k) (hz : c.zero = true) (hl : c.ljust = false) (hs : c.sign = false) (hb : c.blank = false) (ha : c.alt = false) (hp : c.prec = none) (ht : c.type = 100)
    (h1 : ∀ r, txt ≠ 45 :: r) (h2 : ∀ r, txt ≠ 43 :: r) : percentField c true txt = if k ≤ txt.length then none else some (padL k txt) := by
  unfold percentField padL
  simp only [hw, hz, hl, hs, hb, ha, hp, ht, Option.all_some, Option.all_none, Bool.not_false, Bool.and_true]
  by_cases h : k ≤ txt.length
  · simp [h]
  · have hd : decide (k ≤ txt.length) = false := decide_eq_false h
    simp only [hd, Bool.false_eq_true, if_false]
    simp only [show ((100 : Nat) == 115 || (100 : Nat) == 114 || (100 : Nat) == 97) = false from rfl, Bool.false_eq_true, if_false, Bool.not_true, Bool.false_and, if_true, Bool.and_self]
    rw [if_neg h]
    cases txt with
    | nil => simp
    | cons a r =>
      have n1 : a ≠ 45 := fun e => h1 r (by rw [e])
      have n2 : a ≠ 43 := fun e => h2 r (by rw [e])
      simp
theorem digits_all {n : Int} (hn : 0 ≤ n) {c : Nat} (hc : c ∈ (PySem.Str.ofString (toString n)).cps.toList) : 48 ≤ c ∧ c ≤ 57 := by
  obtain ⟨m, rfl⟩ := Int.eq_ofNat_of_zero_le hn
  rw [KIN.signs_num] at hc
  obtain ⟨ch, hch, e⟩ := List.mem_map.mp hc
  have r := digit_range (Nat.isDigit_of_mem_toDigits (by decide) (by decide) hch)
  rw [← e]
  exact r
theorem digits_head {n : Int} (hn : 0 ≤ n) (a : Nat) (ha : a = 45 ∨ a = 43) : ∀ r, (PySem.Str.ofString (toString n)).cps.toList ≠ a :: r := by
  intro r e
  have := digits_all hn (c := a) (by rw [e]; exact List.mem_cons_self)
  omega
theorem padL_le {k : Nat} {t : List Nat} (h : k ≤ t.length) : padL k t = t := by
  unfold padL
  rw [Nat.sub_eq_zero_of_le h]; rfl
theorem wp_eq {M : Model} {A : Around} {E : Value → Shared → Prop} {s : Shared} {β : Type} {m m' : Sem β} {Q : β → Shared → Prop} (e : m = m') (h : wpAny M A m' Q E s) : wpAny M A m Q E s := e ▸ h
/-- k figures -/
noncomputable def dg : Nat → Nat → List Nat
  | 0, _ => []
  | k + 1, m => dg k (m / 10) ++ [48 + m % 10]
theorem dg_len (k m : Nat) : (dg k m).length = k := by
  induction k generalizing m with
  | zero => rfl
  | succ k ih => simp [dg, ih]
theorem dg_zero (k : Nat) : dg k 0 = List.replicate k 48 := by
  induction k with
  | zero => rfl
  | succ k ih =>
    rw [List.replicate_succ', ← ih]
    rfl
theorem digit_48 : ∀ d : Nat, d < 10 → (Nat.digitChar d).toNat = 48 + d := by decide
theorem pad_dg {k m : Nat} (hm : m < 10 ^ (k + 1)) : padL (k + 1) ((Nat.toDigits 10 m).map Char.toNat) = dg (k + 1) m := by
  induction k generalizing m with
  | zero =>
    rw [Nat.toDigits_of_lt_base (by omega)]
    show padL 1 [(Nat.digitChar m).toNat] = [48 + m % 10]
    rw [digit_48 m (by omega), Nat.mod_eq_of_lt (by omega)]
    rfl
  | succ k ih =>
    by_cases h : m < 10
    · rw [Nat.toDigits_of_lt_base h]
      show padL (k + 2) [(Nat.digitChar m).toNat] = dg (k + 1) (m / 10) ++ [48 + m % 10]
      rw [Nat.div_eq_of_lt h, dg_zero, digit_48 m h, Nat.mod_eq_of_lt h]
      rfl
    · have hm' : m % 10 < 10 := Nat.mod_lt m (by decide)
      have t : Nat.toDigits 10 (m / 10) ++ Nat.toDigits 10 (m % 10) = Nat.toDigits 10 (10 * (m / 10) + m % 10) := Nat.toDigits_append_toDigits (by decide) (by omega) hm'
      rw [Nat.div_add_mod] at t
      rw [← t, List.map_append, Nat.toDigits_of_lt_base hm']
      show padL (k + 2) ((Nat.toDigits 10 (m / 10)).map Char.toNat ++ [(Nat.digitChar (m % 10)).toNat]) = dg (k + 1) (m / 10) ++ [48 + m % 10]
      rw [digit_48 _ hm', ← ih (m := m / 10) (by rw [Nat.pow_succ] at hm; omega)]
      unfold padL
      rw [List.length_append, List.append_assoc]
      congr 2
      simp only [List.length_singleton]
      omega
theorem padS_dg {k : Nat} {n : Int} (h0 : 0 ≤ n) (h1 : n < 10 ^ (k + 1)) : padS (k + 1) n = ⟨(dg (k + 1) n.toNat).toArray⟩ := by
  obtain ⟨m, rfl⟩ := Int.eq_ofNat_of_zero_le h0
  unfold padS
  rw [KIN.signs_num, pad_dg]
  · rfl
  · exact_mod_cast h1
theorem len_pad {k : Nat} {n : Int} (h0 : 0 ≤ n) (h1 : n < 10 ^ 10) (hk : k ≤ 10) : (⟨(padL k (PySem.Str.ofString (toString n)).cps.toList).toArray⟩ : PySem.Str).length ≤ 20 := by
  have := toString_length_le (k := 10) h0 (by decide) h1
  show (padL k _).toArray.size ≤ 20
  rw [List.size_toArray]
  unfold padL
  rw [List.length_append, List.length_replicate]
  have e : (PySem.Str.ofString (toString n)).cps.toList.length = (PySem.Str.ofString (toString n)).length := by simp [PySem.Str.length]
  omega
section
variable {M : Model} {A : Around} {E : Value → Shared → Prop} {s : Shared} {l : List Nat} {p : List Value} {r : List Nat}
  {f : Nat → List Value × Writer × List Nat → Sem (ForInStep (List Value × Writer × List Nat))} {Q : List Value × Writer × List Nat → Shared → Prop}
  {w : Writer} {T : PySem.Str} {N k : Nat} {o : Option Value}
theorem after_pad {n : Int} (g : KPc.Good w T N) (h0 : 0 ≤ n) (h1 : n < 10 ^ 10) (hk : k ≤ 10)
    (h : ∀ w', KPc.Good w' (T ++ padS k n) (N + 20) → wpAny M A (forIn l (p, w', r) f) Q E s) :
    wpAny M A (forIn l (p, w.add ⟨(padL k (PySem.Str.ofString (toString n)).cps.toList).toArray⟩ none, r) f) Q E s := by
  refine h _ ?_
  exact KPc.good_mono (KPc.good_add g (KPc.obj_none rfl)) (Nat.add_le_add_left (len_pad h0 h1 hk) _)
end
noncomputable abbrev FnT := Nat → List Value × Writer × List Nat → Sem (ForInStep (List Value × Writer × List Nat))
/-- a step of the loop over the format -/
noncomputable abbrev FStep (f : FnT) (p : List Value) (r : List Nat) (x : PySem.Str) (K : Nat) (p' : List Value) (r' : List Nat) : Prop :=
  ∀ {prog : Program} {w : World} {A : Around} {E : Value → Shared → Prop} {s : Shared} {R : ForInStep (List Value × Writer × List Nat) → Shared → Prop} {i tk : Nat} {wr : Writer} {T : PySem.Str} {N : Nat},
    KPc.Good wr T N → N ≤ 16777216 → (∀ w' k, KPc.Good w' (T ++ x) (N + K) → R (.yield (p', w', r')) { s with toks := k }) → wpAny (model prog w) A (f i (p, wr, r)) R E { s with toks := tk }
theorem FStep.go {f : FnT} {p : List Value} {r : List Nat} {x : PySem.Str} {K : Nat} {p' : List Value} {r' : List Nat} (F : FStep f p r x K p' r') {prog : Program} {w : World} {A : Around} {E : Value → Shared → Prop} {s : Shared} {Q : List Value × Writer × List Nat → Shared → Prop} {l : List Nat} {i tk : Nat} {wr : Writer} {T : PySem.Str} {N : Nat}
    (g : KPc.Good wr T N) (hN : N ≤ 16777216) (h : ∀ w' k, KPc.Good w' (T ++ x) (N + K) → wpAny (model prog w) A (forIn l (p', w', r') f) Q E { s with toks := k }) : wpAny (model prog w) A (forIn (i :: l) (p, wr, r) f) Q E { s with toks := tk } :=
  KPc.turn (F g hN h)
theorem not_long {w : Writer} {T : PySem.Str} {N : Nat} (g : KPc.Good w T N) (h : N ≤ 16777216) : ¬ (tooLong w.total = true) := KPc.short_good g h
section
variable {s : Shared} {p : List Value} {r : List Nat} {w : Writer} {T x : PySem.Str} {N K : Nat} {R : ForInStep (List Value × Writer × List Nat) → Shared → Prop}
theorem R_str {o : Option Value} (g : KPc.Good w T N) (hy : x.length ≤ K) (ho : KPc.Obj o x) (h : ∀ w' k, KPc.Good w' (T ++ x) (N + K) → R (.yield (p, w', r)) { s with toks := k }) (k : Nat) : R (.yield (p, w.add ⟨x.cps.toList.toArray⟩ o, r)) { s with toks := k } := by
  have eb : (⟨x.cps.toList.toArray⟩ : PySem.Str) = x := congrArg PySem.Str.mk (Array.toArray_toList ..)
  rw [eb]
  exact h _ _ (KPc.good_mono (KPc.good_add g ho) (Nat.add_le_add_left hy _))
theorem R_num {M : Model} {A : Around} {E : Value → Shared → Prop} {k : Nat} {n : Int} {q : Percent} {txt : List Nat} (hq : txt = (PySem.Str.ofString (toString ((n.natAbs : Nat) : Int))).cps.toList) (hw : q.width = some k) (hz : q.zero = true) (hl : q.ljust = false) (hs : q.sign = false) (hb : q.blank = false) (ha : q.alt = false) (hp : q.prec = none) (ht : q.type = 100)
    (g : KPc.Good w T N) (n0 : 0 ≤ n) (n1 : n < 10 ^ 10) (hk : k ≤ 10)
    (h : ∀ w' k, KPc.Good w' (T ++ x) (N + 20) → R (.yield (p, w', r)) { s with toks := k }) (hx : x = padS k n) (tk : Nat) :
    wpAny M A (match percentField q true (percentInt q (decide (n < 0)) txt) with | none => pure (.yield (p, w.add ⟨(percentInt q (decide (n < 0)) txt).toArray⟩ (if r.isEmpty = true then none else none), r)) | some laid => pure (.yield (p, w.add ⟨laid.toArray⟩ none, r))) R E { s with toks := tk } := by
  rw [KPc.int_text q ha (.inl ht) hp n0, hq, Int.natAbs_of_nonneg n0, field_zero hw hz hl hs hb ha hp ht (digits_head n0 45 (.inl rfl)) (digits_head n0 43 (.inr rfl)), ite_self]
  subst hx
  have e : R (.yield (p, w.add ⟨(padL k (PySem.Str.ofString (toString n)).cps.toList).toArray⟩ none, r)) { s with toks := tk } := by
    refine h _ _ ?_
    exact KPc.good_mono (KPc.good_add g (KPc.obj_none rfl)) (Nat.add_le_add_left (len_pad n0 n1 hk) _)
  rcases Nat.lt_or_ge (PySem.Str.ofString (toString n)).cps.toList.length k with hk | hk
  · rw [if_neg (Nat.not_le.mpr hk)]
    exact wpAny_pure e
  · rw [if_pos hk]
    rw [padL_le hk] at e
    exact wpAny_pure e
end
/-- the turn behind the last sign -/
noncomputable abbrev FStop (f : FnT) : Prop :=
  ∀ {prog : Program} {w : World} {A : Around} {E : Value → Shared → Prop} {s : Shared} {R : ForInStep (List Value × Writer × List Nat) → Shared → Prop} {i : Nat} {p : List Value} {wr : Writer} {T : PySem.Str} {N : Nat},
    KPc.Good wr T N → N ≤ 16777216 → R (.done (p, wr, [])) s → wpAny (model prog w) A (f i (p, wr, [])) R E s
theorem FStop.go {f : FnT} (F : FStop f) {prog : Program} {w : World} {A : Around} {E : Value → Shared → Prop} {s : Shared} {Q : List Value × Writer × List Nat → Shared → Prop} {l : List Nat} {i : Nat} {p : List Value} {wr : Writer} {T : PySem.Str} {N : Nat}
    (g : KPc.Good wr T N) (hN : N ≤ 16777216) (h : Q (p, wr, []) s) : wpAny (model prog w) A (forIn (i :: l) (p, wr, []) f) Q E s :=
  KPc.turn (F g hN h)
structure Turns (f : FnT) : Prop where
  stop : FStop f
  lit1 : ∀ (p : List Value) (r : List Nat), FStep f p (32 :: 37 :: r) ⟨#[32]⟩ 1 p (37 :: r)
  col : ∀ (p : List Value) (r : List Nat), FStep f p (58 :: 37 :: r) ⟨#[58]⟩ 1 p (37 :: r)
  lit2 : ∀ (p : List Value) (r : List Nat), FStep f p (44 :: 32 :: 37 :: r) ⟨#[44, 32]⟩ 2 p (37 :: r)
  str : ∀ (p : List Value) (r : List Nat) (y : PySem.Str) (u : Tok), y.length ≤ 1000000 → FStep f (.str y u :: p) (37 :: 115 :: r) y 1000000 p r
  n2 : ∀ (p : List Value) (r : List Nat) (n : Int) (u : Tok), 0 ≤ n → n < 10 ^ 10 → FStep f (.int n u :: p) (37 :: 48 :: 50 :: 100 :: r) (padS 2 n) 20 p r
  n4 : ∀ (p : List Value) (r : List Nat) (n : Int) (u : Tok), 0 ≤ n → n < 10 ^ 10 → FStep f (.int n u :: p) (37 :: 48 :: 52 :: 100 :: r) (padS 4 n) 20 p r
set_option maxHeartbeats 4000000 in
theorem fmt_loop (t : Tok) (b : Addr) : ∃ f : Bool → FnT, (∀ bb, Turns (f bb)) ∧ ∀ {prog : Program} {w : World} {A : Around} {E : Value → Shared → Prop} {s : Shared} {Q : Fin → Shared → Prop} {its : Array Value}, IsTup s.heap b its →
    (∀ bb, wpAny (model prog w) A (forIn (List.range' 0 fmtX.length 1) (its.toList, ({} : Writer), fmtX.cps.toList) (f bb)) (fun st s' => st.1 = [] ∧ wpAny (model prog w) A (st.2.1.finish "str.__mod__") Q E s') E s) →
    wpAny (model prog w) A («str.__mod__» ⟨[.str fmtX t, .ref b], []⟩) Q E s := by
  apply Exists.intro
  refine And.intro ?_ ?_
  case refine_2 =>
    intro prog w A E s Q its kptH hq
    obtain ⟨kptO, kptG, kptC, kptN, kptD⟩ := kptH
    rw [KPt.entry_is_r]
    unfold Builtin.Str.percentFormat
    refine wpAny_bind (wpAny_isInstance (T := "tuple") ⟨kptO, kptG, kptC⟩ KPt.sub_tt ?_)
    refine wpAny_bind (KPt.asStr_ref kptG kptD ?_)
    refine wpAny_bind (KPt.fills_ref ⟨kptO, kptG, kptC⟩ ?_)
    intro bb
    kpc_if
    refine wpAny_bind (wpAny_seqItems kptG kptD ?_)
    refine wpAny_bind (wpAny_pure ?_)
    refine wpAny_bind ?_
    rw [KPc.range_list]
    refine wpAny_mono (hq bb) (fun st s' h => ?_) fun _ _ e => e
    obtain ⟨p, w', r⟩ := st
    obtain ⟨h1, h2⟩ := h
    dsimp only at h1 h2 ⊢
    subst h1
    kpc_if
    exact h2
  · intro bb
    constructor
    case stop =>
      intro prog w A E s R i p wr T N g hN h
      refine wpAny_ite (KPc.ite_no (not_long g hN) ?_)
      (repeat kpc_if)
      exact wpAny_pure h
    case lit1 =>
      intro p r prog w A E s R i tk wr T N g hN h
      refine wpAny_ite (KPc.ite_no (not_long g hN) ?_)
      (repeat kpc_if)
      refine wpAny_pure ?_
      exact h _ _ (KPc.good_add g (KPc.obj_none rfl))
    case col =>
      intro p r prog w A E s R i tk wr T N g hN h
      refine wpAny_ite (KPc.ite_no (not_long g hN) ?_)
      (repeat kpc_if)
      refine wpAny_pure ?_
      exact h _ _ (KPc.good_add g (KPc.obj_none rfl))
    case lit2 =>
      intro p r prog w A E s R i tk wr T N g hN h
      refine wpAny_ite (KPc.ite_no (not_long g hN) ?_)
      (repeat kpc_if)
      refine wpAny_pure ?_
      exact h _ _ (KPc.good_add g (KPc.obj_none rfl))
    case str =>
      intro p r y u hy prog w A E s R i tk wr T N g hN h
      refine wpAny_ite (KPc.ite_no (not_long g hN) ?_)
      (repeat kpc_if)
      refine wpAny_bind ?_
      refine wpAny_holding ?_
      (repeat kpc_if)
      kpt_conv
      refine wpAny_pure ?_
      refine wpAny_pure ?_
      refine R_str g hy ?_ h _
      cases r
      · exact KPc.obj_some rfl
      · exact KPc.obj_none rfl
    case n2 =>
      intro p r n u n0 n1 prog w A E s R i tk wr T N g hN h
      refine wpAny_ite (KPc.ite_no (not_long g hN) ?_)
      (repeat kpc_if)
      refine wpAny_bind ?_
      refine wpAny_holding ?_
      (repeat kpc_if)
      kpt_conv
      refine wpAny_pure ?_
      refine R_num rfl rfl rfl rfl rfl rfl rfl rfl rfl g n0 n1 (by decide) h rfl _
    case n4 =>
      intro p r n u n0 n1 prog w A E s R i tk wr T N g hN h
      refine wpAny_ite (KPc.ite_no (not_long g hN) ?_)
      (repeat kpc_if)
      refine wpAny_bind ?_
      refine wpAny_holding ?_
      (repeat kpc_if)
      kpt_conv
      refine wpAny_pure ?_
      refine R_num rfl rfl rfl rfl rfl rfl rfl rfl rfl g n0 n1 (by decide) h rfl _
set_option maxHeartbeats 4000000 in
theorem fmt_meets {wd mon zone : PySem.Str} {d y hh mi ss : Int} {t t1 t2 t3 t4 t5 t6 t7 t8 : Tok} {b : Addr} (hwd : wd.length ≤ 1000000) (hmon : mon.length ≤ 1000000) (hz : zone.length ≤ 1000000) (d0 : 0 ≤ d) (d1 : d < 10 ^ 10) (y0 : 0 ≤ y) (y1 : y < 10 ^ 10) (hh0 : 0 ≤ hh) (hh1 : hh < 10 ^ 10) (mi0 : 0 ≤ mi) (mi1 : mi < 10 ^ 10) (ss0 : 0 ≤ ss) (ss1 : ss < 10 ^ 10) :
    Meets («str.__mod__» ⟨[.str fmtX t, .ref b], []⟩) (fun _ R s => IsTup s.heap b #[.str wd t1, .int d t2, .str mon t3, .int y t4, .int hh t5, .int mi t6, .int ss t7, .str zone t8] ∧ ∀ t' k, R (.ok (.ret (.str (wd ++ PySem.Str.ofString ", " ++ padS 2 d ++ PySem.Str.ofString " " ++ mon ++ PySem.Str.ofString " " ++ padS 4 y ++ PySem.Str.ofString " " ++ padS 2 hh ++ PySem.Str.ofString ":" ++ padS 2 mi ++ PySem.Str.ofString ":" ++ padS 2 ss ++ PySem.Str.ofString " " ++ zone) t'))) { s with toks := k }) := by
  apply KPt.meets_tup
  intro prog w A s Q E kptH hQ
  obtain ⟨f, F, G⟩ := fmt_loop t b
  refine G kptH fun bb => ?_
  replace F := F bb
  revert F
  generalize f bb = f
  intro F
  have hw : (⟨#[44, 32]⟩ : PySem.Str) = PySem.Str.ofString ", " := by decide +kernel
  have hs : (⟨#[32]⟩ : PySem.Str) = PySem.Str.ofString " " := by decide +kernel
  have hc : (⟨#[58]⟩ : PySem.Str) = PySem.Str.ofString ":" := by decide +kernel
  rw [← hw, ← hs, ← hc] at hQ
  refine FStep.go (F.str _ _ wd t1 hwd) (s := s) (tk := s.toks) KPc.good0 (by decide) fun w1 k1 g1 => ?_
  rw [KPc.empty_app] at g1
  refine FStep.go (F.lit2 _ _) g1 (by decide) fun w2 k2 g2 => ?_
  refine FStep.go (F.n2 _ _ d t2 d0 d1) g2 (by decide) fun w3 k3 g3 => ?_
  refine FStep.go (F.lit1 _ _) g3 (by decide) fun w4 k4 g4 => ?_
  refine FStep.go (F.str _ _ mon t3 hmon) g4 (by decide) fun w5 k5 g5 => ?_
  refine FStep.go (F.lit1 _ _) g5 (by decide) fun w6 k6 g6 => ?_
  refine FStep.go (F.n4 _ _ y t4 y0 y1) g6 (by decide) fun w7 k7 g7 => ?_
  refine FStep.go (F.lit1 _ _) g7 (by decide) fun w8 k8 g8 => ?_
  refine FStep.go (F.n2 _ _ hh t5 hh0 hh1) g8 (by decide) fun w9 k9 g9 => ?_
  refine FStep.go (F.col _ _) g9 (by decide) fun w10 k10 g10 => ?_
  refine FStep.go (F.n2 _ _ mi t6 mi0 mi1) g10 (by decide) fun w11 k11 g11 => ?_
  refine FStep.go (F.col _ _) g11 (by decide) fun w12 k12 g12 => ?_
  refine FStep.go (F.n2 _ _ ss t7 ss0 ss1) g12 (by decide) fun w13 k13 g13 => ?_
  refine FStep.go (F.lit1 _ _) g13 (by decide) fun w14 k14 g14 => ?_
  refine FStep.go (F.str _ _ zone t8 hz) g14 (by decide) fun w15 k15 g15 => ?_
  refine FStop.go F.stop g15 (by decide) ?_
  refine ⟨rfl, KPc.finish_ok g15 (by decide) rfl ?_⟩
  intro t' k
  exact hQ t' k
end Mine
namespace Mine
open PySem PySem.W PyProof.Rows

noncomputable def fd146 : FuncData := Subtype.val (p := fun x => x = fdOf 146) (by
  refine ⟨?_, ?_⟩
  rotate_left
  · conv => rhs; whnf)
theorem fn146 (w : World) : (HK w).lookup 146 = some { cls := .type "function", data := .func fd146 } := by kernel_rfl

noncomputable abbrev nsOf (c : Nat → Int) : List Int := [c 0, c 1, c 2, c 3, c 4, c 5, c 6, c 7, c 8, c 9]
/-- a letter: ten ints in a list -/
noncomputable def IsLtr (h : Heap) (a : Addr) (c : Nat → Int) : Prop := ∃ vs, h.PlainList a vs.toArray ∧ IntsAre vs (nsOf c)
theorem IntsAre.get_ : ∀ {vs : List Value} {ns : List Int}, IntsAre vs ns → ∀ {j : Nat} {y : Int}, ns[j]? = some y → ∃ t, vs[j]? = some (.int y t)
  | _, _, .nil, _, _, h => nomatch h
  | _, _, .cons n t r, 0, y, h => ⟨t, by simp at h; simp [h]⟩
  | _, _, .cons n t r, j + 1, y, h => by
    have := IntsAre.get_ r (j := j) (y := y) (by simpa using h)
    simpa using this
theorem nsOf_get (c : Nat → Int) : ∀ k, k < 10 → (nsOf c)[k]? = some (c k)
  | 0, _ | 1, _ | 2, _ | 3, _ | 4, _ | 5, _ | 6, _ | 7, _ | 8, _ | 9, _ => rfl
structure Okc (c : Nat → Int) : Prop where
  c0 : 0 ≤ c 0 ∧ c 0 < 7
  c1 : 1 ≤ c 1 ∧ c 1 ≤ 12
  c2 : 1 ≤ c 2 ∧ c 2 ≤ 31
  c3 : 100 ≤ c 3 ∧ c 3 < 10000
  c4 : 0 ≤ c 4 ∧ c 4 < 24
  c5 : 0 ≤ c 5 ∧ c 5 < 60
  c6 : 0 ≤ c 6 ∧ c 6 < 60
  c7 : 0 ≤ c 7 ∧ c 7 < 2
  c8 : 0 ≤ c 8 ∧ c 8 < 24
  c9 : 0 ≤ c 9 ∧ c 9 < 60

theorem IsLtr.keeps {h h' : Heap} {a : Addr} {c : Nat → Int} (L : IsLtr h a c) (k : Keep h h') : IsLtr h' a c :=
  let ⟨t, p, i⟩ := L
  ⟨t, p.at fun o e => k _ _ e, i⟩

section
variable {prog : Program} {w : World} {A : Around} {E : Value → Shared → Prop} {s : Shared}
/-- an item of a letter -/
theorem ltrItem {value slice : Expr} {a : Addr} {c : Nat → Int} {k : Nat} {u : Tok} {Q : Value → Shared → Prop} (hl : IsLtr s.heap a c) (hk : k < 10) (h : ∀ t, Q (.int (c k) t) s)
    (hs : subscripted slice false (.ref a) (.int (k : Nat) u) = operate [.ref a, .int (k : Nat) u] (getItem (.ref a) (.int (k : Nat) u)) := by with_unfolding_all rfl) (hg : ∀ r, letTemporaryGo value (.ref a) r = pure () := by intro _; with_unfolding_all rfl) :
    wpAny (model prog w) A (subscriptTail value slice (.ref a) (.int (k : Nat) u)) Q E s := by
  obtain ⟨vs, p, i⟩ := hl
  obtain ⟨t, ht⟩ := IntsAre.get_ i (nsOf_get c k hk)
  exact item_listL p.isList (by omega) (by omega) ht (h t) hs hg
/-- an item of a list of texts, however made -/
theorem strItem {value slice : Expr} {a : Addr} {l : List Value} {ys : List Str} {k : Int} {u : Tok} {Q : Value → Shared → Prop} (hl : s.heap.PlainList a l.toArray) (hi : StrsAre l ys)
    (h0 : 0 ≤ k) (hk : k < ys.length) (hfit : k < 2 ^ 63) (h : ∀ t', Q (.str (ys.getD k.toNat Str.empty) t') s)
    (hs : subscripted slice false (.ref a) (.int k u) = operate [.ref a, .int k u] (getItem (.ref a) (.int k u)) := by with_unfolding_all rfl) :
    wpAny (model prog w) A (subscriptTail value slice (.ref a) (.int k u)) Q E s := by
  have hlt : k.toNat < ys.length := by omega
  have e : ys[k.toNat]? = some (ys.getD k.toNat Str.empty) := by simp [List.getD, hlt]
  obtain ⟨t, ht⟩ := hi.at e
  exact tail_any hl.isList.typeIs slot_list_getitem.lookup (wpAny_getItem_list hl.isList h0 hfit (by simpa using ht) (h t)) hs
theorem intItem {value slice : Expr} {a : Addr} {l : List Value} {ys : List Int} {k : Int} {u : Tok} {Q : Value → Shared → Prop} (hl : s.heap.PlainList a l.toArray) (hi : IntsAre l ys)
    (h0 : 0 ≤ k) (hk : k < ys.length) (hfit : k < 2 ^ 63) (h : ∀ t', Q (.int (ys.getD k.toNat 0) t') s)
    (hs : subscripted slice false (.ref a) (.int k u) = operate [.ref a, .int k u] (getItem (.ref a) (.int k u)) := by with_unfolding_all rfl) :
    wpAny (model prog w) A (subscriptTail value slice (.ref a) (.int k u)) Q E s := by
  have hlt : k.toNat < ys.length := by omega
  have e : ys[k.toNat]? = some (ys.getD k.toNat 0) := by simp [List.getD, hlt]
  obtain ⟨t, ht⟩ := IntsAre.get_ hi e
  exact tail_any hl.isList.typeIs slot_list_getitem.lookup (wpAny_getItem_list hl.isList h0 hfit (by simpa using ht) (h t)) hs
end
theorem new_keep (h : Heap) (o : Obj) : Keep h (h.push o) := fun b o' e => Heap.get?_push_of_some _ e
theorem new_list (h : Heap) (items : List Value) : (h.push { cls := .type "list", data := .seq items.toArray }).PlainList h.objs.size items.toArray := ⟨0, Heap.get?_push_size _ rfl⟩
theorem tupOf {h : Heap} {a : Addr} {items : Array Value} {n : Nat} (g : h.get? a = some { cls := .type "tuple", data := .seq items n }) : IsTup h a items := ⟨_, g, rfl, n, rfl⟩
theorem new_tup (h : Heap) (items : List Value) : IsTup (h.push { cls := .type "tuple", data := .seq items.toArray }) h.objs.size items.toArray := ⟨_, Heap.get?_push_size _ rfl, rfl, 0, rfl⟩

section
variable {M : Model} {A : Around} {E : Value → Shared → Prop} {s : Shared} {env : Env}
theorem partS {e : Expr} {Q : Value → Shared → Prop} (h : wpAny M A (eval e env) Q E s) : wpAny M A (evalPart (some e) env) Q E s := h
theorem partN {Q : Value → Shared → Prop} (h : Q .none s) : wpAny M A (evalPart none env) Q E s := wpAny_pure h
theorem mkList {items : List Value} {Q : Value → Shared → Prop} (h : ∀ h', Keep s.heap h' → h'.PlainList s.heap.objs.size items.toArray → h'.objs.size = s.heap.objs.size + 1 → Q (.ref s.heap.objs.size) { s with heap := h' }) (hsz : items.length < 2 ^ 20 := by simp) :
    wpAny M A (newList items) Q E s :=
  wpAny_newList (h _ (new_keep _ _) (new_list _ _) (Heap.size_push ..)) (by rw [sizeLine_eq]; omega)
theorem mkTup {items : List Value} {Q : Value → Shared → Prop} (h : ∀ h', Keep s.heap h' → h'.get? s.heap.objs.size = some { cls := .type "tuple", data := .seq items.toArray } → h'.objs.size = s.heap.objs.size + 1 → Q (.ref s.heap.objs.size) { s with heap := h' }) (hsz : items.length < 2 ^ 20 := by simp) :
    wpAny M A (newTuple items) Q E s :=
  wpAny_newTuple (h _ (new_keep _ _) (Heap.get?_push_size _ rfl) (Heap.size_push ..)) (by rw [sizeLine_eq]; omega)
end
theorem dataInts : ∀ {ns : List Int} {vs : List Value}, DataAre vs (ns.map .int) → IntsAre vs ns
  | [], _, .nil => .nil
  | n :: ns, _, .cons hv r => by
    have h0 := hv { objs := #[] }
    cases h0
    exact .cons n _ (dataInts r)
theorem dataStrs : ∀ {ns : List Str} {vs : List Value}, DataAre vs (ns.map .str) → StrsAre vs ns
  | [], _, .nil => .nil
  | n :: ns, _, .cons hv r => by
    have h0 := hv { objs := #[] }
    cases h0
    exact .cons n _ (dataStrs r)
section
variable {M : Model} {A : Around} {E : Value → Shared → Prop} {s : Shared} {env : Env}
theorem intLits {elts : List Expr} {pos : Pos} (ns : List Int) {Q : Value → Shared → Prop} (hl : tupLitsOf elts = some (ns.map .int)) (hsz : ns.length < 2 ^ 20)
    (h : ∀ h' vs tk, Keep s.heap h' → IntsAre vs ns → h'.PlainList s.heap.objs.size vs.toArray → h'.objs.size = s.heap.objs.size + 1 → Q (.ref s.heap.objs.size) { s with heap := h', toks := tk }) :
    wpAny M A (eval (.List elts pos) env) Q E s := by
  refine List_ (spliced_lits elts _ s _ hl fun vs tk hvs => ?_)
  have hv := dataInts hvs
  refine mkList (s := { s with toks := tk }) (fun h' k n z => h h' vs tk k hv n z) ?_
  rw [dataAre_len hvs, List.length_map]; exact hsz
theorem strLits {elts : List Expr} {pos : Pos} (ns : List Str) {Q : Value → Shared → Prop} (hl : tupLitsOf elts = some (ns.map .str)) (hsz : ns.length < 2 ^ 20)
    (h : ∀ h' vs tk, Keep s.heap h' → StrsAre vs ns → h'.PlainList s.heap.objs.size vs.toArray → h'.objs.size = s.heap.objs.size + 1 → Q (.ref s.heap.objs.size) { s with heap := h', toks := tk }) :
    wpAny M A (eval (.List elts pos) env) Q E s := by
  refine List_ (spliced_lits elts _ s _ hl fun vs tk hvs => ?_)
  have hv := dataStrs hvs
  refine mkList (s := { s with toks := tk }) (fun h' k n z => h h' vs tk k hv n z) ?_
  rw [dataAre_len hvs, List.length_map]; exact hsz
theorem intTup {elts : List Expr} {pos : Pos} {k : Nat} (ns : List Int) {Q : Value → Shared → Prop} (hl : tupLitsOf elts = some (ns.map .int)) (hsz : ns.length < 2 ^ 20)
    (h : ∀ h' vs tk, Keep s.heap h' → IntsAre vs ns → h'.get? s.heap.objs.size = some { cls := .type "tuple", data := .seq vs.toArray } → h'.objs.size = s.heap.objs.size + 1 → Q (.ref s.heap.objs.size) { s with heap := h', toks := tk }) :
    wpAny M A (eval (.Tuple elts k pos) env) Q E s := by
  refine Tuple_ (spliced_lits elts _ s _ hl fun vs tk hvs => ?_)
  have hv := dataInts hvs
  refine mkTup (s := { s with toks := tk }) (fun h' k n z => h h' vs tk k hv n z) ?_
  rw [dataAre_len hvs, List.length_map]; exact hsz
end
section
variable {prog : Program} {w : World} {A : Around} {E : Value → Shared → Prop} {s : Shared} {value slice : Expr} {x : Str} {t : Tok} {Q : Value → Shared → Prop}
theorem tailOn {o i : Value} {ops : List Value} (h : ItemOn (model prog w) A E o i Q s) (hs : subscripted slice false o i = operate ops (getItem o i)) :
    wpAny (model prog w) A (subscriptTail value slice o i) Q E s :=
  let ⟨_, _, hl, hT, hg⟩ := h
  tail_any hT hl hg hs
theorem keptKeep (h₀ : Heap) : KeptH (Keep h₀) := fun h o k b o' e => Heap.get?_push_of_some _ (k b o' e)
theorem sl_sn {i : Int} {ui : Tok} (h : ∀ h' t' k, Keep s.heap h' → Q (.str (Txt.slice x (some i) none) t') { s with heap := h', toks := k })
    (hsz : x.length ≤ sizeLine) (hs : subscripted slice false (.str x t) (.ref s.heap.objs.size) = operate [.ref s.heap.objs.size, .str x t] (getItem (.str x t) (.ref s.heap.objs.size)) := by with_unfolding_all rfl) :
    wpAny (model prog w) A (subscriptTail value slice (.str x t) (.ref s.heap.objs.size)) Q E { s with heap := s.heap.push { cls := .type "slice", data := .fields #[.int i ui, .none, .none] } } :=
  tailOn (SBH.sliceItem_sn (keptKeep s.heap) (fun _ _ e => e) h hsz) hs
theorem sl_ns {i : Int} {ui : Tok} (h : ∀ h' t' k, Keep s.heap h' → Q (.str (Txt.slice x none (some i)) t') { s with heap := h', toks := k })
    (hsz : x.length ≤ sizeLine) (hs : subscripted slice false (.str x t) (.ref s.heap.objs.size) = operate [.ref s.heap.objs.size, .str x t] (getItem (.str x t) (.ref s.heap.objs.size)) := by with_unfolding_all rfl) :
    wpAny (model prog w) A (subscriptTail value slice (.str x t) (.ref s.heap.objs.size)) Q E { s with heap := s.heap.push { cls := .type "slice", data := .fields #[.none, .int i ui, .none] } } :=
  tailOn (SBH.sliceItem_ns (keptKeep s.heap) (fun _ _ e => e) h hsz) hs
end

/-- a zone's signs -/
noncomputable def zoneL (c : Nat → Int) : List Nat := (if c 7 = 0 then 43 else 45) :: dg 4 (100 * c 8 + c 9).toNat
theorem dg_front (k q v : Nat) (hq : q < 10) (hv : v < 10 ^ k) : dg (k + 1) (10 ^ k * q + v) = (48 + q) :: dg k v := by
  induction k generalizing v with
  | zero =>
    have : v = 0 := by omega
    subst this
    simp [dg, Nat.mod_eq_of_lt hq]
  | succ k ih =>
    show dg (k + 1) ((10 ^ (k + 1) * q + v) / 10) ++ [48 + (10 ^ (k + 1) * q + v) % 10] = _
    have e1 : (10 ^ (k + 1) * q + v) / 10 = 10 ^ k * q + v / 10 := by
      rw [show 10 ^ (k + 1) * q = 10 * (10 ^ k * q) by rw [Nat.pow_succ]; rw [Nat.mul_comm (10 ^ k) 10, Nat.mul_assoc], Nat.mul_add_div (by decide)]
    have e2 : (10 ^ (k + 1) * q + v) % 10 = v % 10 := by
      rw [show 10 ^ (k + 1) * q = 10 * (10 ^ k * q) by rw [Nat.pow_succ]; rw [Nat.mul_comm (10 ^ k) 10, Nat.mul_assoc], Nat.mul_add_mod]
    rw [e1, e2, ih (v / 10) (by rw [Nat.pow_succ] at hv; omega)]
    rfl
theorem str_5 {v : Nat} (hv : v < 10000) : (PySem.Str.ofString (toString (((10000 + v : Nat) : Nat) : Int))).cps.toList = 49 :: dg 4 v := by
  rw [KIN.signs_num]
  have e := pad_dg (k := 4) (m := 10000 + v) (by omega)
  have hl : 5 ≤ ((Nat.toDigits 10 (10000 + v)).map Char.toNat).length := by
    rw [List.length_map]
    apply Nat.lt_of_not_le
    intro h4
    have := (Nat.length_toDigits_le_iff (b := 10) (n := 10000 + v) (k := 4) (by decide) (by decide)).mp h4
    omega
  rw [padL_le hl] at e
  rw [e]
  exact dg_front 4 1 v (by decide) hv

theorem slice_1 (x : Str) (hx : 1 ≤ x.length) : Txt.slice x (some 1) none = ⟨(x.cps.toList.drop 1).toArray⟩ := by
  rw [slice_from_eq (b := x.length) (by decide) (by omega) rfl]
  congr 2
  apply List.take_of_length_le
  rw [List.length_drop]
  have : x.length = x.cps.toList.length := by simp [PySem.Str.length]
  omega
section
variable {prog : Program} {w : World} {A : Around} {E : Value → Shared → Prop} {s : Shared} {mg mb : Str → Option Value}
set_option maxHeartbeats 1000000 in
theorem zone_spec {a : Addr} {c : Nat → Int} {Q : Value → Shared → Prop} (C : Cx w mg mb s.heap) (R : Rm A 5) (hl : IsLtr s.heap a c) (ok : Okc c)
    (hQ : ∀ h' tk t, Keep s.heap h' → Q (.str ⟨(zoneL c).toArray⟩ t) { s with heap := h', toks := tk }) : wpAny (model prog w) A (call (.ref 146) [.ref a]) Q E s := by
  refine enterF [(Str.ofString "one", .ref a)] C R (fn146 w) (by kernel_rfl) rfl (BindsTo.of_eq rfl) (by rfl) (by decide) (fun h1 hns hk C1 R1 => ?_)
  have l1 := hl.keeps hk
  refine wpAny_execs_cons (wpAny_Return_some (wpAny_BinOp (Subscript_ (strLits [Str.ofString "+", Str.ofString "-"] rfl (by decide) fun h2 vs2 tk2 k2 i2 n2 sz2 => ?_))))
  dsimp only at k2 n2 sz2 ⊢
  refine Subscript_ (nmL (hns.keeps k2) rfl (wpAny_Constant_int (ltrItem (k := 7) (l1.keeps k2) (by decide) fun t7 => ?_)))
  dsimp only
  refine strItem n2 i2 ok.c7.1 ok.c7.2 (by have := ok.c7.2; omega) fun tz => ?_
  refine Subscript_ (Call_ (nmB (C1.keeps k2) (by kernel_rfl) boot_str (by decide) (callWith_type1 (args_cons (wpAny_BinOp (wpAny_BinOp ?_))))))
  refine wpAny_Constant_int ?_
  dsimp only
  refine wpAny_BinOp (wpAny_Constant_int ?_)
  dsimp only
  refine Subscript_ (nmL (hns.keeps k2) rfl (wpAny_Constant_int (ltrItem (k := 8) (l1.keeps k2) (by decide) fun t8 => ?_)))
  dsimp only
  refine mul_int (add_int ?_) (IntMulOk.of_left (by decide))
  dsimp only
  refine Subscript_ (nmL (hns.keeps k2) rfl (wpAny_Constant_int (ltrItem (k := 9) (l1.keeps k2) (by decide) fun t9 => add_int (args_nil ?_))))
  dsimp only
  have o8 := ok.c8
  have o9 := ok.c9
  obtain ⟨v, hv⟩ := Int.eq_ofNat_of_zero_le (show 0 ≤ 100 * c 8 + c 9 by omega)
  have e1 : 10000 + 100 * c 8 + c 9 = ((10000 + v : Nat) : Int) := by omega
  rw [e1]
  refine P.str_of_int (shown (N := 2 ^ 64) (by omega) (by omega) (by decide)) ?_
  refine wpAny_Slice (partS (wpAny_Constant_int (partN (partN ?_))))
  dsimp only
  have hv' : v < 10000 := by omega
  have e5 := str_5 hv'
  have hlen : (Str.ofString (toString (((10000 + v : Nat) : Nat) : Int))).length = 5 := by
    show (Str.ofString (toString (((10000 + v : Nat) : Nat) : Int))).cps.size = 5
    rw [← Array.length_toList, e5]; simp [dg_len]
  refine sl_sn (s := ⟨_, _, _, _, _⟩) (fun h3 t3 k3 kp3 => ?_) (by rw [hlen]; decide)
  rw [slice_1 _ (by omega), e5]
  refine PyProof.Rows.add_str (fun tf kf => ?_) ?_
  · have e9 : (([Str.ofString "+", Str.ofString "-"].getD (c 7).toNat Str.empty) ++ (⟨((49 :: dg 4 v).drop 1).toArray⟩ : Str)) = ⟨(zoneL c).toArray⟩ := by
      have e8 : (100 * c 8 + c 9).toNat = v := by omega
      have o7 := ok.c7
      unfold zoneL
      rw [e8]
      by_cases h7 : c 7 = 0
      · rw [if_pos h7, h7]; rfl
      · have h7' : c 7 = 1 := by omega
        rw [if_neg h7, h7']; rfl
    rw [e9]
    exact hQ h3 kf tf fun b o e => kp3 _ _ (k2 _ _ (hk _ _ e))
  · have o7 := ok.c7
    have hl4 : (⟨((49 :: dg 4 v).drop 1).toArray⟩ : Str).length = 4 := by
      show ((49 :: dg 4 v).drop 1).toArray.size = 4
      simp [dg_len]
    rw [hl4]
    by_cases h7 : c 7 = 0
    · rw [h7]; decide
    · rw [show c 7 = 1 by omega]; decide

noncomputable def wdS : List Str := [Str.ofString "Mon", Str.ofString "Tue", Str.ofString "Wed", Str.ofString "Thu", Str.ofString "Fri", Str.ofString "Sat", Str.ofString "Sun"]
noncomputable def moS : List Str := [Str.ofString "Jan", Str.ofString "Feb", Str.ofString "Mar", Str.ofString "Apr", Str.ofString "May", Str.ofString "Jun", Str.ofString "Jul", Str.ofString "Aug", Str.ofString "Sep", Str.ofString "Oct", Str.ofString "Nov", Str.ofString "Dec"]
theorem S3 : ∀ k, k < 7 → (wdS.getD k Str.empty).length ≤ 1000000 := by decide +kernel
theorem M3 : ∀ k, k < 12 → (moS.getD k Str.empty).length ≤ 1000000 := by decide +kernel
/-- the text of a letter, its zone apart -/
noncomputable def fmtT (c : Nat → Int) (z : Str) : Str := wdS.getD (c 0).toNat Str.empty ++ Str.ofString ", " ++ padS 2 (c 2) ++ Str.ofString " " ++ moS.getD (c 1 - 1).toNat Str.empty ++ Str.ofString " " ++ padS 4 (c 3) ++ Str.ofString " " ++ padS 2 (c 4) ++ Str.ofString ":" ++ padS 2 (c 5) ++ Str.ofString ":" ++ padS 2 (c 6) ++ Str.ofString " " ++ z

/-- an item of a tuple of ints -/
theorem tupItem {value slice : Expr} {a : Addr} {l : List Value} {ys : List Int} (k : Nat) {n : Int} {u : Tok} {Q : Value → Shared → Prop} (hl : IsTup s.heap a l.toArray) (hi : IntsAre l ys)
    (e : ys[k]? = some n) (hfit : k < 2 ^ 40) (h : ∀ t', Q (.int n t') s)
    (hs : subscripted slice false (.ref a) (.int (k : Nat) u) = operate [.ref a, .int (k : Nat) u] (getItem (.ref a) (.int (k : Nat) u)) := by with_unfolding_all rfl) :
    wpAny (model prog w) A (subscriptTail value slice (.ref a) (.int (k : Nat) u)) Q E s := by
  obtain ⟨t, ht⟩ := IntsAre.get_ hi e
  have hlt : k < l.length := by
    apply Classical.byContradiction
    intro hn
    rw [List.getElem?_eq_none (by omega)] at ht
    cases ht
  refine item_tupleT hl (by omega) (by omega) (j := k) ?_ ht (h t) hs
  unfold seqIndex?
  simp
  omega
end
end Mine
namespace Mine
open PySem PySem.W PyProof.Rows
section
variable {prog : Program} {w : World} {A : Around} {E : Value → Shared → Prop} {s : Shared} {mg mb : Str → Option Value}
noncomputable def fd45 : FuncData := Subtype.val (p := fun x => x = fdOf 45) (by
  refine ⟨?_, ?_⟩
  rotate_left
  · conv => rhs; whnf)
theorem fn45 (w : World) : (HK w).lookup 45 = some { cls := .type "function", data := .func fd45 } := by kernel_rfl
set_option maxHeartbeats 1000000 in
theorem format_spec {r : Addr} {vs : List Value} {c : Nat → Int} {z : Str} {tz : Tok} {Q : Value → Shared → Prop} (C : Cx w mg mb s.heap) (R : Rm A 5) (hl : IsTup s.heap r vs.toArray) (hi : IntsAre vs [c 3, c 1, c 2, c 4, c 5, c 6, c 0]) (ok : Okc c) (hz : z.length ≤ 1000000)
    (hQ : ∀ h' tk t, Keep s.heap h' → Q (.str (fmtT c z) t) { s with heap := h', toks := tk }) : wpAny (model prog w) A (call (.ref 45) [.ref r, .str z tz]) Q E s := by
  refine enterF [(Str.ofString "timetuple", .ref r), (Str.ofString "zone", .str z tz)] C R (fn45 w) (by kernel_rfl) rfl (BindsTo.of_eq rfl) (by rfl) (by decide) (fun h1 hns hk C1 R1 => ?_)
  have l1 : IsTup h1 r vs.toArray := let ⟨o, a, b⟩ := hl; ⟨o, hk _ _ a, b⟩
  refine wpAny_execs_cons ?_
  refine wpAny_Return_some ?_
  refine wpAny_BinOp ?_
  refine wpAny_Constant_str ?_
  dsimp only
  refine Tuple_ ?_
  refine args_cons ?_
  refine Subscript_ ?_
  refine strLits wdS ?_ ?_ ?_
  · kernel_rfl
  · decide
  intro h2 vs2 tk2 k2 i2 n2 sz2
  dsimp only at k2 n2 sz2 ⊢
  have l2 : IsTup h2 r vs.toArray := let ⟨o, a, b⟩ := l1; ⟨o, k2 _ _ a, b⟩
  have N2 := hns.keeps k2
  refine Subscript_ ?_
  refine nmL N2 rfl ?_
  refine wpAny_Constant_int ?_
  dsimp only
  refine tupItem 6 l2 hi rfl (by decide) fun t6 => ?_
  refine strItem n2 i2 ok.c0.1 ok.c0.2 (by have := ok.c0.2; omega) fun tz => ?_
  refine args_cons ?_
  refine Subscript_ ?_
  refine nmL N2 rfl ?_
  refine wpAny_Constant_int ?_
  dsimp only
  refine tupItem 2 l2 hi rfl (by decide) fun t2 => ?_
  refine args_cons ?_
  refine Subscript_ ?_
  refine strLits moS ?_ ?_ ?_
  · kernel_rfl
  · decide
  intro h3 vs3 tk3 k3 i3 n3 sz3
  dsimp only at k3 n3 sz3 ⊢
  have l3 : IsTup h3 r vs.toArray := let ⟨o, a, b⟩ := l2; ⟨o, k3 _ _ a, b⟩
  have N3 := N2.keeps k3
  refine wpAny_BinOp ?_
  refine Subscript_ ?_
  refine nmL N3 rfl ?_
  refine wpAny_Constant_int ?_
  dsimp only
  refine tupItem 1 l3 hi rfl (by decide) fun t1 => ?_
  refine wpAny_Constant_int ?_
  refine SiftDown.sub_int ?_
  dsimp only
  have o1 := ok.c1
  refine strItem n3 i3 (by omega) (show _ < (12 : Int) by omega) (by omega) fun tm => ?_
  refine args_cons ?_
  refine Subscript_ ?_
  refine nmL N3 rfl ?_
  refine wpAny_Constant_int ?_
  dsimp only
  refine tupItem 0 l3 hi rfl (by decide) fun u0 => ?_
  refine args_cons ?_
  refine Subscript_ ?_
  refine nmL N3 rfl ?_
  refine wpAny_Constant_int ?_
  dsimp only
  refine tupItem 3 l3 hi rfl (by decide) fun u3 => ?_
  refine args_cons ?_
  refine Subscript_ ?_
  refine nmL N3 rfl ?_
  refine wpAny_Constant_int ?_
  dsimp only
  refine tupItem 4 l3 hi rfl (by decide) fun u4 => ?_
  refine args_cons ?_
  refine Subscript_ ?_
  refine nmL N3 rfl ?_
  refine wpAny_Constant_int ?_
  dsimp only
  refine tupItem 5 l3 hi rfl (by decide) fun u5 => ?_
  refine args_cons ?_
  refine nmL N3 rfl ?_
  refine args_nil ?_
  refine mkTup (fun h4 k4 n4 sz4 => ?_)
  dsimp only at k4 n4 sz4 ⊢
  have o2 := ok.c2
  have o3 := ok.c3
  have o4 := ok.c4
  have o5 := ok.c5
  have o6 := ok.c6
  have NW : News h3 (h3.objs.size + 1) h4 [(h3.objs.size, _)] := fun p hp => by
    rw [List.mem_singleton] at hp
    subst hp
    refine ⟨n4, Nat.ne_of_lt (Nat.lt_succ_self _), ?_⟩
    cases hq : h3.get? h3.objs.size with
    | none => rfl
    | some o' => exact absurd (Heap.lt_size hq) (Nat.lt_irrefl _)
  refine KPt.mod_tuple NW (List.mem_singleton.mpr rfl) fmtX_eq (fmt_meets (S3 _ (by have := ok.c0; omega)) (M3 _ (by omega)) hz (by omega) (by omega) (by omega) (by omega) (by omega) (by omega) (by omega) (by omega) (by omega) (by omega)) fun tf kf => ?_
  refine hQ h4 kf tf fun b o e => k4 _ _ (k3 _ _ (k2 _ _ (hk _ _ e)))
end
end Mine
namespace Mine
open PySem PySem.W PyProof.Rows
noncomputable def fd160 : FuncData := Subtype.val (p := fun x => x = fdOf 160) (by
  refine ⟨?_, ?_⟩
  rotate_left
  · conv => rhs; whnf)
theorem fn160 (w : World) : (HK w).lookup 160 = some { cls := .type "function", data := .func fd160 } := by kernel_rfl
noncomputable def fd153 : FuncData := Subtype.val (p := fun x => x = fdOf 153) (by
  refine ⟨?_, ?_⟩
  rotate_left
  · conv => rhs; whnf)
theorem fn153 (w : World) : (HK w).lookup 153 = some { cls := .type "function", data := .func fd153 } := by kernel_rfl

section
variable {prog : Program} {w : World} {A : Around} {E : Value → Shared → Prop} {s : Shared} {mg mb : Str → Option Value}
/-- a part of a list -/
theorem sliceL {value slice : Expr} {l : Addr} {items : Array Value} {vl vu vk : Value} {lo hi st : Option Int} {ops : List Value} {Q : Value → Shared → Prop}
    (hl : s.heap.PlainList l items) (pl : IsPart vl lo) (pu : IsPart vu hi) (pk : IsPart vk st) (h0 : st ≠ some 0) (hsz : items.size < 2 ^ 20)
    (hs : subscripted slice false (.ref l) (.ref s.heap.objs.size) = operate ops (getItem (.ref l) (.ref s.heap.objs.size)))
    (h : ∀ h', Keep s.heap h' → h'.PlainList (s.heap.objs.size + 1) (slicePick items lo hi st) → h'.objs.size = s.heap.objs.size + 2 → Q (.ref (s.heap.objs.size + 1)) { s with heap := h' }) :
    wpAny (model prog w) A (subscriptTail value slice (.ref l) (.ref s.heap.objs.size)) Q E { s with heap := s.heap.push { cls := .type "slice", data := .fields #[vl, vu, vk] } } := by
  have hp : (s.heap.push { cls := .type "slice", data := .fields #[vl, vu, vk] }).IsList l items := hl.isList.push _
  refine tail_any (T := "list") (Heap.IsList.typeIs (s := { s with heap := s.heap.push { cls := .type "slice", data := .fields #[vl, vu, vk] } }) hp) list_getitem_lookup
    (wpAny_getItem_list_slice hp (Heap.IsSliceOf.new ..) pl pu pk h0 ?_ (by rw [sizeLine_eq]; omega)) hs
  have hk : Keep s.heap ((s.heap.push { cls := .type "slice", data := .fields #[vl, vu, vk] }).push { cls := .type "list", data := .seq (slicePick items lo hi st) }) :=
    fun b o e => Heap.get?_push_of_some _ (Heap.get?_push_of_some _ e)
  show Q (.ref (s.heap.push _).objs.size) _
  have e1 : (s.heap.push { cls := .type "slice", data := .fields #[vl, vu, vk] }).objs.size = s.heap.objs.size + 1 := Heap.size_push ..
  rw [e1]
  refine h _ hk ⟨0, ?_⟩ ?_
  · rw [← e1]; exact Heap.get?_push_size _ rfl
  · rw [Heap.size_push, e1]
/-- two lists, one after the other -/
theorem addL {l b : Addr} {xs ys : List Value} {Q : Value → Shared → Prop} (hl : s.heap.PlainList l xs.toArray) (hb : s.heap.PlainList b ys.toArray) (hsz : xs.length + ys.length < 2 ^ 20)
    (h : ∀ h', Keep s.heap h' → h'.PlainList s.heap.objs.size (xs ++ ys).toArray → h'.objs.size = s.heap.objs.size + 1 → Q (.ref s.heap.objs.size) { s with heap := h' }) :
    wpAny (model prog w) A (binaryOp .Add (.ref l) (.ref b)) Q E s := by
  obtain ⟨n, hl⟩ := hl
  obtain ⟨n2, hb⟩ := hb
  refine P.add_list hl hb ?_ (by rw [List.size_toArray, List.size_toArray, sizeLine_eq]; omega)
  refine h _ (new_keep _ _) ⟨0, ?_⟩ (Heap.size_push ..)
  rw [← List.append_toArray]
  exact Heap.get?_push_size _ rfl
theorem plain_keep {h h' : Heap} {l : Addr} {xs : Array Value} (hl : h.PlainList l xs) (k : Keep h h') : h'.PlainList l xs := hl.at fun o e => k _ _ e
theorem tup_keep {h h' : Heap} {l : Addr} {xs : Array Value} (hl : IsTup h l xs) (k : Keep h h') : IsTup h' l xs := let ⟨o, a, b⟩ := hl; ⟨o, k _ _ a, b⟩
theorem fresh_none {h : Heap} : h.get? h.objs.size = none := by
  cases hq : h.get? h.objs.size with
  | none => rfl
  | some o' => exact absurd (Heap.lt_size hq) (Nat.lt_irrefl _)

/-- what _law_by_time says -/
noncomputable abbrev timeOf (c : Nat → Int) : List Int := [c 3, c 1, c 2, c 4, c 5, c 6]
set_option maxHeartbeats 1000000 in
theorem by_time_spec {a : Addr} {c : Nat → Int} {Q : Value → Shared → Prop} (C : Cx w mg mb s.heap) (R : Rm A 5) (hl : IsLtr s.heap a c)
    (hQ : ∀ h' tk b vs, Keep s.heap h' → s.heap.objs.size ≤ b → h'.get? b = some { cls := .type "tuple", data := .seq vs.toArray } → IntsAre vs (timeOf c) → Q (.ref b) { s with heap := h', toks := tk }) :
    wpAny (model prog w) A (call (.ref 160) [.ref a]) Q E s := by
  refine enterF [(Str.ofString "one", .ref a)] C R (fn160 w) (by kernel_rfl) rfl (BindsTo.of_eq rfl) (by rfl) (by decide) (fun h1 hns hk C1 R1 => ?_)
  have l1 := hl.keeps hk
  refine wpAny_execs_cons ?_
  refine wpAny_Return_some ?_
  refine Tuple_ ?_
  refine args_cons ?_
  refine Subscript_ ?_
  refine nmL hns rfl ?_
  refine wpAny_Constant_int ?_
  dsimp only
  refine ltrItem (k := 3) l1 (by decide) ?_
  intro t3
  try dsimp only
  refine args_cons ?_
  refine Subscript_ ?_
  refine nmL hns rfl ?_
  refine wpAny_Constant_int ?_
  dsimp only
  refine ltrItem (k := 1) l1 (by decide) ?_
  intro t1
  try dsimp only
  refine args_cons ?_
  refine Subscript_ ?_
  refine nmL hns rfl ?_
  refine wpAny_Constant_int ?_
  dsimp only
  refine ltrItem (k := 2) l1 (by decide) ?_
  intro t2
  try dsimp only
  refine args_cons ?_
  refine Subscript_ ?_
  refine nmL hns rfl ?_
  refine wpAny_Constant_int ?_
  dsimp only
  refine ltrItem (k := 4) l1 (by decide) ?_
  intro t4
  try dsimp only
  refine args_cons ?_
  refine Subscript_ ?_
  refine nmL hns rfl ?_
  refine wpAny_Constant_int ?_
  dsimp only
  refine ltrItem (k := 5) l1 (by decide) ?_
  intro t5
  try dsimp only
  refine args_cons ?_
  refine Subscript_ ?_
  refine nmL hns rfl ?_
  refine wpAny_Constant_int ?_
  dsimp only
  refine ltrItem (k := 6) l1 (by decide) ?_
  intro t6
  try dsimp only
  refine args_nil ?_
  refine mkTup (fun h2 k2 n2 sz2 => ?_)
  dsimp only at k2 n2 sz2 ⊢
  refine hQ h2 _ _ _ (fun b o e => k2 _ _ (hk _ _ e)) ?_ n2 ?_
  · exact Nat.le_of_lt hns.lt
  · exact .cons _ _ (.cons _ _ (.cons _ _ (.cons _ _ (.cons _ _ (.cons _ _ .nil)))))

noncomputable def wdR : List Int := [1, 5, 6, 4, 0, 2, 3]
noncomputable def moR : List Int := [4, 3, 7, 0, 8, 6, 5, 1, 11, 10, 9, 2]
/-- what _law_by_letters says -/
noncomputable abbrev lettersOf (c : Nat → Int) : List Int := [wdR.getD (c 0).toNat 0, c 2, moR.getD (c 1 - 1).toNat 0, c 3, c 4, c 5, c 6, c 7, c 8, c 9]
set_option maxHeartbeats 1000000 in
theorem by_letters_spec {a : Addr} {c : Nat → Int} {Q : Value → Shared → Prop} (C : Cx w mg mb s.heap) (R : Rm A 5) (hl : IsLtr s.heap a c) (ok : Okc c)
    (hQ : ∀ h' tk b vs, Keep s.heap h' → s.heap.objs.size ≤ b → h'.PlainList b vs.toArray → IntsAre vs (lettersOf c) → Q (.ref b) { s with heap := h', toks := tk }) :
    wpAny (model prog w) A (call (.ref 153) [.ref a]) Q E s := by
  refine enterF [(Str.ofString "one", .ref a)] C R (fn153 w) (by kernel_rfl) rfl (BindsTo.of_eq rfl) (by rfl) (by decide) (fun h1 hns hk C1 R1 => ?_)
  have l1 := hl.keeps hk
  have hlt1 := hns.lt
  refine wpAny_execs_cons ?_
  refine wpAny_Assign_Name ?_
  refine Subscript_ ?_
  refine intLits wdR ?_ ?_ ?_
  · kernel_rfl
  · decide
  intro h2 vs2 tk2 k2 i2 n2 sz2
  dsimp only at k2 n2 sz2 ⊢
  have N2 := hns.keeps k2
  have l2 := l1.keeps k2
  refine Subscript_ ?_
  refine nmL N2 rfl ?_
  refine wpAny_Constant_int ?_
  dsimp only
  refine ltrItem (k := 0) l2 (by decide) ?_
  intro t0
  try dsimp only
  refine intItem n2 i2 ok.c0.1 ok.c0.2 (by have := ok.c0.2; omega) ?_
  intro tw
  refine stN rfl N2 ?_
  intro h3 tq3 N3 s3
  dsimp only at N3 s3 ⊢
  have aL : ∀ b o, s.heap.get? b = some o → b ≠ s.heap.objs.size := fun b o e => Nat.ne_of_lt (Heap.lt_size e)
  have k3 : Keep s.heap h3 := fun b o e => (s3.2 b (aL b o e)).trans (k2 _ _ (hk _ _ e))
  have l3 := hl.keeps k3
  refine wpAny_execs_cons ?_
  refine wpAny_Assign_Name ?_
  refine Subscript_ ?_
  refine intLits moR ?_ ?_ ?_
  · kernel_rfl
  · decide
  intro h4 vs4 tk4 k4 i4 n4 sz4
  dsimp only at k4 n4 sz4 ⊢
  have N4 := N3.keeps k4
  have l4 := l3.keeps k4
  refine wpAny_BinOp ?_
  refine Subscript_ ?_
  refine nmL N4 rfl ?_
  refine wpAny_Constant_int ?_
  dsimp only
  refine ltrItem (k := 1) l4 (by decide) ?_
  intro t1
  try dsimp only
  refine wpAny_Constant_int ?_
  refine SiftDown.sub_int ?_
  dsimp only
  have o1 := ok.c1
  refine intItem n4 i4 (by omega) (show _ < (12 : Int) by omega) (by omega) ?_
  intro tm
  refine stN rfl N4 ?_
  intro h5 tq5 N5 s5
  dsimp only at N5 s5 ⊢
  have k5 : Keep s.heap h5 := fun b o e => (s5.2 b (aL b o e)).trans (k4 _ _ (k3 _ _ e))
  have l5 := hl.keeps k5
  refine wpAny_execs_cons ?_
  refine wpAny_Return_some ?_
  refine wpAny_BinOp ?_
  refine List_ ?_
  refine args_cons ?_
  refine nmL N5 rfl ?_
  refine args_cons ?_
  refine Subscript_ ?_
  refine nmL N5 rfl ?_
  refine wpAny_Constant_int ?_
  dsimp only
  refine ltrItem (k := 2) l5 (by decide) ?_
  intro t2
  try dsimp only
  refine args_cons ?_
  refine nmL N5 rfl ?_
  refine args_nil ?_
  refine mkList (fun h6 k6 n6 sz6 => ?_)
  dsimp only at k6 n6 sz6 ⊢
  have N6 := N5.keeps k6
  have l6 := l5.keeps k6
  refine Subscript_ ?_
  refine nmL N6 rfl ?_
  refine wpAny_Slice ?_
  refine partS ?_
  refine wpAny_Constant_int ?_
  refine partN ?_
  refine partN ?_
  obtain ⟨vs, pv, iv⟩ := l6
  refine sliceL (s := ⟨_, _, _, _, _⟩) (lo := some 3) (hi := none) (st := none) pv (.int ..) .none .none (by decide) ?_ (by with_unfolding_all rfl) ?_
  · rw [List.size_toArray, iv.length]; exact Nat.lt_of_sub_pos (by decide : 0 < 2 ^ 20 - 10)
  intro h7 k7 n7 sz7
  dsimp only at k7 n7 sz7 ⊢
  have i7 := slice_ints_fromW iv (x := 3) (by decide)
  refine addL (plain_keep n6 k7) (ys := (slicePick vs.toArray (some 3) none none).toList) (by simpa using n7) (by have := i7.length; simp at this ⊢; omega) ?_
  intro h8 k8 n8 sz8
  dsimp only
  refine hQ h8 _ _ _ (fun b o e => k8 _ _ (k7 _ _ (k6 _ _ (k5 _ _ e)))) ?_ n8 ?_
  · exact Nat.le_trans (Nat.le_of_lt N5.lt) (by rw [sz7, sz6]; omega)
  · exact .cons _ _ (.cons _ _ (.cons _ _ i7))
end
end Mine
namespace Mine
open PySem PySem.W PyProof.Rows

/-- all kept but a few -/
noncomputable def Kp (S : List Addr) (h h' : Heap) : Prop := ∀ b o, b ∉ S → h.get? b = some o → h'.get? b = some o
section
variable {S : List Addr} {h h1 h2 : Heap} {a : Addr}
theorem Kp.refl : Kp S h h := fun _ _ _ e => e
theorem Kp.keep (x : Kp S h h1) (k : Keep h1 h2) : Kp S h h2 := fun b o hb e => k _ _ (x b o hb e)
theorem Kp.same (x : Kp S h h1) (k : Heap.SameBut a h1 h2) (ha : a ∈ S) : Kp S h h2 := fun b o hb e => (k.2 b (fun e' => hb (e' ▸ ha))).trans (x b o hb e)
theorem Kp.ext (x : Kp S h h1) (k : Heap.ExtBut a h1 h2) (ha : a ∈ S) : Kp S h h2 := fun b o hb e => k b o (fun e' => hb (e' ▸ ha)) (x b o hb e)
theorem Kp.trans (x : Kp S h h1) (y : Kp S h1 h2) : Kp S h h2 := fun b o hb e => y b o hb (x b o hb e)
theorem Kp.list {xs : Array Value} (x : Kp S h h1) (hl : h.PlainList a xs) (ha : a ∉ S) : h1.PlainList a xs := hl.at fun o e => x _ _ ha e
theorem Kp.tup {xs : Array Value} (x : Kp S h h1) (hl : IsTup h a xs) (ha : a ∉ S) : IsTup h1 a xs := let ⟨o, e, r⟩ := hl; ⟨o, x _ _ ha e, r⟩
end
theorem ext_keep {h h' : Heap} (x : Heap.ExtBut h.objs.size h h') : Keep h h' := fun b o e => x b o (Nat.ne_of_lt (Heap.lt_size e)) e

section
variable {prog : Program} {w : World} {A : Around} {E : Value → Shared → Prop} {s : Shared} {mg mb : Str → Option Value} {env : Env}
theorem min2 {a b : Int} {t u : Tok} {Q : Value → Shared → Prop} (hh : A.handled = none)
    (h : ∀ h' tk t, Keep s.heap h' → Q (.int (if b < a then b else a) t) { s with heap := h', toks := tk }) :
    wpAny (model prog w) A (call (.builtin "min") [.int a t, .int b u]) Q E s := by
  refine min_two_ints hh ?_
  intro h' tk k
  by_cases hb : b < a
  · rw [if_pos hb]; have := h h' tk u k; rw [if_pos hb] at this; exact this
  · rw [if_neg hb]; have := h h' tk t k; rw [if_neg hb] at this; exact this
/-- a builtin with two plain arguments -/
theorem cwb2 {pos : Pos} {id : String} {e1 e2 : Expr} {Q : Value → Shared → Prop}
    (h : wpAny (model prog w) A (spliced (backTo pos (starEach [e1, e2] env))) (fun vs s₁ => wpAny (model prog w) A (call (.builtin id) vs) Q E s₁) E s)
    (h1 : starEach [e1, e2] env = (false, eval e1 env) :: starEach [e2] env := by rfl) (h2 : starEach [e2] env = [(false, eval e2 env)] := by rfl) :
    wpAny (model prog w) A (callWith pos (.builtin id) [] (backTo pos (starEach [e1, e2] env)) []) Q E s :=
  callWith_builtin1 h h1 (by rw [h2]; rfl)
/-- x, y = a tuple of two -/
theorem unpack2 {x y : Str} {p1 p2 pos : Pos} {k : Nat} {t : Addr} {v1 v2 : Value} {m : Str → Option Value} {Q : Unit → Shared → Prop} (hh : A.handled = none) (ht : IsTup s.heap t #[v1, v2])
    (N : s.heap.Ns env.locals m)
    (h : ∀ h' tk, h'.Ns env.locals (fun z => if z = y then some v2 else if z = x then some v1 else m z) → Heap.ExtBut env.locals s.heap h' → Q () { s with heap := h', toks := tk })
    (hx : env.kindOf x = some .local := by rfl) (hy : env.kindOf y = some .local := by rfl)
    (hp : (env.scope.kind == .class || (env.scope.kind == .module && env.locals != env.globals)) = false := by rfl) :
    wpAny (model prog w) A (assign (.Tuple [.Name x p1, .Name y p2] k pos) env (.ref t)) Q E s := by
  refine assign_Tuple_tuple hh ht rfl rfl fun h1 e1 => ?_
  have k1 := ext_keep e1
  refine assignInOrder_cons (wpAny_assign_Name ?_)
  refine wpAny_storeName_local hx (N.keeps k1) (fun h2 N2 s2 => ?_) hp
  refine assignInOrder_cons (wpAny_assign_Name ?_)
  refine wpAny_storeName_local hy N2 (fun h3 N3 s3 => ?_) hp
  refine assignInOrder_nil ?_
  exact h h3 _ N3 fun b o hb e => (s3.2 b hb).trans ((s2.2 b hb).trans (k1 _ _ e))
/-- x, y, z = a tuple of three -/
theorem unpack3 {x y z : Str} {p1 p2 p3 pos : Pos} {k : Nat} {t : Addr} {v1 v2 v3 : Value} {m : Str → Option Value} {Q : Unit → Shared → Prop} (hh : A.handled = none) (ht : IsTup s.heap t #[v1, v2, v3])
    (N : s.heap.Ns env.locals m)
    (h : ∀ h' tk, h'.Ns env.locals (fun q => if q = z then some v3 else if q = y then some v2 else if q = x then some v1 else m q) → Heap.ExtBut env.locals s.heap h' → Q () { s with heap := h', toks := tk })
    (hx : env.kindOf x = some .local := by rfl) (hy : env.kindOf y = some .local := by rfl) (hz : env.kindOf z = some .local := by rfl)
    (hp : (env.scope.kind == .class || (env.scope.kind == .module && env.locals != env.globals)) = false := by rfl) :
    wpAny (model prog w) A (assign (.Tuple [.Name x p1, .Name y p2, .Name z p3] k pos) env (.ref t)) Q E s := by
  refine assign_Tuple_tuple hh ht rfl rfl fun h1 e1 => ?_
  have k1 := ext_keep e1
  refine assignInOrder_cons (wpAny_assign_Name ?_)
  refine wpAny_storeName_local hx (N.keeps k1) (fun h2 N2 s2 => ?_) hp
  refine assignInOrder_cons (wpAny_assign_Name ?_)
  refine wpAny_storeName_local hy N2 (fun h3 N3 s3 => ?_) hp
  refine assignInOrder_cons (wpAny_assign_Name ?_)
  refine wpAny_storeName_local hz N3 (fun h4 N4 s4 => ?_) hp
  refine assignInOrder_nil ?_
  exact h h4 _ N4 fun b o hb e => (s4.2 b hb).trans ((s3.2 b hb).trans ((s2.2 b hb).trans (k1 _ _ e)))
end

theorem fresh_of {h h' : Heap} (k : Keep h h') : h.get? h'.objs.size = none := by
  cases hq : h.get? h'.objs.size with
  | none => rfl
  | some o' => exact absurd (Heap.lt_size (k _ _ hq)) (Nat.lt_irrefl _)
theorem ne_fresh {h : Heap} {a b : Addr} {o : Obj} (x : h.get? a = none) (y : h.get? b = some o) : a ≠ b := fun e => by
  rw [e, y] at x; cases x
theorem appendInts {vs : List Value} {ns : List Int} (h : IntsAre vs ns) (n : Int) (t : Tok) : IntsAre (vs ++ [.int n t]) (ns ++ [n]) := IntsAre.append h (.cons n t .nil)
theorem nin3 {a x y z : Addr} (p : a ≠ x) (q : a ≠ y) (r : a ≠ z) : a ∉ [x, y, z] := by simp [p, q, r]
theorem tup_ne_ns {h : Heap} {a L : Addr} {xs : Array Value} {m : Str → Option Value} (x : IsTup h a xs) (N : h.Ns L m) : a ≠ L := fun e => by
  obtain ⟨o, g, _, n, d⟩ := x
  obtain ⟨o', es, ep, g', d', _⟩ := N
  rw [e, g'] at g; cases g; rw [d] at d'; cases d'
theorem tup_ne_list {h : Heap} {a L : Addr} {xs ys : Array Value} (x : IsTup h a xs) (N : h.PlainList L ys) : a ≠ L := fun e => by
  obtain ⟨o, g, c, n, d⟩ := x
  obtain ⟨n', g'⟩ := N
  rw [e, g'] at g; cases g; simp at c
theorem list_ne_ns {h : Heap} {a L : Addr} {xs : Array Value} {m : Str → Option Value} (x : h.PlainList a xs) (N : h.Ns L m) : a ≠ L := fun e => by
  obtain ⟨n, g⟩ := x
  obtain ⟨o', es, ep, g', d', _⟩ := N
  rw [e, g'] at g; cases g; cases d'
theorem list_some {h : Heap} {a : Addr} {xs : Array Value} (x : h.PlainList a xs) : ∃ o, h.get? a = some o := let ⟨n, g⟩ := x; ⟨_, g⟩
theorem tup_some {h : Heap} {a : Addr} {xs : Array Value} (x : IsTup h a xs) : ∃ o, h.get? a = some o := let ⟨o, g, _⟩ := x; ⟨_, g⟩
theorem ne_size {h : Heap} {a : Addr} (x : ∃ o, h.get? a = some o) : a ≠ h.objs.size := let ⟨_, g⟩ := x; Nat.ne_of_lt (Heap.lt_size g)
theorem ns_some {h : Heap} {L : Addr} {m : Str → Option Value} (N : h.Ns L m) : ∃ o, h.get? L = some o := let ⟨oL, _, _, hL, _⟩ := N; ⟨oL, hL⟩
/-- a list display of tuples of int constants -/
inductive AllTups : List Expr → List (List Int) → Prop
  | nil : AllTups [] []
  | cons {es : List Expr} {k : Nat} {p : Pos} {r : List Expr} {rs : List (List Int)} (ns : List Int) : tupLitsOf es = some (ns.map .int) → ns.length < 2 ^ 20 → AllTups r rs → AllTups (.Tuple es k p :: r) (ns :: rs)
inductive TupsAre (h : Heap) : List Value → List (List Int) → Prop
  | nil : TupsAre h [] []
  | cons {a : Addr} {us vs : List Value} {ns : List Int} {rs : List (List Int)} : IsTup h a us.toArray → IntsAre us ns → TupsAre h vs rs → TupsAre h (.ref a :: vs) (ns :: rs)
theorem TupsAre.mono {h h' : Heap} (k : Keep h h') : ∀ {vs : List Value} {rs : List (List Int)}, TupsAre h vs rs → TupsAre h' vs rs
  | _, _, .nil => .nil
  | _, _, .cons a b c => .cons (tup_keep a k) b (c.mono k)
theorem TupsAre.length {h : Heap} : ∀ {vs : List Value} {rs : List (List Int)}, TupsAre h vs rs → vs.length = rs.length
  | _, _, .nil => rfl
  | _, _, .cons a b c => by simp [c.length]
theorem TupsAre.at {h : Heap} : ∀ {vs : List Value} {rs : List (List Int)}, TupsAre h vs rs → ∀ {i : Nat} {ns : List Int}, rs[i]? = some ns → ∃ a us, vs[i]? = some (.ref a) ∧ IsTup h a us.toArray ∧ IntsAre us ns
  | _, _, .cons (a := a) (us := us) x y c, 0, ns, e => ⟨a, us, rfl, x, by simp at e; subst e; exact y⟩
  | _, _, .cons x y c, i + 1, ns, e => by
    obtain ⟨a, us, h1, h2⟩ := c.at (i := i) (ns := ns) (by simpa using e)
    exact ⟨a, us, by simpa using h1, h2⟩
section
variable {M : Model} {A : Around} {E : Value → Shared → Prop} {env : Env}
theorem spliced_tups {pos : Pos} : ∀ (elts : List Expr) (rs : List (List Int)) (s : Shared) (Q : List Value → Shared → Prop), AllTups elts rs →
    (∀ h' vs tk, Keep s.heap h' → TupsAre h' vs rs → Q vs { s with heap := h', toks := tk }) → wpAny M A (spliced (backTo pos (starEach elts env))) Q E s
  | _, _, s, Q, .nil, h => args_nil (h s.heap [] s.toks (fun _ _ e => e) .nil)
  | _, _, s, Q, .cons ns hl hz r, h => by
    refine args_cons ?_ rfl
    refine intTup ns hl hz ?_
    intro h1 us tk1 k1 iu g1 _
    refine spliced_tups _ _ _ _ r ?_
    intro h2 vs tk2 k2 tv
    exact h h2 _ tk2 (fun b o e => k2 _ _ (k1 _ _ e)) (.cons (tup_keep (tupOf g1) k2) iu tv)
theorem tupsList {elts : List Expr} {rs : List (List Int)} {pos : Pos} {s : Shared} {Q : Value → Shared → Prop} (hl : AllTups elts rs) (hz : rs.length < 2 ^ 20)
    (h : ∀ h' a vs tk, Keep s.heap h' → TupsAre h' vs rs → h'.PlainList a vs.toArray → s.heap.get? a = none → Q (.ref a) { s with heap := h', toks := tk }) :
    wpAny M A (eval (.List elts pos) env) Q E s := by
  refine List_ (spliced_tups elts rs s _ hl ?_)
  intro h1 vs tk k1 tv
  refine mkList (s := { s with heap := h1, toks := tk }) ?_ (by rw [tv.length]; exact hz)
  intro h2 k2 n2 sz2
  exact h h2 _ vs tk (fun b o e => k2 _ _ (k1 _ _ e)) (tv.mono k2) n2 (fresh_of k1)
end

noncomputable def cellTab : List (List Int) := [[0, 7], [1, 12], [1, 31], [100, 9900], [0, 24], [0, 60], [0, 60], [0, 2], [0, 24], [0, 60]]
/-- what _law_cells adds up -/
noncomputable def cellsFrom (most : Int) : Int → List (List Int) → List Int
  | _, [] => []
  | x, p :: r => (p.getD 0 0 + x.fmod (if most < p.getD 1 0 then most else p.getD 1 0)) :: cellsFrom most (x.fdiv (if most < p.getD 1 0 then most else p.getD 1 0)) r
theorem cellsFrom_len (most : Int) : ∀ (x : Int) (r : List (List Int)), (cellsFrom most x r).length = r.length
  | _, [] => rfl
  | x, p :: r => by simp [cellsFrom, cellsFrom_len most _ r]
noncomputable def fd134 : FuncData := Subtype.val (p := fun x => x = fdOf 134) (by
  refine ⟨?_, ?_⟩
  rotate_left
  · conv => rhs; whnf)
theorem fn134 (w : World) : (HK w).lookup 134 = some { cls := .type "function", data := .func fd134 } := by kernel_rfl

section
variable {prog : Program} {w : World} {A : Around} {E : Value → Shared → Prop} {s : Shared} {mg mb : Str → Option Value}
set_option maxHeartbeats 1000000 in
theorem cells_spec {x most : Int} {t u : Tok} {Q : Value → Shared → Prop} (C : Cx w mg mb s.heap) (R : Rm A 5) (hm : 3 ≤ most)
    (hQ : ∀ h' tk b vs, Keep s.heap h' → s.heap.get? b = none → h'.PlainList b vs.toArray → IntsAre vs (cellsFrom most x cellTab) → Q (.ref b) { s with heap := h', toks := tk }) :
    wpAny (model prog w) A (call (.ref 134) [.int x t, .int most u]) Q E s := by
  refine enterF [(Str.ofString "x", .int x t), (Str.ofString "most", .int most u)] C R (fn134 w) (by kernel_rfl) rfl (BindsTo.of_eq rfl) (by rfl) (by decide) (fun h1 hns hk C1 R1 => ?_)
  refine wpAny_execs_cons ?_
  refine wpAny_Assign_Name ?_
  refine List_ ?_
  refine args_nil ?_
  refine mkList ?_
  intro h2 k2 n2 sz2
  dsimp only at k2 n2 sz2 ⊢
  refine stN rfl (hns.keeps k2) ?_
  intro h3 tq3 N3 s3
  dsimp only at N3 s3 ⊢
  refine wpAny_execs_cons ?_
  refine wpAny_For ?_
  refine tupsList (rs := cellTab) ?_ ?_ ?_
  · exact .cons _ rfl (by decide) (.cons _ rfl (by decide) (.cons _ rfl (by decide) (.cons _ rfl (by decide) (.cons _ rfl (by decide) (.cons _ rfl (by decide) (.cons _ rfl (by decide) (.cons _ rfl (by decide) (.cons _ rfl (by decide) (.cons _ rfl (by decide) .nil)))))))))
  · decide
  intro h4 T tv tk4 k4 tt n4 f4
  dsimp only at k4 f4 ⊢
  have DL : h1.objs.size ≠ s.heap.objs.size := Nat.ne_of_gt hns.lt
  have n3 : h3.PlainList h1.objs.size #[] := plain_same n2 s3 DL
  have N4 := N3.keeps k4
  have n4D : h4.PlainList h1.objs.size #[] := plain_keep n3 k4
  have TL : T ≠ s.heap.objs.size := list_ne_ns n4 N4
  have TD : T ≠ h1.objs.size := let ⟨_, g⟩ := list_some n3; ne_fresh f4 g
  refine wpAny_pyIter_list n4.isList ?_
  dsimp only
  generalize hH5 : h4.push { cls := Value.type "list_iterator", data := Data.fields #[Value.ref T, Value.int 0 0] } = h5
  have k5 : Keep h4 h5 := fun b o e => by rw [← hH5]; exact Heap.get?_push_of_some _ e
  have I5 : h5.IsListIter h4.objs.size T 0 := by rw [← hH5]; exact ⟨_, Heap.get?_push_size _ rfl, rfl, rfl⟩
  have IL : h4.objs.size ≠ s.heap.objs.size := (ne_size (ns_some N4)).symm
  have ID : h4.objs.size ≠ h1.objs.size := (ne_size (list_some n4D)).symm
  have IT : h4.objs.size ≠ T := (ne_size (list_some n4)).symm
  have hlen : tv.length = 10 := tt.length
  have oldS : ∀ b o, s.heap.get? b = some o → b ∉ [s.heap.objs.size, h1.objs.size, h4.objs.size] := fun b o e => by
    have e1 := hk _ _ e
    have e3 := (s3.2 b (Nat.ne_of_lt (Heap.lt_size e))).trans (k2 _ _ e1)
    have e4 := k4 _ _ e3
    simp only [List.mem_cons, List.not_mem_nil, or_false, not_or]
    exact ⟨Nat.ne_of_lt (Heap.lt_size e), Nat.ne_of_lt (Heap.lt_size e1), Nat.ne_of_lt (Heap.lt_size e4)⟩
  have old5 : ∀ b o, s.heap.get? b = some o → h5.get? b = some o := fun b o e => k5 _ _ (k4 _ _ ((s3.2 b (Nat.ne_of_lt (Heap.lt_size e))).trans (k2 _ _ (hk _ _ e))))
  obtain ⟨Inv, hInv⟩ : ∃ Inv : Nat → Shared → Prop, ∀ k s', Inv k s' ↔ (∃ (h : Heap) (tk : Nat) (m : Str → Option Value) (i : Nat) (y : Int) (ty : Tok) (ds : List Int) (us : List Value), s' = { s with heap := h, toks := tk } ∧ h.Ns s.heap.objs.size m ∧
      m (Str.ofString "x") = some (.int y ty) ∧ m (Str.ofString "most") = some (.int most u) ∧ m (Str.ofString "cells") = some (.ref h1.objs.size) ∧
      h.PlainList h1.objs.size us.toArray ∧ IntsAre us ds ∧ h.IsListIter h4.objs.size T i ∧ Kp [s.heap.objs.size, h1.objs.size, h4.objs.size] h5 h ∧
      ds ++ cellsFrom most y (cellTab.drop i) = cellsFrom most x cellTab ∧ us.length = i ∧ i + k = 10) := ⟨_, fun _ _ => Iff.rfl⟩
  refine codeAny_forLoop_any Inv ?_ 10
    ((hInv _ _).2 ⟨h5, _, _, 0, x, t, [], [], rfl, N4.keeps k5, rfl, rfl, rfl, plain_keep n4D k5, .nil, I5, Kp.refl, rfl, rfl, rfl⟩)
  intro k s' hI0
  obtain ⟨h, tk, m, i, y, ty, ds, us, rfl, N, ex, em, ec, hD, hI, hit, hK, he, hu, hik⟩ := (hInv _ _).1 hI0
  clear hI0
  have C' : ∀ h', Kp [s.heap.objs.size, h1.objs.size, h4.objs.size] h5 h' → Cx w mg mb h' := fun h' k' => C.keeps fun b o e => k' b o (oldS b o e) (old5 b o e)
  have hT : h.PlainList T tv.toArray := hK.list (plain_keep n4 k5) (nin3 TL TD IT.symm)
  cases k with
  | zero =>
    have hi : i = 10 := by omega
    subst hi
    refine wpAny_pyNext_list_end R1.hh hit hT.isList ?_ ?_
    · rw [List.getElem?_toArray, List.getElem?_eq_none (by omega)]
    intro h6 e6
    dsimp only
    refine wpAny_execs_nil ?_
    dsimp only
    refine wpAny_execs_cons ?_
    refine wpAny_Return_some ?_
    refine nmL (N.extBut e6 IL.symm) ec ?_
    dsimp only
    refine hQ h6 _ _ us ?_ ?_ (hD.extBut e6 ID.symm) ?_
    · exact fun b o e => (hK.ext e6 (by simp)) b o (oldS b o e) (old5 b o e)
    · exact fresh_of hk
    · have : cellTab.drop 10 = [] := rfl
      rw [this] at he
      simp only [cellsFrom, List.append_nil] at he
      rw [← he]; exact hI
  | succ k =>
    have hi : i < 10 := by omega
    obtain ⟨ps, hps⟩ : ∃ ps, cellTab[i]? = some ps := ⟨cellTab[i]'hi, List.getElem?_eq_getElem hi⟩
    obtain ⟨a, us2, ha, hta, hia⟩ := (tt.mono k5).at hps
    have aS : a ∉ [s.heap.objs.size, h1.objs.size, h4.objs.size] := by
      have q1 := tup_ne_ns hta (N4.keeps k5)
      have q2 := tup_ne_list hta (plain_keep n4D k5)
      have q3 : a ≠ h4.objs.size := by
        intro e
        obtain ⟨o, g, c, _⟩ := hta
        obtain ⟨o', g', c', _⟩ := I5
        rw [e, g'] at g; cases g; rw [c'] at c; simp at c
      exact nin3 q1 q2 q3
    refine wpAny_pyNext_list_item hit hT.isList (by rw [List.getElem?_toArray]; exact ha) ?_
    intro h6 I6 s6
    dsimp only at I6 s6 ⊢
    refine wpAny_letOwnedTupleGo_listiter I6 ?_
    have hK6 := hK.same s6 (by simp)
    obtain ⟨f, q, rfl⟩ : ∃ f q, ps = [f, q] := by
      have hj : ∀ j, j < 10 → ((cellTab[j]?).map List.length) = some 2 := by decide +kernel
      have h2 := hj i hi
      rw [hps] at h2
      match ps, h2 with
      | [f, q], _ => exact ⟨f, q, rfl⟩
    obtain ⟨tf, us3, rfl, hia3⟩ := hia.cons_inv
    obtain ⟨tq, us4, rfl, hia4⟩ := hia3.cons_inv
    have := hia4.nil_inv
    subst this
    have hta6 : IsTup h6 a #[Value.int f tf, Value.int q tq] := hK6.tup hta aS
    refine unpack2 R1.hh hta6 (N.sameBut s6 IL.symm) ?_
    intro h7 tk7 N7 e7
    dsimp only at N7 e7 ⊢
    refine hideR ?_
    intro RQ hRQ
    have hK7 := hK6.ext (a := s.heap.objs.size) e7 (by simp)
    have C7 := C' h7 hK7
    have hD7 : h7.PlainList h1.objs.size us.toArray := (plain_same hD s6 ID.symm).extBut e7 DL
    refine wpAny_execs_cons ?_
    refine wpAny_Expr ?_
    refine MethodCall_ ?_
    refine nmL N7 ec ?_
    refine methPlain hD7 PySem.F.slot_list_append PySem.F.type_list_append ?_
    refine callWith_method1 ?_
    refine args_cons ?_
    refine wpAny_BinOp ?_
    refine nmL N7 rfl ?_
    refine wpAny_BinOp ?_
    refine nmL N7 ex ?_
    refine Call_ ?_
    refine nmB C7 (by kernel_rfl) boot_min (by decide) ?_
    refine cwb2 ?_
    refine args_cons ?_
    refine nmL N7 rfl ?_
    refine args_cons ?_
    refine nmL N7 em ?_
    refine args_nil ?_
    refine min2 R1.hh ?_
    intro h8 tk8 t8 k8
    dsimp only
    have hq2 : 2 ≤ q ∧ q ≤ 9900 := by
      have hj : ∀ j, j < 10 → ((cellTab[j]?).all fun p => decide (2 ≤ p.getD 1 0 ∧ p.getD 1 0 ≤ 9900)) = true := by decide +kernel
      have h2 := hj i hi
      rw [hps] at h2
      exact of_decide_eq_true h2
    have hmb : (if most < q then most else q) ≠ 0 := by split <;> omega
    have hmb2 : (if most < q then most else q).natAbs < 1073741824 := by split <;> omega
    refine mod_int' hmb ?_
    refine add_int ?_
    refine args_nil ?_
    dsimp only
    refine appendPlain (plain_keep hD7 k8) (by omega) ?_
    intro h9 hD9 s9
    dsimp only at hD9 s9 ⊢
    have hK8 := hK7.keep k8
    have hK9 := hK8.same s9 (by simp)
    have N9 := (N7.keeps k8).sameBut s9 (fun e => DL e.symm)
    have C9 := C' h9 hK9
    refine wpAny_execs_cons ?_
    refine wpAny_Assign_Name ?_
    refine wpAny_BinOp ?_
    refine nmL N9 ex ?_
    refine Call_ ?_
    refine nmB C9 (by kernel_rfl) boot_min (by decide) ?_
    refine cwb2 ?_
    refine args_cons ?_
    refine nmL N9 rfl ?_
    refine args_cons ?_
    refine nmL N9 em ?_
    refine args_nil ?_
    refine min2 R1.hh ?_
    intro h10 tk10 t10 k10
    dsimp only
    refine floordiv_int hmb ?_ (.inl (PyProof.noPylong_small hmb2))
    dsimp only
    refine stN rfl (N9.keeps k10) ?_
    intro h11 tq11 N11 s11
    dsimp only at N11 s11 ⊢
    refine wpAny_execs_nil ?_
    have hK11 := (hK9.keep k10).same (a := s.heap.objs.size) s11 (by simp)
    have hDf := plain_same (plain_keep hD9 k10) s11 DL
    refine hRQ _ _ ?_
    refine ⟨k, by omega, (hInv _ _).2 ⟨h11, _, _, i + 1, _, _, ds ++ [f + y.fmod (if most < q then most else q)], us ++ [_], rfl, N11, rfl, em, ec, hDf, ?_, ?_, hK11, ?_, ?_, by omega⟩⟩
    · exact appendInts hI _ _
    · have q1 : h8.IsListIter h4.objs.size T (i + 1) := (I6.extBut e7 IL).at fun o e => k8 _ _ e
      have q2 : h9.IsListIter h4.objs.size T (i + 1) := q1.at fun o e => (s9.2 _ ID).trans e
      have q3 : h10.IsListIter h4.objs.size T (i + 1) := q2.at fun o e => k10 _ _ e
      exact q3.at fun o e => (s11.2 _ IL).trans e
    · rw [← he, List.append_assoc]
      congr 1
      have hd : cellTab.drop i = [f, q] :: cellTab.drop (i + 1) := by
        rw [List.drop_eq_getElem_cons hi]
        congr 1
        rw [List.getElem?_eq_getElem hi] at hps
        exact Option.some.inj hps
      rw [hd]
      rfl
    · simp [hu]
end
end Mine
namespace Mine
open PySem PySem.W PyProof.Rows
theorem fmod_in {x m q : Int} (hm : 0 < m) (hq : m ≤ q) : 0 ≤ x.fmod m ∧ x.fmod m < q := by
  rw [Int.fmod_eq_emod_of_nonneg _ (Int.le_of_lt hm)]
  have h1 := Int.emod_nonneg x (Int.ne_of_gt hm)
  have h2 := Int.emod_lt_of_pos x hm
  omega
theorem cells_ok {x most : Int} (hm : 3 ≤ most) : ∃ c, cellsFrom most x cellTab = nsOf c ∧ Okc c := by
  refine ⟨fun i => (cellsFrom most x cellTab).getD i 0, rfl, ?_⟩
  have key : ∀ (y q : Int), 2 ≤ q → 0 ≤ y.fmod (if most < q then most else q) ∧ y.fmod (if most < q then most else q) < q := fun y q hq => by
    apply fmod_in
    · split <;> omega
    · split <;> omega
  have ok1 : ∀ (f q y : Int), 2 ≤ q → f ≤ f + y.fmod (if most < q then most else q) ∧ f + y.fmod (if most < q then most else q) < f + q := fun f q y hq => by
    have := key y q hq
    omega
  constructor
  · exact ok1 0 7 _ (by decide)
  · exact ⟨(ok1 1 12 _ (by decide)).1, Int.lt_add_one_iff.mp (ok1 1 12 _ (by decide)).2⟩
  · exact ⟨(ok1 1 31 _ (by decide)).1, Int.lt_add_one_iff.mp (ok1 1 31 _ (by decide)).2⟩
  · exact ok1 100 9900 _ (by decide)
  · exact ok1 0 24 _ (by decide)
  · exact ok1 0 60 _ (by decide)
  · exact ok1 0 60 _ (by decide)
  · exact ok1 0 2 _ (by decide)
  · exact ok1 0 24 _ (by decide)
  · exact ok1 0 60 _ (by decide)
end Mine
namespace Mine
open PySem PySem.W PyProof.Rows

theorem fillsI : fillsInplaceSlot (.type "list") "add" (Operator.Add == .Add) = pure false := by
  unfold fillsInplaceSlot
  show (typeLookup (.type "list") (dunderI "add") >>= fun fi => pure (fi.isSome && !isSeqSlot fi)) = pure false
  rw [PySem.F.slot_list_iadd.lookup]
  rfl
theorem seqI : seqSlot? (.type "list") (dunderI "add") = pure (some (.builtin "list.__iadd__")) := PySem.seqSlot_of PySem.F.slot_list_iadd.lookup (by decide +kernel)
section
variable {prog : Program} {w : World} {A : Around} {E : Value → Shared → Prop} {s : Shared}
theorem iaddL {l b : Addr} {xs ys : List Value} {Q : Value → Shared → Prop} (hl : s.heap.PlainList l xs.toArray) (hb : s.heap.PlainList b ys.toArray) (hsz : xs.length + ys.length < 2 ^ 20)
    (h : ∀ h', h'.PlainList l (xs ++ ys).toArray → Heap.SameBut l s.heap h' → Q (.ref l) { s with heap := h' }) : wpAny (model prog w) A (inplaceOp .Add (.ref l) (.ref b)) Q E s := by
  have ha := hl.isList.typeIs
  have hb' := hb.isList.typeIs
  unfold inplaceOp
  refine wpAny_holding ?_
  refine wpAny_bind (wpAny_typeOf ha (wpAny_bind (wpAny_of_eq fillsI ?_)))
  show wpAny _ A (if false = true then _ else _) Q E s
  rw [if_neg Bool.false_ne_true]
  refine wpAny_bind (wpAny_binaryOp1_none (nm := "add") ha hb' noFill_list_add ?_)
  refine wpAny_bind (wpAny_of_eq seqI ?_)
  refine wpAny_bind (wpAny_rule ?_)
  obtain ⟨n, hl⟩ := hl
  obtain ⟨n2, hb⟩ := hb
  refine call_meets PySem.F.slot_list_iadd ⟨_, hl, rfl⟩ PySem.F.entry_list_iadd (PySem.F.args_list_iadd_2 _ _) (AutoSeq1.list___iadd___list_list_0 l _ n b _ n2 ?_ ?_ ?_) ⟨hl, hb, ?_⟩
  · simp only [List.size_toArray, Builtin.List.listTooLong, sizeLine_eq]; simp; omega
  · rw [List.size_toArray, sizeLine_eq]; omega
  · rw [List.size_toArray, List.size_toArray, sizeLine_eq]; omega
  refine h _ ?_ (Heap.SameBut.update ..)
  have e := Heap.get?_update_self (Obj.mapSeq fun x => x ++ ys.toArray) hl rfl
  simp only [Obj.mapSeq, List.append_toArray] at e
  exact ⟨_, e⟩
end
end Mine
namespace Mine
open PySem PySem.W PyProof.Rows
section
variable {prog : Program} {w : World} {A : Around} {E : Value → Shared → Prop} {s : Shared} {mg mb : Str → Option Value}
/-- enter a def that has cells -/
theorem enterC {fd : FuncData} {a : Addr} {body : List Stmt} {pos : List Value} {kw : List (Str × Value)} {n : Nat} {Q : Value → Shared → Prop} (binds : List (Str × Value))
    (C : Cx w mg mb s.heap) (R : Rm A (n + 1)) (hf : (HK w).lookup a = some { cls := .type "function", data := .func fd }) (hcd : codeIn (HK w) fd.code fd.qualname = true)
    (hbody : fd.body = .stmts body) (hbind : BindsTo s fd ⟨pos, kw⟩ binds) (hclo : fd.closure = [])
    (hkind : ∀ x ∈ binds, fd.scope.names.lookup x.1 = some .local ∨ (fd.scope.names.lookup x.1 = some .cell ∧ ((PySem.cellsFrom (s.heap.objs.size + 1) fd.scope.names []).lookup x.1).isSome = true))
    (h : ∀ h₁ tk, h₁.Ns s.heap.objs.size (bindL (callEnvC fd s.heap.objs.size a).kindOf binds fun _ => none) → Keep s.heap h₁ → Cx w mg mb h₁ → Rm (A.deeper (callEnvC fd s.heap.objs.size a)) n →
      (∀ x c, (PySem.cellsFrom (s.heap.objs.size + 1) fd.scope.names []).lookup x = some c → h₁.IsCell c (bindC (callEnvC fd s.heap.objs.size a).kindOf binds (fun _ => none) x)) →
      wpAny (model prog w) (A.deeper (callEnvC fd s.heap.objs.size a)) (execs body (callEnvC fd s.heap.objs.size a)) (fun f s' => Q (match f with | .ret v => v | _ => .none) s')
        (fun _ _ => False) { s with heap := h₁, toks := tk })
    (hco : fd.scope.isCoroutine = false := by rfl) (hgen : fd.scope.isGenerator = false := by rfl) (hk : fd.scope.kind = .function := by rfl) :
    wpAny (model prog w) A (call (.ref a) pos kw) Q E s := by
  refine wpAny_call ?_
  refine codeAny_call_function R.depth (C.k _ _ hf) rfl hco hgen hbody (codeRec_of C.k hcd) (hbind _ _ _ _ ?_)
  rw [hclo]
  refine wpAny_newFunctionEnv_cells hk hkind fun env he s' x => ?_
  subst he
  obtain ⟨h1, tk, rfl⟩ := x.toInCall.same
  refine ⟨C.lim.keeps x.toInCall.keep, codeAny_func ?_⟩
  have := h h1 tk x.toInCall.ns x.toInCall.keep (C.keeps x.toInCall.keep) R.deeper x.cell
  exact wpAny_mono this (fun f s' q => q) fun _ _ x => x.elim
end
section
variable {M : Model} {A : Around} {E : Value → Shared → Prop} {s : Shared} {env : Env}
/-- a name in a cell -/
theorem nmC {x : Str} {pos : Pos} {c : Addr} {v : Value} {Q : Value → Shared → Prop} (hv : s.heap.IsCell c (some v)) (h : Q v s) (hc : env.cells.lookup x = some c)
    (hk : env.scope.kind = .function := by rfl) (hl : env.kindOf x = some .cell := by rfl) (hd : (x == ("__debug__" : Str)) = false := by decide) :
    wpAny M A (eval (.Name x pos) env) Q E s := wpAny_Name (wpAny_loadName_cell hk hl hc hv h) hd
/-- a name in a cell of a function around -/
theorem nmF {x : Str} {pos : Pos} {c : Addr} {v : Value} {Q : Value → Shared → Prop} (hv : s.heap.IsCell c (some v)) (h : Q v s) (hc : env.cells.lookup x = some c)
    (hk : env.scope.kind = .function := by rfl) (hl : env.kindOf x = some .free := by rfl) (hd : (x == ("__debug__" : Str)) = false := by decide) (hn : (x == ("__classdict__" : Str)) = false := by decide) :
    wpAny M A (eval (.Name x pos) env) Q E s := wpAny_Name (wpAny_loadName_free hk hl hc hv h hn) hd
end
end Mine
namespace Mine
open PySem PySem.W PyProof.Rows
section
variable {prog : Program} {w : World} {A : Around} {E : Value → Shared → Prop} {s : Shared} {env : Env}

theorem compLoopAny {R : Result → Shared → Prop} {elt target iter : Expr} {scope : Scope} {pos : Pos} {it acc : Value} {env : Env} (I : Nat → Shared → Prop)
    (turn : ∀ n s, I n s → wpAny (model prog w) A (pyNext it) (fun r s₁ => match r with
      | none => R (.ok .next) s₁
      | some v => wpAny (model prog w) A (letOwnedTupleGo target it v) (fun _ s₁' => wpAny (model prog w) A (assign target env v) (fun _ s₂ => wpAny (model prog w) A (eval elt env) (fun x s₃ =>
          wpAny (model prog w) A (call (.builtin "list.append") [acc, x]) (fun _ s₄ => ∃ m, m < n ∧ I m s₄) (fun _ _ => False) s₃)
          (fun _ _ => False) s₂) (fun _ _ => False) s₁') (fun _ _ => False) s₁) (fun _ _ => False) s)
    (n : Nat) (h : I n s) :
    codeAny (model prog w) A (.compLoop (.ListComp elt [⟨target, iter, [], 0⟩] scope pos) 0 it acc env) R s := by
  refine codeAny_loop rfl I (fun n s hI => ?_) n h
  show wpAny _ _ ((compTurn (.ListComp elt [⟨target, iter, [], 0⟩] scope pos) 0 it acc env).onRaise (fun x => do noteFrame x env; theTreesLotGoes x)) _ _ s
  refine wpAny_noted ?_
  rw [compTurn_list1]
  refine wpAny_bind (wpAny_standAt (wpAny_bind (wpAny_mono (turn n s hI) (fun r s₁ h₁ => ?_) fun _ _ h' => h'.elim)))
  cases r with
  | none => exact wpAny_pure h₁
  | some v =>
    refine wpAny_bind (wpAny_mono h₁ (fun _ s₁' h₁' => ?_) fun _ _ h' => h'.elim)
    exact wpAny_bind (wpAny_mono h₁' (fun _ s₂ h₂ => wpAny_bind (wpAny_bind (wpAny_mono h₂ (fun x s₃ h₃ => wpAny_bind (wpAny_mono h₃
      (fun _ s₄ h₄ => wpAny_pure (wpAny_pure ⟨rfl, h₄⟩)) fun _ _ h' => h'.elim)) fun _ _ h' => h'.elim))) fun _ _ h' => h'.elim)

/-- what a comprehension's turns must do -/
noncomputable def CompOk (prog : Program) (w : World) (A : Around) (env : Env) (elt target : Expr) (scope : Scope) (cl : List (Str × Addr)) (it : Value) (Z : Addr → Addr → Shared → Prop) (s₂ : Shared) : Prop :=
  ∀ D C h₁ tk, Keep s₂.heap h₁ → h₁.PlainList D #[] → h₁.Ns C (fun _ => none) → s₂.heap.get? D = none → s₂.heap.get? C = none → D ≠ C →
    ∃ (I : Nat → Shared → Prop) (n : Nat), I n { s₂ with heap := h₁, toks := tk } ∧
      (∀ E (Q' : Value → Shared → Prop), Q' it { s₂ with heap := h₁, toks := tk } → wpAny (model prog w) A (pyIter it) Q' E { s₂ with heap := h₁, toks := tk }) ∧
      ∀ n s, I n s → wpAny (model prog w) A (pyNext it) (fun r s₁ => match r with
        | none => Z D C s₁
        | some v => wpAny (model prog w) A (letOwnedTupleGo target it v) (fun _ s₁' => wpAny (model prog w) A (assign target (compEnvC scope cl C env) v) (fun _ s₂ => wpAny (model prog w) A (eval elt (compEnvC scope cl C env)) (fun x s₃ =>
            wpAny (model prog w) A (call (.builtin "list.append") [.ref D, x]) (fun _ s₄ => ∃ m, m < n ∧ I m s₄) (fun _ _ => False) s₃)
            (fun _ _ => False) s₂) (fun _ _ => False) s₁') (fun _ _ => False) s₁) (fun _ _ => False) s

theorem compBlock {elt target iter : Expr} {scope : Scope} {cl : List (Str × Addr)} {pos : Pos} {s₂ : Shared} {it : Value} {Z : Addr → Addr → Shared → Prop} (RR : Value → Addr → Result → Shared → Prop)
    (hR : ∀ D C s', Z D C s' → RR (.ref D) C (.ok .next) s')
    (hcell : ∀ y ∈ scope.names, y.2 ≠ .cell) (hkind : scope.kind = .function)
    (h : CompOk prog w A env elt target scope cl it Z s₂) :
    wpAny (model prog w) A (newList []) (fun acc s₃ => wpAny (model prog w) A (newFunctionEnv scope env.globals cl [] env.qual none .none (some env)) (fun cenv s₄ =>
      codeAny (model prog w) A (.compStart (.ListComp elt [⟨target, iter, [], 0⟩] scope pos) 0 it acc { cenv with scope := relabel scope env }) (RR acc cenv.locals) s₄) E s₃) E s₂ := by
  refine wpAny_newObj_type (wpAny_newFunctionEnv hcell (by intro y hy; simp at hy) (fun h₁ hns₁ hsb₁ => ?_) hkind)
  dsimp only at hns₁ hsb₁ ⊢
  generalize hH2 : s₂.heap.push { cls := .type "list", dict := none, data := .seq ([] : List Value).toArray } = H2 at hns₁ hsb₁ ⊢
  have hC : H2.objs.size = s₂.heap.objs.size + 1 := by rw [← hH2, Heap.size_push]
  have hDC : s₂.heap.objs.size ≠ H2.objs.size := by rw [hC]; exact Nat.ne_of_lt (Nat.lt_succ_self _)
  have old : Keep s₂.heap h₁ := fun b o e => hsb₁.extBut b o (by rw [hC]; exact Nat.ne_of_lt (Nat.lt_succ_of_lt (Heap.lt_size e))) (Heap.get?_push_of_some _ (hH2 ▸ Heap.get?_push_of_some _ e))
  have hacc : h₁.PlainList s₂.heap.objs.size #[] := ⟨_, hsb₁.extBut _ _ hDC (Heap.get?_push_of_some _ (hH2 ▸ Heap.get?_push_size _ rfl))⟩
  have fr : ∀ a, s₂.heap.objs.size ≤ a → s₂.heap.get? a = none := fun a ha => by
    cases e : s₂.heap.get? a with
    | none => rfl
    | some o' => exact absurd (Heap.lt_size e) (Nat.not_lt.mpr ha)
  obtain ⟨I, n, hI, hit, turn⟩ := h s₂.heap.objs.size H2.objs.size h₁ (s₂.toks + ([] : List (Str × Value)).length) old hacc hns₁ (fr _ (Nat.le_refl _)) (fr _ (by rw [hC]; exact Nat.le_succ _)) hDC
  have loop : codeAny (model prog w) A (.compLoop (.ListComp elt [⟨target, iter, [], 0⟩] scope pos) 0 it (.ref s₂.heap.objs.size) (compEnvC scope cl H2.objs.size env))
        (RR (.ref s₂.heap.objs.size) H2.objs.size) { s₂ with heap := h₁, toks := s₂.toks + ([] : List (Str × Value)).length } := by
    refine compLoopAny I (fun n s hI => ?_) n hI
    refine wpAny_mono (turn n s hI) (fun r s₁ h₁ => ?_) fun _ _ x => x
    cases r with
    | none => exact hR _ _ _ h₁
    | some v => exact h₁
  exact codeAny_compStart_list loop (hit _ _ loop)

/-- a list comprehension of one clause, no tests -/
theorem comp1 {elt target iter : Expr} {scope : Scope} {cl : List (Str × Addr)} {pos : Pos} {Q : Value → Shared → Prop}
    (hclos : closureFor scope env = pure cl) (hcell : ∀ y ∈ scope.names, y.2 ≠ .cell) (hkind : scope.kind = .function)
    (hnames : ∀ y ∈ scope.names, y.2 = .local → scope.names.lookup y.1 = some .local)
    (h : wpAny (model prog w) A (eval iter env) (fun xv s₁ => wpAny (model prog w) A (pyIter xv) (fun it s₂ => CompOk prog w A env elt target scope cl it (fun D C s₁ => ∃ m, s₁.heap.Ns C m ∧ ∀ h', Heap.SameBut C s₁.heap h' → Q (.ref D) { s₁ with heap := h' }) s₂) E s₁) E s)
    (hs : ∀ x, foldedSetIterable iter env x = pure x := by intro _; rfl) :
    wpAny (model prog w) A (eval (.ListComp elt [⟨target, iter, [], 0⟩] scope pos) env) Q E s := by
  rw [eval_ListComp]
  refine wpAny_comprehension_free rfl hs hclos hkind hnames ?_
  refine wpAny_mono h (fun xv s₁ h₁ => ?_) fun _ _ x => x
  refine wpAny_mono h₁ (fun it s₂ h₂ => ?_) fun _ _ x => x
  exact compBlock _ (fun D C s' hh => hh) hcell hkind h₂

/-- x = a list comprehension, on one line, x a plain local: the store comes first, then the names go -/
theorem compUse {elt target iter : Expr} {y : Str} {py spos : Pos} {scope : Scope} {cl : List (Str × Addr)} {pos : Pos} {Q : Flow → Shared → Prop}
    (hsw : swapsWith (.ListComp elt [⟨target, iter, [], 0⟩] scope pos) (some (.Name y py)) spos.line env = pure true)
    (hclos : closureFor scope env = pure cl) (hcell : ∀ y ∈ scope.names, y.2 ≠ .cell) (hkind : scope.kind = .function)
    (hnames : ∀ y ∈ scope.names, y.2 = .local → scope.names.lookup y.1 = some .local)
    (hy : env.kindOf y = some .local) (hp : (env.scope.kind == .class || (env.scope.kind == .module && env.locals != env.globals)) = false)
    (h : wpAny (model prog w) A (eval iter env) (fun xv s₁ => wpAny (model prog w) A (pyIter xv) (fun it s₂ => CompOk prog w A env elt target scope cl it (fun D C s₁ => ∃ m mL, s₁.heap.Ns C m ∧ s₁.heap.Ns env.locals mL ∧ C ≠ env.locals ∧
      ∀ h' tk, h'.Ns env.locals (fun z => if z = y then some (.ref D) else mL z) → Kp [env.locals, C] s₁.heap h' → Q .next { s₁ with heap := h', toks := tk }) s₂) E s₁) E s)
    (hs : ∀ x, foldedSetIterable iter env x = pure x := by intro _; rfl) :
    wpAny (model prog w) A (exec (.Assign [.Name y py] (.ListComp elt [⟨target, iter, [], 0⟩] scope pos) spos) env) Q E s := by
  rw [exec_Assign_Name_used _ _ _ _ hsw]
  refine wpAny_bind (wpAny_standAt (wpAny_bind ?_))
  show wpAny _ A (do let _ ← comprehension (.ListComp elt [⟨target, iter, [], 0⟩] scope pos) scope env _ (newList []) false (eval iter env) (some (assign (.Name y py) env))) _ _ s
  refine wpAny_bind (wpAny_mono (wpAny_comprehension_free (use := some (assign (.Name y py) env)) (Q := fun _ s' => Q .next s') rfl hs hclos hkind hnames
    (wpAny_mono h (fun xv s₁ h₁ => wpAny_mono h₁ (fun it s₂ h₂ => ?_) fun _ _ e => e) fun _ _ e => e)) (fun _ s' hq => wpAny_pure (wpAny_pure hq)) fun _ _ e => e)
  refine compBlock (fun acc C => compPost (model prog w) A E (some (assign (.Name y py) env)) (fun _ s' => Q .next s') acc C) (fun D C s' hz => ?_) hcell hkind h₂
  obtain ⟨m, mL, N, NL, hne, hq⟩ := hz
  show wpAny _ A (assign (.Name y py) env (.ref D)) _ _ _
  refine wpAny_assign_Name (wpAny_storeName_local hy NL (fun h₂ hn₂ hs₂ => ?_) hp)
  refine ⟨m, N.sameBut hs₂ hne, fun h₃ hs₃ => ?_⟩
  refine hq h₃ _ (hn₂.sameBut hs₃ hne.symm) ?_
  intro b o hb e
  simp only [List.mem_cons, List.not_mem_nil, or_false, not_or] at hb
  exact (hs₃.2 b hb.2).trans ((hs₂.2 b hb.1).trans e)
end
end Mine
namespace Mine
open PySem PySem.W PyProof.Rows

/-- a list of letters, none of them at an address of S -/
inductive Ltrs (h : Heap) (S : List Addr) : List Value → List (Nat → Int) → Prop
  | nil : Ltrs h S [] []
  | cons {a : Addr} {c : Nat → Int} {us : List Value} {cs : List (Nat → Int)} : IsLtr h a c → Okc c → a ∉ S → Ltrs h S us cs → Ltrs h S (.ref a :: us) (c :: cs)
theorem IsLtr.kp {S : List Addr} {h h' : Heap} {a : Addr} {c : Nat → Int} (L : IsLtr h a c) (k : Kp S h h') (ha : a ∉ S) : IsLtr h' a c :=
  let ⟨t, p, i⟩ := L
  ⟨t, k.list p ha, i⟩
theorem Ltrs.mono {S : List Addr} {h h' : Heap} (k : Kp S h h') : ∀ {us : List Value} {cs : List (Nat → Int)}, Ltrs h S us cs → Ltrs h' S us cs
  | _, _, .nil => .nil
  | _, _, .cons a b c d => .cons (a.kp k c) b c (d.mono k)
theorem Ltrs.length {S : List Addr} {h : Heap} : ∀ {us : List Value} {cs : List (Nat → Int)}, Ltrs h S us cs → us.length = cs.length
  | _, _, .nil => rfl
  | _, _, .cons _ _ _ d => by simp [d.length]
theorem Ltrs.append {S : List Addr} {h : Heap} : ∀ {us us' : List Value} {cs cs' : List (Nat → Int)}, Ltrs h S us cs → Ltrs h S us' cs' → Ltrs h S (us ++ us') (cs ++ cs')
  | _, _, _, _, .nil, y => y
  | _, _, _, _, .cons a b c d, y => .cons a b c (d.append y)
theorem Ltrs.at {S : List Addr} {h : Heap} : ∀ {us : List Value} {cs : List (Nat → Int)}, Ltrs h S us cs → ∀ {i : Nat} {c : Nat → Int}, cs[i]? = some c → ∃ a, us[i]? = some (.ref a) ∧ IsLtr h a c ∧ Okc c ∧ a ∉ S
  | _, _, .cons (a := a) x y z d, 0, c, e => ⟨a, rfl, by simp at e; subst e; exact ⟨x, y, z⟩⟩
  | _, _, .cons x y z d, i + 1, c, e => by
    obtain ⟨a, h1, h2⟩ := d.at (i := i) (c := c) (by simpa using e)
    exact ⟨a, by simpa using h1, h2⟩
theorem IsLtr.some {h : Heap} {a : Addr} {c : Nat → Int} (L : IsLtr h a c) : ∃ o, h.get? a = some o := let ⟨_, p, _⟩ := L; list_some p
/-- other addresses to leave alone: new ones -/
theorem Ltrs.anew {S S' : List Addr} {h : Heap} (hS : ∀ a ∈ S', h.get? a = none) : ∀ {us : List Value} {cs : List (Nat → Int)}, Ltrs h S us cs → Ltrs h S' us cs
  | _, _, .nil => .nil
  | _, _, .cons x y z d => .cons x y (fun hm => by obtain ⟨o, e⟩ := x.some; rw [hS _ hm] at e; cases e) (d.anew hS)
theorem Ltrs.keep {S : List Addr} {h h' : Heap} (k : Keep h h') {us : List Value} {cs : List (Nat → Int)} (L : Ltrs h S us cs) : Ltrs h' S us cs := L.mono fun b o _ e => k b o e

section
variable {prog : Program} {w : World} {A : Around} {E : Value → Shared → Prop} {s : Shared} {mg mb : Str → Option Value}
theorem cwb1 {env : Env} {pos : Pos} {id : String} {e1 : Expr} {Q : Value → Shared → Prop}
    (h : wpAny (model prog w) A (spliced (backTo pos (starEach [e1] env))) (fun vs s₁ => wpAny (model prog w) A (call (.builtin id) vs) Q E s₁) E s)
    (h1 : starEach [e1] env = [(false, eval e1 env)] := by rfl) :
    wpAny (model prog w) A (callWith pos (.builtin id) [] (backTo pos (starEach [e1] env)) []) Q E s :=
  PyProof.Rows.callWith_builtin1 h (h1.trans rfl) rfl
theorem cwt1 {env : Env} {pos : Pos} {id : String} {e1 : Expr} {Q : Value → Shared → Prop}
    (h : wpAny (model prog w) A (spliced (backTo pos (starEach [e1] env))) (fun vs s₁ => wpAny (model prog w) A (call (.type id) vs) Q E s₁) E s)
    (h1 : starEach [e1] env = [(false, eval e1 env)] := by rfl) :
    wpAny (model prog w) A (callWith pos (.type id) [] (backTo pos (starEach [e1] env)) []) Q E s :=
  PyProof.Rows.callWith_type1 h (h1.trans rfl) rfl
theorem mkRange {n : Int} {t : Tok} {Q : Value → Shared → Prop} (h : ∀ h' r tk t u v, Keep s.heap h' → s.heap.get? r = none → IsRange h' r 0 n 1 t u v → Q (.ref r) { s with heap := h', toks := tk }) :
    wpAny (model prog w) A (call (.type "range") [.int n t]) Q E s :=
  call_range_1 (h _ _ _ _ _ _ (new_keep _ _) fresh_none (Heap.get?_push_size _ rfl))
theorem iterRange {n : Int} {r : Addr} {t u v : Tok} {Q : Value → Shared → Prop} (hr : IsRange s.heap r 0 n 1 t u v) (h0 : 0 ≤ n) (h1 : n < 2 ^ 62)
    (h : ∀ h' it, Keep s.heap h' → s.heap.get? it = none → IsRangeIter h' it 0 n 1 → Q (.ref it) { s with heap := h' }) : wpAny (model prog w) A (pyIter (.ref r)) Q E s := by
  refine wpAny_pyIter_range hr (small_one (by decide) (by decide) (by omega) h1) ?_
  refine h _ _ (new_keep _ _) fresh_none ?_
  have e : Builtin.Range.rangeSize 0 n 1 = n := by rw [rangeSize_one]; split <;> omega
  rw [e]
  exact Heap.get?_push_size _ rfl
theorem ifConst {env : Env} {c : Bool} {x y : Int} {k1 k2 : Nat} {p1 p2 : Pos} {Q : Value → Shared → Prop} (h : ∀ v t, (v = x ∨ v = y) → Q (.int v t) { s with toks := s.toks + 1 }) :
    if c = true then wpAny (model prog w) A (eval (.Constant (.int x) k1 p1) env) Q E s else wpAny (model prog w) A (eval (.Constant (.int y) k2 p2) env) Q E s := by
  cases c
  · exact wpAny_Constant_int (h y _ (.inr rfl))
  · exact wpAny_Constant_int (h x _ (.inl rfl))
theorem sumL {l : Addr} {vs : List Value} {ns : List Int} {Q : Value → Shared → Prop} (hh : A.handled = none) (hl : s.heap.IsList l vs.toArray) (hi : IntsAre vs ns)
    (h : ∀ h' tk t', Keep s.heap h' → Q (.int ns.sum t') { s with heap := h', toks := tk }) : wpAny (model prog w) A (call (.builtin "sum") [.ref l]) Q E s := by
  obtain ⟨xs, hx⟩ := hi.allInts.items
  have hl' : s.heap.IsList l (intItems xs) := hx ▸ hl
  refine sum_intListG hh hl' fun h' tk t' hk => ?_
  have e1 : ns = xs.toList.map (·.1) := by
    rw [← nums_intItems, ← hx]
    exact (show numsOf vs.toArray.toList = ns from hi.numsOf).symm
  have e2 : preSum (numAt xs) xs.size = ns.sum := by
    rw [preSum_eq, List.take_of_length_le (by simp), e1]
  rw [e2]
  exact h h' tk t' hk
/-- a part of a list -/
theorem sliceI {value slice : Expr} {l : Addr} {items : Array Value} {vl vu vk : Value} {lo hi st : Option Int} {ops : List Value} {Q : Value → Shared → Prop}
    (hl : s.heap.IsList l items) (pl : IsPart vl lo) (pu : IsPart vu hi) (pk : IsPart vk st) (h0 : st ≠ some 0) (hsz : items.size < 2 ^ 20)
    (hs : subscripted slice false (.ref l) (.ref s.heap.objs.size) = operate ops (getItem (.ref l) (.ref s.heap.objs.size)))
    (h : ∀ h', Keep s.heap h' → h'.PlainList (s.heap.objs.size + 1) (slicePick items lo hi st) → h'.objs.size = s.heap.objs.size + 2 → Q (.ref (s.heap.objs.size + 1)) { s with heap := h' }) :
    wpAny (model prog w) A (subscriptTail value slice (.ref l) (.ref s.heap.objs.size)) Q E { s with heap := s.heap.push { cls := .type "slice", data := .fields #[vl, vu, vk] } } := by
  have hp : (s.heap.push { cls := .type "slice", data := .fields #[vl, vu, vk] }).IsList l items := hl.push _
  refine tail_any (T := "list") (Heap.IsList.typeIs (s := { s with heap := s.heap.push { cls := .type "slice", data := .fields #[vl, vu, vk] } }) hp) list_getitem_lookup
    (wpAny_getItem_list_slice hp (Heap.IsSliceOf.new ..) pl pu pk h0 ?_ (by rw [sizeLine_eq]; omega)) hs
  have hk : Keep s.heap ((s.heap.push { cls := .type "slice", data := .fields #[vl, vu, vk] }).push { cls := .type "list", data := .seq (slicePick items lo hi st) }) :=
    fun b o e => Heap.get?_push_of_some _ (Heap.get?_push_of_some _ e)
  show Q (.ref (s.heap.push _).objs.size) _
  have e1 : (s.heap.push { cls := .type "slice", data := .fields #[vl, vu, vk] }).objs.size = s.heap.objs.size + 1 := Heap.size_push ..
  rw [e1]
  refine h _ hk ⟨0, ?_⟩ ?_
  · rw [← e1]; exact Heap.get?_push_size _ rfl
  · rw [Heap.size_push, e1]
end
noncomputable def fd139 : FuncData := Subtype.val (p := fun x => x = fdOf 139) (by
  refine ⟨?_, ?_⟩
  rotate_left
  · conv => rhs; whnf)
theorem fn139 (w : World) : (HK w).lookup 139 = some { cls := .type "function", data := .func fd139 } := by kernel_rfl

theorem cell_keep {h h' : Heap} {c : Addr} {v : Option Value} (x : h.IsCell c v) (k : Keep h h') : h'.IsCell c v := let ⟨o, g, d⟩ := x; ⟨o, k _ _ g, d⟩
theorem cell_ne_list {h : Heap} {a c : Addr} {v : Option Value} {xs : Array Value} (x : h.PlainList a xs) (y : h.IsCell c v) : a ≠ c := fun e => by
  obtain ⟨n, g⟩ := x
  obtain ⟨o, g', d⟩ := y
  rw [e, g'] at g; cases g; cases d
theorem cell_ne_ns {h : Heap} {L c : Addr} {v : Option Value} {m : Str → Option Value} (y : h.IsCell c v) (N : h.Ns L m) : c ≠ L := fun e => by
  obtain ⟨o, g', d⟩ := y
  obtain ⟨o', es, ep, g, d', _⟩ := N
  rw [e, g] at g'; cases g'; rw [d] at d'; cases d'
noncomputable def four : List (List Int) := [[3, 2, 9, 1998, 23, 5, 9, 1, 8, 0], [3, 1, 10, 1998, 7, 40, 0, 0, 1, 30], [3, 2, 9, 1998, 23, 5, 9, 1, 0, 0], [4, 4, 10, 1997, 0, 0, 0, 0, 0, 0]]
noncomputable def fourC (k : Nat) : Nat → Int := fun i => (four.getD k []).getD i 0
theorem ok0 : Okc (fourC 0) := by constructor <;> decide
theorem ok1 : Okc (fourC 1) := by constructor <;> decide
theorem ok2 : Okc (fourC 2) := by constructor <;> decide
theorem ok3 : Okc (fourC 3) := by constructor <;> decide
section
variable {prog : Program} {w : World} {A : Around} {E : Value → Shared → Prop} {s : Shared} {mg mb : Str → Option Value}
set_option maxHeartbeats 1000000 in
theorem letters_spec {S : Addr} {vs : List Value} {ns : List Int} {Q : Value → Shared → Prop} (C : Cx w mg mb s.heap) (R : Rm A 9) (hl : s.heap.IsList S vs.toArray) (hi : IntsAre vs ns) (hn : ns.length ≤ 63)
    (hQ : ∀ h' tk b us cs, Keep s.heap h' → s.heap.get? b = none → h'.PlainList b us.toArray → Ltrs h' [b] us cs → 4 ≤ cs.length → cs.length ≤ 10 → Q (.ref b) { s with heap := h', toks := tk }) :
    wpAny (model prog w) A (call (.ref 139) [.ref S]) Q E s := by
  refine enterC [(Str.ofString "script", .ref S)] C R (fn139 w) (by kernel_rfl) rfl (BindsTo.of_eq rfl) rfl ?_ ?_
  · intro x hx
    rw [List.mem_singleton] at hx
    subst hx
    exact .inr ⟨rfl, rfl⟩
  intro h1 tk1 N1 k1 C1 R1 hcell
  have c1 : h1.IsCell (s.heap.objs.size + 1) (some (.ref S)) := hcell (Str.ofString "script") _ rfl
  have c2 : h1.IsCell (s.heap.objs.size + 2) none := hcell (Str.ofString "most") _ rfl
  refine wpAny_execs_cons ?_
  refine wpAny_Assign_Name ?_
  refine List_ ?_
  refine args_cons ?_
  refine intLits (four.getD 0 []) ?_ ?_ ?_
  · kernel_rfl
  · decide
  intro h2 v2 tk2 k2 i2 n2 z2
  dsimp only at k2 n2 z2 ⊢
  refine args_cons ?_
  refine intLits (four.getD 1 []) ?_ ?_ ?_
  · kernel_rfl
  · decide
  intro h3 v3 tk3 k3 i3 n3 z3
  dsimp only at k3 n3 z3 ⊢
  refine args_nil ?_
  refine mkList ?_
  intro h4 k4 n4 z4
  dsimp only at k4 n4 z4 ⊢
  have kk4 : Keep h1 h4 := fun b o e => k4 _ _ (k3 _ _ (k2 _ _ e))
  refine stN rfl (N1.keeps kk4) ?_
  intro h5 tq5 N5 s5
  dsimp only at N5 s5 ⊢
  have q2 : h4.PlainList h1.objs.size v2.toArray := plain_keep (plain_keep n2 k3) k4
  have q3 : h4.PlainList h2.objs.size v3.toArray := plain_keep n3 k4
  have N4 := N1.keeps kk4
  have q2' : h5.PlainList h1.objs.size v2.toArray := plain_same q2 s5 (list_ne_ns q2 N4)
  have q3' : h5.PlainList h2.objs.size v3.toArray := plain_same q3 s5 (list_ne_ns q3 N4)
  have n4' : h5.PlainList h3.objs.size #[.ref h1.objs.size, .ref h2.objs.size] := plain_same n4 s5 (list_ne_ns n4 N4)
  have c1' : h5.IsCell (s.heap.objs.size + 1) (some (.ref S)) := (cell_keep c1 kk4).sameBut s5 (Nat.succ_ne_self _)
  have c2' : h5.IsCell (s.heap.objs.size + 2) none := (cell_keep c2 kk4).sameBut s5 (by show s.heap.objs.size + 2 ≠ s.heap.objs.size; omega)
  have k5 : Keep s.heap h5 := fun b o e => (s5.2 b (Nat.ne_of_lt (Heap.lt_size e))).trans (kk4 _ _ (k1 _ _ e))
  have d5 : h1.objs.size ≠ h3.objs.size ∧ h2.objs.size ≠ h3.objs.size := ⟨by omega, by omega⟩
  have nin : ∀ {h : Heap} {m : Str → Option Value} {a : Addr} {xs : Array Value} {v : Option Value}, h.PlainList a xs → h.Ns s.heap.objs.size m → h.IsCell (s.heap.objs.size + 2) v → a ≠ h3.objs.size → a ∉ [s.heap.objs.size, s.heap.objs.size + 2, h3.objs.size] :=
    fun p N c ne => nin3 (list_ne_ns p N) (cell_ne_list p c) ne
  have L5 : Ltrs h5 [s.heap.objs.size, s.heap.objs.size + 2, h3.objs.size] [.ref h1.objs.size, .ref h2.objs.size] [fourC 0, fourC 1] :=
    .cons ⟨v2, q2', i2⟩ ok0 (nin q2' N5 c2' d5.1) (.cons ⟨v3, q3', i3⟩ ok1 (nin q3' N5 c2' d5.2) .nil)
  have b5 : s.heap.get? h3.objs.size = none := fresh_of fun b o e => k3 _ _ (k2 _ _ (k1 _ _ e))
  clear n4 n2 n3 q2 q3 q2' q3' i2 i3
  refine wpAny_execs_cons ?_
  refine wpAny_AugAssign_Name ?_
  refine wpAny_loadName_local rfl rfl N5 rfl ?_
  refine List_ ?_
  refine args_cons ?_
  refine intLits (four.getD 2 []) ?_ ?_ ?_
  · kernel_rfl
  · decide
  intro h6 v6 tk6 k6 i6 n6 z6
  dsimp only at k6 n6 z6 ⊢
  refine args_cons ?_
  refine intLits (four.getD 3 []) ?_ ?_ ?_
  · kernel_rfl
  · decide
  intro h7 v7 tk7 k7 i7 n7 z7
  dsimp only at k7 n7 z7 ⊢
  refine args_nil ?_
  refine mkList ?_
  intro h8 k8 n8 z8
  dsimp only at k8 n8 z8 ⊢
  have kk8 : Keep h5 h8 := fun b o e => k8 _ _ (k7 _ _ (k6 _ _ e))
  have p6 : h8.PlainList h5.objs.size v6.toArray := plain_keep (plain_keep n6 k7) k8
  have p7 : h8.PlainList h6.objs.size v7.toArray := plain_keep n7 k8
  have N8 := N5.keeps kk8
  have c18 := cell_keep c1' kk8
  have c28 := cell_keep c2' kk8
  have b58 : h3.objs.size < h5.objs.size := let ⟨_, g⟩ := list_some n4'; Heap.lt_size g
  have L8 : Ltrs h8 [s.heap.objs.size, s.heap.objs.size + 2, h3.objs.size] [.ref h5.objs.size, .ref h6.objs.size] [fourC 2, fourC 3] :=
    .cons ⟨v6, p6, i6⟩ ok2 (nin p6 N8 c28 (Nat.ne_of_gt b58)) (.cons ⟨v7, p7, i7⟩ ok3 (nin p7 N8 c28 (Nat.ne_of_gt (Nat.lt_trans b58 (by omega)))) .nil)
  have LL8 := (L5.keep kk8).append L8
  refine iaddL (plain_keep n4' kk8) n8 (by simp) ?_
  intro h9 n9 s9
  dsimp only at n9 s9 ⊢
  have N9 := N8.sameBut s9 (fun e => list_ne_ns (plain_keep n4' kk8) N8 e.symm)
  refine stN rfl N9 ?_
  intro h10 tq10 N10 s10
  dsimp only at N10 s10 ⊢
  have K10 : Kp [s.heap.objs.size, s.heap.objs.size + 2, h3.objs.size] h8 h10 := (Kp.refl.same s9 (by simp)).same (a := s.heap.objs.size) s10 (by simp)
  have LL10 := LL8.mono K10
  have n10 : h10.PlainList h3.objs.size _ := plain_same n9 s10 (list_ne_ns n9 N9)
  have c110 : h10.IsCell (s.heap.objs.size + 1) (some (.ref S)) := (c18.sameBut s9 (fun e => cell_ne_list (plain_keep n4' kk8) c18 e.symm)).sameBut s10 (Nat.succ_ne_self _)
  have c210 : h10.IsCell (s.heap.objs.size + 2) none := (c28.sameBut s9 (fun e => cell_ne_list (plain_keep n4' kk8) c28 e.symm)).sameBut s10 (by show s.heap.objs.size + 2 ≠ s.heap.objs.size; omega)
  have k10 : Keep s.heap h10 := fun b o e => (s10.2 b (Nat.ne_of_lt (Heap.lt_size e))).trans ((s9.2 b (fun e' => by rw [e', b5] at e; cases e)).trans (kk8 _ _ (k5 _ _ e)))
  have C10 := C.keeps k10
  have hl10 : h10.IsList S vs.toArray := hl.at fun o e => k10 _ _ e
  have hlen : vs.length = ns.length := hi.length
  refine wpAny_execs_cons ?_
  refine wpAny_Assign_Name ?_
  refine IfExp_ ?_
  refine wpAny_isTrue_Compare1 ?_
  refine wpAny_BinOp ?_
  refine Call_ ?_
  refine nmB C10 (by kernel_rfl) boot_len (by decide) ?_
  refine cwb1 ?_
  refine args_cons ?_
  refine nmC c110 ?_ rfl
  refine args_nil ?_
  refine Calls.call_len_list hl10 (by rw [List.size_toArray]; omega) ?_
  refine wpAny_Constant_int ?_
  refine mod_int' (by decide) ?_
  refine wpAny_Constant_int ?_
  dsimp only
  refine eq_int ?_
  refine wpAny_truthy_bool ?_
  try dsimp only
  refine ifConst ?_
  intro most tm hmo
  have hm3 : 3 ≤ most := by rcases hmo with e | e <;> subst e <;> decide
  clear hmo
  dsimp only
  refine wpAny_storeName_cell rfl rfl rfl c210 ?_
  intro h11 c211 s11
  dsimp only at c211 s11 ⊢
  have N11 := N10.sameBut s11 (by show s.heap.objs.size ≠ s.heap.objs.size + 2; omega)
  have n11 := plain_same n10 s11 (cell_ne_list n10 c210)
  have c111 : h11.IsCell (s.heap.objs.size + 1) (some (.ref S)) := c110.sameBut s11 (by show s.heap.objs.size + 1 ≠ s.heap.objs.size + 2; omega)
  have LL11 := LL10.mono (Kp.refl.same (a := s.heap.objs.size + 2) s11 (by simp))
  have k11 : Keep s.heap h11 := fun b o e => (s11.2 b (fun e' => by have := Heap.lt_size e; rw [e'] at this; exact absurd this (by show ¬ s.heap.objs.size + 2 < s.heap.objs.size; omega))).trans (k10 _ _ e)
  have C11 := C.keeps k11
  have hl11 : h11.IsList S vs.toArray := hl.at fun o e => k11 _ _ e
  clear LL10 n10 c110 c210 C10 hl10
  refine wpAny_execs_cons ?_
  refine wpAny_Return_some ?_
  refine wpAny_BinOp ?_
  refine nmL N11 rfl ?_
  refine comp1 (cl := [(Str.ofString "script", s.heap.objs.size + 1), (Str.ofString "most", s.heap.objs.size + 2)]) ?_ ?_ ?_ ?_ ?_
  · rfl
  · decide
  · rfl
  · decide
  refine Call_ ?_
  refine nmB C11 (by kernel_rfl) boot_range (by decide) ?_
  refine cwt1 ?_
  refine args_cons ?_
  refine Call_ ?_
  refine nmB C11 (by kernel_rfl) boot_min (by decide) ?_
  refine cwb2 ?_
  refine args_cons ?_
  refine wpAny_Constant_int ?_
  refine args_cons ?_
  refine Call_ ?_
  refine nmB C11 (by kernel_rfl) boot_len (by decide) ?_
  refine cwb1 ?_
  refine args_cons ?_
  refine nmC c111 ?_ rfl
  refine args_nil ?_
  refine Calls.call_len_list hl11 (by rw [List.size_toArray]; omega) ?_
  refine args_nil ?_
  dsimp only
  refine min2 R1.hh ?_
  intro h12 tk12 t12 k12
  refine args_nil ?_
  dsimp only
  have hnn : (if ((vs.toArray.size : Nat) : Int) < 6 then ((vs.toArray.size : Nat) : Int) else 6) = ((min 6 ns.length : Nat) : Int) := by
    rw [List.size_toArray, hlen]; split <;> omega
  rw [hnn]
  refine mkRange ?_
  intro h13 r tk13 tr ur vr k13 f13 r13
  dsimp only at k13 f13 r13 ⊢
  refine iterRange r13 (by omega) (by omega) ?_
  intro h14 it k14 f14 it14
  dsimp only at k14 f14 it14 ⊢
  have kk14 : Keep h11 h14 := fun b o e => k14 _ _ (k13 _ _ (k12 _ _ e))
  intro D CC h15 tk15 k15 D15 N15 fD fC DC
  dsimp only at k15 fD fC ⊢
  have kk15 : Keep h11 h15 := fun b o e => k15 _ _ (kk14 _ _ e)
  have it15 : IsRangeIter h15 it 0 _ 1 := k15 _ _ it14
  have itD : it ≠ D := fun e => by rw [← e, it14] at fD; cases fD
  have itC : it ≠ CC := fun e => by rw [← e, it14] at fC; cases fC
  have fit11 : h11.get? it = none := by
    cases e : h11.get? it with
    | none => rfl
    | some o => rw [k13 _ _ (k12 _ _ e)] at f14; cases f14
  have fD11 : h11.get? D = none := by
    cases e : h11.get? D with
    | none => rfl
    | some o => rw [kk14 _ _ e] at fD; cases fD
  have fC11 : h11.get? CC = none := by
    cases e : h11.get? CC with
    | none => rfl
    | some o => rw [kk14 _ _ e] at fC; cases fC
  have old : ∀ b o, h11.get? b = some o → b ∉ [CC, D, it] := fun b o e => nin3 (fun e' => by rw [e', fC11] at e; cases e) (fun e' => by rw [e', fD11] at e; cases e) (fun e' => by rw [e', fit11] at e; cases e)
  have K11 : ∀ {h : Heap}, Kp [CC, D, it] h15 h → Keep h11 h := fun {h} k b o e => k b o (old b o e) (kk15 _ _ e)
  obtain ⟨Inv, hInv⟩ : ∃ Inv : Nat → Shared → Prop, ∀ k s', Inv k s' ↔ (∃ (h : Heap) (tk : Nat) (m : Str → Option Value) (i : Nat) (us : List Value) (cs : List (Nat → Int)), s' = { s with heap := h, toks := tk } ∧ h.Ns CC m ∧ h.PlainList D us.toArray ∧
      Ltrs h [CC, D, it] us cs ∧ IsRangeIter h it (i : Int) (((min 6 ns.length : Nat) : Int) - (i : Int)) 1 ∧ Kp [CC, D, it] h15 h ∧ us.length = i ∧ i + k = min 6 ns.length) := ⟨_, fun _ _ => Iff.rfl⟩
  refine ⟨Inv, min 6 ns.length,
    (hInv _ _).2 ⟨h15, tk15, _, 0, [], [], rfl, N15, D15, .nil, by simpa using it15, Kp.refl, rfl, by omega⟩, ?_, ?_⟩
  · intro E' Q' hq
    exact wpAny_pyIter_rangeiter it15 hq
  intro k s' hI0
  obtain ⟨h, tk, m, i, us, cs, rfl, N, hD, hL, hI, hK, hu, hik⟩ := (hInv _ _).1 hI0
  clear hI0
  have kh := K11 hK
  cases k with
  | zero =>
    refine wpAny_pyNext_range_end R1.hh hI (by omega) ?_
    intro h16 e16
    dsimp only
    refine ⟨m, N.extBut e16 itC.symm, ?_⟩
    intro h17 s17
    have K17 : Kp [CC, D, it] h h17 := (Kp.refl.ext e16 (by simp)).same s17 (by simp)
    have kh17 : Keep h11 h17 := fun b o e => K17 b o (old b o e) (kh _ _ e)
    have hD17 : h17.PlainList D us.toArray := plain_same (hD.extBut e16 itD.symm) s17 DC
    refine addL (plain_keep n11 kh17) hD17 (by simp; omega) ?_
    intro h18 k18 n18 z18
    dsimp only at k18 n18 z18 ⊢
    refine hQ h18 _ _ _ ([fourC 0, fourC 1] ++ [fourC 2, fourC 3] ++ cs) (fun b o e => k18 _ _ (kh17 _ _ (k11 _ _ e))) ?_ n18 ?_ ?_ ?_
    · exact fresh_of fun b o e => kh17 _ _ (k11 _ _ e)
    · have a1 := (LL11.keep kh17).anew (S' := [h17.objs.size]) (by intro a ha; rw [List.mem_singleton] at ha; subst ha; exact fresh_none)
      have a2 := (hL.mono K17).anew (S' := [h17.objs.size]) (by intro a ha; rw [List.mem_singleton] at ha; subst ha; exact fresh_none)
      exact (a1.append a2).keep k18
    · simp
    · have := hL.length
      simp; omega
  | succ k =>
    refine wpAny_pyNext_range_item hI (by omega) ?_
    intro h16 I16 s16
    dsimp only at I16 s16 ⊢
    refine wpAny_of_eq (a := ()) rfl ?_
    refine wpAny_assign_Name ?_
    refine stN rfl (N.sameBut s16 itC.symm) ?_
    intro h17 tq17 N17 s17
    dsimp only at N17 s17 ⊢
    refine hideR ?_
    intro RQ hRQ
    have K17 : Kp [CC, D, it] h h17 := (Kp.refl.same s16 (by simp)).same (a := CC) s17 (by simp)
    have kh17 : Keep h11 h17 := fun b o e => K17 b o (old b o e) (kh _ _ e)
    have C17 := C11.keeps kh17
    refine Call_ ?_
    refine nmG (v := .ref 134) C17 (by kernel_rfl) ?_
    refine callWith_def (o := { cls := .type "function", data := .func fd134 }) rfl ?_
    refine args_cons ?_
    refine Call_ ?_
    refine nmB C17 (by kernel_rfl) boot_sum (by decide) ?_
    refine cwb1 ?_
    refine args_cons ?_
    refine Subscript_ ?_
    refine nmC (cell_keep c111 kh17) ?_ rfl
    refine wpAny_Slice ?_
    refine partS ?_
    refine nmL N17 rfl ?_
    refine partN ?_
    refine partS ?_
    refine wpAny_Constant_int ?_
    dsimp only
    refine sliceI (s := ⟨_, _, _, _, _⟩) (lo := some _) (hi := none) (st := some 6) (hl11.at fun o e => kh17 _ _ e) (.int ..) .none (.int ..) (by decide) ?_ (by with_unfolding_all rfl) ?_
    · rw [List.size_toArray]; omega
    intro h18 k18 n18 z18
    dsimp only at k18 n18 z18 ⊢
    refine args_nil ?_
    refine sumL (vs := (slicePick vs.toArray (some (i : Int)) none (some 6)).toList) R1.hh (by simpa using n18.isList) (hi.pick _ _ _) ?_
    intro h19 tk19 t19 k19
    dsimp only
    have kh19 : Keep h11 h19 := fun b o e => k19 _ _ (k18 _ _ (kh17 _ _ e))
    refine args_cons ?_
    refine nmC (cell_keep c211 kh19) ?_ rfl
    refine args_nil ?_
    have C19 := C11.keeps kh19
    refine ⟨C19.k _ _ (fn134 w), ?_⟩
    refine cells_spec C19 (R1.le (by decide)) hm3 ?_
    intro h20 tk20 b vb k20 fb nb ib
    dsimp only at k20 fb ⊢
    have N20 : h20.Ns CC _ := ((N17.keeps k18).keeps k19).keeps k20
    have K20 : Kp [CC, D, it] h h20 := ((K17.keep k18).keep k19).keep k20
    have hD17 : h17.PlainList D us.toArray := plain_same (plain_same hD s16 itD.symm) s17 DC
    have hD19 : h19.PlainList D us.toArray := plain_keep (plain_keep hD17 k18) k19
    refine hRQ _ _ ?_
    refine appendPlain (plain_keep hD19 k20) (by omega) ?_
    intro h21 D21 s21
    dsimp only at D21 s21 ⊢
    obtain ⟨c, ec, okc⟩ := cells_ok (x := (pickNums ns (some (i : Int)) none (some 6)).sum) hm3
    rw [ec] at ib
    have it19 : ∃ o, h19.get? it = some o := ⟨_, k19 _ _ (k18 _ _ ((s17.2 _ itC).trans I16))⟩
    have bN : b ∉ [CC, D, it] := nin3 (fun e => by obtain ⟨o, g⟩ := ns_some ((N17.keeps k18).keeps k19); exact ne_fresh fb g e) (fun e => by obtain ⟨o, g⟩ := list_some hD19; exact ne_fresh fb g e) (fun e => by obtain ⟨o, g⟩ := it19; exact ne_fresh fb g e)
    have K21 : Kp [CC, D, it] h20 h21 := Kp.refl.same s21 (by simp)
    refine ⟨k, by omega, (hInv _ _).2 ⟨h21, _, _, i + 1, us ++ [.ref b], cs ++ [c], rfl, N20.sameBut s21 (fun e => DC e.symm), D21, ?_, ?_, ?_, by simp [hu], by omega⟩⟩
    · exact ((hL.mono K20).append (.cons ⟨vb, nb, ib⟩ okc bN .nil)).mono K21
    · have g20 : IsRangeIter h20 it _ _ 1 := k20 _ _ (k19 _ _ (k18 _ _ ((s17.2 _ itC).trans I16)))
      have g21 : IsRangeIter h21 it _ _ 1 := (s21.2 _ itD).trans g20
      have e1 : ((i + 1 : Nat) : Int) = (i : Int) + 1 := by omega
      have e2 : ((min 6 ns.length : Nat) : Int) - ((i + 1 : Nat) : Int) = ((min 6 ns.length : Nat) : Int) - (i : Int) - 1 := by omega
      rw [e2, e1]; exact g21
    · exact hK.trans (K20.trans K21)
end
end Mine
namespace Mine
open PySem PySem.W PyProof.Rows PySem.Builtin PySem.Builtin.Str PySem.StrLaws

theorem sw_like {x y : Str} {l : Nat} (hl : x.length = y.length) (h : ∀ i, Unicode.isSpace (x.cps.getD i 0) = Unicode.isSpace (y.cps.getD i 0)) : spaceWords x l = spaceWords y l := by
  rw [sw_eq, sw_eq, hl]
  have e : swBody x l = swBody y l := by
    funext i st
    unfold swBody
    rw [h i, hl]
  rw [e]
  unfold swEnd
  rw [hl]

/-- the text of a letter, sign by sign -/
noncomputable def tx (w0 w1 w2 m0 m1 m2 d y h mi s zs z : Nat) : List Nat :=
  [w0, w1, w2, 44, 32, 48 + d / 10 % 10, 48 + d % 10, 32, m0, m1, m2, 32, 48 + y / 10 / 10 / 10 % 10, 48 + y / 10 / 10 % 10, 48 + y / 10 % 10, 48 + y % 10, 32,
    48 + h / 10 % 10, 48 + h % 10, 58, 48 + mi / 10 % 10, 48 + mi % 10, 58, 48 + s / 10 % 10, 48 + s % 10, 32, zs, 48 + z / 10 / 10 / 10 % 10, 48 + z / 10 / 10 % 10, 48 + z / 10 % 10, 48 + z % 10]
theorem digit_space : ∀ k, k < 10 → Unicode.isSpace (48 + k) = false := by decide +kernel
noncomputable def likeT : Str := ⟨#[65, 65, 65, 44, 32, 48, 48, 32, 65, 65, 65, 32, 48, 48, 48, 48, 32, 48, 48, 58, 48, 48, 58, 48, 48, 32, 43, 48, 48, 48, 48]⟩
theorem sw_likeT : spaceWords likeT 32 = [(0, 4), (5, 7), (8, 11), (12, 16), (17, 25), (26, 31)] := by decide +kernel
theorem dsp (n : Nat) : Unicode.isSpace (48 + n % 10) = false := digit_space _ (Nat.mod_lt _ (by decide))
theorem sw_tx {w0 w1 w2 m0 m1 m2 d y h mi s zs z : Nat} (a0 : Unicode.isSpace w0 = false) (a1 : Unicode.isSpace w1 = false) (a2 : Unicode.isSpace w2 = false)
    (b0 : Unicode.isSpace m0 = false) (b1 : Unicode.isSpace m1 = false) (b2 : Unicode.isSpace m2 = false) (c0 : Unicode.isSpace zs = false) :
    spaceWords ⟨(tx w0 w1 w2 m0 m1 m2 d y h mi s zs z).toArray⟩ 32 = [(0, 4), (5, 7), (8, 11), (12, 16), (17, 25), (26, 31)] := by
  rw [← sw_likeT]
  refine sw_like rfl ?_
  intro i
  have f : Unicode.isSpace 48 = false := by decide +kernel
  have g : Unicode.isSpace 65 = false := by decide +kernel
  have e43 : Unicode.isSpace 43 = false := by decide +kernel
  match i with
  | 0 => exact a0.trans g.symm
  | 1 => exact a1.trans g.symm
  | 2 => exact a2.trans g.symm
  | 3 | 4 | 7 | 11 | 16 | 19 | 22 | 25 => rfl
  | 5 | 6 | 12 | 13 | 14 | 15 | 17 | 18 | 20 | 21 | 23 | 24 | 27 | 28 | 29 | 30 => exact (dsp _).trans f.symm
  | 8 => exact b0.trans g.symm
  | 9 => exact b1.trans g.symm
  | 10 => exact b2.trans g.symm
  | 26 => exact c0.trans e43.symm
  | n + 31 => rfl
end Mine
namespace Mine
open PySem PySem.W PyProof.Rows
section
variable {prog : Program} {w : World} {A : Around} {E : Value → Shared → Prop}
theorem draw_list {it t : Addr} {items : Array Value} (hne : t ≠ it) : ∀ (n i : Nat) (s : Shared) (Q : List Value → Shared → Prop), s.heap.IsListIter it t i → s.heap.PlainList t items → i + n ≤ items.size →
    (∀ h', h'.IsListIter it t (i + n) → Heap.SameBut it s.heap h' → Q ((items.toList.drop i).take n) { s with heap := h' }) → wpAny (model prog w) A (draw (.ref it) n) Q E s
  | 0, i, s, Q, hit, _, _, hQ => by
    show wpAny _ _ (pure []) Q E s
    exact wpAny_pure (by simpa using hQ s.heap hit (Heap.SameBut.refl ..))
  | n + 1, i, s, Q, hit, ht, hle, hQ => by
    have hlt : i < items.size := by omega
    show wpAny _ _ (pyNext (.ref it) >>= _) Q E s
    refine wpAny_bind (wpAny_pyNext_list_item hit ht.isList (x := items[i]) (by simp [hlt]) fun h₁ hit₁ hs₁ => ?_)
    refine wpAny_bind (wpAny_holding (draw_list hne n (i + 1) _ _ hit₁ (plain_same ht hs₁ hne) (by omega) fun h₂ hit₂ hs₂ => wpAny_pure ?_))
    have hd : items.toList.drop i = items[i] :: items.toList.drop (i + 1) := by simp [List.drop_eq_getElem_cons, hlt]
    have := hQ h₂ (by rw [show i + (n + 1) = i + 1 + n by omega]; exact hit₂) (hs₁.trans hs₂)
    rw [hd, List.take_succ_cons] at this
    exact this
variable {s : Shared}
theorem unpackItems_list {t : Addr} {items : Array Value} {Q : List Value → Shared → Prop} (hh : A.handled = none) (ht : s.heap.PlainList t items)
    (hQ : ∀ h', Keep s.heap h' → Q items.toList { s with heap := h' }) : wpAny (model prog w) A (unpackItems (.ref t) items.size none) Q E s := by
  have hlt : t ≠ s.heap.objs.size := ne_size (list_some ht)
  unfold unpackItems
  refine wpAny_bind ?_
  · unfold notIterableAtAll
    refine wpAny_bind (wpAny_specialOf ht.isList.typeIs slot_list_iter.lookup ?_)
    refine wpAny_pure ?_
    simp only [Bool.false_eq_true, if_false]
    refine wpAny_bind (wpAny_holding (wpAny_pyIter_list ht.isList ?_))
    refine wpAny_bind (wpAny_holding (draw_list hlt items.size 0 _ _ ⟨_, Heap.get?_push_size _ rfl, rfl, rfl⟩ (plain_keep ht (new_keep _ _)) (by omega) fun h₁ hit₁ hs₁ => ?_))
    have hall : List.take items.size (List.drop 0 items.toList) = items.toList := by
      rw [List.drop_zero]; exact List.take_of_length_le (by simp)
    rw [hall]
    rw [if_neg (by simp)]
    have ht₁ : h₁.PlainList t items := plain_same (plain_keep ht (new_keep _ _)) hs₁ hlt
    refine wpAny_bind (wpAny_holding (wpAny_pyNext_list_end hh hit₁ ht₁.isList (by simp) fun h₂ he₂ => ?_))
    simp only [Option.isSome_none, Bool.false_eq_true, if_false]
    refine wpAny_pure (hQ h₂ fun b o e => ?_)
    have hb : b ≠ s.heap.objs.size := Nat.ne_of_lt (Heap.lt_size e)
    exact he₂ b o hb (hs₁.extBut b o hb (Heap.get?_push_of_some _ e))
theorem assign_List_list {env : Env} {elts : List Expr} {pos : Pos} {t : Addr} {items : Array Value} {Q : Unit → Shared → Prop} (hh : A.handled = none) (ht : s.heap.PlainList t items)
    (hn : (assignEach elts env).length = items.size) (hstar : (assignEach elts env).findIdx? (·.1) = none)
    (h : ∀ h', Keep s.heap h' → wpAny (model prog w) A (assignInOrder ((assignEach elts env).map (·.2)) items.toList) Q E { s with heap := h' }) :
    wpAny (model prog w) A (assign (.List elts pos) env (.ref t)) Q E s := by
  rw [PyProof.Rows.assign_List]
  refine wpAny_bind (wpAny_standAt ?_)
  unfold unpack
  rw [hn, hstar]
  exact wpAny_bind (wpAny_holding (unpackItems_list hh ht h))
end
end Mine
namespace Mine
open PySem PySem.W PyProof.Rows PySem.Builtin PySem.Builtin.Str PySem.StrLaws

theorem occ_like {x y sub : Str} {lo hi limit : Nat} (h : ∀ i, subAt x sub i = subAt y sub i) : occurrences x sub lo hi limit = occurrences y sub lo hi limit := by
  rw [occ_eq, occ_eq]
  have e : occBody x sub hi limit = occBody y sub hi limit := by
    funext i st
    unfold occBody
    rw [h i]
  rw [e]
noncomputable abbrev D2 (n : Nat) : Str := ⟨#[48 + n / 10 % 10, 48 + n % 10]⟩
noncomputable abbrev D4 (n : Nat) : Str := ⟨#[48 + n / 10 / 10 / 10 % 10, 48 + n / 10 / 10 % 10, 48 + n / 10 % 10, 48 + n % 10]⟩
theorem dig10 (n : Nat) : 48 ≤ 48 + n % 10 ∧ 48 + n % 10 ≤ 57 := by omega
theorem int_two (n : Nat) (h : n < 100) : PySem.intText? (D2 n) = some (n : Int) := by
  have e := intText_digits (x := D2 n) (by
    intro c hc
    simp only [List.mem_cons, List.not_mem_nil, or_false] at hc
    rcases hc with rfl | rfl <;> exact dig10 _) (by simp) (by show 2 ≤ 4300; decide)
  rw [e]
  congr 2
  show ((0 * 10 + (48 + n / 10 % 10 - 48)) * 10 + (48 + n % 10 - 48)) = n
  omega
theorem int_four {n : Nat} (h : n < 10000) : PySem.intText? (D4 n) = some (n : Int) := by
  have e := intText_digits (x := D4 n) (by
    intro c hc
    simp only [List.mem_cons, List.not_mem_nil, or_false] at hc
    rcases hc with rfl | rfl | rfl | rfl <;> exact dig10 _) (by simp) (by show 4 ≤ 4300; decide)
  rw [e]
  congr 2
  show ((((0 * 10 + (48 + n / 10 / 10 / 10 % 10 - 48)) * 10 + (48 + n / 10 / 10 % 10 - 48)) * 10 + (48 + n / 10 % 10 - 48)) * 10 + (48 + n % 10 - 48)) = n
  omega
noncomputable abbrev ZS (zs n : Nat) : Str := ⟨#[zs, 48 + n / 10 / 10 / 10 % 10, 48 + n / 10 / 10 % 10, 48 + n / 10 % 10, 48 + n % 10]⟩
theorem int_neg {n : Nat} (h : n < 10000) : PySem.intText? (ZS 45 n) = some (-(n : Int)) := by
  have e := intText_neg (x := ZS 45 n) (cs := (D4 n).cps.toList) rfl (by
    intro c hc
    simp only [List.mem_cons, List.not_mem_nil, or_false] at hc
    rcases hc with rfl | rfl | rfl | rfl <;> exact dig10 _) (by simp) (by show 5 ≤ 4300; decide)
  rw [e]
  congr 3
  show ((((0 * 10 + (48 + n / 10 / 10 / 10 % 10 - 48)) * 10 + (48 + n / 10 / 10 % 10 - 48)) * 10 + (48 + n / 10 % 10 - 48)) * 10 + (48 + n % 10 - 48)) = n
  omega
theorem intText_plus {x : Str} {cs : List Nat} (hx : x.cps.toList = 43 :: cs) (h : NumText.AllDigits cs) (h1 : cs ≠ []) (h2 : x.length ≤ 4300) : PySem.intText? x = some ((NumText.digitsVal cs : Nat) : Int) := by
  have hs : ∀ c ∈ x.cps.toList, c = 43 ∨ (48 ≤ c ∧ c ≤ 57) := by
    rw [hx]
    intro c hc
    rcases List.mem_cons.mp hc with e | hc
    · exact Or.inl e
    · exact Or.inr (h c hc)
  have e1 : PySem.numTextOf x = x.cps.toList := by
    refine if_pos ?_
    rw [← Array.all_toList, List.all_eq_true]
    intro c hc
    have := hs c hc
    exact decide_eq_true (by omega)
  have e2 : PySem.numSeenOf x = x.cps.toList := by
    show (PySem.numTextOf x).takeWhile _ = _
    rw [e1]
    refine NumText.takeWhile_all fun c hc => ?_
    have := hs c hc
    exact bne_iff_ne.mpr (by omega)
  have hl : x.cps.toList.length = x.length := Array.length_toList
  have ei : PySem.intText? x = match NumText.digits? 10 (NumText.core x.cps.toList) with
      | some ds => if ds.size ≤ 4300 then some (NumText.worth (NumText.sign (x.cps.toList.dropWhile NumText.blank)).1 ds) else none
      | none => none := by
    unfold PySem.intText?
    rw [e1, e2]
    exact if_pos (beq_self_eq_true _)
  rw [ei, hx]
  rw [hx, List.length_cons] at hl
  have es : NumText.sign ((43 :: cs).dropWhile NumText.blank) = (false, cs) := by rw [NumText.dropWhile_of (by decide)]; rfl
  have ec : NumText.core (43 :: cs) = cs := by
    unfold NumText.core
    rw [es]
    show (cs.reverse.dropWhile NumText.blank).reverse = cs
    rw [NumText.dropWhile_digits h.reverse, List.reverse_reverse]
  rw [ec, es, NumText.digits_of h h1]
  have hsz := NumText.push_size cs #[]
  have hv := NumText.push_foldl cs #[]
  show (if _ ≤ 4300 then some (NumText.worth false _) else none) = _
  rw [if_pos (by rw [hsz]; simp only [Array.size_empty]; omega)]
  unfold NumText.worth NumText.digitsVal
  rw [hv]
  rfl
theorem int_pos (n : Nat) (h : n < 2400) : PySem.intText? (ZS 43 n) = some (n : Int) := by
  have e := intText_plus (x := ZS 43 n) (cs := (D4 n).cps.toList) rfl (by
    intro c hc
    simp only [List.mem_cons, List.not_mem_nil, or_false] at hc
    rcases hc with rfl | rfl | rfl | rfl <;> exact dig10 _) (by simp) (by show 5 ≤ 4300; decide)
  rw [e]
  congr 2
  show ((((0 * 10 + (48 + n / 10 / 10 / 10 % 10 - 48)) * 10 + (48 + n / 10 / 10 % 10 - 48)) * 10 + (48 + n / 10 % 10 - 48)) * 10 + (48 + n % 10 - 48)) = n
  omega
end Mine
namespace Mine
open PySem PySem.W PyProof.Rows PySem.Builtin PySem.Builtin.Str PySem.StrLaws
noncomputable abbrev TM (h mi s : Nat) : Str := ⟨#[48 + h / 10 % 10, 48 + h % 10, 58, 48 + mi / 10 % 10, 48 + mi % 10, 58, 48 + s / 10 % 10, 48 + s % 10]⟩
noncomputable abbrev W4 (a b c : Nat) : Str := ⟨#[a, b, c, 44]⟩
noncomputable abbrev W3 (a b c : Nat) : Str := ⟨#[a, b, c]⟩
theorem ends_w (a b c : Nat) : Txt.endswith (W4 a b c) (Str.ofString ",") = true := by rfl
theorem item_d2 (n : Nat) : Txt.item (D2 n) (-1) = ⟨#[48 + n % 10]⟩ := by rfl
theorem item_d4 (n : Nat) : Txt.item (D4 n) (-1) = ⟨#[48 + n % 10]⟩ := by rfl
theorem item_d40 (n : Nat) : Txt.item (D4 n) 0 = ⟨#[48 + n / 10 / 10 / 10 % 10]⟩ := by rfl
theorem item_tm (h mi s : Nat) : Txt.item (TM h mi s) (-1) = ⟨#[48 + s % 10]⟩ := by rfl
theorem no_comma (n : Nat) : ((⟨#[48 + n % 10]⟩ : Str) == Str.ofString ",") = false := by
  have h : ∀ k, k < 10 → ((⟨#[48 + k]⟩ : Str) == Str.ofString ",") = false := by decide +kernel
  exact h _ (Nat.mod_lt _ (by decide))
theorem isdig (n : Nat) : Txt.isdigit ⟨#[48 + n % 10]⟩ = true := by
  have h : ∀ k, k < 10 → Txt.isdigit ⟨#[48 + k]⟩ = true := by decide +kernel
  exact h _ (Nat.mod_lt _ (by decide))
theorem starts_p (n : Nat) : Txt.startswith (ZS 43 n) (Str.ofString "-") = false := by rfl
theorem starts_n (n : Nat) : Txt.startswith (ZS 45 n) (Str.ofString "-") = true := by rfl
theorem sub1 (x : Str) (c i : Nat) : subAt x ⟨#[c]⟩ i = (x.cps.toList[i]? == some c) := by
  rw [subAt_eq]
  show (List.take 1 (List.drop i x.cps.toList) == [c]) = _
  have : ∀ (l : List Nat) (i : Nat), (List.take 1 (List.drop i l) == [c]) = (l[i]? == some c) := by
    intro l
    induction l with
    | nil => intro i; simp
    | cons a l ih =>
      intro i
      cases i with
      | zero => simp
      | succ i => simpa using ih i
  exact this _ _
theorem no58 (n : Nat) : (some (48 + n % 10) == some 58) = false := by
  have h : ∀ k, k < 10 → (some (48 + k) == some 58) = false := by decide +kernel
  exact h _ (Nat.mod_lt _ (by decide))
theorem occ_year (n : Nat) : occurrences (D4 n) ⟨#[58]⟩ 0 4 1 = [] := by
  have e : occurrences (D4 n) ⟨#[58]⟩ 0 4 1 = occurrences ⟨#[48, 48, 48, 48]⟩ ⟨#[58]⟩ 0 4 1 := by
    apply occ_like
    intro i
    rw [sub1, sub1]
    match i with
    | 0 | 1 | 2 | 3 => exact (no58 _).trans rfl
    | n + 4 => rfl
  rw [e]
  decide +kernel
theorem find_year (n : Nat) : Txt.find (D4 n) (Str.ofString ":") = -1 := by
  show (match occurrences (D4 n) ⟨#[58]⟩ 0 4 1 with | i :: _ => (i : Int) | [] => -1) = -1
  rw [occ_year]
theorem occ_tm (h mi s : Nat) : occurrences (TM h mi s) ⟨#[58]⟩ 0 8 9 = [2, 5] := by
  have e : occurrences (TM h mi s) ⟨#[58]⟩ 0 8 9 = occurrences ⟨#[48, 48, 58, 48, 48, 58, 48, 48]⟩ ⟨#[58]⟩ 0 8 9 := by
    apply occ_like
    intro i
    rw [sub1, sub1]
    match i with
    | 0 | 1 | 3 | 4 | 6 | 7 => exact (no58 _).trans rfl
    | 2 | 5 => rfl
    | n + 8 => rfl
  rw [e]
  decide +kernel
theorem parts_tm (h mi s : Nat) : partsBetween (TM h mi s) (occurrences (TM h mi s) (Str.ofString ":") 0 (TM h mi s).length ((TM h mi s).length + 1)) (Str.ofString ":").length = [D2 h, D2 mi, D2 s] := by
  show partsBetween (TM h mi s) (occurrences (TM h mi s) ⟨#[58]⟩ 0 8 9) 1 = _
  rw [occ_tm]
  rfl
theorem up_dig : ∀ k, k < 10 → Unicode.upperOf (48 + k) = [48 + k] := by decide +kernel
theorem up_d (n : Nat) : Unicode.upperOf (48 + n % 10) = [48 + n % 10] := up_dig _ (Nat.mod_lt _ (by decide))
theorem up_z {zs : Nat} (hz : zs = 43 ∨ zs = 45) (n : Nat) : Txt.upper (ZS zs n) = ZS zs n := by
  have hu : Unicode.upperOf zs = [zs] := by rcases hz with rfl | rfl <;> decide +kernel
  unfold Txt.upper placed
  congr 1
  show (#[(Unicode.upperOf zs).toArray, (Unicode.upperOf (48 + n / 10 / 10 / 10 % 10)).toArray, (Unicode.upperOf (48 + n / 10 / 10 % 10)).toArray, (Unicode.upperOf (48 + n / 10 % 10)).toArray, (Unicode.upperOf (48 + n % 10)).toArray] : Array (Array Nat)).flatten = _
  rw [hu, up_d, up_d, up_d, up_d]
  rfl
noncomputable def moN : List Str := [Str.ofString "jan", Str.ofString "feb", Str.ofString "mar", Str.ofString "apr", Str.ofString "may", Str.ofString "jun", Str.ofString "jul", Str.ofString "aug", Str.ofString "sep", Str.ofString "oct", Str.ofString "nov", Str.ofString "dec",
  Str.ofString "january", Str.ofString "february", Str.ofString "march", Str.ofString "april", Str.ofString "may", Str.ofString "june", Str.ofString "july", Str.ofString "august", Str.ofString "september", Str.ofString "october", Str.ofString "november", Str.ofString "december"]
theorem lower_mo : ∀ k, k < 12 → Txt.lower (moS.getD k Str.empty) = moN.getD k Str.empty := by decide +kernel
theorem in_mo : ∀ k, k < 12 → moN.any (· == moN.getD k Str.empty) = true := by decide +kernel
theorem idx_mo : ∀ k, k < 12 → ∀ j, j < k → moN.getD j Str.empty ≠ moN.getD k Str.empty := by decide +kernel
/-- the words of the text -/
theorem words_tx {w0 w1 w2 m0 m1 m2 d y h mi s zs z : Nat} (a0 : Unicode.isSpace w0 = false) (a1 : Unicode.isSpace w1 = false) (a2 : Unicode.isSpace w2 = false)
    (b0 : Unicode.isSpace m0 = false) (b1 : Unicode.isSpace m1 = false) (b2 : Unicode.isSpace m2 = false) (c0 : Unicode.isSpace zs = false) :
    PySem.wordsOf ⟨(tx w0 w1 w2 m0 m1 m2 d y h mi s zs z).toArray⟩ = [W4 w0 w1 w2, D2 d, W3 m0 m1 m2, D4 y, TM h mi s, ZS zs z] := by
  unfold PySem.wordsOf
  show List.map _ (spaceWords ⟨(tx w0 w1 w2 m0 m1 m2 d y h mi s zs z).toArray⟩ 32) = _
  rw [sw_tx a0 a1 a2 b0 b1 b2 c0]
  rfl
end Mine
namespace Mine
open PySem PySem.W PyProof.Rows PySem.Builtin PySem.Builtin.Str PySem.StrLaws

theorem strsAre_from : ∀ (k : Nat) (ws : List Str), StrsAre (strsFrom k ws) ws
  | _, [] => .nil
  | k, x :: r => .cons x k (strsAre_from (k + 1) r)
section
variable {prog : Program} {w : World} {A : Around} {E : Value → Shared → Prop} {s : Shared} {x y : Str} {t u : Tok} {Q : Value → Shared → Prop}
theorem methStr {name : Str} {id : String} {pl : Sem Bool} {Q : Value × List Value → Shared → Prop} (slot : Slot "str" name id) (hty : typeOf (.builtin id) = pure (.type "method_descriptor"))
    (h : Q (.builtin id, [.str x t]) s) : wpAny (model prog w) A (getMethod (.str x t) name pl) Q E s :=
  getMethod_builtin (typeIs_str _ _ _) PySem.F.plainAttrs_str slot hty (fun _ e => nomatch e) h
theorem m_split {pl : Sem Bool} {Q : Value × List Value → Shared → Prop} (h : Q (.builtin "str.split", [.str x t]) s) : wpAny (model prog w) A (getMethod (.str x t) (Str.ofString "split") pl) Q E s := by
  with_reducible exact methStr PySem.F.slot_str_split PySem.F.type_str_split h
theorem m_endswith {pl : Sem Bool} {Q : Value × List Value → Shared → Prop} (h : Q (.builtin "str.endswith", [.str x t]) s) : wpAny (model prog w) A (getMethod (.str x t) (Str.ofString "endswith") pl) Q E s := by
  with_reducible exact methStr PySem.F.slot_str_endswith PySem.F.type_str_endswith h
theorem m_lower {pl : Sem Bool} {Q : Value × List Value → Shared → Prop} (h : Q (.builtin "str.lower", [.str x t]) s) : wpAny (model prog w) A (getMethod (.str x t) (Str.ofString "lower") pl) Q E s := by
  with_reducible exact methStr PySem.F.slot_str_lower PySem.F.type_str_lower h
theorem m_find {pl : Sem Bool} {Q : Value × List Value → Shared → Prop} (h : Q (.builtin "str.find", [.str x t]) s) : wpAny (model prog w) A (getMethod (.str x t) (Str.ofString "find") pl) Q E s := by
  with_reducible exact methStr PySem.F.slot_str_find PySem.F.type_str_find h
theorem m_isdigit {pl : Sem Bool} {Q : Value × List Value → Shared → Prop} (h : Q (.builtin "str.isdigit", [.str x t]) s) : wpAny (model prog w) A (getMethod (.str x t) (Str.ofString "isdigit") pl) Q E s := by
  with_reducible exact methStr PySem.F.slot_str_isdigit PySem.F.type_str_isdigit h
theorem m_upper {pl : Sem Bool} {Q : Value × List Value → Shared → Prop} (h : Q (.builtin "str.upper", [.str x t]) s) : wpAny (model prog w) A (getMethod (.str x t) (Str.ofString "upper") pl) Q E s := by
  with_reducible exact methStr PySem.F.slot_str_upper PySem.F.type_str_upper h
theorem m_startswith {pl : Sem Bool} {Q : Value × List Value → Shared → Prop} (h : Q (.builtin "str.startswith", [.str x t]) s) : wpAny (model prog w) A (getMethod (.str x t) (Str.ofString "startswith") pl) Q E s := by
  with_reducible exact methStr PySem.F.slot_str_startswith PySem.F.type_str_startswith h
theorem cLower (hfit : tooLong (Txt.lower x).length = false) (h : Q (.str (Txt.lower x) s.toks) { s with toks := s.toks + 1 }) : wpAny (model prog w) A (call (.builtin "str.lower") [.str x t]) Q E s :=
  call_gives PySem.F.slot_str_lower (typeIs_str _ _ _) PySem.F.entry_str_lower (PySem.F.args_str_lower_1 _) (gives_str_lower x t hfit) ⟨fit_le hfit, h⟩
theorem cUpper (hfit : tooLong (Txt.upper x).length = false) (h : Q (.str (Txt.upper x) s.toks) { s with toks := s.toks + 1 }) : wpAny (model prog w) A (call (.builtin "str.upper") [.str x t]) Q E s :=
  call_gives PySem.F.slot_str_upper (typeIs_str _ _ _) PySem.F.entry_str_upper (PySem.F.args_str_upper_1 _) (gives_str_upper x t hfit) ⟨fit_le hfit, h⟩
theorem cDigit (h : Q (.bool (Txt.isdigit x)) s) : wpAny (model prog w) A (call (.builtin "str.isdigit") [.str x t]) Q E s :=
  call_gives PySem.F.slot_str_isdigit (typeIs_str _ _ _) PySem.F.entry_str_isdigit (PySem.F.args_str_isdigit_1 _) (gives_str_isdigit x t) h
theorem cStarts (h : Q (.bool (Txt.startswith x y)) s) : wpAny (model prog w) A (call (.builtin "str.startswith") [.str x t, .str y u]) Q E s :=
  call_gives PySem.F.slot_str_startswith (typeIs_str _ _ _) PySem.F.entry_str_startswith (PySem.F.args_str_startswith_2 _ _) (gives_str_startswith x y t u) h
theorem cEnds (h : Q (.bool (Txt.endswith x y)) s) : wpAny (model prog w) A (call (.builtin "str.endswith") [.str x t, .str y u]) Q E s :=
  call_gives PySem.F.slot_str_endswith (typeIs_str _ _ _) PySem.F.entry_str_endswith (PySem.F.args_str_endswith_2 _ _) (gives_str_endswith x y t u) h
theorem cFind (h : Q (.int (Txt.find x y) s.toks) { s with toks := s.toks + 1 }) : wpAny (model prog w) A (call (.builtin "str.find") [.str x t, .str y u]) Q E s :=
  call_gives PySem.F.slot_str_find (typeIs_str _ _ _) PySem.F.entry_str_find (PySem.F.args_str_find_2 _ _) (gives_str_find x y t u) h
theorem cSplit {ws : List Str} (hw : PySem.wordsOf x = ws) (hx : x.length ≤ 1000) (hn : 2 ≤ ws.length ∧ ws.length ≤ 1000)
    (h : ∀ h' tk vs, Keep s.heap h' → StrsAre vs ws → h'.PlainList s.heap.objs.size vs.toArray → Q (.ref s.heap.objs.size) { s with heap := h', toks := tk }) : wpAny (model prog w) A (call (.builtin "str.split") [.str x t]) Q E s := by
  have hl : (spaceWords x (x.length + 1)).length = ws.length := by rw [← hw]; unfold PySem.wordsOf; rw [List.length_map]
  refine call_meets PySem.F.slot_str_split (typeIs_str _ _ _) PySem.F.entry_str_split (PySem.F.args_str_split_1 _) (meets_str_split_space x t (by rw [sizeLine_eq]; omega) (by rw [sizeLine_eq]; omega)) ?_
  rw [if_neg]
  · rw [hw]
    exact h _ _ _ (new_keep _ _) (strsAre_from _ _) (new_list _ _)
  · intro hb
    have := eq_of_beq hb
    rw [this] at hl
    simp at hl
    omega
theorem cSplitC {ws : List Str} (hw : partsBetween x (occurrences x y 0 x.length (x.length + 1)) y.length = ws) (h1 : (decide (x.length < y.length) || decide (Builtin.Str.strKind x < Builtin.Str.strKind y)) = false) (hy : (y.length == 0) = false)
    (hx : x.length ≤ 1000) (hn : 2 ≤ ws.length ∧ ws.length ≤ 1000)
    (h : ∀ h' tk vs, Keep s.heap h' → StrsAre vs ws → h'.PlainList s.heap.objs.size vs.toArray → Q (.ref s.heap.objs.size) { s with heap := h', toks := tk }) : wpAny (model prog w) A (call (.builtin "str.split") [.str x t, .str y u]) Q E s := by
  refine call_meets PySem.F.slot_str_split (typeIs_str _ _ _) PySem.F.entry_str_split (PySem.F.args_str_split_2 _ _) (meets_str_split_sep x y t u h1 hy ?_ (by rw [sizeLine_eq]; omega) (by rw [hw, sizeLine_eq]; omega)) ?_
  · cases he : occurrences x y 0 x.length (x.length + 1) with
    | cons a b => rfl
    | nil =>
      rw [he] at hw
      rw [← hw] at hn
      have := hn.1
      simp [partsBetween] at this
  · rw [hw]
    exact h _ _ _ (new_keep _ _) (strsAre_from _ _) (new_list _ _)
theorem cIndex {l : Addr} {vs : List Value} {ys : List Str} {k : Str} {j : Nat} (hl : s.heap.PlainList l vs.toArray) (hi : StrsAre vs ys) (hj : j < ys.length) (hz : ys.length ≤ 1000)
    (hit : ys[j]? = some k) (hno : ∀ m, m < j → ys[m]? ≠ some k) (h : Q (.int j s.toks) { s with toks := s.toks + 1 }) : wpAny (model prog w) A (call (.builtin "list.index") [.ref l, .str k t]) Q E s := by
  obtain ⟨n, ho⟩ := hl
  have hlen : vs.length = ys.length := hi.length
  refine call_meets PySem.F.slot_list_index ⟨_, ho, rfl⟩ PySem.F.entry_list_index (PySem.F.args_list_index_2 _ _) (MeetsSeq.list_index l _ n _ (isStrOf k) (fun y hy => eq_isStrOf k t hi y (by simpa using hy)) j (by simp; omega) (by omega) ?_ ?_) ⟨ho, h⟩
  · obtain ⟨t', ht⟩ := hi.at hit
    have : vs.toArray[j]'(by simp; omega) = .str k t' := by
      have hlt : j < vs.length := by omega
      rw [List.getElem?_eq_getElem hlt] at ht
      simpa using Option.some.inj ht
    rw [this]; show (k == k) = true; simp
  · intro m hm hmj
    have hlt : m < vs.length := by simpa using hm
    have hly : m < ys.length := by omega
    obtain ⟨t', ht⟩ := hi.at (List.getElem?_eq_getElem hly)
    have : vs.toArray[m]'hm = .str (ys[m]) t' := by
      rw [List.getElem?_eq_getElem hlt] at ht
      simpa using Option.some.inj ht
    rw [this]; show (ys[m] == k) = false
    have := hno m hmj
    rw [List.getElem?_eq_getElem hly] at this
    exact beq_eq_false_iff_ne.mpr fun e => this (by rw [e])
end
theorem mon15 (w : World) : ∃ vs n, (HK w).lookup 15 = some { cls := .type "list", data := .seq (List.toArray vs) n } ∧ StrsAre vs moN := by
  dsimp only [HK, hd.heap_39, List.lookup, Nat.reduceBEq]
  refine ⟨_, _, rfl, ?_⟩
  exact .cons _ 189 (.cons _ 190 (.cons _ 191 (.cons _ 192 (.cons _ 193 (.cons _ 194 (.cons _ 195 (.cons _ 196 (.cons _ 197 (.cons _ 198 (.cons _ 199 (.cons _ 200 (.cons _ 201 (.cons _ 202 (.cons _ 203 (.cons _ 204 (.cons _ 205 (.cons _ 206 (.cons _ 207 (.cons _ 208 (.cons _ 209 (.cons _ 210 (.cons _ 211 (.cons _ 212 .nil)))))))))))))))))))))))
theorem tz17 (w : World) : ∃ es n, (HK w).lookup 17 = some ⟨.type "dict", none, .dict es n, #[]⟩ ∧ KeysLit w.params es.toList ∧ ∀ e ∈ es.toList, ∃ x t, e.key = .str x t ∧ x.length ≤ 3 := by
  dsimp only [HK, hd.heap_39, List.lookup, Nat.reduceBEq]
  refine ⟨_, _, rfl, ?_, ?_⟩
  · repeat (first | exact trivial | refine ⟨⟨_, _, rfl, rfl⟩, ?_⟩)
  · intro e he
    simp only [List.mem_cons, List.not_mem_nil, or_false] at he
    rcases he with rfl | rfl | rfl | rfl | rfl | rfl | rfl | rfl | rfl | rfl | rfl | rfl | rfl | rfl <;> exact ⟨_, _, rfl, by decide⟩
section
variable {prog : Program} {w : World} {A : Around} {E : Value → Shared → Prop} {s : Shared} {mg mb : Str → Option Value} {Q : Value → Shared → Prop}
theorem notTz {x : Str} {t : Tok} (C : Cx w mg mb s.heap) (hx : 3 < x.length) (h : ∀ tk, Q (.bool false) { s with toks := tk }) : wpAny (model prog w) A (compareOp .In (.str x t) (.ref 17)) Q E s := by
  obtain ⟨es, n, hl, hk, hs⟩ := tz17 w
  have hm := mapOf_K (prog := prog) C.k hl hk
  refine wpAny_in_of (strKind_is prog w x t) (by decide) hm ?_
  have e : findBy Value.isStrOf es x = none := by
    unfold findBy
    have : es.find? (fun e => Value.isStrOf x e.key) = none := by
      rw [← Array.find?_toList, List.find?_eq_none]
      intro e he
      obtain ⟨y, u, hy, hz⟩ := hs e he
      rw [hy]
      intro hb
      obtain ⟨t', ht⟩ := Value.isStrOf_shape hb
      injection ht with ht
      subst ht
      omega
    rw [this]; rfl
  rw [e]
  exact h _
end
end Mine
namespace Mine
open PySem PySem.W PyProof.Rows

open PySem.Builtin PySem.Builtin.Str PySem.StrLaws
noncomputable def fd31 : FuncData := Subtype.val (p := fun x => x = fdOf 31) (by
  refine ⟨?_, ?_⟩
  rotate_left
  · conv => rhs; whnf)
theorem fn31 (w : World) : (HK w).lookup 31 = some { cls := .type "function", data := .func fd31 } := by kernel_rfl

section
variable {prog : Program} {w : World} {A : Around} {E : Value → Shared → Prop} {s : Shared} {mg mb : Str → Option Value} {env : Env}
theorem asg1 {t value : Expr} {pos : Pos} {Q : Flow → Shared → Prop}
    (h : wpAny (model prog w) A (eval value env) (fun v s₁ => wpAny (model prog w) A (assign t env v) (fun _ => Q .next) E s₁) E s)
    (he : (assignEach [t] env).map (·.2) = [assign t env] := by rfl) (hs : swapsWithSole [t] value pos.line env = pure false := by rfl) (hw : swappedStores [t] value env = pure none := by rfl) :
    wpAny (model prog w) A (exec (.Assign [t] value pos) env) Q E s := by
  refine wpAny_Assign_stores (wpAny_mono h (fun v s₁ h₁ => ?_) fun _ _ x => x) hs hw
  rw [he]
  exact h₁
/-- a store to a plain local, all old objects kept -/
theorem stL {h0 : Heap} {x : Str} {v : Value} {m : Str → Option Value} {Q : Unit → Shared → Prop} (N : s.heap.Ns env.locals m) (K : Keep h0 s.heap) (hL : h0.get? env.locals = none)
    (h : ∀ h' tk, h'.Ns env.locals (updN m x v) → Keep h0 h' → Heap.SameBut env.locals s.heap h' → Q () { s with heap := h', toks := tk })
    (hx : env.kindOf x = some .local := by rfl) (hp : (env.scope.kind == .class || (env.scope.kind == .module && env.locals != env.globals)) = false := by rfl) :
    wpAny (model prog w) A (storeName env x v) Q E s :=
  wpAny_storeName_local hx N (fun h' N' s' => h h' _ N' (fun b o e => (s'.2 b (fun e' => by rw [e', hL] at e; cases e)).trans (K b o e)) s') hp
end
section
variable {prog : Program} {w : World} {A : Around} {E : Value → Shared → Prop} {s : Shared}
theorem itemAt {value slice : Expr} {a : Addr} {vs : List Value} (k : Nat) {u : Tok} {x : Value} {Q : Value → Shared → Prop} (hl : s.heap.PlainList a vs.toArray) (hx : vs[k]? = some x) (hk : k < 2 ^ 40) (h : Q x s)
    (hs : subscripted slice false (.ref a) (.int (k : Nat) u) = operate [.ref a, .int (k : Nat) u] (getItem (.ref a) (.int (k : Nat) u)) := by with_unfolding_all rfl) (hg : ∀ r, letTemporaryGo value (.ref a) r = pure () := by intro _; with_unfolding_all rfl) :
    wpAny (model prog w) A (subscriptTail value slice (.ref a) (.int (k : Nat) u)) Q E s := item_listL hl.isList (by omega) (by omega) (by simpa using hx) h hs hg
theorem itemS {value slice : Expr} {x : Str} {t u : Tok} {i : Int} {Q : Value → Shared → Prop} (hr : fitsSsize i = true) (hin : (Txt.charAt x i).isSome = true)
    (h : Q (.str (Txt.item x i) s.toks) { s with toks := s.toks + 1 })
    (hs : subscripted slice false (.str x t) (.int i u) = operate [.str x t, .int i u] (getItem (.str x t) (.int i u)) := by with_unfolding_all rfl) :
    wpAny (model prog w) A (subscriptTail value slice (.str x t) (.int i u)) Q E s := tailOn (SB.item hr hin h) hs
end
theorem erase0 (a b c d e f : Value) : #[a, b, c, d, e, f].eraseIdxIfInBounds 0 = #[b, c, d, e, f] := Array.ext' (by rw [Array.toList_eraseIdxIfInBounds]; rfl)
theorem kindGe (x : Str) : 1 ≤ Builtin.Str.strKind x := by
  unfold Builtin.Str.strKind
  split
  · decide
  · split <;> decide
theorem kindC (h mi sc : Nat) : (decide ((TM h mi sc).length < (Str.ofString ":").length) || decide (Builtin.Str.strKind (TM h mi sc) < Builtin.Str.strKind (Str.ofString ":"))) = false := by
  rw [decide_eq_false (show ¬ (TM h mi sc).length < (Str.ofString ":").length by show ¬ 8 < 1; decide)]
  have e : Builtin.Str.strKind (Str.ofString ":") = 1 := by decide +kernel
  rw [e, decide_eq_false (by have := kindGe (TM h mi sc); omega)]
  rfl
theorem pick5 (a b c d e : Value) : slicePick #[a, b, c, d, e] none (some 5) none = #[a, b, c, d, e] := by rfl
theorem moFit : ∀ k, k < 12 → tooLong (moN.getD k Str.empty).length = false := by decide +kernel
theorem moAt : ∀ k, k < 12 → moN[k]? = some (moN.getD k Str.empty) := by decide +kernel
theorem moAtN : ∀ k, k < 12 → ∀ j, j < k → moN[j]? ≠ some (moN.getD k Str.empty) := by decide +kernel
theorem offp {ov : Int} (z : Nat) (hc : ov = z) : 1 * (ov.fdiv 100 * 3600 + ov.fmod 100 * 60) = (if (43 : Nat) = 45 then -1 else 1) * ((z / 100 * 3600 + z % 100 * 60 : Nat) : Int) := by
  rw [hc, Int.fdiv_eq_ediv_of_nonneg _ (by decide), Int.fmod_eq_emod_of_nonneg _ (by decide)]
  rfl
theorem offn {ov : Int} (z : Nat) (hc : ov = -(z : Int)) : -1 * ((-ov).fdiv 100 * 3600 + (-ov).fmod 100 * 60) = (if (45 : Nat) = 45 then -1 else 1) * ((z / 100 * 3600 + z % 100 * 60 : Nat) : Int) := by
  rw [hc, Int.neg_neg, Int.fdiv_eq_ediv_of_nonneg _ (by decide), Int.fmod_eq_emod_of_nonneg _ (by decide)]
  rfl
noncomputable def OffV (zs z : Nat) (o : Value) : Prop := (o = .none ∧ z = 0) ∨ ∃ t, o = .int ((if zs = 45 then -1 else 1) * ((z / 100 * 3600 + z % 100 * 60 : Nat) : Int)) t
theorem strs_cons {vs : List Value} {y : Str} {ys : List Str} (h : StrsAre vs (y :: ys)) : ∃ t us, vs = .str y t :: us ∧ StrsAre us ys := by
  cases h with
  | cons _ t r => exact ⟨t, _, rfl, r⟩
theorem strs_nil {vs : List Value} (h : StrsAre vs []) : vs = [] := by
  cases h; rfl
section
variable {prog : Program} {w : World} {A : Around} {E : Value → Shared → Prop} {s : Shared} {mg mb : Str → Option Value}
/-- the last statement -/
theorem ptz0_ret {H h : Heap} {L : Addr} {m : Str → Option Value} {tk : Nat} {v0 v1 v2 v3 v4 v5 o : Value} {Q : Value → Shared → Prop} (N : h.Ns L m) (K : Keep H h)
    (e1 : m (Str.ofString "yy") = some v0) (e2 : m (Str.ofString "mm") = some v1) (e3 : m (Str.ofString "dd") = some v2) (e4 : m (Str.ofString "thh") = some v3) (e5 : m (Str.ofString "tmm") = some v4) (e6 : m (Str.ofString "tss") = some v5) (eo : m (Str.ofString "tzoffset") = some o)
    (hQ : ∀ h' tk b t6 t7 t8, Keep H h' → H.get? b = none → h'.PlainList b #[v0, v1, v2, v3, v4, v5, .int 0 t6, .int 1 t7, .int (-1) t8, o] → Q (.ref b) { s with heap := h', toks := tk }) :
    wpAny (model prog w) A (execs ((fb fd31).drop 28) (callEnv fd31 L 31)) (fun f s' => Q (match f with | .ret v => v | _ => .none) s') (fun _ _ => False) { s with heap := h, toks := tk } := by
  refine wpAny_execs_cons ?_
  refine wpAny_Return_some ?_
  refine List_ ?_
  refine args_cons ?_
  refine nmL N e1 ?_
  refine args_cons ?_
  refine nmL N e2 ?_
  refine args_cons ?_
  refine nmL N e3 ?_
  refine args_cons ?_
  refine nmL N e4 ?_
  refine args_cons ?_
  refine nmL N e5 ?_
  refine args_cons ?_
  refine nmL N e6 ?_
  refine args_cons ?_
  refine wpAny_Constant_int ?_
  refine args_cons ?_
  refine wpAny_Constant_int ?_
  refine args_cons ?_
  refine UnaryOp_ ?_
  refine wpAny_Constant_int ?_
  refine neg_int ?_
  refine args_cons ?_
  refine nmL N eo ?_
  refine args_nil ?_
  refine mkList ?_
  intro hf kf nf zf
  dsimp only at kf nf ⊢
  exact hQ hf _ _ _ _ _ (fun b o e => kf _ _ (K _ _ e)) (fresh_of K) nf
set_option maxHeartbeats 4000000 in
theorem ptz0_off {H g : Heap} {L : Addr} {m : Str → Option Value} {tk zs z : Nat} {v0 v1 v2 v3 v4 v5 o : Value} {Q : Value → Shared → Prop} (N : g.Ns L m) (K : Keep H g) (hL : H.get? L = none)
    (e1 : m (Str.ofString "yy") = some v0) (e2 : m (Str.ofString "mm") = some v1) (e3 : m (Str.ofString "dd") = some v2) (e4 : m (Str.ofString "thh") = some v3) (e5 : m (Str.ofString "tmm") = some v4) (e6 : m (Str.ofString "tss") = some v5) (eo : m (Str.ofString "tzoffset") = some o)
    (ho : (o = .none ∧ z = 0) ∨ ∃ ov u, o = .int ov u ∧ (zs = 43 ∧ ov = z ∨ zs = 45 ∧ ov = -(z : Int)))
    (hQ : ∀ h' tk b t6 t7 t8 o', Keep H h' → H.get? b = none → h'.PlainList b #[v0, v1, v2, v3, v4, v5, .int 0 t6, .int 1 t7, .int (-1) t8, o'] → OffV zs z o' → Q (.ref b) { s with heap := h', toks := tk }) :
    wpAny (model prog w) A (execs ((fb fd31).drop 27) (callEnv fd31 L 31)) (fun f s' => Q (match f with | .ret v => v | _ => .none) s') (fun _ _ => False) { s with heap := g, toks := tk } := by
  refine stmtN ?_
  intro q1 hR1
  refine wpAny_If ?_
  refine isTrue_plain ?_
  refine nmL N eo ?_
  rcases ho with ⟨rfl, z0⟩ | ⟨ov, u, rfl, hc⟩
  · skip
    refine truthy_none ?_
    try dsimp only
    refine wpAny_execs_nil ?_
    try dsimp only
    refine hR1 _ ?_
    exact ptz0_ret N K e1 e2 e3 e4 e5 e6 eo (fun hf tkf bf _ _ _ Kf ff nf => hQ hf tkf bf _ _ _ _ Kf ff nf (.inl ⟨rfl, z0⟩))
  refine P.truthy_int ?_
  by_cases hv0 : ov = 0
  · skip
    rw [show (ov != 0) = false by rw [hv0]; rfl]
    try dsimp only
    refine wpAny_execs_nil ?_
    try dsimp only
    refine hR1 _ ?_
    refine ptz0_ret N K e1 e2 e3 e4 e5 e6 eo (fun hf tkf bf _ _ _ Kf ff nf => hQ hf tkf bf _ _ _ _ Kf ff nf ?_)
    have z0 : z = 0 := by omega
    rcases hc with ⟨rfl, hc⟩ | ⟨rfl, hc⟩
    · exact .inr ⟨_, by rw [hv0, z0]; rfl⟩
    · exact .inr ⟨_, by rw [hv0, z0]; rfl⟩
  · skip
    rw [show (ov != 0) = true by simpa using hv0]
    try dsimp only
    refine stmtN ?_
    intro q2 hR2
    refine wpAny_If ?_
    refine wpAny_isTrue_Compare1 ?_
    refine nmL N eo ?_
    refine wpAny_Constant_int ?_
    refine lt_int ?_
    rcases hc with ⟨rfl, hc⟩ | ⟨rfl, hc⟩
    · skip
      rw [decide_eq_false (by omega)]
      refine wpAny_truthy_bool ?_
      try dsimp only
      refine stmtN ?_
      intro q3 hR3
      refine wpAny_Assign_Name ?_
      refine wpAny_Constant_int ?_
      refine stL N K hL ?_
      intro h28 tq28 N28 K28 s28
      dsimp only at N28 s28 ⊢
      refine hR3 _ ?_
      refine wpAny_execs_nil ?_
      try dsimp only
      refine hR2 _ ?_
      refine stmtN ?_
      intro q2 hR2
      refine wpAny_Assign_Name ?_
      refine wpAny_BinOp ?_
      refine nmL N28 rfl ?_
      refine wpAny_BinOp ?_
      refine wpAny_BinOp ?_
      refine wpAny_BinOp ?_
      refine nmL N28 eo ?_
      refine wpAny_Constant_int ?_
      refine floordiv_int ?_ ?_ (.inl (PyProof.noPylong_small (by decide)))
      · decide
      try dsimp only
      refine wpAny_Constant_int ?_
      refine mul_int ?_ (IntMulOk.of_right (by decide))
      try dsimp only
      refine wpAny_BinOp ?_
      refine wpAny_BinOp ?_
      refine nmL N28 eo ?_
      refine wpAny_Constant_int ?_
      refine mod_int' ?_ ?_
      · decide
      try dsimp only
      refine wpAny_Constant_int ?_
      refine mul_int ?_ (IntMulOk.of_right (by decide))
      try dsimp only
      refine add_int ?_
      try dsimp only
      refine mul_int ?_ (IntMulOk.of_left (by decide))
      try dsimp only
      refine stL N28 K28 hL ?_
      intro h29 tq29 N29 K29 s29
      dsimp only at N29 s29 ⊢
      refine hR2 _ ?_
      refine wpAny_execs_nil ?_
      try dsimp only
      refine hR1 _ ?_
      refine ptz0_ret N29 K29 e1 e2 e3 e4 e5 e6 rfl (fun hf tkf bf _ _ _ Kf ff nf => hQ hf tkf bf _ _ _ _ Kf ff nf ?_)
      exact .inr ⟨_, by rw [offp z hc]⟩
    · skip
      rw [decide_eq_true (by omega)]
      refine wpAny_truthy_bool ?_
      try dsimp only
      refine stmtN ?_
      intro q3 hR3
      refine wpAny_Assign_Name ?_
      refine UnaryOp_ ?_
      refine wpAny_Constant_int ?_
      refine neg_int ?_
      try dsimp only
      refine stL N K hL ?_
      intro h28 tq28 N28 K28 s28
      dsimp only at N28 s28 ⊢
      refine hR3 _ ?_
      refine stmtN ?_
      intro q3 hR3
      refine wpAny_Assign_Name ?_
      refine UnaryOp_ ?_
      refine nmL N28 eo ?_
      refine neg_int ?_
      try dsimp only
      refine stL N28 K28 hL ?_
      intro h29 tq29 N29 K29 s29
      dsimp only at N29 s29 ⊢
      refine hR3 _ ?_
      refine wpAny_execs_nil ?_
      try dsimp only
      refine hR2 _ ?_
      refine stmtN ?_
      intro q2 hR2
      refine wpAny_Assign_Name ?_
      refine wpAny_BinOp ?_
      refine nmL N29 rfl ?_
      refine wpAny_BinOp ?_
      refine wpAny_BinOp ?_
      refine wpAny_BinOp ?_
      refine nmL N29 rfl ?_
      refine wpAny_Constant_int ?_
      refine floordiv_int ?_ ?_ (.inl (PyProof.noPylong_small (by decide)))
      · decide
      try dsimp only
      refine wpAny_Constant_int ?_
      refine mul_int ?_ (IntMulOk.of_right (by decide))
      try dsimp only
      refine wpAny_BinOp ?_
      refine wpAny_BinOp ?_
      refine nmL N29 rfl ?_
      refine wpAny_Constant_int ?_
      refine mod_int' ?_ ?_
      · decide
      try dsimp only
      refine wpAny_Constant_int ?_
      refine mul_int ?_ (IntMulOk.of_right (by decide))
      try dsimp only
      refine add_int ?_
      try dsimp only
      refine mul_int ?_ (IntMulOk.of_left (by decide))
      try dsimp only
      refine stL N29 K29 hL ?_
      intro h30 tq30 N30 K30 s30
      dsimp only at N30 s30 ⊢
      refine hR2 _ ?_
      refine wpAny_execs_nil ?_
      try dsimp only
      refine hR1 _ ?_
      refine ptz0_ret N30 K30 e1 e2 e3 e4 e5 e6 rfl (fun hf tkf bf _ _ _ Kf ff nf => hQ hf tkf bf _ _ _ _ Kf ff nf ?_)
      exact .inr ⟨_, by rw [offn z hc]⟩
set_option maxHeartbeats 4000000 in
theorem ptz0_try {H g : Heap} {L : Addr} {m : Str → Option Value} {tk d y h mi sc zs z : Nat} {u1 u3 u4 u5 u6 u7 : Tok} {vm : Value} {Q : Value → Shared → Prop} (C : Cx w mg mb H) (N : g.Ns L m) (K : Keep H g) (hL : H.get? L = none)
    (hd : d < 100) (hy : 100 ≤ y ∧ y < 10000) (hh : h < 100) (hmi : mi < 100) (hsc : sc < 100) (hzs : zs = 43 ∨ zs = 45) (hz : z < 2400)
    (eyy : m (Str.ofString "yy") = some (.str (D4 y) u3)) (emm : m (Str.ofString "mm") = some vm) (edd : m (Str.ofString "dd") = some (.str (D2 d) u1)) (ethh : m (Str.ofString "thh") = some (.str (D2 h) u4)) (etmm : m (Str.ofString "tmm") = some (.str (D2 mi) u5)) (etss : m (Str.ofString "tss") = some (.str (D2 sc) u6)) (etz : m (Str.ofString "tz") = some (.str (ZS zs z) u7))
    (hQ : ∀ h' tk b t0 t2 t3 t4 t5 t6 t7 t8 o, Keep H h' → H.get? b = none → h'.PlainList b #[.int y t0, vm, .int d t2, .int h t3, .int mi t4, .int sc t5, .int 0 t6, .int 1 t7, .int (-1) t8, o] → OffV zs z o → Q (.ref b) { s with heap := h', toks := tk }) :
    wpAny (model prog w) A (execs ((fb fd31).drop 22) (callEnv fd31 L 31)) (fun f s' => Q (match f with | .ret v => v | _ => .none) s') (fun _ _ => False) { s with heap := g, toks := tk } := by
  have C0 := C.keeps K
  refine stmtN ?_
  intro q1 hR1
  refine wpAny_Try_except ?_
  refine stmtN ?_
  intro q2 hR2
  refine wpAny_Assign_Name ?_
  refine Call_ ?_
  refine nmB C0 (by kernel_rfl) boot_int (by decide) ?_
  refine cwt1 ?_
  refine args_cons ?_
  refine nmL N eyy ?_
  refine args_nil ?_
  refine KIN.call_text (int_four hy.2) (by show 4 ≤ 640; decide) ?_
  try dsimp only
  refine stL N K hL ?_
  intro h20 tq20 N20 K20 s20
  dsimp only at N20 s20 ⊢
  have C20 := C.keeps K20
  refine hR2 _ ?_
  refine stmtN ?_
  intro q2 hR2
  refine wpAny_Assign_Name ?_
  refine Call_ ?_
  refine nmB C20 (by kernel_rfl) boot_int (by decide) ?_
  refine cwt1 ?_
  refine args_cons ?_
  refine nmL N20 edd ?_
  refine args_nil ?_
  refine KIN.call_text (int_two d hd) (by show 2 ≤ 640; decide) ?_
  try dsimp only
  refine stL N20 K20 hL ?_
  intro h21 tq21 N21 K21 s21
  dsimp only at N21 s21 ⊢
  have C21 := C.keeps K21
  refine hR2 _ ?_
  refine stmtN ?_
  intro q2 hR2
  refine wpAny_Assign_Name ?_
  refine Call_ ?_
  refine nmB C21 (by kernel_rfl) boot_int (by decide) ?_
  refine cwt1 ?_
  refine args_cons ?_
  refine nmL N21 ethh ?_
  refine args_nil ?_
  refine KIN.call_text (int_two h hh) (by show 2 ≤ 640; decide) ?_
  try dsimp only
  refine stL N21 K21 hL ?_
  intro h22 tq22 N22 K22 s22
  dsimp only at N22 s22 ⊢
  have C22 := C.keeps K22
  refine hR2 _ ?_
  refine stmtN ?_
  intro q2 hR2
  refine wpAny_Assign_Name ?_
  refine Call_ ?_
  refine nmB C22 (by kernel_rfl) boot_int (by decide) ?_
  refine cwt1 ?_
  refine args_cons ?_
  refine nmL N22 etmm ?_
  refine args_nil ?_
  refine KIN.call_text (int_two mi hmi) (by show 2 ≤ 640; decide) ?_
  try dsimp only
  refine stL N22 K22 hL ?_
  intro h23 tq23 N23 K23 s23
  dsimp only at N23 s23 ⊢
  have C23 := C.keeps K23
  refine hR2 _ ?_
  refine stmtN ?_
  intro q2 hR2
  refine wpAny_Assign_Name ?_
  refine Call_ ?_
  refine nmB C23 (by kernel_rfl) boot_int (by decide) ?_
  refine cwt1 ?_
  refine args_cons ?_
  refine nmL N23 etss ?_
  refine args_nil ?_
  refine KIN.call_text (int_two sc hsc) (by show 2 ≤ 640; decide) ?_
  try dsimp only
  refine stL N23 K23 hL ?_
  intro h24 tq24 N24 K24 s24
  dsimp only at N24 s24 ⊢
  have C24 := C.keeps K24
  refine hR2 _ ?_
  refine wpAny_execs_nil ?_
  try dsimp only
  refine wpAny_execs_nil ?_
  try dsimp only
  refine hR1 _ ?_
  refine stmtN ?_
  intro q1 hR1
  refine wpAny_If ?_
  refine wpAny_isTrue_Compare1 ?_
  refine nmL N24 rfl ?_
  refine wpAny_Constant_int ?_
  refine lt_int ?_
  rw [decide_eq_false (by omega)]
  refine wpAny_truthy_bool ?_
  try dsimp only
  refine wpAny_execs_nil ?_
  try dsimp only
  refine hR1 _ ?_
  refine stmtN ?_
  intro q1 hR1
  refine wpAny_Assign_Name ?_
  refine wpAny_Constant_none ?_
  refine stL N24 K24 hL ?_
  intro h25 tq25 N25 K25 s25
  dsimp only at N25 s25 ⊢
  refine hR1 _ ?_
  refine stmtN ?_
  intro q1 hR1
  refine wpAny_Assign_Name ?_
  refine MethodCall_ ?_
  refine nmL N25 etz ?_
  refine m_upper ?_
  refine callWith_method0 ?_
  refine cUpper ?_ ?_
  · rw [up_z hzs]
    show tooLong 5 = false
    decide
  rw [up_z hzs]
  try dsimp only
  refine stL N25 K25 hL ?_
  intro h26 tq26 N26 K26 s26
  dsimp only at N26 s26 ⊢
  have C26 := C.keeps K26
  refine hR1 _ ?_
  refine stmtN ?_
  intro q1 hR1
  refine wpAny_If ?_
  refine wpAny_isTrue_Compare1 ?_
  refine nmL N26 rfl ?_
  refine nmG (v := .ref 17) C26 (by kernel_rfl) ?_
  refine notTz C26 (by show 3 < 5; decide) ?_
  intro tkz
  refine wpAny_truthy_bool ?_
  try dsimp only
  refine stmtN ?_
  intro q2 hR2
  refine wpAny_Try_except ?_
  refine stmtN ?_
  intro q3 hR3
  refine wpAny_Assign_Name ?_
  refine Call_ ?_
  refine nmB C26 (by kernel_rfl) boot_int (by decide) ?_
  refine cwt1 ?_
  refine args_cons ?_
  refine nmL N26 rfl ?_
  refine args_nil ?_
  obtain ⟨ov, hov, hc⟩ : ∃ ov : Int, PySem.intText? (ZS zs z) = some ov ∧ (zs = 43 ∧ ov = z ∨ zs = 45 ∧ ov = -(z : Int)) := by
    rcases hzs with rfl | rfl
    · exact ⟨_, int_pos z hz, .inl ⟨rfl, rfl⟩⟩
    · exact ⟨_, int_neg (by omega), .inr ⟨rfl, rfl⟩⟩
  refine KIN.call_text hov (by show 5 ≤ 640; decide) ?_
  try dsimp only
  refine stL N26 K26 hL ?_
  intro h27 tq27 N27 K27 s27
  dsimp only at N27 s27 ⊢
  refine hR3 _ ?_
  refine wpAny_execs_nil ?_
  try dsimp only
  refine wpAny_execs_nil ?_
  try dsimp only
  refine hR2 _ ?_
  refine stmtN ?_
  intro q2 hR2
  refine wpAny_If ?_
  refine isTrue_and ?_
  refine wpAny_isTrue_Compare1 ?_
  refine nmL N27 rfl ?_
  refine wpAny_Constant_int ?_
  refine eq_int ?_
  refine wpAny_truthy_bool ?_
  try dsimp only
  by_cases hv0 : ov = 0
  · skip
    have z0 : z = 0 := by omega
    have e0 : (ov == 0) = true := by rw [hv0]; rfl
    rw [e0]
    rw [if_pos rfl]
    refine isTrue_and ?_
    refine isTrue_plain ?_
    refine MethodCall_ ?_
    refine nmL N27 rfl ?_
    refine m_startswith ?_
    refine callWith_method1 ?_
    refine args_cons ?_
    refine Calls.Constant_str ?_
    refine args_nil ?_
    refine cStarts ?_
    rcases hc with ⟨rfl, hc⟩ | ⟨rfl, hc⟩
    · skip
      rw [starts_p]
      refine wpAny_truthy_bool ?_
      try dsimp only
      refine wpAny_execs_nil ?_
      try dsimp only
      refine hR2 _ ?_
      refine wpAny_execs_nil ?_
      try dsimp only
      refine hR1 _ ?_
      exact ptz0_off N27 K27 hL rfl emm rfl rfl rfl rfl rfl (.inr ⟨ov, _, rfl, .inl ⟨rfl, hc⟩⟩) (fun h' tk b _ _ _ _ => hQ h' tk b _ _ _ _ _ _ _ _ _)
    · skip
      rw [starts_n]
      refine wpAny_truthy_bool ?_
      try dsimp only
      refine isTrue_and_nil ?_
      try dsimp only
      refine stmtN ?_
      intro q3 hR3
      refine wpAny_Assign_Name ?_
      refine wpAny_Constant_none ?_
      refine stL N27 K27 hL ?_
      intro h28 tq28 N28 K28 s28
      dsimp only at N28 s28 ⊢
      refine hR3 _ ?_
      refine wpAny_execs_nil ?_
      try dsimp only
      refine hR2 _ ?_
      refine wpAny_execs_nil ?_
      try dsimp only
      refine hR1 _ ?_
      exact ptz0_off N28 K28 hL rfl emm rfl rfl rfl rfl rfl (.inl ⟨rfl, z0⟩) (fun h' tk b _ _ _ _ => hQ h' tk b _ _ _ _ _ _ _ _ _)
  · skip
    have e0 : (ov == 0) = false := beq_eq_false_iff_ne.mpr hv0
    rw [e0]
    rw [if_neg (by decide)]
    try dsimp only
    refine wpAny_execs_nil ?_
    try dsimp only
    refine hR2 _ ?_
    refine wpAny_execs_nil ?_
    try dsimp only
    refine hR1 _ ?_
    exact ptz0_off N27 K27 hL rfl emm rfl rfl rfl rfl rfl (.inr ⟨ov, _, rfl, hc⟩) (fun h' tk b _ _ _ _ => hQ h' tk b _ _ _ _ _ _ _ _ _)
set_option maxHeartbeats 4000000 in
theorem ptz0_mid {H g : Heap} {L : Addr} {m : Str → Option Value} {tk m0 m1 m2 d y h mi sc zs z k : Nat} {u1 u2 u3 u4 u5 : Tok} {Q : Value → Shared → Prop} (C : Cx w mg mb H) (R1 : Rm A 4) (N : g.Ns L m) (K : Keep H g) (hL : H.get? L = none)
    (hk : k < 12) (hm : W3 m0 m1 m2 = moS.getD k Str.empty) (hd : d < 100) (hy : 100 ≤ y ∧ y < 10000) (hh : h < 100) (hmi : mi < 100) (hsc : sc < 100) (hzs : zs = 43 ∨ zs = 45) (hz : z < 2400)
    (edd : m (Str.ofString "dd") = some (.str (D2 d) u1)) (emm : m (Str.ofString "mm") = some (.str (W3 m0 m1 m2) u2)) (eyy : m (Str.ofString "yy") = some (.str (D4 y) u3)) (etm : m (Str.ofString "tm") = some (.str (Mine.TM h mi sc) u4)) (etz : m (Str.ofString "tz") = some (.str (ZS zs z) u5))
    (hQ : ∀ h' tk b t0 t1 t2 t3 t4 t5 t6 t7 t8 o, Keep H h' → H.get? b = none → h'.PlainList b #[.int y t0, .int (k + 1 : Nat) t1, .int d t2, .int h t3, .int mi t4, .int sc t5, .int 0 t6, .int 1 t7, .int (-1) t8, o] → OffV zs z o → Q (.ref b) { s with heap := h', toks := tk }) :
    wpAny (model prog w) A (execs ((fb fd31).drop 9) (callEnv fd31 L 31)) (fun f s' => Q (match f with | .ret v => v | _ => .none) s') (fun _ _ => False) { s with heap := g, toks := tk } := by
  refine stmtN ?_
  intro q1 hR1
  refine wpAny_If ?_
  refine isTrue_not ?_
  refine isTrue_and ?_
  refine isTrue_plain ?_
  refine nmL N edd ?_
  refine P.truthy_str ?_ ?_
  · show ¬ ((2 : Nat) : Int) ≥ 2 ^ 63
    decide
  try dsimp only
  refine isTrue_and ?_
  refine isTrue_plain ?_
  refine nmL N emm ?_
  refine P.truthy_str ?_ ?_
  · show ¬ ((3 : Nat) : Int) ≥ 2 ^ 63
    decide
  try dsimp only
  refine isTrue_and ?_
  refine isTrue_plain ?_
  refine nmL N eyy ?_
  refine P.truthy_str ?_ ?_
  · show ¬ ((4 : Nat) : Int) ≥ 2 ^ 63
    decide
  try dsimp only
  refine isTrue_and_nil ?_
  try dsimp only
  refine wpAny_execs_nil ?_
  try dsimp only
  refine hR1 _ ?_
  refine stmtN ?_
  intro q1 hR1
  refine wpAny_Assign_Name ?_
  refine MethodCall_ ?_
  refine nmL N emm ?_
  refine m_lower ?_
  refine callWith_method0 ?_
  rw [hm]
  refine cLower ?_ ?_
  · rw [lower_mo k hk]
    exact moFit k hk
  rw [lower_mo k hk]
  refine stL N K hL ?_
  intro h13 tq13 N13 K13 s13
  dsimp only at N13 s13 ⊢
  obtain ⟨mv, mn, ml, mI⟩ := mon15 w
  have C13 := C.keeps K13
  have pm : h13.PlainList 15 mv.toArray := ⟨mn, C13.k _ _ ml⟩
  refine hR1 _ ?_
  refine stmtN ?_
  intro q1 hR1
  refine wpAny_If ?_
  refine wpAny_isTrue_Compare1 ?_
  refine nmL N13 rfl ?_
  refine nmG (v := .ref 15) C13 (by kernel_rfl) ?_
  refine notin_list_strs pm.isList mI ?_
  rw [in_mo k hk]
  refine wpAny_truthy_bool ?_
  try dsimp only
  refine wpAny_execs_nil ?_
  try dsimp only
  refine hR1 _ ?_
  refine stmtN ?_
  intro q1 hR1
  refine wpAny_Assign_Name ?_
  refine wpAny_BinOp ?_
  refine MethodCall_ ?_
  refine nmG (v := .ref 15) C13 (by kernel_rfl) ?_
  refine methPlain pm PySem.F.slot_list_index PySem.F.type_list_index ?_
  refine callWith_method1 ?_
  refine args_cons ?_
  refine nmL N13 rfl ?_
  refine args_nil ?_
  refine cIndex (j := k) pm mI (by show k < 24; omega) (by show 24 ≤ 1000; decide) (moAt k hk) (moAtN k hk) ?_
  refine wpAny_Constant_int ?_
  refine add_int ?_
  try dsimp only
  refine stL N13 K13 hL ?_
  intro h14 tq14 N14 K14 s14
  dsimp only at N14 s14 ⊢
  refine hR1 _ ?_
  refine stmtN ?_
  intro q1 hR1
  refine wpAny_If ?_
  refine wpAny_isTrue_Compare1 ?_
  refine nmL N14 rfl ?_
  refine wpAny_Constant_int ?_
  refine PyProof.Rows.gt_int ?_
  rw [decide_eq_false (by omega)]
  refine wpAny_truthy_bool ?_
  try dsimp only
  refine wpAny_execs_nil ?_
  try dsimp only
  refine hR1 _ ?_
  refine stmtN ?_
  intro q1 hR1
  refine wpAny_If ?_
  refine wpAny_isTrue_Compare1 ?_
  refine Subscript_ ?_
  refine nmL N14 edd ?_
  refine UnaryOp_ ?_
  refine wpAny_Constant_int ?_
  refine neg_int ?_
  refine itemS (by decide) (by rfl) ?_
  refine Calls.Constant_str ?_
  refine PyProof.Rows.eq_str ?_
  rw [item_d2, no_comma]
  refine wpAny_truthy_bool ?_
  try dsimp only
  refine wpAny_execs_nil ?_
  try dsimp only
  refine hR1 _ ?_
  refine stmtN ?_
  intro q1 hR1
  refine wpAny_Assign_Name ?_
  refine MethodCall_ ?_
  refine nmL N14 eyy ?_
  refine m_find ?_
  refine callWith_method1 ?_
  refine args_cons ?_
  refine Calls.Constant_str ?_
  refine args_nil ?_
  refine cFind ?_
  rw [find_year]
  try dsimp only
  refine stL N14 K14 hL ?_
  intro h15 tq15 N15 K15 s15
  dsimp only at N15 s15 ⊢
  refine hR1 _ ?_
  refine stmtN ?_
  intro q1 hR1
  refine wpAny_If ?_
  refine wpAny_isTrue_Compare1 ?_
  refine nmL N15 rfl ?_
  refine wpAny_Constant_int ?_
  refine PyProof.Rows.gt_int ?_
  refine wpAny_truthy_bool ?_
  try dsimp only
  refine wpAny_execs_nil ?_
  try dsimp only
  refine hR1 _ ?_
  refine stmtN ?_
  intro q1 hR1
  refine wpAny_If ?_
  refine wpAny_isTrue_Compare1 ?_
  refine Subscript_ ?_
  refine nmL N15 eyy ?_
  refine UnaryOp_ ?_
  refine wpAny_Constant_int ?_
  refine neg_int ?_
  refine itemS (by decide) (by rfl) ?_
  refine Calls.Constant_str ?_
  refine PyProof.Rows.eq_str ?_
  rw [item_d4, no_comma]
  refine wpAny_truthy_bool ?_
  try dsimp only
  refine wpAny_execs_nil ?_
  try dsimp only
  refine hR1 _ ?_
  refine stmtN ?_
  intro q1 hR1
  refine wpAny_If ?_
  refine isTrue_not ?_
  refine isTrue_plain ?_
  refine MethodCall_ ?_
  refine Subscript_ ?_
  refine nmL N15 eyy ?_
  refine wpAny_Constant_int ?_
  refine itemS (by decide) (by rfl) ?_
  refine m_isdigit ?_
  refine callWith_method0 ?_
  refine cDigit ?_
  rw [item_d40, isdig]
  refine wpAny_truthy_bool ?_
  try dsimp only
  refine wpAny_execs_nil ?_
  try dsimp only
  refine hR1 _ ?_
  refine stmtN ?_
  intro q1 hR1
  refine wpAny_If ?_
  refine wpAny_isTrue_Compare1 ?_
  refine Subscript_ ?_
  refine nmL N15 etm ?_
  refine UnaryOp_ ?_
  refine wpAny_Constant_int ?_
  refine neg_int ?_
  refine itemS (by decide) (by rfl) ?_
  refine Calls.Constant_str ?_
  refine PyProof.Rows.eq_str ?_
  rw [item_tm, no_comma]
  refine wpAny_truthy_bool ?_
  try dsimp only
  refine wpAny_execs_nil ?_
  try dsimp only
  refine hR1 _ ?_
  refine stmtN ?_
  intro q1 hR1
  refine wpAny_Assign_Name ?_
  refine MethodCall_ ?_
  refine nmL N15 etm ?_
  refine m_split ?_
  refine callWith_method1 ?_
  refine args_cons ?_
  refine Calls.Constant_str ?_
  refine args_nil ?_
  refine cSplitC (parts_tm h mi sc) (kindC h mi sc) ?_ ?_ ?_ ?_
  · rfl
  · show 8 ≤ 1000
    decide
  · exact ⟨by show 2 ≤ 3; decide, by show 3 ≤ 1000; decide⟩
  intro g1 tg vg kg ig ng
  dsimp only at kg ng ⊢
  have Ng := N15.keeps kg
  have Kg : Keep H g1 := fun b o e => kg _ _ (K15 _ _ e)
  generalize h15.objs.size = T at ng ⊢
  obtain ⟨v0, w0_, rfl, y0⟩ := strs_cons ig
  obtain ⟨v1, w1_, rfl, y1⟩ := strs_cons y0
  obtain ⟨v2, w2_, rfl, y2⟩ := strs_cons y1
  have := strs_nil y2
  subst this
  refine stL Ng Kg hL ?_
  intro h16 tq16 N16 K16 s16
  dsimp only at N16 s16 ⊢
  have nt : h16.PlainList T #[.str (D2 h) v0, .str (D2 mi) v1, .str (D2 sc) v2] := plain_same ng s16 (list_ne_ns ng Ng)
  have C16 := C.keeps K16
  refine hR1 _ ?_
  refine stmtN ?_
  intro q1 hR1
  refine wpAny_If ?_
  refine wpAny_isTrue_Compare1 ?_
  refine Call_ ?_
  refine nmB C16 (by kernel_rfl) boot_len (by decide) ?_
  refine cwb1 ?_
  refine args_cons ?_
  refine nmL N16 rfl ?_
  refine args_nil ?_
  refine lenList (xs := [_, _, _]) nt ?_ ?_
  · show 3 < 2 ^ 40
    decide
  intro tl
  try dsimp only
  refine wpAny_Constant_int ?_
  refine eq_int ?_
  refine wpAny_truthy_bool ?_
  try dsimp only
  refine stmtN ?_
  intro q2 hR2
  refine wpAny_If ?_
  refine wpAny_isTrue_Compare1 ?_
  refine Call_ ?_
  refine nmB C16 (by kernel_rfl) boot_len (by decide) ?_
  refine cwb1 ?_
  refine args_cons ?_
  refine nmL N16 rfl ?_
  refine args_nil ?_
  refine lenList (xs := [_, _, _]) nt ?_ ?_
  · show 3 < 2 ^ 40
    decide
  intro tl
  try dsimp only
  refine wpAny_Constant_int ?_
  refine eq_int ?_
  refine wpAny_truthy_bool ?_
  try dsimp only
  refine stmtN ?_
  intro q3 hR3
  refine asg1 ?_
  refine nmL N16 rfl ?_
  refine assign_List_list R1.hh nt ?_ ?_ ?_
  · rfl
  · rfl
  intro g2 kg2
  try dsimp only
  have Ng2 := N16.keeps kg2
  have Kg2 : Keep H g2 := fun b o e => kg2 _ _ (K16 _ _ e)
  refine assignInOrder_cons ?_
  refine wpAny_assign_Name ?_
  refine stL Ng2 Kg2 hL ?_
  intro h17 tq17 N17 K17 s17
  dsimp only at N17 s17 ⊢
  refine assignInOrder_cons ?_
  refine wpAny_assign_Name ?_
  refine stL N17 K17 hL ?_
  intro h18 tq18 N18 K18 s18
  dsimp only at N18 s18 ⊢
  refine assignInOrder_cons ?_
  refine wpAny_assign_Name ?_
  refine stL N18 K18 hL ?_
  intro h19 tq19 N19 K19 s19
  dsimp only at N19 s19 ⊢
  refine assignInOrder_nil ?_
  try dsimp only
  refine hR3 _ ?_
  refine wpAny_execs_nil ?_
  try dsimp only
  refine hR2 _ ?_
  refine wpAny_execs_nil ?_
  try dsimp only
  refine hR1 _ ?_
  exact ptz0_try C N19 K19 hL hd hy hh hmi hsc hzs hz eyy rfl edd rfl rfl rfl etz (fun h' tk b _ _ _ _ _ _ _ _ => hQ h' tk b _ _ _ _ _ _ _ _ _)
set_option maxHeartbeats 4000000 in
theorem ptz0_spec {w0 w1 w2 m0 m1 m2 d y h mi sc zs z k : Nat} {t : Tok} {Q : Value → Shared → Prop} (C : Cx w mg mb s.heap) (R : Rm A 5)
    (a0 : Unicode.isSpace w0 = false) (a1 : Unicode.isSpace w1 = false) (a2 : Unicode.isSpace w2 = false) (b0 : Unicode.isSpace m0 = false) (b1 : Unicode.isSpace m1 = false) (b2 : Unicode.isSpace m2 = false)
    (hk : k < 12) (hm : W3 m0 m1 m2 = moS.getD k Str.empty) (hd : d < 100) (hy : 100 ≤ y ∧ y < 10000) (hh : h < 100) (hmi : mi < 100) (hsc : sc < 100) (hzs : zs = 43 ∨ zs = 45) (hz : z < 2400)
    (hQ : ∀ h' tk b t0 t1 t2 t3 t4 t5 t6 t7 t8 o, Keep s.heap h' → s.heap.get? b = none → h'.PlainList b #[.int y t0, .int (k + 1 : Nat) t1, .int d t2, .int h t3, .int mi t4, .int sc t5, .int 0 t6, .int 1 t7, .int (-1) t8, o] → OffV zs z o → Q (.ref b) { s with heap := h', toks := tk }) :
    wpAny (model prog w) A (call (.ref 31) [.str ⟨(tx w0 w1 w2 m0 m1 m2 d y h mi sc zs z).toArray⟩ t]) Q E s := by
  refine enterF [(Str.ofString "data", .str ⟨(tx w0 w1 w2 m0 m1 m2 d y h mi sc zs z).toArray⟩ t)] C R (fn31 w) (by kernel_rfl) rfl (BindsTo.of_eq rfl) (by rfl) (by decide) (fun h1 N1 K1 C1 R1 => ?_)
  have hL : s.heap.get? (callEnv fd31 s.heap.objs.size 31).locals = none := fresh_none
  have c0 : Unicode.isSpace zs = false := by rcases hzs with rfl | rfl <;> decide +kernel
  refine stmtN ?_
  intro q1 hR1
  refine wpAny_If ?_
  refine isTrue_not ?_
  refine isTrue_plain ?_
  refine nmL N1 rfl ?_
  refine P.truthy_str ?_ ?_
  · show ¬ ((31 : Nat) : Int) ≥ 2 ^ 63
    decide
  try dsimp only
  refine wpAny_execs_nil ?_
  try dsimp only
  refine hR1 _ ?_
  refine stmtN ?_
  intro q1 hR1
  refine wpAny_Assign_Name ?_
  refine MethodCall_ ?_
  refine nmL N1 rfl ?_
  refine m_split ?_
  refine callWith_method0 ?_
  refine cSplit (words_tx a0 a1 a2 b0 b1 b2 c0) ?_ ?_ ?_
  · show 31 ≤ 1000
    decide
  · exact ⟨by show 2 ≤ 6; decide, by show 6 ≤ 1000; decide⟩
  intro h2 tk2 v2 k2 i2 n2
  dsimp only at k2 n2 ⊢
  have N2 := N1.keeps k2
  have K2 : Keep s.heap h2 := fun b o e => k2 _ _ (K1 _ _ e)
  have f2 : s.heap.get? h1.objs.size = none := fresh_of K1
  generalize hDa : h1.objs.size = D at n2 f2 ⊢
  obtain ⟨u0, q0, rfl, j0⟩ := strs_cons i2
  obtain ⟨u1, q1, rfl, j1⟩ := strs_cons j0
  obtain ⟨u2, q2, rfl, j2⟩ := strs_cons j1
  obtain ⟨u3, q3, rfl, j3⟩ := strs_cons j2
  obtain ⟨u4, q4, rfl, j4⟩ := strs_cons j3
  obtain ⟨u5, q5, rfl, j5⟩ := strs_cons j4
  have := strs_nil j5
  subst this
  refine stL N2 K2 hL ?_
  intro h3 tq3 N3 K3 s3
  dsimp only at N3 s3 ⊢
  have n3 : h3.PlainList D #[.str (W4 w0 w1 w2) u0, .str (D2 d) u1, .str (W3 m0 m1 m2) u2, .str (D4 y) u3, .str (TM h mi sc) u4, .str (ZS zs z) u5] := plain_same n2 s3 (list_ne_ns n2 N2)
  refine hR1 _ ?_
  refine stmtN ?_
  intro q1 hR1
  refine wpAny_If ?_
  refine isTrue_not ?_
  refine isTrue_plain ?_
  refine nmL N3 rfl ?_
  refine wpAny_truthy_list n3.isList ?_ ?_
  · show ((6 : Nat) : Int) < 2 ^ 63
    decide
  try dsimp only
  refine wpAny_execs_nil ?_
  try dsimp only
  refine hR1 _ ?_
  refine stmtN ?_
  intro q1 hR1
  refine wpAny_If ?_
  refine isTrue_or ?_
  refine isTrue_plain ?_
  refine MethodCall_ ?_
  refine Subscript_ ?_
  refine nmL N3 rfl ?_
  refine wpAny_Constant_int ?_
  refine itemAt (vs := [_, _, _, _, _, _]) 0 n3 rfl (by decide) ?_
  refine m_endswith ?_
  refine callWith_method1 ?_
  refine args_cons ?_
  refine Calls.Constant_str ?_
  refine args_nil ?_
  refine cEnds ?_
  rw [ends_w]
  refine wpAny_truthy_bool ?_
  try dsimp only
  refine stmtN ?_
  intro q2 hR2
  refine wpAny_Delete ?_
  refine wpAny_deleteEach_cons ?_
  refine wpAny_delete_Subscript ?_
  refine nmL N3 rfl ?_
  refine wpAny_Constant_int ?_
  refine wpAny_delItem_plain (k := 0) n3 ?_ ?_ ?_ ?_
  · decide
  · rfl
  rotate_left
  · show 6 ≤ sizeLine
    decide
  intro h4 n4 s4
  dsimp only at n4 s4 ⊢
  have DL : D ≠ (callEnv fd31 s.heap.objs.size 31).locals := list_ne_ns n3 N3
  have N4 := N3.sameBut s4 DL.symm
  have K4 : Keep s.heap h4 := fun b o e => (s4.2 b (fun e' => by rw [e', f2] at e; cases e)).trans (K3 _ _ e)
  rw [erase0] at n4
  have C4 := C.keeps K4
  refine wpAny_deleteEach_nil ?_
  try dsimp only
  refine hR2 _ ?_
  refine wpAny_execs_nil ?_
  try dsimp only
  refine hR1 _ ?_
  refine stmtN ?_
  intro q1 hR1
  refine wpAny_If ?_
  refine wpAny_isTrue_Compare1 ?_
  refine Call_ ?_
  refine nmB C4 (by kernel_rfl) boot_len (by decide) ?_
  refine cwb1 ?_
  refine args_cons ?_
  refine nmL N4 rfl ?_
  refine args_nil ?_
  refine lenList (xs := [_, _, _, _, _]) n4 ?_ ?_
  · show 5 < 2 ^ 40
    decide
  intro tl
  try dsimp only
  refine wpAny_Constant_int ?_
  refine eq_int ?_
  refine wpAny_truthy_bool ?_
  try dsimp only
  refine wpAny_execs_nil ?_
  try dsimp only
  refine hR1 _ ?_
  refine stmtN ?_
  intro q1 hR1
  refine wpAny_If ?_
  refine wpAny_isTrue_Compare1 ?_
  refine Call_ ?_
  refine nmB C4 (by kernel_rfl) boot_len (by decide) ?_
  refine cwb1 ?_
  refine args_cons ?_
  refine nmL N4 rfl ?_
  refine args_nil ?_
  refine lenList (xs := [_, _, _, _, _]) n4 ?_ ?_
  · show 5 < 2 ^ 40
    decide
  intro tl
  try dsimp only
  refine wpAny_Constant_int ?_
  refine eq_int ?_
  refine wpAny_truthy_bool ?_
  try dsimp only
  refine wpAny_execs_nil ?_
  try dsimp only
  refine hR1 _ ?_
  refine stmtN ?_
  intro q1 hR1
  refine wpAny_If ?_
  refine wpAny_isTrue_Compare1 ?_
  refine Call_ ?_
  refine nmB C4 (by kernel_rfl) boot_len (by decide) ?_
  refine cwb1 ?_
  refine args_cons ?_
  refine nmL N4 rfl ?_
  refine args_nil ?_
  refine lenList (xs := [_, _, _, _, _]) n4 ?_ ?_
  · show 5 < 2 ^ 40
    decide
  intro tl
  try dsimp only
  refine wpAny_Constant_int ?_
  refine lt_int ?_
  refine wpAny_truthy_bool ?_
  try dsimp only
  refine wpAny_execs_nil ?_
  try dsimp only
  refine hR1 _ ?_
  refine stmtN ?_
  intro q1 hR1
  refine wpAny_Assign_Name ?_
  refine Subscript_ ?_
  refine nmL N4 rfl ?_
  refine wpAny_Slice ?_
  refine partN ?_
  refine partS ?_
  refine wpAny_Constant_int ?_
  refine partN ?_
  try dsimp only
  refine sliceI (s := ⟨_, _, _, _, _⟩) (lo := none) (hi := some 5) (st := none) n4.isList .none (.int ..) .none (by decide) ?_ (by with_unfolding_all rfl) ?_
  · show 5 < 2 ^ 20
    decide
  intro h5 k5 n5 z5
  dsimp only at k5 n5 z5 ⊢
  rw [pick5] at n5
  have N5 := N4.keeps k5
  have K5 : Keep s.heap h5 := fun b o e => k5 _ _ (K4 _ _ e)
  refine stL N5 K5 hL ?_
  intro h6 tq6 N6 K6 s6
  dsimp only at N6 s6 ⊢
  have n6 := plain_same n5 s6 (list_ne_ns n5 N5)
  refine hR1 _ ?_
  refine stmtN ?_
  intro q1 hR1
  refine asg1 ?_
  refine nmL N6 rfl ?_
  refine assign_List_list R1.hh n6 ?_ ?_ ?_
  · rfl
  · rfl
  intro h7 k7
  try dsimp only
  have N7 := N6.keeps k7
  have K7 : Keep s.heap h7 := fun b o e => k7 _ _ (K6 _ _ e)
  refine assignInOrder_cons ?_
  refine wpAny_assign_Name ?_
  refine stL N7 K7 hL ?_
  intro h8 tq8 N8 K8 s8
  dsimp only at N8 s8 ⊢
  refine assignInOrder_cons ?_
  refine wpAny_assign_Name ?_
  refine stL N8 K8 hL ?_
  intro h9 tq9 N9 K9 s9
  dsimp only at N9 s9 ⊢
  refine assignInOrder_cons ?_
  refine wpAny_assign_Name ?_
  refine stL N9 K9 hL ?_
  intro h10 tq10 N10 K10 s10
  dsimp only at N10 s10 ⊢
  refine assignInOrder_cons ?_
  refine wpAny_assign_Name ?_
  refine stL N10 K10 hL ?_
  intro h11 tq11 N11 K11 s11
  dsimp only at N11 s11 ⊢
  refine assignInOrder_cons ?_
  refine wpAny_assign_Name ?_
  refine stL N11 K11 hL ?_
  intro h12 tq12 N12 K12 s12
  dsimp only at N12 s12 ⊢
  refine assignInOrder_nil ?_
  try dsimp only
  refine hR1 _ ?_
  exact ptz0_mid C R1 N12 K12 hL hk hm hd hy hh hmi hsc hzs hz rfl rfl rfl rfl rfl hQ
end
end Mine
namespace Mine
open PySem PySem.W PyProof.Rows

/-- the whole text of a letter -/
noncomputable def txt (c : Nat → Int) : Str := fmtT c ⟨(zoneL c).toArray⟩
/-- the letters of a weekday and a month -/
noncomputable def wdC (k i : Nat) : Nat := (wdS.getD k Str.empty).cps.getD i 0
noncomputable def moC (k i : Nat) : Nat := (moS.getD k Str.empty).cps.getD i 0
theorem wdC_ok : ∀ k, k < 7 → wdS.getD k Str.empty = W3 (wdC k 0) (wdC k 1) (wdC k 2) ∧ Unicode.isSpace (wdC k 0) = false ∧ Unicode.isSpace (wdC k 1) = false ∧ Unicode.isSpace (wdC k 2) = false := by decide +kernel
theorem moC_ok : ∀ k, k < 12 → moS.getD k Str.empty = W3 (moC k 0) (moC k 1) (moC k 2) ∧ Unicode.isSpace (moC k 0) = false ∧ Unicode.isSpace (moC k 1) = false ∧ Unicode.isSpace (moC k 2) = false := by decide +kernel
theorem comma_s : Str.ofString ", " = ⟨#[44, 32]⟩ := by decide +kernel
theorem space_s : Str.ofString " " = ⟨#[32]⟩ := by decide +kernel
theorem colon_s : Str.ofString ":" = ⟨#[58]⟩ := by decide +kernel
theorem strApp (a b : List Nat) : (⟨a.toArray⟩ : Str) ++ (⟨b.toArray⟩ : Str) = ⟨(a ++ b).toArray⟩ := by
  show Str.mk (a.toArray ++ b.toArray) = _
  simp
theorem glue_tx (w0 w1 w2 m0 m1 m2 d y h mi s zs z : Nat) : W3 w0 w1 w2 ++ Str.ofString ", " ++ (⟨(dg 2 d).toArray⟩ : Str) ++ Str.ofString " " ++ W3 m0 m1 m2 ++ Str.ofString " " ++ (⟨(dg 4 y).toArray⟩ : Str) ++ Str.ofString " " ++ (⟨(dg 2 h).toArray⟩ : Str) ++ Str.ofString ":" ++ (⟨(dg 2 mi).toArray⟩ : Str) ++ Str.ofString ":" ++ (⟨(dg 2 s).toArray⟩ : Str) ++ Str.ofString " " ++ (⟨(zs :: dg 4 z).toArray⟩ : Str) = ⟨(tx w0 w1 w2 m0 m1 m2 d y h mi s zs z).toArray⟩ := by
  rw [comma_s, space_s, colon_s]
  show (⟨[w0, w1, w2].toArray⟩ : Str) ++ ⟨[44, 32].toArray⟩ ++ (⟨(dg 2 d).toArray⟩ : Str) ++ ⟨[32].toArray⟩ ++ (⟨[m0, m1, m2].toArray⟩ : Str) ++ ⟨[32].toArray⟩ ++ (⟨(dg 4 y).toArray⟩ : Str) ++ ⟨[32].toArray⟩ ++ (⟨(dg 2 h).toArray⟩ : Str) ++ ⟨[58].toArray⟩ ++ (⟨(dg 2 mi).toArray⟩ : Str) ++ ⟨[58].toArray⟩ ++ (⟨(dg 2 s).toArray⟩ : Str) ++ ⟨[32].toArray⟩ ++ (⟨(zs :: dg 4 z).toArray⟩ : Str) = _
  simp only [strApp]
  rfl
theorem txt_tx {c : Nat → Int} (ok : Okc c) : txt c = ⟨(tx (wdC (c 0).toNat 0) (wdC (c 0).toNat 1) (wdC (c 0).toNat 2) (moC (c 1 - 1).toNat 0) (moC (c 1 - 1).toNat 1) (moC (c 1 - 1).toNat 2)
    (c 2).toNat (c 3).toNat (c 4).toNat (c 5).toNat (c 6).toNat (if c 7 = 0 then 43 else 45) (100 * c 8 + c 9).toNat).toArray⟩ := by
  obtain ⟨c0, c1, c2, c3, c4, c5, c6, c7, c8, c9⟩ := ok
  unfold txt fmtT zoneL
  rw [(wdC_ok (c 0).toNat (by omega)).1, (moC_ok (c 1 - 1).toNat (by omega)).1]
  rw [padS_dg (k := 1) (n := c 2) (by omega) (by omega), padS_dg (k := 3) (n := c 3) (by omega) (by omega), padS_dg (k := 1) (n := c 4) (by omega) (by omega), padS_dg (k := 1) (n := c 5) (by omega) (by omega), padS_dg (k := 1) (n := c 6) (by omega) (by omega)]
  exact glue_tx ..
/-- what the program reads out of a letter's text -/
noncomputable def tzOf (c : Nat → Int) : List Int := [c 3, c 1, c 2, c 4, c 5, c 6, 0, 1, -1, (1 - 2 * c 7) * (3600 * c 8 + 60 * c 9)]
theorem off_tz {c : Nat → Int} (ok : Okc c) : (if (if c 7 = 0 then 43 else 45) = 45 then -1 else 1) * ((((100 * c 8 + c 9).toNat) / 100 * 3600 + ((100 * c 8 + c 9).toNat) % 100 * 60 : Nat) : Int) = (1 - 2 * c 7) * (3600 * c 8 + 60 * c 9) := by
  obtain ⟨c0, c1, c2, c3, c4, c5, c6, c7, c8, c9⟩ := ok
  have e : ((((100 * c 8 + c 9).toNat) / 100 * 3600 + ((100 * c 8 + c 9).toNat) % 100 * 60 : Nat) : Int) = 3600 * c 8 + 60 * c 9 := by omega
  rw [e]
  by_cases h : c 7 = 0
  · rw [if_pos h, h]; simp
  · have h1 : c 7 = 1 := by omega
    rw [if_neg h, h1]; rfl

noncomputable def fd24 : FuncData := Subtype.val (p := fun x => x = fdOf 24) (by
  refine ⟨?_, ?_⟩
  rotate_left
  · conv => rhs; whnf)
theorem fn24 (w : World) : (HK w).lookup 24 = some { cls := .type "function", data := .func fd24 } := by kernel_rfl

noncomputable def fd38 : FuncData := Subtype.val (p := fun x => x = fdOf 38) (by
  refine ⟨?_, ?_⟩
  rotate_left
  · conv => rhs; whnf)
theorem fn38 (w : World) : (HK w).lookup 38 = some { cls := .type "function", data := .func fd38 } := by kernel_rfl

section
variable {prog : Program} {w : World} {A : Around} {E : Value → Shared → Prop} {s : Shared} {mg mb : Str → Option Value}
theorem mkTupL {l : Addr} {items : List Value} {Q : Value → Shared → Prop} (hl : s.heap.PlainList l items.toArray) (hz : items.length < 2 ^ 20)
    (h : ∀ h' b, Keep s.heap h' → s.heap.get? b = none → h'.get? b = some { cls := .type "tuple", data := .seq items.toArray } → Q (.ref b) { s with heap := h' }) : wpAny (model prog w) A (call (.type "tuple") [.ref l]) Q E s := by
  refine call_tuple_list hl.isList (fun h' hk => ?_) (by rw [sizeLine_eq, List.size_toArray]; omega)
  exact h _ _ (fun b o e => Heap.get?_push_of_some _ (hk _ _ e)) (fresh_of hk) (Heap.get?_push_size _ rfl)
theorem ints10 (n0 n1 n2 n3 n4 n5 n6 n7 n8 n9 : Int) (t0 t1 t2 t3 t4 t5 t6 t7 t8 t9 : Tok) : IntsAre [.int n0 t0, .int n1 t1, .int n2 t2, .int n3 t3, .int n4 t4, .int n5 t5, .int n6 t6, .int n7 t7, .int n8 t8, .int n9 t9] [n0, n1, n2, n3, n4, n5, n6, n7, n8, n9] :=
  .cons _ _ (.cons _ _ (.cons _ _ (.cons _ _ (.cons _ _ (.cons _ _ (.cons _ _ (.cons _ _ (.cons _ _ (.cons _ _ .nil)))))))))
theorem set9 (a0 a1 a2 a3 a4 a5 a6 a7 a8 a9 v : Value) : #[a0, a1, a2, a3, a4, a5, a6, a7, a8, a9].setIfInBounds (9 : Int).toNat v = #[a0, a1, a2, a3, a4, a5, a6, a7, a8, v] := by rfl
set_option maxHeartbeats 1000000 in
theorem ptz_spec {c : Nat → Int} {t : Tok} {Q : Value → Shared → Prop} (C : Cx w mg mb s.heap) (R : Rm A 8) (ok : Okc c)
    (hQ : ∀ h' tk b vs, Keep s.heap h' → s.heap.get? b = none → h'.get? b = some { cls := .type "tuple", data := .seq (List.toArray vs) } → IntsAre vs (tzOf c) → Q (.ref b) { s with heap := h', toks := tk }) :
    wpAny (model prog w) A (call (.ref 24) [.str (txt c) t]) Q E s := by
  refine enterF [(Str.ofString "data", .str (txt c) t)] C R (fn24 w) (by kernel_rfl) rfl (BindsTo.of_eq rfl) (by rfl) (by decide) (fun h1 N1 K1 C1 R1 => ?_)
  have hL : s.heap.get? (callEnv fd24 s.heap.objs.size 24).locals = none := fresh_none
  refine wpAny_execs_cons ?_
  refine wpAny_Assign_Name ?_
  refine Call_ ?_
  refine nmG (v := .ref 31) C1 (by kernel_rfl) ?_
  refine callWith_def (o := { cls := .type "function", data := .func fd31 }) rfl ?_
  refine args_cons ?_
  refine nmL N1 rfl ?_
  refine args_nil ?_
  refine ⟨C1.k _ _ (fn31 w), ?_⟩
  have wk := wdC_ok (c 0).toNat (by have := ok.c0; omega)
  have mk := moC_ok (c 1 - 1).toNat (by have := ok.c1; omega)
  rw [txt_tx ok]
  have ofz := off_tz ok
  obtain ⟨c0, c1, c2, c3, c4, c5, c6, c7, c8, c9⟩ := ok
  refine ptz0_spec (k := (c 1 - 1).toNat) C1 (R1.le (by decide)) wk.2.1 wk.2.2.1 wk.2.2.2 mk.2.1 mk.2.2.1 mk.2.2.2 (by omega) mk.1.symm (by omega) (by omega) (by omega) (by omega) (by omega) ?_ (by omega) ?_
  · by_cases h7 : c 7 = 0
    · exact .inl (if_pos h7)
    · exact .inr (if_neg h7)
  intro h2 tk2 b t0 t1 t2 t3 t4 t5 t6 t7 t8 o k2 f2 n2 hoff
  dsimp only at k2 f2 ⊢
  have e1 : (((c 1 - 1).toNat + 1 : Nat) : Int) = c 1 := by omega
  have e2 : ((c 2).toNat : Int) = c 2 := by omega
  have e3 : ((c 3).toNat : Int) = c 3 := by omega
  have e4 : ((c 4).toNat : Int) = c 4 := by omega
  have e5 : ((c 5).toNat : Int) = c 5 := by omega
  have e6 : ((c 6).toNat : Int) = c 6 := by omega
  rw [e1, e2, e3, e4, e5, e6] at n2
  have N2 := N1.keeps k2
  have K2 : Keep s.heap h2 := fun b o e => k2 _ _ (K1 _ _ e)
  have fb : s.heap.get? b = none := by
    cases hq : s.heap.get? b with
    | none => rfl
    | some o' => rw [K1 _ _ hq] at f2; cases f2
  refine stL N2 K2 hL ?_
  intro h3 tq3 N3 K3 s3
  dsimp only at N3 s3 ⊢
  have n3 := plain_same n2 s3 (list_ne_ns n2 N2)
  refine wpAny_execs_cons ?_
  refine wpAny_If ?_
  refine isTrue_not ?_
  refine isTrue_plain ?_
  refine nmL N3 rfl ?_
  refine wpAny_truthy_list n3.isList ?_ ?_
  · show ((10 : Nat) : Int) < 2 ^ 63
    decide
  try dsimp only
  refine wpAny_execs_nil ?_
  try dsimp only
  refine wpAny_execs_cons ?_
  refine wpAny_If ?_
  refine wpAny_isTrue_Compare1 ?_
  refine Subscript_ ?_
  refine nmL N3 rfl ?_
  refine wpAny_Constant_int ?_
  refine itemAt (vs := [_, _, _, _, _, _, _, _, _, _]) 9 n3 rfl (by decide) ?_
  refine wpAny_Constant_none ?_
  rcases hoff with ⟨rfl, hz⟩ | ⟨t9, rfl⟩
  · refine wpAny_is_self rfl ?_
    refine wpAny_truthy_bool ?_
    try dsimp only
    refine wpAny_execs_cons ?_
    refine wpAny_Assign_Subscript ?_
    refine wpAny_Constant_int ?_
    refine nmL N3 rfl ?_
    refine wpAny_Constant_int ?_
    refine setPlain n3 (by decide) (by decide) (by show (9 : Int) < ((10 : Nat) : Int); decide) ?_
    intro h4 n4 s4
    dsimp only at n4 s4 ⊢
    rw [set9] at n4
    have N4 := N3.sameBut s4 (fun e => list_ne_ns n3 N3 e.symm)
    have K4 : Keep s.heap h4 := fun b o e => (s4.2 b (fun e' => by rw [e', fb] at e; cases e)).trans (K3 _ _ e)
    have C4 := C.keeps K4
    refine wpAny_execs_nil ?_
    try dsimp only
    refine wpAny_execs_cons ?_
    refine wpAny_Return_some ?_
    refine Call_ ?_
    refine nmB C4 (by kernel_rfl) boot_tuple (by decide) ?_
    refine cwt1 ?_
    refine args_cons ?_
    refine nmL N4 rfl ?_
    refine args_nil ?_
    refine mkTupL (items := [_, _, _, _, _, _, _, _, _, _]) n4 (by show 10 < 2 ^ 20; decide) ?_
    intro h5 b5 k5 f5 g5
    dsimp only at k5 f5 ⊢
    refine hQ h5 _ b5 _ (fun b o e => k5 _ _ (K4 _ _ e)) ?_ g5 ?_
    · cases hq : s.heap.get? b5 with
      | none => rfl
      | some o' => rw [K4 _ _ hq] at f5; cases f5
    · have e9 : (1 - 2 * c 7) * (3600 * c 8 + 60 * c 9) = 0 := by
        rw [hz] at ofz
        rw [← ofz]
        simp
      unfold tzOf
      rw [e9]
      exact ints10 ..
  · refine wpAny_is_other rfl (by intro e; cases e) ?_
    refine wpAny_truthy_bool ?_
    try dsimp only
    refine wpAny_execs_nil ?_
    try dsimp only
    have C3 := C.keeps K3
    refine wpAny_execs_cons ?_
    refine wpAny_Return_some ?_
    refine Call_ ?_
    refine nmB C3 (by kernel_rfl) boot_tuple (by decide) ?_
    refine cwt1 ?_
    refine args_cons ?_
    refine nmL N3 rfl ?_
    refine args_nil ?_
    refine mkTupL (items := [_, _, _, _, _, _, _, _, _, _]) n3 (by show 10 < 2 ^ 20; decide) ?_
    intro h5 b5 k5 f5 g5
    dsimp only at k5 f5 ⊢
    refine hQ h5 _ b5 _ (fun b o e => k5 _ _ (K3 _ _ e)) ?_ g5 ?_
    · cases hq : s.heap.get? b5 with
      | none => rfl
      | some o' => rw [K3 _ _ hq] at f5; cases f5
    · unfold tzOf
      rw [← ofz]
      exact ints10 ..

end
end Mine
namespace Mine
open PySem PySem.W PyProof.Rows
section
variable {prog : Program} {w : World} {A : Around} {E : Value → Shared → Prop} {s : Shared} {mg mb : Str → Option Value}
theorem sliceApplied_9 {sl : Addr} {u : Tok} {Q : Int × Int × Nat → Shared → Prop} (hs : s.heap.IsSliceOf sl .none (.int 9 u) .none) (h : Q (0, 1, 9) s) :
    wpAny (model prog w) A (Builtin.Slice.sliceApplied (.ref sl) (pure ((10 : Nat) : Int))) Q E s := by
  obtain ⟨os, hos, hcs, hds⟩ := id hs
  unfold Builtin.Slice.sliceApplied Builtin.Slice.sliceFields
  refine wpAny_bind (wpAny_bind (wpAny_field hos hds (x := .none) rfl (wpAny_bind (wpAny_field hos hds (x := .int 9 u) rfl (wpAny_bind (wpAny_field hos hds (x := .none) rfl (wpAny_pure ?_)))))))
  refine wpAny_bind (slicePart_none ?_)
  show wpAny _ _ (if ((1 : Int) == 0) = true then _ else _) _ _ s
  rw [if_neg (by decide)]
  refine wpAny_bind (slicePart_none (wpAny_bind (slicePart_int (wpAny_bind (wpAny_pure ?_)))))
  exact wpAny_pure h
theorem getItem_9 {t sl : Addr} {a0 a1 a2 a3 a4 a5 a6 a7 a8 a9 : Value} {u : Tok} {Q : Value → Shared → Prop} (ht : IsTup s.heap t #[a0, a1, a2, a3, a4, a5, a6, a7, a8, a9]) (hs : s.heap.IsSliceOf sl .none (.int 9 u) .none)
    (h : Q (.ref s.heap.objs.size) { s with heap := s.heap.push { cls := .type "tuple", data := .seq #[a0, a1, a2, a3, a4, a5, a6, a7, a8] } }) : wpAny (model prog w) A (getItem (.ref t) (.ref sl)) Q E s := by
  obtain ⟨os, hos, hcs, hds⟩ := id hs
  have hTs : s.TypeIs (.ref sl) "slice" := ⟨os, hos, hcs⟩
  unfold getItem
  try with_reducible refine wpAny_holding ?_
  first | refine wpAny_bind (wpAny_pure ?_) | skip
  refine wpAny_bind (wpAny_sequenceKey ht.typeIs (by decide) ?_)
  refine wpAny_bind (wpAny_callSpecial?_slot (name := Str.ofString "__getitem__") ht.typeIs slot_tuple_getitem
    (wpAny_call_entry slot_tuple_getitem ht.typeIs entry_tuple_getitem ?_ (args_tuple_getitem _ _)))
  show wpAny _ _ (Builtin.Tuple.tupleItemsOf (.ref t) >>= _) _ _ s
  refine wpAny_bind (tupleItemsOf_ ht ?_)
  refine wpAny_bind (wpAny_typeOf hTs ?_)
  rw [if_pos (by decide)]
  refine wpAny_bind (sliceApplied_9 hs ?_)
  have hd : sizeOk (.seq #[a0, a1, a2, a3, a4, a5, a6, a7, a8]) := by show 9 ≤ sizeLine; decide
  exact wpAny_bind (m := Builtin.Tuple.tupleExact _) (wpAny_newObj_type (wpAny_pure ⟨_, rfl, wpAny_pure h⟩) hd)
theorem slice_9 {value slice : Expr} {t : Addr} {a0 a1 a2 a3 a4 a5 a6 a7 a8 a9 : Value} {u : Tok} {ops : List Value} {Q : Value → Shared → Prop} (ht : IsTup s.heap t #[a0, a1, a2, a3, a4, a5, a6, a7, a8, a9])
    (hs : subscripted slice false (.ref t) (.ref s.heap.objs.size) = operate ops (getItem (.ref t) (.ref s.heap.objs.size)))
    (h : ∀ h', Keep s.heap h' → h'.get? (s.heap.objs.size + 1) = some { cls := .type "tuple", data := .seq #[a0, a1, a2, a3, a4, a5, a6, a7, a8] } → Q (.ref (s.heap.objs.size + 1)) { s with heap := h' }) :
    wpAny (model prog w) A (subscriptTail value slice (.ref t) (.ref s.heap.objs.size)) Q E { s with heap := s.heap.push { cls := .type "slice", data := .fields #[.none, .int 9 u, .none] } } := by
  have hp : IsTup (s.heap.push { cls := .type "slice", data := .fields #[.none, .int 9 u, .none] }) t #[a0, a1, a2, a3, a4, a5, a6, a7, a8, a9] := tup_keep ht (new_keep _ _)
  refine tail_any (T := "tuple") hp.typeIs slot_tuple_getitem.lookup (getItem_9 hp (Heap.IsSliceOf.new ..) ?_) hs
  have e1 : (s.heap.push { cls := .type "slice", data := .fields #[.none, .int 9 u, .none] }).objs.size = s.heap.objs.size + 1 := Heap.size_push ..
  show Q (.ref (s.heap.push _).objs.size) _
  rw [e1]
  refine h _ (fun b o e => Heap.get?_push_of_some _ (Heap.get?_push_of_some _ e)) ?_
  rw [← e1]; exact Heap.get?_push_size _ rfl
set_option maxHeartbeats 1000000 in
theorem pd_spec {c : Nat → Int} {t : Tok} {Q : Value → Shared → Prop} (C : Cx w mg mb s.heap) (R : Rm A 10) (ok : Okc c)
    (hQ : ∀ h' tk b vs, Keep s.heap h' → s.heap.get? b = none → h'.get? b = some { cls := .type "tuple", data := .seq (List.toArray vs) } → IntsAre vs ((tzOf c).take 9) → Q (.ref b) { s with heap := h', toks := tk }) :
    wpAny (model prog w) A (call (.ref 38) [.str (txt c) t]) Q E s := by
  refine enterF [(Str.ofString "data", .str (txt c) t)] C R (fn38 w) (by kernel_rfl) rfl (BindsTo.of_eq rfl) (by rfl) (by decide) (fun h1 N1 K1 C1 R1 => ?_)
  have hL : s.heap.get? (callEnv fd38 s.heap.objs.size 38).locals = none := fresh_none
  refine wpAny_execs_cons ?_
  refine wpAny_Assign_Name ?_
  refine Call_ ?_
  refine nmG (v := .ref 24) C1 (by kernel_rfl) ?_
  refine callWith_def (o := { cls := .type "function", data := .func fd24 }) rfl ?_
  refine args_cons ?_
  refine nmL N1 rfl ?_
  refine args_nil ?_
  refine ⟨C1.k _ _ (fn24 w), ?_⟩
  refine ptz_spec C1 (R1.le (by decide)) ok ?_
  intro h2 tk2 b vs k2 f2 g2 i2
  dsimp only at k2 f2 ⊢
  have N2 := N1.keeps k2
  have K2 : Keep s.heap h2 := fun b o e => k2 _ _ (K1 _ _ e)
  refine stL N2 K2 hL ?_
  intro h3 tq3 N3 K3 s3
  dsimp only at N3 s3 ⊢
  have bL : b ≠ s.heap.objs.size := tup_ne_ns (tupOf g2) N2
  have g3 : h3.get? b = _ := (s3.2 b bL).trans g2
  have C3 := C.keeps K3
  refine wpAny_execs_cons ?_
  refine wpAny_If ?_
  refine isTrue_plain ?_
  refine Call_ ?_
  refine nmB C3 (by kernel_rfl) boot_isinstance (by decide) ?_
  refine cwb2 ?_
  refine args_cons ?_
  refine nmL N3 rfl ?_
  refine args_cons ?_
  refine nmB C3 (by kernel_rfl) boot_tuple (by decide) ?_
  refine args_nil ?_
  refine IsiPair.tuple_tuple g3 rfl ?_
  refine wpAny_truthy_bool ?_
  try dsimp only
  refine wpAny_execs_cons ?_
  refine wpAny_Return_some ?_
  refine Subscript_ ?_
  refine nmL N3 rfl ?_
  refine wpAny_Slice ?_
  refine partN ?_
  refine partS ?_
  refine wpAny_Constant_int ?_
  refine partN ?_
  try dsimp only
  obtain ⟨t0, q0, rfl, j0⟩ := i2.cons_inv
  obtain ⟨t1, q1, rfl, j1⟩ := j0.cons_inv
  obtain ⟨t2, q2, rfl, j2⟩ := j1.cons_inv
  obtain ⟨t3, q3, rfl, j3⟩ := j2.cons_inv
  obtain ⟨t4, q4, rfl, j4⟩ := j3.cons_inv
  obtain ⟨t5, q5, rfl, j5⟩ := j4.cons_inv
  obtain ⟨t6, q6, rfl, j6⟩ := j5.cons_inv
  obtain ⟨t7, q7, rfl, j7⟩ := j6.cons_inv
  obtain ⟨t8, q8, rfl, j8⟩ := j7.cons_inv
  obtain ⟨t9, q9, rfl, j9⟩ := j8.cons_inv
  have := j9.nil_inv
  subst this
  refine slice_9 (s := ⟨_, _, _, _, _⟩) (tupOf g3) (by with_unfolding_all rfl) ?_
  intro h4 k4 g4
  dsimp only at k4 g4 ⊢
  refine hQ h4 _ _ [_, _, _, _, _, _, _, _, _] (fun b o e => k4 _ _ (K3 _ _ e)) ?_ g4 ?_
  · cases hq : s.heap.get? (h3.objs.size + 1) with
    | none => rfl
    | some o' => exact absurd (Heap.lt_size (K3 _ _ hq)) (Nat.not_lt.mpr (Nat.le_add_right _ _))
  · exact .cons _ _ (.cons _ _ (.cons _ _ (.cons _ _ (.cons _ _ (.cons _ _ (.cons _ _ (.cons _ _ (.cons _ _ .nil))))))))
end
end Mine
namespace Mine
open PySem PySem.W PyProof.Rows PySem.SeqAt

/-- lists of ints, as in a dictionary -/
noncomputable def lexLt : List Int → List Int → Bool
  | [], [] => false
  | [], _ :: _ => true
  | _ :: _, [] => false
  | a :: as, b :: bs => if a = b then lexLt as bs else decide (a < b)
theorem lex_asym : ∀ a b : List Int, lexLt a b = true → lexLt b a = false
  | [], [], _ => rfl
  | [], _ :: _, _ => rfl
  | _ :: _, [], h => by cases h
  | a :: as, b :: bs, h => by
    unfold lexLt at h ⊢
    by_cases e : a = b
    · rw [if_pos e] at h; rw [if_pos e.symm]; exact lex_asym as bs h
    · rw [if_neg e] at h; rw [if_neg (fun x => e x.symm)]
      have := of_decide_eq_true h
      exact decide_eq_false (by omega)
theorem lex_ntr : ∀ a b c : List Int, lexLt a b = false → lexLt b c = false → lexLt a c = false
  | [], [], c, _, h => h
  | [], _ :: _, c, h, _ => by cases h
  | _ :: _, _, [], _, _ => rfl
  | a :: as, [], c :: cs, _, h => by cases h
  | a :: as, b :: bs, c :: cs, h1, h2 => by
    unfold lexLt at h1 h2 ⊢
    by_cases e : a = b
    · subst e
      rw [if_pos rfl] at h1
      by_cases f : a = c
      · subst f
        rw [if_pos rfl] at h2 ⊢
        exact lex_ntr as bs cs h1 h2
      · rw [if_neg f] at h2 ⊢; exact h2
    · rw [if_neg e] at h1
      have g1 := of_decide_eq_false h1
      by_cases f : b = c
      · subst f
        rw [if_neg e]; exact h1
      · rw [if_neg f] at h2
        have g2 := of_decide_eq_false h2
        rw [if_neg (by omega)]
        exact decide_eq_false (by omega)
theorem lex_tri : ∀ a b : List Int, lexLt a b = false → lexLt b a = false → a = b
  | [], [], _, _ => rfl
  | [], _ :: _, h, _ => by cases h
  | _ :: _, [], _, h => by cases h
  | a :: as, b :: bs, h1, h2 => by
    unfold lexLt at h1 h2
    by_cases e : a = b
    · subst e
      rw [if_pos rfl] at h1 h2
      rw [lex_tri as bs h1 h2]
    · rw [if_neg e] at h1; rw [if_neg (fun x => e x.symm)] at h2
      have g1 := of_decide_eq_false h1
      have g2 := of_decide_eq_false h2
      omega
theorem lex_ord : Ord lexLt := ⟨lex_asym, lex_ntr⟩

/-- a tuple of ints; a list of ints; a tuple of a tuple and ints; a tuple of a text and ints -/
noncomputable def TI (h : Heap) (v : Value) (ns : List Int) : Prop := ∃ a us, v = .ref a ∧ IsTup h a (List.toArray us) ∧ IntsAre us ns
noncomputable def LI (h : Heap) (v : Value) (ns : List Int) : Prop := ∃ a us, v = .ref a ∧ h.PlainList a (List.toArray us) ∧ IntsAre us ns
noncomputable def XI (h : Heap) (v : Value) (ns is : List Int) : Prop := ∃ a x us, v = .ref a ∧ IsTup h a (List.toArray (x :: us)) ∧ TI h x ns ∧ IntsAre us is
noncomputable def SI (h : Heap) (v : Value) (z : Str) (is : List Int) : Prop := ∃ a t us, v = .ref a ∧ IsTup h a (List.toArray (.str z t :: us)) ∧ IntsAre us is
theorem TI.keep {h h' : Heap} {v : Value} {ns : List Int} (x : TI h v ns) (k : Keep h h') : TI h' v ns := let ⟨a, us, e, p, i⟩ := x; ⟨a, us, e, tup_keep p k, i⟩
theorem LI.keep {h h' : Heap} {v : Value} {ns : List Int} (x : LI h v ns) (k : Keep h h') : LI h' v ns := let ⟨a, us, e, p, i⟩ := x; ⟨a, us, e, plain_keep p k, i⟩
theorem XI.keep {h h' : Heap} {v : Value} {ns is : List Int} (x : XI h v ns is) (k : Keep h h') : XI h' v ns is := let ⟨a, y, us, e, p, q, i⟩ := x; ⟨a, y, us, e, tup_keep p k, q.keep k, i⟩
theorem SI.keep {h h' : Heap} {v : Value} {z : Str} {is : List Int} (x : SI h v z is) (k : Keep h h') : SI h' v z is := let ⟨a, t, us, e, p, i⟩ := x; ⟨a, t, us, e, tup_keep p k, i⟩
theorem ints_eq : ∀ {us : List Value} {ns ms : List Int}, IntsAre us ns → IntsAre us ms → ns = ms
  | _, _, _, .nil, .nil => rfl
  | _, _, _, .cons n t a, h => by
    cases h with
    | cons _ _ b => rw [ints_eq a b]
theorem tup_eq {h : Heap} {a : Addr} {xs ys : Array Value} (x : IsTup h a xs) (y : IsTup h a ys) : xs = ys := by
  obtain ⟨o, e, _, n, d⟩ := x
  obtain ⟨o', e', _, n', d'⟩ := y
  rw [e] at e'; cases e'
  rw [d] at d'; cases d'; rfl
theorem TI.eq {h : Heap} {v : Value} {ns ms : List Int} (x : TI h v ns) (y : TI h v ms) : ns = ms := by
  obtain ⟨a, us, rfl, p, i⟩ := x
  obtain ⟨b, vs, e, q, j⟩ := y
  cases e
  have := tup_eq p q
  have e2 : us = vs := by simpa using this
  subst e2
  exact ints_eq i j

section
variable {A : Around} {s : Shared}
theorem ltz_ints : ∀ {us us' : List Value} {ns ns' : List Int}, IntsAre us ns → IntsAre us' ns' → LtZip A s (decide (us.length < us'.length)) (us.zip us') (lexLt ns ns')
  | _, _, _, _, .nil, .nil => rfl
  | _, _, _, _, .nil, .cons b u j => by show true = _; simp
  | _, _, _, _, .cons a t i, .nil => by show false = _; simp
  | _, _, _, _, .cons (vs := us) (ns := ns) a t i, .cons (vs := us') (ns := ns') b u j => by
    have ih := ltz_ints i j
    have e : decide ((Value.int a t :: us).length < (Value.int b u :: us').length) = decide (us.length < us'.length) := by simp
    rw [e]
    unfold lexLt
    by_cases h : a = b
    · rw [if_pos h]
      refine .inl ⟨?_, ih⟩
      have := EqAt.int (A := A) (s := s) a b t u
      rw [h, beq_self_eq_true] at this
      rw [h]; exact this
    · rw [if_neg h]
      refine .inr ⟨?_, LtAt.int a b t u⟩
      have := EqAt.int (A := A) (s := s) a b t u
      rw [beq_eq_false_iff_ne.mpr h] at this
      exact this
theorem LtAt.ti {v v' : Value} {ns ns' : List Int} (x : TI s.heap v ns) (y : TI s.heap v' ns') (hu : A.units < cLine) : LtAt A s v v' (lexLt ns ns') := by
  obtain ⟨a, us, rfl, p, i⟩ := x
  obtain ⟨b, us', rfl, q, j⟩ := y
  refine LtAt.tuples p q hu ?_
  have := ltz_ints (A := A.in1) (s := s) i j
  simpa using this
theorem EqAt.ti {v v' : Value} {ns ns' : List Int} (x : TI s.heap v ns) (y : TI s.heap v' ns') (hu : A.units < cLine) : EqAt A s v v' (decide (ns = ns')) := by
  by_cases e : v = v'
  · subst e
    rw [decide_eq_true (x.eq y)]
    exact EqAt.same _
  · obtain ⟨a, us, rfl, p, i⟩ := x
    obtain ⟨b, us', rfl, q, j⟩ := y
    refine EqAt.of_refs (fun h => e (by rw [h])) ?_
    have li : us.length = ns.length := i.length
    have lj : us'.length = ns'.length := j.length
    have r := RcAt.tuples (A := A) (s := s) (e := fun k => decide (ns[k]? = ns'[k]?)) p q hu (fun k h1 h2 => by
      have k1 : k < ns.length := by rw [← li]; simpa using h1
      have k2 : k < ns'.length := by rw [← lj]; simpa using h2
      obtain ⟨t, ht⟩ := IntsAre.get_ i (List.getElem?_eq_getElem k1)
      obtain ⟨t', ht'⟩ := IntsAre.get_ j (List.getElem?_eq_getElem k2)
      have g1 : us.toArray[k]'h1 = .int ns[k] t := by
        have h1' : k < us.length := by simpa using h1
        rw [List.getElem?_eq_getElem h1'] at ht
        simpa using Option.some.inj ht
      have g2 : us'.toArray[k]'h2 = .int ns'[k] t' := by
        have h2' : k < us'.length := by simpa using h2
        rw [List.getElem?_eq_getElem h2'] at ht'
        simpa using Option.some.inj ht'
      rw [g1, g2]
      have := EqAt.int (A := A.in1) (s := s) ns[k] ns'[k] t t'
      rw [List.getElem?_eq_getElem k1, List.getElem?_eq_getElem k2]
      have e : decide (some ns[k] = some ns'[k]) = (ns[k] == ns'[k]) := by
        by_cases hh : ns[k] = ns'[k] <;> simp [hh]
      rw [e]; exact this)
    have e2 : ((List.range (min us.toArray.size us'.toArray.size)).all (fun k => decide (ns[k]? = ns'[k]?)) && us.toArray.size == us'.toArray.size) = decide (ns = ns') := by
      rw [List.size_toArray, List.size_toArray, li, lj]
      by_cases hh : ns = ns'
      · subst hh; simp
      · rw [decide_eq_false hh]
        by_cases hl : ns.length = ns'.length
        · have : (ns.length == ns'.length) = true := by simp [hl]
          rw [this, Bool.and_true, hl, Nat.min_self]
          apply Bool.eq_false_iff.mpr
          intro hall
          apply hh
          apply List.ext_getElem?
          intro k
          by_cases hk : k < ns'.length
          · have := List.all_eq_true.mp hall k (List.mem_range.mpr hk)
            exact of_decide_eq_true this
          · rw [List.getElem?_eq_none (by omega), List.getElem?_eq_none (by omega)]
        · have : (ns.length == ns'.length) = false := by simp [hl]
          rw [this, Bool.and_false]
    rw [e2] at r
    exact r
/-- pairs: by the first, then by the rest -/
noncomputable def lexX (p q : List Int × List Int) : Bool := if p.1 = q.1 then lexLt p.2 q.2 else lexLt p.1 q.1
theorem ltz_xi {x x' : Value} {us us' : List Value} {ns ns' is is' : List Int} (p : TI s.heap x ns) (q : TI s.heap x' ns') (hu : A.units < cLine) (i : IntsAre us is) (j : IntsAre us' is') :
    LtZip A s (decide ((x :: us).length < (x' :: us').length)) ((x :: us).zip (x' :: us')) (lexX (ns, is) (ns', is')) := by
  have e : decide ((x :: us).length < (x' :: us').length) = decide (us.length < us'.length) := by simp
  rw [e]
  unfold lexX
  dsimp only
  have he := EqAt.ti (A := A) (s := s) p q hu
  by_cases h : ns = ns'
  · rw [if_pos h]
    rw [decide_eq_true h] at he
    exact .inl ⟨he, ltz_ints i j⟩
  · rw [if_neg h]
    rw [decide_eq_false h] at he
    exact .inr ⟨he, LtAt.ti p q hu⟩
theorem LtAt.xi {v v' : Value} {ns ns' is is' : List Int} (x : XI s.heap v ns is) (y : XI s.heap v' ns' is') (hu : A.units + 1 < cLine) : LtAt A s v v' (lexX (ns, is) (ns', is')) := by
  obtain ⟨a, x, us, rfl, p, tx, i⟩ := x
  obtain ⟨b, y, us', rfl, q, ty, j⟩ := y
  refine LtAt.tuples p q (by omega) ?_
  have := ltz_xi (A := A.in1) (s := s) tx ty hu i j
  simpa using this
noncomputable def lexS (p q : Str × List Int) : Bool := if p.1 = q.1 then lexLt p.2 q.2 else decide (p.1.cps.toList < q.1.cps.toList)
theorem LtAt.si {v v' : Value} {z z' : Str} {is is' : List Int} (x : SI s.heap v z is) (y : SI s.heap v' z' is') (hu : A.units < cLine) : LtAt A s v v' (lexS (z, is) (z', is')) := by
  obtain ⟨a, t, us, rfl, p, i⟩ := x
  obtain ⟨b, t', us', rfl, q, j⟩ := y
  refine LtAt.tuples p q hu ?_
  have e : decide ((Value.str z t :: us).toArray.size < (Value.str z' t' :: us').toArray.size) = decide (us.length < us'.length) := by simp
  rw [e]
  unfold lexS
  dsimp only
  show LtZip A.in1 s _ ((.str z t, .str z' t') :: us.zip us') _
  have he := EqAt.str (A := A.in1) (s := s) z z' t t'
  by_cases h : z = z'
  · rw [if_pos h]
    rw [decide_eq_true h] at he
    exact .inl ⟨he, ltz_ints i j⟩
  · rw [if_neg h]
    rw [decide_eq_false h] at he
    exact .inr ⟨he, LtAt.str z z' t t'⟩
end
end Mine
namespace Mine
open PySem PySem.W PyProof.Rows PySem.SeqAt

noncomputable def GtAt (A : Around) (s : Shared) (a b : Value) (k : Bool) : Prop :=
  ∀ (prog : Program) (w : World) (E : Value → Shared → Prop) (Q : Value → Shared → Prop), Q (.bool k) s → wpAny (model prog w) A (richCompare .Gt a b) Q E s

noncomputable def GtZip (A : Around) (s : Shared) (fin : Bool) : List (Value × Value) → Bool → Prop
  | [], k => k = fin
  | (x, y) :: r, k => (EqAt A s x y true ∧ GtZip A s fin r k) ∨ (EqAt A s x y false ∧ GtAt A s x y k)

theorem tuple_gt_eq (a b : Addr) : Builtin.«tuple.__gt__» ⟨[.ref a, .ref b], []⟩ = (do
  let (a, [b]) ← slotArgs "__gt__" 1 ⟨[.ref a, .ref b], []⟩ | unsupported "internal:tuple.compare"
  if !(← isInstance b (.type "tuple")) then return ← ret .notImplemented
  let xs ← Builtin.Tuple.tupleItemsOf a
  let ys ← Builtin.Tuple.tupleItemsOf b
  for (x, y) in xs.toList.zip ys.toList do
    if !(← eqBool x y) then
      rule "tuple.compare.by-the-first-pair-that-differs"; return ← ret (← richCompare .Gt x y)
  ret (Builtin.Tuple.tupleCompareSizes .Gt xs.size ys.size)) := rfl

section
variable {prog : Program} {w : World} {A : Around} {E : Value → Shared → Prop} {s : Shared}

theorem tuple_gt_spec {l b : Addr} {items items2 : Array Value} {k : Bool} {Q : Fin → Shared → Prop} (hl : s.heap.IsTuple l items) (hb : s.heap.IsTuple b items2)
    (hz : GtZip A s (decide (items.size > items2.size)) (items.toList.zip items2.toList) k) (h : Q (.done (.ret (.bool k))) s) :
    wpAny (model prog w) A (Builtin.«tuple.__gt__» ⟨[.ref l, .ref b], []⟩) Q E s := by
  obtain ⟨o, ho, hc, n, hd⟩ := id hl
  obtain ⟨o2, ho2, hc2, n2, hd2⟩ := id hb
  rw [tuple_gt_eq]
  refine wpAny_bind (wpAny_of_eq (a := (Value.ref l, [Value.ref b])) rfl ?_)
  dsimp only
  have hT2 : s.TypeIs (.ref b) "tuple" := ⟨o2, ho2, hc2⟩
  refine wpAny_bind (wpAny_isInstance hT2 AutoSeq1.sub_tuple_tuple ?_)
  simp only [Bool.not_true, Bool.false_eq_true, if_false]
  unfold Builtin.Tuple.tupleItemsOf
  refine wpAny_bind (wpAny_bind (wpAny_seqItems ho hd (wpAny_pure ?_)))
  refine wpAny_bind (wpAny_bind (wpAny_seqItems ho2 hd2 (wpAny_pure ?_)))
  refine wpAny_bind (wpAny_forIn_list _ (fun rest b s' => b.1 = none ∧ s' = s ∧ GtZip A s (decide (items.size > items2.size)) rest k) _ ?_ ?_ _ _ ⟨rfl, rfl, hz⟩)
  · rintro ⟨x, y⟩ rest b s' ⟨hb', rfl, hz⟩
    rcases hz with ⟨he, hr⟩ | ⟨he, hr⟩
    · refine wpAny_bind (he prog w _ _ ?_)
      simp only [Bool.not_true, Bool.false_eq_true, if_false]
      exact wpAny_pure ⟨rfl, rfl, hr⟩
    · refine wpAny_bind (he prog w _ _ ?_)
      simp only [Bool.not_false, if_true]
      exact wpAny_bind (wpAny_rule (wpAny_bind (hr prog w _ _ (wpAny_bind (wpAny_pure (wpAny_pure (wpAny_pure h)))))))
  · rintro ⟨b1, b2⟩ s' ⟨hb', rfl, hz⟩
    simp only at hb'
    subst hb'
    refine wpAny_pure ?_
    have e : k = decide (items.size > items2.size) := hz
    rw [e] at h
    exact h

theorem GtAt.tuples {l b : Addr} {items items2 : Array Value} {k : Bool} (hl : s.heap.IsTuple l items) (hb : s.heap.IsTuple b items2) (hu : A.units < cLine)
    (hz : GtZip A.in1 s (decide (items.size > items2.size)) (items.toList.zip items2.toList) k) : GtAt A s (.ref l) (.ref b) k := fun prog w E Q h => by
  have hT : s.TypeIs (.ref l) "tuple" := let ⟨o, ho, hc, _⟩ := hl; ⟨o, ho, hc⟩
  have hT2 : s.TypeIs (.ref b) "tuple" := let ⟨o, ho, hc, _⟩ := hb; ⟨o, ho, hc⟩
  exact wpAny_richCompare_same_room (op := .Gt) hT hT2 PySem.F.slot_tuple_gt (wpAny_call_entry PySem.F.slot_tuple_gt hT PySem.F.entry_tuple_gt (tuple_gt_spec hl hb hz ⟨_, rfl, by simp, h⟩) (PySem.F.args_tuple_gt_2 _ _)) hu
theorem GtAt.int (a b : Int) (t u : Tok) : GtAt A s (.int a t) (.int b u) (decide (b < a)) := fun prog w E Q h => SiftDown.gt_int h
theorem gtz_ints : ∀ {us us' : List Value} {ns ns' : List Int}, IntsAre us ns → IntsAre us' ns' → GtZip A s (decide (us.length > us'.length)) (us.zip us') (lexLt ns' ns)
  | _, _, _, _, .nil, .nil => rfl
  | _, _, _, _, .nil, .cons b u j => by show false = _; simp
  | _, _, _, _, .cons a t i, .nil => by show true = _; simp
  | _, _, _, _, .cons (vs := us) (ns := ns) a t i, .cons (vs := us') (ns := ns') b u j => by
    have ih := gtz_ints i j
    have e : decide ((Value.int a t :: us).length > (Value.int b u :: us').length) = decide (us.length > us'.length) := by simp
    rw [e]
    unfold lexLt
    by_cases h : b = a
    · rw [if_pos h]
      refine .inl ⟨?_, ih⟩
      have := EqAt.int (A := A) (s := s) a b t u
      rw [h, beq_self_eq_true] at this
      rw [h]; exact this
    · rw [if_neg h]
      refine .inr ⟨?_, GtAt.int a b t u⟩
      have := EqAt.int (A := A) (s := s) a b t u
      rw [beq_eq_false_iff_ne.mpr (fun e => h e.symm)] at this
      exact this
theorem GtAt.ti {v v' : Value} {ns ns' : List Int} (x : TI s.heap v ns) (y : TI s.heap v' ns') (hu : A.units < cLine) : GtAt A s v v' (lexLt ns' ns) := by
  obtain ⟨a, us, rfl, p, i⟩ := x
  obtain ⟨b, us', rfl, q, j⟩ := y
  refine GtAt.tuples p q hu ?_
  have := gtz_ints (A := A.in1) (s := s) i j
  simpa using this
end
end Mine
namespace Mine
open PySem PySem.W PyProof.Rows PySem.SeqAt
/-- the first of the best among 0 .. j -/
noncomputable def BestTo (bt : Nat → Nat → Bool) (j i : Nat) : Prop := i ≤ j ∧ ∀ j', j' ≤ j → bt j' i = false ∧ (j' < i → bt i j' = true)
theorem BestTo.zero {bt : Nat → Nat → Bool} (O : Ord bt) : BestTo bt 0 0 := ⟨Nat.le_refl _, fun j' h => by
  have : j' = 0 := by omega
  subst this
  exact ⟨O.irr 0, fun h => absurd h (Nat.lt_irrefl _)⟩⟩
theorem BestTo.new {bt : Nat → Nat → Bool} (O : Ord bt) {j i : Nat} (B : BestTo bt j i) (h : bt (j + 1) i = true) : BestTo bt (j + 1) (j + 1) := ⟨Nat.le_refl _, fun j' hj => by
  by_cases e : j' = j + 1
  · subst e
    exact ⟨O.irr _, fun h => absurd h (Nat.lt_irrefl _)⟩
  · have b := B.2 j' (by omega)
    refine ⟨O.ntr _ _ _ b.1 (O.asym _ _ h), fun _ => ?_⟩
    cases e : bt (j + 1) j' with
    | true => rfl
    | false => rw [O.ntr _ _ _ e b.1] at h; cases h⟩
theorem BestTo.old {bt : Nat → Nat → Bool} {j i : Nat} (B : BestTo bt j i) (h : bt (j + 1) i = false) : BestTo bt (j + 1) i := ⟨Nat.le_succ_of_le B.1, fun j' hj => by
  by_cases e : j' = j + 1
  · subst e
    exact ⟨h, fun hlt => by have := B.1; omega⟩
  · exact B.2 j' (by omega)⟩
section
variable {prog : Program} {w : World} {A : Around} {E : Value → Shared → Prop} {s : Shared}

theorem args_min_dk (a d v : Value) : argsOk "min" ⟨[a], [(Str.ofString "default", d), (Str.ofString "key", v)]⟩ := by unfold argsOk; kernel_rfl
set_option maxHeartbeats 1000000 in
theorem min_loop {I S l q : Addr} {vs : List Value} {kw : List (Str × Value)} {bt : Nat → Nat → Bool} {K : Nat → Obj → Prop} {R : Result → Shared → Prop} (O : Ord bt) (hh : A.handled = none)
    (hl : s.heap.IsList l vs.toArray) (hlI : l ≠ I) (hS : s.heap.get? S = none) (hSI : S ≠ I)
    (hkey : ∀ i v h tk, vs[i]? = some v → Kp [I] s.heap h → wpAny (model prog w) A.in1 (call (.ref q) [v]) (KeyBack K i { s with heap := h, toks := tk }) (fun _ _ => False) { s with heap := h, toks := tk })
    (hcmp : ∀ s' i j ka kb ko kp (C : Value → Shared → Prop), s'.heap.get? ka = some ko → K i ko → s'.heap.get? kb = some kp → K j kp → C (.bool (bt i j)) s' → wpAny (model prog w) A.in1 (richCompare .Lt (.ref ka) (.ref kb)) C (fun _ _ => False) s')
    (hR : ∀ i v h' tk', vs[i]? = some v → BestTo bt (vs.length - 1) i → Kp [I] s.heap h' → R (.ok (.ret v)) { s with heap := h', toks := tk' }) :
    ∀ (r j i : Nat) (h : Heap) (tk : Nat) (vb : Value) (kb : Addr) (ko : Obj) (c : Nat), vs.length - (j + 1) = r → j + 1 ≤ vs.length → Kp [I] s.heap h → h.get? S = some (seqObj "list" #[vb, .ref kb] c) →
      h.IsListIter I l (j + 1) → vs[i]? = some vb → h.get? kb = some ko → K i ko → kb ≠ S → kb ≠ I → BestTo bt j i →
      codeAny (model prog w) A (.builtin "min.loop" ⟨[.ref I, .ref q, .ref S], kw⟩) R { s with heap := h, toks := tk } := by
  have hname : (toString "min" ++ toString ".loop" : String) = "min.loop" := by decide
  have oldS : ∀ b o, s.heap.get? b = some o → b ≠ S := fun b o e e' => by rw [e', hS] at e; cases e
  have hlk : ∀ {h : Heap}, Kp [I] s.heap h → h.IsList l vs.toArray := fun k => hl.at fun o e => k l o (by simpa using hlI) e
  intro r
  induction r with
  | zero =>
    intro j i h tk vb kb ko c hr hj K0 gS it hvb gk hk kS kI B
    have hin : j + 1 = vs.length := by omega
    refine codeAny_builtin PySem.F.entry_min_loop ?_
    rw [Around.under_plainId PySem.F.plain_min_loop _]
    show wpAny _ A.in1 (seqItems? (.ref S) >>= _) _ _ _
    refine wpAny_bind (wpAny_seqItems gS rfl ?_)
    show wpAny _ A.in1 (tryCatch (pyNext (.ref I)) _ >>= _) _ _ _
    refine wpAny_bind (wpAny_tryCatch (wpAny_pyNext_list_end hh it (hlk K0) (by simp; omega) fun h1 e1 => ?_))
    have gS1 := e1 S _ hSI gS
    show wpAny _ A.in1 (updateSeq S (fun _ => #[]) >>= _) _ _ _
    have s1 := Heap.SameBut.update h1 S (Obj.mapSeq fun _ => (#[] : Array Value))
    refine wpAny_bind ?_
    refine wpAny_updateSeq gS1 rfl (wpAny_bind (wpAny_letGo (wpAny_pure ?_)))
    refine hR i vb _ _ hvb ?_ ?_
    · have : vs.length - 1 = j := by omega
      rw [this]; exact B
    · intro b o hb e
      exact (s1.2 b (oldS b o e)).trans (e1 b o (by simpa using hb) (K0 b o hb e))
  | succ r ih =>
    intro j i h tk vb kb ko c hr hj K0 gS it hvb gk hk kS kI B
    have hlt : j + 1 < vs.length := by omega
    refine codeAny_builtin PySem.F.entry_min_loop ?_
    rw [Around.under_plainId PySem.F.plain_min_loop _]
    show wpAny _ A.in1 (seqItems? (.ref S) >>= _) _ _ _
    refine wpAny_bind (wpAny_seqItems gS rfl ?_)
    show wpAny _ A.in1 (tryCatch (pyNext (.ref I)) _ >>= _) _ _ _
    refine wpAny_bind (wpAny_tryCatch (wpAny_pyNext_list_item it (hlk K0) (x := vs[j + 1]) (by simp [hlt]) fun h1 it1 s1 => ?_))
    have hv : vs[j + 1]? = some vs[j + 1] := List.getElem?_eq_getElem hlt
    generalize vs[j + 1] = v at hv
    have K1 : Kp [I] s.heap h1 := K0.same s1 (by simp)
    have gS1 := (s1.2 S hSI).trans gS
    have gk1 := (s1.2 kb kI).trans gk
    show wpAny _ A.in1 (tryCatch (holding [v] (call (.ref q) [v])) _ >>= _) _ _ _
    refine wpAny_bind (wpAny_tryCatch (wpAny_holding (wpAny_mono (hkey (j + 1) v h1 tk hv K1) (fun x s'' he => ?_) fun _ _ hF => hF.elim)))
    obtain ⟨ka, kn, h2, tk2, rfl, rfl, k2, fa, ga, hka⟩ := he
    dsimp only at k2 fa
    have aS : ka ≠ S := fun e => by rw [e, gS1] at fa; cases fa
    have aI : ka ≠ I := fun e => by obtain ⟨_, g, _⟩ := it1; rw [e, g] at fa; cases fa
    have gS2 := k2 _ _ gS1
    have gk2 := k2 _ _ gk1
    have it2 : h2.IsListIter I l (j + 1 + 1) := it1.at fun o e => k2 _ _ e
    have K2 : Kp [I] s.heap h2 := K1.keep k2
    show wpAny _ A.in1 (tryCatch (holding [v, .ref ka] (richCompare .Lt (.ref ka) (.ref kb) >>= _)) _ >>= _) _ _ _
    refine wpAny_bind (wpAny_tryCatch (wpAny_holding (wpAny_bind (wpAny_mono (hcmp _ (j + 1) i ka kb kn ko (fun v' s' => v' = .bool (bt (j + 1) i) ∧ s' = { s with heap := h2, toks := tk2 }) ga hka gk2 hk ⟨rfl, rfl⟩) (fun v' s' he => ?_) fun _ _ hF => hF.elim))))
    obtain ⟨rfl, rfl⟩ := he
    refine wpAny_bind (wpAny_holding (wpAny_truthy_bool ?_))
    refine wpAny_bind (wpAny_letGo (wpAny_pure ?_))
    cases hb' : bt (j + 1) i with
    | true =>
      have s3 := Heap.SameBut.update h2 S (Obj.mapSeq fun _ => #[v, .ref ka])
      obtain ⟨c2, hc2⟩ : ∃ c2, (h2.update S (Obj.mapSeq fun _ => #[v, .ref ka])).get? S = some (seqObj "list" #[v, .ref ka] c2) := ⟨_, get?_update_seq gS2 fun _ => #[v, .ref ka]⟩
      simp only [if_true]
      refine wpAny_bind ?_
      refine wpAny_updateSeq gS2 rfl (wpAny_bind (wpAny_letGo ?_))
      rw [hname]
      refine wpAny_pure ⟨plainId_quiet PySem.F.plain_min_loop _, ih (j + 1) (j + 1) _ _ v ka kn c2 (by omega) hlt ?_ hc2 ?_ hv ((s3.2 ka aS).trans ga) hka aS aI (B.new O hb')⟩
      · exact fun b o hb e => (s3.2 b (oldS b o e)).trans (K2 b o hb e)
      · obtain ⟨o, e, r⟩ := it2
        exact ⟨o, (s3.2 I hSI.symm).trans e, r⟩
    | false =>
      simp only [Bool.false_eq_true, if_false]
      refine wpAny_bind (wpAny_letGo ?_)
      rw [hname]
      exact wpAny_pure ⟨plainId_quiet PySem.F.plain_min_loop _, ih (j + 1) i _ _ vb kb ko c (by omega) hlt K2 gS2 it2 hvb gk2 hk kS kI (B.old hb')⟩

set_option maxHeartbeats 1000000 in
theorem min_spec {I l q : Addr} {d : Value} {vs : List Value} {bt : Nat → Nat → Bool} {K : Nat → Obj → Prop} {Q : Value → Shared → Prop} (O : Ord bt) (hh : A.handled = none)
    (hl : s.heap.IsList l vs.toArray) (hlI : l ≠ I) (hit : s.heap.IsListIter I l 0) (hne : 0 < vs.length)
    (hkey : ∀ i v h tk, vs[i]? = some v → Kp [I] s.heap h → wpAny (model prog w) A.in1 (call (.ref q) [v]) (KeyBack K i { s with heap := h, toks := tk }) (fun _ _ => False) { s with heap := h, toks := tk })
    (hcmp : ∀ s' i j ka kb ko kp (C : Value → Shared → Prop), s'.heap.get? ka = some ko → K i ko → s'.heap.get? kb = some kp → K j kp → C (.bool (bt i j)) s' → wpAny (model prog w) A.in1 (richCompare .Lt (.ref ka) (.ref kb)) C (fun _ _ => False) s')
    (hQ : ∀ i v h' tk', vs[i]? = some v → BestTo bt (vs.length - 1) i → Kp [I] s.heap h' → Q v { s with heap := h', toks := tk' }) :
    wpAny (model prog w) A (call (.builtin "min") [.ref I] [(Str.ofString "default", d), (Str.ofString "key", .ref q)]) Q E s := by
  have hname : (toString "min" ++ toString ".loop" : String) = "min.loop" := by decide
  have hIlt : I < s.heap.objs.size := by obtain ⟨_, e, _⟩ := hit; exact Heap.lt_size e
  refine kmk_tree PySem.F.kind_min PySem.F.plain_min PySem.F.entry_min (args_min_dk _ _ _) ?_
  show wpAny _ A.in1 (Builtin.Builtins.bindParams "min" ["key", "default"] 0 ⟨[], [(Str.ofString "default", d), (Str.ofString "key", .ref q)]⟩ >>= _) _ _ s
  refine wpAny_bind (wpAny_of_eq (show Builtin.Builtins.bindParams "min" ["key", "default"] 0 ⟨[], [(Str.ofString "default", d), (Str.ofString "key", .ref q)]⟩ = pure [some (.ref q), some d] from rfl) ?_)
  refine wpAny_bind (wpAny_pure ?_)
  refine wpAny_bind (wpAny_pyIter_listiter hit ?_)
  refine wpAny_bind (wpAny_newList ?_ (Nat.zero_le _))
  rw [hname]
  refine wpAny_pure ⟨plainId_quiet PySem.F.plain_min_loop _, ?_⟩
  generalize hH1 : s.heap.push (seqObj "list" #[] 0) = H1
  have k1 : Keep s.heap H1 := fun b o e => by rw [← hH1]; exact Heap.get?_push_of_some _ e
  have gS : H1.get? s.heap.objs.size = some (seqObj "list" #[] 0) := by rw [← hH1]; exact Heap.get?_push_size _ rfl
  have hS : s.heap.get? s.heap.objs.size = none := fresh_none
  have hSI : s.heap.objs.size ≠ I := Nat.ne_of_gt hIlt
  generalize s.heap.objs.size = S at gS hS hSI
  have oldS : ∀ b o, s.heap.get? b = some o → b ≠ S := fun b o e e' => by rw [e', hS] at e; cases e
  have it0 : H1.IsListIter I l 0 := hit.at fun o e => k1 _ _ e
  have K0 : Kp [I] s.heap H1 := fun b o _ e => k1 b o e
  refine codeAny_builtin PySem.F.entry_min_loop ?_
  rw [Around.under_plainId PySem.F.plain_min_loop _]
  show wpAny _ A.in1 (seqItems? (.ref S) >>= _) _ _ _
  refine wpAny_bind (wpAny_seqItems gS rfl ?_)
  show wpAny _ A.in1 (tryCatch (pyNext (.ref I)) _ >>= _) _ _ _
  refine wpAny_bind (wpAny_tryCatch (wpAny_pyNext_list_item it0 (hl.at fun o e => k1 _ _ e) (x := vs[0]) (by simp [hne]) fun h1 it1 s1 => ?_))
  have hv : vs[0]? = some vs[0] := List.getElem?_eq_getElem hne
  generalize vs[0] = v at hv
  have K1 : Kp [I] s.heap h1 := K0.same s1 (by simp)
  have gS1 := (s1.2 S hSI).trans gS
  show wpAny _ A.in1 (tryCatch (holding [v] (call (.ref q) [v])) _ >>= _) _ _ _
  refine wpAny_bind (wpAny_tryCatch (wpAny_holding (wpAny_mono (hkey 0 v h1 _ hv K1) (fun x s'' he => ?_) fun _ _ hF => hF.elim)))
  obtain ⟨ka, kn, h2, tk2, rfl, rfl, k2, fa, ga, hka⟩ := he
  dsimp only at k2 fa
  have aS : ka ≠ S := fun e => by rw [e, gS1] at fa; cases fa
  have aI : ka ≠ I := fun e => by obtain ⟨_, g, _⟩ := it1; rw [e, g] at fa; cases fa
  have gS2 := k2 _ _ gS1
  have it2 : h2.IsListIter I l (0 + 1) := it1.at fun o e => k2 _ _ e
  have K2 : Kp [I] s.heap h2 := K1.keep k2
  have s3 := Heap.SameBut.update h2 S (Obj.mapSeq fun _ => #[v, .ref ka])
  obtain ⟨c2, hc2⟩ : ∃ c2, (h2.update S (Obj.mapSeq fun _ => #[v, .ref ka])).get? S = some (seqObj "list" #[v, .ref ka] c2) := ⟨_, get?_update_seq gS2 fun _ => #[v, .ref ka]⟩
  show wpAny _ A.in1 (updateSeq S (fun _ => #[v, .ref ka]) >>= _) _ _ _
  refine wpAny_bind ?_
  refine wpAny_updateSeq gS2 rfl ?_
  rw [hname]
  refine wpAny_pure ⟨plainId_quiet PySem.F.plain_min_loop _, min_loop O hh hl hlI hS hSI hkey hcmp hQ _ 0 0 _ _ v ka kn c2 rfl hne ?_ hc2 ?_ hv ((s3.2 ka aS).trans ga) hka aS aI (BestTo.zero O)⟩
  · exact fun b o hb e => (s3.2 b (oldS b o e)).trans (K2 b o hb e)
  · obtain ⟨o, e, r⟩ := it2
    exact ⟨o, (s3.2 I hSI.symm).trans e, r⟩

theorem args_max_dk (a d v : Value) : argsOk "max" ⟨[a], [(Str.ofString "default", d), (Str.ofString "key", v)]⟩ := by unfold argsOk; kernel_rfl
set_option maxHeartbeats 1000000 in
theorem max_loop {I S l q : Addr} {vs : List Value} {kw : List (Str × Value)} {bt : Nat → Nat → Bool} {K : Nat → Obj → Prop} {R : Result → Shared → Prop} (O : Ord bt) (hh : A.handled = none)
    (hl : s.heap.IsList l vs.toArray) (hlI : l ≠ I) (hS : s.heap.get? S = none) (hSI : S ≠ I)
    (hkey : ∀ i v h tk, vs[i]? = some v → Kp [I] s.heap h → wpAny (model prog w) A.in1 (call (.ref q) [v]) (KeyBack K i { s with heap := h, toks := tk }) (fun _ _ => False) { s with heap := h, toks := tk })
    (hcmp : ∀ s' i j ka kb ko kp (C : Value → Shared → Prop), s'.heap.get? ka = some ko → K i ko → s'.heap.get? kb = some kp → K j kp → C (.bool (bt i j)) s' → wpAny (model prog w) A.in1 (richCompare .Gt (.ref ka) (.ref kb)) C (fun _ _ => False) s')
    (hR : ∀ i v h' tk', vs[i]? = some v → BestTo bt (vs.length - 1) i → Kp [I] s.heap h' → R (.ok (.ret v)) { s with heap := h', toks := tk' }) :
    ∀ (r j i : Nat) (h : Heap) (tk : Nat) (vb : Value) (kb : Addr) (ko : Obj) (c : Nat), vs.length - (j + 1) = r → j + 1 ≤ vs.length → Kp [I] s.heap h → h.get? S = some (seqObj "list" #[vb, .ref kb] c) →
      h.IsListIter I l (j + 1) → vs[i]? = some vb → h.get? kb = some ko → K i ko → kb ≠ S → kb ≠ I → BestTo bt j i →
      codeAny (model prog w) A (.builtin "max.loop" ⟨[.ref I, .ref q, .ref S], kw⟩) R { s with heap := h, toks := tk } := by
  have hname : (toString "max" ++ toString ".loop" : String) = "max.loop" := by decide
  have oldS : ∀ b o, s.heap.get? b = some o → b ≠ S := fun b o e e' => by rw [e', hS] at e; cases e
  have hlk : ∀ {h : Heap}, Kp [I] s.heap h → h.IsList l vs.toArray := fun k => hl.at fun o e => k l o (by simpa using hlI) e
  intro r
  induction r with
  | zero =>
    intro j i h tk vb kb ko c hr hj K0 gS it hvb gk hk kS kI B
    have hin : j + 1 = vs.length := by omega
    refine codeAny_builtin PySem.F.entry_max_loop ?_
    rw [Around.under_plainId PySem.F.plain_max_loop _]
    show wpAny _ A.in1 (seqItems? (.ref S) >>= _) _ _ _
    refine wpAny_bind (wpAny_seqItems gS rfl ?_)
    show wpAny _ A.in1 (tryCatch (pyNext (.ref I)) _ >>= _) _ _ _
    refine wpAny_bind (wpAny_tryCatch (wpAny_pyNext_list_end hh it (hlk K0) (by simp; omega) fun h1 e1 => ?_))
    have gS1 := e1 S _ hSI gS
    show wpAny _ A.in1 (updateSeq S (fun _ => #[]) >>= _) _ _ _
    have s1 := Heap.SameBut.update h1 S (Obj.mapSeq fun _ => (#[] : Array Value))
    refine wpAny_bind ?_
    refine wpAny_updateSeq gS1 rfl (wpAny_bind (wpAny_letGo (wpAny_pure ?_)))
    refine hR i vb _ _ hvb ?_ ?_
    · have : vs.length - 1 = j := by omega
      rw [this]; exact B
    · intro b o hb e
      exact (s1.2 b (oldS b o e)).trans (e1 b o (by simpa using hb) (K0 b o hb e))
  | succ r ih =>
    intro j i h tk vb kb ko c hr hj K0 gS it hvb gk hk kS kI B
    have hlt : j + 1 < vs.length := by omega
    refine codeAny_builtin PySem.F.entry_max_loop ?_
    rw [Around.under_plainId PySem.F.plain_max_loop _]
    show wpAny _ A.in1 (seqItems? (.ref S) >>= _) _ _ _
    refine wpAny_bind (wpAny_seqItems gS rfl ?_)
    show wpAny _ A.in1 (tryCatch (pyNext (.ref I)) _ >>= _) _ _ _
    refine wpAny_bind (wpAny_tryCatch (wpAny_pyNext_list_item it (hlk K0) (x := vs[j + 1]) (by simp [hlt]) fun h1 it1 s1 => ?_))
    have hv : vs[j + 1]? = some vs[j + 1] := List.getElem?_eq_getElem hlt
    generalize vs[j + 1] = v at hv
    have K1 : Kp [I] s.heap h1 := K0.same s1 (by simp)
    have gS1 := (s1.2 S hSI).trans gS
    have gk1 := (s1.2 kb kI).trans gk
    show wpAny _ A.in1 (tryCatch (holding [v] (call (.ref q) [v])) _ >>= _) _ _ _
    refine wpAny_bind (wpAny_tryCatch (wpAny_holding (wpAny_mono (hkey (j + 1) v h1 tk hv K1) (fun x s'' he => ?_) fun _ _ hF => hF.elim)))
    obtain ⟨ka, kn, h2, tk2, rfl, rfl, k2, fa, ga, hka⟩ := he
    dsimp only at k2 fa
    have aS : ka ≠ S := fun e => by rw [e, gS1] at fa; cases fa
    have aI : ka ≠ I := fun e => by obtain ⟨_, g, _⟩ := it1; rw [e, g] at fa; cases fa
    have gS2 := k2 _ _ gS1
    have gk2 := k2 _ _ gk1
    have it2 : h2.IsListIter I l (j + 1 + 1) := it1.at fun o e => k2 _ _ e
    have K2 : Kp [I] s.heap h2 := K1.keep k2
    show wpAny _ A.in1 (tryCatch (holding [v, .ref ka] (richCompare .Gt (.ref ka) (.ref kb) >>= _)) _ >>= _) _ _ _
    refine wpAny_bind (wpAny_tryCatch (wpAny_holding (wpAny_bind (wpAny_mono (hcmp _ (j + 1) i ka kb kn ko (fun v' s' => v' = .bool (bt (j + 1) i) ∧ s' = { s with heap := h2, toks := tk2 }) ga hka gk2 hk ⟨rfl, rfl⟩) (fun v' s' he => ?_) fun _ _ hF => hF.elim))))
    obtain ⟨rfl, rfl⟩ := he
    refine wpAny_bind (wpAny_holding (wpAny_truthy_bool ?_))
    refine wpAny_bind (wpAny_letGo (wpAny_pure ?_))
    cases hb' : bt (j + 1) i with
    | true =>
      have s3 := Heap.SameBut.update h2 S (Obj.mapSeq fun _ => #[v, .ref ka])
      obtain ⟨c2, hc2⟩ : ∃ c2, (h2.update S (Obj.mapSeq fun _ => #[v, .ref ka])).get? S = some (seqObj "list" #[v, .ref ka] c2) := ⟨_, get?_update_seq gS2 fun _ => #[v, .ref ka]⟩
      simp only [if_true]
      refine wpAny_bind ?_
      refine wpAny_updateSeq gS2 rfl (wpAny_bind (wpAny_letGo ?_))
      rw [hname]
      refine wpAny_pure ⟨plainId_quiet PySem.F.plain_max_loop _, ih (j + 1) (j + 1) _ _ v ka kn c2 (by omega) hlt ?_ hc2 ?_ hv ((s3.2 ka aS).trans ga) hka aS aI (B.new O hb')⟩
      · exact fun b o hb e => (s3.2 b (oldS b o e)).trans (K2 b o hb e)
      · obtain ⟨o, e, r⟩ := it2
        exact ⟨o, (s3.2 I hSI.symm).trans e, r⟩
    | false =>
      simp only [Bool.false_eq_true, if_false]
      refine wpAny_bind (wpAny_letGo ?_)
      rw [hname]
      exact wpAny_pure ⟨plainId_quiet PySem.F.plain_max_loop _, ih (j + 1) i _ _ vb kb ko c (by omega) hlt K2 gS2 it2 hvb gk2 hk kS kI (B.old hb')⟩

set_option maxHeartbeats 1000000 in
theorem max_spec {I l q : Addr} {d : Value} {vs : List Value} {bt : Nat → Nat → Bool} {K : Nat → Obj → Prop} {Q : Value → Shared → Prop} (O : Ord bt) (hh : A.handled = none)
    (hl : s.heap.IsList l vs.toArray) (hlI : l ≠ I) (hit : s.heap.IsListIter I l 0) (hne : 0 < vs.length)
    (hkey : ∀ i v h tk, vs[i]? = some v → Kp [I] s.heap h → wpAny (model prog w) A.in1 (call (.ref q) [v]) (KeyBack K i { s with heap := h, toks := tk }) (fun _ _ => False) { s with heap := h, toks := tk })
    (hcmp : ∀ s' i j ka kb ko kp (C : Value → Shared → Prop), s'.heap.get? ka = some ko → K i ko → s'.heap.get? kb = some kp → K j kp → C (.bool (bt i j)) s' → wpAny (model prog w) A.in1 (richCompare .Gt (.ref ka) (.ref kb)) C (fun _ _ => False) s')
    (hQ : ∀ i v h' tk', vs[i]? = some v → BestTo bt (vs.length - 1) i → Kp [I] s.heap h' → Q v { s with heap := h', toks := tk' }) :
    wpAny (model prog w) A (call (.builtin "max") [.ref I] [(Str.ofString "default", d), (Str.ofString "key", .ref q)]) Q E s := by
  have hname : (toString "max" ++ toString ".loop" : String) = "max.loop" := by decide
  have hIlt : I < s.heap.objs.size := by obtain ⟨_, e, _⟩ := hit; exact Heap.lt_size e
  refine kmk_tree PySem.F.kind_max PySem.F.plain_max PySem.F.entry_max (args_max_dk _ _ _) ?_
  show wpAny _ A.in1 (Builtin.Builtins.bindParams "max" ["key", "default"] 0 ⟨[], [(Str.ofString "default", d), (Str.ofString "key", .ref q)]⟩ >>= _) _ _ s
  refine wpAny_bind (wpAny_of_eq (show Builtin.Builtins.bindParams "max" ["key", "default"] 0 ⟨[], [(Str.ofString "default", d), (Str.ofString "key", .ref q)]⟩ = pure [some (.ref q), some d] from rfl) ?_)
  refine wpAny_bind (wpAny_pure ?_)
  refine wpAny_bind (wpAny_pyIter_listiter hit ?_)
  refine wpAny_bind (wpAny_newList ?_ (Nat.zero_le _))
  rw [hname]
  refine wpAny_pure ⟨plainId_quiet PySem.F.plain_max_loop _, ?_⟩
  generalize hH1 : s.heap.push (seqObj "list" #[] 0) = H1
  have k1 : Keep s.heap H1 := fun b o e => by rw [← hH1]; exact Heap.get?_push_of_some _ e
  have gS : H1.get? s.heap.objs.size = some (seqObj "list" #[] 0) := by rw [← hH1]; exact Heap.get?_push_size _ rfl
  have hS : s.heap.get? s.heap.objs.size = none := fresh_none
  have hSI : s.heap.objs.size ≠ I := Nat.ne_of_gt hIlt
  generalize s.heap.objs.size = S at gS hS hSI
  have oldS : ∀ b o, s.heap.get? b = some o → b ≠ S := fun b o e e' => by rw [e', hS] at e; cases e
  have it0 : H1.IsListIter I l 0 := hit.at fun o e => k1 _ _ e
  have K0 : Kp [I] s.heap H1 := fun b o _ e => k1 b o e
  refine codeAny_builtin PySem.F.entry_max_loop ?_
  rw [Around.under_plainId PySem.F.plain_max_loop _]
  show wpAny _ A.in1 (seqItems? (.ref S) >>= _) _ _ _
  refine wpAny_bind (wpAny_seqItems gS rfl ?_)
  show wpAny _ A.in1 (tryCatch (pyNext (.ref I)) _ >>= _) _ _ _
  refine wpAny_bind (wpAny_tryCatch (wpAny_pyNext_list_item it0 (hl.at fun o e => k1 _ _ e) (x := vs[0]) (by simp [hne]) fun h1 it1 s1 => ?_))
  have hv : vs[0]? = some vs[0] := List.getElem?_eq_getElem hne
  generalize vs[0] = v at hv
  have K1 : Kp [I] s.heap h1 := K0.same s1 (by simp)
  have gS1 := (s1.2 S hSI).trans gS
  show wpAny _ A.in1 (tryCatch (holding [v] (call (.ref q) [v])) _ >>= _) _ _ _
  refine wpAny_bind (wpAny_tryCatch (wpAny_holding (wpAny_mono (hkey 0 v h1 _ hv K1) (fun x s'' he => ?_) fun _ _ hF => hF.elim)))
  obtain ⟨ka, kn, h2, tk2, rfl, rfl, k2, fa, ga, hka⟩ := he
  dsimp only at k2 fa
  have aS : ka ≠ S := fun e => by rw [e, gS1] at fa; cases fa
  have aI : ka ≠ I := fun e => by obtain ⟨_, g, _⟩ := it1; rw [e, g] at fa; cases fa
  have gS2 := k2 _ _ gS1
  have it2 : h2.IsListIter I l (0 + 1) := it1.at fun o e => k2 _ _ e
  have K2 : Kp [I] s.heap h2 := K1.keep k2
  have s3 := Heap.SameBut.update h2 S (Obj.mapSeq fun _ => #[v, .ref ka])
  obtain ⟨c2, hc2⟩ : ∃ c2, (h2.update S (Obj.mapSeq fun _ => #[v, .ref ka])).get? S = some (seqObj "list" #[v, .ref ka] c2) := ⟨_, get?_update_seq gS2 fun _ => #[v, .ref ka]⟩
  show wpAny _ A.in1 (updateSeq S (fun _ => #[v, .ref ka]) >>= _) _ _ _
  refine wpAny_bind ?_
  refine wpAny_updateSeq gS2 rfl ?_
  rw [hname]
  refine wpAny_pure ⟨plainId_quiet PySem.F.plain_max_loop _, max_loop O hh hl hlI hS hSI hkey hcmp hQ _ 0 0 _ _ v ka kn c2 rfl hne ?_ hc2 ?_ hv ((s3.2 ka aS).trans ga) hka aS aI (BestTo.zero O)⟩
  · exact fun b o hb e => (s3.2 b (oldS b o e)).trans (K2 b o hb e)
  · obtain ⟨o, e, r⟩ := it2
    exact ⟨o, (s3.2 I hSI.symm).trans e, r⟩
end
end Mine
namespace Mine
open PySem PySem.W PyProof.Rows PySem.SeqAt

/-- a tuple's object: ints; a list's object: ints -/
noncomputable def TObj (ns : List Int) (o : Obj) : Prop := o.cls = .type "tuple" ∧ ∃ us n, o.data = .seq (List.toArray us) n ∧ IntsAre us ns
noncomputable def LObj (ns : List Int) (o : Obj) : Prop := ∃ us n, o = { cls := .type "list", data := .seq (List.toArray us) n } ∧ IntsAre us ns
theorem TObj.ti {h : Heap} {a : Addr} {o : Obj} {ns : List Int} (g : h.get? a = some o) (x : TObj ns o) : TI h (.ref a) ns := let ⟨c, us, n, d, i⟩ := x; ⟨a, us, rfl, ⟨o, g, c, n, d⟩, i⟩
theorem LObj.li {h : Heap} {a : Addr} {o : Obj} {ns : List Int} (g : h.get? a = some o) (x : LObj ns o) : LI h (.ref a) ns := let ⟨us, n, d, i⟩ := x; ⟨a, us, rfl, ⟨n, by rw [g, d]⟩, i⟩

section
variable {prog : Program} {w : World} {A : Around} {E : Value → Shared → Prop} {s : Shared}
theorem compareLt {a b : Value} {k : Bool} {Q : Value → Shared → Prop} (x : LtAt A s a b k) (h : Q (.bool k) s) : wpAny (model prog w) A (compareOp .Lt a b) Q E s :=
  show wpAny (model prog w) A (richCompare .Lt a b) Q E s from x prog w E Q h

/-- firsts of a list of tuples of ints -/
theorem firstsTI {h : Heap} : ∀ {ks : List Value}, (∀ k ∈ ks, ∃ a o ns, k = .ref a ∧ h.get? a = some o ∧ TObj ns o ∧ ns ≠ []) → ∃ fs, KatTups h ks fs ∧ (∀ v ∈ fs, ∃ n t, v = .int n t) ∧ fs.length = ks.length
  | [], _ => ⟨[], KatTups.nil, (fun v hv => by cases hv), rfl⟩
  | k :: ks, H => by
    obtain ⟨fs, h1, h2, h3⟩ := firstsTI (ks := ks) fun k hk => H k (List.mem_cons_of_mem _ hk)
    obtain ⟨a, o, ns, rfl, g, ⟨c, us, n, d, i⟩, hne⟩ := H k (List.mem_cons_self ..)
    cases i with
    | nil => exact absurd rfl hne
    | cons m t r =>
      refine ⟨.int m t :: fs, KatTups.cons g c d (by simp) h1, ?_, by simp [h3]⟩
      intro v hv
      rcases List.mem_cons.mp hv with rfl | hv
      · exact ⟨m, t, rfl⟩
      · exact h2 v hv
theorem kindTI {ks : List Value} {Q : SortKind → Shared → Prop} (h2 : 0 < ks.length) (H : ∀ k ∈ ks, ∃ a o ns, k = .ref a ∧ s.heap.get? a = some o ∧ TObj ns o ∧ ns ≠ []) (h : Q (tuples' true) s) :
    wpAny (model prog w) A (keyKind' ks.toArray) Q E s := by
  obtain ⟨fs, h1, hi, hl⟩ := firstsTI H
  refine kat_kind (T := .type "int") h1 (by omega) (fun v hv => ?_) (by decide) ?_
  · obtain ⟨n, t, rfl⟩ := hi v hv
    exact Looks.of_pure rfl
  · exact h
theorem firstsXI {h : Heap} : ∀ {ks : List Value}, (∀ k ∈ ks, ∃ ns is, XI h k ns is) → ∃ fs, KatTups h ks fs ∧ (∀ v ∈ fs, ∃ ns, TI h v ns) ∧ fs.length = ks.length
  | [], _ => ⟨[], KatTups.nil, (fun v hv => by cases hv), rfl⟩
  | k :: ks, H => by
    obtain ⟨fs, h1, h2, h3⟩ := firstsXI (ks := ks) fun k hk => H k (List.mem_cons_of_mem _ hk)
    obtain ⟨ns, is, a, x, us, rfl, ⟨o, g, c, n, d⟩, tx, i⟩ := H k (List.mem_cons_self ..)
    refine ⟨x :: fs, KatTups.cons g c d (by simp) h1, ?_, by simp [h3]⟩
    intro v hv
    rcases List.mem_cons.mp hv with rfl | hv
    · exact ⟨ns, tx⟩
    · exact h2 v hv
theorem kindXI {ks : List Value} {Q : SortKind → Shared → Prop} (h2 : 0 < ks.length) (H : ∀ k ∈ ks, ∃ ns is, XI s.heap k ns is) (h : Q (tuples' false) s) :
    wpAny (model prog w) A (keyKind' ks.toArray) Q E s := by
  obtain ⟨fs, h1, hi, hl⟩ := firstsXI H
  refine kat_kind (T := .type "tuple") h1 (by omega) (fun v hv => ?_) (by decide) ?_
  · obtain ⟨ns, a, us, rfl, ⟨o, g, c, n, d⟩, i⟩ := hi v hv
    rw [← c]
    exact show Looks _ s.heap (typeOf (.ref a)) o.cls from (Looks.ld g).andThen .now
  · exact h
theorem noneFirsts : ∀ {vs : List Value} {Q : List (Option Value) → Shared → Prop}, (∀ v ∈ vs, ∃ a xs, v = .ref a ∧ s.heap.PlainList a xs) → Q (vs.map fun _ => none) s → wpAny (model prog w) A (vs.mapM firstOfTuple') Q E s
  | [], _, _, h => by rw [List.mapM_nil]; exact wpAny_pure h
  | v :: vs, Q, H, h => by
    obtain ⟨a, xs, rfl, n, g⟩ := H v (List.mem_cons_self ..)
    rw [List.mapM_cons]
    refine wpAny_bind ?_
    rw [kas_first_eq]
    refine wpAny_bind (Looks.here (show Looks (model prog w) s.heap (typeOf (.ref a)) (.type "list") from (Looks.ld g).andThen .now) ?_)
    rw [if_pos (by decide)]
    refine wpAny_pure ?_
    exact wpAny_bind (noneFirsts (Q := fun bs s' => wpAny (model prog w) A (pure (none :: bs)) Q E s') (fun v hv => H v (List.mem_cons_of_mem _ hv)) (wpAny_pure h))
theorem kindLI {ks : List Value} {Q : SortKind → Shared → Prop} (h2 : 0 < ks.length) (H : ∀ v ∈ ks, ∃ a xs, v = .ref a ∧ s.heap.PlainList a xs) (h : Q oneType' s) :
    wpAny (model prog w) A (keyKind' ks.toArray) Q E s := by
  obtain ⟨k, kr, rfl⟩ : ∃ k kr, ks = k :: kr := by
    match ks, h2 with
    | k :: kr, _ => exact ⟨k, kr, rfl⟩
  rw [kat_kind_eq, List.mapM_toArray, map_eq_pure_bind]
  refine wpAny_bind (wpAny_bind (noneFirsts H (wpAny_pure ?_)))
  rw [if_neg (by simp), if_neg (by simp)]
  rw [oneTypeOnly'_eq, List.mapM_toArray, map_eq_pure_bind]
  refine wpAny_bind (wpAny_bind (wpAny_bind (kas_mapM (r := .type "list") _ (fun v hv Q' hq => ?_) (wpAny_pure ?_))))
  · obtain ⟨a, xs, rfl, n, g⟩ := H v hv
    exact Looks.here (show Looks (model prog w) s.heap (typeOf (.ref a)) (.type "list") from (Looks.ld g).andThen .now) hq
  · have hall2 : ((List.map (fun _ => Value.type "list") (k :: kr)).toArray.all fun x => x == Value.type "list") = true := by
      simp only [List.all_toArray, List.all_map, List.all_eq_true]
      intro _ _
      show (Value.type "list" == Value.type "list") = true
      decide
    have h0 : (List.map (fun _ => Value.type "list") (k :: kr)).toArray[0]? = some (Value.type "list") := by simp
    rw [h0]
    simp only [hall2, if_true]
    refine wpAny_pure ?_
    simp only [Option.isSome_some, if_true]
    exact wpAny_pure h

theorem katInts {b : Bool} : ∀ {us us' : List Value} {ns ns' : List Int} {i : Nat} {Q : Bool → Shared → Prop}, IntsAre us ns → IntsAre us' ns' → Q (lexLt ns ns') s → KatLex prog w A b (decide (us.length < us'.length)) Q (us.zip us') i s
  | _, _, _, _, i, Q, .nil, .nil, h => kat_nil h
  | _, _, _, _, i, Q, .nil, .cons c u j, h => kat_nil (by simpa [lexLt] using h)
  | _, _, _, _, i, Q, .cons a t k, .nil, h => kat_nil (by simpa [lexLt] using h)
  | _, _, _, _, i, Q, .cons (vs := us) (ns := ns) a t k, .cons (vs := us') (ns := ns') c u j, h => by
    have e : decide ((Value.int a t :: us).length < (Value.int c u :: us').length) = decide (us.length < us'.length) := by simp
    rw [e]
    unfold lexLt at h
    refine kat_cons (wpAny_eqBool_int (by
      by_cases hh : a = c
      · rw [if_pos hh] at h
        rw [show (a == c) = true by simp [hh]]
        exact kat_yes (katInts k j h)
      · rw [if_neg hh] at h
        rw [show (a == c) = false by simp [hh]]
        refine kat_no ?_
        cases b && i == 0
        · exact kat_one _ _ (compareLt (LtAt.int a c t u) h)
        · exact oneLt_int h))
theorem ltTI {b : Bool} {a c : Addr} {o p : Obj} {ns ns' : List Int} {Q : Bool → Shared → Prop} (g : s.heap.get? a = some o) (x : TObj ns o) (g' : s.heap.get? c = some p) (y : TObj ns' p) (h : Q (lexLt ns ns') s) :
    wpAny (model prog w) A (keyLt' (tuples' b) (.ref a) (.ref c)) Q E s := by
  obtain ⟨_, us, n, d, i⟩ := x
  obtain ⟨_, us', n', d', j⟩ := y
  refine kat_lt g d g' d' ?_
  have := katInts (prog := prog) (w := w) (A := A) (b := b) (i := 0) i j h
  simpa using this
theorem ltXI {v v' : Value} {ns ns' is is' : List Int} {Q : Bool → Shared → Prop} (x : XI s.heap v ns is) (y : XI s.heap v' ns' is') (hu : A.units + 1 < cLine) (h : Q (lexX (ns, is) (ns', is')) s) :
    wpAny (model prog w) A (keyLt' (tuples' false) v v') Q E s := by
  obtain ⟨a, p, us, rfl, ⟨o, g, c, n, d⟩, tx, i⟩ := x
  obtain ⟨a', p', us', rfl, ⟨o', g', c', n', d'⟩, ty, j⟩ := y
  refine kat_lt g d g' d' ?_
  have e : decide ((p :: us).toArray.size < (p' :: us').toArray.size) = decide (us.length < us'.length) := by simp
  rw [e]
  show KatLex prog w A false _ Q ((p, p') :: us.zip us') 0 s
  unfold lexX at h
  dsimp only at h
  have he := EqAt.ti (A := A) (s := s) tx ty (by omega)
  refine kat_cons (he prog w _ _ ?_)
  by_cases hh : ns = ns'
  · rw [if_pos hh] at h
    rw [decide_eq_true hh]
    exact kat_yes (katInts i j h)
  · rw [if_neg hh] at h
    rw [decide_eq_false hh]
    refine kat_no ?_
    exact kat_one _ _ (compareLt (LtAt.ti tx ty (by omega)) h)
theorem ltLI {a c : Addr} {o p : Obj} {ns ns' : List Int} {Q : Bool → Shared → Prop} (hu : A.units + 1 < cLine) (g : s.heap.get? a = some o) (x : LObj ns o) (g' : s.heap.get? c = some p) (y : LObj ns' p) (hl : ns.length = ns'.length) (h : Q (lexLt ns ns') s) :
    wpAny (model prog w) A (keyLt' oneType' (.ref a) (.ref c)) Q E s := by
  obtain ⟨us, n, rfl, i⟩ := x
  obtain ⟨us', n', rfl, j⟩ := y
  rw [keyLt'_oneType, oneLt'_eq]
  simp only [if_true]
  refine wpAny_bind (wpAny_cRoomFor (by omega) ?_)
  have li : us.length = us'.length := by rw [i.length, j.length, hl]
  refine wpAny_bind (wpAny_callSpecialIfBound?_slot (T := "list") ⟨_, g, rfl⟩ PySem.F.slot_list_lt (call_list_lt (v := lexLt ns ns') ⟨n, g⟩ ⟨n', g'⟩ (by simpa using li) ?_ ?_))
  · have := ltz_ints (A := A.in1) (s := s) i j
    rw [show decide (us.length < us'.length) = false by rw [li]; simp] at this
    simpa using this
  · exact wpAny_truthy_bool h
end
end Mine
namespace Mine
open PySem

/-- an item of the heap: the value, its order, its number -/
structure It where
  v : Value
  o : Int
  e : Nat
noncomputable abbrev Bef (bt : Nat → Nat → Bool) (i j : Nat) : Prop := bt j i = false ∧ (bt i j = false → i < j)
section
variable {bt : Nat → Nat → Bool}
theorem Bef.asym {i j : Nat} (x : Bef bt i j) (y : Bef bt j i) : False := by
  have h1 := x.2 y.1
  have h2 := y.2 x.1
  omega
theorem Bef.trans (O : Ord bt) {i j k : Nat} (x : Bef bt i j) (y : Bef bt j k) : Bef bt i k := by
  refine ⟨O.ntr _ _ _ y.1 x.1, fun h => ?_⟩
  have h1 := x.2 (O.ntr _ _ _ h y.1)
  have h2 := y.2 (O.ntr _ _ _ x.1 h)
  omega
theorem Bef.total (O : Ord bt) {i j : Nat} (hne : i ≠ j) (h : ¬ Bef bt j i) : Bef bt i j := by
  cases e1 : bt i j with
  | true => exact ⟨O.asym _ _ e1, fun h => by rw [e1] at h; cases h⟩
  | false =>
    cases e2 : bt j i with
    | true => exact absurd ⟨e1, fun h => by rw [e2] at h; cases h⟩ h
    | false =>
      refine ⟨e2, fun _ => ?_⟩
      by_cases hh : i < j
      · exact hh
      · exact absurd ⟨e1, fun _ => by omega⟩ h
end
theorem uniq_sorted {α : Type} {R : α → α → Prop} (asym : ∀ a b, R a b → R b a → False) : ∀ {l1 l2 : List α}, l1.Pairwise R → l2.Pairwise R → l1.Perm l2 → l1 = l2
  | [], l2, _, _, p => by rw [List.nil_perm.mp p]
  | a :: l1, [], _, _, p => by have := p.length_eq; simp at this
  | a :: l1, b :: l2, h1, h2, p => by
    rw [List.pairwise_cons] at h1 h2
    by_cases e : a = b
    · subst e
      rw [uniq_sorted asym h1.2 h2.2 (List.Perm.cons_inv p)]
    · have ha : a ∈ b :: l2 := p.mem_iff.mp (List.mem_cons_self ..)
      have hb : b ∈ a :: l1 := p.mem_iff.mpr (List.mem_cons_self ..)
      have ha' : a ∈ l2 := by
        rcases List.mem_cons.mp ha with h | h
        · exact absurd h e
        · exact h
      have hb' : b ∈ l1 := by
        rcases List.mem_cons.mp hb with h | h
        · exact absurd h.symm e
        · exact h
      exact (asym _ _ (h1.1 b hb') (h2.1 a ha')).elim

/-- a sorted part that lies before the rest is the front of the whole -/
theorem front_of {bt : Nat → Nat → Bool} {m : Nat} {S res D : List Nat} (hS : S.Perm (List.range m)) (pS : S.Pairwise (Bef bt)) (hp : (res ++ D).Perm (List.range m)) (pr : res.Pairwise (Bef bt)) (hb : ∀ x ∈ res, ∀ d ∈ D, Bef bt x d) :
    res = S.take res.length := by
  have nd : (res ++ D).Nodup := hp.nodup_iff.mpr List.nodup_range
  have dis : ∀ x ∈ res, x ∉ D := fun x hx hd => (List.nodup_append.mp nd).2.2 x hx x hd rfl
  have e1 : (S.filter fun x => decide (x ∈ D)).Perm D := by
    have h1 : (S.filter fun x => decide (x ∈ D)).Perm ((res ++ D).filter fun x => decide (x ∈ D)) := (hS.trans hp.symm).filter _
    have h2 : (res ++ D).filter (fun x => decide (x ∈ D)) = D := by
      rw [List.filter_append]
      have a1 : res.filter (fun x => decide (x ∈ D)) = [] := by
        rw [List.filter_eq_nil_iff]
        intro x hx
        simp [dis x hx]
      have a2 : D.filter (fun x => decide (x ∈ D)) = D := by
        rw [List.filter_eq_self]
        intro x hx
        simp [hx]
      rw [a1, a2]; rfl
    rw [h2] at h1
    exact h1
  have e2 : res ++ (S.filter fun x => decide (x ∈ D)) = S := by
    refine uniq_sorted (R := Bef bt) (fun a b => Bef.asym) ?_ pS ?_
    · rw [List.pairwise_append]
      exact ⟨pr, pS.filter _, fun x hx d hd => hb x hx d (e1.mem_iff.mp hd)⟩
    · exact ((List.Perm.append_left res e1).trans hp).trans hS.symm
  have e3 : (res ++ (S.filter fun x => decide (x ∈ D))).take res.length = res := List.take_left
  rw [e2] at e3
  exact e3.symm

section
variable {α : Type}
theorem lf_cons (f : Nat → α) (n : Nat) : lf f (n + 1) = f 0 :: lf (fun i => f (i + 1)) n := by
  unfold lf
  rw [List.range_succ_eq_map, List.map_cons, List.map_map]
  rfl
theorem lf_upd0 (f : Nat → α) (n : Nat) (x : α) : lf (upd f 0 x) (n + 1) = x :: lf (fun i => f (i + 1)) n := by
  rw [lf_cons]
  congr 1
theorem lf_mem (f : Nat → α) {n i : Nat} (h : i < n) : f i ∈ lf f n := List.mem_map.mpr ⟨i, List.mem_range.mpr h, rfl⟩
theorem mem_lf {f : Nat → α} {n : Nat} {x : α} (h : x ∈ lf f n) : ∃ i, i < n ∧ f i = x := by
  obtain ⟨i, hi, e⟩ := List.mem_map.mp h
  exact ⟨i, List.mem_range.mp hi, e⟩
end

structure Sel (bt : Nat → Nat → Bool) (hw : It → It → Bool) (rk : It → Int) (n j : Nat) (r : Int) (D : List Nat) (f : Nat → It) : Prop where
  heap : HeapFrom hw n 0 f
  perm : (((lf f n).map (·.e)) ++ D).Perm (List.range j)
  bef : ∀ x ∈ lf f n, ∀ d ∈ D, Bef bt x.e d
  con : ∀ x ∈ lf f n, ∀ y ∈ lf f n, (rk x < rk y ↔ x.e < y.e)
  low : ∀ x ∈ lf f n, rk x < r

section
variable {bt : Nat → Nat → Bool} {hw : It → It → Bool} {rk : It → Int} {n j : Nat} {r : Int} {D : List Nat} {f : Nat → It}
theorem worse_iff (O : Ord bt) (W : ∀ x y, rk x ≠ rk y → (hw x y = true ↔ bt y.e x.e = true ∨ (bt x.e y.e = false ∧ rk y < rk x))) {x y : It} (h1 : rk x < rk y ↔ x.e < y.e) (h2 : rk y < rk x ↔ y.e < x.e) (hne : x.e ≠ y.e) :
    hw x y = true ↔ Bef bt y.e x.e := by
  have hr : rk x ≠ rk y := by
    intro e
    rcases Nat.lt_or_gt_of_ne hne with h | h
    · have := h1.mpr h; omega
    · have := h2.mpr h; omega
  rw [W x y hr]
  constructor
  · rintro (h | ⟨h, h'⟩)
    · exact ⟨O.asym _ _ h, fun e => by rw [h] at e; cases e⟩
    · exact ⟨h, fun _ => h2.mp h'⟩
  · rintro ⟨h, h'⟩
    cases e : bt y.e x.e with
    | true => exact .inl rfl
    | false => exact .inr ⟨h, h2.mpr (h' e)⟩

theorem Sel.init (OH : Ord hw) {f : Nat → It} (he : ∀ i, i < n → (f i).e = i ∧ rk (f i) = i) : Sel bt hw rk n n n [] (hfy hw n (n / 2) f) := by
  obtain ⟨h1, h2⟩ := heapify_heap OH n f
  have mem : ∀ x ∈ lf (hfy hw n (n / 2) f) n, ∃ i, i < n ∧ x.e = i ∧ rk x = i := fun x hx => by
    obtain ⟨i, hi, e⟩ := mem_lf (h2.mem_iff.mp hx)
    rw [← e]
    exact ⟨i, hi, he i hi⟩
  refine ⟨h1, ?_, (fun x _ d hd => by cases hd), ?_, ?_⟩
  · rw [List.append_nil]
    refine (h2.map _).trans ?_
    have : (lf f n).map (·.e) = List.range n := by
      unfold lf
      rw [List.map_map]
      conv => rhs; rw [← List.map_id (List.range n)]
      apply List.map_congr_left
      intro i hi
      exact (he i (List.mem_range.mp hi)).1
    rw [this]
  · intro x hx y hy
    obtain ⟨i, _, a, b⟩ := mem x hx
    obtain ⟨k, _, c, d⟩ := mem y hy
    rw [a, b, c, d]; omega
  · intro x hx
    obtain ⟨i, hi, a, b⟩ := mem x hx
    rw [b]; omega

theorem Sel.lt_j (S : Sel bt hw rk n j r D f) {x : It} (hx : x ∈ lf f n) : x.e < j := by
  have : x.e ∈ (((lf f n).map (·.e)) ++ D) := List.mem_append_left _ (List.mem_map_of_mem hx)
  exact List.mem_range.mp (S.perm.mem_iff.mp this)

/-- the root is the worst -/
theorem Sel.root (O : Ord bt) (OH : Ord hw) (W : ∀ x y, rk x ≠ rk y → (hw x y = true ↔ bt y.e x.e = true ∨ (bt x.e y.e = false ∧ rk y < rk x))) (h0 : 0 < n) (S : Sel bt hw rk n j r D f) {i : Nat} (hi : i < n) (hne : (f i).e ≠ (f 0).e) : Bef bt (f i).e (f 0).e := by
  have h1 := heap_root OH S.heap i hi
  refine Bef.total O hne fun hb => ?_
  have := (worse_iff O W (S.con _ (lf_mem f hi) _ (lf_mem f h0)) (S.con _ (lf_mem f h0) _ (lf_mem f hi)) hne).mpr hb
  rw [h1] at this; cases this

theorem Sel.skip (O : Ord bt) (OH : Ord hw) (W : ∀ x y, rk x ≠ rk y → (hw x y = true ↔ bt y.e x.e = true ∨ (bt x.e y.e = false ∧ rk y < rk x))) (h0 : 0 < n) (S : Sel bt hw rk n j r D f) (hb : bt j (f 0).e = false) : Sel bt hw rk n (j + 1) r (j :: D) f := by
  have b0 : Bef bt (f 0).e j := ⟨hb, fun _ => S.lt_j (lf_mem f h0)⟩
  refine ⟨S.heap, ?_, ?_, S.con, S.low⟩
  · rw [List.range_succ]
    refine (List.perm_middle).trans ?_
    exact (List.Perm.cons _ S.perm).trans (List.perm_append_comm (l₁ := [j]))
  · intro x hx d hd
    rcases List.mem_cons.mp hd with rfl | hd
    · obtain ⟨i, hi, rfl⟩ := mem_lf hx
      by_cases e : (f i).e = (f 0).e
      · rw [e]; exact b0
      · exact (S.root O OH W h0 hi e).trans O b0
    · exact S.bef x hx d hd

theorem Sel.take (O : Ord bt) (OH : Ord hw) (W : ∀ x y, rk x ≠ rk y → (hw x y = true ↔ bt y.e x.e = true ∨ (bt x.e y.e = false ∧ rk y < rk x))) (h0 : 0 < n) (S : Sel bt hw rk n j r D f) (hb : bt j (f 0).e = true) {x : It} (hx : x.e = j) (hr : rk x = r) :
    Sel bt hw rk n (j + 1) (r + 1) ((f 0).e :: D) (sup hw n 0 (upd f 0 x)) := by
  obtain ⟨p1, p2⟩ := replace_heap OH (x := x) h0 S.heap
  obtain ⟨n, rfl⟩ : ∃ k, n = k + 1 := ⟨n - 1, by omega⟩
  rw [lf_upd0] at p2
  have pf := S.perm
  rw [lf_cons] at pf
  have nd : ((f 0 :: lf (fun i => f (i + 1)) n).map (·.e)).Nodup := (List.nodup_append.mp (pf.nodup_iff.mpr List.nodup_range)).1
  have mem : ∀ y ∈ lf (sup hw (n + 1) 0 (upd f 0 x)) (n + 1), y = x ∨ (y ∈ lf f (n + 1) ∧ y.e ≠ (f 0).e) := fun y hy => by
    rcases List.mem_cons.mp (p2.mem_iff.mp hy) with h | h
    · exact .inl h
    · refine .inr ⟨by rw [lf_cons]; exact List.mem_cons_of_mem _ h, fun e => ?_⟩
      rw [List.map_cons, List.nodup_cons] at nd
      exact nd.1 (by rw [← e]; exact List.mem_map_of_mem h)
  have bx : Bef bt x.e (f 0).e := by rw [hx]; exact ⟨O.asym _ _ hb, fun e => by rw [hb] at e; cases e⟩
  refine ⟨p1, ?_, ?_, ?_, ?_⟩
  · refine (List.Perm.append_right _ (p2.map _)).trans ?_
    rw [List.map_cons, hx, List.range_succ]
    rw [List.map_cons] at pf
    have q : (((lf (fun i => f (i + 1)) n).map (·.e)) ++ (f 0).e :: D).Perm (List.range j) := (List.perm_middle).trans pf
    exact (List.Perm.cons j q).trans (List.perm_append_comm (l₁ := [j]))
  · intro y hy d hd
    have b0 : Bef bt y.e (f 0).e := by
      rcases mem y hy with rfl | ⟨hy, hne⟩
      · exact bx
      · obtain ⟨i, hi, rfl⟩ := mem_lf hy
        exact S.root O OH W h0 hi hne
    rcases List.mem_cons.mp hd with rfl | hd
    · exact b0
    · exact b0.trans O (S.bef _ (lf_mem f h0) d hd)
  · intro y hy z hz
    rcases mem y hy with rfl | ⟨hy', _⟩
    · rcases mem z hz with rfl | ⟨hz, _⟩
      · constructor <;> intro h <;> omega
      · have a := S.low z hz
        have b := S.lt_j hz
        rw [hr, hx]
        constructor <;> intro h <;> omega
    · rcases mem z hz with rfl | ⟨hz, _⟩
      · have a := S.low y hy'
        have b := S.lt_j hy'
        rw [hr, hx]
        constructor <;> intro h <;> omega
      · exact S.con y hy' z hz
  · intro y hy
    rcases mem y hy with rfl | ⟨hy, _⟩
    · omega
    · have := S.low y hy; omega

theorem Sel.done (O : Ord bt) (W : ∀ x y, rk x ≠ rk y → (hw x y = true ↔ bt y.e x.e = true ∨ (bt x.e y.e = false ∧ rk y < rk x))) {m : Nat} {R is : List Nat} (S : Sel bt hw rk n m r D f) (hS : R.Perm (List.range m)) (pS : R.Pairwise (Bef bt))
    (hi : is.Perm (List.range n)) (pi : is.Pairwise (fun i j => hw (f i) (f j) = false)) : is.map (fun i => (f i).e) = R.take n := by
  have hl : (is.map (fun i => (f i).e)).length = n := by rw [List.length_map, hi.length_eq, List.length_range]
  have pm : (is.map (fun i => (f i).e)).Perm ((lf f n).map (·.e)) := by
    have := hi.map (fun i => (f i).e)
    unfold lf
    rw [List.map_map]
    exact this
  have pp : (is.map (fun i => (f i).e) ++ D).Perm (List.range m) := (List.Perm.append_right _ pm).trans S.perm
  have nd : (is.map (fun i => (f i).e)).Nodup := (List.nodup_append.mp (pp.nodup_iff.mpr List.nodup_range)).1
  have := front_of hS pS pp ?_ ?_
  · rw [hl] at this; exact this
  · rw [List.pairwise_map]
    have nd2 : is.Pairwise (fun i j => (f i).e ≠ (f j).e) := by
      have := nd
      unfold List.Nodup at this
      rwa [List.pairwise_map] at this
    refine (pi.and nd2).imp_of_mem ?_
    rintro i k hi' hk' ⟨h1, h2⟩
    have i1 : i < n := List.mem_range.mp (hi.mem_iff.mp hi')
    have k1 : k < n := List.mem_range.mp (hi.mem_iff.mp hk')
    refine Bef.total O h2 fun hb => ?_
    have := (worse_iff O W (S.con _ (lf_mem f i1) _ (lf_mem f k1)) (S.con _ (lf_mem f k1) _ (lf_mem f i1)) h2).mpr hb
    rw [h1] at this; cases this
  · intro x hx d hd
    have hx' := pm.mem_iff.mp hx
    obtain ⟨y, hy, rfl⟩ := List.mem_map.mp hx'
    exact S.bef y hy d hd
end
end Mine
namespace Mine
open PySem PySem.W PyProof.Rows
section
variable {prog : Program} {w : World} {A : Around} {E : Value → Shared → Prop} {s : Shared}
theorem nextOf_range_item {it : Addr} {x left step : Int} {Q : Value → Shared → Prop} (hit : IsRangeIter s.heap it x left step) (hleft : 0 < left)
    (hQ : ∀ h', IsRangeIter h' it (x + step) (left - 1) step → Heap.SameBut it s.heap h' → Q (.int x s.toks) { s with heap := h', toks := s.toks + 1 }) :
    wpAny (model prog w) A (Builtin.SmallTypes.nextOf (.ref it)) Q E s := by
  have hT : s.TypeIs (.ref it) "range_iterator" := ⟨_, hit, rfl⟩
  unfold Builtin.SmallTypes.nextOf
  refine wpAny_bind (wpAny_callSpecial?_slot (name := Str.ofString "__next__") hT F.slot_range_iterator_next
    (call_meets F.slot_range_iterator_next hT F.entry_range_iterator_next (F.args_range_iterator_next_1 _) (AutoRange.range_iterator___next___range_iterator_1 it x left step (by omega)) ⟨hit, ?_⟩))
  exact wpAny_pure (hQ _ (Heap.get?_update_self _ (Heap.get?_update_self _ hit rfl) rfl) ((Heap.SameBut.update ..).trans (Heap.SameBut.update ..)))
theorem nextOf_range_end {it : Addr} {x left step : Int} {Q : Value → Shared → Prop} (hh : A.handled = none) (hit : IsRangeIter s.heap it x left step) (hleft : left ≤ 0)
    (hE : ∀ h' e, Heap.ExtBut it s.heap h' → (∃ o, h'.get? e = some o ∧ o.cls = .type "StopIteration") → E (.ref e) { s with heap := h' }) :
    wpAny (model prog w) A (Builtin.SmallTypes.nextOf (.ref it)) Q E s := by
  have hT : s.TypeIs (.ref it) "range_iterator" := ⟨_, hit, rfl⟩
  unfold Builtin.SmallTypes.nextOf
  refine wpAny_bind (wpAny_callSpecial?_slot (name := Str.ofString "__next__") hT F.slot_range_iterator_next
    (wpAny_call_entry F.slot_range_iterator_next hT F.entry_range_iterator_next ?_ (F.args_range_iterator_next_1 _)))
  show wpAny _ _ (field (.ref it) 0 >>= _) _ _ s
  refine wpAny_bind (wpAny_field hit rfl (x := rawInt x) rfl ?_)
  show wpAny _ _ (field (.ref it) 1 >>= _) _ _ s
  refine wpAny_bind (wpAny_field hit rfl (x := rawInt left) rfl ?_)
  show wpAny _ _ (field (.ref it) 2 >>= _) _ _ s
  refine wpAny_bind (wpAny_field hit rfl (x := rawInt step) rfl ?_)
  show wpAny _ _ (if left ≤ 0 then _ else _) _ _ s
  rw [if_pos hleft]
  refine wpAny_bind (wpAny_rule ?_)
  refine wpAny_bind ?_
  show wpAny _ _ (newExc (.type "StopIteration") [] >>= _) _ _ _
  refine wpAny_bind ?_
  simp only [newExc, newTuple]
  refine wpAny_bind (wpAny_newObj_type ?_ (by size_fits))
  refine wpAny_bind (m := firstArgMember _ _) (wpAny_of_eq (a := Value.none) (by first | rfl | (simp only [firstArgMember]; rfl)) ?_)
  refine wpAny_newObj_type ?_ (by size_fits)
  simp only [raiseNew]
  refine wpAny_bind (wpAny_handled ?_)
  first | rw [show A.in1.handled = none from hh] | rw [hh]
  refine wpAny_bind (wpAny_pure (wpAny_throw ?_))
  exact hE _ _ (((Heap.ExtBut.refl it s.heap).push _).push _) ⟨_, Heap.get?_push_size _ rfl, rfl⟩

/-- addresses of a zip over a range's iterator and a list's -/
structure ZApart (z TI TO i1 i2 l2 : Addr) : Prop where
  TIz : TI ≠ z
  TOz : TO ≠ z
  i1z : i1 ≠ z
  i2z : i2 ≠ z
  TITO : TI ≠ TO
  TIi1 : TI ≠ i1
  TIi2 : TI ≠ i2
  TOi1 : TO ≠ i1
  TOi2 : TO ≠ i2
  i12 : i1 ≠ i2
  l2z : l2 ≠ z
  l2TO : l2 ≠ TO
  l2i1 : l2 ≠ i1
  l2i2 : l2 ≠ i2

/-- a zip under way -/
structure ZAt (z TI TO i1 i2 l2 : Addr) (x left step : Int) (k2 : Nat) (ys : Array Value) (f0 : Value) (h : Heap) : Prop where
  z : IsZip h z TI TO f0
  TI : IsPair h TI (.ref i1) (.ref i2)
  TO : ∃ a b, IsPair h TO a b
  i1 : IsRangeIter h i1 x left step
  i2 : h.IsListIter i2 l2 k2
  l2 : h.IsList l2 ys

theorem zipR_item {z TI TO i1 i2 l2 : Addr} {k2 : Nat} {ys : Array Value} {x left step : Int} {y : Value} {Q : Option Value → Shared → Prop} (D : ZApart z TI TO i1 i2 l2)
    (hz : ZAt z TI TO i1 i2 l2 x left step k2 ys .none s.heap) (hleft : 0 < left) (hy : ys[k2]? = some y)
    (hQ : ∀ h', ZAt z TI TO i1 i2 l2 (x + step) (left - 1) step (k2 + 1) ys (rawInt s.heap.objs.size) h' → IsPair h' s.heap.objs.size (.int x s.toks) y → h'.objs.size = s.heap.objs.size + 1 →
      (∀ c o, c ≠ z → c ≠ TO → c ≠ i1 → c ≠ i2 → s.heap.get? c = some o → h'.get? c = some o) → Q (some (.ref s.heap.objs.size)) { s with heap := h', toks := s.toks + 1 }) :
    wpAny (model prog w) A (pyNext (.ref z)) Q E s := by
  obtain ⟨hz, hTI, ⟨a, b, hTO⟩, h1, h2, hl2⟩ := hz
  have hT : s.TypeIs (.ref z) "zip" := ⟨_, hz, rfl⟩
  unfold pyNext
  refine wpAny_bind (wpAny_attempt (wpAny_callSpecial?_slot (name := Str.ofString "__next__") hT F.slot_zip_next
    (wpAny_call_entry F.slot_zip_next hT F.entry_zip_next ?_ (F.args_zip_next_1 _))))
  show wpAny _ _ (field (.ref z) 2 >>= _) _ _ _
  refine wpAny_bind (wpAny_field hz rfl (x := .bool false) rfl ?_)
  show wpAny _ _ (field (.ref z) 3 >>= _) _ _ _
  refine wpAny_bind (wpAny_field hz rfl (x := .ref TI) rfl ?_)
  refine wpAny_bind (wpAny_seqItems hTI rfl ?_)
  show wpAny _ _ (Builtin.SmallTypes.ownedTupleIsFree (.ref z) >>= _) _ _ _
  refine wpAny_bind ?_
  unfold Builtin.SmallTypes.ownedTupleIsFree
  refine wpAny_bind (wpAny_field hz rfl (x := .none) rfl (wpAny_pure ?_))
  simp only [if_true]
  refine wpAny_bind (wpAny_rule ?_)
  refine wpAny_bind (wpAny_field hz rfl (x := .ref TO) rfl ?_)
  refine wpAny_bind (wpAny_setField_rec hz (by simp) fun h₁ hz₁ hs₁ => ?_)
  replace hz₁ : IsZip h₁ z TI TO .ellipsis := hz₁
  refine wpAny_bind ?_
  simp only [List.zipIdx_cons, List.zipIdx_nil, List.forIn_cons, List.forIn_nil]
  refine wpAny_bind (wpAny_bind (wpAny_onRaise ?_))
  show wpAny _ _ (Builtin.SmallTypes.nextOf (.ref i1) >>= _) _ _ _
  refine wpAny_bind (nextOf_range_item (hs₁.extBut _ _ D.i1z h1) hleft fun h₂ h1₂ hs₂ => wpAny_pure ?_)
  have hTO₂ : IsPair h₂ TO a b := hs₂.extBut _ _ D.TOi1 (hs₁.extBut _ _ D.TOz hTO)
  refine wpAny_bind (wpAny_seqItems hTO₂ rfl ?_)
  refine wpAny_bind (wpAny_updateSeq_pair hTO₂ fun h₃ hTO₃ hs₃ => ?_)
  replace hTO₃ : IsPair h₃ TO (.int x s.toks) b := hTO₃
  refine wpAny_bind (wpAny_letGo (wpAny_pure ?_))
  refine wpAny_bind (wpAny_bind (wpAny_onRaise ?_))
  show wpAny _ _ (Builtin.SmallTypes.nextOf (.ref i2) >>= _) _ _ _
  refine wpAny_bind (wpAny_nextOf_list_item (((h2.extBut hs₁.extBut D.i2z).extBut hs₂.extBut D.i12.symm).extBut hs₃.extBut D.TOi2.symm)
    (((hl2.extBut hs₁.extBut D.l2z).extBut hs₂.extBut D.l2i1).extBut hs₃.extBut D.l2TO) hy fun h₄ h2₄ hs₄ => wpAny_pure ?_)
  have hTO₄ : IsPair h₄ TO (.int x s.toks) b := hs₄.extBut _ _ D.TOi2 hTO₃
  refine wpAny_bind (wpAny_seqItems hTO₄ rfl ?_)
  refine wpAny_bind (wpAny_updateSeq_pair hTO₄ fun h₅ hTO₅ hs₅ => ?_)
  replace hTO₅ : IsPair h₅ TO (.int x s.toks) y := hTO₅
  refine wpAny_bind (wpAny_letGo (wpAny_pure (wpAny_pure ?_)))
  refine wpAny_bind (wpAny_seqItems hTO₅ rfl ?_)
  refine wpAny_bind (wpAny_newTuple ?_)
  have hsz : h₅.objs.size = s.heap.objs.size := by rw [hs₅.1, hs₄.1, hs₃.1, hs₂.1, hs₁.1]
  have hz₅ : IsZip h₅ z TI TO .ellipsis := hs₅.extBut _ _ D.TOz.symm (hs₄.extBut _ _ D.i2z.symm (hs₃.extBut _ _ D.TOz.symm (hs₂.extBut _ _ D.i1z.symm hz₁)))
  have hk₅ : ∀ c o, c ≠ z → c ≠ TO → c ≠ i1 → c ≠ i2 → s.heap.get? c = some o → h₅.get? c = some o := fun c o c1 c2 c3 c4 e =>
    hs₅.extBut _ _ c2 (hs₄.extBut _ _ c4 (hs₃.extBut _ _ c2 (hs₂.extBut _ _ c3 (hs₁.extBut _ _ c1 e))))
  have h1₅ : IsRangeIter h₅ i1 (x + step) (left - 1) step := hs₅.extBut _ _ D.TOi1.symm (hs₄.extBut _ _ D.i12 (hs₃.extBut _ _ D.TOi1.symm h1₂))
  have h2₅ : h₅.IsListIter i2 l2 (k2 + 1) := h2₄.extBut hs₅.extBut D.TOi2.symm
  have hzlt : z < h₅.objs.size := Heap.lt_size hz₅
  show wpAny _ _ (Builtin.SmallTypes.ownedTupleHandOut (.ref z) (.ref h₅.objs.size) >>= _) _ _ _
  refine wpAny_bind ?_
  unfold Builtin.SmallTypes.ownedTupleHandOut
  have hz₆ : IsZip (h₅.push { cls := .type "tuple", data := .seq #[.int x s.toks, y] }) z TI TO .ellipsis := Heap.get?_push_of_some _ hz₅
  refine wpAny_bind (wpAny_setField_rec hz₆ (by simp) fun h₇ hz₇ hs₇ => ?_)
  replace hz₇ : IsZip h₇ z TI TO (rawInt h₅.objs.size) := hz₇
  refine wpAny_setField_rec hz₇ (by simp) fun h₈ hz₈ hs₈ => ?_
  replace hz₈ : IsZip h₈ z TI TO (rawInt h₅.objs.size) := hz₈
  have up : ∀ c o, c ≠ z → h₅.get? c = some o → h₈.get? c = some o := fun c o c1 e => hs₈.extBut _ _ c1 (hs₇.extBut _ _ c1 (Heap.get?_push_of_some _ e))
  have hT₈ : IsPair h₈ h₅.objs.size (.int x s.toks) y := hs₈.extBut _ _ (Nat.ne_of_gt hzlt) (hs₇.extBut _ _ (Nat.ne_of_gt hzlt) (Heap.get?_push_size _ rfl))
  have hz8 : h₈.objs.size = h₅.objs.size + 1 := by rw [hs₈.1, hs₇.1, Heap.size_push]
  rw [hsz] at hz₈ hT₈ hz8
  refine wpAny_pure ⟨_, rfl, ?_⟩
  refine wpAny_pure ?_
  show Q (some (.ref h₅.objs.size)) _
  rw [hsz]
  refine hQ h₈ ⟨hz₈, up _ _ D.TIz (hk₅ _ _ D.TIz D.TITO D.TIi1 D.TIi2 hTI), ⟨_, _, up _ _ D.TOz hTO₅⟩, up _ _ D.i1z h1₅, h2₅.at fun o e => up _ o D.i2z e,
    hl2.at fun o e => up _ o D.l2z (hk₅ _ o D.l2z D.l2TO D.l2i1 D.l2i2 e)⟩ hT₈ hz8 fun c o c1 c2 c3 c4 e => up c o c1 (hk₅ c o c1 c2 c3 c4 e)

theorem zipR_end {z TI TO i1 i2 l2 : Addr} {k2 : Nat} {ys : Array Value} {x left step : Int} {Q : Option Value → Shared → Prop} (hh : A.handled = none) (D : ZApart z TI TO i1 i2 l2)
    (hz : ZAt z TI TO i1 i2 l2 x left step k2 ys .none s.heap) (hleft : left ≤ 0)
    (hQ : ∀ h', (∀ c o, c ≠ z → c ≠ TO → c ≠ i1 → s.heap.get? c = some o → h'.get? c = some o) → Q none { s with heap := h' }) :
    wpAny (model prog w) A (pyNext (.ref z)) Q E s := by
  obtain ⟨hz, hTI, ⟨a, b, hTO⟩, h1, h2, hl2⟩ := hz
  have hT : s.TypeIs (.ref z) "zip" := ⟨_, hz, rfl⟩
  unfold pyNext
  refine wpAny_bind (wpAny_attempt (wpAny_callSpecial?_slot (name := Str.ofString "__next__") hT F.slot_zip_next
    (wpAny_call_entry F.slot_zip_next hT F.entry_zip_next ?_ (F.args_zip_next_1 _))))
  show wpAny _ _ (field (.ref z) 2 >>= _) _ _ _
  refine wpAny_bind (wpAny_field hz rfl (x := .bool false) rfl ?_)
  show wpAny _ _ (field (.ref z) 3 >>= _) _ _ _
  refine wpAny_bind (wpAny_field hz rfl (x := .ref TI) rfl ?_)
  refine wpAny_bind (wpAny_seqItems hTI rfl ?_)
  show wpAny _ _ (Builtin.SmallTypes.ownedTupleIsFree (.ref z) >>= _) _ _ _
  refine wpAny_bind ?_
  unfold Builtin.SmallTypes.ownedTupleIsFree
  refine wpAny_bind (wpAny_field hz rfl (x := .none) rfl (wpAny_pure ?_))
  simp only [if_true]
  refine wpAny_bind (wpAny_rule ?_)
  refine wpAny_bind (wpAny_field hz rfl (x := .ref TO) rfl ?_)
  refine wpAny_bind (wpAny_setField_rec hz (by simp) fun h₁ hz₁ hs₁ => ?_)
  replace hz₁ : IsZip h₁ z TI TO .ellipsis := hz₁
  refine wpAny_bind ?_
  simp only [List.zipIdx_cons, List.zipIdx_nil, List.forIn_cons, List.forIn_nil]
  refine wpAny_bind (wpAny_bind (wpAny_onRaise ?_))
  show wpAny _ _ (Builtin.SmallTypes.nextOf (.ref i1) >>= _) _ _ _
  refine wpAny_bind (nextOf_range_end hh (hs₁.extBut _ _ D.i1z h1) hleft fun h₂ e hs₂ he => ?_)
  obtain ⟨oe, hoe, hce⟩ := he
  have hz₂ : IsZip h₂ z TI TO .ellipsis := hs₂ _ _ D.i1z.symm hz₁
  have hez : e ≠ z := fun x => by subst x; rw [hz₂] at hoe; cases hoe; simp at hce
  refine wpAny_setField_rec hz₂ (by simp) fun h₃ _ hs₃ => ?_
  refine wpAny_bind (wpAny_isInstance (T := "StopIteration") (b := true) ⟨oe, hs₃.extBut _ _ hez hoe, hce⟩ isSubtype_stop ?_)
  exact wpAny_pure (hQ _ fun c o c1 _ c3 x => hs₃.extBut _ _ c1 (hs₂ _ _ c3 (hs₁.extBut _ _ c1 x)))

noncomputable abbrev zr1 (h : Heap) (a b c : Int) : Heap := h.push { cls := .type "range_iterator", data := .fields #[rawInt a, rawInt (Builtin.Range.rangeSize a b c), rawInt c] }
noncomputable abbrev zr2 (h : Heap) (i2 : Addr) (a b c : Int) : Heap := (zr1 h a b c).push { cls := .type "tuple", data := .seq #[.ref h.objs.size, .ref i2] }
noncomputable abbrev zr3 (h : Heap) (i2 : Addr) (a b c : Int) : Heap := (zr2 h i2 a b c).push { cls := .type "tuple", data := .seq #[.none, .none] }
noncomputable abbrev zr4 (h : Heap) (i2 : Addr) (a b c : Int) : Heap := (zr3 h i2 a b c).push { cls := .type "zip", data := .fields #[.none, .bool false, .bool false, .ref (zr1 h a b c).objs.size, .ref (zr2 h i2 a b c).objs.size] }
theorem zipR_new (r l2 i2 : Addr) (a b c : Int) (t u v : Tok) (k2 : Nat) (hsmall : Builtin.Range.small a b c = true) :
    Meets (Builtin.«zip.__new__» ⟨[.type "zip", .ref r, .ref i2], []⟩) (fun _ R s => IsRange s.heap r a b c t u v ∧ s.heap.IsListIter i2 l2 k2 ∧
      R (.ok (.ret (.ref (zr3 s.heap i2 a b c).objs.size))) { s with heap := zr4 s.heap i2 a b c }) := by
  intro prog w A R s h
  obtain ⟨hp, g, d, tk, os⟩ := s; obtain ⟨hr, hi2, h⟩ := h
  have hsub := sub_zip
  have hR : IsRange (Shared.heap ⟨hp, g, d, tk, os⟩) r a b c t u v := hr
  have hL2 : Heap.IsListIter (Shared.heap ⟨hp.push { cls := .type "range_iterator", data := .fields #[rawInt a, rawInt (Builtin.Range.rangeSize a b c), rawInt c] }, g, d, tk, os⟩) i2 l2 k2 := hi2.at fun o e => Heap.get?_push_of_some _ e
  wp_walk using wpAny_pyIter_range hR hsmall, wpAny_pyIter_listiter hL2
  exact h
theorem call_zipR {r l2 i2 : Addr} {a b c : Int} {t u v : Tok} {k2 : Nat} {ys : Array Value} {Q : Value → Shared → Prop} (hsmall : Builtin.Range.small a b c = true)
    (hr : IsRange s.heap r a b c t u v) (h2 : s.heap.IsListIter i2 l2 k2) (hl2 : s.heap.IsList l2 ys)
    (h : ∀ h' z TI TO i1, ZAt z TI TO i1 i2 l2 a (Builtin.Range.rangeSize a b c) c k2 ys .none h' → ZApart z TI TO i1 i2 l2 → Keep s.heap h' → s.heap.get? z = none → s.heap.get? TI = none → s.heap.get? TO = none → s.heap.get? i1 = none → Q (.ref z) { s with heap := h' })
    (hi2l2 : i2 ≠ l2) :
    wpAny (model prog w) A (call (.type "zip") [.ref r, .ref i2]) Q E s := by
  refine callType_new F.called_zip (by decide) (F.typeCall_zip_2 _ _) (F.newCall_zip_2 _ _) (fun obj => F.args_object_init_3 obj _ _) F.entry_zip_new
    (zipR_new r l2 i2 a b c t u v k2 hsmall) ⟨hr, h2, ?_⟩
  have z1 : (zr1 s.heap a b c).objs.size = s.heap.objs.size + 1 := Heap.size_push ..
  have z2 : (zr2 s.heap i2 a b c).objs.size = s.heap.objs.size + 2 := by rw [Heap.size_push, z1]
  have z3 : (zr3 s.heap i2 a b c).objs.size = s.heap.objs.size + 3 := by rw [Heap.size_push, z2]
  have g4 : (zr4 s.heap i2 a b c).get? (zr3 s.heap i2 a b c).objs.size = some _ := Heap.get?_push_size _ rfl
  have g3 : (zr4 s.heap i2 a b c).get? (zr2 s.heap i2 a b c).objs.size = some _ := Heap.get?_push_of_some _ (Heap.get?_push_size _ rfl)
  have g2 : (zr4 s.heap i2 a b c).get? (zr1 s.heap a b c).objs.size = some _ := Heap.get?_push_of_some _ (Heap.get?_push_of_some _ (Heap.get?_push_size _ rfl))
  have g1 : (zr4 s.heap i2 a b c).get? s.heap.objs.size = some _ := Heap.get?_push_of_some _ (Heap.get?_push_of_some _ (Heap.get?_push_of_some _ (Heap.get?_push_size _ rfl)))
  have kp : Keep s.heap (zr4 s.heap i2 a b c) := fun b o x => Heap.get?_push_of_some _ (Heap.get?_push_of_some _ (Heap.get?_push_of_some _ (Heap.get?_push_of_some _ x)))
  show _ ∧ _
  have l1 : @LT.lt Nat _ i2 s.heap.objs.size := by obtain ⟨_, e, _⟩ := h2; exact Heap.lt_size e
  have l3 : @LT.lt Nat _ l2 s.heap.objs.size := by obtain ⟨_, e, _⟩ := hl2; exact Heap.lt_size e
  have fr : ∀ x, s.heap.objs.size ≤ x → s.heap.get? x = none := fun x hx => Heap.get?_none_of_le hx
  rw [z1, z2] at g4
  rw [z2] at g3
  rw [z1] at g2
  rw [z3] at g4 ⊢
  have h2' : (zr4 s.heap i2 a b c).IsListIter i2 l2 k2 := h2.at fun o e => kp _ _ e
  have hl2' : (zr4 s.heap i2 a b c).IsList l2 ys := hl2.at fun o e => kp _ _ e
  generalize hN : s.heap.objs.size = N at *
  refine ⟨⟨_, g4, rfl⟩, h _ (N + 3) (N + 1) (N + 2) N ⟨g4, g2, ⟨_, _, g3⟩, g1, h2', hl2'⟩ ?_ kp (fr _ (by omega)) (fr _ (by omega)) (fr _ (by omega)) (fr _ (by omega))⟩
  constructor <;> first | exact hi2l2.symm | (show (_ : Nat) ≠ _; omega)
end
end Mine
namespace Mine
open PySem PySem.W PyProof.Rows
theorem mro_object : mroOf (.type "object") = pure [.type "object"] := by kernel_rfl
theorem lookup_object_new : typeLookup (.type "object") "__new__" = pure (some (.builtin "object.__new__")) := by rw [typeLookup_type, builtinLookup_eq_fast]; kernel_rfl
theorem made_object : Bind.madeBy (.type "object") = pure (some "object.__new__") := madeBy_type mro_object lookup_object_new (by decide +kernel)
theorem called_object : TypeCalled "object" "object.__new__" "object.__init__" :=
  ⟨by decide +kernel, by decide +kernel, ⟨_, _, mro_object⟩, made_object, by decide +kernel, by rw [isSubtype_type]; kernel_rfl, PySem.F.slot_object_init⟩
theorem typeCall_object : checkTypeCall "object" ⟨[], []⟩ = pure () := by kernel_rfl
theorem newCall_object : checkBuiltinCall "object.__new__" ⟨[.type "object"], []⟩ = pure () := by kernel_rfl
theorem args_object_init1 (a : Value) : argsOk "object.__init__" ⟨[a], []⟩ := by
  unfold argsOk; rw [signature?_of (id := "object.__init__") (n := ['_', '_', 't', 'i', 'n', 'i', '_', '_']) (o := ['t', 'c', 'e', 'j', 'b', 'o']) (by kernel_rfl) PySem.F.owner_object]; kernel_rfl
theorem object_new_eq : Builtin.«object.__new__» ⟨[.type "object"], []⟩ = (newObj (.type "object") .plain none >>= fun v => ret v) := by kernel_rfl
theorem object_new_meets : Meets (Builtin.«object.__new__» ⟨[.type "object"], []⟩) (fun _ R s => R (.ok (.ret (.ref s.heap.objs.size))) { s with heap := s.heap.push { cls := .type "object", data := .plain } }) := by
  intro prog w A R s h
  rw [object_new_eq]
  exact wpAny_bind (wpAny_newObj_type (wpAny_pure h))
theorem object_init_meets1 (self : Value) : Meets (Builtin.«object.__init__» ⟨[self], []⟩) (fun _ R s => R (.ok (.ret .none)) s) := by
  intro prog w A R s h
  exact wpAny_pure h
section
variable {prog : Program} {w : World} {A : Around} {E : Value → Shared → Prop} {s : Shared}
theorem call_object {Q : Value → Shared → Prop} (h : ∀ h', Keep s.heap h' → h'.get? s.heap.objs.size = some { cls := .type "object", data := .plain } → Q (.ref s.heap.objs.size) { s with heap := h' }) : wpAny (model prog w) A (call (.type "object") []) Q E s := by
  refine callType_meets called_object typeCall_object newCall_object PySem.F.entry_object_new PySem.F.entry_object_init object_new_meets
    (Q₁ := fun obj s₁ => s₁.TypeIs obj "object" ∧ Q obj s₁) ⟨⟨_, Heap.get?_push_size _ rfl, rfl⟩, h _ (fun b o e => Heap.get?_push_of_some _ e) (Heap.get?_push_size _ rfl)⟩ fun obj s₁ hq => ⟨hq.1, args_object_init1 _, _, object_init_meets1 _, rfl, hq.2⟩
end
end Mine
namespace Mine
open PySem PySem.W PyProof.Rows
noncomputable def fd121 : FuncData := Subtype.val (p := fun x => x = fdOf 121) (by
  refine ⟨?_, ?_⟩
  rotate_left
  · conv => rhs; whnf)
theorem fn121 (w : World) : (HK w).lookup 121 = some { cls := .type "function", data := .func fd121 } := by kernel_rfl
noncomputable def fd127 : FuncData := Subtype.val (p := fun x => x = fdOf 127) (by
  refine ⟨?_, ?_⟩
  rotate_left
  · conv => rhs; whnf)
theorem fn127 (w : World) : (HK w).lookup 127 = some { cls := .type "function", data := .func fd127 } := by kernel_rfl

/-- an item that lies apart from S -/
noncomputable def XIn (S : List Addr) (h : Heap) (v : Value) (ns is : List Int) : Prop :=
  ∃ a b us vs, v = .ref a ∧ a ∉ S ∧ b ∉ S ∧ IsTup h a (List.toArray (.ref b :: us)) ∧ IsTup h b (List.toArray vs) ∧ IntsAre vs ns ∧ IntsAre us is
theorem XIn.kp {S : List Addr} {h h' : Heap} {v : Value} {ns is : List Int} (x : XIn S h v ns is) (k : Kp S h h') : XIn S h' v ns is :=
  let ⟨a, b, us, vs, e, h1, h2, h3, h4, h5, h6⟩ := x
  ⟨a, b, us, vs, e, h1, h2, k.tup h3 h1, k.tup h4 h2, h5, h6⟩
theorem XIn.keep {S : List Addr} {h h' : Heap} {v : Value} {ns is : List Int} (x : XIn S h v ns is) (k : Keep h h') : XIn S h' v ns is := x.kp fun b o _ e => k b o e
theorem XIn.sub {S S' : List Addr} {h : Heap} {v : Value} {ns is : List Int} (x : XIn S h v ns is) (hs : ∀ a, a ∈ S' → a ∈ S) : XIn S' h v ns is :=
  let ⟨a, b, us, vs, e, h1, h2, h3, h4, h5, h6⟩ := x
  ⟨a, b, us, vs, e, fun m => h1 (hs _ m), fun m => h2 (hs _ m), h3, h4, h5, h6⟩
theorem XIn.xi {S : List Addr} {h : Heap} {v : Value} {ns is : List Int} (x : XIn S h v ns is) : XI h v ns is :=
  let ⟨a, b, us, vs, e, h1, h2, h3, h4, h5, h6⟩ := x
  ⟨a, .ref b, us, e, h3, ⟨b, vs, rfl, h4, h5⟩, h6⟩

/-- a key: a def or a lambda at q, that gives tuples of ints -/
structure KeyC (prog : Program) (w : World) (H : Heap) (q : Addr) (kf : Nat → List Int) (d m : Nat) : Prop where
  fn : ∃ o fd, H.get? q = some o ∧ o.data = .func fd
  call : ∀ (A' : Around) (s' : Shared) (i : Nat) (t : Tok), Rm A' d → Keep H s'.heap → i < m → wpAny (model prog w) A' (call (.ref q) [.int (i : Int) t]) (KeyBack (fun j => TObj (kf j)) i s') (fun _ _ => False) s'
theorem KeyC.keep {prog : Program} {w : World} {H H' : Heap} {q : Addr} {kf : Nat → List Int} {d m : Nat} (x : KeyC prog w H q kf d m) (k : Keep H H') : KeyC prog w H' q kf d m where
  fn := let ⟨o, fd, a, b⟩ := x.fn; ⟨o, fd, k _ _ a, b⟩
  call := fun A' s' i t R k' hi => x.call A' s' i t R (fun b o e => k' b o (k b o e)) hi

noncomputable abbrev natInts (m : Nat) : List Int := (List.range m).map fun (i : Nat) => (i : Int)
theorem natInts_get {m i : Nat} (h : i < m) : (natInts m)[i]? = some (i : Int) := by simp [h]

section
variable {prog : Program} {w : World} {A : Around} {E : Value → Shared → Prop} {s : Shared} {mg mb : Str → Option Value} {env : Env}
theorem iterL {l : Addr} {xs : Array Value} {Q : Value → Shared → Prop} (hl : s.heap.PlainList l xs) (h : ∀ h' I, Keep s.heap h' → s.heap.get? I = none → h'.IsListIter I l 0 → Q (.ref I) { s with heap := h' }) :
    wpAny (model prog w) A (call (.builtin "iter") [.ref l]) Q E s := by
  refine Calls.call_function_entry (by decide +kernel) (by decide +kernel) kdk_entry_iter (kdk_args_iter _) ?_
  unfold Builtin.«iter»
  refine wpAny_bind (m := someArgs "iter" 1 2 _) (wpAny_of_eq (a := [Value.ref l]) (by first | rfl | kernel_rfl!) ?_)
  show wpAny _ _ (pyIter (.ref l) >>= _) _ _ _
  refine wpAny_bind (wpAny_pyIter_list hl.isList ?_)
  exact wpAny_pure ⟨_, rfl, h _ _ (new_keep _ _) fresh_none ⟨_, Heap.get?_push_size _ rfl, rfl, rfl⟩⟩
theorem cwt2 {pos : Pos} {id : String} {e1 e2 : Expr} {Q : Value → Shared → Prop}
    (h : wpAny (model prog w) A (spliced (backTo pos (starEach [e1, e2] env))) (fun vs s₁ => wpAny (model prog w) A (call (.type id) vs) Q E s₁) E s)
    (h1 : starEach [e1, e2] env = (false, eval e1 env) :: starEach [e2] env := by rfl) (h2 : starEach [e2] env = [(false, eval e2 env)] := by rfl) :
    wpAny (model prog w) A (callWith pos (.type id) [] (backTo pos (starEach [e1, e2] env)) []) Q E s :=
  PyProof.Rows.callWith_type1 h h1 (by rw [h2]; rfl)
theorem cwt3 {pos : Pos} {id : String} {e1 e2 e3 : Expr} {Q : Value → Shared → Prop}
    (h : wpAny (model prog w) A (spliced (backTo pos (starEach [e1, e2, e3] env))) (fun vs s₁ => wpAny (model prog w) A (call (.type id) vs) Q E s₁) E s)
    (h1 : starEach [e1, e2, e3] env = (false, eval e1 env) :: starEach [e2, e3] env := by rfl) (h2 : starEach [e2, e3] env = [(false, eval e2 env), (false, eval e3 env)] := by rfl) :
    wpAny (model prog w) A (callWith pos (.type id) [] (backTo pos (starEach [e1, e2, e3] env)) []) Q E s :=
  PyProof.Rows.callWith_type1 h h1 (by rw [h2]; rfl)
/-- an item of a list or a tuple, whatever stands ahead of the bracket -/
theorem itemL {value slice : Expr} {a : Addr} {xs : Array Value} (k : Nat) {u : Tok} {x : Value} {Q : Value → Shared → Prop} (hl : s.heap.PlainList a xs) (hx : xs[k]? = some x) (hk : k < 2 ^ 40) (h : Q x s)
    (hs : subscripted slice false (.ref a) (.int (k : Nat) u) = operate [.ref a, .int (k : Nat) u] (getItem (.ref a) (.int (k : Nat) u)) := by with_unfolding_all rfl) :
    wpAny (model prog w) A (subscriptTail value slice (.ref a) (.int (k : Nat) u)) Q E s :=
  tail_any hl.isList.typeIs slot_list_getitem.lookup (wpAny_getItem_list hl.isList (by omega) (by omega) (by simpa using hx) h) hs
theorem itemT {value slice : Expr} {a : Addr} {xs : Array Value} (k : Nat) {u : Tok} {x : Value} {Q : Value → Shared → Prop} (ht : IsTup s.heap a xs) (hx : xs[k]? = some x) (hk : k < 2 ^ 40) (h : Q x s)
    (hs : subscripted slice false (.ref a) (.int (k : Nat) u) = operate [.ref a, .int (k : Nat) u] (getItem (.ref a) (.int (k : Nat) u)) := by with_unfolding_all rfl) :
    wpAny (model prog w) A (subscriptTail value slice (.ref a) (.int (k : Nat) u)) Q E s :=
  item_tupleT (l := xs.toList) (by simpa using ht) (by omega) (by omega) (j := k) (by
    have : k < xs.size := (Array.getElem?_eq_some_iff.mp hx).1
    unfold seqIndex?
    simp
    omega) (by simpa using hx) h hs
end

theorem sizeNeg (n : Nat) : Builtin.Range.rangeSize 0 (-(n : Int)) (-1) = (n : Int) := by
  unfold Builtin.Range.rangeSize
  rw [if_neg (by decide)]
  have e : -(-1 : Int) = 1 := rfl
  rw [e, Int.ediv_one]
  split <;> omega
theorem smallNeg {n : Nat} (h : n < 1000) : Builtin.Range.small 0 (-(n : Int)) (-1) = true := by
  unfold Builtin.Range.small
  rw [sizeNeg]
  simp only [Builtin.Range.rangeFitsLong, Bool.and_eq_true, Bool.or_eq_true, decide_eq_true_eq, beq_iff_eq, show ¬ ((-1 : Int) > 0) by decide, if_false]
  omega
section
variable {prog : Program} {w : World} {A : Around} {E : Value → Shared → Prop} {s : Shared}
theorem mkRange3 {a b c : Int} {t u v : Tok} {Q : Value → Shared → Prop} (hc : c ≠ 0) (hp : Builtin.divisionGoesByPylong (b - a) c = false)
    (h : ∀ h' r tk, Keep s.heap h' → s.heap.get? r = none → IsRange h' r a b c t u v → Q (.ref r) { s with heap := h', toks := tk }) :
    wpAny (model prog w) A (call (.type "range") [.int a t, .int b u, .int c v]) Q E s :=
  call_range_3 hc (h _ _ _ (fun b o e => Heap.get?_push_of_some _ e) fresh_none (Heap.get?_push_size _ rfl)) (.inl hp)
end
theorem cell_at {h h' : Heap} {c : Addr} {v : Option Value} (x : h.IsCell c v) (k : ∀ o, h.get? c = some o → h'.get? c = some o) : h'.IsCell c v := let ⟨o, g, d⟩ := x; ⟨o, k _ g, d⟩
theorem ZAt.kp {S : List Addr} {z TI TO i1 i2 l2 : Addr} {x left step : Int} {k2 : Nat} {ys : Array Value} {f0 : Value} {h h' : Heap} (Z : ZAt z TI TO i1 i2 l2 x left step k2 ys f0 h) (k : Kp S h h')
    (a1 : z ∉ S) (a2 : TI ∉ S) (a3 : TO ∉ S) (a4 : i1 ∉ S) (a5 : i2 ∉ S) (a6 : l2 ∉ S) : ZAt z TI TO i1 i2 l2 x left step k2 ys f0 h' where
  z := k _ _ a1 Z.z
  TI := k _ _ a2 Z.TI
  TO := let ⟨a, b, e⟩ := Z.TO; ⟨a, b, k _ _ a3 e⟩
  i1 := k _ _ a4 Z.i1
  i2 := Z.i2.at fun o e => k _ o a5 e
  l2 := Z.l2.at fun o e => k _ o a6 e
theorem ZAt.back {z TI TO i1 i2 l2 : Addr} {x left step : Int} {k2 : Nat} {ys : Array Value} {f0 : Value} {h h' : Heap} (D : ZApart z TI TO i1 i2 l2) (Z : ZAt z TI TO i1 i2 l2 x left step k2 ys f0 h) (g : IsZip h' z TI TO .none) (k : Heap.SameBut z h h') :
    ZAt z TI TO i1 i2 l2 x left step k2 ys .none h' where
  z := g
  TI := (k.2 _ D.TIz).trans Z.TI
  TO := let ⟨a, b, e⟩ := Z.TO; ⟨a, b, (k.2 _ D.TOz).trans e⟩
  i1 := (k.2 _ D.i1z).trans Z.i1
  i2 := Z.i2.extBut k.extBut D.i2z
  l2 := Z.l2.extBut k.extBut D.l2z
end Mine
namespace Mine
open PySem PySem.W PyProof.Rows
section
variable {prog : Program} {w : World} {A : Around} {E : Value → Shared → Prop} {s : Shared} {mg mb : Str → Option Value}
set_option maxHeartbeats 2000000 in
theorem ns_fill {H h : Heap} {L l q : Addr} {mm : Str → Option Value} {us : List Value} {m n : Nat} {tn : Tok} {kf : Nat → List Int} {tk : Nat} {Q : Flow → Shared → Prop}
    (C : Cx w mg mb H) (R : Rm A 30) (N : h.Ns L mm) (K : Keep H h) (fL : H.get? L = none)
    (e1 : mm (Str.ofString "n") = some (.int n tn)) (e2 : mm (Str.ofString "iterable") = some (.ref l)) (cq : h.IsCell (L + 1) (some (.ref q))) (fc : H.get? (L + 1) = none)
    (hl : H.PlainList l us.toArray) (hi : IntsAre us (natInts m)) (hm : m < 64) (hn : n < m) (hkey : KeyC prog w H q kf 20 m)
    (next : ∀ h' tk' D I f mm', h'.Ns L mm' → mm' (Str.ofString "n") = some (.int n tn) → mm' (Str.ofString "result") = some (.ref D) → mm' (Str.ofString "it") = some (.ref I) →
      h'.PlainList D (lst It.v f n).toArray → (∀ k, k < n → (f k).o = (((k : Nat)) : Int) ∧ (f k).e = k ∧ XIn [L, D, I] h' (f k).v (kf k) [(f k).o, ((f k).e : Int)]) → h'.IsListIter I l n → h'.IsCell (L + 1) (some (.ref q)) → Keep H h' →
      H.get? D = none → H.get? I = none → D ≠ L → I ≠ L → D ≠ I →
      wpAny (model prog w) A (execs ((fb fd121).drop 5) (callEnvC fd121 L 121)) Q (fun _ _ => False) { s with heap := h', toks := tk' }) :
    wpAny (model prog w) A (execs ((fb fd121).drop 3) (callEnvC fd121 L 121)) Q (fun _ _ => False) { s with heap := h, toks := tk } := by
  have hll : l ≠ L := fun e => by obtain ⟨_, g⟩ := hl; rw [e, fL] at g; cases g
  have C1 := C.keeps K
  refine wpAny_execs_cons ?_
  refine wpAny_Assign_Name ?_
  refine Call_ ?_
  refine nmB C1 (by kernel_rfl) boot_iter (by decide) ?_
  refine cwb1 ?_
  refine args_cons ?_
  refine nmL N e2 ?_
  refine args_nil ?_
  refine iterL (plain_keep hl K) ?_
  intro h2 I k2 fI I2
  dsimp only at k2 fI I2 ⊢
  have K2 : Keep H h2 := fun b o e => k2 _ _ (K b o e)
  have fI0 : H.get? I = none := by
    cases e : H.get? I with
    | none => rfl
    | some o => rw [K _ _ e] at fI; cases fI
  have IL : I ≠ L := fun e => by obtain ⟨o, g⟩ := ns_some N; rw [← e, fI] at g; cases g
  have Il : l ≠ I := fun e => by obtain ⟨_, g⟩ := hl; rw [e, fI0] at g; cases g
  have cI : I ≠ L + 1 := fun e => by obtain ⟨o, g, _⟩ := cq; rw [← e, fI] at g; cases g
  refine stL (N.keeps k2) K2 fL ?_
  intro h3 tq3 N3 K3 s3
  dsimp only at N3 s3 ⊢
  have C3 := C.keeps K3
  have I3 : h3.IsListIter I l 0 := I2.extBut s3.extBut IL
  have cL : L + 1 ≠ L := Nat.succ_ne_self _
  have c3 : h3.IsCell (L + 1) (some (.ref q)) := (cell_keep cq k2).sameBut s3 cL
  refine wpAny_execs_cons ?_
  refine compUse (cl := [(Str.ofString "key", L + 1)]) ?_ ?_ ?_ ?_ ?_ ?_ ?_ ?_
  · with_unfolding_all rfl
  · rfl
  · decide
  · rfl
  · decide
  · rfl
  · rfl
  refine Call_ ?_
  refine nmB C3 (by kernel_rfl) boot_zip (by decide) ?_
  refine cwt2 ?_
  refine args_cons ?_
  refine Call_ ?_
  refine nmB C3 (by kernel_rfl) boot_range (by decide) ?_
  refine cwt1 ?_
  refine args_cons ?_
  refine nmL N3 e1 ?_
  refine args_nil ?_
  refine mkRange ?_
  intro h4 r tk4 tr ur vr k4 f4 r4
  dsimp only at k4 f4 r4 ⊢
  refine args_cons ?_
  refine nmL (N3.keeps k4) rfl ?_
  refine args_nil ?_
  try dsimp only
  refine call_zipR (small_one (by decide) (by decide) (by omega) (by omega)) r4 (I3.at fun o e => k4 _ _ e) (plain_keep hl (fun b o e => k4 _ _ (K3 b o e))).isList ?_ Il.symm
  intro h5 z TI TO i1 Z5 ap k5 fz fTI fTO fi1
  have esz : Builtin.Range.rangeSize 0 n 1 = (n : Int) := by rw [rangeSize_one]; split <;> omega
  rw [esz] at Z5
  dsimp only at k5 fz fTI fTO fi1 ⊢
  refine wpAny_pyIter_zip Z5.z ?_
  intro D CC h6 tk6 k6 D6 N6 fD fC DC
  dsimp only at k6 fD fC ⊢
  have kk5 : Keep h3 h5 := fun b o e => k5 _ _ (k4 _ _ e)
  have kk6 : Keep h3 h6 := fun b o e => k6 _ _ (kk5 _ _ e)
  have K6 : Keep H h6 := fun b o e => kk6 _ _ (K3 _ _ e)
  have fr : ∀ x, h5.get? x = none → h3.get? x = none := fun x e => by
    cases e' : h3.get? x with
    | none => rfl
    | some o => rw [kk5 _ _ e'] at e; cases e
  have fr4 : ∀ x, h4.get? x = none → h3.get? x = none := fun x e => by
    cases e' : h3.get? x with
    | none => rfl
    | some o => rw [k4 _ _ e'] at e; cases e
  have frH : ∀ x, h3.get? x = none → H.get? x = none := fun x e => by
    cases e' : H.get? x with
    | none => rfl
    | some o => rw [K3 _ _ e'] at e; cases e
  -- what lies apart
  have old3 : ∀ b o, h3.get? b = some o → b ≠ I → b ∉ [CC, D, z, TO, i1, I] := fun b o e hb => by
    simp only [List.mem_cons, List.not_mem_nil, or_false, not_or]
    exact ⟨(ne_fresh (fr _ fC) e).symm, (ne_fresh (fr _ fD) e).symm, (ne_fresh (fr4 _ fz) e).symm, (ne_fresh (fr4 _ fTO) e).symm, (ne_fresh (fr4 _ fi1) e).symm, hb⟩
  obtain ⟨oI, gI, _⟩ := id I3
  obtain ⟨oL, gL⟩ := ns_some N3
  have zs : ∀ {x o}, h5.get? x = some o → x ≠ CC ∧ x ≠ D := fun {x o} e => ⟨(ne_fresh fC e).symm, (ne_fresh fD e).symm⟩
  have z1 := zs Z5.z
  have z2 := zs Z5.TI
  have z3 : TO ≠ CC ∧ TO ≠ D := let ⟨_, _, e⟩ := Z5.TO; zs e
  have z4 := zs Z5.i1
  have z5 : I ≠ CC ∧ I ≠ D := let ⟨_, e, _⟩ := Z5.i2; zs e
  have z6 : l ≠ CC ∧ l ≠ D := let ⟨_, e, _⟩ := Z5.l2; zs e
  have ne2 : ∀ {x}, x ≠ CC ∧ x ≠ D → x ∉ [CC, D] := fun {x} h => by simp [h.1, h.2]
  have zkp : ∀ {h h' : Heap} {x left : Int} {k : Nat} {f0 : Value}, ZAt z TI TO i1 I l x left 1 k us.toArray f0 h → Kp [CC, D] h h' → ZAt z TI TO i1 I l x left 1 k us.toArray f0 h' :=
    fun Z k => Z.kp k (ne2 z1) (ne2 z2) (ne2 z3) (ne2 z4) (ne2 z5) (ne2 z6)
  have LCD : L ≠ CC ∧ L ≠ D := ⟨(ne_fresh (fr _ fC) gL).symm, (ne_fresh (fr _ fD) gL).symm⟩
  have LS : L ∉ [CC, D, z, TO, i1, I] := old3 _ _ gL IL.symm
  have cS : L + 1 ∉ [CC, D, z, TO, i1, I] := by obtain ⟨o, g, _⟩ := id c3; exact old3 _ _ g cI.symm
  have KH : ∀ {h : Heap}, Kp [CC, D, z, TO, i1, I] h6 h → Keep H h := fun {h} k b o e => k b o (old3 b o (K3 _ _ e) (fun e' => by rw [e', fI0] at e; cases e)) (K6 _ _ e)
  obtain ⟨Inv, hInv⟩ : ∃ Inv : Nat → Shared → Prop, ∀ k s', Inv k s' ↔ (∃ (h : Heap) (tk : Nat) (mc : Str → Option Value) (f : Nat → It) (i : Nat), s' = { s with heap := h, toks := tk } ∧ h.Ns CC mc ∧ h.PlainList D (lst It.v f i).toArray ∧
      ZAt z TI TO i1 I l (((i : Nat)) : Int) ((n : Int) - (i : Int)) 1 i us.toArray .none h ∧ Kp [CC, D, z, TO, i1, I] h6 h ∧
      (∀ k, k < i → (f k).o = (((k : Nat)) : Int) ∧ (f k).e = k ∧ XIn [L, CC, D, z, TO, i1, I] h (f k).v (kf k) [(f k).o, ((f k).e : Int)]) ∧ i + k = n) := ⟨_, fun _ _ => Iff.rfl⟩
  refine ⟨Inv, n,
    (hInv _ _).2 ⟨h6, tk6, _, fun _ => ⟨.none, 0, 0⟩, 0, rfl, N6, by simpa [lst] using D6, by simpa using zkp Z5 fun b o _ e => k6 _ _ e, Kp.refl, fun k hk => absurd hk (Nat.not_lt_zero _), by omega⟩, ?_, ?_⟩
  · intro E' Q' hq
    exact wpAny_pyIter_zip (k6 _ _ Z5.z) hq
  intro k s' hI0
  obtain ⟨h, tk, mc, f, i, rfl, Nc, hD, hZ, hK, hf, hik⟩ := (hInv _ _).1 hI0
  clear hI0
  cases k with
  | zero =>
    refine zipR_end R.hh ap hZ (by omega) ?_
    intro h7 k7
    dsimp only
    have K7 : Kp [CC, D, z, TO, i1, I] h h7 := fun b o hb e => by
      simp only [List.mem_cons, List.not_mem_nil, or_false, not_or] at hb
      exact k7 b o hb.2.2.1 hb.2.2.2.1 hb.2.2.2.2.1 e
    have N7 : h7.Ns L _ := ((N3.keeps kk6).at' fun o e => hK _ o LS e).at' fun o e => K7 _ o LS e
    refine ⟨mc, _, Nc.at' fun o e => k7 _ o z1.1.symm z3.1.symm z4.1.symm e, N7, LCD.1.symm, ?_⟩
    intro h8 tk8 N8 k8
    have hin : i = n := by omega
    subst hin
    have D7 : h7.PlainList D _ := hD.at fun o e => k7 _ o z1.2.symm z3.2.symm z4.2.symm e
    have nI : ∀ x, x ≠ L → x ≠ CC → x ∉ [L, CC] := fun x a b => by simp [a, b]
    have I8 : h8.IsListIter I l i := (hZ.i2.at fun o e => k7 _ o ap.i2z ap.TOi2.symm ap.i12.symm e).at fun o e => k8 _ o (nI _ IL z5.1) e
    refine next h8 tk8 D I f _ N8 e1 rfl rfl (k8.list D7 (nI _ LCD.2.symm DC)) (fun k hk => ?_) I8 ?_ ?_ (frH _ (fr _ fD)) fI0 LCD.2.symm IL z5.2.symm
    · obtain ⟨a1, a2, a3⟩ := hf k hk
      refine ⟨a1, a2, ((a3.kp (h' := h7) ?_).kp (h' := h8) ?_).sub ?_⟩
      · intro b o hb e
        refine K7 b o (fun hm => hb (List.mem_cons_of_mem _ hm)) e
      · intro b o hb e
        refine k8 b o ?_ e
        intro hm
        simp only [List.mem_cons, List.not_mem_nil, or_false] at hm
        rcases hm with rfl | rfl <;> exact hb (by simp)
      · intro a ha
        simp only [List.mem_cons, List.not_mem_nil, or_false] at ha ⊢
        rcases ha with rfl | rfl | rfl <;> simp
    · refine cell_at (h := h7) ?_ fun o e => k8 _ o (nI _ cL (fun e' => cS (by rw [e']; simp))) e
      refine cell_at (h := h) ?_ fun o e => K7 _ o cS e
      exact cell_at (cell_keep c3 kk6) fun o e => hK _ o cS e
    · intro b o e
      have eb := KH hK b o e
      have e3 := K3 _ _ e
      have bI : b ≠ I := fun e' => by rw [e', fI0] at e; cases e
      have nS := old3 b o e3 bI
      refine k8 b o (nI _ (fun e' => by rw [e', fL] at e; cases e) (fun e' => nS (by rw [e']; simp))) (K7 b o nS eb)
  | succ k =>
    have hin : i < n := by omega
    obtain ⟨ty, hty⟩ := IntsAre.get_ hi (natInts_get (m := m) (i := i) (by omega))
    refine zipR_item ap hZ (by omega) (by rw [List.getElem?_toArray]; exact hty) ?_
    intro h7 Z7 P7 n7 k7
    dsimp only at P7 n7 k7 ⊢
    refine wpAny_letOwnedTupleGo_zip Z7.z ?_
    intro h8 g8 s8
    dsimp only at s8 ⊢
    have Z8 := Z7.back ap g8 s8
    have fT : h.get? h.objs.size = none := fresh_none
    have Tz : h.objs.size ≠ z := fun e => by rw [e, hZ.z] at fT; cases fT
    have P8 : IsPair h8 h.objs.size _ _ := (s8.2 _ Tz).trans P7
    have K8 : Kp [CC, D, z, TO, i1, I] h h8 := fun b o hb e => by
      simp only [List.mem_cons, List.not_mem_nil, or_false, not_or] at hb
      exact (s8.2 b hb.2.2.1).trans (k7 b o hb.2.2.1 hb.2.2.2.1 hb.2.2.2.2.1 hb.2.2.2.2.2 e)
    have CZ : ∀ o, h.get? CC = some o → h8.get? CC = some o := fun o e => (s8.2 _ z1.1.symm).trans (k7 _ o z1.1.symm z3.1.symm z4.1.symm z5.1.symm e)
    have DZ : ∀ o, h.get? D = some o → h8.get? D = some o := fun o e => (s8.2 _ z1.2.symm).trans (k7 _ o z1.2.symm z3.2.symm z4.2.symm z5.2.symm e)
    refine unpack2 R.hh (tupOf P8) (Nc.at' CZ) ?_
    intro h9 tk9 N9 e9
    dsimp only at N9 e9 ⊢
    refine hideR ?_
    intro RQ hRQ
    have K9 : Kp [CC, D, z, TO, i1, I] h6 h9 := (hK.trans K8).ext (a := CC) e9 (by simp)
    have hH9 : Keep H h9 := KH K9
    have c9 : h9.IsCell (L + 1) (some (.ref q)) := cell_at (cell_keep c3 kk6) fun o e => K9 _ o cS e
    obtain ⟨oq, fdq, gq, dq⟩ := hkey.fn
    refine Tuple_ ?_
    refine args_cons ?_
    refine Call_ ?_
    refine nmC c9 ?_ rfl
    refine callWith_def (o := oq) dq ?_
    refine args_cons ?_
    refine nmL N9 rfl ?_
    refine args_nil ?_
    refine ⟨hH9 _ _ gq, ?_⟩
    refine wpAny_mono (hkey.call A _ i ty (R.le (by decide)) hH9 (by omega)) ?_ (fun _ _ x => x.elim)
    rintro v s'' ⟨ka, ko, h10, tk10, rfl, rfl, k10, f10, g10, ok10⟩
    dsimp only at k10 f10 ⊢
    refine args_cons ?_
    refine nmL (N9.keeps k10) rfl ?_
    refine args_cons ?_
    refine nmL (N9.keeps k10) rfl ?_
    refine args_nil ?_
    refine mkTup ?_
    intro h11 k11 g11 z11
    dsimp only at k11 g11 z11 ⊢
    have D9 : h9.PlainList D _ := (hD.at DZ).extBut e9 DC
    have D11 : h11.PlainList D _ := plain_keep (plain_keep D9 k10) k11
    refine hRQ _ _ ?_
    refine appendPlain D11 (by rw [lst_len]; omega) ?_
    intro h12 D12 s12
    dsimp only at D12 s12 ⊢
    have S9 : ∀ x, x ∈ [L, CC, D, z, TO, i1, I] → ∃ o, h9.get? x = some o := by
      have up : ∀ x o, x ≠ CC → h8.get? x = some o → h9.get? x = some o := fun x o hx e => e9 x o hx e
      intro x hx
      simp only [List.mem_cons, List.not_mem_nil, or_false] at hx
      rcases hx with rfl | rfl | rfl | rfl | rfl | rfl | rfl
      · exact ⟨_, K9 _ _ LS (kk6 _ _ gL)⟩
      · exact ns_some N9
      · exact list_some D9
      · exact ⟨_, up _ _ z1.1 Z8.z⟩
      · obtain ⟨_, _, e⟩ := Z8.TO; exact ⟨_, up _ _ z3.1 e⟩
      · exact ⟨_, up _ _ z4.1 Z8.i1⟩
      · obtain ⟨_, e, _⟩ := Z8.i2; exact ⟨_, up _ _ z5.1 e⟩
    have notS : ∀ y, h9.get? y = none → y ∉ [L, CC, D, z, TO, i1, I] := fun y e hy => by
      obtain ⟨o, e'⟩ := S9 y hy
      rw [e] at e'; cases e'
    have f11 : h9.get? h10.objs.size = none := fresh_of k10
    have K12 : Kp [CC, D, z, TO, i1, I] h6 h12 := ((K9.keep k10).keep k11).same s12 (by simp)
    have XK : ∀ {v : Value} {ns is : List Int}, XIn [L, CC, D, z, TO, i1, I] h v ns is → XIn [L, CC, D, z, TO, i1, I] h12 v ns is := fun x => by
      refine ((((x.kp (h' := h8) ?_).kp (h' := h9) ?_).keep k10).keep k11).kp ?_
      · exact fun b o hb e => K8 b o (fun hm => hb (List.mem_cons_of_mem _ hm)) e
      · exact fun b o hb e => e9 b o (fun e' : b = CC => hb (by rw [e']; simp)) e
      · exact fun b o hb e => (s12.2 b (fun e' => hb (by rw [e']; simp))).trans e
    obtain ⟨cko, ku, kn, kd, ki⟩ := ok10
    have N12 := ((N9.keeps k10).keeps k11).sameBut s12 DC.symm
    refine ⟨k, by omega, (hInv _ _).2 ⟨h12, _, _, upd f i ⟨.ref h10.objs.size, (((i : Nat)) : Int), i⟩, i + 1, rfl, N12, ?_, ?_, K12, ?_, by omega⟩⟩
    · rw [← lst_snoc]; exact D12
    · have Z12 := zkp (h := h8) (h' := h12) Z8 (fun b o hb e => by
        have hb1 : b ≠ CC := fun e' => hb (by rw [e']; simp)
        have hb2 : b ≠ D := fun e' => hb (by rw [e']; simp)
        exact (s12.2 b hb2).trans (k11 _ _ (k10 _ _ (e9 b o hb1 e))))
      have q1 : (((i : Nat)) : Int) + 1 = (((i + 1 : Nat)) : Int) := by omega
      have q2 : (n : Int) - (i : Int) - 1 = (n : Int) - ((i + 1 : Nat) : Int) := by omega
      rw [q1, q2] at Z12
      exact Z12
    · intro k hk
      by_cases hki : k = i
      · subst hki
        have e : upd f k ⟨.ref h10.objs.size, (((k : Nat)) : Int), k⟩ k = ⟨.ref h10.objs.size, (((k : Nat)) : Int), k⟩ := by simp [upd]
        rw [e]
        refine ⟨rfl, rfl, ?_⟩
        have kaS : ka ∉ [L, CC, D, z, TO, i1, I] := notS _ f10
        have tS : h10.objs.size ∉ [L, CC, D, z, TO, i1, I] := notS _ f11
        have kaD : ka ≠ D := fun e => kaS (by rw [e]; simp)
        have tD : h10.objs.size ≠ D := fun e => tS (by rw [e]; simp)
        exact ⟨h10.objs.size, ka, [.int _ _, .int _ _], ku, rfl, tS, kaS, tupOf ((s12.2 _ tD).trans g11), ⟨ko, (s12.2 _ kaD).trans (k11 _ _ g10), cko, kn, kd⟩, ki, .cons _ _ (.cons _ _ .nil)⟩
      · have e : upd f i ⟨.ref h10.objs.size, (((i : Nat)) : Int), i⟩ k = f k := by simp [upd, hki]
        rw [e]
        obtain ⟨a1, a2, a3⟩ := hf k (by omega)
        exact ⟨a1, a2, XK a3⟩
end
end Mine
namespace Mine
open PySem PySem.W PyProof.Rows

theorem lexX_ord : Ord lexX := by
  constructor
  · intro a b h
    unfold lexX at h ⊢
    by_cases e : a.1 = b.1
    · rw [if_pos e] at h; rw [if_pos e.symm]; exact lex_asym _ _ h
    · rw [if_neg e] at h; rw [if_neg (fun x => e x.symm)]; exact lex_asym _ _ h
  · intro a b c h1 h2
    unfold lexX at h1 h2 ⊢
    by_cases e : a.1 = b.1
    · rw [if_pos e] at h1
      by_cases f : b.1 = c.1
      · rw [if_pos f] at h2; rw [if_pos (e.trans f)]; exact lex_ntr _ _ _ h1 h2
      · rw [if_neg f] at h2; rw [if_neg (by rw [e]; exact f), e]; exact h2
    · rw [if_neg e] at h1
      by_cases f : b.1 = c.1
      · rw [if_neg (by rw [← f]; exact e), ← f]; exact h1
      · rw [if_neg f] at h2
        by_cases g : a.1 = c.1
        · rw [g] at h1
          exact absurd (lex_tri _ _ h2 h1) f
        · rw [if_neg g]; exact lex_ntr _ _ _ h1 h2
noncomputable def ltI (kf : Nat → List Int) (x y : It) : Bool := lexX (kf x.e, [x.o, (x.e : Int)]) (kf y.e, [y.o, (y.e : Int)])
theorem ltI_ord (kf : Nat → List Int) : Ord (ltI kf) := ⟨fun a b h => lexX_ord.asym _ _ h, fun a b c h1 h2 => lexX_ord.ntr _ _ _ h1 h2⟩
theorem key_ord (kf : Nat → List Int) : Ord (fun i j => lexLt (kf i) (kf j)) := ⟨fun a b h => lex_asym _ _ h, fun a b c h1 h2 => lex_ntr _ _ _ h1 h2⟩
theorem ltI_iff (kf : Nat → List Int) (x y : It) (h : x.o ≠ y.o) : ltI kf x y = true ↔ lexLt (kf x.e) (kf y.e) = true ∨ (lexLt (kf y.e) (kf x.e) = false ∧ x.o < y.o) := by
  unfold ltI lexX
  dsimp only
  by_cases e : kf x.e = kf y.e
  · rw [if_pos e, e]
    have i : lexLt (kf y.e) (kf y.e) = false := lex_ord.irr _
    rw [i]
    unfold lexLt
    rw [if_neg h]
    simp
  · rw [if_neg e]
    constructor
    · exact fun h => .inl h
    · rintro (h1 | ⟨h1, h2⟩)
      · exact h1
      · cases h3 : lexLt (kf x.e) (kf y.e) with
        | true => rfl
        | false => exact absurd (lex_tri _ _ h3 h1) e
theorem worseS (kf : Nat → List Int) : ∀ x y : It, x.o ≠ y.o → ((fun x y => ltI kf y x) x y = true ↔ lexLt (kf y.e) (kf x.e) = true ∨ (lexLt (kf x.e) (kf y.e) = false ∧ y.o < x.o)) := fun x y h => ltI_iff kf y x h.symm
theorem worseL (kf : Nat → List Int) : ∀ x y : It, -x.o ≠ -y.o → (ltI kf x y = true ↔ lexLt (kf x.e) (kf y.e) = true ∨ (lexLt (kf y.e) (kf x.e) = false ∧ -y.o < -x.o)) := fun x y h => by
  have := ltI_iff kf x y (by omega)
  rw [this]
  have e : x.o < y.o ↔ -y.o < -x.o := by omega
  rw [e]

/-- a tuple of ints that lies apart from S -/
noncomputable def TIn (S : List Addr) (h : Heap) (v : Value) (ns : List Int) : Prop := ∃ b vs, v = .ref b ∧ b ∉ S ∧ IsTup h b (List.toArray vs) ∧ IntsAre vs ns
theorem TIn.kp {S : List Addr} {h h' : Heap} {v : Value} {ns : List Int} (x : TIn S h v ns) (k : Kp S h h') : TIn S h' v ns := let ⟨b, vs, e, h1, h2, h3⟩ := x; ⟨b, vs, e, h1, k.tup h2 h1, h3⟩
theorem TIn.ti {S : List Addr} {h : Heap} {v : Value} {ns : List Int} (x : TIn S h v ns) : TI h v ns := let ⟨b, vs, e, h1, h2, h3⟩ := x; ⟨b, vs, e, h2, h3⟩
/-- an item in parts -/
theorem XIn.three {S : List Addr} {h : Heap} {v : Value} {ns : List Int} {p q : Int} (x : XIn S h v ns [p, q]) : ∃ a y t u, v = .ref a ∧ a ∉ S ∧ IsTup h a #[y, .int p t, .int q u] ∧ TIn S h y ns := by
  obtain ⟨a, b, us, vs, e, h1, h2, h3, h4, h5, h6⟩ := x
  obtain ⟨t, us1, rfl, h7⟩ := h6.cons_inv
  obtain ⟨u, us2, rfl, h8⟩ := h7.cons_inv
  have := h8.nil_inv
  subst this
  exact ⟨a, .ref b, t, u, e, h1, h3, b, vs, rfl, h2, h4, h5⟩

section
variable {prog : Program} {w : World} {A : Around} {E : Value → Shared → Prop} {s : Shared} {env : Env}
theorem cmpX {S : List Addr} {l : Addr} {h₀ : Heap} {v v' : Value} {ns ns' is is' : List Int} (hl : l ∈ S) (x : XIn S h₀ v ns is) (y : XIn S h₀ v' ns' is') : CmpLt prog w l h₀ v v' (lexX (ns, is) (ns', is')) :=
  fun A E s Q R e hq => by
    have k : Kp S h₀ s.heap := fun b o hb eb => e b o (fun e' => hb (by rw [e']; exact hl)) eb
    exact compareLt (LtAt.xi (x.kp k).xi (y.kp k).xi (R.le (k := 1) (by decide)).in1.units) (hq _)
/-- a method's call with one keyword -/
theorem callWith_methodK {pos : Pos} {id : String} {first : List Value} {kws : List Keyword} {Q : Value → Shared → Prop}
    (h : wpAny (model prog w) A (evalAll ((backToKw pos (keywordEach kws env)).map (·.2))) (fun kvs s₂ => wpAny (model prog w) A (call (.builtin id) first (((backToKw pos (keywordEach kws env)).filterMap (·.1)).zip kvs)) Q E s₂) E s)
    (hall : (backToKw pos (keywordEach kws env)).all (·.1.isSome) = true := by rfl)
    (hkw : (backToKw pos (keywordEach kws env)).any (·.1.isNone) = false := by rfl) :
    wpAny (model prog w) A (callWith pos (.builtin id) first (backTo pos (starEach [] env)) (backToKw pos (keywordEach kws env))) Q E s := by
  refine callWith_builtin_kwB rfl hkw ?_
  unfold evalArgs
  show wpAny (model prog w) A (spliced (backTo pos (starEach [] env)) >>= _) _ E s
  refine wpAny_bind (args_nil (pos := pos) (env := env) ?_)
  refine wpAny_bind (wpAny_pure ?_)
  refine wpAny_holding ?_
  rw [if_pos hall]
  refine wpAny_bind (wpAny_mono h (fun kvs s₂ h₂ => ?_) fun _ _ x => x)
  exact wpAny_bind (wpAny_pure (wpAny_pure (by simpa using h₂)))
end
section
variable {M : Model} {A : Around} {E : Value → Shared → Prop} {s : Shared} {env : Env}
theorem MethodCallK_ {o : Expr} {name : Str} {apos pos : Pos} {args : List Expr} {kws : List Keyword} {pl : Sem Bool} {Q : Value → Shared → Prop}
    (h : wpAny M A (eval o env) (fun ov s₁ => wpAny M A (getMethod ov name pl) (fun fx s₂ => wpAny M A (callWith pos fx.1 fx.2 (backTo pos (starEach args env)) (backToKw pos (keywordEach kws env))) Q E s₂) E s₁) E s)
    (he : eval (.Call (.Attribute o name apos) args kws pos) env = (do
      let ov ← eval o env
      standAt apos.atName
      let (f, first) ← holding [ov] (getMethod ov name pl)
      callWith pos f first (backTo pos (starEach args env)) (backToKw pos (keywordEach kws env))) := by rfl) :
    wpAny M A (eval (.Call (.Attribute o name apos) args kws pos) env) Q E s := by
  rw [he]
  refine wpAny_bind (wpAny_mono h (fun ov s₁ h₁ => wpAny_bind (wpAny_standAt (wpAny_bind (wpAny_holding (wpAny_mono h₁ (fun fx s₂ h₂ => ?_) fun _ _ x => x))))) fun _ _ x => x)
  exact h₂
theorem CallK_ {func : Expr} {args : List Expr} {kws : List Keyword} {pos : Pos} {Q : Value → Shared → Prop}
    (h : wpAny M A (eval func env) (fun f s₁ => wpAny M A (callWith pos f [] (backTo pos (starEach args env)) (backToKw pos (keywordEach kws env))) Q E s₁) E s)
    (he : eval (.Call func args kws pos) env = (do callWith pos (← eval func env) [] (backTo pos (starEach args env)) (backToKw pos (keywordEach kws env))) := by rfl) :
    wpAny M A (eval (.Call func args kws pos) env) Q E s := by
  rw [he]; exact wpAny_bind h
end
theorem lst_map {α : Type} (val : α → Value) (f : Nat → α) (n : Nat) : lst val f n = (lf f n).map val := by
  unfold lst lf
  rw [List.map_map]
  rfl
theorem lst_getD {α : Type} (val : α → Value) (f : Nat → α) {n i : Nat} (h : i < n) : (lst val f n).getD i Value.none = val (f i) := by
  simp [lst, h]
end Mine
namespace Mine
open PySem PySem.W PyProof.Rows
section
variable {prog : Program} {w : World} {A : Around} {E : Value → Shared → Prop} {s : Shared} {mg mb : Str → Option Value}
set_option maxHeartbeats 2000000 in
theorem ns_loop {H h : Heap} {L l q D I : Addr} {f : Nat → It} {mm : Str → Option Value} {us : List Value} {m n : Nat} {tn : Tok} {kf : Nat → List Int} {tk : Nat} {Q : Value → Shared → Prop}
    (C : Cx w mg mb H) (R : Rm A 30) (N : h.Ns L mm) (K : Keep H h) (fL : H.get? L = none)
    (e1 : mm (Str.ofString "n") = some (.int n tn)) (e2 : mm (Str.ofString "result") = some (.ref D)) (e3 : mm (Str.ofString "it") = some (.ref I)) (cq : h.IsCell (L + 1) (some (.ref q)))
    (hl : H.PlainList l us.toArray) (hi : IntsAre us (natInts m)) (hm : m < 64) (hn : n < m) (hkey : KeyC prog w H q kf 20 m)
    (hD : h.PlainList D (lst It.v f n).toArray) (hf : ∀ k, k < n → (f k).o = (((k : Nat)) : Int) ∧ (f k).e = k ∧ XIn [L, D, I] h (f k).v (kf k) [(f k).o, ((f k).e : Int)]) (hI : h.IsListIter I l n)
    (fD : H.get? D = none) (fI : H.get? I = none) (DL : D ≠ L) (IL : I ≠ L) (DI : D ≠ I)
    (zero : n = 0 → ∀ h' tk, Keep H h' → h'.PlainList D #[] → Q (.ref D) { s with heap := h', toks := tk })
    (next : ∀ h' tk' (g : Nat → It) mm' r D', h'.Ns L mm' → mm' (Str.ofString "result") = some (.ref D) → h'.PlainList D (lst It.v g n).toArray → (∀ x ∈ lf g n, XIn [L, D, I] h' x.v (kf x.e) [x.o, (x.e : Int)]) → Keep H h' → 0 < n →
      Sel (fun i j => lexLt (kf i) (kf j)) (fun x y => ltI kf y x) (fun x => x.o) n m r D' g →
      wpAny (model prog w) A (execs ((fb fd121).drop 11) (callEnvC fd121 L 121)) (fun f s' => Q (match f with | .ret v => v | _ => .none) s') (fun _ _ => False) { s with heap := h', toks := tk' }) :
    wpAny (model prog w) A (execs ((fb fd121).drop 5) (callEnvC fd121 L 121)) (fun f s' => Q (match f with | .ret v => v | _ => .none) s') (fun _ _ => False) { s with heap := h, toks := tk } := by
  have C1 := C.keeps K
  have cL : L + 1 ≠ L := Nat.succ_ne_self _
  refine wpAny_execs_cons ?_
  refine wpAny_If ?_
  refine PyProof.Rows.isTrue_not ?_
  refine isTrue_plain ?_
  refine nmL N e2 ?_
  refine wpAny_truthy_list hD.isList (by rw [List.size_toArray, lst_len]; omega) ?_
  by_cases h0 : n = 0
  · subst h0
    simp only [lst, List.range_zero, List.map_nil, List.isEmpty_toArray, List.isEmpty_nil, Bool.not_true, Bool.not_false, if_true]
    refine wpAny_execs_cons ?_
    refine wpAny_Return_some ?_
    refine nmL N e2 ?_
    exact zero rfl _ _ K (by simpa [lst] using hD)
  have hne : (!(lst It.v f n).toArray.isEmpty) = true := by
    have : (lst It.v f n).length ≠ 0 := by rw [lst_len]; exact h0
    simp only [List.isEmpty_toArray]
    cases hq : lst It.v f n with
    | nil => rw [hq] at this; exact absurd rfl this
    | cons a b => rfl
  rw [hne]
  simp only [Bool.not_true, Bool.false_eq_true, if_false]
  refine wpAny_execs_nil ?_
  dsimp only
  have hB : ∀ {h₀ : Heap}, Keep H h₀ → ∀ h', Heap.ExtBut D h₀ h' → Cx w mg mb h' := fun k h' x => C.keeps fun b o e => x b o (fun e' => by rw [e', fD] at e; cases e) (k b o e)
  have hXD : ∀ {h₀ h' : Heap} {v : Value} {ns is : List Int}, Heap.ExtBut D h₀ h' → XIn [L, D, I] h₀ v ns is → XIn [L, D, I] h' v ns is := fun x y => y.kp fun b o hb e => x b o (fun e' => hb (by rw [e']; simp)) e
  have kD : ∀ {h₀ h' : Heap}, Keep H h₀ → Heap.ExtBut D h₀ h' → Keep H h' := fun k x b o e => x b o (fun e' => by rw [e', fD] at e; cases e) (k b o e)
  have kI : ∀ {h₀ h' : Heap}, Keep H h₀ → Heap.ExtBut I h₀ h' → Keep H h' := fun k x b o e => x b o (fun e' => by rw [e', fI] at e; cases e) (k b o e)
  have kL : ∀ {h₀ h' : Heap}, Keep H h₀ → Heap.ExtBut L h₀ h' → Keep H h' := fun k x b o e => x b o (fun e' => by rw [e', fL] at e; cases e) (k b o e)
  have cD : L + 1 ≠ D := fun e => cell_ne_list hD cq e.symm
  have cI : L + 1 ≠ I := fun e => by
    obtain ⟨o, g, d⟩ := cq
    obtain ⟨o', g', _, d'⟩ := hI
    rw [← e, g] at g'; cases g'; rw [d] at d'; cases d'
  refine wpAny_execs_cons ?_
  refine wpAny_Expr ?_
  refine Call_ ?_
  refine nmG (v := .ref 87) C1 (by kernel_rfl) ?_
  refine callWith_def (o := { cls := .type "function", data := .func fd87 }) rfl ?_
  refine args_cons ?_
  refine nmL N e2 ?_
  refine args_nil ?_
  refine ⟨C1.k _ _ (fn87 w), ?_⟩
  refine heapifyM_spec (lt := ltI kf) (P := fun x => XIn [L, D, I] h x.v (kf x.e) [x.o, (x.e : Int)]) (hB K) (R.le (by decide)) hD (by omega) ?_ ?_ ?_
  · intro k hk
    obtain ⟨_, a2, a3⟩ := hf k hk
    rw [a2] at a3 ⊢
    exact a3
  · exact fun x y hx hy => cmpX (by simp) hx hy
  intro h2 tk2 x2 D2
  have OI := ltI_ord kf
  have S2 : Sel (fun i j => lexLt (kf i) (kf j)) (fun x y => ltI kf y x) (fun x => x.o) n n n [] (hfy (fun x y => ltI kf y x) n (n / 2) f) := Sel.init OI.flip fun i hi' => ⟨(hf i hi').2.1, by rw [(hf i hi').1]⟩
  have X2 : ∀ x ∈ lf (hfy (fun x y => ltI kf y x) n (n / 2) f) n, XIn [L, D, I] h2 x.v (kf x.e) [x.o, (x.e : Int)] := fun x hx => by
    obtain ⟨k, hk, rfl⟩ := mem_lf ((heapify_heap OI.flip n f).2.mem_iff.mp hx)
    obtain ⟨_, a2, a3⟩ := hf k hk
    rw [a2] at a3 ⊢
    exact hXD x2 a3
  generalize hfy (fun x y => ltI kf y x) n (n / 2) f = g2 at D2 S2 X2
  have N2 := N.extBut x2 DL.symm
  have K2 := kD K x2
  have I2 := hI.extBut x2 DI.symm
  have q2 : h2.IsCell (L + 1) (some (.ref q)) := cell_at cq fun o e => x2 _ o cD e
  dsimp only at N2 ⊢
  obtain ⟨a, y, t, u, ev, aS, ta, ty⟩ := (X2 _ (lf_mem g2 (Nat.pos_of_ne_zero h0))).three
  refine wpAny_execs_cons ?_
  refine wpAny_Assign_Name ?_
  refine Subscript_ ?_
  refine Subscript_ ?_
  refine nmL N2 e2 ?_
  refine wpAny_Constant_int ?_
  refine itemL 0 D2 (lst_get It.v g2 (Nat.pos_of_ne_zero h0)) (by decide) ?_
  rw [ev]
  refine wpAny_Constant_int ?_
  refine itemT 0 ta rfl (by decide) ?_
  refine stL N2 K2 fL ?_
  intro h3 tq3 N3 K3 s3
  dsimp only at N3 s3 ⊢
  have X3 : ∀ x ∈ lf g2 n, XIn [L, D, I] h3 x.v (kf x.e) [x.o, (x.e : Int)] := fun x hx => (X2 x hx).kp (Kp.refl.same (a := L) s3 (by simp))
  have ty3 := ty.kp (Kp.refl.same (a := L) s3 (by simp))
  have D3 := plain_same D2 s3 DL
  have I3 := I2.extBut s3.extBut IL
  have q3 := q2.sameBut s3 cL
  refine wpAny_execs_cons ?_
  refine wpAny_Assign_Name ?_
  refine nmL N3 e1 ?_
  refine stL N3 K3 fL ?_
  intro h4 tq4 N4 K4 s4
  dsimp only at N4 s4 ⊢
  have X4 : ∀ x ∈ lf g2 n, XIn [L, D, I] h4 x.v (kf x.e) [x.o, (x.e : Int)] := fun x hx => (X3 x hx).kp (Kp.refl.same (a := L) s4 (by simp))
  have ty4 := ty3.kp (Kp.refl.same (a := L) s4 (by simp))
  have D4 := plain_same D3 s4 DL
  have I4 := I3.extBut s4.extBut IL
  have q4 := q3.sameBut s4 cL
  refine wpAny_execs_cons ?_
  refine wpAny_Assign_Name ?_
  refine nmG (v := .ref 80) (C.keeps K4) (by kernel_rfl) ?_
  refine stL N4 K4 fL ?_
  intro h5 tq5 N5 K5 s5
  dsimp only at N5 s5 ⊢
  have X5 : ∀ x ∈ lf g2 n, XIn [L, D, I] h5 x.v (kf x.e) [x.o, (x.e : Int)] := fun x hx => (X4 x hx).kp (Kp.refl.same (a := L) s5 (by simp))
  have ty5 := ty4.kp (Kp.refl.same (a := L) s5 (by simp))
  have D5 := plain_same D4 s5 DL
  have I5 := I4.extBut s5.extBut IL
  have q5 := q4.sameBut s5 cL
  clear X2 X3 X4 ty ty3 ty4 D3 D4 I3 I4 q3 q4 s3 s4 s5
  refine wpAny_execs_cons ?_
  refine wpAny_For ?_
  refine nmL N5 e3 ?_
  refine wpAny_pyIter_listiter I5 ?_
  obtain ⟨oq, fdq, gq, dq⟩ := hkey.fn
  have hrk : ∀ {h₀ : Heap}, Keep H h₀ → l ≠ I ∧ h₀.IsList l us.toArray := fun k => ⟨(fun e => by obtain ⟨_, g⟩ := hl; rw [e, fI] at g; cases g), (plain_keep hl k).isList⟩
  obtain ⟨Inv, hInv⟩ : ∃ Inv : Nat → Shared → Prop, ∀ k s', Inv k s' ↔ (∃ (h : Heap) (tk : Nat) (mc : Str → Option Value) (g : Nat → It) (j : Nat) (r : Int) (D' : List Nat), s' = { s with heap := h, toks := tk } ∧ h.Ns L mc ∧ mc (Str.ofString "result") = some (.ref D) ∧ mc (Str.ofString "_heapreplace") = some (.ref 80) ∧
      (∃ t, mc (Str.ofString "order") = some (.int r t)) ∧ (∃ v, mc (Str.ofString "top") = some v ∧ TIn [L, D, I] h v (kf (g 0).e)) ∧ h.PlainList D (lst It.v g n).toArray ∧ (∀ x ∈ lf g n, XIn [L, D, I] h x.v (kf x.e) [x.o, (x.e : Int)]) ∧
      h.IsListIter I l j ∧ Keep H h ∧ h.IsCell (L + 1) (some (.ref q)) ∧ Sel (fun i j => lexLt (kf i) (kf j)) (fun x y => ltI kf y x) (fun x => x.o) n j r D' g ∧ j + k = m) := ⟨_, fun _ _ => Iff.rfl⟩
  refine codeAny_forLoop Inv ?_ (m - n)
    ((hInv _ _).2 ⟨h5, _, _, g2, n, n, [], rfl, N5, e2, rfl, ⟨_, rfl⟩, ⟨y, rfl, ty5⟩, D5, X5, I5, K5, q5, S2, by omega⟩)
  intro k s' hI0
  obtain ⟨h, tk, mc, g, j, r, D', rfl, Nc, er, ep, ⟨to, eo⟩, ⟨vt, et, tt⟩, hDc, hX, hIc, hK, hq, hS, hjk⟩ := (hInv _ _).1 hI0
  clear hI0
  cases k with
  | zero =>
    refine wpAny_pyNext_list_end R.hh hIc (hrk hK).2 ?_ ?_
    · rw [List.getElem?_toArray, List.getElem?_eq_none (by rw [hi.length]; simp; omega)]
    intro h6 e6
    dsimp only
    refine wpAny_execs_nil ?_
    dsimp only
    have hjm : j = m := by omega
    subst hjm
    refine next h6 _ g mc r D' (Nc.extBut e6 IL.symm) er (hDc.extBut e6 DI) (fun x hx => (hX x hx).kp (Kp.refl.ext e6 (by simp))) (kI hK e6) (Nat.pos_of_ne_zero h0) hS
  | succ k =>
    have hjm : j < m := by omega
    obtain ⟨tj, htj⟩ := IntsAre.get_ hi (natInts_get (m := m) (i := j) hjm)
    refine wpAny_pyNext_list_item hIc (hrk hK).2 (by rw [List.getElem?_toArray]; exact htj) ?_
    intro h6 I6 s6
    dsimp only at I6 s6 ⊢
    have K6 := kI hK s6.extBut
    have P6 : Kp [L, D, I] h h6 := Kp.refl.same s6 (by simp)
    refine wpAny_assign_Name ?_
    refine stL (Nc.sameBut s6 IL.symm) K6 fL ?_
    intro h7 tq7 N7 K7 s7
    dsimp only at N7 s7 ⊢
    refine hideR ?_
    intro RQ hRQ
    have P7 : Kp [L, D, I] h h7 := P6.same (a := L) s7 (by simp)
    have D7 := plain_same (plain_same hDc s6 DI) s7 DL
    have q7 := (hq.sameBut s6 cI).sameBut s7 cL
    have I7 : h7.IsListIter I l (j + 1) := I6.extBut s7.extBut IL
    refine wpAny_execs_cons ?_
    refine wpAny_Assign_Name ?_
    refine Call_ ?_
    refine nmC q7 ?_ rfl
    refine callWith_def (o := oq) dq ?_
    refine args_cons ?_
    refine nmL N7 rfl ?_
    refine args_nil ?_
    refine ⟨K7 _ _ gq, ?_⟩
    refine wpAny_mono (hkey.call A _ j tj (R.le (by decide)) K7 hjm) ?_ (fun _ _ x => x.elim)
    rintro v s'' ⟨ka, ko, h8, tk8, rfl, rfl, k8, f8, g8, ok8⟩
    dsimp only at k8 f8 ⊢
    have K8 : Keep H h8 := fun b o e => k8 _ _ (K7 _ _ e)
    refine stL (N7.keeps k8) K8 fL ?_
    intro h9 tq9 N9 K9 s9
    dsimp only at N9 s9 ⊢
    have P9 : Kp [L, D, I] h h9 := (P7.keep k8).same (a := L) s9 (by simp)
    have D9 := plain_same (plain_keep D7 k8) s9 DL
    have q9 := (cell_keep q7 k8).sameBut s9 cL
    have I9 : h9.IsListIter I l (j + 1) := (I7.at fun o e => k8 _ _ e).extBut s9.extBut IL
    have kaS : ka ∉ [L, D, I] := nin3 (fun e => by obtain ⟨o, g⟩ := ns_some N7; exact ne_fresh f8 g e) (fun e => by obtain ⟨o, g⟩ := list_some D7; exact ne_fresh f8 g e) (fun e => by obtain ⟨o, g, _⟩ := I7; exact ne_fresh f8 g e)
    have kaL : ka ≠ L := fun e => kaS (by rw [e]; simp)
    obtain ⟨cko, ku, kn, kd, ki⟩ := ok8
    have tk9 : TIn [L, D, I] h9 (.ref ka) (kf j) := ⟨ka, ku, rfl, kaS, ⟨ko, (s9.2 _ kaL).trans g8, cko, kn, kd⟩, ki⟩
    have top9 := tt.kp P9
    refine wpAny_execs_cons ?_
    refine wpAny_If ?_
    refine wpAny_isTrue_Compare1 ?_
    refine nmL N9 rfl ?_
    refine nmL N9 et ?_
    refine compareLt (LtAt.ti tk9.ti top9.ti R.units) ?_
    refine wpAny_truthy_bool ?_
    cases hb : lexLt (kf j) (kf (g 0).e) with
    | false =>
      simp only [Bool.false_eq_true, if_false]
      refine wpAny_execs_nil ?_
      refine wpAny_execs_nil ?_
      refine hRQ _ _ ?_
      refine ⟨k, by omega, (hInv _ _).2 ⟨h9, _, _, g, j + 1, r, j :: D', rfl, N9, er, ep, ⟨to, eo⟩, ⟨vt, et, top9⟩, D9, fun x hx => (hX x hx).kp P9, I9, K9, q9, ?_, by omega⟩⟩
      exact hS.skip (key_ord kf) OI.flip (worseS kf) (Nat.pos_of_ne_zero h0) hb
    | true =>
      simp only [if_true]
      refine wpAny_execs_cons ?_
      refine wpAny_Expr_any ?_
      refine Call_ ?_
      refine nmL N9 ep ?_
      refine callWith_def (o := { cls := .type "function", data := .func fd80 }) rfl ?_
      refine args_cons ?_
      refine nmL N9 er ?_
      refine args_cons ?_
      refine Tuple_ ?_
      refine args_cons ?_
      refine nmL N9 rfl ?_
      refine args_cons ?_
      refine nmL N9 eo ?_
      refine args_cons ?_
      refine nmL N9 rfl ?_
      refine args_nil ?_
      refine mkTup ?_
      intro h10 k10 g10 z10
      dsimp only at k10 g10 z10 ⊢
      have K10 : Keep H h10 := fun b o e => k10 _ _ (K9 _ _ e)
      have P10 : Kp [L, D, I] h h10 := P9.keep k10
      have TS : h9.objs.size ∉ [L, D, I] := nin3 (ne_size (ns_some N9)).symm (ne_size (list_some D9)).symm (by obtain ⟨o, g, _⟩ := I9; exact (ne_size ⟨_, g⟩).symm)
      refine args_nil ?_
      refine ⟨(C.keeps K10).k _ _ (fn80 w), ?_⟩
      have newX : XIn [L, D, I] h10 (.ref h9.objs.size) (kf j) [r, (j : Int)] := by
        obtain ⟨b, vs, eb, b1, b2, b3⟩ := tk9
        cases eb
        exact ⟨h9.objs.size, ka, [.int _ _, .int _ _], vs, rfl, TS, b1, tupOf g10, tup_keep b2 k10, b3, .cons _ _ (.cons _ _ .nil)⟩
      have oldX : ∀ x ∈ lf g n, XIn [L, D, I] h10 x.v (kf x.e) [x.o, (x.e : Int)] := fun x hx => (hX x hx).kp P10
      refine heapreplaceM_spec (val := It.v) (lt := ltI kf) (P := fun x => XIn [L, D, I] h10 x.v (kf x.e) [x.o, (x.e : Int)]) (f := g) (x := ⟨.ref h9.objs.size, r, j⟩) (hB K10) (R.le (by decide)) (plain_keep D9 k10) (Nat.pos_of_ne_zero h0) (by omega) ?_ newX ?_ ?_
      · exact fun i hi' => oldX _ (lf_mem g hi')
      · exact fun x y hx hy => cmpX (by simp) hx hy
      intro h11 tk11 x11 D11
      dsimp only
      have K11 := kD K10 x11
      have S11 := hS.take (key_ord kf) OI.flip (worseS kf) (Nat.pos_of_ne_zero h0) hb (x := ⟨.ref h9.objs.size, r, j⟩) rfl rfl
      have X11 : ∀ x ∈ lf (sup (fun x y => ltI kf y x) n 0 (upd g 0 ⟨.ref h9.objs.size, r, j⟩)) n, XIn [L, D, I] h11 x.v (kf x.e) [x.o, (x.e : Int)] := fun x hx => by
        obtain ⟨i, hi', rfl⟩ := mem_lf ((replace_heap OI.flip (x := ⟨.ref h9.objs.size, r, j⟩) (Nat.pos_of_ne_zero h0) hS.heap).2.mem_iff.mp hx)
        refine hXD x11 ?_
        unfold upd
        split
        · exact newX
        · exact oldX _ (lf_mem g hi')
      generalize sup (fun x y => ltI kf y x) n 0 (upd g 0 ⟨.ref h9.objs.size, r, j⟩) = g' at D11 S11 X11
      have N11 := (N9.keeps k10).extBut x11 DL.symm
      have I11 : h11.IsListIter I l (j + 1) := (I9.at fun o e => k10 _ _ e).extBut x11 DI.symm
      have q11 : h11.IsCell (L + 1) (some (.ref q)) := cell_at (cell_keep q9 k10) fun o e => x11 _ o cD e
      obtain ⟨a, y, t, u, ev, aS, ta, ty⟩ := (X11 _ (lf_mem g' (Nat.pos_of_ne_zero h0))).three
      refine wpAny_execs_cons ?_
      refine asg1 ?_
      refine Subscript_ ?_
      refine nmL N11 er ?_
      refine wpAny_Constant_int ?_
      refine itemL 0 D11 (lst_get It.v g' (Nat.pos_of_ne_zero h0)) (by decide) ?_
      rw [ev]
      refine unpack3 R.hh ta N11 ?_
      intro h12 tk12 N12 e12
      dsimp only at N12 e12 ⊢
      have K12 := kL K11 e12
      have P12 : Kp [L, D, I] h11 h12 := Kp.refl.ext (a := L) e12 (by simp)
      have D12 := D11.extBut e12 DL
      have I12 := I11.extBut e12 IL
      have q12 : h12.IsCell (L + 1) (some (.ref q)) := cell_at q11 fun o e => e12 _ o cL e
      refine wpAny_execs_cons ?_
      refine wpAny_AugAssign_Name ?_
      refine wpAny_loadName_local rfl rfl N12 eo ?_
      refine wpAny_Constant_int ?_
      refine iadd_int ?_
      refine stL N12 K12 fL ?_
      intro h13 tq13 N13 K13 s13
      dsimp only at N13 s13 ⊢
      have P13 : Kp [L, D, I] h11 h13 := P12.same (a := L) s13 (by simp)
      refine wpAny_execs_nil ?_
      dsimp only
      refine wpAny_execs_nil ?_
      refine hRQ _ _ ?_
      refine ⟨k, by omega, (hInv _ _).2 ⟨h13, _, _, g', j + 1, r + 1, (g 0).e :: D', rfl, N13, er, ep, ⟨_, rfl⟩, ⟨y, rfl, ty.kp P13⟩, plain_same D12 s13 DL, fun x hx => (X11 x hx).kp P13, I12.extBut s13.extBut IL, K13, q12.sameBut s13 cL, S11, by omega⟩⟩
end
end Mine
namespace Mine
open PySem PySem.W PyProof.Rows
section
variable {prog : Program} {w : World} {A : Around} {E : Value → Shared → Prop} {s : Shared} {mg mb : Str → Option Value}
set_option maxHeartbeats 2000000 in
theorem ns_end {H h : Heap} {L D I : Addr} {g : Nat → It} {mm : Str → Option Value} {m n : Nat} {kf : Nat → List Int} {tk : Nat} {r : Int} {D' : List Nat} {Q : Value → Shared → Prop}
    (C : Cx w mg mb H) (R : Rm A 30) (N : h.Ns L mm) (K : Keep H h) (e2 : mm (Str.ofString "result") = some (.ref D))
    (hD : h.PlainList D (lst It.v g n).toArray) (hX : ∀ x ∈ lf g n, XIn [L, D, I] h x.v (kf x.e) [x.o, (x.e : Int)]) (h2 : 2 ≤ n) (hm : m < 64) (hn : n < m) (fD : H.get? D = none) (DL : D ≠ L)
    (S : Sel (fun i j => lexLt (kf i) (kf j)) (fun x y => ltI kf y x) (fun x => x.o) n m r D' g)
    (hQ : ∀ h' tk b vs, Keep H h' → H.get? b = none → h'.PlainList b vs.toArray → IntsAre vs ((((srt (fun i j => lexLt (kf i) (kf j)) m false).take n).map fun (i : Nat) => (i : Int))) → Q (.ref b) { s with heap := h', toks := tk }) :
    wpAny (model prog w) A (execs ((fb fd121).drop 11) (callEnvC fd121 L 121)) (fun f s' => Q (match f with | .ret v => v | _ => .none) s') (fun _ _ => False) { s with heap := h, toks := tk } := by
  have OI := ltI_ord kf
  have OC : Ord (fun i j => ltI kf (g i) (g j)) := ⟨fun a b h => OI.asym _ _ h, fun a b c h1 h2 => OI.ntr _ _ _ h1 h2⟩
  refine wpAny_execs_cons ?_
  refine wpAny_Expr ?_
  refine MethodCall_ ?_
  refine nmL N e2 ?_
  refine methPlain hD PySem.F.slot_list_sort PySem.F.type_list_sort ?_
  refine callWith_method0 ?_
  refine lsort_spec (κ := tuples' false) (clt := fun i j => ltI kf (g i) (g j)) hD (by rw [lst_len]; omega) ?_ ?_ ?_
  · intro s' Qk hl2 hx hq
    refine kindXI (by rw [lst_len]; omega) (fun k hk => ?_) hq
    rw [lst_map] at hk
    obtain ⟨x, hx', rfl⟩ := List.mem_map.mp hk
    exact ⟨_, _, ((hX x hx').kp (fun b o hb e => hx b o (fun e' => hb (by rw [e']; simp)) e)).xi⟩
  · intro s' i j Cc hx hi' hj' hC
    rw [lst_len] at hi' hj'
    rw [lst_getD It.v g hi', lst_getD It.v g hj']
    have hk : Kp [L, D, I] h s'.heap := fun b o hb e => hx b o (fun e' => hb (by rw [e']; simp)) e
    exact ltXI ((hX _ (lf_mem g hi')).kp hk).xi ((hX _ (lf_mem g hj')).kp hk).xi (R.le (k := 2) (by decide)).in1.in1.units hC
  intro h3 tk3 x3 D3
  dsimp only at x3
  rw [lst_len, if_neg (by omega)] at D3
  have isP : (srt (fun i j => ltI kf (g i) (g j)) n false).Perm (List.range n) := srt_perm OC (by omega) _
  have isS := srt_false OC (n := n) (by omega)
  have hres := S.done (key_ord kf) (worseS kf) (R := srt (fun i j => lexLt (kf i) (kf j)) m false) (srt_perm (key_ord kf) (by omega) _) (srt_false (key_ord kf) (by omega)) isP (isS.imp fun hh => hh.1)
  generalize (srt (fun i j => ltI kf (g i) (g j)) n false) = is at D3 isP isS hres
  have ilen : is.length = n := by rw [isP.length_eq, List.length_range]
  have iin : ∀ {k p : Nat}, is[k]? = some p → p < n := fun hh => List.mem_range.mp (isP.mem_iff.mp (List.mem_of_getElem? hh))
  have K3 : Keep H h3 := fun b o e => x3 b o (fun e' => by rw [e', fD] at e; cases e) (K b o e)
  have N3 := N.extBut x3 DL.symm
  have X3 : ∀ x ∈ lf g n, XIn [L, D, I] h3 x.v (kf x.e) [x.o, (x.e : Int)] := fun x hx => (hX x hx).kp fun b o hb e => x3 b o (fun e' => hb (by rw [e']; simp)) e
  dsimp only
  refine wpAny_execs_cons ?_
  refine wpAny_Return_some ?_
  refine comp1 (cl := []) ?_ ?_ ?_ ?_ ?_
  · rfl
  · decide
  · rfl
  · decide
  refine nmL N3 e2 ?_
  refine wpAny_pyIter_list D3.isList ?_
  dsimp only
  generalize hH5 : h3.push { cls := Value.type "list_iterator", data := Data.fields #[Value.ref D, Value.int 0 0] } = h5
  have k5 : Keep h3 h5 := fun b o e => by rw [← hH5]; exact Heap.get?_push_of_some _ e
  have I5 : h5.IsListIter h3.objs.size D 0 := by rw [← hH5]; exact ⟨_, Heap.get?_push_size _ rfl, rfl, rfl⟩
  have fJ : h3.get? h3.objs.size = none := fresh_none
  generalize h3.objs.size = J at I5 fJ
  intro B CC h6 tk6 k6 B6 N6 fB fC BC
  dsimp only at k6 fB fC ⊢
  have kk6 : Keep h3 h6 := fun b o e => k6 _ _ (k5 _ _ e)
  have fB3 : h3.get? B = none := by
    cases e : h3.get? B with
    | none => rfl
    | some o => rw [k5 _ _ e] at fB; cases fB
  have fC3 : h3.get? CC = none := by
    cases e : h3.get? CC with
    | none => rfl
    | some o => rw [k5 _ _ e] at fC; cases fC
  have old : ∀ b o, h3.get? b = some o → b ∉ [CC, B, J] := fun b o e => nin3 (ne_fresh fC3 e).symm (ne_fresh fB3 e).symm (ne_fresh fJ e).symm
  have up : ∀ {h : Heap}, Kp [CC, B, J] h6 h → Keep h3 h := fun k b o e => k b o (old b o e) (kk6 _ _ e)
  have JC : J ≠ CC := by obtain ⟨o, e, _⟩ := I5; exact (ne_fresh fC e).symm
  have JB : J ≠ B := by obtain ⟨o, e, _⟩ := I5; exact (ne_fresh fB e).symm
  have JD : J ≠ D := by obtain ⟨o, e⟩ := list_some D3; exact ne_fresh fJ e
  obtain ⟨Inv, hInv⟩ : ∃ Inv : Nat → Shared → Prop, ∀ k s', Inv k s' ↔ (∃ (h : Heap) (tk : Nat) (mc : Str → Option Value) (i : Nat) (us : List Value), s' = { s with heap := h, toks := tk } ∧ h.Ns CC mc ∧ h.PlainList B us.toArray ∧
      IntsAre us ((is.take i).map fun p => ((g p).e : Int)) ∧ h.IsListIter J D i ∧ Kp [CC, B, J] h6 h ∧ i + k = n) := ⟨_, fun _ _ => Iff.rfl⟩
  refine ⟨Inv, n,
    (hInv _ _).2 ⟨h6, tk6, _, 0, [], rfl, N6, B6, .nil, I5.at fun o e => k6 _ _ e, Kp.refl, by omega⟩, ?_, ?_⟩
  · intro E' Q' hq
    exact wpAny_pyIter_listiter (I5.at fun o e => k6 _ _ e) hq
  intro k s' hI0
  obtain ⟨h, tk, mc, i, us, rfl, Nc, hB, hi, hJ, hK, hik⟩ := (hInv _ _).1 hI0
  clear hI0
  have kh := up hK
  have hD := plain_keep D3 kh
  cases k with
  | zero =>
    refine wpAny_pyNext_list_end R.hh hJ hD.isList ?_ ?_
    · rw [List.getElem?_toArray, List.getElem?_eq_none (by rw [List.length_map, ilen]; omega)]
    intro h7 e7
    dsimp only
    refine ⟨mc, Nc.extBut e7 JC.symm, ?_⟩
    intro h8 s8
    have K8 : Kp [CC, B, J] h6 h8 := (hK.ext e7 (by simp)).same s8 (by simp)
    refine hQ h8 _ B us (fun b o e => up K8 b o (K3 _ _ e)) ?_ (plain_same (hB.extBut e7 JB.symm) s8 BC) ?_
    · cases e : H.get? B with
      | none => rfl
      | some o => rw [K3 _ _ e] at fB3; cases fB3
    · rw [show i = n by omega, List.take_of_length_le (by omega)] at hi
      rw [← hres, List.map_map]
      exact hi
  | succ k =>
    have hin : i < n := by omega
    obtain ⟨p, hp⟩ : ∃ p, is[i]? = some p := ⟨_, List.getElem?_eq_getElem (by omega)⟩
    have hpn := iin hp
    obtain ⟨a, y, t, u, ev, aS, ta, ty⟩ := (X3 _ (lf_mem g hpn)).three
    refine wpAny_pyNext_list_item hJ hD.isList (x := .ref a) ?_ ?_
    · rw [List.getElem?_toArray, List.getElem?_map, hp, Option.map_some, lst_getD It.v g hpn, ev]
    intro h7 I7 s7
    dsimp only at I7 s7 ⊢
    refine wpAny_letOwnedTupleGo_listiter I7 ?_
    have K7 := hK.same s7 (by simp)
    refine unpack3 R.hh (tup_keep ta (up K7)) (Nc.sameBut s7 JC.symm) ?_
    intro h8 tk8 N8 e8
    dsimp only at N8 e8 ⊢
    have K8 := K7.ext (a := CC) e8 (by simp)
    refine nmL N8 rfl ?_
    have B8 : h8.PlainList B us.toArray := (plain_same hB s7 JB.symm).extBut e8 BC
    have ulen : us.length = i := by rw [hi.length, List.length_map, List.length_take, ilen]; omega
    refine appendPlain B8 (by omega) ?_
    intro h9 B9 s9
    dsimp only at B9 s9 ⊢
    have N9 := N8.sameBut s9 BC.symm
    refine ⟨k, by omega, (hInv _ _).2 ⟨h9, _, _, i + 1, _, rfl, N9, B9, ?_, (I7.extBut e8 JC).extBut s9.extBut JB, K8.same s9 (by simp), by omega⟩⟩
    have e : (is.take (i + 1)).map (fun p => ((g p).e : Int)) = (is.take i).map (fun p => ((g p).e : Int)) ++ [((g p).e : Int)] := by
      rw [List.take_succ, hp]
      simp
    rw [e]
    exact IntsAre.append hi (.cons _ _ .nil)
end
end Mine
namespace Mine
open PySem PySem.W PyProof.Rows
theorem df121 (w : World) : (HK w).lookup 116 = some { cls := .type "tuple", data := .seq #[Value.none] } := by kernel_rfl
theorem df127 (w : World) : (HK w).lookup 122 = some { cls := .type "tuple", data := .seq #[Value.none] } := by kernel_rfl
section
variable {w : World} {s : Shared} {mg mb : Str → Option Value}
theorem binds121 (C : Cx w mg mb s.heap) (a b c : Value) : BindsTo s fd121 ⟨[a, b], [(Str.ofString "key", c)]⟩ [(Str.ofString "n", a), (Str.ofString "iterable", b), (Str.ofString "key", c)] :=
  BindsTo.of_defaults (T := 116) rfl (C.k _ _ (df121 w)) rfl rfl (by kernel_rfl)
theorem binds127 (C : Cx w mg mb s.heap) (a b c : Value) : BindsTo s fd127 ⟨[a, b], [(Str.ofString "key", c)]⟩ [(Str.ofString "n", a), (Str.ofString "iterable", b), (Str.ofString "key", c)] :=
  BindsTo.of_defaults (T := 122) rfl (C.k _ _ (df127 w)) rfl rfl (by kernel_rfl)
end
theorem ints_idx {us : List Value} {m : Nat} (hi : IntsAre us (natInts m)) : ∀ {is : List Nat}, (∀ i ∈ is, i < m) → IntsAre (is.map fun i => us.getD i Value.none) (is.map fun (i : Nat) => (i : Int))
  | [], _ => .nil
  | i :: is, h => by
    obtain ⟨t, ht⟩ := IntsAre.get_ hi (natInts_get (m := m) (i := i) (h i (List.mem_cons_self ..)))
    have e : us.getD i Value.none = .int (i : Int) t := by rw [List.getD_eq_getElem?_getD, ht]; rfl
    rw [List.map_cons, List.map_cons, e]
    exact .cons _ _ (ints_idx hi fun j hj => h j (List.mem_cons_of_mem _ hj))
theorem first_best {bt : Nat → Nat → Bool} {m i : Nat} {S : List Nat} (hm : 0 < m) (hS : S.Perm (List.range m)) (pS : S.Pairwise (Bef bt)) (B : BestTo bt (m - 1) i) : S.take 1 = [i] := by
  match S, hS, pS with
  | [], hS, _ => have := hS.length_eq; simp at this; omega
  | x :: S', hS, pS =>
    have hi : i ∈ x :: S' := hS.mem_iff.mpr (List.mem_range.mpr (by have := B.1; omega))
    have hx : x < m := List.mem_range.mp (hS.mem_iff.mp (List.mem_cons_self ..))
    by_cases e : i = x
    · subst e; rfl
    · have hi' : i ∈ S' := by
        rcases List.mem_cons.mp hi with h | h
        · exact absurd h e
        · exact h
      rw [List.pairwise_cons] at pS
      have b1 := pS.1 i hi'
      have b2 := B.2 x (by omega)
      have b3 := b2.2 (b1.2 b2.1)
      rw [b1.1] at b3; cases b3
section
variable {prog : Program} {w : World} {A : Around} {E : Value → Shared → Prop} {s : Shared}
theorem sortG {l q : Addr} {us : List Value} {m : Nat} {b : Bool} {kw : List (Str × Value)} {κ : SortKind} {clt : Nat → Nat → Bool} {K : Nat → Obj → Prop} {Q : Value → Shared → Prop} (O : Ord clt) (R : Rm A 25)
    (hl : s.heap.PlainList l us.toArray) (hi : IntsAre us (natInts m)) (h2 : 2 ≤ m) (hm : m < 64)
    (hkey : ∀ (A' : Around) (s' : Shared) (i : Nat) (t : Tok), Rm A' 20 → Keep s.heap s'.heap → i < m → wpAny (model prog w) A' (call (.ref q) [.int (i : Int) t]) (KeyBack K i s') (fun _ _ => False) s')
    (hkind : ∀ s' (ks : List Value) (Qk : SortKind → Shared → Prop), ks.length = m → KeysAt K s'.heap ks → Qk κ s' → wpAny (model prog w) A.in1.in1 (keyKind' (List.toArray ks)) Qk (fun _ _ => False) s')
    (hcmp : ∀ s' i j ka kb ko kp (C : Bool → Shared → Prop), s'.heap.get? ka = some ko → K i ko → s'.heap.get? kb = some kp → K j kp → C (clt i j) s' → wpAny (model prog w) A.in1.in1 (keyLt' κ (.ref ka) (.ref kb)) C (fun _ _ => False) s')
    (ha1 : argsOk "sorted" ⟨[.ref l], kw⟩) (ha2 : ∀ x, argsOk "list.sort" ⟨[.ref x], kw⟩) (ht : ∀ x, Builtin.«list.sort» ⟨[.ref x], kw⟩ = ksk_tree x (.ref q) b)
    (hQ : ∀ h' tk D vs, Keep s.heap h' → s.heap.get? D = none → h'.PlainList D (List.toArray vs) → IntsAre vs ((srt clt m b).map fun (i : Nat) => (i : Int)) → Q (.ref D) { s with heap := h', toks := tk }) :
    wpAny (model prog w) A (call (.builtin "sorted") [.ref l] kw) Q E s := by
  have hlen : us.length = m := by rw [hi.length]; simp
  have R2 : Rm A.in1.in1 20 := (R.le (k := 22) (by decide)).in1.in1
  refine sorted_spec (κ := κ) (clt := clt) (KeyOk := K) (f := .ref q) (b := b) hl.isList (by omega) (by omega) ha1 ha2 ht ?_ ?_ hcmp ?_
  · intro i v h tk hv hk
    have hi' : i < m := by have := (List.getElem?_eq_some_iff.mp hv).1; omega
    obtain ⟨t, ht⟩ := IntsAre.get_ hi (natInts_get (m := m) (i := i) hi')
    rw [ht] at hv; cases hv
    exact hkey _ _ i t R2 hk hi'
  · intro s' ks Qk h1 h2 h3
    exact hkind s' ks Qk (by omega) h2 h3
  · intro D h' tk k f hD
    rw [hlen] at hD
    exact hQ h' tk D _ k f hD (ints_idx hi fun i hi' => List.mem_range.mp ((srt_perm O (by omega) b).mem_iff.mp hi'))
theorem sortTI {l q : Addr} {us : List Value} {m : Nat} {b : Bool} {kw : List (Str × Value)} {kf : Nat → List Int} {Q : Value → Shared → Prop} (R : Rm A 25)
    (hl : s.heap.PlainList l us.toArray) (hi : IntsAre us (natInts m)) (h2 : 2 ≤ m) (hm : m < 64) (hkey : KeyC prog w s.heap q kf 20 m) (hne : ∀ i, kf i ≠ [])
    (ha1 : argsOk "sorted" ⟨[.ref l], kw⟩) (ha2 : ∀ x, argsOk "list.sort" ⟨[.ref x], kw⟩) (ht : ∀ x, Builtin.«list.sort» ⟨[.ref x], kw⟩ = ksk_tree x (.ref q) b)
    (hQ : ∀ h' tk D vs, Keep s.heap h' → s.heap.get? D = none → h'.PlainList D (List.toArray vs) → IntsAre vs ((srt (fun i j => lexLt (kf i) (kf j)) m b).map fun (i : Nat) => (i : Int)) → Q (.ref D) { s with heap := h', toks := tk }) :
    wpAny (model prog w) A (call (.builtin "sorted") [.ref l] kw) Q E s := by
  refine sortG (κ := tuples' true) (clt := fun i j => lexLt (kf i) (kf j)) (K := fun i => TObj (kf i)) (key_ord kf) R hl hi h2 hm hkey.call ?_ ?_ ha1 ha2 ht hQ
  · intro s' ks Qk h1 hk h3
    refine kindTI (by omega) (fun k hm' => ?_) h3
    obtain ⟨i, hi'⟩ := List.getElem?_of_mem hm'
    obtain ⟨ka, ko, e, g, ok⟩ := hk i k hi'
    exact ⟨ka, ko, _, e, g, ok, hne i⟩
  · intro s' i j ka kb ko kp C g1 k1 g2 k2 hC
    exact ltTI g1 k1 g2 k2 hC
end
end Mine
namespace Mine
open PySem PySem.W PyProof.Rows
section
variable {prog : Program} {w : World} {A : Around} {E : Value → Shared → Prop} {s : Shared} {mg mb : Str → Option Value}
set_option maxHeartbeats 2000000 in
theorem ns_spec {l q : Addr} {us : List Value} {m n : Nat} {tn : Tok} {kf : Nat → List Int} {Q : Value → Shared → Prop}
    (C : Cx w mg mb s.heap) (R : Rm A 31) (hl : s.heap.PlainList l us.toArray) (hi : IntsAre us (natInts m)) (h2 : 2 ≤ m) (hm : m < 64) (hnm : n < 2 ^ 20) (hkey : KeyC prog w s.heap q kf 20 m) (hne : ∀ i, kf i ≠ [])
    (hQ : ∀ h' tk b vs, Keep s.heap h' → s.heap.get? b = none → h'.PlainList b vs.toArray → IntsAre vs ((((srt (fun i j => lexLt (kf i) (kf j)) m false).take n).map fun (i : Nat) => (i : Int))) → Q (.ref b) { s with heap := h', toks := tk }) :
    wpAny (model prog w) A (call (.ref 121) [.int (n : Int) tn, .ref l] [(Str.ofString "key", .ref q)]) Q E s := by
  have hlen : us.length = m := by rw [hi.length]; simp
  refine enterC [(Str.ofString "n", .int (n : Int) tn), (Str.ofString "iterable", .ref l), (Str.ofString "key", .ref q)] C R (fn121 w) (by kernel_rfl) rfl (binds121 C _ _ _) rfl ?_ ?_
  · intro x hx
    simp only [List.mem_cons, List.not_mem_nil, or_false] at hx
    rcases hx with rfl | rfl | rfl
    · exact .inl rfl
    · exact .inl rfl
    · exact .inr ⟨rfl, rfl⟩
  intro h1 tk1 N1 k1 C1 R1 hcell
  have c1 : h1.IsCell (s.heap.objs.size + 1) (some (.ref q)) := hcell (Str.ofString "key") _ rfl
  have fL : s.heap.get? s.heap.objs.size = none := fresh_none
  have fc : s.heap.get? (s.heap.objs.size + 1) = none := Heap.get?_none_of_le (Nat.le_succ _)
  have hl1 := plain_keep hl k1
  refine wpAny_execs_cons ?_
  refine wpAny_If ?_
  refine wpAny_isTrue_Compare1 ?_
  refine nmL N1 rfl ?_
  refine wpAny_Constant_int ?_
  refine eq_int ?_
  refine wpAny_truthy_bool ?_
  by_cases hn1 : n = 1
  · subst hn1
    rw [show (((1 : Nat) : Int) == 1) = true from rfl, if_pos rfl]
    refine wpAny_execs_cons ?_
    refine wpAny_Assign_Name ?_
    refine Call_ ?_
    refine nmB C1 (by kernel_rfl) boot_iter (by decide) ?_
    refine cwb1 ?_
    refine args_cons ?_
    refine nmL N1 rfl ?_
    refine args_nil ?_
    refine iterL hl1 ?_
    intro h3 I k3 fI I3
    dsimp only at k3 fI I3 ⊢
    have K3 : Keep s.heap h3 := fun b o e => k3 _ _ (k1 b o e)
    have fI0 : s.heap.get? I = none := by
      cases e : s.heap.get? I with
      | none => rfl
      | some o => rw [k1 _ _ e] at fI; cases fI
    have IL : I ≠ s.heap.objs.size := fun e => by obtain ⟨o, g⟩ := ns_some N1; exact ne_fresh fI g e
    have Il : l ≠ I := fun e => by obtain ⟨_, g⟩ := hl; exact ne_fresh fI0 g e.symm
    have cL : s.heap.objs.size + 1 ≠ s.heap.objs.size := Nat.succ_ne_self _
    refine stL (N1.keeps k3) K3 fL ?_
    intro h4 tq4 N4 K4 s4
    dsimp only at N4 s4 ⊢
    have C4 := C.keeps K4
    have I4 : h4.IsListIter I l 0 := I3.extBut s4.extBut IL
    have c4 : h4.IsCell (s.heap.objs.size + 1) (some (.ref q)) := (cell_keep c1 k3).sameBut s4 cL
    refine wpAny_execs_cons ?_
    refine wpAny_Assign_Name ?_
    refine Call_ ?_
    refine nmB C4 (by kernel_rfl) boot_object (by decide) ?_
    refine PyProof.Rows.callWith_type0 ?_
    refine call_object ?_
    intro h5 k5 g5
    dsimp only at k5 ⊢
    have K5 : Keep s.heap h5 := fun b o e => k5 _ _ (K4 b o e)
    refine stL (N4.keeps k5) K5 fL ?_
    intro h6 tq6 N6 K6 s6
    dsimp only at N6 s6 ⊢
    have C6 := C.keeps K6
    have I6 : h6.IsListIter I l 0 := (I4.at fun o e => k5 _ _ e).extBut s6.extBut IL
    have c6 : h6.IsCell (s.heap.objs.size + 1) (some (.ref q)) := (cell_keep c4 k5).sameBut s6 cL
    refine wpAny_execs_cons ?_
    refine wpAny_Assign_Name ?_
    refine CallK_ ?_
    refine nmB C6 (by kernel_rfl) boot_min (by decide) ?_
    refine callWith_kw ?_
    refine args_cons ?_
    refine nmL N6 rfl ?_
    refine args_nil ?_
    refine kws_cons ?_
    refine nmL N6 rfl ?_
    refine kws_cons ?_
    refine nmC c6 ?_ rfl
    refine kws_nil ?_
    refine min_spec (l := l) (vs := us) (bt := fun i j => lexLt (kf i) (kf j)) (K := fun i => TObj (kf i)) (key_ord kf) R1.hh (plain_keep hl K6).isList Il I6 (by omega) ?_ ?_ ?_
    · intro i v h tk hv hk
      have hi' : i < m := by have := (List.getElem?_eq_some_iff.mp hv).1; omega
      obtain ⟨t, ht⟩ := IntsAre.get_ hi (natInts_get (m := m) (i := i) hi')
      rw [ht] at hv; cases hv
      exact hkey.call _ _ i t (R1.le (k := 21) (by decide)).in1 (fun b o e => hk b o (by simp; exact fun e' => by rw [e', fI0] at e; cases e) (K6 _ _ e)) hi'
    · intro s' i j ka kb ko kp Cc g1 o1 g2 o2 hC
      exact LtAt.ti (o1.ti g1) (o2.ti g2) (R1.le (k := 1) (by decide)).in1.units prog w _ _ hC
    intro i v h7 tk7 hv best k7
    dsimp only
    have hi' : i < m := by have := (List.getElem?_eq_some_iff.mp hv).1; omega
    obtain ⟨t, ht⟩ := IntsAre.get_ hi (natInts_get (m := m) (i := i) hi')
    rw [ht] at hv; cases hv
    have K7 : Keep s.heap h7 := fun b o e => k7 b o (by simp; exact fun e' => by rw [e', fI0] at e; cases e) (K6 _ _ e)
    have N7 : h7.Ns s.heap.objs.size _ := N6.at' fun o e => k7 (s.heap.objs.size) o (by simpa using IL.symm) e
    refine stL N7 K7 fL ?_
    intro h8 tq8 N8 K8 s8
    dsimp only at N8 s8 ⊢
    refine wpAny_execs_cons ?_
    refine wpAny_Return_some ?_
    refine IfExp_ ?_
    refine wpAny_isTrue_Compare1 ?_
    refine nmL N8 rfl ?_
    refine nmL N8 rfl ?_
    refine wpAny_is_other rfl (by intro e; cases e) ?_
    refine wpAny_truthy_bool ?_
    rw [if_neg Bool.false_ne_true]
    refine List_ ?_
    refine args_cons ?_
    refine nmL N8 rfl ?_
    refine args_nil ?_
    refine mkList ?_
    intro h9 k9 n9 z9
    dsimp only at k9 n9 z9 ⊢
    refine hQ h9 _ _ _ (fun b o e => k9 _ _ (K8 _ _ e)) (fresh_of K8) n9 ?_
    rw [hlen] at best
    rw [first_best (bt := fun i j => lexLt (kf i) (kf j)) (i := i) (by omega) (srt_perm (key_ord kf) (by omega) _) (srt_false (key_ord kf) (by omega)) best]
    exact .cons _ _ .nil
  have hb1 : ((n : Int) == 1) = false := beq_eq_false_iff_ne.mpr (by omega)
  rw [hb1]
  simp only [Bool.false_eq_true, if_false]
  refine wpAny_execs_nil ?_
  dsimp only
  refine wpAny_execs_cons ?_
  refine wpAny_Try_except ?_
  refine wpAny_execs_cons ?_
  refine wpAny_Assign_Name ?_
  refine Call_ ?_
  refine nmB C1 (by kernel_rfl) boot_len (by decide) ?_
  refine cwb1 ?_
  refine args_cons ?_
  refine nmL N1 rfl ?_
  refine args_nil ?_
  refine Calls.call_len_list hl1.isList (by rw [List.size_toArray]; omega) ?_
  refine stL N1 k1 fL ?_
  intro h3 tq3 N3 K3 s3
  dsimp only at N3 s3 ⊢
  have C3 := C.keeps K3
  have c3 : h3.IsCell (s.heap.objs.size + 1) (some (.ref q)) := c1.sameBut s3 (Nat.succ_ne_self _)
  refine wpAny_execs_nil ?_
  dsimp only
  refine wpAny_execs_cons ?_
  refine wpAny_If ?_
  refine wpAny_isTrue_Compare1 ?_
  refine nmL N3 rfl ?_
  refine nmL N3 rfl ?_
  refine PyProof.Rows.ge_int ?_
  refine wpAny_truthy_bool ?_
  rw [List.size_toArray, hlen]
  by_cases hnm' : m ≤ n
  · rw [decide_eq_true (by omega), if_pos rfl]
    refine wpAny_execs_cons ?_
    refine wpAny_Return_some ?_
    refine Subscript_ ?_
    refine CallK_ ?_
    refine nmB C3 (by kernel_rfl) boot_sorted (by decide) ?_
    refine callWith_kw ?_
    refine args_cons ?_
    refine nmL N3 rfl ?_
    refine args_nil ?_
    refine kws_cons ?_
    refine nmC c3 ?_ rfl

    refine kws_nil ?_
    refine sortTI (b := false) (kf := kf) (R1.le (by decide)) (plain_keep hl K3) hi h2 hm (hkey.keep K3) hne ?_ ?_ ?_ ?_
    · exact ksk_s1 _ _
    · exact fun _ => ksk_l1 _ _
    · exact fun _ => ksk_t1 _ _
    intro h4 tk4 D vs k4 fD D4 i4
    dsimp only at k4 fD ⊢
    refine wpAny_Slice ?_
    refine partN ?_
    refine partS ?_
    refine nmL (N3.keeps k4) rfl ?_
    refine partN ?_
    dsimp only
    have vlen : vs.length = m := by rw [i4.length, List.length_map, (srt_perm (key_ord kf) (by omega) _).length_eq, List.length_range]
    refine sliceI (s := ⟨_, _, _, _, _⟩) (lo := none) (hi := some _) (st := none) D4.isList .none (.int ..) .none (by decide) ?_ (by with_unfolding_all rfl) ?_
    · rw [List.size_toArray]; omega
    intro h5 k5 n5 z5
    dsimp only at k5 n5 z5 ⊢
    refine hQ h5 _ _ (slicePick vs.toArray none (some (n : Int)) none).toList (fun b o e => k5 _ _ (k4 _ _ (K3 _ _ e))) ?_ (by simpa using n5) ?_
    · cases e : s.heap.get? (h4.objs.size + 1) with
      | none => rfl
      | some o => exact absurd (Heap.lt_size (k4 _ _ (K3 _ _ e))) (Nat.not_lt.mpr (Nat.le_succ _))
    · have := slice_ints_uptoW i4 (y := (n : Int)) (by omega)
      rw [Int.toNat_natCast, ← List.map_take] at this
      exact this
  rw [decide_eq_false (by omega)]
  simp only [Bool.false_eq_true, if_false]
  refine wpAny_execs_nil ?_
  refine wpAny_execs_nil ?_
  dsimp only
  refine wpAny_execs_cons ?_
  refine wpAny_If ?_
  refine wpAny_isTrue_Compare1 ?_
  refine nmC c3 ?_ rfl
  refine wpAny_Constant_none ?_
  refine is_none_ne (by intro e; cases e) ?_
  refine wpAny_truthy_bool ?_
  rw [if_neg Bool.false_ne_true]
  refine wpAny_execs_nil ?_
  dsimp only
  refine ns_fill (H := s.heap) (L := s.heap.objs.size) C (R1.le (by decide)) N3 K3 fL rfl rfl c3 fc hl hi hm (by omega) hkey ?_
  intro h4 tk4 D I f mm4 N4 en er ei D4 hf I4 c4 K4 fD fI DL IL DI
  refine ns_loop (Q := Q) C (R1.le (by decide)) N4 K4 fL en er ei c4 hl hi hm (by omega) hkey D4 hf I4 fD fI DL IL DI ?_ ?_
  · intro h0 h' tk K' D'
    subst h0
    exact hQ h' tk D [] K' fD D' (by rw [List.take_zero]; exact .nil)
  intro h5 tk5 g mm5 r D' N5 er5 D5 X5 K5 hpos S5
  exact ns_end C (R1.le (by decide)) N5 K5 er5 D5 X5 (by omega) hm (by omega) fD DL S5 hQ
end
end Mine
namespace Mine
open PySem PySem.W PyProof.Rows
section
variable {prog : Program} {w : World} {A : Around} {E : Value → Shared → Prop} {s : Shared} {mg mb : Str → Option Value}
set_option maxHeartbeats 2000000 in
theorem nl_fill {H h : Heap} {L l q : Addr} {mm : Str → Option Value} {us : List Value} {m n : Nat} {tn : Tok} {kf : Nat → List Int} {tk : Nat} {Q : Flow → Shared → Prop}
    (C : Cx w mg mb H) (R : Rm A 30) (N : h.Ns L mm) (K : Keep H h) (fL : H.get? L = none)
    (e1 : mm (Str.ofString "n") = some (.int n tn)) (e2 : mm (Str.ofString "iterable") = some (.ref l)) (cq : h.IsCell (L + 1) (some (.ref q))) (fc : H.get? (L + 1) = none)
    (hl : H.PlainList l us.toArray) (hi : IntsAre us (natInts m)) (hm : m < 64) (hn : n < m) (hkey : KeyC prog w H q kf 20 m)
    (next : ∀ h' tk' D I f mm', h'.Ns L mm' → mm' (Str.ofString "n") = some (.int n tn) → mm' (Str.ofString "result") = some (.ref D) → mm' (Str.ofString "it") = some (.ref I) →
      h'.PlainList D (lst It.v f n).toArray → (∀ k, k < n → (f k).o = (-((k : Nat) : Int)) ∧ (f k).e = k ∧ XIn [L, D, I] h' (f k).v (kf k) [(f k).o, ((f k).e : Int)]) → h'.IsListIter I l n → h'.IsCell (L + 1) (some (.ref q)) → Keep H h' →
      H.get? D = none → H.get? I = none → D ≠ L → I ≠ L → D ≠ I →
      wpAny (model prog w) A (execs ((fb fd127).drop 5) (callEnvC fd127 L 127)) Q (fun _ _ => False) { s with heap := h', toks := tk' }) :
    wpAny (model prog w) A (execs ((fb fd127).drop 3) (callEnvC fd127 L 127)) Q (fun _ _ => False) { s with heap := h, toks := tk } := by
  have hll : l ≠ L := fun e => by obtain ⟨_, g⟩ := hl; rw [e, fL] at g; cases g
  have C1 := C.keeps K
  refine wpAny_execs_cons ?_
  refine wpAny_Assign_Name ?_
  refine Call_ ?_
  refine nmB C1 (by kernel_rfl) boot_iter (by decide) ?_
  refine cwb1 ?_
  refine args_cons ?_
  refine nmL N e2 ?_
  refine args_nil ?_
  refine iterL (plain_keep hl K) ?_
  intro h2 I k2 fI I2
  dsimp only at k2 fI I2 ⊢
  have K2 : Keep H h2 := fun b o e => k2 _ _ (K b o e)
  have fI0 : H.get? I = none := by
    cases e : H.get? I with
    | none => rfl
    | some o => rw [K _ _ e] at fI; cases fI
  have IL : I ≠ L := fun e => by obtain ⟨o, g⟩ := ns_some N; rw [← e, fI] at g; cases g
  have Il : l ≠ I := fun e => by obtain ⟨_, g⟩ := hl; rw [e, fI0] at g; cases g
  have cI : I ≠ L + 1 := fun e => by obtain ⟨o, g, _⟩ := cq; rw [← e, fI] at g; cases g
  refine stL (N.keeps k2) K2 fL ?_
  intro h3 tq3 N3 K3 s3
  dsimp only at N3 s3 ⊢
  have C3 := C.keeps K3
  have I3 : h3.IsListIter I l 0 := I2.extBut s3.extBut IL
  have cL : L + 1 ≠ L := Nat.succ_ne_self _
  have c3 : h3.IsCell (L + 1) (some (.ref q)) := (cell_keep cq k2).sameBut s3 cL
  refine wpAny_execs_cons ?_
  refine compUse (cl := [(Str.ofString "key", L + 1)]) ?_ ?_ ?_ ?_ ?_ ?_ ?_ ?_
  · with_unfolding_all rfl
  · rfl
  · decide
  · rfl
  · decide
  · rfl
  · rfl
  refine Call_ ?_
  refine nmB C3 (by kernel_rfl) boot_zip (by decide) ?_
  refine cwt2 ?_
  refine args_cons ?_
  refine Call_ ?_
  refine nmB C3 (by kernel_rfl) boot_range (by decide) ?_
  refine cwt3 ?_
  refine args_cons ?_
  refine wpAny_Constant_int ?_
  refine args_cons ?_
  refine UnaryOp_ ?_
  refine nmL N3 e1 ?_
  refine neg_int ?_
  refine args_cons ?_
  refine UnaryOp_ ?_
  refine wpAny_Constant_int ?_
  refine neg_int ?_
  refine args_nil ?_
  dsimp only
  refine mkRange3 (by decide) (PyProof.noPylong_small (by decide)) ?_
  intro h4 r tk4 k4 f4 r4
  dsimp only at k4 f4 r4 ⊢
  refine args_cons ?_
  refine nmL (N3.keeps k4) rfl ?_
  refine args_nil ?_
  try dsimp only
  refine call_zipR (smallNeg (by omega)) r4 (I3.at fun o e => k4 _ _ e) (plain_keep hl (fun b o e => k4 _ _ (K3 b o e))).isList ?_ Il.symm
  intro h5 z TI TO i1 Z5 ap k5 fz fTI fTO fi1
  have esz : Builtin.Range.rangeSize 0 (-n) (-1) = (n : Int) := by exact sizeNeg n
  rw [esz] at Z5
  dsimp only at k5 fz fTI fTO fi1 ⊢
  refine wpAny_pyIter_zip Z5.z ?_
  intro D CC h6 tk6 k6 D6 N6 fD fC DC
  dsimp only at k6 fD fC ⊢
  have kk5 : Keep h3 h5 := fun b o e => k5 _ _ (k4 _ _ e)
  have kk6 : Keep h3 h6 := fun b o e => k6 _ _ (kk5 _ _ e)
  have K6 : Keep H h6 := fun b o e => kk6 _ _ (K3 _ _ e)
  have fr : ∀ x, h5.get? x = none → h3.get? x = none := fun x e => by
    cases e' : h3.get? x with
    | none => rfl
    | some o => rw [kk5 _ _ e'] at e; cases e
  have fr4 : ∀ x, h4.get? x = none → h3.get? x = none := fun x e => by
    cases e' : h3.get? x with
    | none => rfl
    | some o => rw [k4 _ _ e'] at e; cases e
  have frH : ∀ x, h3.get? x = none → H.get? x = none := fun x e => by
    cases e' : H.get? x with
    | none => rfl
    | some o => rw [K3 _ _ e'] at e; cases e
  -- what lies apart
  have old3 : ∀ b o, h3.get? b = some o → b ≠ I → b ∉ [CC, D, z, TO, i1, I] := fun b o e hb => by
    simp only [List.mem_cons, List.not_mem_nil, or_false, not_or]
    exact ⟨(ne_fresh (fr _ fC) e).symm, (ne_fresh (fr _ fD) e).symm, (ne_fresh (fr4 _ fz) e).symm, (ne_fresh (fr4 _ fTO) e).symm, (ne_fresh (fr4 _ fi1) e).symm, hb⟩
  obtain ⟨oI, gI, _⟩ := id I3
  obtain ⟨oL, gL⟩ := ns_some N3
  have zs : ∀ {x o}, h5.get? x = some o → x ≠ CC ∧ x ≠ D := fun {x o} e => ⟨(ne_fresh fC e).symm, (ne_fresh fD e).symm⟩
  have z1 := zs Z5.z
  have z2 := zs Z5.TI
  have z3 : TO ≠ CC ∧ TO ≠ D := let ⟨_, _, e⟩ := Z5.TO; zs e
  have z4 := zs Z5.i1
  have z5 : I ≠ CC ∧ I ≠ D := let ⟨_, e, _⟩ := Z5.i2; zs e
  have z6 : l ≠ CC ∧ l ≠ D := let ⟨_, e, _⟩ := Z5.l2; zs e
  have ne2 : ∀ {x}, x ≠ CC ∧ x ≠ D → x ∉ [CC, D] := fun {x} h => by simp [h.1, h.2]
  have zkp : ∀ {h h' : Heap} {x left : Int} {k : Nat} {f0 : Value}, ZAt z TI TO i1 I l x left (-1) k us.toArray f0 h → Kp [CC, D] h h' → ZAt z TI TO i1 I l x left (-1) k us.toArray f0 h' :=
    fun Z k => Z.kp k (ne2 z1) (ne2 z2) (ne2 z3) (ne2 z4) (ne2 z5) (ne2 z6)
  have LCD : L ≠ CC ∧ L ≠ D := ⟨(ne_fresh (fr _ fC) gL).symm, (ne_fresh (fr _ fD) gL).symm⟩
  have LS : L ∉ [CC, D, z, TO, i1, I] := old3 _ _ gL IL.symm
  have cS : L + 1 ∉ [CC, D, z, TO, i1, I] := by obtain ⟨o, g, _⟩ := id c3; exact old3 _ _ g cI.symm
  have KH : ∀ {h : Heap}, Kp [CC, D, z, TO, i1, I] h6 h → Keep H h := fun {h} k b o e => k b o (old3 b o (K3 _ _ e) (fun e' => by rw [e', fI0] at e; cases e)) (K6 _ _ e)
  obtain ⟨Inv, hInv⟩ : ∃ Inv : Nat → Shared → Prop, ∀ k s', Inv k s' ↔ (∃ (h : Heap) (tk : Nat) (mc : Str → Option Value) (f : Nat → It) (i : Nat), s' = { s with heap := h, toks := tk } ∧ h.Ns CC mc ∧ h.PlainList D (lst It.v f i).toArray ∧
      ZAt z TI TO i1 I l (-((i : Nat) : Int)) ((n : Int) - (i : Int)) (-1) i us.toArray .none h ∧ Kp [CC, D, z, TO, i1, I] h6 h ∧
      (∀ k, k < i → (f k).o = (-((k : Nat) : Int)) ∧ (f k).e = k ∧ XIn [L, CC, D, z, TO, i1, I] h (f k).v (kf k) [(f k).o, ((f k).e : Int)]) ∧ i + k = n) := ⟨_, fun _ _ => Iff.rfl⟩
  refine ⟨Inv, n,
    (hInv _ _).2 ⟨h6, tk6, _, fun _ => ⟨.none, 0, 0⟩, 0, rfl, N6, by simpa [lst] using D6, by simpa using zkp Z5 fun b o _ e => k6 _ _ e, Kp.refl, fun k hk => absurd hk (Nat.not_lt_zero _), by omega⟩, ?_, ?_⟩
  · intro E' Q' hq
    exact wpAny_pyIter_zip (k6 _ _ Z5.z) hq
  intro k s' hI0
  obtain ⟨h, tk, mc, f, i, rfl, Nc, hD, hZ, hK, hf, hik⟩ := (hInv _ _).1 hI0
  clear hI0
  cases k with
  | zero =>
    refine zipR_end R.hh ap hZ (by omega) ?_
    intro h7 k7
    dsimp only
    have K7 : Kp [CC, D, z, TO, i1, I] h h7 := fun b o hb e => by
      simp only [List.mem_cons, List.not_mem_nil, or_false, not_or] at hb
      exact k7 b o hb.2.2.1 hb.2.2.2.1 hb.2.2.2.2.1 e
    have N7 : h7.Ns L _ := ((N3.keeps kk6).at' fun o e => hK _ o LS e).at' fun o e => K7 _ o LS e
    refine ⟨mc, _, Nc.at' fun o e => k7 _ o z1.1.symm z3.1.symm z4.1.symm e, N7, LCD.1.symm, ?_⟩
    intro h8 tk8 N8 k8
    have hin : i = n := by omega
    subst hin
    have D7 : h7.PlainList D _ := hD.at fun o e => k7 _ o z1.2.symm z3.2.symm z4.2.symm e
    have nI : ∀ x, x ≠ L → x ≠ CC → x ∉ [L, CC] := fun x a b => by simp [a, b]
    have I8 : h8.IsListIter I l i := (hZ.i2.at fun o e => k7 _ o ap.i2z ap.TOi2.symm ap.i12.symm e).at fun o e => k8 _ o (nI _ IL z5.1) e
    refine next h8 tk8 D I f _ N8 e1 rfl rfl (k8.list D7 (nI _ LCD.2.symm DC)) (fun k hk => ?_) I8 ?_ ?_ (frH _ (fr _ fD)) fI0 LCD.2.symm IL z5.2.symm
    · obtain ⟨a1, a2, a3⟩ := hf k hk
      refine ⟨a1, a2, ((a3.kp (h' := h7) ?_).kp (h' := h8) ?_).sub ?_⟩
      · intro b o hb e
        refine K7 b o (fun hm => hb (List.mem_cons_of_mem _ hm)) e
      · intro b o hb e
        refine k8 b o ?_ e
        intro hm
        simp only [List.mem_cons, List.not_mem_nil, or_false] at hm
        rcases hm with rfl | rfl <;> exact hb (by simp)
      · intro a ha
        simp only [List.mem_cons, List.not_mem_nil, or_false] at ha ⊢
        rcases ha with rfl | rfl | rfl <;> simp
    · refine cell_at (h := h7) ?_ fun o e => k8 _ o (nI _ cL (fun e' => cS (by rw [e']; simp))) e
      refine cell_at (h := h) ?_ fun o e => K7 _ o cS e
      exact cell_at (cell_keep c3 kk6) fun o e => hK _ o cS e
    · intro b o e
      have eb := KH hK b o e
      have e3 := K3 _ _ e
      have bI : b ≠ I := fun e' => by rw [e', fI0] at e; cases e
      have nS := old3 b o e3 bI
      refine k8 b o (nI _ (fun e' => by rw [e', fL] at e; cases e) (fun e' => nS (by rw [e']; simp))) (K7 b o nS eb)
  | succ k =>
    have hin : i < n := by omega
    obtain ⟨ty, hty⟩ := IntsAre.get_ hi (natInts_get (m := m) (i := i) (by omega))
    refine zipR_item ap hZ (by omega) (by rw [List.getElem?_toArray]; exact hty) ?_
    intro h7 Z7 P7 n7 k7
    dsimp only at P7 n7 k7 ⊢
    refine wpAny_letOwnedTupleGo_zip Z7.z ?_
    intro h8 g8 s8
    dsimp only at s8 ⊢
    have Z8 := Z7.back ap g8 s8
    have fT : h.get? h.objs.size = none := fresh_none
    have Tz : h.objs.size ≠ z := fun e => by rw [e, hZ.z] at fT; cases fT
    have P8 : IsPair h8 h.objs.size _ _ := (s8.2 _ Tz).trans P7
    have K8 : Kp [CC, D, z, TO, i1, I] h h8 := fun b o hb e => by
      simp only [List.mem_cons, List.not_mem_nil, or_false, not_or] at hb
      exact (s8.2 b hb.2.2.1).trans (k7 b o hb.2.2.1 hb.2.2.2.1 hb.2.2.2.2.1 hb.2.2.2.2.2 e)
    have CZ : ∀ o, h.get? CC = some o → h8.get? CC = some o := fun o e => (s8.2 _ z1.1.symm).trans (k7 _ o z1.1.symm z3.1.symm z4.1.symm z5.1.symm e)
    have DZ : ∀ o, h.get? D = some o → h8.get? D = some o := fun o e => (s8.2 _ z1.2.symm).trans (k7 _ o z1.2.symm z3.2.symm z4.2.symm z5.2.symm e)
    refine unpack2 R.hh (tupOf P8) (Nc.at' CZ) ?_
    intro h9 tk9 N9 e9
    dsimp only at N9 e9 ⊢
    refine hideR ?_
    intro RQ hRQ
    have K9 : Kp [CC, D, z, TO, i1, I] h6 h9 := (hK.trans K8).ext (a := CC) e9 (by simp)
    have hH9 : Keep H h9 := KH K9
    have c9 : h9.IsCell (L + 1) (some (.ref q)) := cell_at (cell_keep c3 kk6) fun o e => K9 _ o cS e
    obtain ⟨oq, fdq, gq, dq⟩ := hkey.fn
    refine Tuple_ ?_
    refine args_cons ?_
    refine Call_ ?_
    refine nmC c9 ?_ rfl
    refine callWith_def (o := oq) dq ?_
    refine args_cons ?_
    refine nmL N9 rfl ?_
    refine args_nil ?_
    refine ⟨hH9 _ _ gq, ?_⟩
    refine wpAny_mono (hkey.call A _ i ty (R.le (by decide)) hH9 (by omega)) ?_ (fun _ _ x => x.elim)
    rintro v s'' ⟨ka, ko, h10, tk10, rfl, rfl, k10, f10, g10, ok10⟩
    dsimp only at k10 f10 ⊢
    refine args_cons ?_
    refine nmL (N9.keeps k10) rfl ?_
    refine args_cons ?_
    refine nmL (N9.keeps k10) rfl ?_
    refine args_nil ?_
    refine mkTup ?_
    intro h11 k11 g11 z11
    dsimp only at k11 g11 z11 ⊢
    have D9 : h9.PlainList D _ := (hD.at DZ).extBut e9 DC
    have D11 : h11.PlainList D _ := plain_keep (plain_keep D9 k10) k11
    refine hRQ _ _ ?_
    refine appendPlain D11 (by rw [lst_len]; omega) ?_
    intro h12 D12 s12
    dsimp only at D12 s12 ⊢
    have S9 : ∀ x, x ∈ [L, CC, D, z, TO, i1, I] → ∃ o, h9.get? x = some o := by
      have up : ∀ x o, x ≠ CC → h8.get? x = some o → h9.get? x = some o := fun x o hx e => e9 x o hx e
      intro x hx
      simp only [List.mem_cons, List.not_mem_nil, or_false] at hx
      rcases hx with rfl | rfl | rfl | rfl | rfl | rfl | rfl
      · exact ⟨_, K9 _ _ LS (kk6 _ _ gL)⟩
      · exact ns_some N9
      · exact list_some D9
      · exact ⟨_, up _ _ z1.1 Z8.z⟩
      · obtain ⟨_, _, e⟩ := Z8.TO; exact ⟨_, up _ _ z3.1 e⟩
      · exact ⟨_, up _ _ z4.1 Z8.i1⟩
      · obtain ⟨_, e, _⟩ := Z8.i2; exact ⟨_, up _ _ z5.1 e⟩
    have notS : ∀ y, h9.get? y = none → y ∉ [L, CC, D, z, TO, i1, I] := fun y e hy => by
      obtain ⟨o, e'⟩ := S9 y hy
      rw [e] at e'; cases e'
    have f11 : h9.get? h10.objs.size = none := fresh_of k10
    have K12 : Kp [CC, D, z, TO, i1, I] h6 h12 := ((K9.keep k10).keep k11).same s12 (by simp)
    have XK : ∀ {v : Value} {ns is : List Int}, XIn [L, CC, D, z, TO, i1, I] h v ns is → XIn [L, CC, D, z, TO, i1, I] h12 v ns is := fun x => by
      refine ((((x.kp (h' := h8) ?_).kp (h' := h9) ?_).keep k10).keep k11).kp ?_
      · exact fun b o hb e => K8 b o (fun hm => hb (List.mem_cons_of_mem _ hm)) e
      · exact fun b o hb e => e9 b o (fun e' : b = CC => hb (by rw [e']; simp)) e
      · exact fun b o hb e => (s12.2 b (fun e' => hb (by rw [e']; simp))).trans e
    obtain ⟨cko, ku, kn, kd, ki⟩ := ok10
    have N12 := ((N9.keeps k10).keeps k11).sameBut s12 DC.symm
    refine ⟨k, by omega, (hInv _ _).2 ⟨h12, _, _, upd f i ⟨.ref h10.objs.size, (-((i : Nat) : Int)), i⟩, i + 1, rfl, N12, ?_, ?_, K12, ?_, by omega⟩⟩
    · rw [← lst_snoc]; exact D12
    · have Z12 := zkp (h := h8) (h' := h12) Z8 (fun b o hb e => by
        have hb1 : b ≠ CC := fun e' => hb (by rw [e']; simp)
        have hb2 : b ≠ D := fun e' => hb (by rw [e']; simp)
        exact (s12.2 b hb2).trans (k11 _ _ (k10 _ _ (e9 b o hb1 e))))
      have q1 : (-((i : Nat) : Int)) + (-1) = (-((i + 1 : Nat) : Int)) := by omega
      have q2 : (n : Int) - (i : Int) - 1 = (n : Int) - ((i + 1 : Nat) : Int) := by omega
      rw [q1, q2] at Z12
      exact Z12
    · intro k hk
      by_cases hki : k = i
      · subst hki
        have e : upd f k ⟨.ref h10.objs.size, (-((k : Nat) : Int)), k⟩ k = ⟨.ref h10.objs.size, (-((k : Nat) : Int)), k⟩ := by simp [upd]
        rw [e]
        refine ⟨rfl, rfl, ?_⟩
        have kaS : ka ∉ [L, CC, D, z, TO, i1, I] := notS _ f10
        have tS : h10.objs.size ∉ [L, CC, D, z, TO, i1, I] := notS _ f11
        have kaD : ka ≠ D := fun e => kaS (by rw [e]; simp)
        have tD : h10.objs.size ≠ D := fun e => tS (by rw [e]; simp)
        exact ⟨h10.objs.size, ka, [.int _ _, .int _ _], ku, rfl, tS, kaS, tupOf ((s12.2 _ tD).trans g11), ⟨ko, (s12.2 _ kaD).trans (k11 _ _ g10), cko, kn, kd⟩, ki, .cons _ _ (.cons _ _ .nil)⟩
      · have e : upd f i ⟨.ref h10.objs.size, (-((i : Nat) : Int)), i⟩ k = f k := by simp [upd, hki]
        rw [e]
        obtain ⟨a1, a2, a3⟩ := hf k (by omega)
        exact ⟨a1, a2, XK a3⟩
end
end Mine
namespace Mine
open PySem PySem.W PyProof.Rows
section
variable {prog : Program} {w : World} {A : Around} {E : Value → Shared → Prop} {s : Shared} {mg mb : Str → Option Value}
set_option maxHeartbeats 2000000 in
theorem nl_loop {H h : Heap} {L l q D I : Addr} {f : Nat → It} {mm : Str → Option Value} {us : List Value} {m n : Nat} {tn : Tok} {kf : Nat → List Int} {tk : Nat} {Q : Value → Shared → Prop}
    (C : Cx w mg mb H) (R : Rm A 30) (N : h.Ns L mm) (K : Keep H h) (fL : H.get? L = none)
    (e1 : mm (Str.ofString "n") = some (.int n tn)) (e2 : mm (Str.ofString "result") = some (.ref D)) (e3 : mm (Str.ofString "it") = some (.ref I)) (cq : h.IsCell (L + 1) (some (.ref q)))
    (hl : H.PlainList l us.toArray) (hi : IntsAre us (natInts m)) (hm : m < 64) (hn : n < m) (hkey : KeyC prog w H q kf 20 m)
    (hD : h.PlainList D (lst It.v f n).toArray) (hf : ∀ k, k < n → (f k).o = (-((k : Nat) : Int)) ∧ (f k).e = k ∧ XIn [L, D, I] h (f k).v (kf k) [(f k).o, ((f k).e : Int)]) (hI : h.IsListIter I l n)
    (fD : H.get? D = none) (fI : H.get? I = none) (DL : D ≠ L) (IL : I ≠ L) (DI : D ≠ I)
    (zero : n = 0 → ∀ h' tk, Keep H h' → h'.PlainList D #[] → Q (.ref D) { s with heap := h', toks := tk })
    (next : ∀ h' tk' (g : Nat → It) mm' r D', h'.Ns L mm' → mm' (Str.ofString "result") = some (.ref D) → h'.PlainList D (lst It.v g n).toArray → (∀ x ∈ lf g n, XIn [L, D, I] h' x.v (kf x.e) [x.o, (x.e : Int)]) → Keep H h' → 0 < n →
      Sel (fun i j => lexLt (kf j) (kf i)) (ltI kf) (fun x => -x.o) n m r D' g →
      wpAny (model prog w) A (execs ((fb fd127).drop 11) (callEnvC fd127 L 127)) (fun f s' => Q (match f with | .ret v => v | _ => .none) s') (fun _ _ => False) { s with heap := h', toks := tk' }) :
    wpAny (model prog w) A (execs ((fb fd127).drop 5) (callEnvC fd127 L 127)) (fun f s' => Q (match f with | .ret v => v | _ => .none) s') (fun _ _ => False) { s with heap := h, toks := tk } := by
  have C1 := C.keeps K
  have cL : L + 1 ≠ L := Nat.succ_ne_self _
  refine wpAny_execs_cons ?_
  refine wpAny_If ?_
  refine PyProof.Rows.isTrue_not ?_
  refine isTrue_plain ?_
  refine nmL N e2 ?_
  refine wpAny_truthy_list hD.isList (by rw [List.size_toArray, lst_len]; omega) ?_
  by_cases h0 : n = 0
  · subst h0
    simp only [lst, List.range_zero, List.map_nil, List.isEmpty_toArray, List.isEmpty_nil, Bool.not_true, Bool.not_false, if_true]
    refine wpAny_execs_cons ?_
    refine wpAny_Return_some ?_
    refine nmL N e2 ?_
    exact zero rfl _ _ K (by simpa [lst] using hD)
  have hne : (!(lst It.v f n).toArray.isEmpty) = true := by
    have : (lst It.v f n).length ≠ 0 := by rw [lst_len]; exact h0
    simp only [List.isEmpty_toArray]
    cases hq : lst It.v f n with
    | nil => rw [hq] at this; exact absurd rfl this
    | cons a b => rfl
  rw [hne]
  simp only [Bool.not_true, Bool.false_eq_true, if_false]
  refine wpAny_execs_nil ?_
  dsimp only
  have hB : ∀ {h₀ : Heap}, Keep H h₀ → ∀ h', Heap.ExtBut D h₀ h' → Cx w mg mb h' := fun k h' x => C.keeps fun b o e => x b o (fun e' => by rw [e', fD] at e; cases e) (k b o e)
  have hXD : ∀ {h₀ h' : Heap} {v : Value} {ns is : List Int}, Heap.ExtBut D h₀ h' → XIn [L, D, I] h₀ v ns is → XIn [L, D, I] h' v ns is := fun x y => y.kp fun b o hb e => x b o (fun e' => hb (by rw [e']; simp)) e
  have kD : ∀ {h₀ h' : Heap}, Keep H h₀ → Heap.ExtBut D h₀ h' → Keep H h' := fun k x b o e => x b o (fun e' => by rw [e', fD] at e; cases e) (k b o e)
  have kI : ∀ {h₀ h' : Heap}, Keep H h₀ → Heap.ExtBut I h₀ h' → Keep H h' := fun k x b o e => x b o (fun e' => by rw [e', fI] at e; cases e) (k b o e)
  have kL : ∀ {h₀ h' : Heap}, Keep H h₀ → Heap.ExtBut L h₀ h' → Keep H h' := fun k x b o e => x b o (fun e' => by rw [e', fL] at e; cases e) (k b o e)
  have cD : L + 1 ≠ D := fun e => cell_ne_list hD cq e.symm
  have cI : L + 1 ≠ I := fun e => by
    obtain ⟨o, g, d⟩ := cq
    obtain ⟨o', g', _, d'⟩ := hI
    rw [← e, g] at g'; cases g'; rw [d] at d'; cases d'
  refine wpAny_execs_cons ?_
  refine wpAny_Expr ?_
  refine Call_ ?_
  refine nmG (v := .ref 73) C1 (by kernel_rfl) ?_
  refine callWith_def (o := { cls := .type "function", data := .func fd73 }) rfl ?_
  refine args_cons ?_
  refine nmL N e2 ?_
  refine args_nil ?_
  refine ⟨C1.k _ _ (fn73 w), ?_⟩
  refine heapify_spec (lt := ltI kf) (P := fun x => XIn [L, D, I] h x.v (kf x.e) [x.o, (x.e : Int)]) (hB K) (R.le (by decide)) hD (by omega) ?_ ?_ ?_
  · intro k hk
    obtain ⟨_, a2, a3⟩ := hf k hk
    rw [a2] at a3 ⊢
    exact a3
  · exact fun x y hx hy => cmpX (by simp) hx hy
  intro h2 tk2 x2 D2
  have OI := ltI_ord kf
  have S2 : Sel (fun i j => lexLt (kf j) (kf i)) (ltI kf) (fun x => -x.o) n n n [] (hfy (ltI kf) n (n / 2) f) := Sel.init OI fun i hi' => ⟨(hf i hi').2.1, by rw [(hf i hi').1]; omega⟩
  have X2 : ∀ x ∈ lf (hfy (ltI kf) n (n / 2) f) n, XIn [L, D, I] h2 x.v (kf x.e) [x.o, (x.e : Int)] := fun x hx => by
    obtain ⟨k, hk, rfl⟩ := mem_lf ((heapify_heap OI n f).2.mem_iff.mp hx)
    obtain ⟨_, a2, a3⟩ := hf k hk
    rw [a2] at a3 ⊢
    exact hXD x2 a3
  generalize hfy (ltI kf) n (n / 2) f = g2 at D2 S2 X2
  have N2 := N.extBut x2 DL.symm
  have K2 := kD K x2
  have I2 := hI.extBut x2 DI.symm
  have q2 : h2.IsCell (L + 1) (some (.ref q)) := cell_at cq fun o e => x2 _ o cD e
  dsimp only at N2 ⊢
  obtain ⟨a, y, t, u, ev, aS, ta, ty⟩ := (X2 _ (lf_mem g2 (Nat.pos_of_ne_zero h0))).three
  refine wpAny_execs_cons ?_
  refine wpAny_Assign_Name ?_
  refine Subscript_ ?_
  refine Subscript_ ?_
  refine nmL N2 e2 ?_
  refine wpAny_Constant_int ?_
  refine itemL 0 D2 (lst_get It.v g2 (Nat.pos_of_ne_zero h0)) (by decide) ?_
  rw [ev]
  refine wpAny_Constant_int ?_
  refine itemT 0 ta rfl (by decide) ?_
  refine stL N2 K2 fL ?_
  intro h3 tq3 N3 K3 s3
  dsimp only at N3 s3 ⊢
  have X3 : ∀ x ∈ lf g2 n, XIn [L, D, I] h3 x.v (kf x.e) [x.o, (x.e : Int)] := fun x hx => (X2 x hx).kp (Kp.refl.same (a := L) s3 (by simp))
  have ty3 := ty.kp (Kp.refl.same (a := L) s3 (by simp))
  have D3 := plain_same D2 s3 DL
  have I3 := I2.extBut s3.extBut IL
  have q3 := q2.sameBut s3 cL
  refine wpAny_execs_cons ?_
  refine wpAny_Assign_Name ?_
  refine UnaryOp_ ?_
  refine nmL N3 e1 ?_
  refine neg_int ?_
  refine stL N3 K3 fL ?_
  intro h4 tq4 N4 K4 s4
  dsimp only at N4 s4 ⊢
  have X4 : ∀ x ∈ lf g2 n, XIn [L, D, I] h4 x.v (kf x.e) [x.o, (x.e : Int)] := fun x hx => (X3 x hx).kp (Kp.refl.same (a := L) s4 (by simp))
  have ty4 := ty3.kp (Kp.refl.same (a := L) s4 (by simp))
  have D4 := plain_same D3 s4 DL
  have I4 := I3.extBut s4.extBut IL
  have q4 := q3.sameBut s4 cL
  refine wpAny_execs_cons ?_
  refine wpAny_Assign_Name ?_
  refine nmG (v := .ref 66) (C.keeps K4) (by kernel_rfl) ?_
  refine stL N4 K4 fL ?_
  intro h5 tq5 N5 K5 s5
  dsimp only at N5 s5 ⊢
  have X5 : ∀ x ∈ lf g2 n, XIn [L, D, I] h5 x.v (kf x.e) [x.o, (x.e : Int)] := fun x hx => (X4 x hx).kp (Kp.refl.same (a := L) s5 (by simp))
  have ty5 := ty4.kp (Kp.refl.same (a := L) s5 (by simp))
  have D5 := plain_same D4 s5 DL
  have I5 := I4.extBut s5.extBut IL
  have q5 := q4.sameBut s5 cL
  clear X2 X3 X4 ty ty3 ty4 D3 D4 I3 I4 q3 q4 s3 s4 s5
  refine wpAny_execs_cons ?_
  refine wpAny_For ?_
  refine nmL N5 e3 ?_
  refine wpAny_pyIter_listiter I5 ?_
  obtain ⟨oq, fdq, gq, dq⟩ := hkey.fn
  have hrk : ∀ {h₀ : Heap}, Keep H h₀ → l ≠ I ∧ h₀.IsList l us.toArray := fun k => ⟨(fun e => by obtain ⟨_, g⟩ := hl; rw [e, fI] at g; cases g), (plain_keep hl k).isList⟩
  obtain ⟨Inv, hInv⟩ : ∃ Inv : Nat → Shared → Prop, ∀ k s', Inv k s' ↔ (∃ (h : Heap) (tk : Nat) (mc : Str → Option Value) (g : Nat → It) (j : Nat) (r : Int) (D' : List Nat), s' = { s with heap := h, toks := tk } ∧ h.Ns L mc ∧ mc (Str.ofString "result") = some (.ref D) ∧ mc (Str.ofString "_heapreplace") = some (.ref 66) ∧
      (∃ t, mc (Str.ofString "order") = some (.int (-r) t)) ∧ (∃ v, mc (Str.ofString "top") = some v ∧ TIn [L, D, I] h v (kf (g 0).e)) ∧ h.PlainList D (lst It.v g n).toArray ∧ (∀ x ∈ lf g n, XIn [L, D, I] h x.v (kf x.e) [x.o, (x.e : Int)]) ∧
      h.IsListIter I l j ∧ Keep H h ∧ h.IsCell (L + 1) (some (.ref q)) ∧ Sel (fun i j => lexLt (kf j) (kf i)) (ltI kf) (fun x => -x.o) n j r D' g ∧ j + k = m) := ⟨_, fun _ _ => Iff.rfl⟩
  refine codeAny_forLoop Inv ?_ (m - n)
    ((hInv _ _).2 ⟨h5, _, _, g2, n, n, [], rfl, N5, e2, rfl, ⟨_, rfl⟩, ⟨y, rfl, ty5⟩, D5, X5, I5, K5, q5, S2, by omega⟩)
  intro k s' hI0
  obtain ⟨h, tk, mc, g, j, r, D', rfl, Nc, er, ep, ⟨to, eo⟩, ⟨vt, et, tt⟩, hDc, hX, hIc, hK, hq, hS, hjk⟩ := (hInv _ _).1 hI0
  clear hI0
  cases k with
  | zero =>
    refine wpAny_pyNext_list_end R.hh hIc (hrk hK).2 ?_ ?_
    · rw [List.getElem?_toArray, List.getElem?_eq_none (by rw [hi.length]; simp; omega)]
    intro h6 e6
    dsimp only
    refine wpAny_execs_nil ?_
    dsimp only
    have hjm : j = m := by omega
    subst hjm
    refine next h6 _ g mc r D' (Nc.extBut e6 IL.symm) er (hDc.extBut e6 DI) (fun x hx => (hX x hx).kp (Kp.refl.ext e6 (by simp))) (kI hK e6) (Nat.pos_of_ne_zero h0) hS
  | succ k =>
    have hjm : j < m := by omega
    obtain ⟨tj, htj⟩ := IntsAre.get_ hi (natInts_get (m := m) (i := j) hjm)
    refine wpAny_pyNext_list_item hIc (hrk hK).2 (by rw [List.getElem?_toArray]; exact htj) ?_
    intro h6 I6 s6
    dsimp only at I6 s6 ⊢
    have K6 := kI hK s6.extBut
    have P6 : Kp [L, D, I] h h6 := Kp.refl.same s6 (by simp)
    refine wpAny_assign_Name ?_
    refine stL (Nc.sameBut s6 IL.symm) K6 fL ?_
    intro h7 tq7 N7 K7 s7
    dsimp only at N7 s7 ⊢
    refine hideR ?_
    intro RQ hRQ
    have P7 : Kp [L, D, I] h h7 := P6.same (a := L) s7 (by simp)
    have D7 := plain_same (plain_same hDc s6 DI) s7 DL
    have q7 := (hq.sameBut s6 cI).sameBut s7 cL
    have I7 : h7.IsListIter I l (j + 1) := I6.extBut s7.extBut IL
    refine wpAny_execs_cons ?_
    refine wpAny_Assign_Name ?_
    refine Call_ ?_
    refine nmC q7 ?_ rfl
    refine callWith_def (o := oq) dq ?_
    refine args_cons ?_
    refine nmL N7 rfl ?_
    refine args_nil ?_
    refine ⟨K7 _ _ gq, ?_⟩
    refine wpAny_mono (hkey.call A _ j tj (R.le (by decide)) K7 hjm) ?_ (fun _ _ x => x.elim)
    rintro v s'' ⟨ka, ko, h8, tk8, rfl, rfl, k8, f8, g8, ok8⟩
    dsimp only at k8 f8 ⊢
    have K8 : Keep H h8 := fun b o e => k8 _ _ (K7 _ _ e)
    refine stL (N7.keeps k8) K8 fL ?_
    intro h9 tq9 N9 K9 s9
    dsimp only at N9 s9 ⊢
    have P9 : Kp [L, D, I] h h9 := (P7.keep k8).same (a := L) s9 (by simp)
    have D9 := plain_same (plain_keep D7 k8) s9 DL
    have q9 := (cell_keep q7 k8).sameBut s9 cL
    have I9 : h9.IsListIter I l (j + 1) := (I7.at fun o e => k8 _ _ e).extBut s9.extBut IL
    have kaS : ka ∉ [L, D, I] := nin3 (fun e => by obtain ⟨o, g⟩ := ns_some N7; exact ne_fresh f8 g e) (fun e => by obtain ⟨o, g⟩ := list_some D7; exact ne_fresh f8 g e) (fun e => by obtain ⟨o, g, _⟩ := I7; exact ne_fresh f8 g e)
    have kaL : ka ≠ L := fun e => kaS (by rw [e]; simp)
    obtain ⟨cko, ku, kn, kd, ki⟩ := ok8
    have tk9 : TIn [L, D, I] h9 (.ref ka) (kf j) := ⟨ka, ku, rfl, kaS, ⟨ko, (s9.2 _ kaL).trans g8, cko, kn, kd⟩, ki⟩
    have top9 := tt.kp P9
    refine wpAny_execs_cons ?_
    refine wpAny_If ?_
    refine wpAny_isTrue_Compare1 ?_
    refine nmL N9 et ?_
    refine nmL N9 rfl ?_
    refine compareLt (LtAt.ti top9.ti tk9.ti R.units) ?_
    refine wpAny_truthy_bool ?_
    cases hb : lexLt (kf (g 0).e) (kf j) with
    | false =>
      simp only [Bool.false_eq_true, if_false]
      refine wpAny_execs_nil ?_
      refine wpAny_execs_nil ?_
      refine hRQ _ _ ?_
      refine ⟨k, by omega, (hInv _ _).2 ⟨h9, _, _, g, j + 1, r, j :: D', rfl, N9, er, ep, ⟨to, eo⟩, ⟨vt, et, top9⟩, D9, fun x hx => (hX x hx).kp P9, I9, K9, q9, ?_, by omega⟩⟩
      exact hS.skip (key_ord kf).flip OI (worseL kf) (Nat.pos_of_ne_zero h0) hb
    | true =>
      simp only [if_true]
      refine wpAny_execs_cons ?_
      refine wpAny_Expr_any ?_
      refine Call_ ?_
      refine nmL N9 ep ?_
      refine callWith_def (o := { cls := .type "function", data := .func fd66 }) rfl ?_
      refine args_cons ?_
      refine nmL N9 er ?_
      refine args_cons ?_
      refine Tuple_ ?_
      refine args_cons ?_
      refine nmL N9 rfl ?_
      refine args_cons ?_
      refine nmL N9 eo ?_
      refine args_cons ?_
      refine nmL N9 rfl ?_
      refine args_nil ?_
      refine mkTup ?_
      intro h10 k10 g10 z10
      dsimp only at k10 g10 z10 ⊢
      have K10 : Keep H h10 := fun b o e => k10 _ _ (K9 _ _ e)
      have P10 : Kp [L, D, I] h h10 := P9.keep k10
      have TS : h9.objs.size ∉ [L, D, I] := nin3 (ne_size (ns_some N9)).symm (ne_size (list_some D9)).symm (by obtain ⟨o, g, _⟩ := I9; exact (ne_size ⟨_, g⟩).symm)
      refine args_nil ?_
      refine ⟨(C.keeps K10).k _ _ (fn66 w), ?_⟩
      have newX : XIn [L, D, I] h10 (.ref h9.objs.size) (kf j) [(-r), (j : Int)] := by
        obtain ⟨b, vs, eb, b1, b2, b3⟩ := tk9
        cases eb
        exact ⟨h9.objs.size, ka, [.int _ _, .int _ _], vs, rfl, TS, b1, tupOf g10, tup_keep b2 k10, b3, .cons _ _ (.cons _ _ .nil)⟩
      have oldX : ∀ x ∈ lf g n, XIn [L, D, I] h10 x.v (kf x.e) [x.o, (x.e : Int)] := fun x hx => (hX x hx).kp P10
      refine heapreplace_spec (val := It.v) (lt := ltI kf) (P := fun x => XIn [L, D, I] h10 x.v (kf x.e) [x.o, (x.e : Int)]) (f := g) (x := ⟨.ref h9.objs.size, (-r), j⟩) (hB K10) (R.le (by decide)) (plain_keep D9 k10) (Nat.pos_of_ne_zero h0) (by omega) ?_ newX ?_ ?_
      · exact fun i hi' => oldX _ (lf_mem g hi')
      · exact fun x y hx hy => cmpX (by simp) hx hy
      intro h11 tk11 x11 D11
      dsimp only
      have K11 := kD K10 x11
      have S11 := hS.take (key_ord kf).flip OI (worseL kf) (Nat.pos_of_ne_zero h0) hb (x := ⟨.ref h9.objs.size, (-r), j⟩) rfl (by show - -r = r; omega)
      have X11 : ∀ x ∈ lf (sup (ltI kf) n 0 (upd g 0 ⟨.ref h9.objs.size, (-r), j⟩)) n, XIn [L, D, I] h11 x.v (kf x.e) [x.o, (x.e : Int)] := fun x hx => by
        obtain ⟨i, hi', rfl⟩ := mem_lf ((replace_heap OI (x := ⟨.ref h9.objs.size, (-r), j⟩) (Nat.pos_of_ne_zero h0) hS.heap).2.mem_iff.mp hx)
        refine hXD x11 ?_
        unfold upd
        split
        · exact newX
        · exact oldX _ (lf_mem g hi')
      generalize sup (ltI kf) n 0 (upd g 0 ⟨.ref h9.objs.size, (-r), j⟩) = g' at D11 S11 X11
      have N11 := (N9.keeps k10).extBut x11 DL.symm
      have I11 : h11.IsListIter I l (j + 1) := (I9.at fun o e => k10 _ _ e).extBut x11 DI.symm
      have q11 : h11.IsCell (L + 1) (some (.ref q)) := cell_at (cell_keep q9 k10) fun o e => x11 _ o cD e
      obtain ⟨a, y, t, u, ev, aS, ta, ty⟩ := (X11 _ (lf_mem g' (Nat.pos_of_ne_zero h0))).three
      refine wpAny_execs_cons ?_
      refine asg1 ?_
      refine Subscript_ ?_
      refine nmL N11 er ?_
      refine wpAny_Constant_int ?_
      refine itemL 0 D11 (lst_get It.v g' (Nat.pos_of_ne_zero h0)) (by decide) ?_
      rw [ev]
      refine unpack3 R.hh ta N11 ?_
      intro h12 tk12 N12 e12
      dsimp only at N12 e12 ⊢
      have K12 := kL K11 e12
      have P12 : Kp [L, D, I] h11 h12 := Kp.refl.ext (a := L) e12 (by simp)
      have D12 := D11.extBut e12 DL
      have I12 := I11.extBut e12 IL
      have q12 : h12.IsCell (L + 1) (some (.ref q)) := cell_at q11 fun o e => e12 _ o cL e
      refine wpAny_execs_cons ?_
      refine wpAny_AugAssign_Name ?_
      refine wpAny_loadName_local rfl rfl N12 eo ?_
      refine wpAny_Constant_int ?_
      refine isub_int ?_
      refine stL N12 K12 fL ?_
      intro h13 tq13 N13 K13 s13
      dsimp only at N13 s13 ⊢
      have P13 : Kp [L, D, I] h11 h13 := P12.same (a := L) s13 (by simp)
      refine wpAny_execs_nil ?_
      dsimp only
      refine wpAny_execs_nil ?_
      refine hRQ _ _ ?_
      refine ⟨k, by omega, (hInv _ _).2 ⟨h13, _, _, g', j + 1, r + 1, (g 0).e :: D', rfl, N13, er, ep, ⟨_, (by show some (Value.int (-r - 1) _) = some (Value.int (-(r + 1)) _); rw [show -r - 1 = -(r + 1) by omega])⟩, ⟨y, rfl, ty.kp P13⟩, plain_same D12 s13 DL, fun x hx => (X11 x hx).kp P13, I12.extBut s13.extBut IL, K13, q12.sameBut s13 cL, S11, by omega⟩⟩
end
end Mine
namespace Mine
open PySem PySem.W PyProof.Rows
section
variable {prog : Program} {w : World} {A : Around} {E : Value → Shared → Prop} {s : Shared} {mg mb : Str → Option Value}
set_option maxHeartbeats 2000000 in
theorem nl_end {H h : Heap} {L D I : Addr} {g : Nat → It} {mm : Str → Option Value} {m n : Nat} {kf : Nat → List Int} {tk : Nat} {r : Int} {D' : List Nat} {Q : Value → Shared → Prop}
    (C : Cx w mg mb H) (R : Rm A 30) (N : h.Ns L mm) (K : Keep H h) (e2 : mm (Str.ofString "result") = some (.ref D))
    (hD : h.PlainList D (lst It.v g n).toArray) (hX : ∀ x ∈ lf g n, XIn [L, D, I] h x.v (kf x.e) [x.o, (x.e : Int)]) (h2 : 2 ≤ n) (hm : m < 64) (hn : n < m) (fD : H.get? D = none) (DL : D ≠ L)
    (S : Sel (fun i j => lexLt (kf j) (kf i)) (ltI kf) (fun x => -x.o) n m r D' g)
    (hQ : ∀ h' tk b vs, Keep H h' → H.get? b = none → h'.PlainList b vs.toArray → IntsAre vs ((((srt (fun i j => lexLt (kf i) (kf j)) m true).take n).map fun (i : Nat) => (i : Int))) → Q (.ref b) { s with heap := h', toks := tk }) :
    wpAny (model prog w) A (execs ((fb fd127).drop 11) (callEnvC fd127 L 127)) (fun f s' => Q (match f with | .ret v => v | _ => .none) s') (fun _ _ => False) { s with heap := h, toks := tk } := by
  have OI := ltI_ord kf
  have OC : Ord (fun i j => ltI kf (g i) (g j)) := ⟨fun a b h => OI.asym _ _ h, fun a b c h1 h2 => OI.ntr _ _ _ h1 h2⟩
  refine wpAny_execs_cons ?_
  refine wpAny_Expr ?_
  refine MethodCallK_ ?_
  refine nmL N e2 ?_
  refine methPlain hD PySem.F.slot_list_sort PySem.F.type_list_sort ?_
  refine callWith_methodK ?_
  refine kws_cons ?_
  refine wpAny_Constant_bool ?_
  refine kws_nil ?_
  refine lsortR_spec (b := true) (κ := tuples' false) (clt := fun i j => ltI kf (g i) (g j)) hD (by rw [lst_len]; omega) ?_ ?_ ?_
  · intro s' Qk hl2 hx hq
    refine kindXI (by rw [lst_len]; omega) (fun k hk => ?_) hq
    rw [lst_map] at hk
    obtain ⟨x, hx', rfl⟩ := List.mem_map.mp hk
    exact ⟨_, _, ((hX x hx').kp (fun b o hb e => hx b o (fun e' => hb (by rw [e']; simp)) e)).xi⟩
  · intro s' i j Cc hx hi' hj' hC
    rw [lst_len] at hi' hj'
    rw [lst_getD It.v g hi', lst_getD It.v g hj']
    have hk : Kp [L, D, I] h s'.heap := fun b o hb e => hx b o (fun e' => hb (by rw [e']; simp)) e
    exact ltXI ((hX _ (lf_mem g hi')).kp hk).xi ((hX _ (lf_mem g hj')).kp hk).xi (R.le (k := 2) (by decide)).in1.in1.units hC
  intro h3 tk3 x3 D3
  dsimp only at x3
  rw [lst_len, if_neg (by omega)] at D3
  have isP : (srt (fun i j => ltI kf (g i) (g j)) n true).Perm (List.range n) := srt_perm OC (by omega) _
  have isS := srt_true OC (n := n) (by omega)
  have hres := S.done (key_ord kf).flip (worseL kf) (R := srt (fun i j => lexLt (kf i) (kf j)) m true) (srt_perm (key_ord kf) (by omega) _) (srt_true (key_ord kf) (by omega)) isP (isS.imp fun hh => hh.1)
  generalize (srt (fun i j => ltI kf (g i) (g j)) n true) = is at D3 isP isS hres
  have ilen : is.length = n := by rw [isP.length_eq, List.length_range]
  have iin : ∀ {k p : Nat}, is[k]? = some p → p < n := fun hh => List.mem_range.mp (isP.mem_iff.mp (List.mem_of_getElem? hh))
  have K3 : Keep H h3 := fun b o e => x3 b o (fun e' => by rw [e', fD] at e; cases e) (K b o e)
  have N3 := N.extBut x3 DL.symm
  have X3 : ∀ x ∈ lf g n, XIn [L, D, I] h3 x.v (kf x.e) [x.o, (x.e : Int)] := fun x hx => (hX x hx).kp fun b o hb e => x3 b o (fun e' => hb (by rw [e']; simp)) e
  dsimp only
  refine wpAny_execs_cons ?_
  refine wpAny_Return_some ?_
  refine comp1 (cl := []) ?_ ?_ ?_ ?_ ?_
  · rfl
  · decide
  · rfl
  · decide
  refine nmL N3 e2 ?_
  refine wpAny_pyIter_list D3.isList ?_
  dsimp only
  generalize hH5 : h3.push { cls := Value.type "list_iterator", data := Data.fields #[Value.ref D, Value.int 0 0] } = h5
  have k5 : Keep h3 h5 := fun b o e => by rw [← hH5]; exact Heap.get?_push_of_some _ e
  have I5 : h5.IsListIter h3.objs.size D 0 := by rw [← hH5]; exact ⟨_, Heap.get?_push_size _ rfl, rfl, rfl⟩
  have fJ : h3.get? h3.objs.size = none := fresh_none
  generalize h3.objs.size = J at I5 fJ
  intro B CC h6 tk6 k6 B6 N6 fB fC BC
  dsimp only at k6 fB fC ⊢
  have kk6 : Keep h3 h6 := fun b o e => k6 _ _ (k5 _ _ e)
  have fB3 : h3.get? B = none := by
    cases e : h3.get? B with
    | none => rfl
    | some o => rw [k5 _ _ e] at fB; cases fB
  have fC3 : h3.get? CC = none := by
    cases e : h3.get? CC with
    | none => rfl
    | some o => rw [k5 _ _ e] at fC; cases fC
  have old : ∀ b o, h3.get? b = some o → b ∉ [CC, B, J] := fun b o e => nin3 (ne_fresh fC3 e).symm (ne_fresh fB3 e).symm (ne_fresh fJ e).symm
  have up : ∀ {h : Heap}, Kp [CC, B, J] h6 h → Keep h3 h := fun k b o e => k b o (old b o e) (kk6 _ _ e)
  have JC : J ≠ CC := by obtain ⟨o, e, _⟩ := I5; exact (ne_fresh fC e).symm
  have JB : J ≠ B := by obtain ⟨o, e, _⟩ := I5; exact (ne_fresh fB e).symm
  have JD : J ≠ D := by obtain ⟨o, e⟩ := list_some D3; exact ne_fresh fJ e
  obtain ⟨Inv, hInv⟩ : ∃ Inv : Nat → Shared → Prop, ∀ k s', Inv k s' ↔ (∃ (h : Heap) (tk : Nat) (mc : Str → Option Value) (i : Nat) (us : List Value), s' = { s with heap := h, toks := tk } ∧ h.Ns CC mc ∧ h.PlainList B us.toArray ∧
      IntsAre us ((is.take i).map fun p => ((g p).e : Int)) ∧ h.IsListIter J D i ∧ Kp [CC, B, J] h6 h ∧ i + k = n) := ⟨_, fun _ _ => Iff.rfl⟩
  refine ⟨Inv, n,
    (hInv _ _).2 ⟨h6, tk6, _, 0, [], rfl, N6, B6, .nil, I5.at fun o e => k6 _ _ e, Kp.refl, by omega⟩, ?_, ?_⟩
  · intro E' Q' hq
    exact wpAny_pyIter_listiter (I5.at fun o e => k6 _ _ e) hq
  intro k s' hI0
  obtain ⟨h, tk, mc, i, us, rfl, Nc, hB, hi, hJ, hK, hik⟩ := (hInv _ _).1 hI0
  clear hI0
  have kh := up hK
  have hD := plain_keep D3 kh
  cases k with
  | zero =>
    refine wpAny_pyNext_list_end R.hh hJ hD.isList ?_ ?_
    · rw [List.getElem?_toArray, List.getElem?_eq_none (by rw [List.length_map, ilen]; omega)]
    intro h7 e7
    dsimp only
    refine ⟨mc, Nc.extBut e7 JC.symm, ?_⟩
    intro h8 s8
    have K8 : Kp [CC, B, J] h6 h8 := (hK.ext e7 (by simp)).same s8 (by simp)
    refine hQ h8 _ B us (fun b o e => up K8 b o (K3 _ _ e)) ?_ (plain_same (hB.extBut e7 JB.symm) s8 BC) ?_
    · cases e : H.get? B with
      | none => rfl
      | some o => rw [K3 _ _ e] at fB3; cases fB3
    · rw [show i = n by omega, List.take_of_length_le (by omega)] at hi
      rw [← hres, List.map_map]
      exact hi
  | succ k =>
    have hin : i < n := by omega
    obtain ⟨p, hp⟩ : ∃ p, is[i]? = some p := ⟨_, List.getElem?_eq_getElem (by omega)⟩
    have hpn := iin hp
    obtain ⟨a, y, t, u, ev, aS, ta, ty⟩ := (X3 _ (lf_mem g hpn)).three
    refine wpAny_pyNext_list_item hJ hD.isList (x := .ref a) ?_ ?_
    · rw [List.getElem?_toArray, List.getElem?_map, hp, Option.map_some, lst_getD It.v g hpn, ev]
    intro h7 I7 s7
    dsimp only at I7 s7 ⊢
    refine wpAny_letOwnedTupleGo_listiter I7 ?_
    have K7 := hK.same s7 (by simp)
    refine unpack3 R.hh (tup_keep ta (up K7)) (Nc.sameBut s7 JC.symm) ?_
    intro h8 tk8 N8 e8
    dsimp only at N8 e8 ⊢
    have K8 := K7.ext (a := CC) e8 (by simp)
    refine nmL N8 rfl ?_
    have B8 : h8.PlainList B us.toArray := (plain_same hB s7 JB.symm).extBut e8 BC
    have ulen : us.length = i := by rw [hi.length, List.length_map, List.length_take, ilen]; omega
    refine appendPlain B8 (by omega) ?_
    intro h9 B9 s9
    dsimp only at B9 s9 ⊢
    have N9 := N8.sameBut s9 BC.symm
    refine ⟨k, by omega, (hInv _ _).2 ⟨h9, _, _, i + 1, _, rfl, N9, B9, ?_, (I7.extBut e8 JC).extBut s9.extBut JB, K8.same s9 (by simp), by omega⟩⟩
    have e : (is.take (i + 1)).map (fun p => ((g p).e : Int)) = (is.take i).map (fun p => ((g p).e : Int)) ++ [((g p).e : Int)] := by
      rw [List.take_succ, hp]
      simp
    rw [e]
    exact IntsAre.append hi (.cons _ _ .nil)
end
end Mine
namespace Mine
open PySem PySem.W PyProof.Rows
section
variable {prog : Program} {w : World} {A : Around} {E : Value → Shared → Prop} {s : Shared} {mg mb : Str → Option Value}
set_option maxHeartbeats 2000000 in
theorem nl_spec {l q : Addr} {us : List Value} {m n : Nat} {tn : Tok} {kf : Nat → List Int} {Q : Value → Shared → Prop}
    (C : Cx w mg mb s.heap) (R : Rm A 31) (hl : s.heap.PlainList l us.toArray) (hi : IntsAre us (natInts m)) (h2 : 2 ≤ m) (hm : m < 64) (hnm : n < 2 ^ 20) (hkey : KeyC prog w s.heap q kf 20 m) (hne : ∀ i, kf i ≠ [])
    (hQ : ∀ h' tk b vs, Keep s.heap h' → s.heap.get? b = none → h'.PlainList b vs.toArray → IntsAre vs ((((srt (fun i j => lexLt (kf i) (kf j)) m true).take n).map fun (i : Nat) => (i : Int))) → Q (.ref b) { s with heap := h', toks := tk }) :
    wpAny (model prog w) A (call (.ref 127) [.int (n : Int) tn, .ref l] [(Str.ofString "key", .ref q)]) Q E s := by
  have hlen : us.length = m := by rw [hi.length]; simp
  refine enterC [(Str.ofString "n", .int (n : Int) tn), (Str.ofString "iterable", .ref l), (Str.ofString "key", .ref q)] C R (fn127 w) (by kernel_rfl) rfl (binds127 C _ _ _) rfl ?_ ?_
  · intro x hx
    simp only [List.mem_cons, List.not_mem_nil, or_false] at hx
    rcases hx with rfl | rfl | rfl
    · exact .inl rfl
    · exact .inl rfl
    · exact .inr ⟨rfl, rfl⟩
  intro h1 tk1 N1 k1 C1 R1 hcell
  have c1 : h1.IsCell (s.heap.objs.size + 1) (some (.ref q)) := hcell (Str.ofString "key") _ rfl
  have fL : s.heap.get? s.heap.objs.size = none := fresh_none
  have fc : s.heap.get? (s.heap.objs.size + 1) = none := Heap.get?_none_of_le (Nat.le_succ _)
  have hl1 := plain_keep hl k1
  refine wpAny_execs_cons ?_
  refine wpAny_If ?_
  refine wpAny_isTrue_Compare1 ?_
  refine nmL N1 rfl ?_
  refine wpAny_Constant_int ?_
  refine eq_int ?_
  refine wpAny_truthy_bool ?_
  by_cases hn1 : n = 1
  · subst hn1
    rw [show (((1 : Nat) : Int) == 1) = true from rfl, if_pos rfl]
    refine wpAny_execs_cons ?_
    refine wpAny_Assign_Name ?_
    refine Call_ ?_
    refine nmB C1 (by kernel_rfl) boot_iter (by decide) ?_
    refine cwb1 ?_
    refine args_cons ?_
    refine nmL N1 rfl ?_
    refine args_nil ?_
    refine iterL hl1 ?_
    intro h3 I k3 fI I3
    dsimp only at k3 fI I3 ⊢
    have K3 : Keep s.heap h3 := fun b o e => k3 _ _ (k1 b o e)
    have fI0 : s.heap.get? I = none := by
      cases e : s.heap.get? I with
      | none => rfl
      | some o => rw [k1 _ _ e] at fI; cases fI
    have IL : I ≠ s.heap.objs.size := fun e => by obtain ⟨o, g⟩ := ns_some N1; exact ne_fresh fI g e
    have Il : l ≠ I := fun e => by obtain ⟨_, g⟩ := hl; exact ne_fresh fI0 g e.symm
    have cL : s.heap.objs.size + 1 ≠ s.heap.objs.size := Nat.succ_ne_self _
    refine stL (N1.keeps k3) K3 fL ?_
    intro h4 tq4 N4 K4 s4
    dsimp only at N4 s4 ⊢
    have C4 := C.keeps K4
    have I4 : h4.IsListIter I l 0 := I3.extBut s4.extBut IL
    have c4 : h4.IsCell (s.heap.objs.size + 1) (some (.ref q)) := (cell_keep c1 k3).sameBut s4 cL
    refine wpAny_execs_cons ?_
    refine wpAny_Assign_Name ?_
    refine Call_ ?_
    refine nmB C4 (by kernel_rfl) boot_object (by decide) ?_
    refine PyProof.Rows.callWith_type0 ?_
    refine call_object ?_
    intro h5 k5 g5
    dsimp only at k5 ⊢
    have K5 : Keep s.heap h5 := fun b o e => k5 _ _ (K4 b o e)
    refine stL (N4.keeps k5) K5 fL ?_
    intro h6 tq6 N6 K6 s6
    dsimp only at N6 s6 ⊢
    have C6 := C.keeps K6
    have I6 : h6.IsListIter I l 0 := (I4.at fun o e => k5 _ _ e).extBut s6.extBut IL
    have c6 : h6.IsCell (s.heap.objs.size + 1) (some (.ref q)) := (cell_keep c4 k5).sameBut s6 cL
    refine wpAny_execs_cons ?_
    refine wpAny_Assign_Name ?_
    refine CallK_ ?_
    refine nmB C6 (by kernel_rfl) boot_max (by decide) ?_
    refine callWith_kw ?_
    refine args_cons ?_
    refine nmL N6 rfl ?_
    refine args_nil ?_
    refine kws_cons ?_
    refine nmL N6 rfl ?_
    refine kws_cons ?_
    refine nmC c6 ?_ rfl
    refine kws_nil ?_
    refine max_spec (l := l) (vs := us) (bt := fun i j => lexLt (kf j) (kf i)) (K := fun i => TObj (kf i)) (key_ord kf).flip R1.hh (plain_keep hl K6).isList Il I6 (by omega) ?_ ?_ ?_
    · intro i v h tk hv hk
      have hi' : i < m := by have := (List.getElem?_eq_some_iff.mp hv).1; omega
      obtain ⟨t, ht⟩ := IntsAre.get_ hi (natInts_get (m := m) (i := i) hi')
      rw [ht] at hv; cases hv
      exact hkey.call _ _ i t (R1.le (k := 21) (by decide)).in1 (fun b o e => hk b o (by simp; exact fun e' => by rw [e', fI0] at e; cases e) (K6 _ _ e)) hi'
    · intro s' i j ka kb ko kp Cc g1 o1 g2 o2 hC
      exact GtAt.ti (o1.ti g1) (o2.ti g2) (R1.le (k := 1) (by decide)).in1.units prog w _ _ hC
    intro i v h7 tk7 hv best k7
    dsimp only
    have hi' : i < m := by have := (List.getElem?_eq_some_iff.mp hv).1; omega
    obtain ⟨t, ht⟩ := IntsAre.get_ hi (natInts_get (m := m) (i := i) hi')
    rw [ht] at hv; cases hv
    have K7 : Keep s.heap h7 := fun b o e => k7 b o (by simp; exact fun e' => by rw [e', fI0] at e; cases e) (K6 _ _ e)
    have N7 : h7.Ns s.heap.objs.size _ := N6.at' fun o e => k7 (s.heap.objs.size) o (by simpa using IL.symm) e
    refine stL N7 K7 fL ?_
    intro h8 tq8 N8 K8 s8
    dsimp only at N8 s8 ⊢
    refine wpAny_execs_cons ?_
    refine wpAny_Return_some ?_
    refine IfExp_ ?_
    refine wpAny_isTrue_Compare1 ?_
    refine nmL N8 rfl ?_
    refine nmL N8 rfl ?_
    refine wpAny_is_other rfl (by intro e; cases e) ?_
    refine wpAny_truthy_bool ?_
    rw [if_neg Bool.false_ne_true]
    refine List_ ?_
    refine args_cons ?_
    refine nmL N8 rfl ?_
    refine args_nil ?_
    refine mkList ?_
    intro h9 k9 n9 z9
    dsimp only at k9 n9 z9 ⊢
    refine hQ h9 _ _ _ (fun b o e => k9 _ _ (K8 _ _ e)) (fresh_of K8) n9 ?_
    rw [hlen] at best
    rw [first_best (bt := fun i j => lexLt (kf j) (kf i)) (i := i) (by omega) (srt_perm (key_ord kf) (by omega) _) (srt_true (key_ord kf) (by omega)) best]
    exact .cons _ _ .nil
  have hb1 : ((n : Int) == 1) = false := beq_eq_false_iff_ne.mpr (by omega)
  rw [hb1]
  simp only [Bool.false_eq_true, if_false]
  refine wpAny_execs_nil ?_
  dsimp only
  refine wpAny_execs_cons ?_
  refine wpAny_Try_except ?_
  refine wpAny_execs_cons ?_
  refine wpAny_Assign_Name ?_
  refine Call_ ?_
  refine nmB C1 (by kernel_rfl) boot_len (by decide) ?_
  refine cwb1 ?_
  refine args_cons ?_
  refine nmL N1 rfl ?_
  refine args_nil ?_
  refine Calls.call_len_list hl1.isList (by rw [List.size_toArray]; omega) ?_
  refine stL N1 k1 fL ?_
  intro h3 tq3 N3 K3 s3
  dsimp only at N3 s3 ⊢
  have C3 := C.keeps K3
  have c3 : h3.IsCell (s.heap.objs.size + 1) (some (.ref q)) := c1.sameBut s3 (Nat.succ_ne_self _)
  refine wpAny_execs_nil ?_
  dsimp only
  refine wpAny_execs_cons ?_
  refine wpAny_If ?_
  refine wpAny_isTrue_Compare1 ?_
  refine nmL N3 rfl ?_
  refine nmL N3 rfl ?_
  refine PyProof.Rows.ge_int ?_
  refine wpAny_truthy_bool ?_
  rw [List.size_toArray, hlen]
  by_cases hnm' : m ≤ n
  · rw [decide_eq_true (by omega), if_pos rfl]
    refine wpAny_execs_cons ?_
    refine wpAny_Return_some ?_
    refine Subscript_ ?_
    refine CallK_ ?_
    refine nmB C3 (by kernel_rfl) boot_sorted (by decide) ?_
    refine callWith_kw ?_
    refine args_cons ?_
    refine nmL N3 rfl ?_
    refine args_nil ?_
    refine kws_cons ?_
    refine nmC c3 ?_ rfl
    refine kws_cons ?_
    refine wpAny_Constant_bool ?_
    refine kws_nil ?_
    refine sortTI (b := true) (kf := kf) (R1.le (by decide)) (plain_keep hl K3) hi h2 hm (hkey.keep K3) hne ?_ ?_ ?_ ?_
    · exact ksk_s2 _ _ _
    · exact fun _ => ksk_l2 _ _ _
    · exact fun _ => ksk_t2 _ _ _
    intro h4 tk4 D vs k4 fD D4 i4
    dsimp only at k4 fD ⊢
    refine wpAny_Slice ?_
    refine partN ?_
    refine partS ?_
    refine nmL (N3.keeps k4) rfl ?_
    refine partN ?_
    dsimp only
    have vlen : vs.length = m := by rw [i4.length, List.length_map, (srt_perm (key_ord kf) (by omega) _).length_eq, List.length_range]
    refine sliceI (s := ⟨_, _, _, _, _⟩) (lo := none) (hi := some _) (st := none) D4.isList .none (.int ..) .none (by decide) ?_ (by with_unfolding_all rfl) ?_
    · rw [List.size_toArray]; omega
    intro h5 k5 n5 z5
    dsimp only at k5 n5 z5 ⊢
    refine hQ h5 _ _ (slicePick vs.toArray none (some (n : Int)) none).toList (fun b o e => k5 _ _ (k4 _ _ (K3 _ _ e))) ?_ (by simpa using n5) ?_
    · cases e : s.heap.get? (h4.objs.size + 1) with
      | none => rfl
      | some o => exact absurd (Heap.lt_size (k4 _ _ (K3 _ _ e))) (Nat.not_lt.mpr (Nat.le_succ _))
    · have := slice_ints_uptoW i4 (y := (n : Int)) (by omega)
      rw [Int.toNat_natCast, ← List.map_take] at this
      exact this
  rw [decide_eq_false (by omega)]
  simp only [Bool.false_eq_true, if_false]
  refine wpAny_execs_nil ?_
  refine wpAny_execs_nil ?_
  dsimp only
  refine wpAny_execs_cons ?_
  refine wpAny_If ?_
  refine wpAny_isTrue_Compare1 ?_
  refine nmC c3 ?_ rfl
  refine wpAny_Constant_none ?_
  refine is_none_ne (by intro e; cases e) ?_
  refine wpAny_truthy_bool ?_
  rw [if_neg Bool.false_ne_true]
  refine wpAny_execs_nil ?_
  dsimp only
  refine nl_fill (H := s.heap) (L := s.heap.objs.size) C (R1.le (by decide)) N3 K3 fL rfl rfl c3 fc hl hi hm (by omega) hkey ?_
  intro h4 tk4 D I f mm4 N4 en er ei D4 hf I4 c4 K4 fD fI DL IL DI
  refine nl_loop (Q := Q) C (R1.le (by decide)) N4 K4 fL en er ei c4 hl hi hm (by omega) hkey D4 hf I4 fD fI DL IL DI ?_ ?_
  · intro h0 h' tk K' D'
    subst h0
    exact hQ h' tk D [] K' fD D' (by rw [List.take_zero]; exact .nil)
  intro h5 tk5 g mm5 r D' N5 er5 D5 X5 K5 hpos S5
  exact nl_end C (R1.le (by decide)) N5 K5 er5 D5 X5 (by omega) hm (by omega) fD DL S5 hQ
end
end Mine
namespace Mine
open PySem PySem.W PyProof.Rows
noncomputable def fd165 : FuncData := Subtype.val (p := fun x => x = fdOf 165) (by
  refine ⟨?_, ?_⟩
  rotate_left
  · conv => rhs; whnf)
theorem fn165 (w : World) : (HK w).lookup 165 = some { cls := .type "function", data := .func fd165 } := by kernel_rfl

/-- the table of the law's own code: the places in ds are taken -/
noncomputable def TB (h : Heap) (ds : List (Int × Int)) : Prop := ∃ ps, h.get? 162 = some (tabObj ps) ∧ TriplesOk ps.toList ∧ ∀ pos : Pos, ((pos.line : Int), (pos.col : Int)) ∉ ds → codeAmong pos ps.toList = none
theorem TB.at {h h' : Heap} {ds : List (Int × Int)} (x : TB h ds) (k : ∀ o, h.get? 162 = some o → h'.get? 162 = some o) : TB h' ds := let ⟨ps, a, b⟩ := x; ⟨ps, k _ a, b⟩
theorem TB.none {h : Heap} (e : h.get? 162 = some (tabObj #[])) : TB h [] := ⟨#[], e, trivial, fun _ _ => rfl⟩
theorem among_snoc_none {pos : Pos} {a b : Int} {c : Value} (l : List Value) (h : TriplesOk l) (hn : codeAmong pos l = none) (hne : ¬ (a = pos.line ∧ b = pos.col)) : codeAmong pos (l ++ [rawInt a, rawInt b, c]) = none := by
  fun_induction TriplesOk l with
  | case1 =>
    simp only [List.nil_append, codeAmong, rawInt]
    rw [if_neg]
    simpa using hne
  | case2 a' t b' u x rest ih =>
    simp only [List.cons_append, codeAmong] at hn ⊢
    split at hn
    · cases hn
    · rename_i hc; rw [if_neg hc]; exact ih h hn
  | case3 l h1 h2 => exact h.elim

theorem ns_ne_tab {h : Heap} {a P : Addr} {m : Str → Option Value} {ps : Array Value} (N : h.Ns a m) (e : h.get? P = some (tabObj ps)) : a ≠ P := fun q => by
  obtain ⟨o, es, ep, g, d, _⟩ := N
  rw [q, e] at g; cases g; cases d
theorem noTab (w : World) : (HK w).lookup 162 = none := by kernel_rfl
theorem Cx.but {w : World} {mg mb : Str → Option Value} {h h' : Heap} {ps : Array Value} (C : Cx w mg mb h) (e : h.get? 162 = some (tabObj ps)) (x : Heap.ExtBut 162 h h') : Cx w mg mb h' where
  k := fun a o q => x a o (fun e' => by rw [e', noTab w] at q; cases q) (C.k a o q)
  g := C.g.extBut x (ns_ne_tab C.g e)
  b := C.b.extBut x (ns_ne_tab C.b e)
  bt := C.bt
  lim := let ⟨mc, a, b⟩ := C.lim; ⟨mc, a.extBut x (ns_ne_tab a e), b⟩
  dig := let ⟨mc, a, b⟩ := C.dig; ⟨mc, a.extBut x (ns_ne_tab a e), b⟩
  bm := by
    obtain ⟨bm, ob, a, b, c, d, r⟩ := C.bm
    refine ⟨bm, ob, a, b, x _ _ (fun q => ?_) c, d, r⟩
    rw [q, e] at c; cases c; cases d
theorem lawHd {w : World} {mg mb : Str → Option Value} {h : Heap} (C : Cx w mg mb h) : CodeHd h 164 162 := codeHd_of_K C.k (by kernel_rfl)

section
variable {prog : Program} {w : World} {A : Around} {E : Value → Shared → Prop} {s : Shared} {mg mb : Str → Option Value}
theorem lamEval {L : Addr} {params : Arguments} {body : Expr} {scope : Scope} {pos : Pos} {cl : List (Str × Addr)} {ds : List (Int × Int)} {Q : Value → Shared → Prop} (C : Cx w mg mb s.heap) (T : TB s.heap ds)
    (hcl : closureFor scope (callEnvC fd165 L 165) = pure cl) (hdef : defaultsOf params (callEnvC fd165 L 165) = ([], [])) (hp : ((pos.line : Int), (pos.col : Int)) ∉ ds)
    (h : ∀ h' f c' ctv tk pm, Heap.ExtBut 162 s.heap h' → s.heap.get? f = none → h'.get? f = some (kla_obj "<lambda>" ((callEnvC fd165 L 165).qual ++ "<lambda>") params body scope cl pm c' ctv) → h'.CodeRec (.ref c') ((callEnvC fd165 L 165).qual ++ "<lambda>") →
      TB h' (((pos.line : Int), (pos.col : Int)) :: ds) → Cx w mg mb h' → Q (.ref f) { s with heap := h', toks := tk }) :
    wpAny (model prog w) A (eval (.Lambda params body scope pos) (callEnvC fd165 L 165)) Q E s := by
  obtain ⟨ps, e, ok, fr⟩ := T
  have hgP : mainGlobals ≠ 162 := ns_ne_tab C.g e
  have hb : s.heap.BuiltinsAt mg 162 := by
    obtain ⟨bm, ob, b1, b2, b3, b4, b5, b6⟩ := C.bm
    refine ⟨bm, ob, b1, b2, fun q => ?_, fun q => ?_, b3, b4, b5, b6⟩
    · obtain ⟨o, es, ep, g, d, _⟩ := C.g
      rw [← q, b3] at g; cases g; rw [b6] at d; cases d
    · rw [q, e] at b3; cases b3; cases b4
  refine kla_eval hdef ?_
  refine kla_makeFunction (c := 164) (P := 162) (mg := mg) hcl rfl C.g rfl (lawHd C) e ok (fr _ hp) hgP hb fun c' ctv h' tk hx hge hlt hrec htb => ?_
  have hx' : Heap.ExtBut 162 s.heap (h'.push (kla_obj "<lambda>" ((callEnvC fd165 L 165).qual ++ "<lambda>") params body scope cl ((mg "__name__").getD .none) c' ctv)) := fun b o hb e => Heap.get?_push_of_some _ (hx b o hb e)
  refine h _ h'.objs.size c' ctv tk _ hx' (Heap.get?_none_of_le (Nat.le_of_lt (Nat.lt_of_le_of_lt hge hlt))) (Heap.get?_push_size _ rfl) (hrec.keeps fun b o e => Heap.get?_push_of_some _ e) ?_ (C.but e hx')
  refine ⟨_, Heap.get?_push_of_some _ htb, ?_, ?_⟩
  · rw [Array.toList_append]
    exact TriplesOk_snoc _ _ _ _ ok
  · intro pos' hne
    rw [Array.toList_append]
    rw [List.mem_cons, not_or] at hne
    refine among_snoc_none _ ok (fr _ hne.2) fun q => hne.1 ?_
    rw [← q.1, ← q.2]
theorem lamCall {f : Addr} {qual : Str} {params : Arguments} {body : Expr} {scope : Scope} {cl : List (Str × Addr)} {pm ctv : Value} {c' : Addr} {pos : List Value} {n : Nat} {Q : Value → Shared → Prop} (binds : List (Str × Value)) (R : Rm A (n + 1)) (C : Cx w mg mb s.heap)
    (ho : s.heap.get? f = some (kla_obj "<lambda>" qual params body scope cl pm c' ctv)) (hcd : s.heap.CodeRec (.ref c') qual)
    (hbind : bindArgs (kla_fn "<lambda>" qual params body scope cl pm (.ref c') ctv) ⟨pos, []⟩ = pure binds) (hloc : ∀ y ∈ binds, scope.names.lookup y.1 = some .local) (hcell : ∀ x ∈ scope.names, x.2 ≠ .cell)
    (h : ∀ h1, h1.Ns s.heap.objs.size (fun y => binds.reverse.lookup y) → Keep s.heap h1 → Cx w mg mb h1 → Rm (A.deeper (envX qual scope s.heap.objs.size f (.ref c') cl)) n →
      wpAny (model prog w) (A.deeper (envX qual scope s.heap.objs.size f (.ref c') cl)) (eval body (envX qual scope s.heap.objs.size f (.ref c') cl)) Q (fun _ _ => False) { s with heap := h1, toks := s.toks + binds.length })
    (hco : scope.isCoroutine = false := by rfl) (hgen : scope.isGenerator = false := by rfl) (hk : scope.kind = .function := by rfl) :
    wpAny (model prog w) A (call (.ref f) pos) Q E s := by
  refine wpAny_call ?_
  refine kla_callFunE R.depth ho rfl hco hgen rfl hcd ?_
  rw [hbind]
  refine wpAny_pure (wpAny_newFunctionEnv hcell hloc (fun h1 hns hsb => ⟨C.lim.fresh _ hsb, ?_⟩) hk)
  have k1 : Keep s.heap h1 := fun b o e => hsb.extBut b o (Nat.ne_of_lt (Heap.lt_size e)) (Heap.get?_push_of_some _ e)
  show codeAny _ _ (.expr body (envX qual scope s.heap.objs.size f (.ref c') cl)) _ _
  exact kla_codeExpr (wpAny_mono (h h1 hns k1 (C.keeps k1) R.deeper) (fun v s' q => q) fun _ _ x => x.elim)
end
end Mine
namespace Mine
open PySem PySem.W PyProof.Rows
noncomputable def dC : Nat → Int := fun _ => 0
theorem getD_some {cs : List (Nat → Int)} {i : Nat} (h : i < cs.length) : cs[i]? = some (cs.getD i dC) := by
  rw [List.getD_eq_getElem?_getD, List.getElem?_eq_getElem h]; rfl
noncomputable abbrev lamParams (p : Pos) : Arguments := { posonlyargs := [], args := [{ arg := Str.ofString "i", annotation := none, pos := p }], vararg := none, kwonlyargs := [], kw_defaults := [], kwarg := none, defaults := [] }
noncomputable abbrev lamBody (fn xs : String) (p1 p2 p3 p4 p5 : Pos) : Expr := .Call (.Name (Str.ofString fn) p1) [.Subscript (.Name (Str.ofString xs) p2) (.Name (Str.ofString "i") p3) p4] [] p5
noncomputable abbrev lamScope (fn xs : String) : Scope := { kind := .function, names := [(Str.ofString "i", .local), (Str.ofString xs, .free), (Str.ofString fn, .globalImplicit)], isGenerator := false, isCoroutine := false, more := [] }
noncomputable abbrev tpOf (c : Nat → Int) : List Int := [c 3, c 1, c 2, c 4, c 5, c 6, 0, 1, -1]
/-- texts of letters -/
structure Txts (cs : List (Nat → Int)) (ts : List Value) : Prop where
  len : ts.length = cs.length
  at' : ∀ i, i < cs.length → ∃ t, ts[i]? = some (.str (txt (cs.getD i dC)) t)
section
variable {prog : Program} {w : World} {A : Around} {E : Value → Shared → Prop} {s : Shared} {mg mb : Str → Option Value} {B : Heap} {f c' cL LT TX : Addr} {qual : Str} {pm ctv : Value} {p p1 p2 p3 p4 p5 : Pos} {us ts : List Value} {cs : List (Nat → Int)} {S : List Addr}
theorem keyTime (C : Cx w mg mb B) (ho : B.get? f = some (kla_obj "<lambda>" qual (lamParams p) (lamBody "_law_by_time" "letters" p1 p2 p3 p4 p5) (lamScope "_law_by_time" "letters") [(Str.ofString "letters", cL)] pm c' ctv)) (hcd : B.CodeRec (.ref c') qual)
    (hc : B.IsCell cL (some (.ref LT))) (hl : B.PlainList LT us.toArray) (hL : Ltrs B S us cs) (hz : cs.length < 64) : KeyC prog w B f (fun i => timeOf (cs.getD i dC)) 20 cs.length where
  fn := ⟨_, _, ho, rfl⟩
  call := by
    intro A' s' i t R k hi
    obtain ⟨a, ha, la, _, _⟩ := hL.at (getD_some hi)
    refine lamCall (n := 19) [(Str.ofString "i", .int (i : Int) t)] R (C.keeps k) (k _ _ ho) (hcd.keeps k) rfl (by intro y hy; rw [List.mem_singleton] at hy; subst hy; rfl) (by decide) ?_
    intro h1 N1 k1 C1 R1
    have kk : Keep B h1 := fun b o e => k1 _ _ (k _ _ e)
    refine Call_ ?_
    refine nmG (v := .ref 160) C1 (by kernel_rfl) ?_
    refine callWith_def (o := { cls := .type "function", data := .func fd160 }) rfl ?_
    refine args_cons ?_
    refine Subscript_ ?_
    refine nmF (cell_keep hc kk) ?_ rfl
    refine nmL N1 rfl ?_
    refine itemL i (plain_keep hl kk) (x := .ref a) (by rw [List.getElem?_toArray]; exact ha) (by omega) ?_
    refine args_nil ?_
    refine ⟨C1.k _ _ (fn160 w), ?_⟩
    refine by_time_spec C1 (R1.le (by decide)) (la.keeps kk) ?_
    intro h2 tk2 b vs k2 f2 g2 i2
    dsimp only at k2 f2 ⊢
    refine ⟨b, _, h2, tk2, rfl, rfl, fun b o e => k2 _ _ (k1 _ _ e), ?_, g2, rfl, vs, 0, rfl, i2⟩
    cases e : s'.heap.get? b with
    | none => rfl
    | some o => exact absurd (Heap.lt_size (k1 _ _ e)) (Nat.not_lt.mpr f2)
theorem keyLetters (C : Cx w mg mb B) (ho : B.get? f = some (kla_obj "<lambda>" qual (lamParams p) (lamBody "_law_by_letters" "letters" p1 p2 p3 p4 p5) (lamScope "_law_by_letters" "letters") [(Str.ofString "letters", cL)] pm c' ctv)) (hcd : B.CodeRec (.ref c') qual)
    (hc : B.IsCell cL (some (.ref LT))) (hl : B.PlainList LT us.toArray) (hL : Ltrs B S us cs) (hz : cs.length < 64) :
    ∀ (A' : Around) (s' : Shared) (i : Nat) (t : Tok), Rm A' 20 → Keep B s'.heap → i < cs.length → wpAny (model prog w) A' (call (.ref f) [.int (i : Int) t]) (KeyBack (fun j => LObj (lettersOf (cs.getD j dC))) i s') (fun _ _ => False) s' := by
  intro A' s' i t R k hi
  obtain ⟨a, ha, la, oka, _⟩ := hL.at (getD_some hi)
  refine lamCall (n := 19) [(Str.ofString "i", .int (i : Int) t)] R (C.keeps k) (k _ _ ho) (hcd.keeps k) rfl (by intro y hy; rw [List.mem_singleton] at hy; subst hy; rfl) (by decide) ?_
  intro h1 N1 k1 C1 R1
  have kk : Keep B h1 := fun b o e => k1 _ _ (k _ _ e)
  refine Call_ ?_
  refine nmG (v := .ref 153) C1 (by kernel_rfl) ?_
  refine callWith_def (o := { cls := .type "function", data := .func fd153 }) rfl ?_
  refine args_cons ?_
  refine Subscript_ ?_
  refine nmF (cell_keep hc kk) ?_ rfl
  refine nmL N1 rfl ?_
  refine itemL i (plain_keep hl kk) (x := .ref a) (by rw [List.getElem?_toArray]; exact ha) (by omega) ?_
  refine args_nil ?_
  refine ⟨C1.k _ _ (fn153 w), ?_⟩
  refine by_letters_spec C1 (R1.le (by decide)) (la.keeps kk) oka ?_
  intro h2 tk2 b vs k2 f2 g2 i2
  dsimp only at k2 f2 ⊢
  obtain ⟨n, g2⟩ := g2
  refine ⟨b, _, h2, tk2, rfl, rfl, fun b o e => k2 _ _ (k1 _ _ e), ?_, g2, vs, n, rfl, i2⟩
  cases e : s'.heap.get? b with
  | none => rfl
  | some o => exact absurd (Heap.lt_size (k1 _ _ e)) (Nat.not_lt.mpr f2)
theorem keyParse (C : Cx w mg mb B) (ho : B.get? f = some (kla_obj "<lambda>" qual (lamParams p) (lamBody "parsedate" "texts" p1 p2 p3 p4 p5) (lamScope "parsedate" "texts") [(Str.ofString "texts", cL)] pm c' ctv)) (hcd : B.CodeRec (.ref c') qual)
    (hc : B.IsCell cL (some (.ref TX))) (hl : B.PlainList TX ts.toArray) (hT : Txts cs ts) (hok : ∀ i, i < cs.length → Okc (cs.getD i dC)) (hz : cs.length < 64) : KeyC prog w B f (fun i => tpOf (cs.getD i dC)) 20 cs.length where
  fn := ⟨_, _, ho, rfl⟩
  call := by
    intro A' s' i t R k hi
    obtain ⟨tt, ht⟩ := hT.at' i hi
    refine lamCall (n := 19) [(Str.ofString "i", .int (i : Int) t)] R (C.keeps k) (k _ _ ho) (hcd.keeps k) rfl (by intro y hy; rw [List.mem_singleton] at hy; subst hy; rfl) (by decide) ?_
    intro h1 N1 k1 C1 R1
    have kk : Keep B h1 := fun b o e => k1 _ _ (k _ _ e)
    refine Call_ ?_
    refine nmG (v := .ref 38) C1 (by kernel_rfl) ?_
    refine callWith_def (o := { cls := .type "function", data := .func fd38 }) rfl ?_
    refine args_cons ?_
    refine Subscript_ ?_
    refine nmF (cell_keep hc kk) ?_ rfl
    refine nmL N1 rfl ?_
    refine itemL i (plain_keep hl kk) (x := .str _ tt) (by rw [List.getElem?_toArray]; exact ht) (by omega) ?_
    refine args_nil ?_
    refine ⟨C1.k _ _ (fn38 w), ?_⟩
    refine pd_spec C1 (R1.le (by decide)) (hok i hi) ?_
    intro h2 tk2 b vs k2 f2 g2 i2
    dsimp only at k2 f2 ⊢
    refine ⟨b, _, h2, tk2, rfl, rfl, fun b o e => k2 _ _ (k1 _ _ e), ?_, g2, rfl, vs, 0, rfl, i2⟩
    cases e : s'.heap.get? b with
    | none => rfl
    | some o => rw [k1 _ _ e] at f2; cases f2
end
end Mine
namespace Mine
open PySem PySem.W PyProof.Rows

/-- signs against ints: the same order -/
structure Rel (X X' : List Nat) (N N' : List Int) : Prop where
  lt : X < X' ↔ lexLt N N' = true
  eq : X = X' ↔ N = N'
structure Blk (x x' : List Nat) (a a' : Int) : Prop where
  len : x.length = x'.length
  lt : x < x' ↔ a < a'
  eq : x = x' ↔ a = a'
theorem lt_append : ∀ {x x' y y' : List Nat}, x.length = x'.length → (x ++ y < x' ++ y' ↔ x < x' ∨ (x = x' ∧ y < y'))
  | [], [], y, y', _ => by simp
  | [], _ :: _, _, _, h => by simp at h
  | _ :: _, [], _, _, h => by simp at h
  | a :: x, b :: x', y, y', h => by
    have h' : x.length = x'.length := by simpa using h
    rw [List.cons_append, List.cons_append, List.cons_lt_cons_iff, List.cons_lt_cons_iff, lt_append h', List.cons.injEq]
    constructor
    · rintro (h1 | ⟨h1, h2 | ⟨h2, h3⟩⟩)
      · exact .inl (.inl h1)
      · exact .inl (.inr ⟨h1, h2⟩)
      · exact .inr ⟨⟨h1, h2⟩, h3⟩
    · rintro ((h1 | ⟨h1, h2⟩) | ⟨⟨h1, h2⟩, h3⟩)
      · exact .inl h1
      · exact .inr ⟨h1, .inl h2⟩
      · exact .inr ⟨h1, .inr ⟨h2, h3⟩⟩
theorem lexLt_cons (a a' : Int) (N N' : List Int) : lexLt (a :: N) (a' :: N') = true ↔ a < a' ∨ (a = a' ∧ lexLt N N' = true) := by
  conv => lhs; unfold lexLt
  by_cases h : a = a'
  · rw [if_pos h]
    constructor
    · exact fun e => .inr ⟨h, e⟩
    · rintro (e | ⟨_, e⟩)
      · omega
      · exact e
  · rw [if_neg h, decide_eq_true_iff]
    constructor
    · exact .inl
    · rintro (e | ⟨e, _⟩)
      · exact e
      · exact absurd e h
theorem Rel.nil : Rel [] [] [] [] := ⟨by simp [lexLt], by simp⟩
theorem Rel.blk {x x' X X' : List Nat} {a a' : Int} {N N' : List Int} (b : Blk x x' a a') (r : Rel X X' N N') : Rel (x ++ X) (x' ++ X') (a :: N) (a' :: N') where
  lt := by rw [lt_append b.len, lexLt_cons, b.lt, b.eq, r.lt]
  eq := by
    rw [List.cons.injEq, ← b.eq, ← r.eq]
    constructor
    · exact fun h => List.append_inj h b.len
    · rintro ⟨h1, h2⟩; rw [h1, h2]
theorem Rel.sep {p X X' : List Nat} {N N' : List Int} (r : Rel X X' N N') : Rel (p ++ X) (p ++ X') N N' where
  lt := by
    rw [lt_append rfl, ← r.lt]
    constructor
    · rintro (h | ⟨_, h⟩)
      · exact absurd h (List.lt_irrefl _)
      · exact h
    · exact fun h => .inr ⟨rfl, h⟩
  eq := by rw [List.append_cancel_left_eq, r.eq]
theorem lt_div (n m : Nat) : (n / 10 < m / 10 ∨ (n / 10 = m / 10 ∧ n % 10 < m % 10)) ↔ n < m := by
  constructor
  · rintro (h | ⟨h, h'⟩)
    · omega
    · omega
  · intro h
    rcases Nat.lt_or_ge (n / 10) (m / 10) with h' | h'
    · exact .inl h'
    · exact .inr ⟨by omega, by omega⟩
theorem eq_div (n m : Nat) : (n / 10 = m / 10 ∧ n % 10 = m % 10) ↔ n = m :=
  ⟨fun h => by rw [← Nat.div_add_mod n 10, ← Nat.div_add_mod m 10, h.1, h.2], fun h => by rw [h]; exact ⟨rfl, rfl⟩⟩
theorem one_lt (a b : Nat) : [48 + a] < [48 + b] ↔ a < b := by
  rw [List.cons_lt_cons_iff]
  exact ⟨fun h => h.elim (Nat.lt_of_add_lt_add_left) (fun h => absurd h.2 (List.lt_irrefl _)), fun h => .inl (Nat.add_lt_add_left h 48)⟩
theorem one_eq (a b : Nat) : [48 + a] = [48 + b] ↔ a = b := ⟨fun h => Nat.add_left_cancel (List.cons.inj h).1, fun h => by rw [h]⟩
theorem Blk.snoc {x x' : List Nat} {n m : Nat} (b : Blk x x' (n / 10 : Nat) (m / 10 : Nat)) : Blk (x ++ [48 + n % 10]) (x' ++ [48 + m % 10]) (n : Int) (m : Int) where
  len := by rw [List.length_append, List.length_append, b.len]; rfl
  lt := by rw [lt_append b.len, b.lt, b.eq, one_lt, Int.ofNat_lt, Int.ofNat_inj, Int.ofNat_lt, lt_div]
  eq := by
    rw [Int.ofNat_inj, ← eq_div, ← Int.ofNat_inj, ← b.eq, ← one_eq]
    exact ⟨fun h => List.append_inj h b.len, fun h => by rw [h.1, h.2]⟩
theorem blk0 : Blk [] [] (0 : Nat) (0 : Nat) := ⟨rfl, by simp, by simp⟩
theorem blk1 {n m : Nat} (hn : n < 10) (hm : m < 10) : Blk [48 + n % 10] [48 + m % 10] (n : Int) (m : Int) :=
  Blk.snoc (x := []) (x' := []) (by rw [Nat.div_eq_of_lt hn, Nat.div_eq_of_lt hm]; exact blk0)
theorem blk2 {n m : Nat} (hn : n < 100) (hm : m < 100) : Blk [48 + n / 10 % 10, 48 + n % 10] [48 + m / 10 % 10, 48 + m % 10] (n : Int) (m : Int) :=
  Blk.snoc (x := [48 + n / 10 % 10]) (x' := [48 + m / 10 % 10]) (blk1 (by omega) (by omega))
theorem blk4 {n m : Nat} (hn : n < 10000) (hm : m < 10000) : Blk [48 + n / 10 / 10 / 10 % 10, 48 + n / 10 / 10 % 10, 48 + n / 10 % 10, 48 + n % 10] [48 + m / 10 / 10 / 10 % 10, 48 + m / 10 / 10 % 10, 48 + m / 10 % 10, 48 + m % 10] (n : Int) (m : Int) :=
  Blk.snoc (x := [48 + n / 10 / 10 / 10 % 10, 48 + n / 10 / 10 % 10, 48 + n / 10 % 10]) (x' := [48 + m / 10 / 10 / 10 % 10, 48 + m / 10 / 10 % 10, 48 + m / 10 % 10])
    (Blk.snoc (x := [48 + n / 10 / 10 / 10 % 10, 48 + n / 10 / 10 % 10]) (x' := [48 + m / 10 / 10 / 10 % 10, 48 + m / 10 / 10 % 10]) (blk2 (by omega) (by omega)))
theorem wdB : ∀ k, k < 7 → ∀ j, j < 7 → (([wdC k 0, wdC k 1, wdC k 2] < [wdC j 0, wdC j 1, wdC j 2] ↔ wdR.getD k 0 < wdR.getD j 0) ∧ ([wdC k 0, wdC k 1, wdC k 2] = [wdC j 0, wdC j 1, wdC j 2] ↔ wdR.getD k 0 = wdR.getD j 0)) := by decide +kernel
theorem moB : ∀ k, k < 12 → ∀ j, j < 12 → (([moC k 0, moC k 1, moC k 2] < [moC j 0, moC j 1, moC j 2] ↔ moR.getD k 0 < moR.getD j 0) ∧ ([moC k 0, moC k 1, moC k 2] = [moC j 0, moC j 1, moC j 2] ↔ moR.getD k 0 = moR.getD j 0)) := by decide +kernel
theorem zoneR {a b a' b' : Int} (h1 : 0 ≤ a ∧ a < 24) (h2 : 0 ≤ b ∧ b < 60) (h3 : 0 ≤ a' ∧ a' < 24) (h4 : 0 ≤ b' ∧ b' < 60) :
    Rel [48 + (100 * a + b).toNat / 10 / 10 / 10 % 10, 48 + (100 * a + b).toNat / 10 / 10 % 10, 48 + (100 * a + b).toNat / 10 % 10, 48 + (100 * a + b).toNat % 10]
      [48 + (100 * a' + b').toNat / 10 / 10 / 10 % 10, 48 + (100 * a' + b').toNat / 10 / 10 % 10, 48 + (100 * a' + b').toNat / 10 % 10, 48 + (100 * a' + b').toNat % 10] [a, b] [a', b'] := by
  have B := blk4 (n := (100 * a + b).toNat) (m := (100 * a' + b').toNat) (by omega) (by omega)
  rw [Int.toNat_of_nonneg (by omega), Int.toNat_of_nonneg (by omega)] at B
  refine ⟨?_, ?_⟩
  · rw [B.lt, lexLt_cons, lexLt_cons]
    simp only [lexLt, Bool.false_eq_true, and_false, or_false]
    constructor
    · intro h
      rcases Int.lt_trichotomy a a' with e | e | e
      · exact .inl e
      · exact .inr ⟨e, by omega⟩
      · omega
    · rintro (e | ⟨e, e'⟩) <;> omega
  · rw [B.eq, List.cons.injEq, List.cons.injEq]
    exact ⟨fun h => ⟨by omega, by omega, rfl⟩, fun h => by rw [h.1, h.2.1]⟩
theorem signB {a a' : Int} (h : 0 ≤ a ∧ a < 2) (h' : 0 ≤ a' ∧ a' < 2) : Blk [if a = 0 then 43 else 45] [if a' = 0 then 43 else 45] a a' where
  len := rfl
  lt := by
    simp only [List.cons_lt_cons_iff, List.lt_irrefl, and_false, or_false]
    split <;> split <;> omega
  eq := by
    simp only [List.cons.injEq, and_true]
    split <;> split <;> omega
theorem blk_of {x x' : List Nat} {a a' b b' : Int} (B : Blk x x' a a') (h : a = b) (h' : a' = b') : Blk x x' b b' := by subst h h'; exact B

theorem tx_rel {c d : Nat → Int} (ok : Okc c) (ok' : Okc d) : Rel (txt c).cps.toList (txt d).cps.toList (lettersOf c) (lettersOf d) := by
  rw [txt_tx ok, txt_tx ok']
  obtain ⟨c0, c1, c2, c3, c4, c5, c6, c7, c8, c9⟩ := ok
  obtain ⟨d0, d1, d2, d3, d4, d5, d6, d7, d8, d9⟩ := ok'
  have W := wdB (c 0).toNat (by omega) (d 0).toNat (by omega)
  have M := moB (c 1 - 1).toNat (by omega) (d 1 - 1).toNat (by omega)
  have R := Rel.blk (signB c7 d7) (zoneR c8 c9 d8 d9)
  have R := Rel.sep (p := [32]) R
  have R := Rel.blk (blk_of (blk2 (n := (c 6).toNat) (m := (d 6).toNat) (by omega) (by omega)) (b := c 6) (b' := d 6) (by omega) (by omega)) R
  have R := Rel.sep (p := [58]) R
  have R := Rel.blk (blk_of (blk2 (n := (c 5).toNat) (m := (d 5).toNat) (by omega) (by omega)) (b := c 5) (b' := d 5) (by omega) (by omega)) R
  have R := Rel.sep (p := [58]) R
  have R := Rel.blk (blk_of (blk2 (n := (c 4).toNat) (m := (d 4).toNat) (by omega) (by omega)) (b := c 4) (b' := d 4) (by omega) (by omega)) R
  have R := Rel.sep (p := [32]) R
  have R := Rel.blk (blk_of (blk4 (n := (c 3).toNat) (m := (d 3).toNat) (by omega) (by omega)) (b := c 3) (b' := d 3) (by omega) (by omega)) R
  have R := Rel.sep (p := [32]) R
  have R := Rel.blk (⟨rfl, M.1, M.2⟩ : Blk [moC (c 1 - 1).toNat 0, moC (c 1 - 1).toNat 1, moC (c 1 - 1).toNat 2] [moC (d 1 - 1).toNat 0, moC (d 1 - 1).toNat 1, moC (d 1 - 1).toNat 2] _ _) R
  have R := Rel.sep (p := [32]) R
  have R := Rel.blk (blk_of (blk2 (n := (c 2).toNat) (m := (d 2).toNat) (by omega) (by omega)) (b := c 2) (b' := d 2) (by omega) (by omega)) R
  have R := Rel.sep (p := [44, 32]) R
  have R := Rel.blk (⟨rfl, W.1, W.2⟩ : Blk [wdC (c 0).toNat 0, wdC (c 0).toNat 1, wdC (c 0).toNat 2] [wdC (d 0).toNat 0, wdC (d 0).toNat 1, wdC (d 0).toNat 2] _ _) R
  exact R
theorem str_toList (x : Str) : x = ⟨x.cps.toList.toArray⟩ := rfl
theorem txt_eq {c d : Nat → Int} (ok : Okc c) (ok' : Okc d) : txt c = txt d ↔ lettersOf c = lettersOf d := by
  rw [← (tx_rel ok ok').eq]
  constructor
  · exact fun h => by rw [h]
  · intro h
    rw [str_toList (txt c), h]
/-- heaps of texts go as the letters -/
theorem lexS_letters {c d : Nat → Int} (ok : Okc c) (ok' : Okc d) (is is' : List Int) : lexS (txt c, is) (txt d, is') = lexX (lettersOf c, is) (lettersOf d, is') := by
  unfold lexS lexX
  dsimp only
  by_cases h : lettersOf c = lettersOf d
  · rw [if_pos h, if_pos ((txt_eq ok ok').mpr h)]
  · rw [if_neg h, if_neg (fun e => h ((txt_eq ok ok').mp e))]
    have := (tx_rel ok ok').lt
    cases hb : lexLt (lettersOf c) (lettersOf d) with
    | true => exact decide_eq_true (this.mpr hb)
    | false => exact decide_eq_false (fun e => by rw [this.mp e] at hb; cases hb)
end Mine
namespace Mine
open PySem PySem.W PyProof.Rows
/-- items by a key, then by the number -/
noncomputable def ltE (K : Nat → List Int) (x y : It) : Bool := lexX (K x.e, [(x.e : Int)]) (K y.e, [(y.e : Int)])
theorem ltE_ord (K : Nat → List Int) : Ord (ltE K) := ⟨fun a b h => lexX_ord.asym _ _ h, fun a b c h1 h2 => lexX_ord.ntr _ _ _ h1 h2⟩
theorem bef_of {K : Nat → List Int} {i j : Nat} (hne : i ≠ j) (h : lexX (K j, [(j : Int)]) (K i, [(i : Int)]) = false) : Bef (fun i j => lexLt (K i) (K j)) i j := by
  unfold lexX at h
  dsimp only at h
  by_cases e : K j = K i
  · rw [if_pos e] at h
    refine ⟨by show lexLt (K j) (K i) = false; rw [e]; exact lex_ord.irr _, fun _ => ?_⟩
    unfold lexLt at h
    rw [if_neg (by omega)] at h
    have := of_decide_eq_false h
    omega
  · rw [if_neg e] at h
    exact ⟨h, fun h2 => absurd (lex_tri _ _ h h2) e⟩
theorem pop_srt {K : Nat → List Int} {f : Nat → It} {n : Nat} (h1 : 1 ≤ n) (H : HeapFrom (ltE K) n 0 f) (hp : ((lf f n).map (·.e)).Perm (List.range n)) :
    (popSeq (ltE K) n f).map (·.e) = srt (fun i j => lexLt (K i) (K j)) n false := by
  obtain ⟨p1, p2⟩ := popSeq_sorted (ltE_ord K) n f H
  have pp : ((popSeq (ltE K) n f).map (·.e)).Perm (List.range n) := (p1.map _).trans hp
  have nd : ((popSeq (ltE K) n f).map (·.e)).Nodup := pp.nodup_iff.mpr List.nodup_range
  refine uniq_sorted (R := Bef (fun i j => lexLt (K i) (K j))) (fun a b => Bef.asym) ?_ (srt_false (key_ord K) h1) (pp.trans (srt_perm (key_ord K) h1 false).symm)
  rw [List.pairwise_map]
  have nd2 : (popSeq (ltE K) n f).Pairwise (fun a b => a.e ≠ b.e) := by
    unfold List.Nodup at nd
    rwa [List.pairwise_map] at nd
  exact (p2.and nd2).imp fun ⟨a, b⟩ => bef_of b a
theorem due_srt {K : Nat → List Int} {n : Nat} (h1 : 1 ≤ n) : srt (fun i j => lexX (K i, [(i : Int)]) (K j, [(j : Int)])) n false = srt (fun i j => lexLt (K i) (K j)) n false := by
  have O : Ord (fun i j => lexX (K i, [(i : Int)]) (K j, [(j : Int)])) := ⟨fun a b h => lexX_ord.asym _ _ h, fun a b c h1 h2 => lexX_ord.ntr _ _ _ h1 h2⟩
  have pp := srt_perm O h1 false
  have nd := pp.nodup_iff.mpr List.nodup_range
  refine uniq_sorted (R := Bef (fun i j => lexLt (K i) (K j))) (fun a b => Bef.asym) ?_ (srt_false (key_ord K) h1) (pp.trans (srt_perm (key_ord K) h1 false).symm)
  unfold List.Nodup at nd
  exact ((srt_false O h1).and nd).imp fun ⟨a, b⟩ => bef_of b a.1
end Mine
namespace Mine
open PySem PySem.W PyProof.Rows
/-- no plain list lies at x -/
noncomputable def NoList (h : Heap) (x : Addr) : Prop := ∀ xs, ¬ h.PlainList x xs
theorem NoList.fresh {h : Heap} {x : Addr} (e : h.get? x = none) : NoList h x := fun xs ⟨n, g⟩ => by rw [e] at g; cases g
theorem NoList.ns {h : Heap} {x : Addr} {m : Str → Option Value} (N : h.Ns x m) : NoList h x := fun xs p => list_ne_ns p N rfl
theorem NoList.cell {h : Heap} {x : Addr} {v : Option Value} (c : h.IsCell x v) : NoList h x := fun xs p => cell_ne_list p c rfl
theorem NoList.tab {h : Heap} {ds : List (Int × Int)} (T : TB h ds) : NoList h 162 := fun xs ⟨n, g⟩ => by
  obtain ⟨ps, e, _⟩ := T
  rw [e] at g; cases g
theorem Ltrs.add {h : Heap} {S : List Addr} {x : Addr} (nx : NoList h x) : ∀ {us : List Value} {cs : List (Nat → Int)}, Ltrs h S us cs → Ltrs h (x :: S) us cs
  | _, _, .nil => .nil
  | _, _, .cons a b c d => .cons a b (fun hm => by
      rcases List.mem_cons.mp hm with e | hm
      · obtain ⟨vs, p, _⟩ := a
        rw [e] at p
        exact nx _ p
      · exact c hm) (d.add nx)
theorem Ltrs.sub {h : Heap} {S S' : List Addr} (hs : ∀ a ∈ S', a ∈ S) : ∀ {us : List Value} {cs : List (Nat → Int)}, Ltrs h S us cs → Ltrs h S' us cs
  | _, _, .nil => .nil
  | _, _, .cons a b c d => .cons a b (fun hm => c (hs _ hm)) (d.sub hs)
theorem Ltrs.ok {h : Heap} {S : List Addr} {us : List Value} {cs : List (Nat → Int)} (L : Ltrs h S us cs) {i : Nat} (hi : i < cs.length) : Okc (cs.getD i dC) := let ⟨_, _, _, o, _⟩ := L.at (getD_some hi); o
theorem cneq (L : Nat) {a b : Nat} (h : a ≠ b) : L + a ≠ L + b := by omega
theorem cne0 (L : Nat) {b : Nat} (h : 0 < b) : L ≠ L + b := by omega

section
variable {prog : Program} {w : World} {A : Around} {E : Value → Shared → Prop} {s : Shared} {mg mb : Str → Option Value}
set_option maxHeartbeats 2000000 in
theorem law_1 {H h : Heap} {L S0 : Addr} {vs : List Value} {ns : List Int} {mm : Str → Option Value} {tk : Nat} {Q : Flow → Shared → Prop}
    (C : Cx w mg mb H) (R : Rm A 50) (N : h.Ns L mm) (K : Keep H h) (fL : H.get? L = none) (fc : ∀ k, 0 < k → H.get? (L + k) = none) (e0 : mm (Str.ofString "script") = some (.ref S0))
    (c1 : h.IsCell (L + 1) none) (c2 : h.IsCell (L + 2) none) (c3 : h.IsCell (L + 3) none) (hl : H.IsList S0 vs.toArray) (hi : IntsAre vs ns) (hn : ns.length ≤ 63) (T : TB h [])
    (next : ∀ h' tk' LT TX us ts cs mm', h'.Ns L mm' → mm' (Str.ofString "script") = some (.ref S0) → Keep H h' → h'.IsCell (L + 1) none → h'.IsCell (L + 2) (some (.ref LT)) → h'.IsCell (L + 3) (some (.ref TX)) →
      h'.PlainList LT us.toArray → Ltrs h' [TX] us cs → 4 ≤ cs.length → cs.length ≤ 10 → h'.PlainList TX ts.toArray → Txts cs ts → TB h' [] →
      wpAny (model prog w) A (execs ((fb fd165).drop 3) (callEnvC fd165 L 165)) Q (fun _ _ => False) { s with heap := h', toks := tk' }) :
    wpAny (model prog w) A (execs ((fb fd165).drop 0) (callEnvC fd165 L 165)) Q (fun _ _ => False) { s with heap := h, toks := tk } := by
  have C1 := C.keeps K
  have keepC : ∀ {k : Nat} {h' : Heap}, 0 < k → Keep H h' → ∀ {h'' : Heap}, Heap.SameBut (L + k) h' h'' → Keep H h'' := fun {k h'} hk k' {h''} s' b o e => (s'.2 b (fun e' => by rw [e', fc _ hk] at e; cases e)).trans (k' b o e)
  refine wpAny_execs_cons ?_
  refine wpAny_Assign_Name ?_
  refine Call_ ?_
  refine nmG (v := .ref 139) C1 (by kernel_rfl) ?_
  refine callWith_def (o := { cls := .type "function", data := .func fd139 }) rfl ?_
  refine args_cons ?_
  refine nmL N e0 ?_
  refine args_nil ?_
  refine ⟨C1.k _ _ (fn139 w), ?_⟩
  refine letters_spec C1 (R.le (by decide)) (hl.at fun o e => K _ o e) hi hn ?_
  intro h2 tk2 LT us cs k2 fLT l2 L2 z4 z10
  dsimp only at k2 fLT ⊢
  have K2 : Keep H h2 := fun b o e => k2 _ _ (K _ _ e)
  have LTL : LT ≠ L := fun e => by obtain ⟨o, g⟩ := ns_some N; exact ne_fresh fLT g e
  have LTc : ∀ k v, h.IsCell (L + k) v → LT ≠ L + k := fun k v c e => by obtain ⟨o, g, _⟩ := c; exact ne_fresh fLT g e
  refine wpAny_storeName_cell rfl rfl rfl (cell_keep c2 k2) ?_
  intro h3 q2 s3
  dsimp only at q2 s3 ⊢
  have K3 := keepC (k := 2) (by decide) K2 s3
  have N3 : h3.Ns L mm := (N.keeps k2).sameBut s3 (cne0 L (b := 2) (by decide))
  have q1 : h3.IsCell (L + 1) none := (cell_keep c1 k2).sameBut s3 (cneq L (a := 1) (b := 2) (by decide))
  have q3 : h3.IsCell (L + 3) none := (cell_keep c3 k2).sameBut s3 (cneq L (a := 3) (b := 2) (by decide))
  have l3 : h3.PlainList LT us.toArray := plain_same l2 s3 (LTc 2 _ c2)
  have T3 : TB h3 [] := T.at fun o e => (s3.2 _ (fun e' => by
    obtain ⟨o, g, d⟩ := c2
    obtain ⟨ps, g', _⟩ := T
    rw [e', g] at g'; cases g'; cases d)).trans (k2 _ _ e)
  have L3 : Ltrs h3 [] us cs := ((L2.add (NoList.cell (cell_keep c2 k2))).mono (Kp.refl.same (a := L + 2) s3 (by simp))).sub (by simp)
  refine wpAny_execs_cons ?_
  refine wpAny_Assign_Name ?_
  refine List_ ?_
  refine args_nil ?_
  refine mkList ?_
  intro h4 k4 n4 z4'
  dsimp only at k4 n4 z4' ⊢
  have fTX : h3.get? h3.objs.size = none := fresh_none
  have L4 : Ltrs h4 [h3.objs.size] us cs := (L3.add (NoList.fresh fTX)).keep k4
  generalize h3.objs.size = TX at fTX n4 L4
  have TXL : TX ≠ L := fun e => by obtain ⟨o, g⟩ := ns_some N3; exact ne_fresh fTX g e
  have TXLT : TX ≠ LT := fun e => by obtain ⟨o, g⟩ := list_some l3; exact ne_fresh fTX g e
  have TXc : ∀ k v, h3.IsCell (L + k) v → TX ≠ L + k := fun k v c e => by obtain ⟨o, g, _⟩ := c; exact ne_fresh fTX g e
  have TXP : TX ≠ 162 := fun e => by obtain ⟨ps, g, _⟩ := T3; exact ne_fresh fTX g e
  refine wpAny_storeName_cell rfl rfl rfl (cell_keep q3 k4) ?_
  intro h5 r3 s5
  dsimp only at r3 s5 ⊢
  have K4 : Keep H h4 := fun b o e => k4 _ _ (K3 _ _ e)
  have K5 := keepC (k := 3) (by decide) K4 s5
  have N5 : h5.Ns L mm := (N3.keeps k4).sameBut s5 (cne0 L (b := 3) (by decide))
  have r1 : h5.IsCell (L + 1) none := (cell_keep q1 k4).sameBut s5 (cneq L (a := 1) (b := 3) (by decide))
  have r2 : h5.IsCell (L + 2) (some (.ref LT)) := (cell_keep q2 k4).sameBut s5 (cneq L (a := 2) (b := 3) (by decide))
  have l5 : h5.PlainList LT us.toArray := plain_same (plain_keep l3 k4) s5 (LTc 3 _ c3)
  have n5 : h5.PlainList TX #[] := plain_same n4 s5 (TXc 3 _ q3)
  have P3 : (162 : Addr) ≠ L + 3 := fun e' => by
    obtain ⟨o, g, d⟩ := q3
    obtain ⟨ps, g', _⟩ := T3
    rw [e', g] at g'; cases g'; cases d
  have T5 : TB h5 [] := T3.at fun o e => (s5.2 _ P3).trans (k4 _ _ e)
  have L5 : Ltrs h5 [TX] us cs := ((L4.add (NoList.cell (cell_keep q3 k4))).mono (Kp.refl.same (a := L + 3) s5 (by simp))).sub (by simp)
  have C5 := C.keeps K5
  refine wpAny_execs_cons ?_
  refine wpAny_For ?_
  refine nmC r2 ?_ rfl
  refine wpAny_pyIter_list l5.isList ?_
  dsimp only
  generalize hH6 : h5.push { cls := Value.type "list_iterator", data := Data.fields #[Value.ref LT, Value.int 0 0] } = h6
  have k6 : Keep h5 h6 := fun b o e => by rw [← hH6]; exact Heap.get?_push_of_some _ e
  have I6 : h6.IsListIter h5.objs.size LT 0 := by rw [← hH6]; exact ⟨_, Heap.get?_push_size _ rfl, rfl, rfl⟩
  have fI : h5.get? h5.objs.size = none := fresh_none
  generalize h5.objs.size = I at I6 fI
  have IL : I ≠ L := fun e => by obtain ⟨o, g⟩ := ns_some N5; exact ne_fresh fI g e
  have ILT : I ≠ LT := fun e => by obtain ⟨o, g⟩ := list_some l5; exact ne_fresh fI g e
  have ITX : I ≠ TX := fun e => by obtain ⟨o, g⟩ := list_some n5; exact ne_fresh fI g e
  have Ic : ∀ k v, h5.IsCell (L + k) v → L + k ∉ [L, TX, I] := fun k v c => by
    have a1 : L + k ≠ I := fun e => by obtain ⟨o, g, _⟩ := c; exact ne_fresh fI g e.symm
    have a2 : L + k ≠ TX := fun e => cell_ne_list n5 c e.symm
    exact nin3 (cell_ne_ns c N5) a2 a1
  have IP : (162 : Addr) ∉ [L, TX, I] := by
    obtain ⟨ps, g, _⟩ := T5
    refine nin3 (fun e => ns_ne_tab N5 g e.symm) TXP.symm (fun e => ne_fresh fI g e.symm)
  have IH : ∀ b o, H.get? b = some o → b ∉ [L, TX, I] := fun b o e => nin3 (fun e' => by rw [e', fL] at e; cases e) (fun e' => by rw [e'] at e; rw [K3 _ _ e] at fTX; cases fTX) (fun e' => by rw [e'] at e; rw [K5 _ _ e] at fI; cases fI)
  have L6 : Ltrs h6 [L, TX, I] us cs := (((L5.add (NoList.fresh fI)).add (NoList.ns N5)).keep k6).sub (by simp)
  have LTS : LT ∉ [L, TX, I] := nin3 LTL TXLT.symm ILT.symm
  have ulen : us.length = cs.length := L5.length
  obtain ⟨Inv, hInv⟩ : ∃ Inv : Nat → Shared → Prop, ∀ k s', Inv k s' ↔ (∃ (h : Heap) (tk : Nat) (mc : Str → Option Value) (i : Nat) (ts : List Value), s' = { s with heap := h, toks := tk } ∧ h.Ns L mc ∧ mc (Str.ofString "script") = some (.ref S0) ∧
      h.PlainList TX ts.toArray ∧ ts.length = i ∧ (∀ j, j < i → ∃ t, ts[j]? = some (.str (txt (cs.getD j dC)) t)) ∧ h.IsListIter I LT i ∧ Kp [L, TX, I] h6 h ∧ i + k = cs.length) := ⟨_, fun _ _ => Iff.rfl⟩
  refine codeAny_forLoop Inv ?_ cs.length
    ((hInv _ _).2 ⟨h6, _, _, 0, [], rfl, N5.keeps k6, e0, plain_keep n5 k6, rfl, fun j hj => absurd hj (Nat.not_lt_zero _), I6, Kp.refl, by omega⟩)
  intro k s' hI0
  obtain ⟨h, tk, mc, i, ts, rfl, Nc, ec, hT, hlen, htx, hI, hK, hik⟩ := (hInv _ _).1 hI0
  clear hI0
  have KH : ∀ {h' : Heap}, Kp [L, TX, I] h6 h' → Keep H h' := fun {h'} k' b o e => k' b o (IH b o e) (k6 _ _ (K5 _ _ e))
  have hLT : h.PlainList LT us.toArray := hK.list (plain_keep l5 k6) LTS
  have cellK : ∀ {h' : Heap} {k : Nat} {v : Option Value}, Kp [L, TX, I] h6 h' → h5.IsCell (L + k) v → h'.IsCell (L + k) v := fun {h'} {k v} k' c => cell_at (cell_keep c k6) fun o e => k' _ o (Ic _ _ c) e
  cases k with
  | zero =>
    refine wpAny_pyNext_list_end R.hh hI hLT.isList ?_ ?_
    · rw [List.getElem?_toArray, List.getElem?_eq_none (by omega)]
    intro h7 e7
    dsimp only
    refine wpAny_execs_nil ?_
    dsimp only
    have K7 := hK.ext e7 (by simp)
    refine next h7 _ LT TX us ts cs mc (Nc.extBut e7 IL.symm) ec (KH K7) (cellK K7 r1) (cellK K7 r2) (cellK K7 r3) (hLT.extBut e7 ILT.symm) ((L6.mono K7).sub (by simp)) z4 z10 (hT.extBut e7 ITX.symm) ⟨by omega, fun j hj => htx j (by omega)⟩ (T5.at fun o e => K7 _ o IP (k6 _ _ e))
  | succ k =>
    have hin : i < cs.length := by omega
    obtain ⟨a, ha, la, oka, aS⟩ := (L6.mono hK).at (getD_some hin)
    refine wpAny_pyNext_list_item hI hLT.isList (by rw [List.getElem?_toArray]; exact ha) ?_
    intro h7 I7 s7
    dsimp only at I7 s7 ⊢
    have K7 := hK.same s7 (by simp)
    refine wpAny_assign_Name ?_
    refine stN rfl (Nc.sameBut s7 IL.symm) ?_
    intro h8 tq8 N8 s8
    dsimp only at N8 s8 ⊢
    refine hideR ?_
    intro RQ hRQ
    have K8 := K7.same (a := L) s8 (by simp)
    have T8 : h8.PlainList TX ts.toArray := plain_same (plain_same hT s7 ITX.symm) s8 TXL
    have I8 : h8.IsListIter I LT (i + 1) := I7.extBut s8.extBut IL
    have la8 : IsLtr h8 a (cs.getD i dC) := la.kp ((Kp.refl.same s7 (by simp)).same (a := L) s8 (by simp) : Kp [L, TX, I] h h8) aS
    refine wpAny_execs_cons ?_
    refine wpAny_Assign_Name ?_
    refine Tuple_ ?_
    refine args_cons ?_
    refine Subscript_ ?_
    refine nmL N8 rfl ?_
    refine wpAny_Constant_int ?_
    refine ltrItem (k := 3) la8 (by decide) (fun t3 => ?_)
    refine args_cons ?_
    refine Subscript_ ?_
    refine nmL N8 rfl ?_
    refine wpAny_Constant_int ?_
    refine ltrItem (k := 1) la8 (by decide) (fun t1 => ?_)
    refine args_cons ?_
    refine Subscript_ ?_
    refine nmL N8 rfl ?_
    refine wpAny_Constant_int ?_
    refine ltrItem (k := 2) la8 (by decide) (fun t2 => ?_)
    refine args_cons ?_
    refine Subscript_ ?_
    refine nmL N8 rfl ?_
    refine wpAny_Constant_int ?_
    refine ltrItem (k := 4) la8 (by decide) (fun t4 => ?_)
    refine args_cons ?_
    refine Subscript_ ?_
    refine nmL N8 rfl ?_
    refine wpAny_Constant_int ?_
    refine ltrItem (k := 5) la8 (by decide) (fun t5 => ?_)
    refine args_cons ?_
    refine Subscript_ ?_
    refine nmL N8 rfl ?_
    refine wpAny_Constant_int ?_
    refine ltrItem (k := 6) la8 (by decide) (fun t6 => ?_)
    refine args_cons ?_
    refine Subscript_ ?_
    refine nmL N8 rfl ?_
    refine wpAny_Constant_int ?_
    refine ltrItem (k := 0) la8 (by decide) (fun t0 => ?_)
    refine args_nil ?_
    refine mkTup ?_
    intro h9 k9 g9 z9
    dsimp only at k9 g9 z9 ⊢
    have RL : h8.objs.size ≠ L := (ne_size (ns_some N8)).symm
    have RTX : h8.objs.size ≠ TX := (ne_size (list_some T8)).symm
    have RI : h8.objs.size ≠ I := by obtain ⟨o, g, _⟩ := I8; exact (ne_size ⟨_, g⟩).symm
    refine stN rfl (N8.keeps k9) ?_
    intro h10 tq10 N10 s10
    dsimp only at N10 s10 ⊢
    have K10 : Kp [L, TX, I] h6 h10 := (K8.keep k9).same (a := L) s10 (by simp)
    have row10 : IsTup h10 h8.objs.size _ := tupOf ((s10.2 _ RL).trans g9)
    have la10 : IsLtr h10 a (cs.getD i dC) := (la8.keeps k9).kp (Kp.refl.same (a := L) s10 (by simp) : Kp [L, TX, I] h9 h10) aS
    have C10 := C.keeps (KH K10)
    have T10 : h10.PlainList TX ts.toArray := plain_same (plain_keep T8 k9) s10 TXL
    have I10 : h10.IsListIter I LT (i + 1) := (I8.at fun o e => k9 _ _ e).extBut s10.extBut IL
    refine wpAny_execs_cons ?_
    refine wpAny_Expr ?_
    refine MethodCall_ ?_
    refine nmC (cellK K10 r3) ?_ rfl
    refine methPlain T10 PySem.F.slot_list_append PySem.F.type_list_append ?_
    refine callWith_method1 ?_
    refine args_cons ?_
    refine Call_ ?_
    refine nmG (v := .ref 45) C10 (by kernel_rfl) ?_
    refine callWith_def (o := { cls := .type "function", data := .func fd45 }) rfl ?_
    refine args_cons ?_
    refine nmL N10 rfl ?_
    refine args_cons ?_
    refine Call_ ?_
    refine nmG (v := .ref 146) C10 (by kernel_rfl) ?_
    refine callWith_def (o := { cls := .type "function", data := .func fd146 }) rfl ?_
    refine args_cons ?_
    refine nmL N10 rfl ?_
    refine args_nil ?_
    refine ⟨C10.k _ _ (fn146 w), ?_⟩
    refine zone_spec C10 (R.le (by decide)) la10 oka ?_
    intro h11 tk11 t11 k11
    dsimp only at k11 ⊢
    have K11 := K10.keep k11
    have C11 := C.keeps (KH K11)
    refine args_nil ?_
    refine ⟨C11.k _ _ (fn45 w), ?_⟩
    refine format_spec C11 (R.le (by decide)) (tup_keep row10 k11) (.cons _ _ (.cons _ _ (.cons _ _ (.cons _ _ (.cons _ _ (.cons _ _ (.cons _ _ .nil))))))) oka ?_ ?_
    · show (zoneL _).toArray.size ≤ 1000000
      rw [List.size_toArray]
      unfold zoneL
      rw [List.length_cons, dg_len]
      decide
    intro h12 tk12 t12 k12
    dsimp only at k12 ⊢
    refine args_nil ?_
    refine appendPlain (plain_keep (plain_keep T10 k11) k12) (by omega) ?_
    intro h13 T13 s13
    dsimp only at T13 s13 ⊢
    refine wpAny_execs_nil ?_
    refine hRQ _ _ ?_
    refine ⟨k, by omega, (hInv _ _).2 ⟨h13, _, _, i + 1, _, rfl, ((N10.keeps k11).keeps k12).sameBut s13 TXL.symm, ec, T13, by simp [hlen], ?_, ((I10.at fun o e => k12 _ _ (k11 _ _ e)).extBut s13.extBut ITX), ((K11.keep k12).same s13 (by simp)), by omega⟩⟩
    intro j hj
    by_cases hj' : j < i
    · obtain ⟨t, ht⟩ := htx j hj'
      exact ⟨t, by rw [List.getElem?_append_left (by omega)]; exact ht⟩
    · have : j = ts.length := by omega
      subst this
      rw [← hlen]
      exact ⟨t12, by simp [txt]⟩
end
end Mine
namespace Mine
open PySem PySem.W PyProof.Rows
theorem ints_of_get : ∀ {vs : List Value} {k : Nat}, (∀ (i : Nat) v, vs[i]? = some v → ∃ t, v = Value.int ((k + i : Nat) : Int) t) → IntsAre vs ((List.range' k vs.length).map fun (i : Nat) => (i : Int))
  | [], _, _ => .nil
  | v :: vs, k, h => by
    obtain ⟨t, e0⟩ := h 0 v rfl
    rw [List.length_cons, List.range'_succ, List.map_cons, e0]
    refine .cons _ _ (ints_of_get fun i v hv => ?_)
    obtain ⟨t, e⟩ := h (i + 1) v (by simpa using hv)
    exact ⟨t, by rw [e]; congr 2; omega⟩
theorem ints_of_get0 {vs : List Value} {m : Nat} (hl : vs.length = m) (h : ∀ (i : Nat) v, vs[i]? = some v → ∃ t, v = Value.int (i : Int) t) : IntsAre vs (natInts m) := by
  have := ints_of_get (vs := vs) (k := 0) fun i v hv => by
    obtain ⟨t, e⟩ := h i v hv
    exact ⟨t, by rw [e]; simp⟩
  rw [hl] at this
  unfold natInts
  rw [List.range_eq_range']
  exact this
/-- a tuple of a text and a number, apart from S -/
noncomputable def SIn (S : List Addr) (h : Heap) (v : Value) (z : Str) (i : Int) : Prop := ∃ a t u, v = .ref a ∧ a ∉ S ∧ IsTup h a #[.str z t, .int i u]
theorem SIn.kp {S : List Addr} {h h' : Heap} {v : Value} {z : Str} {i : Int} (x : SIn S h v z i) (k : Kp S h h') : SIn S h' v z i := let ⟨a, t, u, e, b, c⟩ := x; ⟨a, t, u, e, b, k.tup c b⟩
theorem SIn.si {S : List Addr} {h : Heap} {v : Value} {z : Str} {i : Int} (x : SIn S h v z i) : SI h v z [i] := let ⟨a, t, u, e, b, c⟩ := x; ⟨a, t, [.int i u], e, c, .cons _ _ .nil⟩
theorem SIn.sub {S S' : List Addr} {h : Heap} {v : Value} {z : Str} {i : Int} (x : SIn S h v z i) (hs : ∀ a, a ∈ S' → a ∈ S) : SIn S' h v z i := let ⟨a, t, u, e, b, c⟩ := x; ⟨a, t, u, e, fun m => b (hs _ m), c⟩

theorem SIn.cell {S : List Addr} {h h' : Heap} {c : Addr} {x : Option Value} {v : Value} {z : Str} {i : Int} (y : SIn S h v z i) (hc : h.IsCell c x) (k : Heap.SameBut c h h') : SIn S h' v z i := by
  obtain ⟨a, t, u, e, b, o2, g2, c2, n2, d2⟩ := y
  have ac : a ≠ c := fun e' => by
    obtain ⟨o', g', d⟩ := hc
    rw [e', g'] at g2; cases g2; rw [d] at d2; cases d2
  exact ⟨a, t, u, e, b, o2, (k.2 _ ac).trans g2, c2, n2, d2⟩
noncomputable abbrev SS (L HP : Addr) : List Addr := [L, HP, 162]
/-- what stays through the law -/
structure LB (H : Heap) (L LT TX CM HP S0 : Addr) (us ts vs : List Value) (cs : List (Nat → Int)) (B : Heap) : Prop where
  K : Keep H B
  c1 : B.IsCell (L + 1) (some (.ref HP))
  c2 : B.IsCell (L + 2) (some (.ref LT))
  c3 : B.IsCell (L + 3) (some (.ref TX))
  lt : B.PlainList LT us.toArray
  ls : Ltrs B (SS L HP) us cs
  tx : B.PlainList TX ts.toArray
  tt : Txts cs ts
  cm : B.PlainList CM vs.toArray
  ci : IntsAre vs (natInts cs.length)
  n1 : L + 1 ∉ SS L HP
  n2 : L + 2 ∉ SS L HP
  n3 : L + 3 ∉ SS L HP
  nl : LT ∉ SS L HP
  nt : TX ∉ SS L HP
  nc : CM ∉ SS L HP
  fL : H.get? L = none
  fP : H.get? HP = none
  f2 : H.get? 162 = none
  z4 : 4 ≤ cs.length
  z10 : cs.length ≤ 10
section
variable {H : Heap} {L LT TX CM HP S0 : Addr} {us ts vs : List Value} {cs : List (Nat → Int)} {B h : Heap}
theorem LB.old (X : LB H L LT TX CM HP S0 us ts vs cs B) {b : Addr} {o : Obj} (e : H.get? b = some o) : b ∉ SS L HP := nin3 (ne_fresh X.fL e).symm (ne_fresh X.fP e).symm (ne_fresh X.f2 e).symm
theorem LB.kp (X : LB H L LT TX CM HP S0 us ts vs cs B) (k : Kp (SS L HP) B h) : LB H L LT TX CM HP S0 us ts vs cs h :=
  { X with
    K := fun b o e => k b o (X.old e) (X.K b o e)
    c1 := cell_at X.c1 fun o e => k _ o X.n1 e
    c2 := cell_at X.c2 fun o e => k _ o X.n2 e
    c3 := cell_at X.c3 fun o e => k _ o X.n3 e
    lt := k.list X.lt X.nl
    ls := X.ls.mono k
    tx := k.list X.tx X.nt
    cm := k.list X.cm X.nc }
theorem LB.keep (X : LB H L LT TX CM HP S0 us ts vs cs B) (k : Keep B h) : LB H L LT TX CM HP S0 us ts vs cs h := X.kp fun b o _ e => k b o e
theorem LB.cx {w : World} {mg mb : Str → Option Value} (X : LB H L LT TX CM HP S0 us ts vs cs B) (C : Cx w mg mb H) : Cx w mg mb B := C.keeps X.K
theorem LB.ok (X : LB H L LT TX CM HP S0 us ts vs cs B) {i : Nat} (hi : i < cs.length) : Okc (cs.getD i dC) := X.ls.ok hi
theorem LB.txt (X : LB H L LT TX CM HP S0 us ts vs cs B) {i : Nat} (hi : i < cs.length) : ∃ t, ts[i]? = some (.str (txt (cs.getD i dC)) t) := X.tt.at' i hi
theorem LB.int (X : LB H L LT TX CM HP S0 us ts vs cs B) {i : Nat} (hi : i < cs.length) : ∃ t, vs[i]? = some (.int (i : Int) t) := IntsAre.get_ X.ci (natInts_get hi)
theorem LB.vlen (X : LB H L LT TX CM HP S0 us ts vs cs B) : vs.length = cs.length := by rw [X.ci.length]; simp
end
/-- changes at new places do not count -/
theorem Kp.new {S S' : List Addr} {B h : Heap} (k : Kp S B h) (hs : ∀ a ∈ S, a ∈ S' ∨ B.get? a = none) : Kp S' B h := fun b o hb e => k b o (fun hm => by
  rcases hs b hm with h1 | h1
  · exact hb h1
  · rw [h1] at e; cases e) e
theorem Kp.sub {S S' : List Addr} {B h : Heap} (k : Kp S B h) (hs : ∀ a ∈ S, a ∈ S') : Kp S' B h := k.new fun a ha => .inl (hs a ha)
end Mine
namespace Mine
open PySem PySem.W PyProof.Rows
noncomputable abbrev K1 (cs : List (Nat → Int)) (i : Nat) : List Int := lettersOf (cs.getD i dC)
section
variable {prog : Program} {w : World} {A : Around} {E : Value → Shared → Prop} {s : Shared} {mg mb : Str → Option Value}
set_option maxHeartbeats 2000000 in
theorem law_2 {H h : Heap} {L S0 LT TX : Addr} {us ts : List Value} {cs : List (Nat → Int)} {mm : Str → Option Value} {tk : Nat} {Q : Flow → Shared → Prop}
    (C : Cx w mg mb H) (R : Rm A 50) (N : h.Ns L mm) (K : Keep H h) (fL : H.get? L = none) (f2 : H.get? 162 = none) (e0 : mm (Str.ofString "script") = some (.ref S0))
    (c1 : h.IsCell (L + 1) none) (c2 : h.IsCell (L + 2) (some (.ref LT))) (c3 : h.IsCell (L + 3) (some (.ref TX))) (f1 : H.get? (L + 1) = none)
    (hlt : h.PlainList LT us.toArray) (hls : Ltrs h [TX] us cs) (z4 : 4 ≤ cs.length) (z10 : cs.length ≤ 10) (htx : h.PlainList TX ts.toArray) (htt : Txts cs ts) (T : TB h [])
    (next : ∀ h' tk' CM HP vs f mm', h'.Ns L mm' → mm' (Str.ofString "script") = some (.ref S0) → mm' (Str.ofString "comings") = some (.ref CM) → LB H L LT TX CM HP S0 us ts vs cs h' → TB h' [] →
      h'.PlainList HP (lst It.v f cs.length).toArray → HeapFrom (ltE (K1 cs)) cs.length 0 f → ((lf f cs.length).map (·.e)).Perm (List.range cs.length) →
      (∀ x ∈ lf f cs.length, SIn (SS L HP) h' x.v (txt (cs.getD x.e dC)) (x.e : Int)) →
      wpAny (model prog w) A (execs ((fb fd165).drop 6) (callEnvC fd165 L 165)) Q (fun _ _ => False) { s with heap := h', toks := tk' }) :
    wpAny (model prog w) A (execs ((fb fd165).drop 3) (callEnvC fd165 L 165)) Q (fun _ _ => False) { s with heap := h, toks := tk } := by
  have C1 := C.keeps K
  have ulen : us.length = cs.length := hls.length
  -- comings
  refine wpAny_execs_cons ?_
  refine wpAny_Assign_Name ?_
  refine Call_ ?_
  refine nmB C1 (by kernel_rfl) boot_list (by decide) ?_
  refine cwt1 ?_
  refine args_cons ?_
  refine Call_ ?_
  refine nmB C1 (by kernel_rfl) boot_range (by decide) ?_
  refine cwt1 ?_
  refine args_cons ?_
  refine Call_ ?_
  refine nmB C1 (by kernel_rfl) boot_len (by decide) ?_
  refine cwb1 ?_
  refine args_cons ?_
  refine nmC c2 ?_ rfl
  refine args_nil ?_
  refine Calls.call_len_list hlt.isList (by rw [List.size_toArray]; omega) ?_
  rw [List.size_toArray, ulen]
  refine args_nil ?_
  refine mkRange ?_
  intro h2 r tk2 tr ur vr k2 f2' r2
  dsimp only at k2 f2' r2 ⊢
  refine args_nil ?_
  refine call_list_range (n := cs.length) R.hh r2 (small_one (by decide) (by decide) (by omega) (by omega)) (by rw [rangeSize_one]; split <;> omega) (by omega) ?_
  intro h3 tk3 acc c' k3 g3 acc3
  dsimp only at k3 g3 ⊢
  have fCM : h2.get? h2.objs.size = none := fresh_none
  generalize h2.objs.size = CM at g3 fCM
  have k03 : Keep h h3 := fun b o e => k3 _ _ (k2 _ _ e)
  have fCMh : h.get? CM = none := by
    cases e : h.get? CM with
    | none => rfl
    | some o => rw [k2 _ _ e] at fCM; cases fCM
  have n3 : h3.PlainList CM acc.toList.toArray := ⟨c', by simpa using g3⟩
  have vlen : acc.toList.length = cs.length := by simpa using acc3.1
  have ci : IntsAre acc.toList (natInts cs.length) := ints_of_get0 vlen fun i v hv => by
    obtain ⟨t, e⟩ := acc3.2 i v (by simpa using hv)
    exact ⟨t, by rw [e]; simp⟩
  generalize acc.toList = vs at n3 vlen ci
  have CML : CM ≠ L := fun e => by obtain ⟨o, g⟩ := ns_some N; exact ne_fresh fCMh g e
  refine stN rfl (N.keeps k03) ?_
  intro h4 tq4 N4 s4
  dsimp only at N4 s4 ⊢
  have K4 : Keep H h4 := fun b o e => (s4.2 b (ne_fresh fL e).symm).trans (k03 _ _ (K _ _ e))
  have C4 := C.keeps K4
  have q1 := (cell_keep c1 k03).sameBut s4 (cne0 L (b := 1) (by decide)).symm
  have q2 := (cell_keep c2 k03).sameBut s4 (cne0 L (b := 2) (by decide)).symm
  have q3 := (cell_keep c3 k03).sameBut s4 (cne0 L (b := 3) (by decide)).symm
  have l4 := plain_same (plain_keep hlt k03) s4 (list_ne_ns hlt N)
  have x4 := plain_same (plain_keep htx k03) s4 (list_ne_ns htx N)
  have m4 := plain_same n3 s4 CML
  have LP : (162 : Addr) ≠ L := fun e => by obtain ⟨ps, g, _⟩ := T; exact ns_ne_tab N g e.symm
  have T4 : TB h4 [] := T.at fun o e => (s4.2 _ LP).trans (k03 _ _ e)
  have L4 : Ltrs h4 [L, 162] us cs := by
    have a1 := ((hls.add (NoList.tab T)).add (NoList.ns N)).sub (S' := [L, 162]) (by simp)
    exact (a1.keep k03).mono (Kp.refl.same (a := L) s4 (by simp))
  -- heap
  refine wpAny_execs_cons ?_
  refine wpAny_Assign_Name ?_
  refine comp1 (cl := [(Str.ofString "texts", L + 3)]) ?_ ?_ ?_ ?_ ?_
  · rfl
  · decide
  · rfl
  · decide
  refine nmL N4 rfl ?_
  refine wpAny_pyIter_list m4.isList ?_
  dsimp only
  generalize hH5 : h4.push { cls := Value.type "list_iterator", data := Data.fields #[Value.ref CM, Value.int 0 0] } = h5
  have k5 : Keep h4 h5 := fun b o e => by rw [← hH5]; exact Heap.get?_push_of_some _ e
  have I5 : h5.IsListIter h4.objs.size CM 0 := by rw [← hH5]; exact ⟨_, Heap.get?_push_size _ rfl, rfl, rfl⟩
  have fJ : h4.get? h4.objs.size = none := fresh_none
  generalize h4.objs.size = J at I5 fJ
  intro HP CC h6 tk6 k6 B6 N6 fB fC BC
  dsimp only at k6 fB fC ⊢
  have kk6 : Keep h4 h6 := fun b o e => k6 _ _ (k5 _ _ e)
  have fB4 : h4.get? HP = none := by
    cases e : h4.get? HP with
    | none => rfl
    | some o => rw [k5 _ _ e] at fB; cases fB
  have fC4 : h4.get? CC = none := by
    cases e : h4.get? CC with
    | none => rfl
    | some o => rw [k5 _ _ e] at fC; cases fC
  have old : ∀ b o, h4.get? b = some o → b ∉ [CC, HP, J] := fun b o e => nin3 (ne_fresh fC4 e).symm (ne_fresh fB4 e).symm (ne_fresh fJ e).symm
  have up : ∀ {h : Heap}, Kp [CC, HP, J] h6 h → Keep h4 h := fun k b o e => k b o (old b o e) (kk6 _ _ e)
  have JC : J ≠ CC := by obtain ⟨o, e, _⟩ := I5; exact (ne_fresh fC e).symm
  have JB : J ≠ HP := by obtain ⟨o, e, _⟩ := I5; exact (ne_fresh fB e).symm
  have oL := ns_some N4
  have HPL : HP ≠ L := by obtain ⟨o, g⟩ := oL; exact ne_fresh fB4 g
  have HPP : HP ≠ 162 := by obtain ⟨ps, g, _⟩ := T4; exact ne_fresh fB4 g
  obtain ⟨Inv, hInv⟩ : ∃ Inv : Nat → Shared → Prop, ∀ k s', Inv k s' ↔ (∃ (h : Heap) (tk : Nat) (mc : Str → Option Value) (i : Nat) (f : Nat → It), s' = { s with heap := h, toks := tk } ∧ h.Ns CC mc ∧ h.PlainList HP (lst It.v f i).toArray ∧
      (∀ j, j < i → (f j).e = j ∧ SIn [CC, HP, J, L, 162] h (f j).v (txt (cs.getD j dC)) (j : Int)) ∧ h.IsListIter J CM i ∧ Kp [CC, HP, J] h6 h ∧ i + k = cs.length) := ⟨_, fun _ _ => Iff.rfl⟩
  refine ⟨Inv, cs.length,
    (hInv _ _).2 ⟨h6, tk6, _, 0, fun _ => ⟨.none, 0, 0⟩, rfl, N6, by simpa [lst] using B6, fun j hj => absurd hj (Nat.not_lt_zero _), I5.at fun o e => k6 _ _ e, Kp.refl, by omega⟩, ?_, ?_⟩
  · intro E' Q' hq
    exact wpAny_pyIter_listiter (I5.at fun o e => k6 _ _ e) hq
  intro k s' hI0
  obtain ⟨h, tk, mc, i, f, rfl, Nc, hB, hf, hJ, hK, hik⟩ := (hInv _ _).1 hI0
  clear hI0
  have kh := up hK
  have hCM := plain_keep m4 kh
  cases k with
  | zero =>
    refine wpAny_pyNext_list_end R.hh hJ hCM.isList ?_ ?_
    · rw [List.getElem?_toArray, List.getElem?_eq_none (by omega)]
    intro h7 e7
    dsimp only
    refine ⟨mc, Nc.extBut e7 JC.symm, ?_⟩
    intro h8 s8
    have hin : i = cs.length := by omega
    subst hin
    have P8 : Kp [CC, HP, J] h h8 := (Kp.refl.ext e7 (by simp)).same s8 (by simp)
    have K8 : Kp [CC, HP, J] h6 h8 := hK.trans P8
    have kh8 := up K8
    have B8 : h8.PlainList HP _ := plain_same (hB.extBut e7 JB.symm) s8 BC
    have N8 := N4.keeps kh8
    refine wpAny_storeName_cell rfl rfl rfl (cell_keep q1 kh8) ?_
    intro h9 r1 s9
    dsimp only at r1 s9 ⊢
    have N9 := N8.sameBut s9 (cne0 L (b := 1) (by decide))
    have HPc : HP ≠ L + 1 := by obtain ⟨o, g, _⟩ := q1; exact ne_fresh fB4 g
    have B9 := plain_same B8 s9 HPc
    have K9 : Keep H h9 := fun b o e => (s9.2 b (ne_fresh f1 e).symm).trans (kh8 _ _ (K4 _ _ e))
    have C9 := C.keeps K9
    have r2 := (cell_keep q2 kh8).sameBut s9 (cneq L (a := 2) (b := 1) (by decide))
    have r3 := (cell_keep q3 kh8).sameBut s9 (cneq L (a := 3) (b := 1) (by decide))
    have l9 := plain_same (plain_keep l4 kh8) s9 (cell_ne_list l4 q1)
    have x9 := plain_same (plain_keep x4 kh8) s9 (cell_ne_list x4 q1)
    have m9 := plain_same (plain_keep m4 kh8) s9 (cell_ne_list m4 q1)
    have Pc : (162 : Addr) ≠ L + 1 := fun e' => by
      obtain ⟨o, g, d⟩ := q1
      obtain ⟨ps, g', _⟩ := T4
      rw [e', g] at g'; cases g'; cases d
    have T9 : TB h9 [] := T4.at fun o e => (s9.2 _ Pc).trans (kh8 _ _ e)
    have cnt : ∀ {b : Addr} {v : Option Value}, h4.IsCell b v → b ≠ 162 := fun {b v} c e' => by
      obtain ⟨o, g, d⟩ := c
      obtain ⟨ps, g', _⟩ := T4
      rw [← e', g] at g'; cases g'; cases d
    have lnt : ∀ {b : Addr} {xs : Array Value}, h4.PlainList b xs → b ≠ 162 := fun {b xs} p e' => NoList.tab T4 xs (e' ▸ p)
    have L9 : Ltrs h9 (SS L HP) us cs := by
      have a1 := (L4.add (NoList.fresh fB4)).add (NoList.cell q1)
      have a2 := (a1.keep kh8).mono (Kp.refl.same (a := L + 1) s9 (by simp))
      exact a2.sub (by simp)
    have X9 : LB H L LT TX CM HP S0 us ts vs cs h9 :=
      { K := K9, c1 := r1, c2 := r2, c3 := r3, lt := l9, ls := L9, tx := x9, tt := htt, cm := m9, ci := ci,
        n1 := nin3 (cne0 L (b := 1) (by decide)).symm HPc.symm (cnt q1)
        n2 := nin3 (cne0 L (b := 2) (by decide)).symm (by obtain ⟨o, g, _⟩ := q2; exact (ne_fresh fB4 g).symm) (cnt q2)
        n3 := nin3 (cne0 L (b := 3) (by decide)).symm (by obtain ⟨o, g, _⟩ := q3; exact (ne_fresh fB4 g).symm) (cnt q3)
        nl := nin3 (list_ne_ns l4 N4) (by obtain ⟨o, g⟩ := list_some l4; exact (ne_fresh fB4 g).symm) (lnt l4)
        nt := nin3 (list_ne_ns x4 N4) (by obtain ⟨o, g⟩ := list_some x4; exact (ne_fresh fB4 g).symm) (lnt x4)
        nc := nin3 (list_ne_ns m4 N4) (by obtain ⟨o, g⟩ := list_some m4; exact (ne_fresh fB4 g).symm) (lnt m4)
        fL := fL, fP := by
          cases e : H.get? HP with
          | none => rfl
          | some o => rw [K4 _ _ e] at fB4; cases fB4
        f2 := f2, z4 := z4, z10 := z10 }
    have F9 : ∀ j, j < cs.length → (f j).e = j ∧ SIn (SS L HP) h9 (f j).v (txt (cs.getD j dC)) (j : Int) := fun j hj => by
      obtain ⟨a1, a2⟩ := hf j hj
      refine ⟨a1, ?_⟩
      exact ((a2.kp (P8.sub (by simp))).sub (by simp)).cell (cell_keep q1 kh8) s9
    -- heapify
    refine wpAny_execs_cons ?_
    refine wpAny_Expr ?_
    refine Call_ ?_
    refine nmG (v := .ref 73) C9 (by kernel_rfl) ?_
    refine callWith_def (o := { cls := .type "function", data := .func fd73 }) rfl ?_
    refine args_cons ?_
    refine nmC r1 ?_ rfl
    refine args_nil ?_
    refine ⟨C9.k _ _ (fn73 w), ?_⟩
    have exK : ∀ {h' : Heap}, Heap.ExtBut HP h9 h' → Kp (SS L HP) h9 h' := fun {h'} x b o hb e => x b o (fun e' => hb (by rw [e']; simp)) e
    refine heapify_spec (lt := ltE (K1 cs)) (P := fun x => x.e < cs.length ∧ SIn (SS L HP) h9 x.v (txt (cs.getD x.e dC)) (x.e : Int)) (fun h' x => (X9.kp (exK x)).cx C) (R.le (by decide)) B9 (by omega) ?_ ?_ ?_
    · intro j hj
      obtain ⟨a1, a2⟩ := F9 j hj
      rw [a1]
      exact ⟨hj, a2⟩
    · rintro x y ⟨hx1, hx2⟩ ⟨hy1, hy2⟩ A' E' s' Q' R' e' hq'
      refine compareLt ?_ (hq' _)
      have := LtAt.si (A := A') (s := s') (hx2.kp (exK e')).si (hy2.kp (exK e')).si (R'.le (k := 1) (by decide)).units
      rw [lexS_letters (X9.ok hx1) (X9.ok hy1)] at this
      exact this
    intro h10 tk10 x10 B10
    have X10 := X9.kp (exK x10)
    have hp := heapify_heap (ltE_ord (K1 cs)) cs.length f
    refine next h10 _ CM HP vs _ _ (N9.extBut x10 HPL.symm) e0 rfl X10 (T9.at fun o e => x10 _ o HPP.symm e) B10 hp.1 ?_ ?_
    · refine (hp.2.map _).trans ?_
      have : (lf f cs.length).map (·.e) = List.range cs.length := by
        unfold lf
        rw [List.map_map]
        conv => rhs; rw [← List.map_id (List.range cs.length)]
        apply List.map_congr_left
        intro j hj
        exact (F9 j (List.mem_range.mp hj)).1
      rw [this]
    · intro x hx
      obtain ⟨j, hj, rfl⟩ := mem_lf (hp.2.mem_iff.mp hx)
      obtain ⟨a1, a2⟩ := F9 j hj
      rw [a1]
      exact a2.kp (exK x10)
  | succ k =>
    have hin : i < cs.length := by omega
    obtain ⟨ti, hti⟩ := IntsAre.get_ ci (natInts_get hin)
    obtain ⟨tx, htx'⟩ := htt.at' i hin
    refine wpAny_pyNext_list_item hJ hCM.isList (by rw [List.getElem?_toArray]; exact hti) ?_
    intro h7 I7 s7
    dsimp only at I7 s7 ⊢
    refine wpAny_of_eq (a := ()) rfl ?_
    refine wpAny_assign_Name ?_
    refine stN rfl (Nc.sameBut s7 JC.symm) ?_
    intro h8 tq8 N8 s8
    dsimp only at N8 s8 ⊢
    refine hideR ?_
    intro RQ hRQ
    have P8 : Kp [CC, HP, J] h h8 := (Kp.refl.same s7 (by simp)).same (a := CC) s8 (by simp)
    have K8 := hK.trans P8
    have kh8 := up K8
    have B8 : h8.PlainList HP _ := plain_same (plain_same hB s7 JB.symm) s8 BC
    have I8 : h8.IsListIter J CM (i + 1) := I7.extBut s8.extBut JC
    refine Tuple_ ?_
    refine args_cons ?_
    refine Subscript_ ?_
    refine nmC (cell_keep q3 kh8) ?_ rfl
    refine nmL N8 rfl ?_
    refine itemL i (plain_keep x4 kh8) (x := .str _ tx) (by rw [List.getElem?_toArray]; exact htx') (by omega) ?_
    refine args_cons ?_
    refine nmL N8 rfl ?_
    refine args_nil ?_
    refine mkTup ?_
    intro h9 k9 g9 z9
    dsimp only at k9 g9 z9 ⊢
    have B9 := plain_keep B8 k9
    refine hRQ _ _ ?_
    refine appendPlain B9 (by rw [lst_len]; omega) ?_
    intro h10 B10 s10
    dsimp only at B10 s10 ⊢
    have nT : ∀ {x : Addr}, (∃ o, h8.get? x = some o) → h8.objs.size ≠ x := fun hx => (ne_size hx).symm
    have tS : h8.objs.size ∉ [CC, HP, J, L, 162] := by
      have a1 := nT (ns_some N8)
      have a2 := nT (list_some B8)
      have a3 : h8.objs.size ≠ J := by obtain ⟨o, g, _⟩ := I8; exact nT ⟨_, g⟩
      have a4 : h8.objs.size ≠ L := by obtain ⟨o, g⟩ := oL; exact nT ⟨_, kh8 _ _ g⟩
      have a5 : h8.objs.size ≠ 162 := by obtain ⟨ps, g, _⟩ := T4; exact nT ⟨_, kh8 _ _ g⟩
      simp only [List.mem_cons, List.not_mem_nil, or_false, not_or]
      exact ⟨a1, a2, a3, a4, a5⟩
    have N10 := (N8.keeps k9).sameBut s10 BC.symm
    refine ⟨k, by omega, (hInv _ _).2 ⟨h10, _, _, i + 1, upd f i ⟨.ref h8.objs.size, 0, i⟩, rfl, N10, ?_, ?_, (I8.at fun o e => k9 _ _ e).extBut s10.extBut JB, (K8.keep k9).same s10 (by simp), by omega⟩⟩
    · rw [← lst_snoc]; exact B10
    · intro j hj
      by_cases hji : j = i
      · subst hji
        have e : upd f j ⟨.ref h8.objs.size, 0, j⟩ j = ⟨.ref h8.objs.size, 0, j⟩ := by simp [upd]
        rw [e]
        have tHP : h8.objs.size ≠ HP := fun e => tS (by rw [e]; simp)
        exact ⟨rfl, h8.objs.size, _, _, rfl, tS, tupOf ((s10.2 _ tHP).trans g9)⟩
      · have e : upd f i ⟨.ref h8.objs.size, 0, i⟩ j = f j := by simp [upd, hji]
        rw [e]
        obtain ⟨a1, a2⟩ := hf j (by omega)
        refine ⟨a1, a2.kp (((P8.keep k9).same s10 (by simp)).sub (by simp))⟩
end
end Mine
namespace Mine
open PySem PySem.W PyProof.Rows PySem.SeqAt
section
variable {prog : Program} {w : World} {A : Around} {E : Value → Shared → Prop} {s : Shared}
theorem all_true {n : Nat} : (List.range n).all (fun _ => true) = true := by simp
theorem eqTrueInts {us vs : List Value} {ns : List Int} (i : IntsAre us ns) (j : IntsAre vs ns) (k : Nat) (h1 : k < us.length) (h2 : k < vs.length) : EqAt A s us[k] vs[k] true := by
  have k1 : k < ns.length := by rw [← i.length]; exact h1
  obtain ⟨t, e1⟩ := IntsAre.get_ i (List.getElem?_eq_getElem k1)
  obtain ⟨u, e2⟩ := IntsAre.get_ j (List.getElem?_eq_getElem k1)
  rw [List.getElem?_eq_getElem h1] at e1
  rw [List.getElem?_eq_getElem h2] at e2
  rw [Option.some.inj e1, Option.some.inj e2]
  have := EqAt.int (A := A) (s := s) ns[k] ns[k] t u
  rwa [beq_self_eq_true] at this
theorem EqAt.xi {v v' : Value} {ns is : List Int} (x : XI s.heap v ns is) (y : XI s.heap v' ns is) (hu : A.units + 1 < cLine) : EqAt A s v v' true := by
  by_cases e : v = v'
  · subst e; exact EqAt.same _
  obtain ⟨a, p, us, rfl, ta, tp, i⟩ := x
  obtain ⟨b, q, vs, rfl, tb, tq, j⟩ := y
  refine EqAt.of_refs (fun h => e (by rw [h])) ?_
  have r := RcAt.tuples (A := A) (s := s) (e := fun _ => true) ta tb (by omega) (fun k h1 h2 => by
    cases k with
    | zero =>
      have := EqAt.ti (A := A.in1) (s := s) tp tq (by show A.units + 1 < cLine; exact hu)
      rw [decide_eq_true rfl] at this
      exact this
    | succ k =>
      have h1' : k < us.length := by simpa using h1
      have h2' : k < vs.length := by simpa using h2
      have := eqTrueInts (A := A.in1) (s := s) i j k h1' h2'
      simpa using this)
  have hsz : (List.toArray (p :: us)).size = (List.toArray (q :: vs)).size := by simp [i.length, j.length]
  rw [all_true, hsz, beq_self_eq_true] at r
  exact r
theorem neInts {a b : Addr} {us vs : List Value} {ns : List Int} {Q : Value → Shared → Prop} (ha : s.heap.PlainList a us.toArray) (hb : s.heap.PlainList b vs.toArray) (i : IntsAre us ns) (j : IntsAre vs ns) (hu : A.units < cLine) (h : Q (.bool false) s) :
    wpAny (model prog w) A (compareOp .NotEq (.ref a) (.ref b)) Q E s := by
  have r := RcNeAt.lists (A := A) (s := s) (e := fun _ => true) ha.isList hb.isList (by simp [i.length, j.length]) hu (fun k h1 h2 => by
    have := eqTrueInts (A := A.in1) (s := s) i j k (by simpa using h1) (by simpa using h2)
    simpa using this)
  rw [all_true] at r
  exact show wpAny (model prog w) A (richCompare .NotEq (.ref a) (.ref b)) Q E s from r prog w E Q h
theorem eqInts {a b : Addr} {us vs : List Value} {ns : List Int} {Q : Value → Shared → Prop} (ha : s.heap.PlainList a us.toArray) (hb : s.heap.PlainList b vs.toArray) (i : IntsAre us ns) (j : IntsAre vs ns) (hu : A.units < cLine) (h : Q (.bool true) s) :
    wpAny (model prog w) A (compareOp .Eq (.ref a) (.ref b)) Q E s := by
  have r := RcAt.lists (A := A) (s := s) (e := fun _ => true) ha.isList hb.isList (by simp [i.length, j.length]) hu (fun k h1 h2 => by
    have := eqTrueInts (A := A.in1) (s := s) i j k (by simpa using h1) (by simpa using h2)
    simpa using this)
  rw [all_true] at r
  exact show wpAny (model prog w) A (richCompare .Eq (.ref a) (.ref b)) Q E s from r prog w E Q h
theorem neXs {a b : Addr} {us vs : List Value} {Q : Value → Shared → Prop} (ha : s.heap.PlainList a us.toArray) (hb : s.heap.PlainList b vs.toArray) (hl : us.length = vs.length)
    (hx : ∀ (k : Nat) v v', us[k]? = some v → vs[k]? = some v' → ∃ ns is, XI s.heap v ns is ∧ XI s.heap v' ns is) (hu : A.units + 2 < cLine) (h : Q (.bool false) s) :
    wpAny (model prog w) A (compareOp .NotEq (.ref a) (.ref b)) Q E s := by
  have r := RcNeAt.lists (A := A) (s := s) (e := fun _ => true) ha.isList hb.isList (by simp [hl]) (by omega) (fun k h1 h2 => by
    have h1' : k < us.length := by simpa using h1
    have h2' : k < vs.length := by simpa using h2
    obtain ⟨ns, is, x, y⟩ := hx k us[k] vs[k] (List.getElem?_eq_getElem h1') (List.getElem?_eq_getElem h2')
    have := EqAt.xi (A := A.in1) (s := s) x y (by show A.units + 1 + 1 < cLine; omega)
    simpa using this)
  rw [all_true] at r
  exact show wpAny (model prog w) A (richCompare .NotEq (.ref a) (.ref b)) Q E s from r prog w E Q h
end
end Mine
namespace Mine
open PySem PySem.W PyProof.Rows
section
variable {prog : Program} {w : World} {A : Around} {E : Value → Shared → Prop} {s : Shared} {mg mb : Str → Option Value}
set_option maxHeartbeats 2000000 in
theorem law_3 {H h : Heap} {L S0 LT TX CM HP : Addr} {us ts vs : List Value} {cs : List (Nat → Int)} {f : Nat → It} {mm : Str → Option Value} {tk : Nat} {ds : List (Int × Int)} {Q : Flow → Shared → Prop}
    (C : Cx w mg mb H) (R : Rm A 50) (N : h.Ns L mm) (e0 : mm (Str.ofString "script") = some (.ref S0)) (em : mm (Str.ofString "comings") = some (.ref CM)) (X : LB H L LT TX CM HP S0 us ts vs cs h) (T : TB h ds)
    (hB : h.PlainList HP (lst It.v f cs.length).toArray) (hH : HeapFrom (ltE (K1 cs)) cs.length 0 f) (hP : ((lf f cs.length).map (·.e)).Perm (List.range cs.length))
    (hX : ∀ x ∈ lf f cs.length, SIn (SS L HP) h x.v (txt (cs.getD x.e dC)) (x.e : Int))
    (next : ∀ h' tk' D rs mm', h'.Ns L mm' → mm' (Str.ofString "script") = some (.ref S0) → mm' (Str.ofString "comings") = some (.ref CM) → mm' (Str.ofString "told") = some (.ref D) → LB H L LT TX CM HP S0 us ts vs cs h' → TB h' ds →
      h'.PlainList HP #[] → h'.PlainList D rs.toArray → IntsAre rs ((srt (fun i j => lexLt (K1 cs i) (K1 cs j)) cs.length false).map fun (i : Nat) => (i : Int)) → D ∉ SS L HP → H.get? D = none →
      wpAny (model prog w) A (execs ((fb fd165).drop 7) (callEnvC fd165 L 165)) Q (fun _ _ => False) { s with heap := h', toks := tk' }) :
    wpAny (model prog w) A (execs ((fb fd165).drop 6) (callEnvC fd165 L 165)) Q (fun _ _ => False) { s with heap := h, toks := tk } := by
  have hlt : ∀ x ∈ lf f cs.length, x.e < cs.length := fun x hx => List.mem_range.mp (hP.mem_iff.mp (List.mem_map_of_mem hx))
  have hsrt := pop_srt (K := K1 cs) (f := f) (n := cs.length) (by have := X.z4; omega) hH hP
  have vlen := X.vlen
  have z10 := X.z10
  refine wpAny_execs_cons ?_
  refine compUse (cl := [(Str.ofString "heap", L + 1)]) ?_ ?_ ?_ ?_ ?_ ?_ ?_ ?_
  · with_unfolding_all rfl
  · rfl
  · decide
  · rfl
  · decide
  · rfl
  · rfl
  refine nmL N em ?_
  refine wpAny_pyIter_list X.cm.isList ?_
  dsimp only
  generalize hH5 : h.push { cls := Value.type "list_iterator", data := Data.fields #[Value.ref CM, Value.int 0 0] } = h5
  have k5 : Keep h h5 := fun b o e => by rw [← hH5]; exact Heap.get?_push_of_some _ e
  have I5 : h5.IsListIter h.objs.size CM 0 := by rw [← hH5]; exact ⟨_, Heap.get?_push_size _ rfl, rfl, rfl⟩
  have fJ : h.get? h.objs.size = none := fresh_none
  generalize h.objs.size = J at I5 fJ
  intro D CC h6 tk6 k6 D6 N6 fD fC DC
  dsimp only at k6 fD fC ⊢
  have kk6 : Keep h h6 := fun b o e => k6 _ _ (k5 _ _ e)
  have fDh : h.get? D = none := by
    cases e : h.get? D with
    | none => rfl
    | some o => rw [k5 _ _ e] at fD; cases fD
  have fCh : h.get? CC = none := by
    cases e : h.get? CC with
    | none => rfl
    | some o => rw [k5 _ _ e] at fC; cases fC
  have JC : J ≠ CC := by obtain ⟨o, e, _⟩ := I5; exact (ne_fresh fC e).symm
  have JD : J ≠ D := by obtain ⟨o, e, _⟩ := I5; exact (ne_fresh fD e).symm
  obtain ⟨oP, gP⟩ := list_some hB
  obtain ⟨oL, gL⟩ := ns_some N
  obtain ⟨ps, gT, _⟩ := id T
  have PD : HP ≠ D := (ne_fresh fDh gP).symm
  have PC : HP ≠ CC := (ne_fresh fCh gP).symm
  have PJ : HP ≠ J := (ne_fresh fJ gP).symm
  have LD : L ≠ D := (ne_fresh fDh gL).symm
  have LC : L ≠ CC := (ne_fresh fCh gL).symm
  have HPL : HP ≠ L := list_ne_ns hB N
  have HPT : HP ≠ 162 := fun e => NoList.tab T _ (e ▸ hB)
  have new : ∀ {h' : Heap}, Kp [CC, D, J, HP, L] h h' → Kp (SS L HP) h h' := fun k => k.new (by
    intro a ha
    simp only [List.mem_cons, List.not_mem_nil, or_false] at ha ⊢
    rcases ha with rfl | rfl | rfl | rfl | rfl
    · exact .inr fCh
    · exact .inr fDh
    · exact .inr fJ
    · exact .inl (.inr (.inl rfl))
    · exact .inl (.inl rfl))
  obtain ⟨Inv, hInv⟩ : ∃ Inv : Nat → Shared → Prop, ∀ k s', Inv k s' ↔ (∃ (h1 : Heap) (tk : Nat) (mc : Str → Option Value) (i : Nat) (g : Nat → It) (rs : List Value) (dn : List It), s' = { s with heap := h1, toks := tk } ∧ h1.Ns CC mc ∧ h1.PlainList HP (lst It.v g k).toArray ∧
      HeapFrom (ltE (K1 cs)) k 0 g ∧ (∀ x ∈ lf g k, x ∈ lf f cs.length) ∧ h1.PlainList D rs.toArray ∧ IntsAre rs (dn.map fun x => (x.e : Int)) ∧ dn ++ popSeq (ltE (K1 cs)) k g = popSeq (ltE (K1 cs)) cs.length f ∧
      h1.IsListIter J CM i ∧ Kp [CC, D, J, HP] h h1 ∧ rs.length = i ∧ i + k = cs.length) := ⟨_, fun _ _ => Iff.rfl⟩
  refine ⟨Inv, cs.length,
    (hInv _ _).2 ⟨h6, tk6, _, 0, f, [], [], rfl, N6, plain_keep hB kk6, hH, fun x hx => hx, D6, .nil, rfl, I5.at fun o e => k6 _ _ e, fun b o _ e => kk6 _ _ e, rfl, by omega⟩, ?_, ?_⟩
  · intro E' Q' hq
    exact wpAny_pyIter_listiter (I5.at fun o e => k6 _ _ e) hq
  intro k s' hI0
  obtain ⟨h1, tk1, mc, i, g, rs, dn, rfl, Nc, gB, gH, gM, gD, gi, gs, gJ, gK, rl, hik⟩ := (hInv _ _).1 hI0
  clear hI0
  have LS : L ∉ [CC, D, J, HP] := by
    simp only [List.mem_cons, List.not_mem_nil, or_false, not_or]
    exact ⟨LC, LD, (ne_fresh fJ gL).symm, HPL.symm⟩
  have TS : (162 : Addr) ∉ [CC, D, J, HP] := by
    simp only [List.mem_cons, List.not_mem_nil, or_false, not_or]
    exact ⟨(ne_fresh fCh gT).symm, (ne_fresh fDh gT).symm, (ne_fresh fJ gT).symm, HPT.symm⟩
  have new4 : ∀ {h' : Heap}, Kp [CC, D, J, HP] h h' → Kp (SS L HP) h h' := fun k => new (k.sub (by simp))
  have X1 := X.kp (new4 gK)
  cases k with
  | zero =>
    refine wpAny_pyNext_list_end R.hh gJ X1.cm.isList ?_ ?_
    · rw [List.getElem?_toArray, List.getElem?_eq_none (by omega)]
    intro h7 e7
    dsimp only
    have K7 := gK.ext e7 (by simp)
    have N7 : h7.Ns L mm := N.at' fun o e => K7 _ o LS e
    refine ⟨mc, mm, Nc.extBut e7 JC.symm, N7, LC.symm, ?_⟩
    intro h8 tk8 N8 k8
    have K8 : Kp [CC, D, J, HP, L] h h8 := (K7.sub (by simp)).trans (k8.sub (by intro a ha; simp only [List.mem_cons, List.not_mem_nil, or_false] at ha ⊢; rcases ha with rfl | rfl <;> simp))
    have X8 := X.kp (new K8)
    have nn : ∀ x, x ≠ L → x ≠ CC → x ∉ [L, CC] := fun x a b => by simp [a, b]
    have gBe : lst It.v g 0 = [] := rfl
    rw [gBe] at gB
    refine next h8 tk8 D rs _ N8 e0 em rfl X8 (T.at fun o e => k8 _ o (nn _ (fun e' => by rw [← e'] at gL; exact ns_ne_tab N gT e'.symm) (ne_fresh fCh gT).symm) (K7 _ o TS e)) (k8.list (gB.extBut e7 PJ) (nn _ HPL PC)) (k8.list (gD.extBut e7 JD.symm) (nn _ LD.symm DC)) ?_ (nin3 LD.symm PD.symm (ne_fresh fDh gT)) ?_
    · rw [← hsrt, ← gs]
      show IntsAre rs (((dn ++ []).map (fun x : It => x.e)).map _)
      rw [List.append_nil, List.map_map]
      exact gi
    · cases e : H.get? D with
      | none => rfl
      | some o => rw [X.K _ _ e] at fDh; cases fDh
  | succ k =>
    have hin : i < cs.length := by omega
    obtain ⟨ti, hti⟩ := X.int hin
    refine wpAny_pyNext_list_item gJ X1.cm.isList (by rw [List.getElem?_toArray]; exact hti) ?_
    intro h7 I7 s7
    dsimp only at I7 s7 ⊢
    refine wpAny_of_eq (a := ()) rfl ?_
    refine wpAny_assign_Name ?_
    refine stN rfl (Nc.sameBut s7 JC.symm) ?_
    intro h8 tq8 N8 s8
    dsimp only at N8 s8 ⊢
    refine hideR ?_
    intro RQ hRQ
    have K8 : Kp [CC, D, J, HP] h h8 := (gK.same s7 (by simp)).same (a := CC) s8 (by simp)
    have X8 := X.kp (new4 K8)
    have B8 := plain_same (plain_same gB s7 PJ) s8 PC
    have D8 := plain_same (plain_same gD s7 JD.symm) s8 DC
    have J8 := I7.extBut s8.extBut JC
    have C8 := X8.cx C
    have xK : ∀ {h' : Heap}, Heap.ExtBut HP h8 h' → Kp [CC, D, J, HP] h h' := fun x => K8.ext x (by simp)
    refine Subscript_ ?_
    refine Call_ ?_
    refine nmG (v := .ref 59) C8 (by kernel_rfl) ?_
    refine callWith_def (o := { cls := .type "function", data := .func fd59 }) rfl ?_
    refine args_cons ?_
    refine nmC X8.c1 ?_ rfl
    refine args_nil ?_
    refine ⟨C8.k _ _ (fn59 w), ?_⟩
    have gx : ∀ x ∈ lf g (k + 1), x.e < cs.length ∧ SIn (SS L HP) h8 x.v (txt (cs.getD x.e dC)) (x.e : Int) := fun x hx => ⟨hlt x (gM x hx), (hX x (gM x hx)).kp (new4 K8)⟩
    refine heappop_spec (lt := ltE (K1 cs)) (f := g) (P := fun x => x.e < cs.length ∧ SIn (SS L HP) h8 x.v (txt (cs.getD x.e dC)) (x.e : Int)) (fun h' x => (X.kp (new4 (xK x))).cx C) (R.le (by decide)) B8 (by omega) (fun j hj => gx _ (lf_mem g hj)) ?_ ?_
    · rintro x y ⟨hx1, hx2⟩ ⟨hy1, hy2⟩ A' E' s' Q' R' e' hq'
      refine compareLt ?_ (hq' _)
      have exK : Kp (SS L HP) h8 s'.heap := fun b o hb e => e' b o (fun e'' => hb (by rw [e'']; simp)) e
      have := LtAt.si (A := A') (s := s') (hx2.kp exK).si (hy2.kp exK).si (R'.le (k := 1) (by decide)).units
      rw [lexS_letters (X.ok hx1) (X.ok hy1)] at this
      exact this
    intro h9 tk9 x9 B9
    dsimp only
    have K9 := xK x9
    obtain ⟨g0, S0'⟩ := gx _ (lf_mem g (Nat.succ_pos k))
    obtain ⟨a, t, u, ev, aS, ta⟩ := S0'
    rw [ev]
    refine wpAny_Constant_int ?_
    have aP : a ≠ HP := fun e => aS (by rw [e]; simp)
    have ta9 : IsTup h9 a #[.str _ t, .int _ u] := let ⟨o, q, r⟩ := ta; ⟨o, x9 _ _ aP q, r⟩
    refine itemT 1 ta9 rfl (by decide) ?_
    have D9 := D8.extBut x9 PD.symm
    refine hRQ _ _ ?_
    refine appendPlain D9 (by omega) ?_
    intro h10 D10 s10
    dsimp only at D10 s10 ⊢
    have ph := pop_heap (ltE_ord (K1 cs)) gH
    have N10 := (N8.extBut x9 PC.symm).sameBut s10 DC.symm
    refine ⟨k, by omega, (hInv _ _).2 ⟨h10, _, _, i + 1, popped (ltE (K1 cs)) k g, _, dn ++ [g 0], rfl, N10, plain_same B9 s10 PD, ph.1, fun x hx => gM x (ph.2.mem_iff.mp (List.mem_cons_of_mem _ hx)), D10, ?_, ?_, (J8.extBut x9 PJ.symm).extBut s10.extBut JD, K9.same s10 (by simp), by simp [rl], by omega⟩⟩
    · rw [List.map_append]
      exact IntsAre.append gi (.cons _ _ .nil)
    · rw [← gs, List.append_assoc]
      rfl
end
end Mine
namespace Mine
open PySem PySem.W PyProof.Rows
theorem LB.tab {H : Heap} {L LT TX CM HP S0 : Addr} {us ts vs : List Value} {cs : List (Nat → Int)} {B h : Heap} (X : LB H L LT TX CM HP S0 us ts vs cs B) (k : Heap.ExtBut 162 B h) : LB H L LT TX CM HP S0 us ts vs cs h :=
  X.kp fun b o hb e => k b o (fun e' => hb (by rw [e']; simp)) e
section
variable {prog : Program} {w : World} {A : Around} {E : Value → Shared → Prop} {s : Shared} {mg mb : Str → Option Value}
set_option maxHeartbeats 2000000 in
theorem law_4 {H h : Heap} {L S0 LT TX CM HP D : Addr} {us ts vs rs : List Value} {cs : List (Nat → Int)} {mm : Str → Option Value} {tk : Nat} {ds : List (Int × Int)} {Q : Flow → Shared → Prop}
    (C : Cx w mg mb H) (R : Rm A 50) (N : h.Ns L mm) (e0 : mm (Str.ofString "script") = some (.ref S0)) (em : mm (Str.ofString "comings") = some (.ref CM)) (et : mm (Str.ofString "told") = some (.ref D)) (X : LB H L LT TX CM HP S0 us ts vs cs h) (T : TB h ds) (hd : ((322 : Int), (49 : Int)) ∉ ds)
    (hB : h.PlainList HP #[]) (hD : h.PlainList D rs.toArray) (hi : IntsAre rs ((srt (fun i j => lexLt (K1 cs i) (K1 cs j)) cs.length false).map fun (i : Nat) => (i : Int))) (nD : D ∉ SS L HP)
    (next : ∀ h' tk' , h'.Ns L mm → LB H L LT TX CM HP S0 us ts vs cs h' → TB h' (((322 : Int), (49 : Int)) :: ds) → h'.PlainList HP #[] →
      wpAny (model prog w) A (execs ((fb fd165).drop 8) (callEnvC fd165 L 165)) Q (fun _ _ => False) { s with heap := h', toks := tk' }) :
    wpAny (model prog w) A (execs ((fb fd165).drop 7) (callEnvC fd165 L 165)) Q (fun _ _ => False) { s with heap := h, toks := tk } := by
  have z4 := X.z4
  have z10 := X.z10
  refine wpAny_execs_cons ?_
  refine wpAny_If ?_
  refine PyProof.Rows.isTrue_or ?_
  refine wpAny_isTrue_Compare1 ?_
  refine nmC X.c1 ?_ rfl
  refine List_ ?_
  refine args_nil ?_
  refine mkList ?_
  intro h2 k2 n2 z2
  dsimp only at k2 n2 z2 ⊢
  refine neInts (us := []) (vs := []) (ns := []) (plain_keep hB k2) n2 .nil .nil R.units ?_
  refine wpAny_truthy_bool ?_
  rw [if_neg Bool.false_ne_true]
  have N2 := N.keeps k2
  have X2 := X.keep k2
  have T2 : TB h2 ds := T.at fun o e => k2 _ _ e
  have B2 := plain_keep hB k2
  have D2 := plain_keep hD k2
  have C2 := X2.cx C
  refine PyProof.Rows.isTrue_or ?_
  refine wpAny_isTrue_Compare1 ?_
  refine nmL N2 et ?_
  refine CallK_ ?_
  refine nmB C2 (by kernel_rfl) boot_sorted (by decide) ?_
  refine callWith_kw ?_
  refine args_cons ?_
  refine nmL N2 em ?_
  refine args_nil ?_
  refine kws_cons ?_
  refine lamEval (cl := [(Str.ofString "letters", L + 2)]) C2 T2 rfl rfl hd ?_
  intro h3 q c' ctv tk3 pm x3 fq gq rq T3 C3
  dsimp only at x3 fq ⊢
  obtain ⟨ps, gT, _⟩ := id T2
  have N3 : h3.Ns L mm := N2.extBut x3 (ns_ne_tab N2 gT)
  have X3 := X2.tab x3
  have HPT : HP ≠ 162 := fun e => NoList.tab T2 _ (e ▸ B2)
  have DT : D ≠ 162 := fun e => nD (by rw [e]; simp)
  have B3 := B2.extBut x3 HPT
  have D3 := D2.extBut x3 DT
  refine kws_nil ?_
  refine sortG (b := false) (κ := oneType') (clt := fun i j => lexLt (K1 cs i) (K1 cs j)) (K := fun i => LObj (K1 cs i)) (key_ord (K1 cs)) (R.le (by decide)) X3.cm X3.ci (by omega) (by omega)
    (keyLetters C3 gq rq X3.c2 X3.lt X3.ls (by omega)) ?_ ?_ (ksk_s1 _ _) (fun _ => ksk_l1 _ _) (fun _ => ksk_t1 _ _) ?_
  · intro s' ks Qk h1 hk h3
    refine kindLI (by omega) (fun k hm' => ?_) h3
    obtain ⟨i, hi'⟩ := List.getElem?_of_mem hm'
    obtain ⟨ka, ko, e, g, us', n, ok, _⟩ := hk i k hi'
    exact ⟨ka, _, e, n, by rw [g, ok]⟩
  · intro s' i j ka kb ko kp Cc g1 k1 g2 k2 hC
    exact ltLI (R.le (k := 3) (by decide)).in1.in1.in1.units g1 k1 g2 k2 rfl hC
  intro h4 tk4 D4 vs4 k4 f4 g4 i4
  dsimp only at k4 f4 ⊢
  refine neInts (plain_keep D3 k4) g4 hi i4 R.units ?_
  refine wpAny_truthy_bool ?_
  rw [if_neg Bool.false_ne_true]
  refine PyProof.Rows.isTrue_or_nil ?_
  rw [if_neg Bool.false_ne_true]
  refine wpAny_execs_nil ?_
  exact next h4 _ (N3.keeps k4) (X3.keep k4) (T3.at fun o e => k4 _ _ e) (plain_keep B3 k4)
end
end Mine
namespace Mine
open PySem PySem.W PyProof.Rows
noncomputable abbrev K2 (cs : List (Nat → Int)) (i : Nat) : List Int := tzOf (cs.getD i dC)
section
variable {prog : Program} {w : World} {A : Around} {E : Value → Shared → Prop} {s : Shared} {mg mb : Str → Option Value}
set_option maxHeartbeats 2000000 in
theorem law_5 {H h : Heap} {L S0 LT TX CM HP : Addr} {us ts vs : List Value} {cs : List (Nat → Int)} {mm : Str → Option Value} {tk : Nat} {ds : List (Int × Int)} {Q : Flow → Shared → Prop}
    (C : Cx w mg mb H) (R : Rm A 50) (N : h.Ns L mm) (e0 : mm (Str.ofString "script") = some (.ref S0)) (em : mm (Str.ofString "comings") = some (.ref CM)) (X : LB H L LT TX CM HP S0 us ts vs cs h) (T : TB h ds)
    (hB : h.PlainList HP #[])
    (next : ∀ h' tk' f mm', h'.Ns L mm' → mm' (Str.ofString "script") = some (.ref S0) → mm' (Str.ofString "comings") = some (.ref CM) → LB H L LT TX CM HP S0 us ts vs cs h' → TB h' ds →
      h'.PlainList HP (lst It.v f cs.length).toArray → HeapFrom (ltE (K2 cs)) cs.length 0 f → ((lf f cs.length).map (fun x : It => x.e)).Perm (List.range cs.length) →
      (∀ x ∈ lf f cs.length, XIn (SS L HP) h' x.v (K2 cs x.e) [(x.e : Int)]) →
      wpAny (model prog w) A (execs ((fb fd165).drop 9) (callEnvC fd165 L 165)) Q (fun _ _ => False) { s with heap := h', toks := tk' }) :
    wpAny (model prog w) A (execs ((fb fd165).drop 8) (callEnvC fd165 L 165)) Q (fun _ _ => False) { s with heap := h, toks := tk } := by
  have vlen := X.vlen
  have z10 := X.z10
  refine wpAny_execs_cons ?_
  refine wpAny_For ?_
  refine nmL N em ?_
  refine wpAny_pyIter_list X.cm.isList ?_
  dsimp only
  generalize hH5 : h.push { cls := Value.type "list_iterator", data := Data.fields #[Value.ref CM, Value.int 0 0] } = h5
  have k5 : Keep h h5 := fun b o e => by rw [← hH5]; exact Heap.get?_push_of_some _ e
  have I5 : h5.IsListIter h.objs.size CM 0 := by rw [← hH5]; exact ⟨_, Heap.get?_push_size _ rfl, rfl, rfl⟩
  have fJ : h.get? h.objs.size = none := fresh_none
  generalize h.objs.size = J at I5 fJ
  obtain ⟨oP, gP⟩ := list_some hB
  obtain ⟨oL, gL⟩ := ns_some N
  obtain ⟨ps, gT, _⟩ := id T
  have PJ : HP ≠ J := (ne_fresh fJ gP).symm
  have LJ : L ≠ J := (ne_fresh fJ gL).symm
  have HPL : HP ≠ L := list_ne_ns hB N
  have HPT : HP ≠ 162 := fun e => NoList.tab T _ (e ▸ hB)
  have LT' : L ≠ 162 := ns_ne_tab N gT
  have new : ∀ {h' : Heap}, Kp [J, HP, L] h h' → Kp (SS L HP) h h' := fun k => k.new (by
    intro a ha
    simp only [List.mem_cons, List.not_mem_nil, or_false] at ha ⊢
    rcases ha with rfl | rfl | rfl
    · exact .inr fJ
    · exact .inl (.inr (.inl rfl))
    · exact .inl (.inl rfl))
  have TS : (162 : Addr) ∉ [J, HP, L] := nin3 (ne_fresh fJ gT).symm HPT.symm LT'.symm
  obtain ⟨Inv, hInv⟩ : ∃ Inv : Nat → Shared → Prop, ∀ k s', Inv k s' ↔ (∃ (h1 : Heap) (tk : Nat) (mc : Str → Option Value) (i : Nat) (f : Nat → It), s' = { s with heap := h1, toks := tk } ∧ h1.Ns L mc ∧ mc (Str.ofString "script") = some (.ref S0) ∧ mc (Str.ofString "comings") = some (.ref CM) ∧
      h1.PlainList HP (lst It.v f i).toArray ∧ HeapFrom (ltE (K2 cs)) i 0 f ∧ ((lf f i).map (fun x : It => x.e)).Perm (List.range i) ∧ (∀ x ∈ lf f i, XIn [J, HP, L, 162] h1 x.v (K2 cs x.e) [(x.e : Int)]) ∧ h1.IsListIter J CM i ∧ Kp [J, HP, L] h h1 ∧ i + k = cs.length) := ⟨_, fun _ _ => Iff.rfl⟩
  refine codeAny_forLoop Inv ?_ cs.length
    ((hInv _ _).2 ⟨h5, _, _, 0, fun _ => ⟨.none, 0, 0⟩, rfl, N.keeps k5, e0, em, by simpa [lst] using plain_keep hB k5, fun i _ hi => absurd hi (Nat.not_lt_zero _), by simp [lf], fun x hx => by simp [lf] at hx, I5, fun b o _ e => k5 _ _ e, by omega⟩)
  intro k s' hI0
  obtain ⟨h1, tk1, mc, i, f, rfl, Nc, ec, emc, gB, gH, gP', gX, gJ, gK, hik⟩ := (hInv _ _).1 hI0
  clear hI0
  have X1 := X.kp (new gK)
  cases k with
  | zero =>
    refine wpAny_pyNext_list_end R.hh gJ X1.cm.isList ?_ ?_
    · rw [List.getElem?_toArray, List.getElem?_eq_none (by omega)]
    intro h7 e7
    dsimp only
    refine wpAny_execs_nil ?_
    dsimp only
    have hin : i = cs.length := by omega
    subst hin
    have K7 := gK.ext e7 (by simp)
    exact next h7 _ f mc (Nc.extBut e7 LJ) ec emc (X.kp (new K7)) (T.at fun o e => K7 _ o TS e) (gB.extBut e7 PJ) gH gP' (fun x hx => ((gX x hx).kp (Kp.refl.ext e7 (by simp))).sub (by intro a ha; simp only [List.mem_cons, List.not_mem_nil, or_false] at ha ⊢; rcases ha with rfl | rfl | rfl <;> simp))
  | succ k =>
    have hin : i < cs.length := by omega
    obtain ⟨ti, hti⟩ := X.int hin
    obtain ⟨tx, htx⟩ := X.txt hin
    refine wpAny_pyNext_list_item gJ X1.cm.isList (by rw [List.getElem?_toArray]; exact hti) ?_
    intro h7 I7 s7
    dsimp only at I7 s7 ⊢
    refine wpAny_assign_Name ?_
    refine stN rfl (Nc.sameBut s7 LJ) ?_
    intro h8 tq8 N8 s8
    dsimp only at N8 s8 ⊢
    refine hideR ?_
    intro RQ hRQ
    have P8 : Kp [J, HP, L] h1 h8 := (Kp.refl.same s7 (by simp)).same (a := L) s8 (by simp)
    have K8 := gK.trans P8
    have X8 := X.kp (new K8)
    have C8 := X8.cx C
    have B8 := plain_same (plain_same gB s7 PJ) s8 HPL
    have J8 : h8.IsListIter J CM (i + 1) := I7.extBut s8.extBut LJ.symm
    refine wpAny_execs_cons ?_
    refine wpAny_Expr ?_
    refine Call_ ?_
    refine nmG (v := .ref 52) C8 (by kernel_rfl) ?_
    refine callWith_def (o := { cls := .type "function", data := .func fd52 }) rfl ?_
    refine args_cons ?_
    refine nmC X8.c1 ?_ rfl
    refine args_cons ?_
    refine Tuple_ ?_
    refine args_cons ?_
    refine Call_ ?_
    refine nmG (v := .ref 24) C8 (by kernel_rfl) ?_
    refine callWith_def (o := { cls := .type "function", data := .func fd24 }) rfl ?_
    refine args_cons ?_
    refine Subscript_ ?_
    refine nmC X8.c3 ?_ rfl
    refine nmL N8 rfl ?_
    refine itemL i X8.tx (x := .str _ tx) (by rw [List.getElem?_toArray]; exact htx) (by omega) ?_
    refine args_nil ?_
    refine ⟨C8.k _ _ (fn24 w), ?_⟩
    refine ptz_spec C8 (R.le (by decide)) (X.ok hin) ?_
    intro h9 tk9 b ws k9 f9 g9 i9
    dsimp only at k9 f9 ⊢
    have N9 := N8.keeps k9
    refine args_cons ?_
    refine nmL N9 rfl ?_
    refine args_nil ?_
    refine mkTup ?_
    intro h10 k10 g10 z10'
    dsimp only at k10 g10 z10' ⊢
    have N10 := N9.keeps k10
    have K10 : Kp [J, HP, L] h h10 := (K8.keep k9).keep k10
    have X10 := X.kp (new K10)
    have C10 := X10.cx C
    have B10 := plain_keep (plain_keep B8 k9) k10
    have J10 : h10.IsListIter J CM (i + 1) := (J8.at fun o e => k9 _ _ e).at fun o e => k10 _ _ e
    have S8 : ∀ x, x ∈ [J, HP, L, 162] → ∃ o, h8.get? x = some o := by
      intro x hx
      simp only [List.mem_cons, List.not_mem_nil, or_false] at hx
      rcases hx with rfl | rfl | rfl | rfl
      · obtain ⟨o, g, _⟩ := J8; exact ⟨_, g⟩
      · exact list_some B8
      · exact ns_some N8
      · exact ⟨_, K8 _ _ TS gT⟩
    have nb : b ∉ [J, HP, L, 162] := fun hm => by obtain ⟨o, g⟩ := S8 b hm; rw [f9] at g; cases g
    have nt : h9.objs.size ∉ [J, HP, L, 162] := fun hm => by obtain ⟨o, g⟩ := S8 _ hm; exact absurd (Heap.lt_size (k9 _ _ g)) (Nat.lt_irrefl _)
    refine args_nil ?_
    refine ⟨C10.k _ _ (fn52 w), ?_⟩
    have newX : XIn [J, HP, L, 162] h10 (.ref h9.objs.size) (K2 cs i) [(i : Int)] := ⟨h9.objs.size, b, [.int _ _], ws, rfl, nt, nb, tupOf g10, tup_keep (tupOf g9) k10, i9, .cons _ _ .nil⟩
    have oldX : ∀ x ∈ lf f i, XIn [J, HP, L, 162] h10 x.v (K2 cs x.e) [(x.e : Int)] := fun x hx => (((gX x hx).kp (P8.sub (by simp))).keep k9).keep k10
    refine heappush_spec (mg := mg) (mb := mb) (val := It.v) (lt := ltE (K2 cs)) (P := fun x => XIn [J, HP, L, 162] h10 x.v (K2 cs x.e) [(x.e : Int)]) (f := f) (x := ⟨.ref h9.objs.size, 0, i⟩) ?_ (R.le (by decide)) B10 (by omega) ?_ newX ?_ ?_
    · intro h' x
      exact (X.kp (new (K10.ext x (by simp)))).cx C
    · exact fun j hj => oldX _ (lf_mem f hj)
    · exact fun x y hx hy => cmpX (by simp) hx hy
    intro h11 tk11 x11 B11
    refine wpAny_execs_nil ?_
    have ph := push_heap (ltE_ord (K2 cs)) (x := (⟨.ref h9.objs.size, 0, i⟩ : It)) gH
    have Q11 : Kp [J, HP, L, 162] h10 h11 := Kp.refl.ext x11 (by simp)
    refine hRQ _ _ ?_
    refine ⟨k, by omega, (hInv _ _).2 ⟨h11, _, _, i + 1, _, rfl, N10.extBut x11 HPL.symm, ec, emc, B11, ph.1, ?_, ?_, J10.extBut x11 PJ.symm, K10.ext x11 (by simp), by omega⟩⟩
    · refine (ph.2.map _).trans ?_
      rw [List.map_append, List.range_succ]
      exact List.Perm.append_right _ gP'
    · intro x hx
      have hx' := ph.2.mem_iff.mp hx
      rcases List.mem_append.mp hx' with hm | hm
      · exact (oldX x hm).kp Q11
      · rw [List.mem_singleton] at hm
        subst hm
        exact newX.kp Q11
end
end Mine
namespace Mine
open PySem PySem.W PyProof.Rows
section
variable {prog : Program} {w : World} {A : Around} {E : Value → Shared → Prop} {s : Shared} {mg mb : Str → Option Value}
theorem tupAdd {a b : Addr} {vs ws : List Value} {Q : Value → Shared → Prop} (ht : IsTup s.heap a vs.toArray) (hb : IsTup s.heap b ws.toArray) (hv : vs ≠ []) (hw : ws ≠ []) (hsz : vs.length + ws.length < 2 ^ 20)
    (h : ∀ h', Keep s.heap h' → h'.get? s.heap.objs.size = some { cls := .type "tuple", data := .seq (vs ++ ws).toArray } → Q (.ref s.heap.objs.size) { s with heap := h' }) : wpAny (model prog w) A (binaryOp .Add (.ref a) (.ref b)) Q E s := by
  obtain ⟨⟨cls, dd, data, sl⟩, ho, hc, n, hd⟩ := id ht
  obtain ⟨⟨cls2, dd2, data2, sl2⟩, ho2, hc2, n2, hd2⟩ := id hb
  simp only at hc hd hc2 hd2
  subst hc hd hc2 hd2
  have e : vs.toArray ++ ws.toArray = (vs ++ ws).toArray := by simp
  refine concat_meets ⟨_, ho, rfl⟩ ⟨_, ho2, rfl⟩ noFill_tuple_add seq_tuple_add PySem.F.slot_tuple_add PySem.F.entry_tuple_add (PySem.F.args_tuple_add_2 _ _)
    (tuple_addW2 a b vs.toArray ws.toArray n n2 dd dd2 sl sl2 (by simpa using hv) (by simpa using hw) (by rw [List.size_toArray, List.size_toArray, sizeLine_eq]; omega)) ⟨ho, ho2, ?_⟩
  rw [e]
  exact h _ (new_keep _ _) (Heap.get?_push_size _ rfl)
set_option maxHeartbeats 2000000 in
theorem law_6 {H h : Heap} {L S0 LT TX CM HP : Addr} {us ts vs : List Value} {cs : List (Nat → Int)} {f : Nat → It} {mm : Str → Option Value} {tk : Nat} {ds : List (Int × Int)} {Q : Flow → Shared → Prop}
    (C : Cx w mg mb H) (R : Rm A 50) (N : h.Ns L mm) (e0 : mm (Str.ofString "script") = some (.ref S0)) (em : mm (Str.ofString "comings") = some (.ref CM)) (X : LB H L LT TX CM HP S0 us ts vs cs h) (T : TB h ds)
    (hB : h.PlainList HP (lst It.v f cs.length).toArray) (hX : ∀ x ∈ lf f cs.length, XIn (SS L HP) h x.v (K2 cs x.e) [(x.e : Int)])
    (next : ∀ (h' : Heap) (tk' : Nat) (DU : Addr) (dv : List Value) (mm' : Str → Option Value), h'.Ns L mm' → mm' (Str.ofString "script") = some (.ref S0) → mm' (Str.ofString "comings") = some (.ref CM) → mm' (Str.ofString "due") = some (.ref DU) → LB H L LT TX CM HP S0 us ts vs cs h' → TB h' ds →
      h'.PlainList HP (lst It.v f cs.length).toArray → (∀ x ∈ lf f cs.length, XIn (SS L HP) h' x.v (K2 cs x.e) [(x.e : Int)]) → h'.PlainList DU dv.toArray → dv.length = cs.length → (∀ j, j < cs.length → ∃ v, dv[j]? = some v ∧ XIn (SS L HP) h' v (K2 cs j) [(j : Int)]) → DU ∉ SS L HP →
      wpAny (model prog w) A (execs ((fb fd165).drop 11) (callEnvC fd165 L 165)) Q (fun _ _ => False) { s with heap := h', toks := tk' }) :
    wpAny (model prog w) A (execs ((fb fd165).drop 9) (callEnvC fd165 L 165)) Q (fun _ _ => False) { s with heap := h, toks := tk } := by
  have z10 := X.z10
  have ulen : us.length = cs.length := X.ls.length
  obtain ⟨oP, gP⟩ := list_some hB
  obtain ⟨oL, gL⟩ := ns_some N
  obtain ⟨ps, gT, _⟩ := id T
  have HPL : HP ≠ L := list_ne_ns hB N
  have HPT : HP ≠ 162 := fun e => NoList.tab T _ (e ▸ hB)
  have LT' : L ≠ 162 := ns_ne_tab N gT
  refine wpAny_execs_cons ?_
  refine wpAny_Assign_Name ?_
  refine List_ ?_
  refine args_nil ?_
  refine mkList ?_
  intro h2 k2 n2 z2
  dsimp only at k2 n2 z2 ⊢
  have fD : h.get? h.objs.size = none := fresh_none
  generalize h.objs.size = DU at n2 fD
  have DL : DU ≠ L := ne_fresh fD gL
  have DP : DU ≠ HP := ne_fresh fD gP
  have DT : DU ≠ 162 := ne_fresh fD gT
  refine stN rfl (N.keeps k2) ?_
  intro h3 tq3 N3 s3
  dsimp only at N3 s3 ⊢
  have K3 : Kp [L, DU] h h3 := (show Kp [L, DU] h h2 from fun b o _ e => k2 b o e).same (a := L) s3 (by simp)
  have newD : ∀ {h' : Heap}, Kp [L, DU] h h' → Kp (SS L HP) h h' := fun k => k.new (by
    intro a ha
    simp only [List.mem_cons, List.not_mem_nil, or_false] at ha ⊢
    rcases ha with rfl | rfl
    · exact .inl (.inl rfl)
    · exact .inr fD)
  have X3 := X.kp (newD K3)
  have D3 := plain_same n2 s3 DL
  have C3 := X3.cx C
  refine wpAny_execs_cons ?_
  refine wpAny_For ?_
  refine Call_ ?_
  refine nmB C3 (by kernel_rfl) boot_enumerate (by decide) ?_
  refine cwt1 ?_
  refine args_cons ?_
  refine nmC X3.c2 ?_ rfl
  refine args_nil ?_
  refine call_enumerate_list X3.lt.isList ?_
  intro h4 E4 I4 z4' k4
  dsimp only at E4 I4 z4' k4 ⊢
  have fe : h3.get? (h3.objs.size + 1) = none := Heap.get?_none_of_le (Nat.le_succ _)
  have fi : h3.get? h3.objs.size = none := fresh_none
  have eI : h3.objs.size + 1 ≠ h3.objs.size := Nat.succ_ne_self _
  generalize h3.objs.size + 1 = e at E4 fe eI
  generalize h3.objs.size = I at E4 I4 fi eI
  refine wpAny_pyIter_enum E4 ?_
  have k4 : Keep h3 h4 := k4
  have gL3 := ns_some N3
  have eL : e ≠ L := by obtain ⟨o, g⟩ := gL3; exact ne_fresh fe g
  have iL : I ≠ L := by obtain ⟨o, g⟩ := gL3; exact ne_fresh fi g
  have eD : e ≠ DU := by obtain ⟨o, g⟩ := list_some D3; exact ne_fresh fe g
  have iD : I ≠ DU := by obtain ⟨o, g⟩ := list_some D3; exact ne_fresh fi g
  have eP : e ≠ HP := ne_fresh fe (K3 _ _ (by simp [HPL, DP.symm]) gP)
  have iP : I ≠ HP := ne_fresh fi (K3 _ _ (by simp [HPL, DP.symm]) gP)
  have eT : e ≠ 162 := ne_fresh fe (K3 _ _ (by simp [LT'.symm, DT.symm]) gT)
  have iT : I ≠ 162 := ne_fresh fi (K3 _ _ (by simp [LT'.symm, DT.symm]) gT)
  have iLT : I ≠ LT := by obtain ⟨o, g⟩ := list_some X3.lt; exact ne_fresh fi g
  have eh : h.get? e = none := by
    cases q : h.get? e with
    | none => rfl
    | some o => rw [K3 _ _ (by simp [eL, eD]) q] at fe; cases fe
  have ih : h.get? I = none := by
    cases q : h.get? I with
    | none => rfl
    | some o => rw [K3 _ _ (by simp [iL, iD]) q] at fi; cases fi
  have new : ∀ {h' : Heap}, Kp [L, DU, e, I] h h' → Kp (SS L HP) h h' := fun k => k.new (by
    intro a ha
    simp only [List.mem_cons, List.not_mem_nil, or_false] at ha ⊢
    rcases ha with rfl | rfl | rfl | rfl
    · exact .inl (.inl rfl)
    · exact .inr fD
    · exact .inr eh
    · exact .inr ih)
  have K4 : Kp [L, DU, e, I] h h4 := (K3.sub (by simp)).keep k4
  have TS : (162 : Addr) ∉ [L, DU, e, I] := by simp [LT'.symm, DT.symm, eT.symm, iT.symm]
  have PS : HP ∉ [L, DU, e, I] := by simp [HPL, DP.symm, eP.symm, iP.symm]
  obtain ⟨Inv, hInv⟩ : ∃ Inv : Nat → Shared → Prop, ∀ k s', Inv k s' ↔ (∃ (h1 : Heap) (tk : Nat) (mc : Str → Option Value) (i : Nat) (dv : List Value) (old : Value), s' = { s with heap := h1, toks := tk } ∧ h1.Ns L mc ∧ mc (Str.ofString "script") = some (.ref S0) ∧ mc (Str.ofString "comings") = some (.ref CM) ∧ mc (Str.ofString "due") = some (.ref DU) ∧
      h1.PlainList DU dv.toArray ∧ dv.length = i ∧ (∀ j, j < i → ∃ v, dv[j]? = some v ∧ XIn [L, DU, e, I, HP, 162] h1 v (K2 cs j) [(j : Int)]) ∧ IsEnum h1 e I i old ∧ h1.IsListIter I LT i ∧ Kp [L, DU, e, I] h h1 ∧ i + k = cs.length) := ⟨_, fun _ _ => Iff.rfl⟩
  refine codeAny_forLoop_any Inv ?_ cs.length
    ((hInv _ _).2 ⟨h4, _, _, 0, [], .none, rfl, N3.keeps k4, e0, em, rfl, plain_keep D3 k4, rfl, fun j hj => absurd hj (Nat.not_lt_zero _), E4, I4, K4, by omega⟩)
  intro k s' hI0
  obtain ⟨h1, tk1, mc, i, dv, old, rfl, Nc, ec, emc, edc, gD, gl, gX, gE, gI, gK, hik⟩ := (hInv _ _).1 hI0
  clear hI0
  have X1 := X.kp (new gK)
  cases k with
  | zero =>
    refine wpAny_pyNext_enum_end R.hh gE gI X1.lt.isList ?_ ?_
    · rw [List.getElem?_toArray, List.getElem?_eq_none (by omega)]
    intro h7 e7
    dsimp only
    refine wpAny_execs_nil ?_
    dsimp only
    have K7 := gK.ext e7 (by simp)
    refine next h7 _ DU dv mc (Nc.extBut e7 iL.symm) ec emc edc (X.kp (new K7)) (T.at fun o q => K7 _ o TS q) (K7.list hB PS) (fun x hx => (hX x hx).kp (new K7)) (gD.extBut e7 iD.symm) (by omega) (fun j hj => ?_) (nin3 DL DP DT)
    obtain ⟨v, hv, xv⟩ := gX j (by omega)
    exact ⟨v, hv, (xv.kp (Kp.refl.ext e7 (by simp))).sub (by intro a ha; simp only [List.mem_cons, List.not_mem_nil, or_false] at ha ⊢; rcases ha with rfl | rfl | rfl <;> simp)⟩
  | succ k =>
    have hin : i < cs.length := by omega
    obtain ⟨a, ha, la, oka, aS⟩ := X1.ls.at (getD_some hin)
    refine wpAny_pyNext_enum_item gE gI X1.lt.isList (by rw [List.getElem?_toArray]; exact ha) eI ?_
    intro h7 E7 I7 g7 z7 k7
    dsimp only at E7 I7 g7 z7 k7 ⊢
    refine wpAny_letOwnedTupleGo_enum E7 ?_
    intro h8 E8 s8
    dsimp only at E8 s8 ⊢
    have tT : h1.objs.size ≠ e := (ne_size ⟨_, gE⟩).symm
    have P8 : Kp [L, DU, e, I] h1 h8 := fun b o hb q => by
      simp only [List.mem_cons, List.not_mem_nil, or_false, not_or] at hb
      exact (s8.2 b hb.2.2.1).trans (k7 b o hb.2.2.1 hb.2.2.2 q)
    have DZ : ∀ o, h1.get? DU = some o → h8.get? DU = some o := fun o q => (s8.2 _ eD.symm).trans (k7 _ o eD.symm iD.symm q)
    have LZ : ∀ o, h1.get? L = some o → h8.get? L = some o := fun o q => (s8.2 _ eL.symm).trans (k7 _ o eL.symm iL.symm q)
    have D8 := gD.at DZ
    have N8 := Nc.at' LZ
    have I8 : h8.IsListIter I LT (i + 1) := I7.extBut s8.extBut eI.symm
    refine unpack2 R.hh (tupOf ((s8.2 _ tT).trans g7)) N8 ?_
    intro h9 tk9 N9 e9
    dsimp only at N9 e9 ⊢
    refine hideR ?_
    intro RQ hRQ
    have P9 : Kp [L, DU, e, I] h1 h9 := P8.ext (a := L) e9 (by simp)
    have K9 := gK.trans P9
    have X9 := X.kp (new K9)
    have D9 := D8.extBut e9 DL
    have E9 : IsEnum h9 e I ((i : Int) + 1) (.ref a) := e9 _ _ eL E8
    have I9 := I8.extBut e9 iL
    obtain ⟨a', ha', la9, _, aS9⟩ := X9.ls.at (getD_some hin)
    rw [ha] at ha'; cases ha'
    refine wpAny_execs_cons ?_
    refine wpAny_Assign_Name ?_
    refine wpAny_BinOp ?_
    refine wpAny_BinOp ?_
    refine wpAny_Constant_int ?_
    refine wpAny_BinOp ?_
    refine wpAny_Constant_int ?_
    refine Subscript_ ?_
    refine nmL N9 rfl ?_
    refine wpAny_Constant_int ?_
    refine ltrItem (k := 7) la9 (by decide) (fun t7 => ?_)
    refine PyProof.Rows.mul_int ?_ (IntMulOk.of_left (by decide))
    refine SiftDown.sub_int ?_
    refine wpAny_BinOp ?_
    refine wpAny_BinOp ?_
    refine wpAny_Constant_int ?_
    refine Subscript_ ?_
    refine nmL N9 rfl ?_
    refine wpAny_Constant_int ?_
    refine ltrItem (k := 8) la9 (by decide) (fun t8 => ?_)
    refine PyProof.Rows.mul_int ?_ (IntMulOk.of_left (by decide))
    refine wpAny_BinOp ?_
    refine wpAny_Constant_int ?_
    refine Subscript_ ?_
    refine nmL N9 rfl ?_
    refine wpAny_Constant_int ?_
    refine ltrItem (k := 9) la9 (by decide) (fun t9 => ?_)
    refine PyProof.Rows.mul_int ?_ (IntMulOk.of_left (by decide))
    refine PyProof.Rows.add_int ?_
    refine PyProof.Rows.mul_int ?_ ?_
    rotate_left
    · refine IntMulOk.of_left ?_
      have c7 := oka.c7
      have c71 : (cs.getD i dC) 7 = 0 ∨ (cs.getD i dC) 7 = 1 := by omega
      rcases c71 with e' | e' <;> rw [e'] <;> decide
    refine stN rfl N9 ?_
    intro h10 tq10 N10 s10
    dsimp only at N10 s10 ⊢
    have P10 : Kp [L, DU, e, I] h1 h10 := P9.same (a := L) s10 (by simp)
    have K10 := gK.trans P10
    have X10 := X.kp (new K10)
    have C10 := X10.cx C
    have D10 := plain_same D9 s10 DL
    have E10 : IsEnum h10 e I ((i : Int) + 1) (.ref a) := (s10.2 _ eL).trans E9
    have I10 := I9.extBut s10.extBut iL
    obtain ⟨a', ha', la10, _, _⟩ := X10.ls.at (getD_some hin)
    rw [ha] at ha'; cases ha'
    refine wpAny_execs_cons ?_
    refine wpAny_Expr ?_
    refine MethodCall_ ?_
    refine nmL N10 edc ?_
    refine methPlain D10 PySem.F.slot_list_append PySem.F.type_list_append ?_
    refine callWith_method1 ?_
    refine args_cons ?_
    refine Tuple_ ?_
    refine args_cons ?_
    refine wpAny_BinOp ?_
    refine Call_ ?_
    refine nmG (v := .ref 160) C10 (by kernel_rfl) ?_
    refine callWith_def (o := { cls := .type "function", data := .func fd160 }) rfl ?_
    refine args_cons ?_
    refine nmL N10 rfl ?_
    refine args_nil ?_
    refine ⟨C10.k _ _ (fn160 w), ?_⟩
    refine by_time_spec C10 (R.le (by decide)) la10 ?_
    intro h11 tk11 b ws k11 f11 g11 i11
    dsimp only at k11 f11 ⊢
    have N11 := N10.keeps k11
    refine Tuple_ ?_
    refine args_cons ?_
    refine wpAny_Constant_int ?_
    refine args_cons ?_
    refine wpAny_Constant_int ?_
    refine args_cons ?_
    refine UnaryOp_ ?_
    refine wpAny_Constant_int ?_
    refine neg_int ?_
    refine args_cons ?_
    refine nmL N11 rfl ?_
    refine args_nil ?_
    refine mkTup ?_
    intro h12 k12 g12 z12
    dsimp only at k12 g12 z12 ⊢
    have wlen := i11.length
    refine tupAdd (tup_keep (tupOf g11) k12) (tupOf g12) (by intro e'; rw [e'] at wlen; simp at wlen) (by simp) (by rw [wlen]; simp) ?_
    intro h13 k13 g13
    dsimp only at k13 g13 ⊢
    have N13 := (N11.keeps k12).keeps k13
    refine args_cons ?_
    refine nmL N13 rfl ?_
    refine args_nil ?_
    refine mkTup ?_
    intro h14 k14 g14 z14
    dsimp only at k14 g14 z14 ⊢
    have up14 : Keep h10 h14 := fun b o q => k14 _ _ (k13 _ _ (k12 _ _ (k11 _ _ q)))
    refine args_nil ?_
    refine appendPlain (plain_keep D10 up14) (by omega) ?_
    intro h15 D15 s15
    dsimp only at D15 s15 ⊢
    refine wpAny_execs_nil ?_
    have P15 : Kp [L, DU, e, I] h1 h15 := (P10.keep up14).same s15 (by simp)
    have S10 : ∀ x, x ∈ [L, DU, e, I, HP, 162] → ∃ o, h10.get? x = some o := by
      intro x hx
      simp only [List.mem_cons, List.not_mem_nil, or_false] at hx
      rcases hx with rfl | rfl | rfl | rfl | rfl | rfl
      · exact ns_some N10
      · exact list_some D10
      · exact ⟨_, E10⟩
      · obtain ⟨o, g, _⟩ := I10; exact ⟨_, g⟩
      · exact ⟨_, K10 _ _ PS gP⟩
      · exact ⟨_, K10 _ _ TS gT⟩
    have n12 : h12.objs.size ∉ [L, DU, e, I, HP, 162] := fun hm => by obtain ⟨o, g⟩ := S10 _ hm; exact absurd (Heap.lt_size (k12 _ _ (k11 _ _ g))) (Nat.lt_irrefl _)
    have n13 : h13.objs.size ∉ [L, DU, e, I, HP, 162] := fun hm => by obtain ⟨o, g⟩ := S10 _ hm; exact absurd (Heap.lt_size (k13 _ _ (k12 _ _ (k11 _ _ g)))) (Nat.lt_irrefl _)
    have d12 : h12.objs.size ≠ DU := fun e' => n12 (by rw [e']; simp)
    have d13 : h13.objs.size ≠ DU := fun e' => n13 (by rw [e']; simp)
    have eL' := N13
    refine hRQ _ _ ?_
    refine ⟨k, by omega, (hInv _ _).2 ⟨h15, _, _, i + 1, _, .ref a, rfl, (N13.keeps k14).sameBut s15 DL.symm, ec, emc, edc, D15, by simp [gl], ?_, ?_, (I10.at fun o q => up14 _ _ q).extBut s15.extBut iD, gK.trans P15, by omega⟩⟩
    · intro j hj
      by_cases hj' : j < i
      · obtain ⟨v, hv, xv⟩ := gX j hj'
        exact ⟨v, by rw [List.getElem?_append_left (by omega)]; exact hv, xv.kp (P15.sub (by simp))⟩
      · have hji : j = i := by omega
        subst hji
        refine ⟨.ref h13.objs.size, by rw [← gl]; simp, h13.objs.size, h12.objs.size, [.int _ _], _, rfl, n13, n12, tupOf ((s15.2 _ d13).trans g14), tupOf ((s15.2 _ d12).trans (k14 _ _ g13)), ?_, .cons _ _ .nil⟩
        exact IntsAre.append i11 (.cons _ _ (.cons _ _ (.cons _ _ (.cons _ _ .nil))))
    · exact (s15.2 _ eD).trans (up14 _ _ (by
        have q1 : ((i + 1 : Nat) : Int) = (i : Int) + 1 := by omega
        rw [q1]; exact E10))
end
end Mine
namespace Mine
open PySem PySem.W PyProof.Rows
section
variable {prog : Program} {w : World} {A : Around} {E : Value → Shared → Prop} {s : Shared} {mg mb : Str → Option Value}
set_option maxHeartbeats 2000000 in
theorem law_7 {H h : Heap} {L S0 LT TX CM HP DU : Addr} {us ts vs dv : List Value} {cs : List (Nat → Int)} {f : Nat → It} {mm : Str → Option Value} {tk : Nat} {ds : List (Int × Int)} {Q : Flow → Shared → Prop}
    (C : Cx w mg mb H) (R : Rm A 50) (N : h.Ns L mm) (em : mm (Str.ofString "comings") = some (.ref CM)) (ed : mm (Str.ofString "due") = some (.ref DU)) (X : LB H L LT TX CM HP S0 us ts vs cs h) (T : TB h ds)
    (hB : h.PlainList HP (lst It.v f cs.length).toArray) (hH : HeapFrom (ltE (K2 cs)) cs.length 0 f) (hP : ((lf f cs.length).map (fun x : It => x.e)).Perm (List.range cs.length))
    (hX : ∀ x ∈ lf f cs.length, XIn (SS L HP) h x.v (K2 cs x.e) [(x.e : Int)]) (hD : h.PlainList DU dv.toArray) (dl : dv.length = cs.length) (hdX : ∀ j, j < cs.length → ∃ v, dv[j]? = some v ∧ XIn (SS L HP) h v (K2 cs j) [(j : Int)]) (nD : DU ∉ SS L HP)
    (next : ∀ (h' : Heap) (tk' : Nat), h'.Ns L mm → LB H L LT TX CM HP S0 us ts vs cs h' → TB h' ds →
      wpAny (model prog w) A (execs ((fb fd165).drop 12) (callEnvC fd165 L 165)) Q (fun _ _ => False) { s with heap := h', toks := tk' }) :
    wpAny (model prog w) A (execs ((fb fd165).drop 11) (callEnvC fd165 L 165)) Q (fun _ _ => False) { s with heap := h, toks := tk } := by
  have z4 := X.z4
  have z10 := X.z10
  have hsrt := pop_srt (K := K2 cs) (f := f) (n := cs.length) (by omega) hH hP
  obtain ⟨pp, _⟩ := popSeq_sorted (ltE_ord (K2 cs)) cs.length f hH
  have vlen := X.vlen
  refine wpAny_execs_cons ?_
  refine wpAny_If ?_
  refine wpAny_isTrue_Compare1 ?_
  refine comp1 (cl := [(Str.ofString "heap", L + 1)]) ?_ ?_ ?_ ?_ ?_
  · rfl
  · decide
  · rfl
  · decide
  refine nmL N em ?_
  refine wpAny_pyIter_list X.cm.isList ?_
  dsimp only
  generalize hH5 : h.push { cls := Value.type "list_iterator", data := Data.fields #[Value.ref CM, Value.int 0 0] } = h5
  have k5 : Keep h h5 := fun b o e => by rw [← hH5]; exact Heap.get?_push_of_some _ e
  have I5 : h5.IsListIter h.objs.size CM 0 := by rw [← hH5]; exact ⟨_, Heap.get?_push_size _ rfl, rfl, rfl⟩
  have fJ : h.get? h.objs.size = none := fresh_none
  generalize h.objs.size = J at I5 fJ
  intro D CC h6 tk6 k6 D6 N6 fD fC DC
  dsimp only at k6 fD fC ⊢
  have kk6 : Keep h h6 := fun b o e => k6 _ _ (k5 _ _ e)
  have fDh : h.get? D = none := by
    cases e : h.get? D with
    | none => rfl
    | some o => rw [k5 _ _ e] at fD; cases fD
  have fCh : h.get? CC = none := by
    cases e : h.get? CC with
    | none => rfl
    | some o => rw [k5 _ _ e] at fC; cases fC
  have JC : J ≠ CC := by obtain ⟨o, e, _⟩ := I5; exact (ne_fresh fC e).symm
  have JD : J ≠ D := by obtain ⟨o, e, _⟩ := I5; exact (ne_fresh fD e).symm
  obtain ⟨oP, gP⟩ := list_some hB
  obtain ⟨oL, gL⟩ := ns_some N
  obtain ⟨oD, gDU⟩ := list_some hD
  obtain ⟨ps, gT, _⟩ := id T
  have PD : HP ≠ D := (ne_fresh fDh gP).symm
  have PC : HP ≠ CC := (ne_fresh fCh gP).symm
  have PJ : HP ≠ J := (ne_fresh fJ gP).symm
  have HPL : HP ≠ L := list_ne_ns hB N
  have HPT : HP ≠ 162 := fun e => NoList.tab T _ (e ▸ hB)
  have DUP : DU ≠ HP := fun e => nD (by rw [e]; simp)
  have ni : ∀ {b : Addr} {o : Obj}, h.get? b = some o → b ≠ HP → b ∉ [CC, D, J, HP] := fun {b o} g hb => by
    simp only [List.mem_cons, List.not_mem_nil, or_false, not_or]
    exact ⟨(ne_fresh fCh g).symm, (ne_fresh fDh g).symm, (ne_fresh fJ g).symm, hb⟩
  have new : ∀ {h' : Heap}, Kp [CC, D, J, HP] h h' → Kp (SS L HP) h h' := fun k => k.new (by
    intro a ha
    simp only [List.mem_cons, List.not_mem_nil, or_false] at ha ⊢
    rcases ha with rfl | rfl | rfl | rfl
    · exact .inr fCh
    · exact .inr fDh
    · exact .inr fJ
    · exact .inl (.inr (.inl rfl)))
  obtain ⟨Inv, hInv⟩ : ∃ Inv : Nat → Shared → Prop, ∀ k s', Inv k s' ↔ (∃ (h1 : Heap) (tk : Nat) (mc : Str → Option Value) (i : Nat) (g : Nat → It) (dn : List It), s' = { s with heap := h1, toks := tk } ∧ h1.Ns CC mc ∧ h1.PlainList HP (lst It.v g k).toArray ∧
      HeapFrom (ltE (K2 cs)) k 0 g ∧ (∀ x ∈ lf g k, x ∈ lf f cs.length) ∧ h1.PlainList D (dn.map It.v).toArray ∧ dn ++ popSeq (ltE (K2 cs)) k g = popSeq (ltE (K2 cs)) cs.length f ∧
      h1.IsListIter J CM i ∧ Kp [CC, D, J, HP] h h1 ∧ dn.length = i ∧ i + k = cs.length) := ⟨_, fun _ _ => Iff.rfl⟩
  refine ⟨Inv, cs.length,
    (hInv _ _).2 ⟨h6, tk6, _, 0, f, [], rfl, N6, plain_keep hB kk6, hH, fun x hx => hx, D6, rfl, I5.at fun o e => k6 _ _ e, fun b o _ e => kk6 _ _ e, rfl, by omega⟩, ?_, ?_⟩
  · intro E' Q' hq
    exact wpAny_pyIter_listiter (I5.at fun o e => k6 _ _ e) hq
  intro k s' hI0
  obtain ⟨h1, tk1, mc, i, g, dn, rfl, Nc, gB, gH, gM, gD, gs, gJ, gK, rl, hik⟩ := (hInv _ _).1 hI0
  clear hI0
  have X1 := X.kp (new gK)
  cases k with
  | zero =>
    refine wpAny_pyNext_list_end R.hh gJ X1.cm.isList ?_ ?_
    · rw [List.getElem?_toArray, List.getElem?_eq_none (by omega)]
    intro h7 e7
    dsimp only
    refine ⟨mc, Nc.extBut e7 JC.symm, ?_⟩
    intro h8 s8
    have K8 : Kp [CC, D, J, HP] h h8 := (gK.ext e7 (by simp)).same s8 (by simp)
    have X8 := X.kp (new K8)
    have N8 : h8.Ns L mm := N.at' fun o e => K8 _ o (ni gL HPL.symm) e
    have T8 : TB h8 ds := T.at fun o e => K8 _ o (ni gT HPT.symm) e
    have D8 : h8.PlainList D (dn.map It.v).toArray := plain_same (gD.extBut e7 JD.symm) s8 DC
    have U8 : h8.PlainList DU dv.toArray := K8.list hD (ni gDU DUP)
    have C8 := X8.cx C
    have gs' : dn = popSeq (ltE (K2 cs)) cs.length f := by rw [← gs]; show dn = dn ++ []; rw [List.append_nil]
    refine Call_ ?_
    refine nmB C8 (by kernel_rfl) boot_sorted (by decide) ?_
    refine cwb1 ?_
    refine args_cons ?_
    refine nmL N8 ed ?_
    refine args_nil ?_
    have dX8 : ∀ {h' : Heap}, Keep h8 h' → ∀ j, j < cs.length → ∃ v, dv[j]? = some v ∧ XI h' v (K2 cs j) [(j : Int)] := fun k j hj => by
      obtain ⟨v, hv, xv⟩ := hdX j hj
      exact ⟨v, hv, ((xv.kp (new K8)).keep k).xi⟩
    refine sorted0_spec (κ := tuples' false) (clt := fun i j => lexX (K2 cs i, [(i : Int)]) (K2 cs j, [(j : Int)])) U8.isList (by omega) ?_ ?_ ?_
    · intro s' Qk h2 hk hq
      refine kindXI (by omega) (fun k hm => ?_) hq
      obtain ⟨j, hj⟩ := List.getElem?_of_mem hm
      have hjl : j < cs.length := by have := (List.getElem?_eq_some_iff.mp hj).1; omega
      obtain ⟨v, hv, xv⟩ := dX8 hk j hjl
      rw [hj] at hv; cases hv
      exact ⟨_, _, xv⟩
    · intro s' i j Cc hk hi hj hC
      obtain ⟨v, hv, xv⟩ := dX8 hk i (by omega)
      obtain ⟨v', hv', xv'⟩ := dX8 hk j (by omega)
      rw [List.getD_eq_getElem?_getD, List.getD_eq_getElem?_getD, hv, hv']
      exact ltXI xv xv' (R.le (k := 3) (by decide)).in1.in1.in1.units hC
    intro D9 h9 tk9 k9 f9 g9
    dsimp only at k9 f9 ⊢
    rw [dl, if_neg (by omega), due_srt (by omega)] at g9
    refine neXs (plain_keep D8 k9) g9 ?_ ?_ (R.le (k := 3) (by decide)).in1.in1.units ?_
    · rw [List.length_map, List.length_map, gs', (srt_perm (key_ord (K2 cs)) (by omega) false).length_eq, List.length_range, pp.length_eq, lf_len]
    · intro j v v' hv hv'
      rw [List.getElem?_map] at hv hv'
      obtain ⟨x, hx, rfl⟩ := Option.map_eq_some_iff.mp hv
      obtain ⟨p, hp, rfl⟩ := Option.map_eq_some_iff.mp hv'
      have hxe : x.e = p := by
        have q : ((popSeq (ltE (K2 cs)) cs.length f).map (·.e))[j]? = some x.e := by rw [List.getElem?_map, ← gs', hx]; rfl
        rw [hsrt, hp] at q
        exact (Option.some.inj q).symm
      subst hxe
      have hm : x ∈ lf f cs.length := pp.mem_iff.mp (gs' ▸ List.mem_of_getElem? hx)
      have hlt : x.e < cs.length := List.mem_range.mp (hP.mem_iff.mp (List.mem_map_of_mem hm))
      obtain ⟨v', hv', xv'⟩ := dX8 k9 x.e hlt
      refine ⟨_, _, (((hX x hm).kp (new K8)).keep k9).xi, ?_⟩
      rw [List.getD_eq_getElem?_getD, hv']
      exact xv'
    refine wpAny_truthy_bool ?_
    rw [if_neg Bool.false_ne_true]
    refine wpAny_execs_nil ?_
    exact next h9 _ (N8.keeps k9) (X8.keep k9) (T8.at fun o e => k9 _ _ e)
  | succ k =>
    have hin : i < cs.length := by omega
    obtain ⟨ti, hti⟩ := X.int hin
    refine wpAny_pyNext_list_item gJ X1.cm.isList (by rw [List.getElem?_toArray]; exact hti) ?_
    intro h7 I7 s7
    dsimp only at I7 s7 ⊢
    refine wpAny_of_eq (a := ()) rfl ?_
    refine wpAny_assign_Name ?_
    refine stN rfl (Nc.sameBut s7 JC.symm) ?_
    intro h8 tq8 N8 s8
    dsimp only at N8 s8 ⊢
    refine hideR ?_
    intro RQ hRQ
    have K8 : Kp [CC, D, J, HP] h h8 := (gK.same s7 (by simp)).same (a := CC) s8 (by simp)
    have X8 := X.kp (new K8)
    have B8 := plain_same (plain_same gB s7 PJ) s8 PC
    have D8 := plain_same (plain_same gD s7 JD.symm) s8 DC
    have J8 := I7.extBut s8.extBut JC
    have C8 := X8.cx C
    have xK : ∀ {h' : Heap}, Heap.ExtBut HP h8 h' → Kp [CC, D, J, HP] h h' := fun x => K8.ext x (by simp)
    refine Call_ ?_
    refine nmG (v := .ref 59) C8 (by kernel_rfl) ?_
    refine callWith_def (o := { cls := .type "function", data := .func fd59 }) rfl ?_
    refine args_cons ?_
    refine nmC X8.c1 ?_ rfl
    refine args_nil ?_
    refine ⟨C8.k _ _ (fn59 w), ?_⟩
    refine heappop_spec (lt := ltE (K2 cs)) (f := g) (P := fun x => XIn (SS L HP) h8 x.v (K2 cs x.e) [(x.e : Int)]) (fun h' x => (X.kp (new (xK x))).cx C) (R.le (by decide)) B8 (by omega) (fun j hj => (hX _ (gM _ (lf_mem g hj))).kp (new K8)) (fun x y hx hy => cmpX (by simp) hx hy) ?_
    intro h9 tk9 x9 B9
    dsimp only
    have K9 := xK x9
    have D9 := D8.extBut x9 PD.symm
    refine hRQ _ _ ?_
    refine appendPlain D9 (by rw [List.length_map]; omega) ?_
    intro h10 D10 s10
    dsimp only at D10 s10 ⊢
    have ph := pop_heap (ltE_ord (K2 cs)) gH
    have N10 := (N8.extBut x9 PC.symm).sameBut s10 DC.symm
    refine ⟨k, by omega, (hInv _ _).2 ⟨h10, _, _, i + 1, popped (ltE (K2 cs)) k g, dn ++ [g 0], rfl, N10, plain_same B9 s10 PD, ph.1, fun x hx => gM x (ph.2.mem_iff.mp (List.mem_cons_of_mem _ hx)), ?_, ?_, (J8.extBut x9 PJ.symm).extBut s10.extBut JD, K9.same s10 (by simp), by simp [rl], by omega⟩⟩
    · rw [List.map_append]
      exact D10
    · rw [← gs, List.append_assoc]
      rfl
end
end Mine
namespace Mine
open PySem PySem.W PyProof.Rows
theorem tp_time (c d : Nat → Int) : lexLt (tpOf c) (tpOf d) = lexLt (timeOf c) (timeOf d) := by
  simp [lexLt]
section
variable {prog : Program} {w : World} {A : Around} {E : Value → Shared → Prop} {s : Shared} {mg mb : Str → Option Value} {env : Env}
theorem callWith_defK {pos : Pos} {f : Addr} {o : Obj} {fd : FuncData} {e : Expr} {rest : List Expr} {kws : List Keyword} {Q : Value → Shared → Prop} (hdat : o.data = .func fd)
    (h : wpAny (model prog w) A (spliced (backTo pos (starEach (e :: rest) env))) (fun vs s₁ => wpAny (model prog w) A (evalAll ((backToKw pos (keywordEach kws env)).map (·.2)))
      (fun kvs s₂ => s₂.heap.get? f = some o ∧ wpAny (model prog w) A (call (.ref f) vs (((backToKw pos (keywordEach kws env)).filterMap (·.1)).zip kvs)) Q E s₂) E s₁) E s)
    (he : backTo pos (starEach (e :: rest) env) = (false, eval e env) :: backTo pos (starEach rest env) := by rfl)
    (hall : (backToKw pos (keywordEach kws env)).all (·.1.isSome) = true := by rfl) :
    wpAny (model prog w) A (callWith pos (.ref f) [] (backTo pos (starEach (e :: rest) env)) (backToKw pos (keywordEach kws env))) Q E s := by
  refine callWith_def_kw (o := o) (fd := fd) hdat ?_
  rw [he] at h ⊢
  exact evalArgs_kwB hall h
set_option maxHeartbeats 2000000 in
theorem law_8 {H h : Heap} {L S0 LT TX CM HP : Addr} {us ts vs sv : List Value} {ns : List Int} {cs : List (Nat → Int)} {mm : Str → Option Value} {tk : Nat} {ds : List (Int × Int)} {Q : Flow → Shared → Prop}
    (C : Cx w mg mb H) (R : Rm A 50) (N : h.Ns L mm) (e0 : mm (Str.ofString "script") = some (.ref S0)) (em : mm (Str.ofString "comings") = some (.ref CM)) (X : LB H L LT TX CM HP S0 us ts vs cs h) (T : TB h ds) (hd1 : ((333 : Int), (41 : Int)) ∉ ds) (hd2 : ((334 : Int), (36 : Int)) ∉ ((333 : Int), (41 : Int)) :: ds)
    (hS : H.IsList S0 sv.toArray) (hi : IntsAre sv ns)
    (next : ∀ (h' : Heap) (tk' : Nat) (n : Nat) (tn : Tok) (mm' : Str → Option Value), h'.Ns L mm' → mm' (Str.ofString "comings") = some (.ref CM) → mm' (Str.ofString "wish") = some (.int (n : Int) tn) → n < 2 ^ 20 → LB H L LT TX CM HP S0 us ts vs cs h' → TB h' (((334 : Int), (36 : Int)) :: ((333 : Int), (41 : Int)) :: ds) →
      wpAny (model prog w) A (execs ((fb fd165).drop 15) (callEnvC fd165 L 165)) Q (fun _ _ => False) { s with heap := h', toks := tk' }) :
    wpAny (model prog w) A (execs ((fb fd165).drop 12) (callEnvC fd165 L 165)) Q (fun _ _ => False) { s with heap := h, toks := tk } := by
  have z4 := X.z4
  have z10 := X.z10
  have ulen : us.length = cs.length := X.ls.length
  have C1 := X.cx C
  have LT' : L ≠ 162 := by obtain ⟨ps, g, _⟩ := T; exact ns_ne_tab N g
  have stK : ∀ {h1 h2 : Heap}, Heap.SameBut L h1 h2 → Kp (SS L HP) h1 h2 := fun s' => Kp.refl.same (a := L) s' (by simp)
  refine wpAny_execs_cons ?_
  refine wpAny_Assign_Name ?_
  refine wpAny_BinOp ?_
  refine wpAny_BinOp ?_
  refine Call_ ?_
  refine nmB C1 (by kernel_rfl) boot_sum (by decide) ?_
  refine cwb1 ?_
  refine args_cons ?_
  refine nmL N e0 ?_
  refine args_nil ?_
  refine sumL (vs := sv) R.hh (hS.at fun o e => X.K _ o e) hi ?_
  intro h2 tk2 t2 k2
  dsimp only
  have N2 := N.keeps k2
  have X2 := X.keep k2
  have T2 : TB h2 ds := T.at fun o e => k2 _ _ e
  have C2 := X2.cx C
  refine wpAny_Constant_int ?_
  refine PyProof.Rows.add_int ?_
  refine wpAny_BinOp ?_
  refine Call_ ?_
  refine nmB C2 (by kernel_rfl) boot_len (by decide) ?_
  refine cwb1 ?_
  refine args_cons ?_
  refine nmC X2.c2 ?_ rfl
  refine args_nil ?_
  refine Calls.call_len_list X2.lt.isList (by rw [List.size_toArray]; omega) ?_
  rw [List.size_toArray, ulen]
  refine wpAny_Constant_int ?_
  refine PyProof.Rows.add_int ?_
  refine mod_int' (by omega) ?_
  have W0 := Int.fmod_nonneg_of_pos (ns.sum + 2) (b := (cs.length : Int) + 2) (by omega)
  have W1 := Int.fmod_lt_of_pos (ns.sum + 2) (b := (cs.length : Int) + 2) (by omega)
  obtain ⟨n, hn⟩ := Int.eq_ofNat_of_zero_le W0
  rw [hn] at W1 ⊢
  have hn20 : n < 2 ^ 20 := by omega
  clear W0 hn
  refine stN rfl N2 ?_
  intro h3 tq3 N3 s3
  dsimp only at N3 s3 ⊢
  have X3 := X2.kp (stK s3)
  have T3 : TB h3 ds := T2.at fun o e => (s3.2 _ LT'.symm).trans e
  have C3 := X3.cx C
  -- least
  refine wpAny_execs_cons ?_
  refine wpAny_Assign_Name ?_
  refine CallK_ ?_
  refine nmG (v := .ref 121) C3 (by kernel_rfl) ?_
  refine callWith_defK (o := { cls := .type "function", data := .func fd121 }) rfl ?_
  refine args_cons ?_
  refine nmL N3 rfl ?_
  refine args_cons ?_
  refine nmL N3 em ?_
  refine args_nil ?_
  refine kws_cons ?_
  refine lamEval (cl := [(Str.ofString "texts", L + 3)]) C3 T3 rfl rfl hd1 ?_
  intro h4 q c' ctv tk4 pm x4 fq gq rq T4 C4
  dsimp only at x4 fq ⊢
  obtain ⟨ps, gT, _⟩ := id T3
  have N4 := N3.extBut x4 (ns_ne_tab N3 gT)
  have X4 := X3.tab x4
  refine kws_nil ?_
  refine ⟨C4.k _ _ (fn121 w), ?_⟩
  refine ns_spec (kf := fun i => tpOf (cs.getD i dC)) C4 (R.le (by decide)) X4.cm X4.ci (by omega) (by omega) hn20 (keyParse C4 gq rq X4.c3 X4.tx X4.tt (fun i hi => X4.ok hi) (by omega)) (fun i => by simp) ?_
  intro h5 tk5 D1 v1 k5 f5 g5 i5
  dsimp only at k5 f5 ⊢
  refine stN rfl (N4.keeps k5) ?_
  intro h6 tq6 N6 s6
  dsimp only at N6 s6 ⊢
  have X6 := (X4.keep k5).kp (stK s6)
  have D1L : D1 ≠ L := by obtain ⟨o, g⟩ := ns_some N4; exact ne_fresh f5 g
  have g6 := plain_same g5 s6 D1L
  have T6 : TB h6 (((333 : Int), (41 : Int)) :: ds) := T4.at fun o e => (s6.2 _ LT'.symm).trans (k5 _ _ e)
  have C6 := X6.cx C
  have D1T : D1 ≠ 162 := by obtain ⟨ps, g, _⟩ := T4; exact ne_fresh f5 g
  -- if
  refine wpAny_execs_cons ?_
  refine wpAny_If ?_
  refine wpAny_isTrue_Compare1 ?_
  refine nmL N6 rfl ?_
  refine Subscript_ ?_
  refine CallK_ ?_
  refine nmB C6 (by kernel_rfl) boot_sorted (by decide) ?_
  refine callWith_kw ?_
  refine args_cons ?_
  refine nmL N6 em ?_
  refine args_nil ?_
  refine kws_cons ?_
  refine lamEval (cl := [(Str.ofString "letters", L + 2)]) C6 T6 rfl rfl hd2 ?_
  intro h7 q' c'' ctv' tk7 pm' x7 fq' gq' rq' T7 C7
  dsimp only at x7 fq' ⊢
  obtain ⟨ps', gT', _⟩ := id T6
  have N7 := N6.extBut x7 (ns_ne_tab N6 gT')
  have X7 := X6.tab x7
  have g7 := g6.extBut x7 D1T
  refine kws_nil ?_
  refine sortTI (b := false) (kf := fun i => timeOf (cs.getD i dC)) (R.le (by decide)) X7.cm X7.ci (by omega) (by omega) (keyTime C7 gq' rq' X7.c2 X7.lt X7.ls (by omega)) (fun i => by simp) (ksk_s1 _ _) (fun _ => ksk_l1 _ _) (fun _ => ksk_t1 _ _) ?_
  intro h8 tk8 D2 v2 k8 f8 g8 i8
  dsimp only at k8 f8 ⊢
  refine wpAny_Slice ?_
  refine partN ?_
  refine partS ?_
  refine nmL (N7.keeps k8) rfl ?_
  refine partN ?_
  dsimp only
  have v2len : v2.length = cs.length := by rw [i8.length, List.length_map, (srt_perm (key_ord _) (by omega) _).length_eq, List.length_range]
  refine sliceI (s := ⟨_, _, _, _, _⟩) (lo := none) (hi := some _) (st := none) g8.isList .none (.int ..) .none (by decide) ?_ (by with_unfolding_all rfl) ?_
  · rw [List.size_toArray]; omega
  intro h9 k9 n9 z9
  dsimp only at k9 n9 z9 ⊢
  have i9 := slice_ints_uptoW i8 (y := (n : Int)) (by omega)
  rw [Int.toNat_natCast, ← List.map_take] at i9
  have hfun : (fun i j => lexLt (tpOf (cs.getD i dC)) (tpOf (cs.getD j dC))) = (fun i j => lexLt (timeOf (cs.getD i dC)) (timeOf (cs.getD j dC))) := by
    funext i j; exact tp_time _ _
  rw [hfun] at i5
  refine neInts (plain_keep (plain_keep g7 k8) k9) (by simpa using n9) i5 i9 R.units ?_
  refine wpAny_truthy_bool ?_
  rw [if_neg Bool.false_ne_true]
  refine wpAny_execs_nil ?_
  exact next h9 _ n _ _ ((N7.keeps k8).keeps k9) em rfl hn20 ((X7.keep k8).keep k9) (T7.at fun o e => k9 _ _ (k8 _ _ e))
end
end Mine
namespace Mine
open PySem PySem.W PyProof.Rows
section
variable {prog : Program} {w : World} {A : Around} {E : Value → Shared → Prop} {s : Shared} {mg mb : Str → Option Value} {env : Env}
set_option maxHeartbeats 2000000 in
theorem law_9 {H h : Heap} {L S0 LT TX CM HP : Addr} {us ts vs : List Value} {cs : List (Nat → Int)} {n : Nat} {tn : Tok} {mm : Str → Option Value} {tk : Nat} {ds : List (Int × Int)} {Q : Value → Shared → Prop}
    (C : Cx w mg mb H) (R : Rm A 50) (N : h.Ns L mm) (em : mm (Str.ofString "comings") = some (.ref CM)) (ew : mm (Str.ofString "wish") = some (.int (n : Int) tn)) (hn20 : n < 2 ^ 20) (X : LB H L LT TX CM HP S0 us ts vs cs h) (T : TB h ds) (hd1 : ((336 : Int), (39 : Int)) ∉ ds) (hd2 : ((337 : Int), (39 : Int)) ∉ ((336 : Int), (39 : Int)) :: ds)
    (hQ : ∀ (h' : Heap) (tk' : Nat) ds', Keep H h' → TB h' ds' → Q (.bool true) { s with heap := h', toks := tk' }) :
    wpAny (model prog w) A (execs ((fb fd165).drop 15) (callEnvC fd165 L 165)) (fun f s' => Q (match f with | .ret v => v | _ => .none) s') (fun _ _ => False) { s with heap := h, toks := tk } := by
  have z4 := X.z4
  have z10 := X.z10
  have LT' : L ≠ 162 := by obtain ⟨ps, g, _⟩ := T; exact ns_ne_tab N g
  have stK : ∀ {h1 h2 : Heap}, Heap.SameBut L h1 h2 → Kp (SS L HP) h1 h2 := fun s' => Kp.refl.same (a := L) s' (by simp)
  have C3 := X.cx C
  refine wpAny_execs_cons ?_
  refine wpAny_Assign_Name ?_
  refine CallK_ ?_
  refine nmG (v := .ref 127) C3 (by kernel_rfl) ?_
  refine callWith_defK (o := { cls := .type "function", data := .func fd127 }) rfl ?_
  refine args_cons ?_
  refine nmL N ew ?_
  refine args_cons ?_
  refine nmL N em ?_
  refine args_nil ?_
  refine kws_cons ?_
  refine lamEval (cl := [(Str.ofString "texts", L + 3)]) C3 T rfl rfl hd1 ?_
  intro h4 q c' ctv tk4 pm x4 fq gq rq T4 C4
  dsimp only at x4 fq ⊢
  obtain ⟨ps, gT, _⟩ := id T
  have N4 := N.extBut x4 (ns_ne_tab N gT)
  have X4 := X.tab x4
  refine kws_nil ?_
  refine ⟨C4.k _ _ (fn127 w), ?_⟩
  refine nl_spec (kf := fun i => tpOf (cs.getD i dC)) C4 (R.le (by decide)) X4.cm X4.ci (by omega) (by omega) hn20 (keyParse C4 gq rq X4.c3 X4.tx X4.tt (fun i hi => X4.ok hi) (by omega)) (fun i => by simp) ?_
  intro h5 tk5 D1 v1 k5 f5 g5 i5
  dsimp only at k5 f5 ⊢
  refine stN rfl (N4.keeps k5) ?_
  intro h6 tq6 N6 s6
  dsimp only at N6 s6 ⊢
  have X6 := (X4.keep k5).kp (stK s6)
  have D1L : D1 ≠ L := by obtain ⟨o, g⟩ := ns_some N4; exact ne_fresh f5 g
  have g6 := plain_same g5 s6 D1L
  have T6 : TB h6 (((336 : Int), (39 : Int)) :: ds) := T4.at fun o e => (s6.2 _ LT'.symm).trans (k5 _ _ e)
  have C6 := X6.cx C
  have D1T : D1 ≠ 162 := by obtain ⟨ps, g, _⟩ := T4; exact ne_fresh f5 g
  refine wpAny_execs_cons ?_
  refine wpAny_Return_some ?_
  refine wpAny_Compare1 ?_
  refine nmL N6 rfl ?_
  refine Subscript_ ?_
  refine CallK_ ?_
  refine nmB C6 (by kernel_rfl) boot_sorted (by decide) ?_
  refine callWith_kw ?_
  refine args_cons ?_
  refine nmL N6 em ?_
  refine args_nil ?_
  refine kws_cons ?_
  refine lamEval (cl := [(Str.ofString "letters", L + 2)]) C6 T6 rfl rfl hd2 ?_
  intro h7 q' c'' ctv' tk7 pm' x7 fq' gq' rq' T7 C7
  dsimp only at x7 fq' ⊢
  obtain ⟨ps', gT', _⟩ := id T6
  have N7 := N6.extBut x7 (ns_ne_tab N6 gT')
  have X7 := X6.tab x7
  have g7 := g6.extBut x7 D1T
  refine kws_cons ?_
  refine wpAny_Constant_bool ?_
  refine kws_nil ?_
  refine sortTI (b := true) (kf := fun i => timeOf (cs.getD i dC)) (R.le (by decide)) X7.cm X7.ci (by omega) (by omega) (keyTime C7 gq' rq' X7.c2 X7.lt X7.ls (by omega)) (fun i => by simp) (ksk_s2 _ _ _) (fun _ => ksk_l2 _ _ _) (fun _ => ksk_t2 _ _ _) ?_
  intro h8 tk8 D2 v2 k8 f8 g8 i8
  dsimp only at k8 f8 ⊢
  refine wpAny_Slice ?_
  refine partN ?_
  refine partS ?_
  refine nmL (N7.keeps k8) ew ?_
  refine partN ?_
  dsimp only
  have v2len : v2.length = cs.length := by rw [i8.length, List.length_map, (srt_perm (key_ord _) (by omega) _).length_eq, List.length_range]
  refine sliceI (s := ⟨_, _, _, _, _⟩) (lo := none) (hi := some _) (st := none) g8.isList .none (.int ..) .none (by decide) ?_ (by with_unfolding_all rfl) ?_
  · rw [List.size_toArray]; omega
  intro h9 k9 n9 z9
  dsimp only at k9 n9 z9 ⊢
  have i9 := slice_ints_uptoW i8 (y := (n : Int)) (by omega)
  rw [Int.toNat_natCast, ← List.map_take] at i9
  have hfun : (fun i j => lexLt (tpOf (cs.getD i dC)) (tpOf (cs.getD j dC))) = (fun i j => lexLt (timeOf (cs.getD i dC)) (timeOf (cs.getD j dC))) := by
    funext i j; exact tp_time _ _
  rw [hfun] at i5
  refine eqInts (plain_keep (plain_keep g7 k8) k9) (by simpa using n9) i5 i9 R.units ?_
  exact hQ h9 _ _ ((X7.keep k8).keep k9).K (T7.at fun o e => k9 _ _ (k8 _ _ e))

/-- the law itself -/
theorem law_spec {S0 : Addr} {vs : List Value} {ns : List Int} {Q : Value → Shared → Prop} (C : Cx w mg mb s.heap) (R : Rm A 51) (T : s.heap.get? 162 = some (tabObj #[])) (hl : s.heap.IsList S0 vs.toArray) (hi : IntsAre vs ns) (hn : ns.length ≤ 63)
    (hQ : ∀ (h' : Heap) (tk' : Nat) ds', Keep (s.heap.hide 162) h' → TB h' ds' → Q (.bool true) { s with heap := h', toks := tk' }) :
    wpAny (model prog w) A (call (.ref 165) [.ref S0]) Q E s := by
  have kH : Keep (s.heap.hide 162) s.heap := fun b o e => Heap.of_hide e
  have CH : Cx w mg mb (s.heap.hide 162) := C.but T fun b o hb e => (Heap.hide_ne _ hb).trans e
  have hS : (s.heap.hide 162).IsList S0 vs.toArray := by
    obtain ⟨o, e, c, n, d⟩ := hl
    refine ⟨o, (Heap.hide_ne _ (fun e' => ?_)).trans e, c, n, d⟩
    rw [e', T] at e; cases e; cases c
  have fr : ∀ x, s.heap.objs.size ≤ x → (s.heap.hide 162).get? x = none := fun x hx => Heap.get?_none_of_le (by rw [Heap.hide_size]; exact hx)
  refine enterC [(Str.ofString "script", .ref S0)] C R (fn165 w) (by kernel_rfl) rfl (BindsTo.of_eq rfl) rfl ?_ ?_
  · intro x hx
    rw [List.mem_singleton] at hx
    subst hx
    exact .inl rfl
  intro h1 tk1 N1 k1 C1 R1 hcell
  have c1 : h1.IsCell (s.heap.objs.size + 1) none := hcell (Str.ofString "heap") _ rfl
  have c2 : h1.IsCell (s.heap.objs.size + 2) none := hcell (Str.ofString "letters") _ rfl
  have c3 : h1.IsCell (s.heap.objs.size + 3) none := hcell (Str.ofString "texts") _ rfl
  have T1 : TB h1 [] := TB.none (k1 _ _ T)
  have K1 : Keep (s.heap.hide 162) h1 := fun b o e => k1 _ _ (kH _ _ e)
  have fL := fr _ (Nat.le_refl s.heap.objs.size)
  have f2 : (s.heap.hide 162).get? 162 = none := Heap.hide_self _ _
  generalize s.heap.objs.size = L at *
  refine law_1 (S0 := S0) CH R1 N1 K1 fL (fun k hk => fr _ (Nat.le_add_right _ _)) rfl c1 c2 c3 hS hi hn T1 ?_
  intro h2 tk2 LT TX us ts cs mm2 N2 e2 K2 a1 a2 a3 l2 L2 z4 z10 x2 t2 T2
  refine law_2 CH R1 N2 K2 fL f2 e2 a1 a2 a3 (fr _ (Nat.le_add_right _ _)) l2 L2 z4 z10 x2 t2 T2 ?_
  intro h3 tk3 CM HP vs3 f3 mm3 N3 e3 em3 X3 T3 B3 H3 P3 F3
  refine law_3 CH R1 N3 e3 em3 X3 T3 B3 H3 P3 F3 ?_
  intro h4 tk4 D rs mm4 N4 e4 em4 et4 X4 T4 B4 D4 i4 n4 _
  refine law_4 CH R1 N4 e4 em4 et4 X4 T4 (by simp) B4 D4 i4 n4 ?_
  intro h5 tk5 N5 X5 T5 B5
  refine law_5 CH R1 N5 e4 em4 X5 T5 B5 ?_
  intro h6 tk6 f6 mm6 N6 e6 em6 X6 T6 B6 H6 P6 F6
  refine law_6 CH R1 N6 e6 em6 X6 T6 B6 F6 ?_
  intro h7 tk7 DU dv mm7 N7 e7 em7 ed7 X7 T7 B7 F7 D7 dl7 d7 n7
  refine law_7 CH R1 N7 em7 ed7 X7 T7 B7 H6 P6 F7 D7 dl7 d7 n7 ?_
  intro h8 tk8 N8 X8 T8
  refine law_8 CH R1 N8 e7 em7 X8 T8 (by decide) (by decide) hS hi ?_
  intro h9 tk9 n tn mm9 N9 em9 ew9 hn9 X9 T9
  exact law_9 (Q := Q) CH R1 N9 em9 ew9 hn9 X9 T9 (by decide) (by decide) hQ
end
end Mine
namespace Mine
open PySem PySem.W PyProof.Rows
theorem rm_caller : Rm callerA 51 := by
  refine ⟨by decide, by decide, rfl⟩
theorem oldK_of {h h' : Heap} {ds : List (Int × Int)} (c : CodeHd h 164 162) (t : h.get? 162 = some (tabObj #[])) (k : Keep (h.hide 162) h') (T : TB h' ds) : OldK h h' := by
  obtain ⟨ps, e, _⟩ := T
  refine ⟨fun b o g => ?_, fun b o g => ?_⟩
  · by_cases hb : b = 162
    · subst hb
      rw [t] at g; cases g
      refine .inr (.inl ⟨(c.tab t).isCodeTable, rfl, #[], ps, rfl, ?_⟩)
      rw [e]
      simp
    · exact .inl (k b o ((Heap.hide_ne _ hb).trans g))
  · by_cases hb : b = 162
    · subst hb; exact ⟨_, e⟩
    · exact ⟨o, k b o ((Heap.hide_ne _ hb).trans g)⟩
theorem lawAt {w : World} {mg mb : Str → Option Value} {h : Heap} (C : Cx w mg mb h) {fa : Addr} (e : mg (Str.ofString "law") = some (.ref fa)) : fa = 165 := by
  have := C.glob (x := Str.ofString "law") (v := .ref 165) (by kernel_rfl)
  rw [e] at this
  injection this with this
  injection this
end Mine
open PySem PySem.W PyProof.Rows
set_option maxHeartbeats 4000000 in
theorem PySem.Challenge.cw_mq0419_01_holds : PySem.Challenge.rw_mq0419_01.Holds := by
  refine Mine.hd fun d kwd hdk => ?_
  intro w s₀ s₁ mg mb G Y fa o pm cd doc dV kV ho hd hcd hD hmg hg args vals as hpre hlay hrd hwl hlo
  have C : Mine.Cx w mg mb s₁.heap := ⟨km_in_of Y, G.T.g, G.T.b, G.T.builtins, G.T.nolimit, G.T.nodigits, G.T.bmain⟩
  have KT := km_tabs_of Y 162 (by simp)
  have hmg' : mg (Str.ofString "law") = some (.ref fa) := (defOf_name hdk) ▸ hmg
  clear Y ho hd hcd hD hmg
  have hfa := Mine.lawAt C hmg'
  subst hfa
  clear hmg' G
  wrow_args hpre hlay hrd hwl hlo
  rename Heap.IsList _ _ _ => hL
  rename IntsAre _ _ => hI
  rename ¬ _ => hn
  refine Mine.law_spec C Mine.rm_caller KT hL hI (by omega) (fun h' tk' ds' k T => ?_)
  exact ⟨.inl ⟨.bool true, .bool true, [], rfl, fun _ => rfl, .bool true, by kernel_rfl, fun _ => ⟨List.nodup_nil, fun a ha => nomatch ha⟩⟩, Mine.oldK_of (Mine.lawHd C) KT k T, rfl, AllBare.of_eq hg⟩
