import PyProof.Rows.All
import Wide.All
import OpenK.AllK
import Wide.FinOn
import PySem.Challenge.RW_tl0016_01

noncomputable section
open PySem PySem.W PyProof.Rows PySem.Calls
set_option Elab.async false
set_option maxRecDepth 100000
set_option maxHeartbeats 8000000
namespace Mine
noncomputable section
abbrev Pw : Program := PySem.Challenge.rw_tl0016_01.row.prog
def fAt (i : Nat) : Stmt := (PySem.Challenge.pw_tl0016_01.main.body[i]?).getD (.Pass ⟨0, 0, 0, 0⟩)
def mAt (i j : Nat) : Stmt := match fAt i with | .ClassDef _ _ _ b _ _ _ _ _ _ _ => (b[j]?).getD (.Pass ⟨0, 0, 0, 0⟩) | s => s
def fP : Stmt → Arguments | .FunctionDef _ a _ _ _ _ _ _ _ _ => a | _ => ⟨[], [], none, [], [], none, []⟩
def fB : Stmt → List Stmt | .FunctionDef _ _ b _ _ _ _ _ _ _ => b | _ => []
def fS : Stmt → Scope | .FunctionDef _ _ _ _ _ _ s _ _ _ => s | _ => { kind := .function, names := [], isGenerator := false, isCoroutine := false }
noncomputable def Kf : Params → Frag := fun P =>
  (nat_lit 2, ⟨.none, none, .dict [].toArray 0, #[]⟩) ::
  (nat_lit 3, ⟨.type "dict", none, .dict [⟨PyData.keyHash P (.ofString "__name__"), .str (.ofString "__name__") 165, .str (.ofString "law_tl0016_01") 409⟩, ⟨PyData.keyHash P (.ofString "__doc__"), .str (.ofString "__doc__") 166, .none⟩, ⟨PyData.keyHash P (.ofString "__package__"), .str (.ofString "__package__") 167, .none⟩, ⟨PyData.keyHash P (.ofString "__loader__"), .str (.ofString "__loader__") 168, .builtin "__main__.__loader__#opaque"⟩, ⟨PyData.keyHash P (.ofString "__spec__"), .str (.ofString "__spec__") 169, .none⟩, ⟨PyData.keyHash P (.ofString "__annotations__"), .str (.ofString "__annotations__") 170, .ref 6⟩, ⟨PyData.keyHash P (.ofString "__builtins__"), .str (.ofString "__builtins__") 171, .ref 4⟩, ⟨PyData.keyHash P (.ofString "__file__"), .str (.ofString "__file__") 173, .str (.ofString "/claim/cut.py") 172⟩, ⟨PyData.keyHash P (.ofString "__cached__"), .str (.ofString "__cached__") 174, .none⟩, ⟨PyData.keyHash P (.ofString "_wall"), .str (.ofString "_wall") 193, .ref 21⟩, ⟨PyData.keyHash P (.ofString "insort_right"), .str (.ofString "insort_right") 208, .ref 30⟩, ⟨PyData.keyHash P (.ofString "bisect_right"), .str (.ofString "bisect_right") 222, .ref 39⟩, ⟨PyData.keyHash P (.ofString "insort_left"), .str (.ofString "insort_left") 235, .ref 48⟩, ⟨PyData.keyHash P (.ofString "bisect_left"), .str (.ofString "bisect_left") 249, .ref 57⟩, ⟨PyData.keyHash P (.ofString "EMPTYSTRING"), .str (.ofString "EMPTYSTRING") 253, .str (.ofString "") 252⟩, ⟨PyData.keyHash P (.ofString "_Accumulator"), .str (.ofString "_Accumulator") 348, .ref 137⟩, ⟨PyData.keyHash P (.ofString "_netrclex"), .str (.ofString "_netrclex") 408, .ref 179⟩, ⟨PyData.keyHash P (.ofString "_law_lexer"), .str (.ofString "_law_lexer") 421, .ref 190⟩, ⟨PyData.keyHash P (.ofString "_law_text"), .str (.ofString "_law_text") 427, .ref 195⟩, ⟨PyData.keyHash P (.ofString "_law_size"), .str (.ofString "_law_size") 434, .ref 202⟩, ⟨PyData.keyHash P (.ofString "_law_walk_with_a_row"), .str (.ofString "_law_walk_with_a_row") 440, .ref 207⟩, ⟨PyData.keyHash P (.ofString "_law_walks"), .str (.ofString "_law_walks") 453, .ref 214⟩, ⟨PyData.keyHash P (.ofString "_law_turned"), .str (.ofString "_law_turned") 459, .ref 219⟩, ⟨PyData.keyHash P (.ofString "law"), .str (.ofString "law") 465, .ref 224⟩].toArray 24, #[]⟩) ::
  (nat_lit 15, ⟨.type "tuple", none, .seq #[] 0, #[]⟩) ::
  (nat_lit 17, ⟨.type "tuple", none, .seq #[.str (.ofString "k") 190] 0, #[]⟩) ::
  (nat_lit 18, ⟨.type "tuple", none, .seq #[] 0, #[]⟩) ::
  (nat_lit 20, ⟨.type "code", none, .fields #[.str (.ofString "_wall") 187, .str (.ofString "_wall") 188, .str (.ofString "/claim/cut.py") 189, .int 1 0, .int 1 0, .int 0 0, .int 0 0, .int 3 0, .ref 15, .bool true, .int 181 0, .ref 16, .none, .ref 17, .ref 18, .ref 19, .int 191 0, .int 1 0, .str (.ofString "/claim/cut.py") 192], #[]⟩) ::
  (nat_lit 21, ⟨.type "function", none, .func ⟨(.ofString "_wall"), (.ofString "_wall"), fP (fAt 0), .stmts (fB (fAt 0)), fS (fAt 0), 3, [], .none, .none, .none, .str (.ofString "__main__") 164, none, .ref 20, .none, 0⟩, #[]⟩) ::
  (nat_lit 22, ⟨.type "tuple", none, .seq #[.int 0 196, .none] 0, #[]⟩) ::
  (nat_lit 23, ⟨.type "dict", none, .dict [⟨PyData.keyHash P (.ofString "key"), .str (.ofString "key") 197, .none⟩].toArray 1, #[]⟩) ::
  (nat_lit 24, ⟨.type "tuple", none, .seq #[] 0, #[]⟩) ::
  (nat_lit 26, ⟨.type "tuple", none, .seq #[.str (.ofString "a") 201, .str (.ofString "x") 202, .str (.ofString "lo") 203, .str (.ofString "hi") 204, .str (.ofString "key") 205] 0, #[]⟩) ::
  (nat_lit 27, ⟨.type "tuple", none, .seq #[] 0, #[]⟩) ::
  (nat_lit 29, ⟨.type "code", none, .fields #[.str (.ofString "insort_right") 198, .str (.ofString "insort_right") 199, .str (.ofString "/claim/cut.py") 200, .int 5 0, .int 4 0, .int 0 0, .int 1 0, .int 3 0, .ref 24, .bool true, .int 181 0, .ref 25, .none, .ref 26, .ref 27, .ref 28, .int 206 0, .int 5 0, .str (.ofString "/claim/cut.py") 207], #[]⟩) ::
  (nat_lit 30, ⟨.type "function", none, .func ⟨(.ofString "insort_right"), (.ofString "insort_right"), fP (fAt 2), .stmts (fB (fAt 2)), fS (fAt 2), 3, [], .ref 22, .ref 23, .none, .str (.ofString "cpy313.bisect") 194, none, .ref 29, .none, 0⟩, #[]⟩) ::
  (nat_lit 31, ⟨.type "tuple", none, .seq #[.int 0 209, .none] 0, #[]⟩) ::
  (nat_lit 32, ⟨.type "dict", none, .dict [⟨PyData.keyHash P (.ofString "key"), .str (.ofString "key") 210, .none⟩].toArray 1, #[]⟩) ::
  (nat_lit 33, ⟨.type "tuple", none, .seq #[] 0, #[]⟩) ::
  (nat_lit 35, ⟨.type "tuple", none, .seq #[.str (.ofString "a") 214, .str (.ofString "x") 215, .str (.ofString "lo") 216, .str (.ofString "hi") 217, .str (.ofString "key") 218, .str (.ofString "mid") 219] 0, #[]⟩) ::
  (nat_lit 36, ⟨.type "tuple", none, .seq #[] 0, #[]⟩) ::
  (nat_lit 38, ⟨.type "code", none, .fields #[.str (.ofString "bisect_right") 211, .str (.ofString "bisect_right") 212, .str (.ofString "/claim/cut.py") 213, .int 11 0, .int 4 0, .int 0 0, .int 1 0, .int 3 0, .ref 33, .bool true, .int 181 0, .ref 34, .none, .ref 35, .ref 36, .ref 37, .int 220 0, .int 11 0, .str (.ofString "/claim/cut.py") 221], #[]⟩) ::
  (nat_lit 39, ⟨.type "function", none, .func ⟨(.ofString "bisect_right"), (.ofString "bisect_right"), fP (fAt 3), .stmts (fB (fAt 3)), fS (fAt 3), 3, [], .ref 31, .ref 32, .none, .str (.ofString "cpy313.bisect") 194, none, .ref 38, .none, 0⟩, #[]⟩) ::
  (nat_lit 40, ⟨.type "tuple", none, .seq #[.int 0 223, .none] 0, #[]⟩) ::
  (nat_lit 41, ⟨.type "dict", none, .dict [⟨PyData.keyHash P (.ofString "key"), .str (.ofString "key") 224, .none⟩].toArray 1, #[]⟩) ::
  (nat_lit 42, ⟨.type "tuple", none, .seq #[] 0, #[]⟩) ::
  (nat_lit 44, ⟨.type "tuple", none, .seq #[.str (.ofString "a") 228, .str (.ofString "x") 229, .str (.ofString "lo") 230, .str (.ofString "hi") 231, .str (.ofString "key") 232] 0, #[]⟩) ::
  (nat_lit 45, ⟨.type "tuple", none, .seq #[] 0, #[]⟩) ::
  (nat_lit 47, ⟨.type "code", none, .fields #[.str (.ofString "insort_left") 225, .str (.ofString "insort_left") 226, .str (.ofString "/claim/cut.py") 227, .int 31 0, .int 4 0, .int 0 0, .int 1 0, .int 3 0, .ref 42, .bool true, .int 181 0, .ref 43, .none, .ref 44, .ref 45, .ref 46, .int 233 0, .int 31 0, .str (.ofString "/claim/cut.py") 234], #[]⟩) ::
  (nat_lit 48, ⟨.type "function", none, .func ⟨(.ofString "insort_left"), (.ofString "insort_left"), fP (fAt 4), .stmts (fB (fAt 4)), fS (fAt 4), 3, [], .ref 40, .ref 41, .none, .str (.ofString "cpy313.bisect") 194, none, .ref 47, .none, 0⟩, #[]⟩) ::
  (nat_lit 49, ⟨.type "tuple", none, .seq #[.int 0 236, .none] 0, #[]⟩) ::
  (nat_lit 50, ⟨.type "dict", none, .dict [⟨PyData.keyHash P (.ofString "key"), .str (.ofString "key") 237, .none⟩].toArray 1, #[]⟩) ::
  (nat_lit 51, ⟨.type "tuple", none, .seq #[] 0, #[]⟩) ::
  (nat_lit 53, ⟨.type "tuple", none, .seq #[.str (.ofString "a") 241, .str (.ofString "x") 242, .str (.ofString "lo") 243, .str (.ofString "hi") 244, .str (.ofString "key") 245, .str (.ofString "mid") 246] 0, #[]⟩) ::
  (nat_lit 54, ⟨.type "tuple", none, .seq #[] 0, #[]⟩) ::
  (nat_lit 56, ⟨.type "code", none, .fields #[.str (.ofString "bisect_left") 238, .str (.ofString "bisect_left") 239, .str (.ofString "/claim/cut.py") 240, .int 37 0, .int 4 0, .int 0 0, .int 1 0, .int 3 0, .ref 51, .bool true, .int 181 0, .ref 52, .none, .ref 53, .ref 54, .ref 55, .int 247 0, .int 37 0, .str (.ofString "/claim/cut.py") 248], #[]⟩) ::
  (nat_lit 57, ⟨.type "function", none, .func ⟨(.ofString "bisect_left"), (.ofString "bisect_left"), fP (fAt 5), .stmts (fB (fAt 5)), fS (fAt 5), 3, [], .ref 49, .ref 50, .none, .str (.ofString "cpy313.bisect") 194, none, .ref 56, .none, 0⟩, #[]⟩) ::
  (nat_lit 58, ⟨.type "tuple", none, .seq #[.type "list"] 0, #[]⟩) ::
  (nat_lit 61, ⟨.type "cell", none, .cell (some (.ref 137)), #[]⟩) ::
  (nat_lit 66, ⟨.type "tuple", none, .seq #[.int 0 266] 0, #[]⟩) ::
  (nat_lit 67, ⟨.type "tuple", none, .seq #[.ref 61] 0, #[]⟩) ::
  (nat_lit 68, ⟨.type "tuple", none, .seq #[.str (.ofString "__class__") 270] 0, #[]⟩) ::
  (nat_lit 70, ⟨.type "tuple", none, .seq #[.str (.ofString "self") 271, .str (.ofString "initial_size") 272] 0, #[]⟩) ::
  (nat_lit 71, ⟨.type "tuple", none, .seq #[] 0, #[]⟩) ::
  (nat_lit 73, ⟨.type "code", none, .fields #[.str (.ofString "__init__") 267, .str (.ofString "_Accumulator.__init__") 268, .str (.ofString "/claim/cut.py") 269, .int 61 0, .int 2 0, .int 0 0, .int 0 0, .int 3 0, .ref 68, .bool true, .int 181 0, .ref 69, .none, .ref 70, .ref 71, .ref 72, .int 273 0, .int 61 0, .str (.ofString "/claim/cut.py") 274], #[]⟩) ::
  (nat_lit 74, ⟨.type "function", none, .func ⟨(.ofString "__init__"), (.ofString "_Accumulator.__init__"), fP (mAt 8 0), .stmts (fB (mAt 8 0)), fS (mAt 8 0), 3, [((.ofString "__class__"), 61)], .ref 66, .none, .none, .str (.ofString "cpy313.email.header") 250, none, .ref 73, .ref 67, 0⟩, #[]⟩) ::
  (nat_lit 75, ⟨.type "tuple", none, .seq #[] 0, #[]⟩) ::
  (nat_lit 77, ⟨.type "tuple", none, .seq #[.str (.ofString "self") 279, .str (.ofString "fws") 280, .str (.ofString "string") 281] 0, #[]⟩) ::
  (nat_lit 78, ⟨.type "tuple", none, .seq #[] 0, #[]⟩) ::
  (nat_lit 80, ⟨.type "code", none, .fields #[.str (.ofString "push") 276, .str (.ofString "_Accumulator.push") 277, .str (.ofString "/claim/cut.py") 278, .int 65 0, .int 3 0, .int 0 0, .int 0 0, .int 3 0, .ref 75, .bool true, .int 181 0, .ref 76, .none, .ref 77, .ref 78, .ref 79, .int 282 0, .int 65 0, .str (.ofString "/claim/cut.py") 283], #[]⟩) ::
  (nat_lit 81, ⟨.type "function", none, .func ⟨(.ofString "push"), (.ofString "_Accumulator.push"), fP (mAt 8 1), .stmts (fB (mAt 8 1)), fS (mAt 8 1), 3, [], .none, .none, .none, .str (.ofString "cpy313.email.header") 250, none, .ref 80, .none, 0⟩, #[]⟩) ::
  (nat_lit 82, ⟨.type "tuple", none, .seq #[.int 0 285] 0, #[]⟩) ::
  (nat_lit 83, ⟨.type "tuple", none, .seq #[] 0, #[]⟩) ::
  (nat_lit 85, ⟨.type "tuple", none, .seq #[.str (.ofString "self") 289, .str (.ofString "i") 290] 0, #[]⟩) ::
  (nat_lit 86, ⟨.type "tuple", none, .seq #[] 0, #[]⟩) ::
  (nat_lit 88, ⟨.type "code", none, .fields #[.str (.ofString "pop_from") 286, .str (.ofString "_Accumulator.pop_from") 287, .str (.ofString "/claim/cut.py") 288, .int 68 0, .int 2 0, .int 0 0, .int 0 0, .int 3 0, .ref 83, .bool true, .int 181 0, .ref 84, .none, .ref 85, .ref 86, .ref 87, .int 291 0, .int 68 0, .str (.ofString "/claim/cut.py") 292], #[]⟩) ::
  (nat_lit 89, ⟨.type "function", none, .func ⟨(.ofString "pop_from"), (.ofString "_Accumulator.pop_from"), fP (mAt 8 2), .stmts (fB (mAt 8 2)), fS (mAt 8 2), 3, [], .ref 82, .none, .none, .str (.ofString "cpy313.email.header") 250, none, .ref 88, .none, 0⟩, #[]⟩) ::
  (nat_lit 90, ⟨.type "tuple", none, .seq #[.ref 61] 0, #[]⟩) ::
  (nat_lit 91, ⟨.type "tuple", none, .seq #[.str (.ofString "__class__") 297] 0, #[]⟩) ::
  (nat_lit 93, ⟨.type "tuple", none, .seq #[.str (.ofString "self") 298] 0, #[]⟩) ::
  (nat_lit 94, ⟨.type "tuple", none, .seq #[] 0, #[]⟩) ::
  (nat_lit 96, ⟨.type "code", none, .fields #[.str (.ofString "pop") 294, .str (.ofString "_Accumulator.pop") 295, .str (.ofString "/claim/cut.py") 296, .int 71 0, .int 1 0, .int 0 0, .int 0 0, .int 3 0, .ref 91, .bool true, .int 181 0, .ref 92, .none, .ref 93, .ref 94, .ref 95, .int 299 0, .int 71 0, .str (.ofString "/claim/cut.py") 300], #[]⟩) ::
  (nat_lit 97, ⟨.type "function", none, .func ⟨(.ofString "pop"), (.ofString "_Accumulator.pop"), fP (mAt 8 3), .stmts (fB (mAt 8 3)), fS (mAt 8 3), 3, [((.ofString "__class__"), 61)], .none, .none, .none, .str (.ofString "cpy313.email.header") 250, none, .ref 96, .ref 90, 0⟩, #[]⟩) ::
  (nat_lit 98, ⟨.type "tuple", none, .seq #[] 0, #[]⟩) ::
  (nat_lit 100, ⟨.type "tuple", none, .seq #[.str (.ofString "self") 305] 0, #[]⟩) ::
  (nat_lit 101, ⟨.type "tuple", none, .seq #[] 0, #[]⟩) ::
  (nat_lit 103, ⟨.type "code", none, .fields #[.str (.ofString "__len__") 302, .str (.ofString "_Accumulator.__len__") 303, .str (.ofString "/claim/cut.py") 304, .int 76 0, .int 1 0, .int 0 0, .int 0 0, .int 3 0, .ref 98, .bool true, .int 181 0, .ref 99, .none, .ref 100, .ref 101, .ref 102, .int 306 0, .int 76 0, .str (.ofString "/claim/cut.py") 307], #[]⟩) ::
  (nat_lit 104, ⟨.type "function", none, .func ⟨(.ofString "__len__"), (.ofString "_Accumulator.__len__"), fP (mAt 8 4), .stmts (fB (mAt 8 4)), fS (mAt 8 4), 3, [], .none, .none, .none, .str (.ofString "cpy313.email.header") 250, none, .ref 103, .none, 0⟩, #[]⟩) ::
  (nat_lit 105, ⟨.type "tuple", none, .seq #[] 0, #[]⟩) ::
  (nat_lit 107, ⟨.type "tuple", none, .seq #[.str (.ofString "self") 312] 0, #[]⟩) ::
  (nat_lit 108, ⟨.type "tuple", none, .seq #[] 0, #[]⟩) ::
  (nat_lit 110, ⟨.type "code", none, .fields #[.str (.ofString "__str__") 309, .str (.ofString "_Accumulator.__str__") 310, .str (.ofString "/claim/cut.py") 311, .int 79 0, .int 1 0, .int 0 0, .int 0 0, .int 3 0, .ref 105, .bool true, .int 181 0, .ref 106, .none, .ref 107, .ref 108, .ref 109, .int 313 0, .int 79 0, .str (.ofString "/claim/cut.py") 314], #[]⟩) ::
  (nat_lit 111, ⟨.type "function", none, .func ⟨(.ofString "__str__"), (.ofString "_Accumulator.__str__"), fP (mAt 8 5), .stmts (fB (mAt 8 5)), fS (mAt 8 5), 3, [], .none, .none, .none, .str (.ofString "cpy313.email.header") 250, none, .ref 110, .none, 0⟩, #[]⟩) ::
  (nat_lit 112, ⟨.type "tuple", none, .seq #[.none] 0, #[]⟩) ::
  (nat_lit 113, ⟨.type "tuple", none, .seq #[] 0, #[]⟩) ::
  (nat_lit 115, ⟨.type "tuple", none, .seq #[.str (.ofString "self") 319, .str (.ofString "startval") 320] 0, #[]⟩) ::
  (nat_lit 116, ⟨.type "tuple", none, .seq #[] 0, #[]⟩) ::
  (nat_lit 118, ⟨.type "code", none, .fields #[.str (.ofString "reset") 316, .str (.ofString "_Accumulator.reset") 317, .str (.ofString "/claim/cut.py") 318, .int 82 0, .int 2 0, .int 0 0, .int 0 0, .int 3 0, .ref 113, .bool true, .int 181 0, .ref 114, .none, .ref 115, .ref 116, .ref 117, .int 321 0, .int 82 0, .str (.ofString "/claim/cut.py") 322], #[]⟩) ::
  (nat_lit 119, ⟨.type "function", none, .func ⟨(.ofString "reset"), (.ofString "_Accumulator.reset"), fP (mAt 8 6), .stmts (fB (mAt 8 6)), fS (mAt 8 6), 3, [], .ref 112, .none, .none, .str (.ofString "cpy313.email.header") 250, none, .ref 118, .none, 0⟩, #[]⟩) ::
  (nat_lit 120, ⟨.type "tuple", none, .seq #[] 0, #[]⟩) ::
  (nat_lit 122, ⟨.type "tuple", none, .seq #[.str (.ofString "self") 327] 0, #[]⟩) ::
  (nat_lit 123, ⟨.type "tuple", none, .seq #[] 0, #[]⟩) ::
  (nat_lit 125, ⟨.type "code", none, .fields #[.str (.ofString "is_onlyws") 324, .str (.ofString "_Accumulator.is_onlyws") 325, .str (.ofString "/claim/cut.py") 326, .int 85 0, .int 1 0, .int 0 0, .int 0 0, .int 3 0, .ref 120, .bool true, .int 181 0, .ref 121, .none, .ref 122, .ref 123, .ref 124, .int 328 0, .int 85 0, .str (.ofString "/claim/cut.py") 329], #[]⟩) ::
  (nat_lit 126, ⟨.type "function", none, .func ⟨(.ofString "is_onlyws"), (.ofString "_Accumulator.is_onlyws"), fP (mAt 8 7), .stmts (fB (mAt 8 7)), fS (mAt 8 7), 3, [], .none, .none, .none, .str (.ofString "cpy313.email.header") 250, none, .ref 125, .none, 0⟩, #[]⟩) ::
  (nat_lit 127, ⟨.type "tuple", none, .seq #[.ref 61] 0, #[]⟩) ::
  (nat_lit 128, ⟨.type "tuple", none, .seq #[.str (.ofString "__class__") 334] 0, #[]⟩) ::
  (nat_lit 130, ⟨.type "tuple", none, .seq #[.str (.ofString "self") 335] 0, #[]⟩) ::
  (nat_lit 131, ⟨.type "tuple", none, .seq #[] 0, #[]⟩) ::
  (nat_lit 133, ⟨.type "code", none, .fields #[.str (.ofString "part_count") 331, .str (.ofString "_Accumulator.part_count") 332, .str (.ofString "/claim/cut.py") 333, .int 88 0, .int 1 0, .int 0 0, .int 0 0, .int 3 0, .ref 128, .bool true, .int 181 0, .ref 129, .none, .ref 130, .ref 131, .ref 132, .int 336 0, .int 88 0, .str (.ofString "/claim/cut.py") 337], #[]⟩) ::
  (nat_lit 134, ⟨.type "function", none, .func ⟨(.ofString "part_count"), (.ofString "_Accumulator.part_count"), fP (mAt 8 8), .stmts (fB (mAt 8 8)), fS (mAt 8 8), 3, [((.ofString "__class__"), 61)], .none, .none, .none, .str (.ofString "cpy313.email.header") 250, none, .ref 133, .ref 127, 0⟩, #[]⟩) ::
  (nat_lit 135, ⟨.type "tuple", none, .seq #[.str (.ofString "_initial_size") 339] 0, #[]⟩) ::
  (nat_lit 136, ⟨.type "dict", none, .dict [⟨PyData.keyHash P (.ofString "__module__"), .str (.ofString "__module__") 261, .str (.ofString "cpy313.email.header") 250⟩, ⟨PyData.keyHash P (.ofString "__firstlineno__"), .str (.ofString "__firstlineno__") 265, .int 59 264⟩, ⟨PyData.keyHash P (.ofString "__init__"), .str (.ofString "__init__") 275, .ref 74⟩, ⟨PyData.keyHash P (.ofString "push"), .str (.ofString "push") 284, .ref 81⟩, ⟨PyData.keyHash P (.ofString "pop_from"), .str (.ofString "pop_from") 293, .ref 89⟩, ⟨PyData.keyHash P (.ofString "pop"), .str (.ofString "pop") 301, .ref 97⟩, ⟨PyData.keyHash P (.ofString "__len__"), .str (.ofString "__len__") 308, .ref 104⟩, ⟨PyData.keyHash P (.ofString "__str__"), .str (.ofString "__str__") 315, .ref 111⟩, ⟨PyData.keyHash P (.ofString "reset"), .str (.ofString "reset") 323, .ref 119⟩, ⟨PyData.keyHash P (.ofString "is_onlyws"), .str (.ofString "is_onlyws") 330, .ref 126⟩, ⟨PyData.keyHash P (.ofString "part_count"), .str (.ofString "part_count") 338, .ref 134⟩, ⟨PyData.keyHash P (.ofString "__static_attributes__"), .str (.ofString "__static_attributes__") 340, .ref 135⟩, ⟨PyData.keyHash P (.ofString "__dict__"), .str (.ofString "__dict__") 343, .ref 138⟩, ⟨PyData.keyHash P (.ofString "__weakref__"), .str (.ofString "__weakref__") 345, .ref 139⟩, ⟨PyData.keyHash P (.ofString "__doc__"), .str (.ofString "__doc__") 346, .none⟩].toArray 5, #[]⟩) ::
  (nat_lit 137, ⟨.type "type", none, .cls ⟨(.ofString "_Accumulator"), [.type "list"], [.ref 137, .type "list", .type "object"], 136, (.ofString "_Accumulator"), true, [], [], false, none, false⟩, #[(some (.ref 58)), none, (some (.str (.ofString "_Accumulator") 254)), (some (.str (.ofString "_Accumulator") 262)), (some (.builtin "list.__new__")), (some (.bool true))]⟩) ::
  (nat_lit 138, ⟨.type "getset_descriptor", none, .fields #[.str (.ofString "__dict__") 342, .ref 137, .builtin "function.__dict__", .builtin "function.__dict__#set"], #[]⟩) ::
  (nat_lit 139, ⟨.type "getset_descriptor", none, .fields #[.str (.ofString "__weakref__") 344, .ref 137, .builtin "ExceptionGroup.__weakref__", .none], #[]⟩) ::
  (nat_lit 149, ⟨.type "tuple", none, .seq #[] 0, #[]⟩) ::
  (nat_lit 151, ⟨.type "tuple", none, .seq #[.str (.ofString "self") 366, .str (.ofString "fp") 367] 0, #[]⟩) ::
  (nat_lit 152, ⟨.type "tuple", none, .seq #[] 0, #[]⟩) ::
  (nat_lit 154, ⟨.type "code", none, .fields #[.str (.ofString "__init__") 363, .str (.ofString "_netrclex.__init__") 364, .str (.ofString "/claim/cut.py") 365, .int 93 0, .int 2 0, .int 0 0, .int 0 0, .int 3 0, .ref 149, .bool true, .int 181 0, .ref 150, .none, .ref 151, .ref 152, .ref 153, .int 368 0, .int 93 0, .str (.ofString "/claim/cut.py") 369], #[]⟩) ::
  (nat_lit 155, ⟨.type "function", none, .func ⟨(.ofString "__init__"), (.ofString "_netrclex.__init__"), fP (mAt 10 0), .stmts (fB (mAt 10 0)), fS (mAt 10 0), 3, [], .none, .none, .none, .str (.ofString "cpy313.netrc") 349, none, .ref 154, .none, 0⟩, #[]⟩) ::
  (nat_lit 156, ⟨.type "tuple", none, .seq #[] 0, #[]⟩) ::
  (nat_lit 158, ⟨.type "tuple", none, .seq #[.str (.ofString "self") 374, .str (.ofString "ch") 375] 0, #[]⟩) ::
  (nat_lit 159, ⟨.type "tuple", none, .seq #[] 0, #[]⟩) ::
  (nat_lit 161, ⟨.type "code", none, .fields #[.str (.ofString "_read_char") 371, .str (.ofString "_netrclex._read_char") 372, .str (.ofString "/claim/cut.py") 373, .int 99 0, .int 1 0, .int 0 0, .int 0 0, .int 3 0, .ref 156, .bool true, .int 181 0, .ref 157, .none, .ref 158, .ref 159, .ref 160, .int 376 0, .int 99 0, .str (.ofString "/claim/cut.py") 377], #[]⟩) ::
  (nat_lit 162, ⟨.type "function", none, .func ⟨(.ofString "_read_char"), (.ofString "_netrclex._read_char"), fP (mAt 10 1), .stmts (fB (mAt 10 1)), fS (mAt 10 1), 3, [], .none, .none, .none, .str (.ofString "cpy313.netrc") 349, none, .ref 161, .none, 0⟩, #[]⟩) ::
  (nat_lit 163, ⟨.type "tuple", none, .seq #[] 0, #[]⟩) ::
  (nat_lit 165, ⟨.type "tuple", none, .seq #[.str (.ofString "self") 382, .str (.ofString "token") 383, .str (.ofString "fiter") 384, .str (.ofString "ch") 385] 0, #[]⟩) ::
  (nat_lit 166, ⟨.type "tuple", none, .seq #[] 0, #[]⟩) ::
  (nat_lit 168, ⟨.type "code", none, .fields #[.str (.ofString "get_token") 379, .str (.ofString "_netrclex.get_token") 380, .str (.ofString "/claim/cut.py") 381, .int 105 0, .int 1 0, .int 0 0, .int 0 0, .int 3 0, .ref 163, .bool true, .int 181 0, .ref 164, .none, .ref 165, .ref 166, .ref 167, .int 386 0, .int 105 0, .str (.ofString "/claim/cut.py") 387], #[]⟩) ::
  (nat_lit 169, ⟨.type "function", none, .func ⟨(.ofString "get_token"), (.ofString "_netrclex.get_token"), fP (mAt 10 2), .stmts (fB (mAt 10 2)), fS (mAt 10 2), 3, [], .none, .none, .none, .str (.ofString "cpy313.netrc") 349, none, .ref 168, .none, 0⟩, #[]⟩) ::
  (nat_lit 170, ⟨.type "tuple", none, .seq #[] 0, #[]⟩) ::
  (nat_lit 172, ⟨.type "tuple", none, .seq #[.str (.ofString "self") 392, .str (.ofString "token") 393] 0, #[]⟩) ::
  (nat_lit 173, ⟨.type "tuple", none, .seq #[] 0, #[]⟩) ::
  (nat_lit 175, ⟨.type "code", none, .fields #[.str (.ofString "push_token") 389, .str (.ofString "_netrclex.push_token") 390, .str (.ofString "/claim/cut.py") 391, .int 132 0, .int 2 0, .int 0 0, .int 0 0, .int 3 0, .ref 170, .bool true, .int 181 0, .ref 171, .none, .ref 172, .ref 173, .ref 174, .int 394 0, .int 132 0, .str (.ofString "/claim/cut.py") 395], #[]⟩) ::
  (nat_lit 176, ⟨.type "function", none, .func ⟨(.ofString "push_token"), (.ofString "_netrclex.push_token"), fP (mAt 10 3), .stmts (fB (mAt 10 3)), fS (mAt 10 3), 3, [], .none, .none, .none, .str (.ofString "cpy313.netrc") 349, none, .ref 175, .none, 0⟩, #[]⟩) ::
  (nat_lit 177, ⟨.type "tuple", none, .seq #[.str (.ofString "instream") 397, .str (.ofString "lineno") 398, .str (.ofString "pushback") 399, .str (.ofString "whitespace") 400] 0, #[]⟩) ::
  (nat_lit 178, ⟨.type "dict", none, .dict [⟨PyData.keyHash P (.ofString "__module__"), .str (.ofString "__module__") 358, .str (.ofString "cpy313.netrc") 349⟩, ⟨PyData.keyHash P (.ofString "__firstlineno__"), .str (.ofString "__firstlineno__") 362, .int 91 361⟩, ⟨PyData.keyHash P (.ofString "__init__"), .str (.ofString "__init__") 370, .ref 155⟩, ⟨PyData.keyHash P (.ofString "_read_char"), .str (.ofString "_read_char") 378, .ref 162⟩, ⟨PyData.keyHash P (.ofString "get_token"), .str (.ofString "get_token") 388, .ref 169⟩, ⟨PyData.keyHash P (.ofString "push_token"), .str (.ofString "push_token") 396, .ref 176⟩, ⟨PyData.keyHash P (.ofString "__static_attributes__"), .str (.ofString "__static_attributes__") 401, .ref 177⟩, ⟨PyData.keyHash P (.ofString "__dict__"), .str (.ofString "__dict__") 403, .ref 180⟩, ⟨PyData.keyHash P (.ofString "__weakref__"), .str (.ofString "__weakref__") 405, .ref 181⟩, ⟨PyData.keyHash P (.ofString "__doc__"), .str (.ofString "__doc__") 406, .none⟩].toArray 4, #[]⟩) ::
  (nat_lit 179, ⟨.type "type", none, .cls ⟨(.ofString "_netrclex"), [.type "object"], [.ref 179, .type "object"], 178, (.ofString "_netrclex"), true, [], [], false, none, false⟩, #[none, none, (some (.str (.ofString "_netrclex") 351)), (some (.str (.ofString "_netrclex") 359)), (some (.builtin "object.__new__")), (some (.bool true))]⟩) ::
  (nat_lit 180, ⟨.type "getset_descriptor", none, .fields #[.str (.ofString "__dict__") 402, .ref 179, .builtin "function.__dict__", .builtin "function.__dict__#set"], #[]⟩) ::
  (nat_lit 181, ⟨.type "getset_descriptor", none, .fields #[.str (.ofString "__weakref__") 404, .ref 179, .builtin "ExceptionGroup.__weakref__", .none], #[]⟩) ::
  (nat_lit 184, ⟨.type "tuple", none, .seq #[] 0, #[]⟩) ::
  (nat_lit 186, ⟨.type "tuple", none, .seq #[.str (.ofString "text") 414, .str (.ofString "read") 415, .str (.ofString "stream") 416] 0, #[]⟩) ::
  (nat_lit 187, ⟨.type "tuple", none, .seq #[.str (.ofString "text") 417, .str (.ofString "at") 418] 0, #[]⟩) ::
  (nat_lit 189, ⟨.type "code", none, .fields #[.str (.ofString "_law_lexer") 411, .str (.ofString "_law_lexer") 412, .str (.ofString "/claim/cut.py") 413, .int 135 0, .int 1 0, .int 0 0, .int 0 0, .int 3 0, .ref 184, .bool true, .int 181 0, .ref 185, .none, .ref 186, .ref 187, .ref 188, .int 419 0, .int 135 0, .str (.ofString "/claim/cut.py") 420], #[]⟩) ::
  (nat_lit 190, ⟨.type "function", none, .func ⟨(.ofString "_law_lexer"), (.ofString "_law_lexer"), fP (fAt 12), .stmts (fB (fAt 12)), fS (fAt 12), 3, [], .none, .none, .none, .str (.ofString "law_tl0016_01") 409, none, .ref 189, .none, 0⟩, #[]⟩) ::
  (nat_lit 191, ⟨.type "tuple", none, .seq #[] 0, #[]⟩) ::
  (nat_lit 194, ⟨.type "code", none, .fields #[.str (.ofString "_law_text") 422, .str (.ofString "_law_text") 423, .str (.ofString "/claim/cut.py") 424, .int 145 0, .int 2 0, .int 0 0, .int 0 0, .int 3 0, .ref 191, .bool true, .int 181 0, .ref 192, .none, .none, .none, .ref 193, .int 425 0, .int 145 0, .str (.ofString "/claim/cut.py") 426], #[]⟩) ::
  (nat_lit 195, ⟨.type "function", none, .func ⟨(.ofString "_law_text"), (.ofString "_law_text"), fP (fAt 13), .stmts (fB (fAt 13)), fS (fAt 13), 3, [], .none, .none, .none, .str (.ofString "law_tl0016_01") 409, none, .ref 194, .none, 0⟩, #[]⟩) ::
  (nat_lit 196, ⟨.type "tuple", none, .seq #[] 0, #[]⟩) ::
  (nat_lit 198, ⟨.type "tuple", none, .seq #[.str (.ofString "word") 431] 0, #[]⟩) ::
  (nat_lit 199, ⟨.type "tuple", none, .seq #[] 0, #[]⟩) ::
  (nat_lit 201, ⟨.type "code", none, .fields #[.str (.ofString "_law_size") 428, .str (.ofString "_law_size") 429, .str (.ofString "/claim/cut.py") 430, .int 153 0, .int 1 0, .int 0 0, .int 0 0, .int 3 0, .ref 196, .bool true, .int 181 0, .ref 197, .none, .ref 198, .ref 199, .ref 200, .int 432 0, .int 153 0, .str (.ofString "/claim/cut.py") 433], #[]⟩) ::
  (nat_lit 202, ⟨.type "function", none, .func ⟨(.ofString "_law_size"), (.ofString "_law_size"), fP (fAt 14), .stmts (fB (fAt 14)), fS (fAt 14), 3, [], .none, .none, .none, .str (.ofString "law_tl0016_01") 409, none, .ref 201, .none, 0⟩, #[]⟩) ::
  (nat_lit 203, ⟨.type "tuple", none, .seq #[] 0, #[]⟩) ::
  (nat_lit 206, ⟨.type "code", none, .fields #[.str (.ofString "_law_walk_with_a_row") 435, .str (.ofString "_law_walk_with_a_row") 436, .str (.ofString "/claim/cut.py") 437, .int 155 0, .int 2 0, .int 0 0, .int 0 0, .int 3 0, .ref 203, .bool true, .int 181 0, .ref 204, .none, .none, .none, .ref 205, .int 438 0, .int 155 0, .str (.ofString "/claim/cut.py") 439], #[]⟩) ::
  (nat_lit 207, ⟨.type "function", none, .func ⟨(.ofString "_law_walk_with_a_row"), (.ofString "_law_walk_with_a_row"), fP (fAt 15), .stmts (fB (fAt 15)), fS (fAt 15), 3, [], .none, .none, .none, .str (.ofString "law_tl0016_01") 409, none, .ref 206, .none, 0⟩, #[]⟩) ::
  (nat_lit 208, ⟨.type "tuple", none, .seq #[] 0, #[]⟩) ::
  (nat_lit 210, ⟨.type "tuple", none, .seq #[.str (.ofString "boxes") 444, .str (.ofString "sizes") 445, .str (.ofString "lay") 446, .str (.ofString "take") 447, .str (.ofString "size") 448, .str (.ofString "told") 449, .str (.ofString "word") 450] 0, #[]⟩) ::
  (nat_lit 211, ⟨.type "tuple", none, .seq #[] 0, #[]⟩) ::
  (nat_lit 213, ⟨.type "code", none, .fields #[.str (.ofString "_law_walks") 441, .str (.ofString "_law_walks") 442, .str (.ofString "/claim/cut.py") 443, .int 174 0, .int 4 0, .int 0 0, .int 0 0, .int 3 0, .ref 208, .bool true, .int 181 0, .ref 209, .none, .ref 210, .ref 211, .ref 212, .int 451 0, .int 174 0, .str (.ofString "/claim/cut.py") 452], #[]⟩) ::
  (nat_lit 214, ⟨.type "function", none, .func ⟨(.ofString "_law_walks"), (.ofString "_law_walks"), fP (fAt 16), .stmts (fB (fAt 16)), fS (fAt 16), 3, [], .none, .none, .none, .str (.ofString "law_tl0016_01") 409, none, .ref 213, .none, 0⟩, #[]⟩) ::
  (nat_lit 215, ⟨.type "tuple", none, .seq #[] 0, #[]⟩) ::
  (nat_lit 218, ⟨.type "code", none, .fields #[.str (.ofString "_law_turned") 454, .str (.ofString "_law_turned") 455, .str (.ofString "/claim/cut.py") 456, .int 187 0, .int 1 0, .int 0 0, .int 0 0, .int 3 0, .ref 215, .bool true, .int 181 0, .ref 216, .none, .none, .none, .ref 217, .int 457 0, .int 187 0, .str (.ofString "/claim/cut.py") 458], #[]⟩) ::
  (nat_lit 219, ⟨.type "function", none, .func ⟨(.ofString "_law_turned"), (.ofString "_law_turned"), fP (fAt 17), .stmts (fB (fAt 17)), fS (fAt 17), 3, [], .none, .none, .none, .str (.ofString "law_tl0016_01") 409, none, .ref 218, .none, 0⟩, #[]⟩) ::
  (nat_lit 220, ⟨.type "tuple", none, .seq #[] 0, #[]⟩) ::
  (nat_lit 223, ⟨.type "code", none, .fields #[.str (.ofString "law") 460, .str (.ofString "law") 461, .str (.ofString "/claim/cut.py") 462, .int 189 0, .int 1 0, .int 0 0, .int 0 0, .int 3 0, .ref 220, .bool true, .int 181 0, .ref 221, .none, .none, .none, .ref 222, .int 463 0, .int 189 0, .str (.ofString "/claim/cut.py") 464], #[]⟩) ::
  (nat_lit 224, ⟨.type "function", none, .func ⟨(.ofString "law"), (.ofString "law"), fP (fAt 18), .stmts (fB (fAt 18)), fS (fAt 18), 3, [], .none, .none, .none, .str (.ofString "law_tl0016_01") 409, none, .ref 223, .none, 0⟩, #[]⟩) :: []
noncomputable def qv : Program := { PySem.Challenge.pw_tl0016_01 with main := { PySem.Challenge.pw_tl0016_01.main with body := [fAt 0, fAt 7, fAt 8, fAt 10, fAt 12, fAt 13, fAt 14, fAt 15, fAt 16, fAt 17, fAt 18] } }
end
abbrev loosev : List Str := ["insort_right", "bisect_right", "insort_left", "bisect_left", "_Accumulator"]
theorem as_ok : ∀ P : Params, (2 :: 3 :: 15 :: 17 :: 18 :: 20 :: 21 :: 22 :: 23 :: 24 :: 26 :: 27 :: 29 :: 30 :: 31 :: 32 :: 33 :: 35 :: 36 :: 38 :: 39 :: 40 :: 41 :: 42 :: 44 :: 45 :: 47 :: 48 :: 49 :: 50 :: 51 :: 53 :: 54 :: 56 :: 57 :: 58 :: 61 :: 66 :: 67 :: 68 :: 70 :: 71 :: 73 :: 74 :: 75 :: 77 :: 78 :: 80 :: 81 :: 82 :: 83 :: 85 :: 86 :: 88 :: 89 :: 90 :: 91 :: 93 :: 94 :: 96 :: 97 :: 98 :: 100 :: 101 :: 103 :: 104 :: 105 :: 107 :: 108 :: 110 :: 111 :: 112 :: 113 :: 115 :: 116 :: 118 :: 119 :: 120 :: 122 :: 123 :: 125 :: 126 :: 127 :: 128 :: 130 :: 131 :: 133 :: 134 :: 135 :: 136 :: 137 :: 138 :: 139 :: 149 :: 151 :: 152 :: 154 :: 155 :: 156 :: 158 :: 159 :: 161 :: 162 :: 163 :: 165 :: 166 :: 168 :: 169 :: 170 :: 172 :: 173 :: 175 :: 176 :: 177 :: 178 :: 179 :: 180 :: 181 :: 184 :: 186 :: 187 :: 189 :: 190 :: 191 :: 194 :: 195 :: 196 :: 198 :: 199 :: 201 :: 202 :: 203 :: 206 :: 207 :: 208 :: 210 :: 211 :: 213 :: 214 :: 215 :: 218 :: 219 :: 220 :: 223 :: 224 :: [] : List Addr) = (Kf P).map (·.1) := fun _ => by kernel_rfl
noncomputable abbrev Hk : Hook := kmHook Kf (2 :: 3 :: 15 :: 17 :: 18 :: 20 :: 21 :: 22 :: 23 :: 24 :: 26 :: 27 :: 29 :: 30 :: 31 :: 32 :: 33 :: 35 :: 36 :: 38 :: 39 :: 40 :: 41 :: 42 :: 44 :: 45 :: 47 :: 48 :: 49 :: 50 :: 51 :: 53 :: 54 :: 56 :: 57 :: 58 :: 61 :: 66 :: 67 :: 68 :: 70 :: 71 :: 73 :: 74 :: 75 :: 77 :: 78 :: 80 :: 81 :: 82 :: 83 :: 85 :: 86 :: 88 :: 89 :: 90 :: 91 :: 93 :: 94 :: 96 :: 97 :: 98 :: 100 :: 101 :: 103 :: 104 :: 105 :: 107 :: 108 :: 110 :: 111 :: 112 :: 113 :: 115 :: 116 :: 118 :: 119 :: 120 :: 122 :: 123 :: 125 :: 126 :: 127 :: 128 :: 130 :: 131 :: 133 :: 134 :: 135 :: 136 :: 137 :: 138 :: 139 :: 149 :: 151 :: 152 :: 154 :: 155 :: 156 :: 158 :: 159 :: 161 :: 162 :: 163 :: 165 :: 166 :: 168 :: 169 :: 170 :: 172 :: 173 :: 175 :: 176 :: 177 :: 178 :: 179 :: 180 :: 181 :: 184 :: 186 :: 187 :: 189 :: 190 :: 191 :: 194 :: 195 :: 196 :: 198 :: 199 :: 201 :: 202 :: 203 :: 206 :: 207 :: 208 :: 210 :: 211 :: 213 :: 214 :: 215 :: 218 :: 219 :: 220 :: 223 :: 224 :: [] : List Addr) as_ok [185, 221]
noncomputable section
abbrev annT : Option Value := (some (.ref 6))
abbrev bT : List Stmt := behindTheImports Pw
def envT : Env := { scope := Pw.main.scope, locals := mainNs, globals := mainNs, cells := [], code := .ref 13, frame := some 14 }
def cT : Code := .body bT envT
abbrev qT : Pos := ⟨0, 0, 0, 0⟩
def lT0 : List Stmt := fAt 0 :: fAt 1 :: fAt 2 :: fAt 3 :: fAt 4 :: fAt 5 :: fAt 6 :: fAt 7 :: []
def lT1 : List Stmt := fAt 8 :: []
def lT2 : List Stmt := fAt 9 :: fAt 10 :: []
def lT3 : List Stmt := fAt 11 :: fAt 12 :: fAt 13 :: fAt 14 :: fAt 15 :: fAt 16 :: fAt 17 :: fAt 18 :: []
def hpa (P : Params) : Heap := ⟨Array.mk (
  boot_o_0 P ::
  boot_o_1 P ::
  boot_o_2 P ::
  boot_o_3 P ::
  boot_o_4 P ::
  boot_o_5 P ::
  boot_o_6 P ::
  boot_o_7 P ::
  boot_o_8 P ::
  boot_o_9 P ::
  boot_o_10 P ::
  ⟨.type "tuple", none, .seq #[] 0, #[]⟩ ::
  ⟨.none, none, .fields #[], #[]⟩ ::
  ⟨.type "code", none, .fields #[.str (.ofString "<module>") 182, .str (.ofString "<module>") 183, .str (.ofString "/claim/cut.py") 184, .int 1 0, .int 0 0, .int 0 0, .int 0 0, .int 0 0, .ref 11, .bool false, .int 181 0, .ref 12, .none, .none, .none, .none, .int 185 0, .int 1 0, .str (.ofString "/claim/cut.py") 186], #[]⟩ ::
  ⟨.type "frame", none, .plain, #[(some (.ref 13)), (some (.ref 3)), (some (.ref 3)), none, (some (.str (.ofString "__main__") 164)), none, (some (.ref 0))]⟩ :: []), {}⟩
def hp8 (P : Params) : Heap := ⟨Array.mk (
  boot_o_0 P ::
  boot_o_1 P ::
  boot_o_2 P ::
  ⟨.type "dict", none, .dict [⟨PyData.keyHash P (.ofString "__name__"), .str (.ofString "__name__") 165, .str (.ofString "cpy313.email.header") 250⟩, ⟨PyData.keyHash P (.ofString "__doc__"), .str (.ofString "__doc__") 166, .none⟩, ⟨PyData.keyHash P (.ofString "__package__"), .str (.ofString "__package__") 167, .none⟩, ⟨PyData.keyHash P (.ofString "__loader__"), .str (.ofString "__loader__") 168, .builtin "__main__.__loader__#opaque"⟩, ⟨PyData.keyHash P (.ofString "__spec__"), .str (.ofString "__spec__") 169, .none⟩, ⟨PyData.keyHash P (.ofString "__annotations__"), .str (.ofString "__annotations__") 170, .ref 6⟩, ⟨PyData.keyHash P (.ofString "__builtins__"), .str (.ofString "__builtins__") 171, .ref 4⟩, ⟨PyData.keyHash P (.ofString "__file__"), .str (.ofString "__file__") 173, .str (.ofString "/claim/cut.py") 172⟩, ⟨PyData.keyHash P (.ofString "__cached__"), .str (.ofString "__cached__") 174, .none⟩, ⟨PyData.keyHash P (.ofString "_wall"), .str (.ofString "_wall") 193, .ref 21⟩, ⟨PyData.keyHash P (.ofString "insort_right"), .str (.ofString "insort_right") 208, .ref 30⟩, ⟨PyData.keyHash P (.ofString "bisect_right"), .str (.ofString "bisect_right") 222, .ref 39⟩, ⟨PyData.keyHash P (.ofString "insort_left"), .str (.ofString "insort_left") 235, .ref 48⟩, ⟨PyData.keyHash P (.ofString "bisect_left"), .str (.ofString "bisect_left") 249, .ref 57⟩, ⟨PyData.keyHash P (.ofString "EMPTYSTRING"), .str (.ofString "EMPTYSTRING") 253, .str (.ofString "") 252⟩].toArray 15, #[]⟩ ::
  boot_o_4 P ::
  boot_o_5 P ::
  boot_o_6 P ::
  boot_o_7 P ::
  boot_o_8 P ::
  boot_o_9 P ::
  boot_o_10 P ::
  ⟨.type "tuple", none, .seq #[] 0, #[]⟩ ::
  ⟨.none, none, .fields #[.int 1 0, .int 0 0, .ref 20, .int 5 0, .int 0 0, .ref 29, .int 11 0, .int 0 0, .ref 38, .int 31 0, .int 0 0, .ref 47, .int 37 0, .int 0 0, .ref 56], #[]⟩ ::
  ⟨.type "code", none, .fields #[.str (.ofString "<module>") 182, .str (.ofString "<module>") 183, .str (.ofString "/claim/cut.py") 184, .int 1 0, .int 0 0, .int 0 0, .int 0 0, .int 0 0, .ref 11, .bool false, .int 181 0, .ref 12, .none, .none, .none, .none, .int 185 0, .int 1 0, .str (.ofString "/claim/cut.py") 186], #[]⟩ ::
  ⟨.type "frame", none, .plain, #[(some (.ref 13)), (some (.ref 3)), (some (.ref 3)), none, (some (.str (.ofString "__main__") 164)), none, (some (.ref 0))]⟩ ::
  ⟨.type "tuple", none, .seq #[] 0, #[]⟩ ::
  ⟨.none, none, .fields #[], #[]⟩ ::
  ⟨.type "tuple", none, .seq #[.str (.ofString "k") 190] 0, #[]⟩ ::
  ⟨.type "tuple", none, .seq #[] 0, #[]⟩ ::
  ⟨.none, none, .func ⟨(.ofString "_wall"), (.ofString "_wall"), fP (fAt 0), .stmts (fB (fAt 0)), fS (fAt 0), 0, [], .none, .none, .none, .none, none, .none, .none, 0⟩, #[]⟩ ::
  ⟨.type "code", none, .fields #[.str (.ofString "_wall") 187, .str (.ofString "_wall") 188, .str (.ofString "/claim/cut.py") 189, .int 1 0, .int 1 0, .int 0 0, .int 0 0, .int 3 0, .ref 15, .bool true, .int 181 0, .ref 16, .none, .ref 17, .ref 18, .ref 19, .int 191 0, .int 1 0, .str (.ofString "/claim/cut.py") 192], #[]⟩ ::
  ⟨.type "function", none, .func ⟨(.ofString "_wall"), (.ofString "_wall"), fP (fAt 0), .stmts (fB (fAt 0)), fS (fAt 0), 3, [], .none, .none, .none, .str (.ofString "__main__") 164, none, .ref 20, .none, 0⟩, #[]⟩ ::
  ⟨.type "tuple", none, .seq #[.int 0 196, .none] 0, #[]⟩ ::
  ⟨.type "dict", none, .dict [⟨PyData.keyHash P (.ofString "key"), .str (.ofString "key") 197, .none⟩].toArray 1, #[]⟩ ::
  ⟨.type "tuple", none, .seq #[] 0, #[]⟩ ::
  ⟨.none, none, .fields #[], #[]⟩ ::
  ⟨.type "tuple", none, .seq #[.str (.ofString "a") 201, .str (.ofString "x") 202, .str (.ofString "lo") 203, .str (.ofString "hi") 204, .str (.ofString "key") 205] 0, #[]⟩ ::
  ⟨.type "tuple", none, .seq #[] 0, #[]⟩ ::
  ⟨.none, none, .func ⟨(.ofString "insort_right"), (.ofString "insort_right"), fP (fAt 2), .stmts (fB (fAt 2)), fS (fAt 2), 0, [], .none, .none, .none, .none, none, .none, .none, 0⟩, #[]⟩ ::
  ⟨.type "code", none, .fields #[.str (.ofString "insort_right") 198, .str (.ofString "insort_right") 199, .str (.ofString "/claim/cut.py") 200, .int 5 0, .int 4 0, .int 0 0, .int 1 0, .int 3 0, .ref 24, .bool true, .int 181 0, .ref 25, .none, .ref 26, .ref 27, .ref 28, .int 206 0, .int 5 0, .str (.ofString "/claim/cut.py") 207], #[]⟩ ::
  ⟨.type "function", none, .func ⟨(.ofString "insort_right"), (.ofString "insort_right"), fP (fAt 2), .stmts (fB (fAt 2)), fS (fAt 2), 3, [], .ref 22, .ref 23, .none, .str (.ofString "cpy313.bisect") 194, none, .ref 29, .none, 0⟩, #[]⟩ ::
  ⟨.type "tuple", none, .seq #[.int 0 209, .none] 0, #[]⟩ ::
  ⟨.type "dict", none, .dict [⟨PyData.keyHash P (.ofString "key"), .str (.ofString "key") 210, .none⟩].toArray 1, #[]⟩ ::
  ⟨.type "tuple", none, .seq #[] 0, #[]⟩ ::
  ⟨.none, none, .fields #[], #[]⟩ ::
  ⟨.type "tuple", none, .seq #[.str (.ofString "a") 214, .str (.ofString "x") 215, .str (.ofString "lo") 216, .str (.ofString "hi") 217, .str (.ofString "key") 218, .str (.ofString "mid") 219] 0, #[]⟩ ::
  ⟨.type "tuple", none, .seq #[] 0, #[]⟩ ::
  ⟨.none, none, .func ⟨(.ofString "bisect_right"), (.ofString "bisect_right"), fP (fAt 3), .stmts (fB (fAt 3)), fS (fAt 3), 0, [], .none, .none, .none, .none, none, .none, .none, 0⟩, #[]⟩ ::
  ⟨.type "code", none, .fields #[.str (.ofString "bisect_right") 211, .str (.ofString "bisect_right") 212, .str (.ofString "/claim/cut.py") 213, .int 11 0, .int 4 0, .int 0 0, .int 1 0, .int 3 0, .ref 33, .bool true, .int 181 0, .ref 34, .none, .ref 35, .ref 36, .ref 37, .int 220 0, .int 11 0, .str (.ofString "/claim/cut.py") 221], #[]⟩ ::
  ⟨.type "function", none, .func ⟨(.ofString "bisect_right"), (.ofString "bisect_right"), fP (fAt 3), .stmts (fB (fAt 3)), fS (fAt 3), 3, [], .ref 31, .ref 32, .none, .str (.ofString "cpy313.bisect") 194, none, .ref 38, .none, 0⟩, #[]⟩ ::
  ⟨.type "tuple", none, .seq #[.int 0 223, .none] 0, #[]⟩ ::
  ⟨.type "dict", none, .dict [⟨PyData.keyHash P (.ofString "key"), .str (.ofString "key") 224, .none⟩].toArray 1, #[]⟩ ::
  ⟨.type "tuple", none, .seq #[] 0, #[]⟩ ::
  ⟨.none, none, .fields #[], #[]⟩ ::
  ⟨.type "tuple", none, .seq #[.str (.ofString "a") 228, .str (.ofString "x") 229, .str (.ofString "lo") 230, .str (.ofString "hi") 231, .str (.ofString "key") 232] 0, #[]⟩ ::
  ⟨.type "tuple", none, .seq #[] 0, #[]⟩ ::
  ⟨.none, none, .func ⟨(.ofString "insort_left"), (.ofString "insort_left"), fP (fAt 4), .stmts (fB (fAt 4)), fS (fAt 4), 0, [], .none, .none, .none, .none, none, .none, .none, 0⟩, #[]⟩ ::
  ⟨.type "code", none, .fields #[.str (.ofString "insort_left") 225, .str (.ofString "insort_left") 226, .str (.ofString "/claim/cut.py") 227, .int 31 0, .int 4 0, .int 0 0, .int 1 0, .int 3 0, .ref 42, .bool true, .int 181 0, .ref 43, .none, .ref 44, .ref 45, .ref 46, .int 233 0, .int 31 0, .str (.ofString "/claim/cut.py") 234], #[]⟩ ::
  ⟨.type "function", none, .func ⟨(.ofString "insort_left"), (.ofString "insort_left"), fP (fAt 4), .stmts (fB (fAt 4)), fS (fAt 4), 3, [], .ref 40, .ref 41, .none, .str (.ofString "cpy313.bisect") 194, none, .ref 47, .none, 0⟩, #[]⟩ ::
  ⟨.type "tuple", none, .seq #[.int 0 236, .none] 0, #[]⟩ ::
  ⟨.type "dict", none, .dict [⟨PyData.keyHash P (.ofString "key"), .str (.ofString "key") 237, .none⟩].toArray 1, #[]⟩ ::
  ⟨.type "tuple", none, .seq #[] 0, #[]⟩ ::
  ⟨.none, none, .fields #[], #[]⟩ ::
  ⟨.type "tuple", none, .seq #[.str (.ofString "a") 241, .str (.ofString "x") 242, .str (.ofString "lo") 243, .str (.ofString "hi") 244, .str (.ofString "key") 245, .str (.ofString "mid") 246] 0, #[]⟩ ::
  ⟨.type "tuple", none, .seq #[] 0, #[]⟩ ::
  ⟨.none, none, .func ⟨(.ofString "bisect_left"), (.ofString "bisect_left"), fP (fAt 5), .stmts (fB (fAt 5)), fS (fAt 5), 0, [], .none, .none, .none, .none, none, .none, .none, 0⟩, #[]⟩ ::
  ⟨.type "code", none, .fields #[.str (.ofString "bisect_left") 238, .str (.ofString "bisect_left") 239, .str (.ofString "/claim/cut.py") 240, .int 37 0, .int 4 0, .int 0 0, .int 1 0, .int 3 0, .ref 51, .bool true, .int 181 0, .ref 52, .none, .ref 53, .ref 54, .ref 55, .int 247 0, .int 37 0, .str (.ofString "/claim/cut.py") 248], #[]⟩ ::
  ⟨.type "function", none, .func ⟨(.ofString "bisect_left"), (.ofString "bisect_left"), fP (fAt 5), .stmts (fB (fAt 5)), fS (fAt 5), 3, [], .ref 49, .ref 50, .none, .str (.ofString "cpy313.bisect") 194, none, .ref 56, .none, 0⟩, #[]⟩ :: []), {}⟩
def hp9 (P : Params) : Heap := ⟨Array.mk (
  boot_o_0 P ::
  boot_o_1 P ::
  boot_o_2 P ::
  ⟨.type "dict", none, .dict [⟨PyData.keyHash P (.ofString "__name__"), .str (.ofString "__name__") 165, .str (.ofString "cpy313.email.header") 250⟩, ⟨PyData.keyHash P (.ofString "__doc__"), .str (.ofString "__doc__") 166, .none⟩, ⟨PyData.keyHash P (.ofString "__package__"), .str (.ofString "__package__") 167, .none⟩, ⟨PyData.keyHash P (.ofString "__loader__"), .str (.ofString "__loader__") 168, .builtin "__main__.__loader__#opaque"⟩, ⟨PyData.keyHash P (.ofString "__spec__"), .str (.ofString "__spec__") 169, .none⟩, ⟨PyData.keyHash P (.ofString "__annotations__"), .str (.ofString "__annotations__") 170, .ref 6⟩, ⟨PyData.keyHash P (.ofString "__builtins__"), .str (.ofString "__builtins__") 171, .ref 4⟩, ⟨PyData.keyHash P (.ofString "__file__"), .str (.ofString "__file__") 173, .str (.ofString "/claim/cut.py") 172⟩, ⟨PyData.keyHash P (.ofString "__cached__"), .str (.ofString "__cached__") 174, .none⟩, ⟨PyData.keyHash P (.ofString "_wall"), .str (.ofString "_wall") 193, .ref 21⟩, ⟨PyData.keyHash P (.ofString "insort_right"), .str (.ofString "insort_right") 208, .ref 30⟩, ⟨PyData.keyHash P (.ofString "bisect_right"), .str (.ofString "bisect_right") 222, .ref 39⟩, ⟨PyData.keyHash P (.ofString "insort_left"), .str (.ofString "insort_left") 235, .ref 48⟩, ⟨PyData.keyHash P (.ofString "bisect_left"), .str (.ofString "bisect_left") 249, .ref 57⟩, ⟨PyData.keyHash P (.ofString "EMPTYSTRING"), .str (.ofString "EMPTYSTRING") 253, .str (.ofString "") 252⟩, ⟨PyData.keyHash P (.ofString "_Accumulator"), .str (.ofString "_Accumulator") 348, .ref 137⟩].toArray 16, #[]⟩ ::
  boot_o_4 P ::
  boot_o_5 P ::
  boot_o_6 P ::
  boot_o_7 P ::
  boot_o_8 P ::
  boot_o_9 P ::
  boot_o_10 P ::
  ⟨.type "tuple", none, .seq #[] 0, #[]⟩ ::
  ⟨.none, none, .fields #[.int 1 0, .int 0 0, .ref 20, .int 5 0, .int 0 0, .ref 29, .int 11 0, .int 0 0, .ref 38, .int 31 0, .int 0 0, .ref 47, .int 37 0, .int 0 0, .ref 56, .int 59 0, .int 0 0, .ref 64], #[]⟩ ::
  ⟨.type "code", none, .fields #[.str (.ofString "<module>") 182, .str (.ofString "<module>") 183, .str (.ofString "/claim/cut.py") 184, .int 1 0, .int 0 0, .int 0 0, .int 0 0, .int 0 0, .ref 11, .bool false, .int 181 0, .ref 12, .none, .none, .none, .none, .int 185 0, .int 1 0, .str (.ofString "/claim/cut.py") 186], #[]⟩ ::
  ⟨.type "frame", none, .plain, #[(some (.ref 13)), (some (.ref 3)), (some (.ref 3)), none, (some (.str (.ofString "__main__") 164)), none, (some (.ref 0))]⟩ ::
  ⟨.type "tuple", none, .seq #[] 0, #[]⟩ ::
  ⟨.none, none, .fields #[], #[]⟩ ::
  ⟨.type "tuple", none, .seq #[.str (.ofString "k") 190] 0, #[]⟩ ::
  ⟨.type "tuple", none, .seq #[] 0, #[]⟩ ::
  ⟨.none, none, .func ⟨(.ofString "_wall"), (.ofString "_wall"), fP (fAt 0), .stmts (fB (fAt 0)), fS (fAt 0), 0, [], .none, .none, .none, .none, none, .none, .none, 0⟩, #[]⟩ ::
  ⟨.type "code", none, .fields #[.str (.ofString "_wall") 187, .str (.ofString "_wall") 188, .str (.ofString "/claim/cut.py") 189, .int 1 0, .int 1 0, .int 0 0, .int 0 0, .int 3 0, .ref 15, .bool true, .int 181 0, .ref 16, .none, .ref 17, .ref 18, .ref 19, .int 191 0, .int 1 0, .str (.ofString "/claim/cut.py") 192], #[]⟩ ::
  ⟨.type "function", none, .func ⟨(.ofString "_wall"), (.ofString "_wall"), fP (fAt 0), .stmts (fB (fAt 0)), fS (fAt 0), 3, [], .none, .none, .none, .str (.ofString "__main__") 164, none, .ref 20, .none, 0⟩, #[]⟩ ::
  ⟨.type "tuple", none, .seq #[.int 0 196, .none] 0, #[]⟩ ::
  ⟨.type "dict", none, .dict [⟨PyData.keyHash P (.ofString "key"), .str (.ofString "key") 197, .none⟩].toArray 1, #[]⟩ ::
  ⟨.type "tuple", none, .seq #[] 0, #[]⟩ ::
  ⟨.none, none, .fields #[], #[]⟩ ::
  ⟨.type "tuple", none, .seq #[.str (.ofString "a") 201, .str (.ofString "x") 202, .str (.ofString "lo") 203, .str (.ofString "hi") 204, .str (.ofString "key") 205] 0, #[]⟩ ::
  ⟨.type "tuple", none, .seq #[] 0, #[]⟩ ::
  ⟨.none, none, .func ⟨(.ofString "insort_right"), (.ofString "insort_right"), fP (fAt 2), .stmts (fB (fAt 2)), fS (fAt 2), 0, [], .none, .none, .none, .none, none, .none, .none, 0⟩, #[]⟩ ::
  ⟨.type "code", none, .fields #[.str (.ofString "insort_right") 198, .str (.ofString "insort_right") 199, .str (.ofString "/claim/cut.py") 200, .int 5 0, .int 4 0, .int 0 0, .int 1 0, .int 3 0, .ref 24, .bool true, .int 181 0, .ref 25, .none, .ref 26, .ref 27, .ref 28, .int 206 0, .int 5 0, .str (.ofString "/claim/cut.py") 207], #[]⟩ ::
  ⟨.type "function", none, .func ⟨(.ofString "insort_right"), (.ofString "insort_right"), fP (fAt 2), .stmts (fB (fAt 2)), fS (fAt 2), 3, [], .ref 22, .ref 23, .none, .str (.ofString "cpy313.bisect") 194, none, .ref 29, .none, 0⟩, #[]⟩ ::
  ⟨.type "tuple", none, .seq #[.int 0 209, .none] 0, #[]⟩ ::
  ⟨.type "dict", none, .dict [⟨PyData.keyHash P (.ofString "key"), .str (.ofString "key") 210, .none⟩].toArray 1, #[]⟩ ::
  ⟨.type "tuple", none, .seq #[] 0, #[]⟩ ::
  ⟨.none, none, .fields #[], #[]⟩ ::
  ⟨.type "tuple", none, .seq #[.str (.ofString "a") 214, .str (.ofString "x") 215, .str (.ofString "lo") 216, .str (.ofString "hi") 217, .str (.ofString "key") 218, .str (.ofString "mid") 219] 0, #[]⟩ ::
  ⟨.type "tuple", none, .seq #[] 0, #[]⟩ ::
  ⟨.none, none, .func ⟨(.ofString "bisect_right"), (.ofString "bisect_right"), fP (fAt 3), .stmts (fB (fAt 3)), fS (fAt 3), 0, [], .none, .none, .none, .none, none, .none, .none, 0⟩, #[]⟩ ::
  ⟨.type "code", none, .fields #[.str (.ofString "bisect_right") 211, .str (.ofString "bisect_right") 212, .str (.ofString "/claim/cut.py") 213, .int 11 0, .int 4 0, .int 0 0, .int 1 0, .int 3 0, .ref 33, .bool true, .int 181 0, .ref 34, .none, .ref 35, .ref 36, .ref 37, .int 220 0, .int 11 0, .str (.ofString "/claim/cut.py") 221], #[]⟩ ::
  ⟨.type "function", none, .func ⟨(.ofString "bisect_right"), (.ofString "bisect_right"), fP (fAt 3), .stmts (fB (fAt 3)), fS (fAt 3), 3, [], .ref 31, .ref 32, .none, .str (.ofString "cpy313.bisect") 194, none, .ref 38, .none, 0⟩, #[]⟩ ::
  ⟨.type "tuple", none, .seq #[.int 0 223, .none] 0, #[]⟩ ::
  ⟨.type "dict", none, .dict [⟨PyData.keyHash P (.ofString "key"), .str (.ofString "key") 224, .none⟩].toArray 1, #[]⟩ ::
  ⟨.type "tuple", none, .seq #[] 0, #[]⟩ ::
  ⟨.none, none, .fields #[], #[]⟩ ::
  ⟨.type "tuple", none, .seq #[.str (.ofString "a") 228, .str (.ofString "x") 229, .str (.ofString "lo") 230, .str (.ofString "hi") 231, .str (.ofString "key") 232] 0, #[]⟩ ::
  ⟨.type "tuple", none, .seq #[] 0, #[]⟩ ::
  ⟨.none, none, .func ⟨(.ofString "insort_left"), (.ofString "insort_left"), fP (fAt 4), .stmts (fB (fAt 4)), fS (fAt 4), 0, [], .none, .none, .none, .none, none, .none, .none, 0⟩, #[]⟩ ::
  ⟨.type "code", none, .fields #[.str (.ofString "insort_left") 225, .str (.ofString "insort_left") 226, .str (.ofString "/claim/cut.py") 227, .int 31 0, .int 4 0, .int 0 0, .int 1 0, .int 3 0, .ref 42, .bool true, .int 181 0, .ref 43, .none, .ref 44, .ref 45, .ref 46, .int 233 0, .int 31 0, .str (.ofString "/claim/cut.py") 234], #[]⟩ ::
  ⟨.type "function", none, .func ⟨(.ofString "insort_left"), (.ofString "insort_left"), fP (fAt 4), .stmts (fB (fAt 4)), fS (fAt 4), 3, [], .ref 40, .ref 41, .none, .str (.ofString "cpy313.bisect") 194, none, .ref 47, .none, 0⟩, #[]⟩ ::
  ⟨.type "tuple", none, .seq #[.int 0 236, .none] 0, #[]⟩ ::
  ⟨.type "dict", none, .dict [⟨PyData.keyHash P (.ofString "key"), .str (.ofString "key") 237, .none⟩].toArray 1, #[]⟩ ::
  ⟨.type "tuple", none, .seq #[] 0, #[]⟩ ::
  ⟨.none, none, .fields #[], #[]⟩ ::
  ⟨.type "tuple", none, .seq #[.str (.ofString "a") 241, .str (.ofString "x") 242, .str (.ofString "lo") 243, .str (.ofString "hi") 244, .str (.ofString "key") 245, .str (.ofString "mid") 246] 0, #[]⟩ ::
  ⟨.type "tuple", none, .seq #[] 0, #[]⟩ ::
  ⟨.none, none, .func ⟨(.ofString "bisect_left"), (.ofString "bisect_left"), fP (fAt 5), .stmts (fB (fAt 5)), fS (fAt 5), 0, [], .none, .none, .none, .none, none, .none, .none, 0⟩, #[]⟩ ::
  ⟨.type "code", none, .fields #[.str (.ofString "bisect_left") 238, .str (.ofString "bisect_left") 239, .str (.ofString "/claim/cut.py") 240, .int 37 0, .int 4 0, .int 0 0, .int 1 0, .int 3 0, .ref 51, .bool true, .int 181 0, .ref 52, .none, .ref 53, .ref 54, .ref 55, .int 247 0, .int 37 0, .str (.ofString "/claim/cut.py") 248], #[]⟩ ::
  ⟨.type "function", none, .func ⟨(.ofString "bisect_left"), (.ofString "bisect_left"), fP (fAt 5), .stmts (fB (fAt 5)), fS (fAt 5), 3, [], .ref 49, .ref 50, .none, .str (.ofString "cpy313.bisect") 194, none, .ref 56, .none, 0⟩, #[]⟩ ::
  ⟨.type "tuple", none, .seq #[.type "list"] 0, #[]⟩ ::
  ⟨.type "builtin_function_or_method", none, .fields #[.builtin "type.__prepare__", .type "type"], #[]⟩ ::
  ⟨.type "dict", none, .dict [⟨PyData.keyHash P (.ofString "__module__"), .str (.ofString "__module__") 261, .str (.ofString "cpy313.email.header") 250⟩, ⟨PyData.keyHash P (.ofString "__qualname__"), .str (.ofString "__qualname__") 263, .str (.ofString "_Accumulator") 262⟩, ⟨PyData.keyHash P (.ofString "__firstlineno__"), .str (.ofString "__firstlineno__") 265, .int 59 264⟩, ⟨PyData.keyHash P (.ofString "__init__"), .str (.ofString "__init__") 275, .ref 74⟩, ⟨PyData.keyHash P (.ofString "push"), .str (.ofString "push") 284, .ref 81⟩, ⟨PyData.keyHash P (.ofString "pop_from"), .str (.ofString "pop_from") 293, .ref 89⟩, ⟨PyData.keyHash P (.ofString "pop"), .str (.ofString "pop") 301, .ref 97⟩, ⟨PyData.keyHash P (.ofString "__len__"), .str (.ofString "__len__") 308, .ref 104⟩, ⟨PyData.keyHash P (.ofString "__str__"), .str (.ofString "__str__") 315, .ref 111⟩, ⟨PyData.keyHash P (.ofString "reset"), .str (.ofString "reset") 323, .ref 119⟩, ⟨PyData.keyHash P (.ofString "is_onlyws"), .str (.ofString "is_onlyws") 330, .ref 126⟩, ⟨PyData.keyHash P (.ofString "part_count"), .str (.ofString "part_count") 338, .ref 134⟩, ⟨PyData.keyHash P (.ofString "__static_attributes__"), .str (.ofString "__static_attributes__") 340, .ref 135⟩, ⟨PyData.keyHash P (.ofString "__classcell__"), .str (.ofString "__classcell__") 341, .ref 61⟩].toArray 14, #[]⟩ ::
  ⟨.type "cell", none, .cell (some (.ref 137)), #[]⟩ ::
  ⟨.type "tuple", none, .seq #[] 0, #[]⟩ ::
  ⟨.none, none, .fields #[.int 61 0, .int 4 0, .ref 73, .int 65 0, .int 4 0, .ref 80, .int 68 0, .int 4 0, .ref 88, .int 71 0, .int 4 0, .ref 96, .int 76 0, .int 4 0, .ref 103, .int 79 0, .int 4 0, .ref 110, .int 82 0, .int 4 0, .ref 118, .int 85 0, .int 4 0, .ref 125, .int 88 0, .int 4 0, .ref 133], #[]⟩ ::
  ⟨.type "code", none, .fields #[.str (.ofString "_Accumulator") 256, .str (.ofString "_Accumulator") 257, .str (.ofString "/claim/cut.py") 258, .int 59 0, .int 0 0, .int 0 0, .int 0 0, .int 0 0, .ref 62, .bool false, .int 181 0, .ref 63, .none, .none, .none, .none, .int 259 0, .int 59 0, .str (.ofString "/claim/cut.py") 260], #[]⟩ ::
  ⟨.type "frame", none, .plain, #[(some (.ref 64)), (some (.ref 3)), (some (.ref 60)), none, (some (.str (.ofString "cpy313.email.header") 250)), none, (some (.ref 0))]⟩ ::
  ⟨.type "tuple", none, .seq #[.int 0 266] 0, #[]⟩ ::
  ⟨.type "tuple", none, .seq #[.ref 61] 0, #[]⟩ ::
  ⟨.type "tuple", none, .seq #[.str (.ofString "__class__") 270] 0, #[]⟩ ::
  ⟨.none, none, .fields #[], #[]⟩ ::
  ⟨.type "tuple", none, .seq #[.str (.ofString "self") 271, .str (.ofString "initial_size") 272] 0, #[]⟩ ::
  ⟨.type "tuple", none, .seq #[] 0, #[]⟩ ::
  ⟨.none, none, .func ⟨(.ofString "__init__"), (.ofString "_Accumulator.__init__"), fP (mAt 8 0), .stmts (fB (mAt 8 0)), fS (mAt 8 0), 0, [], .none, .none, .none, .none, none, .none, .none, 0⟩, #[]⟩ ::
  ⟨.type "code", none, .fields #[.str (.ofString "__init__") 267, .str (.ofString "_Accumulator.__init__") 268, .str (.ofString "/claim/cut.py") 269, .int 61 0, .int 2 0, .int 0 0, .int 0 0, .int 3 0, .ref 68, .bool true, .int 181 0, .ref 69, .none, .ref 70, .ref 71, .ref 72, .int 273 0, .int 61 0, .str (.ofString "/claim/cut.py") 274], #[]⟩ ::
  ⟨.type "function", none, .func ⟨(.ofString "__init__"), (.ofString "_Accumulator.__init__"), fP (mAt 8 0), .stmts (fB (mAt 8 0)), fS (mAt 8 0), 3, [((.ofString "__class__"), 61)], .ref 66, .none, .none, .str (.ofString "cpy313.email.header") 250, none, .ref 73, .ref 67, 0⟩, #[]⟩ ::
  ⟨.type "tuple", none, .seq #[] 0, #[]⟩ ::
  ⟨.none, none, .fields #[], #[]⟩ ::
  ⟨.type "tuple", none, .seq #[.str (.ofString "self") 279, .str (.ofString "fws") 280, .str (.ofString "string") 281] 0, #[]⟩ ::
  ⟨.type "tuple", none, .seq #[] 0, #[]⟩ ::
  ⟨.none, none, .func ⟨(.ofString "push"), (.ofString "_Accumulator.push"), fP (mAt 8 1), .stmts (fB (mAt 8 1)), fS (mAt 8 1), 0, [], .none, .none, .none, .none, none, .none, .none, 0⟩, #[]⟩ ::
  ⟨.type "code", none, .fields #[.str (.ofString "push") 276, .str (.ofString "_Accumulator.push") 277, .str (.ofString "/claim/cut.py") 278, .int 65 0, .int 3 0, .int 0 0, .int 0 0, .int 3 0, .ref 75, .bool true, .int 181 0, .ref 76, .none, .ref 77, .ref 78, .ref 79, .int 282 0, .int 65 0, .str (.ofString "/claim/cut.py") 283], #[]⟩ ::
  ⟨.type "function", none, .func ⟨(.ofString "push"), (.ofString "_Accumulator.push"), fP (mAt 8 1), .stmts (fB (mAt 8 1)), fS (mAt 8 1), 3, [], .none, .none, .none, .str (.ofString "cpy313.email.header") 250, none, .ref 80, .none, 0⟩, #[]⟩ ::
  ⟨.type "tuple", none, .seq #[.int 0 285] 0, #[]⟩ ::
  ⟨.type "tuple", none, .seq #[] 0, #[]⟩ ::
  ⟨.none, none, .fields #[], #[]⟩ ::
  ⟨.type "tuple", none, .seq #[.str (.ofString "self") 289, .str (.ofString "i") 290] 0, #[]⟩ ::
  ⟨.type "tuple", none, .seq #[] 0, #[]⟩ ::
  ⟨.none, none, .func ⟨(.ofString "pop_from"), (.ofString "_Accumulator.pop_from"), fP (mAt 8 2), .stmts (fB (mAt 8 2)), fS (mAt 8 2), 0, [], .none, .none, .none, .none, none, .none, .none, 0⟩, #[]⟩ ::
  ⟨.type "code", none, .fields #[.str (.ofString "pop_from") 286, .str (.ofString "_Accumulator.pop_from") 287, .str (.ofString "/claim/cut.py") 288, .int 68 0, .int 2 0, .int 0 0, .int 0 0, .int 3 0, .ref 83, .bool true, .int 181 0, .ref 84, .none, .ref 85, .ref 86, .ref 87, .int 291 0, .int 68 0, .str (.ofString "/claim/cut.py") 292], #[]⟩ ::
  ⟨.type "function", none, .func ⟨(.ofString "pop_from"), (.ofString "_Accumulator.pop_from"), fP (mAt 8 2), .stmts (fB (mAt 8 2)), fS (mAt 8 2), 3, [], .ref 82, .none, .none, .str (.ofString "cpy313.email.header") 250, none, .ref 88, .none, 0⟩, #[]⟩ ::
  ⟨.type "tuple", none, .seq #[.ref 61] 0, #[]⟩ ::
  ⟨.type "tuple", none, .seq #[.str (.ofString "__class__") 297] 0, #[]⟩ ::
  ⟨.none, none, .fields #[], #[]⟩ ::
  ⟨.type "tuple", none, .seq #[.str (.ofString "self") 298] 0, #[]⟩ ::
  ⟨.type "tuple", none, .seq #[] 0, #[]⟩ ::
  ⟨.none, none, .func ⟨(.ofString "pop"), (.ofString "_Accumulator.pop"), fP (mAt 8 3), .stmts (fB (mAt 8 3)), fS (mAt 8 3), 0, [], .none, .none, .none, .none, none, .none, .none, 0⟩, #[]⟩ ::
  ⟨.type "code", none, .fields #[.str (.ofString "pop") 294, .str (.ofString "_Accumulator.pop") 295, .str (.ofString "/claim/cut.py") 296, .int 71 0, .int 1 0, .int 0 0, .int 0 0, .int 3 0, .ref 91, .bool true, .int 181 0, .ref 92, .none, .ref 93, .ref 94, .ref 95, .int 299 0, .int 71 0, .str (.ofString "/claim/cut.py") 300], #[]⟩ ::
  ⟨.type "function", none, .func ⟨(.ofString "pop"), (.ofString "_Accumulator.pop"), fP (mAt 8 3), .stmts (fB (mAt 8 3)), fS (mAt 8 3), 3, [((.ofString "__class__"), 61)], .none, .none, .none, .str (.ofString "cpy313.email.header") 250, none, .ref 96, .ref 90, 0⟩, #[]⟩ ::
  ⟨.type "tuple", none, .seq #[] 0, #[]⟩ ::
  ⟨.none, none, .fields #[], #[]⟩ ::
  ⟨.type "tuple", none, .seq #[.str (.ofString "self") 305] 0, #[]⟩ ::
  ⟨.type "tuple", none, .seq #[] 0, #[]⟩ ::
  ⟨.none, none, .func ⟨(.ofString "__len__"), (.ofString "_Accumulator.__len__"), fP (mAt 8 4), .stmts (fB (mAt 8 4)), fS (mAt 8 4), 0, [], .none, .none, .none, .none, none, .none, .none, 0⟩, #[]⟩ ::
  ⟨.type "code", none, .fields #[.str (.ofString "__len__") 302, .str (.ofString "_Accumulator.__len__") 303, .str (.ofString "/claim/cut.py") 304, .int 76 0, .int 1 0, .int 0 0, .int 0 0, .int 3 0, .ref 98, .bool true, .int 181 0, .ref 99, .none, .ref 100, .ref 101, .ref 102, .int 306 0, .int 76 0, .str (.ofString "/claim/cut.py") 307], #[]⟩ ::
  ⟨.type "function", none, .func ⟨(.ofString "__len__"), (.ofString "_Accumulator.__len__"), fP (mAt 8 4), .stmts (fB (mAt 8 4)), fS (mAt 8 4), 3, [], .none, .none, .none, .str (.ofString "cpy313.email.header") 250, none, .ref 103, .none, 0⟩, #[]⟩ ::
  ⟨.type "tuple", none, .seq #[] 0, #[]⟩ ::
  ⟨.none, none, .fields #[], #[]⟩ ::
  ⟨.type "tuple", none, .seq #[.str (.ofString "self") 312] 0, #[]⟩ ::
  ⟨.type "tuple", none, .seq #[] 0, #[]⟩ ::
  ⟨.none, none, .func ⟨(.ofString "__str__"), (.ofString "_Accumulator.__str__"), fP (mAt 8 5), .stmts (fB (mAt 8 5)), fS (mAt 8 5), 0, [], .none, .none, .none, .none, none, .none, .none, 0⟩, #[]⟩ ::
  ⟨.type "code", none, .fields #[.str (.ofString "__str__") 309, .str (.ofString "_Accumulator.__str__") 310, .str (.ofString "/claim/cut.py") 311, .int 79 0, .int 1 0, .int 0 0, .int 0 0, .int 3 0, .ref 105, .bool true, .int 181 0, .ref 106, .none, .ref 107, .ref 108, .ref 109, .int 313 0, .int 79 0, .str (.ofString "/claim/cut.py") 314], #[]⟩ ::
  ⟨.type "function", none, .func ⟨(.ofString "__str__"), (.ofString "_Accumulator.__str__"), fP (mAt 8 5), .stmts (fB (mAt 8 5)), fS (mAt 8 5), 3, [], .none, .none, .none, .str (.ofString "cpy313.email.header") 250, none, .ref 110, .none, 0⟩, #[]⟩ ::
  ⟨.type "tuple", none, .seq #[.none] 0, #[]⟩ ::
  ⟨.type "tuple", none, .seq #[] 0, #[]⟩ ::
  ⟨.none, none, .fields #[], #[]⟩ ::
  ⟨.type "tuple", none, .seq #[.str (.ofString "self") 319, .str (.ofString "startval") 320] 0, #[]⟩ ::
  ⟨.type "tuple", none, .seq #[] 0, #[]⟩ ::
  ⟨.none, none, .func ⟨(.ofString "reset"), (.ofString "_Accumulator.reset"), fP (mAt 8 6), .stmts (fB (mAt 8 6)), fS (mAt 8 6), 0, [], .none, .none, .none, .none, none, .none, .none, 0⟩, #[]⟩ ::
  ⟨.type "code", none, .fields #[.str (.ofString "reset") 316, .str (.ofString "_Accumulator.reset") 317, .str (.ofString "/claim/cut.py") 318, .int 82 0, .int 2 0, .int 0 0, .int 0 0, .int 3 0, .ref 113, .bool true, .int 181 0, .ref 114, .none, .ref 115, .ref 116, .ref 117, .int 321 0, .int 82 0, .str (.ofString "/claim/cut.py") 322], #[]⟩ ::
  ⟨.type "function", none, .func ⟨(.ofString "reset"), (.ofString "_Accumulator.reset"), fP (mAt 8 6), .stmts (fB (mAt 8 6)), fS (mAt 8 6), 3, [], .ref 112, .none, .none, .str (.ofString "cpy313.email.header") 250, none, .ref 118, .none, 0⟩, #[]⟩ ::
  ⟨.type "tuple", none, .seq #[] 0, #[]⟩ ::
  ⟨.none, none, .fields #[], #[]⟩ ::
  ⟨.type "tuple", none, .seq #[.str (.ofString "self") 327] 0, #[]⟩ ::
  ⟨.type "tuple", none, .seq #[] 0, #[]⟩ ::
  ⟨.none, none, .func ⟨(.ofString "is_onlyws"), (.ofString "_Accumulator.is_onlyws"), fP (mAt 8 7), .stmts (fB (mAt 8 7)), fS (mAt 8 7), 0, [], .none, .none, .none, .none, none, .none, .none, 0⟩, #[]⟩ ::
  ⟨.type "code", none, .fields #[.str (.ofString "is_onlyws") 324, .str (.ofString "_Accumulator.is_onlyws") 325, .str (.ofString "/claim/cut.py") 326, .int 85 0, .int 1 0, .int 0 0, .int 0 0, .int 3 0, .ref 120, .bool true, .int 181 0, .ref 121, .none, .ref 122, .ref 123, .ref 124, .int 328 0, .int 85 0, .str (.ofString "/claim/cut.py") 329], #[]⟩ ::
  ⟨.type "function", none, .func ⟨(.ofString "is_onlyws"), (.ofString "_Accumulator.is_onlyws"), fP (mAt 8 7), .stmts (fB (mAt 8 7)), fS (mAt 8 7), 3, [], .none, .none, .none, .str (.ofString "cpy313.email.header") 250, none, .ref 125, .none, 0⟩, #[]⟩ ::
  ⟨.type "tuple", none, .seq #[.ref 61] 0, #[]⟩ ::
  ⟨.type "tuple", none, .seq #[.str (.ofString "__class__") 334] 0, #[]⟩ ::
  ⟨.none, none, .fields #[], #[]⟩ ::
  ⟨.type "tuple", none, .seq #[.str (.ofString "self") 335] 0, #[]⟩ ::
  ⟨.type "tuple", none, .seq #[] 0, #[]⟩ ::
  ⟨.none, none, .func ⟨(.ofString "part_count"), (.ofString "_Accumulator.part_count"), fP (mAt 8 8), .stmts (fB (mAt 8 8)), fS (mAt 8 8), 0, [], .none, .none, .none, .none, none, .none, .none, 0⟩, #[]⟩ ::
  ⟨.type "code", none, .fields #[.str (.ofString "part_count") 331, .str (.ofString "_Accumulator.part_count") 332, .str (.ofString "/claim/cut.py") 333, .int 88 0, .int 1 0, .int 0 0, .int 0 0, .int 3 0, .ref 128, .bool true, .int 181 0, .ref 129, .none, .ref 130, .ref 131, .ref 132, .int 336 0, .int 88 0, .str (.ofString "/claim/cut.py") 337], #[]⟩ ::
  ⟨.type "function", none, .func ⟨(.ofString "part_count"), (.ofString "_Accumulator.part_count"), fP (mAt 8 8), .stmts (fB (mAt 8 8)), fS (mAt 8 8), 3, [((.ofString "__class__"), 61)], .none, .none, .none, .str (.ofString "cpy313.email.header") 250, none, .ref 133, .ref 127, 0⟩, #[]⟩ ::
  ⟨.type "tuple", none, .seq #[.str (.ofString "_initial_size") 339] 0, #[]⟩ ::
  ⟨.type "dict", none, .dict [⟨PyData.keyHash P (.ofString "__module__"), .str (.ofString "__module__") 261, .str (.ofString "cpy313.email.header") 250⟩, ⟨PyData.keyHash P (.ofString "__firstlineno__"), .str (.ofString "__firstlineno__") 265, .int 59 264⟩, ⟨PyData.keyHash P (.ofString "__init__"), .str (.ofString "__init__") 275, .ref 74⟩, ⟨PyData.keyHash P (.ofString "push"), .str (.ofString "push") 284, .ref 81⟩, ⟨PyData.keyHash P (.ofString "pop_from"), .str (.ofString "pop_from") 293, .ref 89⟩, ⟨PyData.keyHash P (.ofString "pop"), .str (.ofString "pop") 301, .ref 97⟩, ⟨PyData.keyHash P (.ofString "__len__"), .str (.ofString "__len__") 308, .ref 104⟩, ⟨PyData.keyHash P (.ofString "__str__"), .str (.ofString "__str__") 315, .ref 111⟩, ⟨PyData.keyHash P (.ofString "reset"), .str (.ofString "reset") 323, .ref 119⟩, ⟨PyData.keyHash P (.ofString "is_onlyws"), .str (.ofString "is_onlyws") 330, .ref 126⟩, ⟨PyData.keyHash P (.ofString "part_count"), .str (.ofString "part_count") 338, .ref 134⟩, ⟨PyData.keyHash P (.ofString "__static_attributes__"), .str (.ofString "__static_attributes__") 340, .ref 135⟩, ⟨PyData.keyHash P (.ofString "__dict__"), .str (.ofString "__dict__") 343, .ref 138⟩, ⟨PyData.keyHash P (.ofString "__weakref__"), .str (.ofString "__weakref__") 345, .ref 139⟩, ⟨PyData.keyHash P (.ofString "__doc__"), .str (.ofString "__doc__") 346, .none⟩].toArray 5, #[]⟩ ::
  ⟨.type "type", none, .cls ⟨(.ofString "_Accumulator"), [.type "list"], [.ref 137, .type "list", .type "object"], 136, (.ofString "_Accumulator"), true, [], [], false, none, false⟩, #[(some (.ref 58)), none, (some (.str (.ofString "_Accumulator") 254)), (some (.str (.ofString "_Accumulator") 262)), (some (.builtin "list.__new__")), (some (.bool true))]⟩ ::
  ⟨.type "getset_descriptor", none, .fields #[.str (.ofString "__dict__") 342, .ref 137, .builtin "function.__dict__", .builtin "function.__dict__#set"], #[]⟩ ::
  ⟨.type "getset_descriptor", none, .fields #[.str (.ofString "__weakref__") 344, .ref 137, .builtin "ExceptionGroup.__weakref__", .none], #[]⟩ ::
  ⟨.type "super", none, .fields #[.ref 137, .ref 137, .ref 137], #[]⟩ ::
  ⟨.type "builtin_function_or_method", none, .fields #[.builtin "object.__init_subclass__", .ref 137], #[]⟩ :: []), {}⟩
def hp11 (P : Params) : Heap := ⟨Array.mk (
  boot_o_0 P ::
  boot_o_1 P ::
  boot_o_2 P ::
  ⟨.type "dict", none, .dict [⟨PyData.keyHash P (.ofString "__name__"), .str (.ofString "__name__") 165, .str (.ofString "cpy313.netrc") 349⟩, ⟨PyData.keyHash P (.ofString "__doc__"), .str (.ofString "__doc__") 166, .none⟩, ⟨PyData.keyHash P (.ofString "__package__"), .str (.ofString "__package__") 167, .none⟩, ⟨PyData.keyHash P (.ofString "__loader__"), .str (.ofString "__loader__") 168, .builtin "__main__.__loader__#opaque"⟩, ⟨PyData.keyHash P (.ofString "__spec__"), .str (.ofString "__spec__") 169, .none⟩, ⟨PyData.keyHash P (.ofString "__annotations__"), .str (.ofString "__annotations__") 170, .ref 6⟩, ⟨PyData.keyHash P (.ofString "__builtins__"), .str (.ofString "__builtins__") 171, .ref 4⟩, ⟨PyData.keyHash P (.ofString "__file__"), .str (.ofString "__file__") 173, .str (.ofString "/claim/cut.py") 172⟩, ⟨PyData.keyHash P (.ofString "__cached__"), .str (.ofString "__cached__") 174, .none⟩, ⟨PyData.keyHash P (.ofString "_wall"), .str (.ofString "_wall") 193, .ref 21⟩, ⟨PyData.keyHash P (.ofString "insort_right"), .str (.ofString "insort_right") 208, .ref 30⟩, ⟨PyData.keyHash P (.ofString "bisect_right"), .str (.ofString "bisect_right") 222, .ref 39⟩, ⟨PyData.keyHash P (.ofString "insort_left"), .str (.ofString "insort_left") 235, .ref 48⟩, ⟨PyData.keyHash P (.ofString "bisect_left"), .str (.ofString "bisect_left") 249, .ref 57⟩, ⟨PyData.keyHash P (.ofString "EMPTYSTRING"), .str (.ofString "EMPTYSTRING") 253, .str (.ofString "") 252⟩, ⟨PyData.keyHash P (.ofString "_Accumulator"), .str (.ofString "_Accumulator") 348, .ref 137⟩, ⟨PyData.keyHash P (.ofString "_netrclex"), .str (.ofString "_netrclex") 408, .ref 179⟩].toArray 17, #[]⟩ ::
  boot_o_4 P ::
  boot_o_5 P ::
  boot_o_6 P ::
  boot_o_7 P ::
  boot_o_8 P ::
  boot_o_9 P ::
  boot_o_10 P ::
  ⟨.type "tuple", none, .seq #[] 0, #[]⟩ ::
  ⟨.none, none, .fields #[.int 1 0, .int 0 0, .ref 20, .int 5 0, .int 0 0, .ref 29, .int 11 0, .int 0 0, .ref 38, .int 31 0, .int 0 0, .ref 47, .int 37 0, .int 0 0, .ref 56, .int 59 0, .int 0 0, .ref 64, .int 91 0, .int 0 0, .ref 147], #[]⟩ ::
  ⟨.type "code", none, .fields #[.str (.ofString "<module>") 182, .str (.ofString "<module>") 183, .str (.ofString "/claim/cut.py") 184, .int 1 0, .int 0 0, .int 0 0, .int 0 0, .int 0 0, .ref 11, .bool false, .int 181 0, .ref 12, .none, .none, .none, .none, .int 185 0, .int 1 0, .str (.ofString "/claim/cut.py") 186], #[]⟩ ::
  ⟨.type "frame", none, .plain, #[(some (.ref 13)), (some (.ref 3)), (some (.ref 3)), none, (some (.str (.ofString "__main__") 164)), none, (some (.ref 0))]⟩ ::
  ⟨.type "tuple", none, .seq #[] 0, #[]⟩ ::
  ⟨.none, none, .fields #[], #[]⟩ ::
  ⟨.type "tuple", none, .seq #[.str (.ofString "k") 190] 0, #[]⟩ ::
  ⟨.type "tuple", none, .seq #[] 0, #[]⟩ ::
  ⟨.none, none, .func ⟨(.ofString "_wall"), (.ofString "_wall"), fP (fAt 0), .stmts (fB (fAt 0)), fS (fAt 0), 0, [], .none, .none, .none, .none, none, .none, .none, 0⟩, #[]⟩ ::
  ⟨.type "code", none, .fields #[.str (.ofString "_wall") 187, .str (.ofString "_wall") 188, .str (.ofString "/claim/cut.py") 189, .int 1 0, .int 1 0, .int 0 0, .int 0 0, .int 3 0, .ref 15, .bool true, .int 181 0, .ref 16, .none, .ref 17, .ref 18, .ref 19, .int 191 0, .int 1 0, .str (.ofString "/claim/cut.py") 192], #[]⟩ ::
  ⟨.type "function", none, .func ⟨(.ofString "_wall"), (.ofString "_wall"), fP (fAt 0), .stmts (fB (fAt 0)), fS (fAt 0), 3, [], .none, .none, .none, .str (.ofString "__main__") 164, none, .ref 20, .none, 0⟩, #[]⟩ ::
  ⟨.type "tuple", none, .seq #[.int 0 196, .none] 0, #[]⟩ ::
  ⟨.type "dict", none, .dict [⟨PyData.keyHash P (.ofString "key"), .str (.ofString "key") 197, .none⟩].toArray 1, #[]⟩ ::
  ⟨.type "tuple", none, .seq #[] 0, #[]⟩ ::
  ⟨.none, none, .fields #[], #[]⟩ ::
  ⟨.type "tuple", none, .seq #[.str (.ofString "a") 201, .str (.ofString "x") 202, .str (.ofString "lo") 203, .str (.ofString "hi") 204, .str (.ofString "key") 205] 0, #[]⟩ ::
  ⟨.type "tuple", none, .seq #[] 0, #[]⟩ ::
  ⟨.none, none, .func ⟨(.ofString "insort_right"), (.ofString "insort_right"), fP (fAt 2), .stmts (fB (fAt 2)), fS (fAt 2), 0, [], .none, .none, .none, .none, none, .none, .none, 0⟩, #[]⟩ ::
  ⟨.type "code", none, .fields #[.str (.ofString "insort_right") 198, .str (.ofString "insort_right") 199, .str (.ofString "/claim/cut.py") 200, .int 5 0, .int 4 0, .int 0 0, .int 1 0, .int 3 0, .ref 24, .bool true, .int 181 0, .ref 25, .none, .ref 26, .ref 27, .ref 28, .int 206 0, .int 5 0, .str (.ofString "/claim/cut.py") 207], #[]⟩ ::
  ⟨.type "function", none, .func ⟨(.ofString "insort_right"), (.ofString "insort_right"), fP (fAt 2), .stmts (fB (fAt 2)), fS (fAt 2), 3, [], .ref 22, .ref 23, .none, .str (.ofString "cpy313.bisect") 194, none, .ref 29, .none, 0⟩, #[]⟩ ::
  ⟨.type "tuple", none, .seq #[.int 0 209, .none] 0, #[]⟩ ::
  ⟨.type "dict", none, .dict [⟨PyData.keyHash P (.ofString "key"), .str (.ofString "key") 210, .none⟩].toArray 1, #[]⟩ ::
  ⟨.type "tuple", none, .seq #[] 0, #[]⟩ ::
  ⟨.none, none, .fields #[], #[]⟩ ::
  ⟨.type "tuple", none, .seq #[.str (.ofString "a") 214, .str (.ofString "x") 215, .str (.ofString "lo") 216, .str (.ofString "hi") 217, .str (.ofString "key") 218, .str (.ofString "mid") 219] 0, #[]⟩ ::
  ⟨.type "tuple", none, .seq #[] 0, #[]⟩ ::
  ⟨.none, none, .func ⟨(.ofString "bisect_right"), (.ofString "bisect_right"), fP (fAt 3), .stmts (fB (fAt 3)), fS (fAt 3), 0, [], .none, .none, .none, .none, none, .none, .none, 0⟩, #[]⟩ ::
  ⟨.type "code", none, .fields #[.str (.ofString "bisect_right") 211, .str (.ofString "bisect_right") 212, .str (.ofString "/claim/cut.py") 213, .int 11 0, .int 4 0, .int 0 0, .int 1 0, .int 3 0, .ref 33, .bool true, .int 181 0, .ref 34, .none, .ref 35, .ref 36, .ref 37, .int 220 0, .int 11 0, .str (.ofString "/claim/cut.py") 221], #[]⟩ ::
  ⟨.type "function", none, .func ⟨(.ofString "bisect_right"), (.ofString "bisect_right"), fP (fAt 3), .stmts (fB (fAt 3)), fS (fAt 3), 3, [], .ref 31, .ref 32, .none, .str (.ofString "cpy313.bisect") 194, none, .ref 38, .none, 0⟩, #[]⟩ ::
  ⟨.type "tuple", none, .seq #[.int 0 223, .none] 0, #[]⟩ ::
  ⟨.type "dict", none, .dict [⟨PyData.keyHash P (.ofString "key"), .str (.ofString "key") 224, .none⟩].toArray 1, #[]⟩ ::
  ⟨.type "tuple", none, .seq #[] 0, #[]⟩ ::
  ⟨.none, none, .fields #[], #[]⟩ ::
  ⟨.type "tuple", none, .seq #[.str (.ofString "a") 228, .str (.ofString "x") 229, .str (.ofString "lo") 230, .str (.ofString "hi") 231, .str (.ofString "key") 232] 0, #[]⟩ ::
  ⟨.type "tuple", none, .seq #[] 0, #[]⟩ ::
  ⟨.none, none, .func ⟨(.ofString "insort_left"), (.ofString "insort_left"), fP (fAt 4), .stmts (fB (fAt 4)), fS (fAt 4), 0, [], .none, .none, .none, .none, none, .none, .none, 0⟩, #[]⟩ ::
  ⟨.type "code", none, .fields #[.str (.ofString "insort_left") 225, .str (.ofString "insort_left") 226, .str (.ofString "/claim/cut.py") 227, .int 31 0, .int 4 0, .int 0 0, .int 1 0, .int 3 0, .ref 42, .bool true, .int 181 0, .ref 43, .none, .ref 44, .ref 45, .ref 46, .int 233 0, .int 31 0, .str (.ofString "/claim/cut.py") 234], #[]⟩ ::
  ⟨.type "function", none, .func ⟨(.ofString "insort_left"), (.ofString "insort_left"), fP (fAt 4), .stmts (fB (fAt 4)), fS (fAt 4), 3, [], .ref 40, .ref 41, .none, .str (.ofString "cpy313.bisect") 194, none, .ref 47, .none, 0⟩, #[]⟩ ::
  ⟨.type "tuple", none, .seq #[.int 0 236, .none] 0, #[]⟩ ::
  ⟨.type "dict", none, .dict [⟨PyData.keyHash P (.ofString "key"), .str (.ofString "key") 237, .none⟩].toArray 1, #[]⟩ ::
  ⟨.type "tuple", none, .seq #[] 0, #[]⟩ ::
  ⟨.none, none, .fields #[], #[]⟩ ::
  ⟨.type "tuple", none, .seq #[.str (.ofString "a") 241, .str (.ofString "x") 242, .str (.ofString "lo") 243, .str (.ofString "hi") 244, .str (.ofString "key") 245, .str (.ofString "mid") 246] 0, #[]⟩ ::
  ⟨.type "tuple", none, .seq #[] 0, #[]⟩ ::
  ⟨.none, none, .func ⟨(.ofString "bisect_left"), (.ofString "bisect_left"), fP (fAt 5), .stmts (fB (fAt 5)), fS (fAt 5), 0, [], .none, .none, .none, .none, none, .none, .none, 0⟩, #[]⟩ ::
  ⟨.type "code", none, .fields #[.str (.ofString "bisect_left") 238, .str (.ofString "bisect_left") 239, .str (.ofString "/claim/cut.py") 240, .int 37 0, .int 4 0, .int 0 0, .int 1 0, .int 3 0, .ref 51, .bool true, .int 181 0, .ref 52, .none, .ref 53, .ref 54, .ref 55, .int 247 0, .int 37 0, .str (.ofString "/claim/cut.py") 248], #[]⟩ ::
  ⟨.type "function", none, .func ⟨(.ofString "bisect_left"), (.ofString "bisect_left"), fP (fAt 5), .stmts (fB (fAt 5)), fS (fAt 5), 3, [], .ref 49, .ref 50, .none, .str (.ofString "cpy313.bisect") 194, none, .ref 56, .none, 0⟩, #[]⟩ ::
  ⟨.type "tuple", none, .seq #[.type "list"] 0, #[]⟩ ::
  ⟨.type "builtin_function_or_method", none, .fields #[.builtin "type.__prepare__", .type "type"], #[]⟩ ::
  ⟨.type "dict", none, .dict [⟨PyData.keyHash P (.ofString "__module__"), .str (.ofString "__module__") 261, .str (.ofString "cpy313.email.header") 250⟩, ⟨PyData.keyHash P (.ofString "__qualname__"), .str (.ofString "__qualname__") 263, .str (.ofString "_Accumulator") 262⟩, ⟨PyData.keyHash P (.ofString "__firstlineno__"), .str (.ofString "__firstlineno__") 265, .int 59 264⟩, ⟨PyData.keyHash P (.ofString "__init__"), .str (.ofString "__init__") 275, .ref 74⟩, ⟨PyData.keyHash P (.ofString "push"), .str (.ofString "push") 284, .ref 81⟩, ⟨PyData.keyHash P (.ofString "pop_from"), .str (.ofString "pop_from") 293, .ref 89⟩, ⟨PyData.keyHash P (.ofString "pop"), .str (.ofString "pop") 301, .ref 97⟩, ⟨PyData.keyHash P (.ofString "__len__"), .str (.ofString "__len__") 308, .ref 104⟩, ⟨PyData.keyHash P (.ofString "__str__"), .str (.ofString "__str__") 315, .ref 111⟩, ⟨PyData.keyHash P (.ofString "reset"), .str (.ofString "reset") 323, .ref 119⟩, ⟨PyData.keyHash P (.ofString "is_onlyws"), .str (.ofString "is_onlyws") 330, .ref 126⟩, ⟨PyData.keyHash P (.ofString "part_count"), .str (.ofString "part_count") 338, .ref 134⟩, ⟨PyData.keyHash P (.ofString "__static_attributes__"), .str (.ofString "__static_attributes__") 340, .ref 135⟩, ⟨PyData.keyHash P (.ofString "__classcell__"), .str (.ofString "__classcell__") 341, .ref 61⟩].toArray 14, #[]⟩ ::
  ⟨.type "cell", none, .cell (some (.ref 137)), #[]⟩ ::
  ⟨.type "tuple", none, .seq #[] 0, #[]⟩ ::
  ⟨.none, none, .fields #[.int 61 0, .int 4 0, .ref 73, .int 65 0, .int 4 0, .ref 80, .int 68 0, .int 4 0, .ref 88, .int 71 0, .int 4 0, .ref 96, .int 76 0, .int 4 0, .ref 103, .int 79 0, .int 4 0, .ref 110, .int 82 0, .int 4 0, .ref 118, .int 85 0, .int 4 0, .ref 125, .int 88 0, .int 4 0, .ref 133], #[]⟩ ::
  ⟨.type "code", none, .fields #[.str (.ofString "_Accumulator") 256, .str (.ofString "_Accumulator") 257, .str (.ofString "/claim/cut.py") 258, .int 59 0, .int 0 0, .int 0 0, .int 0 0, .int 0 0, .ref 62, .bool false, .int 181 0, .ref 63, .none, .none, .none, .none, .int 259 0, .int 59 0, .str (.ofString "/claim/cut.py") 260], #[]⟩ ::
  ⟨.type "frame", none, .plain, #[(some (.ref 64)), (some (.ref 3)), (some (.ref 60)), none, (some (.str (.ofString "cpy313.email.header") 250)), none, (some (.ref 0))]⟩ ::
  ⟨.type "tuple", none, .seq #[.int 0 266] 0, #[]⟩ ::
  ⟨.type "tuple", none, .seq #[.ref 61] 0, #[]⟩ ::
  ⟨.type "tuple", none, .seq #[.str (.ofString "__class__") 270] 0, #[]⟩ ::
  ⟨.none, none, .fields #[], #[]⟩ ::
  ⟨.type "tuple", none, .seq #[.str (.ofString "self") 271, .str (.ofString "initial_size") 272] 0, #[]⟩ ::
  ⟨.type "tuple", none, .seq #[] 0, #[]⟩ ::
  ⟨.none, none, .func ⟨(.ofString "__init__"), (.ofString "_Accumulator.__init__"), fP (mAt 8 0), .stmts (fB (mAt 8 0)), fS (mAt 8 0), 0, [], .none, .none, .none, .none, none, .none, .none, 0⟩, #[]⟩ ::
  ⟨.type "code", none, .fields #[.str (.ofString "__init__") 267, .str (.ofString "_Accumulator.__init__") 268, .str (.ofString "/claim/cut.py") 269, .int 61 0, .int 2 0, .int 0 0, .int 0 0, .int 3 0, .ref 68, .bool true, .int 181 0, .ref 69, .none, .ref 70, .ref 71, .ref 72, .int 273 0, .int 61 0, .str (.ofString "/claim/cut.py") 274], #[]⟩ ::
  ⟨.type "function", none, .func ⟨(.ofString "__init__"), (.ofString "_Accumulator.__init__"), fP (mAt 8 0), .stmts (fB (mAt 8 0)), fS (mAt 8 0), 3, [((.ofString "__class__"), 61)], .ref 66, .none, .none, .str (.ofString "cpy313.email.header") 250, none, .ref 73, .ref 67, 0⟩, #[]⟩ ::
  ⟨.type "tuple", none, .seq #[] 0, #[]⟩ ::
  ⟨.none, none, .fields #[], #[]⟩ ::
  ⟨.type "tuple", none, .seq #[.str (.ofString "self") 279, .str (.ofString "fws") 280, .str (.ofString "string") 281] 0, #[]⟩ ::
  ⟨.type "tuple", none, .seq #[] 0, #[]⟩ ::
  ⟨.none, none, .func ⟨(.ofString "push"), (.ofString "_Accumulator.push"), fP (mAt 8 1), .stmts (fB (mAt 8 1)), fS (mAt 8 1), 0, [], .none, .none, .none, .none, none, .none, .none, 0⟩, #[]⟩ ::
  ⟨.type "code", none, .fields #[.str (.ofString "push") 276, .str (.ofString "_Accumulator.push") 277, .str (.ofString "/claim/cut.py") 278, .int 65 0, .int 3 0, .int 0 0, .int 0 0, .int 3 0, .ref 75, .bool true, .int 181 0, .ref 76, .none, .ref 77, .ref 78, .ref 79, .int 282 0, .int 65 0, .str (.ofString "/claim/cut.py") 283], #[]⟩ ::
  ⟨.type "function", none, .func ⟨(.ofString "push"), (.ofString "_Accumulator.push"), fP (mAt 8 1), .stmts (fB (mAt 8 1)), fS (mAt 8 1), 3, [], .none, .none, .none, .str (.ofString "cpy313.email.header") 250, none, .ref 80, .none, 0⟩, #[]⟩ ::
  ⟨.type "tuple", none, .seq #[.int 0 285] 0, #[]⟩ ::
  ⟨.type "tuple", none, .seq #[] 0, #[]⟩ ::
  ⟨.none, none, .fields #[], #[]⟩ ::
  ⟨.type "tuple", none, .seq #[.str (.ofString "self") 289, .str (.ofString "i") 290] 0, #[]⟩ ::
  ⟨.type "tuple", none, .seq #[] 0, #[]⟩ ::
  ⟨.none, none, .func ⟨(.ofString "pop_from"), (.ofString "_Accumulator.pop_from"), fP (mAt 8 2), .stmts (fB (mAt 8 2)), fS (mAt 8 2), 0, [], .none, .none, .none, .none, none, .none, .none, 0⟩, #[]⟩ ::
  ⟨.type "code", none, .fields #[.str (.ofString "pop_from") 286, .str (.ofString "_Accumulator.pop_from") 287, .str (.ofString "/claim/cut.py") 288, .int 68 0, .int 2 0, .int 0 0, .int 0 0, .int 3 0, .ref 83, .bool true, .int 181 0, .ref 84, .none, .ref 85, .ref 86, .ref 87, .int 291 0, .int 68 0, .str (.ofString "/claim/cut.py") 292], #[]⟩ ::
  ⟨.type "function", none, .func ⟨(.ofString "pop_from"), (.ofString "_Accumulator.pop_from"), fP (mAt 8 2), .stmts (fB (mAt 8 2)), fS (mAt 8 2), 3, [], .ref 82, .none, .none, .str (.ofString "cpy313.email.header") 250, none, .ref 88, .none, 0⟩, #[]⟩ ::
  ⟨.type "tuple", none, .seq #[.ref 61] 0, #[]⟩ ::
  ⟨.type "tuple", none, .seq #[.str (.ofString "__class__") 297] 0, #[]⟩ ::
  ⟨.none, none, .fields #[], #[]⟩ ::
  ⟨.type "tuple", none, .seq #[.str (.ofString "self") 298] 0, #[]⟩ ::
  ⟨.type "tuple", none, .seq #[] 0, #[]⟩ ::
  ⟨.none, none, .func ⟨(.ofString "pop"), (.ofString "_Accumulator.pop"), fP (mAt 8 3), .stmts (fB (mAt 8 3)), fS (mAt 8 3), 0, [], .none, .none, .none, .none, none, .none, .none, 0⟩, #[]⟩ ::
  ⟨.type "code", none, .fields #[.str (.ofString "pop") 294, .str (.ofString "_Accumulator.pop") 295, .str (.ofString "/claim/cut.py") 296, .int 71 0, .int 1 0, .int 0 0, .int 0 0, .int 3 0, .ref 91, .bool true, .int 181 0, .ref 92, .none, .ref 93, .ref 94, .ref 95, .int 299 0, .int 71 0, .str (.ofString "/claim/cut.py") 300], #[]⟩ ::
  ⟨.type "function", none, .func ⟨(.ofString "pop"), (.ofString "_Accumulator.pop"), fP (mAt 8 3), .stmts (fB (mAt 8 3)), fS (mAt 8 3), 3, [((.ofString "__class__"), 61)], .none, .none, .none, .str (.ofString "cpy313.email.header") 250, none, .ref 96, .ref 90, 0⟩, #[]⟩ ::
  ⟨.type "tuple", none, .seq #[] 0, #[]⟩ ::
  ⟨.none, none, .fields #[], #[]⟩ ::
  ⟨.type "tuple", none, .seq #[.str (.ofString "self") 305] 0, #[]⟩ ::
  ⟨.type "tuple", none, .seq #[] 0, #[]⟩ ::
  ⟨.none, none, .func ⟨(.ofString "__len__"), (.ofString "_Accumulator.__len__"), fP (mAt 8 4), .stmts (fB (mAt 8 4)), fS (mAt 8 4), 0, [], .none, .none, .none, .none, none, .none, .none, 0⟩, #[]⟩ ::
  ⟨.type "code", none, .fields #[.str (.ofString "__len__") 302, .str (.ofString "_Accumulator.__len__") 303, .str (.ofString "/claim/cut.py") 304, .int 76 0, .int 1 0, .int 0 0, .int 0 0, .int 3 0, .ref 98, .bool true, .int 181 0, .ref 99, .none, .ref 100, .ref 101, .ref 102, .int 306 0, .int 76 0, .str (.ofString "/claim/cut.py") 307], #[]⟩ ::
  ⟨.type "function", none, .func ⟨(.ofString "__len__"), (.ofString "_Accumulator.__len__"), fP (mAt 8 4), .stmts (fB (mAt 8 4)), fS (mAt 8 4), 3, [], .none, .none, .none, .str (.ofString "cpy313.email.header") 250, none, .ref 103, .none, 0⟩, #[]⟩ ::
  ⟨.type "tuple", none, .seq #[] 0, #[]⟩ ::
  ⟨.none, none, .fields #[], #[]⟩ ::
  ⟨.type "tuple", none, .seq #[.str (.ofString "self") 312] 0, #[]⟩ ::
  ⟨.type "tuple", none, .seq #[] 0, #[]⟩ ::
  ⟨.none, none, .func ⟨(.ofString "__str__"), (.ofString "_Accumulator.__str__"), fP (mAt 8 5), .stmts (fB (mAt 8 5)), fS (mAt 8 5), 0, [], .none, .none, .none, .none, none, .none, .none, 0⟩, #[]⟩ ::
  ⟨.type "code", none, .fields #[.str (.ofString "__str__") 309, .str (.ofString "_Accumulator.__str__") 310, .str (.ofString "/claim/cut.py") 311, .int 79 0, .int 1 0, .int 0 0, .int 0 0, .int 3 0, .ref 105, .bool true, .int 181 0, .ref 106, .none, .ref 107, .ref 108, .ref 109, .int 313 0, .int 79 0, .str (.ofString "/claim/cut.py") 314], #[]⟩ ::
  ⟨.type "function", none, .func ⟨(.ofString "__str__"), (.ofString "_Accumulator.__str__"), fP (mAt 8 5), .stmts (fB (mAt 8 5)), fS (mAt 8 5), 3, [], .none, .none, .none, .str (.ofString "cpy313.email.header") 250, none, .ref 110, .none, 0⟩, #[]⟩ ::
  ⟨.type "tuple", none, .seq #[.none] 0, #[]⟩ ::
  ⟨.type "tuple", none, .seq #[] 0, #[]⟩ ::
  ⟨.none, none, .fields #[], #[]⟩ ::
  ⟨.type "tuple", none, .seq #[.str (.ofString "self") 319, .str (.ofString "startval") 320] 0, #[]⟩ ::
  ⟨.type "tuple", none, .seq #[] 0, #[]⟩ ::
  ⟨.none, none, .func ⟨(.ofString "reset"), (.ofString "_Accumulator.reset"), fP (mAt 8 6), .stmts (fB (mAt 8 6)), fS (mAt 8 6), 0, [], .none, .none, .none, .none, none, .none, .none, 0⟩, #[]⟩ ::
  ⟨.type "code", none, .fields #[.str (.ofString "reset") 316, .str (.ofString "_Accumulator.reset") 317, .str (.ofString "/claim/cut.py") 318, .int 82 0, .int 2 0, .int 0 0, .int 0 0, .int 3 0, .ref 113, .bool true, .int 181 0, .ref 114, .none, .ref 115, .ref 116, .ref 117, .int 321 0, .int 82 0, .str (.ofString "/claim/cut.py") 322], #[]⟩ ::
  ⟨.type "function", none, .func ⟨(.ofString "reset"), (.ofString "_Accumulator.reset"), fP (mAt 8 6), .stmts (fB (mAt 8 6)), fS (mAt 8 6), 3, [], .ref 112, .none, .none, .str (.ofString "cpy313.email.header") 250, none, .ref 118, .none, 0⟩, #[]⟩ ::
  ⟨.type "tuple", none, .seq #[] 0, #[]⟩ ::
  ⟨.none, none, .fields #[], #[]⟩ ::
  ⟨.type "tuple", none, .seq #[.str (.ofString "self") 327] 0, #[]⟩ ::
  ⟨.type "tuple", none, .seq #[] 0, #[]⟩ ::
  ⟨.none, none, .func ⟨(.ofString "is_onlyws"), (.ofString "_Accumulator.is_onlyws"), fP (mAt 8 7), .stmts (fB (mAt 8 7)), fS (mAt 8 7), 0, [], .none, .none, .none, .none, none, .none, .none, 0⟩, #[]⟩ ::
  ⟨.type "code", none, .fields #[.str (.ofString "is_onlyws") 324, .str (.ofString "_Accumulator.is_onlyws") 325, .str (.ofString "/claim/cut.py") 326, .int 85 0, .int 1 0, .int 0 0, .int 0 0, .int 3 0, .ref 120, .bool true, .int 181 0, .ref 121, .none, .ref 122, .ref 123, .ref 124, .int 328 0, .int 85 0, .str (.ofString "/claim/cut.py") 329], #[]⟩ ::
  ⟨.type "function", none, .func ⟨(.ofString "is_onlyws"), (.ofString "_Accumulator.is_onlyws"), fP (mAt 8 7), .stmts (fB (mAt 8 7)), fS (mAt 8 7), 3, [], .none, .none, .none, .str (.ofString "cpy313.email.header") 250, none, .ref 125, .none, 0⟩, #[]⟩ ::
  ⟨.type "tuple", none, .seq #[.ref 61] 0, #[]⟩ ::
  ⟨.type "tuple", none, .seq #[.str (.ofString "__class__") 334] 0, #[]⟩ ::
  ⟨.none, none, .fields #[], #[]⟩ ::
  ⟨.type "tuple", none, .seq #[.str (.ofString "self") 335] 0, #[]⟩ ::
  ⟨.type "tuple", none, .seq #[] 0, #[]⟩ ::
  ⟨.none, none, .func ⟨(.ofString "part_count"), (.ofString "_Accumulator.part_count"), fP (mAt 8 8), .stmts (fB (mAt 8 8)), fS (mAt 8 8), 0, [], .none, .none, .none, .none, none, .none, .none, 0⟩, #[]⟩ ::
  ⟨.type "code", none, .fields #[.str (.ofString "part_count") 331, .str (.ofString "_Accumulator.part_count") 332, .str (.ofString "/claim/cut.py") 333, .int 88 0, .int 1 0, .int 0 0, .int 0 0, .int 3 0, .ref 128, .bool true, .int 181 0, .ref 129, .none, .ref 130, .ref 131, .ref 132, .int 336 0, .int 88 0, .str (.ofString "/claim/cut.py") 337], #[]⟩ ::
  ⟨.type "function", none, .func ⟨(.ofString "part_count"), (.ofString "_Accumulator.part_count"), fP (mAt 8 8), .stmts (fB (mAt 8 8)), fS (mAt 8 8), 3, [((.ofString "__class__"), 61)], .none, .none, .none, .str (.ofString "cpy313.email.header") 250, none, .ref 133, .ref 127, 0⟩, #[]⟩ ::
  ⟨.type "tuple", none, .seq #[.str (.ofString "_initial_size") 339] 0, #[]⟩ ::
  ⟨.type "dict", none, .dict [⟨PyData.keyHash P (.ofString "__module__"), .str (.ofString "__module__") 261, .str (.ofString "cpy313.email.header") 250⟩, ⟨PyData.keyHash P (.ofString "__firstlineno__"), .str (.ofString "__firstlineno__") 265, .int 59 264⟩, ⟨PyData.keyHash P (.ofString "__init__"), .str (.ofString "__init__") 275, .ref 74⟩, ⟨PyData.keyHash P (.ofString "push"), .str (.ofString "push") 284, .ref 81⟩, ⟨PyData.keyHash P (.ofString "pop_from"), .str (.ofString "pop_from") 293, .ref 89⟩, ⟨PyData.keyHash P (.ofString "pop"), .str (.ofString "pop") 301, .ref 97⟩, ⟨PyData.keyHash P (.ofString "__len__"), .str (.ofString "__len__") 308, .ref 104⟩, ⟨PyData.keyHash P (.ofString "__str__"), .str (.ofString "__str__") 315, .ref 111⟩, ⟨PyData.keyHash P (.ofString "reset"), .str (.ofString "reset") 323, .ref 119⟩, ⟨PyData.keyHash P (.ofString "is_onlyws"), .str (.ofString "is_onlyws") 330, .ref 126⟩, ⟨PyData.keyHash P (.ofString "part_count"), .str (.ofString "part_count") 338, .ref 134⟩, ⟨PyData.keyHash P (.ofString "__static_attributes__"), .str (.ofString "__static_attributes__") 340, .ref 135⟩, ⟨PyData.keyHash P (.ofString "__dict__"), .str (.ofString "__dict__") 343, .ref 138⟩, ⟨PyData.keyHash P (.ofString "__weakref__"), .str (.ofString "__weakref__") 345, .ref 139⟩, ⟨PyData.keyHash P (.ofString "__doc__"), .str (.ofString "__doc__") 346, .none⟩].toArray 5, #[]⟩ ::
  ⟨.type "type", none, .cls ⟨(.ofString "_Accumulator"), [.type "list"], [.ref 137, .type "list", .type "object"], 136, (.ofString "_Accumulator"), true, [], [], false, none, false⟩, #[(some (.ref 58)), none, (some (.str (.ofString "_Accumulator") 254)), (some (.str (.ofString "_Accumulator") 262)), (some (.builtin "list.__new__")), (some (.bool true))]⟩ ::
  ⟨.type "getset_descriptor", none, .fields #[.str (.ofString "__dict__") 342, .ref 137, .builtin "function.__dict__", .builtin "function.__dict__#set"], #[]⟩ ::
  ⟨.type "getset_descriptor", none, .fields #[.str (.ofString "__weakref__") 344, .ref 137, .builtin "ExceptionGroup.__weakref__", .none], #[]⟩ ::
  ⟨.type "super", none, .fields #[.ref 137, .ref 137, .ref 137], #[]⟩ ::
  ⟨.type "builtin_function_or_method", none, .fields #[.builtin "object.__init_subclass__", .ref 137], #[]⟩ ::
  ⟨.type "tuple", none, .seq #[] 0, #[]⟩ ::
  ⟨.type "builtin_function_or_method", none, .fields #[.builtin "type.__prepare__", .type "type"], #[]⟩ ::
  ⟨.type "dict", none, .dict [⟨PyData.keyHash P (.ofString "__module__"), .str (.ofString "__module__") 358, .str (.ofString "cpy313.netrc") 349⟩, ⟨PyData.keyHash P (.ofString "__qualname__"), .str (.ofString "__qualname__") 360, .str (.ofString "_netrclex") 359⟩, ⟨PyData.keyHash P (.ofString "__firstlineno__"), .str (.ofString "__firstlineno__") 362, .int 91 361⟩, ⟨PyData.keyHash P (.ofString "__init__"), .str (.ofString "__init__") 370, .ref 155⟩, ⟨PyData.keyHash P (.ofString "_read_char"), .str (.ofString "_read_char") 378, .ref 162⟩, ⟨PyData.keyHash P (.ofString "get_token"), .str (.ofString "get_token") 388, .ref 169⟩, ⟨PyData.keyHash P (.ofString "push_token"), .str (.ofString "push_token") 396, .ref 176⟩, ⟨PyData.keyHash P (.ofString "__static_attributes__"), .str (.ofString "__static_attributes__") 401, .ref 177⟩].toArray 8, #[]⟩ ::
  ⟨.type "tuple", none, .seq #[] 0, #[]⟩ ::
  ⟨.none, none, .fields #[.int 93 0, .int 4 0, .ref 154, .int 99 0, .int 4 0, .ref 161, .int 105 0, .int 4 0, .ref 168, .int 132 0, .int 4 0, .ref 175], #[]⟩ ::
  ⟨.type "code", none, .fields #[.str (.ofString "_netrclex") 353, .str (.ofString "_netrclex") 354, .str (.ofString "/claim/cut.py") 355, .int 91 0, .int 0 0, .int 0 0, .int 0 0, .int 0 0, .ref 145, .bool false, .int 181 0, .ref 146, .none, .none, .none, .none, .int 356 0, .int 91 0, .str (.ofString "/claim/cut.py") 357], #[]⟩ ::
  ⟨.type "frame", none, .plain, #[(some (.ref 147)), (some (.ref 3)), (some (.ref 144)), none, (some (.str (.ofString "cpy313.netrc") 349)), none, (some (.ref 0))]⟩ ::
  ⟨.type "tuple", none, .seq #[] 0, #[]⟩ ::
  ⟨.none, none, .fields #[], #[]⟩ ::
  ⟨.type "tuple", none, .seq #[.str (.ofString "self") 366, .str (.ofString "fp") 367] 0, #[]⟩ ::
  ⟨.type "tuple", none, .seq #[] 0, #[]⟩ ::
  ⟨.none, none, .func ⟨(.ofString "__init__"), (.ofString "_netrclex.__init__"), fP (mAt 10 0), .stmts (fB (mAt 10 0)), fS (mAt 10 0), 0, [], .none, .none, .none, .none, none, .none, .none, 0⟩, #[]⟩ ::
  ⟨.type "code", none, .fields #[.str (.ofString "__init__") 363, .str (.ofString "_netrclex.__init__") 364, .str (.ofString "/claim/cut.py") 365, .int 93 0, .int 2 0, .int 0 0, .int 0 0, .int 3 0, .ref 149, .bool true, .int 181 0, .ref 150, .none, .ref 151, .ref 152, .ref 153, .int 368 0, .int 93 0, .str (.ofString "/claim/cut.py") 369], #[]⟩ ::
  ⟨.type "function", none, .func ⟨(.ofString "__init__"), (.ofString "_netrclex.__init__"), fP (mAt 10 0), .stmts (fB (mAt 10 0)), fS (mAt 10 0), 3, [], .none, .none, .none, .str (.ofString "cpy313.netrc") 349, none, .ref 154, .none, 0⟩, #[]⟩ ::
  ⟨.type "tuple", none, .seq #[] 0, #[]⟩ ::
  ⟨.none, none, .fields #[], #[]⟩ ::
  ⟨.type "tuple", none, .seq #[.str (.ofString "self") 374, .str (.ofString "ch") 375] 0, #[]⟩ ::
  ⟨.type "tuple", none, .seq #[] 0, #[]⟩ ::
  ⟨.none, none, .func ⟨(.ofString "_read_char"), (.ofString "_netrclex._read_char"), fP (mAt 10 1), .stmts (fB (mAt 10 1)), fS (mAt 10 1), 0, [], .none, .none, .none, .none, none, .none, .none, 0⟩, #[]⟩ ::
  ⟨.type "code", none, .fields #[.str (.ofString "_read_char") 371, .str (.ofString "_netrclex._read_char") 372, .str (.ofString "/claim/cut.py") 373, .int 99 0, .int 1 0, .int 0 0, .int 0 0, .int 3 0, .ref 156, .bool true, .int 181 0, .ref 157, .none, .ref 158, .ref 159, .ref 160, .int 376 0, .int 99 0, .str (.ofString "/claim/cut.py") 377], #[]⟩ ::
  ⟨.type "function", none, .func ⟨(.ofString "_read_char"), (.ofString "_netrclex._read_char"), fP (mAt 10 1), .stmts (fB (mAt 10 1)), fS (mAt 10 1), 3, [], .none, .none, .none, .str (.ofString "cpy313.netrc") 349, none, .ref 161, .none, 0⟩, #[]⟩ ::
  ⟨.type "tuple", none, .seq #[] 0, #[]⟩ ::
  ⟨.none, none, .fields #[], #[]⟩ ::
  ⟨.type "tuple", none, .seq #[.str (.ofString "self") 382, .str (.ofString "token") 383, .str (.ofString "fiter") 384, .str (.ofString "ch") 385] 0, #[]⟩ ::
  ⟨.type "tuple", none, .seq #[] 0, #[]⟩ ::
  ⟨.none, none, .func ⟨(.ofString "get_token"), (.ofString "_netrclex.get_token"), fP (mAt 10 2), .stmts (fB (mAt 10 2)), fS (mAt 10 2), 0, [], .none, .none, .none, .none, none, .none, .none, 0⟩, #[]⟩ ::
  ⟨.type "code", none, .fields #[.str (.ofString "get_token") 379, .str (.ofString "_netrclex.get_token") 380, .str (.ofString "/claim/cut.py") 381, .int 105 0, .int 1 0, .int 0 0, .int 0 0, .int 3 0, .ref 163, .bool true, .int 181 0, .ref 164, .none, .ref 165, .ref 166, .ref 167, .int 386 0, .int 105 0, .str (.ofString "/claim/cut.py") 387], #[]⟩ ::
  ⟨.type "function", none, .func ⟨(.ofString "get_token"), (.ofString "_netrclex.get_token"), fP (mAt 10 2), .stmts (fB (mAt 10 2)), fS (mAt 10 2), 3, [], .none, .none, .none, .str (.ofString "cpy313.netrc") 349, none, .ref 168, .none, 0⟩, #[]⟩ ::
  ⟨.type "tuple", none, .seq #[] 0, #[]⟩ ::
  ⟨.none, none, .fields #[], #[]⟩ ::
  ⟨.type "tuple", none, .seq #[.str (.ofString "self") 392, .str (.ofString "token") 393] 0, #[]⟩ ::
  ⟨.type "tuple", none, .seq #[] 0, #[]⟩ ::
  ⟨.none, none, .func ⟨(.ofString "push_token"), (.ofString "_netrclex.push_token"), fP (mAt 10 3), .stmts (fB (mAt 10 3)), fS (mAt 10 3), 0, [], .none, .none, .none, .none, none, .none, .none, 0⟩, #[]⟩ ::
  ⟨.type "code", none, .fields #[.str (.ofString "push_token") 389, .str (.ofString "_netrclex.push_token") 390, .str (.ofString "/claim/cut.py") 391, .int 132 0, .int 2 0, .int 0 0, .int 0 0, .int 3 0, .ref 170, .bool true, .int 181 0, .ref 171, .none, .ref 172, .ref 173, .ref 174, .int 394 0, .int 132 0, .str (.ofString "/claim/cut.py") 395], #[]⟩ ::
  ⟨.type "function", none, .func ⟨(.ofString "push_token"), (.ofString "_netrclex.push_token"), fP (mAt 10 3), .stmts (fB (mAt 10 3)), fS (mAt 10 3), 3, [], .none, .none, .none, .str (.ofString "cpy313.netrc") 349, none, .ref 175, .none, 0⟩, #[]⟩ ::
  ⟨.type "tuple", none, .seq #[.str (.ofString "instream") 397, .str (.ofString "lineno") 398, .str (.ofString "pushback") 399, .str (.ofString "whitespace") 400] 0, #[]⟩ ::
  ⟨.type "dict", none, .dict [⟨PyData.keyHash P (.ofString "__module__"), .str (.ofString "__module__") 358, .str (.ofString "cpy313.netrc") 349⟩, ⟨PyData.keyHash P (.ofString "__firstlineno__"), .str (.ofString "__firstlineno__") 362, .int 91 361⟩, ⟨PyData.keyHash P (.ofString "__init__"), .str (.ofString "__init__") 370, .ref 155⟩, ⟨PyData.keyHash P (.ofString "_read_char"), .str (.ofString "_read_char") 378, .ref 162⟩, ⟨PyData.keyHash P (.ofString "get_token"), .str (.ofString "get_token") 388, .ref 169⟩, ⟨PyData.keyHash P (.ofString "push_token"), .str (.ofString "push_token") 396, .ref 176⟩, ⟨PyData.keyHash P (.ofString "__static_attributes__"), .str (.ofString "__static_attributes__") 401, .ref 177⟩, ⟨PyData.keyHash P (.ofString "__dict__"), .str (.ofString "__dict__") 403, .ref 180⟩, ⟨PyData.keyHash P (.ofString "__weakref__"), .str (.ofString "__weakref__") 405, .ref 181⟩, ⟨PyData.keyHash P (.ofString "__doc__"), .str (.ofString "__doc__") 406, .none⟩].toArray 4, #[]⟩ ::
  ⟨.type "type", none, .cls ⟨(.ofString "_netrclex"), [.type "object"], [.ref 179, .type "object"], 178, (.ofString "_netrclex"), true, [], [], false, none, false⟩, #[none, none, (some (.str (.ofString "_netrclex") 351)), (some (.str (.ofString "_netrclex") 359)), (some (.builtin "object.__new__")), (some (.bool true))]⟩ ::
  ⟨.type "getset_descriptor", none, .fields #[.str (.ofString "__dict__") 402, .ref 179, .builtin "function.__dict__", .builtin "function.__dict__#set"], #[]⟩ ::
  ⟨.type "getset_descriptor", none, .fields #[.str (.ofString "__weakref__") 404, .ref 179, .builtin "ExceptionGroup.__weakref__", .none], #[]⟩ ::
  ⟨.type "super", none, .fields #[.ref 179, .ref 179, .ref 179], #[]⟩ ::
  ⟨.type "builtin_function_or_method", none, .fields #[.builtin "object.__init_subclass__", .ref 179], #[]⟩ :: []), {}⟩
def hp19 (P : Params) : Heap := ⟨Array.mk (
  boot_o_0 P ::
  boot_o_1 P ::
  boot_o_2 P ::
  ⟨.type "dict", none, .dict [⟨PyData.keyHash P (.ofString "__name__"), .str (.ofString "__name__") 165, .str (.ofString "law_tl0016_01") 409⟩, ⟨PyData.keyHash P (.ofString "__doc__"), .str (.ofString "__doc__") 166, .none⟩, ⟨PyData.keyHash P (.ofString "__package__"), .str (.ofString "__package__") 167, .none⟩, ⟨PyData.keyHash P (.ofString "__loader__"), .str (.ofString "__loader__") 168, .builtin "__main__.__loader__#opaque"⟩, ⟨PyData.keyHash P (.ofString "__spec__"), .str (.ofString "__spec__") 169, .none⟩, ⟨PyData.keyHash P (.ofString "__annotations__"), .str (.ofString "__annotations__") 170, .ref 6⟩, ⟨PyData.keyHash P (.ofString "__builtins__"), .str (.ofString "__builtins__") 171, .ref 4⟩, ⟨PyData.keyHash P (.ofString "__file__"), .str (.ofString "__file__") 173, .str (.ofString "/claim/cut.py") 172⟩, ⟨PyData.keyHash P (.ofString "__cached__"), .str (.ofString "__cached__") 174, .none⟩, ⟨PyData.keyHash P (.ofString "_wall"), .str (.ofString "_wall") 193, .ref 21⟩, ⟨PyData.keyHash P (.ofString "insort_right"), .str (.ofString "insort_right") 208, .ref 30⟩, ⟨PyData.keyHash P (.ofString "bisect_right"), .str (.ofString "bisect_right") 222, .ref 39⟩, ⟨PyData.keyHash P (.ofString "insort_left"), .str (.ofString "insort_left") 235, .ref 48⟩, ⟨PyData.keyHash P (.ofString "bisect_left"), .str (.ofString "bisect_left") 249, .ref 57⟩, ⟨PyData.keyHash P (.ofString "EMPTYSTRING"), .str (.ofString "EMPTYSTRING") 253, .str (.ofString "") 252⟩, ⟨PyData.keyHash P (.ofString "_Accumulator"), .str (.ofString "_Accumulator") 348, .ref 137⟩, ⟨PyData.keyHash P (.ofString "_netrclex"), .str (.ofString "_netrclex") 408, .ref 179⟩, ⟨PyData.keyHash P (.ofString "_law_lexer"), .str (.ofString "_law_lexer") 421, .ref 190⟩, ⟨PyData.keyHash P (.ofString "_law_text"), .str (.ofString "_law_text") 427, .ref 195⟩, ⟨PyData.keyHash P (.ofString "_law_size"), .str (.ofString "_law_size") 434, .ref 202⟩, ⟨PyData.keyHash P (.ofString "_law_walk_with_a_row"), .str (.ofString "_law_walk_with_a_row") 440, .ref 207⟩, ⟨PyData.keyHash P (.ofString "_law_walks"), .str (.ofString "_law_walks") 453, .ref 214⟩, ⟨PyData.keyHash P (.ofString "_law_turned"), .str (.ofString "_law_turned") 459, .ref 219⟩, ⟨PyData.keyHash P (.ofString "law"), .str (.ofString "law") 465, .ref 224⟩].toArray 24, #[]⟩ ::
  boot_o_4 P ::
  boot_o_5 P ::
  boot_o_6 P ::
  boot_o_7 P ::
  boot_o_8 P ::
  boot_o_9 P ::
  boot_o_10 P ::
  ⟨.type "tuple", none, .seq #[] 0, #[]⟩ ::
  ⟨.none, none, .fields #[.int 1 0, .int 0 0, .ref 20, .int 5 0, .int 0 0, .ref 29, .int 11 0, .int 0 0, .ref 38, .int 31 0, .int 0 0, .ref 47, .int 37 0, .int 0 0, .ref 56, .int 59 0, .int 0 0, .ref 64, .int 91 0, .int 0 0, .ref 147, .int 135 0, .int 0 0, .ref 189, .int 145 0, .int 0 0, .ref 194, .int 153 0, .int 0 0, .ref 201, .int 155 0, .int 0 0, .ref 206, .int 174 0, .int 0 0, .ref 213, .int 187 0, .int 0 0, .ref 218, .int 189 0, .int 0 0, .ref 223], #[]⟩ ::
  ⟨.type "code", none, .fields #[.str (.ofString "<module>") 182, .str (.ofString "<module>") 183, .str (.ofString "/claim/cut.py") 184, .int 1 0, .int 0 0, .int 0 0, .int 0 0, .int 0 0, .ref 11, .bool false, .int 181 0, .ref 12, .none, .none, .none, .none, .int 185 0, .int 1 0, .str (.ofString "/claim/cut.py") 186], #[]⟩ ::
  ⟨.type "frame", none, .plain, #[(some (.ref 13)), (some (.ref 3)), (some (.ref 3)), none, (some (.str (.ofString "__main__") 164)), none, (some (.ref 0))]⟩ ::
  ⟨.type "tuple", none, .seq #[] 0, #[]⟩ ::
  ⟨.none, none, .fields #[], #[]⟩ ::
  ⟨.type "tuple", none, .seq #[.str (.ofString "k") 190] 0, #[]⟩ ::
  ⟨.type "tuple", none, .seq #[] 0, #[]⟩ ::
  ⟨.none, none, .func ⟨(.ofString "_wall"), (.ofString "_wall"), fP (fAt 0), .stmts (fB (fAt 0)), fS (fAt 0), 0, [], .none, .none, .none, .none, none, .none, .none, 0⟩, #[]⟩ ::
  ⟨.type "code", none, .fields #[.str (.ofString "_wall") 187, .str (.ofString "_wall") 188, .str (.ofString "/claim/cut.py") 189, .int 1 0, .int 1 0, .int 0 0, .int 0 0, .int 3 0, .ref 15, .bool true, .int 181 0, .ref 16, .none, .ref 17, .ref 18, .ref 19, .int 191 0, .int 1 0, .str (.ofString "/claim/cut.py") 192], #[]⟩ ::
  ⟨.type "function", none, .func ⟨(.ofString "_wall"), (.ofString "_wall"), fP (fAt 0), .stmts (fB (fAt 0)), fS (fAt 0), 3, [], .none, .none, .none, .str (.ofString "__main__") 164, none, .ref 20, .none, 0⟩, #[]⟩ ::
  ⟨.type "tuple", none, .seq #[.int 0 196, .none] 0, #[]⟩ ::
  ⟨.type "dict", none, .dict [⟨PyData.keyHash P (.ofString "key"), .str (.ofString "key") 197, .none⟩].toArray 1, #[]⟩ ::
  ⟨.type "tuple", none, .seq #[] 0, #[]⟩ ::
  ⟨.none, none, .fields #[], #[]⟩ ::
  ⟨.type "tuple", none, .seq #[.str (.ofString "a") 201, .str (.ofString "x") 202, .str (.ofString "lo") 203, .str (.ofString "hi") 204, .str (.ofString "key") 205] 0, #[]⟩ ::
  ⟨.type "tuple", none, .seq #[] 0, #[]⟩ ::
  ⟨.none, none, .func ⟨(.ofString "insort_right"), (.ofString "insort_right"), fP (fAt 2), .stmts (fB (fAt 2)), fS (fAt 2), 0, [], .none, .none, .none, .none, none, .none, .none, 0⟩, #[]⟩ ::
  ⟨.type "code", none, .fields #[.str (.ofString "insort_right") 198, .str (.ofString "insort_right") 199, .str (.ofString "/claim/cut.py") 200, .int 5 0, .int 4 0, .int 0 0, .int 1 0, .int 3 0, .ref 24, .bool true, .int 181 0, .ref 25, .none, .ref 26, .ref 27, .ref 28, .int 206 0, .int 5 0, .str (.ofString "/claim/cut.py") 207], #[]⟩ ::
  ⟨.type "function", none, .func ⟨(.ofString "insort_right"), (.ofString "insort_right"), fP (fAt 2), .stmts (fB (fAt 2)), fS (fAt 2), 3, [], .ref 22, .ref 23, .none, .str (.ofString "cpy313.bisect") 194, none, .ref 29, .none, 0⟩, #[]⟩ ::
  ⟨.type "tuple", none, .seq #[.int 0 209, .none] 0, #[]⟩ ::
  ⟨.type "dict", none, .dict [⟨PyData.keyHash P (.ofString "key"), .str (.ofString "key") 210, .none⟩].toArray 1, #[]⟩ ::
  ⟨.type "tuple", none, .seq #[] 0, #[]⟩ ::
  ⟨.none, none, .fields #[], #[]⟩ ::
  ⟨.type "tuple", none, .seq #[.str (.ofString "a") 214, .str (.ofString "x") 215, .str (.ofString "lo") 216, .str (.ofString "hi") 217, .str (.ofString "key") 218, .str (.ofString "mid") 219] 0, #[]⟩ ::
  ⟨.type "tuple", none, .seq #[] 0, #[]⟩ ::
  ⟨.none, none, .func ⟨(.ofString "bisect_right"), (.ofString "bisect_right"), fP (fAt 3), .stmts (fB (fAt 3)), fS (fAt 3), 0, [], .none, .none, .none, .none, none, .none, .none, 0⟩, #[]⟩ ::
  ⟨.type "code", none, .fields #[.str (.ofString "bisect_right") 211, .str (.ofString "bisect_right") 212, .str (.ofString "/claim/cut.py") 213, .int 11 0, .int 4 0, .int 0 0, .int 1 0, .int 3 0, .ref 33, .bool true, .int 181 0, .ref 34, .none, .ref 35, .ref 36, .ref 37, .int 220 0, .int 11 0, .str (.ofString "/claim/cut.py") 221], #[]⟩ ::
  ⟨.type "function", none, .func ⟨(.ofString "bisect_right"), (.ofString "bisect_right"), fP (fAt 3), .stmts (fB (fAt 3)), fS (fAt 3), 3, [], .ref 31, .ref 32, .none, .str (.ofString "cpy313.bisect") 194, none, .ref 38, .none, 0⟩, #[]⟩ ::
  ⟨.type "tuple", none, .seq #[.int 0 223, .none] 0, #[]⟩ ::
  ⟨.type "dict", none, .dict [⟨PyData.keyHash P (.ofString "key"), .str (.ofString "key") 224, .none⟩].toArray 1, #[]⟩ ::
  ⟨.type "tuple", none, .seq #[] 0, #[]⟩ ::
  ⟨.none, none, .fields #[], #[]⟩ ::
  ⟨.type "tuple", none, .seq #[.str (.ofString "a") 228, .str (.ofString "x") 229, .str (.ofString "lo") 230, .str (.ofString "hi") 231, .str (.ofString "key") 232] 0, #[]⟩ ::
  ⟨.type "tuple", none, .seq #[] 0, #[]⟩ ::
  ⟨.none, none, .func ⟨(.ofString "insort_left"), (.ofString "insort_left"), fP (fAt 4), .stmts (fB (fAt 4)), fS (fAt 4), 0, [], .none, .none, .none, .none, none, .none, .none, 0⟩, #[]⟩ ::
  ⟨.type "code", none, .fields #[.str (.ofString "insort_left") 225, .str (.ofString "insort_left") 226, .str (.ofString "/claim/cut.py") 227, .int 31 0, .int 4 0, .int 0 0, .int 1 0, .int 3 0, .ref 42, .bool true, .int 181 0, .ref 43, .none, .ref 44, .ref 45, .ref 46, .int 233 0, .int 31 0, .str (.ofString "/claim/cut.py") 234], #[]⟩ ::
  ⟨.type "function", none, .func ⟨(.ofString "insort_left"), (.ofString "insort_left"), fP (fAt 4), .stmts (fB (fAt 4)), fS (fAt 4), 3, [], .ref 40, .ref 41, .none, .str (.ofString "cpy313.bisect") 194, none, .ref 47, .none, 0⟩, #[]⟩ ::
  ⟨.type "tuple", none, .seq #[.int 0 236, .none] 0, #[]⟩ ::
  ⟨.type "dict", none, .dict [⟨PyData.keyHash P (.ofString "key"), .str (.ofString "key") 237, .none⟩].toArray 1, #[]⟩ ::
  ⟨.type "tuple", none, .seq #[] 0, #[]⟩ ::
  ⟨.none, none, .fields #[], #[]⟩ ::
  ⟨.type "tuple", none, .seq #[.str (.ofString "a") 241, .str (.ofString "x") 242, .str (.ofString "lo") 243, .str (.ofString "hi") 244, .str (.ofString "key") 245, .str (.ofString "mid") 246] 0, #[]⟩ ::
  ⟨.type "tuple", none, .seq #[] 0, #[]⟩ ::
  ⟨.none, none, .func ⟨(.ofString "bisect_left"), (.ofString "bisect_left"), fP (fAt 5), .stmts (fB (fAt 5)), fS (fAt 5), 0, [], .none, .none, .none, .none, none, .none, .none, 0⟩, #[]⟩ ::
  ⟨.type "code", none, .fields #[.str (.ofString "bisect_left") 238, .str (.ofString "bisect_left") 239, .str (.ofString "/claim/cut.py") 240, .int 37 0, .int 4 0, .int 0 0, .int 1 0, .int 3 0, .ref 51, .bool true, .int 181 0, .ref 52, .none, .ref 53, .ref 54, .ref 55, .int 247 0, .int 37 0, .str (.ofString "/claim/cut.py") 248], #[]⟩ ::
  ⟨.type "function", none, .func ⟨(.ofString "bisect_left"), (.ofString "bisect_left"), fP (fAt 5), .stmts (fB (fAt 5)), fS (fAt 5), 3, [], .ref 49, .ref 50, .none, .str (.ofString "cpy313.bisect") 194, none, .ref 56, .none, 0⟩, #[]⟩ ::
  ⟨.type "tuple", none, .seq #[.type "list"] 0, #[]⟩ ::
  ⟨.type "builtin_function_or_method", none, .fields #[.builtin "type.__prepare__", .type "type"], #[]⟩ ::
  ⟨.type "dict", none, .dict [⟨PyData.keyHash P (.ofString "__module__"), .str (.ofString "__module__") 261, .str (.ofString "cpy313.email.header") 250⟩, ⟨PyData.keyHash P (.ofString "__qualname__"), .str (.ofString "__qualname__") 263, .str (.ofString "_Accumulator") 262⟩, ⟨PyData.keyHash P (.ofString "__firstlineno__"), .str (.ofString "__firstlineno__") 265, .int 59 264⟩, ⟨PyData.keyHash P (.ofString "__init__"), .str (.ofString "__init__") 275, .ref 74⟩, ⟨PyData.keyHash P (.ofString "push"), .str (.ofString "push") 284, .ref 81⟩, ⟨PyData.keyHash P (.ofString "pop_from"), .str (.ofString "pop_from") 293, .ref 89⟩, ⟨PyData.keyHash P (.ofString "pop"), .str (.ofString "pop") 301, .ref 97⟩, ⟨PyData.keyHash P (.ofString "__len__"), .str (.ofString "__len__") 308, .ref 104⟩, ⟨PyData.keyHash P (.ofString "__str__"), .str (.ofString "__str__") 315, .ref 111⟩, ⟨PyData.keyHash P (.ofString "reset"), .str (.ofString "reset") 323, .ref 119⟩, ⟨PyData.keyHash P (.ofString "is_onlyws"), .str (.ofString "is_onlyws") 330, .ref 126⟩, ⟨PyData.keyHash P (.ofString "part_count"), .str (.ofString "part_count") 338, .ref 134⟩, ⟨PyData.keyHash P (.ofString "__static_attributes__"), .str (.ofString "__static_attributes__") 340, .ref 135⟩, ⟨PyData.keyHash P (.ofString "__classcell__"), .str (.ofString "__classcell__") 341, .ref 61⟩].toArray 14, #[]⟩ ::
  ⟨.type "cell", none, .cell (some (.ref 137)), #[]⟩ ::
  ⟨.type "tuple", none, .seq #[] 0, #[]⟩ ::
  ⟨.none, none, .fields #[.int 61 0, .int 4 0, .ref 73, .int 65 0, .int 4 0, .ref 80, .int 68 0, .int 4 0, .ref 88, .int 71 0, .int 4 0, .ref 96, .int 76 0, .int 4 0, .ref 103, .int 79 0, .int 4 0, .ref 110, .int 82 0, .int 4 0, .ref 118, .int 85 0, .int 4 0, .ref 125, .int 88 0, .int 4 0, .ref 133], #[]⟩ ::
  ⟨.type "code", none, .fields #[.str (.ofString "_Accumulator") 256, .str (.ofString "_Accumulator") 257, .str (.ofString "/claim/cut.py") 258, .int 59 0, .int 0 0, .int 0 0, .int 0 0, .int 0 0, .ref 62, .bool false, .int 181 0, .ref 63, .none, .none, .none, .none, .int 259 0, .int 59 0, .str (.ofString "/claim/cut.py") 260], #[]⟩ ::
  ⟨.type "frame", none, .plain, #[(some (.ref 64)), (some (.ref 3)), (some (.ref 60)), none, (some (.str (.ofString "cpy313.email.header") 250)), none, (some (.ref 0))]⟩ ::
  ⟨.type "tuple", none, .seq #[.int 0 266] 0, #[]⟩ ::
  ⟨.type "tuple", none, .seq #[.ref 61] 0, #[]⟩ ::
  ⟨.type "tuple", none, .seq #[.str (.ofString "__class__") 270] 0, #[]⟩ ::
  ⟨.none, none, .fields #[], #[]⟩ ::
  ⟨.type "tuple", none, .seq #[.str (.ofString "self") 271, .str (.ofString "initial_size") 272] 0, #[]⟩ ::
  ⟨.type "tuple", none, .seq #[] 0, #[]⟩ ::
  ⟨.none, none, .func ⟨(.ofString "__init__"), (.ofString "_Accumulator.__init__"), fP (mAt 8 0), .stmts (fB (mAt 8 0)), fS (mAt 8 0), 0, [], .none, .none, .none, .none, none, .none, .none, 0⟩, #[]⟩ ::
  ⟨.type "code", none, .fields #[.str (.ofString "__init__") 267, .str (.ofString "_Accumulator.__init__") 268, .str (.ofString "/claim/cut.py") 269, .int 61 0, .int 2 0, .int 0 0, .int 0 0, .int 3 0, .ref 68, .bool true, .int 181 0, .ref 69, .none, .ref 70, .ref 71, .ref 72, .int 273 0, .int 61 0, .str (.ofString "/claim/cut.py") 274], #[]⟩ ::
  ⟨.type "function", none, .func ⟨(.ofString "__init__"), (.ofString "_Accumulator.__init__"), fP (mAt 8 0), .stmts (fB (mAt 8 0)), fS (mAt 8 0), 3, [((.ofString "__class__"), 61)], .ref 66, .none, .none, .str (.ofString "cpy313.email.header") 250, none, .ref 73, .ref 67, 0⟩, #[]⟩ ::
  ⟨.type "tuple", none, .seq #[] 0, #[]⟩ ::
  ⟨.none, none, .fields #[], #[]⟩ ::
  ⟨.type "tuple", none, .seq #[.str (.ofString "self") 279, .str (.ofString "fws") 280, .str (.ofString "string") 281] 0, #[]⟩ ::
  ⟨.type "tuple", none, .seq #[] 0, #[]⟩ ::
  ⟨.none, none, .func ⟨(.ofString "push"), (.ofString "_Accumulator.push"), fP (mAt 8 1), .stmts (fB (mAt 8 1)), fS (mAt 8 1), 0, [], .none, .none, .none, .none, none, .none, .none, 0⟩, #[]⟩ ::
  ⟨.type "code", none, .fields #[.str (.ofString "push") 276, .str (.ofString "_Accumulator.push") 277, .str (.ofString "/claim/cut.py") 278, .int 65 0, .int 3 0, .int 0 0, .int 0 0, .int 3 0, .ref 75, .bool true, .int 181 0, .ref 76, .none, .ref 77, .ref 78, .ref 79, .int 282 0, .int 65 0, .str (.ofString "/claim/cut.py") 283], #[]⟩ ::
  ⟨.type "function", none, .func ⟨(.ofString "push"), (.ofString "_Accumulator.push"), fP (mAt 8 1), .stmts (fB (mAt 8 1)), fS (mAt 8 1), 3, [], .none, .none, .none, .str (.ofString "cpy313.email.header") 250, none, .ref 80, .none, 0⟩, #[]⟩ ::
  ⟨.type "tuple", none, .seq #[.int 0 285] 0, #[]⟩ ::
  ⟨.type "tuple", none, .seq #[] 0, #[]⟩ ::
  ⟨.none, none, .fields #[], #[]⟩ ::
  ⟨.type "tuple", none, .seq #[.str (.ofString "self") 289, .str (.ofString "i") 290] 0, #[]⟩ ::
  ⟨.type "tuple", none, .seq #[] 0, #[]⟩ ::
  ⟨.none, none, .func ⟨(.ofString "pop_from"), (.ofString "_Accumulator.pop_from"), fP (mAt 8 2), .stmts (fB (mAt 8 2)), fS (mAt 8 2), 0, [], .none, .none, .none, .none, none, .none, .none, 0⟩, #[]⟩ ::
  ⟨.type "code", none, .fields #[.str (.ofString "pop_from") 286, .str (.ofString "_Accumulator.pop_from") 287, .str (.ofString "/claim/cut.py") 288, .int 68 0, .int 2 0, .int 0 0, .int 0 0, .int 3 0, .ref 83, .bool true, .int 181 0, .ref 84, .none, .ref 85, .ref 86, .ref 87, .int 291 0, .int 68 0, .str (.ofString "/claim/cut.py") 292], #[]⟩ ::
  ⟨.type "function", none, .func ⟨(.ofString "pop_from"), (.ofString "_Accumulator.pop_from"), fP (mAt 8 2), .stmts (fB (mAt 8 2)), fS (mAt 8 2), 3, [], .ref 82, .none, .none, .str (.ofString "cpy313.email.header") 250, none, .ref 88, .none, 0⟩, #[]⟩ ::
  ⟨.type "tuple", none, .seq #[.ref 61] 0, #[]⟩ ::
  ⟨.type "tuple", none, .seq #[.str (.ofString "__class__") 297] 0, #[]⟩ ::
  ⟨.none, none, .fields #[], #[]⟩ ::
  ⟨.type "tuple", none, .seq #[.str (.ofString "self") 298] 0, #[]⟩ ::
  ⟨.type "tuple", none, .seq #[] 0, #[]⟩ ::
  ⟨.none, none, .func ⟨(.ofString "pop"), (.ofString "_Accumulator.pop"), fP (mAt 8 3), .stmts (fB (mAt 8 3)), fS (mAt 8 3), 0, [], .none, .none, .none, .none, none, .none, .none, 0⟩, #[]⟩ ::
  ⟨.type "code", none, .fields #[.str (.ofString "pop") 294, .str (.ofString "_Accumulator.pop") 295, .str (.ofString "/claim/cut.py") 296, .int 71 0, .int 1 0, .int 0 0, .int 0 0, .int 3 0, .ref 91, .bool true, .int 181 0, .ref 92, .none, .ref 93, .ref 94, .ref 95, .int 299 0, .int 71 0, .str (.ofString "/claim/cut.py") 300], #[]⟩ ::
  ⟨.type "function", none, .func ⟨(.ofString "pop"), (.ofString "_Accumulator.pop"), fP (mAt 8 3), .stmts (fB (mAt 8 3)), fS (mAt 8 3), 3, [((.ofString "__class__"), 61)], .none, .none, .none, .str (.ofString "cpy313.email.header") 250, none, .ref 96, .ref 90, 0⟩, #[]⟩ ::
  ⟨.type "tuple", none, .seq #[] 0, #[]⟩ ::
  ⟨.none, none, .fields #[], #[]⟩ ::
  ⟨.type "tuple", none, .seq #[.str (.ofString "self") 305] 0, #[]⟩ ::
  ⟨.type "tuple", none, .seq #[] 0, #[]⟩ ::
  ⟨.none, none, .func ⟨(.ofString "__len__"), (.ofString "_Accumulator.__len__"), fP (mAt 8 4), .stmts (fB (mAt 8 4)), fS (mAt 8 4), 0, [], .none, .none, .none, .none, none, .none, .none, 0⟩, #[]⟩ ::
  ⟨.type "code", none, .fields #[.str (.ofString "__len__") 302, .str (.ofString "_Accumulator.__len__") 303, .str (.ofString "/claim/cut.py") 304, .int 76 0, .int 1 0, .int 0 0, .int 0 0, .int 3 0, .ref 98, .bool true, .int 181 0, .ref 99, .none, .ref 100, .ref 101, .ref 102, .int 306 0, .int 76 0, .str (.ofString "/claim/cut.py") 307], #[]⟩ ::
  ⟨.type "function", none, .func ⟨(.ofString "__len__"), (.ofString "_Accumulator.__len__"), fP (mAt 8 4), .stmts (fB (mAt 8 4)), fS (mAt 8 4), 3, [], .none, .none, .none, .str (.ofString "cpy313.email.header") 250, none, .ref 103, .none, 0⟩, #[]⟩ ::
  ⟨.type "tuple", none, .seq #[] 0, #[]⟩ ::
  ⟨.none, none, .fields #[], #[]⟩ ::
  ⟨.type "tuple", none, .seq #[.str (.ofString "self") 312] 0, #[]⟩ ::
  ⟨.type "tuple", none, .seq #[] 0, #[]⟩ ::
  ⟨.none, none, .func ⟨(.ofString "__str__"), (.ofString "_Accumulator.__str__"), fP (mAt 8 5), .stmts (fB (mAt 8 5)), fS (mAt 8 5), 0, [], .none, .none, .none, .none, none, .none, .none, 0⟩, #[]⟩ ::
  ⟨.type "code", none, .fields #[.str (.ofString "__str__") 309, .str (.ofString "_Accumulator.__str__") 310, .str (.ofString "/claim/cut.py") 311, .int 79 0, .int 1 0, .int 0 0, .int 0 0, .int 3 0, .ref 105, .bool true, .int 181 0, .ref 106, .none, .ref 107, .ref 108, .ref 109, .int 313 0, .int 79 0, .str (.ofString "/claim/cut.py") 314], #[]⟩ ::
  ⟨.type "function", none, .func ⟨(.ofString "__str__"), (.ofString "_Accumulator.__str__"), fP (mAt 8 5), .stmts (fB (mAt 8 5)), fS (mAt 8 5), 3, [], .none, .none, .none, .str (.ofString "cpy313.email.header") 250, none, .ref 110, .none, 0⟩, #[]⟩ ::
  ⟨.type "tuple", none, .seq #[.none] 0, #[]⟩ ::
  ⟨.type "tuple", none, .seq #[] 0, #[]⟩ ::
  ⟨.none, none, .fields #[], #[]⟩ ::
  ⟨.type "tuple", none, .seq #[.str (.ofString "self") 319, .str (.ofString "startval") 320] 0, #[]⟩ ::
  ⟨.type "tuple", none, .seq #[] 0, #[]⟩ ::
  ⟨.none, none, .func ⟨(.ofString "reset"), (.ofString "_Accumulator.reset"), fP (mAt 8 6), .stmts (fB (mAt 8 6)), fS (mAt 8 6), 0, [], .none, .none, .none, .none, none, .none, .none, 0⟩, #[]⟩ ::
  ⟨.type "code", none, .fields #[.str (.ofString "reset") 316, .str (.ofString "_Accumulator.reset") 317, .str (.ofString "/claim/cut.py") 318, .int 82 0, .int 2 0, .int 0 0, .int 0 0, .int 3 0, .ref 113, .bool true, .int 181 0, .ref 114, .none, .ref 115, .ref 116, .ref 117, .int 321 0, .int 82 0, .str (.ofString "/claim/cut.py") 322], #[]⟩ ::
  ⟨.type "function", none, .func ⟨(.ofString "reset"), (.ofString "_Accumulator.reset"), fP (mAt 8 6), .stmts (fB (mAt 8 6)), fS (mAt 8 6), 3, [], .ref 112, .none, .none, .str (.ofString "cpy313.email.header") 250, none, .ref 118, .none, 0⟩, #[]⟩ ::
  ⟨.type "tuple", none, .seq #[] 0, #[]⟩ ::
  ⟨.none, none, .fields #[], #[]⟩ ::
  ⟨.type "tuple", none, .seq #[.str (.ofString "self") 327] 0, #[]⟩ ::
  ⟨.type "tuple", none, .seq #[] 0, #[]⟩ ::
  ⟨.none, none, .func ⟨(.ofString "is_onlyws"), (.ofString "_Accumulator.is_onlyws"), fP (mAt 8 7), .stmts (fB (mAt 8 7)), fS (mAt 8 7), 0, [], .none, .none, .none, .none, none, .none, .none, 0⟩, #[]⟩ ::
  ⟨.type "code", none, .fields #[.str (.ofString "is_onlyws") 324, .str (.ofString "_Accumulator.is_onlyws") 325, .str (.ofString "/claim/cut.py") 326, .int 85 0, .int 1 0, .int 0 0, .int 0 0, .int 3 0, .ref 120, .bool true, .int 181 0, .ref 121, .none, .ref 122, .ref 123, .ref 124, .int 328 0, .int 85 0, .str (.ofString "/claim/cut.py") 329], #[]⟩ ::
  ⟨.type "function", none, .func ⟨(.ofString "is_onlyws"), (.ofString "_Accumulator.is_onlyws"), fP (mAt 8 7), .stmts (fB (mAt 8 7)), fS (mAt 8 7), 3, [], .none, .none, .none, .str (.ofString "cpy313.email.header") 250, none, .ref 125, .none, 0⟩, #[]⟩ ::
  ⟨.type "tuple", none, .seq #[.ref 61] 0, #[]⟩ ::
  ⟨.type "tuple", none, .seq #[.str (.ofString "__class__") 334] 0, #[]⟩ ::
  ⟨.none, none, .fields #[], #[]⟩ ::
  ⟨.type "tuple", none, .seq #[.str (.ofString "self") 335] 0, #[]⟩ ::
  ⟨.type "tuple", none, .seq #[] 0, #[]⟩ ::
  ⟨.none, none, .func ⟨(.ofString "part_count"), (.ofString "_Accumulator.part_count"), fP (mAt 8 8), .stmts (fB (mAt 8 8)), fS (mAt 8 8), 0, [], .none, .none, .none, .none, none, .none, .none, 0⟩, #[]⟩ ::
  ⟨.type "code", none, .fields #[.str (.ofString "part_count") 331, .str (.ofString "_Accumulator.part_count") 332, .str (.ofString "/claim/cut.py") 333, .int 88 0, .int 1 0, .int 0 0, .int 0 0, .int 3 0, .ref 128, .bool true, .int 181 0, .ref 129, .none, .ref 130, .ref 131, .ref 132, .int 336 0, .int 88 0, .str (.ofString "/claim/cut.py") 337], #[]⟩ ::
  ⟨.type "function", none, .func ⟨(.ofString "part_count"), (.ofString "_Accumulator.part_count"), fP (mAt 8 8), .stmts (fB (mAt 8 8)), fS (mAt 8 8), 3, [((.ofString "__class__"), 61)], .none, .none, .none, .str (.ofString "cpy313.email.header") 250, none, .ref 133, .ref 127, 0⟩, #[]⟩ ::
  ⟨.type "tuple", none, .seq #[.str (.ofString "_initial_size") 339] 0, #[]⟩ ::
  ⟨.type "dict", none, .dict [⟨PyData.keyHash P (.ofString "__module__"), .str (.ofString "__module__") 261, .str (.ofString "cpy313.email.header") 250⟩, ⟨PyData.keyHash P (.ofString "__firstlineno__"), .str (.ofString "__firstlineno__") 265, .int 59 264⟩, ⟨PyData.keyHash P (.ofString "__init__"), .str (.ofString "__init__") 275, .ref 74⟩, ⟨PyData.keyHash P (.ofString "push"), .str (.ofString "push") 284, .ref 81⟩, ⟨PyData.keyHash P (.ofString "pop_from"), .str (.ofString "pop_from") 293, .ref 89⟩, ⟨PyData.keyHash P (.ofString "pop"), .str (.ofString "pop") 301, .ref 97⟩, ⟨PyData.keyHash P (.ofString "__len__"), .str (.ofString "__len__") 308, .ref 104⟩, ⟨PyData.keyHash P (.ofString "__str__"), .str (.ofString "__str__") 315, .ref 111⟩, ⟨PyData.keyHash P (.ofString "reset"), .str (.ofString "reset") 323, .ref 119⟩, ⟨PyData.keyHash P (.ofString "is_onlyws"), .str (.ofString "is_onlyws") 330, .ref 126⟩, ⟨PyData.keyHash P (.ofString "part_count"), .str (.ofString "part_count") 338, .ref 134⟩, ⟨PyData.keyHash P (.ofString "__static_attributes__"), .str (.ofString "__static_attributes__") 340, .ref 135⟩, ⟨PyData.keyHash P (.ofString "__dict__"), .str (.ofString "__dict__") 343, .ref 138⟩, ⟨PyData.keyHash P (.ofString "__weakref__"), .str (.ofString "__weakref__") 345, .ref 139⟩, ⟨PyData.keyHash P (.ofString "__doc__"), .str (.ofString "__doc__") 346, .none⟩].toArray 5, #[]⟩ ::
  ⟨.type "type", none, .cls ⟨(.ofString "_Accumulator"), [.type "list"], [.ref 137, .type "list", .type "object"], 136, (.ofString "_Accumulator"), true, [], [], false, none, false⟩, #[(some (.ref 58)), none, (some (.str (.ofString "_Accumulator") 254)), (some (.str (.ofString "_Accumulator") 262)), (some (.builtin "list.__new__")), (some (.bool true))]⟩ ::
  ⟨.type "getset_descriptor", none, .fields #[.str (.ofString "__dict__") 342, .ref 137, .builtin "function.__dict__", .builtin "function.__dict__#set"], #[]⟩ ::
  ⟨.type "getset_descriptor", none, .fields #[.str (.ofString "__weakref__") 344, .ref 137, .builtin "ExceptionGroup.__weakref__", .none], #[]⟩ ::
  ⟨.type "super", none, .fields #[.ref 137, .ref 137, .ref 137], #[]⟩ ::
  ⟨.type "builtin_function_or_method", none, .fields #[.builtin "object.__init_subclass__", .ref 137], #[]⟩ ::
  ⟨.type "tuple", none, .seq #[] 0, #[]⟩ ::
  ⟨.type "builtin_function_or_method", none, .fields #[.builtin "type.__prepare__", .type "type"], #[]⟩ ::
  ⟨.type "dict", none, .dict [⟨PyData.keyHash P (.ofString "__module__"), .str (.ofString "__module__") 358, .str (.ofString "cpy313.netrc") 349⟩, ⟨PyData.keyHash P (.ofString "__qualname__"), .str (.ofString "__qualname__") 360, .str (.ofString "_netrclex") 359⟩, ⟨PyData.keyHash P (.ofString "__firstlineno__"), .str (.ofString "__firstlineno__") 362, .int 91 361⟩, ⟨PyData.keyHash P (.ofString "__init__"), .str (.ofString "__init__") 370, .ref 155⟩, ⟨PyData.keyHash P (.ofString "_read_char"), .str (.ofString "_read_char") 378, .ref 162⟩, ⟨PyData.keyHash P (.ofString "get_token"), .str (.ofString "get_token") 388, .ref 169⟩, ⟨PyData.keyHash P (.ofString "push_token"), .str (.ofString "push_token") 396, .ref 176⟩, ⟨PyData.keyHash P (.ofString "__static_attributes__"), .str (.ofString "__static_attributes__") 401, .ref 177⟩].toArray 8, #[]⟩ ::
  ⟨.type "tuple", none, .seq #[] 0, #[]⟩ ::
  ⟨.none, none, .fields #[.int 93 0, .int 4 0, .ref 154, .int 99 0, .int 4 0, .ref 161, .int 105 0, .int 4 0, .ref 168, .int 132 0, .int 4 0, .ref 175], #[]⟩ ::
  ⟨.type "code", none, .fields #[.str (.ofString "_netrclex") 353, .str (.ofString "_netrclex") 354, .str (.ofString "/claim/cut.py") 355, .int 91 0, .int 0 0, .int 0 0, .int 0 0, .int 0 0, .ref 145, .bool false, .int 181 0, .ref 146, .none, .none, .none, .none, .int 356 0, .int 91 0, .str (.ofString "/claim/cut.py") 357], #[]⟩ ::
  ⟨.type "frame", none, .plain, #[(some (.ref 147)), (some (.ref 3)), (some (.ref 144)), none, (some (.str (.ofString "cpy313.netrc") 349)), none, (some (.ref 0))]⟩ ::
  ⟨.type "tuple", none, .seq #[] 0, #[]⟩ ::
  ⟨.none, none, .fields #[], #[]⟩ ::
  ⟨.type "tuple", none, .seq #[.str (.ofString "self") 366, .str (.ofString "fp") 367] 0, #[]⟩ ::
  ⟨.type "tuple", none, .seq #[] 0, #[]⟩ ::
  ⟨.none, none, .func ⟨(.ofString "__init__"), (.ofString "_netrclex.__init__"), fP (mAt 10 0), .stmts (fB (mAt 10 0)), fS (mAt 10 0), 0, [], .none, .none, .none, .none, none, .none, .none, 0⟩, #[]⟩ ::
  ⟨.type "code", none, .fields #[.str (.ofString "__init__") 363, .str (.ofString "_netrclex.__init__") 364, .str (.ofString "/claim/cut.py") 365, .int 93 0, .int 2 0, .int 0 0, .int 0 0, .int 3 0, .ref 149, .bool true, .int 181 0, .ref 150, .none, .ref 151, .ref 152, .ref 153, .int 368 0, .int 93 0, .str (.ofString "/claim/cut.py") 369], #[]⟩ ::
  ⟨.type "function", none, .func ⟨(.ofString "__init__"), (.ofString "_netrclex.__init__"), fP (mAt 10 0), .stmts (fB (mAt 10 0)), fS (mAt 10 0), 3, [], .none, .none, .none, .str (.ofString "cpy313.netrc") 349, none, .ref 154, .none, 0⟩, #[]⟩ ::
  ⟨.type "tuple", none, .seq #[] 0, #[]⟩ ::
  ⟨.none, none, .fields #[], #[]⟩ ::
  ⟨.type "tuple", none, .seq #[.str (.ofString "self") 374, .str (.ofString "ch") 375] 0, #[]⟩ ::
  ⟨.type "tuple", none, .seq #[] 0, #[]⟩ ::
  ⟨.none, none, .func ⟨(.ofString "_read_char"), (.ofString "_netrclex._read_char"), fP (mAt 10 1), .stmts (fB (mAt 10 1)), fS (mAt 10 1), 0, [], .none, .none, .none, .none, none, .none, .none, 0⟩, #[]⟩ ::
  ⟨.type "code", none, .fields #[.str (.ofString "_read_char") 371, .str (.ofString "_netrclex._read_char") 372, .str (.ofString "/claim/cut.py") 373, .int 99 0, .int 1 0, .int 0 0, .int 0 0, .int 3 0, .ref 156, .bool true, .int 181 0, .ref 157, .none, .ref 158, .ref 159, .ref 160, .int 376 0, .int 99 0, .str (.ofString "/claim/cut.py") 377], #[]⟩ ::
  ⟨.type "function", none, .func ⟨(.ofString "_read_char"), (.ofString "_netrclex._read_char"), fP (mAt 10 1), .stmts (fB (mAt 10 1)), fS (mAt 10 1), 3, [], .none, .none, .none, .str (.ofString "cpy313.netrc") 349, none, .ref 161, .none, 0⟩, #[]⟩ ::
  ⟨.type "tuple", none, .seq #[] 0, #[]⟩ ::
  ⟨.none, none, .fields #[], #[]⟩ ::
  ⟨.type "tuple", none, .seq #[.str (.ofString "self") 382, .str (.ofString "token") 383, .str (.ofString "fiter") 384, .str (.ofString "ch") 385] 0, #[]⟩ ::
  ⟨.type "tuple", none, .seq #[] 0, #[]⟩ ::
  ⟨.none, none, .func ⟨(.ofString "get_token"), (.ofString "_netrclex.get_token"), fP (mAt 10 2), .stmts (fB (mAt 10 2)), fS (mAt 10 2), 0, [], .none, .none, .none, .none, none, .none, .none, 0⟩, #[]⟩ ::
  ⟨.type "code", none, .fields #[.str (.ofString "get_token") 379, .str (.ofString "_netrclex.get_token") 380, .str (.ofString "/claim/cut.py") 381, .int 105 0, .int 1 0, .int 0 0, .int 0 0, .int 3 0, .ref 163, .bool true, .int 181 0, .ref 164, .none, .ref 165, .ref 166, .ref 167, .int 386 0, .int 105 0, .str (.ofString "/claim/cut.py") 387], #[]⟩ ::
  ⟨.type "function", none, .func ⟨(.ofString "get_token"), (.ofString "_netrclex.get_token"), fP (mAt 10 2), .stmts (fB (mAt 10 2)), fS (mAt 10 2), 3, [], .none, .none, .none, .str (.ofString "cpy313.netrc") 349, none, .ref 168, .none, 0⟩, #[]⟩ ::
  ⟨.type "tuple", none, .seq #[] 0, #[]⟩ ::
  ⟨.none, none, .fields #[], #[]⟩ ::
  ⟨.type "tuple", none, .seq #[.str (.ofString "self") 392, .str (.ofString "token") 393] 0, #[]⟩ ::
  ⟨.type "tuple", none, .seq #[] 0, #[]⟩ ::
  ⟨.none, none, .func ⟨(.ofString "push_token"), (.ofString "_netrclex.push_token"), fP (mAt 10 3), .stmts (fB (mAt 10 3)), fS (mAt 10 3), 0, [], .none, .none, .none, .none, none, .none, .none, 0⟩, #[]⟩ ::
  ⟨.type "code", none, .fields #[.str (.ofString "push_token") 389, .str (.ofString "_netrclex.push_token") 390, .str (.ofString "/claim/cut.py") 391, .int 132 0, .int 2 0, .int 0 0, .int 0 0, .int 3 0, .ref 170, .bool true, .int 181 0, .ref 171, .none, .ref 172, .ref 173, .ref 174, .int 394 0, .int 132 0, .str (.ofString "/claim/cut.py") 395], #[]⟩ ::
  ⟨.type "function", none, .func ⟨(.ofString "push_token"), (.ofString "_netrclex.push_token"), fP (mAt 10 3), .stmts (fB (mAt 10 3)), fS (mAt 10 3), 3, [], .none, .none, .none, .str (.ofString "cpy313.netrc") 349, none, .ref 175, .none, 0⟩, #[]⟩ ::
  ⟨.type "tuple", none, .seq #[.str (.ofString "instream") 397, .str (.ofString "lineno") 398, .str (.ofString "pushback") 399, .str (.ofString "whitespace") 400] 0, #[]⟩ ::
  ⟨.type "dict", none, .dict [⟨PyData.keyHash P (.ofString "__module__"), .str (.ofString "__module__") 358, .str (.ofString "cpy313.netrc") 349⟩, ⟨PyData.keyHash P (.ofString "__firstlineno__"), .str (.ofString "__firstlineno__") 362, .int 91 361⟩, ⟨PyData.keyHash P (.ofString "__init__"), .str (.ofString "__init__") 370, .ref 155⟩, ⟨PyData.keyHash P (.ofString "_read_char"), .str (.ofString "_read_char") 378, .ref 162⟩, ⟨PyData.keyHash P (.ofString "get_token"), .str (.ofString "get_token") 388, .ref 169⟩, ⟨PyData.keyHash P (.ofString "push_token"), .str (.ofString "push_token") 396, .ref 176⟩, ⟨PyData.keyHash P (.ofString "__static_attributes__"), .str (.ofString "__static_attributes__") 401, .ref 177⟩, ⟨PyData.keyHash P (.ofString "__dict__"), .str (.ofString "__dict__") 403, .ref 180⟩, ⟨PyData.keyHash P (.ofString "__weakref__"), .str (.ofString "__weakref__") 405, .ref 181⟩, ⟨PyData.keyHash P (.ofString "__doc__"), .str (.ofString "__doc__") 406, .none⟩].toArray 4, #[]⟩ ::
  ⟨.type "type", none, .cls ⟨(.ofString "_netrclex"), [.type "object"], [.ref 179, .type "object"], 178, (.ofString "_netrclex"), true, [], [], false, none, false⟩, #[none, none, (some (.str (.ofString "_netrclex") 351)), (some (.str (.ofString "_netrclex") 359)), (some (.builtin "object.__new__")), (some (.bool true))]⟩ ::
  ⟨.type "getset_descriptor", none, .fields #[.str (.ofString "__dict__") 402, .ref 179, .builtin "function.__dict__", .builtin "function.__dict__#set"], #[]⟩ ::
  ⟨.type "getset_descriptor", none, .fields #[.str (.ofString "__weakref__") 404, .ref 179, .builtin "ExceptionGroup.__weakref__", .none], #[]⟩ ::
  ⟨.type "super", none, .fields #[.ref 179, .ref 179, .ref 179], #[]⟩ ::
  ⟨.type "builtin_function_or_method", none, .fields #[.builtin "object.__init_subclass__", .ref 179], #[]⟩ ::
  ⟨.type "tuple", none, .seq #[] 0, #[]⟩ ::
  ⟨.none, none, .fields #[], #[]⟩ ::
  ⟨.type "tuple", none, .seq #[.str (.ofString "text") 414, .str (.ofString "read") 415, .str (.ofString "stream") 416] 0, #[]⟩ ::
  ⟨.type "tuple", none, .seq #[.str (.ofString "text") 417, .str (.ofString "at") 418] 0, #[]⟩ ::
  ⟨.none, none, .func ⟨(.ofString "_law_lexer"), (.ofString "_law_lexer"), fP (fAt 12), .stmts (fB (fAt 12)), fS (fAt 12), 0, [], .none, .none, .none, .none, none, .none, .none, 0⟩, #[]⟩ ::
  ⟨.type "code", none, .fields #[.str (.ofString "_law_lexer") 411, .str (.ofString "_law_lexer") 412, .str (.ofString "/claim/cut.py") 413, .int 135 0, .int 1 0, .int 0 0, .int 0 0, .int 3 0, .ref 184, .bool true, .int 181 0, .ref 185, .none, .ref 186, .ref 187, .ref 188, .int 419 0, .int 135 0, .str (.ofString "/claim/cut.py") 420], #[]⟩ ::
  ⟨.type "function", none, .func ⟨(.ofString "_law_lexer"), (.ofString "_law_lexer"), fP (fAt 12), .stmts (fB (fAt 12)), fS (fAt 12), 3, [], .none, .none, .none, .str (.ofString "law_tl0016_01") 409, none, .ref 189, .none, 0⟩, #[]⟩ ::
  ⟨.type "tuple", none, .seq #[] 0, #[]⟩ ::
  ⟨.none, none, .fields #[], #[]⟩ ::
  ⟨.none, none, .func ⟨(.ofString "_law_text"), (.ofString "_law_text"), fP (fAt 13), .stmts (fB (fAt 13)), fS (fAt 13), 0, [], .none, .none, .none, .none, none, .none, .none, 0⟩, #[]⟩ ::
  ⟨.type "code", none, .fields #[.str (.ofString "_law_text") 422, .str (.ofString "_law_text") 423, .str (.ofString "/claim/cut.py") 424, .int 145 0, .int 2 0, .int 0 0, .int 0 0, .int 3 0, .ref 191, .bool true, .int 181 0, .ref 192, .none, .none, .none, .ref 193, .int 425 0, .int 145 0, .str (.ofString "/claim/cut.py") 426], #[]⟩ ::
  ⟨.type "function", none, .func ⟨(.ofString "_law_text"), (.ofString "_law_text"), fP (fAt 13), .stmts (fB (fAt 13)), fS (fAt 13), 3, [], .none, .none, .none, .str (.ofString "law_tl0016_01") 409, none, .ref 194, .none, 0⟩, #[]⟩ ::
  ⟨.type "tuple", none, .seq #[] 0, #[]⟩ ::
  ⟨.none, none, .fields #[], #[]⟩ ::
  ⟨.type "tuple", none, .seq #[.str (.ofString "word") 431] 0, #[]⟩ ::
  ⟨.type "tuple", none, .seq #[] 0, #[]⟩ ::
  ⟨.none, none, .func ⟨(.ofString "_law_size"), (.ofString "_law_size"), fP (fAt 14), .stmts (fB (fAt 14)), fS (fAt 14), 0, [], .none, .none, .none, .none, none, .none, .none, 0⟩, #[]⟩ ::
  ⟨.type "code", none, .fields #[.str (.ofString "_law_size") 428, .str (.ofString "_law_size") 429, .str (.ofString "/claim/cut.py") 430, .int 153 0, .int 1 0, .int 0 0, .int 0 0, .int 3 0, .ref 196, .bool true, .int 181 0, .ref 197, .none, .ref 198, .ref 199, .ref 200, .int 432 0, .int 153 0, .str (.ofString "/claim/cut.py") 433], #[]⟩ ::
  ⟨.type "function", none, .func ⟨(.ofString "_law_size"), (.ofString "_law_size"), fP (fAt 14), .stmts (fB (fAt 14)), fS (fAt 14), 3, [], .none, .none, .none, .str (.ofString "law_tl0016_01") 409, none, .ref 201, .none, 0⟩, #[]⟩ ::
  ⟨.type "tuple", none, .seq #[] 0, #[]⟩ ::
  ⟨.none, none, .fields #[], #[]⟩ ::
  ⟨.none, none, .func ⟨(.ofString "_law_walk_with_a_row"), (.ofString "_law_walk_with_a_row"), fP (fAt 15), .stmts (fB (fAt 15)), fS (fAt 15), 0, [], .none, .none, .none, .none, none, .none, .none, 0⟩, #[]⟩ ::
  ⟨.type "code", none, .fields #[.str (.ofString "_law_walk_with_a_row") 435, .str (.ofString "_law_walk_with_a_row") 436, .str (.ofString "/claim/cut.py") 437, .int 155 0, .int 2 0, .int 0 0, .int 0 0, .int 3 0, .ref 203, .bool true, .int 181 0, .ref 204, .none, .none, .none, .ref 205, .int 438 0, .int 155 0, .str (.ofString "/claim/cut.py") 439], #[]⟩ ::
  ⟨.type "function", none, .func ⟨(.ofString "_law_walk_with_a_row"), (.ofString "_law_walk_with_a_row"), fP (fAt 15), .stmts (fB (fAt 15)), fS (fAt 15), 3, [], .none, .none, .none, .str (.ofString "law_tl0016_01") 409, none, .ref 206, .none, 0⟩, #[]⟩ ::
  ⟨.type "tuple", none, .seq #[] 0, #[]⟩ ::
  ⟨.none, none, .fields #[], #[]⟩ ::
  ⟨.type "tuple", none, .seq #[.str (.ofString "boxes") 444, .str (.ofString "sizes") 445, .str (.ofString "lay") 446, .str (.ofString "take") 447, .str (.ofString "size") 448, .str (.ofString "told") 449, .str (.ofString "word") 450] 0, #[]⟩ ::
  ⟨.type "tuple", none, .seq #[] 0, #[]⟩ ::
  ⟨.none, none, .func ⟨(.ofString "_law_walks"), (.ofString "_law_walks"), fP (fAt 16), .stmts (fB (fAt 16)), fS (fAt 16), 0, [], .none, .none, .none, .none, none, .none, .none, 0⟩, #[]⟩ ::
  ⟨.type "code", none, .fields #[.str (.ofString "_law_walks") 441, .str (.ofString "_law_walks") 442, .str (.ofString "/claim/cut.py") 443, .int 174 0, .int 4 0, .int 0 0, .int 0 0, .int 3 0, .ref 208, .bool true, .int 181 0, .ref 209, .none, .ref 210, .ref 211, .ref 212, .int 451 0, .int 174 0, .str (.ofString "/claim/cut.py") 452], #[]⟩ ::
  ⟨.type "function", none, .func ⟨(.ofString "_law_walks"), (.ofString "_law_walks"), fP (fAt 16), .stmts (fB (fAt 16)), fS (fAt 16), 3, [], .none, .none, .none, .str (.ofString "law_tl0016_01") 409, none, .ref 213, .none, 0⟩, #[]⟩ ::
  ⟨.type "tuple", none, .seq #[] 0, #[]⟩ ::
  ⟨.none, none, .fields #[], #[]⟩ ::
  ⟨.none, none, .func ⟨(.ofString "_law_turned"), (.ofString "_law_turned"), fP (fAt 17), .stmts (fB (fAt 17)), fS (fAt 17), 0, [], .none, .none, .none, .none, none, .none, .none, 0⟩, #[]⟩ ::
  ⟨.type "code", none, .fields #[.str (.ofString "_law_turned") 454, .str (.ofString "_law_turned") 455, .str (.ofString "/claim/cut.py") 456, .int 187 0, .int 1 0, .int 0 0, .int 0 0, .int 3 0, .ref 215, .bool true, .int 181 0, .ref 216, .none, .none, .none, .ref 217, .int 457 0, .int 187 0, .str (.ofString "/claim/cut.py") 458], #[]⟩ ::
  ⟨.type "function", none, .func ⟨(.ofString "_law_turned"), (.ofString "_law_turned"), fP (fAt 17), .stmts (fB (fAt 17)), fS (fAt 17), 3, [], .none, .none, .none, .str (.ofString "law_tl0016_01") 409, none, .ref 218, .none, 0⟩, #[]⟩ ::
  ⟨.type "tuple", none, .seq #[] 0, #[]⟩ ::
  ⟨.none, none, .fields #[], #[]⟩ ::
  ⟨.none, none, .func ⟨(.ofString "law"), (.ofString "law"), fP (fAt 18), .stmts (fB (fAt 18)), fS (fAt 18), 0, [], .none, .none, .none, .none, none, .none, .none, 0⟩, #[]⟩ ::
  ⟨.type "code", none, .fields #[.str (.ofString "law") 460, .str (.ofString "law") 461, .str (.ofString "/claim/cut.py") 462, .int 189 0, .int 1 0, .int 0 0, .int 0 0, .int 3 0, .ref 220, .bool true, .int 181 0, .ref 221, .none, .none, .none, .ref 222, .int 463 0, .int 189 0, .str (.ofString "/claim/cut.py") 464], #[]⟩ ::
  ⟨.type "function", none, .func ⟨(.ofString "law"), (.ofString "law"), fP (fAt 18), .stmts (fB (fAt 18)), fS (fAt 18), 3, [], .none, .none, .none, .str (.ofString "law_tl0016_01") 409, none, .ref 223, .none, 0⟩, #[]⟩ :: []), {}⟩
end
theorem p_pre : ∀ w : World, (fun os => topGo treeTable Pw w 11 annT 12 (⟨boot_heap w.params, Array.mk [], boot_drawn, boot_toks, os⟩ : Shared) (topStub Pw)) = fun os => some ((⟨hpa w.params, Array.mk [], boot_drawn, nat_lit 187, os⟩ : Shared), ⟨denote treeTable cT, cT, ⟨0, 0, 0, 0⟩, [topFrame qT]⟩) := fun w => by kernel_rfl
theorem p_blk : ∀ w : World, (fun os => segRun treeTable Pw w 11 annT 1 1 (⟨hpa w.params, Array.mk [], boot_drawn, nat_lit 187, os⟩ : Shared) (blockOf bT envT cT ⟨0, 0, 0, 0⟩ [topFrame qT])) = fun os => some (.next, (⟨hpa w.params, Array.mk [], boot_drawn, nat_lit 187, os⟩ : Shared), cT, ⟨0, 0, 0, 0⟩) := fun w => by kernel_rfl
theorem p_0 : ∀ w : World, (fun os => segRun treeTable Pw w 11 annT 1 219 (⟨hpa w.params, Array.mk [], boot_drawn, nat_lit 187, os⟩ : Shared) (piecesOf lT0 envT cT ⟨0, 0, 0, 0⟩ [topFrame qT])) = fun os => some (.next, (⟨hp8 w.params, Array.mk [], boot_drawn, nat_lit 254, os⟩ : Shared), cT, ⟨58, 0, 58, 11⟩) := fun w => by kernel_rfl
theorem p_1 : ∀ w : World, (fun os => segRun treeTable Pw w 11 annT 1 504 (⟨hp8 w.params, Array.mk [], boot_drawn, nat_lit 254, os⟩ : Shared) (piecesOf lT1 envT cT ⟨58, 0, 58, 11⟩ [topFrame qT])) = fun os => some (.next, (⟨hp9 w.params, Array.mk [], boot_drawn, nat_lit 349, os⟩ : Shared), cT, ⟨59, 0, 89, 32⟩) := fun w => by kernel_rfl
theorem p_2 : ∀ w : World, (fun os => segRun treeTable Pw w 11 annT 1 333 (⟨hp9 w.params, Array.mk [], boot_drawn, nat_lit 349, os⟩ : Shared) (piecesOf lT2 envT cT ⟨59, 0, 89, 32⟩ [topFrame qT])) = fun os => some (.next, (⟨hp11 w.params, Array.mk [], boot_drawn, nat_lit 409, os⟩ : Shared), cT, ⟨91, 0, 133, 35⟩) := fun w => by kernel_rfl
theorem p_3 : ∀ w : World, (fun os => segRun treeTable Pw w 11 annT 1 211 (⟨hp11 w.params, Array.mk [], boot_drawn, nat_lit 409, os⟩ : Shared) (piecesOf lT3 envT cT ⟨91, 0, 133, 35⟩ [topFrame qT])) = fun os => some (.next, (⟨hp19 w.params, Array.mk [], boot_drawn, nat_lit 466, os⟩ : Shared), cT, ⟨189, 0, 216, 37⟩) := fun w => by kernel_rfl
theorem p_fin : ∀ w : World, (fun os => topRun treeTable Pw w 11 annT 2 (⟨hp19 w.params, Array.mk [], boot_drawn, nat_lit 466, os⟩ : Shared) ⟨doneF .next, cT, ⟨189, 0, 216, 37⟩, [topFrame qT]⟩) = fun os => some (⟨hp19 w.params, Array.mk [], boot_drawn, nat_lit 466, os⟩ : Shared) := fun w => by kernel_rfl
theorem p_app : bT = lT0 ++ (lT1 ++ (lT2 ++ (lT3 ++ []))) := by kernel_rfl
theorem p_run (w : World) (os : OsState) : topRun treeTable Pw w 11 annT (12 + (1 + (219 + (504 + (333 + (211 + (2))))))) (⟨boot_heap w.params, Array.mk [], boot_drawn, boot_toks, os⟩ : Shared) (topStub Pw) = some (⟨hp19 w.params, Array.mk [], boot_drawn, nat_lit 466, os⟩ : Shared) := by
  refine go_top (congrFun (p_pre w) os) (piece_block (congrFun (p_blk w) os) ?_)
  rw [p_app]
  exact piece_app (congrFun (p_0 w) os) (piece_app (congrFun (p_1 w) os) (piece_app (congrFun (p_2 w) os) (piece_app (congrFun (p_3 w) os) (piece_nil (congrFun (p_fin w) os)))))
theorem p_open : ∀ w : World, (fencedOpening treeTable Pw w 2652).map (fun s => (s.heap, s.gens, s.drawn, s.toks)) = some (boot_heap w.params, Array.mk [], boot_drawn, boot_toks) := boot_open (by kernel_rfl) (by rfl) (fun s => by kernel_rfl)
theorem left : LeftO Pw qv loosev (fun s => xlAt qv [] s && recOk (RowW.records PySem.Challenge.rw_tl0016_01.row.toRowW) s) Hk.obs Hk.val 2652 :=
  LeftO.of_pieces (H₀ := boot_heap) (H₁ := hp19) (gs₀ := Array.mk []) (gs₁ := Array.mk []) (d₀ := boot_drawn) (d₁ := boot_drawn) (k₀ := boot_toks) (k₁ := nat_lit 466) (m₀ := 11) (ann := annT)
    p_open (fun w => by kernel_rfl) p_run (by rfl) (fun w => by kernel_rfl)
end Mine
end

noncomputable section
open PySem PySem.W PyProof.Rows
set_option Elab.async false
namespace Mine
open PySem PySem.W PyProof.Rows PySem.Calls PySem.Spec

abbrev Led := List (Addr × Obj)
def adr (tl : Led) : List Addr := tl.map (·.1)
def Kept (tl : Led) (h h' : Heap) : Prop := ∀ b o, b ∉ tl.map (·.1) → h.get? b = some o → h'.get? b = some o

abbrev AR (dp un : Nat) (gd : Option (List Code)) (fr : List Env) : Around := { handled := none, depth := dp, frames := some fr, guards := gd, units := un }

structure Amb (b₀ : Heap) (tl : Led) (fr : List Env) (s : Shared) : Prop where
  frames : s.heap.FunFrames b₀ fr
  off : ∀ env ∈ fr, ∀ p ∈ tl, env.frame ≠ some p.1
  stays : b₀.StaysIn s.heap
  cells : ∀ p ∈ tl, s.heap.get? p.1 = some p.2 ∧ b₀.get? p.1 = none

/-- the new cells stand at old places or at fresh ones -/
def Fresh (b₀ : Heap) (tl tl' : Led) (h h' : Heap) : Prop :=
  ∀ p ∈ tl', h'.get? p.1 = some p.2 ∧ b₀.get? p.1 = none ∧ (p.1 ∈ tl.map (·.1) ∨ h.get? p.1 = none)

def FS (P : Program) (w : World) (b₀ : Heap) (D U : Nat) (f : Value) (args : Args) (tl : Led) (Ret : Value → Led → Prop) : Prop :=
  ∀ (dp un : Nat) (gd : Option (List Code)) (fr : List Env) (s : Shared) (R : Result → Shared → Prop), Amb b₀ tl fr s →
    dp + D < recursionLimit → un + U < cLine →
    (∀ v tl' h' tk, Ret v tl' → Kept tl s.heap h' → Fresh b₀ tl tl' s.heap h' → R (.ok (.ret v)) { s with heap := h', toks := tk }) →
    codeAny (model P w) (AR dp un gd fr) (.call f args) R s

def Done (g : Heap) (Ret : Value → Led → Prop) (s : Shared) (v : Value) (s' : Shared) : Prop :=
  ∃ L m tl' h' tk, s' = { s with heap := h', toks := tk } ∧ Fr g L h' m ∧ News g L h' tl' ∧ Ret v tl'

section
variable {P : Program} {w : World} {b₀ : Heap} {D U : Nat} {tl : Led} {Ret : Value → Led → Prop} {K : Frag} {p : Program} {loose : List Str} {mean : ExcName → Option Value} {mg mb : Str → Option Value}
  {name qual : Str} {params : Arguments} {body : List Stmt} {scope : Scope} {cl : List (Str × Addr)} {dV kV doc pm cdv ct oc : Value} {an od : Option Addr} {osl : Array (Option Value)} {f : Addr} {args : Args} {binds : List (Str × Value)}

theorem hidden_none {l : List Addr} {h : Heap} {b : Addr} (e : (hideAll h l).get? b = none) : b ∈ l ∨ h.get? b = none := by
  by_cases hb : b ∈ l
  · exact .inl hb
  · cases q : h.get? b with
    | none => exact .inr rfl
    | some o => rw [hideAll_get l q hb] at e; cases e

theorem enter (X : K.In b₀) (T : Top p loose mean mg mb b₀)
    (ho : K.lookup f = some ⟨oc, od, .func (fnX name qual params body scope cl dV kV doc pm an cdv ct), osl⟩) (hcd : codeIn K cdv qual = true)
    (hbind : ∀ s : Shared, K.In s.heap → BindsTo s (fnX name qual params body scope cl dV kV doc pm an cdv ct) args binds) (hloc : ∀ y ∈ binds, scope.names.lookup y.1 = some .local)
    (h : ∀ dp un gd fr s g L' h₁, dp + D < recursionLimit → un + U < cLine → Fr g L' h₁ (fun y => binds.reverse.lookup y) → News g L' h₁ tl → Below (AR dp un gd fr) b₀ fr g → b₀.StaysIn g → K.In g → Top p loose mean mg mb g →
      wpAny (model P w) ((AR dp un gd fr).deeper (envX qual scope L' f cdv cl)) (execs body (envX qual scope L' f cdv cl))
        (fun fl s' => Done g Ret s (match fl with | .ret v => v | _ => .none) s') (fun _ _ => False) { s with heap := h₁, toks := s.toks + binds.length })
    (hD : 0 < D) (hcell : ∀ x ∈ scope.names, x.2 ≠ .cell) (hco : scope.isCoroutine = false) (hgen : scope.isGenerator = false) (hk : scope.kind = .function) :
    FS P w b₀ D U (.ref f) args tl Ret := by
  intro dp un gd fr s R M hd hu hR
  have st : b₀.StaysIn (hideAll s.heap (tl.map (·.1))) := fun b o e => hideAll_get _ (M.stays b o e) fun q => by
    obtain ⟨x, hx, rfl⟩ := List.mem_map.mp q
    rw [(M.cells x hx).2] at e; cases e
  have B : Below (AR dp un gd fr) b₀ fr (hideAll s.heap (tl.map (·.1))) := ⟨rfl, st, funFrames_hideAll M.frames fun env he a ha => by
    obtain ⟨x, hx, rfl⟩ := List.mem_map.mp ha
    exact M.off env he x hx⟩
  have XS : K.In s.heap := X.keeps M.stays
  refine codeAny_call_def (fd := fnX name qual params body scope cl dV kV doc pm an cdv ct) (body := body) (binds := binds) (show dp < recursionLimit by omega) (XS _ _ ho) rfl (T.nolimit.keeps M.stays) (codeRec_of XS hcd) rfl (hbind s XS) hcell hloc (fun h₁ hns hk₁ => ?_) hco hgen hk
  refine wpAny_mono (h dp un gd fr s (hideAll s.heap (tl.map (·.1))) s.heap.objs.size h₁ hd hu ⟨hns, fun b o e => hk₁ b o (of_hideAll _ e), Nat.le_of_eq (hideAll_size _ _)⟩
    (fun q hq => ⟨hk₁ _ _ (M.cells q hq).1, Nat.ne_of_lt (Heap.lt_size (M.cells q hq).1), hideAll_none _ (List.mem_map_of_mem hq)⟩) B st (X.keeps fun b o e => st b o e) (T.keeps fun b o e => st b o e)) (fun fl s' hl => ?_) fun _ _ y => y.elim
  obtain ⟨L, m, tl', h', tk, rfl, F', N', r⟩ := hl
  refine hR _ tl' h' tk r (fun b o hb e => F'.keep b o (hideAll_get _ e hb)) fun q hq => ⟨(N' q hq).1, ?_, hidden_none (N' q hq).2.2⟩
  cases z : b₀.get? q.1 with
  | none => rfl
  | some o => have := (N' q hq).2.2; rw [st _ _ z] at this; cases this

theorem enterL (X : K.In b₀) (T : Top p loose mean mg mb b₀)
    (ho : K.lookup f = some ⟨oc, od, .func (fnX name qual params body scope cl dV kV doc pm an cdv ct), osl⟩) (hcd : codeIn K cdv qual = true)
    (hbind : ∀ s : Shared, K.In s.heap → BindsTo s (fnX name qual params body scope cl dV kV doc pm an cdv ct) args binds) (hloc : ∀ y ∈ binds, scope.names.lookup y.1 = some .local)
    (h : ∀ dp un gd fr s g L' h₁, dp + D < recursionLimit → un + U < cLine → Fr g L' h₁ (fun y => binds.reverse.lookup y) → News g L' h₁ tl → Below (AR dp un gd fr) b₀ fr g → b₀.StaysIn g → K.In g → Top p loose mean mg mb g → (∀ q ∈ tl, q.1 < L') →
      wpAny (model P w) ((AR dp un gd fr).deeper (envX qual scope L' f cdv cl)) (execs body (envX qual scope L' f cdv cl))
        (fun fl s' => Done g Ret s (match fl with | .ret v => v | _ => .none) s') (fun _ _ => False) { s with heap := h₁, toks := s.toks + binds.length })
    (hD : 0 < D) (hcell : ∀ x ∈ scope.names, x.2 ≠ .cell) (hco : scope.isCoroutine = false) (hgen : scope.isGenerator = false) (hk : scope.kind = .function) :
    FS P w b₀ D U (.ref f) args tl Ret := by
  intro dp un gd fr s R M hd hu hR
  have st : b₀.StaysIn (hideAll s.heap (tl.map (·.1))) := fun b o e => hideAll_get _ (M.stays b o e) fun q => by
    obtain ⟨x, hx, rfl⟩ := List.mem_map.mp q
    rw [(M.cells x hx).2] at e; cases e
  have B : Below (AR dp un gd fr) b₀ fr (hideAll s.heap (tl.map (·.1))) := ⟨rfl, st, funFrames_hideAll M.frames fun env he a ha => by
    obtain ⟨x, hx, rfl⟩ := List.mem_map.mp ha
    exact M.off env he x hx⟩
  have XS : K.In s.heap := X.keeps M.stays
  refine codeAny_call_def (fd := fnX name qual params body scope cl dV kV doc pm an cdv ct) (body := body) (binds := binds) (show dp < recursionLimit by omega) (XS _ _ ho) rfl (T.nolimit.keeps M.stays) (codeRec_of XS hcd) rfl (hbind s XS) hcell hloc (fun h₁ hns hk₁ => ?_) hco hgen hk
  refine wpAny_mono (h dp un gd fr s (hideAll s.heap (tl.map (·.1))) s.heap.objs.size h₁ hd hu ⟨hns, fun b o e => hk₁ b o (of_hideAll _ e), Nat.le_of_eq (hideAll_size _ _)⟩
    (fun q hq => ⟨hk₁ _ _ (M.cells q hq).1, Nat.ne_of_lt (Heap.lt_size (M.cells q hq).1), hideAll_none _ (List.mem_map_of_mem hq)⟩) B st (X.keeps fun b o e => st b o e) (T.keeps fun b o e => st b o e) (fun q hq => Heap.lt_size (M.cells q hq).1)) (fun fl s' hl => ?_) fun _ _ y => y.elim
  obtain ⟨L, m, tl', h', tk, rfl, F', N', r⟩ := hl
  refine hR _ tl' h' tk r (fun b o hb e => F'.keep b o (hideAll_get _ e hb)) fun q hq => ⟨(N' q hq).1, ?_, hidden_none (N' q hq).2.2⟩
  cases z : b₀.get? q.1 with
  | none => rfl
  | some o => have := (N' q hq).2.2; rw [st _ _ z] at this; cases this

theorem enterC (X : K.In b₀) (T : Top p loose mean mg mb b₀)
    (ho : K.lookup f = some ⟨oc, od, .func (fnX name qual params body scope [] dV kV doc pm an cdv ct), osl⟩) (hcd : codeIn K cdv qual = true)
    (hbind : ∀ s : Shared, K.In s.heap → BindsTo s (fnX name qual params body scope [] dV kV doc pm an cdv ct) args binds)
    (hkind : (binds.all fun y => scope.names.lookup y.1 == some .local || scope.names.lookup y.1 == some .cell) = true) (hnd : ((cellsFrom 0 scope.names []).map (·.1)).Nodup)
    (h : ∀ dp un gd fr s g L' h₁ tk cells, dp + D < recursionLimit → un + U < cLine → Fr g L' h₁ (bindL (envOfC qual scope L' f cdv).kindOf binds fun _ => none) → News g L' h₁ (cells ++ tl) →
      CellsAre (bindC (envOfC qual scope L' f cdv).kindOf binds fun _ => none) (cellsFrom (L' + 1) scope.names []) cells → (∀ p ∈ tl, p.1 < L') → Below (AR dp un gd fr) b₀ fr g → b₀.StaysIn g → K.In g → Top p loose mean mg mb g →
      wpAny (model P w) ((AR dp un gd fr).deeper (envOfC qual scope L' f cdv)) (execs body (envOfC qual scope L' f cdv))
        (fun fl s' => Done g Ret s (match fl with | .ret v => v | _ => .none) s') (fun _ _ => False) { s with heap := h₁, toks := tk })
    (hD : 0 < D) (hco : scope.isCoroutine = false) (hgen : scope.isGenerator = false) (hk : scope.kind = .function) :
    FS P w b₀ D U (.ref f) args tl Ret := by
  intro dp un gd fr s R M hd hu hR
  have st : b₀.StaysIn (hideAll s.heap (tl.map (·.1))) := fun b o e => hideAll_get _ (M.stays b o e) fun q => by
    obtain ⟨x, hx, rfl⟩ := List.mem_map.mp q
    rw [(M.cells x hx).2] at e; cases e
  have B : Below (AR dp un gd fr) b₀ fr (hideAll s.heap (tl.map (·.1))) := ⟨rfl, st, funFrames_hideAll M.frames fun env he a ha => by
    obtain ⟨x, hx, rfl⟩ := List.mem_map.mp ha
    exact M.off env he x hx⟩
  have XS : K.In s.heap := X.keeps M.stays
  refine codeAny_call_function (show dp < recursionLimit by omega) (XS _ _ ho) rfl hco hgen rfl (codeRec_of XS hcd) (hbind s XS _ _ _ _ ?_)
  refine wpAny_newFunctionEnv_cells hk (kindsX hkind _) fun env' he s' x => ?_
  subst he
  refine ⟨(T.nolimit.keeps M.stays).keeps x.toInCall.keep, codeAny_func ?_⟩
  obtain ⟨h₁, tk, rfl, _⟩ := x.done
  have hk₁ := x.toInCall.keep
  obtain ⟨cells, NC, Y⟩ := Cl.news (h₀ := s.heap) (Nat.le_refl _) fun n c hm => ⟨x.cell n c (lookup_of_mem_nodup (cellsFrom_names scope.names 0 (s.heap.objs.size + 1) [] [] rfl ▸ hnd) hm), x.above n c hm⟩
  refine wpAny_mono (h dp un gd fr s (hideAll s.heap (tl.map (·.1))) s.heap.objs.size h₁ tk cells hd hu ⟨x.toInCall.ns, fun b o e => hk₁ b o (of_hideAll _ e), Nat.le_of_eq (hideAll_size _ _)⟩
    (fun q hq => ?_) Y (fun q hq => Heap.lt_size (M.cells q hq).1) B st (X.keeps fun b o e => st b o e) (T.keeps fun b o e => st b o e)) (fun fl s' hl => ?_) fun _ _ y => y.elim
  · rcases List.mem_append.mp hq with hq | hq
    · refine ⟨(NC q hq).1, (NC q hq).2.1, ?_⟩
      cases z : (hideAll s.heap (tl.map (·.1))).get? q.1 with
      | none => rfl
      | some o => have := of_hideAll _ z; rw [(NC q hq).2.2] at this; cases this
    · exact ⟨hk₁ _ _ (M.cells q hq).1, Nat.ne_of_lt (Heap.lt_size (M.cells q hq).1), hideAll_none _ (List.mem_map_of_mem hq)⟩
  obtain ⟨L, m, tl', h', tk', rfl, F', N', r⟩ := hl
  refine hR _ tl' h' tk' r (fun b o hb e => F'.keep b o (hideAll_get _ e hb)) fun q hq => ⟨(N' q hq).1, ?_, hidden_none (N' q hq).2.2⟩
  cases z : b₀.get? q.1 with
  | none => rfl
  | some o => have := (N' q hq).2.2; rw [st _ _ z] at this; cases this

inductive Pick (p : Addr × Obj) : Led → Led → Prop
  | head {r : Led} : (∀ q ∈ r, p.1 ≠ q.1) → Pick p (p :: r) r
  | tail {q : Addr × Obj} {r r' : Led} : p.1 ≠ q.1 → Pick p r r' → Pick p (q :: r) (q :: r')
inductive Picks : Led → Led → Led → Prop
  | nil {r : Led} : Picks [] r r
  | cons {p : Addr × Obj} {tl r r' r'' : Led} : Pick p r r' → Picks tl r' r'' → Picks (p :: tl) r r''
theorem Pick.mem {p : Addr × Obj} : ∀ {r r' : Led}, Pick p r r' → p ∈ r ∧ ∀ q ∈ r', q ∈ r ∧ p.1 ≠ q.1
  | _, _, .head h => ⟨.head _, fun q hq => ⟨.tail _ hq, h q hq⟩⟩
  | _, _, .tail h k => ⟨.tail _ k.mem.1, fun q hq => by
      rcases List.mem_cons.mp hq with rfl | hq
      · exact ⟨.head _, h⟩
      · exact ⟨.tail _ (k.mem.2 q hq).1, (k.mem.2 q hq).2⟩⟩
theorem Picks.mem : ∀ {tl r r' : Led}, Picks tl r r' → (∀ q ∈ tl, q ∈ r) ∧ ∀ q ∈ r', q ∈ r ∧ ∀ x ∈ tl, x.1 ≠ q.1
  | _, _, _, .nil => ⟨fun _ h => (nomatch h), fun q hq => ⟨hq, fun _ h => (nomatch h)⟩⟩
  | _, _, _, .cons h k => ⟨fun q hq => by
      rcases List.mem_cons.mp hq with rfl | hq
      · exact h.mem.1
      · exact (h.mem.2 q (k.mem.1 q hq)).1, fun q hq => ⟨(h.mem.2 q (k.mem.2 q hq).1).1, fun x hx => by
      rcases List.mem_cons.mp hx with rfl | hx
      · exact (h.mem.2 q (k.mem.2 q hq).1).2
      · exact (k.mem.2 q hq).2 x hx⟩⟩

theorem use_fsT {dp un : Nat} {gd : Option (List Code)} {env : Env} {outer : List Env} {A₀ : Around} {s : Shared} {h₀ : Heap} {L : Addr} {m : Str → Option Value} {news rest : Led} {Q : Value → Shared → Prop} {E : Value → Shared → Prop} {f : Value} {pos : List Value} {kw : List (Str × Value)}
    (H : FS P w b₀ D U f ⟨pos, kw⟩ tl Ret) (B : Below A₀ b₀ outer h₀) (F : Fr h₀ L s.heap m) (N : News h₀ L s.heap news) (hf : env.frame = some L) (hk : env.scope.kind = .function)
    (hd : dp + D < recursionLimit) (hu : un + U < cLine) (htl : ∀ q ∈ tl, q ∈ news) (hrest : ∀ q ∈ rest, q ∈ news ∧ ∀ x ∈ tl, x.1 ≠ q.1)
    (h : ∀ v tl' h' tk, Ret v tl' → Fr h₀ L h' m → News h₀ L h' (tl' ++ rest) → (∀ q ∈ tl', q.1 ∈ tl.map (·.1) ∨ ∀ x ∈ news, x.1 ≠ q.1) → Q v { s with heap := h', toks := tk }) :
    wpAny (model P w) (AR dp un gd (env :: outer)) (call f pos kw) Q E s := by
  have B₁ := pushX B F hf hk
  refine wpAny_call (H dp un gd (env :: outer) s _ ⟨B₁.frames, fun env' he q hq hf' => ?_, fun b o e => F.keep b o (B.stays b o e), fun q hq => ⟨(N q (htl q hq)).1, ?_⟩⟩ hd hu fun v tl' h' tk r k fresh => ?_)
  · have nq := N q (htl q hq)
    cases he with
    | head => exact nq.2.1 (Option.some.inj (hf'.symm.trans hf))
    | tail _ he =>
      obtain ⟨L₁, o₁, hf₁, ho₁⟩ := funFrames_in B.frames env' he
      rw [hf₁] at hf'
      have e : L₁ = q.1 := Option.some.inj hf'
      have := nq.2.2; rw [← e, ho₁] at this; cases this
  · cases z : b₀.get? q.1 with
    | none => rfl
    | some o => have := (N q (htl q hq)).2.2; rw [B.stays _ _ z] at this; cases this
  · have old : ∀ b o, h₀.get? b = some o → h'.get? b = some o := fun b o e => k b o (fun q => by
      obtain ⟨x, hx, rfl⟩ := List.mem_map.mp q
      rw [(N x (htl x hx)).2.2] at e; cases e) (F.keep b o e)
    obtain ⟨oL, es, ep, hL, rL⟩ := F.ns
    have hL' : h'.get? L = some oL := k L oL (fun q => by
      obtain ⟨x, hx, e⟩ := List.mem_map.mp q
      exact (N x (htl x hx)).2.1 e) hL
    refine h v tl' h' tk r ⟨⟨oL, es, ep, hL', rL⟩, old, F.above⟩ (fun q hq => ?_) fun q hq => ((fresh q hq).2.2).imp id fun hno x hx e => ?_
    · rcases List.mem_append.mp hq with hq | hq
      · have fq := fresh q hq
        rcases fq.2.2 with hin | hno
        · obtain ⟨x, hx, e⟩ := List.mem_map.mp hin
          have nx := N x (htl x hx)
          exact ⟨fq.1, e ▸ nx.2.1, e ▸ nx.2.2⟩
        · refine ⟨fq.1, fun e => ?_, ?_⟩
          · rw [e, hL] at hno; cases hno
          · cases z : h₀.get? q.1 with
            | none => rfl
            | some o => rw [F.keep _ _ z] at hno; cases hno
      · have nq := N q (hrest q hq).1
        exact ⟨k _ _ (fun z => by
          obtain ⟨x, hx, e⟩ := List.mem_map.mp z
          exact (hrest q hq).2 x hx e) nq.1, nq.2⟩
    · rw [← e, (N x hx).1] at hno; cases hno
theorem use_fs {dp un : Nat} {gd : Option (List Code)} {env : Env} {outer : List Env} {A₀ : Around} {s : Shared} {h₀ : Heap} {L : Addr} {m : Str → Option Value} {news rest : Led} {Q : Value → Shared → Prop} {E : Value → Shared → Prop} {f : Value} {pos : List Value} {kw : List (Str × Value)}
    (H : FS P w b₀ D U f ⟨pos, kw⟩ tl Ret) (B : Below A₀ b₀ outer h₀) (F : Fr h₀ L s.heap m) (N : News h₀ L s.heap news) (hf : env.frame = some L) (hk : env.scope.kind = .function)
    (hd : dp + D < recursionLimit) (hu : un + U < cLine) (hp : Picks tl news rest)
    (h : ∀ v tl' h' tk, Ret v tl' → Fr h₀ L h' m → News h₀ L h' (tl' ++ rest) → (∀ q ∈ tl', q.1 ∈ tl.map (·.1) ∨ ∀ x ∈ news, x.1 ≠ q.1) → Q v { s with heap := h', toks := tk }) :
    wpAny (model P w) (AR dp un gd (env :: outer)) (call f pos kw) Q E s := use_fsT H B F N hf hk hd hu hp.mem.1 hp.mem.2 h
end

def Stop (P : Prop) : Prop := P
theorem Stop.mk {P : Prop} (h : P) : Stop P := h
theorem Stop.out {P : Prop} (h : Stop P) : P := h

section
variable {prog : Program} {w : World} {A : Around} {E : Value → Shared → Prop} {env : Env} {test : PySem.Expr} {body orelse : List Stmt} {Q : Flow → Shared → Prop}
def WPost (I : Nat → Shared → Prop) (n : Nat) (Q : Flow → Shared → Prop) (f : Flow) (s : Shared) : Prop :=
  match f with
  | .next => ∃ k, k < n ∧ I k s
  | .cont => ∃ k, k < n ∧ I k s
  | .brk => Q .next s
  | .ret v => Q (.ret v) s
theorem WPost.nx {I : Nat → Shared → Prop} {n : Nat} {Q : Flow → Shared → Prop} {s : Shared} (k : Nat) (hk : k < n) (h : I k s) : WPost I n Q .next s := ⟨k, hk, h⟩
theorem while_inv (I : Nat → Shared → Prop) (hE : PassesOwn (model prog w) A env E)
    (turn : ∀ n s, I n s → wpAny (model prog w) A (isTrue test env (eval test env)) (fun b s₂ => WhlIf b (wpAny (model prog w) A (execs body env) (WPost I n Q) E s₂) (wpAny (model prog w) A (execs orelse env) Q E s₂)) E s)
    (n : Nat) {s : Shared} {pos : Pos} (h : I n s) : wpAny (model prog w) A (exec (.While test body orelse pos) env) Q E s := by
  refine whl_start 0 ?_
  induction n using Nat.strongRecOn generalizing s with
  | ind n ih =>
    refine whl_turn (k := 0) hE (wpAny_mono (turn n s h) (fun b s₂ h₂ => ?_) fun _ _ x => x)
    cases b with
    | false => exact h₂
    | true =>
      refine WhlIf.yes rfl ?_
      unfold WhlIf at h₂
      rw [if_pos rfl] at h₂
      refine wpAny_mono h₂ (fun f s₃ h₃ => ?_) fun _ _ x => x
      cases f with
      | next => obtain ⟨k, hk, hi⟩ := h₃; exact ih k hk hi
      | cont => obtain ⟨k, hk, hi⟩ := h₃; exact ih k hk hi
      | brk => exact h₃
      | ret v => exact h₃
theorem WhlIf.dec {c : Prop} [Decidable c] {T F : Prop} (t : c → T) (f : ¬ c → F) : WhlIf (decide c) T F := by
  by_cases h : c
  · exact WhlIf.yes (decide_eq_true h) (t h)
  · exact WhlIf.no (decide_eq_false h) (f h)
theorem ite_dec {c : Prop} [Decidable c] {T F : Prop} (t : c → T) (f : ¬ c → F) : if decide c = true then T else F := by
  by_cases h : c
  · rw [if_pos (decide_eq_true h)]; exact t h
  · rw [if_neg (by simpa using h)]; exact f h
end
def fm (rest : Str → Option Value) : List (Str × Value) → Str → Option Value
  | [], z => rest z
  | (k, v) :: r, z => if z = k then some v else fm rest r z
theorem fm_eq {m : Str → Option Value} {z : Str} : ∀ {ps : List (Str × Value)}, (∀ p ∈ ps, m p.1 = some p.2) → fm m ps z = m z
  | [], _ => rfl
  | (k, v) :: r, h1 => by
    show (if z = k then some v else fm m r z) = m z
    by_cases e : z = k
    · rw [if_pos e, e]; exact (h1 (k, v) (.head _)).symm
    · rw [if_neg e]; exact fm_eq fun q hq => h1 q (.tail _ hq)
theorem fr_norm {g h : Heap} {L : Addr} {m : Str → Option Value} (ps : List (Str × Value)) (F : Fr g L h m) (e : ∀ p ∈ ps, m p.1 = some p.2) : Fr g L h (fm m ps) := by
  have : fm m ps = m := by funext z; exact fm_eq e
  rw [this]; exact F

theorem fdiv2 (a b : Nat) : Int.fdiv ((a : Int) + (b : Int)) 2 = ((a + b) / 2 : Nat) := by
  rw [Int.fdiv_eq_ediv_of_nonneg _ (by decide)]; omega

def insL {α : Type} (l : List α) (i : Nat) (y : α) : List α := l.take i ++ y :: l.drop i
def delL {α : Type} (l : List α) (i : Nat) : List α := l.take i ++ l.drop (i + 1)
theorem insL_length {α : Type} (l : List α) (i : Nat) (y : α) : (insL l i y).length = l.length + 1 := by
  unfold insL; rw [List.length_append, List.length_cons, List.length_take, List.length_drop]; omega
theorem delL_length {α : Type} (l : List α) (i : Nat) (h : i < l.length) : (delL l i).length = l.length - 1 := by
  unfold delL; rw [List.length_append, List.length_take, List.length_drop]; omega
theorem strs_take {vs : List Value} {ss : List Str} (h : StrsAre vs ss) : ∀ i, StrsAre (vs.take i) (ss.take i) := by
  induction h with
  | nil => intro i; simp; exact .nil
  | cons y t h ih => intro i; cases i with
    | zero => exact .nil
    | succ i => exact .cons y t (ih i)
theorem strs_drop {vs : List Value} {ss : List Str} (h : StrsAre vs ss) : ∀ i, StrsAre (vs.drop i) (ss.drop i) := by
  induction h with
  | nil => intro i; simp; exact .nil
  | cons y t h ih => intro i; cases i with
    | zero => exact .cons y t h
    | succ i => exact ih i
theorem strs_app {vs us : List Value} {ss rs : List Str} (h : StrsAre vs ss) (k : StrsAre us rs) : StrsAre (vs ++ us) (ss ++ rs) := by
  induction h with
  | nil => exact k
  | cons y t h ih => exact .cons y t ih
theorem strs_ins {vs : List Value} {ss : List Str} (h : StrsAre vs ss) (i : Nat) (x : Str) (t : Tok) : StrsAre (insL vs i (.str x t)) (insL ss i x) := strs_app (strs_take h i) (.cons x t (strs_drop h i))
theorem strs_del {vs : List Value} {ss : List Str} (h : StrsAre vs ss) (i : Nat) : StrsAre (delL vs i) (delL ss i) := strs_app (strs_take h i) (strs_drop h (i + 1))
theorem len_ins {ss : List Str} {n i : Nat} {x : Str} (h : ∀ s ∈ ss, s.length ≤ n) (hx : x.length ≤ n) : ∀ s ∈ insL ss i x, s.length ≤ n := by
  intro s hs
  rcases List.mem_append.mp hs with hs | hs
  · exact h s (List.mem_of_mem_take hs)
  · rcases List.mem_cons.mp hs with rfl | hs
    · exact hx
    · exact h s (List.mem_of_mem_drop hs)
theorem len_del {ss : List Str} {n i : Nat} (h : ∀ s ∈ ss, s.length ≤ n) : ∀ s ∈ delL ss i, s.length ≤ n := by
  intro s hs
  rcases List.mem_append.mp hs with hs | hs
  · exact h s (List.mem_of_mem_take hs)
  · exact h s (List.mem_of_mem_drop hs)
section
variable {prog : Program} {w : World} {A : Around} {E : Value → Shared → Prop} {s : Shared} {h₀ : Heap} {L D : Addr} {m : Str → Option Value} {news news' : Led} {vs : List Value} {n : Nat}
theorem fits_nat {i : Nat} (h : i ≤ 1000) : Builtin.List.listFitsIndex (i : Int) = true := by
  unfold Builtin.List.listFitsIndex
  simp only [Bool.and_eq_true, decide_eq_true_eq]; omega
theorem ins_N {k : Int} {u : Tok} {y : Value} {Q : Value → Shared → Prop} (F : Fr h₀ L s.heap m) (N : News h₀ L s.heap news) (i : Nat) (hk : k = i) (hi : i ≤ vs.length) (hl : vs.length ≤ 1000)
    (U : Upd D (listOf vs.toArray n) (listOf (insL vs i y).toArray (n + 1)) news news') (h : ∀ h', Fr h₀ L h' m → News h₀ L h' news' → Q .none { s with heap := h' }) :
    wpAny (model prog w) A (call (.builtin "list.insert") [.ref D, .int k u, y]) Q E s := by
  subst hk
  refine kl_insert F N (fits_nat (by omega)) ?_ U (by simp; exact Nat.le_trans hl (by decide)) h
  unfold kl_ins insL
  rw [if_neg (by omega), Int.toNat_natCast]
  simp [Nat.min_eq_left hi]
theorem cut_N : ∀ (vs : List Value) (i : Nat) (y : Value), vs[i]? = some y → kl_cut vs i = some (vs.take i, y, vs.drop (i + 1)) := by
  intro vs
  induction vs with
  | nil => intro i y e; cases e
  | cons v r ih => intro i y e; cases i with
    | zero => cases e; rfl
    | succ i =>
      have := ih i y (by simpa using e)
      simp [kl_cut, this]
theorem pop_N {k : Int} {u : Tok} {y : Value} {Q : Value → Shared → Prop} (F : Fr h₀ L s.heap m) (N : News h₀ L s.heap news) (i : Nat) (hk : k = i) (hy : vs[i]? = some y) (hl : vs.length ≤ 1000)
    (U : Upd D (listOf vs.toArray n) (listOf (delL vs i).toArray (n + 1)) news news') (h : ∀ h', Fr h₀ L h' m → News h₀ L h' news' → Q y { s with heap := h' }) :
    wpAny (model prog w) A (call (.builtin "list.pop") [.ref D, .int k u]) Q E s := by
  subst hk
  have hi : i < vs.length := by
    rcases Nat.lt_or_ge i vs.length with h | h
    · exact h
    · rw [List.getElem?_eq_none h] at hy; cases hy
  refine kl_popAt (its := vs.toArray) F N (fits_nat (by omega)) (k := i) ?_ (by simpa using cut_N vs i y hy) U (by simp; exact Nat.le_trans hl (by decide)) h
  unfold seqIndex?
  simp; omega
theorem popS_N {k : Int} {u : Tok} {ss : List Str} {Q : Value → Shared → Prop} (F : Fr h₀ L s.heap m) (N : News h₀ L s.heap news) (hs : StrsAre vs ss) (i : Nat) (hk : k = i) (hi : i < vs.length) (hl : vs.length ≤ 1000)
    (U : Upd D (listOf vs.toArray n) (listOf (delL vs i).toArray (n + 1)) news news') (h : ∀ h' t, Fr h₀ L h' m → News h₀ L h' news' → Q (.str (ss.getD i "") t) { s with heap := h' }) :
    wpAny (model prog w) A (call (.builtin "list.pop") [.ref D, .int k u]) Q E s := by
  have hi' : i < ss.length := by rw [← hs.len_eq]; exact hi
  obtain ⟨t, ht⟩ := hs.at (j := i) (y := ss.getD i "") (by simp [hi'])
  exact pop_N F N i hk ht hl U fun h' F' N' => h h' t F' N'
end
theorem getD_len {ss : List Str} {n : Nat} (h : ∀ s ∈ ss, s.length ≤ n) (i : Nat) : (ss.getD i "").length ≤ n := by
  rw [List.getD_eq_getElem?_getD]
  cases e : ss[i]? with
  | none => exact Nat.zero_le _
  | some x => exact h x (List.mem_of_getElem? e)
theorem item_strsN {prog : Program} {w : World} {A : Around} {E : Value → Shared → Prop} {s : Shared} {h₀ : Heap} {L l : Addr} {news : Led} {value slice : PySem.Expr} {vs : List Value} {n : Nat} {ss : List Str} {k : Int} {u : Tok} {Q : Value → Shared → Prop} (N : News h₀ L s.heap news) (hm : (l, listOf vs.toArray n) ∈ news) (hi : StrsAre vs ss)
    (i : Nat) (hk : k = i) (hlt : i < vs.length) (hfit : vs.length ≤ 1000) (h : ∀ t', Q (.str (ss.getD i "") t') s)
    (hs : subscripted slice false (.ref l) (.int k u) = operate [.ref l, .int k u] (getItem (.ref l) (.int k u))) (hg : ∀ r, letTemporaryGo value (.ref l) r = pure ()) :
    wpAny (model prog w) A (subscriptTail value slice (.ref l) (.int k u)) Q E s := by
  subst hk
  have e := hi.len_eq
  refine item_strsA (N.isList hm) hi (by omega) (by omega) (by omega) (fun t => ?_) hs hg
  have := h t
  rwa [show (ss.getD (Int.toNat (i : Int)) Str.empty) = ss.getD i "" from rfl]

/-- no cell of the ledger stands at d -/
def Off (d : Addr) (l : Led) : Prop := ∀ p ∈ l, p.1 ≠ d
theorem Off.ne {d a : Addr} {o : Obj} {l : Led} (h : Off d l) (hm : (a, o) ∈ l) : a ≠ d := h _ hm
theorem Off.ne' {d a : Addr} {o : Obj} {l : Led} (h : Off d l) (hm : (a, o) ∈ l) : d ≠ a := fun e => h _ hm e.symm

section
variable {prog : Program} {w : World} {A : Around} {E : Value → Shared → Prop} {s : Shared} {h₀ : Heap} {m : Str → Option Value} {news : Led} {env : Env} {scope : Scope} {x z : Str} {ifs : List PySem.Expr} {elt : PySem.Expr} {l : Addr} {vs : List Value} {nn : Nat}
def CTest (prog : Program) (w : World) (A : Around) (ifs : List PySem.Expr) (cenv : Env) (p : Bool) (E' : Value → Shared → Prop) (s₂ : Shared) : Prop :=
  wpAny (model prog w) A (forIn ifs true fun c r => if r = true then do let ok ← isTrue c cenv (eval c cenv); pure (ForInStep.yield ok) else pure (ForInStep.yield r)) (fun ok s₃ => ok = p ∧ Keeps s₂ s₃) E' s₂
theorem CTest.none {cenv : Env} {E' : Value → Shared → Prop} {s₂ : Shared} : CTest prog w A [] cenv true E' s₂ :=
  wpAny_pure ⟨rfl, ⟨s₂.heap, s₂.toks, rfl, fun _ _ e => e⟩⟩
theorem keeps_refl {s : Shared} : Keeps s s := ⟨s.heap, s.toks, rfl, fun _ _ e => e⟩
theorem keeps_toks {s : Shared} {tk : Nat} : Keeps s { s with toks := tk } := ⟨s.heap, tk, rfl, fun _ _ e => e⟩

theorem compA_list (hh : A.handled = none) (F : Fr h₀ env.locals s.heap m) (N : News h₀ env.locals s.heap news) (hm : (l, listOf vs.toArray nn) ∈ news) (hsz : vs.length ≤ 1000) (p : Value → Bool) (G : Value → Value → Prop)
    (g1 : ∀ C v s₂ m₂ E', v ∈ vs → s₂.heap.Ns C m₂ → m₂ x = some v → (∀ b o, s.heap.get? b = some o → s₂.heap.get? b = some o) → CTest prog w A ifs (compEnv scope C env) (p v) E' s₂)
    (g2 : ∀ C v s₂ m₂ E', v ∈ vs → p v = true → s₂.heap.Ns C m₂ → m₂ x = some v → (∀ b o, s.heap.get? b = some o → s₂.heap.get? b = some o) → wpAny (model prog w) A (eval elt (compEnv scope C env)) (fun y s₃ => G v y ∧ Keeps s₂ s₃) E' s₂)
    (g3 : ∀ D (ys : List Value) n' h' tk, Fr h₀ env.locals h' (fun q => if q = z then some (.ref D) else m q) → News h₀ env.locals h' ((D, listOf ys.toArray n') :: news) → Off D news → Paired G (vs.filter p) ys → Q .next { s with heap := h', toks := tk }) :
    wpAny (model prog w) A (pyIter (.ref l)) (CompPostA prog w A env scope x z ifs elt Q) E s := by
  have hl := N.isList hm
  have hlt : l < s.heap.objs.size := Heap.lt_size (N _ hm).1
  refine wpAny_pyIter_list hl ?_
  have up : ∀ (h' : Heap), (∀ b o', b ∉ [s.heap.objs.size] → (s.heap.push { cls := .type "list_iterator", data := .fields #[.ref l, .int 0 0] }).get? b = some o' → h'.get? b = some o') → ∀ b o', s.heap.get? b = some o' → h'.get? b = some o' :=
    fun h' hk b o' e => hk b o' (not_iter_of_old e) (Heap.get?_push_of_some _ e)
  refine ⟨p, G, s.heap.objs.size, [s.heap.objs.size, l], [s.heap.objs.size], vs.toArray.size, _, _, m, rfl, Walks.list hh _ l (Nat.ne_of_lt hlt) vs.toArray, (by rw [List.size_toArray]; exact Nat.le_trans hsz (by decide)),
    ⟨⟨_, Heap.get?_push_size _ rfl, rfl, rfl⟩, hl.at fun o e => Heap.get?_push_of_some _ e⟩, ?_, ?_, (F.push _).ns, ⟨?_, ?_⟩, ?_⟩
  · intro b hb
    show b < (s.heap.push _).objs.size
    rw [Heap.size_push]
    rcases List.mem_cons.mp hb with rfl | hb
    · exact Nat.lt_succ_self _
    · rw [List.mem_singleton.mp hb]; exact Nat.lt_succ_of_lt hlt
  · intro hm'
    exact absurd F.ns.lt ((List.mem_singleton.mp hm') ▸ Nat.lt_irrefl _)
  · intro C i v s₃ m₃ E' hP hn hm' hk htk
    exact g1 C v s₃ m₃ E' (List.mem_of_getElem? (by simpa using hP)) hn hm' (up _ hk)
  · intro C i v s₃ m₃ E' hP hp hn hm' hk htk
    exact g2 C v s₃ m₃ E' (List.mem_of_getElem? (by simpa using hP)) hp hn hm' (up _ hk)
  · intro D h' tk ys vs' hnew hlD hplD hlen hP hF hns hk
    have e' : vs' = vs := by simpa using walked_is hlen hP
    subst e'
    have hk' : ∀ b o, b ≠ env.locals → s.heap.get? b = some o → h'.get? b = some o := fun b o hb e => hk b o hb (not_iter_of_old e) (Heap.get?_push_of_some _ e)
    have hD : s.heap.get? D = none := by
      cases e : s.heap.get? D with
      | none => rfl
      | some o' => rw [Heap.get?_push_of_some _ e] at hnew; cases hnew
    obtain ⟨n', hn'⟩ := hplD
    have hDL : D ≠ env.locals := by
      rintro rfl
      obtain ⟨o, _, _, ho, _⟩ := F.ns
      rw [hD] at ho; cases ho
    refine g3 D ys.toList n' h' tk ⟨hns, fun b o e => hk' b o (fun q => by
        have := F.above
        rw [q] at e
        exact absurd (Heap.lt_size e) (Nat.not_lt.mpr this)) (F.keep b o e), F.above⟩ (fun q hq => ?_) (fun q hq e => ?_) hF
    · rcases List.mem_cons.mp hq with rfl | hq
      · refine ⟨by rw [Array.toArray_toList]; exact hn', hDL, ?_⟩
        cases e : h₀.get? D with
        | none => rfl
        | some o => rw [F.keep _ _ e] at hD; cases hD
      · exact ⟨hk' _ _ (N q hq).2.1 (N q hq).1, (N q hq).2⟩
    · rw [← e, (N q hq).1] at hD; cases hD
end

theorem cname {M : Model} {A : Around} {E : Value → Shared → Prop} {s : Shared} {m : Str → Option Value} {cenv : Env} {x : Str} {pos : Pos} {v : Value} {Q : Value → Shared → Prop} (hn : s.heap.Ns cenv.locals m) (hv : m x = some v) (hk : cenv.scope.kind = .function) (hl : cenv.kindOf x = some .local) (hd : (x == ("__debug__" : Str)) = false) (h : Q v s) :
    wpAny M A (eval (.Name x pos) cenv) Q E s := wpAny_Name (wpAny_loadName_local hk hl hn hv h) hd
theorem paired_eq {vs ys : List Value} (h : Paired (fun a b => b = a) vs ys) : ys = vs := by
  induction h with
  | nil => rfl
  | cons e _ ih => rw [e, ih]
theorem filter_tt {α : Type} (l : List α) : l.filter (fun _ => true) = l := by simp

theorem len_N {prog : Program} {w : World} {A : Around} {E : Value → Shared → Prop} {s : Shared} {h₀ : Heap} {L l : Addr} {news : Led} {vs : List Value} {n : Nat} {Q : Value → Shared → Prop} (N : News h₀ L s.heap news) (hm : (l, listOf vs.toArray n) ∈ news) (hfit : vs.length ≤ 1000)
    (h : ∀ t tk, Q (.int vs.length t) { s with toks := tk }) : wpAny (model prog w) A (call (.builtin "len") [.ref l]) Q E s := by
  refine len_list (N.isList hm) (by rw [List.size_toArray]; omega) ?_
  rw [List.size_toArray]
  exact h _ _

def LPost (h₀ : Heap) (L : Addr) (s₁ : Shared) (I : Addr) (it : Obj) (J : (Str → Option Value) → Led → Prop) (Q : Flow → Shared → Prop) (f : Flow) (s₂ : Shared) : Prop := UnrPost h₀ L s₁ I it (fun m n => J m n ∧ ∀ p ∈ n, p.1 ≠ I) Q f s₂
theorem LPost.nx {h₀ : Heap} {L I : Addr} {it : Obj} {J : (Str → Option Value) → Led → Prop} {s₁ : Shared} {h' : Heap} {tk : Nat} {m' : Str → Option Value} {all : Led} {Q : Flow → Shared → Prop} (F : Fr h₀ L h' m') (N : News h₀ L h' all) (news' : Led)
    (hI : (I, it) ∈ all) (sub : SubL news' all) (off : ∀ p ∈ news', p.1 ≠ I) (r : J m' news') : LPost h₀ L s₁ I it J Q .next { s₁ with heap := h', toks := tk } :=
  UnrEnd.intro F N news' (fun p hp => by
    rcases List.mem_cons.mp hp with rfl | hp
    · exact hI
    · exact sub.mem p hp) off ⟨r, off⟩
theorem LPost.ct {h₀ : Heap} {L I : Addr} {it : Obj} {J : (Str → Option Value) → Led → Prop} {s₁ : Shared} {h' : Heap} {tk : Nat} {m' : Str → Option Value} {all : Led} {Q : Flow → Shared → Prop} (F : Fr h₀ L h' m') (N : News h₀ L h' all) (news' : Led)
    (hI : (I, it) ∈ all) (sub : SubL news' all) (off : ∀ p ∈ news', p.1 ≠ I) (r : J m' news') : LPost h₀ L s₁ I it J Q .cont { s₁ with heap := h', toks := tk } :=
  UnrEnd.intro F N news' (fun p hp => by
    rcases List.mem_cons.mp hp with rfl | hp
    · exact hI
    · exact sub.mem p hp) off ⟨r, off⟩
theorem LPost.mono {h₀ : Heap} {L I : Addr} {it : Obj} {J J' : (Str → Option Value) → Led → Prop} {s₁ s₂ : Shared} {Q : Flow → Shared → Prop} {f : Flow} (h : LPost h₀ L s₁ I it J Q f s₂) (hj : ∀ m n, J m n → (∀ p ∈ n, p.1 ≠ I) → J' m n) : UnrPost h₀ L s₁ I it J' Q f s₂ := by
  have e : ∀ s₂, UnrEnd h₀ L s₁ I it (fun m n => J m n ∧ ∀ p ∈ n, p.1 ≠ I) s₂ → UnrEnd h₀ L s₁ I it J' s₂ := fun s₂ ⟨h', tk, m', n', a, b, c, d, r⟩ => ⟨h', tk, m', n', a, b, c, d, hj _ _ r.1 r.2⟩
  cases f with
  | ret v => exact h
  | brk => exact h
  | next => exact e _ h
  | cont => exact e _ h
section
variable {prog : Program} {w : World} {A : Around} {E : Value → Shared → Prop} {s : Shared} {env : Env} {h₀ : Heap} {x : Str} {body : List Stmt} {Q : Flow → Shared → Prop}
theorem rangeSize_nat (n : Nat) : Builtin.Range.rangeSize 0 (n : Int) 1 = (n : Int) := by
  unfold Builtin.Range.rangeSize
  rcases Nat.eq_zero_or_pos n with h | h
  · subst h; decide
  · simp; omega
theorem range_inv (J : Nat → (Str → Option Value) → Led → Prop) {n : Nat} {r : Addr} {t₀ u₀ v₀ : Tok} {m₀ : Str → Option Value} {news : Led} (hn : n ≤ 1000) (hh : A.handled = none) (hr : IsRange s.heap r 0 (n : Int) 1 t₀ u₀ v₀) (F : Fr h₀ env.locals s.heap m₀) (N : News h₀ env.locals s.heap news) (hj : J 0 m₀ news)
    (turn : ∀ i m₁ news₁ t h tk I ito, i < n → J i m₁ news₁ → (∀ p ∈ news, p.1 < I) → Fr h₀ env.locals h (fun y => if y = x then some (.int (i : Int) t) else m₁ y) → News h₀ env.locals h ((I, ito) :: news₁) → (∀ p ∈ news₁, p.1 ≠ I) →
      wpAny (model prog w) A (execs body env) (LPost h₀ env.locals { s with heap := h, toks := tk } I ito (J (i + 1)) Q) E { s with heap := h, toks := tk })
    (done : ∀ m₁ news₁ h tk, J n m₁ news₁ → Fr h₀ env.locals h m₁ → News h₀ env.locals h news₁ → Q .next { s with heap := h, toks := tk }) :
    wpAny (model prog w) A (pyIter (.ref r)) (fun it s₂ => LoopAtV prog w A h₀ env x body Q E it s₂) E s := by
  refine iter_rangeUnr (n := n) hh hr ?_ (rangeSize_nat n) F N fun I hI => ?_
  · unfold Builtin.Range.small
    rw [rangeSize_nat]
    simp [Builtin.Range.rangeFitsLong]; omega
  have key : ∀ k i m₁ news₁, i + k = n → J i m₁ news₁ → (∀ p ∈ news₁, p.1 ≠ I) → RangeRest prog w A E h₀ env x body Q s I 0 n k i m₁ news₁ := by
    intro k
    induction k with
    | zero =>
      intro i m₁ news₁ e hJ hO
      have : i = n := by omega
      subst this
      exact RangeRest.zero fun h tk F' N' => done m₁ news₁ h tk hJ F' N'
    | succ k ih =>
      intro i m₁ news₁ e hJ hO
      refine RangeRest.succ fun t h tk F' N' => ?_
      rw [Int.zero_add] at F'
      exact wpAny_mono (turn i m₁ news₁ t h tk I _ (by omega) hJ hI F' N' hO) (fun f s₂ p => LPost.mono p fun m' n' hJ' hO' => ih (i + 1) m' n' (by omega) hJ' hO') fun _ _ e => e
  exact key n 0 m₀ news (by omega) hj fun p hp => Nat.ne_of_lt (hI p hp)

theorem list_inv (J : Nat → (Str → Option Value) → Led → Prop) {ax : Addr} {vs : List Value} {nn : Nat} {m₀ : Str → Option Value} {news : Led} (hh : A.handled = none) (F : Fr h₀ env.locals s.heap m₀) (N : News h₀ env.locals s.heap news) (hm : (ax, listOf vs.toArray nn) ∈ news) (hj : J 0 m₀ news)
    (turn : ∀ i v m₁ news₁ h tk I ito, vs[i]? = some v → J i m₁ news₁ → (∀ p ∈ news, p.1 < I) → Fr h₀ env.locals h (fun y => if y = x then some v else m₁ y) → News h₀ env.locals h ((I, ito) :: news₁) → (∀ p ∈ news₁, p.1 ≠ I) →
      wpAny (model prog w) A (execs body env) (LPost h₀ env.locals { s with heap := h, toks := tk } I ito (fun m' n' => (ax, listOf vs.toArray nn) ∈ n' ∧ J (i + 1) m' n') Q) E { s with heap := h, toks := tk })
    (done : ∀ m₁ news₁ h tk, J vs.length m₁ news₁ → Fr h₀ env.locals h m₁ → News h₀ env.locals h news₁ → Q .next { s with heap := h, toks := tk }) :
    wpAny (model prog w) A (pyIter (.ref ax)) (fun it s₂ => LoopAtV prog w A h₀ env x body Q E it s₂) E s := by
  refine iter_listUnr hh F N hm rfl rfl fun I hI => ?_
  have key : ∀ k i m₁ news₁, i + k = vs.length → J i m₁ news₁ → (∀ p ∈ news₁, p.1 ≠ I) → ListRest prog w A E h₀ env x body Q s I (ax, listOf vs.toArray nn) (vs.drop i) m₁ news₁ := by
    intro k
    induction k with
    | zero =>
      intro i m₁ news₁ e hJ hO
      have : i = vs.length := by omega
      subst this
      rw [List.drop_length]
      exact ListRest.zero fun h tk F' N' => done m₁ news₁ h tk hJ F' N'
    | succ k ih =>
      intro i m₁ news₁ e hJ hO
      have hi : i < vs.length := by omega
      rw [List.drop_eq_getElem_cons hi]
      refine ListRest.succ fun it h tk _ F' N' => ?_
      exact wpAny_mono (turn i vs[i] m₁ news₁ h tk I it (List.getElem?_eq_getElem hi) hJ hI F' N' hO) (fun f s₂ p => LPost.mono p fun m' n' hJ' hO' => ⟨hJ'.1, ih (i + 1) m' n' (by omega) hJ'.2 hO'⟩) fun _ _ e => e
  have := key vs.length 0 m₀ news (by omega) hj fun p hp => Nat.ne_of_lt (hI p hp)
  rwa [List.drop_zero] at this
end

theorem natSub1 (a : Nat) (h : 1 ≤ a) : ((a : Int) - 1) = ((a - 1 : Nat) : Int) := by omega
theorem sub_nat1 {prog : Program} {w : World} {A : Around} {E : Value → Shared → Prop} {s : Shared} {a : Nat} {t u : Tok} {Q : Value → Shared → Prop} (ha : 1 ≤ a) (h : ∀ t' tk, Q (.int ((a - 1 : Nat) : Int) t') { s with toks := tk }) :
    wpAny (model prog w) A (binaryOp .Sub (.int (a : Int) t) (.int 1 u)) Q E s := by
  refine sub_int ?_
  rw [natSub1 a ha]
  exact h _ _
theorem fm_self {m : Str → Option Value} (ps : List (Str × Value)) (h : ∀ p ∈ ps, m p.1 = some p.2) : m = fm m ps := (funext fun _ => fm_eq h).symm

theorem lenS_N {prog : Program} {w : World} {A : Around} {E : Value → Shared → Prop} {s : Shared} {x : Str} {t : Tok} {Q : Value → Shared → Prop} (hfit : x.length ≤ 1000)
    (h : ∀ t tk, Q (.int x.length t) { s with toks := tk }) : wpAny (model prog w) A (call (.builtin "len") [.str x t]) Q E s :=
  P.len_str (by omega) (h _ _)

theorem off_one {D b : Addr} {o o' : Obj} {rest news : Led} (h : ∀ q ∈ (D, o) :: rest, q.1 ∈ [(b, o')].map (·.1) ∨ ∀ x ∈ news, x.1 ≠ q.1) (hne : D ≠ b) : Off D news := by
  rcases h (D, o) (.head _) with h | h
  · exact absurd (List.mem_singleton.mp h) hne
  · exact h

section
variable {prog : Program} {w : World} {A : Around} {E : Value → Shared → Prop} {s : Shared} {h₀ : Heap} {m : Str → Option Value} {news : Led} {env : Env} {scope : Scope} {x z : Str} {ifs : List PySem.Expr} {elt iter : PySem.Expr} {cl : List (Str × Addr)}
def SrcOk (prog : Program) (w : World) (A : Around) (s : Shared) (xv : Value) (n : Nat) (P : Nat → Value → Prop) : Prop :=
  ∀ (Q : Value → Shared → Prop) (E : Value → Shared → Prop), (∀ ito fp St, Walks prog w A s.heap.objs.size fp [s.heap.objs.size] n P St → St 0 (s.heap.push ito) → (∀ b ∈ fp, b < (s.heap.push ito).objs.size) →
    Q (.ref s.heap.objs.size) { s with heap := s.heap.push ito }) → wpAny (model prog w) A (pyIter xv) Q E s
theorem src_list {L l : Addr} {vs : List Value} {nn : Nat} (hh : A.handled = none) (N : News h₀ L s.heap news) (hm : (l, listOf vs.toArray nn) ∈ news) : SrcOk prog w A s (.ref l) vs.length (fun i v => vs[i]? = some v) := by
  intro Q E h
  have hl := N.isList hm
  have hlt : l < s.heap.objs.size := Heap.lt_size (N _ hm).1
  refine wpAny_pyIter_list hl ?_
  have W := Walks.list (prog := prog) (w := w) hh s.heap.objs.size l (Nat.ne_of_lt hlt) vs.toArray
  simp only [List.getElem?_toArray, List.size_toArray] at W
  refine h _ _ _ W ⟨⟨_, Heap.get?_push_size _ rfl, rfl, rfl⟩, hl.at fun o e => Heap.get?_push_of_some _ e⟩ ?_
  intro b hb
  rw [Heap.size_push]
  rcases List.mem_cons.mp hb with rfl | hb
  · exact Nat.lt_succ_self _
  · rw [List.mem_singleton.mp hb]; exact Nat.lt_succ_of_lt hlt
theorem src_range {r : Addr} {n : Nat} {t₀ u₀ v₀ : Tok} (hn : n ≤ 1000) (hh : A.handled = none) (hr : IsRange s.heap r 0 (n : Int) 1 t₀ u₀ v₀) : SrcOk prog w A s (.ref r) n (fun i v => i < n ∧ ∃ t, v = .int (i : Int) t) := by
  intro Q E h
  refine wpAny_pyIter_range hr ?_ ?_
  · unfold Builtin.Range.small
    rw [rangeSize_nat]
    simp [Builtin.Range.rangeFitsLong]; omega
  have W : Walks prog w A s.heap.objs.size [s.heap.objs.size] [s.heap.objs.size] n (fun i v => i < n ∧ ∃ t, v = .int (0 + i * 1) t)
      (fun i h => IsRangeIter h s.heap.objs.size (0 + (i : Nat) * 1) ((n : Int) - (i : Nat)) 1) := (Walks.range hh _ 0 1 n).bound
  simp only [Int.mul_one, Int.zero_add] at W
  refine h _ _ _ W ?_ ?_
  · show IsRangeIter _ _ _ _ _
    rw [rangeSize_nat]
    simpa using Heap.get?_push_size _ rfl
  · intro b hb
    rw [Heap.size_push, List.mem_singleton.mp hb]
    exact Nat.lt_succ_self _
theorem src_str {y : Str} {t : Tok} (hh : A.handled = none) : SrcOk prog w A s (.str y t) y.cps.size (SignAt y) := by
  intro Q E h
  refine wpAny_pyIter_str fun o St W hst => ?_
  refine h o _ _ (W A hh) hst ?_
  intro b hb
  rw [Heap.size_push, List.mem_singleton.mp hb]
  exact Nat.lt_succ_self _

def CPost (prog : Program) (w : World) (A : Around) (env : Env) (scope : Scope) (cl : List (Str × Addr)) (x : Str) (ifs : List PySem.Expr) (elt : PySem.Expr) (p : Value → Bool) (F : Value → Value → Prop) (E : Value → Shared → Prop) (Q : Value → Shared → Prop) (xv : Value) (s₁ : Shared) : Prop :=
  wpAny (model prog w) A (pyIter xv) (fun it s₂ => ∃ I fp wr n P St, it = .ref I ∧ Walks prog w A I fp wr n P St ∧ n ≤ sizeLine ∧ St 0 s₂.heap ∧ (∀ b ∈ fp, b < s₂.heap.objs.size) ∧
      QuietOnC prog w A env scope cl x ifs elt wr P p F s₂ ∧
      (∀ D h' tk ys (vs : List Value), s₂.heap.get? D = none → h'.IsList D ys → h'.PlainList D ys → vs.length = n → (∀ j v, vs[j]? = some v → P j v) → Paired F (vs.filter p) ys.toList →
        (∀ b o, b ∉ wr → s₂.heap.get? b = some o → h'.get? b = some o) → Q (.ref D) { s₂ with heap := h', toks := tk })) E s₁
def CPostA (prog : Program) (w : World) (A : Around) (env : Env) (scope : Scope) (cl : List (Str × Addr)) (x y : Str) (ifs : List PySem.Expr) (elt : PySem.Expr) (p : Value → Bool) (F : Value → Value → Prop) (E : Value → Shared → Prop) (Q : Flow → Shared → Prop) (xv : Value) (s₁ : Shared) : Prop :=
  wpAny (model prog w) A (pyIter xv) (fun it s₂ => ∃ I fp wr n P St m, it = .ref I ∧ Walks prog w A I fp wr n P St ∧ n ≤ sizeLine ∧ St 0 s₂.heap ∧ (∀ b ∈ fp, b < s₂.heap.objs.size) ∧
      env.locals ∉ wr ∧ s₂.heap.Ns env.locals m ∧ QuietOnC prog w A env scope cl x ifs elt wr P p F s₂ ∧
      (∀ D h' tk ys (vs : List Value), s₂.heap.get? D = none → h'.IsList D ys → h'.PlainList D ys → vs.length = n → (∀ j v, vs[j]? = some v → P j v) → Paired F (vs.filter p) ys.toList →
        h'.Ns env.locals (fun z => if z = y then some (.ref D) else m z) → (∀ b o, b ≠ env.locals → b ∉ wr → s₂.heap.get? b = some o → h'.get? b = some o) → Q .next { s₂ with heap := h', toks := tk })) E s₁
/-- the value's claim and that nothing old was changed -/
def EPost (G : Value → Prop) (s₂ : Shared) (y : Value) (s₃ : Shared) : Prop := G y ∧ Keeps s₂ s₃
theorem EPost.mk' {G : Value → Prop} {s₂ : Shared} {y : Value} {h' : Heap} {tk : Nat} (hg : G y) (hk : ∀ b o, s₂.heap.get? b = some o → h'.get? b = some o) : EPost G s₂ y { s₂ with heap := h', toks := tk } := ⟨hg, h', tk, rfl, hk⟩

theorem quiet_of {P : Nat → Value → Prop} {p : Value → Bool} {s : Shared} {ito : Obj} {FF : Value → Value → Prop}
    (g1 : ∀ C i v s₂ m₂ E', P i v → s₂.heap.Ns C m₂ → m₂ x = some v → (∀ b o, s.heap.get? b = some o → s₂.heap.get? b = some o) → CTest prog w A ifs (compEnvC scope cl C env) (p v) E' s₂)
    (g2 : ∀ C i v s₂ m₂ E', P i v → p v = true → s₂.heap.Ns C m₂ → m₂ x = some v → (∀ b o, s.heap.get? b = some o → s₂.heap.get? b = some o) → wpAny (model prog w) A (eval elt (compEnvC scope cl C env)) (EPost (FF v) s₂) E' s₂) :
    QuietOnC prog w A env scope cl x ifs elt [s.heap.objs.size] P p FF { s with heap := s.heap.push ito } where
  tests := fun C i v s₃ m₃ E' _ hP hn hm hk _ => g1 C i v s₃ m₃ E' hP hn hm fun b o e => hk b o (not_iter_of_old e) (Heap.get?_push_of_some _ e)
  elt := fun C i v s₃ m₃ E' _ hP hp hn hm hk _ => g2 C i v s₃ m₃ E' hP hp hn hm fun b o e => hk b o (not_iter_of_old e) (Heap.get?_push_of_some _ e)

theorem comp_src {L : Addr} {xv : Value} {n : Nat} {P : Nat → Value → Prop} {p : Value → Bool} {FF : Value → Value → Prop} {Q : Value → Shared → Prop} (S : SrcOk prog w A s xv n P) (hn : n ≤ 1000) (F : Fr h₀ L s.heap m) (N : News h₀ L s.heap news)
    (g1 : ∀ C i v s₂ m₂ E', P i v → s₂.heap.Ns C m₂ → m₂ x = some v → (∀ b o, s.heap.get? b = some o → s₂.heap.get? b = some o) → CTest prog w A ifs (compEnvC scope cl C env) (p v) E' s₂)
    (g2 : ∀ C i v s₂ m₂ E', P i v → p v = true → s₂.heap.Ns C m₂ → m₂ x = some v → (∀ b o, s.heap.get? b = some o → s₂.heap.get? b = some o) → wpAny (model prog w) A (eval elt (compEnvC scope cl C env)) (EPost (FF v) s₂) E' s₂)
    (g3 : ∀ D (ys vs : List Value) n' h' tk, Fr h₀ L h' m → News h₀ L h' ((D, listOf ys.toArray n') :: news) → Off D news → vs.length = n → (∀ j v, vs[j]? = some v → P j v) → Paired FF (vs.filter p) ys → Q (.ref D) { s with heap := h', toks := tk }) :
    CPost prog w A env scope cl x ifs elt p FF E Q xv s := by
  refine S _ _ fun ito fp St W hst hfp => ?_
  refine ⟨_, fp, _, n, P, St, rfl, W, Nat.le_trans hn (by decide), hst, hfp, quiet_of g1 g2, ?_⟩
  intro D h' tk ys vs hnew hlD hplD hlen hP hF hk
  have hk' : ∀ b o, s.heap.get? b = some o → h'.get? b = some o := fun b o e => hk b o (not_iter_of_old e) (Heap.get?_push_of_some _ e)
  have hD : s.heap.get? D = none := by
    cases e : s.heap.get? D with
    | none => rfl
    | some o' => rw [Heap.get?_push_of_some _ e] at hnew; cases hnew
  obtain ⟨n', hn'⟩ := hplD
  refine g3 D ys.toList vs n' h' tk (F.keeps hk') (fun q hq => ?_) (fun q hq e => ?_) hlen hP hF
  · rcases List.mem_cons.mp hq with rfl | hq
    · refine ⟨by rw [Array.toArray_toList]; exact hn', ?_, ?_⟩
      · rintro rfl
        obtain ⟨o, _, _, ho, _⟩ := F.ns
        rw [hD] at ho; cases ho
      · cases e : h₀.get? D with
        | none => rfl
        | some o => rw [F.keep _ _ e] at hD; cases hD
    · exact ⟨hk' _ _ (N q hq).1, (N q hq).2⟩
  · rw [← e, (N q hq).1] at hD; cases hD

theorem compA_src {xv : Value} {n : Nat} {P : Nat → Value → Prop} {p : Value → Bool} {FF : Value → Value → Prop} {Q : Flow → Shared → Prop} (S : SrcOk prog w A s xv n P) (hn : n ≤ 1000) (F : Fr h₀ env.locals s.heap m) (N : News h₀ env.locals s.heap news)
    (g1 : ∀ C i v s₂ m₂ E', P i v → s₂.heap.Ns C m₂ → m₂ x = some v → (∀ b o, s.heap.get? b = some o → s₂.heap.get? b = some o) → CTest prog w A ifs (compEnvC scope cl C env) (p v) E' s₂)
    (g2 : ∀ C i v s₂ m₂ E', P i v → p v = true → s₂.heap.Ns C m₂ → m₂ x = some v → (∀ b o, s.heap.get? b = some o → s₂.heap.get? b = some o) → wpAny (model prog w) A (eval elt (compEnvC scope cl C env)) (EPost (FF v) s₂) E' s₂)
    (g3 : ∀ D (ys vs : List Value) n' h' tk, Fr h₀ env.locals h' (fun q => if q = z then some (.ref D) else m q) → News h₀ env.locals h' ((D, listOf ys.toArray n') :: news) → Off D news → vs.length = n → (∀ j v, vs[j]? = some v → P j v) → Paired FF (vs.filter p) ys → Q .next { s with heap := h', toks := tk }) :
    CPostA prog w A env scope cl x z ifs elt p FF E Q xv s := by
  refine S _ _ fun ito fp St W hst hfp => ?_
  refine ⟨_, fp, _, n, P, St, m, rfl, W, Nat.le_trans hn (by decide), hst, hfp, ?_, (F.push _).ns, quiet_of g1 g2, ?_⟩
  · intro hm'
    exact absurd F.ns.lt ((List.mem_singleton.mp hm') ▸ Nat.lt_irrefl _)
  intro D h' tk ys vs hnew hlD hplD hlen hP hF hns hk
  have hk' : ∀ b o, b ≠ env.locals → s.heap.get? b = some o → h'.get? b = some o := fun b o hb e => hk b o hb (not_iter_of_old e) (Heap.get?_push_of_some _ e)
  have hD : s.heap.get? D = none := by
    cases e : s.heap.get? D with
    | none => rfl
    | some o' => rw [Heap.get?_push_of_some _ e] at hnew; cases hnew
  obtain ⟨n', hn'⟩ := hplD
  have hDL : D ≠ env.locals := by
    rintro rfl
    obtain ⟨o, _, _, ho, _⟩ := F.ns
    rw [hD] at ho; cases ho
  refine g3 D ys.toList vs n' h' tk ⟨hns, fun b o e => hk' b o (fun q => by
      have := F.above
      rw [q] at e
      exact absurd (Heap.lt_size e) (Nat.not_lt.mpr this)) (F.keep b o e), F.above⟩ (fun q hq => ?_) (fun q hq e => ?_) hlen hP hF
  · rcases List.mem_cons.mp hq with rfl | hq
    · refine ⟨by rw [Array.toArray_toList]; exact hn', hDL, ?_⟩
      cases e : h₀.get? D with
      | none => rfl
      | some o => rw [F.keep _ _ e] at hD; cases hD
    · exact ⟨hk' _ _ (N q hq).2.1 (N q hq).1, (N q hq).2⟩
  · rw [← e, (N q hq).1] at hD; cases hD

theorem comp_eval {px : Pos} {pos : Pos} {Q : Value → Shared → Prop} (p : Value → Bool) (FF : Value → Value → Prop)
    (hclos : closureFor scope env = pure cl) (hcell : ∀ y ∈ scope.names, y.2 ≠ .cell) (hkind : scope.kind = .function)
    (hnames : ∀ y ∈ scope.names, y.2 = .local → scope.names.lookup y.1 = some .local) (hx : scope.names.lookup x = some .local) (hs : ∀ x, foldedSetIterable iter env x = pure x)
    (h : wpAny (model prog w) A (eval iter env) (CPost prog w A env scope cl x ifs elt p FF E Q) E s) :
    wpAny (model prog w) A (eval (.ListComp elt [⟨.Name x px, iter, ifs, 0⟩] scope pos) env) Q E s :=
  wpAny_ListComp_free p FF hclos hcell hkind hnames hx h hs
theorem comp_assign {y : Str} {px py : Pos} {pos spos : Pos} {Q : Flow → Shared → Prop} (p : Value → Bool) (FF : Value → Value → Prop)
    (hsw : swapsWith (.ListComp elt [⟨.Name x px, iter, ifs, 0⟩] scope pos) (some (.Name y py)) spos.line env = pure true)
    (hclos : closureFor scope env = pure cl) (hcell : ∀ z ∈ scope.names, z.2 ≠ .cell) (hkind : scope.kind = .function)
    (hnames : ∀ z ∈ scope.names, z.2 = .local → scope.names.lookup z.1 = some .local) (hx : scope.names.lookup x = some .local)
    (hy : env.kindOf y = some .local) (hp : (env.scope.kind == .class || (env.scope.kind == .module && env.locals != env.globals)) = false) (hs : ∀ x, foldedSetIterable iter env x = pure x)
    (h : wpAny (model prog w) A (eval iter env) (CPostA prog w A env scope cl x y ifs elt p FF E Q) E s) :
    wpAny (model prog w) A (exec (.Assign [.Name y py] (.ListComp elt [⟨.Name x px, iter, ifs, 0⟩] scope pos) spos) env) Q E s :=
  wpAny_Assign_ListComp_free p FF hsw hclos hcell hkind hnames hx hy hp h hs
end

section
variable {M : Model} {A : Around} {E : Value → Shared → Prop} {s : Shared} {h₀ : Heap} {L : Addr} {m mg mb : Str → Option Value} {news : Led} {K : Frag} {p : Program} {loose : List Str} {cenv : Env} {x : Str} {pos : Pos} {v : Value} {Q : Value → Shared → Prop}
theorem ccell {c : Addr} {o : Obj} (N : News h₀ L s.heap news) (hc : cenv.cells.lookup x = some c) (hm : (c, o) ∈ news) (hd : o.data = .cell (some v)) (hk : cenv.scope.kind = .function) (hx : cenv.kindOf x = some .cell) (hb : (x == ("__debug__" : Str)) = false) (h : Q v s) :
    wpAny M A (eval (.Name x pos) cenv) Q E s := wpAny_Name (wpAny_loadName_cell hk hx hc ⟨o, N.get hm, hd⟩ h) hb
theorem cglob (F : Fr h₀ L s.heap m) (X : K.In h₀) (T : TopRead p loose mg mb h₀) (e : nsIn K mainGlobals x = some (some v)) (hg : cenv.globals = mainGlobals) (hk : cenv.scope.kind = .function) (hx : cenv.kindOf x = some .globalImplicit) (hd : (x == ("__debug__" : Str)) = false) (h : Q v s) :
    wpAny M A (eval (.Name x pos) cenv) Q E s := nameG_K F X T e h hg hk hx hd
theorem cbuilt (F : Fr h₀ L s.heap m) (X : K.In h₀) (T : TopRead p loose mg mb h₀) (e : nsIn K mainGlobals x = some none) (hv : bootBuiltins x = some v) (hn : x ≠ "__name__") (hg : cenv.globals = mainGlobals) (hbn : cenv.builtins = builtinsNs) (hk : cenv.scope.kind = .function) (hx : cenv.kindOf x = some .globalImplicit) (hd : (x == ("__debug__" : Str)) = false) (h : Q v s) :
    wpAny M A (eval (.Name x pos) cenv) Q E s :=
  Name_function_global hk hx (loadGlobal_builtin (env := cenv) (by rw [hg]; exact T.g.keeps F.keep) (mg_none_of X T.g e) (by rw [hbn]; exact T.b.keeps F.keep) ((T.builtins x hn).trans hv) h) hd
end

theorem paired_strs {FF : Value → Value → Prop} {vs ys : List Value} (h : Paired FF vs ys) : ∀ {ss : List Str} {P : Nat → Value → Prop}, vs.length = ss.length → (∀ j v, vs[j]? = some v → P j v) → (∀ j v y, P j v → FF v y → ∃ t, y = .str (ss.getD j "") t) → StrsAre ys ss := by
  induction h with
  | nil => intro ss P hl _ _; cases ss with
    | nil => exact .nil
    | cons a r => simp at hl
  | cons e _ ih => intro ss P hl hP k; cases ss with
    | nil => simp at hl
    | cons a r =>
      obtain ⟨t, rfl⟩ := k 0 _ _ (hP 0 _ rfl) e
      exact .cons a t (ih (P := fun j v => P (j + 1) v) (by simpa using hl) (fun j v hj => hP (j + 1) v (by simpa using hj)) fun j v y hp hf => k (j + 1) v y hp hf)
theorem keeps_of {h h' h'' : Heap} (a : ∀ b o, h.get? b = some o → h'.get? b = some o) (b : ∀ b o, h'.get? b = some o → h''.get? b = some o) : ∀ b o, h.get? b = some o → h''.get? b = some o := fun x o e => b x o (a x o e)

theorem sub_natN {prog : Program} {w : World} {A : Around} {E : Value → Shared → Prop} {s : Shared} {a b : Nat} {t u : Tok} {Q : Value → Shared → Prop} (ha : b ≤ a) (h : ∀ t' tk, Q (.int ((a - b : Nat) : Int) t') { s with toks := tk }) :
    wpAny (model prog w) A (binaryOp .Sub (.int (a : Int) t) (.int (b : Int) u)) Q E s := by
  refine sub_int ?_
  rw [show ((a : Int) - (b : Int)) = ((a - b : Nat) : Int) by omega]
  exact h _ _

/-- the callable's keeper is found -/
def KeepOk (f : Value) (h : Heap) : Prop := ∀ M : Model, ∃ k, (k = Keeper.frame ∨ k = Keeper.machine ∨ k = Keeper.boundFrame) ∧ Looks M h (keeperOf f) k
section
variable {M : Model} {A : Around} {E : Value → Shared → Prop} {s : Shared} {env : Env} {pos : Pos} {f : Value} {Q : Value → Shared → Prop}
theorem callWith_1 {e : PySem.Expr} {rest : List PySem.Expr} (he : starEach (e :: rest) env = (false, eval e env) :: starEach rest env) (hplain : (backTo pos (starEach rest env)).any (·.1) = false)
    (h : wpAny M A (spliced (backTo pos (starEach (e :: rest) env))) (fun vs s₁ => KeepOk f s₁.heap ∧ wpAny M A (call f vs) Q E s₁) E s) :
    wpAny M A (callWith pos f [] (backTo pos (starEach (e :: rest) env)) []) Q E s := by
  rw [he] at h ⊢
  exact callWith_of (P := KeepOk f) (by show ((false || (backTo pos (starEach rest env)).any (·.1)) || false) = false; rw [hplain]; rfl) (fun h k => k M) (evalArgs_plain h)
theorem callWith_0 (hk : KeepOk f s.heap) (h : wpAny M A (call f []) Q E s) : wpAny M A (callWith pos f [] (backTo pos (starEach [] env)) []) Q E s :=
  callWith_of (P := KeepOk f) rfl (fun h k => k M) (evalArgs_nil3 ⟨hk, h⟩)
end
theorem Off.of_lt {d : Addr} {l : Led} (h : ∀ p ∈ l, p.1 < d) : Off d l := fun p hp => Nat.ne_of_lt (h p hp)
/-- a fresh list: above all cells, above the frame -/
theorem newList_N {M : Model} {A : Around} {E : Value → Shared → Prop} {s : Shared} {h₀ : Heap} {L : Addr} {m : Str → Option Value} {news : Led} {vs : List Value} {Q : Value → Shared → Prop} (F : Fr h₀ L s.heap m) (N : News h₀ L s.heap news) (hl : vs.length ≤ 1000)
    (h : ∀ D h', Fr h₀ L h' m → News h₀ L h' ((D, listOf vs.toArray 0) :: news) → (∀ p ∈ news, p.1 < D) → L < D → Q (.ref D) { s with heap := h' }) : wpAny M A (newList vs) Q E s :=
  PyProof.Rows.newList_N F N (fun h' F' N' => h _ h' F' N' (fun p hp => Heap.lt_size (N p hp).1) F.ns.lt) (Nat.le_trans hl (by decide))
theorem app_N {prog : Program} {w : World} {A : Around} {E : Value → Shared → Prop} {s : Shared} {h₀ : Heap} {L D : Addr} {m : Str → Option Value} {news news' : Led} {vs : List Value} {n : Nat} {y : Value} {Q : Value → Shared → Prop} (F : Fr h₀ L s.heap m) (N : News h₀ L s.heap news) (hl : vs.length ≤ 1000)
    (U : Upd D (listOf vs.toArray n) (listOf (vs ++ [y]).toArray (n + 1)) news news') (h : ∀ h', Fr h₀ L h' m → News h₀ L h' news' → Q .none { s with heap := h' }) :
    wpAny (model prog w) A (call (.builtin "list.append") [.ref D, y]) Q E s := by
  refine append_K (its := vs.toArray) F N (by simpa using U) h ?_
  simp; exact Nat.le_trans hl (by decide)

theorem off_after {d : Addr} {o : Obj} {tl tl' news : Led} (hn : ∀ q ∈ tl', q.1 ∈ tl.map (·.1) ∨ ∀ x ∈ news, x.1 ≠ q.1) (h : Off d tl) (hm : (d, o) ∈ news) : Off d tl' := by
  intro q hq e
  rcases hn q hq with k | k
  · obtain ⟨x, hx, ex⟩ := List.mem_map.mp k
    exact h x hx (ex.trans e)
  · exact k _ hm e.symm
theorem Off.app {d : Addr} {a b : Led} (h : Off d a) (k : Off d b) : Off d (a ++ b) := fun p hp => (List.mem_append.mp hp).elim (h p) (k p)
theorem Off.left {d : Addr} {a b : Led} (h : Off d (a ++ b)) : Off d a := fun p hp => h p (List.mem_append_left _ hp)
theorem Off.right {d : Addr} {a b : Led} (h : Off d (a ++ b)) : Off d b := fun p hp => h p (List.mem_append_right _ hp)
theorem Off.cons' {d a : Addr} {o : Obj} {l : Led} (h : a ≠ d) (k : Off d l) : Off d ((a, o) :: l) := fun p hp => by
  rcases List.mem_cons.mp hp with rfl | hp
  · exact h
  · exact k p hp
theorem Off.tail' {d : Addr} {p : Addr × Obj} {l : Led} (h : Off d (p :: l)) : Off d l := fun q hq => h q (.tail _ hq)
theorem subL_of : ∀ {l all : Led}, (∀ p ∈ l, p ∈ all) → SubL l all
  | [], _, _ => trivial
  | _ :: _, _, h => ⟨h _ (.head _), subL_of fun p hp => h p (.tail _ hp)⟩

theorem len_snoc {ss : List Str} {n : Nat} {x : Str} (h : ∀ s ∈ ss, s.length ≤ n) (hx : x.length ≤ n) : ∀ s ∈ ss ++ [x], s.length ≤ n := by
  intro s hs
  rcases List.mem_append.mp hs with hs | hs
  · exact h s hs
  · rw [List.mem_singleton.mp hs]; exact hx
theorem strs_snoc {vs : List Value} {ss : List Str} (h : StrsAre vs ss) (x : Str) (t : Tok) : StrsAre (vs ++ [.str x t]) (ss ++ [x]) := strs_app h (.cons x t .nil)
end Mine
end

noncomputable section
open PySem PySem.W PyProof.Rows
set_option Elab.async false
namespace Mine
open PySem PySem.W PyProof.Rows PySem.Calls PySem.Spec
theorem slot_cit_next : Slot "callable_iterator" "__next__" "callable_iterator.__next__" :=
  .of (owner := "callable_iterator") (n := "__next__") (by rw [typeLookup_type, builtinLookup_eq_fast]; kernel_rfl) (by decide +kernel) (by decide +kernel) (by decide +kernel)
    (by first | exact .inl (by decide +kernel) | exact .inr (by decide +kernel)) (by rw [isSubtype_type]; kernel_rfl)
theorem slot_cit_iter : Slot "callable_iterator" "__iter__" "callable_iterator.__iter__" :=
  .of (owner := "callable_iterator") (n := "__iter__") (by rw [typeLookup_type, builtinLookup_eq_fast]; kernel_rfl) (by decide +kernel) (by decide +kernel) (by decide +kernel)
    (by first | exact .inl (by decide +kernel) | exact .inr (by decide +kernel)) (by rw [isSubtype_type]; kernel_rfl)
theorem entry_cit_next : entryFor table "callable_iterator.__next__" = some Builtin.«callable_iterator.__next__» := entryFor_of_tree (by kernel_rfl)
theorem entry_cit_iter : entryFor table "callable_iterator.__iter__" = some Builtin.«dict_keyiterator.__iter__» :=
  entryFor_alias (id' := "dict_keyiterator.__iter__") (by kernel_rfl) rfl (by decide +kernel) (by kernel_rfl)
theorem args_cit_next (a : Value) : argsOk "callable_iterator.__next__" ⟨[a], []⟩ := by unfold argsOk; kernel_rfl
theorem args_cit_iter (a : Value) : argsOk "callable_iterator.__iter__" ⟨[a], []⟩ := by unfold argsOk; kernel_rfl
theorem entry_iter' : entryFor table "iter" = some Builtin.«iter» := entryFor_of_tree (by kernel_rfl)
abbrev citObj (mo : Addr) (t : Tok) : Obj := { cls := .type "callable_iterator", data := .fields #[.ref mo, .str "" t, .bool false] }
abbrev citEnd : Obj := { cls := .type "callable_iterator", data := .fields #[.none, .none, .bool true] }

theorem callBorrowed_eq (f : Value) (pos : List Value) : callBorrowed f pos = (call f pos).keep [borrowed] := by
  show Sem.call _ _ _ _ _ = Sem.call _ _ _ _ _
  congr 1
  funext r
  cases r with
  | error e => rfl
  | ok fl => cases fl <;> rfl

section
variable {prog : Program} {w : World} {A : Around} {E : Value → Shared → Prop} {s : Shared}
theorem borrows_meth {mo f : Addr} {self : Value} {fo : Obj} {fd : FuncData} {Q : Bool → Shared → Prop} (hm : s.heap.get? mo = some (methodObj (.ref f) self)) (hf : s.heap.get? f = some fo) (hd : fo.data = .func fd) (h : Q true s) :
    wpAny (model prog w) A (borrowsExactly (.ref mo)) Q E s := by
  unfold borrowsExactly
  refine wpAny_bind (wpAny_load hm ?_)
  show wpAny _ _ (load f >>= _) _ _ _
  refine wpAny_bind (wpAny_load hf ?_)
  rw [hd]
  exact wpAny_pure h

theorem cit_self {ci mo : Addr} {t : Tok} {Q : Value → Shared → Prop} (hc : s.heap.get? ci = some (citObj mo t)) (h : Q (.ref ci) s) : wpAny (model prog w) A (pyIter (.ref ci)) Q E s := by
  have hT : s.TypeIs (.ref ci) "callable_iterator" := ⟨_, hc, rfl⟩
  refine wpAny_pyIter_slot hT slot_cit_iter (wpAny_call_entry slot_cit_iter hT entry_cit_iter ?_ (args_cit_iter _))
  show wpAny _ _ (ret (.ref ci)) _ _ s
  exact wpAny_pure ⟨_, rfl, "callable_iterator", _, hT, slot_cit_next.lookup, h⟩
theorem cit_self_end {ci : Addr} {Q : Value → Shared → Prop} (hc : s.heap.get? ci = some citEnd) (h : Q (.ref ci) s) : wpAny (model prog w) A (pyIter (.ref ci)) Q E s := by
  have hT : s.TypeIs (.ref ci) "callable_iterator" := ⟨_, hc, rfl⟩
  refine wpAny_pyIter_slot hT slot_cit_iter (wpAny_call_entry slot_cit_iter hT entry_cit_iter ?_ (args_cit_iter _))
  show wpAny _ _ (ret (.ref ci)) _ _ s
  exact wpAny_pure ⟨_, rfl, "callable_iterator", _, hT, slot_cit_next.lookup, h⟩

theorem stop_it {α : Type} {Q : α → Shared → Prop} {E : Value → Shared → Prop} (hh : A.handled = none) (h : ∀ h' e, (∀ b o, s.heap.get? b = some o → h'.get? b = some o) → (∃ oe, h'.get? e = some oe ∧ oe.cls = .type "StopIteration") → E (.ref e) { s with heap := h' }) :
    wpAny (model prog w) A (Builtin.SmallTypes.stopIteration : Sem α) Q E s := by
  unfold Builtin.SmallTypes.stopIteration
  refine wpAny_bind ?_
  simp only [newExc, newTuple]
  refine wpAny_bind (wpAny_newObj_type ?_ (by size_fits))
  refine wpAny_bind (m := firstArgMember _ _) (wpAny_of_eq (a := Value.none) (by first | rfl | (simp only [firstArgMember]; rfl)) ?_)
  refine wpAny_newObj_type ?_ (by size_fits)
  simp only [raiseNew]
  refine wpAny_bind (wpAny_handled ?_)
  rw [hh]
  refine wpAny_bind (wpAny_pure (wpAny_throw ?_))
  exact h _ _ (fun b o e => Heap.get?_push_of_some _ (Heap.get?_push_of_some _ e)) ⟨_, Heap.get?_push_size _ rfl, rfl⟩

theorem cit_next_end {ci : Addr} {Q : Option Value → Shared → Prop} (hh : A.handled = none) (hc : s.heap.get? ci = some citEnd)
    (h : ∀ h', (∀ b o, s.heap.get? b = some o → h'.get? b = some o) → Q none { s with heap := h' }) : wpAny (model prog w) A (pyNext (.ref ci)) Q E s := by
  have hT : s.TypeIs (.ref ci) "callable_iterator" := ⟨_, hc, rfl⟩
  unfold pyNext
  refine wpAny_bind (wpAny_attempt (wpAny_callSpecial?_slot (name := Str.ofString "__next__") hT slot_cit_next (wpAny_call_entry slot_cit_next hT entry_cit_next ?_ (args_cit_next _))))
  show wpAny _ _ (field (.ref ci) 2 >>= _) _ _ s
  refine wpAny_bind (wpAny_field hc rfl (x := .bool true) rfl ?_)
  show wpAny _ _ (if (Value.bool true == Value.bool true) = true then _ else _) _ _ s
  rw [if_pos (by decide)]
  refine wpAny_bind (wpAny_rule (wpAny_bind (stop_it (by first | exact hh | rw [show A.in1.handled = none from hh]) fun h' e hk he => ?_)))
  refine wpAny_bind (wpAny_isInstance (T := "StopIteration") (b := true) he isSubtype_stop ?_)
  exact wpAny_pure (h h' hk)

theorem cit_next {ci mo f : Addr} {self : Value} {t : Tok} {fo : Obj} {fd : FuncData} {Q : Option Value → Shared → Prop} (hh : A.handled = none) (hc : s.heap.get? ci = some (citObj mo t)) (hm : s.heap.get? mo = some (methodObj (.ref f) self)) (hf : s.heap.get? f = some fo) (hd : fo.data = .func fd)
    (hcall : wpAny (model prog w) A.in1 (call (.ref mo) []) (fun r s' => ∃ x u, r = .str x u ∧ s'.heap.get? ci = some (citObj mo t) ∧ s'.heap.get? mo = some (methodObj (.ref f) self) ∧ s'.heap.get? f = some fo ∧
      (x ≠ "" → Q (some (.str x u)) s') ∧ (x = "" → ∀ h', (∀ b o, b ≠ ci → s'.heap.get? b = some o → h'.get? b = some o) → h'.get? ci = some citEnd → Q none { s' with heap := h' })) (fun _ _ => False) s) :
    wpAny (model prog w) A (pyNext (.ref ci)) Q E s := by
  have hT : s.TypeIs (.ref ci) "callable_iterator" := ⟨_, hc, rfl⟩
  unfold pyNext
  refine wpAny_bind (wpAny_attempt (wpAny_callSpecial?_slot (name := Str.ofString "__next__") hT slot_cit_next (wpAny_call_entry slot_cit_next hT entry_cit_next ?_ (args_cit_next _))))
  show wpAny _ _ (field (.ref ci) 2 >>= _) _ _ s
  refine wpAny_bind (wpAny_field hc rfl (x := .bool false) rfl ?_)
  show wpAny _ _ (if (Value.bool false == Value.bool true) = true then _ else _) _ _ s
  rw [if_neg (by decide)]
  refine wpAny_bind (wpAny_field hc rfl (x := .ref mo) rfl ?_)
  refine wpAny_bind (wpAny_attempt ?_)
  unfold callOutOfASlot
  refine wpAny_bind (borrows_meth hm hf hd ?_)
  rw [if_pos rfl, callBorrowed_eq]
  refine Calls.wpAny_keep ?_
  refine wpAny_mono hcall ?_ (fun _ _ h => h.elim)
  rintro r s' ⟨x, u, rfl, hc', hm', hf', hgo, hend⟩
  show wpAny _ _ (field (.ref ci) 2 >>= _) _ _ s'
  refine wpAny_bind (wpAny_field hc' rfl (x := .bool false) rfl ?_)
  show wpAny _ _ (if (Value.bool false == Value.bool true) = true then _ else _) _ _ s'
  rw [if_neg (by decide)]
  refine wpAny_bind (wpAny_field hc' rfl (x := .str "" t) rfl ?_)
  refine wpAny_bind ?_
  show wpAny _ _ (eqBool (.str "" t) (.str x u)) _ _ s'
  refine eqBool_str ?_
  by_cases hx : x = ""
  · have e1 : ((("" : Str) == x) : Bool) = true := by rw [hx]; exact beq_self_eq_true _
    simp only [e1]
    rw [if_neg (by decide)]
    refine wpAny_bind (wpAny_rule (wpAny_bind ?_))
    show wpAny _ _ (field (.ref ci) 0 >>= _) _ _ s'
    refine wpAny_bind (wpAny_field hc' rfl (x := .ref mo) rfl (wpAny_bind ?_))
    unfold slotLetsGo
    refine wpAny_bind (borrows_meth hm' hf' hd ?_)
    rw [if_pos rfl]
    refine wpAny_pure ?_
    refine wpAny_bind (wpAny_setField_rec hc' (by simp) fun h1 g1 k1 => ?_)
    refine wpAny_bind (wpAny_setField_rec g1 (by simp) fun h2 g2 k2 => ?_)
    refine wpAny_setField_rec g2 (by simp) fun h3 g3 k3 => ?_
    refine stop_it (by first | exact hh | rw [show A.in1.handled = none from hh]) fun h' e hk he => ?_
    refine wpAny_bind (wpAny_isInstance (T := "StopIteration") (b := true) he isSubtype_stop ?_)
    refine wpAny_pure (hend hx h' ?_ (hk _ _ g3))
    intro b o hb hg
    exact hk _ _ (((k3.2 b hb).trans ((k2.2 b hb).trans (k1.2 b hb))).trans hg)
  · have e1 : ((("" : Str) == x) : Bool) = false := by exact beq_eq_false_iff_ne.2 (fun e => hx e.symm)
    simp only [e1]
    rw [if_pos (by decide)]
    exact wpAny_pure ⟨_, rfl, wpAny_pure (hgo hx)⟩
end
end Mine
end

noncomputable section
open PySem PySem.W PyProof.Rows
set_option Elab.async false
set_option maxHeartbeats 2000000
set_option maxRecDepth 100000
namespace Mine
open PySem PySem.W PyProof.Rows PySem.Calls PySem.Spec Builtin Builtin.ObjectAttr
theorem slot_fn_set : Slot "function" "__setattr__" "object.__setattr__" :=
  .of (owner := "object") (n := "__setattr__") (by rw [typeLookup_type, builtinLookup_eq_fast]; kernel_rfl) (by decide +kernel) (by decide +kernel) (by decide +kernel)
    (by first | exact .inl (by decide +kernel) | exact .inr (by decide +kernel)) (by rw [isSubtype_type]; kernel_rfl)
theorem entry_obj_set : entryFor table "object.__setattr__" = some Builtin.«object.__setattr__» := entryFor_of_tree (by kernel_rfl)
theorem args_obj_set (a b c : Value) : argsOk "object.__setattr__" ⟨[a, b, c], []⟩ := by unfold argsOk; kernel_rfl
theorem look_fn_read : typeLookup (.type "function") "read" = pure none := by rw [typeLookup_type, builtinLookup_eq_fast]; kernel_rfl
abbrev fnOb (fd : FuncData) (d : Option Addr) : Obj := ⟨.type "function", d, .func fd, #[]⟩
section
variable {prog : Program} {w : World} {A : Around} {E : Value → Shared → Prop} {s : Shared} {h₀ : Heap} {L : Addr} {m : Str → Option Value}
theorem own_tells (f : Addr) : ownStreamTells (.ref f) (.type "function") = pure () := rfl
theorem setFn {f : Addr} {fd : FuncData} {v : Value} {rest : Led} {Q : Unit → Shared → Prop} (F : Fr h₀ L s.heap m) (N : News h₀ L s.heap ((f, fnOb fd none) :: rest)) (hf : Off f rest)
    (h : ∀ D k h' tk', Fr h₀ L h' m → News h₀ L h' ((D, dictOf [⟨PyData.keyHash w.params "read", .str "read" k, v⟩] 1) :: (f, fnOb fd (some D)) :: rest) → (∀ p ∈ (f, fnOb fd none) :: rest, p.1 < D) → L < D → Q () { s with heap := h', toks := tk' }) :
    wpAny (model prog w) A (setAttr (.ref f) "read" v) Q E s := by
  have hc : s.heap.get? f = some (fnOb fd none) := (N _ (.head _)).1
  have hT : s.TypeIs (.ref f) "function" := ⟨_, hc, rfl⟩
  unfold setAttr
  refine wpAny_bind (wpAny_mkText ?_)
  refine wpAny_bind (wpAny_callSpecial?_slot (name := Str.ofString "__setattr__") (hT.toks _) slot_fn_set (wpAny_call_entry slot_fn_set (hT.toks _) entry_obj_set ?_ (args_obj_set _ _ _)))
  show wpAny _ _ (Builtin.«object.__setattr__» _) _ _ _
  unfold Builtin.«object.__setattr__»
  repeat (first | rw [refuse_eq] | (with_reducible refine wpAny_loadPart_at hc ?_) | wp_step)
  dsimp only
  rw [look_fn_read]
  refine wpAny_pure (wpAny_bind (wpAny_pure ?_))
  dsimp only
  unfold storeInOwnDict
  rw [own_tells]
  refine wpAny_bind (wpAny_pure ?_)
  dsimp only
  rw [if_neg (by decide)]
  have hD : (s.heap.push emptyDict).get? s.heap.objs.size = some emptyDict := Heap.get?_push_size _ rfl
  have F1 : Fr h₀ L (s.heap.push emptyDict) m := F.push _
  have N1 : News h₀ L (s.heap.push emptyDict) ((s.heap.objs.size, emptyDict) :: (f, fnOb fd none) :: rest) := N.push F _ rfl
  have hlt : ∀ p ∈ (f, fnOb fd none) :: rest, p.1 < s.heap.objs.size := fun p hp => Heap.lt_size (N p hp).1
  have hfs : s.heap.objs.size ≠ f := Nat.ne_of_gt (hlt _ (.head _))
  have hc1 : (s.heap.push emptyDict).get? f = some (fnOb fd none) := Heap.get?_push_of_some _ hc
  obtain ⟨F2, N2⟩ := news_upd (pre := [(s.heap.objs.size, emptyDict)]) (f := fun o => { o with dict := some s.heap.objs.size }) (o' := fnOb fd (some s.heap.objs.size)) F1 N1 (fun p hp => by rw [List.mem_singleton.mp hp]; exact hfs) hf rfl rfl
  obtain ⟨F3, N3⟩ := news_upd (pre := []) (f := Obj.putName "read" (PyData.keyHash w.params "read") (.str "read" (s.toks + 1)) v) (o' := dictOf [⟨PyData.keyHash w.params "read", .str "read" (s.toks + 1), v⟩] 1) F2 N2 (fun p hp => nomatch hp) (fun p hp => by
    rcases List.mem_cons.mp hp with rfl | hp
    · exact hfs.symm
    · exact Nat.ne_of_lt (hlt _ (.tail _ hp))) (putName_dict _ _ _ _ [] 0) rfl
  refine wpAny_bind ?_
  show wpAny _ _ (instanceDict f true) _ _ _
  unfold instanceDict
  refine wpAny_bind (wpAny_loadPart hc ?_)
  dsimp only
  rw [if_neg (by decide)]
  refine wpAny_bind (wpAny_alloc ?_)
  refine wpAny_bind (wpAny_update hc1 ?_)
  show wpAny _ _ (dictMade (.type "function") f s.heap.objs.size) _ _ _
  unfold dictMade
  dsimp only
  rw [if_neg (by decide +kernel)]
  refine wpAny_pure ?_
  dsimp only
  have D2 := (N2 _ (.head _)).1
  have D3 := (N3 _ (.head _)).1
  unfold storeInDict newKeyGuard
  refine wpAny_bind (wpAny_pure (wpAny_bind ?_))
  unfold nsSet
  refine wpAny_bind (wpAny_bind (wpAny_askSetting (wpAny_pure (wpAny_bind (wpAny_mkText (wpAny_bind (wpAny_loadPart D2 ?_)))))))
  dsimp only
  rw [if_neg (by decide)]
  refine wpAny_updatePart D2 ?_
  refine wpAny_bind (wpAny_lookBehind D3 (by exact pastItsLine_dict (by simp [sizeLine_eq])) ?_)
  exact wpAny_pure ⟨_, rfl, wpAny_pure (h _ _ _ _ F3 N3 hlt F.ns.lt)⟩
end
end Mine
end

noncomputable section
open PySem PySem.W PyProof.Rows
set_option Elab.async false
set_option maxHeartbeats 2000000
set_option maxRecDepth 100000
namespace Mine
open PySem PySem.W PyProof.Rows PySem.Calls PySem.Spec Builtin Builtin.ObjectAttr
theorem slot_fn_get : Slot "function" "__getattribute__" "object.__getattribute__" :=
  .of (owner := "object") (n := "__getattribute__") (by rw [typeLookup_type, builtinLookup_eq_fast]; kernel_rfl) (by decide +kernel) (by decide +kernel) (by decide +kernel)
    (by first | exact .inl (by decide +kernel) | exact .inr (by decide +kernel)) (by rw [isSubtype_type]; kernel_rfl)
theorem entry_obj_get : entryFor table "object.__getattribute__" = some Builtin.«object.__getattribute__» := entryFor_of_tree (by kernel_rfl)
theorem args_obj_get (a b : Value) : argsOk "object.__getattribute__" ⟨[a, b], []⟩ := by unfold argsOk; kernel_rfl
theorem look_fn_getattr : typeLookup (.type "function") "__getattr__" = pure none := by rw [typeLookup_type, builtinLookup_eq_fast]; kernel_rfl
section
variable {prog : Program} {w : World} {A : Around} {E : Value → Shared → Prop} {s : Shared}
theorem getFn {f D : Addr} {fd : FuncData} {r : Addr} {k : Tok} {hs : Int} {n : Nat} {ex : Bool} {Q : Value → Shared → Prop} (hc : s.heap.get? f = some (fnOb fd (some D))) (hd : s.heap.get? D = some (dictOf [⟨hs, .str "read" k, .ref r⟩] n))
    (h : ∀ tk', Q (.ref r) { s with toks := tk' }) :
    wpAny (model prog w) A (getAttr (.ref f) "read" ex) Q E s := by
  obtain ⟨hp, g, d, t, os⟩ := s
  have L0 : Looks (model prog w) hp (typeOf (.ref f)) (.type "function") := (Looks.ld hc).andThen .now
  have hT : Shared.TypeIs ⟨hp, g, d, t + 1, os⟩ (.ref f) "function" := ⟨_, hc, rfl⟩
  unfold getAttr getAttrBy
  refine wpAny_bind (wpAny_mkText (wpAny_holding (wpAny_bind (L0.at (wpAny_bind ?_)))))
  rw [slot_fn_get.lookup]
  refine wpAny_pure ?_
  show wpAny _ _ (getAttrByItsOwn (.ref f) (.str "read" t) (.type "function") (.builtin "object.__getattribute__") true ex) _ _ _
  unfold getAttrByItsOwn hookBefore callGetattribute boundAndCalled
  refine wpAny_bind (wpAny_pure (wpAny_bind (wpAny_attempt ?_)))
  rw [if_neg (by cases ex <;> decide)]
  refine wpAny_holding (wpAny_bind ?_)
  rw [slot_fn_get.bind]
  refine wpAny_pure ?_
  refine wpAny_call_entry slot_fn_get hT entry_obj_get ?_ (args_obj_get _ _)
  show wpAny _ _ (Builtin.«object.__getattribute__» _) _ _ _
  unfold Builtin.«object.__getattribute__»
  refine wpAny_bind (wpAny_pure (wpAny_bind (wpAny_pure (wpAny_bind (L0.at (wpAny_bind ?_))))))
  unfold find
  rw [look_fn_read]
  refine wpAny_bind (wpAny_pure (wpAny_bind (wpAny_pure (wpAny_bind (wpAny_pure ?_)))))
  dsimp only
  unfold ownThenClass inOwnDict ObjectAttr.ownDict loadHead instanceDict inDict
  refine wpAny_bind (wpAny_bind (wpAny_bind (wpAny_loadPart hc ?_)))
  dsimp only
  refine wpAny_bind (wpAny_loadPart hc ?_)
  dsimp only
  rw [if_neg (by decide)]
  refine wpAny_pure ?_
  dsimp only
  have LN : Looks (model prog w) hp (nsGet D "read") (some (.ref r)) := looks_nsIn (K := [(D, dictOf [⟨hs, .str "read" k, .ref r⟩] n)]) (fun a o e => by
    rw [List.lookup_cons] at e
    cases hb : a == D with
    | true => rw [hb] at e; cases e; rw [eq_of_beq hb]; exact hd
    | false => rw [hb] at e; cases e) (by
    unfold nsIn
    rw [List.lookup_cons, beq_self_eq_true]
    rfl)
  refine LN.at ?_
  dsimp only
  refine wpAny_bind (wpAny_rule (wpAny_pure ?_))
  dsimp only
  exact wpAny_pure ⟨_, rfl, wpAny_pure (h _)⟩
theorem methFn {f D : Addr} {fd : FuncData} {r : Addr} {k : Tok} {hs : Int} {n : Nat} {pl : Sem Bool} {Q : Value × List Value → Shared → Prop} (hc : s.heap.get? f = some (fnOb fd (some D))) (hd : s.heap.get? D = some (dictOf [⟨hs, .str "read" k, .ref r⟩] n))
    (h : ∀ tk', Q (.ref r, []) { s with toks := tk' }) :
    wpAny (model prog w) A (getMethod (.ref f) "read" pl) Q E s := by
  have hT : s.TypeIs (.ref f) "function" := ⟨_, hc, rfl⟩
  unfold getMethod
  refine wpAny_bind (wpAny_specialOf hT slot_fn_get.lookup ?_)
  dsimp only
  rw [if_neg (by decide +kernel)]
  refine wpAny_bind (wpAny_specialOf hT look_fn_getattr ?_)
  rw [if_neg (by decide)]
  refine wpAny_bind (wpAny_specialOf hT look_fn_read ?_)
  dsimp only
  exact wpAny_bind (getFn hc hd fun tk' => wpAny_pure (h tk'))
end
end Mine
end

noncomputable section
open PySem PySem.W PyProof.Rows
set_option Elab.async false
namespace Mine
open PySem PySem.W PyProof.Rows PySem.Calls PySem.Spec
theorem addr_ne {a b : Addr} : a ≠ b ↔ a < b ∨ b < a := Nat.ne_iff_lt_or_gt
theorem addr_ne' {a b : Addr} : (¬ a = b) ↔ a < b ∨ b < a := Nat.ne_iff_lt_or_gt
section
variable {P : Program} {w : World} {b₀ : Heap} {D U : Nat} {tl : Led} {Ret : Value → Led → Prop} {K : Frag} {p : Program} {loose : List Str} {mean : ExcName → Option Value} {mg mb : Str → Option Value}
  {name qual : Str} {params : Arguments} {body : List Stmt} {scope : Scope} {cl : List (Str × Addr)} {dV kV doc pm ct oc : Value} {an od : Option Addr} {osl : Array (Option Value)} {f c' : Addr} {occ : Obj} {vs : Array Value} {tq : Tok} {args : Args} {binds : List (Str × Value)}
theorem enterN (X : K.In b₀) (T : Top p loose mean mg mb b₀)
    (ho : (f, (⟨oc, od, .func (fnX name qual params body scope cl dV kV doc pm an (.ref c') ct), osl⟩ : Obj)) ∈ tl) (hc : (c', occ) ∈ tl) (hcd : occ.data = .fields vs) (hq : vs[1]? = some (.str qual tq))
    (hbind : ∀ s : Shared, BindsTo s (fnX name qual params body scope cl dV kV doc pm an (.ref c') ct) args binds) (hloc : ∀ y ∈ binds, scope.names.lookup y.1 = some .local)
    (h : ∀ dp un gd fr s g L' h₁, dp + D < recursionLimit → un + U < cLine → Fr g L' h₁ (fun y => binds.reverse.lookup y) → News g L' h₁ tl → Below (AR dp un gd fr) b₀ fr g → b₀.StaysIn g → K.In g → Top p loose mean mg mb g → (∀ q ∈ tl, q.1 < L') →
      wpAny (model P w) ((AR dp un gd fr).deeper (envX qual scope L' f (.ref c') cl)) (execs body (envX qual scope L' f (.ref c') cl))
        (fun fl s' => Done g Ret s (match fl with | .ret v => v | _ => .none) s') (fun _ _ => False) { s with heap := h₁, toks := s.toks + binds.length })
    (hD : 0 < D) (hcell : ∀ x ∈ scope.names, x.2 ≠ .cell) (hco : scope.isCoroutine = false) (hgen : scope.isGenerator = false) (hk : scope.kind = .function) :
    FS P w b₀ D U (.ref f) args tl Ret := by
  intro dp un gd fr s R M hd hu hR
  have st : b₀.StaysIn (hideAll s.heap (tl.map (·.1))) := fun b o e => hideAll_get _ (M.stays b o e) fun q => by
    obtain ⟨x, hx, rfl⟩ := List.mem_map.mp q
    rw [(M.cells x hx).2] at e; cases e
  have B : Below (AR dp un gd fr) b₀ fr (hideAll s.heap (tl.map (·.1))) := ⟨rfl, st, funFrames_hideAll M.frames fun env he a ha => by
    obtain ⟨x, hx, rfl⟩ := List.mem_map.mp ha
    exact M.off env he x hx⟩
  have XS : K.In s.heap := X.keeps M.stays
  refine codeAny_call_def (fd := fnX name qual params body scope cl dV kV doc pm an (.ref c') ct) (body := body) (binds := binds) (show dp < recursionLimit by omega) (M.cells _ ho).1 rfl (T.nolimit.keeps M.stays) ⟨c', occ, vs, tq, rfl, (M.cells _ hc).1, hcd, hq⟩ rfl (hbind s) hcell hloc (fun h₁ hns hk₁ => ?_) hco hgen hk
  refine wpAny_mono (h dp un gd fr s (hideAll s.heap (tl.map (·.1))) s.heap.objs.size h₁ hd hu ⟨hns, fun b o e => hk₁ b o (of_hideAll _ e), Nat.le_of_eq (hideAll_size _ _)⟩
    (fun q hq => ⟨hk₁ _ _ (M.cells q hq).1, Nat.ne_of_lt (Heap.lt_size (M.cells q hq).1), hideAll_none _ (List.mem_map_of_mem hq)⟩) B st (X.keeps fun b o e => st b o e) (T.keeps fun b o e => st b o e) (fun q hq => Heap.lt_size (M.cells q hq).1)) (fun fl s' hl => ?_) fun _ _ y => y.elim
  obtain ⟨L, m, tl', h', tk, rfl, F', N', r⟩ := hl
  refine hR _ tl' h' tk r (fun b o hb e => F'.keep b o (hideAll_get _ e hb)) fun q hq => ⟨(N' q hq).1, ?_, hidden_none (N' q hq).2.2⟩
  cases z : b₀.get? q.1 with
  | none => rfl
  | some o => have := (N' q hq).2.2; rw [st _ _ z] at this; cases this
theorem use_fsC {A : Around} {R : Result → Shared → Prop} {dp un : Nat} {gd : Option (List Code)} {env : Env} {outer : List Env} {A₀ : Around} {s : Shared} {h₀ : Heap} {L : Addr} {m : Str → Option Value} {news rest : Led} {f : Value} {pos : List Value} {kw : List (Str × Value)}
    (H : FS P w b₀ D U f ⟨pos, kw⟩ tl Ret) (B : Below A₀ b₀ outer h₀) (F : Fr h₀ L s.heap m) (N : News h₀ L s.heap news) (hA : A = AR dp un gd (env :: outer)) (hf : env.frame = some L) (hk : env.scope.kind = .function)
    (hd : dp + D < recursionLimit) (hu : un + U < cLine) (htl : ∀ q ∈ tl, q ∈ news) (hrest : ∀ q ∈ rest, q ∈ news ∧ ∀ x ∈ tl, x.1 ≠ q.1)
    (h : ∀ v tl' h' tk, Ret v tl' → Fr h₀ L h' m → News h₀ L h' (tl' ++ rest) → (∀ q ∈ tl', q.1 ∈ tl.map (·.1) ∨ ∀ x ∈ news, x.1 ≠ q.1) → R (.ok (.ret v)) { s with heap := h', toks := tk }) :
    codeAny (model P w) A (.call f ⟨pos, kw⟩) R s := by
  subst hA
  have B₁ := pushX B F hf hk
  refine H dp un gd (env :: outer) s _ ⟨B₁.frames, fun env' he q hq hf' => ?_, fun b o e => F.keep b o (B.stays b o e), fun q hq => ⟨(N q (htl q hq)).1, ?_⟩⟩ hd hu fun v tl' h' tk r k fresh => ?_
  · have nq := N q (htl q hq)
    cases he with
    | head => exact nq.2.1 (Option.some.inj (hf'.symm.trans hf))
    | tail _ he =>
      obtain ⟨L₁, o₁, hf₁, ho₁⟩ := funFrames_in B.frames env' he
      rw [hf₁] at hf'
      have e : L₁ = q.1 := Option.some.inj hf'
      have := nq.2.2; rw [← e, ho₁] at this; cases this
  · cases z : b₀.get? q.1 with
    | none => rfl
    | some o => have := (N q (htl q hq)).2.2; rw [B.stays _ _ z] at this; cases this
  · have old : ∀ b o, h₀.get? b = some o → h'.get? b = some o := fun b o e => k b o (fun q => by
      obtain ⟨x, hx, rfl⟩ := List.mem_map.mp q
      rw [(N x (htl x hx)).2.2] at e; cases e) (F.keep b o e)
    obtain ⟨oL, es, ep, hL, rL⟩ := F.ns
    have hL' : h'.get? L = some oL := k L oL (fun q => by
      obtain ⟨x, hx, e⟩ := List.mem_map.mp q
      exact (N x (htl x hx)).2.1 e) hL
    refine h v tl' h' tk r ⟨⟨oL, es, ep, hL', rL⟩, old, F.above⟩ (fun q hq => ?_) fun q hq => ((fresh q hq).2.2).imp id fun hno x hx e => ?_
    · rcases List.mem_append.mp hq with hq | hq
      · have fq := fresh q hq
        rcases fq.2.2 with hin | hno
        · obtain ⟨x, hx, e⟩ := List.mem_map.mp hin
          have nx := N x (htl x hx)
          exact ⟨fq.1, e ▸ nx.2.1, e ▸ nx.2.2⟩
        · refine ⟨fq.1, fun e => ?_, ?_⟩
          · rw [e, hL] at hno; cases hno
          · cases z : h₀.get? q.1 with
            | none => rfl
            | some o => rw [F.keep _ _ z] at hno; cases hno
      · have nq := N q (hrest q hq).1
        exact ⟨k _ _ (fun z => by
          obtain ⟨x, hx, e⟩ := List.mem_map.mp z
          exact (hrest q hq).2 x hx e) nq.1, nq.2⟩
    · rw [← e, (N x hx).1] at hno; cases hno
theorem use_fsP {A : Around} {R : Result → Shared → Prop} {dp un : Nat} {gd : Option (List Code)} {env : Env} {outer : List Env} {A₀ : Around} {s : Shared} {h₀ : Heap} {L : Addr} {m : Str → Option Value} {news rest : Led} {f : Value} {pos : List Value} {kw : List (Str × Value)}
    (H : FS P w b₀ D U f ⟨pos, kw⟩ tl Ret) (B : Below A₀ b₀ outer h₀) (F : Fr h₀ L s.heap m) (N : News h₀ L s.heap news) (hA : A = AR dp un gd (env :: outer)) (hf : env.frame = some L) (hk : env.scope.kind = .function)
    (hd : dp + D < recursionLimit) (hu : un + U < cLine) (hp : Picks tl news rest)
    (h : ∀ v tl' h' tk, Ret v tl' → Fr h₀ L h' m → News h₀ L h' (tl' ++ rest) → (∀ q ∈ tl', q.1 ∈ tl.map (·.1) ∨ ∀ x ∈ news, x.1 ≠ q.1) → R (.ok (.ret v)) { s with heap := h', toks := tk }) :
    codeAny (model P w) A (.call f ⟨pos, kw⟩) R s := use_fsC H B F N hA hf hk hd hu hp.mem.1 hp.mem.2 h
end
end Mine
end

noncomputable section
open PySem PySem.W PyProof.Rows
set_option Elab.async false
set_option maxHeartbeats 1000000
namespace Mine
open PySem PySem.W PyProof.Rows PySem.Calls PySem.Spec
theorem look_meth_call : typeLookup (.type "method") "__call__" = pure (some (.builtin "method.__call__")) := by rw [typeLookup_type, builtinLookup_eq_fast]; kernel_rfl
theorem args_iter2 (a b : Value) : argsOk "iter" ⟨[a, b], []⟩ := by unfold argsOk; kernel_rfl
section
variable {prog : Program} {w : World} {A : Around} {E : Value → Shared → Prop} {s : Shared} {h₀ : Heap} {L : Addr} {m : Str → Option Value} {news : Led}
theorem iter_sent {mo : Addr} {f self : Value} {t : Tok} {Q : Value → Shared → Prop} (F : Fr h₀ L s.heap m) (N : News h₀ L s.heap news) (hm : (mo, methodObj f self) ∈ news)
    (h : ∀ ci h', Fr h₀ L h' m → News h₀ L h' ((ci, citObj mo t) :: news) → (∀ p ∈ news, p.1 < ci) → L < ci → Q (.ref ci) { s with heap := h' }) :
    wpAny (model prog w) A (call (.builtin "iter") [.ref mo, .str "" t]) Q E s := by
  have hT : s.TypeIs (.ref mo) "method" := ⟨_, N.get hm, rfl⟩
  refine call_function_entry (by decide +kernel) (by decide +kernel) entry_iter' (args_iter2 _ _) ?_
  unfold Builtin.«iter»
  refine wpAny_bind (wpAny_of_eq (a := [.ref mo, .str "" t]) rfl ?_)
  dsimp only
  refine wpAny_bind (wpAny_specialOf hT look_meth_call ?_)
  rw [if_neg (by decide)]
  refine wpAny_bind (wpAny_rule (wpAny_bind ?_))
  show wpAny _ _ (newFields "callable_iterator" [.ref mo, .str "" t, .bool false]) _ _ _
  unfold newFields
  refine wpAny_newObj_type ?_ (by size_fits)
  exact wpAny_pure ⟨_, rfl, h _ _ (F.push _) (N.push F _ rfl) (fun p hp => Heap.lt_size (N p hp).1) F.ns.lt⟩
def FPost (I : Nat → Shared → Prop) (n : Nat) (Q : Flow → Shared → Prop) (f : Flow) (s : Shared) : Prop :=
  match f with
  | .next => ∃ k, k < n ∧ I k s
  | .cont => ∃ k, k < n ∧ I k s
  | .brk => Q .next s
  | .ret v => Q (.ret v) s
theorem FPost.nx {I : Nat → Shared → Prop} {n : Nat} {Q : Flow → Shared → Prop} {s : Shared} (k : Nat) (hk : k < n) (h : I k s) : FPost I n Q .next s := ⟨k, hk, h⟩
theorem FPost.cn {I : Nat → Shared → Prop} {n : Nat} {Q : Flow → Shared → Prop} {s : Shared} (k : Nat) (hk : k < n) (h : I k s) : FPost I n Q .cont s := ⟨k, hk, h⟩
theorem for_inv {env : Env} {v : Str} {px pos : Pos} {iter : PySem.Expr} {body : List Stmt} {Q : Flow → Shared → Prop} (I : Nat → Shared → Prop) (it : Value) (n : Nat) (hE : PassesOwn (model prog w) A env E) (hs : ∀ x, foldedSetIterable iter env x = pure x)
    (h : wpAny (model prog w) A (eval iter env) (fun xv s₁ => wpAny (model prog w) A (pyIter xv) (fun y s₂ => y = it ∧ I n s₂) E s₁) E s)
    (turn : ∀ n s, I n s → wpAny (model prog w) A (pyNext it) (fun r s₁ => match r with
      | none => Q .next s₁
      | some y => wpAny (model prog w) A (storeName env v y) (fun _ s₂ => wpAny (model prog w) A (execs body env) (FPost I n Q) E s₂) E s₁) E s)
    (ht : ∀ u, letOwnedTupleGo (.Name v px) it u = pure ()) :
    wpAny (model prog w) A (exec (.For (.Name v px) iter body [] pos) env) Q E s := by
  refine wpAny_For (wpAny_mono h (fun xv s₁ h₁ => wpAny_mono h₁ (fun y s₂ h₂ => ?_) fun _ _ z => z) fun _ _ z => z) hs
  obtain ⟨rfl, h₂⟩ := h₂
  refine codeAny_forLoop (R := fun r s' => match r with | .ok f => Q f s' | .error e => cameBackBy (model prog w) A env E e s') I ?_ n h₂ ht
  intro k s' hk
  refine wpAny_passesOwn hE (wpAny_mono (turn k s' hk) (fun r s₁ hr => ?_) fun _ _ z => z)
  cases r with
  | none => exact wpAny_execs_nil hr
  | some y =>
    refine wpAny_passesOwn hE (wpAny_assign_Name (wpAny_mono hr (fun _ s₂ h₂ => ?_) fun _ _ z => z))
    refine wpAny_passesOwn hE (wpAny_mono h₂ (fun f s₃ h₃ => ?_) fun _ _ z => z)
    cases f with
    | next => exact h₃
    | cont => exact h₃
    | brk => exact h₃
    | ret _ => exact h₃
end
end Mine
end

noncomputable section
open PySem PySem.W PyProof.Rows
set_option Elab.async false
set_option maxHeartbeats 2000000
set_option maxRecDepth 100000
namespace Mine
open PySem PySem.W PyProof.Rows PySem.Calls PySem.Spec Builtin Builtin.ObjectAttr
/-- an object of a class below list -/
abbrev accOf (C dx : Addr) (its : Array Value) (n : Nat) : Obj := { cls := .ref C, dict := some dx, data := .seq its n }
theorem kind_append : builtinKind "list.append" = some .method := by decide +kernel
theorem kind_pop : builtinKind "list.pop" = some .method := by decide +kernel
theorem kind_len : builtinKind "list.__len__" = some .slot := by decide +kernel
theorem kind_init : builtinKind "list.__init__" = some .slot := by decide +kernel
theorem split_append : splitId "list.append" = some ("list", "append") := by decide +kernel
theorem split_pop : splitId "list.pop" = some ("list", "pop") := by decide +kernel
theorem split_len : splitId "list.__len__" = some ("list", "__len__") := by decide +kernel
theorem split_init : splitId "list.__init__" = some ("list", "__init__") := by decide +kernel
theorem entry_linit : entryFor table "list.__init__" = some Builtin.«list.__init__» := entryFor_of_tree (by kernel_rfl)
theorem args_append (a b : Value) : argsOk "list.append" ⟨[a, b], []⟩ := by unfold argsOk; kernel_rfl
theorem args_pop (a : Value) : argsOk "list.pop" ⟨[a], []⟩ := by unfold argsOk; kernel_rfl
theorem args_len (a : Value) : argsOk "list.__len__" ⟨[a], []⟩ := by unfold argsOk; kernel_rfl
theorem args_init (a : Value) : argsOk "list.__init__" ⟨[a], []⟩ := by unfold argsOk; kernel_rfl
theorem ty_append : typeOf (.builtin "list.append") = pure (.type "method_descriptor") := by show builtinType _ = _; rw [builtinType_eq_fast]; kernel_rfl
theorem ty_pop : typeOf (.builtin "list.pop") = pure (.type "method_descriptor") := by show builtinType _ = _; rw [builtinType_eq_fast]; kernel_rfl
theorem ty_len : typeOf (.builtin "list.__len__") = pure (.type "wrapper_descriptor") := by show builtinType _ = _; rw [builtinType_eq_fast]; kernel_rfl
theorem ty_init : typeOf (.builtin "list.__init__") = pure (.type "wrapper_descriptor") := by show builtinType _ = _; rw [builtinType_eq_fast]; kernel_rfl
theorem check_meth {M : Model} {A : Around} {E : Value → Shared → Prop} {s : Shared} {i owner n : String} {self : Value} {rest : List Value} {kw : List (Str × Value)} {Q : Unit → Shared → Prop}
    (hk : builtinKind i = some .method ∨ builtinKind i = some .slot) (hs : splitId i = some (owner, n)) (hi : Looks M s.heap (isInstance self (.type owner)) true) (ha : argsOk i ⟨self :: rest, kw⟩) (q : Q () s) :
    wpAny M A (checkBuiltinCall i ⟨self :: rest, kw⟩) Q E s := by
  rcases hk with hk | hk
  · unfold checkBuiltinCall
    rw [hk, hs]
    refine wpAny_bind (hi.here ?_)
    rw [if_neg (by decide)]
    unfold argsOk at ha
    revert ha
    cases Manifest.signature? i with
    | none => intro _; exact wpAny_pure q
    | some sig => intro ha; show wpAny M A (Bind.checkArgs i sig ⟨self :: rest, kw⟩) Q E s; rw [show Bind.checkArgs i sig ⟨self :: rest, kw⟩ = pure () from ha]; exact wpAny_pure q
  · exact check_slot hk hs hi ha q
section
variable {prog : Program} {w : World} {A : Around} {E : Value → Shared → Prop} {s : Shared} {h₀ : Heap} {L : Addr} {m : Str → Option Value} {news news' : Led} {K : Frag} {x C dx : Addr} {ox : Obj} {es : List DictEntry} {n nd : Nat} {name : Str} {its : Array Value}
theorem inst_acc {od : Obj} (N : News h₀ L s.heap news) (h1 : (x, accOf C dx its n) ∈ news) (h2 : (dx, od) ∈ news) : InstAt s.heap x (accOf C dx its n) C (some od) := ⟨(N _ h1).1, rfl, rfl, (N _ h2).1⟩
theorem canon_list : (Manifest.canonical "list.__getattribute__" != "object.__getattribute__") = false := by decide +kernel
theorem method_acc {f tf : Value} {pl : Sem Bool} {Q : Value × List Value → Shared → Prop} (F : Fr h₀ L s.heap m) (X₀ : K.In h₀) (I : InstAt s.heap x ox C (some (dictOf es nd)))
    (hg : findIn K (.ref C) "__getattribute__" = some (some (.builtin "list.__getattribute__"))) (hk : findIn K (.ref C) "__getattr__" = some none)
    (hf : findIn K (.ref C) name = some (some f)) (ht : Looks (model prog w) s.heap (typeOf f) tf) (htf : (tf != .type "function" && tf != .type "method_descriptor" && tf != .type "wrapper_descriptor") = false) (hl : getL name es = some none) (h : Q (f, [.ref x]) s) :
    wpAny (model prog w) A (getMethod (.ref x) name pl) Q E s := by
  have X := X₀.keeps F.keep
  unfold getMethod specialOf
  refine wpAny_bind (wpAny_bind (I.type.here ((looks_findIn X hg).here ?_)))
  dsimp only
  rw [canon_list, if_neg (by decide)]
  refine wpAny_bind (wpAny_bind (I.type.here ((looks_findIn X hk).here ?_)))
  refine wpAny_bind (wpAny_bind (I.type.here ((looks_findIn X hf).here (wpAny_bind (ht.here ?_)))))
  rw [htf, if_neg (by decide)]
  refine wpAny_bind (wpAny_loadPart I.at_ ?_)
  have hd := I.dict
  cases e : ox.dict with
  | none => exact wpAny_bind (wpAny_rule (wpAny_pure h))
  | some dx =>
    rw [e] at hd
    refine wpAny_bind (wpAny_bind (wpAny_loadPart hd ?_))
    rw [nsLook_of (show lookIn name (dictOf es nd) = some none from hl)]
    exact wpAny_pure (wpAny_bind (wpAny_rule (wpAny_pure h)))
theorem method_bi {id : String} {pl : Sem Bool} {Q : Value × List Value → Shared → Prop} (F : Fr h₀ L s.heap m) (X₀ : K.In h₀) (I : InstAt s.heap x ox C (some (dictOf es nd)))
    (hg : findIn K (.ref C) "__getattribute__" = some (some (.builtin "list.__getattribute__"))) (hk : findIn K (.ref C) "__getattr__" = some none)
    (hf : findIn K (.ref C) name = some (some (.builtin id))) (ht : typeOf (.builtin id) = pure (.type "method_descriptor")) (hl : getL name es = some none) (h : Q (.builtin id, [.ref x]) s) :
    wpAny (model prog w) A (getMethod (.ref x) name pl) Q E s := method_acc F X₀ I hg hk hf (Looks.of_pure ht) (by decide +kernel) hl h
theorem method_in {f : Addr} {pl : Sem Bool} {Q : Value × List Value → Shared → Prop} (F : Fr h₀ L s.heap m) (X₀ : K.In h₀) (I : InstAt s.heap x ox C (some (dictOf es nd)))
    (hg : findIn K (.ref C) "__getattribute__" = some (some (.builtin "list.__getattribute__"))) (hk : findIn K (.ref C) "__getattr__" = some none)
    (hf : findIn K (.ref C) name = some (some (.ref f))) (ht : isFn K (.ref f) = true) (hl : getL name es = some none) (h : Q (.ref f, [.ref x]) s) :
    wpAny (model prog w) A (getMethod (.ref x) name pl) Q E s := method_acc F X₀ I hg hk hf (looks_typeIn (X₀.keeps F.keep) (beq_iff_eq.mp ht)) (by decide +kernel) hl h
/-- a cell's list is changed -/
theorem seq_upd {o' : Obj} {f : Array Value → Array Value} (F : Fr h₀ L s.heap m) (N : News h₀ L s.heap news) (U : Upd x (accOf C dx its n) o' news news') (e : Obj.mapSeq f (accOf C dx its n) = o') (hz : its.size ≤ 1000) (hf : (f its).size ≤ 1001) (hfr : o'.isFreed = false) {Q : Unit → Shared → Prop}
    (h : ∀ h', Fr h₀ L h' m → News h₀ L h' news' → Q () { s with heap := h' }) : wpAny (model prog w) A (updateSeq x f) Q E s := by
  obtain ⟨pre, post, rfl, rfl, a, b⟩ := U.split
  obtain ⟨U1, U2⟩ := news_upd (f := Obj.mapSeq f) F N a b e hfr
  exact wpAny_updateSeq (N _ (List.mem_append.mpr (.inr (.head _)))).1 rfl (h _ U1 U2) (Nat.le_trans hz (by simp [sizeLine_eq])) (Nat.le_trans hf (by simp [sizeLine_eq]))
theorem inst_list {M : Model} (F : Fr h₀ L s.heap m) (X₀ : K.In h₀) (hs : subIn K (.ref C) (.type "list") = some true) (ho : s.heap.get? x = some ox) (hc : ox.cls = .ref C) : Looks M s.heap (isInstance (.ref x) (.type "list")) true :=
  (show Looks M s.heap (typeOf (.ref x)) (.ref C) from hc ▸ (Looks.ld ho).andThen .now).andThen (looks_subIn (X₀.keeps F.keep) hs)
theorem append_acc {vs : List Value} {y : Value} {Q : Value → Shared → Prop} (F : Fr h₀ L s.heap m) (X₀ : K.In h₀) (N : News h₀ L s.heap news) (hs : subIn K (.ref C) (.type "list") = some true) (hl : vs.length ≤ 1000)
    (U : Upd x (accOf C dx vs.toArray n) (accOf C dx (vs ++ [y]).toArray (n + 1)) news news') (h : ∀ h', Fr h₀ L h' m → News h₀ L h' news' → Q .none { s with heap := h' }) :
    wpAny (model prog w) A (call (.builtin "list.append") [.ref x, y]) Q E s := by
  obtain ⟨pre, post, e1, -, -, -⟩ := U.split
  have z := N (x, accOf C dx vs.toArray n) (by rw [e1]; exact List.mem_append.mpr (.inr (.head _)))
  refine wpAny_call (codeAny_call_builtin PySem.F.slot_list_append.plain PySem.F.entry_list_append (check_meth (.inl kind_append) split_append (inst_list F X₀ hs z.1 rfl) (args_append _ _) ?_))
  show wpAny _ _ (updateSeq x (·.push y) >>= fun _ => ret .none) _ _ s
  refine wpAny_bind (seq_upd (f := (·.push y)) F N U (by simp [Obj.mapSeq]) (by simpa using hl) (by simpa using hl) rfl fun h' F' N' => wpAny_pure (h h' F' N'))
theorem pop_acc {vs : List Value} {y : Value} {Q : Value → Shared → Prop} (F : Fr h₀ L s.heap m) (X₀ : K.In h₀) (N : News h₀ L s.heap news) (hs : subIn K (.ref C) (.type "list") = some true) (hl : vs.length ≤ 900)
    (U : Upd x (accOf C dx (vs ++ [y]).toArray n) (accOf C dx vs.toArray (n + 1)) news news') (h : ∀ h', Fr h₀ L h' m → News h₀ L h' news' → Q y { s with heap := h' }) :
    codeAny (model prog w) A (.builtin "list.pop" ⟨[.ref x], []⟩) (fun r s' => match r with | .ok (.ret v) => Q v s' | .ok _ => False | .error e => E e s') s := by
  obtain ⟨pre, post, e1, -, -, -⟩ := U.split
  have z := N (x, accOf C dx (vs ++ [y]).toArray n) (by rw [e1]; exact List.mem_append.mpr (.inr (.head _)))
  refine codeAny_builtin PySem.F.entry_list_pop ?_
  show wpAny _ _ (Builtin.List.listItems (.ref x) >>= _) _ _ s
  refine wpAny_bind (wpAny_listItems z.1 rfl ?_)
  rw [if_neg (by simp)]
  have e : ((seqIndex? (-1) (vs ++ [y]).toArray.size).bind fun k => (vs ++ [y]).toArray[k]?.map (k, ·)) = some (vs.length, y) := by
    have : seqIndex? (-1) (vs ++ [y]).toArray.size = some vs.length := by
      unfold seqIndex?
      simp
      omega
    rw [this]
    simp
  rw [e]
  dsimp only
  have this : (vs ++ [y]).toArray.eraseIdxIfInBounds vs.length = vs.toArray := by
    simp [Array.eraseIdxIfInBounds, List.eraseIdx_append_of_length_le]
  refine wpAny_bind (seq_upd (f := (·.eraseIdxIfInBounds vs.length)) F N U ?_ (by simp; omega) (by rw [this]; simp; omega) rfl fun h' F' N' => wpAny_pure (h h' F' N'))
  simp only [Obj.mapSeq, this]
  simp
theorem len_acc {Q : Value → Shared → Prop} (N : News h₀ L s.heap news) (hm : (x, accOf C dx its n) ∈ news) (h : ∀ t tk, Q (.int its.size t) { s with toks := tk }) :
    codeAny (model prog w) A (.builtin "list.__len__" ⟨[.ref x], []⟩) (fun r s' => match r with | .ok (.ret v) => Q v s' | .ok _ => False | .error e => E e s') s := by
  refine codeAny_builtin PySem.F.entry_list_len ?_
  show wpAny _ _ (seqSize x >>= _) _ _ s
  unfold seqSize
  refine wpAny_bind (wpAny_bind (wpAny_loadPart (N _ hm).1 (wpAny_pure ?_)))
  show wpAny _ _ (mkInt _ >>= ret) _ _ _
  exact wpAny_bind (wpAny_mkInt (wpAny_pure (h _ _)))
end
theorem slot_md_get : Slot "method_descriptor" "__get__" "method_descriptor.__get__" := .of (owner := "method_descriptor") (n := "__get__") (by rw [typeLookup_type, builtinLookup_eq_fast]; kernel_rfl) (by decide +kernel) (by decide +kernel) (by decide +kernel)
  (by first | exact .inl (by decide +kernel) | exact .inr (by decide +kernel)) (by rw [isSubtype_type]; kernel_rfl)
theorem slot_wd_get : Slot "wrapper_descriptor" "__get__" "wrapper_descriptor.__get__" := .of (owner := "wrapper_descriptor") (n := "__get__") (by rw [typeLookup_type, builtinLookup_eq_fast]; kernel_rfl) (by decide +kernel) (by decide +kernel) (by decide +kernel)
  (by first | exact .inl (by decide +kernel) | exact .inr (by decide +kernel)) (by rw [isSubtype_type]; kernel_rfl)
theorem entry_md_get : entryFor table "method_descriptor.__get__" = some Builtin.«method_descriptor.__get__» := entryFor_of_tree (by kernel_rfl)
theorem entry_wd_get : entryFor table "wrapper_descriptor.__get__" = some Builtin.«wrapper_descriptor.__get__» := entryFor_of_tree (by kernel_rfl)
theorem args_md_get (a b c : Value) : argsOk "method_descriptor.__get__" ⟨[a, b, c], []⟩ := by unfold argsOk; kernel_rfl
theorem args_wd_get (a b c : Value) : argsOk "wrapper_descriptor.__get__" ⟨[a, b, c], []⟩ := by unfold argsOk; kernel_rfl
section
variable {prog : Program} {w : World} {A : Around} {E : Value → Shared → Prop} {h : Heap} {g : Array GenState} {d : Drawn} {t : Nat} {os : OsState} {x C : Addr}
theorem run_pop {ox : Obj} {Q : Fin → Shared → Prop} (ho : True → h.get? x = some ox) (hc : ox.cls = .ref C) (hs : Looks (model prog w) h (isSubtype (.ref C) (.type "list")) true)
    (hq : Q (.done (.ret (.ref h.objs.size))) ⟨h.push { cls := .type "builtin_function_or_method", data := .fields #[.builtin "list.pop", .ref x] }, g, d, t, os⟩) :
    wpAny (model prog w) A (Builtin.«method_descriptor.__get__» ⟨[.builtin "list.pop", .ref x, .ref C], []⟩) Q E ⟨h, g, d, t, os⟩ := by
  have ec : (".".intercalate ("list.pop".cutAt '.').dropLast) = "list" := by decide +kernel
  unfold Builtin.«method_descriptor.__get__»
  repeat lk
  rw [ec]
  refine nd_load (s := ⟨h, g, d, t, os⟩) (ho trivial) ?_
  refine nd_pure ?_
  refine wpAny_pure ?_
  rw [hc]
  refine hs.at ?_
  rw [if_neg (by decide)]
  refine wpAny_pure (wpAny_bind ?_)
  unfold newFields
  exact wpAny_newObj_type (wpAny_pure hq) (by size_fits)
theorem run_len {ox : Obj} {Q : Fin → Shared → Prop} (ho : True → h.get? x = some ox) (hc : ox.cls = .ref C) (hs : Looks (model prog w) h (isSubtype (.ref C) (.type "list")) true)
    (hq : Q (.done (.ret (.ref h.objs.size))) ⟨h.push { cls := .type "method-wrapper", data := .fields #[.builtin "list.__len__", .ref x] }, g, d, t, os⟩) :
    wpAny (model prog w) A (Builtin.«wrapper_descriptor.__get__» ⟨[.builtin "list.__len__", .ref x, .ref C], []⟩) Q E ⟨h, g, d, t, os⟩ := by
  have ec : (".".intercalate ("list.__len__".cutAt '.').dropLast) = "list" := by decide +kernel
  unfold Builtin.«wrapper_descriptor.__get__»
  repeat lk
  rw [ec]
  refine nd_load (s := ⟨h, g, d, t, os⟩) (ho trivial) ?_
  refine nd_pure ?_
  refine wpAny_pure ?_
  rw [hc]
  refine hs.at ?_
  rw [if_neg (by decide)]
  refine wpAny_pure (wpAny_bind ?_)
  unfold newFields
  exact wpAny_newObj_type (wpAny_pure hq) (by size_fits)
theorem run_init {ox : Obj} {Q : Fin → Shared → Prop} (ho : True → h.get? x = some ox) (hc : ox.cls = .ref C) (hs : Looks (model prog w) h (isSubtype (.ref C) (.type "list")) true)
    (hq : Q (.done (.ret (.ref h.objs.size))) ⟨h.push { cls := .type "method-wrapper", data := .fields #[.builtin "list.__init__", .ref x] }, g, d, t, os⟩) :
    wpAny (model prog w) A (Builtin.«wrapper_descriptor.__get__» ⟨[.builtin "list.__init__", .ref x, .ref C], []⟩) Q E ⟨h, g, d, t, os⟩ := by
  have ec : (".".intercalate ("list.__init__".cutAt '.').dropLast) = "list" := by decide +kernel
  unfold Builtin.«wrapper_descriptor.__get__»
  repeat lk
  rw [ec]
  refine nd_load (s := ⟨h, g, d, t, os⟩) (ho trivial) ?_
  refine nd_pure ?_
  refine wpAny_pure ?_
  rw [hc]
  refine hs.at ?_
  rw [if_neg (by decide)]
  refine wpAny_pure (wpAny_bind ?_)
  unfold newFields
  exact wpAny_newObj_type (wpAny_pure hq) (by size_fits)
/-- what a builtin's descriptor gives when it is read off `super()` -/
structure Reads (prog : Program) (w : World) (id bt ty : String) : Prop where
  type : typeOf (.builtin id) = pure (.type ty)
  sub : isSubtype (.type ty) (.type ty) = pure true
  ex : ∃ gid Bi, Slot ty "__get__" gid ∧ builtinKind gid = some .slot ∧ splitId gid = some (ty, "__get__") ∧ entryFor table gid = some Bi ∧ (∀ a b c : Value, argsOk gid ⟨[a, b, c], []⟩) ∧
    ∀ (A : Around) (E : Value → Shared → Prop) (h : Heap) (g : Array GenState) (d : Drawn) (t : Nat) (os : OsState) (x C : Addr) (ox : Obj) (Q : Fin → Shared → Prop), h.get? x = some ox → ox.cls = .ref C → Looks (model prog w) h (isSubtype (.ref C) (.type "list")) true →
      Q (.done (.ret (.ref h.objs.size))) ⟨h.push { cls := .type bt, data := .fields #[.builtin id, .ref x] }, g, d, t, os⟩ → wpAny (model prog w) A (Bi ⟨[.builtin id, .ref x, .ref C], []⟩) Q E ⟨h, g, d, t, os⟩
theorem reads_pop : Reads prog w "list.pop" "builtin_function_or_method" "method_descriptor" := ⟨ty_pop, by rw [isSubtype_type]; kernel_rfl, _, _, slot_md_get, by decide +kernel, by decide +kernel, entry_md_get, args_md_get, fun _ _ _ _ _ _ _ _ _ _ _ ho hc hs hq => run_pop (fun _ => ho) hc hs hq⟩
theorem reads_len : Reads prog w "list.__len__" "method-wrapper" "wrapper_descriptor" := ⟨ty_len, by rw [isSubtype_type]; kernel_rfl, _, _, slot_wd_get, by decide +kernel, by decide +kernel, entry_wd_get, args_wd_get, fun _ _ _ _ _ _ _ _ _ _ _ ho hc hs hq => run_len (fun _ => ho) hc hs hq⟩
theorem reads_init : Reads prog w "list.__init__" "method-wrapper" "wrapper_descriptor" := ⟨ty_init, by rw [isSubtype_type]; kernel_rfl, _, _, slot_wd_get, by decide +kernel, by decide +kernel, entry_wd_get, args_wd_get, fun _ _ _ _ _ _ _ _ _ _ _ ho hc hs hq => run_init (fun _ => ho) hc hs hq⟩
abbrev boundOf (bt id : String) (x : Addr) : Obj := { cls := .type bt, data := .fields #[.builtin id, .ref x] }
theorem super_read {so D : Addr} {id bt ty : String} {ox : Obj} {l₀ l : List Value} {K : Frag} {name : Str} {tk : Tok} {Q : Fin → Shared → Prop} (Rd : Reads prog w id bt ty)
    (hso : h.get? so = some (ks_superObj D x C)) (hno : Looks (model prog w) h (opaqueClassAbove (.ref C)) none)
    (hC : Looks (model prog w) h (mroOf (.ref C)) l₀) (hl : (l₀.dropWhile (· != .ref D)).drop 1 = l) (X : K.In h) (ho : h.get? x = some ox) (hc : ox.cls = .ref C) (hs : Looks (model prog w) h (isSubtype (.ref C) (.type "list")) true)
    (hf : alongIn K name l = some (some (.builtin id))) (hxC : x ≠ C) (hn : (name == ("__class__" : Str)) = false)
    (hq : Q (.done (.ret (.ref h.objs.size))) ⟨h.push (boundOf bt id x), g, d, t, os⟩) :
    wpAny (model prog w) A (Builtin.«super.__getattribute__» ⟨[.ref so, .str name tk], []⟩) Q E ⟨h, g, d, t, os⟩ := by
  obtain ⟨ht, hsb, gid, Bi, hslot, hk, hsp, hent, harg, hrun⟩ := Rd
  have hne : (Value.ref x == Value.ref C) = false := by simp [hxC]
  have hlk := hslot.lookup
  have f0 : (#[.ref D, .ref x, .ref C] : Array Value)[0]? = some (.ref D) := rfl
  have f1 : (#[.ref D, .ref x, .ref C] : Array Value)[1]? = some (.ref x) := rfl
  have f2 : (#[.ref D, .ref x, .ref C] : Array Value)[2]? = some (.ref C) := rfl
  have hdt : (ks_superObj D x C).data = .fields #[.ref D, .ref x, .ref C] := rfl
  unfold Builtin.«super.__getattribute__»
  repeat (first
    | (with_reducible refine wpAny_field hso hdt f0 ?_) | (with_reducible refine wpAny_field hso hdt f1 ?_) | (with_reducible refine wpAny_field hso hdt f2 ?_)
    | (with_reducible refine ks_wpAny_notOpaque hno ?_)
    | (with_reducible refine Looks.at hC ?_; rw [hl])
    | (refine ks_forIn_along X (fun _ _ => rfl) rfl ?_ hf)
    | (with_reducible refine wpAny_of_eq ht ?_)
    | (simp only [hn, hne, Bool.or_false, Bool.false_eq_true, if_false])
    | wp_step
    | dsimp only)
  refine codeAny_call_builtin hslot.plain hent (check_meth (.inr hk) hsp ?_ (harg _ _ _) (hrun _ _ _ _ _ _ _ _ _ _ _ ho hc hs ?_))
  · exact Looks.andThen (Looks.of_pure ht) (Looks.of_pure hsb)
  · show wpAny _ _ _ _ _ _
    exact wpAny_bind (wpAny_pure (wpAny_pure (wpAny_pure hq)))
theorem super_meth {so D : Addr} {id bt ty : String} {ox : Obj} {l₀ l : List Value} {K : Frag} {name : Str} {pl : Sem Bool} {Q : Value × List Value → Shared → Prop} (Rd : Reads prog w id bt ty)
    (hso : h.get? so = some (ks_superObj D x C)) (hno : Looks (model prog w) h (opaqueClassAbove (.ref C)) none)
    (hC : Looks (model prog w) h (mroOf (.ref C)) l₀) (hl : (l₀.dropWhile (· != .ref D)).drop 1 = l) (X : K.In h) (ho : h.get? x = some ox) (hc : ox.cls = .ref C) (hs : Looks (model prog w) h (isSubtype (.ref C) (.type "list")) true)
    (hf : alongIn K name l = some (some (.builtin id))) (hxC : x ≠ C) (hn : (name == ("__class__" : Str)) = false)
    (hq : Q (.ref h.objs.size, []) ⟨h.push (boundOf bt id x), g, d, t + 1, os⟩) :
    wpAny (model prog w) A (getMethod (.ref so) name pl) Q E ⟨h, g, d, t, os⟩ := by
  have hT : ∀ t', (⟨h, g, d, t', os⟩ : Shared).TypeIs (.ref so) "super" := fun _ => ⟨_, hso, rfl⟩
  unfold getMethod
  refine wpAny_bind (wpAny_specialOf (hT _) PySem.F.ks_slot_super_ga.lookup ?_)
  show wpAny _ _ (if (Manifest.canonical "super.__getattribute__" != "object.__getattribute__") = true then _ else _) _ _ _
  rw [if_pos PySem.F.ks_canon_super_ga]
  unfold getAttr getAttrBy
  refine wpAny_bind (wpAny_bind (wpAny_mkText (wpAny_holding (wpAny_bind (wpAny_typeOf (hT _) (wpAny_bind (wpAny_of_eq PySem.F.ks_slot_super_ga.lookup ?_)))))))
  show wpAny _ _ (getAttrByItsOwn (.ref so) (.str name t) (.type "super") (.builtin "super.__getattribute__") true false) _ _ _
  unfold getAttrByItsOwn hookBefore callGetattribute boundAndCalled
  refine wpAny_bind (wpAny_of_eq (show (if onTheHeap (.type "super") then typeLookup (.type "super") "__getattr__" else pure none) = pure none from rfl) ?_)
  refine wpAny_bind (wpAny_attempt (wpAny_holding ?_))
  show wpAny _ _ (bindSpecial (.builtin "super.__getattribute__") (.ref so) >>= _) _ _ _
  refine wpAny_bind (wpAny_of_eq (PySem.F.ks_slot_super_ga.bind _) ?_)
  refine wpAny_mono (Q := fun v s' => v = .ref h.objs.size ∧ s' = ⟨h.push (boundOf bt id x), g, d, t + 1, os⟩) (E := fun _ _ => False)
    (wpAny_call_entry PySem.F.ks_slot_super_ga (hT _) PySem.F.ks_entry_super_ga (super_read Rd hso hno hC hl X ho hc hs hf hxC hn ⟨_, rfl, rfl, rfl⟩) (PySem.F.ks_gaArgs_super _ _)) (fun v s' hv => ?_) fun _ _ z => z.elim
  obtain ⟨rfl, rfl⟩ := hv
  exact wpAny_pure (wpAny_pure hq)
end
section
variable {prog : Program} {w : World} {A : Around} {E : Value → Shared → Prop} {s : Shared} {h₀ : Heap} {L : Addr} {m : Str → Option Value} {news news' : Led} {K : Frag} {x C D dx so : Addr} {ox : Obj} {odx : Option Obj} {n : Nat} {its : Array Value}
theorem super_bi {name : Str} {id bt ty : String} {pl : Sem Bool} {Q : Value × List Value → Shared → Prop} (Rd : Reads prog w id bt ty) (F : Fr h₀ L s.heap m) (X₀ : K.In h₀) (N : News h₀ L s.heap news) (hso : (so, ks_superObj D x C) ∈ news) (I : InstAt s.heap x ox C odx) (ho : nsIn K cStatics "thirdparty.any" = some none)
    (hs : subIn K (.ref C) (.type "list") = some true) (hm : ks_superIn K C D name = some (some (.builtin id))) (hn : (name == ("__class__" : Str)) = false)
    (h : ∀ q h', Fr h₀ L h' m → News h₀ L h' ((q, boundOf bt id x) :: news) → (∀ p ∈ news, p.1 < q) → Q (.ref q, []) { s with heap := h', toks := s.toks + 1 }) : wpAny (model prog w) A (getMethod (.ref so) name pl) Q E s := by
  have X : K.In s.heap := X₀.keeps F.keep
  obtain ⟨hh, g, d, t, os⟩ := s
  cases hc : clsIn K C with
  | none => unfold ks_superIn at hm; rw [hc] at hm; cases hm
  | some cd =>
    unfold ks_superIn at hm
    rw [hc] at hm
    have I' := I.at_
    refine super_meth Rd (N _ hso).1 (looks_opaque X ho) (l₀ := cd.mro) ?_ rfl X I.at_ I.cls (looks_subIn X hs) hm (ks_ne X I hc) hn ?_
    · exact fun A Q E s k q => wpAny_bind ((looks_clsIn X hc) A _ E s k (wpAny_pure q))
    · obtain ⟨F', N', l'⟩ := ks_newsPush (s := ⟨hh, g, d, t, os⟩) (o := boundOf bt id x) F N rfl (Heap.get?_push_at rfl rfl) (fun b o e => Heap.get?_push_of_some _ e)
      exact h _ _ F' N' l'
/-- a bound builtin is called -/
theorem call_bound {q : Addr} {bt id : String} {args : List Value} {Q : Value → Shared → Prop} (N : News h₀ L s.heap news) (hq : (q, boundOf bt id x) ∈ news) (hb : bt = "builtin_function_or_method" ∨ bt = "method-wrapper")
    (hp : plainId id = true) (hck : ∀ (Q' : Unit → Shared → Prop) (E' : Value → Shared → Prop), Q' () s → wpAny (model prog w) A.in1 (checkBoundCall id ⟨.ref x :: args, []⟩) Q' E' s)
    (h : codeAny (model prog w) A (.builtin id ⟨.ref x :: args, []⟩) (fun r s' => match r with | .ok (.ret v) => Q v s' | .ok _ => False | .error e => E e s') s) :
    wpAny (model prog w) A (call (.ref q) args) Q E s := by
  refine wpAny_call (codeAny_of_tree ?_)
  show wpAny _ A.in1 (callAny (.ref q) _) _ _ _
  unfold callAny
  refine wpAny_bind (wpAny_load (N _ hq).1 ?_)
  rcases hb with rfl | rfl
  · show wpAny _ _ (checkBoundCall id ⟨.ref x :: args, []⟩ >>= fun _ => again (.builtin id ⟨.ref x :: args, []⟩)) _ _ _
    exact wpAny_bind (hck _ _ (wpAny_pure ⟨plainId_quiet hp _, h⟩))
  · show wpAny _ _ (checkBoundCall id ⟨.ref x :: args, []⟩ >>= fun _ => again (.builtin id ⟨.ref x :: args, []⟩)) _ _ _
    exact wpAny_bind (hck _ _ (wpAny_pure ⟨plainId_quiet hp _, h⟩))
end
end Mine
end

noncomputable section
open PySem PySem.W PyProof.Rows
set_option Elab.async false
set_option maxHeartbeats 2000000
set_option maxRecDepth 100000
namespace Mine
open PySem PySem.W PyProof.Rows PySem.Calls PySem.Spec Builtin Builtin.ObjectAttr
theorem refuse_list (self : Value) : refuseLoop self "__setattr__" [.type "list", .type "object"] = pure () := by kernel_rfl
section
variable {prog : Program} {w : World} {A : Around} {E : Value → Shared → Prop} {s : Shared} {h₀ : Heap} {L : Addr} {m : Str → Option Value} {news news' : Led} {K : Frag} {x C dx : Addr} {cd : ClassData} {n nd : Nat} {its : Array Value} {name : Str} {v : Value} {es' : List DictEntry} {nd' : Nat}
/-- an attribute is stored on an object of a class below list -/
theorem set_acc {Q : Unit → Shared → Prop} (F : Fr h₀ L s.heap m) (X₀ : K.In h₀) (N : News h₀ L s.heap news) (hx : (x, accOf C dx its n) ∈ news) (hc : clsIn K C = some cd) (hm : cd.mro = [.ref C, .type "list", .type "object"]) (hd : cd.hasDict = true)
    (hs : findIn K (.ref C) "__setattr__" = some (some (.builtin "object.__setattr__"))) (ht : takerIn K C name = some none) 
    (e : (putL name (PyData.keyHash w.params name) (.str name (s.toks + 1)) v [], putN name [] nd) = (es', nd')) (U : Upd dx (dictOf [] nd) (dictOf es' nd') news news') (hz : es'.length ≤ 1000)
    (h : ∀ h', Fr h₀ L h' m → News h₀ L h' news' → Q () { s with heap := h', toks := s.toks + 2 }) : wpAny (model prog w) A (setAttr (.ref x) name v) Q E s := by
  obtain ⟨e1, e2⟩ := Prod.mk.inj e
  obtain ⟨pre, post, rfl, rfl, a, b⟩ := U.split
  have X := X₀.keeps F.keep
  have hx' := (N _ hx).1
  have hdx := (N (dx, dictOf [] nd) (List.mem_append.mpr (.inr (.head _)))).1
  have I : InstAt s.heap x (accOf C dx its n) C (some (dictOf [] nd)) := ⟨hx', rfl, rfl, hdx⟩
  have SF := PySem.F.store_object
  have hmro : Looks (model prog w) s.heap (mroOf (.ref C)) cd.mro := (looks_clsIn X hc).andThen .now
  have sub : Looks (model prog w) s.heap (isInstance (.ref x) (.type "object")) true := I.type.andThen (looks_mroIn X (by unfold mroIn; rw [hc, Option.bind_some, hm]; rfl))
  refine set_plain X I hs ?_
  refine codeAny_call_builtin SF.slot.plain SF.entry (@check_slot (model prog w) _ _ { s with toks := s.toks + 1 } "object.__setattr__" "object" "__setattr__" (.ref x) [.str name s.toks, v] [] _ SF.kind SF.split sub (SF.args (.ref x) (.str name s.toks) v) ?_)
  obtain ⟨attr, ha, hr⟩ := Option.bind_eq_some_iff.mp ht
  have L3 : Looks (model prog w) s.heap (storeTaker? attr) none := by
    cases attr with
    | none => exact .now
    | some a =>
      obtain ⟨b, hb, hb'⟩ := Option.map_eq_some_iff.mp hr
      cases b with
      | true => cases hb'
      | false => exact (looks_takesIn X hb).andThen .now
  rw [osa_eq, refuse_eq]
  have L0 := I.type (M := model prog w)
  have L2 := looks_findIn (M := model prog w) X ha
  obtain ⟨U1, U2⟩ := news_upd (f := Obj.putName name (PyData.keyHash w.params name) (.str name (s.toks + 1)) v) F N a b (by rw [putName_dict, e1, e2]) rfl
  obtain ⟨hh, g, d, t, os⟩ := s
  dsimp only at *
  refine wpAny_bind (wpAny_bind (L0.at (wpAny_bind (hmro.at ?_))))
  rw [hm, refuseLoop_ref, refuse_list]
  refine wpAny_pure (wpAny_bind (L0.at (wpAny_bind (L2.at (wpAny_bind (L3.at ?_))))))
  dsimp only
  have D' := (U2 (dx, dictOf es' nd') (List.mem_append.mpr (.inr (.head _)))).1
  unfold storeInOwnDict
  show wpAny _ _ (pure () >>= _) _ _ _
  refine wpAny_bind (wpAny_pure ?_)
  dsimp only
  rw [if_neg (by simp)]
  have hcd : Looks (model prog w) hh (classData C) cd := looks_clsIn X hc
  refine wpAny_bind ?_
  show wpAny _ _ (instanceDict x true) _ _ _
  unfold instanceDict
  refine wpAny_bind (wpAny_loadPart hx' ?_)
  dsimp only
  refine wpAny_bind (hcd.at ?_)
  rw [hd, if_neg (by decide)]
  refine wpAny_pure ?_
  dsimp only
  unfold storeInDict newKeyGuard
  refine wpAny_bind (wpAny_pure (wpAny_bind ?_))
  unfold nsSet
  refine wpAny_bind (wpAny_bind (wpAny_askSetting (wpAny_pure (wpAny_bind (wpAny_mkText (wpAny_bind (wpAny_loadPart hdx ?_)))))))
  dsimp only
  rw [if_neg (by rw [aRefKeyMayBeTheName_at]; simp)]
  refine wpAny_updatePart hdx ?_
  refine wpAny_bind (wpAny_lookBehind D' (by exact pastItsLine_dict (by rw [List.size_toArray, sizeLine_eq]; omega)) ?_)
  exact wpAny_pure (h _ U1 U2)
end
section
variable {prog : Program} {w : World} {A : Around} {K : Frag} {C : Addr} {R : Result → Shared → Prop} {h : Heap} {g : Array GenState} {d : Drawn} {t : Nat} {os : OsState}
structure MakesL (M : Model) (h : Heap) (C : Addr) : Prop where
  obj : ∃ oc od cd sl, h.get? C = some ⟨oc, od, .cls cd, sl⟩ ∧ cd.hasDel = false ∧ cd.mro.isEmpty = false
  made : Looks M h (Bind.madeBy (.ref C)) (some "list.__new__")
  base : Looks M h (Bind.staticBase (.ref C)) (.ref C)
  self : Looks M h (isSubtype (.ref C) (.ref C)) true
  top : Looks M h (isSubtype (.ref C) (.type "list")) true
  call : Looks M h (specialOf (.ref C) "__call__") (some (.builtin "type.__call__"))
  typ : Looks M h (isInstance (.ref C) (.type "type")) true
theorem makesL_of {M : Model} (X : K.In h) {oc : Value} {od : Option Addr} {cd : ClassData} {sl : Array (Option Value)} (ho : K.lookup C = some ⟨oc, od, .cls cd, sl⟩) (e2 : cd.hasDel = false) (e3 : (sl.toList[4]?).join = some (.builtin "list.__new__"))
    (hm : cd.mro = [.ref C, .type "list", .type "object"]) (e7 : specialIn K (.ref C) "__call__" = some (some (.builtin "type.__call__"))) (e8 : instIn K (.ref C) (.type "type") = some true) : MakesL M h C := by
  have hc : clsIn K C = some cd := by unfold clsIn; rw [ho]
  have hmr : Looks M h (mroOf (.ref C)) cd.mro := (looks_clsIn X hc).andThen .now
  have sub : ∀ b, b ∈ cd.mro → mroIn K C b = some true := fun b hb => by
    unfold mroIn
    rw [hc, Option.bind_some, if_neg (by rw [hm]; simp), List.contains_iff_mem.mpr hb]
  have made : Looks M h (Bind.madeBy (.ref C)) (some "list.__new__") := by
    intro A Q E s k q
    unfold Bind.madeBy
    refine wpAny_bind (hmr A _ E s k ?_)
    rw [hm, List.forIn_cons]
    refine wpAny_bind (wpAny_bind (wpAny_bind (wpAny_bind (wpAny_loadPart (k _ _ (X _ _ ho)) (wpAny_pure ?_)))))
    dsimp only
    rw [← Array.getElem?_toList, e3]
    exact wpAny_pure (wpAny_pure (wpAny_pure q))
  refine ⟨⟨oc, od, cd, sl, X _ _ ho, e2, by rw [hm]; rfl⟩, made, ?_, looks_mroIn X (sub _ (by rw [hm]; exact .head _)), looks_mroIn X (sub _ (by rw [hm]; exact .tail _ (.head _))), looks_specialIn X e7, looks_instIn X e8⟩
  intro A Q E s k q
  unfold Bind.staticBase
  refine wpAny_bind (hmr A _ E s k ?_)
  rw [hm, List.forIn_cons]
  exact wpAny_bind (wpAny_bind (wpAny_bind (made A _ E s k (wpAny_pure (wpAny_pure (wpAny_pure q))))))
theorem kind_lnew : builtinKind "list.__new__" = some .builtinFn := by decide +kernel
theorem split_lnew : splitId "list.__new__" = some ("list", "__new__") := by decide +kernel
theorem sig_lnew (c : Value) : argsOk "list.__new__" ⟨[c], []⟩ := by unfold argsOk; kernel_rfl
theorem newL (Y : MakesL (model prog w) h C) (hq : R (.ok (.ret (.ref (h.objs.size + 1)))) ⟨(h.push emptyDict).push (accOf C h.objs.size #[] 0), g, d, t, os⟩) :
    codeAny (model prog w) A (.call (.builtin "list.__new__") ⟨[.ref C], []⟩) R ⟨h, g, d, t, os⟩ := by
  obtain ⟨⟨oc, od, cd, sl, hC, e2, e4⟩, made, base, self, top, call, typ⟩ := Y
  refine codeAny_of_tree ?_
  show wpAny _ A.in1 (do checkBuiltinCall "list.__new__" ⟨[.ref C], []⟩; again (.builtin "list.__new__" ⟨[.ref C], []⟩)) _ _ _
  unfold checkBuiltinCall
  rw [kind_lnew, split_lnew]
  have here : Looks (model prog w) h (isType (.ref C)) true := fun A Q E s k q => by
    obtain ⟨hh, g, d, t, os⟩ := s
    exact ks_wpAny_isType_cls (k _ _ hC) rfl q
  refine wpAny_bind ?_
  repeat (first | simp only [bne_self_eq_false, Bool.false_eq_true, if_false] | lk)
  refine ⟨plainId_quiet PySem.F.plain_list_new _, codeAny_builtin_stack PySem.F.entry_list_new rfl fun p st => ?_⟩
  rw [Around.under_plainId PySem.F.plain_list_new _]
  have hown := owner_list_new
  simp only [hown]
  repeat (first | simp only [Bool.false_eq_true, if_false, Bool.not_true] | lk)
  refine nd_load (s := ⟨(h.push emptyDict).push (accOf C h.objs.size #[] 0), g, d, t, os⟩) (Heap.get?_push_of_some _ (Heap.get?_push_of_some _ hC)) ?_
  refine nd_pure ?_
  refine wpAny_pure ?_
  rw [e2, if_neg (by decide)]
  refine wpAny_pure (wpAny_pure ?_)
  show R _ _
  rw [Heap.size_push]
  exact hq
theorem makeL {init : Value} (Y : MakesL (model prog w) h C) (hi : Looks (model prog w) h (typeLookup (.ref C) "__init__") (some init)) (hb : ∀ self, Looks (model prog w) h (bindSpecial init self) (init, [self]))
    (hq : codeAny (model prog w) (A.under (.builtin "type.__call__" ⟨[.ref C], []⟩)) (.call init ⟨[.ref (h.objs.size + 1)], []⟩) (InitBack (h.objs.size + 1) R) ⟨(h.push emptyDict).push (accOf C h.objs.size #[] 0), g, d, t, os⟩) :
    codeAny (model prog w) A (.call (.ref C) ⟨[], []⟩) R ⟨h, g, d, t, os⟩ := by
  have Y' := Y
  obtain ⟨⟨oc, od, cd, sl, hC, e2, e4⟩, made, base, self, top, call, typ⟩ := Y
  refine codeAny_of_tree ?_
  show wpAny _ _ (callAny (.ref C) _) _ _ _
  refine nd_load hC ?_
  show wpAny _ _ (callAny.viaDunder (.ref C) _) _ _ _
  unfold callAny.viaDunder
  refine wpAny_bind (call.at ?_)
  dsimp only
  rw [tc_bind]
  refine wpAny_bind (wpAny_pure (wpAny_bind (wpAny_pure ?_)))
  refine wpAny_pure (a := Fin.again (.call (.builtin "type.__call__") ⟨[.ref C], []⟩)) (And.intro rfl ?_)
  refine codeAny_call_builtin_at (Code.quiet_builtin _ (by decide +kernel)) entry_typeCall (check_slot tc_kind tc_split typ (tc_args _ _ _) ?_)
  unfold Builtin.«type.__call__»
  have hm : Looks (model prog w) h (mroOf (.ref C)) cd.mro := ((Looks.ld (part := none) hC).andThen .now).andThen .now
  repeat (first | simp only [e4, Bool.false_eq_true, if_false] | with_reducible refine wpAny_call ?_ | lk)
  refine newL Y' ?_
  have k : ∀ b o, h.get? b = some o → ((h.push emptyDict).push (accOf C h.objs.size #[] 0)).get? b = some o := fun b o e => Heap.get?_push_of_some _ (Heap.get?_push_of_some _ e)
  have hx : ((h.push emptyDict).push (accOf C h.objs.size #[] 0)).get? (h.objs.size + 1) = some (accOf C h.objs.size #[] 0) := by heap_get
  have t1 : Looks (model prog w) ((h.push emptyDict).push (accOf C h.objs.size #[] 0)) (typeOf (.ref (h.objs.size + 1))) (.ref C) := (Looks.ld hx).andThen .now
  have s1 := self.keeps k
  have i1 := hi.keeps k
  have b1 := (hb (.ref (h.objs.size + 1))).keeps k
  unfold isInstance callSpecial? specialOf
  repeat (first | with_reducible refine wpAny_call ?_ | lk)
  refine codeAny_mono hq fun r s' z => ?_
  rcases r with e | (v | _ | _ | _) <;> first | exact z | exact z.elim | skip
  obtain ⟨rfl, z⟩ := z
  exact wpAny_pure (wpAny_pure z)
end
section
variable {prog : Program} {w : World} {A : Around} {E : Value → Shared → Prop} {s : Shared} {h₀ : Heap} {L : Addr} {m : Str → Option Value} {news : Led} {K : Frag} {C fI : Addr}
theorem call_acc {oc : Value} {od : Option Addr} {cd : ClassData} {sl : Array (Option Value)} {Q : Value → Shared → Prop} (F : Fr h₀ L s.heap m) (X₀ : K.In h₀) (N : News h₀ L s.heap news)
    (ho : K.lookup C = some ⟨oc, od, .cls cd, sl⟩) (e2 : cd.hasDel = false) (e3 : (sl.toList[4]?).join = some (.builtin "list.__new__")) (hm : cd.mro = [.ref C, .type "list", .type "object"])
    (e7 : specialIn K (.ref C) "__call__" = some (some (.builtin "type.__call__"))) (e8 : instIn K (.ref C) (.type "type") = some true) (hi : findIn K (.ref C) "__init__" = some (some (.ref fI))) (hf : isFn K (.ref fI) = true)
    (h : ∀ x dx h', Fr h₀ L h' m → News h₀ L h' ((x, accOf C dx #[] 0) :: (dx, dictOf [] 0) :: news) → (∀ p ∈ news, p.1 < dx) → dx < x →
      codeAny (model prog w) (A.under (.builtin "type.__call__" ⟨[.ref C], []⟩)) (.call (.ref fI) ⟨[.ref x], []⟩) (InitBack x fun r s' => match r with | .ok (.ret v) => Q v s' | .ok _ => False | .error e => E e s') { s with heap := h' }) :
    wpAny (model prog w) A (call (.ref C) [] []) Q E s := by
  have X := X₀.keeps F.keep
  obtain ⟨hh, g, d, t, os⟩ := s
  refine wpAny_call (makeL (makesL_of X ho e2 e3 hm e7 e8) (looks_findIn X hi) (fun self => bind_fn X self (beq_iff_eq.mp hf)) (h _ hh.objs.size _ ((F.push _).push _) ?_ (fun p hp => Heap.lt_size (N p hp).1) (Nat.lt_succ_self _)))
  have := (N.push F emptyDict).push (F.push _) (accOf C hh.objs.size #[] 0)
  rwa [Heap.size_push] at this
/-- list.__init__ of an empty one -/
theorem init_acc {x dx : Addr} {n : Nat} {news' : Led} {Q : Value → Shared → Prop} (F : Fr h₀ L s.heap m) (N : News h₀ L s.heap news) (U : Upd x (accOf C dx #[] n) (accOf C dx #[] n) news news')
    (h : ∀ h', Fr h₀ L h' m → News h₀ L h' news' → Q .none { s with heap := h' }) :
    codeAny (model prog w) A (.builtin "list.__init__" ⟨[.ref x], []⟩) (fun r s' => match r with | .ok (.ret v) => Q v s' | .ok _ => False | .error e => E e s') s := by
  obtain ⟨pre, post, e1, -, -, -⟩ := U.split
  have z := N (x, accOf C dx #[] n) (by rw [e1]; exact List.mem_append.mpr (.inr (.head _)))
  refine codeAny_builtin entry_linit ?_
  show wpAny _ _ (Builtin.List.listItems (.ref x) >>= _) _ _ s
  refine wpAny_bind (wpAny_listItems z.1 rfl ?_)
  refine wpAny_bind (seq_upd (f := fun _ => #[]) F N U rfl (by simp) (by simp) rfl fun h' F' N' => ?_)
  exact wpAny_bind (wpAny_letGo (wpAny_pure (h h' F' N')))
end
section
variable {P : Program} {w : World} {b₀ : Heap} {D U : Nat} {tl : Led} {Ret : Value → Led → Prop} {K : Frag} {p : Program} {loose : List Str} {mean : ExcName → Option Value} {mg mb : Str → Option Value}
  {name qual : Str} {params : Arguments} {body : List Stmt} {scope : Scope} {dV kV doc pm cdv ct oc : Value} {an od : Option Addr} {osl : Array (Option Value)} {f cc : Addr} {args : Args} {binds : List (Str × Value)}
/-- a def that closes over `__class__` is walked: its activation is known -/
theorem enterS (X : K.In b₀) (T : Top p loose mean mg mb b₀)
    (ho : K.lookup f = some ⟨oc, od, .func (ksFn name qual params body scope dV kV doc pm an cdv ct cc), osl⟩) (hcd : codeIn K cdv qual = true)
    (hbind : ∀ s : Shared, K.In s.heap → BindsTo s (ksFn name qual params body scope dV kV doc pm an cdv ct cc) args binds) (hloc : ∀ y ∈ binds, scope.names.lookup y.1 = some .local)
    (h : ∀ dp un gd fr s g L' h₁, dp + D < recursionLimit → un + U < cLine → Fr g L' h₁ (fun y => binds.reverse.lookup y) → News g L' h₁ tl → Below (AR dp un gd fr) b₀ fr g → b₀.StaysIn g → K.In g → Top p loose mean mg mb g → (∀ q ∈ tl, q.1 < L') →
      _root_.PySem.wpAt (model P w) ((AR dp un gd fr).deeper (ksEnv qual scope L' f cdv cc)) (.func body (ksEnv qual scope L' f cdv cc)) (execs body (ksEnv qual scope L' f cdv cc))
        (fun fl s' => Done g Ret s (match fl with | .ret v => v | _ => .none) s') (fun _ _ => False) { s with heap := h₁, toks := s.toks + binds.length })
    (hD : 0 < D) (hcell : ∀ x ∈ scope.names, x.2 ≠ .cell) (hco : scope.isCoroutine = false) (hgen : scope.isGenerator = false) (hk : scope.kind = .function) :
    FS P w b₀ D U (.ref f) args tl Ret := by
  intro dp un gd fr s R M hd hu hR
  have st : b₀.StaysIn (hideAll s.heap (tl.map (·.1))) := fun b o e => hideAll_get _ (M.stays b o e) fun q => by
    obtain ⟨x, hx, rfl⟩ := List.mem_map.mp q
    rw [(M.cells x hx).2] at e; cases e
  have B : Below (AR dp un gd fr) b₀ fr (hideAll s.heap (tl.map (·.1))) := ⟨rfl, st, funFrames_hideAll M.frames fun env he a ha => by
    obtain ⟨x, hx, rfl⟩ := List.mem_map.mp ha
    exact M.off env he x hx⟩
  have XS : K.In s.heap := X.keeps M.stays
  refine ks_codeAny_call_defAt (fd := ksFn name qual params body scope dV kV doc pm an cdv ct cc) (body := body) (binds := binds) (show dp < recursionLimit by omega) (XS _ _ ho) rfl (T.nolimit.keeps M.stays) (codeRec_of XS hcd) rfl (hbind s XS) hcell hloc (fun h₁ hns hk₁ => ?_) hco hgen hk
  refine ks_wpAt_mono (h dp un gd fr s (hideAll s.heap (tl.map (·.1))) s.heap.objs.size h₁ hd hu ⟨hns, fun b o e => hk₁ b o (of_hideAll _ e), Nat.le_of_eq (hideAll_size _ _)⟩
    (fun q hq => ⟨hk₁ _ _ (M.cells q hq).1, Nat.ne_of_lt (Heap.lt_size (M.cells q hq).1), hideAll_none _ (List.mem_map_of_mem hq)⟩) B st (X.keeps fun b o e => st b o e) (T.keeps fun b o e => st b o e) (fun q hq => Heap.lt_size (M.cells q hq).1)) (fun fl s' hl => ?_) fun _ _ y => y.elim
  obtain ⟨L, m, tl', h', tk, rfl, F', N', r⟩ := hl
  refine hR _ tl' h' tk r (fun b o hb e => F'.keep b o (hideAll_get _ e hb)) fun q hq => ⟨(N' q hq).1, ?_, hidden_none (N' q hq).2.2⟩
  cases z : b₀.get? q.1 with
  | none => rfl
  | some o => have := (N' q hq).2.2; rw [st _ _ z] at this; cases this
end
theorem ck_len (a : Value) : checkBoundCall "list.__len__" ⟨[a], []⟩ = pure () := by kernel_rfl
theorem ck_init (a : Value) : checkBoundCall "list.__init__" ⟨[a], []⟩ = pure () := by kernel_rfl
theorem sig_pop : ∃ sig, Manifest.signature? "list.pop" = some sig ∧ ∀ a, Bind.checkArgs "list.pop" { sig with full := s!"{("_Accumulator" : Str).toString}.{Bind.lastOf "list.pop"}" } ⟨[a], []⟩ = pure () :=
  ⟨(Manifest.signature? "list.pop").get (by decide +kernel), by rw [Option.some_get], fun a => by kernel_rfl⟩
theorem ck_pop {prog : Program} {w : World} {A : Around} {s : Shared} {K : Frag} {C x : Addr} {ox : Obj} (X : K.In s.heap) {cd : ClassData} (hc : clsIn K C = some cd) (hqn : cd.qualname = "_Accumulator") (ht : typeIn K (.ref C) = some (.type "type")) (hm : subIn K (.ref C) (.type "module") = some false) (ho : s.heap.get? x = some ox) (hx : ox.cls = .ref C) (hn : ∀ c, ox.data ≠ .cls c)
    {Q : Unit → Shared → Prop} {E : Value → Shared → Prop} (q : Q () s) : wpAny (model prog w) A (checkBoundCall "list.pop" ⟨[.ref x], []⟩) Q E s := by
  obtain ⟨sig, hs, hck⟩ := sig_pop
  obtain ⟨h, g, d, t, os⟩ := s
  have L0 : Looks (model prog w) h (typeOf (.ref x)) (.ref C) := hx ▸ (Looks.ld ho).andThen .now
  have L1 : Looks (model prog w) h (isInstance (.ref x) (.type "module")) false := L0.andThen (looks_subIn X hm)
  have L2 : Looks (model prog w) h (isType (.ref x)) false := fun A Q E s k q => by
    obtain ⟨hh, g, d, t, os⟩ := s
    exact ks_wpAny_isType_inst (k _ _ ho) hn q
  have L3 : Looks (model prog w) h (classData C) cd := looks_clsIn X hc
  have L4 : Looks (model prog w) h (typeOf (.ref C)) (.type "type") := looks_typeIn X ht
  unfold checkBoundCall
  rw [hs, kind_pop]
  dsimp only
  rw [if_neg (by decide)]
  refine wpAny_bind (L1.at ?_)
  rw [if_neg (by decide +kernel)]
  refine wpAny_bind (L2.at ?_)
  rw [if_neg (by decide)]
  refine wpAny_bind (L0.at ?_)
  dsimp only
  refine wpAny_bind (L3.at ?_)
  refine wpAny_bind (L4.at ?_)
  rw [if_pos (by decide +kernel), hqn]
  exact wpAny_of_eq (hck _) q
end Mine
end

noncomputable section
open PySem PySem.W PyProof.Rows
set_option Elab.async false
set_option maxHeartbeats 2000000
set_option maxRecDepth 100000
namespace Mine
open PySem PySem.W PyProof.Rows PySem.Calls PySem.Spec
section
variable {P : Program} {w : World} {b₀ : Heap} {D U : Nat} {f : Value} {args : Args} {tl : Led} {Ret : Value → Led → Prop}
theorem FS.mono {D' U' : Nat} {Ret' : Value → Led → Prop} (H : FS P w b₀ D U f args tl Ret) (hd : D ≤ D') (hu : U ≤ U') (hr : ∀ v l, Ret v l → Ret' v l) : FS P w b₀ D' U' f args tl Ret' := by
  intro dp un gd fr s R M h1 h2 h3
  exact H dp un gd fr s R M (by omega) (by omega) fun v l h' tk r => h3 v l h' tk (hr _ _ r)
/-- over a greater ledger -/
theorem FS.ext (H : FS P w b₀ D U f args tl Ret) (big rest : Led) (htl : ∀ q ∈ tl, q ∈ big) (hrest : ∀ q ∈ rest, q ∈ big ∧ ∀ x ∈ tl, x.1 ≠ q.1) :
    FS P w b₀ D U f args big (fun v l => ∃ l0, Ret v l0 ∧ l = l0 ++ rest ∧ ∀ q ∈ l0, q.1 ∈ tl.map (·.1) ∨ ∀ x ∈ big, x.1 ≠ q.1) := by
  intro dp un gd fr s R M h1 h2 h3
  refine H dp un gd fr s R ⟨M.frames, fun env he p hp => M.off env he p (htl p hp), M.stays, fun p hp => M.cells p (htl p hp)⟩ h1 h2 fun v l h' tk r k fr' => ?_
  have sub : ∀ b, b ∈ tl.map (·.1) → b ∈ big.map (·.1) := fun b hb => by
    obtain ⟨x, hx, rfl⟩ := List.mem_map.mp hb
    exact List.mem_map_of_mem (htl x hx)
  refine h3 v (l ++ rest) h' tk ⟨l, r, rfl, fun q hq => ((fr' q hq).2.2).imp id fun hn x hx e => ?_⟩ (fun b o hb e => k b o (fun z => hb (sub b z)) e) fun q hq => ?_
  · rw [← e, (M.cells x hx).1] at hn; cases hn
  · rcases List.mem_append.mp hq with hq | hq
    · exact ⟨(fr' q hq).1, (fr' q hq).2.1, ((fr' q hq).2.2).imp (sub _) id⟩
    · have z := hrest q hq
      have c := M.cells q z.1
      exact ⟨k _ _ (fun y => by
        obtain ⟨x, hx, e⟩ := List.mem_map.mp y
        exact z.2 x hx e) c.1, c.2, .inl (List.mem_map_of_mem z.1)⟩
/-- a bound method is called -/
theorem FS.meth {g mo : Addr} {self : Value} {pos : List Value} {kw : List (Str × Value)} (H : FS P w b₀ D U (.ref g) ⟨self :: pos, kw⟩ tl Ret) (hm : (mo, methodObj (.ref g) self) ∈ tl) : FS P w b₀ D U (.ref mo) ⟨pos, kw⟩ tl Ret := by
  intro dp un gd fr s R M h1 h2 h3
  exact ks_codeAny_call_bound (a := ⟨pos, kw⟩) (M.cells _ hm).1 (H dp un gd fr s R M h1 h2 h3)
end
theorem keep_meth {K : Frag} {h : Heap} {mo g : Addr} {self : Value} (X : K.In h) (hg : fnIn K g = true) (hm : h.get? mo = some (methodObj (.ref g) self)) : KeepOk (.ref mo) h := fun M => ⟨.boundFrame, .inr (.inr rfl), by
  unfold fnIn at hg
  split at hg
  · rename_i e
    refine (Looks.ld (part := none) hm).andThen ?_
    refine Looks.andThen (a := _) (Looks.ld (part := none) (X _ _ e)) ?_
    exact Looks.of_pure rfl
  · cases hg⟩
theorem keep_fn {h : Heap} {f : Addr} {fd : FuncData} {o : Obj} (hf : h.get? f = some o) (hd : o.data = .func fd) : KeepOk (.ref f) h := fun M => ⟨.frame, .inl rfl, by
  refine (Looks.ld (part := none) hf).andThen ?_
  rw [hd]
  exact Looks.of_pure rfl⟩
end Mine
end

noncomputable section
open PySem PySem.W PyProof.Rows
set_option Elab.async false
set_option maxHeartbeats 1000000
set_option maxRecDepth 100000
namespace Mine
open PySem PySem.W PyProof.Rows PySem.Calls PySem.Spec
def StrsOk (ns : List Str) : Prop := ∀ s ∈ ns, PyData.strOk s = true
theorem str_canLayAll0 : ∀ ns : List Str, StrsOk ns → PyData.canLayAll0 (ns.map PyData.str) = true
  | [], _ => rfl
  | x :: r, h => by simp [PyData.canLayAll0, PyData.canLay0, str_canLayAll0 r fun s hs => h s (.tail _ hs), h x (.head _)]
theorem str_depthAll : ∀ ns : List Str, PyData.depthAll (ns.map PyData.str) = 0
  | [] => rfl
  | _ :: r => by simp [PyData.depthAll, PyData.depth, str_depthAll r]
theorem str_shaped (ns : List Str) (h : StrsOk ns) : SeqAt.shaped (.list (ns.map PyData.str)) = true := by
  simp [SeqAt.shaped, PyData.canLay0, PyData.depth, str_canLayAll0 ns h, str_depthAll]
theorem str_sameAll : ∀ ns ms : List Str, PySem.Spec.sameAll (ns.map PyData.str) (ms.map PyData.str) = decide (ns = ms)
  | [], [] => by simp [PySem.Spec.sameAll]
  | [], _ :: _ => by simp [PySem.Spec.sameAll]
  | _ :: _, [] => by simp [PySem.Spec.sameAll]
  | a :: r, b :: t => by
    simp only [List.map_cons, PySem.Spec.sameAll, PySem.Spec.same, str_sameAll r t]
    by_cases h : a = b <;> by_cases h' : r = t <;> simp [h, h']
theorem str_carried : ∀ {vs : List Value} {ns : List Str}, StrsAre vs ns → CarriedAll vs (ns.map PyData.str)
  | _, _, .nil => .nil
  | _, _, .cons _ t r => .cons (.str _ t) (str_carried r)
section
variable {prog : Program} {w : World} {A : Around} {E : Value → Shared → Prop} {s : Shared} {a b : Addr} {xs ys : List Value} {ns ms : List Str} {Q : Value → Shared → Prop}
theorem eq_strs (ha : s.heap.IsList a xs.toArray) (hb : s.heap.IsList b ys.toArray) (hi : StrsAre xs ns) (hj : StrsAre ys ms) (hx : StrsOk ns) (hy : StrsOk ms) (hu : A.units + 64 < cLine) (h : Q (.bool (decide (ns = ms))) s) :
    wpAny (model prog w) A (compareOp .Eq (.ref a) (.ref b)) Q E s :=
  eq_dataH_same (reads_newData ha (str_carried hi)) (reads_newData hb (str_carried hj)) (str_shaped _ hx) (str_shaped _ hy) hu (SeqAt.noMix_of_shape (.list .str) rfl _ _ (list_map_has fun _ => rfl) (list_map_has fun _ => rfl)) (by simp only [PySem.Spec.same]; rw [str_sameAll]; exact h)
theorem ne_strs (ha : s.heap.IsList a xs.toArray) (hb : s.heap.IsList b ys.toArray) (hi : StrsAre xs ns) (hj : StrsAre ys ms) (hx : StrsOk ns) (hy : StrsOk ms) (hu : A.units + 64 < cLine) (h : Q (.bool (!decide (ns = ms))) s) :
    wpAny (model prog w) A (compareOp .NotEq (.ref a) (.ref b)) Q E s :=
  ne_dataH_same (reads_newData ha (str_carried hi)) (reads_newData hb (str_carried hj)) (str_shaped _ hx) (str_shaped _ hy) hu (SeqAt.noMix_of_shape (.list .str) rfl _ _ (list_map_has fun _ => rfl) (list_map_has fun _ => rfl)) (by simp only [PySem.Spec.same]; rw [str_sameAll]; exact h)
theorem ne_same (ha : s.heap.IsList a xs.toArray) (hb : s.heap.IsList b ys.toArray) (hi : StrsAre xs ns) (hj : StrsAre ys ns) (hx : StrsOk ns) (hu : A.units + 64 < cLine) (h : Q (.bool false) s) :
    wpAny (model prog w) A (compareOp .NotEq (.ref a) (.ref b)) Q E s := ne_strs ha hb hi hj hx hx hu (by rw [decide_eq_true rfl]; exact h)
theorem eq_same (ha : s.heap.IsList a xs.toArray) (hb : s.heap.IsList b ys.toArray) (hi : StrsAre xs ns) (hj : StrsAre ys ns) (hx : StrsOk ns) (hu : A.units + 64 < cLine) (h : Q (.bool true) s) :
    wpAny (model prog w) A (compareOp .Eq (.ref a) (.ref b)) Q E s := eq_strs ha hb hi hj hx hx hu (by rw [decide_eq_true rfl]; exact h)
end
section
variable {P : Program} {w : World} {b₀ : Heap} {D U : Nat} {tl : Led} {Ret : Value → Led → Prop} {K : Frag} {p : Program} {loose : List Str} {mean : ExcName → Option Value} {mg mb : Str → Option Value}
  {name qual : Str} {params : Arguments} {body : PySem.Expr} {scope : Scope} {cl : List (Str × Addr)} {pm ct : Value} {f c' : Addr} {occ : Obj} {vs : Array Value} {tq : Tok} {args : Args} {binds : List (Str × Value)}
/-- a lambda that stands in the ledger is walked -/
theorem enterLam (X : K.In b₀) (T : Top p loose mean mg mb b₀) (ho : (f, kla_obj name qual params body scope cl pm c' ct) ∈ tl) (hc : (c', occ) ∈ tl) (hcd : occ.data = .fields vs) (hq : vs[1]? = some (.str qual tq))
    (hbind : bindArgs (kla_fn name qual params body scope cl pm (.ref c') ct) args = pure binds) (hloc : ∀ y ∈ binds, scope.names.lookup y.1 = some .local)
    (h : ∀ dp un gd fr s g L' h₁, dp + D < recursionLimit → un + U < cLine → Fr g L' h₁ (fun y => binds.reverse.lookup y) → News g L' h₁ tl → Below (AR dp un gd fr) b₀ fr g → b₀.StaysIn g → K.In g → Top p loose mean mg mb g → (∀ q ∈ tl, q.1 < L') →
      wpAny (model P w) ((AR dp un gd fr).deeper (envX qual scope L' f (.ref c') cl)) (eval body (envX qual scope L' f (.ref c') cl)) (fun v s' => Done g Ret s v s') (fun _ _ => False) { s with heap := h₁, toks := s.toks + binds.length })
    (hD : 0 < D) (hcell : ∀ x ∈ scope.names, x.2 ≠ .cell) (hco : scope.isCoroutine = false) (hgen : scope.isGenerator = false) (hk : scope.kind = .function) :
    FS P w b₀ D U (.ref f) args tl Ret := by
  intro dp un gd fr s R M hd hu hR
  have st : b₀.StaysIn (hideAll s.heap (tl.map (·.1))) := fun b o e => hideAll_get _ (M.stays b o e) fun q => by
    obtain ⟨x, hx, rfl⟩ := List.mem_map.mp q
    rw [(M.cells x hx).2] at e; cases e
  have B : Below (AR dp un gd fr) b₀ fr (hideAll s.heap (tl.map (·.1))) := ⟨rfl, st, funFrames_hideAll M.frames fun env he a ha => by
    obtain ⟨x, hx, rfl⟩ := List.mem_map.mp ha
    exact M.off env he x hx⟩
  refine kla_callFunE (show dp < recursionLimit by omega) (M.cells _ ho).1 rfl hco hgen rfl ⟨c', occ, vs, tq, rfl, (M.cells _ hc).1, hcd, hq⟩ ?_
  rw [hbind]
  refine wpAny_pure (wpAny_newFunctionEnv hcell hloc (fun h₁ hns hsb => ⟨(T.nolimit.keeps M.stays).fresh _ hsb, ?_⟩) hk)
  show codeAny _ _ (.expr body (envX qual scope s.heap.objs.size f (.ref c') cl)) _ _
  have hk₁ : ∀ b o, s.heap.get? b = some o → h₁.get? b = some o := fun b o e => hsb.extBut b o (Nat.ne_of_lt (Heap.lt_size e)) (Heap.get?_push_of_some _ e)
  refine kla_codeExpr (wpAny_mono (h dp un gd fr s (hideAll s.heap (tl.map (·.1))) s.heap.objs.size h₁ hd hu ⟨hns, fun b o e => hk₁ b o (of_hideAll _ e), Nat.le_of_eq (hideAll_size _ _)⟩
    (fun q hq => ⟨hk₁ _ _ (M.cells q hq).1, Nat.ne_of_lt (Heap.lt_size (M.cells q hq).1), hideAll_none _ (List.mem_map_of_mem hq)⟩) B st (X.keeps fun b o e => st b o e) (T.keeps fun b o e => st b o e) (fun q hq => Heap.lt_size (M.cells q hq).1)) (fun fl s' hl => ?_) fun _ _ y => y.elim)
  obtain ⟨L, m, tl', h', tk, rfl, F', N', r⟩ := hl
  refine hR _ tl' h' tk r (fun b o hb e => F'.keep b o (hideAll_get _ e hb)) fun q hq => ⟨(N' q hq).1, ?_, hidden_none (N' q hq).2.2⟩
  cases z : b₀.get? q.1 with
  | none => rfl
  | some o => have := (N' q hq).2.2; rw [st _ _ z] at this; cases this
end
end Mine
end

noncomputable section
open PySem PySem.W PyProof.Rows
set_option Elab.async false
namespace Mine
open PySem PySem.W PyProof.Rows PySem.Calls PySem.Spec
section
variable {M : Model} {A : Around} {env : Env} {Q : Flow → Shared → Prop} {E : Value → Shared → Prop} {b : List Stmt}
theorem execs_app : ∀ (a : List Stmt) (s : Shared), wpAny M A (execs a env) (fun f s' => match f with | .next => wpAny M A (execs b env) Q E s' | f => Q f s') E s → wpAny M A (execs (a ++ b) env) Q E s := by
  intro a
  suffices H : ∀ (Γ : PySem.Ctx) (hΓ : Γ.In A) (p : Pos) (s : Shared), Sem.wp M Γ (execs a env) (fun f _ s' => match f with | .next => wpAny M A (execs b env) Q E s' | f => Q f s') (fun e _ s' => E e s') p s → Sem.wp M Γ (execs (a ++ b) env) (fun f _ s' => Q f s') (fun e _ s' => E e s') p s from
    fun s h Γ p hΓ => H Γ hΓ p s (h Γ p hΓ)
  intro Γ hΓ
  induction a with
  | nil =>
    intro p s h
    rw [execs_nil, Sem.wp_pure'] at h
    exact h Γ p hΓ
  | cons st a ih =>
    intro p s h
    rw [execs_cons, Sem.wp_bind'] at h
    show Sem.wp M Γ (execs (st :: (a ++ b)) env) _ _ p s
    rw [execs_cons, Sem.wp_bind']
    refine Sem.wp_mono M Γ _ (fun f p' s' h' => ?_) (fun _ _ _ h' => h') _ _ h
    cases f with
    | next => exact ih p' s' h'
    | cont => exact h'
    | brk => exact h'
    | ret v => exact h'
end
end Mine
end

noncomputable section
open PySem PySem.W PyProof.Rows
set_option Elab.async false
set_option maxRecDepth 100000
set_option maxHeartbeats 8000000
example : (PySem.Challenge.rw_tl0016_01, Mine.Kf) = (PySem.Challenge.rw_tl0016_01, Mine.Kf) := by
  w_top off
  k_fill
  rfl
local macro_rules | `(tactic| walk_at $s:str) => `(tactic| first | k_extra $s | fail)
namespace Mine
open PySem PySem.W PyProof.Rows PySem.Calls PySem.Spec
example : True := by
  k_with "M enter" => (
  (case ho => k_is)
  (case hcd => k_is)
  (case hb => first | exact fun s Xs => BindsTo.of_eq rfl | exact fun s Xs => binds_K Xs rfl (by k_is) rfl rfl rfl)
  (case hl => exact locs rfl)
  (case h1 => decide)
  (case h2 => decide)
  (case h3 => exact rfl)
  (case h4 => exact rfl)
  (case h5 => exact rfl))
  k_with "M names" => (repeat' (first | exact List.forall_mem_nil _ | (refine List.forall_mem_cons.mpr ⟨?nm, ?_⟩; (case nm => rfl))))
  trivial
local macro_rules | `(tactic| k_ne) => `(tactic| ((try dsimp only); first | assumption | exact Ne.symm (by assumption) | exact Off.ne (by assumption) (by k_mem) | exact Off.ne' (by assumption) (by k_mem) | fail))
example : True := by
  k_with "M ne" => first | assumption | exact Ne.symm (by assumption) | k_ne
  trivial
local macro_rules | `(tactic| walk_at "M all") => `(tactic| first | exact List.forall_mem_nil _ | (refine' List.forall_mem_cons.mpr ⟨?a, ?b⟩; (case a => walk_at "M ne"); (case b => walk_at "M all")))
local macro_rules | `(tactic| walk_at "M pick") => `(tactic| first | (refine' Pick.head ?a; (case a => walk_at "M all")) | (refine' Pick.tail ?a ?b; (case a => walk_at "M ne"); (case b => walk_at "M pick")))
local macro_rules | `(tactic| walk_at "M picks") => `(tactic| first | exact Picks.nil | (refine' Picks.cons ?a ?b; (case a => walk_at "M pick"); (case b => walk_at "M picks")))
example : True := by
  k_with "M len" => first | assumption | exact getD_len (by assumption) _ | omega
  k_with "M lens" => first | assumption | exact len_del (by assumption) | exact len_del (len_del (by assumption))
  k_with "M strs" => first | assumption | exact strs_del (by assumption) _ | exact strs_del (strs_del (by assumption) _) _
  k_with "M nat" => first | with_reducible exact fdiv2 _ _ | rfl | exact (Int.natCast_add _ _).symm | omega
  k_with "M le" => first | omega | ((try simp (disch := omega) only [delL_length, insL_length]); omega)
  k_with "subscriptTail Name Name ref int" => (k_here; k_dflt (refine' item_strsN ?N ?m ?h _ ?k ?l ?f ?_ ?hs ?hg; (case N => k_asm); (case m => k_mem); (case h => assumption); (case k => walk_at "M nat"); (case l => omega); (case f => omega); (case hs => with_unfolding_all rfl); (case hg => (intro _; with_unfolding_all rfl)); k_whole); intro tk')
  k_with "subscriptTail Name BinOp ref int" => (k_here; k_dflt (refine' item_strsN ?N ?m ?h _ ?k ?l ?f ?_ ?hs ?hg; (case N => k_asm); (case m => k_mem); (case h => assumption); (case k => walk_at "M nat"); (case l => omega); (case f => omega); (case hs => with_unfolding_all rfl); (case hg => (intro _; with_unfolding_all rfl)); k_whole); intro tk')
  k_with "exec While Compare cons nil" => refine Stop.out ?_
  k_with "call builtin:list.insert" => (k_here; (with_reducible show wpAny _ _ (call (Value.builtin _) [Value.ref _, Value.int _ _, _]) _ _ _); k_dflt (refine' ins_N ?F ?N _ ?k ?i ?l ?U ?_; (case F => k_asm); (case N => k_asm); (case U => k_upd); (case k => walk_at "M nat"); (case i => walk_at "M le"); (case l => walk_at "M le"); k_whole); intro h' F' N'; (try dsimp only [List.nil_append, List.cons_append] at N'); (try k_sweep))
  k_with "call builtin:list.pop" => (k_here; (with_reducible show wpAny _ _ (call (Value.builtin _) [Value.ref _, Value.int _ _]) _ _ _); k_dflt (refine' popS_N ?F ?N ?h _ ?k ?i ?l ?U ?_; (case F => k_asm); (case N => k_asm); (case U => k_upd); (case h => walk_at "M strs"); (case k => walk_at "M nat"); (case i => walk_at "M le"); (case l => walk_at "M le"); k_whole); intro h' tk' F' N'; (try dsimp only [List.nil_append, List.cons_append] at N'); (try k_sweep))
  k_with "pyIter ref" => ((with_reducible show wpAny _ _ (pyIter (Value.ref _)) (CompPostA _ _ _ _ _ _ _ _ _ _) _ _); refine Stop.out ?_)
  k_with "pyIter ref" => ((with_reducible show wpAny _ _ (pyIter (Value.ref _)) (fun it s₂ => LoopAtV _ _ _ _ _ _ _ _ _ it s₂) _ _); refine Stop.out ?_)
  k_with "call builtin:len" => (k_here; (with_reducible show wpAny _ _ (call (Value.builtin "len") [Value.ref _]) _ _ _); k_dflt (refine' len_N ?N ?m ?l ?_; (case N => k_asm); (case m => k_mem); (case l => walk_at "M le"); k_whole); intro t' tk')
  k_with "binaryOp Sub int int" => (k_here; (with_reducible refine' sub_natN ?h ?_; (case h => omega)); intro t' tk')
  k_with "binaryOp Sub int int" => (k_here; (with_reducible refine' sub_nat1 ?h ?_; (case h => omega)); intro t' tk')
  k_with "LPost" => refine Stop.out ?_
  k_with "WPost" => refine Stop.out ?_
  k_with "Done" => refine Stop.out ?_
  k_with "call builtin:len" => (k_here; (with_reducible show wpAny _ _ (call (Value.builtin "len") [Value.str _ _]) _ _ _); k_dflt (refine' lenS_N ?l ?_; (case l => walk_at "M len"); k_whole); intro t' tk')
  k_with "eval ListComp" => refine Stop.out ?_
  k_with "exec Assign cons ListComp" => refine Stop.out ?_
  k_with "CPost" => refine Stop.out ?_
  k_with "CPostA" => refine Stop.out ?_
  k_with "EPost" => refine Stop.out ?_
  trivial
local macro_rules | `(tactic| k_all) => `(tactic| (show Off _ _; assumption))
example : True := by
  k_with "call builtin:list.append" => (k_here; (with_reducible show wpAny _ _ (call (Value.builtin _) [Value.ref _, _]) _ _ _); k_dflt (refine' app_N ?F ?N ?l ?U ?_; (case F => k_asm); (case N => k_asm); (case U => k_upd); (case l => walk_at "M le"); k_whole); intro h' F' N'; (try k_sweep))
  k_with "newList" => (k_here; k_dflt (refine' newList_N ?F ?N ?l ?_; (case F => k_asm); (case N => k_asm); (case l => exact Nat.le_of_ble_eq_true rfl); k_whole); intro D' h' F' N' l1 l2; (try (have l3 := l1; k_lt l3)); (try k_sweep))
  k_with "M enterC" => (
  (case ho => k_is)
  (case hcd => k_is)
  (case hb => first | exact fun s Xs => BindsTo.of_eq rfl | exact fun s Xs => binds_K Xs rfl (by k_is) rfl rfl rfl)
  (case hl => exact rfl)
  (case h2 => decide +kernel)
  (case h1 => decide)
  (case h3 => exact rfl)
  (case h4 => exact rfl)
  (case h5 => exact rfl))
  k_with "M comp" => (
  (case hclos => exact rfl)
  (case hcell => decide)
  (case hkind => exact rfl)
  (case hnames => decide)
  (case hx => exact rfl)
  (case hs => (intro _; exact rfl)))
  k_with "M compA" => (
  (case hsw => exact rfl)
  (case hclos => exact rfl)
  (case hcell => decide)
  (case hkind => exact rfl)
  (case hnames => decide)
  (case hx => exact rfl)
  (case hy => exact rfl)
  (case hp => exact rfl)
  (case hs => (intro _; exact rfl)))
  k_with "eval Name" => (k_here; (with_reducible show wpAny _ _ (eval (PySem.Expr.Name _ _) (compEnvC _ _ _ _)) _ _ _); k_dflt (first
  | (refine' cname ?n ?v ?k ?l ?d ?_; (case n => assumption); (case v => assumption); (case k => exact rfl); (case l => exact rfl); (case d => decide))
  | (refine' ccell ?N ?c ?m ?d ?k ?l ?b ?_; (case N => k_asm); (case c => exact rfl); (case m => k_mem); (case d => assumption); (case k => exact rfl); (case l => exact rfl); (case b => decide))
  | (refine' cbuilt ?F ?X ?T ?e ?v ?n ?g ?b ?k ?l ?d ?_; (case F => k_asm); (case X => k_asm); (case T => k_asm); (case e => k_is); (case v => boot_by_name); (case n => decide); (case g => exact rfl); (case b => exact rfl); (case k => exact rfl); (case l => exact rfl); (case d => decide))
  | (refine' cglob ?F ?X ?T ?e ?g ?k ?l ?d ?_; (case F => k_asm); (case X => k_asm); (case T => k_asm); (case e => k_is); (case g => exact rfl); (case k => exact rfl); (case l => exact rfl); (case d => decide))
  | fail))
  trivial
variable {w : World} {b₀ : Heap} {loose : List Str} {mean : ExcName → Option Value} {mg mb : Str → Option Value}

noncomputable section
abbrev P1 : Program := PySem.Challenge.rw_tl0016_01.row.prog
theorem size_fs (X : (Kf w.params).In b₀) (T : Top topProg loose mean mg mb b₀) (x : Str) (t : Tok) (hx : x.length ≤ 1000) :
    FS P1 w b₀ 2 20 (.ref 202) ⟨[.str x t], []⟩ [] (fun v tl' => ∃ t, v = .int x.length t ∧ tl' = []) := by
  refine' enter (binds := [("word", .str x t)]) X T ?ho ?hcd ?hb ?hl ?h ?h1 ?h2 ?h3 ?h4 ?h5
  walk_at "M enter"
  intro dp un gd fr s g L' h₁ hd hu F N B st Xg Tg
  (conv in (PySem.execs _ _) => arg 1; whnf)
  (try dsimp only)
  k_steps
  exact ⟨_, _, _, _, _, rfl, by assumption, N, _, rfl, rfl⟩

example : True := by
  k_with "call ref" => ((with_reducible show wpAny _ _ (call (Value.ref 202) [Value.str _ _] []) _ _ _); k_dflt (refine' use_fs (size_fs ?X ?T _ _ ?hx) ?B ?F ?N ?hf ?hk ?hd ?hu ?hp ?_; (case B => assumption); (case X => assumption); (case T => assumption); (case F => k_asm); (case N => k_asm); (case hf => rfl); (case hk => rfl); (case hp => walk_at "M picks"); (case hx => walk_at "M len"); (case hd => ktr_room); (case hu => ktr_units); k_whole); intro v' tl' h' tk' hr' F' N' hn'; (obtain ⟨t', hv', ht'⟩ := hr'); (subst hv'); (subst ht'); (clear hn'); (try dsimp only [List.nil_append, List.cons_append] at N'); (try k_sweep))
  trivial
end

noncomputable section
def bis (p : Nat → Bool) : Nat → Nat → Nat → Nat
  | 0, lo, _ => lo
  | n + 1, lo, hi => if lo < hi then (if p ((lo + hi) / 2) then bis p n lo ((lo + hi) / 2) else bis p n ((lo + hi) / 2 + 1) hi) else lo
theorem bis_done (p : Nat → Bool) (n : Nat) (lo hi : Nat) (h : ¬ lo < hi) : bis p n lo hi = lo := by
  cases n with
  | zero => rfl
  | succ n => unfold bis; rw [if_neg h]
theorem bis_fuel (p : Nat → Bool) : ∀ (n lo hi : Nat), hi - lo ≤ n → bis p n lo hi = bis p (hi - lo) lo hi := by
  intro n
  induction n using Nat.strongRecOn with
  | ind n ih =>
    intro lo hi h
    by_cases c : lo < hi
    · cases n with
      | zero => omega
      | succ n =>
        obtain ⟨k, hk⟩ : ∃ k, hi - lo = k + 1 := ⟨hi - lo - 1, by omega⟩
        rw [hk]
        unfold bis
        rw [if_pos c, if_pos c]
        rw [ih n (by omega) lo ((lo + hi) / 2) (by omega), ih n (by omega) ((lo + hi) / 2 + 1) hi (by omega)]
        by_cases kn : k = n
        · subst kn
          rw [← ih k (by omega) lo ((lo + hi) / 2) (by omega), ← ih k (by omega) ((lo + hi) / 2 + 1) hi (by omega)]
        · rw [ih k (by omega) lo ((lo + hi) / 2) (by omega), ih k (by omega) ((lo + hi) / 2 + 1) hi (by omega)]
    · rw [bis_done _ _ _ _ c, bis_done _ _ _ _ c]
theorem bis_step (p : Nat → Bool) (lo hi : Nat) (c : lo < hi) : bis p (hi - lo) lo hi = if p ((lo + hi) / 2) then bis p ((lo + hi) / 2 - lo) lo ((lo + hi) / 2) else bis p (hi - ((lo + hi) / 2 + 1)) ((lo + hi) / 2 + 1) hi := by
  obtain ⟨k, hk⟩ : ∃ k, hi - lo = k + 1 := ⟨hi - lo - 1, by omega⟩
  rw [hk]
  show (if lo < hi then _ else _) = _
  rw [if_pos c, bis_fuel p k lo ((lo + hi) / 2) (by omega), bis_fuel p k ((lo + hi) / 2 + 1) hi (by omega)]

def bisR (ss : List Str) (x : Int) (lo hi : Nat) : Nat := bis (fun i => decide (x < ((ss.getD i "").length : Int))) (hi - lo) lo hi
def bisL (ss : List Str) (x : Int) (lo hi : Nat) : Nat := bis (fun i => ! decide (((ss.getD i "").length : Int) < x)) (hi - lo) lo hi
theorem bisR_fs (X : (Kf w.params).In b₀) (T : Top topProg loose mean mg mb b₀) (x : Int) (tx : Tok) (la : Addr) (its : List Value) (nn : Nat) (ss : List Str) (hss : StrsAre its ss) (lo hi : Nat) (loI hiI : Int) (hlo : loI = lo) (hhi : hiI = hi) (tl th : Tok) (h1 : lo ≤ hi) (h2 : hi ≤ its.length) (h3 : its.length ≤ 1000) (h4 : ∀ s ∈ ss, s.length ≤ 1000) :
    FS P1 w b₀ 4 40 (.ref 39) ⟨[.ref la, .int x tx, .int loI tl, .int hiI th], [("key", .ref 202)]⟩ [(la, listOf its.toArray nn)]
      (fun v tl' => ∃ t, v = .int (bisR ss x lo hi : Nat) t ∧ tl' = [(la, listOf its.toArray nn)]) := by
  subst hlo hhi
  unfold bisR
  refine' enter (binds := [("a", .ref la), ("x", .int x tx), ("lo", .int lo tl), ("hi", .int hi th), ("key", .ref 202)]) X T ?ho ?hcd ?hb ?hl ?h ?h1 ?h2 ?h3 ?h4 ?h5
  walk_at "M enter"
  intro dp un gd fr s g L' h₁ hd hu F N B st Xg Tg
  (conv in (PySem.execs _ _) => arg 1; whnf)
  (try dsimp only)
  k_steps
  unfold Stop
  generalize hp : (fun i => decide (x < ((ss.getD i "").length : Int))) = p
  refine while_inv (fun n s' => ∃ (lo' hi' : Nat) (tl th : Tok) (rest : Str → Option Value) (h : Heap) (tk : Nat), s' = { s with heap := h, toks := tk } ∧
    Fr g L' h (fm rest [("a", .ref la), ("x", .int x tx), ("lo", .int lo' tl), ("hi", .int hi' th), ("key", .ref 202)]) ∧ News g L' h [(la, listOf its.toArray nn)] ∧
    hi' - lo' = n ∧ lo' ≤ hi' ∧ hi' ≤ its.length ∧ bis p n lo' hi' = bis p (hi - lo) lo hi) PassesOwn.never ?turn (hi - lo) ?start
  case start => exact ⟨lo, hi, tl, th, _, _, _, rfl, fr_norm _ F (by walk_at "M names"), N, rfl, h1, h2, rfl⟩
  case turn =>
    rintro n _ ⟨lo', hi', tl', th', rest, h, tk, rfl, F, N, e1, e2, e3, e4⟩
    k_steps
    refine WhlIf.dec (fun c => ?_) fun c => ?_
    · have c' : lo' < hi' := by omega
      have em := fdiv2 lo' hi'
      subst e1
      rw [bis_step p lo' hi' c'] at e4
      k_steps
      · rename x < _ => cx
        rename Fr _ _ _ _ => F9
        rw [em] at F9
        refine WPost.nx ((lo' + hi') / 2 - lo') (by omega) ⟨lo', (lo' + hi') / 2, _, _, _, _, _, rfl, fr_norm _ F9 (by walk_at "M names"), by assumption, rfl, by omega, by omega, ?_⟩
        rw [if_pos (by rw [← hp]; exact decide_eq_true cx)] at e4
        exact e4
      · rename ¬ x < _ => cx
        rename Fr _ _ _ _ => F9
        rw [em] at F9
        refine WPost.nx (hi' - ((lo' + hi') / 2 + 1)) (by omega) ⟨(lo' + hi') / 2 + 1, hi', _, _, _, _, _, rfl, fr_norm _ F9 (by walk_at "M names"), by assumption, rfl, by omega, by omega, ?_⟩
        rw [if_neg (by rw [← hp]; simpa using cx)] at e4
        exact e4
    · k_steps
      have e5 : bis p n lo' hi' = lo' := bis_done _ _ _ _ (by omega)
      rw [e5] at e4
      rw [← e4]
      exact ⟨_, _, _, _, _, rfl, F, N, _, rfl, rfl⟩

theorem bisL_fs (X : (Kf w.params).In b₀) (T : Top topProg loose mean mg mb b₀) (x : Int) (tx : Tok) (la : Addr) (its : List Value) (nn : Nat) (ss : List Str) (hss : StrsAre its ss) (lo hi : Nat) (loI hiI : Int) (hlo : loI = lo) (hhi : hiI = hi) (tl th : Tok) (h1 : lo ≤ hi) (h2 : hi ≤ its.length) (h3 : its.length ≤ 1000) (h4 : ∀ s ∈ ss, s.length ≤ 1000) :
    FS P1 w b₀ 4 40 (.ref 57) ⟨[.ref la, .int x tx, .int loI tl, .int hiI th], [("key", .ref 202)]⟩ [(la, listOf its.toArray nn)]
      (fun v tl' => ∃ t, v = .int (bisL ss x lo hi : Nat) t ∧ tl' = [(la, listOf its.toArray nn)]) := by
  subst hlo hhi
  unfold bisL
  refine' enter (binds := [("a", .ref la), ("x", .int x tx), ("lo", .int lo tl), ("hi", .int hi th), ("key", .ref 202)]) X T ?ho ?hcd ?hb ?hl ?h ?h1 ?h2 ?h3 ?h4 ?h5
  walk_at "M enter"
  intro dp un gd fr s g L' h₁ hd hu F N B st Xg Tg
  (conv in (PySem.execs _ _) => arg 1; whnf)
  (try dsimp only)
  k_steps
  unfold Stop
  generalize hp : (fun i => ! decide (((ss.getD i "").length : Int) < x)) = p
  refine while_inv (fun n s' => ∃ (lo' hi' : Nat) (tl th : Tok) (rest : Str → Option Value) (h : Heap) (tk : Nat), s' = { s with heap := h, toks := tk } ∧
    Fr g L' h (fm rest [("a", .ref la), ("x", .int x tx), ("lo", .int lo' tl), ("hi", .int hi' th), ("key", .ref 202)]) ∧ News g L' h [(la, listOf its.toArray nn)] ∧
    hi' - lo' = n ∧ lo' ≤ hi' ∧ hi' ≤ its.length ∧ bis p n lo' hi' = bis p (hi - lo) lo hi) PassesOwn.never ?turn (hi - lo) ?start
  case start => exact ⟨lo, hi, tl, th, _, _, _, rfl, fr_norm _ F (by walk_at "M names"), N, rfl, h1, h2, rfl⟩
  case turn =>
    rintro n _ ⟨lo', hi', tl', th', rest, h, tk, rfl, F, N, e1, e2, e3, e4⟩
    k_steps
    refine WhlIf.dec (fun c => ?_) fun c => ?_
    · have c' : lo' < hi' := by omega
      have em := fdiv2 lo' hi'
      subst e1
      rw [bis_step p lo' hi' c'] at e4
      k_steps
      · rename _ < x => cx
        rename Fr _ _ _ _ => F9
        rw [em] at F9
        refine WPost.nx (hi' - ((lo' + hi') / 2 + 1)) (by omega) ⟨(lo' + hi') / 2 + 1, hi', _, _, _, _, _, rfl, fr_norm _ F9 (by walk_at "M names"), by assumption, rfl, by omega, by omega, ?_⟩
        rw [if_neg (by rw [← hp]; simpa using cx)] at e4
        exact e4
      · rename ¬ _ < x => cx
        rename Fr _ _ _ _ => F9
        rw [em] at F9
        refine WPost.nx ((lo' + hi') / 2 - lo') (by omega) ⟨lo', (lo' + hi') / 2, _, _, _, _, _, rfl, fr_norm _ F9 (by walk_at "M names"), by assumption, rfl, by omega, by omega, ?_⟩
        rw [if_pos (by rw [← hp]; simpa using cx)] at e4
        exact e4
    · k_steps
      have e5 : bis p n lo' hi' = lo' := bis_done _ _ _ _ (by omega)
      rw [e5] at e4
      rw [← e4]
      exact ⟨_, _, _, _, _, rfl, F, N, _, rfl, rfl⟩

example : True := by
  k_with "call ref" => ((with_reducible show wpAny _ _ (call (Value.ref 39) _ _) _ _ _); k_dflt (refine' use_fs (bisR_fs ?X ?T _ _ _ _ _ _ ?hss _ _ _ _ ?hlo ?hhi _ _ ?h1 ?h2 ?h3 ?h4) ?B ?F ?N ?hf ?hk ?hd ?hu ?hp ?_; (case B => assumption); (case X => assumption); (case T => assumption); (case F => k_asm); (case N => k_asm); (case hf => rfl); (case hk => rfl); (case hp => walk_at "M picks"); (case hss => walk_at "M strs"); (case hlo => walk_at "M nat"); (case hhi => walk_at "M nat"); (case h1 => omega); (case h2 => walk_at "M le"); (case h3 => walk_at "M le"); (case h4 => walk_at "M lens"); (case hd => ktr_room); (case hu => ktr_units); k_whole); intro v' tl' h' tk' hr' F' N' hn'; (obtain ⟨t', hv', ht'⟩ := hr'); (subst hv'); (subst ht'); (clear hn'); (try dsimp only [List.nil_append, List.cons_append] at N'); (try k_sweep))
  k_with "call ref" => ((with_reducible show wpAny _ _ (call (Value.ref 57) _ _) _ _ _); k_dflt (refine' use_fs (bisL_fs ?X ?T _ _ _ _ _ _ ?hss _ _ _ _ ?hlo ?hhi _ _ ?h1 ?h2 ?h3 ?h4) ?B ?F ?N ?hf ?hk ?hd ?hu ?hp ?_; (case B => assumption); (case X => assumption); (case T => assumption); (case F => k_asm); (case N => k_asm); (case hf => rfl); (case hk => rfl); (case hp => walk_at "M picks"); (case hss => walk_at "M strs"); (case hlo => walk_at "M nat"); (case hhi => walk_at "M nat"); (case h1 => omega); (case h2 => walk_at "M le"); (case h3 => walk_at "M le"); (case h4 => walk_at "M lens"); (case hd => ktr_room); (case hu => ktr_units); k_whole); intro v' tl' h' tk' hr' F' N' hn'; (obtain ⟨t', hv', ht'⟩ := hr'); (subst hv'); (subst ht'); (clear hn'); (try dsimp only [List.nil_append, List.cons_append] at N'); (try k_sweep))
  trivial
end

noncomputable section
theorem bis_le (p : Nat → Bool) : ∀ (n lo hi : Nat), lo ≤ hi → lo ≤ bis p n lo hi ∧ bis p n lo hi ≤ hi := by
  intro n
  induction n with
  | zero => intro lo hi h; exact ⟨Nat.le_refl _, h⟩
  | succ n ih =>
    intro lo hi h
    unfold bis
    split
    · split
      · have := ih lo ((lo + hi) / 2) (by omega); omega
      · have := ih ((lo + hi) / 2 + 1) hi (by omega); omega
    · omega
theorem bisR_le {ss : List Str} {x : Int} {lo hi : Nat} (h : lo ≤ hi) : lo ≤ bisR ss x lo hi ∧ bisR ss x lo hi ≤ hi := bis_le _ _ _ _ h
theorem bisL_le {ss : List Str} {x : Int} {lo hi : Nat} (h : lo ≤ hi) : lo ≤ bisL ss x lo hi ∧ bisL ss x lo hi ≤ hi := bis_le _ _ _ _ h

theorem insR_fs (X : (Kf w.params).In b₀) (T : Top topProg loose mean mg mb b₀) (x : Str) (tx : Tok) (la : Addr) (its : List Value) (nn : Nat) (ss : List Str) (hss : StrsAre its ss) (lo hi : Nat) (loI hiI : Int) (hlo : loI = lo) (hhi : hiI = hi) (tl th : Tok) (h1 : lo ≤ hi) (h2 : hi ≤ its.length) (h3 : its.length ≤ 900) (h4 : ∀ s ∈ ss, s.length ≤ 1000) (hx : x.length ≤ 1000) :
    FS P1 w b₀ 6 60 (.ref 30) ⟨[.ref la, .str x tx, .int loI tl, .int hiI th], [("key", .ref 202)]⟩ [(la, listOf its.toArray nn)]
      (fun v tl' => v = .none ∧ tl' = [(la, listOf (insL its (bisR ss (x.length : Int) lo hi) (.str x tx)).toArray (nn + 1))]) := by
  subst hlo hhi
  refine' enter (binds := [("a", .ref la), ("x", .str x tx), ("lo", .int lo tl), ("hi", .int hi th), ("key", .ref 202)]) X T ?ho ?hcd ?hb ?hl ?h ?h1 ?h2 ?h3 ?h4 ?h5
  walk_at "M enter"
  intro dp un gd fr s g L' h₁ hd hu F N B st Xg Tg
  (conv in (PySem.execs _ _) => arg 1; whnf)
  have hb := bisR_le (ss := ss) (x := (x.length : Int)) h1
  (try dsimp only)
  k_steps
  exact ⟨_, _, _, _, _, rfl, by assumption, by assumption, rfl, rfl⟩
theorem insL_fs (X : (Kf w.params).In b₀) (T : Top topProg loose mean mg mb b₀) (x : Str) (tx : Tok) (la : Addr) (its : List Value) (nn : Nat) (ss : List Str) (hss : StrsAre its ss) (lo hi : Nat) (loI hiI : Int) (hlo : loI = lo) (hhi : hiI = hi) (tl th : Tok) (h1 : lo ≤ hi) (h2 : hi ≤ its.length) (h3 : its.length ≤ 900) (h4 : ∀ s ∈ ss, s.length ≤ 1000) (hx : x.length ≤ 1000) :
    FS P1 w b₀ 6 60 (.ref 48) ⟨[.ref la, .str x tx, .int loI tl, .int hiI th], [("key", .ref 202)]⟩ [(la, listOf its.toArray nn)]
      (fun v tl' => v = .none ∧ tl' = [(la, listOf (insL its (bisL ss (x.length : Int) lo hi) (.str x tx)).toArray (nn + 1))]) := by
  subst hlo hhi
  refine' enter (binds := [("a", .ref la), ("x", .str x tx), ("lo", .int lo tl), ("hi", .int hi th), ("key", .ref 202)]) X T ?ho ?hcd ?hb ?hl ?h ?h1 ?h2 ?h3 ?h4 ?h5
  walk_at "M enter"
  intro dp un gd fr s g L' h₁ hd hu F N B st Xg Tg
  (conv in (PySem.execs _ _) => arg 1; whnf)
  have hb := bisL_le (ss := ss) (x := (x.length : Int)) h1
  (try dsimp only)
  k_steps
  exact ⟨_, _, _, _, _, rfl, by assumption, by assumption, rfl, rfl⟩

example : True := by
  k_with "call ref" => ((with_reducible show wpAny _ _ (call (Value.ref 30) _ _) _ _ _); k_dflt (refine' use_fs (insR_fs ?X ?T _ _ _ _ _ _ ?hss _ _ _ _ ?hlo ?hhi _ _ ?h1 ?h2 ?h3 ?h4 ?hx) ?B ?F ?N ?hf ?hk ?hd ?hu ?hp ?_; (case B => assumption); (case X => assumption); (case T => assumption); (case F => k_asm); (case N => k_asm); (case hf => rfl); (case hk => rfl); (case hp => walk_at "M picks"); (case hss => walk_at "M strs"); (case hlo => walk_at "M nat"); (case hhi => walk_at "M nat"); (case h1 => omega); (case h2 => walk_at "M le"); (case h3 => walk_at "M le"); (case h4 => walk_at "M lens"); (case hx => walk_at "M len"); (case hd => ktr_room); (case hu => ktr_units); k_whole); intro v' tl' h' tk' hr' F' N' hn'; (obtain ⟨hv', ht'⟩ := hr'); (subst hv'); (subst ht'); (clear hn'); (try dsimp only [List.nil_append, List.cons_append] at N'); (try k_sweep))
  k_with "call ref" => ((with_reducible show wpAny _ _ (call (Value.ref 48) _ _) _ _ _); k_dflt (refine' use_fs (insL_fs ?X ?T _ _ _ _ _ _ ?hss _ _ _ _ ?hlo ?hhi _ _ ?h1 ?h2 ?h3 ?h4 ?hx) ?B ?F ?N ?hf ?hk ?hd ?hu ?hp ?_; (case B => assumption); (case X => assumption); (case T => assumption); (case F => k_asm); (case N => k_asm); (case hf => rfl); (case hk => rfl); (case hp => walk_at "M picks"); (case hss => walk_at "M strs"); (case hlo => walk_at "M nat"); (case hhi => walk_at "M nat"); (case h1 => omega); (case h2 => walk_at "M le"); (case h3 => walk_at "M le"); (case h4 => walk_at "M lens"); (case hx => walk_at "M len"); (case hd => ktr_room); (case hu => ktr_units); k_whole); intro v' tl' h' tk' hr' F' N' hn'; (obtain ⟨hv', ht'⟩ := hr'); (subst hv'); (subst ht'); (clear hn'); (try dsimp only [List.nil_append, List.cons_append] at N'); (try k_sweep))
  trivial
end

noncomputable section
def rowTurn (bi : List Str → Int → Nat → Nat → Nat) (k : Nat) (st : List Str × Nat) : List Str × Nat :=
  if st.1.getD (k + st.2) "" ≠ "" then
    if bisR (delL st.1 (k + st.2)) ((st.1.getD (k + st.2) "").length : Int) k (k + st.2) < k + st.2 then
      (insL (insL (delL (delL st.1 (k + st.2)) (bisR (delL st.1 (k + st.2)) ((st.1.getD (k + st.2) "").length : Int) k (k + st.2)))
          (bi (delL (delL st.1 (k + st.2)) (bisR (delL st.1 (k + st.2)) ((st.1.getD (k + st.2) "").length : Int) k (k + st.2))) ((st.1.getD (k + st.2) "").length : Int) k (k + (st.2 - 1))) (st.1.getD (k + st.2) "")) k
        ((delL st.1 (k + st.2)).getD (bisR (delL st.1 (k + st.2)) ((st.1.getD (k + st.2) "").length : Int) k (k + st.2)) ""), st.2 - 1 + 1)
    else (insL (insL (delL st.1 (k + st.2)) (bi (delL st.1 (k + st.2)) ((st.1.getD (k + st.2) "").length : Int) k (k + st.2)) (st.1.getD (k + st.2) "")) k "", st.2 + 1)
  else if st.2 = 0 then (insL (delL st.1 (k + st.2)) k "", 0) else (delL st.1 (k + st.2), st.2 - 1)
def rowFrom (bi : List Str → Int → Nat → Nat → Nat) (bs : List Str) : Nat → List Str × Nat
  | 0 => (bs, 0)
  | k + 1 => rowTurn bi k (rowFrom bi bs k)
theorem opq {M : Model} {A : Around} {α : Type} {c : Sem α} {Q : α → Shared → Prop} {E : Value → Shared → Prop} {s : Shared} (h : ∀ Q' : α → Shared → Prop, (∀ f s', Q f s' → Q' f s') → wpAny M A c Q' E s) : wpAny M A c Q E s := h Q fun _ _ z => z
section
variable {bi : List Str → Int → Nat → Nat → Nat} {k z : Nat} {ls : List Str}
theorem rowTurn_a (c1 : ls.getD (k + z) "" ≠ "") (c2 : bisR (delL ls (k + z)) ((ls.getD (k + z) "").length : Int) k (k + z) < k + z) :
    rowTurn bi k (ls, z) = (insL (insL (delL (delL ls (k + z)) (bisR (delL ls (k + z)) ((ls.getD (k + z) "").length : Int) k (k + z)))
          (bi (delL (delL ls (k + z)) (bisR (delL ls (k + z)) ((ls.getD (k + z) "").length : Int) k (k + z))) ((ls.getD (k + z) "").length : Int) k (k + (z - 1))) (ls.getD (k + z) "")) k
        ((delL ls (k + z)).getD (bisR (delL ls (k + z)) ((ls.getD (k + z) "").length : Int) k (k + z)) ""), z - 1 + 1) := by
  unfold rowTurn; dsimp only; rw [if_pos c1, if_pos c2]
theorem rowTurn_b (c1 : ls.getD (k + z) "" ≠ "") (c2 : ¬ bisR (delL ls (k + z)) ((ls.getD (k + z) "").length : Int) k (k + z) < k + z) :
    rowTurn bi k (ls, z) = (insL (insL (delL ls (k + z)) (bi (delL ls (k + z)) ((ls.getD (k + z) "").length : Int) k (k + z)) (ls.getD (k + z) "")) k "", z + 1) := by
  unfold rowTurn; dsimp only; rw [if_pos c1, if_neg c2]
theorem rowTurn_c (c1 : ¬ ls.getD (k + z) "" ≠ "") (c2 : z = 0) : rowTurn bi k (ls, z) = (insL (delL ls (k + z)) k "", 0) := by
  unfold rowTurn; dsimp only; rw [if_neg c1, if_pos c2]
theorem rowTurn_d (c1 : ¬ ls.getD (k + z) "" ≠ "") (c2 : ¬ z = 0) : rowTurn bi k (ls, z) = (delL ls (k + z), z - 1) := by
  unfold rowTurn; dsimp only; rw [if_neg c1, if_neg c2]
end
/-- what holds ahead of each turn of the row -/
inductive RowInv (bi : List Str → Int → Nat → Nat → Nat) (bs : List Str) (D bx : Addr) (pa : Addr) (ys : List Value) (nb : Nat) (i : Nat) : (Str → Option Value) → Led → Prop
  | mk (its : List Value) (n' sz : Nat) (t : Tok) (rest : Str → Option Value) (ls : List Str) (e1 : its.length = ys.length + sz) (e2 : sz ≤ i) (e3 : StrsAre its ls) (e4 : rowFrom bi bs i = (ls, sz)) (e5 : ∀ s ∈ ls, s.length ≤ 1000)
      (m : Str → Option Value) (hm : m = fm rest [("line", .ref D), ("boxes", .ref bx), ("put", .ref pa), ("size", .int ((sz : Nat) : Int) t)]) : RowInv bi bs D bx pa ys nb i m [(D, listOf its.toArray n'), (bx, listOf ys.toArray nb)]
def PutFS (w : World) (loose : List Str) (mean : ExcName → Option Value) (mg mb : Str → Option Value) (pa : Addr) (bi : List Str → Int → Nat → Nat → Nat) : Prop :=
  ∀ {b₀ : Heap} (_ : (Kf w.params).In b₀) (_ : Top topProg loose mean mg mb b₀) (x : Str) (tx : Tok) (la : Addr) (its : List Value) (nn : Nat) (ss : List Str) (_ : StrsAre its ss) (lo hi : Nat) (loI hiI : Int) (_ : loI = lo) (_ : hiI = hi) (tl th : Tok) (_ : lo ≤ hi) (_ : hi ≤ its.length) (_ : its.length ≤ 900) (_ : ∀ s ∈ ss, s.length ≤ 1000) (_ : x.length ≤ 1000),
    FS P1 w b₀ 6 60 (.ref pa) ⟨[.ref la, .str x tx, .int loI tl, .int hiI th], [("key", .ref 202)]⟩ [(la, listOf its.toArray nn)]
      (fun v tl' => v = .none ∧ tl' = [(la, listOf (insL its (bi ss (x.length : Int) lo hi) (.str x tx)).toArray (nn + 1))])
example : True := by
  k_with "callWith ref" => (k_here; (with_reducible show wpAny _ _ (callWith _ (Value.ref pa) _ _ _) _ _ _); k_dflt (refine' callWith_KW ?k1 hkeep ?k3 ?_; (case k1 => k_asm); (case k3 => exact rfl); k_whole))
  k_with "call ref" => ((with_reducible show wpAny _ _ (call (Value.ref pa) _ _) _ _ _); k_dflt (refine' use_fs (hput ?X ?T _ _ _ _ _ _ ?hss _ _ _ _ ?hlo ?hhi _ _ ?h1 ?h2 ?h3 ?h4 ?hx) ?B ?F ?N ?hf ?hk ?hd ?hu ?hp ?_; (case B => assumption); (case X => assumption); (case T => assumption); (case F => k_asm); (case N => k_asm); (case hf => rfl); (case hk => rfl); (case hp => walk_at "M picks"); (case hss => walk_at "M strs"); (case hlo => walk_at "M nat"); (case hhi => walk_at "M nat"); (case h1 => omega); (case h2 => walk_at "M le"); (case h3 => walk_at "M le"); (case h4 => walk_at "M lens"); (case hx => walk_at "M len"); (case hd => ktr_room); (case hu => ktr_units); k_whole); intro v' tl' h' tk' hr' F' N' hn'; (obtain ⟨hv', ht'⟩ := hr'); (subst hv'); (subst ht'); (clear hn'); (try dsimp only [List.nil_append, List.cons_append] at N'); (try k_sweep))
  trivial

theorem row_fs (pa : Addr) (bi : List Str → Int → Nat → Nat → Nat) (hbi : ∀ {ss : List Str} {x : Int} {lo hi : Nat}, lo ≤ hi → lo ≤ bi ss x lo hi ∧ bi ss x lo hi ≤ hi) (hput : PutFS w loose mean mg mb pa bi) (hkeep : keepIn (Kf w.params) (.ref pa) = true)
    (X : (Kf w.params).In b₀) (T : Top topProg loose mean mg mb b₀) (bx : Addr) (bits : List Value) (nb : Nat) (bs : List Str) (hbs : StrsAre bits bs) (hn : bits.length ≤ 100) (h4 : ∀ s ∈ bs, s.length ≤ 1000) :
    FS P1 w b₀ 9 90 (.ref 207) ⟨[.ref bx, .ref pa], []⟩ [(bx, listOf bits.toArray nb)]
      (fun v tl' => ∃ D its n', v = .ref D ∧ D ≠ bx ∧ StrsAre its (rowFrom bi bs bits.length).1 ∧ tl' = [(D, listOf its.toArray n'), (bx, listOf bits.toArray nb)]) := by
  refine' enter (binds := [("boxes", .ref bx), ("put", .ref pa)]) X T ?ho ?hcd ?hb ?hl ?h ?h1 ?h2 ?h3 ?h4 ?h5
  walk_at "M enter"
  intro dp un gd fr s g L' h₁ hd hu F N B st Xg Tg
  (conv in (PySem.execs _ _) => arg 1; whnf)
  (try dsimp only)
  k_steps
  unfold Stop
  refine' comp_assign (fun _ => true) (fun a b => b = a) ?hsw ?hclos ?hcell ?hkind ?hnames ?hx ?hy ?hp ?hs ?_
  walk_at "M compA"
  k_steps
  unfold Stop
  refine' compA_src (src_list rfl N (by k_mem)) (by omega) F N ?g1 ?g2 ?g3
  case g1 => intros; exact CTest.none
  case g2 =>
    intro C i v s₂ m₂ E' hv _ hn hm _
    exact cname hn hm rfl rfl (by decide) ⟨rfl, keeps_refl⟩
  case g3 =>
    intro D ys vs' n' h' tk F N hD hlen hP hG
    rw [filter_tt] at hG
    have e := paired_eq hG
    have e' := walked_is (items := bits.toArray) (by simpa using hlen) (by simpa using hP)
    simp only [List.toList_toArray] at e'
    subst e'
    subst e
    clear hG hP hlen
    k_steps
    rename IsRange _ _ _ _ _ _ _ _ => hr
    unfold Stop
    refine' range_inv (RowInv bi bs D bx pa ys nb) (n := ys.length) (by omega) rfl hr (by k_asm) (by k_asm) ?j0 ?turn ?done
    case j0 => exact .mk ys _ 0 _ _ bs rfl (Nat.le_refl _) hbs rfl h4 _ (fm_self _ (by walk_at "M names"))
    case done =>
      intro m₁ news₁ h tk I F N
      cases I with
      | mk its n' sz t rest ls e1 e2 e3 e4 e5 _ hm =>
      subst hm
      k_steps
      exact ⟨_, _, _, _, _, rfl, F, N, D, its, n', rfl, fun e => hD _ (.head _) e.symm, by rw [e4]; exact e3, rfl⟩
    case turn =>
      intro i m₁ news₁ t h tk I ito hi J hI F N hO
      refine opq fun Q' hQ => ?_
      cases J with
      | mk its n' sz t' rest ls e1 e2 e3 e4 e5 _ hm =>
      subst hm
      k_lt hI
      have hT : rowFrom bi bs (i + 1) = rowTurn bi i (ls, sz) := congrArg (rowTurn bi i) e4
      have hb := bisR_le (ss := delL ls (i + sz)) (x := ((ls.getD (i + sz) "").length : Int)) (lo := i) (hi := i + sz) (Nat.le_add_right _ _)
      have hb3 := hbi (ss := delL ls (i + sz)) (x := ((ls.getD (i + sz) "").length : Int)) (lo := i) (hi := i + sz) (Nat.le_add_right _ _)
      have hb2 := hbi (ss := delL (delL ls (i + sz)) (bisR (delL ls (i + sz)) ((ls.getD (i + sz) "").length : Int) i (i + sz))) (x := ((ls.getD (i + sz) "").length : Int)) (lo := i) (hi := i + (sz - 1)) (Nat.le_add_right _ _)
      have hw : (ls.getD (i + sz) "").length ≤ 1000 := getD_len e5 _
      have hl1 := delL_length its (i + sz) (by omega)
      k_steps
      · rename (_ : Int) < _ => c2
        rename (_ != _) = true => c1
        have hl2 := delL_length (delL its (i + sz)) (bisR (delL ls (i + sz)) ((ls.getD (i + sz) "").length : Int) i (i + sz)) (by omega)
        refine hQ _ _ ?_
        refine LPost.nx (by assumption) (by assumption) [(D, _), (bx, _)] (by k_mem) (by k_subL) (by walk_at "M all") (.mk _ _ (sz - 1 + 1) _ _ _ ?_ (by omega) (strs_ins (strs_ins (strs_del (strs_del e3 _) _) _ _ _) _ _ _) (hT.trans (rowTurn_a (by simpa using c1) (Int.ofNat_lt.mp c2))) (len_ins (len_ins (len_del (len_del e5)) hw) (getD_len (len_del e5) _)) _ (fm_self _ (by walk_at "M names")))
        rw [insL_length, insL_length]; omega
      · rename ¬ (_ : Int) < _ => c2
        rename (_ != _) = true => c1
        refine hQ _ _ ?_
        refine LPost.nx (by assumption) (by assumption) [(D, _), (bx, _)] (by k_mem) (by k_subL) (by walk_at "M all") (.mk _ _ (sz + 1) _ _ _ ?_ (by omega) (strs_ins (strs_ins (strs_del e3 _) _ _ _) _ _ _) (hT.trans (rowTurn_b (by simpa using c1) (fun h => c2 (Int.ofNat_lt.mpr h)))) (len_ins (len_ins (len_del e5) hw) (Nat.zero_le _)) _ (fm_self _ (by walk_at "M names")))
        rw [insL_length, insL_length]; omega
      · rename (_ : Int) = 0 => c2
        have c2' : sz = 0 := Int.ofNat_eq_zero.mp c2
        subst c2'
        rename (_ != _) = false => c1
        refine hQ _ _ ?_
        refine LPost.nx (by assumption) (by assumption) [(D, _), (bx, _)] (by k_mem) (by k_subL) (by walk_at "M all") (.mk _ _ 0 _ _ _ ?_ (Nat.zero_le _) (strs_ins (strs_del e3 _) _ _ _) (hT.trans (rowTurn_c (by simpa using c1) rfl)) (len_ins (len_del e5) (Nat.zero_le _)) _ (fm_self _ (by walk_at "M names")))
        rw [insL_length]; omega
      · rename ¬ (_ : Int) = 0 => c2
        have c2' : ¬ sz = 0 := fun h => c2 (Int.ofNat_eq_zero.mpr h)
        rename (_ != _) = false => c1
        refine hQ _ _ ?_
        exact LPost.nx (by assumption) (by assumption) [(D, _), (bx, _)] (by k_mem) (by k_subL) (by walk_at "M all") (.mk _ _ (sz - 1) _ _ _ (by omega) (by omega) (strs_del e3 _) (hT.trans (rowTurn_d (by simpa using c1) c2')) (len_del e5) _ (fm_self _ (by walk_at "M names")))
theorem rowR_fs (X : (Kf w.params).In b₀) (T : Top topProg loose mean mg mb b₀) (bx : Addr) (bits : List Value) (nb : Nat) (bs : List Str) (hbs : StrsAre bits bs) (hn : bits.length ≤ 100) (h4 : ∀ s ∈ bs, s.length ≤ 1000) :
    FS P1 w b₀ 9 90 (.ref 207) ⟨[.ref bx, .ref 30], []⟩ [(bx, listOf bits.toArray nb)]
      (fun v tl' => ∃ D its n', v = .ref D ∧ D ≠ bx ∧ StrsAre its (rowFrom bisR bs bits.length).1 ∧ tl' = [(D, listOf its.toArray n'), (bx, listOf bits.toArray nb)]) :=
  row_fs 30 bisR bisR_le (fun X T x tx la its nn ss hss lo hi loI hiI hlo hhi tl th h1 h2 h3 h4 hx => insR_fs X T x tx la its nn ss hss lo hi loI hiI hlo hhi tl th h1 h2 h3 h4 hx) (by k_is) X T bx bits nb bs hbs hn h4
theorem rowL_fs (X : (Kf w.params).In b₀) (T : Top topProg loose mean mg mb b₀) (bx : Addr) (bits : List Value) (nb : Nat) (bs : List Str) (hbs : StrsAre bits bs) (hn : bits.length ≤ 100) (h4 : ∀ s ∈ bs, s.length ≤ 1000) :
    FS P1 w b₀ 9 90 (.ref 207) ⟨[.ref bx, .ref 48], []⟩ [(bx, listOf bits.toArray nb)]
      (fun v tl' => ∃ D its n', v = .ref D ∧ D ≠ bx ∧ StrsAre its (rowFrom bisL bs bits.length).1 ∧ tl' = [(D, listOf its.toArray n'), (bx, listOf bits.toArray nb)]) :=
  row_fs 48 bisL bisL_le (fun X T x tx la its nn ss hss lo hi loI hiI hlo hhi tl th h1 h2 h3 h4 hx => insL_fs X T x tx la its nn ss hss lo hi loI hiI hlo hhi tl th h1 h2 h3 h4 hx) (by k_is) X T bx bits nb bs hbs hn h4

example : True := by
  k_with "call ref" => ((with_reducible show wpAny _ _ (call (Value.ref 207) [Value.ref _, Value.ref 30] _) _ _ _); k_dflt (refine' use_fs (rowR_fs ?X ?T _ _ _ _ ?hss ?h3 ?h4) ?B ?F ?N ?hf ?hk ?hd ?hu ?hp ?_; (case B => assumption); (case X => assumption); (case T => assumption); (case F => k_asm); (case N => k_asm); (case hf => rfl); (case hk => rfl); (case hp => walk_at "M picks"); (case hss => walk_at "M strs"); (case h3 => walk_at "M le"); (case h4 => walk_at "M lens"); (case hd => ktr_room); (case hu => ktr_units); k_whole); intro v' tl' h' tk' hr' F' N' hn'; (obtain ⟨D', its', n', hv', hne', hS', ht'⟩ := hr'); (subst hv'); (subst ht'); (have hO' := off_one hn' hne'); (clear hn'); (try dsimp only [List.nil_append, List.cons_append] at N'); (try k_sweep))
  k_with "call ref" => ((with_reducible show wpAny _ _ (call (Value.ref 207) [Value.ref _, Value.ref 48] _) _ _ _); k_dflt (refine' use_fs (rowL_fs ?X ?T _ _ _ _ ?hss ?h3 ?h4) ?B ?F ?N ?hf ?hk ?hd ?hu ?hp ?_; (case B => assumption); (case X => assumption); (case T => assumption); (case F => k_asm); (case N => k_asm); (case hf => rfl); (case hk => rfl); (case hp => walk_at "M picks"); (case hss => walk_at "M strs"); (case h3 => walk_at "M le"); (case h4 => walk_at "M lens"); (case hd => ktr_room); (case hu => ktr_units); k_whole); intro v' tl' h' tk' hr' F' N' hn'; (obtain ⟨D', its', n', hv', hne', hS', ht'⟩ := hr'); (subst hv'); (subst ht'); (have hO' := off_one hn' hne'); (clear hn'); (try dsimp only [List.nil_append, List.cons_append] at N'); (try k_sweep))
  trivial
end
example : True := by
  k_with_none
  trivial
example : True := by
  k_with "M enter" => (
  (case ho => k_is)
  (case hcd => k_is)
  (case hb => first | exact fun s Xs => BindsTo.of_eq rfl | exact fun s Xs => binds_K Xs rfl (by k_is) rfl rfl rfl)
  (case hl => exact locs rfl)
  (case h1 => decide)
  (case h2 => decide)
  (case h3 => exact rfl)
  (case h4 => exact rfl)
  (case h5 => exact rfl))
  k_with "M names" => (repeat' (first | exact List.forall_mem_nil _ | (refine List.forall_mem_cons.mpr ⟨?nm, ?_⟩; (case nm => rfl))))
  trivial
example : True := by
  k_with "M ne" => first | assumption | exact Ne.symm (by assumption) | k_ne
  trivial
example : True := by
  k_with "M len" => first | assumption | exact getD_len (by assumption) _ | omega
  k_with "M lens" => first | assumption | exact len_del (by assumption) | exact len_del (len_del (by assumption))
  k_with "M strs" => first | assumption | exact strs_del (by assumption) _ | exact strs_del (strs_del (by assumption) _) _
  k_with "M nat" => first | with_reducible exact fdiv2 _ _ | rfl | exact (Int.natCast_add _ _).symm | omega
  k_with "M le" => first | omega | ((try simp (disch := omega) only [delL_length, insL_length]); omega)
  k_with "subscriptTail Name Name ref int" => (k_here; k_dflt (refine' item_strsN ?N ?m ?h _ ?k ?l ?f ?_ ?hs ?hg; (case N => k_asm); (case m => k_mem); (case h => assumption); (case k => walk_at "M nat"); (case l => omega); (case f => omega); (case hs => with_unfolding_all rfl); (case hg => (intro _; with_unfolding_all rfl)); k_whole); intro tk')
  k_with "subscriptTail Name BinOp ref int" => (k_here; k_dflt (refine' item_strsN ?N ?m ?h _ ?k ?l ?f ?_ ?hs ?hg; (case N => k_asm); (case m => k_mem); (case h => assumption); (case k => walk_at "M nat"); (case l => omega); (case f => omega); (case hs => with_unfolding_all rfl); (case hg => (intro _; with_unfolding_all rfl)); k_whole); intro tk')
  k_with "exec While Compare cons nil" => refine Stop.out ?_
  k_with "call builtin:list.insert" => (k_here; (with_reducible show wpAny _ _ (call (Value.builtin _) [Value.ref _, Value.int _ _, _]) _ _ _); k_dflt (refine' ins_N ?F ?N _ ?k ?i ?l ?U ?_; (case F => k_asm); (case N => k_asm); (case U => k_upd); (case k => walk_at "M nat"); (case i => walk_at "M le"); (case l => walk_at "M le"); k_whole); intro h' F' N'; (try dsimp only [List.nil_append, List.cons_append] at N'); (try k_sweep))
  k_with "call builtin:list.pop" => (k_here; (with_reducible show wpAny _ _ (call (Value.builtin _) [Value.ref _, Value.int _ _]) _ _ _); k_dflt (refine' popS_N ?F ?N ?h _ ?k ?i ?l ?U ?_; (case F => k_asm); (case N => k_asm); (case U => k_upd); (case h => walk_at "M strs"); (case k => walk_at "M nat"); (case i => walk_at "M le"); (case l => walk_at "M le"); k_whole); intro h' tk' F' N'; (try dsimp only [List.nil_append, List.cons_append] at N'); (try k_sweep))
  k_with "pyIter ref" => ((with_reducible show wpAny _ _ (pyIter (Value.ref _)) (CompPostA _ _ _ _ _ _ _ _ _ _) _ _); refine Stop.out ?_)
  k_with "pyIter ref" => ((with_reducible show wpAny _ _ (pyIter (Value.ref _)) (fun it s₂ => LoopAtV _ _ _ _ _ _ _ _ _ it s₂) _ _); refine Stop.out ?_)
  k_with "call builtin:len" => (k_here; (with_reducible show wpAny _ _ (call (Value.builtin "len") [Value.ref _]) _ _ _); k_dflt (refine' len_N ?N ?m ?l ?_; (case N => k_asm); (case m => k_mem); (case l => walk_at "M le"); k_whole); intro t' tk')
  k_with "binaryOp Sub int int" => (k_here; (with_reducible refine' sub_natN ?h ?_; (case h => omega)); intro t' tk')
  k_with "binaryOp Sub int int" => (k_here; (with_reducible refine' sub_nat1 ?h ?_; (case h => omega)); intro t' tk')
  k_with "LPost" => refine Stop.out ?_
  k_with "WPost" => refine Stop.out ?_
  k_with "Done" => refine Stop.out ?_
  k_with "call builtin:len" => (k_here; (with_reducible show wpAny _ _ (call (Value.builtin "len") [Value.str _ _]) _ _ _); k_dflt (refine' lenS_N ?l ?_; (case l => walk_at "M len"); k_whole); intro t' tk')
  k_with "eval ListComp" => refine Stop.out ?_
  k_with "exec Assign cons ListComp" => refine Stop.out ?_
  k_with "CPost" => refine Stop.out ?_
  k_with "CPostA" => refine Stop.out ?_
  k_with "EPost" => refine Stop.out ?_
  trivial
example : True := by
  k_with "call builtin:list.append" => (k_here; (with_reducible show wpAny _ _ (call (Value.builtin _) [Value.ref _, _]) _ _ _); k_dflt (refine' app_N ?F ?N ?l ?U ?_; (case F => k_asm); (case N => k_asm); (case U => k_upd); (case l => walk_at "M le"); k_whole); intro h' F' N'; (try k_sweep))
  k_with "newList" => (k_here; k_dflt (refine' newList_N ?F ?N ?l ?_; (case F => k_asm); (case N => k_asm); (case l => exact Nat.le_of_ble_eq_true rfl); k_whole); intro D' h' F' N' l1 l2; (try (have l3 := l1; k_lt l3)); (try k_sweep))
  k_with "M enterC" => (
  (case ho => k_is)
  (case hcd => k_is)
  (case hb => first | exact fun s Xs => BindsTo.of_eq rfl | exact fun s Xs => binds_K Xs rfl (by k_is) rfl rfl rfl)
  (case hl => exact rfl)
  (case h2 => decide +kernel)
  (case h1 => decide)
  (case h3 => exact rfl)
  (case h4 => exact rfl)
  (case h5 => exact rfl))
  k_with "M comp" => (
  (case hclos => exact rfl)
  (case hcell => decide)
  (case hkind => exact rfl)
  (case hnames => decide)
  (case hx => exact rfl)
  (case hs => (intro _; exact rfl)))
  k_with "M compA" => (
  (case hsw => exact rfl)
  (case hclos => exact rfl)
  (case hcell => decide)
  (case hkind => exact rfl)
  (case hnames => decide)
  (case hx => exact rfl)
  (case hy => exact rfl)
  (case hp => exact rfl)
  (case hs => (intro _; exact rfl)))
  k_with "eval Name" => (k_here; (with_reducible show wpAny _ _ (eval (PySem.Expr.Name _ _) (compEnvC _ _ _ _)) _ _ _); k_dflt (first
  | (refine' cname ?n ?v ?k ?l ?d ?_; (case n => assumption); (case v => assumption); (case k => exact rfl); (case l => exact rfl); (case d => decide))
  | (refine' ccell ?N ?c ?m ?d ?k ?l ?b ?_; (case N => k_asm); (case c => exact rfl); (case m => k_mem); (case d => assumption); (case k => exact rfl); (case l => exact rfl); (case b => decide))
  | (refine' cbuilt ?F ?X ?T ?e ?v ?n ?g ?b ?k ?l ?d ?_; (case F => k_asm); (case X => k_asm); (case T => k_asm); (case e => k_is); (case v => boot_by_name); (case n => decide); (case g => exact rfl); (case b => exact rfl); (case k => exact rfl); (case l => exact rfl); (case d => decide))
  | (refine' cglob ?F ?X ?T ?e ?g ?k ?l ?d ?_; (case F => k_asm); (case X => k_asm); (case T => k_asm); (case e => k_is); (case g => exact rfl); (case k => exact rfl); (case l => exact rfl); (case d => decide))
  | fail))
  trivial
example : True := by
  k_with "call ref" => ((with_reducible show wpAny _ _ (call (Value.ref 202) [Value.str _ _] []) _ _ _); k_dflt (refine' use_fs (size_fs ?X ?T _ _ ?hx) ?B ?F ?N ?hf ?hk ?hd ?hu ?hp ?_; (case B => assumption); (case X => assumption); (case T => assumption); (case F => k_asm); (case N => k_asm); (case hf => rfl); (case hk => rfl); (case hp => walk_at "M picks"); (case hx => walk_at "M len"); (case hd => ktr_room); (case hu => ktr_units); k_whole); intro v' tl' h' tk' hr' F' N' hn'; (obtain ⟨t', hv', ht'⟩ := hr'); (subst hv'); (subst ht'); (clear hn'); (try dsimp only [List.nil_append, List.cons_append] at N'); (try k_sweep))
  trivial

example : True := by
  k_with "call ref" => ((with_reducible show wpAny _ _ (call (Value.ref 39) _ _) _ _ _); k_dflt (refine' use_fs (bisR_fs ?X ?T _ _ _ _ _ _ ?hss _ _ _ _ ?hlo ?hhi _ _ ?h1 ?h2 ?h3 ?h4) ?B ?F ?N ?hf ?hk ?hd ?hu ?hp ?_; (case B => assumption); (case X => assumption); (case T => assumption); (case F => k_asm); (case N => k_asm); (case hf => rfl); (case hk => rfl); (case hp => walk_at "M picks"); (case hss => walk_at "M strs"); (case hlo => walk_at "M nat"); (case hhi => walk_at "M nat"); (case h1 => omega); (case h2 => walk_at "M le"); (case h3 => walk_at "M le"); (case h4 => walk_at "M lens"); (case hd => ktr_room); (case hu => ktr_units); k_whole); intro v' tl' h' tk' hr' F' N' hn'; (obtain ⟨t', hv', ht'⟩ := hr'); (subst hv'); (subst ht'); (clear hn'); (try dsimp only [List.nil_append, List.cons_append] at N'); (try k_sweep))
  k_with "call ref" => ((with_reducible show wpAny _ _ (call (Value.ref 57) _ _) _ _ _); k_dflt (refine' use_fs (bisL_fs ?X ?T _ _ _ _ _ _ ?hss _ _ _ _ ?hlo ?hhi _ _ ?h1 ?h2 ?h3 ?h4) ?B ?F ?N ?hf ?hk ?hd ?hu ?hp ?_; (case B => assumption); (case X => assumption); (case T => assumption); (case F => k_asm); (case N => k_asm); (case hf => rfl); (case hk => rfl); (case hp => walk_at "M picks"); (case hss => walk_at "M strs"); (case hlo => walk_at "M nat"); (case hhi => walk_at "M nat"); (case h1 => omega); (case h2 => walk_at "M le"); (case h3 => walk_at "M le"); (case h4 => walk_at "M lens"); (case hd => ktr_room); (case hu => ktr_units); k_whole); intro v' tl' h' tk' hr' F' N' hn'; (obtain ⟨t', hv', ht'⟩ := hr'); (subst hv'); (subst ht'); (clear hn'); (try dsimp only [List.nil_append, List.cons_append] at N'); (try k_sweep))
  trivial

example : True := by
  k_with "call ref" => ((with_reducible show wpAny _ _ (call (Value.ref 30) _ _) _ _ _); k_dflt (refine' use_fs (insR_fs ?X ?T _ _ _ _ _ _ ?hss _ _ _ _ ?hlo ?hhi _ _ ?h1 ?h2 ?h3 ?h4 ?hx) ?B ?F ?N ?hf ?hk ?hd ?hu ?hp ?_; (case B => assumption); (case X => assumption); (case T => assumption); (case F => k_asm); (case N => k_asm); (case hf => rfl); (case hk => rfl); (case hp => walk_at "M picks"); (case hss => walk_at "M strs"); (case hlo => walk_at "M nat"); (case hhi => walk_at "M nat"); (case h1 => omega); (case h2 => walk_at "M le"); (case h3 => walk_at "M le"); (case h4 => walk_at "M lens"); (case hx => walk_at "M len"); (case hd => ktr_room); (case hu => ktr_units); k_whole); intro v' tl' h' tk' hr' F' N' hn'; (obtain ⟨hv', ht'⟩ := hr'); (subst hv'); (subst ht'); (clear hn'); (try dsimp only [List.nil_append, List.cons_append] at N'); (try k_sweep))
  k_with "call ref" => ((with_reducible show wpAny _ _ (call (Value.ref 48) _ _) _ _ _); k_dflt (refine' use_fs (insL_fs ?X ?T _ _ _ _ _ _ ?hss _ _ _ _ ?hlo ?hhi _ _ ?h1 ?h2 ?h3 ?h4 ?hx) ?B ?F ?N ?hf ?hk ?hd ?hu ?hp ?_; (case B => assumption); (case X => assumption); (case T => assumption); (case F => k_asm); (case N => k_asm); (case hf => rfl); (case hk => rfl); (case hp => walk_at "M picks"); (case hss => walk_at "M strs"); (case hlo => walk_at "M nat"); (case hhi => walk_at "M nat"); (case h1 => omega); (case h2 => walk_at "M le"); (case h3 => walk_at "M le"); (case h4 => walk_at "M lens"); (case hx => walk_at "M len"); (case hd => ktr_room); (case hu => ktr_units); k_whole); intro v' tl' h' tk' hr' F' N' hn'; (obtain ⟨hv', ht'⟩ := hr'); (subst hv'); (subst ht'); (clear hn'); (try dsimp only [List.nil_append, List.cons_append] at N'); (try k_sweep))
  trivial

example : True := by
  k_with "call ref" => ((with_reducible show wpAny _ _ (call (Value.ref 207) [Value.ref _, Value.ref 30] _) _ _ _); k_dflt (refine' use_fs (rowR_fs ?X ?T _ _ _ _ ?hss ?h3 ?h4) ?B ?F ?N ?hf ?hk ?hd ?hu ?hp ?_; (case B => assumption); (case X => assumption); (case T => assumption); (case F => k_asm); (case N => k_asm); (case hf => rfl); (case hk => rfl); (case hp => walk_at "M picks"); (case hss => walk_at "M strs"); (case h3 => walk_at "M le"); (case h4 => walk_at "M lens"); (case hd => ktr_room); (case hu => ktr_units); k_whole); intro v' tl' h' tk' hr' F' N' hn'; (obtain ⟨D', its', n', hv', hne', hS', ht'⟩ := hr'); (subst hv'); (subst ht'); (have hO' := off_one hn' hne'); (clear hn'); (try dsimp only [List.nil_append, List.cons_append] at N'); (try k_sweep))
  k_with "call ref" => ((with_reducible show wpAny _ _ (call (Value.ref 207) [Value.ref _, Value.ref 48] _) _ _ _); k_dflt (refine' use_fs (rowL_fs ?X ?T _ _ _ _ ?hss ?h3 ?h4) ?B ?F ?N ?hf ?hk ?hd ?hu ?hp ?_; (case B => assumption); (case X => assumption); (case T => assumption); (case F => k_asm); (case N => k_asm); (case hf => rfl); (case hk => rfl); (case hp => walk_at "M picks"); (case hss => walk_at "M strs"); (case h3 => walk_at "M le"); (case h4 => walk_at "M lens"); (case hd => ktr_room); (case hu => ktr_units); k_whole); intro v' tl' h' tk' hr' F' N' hn'; (obtain ⟨D', its', n', hv', hne', hS', ht'⟩ := hr'); (subst hv'); (subst ht'); (have hO' := off_one hn' hne'); (clear hn'); (try dsimp only [List.nil_append, List.cons_append] at N'); (try k_sweep))
  trivial


noncomputable section
theorem turned_fs (X : (Kf w.params).In b₀) (T : Top topProg loose mean mg mb b₀) (bx : Addr) (bits : List Value) (nb : Nat) (bs : List Str) (hbs : StrsAre bits bs) (hn : bits.length ≤ 200) :
    FS P1 w b₀ 9 90 (.ref 219) ⟨[.ref bx], []⟩ [(bx, listOf bits.toArray nb)]
      (fun v tl' => ∃ D its n', v = .ref D ∧ D ≠ bx ∧ StrsAre its bs.reverse ∧ tl' = [(D, listOf its.toArray n'), (bx, listOf bits.toArray nb)]) := by
  refine' enterC (binds := [("boxes", .ref bx)]) X T ?ho ?hcd ?hb ?hl ?h2 ?h ?h1 ?h3 ?h4 ?h5
  walk_at "M enterC"
  intro dp un gd fr s g L' h₁ tk cells hd hu F N Y lN B st Xg Tg
  (conv in (PySem.execs _ _) => arg 1; whnf)
  k_lt lN
  k_cells Y
  (try simp only [List.cons_append, List.nil_append] at N)
  (try dsimp only)
  k_steps
  unfold Stop
  refine' comp_eval (fun _ => true) (fun v y => ∃ (i : Nat) (t u : Tok), v = .int (i : Int) t ∧ y = .str (bs.getD (bits.length - 1 - i) "") u) ?hclos ?hcell ?hkind ?hnames ?hx ?hs ?_
  walk_at "M comp"
  k_steps
  unfold Stop
  rename IsRange _ _ _ _ _ _ _ _ => hr
  refine' comp_src (src_range (by omega) rfl hr) (by omega) (by k_asm) (by k_asm) ?g1 ?g2 ?g3
  case g1 => intros; exact CTest.none
  case g2 =>
    rintro C i v s₂ m₂ E' ⟨hi, t, rfl⟩ _ hn hm hk
    rename Fr _ _ _ _ => F9
    rename News _ _ _ _ => N9
    have F2 := F9.keeps hk
    have N2 := N9.grown hk
    k_steps
    exact ⟨⟨i, t, _, rfl, rfl⟩, _, _, rfl, fun _ _ e => e⟩
  case g3 =>
    intro D ys vs' n' h' tk F N hD hlen hP hG
    rw [filter_tt] at hG
    have hl := hbs.len_eq
    have hS := paired_strs hG (ss := bs.reverse) (by rw [List.length_reverse, ← hl]; exact hlen) hP (fun j v y ⟨hj, t, hv⟩ ⟨i, t', u, hv', hy⟩ => by
      subst hv
      cases hv'
      refine ⟨u, ?_⟩
      rw [hy, List.getD_eq_getElem?_getD, List.getD_eq_getElem?_getD, List.getElem?_reverse (by omega), hl])
    k_steps
    exact ⟨_, _, _, _, _, rfl, F, (fun q hq => N q (by rcases List.mem_cons.mp hq with rfl | hq; exact .head _; exact .tail _ (.tail _ hq))), D, ys, n', rfl, hD.ne' (by k_mem), hS, rfl⟩

example : True := by
  k_with "call ref" => ((with_reducible show wpAny _ _ (call (Value.ref 219) _ _) _ _ _); k_dflt (refine' use_fs (turned_fs ?X ?T _ _ _ _ ?hss ?h3) ?B ?F ?N ?hf ?hk ?hd ?hu ?hp ?_; (case B => assumption); (case X => assumption); (case T => assumption); (case F => k_asm); (case N => k_asm); (case hf => rfl); (case hk => rfl); (case hp => walk_at "M picks"); (case hss => walk_at "M strs"); (case h3 => walk_at "M le"); (case hd => ktr_room); (case hu => ktr_units); k_whole); intro v' tl' h' tk' hr' F' N' hn'; (obtain ⟨D', its', n', hv', hne', hS', ht'⟩ := hr'); (subst hv'); (subst ht'); (have hO' := off_one hn' hne'); (clear hn'); (try dsimp only [List.nil_append, List.cons_append] at N'); (try k_sweep))
  trivial
end

noncomputable section
section
variable {σ : Type}
def passTo (layS : σ → Str → σ) (takeS : σ → Str × σ) (z : Int) (bs : List Str) (q : σ) : Nat → List Str × σ
  | 0 => ([], q)
  | i + 1 =>
    if ((bs.getD i "").length : Int) = z then ((passTo layS takeS z bs q i).1 ++ [("" : Str)], layS (passTo layS takeS z bs q i).2 (bs.getD i ""))
    else if bs.getD i "" = "" then ((passTo layS takeS z bs q i).1 ++ [(takeS (passTo layS takeS z bs q i).2).1], (takeS (passTo layS takeS z bs q i).2).2)
    else ((passTo layS takeS z bs q i).1 ++ [bs.getD i ""], (passTo layS takeS z bs q i).2)
def walksTo (layS : σ → Str → σ) (takeS : σ → Str × σ) (zs : List Int) (bs : List Str) (q : σ) : Nat → List Str × σ
  | 0 => (bs, q)
  | i + 1 => passTo layS takeS (zs.getD i 0) (walksTo layS takeS zs bs q i).1 (walksTo layS takeS zs bs q i).2 bs.length
end
example : True := by
  k_with "callWith ref" => refine Stop.out ?_
  trivial
theorem walks_fs (X : (Kf w.params).In b₀) (T : Top topProg loose mean mg mb b₀) {σ : Type} (Rep : Nat → σ → Led → Prop) (layS : σ → Str → σ) (takeS : σ → Str × σ) (la ta : Addr)
    (hkeep : ∀ n q tl h, Rep n q tl → (∀ p ∈ tl, h.get? p.1 = some p.2) → (Kf w.params).In h → KeepOk (.ref la) h ∧ KeepOk (.ref ta) h)
    (hlay : ∀ n q tl x t, Rep (n + 1) q tl → x.length ≤ 1000 → FS P1 w b₀ 24 240 (.ref la) ⟨[.str x t], []⟩ tl (fun _ tl' => Rep n (layS q x) tl'))
    (htake : ∀ n q tl, Rep (n + 1) q tl → FS P1 w b₀ 24 240 (.ref ta) ⟨[], []⟩ tl (fun v tl' => ∃ t, v = .str (takeS q).1 t ∧ (takeS q).1.length ≤ 1000 ∧ Rep n (takeS q).2 tl'))
    (hless : ∀ n q tl, Rep (n + 1) q tl → Rep n q tl)
    (bx : Addr) (bits : List Value) (nb : Nat) (bs : List Str) (hbs : StrsAre bits bs) (hbl : bits.length ≤ 100) (hbw : ∀ s ∈ bs, s.length ≤ 1000)
    (zx : Addr) (zv : List Value) (nz : Nat) (zs : List Int) (hzs : IntsAre zv zs) (n0 : Nat) (q0 : σ) (tl0 : Led) (hR : Rep (n0 + zs.length * bits.length) q0 tl0)
    (hd1 : Off bx tl0) (hd2 : Off zx tl0) (hd3 : bx ≠ zx) :
    FS P1 w b₀ 28 300 (.ref 214) ⟨[.ref bx, .ref zx, .ref la, .ref ta], []⟩ ((bx, listOf bits.toArray nb) :: (zx, listOf zv.toArray nz) :: tl0)
      (fun v tl' => ∃ D its n' tlq keep, v = .ref D ∧ StrsAre its (walksTo layS takeS zs bs q0 zs.length).1 ∧ Rep n0 (walksTo layS takeS zs bs q0 zs.length).2 tlq ∧ tl' = keep ++ tlq ∧ (D, listOf its.toArray n') ∈ keep ∧ (bx, listOf bits.toArray nb) ∈ keep ∧ (∀ p ∈ keep, Off p.1 tlq) ∧ (0 < zs.length → D ≠ bx)) := by
  refine' enterL (binds := [("boxes", .ref bx), ("sizes", .ref zx), ("lay", .ref la), ("take", .ref ta)]) X T ?ho ?hcd ?hb ?hl ?h ?h1 ?h2 ?h3 ?h4 ?h5
  walk_at "M enter"
  intro dp un gd fr s g L' h₁ hd hu F N B st Xg Tg lN
  (conv in (PySem.execs _ _) => arg 1; whnf)
  have hzl := IntsAre.length hzs
  (try dsimp only)
  k_steps
  unfold Stop
  rename Fr _ _ _ _ => F
  refine' list_inv (fun i m news => ∃ Bx its n' q tl keep rest, m = fm rest [("boxes", .ref Bx), ("sizes", .ref zx), ("lay", .ref la), ("take", .ref ta)] ∧ news = keep ++ tl ∧ (0 < i → Bx ≠ bx) ∧ (Bx, listOf its.toArray n') ∈ keep ∧ (bx, listOf bits.toArray nb) ∈ keep ∧ (zx, listOf zv.toArray nz) ∈ keep ∧ (∀ p ∈ keep, Off p.1 tl) ∧
    StrsAre its (walksTo layS takeS zs bs q0 i).1 ∧ its.length = bits.length ∧ (∀ s ∈ (walksTo layS takeS zs bs q0 i).1, s.length ≤ 1000) ∧ Rep (n0 + (zs.length - i) * bits.length) (walksTo layS takeS zs bs q0 i).2 tl) rfl F N (.tail _ (.head _)) ?j0 ?turn ?done
  case j0 =>
    refine ⟨bx, bits, nb, q0, tl0, [(bx, listOf bits.toArray nb), (zx, listOf zv.toArray nz)], _, fm_self _ (by walk_at "M names"), rfl, (fun h => absurd h (Nat.lt_irrefl _)), .head _, .head _, .tail _ (.head _), ?_, hbs, rfl, hbw, hR⟩
    intro p hp
    rcases List.mem_cons.mp hp with rfl | hp
    · exact hd1
    · rw [List.mem_singleton.mp hp]; exact hd2
  case done =>
    rintro m₁ news₁ h tk ⟨Bx, its, n', q, tl, keep, rest, rfl, rfl, hBb, hB, hb0, hz0, hoff, hS, hl, hw, hRq⟩ F N
    k_steps
    rw [hzl] at hS hRq
    rw [Nat.sub_self, Nat.zero_mul, Nat.add_zero] at hRq
    exact ⟨_, _, _, _, _, rfl, F, N, Bx, its, n', tl, keep, rfl, hS, hRq, rfl, hB, hb0, hoff, by rw [hzl] at hBb; exact hBb⟩
  case turn =>
    rintro i v m₁ news₁ h tk I ito hi ⟨Bx, its, n', q, tl, keep, rest, rfl, rfl, hBb, hB, hb0, hz0, hoff, hS, hl, hw, hRq⟩ hI F N hO
    have hiz : i < zs.length := by
      rcases Nat.lt_or_ge i zs.length with h | h
      · exact h
      · rw [List.getElem?_eq_none (by omega)] at hi; cases hi
    obtain ⟨tz, hz⟩ := IntsAre.get ‹IntsAre zv zs› i (zs.getD i 0) (by simp [hiz])
    rw [hi] at hz
    cases hz
    have hcut : n0 + (zs.length - i) * bits.length = (n0 + (zs.length - (i + 1)) * bits.length) + bits.length := by
      have : zs.length - i = (zs.length - (i + 1)) + 1 := by omega
      rw [this, Nat.add_mul, Nat.one_mul]; omega
    rw [hcut] at hRq
    have hT : walksTo layS takeS zs bs q0 (i + 1) = passTo layS takeS (zs.getD i 0) (walksTo layS takeS zs bs q0 i).1 (walksTo layS takeS zs bs q0 i).2 bs.length := rfl
    generalize walksTo layS takeS zs bs q0 (i + 1) = st1 at hT ⊢
    generalize walksTo layS takeS zs bs q0 i = st at hT hS hw hRq
    obtain ⟨cs, qq⟩ := st
    dsimp only at hT hS hw hRq
    generalize n0 + (zs.length - (i + 1)) * bits.length = n1 at hRq ⊢
    generalize zs.getD i 0 = z at *
    have hbl2 : bs.length = bits.length := (StrsAre.len_eq ‹StrsAre bits bs›).symm
    have hcl : cs.length = bits.length := by rw [← hl]; exact hS.len_eq.symm
    rw [hbl2] at hT
    k_steps
    unfold Stop
    rename Fr _ _ _ _ => F
    rename News _ _ _ _ => N
    rename ∀ p ∈ (I, ito) :: (keep ++ tl), p.1 < _ => l1
    refine' list_inv (fun j m news => ∃ acc n q tl rest tz, m = fm rest [("told", .ref D'), ("boxes", .ref Bx), ("sizes", .ref zx), ("lay", .ref la), ("take", .ref ta), ("size", .int z tz)] ∧ news = (D', listOf acc.toArray n) :: (((I, ito) :: keep) ++ tl) ∧
      StrsAre acc (passTo layS takeS z cs qq j).1 ∧ acc.length = j ∧ Rep (n1 + (bits.length - j)) (passTo layS takeS z cs qq j).2 tl ∧ Off D' (((I, ito) :: keep) ++ tl) ∧ (∀ p ∈ (I, ito) :: keep, Off p.1 tl) ∧ ∀ s ∈ (passTo layS takeS z cs qq j).1, s.length ≤ 1000) rfl F N (.tail _ (.tail _ (List.mem_append_left _ hB))) ?j0 ?turn ?done
    case j0 =>
      refine ⟨[], 0, q, tl, _, tz, fm_self _ (by walk_at "M names"), rfl, .nil, rfl, hRq, Off.of_lt l1, ?_, fun s hs => nomatch hs⟩
      intro p hp
      rcases List.mem_cons.mp hp with rfl | hp
      · exact fun x hx => hO x (List.mem_append_right _ hx)
      · exact hoff p hp
    case done =>
      rintro m₁ news₁ h tk ⟨acc, n, q, tl, rest, tz, rfl, rfl, hA, hal, hRq, hD, hoff', hw'⟩ F N
      rw [hl] at hA hal hRq hw'
      rw [Nat.sub_self, Nat.add_zero] at hRq
      rw [← hT] at hA hRq hw'
      k_steps
      refine LPost.nx (by assumption) (by assumption) (((D', listOf acc.toArray n) :: keep) ++ tl) (.tail _ (.head _)) (subL_of ?_) ?_ ⟨.tail _ (List.mem_append_left _ hz0), D', acc, n, q, tl, (D', listOf acc.toArray n) :: keep, _, fm_self _ (by walk_at "M names"), rfl, (fun _ => hD.ne' (List.mem_append_left _ (.tail _ hb0))), .head _, .tail _ hb0, .tail _ hz0, ?_, hA, hal, hw', hRq⟩
      · intro p hp
        rcases List.mem_cons.mp hp with rfl | hp
        · exact .head _
        · exact .tail _ (.tail _ hp)
      · intro p hp
        rcases List.mem_cons.mp hp with rfl | hp
        · exact fun e => hD _ (.head _) e.symm
        · rcases List.mem_append.mp hp with hp | hp
          · exact hO p (List.mem_append_left _ hp)
          · exact hoff' _ (.head _) p hp
      · intro p hp
        rcases List.mem_cons.mp hp with rfl | hp
        · exact fun x hx => hD x (List.mem_append_right _ hx)
        · exact hoff' p (.tail _ hp)
    case turn =>
      rintro j v m₁ news₁ h tk J jto hj ⟨acc, n, q, tl, rest, tz, rfl, rfl, hA, hal, hRq, hD, hoff', hw'⟩ hJ F N hO'
      have hjl : j < its.length := by
        rcases Nat.lt_or_ge j its.length with h | h
        · exact h
        · rw [List.getElem?_eq_none (by omega)] at hj; cases hj
      obtain ⟨tw, hw2⟩ := StrsAre.at ‹StrsAre its cs› (j := j) (y := cs.getD j "") (by have := StrsAre.len_eq ‹StrsAre its cs›; simp [show j < cs.length by omega])
      rw [hj] at hw2
      cases hw2
      have hwl : (cs.getD j "").length ≤ 1000 := getD_len hw j
      have hTj : passTo layS takeS z cs qq (j + 1) = if ((cs.getD j "").length : Int) = z then ((passTo layS takeS z cs qq j).1 ++ [("" : Str)], layS (passTo layS takeS z cs qq j).2 (cs.getD j "")) else if cs.getD j "" = "" then ((passTo layS takeS z cs qq j).1 ++ [(takeS (passTo layS takeS z cs qq j).2).1], (takeS (passTo layS takeS z cs qq j).2).2) else ((passTo layS takeS z cs qq j).1 ++ [cs.getD j ""], (passTo layS takeS z cs qq j).2) := rfl
      generalize passTo layS takeS z cs qq (j + 1) = pj1 at hTj ⊢
      generalize passTo layS takeS z cs qq j = pj at hTj hA hRq hw'
      obtain ⟨as, qj⟩ := pj
      dsimp only at hTj hA hRq hw'
      have hcj : n1 + (bits.length - j) = (n1 + (bits.length - (j + 1))) + 1 := by omega
      rw [hcj] at hRq
      have hJ' : J ≠ D' := fun e => hO' _ (.head _) e.symm
      have hJt : Off J tl := fun p hp => hO' p (.tail _ (List.mem_append_right _ hp))
      have hJk : Off J (((I, ito) :: keep) ++ tl) := fun p hp => hO' p (.tail _ hp)
      have hmt : ∀ p ∈ tl, p ∈ (J, jto) :: (D', listOf acc.toArray n) :: (((I, ito) :: keep) ++ tl) := fun p hp => .tail _ (.tail _ (List.mem_append_right _ hp))
      have hrest : ∀ p ∈ (J, jto) :: (D', listOf acc.toArray n) :: (I, ito) :: keep, p ∈ (J, jto) :: (D', listOf acc.toArray n) :: (((I, ito) :: keep) ++ tl) ∧ ∀ x ∈ tl, x.1 ≠ p.1 := by
        intro p hp
        rcases List.mem_cons.mp hp with rfl | hp
        · exact ⟨.head _, hJt⟩
        · rcases List.mem_cons.mp hp with rfl | hp
          · exact ⟨.tail _ (.head _), hD.right⟩
          · exact ⟨.tail _ (.tail _ (List.mem_append_left _ hp)), hoff' p hp⟩
      have n2 : ∀ {h' : Heap} {tl' : Led}, News g L' h' (tl' ++ ((J, jto) :: (D', listOf acc.toArray n) :: (I, ito) :: keep)) → News g L' h' ((J, jto) :: (D', listOf acc.toArray n) :: (((I, ito) :: keep) ++ tl')) := fun N' p hp => N' p (by
        rcases List.mem_cons.mp hp with rfl | hp
        · exact List.mem_append_right _ (.head _)
        · rcases List.mem_cons.mp hp with rfl | hp
          · exact List.mem_append_right _ (.tail _ (.head _))
          · rcases List.mem_append.mp hp with hp | hp
            · exact List.mem_append_right _ (.tail _ (.tail _ hp))
            · exact List.mem_append_left _ hp)
      have offk : ∀ {tl' : Led}, (∀ q ∈ tl', q.1 ∈ tl.map (·.1) ∨ ∀ x ∈ (J, jto) :: (D', listOf acc.toArray n) :: (((I, ito) :: keep) ++ tl), x.1 ≠ q.1) → Off D' (((I, ito) :: keep) ++ tl') ∧ (∀ p ∈ (I, ito) :: keep, Off p.1 tl') ∧ Off J (((I, ito) :: keep) ++ tl') :=
        fun hn' => ⟨hD.left.app (off_after hn' hD.right (.tail _ (.head _))), fun p hp => off_after (o := p.2) hn' (hoff' p hp) (.tail _ (.tail _ (List.mem_append_left _ hp))), hJk.left.app (off_after hn' hJt (.head _))⟩
      have offe : ∀ {o : Obj} {tl' : Led}, Off J (((I, ito) :: keep) ++ tl') → ∀ p ∈ (D', o) :: (((I, ito) :: keep) ++ tl'), p.1 ≠ J := fun h p hp => by
        rcases List.mem_cons.mp hp with rfl | hp
        · exact Ne.symm hJ'
        · exact h p hp
      k_steps
      · rename _ = z => c1
        rw [if_pos c1] at hTj
        subst hTj
        unfold Stop
        refine callWith_1 rfl rfl ?_
        k_steps
        · exact (hkeep _ _ _ _ hRq (fun p hp => (N p (hmt p hp)).1) (Xg.keeps fun b o e => F.keep b o e)).1
        refine use_fsT (rest := (J, jto) :: (D', listOf acc.toArray n) :: (I, ito) :: keep) (hlay _ _ _ _ _ hRq hwl) B F N rfl rfl (by ktr_room) (by ktr_units) hmt hrest ?_
        intro v' tl' h' tk' hr' F' N' hn'
        have N2 := n2 N'
        clear N'
        obtain ⟨hDt, hkt, hJt'⟩ := offk hn'
        k_steps
        exact LPost.nx (by assumption) (by assumption) ((D', _) :: (((I, ito) :: keep) ++ tl')) (.head _) (subL_of fun p hp => .tail _ hp) (offe hJt') ⟨.tail _ (List.mem_append_left _ (.tail _ hB)), _, _, qj, tl', _, tz, fm_self _ (by walk_at "M names"), rfl, strs_snoc hA _ _, by rw [List.length_append, hal]; rfl, hr', hDt, hkt, len_snoc hw' (Nat.zero_le _)⟩
      · rename _ ≠ z => c1
        rename (_ == _) = true => c2
        rw [if_neg c1, if_pos (by simpa using c2)] at hTj
        subst hTj
        unfold Stop
        refine callWith_0 (hkeep _ _ _ _ hRq (fun p hp => (N p (hmt p hp)).1) (Xg.keeps fun b o e => F.keep b o e)).2 ?_
        refine use_fsT (rest := (J, jto) :: (D', listOf acc.toArray n) :: (I, ito) :: keep) (htake _ _ _ hRq) B F N rfl rfl (by ktr_room) (by ktr_units) hmt hrest ?_
        rintro v' tl' h' tk' ⟨t', rfl, hx', hr'⟩ F' N' hn'
        have N2 := n2 N'
        clear N'
        obtain ⟨hDt, hkt, hJt'⟩ := offk hn'
        k_steps
        exact LPost.nx (by assumption) (by assumption) ((D', _) :: (((I, ito) :: keep) ++ tl')) (.head _) (subL_of fun p hp => .tail _ hp) (offe hJt') ⟨.tail _ (List.mem_append_left _ (.tail _ hB)), _, _, qj, tl', _, tz, fm_self _ (by walk_at "M names"), rfl, strs_snoc hA _ _, by rw [List.length_append, hal]; rfl, hr', hDt, hkt, len_snoc hw' hx'⟩
      · rename _ ≠ z => c1
        rename (_ == _) = false => c2
        rw [if_neg c1, if_neg (by simpa using c2)] at hTj
        subst hTj
        exact LPost.nx (by assumption) (by assumption) ((D', _) :: (((I, ito) :: keep) ++ tl)) (.head _) (subL_of fun p hp => .tail _ hp) (offe hJk) ⟨.tail _ (List.mem_append_left _ (.tail _ hB)), _, _, qj, tl, _, tz, fm_self _ (by walk_at "M names"), rfl, strs_snoc hA _ _, by rw [List.length_append, hal]; rfl, hless _ _ _ hRq, hD, hoff', len_snoc hw' hwl⟩
end
example : True := by
  k_with_none
  trivial
example : True := by
  k_with "M enter" => (
  (case ho => k_is)
  (case hcd => k_is)
  (case hb => first | exact fun s Xs => BindsTo.of_eq rfl | exact fun s Xs => binds_K Xs rfl (by k_is) rfl rfl rfl)
  (case hl => exact locs rfl)
  (case h1 => decide)
  (case h2 => decide)
  (case h3 => exact rfl)
  (case h4 => exact rfl)
  (case h5 => exact rfl))
  k_with "M names" => (repeat' (first | exact List.forall_mem_nil _ | (refine List.forall_mem_cons.mpr ⟨?nm, ?_⟩; (case nm => rfl))))
  trivial
example : True := by
  k_with "M ne" => first | assumption | exact Ne.symm (by assumption) | k_ne
  trivial
example : True := by
  k_with "M len" => first | assumption | exact getD_len (by assumption) _ | omega
  k_with "M lens" => first | assumption | exact len_del (by assumption) | exact len_del (len_del (by assumption))
  k_with "M strs" => first | assumption | exact strs_del (by assumption) _ | exact strs_del (strs_del (by assumption) _) _
  k_with "M nat" => first | with_reducible exact fdiv2 _ _ | rfl | exact (Int.natCast_add _ _).symm | omega
  k_with "M le" => first | omega | ((try simp (disch := omega) only [delL_length, insL_length]); omega)
  k_with "subscriptTail Name Name ref int" => (k_here; k_dflt (refine' item_strsN ?N ?m ?h _ ?k ?l ?f ?_ ?hs ?hg; (case N => k_asm); (case m => k_mem); (case h => assumption); (case k => walk_at "M nat"); (case l => omega); (case f => omega); (case hs => with_unfolding_all rfl); (case hg => (intro _; with_unfolding_all rfl)); k_whole); intro tk')
  k_with "subscriptTail Name BinOp ref int" => (k_here; k_dflt (refine' item_strsN ?N ?m ?h _ ?k ?l ?f ?_ ?hs ?hg; (case N => k_asm); (case m => k_mem); (case h => assumption); (case k => walk_at "M nat"); (case l => omega); (case f => omega); (case hs => with_unfolding_all rfl); (case hg => (intro _; with_unfolding_all rfl)); k_whole); intro tk')
  k_with "exec While Compare cons nil" => refine Stop.out ?_
  k_with "call builtin:list.insert" => (k_here; (with_reducible show wpAny _ _ (call (Value.builtin _) [Value.ref _, Value.int _ _, _]) _ _ _); k_dflt (refine' ins_N ?F ?N _ ?k ?i ?l ?U ?_; (case F => k_asm); (case N => k_asm); (case U => k_upd); (case k => walk_at "M nat"); (case i => walk_at "M le"); (case l => walk_at "M le"); k_whole); intro h' F' N'; (try dsimp only [List.nil_append, List.cons_append] at N'); (try k_sweep))
  k_with "call builtin:list.pop" => (k_here; (with_reducible show wpAny _ _ (call (Value.builtin _) [Value.ref _, Value.int _ _]) _ _ _); k_dflt (refine' popS_N ?F ?N ?h _ ?k ?i ?l ?U ?_; (case F => k_asm); (case N => k_asm); (case U => k_upd); (case h => walk_at "M strs"); (case k => walk_at "M nat"); (case i => walk_at "M le"); (case l => walk_at "M le"); k_whole); intro h' tk' F' N'; (try dsimp only [List.nil_append, List.cons_append] at N'); (try k_sweep))
  k_with "pyIter ref" => ((with_reducible show wpAny _ _ (pyIter (Value.ref _)) (CompPostA _ _ _ _ _ _ _ _ _ _) _ _); refine Stop.out ?_)
  k_with "pyIter ref" => ((with_reducible show wpAny _ _ (pyIter (Value.ref _)) (fun it s₂ => LoopAtV _ _ _ _ _ _ _ _ _ it s₂) _ _); refine Stop.out ?_)
  k_with "call builtin:len" => (k_here; (with_reducible show wpAny _ _ (call (Value.builtin "len") [Value.ref _]) _ _ _); k_dflt (refine' len_N ?N ?m ?l ?_; (case N => k_asm); (case m => k_mem); (case l => walk_at "M le"); k_whole); intro t' tk')
  k_with "binaryOp Sub int int" => (k_here; (with_reducible refine' sub_natN ?h ?_; (case h => omega)); intro t' tk')
  k_with "binaryOp Sub int int" => (k_here; (with_reducible refine' sub_nat1 ?h ?_; (case h => omega)); intro t' tk')
  k_with "LPost" => refine Stop.out ?_
  k_with "WPost" => refine Stop.out ?_
  k_with "Done" => refine Stop.out ?_
  k_with "call builtin:len" => (k_here; (with_reducible show wpAny _ _ (call (Value.builtin "len") [Value.str _ _]) _ _ _); k_dflt (refine' lenS_N ?l ?_; (case l => walk_at "M len"); k_whole); intro t' tk')
  k_with "eval ListComp" => refine Stop.out ?_
  k_with "exec Assign cons ListComp" => refine Stop.out ?_
  k_with "CPost" => refine Stop.out ?_
  k_with "CPostA" => refine Stop.out ?_
  k_with "EPost" => refine Stop.out ?_
  trivial
example : True := by
  k_with "call builtin:list.append" => (k_here; (with_reducible show wpAny _ _ (call (Value.builtin _) [Value.ref _, _]) _ _ _); k_dflt (refine' app_N ?F ?N ?l ?U ?_; (case F => k_asm); (case N => k_asm); (case U => k_upd); (case l => walk_at "M le"); k_whole); intro h' F' N'; (try k_sweep))
  k_with "newList" => (k_here; k_dflt (refine' newList_N ?F ?N ?l ?_; (case F => k_asm); (case N => k_asm); (case l => exact Nat.le_of_ble_eq_true rfl); k_whole); intro D' h' F' N' l1 l2; (try (have l3 := l1; k_lt l3)); (try k_sweep))
  k_with "M enterC" => (
  (case ho => k_is)
  (case hcd => k_is)
  (case hb => first | exact fun s Xs => BindsTo.of_eq rfl | exact fun s Xs => binds_K Xs rfl (by k_is) rfl rfl rfl)
  (case hl => exact rfl)
  (case h2 => decide +kernel)
  (case h1 => decide)
  (case h3 => exact rfl)
  (case h4 => exact rfl)
  (case h5 => exact rfl))
  k_with "M comp" => (
  (case hclos => exact rfl)
  (case hcell => decide)
  (case hkind => exact rfl)
  (case hnames => decide)
  (case hx => exact rfl)
  (case hs => (intro _; exact rfl)))
  k_with "M compA" => (
  (case hsw => exact rfl)
  (case hclos => exact rfl)
  (case hcell => decide)
  (case hkind => exact rfl)
  (case hnames => decide)
  (case hx => exact rfl)
  (case hy => exact rfl)
  (case hp => exact rfl)
  (case hs => (intro _; exact rfl)))
  k_with "eval Name" => (k_here; (with_reducible show wpAny _ _ (eval (PySem.Expr.Name _ _) (compEnvC _ _ _ _)) _ _ _); k_dflt (first
  | (refine' cname ?n ?v ?k ?l ?d ?_; (case n => assumption); (case v => assumption); (case k => exact rfl); (case l => exact rfl); (case d => decide))
  | (refine' ccell ?N ?c ?m ?d ?k ?l ?b ?_; (case N => k_asm); (case c => exact rfl); (case m => k_mem); (case d => assumption); (case k => exact rfl); (case l => exact rfl); (case b => decide))
  | (refine' cbuilt ?F ?X ?T ?e ?v ?n ?g ?b ?k ?l ?d ?_; (case F => k_asm); (case X => k_asm); (case T => k_asm); (case e => k_is); (case v => boot_by_name); (case n => decide); (case g => exact rfl); (case b => exact rfl); (case k => exact rfl); (case l => exact rfl); (case d => decide))
  | (refine' cglob ?F ?X ?T ?e ?g ?k ?l ?d ?_; (case F => k_asm); (case X => k_asm); (case T => k_asm); (case e => k_is); (case g => exact rfl); (case k => exact rfl); (case l => exact rfl); (case d => decide))
  | fail))
  trivial
example : True := by
  k_with "call ref" => ((with_reducible show wpAny _ _ (call (Value.ref 202) [Value.str _ _] []) _ _ _); k_dflt (refine' use_fs (size_fs ?X ?T _ _ ?hx) ?B ?F ?N ?hf ?hk ?hd ?hu ?hp ?_; (case B => assumption); (case X => assumption); (case T => assumption); (case F => k_asm); (case N => k_asm); (case hf => rfl); (case hk => rfl); (case hp => walk_at "M picks"); (case hx => walk_at "M len"); (case hd => ktr_room); (case hu => ktr_units); k_whole); intro v' tl' h' tk' hr' F' N' hn'; (obtain ⟨t', hv', ht'⟩ := hr'); (subst hv'); (subst ht'); (clear hn'); (try dsimp only [List.nil_append, List.cons_append] at N'); (try k_sweep))
  trivial

example : True := by
  k_with "call ref" => ((with_reducible show wpAny _ _ (call (Value.ref 39) _ _) _ _ _); k_dflt (refine' use_fs (bisR_fs ?X ?T _ _ _ _ _ _ ?hss _ _ _ _ ?hlo ?hhi _ _ ?h1 ?h2 ?h3 ?h4) ?B ?F ?N ?hf ?hk ?hd ?hu ?hp ?_; (case B => assumption); (case X => assumption); (case T => assumption); (case F => k_asm); (case N => k_asm); (case hf => rfl); (case hk => rfl); (case hp => walk_at "M picks"); (case hss => walk_at "M strs"); (case hlo => walk_at "M nat"); (case hhi => walk_at "M nat"); (case h1 => omega); (case h2 => walk_at "M le"); (case h3 => walk_at "M le"); (case h4 => walk_at "M lens"); (case hd => ktr_room); (case hu => ktr_units); k_whole); intro v' tl' h' tk' hr' F' N' hn'; (obtain ⟨t', hv', ht'⟩ := hr'); (subst hv'); (subst ht'); (clear hn'); (try dsimp only [List.nil_append, List.cons_append] at N'); (try k_sweep))
  k_with "call ref" => ((with_reducible show wpAny _ _ (call (Value.ref 57) _ _) _ _ _); k_dflt (refine' use_fs (bisL_fs ?X ?T _ _ _ _ _ _ ?hss _ _ _ _ ?hlo ?hhi _ _ ?h1 ?h2 ?h3 ?h4) ?B ?F ?N ?hf ?hk ?hd ?hu ?hp ?_; (case B => assumption); (case X => assumption); (case T => assumption); (case F => k_asm); (case N => k_asm); (case hf => rfl); (case hk => rfl); (case hp => walk_at "M picks"); (case hss => walk_at "M strs"); (case hlo => walk_at "M nat"); (case hhi => walk_at "M nat"); (case h1 => omega); (case h2 => walk_at "M le"); (case h3 => walk_at "M le"); (case h4 => walk_at "M lens"); (case hd => ktr_room); (case hu => ktr_units); k_whole); intro v' tl' h' tk' hr' F' N' hn'; (obtain ⟨t', hv', ht'⟩ := hr'); (subst hv'); (subst ht'); (clear hn'); (try dsimp only [List.nil_append, List.cons_append] at N'); (try k_sweep))
  trivial

example : True := by
  k_with "call ref" => ((with_reducible show wpAny _ _ (call (Value.ref 30) _ _) _ _ _); k_dflt (refine' use_fs (insR_fs ?X ?T _ _ _ _ _ _ ?hss _ _ _ _ ?hlo ?hhi _ _ ?h1 ?h2 ?h3 ?h4 ?hx) ?B ?F ?N ?hf ?hk ?hd ?hu ?hp ?_; (case B => assumption); (case X => assumption); (case T => assumption); (case F => k_asm); (case N => k_asm); (case hf => rfl); (case hk => rfl); (case hp => walk_at "M picks"); (case hss => walk_at "M strs"); (case hlo => walk_at "M nat"); (case hhi => walk_at "M nat"); (case h1 => omega); (case h2 => walk_at "M le"); (case h3 => walk_at "M le"); (case h4 => walk_at "M lens"); (case hx => walk_at "M len"); (case hd => ktr_room); (case hu => ktr_units); k_whole); intro v' tl' h' tk' hr' F' N' hn'; (obtain ⟨hv', ht'⟩ := hr'); (subst hv'); (subst ht'); (clear hn'); (try dsimp only [List.nil_append, List.cons_append] at N'); (try k_sweep))
  k_with "call ref" => ((with_reducible show wpAny _ _ (call (Value.ref 48) _ _) _ _ _); k_dflt (refine' use_fs (insL_fs ?X ?T _ _ _ _ _ _ ?hss _ _ _ _ ?hlo ?hhi _ _ ?h1 ?h2 ?h3 ?h4 ?hx) ?B ?F ?N ?hf ?hk ?hd ?hu ?hp ?_; (case B => assumption); (case X => assumption); (case T => assumption); (case F => k_asm); (case N => k_asm); (case hf => rfl); (case hk => rfl); (case hp => walk_at "M picks"); (case hss => walk_at "M strs"); (case hlo => walk_at "M nat"); (case hhi => walk_at "M nat"); (case h1 => omega); (case h2 => walk_at "M le"); (case h3 => walk_at "M le"); (case h4 => walk_at "M lens"); (case hx => walk_at "M len"); (case hd => ktr_room); (case hu => ktr_units); k_whole); intro v' tl' h' tk' hr' F' N' hn'; (obtain ⟨hv', ht'⟩ := hr'); (subst hv'); (subst ht'); (clear hn'); (try dsimp only [List.nil_append, List.cons_append] at N'); (try k_sweep))
  trivial

example : True := by
  k_with "call ref" => ((with_reducible show wpAny _ _ (call (Value.ref 207) [Value.ref _, Value.ref 30] _) _ _ _); k_dflt (refine' use_fs (rowR_fs ?X ?T _ _ _ _ ?hss ?h3 ?h4) ?B ?F ?N ?hf ?hk ?hd ?hu ?hp ?_; (case B => assumption); (case X => assumption); (case T => assumption); (case F => k_asm); (case N => k_asm); (case hf => rfl); (case hk => rfl); (case hp => walk_at "M picks"); (case hss => walk_at "M strs"); (case h3 => walk_at "M le"); (case h4 => walk_at "M lens"); (case hd => ktr_room); (case hu => ktr_units); k_whole); intro v' tl' h' tk' hr' F' N' hn'; (obtain ⟨D', its', n', hv', hne', hS', ht'⟩ := hr'); (subst hv'); (subst ht'); (have hO' := off_one hn' hne'); (clear hn'); (try dsimp only [List.nil_append, List.cons_append] at N'); (try k_sweep))
  k_with "call ref" => ((with_reducible show wpAny _ _ (call (Value.ref 207) [Value.ref _, Value.ref 48] _) _ _ _); k_dflt (refine' use_fs (rowL_fs ?X ?T _ _ _ _ ?hss ?h3 ?h4) ?B ?F ?N ?hf ?hk ?hd ?hu ?hp ?_; (case B => assumption); (case X => assumption); (case T => assumption); (case F => k_asm); (case N => k_asm); (case hf => rfl); (case hk => rfl); (case hp => walk_at "M picks"); (case hss => walk_at "M strs"); (case h3 => walk_at "M le"); (case h4 => walk_at "M lens"); (case hd => ktr_room); (case hu => ktr_units); k_whole); intro v' tl' h' tk' hr' F' N' hn'; (obtain ⟨D', its', n', hv', hne', hS', ht'⟩ := hr'); (subst hv'); (subst ht'); (have hO' := off_one hn' hne'); (clear hn'); (try dsimp only [List.nil_append, List.cons_append] at N'); (try k_sweep))
  trivial

example : True := by
  k_with "call ref" => ((with_reducible show wpAny _ _ (call (Value.ref 219) _ _) _ _ _); k_dflt (refine' use_fs (turned_fs ?X ?T _ _ _ _ ?hss ?h3) ?B ?F ?N ?hf ?hk ?hd ?hu ?hp ?_; (case B => assumption); (case X => assumption); (case T => assumption); (case F => k_asm); (case N => k_asm); (case hf => rfl); (case hk => rfl); (case hp => walk_at "M picks"); (case hss => walk_at "M strs"); (case h3 => walk_at "M le"); (case hd => ktr_room); (case hu => ktr_units); k_whole); intro v' tl' h' tk' hr' F' N' hn'; (obtain ⟨D', its', n', hv', hne', hS', ht'⟩ := hr'); (subst hv'); (subst ht'); (have hO' := off_one hn' hne'); (clear hn'); (try dsimp only [List.nil_append, List.cons_append] at N'); (try k_sweep))
  trivial


noncomputable section
structure LexT where
  (k0 k1 k2 k3 k4 k5 : Tok)
def lexD (w : World) (ln : Int) (S pb : Addr) (t : LexT) : List DictEntry :=
  [⟨PyData.keyHash w.params "lineno", .str "lineno" t.k1, .int ln t.k0⟩, ⟨PyData.keyHash w.params "instream", .str "instream" t.k2, .ref S⟩, ⟨PyData.keyHash w.params "whitespace", .str "whitespace" t.k3, .str "\n\t\r " t.k5⟩, ⟨PyData.keyHash w.params "pushback", .str "pushback" t.k4, .ref pb⟩]
theorem init_fs (X : (Kf w.params).In b₀) (T : Top topProg loose mean mg mb b₀) (I d S : Addr) (h1 : I ≠ d) :
    FS P1 w b₀ 4 40 (.ref 155) ⟨[.ref I, .ref S], []⟩ [(I, instObj 179 d), (d, dictOf [] 0)]
      (fun v tl' => v = .none ∧ ∃ pb t n, I ≠ pb ∧ d ≠ pb ∧ tl' = [(pb, listOf #[] 0), (I, instObj 179 d), (d, dictOf (lexD w 1 S pb t) n)]) := by
  refine' enter (binds := [("self", .ref I), ("fp", .ref S)]) X T ?ho ?hcd ?hb ?hl ?h ?h1 ?h2 ?h3 ?h4 ?h5
  walk_at "M enter"
  intro dp un gd fr s g L' h₁ hd hu F N B st Xg Tg
  (conv in (PySem.execs _ _) => arg 1; whnf)
  (try dsimp only)
  k_steps
  refine ⟨_, _, _, _, _, rfl, by assumption, by assumption, rfl, _, ⟨_, _, _, _, _, _⟩, _, ?_, ?_, rfl⟩
  · exact Nat.ne_of_lt (by omega)
  · exact Nat.ne_of_lt (by omega)
theorem push_fs (X : (Kf w.params).In b₀) (T : Top topProg loose mean mg mb b₀) (I d S pb : Addr) (ln : Int) (tt : LexT) (nd np : Nat) (vs : List Value) (hv : vs.length ≤ 900) (h1 : I ≠ d) (h2 : I ≠ pb) (h3 : d ≠ pb) (x : Str) (t : Tok) :
    FS P1 w b₀ 4 40 (.ref 176) ⟨[.ref I, Value.str x t], []⟩ [(I, instObj 179 d), (d, dictOf (lexD w ln S pb tt) nd), (pb, listOf vs.toArray np)]
      (fun v tl' => tl' = [(I, instObj 179 d), (d, dictOf (lexD w ln S pb tt) nd), (pb, listOf (vs ++ [Value.str x t]).toArray (np + 1))]) := by
  unfold lexD
  refine' enter (binds := [("self", .ref I), ("token", .str x t)]) X T ?ho ?hcd ?hb ?hl ?h ?h1 ?h2 ?h3 ?h4 ?h5
  walk_at "M enter"
  intro dp un gd fr s g L' h₁ hd hu F N B st Xg Tg
  (conv in (PySem.execs _ _) => arg 1; whnf)
  (try dsimp only)
  k_steps
  exact ⟨_, _, _, _, _, rfl, by assumption, by assumption, rfl⟩
end

noncomputable section
example : True := by
  k_with "call ref" => (k_here; (with_reducible show wpAny _ _ (call (Value.ref 179) _ _) _ _ _); refine Stop.out ?_)
  k_with "setAttr ref" => (k_here; (with_reducible show wpAny _ _ (setAttr (Value.ref _) (PySem.Str.ofString "read") _) _ _ _); refine Stop.out ?_)
  trivial
structure LexA where
  (I d pb S sd cl rd cr al ca ct : Addr) (so clo ro co cto cao : Obj) (kk : Tok) (hk : Int)
def lexTl (w : World) (a : LexA) (ln : Int) (tt : LexT) (nd : Nat) (vs : List Value) (np : Nat) (i : Nat) (tp : Tok) (na : Nat) : Led :=
  [(a.pb, listOf vs.toArray np), (a.I, instObj 179 a.d), (a.d, dictOf (lexD w ln a.S a.pb tt) nd), (a.sd, dictOf [⟨a.hk, .str "read" a.kk, .ref a.rd⟩] 1), (a.S, a.so), (a.cl, a.clo),
   (a.rd, a.ro), (a.cr, a.co), (a.al, listOf #[.int (i : Int) tp] na), (a.ca, a.cao), (a.ct, a.cto)]
def readTl (a : LexA) (i : Nat) (tp : Tok) (na : Nat) : Led := [(a.rd, a.ro), (a.cr, a.co), (a.al, listOf #[.int (i : Int) tp] na), (a.ca, a.cao), (a.ct, a.cto)]
def piece (tx : Str) (i : Nat) : Str := Txt.slice tx (some (i : Int)) (some ((i : Int) + 1))
def ReadOk (w : World) (b₀ : Heap) (tx : Str) (a : LexA) : Prop := ∀ (i : Nat) (t tp : Tok) (na : Nat), i ≤ tx.length →
  FS P1 w b₀ 3 30 (.ref a.rd) ⟨[.int 1 t], []⟩ (readTl a i tp na) (fun v tl' => ∃ u tp' na', v = .str (piece tx i) u ∧ tl' = readTl a (i + (piece tx i).length) tp' na')
structure LexOk (w : World) (b₀ : Heap) (tx : Str) (a : LexA) : Prop where
  nd : [a.pb, a.I, a.d, a.sd, a.S, a.cl, a.rd, a.cr, a.al, a.ca, a.ct].Nodup
  st : ∃ fd, a.so = fnOb fd (some a.sd)
  rd : ∃ fd, a.ro = fnOb fd none
  go : ReadOk w b₀ tx a
theorem lexer_fs (X : (Kf w.params).In b₀) (T : Top topProg loose mean mg mb b₀) (C : CodeHd b₀ 189 185) (tx : Str) (t : Tok) (hx : tx.length ≤ 1000) :
    FS P1 w b₀ 8 80 (.ref 190) ⟨[.str tx t], []⟩ [(185, tabObj #[])]
      (fun v tl' => ∃ a tt nd tp ps, v = .ref a.I ∧ tl' = lexTl w a 1 tt nd [] 0 0 tp 0 ++ [(185, tabObj ps)] ∧ LexOk w b₀ tx a ∧ Off 185 (lexTl w a 1 tt nd [] 0 0 tp 0)) := by
  refine' enterC (binds := [("text", .str tx t)]) X T ?ho ?hcd ?hb ?hl ?h2 ?h ?h1 ?h3 ?h4 ?h5
  walk_at "M enterC"
  intro dp un gd fr s g L' h₁ tk cells hd hu F N Y lN B st Xg Tg
  (conv in (PySem.execs _ _) => arg 1; whnf)
  k_lt lN
  k_cells Y
  (try simp only [List.cons_append, List.nil_append] at N)
  (try dsimp only)
  have C2 := CodeHd.keeps C st
  k_steps
  unfold Stop
  rename Fr _ _ _ _ => F
  rename News _ _ _ _ => N
  refine setFn F N ?_ ?_
  · intro p hp
    simp only [List.mem_cons, List.not_mem_nil, or_false] at hp
    rcases hp with rfl | rfl | rfl | rfl | rfl | rfl | rfl <;> exact Nat.ne_of_lt (by dsimp only; omega)
  intro sd k' h' tk' F N l1 l2
  k_lt l1
  k_steps
  unfold Stop
  refine' call_cls ?k1 ?k2 ?k3 ?k4 ?k5 ?k6 ?_
  case k1 => exact F
  case k2 => exact Xg
  case k3 => exact N
  case k4 => k_is
  case k5 => k_is
  case k6 => k_is
  intro I d h' F N l3 l4
  refine' use_fsC (init_fs ?X ?T I d _ (Nat.ne_of_gt l4)) ?B F N rfl rfl rfl ?hd ?hu ?htl ?hrest ?_
  case B => exact B
  case X => exact X
  case T => exact T
  case htl =>
    intro q hq
    rcases List.mem_cons.mp hq with rfl | hq
    · exact .head _
    · rw [List.mem_singleton.mp hq]; exact .tail _ (.head _)
  case hrest =>
    refine fun q hq => ⟨.tail _ (.tail _ hq), fun x hx => ?_⟩
    rcases List.mem_cons.mp hx with rfl | hx
    · exact Nat.ne_of_gt (Nat.lt_trans (l3 q hq) l4)
    · rw [List.mem_singleton.mp hx]; exact Nat.ne_of_gt (l3 q hq)
  case hd => show dp + 1 + 1 + 4 < _; omega
  case hu => show un + 3 + 1 + 40 < _; omega
  rintro v tl' h' tk' ⟨rfl, pb, tt, nd, e1, e2, rfl⟩ F N hn
  have l5 := (hn (pb, _) (.head _)).resolve_left (by
    simp only [List.map_cons, List.map_nil, List.mem_cons, List.not_mem_nil, or_false, not_or]
    exact ⟨e1.symm, e2.symm⟩)
  have l4' : @LT.lt Nat _ d I := l4
  have l3c := l3
  k_lt l3c
  simp only [List.forall_mem_cons, List.forall_mem_nil, and_true] at l5
  obtain ⟨q1, q2, q3, q4, q5, q6, q7, q8, q9, q10, q11, -⟩ := l5
  (try dsimp only [List.nil_append, List.cons_append] at N)
  refine ⟨rfl, ?_⟩
  refine ⟨_, _, _, _, _, rfl, F, N, ⟨I, d, pb, _, sd, _, _, _, _, _, _, _, _, _, _, _, _, _, PyData.keyHash w.params "read"⟩, tt, nd, _, _, rfl, rfl, ⟨?nodup, ⟨_, rfl⟩, ⟨_, rfl⟩, ?read⟩, ?lt⟩
  case nodup =>
    simp only [List.nodup_cons, List.mem_cons, List.not_mem_nil, or_false, not_or, List.nodup_nil, and_true, not_false_eq_true]
    refine ⟨⟨fun h => q1 h.symm, fun h => q2 h.symm, fun h => q3 h.symm, fun h => q4 h.symm, fun h => q5 h.symm, fun h => q6 h.symm, fun h => q7 h.symm, fun h => q8 h.symm, fun h => q9 h.symm, fun h => q10 h.symm⟩, ?_⟩
    repeat' apply And.intro
    all_goals first | exact fun h => q1 h.symm | exact fun h => q2 h.symm | exact fun h => q3 h.symm | exact fun h => q4 h.symm | exact fun h => q5 h.symm | exact fun h => q6 h.symm | exact fun h => q7 h.symm | exact fun h => q8 h.symm | exact fun h => q9 h.symm | exact fun h => q10 h.symm | exact fun h => q11 h.symm | exact Nat.ne_of_lt (by omega) | exact Nat.ne_of_gt (by omega)
  case lt =>
    intro p hp
    simp only [lexTl, List.mem_cons, List.not_mem_nil, or_false] at hp
    rcases hp with rfl | rfl | rfl | rfl | rfl | rfl | rfl | rfl | rfl | rfl | rfl <;> first | exact q11.symm | exact Nat.ne_of_gt (by dsimp only; omega)
  case read =>
    intro i t tp na hi
    refine' enterN (binds := [("size", .int 1 t)]) X T ?ho ?hc ?hcd ?hq ?hb ?hl ?h ?h1 ?h2 ?h3 ?h4 ?h5
    case ho => exact List.mem_cons_self
    case hc => exact .tail _ (.head _)
    case hcd => assumption
    case hq => assumption
    case hb => exact fun s => BindsTo.of_eq rfl
    case hl => exact locs rfl
    case h1 => decide
    case h2 => decide
    case h3 => exact rfl
    case h4 => exact rfl
    case h5 => exact rfl
    intro dp un gd fr s g L' h₁ hd hu F N B st Xg Tg lN
    (conv in (PySem.execs _ _) => arg 1; whnf)
    unfold readTl at N
    (try dsimp only)
    k_steps
    unfold Stop
    rename Fr _ _ _ _ => F
    rename News _ _ _ _ => N
    exact ⟨_, _, _, _, _, rfl, F, N, _, _, _, rfl, rfl⟩
end
example : True := by
  k_with_none
  trivial
example : True := by
  k_with "M enter" => (
  (case ho => k_is)
  (case hcd => k_is)
  (case hb => first | exact fun s Xs => BindsTo.of_eq rfl | exact fun s Xs => binds_K Xs rfl (by k_is) rfl rfl rfl)
  (case hl => exact locs rfl)
  (case h1 => decide)
  (case h2 => decide)
  (case h3 => exact rfl)
  (case h4 => exact rfl)
  (case h5 => exact rfl))
  k_with "M names" => (repeat' (first | exact List.forall_mem_nil _ | (refine List.forall_mem_cons.mpr ⟨?nm, ?_⟩; (case nm => rfl))))
  trivial
example : True := by
  k_with "M ne" => first | assumption | exact Ne.symm (by assumption) | k_ne
  trivial
example : True := by
  k_with "M len" => first | assumption | exact getD_len (by assumption) _ | omega
  k_with "M lens" => first | assumption | exact len_del (by assumption) | exact len_del (len_del (by assumption))
  k_with "M strs" => first | assumption | exact strs_del (by assumption) _ | exact strs_del (strs_del (by assumption) _) _
  k_with "M nat" => first | with_reducible exact fdiv2 _ _ | rfl | exact (Int.natCast_add _ _).symm | omega
  k_with "M le" => first | omega | ((try simp (disch := omega) only [delL_length, insL_length]); omega)
  k_with "subscriptTail Name Name ref int" => (k_here; k_dflt (refine' item_strsN ?N ?m ?h _ ?k ?l ?f ?_ ?hs ?hg; (case N => k_asm); (case m => k_mem); (case h => assumption); (case k => walk_at "M nat"); (case l => omega); (case f => omega); (case hs => with_unfolding_all rfl); (case hg => (intro _; with_unfolding_all rfl)); k_whole); intro tk')
  k_with "subscriptTail Name BinOp ref int" => (k_here; k_dflt (refine' item_strsN ?N ?m ?h _ ?k ?l ?f ?_ ?hs ?hg; (case N => k_asm); (case m => k_mem); (case h => assumption); (case k => walk_at "M nat"); (case l => omega); (case f => omega); (case hs => with_unfolding_all rfl); (case hg => (intro _; with_unfolding_all rfl)); k_whole); intro tk')
  k_with "exec While Compare cons nil" => refine Stop.out ?_
  k_with "call builtin:list.insert" => (k_here; (with_reducible show wpAny _ _ (call (Value.builtin _) [Value.ref _, Value.int _ _, _]) _ _ _); k_dflt (refine' ins_N ?F ?N _ ?k ?i ?l ?U ?_; (case F => k_asm); (case N => k_asm); (case U => k_upd); (case k => walk_at "M nat"); (case i => walk_at "M le"); (case l => walk_at "M le"); k_whole); intro h' F' N'; (try dsimp only [List.nil_append, List.cons_append] at N'); (try k_sweep))
  k_with "call builtin:list.pop" => (k_here; (with_reducible show wpAny _ _ (call (Value.builtin _) [Value.ref _, Value.int _ _]) _ _ _); k_dflt (refine' popS_N ?F ?N ?h _ ?k ?i ?l ?U ?_; (case F => k_asm); (case N => k_asm); (case U => k_upd); (case h => walk_at "M strs"); (case k => walk_at "M nat"); (case i => walk_at "M le"); (case l => walk_at "M le"); k_whole); intro h' tk' F' N'; (try dsimp only [List.nil_append, List.cons_append] at N'); (try k_sweep))
  k_with "pyIter ref" => ((with_reducible show wpAny _ _ (pyIter (Value.ref _)) (CompPostA _ _ _ _ _ _ _ _ _ _) _ _); refine Stop.out ?_)
  k_with "pyIter ref" => ((with_reducible show wpAny _ _ (pyIter (Value.ref _)) (fun it s₂ => LoopAtV _ _ _ _ _ _ _ _ _ it s₂) _ _); refine Stop.out ?_)
  k_with "call builtin:len" => (k_here; (with_reducible show wpAny _ _ (call (Value.builtin "len") [Value.ref _]) _ _ _); k_dflt (refine' len_N ?N ?m ?l ?_; (case N => k_asm); (case m => k_mem); (case l => walk_at "M le"); k_whole); intro t' tk')
  k_with "binaryOp Sub int int" => (k_here; (with_reducible refine' sub_natN ?h ?_; (case h => omega)); intro t' tk')
  k_with "binaryOp Sub int int" => (k_here; (with_reducible refine' sub_nat1 ?h ?_; (case h => omega)); intro t' tk')
  k_with "LPost" => refine Stop.out ?_
  k_with "WPost" => refine Stop.out ?_
  k_with "Done" => refine Stop.out ?_
  k_with "call builtin:len" => (k_here; (with_reducible show wpAny _ _ (call (Value.builtin "len") [Value.str _ _]) _ _ _); k_dflt (refine' lenS_N ?l ?_; (case l => walk_at "M len"); k_whole); intro t' tk')
  k_with "eval ListComp" => refine Stop.out ?_
  k_with "exec Assign cons ListComp" => refine Stop.out ?_
  k_with "CPost" => refine Stop.out ?_
  k_with "CPostA" => refine Stop.out ?_
  k_with "EPost" => refine Stop.out ?_
  trivial
example : True := by
  k_with "call builtin:list.append" => (k_here; (with_reducible show wpAny _ _ (call (Value.builtin _) [Value.ref _, _]) _ _ _); k_dflt (refine' app_N ?F ?N ?l ?U ?_; (case F => k_asm); (case N => k_asm); (case U => k_upd); (case l => walk_at "M le"); k_whole); intro h' F' N'; (try k_sweep))
  k_with "newList" => (k_here; k_dflt (refine' newList_N ?F ?N ?l ?_; (case F => k_asm); (case N => k_asm); (case l => exact Nat.le_of_ble_eq_true rfl); k_whole); intro D' h' F' N' l1 l2; (try (have l3 := l1; k_lt l3)); (try k_sweep))
  k_with "M enterC" => (
  (case ho => k_is)
  (case hcd => k_is)
  (case hb => first | exact fun s Xs => BindsTo.of_eq rfl | exact fun s Xs => binds_K Xs rfl (by k_is) rfl rfl rfl)
  (case hl => exact rfl)
  (case h2 => decide +kernel)
  (case h1 => decide)
  (case h3 => exact rfl)
  (case h4 => exact rfl)
  (case h5 => exact rfl))
  k_with "M comp" => (
  (case hclos => exact rfl)
  (case hcell => decide)
  (case hkind => exact rfl)
  (case hnames => decide)
  (case hx => exact rfl)
  (case hs => (intro _; exact rfl)))
  k_with "M compA" => (
  (case hsw => exact rfl)
  (case hclos => exact rfl)
  (case hcell => decide)
  (case hkind => exact rfl)
  (case hnames => decide)
  (case hx => exact rfl)
  (case hy => exact rfl)
  (case hp => exact rfl)
  (case hs => (intro _; exact rfl)))
  k_with "eval Name" => (k_here; (with_reducible show wpAny _ _ (eval (PySem.Expr.Name _ _) (compEnvC _ _ _ _)) _ _ _); k_dflt (first
  | (refine' cname ?n ?v ?k ?l ?d ?_; (case n => assumption); (case v => assumption); (case k => exact rfl); (case l => exact rfl); (case d => decide))
  | (refine' ccell ?N ?c ?m ?d ?k ?l ?b ?_; (case N => k_asm); (case c => exact rfl); (case m => k_mem); (case d => assumption); (case k => exact rfl); (case l => exact rfl); (case b => decide))
  | (refine' cbuilt ?F ?X ?T ?e ?v ?n ?g ?b ?k ?l ?d ?_; (case F => k_asm); (case X => k_asm); (case T => k_asm); (case e => k_is); (case v => boot_by_name); (case n => decide); (case g => exact rfl); (case b => exact rfl); (case k => exact rfl); (case l => exact rfl); (case d => decide))
  | (refine' cglob ?F ?X ?T ?e ?g ?k ?l ?d ?_; (case F => k_asm); (case X => k_asm); (case T => k_asm); (case e => k_is); (case g => exact rfl); (case k => exact rfl); (case l => exact rfl); (case d => decide))
  | fail))
  trivial
example : True := by
  k_with "call ref" => ((with_reducible show wpAny _ _ (call (Value.ref 202) [Value.str _ _] []) _ _ _); k_dflt (refine' use_fs (size_fs ?X ?T _ _ ?hx) ?B ?F ?N ?hf ?hk ?hd ?hu ?hp ?_; (case B => assumption); (case X => assumption); (case T => assumption); (case F => k_asm); (case N => k_asm); (case hf => rfl); (case hk => rfl); (case hp => walk_at "M picks"); (case hx => walk_at "M len"); (case hd => ktr_room); (case hu => ktr_units); k_whole); intro v' tl' h' tk' hr' F' N' hn'; (obtain ⟨t', hv', ht'⟩ := hr'); (subst hv'); (subst ht'); (clear hn'); (try dsimp only [List.nil_append, List.cons_append] at N'); (try k_sweep))
  trivial

example : True := by
  k_with "call ref" => ((with_reducible show wpAny _ _ (call (Value.ref 39) _ _) _ _ _); k_dflt (refine' use_fs (bisR_fs ?X ?T _ _ _ _ _ _ ?hss _ _ _ _ ?hlo ?hhi _ _ ?h1 ?h2 ?h3 ?h4) ?B ?F ?N ?hf ?hk ?hd ?hu ?hp ?_; (case B => assumption); (case X => assumption); (case T => assumption); (case F => k_asm); (case N => k_asm); (case hf => rfl); (case hk => rfl); (case hp => walk_at "M picks"); (case hss => walk_at "M strs"); (case hlo => walk_at "M nat"); (case hhi => walk_at "M nat"); (case h1 => omega); (case h2 => walk_at "M le"); (case h3 => walk_at "M le"); (case h4 => walk_at "M lens"); (case hd => ktr_room); (case hu => ktr_units); k_whole); intro v' tl' h' tk' hr' F' N' hn'; (obtain ⟨t', hv', ht'⟩ := hr'); (subst hv'); (subst ht'); (clear hn'); (try dsimp only [List.nil_append, List.cons_append] at N'); (try k_sweep))
  k_with "call ref" => ((with_reducible show wpAny _ _ (call (Value.ref 57) _ _) _ _ _); k_dflt (refine' use_fs (bisL_fs ?X ?T _ _ _ _ _ _ ?hss _ _ _ _ ?hlo ?hhi _ _ ?h1 ?h2 ?h3 ?h4) ?B ?F ?N ?hf ?hk ?hd ?hu ?hp ?_; (case B => assumption); (case X => assumption); (case T => assumption); (case F => k_asm); (case N => k_asm); (case hf => rfl); (case hk => rfl); (case hp => walk_at "M picks"); (case hss => walk_at "M strs"); (case hlo => walk_at "M nat"); (case hhi => walk_at "M nat"); (case h1 => omega); (case h2 => walk_at "M le"); (case h3 => walk_at "M le"); (case h4 => walk_at "M lens"); (case hd => ktr_room); (case hu => ktr_units); k_whole); intro v' tl' h' tk' hr' F' N' hn'; (obtain ⟨t', hv', ht'⟩ := hr'); (subst hv'); (subst ht'); (clear hn'); (try dsimp only [List.nil_append, List.cons_append] at N'); (try k_sweep))
  trivial

example : True := by
  k_with "call ref" => ((with_reducible show wpAny _ _ (call (Value.ref 30) _ _) _ _ _); k_dflt (refine' use_fs (insR_fs ?X ?T _ _ _ _ _ _ ?hss _ _ _ _ ?hlo ?hhi _ _ ?h1 ?h2 ?h3 ?h4 ?hx) ?B ?F ?N ?hf ?hk ?hd ?hu ?hp ?_; (case B => assumption); (case X => assumption); (case T => assumption); (case F => k_asm); (case N => k_asm); (case hf => rfl); (case hk => rfl); (case hp => walk_at "M picks"); (case hss => walk_at "M strs"); (case hlo => walk_at "M nat"); (case hhi => walk_at "M nat"); (case h1 => omega); (case h2 => walk_at "M le"); (case h3 => walk_at "M le"); (case h4 => walk_at "M lens"); (case hx => walk_at "M len"); (case hd => ktr_room); (case hu => ktr_units); k_whole); intro v' tl' h' tk' hr' F' N' hn'; (obtain ⟨hv', ht'⟩ := hr'); (subst hv'); (subst ht'); (clear hn'); (try dsimp only [List.nil_append, List.cons_append] at N'); (try k_sweep))
  k_with "call ref" => ((with_reducible show wpAny _ _ (call (Value.ref 48) _ _) _ _ _); k_dflt (refine' use_fs (insL_fs ?X ?T _ _ _ _ _ _ ?hss _ _ _ _ ?hlo ?hhi _ _ ?h1 ?h2 ?h3 ?h4 ?hx) ?B ?F ?N ?hf ?hk ?hd ?hu ?hp ?_; (case B => assumption); (case X => assumption); (case T => assumption); (case F => k_asm); (case N => k_asm); (case hf => rfl); (case hk => rfl); (case hp => walk_at "M picks"); (case hss => walk_at "M strs"); (case hlo => walk_at "M nat"); (case hhi => walk_at "M nat"); (case h1 => omega); (case h2 => walk_at "M le"); (case h3 => walk_at "M le"); (case h4 => walk_at "M lens"); (case hx => walk_at "M len"); (case hd => ktr_room); (case hu => ktr_units); k_whole); intro v' tl' h' tk' hr' F' N' hn'; (obtain ⟨hv', ht'⟩ := hr'); (subst hv'); (subst ht'); (clear hn'); (try dsimp only [List.nil_append, List.cons_append] at N'); (try k_sweep))
  trivial

example : True := by
  k_with "call ref" => ((with_reducible show wpAny _ _ (call (Value.ref 207) [Value.ref _, Value.ref 30] _) _ _ _); k_dflt (refine' use_fs (rowR_fs ?X ?T _ _ _ _ ?hss ?h3 ?h4) ?B ?F ?N ?hf ?hk ?hd ?hu ?hp ?_; (case B => assumption); (case X => assumption); (case T => assumption); (case F => k_asm); (case N => k_asm); (case hf => rfl); (case hk => rfl); (case hp => walk_at "M picks"); (case hss => walk_at "M strs"); (case h3 => walk_at "M le"); (case h4 => walk_at "M lens"); (case hd => ktr_room); (case hu => ktr_units); k_whole); intro v' tl' h' tk' hr' F' N' hn'; (obtain ⟨D', its', n', hv', hne', hS', ht'⟩ := hr'); (subst hv'); (subst ht'); (have hO' := off_one hn' hne'); (clear hn'); (try dsimp only [List.nil_append, List.cons_append] at N'); (try k_sweep))
  k_with "call ref" => ((with_reducible show wpAny _ _ (call (Value.ref 207) [Value.ref _, Value.ref 48] _) _ _ _); k_dflt (refine' use_fs (rowL_fs ?X ?T _ _ _ _ ?hss ?h3 ?h4) ?B ?F ?N ?hf ?hk ?hd ?hu ?hp ?_; (case B => assumption); (case X => assumption); (case T => assumption); (case F => k_asm); (case N => k_asm); (case hf => rfl); (case hk => rfl); (case hp => walk_at "M picks"); (case hss => walk_at "M strs"); (case h3 => walk_at "M le"); (case h4 => walk_at "M lens"); (case hd => ktr_room); (case hu => ktr_units); k_whole); intro v' tl' h' tk' hr' F' N' hn'; (obtain ⟨D', its', n', hv', hne', hS', ht'⟩ := hr'); (subst hv'); (subst ht'); (have hO' := off_one hn' hne'); (clear hn'); (try dsimp only [List.nil_append, List.cons_append] at N'); (try k_sweep))
  trivial

example : True := by
  k_with "call ref" => ((with_reducible show wpAny _ _ (call (Value.ref 219) _ _) _ _ _); k_dflt (refine' use_fs (turned_fs ?X ?T _ _ _ _ ?hss ?h3) ?B ?F ?N ?hf ?hk ?hd ?hu ?hp ?_; (case B => assumption); (case X => assumption); (case T => assumption); (case F => k_asm); (case N => k_asm); (case hf => rfl); (case hk => rfl); (case hp => walk_at "M picks"); (case hss => walk_at "M strs"); (case h3 => walk_at "M le"); (case hd => ktr_room); (case hu => ktr_units); k_whole); intro v' tl' h' tk' hr' F' N' hn'; (obtain ⟨D', its', n', hv', hne', hS', ht'⟩ := hr'); (subst hv'); (subst ht'); (have hO' := off_one hn' hne'); (clear hn'); (try dsimp only [List.nil_append, List.cons_append] at N'); (try k_sweep))
  trivial


noncomputable section
example : True := by
  k_with "callWith ref" => refine Stop.out ?_
  k_with "getMethod ref" => (k_here; (with_reducible show wpAny _ _ (getMethod (Value.ref _) (PySem.Str.ofString "read") _) _ _ _); k_dflt (refine' methFn ?c ?d ?_; (case c => exact News.get (by k_asm) (by k_mem)); (case d => exact News.get (by k_asm) (by k_mem)); k_whole); intro tk'; (try dsimp only))
  k_with "call ref" => (k_here; (with_reducible show wpAny _ _ (call (Value.ref _) [Value.int _ _] _) _ _ _); refine Stop.out ?_)
  trivial
theorem news_swap {h₀ h : Heap} {L : Addr} {a b : Led} (N : News h₀ L h (a ++ b)) : News h₀ L h (b ++ a) := fun p hp => N p (by
  rcases List.mem_append.mp hp with hp | hp
  · exact List.mem_append_right _ hp
  · exact List.mem_append_left _ hp)
theorem putL_hd (x : Str) (h h' : Int) (k : Value) (k1 : Tok) (v v1 : Value) (r : List DictEntry) (n : Nat) : (putL x h k v (⟨h', .str x k1, v1⟩ :: r), putN x (⟨h', .str x k1, v1⟩ :: r) n) = (⟨h', .str x k1, v⟩ :: r, n) := by
  have e : (Value.str x k1).isStr x = true := by simp [Value.isStr]
  simp [putL, putN, e]
theorem setAttr_gen {M : Model} {A : Around} {Q : Unit → Shared → Prop} {E : Value → Shared → Prop} {s : Shared} {x : Value} {n : Str} {z : Int} {tk : Tok} (h : ∀ tq, wpAny M A (setAttr x n (.int z tq)) Q E s) : wpAny M A (setAttr x n (.int z tk)) Q E s := h tk
def lnAt (tx : Str) (i : Nat) (ln : Int) : Int := if piece tx i = "\n" then ln + 1 else ln
theorem char_fs (X : (Kf w.params).In b₀) (T : Top topProg loose mean mg mb b₀) (tx : Str) (a : LexA) (ok : LexOk w b₀ tx a) (ln : Int) (tt : LexT) (nd : Nat) (vs : List Value) (np i : Nat) (tp : Tok) (na : Nat) (hi : i ≤ tx.length) :
    FS P1 w b₀ 8 80 (.ref 162) ⟨[.ref a.I], []⟩ (lexTl w a ln tt nd vs np i tp na)
      (fun v tl' => ∃ u tt' nd' tp' na', v = .str (piece tx i) u ∧ tl' = lexTl w a (lnAt tx i ln) tt' nd' vs np (i + (piece tx i).length) tp' na') := by
  obtain ⟨hnd, ⟨fdS, hS⟩, ⟨fdR, hR⟩, hgo⟩ := ok
  obtain ⟨I, d, pb, S, sd, cl, rd, cr, al, ca, ct, so, clo, ro, co, cto, cao, kk, hk⟩ := a
  dsimp only at hS hR hnd
  subst hS hR
  unfold ReadOk readTl at hgo
  dsimp only at hgo
  simp only [List.nodup_cons, List.mem_cons, List.not_mem_nil, or_false, not_or, List.nodup_nil, and_true, not_false_eq_true] at hnd
  simp only [← ne_eq] at hnd
  obtain ⟨⟨n1, n2, n3, n4, n5, n6, n7, n8, n9, n10⟩, ⟨o2, o3, o4, o5, o6, o7, o8, o9, o10⟩, ⟨p3, p4, p5, p6, p7, p8, p9, p10⟩, ⟨q4, q5, q6, q7, q8, q9, q10⟩, ⟨r5, r6, r7, r8, r9, r10⟩, ⟨s6, s7, s8, s9, s10⟩, ⟨t7, t8, t9, t10⟩, ⟨u8, u9, u10⟩, ⟨v9, v10⟩, w10⟩ := hnd
  unfold lexTl lexD
  dsimp only
  refine' enter (binds := [("self", .ref I)]) X T ?ho ?hcd ?hb ?hl ?h ?h1 ?h2 ?h3 ?h4 ?h5
  walk_at "M enter"
  intro dp un gd fr s g L' h₁ hd hu F N B st Xg Tg
  (conv in (PySem.execs _ _) => arg 1; whnf)
  (try dsimp only)
  k_steps
  unfold Stop
  rename Fr _ _ _ _ => F
  rename News _ _ _ _ => N
  refine callWith_1 rfl rfl ?_
  k_steps
  · exact fun M => keeps_F _ (FnAt.of N (by k_mem))
  unfold Stop
  refine' use_fs (hgo _ _ _ _ ‹_›) ?B F N ?hf ?hk ?hd ?hu ?hp ?_
  case B => assumption
  case hf => rfl
  case hk => rfl
  case hd => ktr_room
  case hu => ktr_units
  case hp => walk_at "M picks"
  rintro v tl' h' tk' ⟨u, tp', na', rfl, rfl⟩ F N hn
  replace N := news_swap N
  dsimp only [readTl, List.nil_append, List.cons_append] at N
  k_steps
  · rename Fr _ _ _ _ => F
    rename News _ _ _ _ => N
    refine setAttr_gen fun tq => ?_
    refine' set_dict ?k1 ?k2 ?k3 ?k4 ?k5 ?k6 ?k7 ?k8 ?k9 ?k10 ?e ?U ?hz ?_
    case k1 => exact F
    case k2 => k_asm
    case k3 => exact N
    case k4 => k_inst
    case k5 => rfl
    case k6 => k_is
    case k7 => k_is
    case k8 => k_is
    case k9 => k_is
    case k10 => k_get
    case e => exact putL_hd _ _ _ _ _ _ _ _ _
    case U => k_upd
    case hz => exact Nat.le_of_ble_eq_true rfl
    intro h' F N
    k_steps
    unfold Stop
    rename Fr _ _ _ _ => F
    rename News _ _ _ _ => N
    have e : lnAt tx i ln = ln + 1 := if_pos (by simpa using ‹(piece tx i == _) = true›)
    rw [e]
    exact ⟨_, _, _, _, _, rfl, F, N, u, ⟨tq, tt.k1, tt.k2, tt.k3, tt.k4, tt.k5⟩, nd, tp', na', rfl, rfl⟩
  · unfold Stop
    rename Fr _ _ _ _ => F
    rename News _ _ _ _ => N
    have e : lnAt tx i ln = ln := if_neg (by simpa using ‹(piece tx i == _) = false›)
    rw [e]
    exact ⟨_, _, _, _, _, rfl, F, N, _, tt, _, _, _, rfl, rfl⟩
end
example : True := by
  k_with_none
  trivial
example : True := by
  k_with "M enter" => (
  (case ho => k_is)
  (case hcd => k_is)
  (case hb => first | exact fun s Xs => BindsTo.of_eq rfl | exact fun s Xs => binds_K Xs rfl (by k_is) rfl rfl rfl)
  (case hl => exact locs rfl)
  (case h1 => decide)
  (case h2 => decide)
  (case h3 => exact rfl)
  (case h4 => exact rfl)
  (case h5 => exact rfl))
  k_with "M names" => (repeat' (first | exact List.forall_mem_nil _ | (refine List.forall_mem_cons.mpr ⟨?nm, ?_⟩; (case nm => rfl))))
  trivial
example : True := by
  k_with "M ne" => first | assumption | exact Ne.symm (by assumption) | k_ne
  trivial
example : True := by
  k_with "M len" => first | assumption | exact getD_len (by assumption) _ | omega
  k_with "M lens" => first | assumption | exact len_del (by assumption) | exact len_del (len_del (by assumption))
  k_with "M strs" => first | assumption | exact strs_del (by assumption) _ | exact strs_del (strs_del (by assumption) _) _
  k_with "M nat" => first | with_reducible exact fdiv2 _ _ | rfl | exact (Int.natCast_add _ _).symm | omega
  k_with "M le" => first | omega | ((try simp (disch := omega) only [delL_length, insL_length]); omega)
  k_with "subscriptTail Name Name ref int" => (k_here; k_dflt (refine' item_strsN ?N ?m ?h _ ?k ?l ?f ?_ ?hs ?hg; (case N => k_asm); (case m => k_mem); (case h => assumption); (case k => walk_at "M nat"); (case l => omega); (case f => omega); (case hs => with_unfolding_all rfl); (case hg => (intro _; with_unfolding_all rfl)); k_whole); intro tk')
  k_with "subscriptTail Name BinOp ref int" => (k_here; k_dflt (refine' item_strsN ?N ?m ?h _ ?k ?l ?f ?_ ?hs ?hg; (case N => k_asm); (case m => k_mem); (case h => assumption); (case k => walk_at "M nat"); (case l => omega); (case f => omega); (case hs => with_unfolding_all rfl); (case hg => (intro _; with_unfolding_all rfl)); k_whole); intro tk')
  k_with "exec While Compare cons nil" => refine Stop.out ?_
  k_with "call builtin:list.insert" => (k_here; (with_reducible show wpAny _ _ (call (Value.builtin _) [Value.ref _, Value.int _ _, _]) _ _ _); k_dflt (refine' ins_N ?F ?N _ ?k ?i ?l ?U ?_; (case F => k_asm); (case N => k_asm); (case U => k_upd); (case k => walk_at "M nat"); (case i => walk_at "M le"); (case l => walk_at "M le"); k_whole); intro h' F' N'; (try dsimp only [List.nil_append, List.cons_append] at N'); (try k_sweep))
  k_with "call builtin:list.pop" => (k_here; (with_reducible show wpAny _ _ (call (Value.builtin _) [Value.ref _, Value.int _ _]) _ _ _); k_dflt (refine' popS_N ?F ?N ?h _ ?k ?i ?l ?U ?_; (case F => k_asm); (case N => k_asm); (case U => k_upd); (case h => walk_at "M strs"); (case k => walk_at "M nat"); (case i => walk_at "M le"); (case l => walk_at "M le"); k_whole); intro h' tk' F' N'; (try dsimp only [List.nil_append, List.cons_append] at N'); (try k_sweep))
  k_with "pyIter ref" => ((with_reducible show wpAny _ _ (pyIter (Value.ref _)) (CompPostA _ _ _ _ _ _ _ _ _ _) _ _); refine Stop.out ?_)
  k_with "pyIter ref" => ((with_reducible show wpAny _ _ (pyIter (Value.ref _)) (fun it s₂ => LoopAtV _ _ _ _ _ _ _ _ _ it s₂) _ _); refine Stop.out ?_)
  k_with "call builtin:len" => (k_here; (with_reducible show wpAny _ _ (call (Value.builtin "len") [Value.ref _]) _ _ _); k_dflt (refine' len_N ?N ?m ?l ?_; (case N => k_asm); (case m => k_mem); (case l => walk_at "M le"); k_whole); intro t' tk')
  k_with "binaryOp Sub int int" => (k_here; (with_reducible refine' sub_natN ?h ?_; (case h => omega)); intro t' tk')
  k_with "binaryOp Sub int int" => (k_here; (with_reducible refine' sub_nat1 ?h ?_; (case h => omega)); intro t' tk')
  k_with "LPost" => refine Stop.out ?_
  k_with "WPost" => refine Stop.out ?_
  k_with "Done" => refine Stop.out ?_
  k_with "call builtin:len" => (k_here; (with_reducible show wpAny _ _ (call (Value.builtin "len") [Value.str _ _]) _ _ _); k_dflt (refine' lenS_N ?l ?_; (case l => walk_at "M len"); k_whole); intro t' tk')
  k_with "eval ListComp" => refine Stop.out ?_
  k_with "exec Assign cons ListComp" => refine Stop.out ?_
  k_with "CPost" => refine Stop.out ?_
  k_with "CPostA" => refine Stop.out ?_
  k_with "EPost" => refine Stop.out ?_
  trivial
example : True := by
  k_with "call builtin:list.append" => (k_here; (with_reducible show wpAny _ _ (call (Value.builtin _) [Value.ref _, _]) _ _ _); k_dflt (refine' app_N ?F ?N ?l ?U ?_; (case F => k_asm); (case N => k_asm); (case U => k_upd); (case l => walk_at "M le"); k_whole); intro h' F' N'; (try k_sweep))
  k_with "newList" => (k_here; k_dflt (refine' newList_N ?F ?N ?l ?_; (case F => k_asm); (case N => k_asm); (case l => exact Nat.le_of_ble_eq_true rfl); k_whole); intro D' h' F' N' l1 l2; (try (have l3 := l1; k_lt l3)); (try k_sweep))
  k_with "M enterC" => (
  (case ho => k_is)
  (case hcd => k_is)
  (case hb => first | exact fun s Xs => BindsTo.of_eq rfl | exact fun s Xs => binds_K Xs rfl (by k_is) rfl rfl rfl)
  (case hl => exact rfl)
  (case h2 => decide +kernel)
  (case h1 => decide)
  (case h3 => exact rfl)
  (case h4 => exact rfl)
  (case h5 => exact rfl))
  k_with "M comp" => (
  (case hclos => exact rfl)
  (case hcell => decide)
  (case hkind => exact rfl)
  (case hnames => decide)
  (case hx => exact rfl)
  (case hs => (intro _; exact rfl)))
  k_with "M compA" => (
  (case hsw => exact rfl)
  (case hclos => exact rfl)
  (case hcell => decide)
  (case hkind => exact rfl)
  (case hnames => decide)
  (case hx => exact rfl)
  (case hy => exact rfl)
  (case hp => exact rfl)
  (case hs => (intro _; exact rfl)))
  k_with "eval Name" => (k_here; (with_reducible show wpAny _ _ (eval (PySem.Expr.Name _ _) (compEnvC _ _ _ _)) _ _ _); k_dflt (first
  | (refine' cname ?n ?v ?k ?l ?d ?_; (case n => assumption); (case v => assumption); (case k => exact rfl); (case l => exact rfl); (case d => decide))
  | (refine' ccell ?N ?c ?m ?d ?k ?l ?b ?_; (case N => k_asm); (case c => exact rfl); (case m => k_mem); (case d => assumption); (case k => exact rfl); (case l => exact rfl); (case b => decide))
  | (refine' cbuilt ?F ?X ?T ?e ?v ?n ?g ?b ?k ?l ?d ?_; (case F => k_asm); (case X => k_asm); (case T => k_asm); (case e => k_is); (case v => boot_by_name); (case n => decide); (case g => exact rfl); (case b => exact rfl); (case k => exact rfl); (case l => exact rfl); (case d => decide))
  | (refine' cglob ?F ?X ?T ?e ?g ?k ?l ?d ?_; (case F => k_asm); (case X => k_asm); (case T => k_asm); (case e => k_is); (case g => exact rfl); (case k => exact rfl); (case l => exact rfl); (case d => decide))
  | fail))
  trivial
example : True := by
  k_with "call ref" => ((with_reducible show wpAny _ _ (call (Value.ref 202) [Value.str _ _] []) _ _ _); k_dflt (refine' use_fs (size_fs ?X ?T _ _ ?hx) ?B ?F ?N ?hf ?hk ?hd ?hu ?hp ?_; (case B => assumption); (case X => assumption); (case T => assumption); (case F => k_asm); (case N => k_asm); (case hf => rfl); (case hk => rfl); (case hp => walk_at "M picks"); (case hx => walk_at "M len"); (case hd => ktr_room); (case hu => ktr_units); k_whole); intro v' tl' h' tk' hr' F' N' hn'; (obtain ⟨t', hv', ht'⟩ := hr'); (subst hv'); (subst ht'); (clear hn'); (try dsimp only [List.nil_append, List.cons_append] at N'); (try k_sweep))
  trivial

example : True := by
  k_with "call ref" => ((with_reducible show wpAny _ _ (call (Value.ref 39) _ _) _ _ _); k_dflt (refine' use_fs (bisR_fs ?X ?T _ _ _ _ _ _ ?hss _ _ _ _ ?hlo ?hhi _ _ ?h1 ?h2 ?h3 ?h4) ?B ?F ?N ?hf ?hk ?hd ?hu ?hp ?_; (case B => assumption); (case X => assumption); (case T => assumption); (case F => k_asm); (case N => k_asm); (case hf => rfl); (case hk => rfl); (case hp => walk_at "M picks"); (case hss => walk_at "M strs"); (case hlo => walk_at "M nat"); (case hhi => walk_at "M nat"); (case h1 => omega); (case h2 => walk_at "M le"); (case h3 => walk_at "M le"); (case h4 => walk_at "M lens"); (case hd => ktr_room); (case hu => ktr_units); k_whole); intro v' tl' h' tk' hr' F' N' hn'; (obtain ⟨t', hv', ht'⟩ := hr'); (subst hv'); (subst ht'); (clear hn'); (try dsimp only [List.nil_append, List.cons_append] at N'); (try k_sweep))
  k_with "call ref" => ((with_reducible show wpAny _ _ (call (Value.ref 57) _ _) _ _ _); k_dflt (refine' use_fs (bisL_fs ?X ?T _ _ _ _ _ _ ?hss _ _ _ _ ?hlo ?hhi _ _ ?h1 ?h2 ?h3 ?h4) ?B ?F ?N ?hf ?hk ?hd ?hu ?hp ?_; (case B => assumption); (case X => assumption); (case T => assumption); (case F => k_asm); (case N => k_asm); (case hf => rfl); (case hk => rfl); (case hp => walk_at "M picks"); (case hss => walk_at "M strs"); (case hlo => walk_at "M nat"); (case hhi => walk_at "M nat"); (case h1 => omega); (case h2 => walk_at "M le"); (case h3 => walk_at "M le"); (case h4 => walk_at "M lens"); (case hd => ktr_room); (case hu => ktr_units); k_whole); intro v' tl' h' tk' hr' F' N' hn'; (obtain ⟨t', hv', ht'⟩ := hr'); (subst hv'); (subst ht'); (clear hn'); (try dsimp only [List.nil_append, List.cons_append] at N'); (try k_sweep))
  trivial

example : True := by
  k_with "call ref" => ((with_reducible show wpAny _ _ (call (Value.ref 30) _ _) _ _ _); k_dflt (refine' use_fs (insR_fs ?X ?T _ _ _ _ _ _ ?hss _ _ _ _ ?hlo ?hhi _ _ ?h1 ?h2 ?h3 ?h4 ?hx) ?B ?F ?N ?hf ?hk ?hd ?hu ?hp ?_; (case B => assumption); (case X => assumption); (case T => assumption); (case F => k_asm); (case N => k_asm); (case hf => rfl); (case hk => rfl); (case hp => walk_at "M picks"); (case hss => walk_at "M strs"); (case hlo => walk_at "M nat"); (case hhi => walk_at "M nat"); (case h1 => omega); (case h2 => walk_at "M le"); (case h3 => walk_at "M le"); (case h4 => walk_at "M lens"); (case hx => walk_at "M len"); (case hd => ktr_room); (case hu => ktr_units); k_whole); intro v' tl' h' tk' hr' F' N' hn'; (obtain ⟨hv', ht'⟩ := hr'); (subst hv'); (subst ht'); (clear hn'); (try dsimp only [List.nil_append, List.cons_append] at N'); (try k_sweep))
  k_with "call ref" => ((with_reducible show wpAny _ _ (call (Value.ref 48) _ _) _ _ _); k_dflt (refine' use_fs (insL_fs ?X ?T _ _ _ _ _ _ ?hss _ _ _ _ ?hlo ?hhi _ _ ?h1 ?h2 ?h3 ?h4 ?hx) ?B ?F ?N ?hf ?hk ?hd ?hu ?hp ?_; (case B => assumption); (case X => assumption); (case T => assumption); (case F => k_asm); (case N => k_asm); (case hf => rfl); (case hk => rfl); (case hp => walk_at "M picks"); (case hss => walk_at "M strs"); (case hlo => walk_at "M nat"); (case hhi => walk_at "M nat"); (case h1 => omega); (case h2 => walk_at "M le"); (case h3 => walk_at "M le"); (case h4 => walk_at "M lens"); (case hx => walk_at "M len"); (case hd => ktr_room); (case hu => ktr_units); k_whole); intro v' tl' h' tk' hr' F' N' hn'; (obtain ⟨hv', ht'⟩ := hr'); (subst hv'); (subst ht'); (clear hn'); (try dsimp only [List.nil_append, List.cons_append] at N'); (try k_sweep))
  trivial

example : True := by
  k_with "call ref" => ((with_reducible show wpAny _ _ (call (Value.ref 207) [Value.ref _, Value.ref 30] _) _ _ _); k_dflt (refine' use_fs (rowR_fs ?X ?T _ _ _ _ ?hss ?h3 ?h4) ?B ?F ?N ?hf ?hk ?hd ?hu ?hp ?_; (case B => assumption); (case X => assumption); (case T => assumption); (case F => k_asm); (case N => k_asm); (case hf => rfl); (case hk => rfl); (case hp => walk_at "M picks"); (case hss => walk_at "M strs"); (case h3 => walk_at "M le"); (case h4 => walk_at "M lens"); (case hd => ktr_room); (case hu => ktr_units); k_whole); intro v' tl' h' tk' hr' F' N' hn'; (obtain ⟨D', its', n', hv', hne', hS', ht'⟩ := hr'); (subst hv'); (subst ht'); (have hO' := off_one hn' hne'); (clear hn'); (try dsimp only [List.nil_append, List.cons_append] at N'); (try k_sweep))
  k_with "call ref" => ((with_reducible show wpAny _ _ (call (Value.ref 207) [Value.ref _, Value.ref 48] _) _ _ _); k_dflt (refine' use_fs (rowL_fs ?X ?T _ _ _ _ ?hss ?h3 ?h4) ?B ?F ?N ?hf ?hk ?hd ?hu ?hp ?_; (case B => assumption); (case X => assumption); (case T => assumption); (case F => k_asm); (case N => k_asm); (case hf => rfl); (case hk => rfl); (case hp => walk_at "M picks"); (case hss => walk_at "M strs"); (case h3 => walk_at "M le"); (case h4 => walk_at "M lens"); (case hd => ktr_room); (case hu => ktr_units); k_whole); intro v' tl' h' tk' hr' F' N' hn'; (obtain ⟨D', its', n', hv', hne', hS', ht'⟩ := hr'); (subst hv'); (subst ht'); (have hO' := off_one hn' hne'); (clear hn'); (try dsimp only [List.nil_append, List.cons_append] at N'); (try k_sweep))
  trivial

example : True := by
  k_with "call ref" => ((with_reducible show wpAny _ _ (call (Value.ref 219) _ _) _ _ _); k_dflt (refine' use_fs (turned_fs ?X ?T _ _ _ _ ?hss ?h3) ?B ?F ?N ?hf ?hk ?hd ?hu ?hp ?_; (case B => assumption); (case X => assumption); (case T => assumption); (case F => k_asm); (case N => k_asm); (case hf => rfl); (case hk => rfl); (case hp => walk_at "M picks"); (case hss => walk_at "M strs"); (case h3 => walk_at "M le"); (case hd => ktr_room); (case hu => ktr_units); k_whole); intro v' tl' h' tk' hr' F' N' hn'; (obtain ⟨D', its', n', hv', hne', hS', ht'⟩ := hr'); (subst hv'); (subst ht'); (have hO' := off_one hn' hne'); (clear hn'); (try dsimp only [List.nil_append, List.cons_append] at N'); (try k_sweep))
  trivial


noncomputable section
theorem truthyH {prog : Program} {w : World} {A : Around} {E : Value → Shared → Prop} {s : Shared} {h₀ : Heap} {L D : Addr} {news : Led} {y : Value} {vs : List Value} {n : Nat} {Q : Bool → Shared → Prop} (N : News h₀ L s.heap news) (hm : (D, listOf (y :: vs).toArray n) ∈ news) (hl : vs.length ≤ 999)
    (h : ∀ tk, Q true { s with toks := tk }) : wpAny (model prog w) A (truthy (.ref D)) Q E s :=
  wpAny_truthy_list (N.isList hm) (by simp; omega) (h _)
theorem truthyE {prog : Program} {w : World} {A : Around} {E : Value → Shared → Prop} {s : Shared} {h₀ : Heap} {L D : Addr} {news : Led} {n : Nat} {Q : Bool → Shared → Prop} (N : News h₀ L s.heap news) (hm : (D, listOf ([] : List Value).toArray n) ∈ news)
    (h : ∀ tk, Q false { s with toks := tk }) : wpAny (model prog w) A (truthy (.ref D)) Q E s :=
  wpAny_truthy_list (N.isList hm) (by simp) (h _)
example : True := by
  k_with "truthy ref" => (k_here; k_dflt (first | (refine' truthyH ?l ?f ?g ?_; (case l => k_asm); (case f => k_mem); (case g => omega); k_whole) | (refine' truthyE ?l ?f ?_; (case l => k_asm); (case f => k_mem); k_whole)); intro tk')
  trivial
theorem popH_N {prog : Program} {w : World} {A : Around} {E : Value → Shared → Prop} {s : Shared} {h₀ : Heap} {L D : Addr} {m : Str → Option Value} {news news' : Led} {y : Value} {vs : List Value} {n : Nat} {u : Tok} {Q : Value → Shared → Prop} (F : Fr h₀ L s.heap m) (N : News h₀ L s.heap news) (hl : vs.length ≤ 999)
    (U : Upd D (listOf (y :: vs).toArray n) (listOf vs.toArray (n + 1)) news news') (h : ∀ h', Fr h₀ L h' m → News h₀ L h' news' → Q y { s with heap := h' }) :
    wpAny (model prog w) A (call (.builtin "list.pop") [.ref D, .int 0 u]) Q E s :=
  pop_N (vs := y :: vs) F N 0 rfl rfl (by simp; omega) (by simpa [delL] using U) h
example : True := by
  k_with "call builtin:list.pop" => (k_here; (with_reducible show wpAny _ _ (call (Value.builtin _) [Value.ref _, Value.int _ _]) _ _ _); k_dflt (refine' popH_N ?F ?N ?l ?U ?_; (case F => k_asm); (case N => k_asm); (case U => k_upd); (case l => omega); k_whole); intro h' F' N'; (try k_sweep))
  trivial
theorem tokp_fs (X : (Kf w.params).In b₀) (T : Top topProg loose mean mg mb b₀) (I d S pb : Addr) (ln : Int) (tt : LexT) (nd np : Nat) (v : Str) (tv : Tok) (vs : List Value) (hv : vs.length ≤ 900) (h1 : I ≠ d) (h2 : I ≠ pb) (h3 : d ≠ pb) :
    FS P1 w b₀ 4 40 (.ref 169) ⟨[.ref I], []⟩ [(I, instObj 179 d), (d, dictOf (lexD w ln S pb tt) nd), (pb, listOf (Value.str v tv :: vs).toArray np)]
      (fun r tl' => ∃ t, r = .str v t ∧ tl' = [(I, instObj 179 d), (d, dictOf (lexD w ln S pb tt) nd), (pb, listOf vs.toArray (np + 1))]) := by
  unfold lexD
  refine' enter (binds := [("self", .ref I)]) X T ?ho ?hcd ?hb ?hl ?h ?h1 ?h2 ?h3 ?h4 ?h5
  walk_at "M enter"
  intro dp un gd fr s g L' h₁ hd hu F N B st Xg Tg
  (conv in (PySem.execs _ _) => arg 1; whnf)
  (try dsimp only)
  k_steps
  · unfold Stop
    exact ⟨_, _, _, _, _, rfl, by assumption, by assumption, _, rfl, rfl⟩
end
example : True := by
  k_with_none
  trivial
example : True := by
  k_with "M enter" => (
  (case ho => k_is)
  (case hcd => k_is)
  (case hb => first | exact fun s Xs => BindsTo.of_eq rfl | exact fun s Xs => binds_K Xs rfl (by k_is) rfl rfl rfl)
  (case hl => exact locs rfl)
  (case h1 => decide)
  (case h2 => decide)
  (case h3 => exact rfl)
  (case h4 => exact rfl)
  (case h5 => exact rfl))
  k_with "M names" => (repeat' (first | exact List.forall_mem_nil _ | (refine List.forall_mem_cons.mpr ⟨?nm, ?_⟩; (case nm => rfl))))
  trivial
example : True := by
  k_with "M ne" => first | assumption | exact Ne.symm (by assumption) | k_ne
  trivial
example : True := by
  k_with "M len" => first | assumption | exact getD_len (by assumption) _ | omega
  k_with "M lens" => first | assumption | exact len_del (by assumption) | exact len_del (len_del (by assumption))
  k_with "M strs" => first | assumption | exact strs_del (by assumption) _ | exact strs_del (strs_del (by assumption) _) _
  k_with "M nat" => first | with_reducible exact fdiv2 _ _ | rfl | exact (Int.natCast_add _ _).symm | omega
  k_with "M le" => first | omega | ((try simp (disch := omega) only [delL_length, insL_length]); omega)
  k_with "subscriptTail Name Name ref int" => (k_here; k_dflt (refine' item_strsN ?N ?m ?h _ ?k ?l ?f ?_ ?hs ?hg; (case N => k_asm); (case m => k_mem); (case h => assumption); (case k => walk_at "M nat"); (case l => omega); (case f => omega); (case hs => with_unfolding_all rfl); (case hg => (intro _; with_unfolding_all rfl)); k_whole); intro tk')
  k_with "subscriptTail Name BinOp ref int" => (k_here; k_dflt (refine' item_strsN ?N ?m ?h _ ?k ?l ?f ?_ ?hs ?hg; (case N => k_asm); (case m => k_mem); (case h => assumption); (case k => walk_at "M nat"); (case l => omega); (case f => omega); (case hs => with_unfolding_all rfl); (case hg => (intro _; with_unfolding_all rfl)); k_whole); intro tk')
  k_with "exec While Compare cons nil" => refine Stop.out ?_
  k_with "call builtin:list.insert" => (k_here; (with_reducible show wpAny _ _ (call (Value.builtin _) [Value.ref _, Value.int _ _, _]) _ _ _); k_dflt (refine' ins_N ?F ?N _ ?k ?i ?l ?U ?_; (case F => k_asm); (case N => k_asm); (case U => k_upd); (case k => walk_at "M nat"); (case i => walk_at "M le"); (case l => walk_at "M le"); k_whole); intro h' F' N'; (try dsimp only [List.nil_append, List.cons_append] at N'); (try k_sweep))
  k_with "call builtin:list.pop" => (k_here; (with_reducible show wpAny _ _ (call (Value.builtin _) [Value.ref _, Value.int _ _]) _ _ _); k_dflt (refine' popS_N ?F ?N ?h _ ?k ?i ?l ?U ?_; (case F => k_asm); (case N => k_asm); (case U => k_upd); (case h => walk_at "M strs"); (case k => walk_at "M nat"); (case i => walk_at "M le"); (case l => walk_at "M le"); k_whole); intro h' tk' F' N'; (try dsimp only [List.nil_append, List.cons_append] at N'); (try k_sweep))
  k_with "pyIter ref" => ((with_reducible show wpAny _ _ (pyIter (Value.ref _)) (CompPostA _ _ _ _ _ _ _ _ _ _) _ _); refine Stop.out ?_)
  k_with "pyIter ref" => ((with_reducible show wpAny _ _ (pyIter (Value.ref _)) (fun it s₂ => LoopAtV _ _ _ _ _ _ _ _ _ it s₂) _ _); refine Stop.out ?_)
  k_with "call builtin:len" => (k_here; (with_reducible show wpAny _ _ (call (Value.builtin "len") [Value.ref _]) _ _ _); k_dflt (refine' len_N ?N ?m ?l ?_; (case N => k_asm); (case m => k_mem); (case l => walk_at "M le"); k_whole); intro t' tk')
  k_with "binaryOp Sub int int" => (k_here; (with_reducible refine' sub_natN ?h ?_; (case h => omega)); intro t' tk')
  k_with "binaryOp Sub int int" => (k_here; (with_reducible refine' sub_nat1 ?h ?_; (case h => omega)); intro t' tk')
  k_with "LPost" => refine Stop.out ?_
  k_with "WPost" => refine Stop.out ?_
  k_with "Done" => refine Stop.out ?_
  k_with "call builtin:len" => (k_here; (with_reducible show wpAny _ _ (call (Value.builtin "len") [Value.str _ _]) _ _ _); k_dflt (refine' lenS_N ?l ?_; (case l => walk_at "M len"); k_whole); intro t' tk')
  k_with "eval ListComp" => refine Stop.out ?_
  k_with "exec Assign cons ListComp" => refine Stop.out ?_
  k_with "CPost" => refine Stop.out ?_
  k_with "CPostA" => refine Stop.out ?_
  k_with "EPost" => refine Stop.out ?_
  trivial
example : True := by
  k_with "call builtin:list.append" => (k_here; (with_reducible show wpAny _ _ (call (Value.builtin _) [Value.ref _, _]) _ _ _); k_dflt (refine' app_N ?F ?N ?l ?U ?_; (case F => k_asm); (case N => k_asm); (case U => k_upd); (case l => walk_at "M le"); k_whole); intro h' F' N'; (try k_sweep))
  k_with "newList" => (k_here; k_dflt (refine' newList_N ?F ?N ?l ?_; (case F => k_asm); (case N => k_asm); (case l => exact Nat.le_of_ble_eq_true rfl); k_whole); intro D' h' F' N' l1 l2; (try (have l3 := l1; k_lt l3)); (try k_sweep))
  k_with "M enterC" => (
  (case ho => k_is)
  (case hcd => k_is)
  (case hb => first | exact fun s Xs => BindsTo.of_eq rfl | exact fun s Xs => binds_K Xs rfl (by k_is) rfl rfl rfl)
  (case hl => exact rfl)
  (case h2 => decide +kernel)
  (case h1 => decide)
  (case h3 => exact rfl)
  (case h4 => exact rfl)
  (case h5 => exact rfl))
  k_with "M comp" => (
  (case hclos => exact rfl)
  (case hcell => decide)
  (case hkind => exact rfl)
  (case hnames => decide)
  (case hx => exact rfl)
  (case hs => (intro _; exact rfl)))
  k_with "M compA" => (
  (case hsw => exact rfl)
  (case hclos => exact rfl)
  (case hcell => decide)
  (case hkind => exact rfl)
  (case hnames => decide)
  (case hx => exact rfl)
  (case hy => exact rfl)
  (case hp => exact rfl)
  (case hs => (intro _; exact rfl)))
  k_with "eval Name" => (k_here; (with_reducible show wpAny _ _ (eval (PySem.Expr.Name _ _) (compEnvC _ _ _ _)) _ _ _); k_dflt (first
  | (refine' cname ?n ?v ?k ?l ?d ?_; (case n => assumption); (case v => assumption); (case k => exact rfl); (case l => exact rfl); (case d => decide))
  | (refine' ccell ?N ?c ?m ?d ?k ?l ?b ?_; (case N => k_asm); (case c => exact rfl); (case m => k_mem); (case d => assumption); (case k => exact rfl); (case l => exact rfl); (case b => decide))
  | (refine' cbuilt ?F ?X ?T ?e ?v ?n ?g ?b ?k ?l ?d ?_; (case F => k_asm); (case X => k_asm); (case T => k_asm); (case e => k_is); (case v => boot_by_name); (case n => decide); (case g => exact rfl); (case b => exact rfl); (case k => exact rfl); (case l => exact rfl); (case d => decide))
  | (refine' cglob ?F ?X ?T ?e ?g ?k ?l ?d ?_; (case F => k_asm); (case X => k_asm); (case T => k_asm); (case e => k_is); (case g => exact rfl); (case k => exact rfl); (case l => exact rfl); (case d => decide))
  | fail))
  trivial
example : True := by
  k_with "call ref" => ((with_reducible show wpAny _ _ (call (Value.ref 202) [Value.str _ _] []) _ _ _); k_dflt (refine' use_fs (size_fs ?X ?T _ _ ?hx) ?B ?F ?N ?hf ?hk ?hd ?hu ?hp ?_; (case B => assumption); (case X => assumption); (case T => assumption); (case F => k_asm); (case N => k_asm); (case hf => rfl); (case hk => rfl); (case hp => walk_at "M picks"); (case hx => walk_at "M len"); (case hd => ktr_room); (case hu => ktr_units); k_whole); intro v' tl' h' tk' hr' F' N' hn'; (obtain ⟨t', hv', ht'⟩ := hr'); (subst hv'); (subst ht'); (clear hn'); (try dsimp only [List.nil_append, List.cons_append] at N'); (try k_sweep))
  trivial

example : True := by
  k_with "call ref" => ((with_reducible show wpAny _ _ (call (Value.ref 39) _ _) _ _ _); k_dflt (refine' use_fs (bisR_fs ?X ?T _ _ _ _ _ _ ?hss _ _ _ _ ?hlo ?hhi _ _ ?h1 ?h2 ?h3 ?h4) ?B ?F ?N ?hf ?hk ?hd ?hu ?hp ?_; (case B => assumption); (case X => assumption); (case T => assumption); (case F => k_asm); (case N => k_asm); (case hf => rfl); (case hk => rfl); (case hp => walk_at "M picks"); (case hss => walk_at "M strs"); (case hlo => walk_at "M nat"); (case hhi => walk_at "M nat"); (case h1 => omega); (case h2 => walk_at "M le"); (case h3 => walk_at "M le"); (case h4 => walk_at "M lens"); (case hd => ktr_room); (case hu => ktr_units); k_whole); intro v' tl' h' tk' hr' F' N' hn'; (obtain ⟨t', hv', ht'⟩ := hr'); (subst hv'); (subst ht'); (clear hn'); (try dsimp only [List.nil_append, List.cons_append] at N'); (try k_sweep))
  k_with "call ref" => ((with_reducible show wpAny _ _ (call (Value.ref 57) _ _) _ _ _); k_dflt (refine' use_fs (bisL_fs ?X ?T _ _ _ _ _ _ ?hss _ _ _ _ ?hlo ?hhi _ _ ?h1 ?h2 ?h3 ?h4) ?B ?F ?N ?hf ?hk ?hd ?hu ?hp ?_; (case B => assumption); (case X => assumption); (case T => assumption); (case F => k_asm); (case N => k_asm); (case hf => rfl); (case hk => rfl); (case hp => walk_at "M picks"); (case hss => walk_at "M strs"); (case hlo => walk_at "M nat"); (case hhi => walk_at "M nat"); (case h1 => omega); (case h2 => walk_at "M le"); (case h3 => walk_at "M le"); (case h4 => walk_at "M lens"); (case hd => ktr_room); (case hu => ktr_units); k_whole); intro v' tl' h' tk' hr' F' N' hn'; (obtain ⟨t', hv', ht'⟩ := hr'); (subst hv'); (subst ht'); (clear hn'); (try dsimp only [List.nil_append, List.cons_append] at N'); (try k_sweep))
  trivial

example : True := by
  k_with "call ref" => ((with_reducible show wpAny _ _ (call (Value.ref 30) _ _) _ _ _); k_dflt (refine' use_fs (insR_fs ?X ?T _ _ _ _ _ _ ?hss _ _ _ _ ?hlo ?hhi _ _ ?h1 ?h2 ?h3 ?h4 ?hx) ?B ?F ?N ?hf ?hk ?hd ?hu ?hp ?_; (case B => assumption); (case X => assumption); (case T => assumption); (case F => k_asm); (case N => k_asm); (case hf => rfl); (case hk => rfl); (case hp => walk_at "M picks"); (case hss => walk_at "M strs"); (case hlo => walk_at "M nat"); (case hhi => walk_at "M nat"); (case h1 => omega); (case h2 => walk_at "M le"); (case h3 => walk_at "M le"); (case h4 => walk_at "M lens"); (case hx => walk_at "M len"); (case hd => ktr_room); (case hu => ktr_units); k_whole); intro v' tl' h' tk' hr' F' N' hn'; (obtain ⟨hv', ht'⟩ := hr'); (subst hv'); (subst ht'); (clear hn'); (try dsimp only [List.nil_append, List.cons_append] at N'); (try k_sweep))
  k_with "call ref" => ((with_reducible show wpAny _ _ (call (Value.ref 48) _ _) _ _ _); k_dflt (refine' use_fs (insL_fs ?X ?T _ _ _ _ _ _ ?hss _ _ _ _ ?hlo ?hhi _ _ ?h1 ?h2 ?h3 ?h4 ?hx) ?B ?F ?N ?hf ?hk ?hd ?hu ?hp ?_; (case B => assumption); (case X => assumption); (case T => assumption); (case F => k_asm); (case N => k_asm); (case hf => rfl); (case hk => rfl); (case hp => walk_at "M picks"); (case hss => walk_at "M strs"); (case hlo => walk_at "M nat"); (case hhi => walk_at "M nat"); (case h1 => omega); (case h2 => walk_at "M le"); (case h3 => walk_at "M le"); (case h4 => walk_at "M lens"); (case hx => walk_at "M len"); (case hd => ktr_room); (case hu => ktr_units); k_whole); intro v' tl' h' tk' hr' F' N' hn'; (obtain ⟨hv', ht'⟩ := hr'); (subst hv'); (subst ht'); (clear hn'); (try dsimp only [List.nil_append, List.cons_append] at N'); (try k_sweep))
  trivial

example : True := by
  k_with "call ref" => ((with_reducible show wpAny _ _ (call (Value.ref 207) [Value.ref _, Value.ref 30] _) _ _ _); k_dflt (refine' use_fs (rowR_fs ?X ?T _ _ _ _ ?hss ?h3 ?h4) ?B ?F ?N ?hf ?hk ?hd ?hu ?hp ?_; (case B => assumption); (case X => assumption); (case T => assumption); (case F => k_asm); (case N => k_asm); (case hf => rfl); (case hk => rfl); (case hp => walk_at "M picks"); (case hss => walk_at "M strs"); (case h3 => walk_at "M le"); (case h4 => walk_at "M lens"); (case hd => ktr_room); (case hu => ktr_units); k_whole); intro v' tl' h' tk' hr' F' N' hn'; (obtain ⟨D', its', n', hv', hne', hS', ht'⟩ := hr'); (subst hv'); (subst ht'); (have hO' := off_one hn' hne'); (clear hn'); (try dsimp only [List.nil_append, List.cons_append] at N'); (try k_sweep))
  k_with "call ref" => ((with_reducible show wpAny _ _ (call (Value.ref 207) [Value.ref _, Value.ref 48] _) _ _ _); k_dflt (refine' use_fs (rowL_fs ?X ?T _ _ _ _ ?hss ?h3 ?h4) ?B ?F ?N ?hf ?hk ?hd ?hu ?hp ?_; (case B => assumption); (case X => assumption); (case T => assumption); (case F => k_asm); (case N => k_asm); (case hf => rfl); (case hk => rfl); (case hp => walk_at "M picks"); (case hss => walk_at "M strs"); (case h3 => walk_at "M le"); (case h4 => walk_at "M lens"); (case hd => ktr_room); (case hu => ktr_units); k_whole); intro v' tl' h' tk' hr' F' N' hn'; (obtain ⟨D', its', n', hv', hne', hS', ht'⟩ := hr'); (subst hv'); (subst ht'); (have hO' := off_one hn' hne'); (clear hn'); (try dsimp only [List.nil_append, List.cons_append] at N'); (try k_sweep))
  trivial

example : True := by
  k_with "call ref" => ((with_reducible show wpAny _ _ (call (Value.ref 219) _ _) _ _ _); k_dflt (refine' use_fs (turned_fs ?X ?T _ _ _ _ ?hss ?h3) ?B ?F ?N ?hf ?hk ?hd ?hu ?hp ?_; (case B => assumption); (case X => assumption); (case T => assumption); (case F => k_asm); (case N => k_asm); (case hf => rfl); (case hk => rfl); (case hp => walk_at "M picks"); (case hss => walk_at "M strs"); (case h3 => walk_at "M le"); (case hd => ktr_room); (case hu => ktr_units); k_whole); intro v' tl' h' tk' hr' F' N' hn'; (obtain ⟨D', its', n', hv', hne', hS', ht'⟩ := hr'); (subst hv'); (subst ht'); (have hO' := off_one hn' hne'); (clear hn'); (try dsimp only [List.nil_append, List.cons_append] at N'); (try k_sweep))
  trivial


noncomputable section
def lexAdr (a : LexA) : List Addr := [a.pb, a.I, a.d, a.sd, a.S, a.cl, a.rd, a.cr, a.al, a.ca, a.ct]
theorem lex_adr {w : World} {a : LexA} {ln : Int} {tt : LexT} {nd : Nat} {vs : List Value} {np i : Nat} {tp : Tok} {na : Nat} : ∀ p ∈ lexTl w a ln tt nd vs np i tp na, p.1 ∈ lexAdr a := fun p hp => by
  have : p.1 ∈ (lexTl w a ln tt nd vs np i tp na).map (·.1) := List.mem_map_of_mem hp
  exact this
/-- the two cells of a walk over the signs, ahead of the lexer's -/
def itTl (w : World) (a : LexA) (ci mo : Addr) (t : Tok) (ln : Int) (tt : LexT) (nd : Nat) (vs : List Value) (np i : Nat) (tp : Tok) (na : Nat) : Led :=
  (ci, citObj mo t) :: (mo, methodObj (.ref 162) (.ref a.I)) :: lexTl w a ln tt nd vs np i tp na
def endTl (w : World) (a : LexA) (ci mo : Addr) (ln : Int) (tt : LexT) (nd : Nat) (vs : List Value) (np i : Nat) (tp : Tok) (na : Nat) : Led :=
  (ci, citEnd) :: (mo, methodObj (.ref 162) (.ref a.I)) :: lexTl w a ln tt nd vs np i tp na
theorem cit_nextK {prog : Program} {w : World} {A : Around} {E : Value → Shared → Prop} {s : Shared} {K : Frag} {g : Heap} {L : Addr} {m : Str → Option Value} {ci mo f : Addr} {self : Value} {t : Tok} {oc : Value} {od : Option Addr} {fd : FuncData} {sl : Array (Option Value)} {Q : Option Value → Shared → Prop} (hh : A.handled = none) (hc : s.heap.get? ci = some (citObj mo t)) (hm : s.heap.get? mo = some (methodObj (.ref f) self)) (X : K.In g) (F : Fr g L s.heap m) (hf : K.lookup f = some ⟨oc, od, .func fd, sl⟩)
    (hcall : wpAny (model prog w) A.in1 (call (.ref mo) []) (fun r s' => ∃ x u, r = .str x u ∧ s'.heap.get? ci = some (citObj mo t) ∧ s'.heap.get? mo = some (methodObj (.ref f) self) ∧ K.In s'.heap ∧
      (x ≠ "" → Q (some (.str x u)) s') ∧ (x = "" → ∀ h', (∀ b o, b ≠ ci → s'.heap.get? b = some o → h'.get? b = some o) → h'.get? ci = some citEnd → Q none { s' with heap := h' })) (fun _ _ => False) s) :
    wpAny (model prog w) A (pyNext (.ref ci)) Q E s :=
  cit_next hh hc hm (X.keeps F.keep _ _ hf) rfl (wpAny_mono hcall (fun r s' ⟨x, u, e, h1, h2, h3, h4⟩ => ⟨x, u, e, h1, h2, h3 _ _ hf, h4⟩) fun _ _ z => z)
theorem next_char {dp un : Nat} {gd : Option (List Code)} {env : Env} {fr : List Env} {A₀ : Around} {s : Shared} {g : Heap} {L : Addr} {m : Str → Option Value} {Q : Option Value → Shared → Prop} {E : Value → Shared → Prop}
    (X : (Kf w.params).In b₀) (T : Top topProg loose mean mg mb b₀) (tx : Str) (a : LexA) (ok : LexOk w b₀ tx a) (ci mo : Addr) (t : Tok) (ln : Int) (tt : LexT) (nd : Nat) (vs : List Value) (np i : Nat) (tp : Tok) (na : Nat) (hi : i ≤ tx.length)
    (hoc : ∀ b ∈ lexAdr a, b < mo) (hom : mo < ci)
    (B : Below A₀ b₀ fr g) (Xg : (Kf w.params).In g) (F : Fr g L s.heap m) (N : News g L s.heap (itTl w a ci mo t ln tt nd vs np i tp na)) (hf : env.frame = some L) (hk : env.scope.kind = .function) (hD : dp + 12 < recursionLimit) (hU : un + 120 < cLine)
    (more : ∀ u tt' nd' tp' na' h' tk', piece tx i ≠ "" → Fr g L h' m → News g L h' (itTl w a ci mo t (lnAt tx i ln) tt' nd' vs np (i + (piece tx i).length) tp' na') → Q (some (.str (piece tx i) u)) { s with heap := h', toks := tk' })
    (stop : ∀ tt' nd' tp' na' h' tk', piece tx i = "" → Fr g L h' m → News g L h' (endTl w a ci mo ln tt' nd' vs np i tp' na') → Q none { s with heap := h', toks := tk' }) :
    wpAny (model P1 w) (AR dp un gd (env :: fr)) (pyNext (.ref ci)) Q E s := by
  have hci := (N _ (.head _)).1
  have hmo := (N _ (.tail _ (.head _))).1
  have hlt : ∀ p ∈ lexTl w a ln tt nd vs np i tp na, p.1 ≠ ci := fun p hp => Nat.ne_of_lt (Nat.lt_trans (hoc _ (lex_adr p hp)) hom)
  refine' cit_nextK rfl hci hmo Xg F ?lk ?_
  case lk => k_is
  refine wpAny_call (method_call hmo ?_)
  refine use_fsC (rest := [(ci, citObj mo t), (mo, methodObj (.ref 162) (.ref a.I))]) (char_fs X T tx a ok ln tt nd vs np i tp na hi) B F N rfl hf hk ?hd ?hu ?htl ?hrest ?_
  case hd => show dp + 8 < _; omega
  case hu => show un + 1 + 80 < _; omega
  case htl => exact fun q hq => .tail _ (.tail _ hq)
  case hrest =>
    intro q hq
    rcases List.mem_cons.mp hq with rfl | hq
    · exact ⟨.head _, hlt⟩
    · rw [List.mem_singleton.mp hq]
      exact ⟨.tail _ (.head _), fun p hp => Nat.ne_of_lt (hoc _ (lex_adr p hp))⟩
  rintro v tl' h' tk' ⟨u, tt', nd', tp', na', rfl, rfl⟩ F' N' hn
  replace N' := news_swap N'
  have nci := N' _ (.head _)
  refine ⟨piece tx i, u, rfl, nci.1, (N' _ (.tail _ (.head _))).1, Xg.keeps F'.keep, fun hne => more u tt' nd' tp' na' h' tk' hne F' N', fun he h'' hk hc => ?_⟩
  have e1 : lnAt tx i ln = ln := if_neg (by rw [he]; decide)
  have e2 : i + (piece tx i).length = i := by rw [he]; rfl
  rw [e1, e2] at N'
  refine stop tt' nd' tp' na' h'' tk' he ⟨?_, fun b o e => hk b o (fun q => ?_) (F'.keep b o e), F'.above⟩ fun p hp => ?_
  · obtain ⟨oL, es, ep, hL, r⟩ := F'.ns
    exact ⟨oL, es, ep, hk _ _ nci.2.1.symm hL, r⟩
  · rw [q, nci.2.2] at e; cases e
  · rcases List.mem_cons.mp hp with rfl | hp
    · exact ⟨hc, nci.2⟩
    · have := N' p (.tail _ hp)
      refine ⟨hk _ _ ?_ this.1, this.2⟩
      rcases List.mem_cons.mp hp with rfl | hp
      · exact Nat.ne_of_lt hom
      · exact Nat.ne_of_lt (Nat.lt_trans (hoc _ (lex_adr p hp)) hom)
theorem next_end {dp un : Nat} {gd : Option (List Code)} {env : Env} {fr : List Env} {s : Shared} {g : Heap} {L : Addr} {m : Str → Option Value} {Q : Option Value → Shared → Prop} {E : Value → Shared → Prop} {ci : Addr} {news : Led}
    (F : Fr g L s.heap m) (N : News g L s.heap ((ci, citEnd) :: news)) (stop : ∀ h', Fr g L h' m → News g L h' ((ci, citEnd) :: news) → Q none { s with heap := h' }) :
    wpAny (model P1 w) (AR dp un gd (env :: fr)) (pyNext (.ref ci)) Q E s :=
  cit_next_end rfl (N _ (.head _)).1 fun h' hk => stop h' (F.keeps hk) (N.grown hk)
def tokQ (tx : Str) : Nat → Str → Nat → Int → Str × Nat × Int
  | 0, tok, i, ln => (tok, i, ln)
  | n + 1, tok, i, ln =>
    if piece tx i = "" then (tok, i, ln)
    else if piece tx i = "\"" then (tok, i + (piece tx i).length, lnAt tx i ln)
    else if piece tx i = "\\" then tokQ tx n (tok ++ piece tx (i + (piece tx i).length)) (i + (piece tx i).length + (piece tx (i + (piece tx i).length)).length) (lnAt tx (i + (piece tx i).length) (lnAt tx i ln))
    else tokQ tx n (tok ++ piece tx i) (i + (piece tx i).length) (lnAt tx i ln)
theorem piece_le (tx : Str) (i : Nat) (hi : i ≤ tx.length) : (piece tx i).length ≤ 1 ∧ i + (piece tx i).length ≤ tx.length := by
  have e : (Builtin.Str.strSliceIndices (some (i : Int)) (some ((i : Int) + 1)) 1 tx.length).length = min 1 (tx.length - i) := by
    unfold Builtin.Str.strSliceIndices PySem.sliceRange
    simp only [show (1 : Int) > 0 by decide, if_true, List.length_map, List.length_range]
    split <;> (try split) <;> (try split) <;> (try simp only [Int.ediv_one]) <;> omega
  have l : (piece tx i).length ≤ (Builtin.Str.strSliceIndices (some (i : Int)) (some ((i : Int) + 1)) 1 tx.length).length := by
    unfold piece Txt.slice
    split
    · rename_i h
      simp only [beq_self_eq_true, Bool.true_and, beq_iff_eq] at h
      rw [h]; exact Nat.le_refl _
    · show (List.toArray _).size ≤ _
      rw [List.size_toArray]
      exact List.length_filterMap_le _ _
  omega
def notWhite (c : Str) : Bool := (Builtin.Str.occurrences "\n\t\r " c 0 ("\n\t\r " : Str).length 1).isEmpty
def tokW (tx : Str) : Nat → Str → Nat → Int → Str × Nat × Int
  | 0, tok, i, ln => (tok, i, ln)
  | n + 1, tok, i, ln =>
    if piece tx i = "" then (tok, i, ln)
    else if notWhite (piece tx i) = false then (tok, i + (piece tx i).length, lnAt tx i ln)
    else if piece tx i = "\\" then tokW tx n (tok ++ piece tx (i + (piece tx i).length)) (i + (piece tx i).length + (piece tx (i + (piece tx i).length)).length) (lnAt tx (i + (piece tx i).length) (lnAt tx i ln))
    else tokW tx n (tok ++ piece tx i) (i + (piece tx i).length) (lnAt tx i ln)
def tokT (tx : Str) : Nat → Nat → Int → Str × Nat × Int
  | 0, i, ln => ("", i, ln)
  | n + 1, i, ln =>
    if piece tx i = "" then ("", i, ln)
    else if notWhite (piece tx i) = false then tokT tx n (i + (piece tx i).length) (lnAt tx i ln)
    else if piece tx i = "\"" then tokQ tx n "" (i + (piece tx i).length) (lnAt tx i ln)
    else if piece tx i = "\\" then tokW tx n ("" ++ piece tx (i + (piece tx i).length)) (i + (piece tx i).length + (piece tx (i + (piece tx i).length)).length) (lnAt tx (i + (piece tx i).length) (lnAt tx i ln))
    else tokW tx n ("" ++ piece tx i) (i + (piece tx i).length) (lnAt tx i ln)
theorem piece_pos {tx : Str} {i : Nat} (hi : i ≤ tx.length) (h : piece tx i ≠ "") : (piece tx i).length = 1 := by
  have := (piece_le tx i hi).1
  rcases Nat.lt_or_ge 0 (piece tx i).length with k | k
  · omega
  · refine absurd ?_ h
    have e : (piece tx i).cps.size = 0 := by
      have : (piece tx i).length = (piece tx i).cps.size := rfl
      omega
    cases hp : piece tx i with
    | mk c =>
      rw [hp] at e
      have : c = #[] := Array.eq_empty_of_size_eq_zero e
      rw [this]; rfl
end

noncomputable section
example : True := by
  k_with "M cat" => (exact Nat.le_trans (show _ ≤ 3000 by omega) (by simp [sizeLine_eq]))
  k_with "inplaceOp Add str str" => ((refine SBL.iadd (hsz := ?hsz) ?_); (case hsz => walk_at "M cat"); intro t' tk' hlen')
  k_with "FPost" => refine Stop.out ?_
  k_with "truthy ref" => (k_here; k_dflt (first | (refine' truthyH ?l ?f ?g ?_; (case l => k_asm); (case f => k_mem); (case g => omega); k_whole) | (refine' truthyE ?l ?f ?_; (case l => k_asm); (case f => k_mem); k_whole)); intro tk')
  k_with "call builtin:iter" => refine Stop.out ?_
  k_with "exec For Name Name cons nil" => refine Stop.out ?_
  trivial
theorem callTok_gen {M : Model} {A : Around} {Q : Value → Shared → Prop} {E : Value → Shared → Prop} {s : Shared} {f x : Value} {y : Str} {tk : Tok} {kw : List (Str × Value)} (h : ∀ tq, wpAny M A (call f [x, .str y tq] kw) Q E s) : wpAny M A (call f [x, .str y tk] kw) Q E s := h tk
/-- what holds between two signs: the signs go on, or they have ended -/
inductive TokInv (w : World) (g : Heap) (L : Addr) (s : Shared) (a : LexA) (n : Nat) (ci mo : Addr) (t0 : Tok) (np : Nat) (R : Str × Nat × Int) (f : Nat → Str → Nat → Int → Str × Nat × Int) (c : Str → Nat → Prop) (k : Nat) : Shared → Prop
  | go (i : Nat) (ln : Int) (tt : LexT) (nd : Nat) (tp : Tok) (na : Nat) (h : Heap) (tk : Nat) (tok : Str) (u : Tok) (rest : Str → Option Value) (F : Fr g L h (fm rest [("token", .str tok u), ("fiter", .ref ci), ("self", .ref a.I)])) (hi : i ≤ n) (hc : c tok i) (hk : n < i + k) (hT : f k tok i ln = R) (N : News g L h (itTl w a ci mo t0 ln tt nd [] np i tp na)) : TokInv w g L s a n ci mo t0 np R f c k { s with heap := h, toks := tk }
  | fin (i : Nat) (ln : Int) (tt : LexT) (nd : Nat) (tp : Tok) (na : Nat) (h : Heap) (tk : Nat) (tok : Str) (u : Tok) (rest : Str → Option Value) (F : Fr g L h (fm rest [("token", .str tok u), ("fiter", .ref ci), ("self", .ref a.I)])) (hi : i ≤ n) (hT : (tok, i, ln) = R) (N : News g L h (endTl w a ci mo ln tt nd [] np i tp na)) : TokInv w g L s a n ci mo t0 np R f c k { s with heap := h, toks := tk }
theorem tokQ_s {tx : Str} {k : Nat} {tok : Str} {i : Nat} {ln : Int} (h : 0 < k) : tokQ tx k tok i ln = if piece tx i = "" then (tok, i, ln) else if piece tx i = "\"" then (tok, i + (piece tx i).length, lnAt tx i ln)
    else if piece tx i = "\\" then tokQ tx (k - 1) (tok ++ piece tx (i + (piece tx i).length)) (i + (piece tx i).length + (piece tx (i + (piece tx i).length)).length) (lnAt tx (i + (piece tx i).length) (lnAt tx i ln))
    else tokQ tx (k - 1) (tok ++ piece tx i) (i + (piece tx i).length) (lnAt tx i ln) := by
  cases k with
  | zero => cases h
  | succ k => rfl
theorem tokW_s {tx : Str} {k : Nat} {tok : Str} {i : Nat} {ln : Int} (h : 0 < k) : tokW tx k tok i ln = if piece tx i = "" then (tok, i, ln) else if notWhite (piece tx i) = false then (tok, i + (piece tx i).length, lnAt tx i ln)
    else if piece tx i = "\\" then tokW tx (k - 1) (tok ++ piece tx (i + (piece tx i).length)) (i + (piece tx i).length + (piece tx (i + (piece tx i).length)).length) (lnAt tx (i + (piece tx i).length) (lnAt tx i ln))
    else tokW tx (k - 1) (tok ++ piece tx i) (i + (piece tx i).length) (lnAt tx i ln) := by
  cases k with
  | zero => cases h
  | succ k => rfl
theorem tokT_s {tx : Str} {k : Nat} {i : Nat} {ln : Int} (h : 0 < k) : tokT tx k i ln = if piece tx i = "" then (("" : Str), i, ln)
    else if notWhite (piece tx i) = false then tokT tx (k - 1) (i + (piece tx i).length) (lnAt tx i ln)
    else if piece tx i = "\"" then tokQ tx (k - 1) "" (i + (piece tx i).length) (lnAt tx i ln)
    else if piece tx i = "\\" then tokW tx (k - 1) ("" ++ piece tx (i + (piece tx i).length)) (i + (piece tx i).length + (piece tx (i + (piece tx i).length)).length) (lnAt tx (i + (piece tx i).length) (lnAt tx i ln))
    else tokW tx (k - 1) ("" ++ piece tx i) (i + (piece tx i).length) (lnAt tx i ln) := by
  cases k with
  | zero => cases h
  | succ k => rfl
inductive CharR (w : World) (tx : Str) (a : LexA) (ln : Int) (vs : List Value) (np i : Nat) : Value → Led → Prop
  | mk (u : Tok) (tt' : LexT) (nd' : Nat) (tp' : Tok) (na' : Nat) : CharR w tx a ln vs np i (.str (piece tx i) u) (lexTl w a (lnAt tx i ln) tt' nd' vs np (i + (piece tx i).length) tp' na')
theorem char_fr (X : (Kf w.params).In b₀) (T : Top topProg loose mean mg mb b₀) (tx : Str) (a : LexA) (ok : LexOk w b₀ tx a) (ln : Int) (tt : LexT) (nd : Nat) (vs : List Value) (np i : Nat) (tp : Tok) (na : Nat) (hi : i ≤ tx.length) :
    FS P1 w b₀ 8 80 (.ref 162) ⟨[.ref a.I], []⟩ (lexTl w a ln tt nd vs np i tp na) (CharR w tx a ln vs np i) :=
  fun dp un gd fr s R M hd hu hR => char_fs X T tx a ok ln tt nd vs np i tp na hi dp un gd fr s R M hd hu fun v tl' h' tk ⟨u, tt', nd', tp', na', e1, e2⟩ => by
    subst e1 e2
    exact hR _ _ h' tk ⟨u, tt', nd', tp', na'⟩
theorem tokt_fs (X : (Kf w.params).In b₀) (T : Top topProg loose mean mg mb b₀) (tx : Str) (hx : tx.length ≤ 1000) (a : LexA) (ok : LexOk w b₀ tx a) (ln : Int) (tt : LexT) (nd : Nat) (np i : Nat) (tp : Tok) (na : Nat) (hi : i ≤ tx.length) :
    FS P1 w b₀ 20 200 (.ref 169) ⟨[.ref a.I], []⟩ (lexTl w a ln tt nd [] np i tp na)
      (fun v tl' => ∃ u tt' nd' tp' na', v = .str (tokT tx (tx.length + 1) i ln).1 u ∧ tl' = lexTl w a (tokT tx (tx.length + 1) i ln).2.2 tt' nd' [] np (tokT tx (tx.length + 1) i ln).2.1 tp' na') := by
  have ok' := ok
  obtain ⟨hnd, ⟨fdS, hS⟩, ⟨fdR, hR⟩, hgo⟩ := ok
  obtain ⟨I, d, pb, S, sd, cl, rd, cr, al, ca, ct, so, clo, ro, co, cto, cao, kk, hk⟩ := a
  dsimp only at hS hR hnd
  subst hS hR
  simp only [List.nodup_cons, List.mem_cons, List.not_mem_nil, or_false, not_or, List.nodup_nil, and_true, not_false_eq_true] at hnd
  simp only [← ne_eq] at hnd
  obtain ⟨⟨n1, n2, n3, n4, n5, n6, n7, n8, n9, n10⟩, ⟨o2, o3, o4, o5, o6, o7, o8, o9, o10⟩, ⟨p3, p4, p5, p6, p7, p8, p9, p10⟩, ⟨q4, q5, q6, q7, q8, q9, q10⟩, ⟨r5, r6, r7, r8, r9, r10⟩, ⟨s6, s7, s8, s9, s10⟩, ⟨t7, t8, t9, t10⟩, ⟨u8, u9, u10⟩, ⟨v9, v10⟩, w10⟩ := hnd
  unfold lexTl lexD
  dsimp only
  refine' enter (binds := [("self", .ref I)]) X T ?ho ?hcd ?hb ?hl ?h ?h1 ?h2 ?h3 ?h4 ?h5
  walk_at "M enter"
  intro dp un gd fr s g L' h₁ hd hu F N B st Xg Tg
  (conv in (PySem.execs _ _) => arg 1; whnf)
  (try dsimp only)
  k_steps
  unfold Stop
  rename Fr _ _ _ _ => F
  rename News _ _ _ _ => N
  rename_i mo _ l1'
  refine callTok_gen fun t0 => ?_
  refine iter_sent F N (.head _) fun ci h' F N l2 l3 => ?_
  have l2' := l2
  k_lt l2
  k_steps
  unfold Stop
  rename Fr _ _ _ _ => F
  rename News _ _ _ _ => N
  generalize hR : tokT tx (tx.length + 1) i ln = R
  have hoc : ∀ b ∈ lexAdr ⟨I, d, pb, S, sd, cl, rd, cr, al, ca, ct, fnOb fdS (some sd), clo, fnOb fdR none, co, cto, cao, kk, hk⟩, b < mo := fun b hb => by
    simp only [lexAdr, List.mem_cons, List.not_mem_nil, or_false] at hb
    obtain ⟨e0, e1, e2, e3, e4, e5, e6, e7, e8, e9, e10⟩ := l1'
    rcases hb with rfl | rfl | rfl | rfl | rfl | rfl | rfl | rfl | rfl | rfl | rfl <;> assumption
  have hom : mo < ci := l2' _ (.head _)
  refine for_inv (TokInv w g L' s ⟨I, d, pb, S, sd, cl, rd, cr, al, ca, ct, fnOb fdS (some sd), clo, fnOb fdR none, co, cto, cao, kk, hk⟩ tx.length ci mo t0 np R (fun k _ i ln => tokT tx k i ln) (fun tok _ => tok = "")) (.ref ci) (tx.length + 1) (by passes_own) (fun _ => rfl) ?ev ?turn (fun _ => rfl)
  case ev =>
    k_steps
    refine cit_self (N _ (.head _)).1 ⟨rfl, .go i ln tt nd tp na _ _ "" _ _ (fr_norm _ F (by walk_at "M names")) hi rfl (by omega) hR N⟩
  case turn =>
    rintro k s₁ (⟨i, ln, tt, nd, tp, na, h, tk, tok, u, rest, F, hi, rfl, hk1, hT, N⟩ | ⟨i, ln, tt, nd, tp, na, h, tk, tok, u, rest, F, hi, hT, N⟩)
    · refine next_char X T tx _ ok' ci mo t0 ln tt nd [] np i tp na hi hoc hom B Xg F N rfl rfl (by ktr_room) (by ktr_units) ?_ ?_
      · intro u tt nd tp na h tk hne F N
        unfold itTl lexTl lexD at N
        dsimp only at N
        have hp1 := piece_pos hi hne
        have hp2 := (piece_le tx i hi).2
        rw [tokT_s (by omega)] at hT
        rw [if_neg hne] at hT
        k_steps
        · rename (Builtin.Str.occurrences _ _ _ _ _).isEmpty = true => c1
          rename (piece tx i == _) = true => c2
          have c1' : ¬ notWhite (piece tx i) = false := fun e => by
            have : notWhite (piece tx i) = true := c1
            rw [e] at this; cases this
          rw [if_neg c1', if_pos (by simpa using c2)] at hT
          unfold Stop
          rename Fr _ _ _ _ => F
          rename News _ _ _ _ => N
          refine for_inv (TokInv w g L' s ⟨I, d, pb, S, sd, cl, rd, cr, al, ca, ct, fnOb fdS (some sd), clo, fnOb fdR none, co, cto, cao, kk, hk⟩ tx.length ci mo t0 np R (tokQ tx) (fun tok i => tok.length ≤ i)) (.ref ci) (k - 1) (by passes_own) (fun _ => rfl) ?ev1 ?turn1 (fun _ => rfl)
          case ev1 =>
            k_steps
            refine cit_self (N _ (.head _)).1 ⟨rfl, .go _ _ tt _ _ _ _ _ "" _ _ (fr_norm _ F (by walk_at "M names")) hp2 (Nat.zero_le _) (by omega) hT N⟩
          case turn1 =>
            rintro k1 s₁ (⟨i, ln, tt, nd, tp, na, h, tk, tok, u, rest, F, hi, hl, hk1, hT, N⟩ | ⟨i, ln, tt, nd, tp, na, h, tk, tok, u, rest, F, hi, hT, N⟩)
            · refine next_char X T tx _ ok' ci mo t0 ln tt nd [] np i tp na hi hoc hom B Xg F N rfl rfl (by ktr_room) (by ktr_units) ?_ ?_
              · intro u tt nd tp na h tk hne F N
                unfold itTl lexTl lexD at N
                dsimp only at N
                have hp1 := piece_pos hi hne
                have hp2 := (piece_le tx i hi).2
                rw [tokQ_s (by omega)] at hT
                rw [if_neg hne] at hT
                k_steps
                · unfold Stop
                  rename News _ _ _ _ => N
                  rename (piece tx i == _) = true => d1
                  rw [if_pos (by simpa using d1)] at hT
                  subst hT
                  exact ⟨_, _, _, _, _, rfl, by assumption, fun p hp => N p (.tail _ (.tail _ hp)), _, tt, _, _, _, rfl, rfl⟩
                · rename Fr _ _ _ _ => F
                  rename News _ _ _ _ => N
                  rename (piece tx i == _) = true => d2
                  rename (piece tx i == _) = false => d1
                  rw [if_neg (by simpa using d1), if_pos (by simpa using d2)] at hT
                  have hp3 := piece_le tx _ hp2
                  refine use_fsT (rest := [(ci, citObj mo t0), (mo, methodObj (.ref 162) (.ref I))]) (char_fr X T tx _ ok' (lnAt tx i ln) tt nd [] np _ tp na hp2) B F N rfl rfl (by ktr_room) (by ktr_units) ?_ ?_ ?_
                  · exact fun q hq => .tail _ (.tail _ hq)
                  · intro q hq
                    rcases List.mem_cons.mp hq with rfl | hq
                    · exact ⟨.head _, fun p hp => Nat.ne_of_lt (Nat.lt_trans (hoc _ (lex_adr p hp)) hom)⟩
                    · rw [List.mem_singleton.mp hq]
                      exact ⟨.tail _ (.head _), fun p hp => Nat.ne_of_lt (hoc _ (lex_adr p hp))⟩
                  rintro v tl' h' tk' ⟨u2, tt, nd, tp, na⟩ F N hn
                  replace N := news_swap N
                  unfold lexTl lexD at N
                  dsimp only [List.cons_append, List.nil_append] at N
                  k_steps
                  unfold Stop
                  rename _ ∧ _ => hq
                  exact FPost.nx (k1 - 1) (by omega) (.go _ _ tt _ _ _ _ _ _ _ _ (fr_norm _ (by assumption) (by walk_at "M names")) hp3.2 (by omega) (by omega) hT (by assumption))
                · unfold Stop
                  rename _ ∧ _ => hq
                  rename (piece tx i == _) = false => d2
                  revert d2
                  rename (piece tx i == _) = false => d1
                  intro d2
                  rw [if_neg (by simpa using d1), if_neg (by simpa using d2)] at hT
                  exact FPost.nx (k1 - 1) (by omega) (.go _ _ tt _ _ _ _ _ _ _ _ (fr_norm _ (by assumption) (by walk_at "M names")) hp2 (by omega) (by omega) hT (by assumption))
              · intro tt nd tp na h tk he F N
                rw [tokQ_s (by omega)] at hT
                rw [if_pos he] at hT
                k_steps
                unfold Stop
                refine FPost.nx (k - 1) (by omega) (.fin _ _ tt _ _ _ _ _ _ _ _ (fr_norm _ (by assumption) (by walk_at "M names")) hi hT (by assumption))
            · refine next_end F N fun h F N => ?_
              k_steps
              unfold Stop
              refine FPost.nx (k - 1) (by omega) (.fin _ _ tt _ _ _ _ _ _ _ _ (fr_norm _ (by assumption) (by walk_at "M names")) hi hT (by assumption))
        · rename (piece tx i == _) = true => d2
          rename (piece tx i == _) = false => d1
          rename (Builtin.Str.occurrences _ _ _ _ _).isEmpty = true => c1
          have c1' : ¬ notWhite (piece tx i) = false := fun e => by
            have : notWhite (piece tx i) = true := c1
            rw [e] at this; cases this
          rw [if_neg c1', if_neg (by simpa using d1), if_pos (by simpa using d2)] at hT
          rename Fr _ _ _ _ => F
          rename News _ _ _ _ => N
          have hp3 := piece_le tx _ hp2
          refine use_fsT (rest := [(ci, citObj mo t0), (mo, methodObj (.ref 162) (.ref I))]) (char_fr X T tx _ ok' (lnAt tx i ln) tt nd [] np _ tp na hp2) B F N rfl rfl (by ktr_room) (by ktr_units) ?_ ?_ ?_
          · exact fun q hq => .tail _ (.tail _ hq)
          · intro q hq
            rcases List.mem_cons.mp hq with rfl | hq
            · exact ⟨.head _, fun p hp => Nat.ne_of_lt (Nat.lt_trans (hoc _ (lex_adr p hp)) hom)⟩
            · rw [List.mem_singleton.mp hq]
              exact ⟨.tail _ (.head _), fun p hp => Nat.ne_of_lt (hoc _ (lex_adr p hp))⟩
          rintro v tl' h' tk' ⟨u2, tt, nd, tp, na⟩ F N hn
          replace N := news_swap N
          unfold lexTl lexD at N
          dsimp only [List.cons_append, List.nil_append] at N
          k_steps
          unfold Stop
          rename Fr _ _ _ _ => F
          rename News _ _ _ _ => N
          rename _ ∧ _ => hq
          have hp9 := hp3.2
          have e0 : ("" : Str).length = 0 := rfl
          refine for_inv (TokInv w g L' s ⟨I, d, pb, S, sd, cl, rd, cr, al, ca, ct, fnOb fdS (some sd), clo, fnOb fdR none, co, cto, cao, kk, hk⟩ tx.length ci mo t0 np R (tokW tx) (fun tok i => tok.length ≤ i)) (.ref ci) (k - 1) (by passes_own) (fun _ => rfl) ?ev3 ?turn3 (fun _ => rfl)
          case ev3 =>
            k_steps
            refine cit_self (N _ (.head _)).1 ⟨rfl, .go _ _ tt _ _ _ _ _ _ _ _ (fr_norm _ F (by walk_at "M names")) hp9 (by omega) (by omega) hT N⟩
          case turn3 =>
            rintro k1 s₁ (⟨i, ln, tt, nd, tp, na, h, tk, tok, u, rest, F, hi, hl, hk1, hT, N⟩ | ⟨i, ln, tt, nd, tp, na, h, tk, tok, u, rest, F, hi, hT, N⟩)
            · refine next_char X T tx _ ok' ci mo t0 ln tt nd [] np i tp na hi hoc hom B Xg F N rfl rfl (by ktr_room) (by ktr_units) ?_ ?_
              · intro u tt nd tp na h tk hne F N
                unfold itTl lexTl lexD at N
                dsimp only at N
                have hp1 := piece_pos hi hne
                have hp2 := (piece_le tx i hi).2
                rw [tokW_s (by omega)] at hT
                rw [if_neg hne] at hT
                k_steps
                · rename Fr _ _ _ _ => F
                  rename News _ _ _ _ => N
                  rename (piece tx i == _) = true => d2
                  rename (Builtin.Str.occurrences _ _ _ _ _).isEmpty = true => b1
                  have b2 : ¬ notWhite (piece tx i) = false := fun e => by
                    have : notWhite (piece tx i) = true := b1
                    rw [e] at this; cases this
                  rw [if_neg b2, if_pos (by simpa using d2)] at hT
                  have hp3 := piece_le tx _ hp2
                  refine use_fsT (rest := [(ci, citObj mo t0), (mo, methodObj (.ref 162) (.ref I))]) (char_fr X T tx _ ok' (lnAt tx i ln) tt nd [] np _ tp na hp2) B F N rfl rfl (by ktr_room) (by ktr_units) ?_ ?_ ?_
                  · exact fun q hq => .tail _ (.tail _ hq)
                  · intro q hq
                    rcases List.mem_cons.mp hq with rfl | hq
                    · exact ⟨.head _, fun p hp => Nat.ne_of_lt (Nat.lt_trans (hoc _ (lex_adr p hp)) hom)⟩
                    · rw [List.mem_singleton.mp hq]
                      exact ⟨.tail _ (.head _), fun p hp => Nat.ne_of_lt (hoc _ (lex_adr p hp))⟩
                  rintro v tl' h' tk' ⟨u2, tt, nd, tp, na⟩ F N hn
                  replace N := news_swap N
                  unfold lexTl lexD at N
                  dsimp only [List.cons_append, List.nil_append] at N
                  k_steps
                  unfold Stop
                  rename _ ∧ _ => hq
                  exact FPost.nx (k1 - 1) (by omega) (.go _ _ tt _ _ _ _ _ _ _ _ (fr_norm _ (by assumption) (by walk_at "M names")) hp3.2 (by omega) (by omega) hT (by assumption))
                · unfold Stop
                  rename _ ∧ _ => hq
                  rename (piece tx i == _) = false => d2
                  rename (Builtin.Str.occurrences _ _ _ _ _).isEmpty = true => b1
                  have b2 : ¬ notWhite (piece tx i) = false := fun e => by
                    have : notWhite (piece tx i) = true := b1
                    rw [e] at this; cases this
                  rw [if_neg b2, if_neg (by simpa using d2)] at hT
                  exact FPost.nx (k1 - 1) (by omega) (.go _ _ tt _ _ _ _ _ _ _ _ (fr_norm _ (by assumption) (by walk_at "M names")) hp2 (by omega) (by omega) hT (by assumption))
                · unfold Stop
                  rename News _ _ _ _ => N
                  rename _ = false => d1
                  have d2 : notWhite (piece tx i) = false := d1
                  rw [if_pos d2] at hT
                  subst hT
                  exact ⟨_, _, _, _, _, rfl, by assumption, fun p hp => N p (.tail _ (.tail _ hp)), _, tt, _, _, _, rfl, rfl⟩
              · intro tt nd tp na h tk he F N
                rw [tokW_s (by omega)] at hT
                rw [if_pos he] at hT
                k_steps
                unfold Stop
                refine FPost.nx (k - 1) (by omega) (.fin _ _ tt _ _ _ _ _ _ _ _ (fr_norm _ (by assumption) (by walk_at "M names")) hi hT (by assumption))
            · refine next_end F N fun h F N => ?_
              k_steps
              unfold Stop
              refine FPost.nx (k - 1) (by omega) (.fin _ _ tt _ _ _ _ _ _ _ _ (fr_norm _ (by assumption) (by walk_at "M names")) hi hT (by assumption))
        · rename (piece tx i == _) = false => d2
          revert d2
          rename (piece tx i == _) = false => d1
          intro d2
          rename (Builtin.Str.occurrences _ _ _ _ _).isEmpty = true => c1
          have c1' : ¬ notWhite (piece tx i) = false := fun e => by
            have : notWhite (piece tx i) = true := c1
            rw [e] at this; cases this
          rw [if_neg c1', if_neg (by simpa using d1), if_neg (by simpa using d2)] at hT
          unfold Stop
          rename Fr _ _ _ _ => F
          rename News _ _ _ _ => N
          rename _ ∧ _ => hq
          have hp9 := hp2
          have e0 : ("" : Str).length = 0 := rfl
          refine for_inv (TokInv w g L' s ⟨I, d, pb, S, sd, cl, rd, cr, al, ca, ct, fnOb fdS (some sd), clo, fnOb fdR none, co, cto, cao, kk, hk⟩ tx.length ci mo t0 np R (tokW tx) (fun tok i => tok.length ≤ i)) (.ref ci) (k - 1) (by passes_own) (fun _ => rfl) ?ev2 ?turn2 (fun _ => rfl)
          case ev2 =>
            k_steps
            refine cit_self (N _ (.head _)).1 ⟨rfl, .go _ _ tt _ _ _ _ _ _ _ _ (fr_norm _ F (by walk_at "M names")) hp9 (by omega) (by omega) hT N⟩
          case turn2 =>
            rintro k1 s₁ (⟨i, ln, tt, nd, tp, na, h, tk, tok, u, rest, F, hi, hl, hk1, hT, N⟩ | ⟨i, ln, tt, nd, tp, na, h, tk, tok, u, rest, F, hi, hT, N⟩)
            · refine next_char X T tx _ ok' ci mo t0 ln tt nd [] np i tp na hi hoc hom B Xg F N rfl rfl (by ktr_room) (by ktr_units) ?_ ?_
              · intro u tt nd tp na h tk hne F N
                unfold itTl lexTl lexD at N
                dsimp only at N
                have hp1 := piece_pos hi hne
                have hp2 := (piece_le tx i hi).2
                rw [tokW_s (by omega)] at hT
                rw [if_neg hne] at hT
                k_steps
                · rename Fr _ _ _ _ => F
                  rename News _ _ _ _ => N
                  rename (piece tx i == _) = true => d2
                  rename (Builtin.Str.occurrences _ _ _ _ _).isEmpty = true => b1
                  have b2 : ¬ notWhite (piece tx i) = false := fun e => by
                    have : notWhite (piece tx i) = true := b1
                    rw [e] at this; cases this
                  rw [if_neg b2, if_pos (by simpa using d2)] at hT
                  have hp3 := piece_le tx _ hp2
                  refine use_fsT (rest := [(ci, citObj mo t0), (mo, methodObj (.ref 162) (.ref I))]) (char_fr X T tx _ ok' (lnAt tx i ln) tt nd [] np _ tp na hp2) B F N rfl rfl (by ktr_room) (by ktr_units) ?_ ?_ ?_
                  · exact fun q hq => .tail _ (.tail _ hq)
                  · intro q hq
                    rcases List.mem_cons.mp hq with rfl | hq
                    · exact ⟨.head _, fun p hp => Nat.ne_of_lt (Nat.lt_trans (hoc _ (lex_adr p hp)) hom)⟩
                    · rw [List.mem_singleton.mp hq]
                      exact ⟨.tail _ (.head _), fun p hp => Nat.ne_of_lt (hoc _ (lex_adr p hp))⟩
                  rintro v tl' h' tk' ⟨u2, tt, nd, tp, na⟩ F N hn
                  replace N := news_swap N
                  unfold lexTl lexD at N
                  dsimp only [List.cons_append, List.nil_append] at N
                  k_steps
                  unfold Stop
                  rename _ ∧ _ => hq
                  exact FPost.nx (k1 - 1) (by omega) (.go _ _ tt _ _ _ _ _ _ _ _ (fr_norm _ (by assumption) (by walk_at "M names")) hp3.2 (by omega) (by omega) hT (by assumption))
                · unfold Stop
                  rename _ ∧ _ => hq
                  rename (piece tx i == _) = false => d2
                  rename (Builtin.Str.occurrences _ _ _ _ _).isEmpty = true => b1
                  have b2 : ¬ notWhite (piece tx i) = false := fun e => by
                    have : notWhite (piece tx i) = true := b1
                    rw [e] at this; cases this
                  rw [if_neg b2, if_neg (by simpa using d2)] at hT
                  exact FPost.nx (k1 - 1) (by omega) (.go _ _ tt _ _ _ _ _ _ _ _ (fr_norm _ (by assumption) (by walk_at "M names")) hp2 (by omega) (by omega) hT (by assumption))
                · unfold Stop
                  rename News _ _ _ _ => N
                  rename _ = false => d1
                  have d2 : notWhite (piece tx i) = false := d1
                  rw [if_pos d2] at hT
                  subst hT
                  exact ⟨_, _, _, _, _, rfl, by assumption, fun p hp => N p (.tail _ (.tail _ hp)), _, tt, _, _, _, rfl, rfl⟩
              · intro tt nd tp na h tk he F N
                rw [tokW_s (by omega)] at hT
                rw [if_pos he] at hT
                k_steps
                unfold Stop
                refine FPost.nx (k - 1) (by omega) (.fin _ _ tt _ _ _ _ _ _ _ _ (fr_norm _ (by assumption) (by walk_at "M names")) hi hT (by assumption))
            · refine next_end F N fun h F N => ?_
              k_steps
              unfold Stop
              refine FPost.nx (k - 1) (by omega) (.fin _ _ tt _ _ _ _ _ _ _ _ (fr_norm _ (by assumption) (by walk_at "M names")) hi hT (by assumption))
        · rename _ = false => c1
          have c2 : notWhite (piece tx i) = false := c1
          rw [if_pos c2] at hT
          unfold Stop
          refine FPost.cn (k - 1) (by omega) (.go _ _ tt _ _ _ _ _ "" _ _ (fr_norm _ (by assumption) (by walk_at "M names")) hp2 rfl (by omega) hT (by assumption))
      · intro tt nd tp na h tk he F N
        rw [tokT_s (by omega)] at hT
        rw [if_pos he] at hT
        subst hT
        k_steps
        unfold Stop
        exact ⟨_, _, _, _, _, rfl, by assumption, fun p hp => N p (.tail _ (.tail _ hp)), _, tt, _, _, _, rfl, rfl⟩
    · subst hT
      refine next_end F N fun h F N => ?_
      k_steps
      unfold Stop
      exact ⟨_, _, _, _, _, rfl, by assumption, fun p hp => N p (.tail _ (.tail _ hp)), _, tt, _, _, _, rfl, rfl⟩
end
example : True := by
  k_with_none
  trivial
example : True := by
  k_with "M enter" => (
  (case ho => k_is)
  (case hcd => k_is)
  (case hb => first | exact fun s Xs => BindsTo.of_eq rfl | exact fun s Xs => binds_K Xs rfl (by k_is) rfl rfl rfl)
  (case hl => exact locs rfl)
  (case h1 => decide)
  (case h2 => decide)
  (case h3 => exact rfl)
  (case h4 => exact rfl)
  (case h5 => exact rfl))
  k_with "M names" => (repeat' (first | exact List.forall_mem_nil _ | (refine List.forall_mem_cons.mpr ⟨?nm, ?_⟩; (case nm => rfl))))
  trivial
example : True := by
  k_with "M ne" => first | assumption | exact Ne.symm (by assumption) | k_ne
  trivial
example : True := by
  k_with "M len" => first | assumption | exact getD_len (by assumption) _ | omega
  k_with "M lens" => first | assumption | exact len_del (by assumption) | exact len_del (len_del (by assumption))
  k_with "M strs" => first | assumption | exact strs_del (by assumption) _ | exact strs_del (strs_del (by assumption) _) _
  k_with "M nat" => first | with_reducible exact fdiv2 _ _ | rfl | exact (Int.natCast_add _ _).symm | omega
  k_with "M le" => first | omega | ((try simp (disch := omega) only [delL_length, insL_length]); omega)
  k_with "subscriptTail Name Name ref int" => (k_here; k_dflt (refine' item_strsN ?N ?m ?h _ ?k ?l ?f ?_ ?hs ?hg; (case N => k_asm); (case m => k_mem); (case h => assumption); (case k => walk_at "M nat"); (case l => omega); (case f => omega); (case hs => with_unfolding_all rfl); (case hg => (intro _; with_unfolding_all rfl)); k_whole); intro tk')
  k_with "subscriptTail Name BinOp ref int" => (k_here; k_dflt (refine' item_strsN ?N ?m ?h _ ?k ?l ?f ?_ ?hs ?hg; (case N => k_asm); (case m => k_mem); (case h => assumption); (case k => walk_at "M nat"); (case l => omega); (case f => omega); (case hs => with_unfolding_all rfl); (case hg => (intro _; with_unfolding_all rfl)); k_whole); intro tk')
  k_with "exec While Compare cons nil" => refine Stop.out ?_
  k_with "call builtin:list.insert" => (k_here; (with_reducible show wpAny _ _ (call (Value.builtin _) [Value.ref _, Value.int _ _, _]) _ _ _); k_dflt (refine' ins_N ?F ?N _ ?k ?i ?l ?U ?_; (case F => k_asm); (case N => k_asm); (case U => k_upd); (case k => walk_at "M nat"); (case i => walk_at "M le"); (case l => walk_at "M le"); k_whole); intro h' F' N'; (try dsimp only [List.nil_append, List.cons_append] at N'); (try k_sweep))
  k_with "call builtin:list.pop" => (k_here; (with_reducible show wpAny _ _ (call (Value.builtin _) [Value.ref _, Value.int _ _]) _ _ _); k_dflt (refine' popS_N ?F ?N ?h _ ?k ?i ?l ?U ?_; (case F => k_asm); (case N => k_asm); (case U => k_upd); (case h => walk_at "M strs"); (case k => walk_at "M nat"); (case i => walk_at "M le"); (case l => walk_at "M le"); k_whole); intro h' tk' F' N'; (try dsimp only [List.nil_append, List.cons_append] at N'); (try k_sweep))
  k_with "pyIter ref" => ((with_reducible show wpAny _ _ (pyIter (Value.ref _)) (CompPostA _ _ _ _ _ _ _ _ _ _) _ _); refine Stop.out ?_)
  k_with "pyIter ref" => ((with_reducible show wpAny _ _ (pyIter (Value.ref _)) (fun it s₂ => LoopAtV _ _ _ _ _ _ _ _ _ it s₂) _ _); refine Stop.out ?_)
  k_with "call builtin:len" => (k_here; (with_reducible show wpAny _ _ (call (Value.builtin "len") [Value.ref _]) _ _ _); k_dflt (refine' len_N ?N ?m ?l ?_; (case N => k_asm); (case m => k_mem); (case l => walk_at "M le"); k_whole); intro t' tk')
  k_with "binaryOp Sub int int" => (k_here; (with_reducible refine' sub_natN ?h ?_; (case h => omega)); intro t' tk')
  k_with "binaryOp Sub int int" => (k_here; (with_reducible refine' sub_nat1 ?h ?_; (case h => omega)); intro t' tk')
  k_with "LPost" => refine Stop.out ?_
  k_with "WPost" => refine Stop.out ?_
  k_with "Done" => refine Stop.out ?_
  k_with "call builtin:len" => (k_here; (with_reducible show wpAny _ _ (call (Value.builtin "len") [Value.str _ _]) _ _ _); k_dflt (refine' lenS_N ?l ?_; (case l => walk_at "M len"); k_whole); intro t' tk')
  k_with "eval ListComp" => refine Stop.out ?_
  k_with "exec Assign cons ListComp" => refine Stop.out ?_
  k_with "CPost" => refine Stop.out ?_
  k_with "CPostA" => refine Stop.out ?_
  k_with "EPost" => refine Stop.out ?_
  trivial
example : True := by
  k_with "call builtin:list.append" => (k_here; (with_reducible show wpAny _ _ (call (Value.builtin _) [Value.ref _, _]) _ _ _); k_dflt (refine' app_N ?F ?N ?l ?U ?_; (case F => k_asm); (case N => k_asm); (case U => k_upd); (case l => walk_at "M le"); k_whole); intro h' F' N'; (try k_sweep))
  k_with "newList" => (k_here; k_dflt (refine' newList_N ?F ?N ?l ?_; (case F => k_asm); (case N => k_asm); (case l => exact Nat.le_of_ble_eq_true rfl); k_whole); intro D' h' F' N' l1 l2; (try (have l3 := l1; k_lt l3)); (try k_sweep))
  k_with "M enterC" => (
  (case ho => k_is)
  (case hcd => k_is)
  (case hb => first | exact fun s Xs => BindsTo.of_eq rfl | exact fun s Xs => binds_K Xs rfl (by k_is) rfl rfl rfl)
  (case hl => exact rfl)
  (case h2 => decide +kernel)
  (case h1 => decide)
  (case h3 => exact rfl)
  (case h4 => exact rfl)
  (case h5 => exact rfl))
  k_with "M comp" => (
  (case hclos => exact rfl)
  (case hcell => decide)
  (case hkind => exact rfl)
  (case hnames => decide)
  (case hx => exact rfl)
  (case hs => (intro _; exact rfl)))
  k_with "M compA" => (
  (case hsw => exact rfl)
  (case hclos => exact rfl)
  (case hcell => decide)
  (case hkind => exact rfl)
  (case hnames => decide)
  (case hx => exact rfl)
  (case hy => exact rfl)
  (case hp => exact rfl)
  (case hs => (intro _; exact rfl)))
  k_with "eval Name" => (k_here; (with_reducible show wpAny _ _ (eval (PySem.Expr.Name _ _) (compEnvC _ _ _ _)) _ _ _); k_dflt (first
  | (refine' cname ?n ?v ?k ?l ?d ?_; (case n => assumption); (case v => assumption); (case k => exact rfl); (case l => exact rfl); (case d => decide))
  | (refine' ccell ?N ?c ?m ?d ?k ?l ?b ?_; (case N => k_asm); (case c => exact rfl); (case m => k_mem); (case d => assumption); (case k => exact rfl); (case l => exact rfl); (case b => decide))
  | (refine' cbuilt ?F ?X ?T ?e ?v ?n ?g ?b ?k ?l ?d ?_; (case F => k_asm); (case X => k_asm); (case T => k_asm); (case e => k_is); (case v => boot_by_name); (case n => decide); (case g => exact rfl); (case b => exact rfl); (case k => exact rfl); (case l => exact rfl); (case d => decide))
  | (refine' cglob ?F ?X ?T ?e ?g ?k ?l ?d ?_; (case F => k_asm); (case X => k_asm); (case T => k_asm); (case e => k_is); (case g => exact rfl); (case k => exact rfl); (case l => exact rfl); (case d => decide))
  | fail))
  trivial
example : True := by
  k_with "call ref" => ((with_reducible show wpAny _ _ (call (Value.ref 202) [Value.str _ _] []) _ _ _); k_dflt (refine' use_fs (size_fs ?X ?T _ _ ?hx) ?B ?F ?N ?hf ?hk ?hd ?hu ?hp ?_; (case B => assumption); (case X => assumption); (case T => assumption); (case F => k_asm); (case N => k_asm); (case hf => rfl); (case hk => rfl); (case hp => walk_at "M picks"); (case hx => walk_at "M len"); (case hd => ktr_room); (case hu => ktr_units); k_whole); intro v' tl' h' tk' hr' F' N' hn'; (obtain ⟨t', hv', ht'⟩ := hr'); (subst hv'); (subst ht'); (clear hn'); (try dsimp only [List.nil_append, List.cons_append] at N'); (try k_sweep))
  trivial

example : True := by
  k_with "call ref" => ((with_reducible show wpAny _ _ (call (Value.ref 39) _ _) _ _ _); k_dflt (refine' use_fs (bisR_fs ?X ?T _ _ _ _ _ _ ?hss _ _ _ _ ?hlo ?hhi _ _ ?h1 ?h2 ?h3 ?h4) ?B ?F ?N ?hf ?hk ?hd ?hu ?hp ?_; (case B => assumption); (case X => assumption); (case T => assumption); (case F => k_asm); (case N => k_asm); (case hf => rfl); (case hk => rfl); (case hp => walk_at "M picks"); (case hss => walk_at "M strs"); (case hlo => walk_at "M nat"); (case hhi => walk_at "M nat"); (case h1 => omega); (case h2 => walk_at "M le"); (case h3 => walk_at "M le"); (case h4 => walk_at "M lens"); (case hd => ktr_room); (case hu => ktr_units); k_whole); intro v' tl' h' tk' hr' F' N' hn'; (obtain ⟨t', hv', ht'⟩ := hr'); (subst hv'); (subst ht'); (clear hn'); (try dsimp only [List.nil_append, List.cons_append] at N'); (try k_sweep))
  k_with "call ref" => ((with_reducible show wpAny _ _ (call (Value.ref 57) _ _) _ _ _); k_dflt (refine' use_fs (bisL_fs ?X ?T _ _ _ _ _ _ ?hss _ _ _ _ ?hlo ?hhi _ _ ?h1 ?h2 ?h3 ?h4) ?B ?F ?N ?hf ?hk ?hd ?hu ?hp ?_; (case B => assumption); (case X => assumption); (case T => assumption); (case F => k_asm); (case N => k_asm); (case hf => rfl); (case hk => rfl); (case hp => walk_at "M picks"); (case hss => walk_at "M strs"); (case hlo => walk_at "M nat"); (case hhi => walk_at "M nat"); (case h1 => omega); (case h2 => walk_at "M le"); (case h3 => walk_at "M le"); (case h4 => walk_at "M lens"); (case hd => ktr_room); (case hu => ktr_units); k_whole); intro v' tl' h' tk' hr' F' N' hn'; (obtain ⟨t', hv', ht'⟩ := hr'); (subst hv'); (subst ht'); (clear hn'); (try dsimp only [List.nil_append, List.cons_append] at N'); (try k_sweep))
  trivial

example : True := by
  k_with "call ref" => ((with_reducible show wpAny _ _ (call (Value.ref 30) _ _) _ _ _); k_dflt (refine' use_fs (insR_fs ?X ?T _ _ _ _ _ _ ?hss _ _ _ _ ?hlo ?hhi _ _ ?h1 ?h2 ?h3 ?h4 ?hx) ?B ?F ?N ?hf ?hk ?hd ?hu ?hp ?_; (case B => assumption); (case X => assumption); (case T => assumption); (case F => k_asm); (case N => k_asm); (case hf => rfl); (case hk => rfl); (case hp => walk_at "M picks"); (case hss => walk_at "M strs"); (case hlo => walk_at "M nat"); (case hhi => walk_at "M nat"); (case h1 => omega); (case h2 => walk_at "M le"); (case h3 => walk_at "M le"); (case h4 => walk_at "M lens"); (case hx => walk_at "M len"); (case hd => ktr_room); (case hu => ktr_units); k_whole); intro v' tl' h' tk' hr' F' N' hn'; (obtain ⟨hv', ht'⟩ := hr'); (subst hv'); (subst ht'); (clear hn'); (try dsimp only [List.nil_append, List.cons_append] at N'); (try k_sweep))
  k_with "call ref" => ((with_reducible show wpAny _ _ (call (Value.ref 48) _ _) _ _ _); k_dflt (refine' use_fs (insL_fs ?X ?T _ _ _ _ _ _ ?hss _ _ _ _ ?hlo ?hhi _ _ ?h1 ?h2 ?h3 ?h4 ?hx) ?B ?F ?N ?hf ?hk ?hd ?hu ?hp ?_; (case B => assumption); (case X => assumption); (case T => assumption); (case F => k_asm); (case N => k_asm); (case hf => rfl); (case hk => rfl); (case hp => walk_at "M picks"); (case hss => walk_at "M strs"); (case hlo => walk_at "M nat"); (case hhi => walk_at "M nat"); (case h1 => omega); (case h2 => walk_at "M le"); (case h3 => walk_at "M le"); (case h4 => walk_at "M lens"); (case hx => walk_at "M len"); (case hd => ktr_room); (case hu => ktr_units); k_whole); intro v' tl' h' tk' hr' F' N' hn'; (obtain ⟨hv', ht'⟩ := hr'); (subst hv'); (subst ht'); (clear hn'); (try dsimp only [List.nil_append, List.cons_append] at N'); (try k_sweep))
  trivial

example : True := by
  k_with "call ref" => ((with_reducible show wpAny _ _ (call (Value.ref 207) [Value.ref _, Value.ref 30] _) _ _ _); k_dflt (refine' use_fs (rowR_fs ?X ?T _ _ _ _ ?hss ?h3 ?h4) ?B ?F ?N ?hf ?hk ?hd ?hu ?hp ?_; (case B => assumption); (case X => assumption); (case T => assumption); (case F => k_asm); (case N => k_asm); (case hf => rfl); (case hk => rfl); (case hp => walk_at "M picks"); (case hss => walk_at "M strs"); (case h3 => walk_at "M le"); (case h4 => walk_at "M lens"); (case hd => ktr_room); (case hu => ktr_units); k_whole); intro v' tl' h' tk' hr' F' N' hn'; (obtain ⟨D', its', n', hv', hne', hS', ht'⟩ := hr'); (subst hv'); (subst ht'); (have hO' := off_one hn' hne'); (clear hn'); (try dsimp only [List.nil_append, List.cons_append] at N'); (try k_sweep))
  k_with "call ref" => ((with_reducible show wpAny _ _ (call (Value.ref 207) [Value.ref _, Value.ref 48] _) _ _ _); k_dflt (refine' use_fs (rowL_fs ?X ?T _ _ _ _ ?hss ?h3 ?h4) ?B ?F ?N ?hf ?hk ?hd ?hu ?hp ?_; (case B => assumption); (case X => assumption); (case T => assumption); (case F => k_asm); (case N => k_asm); (case hf => rfl); (case hk => rfl); (case hp => walk_at "M picks"); (case hss => walk_at "M strs"); (case h3 => walk_at "M le"); (case h4 => walk_at "M lens"); (case hd => ktr_room); (case hu => ktr_units); k_whole); intro v' tl' h' tk' hr' F' N' hn'; (obtain ⟨D', its', n', hv', hne', hS', ht'⟩ := hr'); (subst hv'); (subst ht'); (have hO' := off_one hn' hne'); (clear hn'); (try dsimp only [List.nil_append, List.cons_append] at N'); (try k_sweep))
  trivial

example : True := by
  k_with "call ref" => ((with_reducible show wpAny _ _ (call (Value.ref 219) _ _) _ _ _); k_dflt (refine' use_fs (turned_fs ?X ?T _ _ _ _ ?hss ?h3) ?B ?F ?N ?hf ?hk ?hd ?hu ?hp ?_; (case B => assumption); (case X => assumption); (case T => assumption); (case F => k_asm); (case N => k_asm); (case hf => rfl); (case hk => rfl); (case hp => walk_at "M picks"); (case hss => walk_at "M strs"); (case h3 => walk_at "M le"); (case hd => ktr_room); (case hu => ktr_units); k_whole); intro v' tl' h' tk' hr' F' N' hn'; (obtain ⟨D', its', n', hv', hne', hS', ht'⟩ := hr'); (subst hv'); (subst ht'); (have hO' := off_one hn' hne'); (clear hn'); (try dsimp only [List.nil_append, List.cons_append] at N'); (try k_sweep))
  trivial


noncomputable section
example : True := by
  k_with "M cat" => (exact Nat.le_trans (show _ ≤ 3000 by omega) (by simp [sizeLine_eq]))
  k_with "binaryOp Add str str" => (k_here; (refine PyProof.Rows.SBL.add (hsz := ?hsz) ?_); (case hsz => walk_at "M cat"); intro t' tk' hlen')
  trivial
def escS (c : Str) : Str := if (Builtin.Str.occurrences "\"\\" c 0 ("\"\\" : Str).length 1).isEmpty = true then c else "\\" ++ c
def escW (x : Str) : List Str := x.cps.toList.map fun c => escS ⟨#[c]⟩
theorem esc_strs {x : Str} {vs ys : List Value} (hlen : vs.length = x.cps.size) (hP : ∀ j v, vs[j]? = some v → SignAt x j v) (hG : Paired (fun v y => ∃ (c : Str) (t u : Tok), v = .str c t ∧ y = .str (escS c) u) vs ys) : StrsAre ys (escW x) :=
  paired_strs hG (ss := escW x) (by unfold escW; rw [List.length_map, hlen]; rfl) hP (fun j v y ⟨ch, u, hc, hv⟩ ⟨c, t, u', hv', hy⟩ => by
    subst hv
    cases hv'
    refine ⟨u', ?_⟩
    rw [hy, List.getD_eq_getElem?_getD]
    unfold escW
    rw [List.getElem?_map, Array.getElem?_toList, hc]
    rfl)
theorem escS_len (c : Nat) : (escS ⟨#[c]⟩).length ≤ 2 := by
  unfold escS
  split
  · exact Nat.le_succ 1
  · exact Nat.le_refl 2
theorem escW_len (x : Str) : (escW x).length = x.length := by unfold escW; rw [List.length_map]; rfl
theorem sum2 (l : List Nat) : ((l.map fun c => escS ⟨#[c]⟩).map (·.length)).sum ≤ 2 * l.length := by
  induction l with
  | nil => exact Nat.le_refl _
  | cons c r ih =>
    have := escS_len c
    simp only [List.map_cons, List.sum_cons, List.length_cons]
    omega
theorem escW_sum (x : Str) : ((escW x).map (·.length)).sum ≤ 2 * x.length := sum2 x.cps.toList
theorem escJ_len (x : Str) : (Txt.join "" (escW x)).length ≤ 2 * x.length := by
  have h := StrLaws.join_length_le "" (escW x)
  have e : (escW x).length * ("" : Str).length = 0 := Nat.mul_zero _
  rw [e, ← StrLaws.glued_eq_join] at h
  exact Nat.le_trans h (escW_sum x)
def textTurn (x : Str) (n : Int) (wd : Str) : Str :=
  if (wd == "") = true ∨ Int.fmod (Int.fdiv n 4) 2 = 1 then x ++ "\"" ++ Txt.join "" (escW wd) ++ "\"" else x ++ "\\" ++ wd ++ Txt.item "\n\t\r " (Int.fmod (Int.fdiv n 8) 4)
def textTo (ni : List Int) (ws : List Str) : Nat → Str
  | 0 => ""
  | i + 1 => textTurn (textTo ni ws i) (ni.getD i 0) (ws.getD i "")
theorem app_len (a b : Str) : (a ++ b).length = a.length + b.length := Array.size_append ..
theorem join_esc {prog : Program} {A : Around} {E : Value → Shared → Prop} {s : Shared} {h₀ : Heap} {L D : Addr} {news : Led} {ys : List Value} {n : Nat} {x : Str} {t : Tok} {Q : Value → Shared → Prop} (N : News h₀ L s.heap news) (hm : (D, listOf ys.toArray n) ∈ news) (hys : StrsAre ys (escW x)) (hx : x.length ≤ 3) (h : ∀ t' k, Q (.str (Txt.join "" (escW x)) t') { s with toks := k }) :
    wpAny (model prog w) A (call (.builtin "str.join") [.str "" t, .ref D]) Q E s :=
  join_listW (N.isList hm) hys (by decide) (by have := escW_sum x; have := escW_len x; omega) h
example : True := by
  k_with "M quoted" => (
  unfold Stop
  refine' comp_eval (fun _ => true) (fun v y => ∃ (c : Str) (t u : Tok), v = .str c t ∧ y = .str (escS c) u) ?hclos ?hcell ?hkind ?hnames ?hx ?hs ?_
  walk_at "M comp"
  k_steps
  unfold Stop
  refine' comp_src (src_str rfl) (Nat.le_trans (by assumption) (by decide)) (by k_asm) (by k_asm) ?g1 ?g2 ?g3
  (case g1 => (intros; exact CTest.none))
  (case g2 => (
    intro C j v s₂ m₂ E' hP _ hn hm hk
    obtain ⟨c, u, hc, hv⟩ : ∃ (c : Str) (u : Tok), c.length = 1 ∧ v = .str c u := by
      obtain ⟨ch, u, hch, hv⟩ := hP
      exact ⟨_, u, by rfl, hv⟩
    subst hv
    rename Fr _ _ _ _ => F9
    rename News _ _ _ _ => N9
    have F2 := F9.keeps hk
    have N2 := N9.grown hk
    k_steps
    · unfold Stop
      rename _ = true => c1
      exact ⟨⟨c, u, _, rfl, by unfold escS; rw [if_pos c1]⟩, _, _, rfl, fun _ _ e => e⟩
    · unfold Stop
      rename _ = false => c1
      exact ⟨⟨c, u, _, rfl, by unfold escS; rw [if_neg (by rw [c1]; decide)]⟩, _, _, rfl, fun _ _ e => e⟩)))
  trivial
theorem text_fs (X : (Kf w.params).In b₀) (T : Top topProg loose mean mg mb b₀) (nx wx : Addr) (nv wv : List Value) (ni : List Int) (ws : List Str) (nn nw : Nat) (hn : IntsAre nv ni) (hw : StrsAre wv ws) (ln : nv.length = 6) (lw : wv.length = 6) (hl : ∀ s ∈ ws, s.length ≤ 3) (h1 : nx ≠ wx) :
    FS P1 w b₀ 9 90 (.ref 195) ⟨[.ref nx, .ref wx], []⟩ [(nx, listOf nv.toArray nn), (wx, listOf wv.toArray nw)]
      (fun v tl' => (textTo ni ws 6).length ≤ 120 ∧ (∃ t, v = .str (textTo ni ws 6) t) ∧ tl' = [(nx, listOf nv.toArray nn), (wx, listOf wv.toArray nw)]) := by
  refine' enterL (binds := [("numbers", .ref nx), ("words", .ref wx)]) X T ?ho ?hcd ?hb ?hl ?h ?h1 ?h2 ?h3 ?h4 ?h5
  walk_at "M enter"
  intro dp un gd fr s g L' h₁ hd hu F N B st Xg Tg lN
  (conv in (PySem.execs _ _) => arg 1; whnf)
  (try dsimp only)
  k_steps
  unfold Stop
  rename IsRange _ _ _ _ _ _ _ _ => hr
  rename Fr _ _ _ _ => F
  rename News _ _ _ _ => N
  refine' range_inv (n := 6) (fun i m news => ∃ x t rest, m = fm rest [("text", .str x t), ("numbers", .ref nx), ("words", .ref wx)] ∧ news = [(nx, listOf nv.toArray nn), (wx, listOf wv.toArray nw)] ∧ x.length ≤ 20 * i ∧ x = textTo ni ws i) (by omega) rfl hr F N ?j0 ?turn ?done
  case j0 => exact ⟨"", _, _, fm_self _ (by walk_at "M names"), rfl, Nat.le_refl _, rfl⟩
  case done =>
    rintro m₁ news₁ h tk ⟨x, t, rest, rfl, rfl, e1, rfl⟩ F N
    k_steps
    unfold Stop
    exact ⟨_, _, _, _, _, rfl, F, N, e1, ⟨_, rfl⟩, rfl⟩
  case turn =>
    rintro i m₁ news₁ t h tk I ito hi ⟨x, tx, rest, rfl, rfl, e1, e2⟩ hI F N hO
    k_lt hI
    have hwi : (ws.getD i "").length ≤ 3 := getD_len hl i
    have hq1 : ("\"" : Str).length = 1 := rfl
    have hq2 : ("\\" : Str).length = 1 := rfl
    have hjl := escJ_len (ws.getD i "")
    k_steps
    · rename (_ == _) = true => c1
      walk_at "M quoted"
      case g3 =>
        intro D ys vs' n' h' tk F N hD hlen hP hG
        rw [filter_tt] at hG
        have hys := esc_strs hlen hP hG
        k_steps
        refine join_esc N (.head _) hys hwi ?_
        intro tj kj
        k_steps
        unfold Stop
        refine LPost.nx (by assumption) (by assumption) [(nx, _), (wx, _)] (by k_mem) (by k_subL) (by walk_at "M all") ⟨_, _, _, fm_self _ (by walk_at "M names"), rfl, ?_, ?_⟩
        · simp only [app_len]; omega
        · show _ = textTurn _ _ _
          unfold textTurn
          rw [if_pos (.inl c1), e2]
    · rename Int.fmod _ _ = 1 => c1
      walk_at "M quoted"
      case g3 =>
        intro D ys vs' n' h' tk F N hD hlen hP hG
        rw [filter_tt] at hG
        have hys := esc_strs hlen hP hG
        k_steps
        refine join_esc N (.head _) hys hwi ?_
        intro tj kj
        k_steps
        unfold Stop
        refine LPost.nx (by assumption) (by assumption) [(nx, _), (wx, _)] (by k_mem) (by k_subL) (by walk_at "M all") ⟨_, _, _, fm_self _ (by walk_at "M names"), rfl, ?_, ?_⟩
        · simp only [app_len]; omega
        · show _ = textTurn _ _ _
          unfold textTurn
          rw [if_pos (.inr c1), e2]
    · rename (_ == _) = false => c1
      rename Int.fmod _ _ ≠ 1 => c2
      rename (Txt.item _ _).length = 1 => c3
      unfold Stop
      refine LPost.nx (by assumption) (by assumption) [(nx, _), (wx, _)] (by k_mem) (by k_subL) (by walk_at "M all") ⟨_, _, _, fm_self _ (by walk_at "M names"), rfl, ?_, ?_⟩
      · simp only [app_len]
        omega
      · show _ = textTurn _ _ _
        unfold textTurn
        rw [if_neg (fun q => q.elim (fun q => by rw [c1] at q; cases q) c2), e2]
        rfl
end
example : True := by
  k_with_none
  trivial
example : True := by
  k_with "M enter" => (
  (case ho => k_is)
  (case hcd => k_is)
  (case hb => first | exact fun s Xs => BindsTo.of_eq rfl | exact fun s Xs => binds_K Xs rfl (by k_is) rfl rfl rfl)
  (case hl => exact locs rfl)
  (case h1 => decide)
  (case h2 => decide)
  (case h3 => exact rfl)
  (case h4 => exact rfl)
  (case h5 => exact rfl))
  k_with "M names" => (repeat' (first | exact List.forall_mem_nil _ | (refine List.forall_mem_cons.mpr ⟨?nm, ?_⟩; (case nm => rfl))))
  trivial
example : True := by
  k_with "M ne" => first | assumption | exact Ne.symm (by assumption) | k_ne
  trivial
example : True := by
  k_with "M len" => first | assumption | exact getD_len (by assumption) _ | omega
  k_with "M lens" => first | assumption | exact len_del (by assumption) | exact len_del (len_del (by assumption))
  k_with "M strs" => first | assumption | exact strs_del (by assumption) _ | exact strs_del (strs_del (by assumption) _) _
  k_with "M nat" => first | with_reducible exact fdiv2 _ _ | rfl | exact (Int.natCast_add _ _).symm | omega
  k_with "M le" => first | omega | ((try simp (disch := omega) only [delL_length, insL_length]); omega)
  k_with "subscriptTail Name Name ref int" => (k_here; k_dflt (refine' item_strsN ?N ?m ?h _ ?k ?l ?f ?_ ?hs ?hg; (case N => k_asm); (case m => k_mem); (case h => assumption); (case k => walk_at "M nat"); (case l => omega); (case f => omega); (case hs => with_unfolding_all rfl); (case hg => (intro _; with_unfolding_all rfl)); k_whole); intro tk')
  k_with "subscriptTail Name BinOp ref int" => (k_here; k_dflt (refine' item_strsN ?N ?m ?h _ ?k ?l ?f ?_ ?hs ?hg; (case N => k_asm); (case m => k_mem); (case h => assumption); (case k => walk_at "M nat"); (case l => omega); (case f => omega); (case hs => with_unfolding_all rfl); (case hg => (intro _; with_unfolding_all rfl)); k_whole); intro tk')
  k_with "exec While Compare cons nil" => refine Stop.out ?_
  k_with "call builtin:list.insert" => (k_here; (with_reducible show wpAny _ _ (call (Value.builtin _) [Value.ref _, Value.int _ _, _]) _ _ _); k_dflt (refine' ins_N ?F ?N _ ?k ?i ?l ?U ?_; (case F => k_asm); (case N => k_asm); (case U => k_upd); (case k => walk_at "M nat"); (case i => walk_at "M le"); (case l => walk_at "M le"); k_whole); intro h' F' N'; (try dsimp only [List.nil_append, List.cons_append] at N'); (try k_sweep))
  k_with "call builtin:list.pop" => (k_here; (with_reducible show wpAny _ _ (call (Value.builtin _) [Value.ref _, Value.int _ _]) _ _ _); k_dflt (refine' popS_N ?F ?N ?h _ ?k ?i ?l ?U ?_; (case F => k_asm); (case N => k_asm); (case U => k_upd); (case h => walk_at "M strs"); (case k => walk_at "M nat"); (case i => walk_at "M le"); (case l => walk_at "M le"); k_whole); intro h' tk' F' N'; (try dsimp only [List.nil_append, List.cons_append] at N'); (try k_sweep))
  k_with "pyIter ref" => ((with_reducible show wpAny _ _ (pyIter (Value.ref _)) (CompPostA _ _ _ _ _ _ _ _ _ _) _ _); refine Stop.out ?_)
  k_with "pyIter ref" => ((with_reducible show wpAny _ _ (pyIter (Value.ref _)) (fun it s₂ => LoopAtV _ _ _ _ _ _ _ _ _ it s₂) _ _); refine Stop.out ?_)
  k_with "call builtin:len" => (k_here; (with_reducible show wpAny _ _ (call (Value.builtin "len") [Value.ref _]) _ _ _); k_dflt (refine' len_N ?N ?m ?l ?_; (case N => k_asm); (case m => k_mem); (case l => walk_at "M le"); k_whole); intro t' tk')
  k_with "binaryOp Sub int int" => (k_here; (with_reducible refine' sub_natN ?h ?_; (case h => omega)); intro t' tk')
  k_with "binaryOp Sub int int" => (k_here; (with_reducible refine' sub_nat1 ?h ?_; (case h => omega)); intro t' tk')
  k_with "LPost" => refine Stop.out ?_
  k_with "WPost" => refine Stop.out ?_
  k_with "Done" => refine Stop.out ?_
  k_with "call builtin:len" => (k_here; (with_reducible show wpAny _ _ (call (Value.builtin "len") [Value.str _ _]) _ _ _); k_dflt (refine' lenS_N ?l ?_; (case l => walk_at "M len"); k_whole); intro t' tk')
  k_with "eval ListComp" => refine Stop.out ?_
  k_with "exec Assign cons ListComp" => refine Stop.out ?_
  k_with "CPost" => refine Stop.out ?_
  k_with "CPostA" => refine Stop.out ?_
  k_with "EPost" => refine Stop.out ?_
  trivial
example : True := by
  k_with "call builtin:list.append" => (k_here; (with_reducible show wpAny _ _ (call (Value.builtin _) [Value.ref _, _]) _ _ _); k_dflt (refine' app_N ?F ?N ?l ?U ?_; (case F => k_asm); (case N => k_asm); (case U => k_upd); (case l => walk_at "M le"); k_whole); intro h' F' N'; (try k_sweep))
  k_with "newList" => (k_here; k_dflt (refine' newList_N ?F ?N ?l ?_; (case F => k_asm); (case N => k_asm); (case l => exact Nat.le_of_ble_eq_true rfl); k_whole); intro D' h' F' N' l1 l2; (try (have l3 := l1; k_lt l3)); (try k_sweep))
  k_with "M enterC" => (
  (case ho => k_is)
  (case hcd => k_is)
  (case hb => first | exact fun s Xs => BindsTo.of_eq rfl | exact fun s Xs => binds_K Xs rfl (by k_is) rfl rfl rfl)
  (case hl => exact rfl)
  (case h2 => decide +kernel)
  (case h1 => decide)
  (case h3 => exact rfl)
  (case h4 => exact rfl)
  (case h5 => exact rfl))
  k_with "M comp" => (
  (case hclos => exact rfl)
  (case hcell => decide)
  (case hkind => exact rfl)
  (case hnames => decide)
  (case hx => exact rfl)
  (case hs => (intro _; exact rfl)))
  k_with "M compA" => (
  (case hsw => exact rfl)
  (case hclos => exact rfl)
  (case hcell => decide)
  (case hkind => exact rfl)
  (case hnames => decide)
  (case hx => exact rfl)
  (case hy => exact rfl)
  (case hp => exact rfl)
  (case hs => (intro _; exact rfl)))
  k_with "eval Name" => (k_here; (with_reducible show wpAny _ _ (eval (PySem.Expr.Name _ _) (compEnvC _ _ _ _)) _ _ _); k_dflt (first
  | (refine' cname ?n ?v ?k ?l ?d ?_; (case n => assumption); (case v => assumption); (case k => exact rfl); (case l => exact rfl); (case d => decide))
  | (refine' ccell ?N ?c ?m ?d ?k ?l ?b ?_; (case N => k_asm); (case c => exact rfl); (case m => k_mem); (case d => assumption); (case k => exact rfl); (case l => exact rfl); (case b => decide))
  | (refine' cbuilt ?F ?X ?T ?e ?v ?n ?g ?b ?k ?l ?d ?_; (case F => k_asm); (case X => k_asm); (case T => k_asm); (case e => k_is); (case v => boot_by_name); (case n => decide); (case g => exact rfl); (case b => exact rfl); (case k => exact rfl); (case l => exact rfl); (case d => decide))
  | (refine' cglob ?F ?X ?T ?e ?g ?k ?l ?d ?_; (case F => k_asm); (case X => k_asm); (case T => k_asm); (case e => k_is); (case g => exact rfl); (case k => exact rfl); (case l => exact rfl); (case d => decide))
  | fail))
  trivial
example : True := by
  k_with "call ref" => ((with_reducible show wpAny _ _ (call (Value.ref 202) [Value.str _ _] []) _ _ _); k_dflt (refine' use_fs (size_fs ?X ?T _ _ ?hx) ?B ?F ?N ?hf ?hk ?hd ?hu ?hp ?_; (case B => assumption); (case X => assumption); (case T => assumption); (case F => k_asm); (case N => k_asm); (case hf => rfl); (case hk => rfl); (case hp => walk_at "M picks"); (case hx => walk_at "M len"); (case hd => ktr_room); (case hu => ktr_units); k_whole); intro v' tl' h' tk' hr' F' N' hn'; (obtain ⟨t', hv', ht'⟩ := hr'); (subst hv'); (subst ht'); (clear hn'); (try dsimp only [List.nil_append, List.cons_append] at N'); (try k_sweep))
  trivial

example : True := by
  k_with "call ref" => ((with_reducible show wpAny _ _ (call (Value.ref 39) _ _) _ _ _); k_dflt (refine' use_fs (bisR_fs ?X ?T _ _ _ _ _ _ ?hss _ _ _ _ ?hlo ?hhi _ _ ?h1 ?h2 ?h3 ?h4) ?B ?F ?N ?hf ?hk ?hd ?hu ?hp ?_; (case B => assumption); (case X => assumption); (case T => assumption); (case F => k_asm); (case N => k_asm); (case hf => rfl); (case hk => rfl); (case hp => walk_at "M picks"); (case hss => walk_at "M strs"); (case hlo => walk_at "M nat"); (case hhi => walk_at "M nat"); (case h1 => omega); (case h2 => walk_at "M le"); (case h3 => walk_at "M le"); (case h4 => walk_at "M lens"); (case hd => ktr_room); (case hu => ktr_units); k_whole); intro v' tl' h' tk' hr' F' N' hn'; (obtain ⟨t', hv', ht'⟩ := hr'); (subst hv'); (subst ht'); (clear hn'); (try dsimp only [List.nil_append, List.cons_append] at N'); (try k_sweep))
  k_with "call ref" => ((with_reducible show wpAny _ _ (call (Value.ref 57) _ _) _ _ _); k_dflt (refine' use_fs (bisL_fs ?X ?T _ _ _ _ _ _ ?hss _ _ _ _ ?hlo ?hhi _ _ ?h1 ?h2 ?h3 ?h4) ?B ?F ?N ?hf ?hk ?hd ?hu ?hp ?_; (case B => assumption); (case X => assumption); (case T => assumption); (case F => k_asm); (case N => k_asm); (case hf => rfl); (case hk => rfl); (case hp => walk_at "M picks"); (case hss => walk_at "M strs"); (case hlo => walk_at "M nat"); (case hhi => walk_at "M nat"); (case h1 => omega); (case h2 => walk_at "M le"); (case h3 => walk_at "M le"); (case h4 => walk_at "M lens"); (case hd => ktr_room); (case hu => ktr_units); k_whole); intro v' tl' h' tk' hr' F' N' hn'; (obtain ⟨t', hv', ht'⟩ := hr'); (subst hv'); (subst ht'); (clear hn'); (try dsimp only [List.nil_append, List.cons_append] at N'); (try k_sweep))
  trivial

example : True := by
  k_with "call ref" => ((with_reducible show wpAny _ _ (call (Value.ref 30) _ _) _ _ _); k_dflt (refine' use_fs (insR_fs ?X ?T _ _ _ _ _ _ ?hss _ _ _ _ ?hlo ?hhi _ _ ?h1 ?h2 ?h3 ?h4 ?hx) ?B ?F ?N ?hf ?hk ?hd ?hu ?hp ?_; (case B => assumption); (case X => assumption); (case T => assumption); (case F => k_asm); (case N => k_asm); (case hf => rfl); (case hk => rfl); (case hp => walk_at "M picks"); (case hss => walk_at "M strs"); (case hlo => walk_at "M nat"); (case hhi => walk_at "M nat"); (case h1 => omega); (case h2 => walk_at "M le"); (case h3 => walk_at "M le"); (case h4 => walk_at "M lens"); (case hx => walk_at "M len"); (case hd => ktr_room); (case hu => ktr_units); k_whole); intro v' tl' h' tk' hr' F' N' hn'; (obtain ⟨hv', ht'⟩ := hr'); (subst hv'); (subst ht'); (clear hn'); (try dsimp only [List.nil_append, List.cons_append] at N'); (try k_sweep))
  k_with "call ref" => ((with_reducible show wpAny _ _ (call (Value.ref 48) _ _) _ _ _); k_dflt (refine' use_fs (insL_fs ?X ?T _ _ _ _ _ _ ?hss _ _ _ _ ?hlo ?hhi _ _ ?h1 ?h2 ?h3 ?h4 ?hx) ?B ?F ?N ?hf ?hk ?hd ?hu ?hp ?_; (case B => assumption); (case X => assumption); (case T => assumption); (case F => k_asm); (case N => k_asm); (case hf => rfl); (case hk => rfl); (case hp => walk_at "M picks"); (case hss => walk_at "M strs"); (case hlo => walk_at "M nat"); (case hhi => walk_at "M nat"); (case h1 => omega); (case h2 => walk_at "M le"); (case h3 => walk_at "M le"); (case h4 => walk_at "M lens"); (case hx => walk_at "M len"); (case hd => ktr_room); (case hu => ktr_units); k_whole); intro v' tl' h' tk' hr' F' N' hn'; (obtain ⟨hv', ht'⟩ := hr'); (subst hv'); (subst ht'); (clear hn'); (try dsimp only [List.nil_append, List.cons_append] at N'); (try k_sweep))
  trivial

example : True := by
  k_with "call ref" => ((with_reducible show wpAny _ _ (call (Value.ref 207) [Value.ref _, Value.ref 30] _) _ _ _); k_dflt (refine' use_fs (rowR_fs ?X ?T _ _ _ _ ?hss ?h3 ?h4) ?B ?F ?N ?hf ?hk ?hd ?hu ?hp ?_; (case B => assumption); (case X => assumption); (case T => assumption); (case F => k_asm); (case N => k_asm); (case hf => rfl); (case hk => rfl); (case hp => walk_at "M picks"); (case hss => walk_at "M strs"); (case h3 => walk_at "M le"); (case h4 => walk_at "M lens"); (case hd => ktr_room); (case hu => ktr_units); k_whole); intro v' tl' h' tk' hr' F' N' hn'; (obtain ⟨D', its', n', hv', hne', hS', ht'⟩ := hr'); (subst hv'); (subst ht'); (have hO' := off_one hn' hne'); (clear hn'); (try dsimp only [List.nil_append, List.cons_append] at N'); (try k_sweep))
  k_with "call ref" => ((with_reducible show wpAny _ _ (call (Value.ref 207) [Value.ref _, Value.ref 48] _) _ _ _); k_dflt (refine' use_fs (rowL_fs ?X ?T _ _ _ _ ?hss ?h3 ?h4) ?B ?F ?N ?hf ?hk ?hd ?hu ?hp ?_; (case B => assumption); (case X => assumption); (case T => assumption); (case F => k_asm); (case N => k_asm); (case hf => rfl); (case hk => rfl); (case hp => walk_at "M picks"); (case hss => walk_at "M strs"); (case h3 => walk_at "M le"); (case h4 => walk_at "M lens"); (case hd => ktr_room); (case hu => ktr_units); k_whole); intro v' tl' h' tk' hr' F' N' hn'; (obtain ⟨D', its', n', hv', hne', hS', ht'⟩ := hr'); (subst hv'); (subst ht'); (have hO' := off_one hn' hne'); (clear hn'); (try dsimp only [List.nil_append, List.cons_append] at N'); (try k_sweep))
  trivial

example : True := by
  k_with "call ref" => ((with_reducible show wpAny _ _ (call (Value.ref 219) _ _) _ _ _); k_dflt (refine' use_fs (turned_fs ?X ?T _ _ _ _ ?hss ?h3) ?B ?F ?N ?hf ?hk ?hd ?hu ?hp ?_; (case B => assumption); (case X => assumption); (case T => assumption); (case F => k_asm); (case N => k_asm); (case hf => rfl); (case hk => rfl); (case hp => walk_at "M picks"); (case hss => walk_at "M strs"); (case h3 => walk_at "M le"); (case hd => ktr_room); (case hu => ktr_units); k_whole); intro v' tl' h' tk' hr' F' N' hn'; (obtain ⟨D', its', n', hv', hne', hS', ht'⟩ := hr'); (subst hv'); (subst ht'); (have hO' := off_one hn' hne'); (clear hn'); (try dsimp only [List.nil_append, List.cons_append] at N'); (try k_sweep))
  trivial


noncomputable section
section
variable {σ : Type} (layS : σ → Str → σ) (takeS : σ → Str × σ)
def pOut (z : Nat) (x : Str) (q : σ) : Str × σ := if x.length = z then ("", layS q x) else if x = "" then takeS q else (x, q)
def pPass (z : Nat) : List Str → σ → List Str × σ
  | [], q => ([], q)
  | x :: xs, q => ((pOut layS takeS z x q).1 :: (pPass z xs (pOut layS takeS z x q).2).1, (pPass z xs (pOut layS takeS z x q).2).2)
theorem pPass_snoc (z : Nat) (x : Str) : ∀ (xs : List Str) (q : σ), pPass layS takeS z (xs ++ [x]) q = ((pPass layS takeS z xs q).1 ++ [(pOut layS takeS z x (pPass layS takeS z xs q).2).1], (pOut layS takeS z x (pPass layS takeS z xs q).2).2)
  | [], q => rfl
  | y :: xs, q => by
    show pPass layS takeS z (y :: (xs ++ [x])) q = _
    unfold pPass
    rw [pPass_snoc z x xs]
    rfl
theorem pPass_len (z : Nat) : ∀ (xs : List Str) (q : σ), (pPass layS takeS z xs q).1.length = xs.length
  | [], _ => rfl
  | x :: xs, q => by unfold pPass; simp [pPass_len z xs]
theorem passTo_eq (z : Nat) (bs : List Str) (q : σ) : ∀ i, i ≤ bs.length → passTo layS takeS (z : Int) bs q i = pPass layS takeS z (bs.take i) q
  | 0, _ => by rw [List.take_zero]; rfl
  | i + 1, h => by
    have e : bs.take (i + 1) = bs.take i ++ [bs.getD i ""] := by
      rw [List.take_add_one, List.getD_eq_getElem?_getD, List.getElem?_eq_getElem (by omega)]; rfl
    rw [e, pPass_snoc, ← passTo_eq z bs q i (by omega)]
    show (if _ then _ else if _ then _ else _) = _
    generalize passTo layS takeS (z : Int) bs q i = r
    unfold pOut
    by_cases c : (bs.getD i "").length = z
    · rw [if_pos (show ((bs.getD i "").length : Int) = z by rw [c]), if_pos c]
    · rw [if_neg (show ¬ ((bs.getD i "").length : Int) = z from fun k => c (Int.ofNat.inj k)), if_neg c]
      by_cases c' : bs.getD i "" = ""
      · rw [if_pos c', if_pos c']
      · rw [if_neg c', if_neg c']
theorem passTo_all (z : Nat) (bs : List Str) (q : σ) {n : Nat} (hn : n = bs.length) : passTo layS takeS (z : Int) bs q n = pPass layS takeS z bs q := by
  subst hn
  rw [passTo_eq _ _ _ _ _ _ (Nat.le_refl _), List.take_length]
end
/-- the row's keeping: like ones behind (R) or ahead (L) -/
def layR (q : List Str) (x : Str) : List Str := q ++ [x]
def layL (q : List Str) (x : Str) : List Str := x :: q
def takeQ : List Str → Str × List Str
  | [] => ("", [])
  | x :: q => (x, q)
def AllLen (z : Nat) (q : List Str) : Prop := ∀ x ∈ q, x.length = z
def nz (x : Str) : Nat := if x = "" then 0 else 1
structure Keeps2 (lay : List Str → Str → List Str) (R : List Str → List Str) : Prop where
  nil : R [] = []
  all : ∀ z q x, AllLen z q → x.length = z → AllLen z (lay q x)
  len : ∀ q x, (lay q x).length = q.length + 1
  back1 : ∀ q x, takeQ (R (lay q x)) = (x, R q)
  back2 : ∀ y q, lay (R q) y = R (y :: q)
theorem keepsR : Keeps2 layR List.reverse where
  nil := rfl
  all := fun z q x h e y hy => by
    rcases List.mem_append.mp hy with hy | hy
    · exact h y hy
    · rw [List.mem_singleton.mp hy]; exact e
  len := fun q x => by simp [layR]
  back1 := fun q x => by simp [layR, takeQ]
  back2 := fun y q => by simp [layR]
theorem keepsL : Keeps2 layL id where
  nil := rfl
  all := fun z q x h e y hy => by
    rcases List.mem_cons.mp hy with rfl | hy
    · exact e
    · exact h y hy
  len := fun q x => by simp [layL]
  back1 := fun q x => rfl
  back2 := fun y q => rfl
theorem str_ne {x : Str} {z : Nat} (h : x.length = z) (hz : 1 ≤ z) : x ≠ "" := by
  rintro rfl
  have : ("" : Str).length = 0 := rfl
  omega
theorem nz_pos {x : Str} (h : x ≠ "") : nz x = 1 := if_neg h
theorem nz_emp : nz "" = 0 := if_pos rfl
section
variable {lay : List Str → Str → List Str} {R : List Str → List Str} (H : Keeps2 lay R)
include H
theorem pOut_all {z : Nat} (hz : 1 ≤ z) {x : Str} {q : List Str} (hq : AllLen z q) : AllLen z (pOut lay takeQ z x q).2 ∧ (pOut lay takeQ z x q).2.length + nz (pOut lay takeQ z x q).1 = q.length + nz x := by
  unfold pOut
  by_cases c : x.length = z
  · rw [if_pos c]
    exact ⟨H.all z q x hq c, by rw [H.len, nz_pos (str_ne c hz)]; rfl⟩
  · rw [if_neg c]
    by_cases c' : x = ""
    · rw [if_pos c', c']
      cases q with
      | nil => exact ⟨hq, rfl⟩
      | cons y q => exact ⟨fun s hs => hq s (.tail _ hs), by show q.length + nz y = _; rw [nz_pos (str_ne (hq y (.head _)) hz), nz_emp]; rfl⟩
    · rw [if_neg c']; exact ⟨hq, rfl⟩
theorem pOut_back {z : Nat} (hz : 1 ≤ z) {x : Str} {q : List Str} (hq : AllLen z q) : pOut lay takeQ z (pOut lay takeQ z x q).1 (R (pOut lay takeQ z x q).2) = (x, R q) := by
  have e0 : ("" : Str).length ≠ z := by
    have : ("" : Str).length = 0 := rfl
    omega
  by_cases c : x.length = z
  · have e : pOut lay takeQ z x q = (("" : Str), lay q x) := if_pos c
    rw [e]
    unfold pOut
    rw [if_neg e0, if_pos rfl, H.back1]
  · by_cases c' : x = ""
    · have e : pOut lay takeQ z x q = takeQ q := by unfold pOut; rw [if_neg c, if_pos c']
      rw [e, c']
      cases q with
      | nil => show pOut lay takeQ z "" (R []) = _; rw [H.nil]; unfold pOut; rw [if_neg e0, if_pos rfl]; rfl
      | cons y q =>
        show pOut lay takeQ z y (R q) = _
        unfold pOut
        rw [if_pos (hq y (.head _)), H.back2]
    · have e : pOut lay takeQ z x q = (x, q) := by unfold pOut; rw [if_neg c, if_neg c']
      rw [e]
      unfold pOut
      rw [if_neg c, if_neg c']
theorem pPass_back {z : Nat} (hz : 1 ≤ z) : ∀ (xs : List Str) (q : List Str), AllLen z q → pPass lay takeQ z (pPass lay takeQ z xs q).1.reverse (R (pPass lay takeQ z xs q).2) = (xs.reverse, R q) ∧ AllLen z (pPass lay takeQ z xs q).2
  | [], q, h => ⟨rfl, h⟩
  | x :: xs, q, h => by
    have ih := pPass_back hz xs _ (pOut_all H hz (x := x) h).1
    refine ⟨?_, ih.2⟩
    show pPass lay takeQ z ((pOut lay takeQ z x q).1 :: (pPass lay takeQ z xs (pOut lay takeQ z x q).2).1).reverse (R (pPass lay takeQ z xs (pOut lay takeQ z x q).2).2) = _
    rw [List.reverse_cons, pPass_snoc, ih.1]
    show (xs.reverse ++ [(pOut lay takeQ z (pOut lay takeQ z x q).1 (R (pOut lay takeQ z x q).2)).1], (pOut lay takeQ z (pOut lay takeQ z x q).1 (R (pOut lay takeQ z x q).2)).2) = _
    rw [pOut_back H hz h, List.reverse_cons]
/-- three walks in lockstep -/
theorem drain : ∀ (m : Nat) (q1 q2 q3 : List Str), AllLen 1 q1 → AllLen 2 q2 → AllLen 3 q3 → q1.length + q2.length + q3.length ≤ m →
    (pPass lay takeQ 1 (List.replicate m ("" : Str)) q1).2 = [] ∧ (pPass lay takeQ 2 (pPass lay takeQ 1 (List.replicate m ("" : Str)) q1).1 q2).2 = [] ∧
    (pPass lay takeQ 3 (pPass lay takeQ 2 (pPass lay takeQ 1 (List.replicate m ("" : Str)) q1).1 q2).1 q3).2 = []
  | 0, q1, q2, q3, _, _, _, h => by
    have e1 : q1 = [] := List.length_eq_zero_iff.mp (by omega)
    have e2 : q2 = [] := List.length_eq_zero_iff.mp (by omega)
    have e3 : q3 = [] := List.length_eq_zero_iff.mp (by omega)
    subst e1; subst e2; subst e3
    exact ⟨rfl, rfl, rfl⟩
  | m + 1, q1, q2, q3, h1, h2, h3, h => by
    have a1 := pOut_all H (z := 1) (by decide) (x := "") h1
    have a2 := pOut_all H (z := 2) (by decide) (x := (pOut lay takeQ 1 "" q1).1) h2
    have a3 := pOut_all H (z := 3) (by decide) (x := (pOut lay takeQ 2 (pOut lay takeQ 1 "" q1).1 q2).1) h3
    have hh : (pOut lay takeQ 1 "" q1).2.length + (pOut lay takeQ 2 (pOut lay takeQ 1 "" q1).1 q2).2.length + (pOut lay takeQ 3 (pOut lay takeQ 2 (pOut lay takeQ 1 "" q1).1 q2).1 q3).2.length ≤ m := by
      have k : 1 ≤ nz (pOut lay takeQ 3 (pOut lay takeQ 2 (pOut lay takeQ 1 "" q1).1 q2).1 q3).1 ∨ q1.length + q2.length + q3.length = 0 := by
        cases q1 with
        | cons y q =>
          have hy := h1 y (.head _)
          have e1 : pOut lay takeQ 1 "" (y :: q) = (y, q) := rfl
          have e2 : pOut lay takeQ 2 y q2 = (y, q2) := by
            unfold pOut; rw [if_neg (by omega), if_neg (str_ne hy (by decide))]
          have e3 : pOut lay takeQ 3 y q3 = (y, q3) := by
            unfold pOut; rw [if_neg (by omega), if_neg (str_ne hy (by decide))]
          rw [e1]; dsimp only; rw [e2]; dsimp only; rw [e3]; dsimp only
          rw [nz_pos (str_ne hy (by decide))]; exact .inl (Nat.le_refl _)
        | nil =>
          have e1 : pOut lay takeQ 1 "" [] = (("" : Str), []) := rfl
          rw [e1]; dsimp only
          cases q2 with
          | cons y q =>
            have hy := h2 y (.head _)
            have e2 : pOut lay takeQ 2 "" (y :: q) = (y, q) := rfl
            have e3 : pOut lay takeQ 3 y q3 = (y, q3) := by
              unfold pOut; rw [if_neg (by omega), if_neg (str_ne hy (by decide))]
            rw [e2]; dsimp only; rw [e3]; dsimp only
            rw [nz_pos (str_ne hy (by decide))]; exact .inl (Nat.le_refl _)
          | nil =>
            have e2 : pOut lay takeQ 2 "" [] = (("" : Str), []) := rfl
            rw [e2]; dsimp only
            cases q3 with
            | cons y q =>
              have hy := h3 y (.head _)
              have e3 : pOut lay takeQ 3 "" (y :: q) = (y, q) := rfl
              rw [e3]; dsimp only
              rw [nz_pos (str_ne hy (by decide))]; exact .inl (Nat.le_refl _)
            | nil => exact .inr rfl
      rw [nz_emp] at a1
      omega
    exact drain m _ _ _ a1.1 a2.1 a3.1 hh
theorem total : ∀ (xs : List Str) (q1 q2 q3 : List Str), AllLen 1 q1 → AllLen 2 q2 → AllLen 3 q3 →
    AllLen 1 (pPass lay takeQ 1 xs q1).2 ∧ AllLen 2 (pPass lay takeQ 2 (pPass lay takeQ 1 xs q1).1 q2).2 ∧ AllLen 3 (pPass lay takeQ 3 (pPass lay takeQ 2 (pPass lay takeQ 1 xs q1).1 q2).1 q3).2 ∧
    (pPass lay takeQ 1 xs q1).2.length + (pPass lay takeQ 2 (pPass lay takeQ 1 xs q1).1 q2).2.length + (pPass lay takeQ 3 (pPass lay takeQ 2 (pPass lay takeQ 1 xs q1).1 q2).1 q3).2.length ≤ q1.length + q2.length + q3.length + xs.length
  | [], q1, q2, q3, h1, h2, h3 => ⟨h1, h2, h3, by show _ ≤ _; exact Nat.le_refl _⟩
  | x :: xs, q1, q2, q3, h1, h2, h3 => by
    have a1 := pOut_all H (z := 1) (by decide) (x := x) h1
    have a2 := pOut_all H (z := 2) (by decide) (x := (pOut lay takeQ 1 x q1).1) h2
    have a3 := pOut_all H (z := 3) (by decide) (x := (pOut lay takeQ 2 (pOut lay takeQ 1 x q1).1 q2).1) h3
    have ih := total xs _ _ _ a1.1 a2.1 a3.1
    refine ⟨ih.1, ih.2.1, ih.2.2.1, Nat.le_trans ih.2.2.2 ?_⟩
    have : nz x ≤ 1 := by unfold nz; split <;> omega
    rw [List.length_cons]
    omega
theorem pPass_app (z : Nat) (ys : List Str) : ∀ (xs : List Str) (q : List Str), pPass lay takeQ z (xs ++ ys) q = ((pPass lay takeQ z xs q).1 ++ (pPass lay takeQ z ys (pPass lay takeQ z xs q).2).1, (pPass lay takeQ z ys (pPass lay takeQ z xs q).2).2)
  | [], q => rfl
  | x :: xs, q => by
    show pPass lay takeQ z (x :: (xs ++ ys)) q = _
    show (_ :: (pPass lay takeQ z (xs ++ ys) _).1, (pPass lay takeQ z (xs ++ ys) _).2) = _
    rw [pPass_app z ys xs]
    rfl
/-- with room at the end all is told -/
theorem ends (ws : List Str) (m : Nat) (hm : ws.length ≤ m) :
    (pPass lay takeQ 1 (ws ++ List.replicate m ("" : Str)) []).2 = [] ∧ (pPass lay takeQ 2 (pPass lay takeQ 1 (ws ++ List.replicate m ("" : Str)) []).1 []).2 = [] ∧
    (pPass lay takeQ 3 (pPass lay takeQ 2 (pPass lay takeQ 1 (ws ++ List.replicate m ("" : Str)) []).1 []).1 []).2 = [] := by
  have t := total H ws [] [] [] (fun _ h => (nomatch h)) (fun _ h => (nomatch h)) (fun _ h => (nomatch h))
  have d := drain H m _ _ _ t.1 t.2.1 t.2.2.1 (by have := t.2.2.2; simp only [List.length_nil] at this; omega)
  simp only [pPass_app H]
  exact d
end
theorem bis_is (p : Nat → Bool) (c : Nat) : ∀ (n lo hi : Nat), hi - lo ≤ n → lo ≤ c → c ≤ hi → (∀ i, lo ≤ i → i < c → p i = false) → (∀ i, c ≤ i → i < hi → p i = true) → bis p n lo hi = c
  | 0, lo, hi, h, h1, h2, _, _ => by unfold bis; omega
  | n + 1, lo, hi, h, h1, h2, h3, h4 => by
    unfold bis
    by_cases l : lo < hi
    · rw [if_pos l]
      by_cases m : (lo + hi) / 2 < c
      · rw [h3 _ (by omega) m, if_neg (by decide)]
        exact bis_is p c n _ _ (by omega) (by omega) h2 (fun i a b => h3 i (by omega) b) h4
      · rw [h4 _ (by omega) (by omega), if_pos rfl]
        exact bis_is p c n _ _ (by omega) h1 (by omega) h3 (fun i a b => h4 i a (by omega))
    · rw [if_neg l]; omega
theorem getD_mid (told row rest : List Str) (i : Nat) (h1 : told.length ≤ i) (h2 : i < told.length + row.length) : (told ++ row ++ rest).getD i "" = row.getD (i - told.length) "" := by
  rw [List.getD_eq_getElem?_getD, List.getD_eq_getElem?_getD, List.append_assoc, List.getElem?_append_right h1, List.getElem?_append_left (by omega)]
theorem getD_memA (A B : List Str) (i : Nat) (h : i < A.length) : (A ++ B).getD i "" ∈ A := by
  rw [List.getD_eq_getElem?_getD, List.getElem?_append_left h, List.getElem?_eq_getElem h]
  exact List.getElem_mem h
theorem getD_memB (A B : List Str) (i : Nat) (h : A.length ≤ i) (h2 : i < A.length + B.length) : (A ++ B).getD i "" ∈ B := by
  rw [List.getD_eq_getElem?_getD, List.getElem?_append_right h, List.getElem?_eq_getElem (by omega)]
  exact List.getElem_mem _
theorem bisR_is (s : Nat) (told A B rest : List Str) (hA : ∀ x ∈ A, x.length ≤ s) (hB : ∀ x ∈ B, s < x.length) : bisR (told ++ (A ++ B) ++ rest) (s : Int) told.length (told.length + (A ++ B).length) = told.length + A.length := by
  unfold bisR
  refine bis_is _ _ _ _ _ (Nat.le_refl _) (by omega) (by rw [List.length_append]; omega) (fun i a b => ?_) (fun i a b => ?_)
  · have e := getD_mid told (A ++ B) rest i a (by rw [List.length_append]; omega)
    have := hA _ (getD_memA A B (i - told.length) (by omega))
    rw [e]; exact decide_eq_false (by omega)
  · have e := getD_mid told (A ++ B) rest i (by omega) b
    rw [List.length_append] at b
    have := hB _ (getD_memB A B (i - told.length) (by omega) (by omega))
    rw [e]; exact decide_eq_true (by omega)
theorem bisL_is (s : Nat) (told A B rest : List Str) (hA : ∀ x ∈ A, x.length < s) (hB : ∀ x ∈ B, s ≤ x.length) : bisL (told ++ (A ++ B) ++ rest) (s : Int) told.length (told.length + (A ++ B).length) = told.length + A.length := by
  unfold bisL
  refine bis_is _ _ _ _ _ (Nat.le_refl _) (by omega) (by rw [List.length_append]; omega) (fun i a b => ?_) (fun i a b => ?_)
  · have e := getD_mid told (A ++ B) rest i a (by rw [List.length_append]; omega)
    have := hA _ (getD_memA A B (i - told.length) (by omega))
    rw [e, decide_eq_true (by omega)]; rfl
  · have e := getD_mid told (A ++ B) rest i (by omega) b
    rw [List.length_append] at b
    have := hB _ (getD_memB A B (i - told.length) (by omega) (by omega))
    rw [e, decide_eq_false (by omega)]; rfl
theorem delL_at {a b : List Str} {x : Str} {n : Nat} (h : n = a.length) : delL (a ++ x :: b) n = a ++ b := by
  subst h; unfold delL; simp
theorem insL_at {a b : List Str} {x : Str} {n : Nat} (h : n = a.length) : insL (a ++ b) n x = a ++ x :: b := by
  subst h; unfold insL; simp
theorem getD_at {a b : List Str} {x : Str} {n : Nat} (h : n = a.length) : (a ++ x :: b).getD n "" = x := by
  subst h; simp
/-- how the row's placing goes with the keeping -/
def Goes (bi : List Str → Int → Nat → Nat → Nat) (lay : List Str → Str → List Str) : Prop :=
  ∀ (s : Nat) (x : Str) (A0 q : List Str), AllLen s q → (∀ a ∈ A0, a.length < s) → ∃ C1 C2, A0 ++ q = C1 ++ C2 ∧ A0 ++ lay q x = C1 ++ x :: C2 ∧
    ∀ B told rest : List Str, (∀ b ∈ B, s < b.length) → bi (told ++ ((A0 ++ q) ++ B) ++ rest) (s : Int) told.length (told.length + ((A0 ++ q) ++ B).length) = told.length + C1.length
theorem goesR : Goes bisR layR := by
  intro s x A0 q hq hA
  have hle : ∀ y ∈ A0 ++ q, y.length ≤ s := fun y hy => by
    rcases List.mem_append.mp hy with hy | hy
    · exact Nat.le_of_lt (hA y hy)
    · exact Nat.le_of_eq (hq y hy)
  refine ⟨A0 ++ q, [], by simp, by simp [layR], fun B told rest hB => ?_⟩
  generalize A0 ++ q = A at hle ⊢
  exact bisR_is s told A B rest hle hB
theorem goesL : Goes bisL layL := by
  intro s x A0 q hq hA
  refine ⟨A0, q, rfl, rfl, fun B told rest hB => ?_⟩
  have hge : ∀ y ∈ q ++ B, s ≤ y.length := fun y hy => by
    rcases List.mem_append.mp hy with hy | hy
    · exact Nat.le_of_eq (hq y hy).symm
    · exact Nat.le_of_lt (hB y hy)
  rw [List.append_assoc A0 q B]
  generalize q ++ B = C at hge ⊢
  exact bisL_is s told A0 C rest hA hge
theorem turn_word {bi : List Str → Int → Nat → Nat → Nat} {lay : List Str → Str → List Str} (G : Goes bi lay) (s : Nat) (x : Str) (A0 q B told rest : List Str) (hx : x.length = s) (hs : 1 ≤ s) (hq : AllLen s q) (hA : ∀ a ∈ A0, a.length < s) (hB : ∀ b ∈ B, s < b.length) :
    rowTurn bi told.length (told ++ ((A0 ++ q) ++ B) ++ x :: rest, ((A0 ++ q) ++ B).length) = (told ++ [(takeQ B).1] ++ ((A0 ++ lay q x) ++ (takeQ B).2) ++ rest, ((A0 ++ lay q x) ++ (takeQ B).2).length) := by
  obtain ⟨C1, C2, e1, e2, hbi⟩ := G s x A0 q hq hA
  have hA' : ∀ y ∈ A0 ++ q, y.length ≤ s := fun y hy => by
    rcases List.mem_append.mp hy with hy | hy
    · exact Nat.le_of_lt (hA y hy)
    · exact Nat.le_of_eq (hq y hy)
  have g0 : (told ++ ((A0 ++ q) ++ B) ++ x :: rest).getD (told.length + ((A0 ++ q) ++ B).length) "" = x := getD_at List.length_append.symm
  have d0 : delL (told ++ ((A0 ++ q) ++ B) ++ x :: rest) (told.length + ((A0 ++ q) ++ B).length) = told ++ ((A0 ++ q) ++ B) ++ rest := delL_at List.length_append.symm
  have b0 := bisR_is s told (A0 ++ q) B rest hA' hB
  unfold rowTurn
  dsimp only
  rw [g0, d0, hx, b0, if_pos (str_ne hx hs)]
  cases B with
  | nil =>
    rw [if_neg (by rw [List.length_append]; simp)]
    have := hbi [] told rest (fun _ h => (nomatch h))
    rw [this, e1, e2]
    have i0 : insL (told ++ (C1 ++ C2 ++ []) ++ rest) (told.length + C1.length) x = (told ++ C1) ++ x :: (C2 ++ rest) := by
      rw [show told ++ (C1 ++ C2 ++ []) ++ rest = (told ++ C1) ++ (C2 ++ rest) by simp]
      exact insL_at List.length_append.symm
    rw [i0]
    have i1 : insL ((told ++ C1) ++ x :: (C2 ++ rest)) told.length "" = told ++ ("" : Str) :: (C1 ++ x :: (C2 ++ rest)) := by
      rw [List.append_assoc]; exact insL_at rfl
    rw [i1]
    refine Prod.ext ?_ ?_
    · show _ = told ++ [("" : Str)] ++ (C1 ++ x :: C2 ++ []) ++ rest
      simp
    · show _ = (C1 ++ x :: C2 ++ ([] : List Str)).length
      simp; omega
  | cons b B =>
    rw [if_pos (by rw [List.length_append (as := A0 ++ q), List.length_cons]; omega)]
    have d1 : delL (told ++ ((A0 ++ q) ++ b :: B) ++ rest) (told.length + (A0 ++ q).length) = told ++ ((A0 ++ q) ++ B) ++ rest := by
      rw [show told ++ ((A0 ++ q) ++ b :: B) ++ rest = (told ++ (A0 ++ q)) ++ b :: (B ++ rest) by simp, delL_at List.length_append.symm]
      simp
    have g1 : (told ++ ((A0 ++ q) ++ b :: B) ++ rest).getD (told.length + (A0 ++ q).length) "" = b := by
      rw [show told ++ ((A0 ++ q) ++ b :: B) ++ rest = (told ++ (A0 ++ q)) ++ b :: (B ++ rest) by simp]
      exact getD_at List.length_append.symm
    rw [d1, g1]
    have l1 : told.length + (((A0 ++ q) ++ b :: B).length - 1) = told.length + ((A0 ++ q) ++ B).length := by simp only [List.length_append, List.length_cons]; omega
    have := hbi B told rest (fun y hy => hB y (.tail _ hy))
    rw [l1, this, e1, e2]
    have i0 : insL (told ++ (C1 ++ C2 ++ B) ++ rest) (told.length + C1.length) x = (told ++ C1) ++ x :: (C2 ++ B ++ rest) := by
      rw [show told ++ (C1 ++ C2 ++ B) ++ rest = (told ++ C1) ++ (C2 ++ B ++ rest) by simp]
      exact insL_at List.length_append.symm
    rw [i0]
    have i1 : insL ((told ++ C1) ++ x :: (C2 ++ B ++ rest)) told.length b = told ++ b :: (C1 ++ x :: (C2 ++ B ++ rest)) := by
      rw [List.append_assoc]; exact insL_at rfl
    rw [i1]
    refine Prod.ext ?_ ?_
    · show _ = told ++ [b] ++ (C1 ++ x :: C2 ++ B) ++ rest
      simp
    · show _ = (C1 ++ x :: C2 ++ B).length
      simp; omega
theorem turn_empty {bi : List Str → Int → Nat → Nat → Nat} (B told rest : List Str) : rowTurn bi told.length (told ++ B ++ ("" : Str) :: rest, B.length) = (told ++ [(takeQ B).1] ++ (takeQ B).2 ++ rest, (takeQ B).2.length) := by
  have g0 : (told ++ B ++ ("" : Str) :: rest).getD (told.length + B.length) "" = "" := getD_at List.length_append.symm
  have d0 : delL (told ++ B ++ ("" : Str) :: rest) (told.length + B.length) = told ++ B ++ rest := delL_at List.length_append.symm
  unfold rowTurn
  dsimp only
  rw [g0, d0, if_neg (fun h => h rfl)]
  cases B with
  | nil =>
    rw [if_pos (show ([] : List Str).length = 0 from rfl)]
    refine Prod.ext ?_ rfl
    show insL (told ++ [] ++ rest) told.length ("" : Str) = told ++ [("" : Str)] ++ [] ++ rest
    rw [List.append_nil, insL_at rfl]; simp
  | cons b B =>
    rw [if_neg (by simp)]
    refine Prod.ext ?_ ?_
    · show told ++ b :: B ++ rest = told ++ [b] ++ B ++ rest
      simp
    · show (b :: B).length - 1 = B.length
      simp
section
variable {bi : List Str → Int → Nat → Nat → Nat} {lay : List Str → Str → List Str} {R : List Str → List Str} (H : Keeps2 lay R) (G : Goes bi lay)
theorem pOut_skip {z : Nat} {x : Str} {q : List Str} (h : x.length ≠ z) (h' : x ≠ "") : pOut lay takeQ z x q = (x, q) := by unfold pOut; rw [if_neg h, if_neg h']
theorem pOut_lay {z : Nat} {x : Str} {q : List Str} (h : x.length = z) : pOut lay takeQ z x q = (("" : Str), lay q x) := by unfold pOut; rw [if_pos h]
theorem pOut_emp {z : Nat} {q : List Str} (hz : 1 ≤ z) : pOut lay takeQ z "" q = takeQ q := by
  unfold pOut
  rw [if_neg (by have : ("" : Str).length = 0 := rfl
                 omega), if_pos rfl]
theorem takeQ_cons (x : Str) (q : List Str) : takeQ (x :: q) = (x, q) := rfl
include G in
theorem turn_is (x : Str) (q1 q2 q3 told rest : List Str) (hx : x.length ≤ 3) (h1 : AllLen 1 q1) (h2 : AllLen 2 q2) (h3 : AllLen 3 q3) :
    rowTurn bi told.length (told ++ (q1 ++ q2 ++ q3) ++ x :: rest, (q1 ++ q2 ++ q3).length) =
      (told ++ [(pOut lay takeQ 3 (pOut lay takeQ 2 (pOut lay takeQ 1 x q1).1 q2).1 q3).1] ++ ((pOut lay takeQ 1 x q1).2 ++ (pOut lay takeQ 2 (pOut lay takeQ 1 x q1).1 q2).2 ++ (pOut lay takeQ 3 (pOut lay takeQ 2 (pOut lay takeQ 1 x q1).1 q2).1 q3).2) ++ rest,
        ((pOut lay takeQ 1 x q1).2 ++ (pOut lay takeQ 2 (pOut lay takeQ 1 x q1).1 q2).2 ++ (pOut lay takeQ 3 (pOut lay takeQ 2 (pOut lay takeQ 1 x q1).1 q2).1 q3).2).length) := by
  have two : ∀ q, (pOut lay takeQ 3 (takeQ q2).1 q).1 = (takeQ (q2 ++ q)).1 ∧ (takeQ q2).2 ++ (pOut lay takeQ 3 (takeQ q2).1 q).2 = (takeQ (q2 ++ q)).2 := by
    intro q
    cases q2 with
    | nil => rw [show takeQ [] = (("" : Str), []) from rfl]; dsimp only; rw [pOut_emp (by decide)]; exact ⟨rfl, rfl⟩
    | cons y q' =>
      have hy := h2 y (.head _)
      rw [takeQ_cons]; dsimp only; rw [pOut_skip (by omega) (str_ne hy (by decide))]
      exact ⟨rfl, rfl⟩
  by_cases e : x = ""
  · subst e
    have k := turn_empty (bi := bi) (q1 ++ q2 ++ q3) told rest
    rw [k]
    have : (pOut lay takeQ 3 (pOut lay takeQ 2 (pOut lay takeQ 1 "" q1).1 q2).1 q3).1 = (takeQ (q1 ++ q2 ++ q3)).1 ∧
        (pOut lay takeQ 1 "" q1).2 ++ (pOut lay takeQ 2 (pOut lay takeQ 1 "" q1).1 q2).2 ++ (pOut lay takeQ 3 (pOut lay takeQ 2 (pOut lay takeQ 1 "" q1).1 q2).1 q3).2 = (takeQ (q1 ++ q2 ++ q3)).2 := by
      rw [pOut_emp (by decide)]
      cases q1 with
      | nil =>
        rw [show takeQ [] = (("" : Str), []) from rfl]; dsimp only; rw [pOut_emp (by decide)]
        simpa using two q3
      | cons y q' =>
        have hy := h1 y (.head _)
        rw [takeQ_cons]; dsimp only; rw [pOut_skip (q := q2) (by omega) (str_ne hy (by decide))]; dsimp only; rw [pOut_skip (q := q3) (by omega) (str_ne hy (by decide))]
        exact ⟨rfl, rfl⟩
    rw [this.1, this.2]
  · have hp : 1 ≤ x.length := by
      rcases Nat.eq_zero_or_pos x.length with h | h
      · refine absurd ?_ e
        cases x with
        | mk c =>
          have : c = #[] := Array.eq_empty_of_size_eq_zero h
          rw [this]; rfl
      · exact h
    rcases (show x.length = 1 ∨ x.length = 2 ∨ x.length = 3 by omega) with c | c | c
    · rw [pOut_lay c]; dsimp only; rw [pOut_emp (by decide)]
      have k := turn_word G 1 x [] q1 (q2 ++ q3) told rest c (by decide) h1 (fun _ h => (nomatch h)) (fun y hy => by
        rcases List.mem_append.mp hy with hy | hy
        · rw [h2 y hy]; decide
        · rw [h3 y hy]; decide)
      rw [List.nil_append, List.nil_append, ← List.append_assoc q1] at k
      rw [k, (two q3).1, List.append_assoc (lay q1 x), (two q3).2]
    · rw [pOut_skip (q := q1) (by omega) e]; dsimp only; rw [pOut_lay c]; dsimp only; rw [pOut_emp (by decide)]
      exact turn_word G 2 x q1 q2 q3 told rest c (by decide) h2 (fun y hy => by rw [h1 y hy]; decide) (fun y hy => by rw [h3 y hy]; decide)
    · rw [pOut_skip (q := q1) (by omega) e]; dsimp only; rw [pOut_skip (q := q2) (by omega) e]; dsimp only; rw [pOut_lay c]
      have k := turn_word G 3 x (q1 ++ q2) q3 [] told rest c (by decide) h3 (fun y hy => by
        rcases List.mem_append.mp hy with hy | hy
        · rw [h1 y hy]; decide
        · rw [h2 y hy]; decide) (fun _ h => (nomatch h))
      rw [List.append_nil] at k
      rw [k]
      rw [show takeQ [] = (("" : Str), []) from rfl, List.append_nil]
include H G in
theorem row_run (bs : List Str) : ∀ (xs told q1 q2 q3 : List Str) (k : Nat), told.length = k → (∀ x ∈ xs, x.length ≤ 3) → AllLen 1 q1 → AllLen 2 q2 → AllLen 3 q3 →
    rowFrom bi bs k = (told ++ (q1 ++ q2 ++ q3) ++ xs, (q1 ++ q2 ++ q3).length) →
    (rowFrom bi bs (k + xs.length)).1 = told ++ (pPass lay takeQ 3 (pPass lay takeQ 2 (pPass lay takeQ 1 xs q1).1 q2).1 q3).1 ++ ((pPass lay takeQ 1 xs q1).2 ++ (pPass lay takeQ 2 (pPass lay takeQ 1 xs q1).1 q2).2 ++ (pPass lay takeQ 3 (pPass lay takeQ 2 (pPass lay takeQ 1 xs q1).1 q2).1 q3).2)
  | [], told, q1, q2, q3, k, _, _, _, _, _, h => by
    rw [show k + ([] : List Str).length = k from rfl, h]
    show told ++ (q1 ++ q2 ++ q3) ++ [] = told ++ [] ++ (q1 ++ q2 ++ q3)
    simp
  | x :: xs, told, q1, q2, q3, k, hk, hx, h1, h2, h3, h => by
    have a1 := (pOut_all H (z := 1) (by decide) (x := x) h1).1
    have a2 := (pOut_all H (z := 2) (by decide) (x := (pOut lay takeQ 1 x q1).1) h2).1
    have a3 := (pOut_all H (z := 3) (by decide) (x := (pOut lay takeQ 2 (pOut lay takeQ 1 x q1).1 q2).1) h3).1
    have t := turn_is G x q1 q2 q3 told xs (hx x (.head _)) h1 h2 h3
    rw [← h, hk] at t
    change rowFrom bi bs (k + 1) = _ at t
    have ih := row_run bs xs _ _ _ _ (k + 1) (by rw [List.length_append, hk]; rfl) (fun y hy => hx y (.tail _ hy)) a1 a2 a3 t
    rw [show k + (x :: xs).length = k + 1 + xs.length by rw [List.length_cons]; omega, ih]
    show _ = told ++ _ :: _ ++ _
    rw [List.append_assoc told, List.singleton_append]
    rfl
include H G in
/-- the one walk does just what the three do -/
theorem row_three (ws : List Str) (m : Nat) (hm : ws.length ≤ m) (hw : ∀ x ∈ ws, x.length ≤ 3) {n : Nat} (hn : n = (ws ++ List.replicate m ("" : Str)).length) :
    (rowFrom bi (ws ++ List.replicate m ("" : Str)) n).1 = (pPass lay takeQ 3 (pPass lay takeQ 2 (pPass lay takeQ 1 (ws ++ List.replicate m ("" : Str)) []).1 []).1 []).1 := by
  have e := ends H ws m hm
  have r := row_run H G (ws ++ List.replicate m ("" : Str)) (ws ++ List.replicate m ("" : Str)) [] [] [] [] 0 rfl (fun x hx => by
    rcases List.mem_append.mp hx with hx | hx
    · exact hw x hx
    · rw [(List.mem_replicate.mp hx).2]; decide) (fun _ h => (nomatch h)) (fun _ h => (nomatch h)) (fun _ h => (nomatch h)) rfl
  rw [Nat.zero_add, ← hn] at r
  rw [r, e.1, e.2.1, e.2.2]
  simp
include H in
theorem walks_there (ws : List Str) (m : Nat) (hm : ws.length ≤ m) :
    walksTo lay takeQ [1, 2, 3] (ws ++ List.replicate m ("" : Str)) [] 3 = ((pPass lay takeQ 3 (pPass lay takeQ 2 (pPass lay takeQ 1 (ws ++ List.replicate m ("" : Str)) []).1 []).1 []).1, []) := by
  have e := ends H ws m hm
  generalize ws ++ List.replicate m ("" : Str) = bs at e ⊢
  show passTo lay takeQ ((3 : Nat) : Int) (passTo lay takeQ ((2 : Nat) : Int) (passTo lay takeQ ((1 : Nat) : Int) bs [] bs.length).1 (passTo lay takeQ ((1 : Nat) : Int) bs [] bs.length).2 bs.length).1 (passTo lay takeQ ((2 : Nat) : Int) (passTo lay takeQ ((1 : Nat) : Int) bs [] bs.length).1 (passTo lay takeQ ((1 : Nat) : Int) bs [] bs.length).2 bs.length).2 bs.length = _
  rw [passTo_all (n := bs.length) lay takeQ 1 bs [] rfl, e.1, passTo_all (n := bs.length) lay takeQ 2 _ [] (by rw [pPass_len]), e.2.1, passTo_all (n := bs.length) lay takeQ 3 _ [] (by rw [pPass_len, pPass_len])]
  exact Prod.ext rfl e.2.2
include H in
theorem walks_back (ws : List Str) (m : Nat) (hm : ws.length ≤ m) :
    walksTo lay takeQ [3, 2, 1] (pPass lay takeQ 3 (pPass lay takeQ 2 (pPass lay takeQ 1 (ws ++ List.replicate m ("" : Str)) []).1 []).1 []).1.reverse [] 3 = ((ws ++ List.replicate m ("" : Str)).reverse, []) := by
  have e := ends H ws m hm
  generalize ws ++ List.replicate m ("" : Str) = bs at e ⊢
  have nn : ∀ z, AllLen z [] := fun _ _ h => (nomatch h)
  have b1 := (pPass_back H (z := 1) (by decide) bs [] (nn _)).1
  have b2 := (pPass_back H (z := 2) (by decide) (pPass lay takeQ 1 bs []).1 [] (nn _)).1
  have b3 := (pPass_back H (z := 3) (by decide) (pPass lay takeQ 2 (pPass lay takeQ 1 bs []).1 []).1 [] (nn _)).1
  rw [e.1, H.nil] at b1
  rw [e.2.1, H.nil] at b2
  rw [e.2.2, H.nil] at b3
  have l3 : (pPass lay takeQ 3 (pPass lay takeQ 2 (pPass lay takeQ 1 bs []).1 []).1 []).1.reverse.length = bs.length := by rw [List.length_reverse, pPass_len, pPass_len, pPass_len]
  generalize (pPass lay takeQ 3 (pPass lay takeQ 2 (pPass lay takeQ 1 bs []).1 []).1 []).1.reverse = r at b3 l3 ⊢
  show passTo lay takeQ ((1 : Nat) : Int) (passTo lay takeQ ((2 : Nat) : Int) (passTo lay takeQ ((3 : Nat) : Int) r [] r.length).1 (passTo lay takeQ ((3 : Nat) : Int) r [] r.length).2 r.length).1 (passTo lay takeQ ((2 : Nat) : Int) (passTo lay takeQ ((3 : Nat) : Int) r [] r.length).1 (passTo lay takeQ ((3 : Nat) : Int) r [] r.length).2 r.length).2 r.length = _
  rw [passTo_all (n := r.length) lay takeQ 3 r [] rfl, b3]; dsimp only
  rw [passTo_all (n := r.length) lay takeQ 2 _ [] (by rw [List.length_reverse, pPass_len, pPass_len, l3]), b2]; dsimp only
  rw [passTo_all (n := r.length) lay takeQ 1 _ [] (by rw [List.length_reverse, pPass_len, l3]), b1]
end
end

noncomputable section
def accD (w : World) (k t : Tok) : List DictEntry := [⟨PyData.keyHash w.params "_initial_size", .str "_initial_size" k, .int 0 t⟩]
abbrev accObj (dx : Addr) (vs : List Value) (n : Nat) : Obj := accOf 137 dx vs.toArray n
abbrev tupObj (a b : Str) (ta tb : Tok) : Obj := { cls := .type "tuple", data := .seq #[.str a ta, .str b tb] }
example : True := by
  k_with "getMethod ref" => (k_here; k_dflt (refine' method_bi ?F ?X ?I ?g ?k ?f ?t ?l ?_; (case F => k_asm); (case X => k_asm); (case I => exact inst_acc (by k_asm) (by k_mem) (by k_mem)); (case g => k_is); (case k => k_is); (case f => k_is); (case t => first | exact ty_append | exact ty_pop); (case l => with_unfolding_all k_get); k_whole))
  k_with "getMethod ref" => (k_here; k_dflt (refine' method_in ?F ?X ?I ?g ?k ?f ?t ?l ?_; (case F => k_asm); (case X => k_asm); (case I => exact inst_acc (by k_asm) (by k_mem) (by k_mem)); (case g => k_is); (case k => k_is); (case f => k_is); (case t => k_is); (case l => with_unfolding_all k_get); k_whole))
  k_with "call builtin:list.append" => (k_here; (with_reducible show wpAny _ _ (call (Value.builtin _) [Value.ref _, _]) _ _ _); k_dflt (refine' append_acc ?F ?X ?N ?s ?l ?U ?_; (case F => k_asm); (case X => k_asm); (case N => k_asm); (case U => k_upd); (case s => (show mroIn _ _ _ = _; k_is)); (case l => walk_at "M le"); k_whole); intro h' F' N'; (try k_sweep))
  trivial
theorem apush_fs (X : (Kf w.params).In b₀) (T : Top topProg loose mean mg mb b₀) (x dx : Addr) (k0 t0 : Tok) (nd n : Nat) (vs : List Value) (hv : vs.length ≤ 900) (h1 : x ≠ dx) (a b : Str) (ta tb : Tok) :
    FS P1 w b₀ 6 60 (.ref 81) ⟨[.ref x, .str a ta, .str b tb], []⟩ [(x, accObj dx vs n), (dx, dictOf (accD w k0 t0) nd)]
      (fun _ tl' => ∃ p, x ≠ p ∧ dx ≠ p ∧ tl' = [(p, tupObj a b ta tb), (x, accObj dx (vs ++ [.ref p]) (n + 1)), (dx, dictOf (accD w k0 t0) nd)]) := by
  refine' enter (binds := [("self", .ref x), ("fws", .str a ta), ("string", .str b tb)]) X T ?ho ?hcd ?hb ?hl ?h ?h1 ?h2 ?h3 ?h4 ?h5
  walk_at "M enter"
  intro dp un gd fr s g L' h₁ hd hu F N B st Xg Tg
  (conv in (PySem.execs _ _) => arg 1; whnf)
  (try dsimp only)
  unfold accD at *
  k_steps
  unfold Stop
  exact ⟨_, _, _, _, _, rfl, by assumption, by assumption, _, Nat.ne_of_lt (by omega), Nat.ne_of_lt (by omega), rfl⟩
example : True := by
  k_with "M enterS" => (
  (case ho => k_is)
  (case hcd => k_is)
  (case hb => first | exact fun s Xs => BindsTo.of_eq rfl | exact fun s Xs => binds_K Xs rfl (by k_is) rfl rfl rfl)
  (case hl => exact locs rfl)
  (case h1 => decide)
  (case h2 => decide)
  (case h3 => exact rfl)
  (case h4 => exact rfl)
  (case h5 => exact rfl))
  k_with "wpAt" => (ks_step "attributeBase Call"; k_here; k_dflt (refine ks_node (by k_asm) (by k_asm) (by k_asm) (by k_asm) (by k_is) (by rfl) (by rfl) (inst_acc (by k_asm) (by k_mem) (by k_mem)) (by k_is) (by rfl) (by first | rfl | decide +kernel) (by k_is) (by k_is) (by k_is) (by k_is) (by decide) (by rfl) (by rfl) (by rfl) (by rfl) (by decide +kernel) (by first | boot_by_name | rfl | kernel_rfl) ?_; intro so' h' F' N' l1; (try k_lt l1)))
  k_with "getMethod ref" => (k_here; k_dflt (refine' super_bi ?R ?F ?X ?N ?so ?I ?o ?s ?m ?n ?_; (case F => k_asm); (case X => k_asm); (case N => k_asm); (case so => k_mem); (case I => exact inst_acc (by k_asm) (by k_mem) (by k_mem)); (case o => k_is); (case s => (show mroIn _ _ _ = _; k_is)); (case m => ks_is); (case R => first | exact reads_pop | exact reads_len | exact reads_init); (case n => decide); k_whole); intro q' h' F' N' l1; (try k_lt l1); (try dsimp only))
  k_with "call ref" => (k_here; (with_reducible show wpAny _ _ (call (Value.ref _) []) _ _ _); k_dflt (refine' call_bound (id := "list.__len__") ?N ?q ?b ?p ?c ?_; (case N => k_asm); (case q => k_mem); (case b => exact .inr rfl); (case p => decide +kernel); (case c => (intro Q' E' q'; exact wpAny_of_eq (ck_len _) q')); (refine' len_acc ?N ?m ?_; (case N => k_asm); (case m => k_mem); k_whole)); intro t' tk')
  trivial
theorem K_in {K : Frag} {h₀ h : Heap} {L : Addr} {m : Str → Option Value} (F : Fr h₀ L h m) (X : K.In h₀) : K.In h := X.keeps F.keep
theorem keep_bound {h : Heap} {q x : Addr} {bt id : String} (hq : h.get? q = some (boundOf bt id x)) (hb : bt = "builtin_function_or_method" ∨ bt = "method-wrapper") : KeepOk (.ref q) h := fun M => ⟨.machine, .inr (.inl rfl), by
  unfold keeperOf
  refine (Looks.ld (part := none) hq).andThen ?_
  rcases hb with rfl | rfl
  · exact Looks.of_pure (by kernel_rfl)
  · exact Looks.of_pure (by kernel_rfl)⟩
example : True := by
  k_with "callWith ref" => (k_here; refine' callWith_0 (keep_bound (News.get (by k_asm) (by k_mem)) (by first | exact .inr rfl | exact .inl rfl | fail)) ?_)
  trivial
theorem count_fs (X : (Kf w.params).In b₀) (T : Top topProg loose mean mg mb b₀) (x dx : Addr) (k0 t0 : Tok) (nd n : Nat) (vs : List Value) (hv : vs.length ≤ 900) (h1 : x ≠ dx) :
    FS P1 w b₀ 6 60 (.ref 134) ⟨[.ref x], []⟩ [(x, accObj dx vs n), (dx, dictOf (accD w k0 t0) nd)]
      (fun v tl' => (∃ t, v = .int vs.length t) ∧ tl' = [(x, accObj dx vs n), (dx, dictOf (accD w k0 t0) nd)]) := by
  refine' enterS (binds := [("self", .ref x)]) X T ?ho ?hcd ?hb ?hl ?h ?h1 ?h2 ?h3 ?h4 ?h5
  walk_at "M enterS"
  intro dp un gd fr s g L' h₁ hd hu F N B st Xg Tg lN
  (conv in (PySem.execs _ _) => arg 1; whnf)
  (try dsimp only)
  unfold accD at *
  k_steps
  unfold Stop
  rename Fr _ _ _ _ => F1
  rename News _ _ _ _ => N1
  exact ⟨_, _, _, _, _, rfl, F1, fun p hp => N1 p (.tail _ (.tail _ hp)), ⟨_, rfl⟩, rfl⟩
theorem count_sum : True := trivial
example : True := by
  k_with "call ref" => ((with_reducible show wpAny _ _ (call (Value.ref 134) _ []) _ _ _); k_dflt (refine' use_fs (count_fs ?X ?T _ _ _ _ _ _ _ ?v ?n) ?B ?F ?N ?hf ?hk ?hd ?hu ?hp ?_; (case B => assumption); (case X => assumption); (case T => assumption); (case F => k_asm); (case N => k_asm); (case hf => rfl); (case hk => rfl); (case hp => walk_at "M picks"); (case v => ((try simp only [List.length_append, List.length_cons, List.length_nil]); omega)); (case n => walk_at "M ne"); (case hd => ktr_room); (case hu => ktr_units); k_whole); intro v' tl' h' tk' hr' F' N' hn'; (obtain ⟨⟨tz', hz'⟩, hy'⟩ := hr'); (subst hz'); (subst hy'); (clear hn'); (try dsimp only [List.nil_append, List.cons_append] at N'); (try k_sweep))
  k_with "wpAt" => (dsimp only; ks_step "execs cons"; refine ks_wpAt_execs_cons ?_)
  k_with "wpAt" => (ks_step "eval Call"; refine Stop.out ?_)
  trivial
theorem apop_fs (X : (Kf w.params).In b₀) (T : Top topProg loose mean mg mb b₀) (x dx p : Addr) (k0 t0 : Tok) (nd n : Nat) (vs : List Value) (hv : vs.length ≤ 800) (h1 : x ≠ dx) (h2 : x ≠ p) (h3 : dx ≠ p) (a b : Str) (ta tb : Tok) :
    FS P1 w b₀ 8 80 (.ref 97) ⟨[.ref x], []⟩ [(x, accObj dx (vs ++ [.ref p]) n), (dx, dictOf (accD w k0 t0) nd)]
      (fun v tl' => v = .ref p ∧ tl' = [(x, accObj dx vs (n + 1)), (dx, dictOf (accD w k0 t0) nd)]) := by
  refine' enterS (binds := [("self", .ref x)]) X T ?ho ?hcd ?hb ?hl ?h ?h1 ?h2 ?h3 ?h4 ?h5
  walk_at "M enterS"
  intro dp un gd fr s g L' h₁ hd hu F N B st Xg Tg lN
  (conv in (PySem.execs _ _) => arg 1; whnf)
  (try dsimp only)
  k_steps
  · unfold Stop
    rename _ = (0 : Int) => c1
    simp at c1
    omega
  · unfold Stop
    refine ks_wpAt_MethodCall ?_
    k_steps
    rename Fr _ _ _ _ => F1
    rename News _ _ _ _ => N1
    refine' call_bound N1 (.head _) (.inl rfl) ?kp ?kc ?_
    case kp => decide +kernel
    case kc =>
      intro Q' E' q'
      refine' ck_pop (C := 137) (K_in F1 Xg) ?c1 ?n1 ?t1 ?m1 (N1.get (by k_mem)) rfl ?d1 q'
      case c1 => k_is
      case n1 => rfl
      case t1 => k_is
      case m1 => (show mroIn _ _ _ = _; k_is)
      case d1 => intro c e; cases e
    refine' pop_acc F1 Xg N1 ?s2 ?l2 ?U2 ?_
    case U2 => k_upd
    case s2 => (show mroIn _ _ _ = _; k_is)
    case l2 => omega
    intro h' F' N'
    exact ⟨_, _, _, _, _, rfl, F', fun p hp => N' p (.tail _ (.tail _ hp)), rfl, rfl⟩
theorem apop0_fs (X : (Kf w.params).In b₀) (T : Top topProg loose mean mg mb b₀) (x dx : Addr) (k0 t0 : Tok) (nd n : Nat) (h1 : x ≠ dx) :
    FS P1 w b₀ 8 80 (.ref 97) ⟨[.ref x], []⟩ [(x, accObj dx [] n), (dx, dictOf (accD w k0 t0) nd)]
      (fun v tl' => ∃ p ta tb, v = .ref p ∧ x ≠ p ∧ dx ≠ p ∧ tl' = [(p, tupObj "" "" ta tb), (x, accObj dx [] n), (dx, dictOf (accD w k0 t0) nd)]) := by
  refine' enterS (binds := [("self", .ref x)]) X T ?ho ?hcd ?hb ?hl ?h ?h1 ?h2 ?h3 ?h4 ?h5
  walk_at "M enterS"
  intro dp un gd fr s g L' h₁ hd hu F N B st Xg Tg lN
  (conv in (PySem.execs _ _) => arg 1; whnf)
  (try dsimp only)
  k_steps
  unfold Stop
  exact ⟨_, _, _, _, _, rfl, by assumption, by assumption, _, _, _, rfl, Nat.ne_of_lt (by omega), Nat.ne_of_lt (by omega), rfl⟩
example : True := by
  k_with "wpAt" => (ks_step "exec Expr"; refine Stop.out ?_)
  trivial
theorem ainit_fs (X : (Kf w.params).In b₀) (T : Top topProg loose mean mg mb b₀) (x dx : Addr) (h1 : x ≠ dx) :
    FS P1 w b₀ 4 40 (.ref 74) ⟨[.ref x], []⟩ [(x, accOf 137 dx #[] 0), (dx, dictOf [] 0)]
      (fun v tl' => v = .none ∧ ∃ k t nd, tl' = [(x, accObj dx [] 0), (dx, dictOf (accD w k t) nd)]) := by
  refine' enterS (binds := [("self", .ref x), ("initial_size", .int 0 266)]) X T ?ho ?hcd ?hb ?hl ?h ?h1 ?h2 ?h3 ?h4 ?h5
  walk_at "M enterS"
  intro dp un gd fr s g L' h₁ hd hu F N B st Xg Tg lN
  (conv in (PySem.execs _ _) => arg 1; whnf)
  (try dsimp only)
  k_steps
  refine' set_acc (es' := accD w _ _) (nd' := _) F Xg N (.head _) ?kc ?km ?kd ?ks ?kt ?ke ?kU ?kz ?_
  case kc => k_is
  case km => rfl
  case kd => rfl
  case ks => k_is
  case kt => k_is
  case ke => exact rfl
  case kU => k_upd
  case kz => exact Nat.le_of_ble_eq_true rfl
  intro h1 F1 N1
  dsimp only
  k_steps
  unfold Stop
  refine ks_wpAt_Expr_any ?_
  refine ks_wpAt_MethodCall ?_
  k_steps
  rename Fr _ _ _ _ => F2
  rename News _ _ _ _ => N2
  refine' call_bound N2 (.head _) (.inr rfl) ?kp ?kx ?_
  case kp => decide +kernel
  case kx => exact fun Q' E' q' => wpAny_of_eq (ck_init _) q'
  refine' init_acc F2 N2 ?kU2 ?_
  case kU2 => k_upd
  intro h3 F3 N3
  k_steps
  unfold Stop
  exact ⟨_, _, _, _, _, rfl, F3, fun p hp => N3 p (.tail _ (.tail _ hp)), rfl, _, _, _, rfl⟩
end
example : True := by
  k_with_none
  trivial
example : True := by
  k_with "M enter" => (
  (case ho => k_is)
  (case hcd => k_is)
  (case hb => first | exact fun s Xs => BindsTo.of_eq rfl | exact fun s Xs => binds_K Xs rfl (by k_is) rfl rfl rfl)
  (case hl => exact locs rfl)
  (case h1 => decide)
  (case h2 => decide)
  (case h3 => exact rfl)
  (case h4 => exact rfl)
  (case h5 => exact rfl))
  k_with "M names" => (repeat' (first | exact List.forall_mem_nil _ | (refine List.forall_mem_cons.mpr ⟨?nm, ?_⟩; (case nm => rfl))))
  trivial
example : True := by
  k_with "M ne" => first | assumption | exact Ne.symm (by assumption) | k_ne
  trivial
example : True := by
  k_with "M len" => first | assumption | exact getD_len (by assumption) _ | omega
  k_with "M lens" => first | assumption | exact len_del (by assumption) | exact len_del (len_del (by assumption))
  k_with "M strs" => first | assumption | exact strs_del (by assumption) _ | exact strs_del (strs_del (by assumption) _) _
  k_with "M nat" => first | with_reducible exact fdiv2 _ _ | rfl | exact (Int.natCast_add _ _).symm | omega
  k_with "M le" => first | omega | ((try simp (disch := omega) only [delL_length, insL_length]); omega)
  k_with "subscriptTail Name Name ref int" => (k_here; k_dflt (refine' item_strsN ?N ?m ?h _ ?k ?l ?f ?_ ?hs ?hg; (case N => k_asm); (case m => k_mem); (case h => assumption); (case k => walk_at "M nat"); (case l => omega); (case f => omega); (case hs => with_unfolding_all rfl); (case hg => (intro _; with_unfolding_all rfl)); k_whole); intro tk')
  k_with "subscriptTail Name BinOp ref int" => (k_here; k_dflt (refine' item_strsN ?N ?m ?h _ ?k ?l ?f ?_ ?hs ?hg; (case N => k_asm); (case m => k_mem); (case h => assumption); (case k => walk_at "M nat"); (case l => omega); (case f => omega); (case hs => with_unfolding_all rfl); (case hg => (intro _; with_unfolding_all rfl)); k_whole); intro tk')
  k_with "exec While Compare cons nil" => refine Stop.out ?_
  k_with "call builtin:list.insert" => (k_here; (with_reducible show wpAny _ _ (call (Value.builtin _) [Value.ref _, Value.int _ _, _]) _ _ _); k_dflt (refine' ins_N ?F ?N _ ?k ?i ?l ?U ?_; (case F => k_asm); (case N => k_asm); (case U => k_upd); (case k => walk_at "M nat"); (case i => walk_at "M le"); (case l => walk_at "M le"); k_whole); intro h' F' N'; (try dsimp only [List.nil_append, List.cons_append] at N'); (try k_sweep))
  k_with "call builtin:list.pop" => (k_here; (with_reducible show wpAny _ _ (call (Value.builtin _) [Value.ref _, Value.int _ _]) _ _ _); k_dflt (refine' popS_N ?F ?N ?h _ ?k ?i ?l ?U ?_; (case F => k_asm); (case N => k_asm); (case U => k_upd); (case h => walk_at "M strs"); (case k => walk_at "M nat"); (case i => walk_at "M le"); (case l => walk_at "M le"); k_whole); intro h' tk' F' N'; (try dsimp only [List.nil_append, List.cons_append] at N'); (try k_sweep))
  k_with "pyIter ref" => ((with_reducible show wpAny _ _ (pyIter (Value.ref _)) (CompPostA _ _ _ _ _ _ _ _ _ _) _ _); refine Stop.out ?_)
  k_with "pyIter ref" => ((with_reducible show wpAny _ _ (pyIter (Value.ref _)) (fun it s₂ => LoopAtV _ _ _ _ _ _ _ _ _ it s₂) _ _); refine Stop.out ?_)
  k_with "call builtin:len" => (k_here; (with_reducible show wpAny _ _ (call (Value.builtin "len") [Value.ref _]) _ _ _); k_dflt (refine' len_N ?N ?m ?l ?_; (case N => k_asm); (case m => k_mem); (case l => walk_at "M le"); k_whole); intro t' tk')
  k_with "binaryOp Sub int int" => (k_here; (with_reducible refine' sub_natN ?h ?_; (case h => omega)); intro t' tk')
  k_with "binaryOp Sub int int" => (k_here; (with_reducible refine' sub_nat1 ?h ?_; (case h => omega)); intro t' tk')
  k_with "LPost" => refine Stop.out ?_
  k_with "WPost" => refine Stop.out ?_
  k_with "Done" => refine Stop.out ?_
  k_with "call builtin:len" => (k_here; (with_reducible show wpAny _ _ (call (Value.builtin "len") [Value.str _ _]) _ _ _); k_dflt (refine' lenS_N ?l ?_; (case l => walk_at "M len"); k_whole); intro t' tk')
  k_with "eval ListComp" => refine Stop.out ?_
  k_with "exec Assign cons ListComp" => refine Stop.out ?_
  k_with "CPost" => refine Stop.out ?_
  k_with "CPostA" => refine Stop.out ?_
  k_with "EPost" => refine Stop.out ?_
  trivial
example : True := by
  k_with "call builtin:list.append" => (k_here; (with_reducible show wpAny _ _ (call (Value.builtin _) [Value.ref _, _]) _ _ _); k_dflt (refine' app_N ?F ?N ?l ?U ?_; (case F => k_asm); (case N => k_asm); (case U => k_upd); (case l => walk_at "M le"); k_whole); intro h' F' N'; (try k_sweep))
  k_with "newList" => (k_here; k_dflt (refine' newList_N ?F ?N ?l ?_; (case F => k_asm); (case N => k_asm); (case l => exact Nat.le_of_ble_eq_true rfl); k_whole); intro D' h' F' N' l1 l2; (try (have l3 := l1; k_lt l3)); (try k_sweep))
  k_with "M enterC" => (
  (case ho => k_is)
  (case hcd => k_is)
  (case hb => first | exact fun s Xs => BindsTo.of_eq rfl | exact fun s Xs => binds_K Xs rfl (by k_is) rfl rfl rfl)
  (case hl => exact rfl)
  (case h2 => decide +kernel)
  (case h1 => decide)
  (case h3 => exact rfl)
  (case h4 => exact rfl)
  (case h5 => exact rfl))
  k_with "M comp" => (
  (case hclos => exact rfl)
  (case hcell => decide)
  (case hkind => exact rfl)
  (case hnames => decide)
  (case hx => exact rfl)
  (case hs => (intro _; exact rfl)))
  k_with "M compA" => (
  (case hsw => exact rfl)
  (case hclos => exact rfl)
  (case hcell => decide)
  (case hkind => exact rfl)
  (case hnames => decide)
  (case hx => exact rfl)
  (case hy => exact rfl)
  (case hp => exact rfl)
  (case hs => (intro _; exact rfl)))
  k_with "eval Name" => (k_here; (with_reducible show wpAny _ _ (eval (PySem.Expr.Name _ _) (compEnvC _ _ _ _)) _ _ _); k_dflt (first
  | (refine' cname ?n ?v ?k ?l ?d ?_; (case n => assumption); (case v => assumption); (case k => exact rfl); (case l => exact rfl); (case d => decide))
  | (refine' ccell ?N ?c ?m ?d ?k ?l ?b ?_; (case N => k_asm); (case c => exact rfl); (case m => k_mem); (case d => assumption); (case k => exact rfl); (case l => exact rfl); (case b => decide))
  | (refine' cbuilt ?F ?X ?T ?e ?v ?n ?g ?b ?k ?l ?d ?_; (case F => k_asm); (case X => k_asm); (case T => k_asm); (case e => k_is); (case v => boot_by_name); (case n => decide); (case g => exact rfl); (case b => exact rfl); (case k => exact rfl); (case l => exact rfl); (case d => decide))
  | (refine' cglob ?F ?X ?T ?e ?g ?k ?l ?d ?_; (case F => k_asm); (case X => k_asm); (case T => k_asm); (case e => k_is); (case g => exact rfl); (case k => exact rfl); (case l => exact rfl); (case d => decide))
  | fail))
  trivial
example : True := by
  k_with "call ref" => ((with_reducible show wpAny _ _ (call (Value.ref 202) [Value.str _ _] []) _ _ _); k_dflt (refine' use_fs (size_fs ?X ?T _ _ ?hx) ?B ?F ?N ?hf ?hk ?hd ?hu ?hp ?_; (case B => assumption); (case X => assumption); (case T => assumption); (case F => k_asm); (case N => k_asm); (case hf => rfl); (case hk => rfl); (case hp => walk_at "M picks"); (case hx => walk_at "M len"); (case hd => ktr_room); (case hu => ktr_units); k_whole); intro v' tl' h' tk' hr' F' N' hn'; (obtain ⟨t', hv', ht'⟩ := hr'); (subst hv'); (subst ht'); (clear hn'); (try dsimp only [List.nil_append, List.cons_append] at N'); (try k_sweep))
  trivial

example : True := by
  k_with "call ref" => ((with_reducible show wpAny _ _ (call (Value.ref 39) _ _) _ _ _); k_dflt (refine' use_fs (bisR_fs ?X ?T _ _ _ _ _ _ ?hss _ _ _ _ ?hlo ?hhi _ _ ?h1 ?h2 ?h3 ?h4) ?B ?F ?N ?hf ?hk ?hd ?hu ?hp ?_; (case B => assumption); (case X => assumption); (case T => assumption); (case F => k_asm); (case N => k_asm); (case hf => rfl); (case hk => rfl); (case hp => walk_at "M picks"); (case hss => walk_at "M strs"); (case hlo => walk_at "M nat"); (case hhi => walk_at "M nat"); (case h1 => omega); (case h2 => walk_at "M le"); (case h3 => walk_at "M le"); (case h4 => walk_at "M lens"); (case hd => ktr_room); (case hu => ktr_units); k_whole); intro v' tl' h' tk' hr' F' N' hn'; (obtain ⟨t', hv', ht'⟩ := hr'); (subst hv'); (subst ht'); (clear hn'); (try dsimp only [List.nil_append, List.cons_append] at N'); (try k_sweep))
  k_with "call ref" => ((with_reducible show wpAny _ _ (call (Value.ref 57) _ _) _ _ _); k_dflt (refine' use_fs (bisL_fs ?X ?T _ _ _ _ _ _ ?hss _ _ _ _ ?hlo ?hhi _ _ ?h1 ?h2 ?h3 ?h4) ?B ?F ?N ?hf ?hk ?hd ?hu ?hp ?_; (case B => assumption); (case X => assumption); (case T => assumption); (case F => k_asm); (case N => k_asm); (case hf => rfl); (case hk => rfl); (case hp => walk_at "M picks"); (case hss => walk_at "M strs"); (case hlo => walk_at "M nat"); (case hhi => walk_at "M nat"); (case h1 => omega); (case h2 => walk_at "M le"); (case h3 => walk_at "M le"); (case h4 => walk_at "M lens"); (case hd => ktr_room); (case hu => ktr_units); k_whole); intro v' tl' h' tk' hr' F' N' hn'; (obtain ⟨t', hv', ht'⟩ := hr'); (subst hv'); (subst ht'); (clear hn'); (try dsimp only [List.nil_append, List.cons_append] at N'); (try k_sweep))
  trivial

example : True := by
  k_with "call ref" => ((with_reducible show wpAny _ _ (call (Value.ref 30) _ _) _ _ _); k_dflt (refine' use_fs (insR_fs ?X ?T _ _ _ _ _ _ ?hss _ _ _ _ ?hlo ?hhi _ _ ?h1 ?h2 ?h3 ?h4 ?hx) ?B ?F ?N ?hf ?hk ?hd ?hu ?hp ?_; (case B => assumption); (case X => assumption); (case T => assumption); (case F => k_asm); (case N => k_asm); (case hf => rfl); (case hk => rfl); (case hp => walk_at "M picks"); (case hss => walk_at "M strs"); (case hlo => walk_at "M nat"); (case hhi => walk_at "M nat"); (case h1 => omega); (case h2 => walk_at "M le"); (case h3 => walk_at "M le"); (case h4 => walk_at "M lens"); (case hx => walk_at "M len"); (case hd => ktr_room); (case hu => ktr_units); k_whole); intro v' tl' h' tk' hr' F' N' hn'; (obtain ⟨hv', ht'⟩ := hr'); (subst hv'); (subst ht'); (clear hn'); (try dsimp only [List.nil_append, List.cons_append] at N'); (try k_sweep))
  k_with "call ref" => ((with_reducible show wpAny _ _ (call (Value.ref 48) _ _) _ _ _); k_dflt (refine' use_fs (insL_fs ?X ?T _ _ _ _ _ _ ?hss _ _ _ _ ?hlo ?hhi _ _ ?h1 ?h2 ?h3 ?h4 ?hx) ?B ?F ?N ?hf ?hk ?hd ?hu ?hp ?_; (case B => assumption); (case X => assumption); (case T => assumption); (case F => k_asm); (case N => k_asm); (case hf => rfl); (case hk => rfl); (case hp => walk_at "M picks"); (case hss => walk_at "M strs"); (case hlo => walk_at "M nat"); (case hhi => walk_at "M nat"); (case h1 => omega); (case h2 => walk_at "M le"); (case h3 => walk_at "M le"); (case h4 => walk_at "M lens"); (case hx => walk_at "M len"); (case hd => ktr_room); (case hu => ktr_units); k_whole); intro v' tl' h' tk' hr' F' N' hn'; (obtain ⟨hv', ht'⟩ := hr'); (subst hv'); (subst ht'); (clear hn'); (try dsimp only [List.nil_append, List.cons_append] at N'); (try k_sweep))
  trivial

example : True := by
  k_with "call ref" => ((with_reducible show wpAny _ _ (call (Value.ref 207) [Value.ref _, Value.ref 30] _) _ _ _); k_dflt (refine' use_fs (rowR_fs ?X ?T _ _ _ _ ?hss ?h3 ?h4) ?B ?F ?N ?hf ?hk ?hd ?hu ?hp ?_; (case B => assumption); (case X => assumption); (case T => assumption); (case F => k_asm); (case N => k_asm); (case hf => rfl); (case hk => rfl); (case hp => walk_at "M picks"); (case hss => walk_at "M strs"); (case h3 => walk_at "M le"); (case h4 => walk_at "M lens"); (case hd => ktr_room); (case hu => ktr_units); k_whole); intro v' tl' h' tk' hr' F' N' hn'; (obtain ⟨D', its', n', hv', hne', hS', ht'⟩ := hr'); (subst hv'); (subst ht'); (have hO' := off_one hn' hne'); (clear hn'); (try dsimp only [List.nil_append, List.cons_append] at N'); (try k_sweep))
  k_with "call ref" => ((with_reducible show wpAny _ _ (call (Value.ref 207) [Value.ref _, Value.ref 48] _) _ _ _); k_dflt (refine' use_fs (rowL_fs ?X ?T _ _ _ _ ?hss ?h3 ?h4) ?B ?F ?N ?hf ?hk ?hd ?hu ?hp ?_; (case B => assumption); (case X => assumption); (case T => assumption); (case F => k_asm); (case N => k_asm); (case hf => rfl); (case hk => rfl); (case hp => walk_at "M picks"); (case hss => walk_at "M strs"); (case h3 => walk_at "M le"); (case h4 => walk_at "M lens"); (case hd => ktr_room); (case hu => ktr_units); k_whole); intro v' tl' h' tk' hr' F' N' hn'; (obtain ⟨D', its', n', hv', hne', hS', ht'⟩ := hr'); (subst hv'); (subst ht'); (have hO' := off_one hn' hne'); (clear hn'); (try dsimp only [List.nil_append, List.cons_append] at N'); (try k_sweep))
  trivial

example : True := by
  k_with "call ref" => ((with_reducible show wpAny _ _ (call (Value.ref 219) _ _) _ _ _); k_dflt (refine' use_fs (turned_fs ?X ?T _ _ _ _ ?hss ?h3) ?B ?F ?N ?hf ?hk ?hd ?hu ?hp ?_; (case B => assumption); (case X => assumption); (case T => assumption); (case F => k_asm); (case N => k_asm); (case hf => rfl); (case hk => rfl); (case hp => walk_at "M picks"); (case hss => walk_at "M strs"); (case h3 => walk_at "M le"); (case hd => ktr_room); (case hu => ktr_units); k_whole); intro v' tl' h' tk' hr' F' N' hn'; (obtain ⟨D', its', n', hv', hne', hS', ht'⟩ := hr'); (subst hv'); (subst ht'); (have hO' := off_one hn' hne'); (clear hn'); (try dsimp only [List.nil_append, List.cons_append] at N'); (try k_sweep))
  trivial

example : True := by
  k_with "call ref" => ((with_reducible show wpAny _ _ (call (Value.ref 134) _ []) _ _ _); k_dflt (refine' use_fs (count_fs ?X ?T _ _ _ _ _ _ _ ?v ?n) ?B ?F ?N ?hf ?hk ?hd ?hu ?hp ?_; (case B => assumption); (case X => assumption); (case T => assumption); (case F => k_asm); (case N => k_asm); (case hf => rfl); (case hk => rfl); (case hp => walk_at "M picks"); (case v => ((try simp only [List.length_append, List.length_cons, List.length_nil]); omega)); (case n => walk_at "M ne"); (case hd => ktr_room); (case hu => ktr_units); k_whole); intro v' tl' h' tk' hr' F' N' hn'; (obtain ⟨⟨tz', hz'⟩, hy'⟩ := hr'); (subst hz'); (subst hy'); (clear hn'); (try dsimp only [List.nil_append, List.cons_append] at N'); (try k_sweep))
  trivial


noncomputable section
def OffA (d : Addr) (a : LexA) : Prop := ∀ b ∈ lexAdr a, b ≠ d
theorem OffA.off {w : World} {a : LexA} {dd : Addr} (h : OffA dd a) {ln : Int} {tt : LexT} {nd : Nat} {vs : List Value} {np i : Nat} {tp : Tok} {na : Nat} : Off dd (lexTl w a ln tt nd vs np i tp na) := fun p hp => h _ (lex_adr p hp)
def lexR (w : World) (a : LexA) (mp mq : Addr) (ln : Int) (tt : LexT) (nd : Nat) (vs : List Value) (np i : Nat) (tp : Tok) (na : Nat) : Led :=
  (mp, methodObj (.ref 176) (.ref a.I)) :: (mq, methodObj (.ref 169) (.ref a.I)) :: lexTl w a ln tt nd vs np i tp na
def Same (tl T : Led) : Prop := ∀ p, p ∈ tl ↔ p ∈ T
def RepL (w : World) (tx : Str) (a : LexA) (mp mq : Addr) (n : Nat) (q : List Str) (tl : Led) : Prop :=
  ∃ vs ln tt nd np tp na, StrsAre vs q ∧ vs.length + n ≤ 800 ∧ (∀ s ∈ q, s.length ≤ 1000) ∧ Same tl (lexR w a mp mq ln tt nd vs np tx.length tp na)
structure LexEnd (w : World) (b₀ : Heap) (tx : Str) (a : LexA) (mp mq : Addr) : Prop where
  ok : LexOk w b₀ tx a
  len : tx.length ≤ 1000
  p1 : OffA mp a
  p2 : OffA mq a
  ne : mp ≠ mq
theorem tokT_end (tx : Str) (hx : piece tx tx.length = "") (ln : Int) : tokT tx (tx.length + 1) tx.length ln = (("" : Str), tx.length, ln) := if_pos hx
theorem piece_end (tx : Str) : piece tx tx.length = "" := by
  have h := piece_le tx tx.length (Nat.le_refl _)
  have e : (piece tx tx.length).cps.size = 0 := by
    have : (piece tx tx.length).length = (piece tx tx.length).cps.size := rfl
    omega
  cases hp : piece tx tx.length with
  | mk c =>
    rw [hp] at e
    have : c = #[] := Array.eq_empty_of_size_eq_zero e
    rw [this]; rfl
theorem lex_sub {w : World} {a : LexA} {ln : Int} {tt : LexT} {nd : Nat} {vs : List Value} {np i : Nat} {tp : Tok} {na : Nat} :
    (a.pb, listOf vs.toArray np) ∈ lexTl w a ln tt nd vs np i tp na ∧ (a.I, instObj 179 a.d) ∈ lexTl w a ln tt nd vs np i tp na ∧ (a.d, dictOf (lexD w ln a.S a.pb tt) nd) ∈ lexTl w a ln tt nd vs np i tp na :=
  ⟨.head _, .tail _ (.head _), .tail _ (.tail _ (.head _))⟩
def lexTail (a : LexA) (i : Nat) (tp : Tok) (na : Nat) : Led :=
  [(a.sd, dictOf [⟨a.hk, .str "read" a.kk, .ref a.rd⟩] 1), (a.S, a.so), (a.cl, a.clo), (a.rd, a.ro), (a.cr, a.co), (a.al, listOf #[.int (i : Int) tp] na), (a.ca, a.cao), (a.ct, a.cto)]
theorem lexTl_eq {w : World} {a : LexA} {ln : Int} {tt : LexT} {nd : Nat} {vs : List Value} {np i : Nat} {tp : Tok} {na : Nat} :
    lexTl w a ln tt nd vs np i tp na = (a.pb, listOf vs.toArray np) :: (a.I, instObj 179 a.d) :: (a.d, dictOf (lexD w ln a.S a.pb tt) nd) :: lexTail a i tp na := rfl
theorem tail_adr {a : LexA} {i : Nat} {tp : Tok} {na : Nat} : ∀ p ∈ lexTail a i tp na, p.1 ∈ [a.sd, a.S, a.cl, a.rd, a.cr, a.al, a.ca, a.ct] := fun p hp => by
  have : p.1 ∈ (lexTail a i tp na).map (·.1) := List.mem_map_of_mem hp
  exact this
theorem lex_ne {a : LexA} (h : [a.pb, a.I, a.d, a.sd, a.S, a.cl, a.rd, a.cr, a.al, a.ca, a.ct].Nodup) : a.pb ≠ a.I ∧ a.pb ≠ a.d ∧ a.I ≠ a.d ∧ (∀ b ∈ [a.sd, a.S, a.cl, a.rd, a.cr, a.al, a.ca, a.ct], a.pb ≠ b ∧ a.I ≠ b ∧ a.d ≠ b) := by
  rw [List.nodup_cons, List.nodup_cons, List.nodup_cons] at h
  obtain ⟨h1, h2, h3, -⟩ := h
  refine ⟨fun e => h1 (e ▸ .head _), fun e => h1 (e ▸ .tail _ (.head _)), fun e => h2 (e ▸ .head _), fun b hb => ⟨fun e => h1 (e ▸ .tail _ (.tail _ hb)), fun e => h2 (e ▸ .tail _ hb), fun e => h3 (e ▸ hb)⟩⟩
section
variable {mp mq : Addr} {a : LexA} {tx : Str}
theorem push_rep (X : (Kf w.params).In b₀) (T : Top topProg loose mean mg mb b₀) (Y : LexEnd w b₀ tx a mp mq) (n : Nat) (q : List Str) (tl : Led) (x : Str) (t : Tok) (h : RepL w tx a mp mq (n + 1) q tl) (hx : x.length ≤ 1000) :
    FS P1 w b₀ 24 240 (.ref mp) ⟨[.str x t], []⟩ tl (fun _ tl' => RepL w tx a mp mq n (layR q x) tl') := by
  obtain ⟨vs, ln, tt, nd, np, tp, na, hS, hl, hq, hs⟩ := h
  obtain ⟨n1, n2, n3, n4⟩ := lex_ne Y.ok.nd
  have H := push_fs X T a.I a.d a.S a.pb ln tt nd np vs (by omega) n3 n1.symm n2.symm x t
  have adr : ∀ b, b = a.I ∨ b = a.d ∨ b = a.pb → b ∈ lexAdr a := fun b hb => by
    rcases hb with rfl | rfl | rfl
    · exact .tail _ (.head _)
    · exact .tail _ (.tail _ (.head _))
    · exact .head _
  have H2 := H.ext tl ((mp, methodObj (.ref 176) (.ref a.I)) :: (mq, methodObj (.ref 169) (.ref a.I)) :: lexTail a tx.length tp na) (fun p hp => (hs p).mpr (.tail _ (.tail _ (by
      rw [lexTl_eq]
      rcases List.mem_cons.mp hp with rfl | hp
      · exact .tail _ (.head _)
      · rcases List.mem_cons.mp hp with rfl | hp
        · exact .tail _ (.tail _ (.head _))
        · rw [List.mem_singleton.mp hp]; exact .head _)))) (fun p hp => ?_)
  · have H3 := H2.meth (mo := mp) ((hs _).mpr (.head _))
    refine H3.mono (by decide) (by decide) fun v l r => ?_
    obtain ⟨l0, rfl, rfl, -⟩ := r
    refine ⟨vs ++ [.str x t], ln, tt, nd, np + 1, tp, na, strs_snoc hS x t, by rw [List.length_append]; show vs.length + 1 + n ≤ 800; omega, len_snoc hq hx, fun p => ?_⟩
    unfold lexR
    rw [lexTl_eq]
    simp only [List.mem_append, List.mem_cons, List.mem_nil_iff, List.not_mem_nil, or_false]
    constructor
    · rintro ((h | h | h) | h | h | h) <;> simp only [h, true_or, or_true]
    · rintro (h | h | h | h | h | h) <;> simp only [h, true_or, or_true]
  · have three : ∀ b, (∀ c, c = a.I ∨ c = a.d ∨ c = a.pb → c ≠ b) → ∀ z ∈ [(a.I, instObj 179 a.d), (a.d, dictOf (lexD w ln a.S a.pb tt) nd), (a.pb, listOf vs.toArray np)], z.1 ≠ b := fun b hb z hz => by
      rcases List.mem_cons.mp hz with rfl | hz
      · exact hb _ (.inl rfl)
      · rcases List.mem_cons.mp hz with rfl | hz
        · exact hb _ (.inr (.inl rfl))
        · rw [List.mem_singleton.mp hz]; exact hb _ (.inr (.inr rfl))
    rcases List.mem_cons.mp hp with rfl | hp
    · exact ⟨(hs _).mpr (.head _), three _ fun c hc => Y.p1 c (adr c hc)⟩
    · rcases List.mem_cons.mp hp with rfl | hp
      · exact ⟨(hs _).mpr (.tail _ (.head _)), three _ fun c hc => Y.p2 c (adr c hc)⟩
      · refine ⟨(hs _).mpr (.tail _ (.tail _ (.tail _ (.tail _ (.tail _ hp))))), three _ fun c hc => ?_⟩
        have z := n4 _ (tail_adr p hp)
        rcases hc with rfl | rfl | rfl
        · exact z.2.1
        · exact z.2.2
        · exact z.1
theorem tok_rep (X : (Kf w.params).In b₀) (T : Top topProg loose mean mg mb b₀) (Y : LexEnd w b₀ tx a mp mq) (n : Nat) (q : List Str) (tl : Led) (h : RepL w tx a mp mq (n + 1) q tl) :
    FS P1 w b₀ 24 240 (.ref mq) ⟨[], []⟩ tl (fun v tl' => ∃ t, v = .str (takeQ q).1 t ∧ (takeQ q).1.length ≤ 1000 ∧ RepL w tx a mp mq n (takeQ q).2 tl') := by
  obtain ⟨vs, ln, tt, nd, np, tp, na, hS, hl, hq, hs⟩ := h
  obtain ⟨n1, n2, n3, n4⟩ := lex_ne Y.ok.nd
  cases hS with
  | nil =>
    have H := tokt_fs X T tx Y.len a Y.ok ln tt nd np tx.length tp na (Nat.le_refl _)
    rw [tokT_end tx (piece_end tx)] at H
    have H2 := H.ext tl [(mp, methodObj (.ref 176) (.ref a.I)), (mq, methodObj (.ref 169) (.ref a.I))] (fun p hp => (hs p).mpr (.tail _ (.tail _ hp))) (fun p hp => ?_)
    · have H3 := H2.meth (mo := mq) ((hs _).mpr (.tail _ (.head _)))
      refine H3.mono (by decide) (by decide) fun v l r => ?_
      obtain ⟨l0, ⟨u, tt', nd', tp', na', rfl, rfl⟩, rfl, -⟩ := r
      refine ⟨u, rfl, Nat.zero_le _, [], ln, tt', nd', np, tp', na', .nil, by show 0 + n ≤ 800; omega, hq, fun p => ?_⟩
      unfold lexR
      simp only [List.mem_append, List.mem_cons, List.mem_nil_iff, List.not_mem_nil, or_false]
      constructor
      · rintro (h | h | h) <;> simp only [h, true_or, or_true]
      · rintro (h | h | h) <;> simp only [h, true_or, or_true]
    · rcases List.mem_cons.mp hp with rfl | hp
      · exact ⟨(hs _).mpr (.head _), fun z hz => Y.p1 _ (lex_adr z hz)⟩
      · rw [List.mem_singleton.mp hp]
        exact ⟨(hs _).mpr (.tail _ (.head _)), fun z hz => Y.p2 _ (lex_adr z hz)⟩
  | cons x tv hS' =>
    rename_i vs' q'
    have adr : ∀ b, b = a.I ∨ b = a.d ∨ b = a.pb → b ∈ lexAdr a := fun b hb => by
      rcases hb with rfl | rfl | rfl
      · exact .tail _ (.head _)
      · exact .tail _ (.tail _ (.head _))
      · exact .head _
    have hl' : vs'.length + 1 + (n + 1) ≤ 800 := hl
    have H := tokp_fs X T a.I a.d a.S a.pb ln tt nd np x tv vs' (by omega) n3 n1.symm n2.symm
    have H2 := H.ext tl ((mp, methodObj (.ref 176) (.ref a.I)) :: (mq, methodObj (.ref 169) (.ref a.I)) :: lexTail a tx.length tp na) (fun p hp => (hs p).mpr (.tail _ (.tail _ (by
        rw [lexTl_eq]
        rcases List.mem_cons.mp hp with rfl | hp
        · exact .tail _ (.head _)
        · rcases List.mem_cons.mp hp with rfl | hp
          · exact .tail _ (.tail _ (.head _))
          · rw [List.mem_singleton.mp hp]; exact .head _)))) (fun p hp => ?_)
    · have H3 := H2.meth (mo := mq) ((hs _).mpr (.tail _ (.head _)))
      refine H3.mono (by decide) (by decide) fun v l r => ?_
      obtain ⟨l0, ⟨u, rfl, rfl⟩, rfl, -⟩ := r
      refine ⟨u, rfl, hq _ (.head _), vs', ln, tt, nd, np + 1, tp, na, hS', by omega, fun s hs' => hq s (.tail _ hs'), fun p => ?_⟩
      unfold lexR
      rw [lexTl_eq]
      simp only [List.mem_append, List.mem_cons, List.mem_nil_iff, List.not_mem_nil, or_false]
      constructor
      · rintro ((h | h | h) | h | h | h) <;> simp only [h, true_or, or_true]
      · rintro (h | h | h | h | h | h) <;> simp only [h, true_or, or_true]
    · have three : ∀ b, (∀ c, c = a.I ∨ c = a.d ∨ c = a.pb → c ≠ b) → ∀ z ∈ [(a.I, instObj 179 a.d), (a.d, dictOf (lexD w ln a.S a.pb tt) nd), (a.pb, listOf (Value.str x tv :: vs').toArray np)], z.1 ≠ b := fun b hb z hz => by
        rcases List.mem_cons.mp hz with rfl | hz
        · exact hb _ (.inl rfl)
        · rcases List.mem_cons.mp hz with rfl | hz
          · exact hb _ (.inr (.inl rfl))
          · rw [List.mem_singleton.mp hz]; exact hb _ (.inr (.inr rfl))
      rcases List.mem_cons.mp hp with rfl | hp
      · exact ⟨(hs _).mpr (.head _), three _ fun c hc => Y.p1 c (adr c hc)⟩
      · rcases List.mem_cons.mp hp with rfl | hp
        · exact ⟨(hs _).mpr (.tail _ (.head _)), three _ fun c hc => Y.p2 c (adr c hc)⟩
        · refine ⟨(hs _).mpr (.tail _ (.tail _ (.tail _ (.tail _ (.tail _ hp))))), three _ fun c hc => ?_⟩
          have z := n4 _ (tail_adr p hp)
          rcases hc with rfl | rfl | rfl
          · exact z.2.1
          · exact z.2.2
          · exact z.1
theorem keep_rep (n : Nat) (q : List Str) (tl : Led) (h : Heap) (hr : RepL w tx a mp mq n q tl) (hh : ∀ p ∈ tl, h.get? p.1 = some p.2) (X : (Kf w.params).In h) : KeepOk (.ref mp) h ∧ KeepOk (.ref mq) h := by
  obtain ⟨vs, ln, tt, nd, np, tp, na, hS, hl, hq, hs⟩ := hr
  refine ⟨keep_meth X ?_ (hh _ ((hs _).mpr (.head _))), keep_meth X ?_ (hh _ ((hs _).mpr (.tail _ (.head _))))⟩
  · k_is
  · k_is
theorem less_rep (n : Nat) (q : List Str) (tl : Led) (hr : RepL w tx a mp mq (n + 1) q tl) : RepL w tx a mp mq n q tl := by
  obtain ⟨vs, ln, tt, nd, np, tp, na, hS, hl, hq, hs⟩ := hr
  exact ⟨vs, ln, tt, nd, np, tp, na, hS, by omega, hq, hs⟩
end
end

noncomputable section
def one (c : Nat) : Str := ⟨#[c]⟩
def nl (c : Nat) (ln : Int) : Int := if c = 10 then ln + 1 else ln
def nls : List Nat → Int → Int
  | [], ln => ln
  | c :: r, ln => nls r (nl c ln)
theorem nls_app : ∀ (a b : List Nat) (ln : Int), nls (a ++ b) ln = nls b (nls a ln)
  | [], _, _ => rfl
  | c :: a, b, ln => nls_app a b (nl c ln)
theorem nls_count : ∀ (a : List Nat) (ln : Int), nls a ln = ln + ((a.filter fun c => decide (c = 10)).length : Nat)
  | [], ln => by simp [nls]
  | c :: a, ln => by
    rw [nls, nls_count a]
    unfold nl
    by_cases h : c = 10
    · rw [if_pos h, List.filter_cons_of_pos (by simp [h])]; simp; omega
    · rw [if_neg h, List.filter_cons_of_neg (by simp [h])]
theorem s_q : ("\"" : Str) = one 34 := by decide +kernel
theorem s_b : ("\\" : Str) = one 92 := by decide +kernel
theorem s_n : ("\n" : Str) = one 10 := by decide +kernel
theorem s_e : ("" : Str) = ⟨#[]⟩ := by decide +kernel
theorem one_ne (c : Nat) : one c ≠ "" := by
  rw [s_e]; intro h; injection h with h
  have := congrArg Array.size h
  simp at this
theorem one_inj {c d : Nat} (h : one c = one d) : c = d := by
  injection h with h
  have := congrArg Array.toList h
  simpa using this
theorem one_iff {c d : Nat} : (one c = one d) = (c = d) := propext ⟨one_inj, fun h => h ▸ rfl⟩
theorem piece_is {tx : Str} {i c : Nat} {r : List Nat} (h : tx.cps.toList.drop i = c :: r) : piece tx i = one c := by
  have hi : i < tx.cps.toList.length := by
    rcases Nat.lt_or_ge i tx.cps.toList.length with k | k
    · exact k
    · rw [List.drop_eq_nil_of_le k] at h; cases h
  have e := beq_iff_eq.mp (slice_closes (x := tx) (i := (i : Int)) (j := (i : Int) + 1) ⟨by omega, by omega, by omega⟩)
  unfold piece
  rw [e, Int.toNat_natCast, h, show ((i : Int) + 1 - i).toNat = 1 by omega]
  rfl
theorem piece_no {tx : Str} {i : Nat} (h : tx.cps.toList.drop i = []) (hi : i ≤ tx.length) : piece tx i = "" := by
  have e : i = tx.length := by
    have := List.drop_eq_nil_iff.mp h
    have : tx.cps.toList.length = tx.length := Array.length_toList
    omega
  rw [e]; exact piece_end tx
theorem drop_next {l r : List Nat} {i c : Nat} (h : l.drop i = c :: r) : l.drop (i + 1) = r := by
  rw [← List.drop_drop, h]; rfl
theorem drop_le {l r : List Nat} {i c : Nat} (h : l.drop i = c :: r) : i + 1 ≤ l.length := by
  rcases Nat.lt_or_ge i l.length with k | k
  · exact k
  · rw [List.drop_eq_nil_of_le k] at h; cases h
theorem lnAt_is {tx : Str} {i c : Nat} {r : List Nat} (h : tx.cps.toList.drop i = c :: r) (ln : Int) : lnAt tx i ln = nl c ln := by
  unfold lnAt nl
  rw [piece_is h, s_n]
  by_cases k : c = 10
  · rw [if_pos k, if_pos (k ▸ rfl)]
  · rw [if_neg k, if_neg (fun z => k (one_inj z))]
theorem one_len (c : Nat) : (one c).length = 1 := rfl
def escL : List Nat → List Nat
  | [] => []
  | c :: w => (if c = 34 ∨ c = 92 then [92, c] else [c]) ++ escL w
def strOf (w : List Nat) : Str := ⟨w.toArray⟩
theorem strOf_snoc (tok : Str) (c : Nat) (w : List Nat) : tok ++ one c ++ strOf w = tok ++ strOf (c :: w) := by
  show (⟨(tok.cps ++ #[c]) ++ w.toArray⟩ : Str) = ⟨tok.cps ++ (c :: w).toArray⟩
  congr 1
  apply Array.toList_inj.mp
  simp
theorem strOf_nil (tok : Str) : tok ++ strOf [] = tok := by
  show (⟨tok.cps ++ #[]⟩ : Str) = tok
  simp
theorem tokQ_esc (tx : Str) : ∀ (w : List Nat) (n : Nat) (tok : Str) (i : Nat) (ln : Int) (post : List Nat), w.length < n → tx.cps.toList.drop i = escL w ++ 34 :: post →
    tokQ tx n tok i ln = (tok ++ strOf w, i + (escL w).length + 1, nls (escL w ++ [34]) ln)
  | [], 0, _, _, _, _, h, _ => absurd h (Nat.not_lt_zero _)
  | [], n + 1, tok, i, ln, post, h, e => by
    have e' : tx.cps.toList.drop i = 34 :: post := e
    unfold tokQ
    rw [piece_is e', if_neg (one_ne _), s_q, if_pos rfl, one_len, lnAt_is e', strOf_nil]
    rfl
  | c :: w, 0, _, _, _, _, h, _ => absurd h (Nat.not_lt_zero _)
  | c :: w, n + 1, tok, i, ln, post, h, e => by
    have hw : w.length < n := by simpa using h
    by_cases hc : c = 34 ∨ c = 92
    · have ee : escL (c :: w) = 92 :: c :: escL w := by show (if c = 34 ∨ c = 92 then [92, c] else [c]) ++ escL w = _; rw [if_pos hc]; rfl
      have e' : tx.cps.toList.drop i = 92 :: (c :: (escL w ++ 34 :: post)) := by rw [e, ee]; rfl
      have e2 := drop_next e'
      have e3 := drop_next e2
      unfold tokQ
      rw [piece_is e', if_neg (one_ne _), s_q, if_neg (fun z => absurd (one_inj z) (by decide)), s_b, if_pos rfl, one_len, piece_is e2, one_len, lnAt_is e', lnAt_is e2, tokQ_esc tx w n (tok ++ one c) (i + 1 + 1) _ post hw e3, strOf_snoc, ee]
      refine Prod.ext rfl (Prod.ext ?_ rfl)
      show i + 1 + 1 + (escL w).length + 1 = i + ((escL w).length + 1 + 1) + 1
      omega
    · have ee : escL (c :: w) = c :: escL w := by show (if c = 34 ∨ c = 92 then [92, c] else [c]) ++ escL w = _; rw [if_neg hc]; rfl
      have e' : tx.cps.toList.drop i = c :: (escL w ++ 34 :: post) := by rw [e, ee]; rfl
      have e2 := drop_next e'
      unfold tokQ
      rw [piece_is e', if_neg (one_ne _), s_q, if_neg (fun z => hc (.inl (one_inj z))), s_b, if_neg (fun z => hc (.inr (one_inj z))), one_len, lnAt_is e', tokQ_esc tx w n (tok ++ one c) (i + 1) _ post hw e2, strOf_snoc, ee]
      refine Prod.ext rfl (Prod.ext ?_ rfl)
      show i + 1 + (escL w).length + 1 = i + ((escL w).length + 1) + 1
      omega
theorem tokW_word (tx : Str) : ∀ (w : List Nat) (n : Nat) (tok : Str) (i : Nat) (ln : Int) (d : Nat) (post : List Nat), w.length < n → (∀ c ∈ w, notWhite (one c) = true ∧ c ≠ 92) → notWhite (one d) = false → tx.cps.toList.drop i = w ++ d :: post →
    tokW tx n tok i ln = (tok ++ strOf w, i + w.length + 1, nls (w ++ [d]) ln)
  | [], 0, _, _, _, _, _, h, _, _, _ => absurd h (Nat.not_lt_zero _)
  | [], n + 1, tok, i, ln, d, post, h, hw, hd, e => by
    have e' : tx.cps.toList.drop i = d :: post := e
    unfold tokW
    rw [piece_is e', if_neg (one_ne _), if_pos hd, one_len, lnAt_is e', strOf_nil]
    rfl
  | c :: w, 0, _, _, _, _, _, h, _, _, _ => absurd h (Nat.not_lt_zero _)
  | c :: w, n + 1, tok, i, ln, d, post, h, hw, hd, e => by
    have e' : tx.cps.toList.drop i = c :: (w ++ d :: post) := e
    have e2 := drop_next e'
    have hc := hw c (.head _)
    unfold tokW
    rw [piece_is e', if_neg (one_ne _), if_neg (by rw [hc.1]; decide), s_b, if_neg (fun z => hc.2 (one_inj z)), one_len, lnAt_is e', tokW_word tx w n (tok ++ one c) (i + 1) _ d post (by simpa using h) (fun x hx => hw x (.tail _ hx)) hd e2, strOf_snoc]
    refine Prod.ext rfl (Prod.ext ?_ rfl)
    show i + 1 + w.length + 1 = i + (w.length + 1) + 1
    omega
theorem nw34 : notWhite (one 34) = true := by decide +kernel
theorem nw92 : notWhite (one 92) = true := by decide +kernel
theorem nw97 : notWhite (one 97) = true := by decide +kernel
theorem nw98 : notWhite (one 98) = true := by decide +kernel
theorem tokT_quoted (tx : Str) (w : List Nat) (n i : Nat) (ln : Int) (post : List Nat) (hn : w.length < n) (e : tx.cps.toList.drop i = 34 :: (escL w ++ 34 :: post)) :
    tokT tx (n + 1) i ln = (strOf w, i + (34 :: (escL w ++ [34])).length, nls (34 :: (escL w ++ [34])) ln) := by
  have e2 := drop_next e
  unfold tokT
  rw [piece_is e, if_neg (one_ne _), if_neg (by rw [nw34]; decide), s_q, if_pos rfl, one_len, lnAt_is e, tokQ_esc tx w n "" (i + 1) _ post hn e2]
  refine Prod.ext ?_ (Prod.ext ?_ rfl)
  · show ("" : Str) ++ strOf w = strOf w
    rw [s_e]
    show (⟨#[] ++ w.toArray⟩ : Str) = _
    simp [strOf]
  · show i + 1 + (escL w).length + 1 = i + ((escL w ++ [34]).length + 1)
    rw [List.length_append]; simp; omega
theorem tokT_bare (tx : Str) (c : Nat) (w : List Nat) (n i : Nat) (ln : Int) (d : Nat) (post : List Nat) (hn : w.length < n) (hw : ∀ c ∈ w, notWhite (one c) = true ∧ c ≠ 92) (hd : notWhite (one d) = false) (e : tx.cps.toList.drop i = 92 :: c :: (w ++ d :: post)) :
    tokT tx (n + 1) i ln = (strOf (c :: w), i + (92 :: c :: (w ++ [d])).length, nls (92 :: c :: (w ++ [d])) ln) := by
  have e2 := drop_next e
  have e3 := drop_next e2
  unfold tokT
  rw [piece_is e, if_neg (one_ne _), if_neg (by rw [nw92]; decide), s_q, if_neg (fun z => absurd (one_inj z) (by decide)), s_b, if_pos rfl, one_len, piece_is e2, one_len, lnAt_is e, lnAt_is e2, tokW_word tx w n ("" ++ one c) (i + 1 + 1) _ d post hn hw hd e3, strOf_snoc]
  refine Prod.ext ?_ (Prod.ext ?_ rfl)
  · show ("" : Str) ++ strOf (c :: w) = strOf (c :: w)
    rw [s_e]
    show (⟨#[] ++ (c :: w).toArray⟩ : Str) = _
    simp [strOf]
  · show i + 1 + 1 + w.length + 1 = i + ((w ++ [d]).length + 1 + 1)
    rw [List.length_append]; simp; omega
end

noncomputable section
def bodyOf : Stmt → List Stmt
  | .FunctionDef _ _ body _ _ _ _ _ _ _ => body
  | _ => []
def scopeOf : Stmt → Scope
  | .FunctionDef _ _ _ _ _ _ s _ _ _ => s
  | _ => default
def lawDef : Stmt := PySem.Challenge.pw_tl0016_01.main.body.getLastD (.Pass default)
structure LawParts where
  (s0 s1 s2 s3 s4 s5 s6 s7 s8 s9 s10 s11 s12 s13 s14 s15 s16 s17 s18 s19 : Stmt)
  (kind : ScopeKind) (names : List (Str × NameKind)) (ig ic : Bool) (more : List (Str × Const))
  eq : bodyOf lawDef = [s0, s1, s2, s3, s4, s5, s6, s7, s8, s9, s10, s11, s12, s13, s14, s15, s16, s17, s18, s19]
  sc : scopeOf lawDef = ⟨kind, names, ig, ic, more⟩
noncomputable def lp : LawParts := ⟨_, _, _, _, _, _, _, _, _, _, _, _, _, _, _, _, _, _, _, _, _, _, _, _, _, rfl, rfl⟩
def lawEnv (L f : Addr) : Env := envOfC "law" ⟨lp.kind, lp.names, lp.ig, lp.ic, lp.more⟩ L f (.ref 223)
abbrev cellOb (v : Option Value) : Obj := { cls := .type "cell", data := .cell v }
/-- the state of the law's run -/
structure At (w : World) (dp un : Nat) (gd : Option (List Code)) (fr : List Env) (g : Heap) (loose : List Str) (mean : ExcName → Option Value) (mg mb : Str → Option Value) : Prop where
  B : Below (AR dp un gd fr) g fr g
  X : (Kf w.params).In g
  T : Top topProg loose mean mg mb g
  C1 : CodeHd g 189 185
  C2 : CodeHd g 223 221
  hd : dp + 40 < recursionLimit
  hu : un + 400 < cLine
variable {dp un : Nat} {gd : Option (List Code)} {fr : List Env} {g : Heap}
theorem law_b0 (Z : At w dp un gd fr g loose mean mg mb) (L f sx : Addr) (sv : List Value) (script : List Int) (hs : g.IsList sx sv.toArray) (hI : IntsAre sv script) (hl : script.length ≤ 63) (w1 w2 : Obj) (hw1 : w1.data = .cell none) (hw2 : w2.data = .cell none)
    (s : Shared) (rest : Str → Option Value) (Q : Flow → Shared → Prop) (hsz : 185 < L ∧ 221 < L)
    (F : Fr g L s.heap (fm rest [("script", .ref sx)])) (N : News g L s.heap [(L + 1, w1), (L + 1 + 1, w2), (185, tabObj #[]), (221, tabObj #[])])
    (hq : ∀ h' tk' rest' D nv ni nn w1', Fr g L h' (fm rest' [("script", .ref sx)]) → News g L h' [(D, listOf nv.toArray nn), (L + 1, w1'), (L + 1 + 1, w2), (185, tabObj #[]), (221, tabObj #[])] → w1'.data = .cell (some (.ref D)) → IntsAre nv ni → ni.length = 6 → L + 1 + 1 < D → Q .next { s with heap := h', toks := tk' }) :
    wpAny (model P1 w) ((AR dp un gd fr).deeper (lawEnv L f)) (execs [lp.s0, lp.s1] (lawEnv L f)) Q (fun _ _ => False) s := by
  obtain ⟨B, Xg, Tg, C1, C2, hd, hu⟩ := Z
  unfold lawEnv lp
  dsimp only
  k_steps
  unfold Stop
  rename IsRange _ _ _ _ _ _ _ _ => hr
  rename Fr _ _ _ _ => F
  rename News _ _ _ _ => N
  rename_i h1 w1' F1 N1 hc h2 tk2 t1 u1 v1 ka
  dsimp only [List.cons_append, List.nil_append] at N
  refine' range_inv (n := script.length) (fun i m news => ∃ rest' nv ni nn, m = fm rest' [("script", .ref sx)] ∧ news = [(D', listOf nv.toArray nn), (L + 1, w1'), (L + 1 + 1, w2), (185, tabObj #[]), (221, tabObj #[])] ∧ IntsAre nv ni ∧ ni.length = 6) (by omega) rfl hr F N ?j0 ?turn ?done
  case j0 => exact ⟨_, _, [2, 5, 3, 1, 6, 0], _, fm_self _ (by walk_at "M names"), rfl, .cons _ _ (.cons _ _ (.cons _ _ (.cons _ _ (.cons _ _ (.cons _ _ .nil))))), rfl⟩
  case done =>
    rintro m₁ news₁ h tk ⟨rest', nv, ni, nn, rfl, rfl, e1, e2⟩ F N
    k_steps
    exact hq _ _ _ _ _ _ _ _ F N hc e1 e2 l3.2.1
  case turn =>
    rintro i m₁ news₁ t h tk I ito hi ⟨rest', nv, ni, nn, rfl, rfl, e1, e2⟩ hI F N hO
    k_lt hI
    k_steps
    unfold Stop
    rename IntsAre _ _ => hi2
    refine LPost.nx (by assumption) (by assumption) [(D', _), (L + 1, _), (L + 1 + 1, _), (185, _), (221, _)] (by k_mem) (by k_subL) ?_ ⟨_, _, _, _, fm_self _ (by walk_at "M names"), rfl, hi2, by rw [List.length_set]; exact e2⟩
    simp only [List.forall_mem_cons] at hO ⊢
    exact hO
end

noncomputable section
def boxSigns : Str := "\"\\#\n\t "
def wordOf (ni : List Int) (j : Nat) : Str := Txt.slice (Txt.item boxSigns j ++ "ab") none (some (Int.fmod (ni.getD j 0) 4))
theorem slice_keep {prog : Program} {A : Around} {E : Value → Shared → Prop} {s : Shared} {value slice : PySem.Expr} {x : Str} {t : Tok} {h₀ : Heap} {L : Addr} {m : Str → Option Value} {news : Led} {Q : Value → Shared → Prop} {j : Int} {uj : Tok} (hF : Fr h₀ L s.heap m) (hN : News h₀ L s.heap news)
    (h : ∀ h' t' k, Fr h₀ L h' m → News h₀ L h' news → (∀ b o, s.heap.get? b = some o → h'.get? b = some o) → Q (.str (Txt.slice x none (some j)) t') { s with heap := h', toks := k }) (hsz : x.length ≤ 1000)
    (hs : subscripted slice false (.str x t) (.ref s.heap.objs.size) = operate [.ref s.heap.objs.size, .str x t] (getItem (.str x t) (.ref s.heap.objs.size)))
    (ht : ∀ r, letTemporaryGo value (.str x t) r = pure ()) :
    wpAny (model prog w) A (subscriptTail value slice (.str x t) (.ref s.heap.objs.size)) Q E { s with heap := s.heap.push { cls := .type "slice", data := .fields #[.none, .int j uj, .none] } } :=
  tail_of_ItemOn (SBH.sliceItem_ns (P := fun h' => (Fr h₀ L h' m ∧ News h₀ L h' news) ∧ ∀ b o, s.heap.get? b = some o → h'.get? b = some o) (fun _ ob a => ⟨keptFrN _ ob a.1, fun b o e => Heap.get?_push_of_some _ (a.2 b o e)⟩) ⟨⟨hF, hN⟩, fun _ _ e => e⟩ (fun h' t' k a => h h' t' k a.1.1 a.1.2 a.2) (Nat.le_trans hsz (by simp [sizeLine_eq]))) hs ht
example : True := by
  k_with "subscriptTail" => (k_here; (with_reducible show wpAny _ _ (subscriptTail _ (Expr.Slice none _ none _) (Value.str _ _) (Value.ref _)) _ _ _); refine Stop.out ?_)
  trivial
variable {dp un : Nat} {gd : Option (List Code)} {fr : List Env} {g : Heap}
theorem law_b1 (Z : At w dp un gd fr g loose mean mg mb) (L f : Addr) (D : Addr) (nv : List Value) (ni : List Int) (nn : Nat) (w1 w2 : Obj) (hw1 : w1.data = .cell (some (.ref D))) (hni : IntsAre nv ni) (h6 : ni.length = 6) (hLD : L + 1 + 1 < D)
    (s : Shared) (rest : Str → Option Value) (Q : Flow → Shared → Prop) (hsz : 185 < L ∧ 221 < L)
    (F : Fr g L s.heap rest) (N : News g L s.heap [(D, listOf nv.toArray nn), (L + 1, w1), (L + 1 + 1, w2), (185, tabObj #[]), (221, tabObj #[])])
    (hq : ∀ h' tk' rest' W wv nw, Fr g L h' (fm rest' [("words", .ref W)]) → News g L h' [(W, listOf wv.toArray nw), (D, listOf nv.toArray nn), (L + 1, w1), (L + 1 + 1, w2), (185, tabObj #[]), (221, tabObj #[])] → StrsAre wv ((List.range 6).map (wordOf ni)) → W ≠ D → W ≠ L + 1 → W ≠ L + 1 + 1 → W ≠ 185 → W ≠ 221 → Q .next { s with heap := h', toks := tk' }) :
    wpAny (model P1 w) ((AR dp un gd fr).deeper (lawEnv L f)) (execs [lp.s2] (lawEnv L f)) Q (fun _ _ => False) s := by
  obtain ⟨B, Xg, Tg, C1, C2, hd, hu⟩ := Z
  unfold lawEnv lp
  dsimp only
  k_steps
  unfold Stop
  refine' comp_assign (fun _ => true) (fun v y => ∃ (j : Nat) (t u : Tok), v = .int (j : Int) t ∧ y = .str (wordOf ni j) u) ?hsw ?hclos ?hcell ?hkind ?hnames ?hx ?hy ?hp ?hs ?_
  walk_at "M compA"
  k_steps
  unfold Stop
  rename IsRange _ _ _ _ _ _ _ _ => hr
  refine' compA_src (src_range (n := 6) (by omega) rfl hr) (by omega) (by k_asm) (by k_asm) ?g1 ?g2 ?g3
  case g1 => intros; exact CTest.none
  case g2 =>
    rintro C i v s₂ m₂ E' ⟨hi, t, rfl⟩ _ hn hm hk
    rename Fr _ _ _ _ => F9
    rename News _ _ _ _ => N9
    have F2 := F9.keeps hk
    have N2 := N9.grown hk
    k_steps
    unfold Stop
    rename (Txt.item _ _).length = 1 => c1
    rename _ ∧ _ => c2
    refine' slice_keep (s := ⟨s₂.heap, _, _, _, _⟩) F2 N2 ?h1 ?h2 ?h3 ?h4
    case h2 => have : ("ab" : Str).length = 2 := rfl; omega
    case h3 => with_unfolding_all rfl
    case h4 => intro _; with_unfolding_all rfl
    intro h' t' k F' N' K'
    k_steps
    unfold Stop
    exact ⟨⟨i, t, _, rfl, rfl⟩, _, _, rfl, K'⟩
  case g3 =>
    intro W ys vs' n' h' tk F N hD hlen hP hG
    rw [filter_tt] at hG
    have hS := paired_strs hG (ss := (List.range 6).map (wordOf ni)) (by rw [List.length_map, List.length_range]; exact hlen) hP (fun j v y ⟨hj, t, hv⟩ ⟨i, t', u, hv', hy⟩ => by
      subst hv
      cases hv'
      refine ⟨u, ?_⟩
      rw [hy, List.getD_eq_getElem?_getD, List.getElem?_map, List.getElem?_range hj]
      rfl)
    dsimp only
    k_steps
    exact hq _ _ _ _ _ _ (fr_norm [("words", .ref W)] F (by walk_at "M names")) N hS (hD.ne' (by k_mem)) (hD.ne' (o := w1) (by k_mem)) (hD.ne' (o := w2) (by k_mem)) (hD.ne' (o := tabObj #[]) (by k_mem)) (hD.ne' (o := tabObj #[]) (by k_mem))
end
example : True := by
  k_with_none
  trivial
example : True := by
  k_with "M enter" => (
  (case ho => k_is)
  (case hcd => k_is)
  (case hb => first | exact fun s Xs => BindsTo.of_eq rfl | exact fun s Xs => binds_K Xs rfl (by k_is) rfl rfl rfl)
  (case hl => exact locs rfl)
  (case h1 => decide)
  (case h2 => decide)
  (case h3 => exact rfl)
  (case h4 => exact rfl)
  (case h5 => exact rfl))
  k_with "M names" => (repeat' (first | exact List.forall_mem_nil _ | (refine List.forall_mem_cons.mpr ⟨?nm, ?_⟩; (case nm => rfl))))
  trivial
example : True := by
  k_with "M ne" => first | assumption | exact Ne.symm (by assumption) | k_ne
  trivial
example : True := by
  k_with "M len" => first | assumption | exact getD_len (by assumption) _ | omega
  k_with "M lens" => first | assumption | exact len_del (by assumption) | exact len_del (len_del (by assumption))
  k_with "M strs" => first | assumption | exact strs_del (by assumption) _ | exact strs_del (strs_del (by assumption) _) _
  k_with "M nat" => first | with_reducible exact fdiv2 _ _ | rfl | exact (Int.natCast_add _ _).symm | omega
  k_with "M le" => first | omega | ((try simp (disch := omega) only [delL_length, insL_length]); omega)
  k_with "subscriptTail Name Name ref int" => (k_here; k_dflt (refine' item_strsN ?N ?m ?h _ ?k ?l ?f ?_ ?hs ?hg; (case N => k_asm); (case m => k_mem); (case h => assumption); (case k => walk_at "M nat"); (case l => omega); (case f => omega); (case hs => with_unfolding_all rfl); (case hg => (intro _; with_unfolding_all rfl)); k_whole); intro tk')
  k_with "subscriptTail Name BinOp ref int" => (k_here; k_dflt (refine' item_strsN ?N ?m ?h _ ?k ?l ?f ?_ ?hs ?hg; (case N => k_asm); (case m => k_mem); (case h => assumption); (case k => walk_at "M nat"); (case l => omega); (case f => omega); (case hs => with_unfolding_all rfl); (case hg => (intro _; with_unfolding_all rfl)); k_whole); intro tk')
  k_with "exec While Compare cons nil" => refine Stop.out ?_
  k_with "call builtin:list.insert" => (k_here; (with_reducible show wpAny _ _ (call (Value.builtin _) [Value.ref _, Value.int _ _, _]) _ _ _); k_dflt (refine' ins_N ?F ?N _ ?k ?i ?l ?U ?_; (case F => k_asm); (case N => k_asm); (case U => k_upd); (case k => walk_at "M nat"); (case i => walk_at "M le"); (case l => walk_at "M le"); k_whole); intro h' F' N'; (try dsimp only [List.nil_append, List.cons_append] at N'); (try k_sweep))
  k_with "call builtin:list.pop" => (k_here; (with_reducible show wpAny _ _ (call (Value.builtin _) [Value.ref _, Value.int _ _]) _ _ _); k_dflt (refine' popS_N ?F ?N ?h _ ?k ?i ?l ?U ?_; (case F => k_asm); (case N => k_asm); (case U => k_upd); (case h => walk_at "M strs"); (case k => walk_at "M nat"); (case i => walk_at "M le"); (case l => walk_at "M le"); k_whole); intro h' tk' F' N'; (try dsimp only [List.nil_append, List.cons_append] at N'); (try k_sweep))
  k_with "pyIter ref" => ((with_reducible show wpAny _ _ (pyIter (Value.ref _)) (CompPostA _ _ _ _ _ _ _ _ _ _) _ _); refine Stop.out ?_)
  k_with "pyIter ref" => ((with_reducible show wpAny _ _ (pyIter (Value.ref _)) (fun it s₂ => LoopAtV _ _ _ _ _ _ _ _ _ it s₂) _ _); refine Stop.out ?_)
  k_with "call builtin:len" => (k_here; (with_reducible show wpAny _ _ (call (Value.builtin "len") [Value.ref _]) _ _ _); k_dflt (refine' len_N ?N ?m ?l ?_; (case N => k_asm); (case m => k_mem); (case l => walk_at "M le"); k_whole); intro t' tk')
  k_with "binaryOp Sub int int" => (k_here; (with_reducible refine' sub_natN ?h ?_; (case h => omega)); intro t' tk')
  k_with "binaryOp Sub int int" => (k_here; (with_reducible refine' sub_nat1 ?h ?_; (case h => omega)); intro t' tk')
  k_with "LPost" => refine Stop.out ?_
  k_with "WPost" => refine Stop.out ?_
  k_with "Done" => refine Stop.out ?_
  k_with "call builtin:len" => (k_here; (with_reducible show wpAny _ _ (call (Value.builtin "len") [Value.str _ _]) _ _ _); k_dflt (refine' lenS_N ?l ?_; (case l => walk_at "M len"); k_whole); intro t' tk')
  k_with "eval ListComp" => refine Stop.out ?_
  k_with "exec Assign cons ListComp" => refine Stop.out ?_
  k_with "CPost" => refine Stop.out ?_
  k_with "CPostA" => refine Stop.out ?_
  k_with "EPost" => refine Stop.out ?_
  trivial
example : True := by
  k_with "call builtin:list.append" => (k_here; (with_reducible show wpAny _ _ (call (Value.builtin _) [Value.ref _, _]) _ _ _); k_dflt (refine' app_N ?F ?N ?l ?U ?_; (case F => k_asm); (case N => k_asm); (case U => k_upd); (case l => walk_at "M le"); k_whole); intro h' F' N'; (try k_sweep))
  k_with "newList" => (k_here; k_dflt (refine' newList_N ?F ?N ?l ?_; (case F => k_asm); (case N => k_asm); (case l => exact Nat.le_of_ble_eq_true rfl); k_whole); intro D' h' F' N' l1 l2; (try (have l3 := l1; k_lt l3)); (try k_sweep))
  k_with "M enterC" => (
  (case ho => k_is)
  (case hcd => k_is)
  (case hb => first | exact fun s Xs => BindsTo.of_eq rfl | exact fun s Xs => binds_K Xs rfl (by k_is) rfl rfl rfl)
  (case hl => exact rfl)
  (case h2 => decide +kernel)
  (case h1 => decide)
  (case h3 => exact rfl)
  (case h4 => exact rfl)
  (case h5 => exact rfl))
  k_with "M comp" => (
  (case hclos => exact rfl)
  (case hcell => decide)
  (case hkind => exact rfl)
  (case hnames => decide)
  (case hx => exact rfl)
  (case hs => (intro _; exact rfl)))
  k_with "M compA" => (
  (case hsw => exact rfl)
  (case hclos => exact rfl)
  (case hcell => decide)
  (case hkind => exact rfl)
  (case hnames => decide)
  (case hx => exact rfl)
  (case hy => exact rfl)
  (case hp => exact rfl)
  (case hs => (intro _; exact rfl)))
  k_with "eval Name" => (k_here; (with_reducible show wpAny _ _ (eval (PySem.Expr.Name _ _) (compEnvC _ _ _ _)) _ _ _); k_dflt (first
  | (refine' cname ?n ?v ?k ?l ?d ?_; (case n => assumption); (case v => assumption); (case k => exact rfl); (case l => exact rfl); (case d => decide))
  | (refine' ccell ?N ?c ?m ?d ?k ?l ?b ?_; (case N => k_asm); (case c => exact rfl); (case m => k_mem); (case d => assumption); (case k => exact rfl); (case l => exact rfl); (case b => decide))
  | (refine' cbuilt ?F ?X ?T ?e ?v ?n ?g ?b ?k ?l ?d ?_; (case F => k_asm); (case X => k_asm); (case T => k_asm); (case e => k_is); (case v => boot_by_name); (case n => decide); (case g => exact rfl); (case b => exact rfl); (case k => exact rfl); (case l => exact rfl); (case d => decide))
  | (refine' cglob ?F ?X ?T ?e ?g ?k ?l ?d ?_; (case F => k_asm); (case X => k_asm); (case T => k_asm); (case e => k_is); (case g => exact rfl); (case k => exact rfl); (case l => exact rfl); (case d => decide))
  | fail))
  trivial
example : True := by
  k_with "call ref" => ((with_reducible show wpAny _ _ (call (Value.ref 202) [Value.str _ _] []) _ _ _); k_dflt (refine' use_fs (size_fs ?X ?T _ _ ?hx) ?B ?F ?N ?hf ?hk ?hd ?hu ?hp ?_; (case B => assumption); (case X => assumption); (case T => assumption); (case F => k_asm); (case N => k_asm); (case hf => rfl); (case hk => rfl); (case hp => walk_at "M picks"); (case hx => walk_at "M len"); (case hd => ktr_room); (case hu => ktr_units); k_whole); intro v' tl' h' tk' hr' F' N' hn'; (obtain ⟨t', hv', ht'⟩ := hr'); (subst hv'); (subst ht'); (clear hn'); (try dsimp only [List.nil_append, List.cons_append] at N'); (try k_sweep))
  trivial

example : True := by
  k_with "call ref" => ((with_reducible show wpAny _ _ (call (Value.ref 39) _ _) _ _ _); k_dflt (refine' use_fs (bisR_fs ?X ?T _ _ _ _ _ _ ?hss _ _ _ _ ?hlo ?hhi _ _ ?h1 ?h2 ?h3 ?h4) ?B ?F ?N ?hf ?hk ?hd ?hu ?hp ?_; (case B => assumption); (case X => assumption); (case T => assumption); (case F => k_asm); (case N => k_asm); (case hf => rfl); (case hk => rfl); (case hp => walk_at "M picks"); (case hss => walk_at "M strs"); (case hlo => walk_at "M nat"); (case hhi => walk_at "M nat"); (case h1 => omega); (case h2 => walk_at "M le"); (case h3 => walk_at "M le"); (case h4 => walk_at "M lens"); (case hd => ktr_room); (case hu => ktr_units); k_whole); intro v' tl' h' tk' hr' F' N' hn'; (obtain ⟨t', hv', ht'⟩ := hr'); (subst hv'); (subst ht'); (clear hn'); (try dsimp only [List.nil_append, List.cons_append] at N'); (try k_sweep))
  k_with "call ref" => ((with_reducible show wpAny _ _ (call (Value.ref 57) _ _) _ _ _); k_dflt (refine' use_fs (bisL_fs ?X ?T _ _ _ _ _ _ ?hss _ _ _ _ ?hlo ?hhi _ _ ?h1 ?h2 ?h3 ?h4) ?B ?F ?N ?hf ?hk ?hd ?hu ?hp ?_; (case B => assumption); (case X => assumption); (case T => assumption); (case F => k_asm); (case N => k_asm); (case hf => rfl); (case hk => rfl); (case hp => walk_at "M picks"); (case hss => walk_at "M strs"); (case hlo => walk_at "M nat"); (case hhi => walk_at "M nat"); (case h1 => omega); (case h2 => walk_at "M le"); (case h3 => walk_at "M le"); (case h4 => walk_at "M lens"); (case hd => ktr_room); (case hu => ktr_units); k_whole); intro v' tl' h' tk' hr' F' N' hn'; (obtain ⟨t', hv', ht'⟩ := hr'); (subst hv'); (subst ht'); (clear hn'); (try dsimp only [List.nil_append, List.cons_append] at N'); (try k_sweep))
  trivial

example : True := by
  k_with "call ref" => ((with_reducible show wpAny _ _ (call (Value.ref 30) _ _) _ _ _); k_dflt (refine' use_fs (insR_fs ?X ?T _ _ _ _ _ _ ?hss _ _ _ _ ?hlo ?hhi _ _ ?h1 ?h2 ?h3 ?h4 ?hx) ?B ?F ?N ?hf ?hk ?hd ?hu ?hp ?_; (case B => assumption); (case X => assumption); (case T => assumption); (case F => k_asm); (case N => k_asm); (case hf => rfl); (case hk => rfl); (case hp => walk_at "M picks"); (case hss => walk_at "M strs"); (case hlo => walk_at "M nat"); (case hhi => walk_at "M nat"); (case h1 => omega); (case h2 => walk_at "M le"); (case h3 => walk_at "M le"); (case h4 => walk_at "M lens"); (case hx => walk_at "M len"); (case hd => ktr_room); (case hu => ktr_units); k_whole); intro v' tl' h' tk' hr' F' N' hn'; (obtain ⟨hv', ht'⟩ := hr'); (subst hv'); (subst ht'); (clear hn'); (try dsimp only [List.nil_append, List.cons_append] at N'); (try k_sweep))
  k_with "call ref" => ((with_reducible show wpAny _ _ (call (Value.ref 48) _ _) _ _ _); k_dflt (refine' use_fs (insL_fs ?X ?T _ _ _ _ _ _ ?hss _ _ _ _ ?hlo ?hhi _ _ ?h1 ?h2 ?h3 ?h4 ?hx) ?B ?F ?N ?hf ?hk ?hd ?hu ?hp ?_; (case B => assumption); (case X => assumption); (case T => assumption); (case F => k_asm); (case N => k_asm); (case hf => rfl); (case hk => rfl); (case hp => walk_at "M picks"); (case hss => walk_at "M strs"); (case hlo => walk_at "M nat"); (case hhi => walk_at "M nat"); (case h1 => omega); (case h2 => walk_at "M le"); (case h3 => walk_at "M le"); (case h4 => walk_at "M lens"); (case hx => walk_at "M len"); (case hd => ktr_room); (case hu => ktr_units); k_whole); intro v' tl' h' tk' hr' F' N' hn'; (obtain ⟨hv', ht'⟩ := hr'); (subst hv'); (subst ht'); (clear hn'); (try dsimp only [List.nil_append, List.cons_append] at N'); (try k_sweep))
  trivial

example : True := by
  k_with "call ref" => ((with_reducible show wpAny _ _ (call (Value.ref 207) [Value.ref _, Value.ref 30] _) _ _ _); k_dflt (refine' use_fs (rowR_fs ?X ?T _ _ _ _ ?hss ?h3 ?h4) ?B ?F ?N ?hf ?hk ?hd ?hu ?hp ?_; (case B => assumption); (case X => assumption); (case T => assumption); (case F => k_asm); (case N => k_asm); (case hf => rfl); (case hk => rfl); (case hp => walk_at "M picks"); (case hss => walk_at "M strs"); (case h3 => walk_at "M le"); (case h4 => walk_at "M lens"); (case hd => ktr_room); (case hu => ktr_units); k_whole); intro v' tl' h' tk' hr' F' N' hn'; (obtain ⟨D', its', n', hv', hne', hS', ht'⟩ := hr'); (subst hv'); (subst ht'); (have hO' := off_one hn' hne'); (clear hn'); (try dsimp only [List.nil_append, List.cons_append] at N'); (try k_sweep))
  k_with "call ref" => ((with_reducible show wpAny _ _ (call (Value.ref 207) [Value.ref _, Value.ref 48] _) _ _ _); k_dflt (refine' use_fs (rowL_fs ?X ?T _ _ _ _ ?hss ?h3 ?h4) ?B ?F ?N ?hf ?hk ?hd ?hu ?hp ?_; (case B => assumption); (case X => assumption); (case T => assumption); (case F => k_asm); (case N => k_asm); (case hf => rfl); (case hk => rfl); (case hp => walk_at "M picks"); (case hss => walk_at "M strs"); (case h3 => walk_at "M le"); (case h4 => walk_at "M lens"); (case hd => ktr_room); (case hu => ktr_units); k_whole); intro v' tl' h' tk' hr' F' N' hn'; (obtain ⟨D', its', n', hv', hne', hS', ht'⟩ := hr'); (subst hv'); (subst ht'); (have hO' := off_one hn' hne'); (clear hn'); (try dsimp only [List.nil_append, List.cons_append] at N'); (try k_sweep))
  trivial

example : True := by
  k_with "call ref" => ((with_reducible show wpAny _ _ (call (Value.ref 219) _ _) _ _ _); k_dflt (refine' use_fs (turned_fs ?X ?T _ _ _ _ ?hss ?h3) ?B ?F ?N ?hf ?hk ?hd ?hu ?hp ?_; (case B => assumption); (case X => assumption); (case T => assumption); (case F => k_asm); (case N => k_asm); (case hf => rfl); (case hk => rfl); (case hp => walk_at "M picks"); (case hss => walk_at "M strs"); (case h3 => walk_at "M le"); (case hd => ktr_room); (case hu => ktr_units); k_whole); intro v' tl' h' tk' hr' F' N' hn'; (obtain ⟨D', its', n', hv', hne', hS', ht'⟩ := hr'); (subst hv'); (subst ht'); (have hO' := off_one hn' hne'); (clear hn'); (try dsimp only [List.nil_append, List.cons_append] at N'); (try k_sweep))
  trivial

example : True := by
  k_with "call ref" => ((with_reducible show wpAny _ _ (call (Value.ref 134) _ []) _ _ _); k_dflt (refine' use_fs (count_fs ?X ?T _ _ _ _ _ _ _ ?v ?n) ?B ?F ?N ?hf ?hk ?hd ?hu ?hp ?_; (case B => assumption); (case X => assumption); (case T => assumption); (case F => k_asm); (case N => k_asm); (case hf => rfl); (case hk => rfl); (case hp => walk_at "M picks"); (case v => ((try simp only [List.length_append, List.length_cons, List.length_nil]); omega)); (case n => walk_at "M ne"); (case hd => ktr_room); (case hu => ktr_units); k_whole); intro v' tl' h' tk' hr' F' N' hn'; (obtain ⟨⟨tz', hz'⟩, hy'⟩ := hr'); (subst hz'); (subst hy'); (clear hn'); (try dsimp only [List.nil_append, List.cons_append] at N'); (try k_sweep))
  trivial


noncomputable section
example : True := by
  k_with "call ref" => (k_here; (with_reducible show wpAny _ _ (call (Value.ref 195) _ _) _ _ _); refine Stop.out ?_)
  k_with "call ref" => (k_here; (with_reducible show wpAny _ _ (call (Value.ref 190) _ _) _ _ _); refine Stop.out ?_)
  trivial
variable {dp un : Nat} {gd : Option (List Code)} {fr : List Env} {g : Heap}
theorem offA_of {w : World} {a : LexA} {ln : Int} {tt : LexT} {nd : Nat} {vs : List Value} {np i : Nat} {tp : Tok} {na : Nat} {ps : Array Value} {news tl : Led} {c : Addr} {o : Obj} (hn : ∀ q ∈ lexTl w a ln tt nd vs np i tp na ++ tl, q.1 ∈ [(185, tabObj ps)].map (·.1) ∨ ∀ x ∈ news, x.1 ≠ q.1) (off : Off 185 (lexTl w a ln tt nd vs np i tp na)) (hm : (c, o) ∈ news) : OffA c a := fun b hb e => by
  have hb' : b ∈ (lexTl w a ln tt nd vs np i tp na).map (·.1) := hb
  obtain ⟨q, hq, rfl⟩ := List.mem_map.mp hb'
  rcases hn q (List.mem_append_left _ hq) with k | k
  · exact off q hq (List.mem_singleton.mp k)
  · exact k _ hm e.symm
theorem law_b2 (Z : At w dp un gd fr g loose mean mg mb) (L f : Addr) (D : Addr) (nv : List Value) (ni : List Int) (nn : Nat) (w1 w2 : Obj) (hw1 : w1.data = .cell (some (.ref D))) (hni : IntsAre nv ni) (h6 : ni.length = 6) (hLD : L + 1 + 1 < D)
    (W : Addr) (wv : List Value) (nw : Nat) (ws : List Str) (hws : StrsAre wv ws) (hw6 : ws.length = 6) (hwl : ∀ s ∈ ws, s.length ≤ 3) (hWD : W ≠ D) (hW1 : W ≠ L + 1) (hW2 : W ≠ L + 1 + 1)
    (s : Shared) (rest : Str → Option Value) (Q : Flow → Shared → Prop) (hsz : 185 < L ∧ 221 < L) (a5 : W ≠ 185) (a6 : W ≠ 221)
    (F : Fr g L s.heap (fm rest [("words", .ref W)])) (N : News g L s.heap [(W, listOf wv.toArray nw), (D, listOf nv.toArray nn), (L + 1, w1), (L + 1 + 1, w2), (185, tabObj #[]), (221, tabObj #[])])
    (hq : ∀ h' tk' rest' a tt nd tp ps Bx tx, Fr g L h' (fm rest' [("words", .ref W), ("text", .str (textTo ni ws 6) tx), ("lexer", .ref a.I), ("boxes", .ref Bx)]) →
      News g L h' ((Bx, listOf #[] 0) :: (lexTl w a 1 tt nd [] 0 0 tp 0 ++ [(W, listOf wv.toArray nw), (L + 1 + 1, w2), (185, tabObj ps), (221, tabObj #[])])) → LexOk w g (textTo ni ws 6) a → (textTo ni ws 6).length ≤ 120 →
      OffA Bx a → OffA W a → OffA (L + 1 + 1) a → OffA 185 a → OffA 221 a → L + 1 + 1 < Bx → W < Bx → Q .next { s with heap := h', toks := tk' }) :
    wpAny (model P1 w) ((AR dp un gd fr).deeper (lawEnv L f)) (execs [lp.s3, lp.s4, lp.s5] (lawEnv L f)) Q (fun _ _ => False) s := by
  obtain ⟨B, Xg, Tg, C1, C2, hd, hu⟩ := Z
  have hl1 := hni.length
  have hl2 := hws.len_eq
  have q1 : @LT.lt Nat _ (L + 1 + 1) D := hLD
  have q2 : @LT.lt Nat _ 185 L := hsz.1
  have q3 : @LT.lt Nat _ 221 L := hsz.2
  have a1 : D ≠ L + 1 := Nat.ne_of_gt (by omega)
  have a2 : D ≠ L + 1 + 1 := Nat.ne_of_gt (by omega)
  have a3 : D ≠ 185 := Nat.ne_of_gt (by omega)
  have a4 : D ≠ 221 := Nat.ne_of_gt (by omega)
  have a7 : L + 1 ≠ 185 := Nat.ne_of_gt (by omega)
  have a8 : L + 1 + 1 ≠ 185 := Nat.ne_of_gt (by omega)
  have a9 : (185 : Addr) ≠ 221 := by decide
  unfold lawEnv lp
  dsimp only
  k_steps
  unfold Stop
  rename Fr _ _ _ _ => F
  rename News _ _ _ _ => N
  refine' use_fs (text_fs Xg Tg D W nv wv ni ws nn nw hni hws (by omega) (by omega) hwl hWD.symm) B F N rfl rfl ?hd ?hu ?hp ?_
  case hd => ktr_room
  case hu => ktr_units
  case hp => walk_at "M picks"
  rintro v tl' h' tk' ⟨hlen, ⟨t, rfl⟩, rfl⟩ F N hn
  dsimp only [List.cons_append, List.nil_append] at N
  k_steps
  unfold Stop
  rename Fr _ _ _ _ => F
  rename News _ _ _ _ => N
  refine' use_fs (lexer_fs Xg Tg C1 _ _ (by omega)) B F N rfl rfl ?hd2 ?hu2 ?hp2 ?_
  case hd2 => ktr_room
  case hu2 => ktr_units
  case hp2 => walk_at "M picks"
  rintro v tl' h' tk' ⟨a, tt, nd, tp, ps, rfl, rfl, ok, off⟩ F N hn
  have oW := offA_of hn off (c := W) (by k_mem)
  have oP := offA_of hn off (c := L + 1 + 1) (by k_mem)
  have o2 := offA_of hn off (c := 221) (by k_mem)
  clear hn
  k_steps
  rename Fr _ _ _ _ => F
  rename News _ _ _ _ => N
  rename ∀ p ∈ _ ++ _, Prod.fst p < _ => hB
  refine hq _ _ _ a tt nd tp ps _ _ (fr_norm [("words", .ref W), ("text", .str (textTo ni ws 6) _), ("lexer", .ref a.I), ("boxes", .ref _)] F (by walk_at "M names")) (fun p hp => N p ?_) ok hlen (fun b hb => ?_) oW oP (fun b hb => ?_) o2 (hB (L + 1 + 1, w2) (by k_mem)) (hB (W, _) (by k_mem))
  · simp only [List.mem_append, List.mem_cons, List.not_mem_nil, or_false] at hp ⊢
    rcases hp with h | h | h | h | h | h <;> simp only [h, true_or, or_true]
  · have hb' : b ∈ (lexTl w a 1 tt nd [] 0 0 tp 0).map (·.1) := hb
    obtain ⟨q, hq, rfl⟩ := List.mem_map.mp hb'
    exact Nat.ne_of_lt (hB q (List.mem_append_left _ (List.mem_append_left _ hq)))
  · have hb' : b ∈ (lexTl w a 1 tt nd [] 0 0 tp 0).map (·.1) := hb
    obtain ⟨q, hq, rfl⟩ := List.mem_map.mp hb'
    exact off q hq
end
example : True := by
  k_with_none
  trivial
example : True := by
  k_with "M enter" => (
  (case ho => k_is)
  (case hcd => k_is)
  (case hb => first | exact fun s Xs => BindsTo.of_eq rfl | exact fun s Xs => binds_K Xs rfl (by k_is) rfl rfl rfl)
  (case hl => exact locs rfl)
  (case h1 => decide)
  (case h2 => decide)
  (case h3 => exact rfl)
  (case h4 => exact rfl)
  (case h5 => exact rfl))
  k_with "M names" => (repeat' (first | exact List.forall_mem_nil _ | (refine List.forall_mem_cons.mpr ⟨?nm, ?_⟩; (case nm => rfl))))
  trivial
example : True := by
  k_with "M ne" => first | assumption | exact Ne.symm (by assumption) | k_ne
  trivial
example : True := by
  k_with "M len" => first | assumption | exact getD_len (by assumption) _ | omega
  k_with "M lens" => first | assumption | exact len_del (by assumption) | exact len_del (len_del (by assumption))
  k_with "M strs" => first | assumption | exact strs_del (by assumption) _ | exact strs_del (strs_del (by assumption) _) _
  k_with "M nat" => first | with_reducible exact fdiv2 _ _ | rfl | exact (Int.natCast_add _ _).symm | omega
  k_with "M le" => first | omega | ((try simp (disch := omega) only [delL_length, insL_length]); omega)
  k_with "subscriptTail Name Name ref int" => (k_here; k_dflt (refine' item_strsN ?N ?m ?h _ ?k ?l ?f ?_ ?hs ?hg; (case N => k_asm); (case m => k_mem); (case h => assumption); (case k => walk_at "M nat"); (case l => omega); (case f => omega); (case hs => with_unfolding_all rfl); (case hg => (intro _; with_unfolding_all rfl)); k_whole); intro tk')
  k_with "subscriptTail Name BinOp ref int" => (k_here; k_dflt (refine' item_strsN ?N ?m ?h _ ?k ?l ?f ?_ ?hs ?hg; (case N => k_asm); (case m => k_mem); (case h => assumption); (case k => walk_at "M nat"); (case l => omega); (case f => omega); (case hs => with_unfolding_all rfl); (case hg => (intro _; with_unfolding_all rfl)); k_whole); intro tk')
  k_with "exec While Compare cons nil" => refine Stop.out ?_
  k_with "call builtin:list.insert" => (k_here; (with_reducible show wpAny _ _ (call (Value.builtin _) [Value.ref _, Value.int _ _, _]) _ _ _); k_dflt (refine' ins_N ?F ?N _ ?k ?i ?l ?U ?_; (case F => k_asm); (case N => k_asm); (case U => k_upd); (case k => walk_at "M nat"); (case i => walk_at "M le"); (case l => walk_at "M le"); k_whole); intro h' F' N'; (try dsimp only [List.nil_append, List.cons_append] at N'); (try k_sweep))
  k_with "call builtin:list.pop" => (k_here; (with_reducible show wpAny _ _ (call (Value.builtin _) [Value.ref _, Value.int _ _]) _ _ _); k_dflt (refine' popS_N ?F ?N ?h _ ?k ?i ?l ?U ?_; (case F => k_asm); (case N => k_asm); (case U => k_upd); (case h => walk_at "M strs"); (case k => walk_at "M nat"); (case i => walk_at "M le"); (case l => walk_at "M le"); k_whole); intro h' tk' F' N'; (try dsimp only [List.nil_append, List.cons_append] at N'); (try k_sweep))
  k_with "pyIter ref" => ((with_reducible show wpAny _ _ (pyIter (Value.ref _)) (CompPostA _ _ _ _ _ _ _ _ _ _) _ _); refine Stop.out ?_)
  k_with "pyIter ref" => ((with_reducible show wpAny _ _ (pyIter (Value.ref _)) (fun it s₂ => LoopAtV _ _ _ _ _ _ _ _ _ it s₂) _ _); refine Stop.out ?_)
  k_with "call builtin:len" => (k_here; (with_reducible show wpAny _ _ (call (Value.builtin "len") [Value.ref _]) _ _ _); k_dflt (refine' len_N ?N ?m ?l ?_; (case N => k_asm); (case m => k_mem); (case l => walk_at "M le"); k_whole); intro t' tk')
  k_with "binaryOp Sub int int" => (k_here; (with_reducible refine' sub_natN ?h ?_; (case h => omega)); intro t' tk')
  k_with "binaryOp Sub int int" => (k_here; (with_reducible refine' sub_nat1 ?h ?_; (case h => omega)); intro t' tk')
  k_with "LPost" => refine Stop.out ?_
  k_with "WPost" => refine Stop.out ?_
  k_with "Done" => refine Stop.out ?_
  k_with "call builtin:len" => (k_here; (with_reducible show wpAny _ _ (call (Value.builtin "len") [Value.str _ _]) _ _ _); k_dflt (refine' lenS_N ?l ?_; (case l => walk_at "M len"); k_whole); intro t' tk')
  k_with "eval ListComp" => refine Stop.out ?_
  k_with "exec Assign cons ListComp" => refine Stop.out ?_
  k_with "CPost" => refine Stop.out ?_
  k_with "CPostA" => refine Stop.out ?_
  k_with "EPost" => refine Stop.out ?_
  trivial
example : True := by
  k_with "call builtin:list.append" => (k_here; (with_reducible show wpAny _ _ (call (Value.builtin _) [Value.ref _, _]) _ _ _); k_dflt (refine' app_N ?F ?N ?l ?U ?_; (case F => k_asm); (case N => k_asm); (case U => k_upd); (case l => walk_at "M le"); k_whole); intro h' F' N'; (try k_sweep))
  k_with "newList" => (k_here; k_dflt (refine' newList_N ?F ?N ?l ?_; (case F => k_asm); (case N => k_asm); (case l => exact Nat.le_of_ble_eq_true rfl); k_whole); intro D' h' F' N' l1 l2; (try (have l3 := l1; k_lt l3)); (try k_sweep))
  k_with "M enterC" => (
  (case ho => k_is)
  (case hcd => k_is)
  (case hb => first | exact fun s Xs => BindsTo.of_eq rfl | exact fun s Xs => binds_K Xs rfl (by k_is) rfl rfl rfl)
  (case hl => exact rfl)
  (case h2 => decide +kernel)
  (case h1 => decide)
  (case h3 => exact rfl)
  (case h4 => exact rfl)
  (case h5 => exact rfl))
  k_with "M comp" => (
  (case hclos => exact rfl)
  (case hcell => decide)
  (case hkind => exact rfl)
  (case hnames => decide)
  (case hx => exact rfl)
  (case hs => (intro _; exact rfl)))
  k_with "M compA" => (
  (case hsw => exact rfl)
  (case hclos => exact rfl)
  (case hcell => decide)
  (case hkind => exact rfl)
  (case hnames => decide)
  (case hx => exact rfl)
  (case hy => exact rfl)
  (case hp => exact rfl)
  (case hs => (intro _; exact rfl)))
  k_with "eval Name" => (k_here; (with_reducible show wpAny _ _ (eval (PySem.Expr.Name _ _) (compEnvC _ _ _ _)) _ _ _); k_dflt (first
  | (refine' cname ?n ?v ?k ?l ?d ?_; (case n => assumption); (case v => assumption); (case k => exact rfl); (case l => exact rfl); (case d => decide))
  | (refine' ccell ?N ?c ?m ?d ?k ?l ?b ?_; (case N => k_asm); (case c => exact rfl); (case m => k_mem); (case d => assumption); (case k => exact rfl); (case l => exact rfl); (case b => decide))
  | (refine' cbuilt ?F ?X ?T ?e ?v ?n ?g ?b ?k ?l ?d ?_; (case F => k_asm); (case X => k_asm); (case T => k_asm); (case e => k_is); (case v => boot_by_name); (case n => decide); (case g => exact rfl); (case b => exact rfl); (case k => exact rfl); (case l => exact rfl); (case d => decide))
  | (refine' cglob ?F ?X ?T ?e ?g ?k ?l ?d ?_; (case F => k_asm); (case X => k_asm); (case T => k_asm); (case e => k_is); (case g => exact rfl); (case k => exact rfl); (case l => exact rfl); (case d => decide))
  | fail))
  trivial
example : True := by
  k_with "call ref" => ((with_reducible show wpAny _ _ (call (Value.ref 202) [Value.str _ _] []) _ _ _); k_dflt (refine' use_fs (size_fs ?X ?T _ _ ?hx) ?B ?F ?N ?hf ?hk ?hd ?hu ?hp ?_; (case B => assumption); (case X => assumption); (case T => assumption); (case F => k_asm); (case N => k_asm); (case hf => rfl); (case hk => rfl); (case hp => walk_at "M picks"); (case hx => walk_at "M len"); (case hd => ktr_room); (case hu => ktr_units); k_whole); intro v' tl' h' tk' hr' F' N' hn'; (obtain ⟨t', hv', ht'⟩ := hr'); (subst hv'); (subst ht'); (clear hn'); (try dsimp only [List.nil_append, List.cons_append] at N'); (try k_sweep))
  trivial

example : True := by
  k_with "call ref" => ((with_reducible show wpAny _ _ (call (Value.ref 39) _ _) _ _ _); k_dflt (refine' use_fs (bisR_fs ?X ?T _ _ _ _ _ _ ?hss _ _ _ _ ?hlo ?hhi _ _ ?h1 ?h2 ?h3 ?h4) ?B ?F ?N ?hf ?hk ?hd ?hu ?hp ?_; (case B => assumption); (case X => assumption); (case T => assumption); (case F => k_asm); (case N => k_asm); (case hf => rfl); (case hk => rfl); (case hp => walk_at "M picks"); (case hss => walk_at "M strs"); (case hlo => walk_at "M nat"); (case hhi => walk_at "M nat"); (case h1 => omega); (case h2 => walk_at "M le"); (case h3 => walk_at "M le"); (case h4 => walk_at "M lens"); (case hd => ktr_room); (case hu => ktr_units); k_whole); intro v' tl' h' tk' hr' F' N' hn'; (obtain ⟨t', hv', ht'⟩ := hr'); (subst hv'); (subst ht'); (clear hn'); (try dsimp only [List.nil_append, List.cons_append] at N'); (try k_sweep))
  k_with "call ref" => ((with_reducible show wpAny _ _ (call (Value.ref 57) _ _) _ _ _); k_dflt (refine' use_fs (bisL_fs ?X ?T _ _ _ _ _ _ ?hss _ _ _ _ ?hlo ?hhi _ _ ?h1 ?h2 ?h3 ?h4) ?B ?F ?N ?hf ?hk ?hd ?hu ?hp ?_; (case B => assumption); (case X => assumption); (case T => assumption); (case F => k_asm); (case N => k_asm); (case hf => rfl); (case hk => rfl); (case hp => walk_at "M picks"); (case hss => walk_at "M strs"); (case hlo => walk_at "M nat"); (case hhi => walk_at "M nat"); (case h1 => omega); (case h2 => walk_at "M le"); (case h3 => walk_at "M le"); (case h4 => walk_at "M lens"); (case hd => ktr_room); (case hu => ktr_units); k_whole); intro v' tl' h' tk' hr' F' N' hn'; (obtain ⟨t', hv', ht'⟩ := hr'); (subst hv'); (subst ht'); (clear hn'); (try dsimp only [List.nil_append, List.cons_append] at N'); (try k_sweep))
  trivial

example : True := by
  k_with "call ref" => ((with_reducible show wpAny _ _ (call (Value.ref 30) _ _) _ _ _); k_dflt (refine' use_fs (insR_fs ?X ?T _ _ _ _ _ _ ?hss _ _ _ _ ?hlo ?hhi _ _ ?h1 ?h2 ?h3 ?h4 ?hx) ?B ?F ?N ?hf ?hk ?hd ?hu ?hp ?_; (case B => assumption); (case X => assumption); (case T => assumption); (case F => k_asm); (case N => k_asm); (case hf => rfl); (case hk => rfl); (case hp => walk_at "M picks"); (case hss => walk_at "M strs"); (case hlo => walk_at "M nat"); (case hhi => walk_at "M nat"); (case h1 => omega); (case h2 => walk_at "M le"); (case h3 => walk_at "M le"); (case h4 => walk_at "M lens"); (case hx => walk_at "M len"); (case hd => ktr_room); (case hu => ktr_units); k_whole); intro v' tl' h' tk' hr' F' N' hn'; (obtain ⟨hv', ht'⟩ := hr'); (subst hv'); (subst ht'); (clear hn'); (try dsimp only [List.nil_append, List.cons_append] at N'); (try k_sweep))
  k_with "call ref" => ((with_reducible show wpAny _ _ (call (Value.ref 48) _ _) _ _ _); k_dflt (refine' use_fs (insL_fs ?X ?T _ _ _ _ _ _ ?hss _ _ _ _ ?hlo ?hhi _ _ ?h1 ?h2 ?h3 ?h4 ?hx) ?B ?F ?N ?hf ?hk ?hd ?hu ?hp ?_; (case B => assumption); (case X => assumption); (case T => assumption); (case F => k_asm); (case N => k_asm); (case hf => rfl); (case hk => rfl); (case hp => walk_at "M picks"); (case hss => walk_at "M strs"); (case hlo => walk_at "M nat"); (case hhi => walk_at "M nat"); (case h1 => omega); (case h2 => walk_at "M le"); (case h3 => walk_at "M le"); (case h4 => walk_at "M lens"); (case hx => walk_at "M len"); (case hd => ktr_room); (case hu => ktr_units); k_whole); intro v' tl' h' tk' hr' F' N' hn'; (obtain ⟨hv', ht'⟩ := hr'); (subst hv'); (subst ht'); (clear hn'); (try dsimp only [List.nil_append, List.cons_append] at N'); (try k_sweep))
  trivial

example : True := by
  k_with "call ref" => ((with_reducible show wpAny _ _ (call (Value.ref 207) [Value.ref _, Value.ref 30] _) _ _ _); k_dflt (refine' use_fs (rowR_fs ?X ?T _ _ _ _ ?hss ?h3 ?h4) ?B ?F ?N ?hf ?hk ?hd ?hu ?hp ?_; (case B => assumption); (case X => assumption); (case T => assumption); (case F => k_asm); (case N => k_asm); (case hf => rfl); (case hk => rfl); (case hp => walk_at "M picks"); (case hss => walk_at "M strs"); (case h3 => walk_at "M le"); (case h4 => walk_at "M lens"); (case hd => ktr_room); (case hu => ktr_units); k_whole); intro v' tl' h' tk' hr' F' N' hn'; (obtain ⟨D', its', n', hv', hne', hS', ht'⟩ := hr'); (subst hv'); (subst ht'); (have hO' := off_one hn' hne'); (clear hn'); (try dsimp only [List.nil_append, List.cons_append] at N'); (try k_sweep))
  k_with "call ref" => ((with_reducible show wpAny _ _ (call (Value.ref 207) [Value.ref _, Value.ref 48] _) _ _ _); k_dflt (refine' use_fs (rowL_fs ?X ?T _ _ _ _ ?hss ?h3 ?h4) ?B ?F ?N ?hf ?hk ?hd ?hu ?hp ?_; (case B => assumption); (case X => assumption); (case T => assumption); (case F => k_asm); (case N => k_asm); (case hf => rfl); (case hk => rfl); (case hp => walk_at "M picks"); (case hss => walk_at "M strs"); (case h3 => walk_at "M le"); (case h4 => walk_at "M lens"); (case hd => ktr_room); (case hu => ktr_units); k_whole); intro v' tl' h' tk' hr' F' N' hn'; (obtain ⟨D', its', n', hv', hne', hS', ht'⟩ := hr'); (subst hv'); (subst ht'); (have hO' := off_one hn' hne'); (clear hn'); (try dsimp only [List.nil_append, List.cons_append] at N'); (try k_sweep))
  trivial

example : True := by
  k_with "call ref" => ((with_reducible show wpAny _ _ (call (Value.ref 219) _ _) _ _ _); k_dflt (refine' use_fs (turned_fs ?X ?T _ _ _ _ ?hss ?h3) ?B ?F ?N ?hf ?hk ?hd ?hu ?hp ?_; (case B => assumption); (case X => assumption); (case T => assumption); (case F => k_asm); (case N => k_asm); (case hf => rfl); (case hk => rfl); (case hp => walk_at "M picks"); (case hss => walk_at "M strs"); (case h3 => walk_at "M le"); (case hd => ktr_room); (case hu => ktr_units); k_whole); intro v' tl' h' tk' hr' F' N' hn'; (obtain ⟨D', its', n', hv', hne', hS', ht'⟩ := hr'); (subst hv'); (subst ht'); (have hO' := off_one hn' hne'); (clear hn'); (try dsimp only [List.nil_append, List.cons_append] at N'); (try k_sweep))
  trivial

example : True := by
  k_with "call ref" => ((with_reducible show wpAny _ _ (call (Value.ref 134) _ []) _ _ _); k_dflt (refine' use_fs (count_fs ?X ?T _ _ _ _ _ _ _ ?v ?n) ?B ?F ?N ?hf ?hk ?hd ?hu ?hp ?_; (case B => assumption); (case X => assumption); (case T => assumption); (case F => k_asm); (case N => k_asm); (case hf => rfl); (case hk => rfl); (case hp => walk_at "M picks"); (case v => ((try simp only [List.length_append, List.length_cons, List.length_nil]); omega)); (case n => walk_at "M ne"); (case hd => ktr_room); (case hu => ktr_units); k_whole); intro v' tl' h' tk' hr' F' N' hn'; (obtain ⟨⟨tz', hz'⟩, hy'⟩ := hr'); (subst hz'); (subst hy'); (clear hn'); (try dsimp only [List.nil_append, List.cons_append] at N'); (try k_sweep))
  trivial


noncomputable section
example : True := by
  k_with "exec For Name Name cons nil" => (k_here; (rename Fr _ _ _ _ => lF'); (with_unfolding_all refine' For_invVF lF' ?k1 ?k2 ?_; (case k1 => exact rfl); (case k2 => exact rfl); k_whole))
  k_with "call ref" => (k_here; (with_reducible show wpAny _ _ (call (Value.ref 169) _ _) _ _ _); refine Stop.out ?_)
  k_with "call ref" => (k_here; (with_reducible show wpAny _ _ (call (Value.ref 176) _ _) _ _ _); refine Stop.out ?_)
  k_with "call builtin:list.append" => (k_here; (with_reducible show wpAny _ _ (call (Value.builtin _) [Value.ref _, _]) _ _ _); refine Stop.out ?_)
  trivial
theorem three_off {a : LexA} {b : Addr} {o1 o2 o3 : Obj} (h : OffA b a) : ∀ z ∈ [(a.I, o1), (a.d, o2), (a.pb, o3)], z.1 ≠ b := fun z hz => by
  rcases List.mem_cons.mp hz with rfl | hz
  · exact h _ (.tail _ (.head _))
  · rcases List.mem_cons.mp hz with rfl | hz
    · exact h _ (.tail _ (.tail _ (.head _)))
    · rw [List.mem_singleton.mp hz]; exact h _ (.head _)
theorem three_tail {a : LexA} {o1 o2 o3 : Obj} {i : Nat} {tp : Tok} {na : Nat} (h : [a.pb, a.I, a.d, a.sd, a.S, a.cl, a.rd, a.cr, a.al, a.ca, a.ct].Nodup) : ∀ p ∈ lexTail a i tp na, ∀ z ∈ [(a.I, o1), (a.d, o2), (a.pb, o3)], z.1 ≠ p.1 := fun p hp z hz => by
  obtain ⟨-, -, -, n4⟩ := lex_ne h
  have k := n4 _ (tail_adr p hp)
  rcases List.mem_cons.mp hz with rfl | hz
  · exact k.2.1
  · rcases List.mem_cons.mp hz with rfl | hz
    · exact k.2.2
    · rw [List.mem_singleton.mp hz]; exact k.1
theorem three_mem {w : World} {a : LexA} {ln : Int} {tt : LexT} {nd : Nat} {vs : List Value} {np i : Nat} {tp : Tok} {na : Nat} : ∀ q ∈ [(a.I, instObj 179 a.d), (a.d, dictOf (lexD w ln a.S a.pb tt) nd), (a.pb, listOf vs.toArray np)], q ∈ lexTl w a ln tt nd vs np i tp na := fun q hq => by
  rw [lexTl_eq]
  rcases List.mem_cons.mp hq with rfl | hq
  · exact .tail _ (.head _)
  · rcases List.mem_cons.mp hq with rfl | hq
    · exact .tail _ (.tail _ (.head _))
    · rw [List.mem_singleton.mp hq]; exact .head _
theorem tail_mem {w : World} {a : LexA} {ln : Int} {tt : LexT} {nd : Nat} {vs : List Value} {np i : Nat} {tp : Tok} {na : Nat} : ∀ q ∈ lexTail a i tp na, q ∈ lexTl w a ln tt nd vs np i tp na := fun q hq => by
  rw [lexTl_eq]; exact .tail _ (.tail _ (.tail _ hq))
theorem lex_back {w : World} {a : LexA} {ln : Int} {tt : LexT} {nd : Nat} {vs : List Value} {np i : Nat} {tp : Tok} {na : Nat} {g h : Heap} {L : Addr} {ex : Led} (N : News g L h ([(a.I, instObj 179 a.d), (a.d, dictOf (lexD w ln a.S a.pb tt) nd), (a.pb, listOf vs.toArray np)] ++ (lexTail a i tp na ++ ex))) : News g L h (lexTl w a ln tt nd vs np i tp na ++ ex) := fun p hp => N p (by
  rw [lexTl_eq] at hp
  simp only [List.mem_append, List.mem_cons, List.not_mem_nil, or_false] at hp ⊢
  rcases hp with (h | h | h | h) | h <;> simp only [h, true_or, or_true])
theorem offs_cons {b : Addr} {o : Obj} {ex : Led} {T : Led} {big : Led} (hm : (b, o) ∈ big) (h : ∀ z ∈ T, z.1 ≠ b) (k : ∀ q ∈ ex, q ∈ big ∧ ∀ z ∈ T, z.1 ≠ q.1) : ∀ q ∈ (b, o) :: ex, q ∈ big ∧ ∀ z ∈ T, z.1 ≠ q.1 := fun q hq => by
  rcases List.mem_cons.mp hq with rfl | hq
  · exact ⟨hm, h⟩
  · exact k q hq
variable {dp un : Nat} {gd : Option (List Code)} {fr : List Env} {g : Heap}
theorem law_b3 (Z : At w dp un gd fr g loose mean mg mb) (L f : Addr) (w2 : Obj) (W : Addr) (wv : List Value) (nw : Nat) (ws : List Str) (hws : StrsAre wv ws) (hw6 : ws.length = 6) (hwl : ∀ s ∈ ws, s.length ≤ 3)
    (tx : Str) (ttx : Tok) (a : LexA) (tt : LexT) (nd : Nat) (tp : Tok) (ps : Array Value) (Bx : Addr) (ok : LexOk w g tx a) (hlen : tx.length ≤ 1000)
    (o1 : OffA Bx a) (o2 : OffA W a) (o3 : OffA (L + 1 + 1) a) (o4 : OffA 185 a) (o5 : OffA 221 a) (hB1 : L + 1 + 1 < Bx) (hB2 : W < Bx) (hsz : 185 < L ∧ 221 < L)
    (pos : Nat → Nat) (lnn : Nat → Int) (hp0 : pos 0 = 0) (hl0 : lnn 0 = 1) (hpos : ∀ i, i ≤ 6 → pos i ≤ tx.length) (hread : ∀ i, i < 6 → tokT tx (tx.length + 1) (pos i) (lnn i) = (ws.getD i "", pos (i + 1), lnn (i + 1)))
    (s : Shared) (rest : Str → Option Value) (Q : Flow → Shared → Prop)
    (F : Fr g L s.heap (fm rest [("words", .ref W), ("text", .str tx ttx), ("lexer", .ref a.I), ("boxes", .ref Bx)]))
    (N : News g L s.heap ((Bx, listOf #[] 0) :: (lexTl w a 1 tt nd [] 0 0 tp 0 ++ [(W, listOf wv.toArray nw), (L + 1 + 1, w2), (185, tabObj ps), (221, tabObj #[])])))
    (hq : ∀ h' tk' rest' its nb tt nd np tp na, Fr g L h' (fm rest' [("words", .ref W), ("text", .str tx ttx), ("lexer", .ref a.I), ("boxes", .ref Bx)]) →
      News g L h' ((Bx, listOf its nb) :: (lexTl w a (lnn 6) tt nd [] np (pos 6) tp na ++ [(W, listOf wv.toArray nw), (L + 1 + 1, w2), (185, tabObj ps), (221, tabObj #[])])) → StrsAre its.toList ws → Q .next { s with heap := h', toks := tk' }) :
    wpAny (model P1 w) ((AR dp un gd fr).deeper (lawEnv L f)) (execs [lp.s6] (lawEnv L f)) Q (fun _ _ => False) s := by
  obtain ⟨B, Xg, Tg, C1, C2, hd, hu⟩ := Z
  have hl2 := hws.len_eq
  obtain ⟨n1, n2, n3, n4⟩ := lex_ne ok.nd
  unfold lawEnv lp
  dsimp only
  k_steps
  unfold Stop
  rename Fr _ _ _ _ => F
  rename News _ _ _ _ => N
  have oJ0 : ∀ J, (∀ p ∈ (Bx, listOf #[] 0) :: (lexTl w a 1 tt nd [] 0 0 tp 0 ++ [(W, listOf wv.toArray nw), (L + 1 + 1, w2), (185, tabObj ps), (221, tabObj #[])]), p.1 < J) → OffA J a := fun J hJ b hb => by
    have hb' : b ∈ (lexTl w a 1 tt nd [] 0 0 tp 0).map (·.1) := hb
    obtain ⟨q, hq, rfl⟩ := List.mem_map.mp hb'
    exact Nat.ne_of_lt (hJ q (.tail _ (List.mem_append_left _ hq)))
  refine' list_inv (fun i m news => ∃ rest' its nb tt nd np tp na, m = fm rest' [("words", .ref W), ("text", .str tx ttx), ("lexer", .ref a.I), ("boxes", .ref Bx)] ∧
    news = (Bx, listOf its.toArray nb) :: (lexTl w a (lnn i) tt nd [] np (pos i) tp na ++ [(W, listOf wv.toArray nw), (L + 1 + 1, w2), (185, tabObj ps), (221, tabObj #[])]) ∧ StrsAre its (ws.take i) ∧ its.length = i) rfl F N ?hm ?j0 ?turn ?done
  case hm => exact .tail _ (List.mem_append_right _ (.head _))
  case j0 => exact ⟨rest, [], 0, tt, nd, 0, tp, 0, rfl, by rw [hp0, hl0], .nil, rfl⟩
  case done =>
    rintro m₁ news₁ h tk ⟨rest', its, nb, tt, nd, np, tp, na, rfl, rfl, e1, e2⟩ F N
    k_steps
    rw [hl2, hw6] at N e1
    rw [List.take_of_length_le (by omega)] at e1
    exact hq _ _ _ _ _ _ _ _ _ _ F N e1
  case turn =>
    rintro i v m₁ news₁ h tk J ito hi ⟨rest', its, nb, tt, nd, np, tp, na, rfl, rfl, e1, e2⟩ hJ F N hO
    have hi6 : i < 6 := by
      rcases Nat.lt_or_ge i wv.length with h | h
      · omega
      · rw [List.getElem?_eq_none h] at hi; cases hi
    have oJ := oJ0 J hJ
    have N0 := N
    dsimp only [lexTl, List.cons_append, List.nil_append] at N
    k_steps
    unfold Stop
    rename Fr _ _ _ _ => F
    have lexoff : ∀ {b : Addr} {ln : Int} {tt : LexT} {nd : Nat} {vs : List Value} {np i : Nat} {tp : Tok} {na : Nat}, OffA b a → ∀ z ∈ lexTl w a ln tt nd vs np i tp na, z.1 ≠ b := fun hb z hz => hb _ (lex_adr z hz)
    refine' use_fsT (rest := (J, ito) :: (Bx, listOf its.toArray nb) :: [(W, listOf wv.toArray nw), (L + 1 + 1, w2), (185, tabObj ps), (221, tabObj #[])]) (tokt_fs Xg Tg tx hlen a ok (lnn i) tt nd np (pos i) tp na (hpos i (by omega))) B F N0 rfl rfl ?hd ?hu ?htl ?hrest ?_
    case hd => ktr_room
    case hu => ktr_units
    case htl => exact fun q hq => .tail _ (.tail _ (List.mem_append_left _ hq))
    case hrest =>
      have m : ∀ {q}, q ∈ [(W, listOf wv.toArray nw), (L + 1 + 1, w2), (185, tabObj ps), (221, tabObj #[])] → q ∈ (J, ito) :: (Bx, listOf its.toArray nb) :: (lexTl w a (lnn i) tt nd [] np (pos i) tp na ++ [(W, listOf wv.toArray nw), (L + 1 + 1, w2), (185, tabObj ps), (221, tabObj #[])]) := fun hq => .tail _ (.tail _ (List.mem_append_right _ hq))
      exact offs_cons (.head _) (lexoff oJ) (offs_cons (.tail _ (.head _)) (lexoff o1) (offs_cons (m (.head _)) (lexoff o2) (offs_cons (m (.tail _ (.head _))) (lexoff o3) (offs_cons (m (.tail _ (.tail _ (.head _)))) (lexoff o4) (offs_cons (m (.tail _ (.tail _ (.tail _ (.head _))))) (lexoff o5) (fun _ h => nomatch h))))))
    rintro v tl' h' tk' ⟨u, tt1, nd1, tp1, na1, rfl, rfl⟩ F N1 hn
    clear hn N N0
    rw [hread i hi6] at N1 ⊢
    dsimp only at N1 ⊢
    have N2 := N1
    dsimp only [lexTl, List.cons_append, List.nil_append] at N2
    k_steps
    unfold Stop
    have three : ∀ {b : Addr} {o1 o2 o3 : Obj}, OffA b a → ∀ z ∈ [(a.I, o1), (a.d, o2), (a.pb, o3)], z.1 ≠ b := fun hb => three_off hb
    have exs : ∀ {big T : Led}, (∀ q ∈ [(J, ito), (Bx, listOf its.toArray nb), (W, listOf wv.toArray nw), (L + 1 + 1, w2), (185, tabObj ps), (221, tabObj #[])], q ∈ big) → (∀ {b : Addr}, OffA b a → ∀ z ∈ T, z.1 ≠ b) →
        ∀ q ∈ [(J, ito), (Bx, listOf its.toArray nb), (W, listOf wv.toArray nw), (L + 1 + 1, w2), (185, tabObj ps), (221, tabObj #[])], q ∈ big ∧ ∀ z ∈ T, z.1 ≠ q.1 := fun m k =>
      offs_cons (m _ (.head _)) (k oJ) (offs_cons (m _ (.tail _ (.head _))) (k o1) (offs_cons (m _ (.tail _ (.tail _ (.head _)))) (k o2) (offs_cons (m _ (.tail _ (.tail _ (.tail _ (.head _))))) (k o3) (offs_cons (m _ (.tail _ (.tail _ (.tail _ (.tail _ (.head _)))))) (k o4) (offs_cons (m _ (.tail _ (.tail _ (.tail _ (.tail _ (.tail _ (.head _))))))) (k o5) (fun _ h => nomatch h))))))
    refine' use_fsT (rest := lexTail a (pos (i + 1)) tp1 na1 ++ [(J, ito), (Bx, listOf its.toArray nb), (W, listOf wv.toArray nw), (L + 1 + 1, w2), (185, tabObj ps), (221, tabObj #[])]) (push_fs Xg Tg a.I a.d a.S a.pb (lnn (i + 1)) tt1 nd1 np [] (Nat.zero_le _) n3 n1.symm n2.symm (ws.getD i "") u) B F N1 rfl rfl ?hd3 ?hu3 ?htl3 ?hrest3 ?_
    case hd3 => ktr_room
    case hu3 => ktr_units
    case htl3 => exact fun q hq => List.mem_append_left _ (three_mem q hq)
    case hrest3 =>
      intro q hq
      rcases List.mem_append.mp hq with hq | hq
      · exact ⟨List.mem_append_left _ (tail_mem q hq), three_tail ok.nd q hq⟩
      · exact exs (fun q hq => List.mem_append_right _ hq) three q hq
    rintro v tl' h' tk' rfl F N3 hn
    clear hn N1 N2
    have N1 := lex_back N3
    clear N3
    have N2 := N1
    dsimp only [lexTl, List.cons_append, List.nil_append] at N2
    k_steps
    unfold Stop
    refine' use_fsT (rest := lexTail a (pos (i + 1)) tp1 na1 ++ [(J, ito), (Bx, listOf its.toArray nb), (W, listOf wv.toArray nw), (L + 1 + 1, w2), (185, tabObj ps), (221, tabObj #[])]) (tokp_fs Xg Tg a.I a.d a.S a.pb (lnn (i + 1)) tt1 nd1 (np + 1) (ws.getD i "") u [] (Nat.zero_le _) n3 n1.symm n2.symm) B F N1 rfl rfl ?hd4 ?hu4 ?htl4 ?hrest4 ?_
    case hd4 => ktr_room
    case hu4 => ktr_units
    case htl4 => exact fun q hq => List.mem_append_left _ (three_mem q hq)
    case hrest4 =>
      intro q hq
      rcases List.mem_append.mp hq with hq | hq
      · exact ⟨List.mem_append_left _ (tail_mem q hq), three_tail ok.nd q hq⟩
      · exact exs (fun q hq => List.mem_append_right _ hq) three q hq
    rintro v tl' h' tk' ⟨ux, rfl, rfl⟩ F N3 hn
    clear hn N1 N2
    have N1 := lex_back N3
    clear N3
    have hBJ : Bx ≠ J := Nat.ne_of_lt (hJ _ (.head _))
    have hWB : W ≠ Bx := Nat.ne_of_lt hB2
    have q1 : @LT.lt Nat _ (L + 1 + 1) Bx := hB1
    have q2 : @LT.lt Nat _ 185 L := hsz.1
    have q3 : @LT.lt Nat _ 221 L := hsz.2
    have c1 : L + 1 + 1 ≠ Bx := Nat.ne_of_lt (by omega)
    have c2 : (185 : Addr) ≠ Bx := Nat.ne_of_lt (by omega)
    have c3 : (221 : Addr) ≠ Bx := Nat.ne_of_lt (by omega)
    have N2 : News g L _ ((Bx, listOf its.toArray nb) :: (lexTl w a (lnn (i + 1)) tt1 nd1 [] (np + 1 + 1) (pos (i + 1)) tp1 na1 ++ [(J, ito), (W, listOf wv.toArray nw), (L + 1 + 1, w2), (185, tabObj ps), (221, tabObj #[])])) := fun p hp => N1 p (by
      simp only [List.mem_append, List.mem_cons, List.not_mem_nil, or_false] at hp ⊢
      rcases hp with h | h | h | h | h | h | h <;> simp only [h, true_or, or_true])
    k_steps
    unfold Stop
    refine app_N (news' := (Bx, listOf (its ++ [_]).toArray (nb + 1)) :: (lexTl w a (lnn (i + 1)) tt1 nd1 [] (np + 1 + 1) (pos (i + 1)) tp1 na1 ++ [(J, ito), (W, listOf wv.toArray nw), (L + 1 + 1, w2), (185, tabObj ps), (221, tabObj #[])])) F N2 (by omega) (.head ?_) ?_
    · intro p hp
      rcases List.mem_append.mp hp with hp | hp
      · exact lexoff o1 p hp
      · simp only [List.mem_cons, List.not_mem_nil, or_false] at hp
        rcases hp with rfl | rfl | rfl | rfl | rfl
        · exact hBJ.symm
        · exact hWB
        · exact c1
        · exact c2
        · exact c3
    · intro h' F N3
      k_steps
      unfold Stop
      have htk : ws.take (i + 1) = ws.take i ++ [ws.getD i ""] := by
        rw [List.take_add_one, List.getD_eq_getElem?_getD, List.getElem?_eq_getElem (by omega)]; rfl
      refine LPost.nx F N3 ((Bx, listOf (its ++ [Value.str (ws.getD i "") ux]).toArray (nb + 1)) :: (lexTl w a (lnn (i + 1)) tt1 nd1 [] (np + 1 + 1) (pos (i + 1)) tp1 na1 ++ [(W, listOf wv.toArray nw), (L + 1 + 1, w2), (185, tabObj ps), (221, tabObj #[])])) (.tail _ (List.mem_append_right _ (.head _))) (subL_of fun p hp => ?_) (fun p hp => ?_)
        ⟨.tail _ (List.mem_append_right _ (.head _)), _, its ++ [Value.str (ws.getD i "") ux], nb + 1, tt1, nd1, np + 1 + 1, tp1, na1, fm_self _ (by walk_at "M names"), rfl, by rw [htk]; exact strs_snoc e1 _ _, by rw [List.length_append, e2]; rfl⟩
      · simp only [List.mem_append, List.mem_cons, List.not_mem_nil, or_false] at hp ⊢
        rcases hp with h | h | h | h | h | h <;> simp only [h, true_or, or_true]
      · rcases List.mem_cons.mp hp with rfl | hp
        · exact hBJ
        · rcases List.mem_append.mp hp with hp | hp
          · exact lexoff oJ p hp
          · have k : ∀ q ∈ [(W, listOf wv.toArray nw), (L + 1 + 1, w2), (185, tabObj ps), (221, tabObj #[])], q.1 ≠ J := fun q hq => Nat.ne_of_lt (hJ q (.tail _ (List.mem_append_right _ hq)))
            exact k p hp
end
example : True := by
  k_with_none
  trivial
example : True := by
  k_with "M enter" => (
  (case ho => k_is)
  (case hcd => k_is)
  (case hb => first | exact fun s Xs => BindsTo.of_eq rfl | exact fun s Xs => binds_K Xs rfl (by k_is) rfl rfl rfl)
  (case hl => exact locs rfl)
  (case h1 => decide)
  (case h2 => decide)
  (case h3 => exact rfl)
  (case h4 => exact rfl)
  (case h5 => exact rfl))
  k_with "M names" => (repeat' (first | exact List.forall_mem_nil _ | (refine List.forall_mem_cons.mpr ⟨?nm, ?_⟩; (case nm => rfl))))
  trivial
example : True := by
  k_with "M ne" => first | assumption | exact Ne.symm (by assumption) | k_ne
  trivial
example : True := by
  k_with "M len" => first | assumption | exact getD_len (by assumption) _ | omega
  k_with "M lens" => first | assumption | exact len_del (by assumption) | exact len_del (len_del (by assumption))
  k_with "M strs" => first | assumption | exact strs_del (by assumption) _ | exact strs_del (strs_del (by assumption) _) _
  k_with "M nat" => first | with_reducible exact fdiv2 _ _ | rfl | exact (Int.natCast_add _ _).symm | omega
  k_with "M le" => first | omega | ((try simp (disch := omega) only [delL_length, insL_length]); omega)
  k_with "subscriptTail Name Name ref int" => (k_here; k_dflt (refine' item_strsN ?N ?m ?h _ ?k ?l ?f ?_ ?hs ?hg; (case N => k_asm); (case m => k_mem); (case h => assumption); (case k => walk_at "M nat"); (case l => omega); (case f => omega); (case hs => with_unfolding_all rfl); (case hg => (intro _; with_unfolding_all rfl)); k_whole); intro tk')
  k_with "subscriptTail Name BinOp ref int" => (k_here; k_dflt (refine' item_strsN ?N ?m ?h _ ?k ?l ?f ?_ ?hs ?hg; (case N => k_asm); (case m => k_mem); (case h => assumption); (case k => walk_at "M nat"); (case l => omega); (case f => omega); (case hs => with_unfolding_all rfl); (case hg => (intro _; with_unfolding_all rfl)); k_whole); intro tk')
  k_with "exec While Compare cons nil" => refine Stop.out ?_
  k_with "call builtin:list.insert" => (k_here; (with_reducible show wpAny _ _ (call (Value.builtin _) [Value.ref _, Value.int _ _, _]) _ _ _); k_dflt (refine' ins_N ?F ?N _ ?k ?i ?l ?U ?_; (case F => k_asm); (case N => k_asm); (case U => k_upd); (case k => walk_at "M nat"); (case i => walk_at "M le"); (case l => walk_at "M le"); k_whole); intro h' F' N'; (try dsimp only [List.nil_append, List.cons_append] at N'); (try k_sweep))
  k_with "call builtin:list.pop" => (k_here; (with_reducible show wpAny _ _ (call (Value.builtin _) [Value.ref _, Value.int _ _]) _ _ _); k_dflt (refine' popS_N ?F ?N ?h _ ?k ?i ?l ?U ?_; (case F => k_asm); (case N => k_asm); (case U => k_upd); (case h => walk_at "M strs"); (case k => walk_at "M nat"); (case i => walk_at "M le"); (case l => walk_at "M le"); k_whole); intro h' tk' F' N'; (try dsimp only [List.nil_append, List.cons_append] at N'); (try k_sweep))
  k_with "pyIter ref" => ((with_reducible show wpAny _ _ (pyIter (Value.ref _)) (CompPostA _ _ _ _ _ _ _ _ _ _) _ _); refine Stop.out ?_)
  k_with "pyIter ref" => ((with_reducible show wpAny _ _ (pyIter (Value.ref _)) (fun it s₂ => LoopAtV _ _ _ _ _ _ _ _ _ it s₂) _ _); refine Stop.out ?_)
  k_with "call builtin:len" => (k_here; (with_reducible show wpAny _ _ (call (Value.builtin "len") [Value.ref _]) _ _ _); k_dflt (refine' len_N ?N ?m ?l ?_; (case N => k_asm); (case m => k_mem); (case l => walk_at "M le"); k_whole); intro t' tk')
  k_with "binaryOp Sub int int" => (k_here; (with_reducible refine' sub_natN ?h ?_; (case h => omega)); intro t' tk')
  k_with "binaryOp Sub int int" => (k_here; (with_reducible refine' sub_nat1 ?h ?_; (case h => omega)); intro t' tk')
  k_with "LPost" => refine Stop.out ?_
  k_with "WPost" => refine Stop.out ?_
  k_with "Done" => refine Stop.out ?_
  k_with "call builtin:len" => (k_here; (with_reducible show wpAny _ _ (call (Value.builtin "len") [Value.str _ _]) _ _ _); k_dflt (refine' lenS_N ?l ?_; (case l => walk_at "M len"); k_whole); intro t' tk')
  k_with "eval ListComp" => refine Stop.out ?_
  k_with "exec Assign cons ListComp" => refine Stop.out ?_
  k_with "CPost" => refine Stop.out ?_
  k_with "CPostA" => refine Stop.out ?_
  k_with "EPost" => refine Stop.out ?_
  trivial
example : True := by
  k_with "call builtin:list.append" => (k_here; (with_reducible show wpAny _ _ (call (Value.builtin _) [Value.ref _, _]) _ _ _); k_dflt (refine' app_N ?F ?N ?l ?U ?_; (case F => k_asm); (case N => k_asm); (case U => k_upd); (case l => walk_at "M le"); k_whole); intro h' F' N'; (try k_sweep))
  k_with "newList" => (k_here; k_dflt (refine' newList_N ?F ?N ?l ?_; (case F => k_asm); (case N => k_asm); (case l => exact Nat.le_of_ble_eq_true rfl); k_whole); intro D' h' F' N' l1 l2; (try (have l3 := l1; k_lt l3)); (try k_sweep))
  k_with "M enterC" => (
  (case ho => k_is)
  (case hcd => k_is)
  (case hb => first | exact fun s Xs => BindsTo.of_eq rfl | exact fun s Xs => binds_K Xs rfl (by k_is) rfl rfl rfl)
  (case hl => exact rfl)
  (case h2 => decide +kernel)
  (case h1 => decide)
  (case h3 => exact rfl)
  (case h4 => exact rfl)
  (case h5 => exact rfl))
  k_with "M comp" => (
  (case hclos => exact rfl)
  (case hcell => decide)
  (case hkind => exact rfl)
  (case hnames => decide)
  (case hx => exact rfl)
  (case hs => (intro _; exact rfl)))
  k_with "M compA" => (
  (case hsw => exact rfl)
  (case hclos => exact rfl)
  (case hcell => decide)
  (case hkind => exact rfl)
  (case hnames => decide)
  (case hx => exact rfl)
  (case hy => exact rfl)
  (case hp => exact rfl)
  (case hs => (intro _; exact rfl)))
  k_with "eval Name" => (k_here; (with_reducible show wpAny _ _ (eval (PySem.Expr.Name _ _) (compEnvC _ _ _ _)) _ _ _); k_dflt (first
  | (refine' cname ?n ?v ?k ?l ?d ?_; (case n => assumption); (case v => assumption); (case k => exact rfl); (case l => exact rfl); (case d => decide))
  | (refine' ccell ?N ?c ?m ?d ?k ?l ?b ?_; (case N => k_asm); (case c => exact rfl); (case m => k_mem); (case d => assumption); (case k => exact rfl); (case l => exact rfl); (case b => decide))
  | (refine' cbuilt ?F ?X ?T ?e ?v ?n ?g ?b ?k ?l ?d ?_; (case F => k_asm); (case X => k_asm); (case T => k_asm); (case e => k_is); (case v => boot_by_name); (case n => decide); (case g => exact rfl); (case b => exact rfl); (case k => exact rfl); (case l => exact rfl); (case d => decide))
  | (refine' cglob ?F ?X ?T ?e ?g ?k ?l ?d ?_; (case F => k_asm); (case X => k_asm); (case T => k_asm); (case e => k_is); (case g => exact rfl); (case k => exact rfl); (case l => exact rfl); (case d => decide))
  | fail))
  trivial
example : True := by
  k_with "call ref" => ((with_reducible show wpAny _ _ (call (Value.ref 202) [Value.str _ _] []) _ _ _); k_dflt (refine' use_fs (size_fs ?X ?T _ _ ?hx) ?B ?F ?N ?hf ?hk ?hd ?hu ?hp ?_; (case B => assumption); (case X => assumption); (case T => assumption); (case F => k_asm); (case N => k_asm); (case hf => rfl); (case hk => rfl); (case hp => walk_at "M picks"); (case hx => walk_at "M len"); (case hd => ktr_room); (case hu => ktr_units); k_whole); intro v' tl' h' tk' hr' F' N' hn'; (obtain ⟨t', hv', ht'⟩ := hr'); (subst hv'); (subst ht'); (clear hn'); (try dsimp only [List.nil_append, List.cons_append] at N'); (try k_sweep))
  trivial

example : True := by
  k_with "call ref" => ((with_reducible show wpAny _ _ (call (Value.ref 39) _ _) _ _ _); k_dflt (refine' use_fs (bisR_fs ?X ?T _ _ _ _ _ _ ?hss _ _ _ _ ?hlo ?hhi _ _ ?h1 ?h2 ?h3 ?h4) ?B ?F ?N ?hf ?hk ?hd ?hu ?hp ?_; (case B => assumption); (case X => assumption); (case T => assumption); (case F => k_asm); (case N => k_asm); (case hf => rfl); (case hk => rfl); (case hp => walk_at "M picks"); (case hss => walk_at "M strs"); (case hlo => walk_at "M nat"); (case hhi => walk_at "M nat"); (case h1 => omega); (case h2 => walk_at "M le"); (case h3 => walk_at "M le"); (case h4 => walk_at "M lens"); (case hd => ktr_room); (case hu => ktr_units); k_whole); intro v' tl' h' tk' hr' F' N' hn'; (obtain ⟨t', hv', ht'⟩ := hr'); (subst hv'); (subst ht'); (clear hn'); (try dsimp only [List.nil_append, List.cons_append] at N'); (try k_sweep))
  k_with "call ref" => ((with_reducible show wpAny _ _ (call (Value.ref 57) _ _) _ _ _); k_dflt (refine' use_fs (bisL_fs ?X ?T _ _ _ _ _ _ ?hss _ _ _ _ ?hlo ?hhi _ _ ?h1 ?h2 ?h3 ?h4) ?B ?F ?N ?hf ?hk ?hd ?hu ?hp ?_; (case B => assumption); (case X => assumption); (case T => assumption); (case F => k_asm); (case N => k_asm); (case hf => rfl); (case hk => rfl); (case hp => walk_at "M picks"); (case hss => walk_at "M strs"); (case hlo => walk_at "M nat"); (case hhi => walk_at "M nat"); (case h1 => omega); (case h2 => walk_at "M le"); (case h3 => walk_at "M le"); (case h4 => walk_at "M lens"); (case hd => ktr_room); (case hu => ktr_units); k_whole); intro v' tl' h' tk' hr' F' N' hn'; (obtain ⟨t', hv', ht'⟩ := hr'); (subst hv'); (subst ht'); (clear hn'); (try dsimp only [List.nil_append, List.cons_append] at N'); (try k_sweep))
  trivial

example : True := by
  k_with "call ref" => ((with_reducible show wpAny _ _ (call (Value.ref 30) _ _) _ _ _); k_dflt (refine' use_fs (insR_fs ?X ?T _ _ _ _ _ _ ?hss _ _ _ _ ?hlo ?hhi _ _ ?h1 ?h2 ?h3 ?h4 ?hx) ?B ?F ?N ?hf ?hk ?hd ?hu ?hp ?_; (case B => assumption); (case X => assumption); (case T => assumption); (case F => k_asm); (case N => k_asm); (case hf => rfl); (case hk => rfl); (case hp => walk_at "M picks"); (case hss => walk_at "M strs"); (case hlo => walk_at "M nat"); (case hhi => walk_at "M nat"); (case h1 => omega); (case h2 => walk_at "M le"); (case h3 => walk_at "M le"); (case h4 => walk_at "M lens"); (case hx => walk_at "M len"); (case hd => ktr_room); (case hu => ktr_units); k_whole); intro v' tl' h' tk' hr' F' N' hn'; (obtain ⟨hv', ht'⟩ := hr'); (subst hv'); (subst ht'); (clear hn'); (try dsimp only [List.nil_append, List.cons_append] at N'); (try k_sweep))
  k_with "call ref" => ((with_reducible show wpAny _ _ (call (Value.ref 48) _ _) _ _ _); k_dflt (refine' use_fs (insL_fs ?X ?T _ _ _ _ _ _ ?hss _ _ _ _ ?hlo ?hhi _ _ ?h1 ?h2 ?h3 ?h4 ?hx) ?B ?F ?N ?hf ?hk ?hd ?hu ?hp ?_; (case B => assumption); (case X => assumption); (case T => assumption); (case F => k_asm); (case N => k_asm); (case hf => rfl); (case hk => rfl); (case hp => walk_at "M picks"); (case hss => walk_at "M strs"); (case hlo => walk_at "M nat"); (case hhi => walk_at "M nat"); (case h1 => omega); (case h2 => walk_at "M le"); (case h3 => walk_at "M le"); (case h4 => walk_at "M lens"); (case hx => walk_at "M len"); (case hd => ktr_room); (case hu => ktr_units); k_whole); intro v' tl' h' tk' hr' F' N' hn'; (obtain ⟨hv', ht'⟩ := hr'); (subst hv'); (subst ht'); (clear hn'); (try dsimp only [List.nil_append, List.cons_append] at N'); (try k_sweep))
  trivial

example : True := by
  k_with "call ref" => ((with_reducible show wpAny _ _ (call (Value.ref 207) [Value.ref _, Value.ref 30] _) _ _ _); k_dflt (refine' use_fs (rowR_fs ?X ?T _ _ _ _ ?hss ?h3 ?h4) ?B ?F ?N ?hf ?hk ?hd ?hu ?hp ?_; (case B => assumption); (case X => assumption); (case T => assumption); (case F => k_asm); (case N => k_asm); (case hf => rfl); (case hk => rfl); (case hp => walk_at "M picks"); (case hss => walk_at "M strs"); (case h3 => walk_at "M le"); (case h4 => walk_at "M lens"); (case hd => ktr_room); (case hu => ktr_units); k_whole); intro v' tl' h' tk' hr' F' N' hn'; (obtain ⟨D', its', n', hv', hne', hS', ht'⟩ := hr'); (subst hv'); (subst ht'); (have hO' := off_one hn' hne'); (clear hn'); (try dsimp only [List.nil_append, List.cons_append] at N'); (try k_sweep))
  k_with "call ref" => ((with_reducible show wpAny _ _ (call (Value.ref 207) [Value.ref _, Value.ref 48] _) _ _ _); k_dflt (refine' use_fs (rowL_fs ?X ?T _ _ _ _ ?hss ?h3 ?h4) ?B ?F ?N ?hf ?hk ?hd ?hu ?hp ?_; (case B => assumption); (case X => assumption); (case T => assumption); (case F => k_asm); (case N => k_asm); (case hf => rfl); (case hk => rfl); (case hp => walk_at "M picks"); (case hss => walk_at "M strs"); (case h3 => walk_at "M le"); (case h4 => walk_at "M lens"); (case hd => ktr_room); (case hu => ktr_units); k_whole); intro v' tl' h' tk' hr' F' N' hn'; (obtain ⟨D', its', n', hv', hne', hS', ht'⟩ := hr'); (subst hv'); (subst ht'); (have hO' := off_one hn' hne'); (clear hn'); (try dsimp only [List.nil_append, List.cons_append] at N'); (try k_sweep))
  trivial

example : True := by
  k_with "call ref" => ((with_reducible show wpAny _ _ (call (Value.ref 219) _ _) _ _ _); k_dflt (refine' use_fs (turned_fs ?X ?T _ _ _ _ ?hss ?h3) ?B ?F ?N ?hf ?hk ?hd ?hu ?hp ?_; (case B => assumption); (case X => assumption); (case T => assumption); (case F => k_asm); (case N => k_asm); (case hf => rfl); (case hk => rfl); (case hp => walk_at "M picks"); (case hss => walk_at "M strs"); (case h3 => walk_at "M le"); (case hd => ktr_room); (case hu => ktr_units); k_whole); intro v' tl' h' tk' hr' F' N' hn'; (obtain ⟨D', its', n', hv', hne', hS', ht'⟩ := hr'); (subst hv'); (subst ht'); (have hO' := off_one hn' hne'); (clear hn'); (try dsimp only [List.nil_append, List.cons_append] at N'); (try k_sweep))
  trivial

example : True := by
  k_with "call ref" => ((with_reducible show wpAny _ _ (call (Value.ref 134) _ []) _ _ _); k_dflt (refine' use_fs (count_fs ?X ?T _ _ _ _ _ _ _ ?v ?n) ?B ?F ?N ?hf ?hk ?hd ?hu ?hp ?_; (case B => assumption); (case X => assumption); (case T => assumption); (case F => k_asm); (case N => k_asm); (case hf => rfl); (case hk => rfl); (case hp => walk_at "M picks"); (case v => ((try simp only [List.length_append, List.length_cons, List.length_nil]); omega)); (case n => walk_at "M ne"); (case hd => ktr_room); (case hu => ktr_units); k_whole); intro v' tl' h' tk' hr' F' N' hn'; (obtain ⟨⟨tz', hz'⟩, hy'⟩ := hr'); (subst hz'); (subst hy'); (clear hn'); (try dsimp only [List.nil_append, List.cons_append] at N'); (try k_sweep))
  trivial


noncomputable section
def TPost (p : Bool) (s₂ : Shared) (ok : Bool) (s₃ : Shared) : Prop := ok = p ∧ Keeps s₂ s₃
theorem CTest.one {prog : Program} {A : Around} {c : PySem.Expr} {cenv : Env} {p : Bool} {E' : Value → Shared → Prop} {s₂ : Shared} (h : wpAny (model prog w) A (isTrue c cenv (eval c cenv)) (TPost p s₂) E' s₂) : CTest prog w A [c] cenv p E' s₂ := by
  unfold CTest
  rw [List.forIn_cons, if_pos rfl]
  exact wpAny_bind (wpAny_bind (wpAny_mono h (fun ok s₃ k => wpAny_pure (wpAny_pure k)) fun _ _ z => z))
def isNl : Value → Bool
  | .str c _ => c == "\n"
  | _ => false
theorem isNl_sign (c : Nat) (t : Tok) : isNl (.str ⟨#[c]⟩ t) = decide (c = 10) := by
  show ((⟨#[c]⟩ : Str) == "\n") = _
  rw [s_n]
  by_cases h : c = 10
  · subst h; rfl
  · rw [decide_eq_false h]
    exact beq_eq_false_iff_ne.mpr fun z => h (one_inj z)
theorem filt_nl : ∀ (l : List Nat) (vs : List Value), vs.length = l.length → (∀ (j : Nat) (v : Value), vs[j]? = some v → ∃ (ch : Nat) (u : Tok), l[j]? = some ch ∧ v = Value.str ⟨#[ch]⟩ u) → (vs.filter isNl).length = (l.filter fun c => decide (c = 10)).length
  | [], [], _, _ => rfl
  | [], _ :: _, h, _ => by simp at h
  | _ :: _, [], h, _ => by simp at h
  | c :: l, v :: vs, h, k => by
    have ih := filt_nl l vs (by simpa using h) fun j v hj => k (j + 1) v (by simpa using hj)
    obtain ⟨ch, u, h1, h2⟩ := k 0 v rfl
    cases h1
    subst h2
    rw [List.filter_cons, List.filter_cons, isNl_sign]
    by_cases hc : c = 10
    · rw [if_pos (decide_eq_true hc), if_pos (decide_eq_true hc), List.length_cons, List.length_cons, ih]
    · rw [if_neg (by rw [decide_eq_false hc]; decide), if_neg (by rw [decide_eq_false hc]; decide), ih]
theorem paired_len {FF : Value → Value → Prop} {vs ys : List Value} (h : Paired FF vs ys) : ys.length = vs.length := by
  induction h with
  | nil => rfl
  | cons _ _ ih => rw [List.length_cons, List.length_cons, ih]
example : True := by
  k_with "TPost" => refine Stop.out ?_
  k_with "compareOp NotEq ref ref" => (k_here; (with_reducible show wpAny _ _ (compareOp CmpOp.NotEq (Value.ref _) (Value.ref _)) _ _ _); refine Stop.out ?_)
  trivial
variable {dp un : Nat} {gd : Option (List Code)} {fr : List Env} {g : Heap}
theorem law_b4 (Z : At w dp un gd fr g loose mean mg mb) (L f : Addr) (w2 : Obj) (W : Addr) (wv : List Value) (nw : Nat) (ws : List Str) (hws : StrsAre wv ws) (hw6 : ws.length = 6) (hwl : ∀ s ∈ ws, s.length ≤ 3) (hok : StrsOk ws)
    (tx : Str) (ttx : Tok) (a : LexA) (ps : Array Value) (Bx : Addr) (ok : LexOk w g tx a) (hlen : tx.length ≤ 900)
    (o1 : OffA Bx a) (o2 : OffA W a) (o3 : OffA (L + 1 + 1) a) (o4 : OffA 185 a) (o5 : OffA 221 a) (hB1 : L + 1 + 1 < Bx) (hB2 : W < Bx) (hsz : 185 < L ∧ 221 < L)
    (ln : Int) (hln : ln = 1 + ((tx.cps.toList.filter fun c => decide (c = 10)).length : Nat)) (its : List Value) (nb : Nat) (hits : StrsAre its ws) (tt : LexT) (nd np : Nat) (tp : Tok) (na : Nat)
    (s : Shared) (rest : Str → Option Value) (Q : Flow → Shared → Prop)
    (F : Fr g L s.heap (fm rest [("words", .ref W), ("text", .str tx ttx), ("lexer", .ref a.I), ("boxes", .ref Bx)]))
    (N : News g L s.heap ((Bx, listOf its.toArray nb) :: (lexTl w a ln tt nd [] np tx.length tp na ++ [(W, listOf wv.toArray nw), (L + 1 + 1, w2), (185, tabObj ps), (221, tabObj #[])])))
    (hq : ∀ h' tk' rest', Fr g L h' (fm rest' [("lexer", .ref a.I), ("boxes", .ref Bx)]) →
      News g L h' ((Bx, listOf its.toArray nb) :: (lexTl w a ln tt nd [] np tx.length tp na ++ [(L + 1 + 1, w2), (185, tabObj ps), (221, tabObj #[])])) → Q .next { s with heap := h', toks := tk' }) :
    wpAny (model P1 w) ((AR dp un gd fr).deeper (lawEnv L f)) (execs [lp.s7] (lawEnv L f)) Q (fun _ _ => False) s := by
  obtain ⟨B, Xg, Tg, C1, C2, hd, hu⟩ := Z
  have hl2 := hws.len_eq
  have hl3 := hits.len_eq
  have N0 := N
  dsimp only [lexTl, List.cons_append, List.nil_append] at N
  unfold lawEnv lp
  dsimp only
  k_steps
  unfold Stop
  refine' ne_same (N.isList ?m1) (N.isList ?m2) hits hws hok ?hu ?_
  case m1 => k_mem
  case m2 => k_mem
  case hu => first | units_room | exact Nat.le_of_ble_eq_true rfl
  k_steps
  unfold Stop
  refine' comp_eval isNl (fun _ _ => True) ?hclos ?hcell ?hkind ?hnames ?hx ?hs ?_
  walk_at "M comp"
  k_steps
  unfold Stop
  refine' comp_src (src_str rfl) (show tx.length ≤ 1000 by omega) (by k_asm) (by k_asm) ?g1 ?g2 ?g3
  case g1 =>
    intro C j v s₂ m₂ E' hP hn hm hk
    obtain ⟨ch, u, hch, rfl⟩ := hP
    rename Fr _ _ _ _ => F9
    have F2 := F9.keeps hk
    refine CTest.one ?_
    k_steps
    unfold Stop
    exact ⟨rfl, _, _, rfl, fun _ _ e => e⟩
  case g2 =>
    intro C j v s₂ m₂ E' hP hp hn hm hk
    rename Fr _ _ _ _ => F9
    have F2 := F9.keeps hk
    k_steps
    unfold Stop
    exact ⟨trivial, _, _, rfl, fun _ _ e => e⟩
  case g3 =>
    intro D ys vs' n' h' tk F N hD hlen hP hG
    have hc := filt_nl tx.cps.toList vs' (by rw [hlen, Array.length_toList]) fun j v hj => by
      obtain ⟨ch, u, a, b⟩ := hP j v hj
      exact ⟨ch, u, by rw [Array.getElem?_toList]; exact a, b⟩
    have hy := paired_len hG
    have hyl : ys.length ≤ 1000 := by
      rw [hy]
      refine Nat.le_trans (List.length_filter_le _ _) ?_
      rw [hlen]; show tx.length ≤ 1000; omega
    k_steps
    · exfalso
      rename ln ≠ _ => hne
      exact hne (by rw [hln, hy, hc])
    · exact hq _ _ _ (fr_norm [("lexer", .ref a.I), ("boxes", .ref Bx)] F (by walk_at "M names")) (fun p hp => N p (by
        simp only [List.mem_append, List.mem_cons, List.not_mem_nil, or_false] at hp ⊢
        rcases hp with h | h | h | h | h <;> simp only [h, true_or, or_true]))
end
example : True := by
  k_with_none
  trivial
example : True := by
  k_with "M enter" => (
  (case ho => k_is)
  (case hcd => k_is)
  (case hb => first | exact fun s Xs => BindsTo.of_eq rfl | exact fun s Xs => binds_K Xs rfl (by k_is) rfl rfl rfl)
  (case hl => exact locs rfl)
  (case h1 => decide)
  (case h2 => decide)
  (case h3 => exact rfl)
  (case h4 => exact rfl)
  (case h5 => exact rfl))
  k_with "M names" => (repeat' (first | exact List.forall_mem_nil _ | (refine List.forall_mem_cons.mpr ⟨?nm, ?_⟩; (case nm => rfl))))
  trivial
example : True := by
  k_with "M ne" => first | assumption | exact Ne.symm (by assumption) | k_ne
  trivial
example : True := by
  k_with "M len" => first | assumption | exact getD_len (by assumption) _ | omega
  k_with "M lens" => first | assumption | exact len_del (by assumption) | exact len_del (len_del (by assumption))
  k_with "M strs" => first | assumption | exact strs_del (by assumption) _ | exact strs_del (strs_del (by assumption) _) _
  k_with "M nat" => first | with_reducible exact fdiv2 _ _ | rfl | exact (Int.natCast_add _ _).symm | omega
  k_with "M le" => first | omega | ((try simp (disch := omega) only [delL_length, insL_length]); omega)
  k_with "subscriptTail Name Name ref int" => (k_here; k_dflt (refine' item_strsN ?N ?m ?h _ ?k ?l ?f ?_ ?hs ?hg; (case N => k_asm); (case m => k_mem); (case h => assumption); (case k => walk_at "M nat"); (case l => omega); (case f => omega); (case hs => with_unfolding_all rfl); (case hg => (intro _; with_unfolding_all rfl)); k_whole); intro tk')
  k_with "subscriptTail Name BinOp ref int" => (k_here; k_dflt (refine' item_strsN ?N ?m ?h _ ?k ?l ?f ?_ ?hs ?hg; (case N => k_asm); (case m => k_mem); (case h => assumption); (case k => walk_at "M nat"); (case l => omega); (case f => omega); (case hs => with_unfolding_all rfl); (case hg => (intro _; with_unfolding_all rfl)); k_whole); intro tk')
  k_with "exec While Compare cons nil" => refine Stop.out ?_
  k_with "call builtin:list.insert" => (k_here; (with_reducible show wpAny _ _ (call (Value.builtin _) [Value.ref _, Value.int _ _, _]) _ _ _); k_dflt (refine' ins_N ?F ?N _ ?k ?i ?l ?U ?_; (case F => k_asm); (case N => k_asm); (case U => k_upd); (case k => walk_at "M nat"); (case i => walk_at "M le"); (case l => walk_at "M le"); k_whole); intro h' F' N'; (try dsimp only [List.nil_append, List.cons_append] at N'); (try k_sweep))
  k_with "call builtin:list.pop" => (k_here; (with_reducible show wpAny _ _ (call (Value.builtin _) [Value.ref _, Value.int _ _]) _ _ _); k_dflt (refine' popS_N ?F ?N ?h _ ?k ?i ?l ?U ?_; (case F => k_asm); (case N => k_asm); (case U => k_upd); (case h => walk_at "M strs"); (case k => walk_at "M nat"); (case i => walk_at "M le"); (case l => walk_at "M le"); k_whole); intro h' tk' F' N'; (try dsimp only [List.nil_append, List.cons_append] at N'); (try k_sweep))
  k_with "pyIter ref" => ((with_reducible show wpAny _ _ (pyIter (Value.ref _)) (CompPostA _ _ _ _ _ _ _ _ _ _) _ _); refine Stop.out ?_)
  k_with "pyIter ref" => ((with_reducible show wpAny _ _ (pyIter (Value.ref _)) (fun it s₂ => LoopAtV _ _ _ _ _ _ _ _ _ it s₂) _ _); refine Stop.out ?_)
  k_with "call builtin:len" => (k_here; (with_reducible show wpAny _ _ (call (Value.builtin "len") [Value.ref _]) _ _ _); k_dflt (refine' len_N ?N ?m ?l ?_; (case N => k_asm); (case m => k_mem); (case l => walk_at "M le"); k_whole); intro t' tk')
  k_with "binaryOp Sub int int" => (k_here; (with_reducible refine' sub_natN ?h ?_; (case h => omega)); intro t' tk')
  k_with "binaryOp Sub int int" => (k_here; (with_reducible refine' sub_nat1 ?h ?_; (case h => omega)); intro t' tk')
  k_with "LPost" => refine Stop.out ?_
  k_with "WPost" => refine Stop.out ?_
  k_with "Done" => refine Stop.out ?_
  k_with "call builtin:len" => (k_here; (with_reducible show wpAny _ _ (call (Value.builtin "len") [Value.str _ _]) _ _ _); k_dflt (refine' lenS_N ?l ?_; (case l => walk_at "M len"); k_whole); intro t' tk')
  k_with "eval ListComp" => refine Stop.out ?_
  k_with "exec Assign cons ListComp" => refine Stop.out ?_
  k_with "CPost" => refine Stop.out ?_
  k_with "CPostA" => refine Stop.out ?_
  k_with "EPost" => refine Stop.out ?_
  trivial
example : True := by
  k_with "call builtin:list.append" => (k_here; (with_reducible show wpAny _ _ (call (Value.builtin _) [Value.ref _, _]) _ _ _); k_dflt (refine' app_N ?F ?N ?l ?U ?_; (case F => k_asm); (case N => k_asm); (case U => k_upd); (case l => walk_at "M le"); k_whole); intro h' F' N'; (try k_sweep))
  k_with "newList" => (k_here; k_dflt (refine' newList_N ?F ?N ?l ?_; (case F => k_asm); (case N => k_asm); (case l => exact Nat.le_of_ble_eq_true rfl); k_whole); intro D' h' F' N' l1 l2; (try (have l3 := l1; k_lt l3)); (try k_sweep))
  k_with "M enterC" => (
  (case ho => k_is)
  (case hcd => k_is)
  (case hb => first | exact fun s Xs => BindsTo.of_eq rfl | exact fun s Xs => binds_K Xs rfl (by k_is) rfl rfl rfl)
  (case hl => exact rfl)
  (case h2 => decide +kernel)
  (case h1 => decide)
  (case h3 => exact rfl)
  (case h4 => exact rfl)
  (case h5 => exact rfl))
  k_with "M comp" => (
  (case hclos => exact rfl)
  (case hcell => decide)
  (case hkind => exact rfl)
  (case hnames => decide)
  (case hx => exact rfl)
  (case hs => (intro _; exact rfl)))
  k_with "M compA" => (
  (case hsw => exact rfl)
  (case hclos => exact rfl)
  (case hcell => decide)
  (case hkind => exact rfl)
  (case hnames => decide)
  (case hx => exact rfl)
  (case hy => exact rfl)
  (case hp => exact rfl)
  (case hs => (intro _; exact rfl)))
  k_with "eval Name" => (k_here; (with_reducible show wpAny _ _ (eval (PySem.Expr.Name _ _) (compEnvC _ _ _ _)) _ _ _); k_dflt (first
  | (refine' cname ?n ?v ?k ?l ?d ?_; (case n => assumption); (case v => assumption); (case k => exact rfl); (case l => exact rfl); (case d => decide))
  | (refine' ccell ?N ?c ?m ?d ?k ?l ?b ?_; (case N => k_asm); (case c => exact rfl); (case m => k_mem); (case d => assumption); (case k => exact rfl); (case l => exact rfl); (case b => decide))
  | (refine' cbuilt ?F ?X ?T ?e ?v ?n ?g ?b ?k ?l ?d ?_; (case F => k_asm); (case X => k_asm); (case T => k_asm); (case e => k_is); (case v => boot_by_name); (case n => decide); (case g => exact rfl); (case b => exact rfl); (case k => exact rfl); (case l => exact rfl); (case d => decide))
  | (refine' cglob ?F ?X ?T ?e ?g ?k ?l ?d ?_; (case F => k_asm); (case X => k_asm); (case T => k_asm); (case e => k_is); (case g => exact rfl); (case k => exact rfl); (case l => exact rfl); (case d => decide))
  | fail))
  trivial
example : True := by
  k_with "call ref" => ((with_reducible show wpAny _ _ (call (Value.ref 202) [Value.str _ _] []) _ _ _); k_dflt (refine' use_fs (size_fs ?X ?T _ _ ?hx) ?B ?F ?N ?hf ?hk ?hd ?hu ?hp ?_; (case B => assumption); (case X => assumption); (case T => assumption); (case F => k_asm); (case N => k_asm); (case hf => rfl); (case hk => rfl); (case hp => walk_at "M picks"); (case hx => walk_at "M len"); (case hd => ktr_room); (case hu => ktr_units); k_whole); intro v' tl' h' tk' hr' F' N' hn'; (obtain ⟨t', hv', ht'⟩ := hr'); (subst hv'); (subst ht'); (clear hn'); (try dsimp only [List.nil_append, List.cons_append] at N'); (try k_sweep))
  trivial

example : True := by
  k_with "call ref" => ((with_reducible show wpAny _ _ (call (Value.ref 39) _ _) _ _ _); k_dflt (refine' use_fs (bisR_fs ?X ?T _ _ _ _ _ _ ?hss _ _ _ _ ?hlo ?hhi _ _ ?h1 ?h2 ?h3 ?h4) ?B ?F ?N ?hf ?hk ?hd ?hu ?hp ?_; (case B => assumption); (case X => assumption); (case T => assumption); (case F => k_asm); (case N => k_asm); (case hf => rfl); (case hk => rfl); (case hp => walk_at "M picks"); (case hss => walk_at "M strs"); (case hlo => walk_at "M nat"); (case hhi => walk_at "M nat"); (case h1 => omega); (case h2 => walk_at "M le"); (case h3 => walk_at "M le"); (case h4 => walk_at "M lens"); (case hd => ktr_room); (case hu => ktr_units); k_whole); intro v' tl' h' tk' hr' F' N' hn'; (obtain ⟨t', hv', ht'⟩ := hr'); (subst hv'); (subst ht'); (clear hn'); (try dsimp only [List.nil_append, List.cons_append] at N'); (try k_sweep))
  k_with "call ref" => ((with_reducible show wpAny _ _ (call (Value.ref 57) _ _) _ _ _); k_dflt (refine' use_fs (bisL_fs ?X ?T _ _ _ _ _ _ ?hss _ _ _ _ ?hlo ?hhi _ _ ?h1 ?h2 ?h3 ?h4) ?B ?F ?N ?hf ?hk ?hd ?hu ?hp ?_; (case B => assumption); (case X => assumption); (case T => assumption); (case F => k_asm); (case N => k_asm); (case hf => rfl); (case hk => rfl); (case hp => walk_at "M picks"); (case hss => walk_at "M strs"); (case hlo => walk_at "M nat"); (case hhi => walk_at "M nat"); (case h1 => omega); (case h2 => walk_at "M le"); (case h3 => walk_at "M le"); (case h4 => walk_at "M lens"); (case hd => ktr_room); (case hu => ktr_units); k_whole); intro v' tl' h' tk' hr' F' N' hn'; (obtain ⟨t', hv', ht'⟩ := hr'); (subst hv'); (subst ht'); (clear hn'); (try dsimp only [List.nil_append, List.cons_append] at N'); (try k_sweep))
  trivial

example : True := by
  k_with "call ref" => ((with_reducible show wpAny _ _ (call (Value.ref 30) _ _) _ _ _); k_dflt (refine' use_fs (insR_fs ?X ?T _ _ _ _ _ _ ?hss _ _ _ _ ?hlo ?hhi _ _ ?h1 ?h2 ?h3 ?h4 ?hx) ?B ?F ?N ?hf ?hk ?hd ?hu ?hp ?_; (case B => assumption); (case X => assumption); (case T => assumption); (case F => k_asm); (case N => k_asm); (case hf => rfl); (case hk => rfl); (case hp => walk_at "M picks"); (case hss => walk_at "M strs"); (case hlo => walk_at "M nat"); (case hhi => walk_at "M nat"); (case h1 => omega); (case h2 => walk_at "M le"); (case h3 => walk_at "M le"); (case h4 => walk_at "M lens"); (case hx => walk_at "M len"); (case hd => ktr_room); (case hu => ktr_units); k_whole); intro v' tl' h' tk' hr' F' N' hn'; (obtain ⟨hv', ht'⟩ := hr'); (subst hv'); (subst ht'); (clear hn'); (try dsimp only [List.nil_append, List.cons_append] at N'); (try k_sweep))
  k_with "call ref" => ((with_reducible show wpAny _ _ (call (Value.ref 48) _ _) _ _ _); k_dflt (refine' use_fs (insL_fs ?X ?T _ _ _ _ _ _ ?hss _ _ _ _ ?hlo ?hhi _ _ ?h1 ?h2 ?h3 ?h4 ?hx) ?B ?F ?N ?hf ?hk ?hd ?hu ?hp ?_; (case B => assumption); (case X => assumption); (case T => assumption); (case F => k_asm); (case N => k_asm); (case hf => rfl); (case hk => rfl); (case hp => walk_at "M picks"); (case hss => walk_at "M strs"); (case hlo => walk_at "M nat"); (case hhi => walk_at "M nat"); (case h1 => omega); (case h2 => walk_at "M le"); (case h3 => walk_at "M le"); (case h4 => walk_at "M lens"); (case hx => walk_at "M len"); (case hd => ktr_room); (case hu => ktr_units); k_whole); intro v' tl' h' tk' hr' F' N' hn'; (obtain ⟨hv', ht'⟩ := hr'); (subst hv'); (subst ht'); (clear hn'); (try dsimp only [List.nil_append, List.cons_append] at N'); (try k_sweep))
  trivial

example : True := by
  k_with "call ref" => ((with_reducible show wpAny _ _ (call (Value.ref 207) [Value.ref _, Value.ref 30] _) _ _ _); k_dflt (refine' use_fs (rowR_fs ?X ?T _ _ _ _ ?hss ?h3 ?h4) ?B ?F ?N ?hf ?hk ?hd ?hu ?hp ?_; (case B => assumption); (case X => assumption); (case T => assumption); (case F => k_asm); (case N => k_asm); (case hf => rfl); (case hk => rfl); (case hp => walk_at "M picks"); (case hss => walk_at "M strs"); (case h3 => walk_at "M le"); (case h4 => walk_at "M lens"); (case hd => ktr_room); (case hu => ktr_units); k_whole); intro v' tl' h' tk' hr' F' N' hn'; (obtain ⟨D', its', n', hv', hne', hS', ht'⟩ := hr'); (subst hv'); (subst ht'); (have hO' := off_one hn' hne'); (clear hn'); (try dsimp only [List.nil_append, List.cons_append] at N'); (try k_sweep))
  k_with "call ref" => ((with_reducible show wpAny _ _ (call (Value.ref 207) [Value.ref _, Value.ref 48] _) _ _ _); k_dflt (refine' use_fs (rowL_fs ?X ?T _ _ _ _ ?hss ?h3 ?h4) ?B ?F ?N ?hf ?hk ?hd ?hu ?hp ?_; (case B => assumption); (case X => assumption); (case T => assumption); (case F => k_asm); (case N => k_asm); (case hf => rfl); (case hk => rfl); (case hp => walk_at "M picks"); (case hss => walk_at "M strs"); (case h3 => walk_at "M le"); (case h4 => walk_at "M lens"); (case hd => ktr_room); (case hu => ktr_units); k_whole); intro v' tl' h' tk' hr' F' N' hn'; (obtain ⟨D', its', n', hv', hne', hS', ht'⟩ := hr'); (subst hv'); (subst ht'); (have hO' := off_one hn' hne'); (clear hn'); (try dsimp only [List.nil_append, List.cons_append] at N'); (try k_sweep))
  trivial

example : True := by
  k_with "call ref" => ((with_reducible show wpAny _ _ (call (Value.ref 219) _ _) _ _ _); k_dflt (refine' use_fs (turned_fs ?X ?T _ _ _ _ ?hss ?h3) ?B ?F ?N ?hf ?hk ?hd ?hu ?hp ?_; (case B => assumption); (case X => assumption); (case T => assumption); (case F => k_asm); (case N => k_asm); (case hf => rfl); (case hk => rfl); (case hp => walk_at "M picks"); (case hss => walk_at "M strs"); (case h3 => walk_at "M le"); (case hd => ktr_room); (case hu => ktr_units); k_whole); intro v' tl' h' tk' hr' F' N' hn'; (obtain ⟨D', its', n', hv', hne', hS', ht'⟩ := hr'); (subst hv'); (subst ht'); (have hO' := off_one hn' hne'); (clear hn'); (try dsimp only [List.nil_append, List.cons_append] at N'); (try k_sweep))
  trivial

example : True := by
  k_with "call ref" => ((with_reducible show wpAny _ _ (call (Value.ref 134) _ []) _ _ _); k_dflt (refine' use_fs (count_fs ?X ?T _ _ _ _ _ _ _ ?v ?n) ?B ?F ?N ?hf ?hk ?hd ?hu ?hp ?_; (case B => assumption); (case X => assumption); (case T => assumption); (case F => k_asm); (case N => k_asm); (case hf => rfl); (case hk => rfl); (case hp => walk_at "M picks"); (case v => ((try simp only [List.length_append, List.length_cons, List.length_nil]); omega)); (case n => walk_at "M ne"); (case hd => ktr_room); (case hu => ktr_units); k_whole); intro v' tl' h' tk' hr' F' N' hn'; (obtain ⟨⟨tz', hz'⟩, hy'⟩ := hr'); (subst hz'); (subst hy'); (clear hn'); (try dsimp only [List.nil_append, List.cons_append] at N'); (try k_sweep))
  trivial


noncomputable section
variable {dp un : Nat} {gd : Option (List Code)} {fr : List Env} {g : Heap}
theorem law_b5 (Z : At w dp un gd fr g loose mean mg mb) (L f : Addr) (a : LexA) (Bx : Addr) (its : List Value) (nb : Nat) (ws : List Str) (hits : StrsAre its ws) (hw6 : ws.length = 6)
    (s : Shared) (rest : Str → Option Value) (ex : Led) (Q : Flow → Shared → Prop)
    (F : Fr g L s.heap (fm rest [("lexer", .ref a.I), ("boxes", .ref Bx)]))
    (N : News g L s.heap ((Bx, listOf its.toArray nb) :: ex))
    (hq : ∀ h' tk' rest' C cv nc, Fr g L h' (fm rest' [("lexer", .ref a.I), ("boxes", .ref C)]) →
      News g L h' ((C, listOf cv.toArray nc) :: ex) → StrsAre cv (ws ++ List.replicate 6 ("" : Str)) → Off C ex → Q .next { s with heap := h', toks := tk' }) :
    wpAny (model P1 w) ((AR dp un gd fr).deeper (lawEnv L f)) (execs [lp.s8] (lawEnv L f)) Q (fun _ _ => False) s := by
  obtain ⟨B, Xg, Tg, C1, C2, hd, hu⟩ := Z
  have hl3 := hits.len_eq
  unfold lawEnv lp
  dsimp only
  k_steps
  rename Fr _ _ _ _ => F
  rename News _ _ _ _ => N
  refine' PySem.W.KMa.mul (vs := [.str "" s.toks]) F N (N.isList (.head _)) (by decide) (by decide) (Nat.le_of_ble_eq_true rfl) rfl ?_
  intro D1 h1 F N lD
  k_steps
  refine' kmk_add_lit F N (N.isList ?mb) (N.isList (.head _)) rfl ?_ ?hz
  case mb => k_mem
  case hz => exact Nat.le_trans (show its.length + 6 ≤ 1000 by omega) (by simp [sizeLine_eq])
  intro C1' h2 F N lC
  k_steps
  rename Fr _ _ _ _ => F
  rename News _ _ _ _ => N
  have hS : StrsAre (its ++ [.str "" s.toks, .str "" s.toks, .str "" s.toks, .str "" s.toks, .str "" s.toks, .str "" s.toks]) (ws ++ List.replicate 6 ("" : Str)) := strs_app hits (.cons _ _ (.cons _ _ (.cons _ _ (.cons _ _ (.cons _ _ (.cons _ _ .nil))))))
  refine hq _ _ _ C1' _ 0 (fr_norm [("lexer", .ref a.I), ("boxes", .ref _)] F (by walk_at "M names")) (fun p hp => N p ?_) hS (fun p hp => Nat.ne_of_lt (lC p ?_))
  · rcases List.mem_cons.mp hp with rfl | hp
    · exact .head _
    · simp only [List.mem_cons, hp, or_true]
  · simp only [List.mem_cons, hp, or_true]
end

noncomputable section
def lamOf : Stmt → Arguments × PySem.Expr × Scope
  | .Assign _ (.Lambda a b s _) _ => (a, b, s)
  | _ => default
structure LamParts (st : Stmt) where
  (po : List Arg) (ar : List Arg) (va : Option Arg) (ko : List Arg) (kd : List (Option PySem.Expr)) (kw : Option Arg) (df : List PySem.Expr) (body : PySem.Expr)
  (kind : ScopeKind) (names : List (Str × NameKind)) (ig ic : Bool) (more : List (Str × Const))
  eq : lamOf st = (⟨po, ar, va, ko, kd, kw, df⟩, body, ⟨kind, names, ig, ic, more⟩)
def lamLay : LamParts lp.s10 := ⟨_, _, _, _, _, _, _, _, _, _, _, _, _, rfl⟩
def lamTake : LamParts lp.s11 := ⟨_, _, _, _, _, _, _, _, _, _, _, _, _, rfl⟩
def layObj (q : Str) (L : Addr) (pm : Value) (c : Addr) (ct : Value) : Obj :=
  kla_obj "<lambda>" q ⟨lamLay.po, lamLay.ar, lamLay.va, lamLay.ko, lamLay.kd, lamLay.kw, lamLay.df⟩ lamLay.body ⟨lamLay.kind, lamLay.names, lamLay.ig, lamLay.ic, lamLay.more⟩ [("pile", L + 1 + 1)] pm c ct
def takeObj (q : Str) (L : Addr) (pm : Value) (c : Addr) (ct : Value) : Obj :=
  kla_obj "<lambda>" q ⟨lamTake.po, lamTake.ar, lamTake.va, lamTake.ko, lamTake.kd, lamTake.kw, lamTake.df⟩ lamTake.body ⟨lamTake.kind, lamTake.names, lamTake.ig, lamTake.ic, lamTake.more⟩ [("pile", L + 1 + 1)] pm c ct
def CodeOb (q : Str) (o : Obj) : Prop := ∃ vs t, o.data = .fields vs ∧ vs[1]? = some (.str q t)
example : True := by
  k_with "getMethod ref" => (k_here; k_dflt (refine' method_in ?F ?X ?I ?g ?k ?f ?t ?l ?_; (case F => k_asm); (case X => k_asm); (case I => exact inst_acc (by k_asm) (by k_mem) (by k_mem)); (case g => k_is); (case k => k_is); (case f => k_is); (case t => k_is); (case l => with_unfolding_all k_get); k_whole))
  k_with "call ref" => (k_here; (with_reducible show wpAny _ _ (call (Value.ref 81) _ _) _ _ _); refine Stop.out ?_)
  k_with "call ref" => (k_here; (with_reducible show wpAny _ _ (call (Value.ref 97) _ _) _ _ _); refine Stop.out ?_)
  trivial
set_option maxHeartbeats 400000 in
theorem lay_fs (X : (Kf w.params).In b₀) (T : Top topProg loose mean mg mb b₀) (L f c x dx : Addr) (pm ct : Value) (fo oc op : Obj) (q : Str) (hfo : fo = layObj q L pm c ct) (hoc : CodeOb q oc) (hop : op.data = .cell (some (.ref x))) (k0 t0 : Tok) (nd n : Nat) (vs : List Value) (hv : vs.length ≤ 900)
    (e1 : x ≠ dx) (e2 : x ≠ f) (e3 : dx ≠ f) (e4 : x ≠ c) (e5 : dx ≠ c) (e6 : x ≠ L + 1 + 1) (e7 : dx ≠ L + 1 + 1) (wd : Str) (t : Tok) (hw : wd.length ≤ 1000) :
    FS P1 w b₀ 12 120 (.ref f) ⟨[.str wd t], []⟩ [(f, fo), (c, oc), (L + 1 + 1, op), (x, accObj dx vs n), (dx, dictOf (accD w k0 t0) nd)]
      (fun _ tl' => ∃ p ta tb, x ≠ p ∧ dx ≠ p ∧ f ≠ p ∧ c ≠ p ∧ L + 1 + 1 ≠ p ∧ tl' = [(p, tupObj (Txt.slice wd none (some 1)) (Txt.slice wd (some 1) none) ta tb), (x, accObj dx (vs ++ [.ref p]) (n + 1)), (dx, dictOf (accD w k0 t0) nd), (f, fo), (c, oc), (L + 1 + 1, op)]) := by
  obtain ⟨cvs, ctq, hc1, hc2⟩ := hoc
  have ho : (f, layObj q L pm c ct) ∈ [(f, fo), (c, oc), (L + 1 + 1, op), (x, accObj dx vs n), (dx, dictOf (accD w k0 t0) nd)] := by rw [← hfo]; exact .head _
  unfold layObj at ho
  clear hfo
  generalize L + 1 + 1 = pc at *
  unfold lamLay at ho
  dsimp only at ho
  refine' enterLam (binds := [("word", .str wd t)]) X T ho (.tail _ (.head _)) hc1 hc2 rfl ?hl ?h ?h1 ?h2 ?h3 ?h4 ?h5
  case hl => exact locs rfl
  case h1 => decide
  case h2 => decide
  case h3 => exact rfl
  case h4 => exact rfl
  case h5 => exact rfl
  intro dp un gd fr s g L' h₁ hd hu F N B st Xg Tg lN
  (try dsimp only)
  unfold accD at *
  walk_at "eval Call Attribute"
  refine' nameX_F ?N ?c ?m ?d ?_ ?a ?b
  (case a => rfl)
  (case b => rfl)
  (case N => k_asm)
  (case c => rfl)
  (case m => k_mem)
  (case d => assumption)
  k_steps
  unfold Stop
  rename Fr _ _ _ _ => F1
  rename News _ _ _ _ => N1
  refine' use_fsT (rest := [(f, fo), (c, oc), (pc, op)]) (apush_fs X T x dx k0 t0 nd n vs hv e1 _ _ _ _) B F1 N1 rfl rfl ?hd ?hu ?htl ?hrest ?_
  case hd => ktr_room
  case hu => ktr_units
  case htl =>
    intro q hq
    rcases List.mem_cons.mp hq with rfl | hq
    · exact .tail _ (.tail _ (.tail _ (.head _)))
    · rw [List.mem_singleton.mp hq]; exact .tail _ (.tail _ (.tail _ (.tail _ (.head _))))
  case hrest =>
    have two : ∀ b, x ≠ b → dx ≠ b → ∀ z ∈ [(x, accObj dx vs n), (dx, dictOf (accD w k0 t0) nd)], z.1 ≠ b := fun b k1 k2 z hz => by
      rcases List.mem_cons.mp hz with rfl | hz
      · exact k1
      · rw [List.mem_singleton.mp hz]; exact k2
    exact offs_cons (.head _) (two f e2 e3) (offs_cons (.tail _ (.head _)) (two c e4 e5) (offs_cons (.tail _ (.tail _ (.head _))) (two pc e6 e7) (fun _ h => nomatch h)))
  rintro v tl' h' tk' ⟨p, n1, n2, rfl⟩ F N hn
  have hp := (hn (p, _) (.head _)).resolve_left (by
    simp only [List.map_cons, List.map_nil, List.mem_cons, List.not_mem_nil, or_false, not_or]
    exact ⟨n1.symm, n2.symm⟩)
  k_steps
  unfold Stop
  exact ⟨_, _, _, _, _, rfl, F, N, p, _, _, n1, n2, hp _ (.head _), hp _ (.tail _ (.head _)), hp _ (.tail _ (.tail _ (.head _))), rfl⟩
example : True := by
  k_with "eval Name" => ((with_reducible show wpAny _ _ (eval (PySem.Expr.Name (PySem.Str.ofString "pile") _) _) _ _ _); refine Stop.out ?_)
  trivial
theorem take_fs (X : (Kf w.params).In b₀) (T : Top topProg loose mean mg mb b₀) (L f c x dx p : Addr) (pm ct : Value) (fo oc op : Obj) (q : Str) (hfo : fo = takeObj q L pm c ct) (hoc : CodeOb q oc) (hop : op.data = .cell (some (.ref x))) (k0 t0 : Tok) (nd n : Nat) (vs : List Value) (hv : vs.length ≤ 800)
    (e1 : x ≠ dx) (e2 : x ≠ f) (e3 : dx ≠ f) (e4 : x ≠ c) (e5 : dx ≠ c) (e6 : x ≠ L + 1 + 1) (e7 : dx ≠ L + 1 + 1) (e8 : x ≠ p) (e9 : dx ≠ p) (sa sb : Str) (ta tb : Tok) (ha : sa.length ≤ 1000) (hb : sb.length ≤ 1000) :
    FS P1 w b₀ 12 120 (.ref f) ⟨[], []⟩ [(f, fo), (c, oc), (L + 1 + 1, op), (x, accObj dx (vs ++ [.ref p]) n), (dx, dictOf (accD w k0 t0) nd), (p, tupObj sa sb ta tb)]
      (fun v tl' => (∃ t, v = .str (Txt.join "" [sa, sb]) t) ∧ tl' = [(x, accObj dx vs (n + 1)), (dx, dictOf (accD w k0 t0) nd), (f, fo), (c, oc), (L + 1 + 1, op)]) := by
  obtain ⟨cvs, ctq, hc1, hc2⟩ := hoc
  have ho : (f, takeObj q L pm c ct) ∈ [(f, fo), (c, oc), (L + 1 + 1, op), (x, accObj dx (vs ++ [.ref p]) n), (dx, dictOf (accD w k0 t0) nd), (p, tupObj sa sb ta tb)] := by rw [← hfo]; exact .head _
  unfold takeObj at ho
  clear hfo
  generalize L + 1 + 1 = pc at *
  unfold lamTake at ho
  dsimp only at ho
  refine' enterLam (binds := []) X T ho (.tail _ (.head _)) hc1 hc2 rfl ?hl ?h ?h1 ?h2 ?h3 ?h4 ?h5
  case hl => exact locs rfl
  case h1 => decide
  case h2 => decide
  case h3 => exact rfl
  case h4 => exact rfl
  case h5 => exact rfl
  intro dp un gd fr s g L' h₁ hd hu F N B st Xg Tg lN
  (try dsimp only)
  k_steps
  unfold Stop
  refine' nameX_F ?N ?c ?m ?d ?_ ?a ?b
  (case a => rfl)
  (case b => rfl)
  (case N => k_asm)
  (case c => rfl)
  (case m => k_mem)
  (case d => assumption)
  unfold accD at *
  k_steps
  unfold Stop
  rename Fr _ _ _ _ => F1
  rename News _ _ _ _ => N1
  refine' use_fsT (rest := [(f, fo), (c, oc), (pc, op), (p, tupObj sa sb ta tb)]) (apop_fs X T x dx p k0 t0 nd n vs hv e1 e8 e9 sa sb ta tb) B F1 N1 rfl rfl ?hd ?hu ?htl ?hrest ?_
  case hd => ktr_room
  case hu => ktr_units
  case htl =>
    intro q hq
    rcases List.mem_cons.mp hq with rfl | hq
    · exact .tail _ (.tail _ (.tail _ (.head _)))
    · rw [List.mem_singleton.mp hq]; exact .tail _ (.tail _ (.tail _ (.tail _ (.head _))))
  case hrest =>
    have two : ∀ b, x ≠ b → dx ≠ b → ∀ z ∈ [(x, accObj dx (vs ++ [.ref p]) n), (dx, dictOf (accD w k0 t0) nd)], z.1 ≠ b := fun b k1 k2 z hz => by
      rcases List.mem_cons.mp hz with rfl | hz
      · exact k1
      · rw [List.mem_singleton.mp hz]; exact k2
    exact offs_cons (.head _) (two f e2 e3) (offs_cons (.tail _ (.head _)) (two c e4 e5) (offs_cons (.tail _ (.tail _ (.head _))) (two pc e6 e7) (offs_cons (.tail _ (.tail _ (.tail _ (.tail _ (.tail _ (.head _)))))) (two p e8 e9) (fun _ h => nomatch h))))
  rintro v tl' h' tk' ⟨rfl, rfl⟩ F N hn
  k_steps
  refine' join_tupleW (ys := [sa, sb]) (News.isTup N (items := #[.str sa ta, .str sb tb]) ?mp) (.cons _ _ (.cons _ _ .nil)) (by decide) (by simp; omega) ?_
  case mp => k_mem
  intro tj kj
  unfold accD at N
  refine ⟨_, _, _, _, _, rfl, F, fun q hq => N q ?_, ⟨_, rfl⟩, rfl⟩
  simp only [List.mem_append, List.mem_cons, List.not_mem_nil, or_false] at hq ⊢
  rcases hq with h | h | h | h | h <;> simp only [h, true_or, or_true]
theorem take0_fs (X : (Kf w.params).In b₀) (T : Top topProg loose mean mg mb b₀) (L f c x dx : Addr) (pm ct : Value) (fo oc op : Obj) (q : Str) (hfo : fo = takeObj q L pm c ct) (hoc : CodeOb q oc) (hop : op.data = .cell (some (.ref x))) (k0 t0 : Tok) (nd n : Nat)
    (e1 : x ≠ dx) (e2 : x ≠ f) (e3 : dx ≠ f) (e4 : x ≠ c) (e5 : dx ≠ c) (e6 : x ≠ L + 1 + 1) (e7 : dx ≠ L + 1 + 1) :
    FS P1 w b₀ 12 120 (.ref f) ⟨[], []⟩ [(f, fo), (c, oc), (L + 1 + 1, op), (x, accObj dx [] n), (dx, dictOf (accD w k0 t0) nd)]
      (fun v tl' => (∃ t, v = .str "" t) ∧ tl' = [(x, accObj dx [] n), (dx, dictOf (accD w k0 t0) nd), (f, fo), (c, oc), (L + 1 + 1, op)]) := by
  obtain ⟨cvs, ctq, hc1, hc2⟩ := hoc
  have ho : (f, takeObj q L pm c ct) ∈ [(f, fo), (c, oc), (L + 1 + 1, op), (x, accObj dx [] n), (dx, dictOf (accD w k0 t0) nd)] := by rw [← hfo]; exact .head _
  unfold takeObj at ho
  clear hfo
  generalize L + 1 + 1 = pc at *
  unfold lamTake at ho
  dsimp only at ho
  refine' enterLam (binds := []) X T ho (.tail _ (.head _)) hc1 hc2 rfl ?hl ?h ?h1 ?h2 ?h3 ?h4 ?h5
  case hl => exact locs rfl
  case h1 => decide
  case h2 => decide
  case h3 => exact rfl
  case h4 => exact rfl
  case h5 => exact rfl
  intro dp un gd fr s g L' h₁ hd hu F N B st Xg Tg lN
  (try dsimp only)
  k_steps
  unfold Stop
  refine' nameX_F ?N ?c ?m ?d ?_ ?a ?b
  (case a => rfl)
  (case b => rfl)
  (case N => k_asm)
  (case c => rfl)
  (case m => k_mem)
  (case d => assumption)
  unfold accD at *
  k_steps
  unfold Stop
  rename Fr _ _ _ _ => F1
  rename News _ _ _ _ => N1
  refine' use_fsT (rest := [(f, fo), (c, oc), (pc, op)]) (apop0_fs X T x dx k0 t0 nd n e1) B F1 N1 rfl rfl ?hd ?hu ?htl ?hrest ?_
  case hd => ktr_room
  case hu => ktr_units
  case htl =>
    intro q hq
    rcases List.mem_cons.mp hq with rfl | hq
    · exact .tail _ (.tail _ (.tail _ (.head _)))
    · rw [List.mem_singleton.mp hq]; exact .tail _ (.tail _ (.tail _ (.tail _ (.head _))))
  case hrest =>
    have two : ∀ b, x ≠ b → dx ≠ b → ∀ z ∈ [(x, accObj dx [] n), (dx, dictOf (accD w k0 t0) nd)], z.1 ≠ b := fun b k1 k2 z hz => by
      rcases List.mem_cons.mp hz with rfl | hz
      · exact k1
      · rw [List.mem_singleton.mp hz]; exact k2
    exact offs_cons (.head _) (two f e2 e3) (offs_cons (.tail _ (.head _)) (two c e4 e5) (offs_cons (.tail _ (.tail _ (.head _))) (two pc e6 e7) (fun _ h => nomatch h)))
  rintro v tl' h' tk' ⟨p, ta, tb, rfl, n1, n2, rfl⟩ F N hn
  k_steps
  unfold Stop
  rename Fr _ _ _ _ => F
  rename News _ _ _ _ => N
  unfold accD at N
  refine ⟨_, _, _, _, _, rfl, F, fun q hq => N q ?_, ⟨_, by rw [show Txt.join "" [("" : Str), ("" : Str)] = ("" : Str) by decide +kernel]⟩, rfl⟩
  simp only [List.mem_append, List.mem_cons, List.not_mem_nil, or_false] at hq ⊢
  rcases hq with h | h | h | h | h <;> simp only [h, true_or, or_true]
end
example : True := by
  k_with_none
  trivial
example : True := by
  k_with "M enter" => (
  (case ho => k_is)
  (case hcd => k_is)
  (case hb => first | exact fun s Xs => BindsTo.of_eq rfl | exact fun s Xs => binds_K Xs rfl (by k_is) rfl rfl rfl)
  (case hl => exact locs rfl)
  (case h1 => decide)
  (case h2 => decide)
  (case h3 => exact rfl)
  (case h4 => exact rfl)
  (case h5 => exact rfl))
  k_with "M names" => (repeat' (first | exact List.forall_mem_nil _ | (refine List.forall_mem_cons.mpr ⟨?nm, ?_⟩; (case nm => rfl))))
  trivial
example : True := by
  k_with "M ne" => first | assumption | exact Ne.symm (by assumption) | k_ne
  trivial
example : True := by
  k_with "M len" => first | assumption | exact getD_len (by assumption) _ | omega
  k_with "M lens" => first | assumption | exact len_del (by assumption) | exact len_del (len_del (by assumption))
  k_with "M strs" => first | assumption | exact strs_del (by assumption) _ | exact strs_del (strs_del (by assumption) _) _
  k_with "M nat" => first | with_reducible exact fdiv2 _ _ | rfl | exact (Int.natCast_add _ _).symm | omega
  k_with "M le" => first | omega | ((try simp (disch := omega) only [delL_length, insL_length]); omega)
  k_with "subscriptTail Name Name ref int" => (k_here; k_dflt (refine' item_strsN ?N ?m ?h _ ?k ?l ?f ?_ ?hs ?hg; (case N => k_asm); (case m => k_mem); (case h => assumption); (case k => walk_at "M nat"); (case l => omega); (case f => omega); (case hs => with_unfolding_all rfl); (case hg => (intro _; with_unfolding_all rfl)); k_whole); intro tk')
  k_with "subscriptTail Name BinOp ref int" => (k_here; k_dflt (refine' item_strsN ?N ?m ?h _ ?k ?l ?f ?_ ?hs ?hg; (case N => k_asm); (case m => k_mem); (case h => assumption); (case k => walk_at "M nat"); (case l => omega); (case f => omega); (case hs => with_unfolding_all rfl); (case hg => (intro _; with_unfolding_all rfl)); k_whole); intro tk')
  k_with "exec While Compare cons nil" => refine Stop.out ?_
  k_with "call builtin:list.insert" => (k_here; (with_reducible show wpAny _ _ (call (Value.builtin _) [Value.ref _, Value.int _ _, _]) _ _ _); k_dflt (refine' ins_N ?F ?N _ ?k ?i ?l ?U ?_; (case F => k_asm); (case N => k_asm); (case U => k_upd); (case k => walk_at "M nat"); (case i => walk_at "M le"); (case l => walk_at "M le"); k_whole); intro h' F' N'; (try dsimp only [List.nil_append, List.cons_append] at N'); (try k_sweep))
  k_with "call builtin:list.pop" => (k_here; (with_reducible show wpAny _ _ (call (Value.builtin _) [Value.ref _, Value.int _ _]) _ _ _); k_dflt (refine' popS_N ?F ?N ?h _ ?k ?i ?l ?U ?_; (case F => k_asm); (case N => k_asm); (case U => k_upd); (case h => walk_at "M strs"); (case k => walk_at "M nat"); (case i => walk_at "M le"); (case l => walk_at "M le"); k_whole); intro h' tk' F' N'; (try dsimp only [List.nil_append, List.cons_append] at N'); (try k_sweep))
  k_with "pyIter ref" => ((with_reducible show wpAny _ _ (pyIter (Value.ref _)) (CompPostA _ _ _ _ _ _ _ _ _ _) _ _); refine Stop.out ?_)
  k_with "pyIter ref" => ((with_reducible show wpAny _ _ (pyIter (Value.ref _)) (fun it s₂ => LoopAtV _ _ _ _ _ _ _ _ _ it s₂) _ _); refine Stop.out ?_)
  k_with "call builtin:len" => (k_here; (with_reducible show wpAny _ _ (call (Value.builtin "len") [Value.ref _]) _ _ _); k_dflt (refine' len_N ?N ?m ?l ?_; (case N => k_asm); (case m => k_mem); (case l => walk_at "M le"); k_whole); intro t' tk')
  k_with "binaryOp Sub int int" => (k_here; (with_reducible refine' sub_natN ?h ?_; (case h => omega)); intro t' tk')
  k_with "binaryOp Sub int int" => (k_here; (with_reducible refine' sub_nat1 ?h ?_; (case h => omega)); intro t' tk')
  k_with "LPost" => refine Stop.out ?_
  k_with "WPost" => refine Stop.out ?_
  k_with "Done" => refine Stop.out ?_
  k_with "call builtin:len" => (k_here; (with_reducible show wpAny _ _ (call (Value.builtin "len") [Value.str _ _]) _ _ _); k_dflt (refine' lenS_N ?l ?_; (case l => walk_at "M len"); k_whole); intro t' tk')
  k_with "eval ListComp" => refine Stop.out ?_
  k_with "exec Assign cons ListComp" => refine Stop.out ?_
  k_with "CPost" => refine Stop.out ?_
  k_with "CPostA" => refine Stop.out ?_
  k_with "EPost" => refine Stop.out ?_
  trivial
example : True := by
  k_with "call builtin:list.append" => (k_here; (with_reducible show wpAny _ _ (call (Value.builtin _) [Value.ref _, _]) _ _ _); k_dflt (refine' app_N ?F ?N ?l ?U ?_; (case F => k_asm); (case N => k_asm); (case U => k_upd); (case l => walk_at "M le"); k_whole); intro h' F' N'; (try k_sweep))
  k_with "newList" => (k_here; k_dflt (refine' newList_N ?F ?N ?l ?_; (case F => k_asm); (case N => k_asm); (case l => exact Nat.le_of_ble_eq_true rfl); k_whole); intro D' h' F' N' l1 l2; (try (have l3 := l1; k_lt l3)); (try k_sweep))
  k_with "M enterC" => (
  (case ho => k_is)
  (case hcd => k_is)
  (case hb => first | exact fun s Xs => BindsTo.of_eq rfl | exact fun s Xs => binds_K Xs rfl (by k_is) rfl rfl rfl)
  (case hl => exact rfl)
  (case h2 => decide +kernel)
  (case h1 => decide)
  (case h3 => exact rfl)
  (case h4 => exact rfl)
  (case h5 => exact rfl))
  k_with "M comp" => (
  (case hclos => exact rfl)
  (case hcell => decide)
  (case hkind => exact rfl)
  (case hnames => decide)
  (case hx => exact rfl)
  (case hs => (intro _; exact rfl)))
  k_with "M compA" => (
  (case hsw => exact rfl)
  (case hclos => exact rfl)
  (case hcell => decide)
  (case hkind => exact rfl)
  (case hnames => decide)
  (case hx => exact rfl)
  (case hy => exact rfl)
  (case hp => exact rfl)
  (case hs => (intro _; exact rfl)))
  k_with "eval Name" => (k_here; (with_reducible show wpAny _ _ (eval (PySem.Expr.Name _ _) (compEnvC _ _ _ _)) _ _ _); k_dflt (first
  | (refine' cname ?n ?v ?k ?l ?d ?_; (case n => assumption); (case v => assumption); (case k => exact rfl); (case l => exact rfl); (case d => decide))
  | (refine' ccell ?N ?c ?m ?d ?k ?l ?b ?_; (case N => k_asm); (case c => exact rfl); (case m => k_mem); (case d => assumption); (case k => exact rfl); (case l => exact rfl); (case b => decide))
  | (refine' cbuilt ?F ?X ?T ?e ?v ?n ?g ?b ?k ?l ?d ?_; (case F => k_asm); (case X => k_asm); (case T => k_asm); (case e => k_is); (case v => boot_by_name); (case n => decide); (case g => exact rfl); (case b => exact rfl); (case k => exact rfl); (case l => exact rfl); (case d => decide))
  | (refine' cglob ?F ?X ?T ?e ?g ?k ?l ?d ?_; (case F => k_asm); (case X => k_asm); (case T => k_asm); (case e => k_is); (case g => exact rfl); (case k => exact rfl); (case l => exact rfl); (case d => decide))
  | fail))
  trivial
example : True := by
  k_with "call ref" => ((with_reducible show wpAny _ _ (call (Value.ref 202) [Value.str _ _] []) _ _ _); k_dflt (refine' use_fs (size_fs ?X ?T _ _ ?hx) ?B ?F ?N ?hf ?hk ?hd ?hu ?hp ?_; (case B => assumption); (case X => assumption); (case T => assumption); (case F => k_asm); (case N => k_asm); (case hf => rfl); (case hk => rfl); (case hp => walk_at "M picks"); (case hx => walk_at "M len"); (case hd => ktr_room); (case hu => ktr_units); k_whole); intro v' tl' h' tk' hr' F' N' hn'; (obtain ⟨t', hv', ht'⟩ := hr'); (subst hv'); (subst ht'); (clear hn'); (try dsimp only [List.nil_append, List.cons_append] at N'); (try k_sweep))
  trivial

example : True := by
  k_with "call ref" => ((with_reducible show wpAny _ _ (call (Value.ref 39) _ _) _ _ _); k_dflt (refine' use_fs (bisR_fs ?X ?T _ _ _ _ _ _ ?hss _ _ _ _ ?hlo ?hhi _ _ ?h1 ?h2 ?h3 ?h4) ?B ?F ?N ?hf ?hk ?hd ?hu ?hp ?_; (case B => assumption); (case X => assumption); (case T => assumption); (case F => k_asm); (case N => k_asm); (case hf => rfl); (case hk => rfl); (case hp => walk_at "M picks"); (case hss => walk_at "M strs"); (case hlo => walk_at "M nat"); (case hhi => walk_at "M nat"); (case h1 => omega); (case h2 => walk_at "M le"); (case h3 => walk_at "M le"); (case h4 => walk_at "M lens"); (case hd => ktr_room); (case hu => ktr_units); k_whole); intro v' tl' h' tk' hr' F' N' hn'; (obtain ⟨t', hv', ht'⟩ := hr'); (subst hv'); (subst ht'); (clear hn'); (try dsimp only [List.nil_append, List.cons_append] at N'); (try k_sweep))
  k_with "call ref" => ((with_reducible show wpAny _ _ (call (Value.ref 57) _ _) _ _ _); k_dflt (refine' use_fs (bisL_fs ?X ?T _ _ _ _ _ _ ?hss _ _ _ _ ?hlo ?hhi _ _ ?h1 ?h2 ?h3 ?h4) ?B ?F ?N ?hf ?hk ?hd ?hu ?hp ?_; (case B => assumption); (case X => assumption); (case T => assumption); (case F => k_asm); (case N => k_asm); (case hf => rfl); (case hk => rfl); (case hp => walk_at "M picks"); (case hss => walk_at "M strs"); (case hlo => walk_at "M nat"); (case hhi => walk_at "M nat"); (case h1 => omega); (case h2 => walk_at "M le"); (case h3 => walk_at "M le"); (case h4 => walk_at "M lens"); (case hd => ktr_room); (case hu => ktr_units); k_whole); intro v' tl' h' tk' hr' F' N' hn'; (obtain ⟨t', hv', ht'⟩ := hr'); (subst hv'); (subst ht'); (clear hn'); (try dsimp only [List.nil_append, List.cons_append] at N'); (try k_sweep))
  trivial

example : True := by
  k_with "call ref" => ((with_reducible show wpAny _ _ (call (Value.ref 30) _ _) _ _ _); k_dflt (refine' use_fs (insR_fs ?X ?T _ _ _ _ _ _ ?hss _ _ _ _ ?hlo ?hhi _ _ ?h1 ?h2 ?h3 ?h4 ?hx) ?B ?F ?N ?hf ?hk ?hd ?hu ?hp ?_; (case B => assumption); (case X => assumption); (case T => assumption); (case F => k_asm); (case N => k_asm); (case hf => rfl); (case hk => rfl); (case hp => walk_at "M picks"); (case hss => walk_at "M strs"); (case hlo => walk_at "M nat"); (case hhi => walk_at "M nat"); (case h1 => omega); (case h2 => walk_at "M le"); (case h3 => walk_at "M le"); (case h4 => walk_at "M lens"); (case hx => walk_at "M len"); (case hd => ktr_room); (case hu => ktr_units); k_whole); intro v' tl' h' tk' hr' F' N' hn'; (obtain ⟨hv', ht'⟩ := hr'); (subst hv'); (subst ht'); (clear hn'); (try dsimp only [List.nil_append, List.cons_append] at N'); (try k_sweep))
  k_with "call ref" => ((with_reducible show wpAny _ _ (call (Value.ref 48) _ _) _ _ _); k_dflt (refine' use_fs (insL_fs ?X ?T _ _ _ _ _ _ ?hss _ _ _ _ ?hlo ?hhi _ _ ?h1 ?h2 ?h3 ?h4 ?hx) ?B ?F ?N ?hf ?hk ?hd ?hu ?hp ?_; (case B => assumption); (case X => assumption); (case T => assumption); (case F => k_asm); (case N => k_asm); (case hf => rfl); (case hk => rfl); (case hp => walk_at "M picks"); (case hss => walk_at "M strs"); (case hlo => walk_at "M nat"); (case hhi => walk_at "M nat"); (case h1 => omega); (case h2 => walk_at "M le"); (case h3 => walk_at "M le"); (case h4 => walk_at "M lens"); (case hx => walk_at "M len"); (case hd => ktr_room); (case hu => ktr_units); k_whole); intro v' tl' h' tk' hr' F' N' hn'; (obtain ⟨hv', ht'⟩ := hr'); (subst hv'); (subst ht'); (clear hn'); (try dsimp only [List.nil_append, List.cons_append] at N'); (try k_sweep))
  trivial

example : True := by
  k_with "call ref" => ((with_reducible show wpAny _ _ (call (Value.ref 207) [Value.ref _, Value.ref 30] _) _ _ _); k_dflt (refine' use_fs (rowR_fs ?X ?T _ _ _ _ ?hss ?h3 ?h4) ?B ?F ?N ?hf ?hk ?hd ?hu ?hp ?_; (case B => assumption); (case X => assumption); (case T => assumption); (case F => k_asm); (case N => k_asm); (case hf => rfl); (case hk => rfl); (case hp => walk_at "M picks"); (case hss => walk_at "M strs"); (case h3 => walk_at "M le"); (case h4 => walk_at "M lens"); (case hd => ktr_room); (case hu => ktr_units); k_whole); intro v' tl' h' tk' hr' F' N' hn'; (obtain ⟨D', its', n', hv', hne', hS', ht'⟩ := hr'); (subst hv'); (subst ht'); (have hO' := off_one hn' hne'); (clear hn'); (try dsimp only [List.nil_append, List.cons_append] at N'); (try k_sweep))
  k_with "call ref" => ((with_reducible show wpAny _ _ (call (Value.ref 207) [Value.ref _, Value.ref 48] _) _ _ _); k_dflt (refine' use_fs (rowL_fs ?X ?T _ _ _ _ ?hss ?h3 ?h4) ?B ?F ?N ?hf ?hk ?hd ?hu ?hp ?_; (case B => assumption); (case X => assumption); (case T => assumption); (case F => k_asm); (case N => k_asm); (case hf => rfl); (case hk => rfl); (case hp => walk_at "M picks"); (case hss => walk_at "M strs"); (case h3 => walk_at "M le"); (case h4 => walk_at "M lens"); (case hd => ktr_room); (case hu => ktr_units); k_whole); intro v' tl' h' tk' hr' F' N' hn'; (obtain ⟨D', its', n', hv', hne', hS', ht'⟩ := hr'); (subst hv'); (subst ht'); (have hO' := off_one hn' hne'); (clear hn'); (try dsimp only [List.nil_append, List.cons_append] at N'); (try k_sweep))
  trivial

example : True := by
  k_with "call ref" => ((with_reducible show wpAny _ _ (call (Value.ref 219) _ _) _ _ _); k_dflt (refine' use_fs (turned_fs ?X ?T _ _ _ _ ?hss ?h3) ?B ?F ?N ?hf ?hk ?hd ?hu ?hp ?_; (case B => assumption); (case X => assumption); (case T => assumption); (case F => k_asm); (case N => k_asm); (case hf => rfl); (case hk => rfl); (case hp => walk_at "M picks"); (case hss => walk_at "M strs"); (case h3 => walk_at "M le"); (case hd => ktr_room); (case hu => ktr_units); k_whole); intro v' tl' h' tk' hr' F' N' hn'; (obtain ⟨D', its', n', hv', hne', hS', ht'⟩ := hr'); (subst hv'); (subst ht'); (have hO' := off_one hn' hne'); (clear hn'); (try dsimp only [List.nil_append, List.cons_append] at N'); (try k_sweep))
  trivial

example : True := by
  k_with "call ref" => ((with_reducible show wpAny _ _ (call (Value.ref 134) _ []) _ _ _); k_dflt (refine' use_fs (count_fs ?X ?T _ _ _ _ _ _ _ ?v ?n) ?B ?F ?N ?hf ?hk ?hd ?hu ?hp ?_; (case B => assumption); (case X => assumption); (case T => assumption); (case F => k_asm); (case N => k_asm); (case hf => rfl); (case hk => rfl); (case hp => walk_at "M picks"); (case v => ((try simp only [List.length_append, List.length_cons, List.length_nil]); omega)); (case n => walk_at "M ne"); (case hd => ktr_room); (case hu => ktr_units); k_whole); intro v' tl' h' tk' hr' F' N' hn'; (obtain ⟨⟨tz', hz'⟩, hy'⟩ := hr'); (subst hz'); (subst hy'); (clear hn'); (try dsimp only [List.nil_append, List.cons_append] at N'); (try k_sweep))
  trivial

example : True := by
  k_with "getMethod ref" => (k_here; k_dflt (refine' method_in ?F ?X ?I ?g ?k ?f ?t ?l ?_; (case F => k_asm); (case X => k_asm); (case I => exact inst_acc (by k_asm) (by k_mem) (by k_mem)); (case g => k_is); (case k => k_is); (case f => k_is); (case t => k_is); (case l => with_unfolding_all k_get); k_whole))
  k_with "call ref" => (k_here; (with_reducible show wpAny _ _ (call (Value.ref 81) _ _) _ _ _); refine Stop.out ?_)
  k_with "call ref" => (k_here; (with_reducible show wpAny _ _ (call (Value.ref 97) _ _) _ _ _); refine Stop.out ?_)
  trivial

noncomputable section
theorem join_word (wd : Str) : Txt.join "" [Txt.slice wd none (some 1), Txt.slice wd (some 1) none] = wd := by
  cases hl : wd.cps.toList with
  | nil =>
    have e : wd = ⟨#[]⟩ := by
      cases wd with
      | mk c => congr 1; exact Array.toList_eq_nil_iff.mp hl
    subst e
    decide +kernel
  | cons c r =>
    have hlen : wd.length = r.length + 1 := by
      have := congrArg List.length hl
      rw [Array.length_toList, List.length_cons] at this
      exact this
    have h1 := beq_iff_eq.mp (slice_closes_to (x := wd) (j := 1) ⟨by decide, by rw [hl, List.length_cons]; omega⟩)
    have h2 := slice_from_eq (x := wd) (i := 1) (b := wd.length) (by decide) (by omega) rfl
    rw [h1, h2, hl]
    unfold Txt.join
    rw [StrLaws.glued_eq_join]
    show (⟨(([c] : List Nat).toArray ++ ("" : Str).cps) ++ ((r.take ((wd.length : Int) - 1).toNat).toArray)⟩ : Str) = wd
    rw [show ((wd.length : Int) - 1).toNat = r.length by omega, List.take_length, s_e]
    cases wd with
    | mk a =>
      congr 1
      apply Array.toList_inj.mp
      rw [show a.toList = c :: r from hl]
      simp
abbrev PT := Addr × Str × Tok × Tok
def tupCell (t : PT) : Addr × Obj := (t.1, tupObj (Txt.slice t.2.1 none (some 1)) (Txt.slice t.2.1 (some 1) none) t.2.2.1 t.2.2.2)
structure PileA where
  (f1 c1 f2 c2 pc x dx : Addr) (o1 o2 o3 o4 op : Obj)
def pileFix (a : PileA) : Led := [(a.f1, a.o1), (a.c1, a.o2), (a.f2, a.o3), (a.c2, a.o4), (a.pc, a.op)]
def pileTl (w : World) (a : PileA) (k0 t0 : Tok) (nd n : Nat) (ts : List PT) : Led :=
  (a.x, accObj a.dx ((ts.map fun t => Value.ref t.1).reverse) n) :: (a.dx, dictOf (accD w k0 t0) nd) :: (pileFix a ++ ts.map tupCell)
structure PileOk (a : PileA) (L : Addr) : Prop where
  pc : a.pc = L + 1 + 1
  lay : ∃ q pm ct, a.o1 = layObj q L pm a.c1 ct ∧ CodeOb q a.o2
  take : ∃ q pm ct, a.o3 = takeObj q L pm a.c2 ct ∧ CodeOb q a.o4
  cell : a.op.data = .cell (some (.ref a.x))
  ne : a.x ≠ a.dx
  nd : [a.f1, a.c1, a.f2, a.c2, a.pc].Nodup
  ox : ∀ b ∈ [a.f1, a.c1, a.f2, a.c2, a.pc], a.x ≠ b ∧ a.dx ≠ b
def RepP (w : World) (a : PileA) (n : Nat) (q : List Str) (tl : Led) : Prop :=
  ∃ (ts : List PT) (k0 t0 : Tok) (nd nn : Nat), q = ts.map (·.2.1) ∧ ts.length + n ≤ 700 ∧ (∀ t ∈ ts, t.2.1.length ≤ 1000 ∧ a.x ≠ t.1 ∧ a.dx ≠ t.1 ∧ a.f1 ≠ t.1 ∧ a.c1 ≠ t.1 ∧ a.f2 ≠ t.1 ∧ a.c2 ≠ t.1 ∧ a.pc ≠ t.1) ∧ (ts.map (·.1)).Nodup ∧ Same tl (pileTl w a k0 t0 nd nn ts)
theorem two_off {a : PileA} {o1 o2 : Obj} {b : Addr} (h1 : a.x ≠ b) (h2 : a.dx ≠ b) : ∀ z ∈ [(a.x, o1), (a.dx, o2)], z.1 ≠ b := fun z hz => by
  rcases List.mem_cons.mp hz with rfl | hz
  · exact h1
  · rw [List.mem_singleton.mp hz]; exact h2
theorem lay_rep (X : (Kf w.params).In b₀) (T : Top topProg loose mean mg mb b₀) (L : Addr) (a : PileA) (Y : PileOk a L) (n : Nat) (q : List Str) (tl : Led) (wd : Str) (t : Tok) (h : RepP w a (n + 1) q tl) (hw : wd.length ≤ 1000) :
    FS P1 w b₀ 24 240 (.ref a.f1) ⟨[.str wd t], []⟩ tl (fun _ tl' => RepP w a n (layL q wd) tl') := by
  obtain ⟨ts, k0, t0, nd, nn, rfl, hl, hq, hnd, hs⟩ := h
  obtain ⟨qq, pm, ct, hlay, hk1⟩ := Y.lay
  have ox := Y.ox
  simp only [List.forall_mem_cons] at ox
  obtain ⟨x1, x2, x3, x4, x5, -⟩ := ox
  have hpc := Y.pc
  have H := lay_fs X T L a.f1 a.c1 a.x a.dx pm ct a.o1 a.o2 a.op qq hlay hk1 Y.cell k0 t0 nd nn ((ts.map fun t => Value.ref t.1).reverse) (by rw [List.length_reverse, List.length_map]; omega) Y.ne x1.1 x1.2 x2.1 x2.2 (hpc ▸ x5.1) (hpc ▸ x5.2) wd t hw
  rw [← hpc] at H
  have H2 := H.ext tl ([(a.f2, a.o3), (a.c2, a.o4)] ++ ts.map tupCell) (fun p hp => (hs p).mpr ?_) (fun p hp => ⟨(hs p).mpr ?_, ?_⟩)
  · refine H2.mono (by decide) (by decide) fun v l r => ?_
    obtain ⟨l0, ⟨p, ta, tb, n1, n2, n3, n4, n5, rfl⟩, rfl, hn⟩ := r
    have hp := (hn (p, _) (.head _)).resolve_left (by
      simp only [List.map_cons, List.map_nil, List.mem_cons, List.not_mem_nil, or_false, not_or]
      exact ⟨n3.symm, n4.symm, n5.symm, n1.symm, n2.symm⟩)
    have m2 : (a.f2, a.o3) ∈ tl := (hs _).mpr (by unfold pileTl pileFix; simp only [List.mem_append, List.mem_cons, true_or, or_true])
    have m4 : (a.c2, a.o4) ∈ tl := (hs _).mpr (by unfold pileTl pileFix; simp only [List.mem_append, List.mem_cons, true_or, or_true])
    refine ⟨(p, wd, ta, tb) :: ts, k0, t0, nd, nn + 1, rfl, by rw [List.length_cons]; omega, ?_, ?_, fun z => ?_⟩
    · intro z hz
      rcases List.mem_cons.mp hz with rfl | hz
      · exact ⟨hw, n1, n2, n3, n4, hp _ m2, hp _ m4, n5⟩
      · exact hq z hz
    · rw [List.map_cons, List.nodup_cons]
      refine ⟨fun hm => ?_, hnd⟩
      obtain ⟨z, hz, hz'⟩ := List.mem_map.mp hm
      exact hp (tupCell z) ((hs _).mpr (by unfold pileTl; exact .tail _ (.tail _ (List.mem_append_right _ (List.mem_map_of_mem hz))))) hz'
    · unfold pileTl pileFix
      rw [List.map_cons, List.map_cons, List.reverse_cons]
      show z ∈ _ ↔ z ∈ (a.x, _) :: (a.dx, _) :: ([(a.f1, a.o1), (a.c1, a.o2), (a.f2, a.o3), (a.c2, a.o4), (a.pc, a.op)] ++ ((p, tupObj (Txt.slice wd none (some 1)) (Txt.slice wd (some 1) none) ta tb) :: ts.map tupCell))
      simp only [List.mem_append, List.mem_cons, List.not_mem_nil, or_false]
      constructor
      · rintro ((h | h | h | h | h | h) | (h | h) | h) <;> simp only [h, true_or, or_true]
      · rintro (h | h | (h | h | h | h | h) | h | h) <;> simp only [h, true_or, or_true]
  · unfold pileTl pileFix
    simp only [List.mem_append, List.mem_cons, List.not_mem_nil, or_false] at hp ⊢
    rcases hp with h | h | h | h | h <;> simp only [h, true_or, or_true]
  · unfold pileTl pileFix
    simp only [List.mem_append, List.mem_cons, List.not_mem_nil, or_false] at hp ⊢
    rcases hp with (h | h) | h <;> simp only [h, true_or, or_true]
  · have nd := Y.nd
    simp only [List.nodup_cons, List.mem_cons, List.not_mem_nil, or_false, not_or] at nd
    obtain ⟨⟨d1, d2, d3, d4⟩, ⟨d5, d6, d7⟩, ⟨d8, d9⟩, d10, -⟩ := nd
    have five : ∀ b, a.f1 ≠ b → a.c1 ≠ b → a.pc ≠ b → a.x ≠ b → a.dx ≠ b → ∀ z ∈ [(a.f1, a.o1), (a.c1, a.o2), (a.pc, a.op), (a.x, accObj a.dx ((ts.map fun t => Value.ref t.1).reverse) nn), (a.dx, dictOf (accD w k0 t0) nd)], z.1 ≠ b := fun b h1 h2 h3 h4 h5 z hz => by
      simp only [List.mem_cons, List.not_mem_nil, or_false] at hz
      rcases hz with rfl | rfl | rfl | rfl | rfl
      · exact h1
      · exact h2
      · exact h3
      · exact h4
      · exact h5
    rcases List.mem_append.mp hp with hp | hp
    · simp only [List.mem_cons, List.not_mem_nil, or_false] at hp
      rcases hp with rfl | rfl
      · exact five _ d2 d5 (Ne.symm d9) x3.1 x3.2
      · exact five _ d3 d6 (Ne.symm d10) x4.1 x4.2
    · obtain ⟨t, ht, rfl⟩ := List.mem_map.mp hp
      have z := hq t ht
      exact five _ z.2.2.2.1 z.2.2.2.2.1 z.2.2.2.2.2.2.2 z.2.1 z.2.2.1
theorem take_rep (X : (Kf w.params).In b₀) (T : Top topProg loose mean mg mb b₀) (L : Addr) (a : PileA) (Y : PileOk a L) (n : Nat) (q : List Str) (tl : Led) (h : RepP w a (n + 1) q tl) :
    FS P1 w b₀ 24 240 (.ref a.f2) ⟨[], []⟩ tl (fun v tl' => ∃ t, v = .str (takeQ q).1 t ∧ (takeQ q).1.length ≤ 1000 ∧ RepP w a n (takeQ q).2 tl') := by
  obtain ⟨ts, k0, t0, nd, nn, rfl, hl, hq, hnd, hs⟩ := h
  obtain ⟨qq, pm, ct, htake, hk2⟩ := Y.take
  have ox := Y.ox
  simp only [List.forall_mem_cons] at ox
  obtain ⟨x1, x2, x3, x4, x5, -⟩ := ox
  have hpc := Y.pc
  have nd5 := Y.nd
  simp only [List.nodup_cons, List.mem_cons, List.not_mem_nil, or_false, not_or] at nd5
  obtain ⟨⟨d1, d2, d3, d4⟩, ⟨d5, d6, d7⟩, ⟨d8, d9⟩, d10, -⟩ := nd5
  cases ts with
  | nil =>
    have H := take0_fs X T L a.f2 a.c2 a.x a.dx pm ct a.o3 a.o4 a.op qq htake hk2 Y.cell k0 t0 nd nn Y.ne x3.1 x3.2 x4.1 x4.2 (hpc ▸ x5.1) (hpc ▸ x5.2)
    rw [← hpc] at H
    have H2 := H.ext tl [(a.f1, a.o1), (a.c1, a.o2)] (fun p hp => (hs p).mpr ?_) (fun p hp => ⟨(hs p).mpr ?_, ?_⟩)
    · refine H2.mono (by decide) (by decide) fun v l r => ?_
      obtain ⟨l0, ⟨⟨u, rfl⟩, rfl⟩, rfl, -⟩ := r
      refine ⟨u, rfl, Nat.zero_le _, [], k0, t0, nd, nn, rfl, by simp at hl ⊢; omega, hq, hnd, fun z => ?_⟩
      unfold pileTl pileFix
      simp only [List.map_nil, List.reverse_nil, List.mem_append, List.mem_cons, List.not_mem_nil, or_false]
      constructor
      · rintro ((h | h | h | h | h) | h | h) <;> simp only [h, true_or, or_true]
      · rintro (h | h | h | h | h | h | h) <;> simp only [h, true_or, or_true]
    · unfold pileTl pileFix
      simp only [List.map_nil, List.reverse_nil, List.mem_append, List.mem_cons, List.not_mem_nil, or_false] at hp ⊢
      rcases hp with h | h | h | h | h <;> simp only [h, true_or, or_true]
    · unfold pileTl pileFix
      simp only [List.map_nil, List.reverse_nil, List.mem_append, List.mem_cons, List.not_mem_nil, or_false] at hp ⊢
      rcases hp with h | h <;> simp only [h, true_or, or_true]
    · intro z hz
      simp only [List.mem_cons, List.not_mem_nil, or_false] at hp hz
      rcases hp with rfl | rfl <;> rcases hz with rfl | rfl | rfl | rfl | rfl
      · exact Ne.symm d2
      · exact Ne.symm d3
      · exact Ne.symm d4
      · exact x1.1
      · exact x1.2
      · exact Ne.symm d5
      · exact Ne.symm d6
      · exact Ne.symm d7
      · exact x2.1
      · exact x2.2
  | cons t ts =>
    have z0 := hq t (.head _)
    rw [List.map_cons, List.nodup_cons] at hnd
    have H := take_fs X T L a.f2 a.c2 a.x a.dx t.1 pm ct a.o3 a.o4 a.op qq htake hk2 Y.cell k0 t0 nd nn ((ts.map fun t => Value.ref t.1).reverse) (by rw [List.length_reverse, List.length_map]; rw [List.length_cons] at hl; omega) Y.ne x3.1 x3.2 x4.1 x4.2 (hpc ▸ x5.1) (hpc ▸ x5.2) z0.2.1 z0.2.2.1
      (Txt.slice t.2.1 none (some 1)) (Txt.slice t.2.1 (some 1) none) t.2.2.1 t.2.2.2 (Nat.le_trans (PyProof.Txt.length_slice_le _ _ _) z0.1) (Nat.le_trans (PyProof.Txt.length_slice_le _ _ _) z0.1)
    rw [← hpc, join_word] at H
    have H2 := H.ext tl ([(a.f1, a.o1), (a.c1, a.o2)] ++ ts.map tupCell) (fun p hp => (hs p).mpr ?_) (fun p hp => ⟨(hs p).mpr ?_, ?_⟩)
    · refine H2.mono (by decide) (by decide) fun v l r => ?_
      obtain ⟨l0, ⟨⟨u, rfl⟩, rfl⟩, rfl, -⟩ := r
      refine ⟨u, rfl, z0.1, ts, k0, t0, nd, nn + 1, rfl, by rw [List.length_cons] at hl; omega, fun z hz => hq z (.tail _ hz), hnd.2, fun z => ?_⟩
      unfold pileTl pileFix
      simp only [List.mem_append, List.mem_cons, List.not_mem_nil, or_false]
      constructor
      · rintro ((h | h | h | h | h) | (h | h) | h) <;> simp only [h, true_or, or_true]
      · rintro (h | h | (h | h | h | h | h) | h) <;> simp only [h, true_or, or_true]
    · unfold pileTl pileFix
      rw [List.map_cons, List.map_cons, List.reverse_cons]
      simp only [List.mem_append, List.mem_cons, List.not_mem_nil, or_false] at hp ⊢
      rcases hp with h | h | h | h | h | h
      · simp only [h, true_or, or_true]
      · simp only [h, true_or, or_true]
      · simp only [h, true_or, or_true]
      · simp only [h, true_or, or_true]
      · simp only [h, true_or, or_true]
      · exact .inr (.inr (.inr (.inl h)))
    · unfold pileTl pileFix
      rw [List.map_cons, List.map_cons, List.reverse_cons]
      simp only [List.mem_append, List.mem_cons, List.not_mem_nil, or_false] at hp ⊢
      rcases hp with (h | h) | h <;> simp only [h, true_or, or_true]
    · have six : ∀ b, a.f2 ≠ b → a.c2 ≠ b → a.pc ≠ b → a.x ≠ b → a.dx ≠ b → t.1 ≠ b → ∀ z ∈ [(a.f2, a.o3), (a.c2, a.o4), (a.pc, a.op), (a.x, accObj a.dx ((ts.map fun t => Value.ref t.1).reverse ++ [.ref t.1]) nn), (a.dx, dictOf (accD w k0 t0) nd), (t.1, tupObj (Txt.slice t.2.1 none (some 1)) (Txt.slice t.2.1 (some 1) none) t.2.2.1 t.2.2.2)], z.1 ≠ b := fun b h1 h2 h3 h4 h5 h6 z hz => by
        simp only [List.mem_cons, List.not_mem_nil, or_false] at hz
        rcases hz with rfl | rfl | rfl | rfl | rfl | rfl
        · exact h1
        · exact h2
        · exact h3
        · exact h4
        · exact h5
        · exact h6
      rcases List.mem_append.mp hp with hp | hp
      · simp only [List.mem_cons, List.not_mem_nil, or_false] at hp
        rcases hp with rfl | rfl
        · exact six _ (Ne.symm d2) (Ne.symm d3) (Ne.symm d4) x1.1 x1.2 (Ne.symm z0.2.2.2.1)
        · exact six _ (Ne.symm d5) (Ne.symm d6) (Ne.symm d7) x2.1 x2.2 (Ne.symm z0.2.2.2.2.1)
      · obtain ⟨t', ht, rfl⟩ := List.mem_map.mp hp
        have z := hq t' (.tail _ ht)
        exact six _ z.2.2.2.2.2.1 z.2.2.2.2.2.2.1 z.2.2.2.2.2.2.2 z.2.1 z.2.2.1 (fun e => hnd.1 (List.mem_map.mpr ⟨t', ht, e.symm⟩))
theorem keep_pile {L : Addr} {a : PileA} (Y : PileOk a L) (n : Nat) (q : List Str) (tl : Led) (h : Heap) (hr : RepP w a n q tl) (hh : ∀ p ∈ tl, h.get? p.1 = some p.2) : KeepOk (.ref a.f1) h ∧ KeepOk (.ref a.f2) h := by
  obtain ⟨ts, k0, t0, nd, nn, rfl, hl, hq, hnd, hs⟩ := hr
  obtain ⟨q1, pm, ct, h1, -⟩ := Y.lay
  obtain ⟨q2, pm2, ct2, h2, -⟩ := Y.take
  have m1 : (a.f1, a.o1) ∈ tl := (hs _).mpr (by unfold pileTl pileFix; simp only [List.mem_append, List.mem_cons, true_or, or_true])
  have m2 : (a.f2, a.o3) ∈ tl := (hs _).mpr (by unfold pileTl pileFix; simp only [List.mem_append, List.mem_cons, true_or, or_true])
  exact ⟨keep_fn (hh _ m1) (by rw [h1]; rfl), keep_fn (hh _ m2) (by rw [h2]; rfl)⟩
theorem less_pile (a : PileA) (n : Nat) (q : List Str) (tl : Led) (hr : RepP w a (n + 1) q tl) : RepP w a n q tl := by
  obtain ⟨ts, k0, t0, nd, nn, e, hl, hq, hnd, hs⟩ := hr
  exact ⟨ts, k0, t0, nd, nn, e, by omega, hq, hnd, hs⟩
end

noncomputable section
def pileAdr (a : PileA) : List Addr := [a.x, a.dx, a.f1, a.c1, a.f2, a.c2, a.pc]
theorem allLt_mem {d : Nat} {l : Led} (h : AllLt d l) : ∀ p ∈ l, @LT.lt Nat _ p.1 d := by
  induction l with
  | nil => intro p hp; cases hp
  | cons a r ih =>
    intro p hp
    rcases List.mem_cons.mp hp with rfl | hp
    · exact h.1
    · exact ih h.2 p hp
theorem nodup5 {p c1 f1 c2 f2 : Addr} (h1 : p < c1) (h2 : c1 < f1) (h3 : f1 < c2) (h4 : c2 < f2) : [f1, c1, f2, c2, p].Nodup := by
  have a1 : @LT.lt Nat _ p c1 := h1
  have a2 : @LT.lt Nat _ c1 f1 := h2
  have a3 : @LT.lt Nat _ f1 c2 := h3
  have a4 : @LT.lt Nat _ c2 f2 := h4
  simp only [List.nodup_cons, List.mem_cons, List.not_mem_nil, or_false, not_or, not_false_eq_true, List.nodup_nil, and_true]
  refine ⟨⟨?_, ?_, ?_, ?_⟩, ⟨?_, ?_, ?_⟩, ⟨?_, ?_⟩, ?_⟩
  · exact Nat.ne_of_gt (by omega)
  · exact Nat.ne_of_lt (by omega)
  · exact Nat.ne_of_lt (by omega)
  · exact Nat.ne_of_gt (by omega)
  · exact Nat.ne_of_lt (by omega)
  · exact Nat.ne_of_lt (by omega)
  · exact Nat.ne_of_gt (by omega)
  · exact Nat.ne_of_gt (by omega)
  · exact Nat.ne_of_gt (by omega)
  · exact Nat.ne_of_gt (by omega)
variable {dp un : Nat} {gd : Option (List Code)} {fr : List Env} {g : Heap}
theorem b6_end {h' : Heap} {L f1 c1 f2 c2 x dx : Addr} {oL oT o1 o2 op : Obj} {ps : Array Value} {ex : Led} {k0 t0 : Tok} {nd0 : Nat} {q1 q2 : Str} {pm1 ct1 pm2 ct2 : Value} {vs1 vs2 : Array Value} {t1 t2 : Tok}
    (N : News g L h' ((f2, oT) :: (c2, o2) :: (f1, oL) :: (c1, o1) :: (x, accObj dx [] 0) :: (dx, dictOf (accD w k0 t0) nd0) :: (L + 1 + 1, op) :: (221, tabObj ps) :: ex))
    (hL : oL = layObj q1 L pm1 c1 ct1) (hT : oT = takeObj q2 L pm2 c2 ct2) (d1 : o1.data = .fields vs1) (d2 : vs1[1]? = some (.str q1 t1)) (d3 : o2.data = .fields vs2) (d4 : vs2[1]? = some (.str q2 t2)) (hop : op.data = .cell (some (.ref x)))
    (l1a : x < c1 ∧ dx < c1 ∧ L + 1 + 1 < c1 ∧ 221 < c1 ∧ AllLt c1 ex) (l2a : c1 < f1) (l1b : f1 < c2) (l2b : c2 < f2) (e6 : x ≠ dx) (e1 : L + 1 + 1 ≠ x) (e2 : L + 1 + 1 ≠ dx) (e3 : (221 : Addr) ≠ x) (e4 : (221 : Addr) ≠ dx) (e5 : L + 1 + 1 ≠ 221) (e7 : Off x ex) (e8 : Off dx ex) (hoP : Off (L + 1 + 1) ex) :
    ∃ p : PileA, p.f1 = f1 ∧ p.f2 = f2 ∧ PileOk p L ∧ News g L h' (pileTl w p k0 t0 nd0 0 [] ++ (221, tabObj ps) :: ex) ∧ ∀ b ∈ pileAdr p, Off b ex ∧ b ≠ 221 := by
  obtain ⟨m1, m2, m3, m4, m5⟩ := l1a
  have b1 : @LT.lt Nat _ x c1 := m1
  have b2 : @LT.lt Nat _ dx c1 := m2
  have b3 : @LT.lt Nat _ (L + 1 + 1) c1 := m3
  have b4 : @LT.lt Nat _ c1 f1 := l2a
  have b5 : @LT.lt Nat _ f1 c2 := l1b
  have b6 : @LT.lt Nat _ c2 f2 := l2b
  have b7 : @LT.lt Nat _ 221 c1 := m4
  have exOff : ∀ b, @LE.le Nat _ c1 b → Off b ex := fun b hb p hp => Nat.ne_of_lt (Nat.lt_of_lt_of_le (allLt_mem m5 p hp) hb)
  refine ⟨⟨f1, c1, f2, c2, L + 1 + 1, x, dx, oL, o1, oT, o2, op⟩, rfl, rfl, ⟨rfl, ⟨q1, pm1, ct1, hL, ⟨_, _, d1, d2⟩⟩, ⟨q2, pm2, ct2, hT, ⟨_, _, d3, d4⟩⟩, hop, e6, nodup5 m3 l2a l1b l2b, ?ox⟩, fun p hp => N p ?hp, ?off⟩
  case hp =>
    unfold pileTl pileFix at hp
    simp only [List.map_nil, List.reverse_nil, List.mem_append, List.mem_cons, List.not_mem_nil, or_false, List.cons_append, List.nil_append] at hp ⊢
    rcases hp with h | h | h | h | h | h | h | h | h
    · exact .inr (.inr (.inr (.inr (.inl h))))
    · exact .inr (.inr (.inr (.inr (.inr (.inl h)))))
    · exact .inr (.inr (.inl h))
    · exact .inr (.inr (.inr (.inl h)))
    · exact .inl h
    · exact .inr (.inl h)
    · exact .inr (.inr (.inr (.inr (.inr (.inr (.inl h))))))
    · exact .inr (.inr (.inr (.inr (.inr (.inr (.inr (.inl h)))))))
    · exact .inr (.inr (.inr (.inr (.inr (.inr (.inr (.inr h)))))))
  case ox =>
    have lx : ∀ b, @LE.le Nat _ c1 b → x ≠ b ∧ dx ≠ b := fun b hb => ⟨Nat.ne_of_lt (Nat.lt_of_lt_of_le b1 hb), Nat.ne_of_lt (Nat.lt_of_lt_of_le b2 hb)⟩
    have g1 := lx f1 (Nat.le_of_lt b4)
    have g2 := lx c1 (Nat.le_refl _)
    have g3 := lx f2 (by omega)
    have g4 := lx c2 (by omega)
    intro b hb
    simp only [List.mem_cons, List.not_mem_nil, or_false] at hb
    rcases hb with h | h | h | h | h
    · rw [h]; exact g1
    · rw [h]; exact g2
    · rw [h]; exact g3
    · rw [h]; exact g4
    · rw [h]; exact ⟨e1.symm, e2.symm⟩
  case off =>
    intro b hb
    simp only [pileAdr, List.mem_cons, List.not_mem_nil, or_false] at hb
    rcases hb with rfl | rfl | rfl | rfl | rfl | rfl | rfl
    · exact ⟨e7, e3.symm⟩
    · exact ⟨e8, e4.symm⟩
    · exact ⟨exOff _ (by omega), Nat.ne_of_gt (by omega)⟩
    · exact ⟨exOff _ (Nat.le_refl _), Nat.ne_of_gt (by omega)⟩
    · exact ⟨exOff _ (by omega), Nat.ne_of_gt (by omega)⟩
    · exact ⟨exOff _ (by omega), Nat.ne_of_gt (by omega)⟩
    · exact ⟨hoP, e5⟩
theorem law_b6 (Z : At w dp un gd fr g loose mean mg mb) (L f : Addr) (a : LexA) (C : Addr) (w2 : Obj) (hw2 : w2.data = .cell none) (hsz : 185 < L ∧ 221 < L)
    (s : Shared) (rest : Str → Option Value) (ex : Led) (Q : Flow → Shared → Prop)
    (F : Fr g L s.heap (fm rest [("lexer", .ref a.I), ("boxes", .ref C)]))
    (N : News g L s.heap ((L + 1 + 1, w2) :: (221, tabObj #[]) :: ex)) (hoP : Off (L + 1 + 1) ex) (ho2 : Off 221 ex)
    (hq : ∀ h' tk' rest' (p : PileA) k0 t0 nd n ps, Fr g L h' (fm rest' [("lexer", .ref a.I), ("boxes", .ref C), ("lay", .ref p.f1), ("take", .ref p.f2)]) → News g L h' (pileTl w p k0 t0 nd n [] ++ (221, tabObj ps) :: ex) → PileOk p L →
      (∀ b ∈ pileAdr p, Off b ex ∧ b ≠ 221) → Q .next { s with heap := h', toks := tk' }) :
    wpAny (model P1 w) ((AR dp un gd fr).deeper (lawEnv L f)) (execs [lp.s9, lp.s10, lp.s11] (lawEnv L f)) Q (fun _ _ => False) s := by
  obtain ⟨B, Xg, Tg, C1, C2, hd, hu⟩ := Z
  unfold lawEnv lp
  dsimp only
  k_steps
  refine' call_acc (fI := 74) F Xg N ?ho ?e2 ?e3 ?hm ?e7 ?e8 ?hi ?hf ?_
  case ho => k_is
  case e2 => rfl
  case e3 => rfl
  case hm => rfl
  case e7 => k_is
  case e8 => k_is
  case hi => k_is
  case hf => k_is
  intro x dx h1 F N l1 l2
  refine' use_fsC (ainit_fs Xg Tg x dx (Nat.ne_of_gt l2)) B F N rfl rfl rfl ?hd ?hu ?htl ?hrest ?_
  case htl =>
    intro q hq
    rcases List.mem_cons.mp hq with rfl | hq
    · exact .head _
    · rw [List.mem_singleton.mp hq]; exact .tail _ (.head _)
  case hrest =>
    refine fun q hq => ⟨.tail _ (.tail _ hq), fun z hz => ?_⟩
    rcases List.mem_cons.mp hz with rfl | hz
    · exact Nat.ne_of_gt (Nat.lt_trans (l1 q hq) l2)
    · rw [List.mem_singleton.mp hz]; exact Nat.ne_of_gt (l1 q hq)
  case hd => show dp + 1 + 1 + 4 < _; omega
  case hu => show un + 3 + 1 + 40 < _; omega
  rintro v tl' h' tk' ⟨rfl, k0, t0, nd0, rfl⟩ F N hn
  refine ⟨rfl, ?_⟩
  have lx : ∀ p ∈ (L + 1 + 1, w2) :: (221, tabObj #[]) :: ex, p.1 ≠ x := fun p hp => Nat.ne_of_lt (Nat.lt_trans (l1 p hp) l2)
  have ld : ∀ p ∈ (L + 1 + 1, w2) :: (221, tabObj #[]) :: ex, p.1 ≠ dx := fun p hp => Nat.ne_of_lt (l1 p hp)
  have q2 : @LT.lt Nat _ 221 L := hsz.2
  have e1 := lx _ (.head _)
  have e2 := ld _ (.head _)
  have e3 := lx _ (.tail _ (.head _))
  have e4 := ld _ (.tail _ (.head _))
  have e5 : L + 1 + 1 ≠ 221 := Nat.ne_of_gt (by omega)
  have e6 : x ≠ dx := Nat.ne_of_gt l2
  have e7 : Off x ex := fun p hp => lx p (.tail _ (.tail _ hp))
  have e8 : Off dx ex := fun p hp => ld p (.tail _ (.tail _ hp))
  dsimp only at e1 e2 e3 e4
  dsimp only [List.cons_append, List.nil_append] at N
  dsimp only
  k_steps
  rename Fr _ _ _ _ => F
  rename News _ _ _ _ => N
  rename_i f1 c1 o1 vs1 t1 ct1 ha tka d1 d2 l1a l2a hb f2 c2 o2 vs2 t2 ct2 hc tkb d3 d4 l1b l2b hd'
  rename Obj.data _ = Data.cell (some (Value.ref x)) => hop
  obtain ⟨p, r1, r2, r3, r4, r5⟩ := b6_end N (q1 := _) (pm1 := _) (ct1 := _) (q2 := _) (pm2 := _) (ct2 := _) rfl rfl d1 d2 d3 d4 hop l1a l2a l1b.1 l2b e6 e1 e2 e3 e4 e5 e7 e8 hoP
  subst r1
  subst r2
  exact hq _ _ _ p k0 t0 nd0 0 _ (fr_norm [("lexer", .ref a.I), ("boxes", .ref C), ("lay", .ref p.f1), ("take", .ref p.f2)] F (by walk_at "M names")) r4 r3 r5
end

noncomputable section
example : True := by
  k_with "call ref" => (k_here; (with_reducible show wpAny _ _ (call (Value.ref 207) _ _) _ _ _); refine Stop.out ?_)
  k_with "call ref" => (k_here; (with_reducible show wpAny _ _ (call (Value.ref 214) _ _) _ _ _); refine Stop.out ?_)
  k_with "call ref" => (k_here; (with_reducible show wpAny _ _ (call (Value.ref 219) _ _) _ _ _); refine Stop.out ?_)
  k_with "compareOp NotEq ref ref" => (k_here; (with_reducible show wpAny _ _ (compareOp CmpOp.NotEq (Value.ref _) (Value.ref _)) _ _ _); refine Stop.out ?_)
  trivial
variable {dp un : Nat} {gd : Option (List Code)} {fr : List Env} {g : Heap}
theorem law_b7 (Z : At w dp un gd fr g loose mean mg mb) (L f : Addr) (a : LexA) (tx : Str) (ok : LexOk w g tx a) (hlen : tx.length ≤ 900) (C : Addr) (cv : List Value) (nc : Nat) (bs R : List Str) (hbs : StrsAre cv bs) (h12 : bs.length = 12) (hb3 : ∀ s ∈ bs, s.length ≤ 3)
    (hR : (rowFrom bisR bs 12).1 = R) (hW : walksTo layR takeQ [1, 2, 3] bs [] 3 = (R, [])) (hRok : StrsOk R)
    (fl ft : Addr) (ln : Int) (tt : LexT) (nd np : Nat) (tp : Tok) (na : Nat) (ex : Led) (hexa : ∀ q ∈ ex, OffA q.1 a) (hCa : OffA C a) (hCe : Off C ex)
    (s : Shared) (rest : Str → Option Value) (Q : Flow → Shared → Prop)
    (F : Fr g L s.heap (fm rest [("lexer", .ref a.I), ("boxes", .ref C), ("lay", .ref fl), ("take", .ref ft)]))
    (N : News g L s.heap ((C, listOf cv.toArray nc) :: (lexTl w a ln tt nd [] np tx.length tp na ++ ex)))
    (hq : ∀ h' tk' rest' BL lv nl ln tt nd np tp na, Fr g L h' (fm rest' [("lexer", .ref a.I), ("boxes", .ref C), ("lay", .ref fl), ("take", .ref ft), ("by_lines", .ref BL)]) →
      News g L h' ((BL, listOf lv nl) :: (C, listOf cv.toArray nc) :: (lexTl w a ln tt nd [] np tx.length tp na ++ ex)) → StrsAre lv.toList R → OffA BL a → Off BL ex → BL ≠ C → Q .next { s with heap := h', toks := tk' }) :
    wpAny (model P1 w) ((AR dp un gd fr).deeper (lawEnv L f)) (execs [lp.s12, lp.s13] (lawEnv L f)) Q (fun _ _ => False) s := by
  obtain ⟨B, Xg, Tg, C1, C2, hd, hu⟩ := Z
  have hcl := hbs.len_eq
  unfold lawEnv lp
  dsimp only
  k_steps
  unfold Stop
  have N0 := N
  refine' use_fsT (rest := lexTl w a ln tt nd [] np tx.length tp na ++ ex) (rowR_fs Xg Tg C cv nc bs hbs (by omega) (fun s hs => Nat.le_trans (hb3 s hs) (by decide))) B F N rfl rfl ?hd ?hu ?htl ?hrest ?_
  case hd => ktr_room
  case hu => ktr_units
  case htl => exact fun q hq => by rw [List.mem_singleton.mp hq]; exact .head _
  case hrest =>
    refine fun q hq => ⟨.tail _ hq, fun x hx => ?_⟩
    rw [List.mem_singleton.mp hx]
    rcases List.mem_append.mp hq with hq | hq
    · exact (hCa _ (lex_adr q hq)).symm
    · exact (hCe q hq).symm
  rintro v tl' h' tk' ⟨BL, lv, nl, rfl, hne, hSL, rfl⟩ F N hn
  have hBn := (hn _ (.head _)).resolve_left (fun k => hne (List.mem_singleton.mp k))
  clear hn
  rw [hcl, h12, hR] at hSL
  have oB : OffA BL a := fun b hb => by
    have hb' : b ∈ (lexTl w a ln tt nd [] np tx.length tp na).map (·.1) := hb
    obtain ⟨q, hq, rfl⟩ := List.mem_map.mp hb'
    exact hBn q (.tail _ (List.mem_append_left _ hq))
  have oBe : Off BL ex := fun p hp => hBn p (.tail _ (List.mem_append_right _ hp))
  have N1 := N
  dsimp only [lexTl, List.cons_append, List.nil_append] at N1
  k_steps
  unfold Stop
  rename Fr _ _ _ _ => F
  rename News _ _ _ _ => N
  rename_i h1 mp h2 l1b mq h3 l1c
  have oM : OffA mp a := fun b hb => by
    simp only [lexAdr, List.mem_cons, List.not_mem_nil, or_false] at hb
    rcases hb with h | h | h | h | h | h | h | h | h | h | h <;> (rw [h]; exact Nat.ne_of_lt (by omega))
  have oG : OffA mq a := fun b hb => by
    simp only [lexAdr, List.mem_cons, List.not_mem_nil, or_false] at hb
    rcases hb with h | h | h | h | h | h | h | h | h | h | h <;> (rw [h]; exact Nat.ne_of_lt (by omega))
  have oD : OffA D' a := fun b hb => by
    simp only [lexAdr, List.mem_cons, List.not_mem_nil, or_false] at hb
    rcases hb with h | h | h | h | h | h | h | h | h | h | h <;> (rw [h]; exact Nat.ne_of_lt (by omega))
  have nMG : mp ≠ mq := Nat.ne_of_lt (by omega)
  have nCM : C ≠ mp := Nat.ne_of_lt (by omega)
  have nCG : C ≠ mq := Nat.ne_of_lt (by omega)
  have nCD : C ≠ D' := Nat.ne_of_lt (by omega)
  have nDM : D' ≠ mp := Nat.ne_of_lt (by omega)
  have nDG : D' ≠ mq := Nat.ne_of_lt (by omega)
  have nBM : BL ≠ mp := Nat.ne_of_lt (by omega)
  have nBG : BL ≠ mq := Nat.ne_of_lt (by omega)
  have nBD : BL ≠ D' := Nat.ne_of_lt (by omega)
  have Y : LexEnd w g tx a mp mq := ⟨ok, by omega, oM, oG, nMG⟩
  have exM : Off mp ex := fun p hp => Nat.ne_of_lt (allLt_mem (by exact l1b.2.2.2.2.2.2.2.2.2.2.2.2.2.2) p hp)
  have exG : Off mq ex := fun p hp => Nat.ne_of_lt (allLt_mem (by exact l1c.2.2.2.2.2.2.2.2.2.2.2.2.2.2.2) p hp)
  have exD : Off D' ex := fun p hp => Nat.ne_of_lt (l1 p (by simp only [List.mem_cons]; right; right; right; right; right; right; right; right; right; right; right; right; right; exact hp))
  refine' use_fsT (rest := (BL, listOf lv.toArray nl) :: ex) (walks_fs Xg Tg (RepL w tx a mp mq) layR takeQ mp mq (fun n q tl h hr hh X => keep_rep n q tl h hr hh X) (fun n q tl x t hr hx => push_rep Xg Tg Y n q tl x t hr hx) (fun n q tl hr => tok_rep Xg Tg Y n q tl hr) (fun n q tl hr => less_rep n q tl hr)
    C cv nc bs hbs (by omega) (fun s hs => Nat.le_trans (hb3 s hs) (by decide)) D' [.int 1 tk, .int 2 (tk + 1), .int 3 (tk + 1 + 1)] 0 [1, 2, 3] (.cons 1 _ (.cons 2 _ (.cons 3 _ .nil))) 0 [] (lexR w a mp mq ln tt nd [] np tx.length tp na) ⟨[], ln, tt, nd, np, tp, na, .nil, ?hn, (fun _ h => nomatch h), fun p => Iff.rfl⟩ ?o1 ?o2 nCD) B F N rfl rfl ?hd2 ?hu2 ?htl2 ?hrest2 ?_
  case hn => show 0 + (0 + 3 * cv.length) ≤ 800; omega
  case o1 =>
    intro p hp
    rcases List.mem_cons.mp hp with rfl | hp
    · exact nCM.symm
    · rcases List.mem_cons.mp hp with rfl | hp
      · exact nCG.symm
      · exact hCa _ (lex_adr p hp)
  case o2 =>
    intro p hp
    rcases List.mem_cons.mp hp with rfl | hp
    · exact nDM.symm
    · rcases List.mem_cons.mp hp with rfl | hp
      · exact nDG.symm
      · exact oD _ (lex_adr p hp)
  case hd2 => ktr_room
  case hu2 => ktr_units
  case htl2 =>
    intro q hq
    rcases List.mem_cons.mp hq with rfl | hq
    · exact .tail _ (.tail _ (.tail _ (.tail _ (.head _))))
    · rcases List.mem_cons.mp hq with rfl | hq
      · exact .tail _ (.tail _ (.head _))
      · rcases List.mem_cons.mp hq with rfl | hq
        · exact .tail _ (.head _)
        · rcases List.mem_cons.mp hq with rfl | hq
          · exact .head _
          · refine .tail _ (.tail _ (.tail _ (.tail _ (.tail _ ?_))))
            show q ∈ lexTl w a ln tt nd [] np tx.length tp na ++ ex
            exact List.mem_append_left _ hq
  case hrest2 =>
    have six : ∀ b, C ≠ b → D' ≠ b → mp ≠ b → mq ≠ b → OffA b a → ∀ z ∈ (C, listOf cv.toArray nc) :: (D', listOf [Value.int 1 tk, Value.int 2 (tk + 1), Value.int 3 (tk + 1 + 1)].toArray 0) :: lexR w a mp mq ln tt nd [] np tx.length tp na, z.1 ≠ b := fun b h1 h2 h3 h4 h5 z hz => by
      rcases List.mem_cons.mp hz with rfl | hz
      · exact h1
      · rcases List.mem_cons.mp hz with rfl | hz
        · exact h2
        · rcases List.mem_cons.mp hz with rfl | hz
          · exact h3
          · rcases List.mem_cons.mp hz with rfl | hz
            · exact h4
            · exact h5 _ (lex_adr z hz)
    intro q hq
    rcases List.mem_cons.mp hq with rfl | hq
    · exact ⟨.tail _ (.tail _ (.tail _ (.head _))), six _ hne.symm nBD.symm nBM.symm nBG.symm oB⟩
    · refine ⟨.tail _ (.tail _ (.tail _ (.tail _ (.tail _ ?_)))), six _ (hCe q hq).symm (exD q hq).symm (exM q hq).symm (exG q hq).symm (hexa q hq)⟩
      show q ∈ lexTl w a ln tt nd [] np tx.length tp na ++ ex
      exact List.mem_append_right _ hq
  rintro v tl' h' tk' ⟨D, wv, nv, tlq, keep, rfl, hSD, hRep, rfl, hDk, hCk, hkoff, hDC⟩ F N hn
  dsimp only [List.length_cons, List.length_nil] at hSD hRep
  rw [show (0 + 1 + 1 + 1) = 3 from rfl, hW] at hSD hRep
  obtain ⟨vs', ln', tt', nd', np', tp', na', hv', -, -, hsame⟩ := hRep
  cases hv'
  k_steps
  unfold Stop
  refine' ne_same (N.isList (List.mem_append_left _ (List.mem_append_left _ hDk))) (N.isList (List.mem_append_right _ (.head _))) hSD hSL hRok ?hu3 ?_
  case hu3 => first | units_room | exact Nat.le_of_ble_eq_true rfl
  k_steps
  refine hq _ _ _ BL lv.toArray nl ln' tt' nd' np' tp' na' (fr_norm [("lexer", .ref a.I), ("boxes", .ref C), ("lay", .ref fl), ("take", .ref ft), ("by_lines", .ref BL)] F (by walk_at "M names")) (fun p hp => N p ?_) (by simpa using hSL) oB oBe hne
  rcases List.mem_cons.mp hp with rfl | hp
  · exact List.mem_append_right _ (.head _)
  · rcases List.mem_cons.mp hp with rfl | hp
    · exact List.mem_append_left _ (List.mem_append_left _ hCk)
    · rcases List.mem_append.mp hp with hp | hp
      · exact List.mem_append_left _ (List.mem_append_right _ ((hsame p).mpr (.tail _ (.tail _ hp))))
      · exact List.mem_append_right _ (.tail _ hp)
end
example : True := by
  k_with_none
  trivial
example : True := by
  k_with "M enter" => (
  (case ho => k_is)
  (case hcd => k_is)
  (case hb => first | exact fun s Xs => BindsTo.of_eq rfl | exact fun s Xs => binds_K Xs rfl (by k_is) rfl rfl rfl)
  (case hl => exact locs rfl)
  (case h1 => decide)
  (case h2 => decide)
  (case h3 => exact rfl)
  (case h4 => exact rfl)
  (case h5 => exact rfl))
  k_with "M names" => (repeat' (first | exact List.forall_mem_nil _ | (refine List.forall_mem_cons.mpr ⟨?nm, ?_⟩; (case nm => rfl))))
  trivial
example : True := by
  k_with "M ne" => first | assumption | exact Ne.symm (by assumption) | k_ne
  trivial
example : True := by
  k_with "M len" => first | assumption | exact getD_len (by assumption) _ | omega
  k_with "M lens" => first | assumption | exact len_del (by assumption) | exact len_del (len_del (by assumption))
  k_with "M strs" => first | assumption | exact strs_del (by assumption) _ | exact strs_del (strs_del (by assumption) _) _
  k_with "M nat" => first | with_reducible exact fdiv2 _ _ | rfl | exact (Int.natCast_add _ _).symm | omega
  k_with "M le" => first | omega | ((try simp (disch := omega) only [delL_length, insL_length]); omega)
  k_with "subscriptTail Name Name ref int" => (k_here; k_dflt (refine' item_strsN ?N ?m ?h _ ?k ?l ?f ?_ ?hs ?hg; (case N => k_asm); (case m => k_mem); (case h => assumption); (case k => walk_at "M nat"); (case l => omega); (case f => omega); (case hs => with_unfolding_all rfl); (case hg => (intro _; with_unfolding_all rfl)); k_whole); intro tk')
  k_with "subscriptTail Name BinOp ref int" => (k_here; k_dflt (refine' item_strsN ?N ?m ?h _ ?k ?l ?f ?_ ?hs ?hg; (case N => k_asm); (case m => k_mem); (case h => assumption); (case k => walk_at "M nat"); (case l => omega); (case f => omega); (case hs => with_unfolding_all rfl); (case hg => (intro _; with_unfolding_all rfl)); k_whole); intro tk')
  k_with "exec While Compare cons nil" => refine Stop.out ?_
  k_with "call builtin:list.insert" => (k_here; (with_reducible show wpAny _ _ (call (Value.builtin _) [Value.ref _, Value.int _ _, _]) _ _ _); k_dflt (refine' ins_N ?F ?N _ ?k ?i ?l ?U ?_; (case F => k_asm); (case N => k_asm); (case U => k_upd); (case k => walk_at "M nat"); (case i => walk_at "M le"); (case l => walk_at "M le"); k_whole); intro h' F' N'; (try dsimp only [List.nil_append, List.cons_append] at N'); (try k_sweep))
  k_with "call builtin:list.pop" => (k_here; (with_reducible show wpAny _ _ (call (Value.builtin _) [Value.ref _, Value.int _ _]) _ _ _); k_dflt (refine' popS_N ?F ?N ?h _ ?k ?i ?l ?U ?_; (case F => k_asm); (case N => k_asm); (case U => k_upd); (case h => walk_at "M strs"); (case k => walk_at "M nat"); (case i => walk_at "M le"); (case l => walk_at "M le"); k_whole); intro h' tk' F' N'; (try dsimp only [List.nil_append, List.cons_append] at N'); (try k_sweep))
  k_with "pyIter ref" => ((with_reducible show wpAny _ _ (pyIter (Value.ref _)) (CompPostA _ _ _ _ _ _ _ _ _ _) _ _); refine Stop.out ?_)
  k_with "pyIter ref" => ((with_reducible show wpAny _ _ (pyIter (Value.ref _)) (fun it s₂ => LoopAtV _ _ _ _ _ _ _ _ _ it s₂) _ _); refine Stop.out ?_)
  k_with "call builtin:len" => (k_here; (with_reducible show wpAny _ _ (call (Value.builtin "len") [Value.ref _]) _ _ _); k_dflt (refine' len_N ?N ?m ?l ?_; (case N => k_asm); (case m => k_mem); (case l => walk_at "M le"); k_whole); intro t' tk')
  k_with "binaryOp Sub int int" => (k_here; (with_reducible refine' sub_natN ?h ?_; (case h => omega)); intro t' tk')
  k_with "binaryOp Sub int int" => (k_here; (with_reducible refine' sub_nat1 ?h ?_; (case h => omega)); intro t' tk')
  k_with "LPost" => refine Stop.out ?_
  k_with "WPost" => refine Stop.out ?_
  k_with "Done" => refine Stop.out ?_
  k_with "call builtin:len" => (k_here; (with_reducible show wpAny _ _ (call (Value.builtin "len") [Value.str _ _]) _ _ _); k_dflt (refine' lenS_N ?l ?_; (case l => walk_at "M len"); k_whole); intro t' tk')
  k_with "eval ListComp" => refine Stop.out ?_
  k_with "exec Assign cons ListComp" => refine Stop.out ?_
  k_with "CPost" => refine Stop.out ?_
  k_with "CPostA" => refine Stop.out ?_
  k_with "EPost" => refine Stop.out ?_
  trivial
example : True := by
  k_with "call builtin:list.append" => (k_here; (with_reducible show wpAny _ _ (call (Value.builtin _) [Value.ref _, _]) _ _ _); k_dflt (refine' app_N ?F ?N ?l ?U ?_; (case F => k_asm); (case N => k_asm); (case U => k_upd); (case l => walk_at "M le"); k_whole); intro h' F' N'; (try k_sweep))
  k_with "newList" => (k_here; k_dflt (refine' newList_N ?F ?N ?l ?_; (case F => k_asm); (case N => k_asm); (case l => exact Nat.le_of_ble_eq_true rfl); k_whole); intro D' h' F' N' l1 l2; (try (have l3 := l1; k_lt l3)); (try k_sweep))
  k_with "M enterC" => (
  (case ho => k_is)
  (case hcd => k_is)
  (case hb => first | exact fun s Xs => BindsTo.of_eq rfl | exact fun s Xs => binds_K Xs rfl (by k_is) rfl rfl rfl)
  (case hl => exact rfl)
  (case h2 => decide +kernel)
  (case h1 => decide)
  (case h3 => exact rfl)
  (case h4 => exact rfl)
  (case h5 => exact rfl))
  k_with "M comp" => (
  (case hclos => exact rfl)
  (case hcell => decide)
  (case hkind => exact rfl)
  (case hnames => decide)
  (case hx => exact rfl)
  (case hs => (intro _; exact rfl)))
  k_with "M compA" => (
  (case hsw => exact rfl)
  (case hclos => exact rfl)
  (case hcell => decide)
  (case hkind => exact rfl)
  (case hnames => decide)
  (case hx => exact rfl)
  (case hy => exact rfl)
  (case hp => exact rfl)
  (case hs => (intro _; exact rfl)))
  k_with "eval Name" => (k_here; (with_reducible show wpAny _ _ (eval (PySem.Expr.Name _ _) (compEnvC _ _ _ _)) _ _ _); k_dflt (first
  | (refine' cname ?n ?v ?k ?l ?d ?_; (case n => assumption); (case v => assumption); (case k => exact rfl); (case l => exact rfl); (case d => decide))
  | (refine' ccell ?N ?c ?m ?d ?k ?l ?b ?_; (case N => k_asm); (case c => exact rfl); (case m => k_mem); (case d => assumption); (case k => exact rfl); (case l => exact rfl); (case b => decide))
  | (refine' cbuilt ?F ?X ?T ?e ?v ?n ?g ?b ?k ?l ?d ?_; (case F => k_asm); (case X => k_asm); (case T => k_asm); (case e => k_is); (case v => boot_by_name); (case n => decide); (case g => exact rfl); (case b => exact rfl); (case k => exact rfl); (case l => exact rfl); (case d => decide))
  | (refine' cglob ?F ?X ?T ?e ?g ?k ?l ?d ?_; (case F => k_asm); (case X => k_asm); (case T => k_asm); (case e => k_is); (case g => exact rfl); (case k => exact rfl); (case l => exact rfl); (case d => decide))
  | fail))
  trivial
example : True := by
  k_with "call ref" => ((with_reducible show wpAny _ _ (call (Value.ref 202) [Value.str _ _] []) _ _ _); k_dflt (refine' use_fs (size_fs ?X ?T _ _ ?hx) ?B ?F ?N ?hf ?hk ?hd ?hu ?hp ?_; (case B => assumption); (case X => assumption); (case T => assumption); (case F => k_asm); (case N => k_asm); (case hf => rfl); (case hk => rfl); (case hp => walk_at "M picks"); (case hx => walk_at "M len"); (case hd => ktr_room); (case hu => ktr_units); k_whole); intro v' tl' h' tk' hr' F' N' hn'; (obtain ⟨t', hv', ht'⟩ := hr'); (subst hv'); (subst ht'); (clear hn'); (try dsimp only [List.nil_append, List.cons_append] at N'); (try k_sweep))
  trivial

example : True := by
  k_with "call ref" => ((with_reducible show wpAny _ _ (call (Value.ref 39) _ _) _ _ _); k_dflt (refine' use_fs (bisR_fs ?X ?T _ _ _ _ _ _ ?hss _ _ _ _ ?hlo ?hhi _ _ ?h1 ?h2 ?h3 ?h4) ?B ?F ?N ?hf ?hk ?hd ?hu ?hp ?_; (case B => assumption); (case X => assumption); (case T => assumption); (case F => k_asm); (case N => k_asm); (case hf => rfl); (case hk => rfl); (case hp => walk_at "M picks"); (case hss => walk_at "M strs"); (case hlo => walk_at "M nat"); (case hhi => walk_at "M nat"); (case h1 => omega); (case h2 => walk_at "M le"); (case h3 => walk_at "M le"); (case h4 => walk_at "M lens"); (case hd => ktr_room); (case hu => ktr_units); k_whole); intro v' tl' h' tk' hr' F' N' hn'; (obtain ⟨t', hv', ht'⟩ := hr'); (subst hv'); (subst ht'); (clear hn'); (try dsimp only [List.nil_append, List.cons_append] at N'); (try k_sweep))
  k_with "call ref" => ((with_reducible show wpAny _ _ (call (Value.ref 57) _ _) _ _ _); k_dflt (refine' use_fs (bisL_fs ?X ?T _ _ _ _ _ _ ?hss _ _ _ _ ?hlo ?hhi _ _ ?h1 ?h2 ?h3 ?h4) ?B ?F ?N ?hf ?hk ?hd ?hu ?hp ?_; (case B => assumption); (case X => assumption); (case T => assumption); (case F => k_asm); (case N => k_asm); (case hf => rfl); (case hk => rfl); (case hp => walk_at "M picks"); (case hss => walk_at "M strs"); (case hlo => walk_at "M nat"); (case hhi => walk_at "M nat"); (case h1 => omega); (case h2 => walk_at "M le"); (case h3 => walk_at "M le"); (case h4 => walk_at "M lens"); (case hd => ktr_room); (case hu => ktr_units); k_whole); intro v' tl' h' tk' hr' F' N' hn'; (obtain ⟨t', hv', ht'⟩ := hr'); (subst hv'); (subst ht'); (clear hn'); (try dsimp only [List.nil_append, List.cons_append] at N'); (try k_sweep))
  trivial

example : True := by
  k_with "call ref" => ((with_reducible show wpAny _ _ (call (Value.ref 30) _ _) _ _ _); k_dflt (refine' use_fs (insR_fs ?X ?T _ _ _ _ _ _ ?hss _ _ _ _ ?hlo ?hhi _ _ ?h1 ?h2 ?h3 ?h4 ?hx) ?B ?F ?N ?hf ?hk ?hd ?hu ?hp ?_; (case B => assumption); (case X => assumption); (case T => assumption); (case F => k_asm); (case N => k_asm); (case hf => rfl); (case hk => rfl); (case hp => walk_at "M picks"); (case hss => walk_at "M strs"); (case hlo => walk_at "M nat"); (case hhi => walk_at "M nat"); (case h1 => omega); (case h2 => walk_at "M le"); (case h3 => walk_at "M le"); (case h4 => walk_at "M lens"); (case hx => walk_at "M len"); (case hd => ktr_room); (case hu => ktr_units); k_whole); intro v' tl' h' tk' hr' F' N' hn'; (obtain ⟨hv', ht'⟩ := hr'); (subst hv'); (subst ht'); (clear hn'); (try dsimp only [List.nil_append, List.cons_append] at N'); (try k_sweep))
  k_with "call ref" => ((with_reducible show wpAny _ _ (call (Value.ref 48) _ _) _ _ _); k_dflt (refine' use_fs (insL_fs ?X ?T _ _ _ _ _ _ ?hss _ _ _ _ ?hlo ?hhi _ _ ?h1 ?h2 ?h3 ?h4 ?hx) ?B ?F ?N ?hf ?hk ?hd ?hu ?hp ?_; (case B => assumption); (case X => assumption); (case T => assumption); (case F => k_asm); (case N => k_asm); (case hf => rfl); (case hk => rfl); (case hp => walk_at "M picks"); (case hss => walk_at "M strs"); (case hlo => walk_at "M nat"); (case hhi => walk_at "M nat"); (case h1 => omega); (case h2 => walk_at "M le"); (case h3 => walk_at "M le"); (case h4 => walk_at "M lens"); (case hx => walk_at "M len"); (case hd => ktr_room); (case hu => ktr_units); k_whole); intro v' tl' h' tk' hr' F' N' hn'; (obtain ⟨hv', ht'⟩ := hr'); (subst hv'); (subst ht'); (clear hn'); (try dsimp only [List.nil_append, List.cons_append] at N'); (try k_sweep))
  trivial

example : True := by
  k_with "call ref" => ((with_reducible show wpAny _ _ (call (Value.ref 207) [Value.ref _, Value.ref 30] _) _ _ _); k_dflt (refine' use_fs (rowR_fs ?X ?T _ _ _ _ ?hss ?h3 ?h4) ?B ?F ?N ?hf ?hk ?hd ?hu ?hp ?_; (case B => assumption); (case X => assumption); (case T => assumption); (case F => k_asm); (case N => k_asm); (case hf => rfl); (case hk => rfl); (case hp => walk_at "M picks"); (case hss => walk_at "M strs"); (case h3 => walk_at "M le"); (case h4 => walk_at "M lens"); (case hd => ktr_room); (case hu => ktr_units); k_whole); intro v' tl' h' tk' hr' F' N' hn'; (obtain ⟨D', its', n', hv', hne', hS', ht'⟩ := hr'); (subst hv'); (subst ht'); (have hO' := off_one hn' hne'); (clear hn'); (try dsimp only [List.nil_append, List.cons_append] at N'); (try k_sweep))
  k_with "call ref" => ((with_reducible show wpAny _ _ (call (Value.ref 207) [Value.ref _, Value.ref 48] _) _ _ _); k_dflt (refine' use_fs (rowL_fs ?X ?T _ _ _ _ ?hss ?h3 ?h4) ?B ?F ?N ?hf ?hk ?hd ?hu ?hp ?_; (case B => assumption); (case X => assumption); (case T => assumption); (case F => k_asm); (case N => k_asm); (case hf => rfl); (case hk => rfl); (case hp => walk_at "M picks"); (case hss => walk_at "M strs"); (case h3 => walk_at "M le"); (case h4 => walk_at "M lens"); (case hd => ktr_room); (case hu => ktr_units); k_whole); intro v' tl' h' tk' hr' F' N' hn'; (obtain ⟨D', its', n', hv', hne', hS', ht'⟩ := hr'); (subst hv'); (subst ht'); (have hO' := off_one hn' hne'); (clear hn'); (try dsimp only [List.nil_append, List.cons_append] at N'); (try k_sweep))
  trivial

example : True := by
  k_with "call ref" => ((with_reducible show wpAny _ _ (call (Value.ref 219) _ _) _ _ _); k_dflt (refine' use_fs (turned_fs ?X ?T _ _ _ _ ?hss ?h3) ?B ?F ?N ?hf ?hk ?hd ?hu ?hp ?_; (case B => assumption); (case X => assumption); (case T => assumption); (case F => k_asm); (case N => k_asm); (case hf => rfl); (case hk => rfl); (case hp => walk_at "M picks"); (case hss => walk_at "M strs"); (case h3 => walk_at "M le"); (case hd => ktr_room); (case hu => ktr_units); k_whole); intro v' tl' h' tk' hr' F' N' hn'; (obtain ⟨D', its', n', hv', hne', hS', ht'⟩ := hr'); (subst hv'); (subst ht'); (have hO' := off_one hn' hne'); (clear hn'); (try dsimp only [List.nil_append, List.cons_append] at N'); (try k_sweep))
  trivial

example : True := by
  k_with "call ref" => ((with_reducible show wpAny _ _ (call (Value.ref 134) _ []) _ _ _); k_dflt (refine' use_fs (count_fs ?X ?T _ _ _ _ _ _ _ ?v ?n) ?B ?F ?N ?hf ?hk ?hd ?hu ?hp ?_; (case B => assumption); (case X => assumption); (case T => assumption); (case F => k_asm); (case N => k_asm); (case hf => rfl); (case hk => rfl); (case hp => walk_at "M picks"); (case v => ((try simp only [List.length_append, List.length_cons, List.length_nil]); omega)); (case n => walk_at "M ne"); (case hd => ktr_room); (case hu => ktr_units); k_whole); intro v' tl' h' tk' hr' F' N' hn'; (obtain ⟨⟨tz', hz'⟩, hy'⟩ := hr'); (subst hz'); (subst hy'); (clear hn'); (try dsimp only [List.nil_append, List.cons_append] at N'); (try k_sweep))
  trivial

example : True := by
  k_with "getMethod ref" => (k_here; k_dflt (refine' method_in ?F ?X ?I ?g ?k ?f ?t ?l ?_; (case F => k_asm); (case X => k_asm); (case I => exact inst_acc (by k_asm) (by k_mem) (by k_mem)); (case g => k_is); (case k => k_is); (case f => k_is); (case t => k_is); (case l => with_unfolding_all k_get); k_whole))
  k_with "call ref" => (k_here; (with_reducible show wpAny _ _ (call (Value.ref 81) _ _) _ _ _); refine Stop.out ?_)
  k_with "call ref" => (k_here; (with_reducible show wpAny _ _ (call (Value.ref 97) _ _) _ _ _); refine Stop.out ?_)
  trivial

noncomputable section
example : True := by
  k_with "call ref" => (k_here; (with_reducible show wpAny _ _ (call (Value.ref 207) _ _) _ _ _); refine Stop.out ?_)
  k_with "call ref" => (k_here; (with_reducible show wpAny _ _ (call (Value.ref 214) _ _) _ _ _); refine Stop.out ?_)
  k_with "call ref" => (k_here; (with_reducible show wpAny _ _ (call (Value.ref 219) _ _) _ _ _); refine Stop.out ?_)
  k_with "compareOp NotEq ref ref" => (k_here; (with_reducible show wpAny _ _ (compareOp CmpOp.NotEq (Value.ref _) (Value.ref _)) _ _ _); refine Stop.out ?_)
  trivial
theorem pile_adr {a : PileA} {k0 t0 : Tok} {nd n : Nat} : ∀ q ∈ pileTl w a k0 t0 nd n [], q.1 ∈ pileAdr a := fun q hq => by
  unfold pileTl pileFix at hq
  simp only [List.map_nil, List.append_nil, List.mem_cons, List.not_mem_nil, or_false] at hq
  unfold pileAdr
  simp only [List.mem_cons, List.not_mem_nil, or_false]
  rcases hq with rfl | rfl | rfl | rfl | rfl | rfl | rfl <;> simp only [true_or, or_true]
variable {dp un : Nat} {gd : Option (List Code)} {fr : List Env} {g : Heap}
theorem law_b8 (Z : At w dp un gd fr g loose mean mg mb) (L f : Addr) (a : LexA) (p : PileA) (Y : PileOk p L) (C BL : Addr) (cv : List Value) (nc : Nat) (bs R : List Str) (hbs : StrsAre cv bs) (h12 : bs.length = 12) (hb3 : ∀ s ∈ bs, s.length ≤ 3)
    (hR : (rowFrom bisL bs 12).1 = R) (hW : walksTo layL takeQ [1, 2, 3] bs [] 3 = (R, [])) (hRok : StrsOk R)
    (k0 t0 : Tok) (nd nn : Nat) (ex : Led) (hexp : ∀ q ∈ ex, ∀ b ∈ pileAdr p, b ≠ q.1) (hCp : ∀ b ∈ pileAdr p, b ≠ C) (hCe : Off C ex)
    (s : Shared) (rest : Str → Option Value) (Q : Flow → Shared → Prop)
    (F : Fr g L s.heap (fm rest [("lexer", .ref a.I), ("boxes", .ref C), ("lay", .ref p.f1), ("take", .ref p.f2), ("by_lines", .ref BL)]))
    (N : News g L s.heap ((C, listOf cv.toArray nc) :: (pileTl w p k0 t0 nd nn [] ++ ex)))
    (hq : ∀ h' tk' rest' BP lv nl k0 t0 nd nn, Fr g L h' (fm rest' [("lexer", .ref a.I), ("boxes", .ref C), ("lay", .ref p.f1), ("take", .ref p.f2), ("by_lines", .ref BL), ("by_piles", .ref BP)]) →
      News g L h' ((BP, listOf lv nl) :: (C, listOf cv.toArray nc) :: (pileTl w p k0 t0 nd nn [] ++ ex)) → StrsAre lv.toList R → (∀ b ∈ pileAdr p, b ≠ BP) → Off BP ex → BP ≠ C → Q .next { s with heap := h', toks := tk' }) :
    wpAny (model P1 w) ((AR dp un gd fr).deeper (lawEnv L f)) (execs [lp.s14, lp.s15] (lawEnv L f)) Q (fun _ _ => False) s := by
  obtain ⟨B, Xg, Tg, C1, C2, hd, hu⟩ := Z
  have hcl := hbs.len_eq
  unfold lawEnv lp
  dsimp only
  k_steps
  unfold Stop
  refine' use_fsT (rest := pileTl w p k0 t0 nd nn [] ++ ex) (rowL_fs Xg Tg C cv nc bs hbs (by omega) (fun s hs => Nat.le_trans (hb3 s hs) (by decide))) B F N rfl rfl ?hd ?hu ?htl ?hrest ?_
  case hd => ktr_room
  case hu => ktr_units
  case htl => exact fun q hq => by rw [List.mem_singleton.mp hq]; exact .head _
  case hrest =>
    refine fun q hq => ⟨.tail _ hq, fun x hx => ?_⟩
    rw [List.mem_singleton.mp hx]
    rcases List.mem_append.mp hq with hq | hq
    · exact (hCp _ (pile_adr q hq)).symm
    · exact (hCe q hq).symm
  rintro v tl' h' tk' ⟨BP, lv, nl, rfl, hne, hSL, rfl⟩ F N hn
  have hBn := (hn _ (.head _)).resolve_left (fun k => hne (List.mem_singleton.mp k))
  clear hn
  rw [hcl, h12, hR] at hSL
  have oB : ∀ b ∈ pileAdr p, b ≠ BP := fun b hb => by
    have hb' : b ∈ (pileTl w p k0 t0 nd nn []).map (·.1) := hb
    obtain ⟨q, hq, rfl⟩ := List.mem_map.mp hb'
    exact hBn q (.tail _ (List.mem_append_left _ hq))
  have oBe : Off BP ex := fun z hz => hBn z (.tail _ (List.mem_append_right _ hz))
  k_steps
  unfold Stop
  rename Fr _ _ _ _ => F
  rename News _ _ _ _ => N
  have oD : ∀ b ∈ pileAdr p, b ≠ D' := fun b hb => by
    have hb' : b ∈ (pileTl w p k0 t0 nd nn []).map (·.1) := hb
    obtain ⟨q, hq, rfl⟩ := List.mem_map.mp hb'
    exact Nat.ne_of_lt (l1 q (List.mem_append_right _ (List.mem_append_left _ hq)))
  have nCD : C ≠ D' := Nat.ne_of_lt (l1 (C, _) (List.mem_append_left _ (.tail _ (.head _))))
  have nBD : BP ≠ D' := Nat.ne_of_lt (l1 (BP, _) (List.mem_append_left _ (.head _)))
  have exD : ∀ q ∈ ex, q.1 ≠ D' := fun q hq => Nat.ne_of_lt (l1 q (List.mem_append_right _ (List.mem_append_right _ hq)))
  refine' use_fsT (rest := (BP, listOf lv.toArray nl) :: ex) (walks_fs Xg Tg (RepP w p) layL takeQ p.f1 p.f2 (fun n q tl h hr hh X => keep_pile Y n q tl h hr hh) (fun n q tl x t hr hx => lay_rep Xg Tg L p Y n q tl x t hr hx) (fun n q tl hr => take_rep Xg Tg L p Y n q tl hr) (fun n q tl hr => less_pile p n q tl hr)
    C cv nc bs hbs (by omega) (fun s hs => Nat.le_trans (hb3 s hs) (by decide)) D' [.int 1 tk, .int 2 (tk + 1), .int 3 (tk + 1 + 1)] 0 [1, 2, 3] (.cons 1 _ (.cons 2 _ (.cons 3 _ .nil))) 0 [] (pileTl w p k0 t0 nd nn []) ⟨[], k0, t0, nd, nn, rfl, ?hn, (fun _ h => nomatch h), List.nodup_nil, fun p => Iff.rfl⟩ ?o1 ?o2 nCD) B F N rfl rfl ?hd2 ?hu2 ?htl2 ?hrest2 ?_
  case hn => show 0 + (0 + 3 * cv.length) ≤ 700; omega
  case o1 => exact fun q hq => hCp _ (pile_adr q hq)
  case o2 => exact fun q hq => oD _ (pile_adr q hq)
  case hd2 => ktr_room
  case hu2 => ktr_units
  case htl2 =>
    intro q hq
    rcases List.mem_cons.mp hq with rfl | hq
    · exact .tail _ (List.mem_append_left _ (.tail _ (.head _)))
    · rcases List.mem_cons.mp hq with rfl | hq
      · exact .head _
      · exact .tail _ (List.mem_append_right _ (List.mem_append_left _ hq))
  case hrest2 =>
    have three : ∀ b, C ≠ b → D' ≠ b → (∀ c ∈ pileAdr p, c ≠ b) → ∀ z ∈ (C, listOf cv.toArray nc) :: (D', listOf [Value.int 1 tk, Value.int 2 (tk + 1), Value.int 3 (tk + 1 + 1)].toArray 0) :: pileTl w p k0 t0 nd nn [], z.1 ≠ b := fun b h1 h2 h5 z h' => by
      rcases List.mem_cons.mp h' with rfl | h'
      · exact h1
      · rcases List.mem_cons.mp h' with rfl | h'
        · exact h2
        · exact h5 _ (pile_adr z h')
    intro q hq
    rcases List.mem_cons.mp hq with rfl | hq
    · exact ⟨.tail _ (List.mem_append_left _ (.head _)), three _ hne.symm nBD.symm oB⟩
    · exact ⟨.tail _ (List.mem_append_right _ (List.mem_append_right _ hq)), three _ (hCe q hq).symm (exD q hq).symm (hexp q hq)⟩
  rintro v tl' h' tk' ⟨D, wv, nv, tlq, keep, rfl, hSD, hRep, rfl, hDk, hCk, hkoff, hDC⟩ F N hn
  dsimp only [List.length_cons, List.length_nil] at hSD hRep
  rw [show (0 + 1 + 1 + 1) = 3 from rfl, hW] at hSD hRep
  obtain ⟨ts, k0', t0', nd', nn', hts, -, -, -, hsame⟩ := hRep
  have hts0 : ts = [] := List.map_eq_nil_iff.mp hts.symm
  subst hts0
  k_steps
  unfold Stop
  refine' ne_same (N.isList (List.mem_append_left _ (List.mem_append_left _ hDk))) (N.isList (List.mem_append_right _ (.head _))) hSD hSL hRok ?hu3 ?_
  case hu3 => first | units_room | exact Nat.le_of_ble_eq_true rfl
  k_steps
  refine hq _ _ _ BP lv.toArray nl k0' t0' nd' nn' (fr_norm [("lexer", .ref a.I), ("boxes", .ref C), ("lay", .ref p.f1), ("take", .ref p.f2), ("by_lines", .ref BL), ("by_piles", .ref BP)] F (by walk_at "M names")) (fun z h' => N z ?_) (by simpa using hSL) oB oBe hne
  rcases List.mem_cons.mp h' with rfl | h'
  · exact List.mem_append_right _ (.head _)
  · rcases List.mem_cons.mp h' with rfl | h'
    · exact List.mem_append_left _ (List.mem_append_left _ hCk)
    · rcases List.mem_append.mp h' with h' | h'
      · exact List.mem_append_left _ (List.mem_append_right _ ((hsame z).mpr h'))
      · exact List.mem_append_right _ (.tail _ h')
end
example : True := by
  k_with_none
  trivial
example : True := by
  k_with "M enter" => (
  (case ho => k_is)
  (case hcd => k_is)
  (case hb => first | exact fun s Xs => BindsTo.of_eq rfl | exact fun s Xs => binds_K Xs rfl (by k_is) rfl rfl rfl)
  (case hl => exact locs rfl)
  (case h1 => decide)
  (case h2 => decide)
  (case h3 => exact rfl)
  (case h4 => exact rfl)
  (case h5 => exact rfl))
  k_with "M names" => (repeat' (first | exact List.forall_mem_nil _ | (refine List.forall_mem_cons.mpr ⟨?nm, ?_⟩; (case nm => rfl))))
  trivial
example : True := by
  k_with "M ne" => first | assumption | exact Ne.symm (by assumption) | k_ne
  trivial
example : True := by
  k_with "M len" => first | assumption | exact getD_len (by assumption) _ | omega
  k_with "M lens" => first | assumption | exact len_del (by assumption) | exact len_del (len_del (by assumption))
  k_with "M strs" => first | assumption | exact strs_del (by assumption) _ | exact strs_del (strs_del (by assumption) _) _
  k_with "M nat" => first | with_reducible exact fdiv2 _ _ | rfl | exact (Int.natCast_add _ _).symm | omega
  k_with "M le" => first | omega | ((try simp (disch := omega) only [delL_length, insL_length]); omega)
  k_with "subscriptTail Name Name ref int" => (k_here; k_dflt (refine' item_strsN ?N ?m ?h _ ?k ?l ?f ?_ ?hs ?hg; (case N => k_asm); (case m => k_mem); (case h => assumption); (case k => walk_at "M nat"); (case l => omega); (case f => omega); (case hs => with_unfolding_all rfl); (case hg => (intro _; with_unfolding_all rfl)); k_whole); intro tk')
  k_with "subscriptTail Name BinOp ref int" => (k_here; k_dflt (refine' item_strsN ?N ?m ?h _ ?k ?l ?f ?_ ?hs ?hg; (case N => k_asm); (case m => k_mem); (case h => assumption); (case k => walk_at "M nat"); (case l => omega); (case f => omega); (case hs => with_unfolding_all rfl); (case hg => (intro _; with_unfolding_all rfl)); k_whole); intro tk')
  k_with "exec While Compare cons nil" => refine Stop.out ?_
  k_with "call builtin:list.insert" => (k_here; (with_reducible show wpAny _ _ (call (Value.builtin _) [Value.ref _, Value.int _ _, _]) _ _ _); k_dflt (refine' ins_N ?F ?N _ ?k ?i ?l ?U ?_; (case F => k_asm); (case N => k_asm); (case U => k_upd); (case k => walk_at "M nat"); (case i => walk_at "M le"); (case l => walk_at "M le"); k_whole); intro h' F' N'; (try dsimp only [List.nil_append, List.cons_append] at N'); (try k_sweep))
  k_with "call builtin:list.pop" => (k_here; (with_reducible show wpAny _ _ (call (Value.builtin _) [Value.ref _, Value.int _ _]) _ _ _); k_dflt (refine' popS_N ?F ?N ?h _ ?k ?i ?l ?U ?_; (case F => k_asm); (case N => k_asm); (case U => k_upd); (case h => walk_at "M strs"); (case k => walk_at "M nat"); (case i => walk_at "M le"); (case l => walk_at "M le"); k_whole); intro h' tk' F' N'; (try dsimp only [List.nil_append, List.cons_append] at N'); (try k_sweep))
  k_with "pyIter ref" => ((with_reducible show wpAny _ _ (pyIter (Value.ref _)) (CompPostA _ _ _ _ _ _ _ _ _ _) _ _); refine Stop.out ?_)
  k_with "pyIter ref" => ((with_reducible show wpAny _ _ (pyIter (Value.ref _)) (fun it s₂ => LoopAtV _ _ _ _ _ _ _ _ _ it s₂) _ _); refine Stop.out ?_)
  k_with "call builtin:len" => (k_here; (with_reducible show wpAny _ _ (call (Value.builtin "len") [Value.ref _]) _ _ _); k_dflt (refine' len_N ?N ?m ?l ?_; (case N => k_asm); (case m => k_mem); (case l => walk_at "M le"); k_whole); intro t' tk')
  k_with "binaryOp Sub int int" => (k_here; (with_reducible refine' sub_natN ?h ?_; (case h => omega)); intro t' tk')
  k_with "binaryOp Sub int int" => (k_here; (with_reducible refine' sub_nat1 ?h ?_; (case h => omega)); intro t' tk')
  k_with "LPost" => refine Stop.out ?_
  k_with "WPost" => refine Stop.out ?_
  k_with "Done" => refine Stop.out ?_
  k_with "call builtin:len" => (k_here; (with_reducible show wpAny _ _ (call (Value.builtin "len") [Value.str _ _]) _ _ _); k_dflt (refine' lenS_N ?l ?_; (case l => walk_at "M len"); k_whole); intro t' tk')
  k_with "eval ListComp" => refine Stop.out ?_
  k_with "exec Assign cons ListComp" => refine Stop.out ?_
  k_with "CPost" => refine Stop.out ?_
  k_with "CPostA" => refine Stop.out ?_
  k_with "EPost" => refine Stop.out ?_
  trivial
example : True := by
  k_with "call builtin:list.append" => (k_here; (with_reducible show wpAny _ _ (call (Value.builtin _) [Value.ref _, _]) _ _ _); k_dflt (refine' app_N ?F ?N ?l ?U ?_; (case F => k_asm); (case N => k_asm); (case U => k_upd); (case l => walk_at "M le"); k_whole); intro h' F' N'; (try k_sweep))
  k_with "newList" => (k_here; k_dflt (refine' newList_N ?F ?N ?l ?_; (case F => k_asm); (case N => k_asm); (case l => exact Nat.le_of_ble_eq_true rfl); k_whole); intro D' h' F' N' l1 l2; (try (have l3 := l1; k_lt l3)); (try k_sweep))
  k_with "M enterC" => (
  (case ho => k_is)
  (case hcd => k_is)
  (case hb => first | exact fun s Xs => BindsTo.of_eq rfl | exact fun s Xs => binds_K Xs rfl (by k_is) rfl rfl rfl)
  (case hl => exact rfl)
  (case h2 => decide +kernel)
  (case h1 => decide)
  (case h3 => exact rfl)
  (case h4 => exact rfl)
  (case h5 => exact rfl))
  k_with "M comp" => (
  (case hclos => exact rfl)
  (case hcell => decide)
  (case hkind => exact rfl)
  (case hnames => decide)
  (case hx => exact rfl)
  (case hs => (intro _; exact rfl)))
  k_with "M compA" => (
  (case hsw => exact rfl)
  (case hclos => exact rfl)
  (case hcell => decide)
  (case hkind => exact rfl)
  (case hnames => decide)
  (case hx => exact rfl)
  (case hy => exact rfl)
  (case hp => exact rfl)
  (case hs => (intro _; exact rfl)))
  k_with "eval Name" => (k_here; (with_reducible show wpAny _ _ (eval (PySem.Expr.Name _ _) (compEnvC _ _ _ _)) _ _ _); k_dflt (first
  | (refine' cname ?n ?v ?k ?l ?d ?_; (case n => assumption); (case v => assumption); (case k => exact rfl); (case l => exact rfl); (case d => decide))
  | (refine' ccell ?N ?c ?m ?d ?k ?l ?b ?_; (case N => k_asm); (case c => exact rfl); (case m => k_mem); (case d => assumption); (case k => exact rfl); (case l => exact rfl); (case b => decide))
  | (refine' cbuilt ?F ?X ?T ?e ?v ?n ?g ?b ?k ?l ?d ?_; (case F => k_asm); (case X => k_asm); (case T => k_asm); (case e => k_is); (case v => boot_by_name); (case n => decide); (case g => exact rfl); (case b => exact rfl); (case k => exact rfl); (case l => exact rfl); (case d => decide))
  | (refine' cglob ?F ?X ?T ?e ?g ?k ?l ?d ?_; (case F => k_asm); (case X => k_asm); (case T => k_asm); (case e => k_is); (case g => exact rfl); (case k => exact rfl); (case l => exact rfl); (case d => decide))
  | fail))
  trivial
example : True := by
  k_with "call ref" => ((with_reducible show wpAny _ _ (call (Value.ref 202) [Value.str _ _] []) _ _ _); k_dflt (refine' use_fs (size_fs ?X ?T _ _ ?hx) ?B ?F ?N ?hf ?hk ?hd ?hu ?hp ?_; (case B => assumption); (case X => assumption); (case T => assumption); (case F => k_asm); (case N => k_asm); (case hf => rfl); (case hk => rfl); (case hp => walk_at "M picks"); (case hx => walk_at "M len"); (case hd => ktr_room); (case hu => ktr_units); k_whole); intro v' tl' h' tk' hr' F' N' hn'; (obtain ⟨t', hv', ht'⟩ := hr'); (subst hv'); (subst ht'); (clear hn'); (try dsimp only [List.nil_append, List.cons_append] at N'); (try k_sweep))
  trivial

example : True := by
  k_with "call ref" => ((with_reducible show wpAny _ _ (call (Value.ref 39) _ _) _ _ _); k_dflt (refine' use_fs (bisR_fs ?X ?T _ _ _ _ _ _ ?hss _ _ _ _ ?hlo ?hhi _ _ ?h1 ?h2 ?h3 ?h4) ?B ?F ?N ?hf ?hk ?hd ?hu ?hp ?_; (case B => assumption); (case X => assumption); (case T => assumption); (case F => k_asm); (case N => k_asm); (case hf => rfl); (case hk => rfl); (case hp => walk_at "M picks"); (case hss => walk_at "M strs"); (case hlo => walk_at "M nat"); (case hhi => walk_at "M nat"); (case h1 => omega); (case h2 => walk_at "M le"); (case h3 => walk_at "M le"); (case h4 => walk_at "M lens"); (case hd => ktr_room); (case hu => ktr_units); k_whole); intro v' tl' h' tk' hr' F' N' hn'; (obtain ⟨t', hv', ht'⟩ := hr'); (subst hv'); (subst ht'); (clear hn'); (try dsimp only [List.nil_append, List.cons_append] at N'); (try k_sweep))
  k_with "call ref" => ((with_reducible show wpAny _ _ (call (Value.ref 57) _ _) _ _ _); k_dflt (refine' use_fs (bisL_fs ?X ?T _ _ _ _ _ _ ?hss _ _ _ _ ?hlo ?hhi _ _ ?h1 ?h2 ?h3 ?h4) ?B ?F ?N ?hf ?hk ?hd ?hu ?hp ?_; (case B => assumption); (case X => assumption); (case T => assumption); (case F => k_asm); (case N => k_asm); (case hf => rfl); (case hk => rfl); (case hp => walk_at "M picks"); (case hss => walk_at "M strs"); (case hlo => walk_at "M nat"); (case hhi => walk_at "M nat"); (case h1 => omega); (case h2 => walk_at "M le"); (case h3 => walk_at "M le"); (case h4 => walk_at "M lens"); (case hd => ktr_room); (case hu => ktr_units); k_whole); intro v' tl' h' tk' hr' F' N' hn'; (obtain ⟨t', hv', ht'⟩ := hr'); (subst hv'); (subst ht'); (clear hn'); (try dsimp only [List.nil_append, List.cons_append] at N'); (try k_sweep))
  trivial

example : True := by
  k_with "call ref" => ((with_reducible show wpAny _ _ (call (Value.ref 30) _ _) _ _ _); k_dflt (refine' use_fs (insR_fs ?X ?T _ _ _ _ _ _ ?hss _ _ _ _ ?hlo ?hhi _ _ ?h1 ?h2 ?h3 ?h4 ?hx) ?B ?F ?N ?hf ?hk ?hd ?hu ?hp ?_; (case B => assumption); (case X => assumption); (case T => assumption); (case F => k_asm); (case N => k_asm); (case hf => rfl); (case hk => rfl); (case hp => walk_at "M picks"); (case hss => walk_at "M strs"); (case hlo => walk_at "M nat"); (case hhi => walk_at "M nat"); (case h1 => omega); (case h2 => walk_at "M le"); (case h3 => walk_at "M le"); (case h4 => walk_at "M lens"); (case hx => walk_at "M len"); (case hd => ktr_room); (case hu => ktr_units); k_whole); intro v' tl' h' tk' hr' F' N' hn'; (obtain ⟨hv', ht'⟩ := hr'); (subst hv'); (subst ht'); (clear hn'); (try dsimp only [List.nil_append, List.cons_append] at N'); (try k_sweep))
  k_with "call ref" => ((with_reducible show wpAny _ _ (call (Value.ref 48) _ _) _ _ _); k_dflt (refine' use_fs (insL_fs ?X ?T _ _ _ _ _ _ ?hss _ _ _ _ ?hlo ?hhi _ _ ?h1 ?h2 ?h3 ?h4 ?hx) ?B ?F ?N ?hf ?hk ?hd ?hu ?hp ?_; (case B => assumption); (case X => assumption); (case T => assumption); (case F => k_asm); (case N => k_asm); (case hf => rfl); (case hk => rfl); (case hp => walk_at "M picks"); (case hss => walk_at "M strs"); (case hlo => walk_at "M nat"); (case hhi => walk_at "M nat"); (case h1 => omega); (case h2 => walk_at "M le"); (case h3 => walk_at "M le"); (case h4 => walk_at "M lens"); (case hx => walk_at "M len"); (case hd => ktr_room); (case hu => ktr_units); k_whole); intro v' tl' h' tk' hr' F' N' hn'; (obtain ⟨hv', ht'⟩ := hr'); (subst hv'); (subst ht'); (clear hn'); (try dsimp only [List.nil_append, List.cons_append] at N'); (try k_sweep))
  trivial

example : True := by
  k_with "call ref" => ((with_reducible show wpAny _ _ (call (Value.ref 207) [Value.ref _, Value.ref 30] _) _ _ _); k_dflt (refine' use_fs (rowR_fs ?X ?T _ _ _ _ ?hss ?h3 ?h4) ?B ?F ?N ?hf ?hk ?hd ?hu ?hp ?_; (case B => assumption); (case X => assumption); (case T => assumption); (case F => k_asm); (case N => k_asm); (case hf => rfl); (case hk => rfl); (case hp => walk_at "M picks"); (case hss => walk_at "M strs"); (case h3 => walk_at "M le"); (case h4 => walk_at "M lens"); (case hd => ktr_room); (case hu => ktr_units); k_whole); intro v' tl' h' tk' hr' F' N' hn'; (obtain ⟨D', its', n', hv', hne', hS', ht'⟩ := hr'); (subst hv'); (subst ht'); (have hO' := off_one hn' hne'); (clear hn'); (try dsimp only [List.nil_append, List.cons_append] at N'); (try k_sweep))
  k_with "call ref" => ((with_reducible show wpAny _ _ (call (Value.ref 207) [Value.ref _, Value.ref 48] _) _ _ _); k_dflt (refine' use_fs (rowL_fs ?X ?T _ _ _ _ ?hss ?h3 ?h4) ?B ?F ?N ?hf ?hk ?hd ?hu ?hp ?_; (case B => assumption); (case X => assumption); (case T => assumption); (case F => k_asm); (case N => k_asm); (case hf => rfl); (case hk => rfl); (case hp => walk_at "M picks"); (case hss => walk_at "M strs"); (case h3 => walk_at "M le"); (case h4 => walk_at "M lens"); (case hd => ktr_room); (case hu => ktr_units); k_whole); intro v' tl' h' tk' hr' F' N' hn'; (obtain ⟨D', its', n', hv', hne', hS', ht'⟩ := hr'); (subst hv'); (subst ht'); (have hO' := off_one hn' hne'); (clear hn'); (try dsimp only [List.nil_append, List.cons_append] at N'); (try k_sweep))
  trivial

example : True := by
  k_with "call ref" => ((with_reducible show wpAny _ _ (call (Value.ref 219) _ _) _ _ _); k_dflt (refine' use_fs (turned_fs ?X ?T _ _ _ _ ?hss ?h3) ?B ?F ?N ?hf ?hk ?hd ?hu ?hp ?_; (case B => assumption); (case X => assumption); (case T => assumption); (case F => k_asm); (case N => k_asm); (case hf => rfl); (case hk => rfl); (case hp => walk_at "M picks"); (case hss => walk_at "M strs"); (case h3 => walk_at "M le"); (case hd => ktr_room); (case hu => ktr_units); k_whole); intro v' tl' h' tk' hr' F' N' hn'; (obtain ⟨D', its', n', hv', hne', hS', ht'⟩ := hr'); (subst hv'); (subst ht'); (have hO' := off_one hn' hne'); (clear hn'); (try dsimp only [List.nil_append, List.cons_append] at N'); (try k_sweep))
  trivial

example : True := by
  k_with "call ref" => ((with_reducible show wpAny _ _ (call (Value.ref 134) _ []) _ _ _); k_dflt (refine' use_fs (count_fs ?X ?T _ _ _ _ _ _ _ ?v ?n) ?B ?F ?N ?hf ?hk ?hd ?hu ?hp ?_; (case B => assumption); (case X => assumption); (case T => assumption); (case F => k_asm); (case N => k_asm); (case hf => rfl); (case hk => rfl); (case hp => walk_at "M picks"); (case v => ((try simp only [List.length_append, List.length_cons, List.length_nil]); omega)); (case n => walk_at "M ne"); (case hd => ktr_room); (case hu => ktr_units); k_whole); intro v' tl' h' tk' hr' F' N' hn'; (obtain ⟨⟨tz', hz'⟩, hy'⟩ := hr'); (subst hz'); (subst hy'); (clear hn'); (try dsimp only [List.nil_append, List.cons_append] at N'); (try k_sweep))
  trivial

example : True := by
  k_with "getMethod ref" => (k_here; k_dflt (refine' method_in ?F ?X ?I ?g ?k ?f ?t ?l ?_; (case F => k_asm); (case X => k_asm); (case I => exact inst_acc (by k_asm) (by k_mem) (by k_mem)); (case g => k_is); (case k => k_is); (case f => k_is); (case t => k_is); (case l => with_unfolding_all k_get); k_whole))
  k_with "call ref" => (k_here; (with_reducible show wpAny _ _ (call (Value.ref 81) _ _) _ _ _); refine Stop.out ?_)
  k_with "call ref" => (k_here; (with_reducible show wpAny _ _ (call (Value.ref 97) _ _) _ _ _); refine Stop.out ?_)
  trivial

noncomputable section
example : True := by
  k_with "call ref" => (k_here; (with_reducible show wpAny _ _ (call (Value.ref 207) _ _) _ _ _); refine Stop.out ?_)
  k_with "call ref" => (k_here; (with_reducible show wpAny _ _ (call (Value.ref 214) _ _) _ _ _); refine Stop.out ?_)
  k_with "call ref" => (k_here; (with_reducible show wpAny _ _ (call (Value.ref 219) _ _) _ _ _); refine Stop.out ?_)
  k_with "compareOp NotEq ref ref" => (k_here; (with_reducible show wpAny _ _ (compareOp CmpOp.NotEq (Value.ref _) (Value.ref _)) _ _ _); refine Stop.out ?_)
  trivial
variable {dp un : Nat} {gd : Option (List Code)} {fr : List Env} {g : Heap}
theorem law_b9 (Z : At w dp un gd fr g loose mean mg mb) (L f : Addr) (a : LexA) (tx : Str) (ok : LexOk w g tx a) (hlen : tx.length ≤ 900) (C BL BP : Addr) (cv lv : List Value) (nc nl : Nat) (bs R : List Str) (hbs : StrsAre cv bs) (h12 : bs.length = 12) (hb3 : ∀ s ∈ bs, s.length ≤ 3) (hSR : StrsAre lv R) (hR12 : R.length = 12) (hR3 : ∀ s ∈ R, s.length ≤ 3)
    (hW : walksTo layR takeQ [3, 2, 1] R.reverse [] 3 = (bs.reverse, [])) (hbok : StrsOk bs)
    (fl ft : Addr) (ln : Int) (tt : LexT) (nd np : Nat) (tp : Tok) (na : Nat) (ex : Led) (hexa : ∀ q ∈ ex, OffA q.1 a) (hCa : OffA C a) (hCe : Off C ex) (hBa : OffA BL a) (hBe : Off BL ex) (hBC : BL ≠ C)
    (s : Shared) (rest : Str → Option Value) (Q : Flow → Shared → Prop)
    (F : Fr g L s.heap (fm rest [("lexer", .ref a.I), ("boxes", .ref C), ("lay", .ref fl), ("take", .ref ft), ("by_lines", .ref BL), ("by_piles", .ref BP)]))
    (N : News g L s.heap ((BL, listOf lv.toArray nl) :: (C, listOf cv.toArray nc) :: (lexTl w a ln tt nd [] np tx.length tp na ++ ex)))
    (hq : ∀ h' tk' rest', Fr g L h' (fm rest' [("boxes", .ref C), ("lay", .ref fl), ("take", .ref ft), ("by_piles", .ref BP)]) →
      News g L h' ((C, listOf cv.toArray nc) :: ex) → Q .next { s with heap := h', toks := tk' }) :
    wpAny (model P1 w) ((AR dp un gd fr).deeper (lawEnv L f)) (execs [lp.s16, lp.s17] (lawEnv L f)) Q (fun _ _ => False) s := by
  obtain ⟨B, Xg, Tg, C1, C2, hd, hu⟩ := Z
  have hcl := hbs.len_eq
  have hll := hSR.len_eq
  unfold lawEnv lp
  dsimp only
  k_steps
  unfold Stop
  refine' use_fsT (rest := (C, listOf cv.toArray nc) :: (lexTl w a ln tt nd [] np tx.length tp na ++ ex)) (turned_fs Xg Tg BL lv nl R hSR (by omega)) B F N rfl rfl ?hd ?hu ?htl ?hrest ?_
  case hd => ktr_room
  case hu => ktr_units
  case htl => exact fun q hq => by rw [List.mem_singleton.mp hq]; exact .head _
  case hrest =>
    refine fun q hq => ⟨.tail _ hq, fun x hx => ?_⟩
    rw [List.mem_singleton.mp hx]
    rcases List.mem_cons.mp hq with rfl | hq
    · exact hBC
    · rcases List.mem_append.mp hq with hq | hq
      · exact (hBa _ (lex_adr q hq)).symm
      · exact (hBe q hq).symm
  rintro v tl' h' tk' ⟨TB, tv, nt, rfl, hne, hST, rfl⟩ F N hn
  have hTn := (hn _ (.head _)).resolve_left (fun k => hne (List.mem_singleton.mp k))
  clear hn
  have oT : OffA TB a := fun b hb => by
    have hb' : b ∈ (lexTl w a ln tt nd [] np tx.length tp na).map (·.1) := hb
    obtain ⟨q, hq, rfl⟩ := List.mem_map.mp hb'
    exact hTn q (.tail _ (.tail _ (List.mem_append_left _ hq)))
  have oTe : Off TB ex := fun p hp => hTn p (.tail _ (.tail _ (List.mem_append_right _ hp)))
  have hTC : TB ≠ C := (hTn _ (.tail _ (.head _))).symm
  have hlt := hST.len_eq
  rw [List.length_reverse] at hlt
  have N1 := N
  dsimp only [lexTl, List.cons_append, List.nil_append] at N1
  k_steps
  unfold Stop
  rename Fr _ _ _ _ => F
  rename News _ _ _ _ => N
  rename_i h1 mp h2 l1b mq h3 l1c
  have oM : OffA mp a := fun b hb => by
    simp only [lexAdr, List.mem_cons, List.not_mem_nil, or_false] at hb
    rcases hb with h | h | h | h | h | h | h | h | h | h | h <;> (rw [h]; exact Nat.ne_of_lt (by omega))
  have oG : OffA mq a := fun b hb => by
    simp only [lexAdr, List.mem_cons, List.not_mem_nil, or_false] at hb
    rcases hb with h | h | h | h | h | h | h | h | h | h | h <;> (rw [h]; exact Nat.ne_of_lt (by omega))
  have oD : OffA D' a := fun b hb => by
    simp only [lexAdr, List.mem_cons, List.not_mem_nil, or_false] at hb
    rcases hb with h | h | h | h | h | h | h | h | h | h | h <;> (rw [h]; exact Nat.ne_of_lt (by omega))
  have nMG : mp ≠ mq := Nat.ne_of_lt (by omega)
  have nCM : C ≠ mp := Nat.ne_of_lt (by omega)
  have nCG : C ≠ mq := Nat.ne_of_lt (by omega)
  have nCD : C ≠ D' := Nat.ne_of_lt (by omega)
  have nDM : D' ≠ mp := Nat.ne_of_lt (by omega)
  have nDG : D' ≠ mq := Nat.ne_of_lt (by omega)
  have nTM : TB ≠ mp := Nat.ne_of_lt (by omega)
  have nTG : TB ≠ mq := Nat.ne_of_lt (by omega)
  have nTD : TB ≠ D' := Nat.ne_of_lt (by omega)
  have Y : LexEnd w g tx a mp mq := ⟨ok, by omega, oM, oG, nMG⟩
  have exM : Off mp ex := fun p hp => Nat.ne_of_lt (allLt_mem (by exact l1b.2.2.2.2.2.2.2.2.2.2.2.2.2.2.2) p hp)
  have exG : Off mq ex := fun p hp => Nat.ne_of_lt (allLt_mem (by exact l1c.2.2.2.2.2.2.2.2.2.2.2.2.2.2.2.2) p hp)
  have exD : Off D' ex := fun p hp => Nat.ne_of_lt (allLt_mem (by exact l3.2.2.2.2.2.2.2.2.2.2.2.2.2.2) p hp)
  have six : ∀ b, TB ≠ b → D' ≠ b → mp ≠ b → mq ≠ b → OffA b a → ∀ z ∈ (TB, listOf tv.toArray nt) :: (D', listOf [Value.int 3 tk', Value.int 2 (tk' + 1), Value.int 1 (tk' + 1 + 1)].toArray 0) :: lexR w a mp mq ln tt nd [] np tx.length tp na, z.1 ≠ b := fun b h1 h2 h3 h4 h5 z hz => by
    rcases List.mem_cons.mp hz with rfl | hz
    · exact h1
    · rcases List.mem_cons.mp hz with rfl | hz
      · exact h2
      · rcases List.mem_cons.mp hz with rfl | hz
        · exact h3
        · rcases List.mem_cons.mp hz with rfl | hz
          · exact h4
          · exact h5 _ (lex_adr z hz)
  have sixC := six C hTC nCD.symm nCM.symm nCG.symm hCa
  have sixE : ∀ q ∈ ex, ∀ z ∈ (TB, listOf tv.toArray nt) :: (D', listOf [Value.int 3 tk', Value.int 2 (tk' + 1), Value.int 1 (tk' + 1 + 1)].toArray 0) :: lexR w a mp mq ln tt nd [] np tx.length tp na, z.1 ≠ q.1 := fun q hq => six _ (oTe q hq).symm (exD q hq).symm (exM q hq).symm (exG q hq).symm (hexa q hq)
  have mC : (C, listOf cv.toArray nc) ∈ (mq, methodObj (.ref 169) (.ref a.I)) :: (mp, methodObj (.ref 176) (.ref a.I)) :: (D', listOf #[Value.int 3 tk', Value.int 2 (tk' + 1), Value.int 1 (tk' + 1 + 1)] 0) :: (TB, listOf tv.toArray nt) :: (BL, listOf lv.toArray nl) :: (C, listOf cv.toArray nc) :: (lexTl w a ln tt nd [] np tx.length tp na ++ ex) := .tail _ (.tail _ (.tail _ (.tail _ (.tail _ (.head _)))))
  have mE : ∀ q ∈ ex, q ∈ (mq, methodObj (.ref 169) (.ref a.I)) :: (mp, methodObj (.ref 176) (.ref a.I)) :: (D', listOf #[Value.int 3 tk', Value.int 2 (tk' + 1), Value.int 1 (tk' + 1 + 1)] 0) :: (TB, listOf tv.toArray nt) :: (BL, listOf lv.toArray nl) :: (C, listOf cv.toArray nc) :: (lexTl w a ln tt nd [] np tx.length tp na ++ ex) := fun q hq => .tail _ (.tail _ (.tail _ (.tail _ (.tail _ (.tail _ (List.mem_append_right _ hq))))))
  replace N : News g L _ ((mq, methodObj (.ref 169) (.ref a.I)) :: (mp, methodObj (.ref 176) (.ref a.I)) :: (D', listOf #[Value.int 3 tk', Value.int 2 (tk' + 1), Value.int 1 (tk' + 1 + 1)] 0) :: (TB, listOf tv.toArray nt) :: (BL, listOf lv.toArray nl) :: (C, listOf cv.toArray nc) :: (lexTl w a ln tt nd [] np tx.length tp na ++ ex)) := N
  refine' use_fsT (rest := (C, listOf cv.toArray nc) :: ex) (walks_fs Xg Tg (RepL w tx a mp mq) layR takeQ mp mq (fun n q tl h hr hh X => keep_rep n q tl h hr hh X) (fun n q tl x t hr hx => push_rep Xg Tg Y n q tl x t hr hx) (fun n q tl hr => tok_rep Xg Tg Y n q tl hr) (fun n q tl hr => less_rep n q tl hr)
    TB tv nt R.reverse hST (by omega) (fun s hs => Nat.le_trans (hR3 s (List.mem_reverse.mp hs)) (by decide)) D' [.int 3 tk', .int 2 (tk' + 1), .int 1 (tk' + 1 + 1)] 0 [3, 2, 1] (.cons 3 _ (.cons 2 _ (.cons 1 _ .nil))) 0 [] (lexR w a mp mq ln tt nd [] np tx.length tp na) ⟨[], ln, tt, nd, np, tp, na, .nil, ?hn, (fun _ h => nomatch h), fun p => Iff.rfl⟩ ?o1 ?o2 nTD) B F N rfl rfl ?hd2 ?hu2 ?htl2 ?hrest2 ?_
  case hn => show 0 + (0 + 3 * tv.length) ≤ 800; omega
  case o1 =>
    intro p hp
    rcases List.mem_cons.mp hp with rfl | hp
    · exact nTM.symm
    · rcases List.mem_cons.mp hp with rfl | hp
      · exact nTG.symm
      · exact oT _ (lex_adr p hp)
  case o2 =>
    intro p hp
    rcases List.mem_cons.mp hp with rfl | hp
    · exact nDM.symm
    · rcases List.mem_cons.mp hp with rfl | hp
      · exact nDG.symm
      · exact oD _ (lex_adr p hp)
  case hd2 => ktr_room
  case hu2 => ktr_units
  case htl2 =>
    intro q hq
    rcases List.mem_cons.mp hq with rfl | hq
    · exact .tail _ (.tail _ (.tail _ (.head _)))
    · rcases List.mem_cons.mp hq with rfl | hq
      · exact .tail _ (.tail _ (.head _))
      · rcases List.mem_cons.mp hq with rfl | hq
        · exact .tail _ (.head _)
        · rcases List.mem_cons.mp hq with rfl | hq
          · exact .head _
          · exact .tail _ (.tail _ (.tail _ (.tail _ (.tail _ (.tail _ (List.mem_append_left _ hq))))))
  case hrest2 =>
    intro q hq
    rcases List.mem_cons.mp hq with rfl | hq
    · exact ⟨mC, sixC⟩
    · exact ⟨mE q hq, sixE q hq⟩
  rintro v tl' h' tk2 ⟨D, wv, nv, tlq, keep, rfl, hSD, hRep, rfl, hDk, -, hkoff, -⟩ F N hn
  dsimp only [List.length_cons, List.length_nil] at hSD hRep
  rw [show (0 + 1 + 1 + 1) = 3 from rfl, hW] at hSD hRep
  have hDn := hn _ (List.mem_append_left _ hDk)
  have nDC : D ≠ C := by
    rcases hDn with k | k
    · obtain ⟨z, hz, e⟩ := List.mem_map.mp k
      exact fun e' => sixC z hz (e.trans e')
    · exact (k _ mC).symm
  have nDE : Off D ex := fun q hq => by
    rcases hDn with k | k
    · obtain ⟨z, hz, e⟩ := List.mem_map.mp k
      exact fun e' => sixE q hq z hz (e.trans e'.symm)
    · exact k _ (mE q hq)
  have hwl := hSD.len_eq
  rw [List.length_reverse, h12] at hwl
  clear hn hDn
  k_steps
  unfold Stop
  rename Fr _ _ _ _ => F
  rename News _ _ _ _ => N
  refine' use_fsT (rest := (C, listOf cv.toArray nc) :: ex) (turned_fs Xg Tg D wv nv bs.reverse hSD (by omega)) B F N rfl rfl ?hd5 ?hu5 ?htl5 ?hrest5 ?_
  case hd5 => ktr_room
  case hu5 => ktr_units
  case htl5 => exact fun q hq => by rw [List.mem_singleton.mp hq]; exact List.mem_append_left _ (List.mem_append_left _ hDk)
  case hrest5 =>
    intro q hq
    refine ⟨List.mem_append_right _ hq, fun x hx => ?_⟩
    rw [List.mem_singleton.mp hx]
    rcases List.mem_cons.mp hq with rfl | hq
    · exact nDC
    · exact (nDE q hq).symm
  rintro v tl' h' tk3 ⟨D2, dv, nd2, rfl, -, hS2, rfl⟩ F N hn
  rw [List.reverse_reverse] at hS2
  clear hn
  k_steps
  unfold Stop
  refine' ne_same (N.isList (.head _)) (N.isList (List.mem_append_right _ (.head _))) hS2 hbs hbok ?hu6 ?_
  case hu6 => first | units_room | exact Nat.le_of_ble_eq_true rfl
  k_steps
  exact hq _ _ _ (fr_norm [("boxes", .ref C), ("lay", .ref fl), ("take", .ref ft), ("by_piles", .ref BP)] F (by walk_at "M names")) (fun p hp => N p (List.mem_append_right _ hp))
end
example : True := by
  k_with_none
  trivial
example : True := by
  k_with "M enter" => (
  (case ho => k_is)
  (case hcd => k_is)
  (case hb => first | exact fun s Xs => BindsTo.of_eq rfl | exact fun s Xs => binds_K Xs rfl (by k_is) rfl rfl rfl)
  (case hl => exact locs rfl)
  (case h1 => decide)
  (case h2 => decide)
  (case h3 => exact rfl)
  (case h4 => exact rfl)
  (case h5 => exact rfl))
  k_with "M names" => (repeat' (first | exact List.forall_mem_nil _ | (refine List.forall_mem_cons.mpr ⟨?nm, ?_⟩; (case nm => rfl))))
  trivial
example : True := by
  k_with "M ne" => first | assumption | exact Ne.symm (by assumption) | k_ne
  trivial
example : True := by
  k_with "M len" => first | assumption | exact getD_len (by assumption) _ | omega
  k_with "M lens" => first | assumption | exact len_del (by assumption) | exact len_del (len_del (by assumption))
  k_with "M strs" => first | assumption | exact strs_del (by assumption) _ | exact strs_del (strs_del (by assumption) _) _
  k_with "M nat" => first | with_reducible exact fdiv2 _ _ | rfl | exact (Int.natCast_add _ _).symm | omega
  k_with "M le" => first | omega | ((try simp (disch := omega) only [delL_length, insL_length]); omega)
  k_with "subscriptTail Name Name ref int" => (k_here; k_dflt (refine' item_strsN ?N ?m ?h _ ?k ?l ?f ?_ ?hs ?hg; (case N => k_asm); (case m => k_mem); (case h => assumption); (case k => walk_at "M nat"); (case l => omega); (case f => omega); (case hs => with_unfolding_all rfl); (case hg => (intro _; with_unfolding_all rfl)); k_whole); intro tk')
  k_with "subscriptTail Name BinOp ref int" => (k_here; k_dflt (refine' item_strsN ?N ?m ?h _ ?k ?l ?f ?_ ?hs ?hg; (case N => k_asm); (case m => k_mem); (case h => assumption); (case k => walk_at "M nat"); (case l => omega); (case f => omega); (case hs => with_unfolding_all rfl); (case hg => (intro _; with_unfolding_all rfl)); k_whole); intro tk')
  k_with "exec While Compare cons nil" => refine Stop.out ?_
  k_with "call builtin:list.insert" => (k_here; (with_reducible show wpAny _ _ (call (Value.builtin _) [Value.ref _, Value.int _ _, _]) _ _ _); k_dflt (refine' ins_N ?F ?N _ ?k ?i ?l ?U ?_; (case F => k_asm); (case N => k_asm); (case U => k_upd); (case k => walk_at "M nat"); (case i => walk_at "M le"); (case l => walk_at "M le"); k_whole); intro h' F' N'; (try dsimp only [List.nil_append, List.cons_append] at N'); (try k_sweep))
  k_with "call builtin:list.pop" => (k_here; (with_reducible show wpAny _ _ (call (Value.builtin _) [Value.ref _, Value.int _ _]) _ _ _); k_dflt (refine' popS_N ?F ?N ?h _ ?k ?i ?l ?U ?_; (case F => k_asm); (case N => k_asm); (case U => k_upd); (case h => walk_at "M strs"); (case k => walk_at "M nat"); (case i => walk_at "M le"); (case l => walk_at "M le"); k_whole); intro h' tk' F' N'; (try dsimp only [List.nil_append, List.cons_append] at N'); (try k_sweep))
  k_with "pyIter ref" => ((with_reducible show wpAny _ _ (pyIter (Value.ref _)) (CompPostA _ _ _ _ _ _ _ _ _ _) _ _); refine Stop.out ?_)
  k_with "pyIter ref" => ((with_reducible show wpAny _ _ (pyIter (Value.ref _)) (fun it s₂ => LoopAtV _ _ _ _ _ _ _ _ _ it s₂) _ _); refine Stop.out ?_)
  k_with "call builtin:len" => (k_here; (with_reducible show wpAny _ _ (call (Value.builtin "len") [Value.ref _]) _ _ _); k_dflt (refine' len_N ?N ?m ?l ?_; (case N => k_asm); (case m => k_mem); (case l => walk_at "M le"); k_whole); intro t' tk')
  k_with "binaryOp Sub int int" => (k_here; (with_reducible refine' sub_natN ?h ?_; (case h => omega)); intro t' tk')
  k_with "binaryOp Sub int int" => (k_here; (with_reducible refine' sub_nat1 ?h ?_; (case h => omega)); intro t' tk')
  k_with "LPost" => refine Stop.out ?_
  k_with "WPost" => refine Stop.out ?_
  k_with "Done" => refine Stop.out ?_
  k_with "call builtin:len" => (k_here; (with_reducible show wpAny _ _ (call (Value.builtin "len") [Value.str _ _]) _ _ _); k_dflt (refine' lenS_N ?l ?_; (case l => walk_at "M len"); k_whole); intro t' tk')
  k_with "eval ListComp" => refine Stop.out ?_
  k_with "exec Assign cons ListComp" => refine Stop.out ?_
  k_with "CPost" => refine Stop.out ?_
  k_with "CPostA" => refine Stop.out ?_
  k_with "EPost" => refine Stop.out ?_
  trivial
example : True := by
  k_with "call builtin:list.append" => (k_here; (with_reducible show wpAny _ _ (call (Value.builtin _) [Value.ref _, _]) _ _ _); k_dflt (refine' app_N ?F ?N ?l ?U ?_; (case F => k_asm); (case N => k_asm); (case U => k_upd); (case l => walk_at "M le"); k_whole); intro h' F' N'; (try k_sweep))
  k_with "newList" => (k_here; k_dflt (refine' newList_N ?F ?N ?l ?_; (case F => k_asm); (case N => k_asm); (case l => exact Nat.le_of_ble_eq_true rfl); k_whole); intro D' h' F' N' l1 l2; (try (have l3 := l1; k_lt l3)); (try k_sweep))
  k_with "M enterC" => (
  (case ho => k_is)
  (case hcd => k_is)
  (case hb => first | exact fun s Xs => BindsTo.of_eq rfl | exact fun s Xs => binds_K Xs rfl (by k_is) rfl rfl rfl)
  (case hl => exact rfl)
  (case h2 => decide +kernel)
  (case h1 => decide)
  (case h3 => exact rfl)
  (case h4 => exact rfl)
  (case h5 => exact rfl))
  k_with "M comp" => (
  (case hclos => exact rfl)
  (case hcell => decide)
  (case hkind => exact rfl)
  (case hnames => decide)
  (case hx => exact rfl)
  (case hs => (intro _; exact rfl)))
  k_with "M compA" => (
  (case hsw => exact rfl)
  (case hclos => exact rfl)
  (case hcell => decide)
  (case hkind => exact rfl)
  (case hnames => decide)
  (case hx => exact rfl)
  (case hy => exact rfl)
  (case hp => exact rfl)
  (case hs => (intro _; exact rfl)))
  k_with "eval Name" => (k_here; (with_reducible show wpAny _ _ (eval (PySem.Expr.Name _ _) (compEnvC _ _ _ _)) _ _ _); k_dflt (first
  | (refine' cname ?n ?v ?k ?l ?d ?_; (case n => assumption); (case v => assumption); (case k => exact rfl); (case l => exact rfl); (case d => decide))
  | (refine' ccell ?N ?c ?m ?d ?k ?l ?b ?_; (case N => k_asm); (case c => exact rfl); (case m => k_mem); (case d => assumption); (case k => exact rfl); (case l => exact rfl); (case b => decide))
  | (refine' cbuilt ?F ?X ?T ?e ?v ?n ?g ?b ?k ?l ?d ?_; (case F => k_asm); (case X => k_asm); (case T => k_asm); (case e => k_is); (case v => boot_by_name); (case n => decide); (case g => exact rfl); (case b => exact rfl); (case k => exact rfl); (case l => exact rfl); (case d => decide))
  | (refine' cglob ?F ?X ?T ?e ?g ?k ?l ?d ?_; (case F => k_asm); (case X => k_asm); (case T => k_asm); (case e => k_is); (case g => exact rfl); (case k => exact rfl); (case l => exact rfl); (case d => decide))
  | fail))
  trivial
example : True := by
  k_with "call ref" => ((with_reducible show wpAny _ _ (call (Value.ref 202) [Value.str _ _] []) _ _ _); k_dflt (refine' use_fs (size_fs ?X ?T _ _ ?hx) ?B ?F ?N ?hf ?hk ?hd ?hu ?hp ?_; (case B => assumption); (case X => assumption); (case T => assumption); (case F => k_asm); (case N => k_asm); (case hf => rfl); (case hk => rfl); (case hp => walk_at "M picks"); (case hx => walk_at "M len"); (case hd => ktr_room); (case hu => ktr_units); k_whole); intro v' tl' h' tk' hr' F' N' hn'; (obtain ⟨t', hv', ht'⟩ := hr'); (subst hv'); (subst ht'); (clear hn'); (try dsimp only [List.nil_append, List.cons_append] at N'); (try k_sweep))
  trivial

example : True := by
  k_with "call ref" => ((with_reducible show wpAny _ _ (call (Value.ref 39) _ _) _ _ _); k_dflt (refine' use_fs (bisR_fs ?X ?T _ _ _ _ _ _ ?hss _ _ _ _ ?hlo ?hhi _ _ ?h1 ?h2 ?h3 ?h4) ?B ?F ?N ?hf ?hk ?hd ?hu ?hp ?_; (case B => assumption); (case X => assumption); (case T => assumption); (case F => k_asm); (case N => k_asm); (case hf => rfl); (case hk => rfl); (case hp => walk_at "M picks"); (case hss => walk_at "M strs"); (case hlo => walk_at "M nat"); (case hhi => walk_at "M nat"); (case h1 => omega); (case h2 => walk_at "M le"); (case h3 => walk_at "M le"); (case h4 => walk_at "M lens"); (case hd => ktr_room); (case hu => ktr_units); k_whole); intro v' tl' h' tk' hr' F' N' hn'; (obtain ⟨t', hv', ht'⟩ := hr'); (subst hv'); (subst ht'); (clear hn'); (try dsimp only [List.nil_append, List.cons_append] at N'); (try k_sweep))
  k_with "call ref" => ((with_reducible show wpAny _ _ (call (Value.ref 57) _ _) _ _ _); k_dflt (refine' use_fs (bisL_fs ?X ?T _ _ _ _ _ _ ?hss _ _ _ _ ?hlo ?hhi _ _ ?h1 ?h2 ?h3 ?h4) ?B ?F ?N ?hf ?hk ?hd ?hu ?hp ?_; (case B => assumption); (case X => assumption); (case T => assumption); (case F => k_asm); (case N => k_asm); (case hf => rfl); (case hk => rfl); (case hp => walk_at "M picks"); (case hss => walk_at "M strs"); (case hlo => walk_at "M nat"); (case hhi => walk_at "M nat"); (case h1 => omega); (case h2 => walk_at "M le"); (case h3 => walk_at "M le"); (case h4 => walk_at "M lens"); (case hd => ktr_room); (case hu => ktr_units); k_whole); intro v' tl' h' tk' hr' F' N' hn'; (obtain ⟨t', hv', ht'⟩ := hr'); (subst hv'); (subst ht'); (clear hn'); (try dsimp only [List.nil_append, List.cons_append] at N'); (try k_sweep))
  trivial

example : True := by
  k_with "call ref" => ((with_reducible show wpAny _ _ (call (Value.ref 30) _ _) _ _ _); k_dflt (refine' use_fs (insR_fs ?X ?T _ _ _ _ _ _ ?hss _ _ _ _ ?hlo ?hhi _ _ ?h1 ?h2 ?h3 ?h4 ?hx) ?B ?F ?N ?hf ?hk ?hd ?hu ?hp ?_; (case B => assumption); (case X => assumption); (case T => assumption); (case F => k_asm); (case N => k_asm); (case hf => rfl); (case hk => rfl); (case hp => walk_at "M picks"); (case hss => walk_at "M strs"); (case hlo => walk_at "M nat"); (case hhi => walk_at "M nat"); (case h1 => omega); (case h2 => walk_at "M le"); (case h3 => walk_at "M le"); (case h4 => walk_at "M lens"); (case hx => walk_at "M len"); (case hd => ktr_room); (case hu => ktr_units); k_whole); intro v' tl' h' tk' hr' F' N' hn'; (obtain ⟨hv', ht'⟩ := hr'); (subst hv'); (subst ht'); (clear hn'); (try dsimp only [List.nil_append, List.cons_append] at N'); (try k_sweep))
  k_with "call ref" => ((with_reducible show wpAny _ _ (call (Value.ref 48) _ _) _ _ _); k_dflt (refine' use_fs (insL_fs ?X ?T _ _ _ _ _ _ ?hss _ _ _ _ ?hlo ?hhi _ _ ?h1 ?h2 ?h3 ?h4 ?hx) ?B ?F ?N ?hf ?hk ?hd ?hu ?hp ?_; (case B => assumption); (case X => assumption); (case T => assumption); (case F => k_asm); (case N => k_asm); (case hf => rfl); (case hk => rfl); (case hp => walk_at "M picks"); (case hss => walk_at "M strs"); (case hlo => walk_at "M nat"); (case hhi => walk_at "M nat"); (case h1 => omega); (case h2 => walk_at "M le"); (case h3 => walk_at "M le"); (case h4 => walk_at "M lens"); (case hx => walk_at "M len"); (case hd => ktr_room); (case hu => ktr_units); k_whole); intro v' tl' h' tk' hr' F' N' hn'; (obtain ⟨hv', ht'⟩ := hr'); (subst hv'); (subst ht'); (clear hn'); (try dsimp only [List.nil_append, List.cons_append] at N'); (try k_sweep))
  trivial

example : True := by
  k_with "call ref" => ((with_reducible show wpAny _ _ (call (Value.ref 207) [Value.ref _, Value.ref 30] _) _ _ _); k_dflt (refine' use_fs (rowR_fs ?X ?T _ _ _ _ ?hss ?h3 ?h4) ?B ?F ?N ?hf ?hk ?hd ?hu ?hp ?_; (case B => assumption); (case X => assumption); (case T => assumption); (case F => k_asm); (case N => k_asm); (case hf => rfl); (case hk => rfl); (case hp => walk_at "M picks"); (case hss => walk_at "M strs"); (case h3 => walk_at "M le"); (case h4 => walk_at "M lens"); (case hd => ktr_room); (case hu => ktr_units); k_whole); intro v' tl' h' tk' hr' F' N' hn'; (obtain ⟨D', its', n', hv', hne', hS', ht'⟩ := hr'); (subst hv'); (subst ht'); (have hO' := off_one hn' hne'); (clear hn'); (try dsimp only [List.nil_append, List.cons_append] at N'); (try k_sweep))
  k_with "call ref" => ((with_reducible show wpAny _ _ (call (Value.ref 207) [Value.ref _, Value.ref 48] _) _ _ _); k_dflt (refine' use_fs (rowL_fs ?X ?T _ _ _ _ ?hss ?h3 ?h4) ?B ?F ?N ?hf ?hk ?hd ?hu ?hp ?_; (case B => assumption); (case X => assumption); (case T => assumption); (case F => k_asm); (case N => k_asm); (case hf => rfl); (case hk => rfl); (case hp => walk_at "M picks"); (case hss => walk_at "M strs"); (case h3 => walk_at "M le"); (case h4 => walk_at "M lens"); (case hd => ktr_room); (case hu => ktr_units); k_whole); intro v' tl' h' tk' hr' F' N' hn'; (obtain ⟨D', its', n', hv', hne', hS', ht'⟩ := hr'); (subst hv'); (subst ht'); (have hO' := off_one hn' hne'); (clear hn'); (try dsimp only [List.nil_append, List.cons_append] at N'); (try k_sweep))
  trivial

example : True := by
  k_with "call ref" => ((with_reducible show wpAny _ _ (call (Value.ref 219) _ _) _ _ _); k_dflt (refine' use_fs (turned_fs ?X ?T _ _ _ _ ?hss ?h3) ?B ?F ?N ?hf ?hk ?hd ?hu ?hp ?_; (case B => assumption); (case X => assumption); (case T => assumption); (case F => k_asm); (case N => k_asm); (case hf => rfl); (case hk => rfl); (case hp => walk_at "M picks"); (case hss => walk_at "M strs"); (case h3 => walk_at "M le"); (case hd => ktr_room); (case hu => ktr_units); k_whole); intro v' tl' h' tk' hr' F' N' hn'; (obtain ⟨D', its', n', hv', hne', hS', ht'⟩ := hr'); (subst hv'); (subst ht'); (have hO' := off_one hn' hne'); (clear hn'); (try dsimp only [List.nil_append, List.cons_append] at N'); (try k_sweep))
  trivial

example : True := by
  k_with "call ref" => ((with_reducible show wpAny _ _ (call (Value.ref 134) _ []) _ _ _); k_dflt (refine' use_fs (count_fs ?X ?T _ _ _ _ _ _ _ ?v ?n) ?B ?F ?N ?hf ?hk ?hd ?hu ?hp ?_; (case B => assumption); (case X => assumption); (case T => assumption); (case F => k_asm); (case N => k_asm); (case hf => rfl); (case hk => rfl); (case hp => walk_at "M picks"); (case v => ((try simp only [List.length_append, List.length_cons, List.length_nil]); omega)); (case n => walk_at "M ne"); (case hd => ktr_room); (case hu => ktr_units); k_whole); intro v' tl' h' tk' hr' F' N' hn'; (obtain ⟨⟨tz', hz'⟩, hy'⟩ := hr'); (subst hz'); (subst hy'); (clear hn'); (try dsimp only [List.nil_append, List.cons_append] at N'); (try k_sweep))
  trivial

example : True := by
  k_with "getMethod ref" => (k_here; k_dflt (refine' method_in ?F ?X ?I ?g ?k ?f ?t ?l ?_; (case F => k_asm); (case X => k_asm); (case I => exact inst_acc (by k_asm) (by k_mem) (by k_mem)); (case g => k_is); (case k => k_is); (case f => k_is); (case t => k_is); (case l => with_unfolding_all k_get); k_whole))
  k_with "call ref" => (k_here; (with_reducible show wpAny _ _ (call (Value.ref 81) _ _) _ _ _); refine Stop.out ?_)
  k_with "call ref" => (k_here; (with_reducible show wpAny _ _ (call (Value.ref 97) _ _) _ _ _); refine Stop.out ?_)
  trivial

noncomputable section
example : True := by
  k_with "call ref" => (k_here; (with_reducible show wpAny _ _ (call (Value.ref 207) _ _) _ _ _); refine Stop.out ?_)
  k_with "call ref" => (k_here; (with_reducible show wpAny _ _ (call (Value.ref 214) _ _) _ _ _); refine Stop.out ?_)
  k_with "call ref" => (k_here; (with_reducible show wpAny _ _ (call (Value.ref 219) _ _) _ _ _); refine Stop.out ?_)
  k_with "compareOp Eq ref ref" => (k_here; (with_reducible show wpAny _ _ (compareOp CmpOp.Eq (Value.ref _) (Value.ref _)) _ _ _); refine Stop.out ?_)
  trivial
variable {dp un : Nat} {gd : Option (List Code)} {fr : List Env} {g : Heap}
theorem law_b10 (Z : At w dp un gd fr g loose mean mg mb) (L f : Addr) (p : PileA) (Y : PileOk p L) (C BP : Addr) (cv lv : List Value) (nc nl : Nat) (bs R : List Str) (hbs : StrsAre cv bs) (h12 : bs.length = 12) (hSR : StrsAre lv R) (hR12 : R.length = 12) (hR3 : ∀ s ∈ R, s.length ≤ 3)
    (hW : walksTo layL takeQ [3, 2, 1] R.reverse [] 3 = (bs.reverse, [])) (hbok : StrsOk bs)
    (k0 t0 : Tok) (nd nn : Nat) (ex : Led) (hexp : ∀ q ∈ ex, ∀ b ∈ pileAdr p, b ≠ q.1) (hCp : ∀ b ∈ pileAdr p, b ≠ C) (hCe : Off C ex) (hBp : ∀ b ∈ pileAdr p, b ≠ BP) (hBe : Off BP ex) (hBC : BP ≠ C)
    (s : Shared) (rest : Str → Option Value) (Q : Flow → Shared → Prop)
    (F : Fr g L s.heap (fm rest [("boxes", .ref C), ("lay", .ref p.f1), ("take", .ref p.f2), ("by_piles", .ref BP)]))
    (N : News g L s.heap ((BP, listOf lv.toArray nl) :: (C, listOf cv.toArray nc) :: (pileTl w p k0 t0 nd nn [] ++ ex)))
    (hq : ∀ h' tk' m', Fr g L h' m' → News g L h' ex → Q (.ret (.bool true)) { s with heap := h', toks := tk' }) :
    wpAny (model P1 w) ((AR dp un gd fr).deeper (lawEnv L f)) (execs [lp.s18, lp.s19] (lawEnv L f)) Q (fun _ _ => False) s := by
  obtain ⟨B, Xg, Tg, C1, C2, hd, hu⟩ := Z
  have hcl := hbs.len_eq
  have hll := hSR.len_eq
  unfold lawEnv lp
  dsimp only
  k_steps
  unfold Stop
  refine' use_fsT (rest := (C, listOf cv.toArray nc) :: (pileTl w p k0 t0 nd nn [] ++ ex)) (turned_fs Xg Tg BP lv nl R hSR (by omega)) B F N rfl rfl ?hd ?hu ?htl ?hrest ?_
  case hd => ktr_room
  case hu => ktr_units
  case htl => exact fun q hq => by rw [List.mem_singleton.mp hq]; exact .head _
  case hrest =>
    refine fun q hq => ⟨.tail _ hq, fun x hx => ?_⟩
    rw [List.mem_singleton.mp hx]
    rcases List.mem_cons.mp hq with rfl | hq
    · exact hBC
    · rcases List.mem_append.mp hq with hq | hq
      · exact (hBp _ (pile_adr q hq)).symm
      · exact (hBe q hq).symm
  rintro v tl' h' tk' ⟨TB, tv, nt, rfl, hne, hST, rfl⟩ F N hn
  have hTn := (hn _ (.head _)).resolve_left (fun k => hne (List.mem_singleton.mp k))
  clear hn
  have oT : ∀ b ∈ pileAdr p, b ≠ TB := fun b hb => by
    have hb' : b ∈ (pileTl w p k0 t0 nd nn []).map (·.1) := hb
    obtain ⟨q, hq, rfl⟩ := List.mem_map.mp hb'
    exact hTn q (.tail _ (.tail _ (List.mem_append_left _ hq)))
  have oTe : Off TB ex := fun p hp => hTn p (.tail _ (.tail _ (List.mem_append_right _ hp)))
  have hTC : TB ≠ C := (hTn _ (.tail _ (.head _))).symm
  have hlt := hST.len_eq
  rw [List.length_reverse] at hlt
  dsimp only [List.cons_append, List.nil_append] at N
  k_steps
  rename Fr _ _ _ _ => F
  rename News _ _ _ _ => N
  have oD : ∀ b ∈ pileAdr p, b ≠ D' := fun b hb => by
    have hb' : b ∈ (pileTl w p k0 t0 nd nn []).map (·.1) := hb
    obtain ⟨q, hq, rfl⟩ := List.mem_map.mp hb'
    exact Nat.ne_of_lt (l1 q (.tail _ (.tail _ (.tail _ (List.mem_append_left _ hq)))))
  have nTD : TB ≠ D' := Nat.ne_of_lt (l1 (TB, _) (.head _))
  have nCD : C ≠ D' := Nat.ne_of_lt (l1 (C, _) (.tail _ (.tail _ (.head _))))
  have exD : ∀ q ∈ ex, q.1 ≠ D' := fun q hq => Nat.ne_of_lt (l1 q (.tail _ (.tail _ (.tail _ (List.mem_append_right _ hq)))))
  have three : ∀ b, TB ≠ b → D' ≠ b → (∀ c ∈ pileAdr p, c ≠ b) → ∀ z ∈ (TB, listOf tv.toArray nt) :: (D', listOf [Value.int 3 tk', Value.int 2 (tk' + 1), Value.int 1 (tk' + 1 + 1)].toArray 0) :: pileTl w p k0 t0 nd nn [], z.1 ≠ b := fun b h1 h2 h5 z h' => by
    rcases List.mem_cons.mp h' with rfl | h'
    · exact h1
    · rcases List.mem_cons.mp h' with rfl | h'
      · exact h2
      · exact h5 _ (pile_adr z h')
  have sixC := three C hTC nCD.symm hCp
  have sixE : ∀ q ∈ ex, ∀ z ∈ (TB, listOf tv.toArray nt) :: (D', listOf [Value.int 3 tk', Value.int 2 (tk' + 1), Value.int 1 (tk' + 1 + 1)].toArray 0) :: pileTl w p k0 t0 nd nn [], z.1 ≠ q.1 := fun q hq => three _ (oTe q hq).symm (exD q hq).symm (hexp q hq)
  have mC : (C, listOf cv.toArray nc) ∈ (D', listOf #[Value.int 3 tk', Value.int 2 (tk' + 1), Value.int 1 (tk' + 1 + 1)] 0) :: (TB, listOf tv.toArray nt) :: (BP, listOf lv.toArray nl) :: (C, listOf cv.toArray nc) :: (pileTl w p k0 t0 nd nn [] ++ ex) := .tail _ (.tail _ (.tail _ (.head _)))
  have mE : ∀ q ∈ ex, q ∈ (D', listOf #[Value.int 3 tk', Value.int 2 (tk' + 1), Value.int 1 (tk' + 1 + 1)] 0) :: (TB, listOf tv.toArray nt) :: (BP, listOf lv.toArray nl) :: (C, listOf cv.toArray nc) :: (pileTl w p k0 t0 nd nn [] ++ ex) := fun q hq => .tail _ (.tail _ (.tail _ (.tail _ (List.mem_append_right _ hq))))
  replace N : News g L _ ((D', listOf #[Value.int 3 tk', Value.int 2 (tk' + 1), Value.int 1 (tk' + 1 + 1)] 0) :: (TB, listOf tv.toArray nt) :: (BP, listOf lv.toArray nl) :: (C, listOf cv.toArray nc) :: (pileTl w p k0 t0 nd nn [] ++ ex)) := N
  unfold Stop
  refine' use_fsT (rest := (C, listOf cv.toArray nc) :: ex) (walks_fs Xg Tg (RepP w p) layL takeQ p.f1 p.f2 (fun n q tl h hr hh X => keep_pile Y n q tl h hr hh) (fun n q tl x t hr hx => lay_rep Xg Tg L p Y n q tl x t hr hx) (fun n q tl hr => take_rep Xg Tg L p Y n q tl hr) (fun n q tl hr => less_pile p n q tl hr)
    TB tv nt R.reverse hST (by omega) (fun s hs => Nat.le_trans (hR3 s (List.mem_reverse.mp hs)) (by decide)) D' [.int 3 tk', .int 2 (tk' + 1), .int 1 (tk' + 1 + 1)] 0 [3, 2, 1] (.cons 3 _ (.cons 2 _ (.cons 1 _ .nil))) 0 [] (pileTl w p k0 t0 nd nn []) ⟨[], k0, t0, nd, nn, rfl, ?hn, (fun _ h => nomatch h), List.nodup_nil, fun p => Iff.rfl⟩ ?o1 ?o2 nTD) B F N rfl rfl ?hd2 ?hu2 ?htl2 ?hrest2 ?_
  case hn => show 0 + (0 + 3 * tv.length) ≤ 700; omega
  case o1 => exact fun q hq => oT _ (pile_adr q hq)
  case o2 => exact fun q hq => oD _ (pile_adr q hq)
  case hd2 => ktr_room
  case hu2 => ktr_units
  case htl2 =>
    intro q hq
    rcases List.mem_cons.mp hq with rfl | hq
    · exact .tail _ (.head _)
    · rcases List.mem_cons.mp hq with rfl | hq
      · exact .head _
      · exact .tail _ (.tail _ (.tail _ (.tail _ (List.mem_append_left _ hq))))
  case hrest2 =>
    intro q hq
    rcases List.mem_cons.mp hq with rfl | hq
    · exact ⟨mC, sixC⟩
    · exact ⟨mE q hq, sixE q hq⟩
  rintro v tl' h' tk2 ⟨D, wv, nv, tlq, keep, rfl, hSD, hRep, rfl, hDk, -, hkoff, -⟩ F N hn
  dsimp only [List.length_cons, List.length_nil] at hSD hRep
  rw [show (0 + 1 + 1 + 1) = 3 from rfl, hW] at hSD hRep
  have hDn := hn _ (List.mem_append_left _ hDk)
  have nDC : D ≠ C := by
    rcases hDn with k | k
    · obtain ⟨z, h', e⟩ := List.mem_map.mp k
      exact fun e' => sixC z h' (e.trans e')
    · exact (k _ mC).symm
  have nDE : Off D ex := fun q hq => by
    rcases hDn with k | k
    · obtain ⟨z, h', e⟩ := List.mem_map.mp k
      exact fun e' => sixE q hq z h' (e.trans e'.symm)
    · exact k _ (mE q hq)
  have hwl := hSD.len_eq
  rw [List.length_reverse, h12] at hwl
  clear hn hDn
  k_steps
  unfold Stop
  rename Fr _ _ _ _ => F
  rename News _ _ _ _ => N
  refine' use_fsT (rest := (C, listOf cv.toArray nc) :: ex) (turned_fs Xg Tg D wv nv bs.reverse hSD (by omega)) B F N rfl rfl ?hd5 ?hu5 ?htl5 ?hrest5 ?_
  case hd5 => ktr_room
  case hu5 => ktr_units
  case htl5 => exact fun q hq => by rw [List.mem_singleton.mp hq]; exact List.mem_append_left _ (List.mem_append_left _ hDk)
  case hrest5 =>
    intro q hq
    refine ⟨List.mem_append_right _ hq, fun x hx => ?_⟩
    rw [List.mem_singleton.mp hx]
    rcases List.mem_cons.mp hq with rfl | hq
    · exact nDC
    · exact (nDE q hq).symm
  rintro v tl' h' tk3 ⟨D2, dv, nd2, rfl, -, hS2, rfl⟩ F N hn
  rw [List.reverse_reverse] at hS2
  clear hn
  k_steps
  unfold Stop
  refine' eq_same (N.isList (.head _)) (N.isList (List.mem_append_right _ (.head _))) hS2 hbs hbok ?hu6 ?_
  case hu6 => first | units_room | exact Nat.le_of_ble_eq_true rfl
  k_steps
  exact hq _ _ _ F (fun p hp => N p (List.mem_append_right _ (.tail _ hp)))
end
example : True := by
  k_with_none
  trivial
example : True := by
  k_with "M enter" => (
  (case ho => k_is)
  (case hcd => k_is)
  (case hb => first | exact fun s Xs => BindsTo.of_eq rfl | exact fun s Xs => binds_K Xs rfl (by k_is) rfl rfl rfl)
  (case hl => exact locs rfl)
  (case h1 => decide)
  (case h2 => decide)
  (case h3 => exact rfl)
  (case h4 => exact rfl)
  (case h5 => exact rfl))
  k_with "M names" => (repeat' (first | exact List.forall_mem_nil _ | (refine List.forall_mem_cons.mpr ⟨?nm, ?_⟩; (case nm => rfl))))
  trivial
example : True := by
  k_with "M ne" => first | assumption | exact Ne.symm (by assumption) | k_ne
  trivial
example : True := by
  k_with "M len" => first | assumption | exact getD_len (by assumption) _ | omega
  k_with "M lens" => first | assumption | exact len_del (by assumption) | exact len_del (len_del (by assumption))
  k_with "M strs" => first | assumption | exact strs_del (by assumption) _ | exact strs_del (strs_del (by assumption) _) _
  k_with "M nat" => first | with_reducible exact fdiv2 _ _ | rfl | exact (Int.natCast_add _ _).symm | omega
  k_with "M le" => first | omega | ((try simp (disch := omega) only [delL_length, insL_length]); omega)
  k_with "subscriptTail Name Name ref int" => (k_here; k_dflt (refine' item_strsN ?N ?m ?h _ ?k ?l ?f ?_ ?hs ?hg; (case N => k_asm); (case m => k_mem); (case h => assumption); (case k => walk_at "M nat"); (case l => omega); (case f => omega); (case hs => with_unfolding_all rfl); (case hg => (intro _; with_unfolding_all rfl)); k_whole); intro tk')
  k_with "subscriptTail Name BinOp ref int" => (k_here; k_dflt (refine' item_strsN ?N ?m ?h _ ?k ?l ?f ?_ ?hs ?hg; (case N => k_asm); (case m => k_mem); (case h => assumption); (case k => walk_at "M nat"); (case l => omega); (case f => omega); (case hs => with_unfolding_all rfl); (case hg => (intro _; with_unfolding_all rfl)); k_whole); intro tk')
  k_with "exec While Compare cons nil" => refine Stop.out ?_
  k_with "call builtin:list.insert" => (k_here; (with_reducible show wpAny _ _ (call (Value.builtin _) [Value.ref _, Value.int _ _, _]) _ _ _); k_dflt (refine' ins_N ?F ?N _ ?k ?i ?l ?U ?_; (case F => k_asm); (case N => k_asm); (case U => k_upd); (case k => walk_at "M nat"); (case i => walk_at "M le"); (case l => walk_at "M le"); k_whole); intro h' F' N'; (try dsimp only [List.nil_append, List.cons_append] at N'); (try k_sweep))
  k_with "call builtin:list.pop" => (k_here; (with_reducible show wpAny _ _ (call (Value.builtin _) [Value.ref _, Value.int _ _]) _ _ _); k_dflt (refine' popS_N ?F ?N ?h _ ?k ?i ?l ?U ?_; (case F => k_asm); (case N => k_asm); (case U => k_upd); (case h => walk_at "M strs"); (case k => walk_at "M nat"); (case i => walk_at "M le"); (case l => walk_at "M le"); k_whole); intro h' tk' F' N'; (try dsimp only [List.nil_append, List.cons_append] at N'); (try k_sweep))
  k_with "pyIter ref" => ((with_reducible show wpAny _ _ (pyIter (Value.ref _)) (CompPostA _ _ _ _ _ _ _ _ _ _) _ _); refine Stop.out ?_)
  k_with "pyIter ref" => ((with_reducible show wpAny _ _ (pyIter (Value.ref _)) (fun it s₂ => LoopAtV _ _ _ _ _ _ _ _ _ it s₂) _ _); refine Stop.out ?_)
  k_with "call builtin:len" => (k_here; (with_reducible show wpAny _ _ (call (Value.builtin "len") [Value.ref _]) _ _ _); k_dflt (refine' len_N ?N ?m ?l ?_; (case N => k_asm); (case m => k_mem); (case l => walk_at "M le"); k_whole); intro t' tk')
  k_with "binaryOp Sub int int" => (k_here; (with_reducible refine' sub_natN ?h ?_; (case h => omega)); intro t' tk')
  k_with "binaryOp Sub int int" => (k_here; (with_reducible refine' sub_nat1 ?h ?_; (case h => omega)); intro t' tk')
  k_with "LPost" => refine Stop.out ?_
  k_with "WPost" => refine Stop.out ?_
  k_with "Done" => refine Stop.out ?_
  k_with "call builtin:len" => (k_here; (with_reducible show wpAny _ _ (call (Value.builtin "len") [Value.str _ _]) _ _ _); k_dflt (refine' lenS_N ?l ?_; (case l => walk_at "M len"); k_whole); intro t' tk')
  k_with "eval ListComp" => refine Stop.out ?_
  k_with "exec Assign cons ListComp" => refine Stop.out ?_
  k_with "CPost" => refine Stop.out ?_
  k_with "CPostA" => refine Stop.out ?_
  k_with "EPost" => refine Stop.out ?_
  trivial
example : True := by
  k_with "call builtin:list.append" => (k_here; (with_reducible show wpAny _ _ (call (Value.builtin _) [Value.ref _, _]) _ _ _); k_dflt (refine' app_N ?F ?N ?l ?U ?_; (case F => k_asm); (case N => k_asm); (case U => k_upd); (case l => walk_at "M le"); k_whole); intro h' F' N'; (try k_sweep))
  k_with "newList" => (k_here; k_dflt (refine' newList_N ?F ?N ?l ?_; (case F => k_asm); (case N => k_asm); (case l => exact Nat.le_of_ble_eq_true rfl); k_whole); intro D' h' F' N' l1 l2; (try (have l3 := l1; k_lt l3)); (try k_sweep))
  k_with "M enterC" => (
  (case ho => k_is)
  (case hcd => k_is)
  (case hb => first | exact fun s Xs => BindsTo.of_eq rfl | exact fun s Xs => binds_K Xs rfl (by k_is) rfl rfl rfl)
  (case hl => exact rfl)
  (case h2 => decide +kernel)
  (case h1 => decide)
  (case h3 => exact rfl)
  (case h4 => exact rfl)
  (case h5 => exact rfl))
  k_with "M comp" => (
  (case hclos => exact rfl)
  (case hcell => decide)
  (case hkind => exact rfl)
  (case hnames => decide)
  (case hx => exact rfl)
  (case hs => (intro _; exact rfl)))
  k_with "M compA" => (
  (case hsw => exact rfl)
  (case hclos => exact rfl)
  (case hcell => decide)
  (case hkind => exact rfl)
  (case hnames => decide)
  (case hx => exact rfl)
  (case hy => exact rfl)
  (case hp => exact rfl)
  (case hs => (intro _; exact rfl)))
  k_with "eval Name" => (k_here; (with_reducible show wpAny _ _ (eval (PySem.Expr.Name _ _) (compEnvC _ _ _ _)) _ _ _); k_dflt (first
  | (refine' cname ?n ?v ?k ?l ?d ?_; (case n => assumption); (case v => assumption); (case k => exact rfl); (case l => exact rfl); (case d => decide))
  | (refine' ccell ?N ?c ?m ?d ?k ?l ?b ?_; (case N => k_asm); (case c => exact rfl); (case m => k_mem); (case d => assumption); (case k => exact rfl); (case l => exact rfl); (case b => decide))
  | (refine' cbuilt ?F ?X ?T ?e ?v ?n ?g ?b ?k ?l ?d ?_; (case F => k_asm); (case X => k_asm); (case T => k_asm); (case e => k_is); (case v => boot_by_name); (case n => decide); (case g => exact rfl); (case b => exact rfl); (case k => exact rfl); (case l => exact rfl); (case d => decide))
  | (refine' cglob ?F ?X ?T ?e ?g ?k ?l ?d ?_; (case F => k_asm); (case X => k_asm); (case T => k_asm); (case e => k_is); (case g => exact rfl); (case k => exact rfl); (case l => exact rfl); (case d => decide))
  | fail))
  trivial
example : True := by
  k_with "call ref" => ((with_reducible show wpAny _ _ (call (Value.ref 202) [Value.str _ _] []) _ _ _); k_dflt (refine' use_fs (size_fs ?X ?T _ _ ?hx) ?B ?F ?N ?hf ?hk ?hd ?hu ?hp ?_; (case B => assumption); (case X => assumption); (case T => assumption); (case F => k_asm); (case N => k_asm); (case hf => rfl); (case hk => rfl); (case hp => walk_at "M picks"); (case hx => walk_at "M len"); (case hd => ktr_room); (case hu => ktr_units); k_whole); intro v' tl' h' tk' hr' F' N' hn'; (obtain ⟨t', hv', ht'⟩ := hr'); (subst hv'); (subst ht'); (clear hn'); (try dsimp only [List.nil_append, List.cons_append] at N'); (try k_sweep))
  trivial

example : True := by
  k_with "call ref" => ((with_reducible show wpAny _ _ (call (Value.ref 39) _ _) _ _ _); k_dflt (refine' use_fs (bisR_fs ?X ?T _ _ _ _ _ _ ?hss _ _ _ _ ?hlo ?hhi _ _ ?h1 ?h2 ?h3 ?h4) ?B ?F ?N ?hf ?hk ?hd ?hu ?hp ?_; (case B => assumption); (case X => assumption); (case T => assumption); (case F => k_asm); (case N => k_asm); (case hf => rfl); (case hk => rfl); (case hp => walk_at "M picks"); (case hss => walk_at "M strs"); (case hlo => walk_at "M nat"); (case hhi => walk_at "M nat"); (case h1 => omega); (case h2 => walk_at "M le"); (case h3 => walk_at "M le"); (case h4 => walk_at "M lens"); (case hd => ktr_room); (case hu => ktr_units); k_whole); intro v' tl' h' tk' hr' F' N' hn'; (obtain ⟨t', hv', ht'⟩ := hr'); (subst hv'); (subst ht'); (clear hn'); (try dsimp only [List.nil_append, List.cons_append] at N'); (try k_sweep))
  k_with "call ref" => ((with_reducible show wpAny _ _ (call (Value.ref 57) _ _) _ _ _); k_dflt (refine' use_fs (bisL_fs ?X ?T _ _ _ _ _ _ ?hss _ _ _ _ ?hlo ?hhi _ _ ?h1 ?h2 ?h3 ?h4) ?B ?F ?N ?hf ?hk ?hd ?hu ?hp ?_; (case B => assumption); (case X => assumption); (case T => assumption); (case F => k_asm); (case N => k_asm); (case hf => rfl); (case hk => rfl); (case hp => walk_at "M picks"); (case hss => walk_at "M strs"); (case hlo => walk_at "M nat"); (case hhi => walk_at "M nat"); (case h1 => omega); (case h2 => walk_at "M le"); (case h3 => walk_at "M le"); (case h4 => walk_at "M lens"); (case hd => ktr_room); (case hu => ktr_units); k_whole); intro v' tl' h' tk' hr' F' N' hn'; (obtain ⟨t', hv', ht'⟩ := hr'); (subst hv'); (subst ht'); (clear hn'); (try dsimp only [List.nil_append, List.cons_append] at N'); (try k_sweep))
  trivial

example : True := by
  k_with "call ref" => ((with_reducible show wpAny _ _ (call (Value.ref 30) _ _) _ _ _); k_dflt (refine' use_fs (insR_fs ?X ?T _ _ _ _ _ _ ?hss _ _ _ _ ?hlo ?hhi _ _ ?h1 ?h2 ?h3 ?h4 ?hx) ?B ?F ?N ?hf ?hk ?hd ?hu ?hp ?_; (case B => assumption); (case X => assumption); (case T => assumption); (case F => k_asm); (case N => k_asm); (case hf => rfl); (case hk => rfl); (case hp => walk_at "M picks"); (case hss => walk_at "M strs"); (case hlo => walk_at "M nat"); (case hhi => walk_at "M nat"); (case h1 => omega); (case h2 => walk_at "M le"); (case h3 => walk_at "M le"); (case h4 => walk_at "M lens"); (case hx => walk_at "M len"); (case hd => ktr_room); (case hu => ktr_units); k_whole); intro v' tl' h' tk' hr' F' N' hn'; (obtain ⟨hv', ht'⟩ := hr'); (subst hv'); (subst ht'); (clear hn'); (try dsimp only [List.nil_append, List.cons_append] at N'); (try k_sweep))
  k_with "call ref" => ((with_reducible show wpAny _ _ (call (Value.ref 48) _ _) _ _ _); k_dflt (refine' use_fs (insL_fs ?X ?T _ _ _ _ _ _ ?hss _ _ _ _ ?hlo ?hhi _ _ ?h1 ?h2 ?h3 ?h4 ?hx) ?B ?F ?N ?hf ?hk ?hd ?hu ?hp ?_; (case B => assumption); (case X => assumption); (case T => assumption); (case F => k_asm); (case N => k_asm); (case hf => rfl); (case hk => rfl); (case hp => walk_at "M picks"); (case hss => walk_at "M strs"); (case hlo => walk_at "M nat"); (case hhi => walk_at "M nat"); (case h1 => omega); (case h2 => walk_at "M le"); (case h3 => walk_at "M le"); (case h4 => walk_at "M lens"); (case hx => walk_at "M len"); (case hd => ktr_room); (case hu => ktr_units); k_whole); intro v' tl' h' tk' hr' F' N' hn'; (obtain ⟨hv', ht'⟩ := hr'); (subst hv'); (subst ht'); (clear hn'); (try dsimp only [List.nil_append, List.cons_append] at N'); (try k_sweep))
  trivial

example : True := by
  k_with "call ref" => ((with_reducible show wpAny _ _ (call (Value.ref 207) [Value.ref _, Value.ref 30] _) _ _ _); k_dflt (refine' use_fs (rowR_fs ?X ?T _ _ _ _ ?hss ?h3 ?h4) ?B ?F ?N ?hf ?hk ?hd ?hu ?hp ?_; (case B => assumption); (case X => assumption); (case T => assumption); (case F => k_asm); (case N => k_asm); (case hf => rfl); (case hk => rfl); (case hp => walk_at "M picks"); (case hss => walk_at "M strs"); (case h3 => walk_at "M le"); (case h4 => walk_at "M lens"); (case hd => ktr_room); (case hu => ktr_units); k_whole); intro v' tl' h' tk' hr' F' N' hn'; (obtain ⟨D', its', n', hv', hne', hS', ht'⟩ := hr'); (subst hv'); (subst ht'); (have hO' := off_one hn' hne'); (clear hn'); (try dsimp only [List.nil_append, List.cons_append] at N'); (try k_sweep))
  k_with "call ref" => ((with_reducible show wpAny _ _ (call (Value.ref 207) [Value.ref _, Value.ref 48] _) _ _ _); k_dflt (refine' use_fs (rowL_fs ?X ?T _ _ _ _ ?hss ?h3 ?h4) ?B ?F ?N ?hf ?hk ?hd ?hu ?hp ?_; (case B => assumption); (case X => assumption); (case T => assumption); (case F => k_asm); (case N => k_asm); (case hf => rfl); (case hk => rfl); (case hp => walk_at "M picks"); (case hss => walk_at "M strs"); (case h3 => walk_at "M le"); (case h4 => walk_at "M lens"); (case hd => ktr_room); (case hu => ktr_units); k_whole); intro v' tl' h' tk' hr' F' N' hn'; (obtain ⟨D', its', n', hv', hne', hS', ht'⟩ := hr'); (subst hv'); (subst ht'); (have hO' := off_one hn' hne'); (clear hn'); (try dsimp only [List.nil_append, List.cons_append] at N'); (try k_sweep))
  trivial

example : True := by
  k_with "call ref" => ((with_reducible show wpAny _ _ (call (Value.ref 219) _ _) _ _ _); k_dflt (refine' use_fs (turned_fs ?X ?T _ _ _ _ ?hss ?h3) ?B ?F ?N ?hf ?hk ?hd ?hu ?hp ?_; (case B => assumption); (case X => assumption); (case T => assumption); (case F => k_asm); (case N => k_asm); (case hf => rfl); (case hk => rfl); (case hp => walk_at "M picks"); (case hss => walk_at "M strs"); (case h3 => walk_at "M le"); (case hd => ktr_room); (case hu => ktr_units); k_whole); intro v' tl' h' tk' hr' F' N' hn'; (obtain ⟨D', its', n', hv', hne', hS', ht'⟩ := hr'); (subst hv'); (subst ht'); (have hO' := off_one hn' hne'); (clear hn'); (try dsimp only [List.nil_append, List.cons_append] at N'); (try k_sweep))
  trivial

example : True := by
  k_with "call ref" => ((with_reducible show wpAny _ _ (call (Value.ref 134) _ []) _ _ _); k_dflt (refine' use_fs (count_fs ?X ?T _ _ _ _ _ _ _ ?v ?n) ?B ?F ?N ?hf ?hk ?hd ?hu ?hp ?_; (case B => assumption); (case X => assumption); (case T => assumption); (case F => k_asm); (case N => k_asm); (case hf => rfl); (case hk => rfl); (case hp => walk_at "M picks"); (case v => ((try simp only [List.length_append, List.length_cons, List.length_nil]); omega)); (case n => walk_at "M ne"); (case hd => ktr_room); (case hu => ktr_units); k_whole); intro v' tl' h' tk' hr' F' N' hn'; (obtain ⟨⟨tz', hz'⟩, hy'⟩ := hr'); (subst hz'); (subst hy'); (clear hn'); (try dsimp only [List.nil_append, List.cons_append] at N'); (try k_sweep))
  trivial

example : True := by
  k_with "getMethod ref" => (k_here; k_dflt (refine' method_in ?F ?X ?I ?g ?k ?f ?t ?l ?_; (case F => k_asm); (case X => k_asm); (case I => exact inst_acc (by k_asm) (by k_mem) (by k_mem)); (case g => k_is); (case k => k_is); (case f => k_is); (case t => k_is); (case l => with_unfolding_all k_get); k_whole))
  k_with "call ref" => (k_here; (with_reducible show wpAny _ _ (call (Value.ref 81) _ _) _ _ _); refine Stop.out ?_)
  k_with "call ref" => (k_here; (with_reducible show wpAny _ _ (call (Value.ref 97) _ _) _ _ _); refine Stop.out ?_)
  trivial

noncomputable section
def wd (j r : Nat) : List Nat := (([34, 92, 35, 10, 9, 32] : List Nat).getD j 0 :: [97, 98]).take r
def white (m : Nat) : Nat := ([10, 9, 13, 32] : List Nat).getD m 0
theorem wordOf_all : ∀ j : Fin 6, ∀ r : Fin 4, Txt.slice (Txt.item boxSigns ((j.val : Nat) : Int) ++ "ab") none (some ((r.val : Nat) : Int)) = strOf (wd j.val r.val) := by decide +kernel
theorem esc_all : ∀ j : Fin 6, ∀ r : Fin 4, Txt.join "" (escW (strOf (wd j.val r.val))) = strOf (escL (wd j.val r.val)) := by decide +kernel
theorem white_all : ∀ m : Fin 4, Txt.item "\n\t\r " ((m.val : Nat) : Int) = one (white m.val) ∧ notWhite (one (white m.val)) = false := by decide +kernel
theorem fmod4 (n : Int) : ∃ r : Fin 4, Int.fmod n 4 = ((r.val : Nat) : Int) := by
  have h1 := Int.fmod_nonneg_of_pos n (b := 4) (by decide)
  have h2 := Int.fmod_lt_of_pos n (b := 4) (by decide)
  exact ⟨⟨(Int.fmod n 4).toNat, by omega⟩, by show Int.fmod n 4 = ((Int.fmod n 4).toNat : Int); omega⟩
theorem wordOf_is (ni : List Int) {j : Nat} (hj : j < 6) : ∃ r : Fin 4, wordOf ni j = strOf (wd j r.val) := by
  obtain ⟨r, hr⟩ := fmod4 (ni.getD j 0)
  refine ⟨r, ?_⟩
  unfold wordOf
  rw [hr]
  exact wordOf_all ⟨j, hj⟩ r
theorem wd_nil : ∀ j : Fin 6, ∀ r : Fin 4, (strOf (wd j.val r.val) == "") = decide (wd j.val r.val = []) := by decide +kernel
theorem wd_len : ∀ j : Fin 6, ∀ r : Fin 4, (strOf (wd j.val r.val)).length ≤ 3 ∧ (wd j.val r.val).length ≤ 3 ∧ PyData.strOk (strOf (wd j.val r.val)) = true := by decide +kernel
theorem wd_tail : ∀ j : Fin 6, ∀ r : Fin 4, ∀ c ∈ (wd j.val r.val).tail, c = 97 ∨ c = 98 := by decide +kernel
theorem escL_len : ∀ w : List Nat, w.length ≤ (escL w).length
  | [] => Nat.le_refl _
  | c :: w => by
    have := escL_len w
    show _ ≤ ((if c = 34 ∨ c = 92 then [92, c] else [c]) ++ escL w).length
    rw [List.length_append, List.length_cons]
    split <;> simp <;> omega
def pcL (n : Int) (w : List Nat) : List Nat := if w = [] ∨ Int.fmod (Int.fdiv n 4) 2 = 1 then 34 :: (escL w ++ [34]) else 92 :: (w ++ [white (Int.fmod (Int.fdiv n 8) 4).toNat])
theorem str_app (x : Str) (w : List Nat) : (x ++ strOf w).cps.toList = x.cps.toList ++ w := by
  show (x.cps ++ w.toArray).toList = _
  simp
theorem app_assoc3 (x y z : Str) : x ++ y ++ z = x ++ (y ++ z) := by
  show (⟨(x.cps ++ y.cps) ++ z.cps⟩ : Str) = ⟨x.cps ++ (y.cps ++ z.cps)⟩
  rw [Array.append_assoc]
theorem strOf_app (a b : List Nat) : strOf a ++ strOf b = strOf (a ++ b) := by
  show (⟨a.toArray ++ b.toArray⟩ : Str) = ⟨(a ++ b).toArray⟩
  simp
theorem one_strOf (c : Nat) : one c = strOf [c] := rfl
theorem turn_pc (x : Str) (n : Int) (j : Fin 6) (r : Fin 4) : textTurn x n (strOf (wd j.val r.val)) = x ++ strOf (pcL n (wd j.val r.val)) := by
  unfold textTurn pcL
  rw [wd_nil]
  by_cases c : wd j.val r.val = [] ∨ Int.fmod (Int.fdiv n 4) 2 = 1
  · rw [if_pos (c.imp (fun h => decide_eq_true h) id), if_pos c, esc_all j r, s_q, one_strOf, app_assoc3, app_assoc3, strOf_app, strOf_app]
    rfl
  · rw [if_neg (fun h => c (h.imp (fun h => of_decide_eq_true h) id)), if_neg c]
    obtain ⟨m, hm⟩ := fmod4 (Int.fdiv n 8)
    rw [hm, (white_all m).1, Int.toNat_natCast, s_b, one_strOf, one_strOf, app_assoc3, app_assoc3, strOf_app, strOf_app]
    rfl
theorem piece_tok (tx : Str) (n : Int) (j : Fin 6) (r : Fin 4) (i k : Nat) (ln : Int) (post : List Nat) (hk : (wd j.val r.val).length < k) (e : tx.cps.toList.drop i = pcL n (wd j.val r.val) ++ post) :
    tokT tx (k + 1) i ln = (strOf (wd j.val r.val), i + (pcL n (wd j.val r.val)).length, nls (pcL n (wd j.val r.val)) ln) := by
  have ht := wd_tail j r
  generalize wd j.val r.val = w at hk e ht ⊢
  unfold pcL at e ⊢
  by_cases c : w = [] ∨ Int.fmod (Int.fdiv n 4) 2 = 1
  · rw [if_pos c] at e ⊢
    exact tokT_quoted tx w k i ln post hk (by rw [e]; simp)
  · rw [if_neg c] at e ⊢
    obtain ⟨m, hm⟩ := fmod4 (Int.fdiv n 8)
    rw [hm, Int.toNat_natCast] at e ⊢
    cases w with
    | nil => exact absurd (.inl rfl) c
    | cons a w =>
      exact tokT_bare tx a w k i ln (white m.val) post (by rw [List.length_cons] at hk; omega) (fun x hx => by
        rcases ht x hx with rfl | rfl
        · exact ⟨nw97, by decide⟩
        · exact ⟨nw98, by decide⟩) (white_all m).2 (by rw [e]; simp)
section
variable (ni : List Int)
def wsOf : List Str := (List.range 6).map (wordOf ni)
theorem wsOf_get {j : Nat} (hj : j < 6) : (wsOf ni).getD j "" = wordOf ni j := by
  unfold wsOf
  rw [List.getD_eq_getElem?_getD, List.getElem?_map, List.getElem?_range hj]; rfl
theorem wsOf_len : (wsOf ni).length = 6 := by unfold wsOf; rw [List.length_map, List.length_range]
theorem wsOf_all : ∀ s ∈ wsOf ni, s.length ≤ 3 ∧ PyData.strOk s = true := fun s hs => by
  obtain ⟨j, hj, rfl⟩ := List.mem_map.mp hs
  obtain ⟨r, hr⟩ := wordOf_is ni (List.mem_range.mp hj)
  rw [hr]
  have := wd_len ⟨j, List.mem_range.mp hj⟩ r
  exact ⟨this.1, this.2.2⟩
theorem text_step {k : Nat} (hk : k < 6) : ∃ r : Fin 4, wordOf ni k = strOf (wd k r.val) ∧ (textTo ni (wsOf ni) (k + 1)).cps.toList = (textTo ni (wsOf ni) k).cps.toList ++ pcL (ni.getD k 0) (wd k r.val) := by
  obtain ⟨r, hr⟩ := wordOf_is ni hk
  refine ⟨r, hr, ?_⟩
  show (textTurn _ _ _).cps.toList = _
  rw [wsOf_get ni hk, hr, turn_pc _ _ ⟨k, hk⟩ r, str_app]
theorem text_pre : ∀ m k : Nat, k + m ≤ 6 → ∃ post, (textTo ni (wsOf ni) (k + m)).cps.toList = (textTo ni (wsOf ni) k).cps.toList ++ post
  | 0, k, _ => ⟨[], by simp⟩
  | m + 1, k, h => by
    obtain ⟨r, -, e⟩ := text_step ni (k := k + m) (by omega)
    obtain ⟨post, e'⟩ := text_pre m k (by omega)
    exact ⟨post ++ pcL (ni.getD (k + m) 0) (wd (k + m) r.val), by rw [show k + (m + 1) = k + m + 1 by omega, e, e', List.append_assoc]⟩
def posOf (k : Nat) : Nat := (textTo ni (wsOf ni) k).length
def lnOf (k : Nat) : Int := nls (textTo ni (wsOf ni) k).cps.toList 1
theorem posOf_list (k : Nat) : (textTo ni (wsOf ni) k).cps.toList.length = posOf ni k := Array.length_toList
theorem posOf_le {k : Nat} (hk : k ≤ 6) : posOf ni k ≤ (textTo ni (wsOf ni) 6).length := by
  obtain ⟨post, e⟩ := text_pre ni (6 - k) k (by omega)
  rw [show k + (6 - k) = 6 by omega] at e
  have := congrArg List.length e
  rw [posOf_list, List.length_append, posOf_list] at this
  show posOf ni k ≤ posOf ni 6
  omega
theorem read_all {k : Nat} (hk : k < 6) : tokT (textTo ni (wsOf ni) 6) ((textTo ni (wsOf ni) 6).length + 1) (posOf ni k) (lnOf ni k) = ((wsOf ni).getD k "", posOf ni (k + 1), lnOf ni (k + 1)) := by
  obtain ⟨r, hr, e1⟩ := text_step ni hk
  obtain ⟨post, e2⟩ := text_pre ni (6 - (k + 1)) (k + 1) (by omega)
  rw [show k + 1 + (6 - (k + 1)) = 6 by omega, e1] at e2
  have hd : (textTo ni (wsOf ni) 6).cps.toList.drop (posOf ni k) = pcL (ni.getD k 0) (wd k r.val) ++ post := by
    rw [e2, ← posOf_list, List.append_assoc, List.drop_left]
  have hl : posOf ni (k + 1) = posOf ni k + (pcL (ni.getD k 0) (wd k r.val)).length := by
    rw [← posOf_list, e1, List.length_append, posOf_list]
  have hw : (wd k r.val).length < (pcL (ni.getD k 0) (wd k r.val)).length := by
    have := escL_len (wd k r.val)
    unfold pcL
    split <;> simp <;> omega
  have hle := posOf_le ni (k := k + 1) (by omega)
  rw [piece_tok _ (ni.getD k 0) ⟨k, hk⟩ r (posOf ni k) _ (lnOf ni k) post (by show (wd k r.val).length < _; omega) hd, wsOf_get ni hk, hr, hl]
  refine Prod.ext rfl (Prod.ext rfl ?_)
  show nls _ (nls _ 1) = nls _ 1
  rw [e1, nls_app]
theorem lnOf_end : lnOf ni 6 = 1 + (((textTo ni (wsOf ni) 6).cps.toList.filter fun c => decide (c = 10)).length : Nat) := nls_count _ _
end
theorem pOut_mem {lay : List Str → Str → List Str} (Pr : Str → Prop) (he : Pr "") (hlay : ∀ q x, (∀ s ∈ q, Pr s) → Pr x → ∀ s ∈ lay q x, Pr s) (z : Nat) (x : Str) (q : List Str) (hx : Pr x) (hq : ∀ s ∈ q, Pr s) : Pr (pOut lay takeQ z x q).1 ∧ ∀ s ∈ (pOut lay takeQ z x q).2, Pr s := by
  unfold pOut
  split
  · exact ⟨he, hlay q x hq hx⟩
  · split
    · cases q with
      | nil => exact ⟨he, hq⟩
      | cons y q => exact ⟨hq y (.head _), fun s hs => hq s (.tail _ hs)⟩
    · exact ⟨hx, hq⟩
theorem pPass_mem {lay : List Str → Str → List Str} (Pr : Str → Prop) (he : Pr "") (hlay : ∀ q x, (∀ s ∈ q, Pr s) → Pr x → ∀ s ∈ lay q x, Pr s) (z : Nat) : ∀ (xs q : List Str), (∀ s ∈ xs, Pr s) → (∀ s ∈ q, Pr s) → ∀ s ∈ (pPass lay takeQ z xs q).1, Pr s
  | [], _, _, _ => fun _ h => nomatch h
  | x :: xs, q, hx, hq => by
    have o := pOut_mem Pr he hlay z x q (hx x (.head _)) hq
    intro s hs
    rcases List.mem_cons.mp hs with rfl | hs
    · exact o.1
    · exact pPass_mem Pr he hlay z xs _ (fun s hs => hx s (.tail _ hs)) o.2 s hs
end

noncomputable section
variable {dp un : Nat} {gd : Option (List Code)} {fr : List Env} {g : Heap}
theorem law_run (Z : At w dp un gd fr g loose mean mg mb) (L f sx : Addr) (sv : List Value) (script : List Int) (hs : g.IsList sx sv.toArray) (hI : IntsAre sv script) (hl : script.length ≤ 63) (w1 w2 : Obj) (hw1 : w1.data = .cell none) (hw2 : w2.data = .cell none)
    (s : Shared) (rest : Str → Option Value) (Q : Flow → Shared → Prop) (hsz : 185 < L ∧ 221 < L)
    (F : Fr g L s.heap (fm rest [("script", .ref sx)])) (N : News g L s.heap [(L + 1, w1), (L + 1 + 1, w2), (185, tabObj #[]), (221, tabObj #[])])
    (hq : ∀ h' tk' m' ps ps2, Fr g L h' m' → News g L h' [(185, tabObj ps), (221, tabObj ps2)] → Q (.ret (.bool true)) { s with heap := h', toks := tk' }) :
    wpAny (model P1 w) ((AR dp un gd fr).deeper (lawEnv L f)) (execs (bodyOf lawDef) (lawEnv L f)) Q (fun _ _ => False) s := by
  rw [lp.eq]
  have z2 : @LT.lt Nat _ 185 L := hsz.1
  have z3 : @LT.lt Nat _ 221 L := hsz.2
  refine execs_app [lp.s0, lp.s1] _ (law_b0 Z L f sx sv script hs hI hl w1 w2 hw1 hw2 s rest _ hsz F N ?_)
  intro h1 tk1 rest1 D nv ni nn w1' Fr1 Ns1 hw1' hni h6 hLD
  dsimp only
  refine execs_app [lp.s2] _ (law_b1 Z L f D nv ni nn w1' w2 hw1' hni h6 hLD _ _ _ hsz Fr1 Ns1 ?_)
  intro h2 tk2 rest2 W wv nw Fr2 Ns2 hws n1 n2 n3 n4 n5
  dsimp only
  have hws : StrsAre wv (wsOf ni) := hws
  have hw3 : ∀ s ∈ wsOf ni, s.length ≤ 3 := fun s hs => (wsOf_all ni s hs).1
  have hwok : StrsOk (wsOf ni) := fun s hs => (wsOf_all ni s hs).2
  refine execs_app [lp.s3, lp.s4, lp.s5] _ (law_b2 Z L f D nv ni nn w1' w2 hw1' hni h6 hLD W wv nw (wsOf ni) hws (wsOf_len ni) hw3 n1 n2 n3 _ _ _ hsz n4 n5 Fr2 Ns2 ?_)
  intro h3 tk3 rest3 a tt nd tp ps Bx tx Fr3 Ns3 ok hlen o1 o2 o3 o4 o5 hB1 hB2
  dsimp only
  refine execs_app [lp.s6] _ (law_b3 Z L f w2 W wv nw (wsOf ni) hws (wsOf_len ni) hw3 (textTo ni (wsOf ni) 6) tx a tt nd tp ps Bx ok (by omega) o1 o2 o3 o4 o5 hB1 hB2 hsz (posOf ni) (lnOf ni) rfl rfl (fun i hi => posOf_le ni hi) (fun i hi => read_all ni hi) _ _ _ Fr3 Ns3 ?_)
  intro h4 tk4 rest4 its nb tt nd np tp na Fr4 Ns4 hits
  dsimp only
  have Ns4' : News g L h4 ((Bx, listOf its.toList.toArray nb) :: (lexTl w a (lnOf ni 6) tt nd [] np (textTo ni (wsOf ni) 6).length tp na ++ [(W, listOf wv.toArray nw), (L + 1 + 1, w2), (185, tabObj ps), (221, tabObj #[])])) := by
    rw [Array.toArray_toList]; exact Ns4
  refine execs_app [lp.s7] _ (law_b4 Z L f w2 W wv nw (wsOf ni) hws (wsOf_len ni) hw3 hwok (textTo ni (wsOf ni) 6) tx a ps Bx ok (by omega) o1 o2 o3 o4 o5 hB1 hB2 hsz (lnOf ni 6) (lnOf_end ni) its.toList nb hits tt nd np tp na _ _ _ Fr4 Ns4' ?_)
  intro h5 tk5 rest5 Fr5 Ns5
  dsimp only
  refine execs_app [lp.s8] _ (law_b5 Z L f a Bx its.toList nb (wsOf ni) hits (wsOf_len ni) _ _ _ _ Fr5 Ns5 ?_)
  intro h7 tk6 rest6 C cv nc Fr6 Ns6 hcv hC
  dsimp only
  generalize hTx : textTo ni (wsOf ni) 6 = T6 at *
  have cP : L + 1 + 1 ≠ C := hC (L + 1 + 1, w2) (List.mem_append_right _ (.head _))
  have c1 : (185 : Addr) ≠ C := hC (185, tabObj ps) (List.mem_append_right _ (.tail _ (.head _)))
  have c2 : (221 : Addr) ≠ C := hC (221, tabObj #[]) (List.mem_append_right _ (.tail _ (.tail _ (.head _))))
  have hCa : OffA C a := fun b hb => by
    have hb' : b ∈ (lexTl w a (lnOf ni 6) tt nd [] np T6.length tp na).map (·.1) := hb
    obtain ⟨q, hq, rfl⟩ := List.mem_map.mp hb'
    exact hC q (List.mem_append_left _ hq)
  have N6 : News g L h7 ((L + 1 + 1, w2) :: (221, tabObj #[]) :: (C, listOf cv.toArray nc) :: (lexTl w a (lnOf ni 6) tt nd [] np T6.length tp na ++ [(185, tabObj ps)])) := fun p hp => Ns6 p (by
    simp only [List.mem_append, List.mem_cons, List.not_mem_nil, or_false] at hp ⊢
    rcases hp with h | h | h | h | h <;> simp only [h, true_or, or_true])
  refine execs_app [lp.s9, lp.s10, lp.s11] _ (law_b6 Z L f a C w2 hw2 hsz _ _ _ _ Fr6 N6 ?hoP ?ho2 ?_)
  case hoP =>
    intro p hp
    simp only [List.mem_append, List.mem_cons, List.not_mem_nil, or_false] at hp
    rcases hp with rfl | hp | rfl
    · exact cP.symm
    · exact o3 _ (lex_adr p hp)
    · exact Nat.ne_of_lt (by show @LT.lt Nat _ 185 (L + 1 + 1); omega)
  case ho2 =>
    intro p hp
    simp only [List.mem_append, List.mem_cons, List.not_mem_nil, or_false] at hp
    rcases hp with rfl | hp | rfl
    · exact c2.symm
    · exact o5 _ (lex_adr p hp)
    · show (185 : Addr) ≠ 221; decide
  intro h8 tk7 rest7 p k0 t0 nd2 nn2 ps2 Fr7 Ns7 hY hoff
  dsimp only
  have hm : (wsOf ni).length ≤ 6 := Nat.le_of_eq (wsOf_len ni)
  have hbl : ((wsOf ni) ++ List.replicate 6 ("" : Str)).length = 12 := by rw [List.length_append, wsOf_len, List.length_replicate]
  have hb3 : ∀ s ∈ (wsOf ni) ++ List.replicate 6 ("" : Str), s.length ≤ 3 := fun s hs => by
    rcases List.mem_append.mp hs with hs | hs
    · exact hw3 s hs
    · rw [(List.mem_replicate.mp hs).2]; decide
  have hbok : StrsOk ((wsOf ni) ++ List.replicate 6 ("" : Str)) := fun s hs => by
    rcases List.mem_append.mp hs with hs | hs
    · exact hwok s hs
    · rw [(List.mem_replicate.mp hs).2]; decide +kernel
  have rR := row_three keepsR goesR (wsOf ni) 6 hm hw3 hbl.symm
  have tR := walks_there keepsR (wsOf ni) 6 hm
  have bR := walks_back keepsR (wsOf ni) 6 hm
  have rL := row_three keepsL goesL (wsOf ni) 6 hm hw3 hbl.symm
  have tL := walks_there keepsL (wsOf ni) 6 hm
  have bL := walks_back keepsL (wsOf ni) 6 hm
  generalize hbs : (wsOf ni) ++ List.replicate 6 ("" : Str) = bs at *
  have okR : ∀ s ∈ (pPass layR takeQ 3 (pPass layR takeQ 2 (pPass layR takeQ 1 bs []).1 []).1 []).1, PyData.strOk s = true ∧ s.length ≤ 3 := by
    have hl : ∀ (Pr : Str → Prop) (q : List Str) (x : Str), (∀ s ∈ q, Pr s) → Pr x → ∀ s ∈ layR q x, Pr s := fun Pr q x h1 h2 s hs => by
      rcases List.mem_append.mp hs with hs | hs
      · exact h1 s hs
      · rw [List.mem_singleton.mp hs]; exact h2
    have he : PyData.strOk ("" : Str) = true ∧ ("" : Str).length ≤ 3 := ⟨by decide +kernel, by decide⟩
    have nn : ∀ s ∈ ([] : List Str), PyData.strOk s = true ∧ s.length ≤ 3 := fun _ h => nomatch h
    exact pPass_mem _ he (hl _) 3 _ _ (pPass_mem _ he (hl _) 2 _ _ (pPass_mem _ he (hl _) 1 _ _ (fun s hs => ⟨hbok s hs, hb3 s hs⟩) nn) nn) nn
  have okL : ∀ s ∈ (pPass layL takeQ 3 (pPass layL takeQ 2 (pPass layL takeQ 1 bs []).1 []).1 []).1, PyData.strOk s = true ∧ s.length ≤ 3 := by
    have hl : ∀ (Pr : Str → Prop) (q : List Str) (x : Str), (∀ s ∈ q, Pr s) → Pr x → ∀ s ∈ layL q x, Pr s := fun Pr q x h1 h2 s hs => by
      rcases List.mem_cons.mp hs with rfl | hs
      · exact h2
      · exact h1 s hs
    have he : PyData.strOk ("" : Str) = true ∧ ("" : Str).length ≤ 3 := ⟨by decide +kernel, by decide⟩
    have nn : ∀ s ∈ ([] : List Str), PyData.strOk s = true ∧ s.length ≤ 3 := fun _ h => nomatch h
    exact pPass_mem _ he (hl _) 3 _ _ (pPass_mem _ he (hl _) 2 _ _ (pPass_mem _ he (hl _) 1 _ _ (fun s hs => ⟨hbok s hs, hb3 s hs⟩) nn) nn) nn
  have lR : (pPass layR takeQ 3 (pPass layR takeQ 2 (pPass layR takeQ 1 bs []).1 []).1 []).1.length = 12 := by rw [pPass_len, pPass_len, pPass_len, hbl]
  have lL : (pPass layL takeQ 3 (pPass layL takeQ 2 (pPass layL takeQ 1 bs []).1 []).1 []).1.length = 12 := by rw [pPass_len, pPass_len, pPass_len, hbl]
  generalize (pPass layR takeQ 3 (pPass layR takeQ 2 (pPass layR takeQ 1 bs []).1 []).1 []).1 = RR at *
  generalize (pPass layL takeQ 3 (pPass layL takeQ 2 (pPass layL takeQ 1 bs []).1 []).1 []).1 = RL at *
  have pA : ∀ b ∈ pileAdr p, OffA b a ∧ b ≠ C ∧ b ≠ 185 ∧ b ≠ 221 := fun b hb => by
    have k := hoff b hb
    refine ⟨fun z hz => ?_, (k.1 (C, _) (.head _)).symm, (k.1 (185, tabObj ps) (.tail _ (List.mem_append_right _ (.head _)))).symm, k.2⟩
    have hz' : z ∈ (lexTl w a (lnOf ni 6) tt nd [] np T6.length tp na).map (·.1) := hz
    obtain ⟨q, hq, rfl⟩ := List.mem_map.mp hz'
    exact k.1 q (.tail _ (List.mem_append_left _ hq))
  have N7 : News g L h8 ((C, listOf cv.toArray nc) :: (lexTl w a (lnOf ni 6) tt nd [] np T6.length tp na ++ (pileTl w p k0 t0 nd2 nn2 [] ++ [(185, tabObj ps), (221, tabObj ps2)]))) := fun q hq => Ns7 q (by
    simp only [List.mem_append, List.mem_cons, List.not_mem_nil, or_false] at hq ⊢
    rcases hq with h | h | h | h | h <;> simp only [h, true_or, or_true])
  refine execs_app [lp.s12, lp.s13] _ (law_b7 Z L f a T6 ok (by omega) C cv nc bs RR hcv hbl hb3 rR tR (fun s hs => (okR s hs).1) p.f1 p.f2 (lnOf ni 6) tt nd np tp na _ ?hexa hCa ?hCe _ _ _ Fr7 N7 ?_)
  case hexa =>
    intro q hq
    simp only [List.mem_append, List.mem_cons, List.not_mem_nil, or_false] at hq
    rcases hq with hq | rfl | rfl
    · exact (pA _ (pile_adr q hq)).1
    · exact o4
    · exact o5
  case hCe =>
    intro q hq
    simp only [List.mem_append, List.mem_cons, List.not_mem_nil, or_false] at hq
    rcases hq with hq | rfl | rfl
    · exact (pA _ (pile_adr q hq)).2.1
    · exact c1
    · exact c2
  intro h9 tk8 rest8 BL lv nl ln8 tt8 nd8 np8 tp8 na8 Fr8 Ns8 hSL bA bE bC
  dsimp only
  have bP : ∀ b ∈ pileAdr p, b ≠ BL := fun b hb => by
    have hb' : b ∈ (pileTl w p k0 t0 nd2 nn2 []).map (·.1) := hb
    obtain ⟨q, hq, rfl⟩ := List.mem_map.mp hb'
    exact bE q (List.mem_append_left _ hq)
  have N8 : News g L h9 ((C, listOf cv.toArray nc) :: (pileTl w p k0 t0 nd2 nn2 [] ++ ((BL, listOf lv nl) :: (lexTl w a ln8 tt8 nd8 [] np8 T6.length tp8 na8 ++ [(185, tabObj ps), (221, tabObj ps2)])))) := fun q hq => Ns8 q (by
    simp only [List.mem_append, List.mem_cons, List.not_mem_nil, or_false] at hq ⊢
    rcases hq with h | h | h | h | h | h <;> simp only [h, true_or, or_true])
  refine execs_app [lp.s14, lp.s15] _ (law_b8 Z L f a p hY C BL cv nc bs RL hcv hbl hb3 rL tL (fun s hs => (okL s hs).1) k0 t0 nd2 nn2 _ ?hexp (fun b hb => (pA b hb).2.1) ?hCe2 _ _ _ Fr8 N8 ?_)
  case hexp =>
    intro q hq b hb
    simp only [List.mem_append, List.mem_cons, List.not_mem_nil, or_false] at hq
    rcases hq with rfl | hq | rfl | rfl
    · exact bP b hb
    · exact ((pA b hb).1 _ (lex_adr q hq)).symm
    · exact (pA b hb).2.2.1
    · exact (pA b hb).2.2.2
  case hCe2 =>
    intro q hq
    simp only [List.mem_append, List.mem_cons, List.not_mem_nil, or_false] at hq
    rcases hq with rfl | hq | rfl | rfl
    · exact bC
    · exact hCa _ (lex_adr q hq)
    · exact c1
    · exact c2
  intro h10 tk9 rest9 BP lp2 nl2 k9 t9 nd9 nn9 Fr9 Ns9 hSP pB pE pC
  dsimp only
  have N9 : News g L h10 ((BL, listOf lv.toList.toArray nl) :: (C, listOf cv.toArray nc) :: (lexTl w a ln8 tt8 nd8 [] np8 T6.length tp8 na8 ++ ((BP, listOf lp2 nl2) :: (pileTl w p k9 t9 nd9 nn9 [] ++ [(185, tabObj ps), (221, tabObj ps2)])))) := fun q hq => Ns9 q (by
    rw [Array.toArray_toList] at hq
    simp only [List.mem_append, List.mem_cons, List.not_mem_nil, or_false] at hq ⊢
    rcases hq with h | h | h | h | h | h | h <;> simp only [h, true_or, or_true])
  refine execs_app [lp.s16, lp.s17] _ (law_b9 Z L f a T6 ok (by omega) C BL BP cv lv.toList nc nl bs RR hcv hbl hb3 hSL lR (fun s hs => (okR s hs).2) (congrArg (fun x => x) bR) hbok p.f1 p.f2 ln8 tt8 nd8 np8 tp8 na8 _ ?hexa3 hCa ?hCe3 bA ?hBe3 bC _ _ _ Fr9 N9 ?_)
  case hexa3 =>
    intro q hq
    simp only [List.mem_append, List.mem_cons, List.not_mem_nil, or_false] at hq
    rcases hq with rfl | hq | rfl | rfl
    · exact fun b hb => by
        have hb' : b ∈ (lexTl w a ln8 tt8 nd8 [] np8 T6.length tp8 na8).map (·.1) := hb
        obtain ⟨q, hq, rfl⟩ := List.mem_map.mp hb'
        exact pE q (.tail _ (List.mem_append_left _ hq))
    · exact (pA _ (pile_adr q hq)).1
    · exact o4
    · exact o5
  case hCe3 =>
    intro q hq
    simp only [List.mem_append, List.mem_cons, List.not_mem_nil, or_false] at hq
    rcases hq with rfl | hq | rfl | rfl
    · exact pC
    · exact (pA _ (pile_adr q hq)).2.1
    · exact c1
    · exact c2
  case hBe3 =>
    intro q hq
    simp only [List.mem_append, List.mem_cons, List.not_mem_nil, or_false] at hq
    rcases hq with rfl | hq | rfl | rfl
    · exact (pE (BL, _) (.head _)).symm
    · exact bP _ (pile_adr q hq)
    · exact bE _ (List.mem_append_right _ (.head _))
    · exact bE _ (List.mem_append_right _ (.tail _ (.head _)))
  intro h11 tk10 rest10 Fr10 Ns10
  dsimp only
  have N10 : News g L h11 ((BP, listOf lp2.toList.toArray nl2) :: (C, listOf cv.toArray nc) :: (pileTl w p k9 t9 nd9 nn9 [] ++ [(185, tabObj ps), (221, tabObj ps2)])) := fun q hq => Ns10 q (by
    rw [Array.toArray_toList] at hq
    simp only [List.mem_append, List.mem_cons, List.not_mem_nil, or_false] at hq ⊢
    rcases hq with h | h | h | h | h <;> simp only [h, true_or, or_true])
  refine law_b10 Z L f p hY C BP cv lp2.toList nc nl2 bs RL hcv hbl hSP lL (fun s hs => (okL s hs).2) bL hbok k9 t9 nd9 nn9 _ ?hexp4 (fun b hb => (pA b hb).2.1) ?hCe4 pB ?hBe4 pC _ _ _ Fr10 N10 ?_
  case hexp4 =>
    intro q hq b hb
    simp only [List.mem_cons, List.not_mem_nil, or_false] at hq
    rcases hq with rfl | rfl
    · exact (pA b hb).2.2.1
    · exact (pA b hb).2.2.2
  case hCe4 =>
    intro q hq
    simp only [List.mem_cons, List.not_mem_nil, or_false] at hq
    rcases hq with rfl | rfl
    · exact c1
    · exact c2
  case hBe4 =>
    intro q hq
    simp only [List.mem_cons, List.not_mem_nil, or_false] at hq
    rcases hq with rfl | rfl
    · exact pE _ (.tail _ (List.mem_append_right _ (.head _)))
    · exact pE _ (.tail _ (List.mem_append_right _ (.tail _ (.head _))))
  intro h12 tk11 m11 Fr11 Ns11
  exact hq _ _ _ ps ps2 Fr11 Ns11
theorem news_sw2 {g h : Heap} {L : Addr} {p q : Addr × Obj} {r : List (Addr × Obj)} (N : News g L h (p :: q :: r)) : News g L h (q :: p :: r) := fun z hz => N z (by
  simp only [List.mem_cons] at hz ⊢
  rcases hz with h | h | h <;> simp only [h, true_or, or_true])
/-- how the law's body ends -/
def LawEnd (g : Heap) (L : Addr) (s : Shared) (f : Flow) (s' : Shared) : Prop := ∃ h' tk' m' ps ps2, f = .ret (.bool true) ∧ s' = { s with heap := h', toks := tk' } ∧ Fr g L h' m' ∧ News g L h' [(185, tabObj ps), (221, tabObj ps2)]
theorem law_runs (Z : At w dp un gd fr g loose mean mg mb) (L f sx : Addr) (sv : List Value) (script : List Int) (hs : g.IsList sx sv.toArray) (hI : IntsAre sv script) (hl : script.length ≤ 63) (w1 w2 : Obj) (hw1 : w1.data = .cell none) (hw2 : w2.data = .cell none)
    (s : Shared) (rest : Str → Option Value) (hsz : 185 < L ∧ 221 < L)
    (F : Fr g L s.heap (fm rest [("script", .ref sx)])) (N : News g L s.heap [(L + 1, w1), (L + 1 + 1, w2), (185, tabObj #[]), (221, tabObj #[])]) :
    wpAny (model P1 w) ((AR dp un gd fr).deeper (lawEnv L f)) (execs (bodyOf lawDef) (lawEnv L f)) (LawEnd g L s) (fun _ _ => False) s :=
  law_run Z L f sx sv script hs hI hl w1 w2 hw1 hw2 s rest _ hsz F N fun h' tk' m' ps ps2 F N => ⟨h', tk', m', ps, ps2, rfl, rfl, F, N⟩
end
end Mine

theorem PySem.Challenge.cw_tl0016_01_holds : PySem.Challenge.rw_tl0016_01.Holds := by
  w_on
  refine holds_law (by kernel_rfl) fun said => ?_
  refine PySem.W.holds_open (q := Mine.qv) (loose := Mine.loosev) (Xt := fun s => xlAt Mine.qv [] s && recOk (RowW.records PySem.Challenge.rw_tl0016_01.row.toRowW) s) (XP := XL Mine.qv []) (Yf := Mine.Hk.obs) (Ya := Mine.Hk.val) (YP := Mine.Hk.says) (N := 2652) Mine.left (Hook.of Mine.Hk) (Hook.keeps Mine.Hk) (fun s e => xl_of s (Bool.and_eq_true_iff.mp e).1) XL.keeps (by rfl) (by rfl) (by rfl) (fun s e => recFacts_of (Bool.and_eq_true_iff.mp e).2) (by rfl) said (by decide +kernel) ⟨rfl, rfl, rfl, rfl, rfl, by decide +kernel⟩ ?hw ?hc
  case hw => w_witness2
  case hc =>
    k_go0
    rename ¬ _ < _ => hlt
    rename IntsAre _ _ => hI
    rename Frag.In _ (ghostOf _ _) => X'
    rename Top _ _ _ _ _ (ghostOf _ _) => T'
    rename Below _ _ _ _ => K'
    rename Fr _ _ _ _ => F'
    rename News _ _ _ _ => N'
    rename Heap.IsList (ghostOf _ _) _ _ => lifted
    rename _ < _ ∧ _ < _ => l0
    refine' wpAny_mono (Mine.law_runs (dp := 1 + claimMargin) (un := 4) (gd := some []) (fr := []) ⟨K', X', T', by assumption, by assumption, by decide, by decide⟩ _ _ _ _ _ lifted hI (by omega) _ _ ?zR ?zL _ _ l0 (Mine.fr_norm [("script", _)] F' ?zE) (Mine.news_sw2 N')) ?zA (fun _ _ z => z.elim)
    case zR => exact Eq.trans (by assumption) rfl
    case zL => exact Eq.trans (by assumption) rfl
    case zE => exact List.forall_mem_cons.mpr ⟨rfl, List.forall_mem_nil _⟩
    case zA =>
      rintro f s' ⟨h', tk', m', ps, ps2, e1, e2, F, N⟩
      subst e1 e2
      refine ⟨?_, GrownAt.of N (.head _), GrownAt.of N (.tail _ (.head _)), trivial⟩
      k_end
      kc_close
end
