import PyProof.Rows.All
import Wide.All
import OpenK.AllK
import Wide.FinOn
import PyProof.IsiH_list
import KE.KSortKey
import KE.KListMore
import KE.KCat
import KE.KSorted
import KE.KxAdd
import KE.KFind
import KE.KAnyBase
import KE.KPop
import PySem.Challenge.RW_tl0016_02
set_option Elab.async false
set_option maxRecDepth 100000
set_option maxHeartbeats 8000000
set_option genSizeOf false
set_option genInjectivity false
open PySem PySem.W PyProof.Rows
noncomputable section
theorem Mine.le_up {n m k : Nat} (h : m ≤ k) (e : Nat.ble n m = true) : n ≤ k := Nat.le_trans (Nat.le_of_ble_eq_true e) h
theorem Mine.le_dn {n m k : Nat} (h : n ≤ m) (e : Nat.ble m k = true) : n ≤ k := Nat.le_trans h (Nat.le_of_ble_eq_true e)
example : True := by
  k_with_none
  k_with "o" => first | assumption | (apply Mine.le_up; assumption; exact rfl) | (apply Mine.le_dn; assumption; exact rfl) | lia | omega
  trivial

section
open PySem PySem.W PyProof.Rows PySem.Calls
namespace Mine
noncomputable section
noncomputable abbrev Pw : Program := PySem.Challenge.rw_tl0016_02.row.prog
noncomputable def fAt (i : Nat) : Stmt := (PySem.Challenge.pw_tl0016_02.main.body[i]?).getD (.Pass ⟨0, 0, 0, 0⟩)
noncomputable def mAt (i j : Nat) : Stmt := match fAt i with | .ClassDef _ _ _ b _ _ _ _ _ _ _ => (b[j]?).getD (.Pass ⟨0, 0, 0, 0⟩) | s => s
noncomputable def fP : Stmt → Arguments | .FunctionDef _ a _ _ _ _ _ _ _ _ => a | _ => ⟨[], [], none, [], [], none, []⟩
noncomputable def fB : Stmt → List Stmt | .FunctionDef _ _ b _ _ _ _ _ _ _ => b | _ => []
noncomputable def fS : Stmt → Scope | .FunctionDef _ _ _ _ _ _ s _ _ _ => s | _ => { kind := .function, names := [], isGenerator := false, isCoroutine := false }
noncomputable def Kf : Params → Frag := fun P =>
  (nat_lit 2, ⟨.none, none, .dict [].toArray 0, #[]⟩) ::
  (nat_lit 3, ⟨.type "dict", none, .dict [⟨PyData.keyHash P (.ofString "__name__"), .str (.ofString "__name__") 165, .str (.ofString "law_tl0016_02") 410⟩, ⟨PyData.keyHash P (.ofString "__doc__"), .str (.ofString "__doc__") 166, .none⟩, ⟨PyData.keyHash P (.ofString "__package__"), .str (.ofString "__package__") 167, .none⟩, ⟨PyData.keyHash P (.ofString "__loader__"), .str (.ofString "__loader__") 168, .builtin "__main__.__loader__#opaque"⟩, ⟨PyData.keyHash P (.ofString "__spec__"), .str (.ofString "__spec__") 169, .none⟩, ⟨PyData.keyHash P (.ofString "__annotations__"), .str (.ofString "__annotations__") 170, .ref 6⟩, ⟨PyData.keyHash P (.ofString "__builtins__"), .str (.ofString "__builtins__") 171, .ref 4⟩, ⟨PyData.keyHash P (.ofString "__file__"), .str (.ofString "__file__") 173, .str (.ofString "/claim/cut.py") 172⟩, ⟨PyData.keyHash P (.ofString "__cached__"), .str (.ofString "__cached__") 174, .none⟩, ⟨PyData.keyHash P (.ofString "_wall"), .str (.ofString "_wall") 193, .ref 21⟩, ⟨PyData.keyHash P (.ofString "insort_right"), .str (.ofString "insort_right") 208, .ref 30⟩, ⟨PyData.keyHash P (.ofString "bisect_right"), .str (.ofString "bisect_right") 222, .ref 39⟩, ⟨PyData.keyHash P (.ofString "insort_left"), .str (.ofString "insort_left") 235, .ref 48⟩, ⟨PyData.keyHash P (.ofString "bisect_left"), .str (.ofString "bisect_left") 249, .ref 57⟩, ⟨PyData.keyHash P (.ofString "EMPTYSTRING"), .str (.ofString "EMPTYSTRING") 253, .str (.ofString "") 252⟩, ⟨PyData.keyHash P (.ofString "_Accumulator"), .str (.ofString "_Accumulator") 349, .ref 137⟩, ⟨PyData.keyHash P (.ofString "_netrclex"), .str (.ofString "_netrclex") 409, .ref 179⟩, ⟨PyData.keyHash P (.ofString "_law_lexer"), .str (.ofString "_law_lexer") 422, .ref 190⟩, ⟨PyData.keyHash P (.ofString "_law_pieces"), .str (.ofString "_law_pieces") 434, .ref 197⟩, ⟨PyData.keyHash P (.ofString "_law_price"), .str (.ofString "_law_price") 441, .ref 204⟩, ⟨PyData.keyHash P (.ofString "_law_cheapest"), .str (.ofString "_law_cheapest") 447, .ref 209⟩, ⟨PyData.keyHash P (.ofString "_law_shortest"), .str (.ofString "_law_shortest") 453, .ref 214⟩, ⟨PyData.keyHash P (.ofString "law"), .str (.ofString "law") 459, .ref 219⟩].toArray 23, #[]⟩) ::
  (nat_lit 15, ⟨.type "tuple", none, .seq #[] 0, #[]⟩) ::
  (nat_lit 17, ⟨.type "tuple", none, .seq #[.str (.ofString "k") 190] 0, #[]⟩) ::
  (nat_lit 18, ⟨.type "tuple", none, .seq #[] 0, #[]⟩) ::
  (nat_lit 20, ⟨.type "code", none, .fields #[.str (.ofString "_wall") 187, .str (.ofString "_wall") 188, .str (.ofString "/claim/cut.py") 189, .int 1 0, .int 1 0, .int 0 0, .int 0 0, .int 3 0, .ref 15, .bool true, .int 181 0, .ref 16, .none, .ref 17, .ref 18, .ref 19, .int 191 0, .int 1 0, .str (.ofString "/claim/cut.py") 192], #[]⟩) ::
  (nat_lit 21, ⟨.type "function", none, .func ⟨(.ofString "_wall"), (.ofString "_wall"), fP (fAt 0), .stmts (fB (fAt 0)), fS (fAt 0), 3, [], .none, .none, .none, .str (.ofString "__main__") 164, none, .ref 20, .none, 0⟩, #[]⟩) ::
  (nat_lit 22, ⟨.type "tuple", none, .seq #[.int 0 196, .none] 0, #[]⟩) ::
  (nat_lit 23, ⟨.type "dict", none, .dict [⟨PyData.keyHash P (.ofString "key"), .str (.ofString "key") 197, .none⟩].toArray 1, #[]⟩) ::
  (nat_lit 24, ⟨.type "tuple", none, .seq #[] 0, #[]⟩) ::
  (nat_lit 26, ⟨.type "tuple", none, .seq #[.str (.ofString "a") 201, .str (.ofString "x") 202, .str (.ofString "lo") 203, .str (.ofString "hi") 204, .str (.ofString "key") 205] 0, #[]⟩) ::
  (nat_lit 27, ⟨.type "tuple", none, .seq #[] 0, #[]⟩) ::
  (nat_lit 29, ⟨.type "code", none, .fields #[.str (.ofString "insort_right") 198, .str (.ofString "insort_right") 199, .str (.ofString "/claim/cut.py") 200, .int 5 0, .int 4 0, .int 0 0, .int 1 0, .int 3 0, .ref 24, .bool true, .int 181 0, .ref 25, .none, .ref 26, .ref 27, .ref 28, .int 206 0, .int 5 0, .str (.ofString "/claim/cut.py") 207], #[]⟩) ::
  (nat_lit 30, ⟨.type "function", none, .func ⟨(.ofString "insort_right"), (.ofString "insort_right"), fP (fAt 2), .stmts (fB (fAt 2)), fS (fAt 2), 3, [], .ref 22, .ref 23, .none, .str (.ofString "cpy313.bisect") 194, none, .ref 29, .none, 0⟩, #[]⟩) ::
  (nat_lit 31, ⟨.type "tuple", none, .seq #[.int 0 209, .none] 0, #[]⟩) ::
  (nat_lit 32, ⟨.type "dict", none, .dict [⟨PyData.keyHash P (.ofString "key"), .str (.ofString "key") 210, .none⟩].toArray 1, #[]⟩) ::
  (nat_lit 33, ⟨.type "tuple", none, .seq #[] 0, #[]⟩) ::
  (nat_lit 35, ⟨.type "tuple", none, .seq #[.str (.ofString "a") 214, .str (.ofString "x") 215, .str (.ofString "lo") 216, .str (.ofString "hi") 217, .str (.ofString "key") 218, .str (.ofString "mid") 219] 0, #[]⟩) ::
  (nat_lit 36, ⟨.type "tuple", none, .seq #[] 0, #[]⟩) ::
  (nat_lit 38, ⟨.type "code", none, .fields #[.str (.ofString "bisect_right") 211, .str (.ofString "bisect_right") 212, .str (.ofString "/claim/cut.py") 213, .int 11 0, .int 4 0, .int 0 0, .int 1 0, .int 3 0, .ref 33, .bool true, .int 181 0, .ref 34, .none, .ref 35, .ref 36, .ref 37, .int 220 0, .int 11 0, .str (.ofString "/claim/cut.py") 221], #[]⟩) ::
  (nat_lit 39, ⟨.type "function", none, .func ⟨(.ofString "bisect_right"), (.ofString "bisect_right"), fP (fAt 3), .stmts (fB (fAt 3)), fS (fAt 3), 3, [], .ref 31, .ref 32, .none, .str (.ofString "cpy313.bisect") 194, none, .ref 38, .none, 0⟩, #[]⟩) ::
  (nat_lit 40, ⟨.type "tuple", none, .seq #[.int 0 223, .none] 0, #[]⟩) ::
  (nat_lit 41, ⟨.type "dict", none, .dict [⟨PyData.keyHash P (.ofString "key"), .str (.ofString "key") 224, .none⟩].toArray 1, #[]⟩) ::
  (nat_lit 42, ⟨.type "tuple", none, .seq #[] 0, #[]⟩) ::
  (nat_lit 44, ⟨.type "tuple", none, .seq #[.str (.ofString "a") 228, .str (.ofString "x") 229, .str (.ofString "lo") 230, .str (.ofString "hi") 231, .str (.ofString "key") 232] 0, #[]⟩) ::
  (nat_lit 45, ⟨.type "tuple", none, .seq #[] 0, #[]⟩) ::
  (nat_lit 47, ⟨.type "code", none, .fields #[.str (.ofString "insort_left") 225, .str (.ofString "insort_left") 226, .str (.ofString "/claim/cut.py") 227, .int 31 0, .int 4 0, .int 0 0, .int 1 0, .int 3 0, .ref 42, .bool true, .int 181 0, .ref 43, .none, .ref 44, .ref 45, .ref 46, .int 233 0, .int 31 0, .str (.ofString "/claim/cut.py") 234], #[]⟩) ::
  (nat_lit 48, ⟨.type "function", none, .func ⟨(.ofString "insort_left"), (.ofString "insort_left"), fP (fAt 4), .stmts (fB (fAt 4)), fS (fAt 4), 3, [], .ref 40, .ref 41, .none, .str (.ofString "cpy313.bisect") 194, none, .ref 47, .none, 0⟩, #[]⟩) ::
  (nat_lit 49, ⟨.type "tuple", none, .seq #[.int 0 236, .none] 0, #[]⟩) ::
  (nat_lit 50, ⟨.type "dict", none, .dict [⟨PyData.keyHash P (.ofString "key"), .str (.ofString "key") 237, .none⟩].toArray 1, #[]⟩) ::
  (nat_lit 51, ⟨.type "tuple", none, .seq #[] 0, #[]⟩) ::
  (nat_lit 53, ⟨.type "tuple", none, .seq #[.str (.ofString "a") 241, .str (.ofString "x") 242, .str (.ofString "lo") 243, .str (.ofString "hi") 244, .str (.ofString "key") 245, .str (.ofString "mid") 246] 0, #[]⟩) ::
  (nat_lit 54, ⟨.type "tuple", none, .seq #[] 0, #[]⟩) ::
  (nat_lit 56, ⟨.type "code", none, .fields #[.str (.ofString "bisect_left") 238, .str (.ofString "bisect_left") 239, .str (.ofString "/claim/cut.py") 240, .int 37 0, .int 4 0, .int 0 0, .int 1 0, .int 3 0, .ref 51, .bool true, .int 181 0, .ref 52, .none, .ref 53, .ref 54, .ref 55, .int 247 0, .int 37 0, .str (.ofString "/claim/cut.py") 248], #[]⟩) ::
  (nat_lit 57, ⟨.type "function", none, .func ⟨(.ofString "bisect_left"), (.ofString "bisect_left"), fP (fAt 5), .stmts (fB (fAt 5)), fS (fAt 5), 3, [], .ref 49, .ref 50, .none, .str (.ofString "cpy313.bisect") 194, none, .ref 56, .none, 0⟩, #[]⟩) ::
  (nat_lit 58, ⟨.type "tuple", none, .seq #[.type "list"] 0, #[]⟩) ::
  (nat_lit 61, ⟨.type "cell", none, .cell (some (.ref 137)), #[]⟩) ::
  (nat_lit 66, ⟨.type "tuple", none, .seq #[.int 0 266] 0, #[]⟩) ::
  (nat_lit 67, ⟨.type "tuple", none, .seq #[.ref 61] 0, #[]⟩) ::
  (nat_lit 68, ⟨.type "tuple", none, .seq #[.str (.ofString "__class__") 270] 0, #[]⟩) ::
  (nat_lit 70, ⟨.type "tuple", none, .seq #[.str (.ofString "self") 271, .str (.ofString "initial_size") 272] 0, #[]⟩) ::
  (nat_lit 71, ⟨.type "tuple", none, .seq #[] 0, #[]⟩) ::
  (nat_lit 73, ⟨.type "code", none, .fields #[.str (.ofString "__init__") 267, .str (.ofString "_Accumulator.__init__") 268, .str (.ofString "/claim/cut.py") 269, .int 61 0, .int 2 0, .int 0 0, .int 0 0, .int 3 0, .ref 68, .bool true, .int 181 0, .ref 69, .none, .ref 70, .ref 71, .ref 72, .int 273 0, .int 61 0, .str (.ofString "/claim/cut.py") 274], #[]⟩) ::
  (nat_lit 74, ⟨.type "function", none, .func ⟨(.ofString "__init__"), (.ofString "_Accumulator.__init__"), fP (mAt 8 0), .stmts (fB (mAt 8 0)), fS (mAt 8 0), 3, [((.ofString "__class__"), 61)], .ref 66, .none, .none, .str (.ofString "cpy313.email.header") 250, none, .ref 73, .ref 67, 0⟩, #[]⟩) ::
  (nat_lit 75, ⟨.type "tuple", none, .seq #[] 0, #[]⟩) ::
  (nat_lit 77, ⟨.type "tuple", none, .seq #[.str (.ofString "self") 279, .str (.ofString "fws") 280, .str (.ofString "string") 281] 0, #[]⟩) ::
  (nat_lit 78, ⟨.type "tuple", none, .seq #[] 0, #[]⟩) ::
  (nat_lit 80, ⟨.type "code", none, .fields #[.str (.ofString "push") 276, .str (.ofString "_Accumulator.push") 277, .str (.ofString "/claim/cut.py") 278, .int 65 0, .int 3 0, .int 0 0, .int 0 0, .int 3 0, .ref 75, .bool true, .int 181 0, .ref 76, .none, .ref 77, .ref 78, .ref 79, .int 282 0, .int 65 0, .str (.ofString "/claim/cut.py") 283], #[]⟩) ::
  (nat_lit 81, ⟨.type "function", none, .func ⟨(.ofString "push"), (.ofString "_Accumulator.push"), fP (mAt 8 1), .stmts (fB (mAt 8 1)), fS (mAt 8 1), 3, [], .none, .none, .none, .str (.ofString "cpy313.email.header") 250, none, .ref 80, .none, 0⟩, #[]⟩) ::
  (nat_lit 82, ⟨.type "tuple", none, .seq #[.int 0 285] 0, #[]⟩) ::
  (nat_lit 83, ⟨.type "tuple", none, .seq #[] 0, #[]⟩) ::
  (nat_lit 85, ⟨.type "tuple", none, .seq #[.str (.ofString "self") 289, .str (.ofString "i") 290, .str (.ofString "popped") 291] 0, #[]⟩) ::
  (nat_lit 86, ⟨.type "tuple", none, .seq #[] 0, #[]⟩) ::
  (nat_lit 88, ⟨.type "code", none, .fields #[.str (.ofString "pop_from") 286, .str (.ofString "_Accumulator.pop_from") 287, .str (.ofString "/claim/cut.py") 288, .int 68 0, .int 2 0, .int 0 0, .int 0 0, .int 3 0, .ref 83, .bool true, .int 181 0, .ref 84, .none, .ref 85, .ref 86, .ref 87, .int 292 0, .int 68 0, .str (.ofString "/claim/cut.py") 293], #[]⟩) ::
  (nat_lit 89, ⟨.type "function", none, .func ⟨(.ofString "pop_from"), (.ofString "_Accumulator.pop_from"), fP (mAt 8 2), .stmts (fB (mAt 8 2)), fS (mAt 8 2), 3, [], .ref 82, .none, .none, .str (.ofString "cpy313.email.header") 250, none, .ref 88, .none, 0⟩, #[]⟩) ::
  (nat_lit 90, ⟨.type "tuple", none, .seq #[.ref 61] 0, #[]⟩) ::
  (nat_lit 91, ⟨.type "tuple", none, .seq #[.str (.ofString "__class__") 298] 0, #[]⟩) ::
  (nat_lit 93, ⟨.type "tuple", none, .seq #[.str (.ofString "self") 299] 0, #[]⟩) ::
  (nat_lit 94, ⟨.type "tuple", none, .seq #[] 0, #[]⟩) ::
  (nat_lit 96, ⟨.type "code", none, .fields #[.str (.ofString "pop") 295, .str (.ofString "_Accumulator.pop") 296, .str (.ofString "/claim/cut.py") 297, .int 73 0, .int 1 0, .int 0 0, .int 0 0, .int 3 0, .ref 91, .bool true, .int 181 0, .ref 92, .none, .ref 93, .ref 94, .ref 95, .int 300 0, .int 73 0, .str (.ofString "/claim/cut.py") 301], #[]⟩) ::
  (nat_lit 97, ⟨.type "function", none, .func ⟨(.ofString "pop"), (.ofString "_Accumulator.pop"), fP (mAt 8 3), .stmts (fB (mAt 8 3)), fS (mAt 8 3), 3, [((.ofString "__class__"), 61)], .none, .none, .none, .str (.ofString "cpy313.email.header") 250, none, .ref 96, .ref 90, 0⟩, #[]⟩) ::
  (nat_lit 98, ⟨.type "tuple", none, .seq #[] 0, #[]⟩) ::
  (nat_lit 100, ⟨.type "tuple", none, .seq #[.str (.ofString "self") 306] 0, #[]⟩) ::
  (nat_lit 101, ⟨.type "tuple", none, .seq #[] 0, #[]⟩) ::
  (nat_lit 103, ⟨.type "code", none, .fields #[.str (.ofString "__len__") 303, .str (.ofString "_Accumulator.__len__") 304, .str (.ofString "/claim/cut.py") 305, .int 78 0, .int 1 0, .int 0 0, .int 0 0, .int 3 0, .ref 98, .bool true, .int 181 0, .ref 99, .none, .ref 100, .ref 101, .ref 102, .int 307 0, .int 78 0, .str (.ofString "/claim/cut.py") 308], #[]⟩) ::
  (nat_lit 104, ⟨.type "function", none, .func ⟨(.ofString "__len__"), (.ofString "_Accumulator.__len__"), fP (mAt 8 4), .stmts (fB (mAt 8 4)), fS (mAt 8 4), 3, [], .none, .none, .none, .str (.ofString "cpy313.email.header") 250, none, .ref 103, .none, 0⟩, #[]⟩) ::
  (nat_lit 105, ⟨.type "tuple", none, .seq #[] 0, #[]⟩) ::
  (nat_lit 107, ⟨.type "tuple", none, .seq #[.str (.ofString "self") 313] 0, #[]⟩) ::
  (nat_lit 108, ⟨.type "tuple", none, .seq #[] 0, #[]⟩) ::
  (nat_lit 110, ⟨.type "code", none, .fields #[.str (.ofString "__str__") 310, .str (.ofString "_Accumulator.__str__") 311, .str (.ofString "/claim/cut.py") 312, .int 81 0, .int 1 0, .int 0 0, .int 0 0, .int 3 0, .ref 105, .bool true, .int 181 0, .ref 106, .none, .ref 107, .ref 108, .ref 109, .int 314 0, .int 81 0, .str (.ofString "/claim/cut.py") 315], #[]⟩) ::
  (nat_lit 111, ⟨.type "function", none, .func ⟨(.ofString "__str__"), (.ofString "_Accumulator.__str__"), fP (mAt 8 5), .stmts (fB (mAt 8 5)), fS (mAt 8 5), 3, [], .none, .none, .none, .str (.ofString "cpy313.email.header") 250, none, .ref 110, .none, 0⟩, #[]⟩) ::
  (nat_lit 112, ⟨.type "tuple", none, .seq #[.none] 0, #[]⟩) ::
  (nat_lit 113, ⟨.type "tuple", none, .seq #[] 0, #[]⟩) ::
  (nat_lit 115, ⟨.type "tuple", none, .seq #[.str (.ofString "self") 320, .str (.ofString "startval") 321] 0, #[]⟩) ::
  (nat_lit 116, ⟨.type "tuple", none, .seq #[] 0, #[]⟩) ::
  (nat_lit 118, ⟨.type "code", none, .fields #[.str (.ofString "reset") 317, .str (.ofString "_Accumulator.reset") 318, .str (.ofString "/claim/cut.py") 319, .int 84 0, .int 2 0, .int 0 0, .int 0 0, .int 3 0, .ref 113, .bool true, .int 181 0, .ref 114, .none, .ref 115, .ref 116, .ref 117, .int 322 0, .int 84 0, .str (.ofString "/claim/cut.py") 323], #[]⟩) ::
  (nat_lit 119, ⟨.type "function", none, .func ⟨(.ofString "reset"), (.ofString "_Accumulator.reset"), fP (mAt 8 6), .stmts (fB (mAt 8 6)), fS (mAt 8 6), 3, [], .ref 112, .none, .none, .str (.ofString "cpy313.email.header") 250, none, .ref 118, .none, 0⟩, #[]⟩) ::
  (nat_lit 120, ⟨.type "tuple", none, .seq #[] 0, #[]⟩) ::
  (nat_lit 122, ⟨.type "tuple", none, .seq #[.str (.ofString "self") 328] 0, #[]⟩) ::
  (nat_lit 123, ⟨.type "tuple", none, .seq #[] 0, #[]⟩) ::
  (nat_lit 125, ⟨.type "code", none, .fields #[.str (.ofString "is_onlyws") 325, .str (.ofString "_Accumulator.is_onlyws") 326, .str (.ofString "/claim/cut.py") 327, .int 87 0, .int 1 0, .int 0 0, .int 0 0, .int 3 0, .ref 120, .bool true, .int 181 0, .ref 121, .none, .ref 122, .ref 123, .ref 124, .int 329 0, .int 87 0, .str (.ofString "/claim/cut.py") 330], #[]⟩) ::
  (nat_lit 126, ⟨.type "function", none, .func ⟨(.ofString "is_onlyws"), (.ofString "_Accumulator.is_onlyws"), fP (mAt 8 7), .stmts (fB (mAt 8 7)), fS (mAt 8 7), 3, [], .none, .none, .none, .str (.ofString "cpy313.email.header") 250, none, .ref 125, .none, 0⟩, #[]⟩) ::
  (nat_lit 127, ⟨.type "tuple", none, .seq #[.ref 61] 0, #[]⟩) ::
  (nat_lit 128, ⟨.type "tuple", none, .seq #[.str (.ofString "__class__") 335] 0, #[]⟩) ::
  (nat_lit 130, ⟨.type "tuple", none, .seq #[.str (.ofString "self") 336] 0, #[]⟩) ::
  (nat_lit 131, ⟨.type "tuple", none, .seq #[] 0, #[]⟩) ::
  (nat_lit 133, ⟨.type "code", none, .fields #[.str (.ofString "part_count") 332, .str (.ofString "_Accumulator.part_count") 333, .str (.ofString "/claim/cut.py") 334, .int 90 0, .int 1 0, .int 0 0, .int 0 0, .int 3 0, .ref 128, .bool true, .int 181 0, .ref 129, .none, .ref 130, .ref 131, .ref 132, .int 337 0, .int 90 0, .str (.ofString "/claim/cut.py") 338], #[]⟩) ::
  (nat_lit 134, ⟨.type "function", none, .func ⟨(.ofString "part_count"), (.ofString "_Accumulator.part_count"), fP (mAt 8 8), .stmts (fB (mAt 8 8)), fS (mAt 8 8), 3, [((.ofString "__class__"), 61)], .none, .none, .none, .str (.ofString "cpy313.email.header") 250, none, .ref 133, .ref 127, 0⟩, #[]⟩) ::
  (nat_lit 135, ⟨.type "tuple", none, .seq #[.str (.ofString "_initial_size") 340] 0, #[]⟩) ::
  (nat_lit 136, ⟨.type "dict", none, .dict [⟨PyData.keyHash P (.ofString "__module__"), .str (.ofString "__module__") 261, .str (.ofString "cpy313.email.header") 250⟩, ⟨PyData.keyHash P (.ofString "__firstlineno__"), .str (.ofString "__firstlineno__") 265, .int 59 264⟩, ⟨PyData.keyHash P (.ofString "__init__"), .str (.ofString "__init__") 275, .ref 74⟩, ⟨PyData.keyHash P (.ofString "push"), .str (.ofString "push") 284, .ref 81⟩, ⟨PyData.keyHash P (.ofString "pop_from"), .str (.ofString "pop_from") 294, .ref 89⟩, ⟨PyData.keyHash P (.ofString "pop"), .str (.ofString "pop") 302, .ref 97⟩, ⟨PyData.keyHash P (.ofString "__len__"), .str (.ofString "__len__") 309, .ref 104⟩, ⟨PyData.keyHash P (.ofString "__str__"), .str (.ofString "__str__") 316, .ref 111⟩, ⟨PyData.keyHash P (.ofString "reset"), .str (.ofString "reset") 324, .ref 119⟩, ⟨PyData.keyHash P (.ofString "is_onlyws"), .str (.ofString "is_onlyws") 331, .ref 126⟩, ⟨PyData.keyHash P (.ofString "part_count"), .str (.ofString "part_count") 339, .ref 134⟩, ⟨PyData.keyHash P (.ofString "__static_attributes__"), .str (.ofString "__static_attributes__") 341, .ref 135⟩, ⟨PyData.keyHash P (.ofString "__dict__"), .str (.ofString "__dict__") 344, .ref 138⟩, ⟨PyData.keyHash P (.ofString "__weakref__"), .str (.ofString "__weakref__") 346, .ref 139⟩, ⟨PyData.keyHash P (.ofString "__doc__"), .str (.ofString "__doc__") 347, .none⟩].toArray 5, #[]⟩) ::
  (nat_lit 137, ⟨.type "type", none, .cls ⟨(.ofString "_Accumulator"), [.type "list"], [.ref 137, .type "list", .type "object"], 136, (.ofString "_Accumulator"), true, [], [], false, none, false⟩, #[(some (.ref 58)), none, (some (.str (.ofString "_Accumulator") 254)), (some (.str (.ofString "_Accumulator") 262)), (some (.builtin "list.__new__")), (some (.bool true))]⟩) ::
  (nat_lit 138, ⟨.type "getset_descriptor", none, .fields #[.str (.ofString "__dict__") 343, .ref 137, .builtin "function.__dict__", .builtin "function.__dict__#set"], #[]⟩) ::
  (nat_lit 139, ⟨.type "getset_descriptor", none, .fields #[.str (.ofString "__weakref__") 345, .ref 137, .builtin "ExceptionGroup.__weakref__", .none], #[]⟩) ::
  (nat_lit 149, ⟨.type "tuple", none, .seq #[] 0, #[]⟩) ::
  (nat_lit 151, ⟨.type "tuple", none, .seq #[.str (.ofString "self") 367, .str (.ofString "fp") 368] 0, #[]⟩) ::
  (nat_lit 152, ⟨.type "tuple", none, .seq #[] 0, #[]⟩) ::
  (nat_lit 154, ⟨.type "code", none, .fields #[.str (.ofString "__init__") 364, .str (.ofString "_netrclex.__init__") 365, .str (.ofString "/claim/cut.py") 366, .int 95 0, .int 2 0, .int 0 0, .int 0 0, .int 3 0, .ref 149, .bool true, .int 181 0, .ref 150, .none, .ref 151, .ref 152, .ref 153, .int 369 0, .int 95 0, .str (.ofString "/claim/cut.py") 370], #[]⟩) ::
  (nat_lit 155, ⟨.type "function", none, .func ⟨(.ofString "__init__"), (.ofString "_netrclex.__init__"), fP (mAt 10 0), .stmts (fB (mAt 10 0)), fS (mAt 10 0), 3, [], .none, .none, .none, .str (.ofString "cpy313.netrc") 350, none, .ref 154, .none, 0⟩, #[]⟩) ::
  (nat_lit 156, ⟨.type "tuple", none, .seq #[] 0, #[]⟩) ::
  (nat_lit 158, ⟨.type "tuple", none, .seq #[.str (.ofString "self") 375, .str (.ofString "ch") 376] 0, #[]⟩) ::
  (nat_lit 159, ⟨.type "tuple", none, .seq #[] 0, #[]⟩) ::
  (nat_lit 161, ⟨.type "code", none, .fields #[.str (.ofString "_read_char") 372, .str (.ofString "_netrclex._read_char") 373, .str (.ofString "/claim/cut.py") 374, .int 101 0, .int 1 0, .int 0 0, .int 0 0, .int 3 0, .ref 156, .bool true, .int 181 0, .ref 157, .none, .ref 158, .ref 159, .ref 160, .int 377 0, .int 101 0, .str (.ofString "/claim/cut.py") 378], #[]⟩) ::
  (nat_lit 162, ⟨.type "function", none, .func ⟨(.ofString "_read_char"), (.ofString "_netrclex._read_char"), fP (mAt 10 1), .stmts (fB (mAt 10 1)), fS (mAt 10 1), 3, [], .none, .none, .none, .str (.ofString "cpy313.netrc") 350, none, .ref 161, .none, 0⟩, #[]⟩) ::
  (nat_lit 163, ⟨.type "tuple", none, .seq #[] 0, #[]⟩) ::
  (nat_lit 165, ⟨.type "tuple", none, .seq #[.str (.ofString "self") 383, .str (.ofString "token") 384, .str (.ofString "fiter") 385, .str (.ofString "ch") 386] 0, #[]⟩) ::
  (nat_lit 166, ⟨.type "tuple", none, .seq #[] 0, #[]⟩) ::
  (nat_lit 168, ⟨.type "code", none, .fields #[.str (.ofString "get_token") 380, .str (.ofString "_netrclex.get_token") 381, .str (.ofString "/claim/cut.py") 382, .int 107 0, .int 1 0, .int 0 0, .int 0 0, .int 3 0, .ref 163, .bool true, .int 181 0, .ref 164, .none, .ref 165, .ref 166, .ref 167, .int 387 0, .int 107 0, .str (.ofString "/claim/cut.py") 388], #[]⟩) ::
  (nat_lit 169, ⟨.type "function", none, .func ⟨(.ofString "get_token"), (.ofString "_netrclex.get_token"), fP (mAt 10 2), .stmts (fB (mAt 10 2)), fS (mAt 10 2), 3, [], .none, .none, .none, .str (.ofString "cpy313.netrc") 350, none, .ref 168, .none, 0⟩, #[]⟩) ::
  (nat_lit 170, ⟨.type "tuple", none, .seq #[] 0, #[]⟩) ::
  (nat_lit 172, ⟨.type "tuple", none, .seq #[.str (.ofString "self") 393, .str (.ofString "token") 394] 0, #[]⟩) ::
  (nat_lit 173, ⟨.type "tuple", none, .seq #[] 0, #[]⟩) ::
  (nat_lit 175, ⟨.type "code", none, .fields #[.str (.ofString "push_token") 390, .str (.ofString "_netrclex.push_token") 391, .str (.ofString "/claim/cut.py") 392, .int 134 0, .int 2 0, .int 0 0, .int 0 0, .int 3 0, .ref 170, .bool true, .int 181 0, .ref 171, .none, .ref 172, .ref 173, .ref 174, .int 395 0, .int 134 0, .str (.ofString "/claim/cut.py") 396], #[]⟩) ::
  (nat_lit 176, ⟨.type "function", none, .func ⟨(.ofString "push_token"), (.ofString "_netrclex.push_token"), fP (mAt 10 3), .stmts (fB (mAt 10 3)), fS (mAt 10 3), 3, [], .none, .none, .none, .str (.ofString "cpy313.netrc") 350, none, .ref 175, .none, 0⟩, #[]⟩) ::
  (nat_lit 177, ⟨.type "tuple", none, .seq #[.str (.ofString "instream") 398, .str (.ofString "lineno") 399, .str (.ofString "pushback") 400, .str (.ofString "whitespace") 401] 0, #[]⟩) ::
  (nat_lit 178, ⟨.type "dict", none, .dict [⟨PyData.keyHash P (.ofString "__module__"), .str (.ofString "__module__") 359, .str (.ofString "cpy313.netrc") 350⟩, ⟨PyData.keyHash P (.ofString "__firstlineno__"), .str (.ofString "__firstlineno__") 363, .int 93 362⟩, ⟨PyData.keyHash P (.ofString "__init__"), .str (.ofString "__init__") 371, .ref 155⟩, ⟨PyData.keyHash P (.ofString "_read_char"), .str (.ofString "_read_char") 379, .ref 162⟩, ⟨PyData.keyHash P (.ofString "get_token"), .str (.ofString "get_token") 389, .ref 169⟩, ⟨PyData.keyHash P (.ofString "push_token"), .str (.ofString "push_token") 397, .ref 176⟩, ⟨PyData.keyHash P (.ofString "__static_attributes__"), .str (.ofString "__static_attributes__") 402, .ref 177⟩, ⟨PyData.keyHash P (.ofString "__dict__"), .str (.ofString "__dict__") 404, .ref 180⟩, ⟨PyData.keyHash P (.ofString "__weakref__"), .str (.ofString "__weakref__") 406, .ref 181⟩, ⟨PyData.keyHash P (.ofString "__doc__"), .str (.ofString "__doc__") 407, .none⟩].toArray 4, #[]⟩) ::
  (nat_lit 179, ⟨.type "type", none, .cls ⟨(.ofString "_netrclex"), [.type "object"], [.ref 179, .type "object"], 178, (.ofString "_netrclex"), true, [], [], false, none, false⟩, #[none, none, (some (.str (.ofString "_netrclex") 352)), (some (.str (.ofString "_netrclex") 360)), (some (.builtin "object.__new__")), (some (.bool true))]⟩) ::
  (nat_lit 180, ⟨.type "getset_descriptor", none, .fields #[.str (.ofString "__dict__") 403, .ref 179, .builtin "function.__dict__", .builtin "function.__dict__#set"], #[]⟩) ::
  (nat_lit 181, ⟨.type "getset_descriptor", none, .fields #[.str (.ofString "__weakref__") 405, .ref 179, .builtin "ExceptionGroup.__weakref__", .none], #[]⟩) ::
  (nat_lit 184, ⟨.type "tuple", none, .seq #[] 0, #[]⟩) ::
  (nat_lit 186, ⟨.type "tuple", none, .seq #[.str (.ofString "text") 415, .str (.ofString "read") 416, .str (.ofString "stream") 417] 0, #[]⟩) ::
  (nat_lit 187, ⟨.type "tuple", none, .seq #[.str (.ofString "text") 418, .str (.ofString "at") 419] 0, #[]⟩) ::
  (nat_lit 189, ⟨.type "code", none, .fields #[.str (.ofString "_law_lexer") 412, .str (.ofString "_law_lexer") 413, .str (.ofString "/claim/cut.py") 414, .int 137 0, .int 1 0, .int 0 0, .int 0 0, .int 3 0, .ref 184, .bool true, .int 181 0, .ref 185, .none, .ref 186, .ref 187, .ref 188, .int 420 0, .int 137 0, .str (.ofString "/claim/cut.py") 421], #[]⟩) ::
  (nat_lit 190, ⟨.type "function", none, .func ⟨(.ofString "_law_lexer"), (.ofString "_law_lexer"), fP (fAt 12), .stmts (fB (fAt 12)), fS (fAt 12), 3, [], .none, .none, .none, .str (.ofString "law_tl0016_02") 410, none, .ref 189, .none, 0⟩, #[]⟩) ::
  (nat_lit 191, ⟨.type "tuple", none, .seq #[] 0, #[]⟩) ::
  (nat_lit 193, ⟨.type "tuple", none, .seq #[.str (.ofString "numbers") 426, .str (.ofString "names") 427, .str (.ofString "pieces") 428, .str (.ofString "k") 429, .str (.ofString "white") 430, .str (.ofString "word") 431] 0, #[]⟩) ::
  (nat_lit 194, ⟨.type "tuple", none, .seq #[] 0, #[]⟩) ::
  (nat_lit 196, ⟨.type "code", none, .fields #[.str (.ofString "_law_pieces") 423, .str (.ofString "_law_pieces") 424, .str (.ofString "/claim/cut.py") 425, .int 147 0, .int 2 0, .int 0 0, .int 0 0, .int 3 0, .ref 191, .bool true, .int 181 0, .ref 192, .none, .ref 193, .ref 194, .ref 195, .int 432 0, .int 147 0, .str (.ofString "/claim/cut.py") 433], #[]⟩) ::
  (nat_lit 197, ⟨.type "function", none, .func ⟨(.ofString "_law_pieces"), (.ofString "_law_pieces"), fP (fAt 13), .stmts (fB (fAt 13)), fS (fAt 13), 3, [], .none, .none, .none, .str (.ofString "law_tl0016_02") 410, none, .ref 196, .none, 0⟩, #[]⟩) ::
  (nat_lit 198, ⟨.type "tuple", none, .seq #[] 0, #[]⟩) ::
  (nat_lit 200, ⟨.type "tuple", none, .seq #[.str (.ofString "parcel") 438] 0, #[]⟩) ::
  (nat_lit 201, ⟨.type "tuple", none, .seq #[] 0, #[]⟩) ::
  (nat_lit 203, ⟨.type "code", none, .fields #[.str (.ofString "_law_price") 435, .str (.ofString "_law_price") 436, .str (.ofString "/claim/cut.py") 437, .int 156 0, .int 1 0, .int 0 0, .int 0 0, .int 3 0, .ref 198, .bool true, .int 181 0, .ref 199, .none, .ref 200, .ref 201, .ref 202, .int 439 0, .int 156 0, .str (.ofString "/claim/cut.py") 440], #[]⟩) ::
  (nat_lit 204, ⟨.type "function", none, .func ⟨(.ofString "_law_price"), (.ofString "_law_price"), fP (fAt 14), .stmts (fB (fAt 14)), fS (fAt 14), 3, [], .none, .none, .none, .str (.ofString "law_tl0016_02") 410, none, .ref 203, .none, 0⟩, #[]⟩) ::
  (nat_lit 205, ⟨.type "tuple", none, .seq #[] 0, #[]⟩) ::
  (nat_lit 208, ⟨.type "code", none, .fields #[.str (.ofString "_law_cheapest") 442, .str (.ofString "_law_cheapest") 443, .str (.ofString "/claim/cut.py") 444, .int 158 0, .int 1 0, .int 0 0, .int 0 0, .int 3 0, .ref 205, .bool true, .int 181 0, .ref 206, .none, .none, .none, .ref 207, .int 445 0, .int 158 0, .str (.ofString "/claim/cut.py") 446], #[]⟩) ::
  (nat_lit 209, ⟨.type "function", none, .func ⟨(.ofString "_law_cheapest"), (.ofString "_law_cheapest"), fP (fAt 15), .stmts (fB (fAt 15)), fS (fAt 15), 3, [], .none, .none, .none, .str (.ofString "law_tl0016_02") 410, none, .ref 208, .none, 0⟩, #[]⟩) ::
  (nat_lit 210, ⟨.type "tuple", none, .seq #[] 0, #[]⟩) ::
  (nat_lit 213, ⟨.type "code", none, .fields #[.str (.ofString "_law_shortest") 448, .str (.ofString "_law_shortest") 449, .str (.ofString "/claim/cut.py") 450, .int 165 0, .int 1 0, .int 0 0, .int 0 0, .int 3 0, .ref 210, .bool true, .int 181 0, .ref 211, .none, .none, .none, .ref 212, .int 451 0, .int 165 0, .str (.ofString "/claim/cut.py") 452], #[]⟩) ::
  (nat_lit 214, ⟨.type "function", none, .func ⟨(.ofString "_law_shortest"), (.ofString "_law_shortest"), fP (fAt 16), .stmts (fB (fAt 16)), fS (fAt 16), 3, [], .none, .none, .none, .str (.ofString "law_tl0016_02") 410, none, .ref 213, .none, 0⟩, #[]⟩) ::
  (nat_lit 215, ⟨.type "tuple", none, .seq #[] 0, #[]⟩) ::
  (nat_lit 218, ⟨.type "code", none, .fields #[.str (.ofString "law") 454, .str (.ofString "law") 455, .str (.ofString "/claim/cut.py") 456, .int 170 0, .int 1 0, .int 0 0, .int 0 0, .int 3 0, .ref 215, .bool true, .int 181 0, .ref 216, .none, .none, .none, .ref 217, .int 457 0, .int 170 0, .str (.ofString "/claim/cut.py") 458], #[]⟩) ::
  (nat_lit 219, ⟨.type "function", none, .func ⟨(.ofString "law"), (.ofString "law"), fP (fAt 17), .stmts (fB (fAt 17)), fS (fAt 17), 3, [], .none, .none, .none, .str (.ofString "law_tl0016_02") 410, none, .ref 218, .none, 0⟩, #[]⟩) :: []
noncomputable def qv : Program := { PySem.Challenge.pw_tl0016_02 with main := { PySem.Challenge.pw_tl0016_02.main with body := [fAt 0, fAt 7, fAt 8, fAt 10, fAt 12, fAt 13, fAt 14, fAt 15, fAt 16, fAt 17] } }
end
noncomputable abbrev loosev : List Str := ["insort_right", "bisect_right", "insort_left", "bisect_left", "_Accumulator"]
theorem as_ok : ∀ P : Params, (2 :: 3 :: 15 :: 17 :: 18 :: 20 :: 21 :: 22 :: 23 :: 24 :: 26 :: 27 :: 29 :: 30 :: 31 :: 32 :: 33 :: 35 :: 36 :: 38 :: 39 :: 40 :: 41 :: 42 :: 44 :: 45 :: 47 :: 48 :: 49 :: 50 :: 51 :: 53 :: 54 :: 56 :: 57 :: 58 :: 61 :: 66 :: 67 :: 68 :: 70 :: 71 :: 73 :: 74 :: 75 :: 77 :: 78 :: 80 :: 81 :: 82 :: 83 :: 85 :: 86 :: 88 :: 89 :: 90 :: 91 :: 93 :: 94 :: 96 :: 97 :: 98 :: 100 :: 101 :: 103 :: 104 :: 105 :: 107 :: 108 :: 110 :: 111 :: 112 :: 113 :: 115 :: 116 :: 118 :: 119 :: 120 :: 122 :: 123 :: 125 :: 126 :: 127 :: 128 :: 130 :: 131 :: 133 :: 134 :: 135 :: 136 :: 137 :: 138 :: 139 :: 149 :: 151 :: 152 :: 154 :: 155 :: 156 :: 158 :: 159 :: 161 :: 162 :: 163 :: 165 :: 166 :: 168 :: 169 :: 170 :: 172 :: 173 :: 175 :: 176 :: 177 :: 178 :: 179 :: 180 :: 181 :: 184 :: 186 :: 187 :: 189 :: 190 :: 191 :: 193 :: 194 :: 196 :: 197 :: 198 :: 200 :: 201 :: 203 :: 204 :: 205 :: 208 :: 209 :: 210 :: 213 :: 214 :: 215 :: 218 :: 219 :: [] : List Addr) = (Kf P).map (·.1) := fun _ => by kernel_rfl
noncomputable abbrev Hk : Hook := kmHook Kf (2 :: 3 :: 15 :: 17 :: 18 :: 20 :: 21 :: 22 :: 23 :: 24 :: 26 :: 27 :: 29 :: 30 :: 31 :: 32 :: 33 :: 35 :: 36 :: 38 :: 39 :: 40 :: 41 :: 42 :: 44 :: 45 :: 47 :: 48 :: 49 :: 50 :: 51 :: 53 :: 54 :: 56 :: 57 :: 58 :: 61 :: 66 :: 67 :: 68 :: 70 :: 71 :: 73 :: 74 :: 75 :: 77 :: 78 :: 80 :: 81 :: 82 :: 83 :: 85 :: 86 :: 88 :: 89 :: 90 :: 91 :: 93 :: 94 :: 96 :: 97 :: 98 :: 100 :: 101 :: 103 :: 104 :: 105 :: 107 :: 108 :: 110 :: 111 :: 112 :: 113 :: 115 :: 116 :: 118 :: 119 :: 120 :: 122 :: 123 :: 125 :: 126 :: 127 :: 128 :: 130 :: 131 :: 133 :: 134 :: 135 :: 136 :: 137 :: 138 :: 139 :: 149 :: 151 :: 152 :: 154 :: 155 :: 156 :: 158 :: 159 :: 161 :: 162 :: 163 :: 165 :: 166 :: 168 :: 169 :: 170 :: 172 :: 173 :: 175 :: 176 :: 177 :: 178 :: 179 :: 180 :: 181 :: 184 :: 186 :: 187 :: 189 :: 190 :: 191 :: 193 :: 194 :: 196 :: 197 :: 198 :: 200 :: 201 :: 203 :: 204 :: 205 :: 208 :: 209 :: 210 :: 213 :: 214 :: 215 :: 218 :: 219 :: [] : List Addr) as_ok [99, 106, 185]
noncomputable section
noncomputable abbrev annT : Option Value := (some (.ref 6))
noncomputable abbrev bT : List Stmt := behindTheImports Pw
noncomputable def envT : Env := { scope := Pw.main.scope, locals := mainNs, globals := mainNs, cells := [], code := .ref 13, frame := some 14 }
noncomputable def cT : Code := .body bT envT
noncomputable abbrev qT : Pos := ⟨0, 0, 0, 0⟩
noncomputable def lT0 : List Stmt := fAt 0 :: fAt 1 :: fAt 2 :: fAt 3 :: fAt 4 :: fAt 5 :: fAt 6 :: fAt 7 :: []
noncomputable def lT1 : List Stmt := fAt 8 :: []
noncomputable def lT2 : List Stmt := fAt 9 :: fAt 10 :: []
noncomputable def lT3 : List Stmt := fAt 11 :: fAt 12 :: fAt 13 :: fAt 14 :: fAt 15 :: fAt 16 :: fAt 17 :: []
noncomputable def ob0 (P : Params) : Obj := ⟨.type "code", none, .fields #[.str (.ofString "<module>") 182, .str (.ofString "<module>") 183, .str (.ofString "/claim/cut.py") 184, .int 1 0, .int 0 0, .int 0 0, .int 0 0, .int 0 0, .ref 11, .bool false, .int 181 0, .ref 12, .none, .none, .none, .none, .int 185 0, .int 1 0, .str (.ofString "/claim/cut.py") 186], #[]⟩
noncomputable def ob1 (P : Params) : Obj := ⟨.type "frame", none, .plain, #[(some (.ref 13)), (some (.ref 3)), (some (.ref 3)), none, (some (.str (.ofString "__main__") 164)), none, (some (.ref 0))]⟩
noncomputable def ob2 (P : Params) : Obj := ⟨.type "tuple", none, .seq #[.str (.ofString "k") 190] 0, #[]⟩
noncomputable def ob3 (P : Params) : Obj := ⟨.none, none, .func ⟨(.ofString "_wall"), (.ofString "_wall"), fP (fAt 0), .stmts (fB (fAt 0)), fS (fAt 0), 0, [], .none, .none, .none, .none, none, .none, .none, 0⟩, #[]⟩
noncomputable def ob4 (P : Params) : Obj := ⟨.type "code", none, .fields #[.str (.ofString "_wall") 187, .str (.ofString "_wall") 188, .str (.ofString "/claim/cut.py") 189, .int 1 0, .int 1 0, .int 0 0, .int 0 0, .int 3 0, .ref 15, .bool true, .int 181 0, .ref 16, .none, .ref 17, .ref 18, .ref 19, .int 191 0, .int 1 0, .str (.ofString "/claim/cut.py") 192], #[]⟩
noncomputable def ob5 (P : Params) : Obj := ⟨.type "function", none, .func ⟨(.ofString "_wall"), (.ofString "_wall"), fP (fAt 0), .stmts (fB (fAt 0)), fS (fAt 0), 3, [], .none, .none, .none, .str (.ofString "__main__") 164, none, .ref 20, .none, 0⟩, #[]⟩
noncomputable def ob6 (P : Params) : Obj := ⟨.type "dict", none, .dict [⟨PyData.keyHash P (.ofString "key"), .str (.ofString "key") 197, .none⟩].toArray 1, #[]⟩
noncomputable def ob7 (P : Params) : Obj := ⟨.type "tuple", none, .seq #[.str (.ofString "a") 201, .str (.ofString "x") 202, .str (.ofString "lo") 203, .str (.ofString "hi") 204, .str (.ofString "key") 205] 0, #[]⟩
noncomputable def ob8 (P : Params) : Obj := ⟨.none, none, .func ⟨(.ofString "insort_right"), (.ofString "insort_right"), fP (fAt 2), .stmts (fB (fAt 2)), fS (fAt 2), 0, [], .none, .none, .none, .none, none, .none, .none, 0⟩, #[]⟩
noncomputable def ob9 (P : Params) : Obj := ⟨.type "code", none, .fields #[.str (.ofString "insort_right") 198, .str (.ofString "insort_right") 199, .str (.ofString "/claim/cut.py") 200, .int 5 0, .int 4 0, .int 0 0, .int 1 0, .int 3 0, .ref 24, .bool true, .int 181 0, .ref 25, .none, .ref 26, .ref 27, .ref 28, .int 206 0, .int 5 0, .str (.ofString "/claim/cut.py") 207], #[]⟩
noncomputable def ob10 (P : Params) : Obj := ⟨.type "function", none, .func ⟨(.ofString "insort_right"), (.ofString "insort_right"), fP (fAt 2), .stmts (fB (fAt 2)), fS (fAt 2), 3, [], .ref 22, .ref 23, .none, .str (.ofString "cpy313.bisect") 194, none, .ref 29, .none, 0⟩, #[]⟩
noncomputable def ob11 (P : Params) : Obj := ⟨.type "dict", none, .dict [⟨PyData.keyHash P (.ofString "key"), .str (.ofString "key") 210, .none⟩].toArray 1, #[]⟩
noncomputable def ob12 (P : Params) : Obj := ⟨.type "tuple", none, .seq #[.str (.ofString "a") 214, .str (.ofString "x") 215, .str (.ofString "lo") 216, .str (.ofString "hi") 217, .str (.ofString "key") 218, .str (.ofString "mid") 219] 0, #[]⟩
noncomputable def ob13 (P : Params) : Obj := ⟨.none, none, .func ⟨(.ofString "bisect_right"), (.ofString "bisect_right"), fP (fAt 3), .stmts (fB (fAt 3)), fS (fAt 3), 0, [], .none, .none, .none, .none, none, .none, .none, 0⟩, #[]⟩
noncomputable def ob14 (P : Params) : Obj := ⟨.type "code", none, .fields #[.str (.ofString "bisect_right") 211, .str (.ofString "bisect_right") 212, .str (.ofString "/claim/cut.py") 213, .int 11 0, .int 4 0, .int 0 0, .int 1 0, .int 3 0, .ref 33, .bool true, .int 181 0, .ref 34, .none, .ref 35, .ref 36, .ref 37, .int 220 0, .int 11 0, .str (.ofString "/claim/cut.py") 221], #[]⟩
noncomputable def ob15 (P : Params) : Obj := ⟨.type "function", none, .func ⟨(.ofString "bisect_right"), (.ofString "bisect_right"), fP (fAt 3), .stmts (fB (fAt 3)), fS (fAt 3), 3, [], .ref 31, .ref 32, .none, .str (.ofString "cpy313.bisect") 194, none, .ref 38, .none, 0⟩, #[]⟩
noncomputable def ob16 (P : Params) : Obj := ⟨.type "dict", none, .dict [⟨PyData.keyHash P (.ofString "key"), .str (.ofString "key") 224, .none⟩].toArray 1, #[]⟩
noncomputable def ob17 (P : Params) : Obj := ⟨.type "tuple", none, .seq #[.str (.ofString "a") 228, .str (.ofString "x") 229, .str (.ofString "lo") 230, .str (.ofString "hi") 231, .str (.ofString "key") 232] 0, #[]⟩
noncomputable def ob18 (P : Params) : Obj := ⟨.none, none, .func ⟨(.ofString "insort_left"), (.ofString "insort_left"), fP (fAt 4), .stmts (fB (fAt 4)), fS (fAt 4), 0, [], .none, .none, .none, .none, none, .none, .none, 0⟩, #[]⟩
noncomputable def ob19 (P : Params) : Obj := ⟨.type "code", none, .fields #[.str (.ofString "insort_left") 225, .str (.ofString "insort_left") 226, .str (.ofString "/claim/cut.py") 227, .int 31 0, .int 4 0, .int 0 0, .int 1 0, .int 3 0, .ref 42, .bool true, .int 181 0, .ref 43, .none, .ref 44, .ref 45, .ref 46, .int 233 0, .int 31 0, .str (.ofString "/claim/cut.py") 234], #[]⟩
noncomputable def ob20 (P : Params) : Obj := ⟨.type "function", none, .func ⟨(.ofString "insort_left"), (.ofString "insort_left"), fP (fAt 4), .stmts (fB (fAt 4)), fS (fAt 4), 3, [], .ref 40, .ref 41, .none, .str (.ofString "cpy313.bisect") 194, none, .ref 47, .none, 0⟩, #[]⟩
noncomputable def ob21 (P : Params) : Obj := ⟨.type "dict", none, .dict [⟨PyData.keyHash P (.ofString "key"), .str (.ofString "key") 237, .none⟩].toArray 1, #[]⟩
noncomputable def ob22 (P : Params) : Obj := ⟨.type "tuple", none, .seq #[.str (.ofString "a") 241, .str (.ofString "x") 242, .str (.ofString "lo") 243, .str (.ofString "hi") 244, .str (.ofString "key") 245, .str (.ofString "mid") 246] 0, #[]⟩
noncomputable def ob23 (P : Params) : Obj := ⟨.none, none, .func ⟨(.ofString "bisect_left"), (.ofString "bisect_left"), fP (fAt 5), .stmts (fB (fAt 5)), fS (fAt 5), 0, [], .none, .none, .none, .none, none, .none, .none, 0⟩, #[]⟩
noncomputable def ob24 (P : Params) : Obj := ⟨.type "code", none, .fields #[.str (.ofString "bisect_left") 238, .str (.ofString "bisect_left") 239, .str (.ofString "/claim/cut.py") 240, .int 37 0, .int 4 0, .int 0 0, .int 1 0, .int 3 0, .ref 51, .bool true, .int 181 0, .ref 52, .none, .ref 53, .ref 54, .ref 55, .int 247 0, .int 37 0, .str (.ofString "/claim/cut.py") 248], #[]⟩
noncomputable def ob25 (P : Params) : Obj := ⟨.type "function", none, .func ⟨(.ofString "bisect_left"), (.ofString "bisect_left"), fP (fAt 5), .stmts (fB (fAt 5)), fS (fAt 5), 3, [], .ref 49, .ref 50, .none, .str (.ofString "cpy313.bisect") 194, none, .ref 56, .none, 0⟩, #[]⟩
noncomputable def ob26 (P : Params) : Obj := ⟨.type "builtin_function_or_method", none, .fields #[.builtin "type.__prepare__", .type "type"], #[]⟩
noncomputable def ob27 (P : Params) : Obj := ⟨.type "dict", none, .dict [⟨PyData.keyHash P (.ofString "__module__"), .str (.ofString "__module__") 261, .str (.ofString "cpy313.email.header") 250⟩, ⟨PyData.keyHash P (.ofString "__qualname__"), .str (.ofString "__qualname__") 263, .str (.ofString "_Accumulator") 262⟩, ⟨PyData.keyHash P (.ofString "__firstlineno__"), .str (.ofString "__firstlineno__") 265, .int 59 264⟩, ⟨PyData.keyHash P (.ofString "__init__"), .str (.ofString "__init__") 275, .ref 74⟩, ⟨PyData.keyHash P (.ofString "push"), .str (.ofString "push") 284, .ref 81⟩, ⟨PyData.keyHash P (.ofString "pop_from"), .str (.ofString "pop_from") 294, .ref 89⟩, ⟨PyData.keyHash P (.ofString "pop"), .str (.ofString "pop") 302, .ref 97⟩, ⟨PyData.keyHash P (.ofString "__len__"), .str (.ofString "__len__") 309, .ref 104⟩, ⟨PyData.keyHash P (.ofString "__str__"), .str (.ofString "__str__") 316, .ref 111⟩, ⟨PyData.keyHash P (.ofString "reset"), .str (.ofString "reset") 324, .ref 119⟩, ⟨PyData.keyHash P (.ofString "is_onlyws"), .str (.ofString "is_onlyws") 331, .ref 126⟩, ⟨PyData.keyHash P (.ofString "part_count"), .str (.ofString "part_count") 339, .ref 134⟩, ⟨PyData.keyHash P (.ofString "__static_attributes__"), .str (.ofString "__static_attributes__") 341, .ref 135⟩, ⟨PyData.keyHash P (.ofString "__classcell__"), .str (.ofString "__classcell__") 342, .ref 61⟩].toArray 14, #[]⟩
noncomputable def ob28 (P : Params) : Obj := ⟨.none, none, .fields #[.int 61 0, .int 4 0, .ref 73, .int 65 0, .int 4 0, .ref 80, .int 68 0, .int 4 0, .ref 88, .int 73 0, .int 4 0, .ref 96, .int 78 0, .int 4 0, .ref 103, .int 81 0, .int 4 0, .ref 110, .int 84 0, .int 4 0, .ref 118, .int 87 0, .int 4 0, .ref 125, .int 90 0, .int 4 0, .ref 133], #[]⟩
noncomputable def ob29 (P : Params) : Obj := ⟨.type "code", none, .fields #[.str (.ofString "_Accumulator") 256, .str (.ofString "_Accumulator") 257, .str (.ofString "/claim/cut.py") 258, .int 59 0, .int 0 0, .int 0 0, .int 0 0, .int 0 0, .ref 62, .bool false, .int 181 0, .ref 63, .none, .none, .none, .none, .int 259 0, .int 59 0, .str (.ofString "/claim/cut.py") 260], #[]⟩
noncomputable def ob30 (P : Params) : Obj := ⟨.type "frame", none, .plain, #[(some (.ref 64)), (some (.ref 3)), (some (.ref 60)), none, (some (.str (.ofString "cpy313.email.header") 250)), none, (some (.ref 0))]⟩
noncomputable def ob31 (P : Params) : Obj := ⟨.type "tuple", none, .seq #[.str (.ofString "__class__") 270] 0, #[]⟩
noncomputable def ob32 (P : Params) : Obj := ⟨.type "tuple", none, .seq #[.str (.ofString "self") 271, .str (.ofString "initial_size") 272] 0, #[]⟩
noncomputable def ob33 (P : Params) : Obj := ⟨.none, none, .func ⟨(.ofString "__init__"), (.ofString "_Accumulator.__init__"), fP (mAt 8 0), .stmts (fB (mAt 8 0)), fS (mAt 8 0), 0, [], .none, .none, .none, .none, none, .none, .none, 0⟩, #[]⟩
noncomputable def ob34 (P : Params) : Obj := ⟨.type "code", none, .fields #[.str (.ofString "__init__") 267, .str (.ofString "_Accumulator.__init__") 268, .str (.ofString "/claim/cut.py") 269, .int 61 0, .int 2 0, .int 0 0, .int 0 0, .int 3 0, .ref 68, .bool true, .int 181 0, .ref 69, .none, .ref 70, .ref 71, .ref 72, .int 273 0, .int 61 0, .str (.ofString "/claim/cut.py") 274], #[]⟩
noncomputable def ob35 (P : Params) : Obj := ⟨.type "function", none, .func ⟨(.ofString "__init__"), (.ofString "_Accumulator.__init__"), fP (mAt 8 0), .stmts (fB (mAt 8 0)), fS (mAt 8 0), 3, [((.ofString "__class__"), 61)], .ref 66, .none, .none, .str (.ofString "cpy313.email.header") 250, none, .ref 73, .ref 67, 0⟩, #[]⟩
noncomputable def ob36 (P : Params) : Obj := ⟨.type "tuple", none, .seq #[.str (.ofString "self") 279, .str (.ofString "fws") 280, .str (.ofString "string") 281] 0, #[]⟩
noncomputable def ob37 (P : Params) : Obj := ⟨.none, none, .func ⟨(.ofString "push"), (.ofString "_Accumulator.push"), fP (mAt 8 1), .stmts (fB (mAt 8 1)), fS (mAt 8 1), 0, [], .none, .none, .none, .none, none, .none, .none, 0⟩, #[]⟩
noncomputable def ob38 (P : Params) : Obj := ⟨.type "code", none, .fields #[.str (.ofString "push") 276, .str (.ofString "_Accumulator.push") 277, .str (.ofString "/claim/cut.py") 278, .int 65 0, .int 3 0, .int 0 0, .int 0 0, .int 3 0, .ref 75, .bool true, .int 181 0, .ref 76, .none, .ref 77, .ref 78, .ref 79, .int 282 0, .int 65 0, .str (.ofString "/claim/cut.py") 283], #[]⟩
noncomputable def ob39 (P : Params) : Obj := ⟨.type "function", none, .func ⟨(.ofString "push"), (.ofString "_Accumulator.push"), fP (mAt 8 1), .stmts (fB (mAt 8 1)), fS (mAt 8 1), 3, [], .none, .none, .none, .str (.ofString "cpy313.email.header") 250, none, .ref 80, .none, 0⟩, #[]⟩
noncomputable def ob40 (P : Params) : Obj := ⟨.type "tuple", none, .seq #[.str (.ofString "self") 289, .str (.ofString "i") 290, .str (.ofString "popped") 291] 0, #[]⟩
noncomputable def ob41 (P : Params) : Obj := ⟨.none, none, .func ⟨(.ofString "pop_from"), (.ofString "_Accumulator.pop_from"), fP (mAt 8 2), .stmts (fB (mAt 8 2)), fS (mAt 8 2), 0, [], .none, .none, .none, .none, none, .none, .none, 0⟩, #[]⟩
noncomputable def ob42 (P : Params) : Obj := ⟨.type "code", none, .fields #[.str (.ofString "pop_from") 286, .str (.ofString "_Accumulator.pop_from") 287, .str (.ofString "/claim/cut.py") 288, .int 68 0, .int 2 0, .int 0 0, .int 0 0, .int 3 0, .ref 83, .bool true, .int 181 0, .ref 84, .none, .ref 85, .ref 86, .ref 87, .int 292 0, .int 68 0, .str (.ofString "/claim/cut.py") 293], #[]⟩
noncomputable def ob43 (P : Params) : Obj := ⟨.type "function", none, .func ⟨(.ofString "pop_from"), (.ofString "_Accumulator.pop_from"), fP (mAt 8 2), .stmts (fB (mAt 8 2)), fS (mAt 8 2), 3, [], .ref 82, .none, .none, .str (.ofString "cpy313.email.header") 250, none, .ref 88, .none, 0⟩, #[]⟩
noncomputable def ob44 (P : Params) : Obj := ⟨.type "tuple", none, .seq #[.str (.ofString "__class__") 298] 0, #[]⟩
noncomputable def ob45 (P : Params) : Obj := ⟨.type "tuple", none, .seq #[.str (.ofString "self") 299] 0, #[]⟩
noncomputable def ob46 (P : Params) : Obj := ⟨.none, none, .func ⟨(.ofString "pop"), (.ofString "_Accumulator.pop"), fP (mAt 8 3), .stmts (fB (mAt 8 3)), fS (mAt 8 3), 0, [], .none, .none, .none, .none, none, .none, .none, 0⟩, #[]⟩
noncomputable def ob47 (P : Params) : Obj := ⟨.type "code", none, .fields #[.str (.ofString "pop") 295, .str (.ofString "_Accumulator.pop") 296, .str (.ofString "/claim/cut.py") 297, .int 73 0, .int 1 0, .int 0 0, .int 0 0, .int 3 0, .ref 91, .bool true, .int 181 0, .ref 92, .none, .ref 93, .ref 94, .ref 95, .int 300 0, .int 73 0, .str (.ofString "/claim/cut.py") 301], #[]⟩
noncomputable def ob48 (P : Params) : Obj := ⟨.type "function", none, .func ⟨(.ofString "pop"), (.ofString "_Accumulator.pop"), fP (mAt 8 3), .stmts (fB (mAt 8 3)), fS (mAt 8 3), 3, [((.ofString "__class__"), 61)], .none, .none, .none, .str (.ofString "cpy313.email.header") 250, none, .ref 96, .ref 90, 0⟩, #[]⟩
noncomputable def ob49 (P : Params) : Obj := ⟨.type "tuple", none, .seq #[.str (.ofString "self") 306] 0, #[]⟩
noncomputable def ob50 (P : Params) : Obj := ⟨.none, none, .func ⟨(.ofString "__len__"), (.ofString "_Accumulator.__len__"), fP (mAt 8 4), .stmts (fB (mAt 8 4)), fS (mAt 8 4), 0, [], .none, .none, .none, .none, none, .none, .none, 0⟩, #[]⟩
noncomputable def ob51 (P : Params) : Obj := ⟨.type "code", none, .fields #[.str (.ofString "__len__") 303, .str (.ofString "_Accumulator.__len__") 304, .str (.ofString "/claim/cut.py") 305, .int 78 0, .int 1 0, .int 0 0, .int 0 0, .int 3 0, .ref 98, .bool true, .int 181 0, .ref 99, .none, .ref 100, .ref 101, .ref 102, .int 307 0, .int 78 0, .str (.ofString "/claim/cut.py") 308], #[]⟩
noncomputable def ob52 (P : Params) : Obj := ⟨.type "function", none, .func ⟨(.ofString "__len__"), (.ofString "_Accumulator.__len__"), fP (mAt 8 4), .stmts (fB (mAt 8 4)), fS (mAt 8 4), 3, [], .none, .none, .none, .str (.ofString "cpy313.email.header") 250, none, .ref 103, .none, 0⟩, #[]⟩
noncomputable def ob53 (P : Params) : Obj := ⟨.type "tuple", none, .seq #[.str (.ofString "self") 313] 0, #[]⟩
noncomputable def ob54 (P : Params) : Obj := ⟨.none, none, .func ⟨(.ofString "__str__"), (.ofString "_Accumulator.__str__"), fP (mAt 8 5), .stmts (fB (mAt 8 5)), fS (mAt 8 5), 0, [], .none, .none, .none, .none, none, .none, .none, 0⟩, #[]⟩
noncomputable def ob55 (P : Params) : Obj := ⟨.type "code", none, .fields #[.str (.ofString "__str__") 310, .str (.ofString "_Accumulator.__str__") 311, .str (.ofString "/claim/cut.py") 312, .int 81 0, .int 1 0, .int 0 0, .int 0 0, .int 3 0, .ref 105, .bool true, .int 181 0, .ref 106, .none, .ref 107, .ref 108, .ref 109, .int 314 0, .int 81 0, .str (.ofString "/claim/cut.py") 315], #[]⟩
noncomputable def ob56 (P : Params) : Obj := ⟨.type "function", none, .func ⟨(.ofString "__str__"), (.ofString "_Accumulator.__str__"), fP (mAt 8 5), .stmts (fB (mAt 8 5)), fS (mAt 8 5), 3, [], .none, .none, .none, .str (.ofString "cpy313.email.header") 250, none, .ref 110, .none, 0⟩, #[]⟩
noncomputable def ob57 (P : Params) : Obj := ⟨.type "tuple", none, .seq #[.str (.ofString "self") 320, .str (.ofString "startval") 321] 0, #[]⟩
noncomputable def ob58 (P : Params) : Obj := ⟨.none, none, .func ⟨(.ofString "reset"), (.ofString "_Accumulator.reset"), fP (mAt 8 6), .stmts (fB (mAt 8 6)), fS (mAt 8 6), 0, [], .none, .none, .none, .none, none, .none, .none, 0⟩, #[]⟩
noncomputable def ob59 (P : Params) : Obj := ⟨.type "code", none, .fields #[.str (.ofString "reset") 317, .str (.ofString "_Accumulator.reset") 318, .str (.ofString "/claim/cut.py") 319, .int 84 0, .int 2 0, .int 0 0, .int 0 0, .int 3 0, .ref 113, .bool true, .int 181 0, .ref 114, .none, .ref 115, .ref 116, .ref 117, .int 322 0, .int 84 0, .str (.ofString "/claim/cut.py") 323], #[]⟩
noncomputable def ob60 (P : Params) : Obj := ⟨.type "function", none, .func ⟨(.ofString "reset"), (.ofString "_Accumulator.reset"), fP (mAt 8 6), .stmts (fB (mAt 8 6)), fS (mAt 8 6), 3, [], .ref 112, .none, .none, .str (.ofString "cpy313.email.header") 250, none, .ref 118, .none, 0⟩, #[]⟩
noncomputable def ob61 (P : Params) : Obj := ⟨.type "tuple", none, .seq #[.str (.ofString "self") 328] 0, #[]⟩
noncomputable def ob62 (P : Params) : Obj := ⟨.none, none, .func ⟨(.ofString "is_onlyws"), (.ofString "_Accumulator.is_onlyws"), fP (mAt 8 7), .stmts (fB (mAt 8 7)), fS (mAt 8 7), 0, [], .none, .none, .none, .none, none, .none, .none, 0⟩, #[]⟩
noncomputable def ob63 (P : Params) : Obj := ⟨.type "code", none, .fields #[.str (.ofString "is_onlyws") 325, .str (.ofString "_Accumulator.is_onlyws") 326, .str (.ofString "/claim/cut.py") 327, .int 87 0, .int 1 0, .int 0 0, .int 0 0, .int 3 0, .ref 120, .bool true, .int 181 0, .ref 121, .none, .ref 122, .ref 123, .ref 124, .int 329 0, .int 87 0, .str (.ofString "/claim/cut.py") 330], #[]⟩
noncomputable def ob64 (P : Params) : Obj := ⟨.type "function", none, .func ⟨(.ofString "is_onlyws"), (.ofString "_Accumulator.is_onlyws"), fP (mAt 8 7), .stmts (fB (mAt 8 7)), fS (mAt 8 7), 3, [], .none, .none, .none, .str (.ofString "cpy313.email.header") 250, none, .ref 125, .none, 0⟩, #[]⟩
noncomputable def ob65 (P : Params) : Obj := ⟨.type "tuple", none, .seq #[.str (.ofString "__class__") 335] 0, #[]⟩
noncomputable def ob66 (P : Params) : Obj := ⟨.type "tuple", none, .seq #[.str (.ofString "self") 336] 0, #[]⟩
noncomputable def ob67 (P : Params) : Obj := ⟨.none, none, .func ⟨(.ofString "part_count"), (.ofString "_Accumulator.part_count"), fP (mAt 8 8), .stmts (fB (mAt 8 8)), fS (mAt 8 8), 0, [], .none, .none, .none, .none, none, .none, .none, 0⟩, #[]⟩
noncomputable def ob68 (P : Params) : Obj := ⟨.type "code", none, .fields #[.str (.ofString "part_count") 332, .str (.ofString "_Accumulator.part_count") 333, .str (.ofString "/claim/cut.py") 334, .int 90 0, .int 1 0, .int 0 0, .int 0 0, .int 3 0, .ref 128, .bool true, .int 181 0, .ref 129, .none, .ref 130, .ref 131, .ref 132, .int 337 0, .int 90 0, .str (.ofString "/claim/cut.py") 338], #[]⟩
noncomputable def ob69 (P : Params) : Obj := ⟨.type "function", none, .func ⟨(.ofString "part_count"), (.ofString "_Accumulator.part_count"), fP (mAt 8 8), .stmts (fB (mAt 8 8)), fS (mAt 8 8), 3, [((.ofString "__class__"), 61)], .none, .none, .none, .str (.ofString "cpy313.email.header") 250, none, .ref 133, .ref 127, 0⟩, #[]⟩
noncomputable def ob70 (P : Params) : Obj := ⟨.type "tuple", none, .seq #[.str (.ofString "_initial_size") 340] 0, #[]⟩
noncomputable def ob71 (P : Params) : Obj := ⟨.type "dict", none, .dict [⟨PyData.keyHash P (.ofString "__module__"), .str (.ofString "__module__") 261, .str (.ofString "cpy313.email.header") 250⟩, ⟨PyData.keyHash P (.ofString "__firstlineno__"), .str (.ofString "__firstlineno__") 265, .int 59 264⟩, ⟨PyData.keyHash P (.ofString "__init__"), .str (.ofString "__init__") 275, .ref 74⟩, ⟨PyData.keyHash P (.ofString "push"), .str (.ofString "push") 284, .ref 81⟩, ⟨PyData.keyHash P (.ofString "pop_from"), .str (.ofString "pop_from") 294, .ref 89⟩, ⟨PyData.keyHash P (.ofString "pop"), .str (.ofString "pop") 302, .ref 97⟩, ⟨PyData.keyHash P (.ofString "__len__"), .str (.ofString "__len__") 309, .ref 104⟩, ⟨PyData.keyHash P (.ofString "__str__"), .str (.ofString "__str__") 316, .ref 111⟩, ⟨PyData.keyHash P (.ofString "reset"), .str (.ofString "reset") 324, .ref 119⟩, ⟨PyData.keyHash P (.ofString "is_onlyws"), .str (.ofString "is_onlyws") 331, .ref 126⟩, ⟨PyData.keyHash P (.ofString "part_count"), .str (.ofString "part_count") 339, .ref 134⟩, ⟨PyData.keyHash P (.ofString "__static_attributes__"), .str (.ofString "__static_attributes__") 341, .ref 135⟩, ⟨PyData.keyHash P (.ofString "__dict__"), .str (.ofString "__dict__") 344, .ref 138⟩, ⟨PyData.keyHash P (.ofString "__weakref__"), .str (.ofString "__weakref__") 346, .ref 139⟩, ⟨PyData.keyHash P (.ofString "__doc__"), .str (.ofString "__doc__") 347, .none⟩].toArray 5, #[]⟩
noncomputable def ob72 (P : Params) : Obj := ⟨.type "type", none, .cls ⟨(.ofString "_Accumulator"), [.type "list"], [.ref 137, .type "list", .type "object"], 136, (.ofString "_Accumulator"), true, [], [], false, none, false⟩, #[(some (.ref 58)), none, (some (.str (.ofString "_Accumulator") 254)), (some (.str (.ofString "_Accumulator") 262)), (some (.builtin "list.__new__")), (some (.bool true))]⟩
noncomputable def ob73 (P : Params) : Obj := ⟨.type "getset_descriptor", none, .fields #[.str (.ofString "__dict__") 343, .ref 137, .builtin "function.__dict__", .builtin "function.__dict__#set"], #[]⟩
noncomputable def ob74 (P : Params) : Obj := ⟨.type "getset_descriptor", none, .fields #[.str (.ofString "__weakref__") 345, .ref 137, .builtin "ExceptionGroup.__weakref__", .none], #[]⟩
noncomputable def ob75 (P : Params) : Obj := ⟨.type "super", none, .fields #[.ref 137, .ref 137, .ref 137], #[]⟩
noncomputable def ob76 (P : Params) : Obj := ⟨.type "builtin_function_or_method", none, .fields #[.builtin "object.__init_subclass__", .ref 137], #[]⟩
noncomputable def ob77 (P : Params) : Obj := ⟨.type "dict", none, .dict [⟨PyData.keyHash P (.ofString "__module__"), .str (.ofString "__module__") 359, .str (.ofString "cpy313.netrc") 350⟩, ⟨PyData.keyHash P (.ofString "__qualname__"), .str (.ofString "__qualname__") 361, .str (.ofString "_netrclex") 360⟩, ⟨PyData.keyHash P (.ofString "__firstlineno__"), .str (.ofString "__firstlineno__") 363, .int 93 362⟩, ⟨PyData.keyHash P (.ofString "__init__"), .str (.ofString "__init__") 371, .ref 155⟩, ⟨PyData.keyHash P (.ofString "_read_char"), .str (.ofString "_read_char") 379, .ref 162⟩, ⟨PyData.keyHash P (.ofString "get_token"), .str (.ofString "get_token") 389, .ref 169⟩, ⟨PyData.keyHash P (.ofString "push_token"), .str (.ofString "push_token") 397, .ref 176⟩, ⟨PyData.keyHash P (.ofString "__static_attributes__"), .str (.ofString "__static_attributes__") 402, .ref 177⟩].toArray 8, #[]⟩
noncomputable def ob78 (P : Params) : Obj := ⟨.none, none, .fields #[.int 95 0, .int 4 0, .ref 154, .int 101 0, .int 4 0, .ref 161, .int 107 0, .int 4 0, .ref 168, .int 134 0, .int 4 0, .ref 175], #[]⟩
noncomputable def ob79 (P : Params) : Obj := ⟨.type "code", none, .fields #[.str (.ofString "_netrclex") 354, .str (.ofString "_netrclex") 355, .str (.ofString "/claim/cut.py") 356, .int 93 0, .int 0 0, .int 0 0, .int 0 0, .int 0 0, .ref 145, .bool false, .int 181 0, .ref 146, .none, .none, .none, .none, .int 357 0, .int 93 0, .str (.ofString "/claim/cut.py") 358], #[]⟩
noncomputable def ob80 (P : Params) : Obj := ⟨.type "frame", none, .plain, #[(some (.ref 147)), (some (.ref 3)), (some (.ref 144)), none, (some (.str (.ofString "cpy313.netrc") 350)), none, (some (.ref 0))]⟩
noncomputable def ob81 (P : Params) : Obj := ⟨.type "tuple", none, .seq #[.str (.ofString "self") 367, .str (.ofString "fp") 368] 0, #[]⟩
noncomputable def ob82 (P : Params) : Obj := ⟨.none, none, .func ⟨(.ofString "__init__"), (.ofString "_netrclex.__init__"), fP (mAt 10 0), .stmts (fB (mAt 10 0)), fS (mAt 10 0), 0, [], .none, .none, .none, .none, none, .none, .none, 0⟩, #[]⟩
noncomputable def ob83 (P : Params) : Obj := ⟨.type "code", none, .fields #[.str (.ofString "__init__") 364, .str (.ofString "_netrclex.__init__") 365, .str (.ofString "/claim/cut.py") 366, .int 95 0, .int 2 0, .int 0 0, .int 0 0, .int 3 0, .ref 149, .bool true, .int 181 0, .ref 150, .none, .ref 151, .ref 152, .ref 153, .int 369 0, .int 95 0, .str (.ofString "/claim/cut.py") 370], #[]⟩
noncomputable def ob84 (P : Params) : Obj := ⟨.type "function", none, .func ⟨(.ofString "__init__"), (.ofString "_netrclex.__init__"), fP (mAt 10 0), .stmts (fB (mAt 10 0)), fS (mAt 10 0), 3, [], .none, .none, .none, .str (.ofString "cpy313.netrc") 350, none, .ref 154, .none, 0⟩, #[]⟩
noncomputable def ob85 (P : Params) : Obj := ⟨.type "tuple", none, .seq #[.str (.ofString "self") 375, .str (.ofString "ch") 376] 0, #[]⟩
noncomputable def ob86 (P : Params) : Obj := ⟨.none, none, .func ⟨(.ofString "_read_char"), (.ofString "_netrclex._read_char"), fP (mAt 10 1), .stmts (fB (mAt 10 1)), fS (mAt 10 1), 0, [], .none, .none, .none, .none, none, .none, .none, 0⟩, #[]⟩
noncomputable def ob87 (P : Params) : Obj := ⟨.type "code", none, .fields #[.str (.ofString "_read_char") 372, .str (.ofString "_netrclex._read_char") 373, .str (.ofString "/claim/cut.py") 374, .int 101 0, .int 1 0, .int 0 0, .int 0 0, .int 3 0, .ref 156, .bool true, .int 181 0, .ref 157, .none, .ref 158, .ref 159, .ref 160, .int 377 0, .int 101 0, .str (.ofString "/claim/cut.py") 378], #[]⟩
noncomputable def ob88 (P : Params) : Obj := ⟨.type "function", none, .func ⟨(.ofString "_read_char"), (.ofString "_netrclex._read_char"), fP (mAt 10 1), .stmts (fB (mAt 10 1)), fS (mAt 10 1), 3, [], .none, .none, .none, .str (.ofString "cpy313.netrc") 350, none, .ref 161, .none, 0⟩, #[]⟩
noncomputable def ob89 (P : Params) : Obj := ⟨.type "tuple", none, .seq #[.str (.ofString "self") 383, .str (.ofString "token") 384, .str (.ofString "fiter") 385, .str (.ofString "ch") 386] 0, #[]⟩
noncomputable def ob90 (P : Params) : Obj := ⟨.none, none, .func ⟨(.ofString "get_token"), (.ofString "_netrclex.get_token"), fP (mAt 10 2), .stmts (fB (mAt 10 2)), fS (mAt 10 2), 0, [], .none, .none, .none, .none, none, .none, .none, 0⟩, #[]⟩
noncomputable def ob91 (P : Params) : Obj := ⟨.type "code", none, .fields #[.str (.ofString "get_token") 380, .str (.ofString "_netrclex.get_token") 381, .str (.ofString "/claim/cut.py") 382, .int 107 0, .int 1 0, .int 0 0, .int 0 0, .int 3 0, .ref 163, .bool true, .int 181 0, .ref 164, .none, .ref 165, .ref 166, .ref 167, .int 387 0, .int 107 0, .str (.ofString "/claim/cut.py") 388], #[]⟩
noncomputable def ob92 (P : Params) : Obj := ⟨.type "function", none, .func ⟨(.ofString "get_token"), (.ofString "_netrclex.get_token"), fP (mAt 10 2), .stmts (fB (mAt 10 2)), fS (mAt 10 2), 3, [], .none, .none, .none, .str (.ofString "cpy313.netrc") 350, none, .ref 168, .none, 0⟩, #[]⟩
noncomputable def ob93 (P : Params) : Obj := ⟨.type "tuple", none, .seq #[.str (.ofString "self") 393, .str (.ofString "token") 394] 0, #[]⟩
noncomputable def ob94 (P : Params) : Obj := ⟨.none, none, .func ⟨(.ofString "push_token"), (.ofString "_netrclex.push_token"), fP (mAt 10 3), .stmts (fB (mAt 10 3)), fS (mAt 10 3), 0, [], .none, .none, .none, .none, none, .none, .none, 0⟩, #[]⟩
noncomputable def ob95 (P : Params) : Obj := ⟨.type "code", none, .fields #[.str (.ofString "push_token") 390, .str (.ofString "_netrclex.push_token") 391, .str (.ofString "/claim/cut.py") 392, .int 134 0, .int 2 0, .int 0 0, .int 0 0, .int 3 0, .ref 170, .bool true, .int 181 0, .ref 171, .none, .ref 172, .ref 173, .ref 174, .int 395 0, .int 134 0, .str (.ofString "/claim/cut.py") 396], #[]⟩
noncomputable def ob96 (P : Params) : Obj := ⟨.type "function", none, .func ⟨(.ofString "push_token"), (.ofString "_netrclex.push_token"), fP (mAt 10 3), .stmts (fB (mAt 10 3)), fS (mAt 10 3), 3, [], .none, .none, .none, .str (.ofString "cpy313.netrc") 350, none, .ref 175, .none, 0⟩, #[]⟩
noncomputable def ob97 (P : Params) : Obj := ⟨.type "tuple", none, .seq #[.str (.ofString "instream") 398, .str (.ofString "lineno") 399, .str (.ofString "pushback") 400, .str (.ofString "whitespace") 401] 0, #[]⟩
noncomputable def ob98 (P : Params) : Obj := ⟨.type "dict", none, .dict [⟨PyData.keyHash P (.ofString "__module__"), .str (.ofString "__module__") 359, .str (.ofString "cpy313.netrc") 350⟩, ⟨PyData.keyHash P (.ofString "__firstlineno__"), .str (.ofString "__firstlineno__") 363, .int 93 362⟩, ⟨PyData.keyHash P (.ofString "__init__"), .str (.ofString "__init__") 371, .ref 155⟩, ⟨PyData.keyHash P (.ofString "_read_char"), .str (.ofString "_read_char") 379, .ref 162⟩, ⟨PyData.keyHash P (.ofString "get_token"), .str (.ofString "get_token") 389, .ref 169⟩, ⟨PyData.keyHash P (.ofString "push_token"), .str (.ofString "push_token") 397, .ref 176⟩, ⟨PyData.keyHash P (.ofString "__static_attributes__"), .str (.ofString "__static_attributes__") 402, .ref 177⟩, ⟨PyData.keyHash P (.ofString "__dict__"), .str (.ofString "__dict__") 404, .ref 180⟩, ⟨PyData.keyHash P (.ofString "__weakref__"), .str (.ofString "__weakref__") 406, .ref 181⟩, ⟨PyData.keyHash P (.ofString "__doc__"), .str (.ofString "__doc__") 407, .none⟩].toArray 4, #[]⟩
noncomputable def ob99 (P : Params) : Obj := ⟨.type "type", none, .cls ⟨(.ofString "_netrclex"), [.type "object"], [.ref 179, .type "object"], 178, (.ofString "_netrclex"), true, [], [], false, none, false⟩, #[none, none, (some (.str (.ofString "_netrclex") 352)), (some (.str (.ofString "_netrclex") 360)), (some (.builtin "object.__new__")), (some (.bool true))]⟩
noncomputable def ob100 (P : Params) : Obj := ⟨.type "getset_descriptor", none, .fields #[.str (.ofString "__dict__") 403, .ref 179, .builtin "function.__dict__", .builtin "function.__dict__#set"], #[]⟩
noncomputable def ob101 (P : Params) : Obj := ⟨.type "getset_descriptor", none, .fields #[.str (.ofString "__weakref__") 405, .ref 179, .builtin "ExceptionGroup.__weakref__", .none], #[]⟩
noncomputable def ob102 (P : Params) : Obj := ⟨.type "super", none, .fields #[.ref 179, .ref 179, .ref 179], #[]⟩
noncomputable def hpa (P : Params) : Heap := ⟨Array.mk (
  boot_o_0 P ::
  boot_o_1 P ::
  boot_o_2 P ::
  boot_o_3 P ::
  boot_o_4 P ::
  boot_o_5 P ::
  boot_o_6 P ::
  boot_o_7 P ::
  boot_o_8 P ::
  boot_o_9 P ::
  boot_o_10 P ::
  ⟨.type "tuple", none, .seq #[] 0, #[]⟩ ::
  ⟨.none, none, .fields #[], #[]⟩ ::
  ob0 P ::
  ⟨.type "frame", none, .plain, #[(some (.ref 13)), (some (.ref 3)), (some (.ref 3)), none, (some (.str (.ofString "__main__") 164)), none, (some (.ref 0))]⟩ :: []), {}⟩
noncomputable def hp8 (P : Params) : Heap := ⟨Array.mk (
  boot_o_0 P ::
  boot_o_1 P ::
  boot_o_2 P ::
  ⟨.type "dict", none, .dict [⟨PyData.keyHash P (.ofString "__name__"), .str (.ofString "__name__") 165, .str (.ofString "cpy313.email.header") 250⟩, ⟨PyData.keyHash P (.ofString "__doc__"), .str (.ofString "__doc__") 166, .none⟩, ⟨PyData.keyHash P (.ofString "__package__"), .str (.ofString "__package__") 167, .none⟩, ⟨PyData.keyHash P (.ofString "__loader__"), .str (.ofString "__loader__") 168, .builtin "__main__.__loader__#opaque"⟩, ⟨PyData.keyHash P (.ofString "__spec__"), .str (.ofString "__spec__") 169, .none⟩, ⟨PyData.keyHash P (.ofString "__annotations__"), .str (.ofString "__annotations__") 170, .ref 6⟩, ⟨PyData.keyHash P (.ofString "__builtins__"), .str (.ofString "__builtins__") 171, .ref 4⟩, ⟨PyData.keyHash P (.ofString "__file__"), .str (.ofString "__file__") 173, .str (.ofString "/claim/cut.py") 172⟩, ⟨PyData.keyHash P (.ofString "__cached__"), .str (.ofString "__cached__") 174, .none⟩, ⟨PyData.keyHash P (.ofString "_wall"), .str (.ofString "_wall") 193, .ref 21⟩, ⟨PyData.keyHash P (.ofString "insort_right"), .str (.ofString "insort_right") 208, .ref 30⟩, ⟨PyData.keyHash P (.ofString "bisect_right"), .str (.ofString "bisect_right") 222, .ref 39⟩, ⟨PyData.keyHash P (.ofString "insort_left"), .str (.ofString "insort_left") 235, .ref 48⟩, ⟨PyData.keyHash P (.ofString "bisect_left"), .str (.ofString "bisect_left") 249, .ref 57⟩, ⟨PyData.keyHash P (.ofString "EMPTYSTRING"), .str (.ofString "EMPTYSTRING") 253, .str (.ofString "") 252⟩].toArray 15, #[]⟩ ::
  boot_o_4 P ::
  boot_o_5 P ::
  boot_o_6 P ::
  boot_o_7 P ::
  boot_o_8 P ::
  boot_o_9 P ::
  boot_o_10 P ::
  ⟨.type "tuple", none, .seq #[] 0, #[]⟩ ::
  ⟨.none, none, .fields #[.int 1 0, .int 0 0, .ref 20, .int 5 0, .int 0 0, .ref 29, .int 11 0, .int 0 0, .ref 38, .int 31 0, .int 0 0, .ref 47, .int 37 0, .int 0 0, .ref 56], #[]⟩ ::
  ob0 P ::
  ob1 P ::
  ⟨.type "tuple", none, .seq #[] 0, #[]⟩ ::
  ⟨.none, none, .fields #[], #[]⟩ ::
  ob2 P ::
  ⟨.type "tuple", none, .seq #[] 0, #[]⟩ ::
  ob3 P ::
  ob4 P ::
  ob5 P ::
  ⟨.type "tuple", none, .seq #[.int 0 196, .none] 0, #[]⟩ ::
  ob6 P ::
  ⟨.type "tuple", none, .seq #[] 0, #[]⟩ ::
  ⟨.none, none, .fields #[], #[]⟩ ::
  ob7 P ::
  ⟨.type "tuple", none, .seq #[] 0, #[]⟩ ::
  ob8 P ::
  ob9 P ::
  ob10 P ::
  ⟨.type "tuple", none, .seq #[.int 0 209, .none] 0, #[]⟩ ::
  ob11 P ::
  ⟨.type "tuple", none, .seq #[] 0, #[]⟩ ::
  ⟨.none, none, .fields #[], #[]⟩ ::
  ob12 P ::
  ⟨.type "tuple", none, .seq #[] 0, #[]⟩ ::
  ob13 P ::
  ob14 P ::
  ob15 P ::
  ⟨.type "tuple", none, .seq #[.int 0 223, .none] 0, #[]⟩ ::
  ob16 P ::
  ⟨.type "tuple", none, .seq #[] 0, #[]⟩ ::
  ⟨.none, none, .fields #[], #[]⟩ ::
  ob17 P ::
  ⟨.type "tuple", none, .seq #[] 0, #[]⟩ ::
  ob18 P ::
  ob19 P ::
  ob20 P ::
  ⟨.type "tuple", none, .seq #[.int 0 236, .none] 0, #[]⟩ ::
  ob21 P ::
  ⟨.type "tuple", none, .seq #[] 0, #[]⟩ ::
  ⟨.none, none, .fields #[], #[]⟩ ::
  ob22 P ::
  ⟨.type "tuple", none, .seq #[] 0, #[]⟩ ::
  ob23 P ::
  ob24 P ::
  ⟨.type "function", none, .func ⟨(.ofString "bisect_left"), (.ofString "bisect_left"), fP (fAt 5), .stmts (fB (fAt 5)), fS (fAt 5), 3, [], .ref 49, .ref 50, .none, .str (.ofString "cpy313.bisect") 194, none, .ref 56, .none, 0⟩, #[]⟩ :: []), {}⟩
noncomputable def hp9 (P : Params) : Heap := ⟨Array.mk (
  boot_o_0 P ::
  boot_o_1 P ::
  boot_o_2 P ::
  ⟨.type "dict", none, .dict [⟨PyData.keyHash P (.ofString "__name__"), .str (.ofString "__name__") 165, .str (.ofString "cpy313.email.header") 250⟩, ⟨PyData.keyHash P (.ofString "__doc__"), .str (.ofString "__doc__") 166, .none⟩, ⟨PyData.keyHash P (.ofString "__package__"), .str (.ofString "__package__") 167, .none⟩, ⟨PyData.keyHash P (.ofString "__loader__"), .str (.ofString "__loader__") 168, .builtin "__main__.__loader__#opaque"⟩, ⟨PyData.keyHash P (.ofString "__spec__"), .str (.ofString "__spec__") 169, .none⟩, ⟨PyData.keyHash P (.ofString "__annotations__"), .str (.ofString "__annotations__") 170, .ref 6⟩, ⟨PyData.keyHash P (.ofString "__builtins__"), .str (.ofString "__builtins__") 171, .ref 4⟩, ⟨PyData.keyHash P (.ofString "__file__"), .str (.ofString "__file__") 173, .str (.ofString "/claim/cut.py") 172⟩, ⟨PyData.keyHash P (.ofString "__cached__"), .str (.ofString "__cached__") 174, .none⟩, ⟨PyData.keyHash P (.ofString "_wall"), .str (.ofString "_wall") 193, .ref 21⟩, ⟨PyData.keyHash P (.ofString "insort_right"), .str (.ofString "insort_right") 208, .ref 30⟩, ⟨PyData.keyHash P (.ofString "bisect_right"), .str (.ofString "bisect_right") 222, .ref 39⟩, ⟨PyData.keyHash P (.ofString "insort_left"), .str (.ofString "insort_left") 235, .ref 48⟩, ⟨PyData.keyHash P (.ofString "bisect_left"), .str (.ofString "bisect_left") 249, .ref 57⟩, ⟨PyData.keyHash P (.ofString "EMPTYSTRING"), .str (.ofString "EMPTYSTRING") 253, .str (.ofString "") 252⟩, ⟨PyData.keyHash P (.ofString "_Accumulator"), .str (.ofString "_Accumulator") 349, .ref 137⟩].toArray 16, #[]⟩ ::
  boot_o_4 P ::
  boot_o_5 P ::
  boot_o_6 P ::
  boot_o_7 P ::
  boot_o_8 P ::
  boot_o_9 P ::
  boot_o_10 P ::
  ⟨.type "tuple", none, .seq #[] 0, #[]⟩ ::
  ⟨.none, none, .fields #[.int 1 0, .int 0 0, .ref 20, .int 5 0, .int 0 0, .ref 29, .int 11 0, .int 0 0, .ref 38, .int 31 0, .int 0 0, .ref 47, .int 37 0, .int 0 0, .ref 56, .int 59 0, .int 0 0, .ref 64], #[]⟩ ::
  ob0 P ::
  ob1 P ::
  ⟨.type "tuple", none, .seq #[] 0, #[]⟩ ::
  ⟨.none, none, .fields #[], #[]⟩ ::
  ob2 P ::
  ⟨.type "tuple", none, .seq #[] 0, #[]⟩ ::
  ob3 P ::
  ob4 P ::
  ob5 P ::
  ⟨.type "tuple", none, .seq #[.int 0 196, .none] 0, #[]⟩ ::
  ob6 P ::
  ⟨.type "tuple", none, .seq #[] 0, #[]⟩ ::
  ⟨.none, none, .fields #[], #[]⟩ ::
  ob7 P ::
  ⟨.type "tuple", none, .seq #[] 0, #[]⟩ ::
  ob8 P ::
  ob9 P ::
  ob10 P ::
  ⟨.type "tuple", none, .seq #[.int 0 209, .none] 0, #[]⟩ ::
  ob11 P ::
  ⟨.type "tuple", none, .seq #[] 0, #[]⟩ ::
  ⟨.none, none, .fields #[], #[]⟩ ::
  ob12 P ::
  ⟨.type "tuple", none, .seq #[] 0, #[]⟩ ::
  ob13 P ::
  ob14 P ::
  ob15 P ::
  ⟨.type "tuple", none, .seq #[.int 0 223, .none] 0, #[]⟩ ::
  ob16 P ::
  ⟨.type "tuple", none, .seq #[] 0, #[]⟩ ::
  ⟨.none, none, .fields #[], #[]⟩ ::
  ob17 P ::
  ⟨.type "tuple", none, .seq #[] 0, #[]⟩ ::
  ob18 P ::
  ob19 P ::
  ob20 P ::
  ⟨.type "tuple", none, .seq #[.int 0 236, .none] 0, #[]⟩ ::
  ob21 P ::
  ⟨.type "tuple", none, .seq #[] 0, #[]⟩ ::
  ⟨.none, none, .fields #[], #[]⟩ ::
  ob22 P ::
  ⟨.type "tuple", none, .seq #[] 0, #[]⟩ ::
  ob23 P ::
  ob24 P ::
  ob25 P ::
  ⟨.type "tuple", none, .seq #[.type "list"] 0, #[]⟩ ::
  ob26 P ::
  ob27 P ::
  ⟨.type "cell", none, .cell (some (.ref 137)), #[]⟩ ::
  ⟨.type "tuple", none, .seq #[] 0, #[]⟩ ::
  ob28 P ::
  ob29 P ::
  ob30 P ::
  ⟨.type "tuple", none, .seq #[.int 0 266] 0, #[]⟩ ::
  ⟨.type "tuple", none, .seq #[.ref 61] 0, #[]⟩ ::
  ob31 P ::
  ⟨.none, none, .fields #[], #[]⟩ ::
  ob32 P ::
  ⟨.type "tuple", none, .seq #[] 0, #[]⟩ ::
  ob33 P ::
  ob34 P ::
  ob35 P ::
  ⟨.type "tuple", none, .seq #[] 0, #[]⟩ ::
  ⟨.none, none, .fields #[], #[]⟩ ::
  ob36 P ::
  ⟨.type "tuple", none, .seq #[] 0, #[]⟩ ::
  ob37 P ::
  ob38 P ::
  ob39 P ::
  ⟨.type "tuple", none, .seq #[.int 0 285] 0, #[]⟩ ::
  ⟨.type "tuple", none, .seq #[] 0, #[]⟩ ::
  ⟨.none, none, .fields #[], #[]⟩ ::
  ob40 P ::
  ⟨.type "tuple", none, .seq #[] 0, #[]⟩ ::
  ob41 P ::
  ob42 P ::
  ob43 P ::
  ⟨.type "tuple", none, .seq #[.ref 61] 0, #[]⟩ ::
  ob44 P ::
  ⟨.none, none, .fields #[], #[]⟩ ::
  ob45 P ::
  ⟨.type "tuple", none, .seq #[] 0, #[]⟩ ::
  ob46 P ::
  ob47 P ::
  ob48 P ::
  ⟨.type "tuple", none, .seq #[] 0, #[]⟩ ::
  ⟨.none, none, .fields #[], #[]⟩ ::
  ob49 P ::
  ⟨.type "tuple", none, .seq #[] 0, #[]⟩ ::
  ob50 P ::
  ob51 P ::
  ob52 P ::
  ⟨.type "tuple", none, .seq #[] 0, #[]⟩ ::
  ⟨.none, none, .fields #[], #[]⟩ ::
  ob53 P ::
  ⟨.type "tuple", none, .seq #[] 0, #[]⟩ ::
  ob54 P ::
  ob55 P ::
  ob56 P ::
  ⟨.type "tuple", none, .seq #[.none] 0, #[]⟩ ::
  ⟨.type "tuple", none, .seq #[] 0, #[]⟩ ::
  ⟨.none, none, .fields #[], #[]⟩ ::
  ob57 P ::
  ⟨.type "tuple", none, .seq #[] 0, #[]⟩ ::
  ob58 P ::
  ob59 P ::
  ob60 P ::
  ⟨.type "tuple", none, .seq #[] 0, #[]⟩ ::
  ⟨.none, none, .fields #[], #[]⟩ ::
  ob61 P ::
  ⟨.type "tuple", none, .seq #[] 0, #[]⟩ ::
  ob62 P ::
  ob63 P ::
  ob64 P ::
  ⟨.type "tuple", none, .seq #[.ref 61] 0, #[]⟩ ::
  ob65 P ::
  ⟨.none, none, .fields #[], #[]⟩ ::
  ob66 P ::
  ⟨.type "tuple", none, .seq #[] 0, #[]⟩ ::
  ob67 P ::
  ob68 P ::
  ob69 P ::
  ob70 P ::
  ob71 P ::
  ob72 P ::
  ob73 P ::
  ob74 P ::
  ob75 P ::
  ⟨.type "builtin_function_or_method", none, .fields #[.builtin "object.__init_subclass__", .ref 137], #[]⟩ :: []), {}⟩
noncomputable def hp11 (P : Params) : Heap := ⟨Array.mk (
  boot_o_0 P ::
  boot_o_1 P ::
  boot_o_2 P ::
  ⟨.type "dict", none, .dict [⟨PyData.keyHash P (.ofString "__name__"), .str (.ofString "__name__") 165, .str (.ofString "cpy313.netrc") 350⟩, ⟨PyData.keyHash P (.ofString "__doc__"), .str (.ofString "__doc__") 166, .none⟩, ⟨PyData.keyHash P (.ofString "__package__"), .str (.ofString "__package__") 167, .none⟩, ⟨PyData.keyHash P (.ofString "__loader__"), .str (.ofString "__loader__") 168, .builtin "__main__.__loader__#opaque"⟩, ⟨PyData.keyHash P (.ofString "__spec__"), .str (.ofString "__spec__") 169, .none⟩, ⟨PyData.keyHash P (.ofString "__annotations__"), .str (.ofString "__annotations__") 170, .ref 6⟩, ⟨PyData.keyHash P (.ofString "__builtins__"), .str (.ofString "__builtins__") 171, .ref 4⟩, ⟨PyData.keyHash P (.ofString "__file__"), .str (.ofString "__file__") 173, .str (.ofString "/claim/cut.py") 172⟩, ⟨PyData.keyHash P (.ofString "__cached__"), .str (.ofString "__cached__") 174, .none⟩, ⟨PyData.keyHash P (.ofString "_wall"), .str (.ofString "_wall") 193, .ref 21⟩, ⟨PyData.keyHash P (.ofString "insort_right"), .str (.ofString "insort_right") 208, .ref 30⟩, ⟨PyData.keyHash P (.ofString "bisect_right"), .str (.ofString "bisect_right") 222, .ref 39⟩, ⟨PyData.keyHash P (.ofString "insort_left"), .str (.ofString "insort_left") 235, .ref 48⟩, ⟨PyData.keyHash P (.ofString "bisect_left"), .str (.ofString "bisect_left") 249, .ref 57⟩, ⟨PyData.keyHash P (.ofString "EMPTYSTRING"), .str (.ofString "EMPTYSTRING") 253, .str (.ofString "") 252⟩, ⟨PyData.keyHash P (.ofString "_Accumulator"), .str (.ofString "_Accumulator") 349, .ref 137⟩, ⟨PyData.keyHash P (.ofString "_netrclex"), .str (.ofString "_netrclex") 409, .ref 179⟩].toArray 17, #[]⟩ ::
  boot_o_4 P ::
  boot_o_5 P ::
  boot_o_6 P ::
  boot_o_7 P ::
  boot_o_8 P ::
  boot_o_9 P ::
  boot_o_10 P ::
  ⟨.type "tuple", none, .seq #[] 0, #[]⟩ ::
  ⟨.none, none, .fields #[.int 1 0, .int 0 0, .ref 20, .int 5 0, .int 0 0, .ref 29, .int 11 0, .int 0 0, .ref 38, .int 31 0, .int 0 0, .ref 47, .int 37 0, .int 0 0, .ref 56, .int 59 0, .int 0 0, .ref 64, .int 93 0, .int 0 0, .ref 147], #[]⟩ ::
  ob0 P ::
  ob1 P ::
  ⟨.type "tuple", none, .seq #[] 0, #[]⟩ ::
  ⟨.none, none, .fields #[], #[]⟩ ::
  ob2 P ::
  ⟨.type "tuple", none, .seq #[] 0, #[]⟩ ::
  ob3 P ::
  ob4 P ::
  ob5 P ::
  ⟨.type "tuple", none, .seq #[.int 0 196, .none] 0, #[]⟩ ::
  ob6 P ::
  ⟨.type "tuple", none, .seq #[] 0, #[]⟩ ::
  ⟨.none, none, .fields #[], #[]⟩ ::
  ob7 P ::
  ⟨.type "tuple", none, .seq #[] 0, #[]⟩ ::
  ob8 P ::
  ob9 P ::
  ob10 P ::
  ⟨.type "tuple", none, .seq #[.int 0 209, .none] 0, #[]⟩ ::
  ob11 P ::
  ⟨.type "tuple", none, .seq #[] 0, #[]⟩ ::
  ⟨.none, none, .fields #[], #[]⟩ ::
  ob12 P ::
  ⟨.type "tuple", none, .seq #[] 0, #[]⟩ ::
  ob13 P ::
  ob14 P ::
  ob15 P ::
  ⟨.type "tuple", none, .seq #[.int 0 223, .none] 0, #[]⟩ ::
  ob16 P ::
  ⟨.type "tuple", none, .seq #[] 0, #[]⟩ ::
  ⟨.none, none, .fields #[], #[]⟩ ::
  ob17 P ::
  ⟨.type "tuple", none, .seq #[] 0, #[]⟩ ::
  ob18 P ::
  ob19 P ::
  ob20 P ::
  ⟨.type "tuple", none, .seq #[.int 0 236, .none] 0, #[]⟩ ::
  ob21 P ::
  ⟨.type "tuple", none, .seq #[] 0, #[]⟩ ::
  ⟨.none, none, .fields #[], #[]⟩ ::
  ob22 P ::
  ⟨.type "tuple", none, .seq #[] 0, #[]⟩ ::
  ob23 P ::
  ob24 P ::
  ob25 P ::
  ⟨.type "tuple", none, .seq #[.type "list"] 0, #[]⟩ ::
  ob26 P ::
  ob27 P ::
  ⟨.type "cell", none, .cell (some (.ref 137)), #[]⟩ ::
  ⟨.type "tuple", none, .seq #[] 0, #[]⟩ ::
  ob28 P ::
  ob29 P ::
  ob30 P ::
  ⟨.type "tuple", none, .seq #[.int 0 266] 0, #[]⟩ ::
  ⟨.type "tuple", none, .seq #[.ref 61] 0, #[]⟩ ::
  ob31 P ::
  ⟨.none, none, .fields #[], #[]⟩ ::
  ob32 P ::
  ⟨.type "tuple", none, .seq #[] 0, #[]⟩ ::
  ob33 P ::
  ob34 P ::
  ob35 P ::
  ⟨.type "tuple", none, .seq #[] 0, #[]⟩ ::
  ⟨.none, none, .fields #[], #[]⟩ ::
  ob36 P ::
  ⟨.type "tuple", none, .seq #[] 0, #[]⟩ ::
  ob37 P ::
  ob38 P ::
  ob39 P ::
  ⟨.type "tuple", none, .seq #[.int 0 285] 0, #[]⟩ ::
  ⟨.type "tuple", none, .seq #[] 0, #[]⟩ ::
  ⟨.none, none, .fields #[], #[]⟩ ::
  ob40 P ::
  ⟨.type "tuple", none, .seq #[] 0, #[]⟩ ::
  ob41 P ::
  ob42 P ::
  ob43 P ::
  ⟨.type "tuple", none, .seq #[.ref 61] 0, #[]⟩ ::
  ob44 P ::
  ⟨.none, none, .fields #[], #[]⟩ ::
  ob45 P ::
  ⟨.type "tuple", none, .seq #[] 0, #[]⟩ ::
  ob46 P ::
  ob47 P ::
  ob48 P ::
  ⟨.type "tuple", none, .seq #[] 0, #[]⟩ ::
  ⟨.none, none, .fields #[], #[]⟩ ::
  ob49 P ::
  ⟨.type "tuple", none, .seq #[] 0, #[]⟩ ::
  ob50 P ::
  ob51 P ::
  ob52 P ::
  ⟨.type "tuple", none, .seq #[] 0, #[]⟩ ::
  ⟨.none, none, .fields #[], #[]⟩ ::
  ob53 P ::
  ⟨.type "tuple", none, .seq #[] 0, #[]⟩ ::
  ob54 P ::
  ob55 P ::
  ob56 P ::
  ⟨.type "tuple", none, .seq #[.none] 0, #[]⟩ ::
  ⟨.type "tuple", none, .seq #[] 0, #[]⟩ ::
  ⟨.none, none, .fields #[], #[]⟩ ::
  ob57 P ::
  ⟨.type "tuple", none, .seq #[] 0, #[]⟩ ::
  ob58 P ::
  ob59 P ::
  ob60 P ::
  ⟨.type "tuple", none, .seq #[] 0, #[]⟩ ::
  ⟨.none, none, .fields #[], #[]⟩ ::
  ob61 P ::
  ⟨.type "tuple", none, .seq #[] 0, #[]⟩ ::
  ob62 P ::
  ob63 P ::
  ob64 P ::
  ⟨.type "tuple", none, .seq #[.ref 61] 0, #[]⟩ ::
  ob65 P ::
  ⟨.none, none, .fields #[], #[]⟩ ::
  ob66 P ::
  ⟨.type "tuple", none, .seq #[] 0, #[]⟩ ::
  ob67 P ::
  ob68 P ::
  ob69 P ::
  ob70 P ::
  ob71 P ::
  ob72 P ::
  ob73 P ::
  ob74 P ::
  ob75 P ::
  ob76 P ::
  ⟨.type "tuple", none, .seq #[] 0, #[]⟩ ::
  ob26 P ::
  ob77 P ::
  ⟨.type "tuple", none, .seq #[] 0, #[]⟩ ::
  ob78 P ::
  ob79 P ::
  ob80 P ::
  ⟨.type "tuple", none, .seq #[] 0, #[]⟩ ::
  ⟨.none, none, .fields #[], #[]⟩ ::
  ob81 P ::
  ⟨.type "tuple", none, .seq #[] 0, #[]⟩ ::
  ob82 P ::
  ob83 P ::
  ob84 P ::
  ⟨.type "tuple", none, .seq #[] 0, #[]⟩ ::
  ⟨.none, none, .fields #[], #[]⟩ ::
  ob85 P ::
  ⟨.type "tuple", none, .seq #[] 0, #[]⟩ ::
  ob86 P ::
  ob87 P ::
  ob88 P ::
  ⟨.type "tuple", none, .seq #[] 0, #[]⟩ ::
  ⟨.none, none, .fields #[], #[]⟩ ::
  ob89 P ::
  ⟨.type "tuple", none, .seq #[] 0, #[]⟩ ::
  ob90 P ::
  ob91 P ::
  ob92 P ::
  ⟨.type "tuple", none, .seq #[] 0, #[]⟩ ::
  ⟨.none, none, .fields #[], #[]⟩ ::
  ob93 P ::
  ⟨.type "tuple", none, .seq #[] 0, #[]⟩ ::
  ob94 P ::
  ob95 P ::
  ob96 P ::
  ob97 P ::
  ob98 P ::
  ob99 P ::
  ob100 P ::
  ob101 P ::
  ob102 P ::
  ⟨.type "builtin_function_or_method", none, .fields #[.builtin "object.__init_subclass__", .ref 179], #[]⟩ :: []), {}⟩
noncomputable def hp18 (P : Params) : Heap := ⟨Array.mk (
  boot_o_0 P ::
  boot_o_1 P ::
  boot_o_2 P ::
  ⟨.type "dict", none, .dict [⟨PyData.keyHash P (.ofString "__name__"), .str (.ofString "__name__") 165, .str (.ofString "law_tl0016_02") 410⟩, ⟨PyData.keyHash P (.ofString "__doc__"), .str (.ofString "__doc__") 166, .none⟩, ⟨PyData.keyHash P (.ofString "__package__"), .str (.ofString "__package__") 167, .none⟩, ⟨PyData.keyHash P (.ofString "__loader__"), .str (.ofString "__loader__") 168, .builtin "__main__.__loader__#opaque"⟩, ⟨PyData.keyHash P (.ofString "__spec__"), .str (.ofString "__spec__") 169, .none⟩, ⟨PyData.keyHash P (.ofString "__annotations__"), .str (.ofString "__annotations__") 170, .ref 6⟩, ⟨PyData.keyHash P (.ofString "__builtins__"), .str (.ofString "__builtins__") 171, .ref 4⟩, ⟨PyData.keyHash P (.ofString "__file__"), .str (.ofString "__file__") 173, .str (.ofString "/claim/cut.py") 172⟩, ⟨PyData.keyHash P (.ofString "__cached__"), .str (.ofString "__cached__") 174, .none⟩, ⟨PyData.keyHash P (.ofString "_wall"), .str (.ofString "_wall") 193, .ref 21⟩, ⟨PyData.keyHash P (.ofString "insort_right"), .str (.ofString "insort_right") 208, .ref 30⟩, ⟨PyData.keyHash P (.ofString "bisect_right"), .str (.ofString "bisect_right") 222, .ref 39⟩, ⟨PyData.keyHash P (.ofString "insort_left"), .str (.ofString "insort_left") 235, .ref 48⟩, ⟨PyData.keyHash P (.ofString "bisect_left"), .str (.ofString "bisect_left") 249, .ref 57⟩, ⟨PyData.keyHash P (.ofString "EMPTYSTRING"), .str (.ofString "EMPTYSTRING") 253, .str (.ofString "") 252⟩, ⟨PyData.keyHash P (.ofString "_Accumulator"), .str (.ofString "_Accumulator") 349, .ref 137⟩, ⟨PyData.keyHash P (.ofString "_netrclex"), .str (.ofString "_netrclex") 409, .ref 179⟩, ⟨PyData.keyHash P (.ofString "_law_lexer"), .str (.ofString "_law_lexer") 422, .ref 190⟩, ⟨PyData.keyHash P (.ofString "_law_pieces"), .str (.ofString "_law_pieces") 434, .ref 197⟩, ⟨PyData.keyHash P (.ofString "_law_price"), .str (.ofString "_law_price") 441, .ref 204⟩, ⟨PyData.keyHash P (.ofString "_law_cheapest"), .str (.ofString "_law_cheapest") 447, .ref 209⟩, ⟨PyData.keyHash P (.ofString "_law_shortest"), .str (.ofString "_law_shortest") 453, .ref 214⟩, ⟨PyData.keyHash P (.ofString "law"), .str (.ofString "law") 459, .ref 219⟩].toArray 23, #[]⟩ ::
  boot_o_4 P ::
  boot_o_5 P ::
  boot_o_6 P ::
  boot_o_7 P ::
  boot_o_8 P ::
  boot_o_9 P ::
  boot_o_10 P ::
  ⟨.type "tuple", none, .seq #[] 0, #[]⟩ ::
  ⟨.none, none, .fields #[.int 1 0, .int 0 0, .ref 20, .int 5 0, .int 0 0, .ref 29, .int 11 0, .int 0 0, .ref 38, .int 31 0, .int 0 0, .ref 47, .int 37 0, .int 0 0, .ref 56, .int 59 0, .int 0 0, .ref 64, .int 93 0, .int 0 0, .ref 147, .int 137 0, .int 0 0, .ref 189, .int 147 0, .int 0 0, .ref 196, .int 156 0, .int 0 0, .ref 203, .int 158 0, .int 0 0, .ref 208, .int 165 0, .int 0 0, .ref 213, .int 170 0, .int 0 0, .ref 218], #[]⟩ ::
  ob0 P ::
  ob1 P ::
  ⟨.type "tuple", none, .seq #[] 0, #[]⟩ ::
  ⟨.none, none, .fields #[], #[]⟩ ::
  ob2 P ::
  ⟨.type "tuple", none, .seq #[] 0, #[]⟩ ::
  ob3 P ::
  ob4 P ::
  ob5 P ::
  ⟨.type "tuple", none, .seq #[.int 0 196, .none] 0, #[]⟩ ::
  ob6 P ::
  ⟨.type "tuple", none, .seq #[] 0, #[]⟩ ::
  ⟨.none, none, .fields #[], #[]⟩ ::
  ob7 P ::
  ⟨.type "tuple", none, .seq #[] 0, #[]⟩ ::
  ob8 P ::
  ob9 P ::
  ob10 P ::
  ⟨.type "tuple", none, .seq #[.int 0 209, .none] 0, #[]⟩ ::
  ob11 P ::
  ⟨.type "tuple", none, .seq #[] 0, #[]⟩ ::
  ⟨.none, none, .fields #[], #[]⟩ ::
  ob12 P ::
  ⟨.type "tuple", none, .seq #[] 0, #[]⟩ ::
  ob13 P ::
  ob14 P ::
  ob15 P ::
  ⟨.type "tuple", none, .seq #[.int 0 223, .none] 0, #[]⟩ ::
  ob16 P ::
  ⟨.type "tuple", none, .seq #[] 0, #[]⟩ ::
  ⟨.none, none, .fields #[], #[]⟩ ::
  ob17 P ::
  ⟨.type "tuple", none, .seq #[] 0, #[]⟩ ::
  ob18 P ::
  ob19 P ::
  ob20 P ::
  ⟨.type "tuple", none, .seq #[.int 0 236, .none] 0, #[]⟩ ::
  ob21 P ::
  ⟨.type "tuple", none, .seq #[] 0, #[]⟩ ::
  ⟨.none, none, .fields #[], #[]⟩ ::
  ob22 P ::
  ⟨.type "tuple", none, .seq #[] 0, #[]⟩ ::
  ob23 P ::
  ob24 P ::
  ob25 P ::
  ⟨.type "tuple", none, .seq #[.type "list"] 0, #[]⟩ ::
  ob26 P ::
  ob27 P ::
  ⟨.type "cell", none, .cell (some (.ref 137)), #[]⟩ ::
  ⟨.type "tuple", none, .seq #[] 0, #[]⟩ ::
  ob28 P ::
  ob29 P ::
  ob30 P ::
  ⟨.type "tuple", none, .seq #[.int 0 266] 0, #[]⟩ ::
  ⟨.type "tuple", none, .seq #[.ref 61] 0, #[]⟩ ::
  ob31 P ::
  ⟨.none, none, .fields #[], #[]⟩ ::
  ob32 P ::
  ⟨.type "tuple", none, .seq #[] 0, #[]⟩ ::
  ob33 P ::
  ob34 P ::
  ob35 P ::
  ⟨.type "tuple", none, .seq #[] 0, #[]⟩ ::
  ⟨.none, none, .fields #[], #[]⟩ ::
  ob36 P ::
  ⟨.type "tuple", none, .seq #[] 0, #[]⟩ ::
  ob37 P ::
  ob38 P ::
  ob39 P ::
  ⟨.type "tuple", none, .seq #[.int 0 285] 0, #[]⟩ ::
  ⟨.type "tuple", none, .seq #[] 0, #[]⟩ ::
  ⟨.none, none, .fields #[], #[]⟩ ::
  ob40 P ::
  ⟨.type "tuple", none, .seq #[] 0, #[]⟩ ::
  ob41 P ::
  ob42 P ::
  ob43 P ::
  ⟨.type "tuple", none, .seq #[.ref 61] 0, #[]⟩ ::
  ob44 P ::
  ⟨.none, none, .fields #[], #[]⟩ ::
  ob45 P ::
  ⟨.type "tuple", none, .seq #[] 0, #[]⟩ ::
  ob46 P ::
  ob47 P ::
  ob48 P ::
  ⟨.type "tuple", none, .seq #[] 0, #[]⟩ ::
  ⟨.none, none, .fields #[], #[]⟩ ::
  ob49 P ::
  ⟨.type "tuple", none, .seq #[] 0, #[]⟩ ::
  ob50 P ::
  ob51 P ::
  ob52 P ::
  ⟨.type "tuple", none, .seq #[] 0, #[]⟩ ::
  ⟨.none, none, .fields #[], #[]⟩ ::
  ob53 P ::
  ⟨.type "tuple", none, .seq #[] 0, #[]⟩ ::
  ob54 P ::
  ob55 P ::
  ob56 P ::
  ⟨.type "tuple", none, .seq #[.none] 0, #[]⟩ ::
  ⟨.type "tuple", none, .seq #[] 0, #[]⟩ ::
  ⟨.none, none, .fields #[], #[]⟩ ::
  ob57 P ::
  ⟨.type "tuple", none, .seq #[] 0, #[]⟩ ::
  ob58 P ::
  ob59 P ::
  ob60 P ::
  ⟨.type "tuple", none, .seq #[] 0, #[]⟩ ::
  ⟨.none, none, .fields #[], #[]⟩ ::
  ob61 P ::
  ⟨.type "tuple", none, .seq #[] 0, #[]⟩ ::
  ob62 P ::
  ob63 P ::
  ob64 P ::
  ⟨.type "tuple", none, .seq #[.ref 61] 0, #[]⟩ ::
  ob65 P ::
  ⟨.none, none, .fields #[], #[]⟩ ::
  ob66 P ::
  ⟨.type "tuple", none, .seq #[] 0, #[]⟩ ::
  ob67 P ::
  ob68 P ::
  ob69 P ::
  ob70 P ::
  ob71 P ::
  ob72 P ::
  ob73 P ::
  ob74 P ::
  ob75 P ::
  ob76 P ::
  ⟨.type "tuple", none, .seq #[] 0, #[]⟩ ::
  ob26 P ::
  ob77 P ::
  ⟨.type "tuple", none, .seq #[] 0, #[]⟩ ::
  ob78 P ::
  ob79 P ::
  ob80 P ::
  ⟨.type "tuple", none, .seq #[] 0, #[]⟩ ::
  ⟨.none, none, .fields #[], #[]⟩ ::
  ob81 P ::
  ⟨.type "tuple", none, .seq #[] 0, #[]⟩ ::
  ob82 P ::
  ob83 P ::
  ob84 P ::
  ⟨.type "tuple", none, .seq #[] 0, #[]⟩ ::
  ⟨.none, none, .fields #[], #[]⟩ ::
  ob85 P ::
  ⟨.type "tuple", none, .seq #[] 0, #[]⟩ ::
  ob86 P ::
  ob87 P ::
  ob88 P ::
  ⟨.type "tuple", none, .seq #[] 0, #[]⟩ ::
  ⟨.none, none, .fields #[], #[]⟩ ::
  ob89 P ::
  ⟨.type "tuple", none, .seq #[] 0, #[]⟩ ::
  ob90 P ::
  ob91 P ::
  ob92 P ::
  ⟨.type "tuple", none, .seq #[] 0, #[]⟩ ::
  ⟨.none, none, .fields #[], #[]⟩ ::
  ob93 P ::
  ⟨.type "tuple", none, .seq #[] 0, #[]⟩ ::
  ob94 P ::
  ob95 P ::
  ob96 P ::
  ob97 P ::
  ob98 P ::
  ob99 P ::
  ob100 P ::
  ob101 P ::
  ob102 P ::
  ⟨.type "builtin_function_or_method", none, .fields #[.builtin "object.__init_subclass__", .ref 179], #[]⟩ ::
  ⟨.type "tuple", none, .seq #[] 0, #[]⟩ ::
  ⟨.none, none, .fields #[], #[]⟩ ::
  ⟨.type "tuple", none, .seq #[.str (.ofString "text") 415, .str (.ofString "read") 416, .str (.ofString "stream") 417] 0, #[]⟩ ::
  ⟨.type "tuple", none, .seq #[.str (.ofString "text") 418, .str (.ofString "at") 419] 0, #[]⟩ ::
  ⟨.none, none, .func ⟨(.ofString "_law_lexer"), (.ofString "_law_lexer"), fP (fAt 12), .stmts (fB (fAt 12)), fS (fAt 12), 0, [], .none, .none, .none, .none, none, .none, .none, 0⟩, #[]⟩ ::
  ⟨.type "code", none, .fields #[.str (.ofString "_law_lexer") 412, .str (.ofString "_law_lexer") 413, .str (.ofString "/claim/cut.py") 414, .int 137 0, .int 1 0, .int 0 0, .int 0 0, .int 3 0, .ref 184, .bool true, .int 181 0, .ref 185, .none, .ref 186, .ref 187, .ref 188, .int 420 0, .int 137 0, .str (.ofString "/claim/cut.py") 421], #[]⟩ ::
  ⟨.type "function", none, .func ⟨(.ofString "_law_lexer"), (.ofString "_law_lexer"), fP (fAt 12), .stmts (fB (fAt 12)), fS (fAt 12), 3, [], .none, .none, .none, .str (.ofString "law_tl0016_02") 410, none, .ref 189, .none, 0⟩, #[]⟩ ::
  ⟨.type "tuple", none, .seq #[] 0, #[]⟩ ::
  ⟨.none, none, .fields #[], #[]⟩ ::
  ⟨.type "tuple", none, .seq #[.str (.ofString "numbers") 426, .str (.ofString "names") 427, .str (.ofString "pieces") 428, .str (.ofString "k") 429, .str (.ofString "white") 430, .str (.ofString "word") 431] 0, #[]⟩ ::
  ⟨.type "tuple", none, .seq #[] 0, #[]⟩ ::
  ⟨.none, none, .func ⟨(.ofString "_law_pieces"), (.ofString "_law_pieces"), fP (fAt 13), .stmts (fB (fAt 13)), fS (fAt 13), 0, [], .none, .none, .none, .none, none, .none, .none, 0⟩, #[]⟩ ::
  ⟨.type "code", none, .fields #[.str (.ofString "_law_pieces") 423, .str (.ofString "_law_pieces") 424, .str (.ofString "/claim/cut.py") 425, .int 147 0, .int 2 0, .int 0 0, .int 0 0, .int 3 0, .ref 191, .bool true, .int 181 0, .ref 192, .none, .ref 193, .ref 194, .ref 195, .int 432 0, .int 147 0, .str (.ofString "/claim/cut.py") 433], #[]⟩ ::
  ⟨.type "function", none, .func ⟨(.ofString "_law_pieces"), (.ofString "_law_pieces"), fP (fAt 13), .stmts (fB (fAt 13)), fS (fAt 13), 3, [], .none, .none, .none, .str (.ofString "law_tl0016_02") 410, none, .ref 196, .none, 0⟩, #[]⟩ ::
  ⟨.type "tuple", none, .seq #[] 0, #[]⟩ ::
  ⟨.none, none, .fields #[], #[]⟩ ::
  ⟨.type "tuple", none, .seq #[.str (.ofString "parcel") 438] 0, #[]⟩ ::
  ⟨.type "tuple", none, .seq #[] 0, #[]⟩ ::
  ⟨.none, none, .func ⟨(.ofString "_law_price"), (.ofString "_law_price"), fP (fAt 14), .stmts (fB (fAt 14)), fS (fAt 14), 0, [], .none, .none, .none, .none, none, .none, .none, 0⟩, #[]⟩ ::
  ⟨.type "code", none, .fields #[.str (.ofString "_law_price") 435, .str (.ofString "_law_price") 436, .str (.ofString "/claim/cut.py") 437, .int 156 0, .int 1 0, .int 0 0, .int 0 0, .int 3 0, .ref 198, .bool true, .int 181 0, .ref 199, .none, .ref 200, .ref 201, .ref 202, .int 439 0, .int 156 0, .str (.ofString "/claim/cut.py") 440], #[]⟩ ::
  ⟨.type "function", none, .func ⟨(.ofString "_law_price"), (.ofString "_law_price"), fP (fAt 14), .stmts (fB (fAt 14)), fS (fAt 14), 3, [], .none, .none, .none, .str (.ofString "law_tl0016_02") 410, none, .ref 203, .none, 0⟩, #[]⟩ ::
  ⟨.type "tuple", none, .seq #[] 0, #[]⟩ ::
  ⟨.none, none, .fields #[], #[]⟩ ::
  ⟨.none, none, .func ⟨(.ofString "_law_cheapest"), (.ofString "_law_cheapest"), fP (fAt 15), .stmts (fB (fAt 15)), fS (fAt 15), 0, [], .none, .none, .none, .none, none, .none, .none, 0⟩, #[]⟩ ::
  ⟨.type "code", none, .fields #[.str (.ofString "_law_cheapest") 442, .str (.ofString "_law_cheapest") 443, .str (.ofString "/claim/cut.py") 444, .int 158 0, .int 1 0, .int 0 0, .int 0 0, .int 3 0, .ref 205, .bool true, .int 181 0, .ref 206, .none, .none, .none, .ref 207, .int 445 0, .int 158 0, .str (.ofString "/claim/cut.py") 446], #[]⟩ ::
  ⟨.type "function", none, .func ⟨(.ofString "_law_cheapest"), (.ofString "_law_cheapest"), fP (fAt 15), .stmts (fB (fAt 15)), fS (fAt 15), 3, [], .none, .none, .none, .str (.ofString "law_tl0016_02") 410, none, .ref 208, .none, 0⟩, #[]⟩ ::
  ⟨.type "tuple", none, .seq #[] 0, #[]⟩ ::
  ⟨.none, none, .fields #[], #[]⟩ ::
  ⟨.none, none, .func ⟨(.ofString "_law_shortest"), (.ofString "_law_shortest"), fP (fAt 16), .stmts (fB (fAt 16)), fS (fAt 16), 0, [], .none, .none, .none, .none, none, .none, .none, 0⟩, #[]⟩ ::
  ⟨.type "code", none, .fields #[.str (.ofString "_law_shortest") 448, .str (.ofString "_law_shortest") 449, .str (.ofString "/claim/cut.py") 450, .int 165 0, .int 1 0, .int 0 0, .int 0 0, .int 3 0, .ref 210, .bool true, .int 181 0, .ref 211, .none, .none, .none, .ref 212, .int 451 0, .int 165 0, .str (.ofString "/claim/cut.py") 452], #[]⟩ ::
  ⟨.type "function", none, .func ⟨(.ofString "_law_shortest"), (.ofString "_law_shortest"), fP (fAt 16), .stmts (fB (fAt 16)), fS (fAt 16), 3, [], .none, .none, .none, .str (.ofString "law_tl0016_02") 410, none, .ref 213, .none, 0⟩, #[]⟩ ::
  ⟨.type "tuple", none, .seq #[] 0, #[]⟩ ::
  ⟨.none, none, .fields #[], #[]⟩ ::
  ⟨.none, none, .func ⟨(.ofString "law"), (.ofString "law"), fP (fAt 17), .stmts (fB (fAt 17)), fS (fAt 17), 0, [], .none, .none, .none, .none, none, .none, .none, 0⟩, #[]⟩ ::
  ⟨.type "code", none, .fields #[.str (.ofString "law") 454, .str (.ofString "law") 455, .str (.ofString "/claim/cut.py") 456, .int 170 0, .int 1 0, .int 0 0, .int 0 0, .int 3 0, .ref 215, .bool true, .int 181 0, .ref 216, .none, .none, .none, .ref 217, .int 457 0, .int 170 0, .str (.ofString "/claim/cut.py") 458], #[]⟩ ::
  ⟨.type "function", none, .func ⟨(.ofString "law"), (.ofString "law"), fP (fAt 17), .stmts (fB (fAt 17)), fS (fAt 17), 3, [], .none, .none, .none, .str (.ofString "law_tl0016_02") 410, none, .ref 218, .none, 0⟩, #[]⟩ :: []), {}⟩
end
theorem p_pre : ∀ w : World, (fun os => topGo treeTable Pw w 11 annT 12 (⟨boot_heap w.params, Array.mk [], boot_drawn, boot_toks, os⟩ : Shared) (topStub Pw)) = fun os => some ((⟨hpa w.params, Array.mk [], boot_drawn, nat_lit 187, os⟩ : Shared), ⟨denote treeTable cT, cT, ⟨0, 0, 0, 0⟩, [topFrame qT]⟩) := fun w => by kernel_rfl
theorem p_blk : ∀ w : World, (fun os => segRun treeTable Pw w 11 annT 1 1 (⟨hpa w.params, Array.mk [], boot_drawn, nat_lit 187, os⟩ : Shared) (blockOf bT envT cT ⟨0, 0, 0, 0⟩ [topFrame qT])) = fun os => some (.next, (⟨hpa w.params, Array.mk [], boot_drawn, nat_lit 187, os⟩ : Shared), cT, ⟨0, 0, 0, 0⟩) := fun w => by kernel_rfl
theorem p_0 : ∀ w : World, (fun os => segRun treeTable Pw w 11 annT 1 219 (⟨hpa w.params, Array.mk [], boot_drawn, nat_lit 187, os⟩ : Shared) (piecesOf lT0 envT cT ⟨0, 0, 0, 0⟩ [topFrame qT])) = fun os => some (.next, (⟨hp8 w.params, Array.mk [], boot_drawn, nat_lit 254, os⟩ : Shared), cT, ⟨58, 0, 58, 11⟩) := fun w => by kernel_rfl
theorem p_1 : ∀ w : World, (fun os => segRun treeTable Pw w 11 annT 1 505 (⟨hp8 w.params, Array.mk [], boot_drawn, nat_lit 254, os⟩ : Shared) (piecesOf lT1 envT cT ⟨58, 0, 58, 11⟩ [topFrame qT])) = fun os => some (.next, (⟨hp9 w.params, Array.mk [], boot_drawn, nat_lit 350, os⟩ : Shared), cT, ⟨59, 0, 91, 32⟩) := fun w => by kernel_rfl
theorem p_2 : ∀ w : World, (fun os => segRun treeTable Pw w 11 annT 1 333 (⟨hp9 w.params, Array.mk [], boot_drawn, nat_lit 350, os⟩ : Shared) (piecesOf lT2 envT cT ⟨59, 0, 91, 32⟩ [topFrame qT])) = fun os => some (.next, (⟨hp11 w.params, Array.mk [], boot_drawn, nat_lit 410, os⟩ : Shared), cT, ⟨93, 0, 135, 35⟩) := fun w => by kernel_rfl
theorem p_3 : ∀ w : World, (fun os => segRun treeTable Pw w 11 annT 1 184 (⟨hp11 w.params, Array.mk [], boot_drawn, nat_lit 410, os⟩ : Shared) (piecesOf lT3 envT cT ⟨93, 0, 135, 35⟩ [topFrame qT])) = fun os => some (.next, (⟨hp18 w.params, Array.mk [], boot_drawn, nat_lit 460, os⟩ : Shared), cT, ⟨170, 0, 222, 81⟩) := fun w => by kernel_rfl
theorem p_fin : ∀ w : World, (fun os => topRun treeTable Pw w 11 annT 2 (⟨hp18 w.params, Array.mk [], boot_drawn, nat_lit 460, os⟩ : Shared) ⟨doneF .next, cT, ⟨170, 0, 222, 81⟩, [topFrame qT]⟩) = fun os => some (⟨hp18 w.params, Array.mk [], boot_drawn, nat_lit 460, os⟩ : Shared) := fun w => by kernel_rfl
theorem p_app : bT = lT0 ++ (lT1 ++ (lT2 ++ (lT3 ++ []))) := by kernel_rfl
theorem p_run (w : World) (os : OsState) : topRun treeTable Pw w 11 annT (12 + (1 + (219 + (505 + (333 + (184 + (2))))))) (⟨boot_heap w.params, Array.mk [], boot_drawn, boot_toks, os⟩ : Shared) (topStub Pw) = some (⟨hp18 w.params, Array.mk [], boot_drawn, nat_lit 460, os⟩ : Shared) := by
  refine go_top (congrFun (p_pre w) os) (piece_block (congrFun (p_blk w) os) ?_)
  rw [p_app]
  exact piece_app (congrFun (p_0 w) os) (piece_app (congrFun (p_1 w) os) (piece_app (congrFun (p_2 w) os) (piece_app (congrFun (p_3 w) os) (piece_nil (congrFun (p_fin w) os)))))
theorem p_open : ∀ w : World, (fencedOpening treeTable Pw w 2600).map (fun s => (s.heap, s.gens, s.drawn, s.toks)) = some (boot_heap w.params, Array.mk [], boot_drawn, boot_toks) := boot_open (by kernel_rfl) (by rfl) (fun s => by kernel_rfl)
theorem left : LeftO Pw qv loosev (fun s => xlAt qv [] s && recOk (RowW.records PySem.Challenge.rw_tl0016_02.row.toRowW) s) Hk.obs Hk.val 2600 :=
  LeftO.of_pieces (H₀ := boot_heap) (H₁ := hp18) (gs₀ := Array.mk []) (gs₁ := Array.mk []) (d₀ := boot_drawn) (d₁ := boot_drawn) (k₀ := boot_toks) (k₁ := nat_lit 460) (m₀ := 11) (ann := annT)
    p_open (fun w => by kernel_rfl) p_run (by rfl) (fun w => by kernel_rfl)
end Mine
end

section
namespace Mine
open PySem PySem.W PyProof.Rows PySem.Calls PySem.Spec

noncomputable abbrev Led := List (Addr × Obj)
noncomputable def Kept (tl : Led) (h h' : Heap) : Prop := ∀ b o, b ∉ tl.map (·.1) → h.get? b = some o → h'.get? b = some o

noncomputable abbrev AR (dp un : Nat) (gd : Option (List Code)) (fr : List Env) : Around := { handled := none, depth := dp, frames := some fr, guards := gd, units := un }

structure Amb (b₀ : Heap) (tl : Led) (fr : List Env) (s : Shared) : Prop where
  frames : s.heap.FunFrames b₀ fr
  off : ∀ env ∈ fr, ∀ p ∈ tl, env.frame ≠ some p.1
  stays : b₀.StaysIn s.heap
  cells : ∀ p ∈ tl, s.heap.get? p.1 = some p.2 ∧ b₀.get? p.1 = none

noncomputable def Fresh (b₀ : Heap) (tl tl' : Led) (h h' : Heap) : Prop :=
  ∀ p ∈ tl', h'.get? p.1 = some p.2 ∧ b₀.get? p.1 = none ∧ (p.1 ∈ tl.map (·.1) ∨ h.get? p.1 = none)

noncomputable def FS (P : Program) (w : World) (b₀ : Heap) (D U : Nat) (f : Value) (args : Args) (tl : Led) (Ret : Value → Led → Prop) : Prop :=
  ∀ (dp un : Nat) (gd : Option (List Code)) (fr : List Env) (s : Shared) (R : Result → Shared → Prop), Amb b₀ tl fr s →
    dp + D < recursionLimit → un + U < cLine →
    (∀ v tl' h' tk, Ret v tl' → Kept tl s.heap h' → Fresh b₀ tl tl' s.heap h' → R (.ok (.ret v)) { s with heap := h', toks := tk }) →
    codeAny (model P w) (AR dp un gd fr) (.call f args) R s

noncomputable def Done (g : Heap) (Ret : Value → Led → Prop) (s : Shared) (v : Value) (s' : Shared) : Prop :=
  ∃ L m tl' h' tk, s' = { s with heap := h', toks := tk } ∧ Fr g L h' m ∧ News g L h' tl' ∧ Ret v tl'

section
variable {P : Program} {w : World} {b₀ : Heap} {D U : Nat} {tl : Led} {Ret : Value → Led → Prop} {K : Frag} {p : Program} {loose : List Str} {mean : ExcName → Option Value} {mg mb : Str → Option Value}
  {name qual : Str} {params : Arguments} {body : List Stmt} {scope : Scope} {cl : List (Str × Addr)} {dV kV doc pm cdv ct oc : Value} {an od : Option Addr} {osl : Array (Option Value)} {f : Addr} {args : Args} {binds : List (Str × Value)}

theorem hidden_none {l : List Addr} {h : Heap} {b : Addr} (e : (hideAll h l).get? b = none) : b ∈ l ∨ h.get? b = none := by
  by_cases hb : b ∈ l
  · exact .inl hb
  · cases q : h.get? b with
    | none => exact .inr rfl
    | some o => rw [hideAll_get l q hb] at e; cases e

theorem enter (X : K.In b₀) (T : Top p loose mean mg mb b₀)
    (ho : K.lookup f = some ⟨oc, od, .func (fnX name qual params body scope cl dV kV doc pm an cdv ct), osl⟩) (hcd : codeIn K cdv qual = true)
    (hbind : ∀ s : Shared, K.In s.heap → BindsTo s (fnX name qual params body scope cl dV kV doc pm an cdv ct) args binds) (hloc : ∀ y ∈ binds, scope.names.lookup y.1 = some .local)
    (h : ∀ dp un gd fr s g L' h₁, dp + D < recursionLimit → un + U < cLine → Fr g L' h₁ (fun y => binds.reverse.lookup y) → News g L' h₁ tl → Below (AR dp un gd fr) b₀ fr g → b₀.StaysIn g → K.In g → Top p loose mean mg mb g →
      wpAny (model P w) ((AR dp un gd fr).deeper (envX qual scope L' f cdv cl)) (execs body (envX qual scope L' f cdv cl))
        (fun fl s' => Done g Ret s (match fl with | .ret v => v | _ => .none) s') (fun _ _ => False) { s with heap := h₁, toks := s.toks + binds.length })
    (hD : 0 < D) (hcell : ∀ x ∈ scope.names, x.2 ≠ .cell) (hco : scope.isCoroutine = false) (hgen : scope.isGenerator = false) (hk : scope.kind = .function) :
    FS P w b₀ D U (.ref f) args tl Ret := by
  intro dp un gd fr s R M hd hu hR
  have st : b₀.StaysIn (hideAll s.heap (tl.map (·.1))) := fun b o e => hideAll_get _ (M.stays b o e) fun q => by
    obtain ⟨x, hx, rfl⟩ := List.mem_map.mp q
    rw [(M.cells x hx).2] at e; cases e
  have B : Below (AR dp un gd fr) b₀ fr (hideAll s.heap (tl.map (·.1))) := ⟨rfl, st, funFrames_hideAll M.frames fun env he a ha => by
    obtain ⟨x, hx, rfl⟩ := List.mem_map.mp ha
    exact M.off env he x hx⟩
  have XS : K.In s.heap := X.keeps M.stays
  refine codeAny_call_def (fd := fnX name qual params body scope cl dV kV doc pm an cdv ct) (body := body) (binds := binds) (show dp < recursionLimit by k_extra "o") (XS _ _ ho) rfl (T.nolimit.keeps M.stays) (codeRec_of XS hcd) rfl (hbind s XS) hcell hloc (fun h₁ hns hk₁ => ?_) hco hgen hk
  refine wpAny_mono (h dp un gd fr s (hideAll s.heap (tl.map (·.1))) s.heap.objs.size h₁ hd hu ⟨hns, fun b o e => hk₁ b o (of_hideAll _ e), Nat.le_of_eq (hideAll_size _ _)⟩
    (fun q hq => ⟨hk₁ _ _ (M.cells q hq).1, Nat.ne_of_lt (Heap.lt_size (M.cells q hq).1), hideAll_none _ (List.mem_map_of_mem hq)⟩) B st (X.keeps fun b o e => st b o e) (T.keeps fun b o e => st b o e)) (fun fl s' hl => ?_) fun _ _ y => y.elim
  obtain ⟨L, m, tl', h', tk, rfl, F', N', r⟩ := hl
  refine hR _ tl' h' tk r (fun b o hb e => F'.keep b o (hideAll_get _ e hb)) fun q hq => ⟨(N' q hq).1, ?_, hidden_none (N' q hq).2.2⟩
  cases z : b₀.get? q.1 with
  | none => rfl
  | some o => have := (N' q hq).2.2; rw [st _ _ z] at this; cases this


theorem enterC (X : K.In b₀) (T : Top p loose mean mg mb b₀)
    (ho : K.lookup f = some ⟨oc, od, .func (fnX name qual params body scope [] dV kV doc pm an cdv ct), osl⟩) (hcd : codeIn K cdv qual = true)
    (hbind : ∀ s : Shared, K.In s.heap → BindsTo s (fnX name qual params body scope [] dV kV doc pm an cdv ct) args binds)
    (hkind : (binds.all fun y => scope.names.lookup y.1 == some .local || scope.names.lookup y.1 == some .cell) = true) (hnd : ((cellsFrom 0 scope.names []).map (·.1)).Nodup)
    (h : ∀ dp un gd fr s g L' h₁ tk cells, dp + D < recursionLimit → un + U < cLine → Fr g L' h₁ (bindL (envOfC qual scope L' f cdv).kindOf binds fun _ => none) → News g L' h₁ (cells ++ tl) →
      CellsAre (bindC (envOfC qual scope L' f cdv).kindOf binds fun _ => none) (cellsFrom (L' + 1) scope.names []) cells → (∀ p ∈ tl, p.1 < L') → Below (AR dp un gd fr) b₀ fr g → b₀.StaysIn g → K.In g → Top p loose mean mg mb g →
      wpAny (model P w) ((AR dp un gd fr).deeper (envOfC qual scope L' f cdv)) (execs body (envOfC qual scope L' f cdv))
        (fun fl s' => Done g Ret s (match fl with | .ret v => v | _ => .none) s') (fun _ _ => False) { s with heap := h₁, toks := tk })
    (hD : 0 < D) (hco : scope.isCoroutine = false) (hgen : scope.isGenerator = false) (hk : scope.kind = .function) :
    FS P w b₀ D U (.ref f) args tl Ret := by
  intro dp un gd fr s R M hd hu hR
  have st : b₀.StaysIn (hideAll s.heap (tl.map (·.1))) := fun b o e => hideAll_get _ (M.stays b o e) fun q => by
    obtain ⟨x, hx, rfl⟩ := List.mem_map.mp q
    rw [(M.cells x hx).2] at e; cases e
  have B : Below (AR dp un gd fr) b₀ fr (hideAll s.heap (tl.map (·.1))) := ⟨rfl, st, funFrames_hideAll M.frames fun env he a ha => by
    obtain ⟨x, hx, rfl⟩ := List.mem_map.mp ha
    exact M.off env he x hx⟩
  have XS : K.In s.heap := X.keeps M.stays
  refine codeAny_call_function (show dp < recursionLimit by k_extra "o") (XS _ _ ho) rfl hco hgen rfl (codeRec_of XS hcd) (hbind s XS _ _ _ _ ?_)
  refine wpAny_newFunctionEnv_cells hk (kindsX hkind _) fun env' he s' x => ?_
  subst he
  refine ⟨(T.nolimit.keeps M.stays).keeps x.toInCall.keep, codeAny_func ?_⟩
  obtain ⟨h₁, tk, rfl, _⟩ := x.done
  have hk₁ := x.toInCall.keep
  obtain ⟨cells, NC, Y⟩ := Cl.news (h₀ := s.heap) (Nat.le_refl _) fun n c hm => ⟨x.cell n c (lookup_of_mem_nodup (cellsFrom_names scope.names 0 (s.heap.objs.size + 1) [] [] rfl ▸ hnd) hm), x.above n c hm⟩
  refine wpAny_mono (h dp un gd fr s (hideAll s.heap (tl.map (·.1))) s.heap.objs.size h₁ tk cells hd hu ⟨x.toInCall.ns, fun b o e => hk₁ b o (of_hideAll _ e), Nat.le_of_eq (hideAll_size _ _)⟩
    (fun q hq => ?_) Y (fun q hq => Heap.lt_size (M.cells q hq).1) B st (X.keeps fun b o e => st b o e) (T.keeps fun b o e => st b o e)) (fun fl s' hl => ?_) fun _ _ y => y.elim
  · rcases List.mem_append.mp hq with hq | hq
    · refine ⟨(NC q hq).1, (NC q hq).2.1, ?_⟩
      cases z : (hideAll s.heap (tl.map (·.1))).get? q.1 with
      | none => rfl
      | some o => have := of_hideAll _ z; rw [(NC q hq).2.2] at this; cases this
    · exact ⟨hk₁ _ _ (M.cells q hq).1, Nat.ne_of_lt (Heap.lt_size (M.cells q hq).1), hideAll_none _ (List.mem_map_of_mem hq)⟩
  obtain ⟨L, m, tl', h', tk', rfl, F', N', r⟩ := hl
  refine hR _ tl' h' tk' r (fun b o hb e => F'.keep b o (hideAll_get _ e hb)) fun q hq => ⟨(N' q hq).1, ?_, hidden_none (N' q hq).2.2⟩
  cases z : b₀.get? q.1 with
  | none => rfl
  | some o => have := (N' q hq).2.2; rw [st _ _ z] at this; cases this


end

noncomputable def Stop (P : Prop) : Prop := P
theorem Stop.out {P : Prop} (h : Stop P) : P := h

section
variable {prog : Program} {w : World} {A : Around} {E : Value → Shared → Prop} {env : Env} {test : PySem.Expr} {body orelse : List Stmt} {Q : Flow → Shared → Prop}
end


theorem strs_app {vs us : List Value} {ss rs : List Str} (h : StrsAre vs ss) (k : StrsAre us rs) : StrsAre (vs ++ us) (ss ++ rs) := by
  induction h with
  | nil => exact k
  | cons y t h ih => exact .cons y t ih
section
variable {prog : Program} {w : World} {A : Around} {E : Value → Shared → Prop} {s : Shared} {h₀ : Heap} {L D : Addr} {m : Str → Option Value} {news news' : Led} {vs : List Value} {n : Nat}
end

noncomputable def Off (d : Addr) (l : Led) : Prop := ∀ p ∈ l, p.1 ≠ d

section
variable {prog : Program} {w : World} {A : Around} {E : Value → Shared → Prop} {s : Shared} {h₀ : Heap} {m : Str → Option Value} {news : Led} {env : Env} {scope : Scope} {x z : Str} {ifs : List PySem.Expr} {elt : PySem.Expr} {l : Addr} {vs : List Value} {nn : Nat}

end



section
variable {prog : Program} {w : World} {A : Around} {E : Value → Shared → Prop} {s : Shared} {env : Env} {h₀ : Heap} {x : Str} {body : List Stmt} {Q : Flow → Shared → Prop}

end


theorem lenS_N {prog : Program} {w : World} {A : Around} {E : Value → Shared → Prop} {s : Shared} {x : Str} {t : Tok} {Q : Value → Shared → Prop} (hfit : x.length ≤ 1000)
    (h : ∀ t tk, Q (.int x.length t) { s with toks := tk }) : wpAny (model prog w) A (call (.builtin "len") [.str x t]) Q E s :=
  P.len_str (by k_extra "o") (h _ _)


section
variable {prog : Program} {w : World} {A : Around} {E : Value → Shared → Prop} {s : Shared} {h₀ : Heap} {m : Str → Option Value} {news : Led} {env : Env} {scope : Scope} {x z : Str} {ifs : List PySem.Expr} {elt iter : PySem.Expr} {cl : List (Str × Addr)}





end

section
variable {M : Model} {A : Around} {E : Value → Shared → Prop} {s : Shared} {h₀ : Heap} {L : Addr} {m mg mb : Str → Option Value} {news : Led} {K : Frag} {p : Program} {loose : List Str} {cenv : Env} {x : Str} {pos : Pos} {v : Value} {Q : Value → Shared → Prop}
end



noncomputable def KeepOk (f : Value) (h : Heap) : Prop := ∀ M : Model, ∃ k, (k = Keeper.frame ∨ k = Keeper.machine ∨ k = Keeper.boundFrame) ∧ Looks M h (keeperOf f) k
section
variable {M : Model} {A : Around} {E : Value → Shared → Prop} {s : Shared} {env : Env} {pos : Pos} {f : Value} {Q : Value → Shared → Prop}
theorem callWith_0 (hk : KeepOk f s.heap) (h : wpAny M A (call f []) Q E s) : wpAny M A (callWith pos f [] (backTo pos (starEach [] env)) []) Q E s :=
  callWith_of (P := KeepOk f) rfl (fun h k => k M) (evalArgs_nil3 ⟨hk, h⟩)
end
theorem newList_N {M : Model} {A : Around} {E : Value → Shared → Prop} {s : Shared} {h₀ : Heap} {L : Addr} {m : Str → Option Value} {news : Led} {vs : List Value} {Q : Value → Shared → Prop} (F : Fr h₀ L s.heap m) (N : News h₀ L s.heap news) (hl : vs.length ≤ 1000)
    (h : ∀ D h', Fr h₀ L h' m → News h₀ L h' ((D, listOf vs.toArray 0) :: news) → (∀ p ∈ news, p.1 < D) → L < D → Q (.ref D) { s with heap := h' }) : wpAny M A (newList vs) Q E s :=
  PyProof.Rows.newList_N F N (fun h' F' N' => h _ h' F' N' (fun p hp => Heap.lt_size (N p hp).1) F.ns.lt) (Nat.le_trans hl (by decide))


end Mine
end

section
namespace Mine
open PySem PySem.W PyProof.Rows PySem.Calls PySem.Spec
theorem slot_cit_next : Slot "callable_iterator" "__next__" "callable_iterator.__next__" :=
  .of (owner := "callable_iterator") (n := "__next__") (by rw [typeLookup_type, builtinLookup_eq_fast]; kernel_rfl) (by decide +kernel) (by decide +kernel) (by decide +kernel)
    (by first | exact .inl (by decide +kernel) | exact .inr (by decide +kernel)) (by rw [isSubtype_type]; kernel_rfl)
theorem slot_cit_iter : Slot "callable_iterator" "__iter__" "callable_iterator.__iter__" :=
  .of (owner := "callable_iterator") (n := "__iter__") (by rw [typeLookup_type, builtinLookup_eq_fast]; kernel_rfl) (by decide +kernel) (by decide +kernel) (by decide +kernel)
    (by first | exact .inl (by decide +kernel) | exact .inr (by decide +kernel)) (by rw [isSubtype_type]; kernel_rfl)
theorem entry_cit_next : entryFor table "callable_iterator.__next__" = some Builtin.«callable_iterator.__next__» := entryFor_of_tree (by kernel_rfl)
theorem entry_cit_iter : entryFor table "callable_iterator.__iter__" = some Builtin.«dict_keyiterator.__iter__» :=
  entryFor_alias (id' := "dict_keyiterator.__iter__") (by kernel_rfl) rfl (by decide +kernel) (by kernel_rfl)
theorem args_cit_next (a : Value) : argsOk "callable_iterator.__next__" ⟨[a], []⟩ := by unfold argsOk; kernel_rfl
theorem args_cit_iter (a : Value) : argsOk "callable_iterator.__iter__" ⟨[a], []⟩ := by unfold argsOk; kernel_rfl
theorem entry_iter' : entryFor table "iter" = some Builtin.«iter» := entryFor_of_tree (by kernel_rfl)
noncomputable abbrev citObj (mo : Addr) (t : Tok) : Obj := { cls := .type "callable_iterator", data := .fields #[.ref mo, .str "" t, .bool false] }
noncomputable abbrev citEnd : Obj := { cls := .type "callable_iterator", data := .fields #[.none, .none, .bool true] }

theorem callBorrowed_eq (f : Value) (pos : List Value) : callBorrowed f pos = (call f pos).keep [borrowed] := by
  show Sem.call _ _ _ _ _ = Sem.call _ _ _ _ _
  congr 1
  funext r
  cases r with
  | error e => rfl
  | ok fl => cases fl <;> rfl

section
variable {prog : Program} {w : World} {A : Around} {E : Value → Shared → Prop} {s : Shared}
theorem borrows_meth {mo f : Addr} {self : Value} {fo : Obj} {fd : FuncData} {Q : Bool → Shared → Prop} (hm : s.heap.get? mo = some (methodObj (.ref f) self)) (hf : s.heap.get? f = some fo) (hd : fo.data = .func fd) (h : Q true s) :
    wpAny (model prog w) A (borrowsExactly (.ref mo)) Q E s := by
  unfold borrowsExactly
  refine wpAny_bind (wpAny_load hm ?_)
  show wpAny _ _ (load f >>= _) _ _ _
  refine wpAny_bind (wpAny_load hf ?_)
  rw [hd]
  exact wpAny_pure h

theorem cit_self {ci mo : Addr} {t : Tok} {Q : Value → Shared → Prop} (hc : s.heap.get? ci = some (citObj mo t)) (h : Q (.ref ci) s) : wpAny (model prog w) A (pyIter (.ref ci)) Q E s := by
  have hT : s.TypeIs (.ref ci) "callable_iterator" := ⟨_, hc, rfl⟩
  refine wpAny_pyIter_slot hT slot_cit_iter (wpAny_call_entry slot_cit_iter hT entry_cit_iter ?_ (args_cit_iter _))
  show wpAny _ _ (ret (.ref ci)) _ _ s
  exact wpAny_pure ⟨_, rfl, "callable_iterator", _, hT, slot_cit_next.lookup, h⟩

theorem stop_it {α : Type} {Q : α → Shared → Prop} {E : Value → Shared → Prop} (hh : A.handled = none) (h : ∀ h' e, (∀ b o, s.heap.get? b = some o → h'.get? b = some o) → (∃ oe, h'.get? e = some oe ∧ oe.cls = .type "StopIteration") → E (.ref e) { s with heap := h' }) :
    wpAny (model prog w) A (Builtin.SmallTypes.stopIteration : Sem α) Q E s := by
  unfold Builtin.SmallTypes.stopIteration
  refine wpAny_bind ?_
  simp only [newExc, newTuple]
  refine wpAny_bind (wpAny_newObj_type ?_ (by size_fits))
  refine wpAny_bind (m := firstArgMember _ _) (wpAny_of_eq (a := Value.none) (by first | rfl | (simp only [firstArgMember]; rfl)) ?_)
  refine wpAny_newObj_type ?_ (by size_fits)
  simp only [raiseNew]
  refine wpAny_bind (wpAny_handled ?_)
  rw [hh]
  refine wpAny_bind (wpAny_pure (wpAny_throw ?_))
  exact h _ _ (fun b o e => Heap.get?_push_of_some _ (Heap.get?_push_of_some _ e)) ⟨_, Heap.get?_push_size _ rfl, rfl⟩

theorem cit_next_end {ci : Addr} {Q : Option Value → Shared → Prop} (hh : A.handled = none) (hc : s.heap.get? ci = some citEnd)
    (h : ∀ h', (∀ b o, s.heap.get? b = some o → h'.get? b = some o) → Q none { s with heap := h' }) : wpAny (model prog w) A (pyNext (.ref ci)) Q E s := by
  have hT : s.TypeIs (.ref ci) "callable_iterator" := ⟨_, hc, rfl⟩
  unfold pyNext
  refine wpAny_bind (wpAny_attempt (wpAny_callSpecial?_slot (name := Str.ofString "__next__") hT slot_cit_next (wpAny_call_entry slot_cit_next hT entry_cit_next ?_ (args_cit_next _))))
  show wpAny _ _ (field (.ref ci) 2 >>= _) _ _ s
  refine wpAny_bind (wpAny_field hc rfl (x := .bool true) rfl ?_)
  show wpAny _ _ (if (Value.bool true == Value.bool true) = true then _ else _) _ _ s
  rw [if_pos (by decide)]
  refine wpAny_bind (wpAny_rule (wpAny_bind (stop_it (by first | exact hh | rw [show A.in1.handled = none from hh]) fun h' e hk he => ?_)))
  refine wpAny_bind (wpAny_isInstance (T := "StopIteration") (b := true) he isSubtype_stop ?_)
  exact wpAny_pure (h h' hk)

theorem cit_next {ci mo f : Addr} {self : Value} {t : Tok} {fo : Obj} {fd : FuncData} {Q : Option Value → Shared → Prop} (hh : A.handled = none) (hc : s.heap.get? ci = some (citObj mo t)) (hm : s.heap.get? mo = some (methodObj (.ref f) self)) (hf : s.heap.get? f = some fo) (hd : fo.data = .func fd)
    (hcall : wpAny (model prog w) A.in1 (call (.ref mo) []) (fun r s' => ∃ x u, r = .str x u ∧ s'.heap.get? ci = some (citObj mo t) ∧ s'.heap.get? mo = some (methodObj (.ref f) self) ∧ s'.heap.get? f = some fo ∧
      (x ≠ "" → Q (some (.str x u)) s') ∧ (x = "" → ∀ h', (∀ b o, b ≠ ci → s'.heap.get? b = some o → h'.get? b = some o) → h'.get? ci = some citEnd → Q none { s' with heap := h' })) (fun _ _ => False) s) :
    wpAny (model prog w) A (pyNext (.ref ci)) Q E s := by
  have hT : s.TypeIs (.ref ci) "callable_iterator" := ⟨_, hc, rfl⟩
  unfold pyNext
  refine wpAny_bind (wpAny_attempt (wpAny_callSpecial?_slot (name := Str.ofString "__next__") hT slot_cit_next (wpAny_call_entry slot_cit_next hT entry_cit_next ?_ (args_cit_next _))))
  show wpAny _ _ (field (.ref ci) 2 >>= _) _ _ s
  refine wpAny_bind (wpAny_field hc rfl (x := .bool false) rfl ?_)
  show wpAny _ _ (if (Value.bool false == Value.bool true) = true then _ else _) _ _ s
  rw [if_neg (by decide)]
  refine wpAny_bind (wpAny_field hc rfl (x := .ref mo) rfl ?_)
  refine wpAny_bind (wpAny_attempt ?_)
  unfold callOutOfASlot
  refine wpAny_bind (borrows_meth hm hf hd ?_)
  rw [if_pos rfl, callBorrowed_eq]
  refine Calls.wpAny_keep ?_
  refine wpAny_mono hcall ?_ (fun _ _ h => h.elim)
  rintro r s' ⟨x, u, rfl, hc', hm', hf', hgo, hend⟩
  show wpAny _ _ (field (.ref ci) 2 >>= _) _ _ s'
  refine wpAny_bind (wpAny_field hc' rfl (x := .bool false) rfl ?_)
  show wpAny _ _ (if (Value.bool false == Value.bool true) = true then _ else _) _ _ s'
  rw [if_neg (by decide)]
  refine wpAny_bind (wpAny_field hc' rfl (x := .str "" t) rfl ?_)
  refine wpAny_bind ?_
  show wpAny _ _ (eqBool (.str "" t) (.str x u)) _ _ s'
  refine eqBool_str ?_
  by_cases hx : x = ""
  · have e1 : ((("" : Str) == x) : Bool) = true := by rw [hx]; exact beq_self_eq_true _
    simp only [e1]
    rw [if_neg (by decide)]
    refine wpAny_bind (wpAny_rule (wpAny_bind ?_))
    show wpAny _ _ (field (.ref ci) 0 >>= _) _ _ s'
    refine wpAny_bind (wpAny_field hc' rfl (x := .ref mo) rfl (wpAny_bind ?_))
    unfold slotLetsGo
    refine wpAny_bind (borrows_meth hm' hf' hd ?_)
    rw [if_pos rfl]
    refine wpAny_pure ?_
    refine wpAny_bind (wpAny_setField_rec hc' (by simp) fun h1 g1 k1 => ?_)
    refine wpAny_bind (wpAny_setField_rec g1 (by simp) fun h2 g2 k2 => ?_)
    refine wpAny_setField_rec g2 (by simp) fun h3 g3 k3 => ?_
    refine stop_it (by first | exact hh | rw [show A.in1.handled = none from hh]) fun h' e hk he => ?_
    refine wpAny_bind (wpAny_isInstance (T := "StopIteration") (b := true) he isSubtype_stop ?_)
    refine wpAny_pure (hend hx h' ?_ (hk _ _ g3))
    intro b o hb hg
    exact hk _ _ (((k3.2 b hb).trans ((k2.2 b hb).trans (k1.2 b hb))).trans hg)
  · have e1 : ((("" : Str) == x) : Bool) = false := by exact beq_eq_false_iff_ne.2 (fun e => hx e.symm)
    simp only [e1]
    rw [if_pos (by decide)]
    exact wpAny_pure ⟨_, rfl, wpAny_pure (hgo hx)⟩
end
end Mine
end

section
namespace Mine
open PySem PySem.W PyProof.Rows PySem.Calls PySem.Spec Builtin Builtin.ObjectAttr
theorem slot_fn_set : Slot "function" "__setattr__" "object.__setattr__" :=
  .of (owner := "object") (n := "__setattr__") (by rw [typeLookup_type, builtinLookup_eq_fast]; kernel_rfl) (by decide +kernel) (by decide +kernel) (by decide +kernel)
    (by first | exact .inl (by decide +kernel) | exact .inr (by decide +kernel)) (by rw [isSubtype_type]; kernel_rfl)
theorem entry_obj_set : entryFor table "object.__setattr__" = some Builtin.«object.__setattr__» := entryFor_of_tree (by kernel_rfl)
theorem args_obj_set (a b c : Value) : argsOk "object.__setattr__" ⟨[a, b, c], []⟩ := by unfold argsOk; kernel_rfl
theorem look_fn_read : typeLookup (.type "function") "read" = pure none := by rw [typeLookup_type, builtinLookup_eq_fast]; kernel_rfl
noncomputable abbrev fnOb (fd : FuncData) (d : Option Addr) : Obj := ⟨.type "function", d, .func fd, #[]⟩
section
variable {prog : Program} {w : World} {A : Around} {E : Value → Shared → Prop} {s : Shared} {h₀ : Heap} {L : Addr} {m : Str → Option Value}
theorem own_tells (f : Addr) : ownStreamTells (.ref f) (.type "function") = pure () := rfl
theorem setFn {f : Addr} {fd : FuncData} {v : Value} {rest : Led} {Q : Unit → Shared → Prop} (F : Fr h₀ L s.heap m) (N : News h₀ L s.heap ((f, fnOb fd none) :: rest)) (hf : Off f rest)
    (h : ∀ D k h' tk', Fr h₀ L h' m → News h₀ L h' ((D, dictOf [⟨PyData.keyHash w.params "read", .str "read" k, v⟩] 1) :: (f, fnOb fd (some D)) :: rest) → (∀ p ∈ (f, fnOb fd none) :: rest, p.1 < D) → L < D → Q () { s with heap := h', toks := tk' }) :
    wpAny (model prog w) A (setAttr (.ref f) "read" v) Q E s := by
  have hc : s.heap.get? f = some (fnOb fd none) := (N _ (.head _)).1
  have hT : s.TypeIs (.ref f) "function" := ⟨_, hc, rfl⟩
  unfold setAttr
  refine wpAny_bind (wpAny_mkText ?_)
  refine wpAny_bind (wpAny_callSpecial?_slot (name := Str.ofString "__setattr__") (hT.toks _) slot_fn_set (wpAny_call_entry slot_fn_set (hT.toks _) entry_obj_set ?_ (args_obj_set _ _ _)))
  show wpAny _ _ (Builtin.«object.__setattr__» _) _ _ _
  unfold Builtin.«object.__setattr__»
  repeat (first | rw [refuse_eq] | (with_reducible refine wpAny_loadPart_at hc ?_) | wp_step)
  dsimp only
  rw [look_fn_read]
  refine wpAny_pure (wpAny_bind (wpAny_pure ?_))
  dsimp only
  unfold storeInOwnDict
  rw [own_tells]
  refine wpAny_bind (wpAny_pure ?_)
  dsimp only
  rw [if_neg (by decide)]
  have hD : (s.heap.push emptyDict).get? s.heap.objs.size = some emptyDict := Heap.get?_push_size _ rfl
  have F1 : Fr h₀ L (s.heap.push emptyDict) m := F.push _
  have N1 : News h₀ L (s.heap.push emptyDict) ((s.heap.objs.size, emptyDict) :: (f, fnOb fd none) :: rest) := N.push F _ rfl
  have hlt : ∀ p ∈ (f, fnOb fd none) :: rest, p.1 < s.heap.objs.size := fun p hp => Heap.lt_size (N p hp).1
  have hfs : s.heap.objs.size ≠ f := Nat.ne_of_gt (hlt _ (.head _))
  have hc1 : (s.heap.push emptyDict).get? f = some (fnOb fd none) := Heap.get?_push_of_some _ hc
  obtain ⟨F2, N2⟩ := news_upd (pre := [(s.heap.objs.size, emptyDict)]) (f := fun o => { o with dict := some s.heap.objs.size }) (o' := fnOb fd (some s.heap.objs.size)) F1 N1 (fun p hp => by rw [List.mem_singleton.mp hp]; exact hfs) hf rfl rfl
  obtain ⟨F3, N3⟩ := news_upd (pre := []) (f := Obj.putName "read" (PyData.keyHash w.params "read") (.str "read" (s.toks + 1)) v) (o' := dictOf [⟨PyData.keyHash w.params "read", .str "read" (s.toks + 1), v⟩] 1) F2 N2 (fun p hp => nomatch hp) (fun p hp => by
    rcases List.mem_cons.mp hp with rfl | hp
    · exact hfs.symm
    · exact Nat.ne_of_lt (hlt _ (.tail _ hp))) (putName_dict _ _ _ _ [] 0) rfl
  refine wpAny_bind ?_
  show wpAny _ _ (instanceDict f true) _ _ _
  unfold instanceDict
  refine wpAny_bind (wpAny_loadPart hc ?_)
  dsimp only
  rw [if_neg (by decide)]
  refine wpAny_bind (wpAny_alloc ?_)
  refine wpAny_bind (wpAny_update hc1 ?_)
  show wpAny _ _ (dictMade (.type "function") f s.heap.objs.size) _ _ _
  unfold dictMade
  dsimp only
  rw [if_neg (by decide +kernel)]
  refine wpAny_pure ?_
  dsimp only
  have D2 := (N2 _ (.head _)).1
  have D3 := (N3 _ (.head _)).1
  unfold storeInDict newKeyGuard
  refine wpAny_bind (wpAny_pure (wpAny_bind ?_))
  unfold nsSet
  refine wpAny_bind (wpAny_bind (wpAny_askSetting (wpAny_pure (wpAny_bind (wpAny_mkText (wpAny_bind (wpAny_loadPart D2 ?_)))))))
  dsimp only
  rw [if_neg (by decide)]
  refine wpAny_updatePart D2 ?_
  refine wpAny_bind (wpAny_lookBehind D3 (by exact pastItsLine_dict (by simp [sizeLine_eq])) ?_)
  exact wpAny_pure ⟨_, rfl, wpAny_pure (h _ _ _ _ F3 N3 hlt F.ns.lt)⟩
end
end Mine
end

section
namespace Mine
open PySem PySem.W PyProof.Rows PySem.Calls PySem.Spec Builtin Builtin.ObjectAttr
theorem slot_fn_get : Slot "function" "__getattribute__" "object.__getattribute__" :=
  .of (owner := "object") (n := "__getattribute__") (by rw [typeLookup_type, builtinLookup_eq_fast]; kernel_rfl) (by decide +kernel) (by decide +kernel) (by decide +kernel)
    (by first | exact .inl (by decide +kernel) | exact .inr (by decide +kernel)) (by rw [isSubtype_type]; kernel_rfl)
theorem entry_obj_get : entryFor table "object.__getattribute__" = some Builtin.«object.__getattribute__» := entryFor_of_tree (by kernel_rfl)
theorem args_obj_get (a b : Value) : argsOk "object.__getattribute__" ⟨[a, b], []⟩ := by unfold argsOk; kernel_rfl
theorem look_fn_getattr : typeLookup (.type "function") "__getattr__" = pure none := by rw [typeLookup_type, builtinLookup_eq_fast]; kernel_rfl
section
variable {prog : Program} {w : World} {A : Around} {E : Value → Shared → Prop} {s : Shared}
theorem getFn {f D : Addr} {fd : FuncData} {r : Addr} {k : Tok} {hs : Int} {n : Nat} {ex : Bool} {Q : Value → Shared → Prop} (hc : s.heap.get? f = some (fnOb fd (some D))) (hd : s.heap.get? D = some (dictOf [⟨hs, .str "read" k, .ref r⟩] n))
    (h : ∀ tk', Q (.ref r) { s with toks := tk' }) :
    wpAny (model prog w) A (getAttr (.ref f) "read" ex) Q E s := by
  obtain ⟨hp, g, d, t, os⟩ := s
  have L0 : Looks (model prog w) hp (typeOf (.ref f)) (.type "function") := (Looks.ld hc).andThen .now
  have hT : Shared.TypeIs ⟨hp, g, d, t + 1, os⟩ (.ref f) "function" := ⟨_, hc, rfl⟩
  unfold getAttr getAttrBy
  refine wpAny_bind (wpAny_mkText (wpAny_holding (wpAny_bind (L0.at (wpAny_bind ?_)))))
  rw [slot_fn_get.lookup]
  refine wpAny_pure ?_
  show wpAny _ _ (getAttrByItsOwn (.ref f) (.str "read" t) (.type "function") (.builtin "object.__getattribute__") true ex) _ _ _
  unfold getAttrByItsOwn hookBefore callGetattribute boundAndCalled
  refine wpAny_bind (wpAny_pure (wpAny_bind (wpAny_attempt ?_)))
  rw [if_neg (by cases ex <;> decide)]
  refine wpAny_holding (wpAny_bind ?_)
  rw [slot_fn_get.bind]
  refine wpAny_pure ?_
  refine wpAny_call_entry slot_fn_get hT entry_obj_get ?_ (args_obj_get _ _)
  show wpAny _ _ (Builtin.«object.__getattribute__» _) _ _ _
  unfold Builtin.«object.__getattribute__»
  refine wpAny_bind (wpAny_pure (wpAny_bind (wpAny_pure (wpAny_bind (L0.at (wpAny_bind ?_))))))
  unfold find
  rw [look_fn_read]
  refine wpAny_bind (wpAny_pure (wpAny_bind (wpAny_pure (wpAny_bind (wpAny_pure ?_)))))
  dsimp only
  unfold ownThenClass inOwnDict ObjectAttr.ownDict loadHead instanceDict inDict
  refine wpAny_bind (wpAny_bind (wpAny_bind (wpAny_loadPart hc ?_)))
  dsimp only
  refine wpAny_bind (wpAny_loadPart hc ?_)
  dsimp only
  rw [if_neg (by decide)]
  refine wpAny_pure ?_
  dsimp only
  have LN : Looks (model prog w) hp (nsGet D "read") (some (.ref r)) := looks_nsIn (K := [(D, dictOf [⟨hs, .str "read" k, .ref r⟩] n)]) (fun a o e => by
    rw [List.lookup_cons] at e
    cases hb : a == D with
    | true => rw [hb] at e; cases e; rw [eq_of_beq hb]; exact hd
    | false => rw [hb] at e; cases e) (by
    unfold nsIn
    rw [List.lookup_cons, beq_self_eq_true]
    rfl)
  refine LN.at ?_
  dsimp only
  refine wpAny_bind (wpAny_rule (wpAny_pure ?_))
  dsimp only
  exact wpAny_pure ⟨_, rfl, wpAny_pure (h _)⟩
theorem methFn {f D : Addr} {fd : FuncData} {r : Addr} {k : Tok} {hs : Int} {n : Nat} {pl : Sem Bool} {Q : Value × List Value → Shared → Prop} (hc : s.heap.get? f = some (fnOb fd (some D))) (hd : s.heap.get? D = some (dictOf [⟨hs, .str "read" k, .ref r⟩] n))
    (h : ∀ tk', Q (.ref r, []) { s with toks := tk' }) :
    wpAny (model prog w) A (getMethod (.ref f) "read" pl) Q E s := by
  have hT : s.TypeIs (.ref f) "function" := ⟨_, hc, rfl⟩
  unfold getMethod
  refine wpAny_bind (wpAny_specialOf hT slot_fn_get.lookup ?_)
  dsimp only
  rw [if_neg (by decide +kernel)]
  refine wpAny_bind (wpAny_specialOf hT look_fn_getattr ?_)
  rw [if_neg (by decide)]
  refine wpAny_bind (wpAny_specialOf hT look_fn_read ?_)
  dsimp only
  exact wpAny_bind (getFn hc hd fun tk' => wpAny_pure (h tk'))
end
end Mine
end

section
namespace Mine
open PySem PySem.W PyProof.Rows PySem.Calls PySem.Spec
section
variable {P : Program} {w : World} {b₀ : Heap} {D U : Nat} {tl : Led} {Ret : Value → Led → Prop} {K : Frag} {p : Program} {loose : List Str} {mean : ExcName → Option Value} {mg mb : Str → Option Value}
  {name qual : Str} {params : Arguments} {body : List Stmt} {scope : Scope} {cl : List (Str × Addr)} {dV kV doc pm ct oc : Value} {an od : Option Addr} {osl : Array (Option Value)} {f c' : Addr} {occ : Obj} {vs : Array Value} {tq : Tok} {args : Args} {binds : List (Str × Value)}
theorem enterN (X : K.In b₀) (T : Top p loose mean mg mb b₀)
    (ho : (f, (⟨oc, od, .func (fnX name qual params body scope cl dV kV doc pm an (.ref c') ct), osl⟩ : Obj)) ∈ tl) (hc : (c', occ) ∈ tl) (hcd : occ.data = .fields vs) (hq : vs[1]? = some (.str qual tq))
    (hbind : ∀ s : Shared, BindsTo s (fnX name qual params body scope cl dV kV doc pm an (.ref c') ct) args binds) (hloc : ∀ y ∈ binds, scope.names.lookup y.1 = some .local)
    (h : ∀ dp un gd fr s g L' h₁, dp + D < recursionLimit → un + U < cLine → Fr g L' h₁ (fun y => binds.reverse.lookup y) → News g L' h₁ tl → Below (AR dp un gd fr) b₀ fr g → b₀.StaysIn g → K.In g → Top p loose mean mg mb g → (∀ q ∈ tl, q.1 < L') →
      wpAny (model P w) ((AR dp un gd fr).deeper (envX qual scope L' f (.ref c') cl)) (execs body (envX qual scope L' f (.ref c') cl))
        (fun fl s' => Done g Ret s (match fl with | .ret v => v | _ => .none) s') (fun _ _ => False) { s with heap := h₁, toks := s.toks + binds.length })
    (hD : 0 < D) (hcell : ∀ x ∈ scope.names, x.2 ≠ .cell) (hco : scope.isCoroutine = false) (hgen : scope.isGenerator = false) (hk : scope.kind = .function) :
    FS P w b₀ D U (.ref f) args tl Ret := by
  intro dp un gd fr s R M hd hu hR
  have st : b₀.StaysIn (hideAll s.heap (tl.map (·.1))) := fun b o e => hideAll_get _ (M.stays b o e) fun q => by
    obtain ⟨x, hx, rfl⟩ := List.mem_map.mp q
    rw [(M.cells x hx).2] at e; cases e
  have B : Below (AR dp un gd fr) b₀ fr (hideAll s.heap (tl.map (·.1))) := ⟨rfl, st, funFrames_hideAll M.frames fun env he a ha => by
    obtain ⟨x, hx, rfl⟩ := List.mem_map.mp ha
    exact M.off env he x hx⟩
  have XS : K.In s.heap := X.keeps M.stays
  refine codeAny_call_def (fd := fnX name qual params body scope cl dV kV doc pm an (.ref c') ct) (body := body) (binds := binds) (show dp < recursionLimit by k_extra "o") (M.cells _ ho).1 rfl (T.nolimit.keeps M.stays) ⟨c', occ, vs, tq, rfl, (M.cells _ hc).1, hcd, hq⟩ rfl (hbind s) hcell hloc (fun h₁ hns hk₁ => ?_) hco hgen hk
  refine wpAny_mono (h dp un gd fr s (hideAll s.heap (tl.map (·.1))) s.heap.objs.size h₁ hd hu ⟨hns, fun b o e => hk₁ b o (of_hideAll _ e), Nat.le_of_eq (hideAll_size _ _)⟩
    (fun q hq => ⟨hk₁ _ _ (M.cells q hq).1, Nat.ne_of_lt (Heap.lt_size (M.cells q hq).1), hideAll_none _ (List.mem_map_of_mem hq)⟩) B st (X.keeps fun b o e => st b o e) (T.keeps fun b o e => st b o e) (fun q hq => Heap.lt_size (M.cells q hq).1)) (fun fl s' hl => ?_) fun _ _ y => y.elim
  obtain ⟨L, m, tl', h', tk, rfl, F', N', r⟩ := hl
  refine hR _ tl' h' tk r (fun b o hb e => F'.keep b o (hideAll_get _ e hb)) fun q hq => ⟨(N' q hq).1, ?_, hidden_none (N' q hq).2.2⟩
  cases z : b₀.get? q.1 with
  | none => rfl
  | some o => have := (N' q hq).2.2; rw [st _ _ z] at this; cases this
theorem use_fsC {A : Around} {R : Result → Shared → Prop} {dp un : Nat} {gd : Option (List Code)} {env : Env} {outer : List Env} {A₀ : Around} {s : Shared} {h₀ : Heap} {L : Addr} {m : Str → Option Value} {news rest : Led} {f : Value} {pos : List Value} {kw : List (Str × Value)}
    (H : FS P w b₀ D U f ⟨pos, kw⟩ tl Ret) (B : Below A₀ b₀ outer h₀) (F : Fr h₀ L s.heap m) (N : News h₀ L s.heap news) (hA : A = AR dp un gd (env :: outer)) (hf : env.frame = some L) (hk : env.scope.kind = .function)
    (hd : dp + D < recursionLimit) (hu : un + U < cLine) (htl : ∀ q ∈ tl, q ∈ news) (hrest : ∀ q ∈ rest, q ∈ news ∧ ∀ x ∈ tl, x.1 ≠ q.1)
    (h : ∀ v tl' h' tk, Ret v tl' → Fr h₀ L h' m → News h₀ L h' (tl' ++ rest) → (∀ q ∈ tl', q.1 ∈ tl.map (·.1) ∨ ∀ x ∈ news, x.1 ≠ q.1) → R (.ok (.ret v)) { s with heap := h', toks := tk }) :
    codeAny (model P w) A (.call f ⟨pos, kw⟩) R s := by
  subst hA
  have B₁ := pushX B F hf hk
  refine H dp un gd (env :: outer) s _ ⟨B₁.frames, fun env' he q hq hf' => ?_, fun b o e => F.keep b o (B.stays b o e), fun q hq => ⟨(N q (htl q hq)).1, ?_⟩⟩ hd hu fun v tl' h' tk r k fresh => ?_
  · have nq := N q (htl q hq)
    cases he with
    | head => exact nq.2.1 (Option.some.inj (hf'.symm.trans hf))
    | tail _ he =>
      obtain ⟨L₁, o₁, hf₁, ho₁⟩ := funFrames_in B.frames env' he
      rw [hf₁] at hf'
      have e : L₁ = q.1 := Option.some.inj hf'
      have := nq.2.2; rw [← e, ho₁] at this; cases this
  · cases z : b₀.get? q.1 with
    | none => rfl
    | some o => have := (N q (htl q hq)).2.2; rw [B.stays _ _ z] at this; cases this
  · have old : ∀ b o, h₀.get? b = some o → h'.get? b = some o := fun b o e => k b o (fun q => by
      obtain ⟨x, hx, rfl⟩ := List.mem_map.mp q
      rw [(N x (htl x hx)).2.2] at e; cases e) (F.keep b o e)
    obtain ⟨oL, es, ep, hL, rL⟩ := F.ns
    have hL' : h'.get? L = some oL := k L oL (fun q => by
      obtain ⟨x, hx, e⟩ := List.mem_map.mp q
      exact (N x (htl x hx)).2.1 e) hL
    refine h v tl' h' tk r ⟨⟨oL, es, ep, hL', rL⟩, old, F.above⟩ (fun q hq => ?_) fun q hq => ((fresh q hq).2.2).imp id fun hno x hx e => ?_
    · rcases List.mem_append.mp hq with hq | hq
      · have fq := fresh q hq
        rcases fq.2.2 with hin | hno
        · obtain ⟨x, hx, e⟩ := List.mem_map.mp hin
          have nx := N x (htl x hx)
          exact ⟨fq.1, e ▸ nx.2.1, e ▸ nx.2.2⟩
        · refine ⟨fq.1, fun e => ?_, ?_⟩
          · rw [e, hL] at hno; cases hno
          · cases z : h₀.get? q.1 with
            | none => rfl
            | some o => rw [F.keep _ _ z] at hno; cases hno
      · have nq := N q (hrest q hq).1
        exact ⟨k _ _ (fun z => by
          obtain ⟨x, hx, e⟩ := List.mem_map.mp z
          exact (hrest q hq).2 x hx e) nq.1, nq.2⟩
    · rw [← e, (N x hx).1] at hno; cases hno
end
end Mine
end

section
namespace Mine
open PySem PySem.W PyProof.Rows PySem.Calls PySem.Spec
theorem look_meth_call : typeLookup (.type "method") "__call__" = pure (some (.builtin "method.__call__")) := by rw [typeLookup_type, builtinLookup_eq_fast]; kernel_rfl
theorem args_iter2 (a b : Value) : argsOk "iter" ⟨[a, b], []⟩ := by unfold argsOk; kernel_rfl
section
variable {prog : Program} {w : World} {A : Around} {E : Value → Shared → Prop} {s : Shared} {h₀ : Heap} {L : Addr} {m : Str → Option Value} {news : Led}
theorem iter_sent {mo : Addr} {f self : Value} {t : Tok} {Q : Value → Shared → Prop} (F : Fr h₀ L s.heap m) (N : News h₀ L s.heap news) (hm : (mo, methodObj f self) ∈ news)
    (h : ∀ ci h', Fr h₀ L h' m → News h₀ L h' ((ci, citObj mo t) :: news) → (∀ p ∈ news, p.1 < ci) → L < ci → Q (.ref ci) { s with heap := h' }) :
    wpAny (model prog w) A (call (.builtin "iter") [.ref mo, .str "" t]) Q E s := by
  have hT : s.TypeIs (.ref mo) "method" := ⟨_, N.get hm, rfl⟩
  refine call_function_entry (by decide +kernel) (by decide +kernel) entry_iter' (args_iter2 _ _) ?_
  unfold Builtin.«iter»
  refine wpAny_bind (wpAny_of_eq (a := [.ref mo, .str "" t]) rfl ?_)
  dsimp only
  refine wpAny_bind (wpAny_specialOf hT look_meth_call ?_)
  rw [if_neg (by decide)]
  refine wpAny_bind (wpAny_rule (wpAny_bind ?_))
  show wpAny _ _ (newFields "callable_iterator" [.ref mo, .str "" t, .bool false]) _ _ _
  unfold newFields
  refine wpAny_newObj_type ?_ (by size_fits)
  exact wpAny_pure ⟨_, rfl, h _ _ (F.push _) (N.push F _ rfl) (fun p hp => Heap.lt_size (N p hp).1) F.ns.lt⟩
end
end Mine
end

section
namespace Mine
open PySem PySem.W PyProof.Rows PySem.Calls PySem.Spec Builtin Builtin.ObjectAttr
noncomputable abbrev accOf (C dx : Addr) (its : Array Value) (n : Nat) : Obj := { cls := .ref C, dict := some dx, data := .seq its n }
theorem kind_append : builtinKind "list.append" = some .method := by decide +kernel
theorem split_append : splitId "list.append" = some ("list", "append") := by decide +kernel
theorem entry_linit : entryFor table "list.__init__" = some Builtin.«list.__init__» := entryFor_of_tree (by kernel_rfl)
theorem args_append (a b : Value) : argsOk "list.append" ⟨[a, b], []⟩ := by unfold argsOk; kernel_rfl
theorem ty_append : typeOf (.builtin "list.append") = pure (.type "method_descriptor") := by show builtinType _ = _; rw [builtinType_eq_fast]; kernel_rfl
theorem ty_init : typeOf (.builtin "list.__init__") = pure (.type "wrapper_descriptor") := by show builtinType _ = _; rw [builtinType_eq_fast]; kernel_rfl
theorem check_meth {M : Model} {A : Around} {E : Value → Shared → Prop} {s : Shared} {i owner n : String} {self : Value} {rest : List Value} {kw : List (Str × Value)} {Q : Unit → Shared → Prop}
    (hk : builtinKind i = some .method ∨ builtinKind i = some .slot) (hs : splitId i = some (owner, n)) (hi : Looks M s.heap (isInstance self (.type owner)) true) (ha : argsOk i ⟨self :: rest, kw⟩) (q : Q () s) :
    wpAny M A (checkBuiltinCall i ⟨self :: rest, kw⟩) Q E s := by
  rcases hk with hk | hk
  · unfold checkBuiltinCall
    rw [hk, hs]
    refine wpAny_bind (hi.here ?_)
    rw [if_neg (by decide)]
    unfold argsOk at ha
    revert ha
    cases Manifest.signature? i with
    | none => intro _; exact wpAny_pure q
    | some sig => intro ha; show wpAny M A (Bind.checkArgs i sig ⟨self :: rest, kw⟩) Q E s; rw [show Bind.checkArgs i sig ⟨self :: rest, kw⟩ = pure () from ha]; exact wpAny_pure q
  · exact check_slot hk hs hi ha q
section
variable {prog : Program} {w : World} {A : Around} {E : Value → Shared → Prop} {s : Shared} {h₀ : Heap} {L : Addr} {m : Str → Option Value} {news news' : Led} {K : Frag} {x C dx : Addr} {ox : Obj} {es : List DictEntry} {n nd : Nat} {name : Str} {its : Array Value}
theorem inst_acc {od : Obj} (N : News h₀ L s.heap news) (h1 : (x, accOf C dx its n) ∈ news) (h2 : (dx, od) ∈ news) : InstAt s.heap x (accOf C dx its n) C (some od) := ⟨(N _ h1).1, rfl, rfl, (N _ h2).1⟩
theorem canon_list : (Manifest.canonical "list.__getattribute__" != "object.__getattribute__") = false := by decide +kernel
theorem method_acc {f tf : Value} {pl : Sem Bool} {Q : Value × List Value → Shared → Prop} (F : Fr h₀ L s.heap m) (X₀ : K.In h₀) (I : InstAt s.heap x ox C (some (dictOf es nd)))
    (hg : findIn K (.ref C) "__getattribute__" = some (some (.builtin "list.__getattribute__"))) (hk : findIn K (.ref C) "__getattr__" = some none)
    (hf : findIn K (.ref C) name = some (some f)) (ht : Looks (model prog w) s.heap (typeOf f) tf) (htf : (tf != .type "function" && tf != .type "method_descriptor" && tf != .type "wrapper_descriptor") = false) (hl : getL name es = some none) (h : Q (f, [.ref x]) s) :
    wpAny (model prog w) A (getMethod (.ref x) name pl) Q E s := by
  have X := X₀.keeps F.keep
  unfold getMethod specialOf
  refine wpAny_bind (wpAny_bind (I.type.here ((looks_findIn X hg).here ?_)))
  dsimp only
  rw [canon_list, if_neg (by decide)]
  refine wpAny_bind (wpAny_bind (I.type.here ((looks_findIn X hk).here ?_)))
  refine wpAny_bind (wpAny_bind (I.type.here ((looks_findIn X hf).here (wpAny_bind (ht.here ?_)))))
  rw [htf, if_neg (by decide)]
  refine wpAny_bind (wpAny_loadPart I.at_ ?_)
  have hd := I.dict
  cases e : ox.dict with
  | none => exact wpAny_bind (wpAny_rule (wpAny_pure h))
  | some dx =>
    rw [e] at hd
    refine wpAny_bind (wpAny_bind (wpAny_loadPart hd ?_))
    rw [nsLook_of (show lookIn name (dictOf es nd) = some none from hl)]
    exact wpAny_pure (wpAny_bind (wpAny_rule (wpAny_pure h)))
theorem method_bi {id : String} {pl : Sem Bool} {Q : Value × List Value → Shared → Prop} (F : Fr h₀ L s.heap m) (X₀ : K.In h₀) (I : InstAt s.heap x ox C (some (dictOf es nd)))
    (hg : findIn K (.ref C) "__getattribute__" = some (some (.builtin "list.__getattribute__"))) (hk : findIn K (.ref C) "__getattr__" = some none)
    (hf : findIn K (.ref C) name = some (some (.builtin id))) (ht : typeOf (.builtin id) = pure (.type "method_descriptor")) (hl : getL name es = some none) (h : Q (.builtin id, [.ref x]) s) :
    wpAny (model prog w) A (getMethod (.ref x) name pl) Q E s := method_acc F X₀ I hg hk hf (Looks.of_pure ht) (by decide +kernel) hl h
theorem method_in {f : Addr} {pl : Sem Bool} {Q : Value × List Value → Shared → Prop} (F : Fr h₀ L s.heap m) (X₀ : K.In h₀) (I : InstAt s.heap x ox C (some (dictOf es nd)))
    (hg : findIn K (.ref C) "__getattribute__" = some (some (.builtin "list.__getattribute__"))) (hk : findIn K (.ref C) "__getattr__" = some none)
    (hf : findIn K (.ref C) name = some (some (.ref f))) (ht : isFn K (.ref f) = true) (hl : getL name es = some none) (h : Q (.ref f, [.ref x]) s) :
    wpAny (model prog w) A (getMethod (.ref x) name pl) Q E s := method_acc F X₀ I hg hk hf (looks_typeIn (X₀.keeps F.keep) (beq_iff_eq.mp ht)) (by decide +kernel) hl h
theorem seq_upd {o' : Obj} {f : Array Value → Array Value} (F : Fr h₀ L s.heap m) (N : News h₀ L s.heap news) (U : Upd x (accOf C dx its n) o' news news') (e : Obj.mapSeq f (accOf C dx its n) = o') (hz : its.size ≤ 1000) (hf : (f its).size ≤ 1001) (hfr : o'.isFreed = false) {Q : Unit → Shared → Prop}
    (h : ∀ h', Fr h₀ L h' m → News h₀ L h' news' → Q () { s with heap := h' }) : wpAny (model prog w) A (updateSeq x f) Q E s := by
  obtain ⟨pre, post, rfl, rfl, a, b⟩ := U.split
  obtain ⟨U1, U2⟩ := news_upd (f := Obj.mapSeq f) F N a b e hfr
  exact wpAny_updateSeq (N _ (List.mem_append.mpr (.inr (.head _)))).1 rfl (h _ U1 U2) (Nat.le_trans hz (by simp [sizeLine_eq])) (Nat.le_trans hf (by simp [sizeLine_eq]))
theorem inst_list {M : Model} (F : Fr h₀ L s.heap m) (X₀ : K.In h₀) (hs : subIn K (.ref C) (.type "list") = some true) (ho : s.heap.get? x = some ox) (hc : ox.cls = .ref C) : Looks M s.heap (isInstance (.ref x) (.type "list")) true :=
  (show Looks M s.heap (typeOf (.ref x)) (.ref C) from hc ▸ (Looks.ld ho).andThen .now).andThen (looks_subIn (X₀.keeps F.keep) hs)
theorem append_acc {vs : List Value} {y : Value} {Q : Value → Shared → Prop} (F : Fr h₀ L s.heap m) (X₀ : K.In h₀) (N : News h₀ L s.heap news) (hs : subIn K (.ref C) (.type "list") = some true) (hl : vs.length ≤ 1000)
    (U : Upd x (accOf C dx vs.toArray n) (accOf C dx (vs ++ [y]).toArray (n + 1)) news news') (h : ∀ h', Fr h₀ L h' m → News h₀ L h' news' → Q .none { s with heap := h' }) :
    wpAny (model prog w) A (call (.builtin "list.append") [.ref x, y]) Q E s := by
  obtain ⟨pre, post, e1, -, -, -⟩ := U.split
  have z := N (x, accOf C dx vs.toArray n) (by rw [e1]; exact List.mem_append.mpr (.inr (.head _)))
  refine wpAny_call (codeAny_call_builtin PySem.F.slot_list_append.plain PySem.F.entry_list_append (check_meth (.inl kind_append) split_append (inst_list F X₀ hs z.1 rfl) (args_append _ _) ?_))
  show wpAny _ _ (updateSeq x (·.push y) >>= fun _ => ret .none) _ _ s
  refine wpAny_bind (seq_upd (f := (·.push y)) F N U (by simp [Obj.mapSeq]) (by simpa using hl) (by simpa using hl) rfl fun h' F' N' => wpAny_pure (h h' F' N'))
end
theorem slot_wd_get : Slot "wrapper_descriptor" "__get__" "wrapper_descriptor.__get__" := .of (owner := "wrapper_descriptor") (n := "__get__") (by rw [typeLookup_type, builtinLookup_eq_fast]; kernel_rfl) (by decide +kernel) (by decide +kernel) (by decide +kernel)
  (by first | exact .inl (by decide +kernel) | exact .inr (by decide +kernel)) (by rw [isSubtype_type]; kernel_rfl)
theorem entry_wd_get : entryFor table "wrapper_descriptor.__get__" = some Builtin.«wrapper_descriptor.__get__» := entryFor_of_tree (by kernel_rfl)
theorem args_wd_get (a b c : Value) : argsOk "wrapper_descriptor.__get__" ⟨[a, b, c], []⟩ := by unfold argsOk; kernel_rfl
section
variable {prog : Program} {w : World} {A : Around} {E : Value → Shared → Prop} {h : Heap} {g : Array GenState} {d : Drawn} {t : Nat} {os : OsState} {x C : Addr}
theorem run_init {ox : Obj} {Q : Fin → Shared → Prop} (ho : True → h.get? x = some ox) (hc : ox.cls = .ref C) (hs : Looks (model prog w) h (isSubtype (.ref C) (.type "list")) true)
    (hq : Q (.done (.ret (.ref h.objs.size))) ⟨h.push { cls := .type "method-wrapper", data := .fields #[.builtin "list.__init__", .ref x] }, g, d, t, os⟩) :
    wpAny (model prog w) A (Builtin.«wrapper_descriptor.__get__» ⟨[.builtin "list.__init__", .ref x, .ref C], []⟩) Q E ⟨h, g, d, t, os⟩ := by
  have ec : (".".intercalate ("list.__init__".cutAt '.').dropLast) = "list" := by decide +kernel
  unfold Builtin.«wrapper_descriptor.__get__»
  repeat lk
  rw [ec]
  refine nd_load (s := ⟨h, g, d, t, os⟩) (ho trivial) ?_
  refine nd_pure ?_
  refine wpAny_pure ?_
  rw [hc]
  refine hs.at ?_
  rw [if_neg (by decide)]
  refine wpAny_pure (wpAny_bind ?_)
  unfold newFields
  exact wpAny_newObj_type (wpAny_pure hq) (by size_fits)
structure Reads (prog : Program) (w : World) (id bt ty : String) : Prop where
  type : typeOf (.builtin id) = pure (.type ty)
  sub : isSubtype (.type ty) (.type ty) = pure true
  ex : ∃ gid Bi, Slot ty "__get__" gid ∧ builtinKind gid = some .slot ∧ splitId gid = some (ty, "__get__") ∧ entryFor table gid = some Bi ∧ (∀ a b c : Value, argsOk gid ⟨[a, b, c], []⟩) ∧
    ∀ (A : Around) (E : Value → Shared → Prop) (h : Heap) (g : Array GenState) (d : Drawn) (t : Nat) (os : OsState) (x C : Addr) (ox : Obj) (Q : Fin → Shared → Prop), h.get? x = some ox → ox.cls = .ref C → Looks (model prog w) h (isSubtype (.ref C) (.type "list")) true →
      Q (.done (.ret (.ref h.objs.size))) ⟨h.push { cls := .type bt, data := .fields #[.builtin id, .ref x] }, g, d, t, os⟩ → wpAny (model prog w) A (Bi ⟨[.builtin id, .ref x, .ref C], []⟩) Q E ⟨h, g, d, t, os⟩
theorem reads_init : Reads prog w "list.__init__" "method-wrapper" "wrapper_descriptor" := ⟨ty_init, by rw [isSubtype_type]; kernel_rfl, _, _, slot_wd_get, by decide +kernel, by decide +kernel, entry_wd_get, args_wd_get, fun _ _ _ _ _ _ _ _ _ _ _ ho hc hs hq => run_init (fun _ => ho) hc hs hq⟩
noncomputable abbrev boundOf (bt id : String) (x : Addr) : Obj := { cls := .type bt, data := .fields #[.builtin id, .ref x] }
theorem super_read {so D : Addr} {id bt ty : String} {ox : Obj} {l₀ l : List Value} {K : Frag} {name : Str} {tk : Tok} {Q : Fin → Shared → Prop} (Rd : Reads prog w id bt ty)
    (hso : h.get? so = some (ks_superObj D x C)) (hno : Looks (model prog w) h (opaqueClassAbove (.ref C)) none)
    (hC : Looks (model prog w) h (mroOf (.ref C)) l₀) (hl : (l₀.dropWhile (· != .ref D)).drop 1 = l) (X : K.In h) (ho : h.get? x = some ox) (hc : ox.cls = .ref C) (hs : Looks (model prog w) h (isSubtype (.ref C) (.type "list")) true)
    (hf : alongIn K name l = some (some (.builtin id))) (hxC : x ≠ C) (hn : (name == ("__class__" : Str)) = false)
    (hq : Q (.done (.ret (.ref h.objs.size))) ⟨h.push (boundOf bt id x), g, d, t, os⟩) :
    wpAny (model prog w) A (Builtin.«super.__getattribute__» ⟨[.ref so, .str name tk], []⟩) Q E ⟨h, g, d, t, os⟩ := by
  obtain ⟨ht, hsb, gid, Bi, hslot, hk, hsp, hent, harg, hrun⟩ := Rd
  have hne : (Value.ref x == Value.ref C) = false := by simp [hxC]
  have hlk := hslot.lookup
  have f0 : (#[.ref D, .ref x, .ref C] : Array Value)[0]? = some (.ref D) := rfl
  have f1 : (#[.ref D, .ref x, .ref C] : Array Value)[1]? = some (.ref x) := rfl
  have f2 : (#[.ref D, .ref x, .ref C] : Array Value)[2]? = some (.ref C) := rfl
  have hdt : (ks_superObj D x C).data = .fields #[.ref D, .ref x, .ref C] := rfl
  unfold Builtin.«super.__getattribute__»
  repeat (first
    | (with_reducible refine wpAny_field hso hdt f0 ?_) | (with_reducible refine wpAny_field hso hdt f1 ?_) | (with_reducible refine wpAny_field hso hdt f2 ?_)
    | (with_reducible refine ks_wpAny_notOpaque hno ?_)
    | (with_reducible refine Looks.at hC ?_; rw [hl])
    | (refine ks_forIn_along X (fun _ _ => rfl) rfl ?_ hf)
    | (with_reducible refine wpAny_of_eq ht ?_)
    | (simp only [hn, hne, Bool.or_false, Bool.false_eq_true, if_false])
    | wp_step
    | dsimp only)
  refine codeAny_call_builtin hslot.plain hent (check_meth (.inr hk) hsp ?_ (harg _ _ _) (hrun _ _ _ _ _ _ _ _ _ _ _ ho hc hs ?_))
  · exact Looks.andThen (Looks.of_pure ht) (Looks.of_pure hsb)
  · show wpAny _ _ _ _ _ _
    exact wpAny_bind (wpAny_pure (wpAny_pure (wpAny_pure hq)))
theorem super_meth {so D : Addr} {id bt ty : String} {ox : Obj} {l₀ l : List Value} {K : Frag} {name : Str} {pl : Sem Bool} {Q : Value × List Value → Shared → Prop} (Rd : Reads prog w id bt ty)
    (hso : h.get? so = some (ks_superObj D x C)) (hno : Looks (model prog w) h (opaqueClassAbove (.ref C)) none)
    (hC : Looks (model prog w) h (mroOf (.ref C)) l₀) (hl : (l₀.dropWhile (· != .ref D)).drop 1 = l) (X : K.In h) (ho : h.get? x = some ox) (hc : ox.cls = .ref C) (hs : Looks (model prog w) h (isSubtype (.ref C) (.type "list")) true)
    (hf : alongIn K name l = some (some (.builtin id))) (hxC : x ≠ C) (hn : (name == ("__class__" : Str)) = false)
    (hq : Q (.ref h.objs.size, []) ⟨h.push (boundOf bt id x), g, d, t + 1, os⟩) :
    wpAny (model prog w) A (getMethod (.ref so) name pl) Q E ⟨h, g, d, t, os⟩ := by
  have hT : ∀ t', (⟨h, g, d, t', os⟩ : Shared).TypeIs (.ref so) "super" := fun _ => ⟨_, hso, rfl⟩
  unfold getMethod
  refine wpAny_bind (wpAny_specialOf (hT _) PySem.F.ks_slot_super_ga.lookup ?_)
  show wpAny _ _ (if (Manifest.canonical "super.__getattribute__" != "object.__getattribute__") = true then _ else _) _ _ _
  rw [if_pos PySem.F.ks_canon_super_ga]
  unfold getAttr getAttrBy
  refine wpAny_bind (wpAny_bind (wpAny_mkText (wpAny_holding (wpAny_bind (wpAny_typeOf (hT _) (wpAny_bind (wpAny_of_eq PySem.F.ks_slot_super_ga.lookup ?_)))))))
  show wpAny _ _ (getAttrByItsOwn (.ref so) (.str name t) (.type "super") (.builtin "super.__getattribute__") true false) _ _ _
  unfold getAttrByItsOwn hookBefore callGetattribute boundAndCalled
  refine wpAny_bind (wpAny_of_eq (show (if onTheHeap (.type "super") then typeLookup (.type "super") "__getattr__" else pure none) = pure none from rfl) ?_)
  refine wpAny_bind (wpAny_attempt (wpAny_holding ?_))
  show wpAny _ _ (bindSpecial (.builtin "super.__getattribute__") (.ref so) >>= _) _ _ _
  refine wpAny_bind (wpAny_of_eq (PySem.F.ks_slot_super_ga.bind _) ?_)
  refine wpAny_mono (Q := fun v s' => v = .ref h.objs.size ∧ s' = ⟨h.push (boundOf bt id x), g, d, t + 1, os⟩) (E := fun _ _ => False)
    (wpAny_call_entry PySem.F.ks_slot_super_ga (hT _) PySem.F.ks_entry_super_ga (super_read Rd hso hno hC hl X ho hc hs hf hxC hn ⟨_, rfl, rfl, rfl⟩) (PySem.F.ks_gaArgs_super _ _)) (fun v s' hv => ?_) fun _ _ z => z.elim
  obtain ⟨rfl, rfl⟩ := hv
  exact wpAny_pure (wpAny_pure hq)
end
section
variable {prog : Program} {w : World} {A : Around} {E : Value → Shared → Prop} {s : Shared} {h₀ : Heap} {L : Addr} {m : Str → Option Value} {news news' : Led} {K : Frag} {x C D dx so : Addr} {ox : Obj} {odx : Option Obj} {n : Nat} {its : Array Value}
theorem super_bi {name : Str} {id bt ty : String} {pl : Sem Bool} {Q : Value × List Value → Shared → Prop} (Rd : Reads prog w id bt ty) (F : Fr h₀ L s.heap m) (X₀ : K.In h₀) (N : News h₀ L s.heap news) (hso : (so, ks_superObj D x C) ∈ news) (I : InstAt s.heap x ox C odx) (ho : nsIn K cStatics "thirdparty.any" = some none)
    (hs : subIn K (.ref C) (.type "list") = some true) (hm : ks_superIn K C D name = some (some (.builtin id))) (hn : (name == ("__class__" : Str)) = false)
    (h : ∀ q h', Fr h₀ L h' m → News h₀ L h' ((q, boundOf bt id x) :: news) → (∀ p ∈ news, p.1 < q) → Q (.ref q, []) { s with heap := h', toks := s.toks + 1 }) : wpAny (model prog w) A (getMethod (.ref so) name pl) Q E s := by
  have X : K.In s.heap := X₀.keeps F.keep
  obtain ⟨hh, g, d, t, os⟩ := s
  cases hc : clsIn K C with
  | none => unfold ks_superIn at hm; rw [hc] at hm; cases hm
  | some cd =>
    unfold ks_superIn at hm
    rw [hc] at hm
    have I' := I.at_
    refine super_meth Rd (N _ hso).1 (looks_opaque X ho) (l₀ := cd.mro) ?_ rfl X I.at_ I.cls (looks_subIn X hs) hm (ks_ne X I hc) hn ?_
    · exact fun A Q E s k q => wpAny_bind ((looks_clsIn X hc) A _ E s k (wpAny_pure q))
    · obtain ⟨F', N', l'⟩ := ks_newsPush (s := ⟨hh, g, d, t, os⟩) (o := boundOf bt id x) F N rfl (Heap.get?_push_at rfl rfl) (fun b o e => Heap.get?_push_of_some _ e)
      exact h _ _ F' N' l'
theorem call_bound {q : Addr} {bt id : String} {args : List Value} {Q : Value → Shared → Prop} (N : News h₀ L s.heap news) (hq : (q, boundOf bt id x) ∈ news) (hb : bt = "builtin_function_or_method" ∨ bt = "method-wrapper")
    (hp : plainId id = true) (hck : ∀ (Q' : Unit → Shared → Prop) (E' : Value → Shared → Prop), Q' () s → wpAny (model prog w) A.in1 (checkBoundCall id ⟨.ref x :: args, []⟩) Q' E' s)
    (h : codeAny (model prog w) A (.builtin id ⟨.ref x :: args, []⟩) (fun r s' => match r with | .ok (.ret v) => Q v s' | .ok _ => False | .error e => E e s') s) :
    wpAny (model prog w) A (call (.ref q) args) Q E s := by
  refine wpAny_call (codeAny_of_tree ?_)
  show wpAny _ A.in1 (callAny (.ref q) _) _ _ _
  unfold callAny
  refine wpAny_bind (wpAny_load (N _ hq).1 ?_)
  rcases hb with rfl | rfl
  · show wpAny _ _ (checkBoundCall id ⟨.ref x :: args, []⟩ >>= fun _ => again (.builtin id ⟨.ref x :: args, []⟩)) _ _ _
    exact wpAny_bind (hck _ _ (wpAny_pure ⟨plainId_quiet hp _, h⟩))
  · show wpAny _ _ (checkBoundCall id ⟨.ref x :: args, []⟩ >>= fun _ => again (.builtin id ⟨.ref x :: args, []⟩)) _ _ _
    exact wpAny_bind (hck _ _ (wpAny_pure ⟨plainId_quiet hp _, h⟩))
end
end Mine
end

section
namespace Mine
open PySem PySem.W PyProof.Rows PySem.Calls PySem.Spec Builtin Builtin.ObjectAttr
theorem refuse_list (self : Value) : refuseLoop self "__setattr__" [.type "list", .type "object"] = pure () := by kernel_rfl
section
variable {prog : Program} {w : World} {A : Around} {E : Value → Shared → Prop} {s : Shared} {h₀ : Heap} {L : Addr} {m : Str → Option Value} {news news' : Led} {K : Frag} {x C dx : Addr} {cd : ClassData} {n nd : Nat} {its : Array Value} {name : Str} {v : Value} {es' : List DictEntry} {nd' : Nat}
theorem set_acc {Q : Unit → Shared → Prop} (F : Fr h₀ L s.heap m) (X₀ : K.In h₀) (N : News h₀ L s.heap news) (hx : (x, accOf C dx its n) ∈ news) (hc : clsIn K C = some cd) (hm : cd.mro = [.ref C, .type "list", .type "object"]) (hd : cd.hasDict = true)
    (hs : findIn K (.ref C) "__setattr__" = some (some (.builtin "object.__setattr__"))) (ht : takerIn K C name = some none) 
    (e : (putL name (PyData.keyHash w.params name) (.str name (s.toks + 1)) v [], putN name [] nd) = (es', nd')) (U : Upd dx (dictOf [] nd) (dictOf es' nd') news news') (hz : es'.length ≤ 1000)
    (h : ∀ h', Fr h₀ L h' m → News h₀ L h' news' → Q () { s with heap := h', toks := s.toks + 2 }) : wpAny (model prog w) A (setAttr (.ref x) name v) Q E s := by
  obtain ⟨e1, e2⟩ := Prod.mk.inj e
  obtain ⟨pre, post, rfl, rfl, a, b⟩ := U.split
  have X := X₀.keeps F.keep
  have hx' := (N _ hx).1
  have hdx := (N (dx, dictOf [] nd) (List.mem_append.mpr (.inr (.head _)))).1
  have I : InstAt s.heap x (accOf C dx its n) C (some (dictOf [] nd)) := ⟨hx', rfl, rfl, hdx⟩
  have SF := PySem.F.store_object
  have hmro : Looks (model prog w) s.heap (mroOf (.ref C)) cd.mro := (looks_clsIn X hc).andThen .now
  have sub : Looks (model prog w) s.heap (isInstance (.ref x) (.type "object")) true := I.type.andThen (looks_mroIn X (by unfold mroIn; rw [hc, Option.bind_some, hm]; rfl))
  refine set_plain X I hs ?_
  refine codeAny_call_builtin SF.slot.plain SF.entry (@check_slot (model prog w) _ _ { s with toks := s.toks + 1 } "object.__setattr__" "object" "__setattr__" (.ref x) [.str name s.toks, v] [] _ SF.kind SF.split sub (SF.args (.ref x) (.str name s.toks) v) ?_)
  obtain ⟨attr, ha, hr⟩ := Option.bind_eq_some_iff.mp ht
  have L3 : Looks (model prog w) s.heap (storeTaker? attr) none := by
    cases attr with
    | none => exact .now
    | some a =>
      obtain ⟨b, hb, hb'⟩ := Option.map_eq_some_iff.mp hr
      cases b with
      | true => cases hb'
      | false => exact (looks_takesIn X hb).andThen .now
  rw [osa_eq, refuse_eq]
  have L0 := I.type (M := model prog w)
  have L2 := looks_findIn (M := model prog w) X ha
  obtain ⟨U1, U2⟩ := news_upd (f := Obj.putName name (PyData.keyHash w.params name) (.str name (s.toks + 1)) v) F N a b (by rw [putName_dict, e1, e2]) rfl
  obtain ⟨hh, g, d, t, os⟩ := s
  dsimp only at *
  refine wpAny_bind (wpAny_bind (L0.at (wpAny_bind (hmro.at ?_))))
  rw [hm, refuseLoop_ref, refuse_list]
  refine wpAny_pure (wpAny_bind (L0.at (wpAny_bind (L2.at (wpAny_bind (L3.at ?_))))))
  dsimp only
  have D' := (U2 (dx, dictOf es' nd') (List.mem_append.mpr (.inr (.head _)))).1
  unfold storeInOwnDict
  show wpAny _ _ (pure () >>= _) _ _ _
  refine wpAny_bind (wpAny_pure ?_)
  dsimp only
  rw [if_neg (by simp)]
  have hcd : Looks (model prog w) hh (classData C) cd := looks_clsIn X hc
  refine wpAny_bind ?_
  show wpAny _ _ (instanceDict x true) _ _ _
  unfold instanceDict
  refine wpAny_bind (wpAny_loadPart hx' ?_)
  dsimp only
  refine wpAny_bind (hcd.at ?_)
  rw [hd, if_neg (by decide)]
  refine wpAny_pure ?_
  dsimp only
  unfold storeInDict newKeyGuard
  refine wpAny_bind (wpAny_pure (wpAny_bind ?_))
  unfold nsSet
  refine wpAny_bind (wpAny_bind (wpAny_askSetting (wpAny_pure (wpAny_bind (wpAny_mkText (wpAny_bind (wpAny_loadPart hdx ?_)))))))
  dsimp only
  rw [if_neg (by rw [aRefKeyMayBeTheName_at]; simp)]
  refine wpAny_updatePart hdx ?_
  refine wpAny_bind (wpAny_lookBehind D' (by exact pastItsLine_dict (by rw [List.size_toArray, sizeLine_eq]; k_extra "o")) ?_)
  exact wpAny_pure (h _ U1 U2)
end
section
variable {prog : Program} {w : World} {A : Around} {K : Frag} {C : Addr} {R : Result → Shared → Prop} {h : Heap} {g : Array GenState} {d : Drawn} {t : Nat} {os : OsState}
structure MakesL (M : Model) (h : Heap) (C : Addr) : Prop where
  obj : ∃ oc od cd sl, h.get? C = some ⟨oc, od, .cls cd, sl⟩ ∧ cd.hasDel = false ∧ cd.mro.isEmpty = false
  made : Looks M h (Bind.madeBy (.ref C)) (some "list.__new__")
  base : Looks M h (Bind.staticBase (.ref C)) (.ref C)
  self : Looks M h (isSubtype (.ref C) (.ref C)) true
  top : Looks M h (isSubtype (.ref C) (.type "list")) true
  call : Looks M h (specialOf (.ref C) "__call__") (some (.builtin "type.__call__"))
  typ : Looks M h (isInstance (.ref C) (.type "type")) true
theorem makesL_of {M : Model} (X : K.In h) {oc : Value} {od : Option Addr} {cd : ClassData} {sl : Array (Option Value)} (ho : K.lookup C = some ⟨oc, od, .cls cd, sl⟩) (e2 : cd.hasDel = false) (e3 : (sl.toList[4]?).join = some (.builtin "list.__new__"))
    (hm : cd.mro = [.ref C, .type "list", .type "object"]) (e7 : specialIn K (.ref C) "__call__" = some (some (.builtin "type.__call__"))) (e8 : instIn K (.ref C) (.type "type") = some true) : MakesL M h C := by
  have hc : clsIn K C = some cd := by unfold clsIn; rw [ho]
  have hmr : Looks M h (mroOf (.ref C)) cd.mro := (looks_clsIn X hc).andThen .now
  have sub : ∀ b, b ∈ cd.mro → mroIn K C b = some true := fun b hb => by
    unfold mroIn
    rw [hc, Option.bind_some, if_neg (by rw [hm]; simp), List.contains_iff_mem.mpr hb]
  have made : Looks M h (Bind.madeBy (.ref C)) (some "list.__new__") := by
    intro A Q E s k q
    unfold Bind.madeBy
    refine wpAny_bind (hmr A _ E s k ?_)
    rw [hm, List.forIn_cons]
    refine wpAny_bind (wpAny_bind (wpAny_bind (wpAny_bind (wpAny_loadPart (k _ _ (X _ _ ho)) (wpAny_pure ?_)))))
    dsimp only
    rw [← Array.getElem?_toList, e3]
    exact wpAny_pure (wpAny_pure (wpAny_pure q))
  refine ⟨⟨oc, od, cd, sl, X _ _ ho, e2, by rw [hm]; rfl⟩, made, ?_, looks_mroIn X (sub _ (by rw [hm]; exact .head _)), looks_mroIn X (sub _ (by rw [hm]; exact .tail _ (.head _))), looks_specialIn X e7, looks_instIn X e8⟩
  intro A Q E s k q
  unfold Bind.staticBase
  refine wpAny_bind (hmr A _ E s k ?_)
  rw [hm, List.forIn_cons]
  exact wpAny_bind (wpAny_bind (wpAny_bind (made A _ E s k (wpAny_pure (wpAny_pure (wpAny_pure q))))))
theorem kind_lnew : builtinKind "list.__new__" = some .builtinFn := by decide +kernel
theorem split_lnew : splitId "list.__new__" = some ("list", "__new__") := by decide +kernel
theorem newL (Y : MakesL (model prog w) h C) (hq : R (.ok (.ret (.ref (h.objs.size + 1)))) ⟨(h.push emptyDict).push (accOf C h.objs.size #[] 0), g, d, t, os⟩) :
    codeAny (model prog w) A (.call (.builtin "list.__new__") ⟨[.ref C], []⟩) R ⟨h, g, d, t, os⟩ := by
  obtain ⟨⟨oc, od, cd, sl, hC, e2, e4⟩, made, base, self, top, call, typ⟩ := Y
  refine codeAny_of_tree ?_
  show wpAny _ A.in1 (do checkBuiltinCall "list.__new__" ⟨[.ref C], []⟩; again (.builtin "list.__new__" ⟨[.ref C], []⟩)) _ _ _
  unfold checkBuiltinCall
  rw [kind_lnew, split_lnew]
  have here : Looks (model prog w) h (isType (.ref C)) true := fun A Q E s k q => by
    obtain ⟨hh, g, d, t, os⟩ := s
    exact ks_wpAny_isType_cls (k _ _ hC) rfl q
  refine wpAny_bind ?_
  repeat (first | simp only [bne_self_eq_false, Bool.false_eq_true, if_false] | lk)
  refine ⟨plainId_quiet PySem.F.plain_list_new _, codeAny_builtin_stack PySem.F.entry_list_new rfl fun p st => ?_⟩
  rw [Around.under_plainId PySem.F.plain_list_new _]
  have hown := owner_list_new
  simp only [hown]
  repeat (first | simp only [Bool.false_eq_true, if_false, Bool.not_true] | lk)
  refine nd_load (s := ⟨(h.push emptyDict).push (accOf C h.objs.size #[] 0), g, d, t, os⟩) (Heap.get?_push_of_some _ (Heap.get?_push_of_some _ hC)) ?_
  refine nd_pure ?_
  refine wpAny_pure ?_
  rw [e2, if_neg (by decide)]
  refine wpAny_pure (wpAny_pure ?_)
  show R _ _
  rw [Heap.size_push]
  exact hq
theorem makeL {init : Value} (Y : MakesL (model prog w) h C) (hi : Looks (model prog w) h (typeLookup (.ref C) "__init__") (some init)) (hb : ∀ self, Looks (model prog w) h (bindSpecial init self) (init, [self]))
    (hq : codeAny (model prog w) (A.under (.builtin "type.__call__" ⟨[.ref C], []⟩)) (.call init ⟨[.ref (h.objs.size + 1)], []⟩) (InitBack (h.objs.size + 1) R) ⟨(h.push emptyDict).push (accOf C h.objs.size #[] 0), g, d, t, os⟩) :
    codeAny (model prog w) A (.call (.ref C) ⟨[], []⟩) R ⟨h, g, d, t, os⟩ := by
  have Y' := Y
  obtain ⟨⟨oc, od, cd, sl, hC, e2, e4⟩, made, base, self, top, call, typ⟩ := Y
  refine codeAny_of_tree ?_
  show wpAny _ _ (callAny (.ref C) _) _ _ _
  refine nd_load hC ?_
  show wpAny _ _ (callAny.viaDunder (.ref C) _) _ _ _
  unfold callAny.viaDunder
  refine wpAny_bind (call.at ?_)
  dsimp only
  rw [tc_bind]
  refine wpAny_bind (wpAny_pure (wpAny_bind (wpAny_pure ?_)))
  refine wpAny_pure (a := Fin.again (.call (.builtin "type.__call__") ⟨[.ref C], []⟩)) (And.intro rfl ?_)
  refine codeAny_call_builtin_at (Code.quiet_builtin _ (by decide +kernel)) entry_typeCall (check_slot tc_kind tc_split typ (tc_args _ _ _) ?_)
  unfold Builtin.«type.__call__»
  have hm : Looks (model prog w) h (mroOf (.ref C)) cd.mro := ((Looks.ld (part := none) hC).andThen .now).andThen .now
  repeat (first | simp only [e4, Bool.false_eq_true, if_false] | with_reducible refine wpAny_call ?_ | lk)
  refine newL Y' ?_
  have k : ∀ b o, h.get? b = some o → ((h.push emptyDict).push (accOf C h.objs.size #[] 0)).get? b = some o := fun b o e => Heap.get?_push_of_some _ (Heap.get?_push_of_some _ e)
  have hx : ((h.push emptyDict).push (accOf C h.objs.size #[] 0)).get? (h.objs.size + 1) = some (accOf C h.objs.size #[] 0) := by heap_get
  have t1 : Looks (model prog w) ((h.push emptyDict).push (accOf C h.objs.size #[] 0)) (typeOf (.ref (h.objs.size + 1))) (.ref C) := (Looks.ld hx).andThen .now
  have s1 := self.keeps k
  have i1 := hi.keeps k
  have b1 := (hb (.ref (h.objs.size + 1))).keeps k
  unfold isInstance callSpecial? specialOf
  repeat (first | with_reducible refine wpAny_call ?_ | lk)
  refine codeAny_mono hq fun r s' z => ?_
  rcases r with e | (v | _ | _ | _) <;> first | exact z | exact z.elim | skip
  obtain ⟨rfl, z⟩ := z
  exact wpAny_pure (wpAny_pure z)
end
section
variable {prog : Program} {w : World} {A : Around} {E : Value → Shared → Prop} {s : Shared} {h₀ : Heap} {L : Addr} {m : Str → Option Value} {news : Led} {K : Frag} {C fI : Addr}
theorem init_acc {x dx : Addr} {n : Nat} {news' : Led} {Q : Value → Shared → Prop} (F : Fr h₀ L s.heap m) (N : News h₀ L s.heap news) (U : Upd x (accOf C dx #[] n) (accOf C dx #[] n) news news')
    (h : ∀ h', Fr h₀ L h' m → News h₀ L h' news' → Q .none { s with heap := h' }) :
    codeAny (model prog w) A (.builtin "list.__init__" ⟨[.ref x], []⟩) (fun r s' => match r with | .ok (.ret v) => Q v s' | .ok _ => False | .error e => E e s') s := by
  obtain ⟨pre, post, e1, -, -, -⟩ := U.split
  have z := N (x, accOf C dx #[] n) (by rw [e1]; exact List.mem_append.mpr (.inr (.head _)))
  refine codeAny_builtin entry_linit ?_
  show wpAny _ _ (Builtin.List.listItems (.ref x) >>= _) _ _ s
  refine wpAny_bind (wpAny_listItems z.1 rfl ?_)
  refine wpAny_bind (seq_upd (f := fun _ => #[]) F N U rfl (by simp) (by simp) rfl fun h' F' N' => ?_)
  exact wpAny_bind (wpAny_letGo (wpAny_pure (h h' F' N')))
end
section
variable {P : Program} {w : World} {b₀ : Heap} {D U : Nat} {tl : Led} {Ret : Value → Led → Prop} {K : Frag} {p : Program} {loose : List Str} {mean : ExcName → Option Value} {mg mb : Str → Option Value}
  {name qual : Str} {params : Arguments} {body : List Stmt} {scope : Scope} {dV kV doc pm cdv ct oc : Value} {an od : Option Addr} {osl : Array (Option Value)} {f cc : Addr} {args : Args} {binds : List (Str × Value)}
theorem enterS (X : K.In b₀) (T : Top p loose mean mg mb b₀)
    (ho : K.lookup f = some ⟨oc, od, .func (ksFn name qual params body scope dV kV doc pm an cdv ct cc), osl⟩) (hcd : codeIn K cdv qual = true)
    (hbind : ∀ s : Shared, K.In s.heap → BindsTo s (ksFn name qual params body scope dV kV doc pm an cdv ct cc) args binds) (hloc : ∀ y ∈ binds, scope.names.lookup y.1 = some .local)
    (h : ∀ dp un gd fr s g L' h₁, dp + D < recursionLimit → un + U < cLine → Fr g L' h₁ (fun y => binds.reverse.lookup y) → News g L' h₁ tl → Below (AR dp un gd fr) b₀ fr g → b₀.StaysIn g → K.In g → Top p loose mean mg mb g → (∀ q ∈ tl, q.1 < L') →
      _root_.PySem.wpAt (model P w) ((AR dp un gd fr).deeper (ksEnv qual scope L' f cdv cc)) (.func body (ksEnv qual scope L' f cdv cc)) (execs body (ksEnv qual scope L' f cdv cc))
        (fun fl s' => Done g Ret s (match fl with | .ret v => v | _ => .none) s') (fun _ _ => False) { s with heap := h₁, toks := s.toks + binds.length })
    (hD : 0 < D) (hcell : ∀ x ∈ scope.names, x.2 ≠ .cell) (hco : scope.isCoroutine = false) (hgen : scope.isGenerator = false) (hk : scope.kind = .function) :
    FS P w b₀ D U (.ref f) args tl Ret := by
  intro dp un gd fr s R M hd hu hR
  have st : b₀.StaysIn (hideAll s.heap (tl.map (·.1))) := fun b o e => hideAll_get _ (M.stays b o e) fun q => by
    obtain ⟨x, hx, rfl⟩ := List.mem_map.mp q
    rw [(M.cells x hx).2] at e; cases e
  have B : Below (AR dp un gd fr) b₀ fr (hideAll s.heap (tl.map (·.1))) := ⟨rfl, st, funFrames_hideAll M.frames fun env he a ha => by
    obtain ⟨x, hx, rfl⟩ := List.mem_map.mp ha
    exact M.off env he x hx⟩
  have XS : K.In s.heap := X.keeps M.stays
  refine ks_codeAny_call_defAt (fd := ksFn name qual params body scope dV kV doc pm an cdv ct cc) (body := body) (binds := binds) (show dp < recursionLimit by k_extra "o") (XS _ _ ho) rfl (T.nolimit.keeps M.stays) (codeRec_of XS hcd) rfl (hbind s XS) hcell hloc (fun h₁ hns hk₁ => ?_) hco hgen hk
  refine ks_wpAt_mono (h dp un gd fr s (hideAll s.heap (tl.map (·.1))) s.heap.objs.size h₁ hd hu ⟨hns, fun b o e => hk₁ b o (of_hideAll _ e), Nat.le_of_eq (hideAll_size _ _)⟩
    (fun q hq => ⟨hk₁ _ _ (M.cells q hq).1, Nat.ne_of_lt (Heap.lt_size (M.cells q hq).1), hideAll_none _ (List.mem_map_of_mem hq)⟩) B st (X.keeps fun b o e => st b o e) (T.keeps fun b o e => st b o e) (fun q hq => Heap.lt_size (M.cells q hq).1)) (fun fl s' hl => ?_) fun _ _ y => y.elim
  obtain ⟨L, m, tl', h', tk, rfl, F', N', r⟩ := hl
  refine hR _ tl' h' tk r (fun b o hb e => F'.keep b o (hideAll_get _ e hb)) fun q hq => ⟨(N' q hq).1, ?_, hidden_none (N' q hq).2.2⟩
  cases z : b₀.get? q.1 with
  | none => rfl
  | some o => have := (N' q hq).2.2; rw [st _ _ z] at this; cases this
end
theorem ck_init (a : Value) : checkBoundCall "list.__init__" ⟨[a], []⟩ = pure () := by kernel_rfl
end Mine
end

section
namespace Mine
open PySem PySem.W PyProof.Rows PySem.Calls PySem.Spec
section
variable {P : Program} {w : World} {b₀ : Heap} {D U : Nat} {f : Value} {args : Args} {tl : Led} {Ret : Value → Led → Prop}
end
end Mine
end

section
namespace Mine
open PySem PySem.W PyProof.Rows PySem.Calls PySem.Spec
noncomputable def StrsOk (ns : List Str) : Prop := ∀ s ∈ ns, PyData.strOk s = true
theorem str_canLayAll0 : ∀ ns : List Str, StrsOk ns → PyData.canLayAll0 (ns.map PyData.str) = true
  | [], _ => rfl
  | x :: r, h => by simp [PyData.canLayAll0, PyData.canLay0, str_canLayAll0 r fun s hs => h s (.tail _ hs), h x (.head _)]
theorem str_depthAll : ∀ ns : List Str, PyData.depthAll (ns.map PyData.str) = 0
  | [] => rfl
  | _ :: r => by simp [PyData.depthAll, PyData.depth, str_depthAll r]
theorem str_shaped (ns : List Str) (h : StrsOk ns) : SeqAt.shaped (.list (ns.map PyData.str)) = true := by
  simp [SeqAt.shaped, PyData.canLay0, PyData.depth, str_canLayAll0 ns h, str_depthAll]
theorem str_sameAll : ∀ ns ms : List Str, PySem.Spec.sameAll (ns.map PyData.str) (ms.map PyData.str) = decide (ns = ms)
  | [], [] => by simp [PySem.Spec.sameAll]
  | [], _ :: _ => by simp [PySem.Spec.sameAll]
  | _ :: _, [] => by simp [PySem.Spec.sameAll]
  | a :: r, b :: t => by
    simp only [List.map_cons, PySem.Spec.sameAll, PySem.Spec.same, str_sameAll r t]
    by_cases h : a = b <;> by_cases h' : r = t <;> simp [h, h']
theorem str_carried : ∀ {vs : List Value} {ns : List Str}, StrsAre vs ns → CarriedAll vs (ns.map PyData.str)
  | _, _, .nil => .nil
  | _, _, .cons _ t r => .cons (.str _ t) (str_carried r)
section
variable {prog : Program} {w : World} {A : Around} {E : Value → Shared → Prop} {s : Shared} {a b : Addr} {xs ys : List Value} {ns ms : List Str} {Q : Value → Shared → Prop}
theorem ne_strs (ha : s.heap.IsList a xs.toArray) (hb : s.heap.IsList b ys.toArray) (hi : StrsAre xs ns) (hj : StrsAre ys ms) (hx : StrsOk ns) (hy : StrsOk ms) (hu : A.units + 64 < cLine) (h : Q (.bool (!decide (ns = ms))) s) :
    wpAny (model prog w) A (compareOp .NotEq (.ref a) (.ref b)) Q E s :=
  ne_dataH_same (reads_newData ha (str_carried hi)) (reads_newData hb (str_carried hj)) (str_shaped _ hx) (str_shaped _ hy) hu (SeqAt.noMix_of_shape (.list .str) rfl _ _ (list_map_has fun _ => rfl) (list_map_has fun _ => rfl)) (by simp only [PySem.Spec.same]; rw [str_sameAll]; exact h)
end
section
variable {P : Program} {w : World} {b₀ : Heap} {D U : Nat} {tl : Led} {Ret : Value → Led → Prop} {K : Frag} {p : Program} {loose : List Str} {mean : ExcName → Option Value} {mg mb : Str → Option Value}
  {name qual : Str} {params : Arguments} {body : PySem.Expr} {scope : Scope} {cl : List (Str × Addr)} {pm ct : Value} {f c' : Addr} {occ : Obj} {vs : Array Value} {tq : Tok} {args : Args} {binds : List (Str × Value)}
end
end Mine
end

section
namespace Mine
open PySem PySem.W PyProof.Rows PySem.Calls PySem.Spec
section
variable {M : Model} {A : Around} {env : Env} {Q : Flow → Shared → Prop} {E : Value → Shared → Prop} {b : List Stmt}
end
end Mine
end

section
namespace Mine
open PySem PySem.W PyProof.Rows PySem.Calls PySem.Spec
noncomputable def SeqAt (h : Heap) (l : Addr) (items : Array Value) : Prop := ∃ o, h.get? l = some o ∧ ∃ n, o.data = .seq items n
theorem SeqAt.at {h h' : Heap} {l : Addr} {items : Array Value} (x : SeqAt h l items) (k : ∀ o, h.get? l = some o → h'.get? l = some o) : SeqAt h' l items := let ⟨o, a, b⟩ := x; ⟨o, k o a, b⟩
section
variable {prog : Program} {w : World} {A : Around} {E : Value → Shared → Prop} {s : Shared}
theorem nextSeq_item {it l : Addr} {i : Nat} {items : Array Value} {x : Value} {Q : Option Value → Shared → Prop} (hit : s.heap.IsListIter it l i) (hl : SeqAt s.heap l items) (hx : items[i]? = some x)
    (hQ : ∀ h', h'.IsListIter it l (i + 1) → Heap.SameBut it s.heap h' → Q (some x) { s with heap := h' }) : wpAny (model prog w) A (pyNext (.ref it)) Q E s := by
  obtain ⟨o, ho, hc, hd⟩ := id hit
  obtain ⟨ol, hol, nl, hdl⟩ := hl
  unfold pyNext
  refine wpAny_bind (wpAny_attempt (wpAny_callSpecial?_slot (name := Str.ofString "__next__") hit.typeIs slot_listiter_next (wpAny_call_entry slot_listiter_next hit.typeIs entry_listiter_next ?_ (args_listiter_next _))))
  show wpAny _ _ (field (.ref it) 0 >>= _) _ _ s
  refine wpAny_bind (wpAny_field ho hd (x := .ref l) rfl ?_)
  show wpAny _ _ (if (Value.ref l == Value.none) = true then _ else _) _ _ s
  rw [if_neg (by exact Bool.false_ne_true)]
  refine wpAny_bind (wpAny_field ho hd (x := .int i 0) rfl ?_)
  refine wpAny_bind (wpAny_seqItems hol hdl ?_)
  simp only [Int.toNat_natCast, hx]
  refine wpAny_bind (wpAny_setField ho hd (by simp) (wpAny_pure ⟨x, rfl, wpAny_pure (hQ _ ?_ (Heap.SameBut.update ..))⟩))
  exact ⟨_, Heap.get?_update_self _ ho (Obj.isFreed_of_fields (Obj.data_mapFields hd _)), (Obj.cls_mapFields ..).trans hc, by rw [Obj.data_mapFields hd]; simp [rawInt]⟩
theorem nextSeq_end {it l : Addr} {i : Nat} {items : Array Value} {Q : Option Value → Shared → Prop} (hh : A.handled = none) (hit : s.heap.IsListIter it l i) (hl : SeqAt s.heap l items) (hx : items[i]? = none)
    (hQ : ∀ h', Heap.ExtBut it s.heap h' → Q none { s with heap := h' }) : wpAny (model prog w) A (pyNext (.ref it)) Q E s := by
  obtain ⟨o, ho, hc, hd⟩ := id hit
  obtain ⟨ol, hol, nl, hdl⟩ := hl
  unfold pyNext
  refine wpAny_bind (wpAny_attempt (wpAny_callSpecial?_slot (name := Str.ofString "__next__") hit.typeIs slot_listiter_next (wpAny_call_entry slot_listiter_next hit.typeIs entry_listiter_next ?_ (args_listiter_next _))))
  show wpAny _ _ (field (.ref it) 0 >>= _) _ _ s
  refine wpAny_bind (wpAny_field ho hd (x := .ref l) rfl ?_)
  show wpAny _ _ (if (Value.ref l == Value.none) = true then _ else _) _ _ s
  rw [if_neg (by exact Bool.false_ne_true)]
  refine wpAny_bind (wpAny_field ho hd (x := .int i 0) rfl ?_)
  refine wpAny_bind (wpAny_seqItems hol hdl ?_)
  simp only [Int.toNat_natCast, hx]
  refine wpAny_bind (wpAny_rule (wpAny_bind (wpAny_setField ho hd (by simp) ?_)))
  refine wpAny_bind (m := newExc _ _) ?_
  simp only [newExc, newTuple]
  refine wpAny_bind (wpAny_newObj_type ?_ (by size_fits))
  refine wpAny_bind (m := firstArgMember _ _) (wpAny_of_eq (a := Value.none) (by first | rfl | (simp only [firstArgMember]; rfl)) ?_)
  refine wpAny_newObj_type ?_ (by size_fits)
  simp only [raiseNew]
  refine wpAny_bind (wpAny_handled ?_)
  rw [show A.in1.handled = none from hh]
  refine wpAny_bind (wpAny_pure (wpAny_throw ?_))
  refine wpAny_bind (wpAny_isInstance (T := "StopIteration") (b := true) ⟨_, Heap.get?_push_size _ rfl, rfl⟩ isSubtype_stop ?_)
  exact wpAny_pure (hQ _ (((Heap.SameBut.update ..).extBut.push _).push _))
structure PairsAt (h : Heap) (ps : List (Addr × Value × Value)) : Prop where
  get : ∀ p ∈ ps, h.IsTuple p.1 #[p.2.1, p.2.2]
noncomputable abbrev refs (ps : List (Addr × Value × Value)) : List Value := ps.map fun p => .ref p.1
theorem walks_pairs (hh : A.handled = none) (I ax : Addr) (hne : ax ≠ I) (ps : List (Addr × Value × Value)) (hI : ∀ p ∈ ps, p.1 ≠ I) :
    WalksU prog w A I (I :: ax :: ps.map (·.1)) [I] ps.length (fun i vals => ∃ p, ps[i]? = some p ∧ vals = #[p.2.1, p.2.2])
      (fun i h => (h.IsListIter I ax i ∧ SeqAt h ax (refs ps).toArray) ∧ PairsAt h ps) (fun i T h => (h.IsListIter I ax (i + 1) ∧ SeqAt h ax (refs ps).toArray) ∧ PairsAt h ps ∧ T ≠ I) where
  sub := fun b hb => by simp at hb; simp [hb]
  frame := fun _ _ _ st hk => ⟨⟨st.1.1.at fun o e => hk I (by simp) o e, st.1.2.at fun o e => hk ax (by simp) o e⟩, ⟨fun p hp => let ⟨o, e, r⟩ := st.2.get p hp; ⟨o, hk p.1 (.tail _ (.tail _ (List.mem_map_of_mem hp))) o e, r⟩⟩⟩
  item := fun i s Q E hi st hQ => by
    have ei : ps[i]? = some ps[i] := List.getElem?_eq_getElem hi
    have hm : ps[i] ∈ ps := List.getElem_mem hi
    refine nextSeq_item st.1.1 st.1.2 (x := .ref ps[i].1) (by simp [ei]) fun h' hit' hs' => ?_
    have k : ∀ b o, b ∉ [I] → s.heap.get? b = some o → h'.get? b = some o := fun b o hb e => hs'.extBut b o (fun h => hb (by simp [h])) e
    have pr : PairsAt h' ps := ⟨fun p hp => let ⟨o, e, r⟩ := st.2.get p hp; ⟨o, k p.1 o (by simpa using hI p hp) e, r⟩⟩
    exact hQ _ _ h' s.toks ⟨_, ei, rfl⟩ (pr.get _ hm) ⟨⟨hit', st.1.2.at fun o e => k _ o (by simpa using hne) e⟩, pr, hI _ hm⟩ k
  go := fun elts k pos i T s Q E st hQ => letGo_listiter st.1.1 (hQ s.heap ⟨st.1, st.2.1⟩ fun _ _ _ e => e)
  apart := fun i T h st => by simpa using st.2.2
  done := fun s Q E st hQ => nextSeq_end hh st.1.1 st.1.2 (by simp) fun h' he' => hQ h' s.toks fun b o hb e => he' b o (fun h => hb (by simp [h])) e
  self := fun _ _ _ _ st hQ => wpAny_pyIter_listiter st.1.1 hQ
end
section
variable {prog : Program} {w : World} {A : Around} {E : Value → Shared → Prop} {s : Shared} {K : Frag} {x C : Addr} {ox : Obj} {od : Option Obj}
theorem ty_liter : typeOf (.builtin "list.__iter__") = pure (.type "wrapper_descriptor") := by show builtinType _ = _; rw [builtinType_eq_fast]; kernel_rfl
theorem kind_liter : builtinKind "list.__iter__" = some .slot := by decide +kernel
theorem split_liter : splitId "list.__iter__" = some ("list", "__iter__") := by decide +kernel
theorem arg_liter (a : Value) : argsOk "list.__iter__" ⟨[a], []⟩ := by unfold argsOk; kernel_rfl
theorem call_unless {M : Model} {A : Around} {E : Value → Shared → Prop} {s : Shared} {self g : Value} {name : Str} {refuse : Sem Value} {Q : Option Value → Shared → Prop} (L1 : Looks M s.heap (specialOf self name) (some g)) (L2 : Looks M s.heap (bindSpecial g self) (g, [self])) (hg : (g == Value.none) = false)
    (hc : wpAny M A (PySem.call g [self]) (fun v => Q (some v)) E s) : wpAny M A (callSpecialIfBoundUnlessNone? self name refuse) Q E s := by
  simp only [callSpecialIfBoundUnlessNone?, bindSpecialIfBound?]
  refine wpAny_holding (wpAny_bind (wpAny_bind (L1.here ?_)))
  refine wpAny_bind (wpAny_askSetting (wpAny_ite ?_))
  have fin : wpAny M A (if (g == Value.none) = true then (refuse >>= fun v => pure (some v)) else (PySem.call g [self] >>= fun v => pure (some v))) Q E s := by
    rw [if_neg (by rw [hg]; exact Bool.false_ne_true)]
    exact wpAny_bind (wpAny_mono hc (fun v s' h' => wpAny_pure h') fun _ _ h' => h')
  split
  · exact wpAny_bind (L2.here (wpAny_pure fin))
  · exact wpAny_tryCatch (wpAny_bind (L2.here (wpAny_pure fin)))
theorem iter_acc {Q : Value → Shared → Prop} (X : K.In s.heap) (I : InstAt s.heap x ox C od) (hi : findIn K (.ref C) "__iter__" = some (some (.builtin "list.__iter__"))) (hs : subIn K (.ref C) (.type "list") = some true)
    (h : Q (.ref s.heap.objs.size) { s with heap := s.heap.push { cls := .type "list_iterator", data := .fields #[.ref x, .int 0 0] } }) : wpAny (model prog w) A (pyIter (.ref x)) Q E s := by
  have L1 : Looks (model prog w) s.heap (specialOf (.ref x) "__iter__") (some (.builtin "list.__iter__")) := I.type.andThen (looks_findIn X hi)
  have L2 : Looks (model prog w) s.heap (bindSpecial (.builtin "list.__iter__") (.ref x)) (.builtin "list.__iter__", [.ref x]) := fun A Q E s k q => by
    unfold bindSpecial
    rw [ty_liter]
    exact wpAny_bind (wpAny_pure (by rw [if_pos (by decide +kernel)]; exact wpAny_pure q))
  unfold pyIter
  refine wpAny_bind (L1.here ?_)
  have call : wpAny (model prog w) A (call (.builtin "list.__iter__") [.ref x]) (fun v s' => v = .ref s.heap.objs.size ∧ s' = { s with heap := s.heap.push { cls := .type "list_iterator", data := .fields #[.ref x, .int 0 0] } }) E s := by
    refine wpAny_call (codeAny_call_builtin slot_list_iter.plain entry_list_iter (check_meth (.inr kind_liter) split_liter (I.type.andThen (looks_subIn X hs)) (arg_liter _) ?_))
    show wpAny _ _ (do ret (← newFields "list_iterator" [.ref x, rawInt 0])) _ _ s
    exact wpAny_bind (wpAny_newObj_type (wpAny_pure ⟨rfl, rfl⟩))
  refine wpAny_bind (m := callSpecialIfBoundUnlessNone? _ _ _) (call_unless L1 L2 (by decide) (wpAny_mono call (fun v s' ⟨e1, e2⟩ => ?_) fun _ _ z => z))
  subst e1 e2
  exact wpAny_bind (wpAny_specialOf (T := "list_iterator") ⟨_, Heap.get?_push_size _ rfl, rfl⟩ slot_listiter_next.lookup (wpAny_pure h))
end
end Mine
end

section
namespace Mine
open PySem PySem.W PyProof.Rows PySem.Calls PySem.Spec
section
variable {prog : Program} {w : World} {A : Around} {E : Value → Shared → Prop} {s : Shared}
theorem gx_code {env : Env} {c P : Addr} {ps : Array Value} {pos : Pos} {qual : Str} {scope : Scope} {Q : Value → Shared → Prop} (hc : env.code = .ref c) (C : CodeHd s.heap c P) (hP : s.heap.get? P = some (tabObj ps)) (ht : TriplesOk ps.toList)
    (h : ∀ cv h' tk ps', Heap.ExtBut P s.heap h' → s.heap.objs.size ≤ h'.objs.size → h'.get? P = some (tabObj ps') → TriplesOk ps'.toList → Q cv { s with heap := h', toks := tk }) :
    wpAny (model prog w) A (genexprCode env pos qual scope) Q E s := by
  cases e : codeAmong pos ps.toList with
  | some cv => exact wpAny_genexprCode_hit hc (C.code hP ht) e (h cv s.heap s.toks ps (fun _ _ _ e => e) (Nat.le_refl _) hP ht)
  | none =>
    refine wpAny_genexprCodeX hc (C.code hP ht) (C.tab hP) e fun c' h' tk hx h1 h2 hcode _ htab _ => h _ h' tk _ hx (Nat.le_trans h1 (Nat.le_of_lt h2)) htab.2 ?_
    obtain ⟨o, vs, file, tf, flags, tg, inF, text, tt, op, -, -, -, -, -, -, -, f8, f9, f10, -⟩ := hcode
    have := htab.2
    rw [f8] at this; cases this
    cases f9
    exact f10
theorem args_sum2 (a b : Value) : argsOk "sum" ⟨[a, b], []⟩ := by unfold argsOk; kernel_rfl
theorem sum_from {x : Value} {t : Tok} {Q : Value → Shared → Prop}
    (h : wpAny (model prog w) A.in1 (pyIter x) (fun it s₂ => ∃ I fp wr G n P St val, it = .ref I ∧ WalksS prog w A.in1 I fp wr G n P St ∧ St 0 s₂ ∧ (∀ b ∈ fp, b < s₂.heap.objs.size) ∧
      (∀ i v, P i v → NumOf (val i) v) ∧ ∀ s' t', Moved wr G s₂ s' → Q (.int (preSum val n) t') s') E s) :
    wpAny (model prog w) A (call (.builtin "sum") [x, .int 0 t]) Q E s := by
  refine call_function_tree F.kind_sum F.plain_sum F.entry_sum (args_sum2 _ _) ?_
  unfold Builtin.«sum»
  simp only [List.length_cons, List.length_nil]
  rw [if_neg (by decide)]
  refine wpAny_bind (wpAny_of_eq (show Builtin.Builtins.bindParams "sum" ["start"] 0 ⟨[.int 0 t], []⟩ = pure [some (.int 0 t)] from rfl) ?_)
  refine wpAny_bind (wpAny_mono h (fun it s₂ h₂ => ?_) fun _ _ e => e)
  obtain ⟨I, fp, wr, G, n, P, St, val, rfl, W, hst, hfp, hval, hQ⟩ := h₂
  refine wpAny_bind (m := rule _) (wpAny_rule (wpAny_bind (m := mkInt _) (wpAny_mkInt (wpAny_bind (wpAny_pure ?_)))))
  simp only [List.forIn_cons, List.forIn_nil]
  refine wpAny_bind (wpAny_bind (wpAny_bind (wpAny_isInstance (T := "int") (b := false) (typeIs_int _ _ _) PySem.sub_int_str ?_)))
  simp only [Bool.false_eq_true, if_false]
  refine wpAny_pure (wpAny_bind (wpAny_bind (wpAny_isInstance (T := "int") (b := false) (typeIs_int _ _ _) sub_int_bytes ?_)))
  simp only [Bool.false_eq_true, if_false]
  refine wpAny_pure (wpAny_bind (wpAny_bind (wpAny_isInstance (T := "int") (b := false) (typeIs_int _ _ _) sub_int_bytearray ?_)))
  simp only [Bool.false_eq_true, if_false]
  refine wpAny_pure (wpAny_pure ?_)
  refine wpAny_bind (wpAny_newObj_type ?_)
  have hSf : s₂.heap.objs.size ∉ fp := fun hm => Nat.lt_irrefl _ (hfp _ hm)
  refine wpAny_pure ⟨plainId_quiet F.plain_sum_loop _, codeAny_sum_loopAnyB W val hval s₂.heap.objs.size hSf n 0 _ s₂.toks 0 0 (.inl rfl) rfl (Nat.zero_le _)
    (W.frame 0 s₂ _ _ hst (Nat.le_succ _) fun b _ o e => Heap.get?_push_of_some _ e) (Heap.get?_push_size _ rfl) fun s' t' hm => ?_⟩
  exact hQ s' t' (hm.drop_new (Nat.le_succ _))
end
end Mine
end

section
namespace Mine
open PySem PySem.W PyProof.Rows PySem.Calls PySem.Spec
section
variable {prog : Program} {w : World} {A : Around} {E : Value → Shared → Prop} {s : Shared} {K : Frag} {x C : Addr} {ox : Obj} {od : Option Obj}
structure GenNew (prog : Program) (w : World) (A : Around) (s : Shared) (P : Addr) (n : Nat) (F : Nat → Value → Prop) (a : Addr) (s5 : Shared) : Prop where
  walks : ∃ g fp wr St, WalksS prog w A.in4 a fp wr (GenOnlyQ g) n F St ∧ St 0 s5 ∧ (∀ b ∈ fp, b < s5.heap.objs.size) ∧ (∀ b ∈ wr, s.heap.objs.size ≤ b) ∧ (∀ i s', St i s' → s'.TypeIs (.ref a) "generator") ∧ a ∈ fp
  keep : ∀ b o, b ≠ P → s.heap.get? b = some o → s5.heap.get? b = some o
  tab : ∃ ps', s5.heap.get? P = some (tabObj ps') ∧ TriplesOk ps'.toList
  bare : AllBare s.gens → AllBare s5.gens
  drawn : s5.drawn = s.drawn
  os : s5.os = s.os
theorem gen_pairs {env : Env} {elt iter : Expr} {xa xb : Str} {pa pb pt : Pos} {kt : Nat} {scope : Scope} {pos : Pos} {Q : Value → Shared → Prop} {c P : Addr} {tb : Array Value} {mg : Str → Option Value} {ps : List (Addr × Value × Value)} {F : Nat → Value → Prop}
    (hh : A.handled = none) (hco : scope.isCoroutine = false) (hclos : closureFor scope env = pure []) (hcell : ∀ y ∈ scope.names, y.2 ≠ .cell) (h0 : scope.names.lookup (".0" : Str) = some NameKind.local)
    (hxa : scope.names.lookup xa = some .local) (hxb : scope.names.lookup xb = some .local) (hab : xa ≠ xb) (hkind : scope.kind = .function) (hroom : A.depth < recursionLimit) (hs : ∀ x, genFold iter env x = pure x)
    (hit : ∀ R : Value → Shared → Prop, R (.ref x) s → wpAny (model prog w) A (eval iter env) R E s)
    (X : K.In s.heap) (I : InstAt s.heap x ox C od) (hi : findIn K (.ref C) "__iter__" = some (some (.builtin "list.__iter__"))) (hsub : subIn K (.ref C) (.type "list") = some true)
    (hx : SeqAt s.heap x (refs ps).toArray) (hp : PairsAt s.heap ps) (hlim : s.heap.NoLimit) (hc : env.code = .ref c) (hC : CodeHd s.heap c P) (hP : s.heap.get? P = some (tabObj tb)) (ht : TriplesOk tb.toList)
    (hg : s.heap.Ns env.globals mg) (hgP : env.globals ≠ P) (hb : s.heap.BuiltinsAt mg P) (hxP : x ≠ P) (hpP : ∀ p ∈ ps, p.1 ≠ P) (hsP : cStatics ≠ P)
    (helt : ∀ (A' : Around) E' (C : Addr) (code : Value) i p (s₂ : Shared) m₂, A'.handled = none → s.heap.objs.size ≤ C → ps[i]? = some p → s₂.heap.Ns C m₂ → m₂ xa = some p.2.1 → m₂ xb = some p.2.2 → (∀ b o, b ≠ P → s.heap.get? b = some o → s₂.heap.get? b = some o) →
      wpAny (model prog w) A' (eval elt (genEnv scope [] C code builtinsNs env)) (fun y s₃ => F i y ∧ Keeps s₂ s₃) E' s₂)
    (h : ∀ a s5, GenNew prog w A s P ps.length F a s5 → Q (.ref a) s5) :
    wpAny (model prog w) A (eval (.GeneratorExp elt [⟨.Tuple [.Name xa pa, .Name xb pb] kt pt, iter, [], 0⟩] scope pos) env) Q E s := by
  have hxlt : x < s.heap.objs.size := let ⟨_, e, _⟩ := hx; Heap.lt_size e
  have hplt : ∀ p ∈ ps, p.1 < s.heap.objs.size := fun p hp' => let ⟨_, e, _⟩ := hp.get p hp'; Heap.lt_size e
  have hPlt : P < s.heap.objs.size := Heap.lt_size hP
  refine wpAny_GeneratorExp_walksQT hh hco hclos hcell h0 hxa hxb hab hkind hroom (hit _ (iter_acc X I hi hsub ⟨hlim.push _, ?_⟩)) hs
  have hP2 : (s.heap.push { cls := .type "list_iterator", data := .fields #[.ref x, .int 0 0] }).get? P = some (tabObj tb) := Heap.get?_push_of_some _ hP
  refine gx_code (s := { s with heap := s.heap.push { cls := .type "list_iterator", data := .fields #[.ref x, .int 0 0] } }) hc (hC.keeps fun b o e => Heap.get?_push_of_some _ e) hP2 ht fun cv h3 tk3 tb3 hx3 hsz3 hP3 ht3 => ?_
  have k3 : ∀ b o, b ≠ P → s.heap.get? b = some o → h3.get? b = some o := fun b o hbP e => hx3 b o hbP (Heap.get?_push_of_some _ e)
  obtain ⟨bm, ob, hbm, hne0, _, hneP, hbo, hcls, hdict, hdata⟩ := hb
  have hsz3' : s.heap.objs.size < h3.objs.size := Nat.lt_of_lt_of_le (by show _ < (s.heap.push _).objs.size; rw [Heap.size_push]; exact Nat.lt_succ_self _) hsz3
  refine wpAny_builtinsFor ((hg.push _).extBut hx3 hgP) hbm hne0 (k3 _ _ hneP hbo) hcls hdict hdata ?_
  refine ⟨s.heap.objs.size, _, _, _, _, _, _, fun _ => true, F, rfl, fun A' hA => walks_pairs hA s.heap.objs.size x (Nat.ne_of_lt hxlt) ps (fun p hp' => Nat.ne_of_lt (hplt p hp')), ?_, ?_, ?_, ?_, ?_, ?_, ?_⟩
  · rintro i vals ⟨p, _, rfl⟩; exact ⟨_, _, rfl⟩
  · exact ⟨⟨⟨_, hx3 _ _ (Nat.ne_of_gt hPlt) (Heap.get?_push_size _ rfl), rfl, rfl⟩, hx.at fun o e => k3 x o hxP e⟩, ⟨fun p hp' => let ⟨o, e, r⟩ := hp.get p hp'; ⟨o, k3 _ o (hpP p hp') e, r⟩⟩⟩
  · intro b hb
    show b < h3.objs.size
    rcases List.mem_cons.mp hb with rfl | hb
    · exact hsz3'
    · rcases List.mem_cons.mp hb with rfl | hb
      · exact Nat.lt_trans hxlt hsz3'
      · obtain ⟨p, hp', rfl⟩ := List.mem_map.mp hb
        exact Nat.lt_trans (hplt p hp') hsz3'
  · exact (hlim.push _).extBut hx3 hsP
  · intro hm
    have e := List.mem_singleton.mp hm
    obtain ⟨mc, ⟨o, es, ep, e1, _⟩, _⟩ := hlim
    have := Heap.lt_size e1
    rw [e] at this; exact Nat.lt_irrefl _ this
  · intro href hk
    constructor
    · intro A' E' i va vb s₂ m₂ hA hPt hn h1 h2 hkk
      exact wpAny_pure ⟨rfl, ⟨s₂.heap, s₂.toks, rfl, fun _ _ e => e⟩⟩
    · rintro A' E' i va vb s₂ m₂ hA ⟨p, ep, evs⟩ _ hn h1 h2 hkk
      have e1 : va = p.2.1 ∧ vb = p.2.2 := by simpa using congrArg Array.toList evs
      rw [e1.1] at h1; rw [e1.2] at h2
      refine helt A' E' _ _ i p s₂ m₂ hA (Nat.le_of_lt hsz3') ep hn h1 h2 fun b o hbP e => hkk b (List.mem_range.mpr (Nat.lt_trans (Heap.lt_size e) hsz3')) (fun hm => ?_) o (hk b o (k3 b o hbP e))
      rw [List.mem_singleton.mp hm] at e
      exact Nat.lt_irrefl _ (Heap.lt_size e)
  · intro a h5 tk gs hgb hag hsz5 hk5 W hat
    have e : passing (fun _ : Nat => true) ps.length 0 = List.range ps.length := by simp [passing]
    have e2 : ∀ j i, (List.range ps.length)[j]? = some i → i = j := fun j i hj => by
      rw [List.getElem?_range (by have := (List.getElem?_eq_some_iff.mp hj).1; simpa using this)] at hj
      exact (Option.some.inj hj).symm
    have e3 : (passing (fun _ : Nat => true) ps.length 0).length = ps.length := by rw [e, List.length_range]
    rw [e] at W
    have W' := (⟨W.sub, W.grefl, W.gtrans, W.frame, fun i s Q E hi st hQ => W.item i s Q E (by rw [List.length_range]; exact hi) st fun v s' ⟨z, hz, hv⟩ => hQ v s' (e2 _ _ hz ▸ hv),
      fun s Q E st hQ => W.done s Q E (by rw [List.length_range]; exact st) hQ, W.self⟩ : WalksS prog w A.in4 a _ _ _ ps.length F _)
    have ha : h3.objs.size < a := hag
    refine h a _ ⟨⟨_, _, _, _, W', hat, ?_, ?_, fun i s' st => st.1.typeIs, List.mem_cons_self⟩, fun b o hbP e => hk5 b o (k3 b o hbP e), ⟨tb3, hk5 _ _ hP3, ht3⟩, fun B => AllBare.push B hgb, rfl, rfl⟩
    · intro b hb
      show b < h5.objs.size
      rw [hsz5]
      rcases List.mem_cons.mp hb with rfl | hb
      · exact Nat.lt_succ_self _
      · rcases List.mem_cons.mp hb with rfl | hb
        · exact Nat.lt_succ_of_lt ha
        · exact Nat.lt_succ_of_lt (Nat.lt_trans (List.mem_range.mp hb) ha)
    · intro b hb
      rcases List.mem_cons.mp hb with rfl | hb
      · exact Nat.le_of_lt hsz3'
      · rw [List.mem_singleton.mp hb]; exact Nat.le_refl _
end
end Mine
end

section
namespace Mine
open PySem PySem.W PyProof.Rows PySem.Calls PySem.Spec
section
variable {prog : Program} {w : World} {A : Around} {E : Value → Shared → Prop} {s s5 : Shared} {P a : Addr} {n : Nat} {F : Nat → Value → Prop}
structure Aft (s : Shared) (P : Addr) (s' : Shared) : Prop where
  keep : ∀ b o, b ≠ P → s.heap.get? b = some o → s'.heap.get? b = some o
  tab : ∃ ps', s'.heap.get? P = some (tabObj ps') ∧ TriplesOk ps'.toList
  bare : AllBare s.gens → AllBare s'.gens
  drawn : s'.drawn = s.drawn
  os : s'.os = s.os
theorem Aft.moved {s s5 s' : Shared} {P : Addr} {wr : List Addr} {g : Nat} (hP : P < s.heap.objs.size) (k : ∀ b o, b ≠ P → s.heap.get? b = some o → s5.heap.get? b = some o) (tab : ∃ ps', s5.heap.get? P = some (tabObj ps') ∧ TriplesOk ps'.toList) (bare : AllBare s.gens → AllBare s5.gens) (d : s5.drawn = s.drawn) (o : s5.os = s.os)
    (hw : ∀ b ∈ wr, s.heap.objs.size ≤ b) (hm : Moved wr (GenOnlyQ g) s5 s') : Aft s P s' :=
  ⟨fun b ob hb e => hm.heap b ob (fun z => Nat.lt_irrefl _ (Nat.lt_of_lt_of_le (Heap.lt_size e) (hw b z))) (k b ob hb e), let ⟨ps', e, t⟩ := tab; ⟨ps', hm.heap _ _ (fun z => Nat.lt_irrefl _ (Nat.lt_of_lt_of_le hP (hw P z))) e, t⟩, fun B => (bare B).movedS hm, hm.drawn.trans d, hm.os.trans o⟩
theorem GenNew.toks {tk : Nat} (G : GenNew prog w A s P n F a s5) (h : s5.toks ≤ tk) : GenNew prog w A s P n F a { s5 with toks := tk } := by
  obtain ⟨⟨g, fp, wr, St, W, st, hfp, hwr, hT, ha⟩, k, tab, bare, d, o⟩ := G
  exact ⟨⟨g, fp, wr, St, W, W.frame 0 s5 s5.heap tk st h fun _ _ _ e => e, hfp, hwr, hT, ha⟩, k, tab, bare, d, o⟩
theorem gen_sum {val : Nat → Int} {t : Tok} {Q : Value → Shared → Prop} (hP : P < s.heap.objs.size) (G : GenNew prog w A s P n F a s5) (hval : ∀ j v, F j v → NumOf (val j) v) (h : ∀ s' t', Aft s P s' → Q (.int (preSum val n) t') s') :
    wpAny (model prog w) A (call (.builtin "sum") [.ref a, .int 0 t]) Q E s5 := by
  obtain ⟨⟨g, fp, wr, St, W, st, hfp, hwr, hT, ha⟩, k, tab, bare, d, o⟩ := G
  have W := W.in4_1
  exact sum_from (W.self 0 _ _ _ st ⟨a, _, _, _, _, _, _, val, rfl, W, st, hfp, hval, fun s' t' hm => h s' t' (Aft.moved hP k tab bare d o hwr hm)⟩)
theorem gen_join {sep : Str} {t : Tok} {tx : Nat → Str} {Q : Value → Shared → Prop} (hP : P < s.heap.objs.size) (G : GenNew prog w A s P n F a s5) (htx : ∀ j v, F j v → ∃ u, v = .str (tx j) u) (hok : JoinOk sep ((List.range n).map tx) = true) (hsz : n ≤ sizeLine)
    (h : ∀ s' t', Aft s P s' → Q (.str (Txt.join sep ((List.range n).map tx)) t') s') : wpAny (model prog w) A (call (.builtin "str.join") [.str sep t, .ref a]) Q E s5 := by
  obtain ⟨⟨g, fp, wr, St, W, st, hfp, hwr, hT, ha⟩, k, tab, bare, d, o⟩ := G
  have W := W.in4_2
  refine SC.joinGen W hT st hfp ha (fun j v hv => let ⟨u, e⟩ := htx j v hv; ⟨_, u, e⟩) (fun s' lt hm hacc => ?_) hsz
  have hl : lt.map (·.1) = (List.range n).map tx := by
    apply List.ext_getElem?
    intro j
    have hsz : lt.length = n := by simpa [strValues] using hacc.1
    by_cases hj : j < n
    · have hj' : j < lt.length := hsz ▸ hj
      obtain ⟨u, hv⟩ := htx j _ (hacc.2 j (.str lt[j].1 lt[j].2) (by simp [strValues, List.getElem?_eq_getElem hj']))
      injection hv with h1 _
      simp [List.getElem?_eq_getElem hj', hj, h1]
    · rw [List.getElem?_eq_none (by simpa [hsz] using Nat.le_of_not_lt hj), List.getElem?_eq_none (by simpa using Nat.le_of_not_lt hj)]
  rw [hl]
  have A1 := Aft.moved hP k tab bare d o hwr hm
  exact ⟨hok, fun t' k' => h { s' with toks := k' } t' ⟨A1.keep, A1.tab, A1.bare, A1.drawn, A1.os⟩⟩
end
end Mine
end

section
namespace Mine
open PySem PySem.W PyProof.Rows PySem.Calls PySem.Spec
section
variable {prog : Program} {w : World} {A : Around} {E : Value → Shared → Prop} {s : Shared} {K : Frag} {x C f : Addr} {ox : Obj} {od : Option Obj}
theorem len_own {Q : Value → Shared → Prop} (X : K.In s.heap) (I : W.InstAt s.heap x ox C od) (hs : findIn K (.ref C) "__len__" = some (some (.ref f))) (hf : isFn K (.ref f) = true)
    (h : wpAny (model prog w) A.in1 (call (.ref f) [.ref x]) (fun r s' => ∃ (n : Nat) (u : Tok), r = .int n u ∧ n < 2 ^ 60 ∧ ∀ t tk, Q (.int n t) { s' with toks := tk }) E s) :
    wpAny (model prog w) A (call (.builtin "len") [.ref x]) Q E s := by
  refine Calls.call_function_entry PySem.kind_len PySem.plain_len PySem.entry_len (args_len1 _) ?_
  unfold Builtin.«len»
  refine wpAny_bind (m := oneArg "len" _) (wpAny_pure ?_)
  refine wpAny_bind (m := callSpecial? (.ref x) (Str.ofString "__len__")) (special_fn X I hs (beq_iff_eq.mp hf) (wpAny_mono h (fun r s' hr => ?_) fun _ _ y => y))
  obtain ⟨n, u, rfl, h1, hq⟩ := hr
  refine wpAny_bind (wpAny_holding (wpAny_pure ?_))
  refine wpAny_bind (wpAny_letGo ?_)
  show wpAny _ _ (if (n : Int) < 0 then _ else _) _ _ _
  rw [if_neg (by k_extra "o")]
  show wpAny _ _ (if (n : Int) ≥ 2 ^ 63 then _ else _) _ _ _
  rw [if_neg (by k_extra "o")]
  exact wpAny_bind (wpAny_mkInt (wpAny_pure ⟨_, rfl, hq _ _⟩))
end
end Mine
end

section
namespace Mine
open PySem PySem.W PyProof.Rows PySem.Calls PySem.Spec Builtin.ObjectAttr
section
variable {prog : Program} {w : World} {A : Around} {E : Value → Shared → Prop} {s : Shared} {K : Frag} {x C : Addr} {ox : Obj} {od : Option Obj} {name : Str} {ex : Bool}
theorem kind_lga : builtinKind "list.__getattribute__" = some .slot := by decide +kernel
theorem split_lga : splitId "list.__getattribute__" = some ("list", "__getattribute__") := by decide +kernel
theorem ga_ne {C : Addr} : ¬ ((onTheHeap (.ref C) && (Value.builtin "list.__getattribute__" == Value.builtin "object.__getattribute__")) = true) := by
  rw [Bool.and_eq_true, not_and]; intro _; decide +kernel
theorem ga_body {v : Value} {t : Tok} {Q : Fin → Shared → Prop} (X : K.In s.heap) (I : W.InstAt s.heap x ox C od) (hf : findObj K C od name = some (.value v)) (h : Q (.done (.ret v)) s) :
    wpAny (model prog w) A (Builtin.«object.__getattribute__» ⟨[.ref x, .str name t], []⟩) Q E s := by
  unfold Builtin.«object.__getattribute__»
  refine wpAny_bind (m := slotArgs _ _ _) (wpAny_pure ?_)
  refine wpAny_bind (m := Builtin.ObjectAttr.attrName _) (wpAny_pure ?_)
  refine wpAny_bind (I.type.here ?_)
  refine wpAny_bind ((looks_find X I hf).here ?_)
  exact wpAny_pure h
theorem ga_check {t : Tok} {Q : Unit → Shared → Prop} (X : K.In s.heap) (I : W.InstAt s.heap x ox C od) (hs : subIn K (.ref C) (.type "list") = some true) (h : Q () s) :
    wpAny (model prog w) A (checkBuiltinCall "list.__getattribute__" ⟨[.ref x, .str name t], []⟩) Q E s := by
  have L : Looks (model prog w) s.heap (isInstance (.ref x) (.type "list")) true := I.type.andThen (looks_subIn X hs)
  have := @check_slot (model prog w) A E s "list.__getattribute__" "list" "__getattribute__" (.ref x) [.str name t] [] Q kind_lga split_lga L (F.args_list_getattribute_2 (.ref x) (.str name t)) h
  exact this
theorem ga_call {v : Value} {t : Tok} {R : Result → Shared → Prop} (X : K.In s.heap) (I : W.InstAt s.heap x ox C od) (hs : subIn K (.ref C) (.type "list") = some true) (hf : findObj K C od name = some (.value v)) (h : R (.ok (.ret v)) s) :
    codeAny (model prog w) A (.call (.builtin "list.__getattribute__") ⟨[.ref x, .str name t], []⟩) R s := by
  refine codeAny_call_builtin F.slot_list_getattribute.plain F.entry_list_ga ?_
  refine ga_check X I hs ?_
  exact ga_body X I hf h
theorem ga_own {v : Value} {t : Tok} {fill : Bool} {Q : Value → Shared → Prop} (X : K.In s.heap) (I : W.InstAt s.heap x ox C od) (hgk : findIn K (.ref C) "__getattr__" = some none) (hs : subIn K (.ref C) (.type "list") = some true) (hf : findObj K C od name = some (.value v)) (hh : handedIn v = true) (h : Q v s) :
    wpAny (model prog w) A (getAttrByItsOwn (.ref x) (.str name t) (.ref C) (.builtin "list.__getattribute__") fill ex) Q E s := by
  unfold getAttrByItsOwn
  refine wpAny_bind (m := hookBefore _) ((looks_findIn X hgk).here ?_)
  refine wpAny_bind (wpAny_attempt (wpAny_holding ?_))
  unfold callGetattribute
  rw [show onTheHeap (Value.builtin "list.__getattribute__") = false from rfl, Bool.and_false, if_neg (by decide)]
  unfold boundAndCalled
  rw [F.slot_list_getattribute.bind (.ref x)]
  refine wpAny_bind (wpAny_pure ?_)
  refine wpAny_call (ga_call X I hs hf ?_)
  dsimp only
  rw [handedOut_of hh]
  exact wpAny_pure h
theorem get_acc {v : Value} {Q : Value → Shared → Prop} (X : K.In s.heap) (I : W.InstAt s.heap x ox C od) (hga : findIn K (.ref C) "__getattribute__" = some (some (.builtin "list.__getattribute__"))) (hgk : findIn K (.ref C) "__getattr__" = some none) (hs : subIn K (.ref C) (.type "list") = some true)
    (hf : findObj K C od name = some (.value v)) (hh : handedIn v = true) (h : Q v { s with toks := s.toks + 1 }) : wpAny (model prog w) A (getAttr (.ref x) name ex) Q E s := by
  unfold getAttr getAttrBy
  refine wpAny_bind (wpAny_mkText (wpAny_holding (wpAny_bind ?_)))
  obtain ⟨hh', g, d, tk, os⟩ := s
  refine I.type.at (wpAny_bind ((looks_findIn X hga).at ?_))
  dsimp only
  rw [if_neg ga_ne]
  exact ga_own (s := ⟨hh', g, d, tk + 1, os⟩) X I hgk hs hf hh h
end
end Mine
end

section
namespace Mine
open PySem PySem.W PyProof.Rows PySem.Calls PySem.Spec
theorem kind_gi : builtinKind "list.__getitem__" = some .method := by decide +kernel
theorem kind_si : builtinKind "list.__setitem__" = some .slot := by decide +kernel
theorem split_gi : splitId "list.__getitem__" = some ("list", "__getitem__") := by decide +kernel
theorem split_si : splitId "list.__setitem__" = some ("list", "__setitem__") := by decide +kernel
section
variable {prog : Program} {w : World} {A : Around} {s : Shared} {K : Frag} {x C : Addr} {ox : Obj} {od : Option Obj} {name : Str}
theorem special_bi {M : Model} {E : Value → Shared → Prop} {id : String} {args : List Value} {Q : Option Value → Shared → Prop} (X : K.In s.heap) (I : W.InstAt s.heap x ox C od) (hs : findIn K (.ref C) name = some (some (.builtin id)))
    (hb : ∀ v, bindSpecial (.builtin id) v = pure (.builtin id, [v])) (h : wpAny M A (call (.builtin id) (.ref x :: args)) (fun v => Q (some v)) E s) : wpAny M A (callSpecial? (.ref x) name args) Q E s :=
  wpAny_bind (wpAny_bind (I.type.here ((looks_findIn X hs).here (wpAny_holding (wpAny_bind (wpAny_of_eq (hb _) (wpAny_bind (wpAny_mono h (fun _ _ z => wpAny_pure z) fun _ _ z => z))))))))
variable {E : Value → Shared → Prop}
theorem key_plain {M : Model} {k : Value} {Q : Value → Shared → Prop} (X : K.In s.heap) (I : W.InstAt s.heap x ox C od) (hq : noSeq K C = true) (h : Q k s) : wpAny M A (sequenceKey (.ref x) k name) Q E s := by
  unfold sequenceKey
  refine wpAny_bind (I.type.here ?_)
  refine wpAny_bind ((anyM_none X hq).here ?_)
  rw [if_pos (show (!false) = true from rfl)]
  exact wpAny_pure h
theorem gi_check {i : Value} {Q : Unit → Shared → Prop} (X : K.In s.heap) (I : W.InstAt s.heap x ox C od) (hs : subIn K (.ref C) (.type "list") = some true) (h : Q () s) :
    wpAny (model prog w) A (checkBuiltinCall "list.__getitem__" ⟨[.ref x, i], []⟩) Q E s := by
  have L : Looks (model prog w) s.heap (isInstance (.ref x) (.type "list")) true := I.type.andThen (looks_subIn X hs)
  have := @check_meth (model prog w) A E s "list.__getitem__" "list" "__getitem__" (.ref x) [i] [] Q (.inl kind_gi) split_gi L (F.args_list_getitem_2 (.ref x) i) h
  exact this
theorem si_check {i v : Value} {Q : Unit → Shared → Prop} (X : K.In s.heap) (I : W.InstAt s.heap x ox C od) (hs : subIn K (.ref C) (.type "list") = some true) (h : Q () s) :
    wpAny (model prog w) A (checkBuiltinCall "list.__setitem__" ⟨[.ref x, i, v], []⟩) Q E s := by
  have L : Looks (model prog w) s.heap (isInstance (.ref x) (.type "list")) true := I.type.andThen (looks_subIn X hs)
  have := @check_meth (model prog w) A E s "list.__setitem__" "list" "__setitem__" (.ref x) [i, v] [] Q (.inr kind_si) split_si L (F.args_list_setitem_3 (.ref x) i v) h
  exact this
theorem getItem_acc {sl : Addr} {items : Array Value} {n : Nat} {vl vu vs : Value} {lo hi st : Option Int} {Q : Value → Shared → Prop} (X : K.In s.heap) (I : W.InstAt s.heap x ox C od) (hd : ox.data = .seq items n) (hq : noSeq K C = true)
    (hf : findIn K (.ref C) "__getitem__" = some (some (.builtin "list.__getitem__"))) (hl : subIn K (.ref C) (.type "list") = some true)
    (hs : s.heap.IsSliceOf sl vl vu vs) (pl : IsPart vl lo) (pu : IsPart vu hi) (ps : IsPart vs st) (h0 : st ≠ some 0)
    (h : Q (.ref s.heap.objs.size) { s with heap := s.heap.push { cls := .type "list", data := .seq (slicePick items lo hi st) } }) (hsz : items.size ≤ sizeLine) : wpAny (model prog w) A (getItem (.ref x) (.ref sl)) Q E s := by
  obtain ⟨os, hos, hcs, hds⟩ := id hs
  have hTs : s.TypeIs (.ref sl) "slice" := ⟨os, hos, hcs⟩
  unfold getItem
  refine wpAny_holding ?_
  refine wpAny_bind (key_plain X I hq ?_)
  refine wpAny_bind (special_bi X I hf (fun v => F.slot_list_getitem.bind v) ?_)
  refine wpAny_call (codeAny_call_builtin F.slot_list_getitem.plain F.entry_list_getitem (gi_check X I hl ?_))
  show wpAny _ _ (Builtin.List.listSubscript? (.ref sl) >>= _) _ _ s
  refine wpAny_bind ?_
  unfold Builtin.List.listSubscript?
  refine wpAny_bind (wpAny_specialOf hTs slice_no_index ?_)
  simp only [Option.isNone_none, if_true]
  refine wpAny_pure ?_
  show wpAny _ _ (typeOf (.ref sl) >>= _) _ _ s
  refine wpAny_bind (wpAny_typeOf hTs ?_)
  rw [if_neg (by decide)]
  rw [listSliceParts_eq]
  have hstep : ¬ ((rawPart st == rawInt 0) = true) := by
    cases st with
    | none => exact Bool.false_ne_true
    | some c =>
      intro hh
      have : c = 0 := by simpa [rawPart, rawInt] using hh
      exact h0 (by rw [this])
  refine wpAny_bind (wpAny_bind (wpAny_field hos hds (x := vs) rfl (wpAny_bind (wpAny_listPart ps ?_))))
  rw [if_neg hstep]
  refine wpAny_bind (wpAny_field hos hds (x := vl) rfl (wpAny_bind (wpAny_listPart pl ?_)))
  refine wpAny_bind (wpAny_field hos hds (x := vu) rfl (wpAny_bind (wpAny_listPart pu (wpAny_pure ?_))))
  refine wpAny_bind (m := Builtin.List.listItems (.ref x)) ?_
  unfold Builtin.List.listItems
  refine wpAny_bind (wpAny_seqItems I.at_ hd (wpAny_pure ?_))
  refine wpAny_bind (wpAny_of_eq (sliceIndices_raw lo hi st items.size h0) ?_)
  exact wpAny_bind (wpAny_newObj_type (wpAny_pure (wpAny_pure h)) (Nat.le_trans (slicePick_size_le items lo hi st) hsz))
theorem setItem_acc {sl l : Addr} {items new : Array Value} {n : Nat} {vl vu : Value} {lo hi : Option Int} {Q : Unit → Shared → Prop} (X : K.In s.heap) (I : W.InstAt s.heap x ox C od) (hd : ox.data = .seq items n) (hq : noSeq K C = true)
    (hf : findIn K (.ref C) "__setitem__" = some (some (.builtin "list.__setitem__"))) (hl : subIn K (.ref C) (.type "list") = some true)
    (hs : s.heap.IsSliceOf sl vl vu .none) (pl : IsPart vl lo) (pu : IsPart vu hi) (hn : s.heap.IsList l new) (hne : x ≠ l)
    (hb : (sliceBounds lo hi none items.size).2.2 = 1) (hz : items.size ≤ 1000) (hz2 : new.size ≤ 1000)
    (h : Q () { s with heap := s.heap.update x (Obj.mapSeq fun xs => xs.extract 0 (sliceBounds lo hi none items.size).1.toNat ++ new ++ xs.extract (max (sliceBounds lo hi none items.size).1 (sliceBounds lo hi none items.size).2.1).toNat xs.size) }) :
    wpAny (model prog w) A (setItem (.ref x) (.ref sl) (.ref l)) Q E s := by
  obtain ⟨os, hos, hcs, hds⟩ := id hs
  have hTs : s.TypeIs (.ref sl) "slice" := ⟨os, hos, hcs⟩
  unfold setItem
  refine wpAny_holding ?_
  refine wpAny_bind (key_plain X I hq ?_)
  refine wpAny_bind (special_bi X I hf (fun v => F.slot_list_setitem.bind v) ?_)
  refine wpAny_call (codeAny_call_builtin F.slot_list_setitem.plain F.entry_list_setitem (si_check X I hl ?_))
  show wpAny _ _ (Builtin.List.listSubscript? (.ref sl) >>= _) _ _ s
  refine wpAny_bind ?_
  unfold Builtin.List.listSubscript?
  refine wpAny_bind (wpAny_specialOf hTs slice_no_index ?_)
  simp only [Option.isNone_none, if_true]
  refine wpAny_pure ?_
  show wpAny _ _ (typeOf (.ref sl) >>= _) _ _ s
  refine wpAny_bind (wpAny_typeOf hTs ?_)
  rw [if_neg (by decide)]
  rw [listSliceParts_eq]
  refine wpAny_bind (wpAny_bind (wpAny_field hos hds (x := .none) rfl (wpAny_bind (wpAny_listPart .none ?_))))
  rw [if_neg (by decide)]
  refine wpAny_bind (wpAny_field hos hds (x := vl) rfl (wpAny_bind (wpAny_listPart pl ?_)))
  refine wpAny_bind (wpAny_field hos hds (x := vu) rfl (wpAny_bind (wpAny_listPart pu (wpAny_pure ?_))))
  rw [if_neg (show ¬ (Builtin.List.listSameRef (.ref x) (.ref l) = true) by rw [show Builtin.List.listSameRef (.ref x) (.ref l) = false from beq_eq_false_iff_ne.mpr hne]; decide)]
  obtain ⟨ol, hol, hcl, nl, hdl⟩ := id hn
  refine wpAny_bind (m := Builtin.List.listAllItems (.ref l) _) ?_
  unfold Builtin.List.listAllItems
  refine wpAny_bind (wpAny_typeOf hn.typeIs ?_)
  rw [if_pos (by decide)]
  unfold Builtin.List.listItems
  refine wpAny_bind (wpAny_seqItems hol hdl (wpAny_pure ?_))
  refine wpAny_bind (m := Builtin.List.listItems (.ref x)) ?_
  unfold Builtin.List.listItems
  refine wpAny_bind (wpAny_seqItems I.at_ hd (wpAny_pure ?_))
  refine wpAny_bind (wpAny_of_eq (sliceIndices_raw lo hi none items.size (by simp)) ?_)
  rw [hb, if_pos (by decide)]
  refine wpAny_bind (wpAny_rule ?_)
  have hsm : ∀ k, k ≤ 2001 → Builtin.List.listTooLong k = false := fun k hk => by
    unfold Builtin.List.listTooLong
    rw [sizeLine_eq]
    exact decide_eq_false (by k_extra "o")
  rw [if_neg (by rw [hsm _ (by k_extra "o")]; decide)]
  refine wpAny_bind (m := Builtin.List.listUpdate (.ref x) _) ?_
  unfold Builtin.List.listUpdate
  refine wpAny_updateSeq I.at_ hd ?_ (by rw [sizeLine_eq]; k_extra "o") ?_
  · exact wpAny_bind (wpAny_letGo (wpAny_pure (wpAny_pure h)))
  · rw [sizeLine_eq]
    simp only [Array.size_append, Array.size_extract]
    k_extra "o"
end
end Mine
end

example : (PySem.Challenge.rw_tl0016_02, Mine.Kf) = (PySem.Challenge.rw_tl0016_02, Mine.Kf) := by
  w_top off
  k_fill
  rfl
local macro_rules | `(tactic| walk_at $s:str) => `(tactic| first | k_extra $s | fail)
section
namespace Mine
open PySem PySem.W PyProof.Rows PySem.Calls PySem.Spec
example : True := by
  k_with "M enter" => (
  (case ho => k_is)
  (case hcd => k_is)
  (case hb => first | exact fun s Xs => BindsTo.of_eq rfl | exact fun s Xs => binds_K Xs rfl (by k_is) rfl rfl rfl)
  (case hl => exact locs rfl)
  (case h1 => decide)
  (case h2 => decide)
  (case h3 => exact rfl)
  (case h4 => exact rfl)
  (case h5 => exact rfl))
  k_with "M names" => (repeat' (first | exact List.forall_mem_nil _ | (refine List.forall_mem_cons.mpr ⟨?nm, ?_⟩; (case nm => rfl))))
  trivial
local macro_rules | `(tactic| k_ne) => `(tactic| ((try dsimp only); first | assumption | exact Ne.symm (by assumption) | exact Off.ne (by assumption) (by k_mem) | exact Off.ne' (by assumption) (by k_mem) | fail))
example : True := by
  k_with "M ne" => first | assumption | exact Ne.symm (by assumption) | k_ne
  trivial
local macro_rules | `(tactic| walk_at "M all") => `(tactic| first | exact List.forall_mem_nil _ | (refine' List.forall_mem_cons.mpr ⟨?a, ?b⟩; (case a => walk_at "M ne"); (case b => walk_at "M all")))
local macro_rules | `(tactic| walk_at "M pick") => `(tactic| first | (refine' Pick.head ?a; (case a => walk_at "M all")) | (refine' Pick.tail ?a ?b; (case a => walk_at "M ne"); (case b => walk_at "M pick")))
local macro_rules | `(tactic| walk_at "M picks") => `(tactic| first | exact Picks.nil | (refine' Picks.cons ?a ?b; (case a => walk_at "M pick"); (case b => walk_at "M picks")))
example : True := by
  k_with "M len" => first | assumption | exact getD_len (by assumption) _ | omega
  k_with "M lens" => first | assumption | exact len_del (by assumption) | exact len_del (len_del (by assumption))
  k_with "M strs" => first | assumption | exact strs_del (by assumption) _ | exact strs_del (strs_del (by assumption) _) _
  k_with "M nat" => first | with_reducible exact fdiv2 _ _ | rfl | exact (Int.natCast_add _ _).symm | omega
  k_with "M le" => first | omega | ((try simp (disch := omega) only [delL_length, insL_length]); omega)
  k_with "subscriptTail Name Name ref int" => (k_here; k_dflt (refine' item_strsN ?N ?m ?h _ ?k ?l ?f ?_ ?hs ?hg; (case N => k_asm); (case m => k_mem); (case h => assumption); (case k => walk_at "M nat"); (case l => omega); (case f => omega); (case hs => with_unfolding_all rfl); (case hg => (intro _; with_unfolding_all rfl)); k_whole); intro tk')
  k_with "subscriptTail Name BinOp ref int" => (k_here; k_dflt (refine' item_strsN ?N ?m ?h _ ?k ?l ?f ?_ ?hs ?hg; (case N => k_asm); (case m => k_mem); (case h => assumption); (case k => walk_at "M nat"); (case l => omega); (case f => omega); (case hs => with_unfolding_all rfl); (case hg => (intro _; with_unfolding_all rfl)); k_whole); intro tk')
  k_with "exec While Compare cons nil" => refine Stop.out ?_
  k_with "call builtin:list.insert" => (k_here; (with_reducible show wpAny _ _ (call (Value.builtin _) [Value.ref _, Value.int _ _, _]) _ _ _); k_dflt (refine' ins_N ?F ?N _ ?k ?i ?l ?U ?_; (case F => k_asm); (case N => k_asm); (case U => k_upd); (case k => walk_at "M nat"); (case i => walk_at "M le"); (case l => walk_at "M le"); k_whole); intro h' F' N'; (try dsimp only [List.nil_append, List.cons_append] at N'); (try k_sweep))
  k_with "call builtin:list.pop" => (k_here; (with_reducible show wpAny _ _ (call (Value.builtin _) [Value.ref _, Value.int _ _]) _ _ _); k_dflt (refine' popS_N ?F ?N ?h _ ?k ?i ?l ?U ?_; (case F => k_asm); (case N => k_asm); (case U => k_upd); (case h => walk_at "M strs"); (case k => walk_at "M nat"); (case i => walk_at "M le"); (case l => walk_at "M le"); k_whole); intro h' tk' F' N'; (try dsimp only [List.nil_append, List.cons_append] at N'); (try k_sweep))
  k_with "pyIter ref" => ((with_reducible show wpAny _ _ (pyIter (Value.ref _)) (CompPostA _ _ _ _ _ _ _ _ _ _) _ _); refine Stop.out ?_)
  k_with "pyIter ref" => ((with_reducible show wpAny _ _ (pyIter (Value.ref _)) (fun it s₂ => LoopAtV _ _ _ _ _ _ _ _ _ it s₂) _ _); refine Stop.out ?_)
  k_with "call builtin:len" => (k_here; (with_reducible show wpAny _ _ (call (Value.builtin "len") [Value.ref _]) _ _ _); k_dflt (refine' len_N ?N ?m ?l ?_; (case N => k_asm); (case m => k_mem); (case l => walk_at "M le"); k_whole); intro t' tk')
  k_with "binaryOp Sub int int" => (k_here; (with_reducible refine' sub_natN ?h ?_; (case h => omega)); intro t' tk')
  k_with "binaryOp Sub int int" => (k_here; (with_reducible refine' sub_nat1 ?h ?_; (case h => omega)); intro t' tk')
  k_with "LPost" => refine Stop.out ?_
  k_with "WPost" => refine Stop.out ?_
  k_with "Done" => refine Stop.out ?_
  k_with "call builtin:len" => (k_here; (with_reducible show wpAny _ _ (call (Value.builtin "len") [Value.str _ _]) _ _ _); k_dflt (refine' lenS_N ?l ?_; (case l => walk_at "M len"); k_whole); intro t' tk')
  k_with "eval ListComp" => refine Stop.out ?_
  k_with "exec Assign cons ListComp" => refine Stop.out ?_
  k_with "CPost" => refine Stop.out ?_
  k_with "CPostA" => refine Stop.out ?_
  k_with "EPost" => refine Stop.out ?_
  trivial
local macro_rules | `(tactic| k_all) => `(tactic| (show Off _ _; assumption))
example : True := by
  k_with "call builtin:list.append" => (k_here; (with_reducible show wpAny _ _ (call (Value.builtin _) [Value.ref _, _]) _ _ _); k_dflt (refine' app_N ?F ?N ?l ?U ?_; (case F => k_asm); (case N => k_asm); (case U => k_upd); (case l => walk_at "M le"); k_whole); intro h' F' N'; (try k_sweep))
  k_with "newList" => (k_here; k_dflt (refine' newList_N ?F ?N ?l ?_; (case F => k_asm); (case N => k_asm); (case l => exact Nat.le_of_ble_eq_true rfl); k_whole); intro D' h' F' N' l1 l2; (try (have l3 := l1; k_lt l3)); (try k_sweep))
  k_with "M enterC" => (
  (case ho => k_is)
  (case hcd => k_is)
  (case hb => first | exact fun s Xs => BindsTo.of_eq rfl | exact fun s Xs => binds_K Xs rfl (by k_is) rfl rfl rfl)
  (case hl => exact rfl)
  (case h2 => decide +kernel)
  (case h1 => decide)
  (case h3 => exact rfl)
  (case h4 => exact rfl)
  (case h5 => exact rfl))
  k_with "M comp" => (
  (case hclos => exact rfl)
  (case hcell => decide)
  (case hkind => exact rfl)
  (case hnames => decide)
  (case hx => exact rfl)
  (case hs => (intro _; exact rfl)))
  k_with "M compA" => (
  (case hsw => exact rfl)
  (case hclos => exact rfl)
  (case hcell => decide)
  (case hkind => exact rfl)
  (case hnames => decide)
  (case hx => exact rfl)
  (case hy => exact rfl)
  (case hp => exact rfl)
  (case hs => (intro _; exact rfl)))
  k_with "eval Name" => (k_here; (with_reducible show wpAny _ _ (eval (PySem.Expr.Name _ _) (compEnvC _ _ _ _)) _ _ _); k_dflt (first
  | (refine' cname ?n ?v ?k ?l ?d ?_; (case n => assumption); (case v => assumption); (case k => exact rfl); (case l => exact rfl); (case d => decide))
  | (refine' ccell ?N ?c ?m ?d ?k ?l ?b ?_; (case N => k_asm); (case c => exact rfl); (case m => k_mem); (case d => assumption); (case k => exact rfl); (case l => exact rfl); (case b => decide))
  | (refine' cbuilt ?F ?X ?T ?e ?v ?n ?g ?b ?k ?l ?d ?_; (case F => k_asm); (case X => k_asm); (case T => k_asm); (case e => k_is); (case v => boot_by_name); (case n => decide); (case g => exact rfl); (case b => exact rfl); (case k => exact rfl); (case l => exact rfl); (case d => decide))
  | (refine' cglob ?F ?X ?T ?e ?g ?k ?l ?d ?_; (case F => k_asm); (case X => k_asm); (case T => k_asm); (case e => k_is); (case g => exact rfl); (case k => exact rfl); (case l => exact rfl); (case d => decide))
  | fail))
  trivial
variable {w : World} {b₀ : Heap} {loose : List Str} {mean : ExcName → Option Value} {mg mb : Str → Option Value}

section
noncomputable abbrev P1 : Program := PySem.Challenge.rw_tl0016_02.row.prog
end

section
structure LexT where
  (k0 k1 k2 k3 k4 k5 : Tok)
noncomputable def lexD (w : World) (ln : Int) (S pb : Addr) (t : LexT) : List DictEntry :=
  [⟨PyData.keyHash w.params "lineno", .str "lineno" t.k1, .int ln t.k0⟩, ⟨PyData.keyHash w.params "instream", .str "instream" t.k2, .ref S⟩, ⟨PyData.keyHash w.params "whitespace", .str "whitespace" t.k3, .str "\n\t\r " t.k5⟩, ⟨PyData.keyHash w.params "pushback", .str "pushback" t.k4, .ref pb⟩]
theorem init_fs (X : (Kf w.params).In b₀) (T : Top topProg loose mean mg mb b₀) (I d S : Addr) (h1 : I ≠ d) :
    FS P1 w b₀ 4 40 (.ref 155) ⟨[.ref I, .ref S], []⟩ [(I, instObj 179 d), (d, dictOf [] 0)]
      (fun v tl' => v = .none ∧ ∃ pb t n, I ≠ pb ∧ d ≠ pb ∧ tl' = [(pb, listOf #[] 0), (I, instObj 179 d), (d, dictOf (lexD w 1 S pb t) n)]) := by
  refine' enter (binds := [("self", .ref I), ("fp", .ref S)]) X T ?ho ?hcd ?hb ?hl ?h ?h1 ?h2 ?h3 ?h4 ?h5
  walk_at "M enter"
  intro dp un gd fr s g L' h₁ hd hu F N B st Xg Tg
  (conv in (PySem.execs _ _) => arg 1; whnf)
  (try dsimp only)
  k_steps
  refine ⟨_, _, _, _, _, rfl, by assumption, by assumption, rfl, _, ⟨_, _, _, _, _, _⟩, _, ?_, ?_, rfl⟩
  · exact Nat.ne_of_lt (by omega)
  · exact Nat.ne_of_lt (by omega)
end

section
example : True := by
  k_with "call ref" => (k_here; (with_reducible show wpAny _ _ (call (Value.ref 179) _ _) _ _ _); refine Stop.out ?_)
  k_with "setAttr ref" => (k_here; (with_reducible show wpAny _ _ (setAttr (Value.ref _) (PySem.Str.ofString "read") _) _ _ _); refine Stop.out ?_)
  trivial
structure LexA where
  (I d pb S sd cl rd cr al ca ct : Addr) (so clo ro co cto cao : Obj) (kk : Tok) (hk : Int)
noncomputable def lexTl (w : World) (a : LexA) (ln : Int) (tt : LexT) (nd : Nat) (vs : List Value) (np : Nat) (i : Nat) (tp : Tok) (na : Nat) : Led :=
  [(a.pb, listOf vs.toArray np), (a.I, instObj 179 a.d), (a.d, dictOf (lexD w ln a.S a.pb tt) nd), (a.sd, dictOf [⟨a.hk, .str "read" a.kk, .ref a.rd⟩] 1), (a.S, a.so), (a.cl, a.clo),
   (a.rd, a.ro), (a.cr, a.co), (a.al, listOf #[.int (i : Int) tp] na), (a.ca, a.cao), (a.ct, a.cto)]
noncomputable def readTl (a : LexA) (i : Nat) (tp : Tok) (na : Nat) : Led := [(a.rd, a.ro), (a.cr, a.co), (a.al, listOf #[.int (i : Int) tp] na), (a.ca, a.cao), (a.ct, a.cto)]
noncomputable def piece (tx : Str) (i : Nat) : Str := Txt.slice tx (some (i : Int)) (some ((i : Int) + 1))
noncomputable def ReadOk (w : World) (b₀ : Heap) (tx : Str) (a : LexA) : Prop := ∀ (i : Nat) (t tp : Tok) (na : Nat), i ≤ tx.length →
  FS P1 w b₀ 3 30 (.ref a.rd) ⟨[.int 1 t], []⟩ (readTl a i tp na) (fun v tl' => ∃ u tp' na', v = .str (piece tx i) u ∧ tl' = readTl a (i + (piece tx i).length) tp' na')
structure LexOk (w : World) (b₀ : Heap) (tx : Str) (a : LexA) : Prop where
  nd : [a.pb, a.I, a.d, a.sd, a.S, a.cl, a.rd, a.cr, a.al, a.ca, a.ct].Nodup
  st : ∃ fd, a.so = fnOb fd (some a.sd)
  rd : ∃ fd, a.ro = fnOb fd none
  go : ReadOk w b₀ tx a
structure CodeOf (a : LexA) : Prop where
  made : ∃ vs t, a.co.data = .fields vs ∧ vs[1]? = some (.str "_law_lexer.<locals>.read" t)
noncomputable def tabL (a : LexA) : Array Value := #[rawInt 140, rawInt 4, .ref a.cr, rawInt 144, rawInt 13, .ref a.cl]
theorem lex_apart {pb I d sd S cl rd cr al ca ct : Nat} (h1 : ct < ca) (h2 : ca < al) (h3 : al < rd) (h4 : rd < S) (h5 : S < sd) (h6 : sd < d) (h7 : d < I) (hcr : cr < rd) (hcl : cl < S) (e : cl ≠ cr) (a1 : cr ≠ al) (a2 : cr ≠ ca) (a3 : cr ≠ ct) (b1 : cl ≠ al) (b2 : cl ≠ ca) (b3 : cl ≠ ct) (b4 : cl ≠ rd)
    (hp : ∀ x ∈ [I, d, sd, S, cl, rd, cr, al, ca, ct], x ≠ pb) : [pb, I, d, sd, S, cl, rd, cr, al, ca, ct].Nodup := by
  have key : ∀ {y : Nat} {l : List Nat}, (∀ x ∈ l, x < y) → y ∉ l := fun h hm => Nat.lt_irrefl _ (h _ hm)
  have up : ∀ {y z : Nat} {l : List Nat}, (∀ x ∈ l, x < y) → y < z → ∀ x ∈ y :: l, x < z := fun h g => List.forall_mem_cons.mpr ⟨g, fun x hx => Nat.lt_trans (h x hx) g⟩
  have f1 : ∀ x ∈ [ct], x < ca := List.forall_mem_cons.mpr ⟨h1, fun _ h => nomatch h⟩
  have f2 := up f1 h2
  have f3 := up f2 h3
  have f4 : ∀ x ∈ [cr, al, ca, ct], x < rd := List.forall_mem_cons.mpr ⟨hcr, f3⟩
  have f5 := up f4 h4
  have f6 : ∀ x ∈ [cl, rd, cr, al, ca, ct], x < S := List.forall_mem_cons.mpr ⟨hcl, f5⟩
  have f7 := up f6 h5
  have f8 := up f7 h6
  have f9 := up f8 h7
  refine List.nodup_cons.mpr ⟨fun h => hp _ h rfl, List.nodup_cons.mpr ⟨key f9, List.nodup_cons.mpr ⟨key f8, List.nodup_cons.mpr ⟨key f7, List.nodup_cons.mpr ⟨key f6, ?_⟩⟩⟩⟩⟩
  refine List.nodup_cons.mpr ⟨?_, List.nodup_cons.mpr ⟨key f4, List.nodup_cons.mpr ⟨?_, List.nodup_cons.mpr ⟨key f2, List.nodup_cons.mpr ⟨key f1, List.pairwise_singleton _ _⟩⟩⟩⟩⟩
  · simp only [List.mem_cons, List.not_mem_nil, or_false, not_or]; exact ⟨b4, e, b1, b2, b3⟩
  · simp only [List.mem_cons, List.not_mem_nil, or_false, not_or]; exact ⟨a1, a2, a3⟩
theorem lex_off {w : World} {a : LexA} {ln : Int} {tt : LexT} {nd : Nat} {tp : Tok} (h0 : @LT.lt Nat _ 185 a.ct) (h1 : @LT.lt Nat _ a.ct a.ca) (h2 : @LT.lt Nat _ a.ca a.al) (h3 : @LT.lt Nat _ a.al a.rd) (h4 : @LT.lt Nat _ a.rd a.S) (h5 : @LT.lt Nat _ a.S a.sd) (h6 : @LT.lt Nat _ a.sd a.d) (h7 : @LT.lt Nat _ a.d a.I) (c1 : a.pb ≠ 185) (c2 : a.cl ≠ 185) (c3 : a.cr ≠ 185) :
    Off 185 (lexTl w a ln tt nd [] 0 0 tp 0) := by
  obtain ⟨I, d, pb, S, sd, cl, rd, cr, al, ca, ct, so, clo, ro, co, cto, cao, kk, hk⟩ := a
  have g2 := Nat.lt_trans h0 h1
  have g3 := Nat.lt_trans g2 h2
  have g4 := Nat.lt_trans g3 h3
  have g5 := Nat.lt_trans g4 h4
  have g6 := Nat.lt_trans g5 h5
  have g7 := Nat.lt_trans g6 h6
  have g8 := Nat.lt_trans g7 h7
  have key : ∀ p ∈ [pb, I, d, sd, S, cl, rd, cr, al, ca, ct], p ≠ 185 :=
    List.forall_mem_cons.mpr ⟨c1, List.forall_mem_cons.mpr ⟨Nat.ne_of_gt g8, List.forall_mem_cons.mpr ⟨Nat.ne_of_gt g7, List.forall_mem_cons.mpr ⟨Nat.ne_of_gt g6, List.forall_mem_cons.mpr ⟨Nat.ne_of_gt g5, List.forall_mem_cons.mpr ⟨c2, List.forall_mem_cons.mpr ⟨Nat.ne_of_gt g4, List.forall_mem_cons.mpr ⟨c3,
      List.forall_mem_cons.mpr ⟨Nat.ne_of_gt g3, List.forall_mem_cons.mpr ⟨Nat.ne_of_gt g2, List.forall_mem_cons.mpr ⟨Nat.ne_of_gt h0, fun _ h => nomatch h⟩⟩⟩⟩⟩⟩⟩⟩⟩⟩⟩
  exact fun p hp => key p.1 (List.mem_map_of_mem (f := (·.1)) hp)
theorem lexer_fs (X : (Kf w.params).In b₀) (T : Top topProg loose mean mg mb b₀) (C : CodeHd b₀ 189 185) (tx : Str) (t : Tok) (hx : tx.length ≤ 1000) :
    FS P1 w b₀ 8 80 (.ref 190) ⟨[.str tx t], []⟩ [(185, tabObj #[])]
      (fun v tl' => ∃ a tt nd tp, v = .ref a.I ∧ tl' = lexTl w a 1 tt nd [] 0 0 tp 0 ++ [(185, tabObj (tabL a))] ∧ LexOk w b₀ tx a ∧ Off 185 (lexTl w a 1 tt nd [] 0 0 tp 0) ∧ CodeOf a) := by
  refine' enterC (binds := [("text", .str tx t)]) X T ?ho ?hcd ?hb ?hl ?h2 ?h ?h1 ?h3 ?h4 ?h5
  walk_at "M enterC"
  intro dp un gd fr s g L' h₁ tk cells hd hu F N Y lN B st Xg Tg
  (conv in (PySem.execs _ _) => arg 1; whnf)
  k_lt lN
  k_cells Y
  (try simp only [List.cons_append, List.nil_append] at N)
  (try dsimp only)
  have C2 := CodeHd.keeps C st
  k_steps
  unfold Stop
  rename Fr _ _ _ _ => F
  rename News _ _ _ _ => N
  refine setFn F N ?_ ?_
  · intro p hp
    simp only [List.mem_cons, List.not_mem_nil, or_false] at hp
    rcases hp with rfl | rfl | rfl | rfl | rfl | rfl | rfl <;> exact Nat.ne_of_lt (by dsimp only; omega)
  intro sd k' h' tk' F N l1 l2
  k_lt l1
  k_steps
  unfold Stop
  refine' call_cls ?k1 ?k2 ?k3 ?k4 ?k5 ?k6 ?_
  case k1 => exact F
  case k2 => exact Xg
  case k3 => exact N
  case k4 => k_is
  case k5 => k_is
  case k6 => k_is
  intro I d h' F N l3 l4
  refine' use_fsC (init_fs ?X ?T I d _ (Nat.ne_of_gt l4)) ?B F N rfl rfl rfl ?hd ?hu ?htl ?hrest ?_
  case B => exact B
  case X => exact X
  case T => exact T
  case htl =>
    intro q hq
    rcases List.mem_cons.mp hq with rfl | hq
    · exact .head _
    · rw [List.mem_singleton.mp hq]; exact .tail _ (.head _)
  case hrest =>
    refine fun q hq => ⟨.tail _ (.tail _ hq), fun x hx => ?_⟩
    rcases List.mem_cons.mp hx with rfl | hx
    · exact Nat.ne_of_gt (Nat.lt_trans (l3 q hq) l4)
    · rw [List.mem_singleton.mp hx]; exact Nat.ne_of_gt (l3 q hq)
  case hd => show dp + 1 + 1 + 4 < _; omega
  case hu => show un + 3 + 1 + 40 < _; omega
  rintro v tl' h' tk' ⟨rfl, pb, tt, nd, e1, e2, rfl⟩ F N hn
  have l5 := (hn (pb, _) (.head _)).resolve_left (by
    simp only [List.map_cons, List.map_nil, List.mem_cons, List.not_mem_nil, or_false, not_or]
    exact ⟨e1.symm, e2.symm⟩)
  have l4' : @LT.lt Nat _ d I := l4
  have l3c := l3
  k_lt l3c
  simp only [List.forall_mem_cons, List.forall_mem_nil, and_true] at l5
  obtain ⟨q1, q2, q3, q4, q5, q6, q7, q8, q9, q10, q11, -⟩ := l5
  (try dsimp only [List.nil_append, List.cons_append] at N)
  refine ⟨rfl, ?_⟩
  refine ⟨_, _, _, _, _, rfl, F, N, ⟨I, d, pb, _, sd, _, _, _, _, _, _, _, _, _, _, _, _, _, PyData.keyHash w.params "read"⟩, tt, nd, _, rfl, rfl, ⟨?nodup, ⟨_, rfl⟩, ⟨_, rfl⟩, ?read⟩, ?lt, ⟨?code⟩⟩
  case code =>
    refine' ⟨_, _, ?d1, ?d2⟩
    case d1 => assumption
    case d2 => assumption
  case nodup =>
    refine lex_apart ?_ ?_ ?_ ?_ ?_ ?_ ?_ ?_ ?_ ?_ ?_ ?_ ?_ ?_ ?_ ?_ ?_ (List.forall_mem_cons.mpr ⟨q1, (List.forall_mem_cons.mpr ⟨q2, (List.forall_mem_cons.mpr ⟨q3, (List.forall_mem_cons.mpr ⟨q4, (List.forall_mem_cons.mpr ⟨q5, (List.forall_mem_cons.mpr ⟨q6, (List.forall_mem_cons.mpr ⟨q7, (List.forall_mem_cons.mpr ⟨q8, (List.forall_mem_cons.mpr ⟨q9, (List.forall_mem_cons.mpr ⟨q10, (fun _ h => nomatch h)⟩)⟩)⟩)⟩)⟩)⟩)⟩)⟩)⟩)⟩) <;> first | assumption | ((try dsimp only); omega) | exact Nat.ne_of_lt (by (try dsimp only); omega) | exact Nat.ne_of_gt (by (try dsimp only); omega)
  case lt =>
    refine lex_off ?_ ?_ ?_ ?_ ?_ ?_ ?_ ?_ ?_ ?_ ?_ <;> first | assumption | exact q11.symm | exact q11 | ((try dsimp only); omega) | exact Nat.ne_of_gt (by (try dsimp only); omega)
  case read =>
    intro i t tp na hi
    refine' enterN (binds := [("size", .int 1 t)]) X T ?ho ?hc ?hcd ?hq ?hb ?hl ?h ?h1 ?h2 ?h3 ?h4 ?h5
    case ho => exact List.mem_cons_self
    case hc => exact .tail _ (.head _)
    case hcd => assumption
    case hq => assumption
    case hb => exact fun s => BindsTo.of_eq rfl
    case hl => exact locs rfl
    case h1 => decide
    case h2 => decide
    case h3 => exact rfl
    case h4 => exact rfl
    case h5 => exact rfl
    intro dp un gd fr s g L' h₁ hd hu F N B st Xg Tg lN
    (conv in (PySem.execs _ _) => arg 1; whnf)
    unfold readTl at N
    (try dsimp only)
    k_steps
    unfold Stop
    rename Fr _ _ _ _ => F
    rename News _ _ _ _ => N
    exact ⟨_, _, _, _, _, rfl, F, N, _, _, _, rfl, rfl⟩
end

section
theorem putL_hd (x : Str) (h h' : Int) (k : Value) (k1 : Tok) (v v1 : Value) (r : List DictEntry) (n : Nat) : (putL x h k v (⟨h', .str x k1, v1⟩ :: r), putN x (⟨h', .str x k1, v1⟩ :: r) n) = (⟨h', .str x k1, v⟩ :: r, n) := by
  have e : (Value.str x k1).isStr x = true := by simp [Value.isStr]
  simp [putL, putN, e]
noncomputable def lnAt (tx : Str) (i : Nat) (ln : Int) : Int := if piece tx i = "\n" then ln + 1 else ln
end

section
end
example : True := by
  k_with_none
  k_with "o" => first | assumption | (apply Mine.le_up; assumption; exact rfl) | (apply Mine.le_dn; assumption; exact rfl) | lia | omega
  trivial
example : True := by
  k_with "M enter" => (
  (case ho => k_is)
  (case hcd => k_is)
  (case hb => first | exact fun s Xs => BindsTo.of_eq rfl | exact fun s Xs => binds_K Xs rfl (by k_is) rfl rfl rfl)
  (case hl => exact locs rfl)
  (case h1 => decide)
  (case h2 => decide)
  (case h3 => exact rfl)
  (case h4 => exact rfl)
  (case h5 => exact rfl))
  k_with "M names" => (repeat' (first | exact List.forall_mem_nil _ | (refine List.forall_mem_cons.mpr ⟨?nm, ?_⟩; (case nm => rfl))))
  trivial
example : True := by
  k_with "M ne" => first | assumption | exact Ne.symm (by assumption) | k_ne
  trivial
example : True := by
  k_with "M len" => first | assumption | exact getD_len (by assumption) _ | omega
  k_with "M lens" => first | assumption | exact len_del (by assumption) | exact len_del (len_del (by assumption))
  k_with "M strs" => first | assumption | exact strs_del (by assumption) _ | exact strs_del (strs_del (by assumption) _) _
  k_with "M nat" => first | with_reducible exact fdiv2 _ _ | rfl | exact (Int.natCast_add _ _).symm | omega
  k_with "M le" => first | omega | ((try simp (disch := omega) only [delL_length, insL_length]); omega)
  k_with "subscriptTail Name Name ref int" => (k_here; k_dflt (refine' item_strsN ?N ?m ?h _ ?k ?l ?f ?_ ?hs ?hg; (case N => k_asm); (case m => k_mem); (case h => assumption); (case k => walk_at "M nat"); (case l => omega); (case f => omega); (case hs => with_unfolding_all rfl); (case hg => (intro _; with_unfolding_all rfl)); k_whole); intro tk')
  k_with "subscriptTail Name BinOp ref int" => (k_here; k_dflt (refine' item_strsN ?N ?m ?h _ ?k ?l ?f ?_ ?hs ?hg; (case N => k_asm); (case m => k_mem); (case h => assumption); (case k => walk_at "M nat"); (case l => omega); (case f => omega); (case hs => with_unfolding_all rfl); (case hg => (intro _; with_unfolding_all rfl)); k_whole); intro tk')
  k_with "exec While Compare cons nil" => refine Stop.out ?_
  k_with "call builtin:list.insert" => (k_here; (with_reducible show wpAny _ _ (call (Value.builtin _) [Value.ref _, Value.int _ _, _]) _ _ _); k_dflt (refine' ins_N ?F ?N _ ?k ?i ?l ?U ?_; (case F => k_asm); (case N => k_asm); (case U => k_upd); (case k => walk_at "M nat"); (case i => walk_at "M le"); (case l => walk_at "M le"); k_whole); intro h' F' N'; (try dsimp only [List.nil_append, List.cons_append] at N'); (try k_sweep))
  k_with "call builtin:list.pop" => (k_here; (with_reducible show wpAny _ _ (call (Value.builtin _) [Value.ref _, Value.int _ _]) _ _ _); k_dflt (refine' popS_N ?F ?N ?h _ ?k ?i ?l ?U ?_; (case F => k_asm); (case N => k_asm); (case U => k_upd); (case h => walk_at "M strs"); (case k => walk_at "M nat"); (case i => walk_at "M le"); (case l => walk_at "M le"); k_whole); intro h' tk' F' N'; (try dsimp only [List.nil_append, List.cons_append] at N'); (try k_sweep))
  k_with "pyIter ref" => ((with_reducible show wpAny _ _ (pyIter (Value.ref _)) (CompPostA _ _ _ _ _ _ _ _ _ _) _ _); refine Stop.out ?_)
  k_with "pyIter ref" => ((with_reducible show wpAny _ _ (pyIter (Value.ref _)) (fun it s₂ => LoopAtV _ _ _ _ _ _ _ _ _ it s₂) _ _); refine Stop.out ?_)
  k_with "call builtin:len" => (k_here; (with_reducible show wpAny _ _ (call (Value.builtin "len") [Value.ref _]) _ _ _); k_dflt (refine' len_N ?N ?m ?l ?_; (case N => k_asm); (case m => k_mem); (case l => walk_at "M le"); k_whole); intro t' tk')
  k_with "binaryOp Sub int int" => (k_here; (with_reducible refine' sub_natN ?h ?_; (case h => omega)); intro t' tk')
  k_with "binaryOp Sub int int" => (k_here; (with_reducible refine' sub_nat1 ?h ?_; (case h => omega)); intro t' tk')
  k_with "LPost" => refine Stop.out ?_
  k_with "WPost" => refine Stop.out ?_
  k_with "Done" => refine Stop.out ?_
  k_with "call builtin:len" => (k_here; (with_reducible show wpAny _ _ (call (Value.builtin "len") [Value.str _ _]) _ _ _); k_dflt (refine' lenS_N ?l ?_; (case l => walk_at "M len"); k_whole); intro t' tk')
  k_with "eval ListComp" => refine Stop.out ?_
  k_with "exec Assign cons ListComp" => refine Stop.out ?_
  k_with "CPost" => refine Stop.out ?_
  k_with "CPostA" => refine Stop.out ?_
  k_with "EPost" => refine Stop.out ?_
  trivial
example : True := by
  k_with "call builtin:list.append" => (k_here; (with_reducible show wpAny _ _ (call (Value.builtin _) [Value.ref _, _]) _ _ _); k_dflt (refine' app_N ?F ?N ?l ?U ?_; (case F => k_asm); (case N => k_asm); (case U => k_upd); (case l => walk_at "M le"); k_whole); intro h' F' N'; (try k_sweep))
  k_with "newList" => (k_here; k_dflt (refine' newList_N ?F ?N ?l ?_; (case F => k_asm); (case N => k_asm); (case l => exact Nat.le_of_ble_eq_true rfl); k_whole); intro D' h' F' N' l1 l2; (try (have l3 := l1; k_lt l3)); (try k_sweep))
  k_with "M enterC" => (
  (case ho => k_is)
  (case hcd => k_is)
  (case hb => first | exact fun s Xs => BindsTo.of_eq rfl | exact fun s Xs => binds_K Xs rfl (by k_is) rfl rfl rfl)
  (case hl => exact rfl)
  (case h2 => decide +kernel)
  (case h1 => decide)
  (case h3 => exact rfl)
  (case h4 => exact rfl)
  (case h5 => exact rfl))
  k_with "M comp" => (
  (case hclos => exact rfl)
  (case hcell => decide)
  (case hkind => exact rfl)
  (case hnames => decide)
  (case hx => exact rfl)
  (case hs => (intro _; exact rfl)))
  k_with "M compA" => (
  (case hsw => exact rfl)
  (case hclos => exact rfl)
  (case hcell => decide)
  (case hkind => exact rfl)
  (case hnames => decide)
  (case hx => exact rfl)
  (case hy => exact rfl)
  (case hp => exact rfl)
  (case hs => (intro _; exact rfl)))
  k_with "eval Name" => (k_here; (with_reducible show wpAny _ _ (eval (PySem.Expr.Name _ _) (compEnvC _ _ _ _)) _ _ _); k_dflt (first
  | (refine' cname ?n ?v ?k ?l ?d ?_; (case n => assumption); (case v => assumption); (case k => exact rfl); (case l => exact rfl); (case d => decide))
  | (refine' ccell ?N ?c ?m ?d ?k ?l ?b ?_; (case N => k_asm); (case c => exact rfl); (case m => k_mem); (case d => assumption); (case k => exact rfl); (case l => exact rfl); (case b => decide))
  | (refine' cbuilt ?F ?X ?T ?e ?v ?n ?g ?b ?k ?l ?d ?_; (case F => k_asm); (case X => k_asm); (case T => k_asm); (case e => k_is); (case v => boot_by_name); (case n => decide); (case g => exact rfl); (case b => exact rfl); (case k => exact rfl); (case l => exact rfl); (case d => decide))
  | (refine' cglob ?F ?X ?T ?e ?g ?k ?l ?d ?_; (case F => k_asm); (case X => k_asm); (case T => k_asm); (case e => k_is); (case g => exact rfl); (case k => exact rfl); (case l => exact rfl); (case d => decide))
  | fail))
  trivial

section
theorem cit_nextK {prog : Program} {w : World} {A : Around} {E : Value → Shared → Prop} {s : Shared} {K : Frag} {g : Heap} {L : Addr} {m : Str → Option Value} {ci mo f : Addr} {self : Value} {t : Tok} {oc : Value} {od : Option Addr} {fd : FuncData} {sl : Array (Option Value)} {Q : Option Value → Shared → Prop} (hh : A.handled = none) (hc : s.heap.get? ci = some (citObj mo t)) (hm : s.heap.get? mo = some (methodObj (.ref f) self)) (X : K.In g) (F : Fr g L s.heap m) (hf : K.lookup f = some ⟨oc, od, .func fd, sl⟩)
    (hcall : wpAny (model prog w) A.in1 (call (.ref mo) []) (fun r s' => ∃ x u, r = .str x u ∧ s'.heap.get? ci = some (citObj mo t) ∧ s'.heap.get? mo = some (methodObj (.ref f) self) ∧ K.In s'.heap ∧
      (x ≠ "" → Q (some (.str x u)) s') ∧ (x = "" → ∀ h', (∀ b o, b ≠ ci → s'.heap.get? b = some o → h'.get? b = some o) → h'.get? ci = some citEnd → Q none { s' with heap := h' })) (fun _ _ => False) s) :
    wpAny (model prog w) A (pyNext (.ref ci)) Q E s :=
  cit_next hh hc hm (X.keeps F.keep _ _ hf) rfl (wpAny_mono hcall (fun r s' ⟨x, u, e, h1, h2, h3, h4⟩ => ⟨x, u, e, h1, h2, h3 _ _ hf, h4⟩) fun _ _ z => z)
noncomputable def tokQ (tx : Str) : Nat → Str → Nat → Int → Str × Nat × Int
  | 0, tok, i, ln => (tok, i, ln)
  | n + 1, tok, i, ln =>
    if piece tx i = "" then (tok, i, ln)
    else if piece tx i = "\"" then (tok, i + (piece tx i).length, lnAt tx i ln)
    else if piece tx i = "\\" then tokQ tx n (tok ++ piece tx (i + (piece tx i).length)) (i + (piece tx i).length + (piece tx (i + (piece tx i).length)).length) (lnAt tx (i + (piece tx i).length) (lnAt tx i ln))
    else tokQ tx n (tok ++ piece tx i) (i + (piece tx i).length) (lnAt tx i ln)
theorem piece_le (tx : Str) (i : Nat) (hi : i ≤ tx.length) : (piece tx i).length ≤ 1 ∧ i + (piece tx i).length ≤ tx.length := by
  have e : (Builtin.Str.strSliceIndices (some (i : Int)) (some ((i : Int) + 1)) 1 tx.length).length = min 1 (tx.length - i) := by
    unfold Builtin.Str.strSliceIndices PySem.sliceRange
    simp only [show (1 : Int) > 0 by decide, if_true, List.length_map, List.length_range]
    split <;> (try split) <;> (try split) <;> (try simp only [Int.ediv_one]) <;> (first | lia | omega)
  have l : (piece tx i).length ≤ (Builtin.Str.strSliceIndices (some (i : Int)) (some ((i : Int) + 1)) 1 tx.length).length := by
    unfold piece Txt.slice
    split
    · rename_i h
      simp only [beq_self_eq_true, Bool.true_and, beq_iff_eq] at h
      rw [h]; exact Nat.le_refl _
    · show (List.toArray _).size ≤ _
      rw [List.size_toArray]
      exact List.length_filterMap_le _ _
  (first | lia | omega)
noncomputable def notWhite (c : Str) : Bool := (Builtin.Str.occurrences "\n\t\r " c 0 ("\n\t\r " : Str).length 1).isEmpty
noncomputable def tokW (tx : Str) : Nat → Str → Nat → Int → Str × Nat × Int
  | 0, tok, i, ln => (tok, i, ln)
  | n + 1, tok, i, ln =>
    if piece tx i = "" then (tok, i, ln)
    else if notWhite (piece tx i) = false then (tok, i + (piece tx i).length, lnAt tx i ln)
    else if piece tx i = "\\" then tokW tx n (tok ++ piece tx (i + (piece tx i).length)) (i + (piece tx i).length + (piece tx (i + (piece tx i).length)).length) (lnAt tx (i + (piece tx i).length) (lnAt tx i ln))
    else tokW tx n (tok ++ piece tx i) (i + (piece tx i).length) (lnAt tx i ln)
noncomputable def tokT (tx : Str) : Nat → Nat → Int → Str × Nat × Int
  | 0, i, ln => ("", i, ln)
  | n + 1, i, ln =>
    if piece tx i = "" then ("", i, ln)
    else if notWhite (piece tx i) = false then tokT tx n (i + (piece tx i).length) (lnAt tx i ln)
    else if piece tx i = "\"" then tokQ tx n "" (i + (piece tx i).length) (lnAt tx i ln)
    else if piece tx i = "\\" then tokW tx n ("" ++ piece tx (i + (piece tx i).length)) (i + (piece tx i).length + (piece tx (i + (piece tx i).length)).length) (lnAt tx (i + (piece tx i).length) (lnAt tx i ln))
    else tokW tx n ("" ++ piece tx i) (i + (piece tx i).length) (lnAt tx i ln)
theorem piece_pos {tx : Str} {i : Nat} (hi : i ≤ tx.length) (h : piece tx i ≠ "") : (piece tx i).length = 1 := by
  have := (piece_le tx i hi).1
  rcases Nat.lt_or_ge 0 (piece tx i).length with k | k
  · omega
  · refine absurd ?_ h
    have e : (piece tx i).cps.size = 0 := by
      have : (piece tx i).length = (piece tx i).cps.size := rfl
      omega
    cases hp : piece tx i with
    | mk c =>
      rw [hp] at e
      have : c = #[] := Array.eq_empty_of_size_eq_zero e
      rw [this]; rfl
end

section
theorem tokQ_s {tx : Str} {k : Nat} {tok : Str} {i : Nat} {ln : Int} (h : 0 < k) : tokQ tx k tok i ln = if piece tx i = "" then (tok, i, ln) else if piece tx i = "\"" then (tok, i + (piece tx i).length, lnAt tx i ln)
    else if piece tx i = "\\" then tokQ tx (k - 1) (tok ++ piece tx (i + (piece tx i).length)) (i + (piece tx i).length + (piece tx (i + (piece tx i).length)).length) (lnAt tx (i + (piece tx i).length) (lnAt tx i ln))
    else tokQ tx (k - 1) (tok ++ piece tx i) (i + (piece tx i).length) (lnAt tx i ln) := by
  cases k with
  | zero => cases h
  | succ k => rfl
theorem tokW_s {tx : Str} {k : Nat} {tok : Str} {i : Nat} {ln : Int} (h : 0 < k) : tokW tx k tok i ln = if piece tx i = "" then (tok, i, ln) else if notWhite (piece tx i) = false then (tok, i + (piece tx i).length, lnAt tx i ln)
    else if piece tx i = "\\" then tokW tx (k - 1) (tok ++ piece tx (i + (piece tx i).length)) (i + (piece tx i).length + (piece tx (i + (piece tx i).length)).length) (lnAt tx (i + (piece tx i).length) (lnAt tx i ln))
    else tokW tx (k - 1) (tok ++ piece tx i) (i + (piece tx i).length) (lnAt tx i ln) := by
  cases k with
  | zero => cases h
  | succ k => rfl
theorem tokT_s {tx : Str} {k : Nat} {i : Nat} {ln : Int} (h : 0 < k) : tokT tx k i ln = if piece tx i = "" then (("" : Str), i, ln)
    else if notWhite (piece tx i) = false then tokT tx (k - 1) (i + (piece tx i).length) (lnAt tx i ln)
    else if piece tx i = "\"" then tokQ tx (k - 1) "" (i + (piece tx i).length) (lnAt tx i ln)
    else if piece tx i = "\\" then tokW tx (k - 1) ("" ++ piece tx (i + (piece tx i).length)) (i + (piece tx i).length + (piece tx (i + (piece tx i).length)).length) (lnAt tx (i + (piece tx i).length) (lnAt tx i ln))
    else tokW tx (k - 1) ("" ++ piece tx i) (i + (piece tx i).length) (lnAt tx i ln) := by
  cases k with
  | zero => cases h
  | succ k => rfl
end

section
example : True := by
  k_with "call ref" => (k_here; (with_reducible show wpAny _ _ (call (Value.ref 179) _ _) _ _ _); refine Stop.out ?_)
  k_with "setAttr ref" => (k_here; (with_reducible show wpAny _ _ (setAttr (Value.ref _) (PySem.Str.ofString "read") _) _ _ _); refine Stop.out ?_)
  trivial
theorem news_of {g h : Heap} {L : Addr} {l l' : Led} (N : News g L h l) (is : List Nat) (e : is.filterMap (l[·]?) = l') : News g L h l' := fun p hp => N p (by
  subst e
  obtain ⟨i, _, hi⟩ := List.mem_filterMap.mp hp
  exact List.mem_of_getElem? hi)
theorem lexer2_fs (X : (Kf w.params).In b₀) (T : Top topProg loose mean mg mb b₀) (C : CodeHd b₀ 189 185) (a₀ : LexA) (hco : CodeOf a₀) (n1 : a₀.cr ≠ 185) (n2 : a₀.cl ≠ 185) (n3 : a₀.cr ≠ a₀.cl) (tx : Str) (t : Tok) (hx : tx.length ≤ 1000) :
    FS P1 w b₀ 8 80 (.ref 190) ⟨[.str tx t], []⟩ [(a₀.cr, a₀.co), (a₀.cl, a₀.clo), (185, tabObj (tabL a₀))]
      (fun v tl' => ∃ a tt nd tp, a.cr = a₀.cr ∧ a.cl = a₀.cl ∧ v = .ref a.I ∧ tl' = lexTl w a 1 tt nd [] 0 0 tp 0 ++ [(185, tabObj (tabL a))] ∧ LexOk w b₀ tx a ∧ Off 185 (lexTl w a 1 tt nd [] 0 0 tp 0) ∧ CodeOf a) := by
  obtain ⟨vsC, tC, hC1, hC2⟩ := hco.made
  obtain ⟨I0, d0, pb0, S0, sd0, cl0, rd0, cr0, al0, ca0, ct0, so0, clo0, ro0, co0, cto0, cao0, kk0, hk0⟩ := a₀
  unfold tabL
  dsimp only at n1 n2 n3 hC1 ⊢
  refine' enterC (binds := [("text", .str tx t)]) X T ?ho ?hcd ?hb ?hl ?h2 ?h ?h1 ?h3 ?h4 ?h5
  walk_at "M enterC"
  intro dp un gd fr s g L' h₁ tk cells hd hu F N Y lN B st Xg Tg
  (conv in (PySem.execs _ _) => arg 1; whnf)
  k_lt lN
  k_cells Y
  (try simp only [List.cons_append, List.nil_append] at N)
  (try dsimp only)
  have C2 := CodeHd.keeps C st
  k_steps
  unfold Stop
  rename Fr _ _ _ _ => F
  rename News _ _ _ _ => N
  refine setFn F N ?_ ?_
  · intro p hp
    simp only [List.mem_cons, List.not_mem_nil, or_false] at hp
    rcases hp with rfl | rfl | rfl | rfl | rfl | rfl | rfl <;> exact Nat.ne_of_lt (by dsimp only; omega)
  intro sd k' h' tk' F N l1 l2
  k_lt l1
  k_steps
  unfold Stop
  refine' call_cls ?k1 ?k2 ?k3 ?k4 ?k5 ?k6 ?_
  case k1 => exact F
  case k2 => exact Xg
  case k3 => exact N
  case k4 => k_is
  case k5 => k_is
  case k6 => k_is
  intro I d h' F N l3 l4
  refine' use_fsC (init_fs ?X ?T I d _ (Nat.ne_of_gt l4)) ?B F N rfl rfl rfl ?hd ?hu ?htl ?hrest ?_
  case B => exact B
  case X => exact X
  case T => exact T
  case htl =>
    intro q hq
    rcases List.mem_cons.mp hq with rfl | hq
    · exact .head _
    · rw [List.mem_singleton.mp hq]; exact .tail _ (.head _)
  case hrest =>
    refine fun q hq => ⟨.tail _ (.tail _ hq), fun x hx => ?_⟩
    rcases List.mem_cons.mp hx with rfl | hx
    · exact Nat.ne_of_gt (Nat.lt_trans (l3 q hq) l4)
    · rw [List.mem_singleton.mp hx]; exact Nat.ne_of_gt (l3 q hq)
  case hd => show dp + 1 + 1 + 4 < _; omega
  case hu => show un + 3 + 1 + 40 < _; omega
  rintro v tl' h' tk' ⟨rfl, pb, tt, nd, e1, e2, rfl⟩ F N hn
  have l5 := (hn (pb, _) (.head _)).resolve_left (by
    simp only [List.map_cons, List.map_nil, List.mem_cons, List.not_mem_nil, or_false, not_or]
    exact ⟨e1.symm, e2.symm⟩)
  have l4' : @LT.lt Nat _ d I := l4
  have l3c := l3
  k_lt l3c
  simp only [List.forall_mem_cons, List.forall_mem_nil, and_true] at l5
  obtain ⟨q1, q2, q3, q4, q5, q6, q7, q8, q9, q10, q11, -⟩ := l5
  (try dsimp only [List.nil_append, List.cons_append] at N)
  refine ⟨rfl, ?_⟩
  replace N := news_of N [0, 1, 2, 3, 4, 10, 5, 9, 6, 7, 8, 11] rfl
  refine ⟨_, _, _, _, _, rfl, F, N, ⟨I, d, pb, _, sd, _, _, _, _, _, _, _, _, _, _, _, _, _, PyData.keyHash w.params "read"⟩, tt, nd, _, rfl, rfl, rfl, rfl, ⟨?nodup, ⟨_, rfl⟩, ⟨_, rfl⟩, ?read⟩, ?lt, ⟨?code⟩⟩
  case code =>
    refine' ⟨_, _, ?d1, ?d2⟩
    case d1 => assumption
    case d2 => assumption
  case nodup =>
    refine lex_apart ?_ ?_ ?_ ?_ ?_ ?_ ?_ ?_ ?_ ?_ ?_ ?_ ?_ ?_ ?_ ?_ ?_ (List.forall_mem_cons.mpr ⟨q1, (List.forall_mem_cons.mpr ⟨q2, (List.forall_mem_cons.mpr ⟨q3, (List.forall_mem_cons.mpr ⟨q4, (List.forall_mem_cons.mpr ⟨q10, (List.forall_mem_cons.mpr ⟨q5, (List.forall_mem_cons.mpr ⟨q9, (List.forall_mem_cons.mpr ⟨q6, (List.forall_mem_cons.mpr ⟨q7, (List.forall_mem_cons.mpr ⟨q8, (fun _ h => nomatch h)⟩)⟩)⟩)⟩)⟩)⟩)⟩)⟩)⟩)⟩) <;> first | assumption | ((try dsimp only); omega) | exact Nat.ne_of_lt (by (try dsimp only); omega) | exact Nat.ne_of_gt (by (try dsimp only); omega) | exact n3.symm
  case lt =>
    refine lex_off ?_ ?_ ?_ ?_ ?_ ?_ ?_ ?_ ?_ ?_ ?_ <;> first | assumption | exact q11.symm | exact q11 | ((try dsimp only); omega) | exact Nat.ne_of_gt (by (try dsimp only); omega)
  case read =>
    intro i t tp na hi
    refine' enterN (binds := [("size", .int 1 t)]) X T ?ho ?hc ?hcd ?hq ?hb ?hl ?h ?h1 ?h2 ?h3 ?h4 ?h5
    case ho => exact List.mem_cons_self
    case hc => exact .tail _ (.head _)
    case hcd => assumption
    case hq => assumption
    case hb => exact fun s => BindsTo.of_eq rfl
    case hl => exact locs rfl
    case h1 => decide
    case h2 => decide
    case h3 => exact rfl
    case h4 => exact rfl
    case h5 => exact rfl
    intro dp un gd fr s g L' h₁ hd hu F N B st Xg Tg lN
    (conv in (PySem.execs _ _) => arg 1; whnf)
    unfold readTl at N
    (try dsimp only)
    k_steps
    unfold Stop
    rename Fr _ _ _ _ => F
    rename News _ _ _ _ => N
    exact ⟨_, _, _, _, _, rfl, F, N, _, _, _, rfl, rfl⟩
end

section
noncomputable def accD (w : World) (k t : Tok) : List DictEntry := [⟨PyData.keyHash w.params "_initial_size", .str "_initial_size" k, .int 0 t⟩]
noncomputable abbrev accObj (dx : Addr) (vs : List Value) (n : Nat) : Obj := accOf 137 dx vs.toArray n
noncomputable abbrev tupObj (a b : Str) (ta tb : Tok) : Obj := { cls := .type "tuple", data := .seq #[.str a ta, .str b tb] }
example : True := by
  k_with "getMethod ref" => (k_here; k_dflt (refine' method_bi ?F ?X ?I ?g ?k ?f ?t ?l ?_; (case F => k_asm); (case X => k_asm); (case I => exact inst_acc (by k_asm) (by k_mem) (by k_mem)); (case g => k_is); (case k => k_is); (case f => k_is); (case t => first | exact ty_append | exact ty_pop); (case l => with_unfolding_all k_get); k_whole))
  k_with "getMethod ref" => (k_here; k_dflt (refine' method_in ?F ?X ?I ?g ?k ?f ?t ?l ?_; (case F => k_asm); (case X => k_asm); (case I => exact inst_acc (by k_asm) (by k_mem) (by k_mem)); (case g => k_is); (case k => k_is); (case f => k_is); (case t => k_is); (case l => with_unfolding_all k_get); k_whole))
  k_with "call builtin:list.append" => (k_here; (with_reducible show wpAny _ _ (call (Value.builtin _) [Value.ref _, _]) _ _ _); k_dflt (refine' append_acc ?F ?X ?N ?s ?l ?U ?_; (case F => k_asm); (case X => k_asm); (case N => k_asm); (case U => k_upd); (case s => (show mroIn _ _ _ = _; k_is)); (case l => walk_at "M le"); k_whole); intro h' F' N'; (try k_sweep))
  trivial
theorem apush_fs (X : (Kf w.params).In b₀) (T : Top topProg loose mean mg mb b₀) (x dx : Addr) (k0 t0 : Tok) (nd n : Nat) (vs : List Value) (hv : vs.length ≤ 900) (h1 : x ≠ dx) (a b : Str) (ta tb : Tok) :
    FS P1 w b₀ 6 60 (.ref 81) ⟨[.ref x, .str a ta, .str b tb], []⟩ [(x, accObj dx vs n), (dx, dictOf (accD w k0 t0) nd)]
      (fun _ tl' => ∃ p, x ≠ p ∧ dx ≠ p ∧ tl' = [(p, tupObj a b ta tb), (x, accObj dx (vs ++ [.ref p]) (n + 1)), (dx, dictOf (accD w k0 t0) nd)]) := by
  refine' enter (binds := [("self", .ref x), ("fws", .str a ta), ("string", .str b tb)]) X T ?ho ?hcd ?hb ?hl ?h ?h1 ?h2 ?h3 ?h4 ?h5
  walk_at "M enter"
  intro dp un gd fr s g L' h₁ hd hu F N B st Xg Tg
  (conv in (PySem.execs _ _) => arg 1; whnf)
  (try dsimp only)
  unfold accD at *
  k_steps
  unfold Stop
  exact ⟨_, _, _, _, _, rfl, by assumption, by assumption, _, Nat.ne_of_lt (by omega), Nat.ne_of_lt (by omega), rfl⟩
example : True := by
  k_with "M enterS" => (
  (case ho => k_is)
  (case hcd => k_is)
  (case hb => first | exact fun s Xs => BindsTo.of_eq rfl | exact fun s Xs => binds_K Xs rfl (by k_is) rfl rfl rfl)
  (case hl => exact locs rfl)
  (case h1 => decide)
  (case h2 => decide)
  (case h3 => exact rfl)
  (case h4 => exact rfl)
  (case h5 => exact rfl))
  k_with "wpAt" => (ks_step "attributeBase Call"; k_here; k_dflt (refine ks_node (by k_asm) (by k_asm) (by k_asm) (by k_asm) (by k_is) (by rfl) (by rfl) (inst_acc (by k_asm) (by k_mem) (by k_mem)) (by k_is) (by rfl) (by first | rfl | decide +kernel) (by k_is) (by k_is) (by k_is) (by k_is) (by decide) (by rfl) (by rfl) (by rfl) (by rfl) (by decide +kernel) (by first | boot_by_name | rfl | kernel_rfl) ?_; intro so' h' F' N' l1; (try k_lt l1)))
  k_with "getMethod ref" => (k_here; k_dflt (refine' super_bi ?R ?F ?X ?N ?so ?I ?o ?s ?m ?n ?_; (case F => k_asm); (case X => k_asm); (case N => k_asm); (case so => k_mem); (case I => exact inst_acc (by k_asm) (by k_mem) (by k_mem)); (case o => k_is); (case s => (show mroIn _ _ _ = _; k_is)); (case m => ks_is); (case R => first | exact reads_pop | exact reads_len | exact reads_init); (case n => decide); k_whole); intro q' h' F' N' l1; (try k_lt l1); (try dsimp only))
  k_with "call ref" => (k_here; (with_reducible show wpAny _ _ (call (Value.ref _) []) _ _ _); k_dflt (refine' call_bound (id := "list.__len__") ?N ?q ?b ?p ?c ?_; (case N => k_asm); (case q => k_mem); (case b => exact .inr rfl); (case p => decide +kernel); (case c => (intro Q' E' q'; exact wpAny_of_eq (ck_len _) q')); (refine' len_acc ?N ?m ?_; (case N => k_asm); (case m => k_mem); k_whole)); intro t' tk')
  trivial
theorem keep_bound {h : Heap} {q x : Addr} {bt id : String} (hq : h.get? q = some (boundOf bt id x)) (hb : bt = "builtin_function_or_method" ∨ bt = "method-wrapper") : KeepOk (.ref q) h := fun M => ⟨.machine, .inr (.inl rfl), by
  unfold keeperOf
  refine (Looks.ld (part := none) hq).andThen ?_
  rcases hb with rfl | rfl
  · exact Looks.of_pure (by kernel_rfl)
  · exact Looks.of_pure (by kernel_rfl)⟩
example : True := by
  k_with "callWith ref" => (k_here; refine' callWith_0 (keep_bound (News.get (by k_asm) (by k_mem)) (by first | exact .inr rfl | exact .inl rfl | fail)) ?_)
  trivial
example : True := by
  k_with "call ref" => ((with_reducible show wpAny _ _ (call (Value.ref 134) _ []) _ _ _); k_dflt (refine' use_fs (count_fs ?X ?T _ _ _ _ _ _ _ ?v ?n) ?B ?F ?N ?hf ?hk ?hd ?hu ?hp ?_; (case B => assumption); (case X => assumption); (case T => assumption); (case F => k_asm); (case N => k_asm); (case hf => rfl); (case hk => rfl); (case hp => walk_at "M picks"); (case v => ((try simp only [List.length_append, List.length_cons, List.length_nil]); omega)); (case n => walk_at "M ne"); (case hd => ktr_room); (case hu => ktr_units); k_whole); intro v' tl' h' tk' hr' F' N' hn'; (obtain ⟨⟨tz', hz'⟩, hy'⟩ := hr'); (subst hz'); (subst hy'); (clear hn'); (try dsimp only [List.nil_append, List.cons_append] at N'); (try k_sweep))
  k_with "wpAt" => (dsimp only; ks_step "execs cons"; refine ks_wpAt_execs_cons ?_)
  k_with "wpAt" => (ks_step "eval Call"; refine Stop.out ?_)
  trivial
example : True := by
  k_with "wpAt" => (ks_step "exec Expr"; refine Stop.out ?_)
  trivial
theorem ainit_fs (X : (Kf w.params).In b₀) (T : Top topProg loose mean mg mb b₀) (x dx : Addr) (h1 : x ≠ dx) :
    FS P1 w b₀ 4 40 (.ref 74) ⟨[.ref x], []⟩ [(x, accOf 137 dx #[] 0), (dx, dictOf [] 0)]
      (fun v tl' => v = .none ∧ ∃ k t nd, tl' = [(x, accObj dx [] 0), (dx, dictOf (accD w k t) nd)]) := by
  refine' enterS (binds := [("self", .ref x), ("initial_size", .int 0 266)]) X T ?ho ?hcd ?hb ?hl ?h ?h1 ?h2 ?h3 ?h4 ?h5
  walk_at "M enterS"
  intro dp un gd fr s g L' h₁ hd hu F N B st Xg Tg lN
  (conv in (PySem.execs _ _) => arg 1; whnf)
  (try dsimp only)
  k_steps
  refine' set_acc (es' := accD w _ _) (nd' := _) F Xg N (.head _) ?kc ?km ?kd ?ks ?kt ?ke ?kU ?kz ?_
  case kc => k_is
  case km => rfl
  case kd => rfl
  case ks => k_is
  case kt => k_is
  case ke => exact rfl
  case kU => k_upd
  case kz => exact Nat.le_of_ble_eq_true rfl
  intro h1 F1 N1
  dsimp only
  k_steps
  unfold Stop
  refine ks_wpAt_Expr_any ?_
  refine ks_wpAt_MethodCall ?_
  k_steps
  rename Fr _ _ _ _ => F2
  rename News _ _ _ _ => N2
  refine' call_bound N2 (.head _) (.inr rfl) ?kp ?kx ?_
  case kp => decide +kernel
  case kx => exact fun Q' E' q' => wpAny_of_eq (ck_init _) q'
  refine' init_acc F2 N2 ?kU2 ?_
  case kU2 => k_upd
  intro h3 F3 N3
  k_steps
  unfold Stop
  exact ⟨_, _, _, _, _, rfl, F3, fun p hp => N3 p (.tail _ (.tail _ hp)), rfl, _, _, _, rfl⟩
end
end Mine
end

section
namespace MineV
open PySem PySem.W PyProof.Rows PySem.Calls PySem.Spec
theorem cname {M : Model} {A : Around} {E : Value → Shared → Prop} {s : Shared} {m : Str → Option Value} {cenv : Env} {x : Str} {pos : Pos} {v : Value} {Q : Value → Shared → Prop} (hn : s.heap.Ns cenv.locals m) (hv : m x = some v) (hk : cenv.scope.kind = .function) (hl : cenv.kindOf x = some .local) (hd : (x == ("__debug__" : Str)) = false) (h : Q v s) :
    wpAny M A (eval (.Name x pos) cenv) Q E s := wpAny_Name (wpAny_loadName_local hk hl hn hv h) hd
noncomputable abbrev Led := List (Addr × Obj)
noncomputable def ND (l : Led) : Prop := (l.map (·.1)).Nodup
theorem ND.app {a b : Led} : ND (a ++ b) ↔ ND a ∧ ND b ∧ ∀ p ∈ a, ∀ q ∈ b, p.1 ≠ q.1 := by
  unfold ND
  rw [List.map_append, List.nodup_append]
  refine ⟨fun ⟨x, y, z⟩ => ⟨x, y, fun p hp q hq => z _ (List.mem_map_of_mem hp) _ (List.mem_map_of_mem hq)⟩, fun ⟨x, y, z⟩ => ⟨x, y, fun p hp q hq => ?_⟩⟩
  obtain ⟨p', hp', rfl⟩ := List.mem_map.mp hp
  obtain ⟨q', hq', rfl⟩ := List.mem_map.mp hq
  exact z p' hp' q' hq'
theorem ND.perm {a b : Led} (h : a.Perm b) (n : ND a) : ND b := by
  unfold ND at n ⊢
  exact (h.map _).nodup_iff.mp n
theorem ND.cons {p : Addr × Obj} {l : Led} : ND (p :: l) ↔ (∀ q ∈ l, q.1 ≠ p.1) ∧ ND l := by
  unfold ND
  rw [List.map_cons, List.nodup_cons]
  refine ⟨fun ⟨x, y⟩ => ⟨fun q hq e => x (e ▸ List.mem_map_of_mem hq), y⟩, fun ⟨x, y⟩ => ⟨fun hm => ?_, y⟩⟩
  obtain ⟨q, hq, e⟩ := List.mem_map.mp hm
  exact x q hq e
theorem ND.nil : ND [] := List.nodup_nil
structure Gl where
  P : Program
  w : World
  G : Array GenState → Prop
structure St where
  fs : List (Str × Value)
  led : Led
  cs : List (Str × Addr × Option Value) := []
noncomputable def getC : List (Str × Addr × Option Value) → Str → Option Value
  | [], _ => none
  | (k, _, v) :: r, z => if z = k then v else getC r z
noncomputable def setC : List (Str × Addr × Option Value) → Str → Value → List (Str × Addr × Option Value)
  | [], _, _ => []
  | (k, a, u) :: r, z, v => if z = k then (k, a, some v) :: r else (k, a, u) :: setC r z v
structure CellAt (g : Heap) (L : Addr) (env : Env) (h : Heap) (q : Str × Addr × Option Value) : Prop where
  look : env.cells.lookup q.1 = some q.2.1
  at_ : ∃ o, h.get? q.2.1 = some o ∧ o.data = .cell q.2.2
  neL : q.2.1 ≠ L
  new : g.get? q.2.1 = none
noncomputable def adrs (cs : List (Str × Addr × Option Value)) (l : Led) : List Addr := cs.map (·.2.1) ++ l.map (·.1)
noncomputable def getF : List (Str × Value) → Str → Option Value
  | [], _ => none
  | (k, v) :: r, z => if z = k then some v else getF r z
noncomputable abbrev AR (dp un : Nat) (gd : Option (List Code)) (fr : List Env) : Around := { handled := none, depth := dp, frames := some fr, guards := gd, units := un }
structure Cx where
  dp : Nat
  un : Nat
  gd : Option (List Code)
  fr : List Env
  env : Env
  g : Heap
  s0 : Shared
  hid : Led
noncomputable abbrev Cx.A (c : Cx) : Around := AR c.dp c.un c.gd c.fr
structure Rep (y : Gl) (c : Cx) (σ : St) (s : Shared) : Prop where
  d : s.drawn = c.s0.drawn
  o : s.os = c.s0.os
  G : y.G s.gens
  F0 : ∃ m, Fr c.g c.env.locals s.heap m ∧ ∀ x v, getF σ.fs x = some v → m x = some v
  N : News c.g c.env.locals s.heap (σ.led ++ c.hid)
  C : ∀ q ∈ σ.cs, CellAt c.g c.env.locals c.env s.heap q
  n : (adrs σ.cs (σ.led ++ c.hid)).Nodup
structure Op (y : Gl) (c : Cx) {α : Type} (t : Sem α) (σ : St) (K : α → St → Prop) : Prop where
  run : ∀ s, Rep y c σ s → wpAny (model y.P y.w) c.A t (fun v s' => ∃ σ', Rep y c σ' s' ∧ K v σ') (fun _ _ => False) s
structure OpFor (y : Gl) (c : Cx) (t : Expr) (body : List Stmt) (xv : Value) (σ : St) (K : Flow → St → Prop) : Prop where
  run : ∀ s, Rep y c σ s → wpAny (model y.P y.w) c.A (pyIter xv) (fun it s₂ => codeAny (model y.P y.w) c.A (.forLoop t it body [] c.env) (fun r s' => match r with
    | .ok f => ∃ σ', Rep y c σ' s' ∧ K f σ'
    | .error e => cameBackBy (model y.P y.w) c.A c.env (fun _ _ => False) e s') s₂) (fun _ _ => False) s
noncomputable def addrC : List (Str × Addr × Option Value) → Str → Option Addr
  | [], _ => none
  | (k, a, _) :: r, z => if z = k then some a else addrC r z
structure IfK (q : Bool) (A B : Prop) : Prop where
  t : q = true → A
  f : q = false → B
theorem IfK.yes {q : Bool} {A B : Prop} (h : q = true) (a : A) : IfK q A B := ⟨fun _ => a, fun e => absurd (h.symm.trans e) (by decide)⟩
theorem IfK.no {q : Bool} {A B : Prop} (h : q = false) (b : B) : IfK q A B := ⟨fun e => absurd (h.symm.trans e) (by decide), fun _ => b⟩
theorem IfK.dec {p : Prop} [Decidable p] {A B : Prop} (t : p → A) (f : ¬ p → B) : IfK (decide p) A B := ⟨fun e => t (of_decide_eq_true e), fun e => f (of_decide_eq_false e)⟩
noncomputable def KeepAt (f : Value) (h : Heap) : Prop := ∀ M : Model, ∃ k, (k = Keeper.frame ∨ k = Keeper.machine ∨ k = Keeper.boundFrame) ∧ Looks M h (keeperOf f) k
structure KOr (y : Gl) (c : Cx) (f : Value) (σ : St) : Prop where
  out : ∀ s, Rep y c σ s → KeepAt f s.heap
structure Tab where
  gl : List (Str × Value)
  kf : List Nat
section
variable {y : Gl} {c : Cx} {α β : Type} {σ : St}
theorem Op.pure {v : α} {K : α → St → Prop} (h : K v σ) : Op y c (pure v) σ K := ⟨fun _ R => wpAny_pure ⟨σ, R, h⟩⟩
theorem Op.mono {t : Sem α} {K K' : α → St → Prop} (h : Op y c t σ K) (k : ∀ v σ', K v σ' → K' v σ') : Op y c t σ K' :=
  ⟨fun s R => wpAny_mono (h.run s R) (fun v _ ⟨σ', R', x⟩ => ⟨σ', R', k v σ' x⟩) fun _ _ x => x⟩
noncomputable def Rep.m {s : Shared} (R : Rep y c σ s) : Str → Option Value := Classical.choose R.F0
theorem Rep.F {s : Shared} (R : Rep y c σ s) : Fr c.g c.env.locals s.heap R.m := (Classical.choose_spec R.F0).1
theorem Rep.cov {s : Shared} (R : Rep y c σ s) : ∀ x v, getF σ.fs x = some v → R.m x = some v := (Classical.choose_spec R.F0).2
theorem Rep.toks {s : Shared} {tk : Nat} (R : Rep y c σ s) : Rep y c σ { s with toks := tk } := ⟨R.d, R.o, R.G, R.F0, R.N, R.C, R.n⟩
theorem Rep.set {s : Shared} {h' : Heap} {tk : Nat} {x : Str} {v : Value} (R : Rep y c σ s) (hn : h'.Ns c.env.locals (fun z => if z = x then some v else R.m z)) (hs : Heap.SameBut c.env.locals s.heap h') :
    Rep y c ⟨(x, v) :: σ.fs, σ.led, σ.cs⟩ { s with heap := h', toks := tk } := ⟨R.d, R.o, R.G, ⟨_, R.F.set hn hs, fun z u hz => by
      unfold getF at hz
      by_cases e : z = x
      · rw [if_pos e] at hz ⊢; exact hz
      · rw [if_neg e] at hz ⊢; exact R.cov z u hz⟩, R.N.set hs, fun q hq => ⟨(R.C q hq).look, let ⟨o, a, b⟩ := (R.C q hq).at_; ⟨o, hs.extBut _ _ (R.C q hq).neL a, b⟩, (R.C q hq).neL, (R.C q hq).new⟩, R.n⟩
end
noncomputable def isStar : Expr → Bool
  | .Starred .. => true
  | _ => false
noncomputable def okBase : Expr → Bool
  | .Name .. | .Constant .. | .Attribute .. | .Subscript .. => true
  | _ => false
noncomputable def plainVal : Expr → Bool
  | .ListComp .. | .SetComp .. | .DictComp .. => false
  | _ => true
inductive Road
  | loc
  | glob
  | cell
  | odd
noncomputable def road : Option NameKind → Road
  | some .local => .loc
  | some .globalImplicit => .glob
  | some .cell => .cell
  | some .free => .cell
  | _ => .odd
noncomputable def asInt : Value → Option Int
  | .int i _ => some i
  | _ => none
noncomputable def asBool : Value → Option Bool
  | .bool b => some b
  | _ => none
noncomputable def asRef : Value → Option Nat
  | .ref a => some a
  | _ => none
noncomputable def mach : Value → Option Bool
  | .builtin _ => some true
  | .type _ => some true
  | .ref _ => none
  | _ => some false
noncomputable def asStr : Value → Option Str
  | .str i _ => some i
  | _ => none
noncomputable def isNon : Value → Option Bool
  | .none => some true
  | .ref _ => some false
  | .int _ _ => some false
  | _ => none
noncomputable def isIs : CmpOp → Bool
  | .Is => true
  | _ => false
noncomputable def binI : Operator → Option (Int → Int → Int)
  | .Add => some (· + ·)
  | .Sub => some (· - ·)
  | _ => none
noncomputable def cmpI : CmpOp → Option (Int → Int → Bool)
  | .Lt => some fun i j => decide (i < j)
  | .Gt => some fun i j => decide (j < i)
  | .LtE => some fun i j => decide (i ≤ j)
  | .GtE => some fun i j => decide (j ≤ i)
  | .Eq => some (· == ·)
  | .NotEq => some (· != ·)
  | _ => none
noncomputable def cmpS : CmpOp → Option (Str → Str → Bool)
  | .Eq => some (· == ·)
  | .NotEq => some (· != ·)
  | _ => none
section
variable (y : Gl) (tb : Tab) (nm : List (Str × NameKind)) (c : Cx)
noncomputable def WPname (e : Expr) (x : Str) (σ : St) (K : Value → St → Prop) : Prop :=
  match road (nm.lookup x) with
  | .odd => Op y c (eval e c.env) σ K
  | .loc => (match getF σ.fs x with | some v => K v σ | none => Op y c (eval e c.env) σ K)
  | .glob => (match getF tb.gl x with | some v => K v σ | none => Op y c (eval e c.env) σ K)
  | .cell => (match getC σ.cs x with | some v => K v σ | none => Op y c (eval e c.env) σ K)
noncomputable def WPb (op : Operator) (a b : Value) (σ : St) (K : Value → St → Prop) : Prop :=
  match binI op with
  | none => Op y c (binaryOp op a b) σ K
  | some g => (match asInt a with | none => Op y c (binaryOp op a b) σ K | some i => (match asInt b with | none => Op y c (binaryOp op a b) σ K | some j => ∀ t, K (.int (g i j) t) σ))
noncomputable def WPc3 (op : CmpOp) (a b : Value) (σ : St) (K : Value → St → Prop) : Prop :=
  match isIs op with
  | false => Op y c (compareOp op a b) σ K
  | true => (match isNon b with | none => Op y c (compareOp op a b) σ K | some false => Op y c (compareOp op a b) σ K | some true => (match isNon a with | none => Op y c (compareOp op a b) σ K | some q => K (.bool q) σ))
noncomputable def WPc2 (op : CmpOp) (a b : Value) (σ : St) (K : Value → St → Prop) : Prop :=
  match cmpS op with
  | none => WPc3 y c op a b σ K
  | some g => (match asStr a with | none => WPc3 y c op a b σ K | some i => (match asStr b with | none => WPc3 y c op a b σ K | some j => K (.bool (g i j)) σ))
noncomputable def WPc (op : CmpOp) (a b : Value) (σ : St) (K : Value → St → Prop) : Prop :=
  match cmpI op with
  | none => WPc2 y c op a b σ K
  | some g => (match asInt a with | none => WPc2 y c op a b σ K | some i => (match asInt b with | none => WPc2 y c op a b σ K | some j => K (.bool (g i j)) σ))
noncomputable def WPtr (v : Value) (σ : St) (K : Bool → St → Prop) : Prop :=
  match asBool v with
  | some b => K b σ
  | none => Op y c (truthy v) σ K
noncomputable def WPargs (f : Expr → St → (Value → St → Prop) → Prop) : List Expr → St → (List Value → St → Prop) → Prop
  | [], σ, K => K [] σ
  | e :: r, σ, K => f e σ fun v σ1 => WPargs f r σ1 fun vs σ2 => K (v :: vs) σ2
noncomputable def WPkw (f : Expr → St → (Value → St → Prop) → Prop) : List Keyword → St → (List (Str × Value) → St → Prop) → Prop
  | [], σ, K => K [] σ
  | ⟨some n, e, _⟩ :: r, σ, K => f e σ fun v σ1 => WPkw f r σ1 fun vs σ2 => K ((n, v) :: vs) σ2
  | ⟨none, _, _⟩ :: _, _, _ => False
noncomputable def WPkeep (f : Value) (σ : St) : Prop :=
  match mach f with
  | some true => True
  | some false => KOr y c f σ
  | none => (match asRef f with | some a => if tb.kf.contains a then True else KOr y c f σ | none => KOr y c f σ)
noncomputable def WPk (k : Const) (e : Expr) (σ : St) (K : Value → St → Prop) : Prop :=
  match k with
  | .int i => ∀ t, K (.int i t) σ
  | .str x => ∀ t, K (.str x t) σ
  | .none => K .none σ
  | .bool b => K (.bool b) σ
  | _ => Op y c (eval e c.env) σ K
noncomputable def one? {α : Type} : List α → Option α
  | [a] => some a
  | _ => none
noncomputable def attr? : Expr → Option (Expr × Str × Pos)
  | .Attribute o name ap => some (o, name, ap)
  | _ => none
noncomputable def isName : Expr → Bool
  | .Name .. => true
  | _ => false
noncomputable def WPe : Nat → Expr → St → (Value → St → Prop) → Prop
  | 0, e, σ, K => Op y c (eval e c.env) σ K
  | n + 1, e, σ, K =>
    match e with
    | .Name x p => WPname y tb nm c (.Name x p) x σ K
    | .Constant k a p => WPk y c k (.Constant k a p) σ K
    | .BinOp l op r _ => WPe n l σ fun a σ1 => WPe n r σ1 fun b σ2 => WPb y c op a b σ2 K
    | .Compare l ops rs p => (match one? ops with
      | none => Op y c (eval (.Compare l ops rs p) c.env) σ K
      | some op => (match one? rs with
        | none => Op y c (eval (.Compare l ops rs p) c.env) σ K
        | some r => if behindInMarks op r then Op y c (eval (.Compare l ops rs p) c.env) σ K else WPe n l σ fun a σ1 => WPe n r σ1 fun b σ2 => WPc y c op a b σ2 K))
    | .Attribute o attr p => if isName o then WPe n o σ fun o σ1 => Op y c (getAttr o attr true) σ1 K else Op y c (eval (.Attribute o attr p) c.env) σ K
    | .Subscript v sl _ => WPe n v σ fun o σ1 => WPe n sl σ1 fun i σ2 => Op y c (subscriptTail v sl o i) σ2 K
    | .List es p => if es.any isStar then Op y c (eval (.List es p) c.env) σ K else WPargs (WPe n) es σ fun vs σ1 => Op y c (newList vs) σ1 K
    | .Tuple es k p => if es.any isStar then Op y c (eval (.Tuple es k p) c.env) σ K else WPargs (WPe n) es σ fun vs σ1 => Op y c (newTuple vs) σ1 K
    | .Call f args kws pos => (match attr? f with
      | some (o, name, ap) =>
        if okBase o && !args.any isStar && kws.isEmpty && decide (args.length < 30) && ap.endLine == pos.line then
          WPe n o σ fun ov σ1 => ∀ pl, Op y c (getMethod ov name pl) σ1 fun fx σ2 => WPargs (WPe n) args σ2 fun vs σ3 => WPkeep y tb c fx.1 σ3 ∧ Op y c (call fx.1 (fx.2 ++ vs)) σ3 K
        else Op y c (eval (.Call f args kws pos) c.env) σ K
      | none =>
        if !isName f || args.any isStar || kws.any (·.arg.isNone) then Op y c (eval (.Call f args kws pos) c.env) σ K
        else WPe n f σ fun fv σ1 => WPargs (WPe n) args σ1 fun vs σ2 => WPkw (WPe n) kws σ2 fun ks σ3 => WPkeep y tb c fv σ3 ∧ Op y c (call fv vs ks) σ3 K)
    | e => Op y c (eval e c.env) σ K
noncomputable def isNameAttr : Expr → Bool
  | .Name .. => true
  | .Attribute .. => true
  | _ => false
noncomputable def cmp? : Expr → Option (Expr × CmpOp × Expr)
  | .Compare l ops rs _ => (match one? ops, one? rs with | some op, some r => some (l, op, r) | _, _ => none)
  | _ => none
noncomputable def WPt (n : Nat) (e : Expr) (σ : St) (K : Bool → St → Prop) : Prop :=
  match cmp? e with
  | some (l, op, r) => if behindInMarks op r then Op y c (isTrue e c.env (eval e c.env)) σ K else WPe y tb nm c n l σ fun a σ1 => WPe y tb nm c n r σ1 fun b σ2 => WPc y c op a b σ2 fun v σ3 => WPtr y c v σ3 K
  | none => if isNameAttr e then WPe y tb nm c n e σ fun v σ1 => WPtr y c v σ1 K else Op y c (isTrue e c.env (eval e c.env)) σ K
noncomputable def Sq (W : (Flow → St → Prop) → St → Prop) (K : Flow → St → Prop) : Flow → St → Prop
  | .next, σ => W K σ
  | fl, σ => K fl σ
noncomputable def WPss (f : Stmt → St → (Flow → St → Prop) → Prop) : List Stmt → (Flow → St → Prop) → St → Prop
  | [], K, σ => K .next σ
  | st :: r, K, σ => f st σ (Sq (WPss f r) K)
noncomputable def WPst (x : Str) (v : Value) (σ : St) (K : St → Prop) : Prop :=
  match nm.lookup x with
  | some .local => (match σ with | ⟨f, l, cs⟩ => K ⟨(x, v) :: f, l, cs⟩)
  | some .cell => (match σ with | ⟨f, l, cs⟩ => (match addrC cs x with | some _ => K ⟨f, l, setC cs x v⟩ | none => Op y c (storeName c.env x v) ⟨f, l, cs⟩ fun _ σ1 => K σ1))
  | _ => Op y c (storeName c.env x v) σ fun _ σ1 => K σ1
inductive Tgt
  | name (x : Str) (p : Pos)
  | attr (o : Expr) (a : Str) (p : Pos)
  | item (o i : Expr) (p : Pos)
  | other
noncomputable def tgt (ts : List Expr) : Tgt := match one? ts with
  | some (.Name x p) => .name x p
  | some (.Attribute o a p) => .attr o a p
  | some (.Subscript o i p) => .item o i p
  | _ => .other
noncomputable def plainIter : Expr → Bool
  | .Name .. => true
  | .Call .. => true
  | .Attribute .. => true
  | .Subscript .. => true
  | .List .. => true
  | _ => false
noncomputable def WPs : Nat → Stmt → St → (Flow → St → Prop) → Prop
  | 0, st, σ, K => Op y c (exec st c.env) σ K
  | n + 1, st, σ, K =>
    match st with
    | .Assign ts e p => if plainVal e then (match tgt ts with
      | .name x _ => WPe y tb nm c 20 e σ fun v σ1 => WPst y nm c x v σ1 (K .next)
      | .attr o a _ => WPe y tb nm c 20 e σ fun v σ1 => WPe y tb nm c 20 o σ1 fun ov σ2 => Op y c (setAttr ov a v) σ2 fun _ σ3 => K .next σ3
      | .item o i _ => WPe y tb nm c 20 e σ fun v σ1 => WPe y tb nm c 20 o σ1 fun ov σ2 => WPe y tb nm c 20 i σ2 fun iv σ3 => Op y c (setItem ov iv v) σ3 fun _ σ4 => K .next σ4
      | .other => Op y c (exec (.Assign ts e p) c.env) σ K) else Op y c (exec (.Assign ts e p) c.env) σ K
    | .AugAssign t op e p => (match tgt [t] with
      | .name x _ => (match road (nm.lookup x) with
        | .loc => (match getF σ.fs x with
          | some old => WPe y tb nm c 20 e σ fun v σ2 => Op y c (inplaceOp op old v) σ2 fun r σ3 => WPst y nm c x r σ3 (K .next)
          | none => Op y c (exec (.AugAssign t op e p) c.env) σ K)
        | _ => Op y c (exec (.AugAssign t op e p) c.env) σ K)
      | .attr o a _ => WPe y tb nm c 20 o σ fun ov σ1 => Op y c (getAttr ov a true) σ1 fun old σ2 => WPe y tb nm c 20 e σ2 fun v σ3 => Op y c (inplaceOp op old v) σ3 fun r σ4 => Op y c (setAttr ov a r) σ4 fun _ σ5 => K .next σ5
      | _ => Op y c (exec (.AugAssign t op e p) c.env) σ K)
    | .For t e b o p => if o.isEmpty && plainIter e then WPe y tb nm c 20 e σ fun xv σ1 => OpFor y c t b xv σ1 K else Op y c (exec (.For t e b o p) c.env) σ K
    | .Continue _ => K .cont σ
    | .Pass _ => K .next σ
    | .Expr e p => if plainVal e then WPe y tb nm c 20 e σ fun _ σ1 => K .next σ1 else Op y c (exec (.Expr e p) c.env) σ K
    | .Return e p => (match e with
      | some e => WPe y tb nm c 20 e σ fun v σ1 => K (.ret v) σ1
      | none => Op y c (exec (.Return none p) c.env) σ K)
    | .If t b o _ => WPt y tb nm c 20 t σ fun q σ1 => IfK q (WPss (WPs n) b K σ1) (WPss (WPs n) o K σ1)
    | st => Op y c (exec st c.env) σ K
end
end MineV
end

section
namespace MineV
open PySem PySem.W PyProof.Rows PySem.Calls PySem.Spec
theorem no {P : Prop} (h : false = true) : P := Bool.noConfusion h
theorem noO {α : Type} {a : α} {P : Prop} (h : none = some a) : P := Option.noConfusion rfl (heq_of_eq h)
structure CxOk (y : Gl) (tb : Tab) (nm : List (Str × NameKind)) (b₀ : Heap) (D U : Nat) (c : Cx) : Prop where
  dep : c.dp + D < recursionLimit
  unt : c.un + U < cLine
  amb : ∀ σ s, Rep y c σ s → s.heap.FunFrames b₀ c.fr ∧ ∀ env ∈ c.fr, ∀ p ∈ σ.led, env.frame ≠ some p.1
  st : b₀.StaysIn c.g
  names : c.env.scope.names = nm
  kind : c.env.scope.kind = .function
  glo : c.env.globals = mainGlobals
  blt : c.env.builtins = builtinsNs
  dbg : nm.lookup ("__debug__" : Str) = none
  ncl : nm.lookup ("__classdict__" : Str) = none
  look : ∀ env x v p s L m A Q, env.globals = mainGlobals → env.builtins = builtinsNs → env.scope.kind = .function → env.kindOf x = some .globalImplicit → (x == ("__debug__" : Str)) = false → getF tb.gl x = some v → Fr c.g L s.heap m → Q v s → wpAny (model y.P y.w) A (eval (.Name x p) env) Q (fun _ _ => False) s
  keep : ∀ a ∈ tb.kf, ∀ h, (∀ b o, c.g.get? b = some o → h.get? b = some o) → KeepAt (.ref a) h
section
variable {y : Gl} {tb : Tab} {nm : List (Str × NameKind)} {b₀ : Heap} {D U : Nat} {c : Cx}
theorem CxOk.kindOf (ok : CxOk y tb nm b₀ D U c) (x : Str) : c.env.kindOf x = nm.lookup x := by unfold Env.kindOf; rw [ok.names]
theorem CxOk.noDbg (ok : CxOk y tb nm b₀ D U c) {x : Str} {k : NameKind} (h : nm.lookup x = some k) : (x == ("__debug__" : Str)) = false := by
  rw [beq_eq_false_iff_ne]
  rintro rfl
  rw [ok.dbg] at h; cases h
theorem CxOk.noCls (ok : CxOk y tb nm b₀ D U c) {x : Str} {k : NameKind} (h : nm.lookup x = some k) : (x == ("__classdict__" : Str)) = false := by
  rw [beq_eq_false_iff_ne]
  rintro rfl
  rw [ok.ncl] at h; cases h
theorem CxOk.cls (ok : CxOk y tb nm b₀ D U c) : (c.env.scope.kind == .class || (c.env.scope.kind == .module && c.env.locals != c.env.globals)) = false := by rw [ok.kind]; rfl
theorem cell_name {M : Model} {A : Around} {E : Value → Shared → Prop} {s : Shared} {env : Env} {x : Str} {pos : Pos} {a : Addr} {v : Value} {Q : Value → Shared → Prop} (ha : env.cells.lookup x = some a) (ho : ∃ o, s.heap.get? a = some o ∧ o.data = .cell (some v)) (hk : env.scope.kind = .function)
    (hx : env.kindOf x = some .cell ∨ env.kindOf x = some .free ∧ (x == ("__classdict__" : Str)) = false) (hb : (x == ("__debug__" : Str)) = false) (h : Q v s) :
    wpAny M A (eval (.Name x pos) env) Q E s := by
  rcases hx with hx | hx
  · exact wpAny_Name (wpAny_loadName_cell hk hx ha ho h) hb
  · exact wpAny_Name (wpAny_loadName_free hk hx.1 ha ho h hx.2) hb
theorem getC_mem {x : Str} {v : Value} : ∀ {cs : List (Str × Addr × Option Value)}, getC cs x = some v → ∃ a, (x, a, some v) ∈ cs
  | (k, a, u) :: r, h => by
    unfold getC at h
    by_cases e : x = k
    · rw [if_pos e] at h
      subst e h
      exact ⟨a, .head _⟩
    · rw [if_neg e] at h
      obtain ⟨b, hb⟩ := getC_mem h
      exact ⟨b, .tail _ hb⟩
theorem name_ok (ok : CxOk y tb nm b₀ D U c) {x : Str} {p : Pos} {σ : St} {K : Value → St → Prop} (h : WPname y tb nm c (.Name x p) x σ K) : Op y c (eval (.Name x p) c.env) σ K := by
  unfold WPname at h
  induction ek : nm.lookup x using Option.casesOn with
  | none => rw [ek] at h; exact h
  | some k =>
    rw [ek] at h
    have cell : (match getC σ.cs x with | some v => K v σ | none => Op y c (eval (.Name x p) c.env) σ K) → (k = .cell ∨ k = .free ∧ (x == ("__classdict__" : Str)) = false) → Op y c (eval (.Name x p) c.env) σ K := by
      intro h hk
      induction e2 : getC σ.cs x using Option.casesOn with
      | none => rw [e2] at h; exact h
      | some v =>
        rw [e2] at h
        obtain ⟨a, ha⟩ := getC_mem e2
        refine ⟨fun s R => cell_name (R.C _ ha).look (R.C _ ha).at_ ok.kind ?_ (ok.noDbg ek) ⟨σ, R, h⟩⟩
        rw [ok.kindOf, ek]
        rcases hk with rfl | ⟨rfl, e⟩
        · exact .inl rfl
        · exact .inr ⟨rfl, e⟩
    cases k with
    | «local» =>
      dsimp only [road] at h
      induction e2 : getF σ.fs x using Option.casesOn with
      | none => rw [e2] at h; exact h
      | some v =>
        rw [e2] at h
        exact ⟨fun s R => cname R.F.ns (R.cov _ _ e2) ok.kind ((ok.kindOf x).trans ek) (ok.noDbg ek) ⟨σ, R, h⟩⟩
    | globalImplicit =>
      dsimp only [road] at h
      induction e2 : getF tb.gl x using Option.casesOn with
      | none => rw [e2] at h; exact h
      | some v =>
        rw [e2] at h
        exact ⟨fun s R => ok.look _ x v p s _ _ _ _ ok.glo ok.blt ok.kind ((ok.kindOf x).trans ek) (ok.noDbg ek) e2 R.F ⟨σ, R, h⟩⟩
    | cell => exact cell h (.inl rfl)
    | free => exact cell h (.inr ⟨rfl, ok.noCls ek⟩)
    | _ => exact h
theorem asInt_eq {v : Value} {i : Int} : asInt v = some i → ∃ t, v = .int i t := by
  induction v using Value.casesOn <;> first | exact noO | exact fun h => ⟨_, congrArg (Value.int · _) (Option.some.inj h)⟩
theorem asStr_eq {v : Value} {i : Str} : asStr v = some i → ∃ t, v = .str i t := by
  induction v using Value.casesOn <;> first | exact noO | exact fun h => ⟨_, congrArg (Value.str · _) (Option.some.inj h)⟩
theorem asBool_eq {v : Value} {i : Bool} : asBool v = some i → v = .bool i := by
  induction v using Value.casesOn <;> first | exact noO | exact fun h => congrArg Value.bool (Option.some.inj h)
theorem asRef_eq {v : Value} {i : Nat} : asRef v = some i → v = .ref i := by
  induction v using Value.casesOn <;> first | exact noO | exact fun h => congrArg Value.ref (Option.some.inj h)
theorem binI_ok {op : Operator} {g : Int → Int → Int} {i j : Int} {t u : Tok} {σ : St} {K : Value → St → Prop} (k : ∀ t, K (.int (g i j) t) σ) : binI op = some g → Op y c (binaryOp op (.int i t) (.int j u)) σ K := by
  induction op using Operator.casesOn with
  | Add => exact fun h => ⟨fun s R => add_int ⟨σ, R.toks, congrFun (congrFun (Option.some.inj h) i) j ▸ k _⟩⟩
  | Sub => exact fun h => ⟨fun s R => sub_int ⟨σ, R.toks, congrFun (congrFun (Option.some.inj h) i) j ▸ k _⟩⟩
  | _ => exact noO
theorem b_ok {op : Operator} {a b : Value} {σ : St} {K : Value → St → Prop} (h : WPb y c op a b σ K) : Op y c (binaryOp op a b) σ K := by
  unfold WPb at h
  induction e1 : binI op using Option.casesOn with
  | none => rw [e1] at h; exact h
  | some g =>
    induction e2 : asInt a using Option.casesOn with
    | none => rw [e1, e2] at h; exact h
    | some i =>
      induction e3 : asInt b using Option.casesOn with
      | none => rw [e1, e2, e3] at h; exact h
      | some j =>
        rw [e1, e2, e3] at h
        obtain ⟨t, rfl⟩ := asInt_eq e2
        obtain ⟨u, rfl⟩ := asInt_eq e3
        exact binI_ok h e1
theorem cmpI_ok {op : CmpOp} {g : Int → Int → Bool} {i j : Int} {t u : Tok} {σ : St} {K : Value → St → Prop} (k : K (.bool (g i j)) σ) : cmpI op = some g → Op y c (compareOp op (.int i t) (.int j u)) σ K := by
  induction op using CmpOp.casesOn with
  | Lt => exact fun h => ⟨fun s R => lt_int ⟨σ, R, congrFun (congrFun (Option.some.inj h) i) j ▸ k⟩⟩
  | Gt => exact fun h => ⟨fun s R => gt_int ⟨σ, R, congrFun (congrFun (Option.some.inj h) i) j ▸ k⟩⟩
  | LtE => exact fun h => ⟨fun s R => le_int ⟨σ, R, congrFun (congrFun (Option.some.inj h) i) j ▸ k⟩⟩
  | GtE => exact fun h => ⟨fun s R => ge_int ⟨σ, R, congrFun (congrFun (Option.some.inj h) i) j ▸ k⟩⟩
  | Eq => exact fun h => ⟨fun s R => eq_int ⟨σ, R, congrFun (congrFun (Option.some.inj h) i) j ▸ k⟩⟩
  | NotEq => exact fun h => ⟨fun s R => ne_int ⟨σ, R, congrFun (congrFun (Option.some.inj h) i) j ▸ k⟩⟩
  | _ => exact noO
theorem cmpS_ok {op : CmpOp} {g : Str → Str → Bool} {i j : Str} {t u : Tok} {σ : St} {K : Value → St → Prop} (k : K (.bool (g i j)) σ) : cmpS op = some g → Op y c (compareOp op (.str i t) (.str j u)) σ K := by
  induction op using CmpOp.casesOn with
  | Eq => exact fun h => ⟨fun s R => eq_str ⟨σ, R, congrFun (congrFun (Option.some.inj h) i) j ▸ k⟩⟩
  | NotEq => exact fun h => ⟨fun s R => ne_str ⟨σ, R, congrFun (congrFun (Option.some.inj h) i) j ▸ k⟩⟩
  | _ => exact noO
theorem isNon_ok {a : Value} {q : Bool} {σ : St} {K : Value → St → Prop} (k : K (.bool q) σ) : isNon a = some q → Op y c (compareOp .Is a .none) σ K := by
  induction a using Value.casesOn with
  | ref a => exact fun h => ⟨fun s R => is_ref_none ⟨σ, R, Option.some.inj h ▸ k⟩⟩
  | int i t => exact fun h => ⟨fun s R => is_int_none ⟨σ, R, Option.some.inj h ▸ k⟩⟩
  | none => exact fun h => ⟨fun s R => is_none_none ⟨σ, R, Option.some.inj h ▸ k⟩⟩
  | _ => exact noO
theorem isIs_eq {op : CmpOp} : isIs op = true → op = .Is := by
  induction op using CmpOp.casesOn <;> first | exact no | exact fun _ => rfl
theorem isNon_eq {b : Value} : isNon b = some true → b = .none := by
  induction b using Value.casesOn <;> first | exact noO | exact fun _ => rfl | exact fun h => no (Option.some.inj h)
theorem c3_ok {op : CmpOp} {a b : Value} {σ : St} {K : Value → St → Prop} (h : WPc3 y c op a b σ K) : Op y c (compareOp op a b) σ K := by
  unfold WPc3 at h
  induction e1 : isIs op using Bool.casesOn with
  | false => rw [e1] at h; exact h
  | true =>
    have e1' := isIs_eq e1
    induction e2 : isNon b using Option.casesOn with
    | none => rw [e1, e2] at h; exact h
    | some q =>
      induction q using Bool.casesOn with
      | false => rw [e1, e2] at h; exact h
      | true =>
        have e2' := isNon_eq e2
        induction e3 : isNon a using Option.casesOn with
        | none => rw [e1, e2, e3] at h; exact h
        | some q =>
          rw [e1, e2, e3] at h
          subst e1' e2'
          exact isNon_ok h e3
theorem c2_ok {op : CmpOp} {a b : Value} {σ : St} {K : Value → St → Prop} (h : WPc2 y c op a b σ K) : Op y c (compareOp op a b) σ K := by
  unfold WPc2 at h
  induction e1 : cmpS op using Option.casesOn with
  | none => rw [e1] at h; exact c3_ok h
  | some g =>
    induction e2 : asStr a using Option.casesOn with
    | none => rw [e1, e2] at h; exact c3_ok h
    | some i =>
      induction e3 : asStr b using Option.casesOn with
      | none => rw [e1, e2, e3] at h; exact c3_ok h
      | some j =>
        rw [e1, e2, e3] at h
        obtain ⟨t, rfl⟩ := asStr_eq e2
        obtain ⟨u, rfl⟩ := asStr_eq e3
        exact cmpS_ok h e1
theorem c_ok {op : CmpOp} {a b : Value} {σ : St} {K : Value → St → Prop} (h : WPc y c op a b σ K) : Op y c (compareOp op a b) σ K := by
  unfold WPc at h
  induction e1 : cmpI op using Option.casesOn with
  | none => rw [e1] at h; exact c2_ok h
  | some g =>
    induction e2 : asInt a using Option.casesOn with
    | none => rw [e1, e2] at h; exact c2_ok h
    | some i =>
      induction e3 : asInt b using Option.casesOn with
      | none => rw [e1, e2, e3] at h; exact c2_ok h
      | some j =>
        rw [e1, e2, e3] at h
        obtain ⟨t, rfl⟩ := asInt_eq e2
        obtain ⟨u, rfl⟩ := asInt_eq e3
        exact cmpI_ok h e1
theorem tr_ok {v : Value} {σ : St} {K : Bool → St → Prop} (h : WPtr y c v σ K) : Op y c (truthy v) σ K := by
  unfold WPtr at h
  induction e1 : asBool v using Option.casesOn with
  | none => rw [e1] at h; exact h
  | some b =>
    rw [e1] at h
    obtain rfl := asBool_eq e1
    exact ⟨fun s R => wpAny_truthy_bool ⟨σ, R, h⟩⟩
noncomputable def StarAs (rest : List Expr) (env : Env) (e : Expr) : Prop := starEach (e :: rest) env = (false, eval e env) :: starEach rest env
theorem no' {P : Prop} (h : true = false) : P := Bool.noConfusion h
theorem star_as (rest : List Expr) (env : Env) (e : Expr) : isStar e = false → StarAs rest env e := by
  induction e using Expr.casesOn <;> first | exact fun _ => rfl | exact no'
theorem star_cons {e : Expr} {rest : List Expr} {env : Env} (h : isStar e = false) : starEach (e :: rest) env = (false, eval e env) :: starEach rest env := star_as _ _ _ h
theorem stars_plain {env : Env} {pos : Pos} : ∀ {es : List Expr}, es.any isStar = false → (backTo pos (starEach es env)).any (·.1) = false
  | [], _ => rfl
  | e :: r, h => by
    rw [List.any_cons, Bool.or_eq_false_iff] at h
    rw [star_cons h.1]
    show ((false || (backTo pos (starEach r env)).any (·.1))) = false
    rw [stars_plain h.2]; rfl
theorem args_ok {f : Expr → St → (Value → St → Prop) → Prop} (hf : ∀ e σ K, f e σ K → Op y c (eval e c.env) σ K) {pos : Pos} : ∀ {es : List Expr} {σ : St} {K : List Value → St → Prop}, es.any isStar = false → WPargs f es σ K → Op y c (spliced (backTo pos (starEach es c.env))) σ K
  | [], σ, K, _, h => ⟨fun s R => args_nil ⟨σ, R, h⟩⟩
  | e :: r, σ, K, hs, h => by
    rw [List.any_cons, Bool.or_eq_false_iff] at hs
    refine ⟨fun s R => args_cons (wpAny_mono ((hf e σ _ h).run s R) (fun v s1 ⟨σ1, R1, h1⟩ => ?_) fun _ _ x => x) (star_cons hs.1)⟩
    exact wpAny_mono ((args_ok hf hs.2 h1).run s1 R1) (fun vs s2 ⟨σ2, R2, h2⟩ => ⟨σ2, R2, h2⟩) fun _ _ x => x
theorem kws_some {env : Env} {pos : Pos} : ∀ {ks : List Keyword}, ks.any (·.arg.isNone) = false → (backToKw pos (keywordEach ks env)).all (·.1.isSome) = true
  | [], _ => rfl
  | ⟨n, e, p⟩ :: r, h => by
    rw [List.any_cons, Bool.or_eq_false_iff] at h
    show (n.isSome && (backToKw pos (keywordEach r env)).all (·.1.isSome)) = true
    rw [kws_some h.2]
    induction n using Option.casesOn with
    | none => cases h.1
    | some n => rfl
theorem kws_none {env : Env} {pos : Pos} : ∀ {ks : List Keyword}, ks.any (·.arg.isNone) = false → (backToKw pos (keywordEach ks env)).any (·.1.isNone) = false
  | [], _ => rfl
  | ⟨n, e, p⟩ :: r, h => by
    rw [List.any_cons, Bool.or_eq_false_iff] at h
    show (n.isNone || (backToKw pos (keywordEach r env)).any (·.1.isNone)) = false
    rw [kws_none h.2]
    rw [show n.isNone = false from h.1]; rfl
theorem kw_ok {f : Expr → St → (Value → St → Prop) → Prop} (hf : ∀ e σ K, f e σ K → Op y c (eval e c.env) σ K) {pos : Pos} : ∀ {ks : List Keyword} {σ : St} {K : List (Str × Value) → St → Prop}, WPkw f ks σ K →
    Op y c (evalAll ((backToKw pos (keywordEach ks c.env)).map (·.2))) σ (fun vs σ' => K (((backToKw pos (keywordEach ks c.env)).filterMap (·.1)).zip vs) σ')
  | [], σ, K, h => ⟨fun s R => kwAll_nil ⟨σ, R, h⟩⟩
  | ⟨none, e, p⟩ :: r, σ, K, h => by cases h
  | ⟨some n, e, p⟩ :: r, σ, K, h => by
    refine ⟨fun s R => kwAll_cons (wpAny_mono ((hf e σ _ h).run s R) (fun v s1 ⟨σ1, R1, h1⟩ => ?_) fun _ _ x => x)⟩
    exact wpAny_mono ((kw_ok hf h1).run s1 R1) (fun vs s2 ⟨σ2, R2, h2⟩ => ⟨σ2, R2, h2⟩) fun _ _ x => x
theorem mach_keep {f : Value} {h : Heap} : mach f = some true → KeepAt f h := by
  induction f using Value.casesOn <;> first | exact noO | exact fun h => no (Option.some.inj h) | exact fun _ M => ⟨.machine, .inr (.inl rfl), Looks.of_pure rfl⟩
theorem keep_ok (ok : CxOk y tb nm b₀ D U c) {f : Value} {σ : St} (h : WPkeep y tb c f σ) : ∀ s, Rep y c σ s → KeepAt f s.heap := by
  intro s R
  unfold WPkeep at h
  induction e1 : mach f using Option.casesOn with
  | some q =>
    rw [e1] at h
    induction q using Bool.casesOn with
    | false => exact h.out s R
    | true => exact mach_keep e1
  | none =>
    rw [e1] at h
    induction e2 : asRef f using Option.casesOn with
    | none => rw [e2] at h; exact h.out s R
    | some a =>
      rw [e2] at h
      obtain rfl := asRef_eq e2
      induction e3 : tb.kf.contains a using Bool.casesOn with
      | false => simp only [e3] at h; exact h.out s R
      | true => exact ok.keep _ (List.contains_iff_mem.mp e3) _ R.F.keep
theorem with_ok (ok : CxOk y tb nm b₀ D U c) {F : Expr → St → (Value → St → Prop) → Prop} (hf : ∀ e σ K, F e σ K → Op y c (eval e c.env) σ K) {f : Value} {first : List Value} {args : List Expr} {kws : List Keyword} {pos : Pos} {σ : St} {K : Value → St → Prop}
    (h1 : args.any isStar = false) (h2 : kws.any (·.arg.isNone) = false) (h : WPargs F args σ fun vs σ2 => WPkw F kws σ2 fun ks σ3 => WPkeep y tb c f σ3 ∧ Op y c (call f (first ++ vs) ks) σ3 K) :
    Op y c (callWith pos f first (backTo pos (starEach args c.env)) (backToKw pos (keywordEach kws c.env))) σ K := by
  refine ⟨fun s R => callWith_of (P := KeepAt f) (by rw [stars_plain h1, kws_none h2]; rfl) (fun h k => k _) ?_⟩
  induction args using List.casesOn with
  | nil =>
    refine evalArgs_kw2_nil (kws_some h2) (wpAny_mono ((kw_ok hf h).run s R) (fun ks s3 ⟨σ3, R3, k, h3⟩ => ⟨keep_ok ok k s3 R3, h3.run s3 R3⟩) fun _ _ x => x)
  | cons e r =>
    have h1' := h1
    rw [List.any_cons, Bool.or_eq_false_iff] at h1'
    refine evalArgs_kw2 (kws_some h2) (wpAny_mono ((args_ok hf h1 h).run s R) (fun vs s2 ⟨σ2, R2, h2'⟩ => ?_) fun _ _ x => x) (star_cons h1'.1)
    exact wpAny_mono ((kw_ok hf h2').run s2 R2) (fun ks s3 ⟨σ3, R3, k, h3⟩ => ⟨keep_ok ok k s3 R3, h3.run s3 R3⟩) fun _ _ x => x
noncomputable def BaseAs (name : Str) (env : Env) (o : Expr) : Prop := attributeBase o name env (eval o env) = eval o env
theorem base_as (name : Str) (env : Env) (o : Expr) : okBase o = true → BaseAs name env o := by
  induction o using Expr.casesOn <;> first | exact no | exact fun _ => rfl
noncomputable def MethAs (name : Str) (ap pos : Pos) (args : List Expr) (env : Env) (o : Expr) : Prop := eval (.Call (.Attribute o name ap) args [] pos) env = (do
      let ov ← attributeBase o name env (eval o env)
      standAt ap.atName
      methodCall o name ap pos env ov (args.length + ([] : List Keyword).length) (backTo pos (starEach args env)) (backToKw pos (keywordEach [] env)))
theorem meth_as {name : Str} {ap pos : Pos} {args : List Expr} {env : Env} {o : Expr} : okBase o = true → MethAs name ap pos args env o := by
  induction o using Expr.casesOn <;> first | exact no | exact fun _ => rfl
theorem eval_meth {o : Expr} {name : Str} {ap pos : Pos} {args : List Expr} {env : Env} (h0 : okBase o = true) (h1 : args.any isStar = false) (h2 : args.length < 30) (h3 : (ap.endLine == pos.line) = true) :
    ∃ pl, eval (.Call (.Attribute o name ap) args [] pos) env = (do
      let ov ← eval o env
      standAt ap.atName
      let (f, first) ← holding [ov] (getMethod ov name pl)
      callWith pos f first (backTo pos (starEach args env)) []) := by
  refine ⟨do return (← importBound o env).getD true, ?_⟩
  have few : methodCallForm (args.length + ([] : List Keyword).length) (backTo pos (starEach args env)) (backToKw pos (keywordEach [] env)) = true := by
    unfold methodCallForm
    have e1 : (backTo pos (starEach args env)).all (fun x => !x.1) = true := by
      have := stars_plain (env := env) (pos := pos) h1
      rw [List.any_eq_false] at this
      rw [List.all_eq_true]
      intro x hx
      have := this x hx
      cases hx1 : x.1
      · rfl
      · exact absurd hx1 this
    rw [e1]
    show (true && true && decide (args.length + 0 + 0 < 30)) = true
    simpa using h2
  have base : attributeBase o name env (eval o env) = eval o env :=
    base_as _ _ _ h0
  have e : eval (.Call (.Attribute o name ap) args [] pos) env = (do
      let ov ← attributeBase o name env (eval o env)
      standAt ap.atName
      methodCall o name ap pos env ov (args.length + ([] : List Keyword).length) (backTo pos (starEach args env)) (backToKw pos (keywordEach [] env))) :=
    meth_as h0
  rw [e, base]
  unfold methodCall
  rw [few]
  unfold calleeOf methodCallPos
  rw [h3]
  rfl
theorem one_eq {α : Type} {l : List α} {a : α} (h : one? l = some a) : l = [a] := by
  match l, h with
  | [b], h => cases h; rfl
noncomputable def AttrAs (e : Expr) (q : Expr × Str × Pos) : Prop := e = .Attribute q.1 q.2.1 q.2.2
theorem attr_eq {e o : Expr} {n : Str} {p : Pos} : attr? e = some (o, n, p) → AttrAs e (o, n, p) := by
  induction e using Expr.casesOn <;> first | exact noO | exact fun h => Option.some.inj h ▸ rfl
noncomputable def CmpAs (e : Expr) (q : Expr × CmpOp × Expr) : Prop := ∃ p, e = .Compare q.1 [q.2.1] [q.2.2] p
theorem cmp_as {l : Expr} {ops : List CmpOp} {rs : List Expr} {p : Pos} {q : Expr × CmpOp × Expr} (h : (match one? ops, one? rs with | some op, some r => some (l, op, r) | _, _ => none) = some q) : CmpAs (.Compare l ops rs p) q := by
  induction e1 : one? ops using Option.casesOn with
  | none => rw [e1] at h; exact noO h
  | some a =>
    induction e2 : one? rs using Option.casesOn with
    | none => rw [e1, e2] at h; exact noO h
    | some b =>
      rw [e1, e2] at h
      rw [one_eq e1, one_eq e2]
      exact Option.some.inj h ▸ ⟨p, rfl⟩
theorem cmp_eq {e : Expr} {q : Expr × CmpOp × Expr} : cmp? e = some q → CmpAs e q := by
  induction e using Expr.casesOn with
  | Compare l' ops rs p =>
    exact cmp_as
  | _ => exact noO
noncomputable def NameAs (e : Expr) : Prop := ∃ x p, e = .Name x p
theorem name_eq {e : Expr} : isName e = true → NameAs e := by
  induction e using Expr.casesOn <;> first | exact no | exact fun _ => ⟨_, _, rfl⟩
theorem k_ok {k : Const} {a : Nat} {p : Pos} {σ : St} {K : Value → St → Prop} (h : WPk y c k (.Constant k a p) σ K) : Op y c (eval (.Constant k a p) c.env) σ K := by
  cases k <;> first
    | exact ⟨fun s R => wpAny_Constant_int ⟨σ, R.toks, h _⟩⟩
    | exact ⟨fun s R => Constant_str ⟨σ, R.toks, h _⟩⟩
    | exact ⟨fun s R => wpAny_Constant_none ⟨σ, R, h⟩⟩
    | exact ⟨fun s R => wpAny_Constant_bool ⟨σ, R, h⟩⟩
    | exact h
section
variable {F : Expr → St → (Value → St → Prop) → Prop} (hF : ∀ e σ K, F e σ K → Op y c (eval e c.env) σ K) {σ : St} {K : Value → St → Prop}
include hF
theorem then_ok {e : Expr} {f : Value → Sem Value} (h : F e σ fun v σ1 => Op y c (f v) σ1 K) : ∀ s, Rep y c σ s → wpAny (model y.P y.w) c.A (eval e c.env) (fun v s1 => wpAny (model y.P y.w) c.A (f v) (fun v s' => ∃ σ', Rep y c σ' s' ∧ K v σ') (fun _ _ => False) s1) (fun _ _ => False) s :=
  fun s R => wpAny_mono ((hF e σ _ h).run s R) (fun _ s1 ⟨_, R1, h1⟩ => h1.run s1 R1) fun _ _ x => x
theorem two_ok {e1 e2 : Expr} {f : Value → Value → Sem Value} (h : F e1 σ fun a σ1 => F e2 σ1 fun b σ2 => Op y c (f a b) σ2 K) :
    ∀ s, Rep y c σ s → wpAny (model y.P y.w) c.A (eval e1 c.env) (fun a s1 => wpAny (model y.P y.w) c.A (eval e2 c.env) (fun b s2 => wpAny (model y.P y.w) c.A (f a b) (fun v s' => ∃ σ', Rep y c σ' s' ∧ K v σ') (fun _ _ => False) s2) (fun _ _ => False) s1) (fun _ _ => False) s :=
  fun s R => wpAny_mono ((hF e1 σ _ h).run s R) (fun _ s1 ⟨_, R1, h1⟩ => then_ok hF h1 s1 R1) fun _ _ x => x
theorem cmpE_ok {l : Expr} {ops : List CmpOp} {rs : List Expr} {p : Pos} (h : match one? ops with
      | none => Op y c (eval (.Compare l ops rs p) c.env) σ K
      | some op => (match one? rs with
        | none => Op y c (eval (.Compare l ops rs p) c.env) σ K
        | some r => if behindInMarks op r then Op y c (eval (.Compare l ops rs p) c.env) σ K else F l σ fun a σ1 => F r σ1 fun b σ2 => WPc y c op a b σ2 K)) : Op y c (eval (.Compare l ops rs p) c.env) σ K := by
  induction e1 : one? ops using Option.casesOn with
  | none => rw [e1] at h; exact h
  | some op =>
    induction e2 : one? rs using Option.casesOn with
    | none => rw [e1, e2] at h; exact h
    | some r =>
      rw [e1, e2] at h
      dsimp only at h
      obtain rfl := one_eq e1
      obtain rfl := one_eq e2
      induction e3 : behindInMarks op r using Bool.casesOn with
      | true => rw [e3, if_pos rfl] at h; exact h
      | false =>
        rw [e3, if_neg (by decide)] at h
        exact ⟨fun s R => wpAny_Compare1 (wpAny_mono ((hF _ _ _ h).run s R) (fun a s1 ⟨σ1, R1, h1⟩ => wpAny_mono ((hF _ _ _ h1).run s1 R1) (fun b s2 ⟨σ2, R2, h2⟩ => (c_ok h2).run s2 R2) fun _ _ x => x) fun _ _ x => x) e3⟩
theorem attrE_ok {o : Expr} {a : Str} {p : Pos} (h : if isName o then F o σ fun o σ1 => Op y c (getAttr o a true) σ1 K else Op y c (eval (.Attribute o a p) c.env) σ K) : Op y c (eval (.Attribute o a p) c.env) σ K := by
  induction e1 : isName o using Bool.casesOn with
  | false => rw [e1, if_neg (by decide)] at h; exact h
  | true =>
    rw [e1, if_pos rfl] at h
    obtain ⟨x, q, rfl⟩ := name_eq e1
    exact ⟨fun s R => Attribute_Name_ (then_ok hF h s R)⟩
theorem callE_ok (ok : CxOk y tb nm b₀ D U c) {f : Expr} {args : List Expr} {kws : List Keyword} {pos : Pos} (h : match attr? f with
      | some (o, name, ap) =>
        if okBase o && !args.any isStar && kws.isEmpty && decide (args.length < 30) && ap.endLine == pos.line then
          F o σ fun ov σ1 => ∀ pl, Op y c (getMethod ov name pl) σ1 fun fx σ2 => WPargs F args σ2 fun vs σ3 => WPkeep y tb c fx.1 σ3 ∧ Op y c (call fx.1 (fx.2 ++ vs)) σ3 K
        else Op y c (eval (.Call f args kws pos) c.env) σ K
      | none =>
        if !isName f || args.any isStar || kws.any (·.arg.isNone) then Op y c (eval (.Call f args kws pos) c.env) σ K
        else F f σ fun fv σ1 => WPargs F args σ1 fun vs σ2 => WPkw F kws σ2 fun ks σ3 => WPkeep y tb c fv σ3 ∧ Op y c (call fv vs ks) σ3 K) : Op y c (eval (.Call f args kws pos) c.env) σ K := by
  induction e1 : attr? f using Option.casesOn with
  | some q =>
    obtain ⟨o, name, ap⟩ := q
    rw [e1] at h
    dsimp only at h
    obtain rfl := attr_eq e1
    induction hc : (okBase o && !args.any isStar && kws.isEmpty && decide (args.length < 30) && ap.endLine == pos.line) using Bool.casesOn with
    | false => rw [hc, if_neg (by decide)] at h; exact h
    | true =>
      rw [hc, if_pos rfl] at h
      simp only [Bool.and_eq_true, Bool.not_eq_true', decide_eq_true_eq] at hc
      obtain ⟨⟨⟨⟨c1, c2⟩, c3⟩, c4⟩, c5⟩ := hc
      obtain rfl : kws = [] := List.isEmpty_iff.mp c3
      obtain ⟨pl, e⟩ := eval_meth (name := name) (env := c.env) c1 c2 c4 c5
      refine ⟨fun s R => ?_⟩
      rw [e]
      refine wpAny_bind (wpAny_mono ((hF _ _ _ h).run s R) (fun ov s1 ⟨σ1, R1, h1⟩ => wpAny_bind (wpAny_standAt (wpAny_bind (wpAny_holding (wpAny_mono ((h1 pl).run s1 R1) (fun fx s2 ⟨σ2, R2, h2⟩ => ?_) fun _ _ x => x))))) fun _ _ x => x)
      exact (with_ok ok hF (kws := []) (f := fx.1) (first := fx.2) c2 rfl h2).run s2 R2
  | none =>
    rw [e1] at h
    dsimp only at h
    induction hc : (!isName f || args.any isStar || kws.any (·.arg.isNone)) using Bool.casesOn with
    | true => rw [hc, if_pos rfl] at h; exact h
    | false =>
      rw [hc, if_neg (by decide)] at h
      rw [Bool.or_eq_false_iff, Bool.or_eq_false_iff] at hc
      obtain ⟨⟨c1, c2⟩, c3⟩ := hc
      obtain ⟨x, q, rfl⟩ := name_eq (e := f) (by simpa using c1)
      refine ⟨fun s R => ?_⟩
      rw [show eval (.Call (.Name x q) args kws pos) c.env = (do callWith pos (← eval (.Name x q) c.env) [] (backTo pos (starEach args c.env)) (backToKw pos (keywordEach kws c.env))) from rfl]
      refine wpAny_bind (wpAny_mono ((hF _ _ _ h).run s R) (fun fv s1 ⟨σ1, R1, h1⟩ => ?_) fun _ _ x => x)
      exact (with_ok ok hF (f := fv) (first := []) c2 c3 h1).run s1 R1
theorem listE_ok {es : List Expr} {p : Pos} (h : if es.any isStar then Op y c (eval (.List es p) c.env) σ K else WPargs F es σ fun vs σ1 => Op y c (newList vs) σ1 K) : Op y c (eval (.List es p) c.env) σ K := by
  induction e1 : es.any isStar using Bool.casesOn with
  | true => rw [e1, if_pos rfl] at h; exact h
  | false =>
    rw [e1, if_neg (by decide)] at h
    exact ⟨fun s R => List_ (wpAny_mono ((args_ok hF e1 h).run s R) (fun vs s1 ⟨σ1, R1, h1⟩ => h1.run s1 R1) fun _ _ x => x)⟩
theorem tupE_ok {es : List Expr} {k : Nat} {p : Pos} (h : if es.any isStar then Op y c (eval (.Tuple es k p) c.env) σ K else WPargs F es σ fun vs σ1 => Op y c (newTuple vs) σ1 K) : Op y c (eval (.Tuple es k p) c.env) σ K := by
  induction e1 : es.any isStar using Bool.casesOn with
  | true => rw [e1, if_pos rfl] at h; exact h
  | false =>
    rw [e1, if_neg (by decide)] at h
    exact ⟨fun s R => Tuple_ (wpAny_mono ((args_ok hF e1 h).run s R) (fun vs s1 ⟨σ1, R1, h1⟩ => h1.run s1 R1) fun _ _ x => x)⟩
end
theorem bin_ok (ok : CxOk y tb nm b₀ D U c) {F : Expr → St → (Value → St → Prop) → Prop} (hF : ∀ e σ K, F e σ K → Op y c (eval e c.env) σ K) {l r : Expr} {op : Operator} {p : Pos} {σ : St} {K : Value → St → Prop} (h : F l σ fun a σ1 => F r σ1 fun b σ2 => WPb y c op a b σ2 K) : Op y c (eval (.BinOp l op r p) c.env) σ K :=
  ⟨fun s R => wpAny_BinOp (wpAny_mono ((hF _ _ _ h).run s R) (fun a s1 ⟨σ1, R1, h1⟩ => wpAny_mono ((hF _ _ _ h1).run s1 R1) (fun b s2 ⟨σ2, R2, h2⟩ => (b_ok h2).run s2 R2) fun _ _ x => x) fun _ _ x => x)⟩
theorem e_ok (ok : CxOk y tb nm b₀ D U c) : ∀ n e σ K, WPe y tb nm c n e σ K → Op y c (eval e c.env) σ K := by
  intro n
  induction n with
  | zero => exact fun e σ K h => h
  | succ n ih =>
    intro e σ K
    induction e using Expr.casesOn with
    | Name x p => exact fun h => name_ok ok h
    | Constant k a p => exact fun h => k_ok h
    | BinOp l op r p => exact fun h => bin_ok ok ih h
    | Compare l ops rs p => exact fun h => cmpE_ok ih h
    | Attribute o a p => exact fun h => attrE_ok ih h
    | Subscript v sl p => exact fun h => ⟨fun s R => Subscript_ (two_ok ih h s R)⟩
    | List es p => exact fun h => listE_ok ih h
    | Tuple es k p => exact fun h => tupE_ok ih h
    | Call f args kws pos => exact fun h => callE_ok ih ok h
    | _ => exact id
noncomputable def TrueAs (env : Env) (e : Expr) : Prop := isTrue e env (eval e env) = (do let v ← eval e env; standAt e.pos; holding [v] (truthy v))
theorem true_as {env : Env} {e : Expr} : isNameAttr e = true → TrueAs env e := by
  induction e using Expr.casesOn <;> first | exact no | exact fun _ => rfl
theorem t_ok (ok : CxOk y tb nm b₀ D U c) {n : Nat} {e : Expr} {σ : St} {K : Bool → St → Prop} (h : WPt y tb nm c n e σ K) : Op y c (isTrue e c.env (eval e c.env)) σ K := by
  have ih := e_ok ok n
  unfold WPt at h
  induction e1 : cmp? e using Option.casesOn with
  | some q =>
    obtain ⟨l, op, r⟩ := q
    rw [e1] at h
    dsimp only at h
    induction e3 : behindInMarks op r using Bool.casesOn with
    | true => rw [e3, if_pos rfl] at h; exact h
    | false =>
      rw [e3, if_neg (by decide)] at h
      obtain ⟨p, rfl⟩ := cmp_eq e1
      refine ⟨fun s R => wpAny_isTrue_Compare1 (wpAny_mono ((ih _ _ _ h).run s R) (fun a s1 ⟨σ1, R1, h1⟩ => ?_) fun _ _ x => x) e3⟩
      refine wpAny_mono ((ih _ _ _ h1).run s1 R1) (fun b s2 ⟨σ2, R2, h2⟩ => ?_) fun _ _ x => x
      exact wpAny_mono ((c_ok h2).run s2 R2) (fun v s3 ⟨σ3, R3, h3⟩ => (tr_ok h3).run s3 R3) fun _ _ x => x
  | none =>
    rw [e1] at h
    dsimp only at h
    induction e3 : isNameAttr e using Bool.casesOn with
    | false => rw [e3, if_neg (by decide)] at h; exact h
    | true =>
      rw [e3, if_pos rfl] at h
      exact ⟨fun s R => isTrue_plain (wpAny_mono ((ih _ _ _ h).run s R) (fun v s3 ⟨σ3, R3, h3⟩ => (tr_ok h3).run s3 R3) fun _ _ x => x) (true_as e3)⟩
theorem ss_ok {F : Stmt → St → (Flow → St → Prop) → Prop} (hf : ∀ st σ K, F st σ K → Op y c (exec st c.env) σ K) : ∀ {ss : List Stmt} {σ : St} {K : Flow → St → Prop}, WPss F ss K σ → Op y c (execs ss c.env) σ K
  | [], σ, K, h => ⟨fun s R => wpAny_execs_nil ⟨σ, R, h⟩⟩
  | st :: r, σ, K, h => by
    refine ⟨fun s R => wpAny_execs_cons (wpAny_mono ((hf st σ _ h).run s R) (fun fl s1 ⟨σ1, R1, h1⟩ => ?_) fun _ _ x => x)⟩
    induction fl using Flow.casesOn with
    | next => exact (ss_ok hf h1).run s1 R1
    | cont => exact ⟨σ1, R1, h1⟩
    | brk => exact ⟨σ1, R1, h1⟩
    | ret v => exact ⟨σ1, R1, h1⟩
noncomputable def SwapAs (o : Option Expr) (l : Nat) (env : Env) (e : Expr) : Prop := swapsWith e o l env = pure false
theorem swap_plain {e : Expr} {o : Option Expr} {l : Nat} {env : Env} : plainVal e = true → SwapAs o l env e := by
  induction e using Expr.casesOn <;> first | exact fun _ => rfl | exact no
theorem setC_adr (x : Str) (v : Value) : ∀ (cs : List (Str × Addr × Option Value)), (setC cs x v).map (·.2.1) = cs.map (·.2.1)
  | [] => rfl
  | (k, a, u) :: r => by
    unfold setC
    by_cases e : x = k
    · rw [if_pos e]; rfl
    · rw [if_neg e, List.map_cons, List.map_cons, setC_adr x v r]
theorem addrC_mem {x : Str} {a : Addr} : ∀ {cs : List (Str × Addr × Option Value)}, addrC cs x = some a → ∃ u, (x, a, u) ∈ cs
  | (k, b, u) :: r, h => by
    unfold addrC at h
    by_cases e : x = k
    · rw [if_pos e] at h; cases h; subst e; exact ⟨u, .head _⟩
    · rw [if_neg e] at h
      obtain ⟨u', h'⟩ := addrC_mem h
      exact ⟨u', .tail _ h'⟩
theorem setC_mem {x : Str} {v : Value} {a : Addr} : ∀ {cs : List (Str × Addr × Option Value)}, addrC cs x = some a → (cs.map (·.2.1)).Nodup → ∀ q ∈ setC cs x v, q = (x, a, some v) ∨ (q ∈ cs ∧ q.2.1 ≠ a)
  | (k, b, u) :: r, h, nd, q, hq => by
    rw [List.map_cons, List.nodup_cons] at nd
    unfold addrC at h
    unfold setC at hq
    by_cases e : x = k
    · rw [if_pos e] at h hq
      cases h; subst e
      rcases List.mem_cons.mp hq with rfl | hq
      · exact .inl rfl
      · exact .inr ⟨.tail _ hq, fun e => nd.1 (show a ∈ r.map (·.2.1) from (show q.2.1 = a from e) ▸ List.mem_map_of_mem (f := (·.2.1)) hq)⟩
    · rw [if_neg e] at h hq
      rcases List.mem_cons.mp hq with rfl | hq
      · obtain ⟨u', h'⟩ := addrC_mem h
        exact .inr ⟨.head _, fun e => nd.1 (show b ∈ r.map (·.2.1) from (show b = a from e) ▸ List.mem_map_of_mem (f := (·.2.1)) h')⟩
      · exact (setC_mem h nd.2 q hq).imp id fun ⟨h1, h2⟩ => ⟨.tail _ h1, h2⟩
theorem Rep.setCell {s : Shared} {σ : St} {x : Str} {a : Addr} {v : Value} {h' : Heap} (R : Rep y c σ s) (ha : addrC σ.cs x = some a) (hv : h'.IsCell a (some v)) (hs : Heap.SameBut a s.heap h') : Rep y c ⟨σ.fs, σ.led, setC σ.cs x v⟩ { s with heap := h' } := by
  obtain ⟨u, hu⟩ := addrC_mem ha
  have CA := R.C _ hu
  have n := R.n
  unfold adrs at n
  have n0 := n
  rw [List.nodup_append] at n
  refine ⟨R.d, R.o, R.G, ⟨R.m, ⟨R.F.ns.sameBut hs (Ne.symm CA.neL), fun b o e => (hs.2 b (fun q => ?_)).trans (R.F.keep b o e), R.F.above⟩, R.cov⟩, fun p hp => ⟨(hs.2 p.1 fun q => ?_).trans (R.N p hp).1, (R.N p hp).2⟩, fun q hq => ?_, ?_⟩
  · rw [q, CA.new] at e; cases e
  · exact n.2.2 _ (List.mem_map_of_mem hu) _ (List.mem_map_of_mem hp) q.symm
  · rcases setC_mem ha n.1 q hq with rfl | ⟨h1, h2⟩
    · obtain ⟨o', ho', hd'⟩ := hv
      exact ⟨CA.look, ⟨o', ho', hd'⟩, CA.neL, CA.new⟩
    · have C := R.C q h1
      obtain ⟨o, e1, e2⟩ := C.at_
      exact ⟨C.look, ⟨o, (hs.2 _ h2).trans e1, e2⟩, C.neL, C.new⟩
  · show (adrs (setC σ.cs x v) (σ.led ++ c.hid)).Nodup
    unfold adrs
    rw [setC_adr]
    exact n0
theorem st_ok (ok : CxOk y tb nm b₀ D U c) {x : Str} {v : Value} {σ : St} {K : St → Prop} (h : WPst y nm c x v σ K) : Op y c (storeName c.env x v) σ fun _ σ1 => K σ1 := by
  unfold WPst at h
  obtain ⟨fs, led, cs⟩ := σ
  induction e1 : nm.lookup x using Option.casesOn with
  | none => rw [e1] at h; exact h
  | some k =>
    rw [e1] at h
    cases k with
    | «local» => exact ⟨fun s R => wpAny_storeName_local ((ok.kindOf x).trans e1) R.F.ns (fun h' hn hs => ⟨_, R.set hn hs, h⟩) ok.cls⟩
    | cell =>
      dsimp only at h
      induction e2 : addrC cs x using Option.casesOn with
      | none => rw [e2] at h; exact h
      | some a =>
        rw [e2] at h
        refine ⟨fun s R => ?_⟩
        obtain ⟨u, hu⟩ := addrC_mem e2
        exact wpAny_storeName_cell ok.kind ((ok.kindOf x).trans e1) (R.C _ hu).look (R.C _ hu).at_ fun h' hv hs => ⟨_, R.setCell e2 hv hs, h⟩
    | _ => exact h
noncomputable def TgtAs (ts : List Expr) : Tgt → Prop
    | .name x p => ts = [.Name x p]
    | .attr o a p => ts = [.Attribute o a p]
    | .item o i p => ts = [.Subscript o i p]
    | .other => True
theorem tgt_one (e : Expr) : TgtAs [e] (tgt [e]) := by
  induction e using Expr.casesOn <;> first | exact rfl | exact trivial
theorem tgt_eq {ts : List Expr} : TgtAs ts (tgt ts) :=
  match ts with
  | [] => trivial
  | [e] => tgt_one e
  | _ :: _ :: _ => trivial
noncomputable def IterAs (env : Env) (e : Expr) : Prop := ∀ x : Value, foldedSetIterable e env x = pure x
theorem iter_plain {e : Expr} {env : Env} : plainIter e = true → IterAs env e := by
  induction e using Expr.casesOn <;> first | exact no | exact fun _ _ => rfl
theorem aug_name {x : Str} {px p : Pos} {op : Operator} {e : Expr} {old : Value} {σ : St} {K : Flow → St → Prop} (ok : CxOk y tb nm b₀ D U c) (hx : nm.lookup x = some .local) (hg : getF σ.fs x = some old)
    (h : WPe y tb nm c 20 e σ fun v σ2 => Op y c (inplaceOp op old v) σ2 fun r σ3 => WPst y nm c x r σ3 (K .next)) : Op y c (exec (.AugAssign (.Name x px) op e p) c.env) σ K :=
  ⟨fun s R => wpAny_AugAssign_Name (wpAny_loadName_local ok.kind ((ok.kindOf x).trans hx) R.F.ns (R.cov _ _ hg) (wpAny_mono ((e_ok ok 20 _ _ _ h).run s R) (fun v s1 ⟨σ1, R1, h1⟩ => wpAny_mono (h1.run s1 R1) (fun r s2 ⟨σ2, R2, h2⟩ =>
    (st_ok ok h2).run s2 R2) fun _ _ x => x) fun _ _ x => x))⟩
theorem aug_attr {o : Expr} {a : Str} {pa p : Pos} {op : Operator} {e : Expr} {σ : St} {K : Flow → St → Prop} (ok : CxOk y tb nm b₀ D U c)
    (h : WPe y tb nm c 20 o σ fun ov σ1 => Op y c (getAttr ov a true) σ1 fun old σ2 => WPe y tb nm c 20 e σ2 fun v σ3 => Op y c (inplaceOp op old v) σ3 fun r σ4 => Op y c (setAttr ov a r) σ4 fun _ σ5 => K .next σ5) :
    Op y c (exec (.AugAssign (.Attribute o a pa) op e p) c.env) σ K :=
  have ie := e_ok ok 20
  ⟨fun s R => wpAny_AugAssign_AttributeAny (wpAny_mono ((ie _ _ _ h).run s R) (fun v s1 ⟨σ1, R1, h1⟩ => wpAny_mono (h1.run s1 R1) (fun r s2 ⟨σ2, R2, h2⟩ => wpAny_mono ((ie _ _ _ h2).run s2 R2) (fun v s3 ⟨σ3, R3, h3⟩ =>
    wpAny_mono (h3.run s3 R3) (fun r s4 ⟨σ4, R4, h4⟩ => wpAny_mono (h4.run s4 R4) (fun _ _ x => x) fun _ _ x => x) fun _ _ x => x) fun _ _ x => x) fun _ _ x => x) fun _ _ x => x)⟩
theorem asg_ok (ok : CxOk y tb nm b₀ D U c) {ts : List Expr} {e : Expr} {p : Pos} {σ : St} {K : Flow → St → Prop} (h : if plainVal e then (match tgt ts with
      | .name x _ => WPe y tb nm c 20 e σ fun v σ1 => WPst y nm c x v σ1 (K .next)
      | .attr o a _ => WPe y tb nm c 20 e σ fun v σ1 => WPe y tb nm c 20 o σ1 fun ov σ2 => Op y c (setAttr ov a v) σ2 fun _ σ3 => K .next σ3
      | .item o i _ => WPe y tb nm c 20 e σ fun v σ1 => WPe y tb nm c 20 o σ1 fun ov σ2 => WPe y tb nm c 20 i σ2 fun iv σ3 => Op y c (setItem ov iv v) σ3 fun _ σ4 => K .next σ4
      | .other => Op y c (exec (.Assign ts e p) c.env) σ K) else Op y c (exec (.Assign ts e p) c.env) σ K) : Op y c (exec (.Assign ts e p) c.env) σ K := by
  induction hc : plainVal e using Bool.casesOn with
  | false => rw [hc, if_neg (by decide)] at h; exact h
  | true =>
    rw [hc, if_pos rfl] at h
    have ht := tgt_eq (ts := ts)
    have ie := e_ok ok 20
    induction e1 : tgt ts using Tgt.casesOn with
    | other => rw [e1] at h; exact h
    | name x xp =>
      rw [e1] at h ht
      rw [show ts = _ from ht]
      exact ⟨fun s R => wpAny_Assign_Name (wpAny_mono ((ie _ _ _ h).run s R) (fun v s1 ⟨σ1, R1, h1⟩ => (st_ok ok h1).run s1 R1) fun _ _ x => x) (swap_plain hc)⟩
    | attr o a xp =>
      rw [e1] at h ht
      rw [show ts = _ from ht]
      exact ⟨fun s R => plainObj_wpAny_Assign_Attribute (wpAny_mono ((ie _ _ _ h).run s R) (fun v s1 ⟨σ1, R1, h1⟩ => wpAny_mono ((ie _ _ _ h1).run s1 R1) (fun ov s2 ⟨σ2, R2, h2⟩ => h2.run s2 R2) fun _ _ x => x) fun _ _ x => x) (swap_plain hc)⟩
    | item o i xp =>
      rw [e1] at h ht
      rw [show ts = _ from ht]
      exact ⟨fun s R => wpAny_Assign_Subscript (wpAny_mono ((ie _ _ _ h).run s R) (fun v s1 ⟨σ1, R1, h1⟩ => wpAny_mono ((ie _ _ _ h1).run s1 R1) (fun ov s2 ⟨σ2, R2, h2⟩ => wpAny_mono ((ie _ _ _ h2).run s2 R2) (fun iv s3 ⟨σ3, R3, h3⟩ => h3.run s3 R3) fun _ _ x => x) fun _ _ x => x) fun _ _ x => x) (swap_plain hc)⟩
theorem aug_loc (ok : CxOk y tb nm b₀ D U c) {x : Str} {px p : Pos} {op : Operator} {e : Expr} {σ : St} {K : Flow → St → Prop} (hx : nm.lookup x = some .local)
    (h : match getF σ.fs x with
          | some old => WPe y tb nm c 20 e σ fun v σ2 => Op y c (inplaceOp op old v) σ2 fun r σ3 => WPst y nm c x r σ3 (K .next)
          | none => Op y c (exec (.AugAssign (.Name x px) op e p) c.env) σ K) : Op y c (exec (.AugAssign (.Name x px) op e p) c.env) σ K := by
  induction e3 : getF σ.fs x using Option.casesOn with
  | none => rw [e3] at h; exact h
  | some old => rw [e3] at h; exact aug_name ok hx e3 h
theorem aug_nm (ok : CxOk y tb nm b₀ D U c) {x : Str} {px p : Pos} {op : Operator} {e : Expr} {σ : St} {K : Flow → St → Prop}
    (h : match road (nm.lookup x) with
        | .loc => (match getF σ.fs x with
          | some old => WPe y tb nm c 20 e σ fun v σ2 => Op y c (inplaceOp op old v) σ2 fun r σ3 => WPst y nm c x r σ3 (K .next)
          | none => Op y c (exec (.AugAssign (.Name x px) op e p) c.env) σ K)
        | _ => Op y c (exec (.AugAssign (.Name x px) op e p) c.env) σ K) : Op y c (exec (.AugAssign (.Name x px) op e p) c.env) σ K := by
  induction e2 : nm.lookup x using Option.casesOn with
  | none => rw [e2] at h; exact h
  | some k =>
    rw [e2] at h
    induction k using NameKind.casesOn with
    | «local» => exact aug_loc ok e2 h
    | _ => exact h
theorem aug_ok (ok : CxOk y tb nm b₀ D U c) {t e : Expr} {op : Operator} {p : Pos} {σ : St} {K : Flow → St → Prop} (h : match tgt [t] with
      | .name x _ => (match road (nm.lookup x) with
        | .loc => (match getF σ.fs x with
          | some old => WPe y tb nm c 20 e σ fun v σ2 => Op y c (inplaceOp op old v) σ2 fun r σ3 => WPst y nm c x r σ3 (K .next)
          | none => Op y c (exec (.AugAssign t op e p) c.env) σ K)
        | _ => Op y c (exec (.AugAssign t op e p) c.env) σ K)
      | .attr o a _ => WPe y tb nm c 20 o σ fun ov σ1 => Op y c (getAttr ov a true) σ1 fun old σ2 => WPe y tb nm c 20 e σ2 fun v σ3 => Op y c (inplaceOp op old v) σ3 fun r σ4 => Op y c (setAttr ov a r) σ4 fun _ σ5 => K .next σ5
      | _ => Op y c (exec (.AugAssign t op e p) c.env) σ K) : Op y c (exec (.AugAssign t op e p) c.env) σ K := by
  have ht := tgt_one t
  induction e1 : tgt [t] using Tgt.casesOn with
  | other => rw [e1] at h; exact h
  | item o i xp => rw [e1] at h; exact h
  | name x xp =>
    rw [e1] at h ht
    rw [List.head_eq_of_cons_eq (show [t] = [_] from ht)]
    rw [List.head_eq_of_cons_eq (show [t] = [_] from ht)] at h
    exact aug_nm ok h
  | attr o a xp =>
    rw [e1] at h ht
    rw [List.head_eq_of_cons_eq (show [t] = [_] from ht)]
    exact aug_attr ok h
theorem for_ok (ok : CxOk y tb nm b₀ D U c) {t e : Expr} {b o : List Stmt} {p : Pos} {σ : St} {K : Flow → St → Prop} (h : if o.isEmpty && plainIter e then WPe y tb nm c 20 e σ fun xv σ1 => OpFor y c t b xv σ1 K else Op y c (exec (.For t e b o p) c.env) σ K) : Op y c (exec (.For t e b o p) c.env) σ K := by
  induction hc : (o.isEmpty && plainIter e) using Bool.casesOn with
  | false => rw [hc, if_neg (by decide)] at h; exact h
  | true =>
    rw [hc, if_pos rfl] at h
    rw [Bool.and_eq_true] at hc
    rw [List.isEmpty_iff.mp hc.1]
    exact ⟨fun s R => wpAny_For (wpAny_mono ((e_ok ok 20 _ _ _ h).run s R) (fun xv s1 ⟨σ1, R1, h1⟩ => h1.run s1 R1) fun _ _ x => x) (iter_plain hc.2)⟩
theorem ex_ok (ok : CxOk y tb nm b₀ D U c) {e : Expr} {p : Pos} {σ : St} {K : Flow → St → Prop} (h : if plainVal e then WPe y tb nm c 20 e σ fun _ σ1 => K .next σ1 else Op y c (exec (.Expr e p) c.env) σ K) : Op y c (exec (.Expr e p) c.env) σ K := by
  induction hc : plainVal e using Bool.casesOn with
  | false => rw [hc, if_neg (by decide)] at h; exact h
  | true =>
    rw [hc, if_pos rfl] at h
    have hi : interactive c.env = false := by unfold interactive; rw [ok.kind]; rfl
    exact ⟨fun s R => wpAny_Expr_any (wpAny_mono ((e_ok ok 20 _ _ _ h).run s R) (fun v s1 ⟨σ1, R1, h1⟩ => ⟨σ1, R1, h1⟩) fun _ _ x => x) hi (swap_plain hc)⟩
theorem ret_ok (ok : CxOk y tb nm b₀ D U c) {e : Expr} {p : Pos} {σ : St} {K : Flow → St → Prop} (h : WPe y tb nm c 20 e σ fun v σ1 => K (.ret v) σ1) : Op y c (exec (.Return (some e) p) c.env) σ K :=
  ⟨fun s R => wpAny_Return_some (wpAny_mono ((e_ok ok 20 _ _ _ h).run s R) (fun v s1 ⟨σ1, R1, h1⟩ => ⟨σ1, R1, h1⟩) fun _ _ x => x)⟩
theorem if_ok (ok : CxOk y tb nm b₀ D U c) {F : Stmt → St → (Flow → St → Prop) → Prop} (hf : ∀ st σ K, F st σ K → Op y c (exec st c.env) σ K) {t : Expr} {b o : List Stmt} {p : Pos} {σ : St} {K : Flow → St → Prop} (h : WPt y tb nm c 20 t σ fun q σ1 => IfK q (WPss F b K σ1) (WPss F o K σ1)) : Op y c (exec (.If t b o p) c.env) σ K := by
  refine ⟨fun s R => wpAny_If (wpAny_mono ((t_ok ok h).run s R) (fun q s1 ⟨σ1, R1, hi⟩ => ?_) fun _ _ x => x)⟩
  induction q using Bool.casesOn with
  | true => rw [if_pos rfl]; exact (ss_ok hf (hi.t rfl)).run s1 R1
  | false => rw [if_neg (by decide)]; exact (ss_ok hf (hi.f rfl)).run s1 R1
theorem s_ok (ok : CxOk y tb nm b₀ D U c) : ∀ n st σ K, WPs y tb nm c n st σ K → Op y c (exec st c.env) σ K := by
  intro n
  induction n with
  | zero => exact fun st σ K h => h
  | succ n ih =>
    intro st σ K
    induction st using Stmt.casesOn with
    | Assign ts e p => exact fun h => asg_ok ok h
    | AugAssign t op e p => exact fun h => aug_ok ok h
    | For t e b o p => exact fun h => for_ok ok h
    | Continue p => exact fun h => ⟨fun s R => wpAny_Continue ⟨σ, R, h⟩⟩
    | Pass p => exact fun h => ⟨fun s R => wpAny_Pass ⟨σ, R, h⟩⟩
    | Expr e p => exact fun h => ex_ok ok h
    | Return e p =>
      induction e using Option.casesOn with
      | none => exact id
      | some e => exact fun h => ret_ok ok h
    | If t b o p => exact fun h => if_ok ok ih h
    | _ => exact id
end
end MineV
end

section
namespace MineV
open PySem PySem.W PyProof.Rows PySem.Calls PySem.Spec
noncomputable def Kept (tl : Led) (h h' : Heap) : Prop := ∀ b o, b ∉ tl.map (·.1) → h.get? b = some o → h'.get? b = some o
structure Amb (b₀ : Heap) (tl : Led) (fr : List Env) (s : Shared) : Prop where
  frames : s.heap.FunFrames b₀ fr
  off : ∀ env ∈ fr, ∀ p ∈ tl, env.frame ≠ some p.1
  stays : b₀.StaysIn s.heap
  cells : ∀ p ∈ tl, s.heap.get? p.1 = some p.2 ∧ b₀.get? p.1 = none
noncomputable def Fresh (b₀ : Heap) (tl tl' : Led) (h h' : Heap) : Prop :=
  ∀ p ∈ tl', h'.get? p.1 = some p.2 ∧ b₀.get? p.1 = none ∧ (p.1 ∈ tl.map (·.1) ∨ h.get? p.1 = none)
noncomputable def FC (y : Gl) (b₀ : Heap) (D U : Nat) (f : Value) (args : Args) (tl : Led) (S : (Value → Led → Prop) → Prop) : Prop :=
  ∀ (dp un : Nat) (gd : Option (List Code)) (fr : List Env) (s : Shared) (k : Value → Led → Prop) (R : Result → Shared → Prop), Amb b₀ tl fr s → ND tl → y.G s.gens → dp + D < recursionLimit → un + U < cLine → S k →
    (∀ v tl' s', k v tl' → ND tl' → s'.drawn = s.drawn → s'.os = s.os → y.G s'.gens → Kept tl s.heap s'.heap → Fresh b₀ tl tl' s.heap s'.heap → R (.ok (.ret v)) s') →
    codeAny (model y.P y.w) (AR dp un gd fr) (.call f args) R s
inductive EndI (k : Value → Led → Prop) (v : Value) (led : Led) : Prop
  | mk (led' rest : Led) (h : led.Perm (led' ++ rest)) (hk : k v led')
noncomputable def EndK (k : Value → Led → Prop) (fl : Flow) (σ : St) : Prop :=
  match fl with
  | .ret v => EndI k v σ.led
  | .next => EndI k .none σ.led
  | _ => False
theorem hidden_none {l : List Addr} {h : Heap} {b : Addr} (e : (hideAll h l).get? b = none) : b ∈ l ∨ h.get? b = none := by
  by_cases hb : b ∈ l
  · exact .inl hb
  · cases q : h.get? b with
    | none => exact .inr rfl
    | some o => rw [hideAll_get l q hb] at e; cases e
theorem getF_lookup {z : Str} {v : Value} : ∀ {l : List (Str × Value)}, getF l z = some v → l.lookup z = some v
  | (k, u) :: r, h => by
    unfold getF at h
    rw [List.lookup_cons]
    by_cases e : z = k
    · rw [if_pos e] at h; rw [beq_iff_eq.mpr e]; exact h
    · rw [if_neg e] at h; rw [beq_eq_false_iff_ne.mpr e]; exact getF_lookup h
noncomputable def glOk (K : Frag) (tb : Tab) : Bool :=
  (tb.gl.all fun q => (nsIn K mainGlobals q.1 == some (some q.2)) || (nsIn K mainGlobals q.1 == some none && (bootBuiltins q.1 == some q.2) && q.1 != "__name__")) && tb.kf.all fun a => keepIn K (.ref a)
section
variable {y : Gl} {b₀ : Heap} {D U : Nat} {tl : Led} {S : (Value → Led → Prop) → Prop} {K : Frag} {p : Program} {loose : List Str} {mean : ExcName → Option Value} {mg mb : Str → Option Value} {tb : Tab}
theorem getF_mem {x : Str} {v : Value} : ∀ {fs : List (Str × Value)}, getF fs x = some v → (x, v) ∈ fs
  | (k, u) :: r, h => by
    unfold getF at h
    by_cases e : x = k
    · rw [if_pos e] at h; cases h; subst e; exact .head _
    · rw [if_neg e] at h; exact .tail _ (getF_mem h)
theorem look_ok (ht : glOk K tb = true) {x : Str} {v : Value} {pos : Pos} {s : Shared} {g : Heap} {L : Addr} {m : Str → Option Value} {A : Around} {env : Env} {E : Value → Shared → Prop} {Q : Value → Shared → Prop} (hv : getF tb.gl x = some v) (X : K.In g) (T : Top p loose mean mg mb g)
    (F : Fr g L s.heap m) (hg : env.globals = mainGlobals) (hb : env.builtins = builtinsNs) (hk : env.scope.kind = .function) (hx : env.kindOf x = some .globalImplicit) (hd : (x == ("__debug__" : Str)) = false) (h : Q v s) :
    wpAny (model y.P y.w) A (eval (.Name x pos) env) Q E s := by
  unfold glOk at ht
  rw [Bool.and_eq_true, List.all_eq_true] at ht
  have h1 := ht.1 _ (getF_mem hv)
  rw [Bool.or_eq_true, Bool.and_eq_true, Bool.and_eq_true, beq_iff_eq, beq_iff_eq, beq_iff_eq, bne_iff_ne] at h1
  rcases h1 with h1 | ⟨⟨h1, h2⟩, h3⟩
  · exact nameG_K F X (topRead_of T) h1 h hg hk hx hd
  · exact Name_function_global hk hx (loadGlobal_builtin (env := env) (by rw [hg]; exact (topRead_of T).g.keeps F.keep) (mg_none_of X (topRead_of T).g h1) (by rw [hb]; exact (topRead_of T).b.keeps F.keep) (((topRead_of T).builtins x h3).trans h2) h) hd
theorem keeps_ok (ht : glOk K tb = true) {a : Nat} (ha : a ∈ tb.kf) {h : Heap} (X : K.In h) : KeepAt (.ref a) h := by
  unfold glOk at ht
  rw [Bool.and_eq_true, List.all_eq_true, List.all_eq_true] at ht
  intro M
  obtain ⟨k, hk, L⟩ := looks_keep (M := M) (ht.2 a ha) X
  exact ⟨k, hk.elim .inl fun e => .inr (.inl e), L⟩
theorem rep_off {c : Cx} {σ : St} {s : Shared} (R : Rep y c σ s) : ND σ.led ∧ ND (σ.led ++ c.hid) := by
  have n := R.n
  unfold adrs at n
  rw [List.nodup_append] at n
  have n2 : ND (σ.led ++ c.hid) := n.2.1
  exact ⟨(ND.app.mp n2).1, n2⟩
theorem amb_def {A₀ : Around} {fr : List Env} {c : Cx} {σ : St} {s : Shared} (B : Below A₀ b₀ fr c.g) (hf : c.env.frame = some c.env.locals) (hk : c.env.scope.kind = .function) (hc : c.fr = c.env :: fr) (R : Rep y c σ s) :
    s.heap.FunFrames b₀ c.fr ∧ ∀ env ∈ c.fr, ∀ p ∈ σ.led, env.frame ≠ some p.1 := by
  rw [hc]
  refine ⟨(pushX B R.F hf hk).frames, fun env' he q hq hf' => ?_⟩
  have nq := R.N q (List.mem_append_left _ hq)
  cases he with
  | head => exact nq.2.1 (Option.some.inj (hf'.symm.trans hf))
  | tail _ he =>
    obtain ⟨L₁, o₁, hf₁, ho₁⟩ := funFrames_in B.frames env' he
    rw [hf₁] at hf'
    have e : L₁ = q.1 := Option.some.inj hf'
    have := nq.2.2; rw [← e, ho₁] at this; cases this
variable {name qual : Str} {params : Arguments} {body : List Stmt} {scope : Scope} {cl : List (Str × Addr)} {dV kV doc pm cdv ct oc : Value} {an od : Option Addr} {osl : Array (Option Value)} {f : Addr} {args : Args} {binds : List (Str × Value)}
theorem end_ok {c : Cx} {s s' : Shared} {σ' : St} {k : Value → Led → Prop} {fl : Flow} {R : Result → Shared → Prop} (hg : c.g = hideAll s.heap (tl.map (·.1))) (h0 : c.s0 = s) (st : b₀.StaysIn (hideAll s.heap (tl.map (·.1)))) (hk' : EndK k fl σ') (R' : Rep y c σ' s')
    (hR : ∀ v tl' s', k v tl' → ND tl' → s'.drawn = s.drawn → s'.os = s.os → y.G s'.gens → Kept tl s.heap s'.heap → Fresh b₀ tl tl' s.heap s'.heap → R (.ok (.ret v)) s') : R (.ok (.ret (match fl with | .ret v => v | _ => .none))) s' := by
  have fin : ∀ v, EndI k v σ'.led → R (.ok (.ret v)) s' := by
    rintro v ⟨led', rest, hp, hk'⟩
    have sub : ∀ q ∈ led', q ∈ σ'.led := fun q hq => hp.mem_iff.mpr (List.mem_append_left _ hq)
    have N' : News c.g c.env.locals s'.heap led' := fun q hq => R'.N q (List.mem_append_left _ (sub q hq))
    have kept : Kept tl s.heap s'.heap := fun b o hb e => R'.F.keep b o (by rw [hg]; exact hideAll_get _ e hb)
    have bnone : ∀ q ∈ led', b₀.get? q.1 = none := fun q hq => by
      cases z : b₀.get? q.1 with
      | none => rfl
      | some o => have := (N' q hq).2.2; rw [hg, st _ _ z] at this; cases this
    have fresh : Fresh b₀ tl led' s.heap s'.heap := fun q hq => ⟨(N' q hq).1, bnone q hq, hidden_none (by rw [← hg]; exact (N' q hq).2.2)⟩
    exact hR v _ _ hk' (ND.app.mp (ND.perm hp (rep_off R').1)).1 (R'.d.trans (by rw [h0])) (R'.o.trans (by rw [h0])) R'.G kept fresh
  cases fl with
  | ret v => exact fin v hk'
  | next => exact fin _ hk'
  | cont => exact hk'.elim
  | brk => exact hk'.elim
theorem enterV (X : K.In b₀) (T : Top p loose mean mg mb b₀) (ht : glOk K tb = true)
    (ho : K.lookup f = some ⟨oc, od, .func (fnX name qual params body scope cl dV kV doc pm an cdv ct), osl⟩) (hcd : codeIn K cdv qual = true)
    (hbind : ∀ s : Shared, K.In s.heap → BindsTo s (fnX name qual params body scope cl dV kV doc pm an cdv ct) args binds) (hloc : ∀ y ∈ binds, scope.names.lookup y.1 = some .local)
    (h : ∀ k c, S k → CxOk y tb scope.names b₀ D U c → c.env.cells = cl → WPss (WPs y tb scope.names c 30) body (EndK k) ⟨binds.reverse, tl, []⟩)
    (hcell : ∀ x ∈ scope.names, x.2 ≠ .cell) (hco : scope.isCoroutine = false) (hgen : scope.isGenerator = false) (hk : scope.kind = .function)
    (hdb : scope.names.lookup ("__debug__" : Str) = none) (hcl : scope.names.lookup ("__classdict__" : Str) = none) :
    FC y b₀ (D + 1) (U + 3) (.ref f) args tl S := by
  intro dp un gd fr s k R M nd G hd hu hS hR
  have st : b₀.StaysIn (hideAll s.heap (tl.map (·.1))) := fun b o e => hideAll_get _ (M.stays b o e) fun q => by
    obtain ⟨x, hx, rfl⟩ := List.mem_map.mp q
    rw [(M.cells x hx).2] at e; cases e
  have B : Below (AR dp un gd fr) b₀ fr (hideAll s.heap (tl.map (·.1))) := ⟨rfl, st, funFrames_hideAll M.frames fun env he a ha => by
    obtain ⟨x, hx, rfl⟩ := List.mem_map.mp ha
    exact M.off env he x hx⟩
  have XS : K.In s.heap := X.keeps M.stays
  have Xg : K.In (hideAll s.heap (tl.map (·.1))) := X.keeps fun b o e => st b o e
  have Tg := T.keeps fun b o e => st b o e
  refine codeAny_call_def (fd := fnX name qual params body scope cl dV kV doc pm an cdv ct) (body := body) (binds := binds) (show dp < recursionLimit by k_extra "o") (XS _ _ ho) rfl (T.nolimit.keeps M.stays) (codeRec_of XS hcd) rfl (hbind s XS) hcell hloc (fun h₁ hns hk₁ => ?_) hco hgen hk
  let c : Cx := ⟨dp + 1, un + 3, gd, envX qual scope s.heap.objs.size f cdv cl :: fr, envX qual scope s.heap.objs.size f cdv cl, hideAll s.heap (tl.map (·.1)), s, []⟩
  have ok : CxOk y tb scope.names b₀ D U c := ⟨by show dp + 1 + D < _; k_extra "o", by show un + 3 + U < _; k_extra "o", fun σ s R => amb_def B rfl hk rfl R, st, rfl, hk, rfl, rfl, hdb, hcl,
    fun env x v pos s' L m A Q hg hb hk hx hd hv F' q => look_ok (y := y) ht hv Xg Tg F' hg hb hk hx hd q, fun a ha h' kp => keeps_ok ht ha (Xg.keeps kp)⟩
  have F : ∃ m, Fr c.g c.env.locals h₁ m ∧ ∀ x v, getF binds.reverse x = some v → m x = some v := ⟨_, ⟨hns, fun b o e => hk₁ b o (of_hideAll _ e), Nat.le_of_eq (hideAll_size _ _)⟩, fun x v e => getF_lookup e⟩
  have N : News c.g c.env.locals h₁ tl := fun q hq => ⟨hk₁ _ _ (M.cells q hq).1, Nat.ne_of_lt (Heap.lt_size (M.cells q hq).1), hideAll_none _ (List.mem_map_of_mem hq)⟩
  have rep : Rep y c ⟨binds.reverse, tl, []⟩ { s with heap := h₁, toks := s.toks + binds.length } := ⟨rfl, rfl, G, F, by rw [show c.hid = [] from rfl, List.append_nil]; exact N, fun _ hq => (nomatch hq), by
    unfold adrs
    rw [show c.hid = [] from rfl, List.append_nil]
    exact nd⟩
  refine wpAny_mono ((ss_ok (s_ok ok 30) (h k c hS ok rfl)).run _ rep) (fun fl s' hl => ?_) fun _ _ y => y.elim
  obtain ⟨σ', R', hk'⟩ := hl
  exact end_ok rfl rfl st hk' R' hR
inductive Pick (p : Addr × Obj) : Led → Led → Prop
  | here {r : Led} : Pick p (p :: r) r
  | there {q : Addr × Obj} {r r' : Led} : Pick p r r' → Pick p (q :: r) (q :: r')
inductive Pk : Led → Led → Led → Prop
  | nil {r : Led} : Pk [] r r
  | cons {p : Addr × Obj} {tl r r' r'' : Led} : Pick p r r' → Pk tl r' r'' → Pk (p :: tl) r r''
theorem Pick.perm {p : Addr × Obj} : ∀ {r r' : Led}, Pick p r r' → r.Perm (p :: r')
  | _, _, .here => .refl _
  | _, _, .there h => (List.Perm.cons _ h.perm).trans (.swap ..)
theorem Pk.perm : ∀ {tl r r' : Led}, Pk tl r r' → r.Perm (tl ++ r')
  | _, _, _, .nil => .refl _
  | _, _, _, .cons h k => h.perm.trans (.cons _ k.perm)
theorem Rep.move {c : Cx} {σ : St} {s s' : Shared} {tl rest tl' : Led} (R : Rep y c σ s) (hp : σ.led.Perm (tl ++ rest)) (d : s'.drawn = s.drawn) (o : s'.os = s.os) (G : y.G s'.gens) (nt : ND tl')
    (k : ∀ b o, b ∉ tl.map (·.1) → s.heap.get? b = some o → s'.heap.get? b = some o) (fr : ∀ p ∈ tl', s'.heap.get? p.1 = some p.2 ∧ (p.1 ∈ tl.map (·.1) ∨ s.heap.get? p.1 = none)) : Rep y c ⟨σ.fs, tl' ++ rest, σ.cs⟩ s' := by
  have hm : ∀ q ∈ tl, q ∈ σ.led := fun q hq => hp.mem_iff.mpr (List.mem_append_left _ hq)
  have hr : ∀ q ∈ rest, q ∈ σ.led := fun q hq => hp.mem_iff.mpr (List.mem_append_right _ hq)
  have n := R.n
  unfold adrs at n
  rw [List.nodup_append, List.map_append] at n
  obtain ⟨n1, n2, n3⟩ := n
  rw [← List.map_append] at n2
  have n4 := ND.app.mp (show ND (σ.led ++ c.hid) from n2)
  have n5 := ND.app.mp (ND.perm hp n4.1)
  have notin : ∀ {b : Addr}, (∀ q ∈ tl, q.1 ≠ b) → b ∉ tl.map (·.1) := fun h z => by
    obtain ⟨q, hq, e⟩ := List.mem_map.mp z
    exact h q hq e
  have old : ∀ b o, c.g.get? b = some o → s'.heap.get? b = some o := fun b o e => k b o (notin fun q hq z => by
    have := (R.N q (List.mem_append_left _ (hm q hq))).2.2
    rw [z, e] at this; cases this) (R.F.keep b o e)
  have hL : ∀ o, s.heap.get? c.env.locals = some o → s'.heap.get? c.env.locals = some o := fun o e => k _ o (notin fun q hq z => (R.N q (List.mem_append_left _ (hm q hq))).2.1 z) e
  have stay : ∀ q ∈ rest ++ c.hid, s'.heap.get? q.1 = some q.2 := fun q hq => by
    have hq' : q ∈ σ.led ++ c.hid := (List.mem_append.mp hq).elim (fun h => List.mem_append_left _ (hr q h)) (List.mem_append_right _)
    refine k _ _ (notin fun x hx z => ?_) (R.N q hq').1
    rcases List.mem_append.mp hq with hq | hq
    · exact n5.2.2 x hx q hq z
    · exact n4.2.2 x (hm x hx) q hq z
  have cs : ∀ q ∈ σ.cs, CellAt c.g c.env.locals c.env s'.heap q := fun q hq => by
    have C := R.C q hq
    obtain ⟨oc, e1, e2⟩ := C.at_
    exact ⟨C.look, ⟨oc, k _ _ (notin fun x hx z => n3 _ (List.mem_map_of_mem hq) x.1 (List.mem_append_left _ (List.mem_map_of_mem (hm x hx))) z.symm) e1, e2⟩, C.neL, C.new⟩
  have fresh : ∀ p ∈ tl', (∃ q ∈ tl, q.1 = p.1) ∨ s.heap.get? p.1 = none := fun p hp => (fr p hp).2.imp (fun h => let ⟨q, hq, e⟩ := List.mem_map.mp h; ⟨q, hq, e⟩) id
  refine ⟨d.trans R.d, o.trans R.o, G, ⟨R.m, ⟨R.F.ns.at hL, old, R.F.above⟩, R.cov⟩, fun p hp => ?_, cs, ?_⟩
  · rw [List.append_assoc] at hp
    rcases List.mem_append.mp hp with hp | hp
    · rcases fresh p hp with ⟨q, hq, e⟩ | e
      · have z := R.N q (List.mem_append_left _ (hm q hq))
        exact ⟨(fr p hp).1, e ▸ z.2.1, e ▸ z.2.2⟩
      · refine ⟨(fr p hp).1, fun z => ?_, ?_⟩
        · obtain ⟨oL, es, ep, e1, _⟩ := R.F.ns
          rw [z, e1] at e; cases e
        · cases z : c.g.get? p.1 with
          | none => rfl
          | some o => rw [R.F.keep _ _ z] at e; cases e
    · have hp' : p ∈ σ.led ++ c.hid := (List.mem_append.mp hp).elim (fun h => List.mem_append_left _ (hr p h)) (List.mem_append_right _)
      exact ⟨stay p hp, (R.N p hp').2⟩
  · show (adrs σ.cs (tl' ++ rest ++ c.hid)).Nodup
    unfold adrs
    have nall : ND (tl' ++ rest ++ c.hid) := by
      rw [List.append_assoc]
      refine ND.app.mpr ⟨nt, ND.app.mpr ⟨n5.2.1, n4.2.1, fun p hp q hq => n4.2.2 p (hr p hp) q hq⟩, fun p hp q hq e => ?_⟩
      have hq' : q ∈ σ.led ++ c.hid := (List.mem_append.mp hq).elim (fun h => List.mem_append_left _ (hr q h)) (List.mem_append_right _)
      rcases fresh p hp with ⟨x, hx, e2⟩ | e2
      · rcases List.mem_append.mp hq with hq | hq
        · exact n5.2.2 x hx q hq (e2.trans e)
        · exact n4.2.2 x (hm x hx) q hq (e2.trans e)
      · rw [e, (R.N q hq').1] at e2; cases e2
    rw [List.nodup_append]
    refine ⟨n1, nall, fun a ha b hb e => ?_⟩
    subst e
    obtain ⟨q, hq, rfl⟩ := List.mem_map.mp ha
    obtain ⟨p, hp, e⟩ := List.mem_map.mp hb
    rw [List.append_assoc] at hp
    rcases List.mem_append.mp hp with hp | hp
    · rcases fresh p hp with ⟨x, hx, e2⟩ | e2
      · exact n3 _ (List.mem_map_of_mem hq) x.1 (List.mem_append_left _ (List.mem_map_of_mem (hm x hx))) (e2.trans e).symm
      · obtain ⟨oc, e3, _⟩ := (R.C q hq).at_
        rw [e, e3] at e2; cases e2
    · have hp' : p.1 ∈ σ.led.map (·.1) ++ c.hid.map (·.1) := (List.mem_append.mp hp).elim (fun h => List.mem_append_left _ (List.mem_map_of_mem (hr p h))) (fun h => List.mem_append_right _ (List.mem_map_of_mem h))
      exact n3 _ (List.mem_map_of_mem hq) p.1 hp' e.symm
theorem call_at {nm : List (Str × NameKind)} {D' U' : Nat} {c : Cx} {σ : St} {vs : List Value} {kw : List (Str × Value)} {f : Value} {tl rest : Led} {Q : Result → Shared → Prop} {s : Shared} {A : Around} {dp un : Nat} (ok : CxOk y tb nm b₀ D' U' c) (H : FC y b₀ D U f ⟨vs, kw⟩ tl S) (hA : A = AR dp un c.gd c.fr)
    (hd : dp + D < recursionLimit) (hu : un + U < cLine) (hp : Pk tl σ.led rest) (R : Rep y c σ s) (k : Value → Led → Prop) (hS : S k) (h : ∀ v tl' s', k v tl' → Rep y c ⟨σ.fs, tl' ++ rest, σ.cs⟩ s' → Q (.ok (.ret v)) s') :
    codeAny (model y.P y.w) A (.call f ⟨vs, kw⟩) Q s := by
  subst hA
  have hm : ∀ q ∈ tl, q ∈ σ.led := fun q hq => hp.perm.mem_iff.mpr (List.mem_append_left _ hq)
  have nd := (ND.app.mp (ND.perm hp.perm (rep_off R).1)).1
  have am := ok.amb _ _ R
  refine H dp un c.gd c.fr s k Q ⟨am.1, fun env' he q hq => am.2 env' he q (hm q hq), fun b o e => R.F.keep b o (ok.st b o e), fun q hq => ⟨(R.N q (List.mem_append_left _ (hm q hq))).1, ?_⟩⟩ nd R.G hd hu hS fun v tl' s' hk n' d o G kept fresh => ?_
  · cases z : b₀.get? q.1 with
    | none => rfl
    | some o => have := (R.N q (List.mem_append_left _ (hm q hq))).2.2; rw [ok.st _ _ z] at this; cases this
  · exact h v tl' s' hk (R.move hp.perm d o G n' kept fun p hp => ⟨(fresh p hp).1, (fresh p hp).2.2⟩)
theorem op_call {nm : List (Str × NameKind)} {D' U' : Nat} {c : Cx} {fs : List (Str × Value)} {led : Led} {cs : List (Str × Addr × Option Value)} {vs : List Value} {kw : List (Str × Value)} {f : Value} {tl rest : Led} {Kk : Value → St → Prop} (ok : CxOk y tb nm b₀ D' U' c) (H : FC y b₀ D U f ⟨vs, kw⟩ tl S)
    (hd : Nat.ble D D' = true) (hu : Nat.ble U U' = true) (hp : Pk tl led rest) (h : S fun v tl' => Kk v ⟨fs, tl' ++ rest, cs⟩) : Op y c (call f vs kw) ⟨fs, led, cs⟩ Kk := by
  have h1 := Nat.le_of_ble_eq_true hd
  have h2 := Nat.le_of_ble_eq_true hu
  have d := ok.dep
  have u := ok.unt
  exact ⟨fun s R => wpAny_call (call_at ok H rfl (by k_extra "o") (by k_extra "o") hp R _ h fun v tl' s' k R' => ⟨_, R', k⟩)⟩
end
end MineV
end

section
namespace MineV
open PySem PySem.W PyProof.Rows PySem.Calls PySem.Spec
noncomputable def insL {α : Type} (l : List α) (i : Nat) (y : α) : List α := l.take i ++ y :: l.drop i
noncomputable def delL {α : Type} (l : List α) (i : Nat) : List α := l.take i ++ l.drop (i + 1)
section
variable {y : Gl} {c : Cx} {σ : St}
theorem Pick.mem {p : Addr × Obj} {r r' : Led} (h : Pick p r r') : p ∈ r := h.perm.mem_iff.mpr (.head _)
theorem Rep.get {s : Shared} (R : Rep y c σ s) {p : Addr × Obj} (h : p ∈ σ.led) : s.heap.get? p.1 = some p.2 := (R.N p (List.mem_append_left _ h)).1
theorem Rep.isList {s : Shared} (R : Rep y c σ s) {D : Addr} {vs : List Value} {n : Nat} (h : (D, listOf vs.toArray n) ∈ σ.led) : s.heap.IsList D vs.toArray := ⟨_, R.get h, rfl, n, rfl⟩
theorem pick_upd {D : Addr} {o : Obj} (o' : Obj) : ∀ {r r' z : Led}, Pick (D, o) r r' → ND (r ++ z) → ∃ n', Upd D o o' (r ++ z) n' ∧ ∀ p, p ∈ (D, o') :: r' ++ z → p ∈ n'
  | _, _, z, .here (r := r), nd => ⟨(D, o') :: (r ++ z), .head (ND.cons.mp nd).1, fun p hp => hp⟩
  | _, _, z, .there (q := q) (r := r) (r' := r') h, nd => by
    have nd' := ND.cons.mp nd
    obtain ⟨n', U, hm⟩ := pick_upd o' h nd'.2
    refine ⟨q :: n', .tail (Ne.symm (nd'.1 (D, o) (List.mem_append_left _ h.mem))) U, fun p hp => ?_⟩
    have : p = q ∨ p ∈ (D, o') :: r' ++ z := by
      simp only [List.cons_append, List.mem_cons, List.mem_append] at hp ⊢
      rcases hp with h | h | h | h <;> simp [h]
    rcases this with rfl | h
    · exact .head _
    · exact .tail _ (hm p h)
theorem Rep.viaU {s : Shared} (R : Rep y c σ s) {D : Addr} {o : Obj} {rest : Led} (hp : Pick (D, o) σ.led rest) (o' : Obj) : ∃ news news', News c.g c.env.locals s.heap news ∧ Upd D o o' news news' ∧
    ∀ h' tk, Fr c.g c.env.locals h' R.m → News c.g c.env.locals h' news' → Rep y c ⟨σ.fs, (D, o') :: rest, σ.cs⟩ { s with heap := h', toks := tk } := by
  have n := R.n
  unfold adrs at n
  have n0 := n
  rw [List.nodup_append] at n
  obtain ⟨n1, n2, n3⟩ := n
  -- the captured cells as a ledger
  have hc : ∃ cl : Led, cl.map (·.1) = σ.cs.map (·.2.1) ∧ ∀ q ∈ σ.cs, ∃ oc, (q.2.1, oc) ∈ cl ∧ s.heap.get? q.2.1 = some oc ∧ oc.data = .cell q.2.2 := by
    have hC := R.C
    generalize σ.cs = cs at hC
    clear n0 n1 n2 n3 hp
    induction cs with
    | nil => exact ⟨[], rfl, fun _ h => (nomatch h)⟩
    | cons q r ih =>
      obtain ⟨cl, e, h⟩ := ih fun x hx => hC x (.tail _ hx)
      obtain ⟨oc, e1, e2⟩ := (hC q (.head _)).at_
      refine ⟨(q.2.1, oc) :: cl, by rw [List.map_cons, List.map_cons, e], fun x hx => ?_⟩
      rcases List.mem_cons.mp hx with rfl | hx
      · exact ⟨oc, .head _, e1, e2⟩
      · obtain ⟨o2, a, b, d⟩ := h x hx
        exact ⟨o2, .tail _ a, b, d⟩
  obtain ⟨cl, ecl, hcl⟩ := hc
  have ndall : ND (σ.led ++ (c.hid ++ cl)) := by
    unfold ND
    rw [← List.append_assoc, List.map_append, ecl, List.nodup_append]
    exact ⟨n2, n1, fun a ha b hb e => n3 b hb a ha e.symm⟩
  have Ncl : News c.g c.env.locals s.heap (σ.led ++ (c.hid ++ cl)) := fun p hp' => by
    rw [← List.append_assoc] at hp'
    rcases List.mem_append.mp hp' with h | h
    · exact R.N p h
    · have : p.1 ∈ σ.cs.map (·.2.1) := ecl ▸ List.mem_map_of_mem h
      obtain ⟨q, hq, e⟩ := List.mem_map.mp this
      obtain ⟨oc, a, b, d⟩ := hcl q hq
      have hpe : p = (q.2.1, oc) := by
        have nd3 : ND cl := by unfold ND; rw [ecl]; exact n1
        have : ∀ {l : Led}, ND l → p ∈ l → (q.2.1, oc) ∈ l → p = (q.2.1, oc) := by
          intro l
          induction l with
          | nil => intro _ h; cases h
          | cons x r ih =>
            intro nd h1 h2
            have nd' := ND.cons.mp nd
            rcases List.mem_cons.mp h1 with h1 | h1 <;> rcases List.mem_cons.mp h2 with h2 | h2
            · rw [h1, h2]
            · exact absurd (show (q.2.1, oc).1 = x.1 by rw [← h1]; exact e) (nd'.1 _ h2)
            · exact absurd (show p.1 = x.1 by rw [← h2]; exact e.symm) (nd'.1 _ h1)
            · exact ih nd'.2 h1 h2
        exact this nd3 h a
      subst hpe
      exact ⟨b, (R.C q hq).neL, (R.C q hq).new⟩
  obtain ⟨n', U, hm⟩ := pick_upd o' hp ndall
  refine ⟨_, n', Ncl, U, fun h' tk F' N' => ⟨R.d, R.o, R.G, ⟨R.m, F', R.cov⟩, fun p hp' => N' p (hm p ?_), fun q hq => ?_, ?_⟩⟩
  · rcases List.mem_append.mp hp' with h | h
    · exact List.mem_append_left _ h
    · exact List.mem_append_right _ (List.mem_append_left _ h)
  · obtain ⟨oc, a, b, d⟩ := hcl q hq
    exact ⟨(R.C q hq).look, ⟨oc, (N' _ (hm _ (List.mem_append_right _ (List.mem_append_right _ a)))).1, d⟩, (R.C q hq).neL, (R.C q hq).new⟩
  · have pm : (adrs σ.cs (σ.led ++ c.hid)).Perm (adrs σ.cs ((D, o') :: rest ++ c.hid)) := by
      unfold adrs
      refine List.Perm.append_left _ ?_
      rw [List.map_append, List.map_append]
      refine List.Perm.append_right _ ?_
      exact (hp.perm.map (·.1)).trans (.refl _)
    exact pm.nodup_iff.mp R.n
theorem Rep.fresh {s : Shared} (R : Rep y c σ s) (o : Obj) (hf : o.isFreed = false) : Rep y c ⟨σ.fs, (s.heap.objs.size, o) :: σ.led, σ.cs⟩ { s with heap := s.heap.push o } := by
  have z := R.move (tl := []) (rest := σ.led) (tl' := [(s.heap.objs.size, o)]) (s' := { s with heap := s.heap.push o }) (.refl _) rfl rfl R.G (ND.cons.mpr ⟨fun _ h => (nomatch h), ND.nil⟩) (fun b o' _ e => Heap.get?_push_of_some _ e) fun p hp => by
    rw [List.mem_singleton.mp hp]
    exact ⟨Heap.get?_push_size _ hf, .inr (by
      cases e : s.heap.get? s.heap.objs.size with
      | none => rfl
      | some o' => exact absurd (Heap.lt_size e) (Nat.lt_irrefl _))⟩
  exact z
theorem op_len_str {x : Str} {t : Tok} {K : Value → St → Prop} (hx : x.length ≤ 1000) (h : ∀ t, K (.int x.length t) σ) : Op y c (call (.builtin "len") [.str x t]) σ K :=
  ⟨fun s R => P.len_str (by k_extra "o") ⟨σ, R.toks, h _⟩⟩
theorem op_len {D : Addr} {vs : List Value} {n : Nat} {K : Value → St → Prop} (hm : (D, listOf vs.toArray n) ∈ σ.led) (hl : vs.length ≤ 1000) (h : ∀ t, K (.int vs.length t) σ) : Op y c (call (.builtin "len") [.ref D]) σ K :=
  ⟨fun s R => len_list (R.isList hm) (by rw [List.size_toArray]; k_extra "o") ⟨σ, R.toks, by rw [List.size_toArray]; exact h _⟩⟩
theorem op_item {value slice : Expr} {D : Addr} {vs : List Value} {n i : Nat} {k : Int} {u : Tok} {v : Value} {K : Value → St → Prop} (hm : (D, listOf vs.toArray n) ∈ σ.led) (hk : k = i) (hv : vs[i]? = some v) (hl : vs.length ≤ 1000) (h : K v σ)
    (hs : ∀ k u, subscripted slice false (.ref D) (.int k u) = operate [.ref D, .int k u] (getItem (.ref D) (.int k u))) (hg : ∀ r, letTemporaryGo value (.ref D) r = pure ()) : Op y c (subscriptTail value slice (.ref D) (.int k u)) σ K := by
  subst hk
  have hi : i < vs.length := by
    rcases Nat.lt_or_ge i vs.length with h | h
    · exact h
    · rw [List.getElem?_eq_none h] at hv; cases hv
  exact ⟨fun s R => item_list (R.isList hm) (by k_extra "o") (by k_extra "o") (by simpa using hv) ⟨σ, R, h⟩ (hs _ _) hg⟩
theorem op_append {fs : List (Str × Value)} {led : Led} {cs : List (Str × Addr × Option Value)} {D : Addr} {vs : List Value} {n : Nat} {x : Value} {rest : Led} {K : Value → St → Prop} (hp : Pick (D, listOf vs.toArray n) led rest) (hl : vs.length ≤ 1000) (h : K .none ⟨fs, (D, listOf (vs ++ [x]).toArray (n + 1)) :: rest, cs⟩) :
    Op y c (call (.builtin "list.append") [.ref D, x]) ⟨fs, led, cs⟩ K := ⟨fun s R => by
  obtain ⟨news, news', N, U, k⟩ := R.viaU hp (listOf (vs ++ [x]).toArray (n + 1))
  exact append_K (its := vs.toArray) R.F N (by simpa using U) (fun h' F' N' => ⟨_, k h' s.toks F' N', h⟩) (by simp; exact Nat.le_trans hl (by decide))⟩
theorem fits_nat {i : Nat} (h : i ≤ 1000) : Builtin.List.listFitsIndex (i : Int) = true := by
  unfold Builtin.List.listFitsIndex
  simp only [Bool.and_eq_true, decide_eq_true_eq]; k_extra "o"
theorem op_insert {fs : List (Str × Value)} {led : Led} {cs : List (Str × Addr × Option Value)} {D : Addr} {vs : List Value} {n i : Nat} {k : Int} {u : Tok} {x : Value} {rest : Led} {K : Value → St → Prop} (hp : Pick (D, listOf vs.toArray n) led rest) (hk : k = i) (hi : i ≤ vs.length) (hl : vs.length ≤ 1000)
    (h : K .none ⟨fs, (D, listOf (insL vs i x).toArray (n + 1)) :: rest, cs⟩) : Op y c (call (.builtin "list.insert") [.ref D, .int k u, x]) ⟨fs, led, cs⟩ K := by
  subst hk
  refine ⟨fun s R => ?_⟩
  obtain ⟨news, news', N, U, kk⟩ := R.viaU hp (listOf (insL vs i x).toArray (n + 1))
  refine kl_insert R.F N (fits_nat (by k_extra "o")) ?_ U (by simp; exact Nat.le_trans hl (by decide)) fun h' F' N' => ⟨_, kk h' s.toks F' N', h⟩
  unfold kl_ins insL
  rw [if_neg (by k_extra "o"), Int.toNat_natCast]
  simp [Nat.min_eq_left hi]
theorem cut_N : ∀ (vs : List Value) (i : Nat) (y : Value), vs[i]? = some y → kl_cut vs i = some (vs.take i, y, vs.drop (i + 1)) := by
  intro vs
  induction vs with
  | nil => intro i y e; cases e
  | cons v r ih => intro i y e; cases i with
    | zero => cases e; rfl
    | succ i =>
      have := ih i y (by simpa using e)
      simp [kl_cut, this]
theorem op_popAt {fs : List (Str × Value)} {led : Led} {cs : List (Str × Addr × Option Value)} {D : Addr} {vs : List Value} {n i : Nat} {k : Int} {u : Tok} {x : Value} {rest : Led} {K : Value → St → Prop} (hp : Pick (D, listOf vs.toArray n) led rest) (hk : k = i) (hx : vs[i]? = some x) (hl : vs.length ≤ 1000)
    (h : K x ⟨fs, (D, listOf (delL vs i).toArray (n + 1)) :: rest, cs⟩) : Op y c (call (.builtin "list.pop") [.ref D, .int k u]) ⟨fs, led, cs⟩ K := by
  subst hk
  have hi : i < vs.length := by
    rcases Nat.lt_or_ge i vs.length with h | h
    · exact h
    · rw [List.getElem?_eq_none h] at hx; cases hx
  refine ⟨fun s R => ?_⟩
  obtain ⟨news, news', N, U, kk⟩ := R.viaU hp (listOf (delL vs i).toArray (n + 1))
  refine kl_popAt (its := vs.toArray) R.F N (fits_nat (by k_extra "o")) (k := i) ?_ (by simpa using cut_N vs i x hx) U (by simp; exact Nat.le_trans hl (by decide)) fun h' F' N' => ⟨_, kk h' s.toks F' N', h⟩
  unfold seqIndex?
  simp; k_extra "o"
theorem op_newList {fs : List (Str × Value)} {led : Led} {cs : List (Str × Addr × Option Value)} {vs : List Value} {K : Value → St → Prop} (hl : vs.length ≤ 1000) (h : ∀ D, K (.ref D) ⟨fs, (D, listOf vs.toArray 0) :: led, cs⟩) : Op y c (newList vs) ⟨fs, led, cs⟩ K :=
  ⟨fun s R => wpAny_newObj_type ⟨_, R.fresh _ rfl, h _⟩ (show vs.toArray.size ≤ sizeLine by simpa using Nat.le_trans hl (by decide))⟩
theorem op_method {D : Addr} {its : Array Value} {n : Nat} {name : Str} {id : String} {pl : Sem Bool} {K : Value × List Value → St → Prop} (hm : (D, listOf its n) ∈ σ.led) (hs : Slot "list" name id) (ht : typeOf (.builtin id) = pure (.type "method_descriptor")) (h : K (.builtin id, [.ref D]) σ) :
    Op y c (getMethod (.ref D) name pl) σ K := ⟨fun s R => kl_method (fun p hp => R.N p (List.mem_append_left _ hp)) hm hs ht ⟨σ, R, h⟩⟩
end
end MineV
end

section
namespace MineV
open PySem PySem.W PyProof.Rows PySem.Calls PySem.Spec
noncomputable def takeAt : Nat → Led → Option ((Addr × Obj) × Led)
  | _, [] => none
  | 0, a :: r => some (a, r)
  | n + 1, a :: r => match takeAt n r with
    | some (p, r') => some (p, a :: r')
    | none => none
noncomputable def takes : List Nat → Led → Option (Led × Led)
  | [], r => some ([], r)
  | i :: is, r => match takeAt i r with
    | some (p, r') => (match takes is r' with
      | some (tl, r'') => some (p :: tl, r'')
      | none => none)
    | none => none
theorem Pick.of {p : Addr × Obj} : ∀ {i : Nat} {r r' : Led}, takeAt i r = some (p, r') → Pick p r r'
  | 0, a :: r, r', h => by cases h; exact .here
  | n + 1, a :: r, r', h => by
    unfold takeAt at h
    cases e : takeAt n r with
    | none => rw [e] at h; cases h
    | some q =>
      obtain ⟨q, s⟩ := q
      rw [e] at h
      cases h
      exact .there (Pick.of e)
theorem Pk.of : ∀ {is : List Nat} {tl r r' : Led}, takes is r = some (tl, r') → Pk tl r r'
  | [], tl, r, r', h => by cases h; exact .nil
  | i :: is, tl, r, r', h => by
    unfold takes at h
    cases e : takeAt i r with
    | none => rw [e] at h; cases h
    | some q =>
      obtain ⟨q, s⟩ := q
      rw [e] at h
      dsimp only at h
      cases e2 : takes is s with
      | none => rw [e2] at h; cases h
      | some z =>
        obtain ⟨z1, z2⟩ := z
        rw [e2] at h
        cases h
        exact .cons (Pick.of e) (Pk.of e2)
structure Weak (σ σ' : St) : Prop where
  f : ∀ x v, getF σ'.fs x = some v → getF σ.fs x = some v
  l : ∃ rest, σ.led.Perm (σ'.led ++ rest)
  c : σ.cs = σ'.cs
noncomputable def wants : List (Str × Value) → List (Option Value)
  | [] => []
  | (_, v) :: r => some v :: wants r
noncomputable def gets (fs : List (Str × Value)) : List (Str × Value) → List (Option Value)
  | [] => []
  | (k, _) :: r => getF fs k :: gets fs r
theorem getF_of : ∀ {fs' fs : List (Str × Value)}, gets fs fs' = wants fs' → ∀ x v, getF fs' x = some v → getF fs x = some v
  | (k, u) :: r, fs, h, x, v, e => by
    obtain ⟨h1, h2⟩ := List.cons.inj h
    unfold getF at e
    by_cases z : x = k
    · rw [if_pos z] at e; cases e; subst z; exact h1
    · rw [if_neg z] at e; exact getF_of h2 x v e
theorem Weak.of (is : List Nat) {fs fs' : List (Str × Value)} {led led' rest : Led} {cs : List (Str × Addr × Option Value)} (hf : gets fs fs' = wants fs') (hl : takes is led = some (led', rest)) : Weak ⟨fs, led, cs⟩ ⟨fs', led', cs⟩ :=
  ⟨getF_of hf, ⟨rest, (Pk.of hl).perm⟩, rfl⟩
theorem EndI.of (is : List Nat) {k : Value → Led → Prop} {v : Value} {led led' rest : Led} (h : takes is led = some (led', rest)) (hk : k v led') : EndI k v led := ⟨led', rest, (Pk.of h).perm, hk⟩
theorem Weak.at_ (is : List Nat) {fs : List (Str × Value)} {led led' rest : Led} {cs : List (Str × Addr × Option Value)} (hl : takes is led = some (led', rest)) : Weak ⟨fs, led, cs⟩ ⟨fs, led', cs⟩ :=
  ⟨fun _ _ e => e, ⟨rest, (Pk.of hl).perm⟩, rfl⟩
section
variable {y : Gl} {tb : Tab} {nm : List (Str × NameKind)} {b₀ : Heap} {D U : Nat} {c : Cx} {σ σ' : St}
theorem Rep.weak {s : Shared} (w : Weak σ σ') (R : Rep y c σ s) : Rep y c σ' s := by
  obtain ⟨rest, hp⟩ := w.l
  refine ⟨R.d, R.o, R.G, ⟨R.m, R.F, fun x v e => R.cov x v (w.f x v e)⟩, fun p hp' => R.N p ?_, fun q hq => R.C q (w.c ▸ hq), ?_⟩
  · rcases List.mem_append.mp hp' with h | h
    · exact List.mem_append_left _ (hp.mem_iff.mpr (List.mem_append_left _ h))
    · exact List.mem_append_right _ h
  · have n := R.n
    unfold adrs at n ⊢
    rw [w.c] at n
    rw [List.nodup_append] at n ⊢
    have pm : ((σ.led ++ c.hid).map (·.1)).Perm ((σ'.led ++ rest ++ c.hid).map (·.1)) := (hp.append_right c.hid).map _
    have sub : ((σ'.led ++ c.hid).map (·.1)).Sublist ((σ'.led ++ rest ++ c.hid).map (·.1)) := List.Sublist.map _ (List.Sublist.append_right (List.sublist_append_left _ rest) _)
    exact ⟨n.1, sub.nodup (pm.nodup_iff.mp n.2.1), fun a ha b hb => n.2.2 a ha b (pm.mem_iff.mpr (sub.subset hb))⟩
theorem Op.weak {α : Type} {t : Sem α} {K : α → St → Prop} (w : Weak σ σ') (h : Op y c t σ' K) : Op y c t σ K := ⟨fun s R => h.run s (R.weak w)⟩
inductive Nx {α : Type} (S : α → St) (Pre : α → Prop) (μ : α → Nat) (n : Nat) (σ : St) : Prop
  | mk (a : α) (h : Pre a) (m : μ a < n) (w : Weak σ (S a))
noncomputable def WK (N : St → Prop) (K : Flow → St → Prop) : Flow → St → Prop
  | .next, σ => N σ
  | .cont, σ => N σ
  | .brk, σ => K .next σ
  | .ret v, σ => K (.ret v) σ
theorem op_while {α : Type} (S : α → St) (Pre : α → Prop) (μ : α → Nat) (ok : CxOk y tb nm b₀ D U c) {test : Expr} {body : List Stmt} {p : Pos} {K : Flow → St → Prop}
    (turn : ∀ a K', (∀ σ a', Pre a' → μ a' < μ a → Weak σ (S a') → K' .next σ ∧ K' .cont σ) → (∀ σ, K .next σ → K' .brk σ) → (∀ v σ, K (.ret v) σ → K' (.ret v) σ) → Pre a →
      WPt y tb nm c 20 test (S a) fun b σ1 => IfK b (WPss (WPs y tb nm c 30) body K' σ1) (K .next σ1))
    (a : α) (ha : Pre a) (hw : Weak σ (S a)) : Op y c (exec (.While test body [] p) c.env) σ K := by
  refine Op.weak hw ?_
  clear hw
  refine ⟨fun s R => whl_start 0 ?_⟩
  generalize hn : μ a = n
  induction n using Nat.strongRecOn generalizing a s with
  | ind n ih =>
    subst hn
    have tn := turn a (WK (Nx S Pre μ (μ a)) K) (fun σ a' h1 h2 h3 => ⟨⟨a', h1, h2, h3⟩, ⟨a', h1, h2, h3⟩⟩) (fun σ h => h) (fun v σ h => h) ha
    refine whl_turn (k := 0) PassesOwn.never (wpAny_mono ((t_ok ok tn).run s R) (fun b s₂ ⟨σ2, R2, hi⟩ => ?_) fun _ _ x => x)
    cases b with
    | false => exact WhlIf.no rfl (wpAny_execs_nil ⟨σ2, R2, hi.f rfl⟩)
    | true =>
      refine WhlIf.yes rfl (wpAny_mono ((ss_ok (s_ok ok 30) (hi.t rfl)).run s₂ R2) (fun f s₃ ⟨σ3, R3, h3⟩ => ?_) fun _ _ x => x)
      cases f with
      | next => obtain ⟨a', h4, m, w'⟩ := h3; exact ih _ m a' h4 s₃ (R3.weak w') rfl
      | cont => obtain ⟨a', h4, m, w'⟩ := h3; exact ih _ m a' h4 s₃ (R3.weak w') rfl
      | brk => exact ⟨σ3, R3, h3⟩
      | ret v => exact ⟨σ3, R3, h3⟩
end
section
variable {prog : Program} {w : World} {A : Around} {s : Shared} {h₀ : Heap}
theorem rangeSize_nat (n : Nat) : Builtin.Range.rangeSize 0 (n : Int) 1 = (n : Int) := by
  unfold Builtin.Range.rangeSize
  rcases Nat.eq_zero_or_pos n with h | h
  · subst h; decide
  · simp; k_extra "o"
noncomputable def oddIters : List String := ["enumerate", "zip", "dict_itemiterator", "dict_reverseitemiterator", "odict_iterator", "itertools.zip_longest", "itertools.pairwise"]
structure Quiet (o : Obj) : Prop where
  q : ∃ n, o.cls = .type n ∧ oddIters.contains n = false
theorem go_quiet {M : Model} {A : Around} {E : Value → Shared → Prop} {s : Shared} {I : Addr} {o : Obj} {t : Expr} {v : Value} {Q : Unit → Shared → Prop} (ho : s.heap.get? I = some o) (hq : Quiet o) (h : Q () s) : wpAny M A (letOwnedTupleGo t (.ref I) v) Q E s := by
  obtain ⟨n, hc, hn⟩ := hq.q
  have key : wpAny M A (do
      let (.ref r, .ref a) := (Value.ref I, v) | return
      let o ← load r
      match o.cls, o.data with
      | .type n, .fields vs =>
        if ["enumerate", "zip", "dict_itemiterator", "dict_reverseitemiterator", "odict_iterator", "itertools.zip_longest", "itertools.pairwise"].contains n && vs[0]? == some (rawInt a) then
          rule "for.unpacks-the-owned-tuple"
          updateField r 0 .none
      | _, _ => pure ()) Q E s := by
    cases v with
    | ref a =>
      refine wpAny_bind (wpAny_load ho ?_)
      rw [hc]
      cases o.data with
      | fields vs =>
        dsimp only
        rw [show (["enumerate", "zip", "dict_itemiterator", "dict_reverseitemiterator", "odict_iterator", "itertools.zip_longest", "itertools.pairwise"].contains n) = false from hn, Bool.false_and, if_neg (by decide)]
        exact wpAny_pure h
      | _ => exact wpAny_pure h
    | _ => exact wpAny_pure h
  cases t with
  | Tuple a b c => exact key
  | List a b => exact key
  | _ => exact wpAny_pure h
noncomputable def SrcK (prog : Program) (w : World) (A : Around) (s : Shared) (xv : Value) (n : Nat) (P : Nat → Value → Prop) (kp : Led) : Prop :=
  ∀ (Q : Value → Shared → Prop) (E : Value → Shared → Prop), (∀ ito fp St, Walks prog w A s.heap.objs.size fp [s.heap.objs.size] n P St → St 0 (s.heap.push ito) → (∀ b ∈ fp, b = s.heap.objs.size ∨ ∃ o, (b, o) ∈ kp) → ((∀ i h, St i h → ∃ o, h.get? s.heap.objs.size = some o ∧ Quiet o) ∧ ito.isFreed = false) →
    Q (.ref s.heap.objs.size) { s with heap := s.heap.push ito }) → wpAny (model prog w) A (pyIter xv) Q E s
theorem srcK_list {l : Addr} {vs : List Value} {nn : Nat} (hh : A.handled = none) (hg : s.heap.get? l = some (listOf vs.toArray nn)) : SrcK prog w A s (.ref l) vs.length (fun i v => vs[i]? = some v) [(l, listOf vs.toArray nn)] := by
  intro Q E h
  have hl : s.heap.IsList l vs.toArray := ⟨_, hg, rfl, _, rfl⟩
  have hlt : l < s.heap.objs.size := Heap.lt_size hg
  refine wpAny_pyIter_list hl ?_
  have W := Walks.list (prog := prog) (w := w) hh s.heap.objs.size l (Nat.ne_of_lt hlt) vs.toArray
  simp only [List.getElem?_toArray, List.size_toArray] at W
  refine h _ _ _ W ⟨⟨_, Heap.get?_push_size _ rfl, rfl, rfl⟩, hl.at fun o e => Heap.get?_push_of_some _ e⟩ ?_ ⟨fun i h st => let ⟨o, ho, hc, _⟩ := st.1; ⟨o, ho, ⟨_, hc, by decide⟩⟩, rfl⟩
  intro b hb
  rcases List.mem_cons.mp hb with rfl | hb
  · exact .inl rfl
  · rw [List.mem_singleton.mp hb]; exact .inr ⟨_, .head _⟩
theorem srcK_range {r : Addr} {n : Nat} {t₀ u₀ v₀ : Tok} {o : Obj} (hn : n ≤ 1000) (hh : A.handled = none) (hr : IsRange s.heap r 0 (n : Int) 1 t₀ u₀ v₀) : SrcK prog w A s (.ref r) n (fun i v => i < n ∧ ∃ t, v = .int (i : Int) t) [(r, o)] := by
  intro Q E h
  refine wpAny_pyIter_range hr ?_ ?_
  · unfold Builtin.Range.small
    rw [rangeSize_nat]
    simp [Builtin.Range.rangeFitsLong]; k_extra "o"
  have W : Walks prog w A s.heap.objs.size [s.heap.objs.size] [s.heap.objs.size] n (fun i v => i < n ∧ ∃ t, v = .int (0 + i * 1) t)
      (fun i h => IsRangeIter h s.heap.objs.size (0 + (i : Nat) * 1) ((n : Int) - (i : Nat)) 1) := (Walks.range hh _ 0 1 n).bound
  simp only [Int.mul_one, Int.zero_add] at W
  refine h _ _ _ W ?_ ?_ ⟨fun i h st => ⟨_, st, ⟨_, rfl, by decide⟩⟩, rfl⟩
  · show IsRangeIter _ _ _ _ _
    rw [rangeSize_nat]
    simpa using Heap.get?_push_size _ rfl
  · intro b hb
    rw [List.mem_singleton.mp hb]
    exact .inl rfl
end
section
variable {y : Gl} {tb : Tab} {nm : List (Str × NameKind)} {b₀ : Heap} {D U : Nat} {c : Cx} {σ σ' : St}
noncomputable abbrev Cx.hide (c : Cx) (l : Led) : Cx := { c with hid := l ++ c.hid }
theorem Rep.unhide {s : Shared} {l : Led} {f : List (Str × Value)} {led : Led} {cs : List (Str × Addr × Option Value)} : Rep y (c.hide l) ⟨f, led, cs⟩ s ↔ Rep y c ⟨f, led ++ l, cs⟩ s :=
  ⟨fun R => ⟨R.d, R.o, R.G, R.F0, fun p hp => R.N p (by rw [List.append_assoc] at hp; exact hp), R.C, by have := R.n; unfold adrs at this ⊢; rw [List.append_assoc]; exact this⟩,
   fun R => ⟨R.d, R.o, R.G, R.F0, fun p hp => R.N p (by rw [List.append_assoc]; exact hp), R.C, by have := R.n; unfold adrs at this ⊢; rw [List.append_assoc] at this; exact this⟩⟩
theorem CxOk.hide (ok : CxOk y tb nm b₀ D U c) (l : Led) : CxOk y tb nm b₀ D U (c.hide l) := ⟨ok.dep, ok.unt, fun σ s R => let z := ok.amb ⟨σ.fs, σ.led ++ l, σ.cs⟩ s (Rep.unhide.mp R); ⟨z.1, fun env he p hp => z.2 env he p (List.mem_append_left _ hp)⟩, ok.st, ok.names, ok.kind, ok.glo, ok.blt, ok.dbg, ok.ncl, ok.look, ok.keep⟩
theorem Rep.front {I : Addr} {o : Obj} {s : Shared} {h' : Heap} {tk : Nat} {f : List (Str × Value)} {r : Led} {cs : List (Str × Addr × Option Value)} (R : Rep y c ⟨f, (I, o) :: r, cs⟩ s) (k : ∀ b ob, b ≠ I → s.heap.get? b = some ob → h'.get? b = some ob) :
    Rep y c ⟨f, r, cs⟩ { s with heap := h', toks := tk } ∧ I ≠ c.env.locals ∧ c.g.get? I = none ∧ I ∉ adrs cs (r ++ c.hid) := by
  have nI := R.N (I, o) (.head _)
  have n := R.n
  unfold adrs at n
  rw [List.cons_append, List.map_cons, List.nodup_append] at n
  obtain ⟨n1, n2, n3⟩ := n
  rw [List.nodup_cons] at n2
  have nc : ∀ q ∈ cs, q.2.1 ≠ I := fun q hq e => n3 _ (List.mem_map_of_mem hq) I (.head _) e
  refine ⟨⟨R.d, R.o, R.G, ⟨R.m, ⟨?_, fun b ob e => k b ob (fun z => ?_) (R.F.keep b ob e), R.F.above⟩, R.cov⟩, fun p hp => ?_, fun q hq => ?_, ?_⟩, nI.2.1, nI.2.2, ?_⟩
  · obtain ⟨oL, es, ep, e1, r⟩ := R.F.ns
    exact ⟨oL, es, ep, k _ oL (Ne.symm nI.2.1) e1, r⟩
  · rw [z] at e
    have := nI.2.2
    rw [show c.g.get? I = _ from e] at this; cases this
  · have z := R.N p (.tail _ hp)
    exact ⟨k _ _ (fun e => n2.1 (show I ∈ (r ++ c.hid).map (·.1) from e ▸ List.mem_map_of_mem (f := (·.1)) hp)) z.1, z.2⟩
  · have C := R.C q hq
    obtain ⟨ob, e1, e2⟩ := C.at_
    exact ⟨C.look, ⟨ob, k _ _ (nc q hq) e1, e2⟩, C.neL, C.new⟩
  · show (adrs cs (r ++ c.hid)).Nodup
    unfold adrs
    rw [List.nodup_append]
    exact ⟨n1, n2.2, fun a ha b hb => n3 a ha b (.tail _ hb)⟩
  · unfold adrs
    rw [List.mem_append]
    rintro (h | h)
    · obtain ⟨q, hq, e⟩ := List.mem_map.mp h
      exact nc q hq e
    · exact n2.1 h
theorem Rep.add {I : Addr} {o : Obj} {s : Shared} {f : List (Str × Value)} {r : Led} {cs : List (Str × Addr × Option Value)} (R : Rep y c ⟨f, r, cs⟩ s) (h1 : I ≠ c.env.locals) (h2 : c.g.get? I = none) (h3 : I ∉ adrs cs (r ++ c.hid)) (hI : s.heap.get? I = some o) :
    Rep y c ⟨f, (I, o) :: r, cs⟩ s := by
  refine ⟨R.d, R.o, R.G, R.F0, fun p hp => ?_, R.C, ?_⟩
  · rcases List.mem_cons.mp hp with rfl | hp
    · exact ⟨hI, h1, h2⟩
    · exact R.N p hp
  · show (adrs cs ((I, o) :: r ++ c.hid)).Nodup
    unfold adrs at h3 ⊢
    rw [List.mem_append, not_or] at h3
    have n := R.n
    unfold adrs at n
    rw [List.nodup_append] at n
    rw [List.cons_append, List.map_cons, List.nodup_append, List.nodup_cons]
    refine ⟨n.1, ⟨h3.2, n.2.1⟩, fun a ha b hb => ?_⟩
    rcases List.mem_cons.mp hb with rfl | hb
    · exact fun e => h3.1 (e ▸ ha)
    · exact n.2.2 a ha b hb
theorem Rep.perm {s : Shared} {f : List (Str × Value)} {r r' : Led} {cs : List (Str × Addr × Option Value)} (h : r.Perm r') (R : Rep y c ⟨f, r, cs⟩ s) : Rep y c ⟨f, r', cs⟩ s :=
  Rep.weak (σ := ⟨f, r, cs⟩) ⟨fun _ _ e => e, ⟨[], by rw [List.append_nil]; exact h⟩, rfl⟩ R
theorem Rep.turn {I : Addr} {o o' : Obj} {s : Shared} {h' : Heap} {tk : Nat} {l : Led} (R : Rep y (c.hide ((I, o) :: l)) σ s) (k : ∀ b ob, b ≠ I → s.heap.get? b = some ob → h'.get? b = some ob) (hI : h'.get? I = some o') : Rep y (c.hide ((I, o') :: l)) σ { s with heap := h', toks := tk } := by
  obtain ⟨R1, e1, e2, e3⟩ := Rep.front (tk := tk) (Rep.perm List.perm_middle (Rep.unhide.mp R)) k
  exact Rep.unhide.mpr (Rep.perm List.perm_middle.symm (R1.add e1 e2 e3 hI))
theorem Rep.drop {I : Addr} {o : Obj} {s : Shared} {h' : Heap} {tk : Nat} {l : Led} (R : Rep y (c.hide ((I, o) :: l)) σ s) (k : ∀ b ob, b ≠ I → s.heap.get? b = some ob → h'.get? b = some ob) : Rep y c ⟨σ.fs, σ.led ++ l, σ.cs⟩ { s with heap := h', toks := tk } :=
  (Rep.front (tk := tk) (Rep.perm List.perm_middle (Rep.unhide.mp R)) k).1
inductive Nf {α : Type} (S : Nat → α → St) (Pre : Nat → α → Prop) (n : Nat) (σ : St) : Prop
  | mk (a : α) (h : Pre n a) (w : Weak σ (S n a))
theorem op_forG {α : Type} {xv : Value} {n : Nat} {P : Nat → Value → Prop} {kp kq kr : Led} {iq : List Nat} (S : Nat → α → St) (Pre : Nat → α → Prop) (ok : CxOk y tb nm b₀ D U c) {t : Expr} {body : List Stmt} {K : Flow → St → Prop}
    (src : ∀ s, (∀ p ∈ kp, s.heap.get? p.1 = some p.2) → SrcK y.P y.w c.A s xv n P kp) (hq : takes iq kp = some (kq, kr))
    (turn : ∀ c' K' i a v, CxOk y tb nm b₀ D U c' → c'.env = c.env → i < n → P i v → (∀ σ a', Pre (i + 1) a' → Weak σ (S (i + 1) a') → K' .next σ ∧ K' .cont σ) → (∀ σ, K .next ⟨σ.fs, σ.led ++ kq, σ.cs⟩ → K' .brk σ) → (∀ v σ, K (.ret v) ⟨σ.fs, σ.led ++ kq, σ.cs⟩ → K' (.ret v) σ) → Pre i a →
      Op y c' (assign t c'.env v) (S i a) fun _ σ1 => WPss (WPs y tb nm c' 30) body K' σ1)
    (done : ∀ a, Pre n a → K .next (match S n a with | ⟨f, l, z⟩ => ⟨f, l ++ kq, z⟩))
    (a : α) (ha : Pre 0 a) (hw : Weak σ ⟨(S 0 a).fs, (S 0 a).led ++ kp, (S 0 a).cs⟩) : OpFor y c t body xv σ K := by
  have cut : ∀ {f : List (Str × Value)} {l : Led} {z : List (Str × Addr × Option Value)} {s : Shared}, Rep y c ⟨f, l ++ kp, z⟩ s → Rep y c ⟨f, l ++ kq, z⟩ s := fun {f l z s} R =>
    Rep.weak (σ := ⟨f, l ++ kp, z⟩) ⟨fun _ _ e => e, ⟨kr, by rw [List.append_assoc]; exact List.Perm.append_left l (Pk.of hq).perm⟩, rfl⟩ R
  refine ⟨fun s R => ?_⟩
  replace R := Rep.weak hw R
  refine src s (fun p hp => (R.N p (List.mem_append_left _ (List.mem_append_right _ hp))).1) _ _ fun ito fp Sx W st0 hfp hI => ?_
  have R0 : Rep y (c.hide ((s.heap.objs.size, ito) :: kp)) (S 0 a) { s with heap := s.heap.push ito } := Rep.unhide.mpr (Rep.perm List.perm_middle.symm (R.fresh ito hI.2))
  refine codeAny_forLoop_any (R := fun r s' => match r with | .ok f => ∃ σ', Rep y c σ' s' ∧ K f σ' | .error e => cameBackBy (model y.P y.w) c.A c.env (fun _ _ => False) e s') (fun k s' => ∃ i a ito', i + k = n ∧ Pre i a ∧ Rep y (c.hide ((s.heap.objs.size, ito') :: kp)) (S i a) s' ∧ Sx i s'.heap) ?_ n ⟨0, a, ito, Nat.zero_add _, ha, R0, st0⟩
  have hne : ∀ {b : Addr}, b ≠ s.heap.objs.size → b ∉ [s.heap.objs.size] := fun h z => h (List.mem_singleton.mp z)
  rintro k s' ⟨i, a, ito', hik, hp, R1, st⟩
  cases k with
  | zero =>
    obtain rfl : i = n := by k_extra "o"
    refine wpAny_passesOwn PassesOwn.never (W.done _ _ _ st fun h' tk' kp' => wpAny_execs_nil ⟨_, cut (R1.drop fun b ob hb e => kp' b ob (hne hb) e), done a hp⟩)
  | succ k =>
    have hi : i < n := by k_extra "o"
    refine wpAny_passesOwn PassesOwn.never (W.item i _ _ _ hi st fun v h' tk' hP st' kp' => ?_)
    obtain ⟨o2, ho2, hq2⟩ := hI.1 _ _ st'
    refine go_quiet (s := { s' with heap := h', toks := tk' }) ho2 hq2 ?_
    have R2 := R1.turn (tk := tk') (fun b ob hb e => kp' b ob (hne hb) e) ho2
    have cell : ∀ {s2 : Shared} {σ2 : St}, Rep y (c.hide ((s.heap.objs.size, o2) :: kp)) σ2 s2 → ∀ b ∈ fp, ∀ o, h'.get? b = some o → s2.heap.get? b = some o := fun {s2 σ2} R' b hb o e => by
      rcases hfp b hb with hb | ⟨o', hob⟩
      · rw [hb, ho2] at e; cases e
        rw [hb]; exact (R'.N (s.heap.objs.size, o2) (List.mem_append_right _ (.head _))).1
      · have m1 : (b, o') ∈ (S i a).led ++ (c.hide ((s.heap.objs.size, o2) :: kp)).hid := List.mem_append_right _ (.tail _ (List.mem_append_left _ hob))
        have := (R2.N _ m1).1
        rw [show h'.get? b = some o' from this] at e; cases e
        exact (R'.N (b, o) (List.mem_append_right _ (.tail _ (List.mem_append_left _ hob)))).1
    let K' : Flow → St → Prop := WK (Nf S Pre (i + 1)) (fun f σ => K f ⟨σ.fs, σ.led ++ kq, σ.cs⟩)
    have tn := turn (c.hide ((s.heap.objs.size, o2) :: kp)) K' i a v (ok.hide _) rfl hi hP (fun σ a' h1 h2 => ⟨⟨a', h1, h2⟩, ⟨a', h1, h2⟩⟩) (fun σ h => h) (fun v σ h => h) hp
    refine wpAny_passesOwn PassesOwn.never (wpAny_mono (tn.run _ R2) (fun _ s3 ⟨σ3, R3, tn3⟩ => ?_) fun _ _ z => z)
    refine wpAny_passesOwn PassesOwn.never (wpAny_mono ((ss_ok (s_ok (ok.hide _) 30) tn3).run _ R3) (fun f s4 ⟨σ4, R4, h4⟩ => ?_) fun _ _ z => z)
    have fin : Nf S Pre (i + 1) σ4 → ∃ m, m < k + 1 ∧ ∃ i a ito', i + m = n ∧ Pre i a ∧ Rep y (c.hide ((s.heap.objs.size, ito') :: kp)) (S i a) s4 ∧ Sx i s4.heap := fun ⟨a', h5, w5⟩ =>
      ⟨k, Nat.lt_succ_self _, i + 1, a', o2, by k_extra "o", h5, R4.weak w5, W.frame _ _ _ st' (cell R4)⟩
    cases f with
    | next => exact fin h4
    | cont => exact fin h4
    | brk => exact ⟨_, cut (R4.drop fun b ob _ e => e), h4⟩
    | ret v => exact ⟨_, cut (R4.drop fun b ob _ e => e), h4⟩
theorem op_nameT {c : Cx} {σ : St} (ok : CxOk y tb nm b₀ D U c) {x : Str} {px : Pos} {v : Value} {K : Unit → St → Prop} (hx : nm.lookup x = some .local) (h : K () ⟨(x, v) :: σ.fs, σ.led, σ.cs⟩) : Op y c (assign (.Name x px) c.env v) σ K :=
  ⟨fun s R => wpAny_assign_Name (wpAny_storeName_local ((ok.kindOf x).trans hx) R.F.ns (fun h' hn hs => ⟨_, R.set hn hs, h⟩) ok.cls)⟩
end
end MineV
end

section
namespace MineV
open PySem PySem.W PyProof.Rows PySem.Calls PySem.Spec
theorem fdiv2 (a b : Nat) : Int.fdiv ((a : Int) + (b : Int)) 2 = ((a + b) / 2 : Nat) := by
  rw [Int.fdiv_eq_ediv_of_nonneg _ (by decide)]; k_extra "o"

noncomputable def plainSl : Expr → Bool
  | .Slice .. => false
  | _ => true
theorem sub_plain {e : Expr} (h : plainSl e = true) (o i : Value) : subscripted e false o i = operate [o, i] (getItem o i) := by
  cases e <;> first | rfl | cases h
theorem go_name {e : Expr} (h : isName e = true) (o r : Value) : letTemporaryGo e o r = pure () := by
  cases e <;> first | rfl | cases h
section
variable {y : Gl} {c : Cx} {σ : St}
theorem op_fdiv {i j : Int} {t u : Tok} {K : Value → St → Prop} (hb : (j == 0) = false) (hl : Nat.blt j.natAbs 1073741824 = true) (h : ∀ t, K (.int (i.fdiv j) t) σ) : Op y c (binaryOp .FloorDiv (.int i t) (.int j u)) σ K :=
  ⟨fun s R => floordiv_int (beq_eq_false_iff_ne.mp hb) ⟨σ, R.toks, h _⟩ (Or.inl (PyProof.noPylong_small (Nat.le_of_ble_eq_true hl)))⟩
theorem op_mod {i j : Int} {t u : Tok} {K : Value → St → Prop} (hb : (j == 0) = false) (h : ∀ t, K (.int (i.fmod j) t) σ) : Op y c (binaryOp .Mod (.int i t) (.int j u)) σ K :=
  ⟨fun s R => mod_int' (beq_eq_false_iff_ne.mp hb) ⟨σ, R.toks, h _⟩⟩
theorem op_half {a b : Nat} {t u : Tok} {K : Value → St → Prop} (h : ∀ t, K (.int ((a + b) / 2 : Nat) t) σ) : Op y c (binaryOp .FloorDiv (.int ((a : Int) + (b : Int)) t) (.int 2 u)) σ K :=
  ⟨fun s R => floordiv_int (by decide) ⟨σ, R.toks, by rw [fdiv2]; exact h _⟩ (Or.inl (PyProof.noPylong_of_log2 (by decide +kernel)))⟩
theorem op_item_strs {value slice : Expr} {D : Addr} {vs : List Value} {n i : Nat} {k : Int} {u : Tok} {ss : List Str} {K : Value → St → Prop} (hm : (D, listOf vs.toArray n) ∈ σ.led) (hss : StrsAre vs ss) (hk : k = i) (hi : i < vs.length) (hl : vs.length ≤ 1000) (h : ∀ t, K (.str (ss.getD i "") t) σ)
    (hs : plainSl slice = true) (hg : isName value = true) : Op y c (subscriptTail value slice (.ref D) (.int k u)) σ K := by
  subst hk
  have e := hss.len_eq
  exact ⟨fun s R => item_strsA (R.isList hm) hss (by k_extra "o") (by k_extra "o") (by k_extra "o") (fun t => ⟨σ, R, h t⟩) (sub_plain hs _ _) (go_name hg _)⟩
end
end MineV
end

section
namespace MineV
open PySem PySem.W PyProof.Rows PySem.Calls PySem.Spec
noncomputable def relN (nm names : List (Str × NameKind)) : List (Str × NameKind) := names.map fun q => if (q.2 == .free && nm.lookup q.1 == some .cell) = true then (q.1, .cell) else q
noncomputable def clFrom : List (Str × NameKind) → List (Str × Addr × Option Value) → List (Str × Addr) → Option (List (Str × Addr))
  | [], _, acc => some acc
  | (n, k) :: r, cs, acc => if (k == .free) = true then (match addrC cs n with | some a => clFrom r cs ((n, a) :: acc) | none => none) else clFrom r cs acc
theorem closure_go {env : Env} {cs : List (Str × Addr × Option Value)} (hc : ∀ q ∈ cs, env.cells.lookup q.1 = some q.2.1) : ∀ (names : List (Str × NameKind)) (acc cl : List (Str × Addr)), clFrom names cs acc = some cl →
    (forIn names acc fun x r => (do if (x.2 == NameKind.free) = true then pure (ForInStep.yield ((x.1, ← cellOf env x.1) :: r)) else pure (ForInStep.yield r) : Sem (ForInStep (List (Str × Addr))))) = pure cl
  | [], acc, cl, h => by cases h; rfl
  | (n, k) :: r, acc, cl, h => by
    unfold clFrom at h
    rw [List.forIn_cons]
    by_cases e : (k == NameKind.free) = true
    · rw [if_pos e] at h
      cases e2 : addrC cs n with
      | none => rw [e2] at h; cases h
      | some a =>
        rw [e2] at h
        obtain ⟨u, hu⟩ := addrC_mem e2
        have e3 : cellOf env n = pure a := by unfold cellOf; rw [hc _ hu]
        dsimp only
        rw [if_pos e, e3]
        exact closure_go hc r ((n, a) :: acc) cl h
    · rw [if_neg e] at h
      dsimp only
      rw [if_neg e]
      exact closure_go hc r acc cl h
theorem closure_of {env : Env} {scope : Scope} {cs : List (Str × Addr × Option Value)} {cl : List (Str × Addr)} (hc : ∀ q ∈ cs, env.cells.lookup q.1 = some q.2.1) (h : clFrom scope.names cs [] = some cl) : closureFor scope env = pure cl := by
  have := closure_go hc scope.names [] cl h
  exact (congrArg (fun z : Sem (List (Str × Addr)) => z >>= pure) this).trans rfl
section
variable {y : Gl} {tb : Tab} {nm : List (Str × NameKind)} {b₀ : Heap} {D U : Nat} {c : Cx} {σ σ' : St}
noncomputable abbrev Cx.comp (c : Cx) (scope : Scope) (cl : List (Str × Addr)) (C : Addr) (h : Led) : Cx := { c with env := compEnvC scope cl C c.env, hid := h }
theorem cells_led {h : Heap} : ∀ (cs : List (Str × Addr × Option Value)), (∀ q ∈ cs, ∃ o, h.get? q.2.1 = some o ∧ o.data = .cell q.2.2) → ∃ nl : Led, nl.map (·.1) = cs.map (·.2.1) ∧ (∀ p ∈ nl, h.get? p.1 = some p.2) ∧ ∀ q ∈ cs, ∃ o, (q.2.1, o) ∈ nl ∧ o.data = .cell q.2.2
  | [], _ => ⟨[], rfl, fun _ h => (nomatch h), fun _ h => (nomatch h)⟩
  | q :: r, h => by
    obtain ⟨nl, e, h1, h2⟩ := cells_led r fun x hx => h x (.tail _ hx)
    obtain ⟨o, e1, e2⟩ := h q (.head _)
    refine ⟨(q.2.1, o) :: nl, by rw [List.map_cons, List.map_cons, e], fun p hp => ?_, fun x hx => ?_⟩
    · rcases List.mem_cons.mp hp with rfl | hp
      · exact e1
      · exact h1 p hp
    · rcases List.mem_cons.mp hx with rfl | hx
      · exact ⟨o, .head _, e2⟩
      · obtain ⟨o', a, b⟩ := h2 x hx
        exact ⟨o', .tail _ a, b⟩
theorem Rep.leave {scope : Scope} {cl : List (Str × Addr)} {C : Addr} {oL : Obj} {h nc : Led} {m : Str → Option Value} {f fs : List (Str × Value)} {led : Led} {cs cs₂ csR : List (Str × Addr × Option Value)} {s : Shared}
    (R : Rep y (c.comp scope cl C ((c.env.locals, oL) :: h ++ (nc ++ c.hid))) ⟨f, led, cs₂⟩ s) (hL : ∀ h' : Heap, h'.get? c.env.locals = some oL → h'.Ns c.env.locals m) (hab : c.g.objs.size ≤ c.env.locals) (hf : ∀ x v, getF fs x = some v → m x = some v)
    (hcs : cs.Perm (cs₂ ++ csR)) (hlk : ∀ q ∈ cs, c.env.cells.lookup q.1 = some q.2.1) (hnc : nc.map (·.1) = csR.map (·.2.1)) (hcr : ∀ q ∈ csR, ∃ o, (q.2.1, o) ∈ nc ∧ o.data = .cell q.2.2) :
    ∃ oC mC, (∀ h' : Heap, h'.get? C = some oC → h'.Ns C mC) ∧ Rep y c ⟨fs, (C, oC) :: (led ++ h), cs⟩ s := by
  obtain ⟨oC, es, ep, eC, rC⟩ := R.F.ns
  have memL : (c.env.locals, oL) ∈ led ++ ((c.env.locals, oL) :: h ++ (nc ++ c.hid)) := List.mem_append_right _ (.head _)
  have n := R.n
  unfold adrs at n
  rw [List.nodup_append] at n
  obtain ⟨n1, n2, n3⟩ := n
  have n2' : (led.map (·.1) ++ (c.env.locals :: (h.map (·.1) ++ (nc.map (·.1) ++ c.hid.map (·.1))))).Nodup := by
    have := n2
    simp only [List.map_append, List.map_cons, List.cons_append] at this
    exact this
  have hne : ∀ p ∈ led ++ (h ++ (nc ++ c.hid)), p.1 ≠ c.env.locals := by
    intro p hp e
    have n4 := List.nodup_append.mp n2'
    rcases List.mem_append.mp hp with hp | hp
    · exact n4.2.2 p.1 (List.mem_map_of_mem hp) _ (.head _) e
    · have n5 := List.nodup_cons.mp n4.2.1
      refine n5.1 ?_
      rw [← e, ← List.map_append, ← List.map_append]
      exact List.mem_map_of_mem hp
  have memC : ∀ p ∈ led ++ (h ++ (nc ++ c.hid)), p ∈ led ++ ((c.env.locals, oL) :: h ++ (nc ++ c.hid)) := fun p hp => by
    rcases List.mem_append.mp hp with hp | hp
    · exact List.mem_append_left _ hp
    · exact List.mem_append_right _ (.tail _ hp)
  have gC : c.g.get? C = none := by
    cases z : c.g.get? C with
    | none => rfl
    | some o => exact absurd (Heap.lt_size z) (Nat.not_lt.mpr R.F.above)
  refine ⟨oC, _, fun h' e => ⟨oC, es, ep, e, rC⟩, R.d, R.o, R.G, ⟨m, ⟨hL _ (R.N _ memL).1, R.F.keep, hab⟩, hf⟩, fun p hp => ?_, fun q hq => ?_, ?_⟩
  · rcases List.mem_cons.mp hp with rfl | hp
    · exact ⟨eC, fun e => (R.N _ memL).2.1 e.symm, gC⟩
    · have hp' : p ∈ led ++ (h ++ (nc ++ c.hid)) := by
        rcases List.mem_append.mp hp with hp | hp
        · rcases List.mem_append.mp hp with hp | hp
          · exact List.mem_append_left _ hp
          · exact List.mem_append_right _ (List.mem_append_left _ hp)
        · exact List.mem_append_right _ (List.mem_append_right _ (List.mem_append_right _ hp))
      exact ⟨(R.N p (memC p hp')).1, hne p hp', (R.N p (memC p hp')).2.2⟩
  · rcases List.mem_append.mp (hcs.mem_iff.mp hq) with h1 | h1
    · have z := R.C q h1
      exact ⟨hlk q hq, z.at_, fun e => n3 _ (List.mem_map_of_mem h1) c.env.locals (List.mem_map_of_mem (f := (·.1)) memL) e, z.new⟩
    · obtain ⟨o, e1, e2⟩ := hcr q h1
      have mm : (q.2.1, o) ∈ led ++ (h ++ (nc ++ c.hid)) := List.mem_append_right _ (List.mem_append_right _ (List.mem_append_left _ e1))
      exact ⟨hlk q hq, ⟨o, (R.N _ (memC _ mm)).1, e2⟩, hne _ mm, (R.N _ (memC _ mm)).2.2⟩
  · show (adrs cs ((C, oC) :: (led ++ h) ++ c.hid)).Nodup
    unfold adrs
    have e1 : (cs.map (·.2.1)).Perm (cs₂.map (·.2.1) ++ nc.map (·.1)) := by
      rw [hnc, ← List.map_append]; exact hcs.map _
    have base : (cs₂.map (·.2.1) ++ (led.map (·.1) ++ (h.map (·.1) ++ (nc.map (·.1) ++ c.hid.map (·.1))))).Nodup := by
      have n3' : ∀ a ∈ cs₂.map (·.2.1), ∀ b ∈ led.map (·.1) ++ (h.map (·.1) ++ (nc.map (·.1) ++ c.hid.map (·.1))), a ≠ b := by
        intro a ha b hb
        refine n3 a ha b ?_
        simp only [List.map_append, List.map_cons, List.mem_append, List.mem_cons] at hb ⊢
        rcases hb with hb | hb | hb | hb <;> simp [hb]
      rw [List.nodup_append]
      refine ⟨n1, ?_, n3'⟩
      have n4 := List.nodup_append.mp n2'
      rw [List.nodup_append]
      exact ⟨n4.1, (List.nodup_cons.mp n4.2.1).2, fun a ha b hb => n4.2.2 a ha b (.tail _ hb)⟩
    have hCn : C ∉ cs₂.map (·.2.1) ++ (led.map (·.1) ++ (h.map (·.1) ++ (nc.map (·.1) ++ c.hid.map (·.1)))) := by
      intro hm
      rcases List.mem_append.mp hm with hm | hm
      · obtain ⟨q, hq, e⟩ := List.mem_map.mp hm
        exact (R.C q hq).neL e
      · rw [← List.map_append, ← List.map_append, ← List.map_append] at hm
        obtain ⟨p, hp, e⟩ := List.mem_map.mp hm
        exact (R.N p (memC p hp)).2.1 e
    have pm : (cs.map (·.2.1) ++ ((C, oC) :: (led ++ h) ++ c.hid).map (·.1)).Perm (C :: (cs₂.map (·.2.1) ++ (led.map (·.1) ++ (h.map (·.1) ++ (nc.map (·.1) ++ c.hid.map (·.1)))))) := by
      simp only [List.map_append, List.map_cons, List.cons_append]
      refine (List.perm_middle).trans (List.Perm.cons _ ?_)
      refine (List.Perm.append_right _ e1).trans ?_
      rw [List.append_assoc]
      refine List.Perm.append_left _ ?_
      -- nc ++ (led ++ h ++ hid) ~ led ++ (h ++ (nc ++ hid))
      rw [List.append_assoc, ← List.append_assoc (led.map (·.1)), ← List.append_assoc (led.map (·.1)), ← List.append_assoc (nc.map (·.1))]
      rw [← List.append_assoc (led.map (·.1) ++ h.map (·.1))]
      exact List.Perm.append_right _ List.perm_append_comm
    exact pm.nodup_iff.mpr (List.nodup_cons.mpr ⟨hCn, base⟩)
theorem Rep.into {scope : Scope} {cl : List (Str × Addr)} {C : Addr} {h : Led} {m' : Str → Option Value} {fs : List (Str × Value)} {led : Led} {cs cs₂ csR : List (Str × Addr × Option Value)} {s : Shared} {h' : Heap} {tk : Nat}
    (R : Rep y c ⟨fs, led ++ h, cs⟩ s) (hcs : cs.Perm (cs₂ ++ csR)) (hcl : ∀ q ∈ cs₂, cl.lookup q.1 = some q.2.1) (hC : s.heap.objs.size ≤ C) (hk : ∀ b o, s.heap.get? b = some o → h'.get? b = some o) (hn : h'.Ns C m') :
    ∃ oL nc, (∀ h' : Heap, h'.get? c.env.locals = some oL → h'.Ns c.env.locals R.m) ∧ nc.map (·.1) = csR.map (·.2.1) ∧ (∀ q ∈ csR, ∃ o, (q.2.1, o) ∈ nc ∧ o.data = .cell q.2.2) ∧
      Rep y (c.comp scope cl C ((c.env.locals, oL) :: h ++ (nc ++ c.hid))) ⟨[], led, cs₂⟩ { s with heap := h', toks := tk } := by
  obtain ⟨oL, es, ep, eL, rL⟩ := R.F.ns
  obtain ⟨nc, e1, e2, e3⟩ := cells_led (h := s.heap) csR fun q hq => (R.C q (hcs.mem_iff.mpr (List.mem_append_right _ hq))).at_
  have sub : ∀ p ∈ led ++ (h ++ c.hid), s.heap.get? p.1 = some p.2 ∧ p.1 ≠ c.env.locals ∧ c.g.get? p.1 = none := fun p hp => R.N p (by rw [← List.append_assoc] at hp; exact hp)
  have ncN : ∀ p ∈ nc, p.1 ≠ c.env.locals ∧ c.g.get? p.1 = none := fun p hp => by
    have : p.1 ∈ csR.map (·.2.1) := e1 ▸ List.mem_map_of_mem hp
    obtain ⟨q, hq, e⟩ := List.mem_map.mp this
    have z := R.C q (hcs.mem_iff.mpr (List.mem_append_right _ hq))
    rw [← e]; exact ⟨z.neL, z.new⟩
  have lt : ∀ {b : Addr} {o : Obj}, s.heap.get? b = some o → b ≠ C := fun e z => absurd (Heap.lt_size e) (Nat.not_lt.mpr (z ▸ hC))
  have n := R.n
  unfold adrs at n
  rw [List.nodup_append] at n
  obtain ⟨n1, n2, n3⟩ := n
  have n2' : (led.map (·.1) ++ (h.map (·.1) ++ c.hid.map (·.1))).Nodup := by
    have := n2
    simp only [List.map_append, List.append_assoc] at this
    exact this
  have hmem : ∀ {b : Addr}, b ∈ led.map (·.1) ++ (h.map (·.1) ++ c.hid.map (·.1)) → ∃ p ∈ led ++ (h ++ c.hid), p.1 = b := fun {b} hb => by
    rw [← List.map_append, ← List.map_append] at hb
    exact List.mem_map.mp hb
  have gL : c.g.get? c.env.locals = none := by
    cases z : c.g.get? c.env.locals with
    | none => rfl
    | some o => exact absurd (Heap.lt_size z) (Nat.not_lt.mpr R.F.above)
  refine ⟨oL, nc, fun h' e => ⟨oL, es, ep, e, rL⟩, e1, e3, R.d, R.o, R.G, ⟨_, ⟨hn, fun b o e => hk b o (R.F.keep b o e), ?_⟩, fun x v e => nomatch e⟩, fun p hp => ?_, fun q hq => ?_, ?_⟩
  · have : c.g.objs.size ≤ s.heap.objs.size := Nat.le_trans R.F.above (Nat.le_of_lt (Heap.lt_size eL))
    exact Nat.le_trans this hC
  · have hp' : p = (c.env.locals, oL) ∨ p ∈ nc ∨ p ∈ led ++ (h ++ c.hid) := by
      rcases List.mem_append.mp hp with hp | hp
      · exact .inr (.inr (List.mem_append_left _ hp))
      · rcases List.mem_cons.mp hp with hp | hp
        · exact .inl hp
        · rcases List.mem_append.mp hp with hp | hp
          · exact .inr (.inr (List.mem_append_right _ (List.mem_append_left _ hp)))
          · rcases List.mem_append.mp hp with hp | hp
            · exact .inr (.inl hp)
            · exact .inr (.inr (List.mem_append_right _ (List.mem_append_right _ hp)))
    rcases hp' with rfl | hp' | hp'
    · exact ⟨hk _ _ eL, lt eL, gL⟩
    · exact ⟨hk _ _ (e2 p hp'), lt (e2 p hp'), (ncN p hp').2⟩
    · exact ⟨hk _ _ (sub p hp').1, lt (sub p hp').1, (sub p hp').2.2⟩
  · have z := R.C q (hcs.mem_iff.mpr (List.mem_append_left _ hq))
    obtain ⟨o, a, b⟩ := z.at_
    exact ⟨hcl q hq, ⟨o, hk _ _ a, b⟩, lt a, z.new⟩
  · show (adrs cs₂ (led ++ ((c.env.locals, oL) :: h ++ (nc ++ c.hid)))).Nodup
    unfold adrs
    have ncs : (cs₂.map (·.2.1) ++ nc.map (·.1)).Nodup := by
      rw [e1, ← List.map_append]
      exact (hcs.map _).nodup_iff.mp n1
    have cross : ∀ a ∈ cs₂.map (·.2.1) ++ nc.map (·.1), ∀ b ∈ c.env.locals :: (led.map (·.1) ++ (h.map (·.1) ++ c.hid.map (·.1))), a ≠ b := by
      intro a ha b hb
      have ha' : a ∈ cs.map (·.2.1) := by
        rw [e1, ← List.map_append] at ha
        exact (hcs.map _).mem_iff.mpr ha
      rcases List.mem_cons.mp hb with rfl | hb
      · obtain ⟨q, hq, e⟩ := List.mem_map.mp ha'
        rw [← e]; exact (R.C q hq).neL
      · refine n3 a ha' b ?_
        simp only [List.map_append, List.append_assoc]
        exact hb
    have nl : (c.env.locals :: (led.map (·.1) ++ (h.map (·.1) ++ c.hid.map (·.1)))).Nodup := List.nodup_cons.mpr ⟨fun hm => by
      obtain ⟨p, hp, e⟩ := hmem hm
      exact (sub p hp).2.1 e, n2'⟩
    have all : ((cs₂.map (·.2.1) ++ nc.map (·.1)) ++ (c.env.locals :: (led.map (·.1) ++ (h.map (·.1) ++ c.hid.map (·.1))))).Nodup := List.nodup_append.mpr ⟨ncs, nl, cross⟩
    refine List.Perm.nodup_iff ?_ |>.mp all
    simp only [List.map_append, List.map_cons, List.cons_append, List.append_assoc]
    refine List.Perm.append_left _ ?_
    -- nc ++ (L :: (led ++ (h ++ hid))) ~ led ++ (L :: (h ++ (nc ++ hid)))
    refine List.perm_middle.trans ?_
    refine List.Perm.trans ?_ List.perm_middle.symm
    refine List.Perm.cons _ ?_
    exact (List.perm_append_comm_assoc ..).trans (List.Perm.append_left _ (List.perm_append_comm_assoc ..))
theorem Rep.noCells {f : List (Str × Value)} {led : Led} {cs : List (Str × Addr × Option Value)} {s : Shared} (R : Rep y c ⟨f, led, cs⟩ s) : Rep y c ⟨f, led, []⟩ s :=
  ⟨R.d, R.o, R.G, R.F0, R.N, fun _ h => (nomatch h), by
    have n := R.n
    unfold adrs at n ⊢
    exact (List.nodup_append.mp n).2.1⟩
theorem relN_eq (ok : CxOk y tb nm b₀ D U c) (scope : Scope) : (relabel scope c.env).names = relN nm scope.names := by
  unfold relabel relN
  dsimp only
  congr 1
  funext ⟨n, k⟩
  rw [ok.kind, ok.kindOf]
  cases h1 : (k == NameKind.free) <;> cases h2 : (nm.lookup n == some NameKind.cell) <;> simp [h1, h2]
theorem CxOk.comp {scope : Scope} {cl : List (Str × Addr)} {C : Addr} {oL : Obj} {h nc : Led} {m : Str → Option Value} (ok : CxOk y tb nm b₀ D U c) (hL : ∀ h' : Heap, h'.get? c.env.locals = some oL → h'.Ns c.env.locals m) (hab : c.g.objs.size ≤ c.env.locals) (hk : scope.kind = .function)
    (hdb : (relN nm scope.names).lookup ("__debug__" : Str) = none) (hcl : (relN nm scope.names).lookup ("__classdict__" : Str) = none) :
    CxOk y tb (relN nm scope.names) b₀ D U (c.comp scope cl C ((c.env.locals, oL) :: h ++ (nc ++ c.hid))) := by
  refine ⟨ok.dep, ok.unt, fun σ s R => ?_, ok.st, relN_eq ok scope, hk, ok.glo, ok.blt, hdb, hcl, ok.look, ok.keep⟩
  obtain ⟨f, led, cs⟩ := σ
  have R' : Rep y (c.comp scope cl C ((c.env.locals, oL) :: (h ++ nc) ++ ([] ++ c.hid))) ⟨f, led, []⟩ s := by
    have := R.noCells
    rw [List.cons_append, ← List.append_assoc] at this
    exact this
  obtain ⟨oC, mC, _, R1⟩ := Rep.leave (fs := []) (cs := []) (csR := []) R' hL hab (fun x v e => nomatch e) (.refl _) (fun _ h => nomatch h) rfl (fun _ h => nomatch h)
  have z := ok.amb _ _ R1
  exact ⟨z.1, fun env he p hp => z.2 env he p (.tail _ (List.mem_append_left _ hp))⟩
noncomputable def CT (y : Gl) (tb : Tab) (nm : List (Str × NameKind)) (c : Cx) (ifs : List Expr) (σ : St) (K : Bool → St → Prop) : Prop :=
  match ifs with
  | [] => K true σ
  | [e] => WPt y tb nm c 20 e σ K
  | _ => False
theorem ct_ok (ok : CxOk y tb nm b₀ D U c) {ifs : List Expr} {K : Bool → St → Prop} (h : CT y tb nm c ifs σ K) :
    Op y c (forIn ifs true fun e r => if r = true then do let ok ← isTrue e c.env (eval e c.env); pure (ForInStep.yield ok) else pure (ForInStep.yield r)) σ K := by
  match ifs, h with
  | [], h => exact Op.pure h
  | [e], h =>
    refine ⟨fun s R => ?_⟩
    rw [List.forIn_cons]
    rw [if_pos rfl]
    exact wpAny_bind (wpAny_bind (wpAny_mono ((t_ok ok h).run s R) (fun b s1 h1 => wpAny_pure (wpAny_pure h1)) fun _ _ x => x))
theorem Pick.app {p : Addr × Obj} {r r' : Led} (h : Pick p r r') : ∀ (a : Led), Pick p (a ++ r) (a ++ r')
  | [] => h
  | _ :: a => .there (h.app a)
theorem Rep.turnP {I : Addr} {o o' : Obj} {s : Shared} {h' : Heap} {tk : Nat} {f : List (Str × Value)} {led r led' : Led} {cs : List (Str × Addr × Option Value)} (R : Rep y c ⟨f, led, cs⟩ s) (hp : led.Perm ((I, o) :: r)) (hq : ((I, o') :: r).Perm led') (k : ∀ b ob, b ≠ I → s.heap.get? b = some ob → h'.get? b = some ob) (hI : h'.get? I = some o') :
    Rep y c ⟨f, led', cs⟩ { s with heap := h', toks := tk } := by
  obtain ⟨R1, e1, e2, e3⟩ := Rep.front (tk := tk) (Rep.perm hp R) k
  exact Rep.perm hq (R1.add e1 e2 e3 hI)
noncomputable def RL (y : Gl) (c : Cx) (fs : List (Str × Value)) (led : Led) (cs : List (Str × Addr × Option Value)) (C : Addr) (s : Shared) : Prop :=
  ∃ oC mC, (∀ h' : Heap, h'.get? C = some oC → h'.Ns C mC) ∧ Rep y c ⟨fs, (C, oC) :: led, cs⟩ s
theorem comp_loopG {prog : Program} {w : World} {A : Around} {R : Result → Shared → Prop} {s : Shared} {elt target iter : Expr} {ifs : List Expr} {scope : Scope} {pos : Pos} {it acc : Value} {env : Env} (I : Nat → Shared → Prop)
    (turn : ∀ n s, I n s → wpAny (model prog w) A (pyNext it) (fun r s₁ => match r with
      | none => R (.ok .next) s₁
      | some v => wpAny (model prog w) A (letOwnedTupleGo target it v) (fun _ s₀ => wpAny (model prog w) A (assign target env v) (fun _ s₂ =>
          wpAny (model prog w) A (forIn ifs true fun c r => if r = true then do let ok ← isTrue c env (eval c env); pure (ForInStep.yield ok) else pure (ForInStep.yield r)) (fun ok s₃ =>
            if ok = true then wpAny (model prog w) A (eval elt env) (fun x s₄ =>
              wpAny (model prog w) A (call (.builtin "list.append") [acc, x]) (fun _ s₅ => ∃ m, m < n ∧ I m s₅) (notedBy (model prog w) A env fun e s' => R (.error e) s') s₄) (notedBy (model prog w) A env fun e s' => R (.error e) s') s₃
            else ∃ m, m < n ∧ I m s₃) (notedBy (model prog w) A env fun e s' => R (.error e) s') s₂) (notedBy (model prog w) A env fun e s' => R (.error e) s') s₀) (notedBy (model prog w) A env fun e s' => R (.error e) s') s₁) (notedBy (model prog w) A env fun e s' => R (.error e) s') s)
    (n : Nat) (h : I n s) : codeAny (model prog w) A (.compLoop (.ListComp elt [⟨target, iter, ifs, 0⟩] scope pos) 0 it acc env) R s := by
  refine codeAny_loop rfl I (fun n s hI => ?_) n h
  show wpAny _ A ((compTurn (.ListComp elt [⟨target, iter, ifs, 0⟩] scope pos) 0 it acc env).onRaise (fun x => do noteFrame x env; theTreesLotGoes x)) _ _ s
  refine wpAny_noted ?_
  rw [compTurn_list]
  refine wpAny_bind (wpAny_standAt (wpAny_bind (wpAny_mono (turn n s hI) (fun r s₁ h₁ => ?_) fun _ _ h' => h')))
  cases r with
  | none => exact wpAny_pure h₁
  | some v =>
    refine wpAny_bind (wpAny_mono h₁ (fun _ s₀ h₀ => ?_) fun _ _ h' => h')
    refine wpAny_bind (wpAny_mono h₀ (fun _ s₂ h₂ => wpAny_bind (wpAny_mono h₂ (fun ok s₃ h₃ => ?_) fun _ _ h' => h')) fun _ _ h' => h')
    cases ok with
    | false => exact wpAny_pure ⟨rfl, h₃⟩
    | true =>
      exact wpAny_bind (wpAny_bind (wpAny_mono h₃ (fun x s₄ h₄ => wpAny_bind (wpAny_mono h₄ (fun _ s₅ h₅ => wpAny_pure (wpAny_pure ⟨rfl, h₅⟩)) fun _ _ h' => h')) fun _ _ h' => h'))
theorem comp_run {α β : Type} {elt iter tg : Expr} {ifs : List Expr} {scope : Scope} {cl : List (Str × Addr)} {pos : Pos} {n : Nat} {P : Nat → Value → Prop} {kp : Led} {cs₂ : List (Str × Addr × Option Value)} {ito : Obj} {fp : List Addr} {Sx : Nat → Heap → Prop} {I Dd C : Addr} {oL : Obj} {nc : Led} {sx : Shared} {RR : Value → Addr → Result → Shared → Prop}
    (Z : β → List (Str × Addr × Option Value)) (hZ : ∀ c' l u s', Rep y c' ⟨[], l, Z u⟩ s' → Rep y c' ⟨[], l, cs₂⟩ s') (L : Nat → α → Led) (Pre : Nat → List Value → α → Prop)
    (turn : ∀ c' (K' : Value → St → Prop) (K0 : St → Prop) i vs a v u, CxOk y tb (relN nm scope.names) b₀ D U c' → i < n → P i v → (∀ r σ a' u', Pre (i + 1) (vs ++ [r]) a' → Weak σ ⟨[], L (i + 1) a', Z u'⟩ → K' r σ) → (∀ σ a' u', Pre (i + 1) vs a' → Weak σ ⟨[], L (i + 1) a', Z u'⟩ → K0 σ) → Pre i vs a →
      Op y c' (assign tg c'.env v) ⟨[], L i a, Z u⟩ fun _ σ0 => CT y tb (relN nm scope.names) c' ifs σ0 fun q σ1 => IfK q (WPe y tb (relN nm scope.names) c' 20 elt σ1 K') (K0 σ1))
    (hn : n ≤ 1000) (W : Walks y.P y.w c.A I fp [I] n P Sx) (hfp : ∀ b ∈ fp, b = I ∨ ∃ o, (b, o) ∈ kp) (hI : ∀ i h, Sx i h → ∃ o, h.get? I = some o ∧ Quiet o)
    (okc : ∀ h, CxOk y tb (relN nm scope.names) b₀ D U (c.comp scope cl C ((c.env.locals, oL) :: h ++ (nc ++ c.hid))))
    (fin : ∀ vs a kk s', Pre n vs a → vs.length ≤ n → Rep y (c.comp scope cl C ((c.env.locals, oL) :: ((Dd, listOf vs.toArray kk) :: kp) ++ (nc ++ c.hid))) ⟨[], L n a, cs₂⟩ s' → RR (.ref Dd) C (.ok .next) s')
    (u : β) (a : α) (ha : Pre 0 [] a) (R2 : Rep y (c.comp scope cl C ((c.env.locals, oL) :: ((I, ito) :: (Dd, listOf #[] 0) :: kp) ++ (nc ++ c.hid))) ⟨[], L 0 a, Z u⟩ sx) (st1 : Sx 0 sx.heap) :
    codeAny (model y.P y.w) c.A (.compLoop (.ListComp elt [⟨tg, iter, ifs, 0⟩] scope pos) 0 (.ref I) (.ref Dd) (compEnvC scope cl C c.env)) (RR (.ref Dd) C) sx := by
  have hne : ∀ {b : Addr}, b ≠ I → b ∉ [I] := fun h z => h (List.mem_singleton.mp z)
  have p1 : ∀ (l r : Led) (q z : Addr × Obj), (l ++ q :: z :: r).Perm (z :: (l ++ q :: r)) := fun l r q z => (List.Perm.append_left l (List.Perm.swap ..)).trans List.perm_middle
  let J : Nat → Shared → Prop := fun k s' => ∃ i vs a ito' kk u, i + k = n ∧ vs.length ≤ i ∧ Pre i vs a ∧ Rep y (c.comp scope cl C ((c.env.locals, oL) :: ((I, ito') :: (Dd, listOf vs.toArray kk) :: kp) ++ (nc ++ c.hid))) ⟨[], L i a, Z u⟩ s' ∧ Sx i s'.heap
  refine comp_loopG J ?_ n ⟨0, [], a, ito, 0, u, Nat.zero_add _, Nat.le_refl _, ha, R2, st1⟩
  rintro k s' ⟨i, vs, a, ito', kk, u, hik, hvl, hp, R3, st3⟩
  cases k with
  | zero =>
    obtain rfl : i = n := by k_extra "o"
    refine W.done _ _ _ st3 fun h' tk' kp' => ?_
    have R4 := Rep.front (h' := h') (tk := tk') (Rep.perm (p1 _ _ _ _) (Rep.unhide (c := c.comp scope cl C (nc ++ c.hid)) |>.mp R3)) (fun b ob hb e => kp' b ob (hne hb) e)
    have R5 : Rep y (c.comp scope cl C ((c.env.locals, oL) :: ((Dd, listOf vs.toArray kk) :: kp) ++ (nc ++ c.hid))) ⟨[], L i a, cs₂⟩ _ := hZ _ _ _ _ ((Rep.unhide (c := c.comp scope cl C (nc ++ c.hid))).mpr R4.1)
    exact fin vs a kk _ hp hvl R5
  | succ k =>
    have hi : i < n := by k_extra "o"
    refine W.item i _ _ _ hi st3 fun v h' tk' hP st' kp' => ?_
    obtain ⟨o2, ho2, hq2⟩ := hI _ _ st'
    refine go_quiet (s := { s' with heap := h', toks := tk' }) ho2 hq2 ?_
    have R4 : Rep y (c.comp scope cl C ((c.env.locals, oL) :: ((I, o2) :: (Dd, listOf vs.toArray kk) :: kp) ++ (nc ++ c.hid))) ⟨[], L i a, Z u⟩ { s' with heap := h', toks := tk' } :=
      (Rep.unhide (c := c.comp scope cl C (nc ++ c.hid))).mpr (Rep.turnP (Rep.unhide (c := c.comp scope cl C (nc ++ c.hid)) |>.mp R3) (p1 _ _ _ _) (p1 _ _ _ _).symm (fun b ob hb e => kp' b ob (hne hb) e) ho2)
    have ok2 := okc ((I, o2) :: (Dd, listOf vs.toArray kk) :: kp)
    have cell : ∀ {s2 : Shared} {σ2 : St}, Rep y (c.comp scope cl C ((c.env.locals, oL) :: ((I, o2) :: (Dd, listOf vs.toArray kk) :: kp) ++ (nc ++ c.hid))) σ2 s2 → ∀ b ∈ fp, ∀ o, h'.get? b = some o → s2.heap.get? b = some o := fun {s2 σ2} R' b hb o e => by
      rcases hfp b hb with hb | ⟨o', hob⟩
      · rw [hb, ho2] at e; cases e
        rw [hb]; exact (R'.N (I, o2) (List.mem_append_right _ (.tail _ (.head _)))).1
      · have m1 : ∀ l : Led, (b, o') ∈ l ++ (c.comp scope cl C ((c.env.locals, oL) :: ((I, o2) :: (Dd, listOf vs.toArray kk) :: kp) ++ (nc ++ c.hid))).hid := fun l => List.mem_append_right _ (.tail _ (.tail _ (.tail _ (List.mem_append_left _ hob))))
        have := (R4.N _ (m1 _)).1
        rw [show h'.get? b = some o' from this] at e; cases e
        exact (R'.N _ (m1 _)).1
    have tn := turn _ (fun r σ => ∃ a' u', Pre (i + 1) (vs ++ [r]) a' ∧ Weak σ ⟨[], L (i + 1) a', Z u'⟩) (fun σ => ∃ a' u', Pre (i + 1) vs a' ∧ Weak σ ⟨[], L (i + 1) a', Z u'⟩) i vs a v u ok2 hi hP (fun r σ a' u' h1 h2 => ⟨a', u', h1, h2⟩) (fun σ a' u' h1 h2 => ⟨a', u', h1, h2⟩) hp
    refine wpAny_mono (tn.run _ R4) (fun _ s3 ⟨σ3, R5, tn3⟩ => ?_) fun _ _ z => z.elim
    refine wpAny_mono ((ct_ok ok2 tn3).run _ R5) (fun q s4 ⟨σ4, R6, hq⟩ => ?_) fun _ _ z => z.elim
    cases q with
    | false =>
      obtain ⟨a', u', h5, w5⟩ := hq.f rfl
      exact ⟨k, Nat.lt_succ_self _, i + 1, vs, a', o2, kk, u', by k_extra "o", Nat.le_succ_of_le hvl, h5, R6.weak w5, W.frame _ _ _ st' (cell R6)⟩
    | true =>
      refine wpAny_mono ((e_ok ok2 20 _ _ _ (hq.t rfl)).run s4 R6) (fun r s5 ⟨σ5, R7, a', u', h5, w5⟩ => ?_) fun _ _ z => z.elim
      have R8 := Rep.unhide (c := c.comp scope cl C (nc ++ c.hid)) |>.mp (R7.weak w5)
      have R8c := cell R7
      refine wpAny_mono ((op_append (c := c.comp scope cl C (nc ++ c.hid)) (K := fun _ σ' => σ' = ⟨[], (Dd, listOf (vs ++ [r]).toArray (kk + 1)) :: (L (i + 1) a' ++ (c.env.locals, oL) :: (I, o2) :: kp), Z u'⟩) (Pick.app (.there (.there .here)) _) (by k_extra "o") rfl).run s5 R8) (fun _ s6 ⟨σ6, R9, e6⟩ => ?_) fun _ _ z => z.elim
      subst e6
      have R10 : Rep y (c.comp scope cl C ((c.env.locals, oL) :: ((I, o2) :: (Dd, listOf (vs ++ [r]).toArray (kk + 1)) :: kp) ++ (nc ++ c.hid))) ⟨[], L (i + 1) a', Z u'⟩ s6 :=
        (Rep.unhide (c := c.comp scope cl C (nc ++ c.hid))).mpr (Rep.perm (List.perm_middle.symm.trans (List.Perm.append_left _ ((List.Perm.swap ..).trans (List.Perm.cons _ (List.Perm.swap ..))))) R9)
      refine ⟨k, Nat.lt_succ_self _, i + 1, vs ++ [r], a', o2, kk + 1, u', by k_extra "o", by rw [List.length_append]; exact Nat.succ_le_succ hvl, h5, R10, W.frame _ _ _ st' fun b hb o e => ?_⟩
      rcases hfp b hb with hb | ⟨o', hob⟩
      · rw [hb, ho2] at e; cases e
        rw [hb]; exact (R10.N (I, o2) (List.mem_append_right _ (.tail _ (.head _)))).1
      · have m1 : ∀ (l : Led) (z : Addr × Obj), (b, o') ∈ l ++ (c.comp scope cl C ((c.env.locals, oL) :: ((I, o2) :: z :: kp) ++ (nc ++ c.hid))).hid := fun l z => List.mem_append_right _ (.tail _ (.tail _ (.tail _ (List.mem_append_left _ hob))))
        have := (R4.N _ (m1 _ _)).1
        rw [show h'.get? b = some o' from this] at e; cases e
        exact (R10.N _ (m1 _ _)).1
theorem comp_core {α : Type} {elt iter tg : Expr} {ifs : List Expr} {scope : Scope} {cl : List (Str × Addr)} {pos : Pos} {n : Nat} {P : Nat → Value → Prop} {kp : Led} {fs : List (Str × Value)} {cs cs₂ csR : List (Str × Addr × Option Value)} {ito : Obj} {fp : List Addr} {Sx : Nat → Heap → Prop} {s : Shared} {RR : Value → Addr → Result → Shared → Prop}
    (L : Nat → α → Led) (Pre : Nat → List Value → α → Prop) (ok : CxOk y tb nm b₀ D U c)
    (hkind : scope.kind = .function) (hcell : ∀ y ∈ scope.names, y.2 ≠ .cell) (hdb : (relN nm scope.names).lookup ("__debug__" : Str) = none) (hcd : (relN nm scope.names).lookup ("__classdict__" : Str) = none)
    (hcs : cs.Perm (cs₂ ++ csR)) (hcl : ∀ q ∈ cs₂, cl.lookup q.1 = some q.2.1)
    (turn : ∀ c' (K' : Value → St → Prop) (K0 : St → Prop) i vs a v, CxOk y tb (relN nm scope.names) b₀ D U c' → i < n → P i v → (∀ r σ a', Pre (i + 1) (vs ++ [r]) a' → Weak σ ⟨[], L (i + 1) a', cs₂⟩ → K' r σ) → (∀ σ a', Pre (i + 1) vs a' → Weak σ ⟨[], L (i + 1) a', cs₂⟩ → K0 σ) → Pre i vs a →
      Op y c' (assign tg c'.env v) ⟨[], L i a, cs₂⟩ fun _ σ0 => CT y tb (relN nm scope.names) c' ifs σ0 fun q σ1 => IfK q (WPe y tb (relN nm scope.names) c' 20 elt σ1 K') (K0 σ1))
    (a : α) (ha : Pre 0 [] a) (hn : n ≤ 1000)
    (R : Rep y (c.hide ((s.heap.objs.size, ito) :: kp)) ⟨fs, L 0 a, cs⟩ { s with heap := s.heap.push ito }) (W : Walks y.P y.w c.A s.heap.objs.size fp [s.heap.objs.size] n P Sx) (st0 : Sx 0 (s.heap.push ito)) (hfp : ∀ b ∈ fp, b = s.heap.objs.size ∨ ∃ o, (b, o) ∈ kp) (hI : ∀ i h, Sx i h → ∃ o, h.get? s.heap.objs.size = some o ∧ Quiet o)
    (hRR : ∀ D C n' vs a s', Pre n vs a → vs.length ≤ n → RL y c fs ((D, listOf vs.toArray n') :: (L n a ++ kp)) cs C s' → RR (.ref D) C (.ok .next) s') :
    wpAny (model y.P y.w) c.A (newList []) (fun acc s₃ => wpAny (model y.P y.w) c.A (newFunctionEnv scope c.env.globals cl [] c.env.qual none .none (some c.env)) (fun cenv s₄ =>
      codeAny (model y.P y.w) c.A (.compStart (.ListComp elt [⟨tg, iter, ifs, 0⟩] scope pos) 0 (.ref s.heap.objs.size) acc { cenv with scope := relabel scope c.env }) (RR acc cenv.locals) s₄) (fun _ _ => False) s₃) (fun _ _ => False) { s with heap := s.heap.push ito } := by
  have hI0 : (s.heap.push ito).get? s.heap.objs.size = some ito := by
    have := (R.N (s.heap.objs.size, ito) (List.mem_append_right _ (.head _))).1
    exact this
  refine wpAny_newObj_type (wpAny_newFunctionEnv hcell (by intro y hy; simp at hy) (fun h₁ hns₁ hsb₁ => ?_) hkind)
  dsimp only at hns₁ hsb₁ ⊢
  have R1 := R.fresh (listOf #[] 0) rfl
  dsimp only at R1
  generalize hD : (s.heap.push ito).objs.size = Dd at R1 ⊢
  change Rep y (c.hide ((s.heap.objs.size, ito) :: kp)) ⟨fs, (Dd, listOf #[] 0) :: L 0 a, cs⟩ _ at R1
  change Heap.SameBut ((s.heap.push ito).push (listOf #[] 0)).objs.size (((s.heap.push ito).push (listOf #[] 0)).push _) h₁ at hsb₁
  change h₁.Ns ((s.heap.push ito).push (listOf #[] 0)).objs.size _ at hns₁
  change codeAny _ _ (.compStart _ 0 _ _ (compEnvC scope cl ((s.heap.push ito).push (listOf #[] 0)).objs.size c.env)) (RR _ ((s.heap.push ito).push (listOf #[] 0)).objs.size) _
  generalize hH2 : (s.heap.push ito).push (listOf #[] 0) = H2 at R1 hns₁ hsb₁ ⊢
  have old : ∀ b o, H2.get? b = some o → h₁.get? b = some o := fun b o e => hsb₁.extBut b o (Nat.ne_of_lt (Heap.lt_size e)) (Heap.get?_push_of_some _ e)
  have R1' : Rep y c ⟨fs, L 0 a ++ ((s.heap.objs.size, ito) :: (Dd, listOf #[] 0) :: kp), cs⟩ { s with heap := H2 } :=
    Rep.perm (List.perm_middle.symm.trans (List.Perm.append_left _ (List.Perm.swap ..))) (Rep.unhide.mp R1)
  have hab : c.g.objs.size ≤ c.env.locals := R1'.F.above
  obtain ⟨oL, nc, hL, hn1, hn2, R2⟩ := R1'.into (scope := scope) (tk := s.toks + ([] : List (Str × Value)).length) hcs hcl (Nat.le_refl _) old hns₁
  generalize hC : H2.objs.size = C at R2 hns₁ hsb₁ ⊢
  have st1 : Sx 0 h₁ := W.frame _ _ _ st0 fun b hb o e => old b o (hH2 ▸ Heap.get?_push_of_some _ e)
  have okc : ∀ h, CxOk y tb (relN nm scope.names) b₀ D U (c.comp scope cl C ((c.env.locals, oL) :: h ++ (nc ++ c.hid))) := fun h => ok.comp hL hab hkind hdb hcd
  have hlk : ∀ q ∈ cs, c.env.cells.lookup q.1 = some q.2.1 := fun q hq => (R1'.C q hq).look
  have cov := R1'.cov
  have hne : ∀ {b : Addr}, b ≠ s.heap.objs.size → b ∉ [s.heap.objs.size] := fun h z => h (List.mem_singleton.mp z)
  have p1 : ∀ (l r : Led) (q z : Addr × Obj), (l ++ q :: z :: r).Perm (z :: (l ++ q :: r)) := fun l r q z => (List.Perm.append_left l (List.Perm.swap ..)).trans List.perm_middle
  have loop := comp_run (elt := elt) (iter := iter) (tg := tg) (pos := pos) (RR := RR) (fun _ : Unit => cs₂) (fun _ _ _ _ h => h) L Pre (fun c' K' K0 i vs a v _ ok' hi hP h1 h2 hp => turn c' K' K0 i vs a v ok' hi hP (fun r σ a' h => h1 r σ a' () h) (fun σ a' h => h2 σ a' () h) hp) hn W hfp hI okc (fun vs a kk s' hp hvl R5 => by
    obtain ⟨oC, mC, h1, R6⟩ := R5.leave hL hab cov hcs hlk hn1 hn2
    exact hRR _ _ kk vs a _ hp hvl ⟨oC, mC, h1, Rep.perm (List.Perm.cons _ List.perm_middle) R6⟩) () a ha R2 st1
  exact codeAny_compStart_list loop (W.self 0 _ _ _ st1 loop)
structure CG (y : Gl) (c : Cx) (elt : Expr) (tg : Expr) (iter : Expr) (ifs : List Expr) (scope : Scope) (pos : Pos) (cl : List (Str × Addr)) (use : Option (Value → Sem Unit)) (Q : Value → Shared → Prop) (xv : Value) (σ : St) : Prop where
  run : ∀ s, Rep y c σ s → wpAny (model y.P y.w) c.A (pyIter xv) (fun it s₂ => wpAny (model y.P y.w) c.A (newList []) (fun acc s₃ => wpAny (model y.P y.w) c.A (newFunctionEnv scope c.env.globals cl [] c.env.qual none .none (some c.env)) (fun cenv s₄ =>
      codeAny (model y.P y.w) c.A (.compStart (.ListComp elt [⟨tg, iter, ifs, 0⟩] scope pos) 0 it acc { cenv with scope := relabel scope c.env }) (compPost (model y.P y.w) c.A (fun _ _ => False) use Q acc cenv.locals) s₄) (fun _ _ => False) s₃) (fun _ _ => False) s₂) (fun _ _ => False) s
noncomputable def namesOk (l : List (Str × NameKind)) : Bool := l.all fun q => q.2 != .cell && (q.2 != .local || l.lookup q.1 == some .local)
theorem names_cell {l : List (Str × NameKind)} (h : namesOk l = true) : ∀ q ∈ l, q.2 ≠ .cell := fun q hq e => by
  have := List.all_eq_true.mp h q hq
  rw [e] at this; exact absurd this (by simp)
theorem names_loc {l : List (Str × NameKind)} (h : namesOk l = true) : ∀ q ∈ l, q.2 = .local → l.lookup q.1 = some .local := fun q hq e => by
  have := List.all_eq_true.mp h q hq
  rw [Bool.and_eq_true, Bool.or_eq_true, beq_iff_eq, e] at this
  exact this.2.resolve_left (by decide)
section
variable {elt iter tg : Expr} {x z : Str} {px pz : Pos} {ifs : List Expr} {scope : Scope} {pos spos : Pos} {cl : List (Str × Addr)} {xv : Value} {n : Nat} {P : Nat → Value → Prop} {kp led : Led} {fs : List (Str × Value)} {cs : List (Str × Addr × Option Value)}
theorem op_comp {K : Value → St → Prop} (ok : CxOk y tb nm b₀ D U c) (hc : clFrom scope.names cs [] = some cl) (hk : scope.kind = .function) (hn : namesOk scope.names = true) (hi : plainIter iter = true)
    (h : WPe y tb nm c 20 iter ⟨fs, led, cs⟩ (CG y c elt tg iter ifs scope pos cl none fun v s' => ∃ σ', Rep y c σ' s' ∧ K v σ')) : Op y c (eval (.ListComp elt [⟨tg, iter, ifs, 0⟩] scope pos) c.env) ⟨fs, led, cs⟩ K := by
  refine ⟨fun s R => ?_⟩
  rw [eval_ListComp]
  exact wpAny_comprehension_free (use := none) rfl (iter_plain hi) (closure_of (fun q hq => (R.C q hq).look) hc) hk (names_loc hn) (wpAny_mono ((e_ok ok 20 _ _ _ h).run s R) (fun xv s₁ ⟨σ1, R1, h1⟩ => h1.run s₁ R1) fun _ _ e => e)
theorem op_compA {K : Flow → St → Prop} (ok : CxOk y tb nm b₀ D U c) (hsw : swapsWith (.ListComp elt [⟨tg, iter, ifs, 0⟩] scope pos) (some (.Name z pz)) spos.line c.env = pure true) (hc : clFrom scope.names cs [] = some cl) (hk : scope.kind = .function) (hn : namesOk scope.names = true) (hi : plainIter iter = true)
    (h : WPe y tb nm c 20 iter ⟨fs, led, cs⟩ (CG y c elt tg iter ifs scope pos cl (some (assign (.Name z pz) c.env)) fun _ s' => ∃ σ', Rep y c σ' s' ∧ K .next σ')) : Op y c (exec (.Assign [.Name z pz] (.ListComp elt [⟨tg, iter, ifs, 0⟩] scope pos) spos) c.env) ⟨fs, led, cs⟩ K := by
  refine ⟨fun s R => ?_⟩
  rw [exec_Assign_Name_used _ _ _ _ hsw]
  refine wpAny_bind (wpAny_standAt (wpAny_bind ?_))
  show wpAny _ _ (do let _ ← comprehension (.ListComp elt [⟨tg, iter, ifs, 0⟩] scope pos) scope c.env _ (newList []) false (eval iter c.env) (some (assign (.Name z pz) c.env))) _ _ s
  exact wpAny_bind (wpAny_mono (wpAny_comprehension_free (use := some (assign (.Name z pz) c.env)) (Q := fun _ s' => ∃ σ', Rep y c σ' s' ∧ K .next σ') rfl (iter_plain hi) (closure_of (fun q hq => (R.C q hq).look) hc) hk (names_loc hn)
    (wpAny_mono ((e_ok ok 20 _ _ _ h).run s R) (fun xv s₁ ⟨σ1, R1, h1⟩ => h1.run s₁ R1) fun _ _ e => e)) (fun _ s' hq => wpAny_pure (wpAny_pure hq)) fun _ _ e => e)
variable {cs₂ csR : List (Str × Addr × Option Value)}
theorem cg_ofG {α : Type} {use : Option (Value → Sem Unit)} {Q : Value → Shared → Prop} (L : Nat → α → Led) (Pre : Nat → List Value → α → Prop) (ok : CxOk y tb nm b₀ D U c)
    (src : ∀ s, (∀ p ∈ kp, s.heap.get? p.1 = some p.2) → SrcK y.P y.w c.A s xv n P kp)
    (hkind : scope.kind = .function) (hn : namesOk scope.names = true) (hdb : (relN nm scope.names).lookup ("__debug__" : Str) = none) (hcd : (relN nm scope.names).lookup ("__classdict__" : Str) = none)
    (hcs : cs.Perm (cs₂ ++ csR)) (hcl : ∀ q ∈ cs₂, cl.lookup q.1 = some q.2.1) (hn' : n ≤ 1000)
    (turn : ∀ c' (K' : Value → St → Prop) (K0 : St → Prop) i vs a v, CxOk y tb (relN nm scope.names) b₀ D U c' → i < n → P i v → (∀ r σ a', Pre (i + 1) (vs ++ [r]) a' → Weak σ ⟨[], L (i + 1) a', cs₂⟩ → K' r σ) → (∀ σ a', Pre (i + 1) vs a' → Weak σ ⟨[], L (i + 1) a', cs₂⟩ → K0 σ) → Pre i vs a →
      Op y c' (assign tg c'.env v) ⟨[], L i a, cs₂⟩ fun _ σ0 => CT y tb (relN nm scope.names) c' ifs σ0 fun q σ1 => IfK q (WPe y tb (relN nm scope.names) c' 20 elt σ1 K') (K0 σ1))
    (a : α) (ha : Pre 0 [] a) (hw : Weak σ ⟨fs, L 0 a ++ kp, cs⟩)
    (fin : ∀ D C n' vs a s', Pre n vs a → vs.length ≤ n → RL y c fs ((D, listOf vs.toArray n') :: (L n a ++ kp)) cs C s' → compPost (model y.P y.w) c.A (fun _ _ => False) use Q (.ref D) C (.ok .next) s') :
    CG y c elt tg iter ifs scope pos cl use Q xv σ := by
  refine ⟨fun s R => ?_⟩
  replace R := R.weak hw
  refine src s (fun p hp => (R.N p (List.mem_append_left _ (List.mem_append_right _ hp))).1) _ _ fun ito fp Sx W st0 hfp hI => ?_
  have R0 : Rep y (c.hide ((s.heap.objs.size, ito) :: kp)) ⟨fs, L 0 a, cs⟩ { s with heap := s.heap.push ito } := Rep.unhide.mpr (Rep.perm List.perm_middle.symm (R.fresh ito hI.2))
  exact comp_core (RR := fun acc C => compPost (model y.P y.w) c.A (fun _ _ => False) use Q acc C) L Pre ok hkind (names_cell hn) hdb hcd hcs hcl turn a ha hn' R0 W st0 hfp hI.1 fin
theorem cg_of {α : Type} {use : Option (Value → Sem Unit)} {Q : Value → Shared → Prop} (L : Nat → α → Led) (Pre : Nat → List Value → α → Prop) (ok : CxOk y tb nm b₀ D U c)
    (src : ∀ s, (∀ p ∈ kp, s.heap.get? p.1 = some p.2) → SrcK y.P y.w c.A s xv n P kp)
    (hkind : scope.kind = .function) (hn : namesOk scope.names = true) (hx : (relN nm scope.names).lookup x = some .local) (hdb : (relN nm scope.names).lookup ("__debug__" : Str) = none) (hcd : (relN nm scope.names).lookup ("__classdict__" : Str) = none)
    (hcs : cs.Perm (cs₂ ++ csR)) (hcl : ∀ q ∈ cs₂, cl.lookup q.1 = some q.2.1) (hn' : n ≤ 1000)
    (turn : ∀ c' (K' : Value → St → Prop) (K0 : St → Prop) i vs a v, CxOk y tb (relN nm scope.names) b₀ D U c' → i < n → P i v → (∀ r σ a', Pre (i + 1) (vs ++ [r]) a' → Weak σ ⟨[], L (i + 1) a', cs₂⟩ → K' r σ) → (∀ σ a', Pre (i + 1) vs a' → Weak σ ⟨[], L (i + 1) a', cs₂⟩ → K0 σ) → Pre i vs a →
      CT y tb (relN nm scope.names) c' ifs ⟨[(x, v)], L i a, cs₂⟩ fun q σ1 => IfK q (WPe y tb (relN nm scope.names) c' 20 elt σ1 K') (K0 σ1))
    (a : α) (ha : Pre 0 [] a) (hw : Weak σ ⟨fs, L 0 a ++ kp, cs⟩)
    (fin : ∀ D C n' vs a s', Pre n vs a → vs.length ≤ n → RL y c fs ((D, listOf vs.toArray n') :: (L n a ++ kp)) cs C s' → compPost (model y.P y.w) c.A (fun _ _ => False) use Q (.ref D) C (.ok .next) s') :
    CG y c elt (.Name x px) iter ifs scope pos cl use Q xv σ :=
  cg_ofG L Pre ok src hkind hn hdb hcd hcs hcl hn' (fun c' K' K0 i vs a v ok' hi hP h1 h2 hp => op_nameT ok' hx (turn c' K' K0 i vs a v ok' hi hP h1 h2 hp)) a ha hw fin
theorem fin_eval {led : Led} {fs : List (Str × Value)} {C Da : Addr} {s' : Shared} {K : Value → St → Prop} (r : RL y c fs led cs C s') (h : K (.ref Da) ⟨fs, led, cs⟩) :
    compPost (model y.P y.w) c.A (fun _ _ => False) none (fun v s' => ∃ σ', Rep y c σ' s' ∧ K v σ') (.ref Da) C (.ok .next) s' := by
  obtain ⟨oC, mC, h1, R⟩ := r
  exact ⟨mC, h1 _ (R.N (C, oC) (.head _)).1, fun h' hs => ⟨_, (Rep.front (tk := s'.toks) R fun b ob hb e => (hs.2 b hb).trans e).1, h⟩⟩
theorem fin_assign {led : Led} {fs : List (Str × Value)} {C Da : Addr} {s' : Shared} {K : Flow → St → Prop} (ok : CxOk y tb nm b₀ D U c) (hz : nm.lookup z = some .local) (r : RL y c fs led cs C s') (h : K .next ⟨(z, .ref Da) :: fs, led, cs⟩) :
    compPost (model y.P y.w) c.A (fun _ _ => False) (some (assign (.Name z pz) c.env)) (fun _ s' => ∃ σ', Rep y c σ' s' ∧ K .next σ') (.ref Da) C (.ok .next) s' := by
  obtain ⟨oC, mC, h1, R⟩ := r
  show wpAny _ _ (assign (.Name z pz) c.env (.ref Da)) _ _ s'
  refine wpAny_assign_Name (wpAny_storeName_local ((ok.kindOf z).trans hz) R.F.ns (fun h2 hn hs => ?_) ok.cls)
  have R2 := fun tk => R.set (tk := tk) hn hs
  exact ⟨mC, h1 _ ((R2 _).N (C, oC) (.head _)).1, fun h' hs' => ⟨_, (Rep.front (tk := s'.toks + 1) (R2 (s'.toks + 1)) fun b ob hb e => (hs'.2 b hb).trans e).1, h⟩⟩
theorem swap_of (ok : CxOk y tb nm b₀ D U c) (hz : nm.lookup z = some .local) (hl : (pz.line == pos.line) = true) (hn : (scope.names.any fun q => q.1 == z && (q.2 == .local || q.2 == .cell)) = false) :
    swapsWith (.ListComp elt [⟨tg, iter, ifs, 0⟩] scope pos) (some (.Name z pz)) spos.line c.env = pure true := by
  show (pure (c.env.blockKind == .function && c.env.kindOf z == some .local && pz.line == pos.line && !(scope.names.any fun (n, k) => n == z && (k == .local || k == .cell))) : Sem Bool) = pure true
  have h1 : (c.env.blockKind == ScopeKind.function) = true := by
    unfold Env.blockKind; rw [ok.kind]; rfl
  have h2 : (c.env.kindOf z == some NameKind.local) = true := by rw [ok.kindOf, hz]; rfl
  have h3 : (scope.names.any fun (n, k) => n == z && (k == .local || k == .cell)) = false := hn
  rw [h1, h2, hl, h3]
  rfl
end
end
end MineV
end

section
namespace MineV
open PySem PySem.W PyProof.Rows PySem.Calls PySem.Spec
noncomputable abbrev rangeOf (a b c : Int) (t u v : Tok) : Obj := { cls := .type "range", dict := none, data := .fields #[.int a t, .int b u, .int c v], slots := #[] }
section
variable {y : Gl} {tb : Tab} {nm : List (Str × NameKind)} {b₀ : Heap} {D U : Nat} {c : Cx} {σ : St} {fs : List (Str × Value)} {led : Led} {cs : List (Str × Addr × Option Value)}
theorem op_range {n : Int} {t : Tok} {K : Value → St → Prop} (h : ∀ r a u v, K (.ref r) ⟨fs, (r, rangeOf 0 n 1 a u v) :: led, cs⟩) : Op y c (call (.type "range") [.int n t]) ⟨fs, led, cs⟩ K :=
  ⟨fun s R => call_range_1 ⟨_, (R.fresh _ rfl).toks (tk := s.toks + 1 + 1), h _ _ _ _⟩⟩
theorem src_range {A : Around} {prog : Program} {w : World} {n : Nat} {r : Addr} {a u v : Tok} (hn : n ≤ 1000) (hh : A.handled = none) (s : Shared) (h : ∀ p ∈ [(r, rangeOf 0 (n : Int) 1 a u v)], s.heap.get? p.1 = some p.2) :
    SrcK prog w A s (.ref r) n (fun i x => i < n ∧ ∃ t, x = .int (i : Int) t) [(r, rangeOf 0 (n : Int) 1 a u v)] := srcK_range hn hh (h _ (.head _))
theorem src_list {A : Around} {prog : Program} {w : World} {l : Addr} {vs : List Value} {nn : Nat} (hh : A.handled = none) (s : Shared) (h : ∀ p ∈ [(l, listOf vs.toArray nn)], s.heap.get? p.1 = some p.2) :
    SrcK prog w A s (.ref l) vs.length (fun i v => vs[i]? = some v) [(l, listOf vs.toArray nn)] := srcK_list hh (h _ (.head _))
theorem op_mInsert {Dd : Addr} {its : Array Value} {n : Nat} {pl : Sem Bool} {K : Value × List Value → St → Prop} (hm : (Dd, listOf its n) ∈ σ.led) (h : K (.builtin "list.insert", [.ref Dd]) σ) : Op y c (getMethod (.ref Dd) "insert" pl) σ K := op_method hm PySem.F.slot_list_insert PySem.F.type_list_insert h
theorem op_mPop {Dd : Addr} {its : Array Value} {n : Nat} {pl : Sem Bool} {K : Value × List Value → St → Prop} (hm : (Dd, listOf its n) ∈ σ.led) (h : K (.builtin "list.pop", [.ref Dd]) σ) : Op y c (getMethod (.ref Dd) "pop" pl) σ K := op_method hm PySem.F.slot_list_pop PySem.F.type_list_pop h
theorem op_mAppend {Dd : Addr} {its : Array Value} {n : Nat} {pl : Sem Bool} {K : Value × List Value → St → Prop} (hm : (Dd, listOf its n) ∈ σ.led) (h : K (.builtin "list.append", [.ref Dd]) σ) : Op y c (getMethod (.ref Dd) "append" pl) σ K := op_method hm PySem.F.slot_list_append PySem.F.type_list_append h
theorem op_popS {Dd : Addr} {vs : List Value} {n i : Nat} {k : Int} {u : Tok} {rest : Led} {ss : List Str} {K : Value → St → Prop} (hp : Pick (Dd, listOf vs.toArray n) led rest) (hss : StrsAre vs ss) (hk : k = i) (hi : i < vs.length) (hl : vs.length ≤ 1000)
    (h : ∀ t, K (.str (ss.getD i "") t) ⟨fs, (Dd, listOf (delL vs i).toArray (n + 1)) :: rest, cs⟩) : Op y c (call (.builtin "list.pop") [.ref Dd, .int k u]) ⟨fs, led, cs⟩ K := by
  have e := hss.len_eq
  obtain ⟨t, ht⟩ := hss.at (j := i) (y := ss.getD i "") (by simp [show i < ss.length by k_extra "o"])
  exact op_popAt hp hk ht hl (h t)
theorem op_or {a b : Expr} {p : Pos} {w0 : Sem Value} {K : Bool → St → Prop} (ok : CxOk y tb nm b₀ D U c) (h : WPt y tb nm c 20 a σ fun q σ1 => IfK q (K true σ1) (WPt y tb nm c 20 b σ1 K)) : Op y c (isTrue (.BoolOp .Or [a, b] p) c.env w0) σ K := by
  refine ⟨fun s R => isTrue_or (wpAny_mono ((t_ok ok h).run s R) (fun q s1 ⟨σ1, R1, hq⟩ => ?_) fun _ _ x => x)⟩
  cases q with
  | true => rw [if_pos rfl]; exact ⟨σ1, R1, hq.t rfl⟩
  | false =>
    rw [if_neg (by decide)]
    refine isTrue_or (wpAny_mono ((t_ok ok (hq.f rfl)).run s1 R1) (fun q s2 ⟨σ2, R2, h2⟩ => ?_) fun _ _ x => x)
    cases q with
    | true => rw [if_pos rfl]; exact ⟨σ2, R2, h2⟩
    | false => rw [if_neg (by decide)]; exact isTrue_or_nil ⟨σ2, R2, h2⟩
end
section
variable {y : Gl} {tb : Tab} {nm : List (Str × NameKind)} {b₀ : Heap} {D U D' U' : Nat} {c : Cx} {σ : St} {fs fs' : List (Str × Value)} {led : Led} {cs : List (Str × Addr × Option Value)} {S : (Value → Led → Prop) → Prop}
theorem op_callT {vs : List Value} {kw : List (Str × Value)} {f : Value} {tl : Led} {Kk : Value → St → Prop} (pre : Led) (ok : CxOk y tb nm b₀ D' U' c) (H : FC y b₀ D U f ⟨vs, kw⟩ tl S) (hd : D ≤ D') (hu : U ≤ U') (hp : led.Perm (pre ++ tl))
    (h : S fun v tl' => Kk v ⟨fs, pre ++ tl', cs⟩) : Op y c (call f vs kw) ⟨fs, led, cs⟩ Kk := by
  have d := ok.dep
  have u := ok.unt
  have hpk : ∀ {tl : Led}, Pk tl (tl ++ pre) pre := fun {tl} => by
    induction tl with
    | nil => exact .nil
    | cons p r ih => exact .cons .here ih
  refine ⟨fun s R => ?_⟩
  have R' := Rep.perm (hp.trans List.perm_append_comm) R
  exact wpAny_call (call_at ok H rfl (by k_extra "o") (by k_extra "o") hpk R' _ h fun v tl' s' k R2 => ⟨_, Rep.perm List.perm_append_comm R2, k⟩)
theorem Weak.p {r : Led} {led' : Led} (hf : gets fs fs' = wants fs') (hp : led.Perm (led' ++ r)) : Weak ⟨fs, led, cs⟩ ⟨fs', led', cs⟩ := ⟨getF_of hf, ⟨r, hp⟩, rfl⟩
theorem Weak.s (hf : gets fs fs' = wants fs') : Weak ⟨fs, led, cs⟩ ⟨fs', led, cs⟩ := ⟨getF_of hf, ⟨[], by rw [List.append_nil]⟩, rfl⟩
end
noncomputable def cellsV (binds : List (Str × Value)) (l : List (Str × Addr)) : List (Str × Addr × Option Value) := l.map fun q => (q.1, q.2, getF binds.reverse q.1)
noncomputable def localsOf (names : List (Str × NameKind)) (l : List (Str × Value)) : List (Str × Value) := l.filter fun q => names.lookup q.1 == some .local
theorem getF_app : ∀ (a b : List (Str × Value)) (x : Str), getF (a ++ b) x = match getF a x with | some v => some v | none => getF b x
  | [], _, _ => rfl
  | (k, v) :: r, b, x => by
    show (if x = k then some v else getF (r ++ b) x) = match (if x = k then some v else getF r x) with | some v => some v | none => getF b x
    by_cases e : x = k
    · rw [if_pos e, if_pos e]
    · rw [if_neg e, if_neg e]; exact getF_app r b x
theorem bindC_get {kd : Str → Option NameKind} {x : Str} (hx : kd x ≠ some .local) : ∀ (binds : List (Str × Value)) (m : Str → Option Value), bindC kd binds m x = match getF binds.reverse x with | some v => some v | none => m x
  | [], _ => rfl
  | (k, v) :: r, m => by
    unfold bindC
    rw [bindC_get hx r, List.reverse_cons, getF_app]
    cases e1 : getF r.reverse x with
    | some u => rfl
    | none =>
      dsimp only
      by_cases e : x = k
      · subst e
        rw [if_neg hx, if_pos rfl]
        show some v = match (if x = x then some v else none) with | some v => some v | none => m x
        rw [if_pos rfl]
      · have : getF [(k, v)] x = none := by show (if x = k then some v else none) = none; rw [if_neg e]
        rw [this]
        by_cases h : kd k = some .local
        · rw [if_pos h]
        · rw [if_neg h, if_neg e]
theorem bindL_get {kd : Str → Option NameKind} {x : Str} (hx : kd x = some .local) : ∀ (binds : List (Str × Value)) (m : Str → Option Value), bindL kd binds m x = match getF binds.reverse x with | some v => some v | none => m x
  | [], _ => rfl
  | (k, v) :: r, m => by
    unfold bindL
    rw [bindL_get hx r, List.reverse_cons, getF_app]
    cases e1 : getF r.reverse x with
    | some u => rfl
    | none =>
      dsimp only
      by_cases e : x = k
      · subst e
        rw [if_pos hx, if_pos rfl]
        show some v = match (if x = x then some v else none) with | some v => some v | none => m x
        rw [if_pos rfl]
      · have : getF [(k, v)] x = none := by show (if x = k then some v else none) = none; rw [if_neg e]
        rw [this]
        by_cases h : kd k = some .local
        · rw [if_pos h, if_neg e]
        · rw [if_neg h]
theorem localsOf_get {names : List (Str × NameKind)} {x : Str} {v : Value} : ∀ {l : List (Str × Value)}, getF (localsOf names l) x = some v → names.lookup x = some .local ∧ getF l x = some v
  | (k, u) :: r, h => by
    unfold localsOf at h
    rw [List.filter_cons] at h
    by_cases hp : (names.lookup k == some NameKind.local) = true
    · rw [if_pos hp] at h
      unfold getF at h ⊢
      by_cases e : x = k
      · rw [if_pos e] at h ⊢; subst e; exact ⟨beq_iff_eq.mp hp, h⟩
      · rw [if_neg e] at h ⊢; exact localsOf_get h
    · rw [if_neg hp] at h
      have := localsOf_get (l := r) h
      refine ⟨this.1, ?_⟩
      unfold getF
      rw [if_neg (fun e => hp (by rw [← e, this.1]; rfl))]
      exact this.2
section
variable {y : Gl} {b₀ : Heap} {D U : Nat} {tl : Led} {S : (Value → Led → Prop) → Prop} {K : Frag} {p : Program} {loose : List Str} {mean : ExcName → Option Value} {mg mb : Str → Option Value} {tb : Tab}
variable {name qual : Str} {params : Arguments} {body : List Stmt} {scope : Scope} {dV kV doc pm cdv ct oc : Value} {an od : Option Addr} {osl : Array (Option Value)} {f : Addr} {args : Args} {binds : List (Str × Value)}
theorem enterVC (X : K.In b₀) (T : Top p loose mean mg mb b₀) (ht : glOk K tb = true)
    (ho : K.lookup f = some ⟨oc, od, .func (fnX name qual params body scope [] dV kV doc pm an cdv ct), osl⟩) (hcd : codeIn K cdv qual = true)
    (hbind : ∀ s : Shared, K.In s.heap → BindsTo s (fnX name qual params body scope [] dV kV doc pm an cdv ct) args binds)
    (hkind : (binds.all fun y => scope.names.lookup y.1 == some .local || scope.names.lookup y.1 == some .cell) = true) (hnd : ((cellsFrom 0 scope.names []).map (·.1)).Nodup) (hck : ((cellsFrom 0 scope.names []).all fun q => scope.names.lookup q.1 == some .cell) = true)
    (h : ∀ k c a, S k → CxOk y tb scope.names b₀ D U c → WPss (WPs y tb scope.names c 30) body (EndK k) ⟨localsOf scope.names binds.reverse, tl, cellsV binds (cellsFrom a scope.names [])⟩)
    (hco : scope.isCoroutine = false) (hgen : scope.isGenerator = false) (hk : scope.kind = .function)
    (hdb : scope.names.lookup ("__debug__" : Str) = none) (hcl : scope.names.lookup ("__classdict__" : Str) = none) :
    FC y b₀ (D + 1) (U + 3) (.ref f) args tl S := by
  intro dp un gd fr s k R M nd G hd hu hS hR
  have st : b₀.StaysIn (hideAll s.heap (tl.map (·.1))) := fun b o e => hideAll_get _ (M.stays b o e) fun q => by
    obtain ⟨x, hx, rfl⟩ := List.mem_map.mp q
    rw [(M.cells x hx).2] at e; cases e
  have B : Below (AR dp un gd fr) b₀ fr (hideAll s.heap (tl.map (·.1))) := ⟨rfl, st, funFrames_hideAll M.frames fun env he a ha => by
    obtain ⟨x, hx, rfl⟩ := List.mem_map.mp ha
    exact M.off env he x hx⟩
  have XS : K.In s.heap := X.keeps M.stays
  have Xg : K.In (hideAll s.heap (tl.map (·.1))) := X.keeps fun b o e => st b o e
  have Tg := T.keeps fun b o e => st b o e
  refine codeAny_call_function (show dp < recursionLimit by k_extra "o") (XS _ _ ho) rfl hco hgen rfl (codeRec_of XS hcd) (hbind s XS _ _ _ _ ?_)
  refine wpAny_newFunctionEnv_cells hk (kindsX hkind _) fun env' he s' x => ?_
  subst he
  refine ⟨(T.nolimit.keeps M.stays).keeps x.toInCall.keep, codeAny_func ?_⟩
  obtain ⟨h₁, tk, rfl, _⟩ := x.done
  have hk₁ := x.toInCall.keep
  let c : Cx := ⟨dp + 1, un + 3, gd, envOfC qual scope s.heap.objs.size f cdv :: fr, envOfC qual scope s.heap.objs.size f cdv, hideAll s.heap (tl.map (·.1)), s, []⟩
  have ok : CxOk y tb scope.names b₀ D U c := ⟨by show dp + 1 + D < _; k_extra "o", by show un + 3 + U < _; k_extra "o", fun σ s R => amb_def B rfl hk rfl R, st, rfl, hk, rfl, rfl, hdb, hcl,
    fun env x v pos s' L m A Q hg hb hk hx hd hv F' q => look_ok (y := y) ht hv Xg Tg F' hg hb hk hx hd q, fun a ha h' kp => keeps_ok ht ha (Xg.keeps kp)⟩
  have hcl : ∀ {n : Str} {a : Addr}, (n, a) ∈ cellsFrom (s.heap.objs.size + 1) scope.names [] → (cellsFrom (s.heap.objs.size + 1) scope.names []).lookup n = some a := fun hm => lookup_of_mem_nodup (cellsFrom_names scope.names 0 (s.heap.objs.size + 1) [] [] rfl ▸ hnd) hm
  have hkc : ∀ {n : Str} {a : Addr}, (n, a) ∈ cellsFrom (s.heap.objs.size + 1) scope.names [] → scope.names.lookup n = some .cell := fun {n a} hm => by
    have e : (cellsFrom (s.heap.objs.size + 1) scope.names []).map (·.1) = (cellsFrom 0 scope.names []).map (·.1) := (cellsFrom_names scope.names 0 (s.heap.objs.size + 1) [] [] rfl).symm
    have : n ∈ (cellsFrom 0 scope.names []).map (·.1) := e ▸ List.mem_map_of_mem (f := (·.1)) hm
    obtain ⟨q, hq, e2⟩ := List.mem_map.mp this
    have := List.all_eq_true.mp hck q hq
    rw [beq_iff_eq, e2] at this; exact this
  have glt : ∀ {b : Addr} {o : Obj}, s.heap.get? b = some o → b < s.heap.objs.size := fun e => Heap.lt_size e
  have gnone : ∀ {b : Addr}, s.heap.objs.size ≤ b → (hideAll s.heap (tl.map (·.1))).get? b = none := fun {b} hb => by
    cases z : (hideAll s.heap (tl.map (·.1))).get? b with
    | none => rfl
    | some o => exact absurd (glt (of_hideAll _ z)) (Nat.not_lt.mpr hb)
  have ca : ∀ q ∈ cellsV binds (cellsFrom (s.heap.objs.size + 1) scope.names []), CellAt c.g c.env.locals c.env h₁ q := fun q hq => by
    obtain ⟨⟨n, a⟩, hm, rfl⟩ := List.mem_map.mp hq
    have hx := x.cell n a (hcl hm)
    have hlt := x.above n a hm
    rw [bindC_get (x := n) (fun e => by
      have : scope.names.lookup n = some .local := e
      rw [hkc hm] at this; cases this)] at hx
    refine ⟨hcl hm, ?_, Nat.ne_of_gt hlt, gnone (Nat.le_of_lt hlt)⟩
    obtain ⟨o, e1, e2⟩ := hx
    refine ⟨o, e1, e2.trans ?_⟩
    show Data.cell _ = Data.cell (getF binds.reverse n)
    cases getF binds.reverse n <;> rfl
  have rep : Rep y c ⟨localsOf scope.names binds.reverse, tl, cellsV binds (cellsFrom (s.heap.objs.size + 1) scope.names [])⟩ { s with heap := h₁, toks := tk } := by
    refine ⟨rfl, rfl, G, ⟨_, ⟨x.toInCall.ns, fun b o e => hk₁ b o (of_hideAll _ e), Nat.le_of_eq (hideAll_size _ _)⟩, fun z v e => ?_⟩, fun q hq => ?_, ca, ?_⟩
    · obtain ⟨e1, e2⟩ := localsOf_get e
      rw [bindL_get (x := z) e1, e2]
    · rw [show c.hid = [] from rfl, List.append_nil] at hq
      exact ⟨hk₁ _ _ (M.cells q hq).1, Nat.ne_of_lt (glt (M.cells q hq).1), hideAll_none _ (List.mem_map_of_mem hq)⟩
    · unfold adrs
      rw [show c.hid = [] from rfl, List.append_nil, List.nodup_append]
      refine ⟨?_, nd, fun a ha b hb e => ?_⟩
      · unfold cellsV
        rw [List.map_map]
        exact List.pairwise_map.mpr x.apart
      · obtain ⟨q, hq, e1⟩ := List.mem_map.mp ha
        obtain ⟨⟨n, a'⟩, hm, rfl⟩ := List.mem_map.mp hq
        obtain ⟨p, hp, e2⟩ := List.mem_map.mp hb
        have l1 := x.above n a' hm
        have l2 := glt (M.cells p hp).1
        rw [e2, ← e, ← e1] at l2
        exact Nat.lt_asymm l1 l2
  refine wpAny_mono ((ss_ok (s_ok ok 30) (h k c (s.heap.objs.size + 1) hS ok)).run _ rep) (fun fl s' hl => ?_) fun _ _ y => y.elim
  obtain ⟨σ', R', hk'⟩ := hl
  exact end_ok rfl rfl st hk' R' hR
end
end MineV
end

section
namespace MineV
open PySem PySem.W PyProof.Rows PySem.Calls PySem.Spec
section
variable {y : Gl} {tb : Tab} {nm : List (Str × NameKind)} {b₀ : Heap} {D U : Nat} {c : Cx} {σ : St}
theorem newEnv1 {M : Model} {A : Around} {E : Value → Shared → Prop} {s : Shared} {scope : Scope} {gl : Addr} {cl : List (Str × Addr)} {qual : Str} {xb : Str} {outer : Env} {Q : Env → Shared → Prop} (hcf : ∀ n acc, cellsFrom n scope.names acc = (xb, n) :: acc) (hpc : ∀ h, pushCells h scope.names = h.push { cls := .type "cell", data := .cell none })
    (h : Q { scope, locals := s.heap.objs.size, globals := gl, cells := (xb, s.heap.objs.size + 1) :: cl, qual, func := none, code := outer.code, frame := outer.frame, builtins := outer.builtins } { s with heap := (s.heap.push { cls := .type "dict", data := .dict #[] }).push { cls := .type "cell", data := .cell none } }) :
    wpAny M A (newFunctionEnv scope gl cl [] qual none .none (some outer)) Q E s := by
  simp only [newFunctionEnv, Option.isSome_some, if_true]
  refine wpAny_bind (wpAny_alloc ?_)
  refine wpAny_bind (wpAny_layCells _ (fun name kind cells => by cases hkc : kind == NameKind.cell <;> simp [hkc]) _ _ _ _ ?_)
  rw [hcf, hpc]
  rw [show ({ s with heap := s.heap.push { cls := .type "dict", data := .dict #[] } } : Shared).heap.objs.size = s.heap.objs.size + 1 from Heap.size_push ..]
  simp only [List.forIn_nil]
  exact wpAny_bind (wpAny_pure (wpAny_pure h))
theorem Rep.own {f : List (Str × Value)} {led : Led} {cs : List (Str × Addr × Option Value)} {s : Shared} {b : Addr} {o : Obj} {x : Str} {v : Option Value} (R : Rep y c ⟨f, (b, o) :: led, cs⟩ s) (ho : o.data = .cell v) (look : c.env.cells.lookup x = some b) : Rep y c ⟨f, led, (x, b, v) :: cs⟩ s := by
  have z := R.N (b, o) (.head _)
  refine ⟨R.d, R.o, R.G, R.F0, fun p hp => R.N p (.tail _ hp), fun q hq => ?_, ?_⟩
  · rcases List.mem_cons.mp hq with rfl | hq
    · exact ⟨look, ⟨o, z.1, ho⟩, z.2.1, z.2.2⟩
    · exact R.C q hq
  · have n := R.n
    unfold adrs at n ⊢
    exact (List.perm_middle (a := b) (l₁ := cs.map (·.2.1)) (l₂ := (led ++ c.hid).map fun p : Addr × Obj => p.1)).nodup_iff.mp n
theorem Rep.dropCell {f : List (Str × Value)} {led : Led} {q : Str × Addr × Option Value} {cs : List (Str × Addr × Option Value)} {s : Shared} (R : Rep y c ⟨f, led, q :: cs⟩ s) : Rep y c ⟨f, led, cs⟩ s :=
  ⟨R.d, R.o, R.G, R.F0, R.N, fun p hp => R.C p (.tail _ hp), (List.nodup_cons.mp R.n).2⟩
theorem comp_core1 {α : Type} {elt iter tg : Expr} {xb : Str} {ifs : List Expr} {scope : Scope} {cl : List (Str × Addr)} {pos : Pos} {n : Nat} {P : Nat → Value → Prop} {kp : Led} {fs : List (Str × Value)} {cs cs₂ csR : List (Str × Addr × Option Value)} {ito : Obj} {fp : List Addr} {Sx : Nat → Heap → Prop} {s : Shared} {RR : Value → Addr → Result → Shared → Prop}
    (L : Nat → α → Led) (Pre : Nat → List Value → α → Prop) (ok : CxOk y tb nm b₀ D U c)
    (hkind : scope.kind = .function) (hcf : ∀ n acc, cellsFrom n scope.names acc = (xb, n) :: acc) (hpc : ∀ h, pushCells h scope.names = h.push { cls := .type "cell", data := .cell none }) (hdb : (relN nm scope.names).lookup ("__debug__" : Str) = none) (hcd : (relN nm scope.names).lookup ("__classdict__" : Str) = none)
    (hcs : cs.Perm (cs₂ ++ csR)) (hcl : ∀ (b : Addr), ∀ q ∈ cs₂, ((xb, b) :: cl).lookup q.1 = some q.2.1)
    (turn : ∀ c' (K' : Value → St → Prop) (K0 : St → Prop) i vs a v b u, CxOk y tb (relN nm scope.names) b₀ D U c' → i < n → P i v → (∀ r σ a' u', Pre (i + 1) (vs ++ [r]) a' → Weak σ ⟨[], L (i + 1) a', (xb, b, u') :: cs₂⟩ → K' r σ) → (∀ σ a' u', Pre (i + 1) vs a' → Weak σ ⟨[], L (i + 1) a', (xb, b, u') :: cs₂⟩ → K0 σ) → Pre i vs a →
      Op y c' (assign tg c'.env v) ⟨[], L i a, (xb, b, u) :: cs₂⟩ fun _ σ0 => CT y tb (relN nm scope.names) c' ifs σ0 fun q σ1 => IfK q (WPe y tb (relN nm scope.names) c' 20 elt σ1 K') (K0 σ1))
    (a : α) (ha : Pre 0 [] a) (hn : n ≤ 1000)
    (R : Rep y (c.hide ((s.heap.objs.size, ito) :: kp)) ⟨fs, L 0 a, cs⟩ { s with heap := s.heap.push ito }) (W : Walks y.P y.w c.A s.heap.objs.size fp [s.heap.objs.size] n P Sx) (st0 : Sx 0 (s.heap.push ito)) (hfp : ∀ b ∈ fp, b = s.heap.objs.size ∨ ∃ o, (b, o) ∈ kp) (hI : ∀ i h, Sx i h → ∃ o, h.get? s.heap.objs.size = some o ∧ Quiet o)
    (hRR : ∀ D C n' vs a s', Pre n vs a → vs.length ≤ n → RL y c fs ((D, listOf vs.toArray n') :: (L n a ++ kp)) cs C s' → RR (.ref D) C (.ok .next) s') :
    wpAny (model y.P y.w) c.A (newList []) (fun acc s₃ => wpAny (model y.P y.w) c.A (newFunctionEnv scope c.env.globals cl [] c.env.qual none .none (some c.env)) (fun cenv s₄ =>
      codeAny (model y.P y.w) c.A (.compStart (.ListComp elt [⟨tg, iter, ifs, 0⟩] scope pos) 0 (.ref s.heap.objs.size) acc { cenv with scope := relabel scope c.env }) (RR acc cenv.locals) s₄) (fun _ _ => False) s₃) (fun _ _ => False) { s with heap := s.heap.push ito } := by
  have hI0 : (s.heap.push ito).get? s.heap.objs.size = some ito := by
    have := (R.N (s.heap.objs.size, ito) (List.mem_append_right _ (.head _))).1
    exact this
  refine wpAny_newObj_type (newEnv1 hcf hpc ?_)
  dsimp only
  have R1 := R.fresh (listOf #[] 0) rfl
  dsimp only at R1
  generalize hD : (s.heap.push ito).objs.size = Dd at R1 ⊢
  change Rep y (c.hide ((s.heap.objs.size, ito) :: kp)) ⟨fs, (Dd, listOf #[] 0) :: L 0 a, cs⟩ _ at R1
  change codeAny _ _ (.compStart _ 0 _ _ (compEnvC scope ((xb, ((s.heap.push ito).push (listOf #[] 0)).objs.size + 1) :: cl) ((s.heap.push ito).push (listOf #[] 0)).objs.size c.env)) (RR _ ((s.heap.push ito).push (listOf #[] 0)).objs.size) { s with heap := (((s.heap.push ito).push (listOf #[] 0)).push { cls := .type "dict", data := .dict #[] }).push { cls := .type "cell", data := .cell none } }
  generalize hH2 : (s.heap.push ito).push (listOf #[] 0) = H2 at R1 ⊢
  generalize hh1 : (H2.push { cls := .type "dict", data := .dict #[] }).push { cls := .type "cell", data := .cell none } = h₁
  have old : ∀ b o, H2.get? b = some o → h₁.get? b = some o := fun b o e => hh1 ▸ Heap.get?_push_of_some _ (Heap.get?_push_of_some _ e)
  have hns₁ : h₁.Ns H2.objs.size (fun _ => none) := (Heap.Ns.new H2 (.type "dict")).keeps fun b o e => hh1 ▸ Heap.get?_push_of_some _ e
  have R1' : Rep y c ⟨fs, L 0 a ++ ((s.heap.objs.size, ito) :: (Dd, listOf #[] 0) :: kp), cs⟩ { s with heap := H2 } :=
    Rep.perm (List.perm_middle.symm.trans (List.Perm.append_left _ (List.Perm.swap ..))) (Rep.unhide.mp R1)
  have hab : c.g.objs.size ≤ c.env.locals := R1'.F.above
  have hlk : ∀ q ∈ cs, c.env.cells.lookup q.1 = some q.2.1 := fun q hq => (R1'.C q hq).look
  obtain ⟨oL, nc, hL, hn1, hn2, R2a⟩ := R1'.into (scope := scope) (cl := (xb, H2.objs.size + 1) :: cl) (tk := s.toks) hcs (hcl _) (Nat.le_refl _) (fun b o e => Heap.get?_push_of_some _ e) ((Heap.Ns.new H2 (.type "dict")))
  have R2b := R2a.fresh { cls := .type "cell", data := .cell none } rfl
  dsimp only at R2b
  rw [Heap.size_push, hh1] at R2b
  generalize hC : H2.objs.size = C at R2b hns₁ ⊢
  have R2 := Rep.own (x := xb) (v := none) R2b rfl (by show List.lookup xb ((xb, C + 1) :: cl) = _; rw [List.lookup_cons, beq_self_eq_true])
  have st1 : Sx 0 h₁ := W.frame _ _ _ st0 fun b hb o e => old b o (hH2 ▸ Heap.get?_push_of_some _ e)
  have okc : ∀ h, CxOk y tb (relN nm scope.names) b₀ D U (c.comp scope ((xb, C + 1) :: cl) C ((c.env.locals, oL) :: h ++ (nc ++ c.hid))) := fun h => ok.comp hL hab hkind hdb hcd
  have cov := R1'.cov
  have hne : ∀ {b : Addr}, b ≠ s.heap.objs.size → b ∉ [s.heap.objs.size] := fun h z => h (List.mem_singleton.mp z)
  have p1 : ∀ (l r : Led) (q z : Addr × Obj), (l ++ q :: z :: r).Perm (z :: (l ++ q :: r)) := fun l r q z => (List.Perm.append_left l (List.Perm.swap ..)).trans List.perm_middle
  have loop := comp_run (elt := elt) (iter := iter) (tg := tg) (pos := pos) (RR := RR) (fun u => (xb, C + 1, u) :: cs₂) (fun _ _ _ _ h => Rep.dropCell h) L Pre (fun c' K' K0 i vs a v u ok' hi hP h1 h2 hp => turn c' K' K0 i vs a v (C + 1) u ok' hi hP h1 h2 hp) hn W hfp hI okc (fun vs a kk s' hp hvl R5 => by
    obtain ⟨oC, mC, h1, R6⟩ := R5.leave hL hab cov hcs hlk hn1 hn2
    exact hRR _ _ kk vs a _ hp hvl ⟨oC, mC, h1, Rep.perm (List.Perm.cons _ List.perm_middle) R6⟩) none a ha R2 st1
  exact codeAny_compStart_list loop (W.self 0 _ _ _ st1 loop)
noncomputable def locsOk (l : List (Str × NameKind)) : Bool := l.all fun q => q.2 != .local || l.lookup q.1 == some .local
theorem names_loc' {l : List (Str × NameKind)} (h : locsOk l = true) : ∀ q ∈ l, q.2 = .local → l.lookup q.1 = some .local := fun q hq e => by
  have := List.all_eq_true.mp h q hq
  rw [Bool.or_eq_true, beq_iff_eq, e] at this
  exact this.resolve_left (by decide)
theorem op_comp1 {elt iter tg : Expr} {ifs : List Expr} {scope : Scope} {pos : Pos} {cl : List (Str × Addr)} {led : Led} {fs : List (Str × Value)} {cs : List (Str × Addr × Option Value)} {K : Value → St → Prop} (ok : CxOk y tb nm b₀ D U c) (hc : clFrom scope.names cs [] = some cl) (hk : scope.kind = .function) (hn : locsOk scope.names = true) (hi : plainIter iter = true)
    (h : WPe y tb nm c 20 iter ⟨fs, led, cs⟩ (CG y c elt tg iter ifs scope pos cl none fun v s' => ∃ σ', Rep y c σ' s' ∧ K v σ')) : Op y c (eval (.ListComp elt [⟨tg, iter, ifs, 0⟩] scope pos) c.env) ⟨fs, led, cs⟩ K := by
  refine ⟨fun s R => ?_⟩
  rw [eval_ListComp]
  exact wpAny_comprehension_free (use := none) rfl (iter_plain hi) (closure_of (fun q hq => (R.C q hq).look) hc) hk (names_loc' hn) (wpAny_mono ((e_ok ok 20 _ _ _ h).run s R) (fun xv s₁ ⟨σ1, R1, h1⟩ => h1.run s₁ R1) fun _ _ e => e)
theorem cg_of1 {α : Type} {elt iter tg : Expr} {xb : Str} {ifs : List Expr} {scope : Scope} {pos : Pos} {cl : List (Str × Addr)} {xv : Value} {n : Nat} {P : Nat → Value → Prop} {kp : Led} {fs : List (Str × Value)} {cs cs₂ csR : List (Str × Addr × Option Value)} {use : Option (Value → Sem Unit)} {Q : Value → Shared → Prop} (L : Nat → α → Led) (Pre : Nat → List Value → α → Prop) (ok : CxOk y tb nm b₀ D U c)
    (src : ∀ s, (∀ p ∈ kp, s.heap.get? p.1 = some p.2) → SrcK y.P y.w c.A s xv n P kp)
    (hkind : scope.kind = .function) (hcf : ∀ n acc, cellsFrom n scope.names acc = (xb, n) :: acc) (hpc : ∀ h, pushCells h scope.names = h.push { cls := .type "cell", data := .cell none }) (hdb : (relN nm scope.names).lookup ("__debug__" : Str) = none) (hcd : (relN nm scope.names).lookup ("__classdict__" : Str) = none)
    (hcs : cs.Perm (cs₂ ++ csR)) (hcl : ∀ (b : Addr), ∀ q ∈ cs₂, ((xb, b) :: cl).lookup q.1 = some q.2.1) (hn' : n ≤ 1000)
    (turn : ∀ c' (K' : Value → St → Prop) (K0 : St → Prop) i vs a v b u, CxOk y tb (relN nm scope.names) b₀ D U c' → i < n → P i v → (∀ r σ a' u', Pre (i + 1) (vs ++ [r]) a' → Weak σ ⟨[], L (i + 1) a', (xb, b, u') :: cs₂⟩ → K' r σ) → (∀ σ a' u', Pre (i + 1) vs a' → Weak σ ⟨[], L (i + 1) a', (xb, b, u') :: cs₂⟩ → K0 σ) → Pre i vs a →
      Op y c' (assign tg c'.env v) ⟨[], L i a, (xb, b, u) :: cs₂⟩ fun _ σ0 => CT y tb (relN nm scope.names) c' ifs σ0 fun q σ1 => IfK q (WPe y tb (relN nm scope.names) c' 20 elt σ1 K') (K0 σ1))
    (a : α) (ha : Pre 0 [] a) (hw : Weak σ ⟨fs, L 0 a ++ kp, cs⟩)
    (fin : ∀ D C n' vs a s', Pre n vs a → vs.length ≤ n → RL y c fs ((D, listOf vs.toArray n') :: (L n a ++ kp)) cs C s' → compPost (model y.P y.w) c.A (fun _ _ => False) use Q (.ref D) C (.ok .next) s') :
    CG y c elt tg iter ifs scope pos cl use Q xv σ := by
  refine ⟨fun s R => ?_⟩
  replace R := R.weak hw
  refine src s (fun p hp => (R.N p (List.mem_append_left _ (List.mem_append_right _ hp))).1) _ _ fun ito fp Sx W st0 hfp hI => ?_
  have R0 : Rep y (c.hide ((s.heap.objs.size, ito) :: kp)) ⟨fs, L 0 a, cs⟩ { s with heap := s.heap.push ito } := Rep.unhide.mpr (Rep.perm List.perm_middle.symm (R.fresh ito hI.2))
  exact comp_core1 (RR := fun acc C => compPost (model y.P y.w) c.A (fun _ _ => False) use Q acc C) L Pre ok hkind hcf hpc hdb hcd hcs hcl turn a ha hn' R0 W st0 hfp hI.1 fin
theorem op_nameC {fs : List (Str × Value)} {led : Led} {cs : List (Str × Addr × Option Value)} {x : Str} {px : Pos} {a : Addr} {v : Value} {K : Unit → St → Prop} (ok : CxOk y tb nm b₀ D U c) (hx : nm.lookup x = some .cell) (ha : addrC cs x = some a) (h : K () ⟨fs, led, setC cs x v⟩) : Op y c (assign (.Name x px) c.env v) ⟨fs, led, cs⟩ K :=
  ⟨fun s R => by
    obtain ⟨u, hu⟩ := addrC_mem ha
    exact wpAny_assign_Name (wpAny_storeName_cell ok.kind ((ok.kindOf x).trans hx) (R.C _ hu).look (R.C _ hu).at_ fun h' hv hs => ⟨_, R.setCell ha hv hs, h⟩)⟩
theorem op_assignE {e : Expr} {z : Str} {pz p : Pos} {K : Flow → St → Prop} (ok : CxOk y tb nm b₀ D U c) (hsw : swapsWith e (some (.Name z pz)) p.line c.env = pure false) (h : Op y c (eval e c.env) σ fun v σ1 => WPst y nm c z v σ1 (K .next)) : Op y c (exec (.Assign [.Name z pz] e p) c.env) σ K :=
  ⟨fun s R => wpAny_Assign_Name (wpAny_mono (h.run s R) (fun v s1 ⟨σ1, R1, h1⟩ => (st_ok ok h1).run s1 R1) fun _ _ x => x) hsw⟩
theorem swap_no {elt iter tg : Expr} {ifs : List Expr} {scope : Scope} {z : Str} {pz pos : Pos} {l : Nat} (ok : CxOk y tb nm b₀ D U c) (hz : nm.lookup z = some .cell) : swapsWith (.ListComp elt [⟨tg, iter, ifs, 0⟩] scope pos) (some (.Name z pz)) l c.env = pure false := by
  show (pure (c.env.blockKind == .function && c.env.kindOf z == some .local && pz.line == pos.line && !(scope.names.any fun (n, k) => n == z && (k == .local || k == .cell))) : Sem Bool) = pure false
  have h2 : (c.env.kindOf z == some NameKind.local) = false := by rw [ok.kindOf, hz]; rfl
  rw [h2, Bool.and_false, Bool.false_and, Bool.false_and]
end
end MineV
end

section
namespace MineS
open PySem PySem.W PyProof.Rows PySem.Calls PySem.Spec
noncomputable def Pz (f : Value → Nat) (xs : Array Keyed) (i : Nat) : Nat := match xs[i]? with
  | some p => f p.2
  | none => 0
theorem Pz_congr {f : Value → Nat} {xs ys : Array Keyed} {i j : Nat} (h : xs[i]? = ys[j]?) : Pz f xs i = Pz f ys j := by unfold Pz; rw [h]
structure At2 (f : Value → Nat) (xs : Array Keyed) (i : Nat) (ys : Array Keyed) (j : Nat) : Prop where
  k : K xs i = K ys j
  p : Pz f xs i = Pz f ys j
theorem at2_of {f : Value → Nat} {xs ys : Array Keyed} {i j : Nat} (h : xs[i]? = ys[j]?) : At2 f xs i ys j := ⟨K_congr h, Pz_congr h⟩
theorem at2_bubble {f : Value → Nat} {xs : Array Keyed} {src l : Nat} (hs : src < xs.size) (hl : l ≤ src) (k : Nat) :
    At2 f (bubble xs src (src - l)) k xs (if k = l then src else if l < k ∧ k ≤ src then k - 1 else k) := by
  have e := getElem?_bubble hs (src - l) (by k_extra "o") k
  rw [show src - (src - l) = l by k_extra "o"] at e
  by_cases h1 : k = l
  · rw [if_pos h1] at e ⊢; exact at2_of e
  · rw [if_neg h1] at e ⊢
    by_cases h2 : l < k ∧ k ≤ src
    · rw [if_pos h2] at e ⊢; exact at2_of e
    · rw [if_neg h2] at e ⊢; exact at2_of e
theorem at2_mirror {f : Value → Nat} {xs : Array Keyed} {i j : Nat} (hj : j ≤ xs.size) (k : Nat) : At2 f (mirror xs i j ((j - i) / 2)) k xs (if i ≤ k ∧ k < j then i + j - 1 - k else k) := by
  have e := getElem?_mirror_all (i := i) hj k
  by_cases h1 : i ≤ k ∧ k < j
  · rw [if_pos h1] at e ⊢; exact at2_of e
  · rw [if_neg h1] at e ⊢; exact at2_of e
noncomputable def Lx (f : Value → Nat) (xs : Array Keyed) (i j : Nat) : Prop := K xs i < K xs j ∨ (K xs i = K xs j ∧ Pz f xs i < Pz f xs j)
theorem Lx.at {f : Value → Nat} {xs ys : Array Keyed} {i j i' j' : Nat} (a : At2 f xs i ys i') (b : At2 f xs j ys j') (h : Lx f ys i' j') : Lx f xs i j := by
  unfold Lx at h ⊢
  rw [a.k, b.k, a.p, b.p]; exact h
theorem Lx.trans {f : Value → Nat} {xs : Array Keyed} {i j k : Nat} (a : Lx f xs i j) (b : Lx f xs j k) : Lx f xs i k := by
  unfold Lx at *; k_extra "o"
noncomputable def Asc (f : Value → Nat) (xs : Array Keyed) (n : Nat) : Prop := ∀ i j, i < j → j < n → Lx f xs i j
noncomputable def Dsc (f : Value → Nat) (xs : Array Keyed) (n : Nat) : Prop := ∀ i j, i < j → j < n → Lx f xs j i
theorem Asc.sorted {f : Value → Nat} {xs : Array Keyed} {n : Nat} (h : Asc f xs n) : SortedTo xs n := fun i j hij hj => by
  by_cases e : i = j
  · subst e; exact Int.le_refl _
  · have := h i j (by k_extra "o") hj
    unfold Lx at this; k_extra "o"
structure SB (f : Value → Nat) (a₀ : Array Keyed) (n : Nat) (st : SortSt) : Prop where
  base : SBase a₀ st
  rest : ∀ i, n ≤ i → i < a₀.size → Pz f (arrOf st) i = i
  front : ∀ i, i < n → Pz f (arrOf st) i < n
section
variable {prog : Program} {w : World} {A : Around} {E : Value → Shared → Prop} {s : Shared} {a₀ : Array Keyed} {f : Value → Nat}
theorem SB.up {st : SortSt} {n m : Nat} (h : SB f a₀ n st) (hnm : n ≤ m) (hm : m ≤ a₀.size) : SB f a₀ m st :=
  ⟨h.base, fun i h1 h2 => h.rest i (by k_extra "o") h2, fun i h1 => by
    by_cases e : i < n
    · have := h.front i e; k_extra "o"
    · have := h.rest i (by k_extra "o") (by k_extra "o"); k_extra "o"⟩
theorem SB.turn {st : SortSt} {n i : Nat} (h : SB f a₀ n st) (hn : n ≤ a₀.size) : SB f a₀ n (setArr st (mirror (arrOf st) i n ((n - i) / 2))) := by
  have hsz : n ≤ (arrOf st).size := by rw [h.base.size]; exact hn
  have e := fun k => at2_mirror (f := f) (i := i) hsz k
  refine ⟨h.base.setArr (mirror_perm _ _ _ _), fun k h1 h2 => ?_, fun k h1 => ?_⟩
  · show Pz f (mirror (arrOf st) i n ((n - i) / 2)) k = k
    rw [(e k).p, if_neg (by k_extra "o")]; exact h.rest k h1 h2
  · show Pz f (mirror (arrOf st) i n ((n - i) / 2)) k < n
    rw [(e k).p]
    split
    · exact h.front _ (by k_extra "o")
    · exact h.front k h1
theorem ascLoop_ {st : SortSt} {a nrem : Nat} {Q : AscSt → SortSt → Prop} (h0 : IntKeys a₀) (hn : nrem ≤ a₀.size) (ha : 1 ≤ a) (han : a ≤ nrem) (hB : SB f a₀ a st) (hs : Asc f (arrOf st) a)
    (h : ∀ n, a ≤ n → n ≤ nrem → Asc f (arrOf st) n → (n = nrem ∨ K (arrOf st) n < K (arrOf st) (n - 1)) → Q (none, n) st) : wpS (model prog w) A E s (ascLoop a nrem) Q st := by
  unfold ascLoop
  refine wpS_forRange (I := fun x c st' => st' = st ∧ c = (none, x) ∧ Asc f (arrOf st) x) ?step ?fin ⟨rfl, rfl, hs⟩
  case fin =>
    rintro c st' ⟨rfl, rfl, hs'⟩
    rw [show max a nrem = nrem by k_extra "o"] at hs' ⊢
    exact h nrem han (Nat.le_refl _) hs' (.inl rfl)
  case step =>
    rintro x c st' hax hxn ⟨rfl, rfl, hs'⟩
    dsimp only
    refine wpS_bind (wpS_ltK hB.base h0 (by k_extra "o") (by k_extra "o") ?_)
    by_cases hless : K (arrOf st') x < K (arrOf st') (x - 1)
    · simp only [hless, decide_true, if_true]
      exact wpS_pure (h x hax (by k_extra "o") hs' (.inr hless))
    · simp only [hless, decide_false, Bool.false_eq_true, if_false]
      refine wpS_pure ⟨rfl, rfl, fun i j hij hj => ?_⟩
      by_cases hjx : j < x
      · exact hs' i j hij hjx
      · have hj' : j = x := by k_extra "o"
        subst hj'
        have B := hB.up hax (by k_extra "o")
        have p1 := B.rest j (Nat.le_refl _) (by k_extra "o")
        have p2 := B.front (j - 1) (by k_extra "o")
        have last : Lx f (arrOf st') (j - 1) j := by unfold Lx; k_extra "o"
        by_cases hi' : i = j - 1
        · subst hi'; exact last
        · exact (hs' i (j - 1) (by k_extra "o") (by k_extra "o")).trans last
theorem tail3_ {st : SortSt} {n nrem : Nat} {Q : Option Nat → SortSt → Prop} (h0 : IntKeys a₀) (hn : nrem ≤ a₀.size) (h1 : 1 ≤ n) (hnn : n ≤ nrem) (hB : SB f a₀ n st) (hs : Dsc f (arrOf st) n)
    (h : ∀ m st', SB f a₀ m st' → 1 ≤ m → m ≤ nrem → Asc f (arrOf st') m → Q (some m) st') : wpS (model prog w) A E s (tail3 n nrem) Q st := by
  unfold tail3
  have hsz : n ≤ (arrOf st).size := by rw [hB.base.size]; k_extra "o"
  refine wpS_bind (wpS_reverse ?_)
  have hB' : SB f a₀ n (setArr st (mirror (arrOf st) 0 n ((n - 0) / 2))) := hB.turn (by k_extra "o")
  refine wpS_bind (ascLoop_ h0 hn h1 hnn hB' ?_ fun m hm1 hm2 hsm _ => wpS_pure (h m _ (hB'.up hm1 (by k_extra "o")) (by k_extra "o") hm2 hsm))
  intro i j hij hj
  have ei := at2_mirror (f := f) (i := 0) hsz i
  have ej := at2_mirror (f := f) (i := 0) hsz j
  rw [if_pos (by k_extra "o")] at ei ej
  exact Lx.at ei ej (hs _ _ (by k_extra "o") (by k_extra "o"))
structure Fall (f : Value → Nat) (xs : Array Keyed) (b x : Nat) : Prop where
  le : b + 1 ≤ x
  d : ∀ i j, i < j → j < b → Lx f xs j i
  gap : ∀ i j, i < b → b ≤ j → j < x → K xs j < K xs i
  same : ∀ i, b ≤ i → i < x → K xs i = K xs (x - 1)
  up : ∀ i j, b ≤ i → i < j → j < x → Pz f xs i < Pz f xs j
theorem Fall.turn {xs : Array Keyed} {b x : Nat} (h : Fall f xs b x) (hx : x ≤ xs.size) : Dsc f (mirror xs b x ((x - b) / 2)) x := by
  intro i j hij hj
  have ei := at2_mirror (f := f) (i := b) hx i
  have ej := at2_mirror (f := f) (i := b) hx j
  have hle := h.le
  by_cases hjb : j < b
  · rw [if_neg (by k_extra "o")] at ei ej
    exact Lx.at ej ei (h.d i j hij hjb)
  · rw [if_pos (by k_extra "o")] at ej
    by_cases hib : i < b
    · rw [if_neg (by k_extra "o")] at ei
      exact Lx.at ej ei (.inl (h.gap i _ hib (by k_extra "o") (by k_extra "o")))
    · rw [if_pos (by k_extra "o")] at ei
      exact Lx.at ej ei (.inr ⟨(h.same _ (by k_extra "o") (by k_extra "o")).trans (h.same _ (by k_extra "o") (by k_extra "o")).symm, h.up _ _ (by k_extra "o") (by k_extra "o") (by k_extra "o")⟩)
theorem Fall.one {xs : Array Keyed} {b x : Nat} (h : Fall f xs b x) (he : b + 1 = x) : Dsc f xs x := by
  intro i j hij hj
  by_cases hjb : j < b
  · exact h.d i j hij hjb
  · exact .inl (h.gap i j (by k_extra "o") (by k_extra "o") hj)
theorem descLoop_ {st : SortSt} {n nrem : Nat} {Q : DescSt → SortSt → Prop} (h0 : IntKeys a₀) (hn : nrem ≤ a₀.size) (h1 : 1 ≤ n) (hnn : n ≤ nrem) (hB : SB f a₀ n st) (hs : Fall f (arrOf st) (n - 1) n)
    (h : ∀ m neq st', SB f a₀ m st' → n ≤ m → m ≤ nrem → neq + 1 ≤ m → Fall f (arrOf st') (m - (neq + 1)) m → Q (none, m, neq) st') : wpS (model prog w) A E s (descLoop n nrem) Q st := by
  unfold descLoop
  refine wpS_forRange (I := fun x c st' => ∃ neq, c = (none, x, neq) ∧ SB f a₀ x st' ∧ neq + 1 ≤ x ∧ Fall f (arrOf st') (x - (neq + 1)) x) ?step ?fin ⟨0, rfl, hB, by k_extra "o", hs⟩
  case fin =>
    rintro c st' ⟨neq, rfl, hB', hq, he⟩
    rw [show max n nrem = nrem by k_extra "o"] at hB' hq he ⊢
    exact h nrem neq st' hB' hnn (Nat.le_refl _) hq he
  case step =>
    rintro x c st' hax hxn ⟨neq, rfl, hB', hq, he⟩
    dsimp only
    have hsz : x ≤ (arrOf st').size := by rw [hB'.base.size]; k_extra "o"
    refine wpS_bind (wpS_ltK hB'.base h0 (by k_extra "o") (by k_extra "o") ?_)
    by_cases hless : K (arrOf st') x < K (arrOf st') (x - 1)
    · simp only [hless, decide_true, if_true]
      have next : ∀ st2, SB f a₀ x st2 → (∀ k, x ≤ k → At2 f (arrOf st2) k (arrOf st') k) → (∀ k, k < x → K (arrOf st') (x - 1) ≤ K (arrOf st2) k) → Dsc f (arrOf st2) x → Fall f (arrOf st2) x (x + 1) := fun st2 b2 ek ek2 d2 =>
        ⟨Nat.le_refl _, d2, fun i j hi hj hj2 => by
          have : j = x := by k_extra "o"
          subst this
          rw [(ek j (Nat.le_refl _)).k]
          have := ek2 i hi; k_extra "o", fun i hi hi2 => by
          have : i = x := by k_extra "o"
          subst this; rfl, fun i j hi hij hj => by k_extra "o"⟩
      have least : ∀ k, k < x → K (arrOf st') (x - 1) ≤ K (arrOf st') k := fun k hk => by
        by_cases hkb : k < x - (neq + 1)
        · exact Int.le_of_lt (he.gap k (x - 1) hkb (by k_extra "o") (by k_extra "o"))
        · exact Int.le_of_eq (he.same k (by k_extra "o") hk).symm
      by_cases hneq : neq > 0
      · rw [if_pos hneq]
        refine wpS_bind (wpS_reverse (wpS_pure ⟨0, rfl, (hB'.turn (by k_extra "o")).up (Nat.le_succ _) (by k_extra "o"), by k_extra "o", ?_⟩))
        refine next _ (hB'.turn (by k_extra "o")) (fun k hk => ?_) (fun k hk => ?_) (he.turn hsz)
        · have e := at2_mirror (f := f) (i := x - (neq + 1)) hsz k
          rw [if_neg (by k_extra "o")] at e; exact e
        · have e := at2_mirror (f := f) (i := x - (neq + 1)) hsz k
          show _ ≤ K (mirror (arrOf st') (x - (neq + 1)) x ((x - (x - (neq + 1))) / 2)) k
          rw [e.k]
          split
          · exact least _ (by k_extra "o")
          · exact least _ hk
      · rw [if_neg hneq]
        exact wpS_pure ⟨0, rfl, hB'.up (Nat.le_succ _) (by k_extra "o"), by k_extra "o", next _ hB' (fun k _ => ⟨rfl, rfl⟩) least (he.one (by k_extra "o"))⟩
    · simp only [hless, decide_false, Bool.false_eq_true, if_false]
      refine wpS_bind (wpS_ltK hB'.base h0 (by k_extra "o") (by k_extra "o") ?_)
      by_cases hlarger : K (arrOf st') (x - 1) < K (arrOf st') x
      · simp only [hlarger, decide_true, if_true]
        exact wpS_pure (h x neq st' hB' hax (by k_extra "o") hq he)
      · simp only [hlarger, decide_false, Bool.false_eq_true, if_false]
        have heqx : K (arrOf st') x = K (arrOf st') (x - 1) := by k_extra "o"
        have px := hB'.rest x (Nat.le_refl _) (by k_extra "o")
        refine wpS_pure ⟨neq + 1, rfl, hB'.up (Nat.le_succ _) (by k_extra "o"), by k_extra "o", ?_⟩
        rw [show x + 1 - (neq + 1 + 1) = x - (neq + 1) by k_extra "o"]
        refine ⟨by k_extra "o", he.d, fun i j hi hj hj2 => ?_, fun i hi hi2 => ?_, fun i j hi hij hj => ?_⟩
        · by_cases e : j < x
          · exact he.gap i j hi hj e
          · have : j = x := by k_extra "o"
            subst this
            rw [heqx]; exact he.gap i _ hi (by k_extra "o") (by k_extra "o")
        · rw [show x + 1 - 1 = x by k_extra "o"]
          by_cases e : i < x
          · rw [heqx]; exact he.same i hi e
          · rw [show i = x by k_extra "o"]
        · by_cases e : j < x
          · exact he.up i j hi hij e
          · have : j = x := by k_extra "o"
            subst this
            have := hB'.front i (by k_extra "o")
            k_extra "o"
theorem descPart_ {st : SortSt} {n nrem : Nat} {Q : Option Nat → SortSt → Prop} (h0 : IntKeys a₀) (hn : nrem ≤ a₀.size) (hnn : n + 1 ≤ nrem) (hB : SB f a₀ (n + 1) st) (hs : Fall f (arrOf st) n (n + 1))
    (h : ∀ m st', SB f a₀ m st' → 1 ≤ m → m ≤ nrem → Asc f (arrOf st') m → Q (some m) st') : wpS (model prog w) A E s (descPart n nrem) Q st := by
  unfold descPart
  refine wpS_bind (wpS_lift (wpAny_rule ⟨rfl, ?_⟩))
  refine wpS_bind (descLoop_ h0 hn (by k_extra "o") hnn hB hs fun m neq st' hB' hm1 hm2 hq he => ?_)
  dsimp only
  have hsz : m ≤ (arrOf st').size := by rw [hB'.base.size]; k_extra "o"
  by_cases hneq : neq > 0
  · rw [if_pos hneq]
    exact wpS_bind (wpS_reverse (tail3_ h0 hn (by k_extra "o") hm2 (hB'.turn (by k_extra "o")) (he.turn hsz) h))
  · rw [if_neg hneq]
    exact tail3_ h0 hn (by k_extra "o") hm2 hB' (he.one (by k_extra "o")) h
theorem countRun_ {st : SortSt} {nrem : Nat} {Q : Option Nat → SortSt → Prop} (h0 : IntKeys a₀) (hn : nrem ≤ a₀.size) (h1 : 1 ≤ nrem) (hB : SB f a₀ 0 st)
    (h : ∀ m st', SB f a₀ m st' → 1 ≤ m → m ≤ nrem → Asc f (arrOf st') m → Q (some m) st') : wpS (model prog w) A E s (countRun' 0 nrem) Q st := by
  rw [countRun0_eq]
  refine wpS_bind (ascLoop_ h0 hn (Nat.le_refl 1) h1 (hB.up (by k_extra "o") (by k_extra "o")) (fun i j hij hj => by k_extra "o") fun n hn1 hn2 hsn hor => ?_)
  dsimp only
  have hBn := hB.up (m := n) (by k_extra "o") (by k_extra "o")
  by_cases hnn : n = nrem
  · rw [if_pos (by simpa using hnn)]
    exact wpS_pure (h n st hBn hn1 hn2 hsn)
  · rw [if_neg (by simpa using hnn)]
    have hlt : K (arrOf st) n < K (arrOf st) (n - 1) := hor.resolve_left hnn
    by_cases hgt : n > 1
    · rw [if_pos hgt]
      refine wpS_bind (wpS_ltK hB.base h0 (by k_extra "o") (by k_extra "o") ?_)
      by_cases hrose : K (arrOf st) 0 < K (arrOf st) (n - 1)
      · simp only [hrose, decide_true, if_true]
        exact wpS_pure (h n st hBn hn1 hn2 hsn)
      · simp only [hrose, decide_false, Bool.false_eq_true, if_false]
        have hsz : n ≤ (arrOf st).size := by rw [hB.base.size]; k_extra "o"
        have srt := hsn.sorted
        have hall : ∀ k, k < n → K (arrOf st) k = K (arrOf st) (n - 1) := by
          intro k hk
          have a1 := srt 0 k (by k_extra "o") hk
          have a2 := srt k (n - 1) (by k_extra "o") (by k_extra "o")
          k_extra "o"
        have F : Fall f (arrOf st) 0 n := ⟨by k_extra "o", fun i j _ hj => by k_extra "o", fun i j hi => by k_extra "o", fun i _ hi => hall i hi, fun i j _ hij hj => by
          have := hsn i j hij hj
          have e1 := hall i (by k_extra "o")
          have e2 := hall j hj
          unfold Lx at this; k_extra "o"⟩
        have e := fun k => at2_mirror (f := f) (i := 0) hsz k
        refine wpS_bind (wpS_reverse (descPart_ h0 hn (by k_extra "o") ((hBn.turn (by k_extra "o")).up (Nat.le_succ _) (by k_extra "o")) ?_ h))
        refine ⟨Nat.le_refl _, F.turn hsz, fun i j hi hj hj2 => ?_, fun i hi hi2 => ?_, fun i j hi hij hj => by k_extra "o"⟩
        · have : j = n := by k_extra "o"
          subst this
          show K (mirror (arrOf st) 0 j ((j - 0) / 2)) j < K (mirror (arrOf st) 0 j ((j - 0) / 2)) i
          have q := hall (0 + j - 1 - i) (by k_extra "o")
          rw [(e j).k, (e i).k, if_neg (by k_extra "o"), if_pos (by k_extra "o"), q]
          exact hlt
        · rw [show i = n + 1 - 1 by k_extra "o"]
    · rw [if_neg hgt]
      have hn1' : n = 1 := by k_extra "o"
      subst hn1'
      refine descPart_ h0 hn (by k_extra "o") (hB.up (by k_extra "o") (by k_extra "o")) ⟨Nat.le_refl _, fun i j hij hj => by k_extra "o", fun i j hi hj hj2 => ?_, fun i hi hi2 => ?_, fun i j hi hij hj => by k_extra "o"⟩ h
      · rw [show i = 0 by k_extra "o", show j = 1 by k_extra "o"]; exact hlt
      · rw [show i = 1 + 1 - 1 by k_extra "o"]
theorem binarySort_ {st : SortSt} {n ok : Nat} {Q : Bool → SortSt → Prop} (h0 : IntKeys a₀) (hn : n ≤ a₀.size) (h1 : 1 ≤ ok) (hok : ok ≤ n) (hB : SB f a₀ ok st) (hs : Asc f (arrOf st) ok)
    (h : ∀ st', SBase a₀ st' → Asc f (arrOf st') n → Q true st') : wpS (model prog w) A E s (binarySort' 0 n ok) Q st := by
  rw [binarySort'_eq]
  simp only [Nat.zero_add]
  refine wpS_bind (wpS_mono (wpS_forRange (I := fun k c st' => c = (none, ()) ∧ SB f a₀ (min k n) st' ∧ Asc f (arrOf st') (min k n))
    (Q := fun c st' => c = (none, ()) ∧ SBase a₀ st' ∧ Asc f (arrOf st') n) ?step ?fin ?init) ?post)
  case post =>
    rintro c st' ⟨rfl, hB', hs'⟩
    exact wpS_pure (h st' hB' hs')
  case init =>
    rw [Nat.max_eq_left h1, Nat.min_eq_left hok]
    exact ⟨rfl, hB, hs⟩
  case fin =>
    rintro c st' ⟨hc, hB', hs'⟩
    refine ⟨hc, hB'.base, ?_⟩
    rwa [Nat.min_eq_right (Nat.le_max_right _ _)] at hs'
  case step =>
    rintro k c st' hak hkn ⟨rfl, hB', hs'⟩
    rw [Nat.min_eq_left (Nat.le_of_lt hkn)] at hs' hB'
    have hk : k < a₀.size := by k_extra "o"
    have srt := hs'.sorted
    refine wpS_bind (wpS_mono (wpS_forRange (I := fun x c st'' => st'' = st' ∧ ∃ l r, c = (none, l, r) ∧ l ≤ r ∧ r ≤ k ∧ r - l ≤ k - x ∧
        (∀ i, i < l → K (arrOf st') i ≤ K (arrOf st') k) ∧ (∀ i, r ≤ i → i < k → K (arrOf st') k < K (arrOf st') i))
      (Q := fun c st'' => st'' = st' ∧ ∃ l r, c = (none, l, r) ∧ l ≤ k ∧
        (∀ i, i < l → K (arrOf st') i ≤ K (arrOf st') k) ∧ (∀ i, l ≤ i → i < k → K (arrOf st') k < K (arrOf st') i)) ?istep ?ifin ?iinit) ?ipost)
    case iinit => exact ⟨rfl, 0, k, rfl, by k_extra "o", by k_extra "o", by k_extra "o", fun i hi => by k_extra "o", fun i h1 h2 => by k_extra "o"⟩
    case ifin =>
      rintro c st'' ⟨rfl, l, r, rfl, hlr, hrk, hm, hlo, hhi⟩
      have : l = r := by k_extra "o"
      subst this
      exact ⟨rfl, l, l, rfl, hrk, hlo, hhi⟩
    case istep =>
      rintro x c st'' _ hxk ⟨rfl, l, r, rfl, hlr, hrk, hm, hlo, hhi⟩
      dsimp only
      by_cases hge : l ≥ r
      · rw [if_pos hge]
        have : l = r := by k_extra "o"
        subst this
        exact wpS_pure ⟨rfl, l, l, rfl, hrk, hlo, hhi⟩
      · rw [if_neg hge]
        obtain ⟨m1, m2⟩ : l ≤ (l + r) / 2 ∧ (l + r) / 2 < r := ⟨by k_extra "o", by k_extra "o"⟩
        generalize (l + r) / 2 = m at m1 m2 ⊢
        refine wpS_bind (wpS_ltK hB'.base h0 hk (by k_extra "o") ?_)
        by_cases hless : K (arrOf st'') k < K (arrOf st'') m
        · simp only [hless, decide_true, if_true]
          refine wpS_pure ⟨rfl, l, m, rfl, by k_extra "o", by k_extra "o", by k_extra "o", hlo, fun i h1 h2 => ?_⟩
          exact Int.lt_of_lt_of_le hless (srt _ _ h1 h2)
        · simp only [hless, decide_false, Bool.false_eq_true, if_false]
          refine wpS_pure ⟨rfl, m + 1, r, rfl, by k_extra "o", by k_extra "o", by k_extra "o", fun i h1 => ?_, hhi⟩
          exact Int.le_trans (srt i m (by k_extra "o") (by k_extra "o")) (Int.not_lt.mp hless)
    case ipost =>
      rintro c st'' ⟨rfl, l, r, rfl, hlk, hlo, hhi⟩
      show wpS _ _ _ _ (do moveDown' k l; pure (ForInStep.yield (none, ()))) _ _
      rw [moveDown'_eq]
      have hks : k < (arrOf st'').size := by rw [hB'.base.size]; exact hk
      have e := fun i => at2_bubble (f := f) hks hlk i
      have pk := hB'.rest k (Nat.le_refl _) hk
      refine wpS_bind (wpS_modify (wpS_pure ⟨rfl, ⟨hB'.base.setArr (bubble_perm _ _ _), fun i hi hi2 => ?_, fun i hi => ?_⟩, fun i j hij hj => ?_⟩))
      · show Pz f (bubble (arrOf st'') k (k - l)) i = i
        rw [(e i).p, if_neg (by k_extra "o"), if_neg (by k_extra "o")]
        exact hB'.rest i (by k_extra "o") hi2
      · show Pz f (bubble (arrOf st'') k (k - l)) i < _
        rw [(e i).p]
        rw [Nat.min_eq_left (show k + 1 ≤ n from hkn)] at hi ⊢
        have fr := hB'.front
        split
        · k_extra "o"
        · split
          · have := fr (i - 1) (by k_extra "o"); k_extra "o"
          · have := fr i (by k_extra "o"); k_extra "o"
      · rw [Nat.min_eq_left (show k + 1 ≤ n from hkn)] at hj
        refine Lx.at (e i) (e j) ?_
        by_cases h1 : i = l
        · rw [if_pos h1, if_neg (by k_extra "o"), if_pos (by k_extra "o")]
          exact .inl (hhi _ (by k_extra "o") (by k_extra "o"))
        · rw [if_neg h1]
          by_cases h2 : l < i ∧ i ≤ k
          · rw [if_pos h2, if_neg (by k_extra "o"), if_pos (by k_extra "o")]
            exact hs' _ _ (by k_extra "o") (by k_extra "o")
          · rw [if_neg h2]
            by_cases h3 : j = l
            · rw [if_pos h3]
              have q := hlo i (by k_extra "o")
              have q2 := hB'.front i (by k_extra "o")
              unfold Lx; k_extra "o"
            · rw [if_neg h3]
              by_cases h4 : l < j ∧ j ≤ k
              · rw [if_pos h4]; exact hs' _ _ (by k_extra "o") (by k_extra "o")
              · rw [if_neg h4]; exact hs' _ _ (by k_extra "o") (by k_extra "o")
end
end MineS
end

section
namespace MineS
open PySem PySem.W PyProof.Rows PySem.Calls PySem.Spec
section
variable {prog : Program} {w : World} {A : Around} {E : Value → Shared → Prop} {s : Shared} {a₀ : Array Keyed} {f : Value → Nat}
theorem sortRuns_ {st : SortSt} {Q : Unit → SortSt → Prop} (h0 : IntKeys a₀) (hB : SB f a₀ 0 st) (h2 : 2 ≤ a₀.size) (h64 : a₀.size < 64)
    (h : ∀ st', (arrOf st').Perm a₀ → failedOf st' = none → Asc f (arrOf st') a₀.size → Q () st') : wpS (model prog w) A E s sortRuns' Q st := by
  have fin : ∀ st2, SBase a₀ st2 → Asc f (arrOf st2) a₀.size → (arrOf (setPending st2 ((pendingOf st2).push (0, a₀.size, 0)))).Perm a₀ ∧ failedOf (setPending st2 ((pendingOf st2).push (0, a₀.size, 0))) = none ∧ pendingOf (setPending st2 ((pendingOf st2).push (0, a₀.size, 0))) = #[(0, a₀.size, 0)] ∧ Asc f (arrOf (setPending st2 ((pendingOf st2).push (0, a₀.size, 0)))) a₀.size := fun st2 hB2 hs2 =>
    ⟨hB2.perm, hB2.failed, by show (pendingOf st2).push _ = _; rw [hB2.pend]; rfl, hs2⟩
  rw [sortRuns'_eq]
  refine wpS_bind (wpS_get ?_)
  dsimp only
  have hmr : minRun' a₀.size a₀.size 0 = a₀.size := by
    obtain ⟨k, hk⟩ : ∃ k, a₀.size = k + 1 := ⟨a₀.size - 1, by k_extra "o"⟩
    have : minRun' (k + 1) a₀.size 0 = a₀.size := by rw [minRun'_succ, if_pos h64]; rfl
    rwa [← hk] at this
  simp only [hB.base.size, hmr]
  refine wpS_bind (wpS_mono (wpS_forRange
    (I := fun x c st' => (x = 0 ∧ c = (none, 0) ∧ SB f a₀ 0 st') ∨ (1 ≤ x ∧ c = (none, a₀.size) ∧ ((arrOf st').Perm a₀ ∧ failedOf st' = none ∧ pendingOf st' = #[(0, a₀.size, 0)] ∧ Asc f (arrOf st') a₀.size)))
    (Q := fun c st' => c = (none, a₀.size) ∧ ((arrOf st').Perm a₀ ∧ failedOf st' = none ∧ pendingOf st' = #[(0, a₀.size, 0)] ∧ Asc f (arrOf st') a₀.size)) ?step ?fin (.inl ⟨rfl, rfl, hB⟩)) ?post)
  case fin =>
    rintro c st' (⟨hx, _, _⟩ | ⟨_, hc, hD⟩)
    · k_extra "o"
    · exact ⟨hc, hD⟩
  case step =>
    rintro x c st' _ hx (⟨rfl, rfl, hB'⟩ | ⟨hx1, rfl, hD⟩)
    · dsimp only
      rw [if_neg (by k_extra "o")]
      simp only [Nat.sub_zero, Nat.min_self, Nat.zero_add]
      refine wpS_bind (countRun_ h0 (Nat.le_refl _) (by k_extra "o") hB' fun m st2 hB2 hm1 hm2 hs2 => ?_)
      dsimp only
      by_cases hlt : m < a₀.size
      · rw [if_pos hlt]
        refine wpS_bind (wpS_lift (wpAny_rule ⟨rfl, ?_⟩))
        refine wpS_bind (binarySort_ h0 (Nat.le_refl _) hm1 hm2 hB2 hs2 fun st3 hB3 hs3 => ?_)
        simp only [Bool.not_true, Bool.false_eq_true, if_false]
        refine wpS_bind (wpS_get ?_)
        have hb : (pendingOf st3).back? = none := by rw [hB3.pend]; rfl
        rw [hb]
        dsimp only
        exact wpS_bind (wpS_modify (wpS_pure (.inr ⟨by k_extra "o", rfl, fin st3 hB3 hs3⟩)))
      · rw [if_neg hlt]
        have hm : m = a₀.size := by k_extra "o"
        subst hm
        refine wpS_bind (wpS_get ?_)
        have hb : (pendingOf st2).back? = none := by rw [hB2.base.pend]; rfl
        rw [hb]
        dsimp only
        exact wpS_bind (wpS_modify (wpS_pure (.inr ⟨by k_extra "o", rfl, fin st2 hB2.base hs2⟩)))
    · dsimp only
      rw [if_pos (Nat.le_refl _)]
      exact wpS_pure ⟨rfl, hD⟩
  case post =>
    rintro c st' ⟨rfl, hD⟩
    dsimp only
    refine wpS_bind (wpS_mono (wpS_forRange (I := fun _ c st'' => st'' = st' ∧ c = (none, ())) (Q := fun c st'' => st'' = st' ∧ c = (none, ())) ?_ (fun _ _ hh => hh) ⟨rfl, rfl⟩) ?_)
    · rintro x c st'' _ _ ⟨rfl, rfl⟩
      refine wpS_bind (wpS_get ?_)
      rw [if_pos (by rw [hD.2.2.1]; exact Nat.le_refl 1)]
      exact wpS_pure ⟨rfl, rfl⟩
    · rintro c st'' ⟨rfl, rfl⟩
      exact wpS_pure (h _ hD.1 hD.2.1 hD.2.2.2)
end
structure Stable (f : Value → Nat) (kz : List Int) (vs out : List Value) : Prop where
  perm : out.Perm vs
  ord : out.Pairwise fun u v => kz.getD (f u) 0 < kz.getD (f v) 0 ∨ (kz.getD (f u) 0 = kz.getD (f v) 0 ∧ f u < f v)
theorem stable_of {f : Value → Nat} {keys : Array Value} {kz : List Int} {vs : List Value} (hk : IntsAre keys.toList kz) (hlen : kz.length = vs.length) (hf : ∀ i v, vs[i]? = some v → f v = i) {xs : Array Keyed} (hp : xs.Perm (keys.zip vs.toArray)) (ha : Asc f xs xs.size) : Stable f kz vs (xs.map (·.2)).toList := by
  have hl : xs.toList.Perm (keys.toList.zip vs) := by rw [← ksk_zip]; exact Array.perm_iff_toList_perm.mp hp
  have hkl := hk.length
  have mem : ∀ p ∈ xs.toList, kz.getD (f p.2) 0 = numOf p.1 := fun p hp' => by
    have := hl.mem_iff.mp hp'
    obtain ⟨i, hi, e⟩ := List.mem_iff_getElem.mp this
    have hi2 : i < kz.length := by rw [List.length_zip] at hi; k_extra "o"
    have hi3 : i < vs.length := by k_extra "o"
    have hi4 : i < keys.toList.length := by k_extra "o"
    rw [List.getElem_zip] at e
    subst e
    rw [hf i vs[i] (List.getElem?_eq_getElem hi3)]
    have := congrArg (·[i]?) hk.nums
    simp only [List.getElem?_map, List.getElem?_eq_getElem hi4, Option.map_some, List.getElem?_eq_getElem hi2] at this
    rw [List.getD_eq_getElem?_getD, List.getElem?_eq_getElem hi2]
    exact (Option.some.inj this).symm
  refine ⟨?_, ?_⟩
  · rw [Array.toList_map]
    have := hl.map Prod.snd
    rwa [List.map_snd_zip (by k_extra "o")] at this
  · rw [Array.toList_map, List.pairwise_map, List.pairwise_iff_getElem]
    intro i j hi hj hij
    have hi' : i < xs.size := by simpa using hi
    have hj' : j < xs.size := by simpa using hj
    have q := ha i j hij hj'
    unfold Lx at q
    rw [K_eq hi', K_eq hj'] at q
    have pz : ∀ k (hk : k < xs.size), Pz f xs k = f xs[k].2 := fun k hk => by unfold Pz; rw [getElem?_pos xs k hk]
    rw [pz i hi', pz j hj'] at q
    rw [mem _ (List.getElem_mem hi), mem _ (List.getElem_mem hj)]
    simpa using q
end MineS
end

section
namespace MineV
open PySem PySem.W PyProof.Rows PySem.Calls PySem.Spec
open MineS (Stable)
section
variable {y : Gl} {tb : Tab} {nm : List (Str × NameKind)} {b₀ : Heap} {D U : Nat} {c : Cx} {fs : List (Str × Value)} {led rest : Led} {cs : List (Str × Addr × Option Value)} {s : Shared}
theorem Rep.upd {d : Addr} {its : Array Value} {n : Nat} (R : Rep y c ⟨fs, led, cs⟩ s) (hp : Pick (d, listOf its n) led rest) (f : Array Value → Array Value) : ∃ n', Rep y c ⟨fs, (d, listOf (f its) n') :: rest, cs⟩ { s with heap := s.heap.update d (Obj.mapSeq f) } := by
  obtain ⟨news, news', N, U, k⟩ := R.viaU (σ := ⟨fs, led, cs⟩) hp (listOf (f its) (if (f its).size == its.size then n else n + 1))
  obtain ⟨pre, post, rfl, rfl, a, b⟩ := U.split
  have e : Obj.mapSeq f (listOf its n) = listOf (f its) (if (f its).size == its.size then n else n + 1) := rfl
  obtain ⟨U1, U2⟩ := news_upd R.F N a b e rfl
  exact ⟨_, k _ s.toks U1 U2⟩
noncomputable abbrev Cx.deep (c : Cx) (l : Led) : Cx := { c.hide l with un := c.un + 2 }
theorem Rep.deep {σ : St} {l : Led} : Rep y (c.deep l) σ s ↔ Rep y (c.hide l) σ s := ⟨fun R => ⟨R.d, R.o, R.G, R.F0, R.N, R.C, R.n⟩, fun R => ⟨R.d, R.o, R.G, R.F0, R.N, R.C, R.n⟩⟩
theorem CxOk.deep (ok : CxOk y tb nm b₀ D (U + 2) c) (l : Led) : CxOk y tb nm b₀ D U (c.deep l) :=
  let h := ok.hide l
  ⟨h.dep, by have := ok.unt; show c.un + 2 + U < _; k_extra "o", fun σ s R => h.amb σ s (Rep.deep.mp R), h.st, h.names, h.kind, h.glo, h.blt, h.dbg, h.ncl, h.look, h.keep⟩
theorem sort_end {prog : Program} {w : World} {A : Around} {E : Value → Shared → Prop} {kS a : Addr} {e e1 : Nat} {keys : Array Value} {kz : List Int} {f : Value → Nat} {vs : List Value} {P : PySem.Fin → Shared → Prop} (R : Rep y c ⟨fs, (kS, listOf keys e) :: (a, listOf #[] e1) :: led, cs⟩ s)
    (hk : IntsAre keys.toList kz) (hlen : kz.length = vs.length) (h64 : vs.length < 64) (hf : ∀ i v, vs[i]? = some v → f v = i)
    (h : ∀ h' out n, Rep y c ⟨fs, (a, listOf out.toArray n) :: led, cs⟩ { s with heap := h' } → Stable f kz vs out → P (.done (.ret .none)) { s with heap := h' }) :
    wpAny (model prog w) A (ksk_end a false vs.toArray e1 (.ref kS) keys) P E s := by
  have hsz : keys.size = vs.length := by
    have h1 := hk.length
    rw [Array.length_toList] at h1
    k_extra "o"
  have hzs : (keys.zip vs.toArray).size = vs.length := by rw [Array.size_zip, hsz, List.size_toArray, Nat.min_self]
  have tail : ∀ st : SortSt, (arrOf st).Perm (keys.zip vs.toArray) → MineS.Asc f (arrOf st) (arrOf st).size → failedOf st = none → wpAny (model prog w) A (ksk_tail a false e1 (.ref kS) st) P E s := fun st hp hs hfl => by
    have nk := (R.N (kS, listOf keys e) (.head _)).1
    have na := (R.N (a, listOf #[] e1) (.tail _ (.head _))).1
    have hsz2 : (arrOf st).size = vs.length := by rw [hp.size_eq, hzs]
    unfold ksk_tail
    dsimp only
    refine wpAny_bind (listUpdate_at nk rfl ?_ (by rw [hsz, sizeLine_eq]; k_extra "o") (Nat.zero_le _))
    obtain ⟨n1, R1⟩ := R.upd .here (fun _ => #[])
    have na1 := (R1.N (a, listOf #[] e1) (.tail _ (.head _))).1
    refine wpAny_bind (wpAny_letGo ?_)
    refine wpAny_bind (seqEpoch_at na1 rfl ?_)
    refine wpAny_bind (listUpdate_at na1 rfl ?_ (Nat.zero_le _) (Nat.le_trans (Nat.le_of_eq (by simp only [Bool.false_eq_true, if_false, Array.size_map]; exact hsz2)) (by rw [sizeLine_eq]; k_extra "o")))
    rw [hfl]
    simp only [bne_self_eq_false, Bool.false_eq_true, if_false]
    obtain ⟨n2, R2⟩ := R1.upd (.there .here) (fun _ => (arrOf st).map (·.2))
    have R3 := Rep.weak (σ := ⟨fs, (a, listOf ((arrOf st).map (·.2)) n2) :: (kS, listOf #[] n1) :: led, cs⟩) (σ' := ⟨fs, (a, listOf ((arrOf st).map (·.2)) n2) :: led, cs⟩) ⟨fun _ _ e => e, ⟨[(kS, listOf #[] n1)], .cons _ (List.perm_append_comm (l₁ := [(kS, listOf #[] n1)]))⟩, rfl⟩ R2
    refine wpAny_pure (h _ ((arrOf st).map (·.2)).toList n2 ?_ (MineS.stable_of hk hlen hf hp hs))
    rw [Array.toArray_toList]
    exact R3
  unfold ksk_end
  dsimp only
  simp only [Bool.false_eq_true, if_false]
  by_cases h2 : vs.toArray.size < 2
  · rw [if_pos h2, if_pos h2]
    refine wpAny_bind (wpAny_pure ?_)
    rw [StateT.run_pure]
    refine wpAny_bind (wpAny_pure ?_)
    dsimp only
    refine tail (SortSt.mk' general' (keys.zip vs.toArray) #[] 7 none) (Array.Perm.refl _) (fun i j hij hj => ?_) rfl
    have hj2 : j < (keys.zip vs.toArray).size := hj
    rw [List.size_toArray] at h2
    k_extra "o"
  · rw [if_neg h2, if_neg h2]
    rw [List.size_toArray] at h2
    rw [ksk_kind hk (by rw [hsz]; k_extra "o")]
    refine wpAny_bind (wpAny_pure ?_)
    refine wpAny_bind (wpAny_mono (MineS.sortRuns_ (f := f) (a₀ := keys.zip vs.toArray) (st := SortSt.mk' oneType' (keys.zip vs.toArray) #[] 7 none)
      (Q := fun _ st' => (arrOf st').Perm (keys.zip vs.toArray) ∧ failedOf st' = none ∧ MineS.Asc f (arrOf st') (keys.zip vs.toArray).size)
      (ksk_intKeys hk) ⟨⟨Array.Perm.refl _, rfl, rfl, rfl⟩, fun i _ hi => ?_, fun i hi => by k_extra "o"⟩ (by rw [hzs]; k_extra "o") (by rw [hzs]; exact h64) fun st' a1 a2 a3 => ⟨a1, a2, a3⟩) ?_ fun _ _ e => e)
    · show MineS.Pz f (keys.zip vs.toArray) i = i
      unfold MineS.Pz
      rw [getElem?_pos _ i hi]
      have hi2 : i < vs.length := by k_extra "o"
      show f (keys.zip vs.toArray)[i].2 = i
      rw [Array.getElem_zip]
      exact hf i _ (by simp [hi2])
    · rintro ⟨⟨⟩, st'⟩ s' ⟨rfl, hp, hfl, hs⟩
      dsimp only
      exact tail st' hp (by rw [hp.size_eq]; exact hs) hfl
theorem op_sortedKey {α : Type} (S : α → Led) (Pre : α → Prop) (ok : CxOk y tb nm b₀ D (U + 2) c) {l q : Addr} {vs : List Value} {nn : Nat} {kz : List Int} {f : Value → Nat} {K : Value → St → Prop}
    (a : α) (ha : Pre a) (hm : (l, listOf vs.toArray nn) ∈ S a) (hlen : kz.length = vs.length) (h64 : vs.length < 64) (hf : ∀ i v, vs[i]? = some v → f v = i)
    (turn : ∀ c' a i v, CxOk y tb nm b₀ D U c' → Pre a → vs[i]? = some v → Op y c' (call (.ref q) [v]) ⟨fs, S a, cs⟩ fun r σ' => ∃ t a', r = .int (kz.getD i 0) t ∧ Pre a' ∧ Weak σ' ⟨fs, S a', cs⟩)
    (h : ∀ d out n a', Pre a' → Stable f kz vs out → K (.ref d) ⟨fs, (d, listOf out.toArray n) :: S a', cs⟩) :
    Op y c (call (.builtin "sorted") [.ref l] [(Str.ofString "key", .ref q)]) ⟨fs, S a, cs⟩ K := by
  refine ⟨fun s R => ?_⟩
  have hl : s.heap.IsList l vs.toArray := R.isList (σ := ⟨fs, S a, cs⟩) hm
  refine call_function_entry_kw PyProof.Rows.kind_sorted PyProof.Rows.plain_sorted PyProof.Rows.entry_sorted (ksk_s1 _ _) ?_
  unfold Builtin.«sorted»
  refine wpAny_bind (m := checkCount "sorted" 1 1 _) (wpAny_pure ?_)
  refine wpAny_bind (collect_list hl ?_ (by rw [sizeLine_eq]; k_extra "o"))
  refine wpAny_bind (wpAny_newList ?_ (by rw [sizeLine_eq]; k_extra "o"))
  have hsz : ((s.heap.push (seqObj "list" #[] 0)).update s.heap.objs.size (Obj.mapSeq (· ++ vs.toArray))).objs.size = s.heap.objs.size + 1 := by
    rw [Heap.size_update, size_push']
  have hoL : (((s.heap.push (seqObj "list" #[] 0)).update s.heap.objs.size (Obj.mapSeq (· ++ vs.toArray))).push (seqObj "list" vs.toArray 0)).get? (s.heap.objs.size + 1) = some (seqObj "list" vs.toArray 0) := by
    rw [← hsz]; exact Heap.get?_push_size _ rfl
  have keep : ∀ b o, s.heap.get? b = some o → (((s.heap.push (seqObj "list" #[] 0)).update s.heap.objs.size (Obj.mapSeq (· ++ vs.toArray))).push (seqObj "list" vs.toArray 0)).get? b = some o := fun b o e => by
    have hlt : b < s.heap.objs.size := Heap.lt_size e
    rw [Heap.get?_push_ne _ _ _ (by rw [hsz]; exact Nat.ne_of_lt (Nat.lt_succ_of_lt hlt)), Heap.get?_update_ne _ _ _ _ (Nat.ne_of_lt hlt), Heap.get?_push_ne _ _ _ (Nat.ne_of_lt hlt)]
    exact e
  have R1 : Rep y c ⟨fs, (s.heap.objs.size + 1, listOf vs.toArray 0) :: S a, cs⟩ { s with heap := ((s.heap.push (seqObj "list" #[] 0)).update s.heap.objs.size (Obj.mapSeq (· ++ vs.toArray))).push (seqObj "list" vs.toArray 0) } :=
    R.move (tl := []) (rest := S a) (tl' := [(s.heap.objs.size + 1, listOf vs.toArray 0)]) (.refl _) rfl rfl R.G (ND.cons.mpr ⟨fun _ h => (nomatch h), ND.nil⟩) (fun b o _ e => keep b o e) fun p hp => by
      rw [List.mem_singleton.mp hp]
      exact ⟨hoL, .inr (Heap.get?_none_of_le (Nat.le_succ _))⟩
  show wpAny _ _ _ _ _ { s with heap := ((s.heap.push (seqObj "list" #[] 0)).update s.heap.objs.size (Obj.mapSeq (· ++ vs.toArray))).push (seqObj "list" vs.toArray 0) }
  rw [hsz]
  generalize hL : s.heap.objs.size + 1 = L at hoL R1 ⊢
  generalize hs1 : ({ s with heap := ((s.heap.push (seqObj "list" #[] 0)).update s.heap.objs.size (Obj.mapSeq (· ++ vs.toArray))).push (seqObj "list" vs.toArray 0) } : Shared) = s1 at R1 ⊢
  have hoL1 := (R1.N (L, listOf vs.toArray 0) (.head _)).1
  refine wpAny_bind (wpAny_holding (wpAny_call_entry_kw PyProof.Rows.slot_list_sort ⟨_, hoL1, rfl⟩ PyProof.Rows.entry_list_sort ?body (ksk_l1 _ _)))
  case body =>
    show wpAny (model y.P y.w) c.A.in1.in1 (Builtin.«list.sort» ⟨[.ref L], [(Str.ofString "key", .ref q)]⟩) _ _ _
    rw [ksk_t1]
    unfold ksk_tree
    refine wpAny_bind (listItems_at hoL1 rfl ?_)
    refine wpAny_bind (listUpdate_at hoL1 rfl ?_ (by rw [List.size_toArray, sizeLine_eq]; k_extra "o") (Nat.zero_le _))
    obtain ⟨e1, R2⟩ := R1.upd .here (fun _ => #[])
    have ho2 := (R2.N (L, listOf #[] e1) (.head _)).1
    refine wpAny_bind (seqEpoch_at ho2 rfl ?_)
    refine wpAny_bind (wpAny_newTuple ?_ (by rw [sizeLine_eq]; simpa using by k_extra "o"))
    refine wpAny_bind (wpAny_newList ?_ (Nat.zero_le _))
    refine wpAny_holding ?_
    have R3 := Rep.weak (σ := ⟨fs, _ :: (L, listOf #[] e1) :: S a, cs⟩) (σ' := ⟨fs, (L, listOf #[] e1) :: S a, cs⟩) ⟨fun _ _ e => e, ⟨[_], List.perm_append_comm (l₁ := [_])⟩, rfl⟩ (R2.fresh { cls := .type "tuple", data := .seq vs.toArray.toList.toArray } rfl)
    have R4 := R3.fresh (listOf #[] 0) rfl
    dsimp only at R4
    generalize hkS : (Heap.push _ { cls := .type "tuple", data := .seq vs.toArray.toList.toArray }).objs.size = kS at R4 ⊢
    generalize hs2 : Shared.mk (Heap.push _ (listOf #[] 0)) _ _ _ _ = s2 at R4
    change wpAny _ _ _ _ _ s2
    unfold ksk_rest
    refine wpAny_bind (wpAny_rule ?_)
    first
      | rw [List.forIn_toArray]
      | (rw [← Array.forIn_toList]; simp only [List.toList_toArray])
      | rw [← Array.forIn_toList]
    refine wpAny_bind (ksk_fold (fun i s' => ∃ a' kA e, Pre a' ∧ Rep y c ⟨fs, (kS, listOf kA e) :: (L, listOf #[] e1) :: S a', cs⟩ s' ∧ IntsAre kA.toList (kz.take i)) vs 0 s2 ⟨a, #[], 0, ha, R4, by simpa using IntsAre.nil⟩ ?step ?done)
    case step =>
      rintro j x s' hx ⟨a', kA, e, hp', R', hk⟩
      simp only [Nat.zero_add] at hk ⊢
      have hj : j < vs.length := (List.getElem?_eq_some_iff.mp hx).1
      have hz : kA.size ≤ vs.length := by
        have h1 := hk.length
        rw [Array.length_toList, List.length_take] at h1
        k_extra "o"
      have Rd : Rep y (c.deep [(kS, listOf kA e), (L, listOf #[] e1)]) ⟨fs, S a', cs⟩ s' := Rep.deep.mpr (Rep.unhide.mpr (Rep.perm (List.perm_append_comm (l₁ := [(kS, listOf kA e), (L, listOf #[] e1)])) R'))
      refine wpAny_bind (wpAny_attempt (wpAny_mono ((turn _ a' j x (ok.deep _) hp' hx).run s' Rd) (fun v s'' he => ?_) fun _ _ hF => hF.elim))
      obtain ⟨σ3, R5, t2, a2, rfl, hp2, w5⟩ := he
      dsimp only
      have R6 := Rep.perm (List.perm_append_comm (l₁ := S a2) (l₂ := [(kS, listOf kA e), (L, listOf #[] e1)])) (Rep.unhide.mp (Rep.deep.mp (R5.weak w5)))
      have nk := (R6.N (kS, listOf kA e) (.head _)).1
      obtain ⟨e7, R7⟩ := R6.upd .here (·.push (.int (kz.getD j 0) t2))
      have ek : kz.take (j + 1) = kz.take j ++ [kz.getD j 0] := by
        have : j < kz.length := by k_extra "o"
        rw [List.take_add_one, List.getElem?_eq_getElem this, List.getD_eq_getElem?_getD, List.getElem?_eq_getElem this]; simp
      have ea : (kA.push (Value.int (kz.getD j 0) t2)).toList = kA.toList ++ [Value.int (kz.getD j 0) t2] := by simp
      refine wpAny_bind (listUpdate_at nk rfl ?_ (by rw [sizeLine_eq]; k_extra "o") (Nat.le_trans (Nat.le_of_eq (Array.size_push ..)) (by rw [sizeLine_eq]; k_extra "o")))
      exact wpAny_pure ⟨rfl, a2, kA.push (.int (kz.getD j 0) t2), e7, hp2, R7, by rw [ea, ek]; exact ksk_snoc hk⟩
    case done =>
      rintro s' ⟨a', kA, e, hp', R', hk⟩
      have hk' : IntsAre kA.toList kz := by
        have e3 : kz.take (0 + vs.length) = kz := List.take_of_length_le (by k_extra "o")
        rw [e3] at hk
        exact hk
      have nk := (R'.N (kS, listOf kA e) (.head _)).1
      refine wpAny_bind (listItems_at nk rfl ?_)
      refine sort_end R' hk' hlen h64 hf fun h' out n R8 st => ⟨_, rfl, ?_⟩
      exact wpAny_pure ⟨_, rfl, _, R8, h L out n a' hp' st⟩
end
end MineV
end

section
namespace Mine
open PySem PySem.W PyProof.Rows PySem.Calls PySem.Spec
noncomputable def one (c : Nat) : Str := ⟨#[c]⟩
noncomputable def nl (c : Nat) (ln : Int) : Int := if c = 10 then ln + 1 else ln
noncomputable def nls : List Nat → Int → Int
  | [], ln => ln
  | c :: r, ln => nls r (nl c ln)
theorem nls_app : ∀ (a b : List Nat) (ln : Int), nls (a ++ b) ln = nls b (nls a ln)
  | [], _, _ => rfl
  | c :: a, b, ln => nls_app a b (nl c ln)
theorem nls_count : ∀ (a : List Nat) (ln : Int), nls a ln = ln + ((a.filter fun c => decide (c = 10)).length : Nat)
  | [], ln => by simp [nls]
  | c :: a, ln => by
    rw [nls, nls_count a]
    unfold nl
    by_cases h : c = 10
    · rw [if_pos h, List.filter_cons_of_pos (by simp [h])]; simp; k_extra "o"
    · rw [if_neg h, List.filter_cons_of_neg (by simp [h])]
theorem s_q : ("\"" : Str) = one 34 := by decide +kernel
theorem s_b : ("\\" : Str) = one 92 := by decide +kernel
theorem s_n : ("\n" : Str) = one 10 := by decide +kernel
theorem s_e : ("" : Str) = ⟨#[]⟩ := by decide +kernel
theorem one_ne (c : Nat) : one c ≠ "" := by
  rw [s_e]; intro h; injection h with h
  have := congrArg Array.size h
  simp at this
theorem one_inj {c d : Nat} (h : one c = one d) : c = d := by
  injection h with h
  have := congrArg Array.toList h
  simpa using this
theorem piece_is {tx : Str} {i c : Nat} {r : List Nat} (h : tx.cps.toList.drop i = c :: r) : piece tx i = one c := by
  have hi : i < tx.cps.toList.length := by
    rcases Nat.lt_or_ge i tx.cps.toList.length with k | k
    · exact k
    · rw [List.drop_eq_nil_of_le k] at h; cases h
  have e := beq_iff_eq.mp (slice_closes (x := tx) (i := (i : Int)) (j := (i : Int) + 1) ⟨by k_extra "o", by k_extra "o", by k_extra "o"⟩)
  unfold piece
  rw [e, Int.toNat_natCast, h, show ((i : Int) + 1 - i).toNat = 1 by k_extra "o"]
  rfl
theorem piece_end (tx : Str) : piece tx tx.length = "" := by
  have h := piece_le tx tx.length (Nat.le_refl _)
  have e : (piece tx tx.length).cps.size = 0 := by
    have : (piece tx tx.length).length = (piece tx tx.length).cps.size := rfl
    k_extra "o"
  cases hp : piece tx tx.length with
  | mk c =>
    rw [hp] at e
    have : c = #[] := Array.eq_empty_of_size_eq_zero e
    rw [this]; rfl
theorem piece_no {tx : Str} {i : Nat} (h : tx.cps.toList.drop i = []) (hi : i ≤ tx.length) : piece tx i = "" := by
  have e : i = tx.length := by
    have := List.drop_eq_nil_iff.mp h
    have : tx.cps.toList.length = tx.length := Array.length_toList
    k_extra "o"
  rw [e]; exact piece_end tx
theorem drop_next {l r : List Nat} {i c : Nat} (h : l.drop i = c :: r) : l.drop (i + 1) = r := by
  rw [← List.drop_drop, h]; rfl
theorem drop_le {l r : List Nat} {i c : Nat} (h : l.drop i = c :: r) : i + 1 ≤ l.length := by
  rcases Nat.lt_or_ge i l.length with k | k
  · exact k
  · rw [List.drop_eq_nil_of_le k] at h; cases h
theorem lnAt_is {tx : Str} {i c : Nat} {r : List Nat} (h : tx.cps.toList.drop i = c :: r) (ln : Int) : lnAt tx i ln = nl c ln := by
  unfold lnAt nl
  rw [piece_is h, s_n]
  by_cases k : c = 10
  · rw [if_pos k, if_pos (k ▸ rfl)]
  · rw [if_neg k, if_neg (fun z => k (one_inj z))]
theorem one_len (c : Nat) : (one c).length = 1 := rfl
noncomputable def escL : List Nat → List Nat
  | [] => []
  | c :: w => (if c = 34 ∨ c = 92 then [92, c] else [c]) ++ escL w
noncomputable def strOf (w : List Nat) : Str := ⟨w.toArray⟩
theorem strOf_snoc (tok : Str) (c : Nat) (w : List Nat) : tok ++ one c ++ strOf w = tok ++ strOf (c :: w) := by
  show (⟨(tok.cps ++ #[c]) ++ w.toArray⟩ : Str) = ⟨tok.cps ++ (c :: w).toArray⟩
  congr 1
  apply Array.toList_inj.mp
  simp
theorem strOf_nil (tok : Str) : tok ++ strOf [] = tok := by
  show (⟨tok.cps ++ #[]⟩ : Str) = tok
  simp
theorem tokQ_esc (tx : Str) : ∀ (w : List Nat) (n : Nat) (tok : Str) (i : Nat) (ln : Int) (post : List Nat), w.length < n → tx.cps.toList.drop i = escL w ++ 34 :: post →
    tokQ tx n tok i ln = (tok ++ strOf w, i + (escL w).length + 1, nls (escL w ++ [34]) ln)
  | [], 0, _, _, _, _, h, _ => absurd h (Nat.not_lt_zero _)
  | [], n + 1, tok, i, ln, post, h, e => by
    have e' : tx.cps.toList.drop i = 34 :: post := e
    unfold tokQ
    rw [piece_is e', if_neg (one_ne _), s_q, if_pos rfl, one_len, lnAt_is e', strOf_nil]
    rfl
  | c :: w, 0, _, _, _, _, h, _ => absurd h (Nat.not_lt_zero _)
  | c :: w, n + 1, tok, i, ln, post, h, e => by
    have hw : w.length < n := by simpa using h
    by_cases hc : c = 34 ∨ c = 92
    · have ee : escL (c :: w) = 92 :: c :: escL w := by show (if c = 34 ∨ c = 92 then [92, c] else [c]) ++ escL w = _; rw [if_pos hc]; rfl
      have e' : tx.cps.toList.drop i = 92 :: (c :: (escL w ++ 34 :: post)) := by rw [e, ee]; rfl
      have e2 := drop_next e'
      have e3 := drop_next e2
      unfold tokQ
      rw [piece_is e', if_neg (one_ne _), s_q, if_neg (fun z => absurd (one_inj z) (by decide)), s_b, if_pos rfl, one_len, piece_is e2, one_len, lnAt_is e', lnAt_is e2, tokQ_esc tx w n (tok ++ one c) (i + 1 + 1) _ post hw e3, strOf_snoc, ee]
      refine Prod.ext rfl (Prod.ext ?_ rfl)
      show i + 1 + 1 + (escL w).length + 1 = i + ((escL w).length + 1 + 1) + 1
      k_extra "o"
    · have ee : escL (c :: w) = c :: escL w := by show (if c = 34 ∨ c = 92 then [92, c] else [c]) ++ escL w = _; rw [if_neg hc]; rfl
      have e' : tx.cps.toList.drop i = c :: (escL w ++ 34 :: post) := by rw [e, ee]; rfl
      have e2 := drop_next e'
      unfold tokQ
      rw [piece_is e', if_neg (one_ne _), s_q, if_neg (fun z => hc (.inl (one_inj z))), s_b, if_neg (fun z => hc (.inr (one_inj z))), one_len, lnAt_is e', tokQ_esc tx w n (tok ++ one c) (i + 1) _ post hw e2, strOf_snoc, ee]
      refine Prod.ext rfl (Prod.ext ?_ rfl)
      show i + 1 + (escL w).length + 1 = i + ((escL w).length + 1) + 1
      k_extra "o"
theorem tokW_word (tx : Str) : ∀ (w : List Nat) (n : Nat) (tok : Str) (i : Nat) (ln : Int) (d : Nat) (post : List Nat), w.length < n → (∀ c ∈ w, notWhite (one c) = true ∧ c ≠ 92) → notWhite (one d) = false → tx.cps.toList.drop i = w ++ d :: post →
    tokW tx n tok i ln = (tok ++ strOf w, i + w.length + 1, nls (w ++ [d]) ln)
  | [], 0, _, _, _, _, _, h, _, _, _ => absurd h (Nat.not_lt_zero _)
  | [], n + 1, tok, i, ln, d, post, h, hw, hd, e => by
    have e' : tx.cps.toList.drop i = d :: post := e
    unfold tokW
    rw [piece_is e', if_neg (one_ne _), if_pos hd, one_len, lnAt_is e', strOf_nil]
    rfl
  | c :: w, 0, _, _, _, _, _, h, _, _, _ => absurd h (Nat.not_lt_zero _)
  | c :: w, n + 1, tok, i, ln, d, post, h, hw, hd, e => by
    have e' : tx.cps.toList.drop i = c :: (w ++ d :: post) := e
    have e2 := drop_next e'
    have hc := hw c (.head _)
    unfold tokW
    rw [piece_is e', if_neg (one_ne _), if_neg (by rw [hc.1]; decide), s_b, if_neg (fun z => hc.2 (one_inj z)), one_len, lnAt_is e', tokW_word tx w n (tok ++ one c) (i + 1) _ d post (by simpa using h) (fun x hx => hw x (.tail _ hx)) hd e2, strOf_snoc]
    refine Prod.ext rfl (Prod.ext ?_ rfl)
    show i + 1 + w.length + 1 = i + (w.length + 1) + 1
    k_extra "o"
theorem nw34 : notWhite (one 34) = true := by decide +kernel
theorem nw92 : notWhite (one 92) = true := by decide +kernel
theorem tokT_quoted (tx : Str) (w : List Nat) (n i : Nat) (ln : Int) (post : List Nat) (hn : w.length < n) (e : tx.cps.toList.drop i = 34 :: (escL w ++ 34 :: post)) :
    tokT tx (n + 1) i ln = (strOf w, i + (34 :: (escL w ++ [34])).length, nls (34 :: (escL w ++ [34])) ln) := by
  have e2 := drop_next e
  unfold tokT
  rw [piece_is e, if_neg (one_ne _), if_neg (by rw [nw34]; decide), s_q, if_pos rfl, one_len, lnAt_is e, tokQ_esc tx w n "" (i + 1) _ post hn e2]
  refine Prod.ext ?_ (Prod.ext ?_ rfl)
  · show ("" : Str) ++ strOf w = strOf w
    rw [s_e]
    show (⟨#[] ++ w.toArray⟩ : Str) = _
    simp [strOf]
  · show i + 1 + (escL w).length + 1 = i + ((escL w ++ [34]).length + 1)
    rw [List.length_append]; simp; k_extra "o"
theorem tokT_bare (tx : Str) (c : Nat) (w : List Nat) (n i : Nat) (ln : Int) (d : Nat) (post : List Nat) (hn : w.length < n) (hw : ∀ c ∈ w, notWhite (one c) = true ∧ c ≠ 92) (hd : notWhite (one d) = false) (e : tx.cps.toList.drop i = 92 :: c :: (w ++ d :: post)) :
    tokT tx (n + 1) i ln = (strOf (c :: w), i + (92 :: c :: (w ++ [d])).length, nls (92 :: c :: (w ++ [d])) ln) := by
  have e2 := drop_next e
  have e3 := drop_next e2
  unfold tokT
  rw [piece_is e, if_neg (one_ne _), if_neg (by rw [nw92]; decide), s_q, if_neg (fun z => absurd (one_inj z) (by decide)), s_b, if_pos rfl, one_len, piece_is e2, one_len, lnAt_is e, lnAt_is e2, tokW_word tx w n ("" ++ one c) (i + 1 + 1) _ d post hn hw hd e3, strOf_snoc]
  refine Prod.ext ?_ (Prod.ext ?_ rfl)
  · show ("" : Str) ++ strOf (c :: w) = strOf (c :: w)
    rw [s_e]
    show (⟨#[] ++ (c :: w).toArray⟩ : Str) = _
    simp [strOf]
  · show i + 1 + 1 + w.length + 1 = i + ((w ++ [d]).length + 1 + 1)
    rw [List.length_append]; simp; k_extra "o"
theorem tokW_end (tx : Str) : ∀ (w : List Nat) (n : Nat) (tok : Str) (i : Nat) (ln : Int), w.length < n → i ≤ tx.length → (∀ c ∈ w, notWhite (one c) = true ∧ c ≠ 92) → tx.cps.toList.drop i = w →
    tokW tx n tok i ln = (tok ++ strOf w, i + w.length, nls w ln)
  | [], 0, _, _, _, h, _, _, _ => absurd h (Nat.not_lt_zero _)
  | [], n + 1, tok, i, ln, h, hi, hw, e => by
    unfold tokW
    rw [piece_no e hi, if_pos rfl, strOf_nil]
    rfl
  | c :: w, 0, _, _, _, h, _, _, _ => absurd h (Nat.not_lt_zero _)
  | c :: w, n + 1, tok, i, ln, h, hi, hw, e => by
    have e2 := drop_next e
    have hc := hw c (.head _)
    have hi2 := drop_le e
    rw [show tx.cps.toList.length = tx.length from Array.length_toList] at hi2
    unfold tokW
    rw [piece_is e, if_neg (one_ne _), if_neg (by rw [hc.1]; decide), s_b, if_neg (fun z => hc.2 (one_inj z)), one_len, lnAt_is e, tokW_end tx w n (tok ++ one c) (i + 1) _ (by simpa using h) hi2 (fun x hx => hw x (.tail _ hx)) e2, strOf_snoc]
    refine Prod.ext rfl (Prod.ext ?_ rfl)
    show i + 1 + w.length = i + (w.length + 1)
    k_extra "o"
theorem tokT_bareE (tx : Str) (c : Nat) (w : List Nat) (n i : Nat) (ln : Int) (hn : w.length < n) (hw : ∀ c ∈ w, notWhite (one c) = true ∧ c ≠ 92) (e : tx.cps.toList.drop i = 92 :: c :: w) :
    tokT tx (n + 1) i ln = (strOf (c :: w), i + (92 :: c :: w).length, nls (92 :: c :: w) ln) := by
  have e2 := drop_next e
  have e3 := drop_next e2
  have hi2 := drop_le e2
  rw [show tx.cps.toList.length = tx.length from Array.length_toList] at hi2
  unfold tokT
  rw [piece_is e, if_neg (one_ne _), if_neg (by rw [nw92]; decide), s_q, if_neg (fun z => absurd (one_inj z) (by decide)), s_b, if_pos rfl, one_len, piece_is e2, one_len, lnAt_is e, lnAt_is e2, tokW_end tx w n ("" ++ one c) (i + 1 + 1) _ hn hi2 hw e3]
  refine Prod.ext ?_ (Prod.ext ?_ rfl)
  · show ("" : Str) ++ one c ++ strOf w = _
    rw [strOf_snoc, s_e]
    show (⟨#[] ++ (c :: w).toArray⟩ : Str) = _
    simp [strOf]
  · show i + 1 + 1 + w.length = i + (w.length + 1 + 1)
    k_extra "o"
theorem tokT_ws (tx : Str) : ∀ (ws : List Nat) (n i : Nat) (ln : Int) (rest : List Nat), (∀ c ∈ ws, notWhite (one c) = false) → tx.cps.toList.drop i = ws ++ rest →
    tokT tx (n + ws.length) i ln = tokT tx n (i + ws.length) (nls ws ln)
  | [], _, _, _, _, _, _ => rfl
  | c :: w, n, i, ln, rest, hw, e => by
    have e' : tx.cps.toList.drop i = c :: (w ++ rest) := e
    have e2 := drop_next e'
    show tokT tx (n + w.length + 1) i ln = _
    rw [show tokT tx (n + w.length + 1) i ln = tokT tx (n + w.length) (i + 1) (nl c ln) by
      conv => lhs; unfold tokT
      rw [piece_is e', if_neg (one_ne _), if_pos (hw c (.head _)), one_len, lnAt_is e']]
    rw [tokT_ws tx w n (i + 1) _ rest (fun x hx => hw x (.tail _ hx)) e2]
    show tokT tx n (i + 1 + w.length) _ = tokT tx n (i + (w.length + 1)) _
    rw [show i + 1 + w.length = i + (w.length + 1) by k_extra "o"]
    rfl
theorem tokT_end (tx : Str) (n i : Nat) (ln : Int) (hi : i ≤ tx.length) (e : tx.cps.toList.drop i = []) : tokT tx n i ln = (("" : Str), i, ln) := by
  cases n with
  | zero => rfl
  | succ n =>
    unfold tokT
    rw [piece_no e hi, if_pos rfl]
noncomputable def nmL (k : Nat) : List Nat := [[34, 97], [92, 98], [35, 99], [10, 100], [9, 101]].getD k []
noncomputable def wordL (k : Nat) (q : Bool) : List Nat := if q then 34 :: (escL (nmL k) ++ [34]) else 92 :: nmL k
theorem nm_bare : ∀ k < 5, ∃ c d, nmL k = [c, d] ∧ notWhite (one d) = true ∧ d ≠ 92 := by
  intro k hk
  rcases (show k = 0 ∨ k = 1 ∨ k = 2 ∨ k = 3 ∨ k = 4 by k_extra "o") with rfl | rfl | rfl | rfl | rfl
  · exact ⟨34, 97, rfl, by decide +kernel, by decide⟩
  · exact ⟨92, 98, rfl, by decide +kernel, by decide⟩
  · exact ⟨35, 99, rfl, by decide +kernel, by decide⟩
  · exact ⟨10, 100, rfl, by decide +kernel, by decide⟩
  · exact ⟨9, 101, rfl, by decide +kernel, by decide⟩
theorem nm_len : ∀ k < 5, (nmL k).length = 2 := by
  intro k hk
  obtain ⟨c, d, e, _⟩ := nm_bare k hk
  rw [e]; rfl
theorem tok_piece (tx : Str) (i : Nat) (ln : Int) (k : Nat) (q : Bool) (ws rest : List Nat) (hk : k < 5) (hws : ∀ c ∈ ws, notWhite (one c) = false) (hr : rest = [] ∨ ∃ d r, rest = d :: r ∧ notWhite (one d) = false) (e : tx.cps.toList.drop i = ws ++ wordL k q ++ rest) :
    ∃ m, m ≤ 1 ∧ m ≤ rest.length ∧ tokT tx (tx.length + 1) i ln = (strOf (nmL k), i + (ws ++ wordL k q ++ rest.take m).length, nls (ws ++ wordL k q ++ rest.take m) ln) := by
  have hl : (ws ++ wordL k q ++ rest).length ≤ tx.length := by
    rw [← e, List.length_drop]
    have : tx.cps.toList.length = tx.length := Array.length_toList
    k_extra "o"
  rw [List.append_assoc] at e
  have hdrop : tx.cps.toList.drop (i + ws.length) = wordL k q ++ rest := by
    rw [← List.drop_drop, e, List.drop_left]
  have nl2 := nm_len k hk
  have hfu : tx.length + 1 = (tx.length - ws.length) + 1 + ws.length := by
    rw [List.length_append, List.length_append] at hl; k_extra "o"
  rw [hfu, tokT_ws tx ws _ i ln _ hws e]
  cases q with
  | true =>
    refine ⟨0, by decide, Nat.zero_le _, ?_⟩
    have e1 : tx.cps.toList.drop (i + ws.length) = 34 :: (escL (nmL k) ++ 34 :: rest) := by
      rw [hdrop]; simp [wordL]
    have hlw : (wordL k true).length ≥ 3 := by
      obtain ⟨c, d, ec, _⟩ := nm_bare k hk
      unfold wordL
      rw [if_pos rfl, ec]
      unfold escL
      simp only [List.length_cons, List.length_append]
      split <;> simp <;> k_extra "o"
    rw [List.length_append, List.length_append] at hl
    rw [tokT_quoted tx (nmL k) _ (i + ws.length) _ rest (by k_extra "o") e1]
    refine Prod.ext rfl (Prod.ext ?_ ?_)
    · show i + ws.length + (34 :: (escL (nmL k) ++ [34])).length = i + (ws ++ wordL k true ++ rest.take 0).length
      rw [List.take_zero, List.append_nil, List.length_append]
      show _ = i + (ws.length + (34 :: (escL (nmL k) ++ [34])).length)
      k_extra "o"
    · show nls (34 :: (escL (nmL k) ++ [34])) (nls ws ln) = nls (ws ++ wordL k true ++ rest.take 0) ln
      rw [List.take_zero, List.append_nil, nls_app]; rfl
  | false =>
    obtain ⟨c, d, ec, hd, h92⟩ := nm_bare k hk
    have hw : ∀ x ∈ [d], notWhite (one x) = true ∧ x ≠ 92 := fun x hx => by
      rw [List.mem_singleton.mp hx]; exact ⟨hd, h92⟩
    have ew : wordL k false = 92 :: c :: [d] := by unfold wordL; rw [ec]; rfl
    rw [List.length_append, List.length_append, ew] at hl
    have hl' : ws.length + 3 + rest.length ≤ tx.length := hl
    rcases hr with rfl | ⟨z, r, rfl, hz⟩
    · refine ⟨0, by decide, Nat.zero_le _, ?_⟩
      have e1 : tx.cps.toList.drop (i + ws.length) = 92 :: c :: [d] := by rw [hdrop, ew]; rfl
      have h1 : ([d] : List Nat).length < tx.length - ws.length := by show 1 < _; k_extra "o"
      rw [tokT_bareE tx c [d] _ (i + ws.length) _ h1 hw e1, ec]
      refine Prod.ext rfl (Prod.ext ?_ ?_)
      · show i + ws.length + (92 :: c :: [d]).length = i + (ws ++ wordL k false ++ List.take 0 []).length
        rw [List.take_zero, List.append_nil, List.length_append, ew]
        k_extra "o"
      · show nls (92 :: c :: [d]) (nls ws ln) = nls (ws ++ wordL k false ++ List.take 0 []) ln
        rw [List.take_zero, List.append_nil, nls_app, ew]
    · refine ⟨1, by decide, by simp, ?_⟩
      have e1 : tx.cps.toList.drop (i + ws.length) = 92 :: c :: ([d] ++ z :: r) := by rw [hdrop, ew]; rfl
      have h1 : ([d] : List Nat).length < tx.length - ws.length := by show 1 < _; k_extra "o"
      rw [tokT_bare tx c [d] _ (i + ws.length) _ z r h1 hw hz e1, ec]
      have e3 : wordL k false ++ List.take 1 (z :: r) = 92 :: c :: ([d] ++ [z]) := by rw [ew]; rfl
      rw [List.append_assoc, e3]
      refine Prod.ext rfl (Prod.ext ?_ ?_)
      · show i + ws.length + (92 :: c :: ([d] ++ [z])).length = i + (ws ++ 92 :: c :: ([d] ++ [z])).length
        rw [List.length_append]
        k_extra "o"
      · show nls (92 :: c :: ([d] ++ [z])) (nls ws ln) = nls (ws ++ 92 :: c :: ([d] ++ [z])) ln
        rw [nls_app]
end Mine
end
example : True := by
  k_with_none
  k_with "o" => first | assumption | (apply Mine.le_up; assumption; exact rfl) | (apply Mine.le_dn; assumption; exact rfl) | lia | omega
  trivial

section
noncomputable section
namespace MineV
open PySem PySem.W PyProof.Rows PySem.Calls PySem.Spec
open Mine (Kf)
section
variable {y : Gl} {b₀ : Heap} {D U : Nat} {tl : Led} {S : (Value → Led → Prop) → Prop} {K : Frag} {p : Program} {loose : List Str} {mean : ExcName → Option Value} {mg mb : Str → Option Value} {tb : Tab}
variable {name qual : Str} {params : Arguments} {body : List Stmt} {scope : Scope} {cl : List (Str × Addr)} {dV kV doc pm cdv ct oc : Value} {an od : Option Addr} {osl : Array (Option Value)} {f : Addr} {args : Args} {binds : List (Str × Value)}
theorem enterO (X : K.In b₀) (T : Top p loose mean mg mb b₀) (ht : glOk K tb = true)
    (ho : K.lookup f = some ⟨oc, od, .func (fnX name qual params body scope cl dV kV doc pm an cdv ct), osl⟩) (hcd : codeIn K cdv qual = true)
    (hbind : ∀ s : Shared, K.In s.heap → BindsTo s (fnX name qual params body scope cl dV kV doc pm an cdv ct) args binds) (hloc : ∀ y ∈ binds, scope.names.lookup y.1 = some .local)
    (h : ∀ k c, S k → CxOk y tb scope.names b₀ D U c → (∃ L, c.env = envX qual scope L f cdv cl) → Op y c (execs body c.env) ⟨binds.reverse, tl, []⟩ (EndK k))
    (hcell : ∀ x ∈ scope.names, x.2 ≠ .cell) (hco : scope.isCoroutine = false) (hgen : scope.isGenerator = false) (hk : scope.kind = .function)
    (hdb : scope.names.lookup ("__debug__" : Str) = none) (hcl : scope.names.lookup ("__classdict__" : Str) = none) :
    FC y b₀ (D + 1) (U + 3) (.ref f) args tl S := by
  intro dp un gd fr s k R M nd G hd hu hS hR
  have st : b₀.StaysIn (hideAll s.heap (tl.map (·.1))) := fun b o e => hideAll_get _ (M.stays b o e) fun q => by
    obtain ⟨x, hx, rfl⟩ := List.mem_map.mp q
    rw [(M.cells x hx).2] at e; cases e
  have B : Below (AR dp un gd fr) b₀ fr (hideAll s.heap (tl.map (·.1))) := ⟨rfl, st, funFrames_hideAll M.frames fun env he a ha => by
    obtain ⟨x, hx, rfl⟩ := List.mem_map.mp ha
    exact M.off env he x hx⟩
  have XS : K.In s.heap := X.keeps M.stays
  have Xg : K.In (hideAll s.heap (tl.map (·.1))) := X.keeps fun b o e => st b o e
  have Tg := T.keeps fun b o e => st b o e
  refine codeAny_call_def (fd := fnX name qual params body scope cl dV kV doc pm an cdv ct) (body := body) (binds := binds) (show dp < recursionLimit by k_extra "o") (XS _ _ ho) rfl (T.nolimit.keeps M.stays) (codeRec_of XS hcd) rfl (hbind s XS) hcell hloc (fun h₁ hns hk₁ => ?_) hco hgen hk
  let c : Cx := ⟨dp + 1, un + 3, gd, envX qual scope s.heap.objs.size f cdv cl :: fr, envX qual scope s.heap.objs.size f cdv cl, hideAll s.heap (tl.map (·.1)), s, []⟩
  have ok : CxOk y tb scope.names b₀ D U c := ⟨by show dp + 1 + D < _; k_extra "o", by show un + 3 + U < _; k_extra "o", fun σ s R => amb_def B rfl hk rfl R, st, rfl, hk, rfl, rfl, hdb, hcl,
    fun env x v pos s' L m A Q hg hb hk hx hd hv F' q => look_ok (y := y) ht hv Xg Tg F' hg hb hk hx hd q, fun a ha h' kp => keeps_ok ht ha (Xg.keeps kp)⟩
  have F : ∃ m, Fr c.g c.env.locals h₁ m ∧ ∀ x v, getF binds.reverse x = some v → m x = some v := ⟨_, ⟨hns, fun b o e => hk₁ b o (of_hideAll _ e), Nat.le_of_eq (hideAll_size _ _)⟩, fun x v e => getF_lookup e⟩
  have N : News c.g c.env.locals h₁ tl := fun q hq => ⟨hk₁ _ _ (M.cells q hq).1, Nat.ne_of_lt (Heap.lt_size (M.cells q hq).1), hideAll_none _ (List.mem_map_of_mem hq)⟩
  have rep : Rep y c ⟨binds.reverse, tl, []⟩ { s with heap := h₁, toks := s.toks + binds.length } := ⟨rfl, rfl, G, F, by rw [show c.hid = [] from rfl, List.append_nil]; exact N, fun _ hq => (nomatch hq), by
    unfold adrs
    rw [show c.hid = [] from rfl, List.append_nil]
    exact nd⟩
  refine wpAny_mono ((h k c hS ok ⟨_, rfl⟩).run _ rep) (fun fl s' hl => ?_) fun _ _ y => y.elim
  obtain ⟨σ', R', hk'⟩ := hl
  exact end_ok rfl rfl st hk' R' hR
end
theorem plain_args {M : Model} {A : Around} {E : Value → Shared → Prop} {s : Shared} {env : Env} {pos : Pos} {a b : Expr} {Q : List Value → Shared → Prop} (ha : isStar a = false) (hb : isStar b = false)
    (h : wpAny M A (eval a env) (fun x s1 => wpAny M A (eval b env) (fun y s2 => Q [x, y] s2) E s1) E s) : wpAny M A (spliced (backTo pos (starEach [a, b] env))) Q E s :=
  args_cons (wpAny_mono h (fun _ _ h1 => args_cons (wpAny_mono h1 (fun _ _ h2 => args_nil h2) fun _ _ x => x) (star_cons hb)) fun _ _ x => x) (star_cons ha)
theorem call_bi2 {M : Model} {A : Around} {E : Value → Shared → Prop} {s : Shared} {env : Env} {pos fp : Pos} {f : Str} {id : String} {a b : Expr} {Q : Value → Shared → Prop} (ha : isStar a = false) (hb : isStar b = false)
    (hf : ∀ R : Value → Shared → Prop, R (.builtin id) s → wpAny M A (eval (.Name f fp) env) R E s)
    (h : wpAny M A (eval a env) (fun x s1 => wpAny M A (eval b env) (fun y s2 => wpAny M A (call (.builtin id) [x, y]) Q E s2) E s1) E s) : wpAny M A (eval (.Call (.Name f fp) [a, b] [] pos) env) Q E s := by
  rw [show eval (.Call (.Name f fp) [a, b] [] pos) env = (do callWith pos (← eval (.Name f fp) env) [] (backTo pos (starEach [a, b] env)) []) from rfl]
  refine wpAny_bind (hf _ ?_)
  have pl : (backTo pos (starEach [a, b] env)).any (·.1) = false := stars_plain (by rw [List.any_cons, List.any_cons, ha, hb]; rfl)
  have pa := plain_args (pos := pos) (Q := fun vs s2 => wpAny M A (call (.builtin id) vs) Q E s2) ha hb h
  rw [star_cons ha] at pa pl ⊢
  exact Calls.callWith_builtin pl (Calls.evalArgs_plain pa)
theorem call_bi1 {M : Model} {A : Around} {E : Value → Shared → Prop} {s : Shared} {env : Env} {pos fp : Pos} {f : Str} {id : String} {a : Expr} {Q : Value → Shared → Prop} (ha : isStar a = false)
    (hf : ∀ R : Value → Shared → Prop, R (.builtin id) s → wpAny M A (eval (.Name f fp) env) R E s)
    (h : wpAny M A (eval a env) (fun x s1 => wpAny M A (call (.builtin id) [x]) Q E s1) E s) : wpAny M A (eval (.Call (.Name f fp) [a] [] pos) env) Q E s := by
  rw [show eval (.Call (.Name f fp) [a] [] pos) env = (do callWith pos (← eval (.Name f fp) env) [] (backTo pos (starEach [a] env)) []) from rfl]
  refine wpAny_bind (hf _ ?_)
  have pl : (backTo pos (starEach [a] env)).any (·.1) = false := stars_plain (by rw [List.any_cons, ha]; rfl)
  have pa : wpAny M A (spliced (backTo pos (starEach [a] env))) (fun vs s2 => wpAny M A (call (.builtin id) vs) Q E s2) E s := args_cons (wpAny_mono h (fun _ _ h1 => args_nil h1) fun _ _ x => x) (star_cons ha)
  rw [star_cons ha] at pa pl ⊢
  exact Calls.callWith_builtin pl (Calls.evalArgs_plain pa)
theorem call_join {prog : Program} {w : World} {A : Around} {E : Value → Shared → Prop} {s : Shared} {env : Env} {pos xp ap : Pos} {x : Str} {a : Expr} {sep : Str} {t : Tok} {Q : Value → Shared → Prop} (ha : isStar a = false) (hp : (ap.endLine == pos.line) = true)
    (hf : ∀ R : Value → Shared → Prop, R (.str sep t) s → wpAny (model prog w) A (eval (.Name x xp) env) R E s)
    (h : wpAny (model prog w) A (eval a env) (fun v s1 => wpAny (model prog w) A (call (.builtin "str.join") [.str sep t, v]) Q E s1) E s) : wpAny (model prog w) A (eval (.Call (.Attribute (.Name x xp) "join" ap) [a] [] pos) env) Q E s := by
  obtain ⟨pl, e⟩ := eval_meth (o := .Name x xp) (name := "join") (args := [a]) (env := env) rfl (by rw [List.any_cons, ha]; rfl) (show 1 < 30 by decide) hp
  rw [e]
  refine wpAny_bind (hf _ (wpAny_bind (wpAny_standAt (wpAny_bind (wpAny_holding (GM.join ?_))))))
  have pl : (backTo pos (starEach [a] env)).any (·.1) = false := stars_plain (by rw [List.any_cons, ha]; rfl)
  have pa : wpAny (model prog w) A (spliced (backTo pos (starEach [a] env))) (fun vs s2 => wpAny (model prog w) A (call (.builtin "str.join") (.str sep t :: vs)) Q E s2) E s := args_cons (wpAny_mono h (fun _ _ h1 => args_nil h1) fun _ _ x => x) (star_cons ha)
  rw [star_cons ha] at pa pl ⊢
  exact Calls.callWith_builtin pl (Calls.evalArgs_plain pa)
noncomputable abbrev P2 : Program := PySem.Challenge.rw_tl0016_02.row.prog
noncomputable def tb2 : Tab := ⟨[("insort_right", .ref 30), ("bisect_right", .ref 39), ("insort_left", .ref 48), ("bisect_left", .ref 57), ("_Accumulator", .ref 137), ("_netrclex", .ref 179), ("_law_lexer", .ref 190), ("_law_pieces", .ref 197), ("_law_price", .ref 204),
  ("_law_cheapest", .ref 209), ("_law_shortest", .ref 214), ("len", .builtin "len"), ("range", .type "range"), ("iter", .builtin "iter"), ("super", .type "super"), ("sum", .builtin "sum"), ("min", .builtin "min"), ("sorted", .builtin "sorted"), ("str", .type "str"), ("EMPTYSTRING", .str "" 252)],
  [30, 39, 48, 57, 190, 197, 204, 209, 214, 74, 81, 89, 97, 104, 111, 134, 155, 162, 169, 176, 137]⟩
theorem tb2_ok (w : World) : glOk (Kf w.params) tb2 = true := by rfl
noncomputable abbrev G2 (w : World) : Gl := ⟨P2, w, fun g => AllBare g⟩
end MineV
end
end

section
noncomputable section
namespace MineV
open PySem PySem.W PyProof.Rows PySem.Calls PySem.Spec
open Mine (Kf SeqAt PairsAt refs GenNew Aft accOf)
example : True := by
  k_with "V enter" => (
    (case ho => k_is)
    (case hcd => k_is)
    (case hb => first | exact fun s Xs => BindsTo.of_eq rfl | exact fun s Xs => binds_K Xs rfl (by k_is) rfl rfl rfl)
    (case hl => exact locs rfl)
    (case h1 => decide)
    (case h2 => exact rfl)
    (case h3 => exact rfl)
    (case h4 => exact rfl)
    (case h5 => exact rfl)
    (case h6 => exact rfl))
  trivial
structure It where
  p : Addr
  a : Str
  b : Str
  ta : Tok
  tb : Tok
noncomputable abbrev tupObj (a b : Str) (ta tb : Tok) : Obj := { cls := .type "tuple", data := .seq #[.str a ta, .str b tb] }
noncomputable def It.cell (i : It) : Addr × Obj := (i.p, tupObj i.a i.b i.ta i.tb)
noncomputable def It.pr (i : It) : Addr × Value × Value := (i.p, .str i.a i.ta, .str i.b i.tb)
noncomputable def accDic (w : World) (k t : Tok) : List DictEntry := [⟨PyData.keyHash w.params "_initial_size", .str "_initial_size" k, .int 0 t⟩]
structure Acc where
  x : Addr
  d : Addr
  its : List It
  n : Nat
  nd : Nat
  k0 : Tok
  t0 : Tok
noncomputable def Acc.obj (A : Acc) : Obj := accOf 137 A.d (A.its.map fun i => Value.ref i.p).toArray A.n
noncomputable def Acc.dic (w : World) (A : Acc) : Obj := dictOf (accDic w A.k0 A.t0) A.nd
noncomputable def Acc.cells (w : World) (A : Acc) : Led := (A.x, A.obj) :: (A.d, A.dic w) :: A.its.map It.cell
noncomputable def It.len (i : It) : Nat := i.a.length + i.b.length
noncomputable def lenOf : List It → Nat
  | [] => 0
  | i :: r => i.len + lenOf r
structure Acc.Ok (A : Acc) : Prop where
  few : A.its.length ≤ 100
  short : ∀ i ∈ A.its, i.a.length ≤ 100 ∧ i.b.length ≤ 100
theorem preSum_list (its : List It) : ∀ n, n ≤ its.length → preSum (fun j => ((its.map It.len).getD j 0 : Nat)) n = ((lenOf (its.take n) : Nat) : Int)
  | 0, _ => by cases its <;> rfl
  | n + 1, h => by
    have := preSum_list its n (by k_extra "o")
    unfold preSum
    rw [this]
    have e : ∀ (l : List It) n, n < l.length → lenOf (l.take (n + 1)) = lenOf (l.take n) + (l.map It.len).getD n 0 := by
      intro l
      induction l with
      | nil => intro n h; cases h
      | cons i r ih =>
        intro n h
        cases n with
        | zero => simp [lenOf]
        | succ n =>
          have := ih n (by simpa using h)
          simp only [List.take_succ_cons, lenOf, List.map_cons, List.getD_cons_succ]
          k_extra "o"
    rw [e its n (by k_extra "o"), Int.natCast_add]
section
variable {w : World} {b₀ : Heap} {loose : List Str} {mean : ExcName → Option Value} {mg mb : Str → Option Value}
theorem acc_inst {M : Model} {y : Gl} {c : Cx} {σ : St} {s : Shared} {A : Acc} (R : Rep y c σ s) (h : ∀ q ∈ A.cells w, q ∈ σ.led) : W.InstAt s.heap A.x A.obj 137 (some (A.dic w)) :=
  ⟨R.get (h _ (.head _)), rfl, rfl, R.get (h _ (.tail _ (.head _)))⟩
theorem acc_seq {y : Gl} {c : Cx} {σ : St} {s : Shared} {A : Acc} (R : Rep y c σ s) (h : ∀ q ∈ A.cells w, q ∈ σ.led) : SeqAt s.heap A.x (refs (A.its.map It.pr)).toArray ∧ PairsAt s.heap (A.its.map It.pr) := by
  refine ⟨⟨_, R.get (h _ (.head _)), A.n, ?_⟩, ⟨fun p hp => ?_⟩⟩
  · show Data.seq _ _ = Data.seq _ _
    unfold refs; rw [List.map_map]; rfl
  · obtain ⟨i, hi, rfl⟩ := List.mem_map.mp hp
    exact ⟨_, R.get (h _ (.tail _ (.tail _ (List.mem_map_of_mem hi)))), rfl, 0, rfl⟩
theorem bmain_at {p : Program} (T : Top p loose mean mg mb b₀) {h : Heap} (k : ∀ b o, b₀.get? b = some o → h.get? b = some o) {P : Addr} (hP : b₀.get? P = none) : mainGlobals ≠ P ∧ h.BuiltinsAt mg P := by
  have hgs := T.g
  obtain ⟨bm, ob, b1, b2, b3, b4, b5, b6⟩ := T.bmain
  refine ⟨fun q => ?_, bm, ob, b1, b2, fun q => ?_, fun q => ?_, k _ _ b3, b4, b5, b6⟩
  · obtain ⟨o, es, ep, e, hd, _⟩ := hgs
    rw [q, hP] at e; cases e
  · obtain ⟨o, es, ep, e, hd, _⟩ := hgs
    rw [q, e] at b3; cases b3; rw [hd] at b6; cases b6
  · rw [q, hP] at b3; cases b3
theorem len_fc (X : (Kf w.params).In b₀) (T : Top topProg loose mean mg mb b₀) (C : CodeHd b₀ 103 99) (h99 : b₀.get? 99 = none) (A : Acc) (hA : A.Ok) (tb : Array Value) (ht : TriplesOk tb.toList) :
    FC (G2 w) b₀ 4 60 (.ref 104) ⟨[.ref A.x], []⟩ ((99, tabObj tb) :: A.cells w) (fun k => ∀ t tb', TriplesOk tb'.toList → k (.int (lenOf A.its) t) ((99, tabObj tb') :: A.cells w)) := by
  refine' enterO (D := 3) (U := 57) (tb := tb2) (binds := [("self", .ref A.x)]) X T (tb2_ok w) ?ho ?hcd ?hb ?hl ?h ?h1 ?h2 ?h3 ?h4 ?h5 ?h6
  walk_at "V enter"
  intro k ⟨dp, un, gd, fr, env, g, s0, hid⟩ hk ok ⟨Lc, hc⟩
  have hc : env = _ := hc
  subst hc
  refine ⟨fun s R => ?_⟩
  refine wpAny_execs_cons ?_
  refine wpAny_Return_some ?_
  refine call_bi2 (id := "sum") ?ha ?hb ?hf ?hargs
  case ha => rfl
  case hb => rfl
  case hf => exact fun Q q => ok.look _ _ _ _ _ _ _ _ _ ok.glo ok.blt ok.kind (ok.kindOf _ |>.trans rfl) rfl rfl R.F q
  case hargs =>
    have keep : ∀ b o, b₀.get? b = some o → s.heap.get? b = some o := fun b o e => R.F.keep b o (ok.st b o e)
    have I := acc_inst (w := w) (A := A) (M := model P2 w) R fun q hq => .tail _ hq
    obtain ⟨sq, pa⟩ := acc_seq (w := w) (A := A) R fun q hq => .tail _ hq
    have bm := bmain_at T keep h99
    have ns := R.F.ns
    have hself : R.m "self" = some (.ref A.x) := R.cov _ _ rfl
    refine Mine.gen_pairs (w := w) (K := Kf w.params) (P := 99) (c := 103) (ps := A.its.map It.pr) (F := fun i v => ∃ t, v = .int ((A.its.map It.len).getD i 0 : Nat) t) rfl rfl ?clos ?cell ?z0 ?za ?zb ?zn ?zk ?zd ?zf ?zi (X.keeps keep) I ?k1 ?k2 sq pa (T.nolimit.keeps keep) ?zc (C.keeps keep) (R.get (.head _)) ht (T.g.keeps keep) ?zg bm.2 ?zx ?zp ?zs ?helt ?fin
    case clos => exact closure_of (cs := []) (fun _ h => nomatch h) rfl
    case cell => decide
    case z0 => decide +kernel
    case za => decide +kernel
    case zb => decide +kernel
    case zn => decide +kernel
    case zk => rfl
    case zd => have := ok.dep; show dp < _; have h : dp + 3 < recursionLimit := this; k_extra "o"
    case zf => intro x; rfl
    case zi => exact fun Q q => cname ns hself ok.kind (ok.kindOf _ |>.trans rfl) (by decide +kernel) q
    case k1 => k_is
    case k2 => k_is
    case zc => rfl
    case zg => exact bm.1
    case zx => exact (ND.cons.mp (rep_off R).1).1 _ (.head _)
    case zp =>
      intro p hp
      obtain ⟨i, hi, rfl⟩ := List.mem_map.mp hp
      exact (ND.cons.mp (rep_off R).1).1 _ (.tail _ (.tail _ (List.mem_map_of_mem hi)))
    case zs => decide
    case helt =>
      intro A' E' C2 code i p s₂ m₂ hA' hC2 hp hns ha hb hk
      obtain ⟨it, hit, rfl⟩ : ∃ it, A.its[i]? = some it ∧ p = it.pr := by
        rw [List.getElem?_map] at hp
        cases e : A.its[i]? with
        | none => rw [e] at hp; cases hp
        | some it => rw [e] at hp; cases hp; exact ⟨it, rfl, rfl⟩
      have sh := hA.short it (List.mem_of_getElem? hit)
      have e1 : (A.its.map It.len).getD i 0 = it.a.length + it.b.length := by
        rw [List.getD_eq_getElem?_getD, List.getElem?_map, hit]; rfl
      have F2 : ∀ s₃ : Shared, Keeps s₂ s₃ → Fr g C2 s₃.heap m₂ := fun s₃ hks => by
        obtain ⟨h', tk', rfl, kk⟩ := hks
        exact ⟨hns.at fun o e => kk _ _ e, fun b o e => kk _ _ (hk b o (fun z => by
          have := (R.N _ (.head _)).2.2
          rw [z] at e; rw [show g.get? 99 = _ from e] at this; cases this) (R.F.keep b o e)), Nat.le_trans R.F.above (Nat.le_trans (Nat.le_of_lt (let ⟨o, _, _, e, _⟩ := R.F.ns; Heap.lt_size e)) hC2)⟩
      have lk : ∀ (s₃ : Shared) (env : Env) (p : Pos) (Q : Value → Shared → Prop), Keeps s₂ s₃ → env.globals = mainGlobals → env.builtins = builtinsNs → env.scope.kind = .function → env.kindOf "len" = some .globalImplicit → Q (.builtin "len") s₃ → wpAny (model P2 w) A' (eval (.Name "len" p) env) Q E' s₃ := fun s₃ env p Q hks e1 e2 e3 e4 q =>
        wpAny_mono (ok.look env "len" (.builtin "len") p s₃ C2 m₂ A' Q e1 e2 e3 e4 rfl rfl (F2 s₃ hks) q) (fun _ _ x => x) fun _ _ x => x.elim
      refine wpAny_BinOp (call_bi1 (id := "len") rfl (fun Q q => lk _ _ _ _ ⟨_, _, rfl, fun _ _ e => e⟩ rfl rfl rfl rfl q) (cname hns ha rfl rfl (by decide +kernel) (P.len_str (by have := sh.1; show ¬ ((it.a.length : Nat) : Int) ≥ _; k_extra "o") ?_)))
      refine call_bi1 (id := "len") rfl (fun Q q => lk _ _ _ _ ⟨_, _, rfl, fun _ _ e => e⟩ rfl rfl rfl rfl q) (cname hns hb rfl rfl (by decide +kernel) (P.len_str (by have := sh.2; show ¬ ((it.b.length : Nat) : Int) ≥ _; k_extra "o") ?_))
      exact add_int ⟨⟨_, congrArg (fun z => Value.int z _) (by rw [e1, Int.natCast_add])⟩, _, _, rfl, fun _ _ e => e⟩
    case fin =>
      intro a s5 GN
      have ns5 : s5.heap.Ns Lc R.m := ns.at fun o e => GN.keep _ _ ((R.N _ (.head _)).2.1.symm) e
      refine Attribute_Name_ (cname ns5 hself ok.kind (ok.kindOf _ |>.trans rfl) (by decide +kernel) ?_)
      have kp : ∀ b o, b ≠ 99 → s.heap.get? b = some o → s5.heap.get? b = some o := GN.keep
      have I5 : W.InstAt s5.heap A.x A.obj 137 (some (A.dic w)) := ⟨kp _ _ ((ND.cons.mp (rep_off R).1).1 _ (.head _)) I.at_, rfl, rfl, kp _ _ ((ND.cons.mp (rep_off R).1).1 _ (.tail _ (.head _))) (R.get (.tail _ (.tail _ (.head _))))⟩
      have X5 : (Kf w.params).In s5.heap := X.keeps fun b o e => kp b o (fun z => by rw [z, h99] at e; cases e) (keep b o e)
      refine Mine.get_acc X5 I5 (by k_is) (by k_is) (by k_is) (v := .int 0 A.t0) ?hfo rfl ?_
      case hfo => first | rfl | k_is | fail "no"
      have GN' := GN.toks (tk := s5.toks + 1) (Nat.le_succ _)
      refine Mine.gen_sum (t := A.t0) (val := fun j => ((A.its.map It.len).getD j 0 : Nat)) (Heap.lt_size (R.get (.head _))) GN' (fun j v ⟨t, e⟩ => .inl ⟨t, e⟩) fun s' t' AF => ?_
      have e2 : preSum (fun j => ((A.its.map It.len).getD j 0 : Nat)) (A.its.map It.pr).length = ((lenOf A.its : Nat) : Int) := by
        rw [List.length_map, preSum_list _ _ (Nat.le_refl _), List.take_length]
      rw [e2]
      obtain ⟨tb', htab, htr⟩ := AF.tab
      have R2 := R.move (s' := s') (tl := [(99, tabObj tb)]) (rest := A.cells w) (tl' := [(99, tabObj tb')]) (.refl _) AF.drawn AF.os (AF.bare R.G) (ND.cons.mpr ⟨fun _ h => (nomatch h), ND.nil⟩) (fun b o hb e => AF.keep b o (fun z => hb (by rw [z]; exact .head _)) e) fun p hp => by
        rw [List.mem_singleton.mp hp]
        exact ⟨htab, .inl (.head _)⟩
      exact ⟨_, R2, .mk _ [] (by rw [List.append_nil]; exact .refl _) (hk _ _ htr)⟩
end
end MineV
end
end

section
noncomputable section
namespace MineV
open PySem PySem.W PyProof.Rows PySem.Calls PySem.Spec
open Mine (Kf SeqAt PairsAt refs GenNew Aft accOf)
example : True := by
  k_with "V enter" => (
    (case ho => k_is)
    (case hcd => k_is)
    (case hb => first | exact fun s Xs => BindsTo.of_eq rfl | exact fun s Xs => binds_K Xs rfl (by k_is) rfl rfl rfl)
    (case hl => exact locs rfl)
    (case h1 => decide)
    (case h2 => exact rfl)
    (case h3 => exact rfl)
    (case h4 => exact rfl)
    (case h5 => exact rfl)
    (case h6 => exact rfl))
  trivial
noncomputable def It.str (i : It) : Str := i.a ++ i.b
noncomputable def strOf : List It → Str
  | [] => ""
  | i :: r => i.str ++ strOf r
theorem app_nil (a : Str) : a ++ ("" : Str) = a := by
  obtain ⟨a⟩ := a
  exact congrArg Str.mk (Array.append_empty)
theorem nil_app (a : Str) : ("" : Str) ++ a = a := by
  obtain ⟨a⟩ := a
  exact congrArg Str.mk (Array.empty_append)
theorem app_assoc (a b c : Str) : a ++ b ++ c = a ++ (b ++ c) := congrArg Str.mk (Array.append_assoc)
theorem join2 (a b : Str) : Txt.join "" [a, b] = a ++ b := by
  unfold Txt.join
  rw [StrLaws.glued_eq_join]
  show a ++ ("" : Str) ++ b = _
  rw [app_nil]
theorem join0 : ∀ ls : List Str, Str.join "" ls = ls.foldr (fun (a b : Str) => a ++ b) ("" : Str)
  | [] => rfl
  | [x] => (app_nil x).symm
  | x :: y :: r => by
    show x ++ ("" : Str) ++ Str.join "" (y :: r) = _
    rw [join0 (y :: r), app_nil]; rfl
theorem join_its (its : List It) : Txt.join "" (its.map It.str) = strOf its := by
  unfold Txt.join
  rw [StrLaws.glued_eq_join, join0]
  induction its with
  | nil => rfl
  | cons i r ih => rw [List.map_cons, List.foldr_cons, ih]; rfl
theorem It.str_len (i : It) : i.str.length = i.len := Array.size_append ..
theorem strOf_len : ∀ its : List It, (strOf its).length = lenOf its
  | [] => rfl
  | i :: r => by
    show (i.str ++ strOf r).cps.size = _
    have := strOf_len r
    have e := i.str_len
    unfold Str.length at this e
    show (i.str.cps ++ (strOf r).cps).size = _
    rw [Array.size_append, this, e]; rfl
theorem lens_its : ∀ its : List It, (∀ i ∈ its, i.a.length ≤ 100 ∧ i.b.length ≤ 100) → ((its.map It.str).map (·.length)).sum ≤ 200 * its.length
  | [], _ => Nat.le_refl _
  | i :: r, h => by
    have := lens_its r fun x hx => h x (.tail _ hx)
    have h1 := h i (.head _)
    have e := i.str_len
    simp only [List.map_cons, List.sum_cons, List.length_cons]
    unfold It.len at e
    k_extra "o"
theorem range_getD (l : List Str) : (List.range l.length).map (fun j => l.getD j "") = l := by
  apply List.ext_getElem?
  intro i
  rw [List.getElem?_map]
  by_cases h : i < l.length
  · rw [List.getElem?_range h, List.getElem?_eq_getElem h, Option.map_some, List.getD_eq_getElem?_getD, List.getElem?_eq_getElem h]; rfl
  · rw [List.getElem?_eq_none (by simpa using h), List.getElem?_eq_none (by k_extra "o")]; rfl
section
variable {w : World} {b₀ : Heap} {loose : List Str} {mean : ExcName → Option Value} {mg mb : Str → Option Value}
theorem str_fc (X : (Kf w.params).In b₀) (T : Top topProg loose mean mg mb b₀) (C : CodeHd b₀ 110 106) (h106 : b₀.get? 106 = none) (A : Acc) (hA : A.Ok) (tb : Array Value) (ht : TriplesOk tb.toList) :
    FC (G2 w) b₀ 4 60 (.ref 111) ⟨[.ref A.x], []⟩ ((106, tabObj tb) :: A.cells w) (fun k => ∀ t tb', TriplesOk tb'.toList → k (.str (strOf A.its) t) ((106, tabObj tb') :: A.cells w)) := by
  refine' enterO (D := 3) (U := 57) (tb := tb2) (binds := [("self", .ref A.x)]) X T (tb2_ok w) ?ho ?hcd ?hb ?hl ?h ?h1 ?h2 ?h3 ?h4 ?h5 ?h6
  walk_at "V enter"
  intro k ⟨dp, un, gd, fr, env, g, s0, hid⟩ hk ok ⟨Lc, hc⟩
  have hc : env = _ := hc
  subst hc
  refine ⟨fun s R => ?_⟩
  refine wpAny_execs_cons ?_
  refine wpAny_Return_some ?_
  refine call_join (sep := "") (t := 252) ?ha ?hp ?hf ?hargs
  case ha => rfl
  case hp => rfl
  case hf => exact fun Q q => ok.look _ _ _ _ _ _ _ _ _ ok.glo ok.blt ok.kind (ok.kindOf _ |>.trans rfl) rfl rfl R.F q
  case hargs =>
    have keep : ∀ b o, b₀.get? b = some o → s.heap.get? b = some o := fun b o e => R.F.keep b o (ok.st b o e)
    have I := acc_inst (w := w) (A := A) (M := model P2 w) R fun q hq => .tail _ hq
    obtain ⟨sq, pa⟩ := acc_seq (w := w) (A := A) R fun q hq => .tail _ hq
    have bm := bmain_at T keep h106
    have ns := R.F.ns
    have hself : R.m "self" = some (.ref A.x) := R.cov _ _ rfl
    refine Mine.gen_pairs (w := w) (K := Kf w.params) (P := 106) (c := 110) (ps := A.its.map It.pr) (F := fun i v => ∃ t, v = .str ((A.its.map It.str).getD i "") t) rfl rfl ?clos ?cell ?z0 ?za ?zb ?zn ?zk ?zd ?zf ?zi (X.keeps keep) I ?k1 ?k2 sq pa (T.nolimit.keeps keep) ?zc (C.keeps keep) (R.get (.head _)) ht (T.g.keeps keep) ?zg bm.2 ?zx ?zp ?zs ?helt ?fin
    case clos => exact closure_of (cs := []) (fun _ h => nomatch h) rfl
    case cell => decide
    case z0 => decide +kernel
    case za => decide +kernel
    case zb => decide +kernel
    case zn => decide +kernel
    case zk => rfl
    case zd => have := ok.dep; show dp < _; have h : dp + 3 < recursionLimit := this; k_extra "o"
    case zf => intro x; rfl
    case zi => exact fun Q q => cname ns hself ok.kind (ok.kindOf _ |>.trans rfl) (by decide +kernel) q
    case k1 => k_is
    case k2 => k_is
    case zc => rfl
    case zg => exact bm.1
    case zx => exact (ND.cons.mp (rep_off R).1).1 _ (.head _)
    case zp =>
      intro p hp
      obtain ⟨i, hi, rfl⟩ := List.mem_map.mp hp
      exact (ND.cons.mp (rep_off R).1).1 _ (.tail _ (.tail _ (List.mem_map_of_mem hi)))
    case zs => decide
    case helt =>
      intro A' E' C2 code i p s₂ m₂ hA' hC2 hp hns ha hb hk
      obtain ⟨it, hit, rfl⟩ : ∃ it, A.its[i]? = some it ∧ p = it.pr := by
        rw [List.getElem?_map] at hp
        cases e : A.its[i]? with
        | none => rw [e] at hp; cases hp
        | some it => rw [e] at hp; cases hp; exact ⟨it, rfl, rfl⟩
      have sh := hA.short it (List.mem_of_getElem? hit)
      have e1 : (A.its.map It.str).getD i "" = it.str := by
        rw [List.getD_eq_getElem?_getD, List.getElem?_map, hit]; rfl
      have F2 : Fr g C2 s₂.heap m₂ := ⟨hns, fun b o e => hk b o (fun z => by
          have := (R.N _ (.head _)).2.2
          rw [z] at e; rw [show g.get? 106 = _ from e] at this; cases this) (R.F.keep b o e), Nat.le_trans R.F.above (Nat.le_trans (Nat.le_of_lt (let ⟨o, _, _, e, _⟩ := R.F.ns; Heap.lt_size e)) hC2)⟩
      have lk : ∀ (env : Env) (p : Pos) (Q : Value → Shared → Prop), env.globals = mainGlobals → env.builtins = builtinsNs → env.scope.kind = .function → env.kindOf "EMPTYSTRING" = some .globalImplicit → Q (.str "" 252) s₂ → wpAny (model P2 w) A' (eval (.Name "EMPTYSTRING" p) env) Q E' s₂ := fun env p Q e1 e2 e3 e4 q =>
        wpAny_mono (ok.look env "EMPTYSTRING" (.str "" 252) p s₂ C2 m₂ A' Q e1 e2 e3 e4 rfl rfl F2 q) (fun _ _ x => x) fun _ _ x => x.elim
      refine call_join (sep := "") (t := 252) rfl rfl (fun Q q => lk _ _ _ rfl rfl rfl rfl q) ?_
      rw [arm_eval_Tuple]
      refine wpAny_bind (wpAny_standAt (wpAny_bind (plain_args rfl rfl (cname hns ha rfl rfl (by decide +kernel) (cname hns hb rfl rfl (by decide +kernel) ?_)))))
      refine wpAny_newTuple ?_
      refine join_tuple (ys := [it.a, it.b]) ⟨_, Heap.get?_push_size _ rfl, rfl, 0, rfl⟩ (.cons _ _ (.cons _ _ .nil)) ?_ fun t' k' => ?_
      · have := sh.1; have := sh.2
        show ([it.a.length, it.b.length]).sum + 2 * 0 ≤ _
        simp only [List.sum_cons, List.sum_nil]; k_extra "o"
      · exact ⟨⟨t', congrArg (fun z => Value.str z t') ((join2 _ _).trans e1.symm)⟩, _, _, rfl, fun _ _ e => Heap.get?_push_of_some _ e⟩
    case fin =>
      intro a s5 GN
      refine Mine.gen_join (t := 252) (sep := "") (tx := fun j => (A.its.map It.str).getD j "") (Heap.lt_size (R.get (.head _))) GN (fun j v h => h) ?hok ?hsz fun s' t' AF => ?_
      case hsz =>
        have := hA.few
        rw [List.length_map]
        exact Nat.le_trans this (by decide)
      case hok =>
        rw [List.length_map, ← List.length_map (f := It.str), range_getD]
        refine joinOk_of ?_
        have h1 := lens_its A.its hA.short
        have h2 := hA.few
        show _ + (A.its.map It.str).length * 0 ≤ _
        k_extra "o"
      have e2 : Txt.join "" ((List.range (A.its.map It.pr).length).map fun j => (A.its.map It.str).getD j "") = strOf A.its := by
        rw [List.length_map, ← List.length_map (f := It.str), range_getD, join_its]
      rw [e2]
      obtain ⟨tb', htab, htr⟩ := AF.tab
      have R2 := R.move (s' := s') (tl := [(106, tabObj tb)]) (rest := A.cells w) (tl' := [(106, tabObj tb')]) (.refl _) AF.drawn AF.os (AF.bare R.G) (ND.cons.mpr ⟨fun _ h => (nomatch h), ND.nil⟩) (fun b o hb e => AF.keep b o (fun z => hb (by rw [z]; exact .head _)) e) fun p hp => by
        rw [List.mem_singleton.mp hp]
        exact ⟨htab, .inl (.head _)⟩
      exact ⟨_, R2, .mk _ [] (by rw [List.append_nil]; exact .refl _) (hk _ _ htr)⟩
end
end MineV
end
end

section
noncomputable section
namespace MineV
open PySem PySem.W PyProof.Rows PySem.Calls PySem.Spec
open Mine (Kf accOf)
section
variable {y : Gl} {b₀ : Heap} {D U D' U' : Nat} {f : Value} {args : Args} {tl : Led} {S S' : (Value → Led → Prop) → Prop}
theorem FC.of_fs {P : Program} {w : World} {G : Array GenState → Prop} {Ret : Value → Led → Prop} (h : Mine.FS P w b₀ D U f args tl Ret) (hnd : ND tl → ∀ v tl', Ret v tl' → ND tl') : FC ⟨P, w, G⟩ b₀ D U f args tl (fun k => ∀ v tl', Ret v tl' → k v tl') :=
  fun dp un gd fr s _ R M nd G hd hu hS hR => h dp un gd fr s R ⟨M.frames, M.off, M.stays, M.cells⟩ hd hu fun v tl' h' tk r kept fresh => hR v tl' _ (hS v tl' r) (hnd nd v tl' r) rfl rfl G kept fresh
theorem FC.mono (h : FC y b₀ D U f args tl S) (hS : ∀ k, S' k → S k) : FC y b₀ D U f args tl S' := fun dp un gd fr s k R M nd G hd hu hk hR => h dp un gd fr s k R M nd G hd hu (hS k hk) hR
theorem FC.le (h : FC y b₀ D U f args tl S) (h1 : D ≤ D') (h2 : U ≤ U') : FC y b₀ D' U' f args tl S := fun dp un gd fr s k R M nd G hd hu hk hR => h dp un gd fr s k R M nd G (by k_extra "o") (by k_extra "o") hk hR
theorem FC.frame (rest : Led) (h : FC y b₀ D U f args tl S) : FC y b₀ D U f args (tl ++ rest) (fun k => S fun v tl' => k v (tl' ++ rest)) := by
  intro dp un gd fr s k R M nd G hd hu hk hR
  have n := ND.app.mp nd
  refine h dp un gd fr s _ R ⟨M.frames, fun env he p hp => M.off env he p (List.mem_append_left _ hp), M.stays, fun p hp => M.cells p (List.mem_append_left _ hp)⟩ n.1 G hd hu hk fun v tl' s' hk' nd' d o G' kept fresh => ?_
  have notin : ∀ q ∈ rest, q.1 ∉ tl.map (·.1) := fun q hq hm => by
    obtain ⟨p, hp, e⟩ := List.mem_map.mp hm
    exact n.2.2 p hp q hq e
  refine hR v _ s' hk' (ND.app.mpr ⟨nd', n.2.1, fun p hp q hq e => ?_⟩) d o G' (fun b ob hb e => kept b ob (fun z => hb (by rw [List.map_append]; exact List.mem_append_left _ z)) e) fun p hp => ?_
  · rcases (fresh p hp).2.2 with z | z
    · exact notin q hq (e ▸ z)
    · rw [e, (M.cells q (List.mem_append_right _ hq)).1] at z; cases z
  · rw [List.map_append]
    rcases List.mem_append.mp hp with hp | hp
    · have z := fresh p hp
      exact ⟨z.1, z.2.1, z.2.2.imp (fun m => List.mem_append_left _ m) id⟩
    · have z := M.cells p (List.mem_append_right _ hp)
      exact ⟨kept _ _ (notin p hp) z.1, z.2, .inl (List.mem_append_right _ (List.mem_map_of_mem hp))⟩
theorem FC.perm {tl₂ : Led} (hp : tl₂.Perm tl) (h : FC y b₀ D U f args tl S) : FC y b₀ D U f args tl₂ S := by
  intro dp un gd fr s k R M nd G hd hu hk hR
  have hm : ∀ p, p ∈ tl ↔ p ∈ tl₂ := fun p => hp.mem_iff.symm
  have hm2 : ∀ b, b ∈ tl.map (·.1) ↔ b ∈ tl₂.map (·.1) := fun b => (hp.map _).mem_iff.symm
  exact h dp un gd fr s k R ⟨M.frames, fun env he p hq => M.off env he p ((hm p).mp hq), M.stays, fun p hq => M.cells p ((hm p).mp hq)⟩ (ND.perm hp nd) G hd hu hk fun v tl' s' hk' nd' d o G' kept fresh =>
    hR v tl' s' hk' nd' d o G' (fun b ob hb e => kept b ob (fun z => hb ((hm2 b).mp z)) e) fun p hq => ⟨(fresh p hq).1, (fresh p hq).2.1, (fresh p hq).2.2.imp (hm2 _).mp id⟩
theorem FC.permR (h : FC y b₀ D U f args tl S) : FC y b₀ D U f args tl (fun k => S fun v tl' => ∃ tl₂, tl'.Perm tl₂ ∧ k v tl₂) := by
  intro dp un gd fr s k R M nd G hd hu hk hR
  refine h dp un gd fr s _ R M nd G hd hu hk fun v tl' s' ⟨tl₂, hp, hk'⟩ nd' d o G' kept fresh => ?_
  exact hR v tl₂ s' hk' (ND.perm hp nd') d o G' kept fun p hq => fresh p (hp.mem_iff.mpr hq)
end
structure AT where
  t1 : Array Value
  t2 : Array Value
structure AT.Ok (t : AT) : Prop where
  k1 : TriplesOk t.t1.toList
  k2 : TriplesOk t.t2.toList
noncomputable def AC (w : World) (as : List Acc) : Led := as.flatMap (Acc.cells w)
noncomputable def AL (w : World) (t : AT) (as : List Acc) : Led := (99, tabObj t.t1) :: (106, tabObj t.t2) :: AC w as
theorem AC.app (w : World) (a b : List Acc) : AC w (a ++ b) = AC w a ++ AC w b := List.flatMap_append
theorem AC.cons (w : World) (A : Acc) (b : List Acc) : AC w (A :: b) = A.cells w ++ AC w b := rfl
theorem AC.perm {w : World} {a b : List Acc} (h : a.Perm b) : (AC w a).Perm (AC w b) := h.flatMap_right _
theorem AL.perm {w : World} {t : AT} {a b : List Acc} (h : a.Perm b) : (AL w t a).Perm (AL w t b) := .cons _ (.cons _ (AC.perm h))
section
variable {w : World} {b₀ : Heap} {loose : List Str} {mean : ExcName → Option Value} {mg mb : Str → Option Value}
structure Hd (w : World) (b₀ : Heap) (loose : List Str) (mean : ExcName → Option Value) (mg mb : Str → Option Value) : Prop where
  X : (Kf w.params).In b₀
  T : Top topProg loose mean mg mb b₀
  C1 : CodeHd b₀ 103 99
  n1 : b₀.get? 99 = none
  C2 : CodeHd b₀ 110 106
  n2 : b₀.get? 106 = none
  C3 : CodeHd b₀ 189 185
  n3 : b₀.get? 185 = none
variable (H : Hd w b₀ loose mean mg mb)
include H
theorem lenA_fc (A : Acc) (hA : A.Ok) (t : AT) (ht : t.Ok) (r : List Acc) : FC (G2 w) b₀ 4 60 (.ref 104) ⟨[.ref A.x], []⟩ (AL w t (A :: r)) (fun k => ∀ u t', AT.Ok t' → k (.int (lenOf A.its) u) (AL w t' (A :: r))) := by
  refine (FC.perm ?_ (FC.permR ((len_fc H.X H.T H.C1 H.n1 A hA t.t1 ht.k1).frame ((106, tabObj t.t2) :: AC w r)))).mono fun k hk u t1' h1 => ⟨AL w ⟨t1', t.t2⟩ (A :: r), ?_, hk u ⟨t1', t.t2⟩ ⟨h1, ht.k2⟩⟩
  · exact .cons _ List.perm_middle.symm
  · exact .cons _ List.perm_middle
theorem strA_fc (A : Acc) (hA : A.Ok) (t : AT) (ht : t.Ok) (r : List Acc) : FC (G2 w) b₀ 4 60 (.ref 111) ⟨[.ref A.x], []⟩ (AL w t (A :: r)) (fun k => ∀ u t', AT.Ok t' → k (.str (strOf A.its) u) (AL w t' (A :: r))) := by
  refine (FC.perm ?_ (FC.permR ((str_fc H.X H.T H.C2 H.n2 A hA t.t2 ht.k2).frame ((99, tabObj t.t1) :: AC w r)))).mono fun k hk u t1' h1 => ⟨AL w ⟨t.t1, t1'⟩ (A :: r), ?_, hk u ⟨t.t1, t1'⟩ ⟨ht.k1, h1⟩⟩
  · refine (List.Perm.swap ..).trans (.cons _ ?_)
    exact List.perm_middle.symm
  · exact (List.Perm.cons _ List.perm_middle).trans (.swap ..)
noncomputable def Acc.push (A : Acc) (i : It) : Acc := { A with its := A.its ++ [i], n := A.n + 1 }
theorem push_fc (A : Acc) (hl : A.its.length ≤ 100) (a b : Str) (ta tb : Tok) (t : AT) (r : List Acc) : FC (G2 w) b₀ 6 60 (.ref 81) ⟨[.ref A.x, .str a ta, .str b tb], []⟩ (AL w t (A :: r)) (fun k => ∀ v p, k v (AL w t (A.push ⟨p, a, b, ta, tb⟩ :: r))) := by
  intro dp un gd fr s k R M nd
  have hne : A.x ≠ A.d := by
    have := (ND.cons.mp (ND.cons.mp (ND.cons.mp nd).2).2).1 (A.d, A.dic w) (.head _)
    exact this.symm
  revert dp un gd fr s k R M nd
  have F := FC.of_fs (G := (G2 w).G) (Mine.apush_fs (w := w) H.X H.T A.x A.d A.k0 A.t0 A.nd A.n (A.its.map fun i => Value.ref i.p) (by rw [List.length_map]; k_extra "o") hne a b ta tb) (by
    rintro nd v tl' ⟨p, h1, h2, rfl⟩
    refine ND.cons.mpr ⟨fun q hq => ?_, ?_⟩
    · rcases List.mem_cons.mp hq with rfl | hq
      · exact h1
      · rw [List.mem_singleton.mp hq]; exact h2
    · exact ND.cons.mpr ⟨(ND.cons.mp nd).1, (ND.cons.mp nd).2⟩)
  refine (FC.perm ?_ (FC.permR (F.frame ((99, tabObj t.t1) :: (106, tabObj t.t2) :: (A.its.map It.cell ++ AC w r))))).mono fun k hk v tl' hr => ?_
  · exact (Pk.of (is := [2, 2]) rfl).perm
  · obtain ⟨p, h1, h2, rfl⟩ := hr
    refine ⟨_, ?_, hk v p⟩
    have e1 : (A.push ⟨p, a, b, ta, tb⟩).obj = Mine.accObj A.d ((A.its.map fun i => Value.ref i.p) ++ [.ref p]) (A.n + 1) := by
      unfold Acc.obj Acc.push
      rw [List.map_append]; rfl
    have e2 : (A.push ⟨p, a, b, ta, tb⟩).cells w = (A.x, (A.push ⟨p, a, b, ta, tb⟩).obj) :: (A.d, A.dic w) :: (A.its.map It.cell ++ [(p, Mine.tupObj a b ta tb)]) := by
      unfold Acc.cells Acc.push
      rw [List.map_append]; rfl
    show List.Perm _ (_ :: _ :: ((A.push ⟨p, a, b, ta, tb⟩).cells w ++ AC w r))
    rw [e2, e1]
    refine (Pk.of (is := [3, 3, 1, 1]) rfl).perm.trans ?_
    refine .cons _ (.cons _ (.cons _ (.cons _ ?_)))
    show (_ :: (A.its.map It.cell ++ AC w r)).Perm ((A.its.map It.cell ++ [_]) ++ AC w r)
    rw [List.append_assoc]
    exact List.perm_middle.symm
end
end MineV
end
end

section
noncomputable section
namespace MineV
open PySem PySem.W PyProof.Rows PySem.Calls PySem.Spec
open Mine (Kf accOf)
example : True := by
  k_with "V enter" => (
    (case ho => k_is)
    (case hcd => k_is)
    (case hb => first | exact fun s Xs => BindsTo.of_eq rfl | exact fun s Xs => binds_K Xs rfl (by k_is) rfl rfl rfl)
    (case hl => exact locs rfl)
    (case h1 => decide)
    (case h2 => exact rfl)
    (case h3 => exact rfl)
    (case h4 => exact rfl)
    (case h5 => exact rfl)
    (case h6 => exact rfl))
  trivial
noncomputable def cnt (p : Addr × Obj) (l : Led) : Nat := (l.filter fun q => @decide (q = p) (Classical.propDecidable _)).length
noncomputable def one (p q : Addr × Obj) : Nat := cnt p [q]
theorem cnt_nil (p : Addr × Obj) : cnt p [] = 0 := rfl
theorem cnt_app (p : Addr × Obj) (a b : Led) : cnt p (a ++ b) = cnt p a + cnt p b := by unfold cnt; rw [List.filter_append, List.length_append]
theorem cnt_cons (p q : Addr × Obj) (l : Led) : cnt p (q :: l) = one p q + cnt p l := cnt_app p [q] l
theorem perm_cnt {a b : Led} (h : ∀ p, cnt p a = cnt p b) : a.Perm b := by
  classical
  refine List.perm_iff_count.mpr fun p => ?_
  have e : ∀ l : Led, cnt p l = List.count p l := fun l => by
    unfold cnt
    rw [List.count_eq_length_filter]
    congr 1
    apply List.filter_congr
    intro q _
    by_cases z : q = p
    · simp [z]
    · simp [z]
  rw [← e, ← e, h]
example : True := by
  k_with "V perm" => ((refine perm_cnt fun p => ?_); (try simp only [cnt_nil, cnt_app, cnt_cons, Nat.add_zero, Nat.zero_add]); first | done | ac_rfl | k_extra "o")
  trivial
noncomputable def sliceObj (vl vu : Value) : Obj := { cls := .type "slice", data := .fields #[vl, vu, .none] }
section
variable {y : Gl} {tb : Tab} {nm : List (Str × NameKind)} {b₀ : Heap} {D U : Nat} {c : Cx} {σ : St} {fs : List (Str × Value)} {led : Led} {cs : List (Str × Addr × Option Value)}
noncomputable def WPpart (y : Gl) (tb : Tab) (nm : List (Str × NameKind)) (c : Cx) : Option Expr → St → (Value → St → Prop) → Prop
  | none, σ, K => K .none σ
  | some e, σ, K => WPe y tb nm c 20 e σ K
theorem part_ok (ok : CxOk y tb nm b₀ D U c) : ∀ {e : Option Expr} {σ : St} {K : Value → St → Prop}, WPpart y tb nm c e σ K → Op y c (evalPart e c.env) σ K
  | none, σ, K, h => Op.pure h
  | some e, σ, K, h => e_ok ok 20 e σ K h
theorem op_slice {lo hi : Option Expr} {p : Pos} {K : Value → St → Prop} (ok : CxOk y tb nm b₀ D U c)
    (h : WPpart y tb nm c lo σ fun vl σ1 => WPpart y tb nm c hi σ1 fun vu σ2 => ∀ d, K (.ref d) ⟨σ2.fs, (d, sliceObj vl vu) :: σ2.led, σ2.cs⟩) : Op y c (eval (.Slice lo hi none p) c.env) σ K :=
  ⟨fun s R => wpAny_Slice (wpAny_mono ((part_ok ok h).run s R) (fun vl s1 ⟨σ1, R1, h1⟩ => wpAny_mono ((part_ok ok h1).run s1 R1) (fun vu s2 ⟨σ2, R2, h2⟩ => by
    rw [evalPart_none]
    exact wpAny_pure ⟨_, R2.fresh (sliceObj vl vu) rfl, h2 _⟩) fun _ _ x => x) fun _ _ x => x)⟩
theorem tail_slice {M : Model} {A : Around} {E : Value → Shared → Prop} {s : Shared} {value : Expr} {lo hi : Option Expr} {p : Pos} {o i : Value} {r : Option Value} {Q : Value → Shared → Prop} (hs : Looks M s.heap (specialOf o "__getitem__") r) (hr : ∀ a, r ≠ some (.ref a))
    (hg : ∀ r, letTemporaryGo value o r = pure ()) (h : wpAny M A (getItem o i) Q E s) : wpAny M A (subscriptTail value (.Slice lo hi none p) o i) Q E s := by
  unfold subscriptTail
  refine wpAny_bind ?_
  unfold getitemInPython
  refine wpAny_bind (hs.here ?_)
  have fin : ∀ b, wpAny M A (subscripted (.Slice lo hi none p) b o i) (fun r s₃ => wpAny M A (letTemporaryGo value o r >>= fun _ => pure r) Q E s₃) E s := fun b => by
    rw [show subscripted (.Slice lo hi none p) b o i = operate [i, o] (getItem o i) from by cases b <;> rfl]
    exact wpAny_operating (wpAny_mono h (fun r s₃ h₃ => wpAny_bind (wpAny_of_eq (hg r) (wpAny_pure h₃))) fun _ _ x => x)
  cases r with
  | none => exact wpAny_pure (wpAny_bind (fin _))
  | some v =>
    cases v with
    | ref a => exact absurd rfl (hr a)
    | _ => exact wpAny_pure (wpAny_bind (fin _))
theorem Rep.slice {s : Shared} (R : Rep y c σ s) {d : Addr} {vl vu : Value} (h : (d, sliceObj vl vu) ∈ σ.led) : s.heap.IsSliceOf d vl vu .none := ⟨_, R.get h, rfl, rfl⟩
theorem op_sliceList {value : Expr} {lo hi : Option Expr} {p : Pos} {l d : Addr} {vs : List Value} {n : Nat} {vl vu : Value} {a b : Option Int} {K : Value → St → Prop} (hm : (l, listOf vs.toArray n) ∈ led) (hd : (d, sliceObj vl vu) ∈ led) (pl : IsPart vl a) (pu : IsPart vu b) (hz : vs.length ≤ 1000)
    (hg : ∀ r, letTemporaryGo value (.ref l) r = pure ()) (h : ∀ d2, K (.ref d2) ⟨fs, (d2, listOf (kms_pick vs a b).toArray 0) :: led, cs⟩) : Op y c (subscriptTail value (.Slice lo hi none p) (.ref l) (.ref d)) ⟨fs, led, cs⟩ K := by
  refine ⟨fun s R => ?_⟩
  have L := R.isList hm
  have T : Looks (model y.P y.w) s.heap (typeOf (.ref l)) (.type "list") := (Looks.ld (R.get hm)).andThen .now
  refine tail_slice (r := some (.builtin "list.__getitem__")) (T.andThen (Looks.of_pure list_getitem_lookup)) (fun a e => nomatch e) hg ?_
  refine wpAny_getItem_list_slice L (R.slice hd) pl pu .none (by simp) ?_ (by rw [List.size_toArray]; exact Nat.le_trans hz (by decide))
  rw [kms_pick_eq]
  exact ⟨_, R.fresh (listOf (kms_pick vs a b).toArray 0) rfl, h _⟩
end
noncomputable def Acc.cut (A : Acc) : Acc := { A with its := [], n := if A.its.length = 0 then A.n else A.n + 1 }
noncomputable def Acc.refs (A : Acc) : List Value := A.its.map fun i => Value.ref i.p
theorem cut_seq (A : Acc) (f : Array Value → Array Value) (h : f A.refs.toArray = #[]) : Obj.mapSeq f A.obj = A.cut.obj := by
  unfold Acc.obj Acc.cut accOf Obj.mapSeq
  unfold Acc.refs at h
  simp only [h, List.map_nil, List.size_toArray, List.length_map, List.length_nil]
  by_cases e : A.its.length = 0
  · rw [if_pos e, e]; rfl
  · rw [if_neg e, if_neg (by simpa using fun z : 0 = A.its.length => e z.symm)]
section
variable {tb : Tab} {nm : List (Str × NameKind)} {b₀ : Heap} {D U : Nat} {c : Cx} {σ : St} {fs : List (Str × Value)} {led : Led} {cs : List (Str × Addr × Option Value)} {w : World}
theorem acc_in (X : (Kf w.params).In b₀) {s : Shared} (ok : CxOk (G2 w) tb nm b₀ D U c) (R : Rep (G2 w) c σ s) : (Kf w.params).In s.heap := X.keeps fun b o e => R.F.keep b o (ok.st b o e)
theorem acc_at {s : Shared} {A : Acc} (R : Rep (G2 w) c σ s) (h1 : (A.x, A.obj) ∈ σ.led) (h2 : (A.d, A.dic w) ∈ σ.led) : W.InstAt s.heap A.x A.obj 137 (some (A.dic w)) := ⟨R.get h1, rfl, rfl, R.get h2⟩
theorem op_sliceAcc {value : Expr} {lo hi : Option Expr} {p : Pos} {A : Acc} {d : Addr} {vl vu : Value} {a b : Option Int} {K : Value → St → Prop} (X : (Kf w.params).In b₀) (ok : CxOk (G2 w) tb nm b₀ D U c)
    (h1 : (A.x, A.obj) ∈ led) (h2 : (A.d, A.dic w) ∈ led) (hd : (d, sliceObj vl vu) ∈ led) (pl : IsPart vl a) (pu : IsPart vu b) (hz : A.its.length ≤ 100)
    (hg : ∀ r, letTemporaryGo value (.ref A.x) r = pure ()) (h : ∀ d2, K (.ref d2) ⟨fs, (d2, listOf (kms_pick A.refs a b).toArray 0) :: led, cs⟩) : Op (G2 w) c (subscriptTail value (.Slice lo hi none p) (.ref A.x) (.ref d)) ⟨fs, led, cs⟩ K := by
  refine ⟨fun s R => ?_⟩
  have Xs := acc_in X ok R
  have I := acc_at R h1 h2
  have L : Looks (model (G2 w).P (G2 w).w) s.heap (specialOf (.ref A.x) "__getitem__") (some (.builtin "list.__getitem__")) := I.type.andThen (looks_findIn Xs (by k_is))
  refine tail_slice L (fun a e => nomatch e) hg ?_
  have k1 : noSeq (Kf w.params) 137 = true := by k_is
  have k2 : findIn (Kf w.params) (.ref 137) "__getitem__" = some (some (.builtin "list.__getitem__")) := by k_is
  have k3 : subIn (Kf w.params) (.ref 137) (.type "list") = some true := by k_is
  have sz : A.refs.toArray.size ≤ sizeLine := by
    rw [List.size_toArray]; unfold Acc.refs; rw [List.length_map]; exact Nat.le_trans hz (by decide)
  have S := R.slice (σ := ⟨fs, led, cs⟩) hd
  have R2 := R.fresh (listOf (kms_pick A.refs a b).toArray 0) rfl
  refine @Mine.getItem_acc P2 w c.A s (Kf w.params) A.x 137 A.obj (some (A.dic w)) _ d A.refs.toArray A.n vl vu .none a b none _ Xs I rfl k1 k2 k3 S pl pu .none (by simp) ?_ sz
  rw [kms_pick_eq]
  exact ⟨_, R2, h _⟩
theorem op_cutAcc {A : Acc} {d l : Addr} {rest : Led} {vl : Value} {n0 : Nat} {K : Unit → St → Prop} (X : (Kf w.params).In b₀) (ok : CxOk (G2 w) tb nm b₀ D U c)
    (hp : Pick (A.x, A.obj) led rest) (h2 : (A.d, A.dic w) ∈ led) (hd : (d, sliceObj vl .none) ∈ led) (pl : IsPart vl (some 0)) (hl : (l, listOf ([] : List Value).toArray n0) ∈ led) (hz : A.its.length ≤ 100)
    (h : K () ⟨fs, (A.x, A.cut.obj) :: rest, cs⟩) : Op (G2 w) c (setItem (.ref A.x) (.ref d) (.ref l)) ⟨fs, led, cs⟩ K := by
  refine ⟨fun s R => ?_⟩
  have Xs := acc_in X ok R
  have I := acc_at R hp.mem h2
  have k1 : noSeq (Kf w.params) 137 = true := by k_is
  have k2 : findIn (Kf w.params) (.ref 137) "__setitem__" = some (some (.builtin "list.__setitem__")) := by k_is
  have k3 : subIn (Kf w.params) (.ref 137) (.type "list") = some true := by k_is
  have S := R.slice (σ := ⟨fs, led, cs⟩) hd
  have hL : s.heap.IsList l ([] : List Value).toArray := R.isList (σ := ⟨fs, led, cs⟩) hl
  have ne : A.x ≠ l := fun e => by
    have e1 := R.get (σ := ⟨fs, led, cs⟩) hp.mem
    have e2 := R.get (σ := ⟨fs, led, cs⟩) hl
    rw [show (A.x, A.obj).1 = l from e] at e1
    rw [e1] at e2
    have := congrArg Obj.cls (Option.some.inj e2)
    exact absurd this (by simp [Acc.obj])
  have sz : A.refs.toArray.size ≤ 1000 := by
    rw [List.size_toArray]; unfold Acc.refs; rw [List.length_map]; k_extra "o"
  have bd := kms_bounds (some 0) none A.refs.toArray.size
  have b1 : (sliceBounds (some 0) none none A.refs.toArray.size).2.2 = 1 := by rw [bd]
  obtain ⟨news, news', N, U, k⟩ := R.viaU (σ := ⟨fs, led, cs⟩) hp A.cut.obj
  refine @Mine.setItem_acc P2 w c.A s (Kf w.params) A.x 137 A.obj (some (A.dic w)) (fun _ _ => False) d l A.refs.toArray #[] A.n vl .none (some 0) none _ Xs I rfl k1 k2 k3 S pl .none hL ne b1 sz (Nat.zero_le _) ?_
  obtain ⟨pre, post, rfl, rfl, a, b⟩ := U.split
  have hf : Obj.mapSeq (fun xs => xs.extract 0 (sliceBounds (some 0) none none A.refs.toArray.size).1.toNat ++ #[] ++ xs.extract (max (sliceBounds (some 0) none none A.refs.toArray.size).1 (sliceBounds (some 0) none none A.refs.toArray.size).2.1).toNat xs.size) A.obj = A.cut.obj := cut_seq A _ (by
    rw [bd]
    dsimp only
    rw [show kms_lo (some 0) A.refs.toArray.size = 0 by unfold kms_lo; simp, show kms_hi none A.refs.toArray.size = A.refs.toArray.size from rfl]
    apply Array.eq_empty_of_size_eq_zero
    simp)
  obtain ⟨U1, U2⟩ := news_upd R.F N a b hf rfl
  exact ⟨_, k _ s.toks U1 U2, h⟩
theorem kms_all (vs : List Value) : kms_pick vs (some 0) none = vs := by
  unfold kms_pick kms_lo kms_hi
  simp
end
section
variable {w : World} {b₀ : Heap} {loose : List Str} {mean : ExcName → Option Value} {mg mb : Str → Option Value} (H : Hd w b₀ loose mean mg mb)
include H
theorem pop_fc (A : Acc) (hl : A.its.length ≤ 100) : FC (G2 w) b₀ 4 60 (.ref 89) ⟨[.ref A.x], []⟩ (A.cells w) (fun k => ∀ d2, k (.ref d2) ((d2, listOf A.refs.toArray 0) :: A.cut.cells w ++ A.its.map It.cell)) := by
  refine' enterV (D := 3) (U := 57) (tb := tb2) (binds := [("self", .ref A.x), ("i", .int 0 285)]) H.X H.T (tb2_ok w) ?ho ?hcd ?hb ?hl ?h ?h1 ?h2 ?h3 ?h4 ?h5 ?h6
  walk_at "V enter"
  intro k c hk ok _
  refine op_slice ok ?_
  intro d
  refine op_sliceAcc (A := A) H.X ok (.tail _ (.head _)) (.tail _ (.tail _ (.head _))) (.head _) (.int 0 _) .none hl (fun _ => rfl) fun d2 => ?_
  refine op_newList (vs := []) (Nat.zero_le _) fun l => ?_
  refine op_slice ok ?_
  intro d3
  refine op_cutAcc (A := A) H.X ok (.there (.there (.there (.there .here)))) (.tail _ (.tail _ (.tail _ (.tail _ (.tail _ (.head _)))))) (.head _) (.int 0 _) (.tail _ (.head _)) hl ?_
  have hk2 := hk d2
  rw [← kms_all A.refs] at hk2
  refine EndI.mk ((d2, listOf (kms_pick A.refs (some 0) none).toArray 0) :: A.cut.cells w ++ A.its.map It.cell) [(d3, sliceObj (.int 0 285) .none), (l, listOf ([] : List Value).toArray 0), (d, sliceObj (.int 0 285) .none)] ?_ hk2
  refine (Pk.of (is := [3, 0, 3]) rfl).perm.trans ?_
  show ((d2, _) :: (A.x, A.cut.obj) :: (A.d, A.dic w) :: ([_, _, _] ++ A.its.map It.cell)).Perm ((d2, _) :: (A.x, A.cut.obj) :: (A.d, A.dic w) :: (A.its.map It.cell ++ _))
  exact .cons _ (.cons _ (.cons _ List.perm_append_comm))
theorem popA_fc (A : Acc) (hl : A.its.length ≤ 100) (t : AT) (r : List Acc) : FC (G2 w) b₀ 4 60 (.ref 89) ⟨[.ref A.x], []⟩ (AL w t (A :: r)) (fun k => ∀ d2, k (.ref d2) (AL w t (A.cut :: r) ++ ((d2, listOf A.refs.toArray 0) :: A.its.map It.cell))) := by
  refine (FC.perm ?_ (FC.permR ((pop_fc H A hl).frame ((99, tabObj t.t1) :: (106, tabObj t.t2) :: AC w r)))).mono fun k hk d2 => ⟨_, ?_, hk d2⟩
  · unfold AL
    rw [AC.cons]
    walk_at "V perm"
  · unfold AL
    rw [AC.cons]
    walk_at "V perm"
end
end MineV
end
end

section
noncomputable section
namespace MineV
open PySem PySem.W PyProof.Rows PySem.Calls PySem.Spec
open Mine (Kf accOf)
example : True := by
  k_with "V enter" => (
    (case ho => k_is)
    (case hcd => k_is)
    (case hb => first | exact fun s Xs => BindsTo.of_eq rfl | exact fun s Xs => binds_K Xs rfl (by k_is) rfl rfl rfl)
    (case hl => exact locs rfl)
    (case h1 => decide)
    (case h2 => exact rfl)
    (case h3 => exact rfl)
    (case h4 => exact rfl)
    (case h5 => exact rfl)
    (case h6 => exact rfl))
  trivial
section
variable {tb : Tab} {nm : List (Str × NameKind)} {b₀ : Heap} {D U : Nat} {c : Cx} {σ : St} {fs : List (Str × Value)} {led : Led} {cs : List (Str × Addr × Option Value)} {w : World}
variable {loose : List Str} {mean : ExcName → Option Value} {mg mb : Str → Option Value} (H : Hd w b₀ loose mean mg mb)
theorem Op.perm {y : Gl} {α : Type} {t : Sem α} {led' : Led} {K : α → St → Prop} (hp : led.Perm led') (h : Op y c t ⟨fs, led', cs⟩ K) : Op y c t ⟨fs, led, cs⟩ K := ⟨fun s R => h.run s (R.perm hp)⟩
theorem call_in {y : Gl} {vs : List Value} {f : Value} {tl : Led} {D' U' dp un : Nat} {S : (Value → Led → Prop) → Prop} {A : Around} {Q : Value → Shared → Prop} {s : Shared} (pre : Led) (ok : CxOk y tb nm b₀ D' U' c) (F : FC y b₀ D U f ⟨vs, []⟩ tl S) (hA : A = AR dp un c.gd c.fr)
    (hd : dp + D < recursionLimit) (hu : un + U < cLine) (hp : led.Perm (pre ++ tl)) (R : Rep y c ⟨fs, led, cs⟩ s) (k : Value → Led → Prop) (hS : S k) (h : ∀ v tl' s', k v tl' → Rep y c ⟨fs, pre ++ tl', cs⟩ s' → Q v s') : wpAny (model y.P y.w) A (call f vs []) Q (fun _ _ => False) s := by
  have hpk : ∀ {tl : Led}, Pk tl (tl ++ pre) pre := fun {tl} => by
    induction tl with
    | nil => exact .nil
    | cons p r ih => exact .cons .here ih
  have R' := Rep.perm (hp.trans List.perm_append_comm) R
  exact wpAny_call (call_at ok F hA hd hu hpk R' _ hS fun v tl' s' k R2 => h v tl' s' k (Rep.perm List.perm_append_comm R2))
theorem lenOf_le : ∀ its : List It, (∀ i ∈ its, i.a.length ≤ 100 ∧ i.b.length ≤ 100) → lenOf its ≤ 200 * its.length
  | [], _ => Nat.le_refl _
  | i :: r, h => by
    have h1 := h i (.head _)
    have h2 := lenOf_le r fun j hj => h j (.tail _ hj)
    simp only [lenOf, It.len, List.length_cons]
    k_extra "o"
theorem Acc.Ok.le {A : Acc} (h : A.Ok) : lenOf A.its ≤ 20000 := by
  have := lenOf_le A.its h.short
  have := h.few
  k_extra "o"
include H
theorem op_lenA {A : Acc} {t : AT} {as r : List Acc} {K : Value → St → Prop} (pre : Led) (ok : CxOk (G2 w) tb nm b₀ D U c) (hd : 4 ≤ D) (hu : 61 ≤ U) (hp : as.Perm (A :: r)) (hA : A.Ok) (ht : t.Ok)
    (h : ∀ u t', AT.Ok t' → K (.int (lenOf A.its) u) ⟨fs, pre ++ AL w t' as, cs⟩) : Op (G2 w) c (call (.builtin "len") [.ref A.x]) ⟨fs, pre ++ AL w t as, cs⟩ K := by
  refine ⟨fun s R => ?_⟩
  have d := ok.dep
  have u := ok.unt
  have m1 : ∀ q ∈ A.cells w, q ∈ pre ++ AL w t as := fun q hq => List.mem_append_right _ ((AL.perm hp).mem_iff.mpr (.tail _ (.tail _ (List.mem_append_left _ hq))))
  have I := acc_at (A := A) R (m1 _ (.head _)) (m1 _ (.tail _ (.head _)))
  have k1 : findIn (Kf w.params) (.ref 137) "__len__" = some (some (.ref 104)) := by k_is
  have k2 : isFn (Kf w.params) (.ref 104) = true := by k_is
  refine Mine.len_own (acc_in H.X ok R) I k1 k2 ?_
  refine call_in (dp := c.dp) (un := c.un + 1) pre ok (lenA_fc H A hA t ht r) rfl (by k_extra "o") (by k_extra "o") (List.Perm.append_left _ (AL.perm hp)) R (fun v tl' => ∃ u t', AT.Ok t' ∧ v = .int (lenOf A.its) u ∧ tl' = AL w t' (A :: r)) (fun u t' h => ⟨u, t', h, rfl, rfl⟩) ?_
  rintro v tl' s' ⟨u, t', h1, rfl, rfl⟩ R'
  exact ⟨lenOf A.its, u, rfl, Nat.lt_of_le_of_lt hA.le (by decide), fun t tk => ⟨_, (Rep.perm (List.Perm.append_left _ (AL.perm hp).symm) R').toks, h _ _ h1⟩⟩
theorem op_strA {A : Acc} {t : AT} {as r : List Acc} {K : Value → St → Prop} (pre : Led) (ok : CxOk (G2 w) tb nm b₀ D U c) (hd : 4 ≤ D) (hu : 62 ≤ U) (hp : as.Perm (A :: r)) (hA : A.Ok) (ht : t.Ok)
    (h : ∀ u t', AT.Ok t' → K (.str (strOf A.its) u) ⟨fs, pre ++ AL w t' as, cs⟩) : Op (G2 w) c (call (.type "str") [.ref A.x]) ⟨fs, pre ++ AL w t as, cs⟩ K := by
  refine ⟨fun s R => ?_⟩
  have d := ok.dep
  have u := ok.unt
  have m1 : ∀ q ∈ A.cells w, q ∈ pre ++ AL w t as := fun q hq => List.mem_append_right _ ((AL.perm hp).mem_iff.mpr (.tail _ (.tail _ (List.mem_append_left _ hq))))
  have I := acc_at (A := A) R (m1 _ (.head _)) (m1 _ (.tail _ (.head _)))
  have k1 : findIn (Kf w.params) (.ref 137) "__str__" = some (some (.ref 111)) := by k_is
  have k2 : isFn (Kf w.params) (.ref 111) = true := by k_is
  refine kso_call (show c.un + 2 < cLine by k_extra "o") (acc_in H.X ok R) I k1 k2 ?_
  refine call_in (dp := c.dp) (un := c.un + 2) pre ok (strA_fc H A hA t ht r) rfl (by k_extra "o") (by k_extra "o") (List.Perm.append_left _ (AL.perm hp)) R (fun v tl' => ∃ u t', AT.Ok t' ∧ v = .str (strOf A.its) u ∧ tl' = AL w t' (A :: r)) (fun u t' h => ⟨u, t', h, rfl, rfl⟩) ?_
  rintro v tl' s' ⟨u, t', h1, rfl, rfl⟩ R'
  exact ⟨_, Rep.perm (List.Perm.append_left _ (AL.perm hp).symm) R', h _ _ h1⟩
theorem op_newA {K : Value → St → Prop} (ok : CxOk (G2 w) tb nm b₀ D U c) (hd : 6 ≤ D) (hu : 60 ≤ U)
    (h : ∀ A : Acc, A.its = [] → K (.ref A.x) ⟨fs, A.cells w ++ led, cs⟩) : Op (G2 w) c (call (.ref 137) []) ⟨fs, led, cs⟩ K := by
  refine ⟨fun s R => ?_⟩
  have d := ok.dep
  have u := ok.unt
  have X := acc_in H.X ok R
  have R1 := R.fresh emptyDict rfl
  have R2 := R1.fresh (accOf 137 s.heap.objs.size #[] 0) rfl
  rw [Heap.size_push] at R2
  obtain ⟨hh, g, dr, t, os⟩ := s
  have k1 : ∃ oc od cd sl, (Kf w.params).lookup 137 = some ⟨oc, od, .cls cd, sl⟩ ∧ cd.hasDel = false ∧ (sl.toList[4]?).join = some (.builtin "list.__new__") ∧ cd.mro = [.ref 137, .type "list", .type "object"] := ⟨_, _, _, _, by k_is, rfl, rfl, rfl⟩
  obtain ⟨oc, od, cd, sl, ho, e2, e3, hm⟩ := k1
  have e7 : specialIn (Kf w.params) (.ref 137) "__call__" = some (some (.builtin "type.__call__")) := by k_is
  have e8 : instIn (Kf w.params) (.ref 137) (.type "type") = some true := by k_is
  have hi : findIn (Kf w.params) (.ref 137) "__init__" = some (some (.ref 74)) := by k_is
  have hf : isFn (Kf w.params) (.ref 74) = true := by k_is
  refine wpAny_call (Mine.makeL (Mine.makesL_of X ho e2 e3 hm e7 e8) (looks_findIn X hi) (fun self => bind_fn X self (beq_iff_eq.mp hf)) ?_)
  have nd : ND (((hh.objs.size + 1, accOf 137 hh.objs.size #[] 0) :: (hh.objs.size, emptyDict) :: led)) := (rep_off R2).1
  have ne : hh.objs.size + 1 ≠ hh.objs.size := Nat.succ_ne_self _
  have F := FC.of_fs (G := (G2 w).G) (Mine.ainit_fs (w := w) H.X H.T (hh.objs.size + 1) hh.objs.size ne) (by
    rintro nd v tl' ⟨rfl, k, t, n, rfl⟩
    exact nd)
  refine call_at (dp := c.dp + 1) (un := c.un + 1) (rest := led) ok F rfl (by k_extra "o") (by k_extra "o") (.cons .here (.cons .here .nil)) R2 (fun v tl' => v = .none ∧ ∃ k t n, tl' = [(hh.objs.size + 1, Mine.accObj hh.objs.size [] 0), (hh.objs.size, dictOf (Mine.accD w k t) n)]) (fun v tl' z => z) ?_
  rintro v tl' s' ⟨rfl, k, t, n, rfl⟩ R'
  exact ⟨rfl, _, R', h ⟨hh.objs.size + 1, hh.objs.size, [], 0, n, k, t⟩ rfl⟩
end
end MineV
end
end

section
noncomputable section
namespace MineV
open PySem PySem.W PyProof.Rows PySem.Calls PySem.Spec
open Mine (Kf accOf)
example : True := by
  k_with "V enter" => (
    (case ho => k_is)
    (case hcd => k_is)
    (case hb => first | exact fun s Xs => BindsTo.of_eq rfl | exact fun s Xs => binds_K Xs rfl (by k_is) rfl rfl rfl)
    (case hl => exact locs rfl)
    (case h1 => decide)
    (case h2 => exact rfl)
    (case h3 => exact rfl)
    (case h4 => exact rfl)
    (case h5 => exact rfl)
    (case h6 => exact rfl))
  trivial
open Mine (LexA LexT LexOk CodeOf tabL lexTl lexD tokT)
inductive LexAt (w : World) (a : LexA) (q : List Str) (i : Nat) (ln : Int) : Led → Prop
  | mk (tt : LexT) (nd : Nat) (vs : List Value) (np : Nat) (tp : Tok) (na : Nat) (hs : StrsAre vs q) : LexAt w a q i ln (lexTl w a ln tt nd vs np i tp na)
theorem lex_nd {w : World} {b₀ : Heap} {tx : Str} {a : LexA} (ok : LexOk w b₀ tx a) {ln : Int} {tt : LexT} {nd : Nat} {vs : List Value} {np i : Nat} {tp : Tok} {na : Nat} : ND (lexTl w a ln tt nd vs np i tp na) := ok.nd
structure LexOff (a : LexA) : Prop where
  r : a.cr ≠ 185
  l : a.cl ≠ 185
  n : a.cr ≠ a.cl
theorem lexOff_of {w : World} {b₀ : Heap} {tx : Str} {a : LexA} (ok : LexOk w b₀ tx a) {ln : Int} {tt : LexT} {nd : Nat} {vs : List Value} {np i : Nat} {tp : Tok} {na : Nat} (h : Mine.Off 185 (lexTl w a ln tt nd vs np i tp na)) : LexOff a ∧ ND (lexTl w a ln tt nd vs np i tp na ++ [(185, tabObj (tabL a))]) := by
  refine ⟨⟨h (a.cr, a.co) (.tail _ (.tail _ (.tail _ (.tail _ (.tail _ (.tail _ (.tail _ (.head _)))))))), h (a.cl, a.clo) (.tail _ (.tail _ (.tail _ (.tail _ (.tail _ (.head _)))))), ?_⟩, ?_⟩
  · have n := ok.nd
    rw [List.nodup_cons, List.nodup_cons, List.nodup_cons, List.nodup_cons, List.nodup_cons, List.nodup_cons, List.nodup_cons] at n
    exact fun e => n.2.2.2.2.2.1 (e ▸ .tail _ (.head _))
  · refine ND.app.mpr ⟨lex_nd ok, ND.cons.mpr ⟨fun _ h => (nomatch h), ND.nil⟩, fun p hp q hq => ?_⟩
    rw [List.mem_singleton.mp hq]
    exact h p hp
section
variable {w : World} {b₀ : Heap} {loose : List Str} {mean : ExcName → Option Value} {mg mb : Str → Option Value} (H : Hd w b₀ loose mean mg mb)
include H
theorem lexer1_fc (tx : Str) (t : Tok) (hx : tx.length ≤ 1000) : FC (G2 w) b₀ 8 80 (.ref 190) ⟨[.str tx t], []⟩ [(185, tabObj #[])]
    (fun k => ∀ a tl, LexOk w b₀ tx a → LexOff a → CodeOf a → LexAt w a [] 0 1 tl → k (.ref a.I) (tl ++ [(185, tabObj (tabL a))])) :=
  (FC.of_fs (G := (G2 w).G) (Mine.lexer_fs H.X H.T H.C3 tx t hx) (by
    rintro nd v tl' ⟨a, tt, n, tp, rfl, rfl, ok, off, co⟩
    exact (lexOff_of ok off).2)).mono fun k hk v tl' ⟨a, tt, n, tp, e, e2, ok, off, co⟩ => by
      subst e e2
      exact hk a _ ok (lexOff_of ok off).1 co (.mk _ _ _ _ _ _ .nil)
noncomputable def lexRest (a : LexA) (i : Nat) (tp : Tok) (na : Nat) : Led :=
  [(a.sd, dictOf [⟨a.hk, .str "read" a.kk, .ref a.rd⟩] 1), (a.S, a.so), (a.cl, a.clo), (a.rd, a.ro), (a.cr, a.co), (a.al, listOf #[.int (i : Int) tp] na), (a.ca, a.cao), (a.ct, a.cto)]
omit H in
theorem lexTl_rest {w : World} {a : LexA} {ln : Int} {tt : LexT} {nd : Nat} {vs : List Value} {np i : Nat} {tp : Tok} {na : Nat} :
    lexTl w a ln tt nd vs np i tp na = (a.pb, listOf vs.toArray np) :: (a.I, instObj 179 a.d) :: (a.d, dictOf (lexD w ln a.S a.pb tt) nd) :: lexRest a i tp na := rfl
end
end MineV
end
end

section
noncomputable section
namespace MineV
open PySem PySem.W PyProof.Rows PySem.Calls PySem.Spec
open Mine (Kf accOf)
example : True := by
  k_with "V enter" => (
    (case ho => k_is)
    (case hcd => k_is)
    (case hb => first | exact fun s Xs => BindsTo.of_eq rfl | exact fun s Xs => binds_K Xs rfl (by k_is) rfl rfl rfl)
    (case hl => exact locs rfl)
    (case h1 => decide)
    (case h2 => exact rfl)
    (case h3 => exact rfl)
    (case h4 => exact rfl)
    (case h5 => exact rfl)
    (case h6 => exact rfl))
  trivial
noncomputable def bis (p : Nat → Bool) : Nat → Nat → Nat → Nat
  | 0, lo, _ => lo
  | n + 1, lo, hi => if lo < hi then (if p ((lo + hi) / 2) then bis p n lo ((lo + hi) / 2) else bis p n ((lo + hi) / 2 + 1) hi) else lo
theorem bis_done (p : Nat → Bool) (n : Nat) (lo hi : Nat) (h : ¬ lo < hi) : bis p n lo hi = lo := by
  cases n with
  | zero => rfl
  | succ n => unfold bis; rw [if_neg h]
theorem bis_yes {p : Nat → Bool} {n lo hi : Nat} (h : lo < hi) (hn : hi - lo ≤ n) (hp : p ((lo + hi) / 2) = true) : lo ≤ (lo + hi) / 2 ∧ (lo + hi) / 2 ≤ hi ∧ (lo + hi) / 2 - lo ≤ n - 1 ∧ n - 1 < n ∧ bis p n lo hi = bis p (n - 1) lo ((lo + hi) / 2) := by
  obtain ⟨k, rfl⟩ : ∃ k, n = k + 1 := ⟨n - 1, by k_extra "o"⟩
  refine ⟨by k_extra "o", by k_extra "o", by k_extra "o", Nat.lt_succ_self _, ?_⟩
  show (if lo < hi then _ else _) = _
  rw [if_pos h, if_pos hp]; rfl
theorem bis_no {p : Nat → Bool} {n lo hi : Nat} (h : lo < hi) (hn : hi - lo ≤ n) (hp : p ((lo + hi) / 2) = false) : (lo + hi) / 2 + 1 ≤ hi ∧ hi ≤ hi ∧ hi - ((lo + hi) / 2 + 1) ≤ n - 1 ∧ n - 1 < n ∧ bis p n lo hi = bis p (n - 1) ((lo + hi) / 2 + 1) hi := by
  obtain ⟨k, rfl⟩ : ∃ k, n = k + 1 := ⟨n - 1, by k_extra "o"⟩
  refine ⟨by k_extra "o", Nat.le_refl _, by k_extra "o", Nat.lt_succ_self _, ?_⟩
  show (if lo < hi then _ else _) = _
  rw [if_pos h, hp, if_neg (by decide)]; rfl
theorem mid_lt {lo hi n : Nat} (h : lo < hi) (k : hi ≤ n) : (lo + hi) / 2 < n := by k_extra "o"
noncomputable def bisR (ks : List Nat) (x : Int) (lo hi : Nat) : Nat := bis (fun i => decide (x < (ks.getD i 0 : Nat))) (hi - lo) lo hi
noncomputable def bisL (ks : List Nat) (x : Int) (lo hi : Nat) : Nat := bis (fun i => ! decide (((ks.getD i 0 : Nat) : Int) < x)) (hi - lo) lo hi
theorem bis_le (p : Nat → Bool) : ∀ n lo hi, lo ≤ hi → bis p n lo hi ≤ hi
  | 0, _, _, h => h
  | n + 1, lo, hi, h => by
    unfold bis
    by_cases hl : lo < hi
    · rw [if_pos hl]
      by_cases hp : p ((lo + hi) / 2) = true
      · rw [if_pos hp]
        have := bis_le p n lo ((lo + hi) / 2) (by k_extra "o")
        k_extra "o"
      · rw [if_neg hp]
        exact bis_le p n _ hi (by k_extra "o")
    · rw [if_neg hl]; exact h
theorem pull {α : Type} {a : α} {as : List α} (h : a ∈ as) : ∃ r, as.Perm (a :: r) := by
  obtain ⟨s, t, rfl⟩ := List.append_of_mem h
  exact ⟨s ++ t, List.perm_middle⟩
noncomputable def Acc.key (A : Acc) : Nat := lenOf A.its
noncomputable def Acc.ref (A : Acc) : Value := .ref A.x
noncomputable def vrefs (l : List Acc) : List Value := l.map Acc.ref
noncomputable def keys (l : List Acc) : List Nat := l.map Acc.key
theorem vrefs_at {l : List Acc} {i : Nat} {A : Acc} (h : l[i]? = some A) : (vrefs l)[i]? = some A.ref := by unfold vrefs; rw [List.getElem?_map, h]; rfl
theorem keys_at {l : List Acc} {i : Nat} {A : Acc} (h : l[i]? = some A) : (keys l).getD i 0 = A.key := by unfold keys; rw [List.getD_eq_getElem?_getD, List.getElem?_map, h]; rfl
theorem lt_some {α : Type} {l : List α} {i : Nat} (h : i < l.length) : ∃ a, l[i]? = some a ∧ a ∈ l := ⟨l[i], List.getElem?_eq_getElem h, List.getElem_mem h⟩
section
variable {w : World} {b₀ : Heap} {loose : List Str} {mean : ExcName → Option Value} {mg mb : Str → Option Value} (H : Hd w b₀ loose mean mg mb)
include H
theorem price_fc {as : List Acc} {A : Acc} (hA : A ∈ as) (hok : ∀ A ∈ as, A.Ok) (t : AT) (ht : t.Ok) : FC (G2 w) b₀ 5 64 (.ref 204) ⟨[A.ref], []⟩ (AL w t as) (fun k => ∀ u t', AT.Ok t' → k (.int A.key u) (AL w t' as)) := by
  refine' enterV (D := 4) (U := 61) (tb := tb2) (binds := [("parcel", A.ref)]) H.X H.T (tb2_ok w) ?ho ?hcd ?hb ?hl ?h ?h1 ?h2 ?h3 ?h4 ?h5 ?h6
  walk_at "V enter"
  intro k c hk ok hc
  obtain ⟨r, hr⟩ := pull hA
  refine ⟨trivial, ?_⟩
  refine op_lenA H [] ok (Nat.le_refl _) (Nat.le_refl _) hr (hok A hA) ht fun u t' h' => ?_
  exact ⟨_, [], by rw [List.append_nil]; exact .refl _, hk u t' h'⟩
theorem bisR_fc (x : Int) (tx : Tok) (la : Addr) (l : List Acc) (nn : Nat) {as : List Acc} (hin : ∀ A ∈ l, A ∈ as) (hok : ∀ A ∈ as, A.Ok) (t : AT) (ht : t.Ok) (lo hi : Nat) (hiI : Int) (hh : hiI = hi) (tl th : Tok) (h2 : hi ≤ l.length) (h3 : l.length ≤ 100) :
    FC (G2 w) b₀ 7 70 (.ref 39) ⟨[.ref la, .int x tx, .int lo tl, .int hiI th], [("key", .ref 204)]⟩ ((la, listOf (vrefs l).toArray nn) :: AL w t as)
      (fun k => ∀ u t', AT.Ok t' → k (.int (bisR (keys l) x lo hi : Nat) u) ((la, listOf (vrefs l).toArray nn) :: AL w t' as)) := by
  subst hh
  unfold bisR
  have hv : (vrefs l).length = l.length := List.length_map _
  refine' enterV (D := 6) (U := 67) (tb := tb2) (binds := [("a", .ref la), ("x", .int x tx), ("lo", .int lo tl), ("hi", .int hi th), ("key", .ref 204)]) H.X H.T (tb2_ok w) ?ho ?hcd ?hb ?hl ?h ?h1 ?h2 ?h3 ?h4 ?h5 ?h6
  walk_at "V enter"
  intro k c hk ok hc
  intro t0
  refine IfK.no (decide_eq_false (Int.not_lt.mpr (Int.natCast_nonneg lo))) ?_
  refine IfK.no rfl ?_
  refine IfK.no rfl ?_
  refine op_while (fun a : Nat × Nat × Nat × Tok × Tok × AT => ⟨[("lo", .int a.2.1 a.2.2.2.1), ("hi", .int a.2.2.1 a.2.2.2.2.1), ("a", .ref la), ("x", .int x tx), ("key", .ref 204)], (la, listOf (vrefs l).toArray nn) :: AL w a.2.2.2.2.2 as, []⟩)
    (fun a => a.2.2.1 - a.2.1 ≤ a.1 ∧ a.2.2.1 ≤ l.length ∧ a.2.2.2.2.2.Ok ∧ bis (fun i => decide (x < ((keys l).getD i 0 : Nat))) a.1 a.2.1 a.2.2.1 = bis (fun i => decide (x < ((keys l).getD i 0 : Nat))) (hi - lo) lo hi) (fun a => a.1) ok ?turn (hi - lo, lo, hi, tl, th, t) ⟨Nat.le_refl _, h2, ht, rfl⟩ (.s rfl)
  intro a K' nx bk rt ⟨e2, e3, et, e4⟩
  refine IfK.dec (fun cx => ?_) fun cx => ?_
  · intro _ _
    refine op_half ?_
    intro t1
    obtain ⟨A, eA, mA⟩ := lt_some (mid_lt (Int.ofNat_lt.mp cx) e3)
    refine op_item (.head _) rfl (vrefs_at eA) (by k_extra "o") ?_ (fun _ _ => rfl) fun _ => rfl
    refine ⟨trivial, ?_⟩
    refine op_callT [(la, listOf (vrefs l).toArray nn)] ok (price_fc H (hin A mA) hok _ et) (by decide) (by decide) (.refl _) ?_
    intro t3 t' ht'
    refine IfK.dec (fun cy => ?_) fun cy => ?_
    · obtain ⟨z1, z2, z3, z4, z5⟩ := bis_yes (p := fun i => decide (x < ((keys l).getD i 0 : Nat))) (Int.ofNat_lt.mp cx) e2 (by rw [keys_at eA]; exact decide_eq_true cy)
      exact (nx _ (a.1 - 1, a.2.1, (a.2.1 + a.2.2.1) / 2, a.2.2.2.1, t1, t') ⟨z3, Nat.le_trans z2 e3, ht', z5.symm.trans e4⟩ z4 (.s rfl)).1
    · obtain ⟨z1, z2, z3, z4, z5⟩ := bis_no (p := fun i => decide (x < ((keys l).getD i 0 : Nat))) (Int.ofNat_lt.mp cx) e2 (by rw [keys_at eA]; exact decide_eq_false cy)
      intro _ t4
      exact (nx _ (a.1 - 1, (a.2.1 + a.2.2.1) / 2 + 1, a.2.2.1, t4, a.2.2.2.2.1, t') ⟨z3, e3, ht', z5.symm.trans e4⟩ z4 (.s rfl)).1
  · rw [bis_done _ _ _ _ (fun z => cx (Int.ofNat_lt.mpr z))] at e4
    rw [← e4] at hk
    exact ⟨_, [], by rw [List.append_nil], hk _ _ et⟩
theorem bisL_fc (x : Int) (tx : Tok) (la : Addr) (l : List Acc) (nn : Nat) {as : List Acc} (hin : ∀ A ∈ l, A ∈ as) (hok : ∀ A ∈ as, A.Ok) (t : AT) (ht : t.Ok) (lo hi : Nat) (hiI : Int) (hh : hiI = hi) (tl th : Tok) (h2 : hi ≤ l.length) (h3 : l.length ≤ 100) :
    FC (G2 w) b₀ 7 70 (.ref 57) ⟨[.ref la, .int x tx, .int lo tl, .int hiI th], [("key", .ref 204)]⟩ ((la, listOf (vrefs l).toArray nn) :: AL w t as)
      (fun k => ∀ u t', AT.Ok t' → k (.int (bisL (keys l) x lo hi : Nat) u) ((la, listOf (vrefs l).toArray nn) :: AL w t' as)) := by
  subst hh
  unfold bisL
  have hv : (vrefs l).length = l.length := List.length_map _
  refine' enterV (D := 6) (U := 67) (tb := tb2) (binds := [("a", .ref la), ("x", .int x tx), ("lo", .int lo tl), ("hi", .int hi th), ("key", .ref 204)]) H.X H.T (tb2_ok w) ?ho ?hcd ?hb ?hl ?h ?h1 ?h2 ?h3 ?h4 ?h5 ?h6
  walk_at "V enter"
  intro k c hk ok hc
  intro t0
  refine IfK.no (decide_eq_false (Int.not_lt.mpr (Int.natCast_nonneg lo))) ?_
  refine IfK.no rfl ?_
  refine IfK.no rfl ?_
  refine op_while (fun a : Nat × Nat × Nat × Tok × Tok × AT => ⟨[("lo", .int a.2.1 a.2.2.2.1), ("hi", .int a.2.2.1 a.2.2.2.2.1), ("a", .ref la), ("x", .int x tx), ("key", .ref 204)], (la, listOf (vrefs l).toArray nn) :: AL w a.2.2.2.2.2 as, []⟩)
    (fun a => a.2.2.1 - a.2.1 ≤ a.1 ∧ a.2.2.1 ≤ l.length ∧ a.2.2.2.2.2.Ok ∧ bis (fun i => ! decide ((((keys l).getD i 0 : Nat) : Int) < x)) a.1 a.2.1 a.2.2.1 = bis (fun i => ! decide ((((keys l).getD i 0 : Nat) : Int) < x)) (hi - lo) lo hi) (fun a => a.1) ok ?turn (hi - lo, lo, hi, tl, th, t) ⟨Nat.le_refl _, h2, ht, rfl⟩ (.s rfl)
  intro a K' nx bk rt ⟨e2, e3, et, e4⟩
  refine IfK.dec (fun cx => ?_) fun cx => ?_
  · intro _ _
    refine op_half ?_
    intro t1
    obtain ⟨A, eA, mA⟩ := lt_some (mid_lt (Int.ofNat_lt.mp cx) e3)
    refine op_item (.head _) rfl (vrefs_at eA) (by k_extra "o") ?_ (fun _ _ => rfl) fun _ => rfl
    refine ⟨trivial, ?_⟩
    refine op_callT [(la, listOf (vrefs l).toArray nn)] ok (price_fc H (hin A mA) hok _ et) (by decide) (by decide) (.refl _) ?_
    intro t3 t' ht'
    refine IfK.dec (fun cy => ?_) fun cy => ?_
    · obtain ⟨z1, z2, z3, z4, z5⟩ := bis_no (p := fun i => ! decide ((((keys l).getD i 0 : Nat) : Int) < x)) (Int.ofNat_lt.mp cx) e2 (by rw [keys_at eA, decide_eq_true cy]; rfl)
      intro _ t4
      exact (nx _ (a.1 - 1, (a.2.1 + a.2.2.1) / 2 + 1, a.2.2.1, t4, a.2.2.2.2.1, t') ⟨z3, e3, ht', z5.symm.trans e4⟩ z4 (.s rfl)).1
    · obtain ⟨z1, z2, z3, z4, z5⟩ := bis_yes (p := fun i => ! decide ((((keys l).getD i 0 : Nat) : Int) < x)) (Int.ofNat_lt.mp cx) e2 (by rw [keys_at eA, decide_eq_false cy]; rfl)
      exact (nx _ (a.1 - 1, a.2.1, (a.2.1 + a.2.2.1) / 2, a.2.2.2.1, t1, t') ⟨z3, Nat.le_trans z2 e3, ht', z5.symm.trans e4⟩ z4 (.s rfl)).1
  · rw [bis_done _ _ _ _ (fun z => cx (Int.ofNat_lt.mpr z))] at e4
    rw [← e4] at hk
    exact ⟨_, [], by rw [List.append_nil], hk _ _ et⟩
theorem insR_fc {A : Acc} (la : Addr) (l : List Acc) (nn : Nat) {as : List Acc} (hin : ∀ A ∈ l, A ∈ as) (hA : A ∈ as) (hok : ∀ A ∈ as, A.Ok) (t : AT) (ht : t.Ok) (lo hi : Nat) (hiI : Int) (hh : hiI = hi) (tl th : Tok) (h1 : lo ≤ hi) (h2 : hi ≤ l.length) (h3 : l.length ≤ 100) :
    FC (G2 w) b₀ 8 76 (.ref 30) ⟨[.ref la, A.ref, .int lo tl, .int hiI th], [("key", .ref 204)]⟩ ((la, listOf (vrefs l).toArray nn) :: AL w t as)
      (fun k => ∀ t', AT.Ok t' → k .none ((la, listOf (vrefs (insL l (bisR (keys l) A.key lo hi) A)).toArray (nn + 1)) :: AL w t' as)) := by
  have hv : (vrefs l).length = l.length := List.length_map _
  refine' enterV (D := 7) (U := 73) (tb := tb2) (binds := [("a", .ref la), ("x", A.ref), ("lo", .int lo tl), ("hi", .int hiI th), ("key", .ref 204)]) H.X H.T (tb2_ok w) ?ho ?hcd ?hb ?hl ?h ?h1 ?h2 ?h3 ?h4 ?h5 ?h6
  walk_at "V enter"
  intro k c hk ok hc
  refine IfK.no rfl ?_
  refine ⟨trivial, ?_⟩
  refine op_callT [(la, listOf (vrefs l).toArray nn)] ok (price_fc H hA hok t ht) (by decide) (by decide) (.refl _) ?_
  intro u t' ht'
  refine ⟨trivial, ?_⟩
  refine op_callT [] ok (bisR_fc H A.key u la l nn hin hok t' ht' lo hi hiI hh tl th h2 h3) (by decide) (by decide) (.refl _) ?_
  intro u2 t2 ht2
  intro pl
  refine op_mInsert (.head _) ?_
  refine ⟨trivial, ?_⟩
  have le : bisR (keys l) A.key lo hi ≤ (vrefs l).length := by rw [hv]; exact Nat.le_trans (bis_le _ _ _ _ h1) h2
  refine op_insert .here rfl le (by k_extra "o") ?_
  refine ⟨_, [], by rw [List.append_nil], ?_⟩
  have e : insL (vrefs l) (bisR (keys l) A.key lo hi) A.ref = vrefs (insL l (bisR (keys l) A.key lo hi) A) := by
    unfold insL vrefs; rw [List.map_append, List.map_cons, List.map_take, List.map_drop]
  rw [e]
  exact hk t2 ht2
theorem insL_fc {A : Acc} (la : Addr) (l : List Acc) (nn : Nat) {as : List Acc} (hin : ∀ A ∈ l, A ∈ as) (hA : A ∈ as) (hok : ∀ A ∈ as, A.Ok) (t : AT) (ht : t.Ok) (lo hi : Nat) (hiI : Int) (hh : hiI = hi) (tl th : Tok) (h1 : lo ≤ hi) (h2 : hi ≤ l.length) (h3 : l.length ≤ 100) :
    FC (G2 w) b₀ 8 76 (.ref 48) ⟨[.ref la, A.ref, .int lo tl, .int hiI th], [("key", .ref 204)]⟩ ((la, listOf (vrefs l).toArray nn) :: AL w t as)
      (fun k => ∀ t', AT.Ok t' → k .none ((la, listOf (vrefs (insL l (bisL (keys l) A.key lo hi) A)).toArray (nn + 1)) :: AL w t' as)) := by
  have hv : (vrefs l).length = l.length := List.length_map _
  refine' enterV (D := 7) (U := 73) (tb := tb2) (binds := [("a", .ref la), ("x", A.ref), ("lo", .int lo tl), ("hi", .int hiI th), ("key", .ref 204)]) H.X H.T (tb2_ok w) ?ho ?hcd ?hb ?hl ?h ?h1 ?h2 ?h3 ?h4 ?h5 ?h6
  walk_at "V enter"
  intro k c hk ok hc
  refine IfK.no rfl ?_
  refine ⟨trivial, ?_⟩
  refine op_callT [(la, listOf (vrefs l).toArray nn)] ok (price_fc H hA hok t ht) (by decide) (by decide) (.refl _) ?_
  intro u t' ht'
  refine ⟨trivial, ?_⟩
  refine op_callT [] ok (bisL_fc H A.key u la l nn hin hok t' ht' lo hi hiI hh tl th h2 h3) (by decide) (by decide) (.refl _) ?_
  intro u2 t2 ht2
  intro pl
  refine op_mInsert (.head _) ?_
  refine ⟨trivial, ?_⟩
  have le : bisL (keys l) A.key lo hi ≤ (vrefs l).length := by rw [hv]; exact Nat.le_trans (bis_le _ _ _ _ h1) h2
  refine op_insert .here rfl le (by k_extra "o") ?_
  refine ⟨_, [], by rw [List.append_nil], ?_⟩
  have e : insL (vrefs l) (bisL (keys l) A.key lo hi) A.ref = vrefs (insL l (bisL (keys l) A.key lo hi) A) := by
    unfold insL vrefs; rw [List.map_append, List.map_cons, List.map_take, List.map_drop]
  rw [e]
  exact hk t2 ht2
end
end MineV
end
end

section
noncomputable section
namespace MineV
open PySem PySem.W PyProof.Rows PySem.Calls PySem.Spec
open Mine (Kf accOf)
example : True := by
  k_with "V enter" => (
    (case ho => k_is)
    (case hcd => k_is)
    (case hb => first | exact fun s Xs => BindsTo.of_eq rfl | exact fun s Xs => binds_K Xs rfl (by k_is) rfl rfl rfl)
    (case hl => exact locs rfl)
    (case h1 => decide)
    (case h2 => exact rfl)
    (case h3 => exact rfl)
    (case h4 => exact rfl)
    (case h5 => exact rfl)
    (case h6 => exact rfl))
  trivial
section
variable {y : Gl} {tb : Tab} {nm : List (Str × NameKind)} {b₀ : Heap} {D U : Nat} {c : Cx} {σ : St} {fs : List (Str × Value)} {led : Led} {cs : List (Str × Addr × Option Value)}
theorem Rep.viaN {s : Shared} (R : Rep y c ⟨fs, led, cs⟩ s) : ∃ news, News c.g c.env.locals s.heap news ∧ (∀ p ∈ led, p ∈ news) ∧
    (∀ h' tk, Fr c.g c.env.locals h' R.m → News c.g c.env.locals h' news → Rep y c ⟨fs, led, cs⟩ { s with heap := h', toks := tk }) ∧
    (∀ d o h' tk, Fr c.g c.env.locals h' R.m → News c.g c.env.locals h' ((d, o) :: news) → (∀ p ∈ news, p.1 < d) → Rep y c ⟨fs, (d, o) :: led, cs⟩ { s with heap := h', toks := tk }) := by
  obtain ⟨cl, e1, e2, e3⟩ := cells_led (h := s.heap) cs fun q hq => (R.C q hq).at_
  have Ncl : News c.g c.env.locals s.heap (led ++ c.hid ++ cl) := fun p hp => by
    rcases List.mem_append.mp hp with h | h
    · exact R.N p h
    · have : p.1 ∈ cs.map (·.2.1) := e1 ▸ List.mem_map_of_mem h
      obtain ⟨q, hq, e⟩ := List.mem_map.mp this
      exact ⟨e2 p h, e ▸ (R.C q hq).neL, e ▸ (R.C q hq).new⟩
  have cell : ∀ h', (∀ p ∈ cl, h'.get? p.1 = some p.2) → ∀ q ∈ cs, CellAt c.g c.env.locals c.env h' q := fun h' hh q hq => by
    obtain ⟨oc, a, b⟩ := e3 q hq
    exact ⟨(R.C q hq).look, ⟨oc, hh _ a, b⟩, (R.C q hq).neL, (R.C q hq).new⟩
  refine ⟨_, Ncl, fun p hp => List.mem_append_left _ (List.mem_append_left _ hp), fun h' tk F' N' => ⟨R.d, R.o, R.G, ⟨R.m, F', R.cov⟩, fun p hp => N' p (List.mem_append_left _ hp), cell h' fun p hp => (N' p (List.mem_append_right _ hp)).1, R.n⟩,
    fun d o h' tk F' N' lt => ⟨R.d, R.o, R.G, ⟨R.m, F', R.cov⟩, fun p hp => ?_, cell h' fun p hp => (N' p (.tail _ (List.mem_append_right _ hp))).1, ?_⟩⟩
  · rcases List.mem_cons.mp hp with rfl | hp
    · exact N' _ (.head _)
    · exact N' p (.tail _ (List.mem_append_left _ hp))
  · have n := R.n
    unfold adrs at n ⊢
    refine (List.perm_middle (a := d) (l₁ := cs.map (·.2.1)) (l₂ := (led ++ c.hid).map (·.1))).nodup_iff.mpr (List.nodup_cons.mpr ⟨fun hm => ?_, n⟩)
    rcases List.mem_append.mp hm with h | h
    · rw [← e1] at h
      obtain ⟨p, hp, e⟩ := List.mem_map.mp h
      exact Nat.ne_of_lt (lt p (List.mem_append_right _ hp)) e
    · obtain ⟨p, hp, e⟩ := List.mem_map.mp h
      exact Nat.ne_of_lt (lt p (List.mem_append_left _ hp)) e
theorem op_newTuple {vs : List Value} {K : Value → St → Prop} (hl : vs.length ≤ 1000) (h : ∀ d, K (.ref d) ⟨fs, (d, { cls := .type "tuple", data := .seq vs.toArray }) :: led, cs⟩) : Op y c (newTuple vs) ⟨fs, led, cs⟩ K :=
  ⟨fun s R => wpAny_newTuple ⟨_, R.fresh _ rfl, h _⟩ (Nat.le_trans hl (by decide))⟩
theorem op_addL {a b : Addr} {vs ws : List Value} {n m : Nat} {K : Value → St → Prop} (ha : (a, listOf vs.toArray n) ∈ led) (hb : (b, listOf ws.toArray m) ∈ led) (hz : vs.length + ws.length ≤ 1000) (h : ∀ d, K (.ref d) ⟨fs, (d, listOf (vs ++ ws).toArray 0) :: led, cs⟩) : Op y c (binaryOp .Add (.ref a) (.ref b)) ⟨fs, led, cs⟩ K := by
  refine ⟨fun s R => ?_⟩
  obtain ⟨news, N, hm, k1, k2⟩ := R.viaN
  refine kmk_add_lit R.F N (R.isList (σ := ⟨fs, led, cs⟩) ha) (R.isList (σ := ⟨fs, led, cs⟩) hb) rfl (fun d h' F' N' lt => ⟨_, k2 d _ h' s.toks F' N' lt, h d⟩) ?_
  exact Nat.le_trans hz (by decide)
theorem op_mulL {a : Addr} {vs : List Value} {ns : List Int} {n k : Nat} {u : Tok} {K : Value → St → Prop} (ha : (a, listOf vs.toArray n) ∈ led) (hi : IntsAre vs ns) (hk : k ≤ 100) (hz : vs.length ≤ 100) (h : ∀ d, K (.ref d) ⟨fs, (d, listOf (List.replicate k vs).flatten.toArray 0) :: led, cs⟩) : Op y c (binaryOp .Mult (.ref a) (.int (k : Int) u)) ⟨fs, led, cs⟩ K := by
  refine ⟨fun s R => ?_⟩
  obtain ⟨news, N, hm, k1, k2⟩ := R.viaN
  refine KM.mul R.F N (R.isList (σ := ⟨fs, led, cs⟩) ha) hi (by k_extra "o") (by k_extra "o") ?_ (fun d h' F' N' lt _ _ _ _ _ _ => ⟨_, k2 d _ h' s.toks F' N' lt, h d⟩)
  have : vs.length * (k : Int).toNat ≤ 100 * 100 := Nat.mul_le_mul hz (by simpa using hk)
  k_extra "o"
theorem op_minL {a : Addr} {vs : List Value} {ns : List Int} {n : Nat} {K : Value → St → Prop} (ha : (a, listOf vs.toArray n) ∈ led) (hi : IntsAre vs ns) (hne : 0 < ns.length) (h : ∀ M t, M ∈ ns → (∀ a ∈ ns, M ≤ a) → K (.int M t) ⟨fs, led, cs⟩) : Op y c (call (.builtin "min") [.ref a]) ⟨fs, led, cs⟩ K := by
  refine ⟨fun s R => ?_⟩
  obtain ⟨news, N, hm, k1, k2⟩ := R.viaN
  exact kso_min R.F N (R.isList (σ := ⟨fs, led, cs⟩) ha) hi hne rfl fun h' M t tk F' N' m1 m2 => ⟨_, k1 h' tk F' N', h M t m1 m2⟩
theorem op_addS {a b : Str} {t u : Tok} {K : Value → St → Prop} (ha : a.length ≤ 100000) (hb : b.length ≤ 100000) (h : ∀ t, K (.str (a ++ b) t) σ) : Op y c (binaryOp .Add (.str a t) (.str b u)) σ K :=
  ⟨fun s R => KXadd.add (K := 100000) (L := 100000) ha hb (by decide) fun t' k _ => ⟨σ, R.toks, h t'⟩⟩
theorem op_pow {a n : Int} {t u : Tok} {K : Value → St → Prop} (hn : 0 ≤ n) (hn2 : n ≤ 1000) (ha : a.natAbs < 2 ^ 64) (h : ∀ t, K (.int (a ^ n.toNat) t) σ) : Op y c (binaryOp .Pow (.int a t) (.int n u)) σ K :=
  ⟨fun s R => pow_int_small hn (by k_extra "o") ha ⟨σ, R.toks, h _⟩⟩
theorem op_mulI {a b : Int} {t u : Tok} {K : Value → St → Prop} (ha : a.natAbs < 2 ^ 32) (hb : b.natAbs < 2 ^ 32) (h : ∀ t, K (.int (a * b) t) σ) : Op y c (binaryOp .Mult (.int a t) (.int b u)) σ K :=
  ⟨fun s R => mul_int ⟨σ, R.toks, h _⟩ (IntMulOk.of_left (intBits_le_64 (by k_extra "o") (by k_extra "o")))⟩
end
end MineV
end
end

section
noncomputable section
namespace MineV
open PySem PySem.W PyProof.Rows PySem.Calls PySem.Spec
open Mine (Kf accOf)
example : True := by
  k_with "V enter" => (
    (case ho => k_is)
    (case hcd => k_is)
    (case hb => first | exact fun s Xs => BindsTo.of_eq rfl | exact fun s Xs => binds_K Xs rfl (by k_is) rfl rfl rfl)
    (case hl => exact locs rfl)
    (case h1 => decide)
    (case h2 => exact rfl)
    (case h3 => exact rfl)
    (case h4 => exact rfl)
    (case h5 => exact rfl)
    (case h6 => exact rfl))
  trivial
section
variable {y : Gl} {tb : Tab} {nm : List (Str × NameKind)} {b₀ : Heap} {D U : Nat} {c : Cx} {σ : St} {fs : List (Str × Value)} {led : Led} {cs : List (Str × Addr × Option Value)}
theorem Rep.kept {s : Shared} (R : Rep y c σ s) {h' : Heap} {tk : Nat} (k : ∀ b o, s.heap.get? b = some o → h'.get? b = some o) : Rep y c σ { s with heap := h', toks := tk } :=
  R.move (tl := []) (rest := σ.led) (tl' := []) (.refl _) rfl rfl R.G ND.nil (fun b o _ e => k b o e) fun _ hp => nomatch hp
theorem op_min2 {a b : Int} {t u : Tok} {K : Value → St → Prop} (h : ∀ t, K (.int (min a b) t) σ) : Op y c (call (.builtin "min") [.int a t, .int b u]) σ K :=
  ⟨fun s R => min_two_ints rfl fun h' tk k => ⟨σ, R.kept k, by
    by_cases e : b < a
    · rw [if_pos e]; have := h u; rwa [show min a b = b by k_extra "o"] at this
    · rw [if_neg e]; have := h t; rwa [show min a b = a by k_extra "o"] at this⟩⟩
theorem op_sumL {l : Addr} {vs : List Value} {ns : List Int} {n : Nat} {K : Value → St → Prop} (hm : (l, listOf vs.toArray n) ∈ σ.led) (hi : IntsAre vs ns) (h : ∀ t, K (.int ns.sum t) σ) : Op y c (call (.builtin "sum") [.ref l]) σ K := by
  refine ⟨fun s R => ?_⟩
  obtain ⟨xs, hxs⟩ := (hi.allInts : AllInts vs.toArray).items
  have hl := R.isList hm
  rw [hxs] at hl
  refine sum_intListG rfl hl fun h' tk t' k => ⟨σ, R.kept k, ?_⟩
  rw [preSum_eq, List.take_of_length_le (by simp)]
  have e : numsOf vs.toArray.toList = ns := hi.numsOf
  rw [hxs, nums_intItems] at e
  rw [e]
  exact h t'
theorem op_itemS {value slice : Expr} {x : Str} {t u : Tok} {i : Nat} {k : Int} {K : Value → St → Prop} (hk : k = i) (hi : i < x.length) (hx : x.length ≤ 1000) (hs : ∀ k u, subscripted slice false (.str x t) (.int k u) = operate [.str x t, .int k u] (getItem (.str x t) (.int k u)))
    (hg : ∀ r, letTemporaryGo value (.str x t) r = pure ()) (h : ∀ t, K (.str (Txt.item x k) t) σ) : Op y c (subscriptTail value slice (.str x t) (.int k u)) σ K := by
  subst hk
  exact ⟨fun s R => item_str (fitsSsize_of (N := 9223372036854775808) (by k_extra "o") (by k_extra "o") (Int.le_refl _)) (by k_extra "o") (by k_extra "o") (fun _ => ⟨σ, R.toks, h _⟩) (hs _ _) hg⟩
theorem op_mulS {x : Str} {t u : Tok} {i : Int} {K : Value → St → Prop} (hx : x.length ≤ 16) (h0 : 0 ≤ i) (hi : i ≤ 1000) (h : ∀ t, (Txt.mul x i).length = x.length * i.toNat → K (.str (Txt.mul x i) t) σ) : Op y c (binaryOp .Mult (.str x t) (.int i u)) σ K :=
  ⟨fun s R => KXi.mul rfl hx (by k_extra "o") (by k_extra "o") fun t' k _ e => ⟨σ, R.toks, h t' (by have := e h0; rw [show i = (i.toNat : Int) by k_extra "o"] at this ⊢; rw [Int.toNat_natCast]; exact_mod_cast this)⟩⟩
theorem op_inS {x z : Str} {t u : Tok} {K : Value → St → Prop} (h : K (.bool !(Builtin.Str.occurrences x z 0 x.length 1).isEmpty) σ) : Op y c (compareOp .In (.str z u) (.str x t)) σ K := ⟨fun s R => in_str ⟨σ, R, h⟩⟩
theorem op_notInI {l : Addr} {vs : List Value} {ns : List Int} {n : Nat} {k : Int} {t : Tok} {K : Value → St → Prop} (hm : (l, listOf vs.toArray n) ∈ σ.led) (hi : IntsAre vs ns) (h : K (.bool (!(ns.any (· == k)))) σ) : Op y c (compareOp .NotIn (.int k t) (.ref l)) σ K :=
  ⟨fun s R => notin_list_ints (R.isList hm) hi ⟨σ, R, h⟩⟩
theorem op_neStrs {a b : Addr} {xs ys : List Value} {ns ms : List Str} {n m : Nat} {K : Value → St → Prop} (ok : CxOk y tb nm b₀ D U c) (hu : 64 ≤ U) (ha : (a, listOf xs.toArray n) ∈ σ.led) (hb : (b, listOf ys.toArray m) ∈ σ.led) (hi : StrsAre xs ns) (hj : StrsAre ys ms) (hx : Mine.StrsOk ns) (hy : Mine.StrsOk ms) (h : K (.bool (!decide (ns = ms))) σ) :
    Op y c (compareOp .NotEq (.ref a) (.ref b)) σ K :=
  ⟨fun s R => Mine.ne_strs (R.isList ha) (R.isList hb) hi hj hx hy (by have := ok.unt; show c.un + 64 < _; k_extra "o") ⟨σ, R, h⟩⟩
theorem int_canLayAll0 : ∀ ns : List Int, PyData.canLayAll0 (ns.map PyData.int) = true
  | [] => rfl
  | x :: r => by simp [PyData.canLayAll0, PyData.canLay0, int_canLayAll0 r]
theorem int_depthAll : ∀ ns : List Int, PyData.depthAll (ns.map PyData.int) = 0
  | [] => rfl
  | _ :: r => by simp [PyData.depthAll, PyData.depth, int_depthAll r]
theorem int_shaped (ns : List Int) : SeqAt.shaped (.list (ns.map PyData.int)) = true := by
  simp [SeqAt.shaped, PyData.canLay0, PyData.depth, int_canLayAll0 ns, int_depthAll]
theorem int_sameAll : ∀ ns ms : List Int, PySem.Spec.sameAll (ns.map PyData.int) (ms.map PyData.int) = decide (ns = ms)
  | [], [] => by simp [PySem.Spec.sameAll]
  | [], _ :: _ => by simp [PySem.Spec.sameAll]
  | _ :: _, [] => by simp [PySem.Spec.sameAll]
  | a :: r, b :: t => by
    simp only [List.map_cons, PySem.Spec.sameAll, PySem.Spec.same, int_sameAll r t]
    by_cases h : a = b <;> by_cases h' : r = t <;> simp [h, h']
theorem int_carried : ∀ {vs : List Value} {ns : List Int}, IntsAre vs ns → CarriedAll vs (ns.map PyData.int)
  | _, _, .nil => .nil
  | _, _, .cons _ t r => .cons (.int _ t) (int_carried r)
theorem op_neInts {a b : Addr} {xs ys : List Value} {ns ms : List Int} {n m : Nat} {K : Value → St → Prop} (ok : CxOk y tb nm b₀ D U c) (hu : 64 ≤ U) (ha : (a, listOf xs.toArray n) ∈ σ.led) (hb : (b, listOf ys.toArray m) ∈ σ.led) (hi : IntsAre xs ns) (hj : IntsAre ys ms) (h : K (.bool (!decide (ns = ms))) σ) :
    Op y c (compareOp .NotEq (.ref a) (.ref b)) σ K :=
  ⟨fun s R => ne_dataH_same (reads_newData (R.isList ha) (int_carried hi)) (reads_newData (R.isList hb) (int_carried hj)) (int_shaped _) (int_shaped _) (by have := ok.unt; show c.un + 64 < _; k_extra "o") (SeqAt.noMix_of_shape (.list .int) rfl _ _ (list_map_has fun _ => rfl) (list_map_has fun _ => rfl)) (by simp only [PySem.Spec.same]; rw [int_sameAll]; exact ⟨σ, R, h⟩)⟩
theorem op_tup2 {a b : Str} {pa pb p : Pos} {k : Nat} {t : Addr} {x z : Value} {K : Unit → St → Prop} (ok : CxOk y tb nm b₀ D U c) (ha : nm.lookup a = some .local) (hb : nm.lookup b = some .local) (hm : (t, { cls := .type "tuple", data := .seq #[x, z] }) ∈ led)
    (h : K () ⟨(b, z) :: (a, x) :: fs, led, cs⟩) : Op y c (assign (.Tuple [.Name a pa, .Name b pb] k p) c.env (.ref t)) ⟨fs, led, cs⟩ K := by
  refine ⟨fun s R => ?_⟩
  have ht : IsTup s.heap t #[x, z] := ⟨_, R.get (σ := ⟨fs, led, cs⟩) hm, rfl, 0, rfl⟩
  refine assign_Tuple_tuple rfl ht rfl rfl fun h' he => ?_
  have R1 : Rep y c ⟨fs, led, cs⟩ { s with heap := h' } := R.kept (tk := s.toks) fun b o e => he b o (Nat.ne_of_lt (Heap.lt_size e)) e
  show wpAny _ _ (assignInOrder [assign (.Name a pa) c.env, assign (.Name b pb) c.env] [x, z]) _ _ _
  refine assignInOrder_cons (wpAny_mono ((op_nameT ok ha (K := fun _ σ' => σ' = ⟨(a, x) :: fs, led, cs⟩) rfl).run _ R1) (fun _ s2 ⟨σ2, R2, e2⟩ => ?_) fun _ _ z => z)
  subst e2
  exact assignInOrder_cons (wpAny_mono ((op_nameT ok hb (K := fun _ σ' => σ' = ⟨(b, z) :: (a, x) :: fs, led, cs⟩) rfl).run _ R2) (fun _ s3 ⟨σ3, R3, e3⟩ => assignInOrder_nil ⟨σ3, R3, e3 ▸ h⟩) fun _ _ z => z)
theorem op_ifExp {a b d : Expr} {p : Pos} {K : Value → St → Prop} (ok : CxOk y tb nm b₀ D U c) (h : WPt y tb nm c 20 a σ fun q σ1 => IfK q (WPe y tb nm c 20 b σ1 K) (WPe y tb nm c 20 d σ1 K)) : Op y c (eval (.IfExp a b d p) c.env) σ K := by
  refine ⟨fun s R => wpAny_IfExp (wpAny_mono ((t_ok ok h).run s R) (fun q s1 ⟨σ1, R1, hq⟩ => ?_) fun _ _ x => x)⟩
  cases q with
  | true => rw [if_pos rfl]; exact (e_ok ok 20 _ _ _ (hq.t rfl)).run s1 R1
  | false => rw [if_neg (by decide)]; exact (e_ok ok 20 _ _ _ (hq.f rfl)).run s1 R1
end
end MineV
end
end

section
noncomputable section
namespace MineV
open PySem PySem.W PyProof.Rows PySem.Calls PySem.Spec
open Mine (Kf accOf)
example : True := by
  k_with "V enter" => (
    (case ho => k_is)
    (case hcd => k_is)
    (case hb => first | exact fun s Xs => BindsTo.of_eq rfl | exact fun s Xs => binds_K Xs rfl (by k_is) rfl rfl rfl)
    (case hl => exact locs rfl)
    (case h1 => decide)
    (case h2 => exact rfl)
    (case h3 => exact rfl)
    (case h4 => exact rfl)
    (case h5 => exact rfl)
    (case h6 => exact rfl))
  trivial
example : True := by
  k_with "V enterC" => (
    (case ho => k_is)
    (case hcd => k_is)
    (case hb => first | exact fun s Xs => BindsTo.of_eq rfl | exact fun s Xs => binds_K Xs rfl (by k_is) rfl rfl rfl)
    (case hl => exact rfl)
    (case h1 => decide +kernel)
    (case h2 => exact rfl)
    (case h3 => exact rfl)
    (case h4 => exact rfl)
    (case h5 => exact rfl)
    (case h6 => exact rfl)
    (case h7 => exact rfl))
  trivial
noncomputable def NatsAre (vs : List Value) (ns : List Nat) : Prop := IntsAre vs (ns.map fun n : Nat => (n : Int))
theorem NatsAre.len {vs : List Value} {ns : List Nat} (h : NatsAre vs ns) : vs.length = ns.length := by
  have := IntsAre.length h; rw [List.length_map] at this; exact this
theorem NatsAre.nil : NatsAre [] [] := IntsAre.nil
theorem NatsAre.snoc {vs : List Value} {ns : List Nat} (h : NatsAre vs ns) (n : Nat) (t : Tok) : NatsAre (vs ++ [.int (n : Int) t]) (ns ++ [n]) := by
  unfold NatsAre; rw [List.map_append]; exact ksk_snoc h
theorem NatsAre.one (n : Nat) (t : Tok) : NatsAre [.int (n : Int) t] [n] := .cons _ t .nil
theorem NatsAre.at {vs : List Value} {ns : List Nat} (h : NatsAre vs ns) {i : Nat} (hi : i < ns.length) : ∃ t, vs[i]? = some (.int ((ns.getD i 0 : Nat) : Int) t) := by
  obtain ⟨t, ht⟩ := IntsAre.get h i ((ns.getD i 0 : Nat) : Int) (by rw [List.getElem?_map, List.getElem?_eq_getElem hi, List.getD_eq_getElem?_getD, List.getElem?_eq_getElem hi]; rfl)
  exact ⟨t, ht⟩
theorem NatsAre.is {vs : List Value} {ns : List Nat} (h : NatsAre vs ns) {i : Nat} {v : Value} (e : vs[i]? = some v) : i < ns.length ∧ ∃ t, v = .int ((ns.getD i 0 : Nat) : Int) t := by
  have hi : i < ns.length := by
    rw [← h.len]
    rcases Nat.lt_or_ge i vs.length with k | k
    · exact k
    · rw [List.getElem?_eq_none k] at e; cases e
  obtain ⟨t, ht⟩ := h.at hi
  rw [e] at ht
  exact ⟨hi, t, Option.some.inj ht⟩
theorem NatsAre.app {vs us : List Value} {ns ms : List Nat} (h : NatsAre vs ns) (k : NatsAre us ms) : NatsAre (vs ++ us) (ns ++ ms) := by
  unfold NatsAre at *; rw [List.map_append]
  exact IntsAre.append h k
theorem NatsAre.rep (v : Value) (n : Nat) (t : Tok) (hv : v = .int (n : Int) t) : ∀ k, NatsAre (List.replicate k [v]).flatten (List.replicate k n)
  | 0 => .nil
  | k + 1 => by
    rw [List.replicate_succ, List.replicate_succ, List.flatten_cons, hv]
    exact .cons _ t (by have := NatsAre.rep v n t hv k; rw [hv] at this; exact this)
noncomputable def chS (coin : Nat) (cs : List Nat) (p : Nat) : List Nat :=
  (List.range (cs.length + coin)).map fun b => if coin ≤ b then min ((cs ++ List.replicate coin 1000000).getD b 0) ((cs ++ List.replicate coin 1000000).getD (b - coin) 0 + p) else (cs ++ List.replicate coin 1000000).getD b 0
theorem chS_len (coin : Nat) (cs : List Nat) (p : Nat) : (chS coin cs p).length = cs.length + coin := by unfold chS; rw [List.length_map, List.length_range]
noncomputable def cheapest (ps : List Nat) : List Nat := (List.range 9).map fun m => ([1, 2, 4].foldl (fun cs c => ps.foldl (chS c) cs) [0]).getD (4 * m) 0
noncomputable def csC (a : Nat) (D : Addr) (k p m : Option Value) : List (Str × Addr × Option Value) := [("more", a + 3, m), ("price", a + 2, p), ("coin", a + 1, k), ("costs", a, some (.ref D))]
noncomputable def chO (ps : List Nat) (i : Nat) : List Nat := ([1, 2, 4].take i).foldl (fun cs c => ps.foldl (chS c) cs) [0]
theorem fold_len (c : Nat) : ∀ (ps : List Nat) (cs : List Nat), (ps.foldl (chS c) cs).length = cs.length + ps.length * c
  | [], cs => by simp
  | p :: r, cs => by
    rw [List.foldl_cons, fold_len c r, chS_len, List.length_cons, Nat.add_mul]; k_extra "o"
theorem take_rm {α : Type} (f : Nat → α) {n i : Nat} (h : i < n) : ((List.range n).map f).take (i + 1) = ((List.range n).map f).take i ++ [f i] := by
  have hil : i < ((List.range n).map f).length := by rw [List.length_map, List.length_range]; exact h
  rw [List.take_add_one, List.getElem?_eq_getElem hil, List.getElem_map, List.getElem_range]; rfl
section
variable {w : World} {b₀ : Heap} {loose : List Str} {mean : ExcName → Option Value} {mg mb : Str → Option Value} (H : Hd w b₀ loose mean mg mb)
include H
theorem cheapest_fc (pa : Addr) (pv : List Value) (np : Nat) (ps : List Nat) (hp : NatsAre pv ps) (h5 : ps.length = 5) :
    FC (G2 w) b₀ 2 8 (.ref 209) ⟨[.ref pa], []⟩ [(pa, listOf pv.toArray np)] (fun k => ∀ d out n, NatsAre out (cheapest ps) → k (.ref d) [(d, listOf out.toArray n), (pa, listOf pv.toArray np)]) := by
  have hpl : pv.length = 5 := hp.len.trans h5
  refine' enterVC (D := 1) (U := 5) (tb := tb2) (binds := [("prices", .ref pa)]) H.X H.T (tb2_ok w) ?ho ?hcd ?hb ?hl ?h1 ?h2 ?h ?h3 ?h4 ?h5 ?h6 ?h7
  walk_at "V enterC"
  intro k c a hk ok
  intro t0
  refine op_newList (vs := [_]) (Nat.le_of_ble_eq_true rfl) fun D0 => ?_
  intro t1 t2 t3
  refine op_newList (vs := [_, _, _]) (Nat.le_of_ble_eq_true rfl) fun Dl => ?_
  have hcoins : NatsAre [.int 1 t1, .int 2 t2, .int 4 t3] [1, 2, 4] := .cons 1 t1 (.cons 2 t2 (.cons 4 t3 .nil))
  refine op_forG (fun _ ((D, vs, n, cs, ck, cp, cm) : Addr × List Value × Nat × List Nat × Option Value × Option Value × Option Value) => ⟨[("prices", .ref pa)], [(D, listOf vs.toArray n), (pa, listOf pv.toArray np)], csC a D ck cp cm⟩)
    (fun i (D, vs, n, cs, ck, cp, cm) => NatsAre vs cs ∧ cs = chO ps i ∧ cs.length ≤ 1 + 20 * i) ok (src_list (vs := [.int 1 t1, .int 2 t2, .int 4 t3]) (nn := 0) rfl) (iq := []) rfl ?turn ?done (D0, [.int 0 t0], 0, [0], none, none, none) ⟨.one 0 t0, rfl, Nat.le_of_ble_eq_true rfl⟩ (.of [1, 1, 0] rfl rfl)
  case done =>
    rintro ⟨D, vs, n, cs, ck, cp, cm⟩ ⟨h1, h2, h3⟩
    have hl : cs.length = 36 := by
      rw [h2]
      show (chO ps 3).length = 36
      unfold chO
      show (ps.foldl (chS 4) (ps.foldl (chS 2) (ps.foldl (chS 1) [0]))).length = 36
      rw [fold_len, fold_len, fold_len, h5]; rfl
    have hvl := h1.len
    refine op_comp ok rfl rfl rfl rfl ?_
    intro u1
    refine ⟨trivial, ?_⟩
    refine op_range ?_
    intro r v1 v2 v3
    refine cg_of (cs₂ := [("costs", a, some (.ref D))]) (csR := [("more", a + 3, cm), ("price", a + 2, cp), ("coin", a + 1, ck)]) (fun _ (_ : Unit) => [(D, listOf vs.toArray n), (pa, listOf pv.toArray np)]) (fun i us _ => NatsAre us ((cheapest ps).take i)) ok (src_range (n := 9) (by decide) rfl) rfl rfl rfl rfl rfl (List.perm_append_comm (l₁ := [_, _, _]) (l₂ := [_]))
      (List.forall_mem_cons.mpr ⟨rfl, List.forall_mem_nil _⟩) (by decide) ?turn4 () .nil (.at_ [1, 1, 0] rfl) ?fin4
    case turn4 =>
      rintro c3 K3 K0 i us _ v ok3 hi4 ⟨_, t5, rfl⟩ nx3 sk3 hq
      refine IfK.yes rfl ?_
      intro t6
      refine op_mulI (by decide) (by k_extra "o") fun t7 => ?_
      have hml : 4 * i < cs.length := by k_extra "o"
      obtain ⟨t8, e8⟩ := h1.at hml
      refine op_item (i := 4 * i) (.head _) (by k_extra "o") e8 (by k_extra "o") ?_ (fun _ _ => rfl) fun _ => rfl
      refine nx3 _ _ () ?_ (.of [0, 0] rfl rfl)
      have : (cheapest ps).take (i + 1) = (cheapest ps).take i ++ [cs.getD (4 * i) 0] := by
        unfold cheapest
        rw [take_rm _ hi4, h2]; rfl
      rw [this]
      exact hq.snoc _ _
    rintro D4 C n4 us _ s4 hq hul rl
    refine fin_eval rl ?_
    rw [List.take_of_length_le (by unfold cheapest; rw [List.length_map, List.length_range]; exact Nat.le_refl _)] at hq
    exact .of [0, 1] rfl (hk _ _ _ hq)
  rintro c' K' i ⟨D, vs, n, cs, ck, cp, cm⟩ v ok' _ hi hv nx bk rt ⟨h1, h2, h3⟩
  obtain ⟨hi3, tk, rfl⟩ := hcoins.is hv
  refine op_nameC ok' rfl rfl ?_
  have hco : [1, 2, 4].getD i 0 ≤ 4 := by
    have : i < 3 := hi3
    rcases i with _ | _ | _ | i
    · decide
    · decide
    · decide
    · k_extra "o"
  have hO : chO ps (i + 1) = ps.foldl (chS ([1, 2, 4].getD i 0)) cs := by
    rw [h2]
    have : i < 3 := hi3
    rcases i with _ | _ | _ | i
    · rfl
    · rfl
    · rfl
    · k_extra "o"
  generalize [1, 2, 4].getD i 0 = co at hco hO hv
  refine op_forG (fun _ ((D, vs, n, cs, cp, cm) : Addr × List Value × Nat × List Nat × Option Value × Option Value) => ⟨[("prices", .ref pa)], [(D, listOf vs.toArray n)], csC a D (some (.int (co : Int) tk)) cp cm⟩)
    (fun j (D, vs, n, ds, cp, cm) => NatsAre vs ds ∧ ds = (ps.take j).foldl (chS co) cs ∧ ds.length ≤ 1 + 20 * i + 4 * j) ok' (src_list (vs := pv) (nn := np) rfl) (iq := [0]) rfl ?turn2 ?done2 (D, vs, n, cs, cp, cm) ⟨h1, rfl, h3⟩ (.of [0, 0] rfl rfl)
  case done2 =>
    rintro ⟨D, vs, n, ds, cp, cm⟩ ⟨g1, g2, g3⟩
    rw [hpl] at g2 g3
    rw [List.take_of_length_le (by k_extra "o")] at g2
    exact (nx _ (D, vs, n, ds, some (.int (co : Int) tk), cp, cm) ⟨g1, g2.trans hO.symm, by k_extra "o"⟩ (.of [0, 0] rfl rfl)).1
  rintro c2 K2 j ⟨D, vs, n, ds, cp, cm⟩ v ok2 _ hj hv nx2 bk2 rt2 ⟨g1, g2, g3⟩
  obtain ⟨hj5, tp, rfl⟩ := hp.is hv
  refine op_nameC ok2 rfl rfl ?_
  have hD : (ps.take (j + 1)).foldl (chS co) cs = chS co ds (ps.getD j 0) := by
    rw [List.take_add_one, List.getElem?_eq_getElem hj5, List.foldl_append, ← g2, List.getD_eq_getElem?_getD, List.getElem?_eq_getElem hj5]; rfl
  rw [hD] at nx2
  generalize ps.getD j 0 = pr at nx2
  intro u1 u2
  refine op_pow (by decide) (by decide) (by decide) ?_
  intro u3
  refine op_newList (vs := [_]) (Nat.le_of_ble_eq_true rfl) fun D1 => ?_
  have h6 : ((10 : Int) ^ (6 : Int).toNat) = ((1000000 : Nat) : Int) := rfl
  refine op_mulL (.head _) (.cons _ u3 .nil) (by k_extra "o") (Nat.le_of_ble_eq_true rfl) fun D2 => ?_
  have hr : NatsAre (List.replicate co [Value.int ((10 : Int) ^ (6 : Int).toNat) u3]).flatten (List.replicate co 1000000) := NatsAre.rep _ 1000000 u3 rfl co
  have hrl := hr.len
  rw [List.length_replicate] at hrl
  have hvl := g1.len
  have hi3' : i < 3 := hi3
  have hj5' : j < 5 := by k_extra "o"
  refine op_addL (.tail _ (.tail _ (.head _))) (.head _) (by k_extra "o") fun D3 => ?_
  have hm := g1.app hr
  generalize hws : vs ++ (List.replicate co [Value.int ((10 : Int) ^ (6 : Int).toNat) u3]).flatten = ws at hm
  have hwl := hm.len
  rw [List.length_append, List.length_replicate] at hwl
  refine op_assignE ok2 (swap_no ok2 rfl) ?_
  refine op_comp ok2 rfl rfl rfl rfl ?_
  refine ⟨trivial, ?_⟩
  refine op_len (.head _) (by k_extra "o") ?_
  intro u4
  refine ⟨trivial, ?_⟩
  refine op_range ?_
  intro r v1 v2 v3
  refine cg_of (cs₂ := [("more", a + 3, some (.ref D3)), ("price", a + 2, some (.int (pr : Int) tp)), ("coin", a + 1, some (.int (co : Int) tk))]) (csR := [("costs", a, some (.ref D))]) (fun _ (_ : Unit) => [(D3, listOf ws.toArray 0)]) (fun i us _ => NatsAre us ((chS co ds pr).take i)) ok2 (src_range (by k_extra "o") rfl) rfl rfl rfl rfl rfl (.refl _)
    (List.forall_mem_cons.mpr ⟨rfl, List.forall_mem_cons.mpr ⟨rfl, List.forall_mem_cons.mpr ⟨rfl, List.forall_mem_nil _⟩⟩⟩) (by k_extra "o") ?turn3 () .nil (.at_ [1, 0] rfl) ?fin3
  case turn3 =>
    rintro c3 K3 K0 i us _ v ok3 hi4 ⟨_, t5, rfl⟩ nx3 sk3 hq
    refine IfK.yes rfl ?_
    refine op_ifExp ok3 ?_
    have hC : (chS co ds pr).take (i + 1) = (chS co ds pr).take i ++ [if co ≤ i then min ((ds ++ List.replicate co 1000000).getD i 0) ((ds ++ List.replicate co 1000000).getD (i - co) 0 + pr) else (ds ++ List.replicate co 1000000).getD i 0] := by
      exact take_rm _ (by k_extra "o")
    have hml : i < (ds ++ List.replicate co 1000000).length := by rw [List.length_append, List.length_replicate]; k_extra "o"
    obtain ⟨t6, e6⟩ := hm.at hml
    refine IfK.dec (fun cb => ?_) fun cb => ?_
    · have cb' : co ≤ i := Int.ofNat_le.mp cb
      rw [if_pos cb'] at hC
      refine op_item (.head _) rfl e6 (by k_extra "o") ?_ (fun _ _ => rfl) fun _ => rfl
      intro t7
      have hml2 : i - co < (ds ++ List.replicate co 1000000).length := by k_extra "o"
      obtain ⟨t8, e8⟩ := hm.at hml2
      refine op_item (i := i - co) (.head _) (by show (i : Int) - (co : Int) = _; k_extra "o") e8 (by k_extra "o") ?_ (fun _ _ => rfl) fun _ => rfl
      intro t9
      refine ⟨trivial, ?_⟩
      refine op_min2 fun t10 => ?_
      refine nx3 _ _ () ?_ (.of [0] rfl rfl)
      rw [hC]
      have e : min (((ds ++ List.replicate co 1000000).getD i 0 : Nat) : Int) ((((ds ++ List.replicate co 1000000).getD (i - co) 0 : Nat) : Int) + (pr : Int)) = ((min ((ds ++ List.replicate co 1000000).getD i 0) ((ds ++ List.replicate co 1000000).getD (i - co) 0 + pr) : Nat) : Int) := by k_extra "o"
      rw [e]
      exact hq.snoc _ _
    · have cb' : ¬ co ≤ i := fun z => cb (Int.ofNat_le.mpr z)
      rw [if_neg cb'] at hC
      refine op_item (.head _) rfl e6 (by k_extra "o") ?_ (fun _ _ => rfl) fun _ => rfl
      refine nx3 _ _ () ?_ (.of [0] rfl rfl)
      rw [hC]
      exact hq.snoc _ _
  rintro D4 C n4 us _ s4 hq hul rl
  refine fin_eval rl ?_
  rw [List.take_of_length_le (by rw [chS_len]; k_extra "o")] at hq
  exact (nx2 _ (D4, us, n4, chS co ds pr, some (.int (pr : Int) tp), some (.ref D3)) ⟨hq, rfl, by rw [chS_len]; k_extra "o"⟩ (.of [0] rfl rfl)).1
end
end MineV
end
end

section
noncomputable section
namespace MineV
open PySem PySem.W PyProof.Rows PySem.Calls PySem.Spec
open Mine (Kf accOf)
example : True := by
  k_with "V enter" => (
    (case ho => k_is)
    (case hcd => k_is)
    (case hb => first | exact fun s Xs => BindsTo.of_eq rfl | exact fun s Xs => binds_K Xs rfl (by k_is) rfl rfl rfl)
    (case hl => exact locs rfl)
    (case h1 => decide)
    (case h2 => exact rfl)
    (case h3 => exact rfl)
    (case h4 => exact rfl)
    (case h5 => exact rfl)
    (case h6 => exact rfl))
  trivial
example : True := by
  k_with "V enterC" => (
    (case ho => k_is)
    (case hcd => k_is)
    (case hb => first | exact fun s Xs => BindsTo.of_eq rfl | exact fun s Xs => binds_K Xs rfl (by k_is) rfl rfl rfl)
    (case hl => exact rfl)
    (case h1 => decide +kernel)
    (case h2 => exact rfl)
    (case h3 => exact rfl)
    (case h4 => exact rfl)
    (case h5 => exact rfl)
    (case h6 => exact rfl)
    (case h7 => exact rfl))
  trivial
noncomputable def ps3 : List (Nat × Nat) := [(1, 4), (2, 2), (3, 1)]
noncomputable def cdl (ls : List Nat) (p b : Nat) (l : List (Nat × Nat)) : List Nat := (l.filter fun q => decide (q.2 ≤ b)).map fun q => ls.getD (b - q.2) 0 + p * q.1
noncomputable def shS (ls : List Nat) (p : Nat) : List Nat := (List.range 9).map fun b => ([1000000] ++ cdl ls p b ps3).foldl min 1000000
noncomputable def shortest (ps : List Nat) : Nat := (ps.foldl shS (0 :: List.replicate 8 1000000)).getD 8 0
theorem shS_len (ls : List Nat) (p : Nat) : (shS ls p).length = 9 := by unfold shS; rw [List.length_map, List.length_range]
theorem cdl_snoc (ls : List Nat) (p b : Nat) (l : List (Nat × Nat)) (q : Nat × Nat) : cdl ls p b (l ++ [q]) = cdl ls p b l ++ (if q.2 ≤ b then [ls.getD (b - q.2) 0 + p * q.1] else []) := by
  unfold cdl
  rw [List.filter_append, List.map_append]
  congr 1
  by_cases h : q.2 ≤ b
  · rw [if_pos h, List.filter_cons_of_pos (by simpa using h)]; rfl
  · rw [if_neg h, List.filter_cons_of_neg (by simpa using h)]; rfl
theorem fold_min_le : ∀ (l : List Nat) (m : Nat), l.foldl min m ≤ m ∧ (∀ a ∈ l, l.foldl min m ≤ a) ∧ (l.foldl min m = m ∨ l.foldl min m ∈ l)
  | [], m => ⟨Nat.le_refl _, fun _ h => (nomatch h), .inl rfl⟩
  | x :: r, m => by
    obtain ⟨h1, h2, h3⟩ := fold_min_le r (min m x)
    rw [List.foldl_cons]
    refine ⟨by k_extra "o", fun a ha => ?_, ?_⟩
    · rcases List.mem_cons.mp ha with rfl | ha
      · k_extra "o"
      · exact h2 a ha
    · rcases h3 with h3 | h3
      · rw [h3]
        by_cases e : m ≤ x
        · exact .inl (by k_extra "o")
        · exact .inr (by rw [show min m x = x by k_extra "o"]; exact .head _)
      · exact .inr (.tail _ h3)
theorem min_is {ns : List Nat} {M : Int} (h0 : 1000000 ∈ ns) (h1 : M ∈ ns.map fun n : Nat => (n : Int)) (h2 : ∀ a ∈ ns.map (fun n : Nat => (n : Int)), M ≤ a) : M = ((ns.foldl min 1000000 : Nat) : Int) := by
  obtain ⟨a1, a2, a3⟩ := fold_min_le ns 1000000
  obtain ⟨n, hn, rfl⟩ := List.mem_map.mp h1
  have b1 := a2 n hn
  have b2 : ns.foldl min 1000000 ∈ ns := a3.elim (fun e => by rw [e]; exact h0) id
  have b3 := h2 _ (List.mem_map_of_mem b2)
  have : n ≤ ns.foldl min 1000000 := Int.ofNat_le.mp b3
  exact congrArg _ (by k_extra "o")
noncomputable def csS (a : Nat) (D : Addr) (p : Option Value) : List (Str × Addr × Option Value) := [("price", a + 1, p), ("least", a, some (.ref D))]
section
variable {w : World} {b₀ : Heap} {loose : List Str} {mean : ExcName → Option Value} {mg mb : Str → Option Value} (H : Hd w b₀ loose mean mg mb)
include H
theorem shortest_fc (pa : Addr) (pv : List Value) (np : Nat) (ps : List Nat) (hp : NatsAre pv ps) (h5 : ps.length = 5) (hpm : ∀ p ∈ ps, p ≤ 1000) :
    FC (G2 w) b₀ 2 8 (.ref 214) ⟨[.ref pa], []⟩ [(pa, listOf pv.toArray np)] (fun k => ∀ t, k (.int (shortest ps : Nat) t) [(pa, listOf pv.toArray np)]) := by
  have hpl : pv.length = 5 := hp.len.trans h5
  refine' enterVC (D := 1) (U := 5) (tb := tb2) (binds := [("prices", .ref pa)]) H.X H.T (tb2_ok w) ?ho ?hcd ?hb ?hl ?h1 ?h2 ?h ?h3 ?h4 ?h5 ?h6 ?h7
  walk_at "V enterC"
  intro k c a hk ok
  intro t0
  refine op_newList (vs := [_]) (Nat.le_of_ble_eq_true rfl) fun D0 => ?_
  intro t1 t2
  refine op_pow (by decide) (by decide) (by decide) fun t3 => ?_
  refine op_newList (vs := [_]) (Nat.le_of_ble_eq_true rfl) fun D1 => ?_
  intro t4
  refine op_mulL (k := 8) (.head _) (.cons _ t3 .nil) (by decide) (Nat.le_of_ble_eq_true rfl) fun D2 => ?_
  refine op_addL (.tail _ (.tail _ (.head _))) (.head _) (Nat.le_of_ble_eq_true rfl) fun D3 => ?_
  have hm : NatsAre ([Value.int 0 t0] ++ (List.replicate 8 [Value.int ((10 : Int) ^ (6 : Int).toNat) t3]).flatten) (0 :: List.replicate 8 1000000) := (NatsAre.one 0 t0).app (NatsAre.rep _ 1000000 t3 rfl 8)
  generalize ([Value.int 0 t0] ++ (List.replicate 8 [Value.int ((10 : Int) ^ (6 : Int).toNat) t3]).flatten) = ws at hm ⊢
  refine op_forG (fun _ ((D, vs, n, ls, cp) : Addr × List Value × Nat × List Nat × Option Value) => ⟨[("prices", .ref pa)], [(D, listOf vs.toArray n)], csS a D cp⟩)
    (fun j (D, vs, n, ls, cp) => NatsAre vs ls ∧ ls = (ps.take j).foldl shS (0 :: List.replicate 8 1000000) ∧ ls.length = 9) ok (src_list (vs := pv) (nn := np) rfl) (iq := [0]) rfl ?turn ?done (D3, ws, 0, 0 :: List.replicate 8 1000000, none) ⟨hm, rfl, rfl⟩ (.of [0, 3] rfl rfl)
  case done =>
    rintro ⟨D, vs, n, ls, cp⟩ ⟨g1, g2, g3⟩
    rw [hpl] at g2
    rw [List.take_of_length_le (by k_extra "o")] at g2
    obtain ⟨t, e⟩ := g1.at (i := 8) (by k_extra "o")
    have hvl := g1.len
    intro t5
    refine op_item (i := 8) (.head _) rfl e (by k_extra "o") ?_ (fun _ _ => rfl) fun _ => rfl
    refine .of [1] rfl ?_
    rw [g2]
    exact hk t
  rintro c2 K2 j ⟨D, vs, n, ls, cp⟩ v ok2 _ hj hv nx2 bk2 rt2 ⟨g1, g2, g3⟩
  obtain ⟨hj5, tp, rfl⟩ := hp.is hv
  refine op_nameC ok2 rfl rfl ?_
  have hD : (ps.take (j + 1)).foldl shS (0 :: List.replicate 8 1000000) = shS ls (ps.getD j 0) := by
    rw [List.take_add_one, List.getElem?_eq_getElem hj5, List.foldl_append, ← g2, List.getD_eq_getElem?_getD, List.getElem?_eq_getElem hj5]; rfl
  rw [hD] at nx2
  have hpr : ps.getD j 0 ≤ 1000 := by
    rw [List.getD_eq_getElem?_getD, List.getElem?_eq_getElem hj5]; exact hpm _ (List.getElem_mem hj5)
  generalize ps.getD j 0 = pr at nx2 hpr
  have hvl := g1.len
  refine op_assignE ok2 (swap_no ok2 rfl) ?_
  refine op_comp1 ok2 rfl rfl rfl rfl ?_
  intro u1
  refine ⟨trivial, ?_⟩
  refine op_range ?_
  intro r v1 v2 v3
  refine cg_of1 (xb := "b") (cs₂ := [("price", a + 1, some (.int (pr : Int) tp)), ("least", a, some (.ref D))]) (csR := []) (fun _ (_ : Unit) => [(D, listOf vs.toArray n)]) (fun i us _ => NatsAre us ((shS ls pr).take i)) ok2 (src_range (n := 9) (by decide) rfl) rfl (fun _ _ => rfl) (fun _ => rfl) rfl rfl (.refl _)
    (fun _ => List.forall_mem_cons.mpr ⟨rfl, List.forall_mem_cons.mpr ⟨rfl, List.forall_mem_nil _⟩⟩) (by decide) ?turn3 () .nil (.at_ [1, 0] rfl) ?fin3
  case turn3 =>
    rintro c3 K3 K0 i us _ v b u ok3 hi4 ⟨_, t5, rfl⟩ nx3 sk3 hq
    refine op_nameC ok3 rfl rfl ?_
    refine IfK.yes rfl ?_
    intro u2 u3
    refine op_pow (by decide) (by decide) (by decide) fun u4 => ?_
    refine op_newList (vs := [_]) (Nat.le_of_ble_eq_true rfl) fun D4 => ?_
    refine op_comp ok3 rfl rfl rfl rfl ?_
    intro w1 w2
    refine op_newTuple (vs := [_, _]) (Nat.le_of_ble_eq_true rfl) fun T1 => ?_
    intro w3 w4
    refine op_newTuple (vs := [_, _]) (Nat.le_of_ble_eq_true rfl) fun T2 => ?_
    intro w5 w6
    refine op_newTuple (vs := [_, _]) (Nat.le_of_ble_eq_true rfl) fun T3 => ?_
    refine op_newList (vs := [_, _, _]) (Nat.le_of_ble_eq_true rfl) fun D6 => ?_
    refine cg_ofG (cs₂ := [("b", b, some (.int (i : Int) t5)), ("price", a + 1, some (.int (pr : Int) tp)), ("least", a, some (.ref D))]) (csR := []) (fun _ (_ : Unit) => [(T1, { cls := .type "tuple", data := .seq #[.int 1 w1, .int 4 w2] }), (T2, { cls := .type "tuple", data := .seq #[.int 2 w3, .int 2 w4] }), (T3, { cls := .type "tuple", data := .seq #[.int 3 w5, .int 1 w6] }), (D, listOf vs.toArray n), (D4, listOf #[Value.int ((10 : Int) ^ (6 : Int).toNat) u4] 0)])
      (fun m xs _ => NatsAre xs (cdl ls pr i (ps3.take m))) ok3 (src_list (vs := [.ref T1, .ref T2, .ref T3]) (nn := 0) rfl) rfl rfl rfl rfl (.refl _)
      (List.forall_mem_cons.mpr ⟨rfl, List.forall_mem_cons.mpr ⟨rfl, List.forall_mem_cons.mpr ⟨rfl, List.forall_mem_nil _⟩⟩⟩) (Nat.le_of_ble_eq_true rfl) ?turn5 () .nil (.at_ [3, 2, 1, 2, 1, 0] rfl) ?fin5
    case turn5 =>
      rintro c5 K5 K6 m xs _ v ok5 hm3 hv5 nx5 sk5 hq5
      have hpick : ∃ T M S tm ts, v = .ref T ∧ ps3[m]? = some (M, S) ∧ M ≤ 3 ∧ S ≤ 4 ∧ (T, ({ cls := .type "tuple", data := .seq #[.int ((M : Nat) : Int) tm, .int ((S : Nat) : Int) ts] } : Obj)) ∈ [(T1, ({ cls := .type "tuple", data := .seq #[.int 1 w1, .int 4 w2] } : Obj)), (T2, { cls := .type "tuple", data := .seq #[.int 2 w3, .int 2 w4] }), (T3, { cls := .type "tuple", data := .seq #[.int 3 w5, .int 1 w6] }), (D, listOf vs.toArray n), (D4, listOf #[Value.int ((10 : Int) ^ (6 : Int).toNat) u4] 0)] := by
        have hm3' : m < 3 := hm3
        rcases m with _ | _ | _ | m
        · cases hv5; exact ⟨T1, 1, 4, w1, w2, rfl, rfl, by decide, by decide, .head _⟩
        · cases hv5; exact ⟨T2, 2, 2, w3, w4, rfl, rfl, by decide, by decide, .tail _ (.head _)⟩
        · cases hv5; exact ⟨T3, 3, 1, w5, w6, rfl, rfl, by decide, by decide, .tail _ (.tail _ (.head _))⟩
        · k_extra "o"
      obtain ⟨T, M, S, tm, ts, rfl, eM, hM, hS, hmem⟩ := hpick
      refine op_tup2 ok5 rfl rfl hmem ?_
      have hC : cdl ls pr i (ps3.take (m + 1)) = cdl ls pr i (ps3.take m) ++ (if S ≤ i then [ls.getD (i - S) 0 + pr * M] else []) := by
        rw [List.take_add_one, eM]; exact cdl_snoc ls pr i _ (M, S)
      refine IfK.dec (fun cb => ?_) fun cb => ?_
      · have cb' : S ≤ i := Int.ofNat_le.mp cb
        rw [if_pos cb'] at hC
        obtain ⟨t8, e8⟩ := g1.at (i := i - S) (by k_extra "o")
        intro t7
        refine op_item (i := i - S) (.tail _ (.tail _ (.tail _ (.head _)))) (by show (i : Int) - (S : Int) = _; k_extra "o") e8 (by k_extra "o") ?_ (fun _ _ => rfl) fun _ => rfl
        refine op_mulI (by k_extra "o") (by k_extra "o") fun t9 => ?_
        intro t10
        refine nx5 _ _ () ?_ (.s rfl)
        rw [hC]
        have e : ((ls.getD (i - S) 0 : Nat) : Int) + (pr : Int) * (M : Int) = ((ls.getD (i - S) 0 + pr * M : Nat) : Int) := by rw [Int.natCast_add, Int.natCast_mul]
        show NatsAre (xs ++ [Value.int (((ls.getD (i - S) 0 : Nat) : Int) + (pr : Int) * (M : Int)) t10]) _
        rw [e]
        exact hq5.snoc _ _
      · have cb' : ¬ S ≤ i := fun z => cb (Int.ofNat_le.mpr z)
        rw [if_neg cb', List.append_nil] at hC
        refine sk5 _ () ?_ (.s rfl)
        rw [hC]; exact hq5
    rintro D7 C7 n7 xs _ s7 hq7 hxl rl7
    refine fin_eval rl7 ?_
    change NatsAre xs (cdl ls pr i ps3) at hq7
    have hxl' : xs.length ≤ 3 := hxl
    refine op_addL (vs := [Value.int ((10 : Int) ^ (6 : Int).toNat) u4]) (n := 0) (m := n7) (.tail _ (.tail _ (.tail _ (.tail _ (.tail _ (.head _)))))) (.head _) (by simp only [List.length_cons, List.length_nil]; k_extra "o") fun D8 => ?_
    refine ⟨trivial, ?_⟩
    have hall : NatsAre ([Value.int ((10 : Int) ^ (6 : Int).toNat) u4] ++ xs) ([1000000] ++ cdl ls pr i ps3) := (NatsAre.one 1000000 u4).app hq7
    refine op_minL (.head _) hall (by simp) fun M tM m1 m2 => ?_
    rw [min_is (.head _) m1 m2]
    refine nx3 _ _ () _ ?_ (.of [5] rfl rfl)
    unfold shS
    rw [take_rm _ hi4]
    exact hq.snoc _ _
  rintro D5 C n5 us _ s5 hq hul rl
  refine fin_eval rl ?_
  rw [List.take_of_length_le (by rw [shS_len]; exact Nat.le_refl _)] at hq
  exact (nx2 _ (D5, us, n5, shS ls pr, some (.int (pr : Int) tp)) ⟨hq, rfl, shS_len _ _⟩ (.of [0] rfl rfl)).1
end
end MineV
end
end

section
noncomputable section
namespace MineV
open PySem PySem.W PyProof.Rows PySem.Calls PySem.Spec
open Mine (Kf accOf)
example : True := by
  k_with "V enter" => (
    (case ho => k_is)
    (case hcd => k_is)
    (case hb => first | exact fun s Xs => BindsTo.of_eq rfl | exact fun s Xs => binds_K Xs rfl (by k_is) rfl rfl rfl)
    (case hl => exact locs rfl)
    (case h1 => decide)
    (case h2 => exact rfl)
    (case h3 => exact rfl)
    (case h4 => exact rfl)
    (case h5 => exact rfl)
    (case h6 => exact rfl))
  trivial
noncomputable def inQ (x : Str) : Bool := !(Builtin.Str.occurrences "\"\\" x 0 ("\"\\" : Str).length 1).isEmpty
noncomputable def whiteOf (z : Int) : Str := Txt.mul (Txt.item " \t\r\n" ((z.fdiv 12).fmod 4)) (1 + z.fmod 6)
noncomputable def wordOf (nm : Str) (z : Int) : Str := if ((z.fdiv 6).fmod 2 == 1) = true then "\"" ++ (if inQ (Txt.item nm 0) = true then "\\" ++ nm else nm) ++ "\"" else "\\" ++ nm
section
variable {w : World} {b₀ : Heap} {loose : List Str} {mean : ExcName → Option Value} {mg mb : Str → Option Value} (H : Hd w b₀ loose mean mg mb)
include H
theorem pieces_fc (na ma : Addr) (nv mv : List Value) (nn mm : Nat) (ns : List Int) (ms : List Str) (hn : IntsAre nv ns) (hm : StrsAre mv ms) (h5 : ns.length = 5) (h6 : ms.length = 5) (hl : ∀ s ∈ ms, 1 ≤ s.length ∧ s.length ≤ 10) :
    FC (G2 w) b₀ 2 8 (.ref 197) ⟨[.ref na, .ref ma], []⟩ [(na, listOf nv.toArray nn), (ma, listOf mv.toArray mm)]
      (fun k => ∀ d (its : List It) n, its.length = 5 → (∀ i < 5, ∃ it, its[i]? = some it ∧ it.a = whiteOf (ns.getD i 0) ∧ it.b = wordOf (ms.getD i "") (ns.getD i 0)) →
        k (.ref d) ((d, listOf (its.map fun i => Value.ref i.p).toArray n) :: its.map It.cell ++ [(na, listOf nv.toArray nn), (ma, listOf mv.toArray mm)])) := by
  have hnl : nv.length = 5 := (IntsAre.length hn).trans h5
  have hml : mv.length = 5 := hm.len_eq.trans h6
  refine' enterV (D := 1) (U := 5) (tb := tb2) (binds := [("numbers", .ref na), ("names", .ref ma)]) H.X H.T (tb2_ok w) ?ho ?hcd ?hb ?hl ?h ?h1 ?h2 ?h3 ?h4 ?h5 ?h6
  walk_at "V enter"
  intro k c hk ok hc
  refine op_newList (vs := []) (Nat.le_of_ble_eq_true rfl) fun D0 => ?_
  intro t0
  refine ⟨trivial, ?_⟩
  refine op_range ?_
  intro r u1 u2 u3
  refine op_forG (fun _ ((its, n) : List It × Nat) => ⟨[("pieces", .ref D0), ("names", .ref ma), ("numbers", .ref na)], (D0, listOf (its.map fun i => Value.ref i.p).toArray n) :: its.map It.cell ++ [(na, listOf nv.toArray nn), (ma, listOf mv.toArray mm)], []⟩)
    (fun j (its, n) => its.length = j ∧ ∀ i < j, ∃ it, its[i]? = some it ∧ it.a = whiteOf (ns.getD i 0) ∧ it.b = wordOf (ms.getD i "") (ns.getD i 0)) ok (src_range (n := 5) (by decide) rfl) (iq := []) rfl ?turn ?done ([], 0) ⟨rfl, fun i h => absurd h (Nat.not_lt_zero _)⟩ (.of [1, 1, 1, 0] rfl rfl)
  case done =>
    rintro ⟨its, n⟩ ⟨g1, g2⟩
    exact ⟨_, [], .refl _, hk D0 its n g1 g2⟩
  rintro c2 K2 j ⟨its, n⟩ v ok2 _ hj ⟨_, tj, rfl⟩ nx bk rt ⟨g1, g2⟩
  refine op_nameT ok2 rfl ?_
  dsimp only
  have hjn : j < ns.length := by k_extra "o"
  obtain ⟨tz, ez⟩ := IntsAre.get hn j (ns.getD j 0) (by rw [List.getElem?_eq_getElem hjn, List.getD_eq_getElem?_getD, List.getElem?_eq_getElem hjn]; rfl)
  have hjm : j < ms.length := by k_extra "o"
  have hnm : 1 ≤ (ms.getD j "").length ∧ (ms.getD j "").length ≤ 10 := by
    rw [List.getD_eq_getElem?_getD, List.getElem?_eq_getElem hjm]; exact hl _ (List.getElem_mem hjm)
  have hW : ∀ it : It, it.a = whiteOf (ns.getD j 0) → it.b = wordOf (ms.getD j "") (ns.getD j 0) → ∀ i < j + 1, ∃ x, (its ++ [it])[i]? = some x ∧ x.a = whiteOf (ns.getD i 0) ∧ x.b = wordOf (ms.getD i "") (ns.getD i 0) := fun it e1 e2 i hi => by
    by_cases e : i < j
    · obtain ⟨x, ex, r⟩ := g2 i e
      exact ⟨x, by rw [List.getElem?_append_left (by k_extra "o")]; exact ex, r⟩
    · have : i = j := by k_extra "o"
      subst this
      exact ⟨it, by rw [List.getElem?_append_right (by k_extra "o"), g1]; simp, e1, e2⟩
  generalize ns.getD j 0 = z at ez hW
  generalize hnme : ms.getD j "" = nm at hnm hW
  have f1 : 0 ≤ (z.fdiv 12).fmod 4 ∧ (z.fdiv 12).fmod 4 < 4 := ⟨Int.fmod_nonneg_of_pos _ (by decide), Int.fmod_lt_of_pos _ (by decide)⟩
  have f2 : 0 ≤ z.fmod 6 ∧ z.fmod 6 < 6 := ⟨Int.fmod_nonneg_of_pos _ (by decide), Int.fmod_lt_of_pos _ (by decide)⟩
  have mn : ∀ o : Addr × Obj, (na, listOf nv.toArray nn) ∈ o :: (its.map It.cell ++ [(na, listOf nv.toArray nn), (ma, listOf mv.toArray mm)]) := fun o => .tail _ (List.mem_append_right _ (.head _))
  have mk : ∀ o : Addr × Obj, (ma, listOf mv.toArray mm) ∈ o :: (its.map It.cell ++ [(na, listOf nv.toArray nn), (ma, listOf mv.toArray mm)]) := fun o => .tail _ (List.mem_append_right _ (.tail _ (.head _)))
  intro t1
  refine op_item (mn _) rfl ez (by k_extra "o") ?_ (fun _ _ => rfl) fun _ => rfl
  intro t2
  refine op_fdiv rfl rfl fun t3 => ?_
  intro t4
  refine op_mod rfl fun t5 => ?_
  refine op_itemS (i := ((z.fdiv 12).fmod 4).toNat) (by k_extra "o") (show ((z.fdiv 12).fmod 4).toNat < 4 by k_extra "o") (Nat.le_of_ble_eq_true rfl) (fun _ _ => rfl) (fun _ => rfl) fun t6 => ?_
  intro t7
  refine op_item (mn _) rfl ez (by k_extra "o") ?_ (fun _ _ => rfl) fun _ => rfl
  intro t8
  refine op_mod rfl fun t9 => ?_
  intro t10
  refine op_mulS (i := 1 + z.fmod 6) (by rw [len_item]; decide) (by k_extra "o") (by k_extra "o") fun t12 hlw => ?_
  rw [len_item] at hlw
  intro t13
  refine op_item_strs (mk _) hm rfl (by k_extra "o") (by k_extra "o") ?_ rfl rfl
  rw [hnme]
  intro t15
  have hbs : ("\\" : Str).length = 1 := rfl
  have hqs : ("\"" : Str).length = 1 := rfl
  refine op_addS (by rw [hbs]; decide) (by k_extra "o") fun t16 => ?_
  have hbl : (("\\" : Str) ++ nm).length = 1 + nm.length := by rw [PySem.Str.length_append, hbs]
  have last : ∀ T TW, ((D0, listOf (its.map (fun i => Value.ref i.p) ++ [Value.ref T]).toArray (n + 1)) :: (T, ({ cls := .type "tuple", data := .seq #[.str (whiteOf z) t12, .str (wordOf nm z) TW] } : Obj)) :: (its.map It.cell ++ [(na, listOf nv.toArray nn), (ma, listOf mv.toArray mm)])).Perm
      ((D0, listOf ((its ++ [(⟨T, whiteOf z, wordOf nm z, t12, TW⟩ : It)]).map fun i => Value.ref i.p).toArray (n + 1)) :: ((its ++ [(⟨T, whiteOf z, wordOf nm z, t12, TW⟩ : It)]).map It.cell) ++ [(na, listOf nv.toArray nn), (ma, listOf mv.toArray mm)]) := fun T TW => by
    rw [List.map_append, List.map_append]
    refine .cons _ ?_
    show List.Perm _ ((its.map It.cell ++ [_]) ++ _)
    rw [List.append_assoc]
    exact List.perm_middle.symm
  refine op_item (mn _) rfl ez (by k_extra "o") ?_ (fun _ _ => rfl) fun _ => rfl
  intro t18
  refine op_fdiv rfl rfl fun t19 => ?_
  intro t20
  refine op_mod rfl fun t21 => ?_
  intro t22
  refine IfK.mk (fun c1 => ?_) fun c1 => ?_
  · have hw : wordOf nm z = "\"" ++ (if inQ (Txt.item nm 0) = true then "\\" ++ nm else nm) ++ "\"" := if_pos c1
    intro t23
    refine op_ifExp ok2 ?_
    refine op_item_strs (mk _) hm rfl (by k_extra "o") (by k_extra "o") ?_ rfl rfl
    rw [hnme]
    intro t24 t24'
    refine op_itemS (x := nm) (i := 0) rfl (by k_extra "o") (by k_extra "o") ?ha ?hb fun t25 => ?_
    case ha => exact fun _ _ => rfl
    case hb => exact fun _ => rfl
    intro t26
    refine op_inS ?_
    refine IfK.mk (fun cq => ?_) fun cq => ?_
    · rw [if_pos (show inQ (Txt.item nm 0) = true from cq)] at hw
      refine op_addS (by rw [hqs]; decide) (by k_extra "o") fun t27 => ?_
      have hl1 : (("\"" : Str) ++ ("\\" ++ nm)).length = 1 + (1 + nm.length) := by rw [PySem.Str.length_append, hqs, hbl]
      intro t28
      refine op_addS (by k_extra "o") (by rw [hqs]; decide) fun t29 => ?_
      rw [← hw]
      intro pl
      refine op_mAppend (.head _) ?_
      refine op_newTuple (vs := [_, _]) (Nat.le_of_ble_eq_true rfl) fun T => ?_
      refine ⟨trivial, ?_⟩
      refine op_append (.there .here) (by rw [List.length_map]; k_extra "o") ?_
      refine (nx _ (its ++ [⟨T, whiteOf z, wordOf nm z, t12, t29⟩], n + 1) ⟨by rw [List.length_append, g1]; rfl, hW _ rfl rfl⟩ (.p (r := []) rfl ?_)).1
      rw [List.append_nil]
      exact last T t29
    · rw [if_neg (show ¬ inQ (Txt.item nm 0) = true by rw [show inQ (Txt.item nm 0) = false from cq]; decide)] at hw
      refine op_item_strs (mk _) hm rfl (by k_extra "o") (by k_extra "o") ?_ rfl rfl
      rw [hnme]
      intro t30
      refine op_addS (by rw [hqs]; decide) (by k_extra "o") fun t27 => ?_
      have hl1 : (("\"" : Str) ++ nm).length = 1 + nm.length := by rw [PySem.Str.length_append, hqs]
      intro t28
      refine op_addS (by k_extra "o") (by rw [hqs]; decide) fun t29 => ?_
      rw [← hw]
      intro pl
      refine op_mAppend (.head _) ?_
      refine op_newTuple (vs := [_, _]) (Nat.le_of_ble_eq_true rfl) fun T => ?_
      refine ⟨trivial, ?_⟩
      refine op_append (.there .here) (by rw [List.length_map]; k_extra "o") ?_
      refine (nx _ (its ++ [⟨T, whiteOf z, wordOf nm z, t12, t29⟩], n + 1) ⟨by rw [List.length_append, g1]; rfl, hW _ rfl rfl⟩ (.p (r := []) rfl ?_)).1
      rw [List.append_nil]
      exact last T t29
  · change ((z.fdiv 6).fmod 2 == 1) = false at c1
    have hw : wordOf nm z = "\\" ++ nm := if_neg (by rw [c1]; decide)
    rw [← hw]
    intro pl
    refine op_mAppend (.head _) ?_
    refine op_newTuple (vs := [_, _]) (Nat.le_of_ble_eq_true rfl) fun T => ?_
    refine ⟨trivial, ?_⟩
    refine op_append (.there .here) (by rw [List.length_map]; k_extra "o") ?_
    refine (nx _ (its ++ [⟨T, whiteOf z, wordOf nm z, t12, t16⟩], n + 1) ⟨by rw [List.length_append, g1]; rfl, hW _ rfl rfl⟩ (.p (r := []) rfl ?_)).1
    rw [List.append_nil]
    exact last T t16
end
end MineV
end
end

section
noncomputable section
namespace MineV
open PySem PySem.W PyProof.Rows PySem.Calls PySem.Spec
open Mine (Kf accOf)
example : True := by
  k_with "V enter" => (
    (case ho => k_is)
    (case hcd => k_is)
    (case hb => first | exact fun s Xs => BindsTo.of_eq rfl | exact fun s Xs => binds_K Xs rfl (by k_is) rfl rfl rfl)
    (case hl => exact locs rfl)
    (case h1 => decide)
    (case h2 => exact rfl)
    (case h3 => exact rfl)
    (case h4 => exact rfl)
    (case h5 => exact rfl)
    (case h6 => exact rfl))
  trivial
section
variable {y : Gl} {tb : Tab} {nm : List (Str × NameKind)} {b₀ : Heap} {D U : Nat} {c : Cx} {σ : St} {fs : List (Str × Value)} {led rest : Led} {cs : List (Str × Addr × Option Value)}
theorem src_str {prog : Program} {w : World} {A : Around} {x : Str} {t : Tok} (hh : A.handled = none) (s : Shared) : SrcK prog w A s (.str x t) x.cps.size (SignAt x) [] := by
  intro Q E h
  cases ha : x.cps.all (· < 128)
  · refine wpAny_pyIter_wide ha (h _ _ _ (Walks.strWide hh _ x t) ⟨_, Heap.get?_push_size _ rfl, rfl, rfl⟩ (fun b hb => .inl (List.mem_singleton.mp hb)) ⟨fun i h st => ?_, rfl⟩)
    obtain ⟨o, ho, hc, _⟩ := st
    exact ⟨o, ho, ⟨_, hc, by decide⟩⟩
  · refine wpAny_pyIter_ascii ha (h _ _ _ (Walks.strAscii hh _ x t) ⟨_, Heap.get?_push_size _ rfl, rfl, rfl⟩ (fun b hb => .inl (List.mem_singleton.mp hb)) ⟨fun i h st => ?_, rfl⟩)
    obtain ⟨o, ho, hc, _⟩ := st
    exact ⟨o, ho, ⟨_, hc, by decide⟩⟩
theorem op_range3 {a b d : Int} {t u v : Tok} {K : Value → St → Prop} (hd : d ≠ 0) (hb : b.natAbs < 1000) (ha : a.natAbs < 1000) (hd2 : d.natAbs < 1000) (h : ∀ r, K (.ref r) ⟨fs, (r, rangeOf a b d t u v) :: led, cs⟩) : Op y c (call (.type "range") [.int a t, .int b u, .int d v]) ⟨fs, led, cs⟩ K :=
  ⟨fun s R => call_range_3 hd ⟨_, (R.fresh _ rfl).toks (tk := s.toks), h _⟩ (.inl (PyProof.noPylong_small (by k_extra "o")))⟩
theorem rangeSize_two (L : Nat) : Builtin.Range.rangeSize 0 ((L : Int) - 1) 2 = ((L / 2 : Nat) : Int) := by
  unfold Builtin.Range.rangeSize
  rcases Nat.lt_or_ge L 2 with h | h
  · have : L = 0 ∨ L = 1 := by k_extra "o"
    rcases this with rfl | rfl <;> decide
  · simp only [show (2 : Int) > 0 by decide, if_true]
    split
    · k_extra "o"
    · k_extra "o"
theorem src_range2 {prog : Program} {w : World} {A : Around} {L : Nat} {r : Addr} {a u v : Tok} (hL : L ≤ 100) (hh : A.handled = none) (s : Shared) (hr : ∀ p ∈ [(r, rangeOf 0 ((L : Int) - 1) 2 a u v)], s.heap.get? p.1 = some p.2) :
    SrcK prog w A s (.ref r) (L / 2) (fun i x => i < L / 2 ∧ ∃ t, x = .int ((2 * i : Nat) : Int) t) [(r, rangeOf 0 ((L : Int) - 1) 2 a u v)] := by
  intro Q E h
  have hr' : IsRange s.heap r 0 ((L : Int) - 1) 2 a u v := hr _ (.head _)
  refine wpAny_pyIter_range hr' ?_ ?_
  · unfold Builtin.Range.small
    rw [rangeSize_two]
    simp [Builtin.Range.rangeFitsLong]; k_extra "o"
  have W : Walks prog w A s.heap.objs.size [s.heap.objs.size] [s.heap.objs.size] (L / 2) (fun i v => i < L / 2 ∧ ∃ t, v = .int (0 + i * 2) t)
      (fun i h => IsRangeIter h s.heap.objs.size (0 + (i : Nat) * 2) (((L / 2 : Nat) : Int) - (i : Nat)) 2) := (Walks.range hh _ 0 2 (L / 2)).bound
  have W2 : Walks prog w A s.heap.objs.size [s.heap.objs.size] [s.heap.objs.size] (L / 2) (fun i v => i < L / 2 ∧ ∃ t, v = .int ((2 * i : Nat) : Int) t)
      (fun i h => IsRangeIter h s.heap.objs.size (0 + (i : Nat) * 2) (((L / 2 : Nat) : Int) - (i : Nat)) 2) := by
    have e : (fun (i : Nat) (v : Value) => i < L / 2 ∧ ∃ t, v = Value.int (0 + (i : Int) * 2) t) = (fun i v => i < L / 2 ∧ ∃ t, v = .int ((2 * i : Nat) : Int) t) := by
      funext i v
      rw [show (0 + (i : Int) * 2) = ((2 * i : Nat) : Int) by k_extra "o"]
    rw [← e]; exact W
  refine h _ _ _ W2 ?_ ?_ ⟨fun i h st => ⟨_, st, ⟨_, rfl, by decide⟩⟩, rfl⟩
  · show IsRangeIter _ _ _ _ _
    rw [rangeSize_two]
    simpa using Heap.get?_push_size _ rfl
  · intro b hb
    rw [List.mem_singleton.mp hb]
    exact .inl rfl
theorem setL_N : ∀ (vs : List Value) (i : Nat) (v : Value), i < vs.length → ki_setL vs i v = some (vs.set i v)
  | [], _, _, h => by cases h
  | x :: r, 0, v, _ => rfl
  | x :: r, i + 1, v, h => by
    show (match ki_setL r i v with | some q => some (x :: q) | none => none) = _
    rw [setL_N r i v (Nat.lt_of_succ_lt_succ h)]; rfl
theorem last_N : ∀ (vs : List Value) (x : Value), kl_last (vs ++ [x]) = some (vs, x)
  | [], _ => rfl
  | y :: r, x => by
    show (match kl_last (r ++ [x]) with | some (p, z) => some (y :: p, z) | none => some ([], y)) = _
    rw [last_N r x]
theorem op_setItem {l : Addr} {vs : List Value} {n i : Nat} {k : Int} {u : Tok} {v : Value} {K : Unit → St → Prop} (hp : Pick (l, listOf vs.toArray n) led rest) (hk : k = i) (hi : i < vs.length) (hl : vs.length ≤ 1000) (h : ∀ n', K () ⟨fs, (l, listOf (vs.set i v).toArray n') :: rest, cs⟩) : Op y c (setItem (.ref l) (.int k u) v) ⟨fs, led, cs⟩ K := by
  subst hk
  refine ⟨fun s R => ?_⟩
  obtain ⟨news, news', N, U, kk⟩ := R.viaU hp (listOf (vs.set i v).toArray n)
  exact ki_set (q := vs.set i v) R.F N (by k_extra "o") (by k_extra "o") (by rw [Int.toNat_natCast]; exact setL_N vs i v hi) U fun h' F' N' => ⟨_, kk h' s.toks F' N', h n⟩
theorem op_tupItem {value slice : Expr} {t : Addr} {xs : List Value} {i : Nat} {k : Int} {u : Tok} {x : Value} {K : Value → St → Prop} (hm : (t, { cls := .type "tuple", data := .seq xs.toArray }) ∈ σ.led) (hk : k = i) (hx : xs[i]? = some x) (hl : xs.length ≤ 1000) (hs : ∀ k u, subscripted slice false (.ref t) (.int k u) = operate [.ref t, .int k u] (getItem (.ref t) (.int k u))) (h : K x σ) : Op y c (subscriptTail value slice (.ref t) (.int k u)) σ K := by
  subst hk
  have hi : i < xs.length := by
    rcases Nat.lt_or_ge i xs.length with h | h
    · exact h
    · rw [List.getElem?_eq_none h] at hx; cases hx
  refine ⟨fun s R => kba_turn (value' := PySem.Expr.Name (PySem.Str.ofString "_") ⟨0, 0, 0, 0⟩) (fun _ => rfl) ?_⟩
  exact item_tupleL (j := i) ⟨_, R.get hm, rfl, 0, rfl⟩ (by k_extra "o") (by k_extra "o") (by unfold seqIndex?; simp; k_extra "o") hx ⟨σ, R, h⟩ (hs _ _) fun _ => rfl
theorem op_pop1 {l : Addr} {vs : List Value} {n : Nat} {x : Value} {K : Value → St → Prop} (hp : Pick (l, listOf (vs ++ [x]).toArray n) led rest) (hl : vs.length ≤ 900) (h : K x ⟨fs, (l, listOf vs.toArray (n + 1)) :: rest, cs⟩) : Op y c (call (.builtin "list.pop") [.ref l]) ⟨fs, led, cs⟩ K := by
  refine ⟨fun s R => ?_⟩
  obtain ⟨news, news', N, U, kk⟩ := R.viaU hp (listOf vs.toArray (n + 1))
  exact kl_pop (p := vs) (y := x) R.F N (last_N vs x) U (by simp; exact Nat.le_trans (Nat.succ_le_succ hl) (by decide)) fun h' F' N' => ⟨_, kk h' s.toks F' N', h⟩
theorem op_join {l : Addr} {vs : List Value} {ss : List Str} {n : Nat} {x : Str} {t : Tok} {K : Value → St → Prop} (hm : (l, listOf vs.toArray n) ∈ σ.led) (hi : StrsAre vs ss) (hx : x.length ≤ 16) (hw : (ss.map (·.length)).sum + ss.length ≤ 1048576) (h : ∀ t, K (.str (Txt.join x ss) t) σ) : Op y c (call (.builtin "str.join") [.str x t, .ref l]) σ K :=
  ⟨fun s R => join_listW (R.isList hm) hi hx hw fun t' k => ⟨σ, R.toks, h t'⟩⟩
theorem op_mJoin {x : Str} {t : Tok} {pl : Sem Bool} {K : Value × List Value → St → Prop} (h : K (.builtin "str.join", [.str x t]) σ) : Op y c (getMethod (.str x t) "join" pl) σ K := ⟨fun s R => GM.join ⟨σ, R, h⟩⟩
theorem op_mIndex {l : Addr} {its : Array Value} {n : Nat} {pl : Sem Bool} {K : Value × List Value → St → Prop} (hm : (l, listOf its n) ∈ σ.led) (h : K (.builtin "list.index", [.ref l]) σ) : Op y c (getMethod (.ref l) "index" pl) σ K := op_method hm PySem.F.slot_list_index PySem.F.type_list_index h
theorem op_indexS {l : Addr} {vs : List Value} {ss : List Str} {n j : Nat} {x : Str} {t : Tok} {K : Value → St → Prop} (hm : (l, listOf vs.toArray n) ∈ σ.led) (hi : StrsAre vs ss) (hl : vs.length ≤ 1000) (hj : ss[j]? = some x) (hno : ∀ i < j, ss[i]? ≠ some x) (h : ∀ t, K (.int (j : Int) t) σ) : Op y c (call (.builtin "list.index") [.ref l, .str x t]) σ K := by
  have hlen := hi.len_eq
  have hjl : j < vs.length := by
    rw [hlen]
    rcases Nat.lt_or_ge j ss.length with h | h
    · exact h
    · rw [List.getElem?_eq_none h] at hj; cases hj
  have isAt : ∀ i (hi' : i < vs.length), isStrOf x vs[i] = (ss[i]? == some x) := fun i hi' => by
    have hs : i < ss.length := by k_extra "o"
    obtain ⟨t, ht⟩ := hi.at (j := i) (y := ss[i]) (List.getElem?_eq_getElem hs)
    rw [List.getElem?_eq_getElem hi'] at ht
    rw [Option.some.inj ht, List.getElem?_eq_getElem hs]
    rfl
  refine ⟨fun s R => ?_⟩
  refine call_meets PySem.F.slot_list_index ⟨_, R.get hm, rfl⟩ PySem.F.entry_list_index (PySem.F.args_list_index_2 _ _)
    (MeetsSeq.list_index l vs.toArray n (.str x t) (isStrOf x) (fun y hy => eq_isStrOf x t hi y (by simpa using hy)) j (by simpa using hjl) (by k_extra "o") ?_ fun i hi' hlt => ?_) ⟨R.get hm, σ, R.toks, h _⟩
  · show isStrOf x vs[j] = true
    rw [isAt j hjl, hj]; exact beq_self_eq_true _
  · have hi2 : i < vs.length := by simpa using hi'
    show isStrOf x vs[i] = false
    rw [isAt i hi2]; exact beq_eq_false_iff_ne.mpr (hno i hlt)
end
end MineV
end
end

section
noncomputable section
namespace MineV
open PySem PySem.W PyProof.Rows PySem.Calls PySem.Spec
open Mine (Kf accOf)
example : True := by
  k_with "V enter" => (
    (case ho => k_is)
    (case hcd => k_is)
    (case hb => first | exact fun s Xs => BindsTo.of_eq rfl | exact fun s Xs => binds_K Xs rfl (by k_is) rfl rfl rfl)
    (case hl => exact locs rfl)
    (case h1 => decide)
    (case h2 => exact rfl)
    (case h3 => exact rfl)
    (case h4 => exact rfl)
    (case h5 => exact rfl)
    (case h6 => exact rfl))
  trivial
open Mine (LexA LexT LexOk CodeOf tabL lexTl lexD tokT)
section
variable {tb : Tab} {nm : List (Str × NameKind)} {b₀ : Heap} {D U : Nat} {c : Cx} {fs : List (Str × Value)} {led : Led} {cs : List (Str × Addr × Option Value)} {w : World}
variable {loose : List Str} {mean : ExcName → Option Value} {mg mb : Str → Option Value} (H : Hd w b₀ loose mean mg mb)
theorem acc_led {pre : Led} {t : AT} {A : Acc} {r : List Acc} (hp : led.Perm (pre ++ AL w t (A :: r))) : (A.x, A.obj) ∈ led ∧ (A.d, A.dic w) ∈ led :=
  ⟨hp.mem_iff.mpr (List.mem_append_right _ (.tail _ (.tail _ (.head _)))), hp.mem_iff.mpr (List.mem_append_right _ (.tail _ (.tail _ (.tail _ (.head _)))))⟩
include H
theorem op_mAcc {pre : Led} {t : AT} {A : Acc} {r : List Acc} {name : Str} {f : Addr} {pl : Sem Bool} {K : Value × List Value → St → Prop} (ok : CxOk (G2 w) tb nm b₀ D U c) (hp : led.Perm (pre ++ AL w t (A :: r))) (hf : findIn (Kf w.params) (.ref 137) name = some (some (.ref f))) (ht : isFn (Kf w.params) (.ref f) = true) (hl : getL name (accDic w A.k0 A.t0) = some none)
    (h : K (.ref f, [.ref A.x]) ⟨fs, led, cs⟩) : Op (G2 w) c (getMethod (.ref A.x) name pl) ⟨fs, led, cs⟩ K := by
  refine ⟨fun s R => ?_⟩
  have I := acc_at (A := A) R (acc_led hp).1 (acc_led hp).2
  have k1 : findIn (Kf w.params) (.ref 137) "__getattribute__" = some (some (.builtin "list.__getattribute__")) := by k_is
  have k2 : findIn (Kf w.params) (.ref 137) "__getattr__" = some none := by k_is
  exact Mine.method_in R.F (H.X.keeps fun b o e => ok.st b o e) I k1 k2 hf ht hl ⟨_, R, h⟩
theorem op_mPush {pre : Led} {t : AT} {A : Acc} {r : List Acc} {pl : Sem Bool} {K : Value × List Value → St → Prop} (ok : CxOk (G2 w) tb nm b₀ D U c) (hp : led.Perm (pre ++ AL w t (A :: r))) (h : K (.ref 81, [.ref A.x]) ⟨fs, led, cs⟩) : Op (G2 w) c (getMethod (.ref A.x) "push" pl) ⟨fs, led, cs⟩ K := by
  have k1 : findIn (Kf w.params) (.ref 137) "push" = some (some (.ref 81)) := by k_is
  have k2 : isFn (Kf w.params) (.ref 81) = true := by k_is
  exact op_mAcc H ok hp k1 k2 rfl h
theorem op_mPopFrom {pre : Led} {t : AT} {A : Acc} {r : List Acc} {pl : Sem Bool} {K : Value × List Value → St → Prop} (ok : CxOk (G2 w) tb nm b₀ D U c) (hp : led.Perm (pre ++ AL w t (A :: r))) (h : K (.ref 89, [.ref A.x]) ⟨fs, led, cs⟩) : Op (G2 w) c (getMethod (.ref A.x) "pop_from" pl) ⟨fs, led, cs⟩ K := by
  have k1 : findIn (Kf w.params) (.ref 137) "pop_from" = some (some (.ref 89)) := by k_is
  have k2 : isFn (Kf w.params) (.ref 89) = true := by k_is
  exact op_mAcc H ok hp k1 k2 rfl h
theorem op_push {pre : Led} {t : AT} {A : Acc} {r : List Acc} {a b : Str} {ta tb' : Tok} {K : Value → St → Prop} (ok : CxOk (G2 w) tb nm b₀ D U c) (hd : 6 ≤ D) (hu : 60 ≤ U) (hp : led.Perm (pre ++ AL w t (A :: r))) (hl : A.its.length ≤ 100)
    (h : ∀ v p, K v ⟨fs, pre ++ AL w t (A.push ⟨p, a, b, ta, tb'⟩ :: r), cs⟩) : Op (G2 w) c (call (.ref 81) [.ref A.x, .str a ta, .str b tb']) ⟨fs, led, cs⟩ K :=
  op_callT pre ok (push_fc H A hl a b ta tb' t r) hd hu hp h
theorem op_popFrom {pre : Led} {t : AT} {A : Acc} {r : List Acc} {K : Value → St → Prop} (ok : CxOk (G2 w) tb nm b₀ D U c) (hd : 4 ≤ D) (hu : 60 ≤ U) (hp : led.Perm (pre ++ AL w t (A :: r))) (hl : A.its.length ≤ 100)
    (h : ∀ d, K (.ref d) ⟨fs, pre ++ (AL w t (A.cut :: r) ++ ((d, listOf A.refs.toArray 0) :: A.its.map It.cell)), cs⟩) : Op (G2 w) c (call (.ref 89) [.ref A.x]) ⟨fs, led, cs⟩ K :=
  op_callT pre ok (popA_fc H A hl t r) hd hu hp h
theorem op_len' {pre : Led} {t : AT} {A : Acc} {r : List Acc} {K : Value → St → Prop} (ok : CxOk (G2 w) tb nm b₀ D U c) (hd : 4 ≤ D) (hu : 61 ≤ U) (hp : led.Perm (pre ++ AL w t (A :: r))) (hA : A.Ok) (ht : t.Ok)
    (h : ∀ u t', AT.Ok t' → K (.int A.key u) ⟨fs, pre ++ AL w t' (A :: r), cs⟩) : Op (G2 w) c (call (.builtin "len") [.ref A.x]) ⟨fs, led, cs⟩ K :=
  Op.perm hp (op_lenA H pre ok hd hu (.refl _) hA ht h)
theorem op_str' {pre : Led} {t : AT} {A : Acc} {r : List Acc} {K : Value → St → Prop} (ok : CxOk (G2 w) tb nm b₀ D U c) (hd : 4 ≤ D) (hu : 62 ≤ U) (hp : led.Perm (pre ++ AL w t (A :: r))) (hA : A.Ok) (ht : t.Ok)
    (h : ∀ u t', AT.Ok t' → K (.str (strOf A.its) u) ⟨fs, pre ++ AL w t' (A :: r), cs⟩) : Op (G2 w) c (call (.type "str") [.ref A.x]) ⟨fs, led, cs⟩ K :=
  Op.perm hp (op_strA H pre ok hd hu (.refl _) hA ht h)
structure Lx where
  q : List Str
  i : Nat
  ln : Int
noncomputable def Lx.tok (tx : Str) (L : Lx) : Str × Lx := match L.q with
  | x :: r => (x, ⟨r, L.i, L.ln⟩)
  | [] => ((tokT tx (tx.length + 1) L.i L.ln).1, ⟨[], (tokT tx (tx.length + 1) L.i L.ln).2.1, (tokT tx (tx.length + 1) L.i L.ln).2.2⟩)
noncomputable def Lx.push (L : Lx) (x : Str) : Lx := ⟨L.q ++ [x], L.i, L.ln⟩
noncomputable abbrev LexIs (w : World) (a : LexA) (L : Lx) (tl : Led) : Prop := LexAt w a L.q L.i L.ln tl
omit H in
theorem lex_led {a : LexA} {L : Lx} {tl : Led} (hl : LexIs w a L tl) : ∃ tt nd, (a.I, instObj 179 a.d) ∈ tl ∧ (a.d, dictOf (lexD w L.ln a.S a.pb tt) nd) ∈ tl := by
  obtain ⟨tt, nd, vs, np, tp, na, hs⟩ := hl
  exact ⟨tt, nd, .tail _ (.head _), .tail _ (.tail _ (.head _))⟩
theorem lex_inst {a : LexA} {L : Lx} {tl : Led} {s : Shared} (ok : CxOk (G2 w) tb nm b₀ D U c) (hl : LexIs w a L tl) (hm : ∀ p ∈ tl, p ∈ led) (R : Rep (G2 w) c ⟨fs, led, cs⟩ s) : ∃ tt nd, W.InstAt s.heap a.I (instObj 179 a.d) 179 (some (dictOf (lexD w L.ln a.S a.pb tt) nd)) := by
  obtain ⟨tt, nd, h1, h2⟩ := lex_led hl
  exact ⟨tt, nd, R.get (hm _ h1), rfl, rfl, R.get (hm _ h2)⟩
theorem op_mLex {a : LexA} {L : Lx} {tl : Led} {name : Str} {f : Addr} {pl : Sem Bool} {K : Value × List Value → St → Prop} (ok : CxOk (G2 w) tb nm b₀ D U c) (hl : LexIs w a L tl) (hm : ∀ p ∈ tl, p ∈ led) (hg : plainGet (Kf w.params) 179 name = true) (hf : findIn (Kf w.params) (.ref 179) name = some (some (.ref f))) (ht : isFn (Kf w.params) (.ref f) = true)
    (hn : ∀ tt, getL name (lexD w L.ln a.S a.pb tt) = some none) (h : K (.ref f, [.ref a.I]) ⟨fs, led, cs⟩) : Op (G2 w) c (getMethod (.ref a.I) name pl) ⟨fs, led, cs⟩ K := by
  refine ⟨fun s R => ?_⟩
  obtain ⟨tt, nd, I⟩ := lex_inst H ok hl hm R
  exact method_inst R.F (H.X.keeps fun b o e => ok.st b o e) I hg hf ht (hn tt) ⟨_, R, h⟩
theorem op_mTok {a : LexA} {L : Lx} {tl : Led} {pl : Sem Bool} {K : Value × List Value → St → Prop} (ok : CxOk (G2 w) tb nm b₀ D U c) (hl : LexIs w a L tl) (hm : ∀ p ∈ tl, p ∈ led) (h : K (.ref 169, [.ref a.I]) ⟨fs, led, cs⟩) : Op (G2 w) c (getMethod (.ref a.I) "get_token" pl) ⟨fs, led, cs⟩ K := by
  have k1 : plainGet (Kf w.params) 179 "get_token" = true := by k_is
  have k2 : findIn (Kf w.params) (.ref 179) "get_token" = some (some (.ref 169)) := by k_is
  have k3 : isFn (Kf w.params) (.ref 169) = true := by k_is
  exact op_mLex H ok hl hm k1 k2 k3 (fun _ => rfl) h
theorem op_mPushT {a : LexA} {L : Lx} {tl : Led} {pl : Sem Bool} {K : Value × List Value → St → Prop} (ok : CxOk (G2 w) tb nm b₀ D U c) (hl : LexIs w a L tl) (hm : ∀ p ∈ tl, p ∈ led) (h : K (.ref 176, [.ref a.I]) ⟨fs, led, cs⟩) : Op (G2 w) c (getMethod (.ref a.I) "push_token" pl) ⟨fs, led, cs⟩ K := by
  have k1 : plainGet (Kf w.params) 179 "push_token" = true := by k_is
  have k2 : findIn (Kf w.params) (.ref 179) "push_token" = some (some (.ref 176)) := by k_is
  have k3 : isFn (Kf w.params) (.ref 176) = true := by k_is
  exact op_mLex H ok hl hm k1 k2 k3 (fun _ => rfl) h
theorem op_lineno {a : LexA} {L : Lx} {tl : Led} {ex : Bool} {K : Value → St → Prop} (ok : CxOk (G2 w) tb nm b₀ D U c) (hl : LexIs w a L tl) (hm : ∀ p ∈ tl, p ∈ led) (h : ∀ t, K (.int L.ln t) ⟨fs, led, cs⟩) : Op (G2 w) c (getAttr (.ref a.I) "lineno" ex) ⟨fs, led, cs⟩ K := by
  have k1 : plainGet (Kf w.params) 179 "lineno" = true := by k_is
  have k2 : hasDictIn (Kf w.params) 179 = true := by k_is
  have k3 : findIn (Kf w.params) (.ref 179) "lineno" = some none := by k_is
  have k4 : noGet (Kf w.params) none = true := by k_is
  refine ⟨fun s R => ?_⟩
  obtain ⟨tt, nd, I⟩ := lex_inst H ok hl hm R
  exact get_own (v := .int L.ln tt.k0) R.F (H.X.keeps fun b o e => ok.st b o e) I k1 k2 k3 k4 rfl rfl ⟨_, R.toks, h _⟩
end
end MineV
end
end

section
noncomputable section
namespace MineV
open PySem PySem.W PyProof.Rows PySem.Calls PySem.Spec
open Mine (Kf accOf)
example : True := by
  k_with "V enter" => (
    (case ho => k_is)
    (case hcd => k_is)
    (case hb => first | exact fun s Xs => BindsTo.of_eq rfl | exact fun s Xs => binds_K Xs rfl (by k_is) rfl rfl rfl)
    (case hl => exact locs rfl)
    (case h1 => decide)
    (case h2 => exact rfl)
    (case h3 => exact rfl)
    (case h4 => exact rfl)
    (case h5 => exact rfl)
    (case h6 => exact rfl))
  trivial
example : True := by
  k_with "V perm" => ((refine perm_cnt fun p => ?_); (try simp only [cnt_nil, cnt_app, cnt_cons]); (try simp only [cnt_nil, cnt_app, cnt_cons]); k_extra "o")
  trivial
example : True := by
  k_with "V enterC" => (
    (case ho => k_is)
    (case hcd => k_is)
    (case hb => first | exact fun s Xs => BindsTo.of_eq rfl | exact fun s Xs => binds_K Xs rfl (by k_is) rfl rfl rfl)
    (case hl => exact rfl)
    (case h1 => decide +kernel)
    (case h2 => exact rfl)
    (case h3 => exact rfl)
    (case h4 => exact rfl)
    (case h5 => exact rfl)
    (case h6 => exact rfl)
    (case h7 => exact rfl))
  trivial
example : True := by
  k_with "V permG" => ((refine perm_cnG fun p => ?_); (try simp only [cnG_nil, cnG_app, cnG_cons, Nat.add_zero, Nat.zero_add]); first | done | ac_rfl | k_extra "o")
  trivial
open Mine (LexA LexT LexOk CodeOf tabL lexTl lexD tokT)
section
variable {w : World} {b₀ : Heap} {loose : List Str} {mean : ExcName → Option Value} {mg mb : Str → Option Value} (H : Hd w b₀ loose mean mg mb) {D U : Nat} {c : Cx} {nm : List (Str × NameKind)} {tb : Tab} {fs : List (Str × Value)} {led : Led} {cs : List (Str × Addr × Option Value)}
include H
theorem op_lstream {a : LexA} {L : Lx} {tl : Led} {ex : Bool} {K : Value → St → Prop} (ok : CxOk (G2 w) tb nm b₀ D U c) (hl : LexIs w a L tl) (hm : ∀ p ∈ tl, p ∈ led) (h : K (.ref a.S) ⟨fs, led, cs⟩) : Op (G2 w) c (getAttr (.ref a.I) "instream" ex) ⟨fs, led, cs⟩ K := by
  have k1 : plainGet (Kf w.params) 179 "instream" = true := by k_is
  have k2 : hasDictIn (Kf w.params) 179 = true := by k_is
  have k3 : findIn (Kf w.params) (.ref 179) "instream" = some none := by k_is
  have k4 : noGet (Kf w.params) none = true := by k_is
  refine ⟨fun s R => ?_⟩
  obtain ⟨tt, nd, I⟩ := lex_inst H ok hl hm R
  exact get_own (v := .ref a.S) R.F (H.X.keeps fun b o e => ok.st b o e) I k1 k2 k3 k4 rfl rfl ⟨_, R.toks, h⟩
omit H in
theorem op_fread {y : Gl} {tx : Str} {a : LexA} {L : Lx} {tl : Led} {pl : Sem Bool} {K : Value × List Value → St → Prop} (lo : LexOk w b₀ tx a) (hl : LexIs w a L tl) (hm : ∀ p ∈ tl, p ∈ led) (h : K (.ref a.rd, []) ⟨fs, led, cs⟩) : Op y c (getMethod (.ref a.S) "read" pl) ⟨fs, led, cs⟩ K := by
  refine ⟨fun s R => ?_⟩
  obtain ⟨tt, nd, vs, np, tp, na, hs⟩ := hl
  obtain ⟨fd, hS⟩ := lo.st
  have h1 := R.get (hm (a.S, a.so) (.tail _ (.tail _ (.tail _ (.tail _ (.head _))))))
  have h2 := R.get (hm _ (.tail _ (.tail _ (.tail _ (.head _)))))
  exact Mine.methFn (h1.trans (congrArg some hS)) h2 fun tk' => ⟨_, R.toks, h⟩
omit H in
theorem kor_read {y : Gl} {tx : Str} {a : LexA} {L : Lx} {tl : Led} (lo : LexOk w b₀ tx a) (hl : LexIs w a L tl) (hm : ∀ p ∈ tl, p ∈ led) : WPkeep y tb c (.ref a.rd) ⟨fs, led, cs⟩ := by
  obtain ⟨tt, nd, vs, np, tp, na, hs⟩ := hl
  obtain ⟨fd, hR⟩ := lo.rd
  show (if tb.kf.contains a.rd then True else KOr y c (.ref a.rd) ⟨fs, led, cs⟩)
  split
  · trivial
  · refine ⟨fun s R M => keeps_F _ ⟨_, _, fd, _, (R.get (hm (a.rd, a.ro) (.tail _ (.tail _ (.tail _ (.tail _ (.tail _ (.tail _ (.head _))))))))).trans (congrArg some hR)⟩⟩
theorem readV_fc (tx : Str) (a : LexA) (lo : LexOk w b₀ tx a) (i : Nat) (hi : i ≤ tx.length) (t1 : Tok) (ln : Int) (tl : Led) (hl : LexAt w a [] i ln tl) : FC (G2 w) b₀ 3 30 (.ref a.rd) ⟨[.int 1 t1], []⟩ tl
    (fun k => ∀ u tl', LexAt w a [] (i + (Mine.piece tx i).length) ln tl' → k (.str (Mine.piece tx i) u) tl') := by
  obtain ⟨tt, nd, vs, np, tp, na, hs⟩ := hl
  have F := FC.of_fs (G := (G2 w).G) (lo.go i t1 tp na hi) (by
    rintro nd v tl' ⟨u, tp', na', rfl, rfl⟩
    exact nd)
  refine (FC.perm ?_ (FC.permR (F.frame [(a.pb, listOf vs.toArray np), (a.I, instObj 179 a.d), (a.d, dictOf (lexD w ln a.S a.pb tt) nd), (a.sd, dictOf [⟨a.hk, .str "read" a.kk, .ref a.rd⟩] 1), (a.S, a.so), (a.cl, a.clo)]))).mono fun k hk v tl' ⟨u, tp', na', e1, e2⟩ => ⟨lexTl w a ln tt nd vs np (i + (Mine.piece tx i).length) tp' na', ?_, ?_⟩
  · exact List.perm_append_comm (l₁ := [(a.pb, listOf vs.toArray np), (a.I, instObj 179 a.d), (a.d, dictOf (lexD w ln a.S a.pb tt) nd), (a.sd, dictOf [⟨a.hk, .str "read" a.kk, .ref a.rd⟩] 1), (a.S, a.so), (a.cl, a.clo)])
  · subst e2
    exact List.perm_append_comm
  · subst e1
    exact hk u _ (.mk _ _ _ _ _ _ hs)
omit H in
theorem op_iaddI {y : Gl} {m n : Int} {t u : Tok} {K : Value → St → Prop} (h : ∀ t, K (.int (m + n) t) ⟨fs, led, cs⟩) : Op y c (inplaceOp .Add (.int m t) (.int n u)) ⟨fs, led, cs⟩ K := ⟨fun s R => iadd_int ⟨_, R.toks, h _⟩⟩
theorem op_lset {a : LexA} {i : Nat} {ln z : Int} {t : Tok} {tl : Led} {K : Unit → St → Prop} (ok : CxOk (G2 w) tb nm b₀ D U c) (hl : LexAt w a [] i ln tl) (h : ∀ tl', LexAt w a [] i z tl' → K () ⟨fs, tl', cs⟩) : Op (G2 w) c (setAttr (.ref a.I) "lineno" (.int z t)) ⟨fs, tl, cs⟩ K := by
  have k2 : findIn (Kf w.params) (.ref 179) "__setattr__" = some (some (.builtin "object.__setattr__")) := by k_is
  have k3 : plainOver (Kf w.params) 179 = true := by k_is
  have k4 : takerIn (Kf w.params) 179 "lineno" = some none := by k_is
  have k5 : hasDictIn (Kf w.params) 179 = true := by k_is
  obtain ⟨tt, nd, vs, np, tp, na, hs⟩ := hl
  refine ⟨fun s R => ?_⟩
  obtain ⟨news, news', N, Up, back⟩ := Rep.viaU (D := a.d) (o := dictOf (lexD w ln a.S a.pb tt) nd) (rest := (a.pb, listOf vs.toArray np) :: (a.I, instObj 179 a.d) :: lexRest a i tp na) R (.there (.there .here)) (dictOf (lexD w z a.S a.pb { tt with k0 := t }) nd)
  have I : W.InstAt s.heap a.I (instObj 179 a.d) 179 (some (dictOf (lexD w ln a.S a.pb tt) nd)) := ⟨R.get (.tail _ (.head _)), rfl, rfl, R.get (.tail _ (.tail _ (.head _)))⟩
  refine set_dict (es' := lexD w z a.S a.pb { tt with k0 := t }) (n' := nd) R.F (H.X.keeps fun b o e => ok.st b o e) N I rfl k2 k3 k4 k5 (by rfl) (Mine.putL_hd _ _ _ _ _ _ _ _ _) Up (Nat.le_of_ble_eq_true rfl) fun h' F' N' => ⟨_, Rep.perm (r' := lexTl w a z { tt with k0 := t } nd vs np i tp na) ?_ (back h' _ F' N'), h _ (.mk _ _ _ _ _ _ hs)⟩
  rw [lexTl_rest]
  walk_at "V perm"
end
section
variable {w : World} {b₀ : Heap} {loose : List Str} {mean : ExcName → Option Value} {mg mb : Str → Option Value} (H : Hd w b₀ loose mean mg mb)
include H
theorem char_fc (tx : Str) (a : LexA) (lo : LexOk w b₀ tx a) (i : Nat) (hi : i ≤ tx.length) (ln : Int) (tl : Led) (hl : LexAt w a [] i ln tl) : FC (G2 w) b₀ 8 80 (.ref 162) ⟨[.ref a.I], []⟩ tl
    (fun k => ∀ u tl', LexAt w a [] (i + (Mine.piece tx i).length) (Mine.lnAt tx i ln) tl' → k (.str (Mine.piece tx i) u) tl') := by
  refine' enterV (D := 7) (U := 77) (tb := tb2) (binds := [("self", .ref a.I)]) H.X H.T (tb2_ok w) ?ho ?hcd ?hb ?hl ?h ?h1 ?h2 ?h3 ?h4 ?h5 ?h6
  walk_at "V enter"
  intro q c hq ok _
  refine op_lstream H (L := ⟨[], i, ln⟩) ok hl (fun _ h => h) ?_
  intro pl
  refine op_fread (L := ⟨[], i, ln⟩) lo hl (fun _ h => h) ?_
  intro t1
  refine ⟨kor_read (L := ⟨[], i, ln⟩) lo hl fun _ h => h, ?_⟩
  refine op_callT [] ok (readV_fc H tx a lo i hi t1 ln tl hl) (by decide) (by decide) (.refl _) ?_
  intro u tl' hl'
  intro t2
  refine IfK.mk (fun c1 => ?_) fun c1 => ?_
  · refine op_lineno H (L := ⟨[], _, _⟩) ok hl' (fun _ h => h) fun t3 => ?_
    intro t4
    refine op_iaddI fun t5 => ?_
    refine op_lset H ok hl' fun tl2 hl2 => ?_
    have e : Mine.lnAt tx i ln = ln + 1 := if_pos (beq_iff_eq.mp c1)
    rw [e] at hq
    exact ⟨_, [], by rw [List.append_nil], hq u _ hl2⟩
  · have e : Mine.lnAt tx i ln = ln := if_neg (fun e => by rw [e] at c1; cases c1)
    rw [e] at hq
    exact ⟨_, [], by rw [List.append_nil]; exact .refl _, hq u _ hl'⟩
end
end MineV
end
end

section
noncomputable section
namespace MineV
open PySem PySem.W PyProof.Rows PySem.Calls PySem.Spec
open Mine (Kf accOf)
example : True := by
  k_with "V enter" => (
    (case ho => k_is)
    (case hcd => k_is)
    (case hb => first | exact fun s Xs => BindsTo.of_eq rfl | exact fun s Xs => binds_K Xs rfl (by k_is) rfl rfl rfl)
    (case hl => exact locs rfl)
    (case h1 => decide)
    (case h2 => exact rfl)
    (case h3 => exact rfl)
    (case h4 => exact rfl)
    (case h5 => exact rfl)
    (case h6 => exact rfl))
  trivial
example : True := by
  k_with "V enterC" => (
    (case ho => k_is)
    (case hcd => k_is)
    (case hb => first | exact fun s Xs => BindsTo.of_eq rfl | exact fun s Xs => binds_K Xs rfl (by k_is) rfl rfl rfl)
    (case hl => exact rfl)
    (case h1 => decide +kernel)
    (case h2 => exact rfl)
    (case h3 => exact rfl)
    (case h4 => exact rfl)
    (case h5 => exact rfl)
    (case h6 => exact rfl)
    (case h7 => exact rfl))
  trivial
open Mine (LexA LexT LexOk CodeOf tabL lexTl lexD tokT)
section
variable {y : Gl} {tb : Tab} {nm : List (Str × NameKind)} {b₀ : Heap} {D U : Nat} {c : Cx} {σ : St}
theorem op_forI {α : Type} {it xv : Value} {x : Str} {px : Pos} {body : List Stmt} {K : Flow → St → Prop} (S : α → St) (Pre : α → Prop) (μ : α → Nat) (ok : CxOk y tb nm b₀ D U c) (hx : nm.lookup x = some .local)
    (src : ∀ s, Rep y c σ s → wpAny (model y.P y.w) c.A (pyIter xv) (fun v s' => v = it ∧ ∃ a, Pre a ∧ Rep y c (S a) s') (fun _ _ => False) s)
    (turn : ∀ K' a, Pre a → (∀ σ a', Pre a' → μ a' < μ a → Weak σ (S a') → K' .next σ ∧ K' .cont σ) → (∀ v σ, K (.ret v) σ → K' (.ret v) σ) →
      Op y c (pyNext it) (S a) fun r σ1 => match r with | none => K .next σ1 | some v => WPss (WPs y tb nm c 30) body K' ⟨(x, v) :: σ1.fs, σ1.led, σ1.cs⟩) :
    OpFor y c (.Name x px) body xv σ K := by
  refine ⟨fun s R => wpAny_mono (src s R) (fun v s2 ⟨e, a, ha, Ra⟩ => ?_) fun _ _ z => z⟩
  subst e
  refine codeAny_forLoop_any (R := fun r s' => match r with | .ok f => ∃ σ', Rep y c σ' s' ∧ K f σ' | .error e => cameBackBy (model y.P y.w) c.A c.env (fun _ _ => False) e s') (fun k s' => ∃ a, μ a = k ∧ Pre a ∧ Rep y c (S a) s') ?_ (μ a) ⟨a, rfl, ha, Ra⟩
  rintro k s' ⟨a, rfl, hp, R1⟩
  let K' : Flow → St → Prop := fun f σ => match f with
    | .next => ∃ a', Pre a' ∧ μ a' < μ a ∧ Weak σ (S a')
    | .cont => ∃ a', Pre a' ∧ μ a' < μ a ∧ Weak σ (S a')
    | .brk => K .next σ
    | .ret v => K (.ret v) σ
  have tn := turn K' a hp (fun σ a' h1 h2 h3 => ⟨⟨a', h1, h2, h3⟩, ⟨a', h1, h2, h3⟩⟩) (fun v σ h => h)
  refine wpAny_passesOwn PassesOwn.never (wpAny_mono (tn.run _ R1) (fun r s3 ⟨σ3, R3, h3⟩ => ?_) fun _ _ z => z)
  cases r with
  | none => exact wpAny_passesOwn PassesOwn.never (wpAny_execs_nil ⟨σ3, R3, h3⟩)
  | some v =>
    show wpAny _ _ (pure ()) _ _ _
    refine wpAny_pure ?_
    refine wpAny_passesOwn PassesOwn.never (wpAny_mono ((op_nameT (K := fun _ σ => WPss (WPs y tb nm c 30) body K' σ) ok hx h3).run _ R3) (fun _ s4 ⟨σ4, R4, h4⟩ => ?_) fun _ _ z => z)
    refine wpAny_passesOwn PassesOwn.never (wpAny_mono ((ss_ok (s_ok ok 30) h4).run _ R4) (fun f s5 ⟨σ5, R5, h5⟩ => ?_) fun _ _ z => z)
    cases f with
    | next => obtain ⟨a', g1, g2, g3⟩ := h5; exact ⟨μ a', g2, a', rfl, g1, R5.weak g3⟩
    | cont => obtain ⟨a', g1, g2, g3⟩ := h5; exact ⟨μ a', g2, a', rfl, g1, R5.weak g3⟩
    | brk => exact ⟨_, R5, h5⟩
    | ret v => exact ⟨_, R5, h5⟩
end
section
variable {w : World} {b₀ : Heap} {loose : List Str} {mean : ExcName → Option Value} {mg mb : Str → Option Value} (H : Hd w b₀ loose mean mg mb) {D U : Nat} {c : Cx} {nm : List (Str × NameKind)} {tb : Tab} {fs : List (Str × Value)} {cs : List (Str × Addr × Option Value)}
include H
theorem op_nextC {tx : Str} {a : LexA} {i : Nat} {ln : Int} {tl : Led} {ci mo : Addr} {t : Tok} {K : Option Value → St → Prop} (ok : CxOk (G2 w) tb nm b₀ D U c) (hd : 10 ≤ D) (hu : 100 ≤ U) (lo : LexOk w b₀ tx a) (hi : i ≤ tx.length) (hl : LexAt w a [] i ln tl)
    (more : ∀ u tl', Mine.piece tx i ≠ "" → LexAt w a [] (i + (Mine.piece tx i).length) (Mine.lnAt tx i ln) tl' → K (some (.str (Mine.piece tx i) u)) ⟨fs, (ci, Mine.citObj mo t) :: (mo, methodObj (.ref 162) (.ref a.I)) :: tl', cs⟩)
    (stop : ∀ tl', Mine.piece tx i = "" → LexAt w a [] i ln tl' → K none ⟨fs, (ci, Mine.citEnd) :: (mo, methodObj (.ref 162) (.ref a.I)) :: tl', cs⟩) :
    Op (G2 w) c (pyNext (.ref ci)) ⟨fs, (ci, Mine.citObj mo t) :: (mo, methodObj (.ref 162) (.ref a.I)) :: tl, cs⟩ K := by
  have dd := ok.dep
  have du := ok.unt
  refine ⟨fun s R => ?_⟩
  have hci := R.get (List.mem_cons_self (a := (ci, Mine.citObj mo t)))
  have hmo := R.get (List.mem_cons_of_mem _ (List.mem_cons_self (a := (mo, methodObj (.ref 162) (.ref a.I)))))
  refine' Mine.cit_nextK (K := Kf w.params) (f := 162) (self := .ref a.I) rfl hci hmo (H.X.keeps fun b o e => ok.st b o e) R.F ?lk ?_
  case lk => k_is
  refine wpAny_call (method_call hmo ?_)
  have hpk : ∀ l : Led, Pk l (l ++ [(ci, Mine.citObj mo t), (mo, methodObj (.ref 162) (.ref a.I))]) [(ci, Mine.citObj mo t), (mo, methodObj (.ref 162) (.ref a.I))] := fun l => by
    induction l with
    | nil => exact .nil
    | cons p r ih => exact .cons .here ih
  have R1 : Rep (G2 w) c ⟨fs, tl ++ [(ci, Mine.citObj mo t), (mo, methodObj (.ref 162) (.ref a.I))], cs⟩ s := Rep.perm (List.perm_append_comm (l₁ := [(ci, Mine.citObj mo t), (mo, methodObj (.ref 162) (.ref a.I))])) R
  refine call_at ok (char_fc H tx a lo i hi ln tl hl) rfl (dp := c.dp) (un := c.un + 1) (by k_extra "o") (by k_extra "o") (hpk tl) R1 (fun v tl' => ∃ u, v = .str (Mine.piece tx i) u ∧ LexAt w a [] (i + (Mine.piece tx i).length) (Mine.lnAt tx i ln) tl') (fun u tl' h => ⟨u, rfl, h⟩) ?_
  rintro v tl' s' ⟨u, rfl, hl'⟩ R2
  replace R2 := Rep.perm (List.perm_append_comm (l₂ := [(ci, Mine.citObj mo t), (mo, methodObj (.ref 162) (.ref a.I))])) R2
  have gci := R2.get (List.mem_cons_self (a := (ci, Mine.citObj mo t)))
  have gmo := R2.get (List.mem_cons_of_mem _ (List.mem_cons_self (a := (mo, methodObj (.ref 162) (.ref a.I)))))
  refine ⟨Mine.piece tx i, u, rfl, gci, gmo, (H.X.keeps fun b o e => ok.st b o e).keeps R2.F.keep, fun hne => ⟨_, R2, more u tl' hne hl'⟩, fun he h' hk hc => ?_⟩
  have e1 : Mine.lnAt tx i ln = ln := if_neg (by rw [he]; decide)
  have e2 : i + (Mine.piece tx i).length = i := by rw [he]; rfl
  rw [e1, e2] at hl'
  obtain ⟨R3, g1, g2, g3⟩ := Rep.front (tk := s'.toks) R2 hk
  exact ⟨_, R3.add g1 g2 g3 hc, stop tl' he hl'⟩
theorem op_nextE {ci : Addr} {r : Led} {K : Option Value → St → Prop} (ok : CxOk (G2 w) tb nm b₀ D U c) (stop : K none ⟨fs, (ci, Mine.citEnd) :: r, cs⟩) : Op (G2 w) c (pyNext (.ref ci)) ⟨fs, (ci, Mine.citEnd) :: r, cs⟩ K := by
  refine ⟨fun s R => ?_⟩
  refine Mine.cit_next_end rfl (R.get (List.mem_cons_self (a := (ci, Mine.citEnd)))) fun h' hk => ?_
  obtain ⟨R3, g1, g2, g3⟩ := Rep.front (tk := s.toks) R fun b ob _ e => hk b ob e
  exact ⟨_, R3.add g1 g2 g3 (hk _ _ (R.get (List.mem_cons_self (a := (ci, Mine.citEnd))))), stop⟩
end
end MineV
end
end

section
noncomputable section
namespace MineV
open PySem PySem.W PyProof.Rows PySem.Calls PySem.Spec
open Mine (Kf accOf)
example : True := by
  k_with "V enter" => (
    (case ho => k_is)
    (case hcd => k_is)
    (case hb => first | exact fun s Xs => BindsTo.of_eq rfl | exact fun s Xs => binds_K Xs rfl (by k_is) rfl rfl rfl)
    (case hl => exact locs rfl)
    (case h1 => decide)
    (case h2 => exact rfl)
    (case h3 => exact rfl)
    (case h4 => exact rfl)
    (case h5 => exact rfl)
    (case h6 => exact rfl))
  trivial
example : True := by
  k_with "V enterC" => (
    (case ho => k_is)
    (case hcd => k_is)
    (case hb => first | exact fun s Xs => BindsTo.of_eq rfl | exact fun s Xs => binds_K Xs rfl (by k_is) rfl rfl rfl)
    (case hl => exact rfl)
    (case h1 => decide +kernel)
    (case h2 => exact rfl)
    (case h3 => exact rfl)
    (case h4 => exact rfl)
    (case h5 => exact rfl)
    (case h6 => exact rfl)
    (case h7 => exact rfl))
  trivial
open Mine (LexA LexT LexOk CodeOf tabL lexTl lexD tokT)
section
variable {w : World} {b₀ : Heap} {loose : List Str} {mean : ExcName → Option Value} {mg mb : Str → Option Value} (H : Hd w b₀ loose mean mg mb) {D U : Nat} {c : Cx} {nm : List (Str × NameKind)} {tb : Tab} {fs : List (Str × Value)} {led : Led} {cs : List (Str × Addr × Option Value)}
include H
theorem op_lback {a : LexA} {L : Lx} {tl : Led} {ex : Bool} {K : Value → St → Prop} (ok : CxOk (G2 w) tb nm b₀ D U c) (hl : LexIs w a L tl) (hm : ∀ p ∈ tl, p ∈ led) (h : K (.ref a.pb) ⟨fs, led, cs⟩) : Op (G2 w) c (getAttr (.ref a.I) "pushback" ex) ⟨fs, led, cs⟩ K := by
  have k1 : plainGet (Kf w.params) 179 "pushback" = true := by k_is
  have k2 : hasDictIn (Kf w.params) 179 = true := by k_is
  have k3 : findIn (Kf w.params) (.ref 179) "pushback" = some none := by k_is
  have k4 : noGet (Kf w.params) none = true := by k_is
  refine ⟨fun s R => ?_⟩
  obtain ⟨tt, nd, I⟩ := lex_inst H ok hl hm R
  exact get_own (v := .ref a.pb) R.F (H.X.keeps fun b o e => ok.st b o e) I k1 k2 k3 k4 rfl rfl ⟨_, R.toks, h⟩
theorem op_lwhite {a : LexA} {L : Lx} {tl : Led} {ex : Bool} {K : Value → St → Prop} (ok : CxOk (G2 w) tb nm b₀ D U c) (hl : LexIs w a L tl) (hm : ∀ p ∈ tl, p ∈ led) (h : ∀ t, K (.str "\n\t\r " t) ⟨fs, led, cs⟩) : Op (G2 w) c (getAttr (.ref a.I) "whitespace" ex) ⟨fs, led, cs⟩ K := by
  have k1 : plainGet (Kf w.params) 179 "whitespace" = true := by k_is
  have k2 : hasDictIn (Kf w.params) 179 = true := by k_is
  have k3 : findIn (Kf w.params) (.ref 179) "whitespace" = some none := by k_is
  have k4 : noGet (Kf w.params) none = true := by k_is
  refine ⟨fun s R => ?_⟩
  obtain ⟨tt, nd, I⟩ := lex_inst H ok hl hm R
  exact get_own (v := .str "\n\t\r " _) R.F (H.X.keeps fun b o e => ok.st b o e) I k1 k2 k3 k4 rfl rfl ⟨_, R.toks, h _⟩
theorem op_lread {a : LexA} {L : Lx} {tl : Led} {ex : Bool} {K : Value → St → Prop} (ok : CxOk (G2 w) tb nm b₀ D U c) (hl : LexIs w a L tl) (hm : ∀ p ∈ tl, p ∈ led) (h : ∀ mo, K (.ref mo) ⟨fs, (mo, methodObj (.ref 162) (.ref a.I)) :: led, cs⟩) : Op (G2 w) c (getAttr (.ref a.I) "_read_char" ex) ⟨fs, led, cs⟩ K := by
  have k1 : plainGet (Kf w.params) 179 "_read_char" = true := by k_is
  have k2 : hasDictIn (Kf w.params) 179 = true := by k_is
  have k3 : findIn (Kf w.params) (.ref 179) "_read_char" = some (some (.ref 162)) := by k_is
  have k4 : isFn (Kf w.params) (.ref 162) = true := by k_is
  have k5 : specialIn (Kf w.params) (.ref 162) "__get__" = some (some (.builtin "function.__get__")) := by k_is
  have k6 : takesIn (Kf w.params) (.ref 162) = some false := by k_is
  refine ⟨fun s R => ?_⟩
  obtain ⟨tt, nd, I⟩ := lex_inst H ok hl hm R
  obtain ⟨news, N, _, _, back⟩ := R.viaN
  exact kbm_bound R.F (H.X.keeps fun b o e => ok.st b o e) N I k1 k2 k3 k4 k5 k6 (by decide +kernel) rfl fun q h' F' N' l => ⟨_, back q _ h' _ F' N' l, h q⟩
omit H in
theorem op_iterS {y : Gl} {mo : Addr} {f self : Value} {t : Tok} {K : Value → St → Prop} (hm : (mo, methodObj f self) ∈ led) (h : ∀ ci, K (.ref ci) ⟨fs, (ci, Mine.citObj mo t) :: led, cs⟩) : Op y c (call (.builtin "iter") [.ref mo, .str "" t]) ⟨fs, led, cs⟩ K := by
  refine ⟨fun s R => ?_⟩
  obtain ⟨news, N, hin, _, back⟩ := R.viaN
  exact Mine.iter_sent R.F N (hin _ hm) fun ci h' F' N' l _ => ⟨_, back ci _ h' _ F' N' l, h ci⟩
omit H in
theorem op_truthyE {y : Gl} {d : Addr} {n : Nat} {K : Bool → St → Prop} (hm : (d, listOf ([] : List Value).toArray n) ∈ led) (h : K false ⟨fs, led, cs⟩) : Op y c (truthy (.ref d)) ⟨fs, led, cs⟩ K := by
  refine ⟨fun s R => ?_⟩
  exact wpAny_truthy_list (R.isList hm) (by simp) ⟨_, R.toks, h⟩
omit H in
theorem op_iaddS {y : Gl} {x z : Str} {t u : Tok} {K : Value → St → Prop} (hz : x.length + z.length ≤ 3000) (h : ∀ t, K (.str (x ++ z) t) ⟨fs, led, cs⟩) : Op y c (inplaceOp .Add (.str x t) (.str z u)) ⟨fs, led, cs⟩ K := by
  refine ⟨fun s R => ?_⟩
  refine SBL.iadd (hsz := ?hsz) ?_
  case hsz => exact Nat.le_trans (show _ ≤ 3000 by k_extra "o") (by simp [sizeLine_eq])
  intro t' tk' hlen'
  exact ⟨_, R.toks, h t'⟩
theorem op_mChar {a : LexA} {L : Lx} {tl : Led} {pl : Sem Bool} {K : Value × List Value → St → Prop} (ok : CxOk (G2 w) tb nm b₀ D U c) (hl : LexIs w a L tl) (hm : ∀ p ∈ tl, p ∈ led) (h : K (.ref 162, [.ref a.I]) ⟨fs, led, cs⟩) : Op (G2 w) c (getMethod (.ref a.I) "_read_char" pl) ⟨fs, led, cs⟩ K := by
  have k1 : plainGet (Kf w.params) 179 "_read_char" = true := by k_is
  have k2 : findIn (Kf w.params) (.ref 179) "_read_char" = some (some (.ref 162)) := by k_is
  have k3 : isFn (Kf w.params) (.ref 162) = true := by k_is
  exact op_mLex H ok hl hm k1 k2 k3 (fun _ => rfl) h
end
noncomputable def forP : Option Stmt → Expr × List Stmt
  | some (.For t _ b _ _) => (t, b)
  | _ => (.Name "" ⟨0, 0, 0, 0⟩, [])
noncomputable def ifP : Option Stmt → List Stmt × List Stmt
  | some (.If _ b o _) => (b, o)
  | _ => ([], [])
noncomputable def lTok : Expr × List Stmt := forP (Mine.fB (Mine.mAt 10 2))[3]?
noncomputable def lQt : Expr × List Stmt := forP (ifP lTok.2[1]?).1[0]?
noncomputable def lWt : Expr × List Stmt := forP (ifP lTok.2[1]?).2[2]?
noncomputable abbrev nmT : List (Str × NameKind) := (Mine.fS (Mine.mAt 10 2)).names
noncomputable abbrev TS := Bool × Nat × Int × Led × Str × Tok × Nat
noncomputable def sT (ci mo : Addr) (t : Tok) (a : LexA) : TS → St
  | (e, _, _, tl, tok, u, _) => ⟨[("token", .str tok u), ("fiter", .ref ci), ("self", .ref a.I)], (ci, if e then Mine.citEnd else Mine.citObj mo t) :: (mo, methodObj (.ref 162) (.ref a.I)) :: tl, []⟩
noncomputable def muT : TS → Nat
  | (e, _, _, _, _, _, k) => if e then 0 else k + 1
inductive TInv (w : World) (tx : Str) (a : LexA) (R : Str × Nat × Int) (f : Nat → Str → Nat → Int → Str × Nat × Int) (c : Str → Nat → Prop) : TS → Prop
  | go (i : Nat) (ln : Int) (tl : Led) (tok : Str) (u : Tok) (k : Nat) (hi : i ≤ tx.length) (hl : LexAt w a [] i ln tl) (hc : c tok i) (hk : tx.length < k + i) (hT : f k tok i ln = R) : TInv w tx a R f c (false, i, ln, tl, tok, u, k)
  | fin (i : Nat) (ln : Int) (tl : Led) (tok : Str) (u : Tok) (hl : LexAt w a [] i ln tl) (hT : (tok, i, ln) = R) : TInv w tx a R f c (true, i, ln, tl, tok, u, 0)
section
variable {w : World} {b₀ : Heap} {loose : List Str} {mean : ExcName → Option Value} {mg mb : Str → Option Value} (H : Hd w b₀ loose mean mg mb) {D U : Nat} {c : Cx}
include H
theorem loopQt (ok : CxOk (G2 w) tb2 nmT b₀ D U c) (hd : 12 ≤ D) (hu : 120 ≤ U) {K : Flow → St → Prop} {tx : Str} (hx : tx.length ≤ 1000) {a : LexA} (lo : LexOk w b₀ tx a) {ci mo : Addr} {t : Tok} {R : Str × Nat × Int} {σ : St} {i : Nat} {ln : Int} {tl : Led} {tok : Str} {u : Tok} {k : Nat} (hz : TInv w tx a R (Mine.tokQ tx) (fun tok i => tok.length ≤ i) (false, i, ln, tl, tok, u, k)) (hw : Weak σ (sT ci mo t a (false, i, ln, tl, tok, u, k)))
    (h : ∀ i ln tl tok u, LexAt w a [] i ln tl → (tok, i, ln) = R → K .next (sT ci mo t a (true, i, ln, tl, tok, u, 0)))
    (hr : ∀ i ln tl tok u f o, LexAt w a [] i ln tl → (tok, i, ln) = R → K (.ret (.str tok u)) ⟨f, o ++ tl, []⟩) : OpFor (G2 w) c lQt.1 lQt.2 (.ref ci) σ K := by
  refine op_forI (it := .ref ci) (sT ci mo t a) (TInv w tx a R (Mine.tokQ tx) fun tok i => tok.length ≤ i) muT ok rfl ?src ?turn
  case src =>
    intro s R0
    have R1 := Rep.weak hw R0
    exact Mine.cit_self (R1.get (List.mem_cons_self (a := (ci, Mine.citObj mo t)))) ⟨rfl, _, hz, R1⟩
  case turn =>
    intro K' z hz nx rt
    cases hz with
    | fin i ln tl tok u hl hT => exact op_nextE H ok (h i ln tl tok u hl hT)
    | go i ln tl tok u k hi hl hc hk hT =>
      refine op_nextC H ok (by k_extra "o") (by k_extra "o") lo hi hl (fun u0 tl' hne hl' => ?_) fun tl' he hl' => ?_
      · have hp1 := Mine.piece_pos hi hne
        have hp2 := (Mine.piece_le tx i hi).2
        rw [Mine.tokQ_s (by k_extra "o"), if_neg hne] at hT
        intro t1
        refine IfK.mk (fun c1 => ?_) fun c1 => ?_
        · rw [if_pos (beq_iff_eq.mp c1)] at hT
          exact rt _ _ (hr _ _ _ _ _ _ [_, _] hl' hT)
        · rw [if_neg (fun e => by rw [e] at c1; cases c1)] at hT
          intro t2
          refine IfK.mk (fun c2 => ?_) fun c2 => ?_
          · rw [if_pos (beq_iff_eq.mp c2)] at hT
            have hp3 := Mine.piece_le tx _ hp2
            intro pl
            refine op_mChar H (L := ⟨[], _, _⟩) ok hl' (fun _ h => .tail _ (.tail _ h)) ?_
            refine ⟨trivial, ?_⟩
            refine op_callT [(ci, Mine.citObj mo t), (mo, methodObj (.ref 162) (.ref a.I))] ok (char_fc H tx a lo _ hp2 _ tl' hl') (by k_extra "o") (by k_extra "o") (.refl _) ?_
            intro u2 tl2 hl2
            refine op_iaddS (by k_extra "o") fun t3 => ?_
            exact (nx _ (false, _, _, tl2, _, t3, k - 1) (.go _ _ _ _ _ _ hp3.2 hl2 (by rw [PySem.Str.length_append]; k_extra "o") (by k_extra "o") hT) (show k - 1 + 1 < k + 1 by k_extra "o") (.s rfl)).1
          · rw [if_neg (fun e => by rw [e] at c2; cases c2)] at hT
            refine op_iaddS (by k_extra "o") fun t3 => ?_
            exact (nx _ (false, _, _, tl', _, t3, k - 1) (.go _ _ _ _ _ _ hp2 hl' (by rw [PySem.Str.length_append]; k_extra "o") (by k_extra "o") hT) (show k - 1 + 1 < k + 1 by k_extra "o") (.s rfl)).1
      · rw [Mine.tokQ_s (by k_extra "o"), if_pos he] at hT
        exact h _ _ _ _ _ hl' hT
theorem loopWt (ok : CxOk (G2 w) tb2 nmT b₀ D U c) (hd : 12 ≤ D) (hu : 120 ≤ U) {K : Flow → St → Prop} {tx : Str} (hx : tx.length ≤ 1000) {a : LexA} (lo : LexOk w b₀ tx a) {ci mo : Addr} {t : Tok} {R : Str × Nat × Int} {σ : St} {i : Nat} {ln : Int} {tl : Led} {tok : Str} {u : Tok} {k : Nat} (hz : TInv w tx a R (Mine.tokW tx) (fun tok i => tok.length ≤ i) (false, i, ln, tl, tok, u, k)) (hw : Weak σ (sT ci mo t a (false, i, ln, tl, tok, u, k)))
    (h : ∀ i ln tl tok u, LexAt w a [] i ln tl → (tok, i, ln) = R → K .next (sT ci mo t a (true, i, ln, tl, tok, u, 0)))
    (hr : ∀ i ln tl tok u f o, LexAt w a [] i ln tl → (tok, i, ln) = R → K (.ret (.str tok u)) ⟨f, o ++ tl, []⟩) : OpFor (G2 w) c lWt.1 lWt.2 (.ref ci) σ K := by
  refine op_forI (it := .ref ci) (sT ci mo t a) (TInv w tx a R (Mine.tokW tx) fun tok i => tok.length ≤ i) muT ok rfl ?src ?turn
  case src =>
    intro s R0
    have R1 := Rep.weak hw R0
    exact Mine.cit_self (R1.get (List.mem_cons_self (a := (ci, Mine.citObj mo t)))) ⟨rfl, _, hz, R1⟩
  case turn =>
    intro K' z hz nx rt
    cases hz with
    | fin i ln tl tok u hl hT => exact op_nextE H ok (h i ln tl tok u hl hT)
    | go i ln tl tok u k hi hl hc hk hT =>
      refine op_nextC H ok (by k_extra "o") (by k_extra "o") lo hi hl (fun u0 tl' hne hl' => ?_) fun tl' he hl' => ?_
      · have hp1 := Mine.piece_pos hi hne
        have hp2 := (Mine.piece_le tx i hi).2
        rw [Mine.tokW_s (by k_extra "o"), if_neg hne] at hT
        refine op_lwhite H (L := ⟨[], _, _⟩) ok hl' (fun _ h => .tail _ (.tail _ h)) fun t1 => ?_
        refine op_inS ?_
        refine IfK.mk (fun c1 => ?_) fun c1 => ?_
        · have z : (!Mine.notWhite (Mine.piece tx i)) = true := c1
          rw [if_pos (by simpa using z)] at hT
          exact rt _ _ (hr _ _ _ _ _ _ [_, _] hl' hT)
        · have z : (!Mine.notWhite (Mine.piece tx i)) = false := c1
          rw [if_neg (by simpa using z)] at hT
          intro t2
          refine IfK.mk (fun c2 => ?_) fun c2 => ?_
          · rw [if_pos (beq_iff_eq.mp c2)] at hT
            have hp3 := Mine.piece_le tx _ hp2
            intro pl
            refine op_mChar H (L := ⟨[], _, _⟩) ok hl' (fun _ h => .tail _ (.tail _ h)) ?_
            refine ⟨trivial, ?_⟩
            refine op_callT [(ci, Mine.citObj mo t), (mo, methodObj (.ref 162) (.ref a.I))] ok (char_fc H tx a lo _ hp2 _ tl' hl') (by k_extra "o") (by k_extra "o") (.refl _) ?_
            intro u2 tl2 hl2
            refine op_iaddS (by k_extra "o") fun t3 => ?_
            exact (nx _ (false, _, _, tl2, _, t3, k - 1) (.go _ _ _ _ _ _ hp3.2 hl2 (by rw [PySem.Str.length_append]; k_extra "o") (by k_extra "o") hT) (show k - 1 + 1 < k + 1 by k_extra "o") (.s rfl)).1
          · rw [if_neg (fun e => by rw [e] at c2; cases c2)] at hT
            refine op_iaddS (by k_extra "o") fun t3 => ?_
            exact (nx _ (false, _, _, tl', _, t3, k - 1) (.go _ _ _ _ _ _ hp2 hl' (by rw [PySem.Str.length_append]; k_extra "o") (by k_extra "o") hT) (show k - 1 + 1 < k + 1 by k_extra "o") (.s rfl)).1
      · rw [Mine.tokW_s (by k_extra "o"), if_pos he] at hT
        exact h _ _ _ _ _ hl' hT
end
section
variable {w : World} {b₀ : Heap} {loose : List Str} {mean : ExcName → Option Value} {mg mb : Str → Option Value} (H : Hd w b₀ loose mean mg mb)
include H
theorem tokV_fc (tx : Str) (hx : tx.length ≤ 1000) (a : LexA) (lo : LexOk w b₀ tx a) (i : Nat) (hi : i ≤ tx.length) (ln : Int) (tl : Led) (hl : LexAt w a [] i ln tl) : FC (G2 w) b₀ 20 200 (.ref 169) ⟨[.ref a.I], []⟩ tl
    (fun k => ∀ u tl', LexAt w a [] (tokT tx (tx.length + 1) i ln).2.1 (tokT tx (tx.length + 1) i ln).2.2 tl' → k (.str (tokT tx (tx.length + 1) i ln).1 u) tl') := by
  generalize hR : tokT tx (tx.length + 1) i ln = R
  refine' enterV (D := 19) (U := 197) (tb := tb2) (binds := [("self", .ref a.I)]) H.X H.T (tb2_ok w) ?ho ?hcd ?hb ?hl ?h ?h1 ?h2 ?h3 ?h4 ?h5 ?h6
  walk_at "V enter"
  intro q c hq ok _
  refine op_lback H (L := ⟨[], i, ln⟩) ok hl (fun _ h => h) ?_
  have hpb : ∃ n, (a.pb, listOf ([] : List Value).toArray n) ∈ tl := by
    obtain ⟨tt, nd, vs, np, tp, na, hs⟩ := hl
    cases hs
    exact ⟨np, .head _⟩
  obtain ⟨np, hpb⟩ := hpb
  refine op_truthyE hpb ?_
  refine IfK.no rfl ?_
  intro t0
  refine op_lread H (L := ⟨[], i, ln⟩) ok hl (fun _ h => h) fun mo => ?_
  intro t1
  refine ⟨trivial, ?_⟩
  refine op_iterS (.head _) fun ci => ?_
  have done : ∀ i ln tl tok u f o, LexAt w a [] i ln tl → (tok, i, ln) = R → EndK q (.ret (.str tok u)) ⟨f, o ++ tl, []⟩ := fun i ln tl tok u f o h1 h2 => by
    subst h2
    exact ⟨tl, o, List.perm_append_comm, hq u tl h1⟩
  have e0 : ("" : Str).length = 0 := rfl
  refine op_forI (it := .ref ci) (sT ci mo t1 a) (TInv w tx a R (fun k _ i ln => tokT tx k i ln) fun tok _ => tok = "") muT ok rfl ?src ?turn
  case src =>
    intro s R0
    exact Mine.cit_self (R0.get (List.mem_cons_self (a := (ci, Mine.citObj mo t1)))) ⟨rfl, (false, i, ln, tl, "", t0, tx.length + 1), .go _ _ _ _ _ _ hi hl rfl (by k_extra "o") hR, R0.weak (.s rfl)⟩
  case turn =>
    intro K' z hz nx rt
    cases hz with
    | fin i ln tl tok u hl hT =>
      exact op_nextE H ok (done _ _ _ _ _ _ [_, _] hl hT)
    | go i ln tl tok u k hi hl hc hk hT =>
      subst hc
      refine op_nextC H ok (by decide) (by decide) lo hi hl (fun u0 tl' hne hl' => ?_) fun tl' he hl' => ?_
      · have hp1 := Mine.piece_pos hi hne
        have hp2 := (Mine.piece_le tx i hi).2
        rw [Mine.tokT_s (by k_extra "o"), if_neg hne] at hT
        refine op_lwhite H (L := ⟨[], _, _⟩) ok hl' (fun _ h => .tail _ (.tail _ h)) fun t9 => ?_
        refine op_inS ?_
        refine IfK.mk (fun c1 => ?_) fun c1 => ?_
        · have z : (!Mine.notWhite (Mine.piece tx i)) = true := c1
          rw [if_pos (by simpa using z)] at hT
          exact (nx _ (false, _, _, tl', "", u, k - 1) (.go _ _ _ _ _ _ hp2 hl' rfl (by k_extra "o") hT) (show k - 1 + 1 < k + 1 by k_extra "o") (.s rfl)).2
        · have z : (!Mine.notWhite (Mine.piece tx i)) = false := c1
          rw [if_neg (by simpa using z)] at hT
          intro t2
          refine IfK.mk (fun c2 => ?_) fun c2 => ?_
          · rw [if_pos (beq_iff_eq.mp c2)] at hT
            refine loopQt H ok (by decide) (by decide) hx lo (k := k - 1) (.go _ _ _ _ _ _ hp2 hl' (Nat.zero_le _) (by k_extra "o") hT) (.s rfl) (fun i ln tl tok u h1 h2 => ?_) fun i ln tl tok u f o h1 h2 => ?_
            · exact (nx _ (true, i, ln, tl, tok, u, 0) (.fin _ _ _ _ _ h1 h2) (Nat.succ_pos _) (.s rfl)).1
            · exact rt _ _ (done _ _ _ _ _ _ _ h1 h2)
          · rw [if_neg (fun e => by rw [e] at c2; cases c2)] at hT
            intro t3
            have back : ∀ i ln tl tok u, LexAt w a [] i ln tl → (tok, i, ln) = R → K' .next (sT ci mo t1 a (true, i, ln, tl, tok, u, 0)) := fun i ln tl tok u h1 h2 => (nx _ (true, i, ln, tl, tok, u, 0) (.fin _ _ _ _ _ h1 h2) (Nat.succ_pos _) (.s rfl)).1
            refine IfK.mk (fun c3 => ?_) fun c3 => ?_
            · rw [if_pos (beq_iff_eq.mp c3)] at hT
              have hp3 := Mine.piece_le tx _ hp2
              intro pl
              refine op_mChar H (L := ⟨[], _, _⟩) ok hl' (fun _ h => .tail _ (.tail _ h)) ?_
              refine ⟨trivial, ?_⟩
              refine op_callT [(ci, Mine.citObj mo t1), (mo, methodObj (.ref 162) (.ref a.I))] ok (char_fc H tx a lo _ hp2 _ tl' hl') (by decide) (by decide) (.refl _) ?_
              intro u2 tl2 hl2
              refine op_iaddS (by k_extra "o") fun t4 => ?_
              exact loopWt H ok (by decide) (by decide) hx lo (k := k - 1) (.go _ _ _ _ _ _ hp3.2 hl2 (by rw [PySem.Str.length_append]; k_extra "o") (by k_extra "o") hT) (.s rfl) back fun i ln tl tok u f o h1 h2 => rt _ _ (done _ _ _ _ _ _ _ h1 h2)
            · rw [if_neg (fun e => by rw [e] at c3; cases c3)] at hT
              refine op_iaddS (by k_extra "o") fun t4 => ?_
              exact loopWt H ok (by decide) (by decide) hx lo (k := k - 1) (.go _ _ _ _ _ _ hp2 hl' (by rw [PySem.Str.length_append]; k_extra "o") (by k_extra "o") hT) (.s rfl) back fun i ln tl tok u f o h1 h2 => rt _ _ (done _ _ _ _ _ _ _ h1 h2)
      · rw [Mine.tokT_s (by k_extra "o"), if_pos he] at hT
        exact done _ _ _ _ _ _ [_, _] hl' hT
end
end MineV
end
end

section
noncomputable section
namespace MineV
open PySem PySem.W PyProof.Rows PySem.Calls PySem.Spec
open Mine (Kf accOf)
example : True := by
  k_with "V enter" => (
    (case ho => k_is)
    (case hcd => k_is)
    (case hb => first | exact fun s Xs => BindsTo.of_eq rfl | exact fun s Xs => binds_K Xs rfl (by k_is) rfl rfl rfl)
    (case hl => exact locs rfl)
    (case h1 => decide)
    (case h2 => exact rfl)
    (case h3 => exact rfl)
    (case h4 => exact rfl)
    (case h5 => exact rfl)
    (case h6 => exact rfl))
  trivial
example : True := by
  k_with "V enterC" => (
    (case ho => k_is)
    (case hcd => k_is)
    (case hb => first | exact fun s Xs => BindsTo.of_eq rfl | exact fun s Xs => binds_K Xs rfl (by k_is) rfl rfl rfl)
    (case hl => exact rfl)
    (case h1 => decide +kernel)
    (case h2 => exact rfl)
    (case h3 => exact rfl)
    (case h4 => exact rfl)
    (case h5 => exact rfl)
    (case h6 => exact rfl)
    (case h7 => exact rfl))
  trivial
open Mine (LexA LexT LexOk CodeOf tabL lexTl lexD tokT)
section
variable {w : World} {b₀ : Heap} {loose : List Str} {mean : ExcName → Option Value} {mg mb : Str → Option Value} (H : Hd w b₀ loose mean mg mb)
include H
theorem pushV_fc (a : LexA) (x : Str) (t : Tok) (q : List Str) (hq : q.length ≤ 800) (i : Nat) (ln : Int) (tl : Led) (hl : LexAt w a q i ln tl) : FC (G2 w) b₀ 4 40 (.ref 176) ⟨[.ref a.I, .str x t], []⟩ tl
    (fun k => ∀ v tl', LexAt w a (q ++ [x]) i ln tl' → k v tl') := by
  refine' enterV (D := 3) (U := 37) (tb := tb2) (binds := [("self", .ref a.I), ("token", .str x t)]) H.X H.T (tb2_ok w) ?ho ?hcd ?hb ?hl ?h ?h1 ?h2 ?h3 ?h4 ?h5 ?h6
  walk_at "V enter"
  intro k c hk ok _
  refine op_lback H (L := ⟨q, i, ln⟩) ok hl (fun _ h => h) ?_
  obtain ⟨tt, nd, vs, np, tp, na, hs⟩ := hl
  intro pl
  refine op_mAppend (.head _) ?_
  refine ⟨trivial, ?_⟩
  refine op_append .here (by rw [hs.len_eq]; k_extra "o") ?_
  exact ⟨_, [], by rw [List.append_nil]; exact .refl _, hk _ _ (.mk tt nd (vs ++ [.str x t]) (np + 1) tp na (Mine.strs_app hs (.cons _ t .nil)))⟩
theorem tokPV_fc (a : LexA) (x : Str) (q : List Str) (hq : q.length ≤ 800) (i : Nat) (ln : Int) (tl : Led) (hl : LexAt w a (x :: q) i ln tl) : FC (G2 w) b₀ 4 40 (.ref 169) ⟨[.ref a.I], []⟩ tl
    (fun k => ∀ u tl', LexAt w a q i ln tl' → k (.str x u) tl') := by
  refine' enterV (D := 3) (U := 37) (tb := tb2) (binds := [("self", .ref a.I)]) H.X H.T (tb2_ok w) ?ho ?hcd ?hb ?hl ?h ?h1 ?h2 ?h3 ?h4 ?h5 ?h6
  walk_at "V enter"
  intro k c hk ok _
  refine op_lback H (L := ⟨x :: q, i, ln⟩) ok hl (fun _ h => h) ?_
  have hl0 := hl
  obtain ⟨tt, nd, vs, np, tp, na, hs⟩ := hl
  cases hs with
  | cons _ tv hs' =>
  rename_i vs'
  have hv : (Value.str x tv :: vs').length ≤ 1000 := by rw [List.length_cons, hs'.len_eq]; k_extra "o"
  refine Op.mono (α := Bool) (K := fun v σ => v = true ∧ σ = ⟨[("self", .ref a.I)], lexTl w a ln tt nd (.str x tv :: vs') np i tp na, []⟩) ⟨fun s R => wpAny_truthy_list (R.isList (.head _)) (by have := hs'.len_eq; simp; k_extra "o") ⟨_, R.toks, rfl, rfl⟩⟩ ?_
  rintro v σ ⟨rfl, rfl⟩
  refine IfK.yes rfl ?_
  refine op_lback H (L := ⟨x :: q, i, ln⟩) ok hl0 (fun _ h => h) ?_
  intro pl
  refine op_mPop (.head _) ?_
  intro t1
  refine ⟨trivial, ?_⟩
  refine op_popS (i := 0) .here (.cons _ tv hs') rfl (Nat.succ_pos _) hv fun u => ?_
  exact ⟨_, [], by rw [List.append_nil]; exact .refl _, hk u _ (.mk tt nd vs' (np + 1) tp na hs')⟩
end
end MineV
end
end

section
noncomputable section
namespace MineV
open PySem PySem.W PyProof.Rows PySem.Calls PySem.Spec
open Mine (Kf accOf)
example : True := by
  k_with "V enter" => (
    (case ho => k_is)
    (case hcd => k_is)
    (case hb => first | exact fun s Xs => BindsTo.of_eq rfl | exact fun s Xs => binds_K Xs rfl (by k_is) rfl rfl rfl)
    (case hl => exact locs rfl)
    (case h1 => decide)
    (case h2 => exact rfl)
    (case h3 => exact rfl)
    (case h4 => exact rfl)
    (case h5 => exact rfl)
    (case h6 => exact rfl))
  trivial
example : True := by
  k_with "V enterC" => (
    (case ho => k_is)
    (case hcd => k_is)
    (case hb => first | exact fun s Xs => BindsTo.of_eq rfl | exact fun s Xs => binds_K Xs rfl (by k_is) rfl rfl rfl)
    (case hl => exact rfl)
    (case h1 => decide +kernel)
    (case h2 => exact rfl)
    (case h3 => exact rfl)
    (case h4 => exact rfl)
    (case h5 => exact rfl)
    (case h6 => exact rfl)
    (case h7 => exact rfl))
  trivial
open Mine (LexA LexT LexOk CodeOf tabL lexTl lexD tokT)
section
variable {tb : Tab} {nm : List (Str × NameKind)} {b₀ : Heap} {D U : Nat} {c : Cx} {fs : List (Str × Value)} {led : Led} {cs : List (Str × Addr × Option Value)} {w : World}
variable {loose : List Str} {mean : ExcName → Option Value} {mg mb : Str → Option Value} (H : Hd w b₀ loose mean mg mb)
include H
theorem tok_fc (tx : Str) (hx : tx.length ≤ 1000) (a : LexA) (ok : LexOk w b₀ tx a) (L : Lx) (hi : L.i ≤ tx.length) (hq : L.q.length ≤ 800) (tl : Led) (hl : LexIs w a L tl) : FC (G2 w) b₀ 20 200 (.ref 169) ⟨[.ref a.I], []⟩ tl
    (fun k => ∀ u tl', LexIs w a (L.tok tx).2 tl' → k (.str (L.tok tx).1 u) tl') := by
  obtain ⟨q, i, ln⟩ := L
  cases q with
  | nil => exact tokV_fc H tx hx a ok i hi ln tl hl
  | cons x r => exact (tokPV_fc H a x r (by simp at hq; k_extra "o") i ln tl hl).le (by decide) (by decide)
theorem op_tok {tx : Str} {a : LexA} {L : Lx} {tl pre : Led} {K : Value → St → Prop} (ok : CxOk (G2 w) tb nm b₀ D U c) (hd : 20 ≤ D) (hu : 200 ≤ U) (hx : tx.length ≤ 1000) (lo : LexOk w b₀ tx a) (hi : L.i ≤ tx.length) (hq : L.q.length ≤ 800) (hl : LexIs w a L tl) (hp : led.Perm (pre ++ tl))
    (h : ∀ u tl', LexIs w a (L.tok tx).2 tl' → K (.str (L.tok tx).1 u) ⟨fs, pre ++ tl', cs⟩) : Op (G2 w) c (call (.ref 169) [.ref a.I]) ⟨fs, led, cs⟩ K :=
  op_callT pre ok (tok_fc H tx hx a lo L hi hq tl hl) hd hu hp h
theorem op_pushT {tx : Str} {a : LexA} {L : Lx} {tl pre : Led} {x : Str} {t : Tok} {K : Value → St → Prop} (ok : CxOk (G2 w) tb nm b₀ D U c) (hd : 20 ≤ D) (hu : 200 ≤ U) (lo : LexOk w b₀ tx a) (hq : L.q.length ≤ 800) (hl : LexIs w a L tl) (hp : led.Perm (pre ++ tl))
    (h : ∀ v tl', LexIs w a (L.push x) tl' → K v ⟨fs, pre ++ tl', cs⟩) : Op (G2 w) c (call (.ref 176) [.ref a.I, .str x t]) ⟨fs, led, cs⟩ K :=
  op_callT pre ok (pushV_fc H a x t L.q hq L.i L.ln tl hl) (by k_extra "o") (by k_extra "o") hp h
end
end MineV
end
end

section
noncomputable section
namespace MineV
open PySem PySem.W PyProof.Rows PySem.Calls PySem.Spec
open Mine (Kf accOf)
example : True := by
  k_with "V enter" => (
    (case ho => k_is)
    (case hcd => k_is)
    (case hb => first | exact fun s Xs => BindsTo.of_eq rfl | exact fun s Xs => binds_K Xs rfl (by k_is) rfl rfl rfl)
    (case hl => exact locs rfl)
    (case h1 => decide)
    (case h2 => exact rfl)
    (case h3 => exact rfl)
    (case h4 => exact rfl)
    (case h5 => exact rfl)
    (case h6 => exact rfl))
  trivial
example : True := by
  k_with "V enterC" => (
    (case ho => k_is)
    (case hcd => k_is)
    (case hb => first | exact fun s Xs => BindsTo.of_eq rfl | exact fun s Xs => binds_K Xs rfl (by k_is) rfl rfl rfl)
    (case hl => exact rfl)
    (case h1 => decide +kernel)
    (case h2 => exact rfl)
    (case h3 => exact rfl)
    (case h4 => exact rfl)
    (case h5 => exact rfl)
    (case h6 => exact rfl)
    (case h7 => exact rfl))
  trivial
open Mine (LexA LexT LexOk CodeOf tabL lexTl lexD tokT)
noncomputable abbrev nmL : List (Str × NameKind) := (Mine.fS (Mine.fAt 17)).names
noncomputable def csL (a : Nat) (pr lx co off : Option Value) : List (Str × Addr × Option Value) := [("often", a + 3, off), ("coins", a + 2, co), ("lexer", a + 1, lx), ("prices", a, pr)]
noncomputable def nm5 : List Str := ["\"a", "\\b", "#c", "\nd", "\te"]
noncomputable def forOf : Option Stmt → Expr × List Stmt
  | some (.For t _ b _ _) => (t, b)
  | _ => (.Name "" ⟨0, 0, 0, 0⟩, [])
noncomputable def lF (i : Nat) : Expr × List Stmt := forOf (Mine.fB (Mine.fAt 17))[i]?
theorem fmod_nat (i m : Nat) : (i : Int).fmod (m : Int) = ((i % m : Nat) : Int) := by
  rw [Int.fmod_eq_emod_of_nonneg _ (Int.natCast_nonneg m)]; rfl
theorem ints_set : ∀ {vs : List Value} {ns : List Int}, IntsAre vs ns → ∀ (i : Nat) (z : Int) (t : Tok), IntsAre (vs.set i (.int z t)) (ns.set i z)
  | _, _, .nil, _, _, _ => .nil
  | _, _, .cons x u h, 0, z, t => .cons z t h
  | _, _, .cons x u h, i + 1, z, t => .cons x u (ints_set h i z t)
section
variable {w : World} {b₀ : Heap} {loose : List Str} {mean : ExcName → Option Value} {mg mb : Str → Option Value} (H : Hd w b₀ loose mean mg mb) {D U : Nat} {c : Cx} {cs : List (Str × Addr × Option Value)}
include H
omit H in
theorem loop1 (ok : CxOk (G2 w) tb2 nmL b₀ D U c) {K : Flow → St → Prop} {sa Dn r : Addr} {sv nv : List Value} {sn nn : Nat} {script ni : List Int} {led : Led} {a u v : Tok} (hs : IntsAre sv script) (hl : script.length ≤ 63) (hn : IntsAre nv ni) (h5 : ni.length = 5)
    (h : ∀ nv ni nn, IntsAre nv ni → ni.length = 5 → K .next ⟨[("numbers", .ref Dn), ("script", .ref sa)], (Dn, listOf nv.toArray nn) :: (sa, listOf sv.toArray sn) :: led, cs⟩) :
    OpFor (G2 w) c (lF 1).1 (lF 1).2 (.ref r) ⟨[("numbers", .ref Dn), ("script", .ref sa)], (r, rangeOf 0 (sv.length : Int) 1 a u v) :: (Dn, listOf nv.toArray nn) :: (sa, listOf sv.toArray sn) :: led, cs⟩ K := by
  have hsl := IntsAre.length hs
  refine op_forG (fun _ ((nv, ni, nn) : List Value × List Int × Nat) => ⟨[("numbers", .ref Dn), ("script", .ref sa)], (Dn, listOf nv.toArray nn) :: (sa, listOf sv.toArray sn) :: led, cs⟩)
    (fun _ (nv, ni, nn) => IntsAre nv ni ∧ ni.length = 5) ok (src_range (n := sv.length) (by k_extra "o") rfl) (iq := []) rfl ?turn ?done (nv, ni, nn) ⟨hn, h5⟩ (.p (r := []) rfl (by rw [List.append_nil]; exact List.perm_append_comm (l₁ := [_])))
  case done =>
    rintro ⟨nv, ni, nn⟩ ⟨g1, g2⟩
    have := h nv ni nn g1 g2
    show K .next ⟨_, _ ++ [], _⟩
    rw [List.append_nil]; exact this
  rintro c2 K2 j ⟨nv, ni, nn⟩ v ok2 _ hj ⟨_, tj, rfl⟩ nx bk rt ⟨g1, g2⟩
  refine op_nameT ok2 rfl ?_
  have gl := IntsAre.length g1
  have hm : j % 5 < 5 := Nat.mod_lt _ (by decide)
  obtain ⟨t1, e1⟩ := IntsAre.get g1 (j % 5) (ni.getD (j % 5) 0) (by rw [List.getD_eq_getElem?_getD, List.getElem?_eq_getElem (by k_extra "o")]; rfl)
  obtain ⟨t2, e2⟩ := IntsAre.get hs j (script.getD j 0) (by rw [List.getD_eq_getElem?_getD, List.getElem?_eq_getElem (by k_extra "o")]; rfl)
  intro u1
  refine op_mod rfl fun u2 => ?_
  refine op_item (.head _) (fmod_nat j 5) e1 (by k_extra "o") ?_ (fun _ _ => rfl) fun _ => rfl
  refine op_item (.tail _ (.head _)) rfl e2 (by k_extra "o") ?_ (fun _ _ => rfl) fun _ => rfl
  intro u3 u4
  refine op_mod rfl fun u5 => ?_
  refine op_setItem .here (fmod_nat j 5) (by k_extra "o") (by k_extra "o") fun n' => ?_
  exact (nx _ (_, _, n') ⟨ints_set g1 _ _ u3, by rw [List.length_set]; exact g2⟩ (.s rfl)).1
end
end MineV
end
end

section
noncomputable section
namespace MineV
open PySem PySem.W PyProof.Rows PySem.Calls PySem.Spec
open Mine (Kf accOf)
example : True := by
  k_with "V enter" => (
    (case ho => k_is)
    (case hcd => k_is)
    (case hb => first | exact fun s Xs => BindsTo.of_eq rfl | exact fun s Xs => binds_K Xs rfl (by k_is) rfl rfl rfl)
    (case hl => exact locs rfl)
    (case h1 => decide)
    (case h2 => exact rfl)
    (case h3 => exact rfl)
    (case h4 => exact rfl)
    (case h5 => exact rfl)
    (case h6 => exact rfl))
  trivial
example : True := by
  k_with "V enterC" => (
    (case ho => k_is)
    (case hcd => k_is)
    (case hb => first | exact fun s Xs => BindsTo.of_eq rfl | exact fun s Xs => binds_K Xs rfl (by k_is) rfl rfl rfl)
    (case hl => exact rfl)
    (case h1 => decide +kernel)
    (case h2 => exact rfl)
    (case h3 => exact rfl)
    (case h4 => exact rfl)
    (case h5 => exact rfl)
    (case h6 => exact rfl)
    (case h7 => exact rfl))
  trivial
open Mine (LexA LexT LexOk CodeOf tabL lexTl lexD tokT)
noncomputable def It.pr2 (i : It) : Str × Str := (i.a, i.b)
noncomputable def Acc.prs (A : Acc) : List (Str × Str) := A.its.map It.pr2
noncomputable def lenP (l : List (Str × Str)) : Nat := (l.map fun q => q.1.length + q.2.length).sum
noncomputable def strP : List (Str × Str) → Str
  | [] => ""
  | q :: r => (q.1 ++ q.2) ++ strP r
theorem key_prs (A : Acc) : A.key = lenP A.prs := by
  unfold Acc.key Acc.prs lenP
  induction A.its with
  | nil => rfl
  | cons i r ih => simp only [lenOf, List.map_cons, List.sum_cons, ih]; rfl
theorem str_prs (A : Acc) : strOf A.its = strP A.prs := by
  unfold Acc.prs
  induction A.its with
  | nil => rfl
  | cons i r ih => simp only [strOf, List.map_cons, strP, ih]; rfl
noncomputable def Small (n : Nat) (l : List (Str × Str)) : Prop := l.length ≤ n ∧ ∀ q ∈ l, q.1.length ≤ 10 ∧ q.2.length ≤ 10
theorem small_ok {A : Acc} {n : Nat} (h : Small n A.prs) (hn : n ≤ 100) : A.Ok := by
  refine ⟨?_, fun i hi => ?_⟩
  · have := h.1; unfold Acc.prs at this; rw [List.length_map] at this; k_extra "o"
  · have := h.2 (i.a, i.b) (List.mem_map_of_mem hi)
    exact ⟨Nat.le_trans this.1 (by decide), Nat.le_trans this.2 (by decide)⟩
theorem prs_len (A : Acc) : A.prs.length = A.its.length := List.length_map _
theorem push_prs (A : Acc) (i : It) : (A.push i).prs = A.prs ++ [i.pr2] := by unfold Acc.push Acc.prs; rw [List.map_append]; rfl
section
variable {w : World} {b₀ : Heap} {loose : List Str} {mean : ExcName → Option Value} {mg mb : Str → Option Value} (H : Hd w b₀ loose mean mg mb) {D U : Nat} {c : Cx} {cs : List (Str × Addr × Option Value)}
include H
theorem loop6 (ok : CxOk (G2 w) tb2 nmL b₀ D U c) (hd : 6 ≤ D) (hu : 60 ≤ U) {K : Flow → St → Prop} {Dp Dm : Addr} {its : List It} {np : Nat} {A0 : Acc} {t : AT} {led : Led} (hi : its.length ≤ 50) (h0 : A0.its = [])
    (h : ∀ A, A.x = A0.x → A.prs = its.map It.pr2 → K .next ⟨[("page", .ref A0.x), ("pieces", .ref Dp), ("names", .ref Dm)], AL w t [A] ++ (its.map It.cell ++ led) ++ [(Dp, listOf (its.map fun i => Value.ref i.p).toArray np)], cs⟩) :
    OpFor (G2 w) c (lF 6).1 (lF 6).2 (.ref Dp) ⟨[("page", .ref A0.x), ("pieces", .ref Dp), ("names", .ref Dm)], AL w t [A0] ++ (its.map It.cell ++ led) ++ [(Dp, listOf (its.map fun i => Value.ref i.p).toArray np)], cs⟩ K := by
  refine op_forG (fun _ (A : Acc) => ⟨[("page", .ref A0.x), ("pieces", .ref Dp), ("names", .ref Dm)], AL w t [A] ++ (its.map It.cell ++ led), cs⟩)
    (fun j A => A.x = A0.x ∧ A.prs = (its.take j).map It.pr2) ok (src_list (vs := its.map fun i => Value.ref i.p) (nn := np) rfl) (iq := [0]) rfl ?turn ?done A0 ⟨rfl, by unfold Acc.prs; rw [h0]; rfl⟩ (.p (r := []) rfl (by rw [List.append_nil]))
  case done =>
    rintro A ⟨g1, g2⟩
    rw [List.length_map, List.take_length] at g2
    exact h A g1 g2
  rintro c2 K2 j A v ok2 _ hj hv nx bk rt ⟨g1, g2⟩
  rw [List.length_map] at hj
  rw [List.getElem?_map, List.getElem?_eq_getElem hj] at hv
  cases hv
  have hm : (its[j].p, ({ cls := .type "tuple", data := .seq #[.str its[j].a its[j].ta, .str its[j].b its[j].tb] } : Obj)) ∈ AL w t [A] ++ (its.map It.cell ++ led) := List.mem_append_right _ (List.mem_append_left _ (List.mem_map_of_mem (f := It.cell) (List.getElem_mem hj)))
  refine op_tup2 ok2 rfl rfl hm ?_
  have hp : (AL w t [A] ++ (its.map It.cell ++ led)).Perm ((its.map It.cell ++ led) ++ AL w t (A :: [])) := List.perm_append_comm
  intro pl
  rw [← g1]
  refine op_mPush H ok2 hp ?_
  refine ⟨trivial, ?_⟩
  refine op_push H ok2 hd hu hp (by
    have := congrArg List.length g2
    rw [prs_len, List.length_map, List.length_take] at this
    k_extra "o") fun v p => ?_
  refine (nx _ (A.push ⟨p, its[j].a, its[j].b, its[j].ta, its[j].tb⟩) ⟨g1, ?_⟩ ?_).1
  · rw [push_prs, g2, List.take_add_one, List.getElem?_eq_getElem hj, List.map_append]; rfl
  · rw [g1]
    exact .p (r := []) rfl (by rw [List.append_nil]; exact List.perm_append_comm)
omit H in
theorem white_len (z : Int) : (whiteOf z).length ≤ 6 ∧ 1 ≤ (whiteOf z).length := by
  have f2 : 0 ≤ z.fmod 6 ∧ z.fmod 6 < 6 := ⟨Int.fmod_nonneg_of_pos _ (by decide), Int.fmod_lt_of_pos _ (by decide)⟩
  have e := len_mul (Txt.item " \t\r\n" ((z.fdiv 12).fmod 4)) (1 + z.fmod 6)
  rw [len_item, if_neg (by simp; k_extra "o")] at e
  unfold whiteOf
  k_extra "o"
end
end MineV
end
end

section
noncomputable section
namespace MineV
open PySem PySem.W PyProof.Rows PySem.Calls PySem.Spec
open Mine (Kf accOf)
example : True := by
  k_with "V enter" => (
    (case ho => k_is)
    (case hcd => k_is)
    (case hb => first | exact fun s Xs => BindsTo.of_eq rfl | exact fun s Xs => binds_K Xs rfl (by k_is) rfl rfl rfl)
    (case hl => exact locs rfl)
    (case h1 => decide)
    (case h2 => exact rfl)
    (case h3 => exact rfl)
    (case h4 => exact rfl)
    (case h5 => exact rfl)
    (case h6 => exact rfl))
  trivial
example : True := by
  k_with "V enterC" => (
    (case ho => k_is)
    (case hcd => k_is)
    (case hb => first | exact fun s Xs => BindsTo.of_eq rfl | exact fun s Xs => binds_K Xs rfl (by k_is) rfl rfl rfl)
    (case hl => exact rfl)
    (case h1 => decide +kernel)
    (case h2 => exact rfl)
    (case h3 => exact rfl)
    (case h4 => exact rfl)
    (case h5 => exact rfl)
    (case h6 => exact rfl)
    (case h7 => exact rfl))
  trivial
open Mine (LexA LexT LexOk CodeOf tabL lexTl lexD tokT)
theorem OpFor.weak {y : Gl} {c : Cx} {t : Expr} {body : List Stmt} {xv : Value} {σ σ' : St} {K : Flow → St → Prop} (wk : Weak σ σ') (h : OpFor y c t body xv σ' K) : OpFor y c t body xv σ K := ⟨fun s R => h.run s (R.weak wk)⟩
noncomputable def cnG {α : Type} (p : α) (l : List α) : Nat := (l.filter fun q => @decide (q = p) (Classical.propDecidable _)).length
noncomputable def onG {α : Type} (p q : α) : Nat := cnG p [q]
theorem cnG_nil {α : Type} (p : α) : cnG p [] = 0 := rfl
theorem cnG_app {α : Type} (p : α) (a b : List α) : cnG p (a ++ b) = cnG p a + cnG p b := by unfold cnG; rw [List.filter_append, List.length_append]
theorem cnG_cons {α : Type} (p q : α) (l : List α) : cnG p (q :: l) = onG p q + cnG p l := cnG_app p [q] l
theorem perm_cnG {α : Type} {a b : List α} (h : ∀ p, cnG p a = cnG p b) : a.Perm b := by
  classical
  refine List.perm_iff_count.mpr fun p => ?_
  have e : ∀ l : List α, cnG p l = List.count p l := fun l => by
    unfold cnG
    rw [List.count_eq_length_filter]
    refine congrArg List.length (List.filter_congr fun q _ => ?_)
    by_cases z : q = p
    · simp [z]
    · simp [z]
  rw [← e, ← e, h]
theorem cnt_perm {a b : Led} (h : a.Perm b) (p : Addr × Obj) : cnt p a = cnt p b := by
  unfold cnt
  exact (h.filter _).length_eq
noncomputable def pairL {β : Type} : List (List β) → List (List β)
  | a :: b :: r => (a ++ b) :: pairL r
  | _ => []
noncomputable def lT (i : Nat) : Expr × List Stmt := forOf (lF 12).2[i]?
noncomputable def lP : Expr × List Stmt := forOf (lT 1).2[0]?
noncomputable def fsP (Dc Ds Dw : Addr) (NL : Int) (tl : Tok) (px Dp Dm : Addr) : List (Str × Value) := [("parcels", .ref Dc), ("spare", .ref Ds), ("row", .ref Dw), ("lines", .int NL tl), ("page", .ref px), ("pieces", .ref Dp), ("names", .ref Dm)]
section
variable {w : World} {b₀ : Heap} {loose : List Str} {mean : ExcName → Option Value} {mg mb : Str → Option Value} (H : Hd w b₀ loose mean mg mb) {D U : Nat} {c : Cx} {cs : List (Str × Addr × Option Value)}
include H
theorem loopP (ok : CxOk (G2 w) tb2 nmL b₀ D U c) (hd : 6 ≤ D) (hu : 60 ≤ U) {K : Flow → St → Prop} {Dc Ds Dw px Dp Dm d : Addr} {NL : Int} {tn tk : Tok} {row : List Acc} {n2 i : Nat} {A B : Acc} {r : List Acc} {t : AT} {rest : Led} (hA : row[i]? = some A) (hl : row.length ≤ 100) (hs : A.its.length + B.its.length ≤ 100)
    (h : ∀ A', A'.x = A.x → A'.prs = A.prs ++ B.prs → K .next ⟨("k", .int (i : Int) tk) :: fsP Dc Ds Dw NL tn px Dp Dm, (Dw, listOf (vrefs row).toArray n2) :: rest ++ B.its.map It.cell ++ AL w t (A' :: r) ++ [(d, listOf B.refs.toArray 0)], cs⟩) :
    OpFor (G2 w) c lP.1 lP.2 (.ref d) ⟨("k", .int (i : Int) tk) :: fsP Dc Ds Dw NL tn px Dp Dm, (Dw, listOf (vrefs row).toArray n2) :: rest ++ AL w t (A :: r) ++ ((d, listOf B.refs.toArray 0) :: B.its.map It.cell), cs⟩ K := by
  refine op_forG (fun _ (A' : Acc) => ⟨("k", .int (i : Int) tk) :: fsP Dc Ds Dw NL tn px Dp Dm, (Dw, listOf (vrefs row).toArray n2) :: rest ++ B.its.map It.cell ++ AL w t (A' :: r), cs⟩)
    (fun m A' => A'.x = A.x ∧ A'.prs = A.prs ++ B.prs.take m) ok (src_list (vs := B.refs) (nn := 0) rfl) (iq := [0]) rfl ?turn ?done A ⟨rfl, by rw [List.take_zero, List.append_nil]⟩ (.p (r := []) rfl (by walk_at "V perm"))
  case done =>
    rintro A' ⟨g1, g2⟩
    rw [show B.refs.length = B.prs.length by unfold Acc.refs Acc.prs; rw [List.length_map, List.length_map], List.take_length] at g2
    exact h A' g1 g2
  rintro c2 K2 j A' v ok2 _ hj hv nx bk rt ⟨g1, g2⟩
  have hj' : j < B.its.length := by unfold Acc.refs at hj; rw [List.length_map] at hj; exact hj
  unfold Acc.refs at hv
  rw [List.getElem?_map, List.getElem?_eq_getElem hj'] at hv
  cases hv
  have hm : (B.its[j].p, ({ cls := .type "tuple", data := .seq #[.str B.its[j].a B.its[j].ta, .str B.its[j].b B.its[j].tb] } : Obj)) ∈ (Dw, listOf (vrefs row).toArray n2) :: rest ++ B.its.map It.cell ++ AL w t (A' :: r) := List.mem_append_left _ (List.mem_append_right _ (List.mem_map_of_mem (f := It.cell) (List.getElem_mem hj')))
  refine op_tup2 ok2 rfl rfl hm ?_
  have hvl : (vrefs row).length = row.length := List.length_map _
  refine op_item (.head _) rfl (vrefs_at hA) (by k_extra "o") ?_ (fun _ _ => rfl) fun _ => rfl
  intro pl
  unfold Acc.ref
  rw [← g1]
  refine op_mPush H ok2 (.refl _) ?_
  refine ⟨trivial, ?_⟩
  refine op_push H ok2 hd hu (.refl _) (by
    have := congrArg List.length g2
    rw [prs_len, List.length_append, prs_len, List.length_take, prs_len] at this
    k_extra "o") fun v p => ?_
  refine (nx _ (A'.push ⟨p, B.its[j].a, B.its[j].b, B.its[j].ta, B.its[j].tb⟩) ⟨g1, ?_⟩ (.p (r := []) rfl (by rw [List.append_nil]))).1
  rw [push_prs, g2, List.append_assoc]
  congr 1
  have hjp : B.prs[j]? = some B.its[j].pr2 := by
    unfold Acc.prs; rw [List.getElem?_map, List.getElem?_eq_getElem hj']; rfl
  rw [List.take_add_one, hjp]; rfl
omit H in
theorem pairL_len {β : Type} : ∀ l : List (List β), (pairL l).length = l.length / 2
  | [] => by simp [pairL]
  | [_] => by simp [pairL]
  | a :: b :: r => by
    show (pairL r).length + 1 = (r.length + 1 + 1) / 2
    rw [pairL_len r]; k_extra "o"
omit H in
theorem pairL_at {β : Type} : ∀ (l : List (List β)) (i : Nat) (a b : List β), l[2 * i]? = some a → l[2 * i + 1]? = some b → (pairL l)[i]? = some (a ++ b)
  | [], i, a, b, h, _ => by simp at h
  | [_], i, a, b, h, h2 => by
    rw [List.getElem?_eq_none (by simp)] at h2; cases h2
  | x :: y :: r, 0, a, b, h, h2 => by
    cases h; cases h2; rfl
  | x :: y :: r, i + 1, a, b, h, h2 => by
    show (pairL r)[i]? = _
    exact pairL_at r i a b (by rw [← h, show 2 * (i + 1) = 2 * i + 1 + 1 by k_extra "o"]; rfl) (by rw [← h2, show 2 * (i + 1) + 1 = 2 * i + 1 + 1 + 1 by k_extra "o"]; rfl)
theorem loopT1 (ok : CxOk (G2 w) tb2 nmL b₀ D U c) (hd : 6 ≤ D) (hu : 60 ≤ U) {K : Flow → St → Prop} {Dc Ds Dw px Dp Dm rg : Addr} {NL : Int} {tn a1 a2 a3 : Tok} {row sp : List Acc} {n1 n2 : Nat} {pg : Acc} {t : AT} {rest : Led} (hl : row.length ≤ 100) (hsp : sp.length ≤ 100) (hs : ∀ A ∈ row, A.its.length ≤ 50)
    (h : ∀ par cuts n1 n3, par.map Acc.prs = pairL (row.map Acc.prs) → (∀ A ∈ cuts, A.its = []) → cuts.length = row.length / 2 → K .next ⟨fsP Dc Ds Dw NL tn px Dp Dm, (Dc, listOf (vrefs par).toArray n3) :: (Ds, listOf (vrefs (sp ++ cuts)).toArray n1) :: (Dw, listOf (vrefs row).toArray n2) :: rest ++ AL w t (par ++ cuts ++ row.drop (2 * (row.length / 2)) ++ (pg :: sp)) ++ [], cs⟩) :
    OpFor (G2 w) c (lT 1).1 (lT 1).2 (.ref rg) ⟨fsP Dc Ds Dw NL tn px Dp Dm, (rg, rangeOf 0 ((row.length : Int) - 1) 2 a1 a2 a3) :: (Dc, listOf (vrefs []).toArray 0) :: (Ds, listOf (vrefs sp).toArray n1) :: (Dw, listOf (vrefs row).toArray n2) :: rest ++ AL w t (row ++ (pg :: sp)), cs⟩ K := by
  have hvl : (vrefs row).length = row.length := List.length_map _
  refine op_forG (kr := [(rg, rangeOf 0 ((row.length : Int) - 1) 2 a1 a2 a3)]) (fun i ((par, cuts, n1, n3) : List Acc × List Acc × Nat × Nat) => ⟨fsP Dc Ds Dw NL tn px Dp Dm, (Dc, listOf (vrefs par).toArray n3) :: (Ds, listOf (vrefs (sp ++ cuts)).toArray n1) :: (Dw, listOf (vrefs row).toArray n2) :: rest ++ AL w t (par ++ cuts ++ row.drop (2 * i) ++ (pg :: sp)), cs⟩)
    (fun i (par, cuts, n1, n3) => par.map Acc.prs = (pairL (row.map Acc.prs)).take i ∧ (∀ A ∈ cuts, A.its = []) ∧ cuts.length = i ∧ par.length = i) ok (src_range2 (a := a1) (u := a2) (v := a3) hl rfl) (iq := []) rfl ?turn ?done ([], [], n1, 0) ⟨rfl, fun _ h => (nomatch h), rfl, rfl⟩ (.p (r := []) rfl (by
      rw [List.append_nil]
      dsimp only
      rw [List.append_nil]
      show List.Perm (_ :: _ :: _ :: _ :: (rest ++ AL w t (row ++ (pg :: sp)))) ((_ :: _ :: _ :: (rest ++ AL w t (row ++ (pg :: sp)))) ++ [_])
      walk_at "V perm"))
  case done =>
    rintro ⟨par, cuts, n1, n3⟩ ⟨g1, g2, g3, g4⟩
    rw [List.take_of_length_le (by rw [pairL_len, List.length_map]; exact Nat.le_refl _)] at g1
    exact h par cuts n1 n3 g1 g2 g3
  rintro c2 K2 j ⟨par, cuts, n1, n3⟩ v ok2 _ hj ⟨_, tj, rfl⟩ nx bk rt ⟨g1, g2, g3, g4⟩
  refine op_nameT ok2 rfl ?_
  obtain ⟨A, eA, mA⟩ := lt_some (l := row) (i := 2 * j) (by k_extra "o")
  obtain ⟨B, eB, mB⟩ := lt_some (l := row) (i := 2 * j + 1) (by k_extra "o")
  have hdrop : row.drop (2 * j) = A :: B :: row.drop (2 * (j + 1)) := by
    have h1 : 2 * j < row.length := by k_extra "o"
    have h2 : 2 * j + 1 < row.length := by k_extra "o"
    rw [List.drop_eq_getElem_cons h1, List.drop_eq_getElem_cons h2]
    rw [List.getElem?_eq_getElem h1] at eA
    rw [List.getElem?_eq_getElem h2] at eB
    rw [Option.some.inj eA, Option.some.inj eB]; rfl
  rw [hdrop]
  generalize hr2 : row.drop (2 * (j + 1)) = rest2 at nx ⊢
  have pB : (par ++ cuts ++ (A :: B :: rest2) ++ (pg :: sp)).Perm (B :: A :: (par ++ cuts ++ rest2 ++ (pg :: sp))) := by
    walk_at "V permG"
  intro t1 t2
  refine op_item (i := 2 * j + 1) (.tail _ (.tail _ (.head _))) (by show ((2 * j : Nat) : Int) + 1 = _; k_extra "o") (vrefs_at eB) (by k_extra "o") ?_ (fun _ _ => rfl) fun _ => rfl
  intro pl
  refine op_mPopFrom H (pre := (Dc, listOf (vrefs par).toArray n3) :: (Ds, listOf (vrefs (sp ++ cuts)).toArray n1) :: (Dw, listOf (vrefs row).toArray n2) :: rest) ok2 (.append_left _ (AL.perm pB)) ?_
  refine ⟨trivial, ?_⟩
  refine op_popFrom H (pre := (Dc, listOf (vrefs par).toArray n3) :: (Ds, listOf (vrefs (sp ++ cuts)).toArray n1) :: (Dw, listOf (vrefs row).toArray n2) :: rest) ok2 (by k_extra "o") hu (.append_left _ (AL.perm pB)) (Nat.le_trans (hs B mB) (by decide)) fun d => ?_
  refine OpFor.weak (σ' := ⟨("k", .int ((2 * j : Nat) : Int) tj) :: fsP Dc Ds Dw NL tn px Dp Dm, (Dw, listOf (vrefs row).toArray n2) :: ((Dc, listOf (vrefs par).toArray n3) :: (Ds, listOf (vrefs (sp ++ cuts)).toArray n1) :: rest) ++ AL w t (A :: B.cut :: (par ++ cuts ++ rest2 ++ (pg :: sp))) ++ ((d, listOf B.refs.toArray 0) :: B.its.map It.cell), cs⟩) (.p (r := []) rfl ?hp1) ?_
  case hp1 =>
    rw [List.append_nil]
    have := AL.perm (w := w) (t := t) (List.Perm.swap A B.cut (par ++ cuts ++ rest2 ++ (pg :: sp)))
    refine (List.Perm.append_left ((Dc, listOf (vrefs par).toArray n3) :: (Ds, listOf (vrefs (sp ++ cuts)).toArray n1) :: (Dw, listOf (vrefs row).toArray n2) :: rest) (this.append_right ((d, listOf B.refs.toArray 0) :: B.its.map It.cell))).trans ?_
    walk_at "V perm"
  refine loopP H ok2 hd hu eA hl (by have := hs A mA; have := hs B mB; k_extra "o") fun A' hAx hAp => ?_
  intro pl2
  refine op_mAppend (.tail _ (.head _)) ?_
  refine op_item (i := 2 * j) (.head _) rfl (vrefs_at eA) (by k_extra "o") ?_ (fun _ _ => rfl) fun _ => rfl
  refine ⟨trivial, ?_⟩
  have lpar : (vrefs par).length ≤ 1000 := by unfold vrefs; rw [List.length_map]; k_extra "o"
  have lspc : (vrefs (sp ++ cuts)).length ≤ 1000 := by unfold vrefs; rw [List.length_map, List.length_append]; k_extra "o"
  refine op_append (.there .here) lpar ?_
  intro pl3
  refine op_mAppend (.tail _ (.tail _ (.head _))) ?_
  intro t3 t4
  refine op_item (i := 2 * j + 1) (.tail _ (.head _)) (by show ((2 * j : Nat) : Int) + 1 = _; k_extra "o") (vrefs_at eB) (by k_extra "o") ?_ (fun _ _ => rfl) fun _ => rfl
  refine ⟨trivial, ?_⟩
  refine op_append (.there (.there .here)) lspc ?_
  refine (nx _ (par ++ [A'], cuts ++ [B.cut], n1 + 1, n3 + 1) ⟨?g1, ?g2, by rw [List.length_append, g3]; rfl, by rw [List.length_append, g4]; rfl⟩ (.p (r := B.its.map It.cell ++ [(d, listOf B.refs.toArray 0)]) rfl ?g3)).1
  case g1 =>
    rw [List.map_append, g1, List.take_add_one, pairL_at (row.map Acc.prs) j A.prs B.prs (by rw [List.getElem?_map, eA]; rfl) (by rw [List.getElem?_map, eB]; rfl)]
    show _ ++ [A'.prs] = _ ++ [A.prs ++ B.prs]
    rw [hAp]
  case g2 =>
    intro Z hZ
    rcases List.mem_append.mp hZ with hZ | hZ
    · exact g2 Z hZ
    · rw [List.mem_singleton.mp hZ]; rfl
  case g3 =>
    have e1 : vrefs par ++ [A.ref] = vrefs (par ++ [A']) := by
      unfold vrefs; rw [List.map_append]
      show _ = _ ++ [Value.ref A'.x]
      rw [hAx]; rfl
    have e2 : vrefs (sp ++ cuts) ++ [B.ref] = vrefs (sp ++ (cuts ++ [B.cut])) := by
      unfold vrefs; rw [← List.append_assoc, List.map_append (l₂ := [B.cut])]; rfl
    rw [e1, e2]
    have pa : (A' :: B.cut :: (par ++ cuts ++ rest2 ++ (pg :: sp))).Perm (par ++ [A'] ++ (cuts ++ [B.cut]) ++ rest2 ++ (pg :: sp)) := by walk_at "V permG"
    have hc := cnt_perm (AL.perm (w := w) (t := t) pa)
    refine perm_cnt fun p => ?_
    have hcp := hc p
    simp only [cnt_nil, cnt_app, cnt_cons]
    show _ + (_ + (_ + cnt p (((rest ++ B.its.map It.cell) ++ AL w t (A' :: B.cut :: (par ++ cuts ++ rest2 ++ (pg :: sp)))) ++ [_]))) = _
    simp only [cnt_nil, cnt_app, cnt_cons]
    k_extra "o"
end
end MineV
end
end

section
noncomputable section
namespace MineV
open PySem PySem.W PyProof.Rows PySem.Calls PySem.Spec
open Mine (Kf accOf)
example : True := by
  k_with "V enter" => (
    (case ho => k_is)
    (case hcd => k_is)
    (case hb => first | exact fun s Xs => BindsTo.of_eq rfl | exact fun s Xs => binds_K Xs rfl (by k_is) rfl rfl rfl)
    (case hl => exact locs rfl)
    (case h1 => decide)
    (case h2 => exact rfl)
    (case h3 => exact rfl)
    (case h4 => exact rfl)
    (case h5 => exact rfl)
    (case h6 => exact rfl))
  trivial
example : True := by
  k_with "V enterC" => (
    (case ho => k_is)
    (case hcd => k_is)
    (case hb => first | exact fun s Xs => BindsTo.of_eq rfl | exact fun s Xs => binds_K Xs rfl (by k_is) rfl rfl rfl)
    (case hl => exact rfl)
    (case h1 => decide +kernel)
    (case h2 => exact rfl)
    (case h3 => exact rfl)
    (case h4 => exact rfl)
    (case h5 => exact rfl)
    (case h6 => exact rfl)
    (case h7 => exact rfl))
  trivial
open Mine (LexA LexT LexOk CodeOf tabL lexTl lexD tokT)
noncomputable def fsT (Dt Dc Ds Dw : Addr) (NL : Int) (tl : Tok) (px Dp Dm : Addr) : List (Str × Value) := [("told", .ref Dt), ("parcels", .ref Dc), ("spare", .ref Ds), ("row", .ref Dw), ("lines", .int NL tl), ("page", .ref px), ("pieces", .ref Dp), ("names", .ref Dm)]
section
variable {w : World} {b₀ : Heap} {loose : List Str} {mean : ExcName → Option Value} {mg mb : Str → Option Value} (H : Hd w b₀ loose mean mg mb) {D U : Nat} {c : Cx} {cs : List (Str × Addr × Option Value)}
theorem vrefs_app (a b : List Acc) : vrefs (a ++ b) = vrefs a ++ vrefs b := List.map_append
theorem vrefs_len (a : List Acc) : (vrefs a).length = a.length := List.length_map _
noncomputable def sT5 : Stmt := ((lT 5).2[2]?).getD (.Pass ⟨0, 0, 0, 0⟩)
include H
theorem loopT5 (ok : CxOk (G2 w) tb2 nmL b₀ D U c) (hd : 20 ≤ D) (hu : 200 ≤ U) {K : Flow → St → Prop} {Dt Dc Ds Dw Dq px Dp Dm rg : Addr} {NL : Int} {tn a1 a2 a3 : Tok} {sp others : List Acc} {n1 np nt : Nat} {t : AT} {rest tl : Led} {its : List It} {tv : List Value} {tx : Str} {la : LexA} {e5 a : Nat} {pr off : Option Value}
    (lok : LexOk w b₀ tx la) (hi : its.length = 5) (ht : StrsAre tv nm5) (hsp : sp.length ≤ 100) (hfree : ∀ A ∈ sp, A.its = []) (hl : LexIs w la ⟨[], e5, NL⟩ tl)
    (h : ∀ cn sp' n1 nq tl', cn.map Acc.prs = (its.map It.pr2).map (fun q => [q]) → (∀ A ∈ sp', A.its = []) → sp'.length ≤ sp.length → LexIs w la ⟨nm5, e5, NL⟩ tl' →
      K .next ⟨fsT Dt Dc Ds Dw NL tn px Dp Dm, (Dq, listOf (vrefs cn).toArray nq) :: (Ds, listOf (vrefs sp').toArray n1) :: (Dt, listOf tv.toArray nt) :: (Dp, listOf (its.map fun i => Value.ref i.p).toArray np) :: (its.map It.cell ++ rest ++ tl' ++ AL w t (others ++ sp' ++ cn)) ++ [], csL a pr (some (.ref la.I)) (some (.ref Dq)) off⟩) :
    OpFor (G2 w) c (lT 5).1 (lT 5).2 (.ref rg) ⟨fsT Dt Dc Ds Dw NL tn px Dp Dm, (Dq, listOf (vrefs []).toArray 0) :: (Ds, listOf (vrefs sp).toArray n1) :: (Dt, listOf tv.toArray nt) :: (Dp, listOf (its.map fun i => Value.ref i.p).toArray np) :: (its.map It.cell ++ rest ++ tl ++ AL w t (others ++ sp ++ [])) ++ [(rg, rangeOf 0 ((5 : Nat) : Int) 1 a1 a2 a3)], csL a pr (some (.ref la.I)) (some (.ref Dq)) off⟩ K := by
  have htl := ht.len_eq
  have ht5 : tv.length = 5 := htl
  refine op_forG (kr := [(rg, rangeOf 0 ((5 : Nat) : Int) 1 a1 a2 a3)]) (fun i ((cn, sp', n1, nq, tl') : List Acc × List Acc × Nat × Nat × Led) => ⟨fsT Dt Dc Ds Dw NL tn px Dp Dm, (Dq, listOf (vrefs cn).toArray nq) :: (Ds, listOf (vrefs sp').toArray n1) :: (Dt, listOf tv.toArray nt) :: (Dp, listOf (its.map fun i => Value.ref i.p).toArray np) :: (its.map It.cell ++ rest ++ tl' ++ AL w t (others ++ sp' ++ cn)), csL a pr (some (.ref la.I)) (some (.ref Dq)) off⟩)
    (fun i (cn, sp', n1, nq, tl') => cn.length = i ∧ cn.map Acc.prs = ((its.map It.pr2).take i).map (fun q => [q]) ∧ (∀ A ∈ sp', A.its = []) ∧ sp'.length ≤ sp.length ∧ LexIs w la ⟨nm5.take i, e5, NL⟩ tl') ok (src_range (n := 5) (a := a1) (u := a2) (v := a3) (by decide) rfl) (iq := []) rfl ?turn ?done ([], sp, n1, 0, tl) ⟨rfl, rfl, hfree, Nat.le_refl _, hl⟩ (.s rfl)
  case done =>
    rintro ⟨cn, sp', n1, nq, tl'⟩ ⟨g1, g2, g3, g4, g5⟩
    rw [List.take_of_length_le (by rw [List.length_map, hi]; exact Nat.le_refl _)] at g2
    exact h cn sp' n1 nq tl' g2 g3 g4 g5
  rintro c2 K2 j ⟨cn, sp', n1, nq, tl'⟩ v ok2 _ hj ⟨_, tj, rfl⟩ nx bk rt ⟨g1, g2, g3, g4, g5⟩
  refine op_nameT ok2 rfl ?_
  intro pl
  have sub : ∀ (o : Led), ∀ p ∈ tl', p ∈ o ++ (its.map It.cell ++ rest ++ tl' ++ AL w t (others ++ sp' ++ cn)) := fun o p hp => List.mem_append_right _ (List.mem_append_left _ (List.mem_append_right _ hp))
  refine op_mPushT H ok2 g5 (sub [_, _, _, _]) ?_
  refine op_item_strs (.tail _ (.tail _ (.head _))) ht rfl (by k_extra "o") (by k_extra "o") ?_ rfl rfl
  intro t1
  refine ⟨trivial, ?_⟩
  refine op_pushT H (tx := tx) (L := ⟨nm5.take j, e5, NL⟩) (pre := (Dq, listOf (vrefs cn).toArray nq) :: (Ds, listOf (vrefs sp').toArray n1) :: (Dt, listOf tv.toArray nt) :: (Dp, listOf (its.map fun i => Value.ref i.p).toArray np) :: (its.map It.cell ++ rest ++ AL w t (others ++ sp' ++ cn))) ok2 hd hu lok (by show (nm5.take j).length ≤ 800; rw [List.length_take]; exact Nat.le_trans (Nat.min_le_right _ _) (by decide)) g5 (by walk_at "V perm") fun v1 tl2 hl2 => ?_
  have hl2' : LexIs w la ⟨nm5.take (j + 1), e5, NL⟩ tl2 := by
    have e : nm5.take (j + 1) = nm5.take j ++ [nm5.getD j ""] := by
      have h5 : j < nm5.length := hj
      rw [List.take_add_one, List.getElem?_eq_getElem h5, List.getD_eq_getElem?_getD, List.getElem?_eq_getElem h5]; rfl
    rw [e]; exact hl2
  obtain ⟨it, eit⟩ : ∃ it, its[j]? = some it := ⟨its[j], List.getElem?_eq_getElem (by k_extra "o")⟩
  have mit : it ∈ its := List.mem_of_getElem? eit
  have fin : ∀ (Z : Acc) (sp0 : List Acc) (n1' : Nat) (lz : Led), Z.its = [] → (∀ A ∈ sp0, A.its = []) → sp0.length ≤ sp.length →
      lz.Perm (((Dq, listOf (vrefs (cn ++ [Z])).toArray (nq + 1)) :: (Ds, listOf (vrefs sp0).toArray n1') :: (Dt, listOf tv.toArray nt) :: (Dp, listOf (its.map fun i => Value.ref i.p).toArray np) :: (its.map It.cell ++ rest ++ tl2)) ++ AL w t (Z :: (others ++ sp0 ++ cn))) →
      WPss (WPs (G2 w) tb2 nmL c2 30) [sT5] K2 ⟨("k", .int (j : Int) tj) :: fsT Dt Dc Ds Dw NL tn px Dp Dm, lz, csL a pr (some (.ref la.I)) (some (.ref Dq)) off⟩ := by
    intro Z sp0 n1' lz hZ h0 hs0 hz
    have mz : ∀ p ∈ ((Dq, listOf (vrefs (cn ++ [Z])).toArray (nq + 1)) :: (Ds, listOf (vrefs sp0).toArray n1') :: (Dt, listOf tv.toArray nt) :: (Dp, listOf (its.map fun i => Value.ref i.p).toArray np) :: (its.map It.cell ++ rest ++ tl2)) ++ AL w t (Z :: (others ++ sp0 ++ cn)), p ∈ lz := fun p hp => hz.mem_iff.mpr hp
    have eZ : (vrefs (cn ++ [Z]))[j]? = some Z.ref := by
      rw [vrefs_app, List.getElem?_append_right (by rw [vrefs_len]; k_extra "o"), vrefs_len, g1, Nat.sub_self]; rfl
    refine op_item (i := j) (mz _ (.head _)) rfl eZ (by rw [vrefs_len, List.length_append]; simp; k_extra "o") ?_ (fun _ _ => rfl) fun _ => rfl
    intro pl3
    refine op_mPush H ok2 hz ?_
    have hm : (it.p, ({ cls := .type "tuple", data := .seq [.str it.a it.ta, .str it.b it.tb].toArray } : Obj)) ∈ lz := mz _ (List.mem_append_left _ (.tail _ (.tail _ (.tail _ (.tail _ (List.mem_append_left _ (List.mem_append_left _ (List.mem_map_of_mem (f := It.cell) mit))))))))
    have ep : (its.map fun i => Value.ref i.p)[j]? = some (.ref it.p) := by rw [List.getElem?_map, eit]; rfl
    refine op_item (i := j) (mz _ (.tail _ (.tail _ (.tail _ (.head _))))) rfl ep (by rw [List.length_map]; k_extra "o") ?_ (fun _ _ => rfl) fun _ => rfl
    intro t5
    refine op_tupItem (i := 0) hm rfl rfl (Nat.le_of_ble_eq_true rfl) (fun _ _ => rfl) ?_
    refine op_item (i := j) (mz _ (.tail _ (.tail _ (.tail _ (.head _))))) rfl ep (by rw [List.length_map]; k_extra "o") ?_ (fun _ _ => rfl) fun _ => rfl
    intro t6
    refine op_tupItem (i := 1) hm rfl rfl (Nat.le_of_ble_eq_true rfl) (fun _ _ => rfl) ?_
    refine ⟨trivial, ?_⟩
    refine op_push H ok2 (by k_extra "o") (by k_extra "o") hz (by rw [hZ]; exact Nat.zero_le _) fun v p => ?_
    refine (nx _ (cn ++ [Z.push ⟨p, it.a, it.b, it.ta, it.tb⟩], sp0, n1', nq + 1, tl2) ⟨by rw [List.length_append, g1]; rfl, ?_, h0, hs0, hl2'⟩ (.p (r := []) rfl ?_)).1
    · rw [List.map_append, g2, List.take_add_one, List.getElem?_map, eit, List.map_append]
      show _ ++ [(Z.push ⟨p, it.a, it.b, it.ta, it.tb⟩).prs] = _
      rw [push_prs]
      unfold Acc.prs
      rw [hZ]; rfl
    · have e1 : vrefs (cn ++ [Z.push ⟨p, it.a, it.b, it.ta, it.tb⟩]) = vrefs (cn ++ [Z]) := by rw [vrefs_app, vrefs_app]; rfl
      rw [e1]
      have hc := cnt_perm (AL.perm (w := w) (t := t) (show (Z.push ⟨p, it.a, it.b, it.ta, it.tb⟩ :: (others ++ sp0 ++ cn)).Perm (others ++ sp0 ++ (cn ++ [Z.push ⟨p, it.a, it.b, it.ta, it.tb⟩])) by walk_at "V permG"))
      refine perm_cnt fun q => ?_
      have hcq := hc q
      rw [List.append_nil]
      simp only [cnt_nil, cnt_app, cnt_cons]
      k_extra "o"
  intro pl2
  refine op_mAppend (.head _) ?_
  refine op_ifExp ok2 ?_
  refine ⟨trivial, ?_⟩
  have spl : (vrefs sp').length ≤ 1000 := by rw [vrefs_len]; k_extra "o"
  have cnl : (vrefs cn).length ≤ 1000 := by rw [vrefs_len]; k_extra "o"
  refine op_len (.tail _ (.head _)) spl ?_
  intro t2 t3
  refine IfK.dec (fun cx => ?_) fun cx => ?_
  · rcases List.eq_nil_or_concat sp' with h0 | ⟨sp0, Z, h0⟩
    · rw [h0] at cx; exact absurd cx (by decide)
    · rw [List.concat_eq_append] at h0
      subst h0
      rw [vrefs_app]
      intro pl3
      refine op_mPop (.tail _ (.head _)) ?_
      refine ⟨trivial, ?_⟩
      rw [List.length_append] at g4
      have g4' : sp0.length + 1 ≤ sp.length := g4
      refine op_pop1 (vs := vrefs sp0) (x := Z.ref) (.there .here) (by rw [vrefs_len]; k_extra "o") ?_
      refine ⟨trivial, ?_⟩
      refine op_append (.there .here) cnl ?_
      refine fin Z sp0 (n1 + 1) _ (g3 Z (List.mem_append_right _ (.head _))) (fun A hA => g3 A (List.mem_append_left _ hA)) (by k_extra "o") ?_
      rw [show vrefs (cn ++ [Z]) = vrefs cn ++ [Z.ref] from vrefs_app _ _]
      have hc := cnt_perm (AL.perm (w := w) (t := t) (show (others ++ (sp0 ++ [Z]) ++ cn).Perm (Z :: (others ++ sp0 ++ cn)) by walk_at "V permG"))
      refine perm_cnt fun q => ?_
      have hcq := hc q
      show cnt q ((_ :: _ :: _ :: _ :: (its.map It.cell ++ rest ++ AL w t (others ++ (sp0 ++ [Z]) ++ cn))) ++ tl2) = _
      simp only [cnt_nil, cnt_app, cnt_cons]
      k_extra "o"
  · have h0 : sp' = [] := by
      rcases sp' with _ | ⟨Z, r⟩
      · rfl
      · exact absurd (show (0 : Int) < ((vrefs (Z :: r)).length : Nat) by rw [vrefs_len]; simp) cx
    subst h0
    refine ⟨trivial, ?_⟩
    refine op_newA H ok2 (by k_extra "o") (by k_extra "o") fun Z hZ => ?_
    refine ⟨trivial, ?_⟩
    refine op_append (.app .here _) cnl ?_
    refine fin Z [] n1 _ hZ (fun _ h => nomatch h) (Nat.zero_le _) ?_
    rw [show vrefs (cn ++ [Z]) = vrefs cn ++ [Z.ref] from vrefs_app _ _]
    unfold AL
    rw [AC.cons, AC.app, AC.app]
    refine perm_cnt fun q => ?_
    show cnt q ((Dq, listOf (vrefs cn ++ [Z.ref]).toArray (nq + 1)) :: (Z.cells w ++ ((_ :: _ :: _ :: (its.map It.cell ++ rest ++ (_ :: _ :: (AC w others ++ AC w [] ++ AC w cn)))) ++ tl2))) = _
    simp only [cnt_nil, cnt_app, cnt_cons]
    k_extra "o"
end
end MineV
end
end

section
noncomputable section
namespace MineV
open PySem PySem.W PyProof.Rows PySem.Calls PySem.Spec
open Mine (Kf accOf)
example : True := by
  k_with "V enter" => (
    (case ho => k_is)
    (case hcd => k_is)
    (case hb => first | exact fun s Xs => BindsTo.of_eq rfl | exact fun s Xs => binds_K Xs rfl (by k_is) rfl rfl rfl)
    (case hl => exact locs rfl)
    (case h1 => decide)
    (case h2 => exact rfl)
    (case h3 => exact rfl)
    (case h4 => exact rfl)
    (case h5 => exact rfl)
    (case h6 => exact rfl))
  trivial
example : True := by
  k_with "V enterC" => (
    (case ho => k_is)
    (case hcd => k_is)
    (case hb => first | exact fun s Xs => BindsTo.of_eq rfl | exact fun s Xs => binds_K Xs rfl (by k_is) rfl rfl rfl)
    (case hl => exact rfl)
    (case h1 => decide +kernel)
    (case h2 => exact rfl)
    (case h3 => exact rfl)
    (case h4 => exact rfl)
    (case h5 => exact rfl)
    (case h6 => exact rfl)
    (case h7 => exact rfl))
  trivial
theorem bis_spec (p : Nat → Bool) : ∀ (n lo hi : Nat), lo ≤ hi → hi - lo ≤ n → (∀ i j, lo ≤ i → i ≤ j → j < hi → p i = true → p j = true) →
    lo ≤ bis p n lo hi ∧ bis p n lo hi ≤ hi ∧ (∀ i, lo ≤ i → i < bis p n lo hi → p i = false) ∧ (∀ i, bis p n lo hi ≤ i → i < hi → p i = true)
  | 0, lo, hi, h, hn, _ => by
    have : lo = hi := by k_extra "o"
    subst this
    exact ⟨Nat.le_refl _, Nat.le_refl _, fun i h1 h2 => absurd h1 (Nat.not_le.mpr h2), fun i h1 h2 => absurd h1 (Nat.not_le.mpr h2)⟩
  | n + 1, lo, hi, h, hn, hm => by
    unfold bis
    by_cases hl : lo < hi
    · rw [if_pos hl]
      cases hp : p ((lo + hi) / 2) with
      | true =>
        rw [if_pos rfl]
        obtain ⟨a, b, d, e⟩ := bis_spec p n lo ((lo + hi) / 2) (by k_extra "o") (by k_extra "o") fun i j h1 h2 h3 => hm i j h1 h2 (by k_extra "o")
        refine ⟨a, by k_extra "o", d, fun i h1 h2 => ?_⟩
        by_cases hi' : i < (lo + hi) / 2
        · exact e i h1 hi'
        · exact hm ((lo + hi) / 2) i (by k_extra "o") (by k_extra "o") h2 hp
      | false =>
        rw [if_neg (by decide)]
        obtain ⟨a, b, d, e⟩ := bis_spec p n ((lo + hi) / 2 + 1) hi (by k_extra "o") (by k_extra "o") fun i j h1 h2 h3 => hm i j (by k_extra "o") h2 h3
        refine ⟨by k_extra "o", b, fun i h1 h2 => ?_, e⟩
        by_cases hi' : (lo + hi) / 2 + 1 ≤ i
        · exact d i hi' h2
        · cases hq : p i with
          | false => rfl
          | true =>
            have := hm i ((lo + hi) / 2) h1 (by k_extra "o") (by k_extra "o") hq
            rw [hp] at this; cases this
    · rw [if_neg hl]
      have : lo = hi := by k_extra "o"
      subst this
      exact ⟨Nat.le_refl _, Nat.le_refl _, fun i h1 h2 => absurd h1 (Nat.not_le.mpr h2), fun i h1 h2 => absurd h1 (Nat.not_le.mpr h2)⟩
noncomputable def Bef (pos : Acc → Nat) (A B : Acc) : Prop := A.key < B.key ∨ (A.key = B.key ∧ pos A < pos B)
theorem insL_perm {α : Type} (l : List α) (i : Nat) (x : α) : (insL l i x).Perm (x :: l) := by
  unfold insL
  refine List.perm_middle.trans (.cons _ ?_)
  rw [List.take_append_drop]
theorem insL_pair {α : Type} {R : α → α → Prop} {l : List α} {i : Nat} {x : α} (h : l.Pairwise R) (h1 : ∀ j (hj : j < l.length), j < i → R l[j] x) (h2 : ∀ j (hj : j < l.length), i ≤ j → R x l[j]) : (insL l i x).Pairwise R := by
  unfold insL
  refine List.pairwise_append.mpr ⟨h.sublist (List.take_sublist _ _), List.pairwise_cons.mpr ⟨fun y hy => ?_, h.sublist (List.drop_sublist _ _)⟩, fun a ha b hb => ?_⟩
  · obtain ⟨j, hj, rfl⟩ := List.mem_iff_getElem.mp hy
    rw [List.getElem_drop]
    exact h2 _ _ (Nat.le_add_right _ _)
  · obtain ⟨j, hj, rfl⟩ := List.mem_iff_getElem.mp ha
    rw [List.length_take] at hj
    rw [List.getElem_take]
    rcases List.mem_cons.mp hb with rfl | hb
    · exact h1 j (by k_extra "o") (by k_extra "o")
    · obtain ⟨k, hk, rfl⟩ := List.mem_iff_getElem.mp hb
      rw [List.getElem_drop]
      rw [List.length_drop] at hk
      exact List.pairwise_iff_getElem.mp h j (i + k) (by k_extra "o") (by k_extra "o") (by k_extra "o")
theorem insL_mid {α : Type} (a z x : α) (mid : List α) (q : Nat) (hq : q ≤ mid.length) : insL (a :: mid ++ [z]) (q + 1) x = a :: insL mid q x ++ [z] := by
  unfold insL
  show a :: ((mid ++ [z]).take q) ++ x :: ((mid ++ [z]).drop q) = a :: (mid.take q ++ x :: mid.drop q) ++ [z]
  rw [List.take_append_of_le_length hq, List.drop_append_of_le_length hq]
  simp
theorem keys_mid (a z : Acc) (mid : List Acc) (i : Nat) (hi : i < mid.length) : (keys (a :: mid ++ [z])).getD (i + 1) 0 = mid[i].key := by
  refine keys_at ?_
  show (mid ++ [z])[i]? = some mid[i]
  rw [List.getElem?_append_left hi, List.getElem?_eq_getElem hi]
theorem key_le {pos : Acc → Nat} {mid : List Acc} (h : mid.Pairwise (Bef pos)) {i j : Nat} (hij : i ≤ j) (hj : j < mid.length) : mid[i].key ≤ mid[j].key := by
  by_cases e : i = j
  · subst e; exact Nat.le_refl _
  · have := List.pairwise_iff_getElem.mp h i j (by k_extra "o") hj (by k_extra "o")
    unfold Bef at this; k_extra "o"
theorem put_left {pos : Acc → Nat} {mid : List Acc} {A pg Z : Acc} (h : mid.Pairwise (Bef pos)) (hA : ∀ B ∈ mid, B.key = A.key → pos A < pos B) :
    ∃ mid', insL (pg :: mid ++ [Z]) (bisL (keys (pg :: mid ++ [Z])) A.key 1 (mid.length + 1)) A = pg :: mid' ++ [Z] ∧ mid'.Perm (A :: mid) ∧ mid'.Pairwise (Bef pos) := by
  have sp := bis_spec (fun i => ! decide ((((keys (pg :: mid ++ [Z])).getD i 0 : Nat) : Int) < (A.key : Int))) (mid.length + 1 - 1) 1 (mid.length + 1) (by k_extra "o") (Nat.le_refl _) (fun i j h1 h2 h3 h4 => by
    obtain ⟨i, rfl⟩ : ∃ i', i = i' + 1 := ⟨i - 1, by k_extra "o"⟩
    obtain ⟨j, rfl⟩ : ∃ j', j = j' + 1 := ⟨j - 1, by k_extra "o"⟩
    rw [keys_mid _ _ _ i (by k_extra "o")] at h4
    rw [keys_mid _ _ _ j (by k_extra "o")]
    have := key_le h (i := i) (j := j) (by k_extra "o") (by k_extra "o")
    simp at h4 ⊢
    k_extra "o")
  change 1 ≤ bisL (keys (pg :: mid ++ [Z])) A.key 1 (mid.length + 1) ∧ bisL (keys (pg :: mid ++ [Z])) A.key 1 (mid.length + 1) ≤ mid.length + 1 ∧ _ at sp
  obtain ⟨q, hq⟩ : ∃ q, bisL (keys (pg :: mid ++ [Z])) A.key 1 (mid.length + 1) = q + 1 := Nat.exists_eq_add_one_of_ne_zero (by k_extra "o")
  have hq' : bis (fun i => ! decide ((((keys (pg :: mid ++ [Z])).getD i 0 : Nat) : Int) < (A.key : Int))) (mid.length + 1 - 1) 1 (mid.length + 1) = q + 1 := hq
  rw [hq, hq'] at sp
  obtain ⟨_, s1, s2, s3⟩ := sp
  rw [hq]
  refine ⟨insL mid q A, insL_mid pg Z A mid q (by k_extra "o"), insL_perm _ _ _, insL_pair h (fun j hj hjq => ?_) fun j hj hqj => ?_⟩
  · have := s2 (j + 1) (by k_extra "o") (by k_extra "o")
    rw [keys_mid _ _ _ j hj] at this
    simp at this
    exact .inl (by k_extra "o")
  · have := s3 (j + 1) (by k_extra "o") (by k_extra "o")
    rw [keys_mid _ _ _ j hj] at this
    simp at this
    by_cases e : mid[j].key = A.key
    · exact .inr ⟨e.symm, hA _ (List.getElem_mem hj) e⟩
    · exact .inl (by k_extra "o")
theorem put_right {pos : Acc → Nat} {mid : List Acc} {A pg Z : Acc} (h : mid.Pairwise (Bef pos)) (hA : ∀ B ∈ mid, B.key = A.key → pos B < pos A) :
    ∃ mid', insL (pg :: mid ++ [Z]) (bisR (keys (pg :: mid ++ [Z])) A.key 1 (mid.length + 1)) A = pg :: mid' ++ [Z] ∧ mid'.Perm (A :: mid) ∧ mid'.Pairwise (Bef pos) := by
  have sp := bis_spec (fun i => decide ((A.key : Int) < ((keys (pg :: mid ++ [Z])).getD i 0 : Nat))) (mid.length + 1 - 1) 1 (mid.length + 1) (by k_extra "o") (Nat.le_refl _) (fun i j h1 h2 h3 h4 => by
    obtain ⟨i, rfl⟩ : ∃ i', i = i' + 1 := ⟨i - 1, by k_extra "o"⟩
    obtain ⟨j, rfl⟩ : ∃ j', j = j' + 1 := ⟨j - 1, by k_extra "o"⟩
    rw [keys_mid _ _ _ i (by k_extra "o")] at h4
    rw [keys_mid _ _ _ j (by k_extra "o")]
    have := key_le h (i := i) (j := j) (by k_extra "o") (by k_extra "o")
    simp at h4 ⊢
    k_extra "o")
  change 1 ≤ bisR (keys (pg :: mid ++ [Z])) A.key 1 (mid.length + 1) ∧ bisR (keys (pg :: mid ++ [Z])) A.key 1 (mid.length + 1) ≤ mid.length + 1 ∧ _ at sp
  obtain ⟨q, hq⟩ : ∃ q, bisR (keys (pg :: mid ++ [Z])) A.key 1 (mid.length + 1) = q + 1 := Nat.exists_eq_add_one_of_ne_zero (by k_extra "o")
  have hq' : bis (fun i => decide ((A.key : Int) < ((keys (pg :: mid ++ [Z])).getD i 0 : Nat))) (mid.length + 1 - 1) 1 (mid.length + 1) = q + 1 := hq
  rw [hq, hq'] at sp
  obtain ⟨_, s1, s2, s3⟩ := sp
  rw [hq]
  refine ⟨insL mid q A, insL_mid pg Z A mid q (by k_extra "o"), insL_perm _ _ _, insL_pair h (fun j hj hjq => ?_) fun j hj hqj => ?_⟩
  · have := s2 (j + 1) (by k_extra "o") (by k_extra "o")
    rw [keys_mid _ _ _ j hj] at this
    simp at this
    by_cases e : mid[j].key = A.key
    · exact .inr ⟨e, hA _ (List.getElem_mem hj) e⟩
    · exact .inl (by k_extra "o")
  · have := s3 (j + 1) (by k_extra "o") (by k_extra "o")
    rw [keys_mid _ _ _ j hj] at this
    simp at this
    exact .inl (by k_extra "o")
end MineV
end
end

section
noncomputable section
namespace MineV
open PySem PySem.W PyProof.Rows PySem.Calls PySem.Spec
open Mine (Kf accOf)
example : True := by
  k_with "V enter" => (
    (case ho => k_is)
    (case hcd => k_is)
    (case hb => first | exact fun s Xs => BindsTo.of_eq rfl | exact fun s Xs => binds_K Xs rfl (by k_is) rfl rfl rfl)
    (case hl => exact locs rfl)
    (case h1 => decide)
    (case h2 => exact rfl)
    (case h3 => exact rfl)
    (case h4 => exact rfl)
    (case h5 => exact rfl)
    (case h6 => exact rfl))
  trivial
example : True := by
  k_with "V enterC" => (
    (case ho => k_is)
    (case hcd => k_is)
    (case hb => first | exact fun s Xs => BindsTo.of_eq rfl | exact fun s Xs => binds_K Xs rfl (by k_is) rfl rfl rfl)
    (case hl => exact rfl)
    (case h1 => decide +kernel)
    (case h2 => exact rfl)
    (case h3 => exact rfl)
    (case h4 => exact rfl)
    (case h5 => exact rfl)
    (case h6 => exact rfl)
    (case h7 => exact rfl))
  trivial
open Mine (LexA LexT LexOk CodeOf tabL lexTl lexD tokT)
section
variable {w : World} {b₀ : Heap} {loose : List Str} {mean : ExcName → Option Value} {mg mb : Str → Option Value} (H : Hd w b₀ loose mean mg mb) {D U : Nat} {c : Cx}
theorem take_get {α : Type} {l : List α} {i : Nat} {B : α} (h : B ∈ l.take i) : ∃ j, j < i ∧ l[j]? = some B := by
  obtain ⟨j, hj, rfl⟩ := List.mem_iff_getElem.mp h
  rw [List.length_take] at hj
  exact ⟨j, by k_extra "o", by rw [List.getElem_take, List.getElem?_eq_getElem (by k_extra "o")]⟩
include H
theorem loopT7 (ok : CxOk (G2 w) tb2 nmL b₀ D U c) (hd : 8 ≤ D) (hu : 76 ≤ U) {K : Flow → St → Prop} {Dc Ds Dw Dq px Dp Dm rg : Addr} {NL : Int} {tn a1 a2 a3 : Tok} {cn par as : List Acc} {pg Z : Acc} {n0 nq nc : Nat} {t : AT} {rest : Led} {a : Nat} {pr lx off : Option Value} {pos : Acc → Nat}
    (hcn : cn.length = 5) (hpar : par.length ≤ 5) (hin : ∀ A ∈ pg :: Z :: (cn ++ par), A ∈ as) (hok : ∀ A ∈ as, A.Ok) (ht : t.Ok) (hp1 : ∀ i A, cn[i]? = some A → pos A = 4 - i) (hp2 : ∀ i A, par[i]? = some A → pos A = 5 + i)
    (h : ∀ mid n t', AT.Ok t' → mid.Perm (cn ++ par) → mid.Pairwise (Bef pos) → K .next ⟨fsP Dc Ds Dw NL tn px Dp Dm, (Dw, listOf (vrefs (pg :: mid ++ [Z])).toArray n) :: (Dq, listOf (vrefs cn).toArray nq) :: (Dc, listOf (vrefs par).toArray nc) :: (rest ++ AL w t' as) ++ [], csL a pr lx (some (.ref Dq)) off⟩) :
    OpFor (G2 w) c (lT 7).1 (lT 7).2 (.ref rg) ⟨fsP Dc Ds Dw NL tn px Dp Dm, (Dw, listOf (vrefs (pg :: [] ++ [Z])).toArray n0) :: (Dq, listOf (vrefs cn).toArray nq) :: (Dc, listOf (vrefs par).toArray nc) :: (rest ++ AL w t as) ++ [(rg, rangeOf 0 ((5 : Nat) : Int) 1 a1 a2 a3)], csL a pr lx (some (.ref Dq)) off⟩ K := by
  refine op_forG (kr := [(rg, rangeOf 0 ((5 : Nat) : Int) 1 a1 a2 a3)]) (fun i ((mid, n, t) : List Acc × Nat × AT) => ⟨fsP Dc Ds Dw NL tn px Dp Dm, (Dw, listOf (vrefs (pg :: mid ++ [Z])).toArray n) :: (Dq, listOf (vrefs cn).toArray nq) :: (Dc, listOf (vrefs par).toArray nc) :: (rest ++ AL w t as), csL a pr lx (some (.ref Dq)) off⟩)
    (fun i (mid, n, t) => AT.Ok t ∧ mid.Perm (cn.take i ++ par.take i) ∧ mid.Pairwise (Bef pos)) ok (src_range (n := 5) (a := a1) (u := a2) (v := a3) (by decide) rfl) (iq := []) rfl ?turn ?done ([], n0, t) ⟨ht, .refl _, .nil⟩ (.s rfl)
  case done =>
    rintro ⟨mid, n, t'⟩ ⟨g1, g2, g3⟩
    rw [List.take_of_length_le (by k_extra "o"), List.take_of_length_le hpar] at g2
    exact h mid n t' g1 g2 g3
  rintro c2 K2 j ⟨mid, n, t'⟩ v ok2 _ hj ⟨_, tj, rfl⟩ nx bk rt ⟨g1, g2, g3⟩
  refine op_nameT ok2 rfl ?_
  have ml : mid.length ≤ 10 := by
    rw [g2.length_eq, List.length_append, List.length_take, List.length_take]; k_extra "o"
  obtain ⟨C, eC, mC⟩ := lt_some (l := cn) (i := j) (by k_extra "o")
  have memC : ∀ B ∈ mid, (∃ k, k < j ∧ cn[k]? = some B) ∨ (∃ k, k < j ∧ par[k]? = some B) := fun B hB => by
    rcases List.mem_append.mp (g2.mem_iff.mp hB) with hB | hB
    · exact .inl (take_get hB)
    · exact .inr (take_get hB)
  have midIn : ∀ B ∈ mid, B ∈ as := fun B hB => by
    refine hin B (.tail _ (.tail _ ?_))
    rcases memC B hB with ⟨k, _, e⟩ | ⟨k, _, e⟩
    · exact List.mem_append_left _ (List.mem_of_getElem? e)
    · exact List.mem_append_right _ (List.mem_of_getElem? e)
  have lIn : ∀ (m : List Acc), (∀ B ∈ m, B ∈ as) → ∀ B ∈ pg :: m ++ [Z], B ∈ as := fun m hm B hB => by
    rcases List.mem_append.mp hB with hB | hB
    · rcases List.mem_cons.mp hB with rfl | hB
      · exact hin _ (.head _)
      · exact hm B hB
    · rw [List.mem_singleton.mp hB]; exact hin _ (.tail _ (.head _))
  have cIn : C ∈ as := hin C (.tail _ (.tail _ (List.mem_append_left _ mC)))
  -- the coin
  refine op_item (i := j) (.tail _ (.head _)) rfl (vrefs_at eC) (by rw [vrefs_len]; k_extra "o") ?_ (fun _ _ => rfl) fun _ => rfl
  intro t1
  refine ⟨trivial, ?_⟩
  have ll : (pg :: mid ++ [Z]).length = mid.length + 2 := by simp
  refine op_len (.head _) (by rw [vrefs_len]; k_extra "o") ?_
  intro t2 t3 t4
  refine ⟨trivial, ?_⟩
  refine op_callT (led := (Dw, listOf (vrefs (pg :: mid ++ [Z])).toArray n) :: (Dq, listOf (vrefs cn).toArray nq) :: (Dc, listOf (vrefs par).toArray nc) :: (rest ++ AL w t' as)) ((Dq, listOf (vrefs cn).toArray nq) :: (Dc, listOf (vrefs par).toArray nc) :: rest) ok2 (insL_fc H Dw (pg :: mid ++ [Z]) n (lIn mid midIn) cIn hok t' g1 1 (mid.length + 1) _ ?hh t1 t4 (by k_extra "o") (by k_extra "o") (by k_extra "o")) hd hu (by walk_at "V perm") ?_
  case hh => rw [vrefs_len]; show (((pg :: mid ++ [Z]).length : Nat) : Int) - 1 = _; k_extra "o"
  intro t5 ht5
  obtain ⟨mid1, e1, p1, q1⟩ := put_left (A := C) (pg := pg) (Z := Z) g3 (fun B hB _ => by
    rw [hp1 j C eC]
    rcases memC B hB with ⟨k, hk, e⟩ | ⟨k, hk, e⟩
    · rw [hp1 k B e]; k_extra "o"
    · rw [hp2 k B e]; k_extra "o")
  rw [e1]
  have ml1 : mid1.length = mid.length + 1 := p1.length_eq
  have mid1In : ∀ B ∈ mid1, B ∈ as := fun B hB => by
    rcases List.mem_cons.mp (p1.mem_iff.mp hB) with rfl | hB
    · exact cIn
    · exact midIn B hB
  have ll1 : (pg :: mid1 ++ [Z]).length = mid1.length + 2 := by simp
  have pC : mid1.Perm (cn.take (j + 1) ++ par.take j) := by
    rw [List.take_add_one, eC]
    refine p1.trans ((g2.cons C).trans ?_)
    show List.Perm _ (cn.take j ++ [C] ++ par.take j)
    walk_at "V permG"
  -- the parcel
  refine ⟨trivial, ?_⟩
  refine op_len (.tail _ (.head _)) (by rw [vrefs_len]; k_extra "o") ?_
  intro t6
  refine IfK.dec (fun cx => ?_) fun cx => ?_
  · have hjp : j < par.length := by
      have := Int.ofNat_lt.mp cx
      rw [vrefs_len] at this; exact this
    obtain ⟨E, eE, mE⟩ := lt_some (l := par) (i := j) hjp
    have eIn : E ∈ as := hin E (.tail _ (.tail _ (List.mem_append_right _ mE)))
    refine op_item (i := j) (.tail _ (.head _)) rfl (vrefs_at eE) (by rw [vrefs_len]; k_extra "o") ?_ (fun _ _ => rfl) fun _ => rfl
    intro t7
    refine ⟨trivial, ?_⟩
    refine op_len (vs := vrefs (pg :: mid1 ++ [Z])) (n := n + 1) (List.mem_append_right ((Dq, listOf (vrefs cn).toArray nq) :: (Dc, listOf (vrefs par).toArray nc) :: rest) (.head _)) (by rw [vrefs_len]; k_extra "o") ?_
    intro t8 t9 t10
    refine ⟨trivial, ?_⟩
    refine op_callT ((Dq, listOf (vrefs cn).toArray nq) :: (Dc, listOf (vrefs par).toArray nc) :: rest) ok2 (insR_fc H Dw (pg :: mid1 ++ [Z]) (n + 1) (lIn mid1 mid1In) eIn hok t5 ht5 1 (mid1.length + 1) _ ?hh2 t7 t10 (by k_extra "o") (by k_extra "o") (by k_extra "o")) hd hu (.refl _) ?_
    case hh2 => rw [vrefs_len]; show (((pg :: mid1 ++ [Z]).length : Nat) : Int) - 1 = _; k_extra "o"
    intro t11 ht11
    obtain ⟨mid2, e2, p2, q2⟩ := put_right (A := E) (pg := pg) (Z := Z) q1 (fun B hB _ => by
      rw [hp2 j E eE]
      rcases List.mem_append.mp (pC.mem_iff.mp hB) with hB | hB
      · obtain ⟨k, hk, e⟩ := take_get hB
        rw [hp1 k B e]; k_extra "o"
      · obtain ⟨k, hk, e⟩ := take_get hB
        rw [hp2 k B e]; k_extra "o")
    rw [e2]
    refine (nx _ (mid2, n + 2, t11) ⟨ht11, ?_, q2⟩ (.p (r := []) rfl (by rw [List.append_nil]; exact List.perm_middle))).1
    rw [List.take_add_one (l := par), eE]
    refine p2.trans ((pC.cons E).trans ?_)
    show List.Perm _ (cn.take (j + 1) ++ (par.take j ++ [E]))
    walk_at "V permG"
  · have hjp : par.length ≤ j := by
      have : ¬ j < par.length := fun z => cx (by rw [vrefs_len]; exact Int.ofNat_lt.mpr z)
      k_extra "o"
    refine (nx _ (mid1, n + 1, t5) ⟨ht5, ?_, q1⟩ (.p (r := []) rfl (by rw [List.append_nil]; exact List.perm_middle))).1
    rw [List.take_of_length_le (i := j + 1) (l := par) (by k_extra "o"), ← List.take_of_length_le (i := j) (l := par) hjp]
    exact pC
end
end MineV
end
end

section
noncomputable section
namespace MineV
open PySem PySem.W PyProof.Rows PySem.Calls PySem.Spec
open Mine (Kf accOf)
example : True := by
  k_with "V enter" => (
    (case ho => k_is)
    (case hcd => k_is)
    (case hb => first | exact fun s Xs => BindsTo.of_eq rfl | exact fun s Xs => binds_K Xs rfl (by k_is) rfl rfl rfl)
    (case hl => exact locs rfl)
    (case h1 => decide)
    (case h2 => exact rfl)
    (case h3 => exact rfl)
    (case h4 => exact rfl)
    (case h5 => exact rfl)
    (case h6 => exact rfl))
  trivial
example : True := by
  k_with "V enterC" => (
    (case ho => k_is)
    (case hcd => k_is)
    (case hb => first | exact fun s Xs => BindsTo.of_eq rfl | exact fun s Xs => binds_K Xs rfl (by k_is) rfl rfl rfl)
    (case hl => exact rfl)
    (case h1 => decide +kernel)
    (case h2 => exact rfl)
    (case h3 => exact rfl)
    (case h4 => exact rfl)
    (case h5 => exact rfl)
    (case h6 => exact rfl)
    (case h7 => exact rfl))
  trivial
open Mine (LexA LexT LexOk CodeOf tabL lexTl lexD tokT)
noncomputable def toks (tx : Str) : Nat → Lx → List Str × Lx
  | 0, L => ([], L)
  | n + 1, L => ((toks tx n L).1 ++ [((toks tx n L).2.tok tx).1], ((toks tx n L).2.tok tx).2)
structure Ready (tx : Str) (L : Lx) (e : Nat) (ln : Int) : Prop where
  is : toks tx 5 L = (nm5, ⟨[], e, ln⟩)
  le : ∀ m ≤ 5, (toks tx m L).2.i ≤ tx.length
  few : ∀ m ≤ 5, (toks tx m L).2.q.length ≤ 5
noncomputable def lR (k : Nat) : List Stmt := (lF 12).2.drop k
noncomputable def fsR (Ds Dw : Addr) (NL : Int) (tl : Tok) (px Dp Dm : Addr) : List (Str × Value) := [("spare", .ref Ds), ("row", .ref Dw), ("lines", .int NL tl), ("page", .ref px), ("pieces", .ref Dp), ("names", .ref Dm)]
theorem strsOk5 : Mine.StrsOk nm5 := by
  intro s hs
  have : ∀ s ∈ nm5, PyData.strOk s = true := by decide +kernel
  exact this s hs
section
variable {w : World} {b₀ : Heap} {loose : List Str} {mean : ExcName → Option Value} {mg mb : Str → Option Value} (H : Hd w b₀ loose mean mg mb) {D U : Nat} {c : Cx}
include H
theorem turnA (ok : CxOk (G2 w) tb2 nmL b₀ D U c) (hd : 20 ≤ D) (hu : 200 ≤ U) {K : Flow → St → Prop} {Ds Dw px Dp Dm : Addr} {NL : Int} {tn : Tok} {row sp : List Acc} {n1 n2 nm : Nat} {pg : Acc} {t : AT} {rest tl : Led} {mv : List Value} {tx : Str} {la : LexA} {e5 a : Nat} {L : Lx} {vt : Value} {pr co off : Option Value}
    (lok : LexOk w b₀ tx la) (hx : tx.length ≤ 1000) (hm5 : StrsAre mv nm5) (hl : row.length ≤ 100) (hsp : sp.length ≤ 100) (hs : ∀ A ∈ row, A.its.length ≤ 50) (hL : LexIs w la L tl) (hr : Ready tx L e5 NL)
    (h : ∀ Dt Dc par cuts n1 n3 nt tv tl', par.map Acc.prs = pairL (row.map Acc.prs) → (∀ A ∈ cuts, A.its = []) → cuts.length = row.length / 2 → StrsAre tv nm5 → LexIs w la ⟨[], e5, NL⟩ tl' →
      WPss (WPs (G2 w) tb2 nmL c 30) (lR 4) K ⟨fsT Dt Dc Ds Dw NL tn px Dp Dm, (Dt, listOf tv.toArray nt) :: (((Dc, listOf (vrefs par).toArray n3) :: (Ds, listOf (vrefs (sp ++ cuts)).toArray n1) :: rest ++ AL w t (par ++ cuts ++ pg :: sp)) ++ tl' ++ [(Dm, listOf mv.toArray nm)]), csL a pr (some (.ref la.I)) co off⟩) :
    WPss (WPs (G2 w) tb2 nmL c 30) (lR 0) K ⟨("turn", vt) :: fsR Ds Dw NL tn px Dp Dm, (Ds, listOf (vrefs sp).toArray n1) :: (Dw, listOf (vrefs row).toArray n2) :: (Dm, listOf mv.toArray nm) :: (rest ++ tl ++ AL w t (row ++ (pg :: sp))), csL a pr (some (.ref la.I)) co off⟩ := by
  refine op_newList (vs := []) (Nat.le_of_ble_eq_true rfl) fun Dc => ?_
  intro t1
  refine ⟨trivial, ?_⟩
  refine op_len (.tail _ (.tail _ (.head _))) (by rw [vrefs_len]; k_extra "o") ?_
  intro t2 t3 t4 t5
  refine ⟨trivial, ?_⟩
  rw [vrefs_len]
  refine op_range3 (by decide) ?hb (by decide) (by decide) fun rg => ?_
  case hb => show ((row.length : Int) - 1).natAbs < 1000; k_extra "o"
  refine OpFor.weak (σ' := ⟨fsP Dc Ds Dw NL tn px Dp Dm, (rg, rangeOf 0 ((row.length : Int) - 1) 2 t1 t4 t5) :: (Dc, listOf (vrefs []).toArray 0) :: (Ds, listOf (vrefs sp).toArray n1) :: (Dw, listOf (vrefs row).toArray n2) :: ((Dm, listOf mv.toArray nm) :: (rest ++ tl)) ++ AL w t (row ++ (pg :: sp)), csL a pr (some (.ref la.I)) co off⟩) (.s rfl) ?_
  refine loopT1 H ok (by k_extra "o") (by k_extra "o") hl hsp hs fun par cuts n1 n3 h1 h2 h3 => ?_
  refine op_compA ok (swap_of ok rfl rfl rfl) rfl rfl rfl rfl ?_
  refine cg_of (x := "name") (fs := fsP Dc Ds Dw NL tn px Dp Dm) (cs₂ := [("lexer", a + 1, some (.ref la.I))]) (csR := [("often", a + 3, off), ("coins", a + 2, co), ("prices", a, pr)]) (kp := [(Dm, listOf mv.toArray nm)]) (fun _ (tl' : Led) => ((Dc, listOf (vrefs par).toArray n3) :: (Ds, listOf (vrefs (sp ++ cuts)).toArray n1) :: rest ++ AL w t (par ++ cuts ++ pg :: sp)) ++ tl')
    (fun m xs tl' => StrsAre xs (toks tx m L).1 ∧ LexIs w la (toks tx m L).2 tl') ok (src_list (vs := mv) (nn := nm) rfl) rfl rfl rfl rfl rfl ?hcs1 ?hcl1 (by rw [hm5.len_eq]; decide) ?turn1 tl ⟨.nil, hL⟩ (.p (r := (Dw, listOf (vrefs row).toArray n2) :: AC w (row.drop (2 * (row.length / 2)))) rfl ?hp1) ?fin1
  case hcs1 =>
    exact @List.perm_middle (Str × Addr × Option Value) ("lexer", a + 1, some (Value.ref la.I)) [("often", a + 3, off), ("coins", a + 2, co)] [("prices", a, pr)]
  case hcl1 => intro q hq; rw [List.mem_singleton.mp hq]; rfl
  case hp1 =>
    unfold AL
    simp only [AC.app, AC.cons]
    walk_at "V perm"
  case turn1 =>
    rintro c5 K5 K6 m xs tl2 v ok5 hm6 _ nx5 _ ⟨g1, g2⟩
    refine IfK.yes rfl ?_
    intro pl
    rw [hm5.len_eq] at hm6
    have hm7 : m ≤ 5 := Nat.le_of_lt hm6
    refine op_mTok H ok5 g2 (fun p hp => List.mem_append_right _ hp) ?_
    refine ⟨trivial, ?_⟩
    refine op_tok H (tx := tx) ok5 hd hu hx lok (hr.le m hm7) (Nat.le_trans (hr.few m hm7) (by decide)) g2 (.refl _) fun u tl3 h3 => ?_
    exact nx5 _ _ tl3 ⟨Mine.strs_app g1 (.cons _ u .nil), h3⟩ (.s rfl)
  rintro Dt C9 nt tv tl3 s9 ⟨g1, g2⟩ hl9 rl9
  refine fin_assign ok rfl rl9 ?_
  have e5' : mv.length = 5 := hm5.len_eq
  rw [e5', hr.is] at g1 g2
  refine op_or ok ?_
  refine op_neStrs (ns := nm5) (ms := nm5) ok (by k_extra "o") (.head _) (.tail _ (List.mem_append_right _ (.head _))) g1 hm5 strsOk5 strsOk5 ?_
  refine IfK.no (by rw [decide_eq_true rfl]; rfl) ?_
  have g2' : LexIs w la ⟨[], e5, NL⟩ tl3 := g2
  refine op_lineno H ok g2' (fun p hp => .tail _ (List.mem_append_left _ (List.mem_append_right _ hp))) ?_
  intro t6
  refine IfK.no (by show (NL != NL) = false; simp) ?_
  exact h Dt Dc par cuts n1 n3 nt tv tl3 h1 h2 h3 g1 g2'
end
end MineV
end
end

section
noncomputable section
namespace MineV
open PySem PySem.W PyProof.Rows PySem.Calls PySem.Spec
open Mine (Kf accOf)
example : True := by
  k_with "V enter" => (
    (case ho => k_is)
    (case hcd => k_is)
    (case hb => first | exact fun s Xs => BindsTo.of_eq rfl | exact fun s Xs => binds_K Xs rfl (by k_is) rfl rfl rfl)
    (case hl => exact locs rfl)
    (case h1 => decide)
    (case h2 => exact rfl)
    (case h3 => exact rfl)
    (case h4 => exact rfl)
    (case h5 => exact rfl)
    (case h6 => exact rfl))
  trivial
example : True := by
  k_with "V enterC" => (
    (case ho => k_is)
    (case hcd => k_is)
    (case hb => first | exact fun s Xs => BindsTo.of_eq rfl | exact fun s Xs => binds_K Xs rfl (by k_is) rfl rfl rfl)
    (case hl => exact rfl)
    (case h1 => decide +kernel)
    (case h2 => exact rfl)
    (case h3 => exact rfl)
    (case h4 => exact rfl)
    (case h5 => exact rfl)
    (case h6 => exact rfl)
    (case h7 => exact rfl))
  trivial
open Mine (LexA LexT LexOk CodeOf tabL lexTl lexD tokT)
theorem AC.nil (w : World) : AC w [] = [] := rfl
theorem OpFor.nd {y : Gl} {c : Cx} {t : Expr} {body : List Stmt} {xv : Value} {σ : St} {K : Flow → St → Prop} (h : ND σ.led → OpFor y c t body xv σ K) : OpFor y c t body xv σ K := ⟨fun s R => (h (rep_off R).1).run s R⟩
noncomputable def posIn (l : List Acc) (A : Acc) : Nat := (l.map Acc.x).idxOf A.x
theorem posIn_at {l : List Acc} (hn : (l.map Acc.x).Nodup) {i : Nat} {A : Acc} (h : l[i]? = some A) : posIn l A = i := by
  obtain ⟨hi, e⟩ := List.getElem?_eq_some_iff.mp h
  have hi' : i < (l.map Acc.x).length := by rw [List.length_map]; exact hi
  unfold posIn
  have := List.Nodup.idxOf_getElem hn i hi'
  rw [List.getElem_map, e] at this
  exact this
theorem al_nd {w : World} : ∀ {as : List Acc}, ND (AC w as) → (as.map Acc.x).Nodup
  | [], _ => .nil
  | A :: r, h => by
    rw [AC.cons] at h
    obtain ⟨_, h2, h3⟩ := ND.app.mp h
    refine List.nodup_cons.mpr ⟨fun hm => ?_, al_nd h2⟩
    obtain ⟨B, hB, e⟩ := List.mem_map.mp hm
    exact h3 (A.x, A.obj) (.head _) (B.x, B.obj) (List.mem_flatMap.mpr ⟨B, hB, .head _⟩) e.symm
section
variable {w : World} {b₀ : Heap} {loose : List Str} {mean : ExcName → Option Value} {mg mb : Str → Option Value} (H : Hd w b₀ loose mean mg mb) {D U : Nat} {c : Cx}
include H
theorem turnB (ok : CxOk (G2 w) tb2 nmL b₀ D U c) (hd : 20 ≤ D) (hu : 200 ≤ U) {K : Flow → St → Prop} {Dt Dc Ds Dw px Dp Dm : Addr} {NL : Int} {tn : Tok} {par sp as0 : List Acc} {n1 n3 nt np : Nat} {pg : Acc} {t : AT} {rest tl mm : Led} {its : List It} {tv : List Value} {tx : Str} {la : LexA} {e5 a : Nat} {pr co off : Option Value}
    (hpx : pg.x = px) (has0 : as0.Perm (par ++ pg :: sp)) (lok : LexOk w b₀ tx la) (hi : its.length = 5) (htv : StrsAre tv nm5) (hsp : sp.length ≤ 100) (hfree : ∀ A ∈ sp, A.its = []) (hL : LexIs w la ⟨[], e5, NL⟩ tl) (ht : t.Ok) (hpar : par.length ≤ 5) (hoks : ∀ A ∈ pg :: par, A.Ok) (hsm : Small 5 (its.map It.pr2))
    (h : ∀ Dw Dq mid cn sp' Z n nq n1 t' tl', t'.Ok → (∀ A ∈ pg :: Z :: (cn ++ par ++ sp'), A.Ok) → cn.map Acc.prs = (its.map It.pr2).map (fun q => [q]) → (∀ A ∈ sp', A.its = []) → sp'.length ≤ sp.length → LexIs w la ⟨nm5, e5, NL⟩ tl' → ((cn.reverse ++ par).map Acc.x).Nodup → mid.Perm (cn ++ par) → mid.Pairwise (Bef (posIn (cn.reverse ++ par))) →
      WPss (WPs (G2 w) tb2 nmL c 30) (lR 8) K ⟨fsP Dc Ds Dw NL tn px Dp Dm, (Dw, listOf (vrefs (pg :: mid ++ [Z])).toArray n) :: (Dq, listOf (vrefs cn).toArray nq) :: (Dc, listOf (vrefs par).toArray n3) :: (((Ds, listOf (vrefs sp').toArray n1) :: (Dp, listOf (its.map fun i => Value.ref i.p).toArray np) :: (its.map It.cell ++ rest ++ mm ++ tl')) ++ AL w t' (pg :: Z :: (cn ++ par ++ sp'))) ++ [], csL a pr (some (.ref la.I)) (some (.ref Dq)) off⟩) :
    WPss (WPs (G2 w) tb2 nmL c 30) (lR 4) K ⟨fsT Dt Dc Ds Dw NL tn px Dp Dm, (Dt, listOf tv.toArray nt) :: (((Dc, listOf (vrefs par).toArray n3) :: (Ds, listOf (vrefs sp).toArray n1) :: ((Dp, listOf (its.map fun i => Value.ref i.p).toArray np) :: (its.map It.cell ++ rest)) ++ AL w t as0) ++ tl ++ mm), csL a pr (some (.ref la.I)) co off⟩ := by
  refine op_newList (vs := []) (Nat.le_of_ble_eq_true rfl) fun Dq => ?_
  intro t1
  refine ⟨trivial, ?_⟩
  refine op_range ?_
  intro rg a1 a2 a3
  refine OpFor.weak (σ' := ⟨fsT Dt Dc Ds Dw NL tn px Dp Dm, (Dq, listOf (vrefs []).toArray 0) :: (Ds, listOf (vrefs sp).toArray n1) :: (Dt, listOf tv.toArray nt) :: (Dp, listOf (its.map fun i => Value.ref i.p).toArray np) :: (its.map It.cell ++ ((Dc, listOf (vrefs par).toArray n3) :: (rest ++ mm)) ++ tl ++ AL w t ((pg :: par) ++ sp ++ [])) ++ [(rg, rangeOf 0 ((5 : Nat) : Int) 1 a1 a2 a3)], csL a pr (some (.ref la.I)) (some (.ref Dq)) off⟩) (.p (r := []) rfl ?hp1) ?_
  case hp1 =>
    rw [show ((5 : Nat) : Int) = 5 from rfl, show (vrefs []).toArray = #[] from rfl]
    have hc := cnt_perm (AL.perm (w := w) (t := t) has0)
    unfold AL at hc ⊢
    simp only [AC.app, AC.cons, AC.nil] at hc ⊢
    refine perm_cnt fun p => ?_
    have hcp := hc p
    simp only [cnt_nil, cnt_app, cnt_cons] at hcp ⊢
    k_extra "o"
  refine loopT5 H ok hd hu lok hi htv hsp hfree hL fun cn sp' n1' nq tl' h1 h2 h3 h4 => ?_
  -- the new row
  refine ⟨trivial, ?_⟩
  refine op_newA H ok (by k_extra "o") (by k_extra "o") fun Z hZ => ?_
  refine op_newList (vs := [_, _]) (Nat.le_of_ble_eq_true rfl) fun Dw2 => ?_
  intro t2
  refine ⟨trivial, ?_⟩
  refine op_range ?_
  intro rg2 b1 b2 b3
  have hcn : cn.length = 5 := by
    have := congrArg List.length h1
    rw [List.length_map, List.length_map, List.length_map] at this
    k_extra "o"
  refine OpFor.weak (σ' := ⟨fsP Dc Ds Dw2 NL tn px Dp Dm, (Dw2, listOf (vrefs (pg :: [] ++ [Z])).toArray 0) :: (Dq, listOf (vrefs cn).toArray nq) :: (Dc, listOf (vrefs par).toArray n3) :: (((Ds, listOf (vrefs sp').toArray n1') :: (Dp, listOf (its.map fun i => Value.ref i.p).toArray np) :: (its.map It.cell ++ rest ++ mm ++ tl')) ++ AL w t (pg :: Z :: (cn ++ par ++ sp'))) ++ [(rg2, rangeOf 0 ((5 : Nat) : Int) 1 b1 b2 b3)], csL a pr (some (.ref la.I)) (some (.ref Dq)) off⟩) (.p (r := [(Dt, listOf tv.toArray nt)]) ?hf2 ?hp2) ?_
  case hf2 => rw [← hpx]; rfl
  case hp2 =>
    rw [show ((5 : Nat) : Int) = 5 from rfl, ← hpx]
    unfold AL
    simp only [AC.app, AC.cons, AC.nil]
    show List.Perm (_ :: (Dw2, listOf (vrefs (pg :: [] ++ [Z])).toArray 0) :: _) _
    walk_at "V perm"
  refine OpFor.nd fun nd => ?_
  have ndx : ((cn.reverse ++ par).map Acc.x).Nodup := by
    have n1 := (ND.app.mp (ND.cons.mp (ND.cons.mp (ND.cons.mp (ND.app.mp nd).1).2).2).2).2.1
    have n2 := al_nd (ND.cons.mp (ND.cons.mp n1).2).2
    refine List.Perm.nodup (((List.reverse_perm cn).append_right par).map Acc.x).symm (n2.sublist (List.Sublist.map Acc.x ?_))
    exact ((List.sublist_append_left (cn ++ par) sp').trans (List.sublist_cons_self _ _)).trans (List.sublist_cons_self _ _)
  have oks : ∀ A ∈ pg :: Z :: (cn ++ par ++ sp'), A.Ok := by
    intro A hA
    have free : A.its = [] → A.Ok := fun e => ⟨by rw [e]; exact Nat.zero_le _, fun i hi => by rw [e] at hi; cases hi⟩
    rcases List.mem_cons.mp hA with rfl | hA
    · exact hoks _ (.head _)
    rcases List.mem_cons.mp hA with rfl | hA
    · exact free hZ
    rcases List.mem_append.mp hA with hA | hA
    · rcases List.mem_append.mp hA with hA | hA
      · have : A.prs ∈ (its.map It.pr2).map (fun q => [q]) := by rw [← h1]; exact List.mem_map_of_mem hA
        obtain ⟨q, hq, e⟩ := List.mem_map.mp this
        exact small_ok (n := 1) ⟨by rw [← e]; exact Nat.le_refl _, fun q' hq' => by
          rw [← e, List.mem_singleton] at hq'
          rw [hq']; exact hsm.2 q hq⟩ (by decide)
      · exact hoks A (.tail _ hA)
    · exact free (h2 A hA)
  refine loopT7 H ok (by k_extra "o") (by k_extra "o") hcn hpar (fun A hA => ?_) oks ht (pos := posIn (cn.reverse ++ par)) (fun i A hA => posIn_at ndx ?_) (fun i A hA => posIn_at ndx ?_) fun mid n t' ht' p1 q1 => ?_
  · rcases List.mem_cons.mp hA with rfl | hA
    · exact .head _
    rcases List.mem_cons.mp hA with rfl | hA
    · exact .tail _ (.head _)
    · exact .tail _ (.tail _ (List.mem_append_left _ hA))
  · have hi : i < 5 := by rw [← hcn]; exact (List.getElem?_eq_some_iff.mp hA).1
    rw [List.getElem?_append_left (by rw [List.length_reverse]; k_extra "o"), List.getElem?_reverse (by k_extra "o"), show cn.length - 1 - (4 - i) = i by k_extra "o"]
    exact hA
  · rw [List.getElem?_append_right (by rw [List.length_reverse]; k_extra "o"), List.length_reverse, hcn, show 5 + i - 5 = i by k_extra "o"]
    exact hA
  exact h Dw2 Dq mid cn sp' Z n nq n1' t' tl' ht' oks h1 h2 h3 h4 ndx p1 q1
end
end MineV
end
end

section
noncomputable section
namespace MineV
open PySem PySem.W PyProof.Rows PySem.Calls PySem.Spec
open Mine (Kf accOf)
example : True := by
  k_with "V enter" => (
    (case ho => k_is)
    (case hcd => k_is)
    (case hb => first | exact fun s Xs => BindsTo.of_eq rfl | exact fun s Xs => binds_K Xs rfl (by k_is) rfl rfl rfl)
    (case hl => exact locs rfl)
    (case h1 => decide)
    (case h2 => exact rfl)
    (case h3 => exact rfl)
    (case h4 => exact rfl)
    (case h5 => exact rfl)
    (case h6 => exact rfl))
  trivial
example : True := by
  k_with "V enterC" => (
    (case ho => k_is)
    (case hcd => k_is)
    (case hb => first | exact fun s Xs => BindsTo.of_eq rfl | exact fun s Xs => binds_K Xs rfl (by k_is) rfl rfl rfl)
    (case hl => exact rfl)
    (case h1 => decide +kernel)
    (case h2 => exact rfl)
    (case h3 => exact rfl)
    (case h4 => exact rfl)
    (case h5 => exact rfl)
    (case h6 => exact rfl)
    (case h7 => exact rfl))
  trivial
open Mine (LexA LexT LexOk CodeOf tabL lexTl lexD tokT)
theorem Weak.tr {a b d : St} (h : Weak a b) (k : Weak b d) : Weak a d :=
  ⟨fun x v e => h.f x v (k.f x v e), by
    obtain ⟨r, p⟩ := h.l
    obtain ⟨r2, p2⟩ := k.l
    exact ⟨r2 ++ r, by rw [← List.append_assoc]; exact p.trans (p2.append_right r)⟩, h.c.trans k.c⟩
theorem kms_mid (l : List Value) (a z : Value) (k : Int) (hk : k = ((l.length + 1 : Nat) : Int)) : kms_pick (a :: l ++ [z]) (some 1) (some k) = l := by
  subst hk
  unfold kms_pick kms_lo kms_hi
  have e : ¬ ((l.length + 1 : Nat) : Int) < 0 := by k_extra "o"
  dsimp only
  rw [if_neg e, if_neg (by decide)]
  simp
noncomputable def posV (l : List Acc) : Value → Nat
  | .ref x => (l.map Acc.x).idxOf x
  | _ => 0
theorem posV_ref (l : List Acc) (A : Acc) : posV l A.ref = posIn l A := rfl
noncomputable def kzOf (l : List Acc) : List Int := l.map fun A => ((A.key : Nat) : Int)
theorem kz_at {l : List Acc} (hn : (l.map Acc.x).Nodup) {A : Acc} (hA : A ∈ l) : (kzOf l).getD (posIn l A) 0 = (A.key : Int) := by
  obtain ⟨i, hi, e⟩ := List.mem_iff_getElem.mp hA
  have hg : l[i]? = some A := List.getElem?_eq_some_iff.mpr ⟨hi, e⟩
  rw [posIn_at hn hg]
  unfold kzOf
  rw [List.getD_eq_getElem?_getD, List.getElem?_map, hg]; rfl
theorem sorted_is {l mid : List Acc} {out : List Value} (hn : (l.map Acc.x).Nodup) (h : MineS.Stable (posV l) (kzOf l) (vrefs l) out) (hp : mid.Perm l) (hm : mid.Pairwise (Bef (posIn l))) : out = vrefs mid := by
  refine List.Perm.eq_of_pairwise (le := fun u v => (kzOf l).getD (posV l u) 0 < (kzOf l).getD (posV l v) 0 ∨ ((kzOf l).getD (posV l u) 0 = (kzOf l).getD (posV l v) 0 ∧ posV l u < posV l v)) (fun a b _ _ h1 h2 => ?_) h.ord ?_ (h.perm.trans (hp.map Acc.ref).symm)
  · exfalso; k_extra "o"
  · unfold vrefs
    refine List.pairwise_map.mpr (hm.imp_of_mem fun {A B} hA hB hAB => ?_)
    rw [posV_ref, posV_ref, kz_at hn (hp.mem_iff.mp hA), kz_at hn (hp.mem_iff.mp hB)]
    unfold Bef at hAB
    k_extra "o"
section
variable {w : World} {b₀ : Heap} {loose : List Str} {mean : ExcName → Option Value} {mg mb : Str → Option Value} (H : Hd w b₀ loose mean mg mb) {D U : Nat} {c : Cx}
include H
theorem turnC (ok : CxOk (G2 w) tb2 nmL b₀ D U c) (hd : 20 ≤ D) (hu : 200 ≤ U) {K : Flow → St → Prop} {Dq Dc Ds Dw px Dp Dm : Addr} {NL : Int} {tn : Tok} {par cn mid as : List Acc} {n n3 nq : Nat} {pg Z : Acc} {t : AT} {R : Led} {a : Nat} {pr lx off : Option Value}
    (hcn : cn.length = 5) (hpar : par.length ≤ 5) (hin : ∀ A ∈ cn ++ par, A ∈ as) (hok : ∀ A ∈ as, A.Ok) (ht : t.Ok) (hnd : ((cn.reverse ++ par).map Acc.x).Nodup) (hp : mid.Perm (cn ++ par)) (hm : mid.Pairwise (Bef (posIn (cn.reverse ++ par)))) (hso : ∀ A ∈ mid, PyData.strOk (strP A.prs) = true)
    (h : ∀ Dw2 t' σ, AT.Ok t' → Weak σ ⟨fsR Ds Dw2 NL tn px Dp Dm, (Dw2, listOf (vrefs mid).toArray 0) :: (R ++ AL w t' as), csL a pr lx (some (.ref Dq)) off⟩ → K .next σ) :
    WPss (WPs (G2 w) tb2 nmL c 30) (lR 8) K ⟨fsP Dc Ds Dw NL tn px Dp Dm, (Dw, listOf (vrefs (pg :: mid ++ [Z])).toArray n) :: (Dq, listOf (vrefs cn).toArray nq) :: (Dc, listOf (vrefs par).toArray n3) :: (R ++ AL w t as) ++ [], csL a pr lx (some (.ref Dq)) off⟩ := by
  have ml : mid.length ≤ 10 := by
    rw [hp.length_eq, List.length_append]; k_extra "o"
  have ll1 : (pg :: mid ++ [Z]).length = mid.length + 2 := by simp
  refine op_slice ok ?_
  intro t1
  refine ⟨trivial, ?_⟩
  refine op_len (.head _) (by rw [vrefs_len]; k_extra "o") ?_
  intro t2 t3 t4 d
  refine op_sliceList (vs := vrefs (pg :: mid ++ [Z])) (n := n) (.tail _ (.head _)) (.head _) (.int 1 t1) (.int _ t4) (by rw [vrefs_len]; k_extra "o") (fun _ => rfl) fun Dw2 => ?_
  rw [show vrefs (pg :: mid ++ [Z]) = pg.ref :: vrefs mid ++ [Z.ref] from vrefs_app (pg :: mid) [Z], kms_mid _ _ _ _ (by
    show ((pg.ref :: vrefs mid ++ [Z.ref]).length : Int) - 1 = _
    rw [List.length_append, List.length_cons]; simp)]
  refine op_comp ok rfl rfl rfl rfl ?_
  intro t5
  refine ⟨trivial, ?_⟩
  refine op_range ?_
  intro rg a1 a2 a3
  have hcl : (vrefs cn).length = 5 := by rw [vrefs_len]; exact hcn
  refine cg_of (x := "k") (fs := ("parcels", .ref Dc) :: fsR Ds Dw2 NL tn px Dp Dm) (cs₂ := [("coins", a + 2, some (.ref Dq))]) (csR := [("often", a + 3, off), ("lexer", a + 1, lx), ("prices", a, pr)]) (kp := [(rg, rangeOf 0 ((5 : Nat) : Int) 1 a1 a2 a3)]) (fun _ (_ : Unit) => (Dw2, listOf (vrefs mid).toArray 0) :: (Dq, listOf (vrefs cn).toArray nq) :: (Dc, listOf (vrefs par).toArray n3) :: (R ++ AL w t as))
    (fun m xs _ => xs = (vrefs cn).reverse.take m) ok (src_range (n := 5) (by decide) rfl) rfl rfl rfl rfl rfl ?hcs1 ?hcl1 (by decide) ?turn1 () rfl (.p (r := [(d, sliceObj (.int 1 t1) (.int (((pg.ref :: vrefs mid ++ [Z.ref]).length : Int) - 1) t4)), (Dw, listOf (pg.ref :: vrefs mid ++ [Z.ref]).toArray n)]) rfl ?hp1) ?fin1
  case hcs1 => exact @List.perm_middle (Str × Addr × Option Value) ("coins", a + 2, some (Value.ref Dq)) [("often", a + 3, off)] [("lexer", a + 1, lx), ("prices", a, pr)]
  case hcl1 => intro q hq; rw [List.mem_singleton.mp hq]; rfl
  case hp1 =>
    rw [show ((5 : Nat) : Int) = 5 from rfl]
    show List.Perm (_ :: (Dw2, listOf (vrefs mid).toArray 0) :: (d, sliceObj (.int 1 t1) (.int (((pg.ref :: vrefs mid ++ [Z.ref]).length : Int) - 1) t4)) :: _) _
    walk_at "V perm"
  case turn1 =>
    rintro c5 K5 K6 m xs _ v ok5 hm6 ⟨_, tm, rfl⟩ nx5 _ rfl
    refine IfK.yes rfl ?_
    intro u1 u2
    obtain ⟨C, eC, _⟩ := lt_some (l := cn) (i := 4 - m) (by k_extra "o")
    refine op_item (i := 4 - m) (.tail _ (.head _)) (by show (4 : Int) - (m : Int) = _; k_extra "o") (vrefs_at eC) (by k_extra "o") ?_ (fun _ _ => rfl) fun _ => rfl
    refine nx5 _ _ () ?_ (.s rfl)
    rw [List.take_add_one, List.getElem?_reverse (by k_extra "o"), hcl, show 5 - 1 - m = 4 - m by k_extra "o", vrefs_at eC]; rfl
  rintro Dx C9 nx xv _ s9 hx9 hl9 rl9
  refine fin_eval rl9 ?_
  rw [List.take_of_length_le (by rw [List.length_reverse, hcl]; exact Nat.le_refl _)] at hx9
  subst hx9
  refine op_addL (n := nx) (m := n3) (vs := (vrefs cn).reverse) (ws := vrefs par) (.head _) (.tail _ (.tail _ (.tail _ (.head _)))) (by rw [List.length_reverse, hcl, vrefs_len]; k_extra "o") fun Dl => ?_
  have el : (vrefs cn).reverse ++ vrefs par = vrefs (cn.reverse ++ par) := by unfold vrefs; rw [List.map_append, List.map_reverse]
  rw [el]
  refine ⟨trivial, ?_⟩
  obtain ⟨U', rfl⟩ : ∃ U', U = U' + 2 := ⟨U - 2, by k_extra "o"⟩
  have hlen : (cn.reverse ++ par).length ≤ 10 := by rw [List.length_append, List.length_reverse]; k_extra "o"
  have hinl : ∀ A ∈ cn.reverse ++ par, A ∈ as := fun A hA => hin A (by
    rcases List.mem_append.mp hA with hA | hA
    · exact List.mem_append_left _ (List.mem_reverse.mp hA)
    · exact List.mem_append_right _ hA)
  generalize hl0 : cn.reverse ++ par = l at *
  refine Op.perm (led' := (Dl, listOf (vrefs l).toArray 0) :: (Dw2, listOf (vrefs mid).toArray 0) :: ((Dx, listOf (vrefs cn).reverse.toArray nx) :: (Dq, listOf (vrefs cn).toArray nq) :: (Dc, listOf (vrefs par).toArray n3) :: (R ++ [(rg, rangeOf 0 ((5 : Nat) : Int) 1 a1 a2 a3)])) ++ AL w t as) (by walk_at "V perm") ?_
  refine op_sortedKey (U := U') (vs := vrefs l) (kz := kzOf l) (f := posV l) (fun t : AT => (Dl, listOf (vrefs l).toArray 0) :: (Dw2, listOf (vrefs mid).toArray 0) :: ((Dx, listOf (vrefs cn).reverse.toArray nx) :: (Dq, listOf (vrefs cn).toArray nq) :: (Dc, listOf (vrefs par).toArray n3) :: (R ++ [(rg, rangeOf 0 ((5 : Nat) : Int) 1 a1 a2 a3)])) ++ AL w t as) AT.Ok ok t ht (.head _) (by unfold kzOf; rw [List.length_map, vrefs_len]) (by rw [vrefs_len]; k_extra "o") ?hf ?turn2 fun dd out n4 t2 ht2 hst => ?_
  case hf =>
    intro i v e
    unfold vrefs at e
    rw [List.getElem?_map] at e
    obtain ⟨A, eA, rfl⟩ := Option.map_eq_some_iff.mp e
    exact posIn_at hnd eA
  case turn2 =>
    intro c6 t3 i v ok6 ht3 e
    unfold vrefs at e
    rw [List.getElem?_map] at e
    obtain ⟨A, eA, rfl⟩ := Option.map_eq_some_iff.mp e
    refine op_callT ((Dl, listOf (vrefs l).toArray 0) :: (Dw2, listOf (vrefs mid).toArray 0) :: ((Dx, listOf (vrefs cn).reverse.toArray nx) :: (Dq, listOf (vrefs cn).toArray nq) :: (Dc, listOf (vrefs par).toArray n3) :: (R ++ [(rg, rangeOf 0 ((5 : Nat) : Int) 1 a1 a2 a3)]))) ok6 (price_fc H (hinl A (List.mem_of_getElem? eA)) hok t3 ht3) (by k_extra "o") (by k_extra "o") (.refl _) ?_
    intro u t4 ht4
    refine ⟨u, t4, ?_, ht4, .s rfl⟩
    have : (kzOf l).getD i 0 = (A.key : Int) := by unfold kzOf; rw [List.getD_eq_getElem?_getD, List.getElem?_map, eA]; rfl
    rw [this]
  have hpl : mid.Perm l := by rw [← hl0]; exact hp.trans ((List.reverse_perm cn).symm.append_right par)
  rw [sorted_is hnd hst hpl hm]
  -- the texts
  have texts : ∀ (m : Nat), m < mid.length → ∃ A, mid[m]? = some A ∧ A ∈ mid ∧ A ∈ as := fun m hm => by
    obtain ⟨A, e1, e2⟩ := lt_some hm
    exact ⟨A, e1, e2, hinl A (hpl.mem_iff.mp e2)⟩
  have tn1 : ∀ (m : Nat) (A : Acc), mid[m]? = some A → (mid.map fun A => strOf A.its).take (m + 1) = (mid.map fun A => strOf A.its).take m ++ [strOf A.its] := fun m A e => by
    rw [List.take_add_one, List.getElem?_map, e]; rfl
  have tnl : (mid.map fun A => strOf A.its).take (vrefs mid).length = mid.map fun A => strOf A.its := List.take_of_length_le (by rw [List.length_map, vrefs_len]; exact Nat.le_refl _)
  have sok : Mine.StrsOk (mid.map fun A => strOf A.its) := by
    intro x hx
    obtain ⟨A, hA, rfl⟩ := List.mem_map.mp hx
    rw [str_prs]; exact hso A hA
  refine op_comp ok rfl rfl rfl rfl ?_
  refine cg_of (x := "one") (fs := ("due", .ref dd) :: ("parcels", .ref Dc) :: fsR Ds Dw2 NL tn px Dp Dm) (cs₂ := []) (csR := csL a pr lx (some (.ref Dq)) off) (kp := [(Dw2, listOf (vrefs mid).toArray 0)]) (fun _ (t : AT) => ((dd, listOf (vrefs mid).toArray n4) :: R) ++ AL w t as)
    (fun m xs t => AT.Ok t ∧ StrsAre xs ((mid.map fun A => strOf A.its).take m)) ok (src_list (vs := vrefs mid) (nn := 0) rfl) rfl rfl rfl rfl rfl (.refl _) (List.forall_mem_nil _) (by rw [vrefs_len]; k_extra "o") ?turn3 t2 ⟨ht2, .nil⟩ (.p (r := (Dl, listOf (vrefs l).toArray 0) :: (Dx, listOf (vrefs cn).reverse.toArray nx) :: (Dq, listOf (vrefs cn).toArray nq) :: (Dc, listOf (vrefs par).toArray n3) :: [(rg, rangeOf 0 ((5 : Nat) : Int) 1 a1 a2 a3)]) rfl (by walk_at "V perm")) ?fin3
  case turn3 =>
    rintro c5 K5 K6 m xs t5 v ok5 hm6 hv6 nx5 _ ⟨g1, g2⟩
    refine IfK.yes rfl ?_
    refine ⟨trivial, ?_⟩
    rw [vrefs_len] at hm6
    obtain ⟨A, e1, e2, e3⟩ := texts m hm6
    rw [vrefs_at e1] at hv6
    cases hv6
    obtain ⟨r0, hr0⟩ := pull e3
    refine op_str' H (pre := (dd, listOf (vrefs mid).toArray n4) :: R) ok5 (by k_extra "o") (by k_extra "o") (.append_left _ (AL.perm hr0)) (hok A e3) g1 fun u t6 ht6 => ?_
    refine nx5 _ _ t6 ⟨ht6, ?_⟩ (.p (r := []) rfl (by rw [List.append_nil]; exact .append_left _ (AL.perm hr0.symm)))
    rw [tn1 m A e1]
    exact Mine.strs_app g2 (.cons _ u .nil)
  rintro Da C8 na av t6 s8 ⟨ht6, hav⟩ hl8 rl8
  refine fin_eval rl8 ?_
  rw [tnl] at hav
  refine op_comp ok rfl rfl rfl rfl ?_
  refine cg_of (x := "one") (fs := ("due", .ref dd) :: ("parcels", .ref Dc) :: fsR Ds Dw2 NL tn px Dp Dm) (cs₂ := []) (csR := csL a pr lx (some (.ref Dq)) off) (kp := [(dd, listOf (vrefs mid).toArray n4)]) (fun _ (t : AT) => ((Da, listOf av.toArray na) :: (Dw2, listOf (vrefs mid).toArray 0) :: R) ++ AL w t as)
    (fun m xs t => AT.Ok t ∧ StrsAre xs ((mid.map fun A => strOf A.its).take m)) ok (src_list (vs := vrefs mid) (nn := n4) rfl) rfl rfl rfl rfl rfl (.refl _) (List.forall_mem_nil _) (by rw [vrefs_len]; k_extra "o") ?turn4 t6 ⟨ht6, .nil⟩ (.p (r := []) rfl (by walk_at "V perm")) ?fin4
  case turn4 =>
    rintro c5 K5 K6 m xs t5 v ok5 hm6 hv6 nx5 _ ⟨g1, g2⟩
    refine IfK.yes rfl ?_
    refine ⟨trivial, ?_⟩
    rw [vrefs_len] at hm6
    obtain ⟨A, e1, e2, e3⟩ := texts m hm6
    rw [vrefs_at e1] at hv6
    cases hv6
    obtain ⟨r0, hr0⟩ := pull e3
    refine op_str' H (pre := (Da, listOf av.toArray na) :: (Dw2, listOf (vrefs mid).toArray 0) :: R) ok5 (by k_extra "o") (by k_extra "o") (.append_left _ (AL.perm hr0)) (hok A e3) g1 fun u t6 ht6 => ?_
    refine nx5 _ _ t6 ⟨ht6, ?_⟩ (.p (r := []) rfl (by rw [List.append_nil]; exact .append_left _ (AL.perm hr0.symm)))
    rw [tn1 m A e1]
    exact Mine.strs_app g2 (.cons _ u .nil)
  rintro Db C7 nb bv t7 s7 ⟨ht7, hbv⟩ hl7 rl7
  refine fin_eval rl7 ?_
  rw [tnl] at hbv
  refine op_neStrs (ns := mid.map fun A => strOf A.its) (ms := mid.map fun A => strOf A.its) ok (by k_extra "o") (.tail _ (.head _)) (.head _) hav hbv sok sok ?_
  refine IfK.no (by rw [decide_eq_true rfl]; rfl) ?_
  exact h Dw2 t7 _ ht7 (.p (r := (Db, listOf bv.toArray nb) :: (Da, listOf av.toArray na) :: [(dd, listOf (vrefs mid).toArray n4)]) rfl (by walk_at "V perm"))
end
end MineV
end
end

section
noncomputable section
namespace MineV
open PySem PySem.W PyProof.Rows PySem.Calls PySem.Spec
open Mine (Kf accOf)
example : True := by
  k_with "V enter" => (
    (case ho => k_is)
    (case hcd => k_is)
    (case hb => first | exact fun s Xs => BindsTo.of_eq rfl | exact fun s Xs => binds_K Xs rfl (by k_is) rfl rfl rfl)
    (case hl => exact locs rfl)
    (case h1 => decide)
    (case h2 => exact rfl)
    (case h3 => exact rfl)
    (case h4 => exact rfl)
    (case h5 => exact rfl)
    (case h6 => exact rfl))
  trivial
example : True := by
  k_with "V enterC" => (
    (case ho => k_is)
    (case hcd => k_is)
    (case hb => first | exact fun s Xs => BindsTo.of_eq rfl | exact fun s Xs => binds_K Xs rfl (by k_is) rfl rfl rfl)
    (case hl => exact rfl)
    (case h1 => decide +kernel)
    (case h2 => exact rfl)
    (case h3 => exact rfl)
    (case h4 => exact rfl)
    (case h5 => exact rfl)
    (case h6 => exact rfl)
    (case h7 => exact rfl))
  trivial
open Mine (LexA LexT LexOk CodeOf tabL lexTl lexD tokT)
noncomputable def insK {α : Type} (k : α → Nat) (x : α) : List α → List α
  | [] => [x]
  | y :: r => if k x ≤ k y then x :: y :: r else y :: insK k x r
noncomputable def sortK {α : Type} (k : α → Nat) : List α → List α
  | [] => []
  | x :: r => insK k x (sortK k r)
theorem insK_map {α β : Type} (f : α → β) (k : β → Nat) (x : α) : ∀ l : List α, (insK (fun a => k (f a)) x l).map f = insK k (f x) (l.map f)
  | [] => rfl
  | y :: r => by
    unfold insK
    rw [List.map_cons]
    dsimp only
    split
    · rfl
    · rw [List.map_cons, insK_map f k x r]
theorem sortK_map {α β : Type} (f : α → β) (k : β → Nat) : ∀ l : List α, (sortK (fun a => k (f a)) l).map f = sortK k (l.map f)
  | [] => rfl
  | x :: r => by
    show (insK _ x (sortK _ r)).map f = insK k (f x) (sortK k (r.map f))
    rw [insK_map, sortK_map f k r]
theorem insK_perm {α : Type} (k : α → Nat) (x : α) : ∀ l : List α, (insK k x l).Perm (x :: l)
  | [] => .refl _
  | y :: r => by
    unfold insK
    split
    · exact .refl _
    · exact ((insK_perm k x r).cons y).trans (.swap ..)
theorem sortK_perm {α : Type} (k : α → Nat) : ∀ l : List α, (sortK k l).Perm l
  | [] => .refl _
  | x :: r => (insK_perm k x _).trans ((sortK_perm k r).cons x)
noncomputable def BefK {α : Type} (k pos : α → Nat) (a b : α) : Prop := k a < k b ∨ (k a = k b ∧ pos a < pos b)
theorem insK_pair {α : Type} {k pos : α → Nat} {x : α} : ∀ {l : List α}, (∀ a ∈ l, pos x < pos a) → l.Pairwise (BefK k pos) → (insK k x l).Pairwise (BefK k pos)
  | [], _, _ => List.pairwise_singleton ..
  | y :: r, h, hp => by
    unfold insK
    split
    next hle =>
      refine List.pairwise_cons.mpr ⟨fun a ha => ?_, hp⟩
      have hpa := h a ha
      rcases List.mem_cons.mp ha with rfl | ha
      · unfold BefK; k_extra "o"
      · have := (List.pairwise_cons.mp hp).1 a ha
        unfold BefK at this ⊢; k_extra "o"
    next hle =>
      obtain ⟨p1, p2⟩ := List.pairwise_cons.mp hp
      refine List.pairwise_cons.mpr ⟨fun a ha => ?_, insK_pair (fun a ha => h a (.tail _ ha)) p2⟩
      rcases List.mem_cons.mp ((insK_perm k x r).mem_iff.mp ha) with rfl | ha
      · unfold BefK; k_extra "o"
      · exact p1 a ha
theorem sortK_pair {α : Type} {k pos : α → Nat} : ∀ {l : List α}, l.Pairwise (fun a b => pos a < pos b) → (sortK k l).Pairwise (BefK k pos)
  | [], _ => .nil
  | x :: r, h => by
    obtain ⟨p1, p2⟩ := List.pairwise_cons.mp h
    exact insK_pair (fun a ha => p1 a ((sortK_perm k r).mem_iff.mp ha)) (sortK_pair p2)
theorem posIn_pair {l : List Acc} (hn : (l.map Acc.x).Nodup) : l.Pairwise (fun A B => posIn l A < posIn l B) := by
  refine List.pairwise_iff_getElem.mpr fun i j hi hj hij => ?_
  rw [posIn_at hn (List.getElem?_eq_getElem hi), posIn_at hn (List.getElem?_eq_getElem hj)]
  exact hij
theorem mid_is {l mid : List Acc} (hn : (l.map Acc.x).Nodup) (hp : mid.Perm l) (hm : mid.Pairwise (Bef (posIn l))) : mid = sortK Acc.key l := by
  refine List.Perm.eq_of_pairwise (le := Bef (posIn l)) (fun a b _ _ h1 h2 => ?_) hm (sortK_pair (posIn_pair hn)) (hp.trans (sortK_perm _ l).symm)
  unfold Bef at h1 h2; k_extra "o"
theorem mid_prs {l mid : List Acc} (hn : (l.map Acc.x).Nodup) (hp : mid.Perm l) (hm : mid.Pairwise (Bef (posIn l))) : mid.map Acc.prs = sortK lenP (l.map Acc.prs) := by
  rw [mid_is hn hp hm, ← sortK_map]
  congr 1
  congr 1
  exact funext key_prs
noncomputable def rounds (P : List (Str × Str)) : Nat → List (List (Str × Str))
  | 0 => []
  | j + 1 => sortK lenP ((P.map fun q => [q]).reverse ++ pairL (rounds P j))
theorem rounds_len (P : List (Str × Str)) (h : P.length = 5) : ∀ j, (rounds P j).length ≤ 10
  | 0 => Nat.zero_le _
  | j + 1 => by
    have := rounds_len P h j
    show (sortK _ _).length ≤ 10
    rw [(sortK_perm _ _).length_eq, List.length_append, List.length_reverse, List.length_map, pairL_len]
    k_extra "o"
theorem pairL_mem {β : Type} : ∀ {L : List (List β)} {l : List β}, l ∈ pairL L → ∃ a ∈ L, ∃ b ∈ L, l = a ++ b
  | [], _, h => nomatch h
  | [_], _, h => nomatch h
  | a :: b :: r, l, h => by
    rcases List.mem_cons.mp h with rfl | h
    · exact ⟨a, .head _, b, .tail _ (.head _), rfl⟩
    · obtain ⟨x, hx, z, hz, e⟩ := pairL_mem h
      exact ⟨x, .tail _ (.tail _ hx), z, .tail _ (.tail _ hz), e⟩
theorem rounds_mem (P : List (Str × Str)) : ∀ j, ∀ l ∈ rounds P j, l.length ≤ 2 ^ j ∧ ∀ q ∈ l, q ∈ P
  | 0, l, h => nomatch h
  | j + 1, l, h => by
    have h := (sortK_perm _ _).mem_iff.mp h
    rcases List.mem_append.mp h with h | h
    · obtain ⟨q, hq, rfl⟩ := List.mem_map.mp (List.mem_reverse.mp h)
      exact ⟨Nat.one_le_two_pow, fun q' hq' => by rw [List.mem_singleton.mp hq']; exact hq⟩
    · obtain ⟨a, ha, b, hb, rfl⟩ := pairL_mem h
      have h1 := rounds_mem P j a ha
      have h2 := rounds_mem P j b hb
      refine ⟨by rw [List.length_append, Nat.pow_succ]; k_extra "o", fun q hq => ?_⟩
      rcases List.mem_append.mp hq with hq | hq
      · exact h1.2 q hq
      · exact h2.2 q hq
theorem rounds_small {P : List (Str × Str)} (hP : Small 5 P) {j : Nat} {l : List (Str × Str)} (h : l ∈ rounds P j) : Small (2 ^ j) l := by
  have := rounds_mem P j l h
  exact ⟨this.1, fun q hq => hP.2 q (this.2 q hq)⟩
theorem strOk_app {a b : Str} (ha : PyData.strOk a = true) (hb : PyData.strOk b = true) : PyData.strOk (a ++ b) = true := by
  unfold PyData.strOk at *
  show ((a ++ b).cps).all _ = true
  rw [show (a ++ b).cps = a.cps ++ b.cps from rfl, Array.all_append, ha, hb]; rfl
theorem strP_ok {l : List (Str × Str)} (h : ∀ q ∈ l, PyData.strOk q.1 = true ∧ PyData.strOk q.2 = true) : PyData.strOk (strP l) = true := by
  induction l with
  | nil => decide +kernel
  | cons q r ih => exact strOk_app (strOk_app (h q (.head _)).1 (h q (.head _)).2) (ih fun q' hq' => h q' (.tail _ hq'))
theorem ready_again {tx : Str} {e : Nat} {NL : Int} (he : e ≤ tx.length) : Ready tx ⟨nm5, e, NL⟩ e NL :=
  ⟨rfl, fun m hm => by
    have : m = 0 ∨ m = 1 ∨ m = 2 ∨ m = 3 ∨ m = 4 ∨ m = 5 := by k_extra "o"
    rcases this with rfl | rfl | rfl | rfl | rfl | rfl <;> exact he, fun m hm => by
    have : m = 0 ∨ m = 1 ∨ m = 2 ∨ m = 3 ∨ m = 4 ∨ m = 5 := by k_extra "o"
    rcases this with rfl | rfl | rfl | rfl | rfl | rfl <;> exact Nat.le_of_ble_eq_true rfl⟩
section
variable {w : World} {b₀ : Heap} {loose : List Str} {mean : ExcName → Option Value} {mg mb : Str → Option Value} (H : Hd w b₀ loose mean mg mb) {D U : Nat} {c : Cx}
include H
theorem loopR (ok : CxOk (G2 w) tb2 nmL b₀ D U c) (hd : 20 ≤ D) (hu : 200 ≤ U) {K : Flow → St → Prop} {Ds Dw px Dp Dm rg : Addr} {NL : Int} {tn b1 b2 b3 : Tok} {n1 n2 nm np : Nat} {pg : Acc} {t : AT} {rest tl : Led} {its : List It} {mv : List Value} {tx : Str} {la : LexA} {e5 a : Nat} {L : Lx} {pr co off : Option Value}
    (hpx : pg.x = px) (hpg : pg.Ok) (lok : LexOk w b₀ tx la) (hx : tx.length ≤ 1000) (hm5 : StrsAre mv nm5) (ht : t.Ok) (hL : LexIs w la L tl) (hr : Ready tx L e5 NL) (he : e5 ≤ tx.length) (hi : its.length = 5) (hsm : Small 5 (its.map It.pr2)) (hso : ∀ q ∈ its.map It.pr2, PyData.strOk q.1 = true ∧ PyData.strOk q.2 = true)
    (h : ∀ Dw row sp n1 n2 t tl co, row.map Acc.prs = rounds (its.map It.pr2) 3 → AT.Ok t → LexIs w la ⟨nm5, e5, NL⟩ tl → (∀ A ∈ sp, A.its = []) →
      K .next ⟨fsR Ds Dw NL tn px Dp Dm, (Ds, listOf (vrefs sp).toArray n1) :: (Dw, listOf (vrefs row).toArray n2) :: (Dm, listOf mv.toArray nm) :: (((Dp, listOf (its.map fun i => Value.ref i.p).toArray np) :: (its.map It.cell ++ rest)) ++ tl ++ AL w t (row ++ (pg :: sp))) ++ [], csL a pr (some (.ref la.I)) co off⟩) :
    OpFor (G2 w) c (lF 12).1 (lF 12).2 (.ref rg) ⟨fsR Ds Dw NL tn px Dp Dm, (Ds, listOf (vrefs []).toArray n1) :: (Dw, listOf (vrefs []).toArray n2) :: (Dm, listOf mv.toArray nm) :: (((Dp, listOf (its.map fun i => Value.ref i.p).toArray np) :: (its.map It.cell ++ rest)) ++ tl ++ AL w t ([] ++ (pg :: []))) ++ [(rg, rangeOf 0 ((3 : Nat) : Int) 1 b1 b2 b3)], csL a pr (some (.ref la.I)) co off⟩ K := by
  refine op_forG (kr := [(rg, rangeOf 0 ((3 : Nat) : Int) 1 b1 b2 b3)]) (fun _ ((Dw, row, sp, n1, n2, t, tl, co, L) : Addr × List Acc × List Acc × Nat × Nat × AT × Led × Option Value × Lx) => ⟨fsR Ds Dw NL tn px Dp Dm, (Ds, listOf (vrefs sp).toArray n1) :: (Dw, listOf (vrefs row).toArray n2) :: (Dm, listOf mv.toArray nm) :: (((Dp, listOf (its.map fun i => Value.ref i.p).toArray np) :: (its.map It.cell ++ rest)) ++ tl ++ AL w t (row ++ (pg :: sp))), csL a pr (some (.ref la.I)) co off⟩)
    (fun j (Dw, row, sp, n1, n2, t, tl, co, L) => row.map Acc.prs = rounds (its.map It.pr2) j ∧ (∀ A ∈ sp, A.its = []) ∧ sp.length ≤ 5 * j ∧ AT.Ok t ∧ LexIs w la L tl ∧ Ready tx L e5 NL ∧ (1 ≤ j → L = ⟨nm5, e5, NL⟩)) ok (src_range (n := 3) (a := b1) (u := b2) (v := b3) (by decide) rfl) (iq := []) rfl ?turn ?done (Dw, [], [], n1, n2, t, tl, co, L) ⟨rfl, fun _ h => (nomatch h), Nat.le_refl _, ht, hL, hr, fun h => absurd h (by decide)⟩ (.s rfl)
  case done =>
    rintro ⟨Dw, row, sp, n1, n2, t, tl, co, L⟩ ⟨g1, g2, g3, g4, g5, g6, g7⟩
    rw [g7 (by decide)] at g5
    exact h Dw row sp n1 n2 t tl co g1 g4 g5 g2
  rintro c2 K2 j ⟨Dw, row, sp, n1, n2, t, tl, co, L⟩ v ok2 hjj hj ⟨_, tj, rfl⟩ nx bk rt ⟨g1, g2, g3, g4, g5, g6, g7⟩
  refine op_nameT ok2 rfl ?_
  have hrl : row.length ≤ 10 := by
    have := rounds_len (its.map It.pr2) (by rw [List.length_map]; exact hi) j
    rw [← g1, List.length_map] at this; exact this
  have p8 : 2 ^ j ≤ 8 := by
    have : 2 ^ j ≤ 2 ^ 3 := Nat.pow_le_pow_right (by decide) (by k_extra "o")
    exact this
  have hrs : ∀ A ∈ row, Small (2 ^ j) A.prs := fun A hA => rounds_small hsm (j := j) (by rw [← g1]; exact List.mem_map_of_mem hA)
  have hal : ∀ (A : Acc), Small (2 ^ j) A.prs → A.its.length ≤ 8 := fun A hA => by
    have := hA.1
    rw [prs_len] at this; k_extra "o"
  refine turnA H ok2 hd hu (t := t) (tl := tl) (e5 := e5) (rest := (Dp, listOf (its.map fun i => Value.ref i.p).toArray np) :: (its.map It.cell ++ rest)) lok hx hm5 (by k_extra "o") (by k_extra "o") (fun A hA => Nat.le_trans (hal A (hrs A hA)) (by decide)) g5 g6 fun Dt Dc par cuts n1' n3 nt tv tl' k1 k2 k3 k4 k5 => ?_
  have hparl : par.length ≤ 5 := by
    have := congrArg List.length k1
    rw [List.length_map, pairL_len, List.length_map] at this; k_extra "o"
  have hpars : ∀ A ∈ par, A.Ok := fun A hA => by
    have : A.prs ∈ pairL (row.map Acc.prs) := by rw [← k1]; exact List.mem_map_of_mem hA
    obtain ⟨a1, ha, b1, hb, e⟩ := pairL_mem this
    rw [g1] at ha hb
    have h1 := rounds_small hsm ha
    have h2 := rounds_small hsm hb
    refine small_ok (n := 16) ⟨by rw [e, List.length_append]; have := h1.1; have := h2.1; k_extra "o", fun q hq => ?_⟩ (by decide)
    rw [e] at hq
    rcases List.mem_append.mp hq with hq | hq
    · exact h1.2 q hq
    · exact h2.2 q hq
  refine turnB H ok2 hd hu (t := t) (par := par) (sp := sp ++ cuts) (pg := pg) (mm := [(Dm, listOf mv.toArray nm)]) (its := its) (rest := rest) hpx (by walk_at "V permG") lok hi k4 (by rw [List.length_append]; k_extra "o") (fun A hA => by
    rcases List.mem_append.mp hA with hA | hA
    · exact g2 A hA
    · exact k2 A hA) k5 g4 hparl (fun A hA => by
    rcases List.mem_cons.mp hA with rfl | hA
    · exact hpg
    · exact hpars A hA) hsm fun Dw1 Dq mid cn sp' Z n nq n1'' t' tl'' m1 m2 m3 m4 m5 m6 m7 m8 m9 => ?_
  have hcn : cn.length = 5 := by
    have := congrArg List.length m3
    rw [List.length_map, List.length_map, List.length_map] at this; k_extra "o"
  have hmid : mid.map Acc.prs = rounds (its.map It.pr2) (j + 1) := by
    rw [mid_prs m7 (m8.trans ((List.reverse_perm cn).symm.append_right par)) m9, List.map_append, List.map_reverse, m3, k1, g1]; rfl
  refine turnC H ok2 hd hu hcn hparl (fun A hA => .tail _ (.tail _ (List.mem_append_left _ hA))) m2 m1 m7 m8 m9 (fun A hA => strP_ok fun q hq => ?_) fun Dw2 t2 σ ht2 wk => ?_
  · have : A.prs ∈ rounds (its.map It.pr2) (j + 1) := by rw [← hmid]; exact List.mem_map_of_mem hA
    exact hso q ((rounds_mem _ _ _ this).2 q hq)
  refine (nx σ (Dw2, mid, sp', n1'', 0, t2, tl'', some (.ref Dq), ⟨nm5, e5, NL⟩) ⟨hmid, m4, ?_, ht2, m6, ready_again he, fun _ => rfl⟩ (wk.tr (.p (r := Z.cells w) rfl ?_))).1
  · rw [List.length_append] at m5; k_extra "o"
  · have hc := cnt_perm (AL.perm (w := w) (t := t2) (show (pg :: Z :: (cn ++ par ++ sp')).Perm (Z :: (mid ++ pg :: sp')) by
      have := m8.symm
      refine (List.Perm.swap Z pg _).trans (.cons _ ?_)
      exact ((this.append_right sp').cons pg).trans List.perm_middle.symm))
    unfold AL at hc ⊢
    simp only [AC.app, AC.cons] at hc ⊢
    refine perm_cnt fun p => ?_
    have hcp := hc p
    simp only [cnt_nil, cnt_app, cnt_cons] at hcp ⊢
    k_extra "o"
end
end MineV
end
end

section
noncomputable section
namespace MineV
open PySem PySem.W PyProof.Rows PySem.Calls PySem.Spec
open Mine (Kf accOf)
example : True := by
  k_with "V enter" => (
    (case ho => k_is)
    (case hcd => k_is)
    (case hb => first | exact fun s Xs => BindsTo.of_eq rfl | exact fun s Xs => binds_K Xs rfl (by k_is) rfl rfl rfl)
    (case hl => exact locs rfl)
    (case h1 => decide)
    (case h2 => exact rfl)
    (case h3 => exact rfl)
    (case h4 => exact rfl)
    (case h5 => exact rfl)
    (case h6 => exact rfl))
  trivial
example : True := by
  k_with "V enterC" => (
    (case ho => k_is)
    (case hcd => k_is)
    (case hb => first | exact fun s Xs => BindsTo.of_eq rfl | exact fun s Xs => binds_K Xs rfl (by k_is) rfl rfl rfl)
    (case hl => exact rfl)
    (case h1 => decide +kernel)
    (case h2 => exact rfl)
    (case h3 => exact rfl)
    (case h4 => exact rfl)
    (case h5 => exact rfl)
    (case h6 => exact rfl)
    (case h7 => exact rfl))
  trivial
open Mine (LexA LexT LexOk CodeOf tabL lexTl lexD tokT)
noncomputable def pfx (ks : List Nat) (j : Nat) : List Nat := (List.range (j + 1)).map fun i => (ks.take i).sum
theorem pfx_len (ks : List Nat) (j : Nat) : (pfx ks j).length = j + 1 := by unfold pfx; rw [List.length_map, List.length_range]
theorem pfx_at (ks : List Nat) (j : Nat) : (pfx ks j).getD j 0 = (ks.take j).sum := by
  unfold pfx
  rw [List.getD_eq_getElem?_getD, List.getElem?_map, List.getElem?_range (by k_extra "o")]; rfl
theorem pfx_next (ks : List Nat) (j : Nat) (k : Nat) (h : ks[j]? = some k) : pfx ks (j + 1) = pfx ks j ++ [(pfx ks j).getD j 0 + k] := by
  rw [pfx_at]
  unfold pfx
  rw [List.range_succ (n := j + 1), List.map_append]
  congr 1
  rw [List.map_singleton, List.take_add_one, h, List.sum_append]
  rfl
section
variable {w : World} {b₀ : Heap} {loose : List Str} {mean : ExcName → Option Value} {mg mb : Str → Option Value} (H : Hd w b₀ loose mean mg mb) {D U : Nat} {c : Cx} {cs : List (Str × Addr × Option Value)}
include H
theorem loop14 (ok : CxOk (G2 w) tb2 nmL b₀ D U c) (hd : 6 ≤ D) (hu : 64 ≤ U) {K : Flow → St → Prop} {Dy Ds Dw px Dp Dm : Addr} {NL : Int} {tn t0 : Tok} {row as : List Acc} {n2 : Nat} {t : AT} {R : Led}
    (hrl : row.length ≤ 50) (hin : ∀ A ∈ row, A ∈ as) (hok : ∀ A ∈ as, A.Ok) (ht : t.Ok)
    (h : ∀ pv n t, NatsAre pv (pfx (keys row) row.length) → AT.Ok t → K .next ⟨("paid", .ref Dy) :: fsR Ds Dw NL tn px Dp Dm, (Dy, listOf pv.toArray n) :: (R ++ AL w t as) ++ [(Dw, listOf (vrefs row).toArray n2)], cs⟩) :
    OpFor (G2 w) c (lF 14).1 (lF 14).2 (.ref Dw) ⟨("paid", .ref Dy) :: fsR Ds Dw NL tn px Dp Dm, (Dy, listOf [Value.int 0 t0].toArray 0) :: (R ++ AL w t as) ++ [(Dw, listOf (vrefs row).toArray n2)], cs⟩ K := by
  refine op_forG (fun _ ((pv, n, t) : List Value × Nat × AT) => ⟨("paid", .ref Dy) :: fsR Ds Dw NL tn px Dp Dm, (Dy, listOf pv.toArray n) :: (R ++ AL w t as), cs⟩)
    (fun j (pv, n, t) => NatsAre pv (pfx (keys row) j) ∧ AT.Ok t) ok (src_list (vs := vrefs row) (nn := n2) rfl) (iq := [0]) rfl ?turn ?done ([Value.int 0 t0], 0, t) ⟨.one 0 t0, ht⟩ (.s rfl)
  case done =>
    rintro ⟨pv, n, t⟩ ⟨g1, g2⟩
    rw [vrefs_len] at g1
    exact h pv n t g1 g2
  rintro c2 K2 j ⟨pv, n, t⟩ v ok2 _ hj hv nx bk rt ⟨g1, g2⟩
  rw [vrefs_len] at hj
  obtain ⟨A, e1, e2⟩ := lt_some hj
  rw [vrefs_at e1] at hv
  cases hv
  refine op_nameT ok2 rfl ?_
  have gl : pv.length = j + 1 := by rw [g1.len, pfx_len]
  obtain ⟨t1, e3⟩ := g1.at (i := j) (by rw [pfx_len]; k_extra "o")
  obtain ⟨r0, hr0⟩ := pull (hin A e2)
  intro pl
  refine op_mAppend (.head _) ?_
  refine ⟨trivial, ?_⟩
  refine op_len (.head _) (by k_extra "o") ?_
  intro t2 t3 t4
  refine op_item (i := j) (.head _) (by show ((pv.length : Nat) : Int) - 1 = _; k_extra "o") e3 (by k_extra "o") ?_ (fun _ _ => rfl) fun _ => rfl
  refine ⟨trivial, ?_⟩
  refine op_len' H (pre := (Dy, listOf pv.toArray n) :: R) ok2 (by k_extra "o") (by k_extra "o") (show List.Perm (((Dy, listOf pv.toArray n) :: R) ++ AL w t as) _ from .append_left _ (AL.perm hr0)) (hok A (hin A e2)) g2 fun t5 t6 ht6 => ?_
  intro t7
  refine ⟨trivial, ?_⟩
  refine op_append .here (by k_extra "o") ?_
  refine (nx _ (pv ++ [.int (((pfx (keys row) j).getD j 0 + A.key : Nat) : Int) t7], n + 1, t6) ⟨?_, ht6⟩ (.p (r := []) rfl (by rw [List.append_nil]; exact .cons _ (.append_left _ (AL.perm hr0.symm))))).1
  rw [pfx_next _ _ A.key (by unfold keys; rw [List.getElem?_map, e1]; rfl)]
  exact g1.snoc _ _
end
end MineV
end
end

section
noncomputable section
namespace MineV
open PySem PySem.W PyProof.Rows PySem.Calls PySem.Spec
open Mine (Kf accOf)
example : True := by
  k_with "V enter" => (
    (case ho => k_is)
    (case hcd => k_is)
    (case hb => first | exact fun s Xs => BindsTo.of_eq rfl | exact fun s Xs => binds_K Xs rfl (by k_is) rfl rfl rfl)
    (case hl => exact locs rfl)
    (case h1 => decide)
    (case h2 => exact rfl)
    (case h3 => exact rfl)
    (case h4 => exact rfl)
    (case h5 => exact rfl)
    (case h6 => exact rfl))
  trivial
example : True := by
  k_with "V enterC" => (
    (case ho => k_is)
    (case hcd => k_is)
    (case hb => first | exact fun s Xs => BindsTo.of_eq rfl | exact fun s Xs => binds_K Xs rfl (by k_is) rfl rfl rfl)
    (case hl => exact rfl)
    (case h1 => decide +kernel)
    (case h2 => exact rfl)
    (case h3 => exact rfl)
    (case h4 => exact rfl)
    (case h5 => exact rfl)
    (case h6 => exact rfl)
    (case h7 => exact rfl))
  trivial
open Mine (LexA LexT LexOk CodeOf tabL lexTl lexD tokT)
noncomputable def Lx0 : Lx := ⟨[], 0, 1⟩
structure Reads (tx : Str) (ts : List Str) : Prop where
  at_ : ∀ m (h : m < ts.length), ((toks tx m Lx0).2.tok tx).1 = ts[m]
  fin : ((toks tx ts.length Lx0).2.tok tx).1 = ""
  le : ∀ m ≤ ts.length, (toks tx m Lx0).2.i ≤ tx.length
  q : ∀ m ≤ ts.length, (toks tx m Lx0).2.q = []
  mem : ∀ s ∈ ts, s ∈ nm5
noncomputable def oft (ts : List Str) : List Nat := nm5.map fun s => ts.count s
theorem oft_len (ts : List Str) : (oft ts).length = 5 := List.length_map _
theorem nm5_at : ∀ x ∈ nm5, x ≠ "" ∧ ∃ j, j < 5 ∧ nm5[j]? = some x ∧ (∀ i, i < j → nm5[i]? ≠ some x) ∧ ∀ l : List Str, oft (l ++ [x]) = (oft l).set j ((oft l).getD j 0 + 1) := by
  intro x hx
  have cs : ∀ (l : List Str) (x s : Str), (l ++ [x]).count s = l.count s + if x = s then 1 else 0 := fun l x s => by
    rw [List.count_append, List.count_singleton]
    by_cases e : x = s
    · rw [if_pos e, if_pos (by rw [e]; exact beq_self_eq_true s)]
    · rw [if_neg e, if_neg (by rw [beq_iff_eq]; exact e)]
  have fiv : x = "\"a" ∨ x = "\\b" ∨ x = "#c" ∨ x = "\nd" ∨ x = "\te" := by
    unfold nm5 at hx
    simpa using hx
  have d' : ∀ i : Nat, i < 5 → ∀ j : Nat, j < 5 → (nm5.getD i "" = nm5.getD j "" ↔ i = j) := by decide +kernel
  have d : ∀ i j : Nat, i < 5 → j < 5 → (nm5.getD i "" = nm5.getD j "" ↔ i = j) := fun i j hi hj => d' i hi j hj
  have key : ∀ j, j < 5 → nm5.getD j "" ≠ "" ∧ nm5[j]? = some (nm5.getD j "") ∧ (∀ i, i < j → nm5[i]? ≠ some (nm5.getD j "")) := by decide +kernel
  have go : ∀ j, j < 5 → x = nm5.getD j "" → x ≠ "" ∧ ∃ j, j < 5 ∧ nm5[j]? = some x ∧ (∀ i, i < j → nm5[i]? ≠ some x) ∧ ∀ l : List Str, oft (l ++ [x]) = (oft l).set j ((oft l).getD j 0 + 1) := by
    rintro j hj rfl
    obtain ⟨k1, k2, k3⟩ := key j hj
    refine ⟨k1, j, hj, k2, k3, fun l => ?_⟩
    refine List.ext_getElem (by rw [List.length_set, oft_len, oft_len]) fun i h1 h2 => ?_
    rw [oft_len] at h1
    have hi : i < nm5.length := h1
    have ei : nm5[i] = nm5.getD i "" := by rw [List.getD_eq_getElem?_getD, List.getElem?_eq_getElem hi]; rfl
    rw [List.getElem_set]
    have a1 : (oft (l ++ [nm5.getD j ""]))[i]'(by rw [oft_len]; exact h1) = l.count (nm5.getD i "") + if i = j then 1 else 0 := by
      unfold oft
      rw [List.getElem_map, cs, ei]
      congr 1
      by_cases e : j = i
      · rw [if_pos ((d j i hj h1).mpr e), if_pos e.symm]
      · rw [if_neg (fun z => e ((d j i hj h1).mp z)), if_neg (fun z => e z.symm)]
    have a2 : ∀ m (hm : m < 5), (oft l).getD m 0 = l.count (nm5.getD m "") := fun m hm => by
      have hm' : m < nm5.length := hm
      unfold oft
      rw [List.getD_eq_getElem?_getD, List.getElem?_map, List.getElem?_eq_getElem hm', List.getD_eq_getElem?_getD, List.getElem?_eq_getElem hm']; rfl
    rw [a1]
    by_cases e : j = i
    · subst e
      rw [if_pos rfl, if_pos rfl, a2 _ hj]
    · rw [if_neg (fun z => e z.symm), if_neg e]
      unfold oft
      rw [List.getElem_map, ei]; rfl
  rcases fiv with h | h | h | h | h
  · exact go 0 (by decide) h
  · exact go 1 (by decide) h
  · exact go 2 (by decide) h
  · exact go 3 (by decide) h
  · exact go 4 (by decide) h
theorem lex_codes {w : World} {a : LexA} {L : Lx} {tl : Led} (h : LexIs w a L tl) : ∃ r, tl.Perm ((a.cr, a.co) :: (a.cl, a.clo) :: r) := by
  obtain ⟨tt, nd, vs, np, tp, na, hs⟩ := h
  refine ⟨[(a.pb, listOf vs.toArray np), (a.I, instObj 179 a.d), (a.d, dictOf (lexD w L.ln a.S a.pb tt) nd), (a.sd, dictOf [⟨a.hk, .str "read" a.kk, .ref a.rd⟩] 1), (a.S, a.so),
   (a.rd, a.ro), (a.al, listOf #[.int (L.i : Int) tp] na), (a.ca, a.cao), (a.ct, a.cto)], ?_⟩
  unfold lexTl
  walk_at "V perm"
theorem nats_set {vs : List Value} {ns : List Nat} (h : NatsAre vs ns) (i n : Nat) (t : Tok) : NatsAre (vs.set i (.int (n : Int) t)) (ns.set i n) := by
  have := ints_set h i (n : Int) t
  unfold NatsAre
  rw [List.map_set]; exact this
noncomputable def lS (i : Nat) : Stmt := ((Mine.fB (Mine.fAt 17))[i]?).getD (.Pass ⟨0, 0, 0, 0⟩)
section
variable {w : World} {b₀ : Heap} {loose : List Str} {mean : ExcName → Option Value} {mg mb : Str → Option Value} (H : Hd w b₀ loose mean mg mb) {D U : Nat} {c : Cx}
include H
theorem loop19 (ok : CxOk (G2 w) tb2 nmL b₀ D U c) (hd : 20 ≤ D) (hu : 200 ≤ U) {K : Flow → St → Prop} {Do Dm : Addr} {nm no : Nat} {t0 : Tok} {mv ov : List Value} {rest tl : Led} {tx : Str} {ts : List Str} {lb : LexA} {a : Nat} {pr lx co : Option Value} {fs : List (Str × Value)}
    (lok : LexOk w b₀ tx lb) (hx : tx.length ≤ 1000) (hm5 : StrsAre mv nm5) (hr : Reads tx ts) (ho : NatsAre ov (oft []))
    (hf : gets fs [("name", .str ((toks tx 0 Lx0).2.tok tx).1 t0), ("reader", .ref lb.I), ("names", .ref Dm)] = wants [("name", .str ((toks tx 0 Lx0).2.tok tx).1 t0), ("reader", .ref lb.I), ("names", .ref Dm)]) (hL : LexIs w lb (toks tx 1 Lx0).2 tl)
    (h : ∀ ov no tl u, NatsAre ov (oft ts) → K .next ⟨[("name", .str "" u), ("reader", .ref lb.I), ("names", .ref Dm)], (Do, listOf ov.toArray no) :: (Dm, listOf mv.toArray nm) :: (rest ++ tl), csL a pr lx co (some (.ref Do))⟩) :
    WPs (G2 w) tb2 nmL c 30 (lS 19) ⟨fs, (Do, listOf ov.toArray no) :: (Dm, listOf mv.toArray nm) :: (rest ++ tl), csL a pr lx co (some (.ref Do))⟩ K := by
  refine op_while (fun ((m, ov, no, tl, u) : Nat × List Value × Nat × Led × Tok) => ⟨[("name", .str ((toks tx m Lx0).2.tok tx).1 u), ("reader", .ref lb.I), ("names", .ref Dm)], (Do, listOf ov.toArray no) :: (Dm, listOf mv.toArray nm) :: (rest ++ tl), csL a pr lx co (some (.ref Do))⟩)
    (fun (m, ov, no, tl, u) => m ≤ ts.length ∧ NatsAre ov (oft (ts.take m)) ∧ LexIs w lb (toks tx (m + 1) Lx0).2 tl) (fun (m, _) => ts.length - m) ok ?turn (0, ov, no, tl, t0) ⟨Nat.zero_le _, ho, hL⟩ (.p (r := []) hf (by rw [List.append_nil]))
  rintro ⟨m, ov, no, tl, u⟩ K' nx bk rt ⟨g1, g2, g3⟩
  intro t1
  by_cases hm : m < ts.length
  · have hat := hr.at_ m hm
    obtain ⟨n1, j, hj, n2, n3, n4⟩ := nm5_at ts[m] (hr.mem _ (List.getElem_mem hm))
    have n4' := n4 (ts.take m)
    rw [← hat] at n1 n2 n3
    refine IfK.yes (by show (((toks tx m Lx0).2.tok tx).1 != "") = true; rw [bne_iff_ne]; exact n1) ?_
    have m5 : mv.length = 5 := hm5.len_eq
    have ol : ov.length = 5 := by rw [g2.len, oft_len]
    obtain ⟨t2, e2⟩ := g2.at (i := j) (by rw [oft_len]; exact hj)
    intro pl
    refine op_mIndex (.tail _ (.head _)) ?_
    refine ⟨trivial, ?_⟩
    refine op_indexS (ss := nm5) (j := j) (.tail _ (.head _)) hm5 (by k_extra "o") n2 n3 ?_
    intro t3
    refine op_item (i := j) (.head _) rfl e2 (by k_extra "o") ?_ (fun _ _ => rfl) fun _ => rfl
    intro t4 t5 pl2
    refine op_mIndex (.tail _ (.head _)) ?_
    refine ⟨trivial, ?_⟩
    refine op_indexS (ss := nm5) (j := j) (.tail _ (.head _)) hm5 (by k_extra "o") n2 n3 ?_
    intro t6
    refine op_setItem .here rfl (by k_extra "o") (by k_extra "o") fun n' => ?_
    intro pl3
    refine op_mTok H ok g3 (fun p hp => .tail _ (.tail _ (List.mem_append_right _ hp))) ?_
    refine ⟨trivial, ?_⟩
    refine op_tok H (tx := tx) (pre := (Do, _) :: (Dm, listOf mv.toArray nm) :: rest) ok hd hu hx lok (hr.le (m + 1) hm) (by rw [hr.q (m + 1) hm]; exact Nat.zero_le _) g3 (.refl _) fun u2 tl3 h3 => ?_
    refine (nx _ (m + 1, ov.set j (.int (((oft (ts.take m)).getD j 0 + 1 : Nat) : Int) t5), n', tl3, u2) ⟨hm, ?_, h3⟩ (by show ts.length - (m + 1) < ts.length - m; k_extra "o") (.s rfl)).1
    have e : ts.take (m + 1) = ts.take m ++ [ts[m]] := by rw [List.take_add_one, List.getElem?_eq_getElem hm]; rfl
    rw [e, n4']
    exact nats_set g2 _ _ _
  · have hm' : m = ts.length := by k_extra "o"
    subst hm'
    refine IfK.no (by show (((toks tx ts.length Lx0).2.tok tx).1 != "") = false; rw [hr.fin]; rfl) ?_
    rw [List.take_length] at g2
    show K .next ⟨[("name", .str ((toks tx ts.length Lx0).2.tok tx).1 u), ("reader", .ref lb.I), ("names", .ref Dm)], (Do, listOf ov.toArray no) :: (Dm, listOf mv.toArray nm) :: (rest ++ tl), csL a pr lx co (some (.ref Do))⟩
    rw [hr.fin]
    exact h ov no tl u g2
end
end MineV
end
end

section
noncomputable section
namespace MineV
open PySem PySem.W PyProof.Rows PySem.Calls PySem.Spec
open Mine (Kf accOf)
example : True := by
  k_with "V enter" => (
    (case ho => k_is)
    (case hcd => k_is)
    (case hb => first | exact fun s Xs => BindsTo.of_eq rfl | exact fun s Xs => binds_K Xs rfl (by k_is) rfl rfl rfl)
    (case hl => exact locs rfl)
    (case h1 => decide)
    (case h2 => exact rfl)
    (case h3 => exact rfl)
    (case h4 => exact rfl)
    (case h5 => exact rfl)
    (case h6 => exact rfl))
  trivial
example : True := by
  k_with "V enterC" => (
    (case ho => k_is)
    (case hcd => k_is)
    (case hb => first | exact fun s Xs => BindsTo.of_eq rfl | exact fun s Xs => binds_K Xs rfl (by k_is) rfl rfl rfl)
    (case hl => exact rfl)
    (case h1 => decide +kernel)
    (case h2 => exact rfl)
    (case h3 => exact rfl)
    (case h4 => exact rfl)
    (case h5 => exact rfl)
    (case h6 => exact rfl)
    (case h7 => exact rfl))
  trivial
open Mine (LexA LexT LexOk CodeOf tabL lexTl lexD tokT)
noncomputable def lE (k : Nat) : List Stmt := (Mine.fB (Mine.fAt 17)).drop k
section
variable {w : World} {b₀ : Heap} {loose : List Str} {mean : ExcName → Option Value} {mg mb : Str → Option Value} (H : Hd w b₀ loose mean mg mb) {D U : Nat} {c : Cx}
include H
theorem lawE (ok : CxOk (G2 w) tb2 nmL b₀ D U c) (hd : 20 ≤ D) (hu : 200 ≤ U) {K : Flow → St → Prop} {Do Dr : Addr} {nr no : Nat} {rv ov : List Value} {rest : Led} {os ps : List Nat} {a : Nat} {lx co : Option Value} {fs : List (Str × Value)} {led : Led} (hl0 : led.Perm ((Do, listOf ov.toArray no) :: (Dr, listOf rv.toArray nr) :: rest))
    (h5 : os.length = 5) (p5 : ps.length = 5) (ho : NatsAre ov os) (hp : NatsAre rv ps) (hpm : ∀ p ∈ ps, p ≤ 1000) (h3 : ∀ m ∈ os, 1 ≤ m ∧ m ≤ 3) (h8 : (os.map fun m => 2 ^ (3 - m)).sum = 8) (hs : ((List.range 5).map fun k => ps.getD k 0 * os.getD k 0).sum = shortest ps)
    (h : ∀ σ, K (.ret (.bool true)) σ) :
    WPss (WPs (G2 w) tb2 nmL c 30) (lE 20) K ⟨fs, led, csL a (some (.ref Dr)) lx co (some (.ref Do))⟩ := by
  have ol : ov.length = 5 := by rw [ho.len, h5]
  refine Op.perm hl0 ?_
  refine op_or ok ?_
  refine op_comp ok rfl rfl rfl rfl ?_
  refine cg_of (x := "marks") (fs := []) (cs₂ := []) (csR := csL a (some (.ref Dr)) lx co (some (.ref Do))) (kp := [(Do, listOf ov.toArray no)]) (fun _ (_ : Unit) => [(Dr, listOf rv.toArray nr)])
    (fun m xs _ => xs = []) ok (src_list (vs := ov) (nn := no) rfl) rfl rfl rfl rfl rfl (.refl _) (List.forall_mem_nil _) (by k_extra "o") ?turn1 () rfl (.p (r := rest) rfl (by walk_at "V perm")) ?fin1
  case turn1 =>
    rintro c5 K5 K6 m xs _ v ok5 hm6 hv6 _ sk5 hxs
    obtain ⟨hmo, t1, rfl⟩ := ho.is hv6
    have hg := h3 (os.getD m 0) (by rw [List.getD_eq_getElem?_getD, List.getElem?_eq_getElem hmo]; exact List.getElem_mem hmo)
    intro t2 t3 t4
    refine op_newList (vs := [_, _, _]) (Nat.le_of_ble_eq_true rfl) fun Dx => ?_
    refine op_notInI (ns := [1, 2, 3]) (.head _) (.cons 1 t2 (.cons 2 t3 (.cons 3 t4 .nil))) ?_
    refine IfK.no ?_ (sk5 _ () hxs (.p (r := [(Dx, listOf [Value.int 1 t2, .int 2 t3, .int 3 t4].toArray 0)]) rfl (.swap ..)))
    have : os.getD m 0 = 1 ∨ os.getD m 0 = 2 ∨ os.getD m 0 = 3 := by k_extra "o"
    rcases this with e | e | e <;> rw [e] <;> rfl
  rintro Da C8 na av _ s8 rfl _ rl8
  refine fin_eval rl8 ?_
  refine op_newList (vs := []) (Nat.le_of_ble_eq_true rfl) fun Db => ?_
  refine op_neInts (ns := []) (ms := []) ok (by k_extra "o") (.tail _ (.head _)) (.head _) .nil .nil ?_
  refine IfK.no rfl ?_
  -- the code
  refine op_comp ok rfl rfl rfl rfl ?_
  refine cg_of (x := "marks") (fs := []) (cs₂ := []) (csR := csL a (some (.ref Dr)) lx co (some (.ref Do))) (kp := [(Do, listOf ov.toArray no)]) (fun _ (_ : Unit) => [(Dr, listOf rv.toArray nr)])
    (fun m xs _ => NatsAre xs ((os.map fun m => 2 ^ (3 - m)).take m)) ok (src_list (vs := ov) (nn := no) rfl) rfl rfl rfl rfl rfl (.refl _) (List.forall_mem_nil _) (by k_extra "o") ?turn2 () .nil (.p (r := [(Db, listOf #[] 0), (Da, listOf #[] na)]) rfl ?hp2) ?fin2
  case hp2 => walk_at "V perm"
  case turn2 =>
    rintro c5 K5 K6 m xs _ v ok5 hm6 hv6 nx5 _ hxs
    obtain ⟨hmo, t1, rfl⟩ := ho.is hv6
    have hg := h3 (os.getD m 0) (by rw [List.getD_eq_getElem?_getD, List.getElem?_eq_getElem hmo]; exact List.getElem_mem hmo)
    refine IfK.yes rfl ?_
    intro t2 t3 t4
    refine op_pow (a := 2) (n := 3 - ((os.getD m 0 : Nat) : Int)) (by k_extra "o") (by k_extra "o") (by decide) ?_
    intro t5
    refine nx5 _ _ () ?_ (.s rfl)
    have e : (os.map fun m => 2 ^ (3 - m)).take (m + 1) = (os.map fun m => 2 ^ (3 - m)).take m ++ [2 ^ (3 - os.getD m 0)] := by
      rw [List.take_add_one, List.getElem?_map, List.getD_eq_getElem?_getD, List.getElem?_eq_getElem hmo]; rfl
    rw [e]
    have e2 : (2 : Int) ^ (3 - ((os.getD m 0 : Nat) : Int)).toNat = ((2 ^ (3 - os.getD m 0) : Nat) : Int) := by
      rw [show (3 - ((os.getD m 0 : Nat) : Int)).toNat = 3 - os.getD m 0 by k_extra "o"]; push_cast; rfl
    rw [e2]
    exact hxs.snoc _ t5
  rintro Dc C7 nc cv _ s7 hcv _ rl7
  refine fin_eval rl7 ?_
  rw [List.take_of_length_le (by rw [List.length_map, h5, ol]; exact Nat.le_refl _)] at hcv
  refine ⟨trivial, ?_⟩
  refine op_sumL (.head _) hcv ?_
  intro t6 t7
  have e8 : (((os.map fun m => 2 ^ (3 - m)).map fun n : Nat => (n : Int)).sum) = 8 := by
    have : ∀ l : List Nat, (l.map fun n : Nat => (n : Int)).sum = ((l.sum : Nat) : Int) := fun l => by
      induction l with
      | nil => rfl
      | cons x r ih => rw [List.map_cons, List.sum_cons, List.sum_cons, ih]; k_extra "o"
    rw [this, h8]; rfl
  refine IfK.no (by show ((List.sum _) != (8 : Int)) = false; rw [e8]; rfl) ?_
  -- the answer
  refine op_comp ok rfl rfl rfl rfl ?_
  intro t8
  refine ⟨trivial, ?_⟩
  refine op_range ?_
  intro rg a1 a2 a3
  refine cg_of (x := "k") (fs := []) (cs₂ := [("prices", a, some (.ref Dr)), ("often", a + 3, some (.ref Do))]) (csR := [("coins", a + 2, co), ("lexer", a + 1, lx)]) (kp := [(rg, rangeOf 0 ((5 : Nat) : Int) 1 a1 a2 a3)]) (fun _ (_ : Unit) => [(Dr, listOf rv.toArray nr), (Do, listOf ov.toArray no)])
    (fun m xs _ => NatsAre xs (((List.range 5).map fun k => ps.getD k 0 * os.getD k 0).take m)) ok (src_range (n := 5) (by decide) rfl) rfl rfl rfl rfl rfl ?hcs3 ?hcl3 (by decide) ?turn3 () .nil (.p (r := [(Dc, listOf cv.toArray nc)]) rfl ?hp3) ?fin3
  case hcs3 =>
    show List.Perm (csL a (some (.ref Dr)) lx co (some (.ref Do))) _
    unfold csL
    walk_at "V permG"
  case hcl3 =>
    intro q hq
    rcases List.mem_cons.mp hq with rfl | hq
    · rfl
    · rw [List.mem_singleton.mp hq]; rfl
  case hp3 =>
    rw [show ((5 : Nat) : Int) = 5 from rfl]
    walk_at "V perm"
  case turn3 =>
    rintro c5 K5 K6 m xs _ v ok5 hm6 ⟨_, tm, rfl⟩ nx5 _ hxs
    refine IfK.yes rfl ?_
    obtain ⟨u1, e1⟩ := hp.at (i := m) (by k_extra "o")
    obtain ⟨u2, e2⟩ := ho.at (i := m) (by k_extra "o")
    refine op_item (i := m) (.head _) rfl e1 (by rw [hp.len]; k_extra "o") ?_ (fun _ _ => rfl) fun _ => rfl
    refine op_item (i := m) (.tail _ (.head _)) rfl e2 (by k_extra "o") ?_ (fun _ _ => rfl) fun _ => rfl
    have b1 := hpm (ps.getD m 0) (by rw [List.getD_eq_getElem?_getD, List.getElem?_eq_getElem (by k_extra "o")]; exact List.getElem_mem _)
    have b2 := h3 (os.getD m 0) (by rw [List.getD_eq_getElem?_getD, List.getElem?_eq_getElem (by k_extra "o")]; exact List.getElem_mem _)
    refine op_mulI (by k_extra "o") (by k_extra "o") ?_
    intro u3
    refine nx5 _ _ () ?_ (.s rfl)
    rw [take_rm _ hm6, ← Int.natCast_mul]
    exact hxs.snoc (ps.getD m 0 * os.getD m 0) u3
  rintro Dd C6 nd dv _ s6 hdv _ rl6
  refine fin_eval rl6 ?_
  rw [List.take_of_length_le (by rw [List.length_map, List.length_range]; exact Nat.le_refl _)] at hdv
  refine ⟨trivial, ?_⟩
  refine op_sumL (.head _) hdv ?_
  intro t9
  refine ⟨trivial, ?_⟩
  refine op_callT ((Dd, listOf dv.toArray nd) :: (Do, listOf ov.toArray no) :: [(rg, rangeOf 0 ((5 : Nat) : Int) 1 a1 a2 a3)]) ok (shortest_fc H Dr rv nr ps hp p5 hpm) (by k_extra "o") (by k_extra "o") (by walk_at "V perm") ?_
  intro t10
  have sumN : ∀ l : List Nat, (l.map fun n : Nat => (n : Int)).sum = ((l.sum : Nat) : Int) := fun l => by
    induction l with
    | nil => rfl
    | cons x r ih => rw [List.map_cons, List.sum_cons, List.sum_cons, ih]; k_extra "o"
  show K (.ret (.bool (((((List.range 5).map fun k => ps.getD k 0 * os.getD k 0).map fun n : Nat => (n : Int)).sum) == ((shortest ps : Nat) : Int)))) _
  rw [sumN, hs, beq_self_eq_true]
  exact h _
end
end MineV
end
end

section
noncomputable section
namespace MineV
open PySem PySem.W PyProof.Rows PySem.Calls PySem.Spec
open Mine (Kf accOf)
example : True := by
  k_with "V enter" => (
    (case ho => k_is)
    (case hcd => k_is)
    (case hb => first | exact fun s Xs => BindsTo.of_eq rfl | exact fun s Xs => binds_K Xs rfl (by k_is) rfl rfl rfl)
    (case hl => exact locs rfl)
    (case h1 => decide)
    (case h2 => exact rfl)
    (case h3 => exact rfl)
    (case h4 => exact rfl)
    (case h5 => exact rfl)
    (case h6 => exact rfl))
  trivial
example : True := by
  k_with "V enterC" => (
    (case ho => k_is)
    (case hcd => k_is)
    (case hb => first | exact fun s Xs => BindsTo.of_eq rfl | exact fun s Xs => binds_K Xs rfl (by k_is) rfl rfl rfl)
    (case hl => exact rfl)
    (case h1 => decide +kernel)
    (case h2 => exact rfl)
    (case h3 => exact rfl)
    (case h4 => exact rfl)
    (case h5 => exact rfl)
    (case h6 => exact rfl)
    (case h7 => exact rfl))
  trivial
open Mine (LexA LexT LexOk CodeOf tabL lexTl lexD tokT)
theorem word_len (nm : Str) (z : Int) (h : nm.length = 2) : 3 ≤ (wordOf nm z).length ∧ (wordOf nm z).length ≤ 5 := by
  have hbs : ("\\" : Str).length = 1 := rfl
  have hqs : ("\"" : Str).length = 1 := rfl
  unfold wordOf
  split
  · rw [PySem.Str.length_append, PySem.Str.length_append, hqs]
    split
    · rw [PySem.Str.length_append, hbs]; k_extra "o"
    · k_extra "o"
  · rw [PySem.Str.length_append, hbs]; k_extra "o"
structure Drawn (ns : List Int) (its : List It) : Prop where
  len : its.length = 5
  at_ : ∀ i < 5, ∃ it, its[i]? = some it ∧ it.a = whiteOf (ns.getD i 0) ∧ it.b = wordOf (nm5.getD i "") (ns.getD i 0)
theorem drawn_small {ns : List Int} {its : List It} (h : Drawn ns its) : Small 5 (its.map It.pr2) ∧ ∀ i ∈ its, 4 ≤ i.len ∧ i.len ≤ 11 := by
  have key : ∀ i ∈ its, (1 ≤ i.a.length ∧ i.a.length ≤ 6) ∧ (3 ≤ i.b.length ∧ i.b.length ≤ 5) := fun i hi => by
    obtain ⟨j, hj, rfl⟩ := List.mem_iff_getElem.mp hi
    have hj5 : j < 5 := by rw [← h.len]; exact hj
    obtain ⟨it, e, ea, eb⟩ := h.at_ j hj5
    rw [List.getElem?_eq_getElem hj] at e
    cases e
    rw [ea, eb]
    have w1 := white_len (ns.getD j 0)
    have n2 : (nm5.getD j "").length = 2 := by
      rcases j with _ | _ | _ | _ | _ | j
      · rfl
      · rfl
      · rfl
      · rfl
      · rfl
      · k_extra "o"
    exact ⟨⟨w1.2, w1.1⟩, word_len _ _ n2⟩
  refine ⟨⟨by rw [List.length_map, h.len]; exact Nat.le_refl _, fun q hq => ?_⟩, fun i hi => ?_⟩
  · obtain ⟨i, hi, rfl⟩ := List.mem_map.mp hq
    have := key i hi
    exact ⟨by show i.a.length ≤ 10; k_extra "o", by show i.b.length ≤ 10; k_extra "o"⟩
  · have := key i hi
    unfold It.len; k_extra "o"
theorem small_len {A : Acc} {n : Nat} (h : Small n A.prs) : lenOf A.its ≤ 20 * n := by
  have key : ∀ l : List It, (∀ q ∈ l.map It.pr2, q.1.length ≤ 10 ∧ q.2.length ≤ 10) → lenOf l ≤ 20 * l.length := by
    intro l
    induction l with
    | nil => intro _; exact Nat.le_refl _
    | cons i r ih =>
      intro hq
      have h1 : i.a.length ≤ 10 ∧ i.b.length ≤ 10 := hq (i.a, i.b) (.head _)
      have h2 := ih fun q hq' => hq q (.tail _ hq')
      simp only [lenOf, It.len, List.length_cons]
      k_extra "o"
  have h1 := key A.its h.2
  have h2 := h.1
  rw [prs_len] at h2
  k_extra "o"
noncomputable def nlC (x : Str) (m : Nat) : Nat := ((x.cps.toList.take m).filter fun c => decide (c = 10)).length
theorem nlC_next {x : Str} {m c : Nat} (h : x.cps[m]? = some c) : nlC x (m + 1) = nlC x m + if c = 10 then 1 else 0 := by
  have h' : x.cps.toList[m]? = some c := by rw [Array.getElem?_toList]; exact h
  unfold nlC
  rw [List.take_add_one, h', List.filter_append, List.length_append]
  congr 1
  by_cases e : c = 10
  · rw [if_pos e]; simp [e]
  · rw [if_neg e]; simp [e]
theorem sgn_nl (c : Nat) : ((⟨#[c]⟩ : Str) == "\n") = decide (c = 10) := by
  by_cases e : c = 10
  · subst e; decide +kernel
  · rw [decide_eq_false e, beq_eq_false_iff_ne]
    intro h
    have h2 := congrArg (fun s : Str => s.cps.toList) h
    have h3 : ("\n" : Str).cps.toList = [10] := by decide +kernel
    rw [h3] at h2
    exact e (by simpa using h2)
structure Plain (its : List It) : Prop where
  small : Small 5 (its.map It.pr2)
  okS : ∀ q ∈ its.map It.pr2, PyData.strOk q.1 = true ∧ PyData.strOk q.2 = true
  ready : ∀ tx, tx = strP (its.map It.pr2) → ∃ e, e ≤ tx.length ∧ Ready tx ((Lx0.tok tx).2.push (Lx0.tok tx).1) e (1 + (nlC tx tx.cps.size : Nat))
  paid : pfx ((rounds (its.map It.pr2) 3).map lenP) (rounds (its.map It.pr2) 3).length = cheapest (its.map It.len)
  reads : ∃ ts, Reads (strP (rounds (its.map It.pr2) 3).flatten) ts ∧ (∀ m ∈ oft ts, 1 ≤ m ∧ m ≤ 3) ∧ ((oft ts).map fun m => 2 ^ (3 - m)).sum = 8 ∧ ((List.range 5).map fun k => (its.map It.len).getD k 0 * (oft ts).getD k 0).sum = shortest (its.map It.len)
theorem lenP_le {l : List (Str × Str)} (h : ∀ q ∈ l, q.1.length + q.2.length ≤ 11) : lenP l ≤ 11 * l.length := by
  induction l with
  | nil => exact Nat.le_refl _
  | cons q r ih =>
    have h1 := h q (.head _)
    have h2 := ih fun q' hq' => h q' (.tail _ hq')
    unfold lenP at h2 ⊢
    rw [List.map_cons, List.sum_cons, List.length_cons]
    k_extra "o"
theorem strP_app (a b : List (Str × Str)) : strP (a ++ b) = strP a ++ strP b := by
  induction a with
  | nil => exact (nil_app _).symm
  | cons q r ih =>
    show (q.1 ++ q.2) ++ strP (r ++ b) = (q.1 ++ q.2) ++ strP r ++ strP b
    rw [ih]
    exact (app_assoc _ _ _).symm
theorem strP_len (l : List (Str × Str)) : (strP l).length = lenP l := by
  induction l with
  | nil => rfl
  | cons q r ih =>
    show ((q.1 ++ q.2) ++ strP r).length = _
    rw [PySem.Str.length_append, PySem.Str.length_append, ih]
    unfold lenP
    rw [List.map_cons, List.sum_cons]
theorem rounds_sum {P : List (Str × Str)} (h5 : P.length = 5) (h : ∀ q ∈ P, q.1.length + q.2.length ≤ 11) : ((rounds P 3).map lenP).sum ≤ 880 := by
  have key : ∀ L : List (List (Str × Str)), (∀ l ∈ L, lenP l ≤ 88) → (L.map lenP).sum ≤ 88 * L.length := by
    intro L
    induction L with
    | nil => intro _; exact Nat.le_refl _
    | cons a r ih =>
      intro hL
      have h1 := hL a (.head _)
      have h2 := ih fun l hl => hL l (.tail _ hl)
      rw [List.map_cons, List.sum_cons, List.length_cons]
      k_extra "o"
  have h1 := key (rounds P 3) fun l hl => by
    have h2 := rounds_mem P 3 l hl
    have h3 := lenP_le fun q hq => h q (h2.2 q hq)
    have : l.length ≤ 8 := h2.1
    k_extra "o"
  have h2 := rounds_len P h5 3
  k_extra "o"
theorem join_strP (L : List (List (Str × Str))) : Txt.join "" (L.map strP) = strP L.flatten := by
  unfold Txt.join
  rw [StrLaws.glued_eq_join, join0]
  induction L with
  | nil => rfl
  | cons a r ih => rw [List.map_cons, List.foldr_cons, ih, List.flatten_cons, strP_app]
theorem flat_len (L : List (List (Str × Str))) : lenP L.flatten = (L.map lenP).sum := by
  induction L with
  | nil => rfl
  | cons a r ih =>
    rw [List.flatten_cons, List.map_cons, List.sum_cons, ← ih]
    unfold lenP
    rw [List.map_append, List.sum_append]
theorem join_sum (L : List (List (Str × Str))) : ((L.map strP).map (·.length)).sum = (L.map lenP).sum := by
  rw [List.map_map]
  congr 1
  exact List.map_congr_left fun l _ => strP_len l
end MineV
end
end

section
noncomputable section
namespace MineV
open PySem PySem.W PyProof.Rows PySem.Calls PySem.Spec
open Mine (LexA LexT LexOk CodeOf tabL lexTl lexD tokT)
section
variable {y : Gl} {b₀ : Heap} {D U : Nat} {tl : Led} {S : (Value → Led → Prop) → Prop} {K : Frag} {p : Program} {loose : List Str} {mean : ExcName → Option Value} {mg mb : Str → Option Value} {tb : Tab}
variable {name qual : Str} {params : Arguments} {body : List Stmt} {scope : Scope} {dV kV doc pm cdv ct oc : Value} {an od : Option Addr} {osl : Array (Option Value)} {f : Addr} {args : Args} {binds : List (Str × Value)}
theorem enterVO (X : K.In b₀) (T : Top p loose mean mg mb b₀) (ht : glOk K tb = true)
    (ho : K.lookup f = some ⟨oc, od, .func (fnX name qual params body scope [] dV kV doc pm an cdv ct), osl⟩) (hcd : codeIn K cdv qual = true)
    (hbind : ∀ s : Shared, K.In s.heap → BindsTo s (fnX name qual params body scope [] dV kV doc pm an cdv ct) args binds)
    (hkind : (binds.all fun y => scope.names.lookup y.1 == some .local || scope.names.lookup y.1 == some .cell) = true) (hnd : ((cellsFrom 0 scope.names []).map (·.1)).Nodup) (hck : ((cellsFrom 0 scope.names []).all fun q => scope.names.lookup q.1 == some .cell) = true)
    (h : ∀ k c a, S k → CxOk y tb scope.names b₀ D U c → Op y c (execs body c.env) ⟨localsOf scope.names binds.reverse, tl, cellsV binds (cellsFrom a scope.names [])⟩ (EndK k))
    (hco : scope.isCoroutine = false) (hgen : scope.isGenerator = false) (hk : scope.kind = .function)
    (hdb : scope.names.lookup ("__debug__" : Str) = none) (hcl : scope.names.lookup ("__classdict__" : Str) = none) :
    FC y b₀ (D + 1) (U + 3) (.ref f) args tl S := by
  intro dp un gd fr s k R M nd G hd hu hS hR
  have st : b₀.StaysIn (hideAll s.heap (tl.map (·.1))) := fun b o e => hideAll_get _ (M.stays b o e) fun q => by
    obtain ⟨x, hx, rfl⟩ := List.mem_map.mp q
    rw [(M.cells x hx).2] at e; cases e
  have B : Below (AR dp un gd fr) b₀ fr (hideAll s.heap (tl.map (·.1))) := ⟨rfl, st, funFrames_hideAll M.frames fun env he a ha => by
    obtain ⟨x, hx, rfl⟩ := List.mem_map.mp ha
    exact M.off env he x hx⟩
  have XS : K.In s.heap := X.keeps M.stays
  have Xg : K.In (hideAll s.heap (tl.map (·.1))) := X.keeps fun b o e => st b o e
  have Tg := T.keeps fun b o e => st b o e
  refine codeAny_call_function (show dp < recursionLimit by k_extra "o") (XS _ _ ho) rfl hco hgen rfl (codeRec_of XS hcd) (hbind s XS _ _ _ _ ?_)
  refine wpAny_newFunctionEnv_cells hk (kindsX hkind _) fun env' he s' x => ?_
  subst he
  refine ⟨(T.nolimit.keeps M.stays).keeps x.toInCall.keep, codeAny_func ?_⟩
  obtain ⟨h₁, tk, rfl, _⟩ := x.done
  have hk₁ := x.toInCall.keep
  let c : Cx := ⟨dp + 1, un + 3, gd, envOfC qual scope s.heap.objs.size f cdv :: fr, envOfC qual scope s.heap.objs.size f cdv, hideAll s.heap (tl.map (·.1)), s, []⟩
  have ok : CxOk y tb scope.names b₀ D U c := ⟨by show dp + 1 + D < _; k_extra "o", by show un + 3 + U < _; k_extra "o", fun σ s R => amb_def B rfl hk rfl R, st, rfl, hk, rfl, rfl, hdb, hcl,
    fun env x v pos s' L m A Q hg hb hk hx hd hv F' q => look_ok (y := y) ht hv Xg Tg F' hg hb hk hx hd q, fun a ha h' kp => keeps_ok ht ha (Xg.keeps kp)⟩
  have hcl : ∀ {n : Str} {a : Addr}, (n, a) ∈ cellsFrom (s.heap.objs.size + 1) scope.names [] → (cellsFrom (s.heap.objs.size + 1) scope.names []).lookup n = some a := fun hm => lookup_of_mem_nodup (cellsFrom_names scope.names 0 (s.heap.objs.size + 1) [] [] rfl ▸ hnd) hm
  have hkc : ∀ {n : Str} {a : Addr}, (n, a) ∈ cellsFrom (s.heap.objs.size + 1) scope.names [] → scope.names.lookup n = some .cell := fun {n a} hm => by
    have e : (cellsFrom (s.heap.objs.size + 1) scope.names []).map (·.1) = (cellsFrom 0 scope.names []).map (·.1) := (cellsFrom_names scope.names 0 (s.heap.objs.size + 1) [] [] rfl).symm
    have : n ∈ (cellsFrom 0 scope.names []).map (·.1) := e ▸ List.mem_map_of_mem (f := (·.1)) hm
    obtain ⟨q, hq, e2⟩ := List.mem_map.mp this
    have := List.all_eq_true.mp hck q hq
    rw [beq_iff_eq, e2] at this; exact this
  have glt : ∀ {b : Addr} {o : Obj}, s.heap.get? b = some o → b < s.heap.objs.size := fun e => Heap.lt_size e
  have gnone : ∀ {b : Addr}, s.heap.objs.size ≤ b → (hideAll s.heap (tl.map (·.1))).get? b = none := fun {b} hb => by
    cases z : (hideAll s.heap (tl.map (·.1))).get? b with
    | none => rfl
    | some o => exact absurd (glt (of_hideAll _ z)) (Nat.not_lt.mpr hb)
  have ca : ∀ q ∈ cellsV binds (cellsFrom (s.heap.objs.size + 1) scope.names []), CellAt c.g c.env.locals c.env h₁ q := fun q hq => by
    obtain ⟨⟨n, a⟩, hm, rfl⟩ := List.mem_map.mp hq
    have hx := x.cell n a (hcl hm)
    have hlt := x.above n a hm
    rw [bindC_get (x := n) (fun e => by
      have : scope.names.lookup n = some .local := e
      rw [hkc hm] at this; cases this)] at hx
    refine ⟨hcl hm, ?_, Nat.ne_of_gt hlt, gnone (Nat.le_of_lt hlt)⟩
    obtain ⟨o, e1, e2⟩ := hx
    refine ⟨o, e1, e2.trans ?_⟩
    show Data.cell _ = Data.cell (getF binds.reverse n)
    cases getF binds.reverse n <;> rfl
  have rep : Rep y c ⟨localsOf scope.names binds.reverse, tl, cellsV binds (cellsFrom (s.heap.objs.size + 1) scope.names [])⟩ { s with heap := h₁, toks := tk } := by
    refine ⟨rfl, rfl, G, ⟨_, ⟨x.toInCall.ns, fun b o e => hk₁ b o (of_hideAll _ e), Nat.le_of_eq (hideAll_size _ _)⟩, fun z v e => ?_⟩, fun q hq => ?_, ca, ?_⟩
    · obtain ⟨e1, e2⟩ := localsOf_get e
      rw [bindL_get (x := z) e1, e2]
    · rw [show c.hid = [] from rfl, List.append_nil] at hq
      exact ⟨hk₁ _ _ (M.cells q hq).1, Nat.ne_of_lt (glt (M.cells q hq).1), hideAll_none _ (List.mem_map_of_mem hq)⟩
    · unfold adrs
      rw [show c.hid = [] from rfl, List.append_nil, List.nodup_append]
      refine ⟨?_, nd, fun a ha b hb e => ?_⟩
      · unfold cellsV
        rw [List.map_map]
        exact List.pairwise_map.mpr x.apart
      · obtain ⟨q, hq, e1⟩ := List.mem_map.mp ha
        obtain ⟨⟨n, a'⟩, hm, rfl⟩ := List.mem_map.mp hq
        obtain ⟨p, hp, e2⟩ := List.mem_map.mp hb
        have l1 := x.above n a' hm
        have l2 := glt (M.cells p hp).1
        rw [e2, ← e, ← e1] at l2
        exact Nat.lt_asymm l1 l2
  refine wpAny_mono ((h k c (s.heap.objs.size + 1) hS ok).run _ rep) (fun fl s' hl => ?_) fun _ _ y => y.elim
  obtain ⟨σ', R', hk'⟩ := hl
  exact end_ok rfl rfl st hk' R' hR
end
section
variable {y : Gl} {tb : Tab} {nm : List (Str × NameKind)} {b₀ : Heap} {D U : Nat} {c : Cx}
theorem op_exApp {F : Stmt → St → (Flow → St → Prop) → Prop} (hf : ∀ st σ K, F st σ K → Op y c (exec st c.env) σ K) {r : List Stmt} {K : Flow → St → Prop} : ∀ {ss : List Stmt} {σ : St}, WPss F ss (Sq (fun K σ => Op y c (execs r c.env) σ K) K) σ → Op y c (execs (ss ++ r) c.env) σ K
  | [], _, h => h
  | st :: l, σ, h => by
    refine ⟨fun s R => wpAny_execs_cons (wpAny_mono ((hf st σ _ h).run s R) (fun fl s1 ⟨σ1, R1, h1⟩ => ?_) fun _ _ x => x)⟩
    cases fl with
    | next => exact (op_exApp hf h1).run s1 R1
    | cont => exact ⟨σ1, R1, h1⟩
    | brk => exact ⟨σ1, R1, h1⟩
    | ret v => exact ⟨σ1, R1, h1⟩
theorem op_hide {α : Type} {t : Sem α} {f : List (Str × Value)} {led : Led} {cs : List (Str × Addr × Option Value)} {K : α → St → Prop} (l : Led) (h : Op y (c.hide l) t ⟨f, led, cs⟩ (fun v σ' => K v ⟨σ'.fs, σ'.led ++ l, σ'.cs⟩)) : Op y c t ⟨f, led ++ l, cs⟩ K :=
  ⟨fun s R => wpAny_mono (h.run s (Rep.unhide.mpr R)) (fun _ _ ⟨σ', R', k⟩ => ⟨_, Rep.unhide.mp R', k⟩) fun _ _ x => x⟩
end
section
variable {w : World} {b₀ : Heap} {loose : List Str} {mean : ExcName → Option Value} {mg mb : Str → Option Value} (H : Hd w b₀ loose mean mg mb)
include H
theorem lexer3_fc (a₀ : LexA) (hco : CodeOf a₀) (ho : LexOff a₀) (tx : Str) (t : Tok) (hx : tx.length ≤ 1000) : FC (G2 w) b₀ 8 80 (.ref 190) ⟨[.str tx t], []⟩ [(a₀.cr, a₀.co), (a₀.cl, a₀.clo), (185, tabObj (tabL a₀))]
    (fun k => ∀ a tl, LexOk w b₀ tx a → LexAt w a [] 0 1 tl → k (.ref a.I) (tl ++ [(185, tabObj (tabL a))])) :=
  (FC.of_fs (G := (G2 w).G) (Mine.lexer2_fs H.X H.T H.C3 a₀ hco ho.r ho.l ho.n tx t hx) (by
    rintro nd v tl' ⟨a, tt, n, tp, e1, e2, rfl, rfl, ok, off, co⟩
    exact (lexOff_of ok off).2)).mono fun k hk v tl' ⟨a, tt, n, tp, _, _, e, e2, ok, off, co⟩ => by
      subst e e2
      exact hk a _ ok (.mk _ _ _ _ _ _ .nil)
end
end MineV
end
end

section
noncomputable section
namespace MineV
open PySem PySem.W PyProof.Rows PySem.Calls PySem.Spec
open Mine (Kf accOf)
example : True := by
  k_with "V enter" => (
    (case ho => k_is)
    (case hcd => k_is)
    (case hb => first | exact fun s Xs => BindsTo.of_eq rfl | exact fun s Xs => binds_K Xs rfl (by k_is) rfl rfl rfl)
    (case hl => exact locs rfl)
    (case h1 => decide)
    (case h2 => exact rfl)
    (case h3 => exact rfl)
    (case h4 => exact rfl)
    (case h5 => exact rfl)
    (case h6 => exact rfl))
  trivial
example : True := by
  k_with "V enterC" => (
    (case ho => k_is)
    (case hcd => k_is)
    (case hb => first | exact fun s Xs => BindsTo.of_eq rfl | exact fun s Xs => binds_K Xs rfl (by k_is) rfl rfl rfl)
    (case hl => exact rfl)
    (case h1 => decide +kernel)
    (case h2 => exact rfl)
    (case h3 => exact rfl)
    (case h4 => exact rfl)
    (case h5 => exact rfl)
    (case h6 => exact rfl)
    (case h7 => exact rfl))
  trivial
open Mine (LexA LexT LexOk CodeOf tabL lexTl lexD tokT)
noncomputable def lD (k : Nat) : List Stmt := ((Mine.fB (Mine.fAt 17)).take 20).drop k
section
variable {w : World} {b₀ : Heap} {loose : List Str} {mean : ExcName → Option Value} {mg mb : Str → Option Value} (H : Hd w b₀ loose mean mg mb) {D U : Nat} {c : Cx}
include H
theorem lawD (ok : CxOk (G2 w) tb2 nmL b₀ D U c) (hd : 20 ≤ D) (hu : 300 ≤ U) {K : Flow → St → Prop} {Ds Dw px Dp Dm Dr : Addr} {NL : Int} {tn : Tok} {n1 n2 nm np nr : Nat} {row sp : List Acc} {A : Acc} {t : AT} {its : List It} {mv rv : List Value} {tl : Led} {la : LexA} {L : Lx} {a : Nat} {co : Option Value}
    (hp : Plain its) (h5 : its.length = 5) (h11 : ∀ i ∈ its, i.len ≤ 11) (hco : CodeOf la) (lof : LexOff la) (hm5 : StrsAre mv nm5) (hrv : NatsAre rv (its.map It.len)) (hrow : row.map Acc.prs = rounds (its.map It.pr2) 3) (hAok : ∀ B ∈ row ++ A :: sp, B.Ok) (ht : t.Ok) (hL : LexIs w la L tl)
    (h : ∀ fs' Do no ov os lx' co' x1 x2 x3 rest' led', os.length = 5 → NatsAre ov os → (∀ m ∈ os, 1 ≤ m ∧ m ≤ 3) → (os.map fun m => 2 ^ (3 - m)).sum = 8 → ((List.range 5).map fun k => (its.map It.len).getD k 0 * os.getD k 0).sum = shortest (its.map It.len) → led'.Perm (((Do, listOf ov.toArray no) :: (Dr, listOf rv.toArray nr) :: rest') ++ [(99, tabObj x1), (106, tabObj x2), (185, tabObj x3)]) → K .next ⟨fs', led', csL a (some (.ref Dr)) lx' co' (some (.ref Do))⟩) :
    WPss (WPs (G2 w) tb2 nmL c 30) (lD 13) K ⟨fsR Ds Dw NL tn px Dp Dm, (Ds, listOf (vrefs sp).toArray n1) :: (Dw, listOf (vrefs row).toArray n2) :: (Dm, listOf mv.toArray nm) :: (((Dp, listOf (its.map fun i => Value.ref i.p).toArray np) :: (its.map It.cell ++ [(Dr, listOf rv.toArray nr), (185, tabObj (tabL la))])) ++ tl ++ AL w t (row ++ (A :: sp))) ++ [], csL a (some (.ref Dr)) (some (.ref la.I)) co none⟩ := by
  have hrl : row.length ≤ 10 := by
    have := rounds_len (its.map It.pr2) (by rw [List.length_map]; exact h5) 3
    rw [← hrow, List.length_map] at this; exact this
  have hks : keys row = (rounds (its.map It.pr2) 3).map lenP := by
    rw [← hrow, List.map_map]
    exact List.map_congr_left fun B _ => key_prs B
  have hsum : ((rounds (its.map It.pr2) 3).map lenP).sum ≤ 880 := rounds_sum (by rw [List.length_map]; exact h5) fun q hq => by
    obtain ⟨i, hi, rfl⟩ := List.mem_map.mp hq
    exact h11 i hi
  intro t0
  refine op_newList (vs := [_]) (Nat.le_of_ble_eq_true rfl) fun Dy => ?_
  refine OpFor.weak (σ' := ⟨("paid", .ref Dy) :: fsR Ds Dw NL tn px Dp Dm, (Dy, listOf [Value.int 0 t0].toArray 0) :: (((Ds, listOf (vrefs sp).toArray n1) :: (Dm, listOf mv.toArray nm) :: (((Dp, listOf (its.map fun i => Value.ref i.p).toArray np) :: (its.map It.cell ++ [(Dr, listOf rv.toArray nr), (185, tabObj (tabL la))])) ++ tl)) ++ AL w t (row ++ (A :: sp))) ++ [(Dw, listOf (vrefs row).toArray n2)], csL a (some (.ref Dr)) (some (.ref la.I)) co none⟩) (.p (r := []) rfl ?hpp) ?_
  case hpp => walk_at "V perm"
  refine loop14 H ok (by k_extra "o") (by k_extra "o") (by k_extra "o") (fun B hB => List.mem_append_left _ hB) hAok ht fun pv ny t1 hpv ht1 => ?_
  refine ⟨trivial, ?_⟩
  refine op_callT ((Dy, listOf pv.toArray ny) :: (Dw, listOf (vrefs row).toArray n2) :: (Ds, listOf (vrefs sp).toArray n1) :: (Dm, listOf mv.toArray nm) :: (Dp, listOf (its.map fun i => Value.ref i.p).toArray np) :: (its.map It.cell ++ [(185, tabObj (tabL la))]) ++ tl ++ AL w t1 (row ++ (A :: sp))) ok (cheapest_fc H Dr rv nr _ hrv (by rw [List.length_map]; exact h5)) (by k_extra "o") (by k_extra "o") (by walk_at "V perm") ?_
  intro Dz zv nz hz
  refine op_neInts ok (by k_extra "o") (.head _) (List.mem_append_right _ (.head _)) hpv hz ?_
  have hpd : pfx (keys row) row.length = cheapest (its.map It.len) := by
    have := hp.paid
    rw [← hks, ← hrow, List.length_map] at this
    exact this
  refine IfK.no (by rw [hpd, decide_eq_true rfl]; rfl) ?_
  -- the reader
  intro tj pl
  refine op_mJoin ?_
  refine op_comp ok rfl rfl rfl rfl ?_
  have texts : ∀ m (_ : m < row.length), ∃ B, row[m]? = some B ∧ B ∈ row ++ A :: sp := fun m hm => by
    obtain ⟨B, e1, e2⟩ := lt_some hm
    exact ⟨B, e1, List.mem_append_left _ e2⟩
  refine cg_of (x := "one") (fs := ("paid", .ref Dy) :: fsR Ds Dw NL tn px Dp Dm) (cs₂ := []) (csR := csL a (some (.ref Dr)) (some (.ref la.I)) co none) (kp := [(Dw, listOf (vrefs row).toArray n2)]) (fun _ (t : AT) => ((Dr, listOf rv.toArray nr) :: (Dm, listOf mv.toArray nm) :: (185, tabObj (tabL la)) :: tl) ++ AL w t (row ++ A :: sp))
    (fun m xs t => AT.Ok t ∧ StrsAre xs ((row.map fun A => strOf A.its).take m)) ok (src_list (vs := vrefs row) (nn := n2) rfl) rfl rfl rfl rfl rfl (.refl _) (List.forall_mem_nil _) (by rw [vrefs_len]; k_extra "o") ?turn3 t1 ⟨ht1, .nil⟩ (.p (r := (Dz, listOf zv.toArray nz) :: (Dy, listOf pv.toArray ny) :: (Ds, listOf (vrefs sp).toArray n1) :: (Dp, listOf (its.map fun i => Value.ref i.p).toArray np) :: its.map It.cell) rfl (by walk_at "V perm")) ?fin3
  case turn3 =>
    rintro c5 K5 K6 m xs t5 v ok5 hm6 hv6 nx5 _ ⟨g1, g2⟩
    refine IfK.yes rfl ?_
    refine ⟨trivial, ?_⟩
    rw [vrefs_len] at hm6
    obtain ⟨B, e1, e3⟩ := texts m hm6
    rw [vrefs_at e1] at hv6
    cases hv6
    obtain ⟨r0, hr0⟩ := pull e3
    refine op_str' H (pre := (Dr, listOf rv.toArray nr) :: (Dm, listOf mv.toArray nm) :: (185, tabObj (tabL la)) :: tl) ok5 (by k_extra "o") (by k_extra "o") (.append_left _ (AL.perm hr0)) (hAok B e3) g1 fun u t6 ht6 => ?_
    refine nx5 _ _ t6 ⟨ht6, ?_⟩ (.p (r := []) rfl (by rw [List.append_nil]; exact .append_left _ (AL.perm hr0.symm)))
    rw [List.take_add_one, List.getElem?_map, e1]
    exact Mine.strs_app g2 (.cons _ u .nil)
  rintro Dj C8 nj jv t6 s8 ⟨ht6, hjv⟩ hl8 rl8
  refine fin_eval rl8 ?_
  rw [List.take_of_length_le (by rw [List.length_map, vrefs_len]; exact Nat.le_refl _)] at hjv
  have ejv : (row.map fun A => strOf A.its) = (rounds (its.map It.pr2) 3).map strP := by
    rw [← hrow, List.map_map]
    exact List.map_congr_left fun B _ => str_prs B
  rw [ejv] at hjv
  have hjl : (rounds (its.map It.pr2) 3).length ≤ 10 := rounds_len _ (by rw [List.length_map]; exact h5) 3
  refine ⟨trivial, ?_⟩
  refine op_join (.head _) hjv (by decide +kernel) (by rw [join_sum, List.length_map]; k_extra "o") ?_
  intro tk
  rw [join_strP]
  have htx : (strP (rounds (its.map It.pr2) 3).flatten).length ≤ 1000 := by
    rw [strP_len, flat_len]; k_extra "o"
  obtain ⟨ts, hrd, ho3, ho8, hos⟩ := hp.reads
  generalize strP (rounds (its.map It.pr2) 3).flatten = tx at htx hrd ⊢
  obtain ⟨tr, htr⟩ := lex_codes hL
  refine ⟨trivial, ?_⟩
  refine op_callT ((Dj, listOf jv.toArray nj) :: (Dw, listOf (vrefs row).toArray n2) :: (Dr, listOf rv.toArray nr) :: (Dm, listOf mv.toArray nm) :: tr ++ AL w t6 (row ++ A :: sp)) ok (lexer3_fc H la hco lof tx tk htx) (by k_extra "o") (by k_extra "o") ?hpq ?_
  case hpq =>
    have hc := cnt_perm htr
    refine perm_cnt fun p => ?_
    have hcp := hc p
    simp only [cnt_nil, cnt_app, cnt_cons] at hcp ⊢
    k_extra "o"
  intro lb tl2 lok hlb
  intro t7 t8 t9 t10 t11
  refine op_newList (vs := [_, _, _, _, _]) (Nat.le_of_ble_eq_true rfl) fun Do => ?_
  have ho0 : NatsAre [Value.int 0 t7, .int 0 t8, .int 0 t9, .int 0 t10, .int 0 t11] (oft []) := .cons 0 t7 (.cons 0 t8 (.cons 0 t9 (.cons 0 t10 (.cons 0 t11 .nil))))
  generalize [Value.int 0 t7, .int 0 t8, .int 0 t9, .int 0 t10, .int 0 t11] = ov0 at ho0 ⊢
  intro pl2
  refine op_mTok H ok (L := Lx0) hlb (fun p hp => .tail _ (List.mem_append_right _ (List.mem_append_left _ hp))) ?_
  refine ⟨trivial, ?_⟩
  refine op_tok H (tx := tx) (L := Lx0) (pre := (Do, listOf ov0.toArray 0) :: (Dm, listOf mv.toArray nm) :: (Dr, listOf rv.toArray nr) :: (Dj, listOf jv.toArray nj) :: (Dw, listOf (vrefs row).toArray n2) :: tr ++ AL w t6 (row ++ A :: sp) ++ [(185, tabObj (tabL lb))]) ok hd (by k_extra "o") htx lok (Nat.zero_le _) (Nat.zero_le _) hlb (by walk_at "V perm") fun u2 tl3 hl3 => ?_
  refine loop19 H ok hd (by k_extra "o") (Do := Do) (Dm := Dm) (mv := mv) (nm := nm) (no := 0) (ov := ov0) (t0 := u2) (lb := lb) (tl := tl3) (rest := (Dr, listOf rv.toArray nr) :: (Dj, listOf jv.toArray nj) :: (Dw, listOf (vrefs row).toArray n2) :: tr ++ AL w t6 (row ++ A :: sp) ++ [(185, tabObj (tabL lb))]) lok htx hm5 hrd ho0 (fs := _) ?hfx hl3 fun ov no tl4 u3 hov => ?_
  case hfx => exact rfl
  refine h _ Do no ov (oft ts) _ _ t6.t1 t6.t2 (tabL lb) ((Dm, listOf mv.toArray nm) :: (Dj, listOf jv.toArray nj) :: (Dw, listOf (vrefs row).toArray n2) :: tr ++ AC w (row ++ A :: sp) ++ tl4) _ (oft_len ts) hov ho3 ho8 hos ?_
  show List.Perm ((Do, listOf ov.toArray no) :: (Dm, listOf mv.toArray nm) :: (((Dr, listOf rv.toArray nr) :: (Dj, listOf jv.toArray nj) :: (Dw, listOf (vrefs row).toArray n2) :: tr ++ ((99, tabObj t6.t1) :: (106, tabObj t6.t2) :: AC w (row ++ A :: sp)) ++ [(185, tabObj (tabL lb))]) ++ tl4)) _
  walk_at "V perm"
end
end MineV
end
end

section
noncomputable section
namespace MineV
open PySem PySem.W PyProof.Rows PySem.Calls PySem.Spec
open Mine (Kf accOf)
example : True := by
  k_with "V enter" => (
    (case ho => k_is)
    (case hcd => k_is)
    (case hb => first | exact fun s Xs => BindsTo.of_eq rfl | exact fun s Xs => binds_K Xs rfl (by k_is) rfl rfl rfl)
    (case hl => exact locs rfl)
    (case h1 => decide)
    (case h2 => exact rfl)
    (case h3 => exact rfl)
    (case h4 => exact rfl)
    (case h5 => exact rfl)
    (case h6 => exact rfl))
  trivial
example : True := by
  k_with "V enterC" => (
    (case ho => k_is)
    (case hcd => k_is)
    (case hb => first | exact fun s Xs => BindsTo.of_eq rfl | exact fun s Xs => binds_K Xs rfl (by k_is) rfl rfl rfl)
    (case hl => exact rfl)
    (case h1 => decide +kernel)
    (case h2 => exact rfl)
    (case h3 => exact rfl)
    (case h4 => exact rfl)
    (case h5 => exact rfl)
    (case h6 => exact rfl)
    (case h7 => exact rfl))
  trivial
open Mine (LexA LexT LexOk CodeOf tabL lexTl lexD tokT)
theorem split3 {α : Type} (l : List α) : l.take 2 ++ ((l.take 20).drop 2 ++ l.drop 20) = l := by
  rw [← List.append_assoc, show l.take 2 = (l.take 20).take 2 by rw [List.take_take]; rfl, List.take_append_drop, List.take_append_drop]
section
variable {w : World} {b₀ : Heap} {loose : List Str} {mean : ExcName → Option Value} {mg mb : Str → Option Value} (H : Hd w b₀ loose mean mg mb)
include H
theorem law_fc (sa : Addr) (sv : List Value) (sn : Nat) (script : List Int) (hpl : ∀ ns its, Drawn ns its → Plain its) (hs : IntsAre sv script) (hl : script.length ≤ 63) :
    FC (G2 w) b₀ 60 600 (.ref 219) ⟨[.ref sa], []⟩ [(99, tabObj #[]), (106, tabObj #[]), (185, tabObj #[]), (sa, listOf sv.toArray sn)] (fun k => ∀ x1 x2 x3, k (.bool true) [(99, tabObj x1), (106, tabObj x2), (185, tabObj x3), (sa, listOf sv.toArray sn)]) := by
  refine' enterVO (D := 59) (U := 597) (tb := tb2) (binds := [("script", .ref sa)]) H.X H.T (tb2_ok w) ?ho ?hcd ?hb ?hl ?h1 ?h2 ?h ?h3 ?h4 ?h5 ?h6 ?h7
  walk_at "V enterC"
  intro k c a hk ok
  show Op (G2 w) c (execs (Mine.fB (Mine.fAt 17)) c.env) _ _
  rw [← split3 (Mine.fB (Mine.fAt 17))]
  refine op_exApp (s_ok ok 30) ?_
  intro t0 t1 t2 t3 t4
  refine op_newList (vs := [_, _, _, _, _]) (Nat.le_of_ble_eq_true rfl) fun Dn => ?_
  refine ⟨trivial, ?_⟩
  refine op_len (.tail _ (.tail _ (.tail _ (.tail _ (.head _))))) (by have := IntsAre.length hs; k_extra "o") ?_
  intro t5
  refine ⟨trivial, ?_⟩
  refine op_range ?_
  intro r u1 u2 u3
  -- the numbers
  refine OpFor.weak (σ' := ⟨[("numbers", .ref Dn), ("script", .ref sa)], (r, rangeOf 0 (sv.length : Int) 1 u1 u2 u3) :: (Dn, listOf [Value.int 1 t0, .int 11 t1, .int 13 t2, .int 0 t3, .int 2 t4].toArray 0) :: (sa, listOf sv.toArray sn) :: [(99, tabObj #[]), (106, tabObj #[]), (185, tabObj #[])], csL a none none none none⟩) (.of [0, 0, 3, 0, 0, 0] rfl rfl) ?_
  refine loop1 ok hs hl (.cons 1 t0 (.cons 11 t1 (.cons 13 t2 (.cons 0 t3 (.cons 2 t4 .nil))))) rfl fun nv ns nn hn h5 => ?_
  show Op (G2 w) c (execs (((Mine.fB (Mine.fAt 17)).take 20).drop 2 ++ (Mine.fB (Mine.fAt 17)).drop 20) c.env) _ (EndK k)
  refine Op.weak (σ' := ⟨[("numbers", .ref Dn)], [(Dn, listOf nv.toArray nn), (99, tabObj #[]), (106, tabObj #[]), (185, tabObj #[])] ++ [(sa, listOf sv.toArray sn)], csL a none none none none⟩) (.of [0, 1, 1, 1, 0] rfl rfl) ?_
  refine op_hide [(sa, listOf sv.toArray sn)] ?_
  have ok := ok.hide [(sa, listOf sv.toArray sn)]
  refine op_exApp (c := c.hide [(sa, listOf sv.toArray sn)]) (s_ok ok 30) ?_
  intro t6 t7 t8 t9 t10
  refine op_newList (vs := [_, _, _, _, _]) (Nat.le_of_ble_eq_true rfl) fun Dm => ?_
  have hm5 : StrsAre [Value.str "\"a" t6, .str "\\b" t7, .str "#c" t8, .str "\nd" t9, .str "\te" t10] nm5 := .cons _ t6 (.cons _ t7 (.cons _ t8 (.cons _ t9 (.cons _ t10 .nil))))
  generalize [Value.str "\"a" t6, .str "\\b" t7, .str "#c" t8, .str "\nd" t9, .str "\te" t10] = mv at hm5
  refine ⟨trivial, ?_⟩
  have hl2 : ∀ s ∈ nm5, 1 ≤ s.length ∧ s.length ≤ 10 := by decide +kernel
  refine op_call ok (pieces_fc H Dn Dm nv mv nn 0 ns nm5 hn hm5 h5 rfl hl2) rfl rfl (.of (is := [1, 0]) rfl) ?_
  intro Dp its np g1 g2
  have hdr : Drawn ns its := ⟨g1, g2⟩
  clear g1 g2
  have hsm := drawn_small hdr
  have hil := hdr.len
  -- the prices
  refine op_assignE ok (swap_no ok rfl) ?_
  refine op_comp ok rfl rfl rfl rfl ?_
  refine cg_ofG (fs := [("pieces", .ref Dp), ("names", .ref Dm)]) (cs₂ := []) (csR := csL a none none none none) (kp := [(Dp, listOf (its.map fun i => Value.ref i.p).toArray np)]) (fun _ (_ : Unit) => its.map It.cell ++ [(Dm, listOf mv.toArray 0), (99, tabObj #[]), (106, tabObj #[]), (185, tabObj #[])])
    (fun m xs _ => NatsAre xs ((its.map It.len).take m)) ok (src_list (vs := its.map fun i => Value.ref i.p) (nn := np) rfl) rfl rfl rfl rfl (.refl _)
    (List.forall_mem_nil _) (by rw [List.length_map, hil]; decide) ?turn5 () .nil (.p (r := [(Dn, listOf nv.toArray nn)]) rfl ?hp) ?fin5
  case hp => walk_at "V perm"
  case turn5 =>
    rintro c5 K5 K6 m xs _ v ok5 hm3 hv5 nx5 sk5 hq5
    rw [List.length_map] at hm3
    rw [List.getElem?_map, List.getElem?_eq_getElem hm3] at hv5
    cases hv5
    have hmem : (its[m].p, ({ cls := .type "tuple", data := .seq #[.str its[m].a its[m].ta, .str its[m].b its[m].tb] } : Obj)) ∈ its.map It.cell ++ [(Dm, listOf mv.toArray 0), (99, tabObj #[]), (106, tabObj #[]), (185, tabObj #[])] := List.mem_append_left _ (List.mem_map_of_mem (f := It.cell) (List.getElem_mem hm3))
    refine op_tup2 ok5 rfl rfl hmem ?_
    have sm := hsm.2 its[m] (List.getElem_mem hm3)
    have el : its[m].a.length + its[m].b.length = its[m].len := rfl
    refine IfK.yes rfl ?_
    refine ⟨trivial, ?_⟩
    refine op_len_str (by k_extra "o") ?_
    intro t7
    refine ⟨trivial, ?_⟩
    refine op_len_str (by k_extra "o") ?_
    intro t8 t9
    refine nx5 _ _ () ?_ (.s rfl)
    have e : (its.map It.len).take (m + 1) = (its.map It.len).take m ++ [its[m].len] := by
      rw [List.take_add_one, List.getElem?_map, List.getElem?_eq_getElem hm3]; rfl
    rw [e]
    have e2 : ((its[m].a.length : Nat) : Int) + ((its[m].b.length : Nat) : Int) = ((its[m].len : Nat) : Int) := by rw [← el, Int.natCast_add]
    show NatsAre (xs ++ [Value.int (((its[m].a.length : Nat) : Int) + ((its[m].b.length : Nat) : Int)) t9]) _
    rw [e2]
    exact hq5.snoc _ _
  rintro Dr C7 nr rv _ s7 hq7 hxl rl7
  refine fin_eval rl7 ?_
  rw [List.take_of_length_le (by rw [List.length_map, List.length_map]; exact Nat.le_refl _)] at hq7
  -- the page
  refine ⟨trivial, ?_⟩
  refine op_newA H ok (by decide) (by decide) fun A0 h0 => ?_
  refine OpFor.weak (σ' := ⟨[("page", .ref A0.x), ("pieces", .ref Dp), ("names", .ref Dm)], AL w ⟨#[], #[]⟩ [A0] ++ (its.map It.cell ++ [(Dr, listOf rv.toArray nr), (Dm, listOf mv.toArray 0), (185, tabObj #[])]) ++ [(Dp, listOf (its.map fun i => Value.ref i.p).toArray np)], csL a (some (.ref Dr)) none none none⟩) (.p (r := []) rfl ?hp2) ?_
  case hp2 =>
    show List.Perm _ (((99, tabObj #[]) :: (106, tabObj #[]) :: (A0.cells w ++ [])) ++ _ ++ _ ++ _)
    walk_at "V perm"
  refine loop6 H ok (by decide) (by decide) (by k_extra "o") h0 fun A hAx hAp => ?_
  have hApS : Small 5 A.prs := by rw [hAp]; exact hsm.1
  have hAok := small_ok hApS (by decide)
  have hAl := small_len hApS
  have hAs := strOf_len A.its
  have hAcs : (strOf A.its).cps.size ≤ 1000 := by
    show (strOf A.its).length ≤ 1000
    k_extra "o"
  -- the lines
  intro t11
  refine op_comp ok rfl rfl rfl rfl ?_
  refine ⟨trivial, ?_⟩
  rw [← hAx]
  have hpA : (AL w ⟨#[], #[]⟩ [A] ++ (its.map It.cell ++ [(Dr, listOf rv.toArray nr), (Dm, listOf mv.toArray 0), (185, tabObj #[])]) ++ [(Dp, listOf (its.map fun i => Value.ref i.p).toArray np)]).Perm ((its.map It.cell ++ [(Dr, listOf rv.toArray nr), (Dm, listOf mv.toArray 0), (185, tabObj #[])] ++ [(Dp, listOf (its.map fun i => Value.ref i.p).toArray np)]) ++ AL w ⟨#[], #[]⟩ (A :: [])) := by walk_at "V perm"
  refine op_str' H ok (by decide) (by decide) hpA hAok ⟨trivial, trivial⟩ fun u5 t' ht' => ?_
  have htx : strOf A.its = strP (its.map It.pr2) := by rw [str_prs, hAp]
  generalize hgtx : strOf A.its = tx at hAs hAcs htx ⊢
  have hxl : tx.length ≤ 1000 := hAcs
  refine cg_of (x := "sign") (fs := [("page", .ref A.x), ("pieces", .ref Dp), ("names", .ref Dm)]) (cs₂ := []) (csR := csL a (some (.ref Dr)) none none none) (kp := []) (fun _ (_ : Unit) => (its.map It.cell ++ [(Dr, listOf rv.toArray nr), (Dm, listOf mv.toArray 0), (185, tabObj #[])] ++ [(Dp, listOf (its.map fun i => Value.ref i.p).toArray np)]) ++ AL w t' (A :: []))
    (fun m xs _ => xs.length = nlC tx m) ok (fun s _ => src_str rfl s) rfl rfl rfl rfl rfl (.refl _) (List.forall_mem_nil _) hAcs ?turn6 () rfl (.p (r := []) rfl (by rw [List.append_nil, List.append_nil])) ?fin6
  case turn6 =>
    rintro c5 K5 K6 m xs _ v ok5 hm6 ⟨cc, tu, hcc, rfl⟩ nx5 sk5 hq5
    have hn6 := nlC_next hcc
    intro t12
    refine IfK.mk (fun c1 => ?_) fun c1 => ?_
    · have c1' : ((⟨#[cc]⟩ : Str) == "\n") = true := c1
      rw [sgn_nl, decide_eq_true_eq] at c1'
      rw [if_pos c1'] at hn6
      refine nx5 _ _ () ?_ (.s rfl)
      rw [List.length_append, hq5, hn6]; rfl
    · have c1' : ((⟨#[cc]⟩ : Str) == "\n") = false := c1
      rw [sgn_nl, decide_eq_false_iff_not] at c1'
      rw [if_neg c1', Nat.add_zero] at hn6
      exact sk5 _ () (hq5.trans hn6.symm) (.s rfl)
  rintro Dq C8 nq qv _ s8 hq8 hql rl8
  refine fin_eval rl8 ?_
  refine ⟨trivial, ?_⟩
  refine op_len (.head _) (Nat.le_trans hql hAcs) ?_
  intro t13 t14
  rw [hq8]
  -- the lexer
  refine ⟨trivial, ?_⟩
  have hpB : ((Dq, listOf qv.toArray nq) :: ((its.map It.cell ++ [(Dr, listOf rv.toArray nr), (Dm, listOf mv.toArray 0), (185, tabObj #[])] ++ [(Dp, listOf (its.map fun i => Value.ref i.p).toArray np)]) ++ AL w t' (A :: []) ++ [])).Perm (((Dq, listOf qv.toArray nq) :: (its.map It.cell ++ [(Dr, listOf rv.toArray nr), (Dm, listOf mv.toArray 0), (185, tabObj #[])] ++ [(Dp, listOf (its.map fun i => Value.ref i.p).toArray np)])) ++ AL w t' (A :: [])) := by walk_at "V perm"
  refine op_str' H ok (by decide) (by decide) hpB hAok ht' fun u6 t2 ht2 => ?_
  rw [hgtx]
  refine ⟨trivial, ?_⟩
  refine op_callT ((Dq, listOf qv.toArray nq) :: (its.map It.cell ++ [(Dr, listOf rv.toArray nr), (Dm, listOf mv.toArray 0), (Dp, listOf (its.map fun i => Value.ref i.p).toArray np)]) ++ AL w t2 (A :: [])) ok (lexer1_fc H tx u6 hxl) (by decide) (by decide) (by walk_at "V perm") ?_
  intro la tl1 lok loff lco hla
  intro pl
  have sub1 : ∀ (o : Led), ∀ p ∈ tl1, p ∈ o ++ (tl1 ++ [(185, tabObj (tabL la))]) := fun o p hp => List.mem_append_right _ (List.mem_append_left _ hp)
  refine op_mPushT H ok (L := Lx0) hla (sub1 _) ?_
  intro pl2
  refine op_mTok H ok (L := Lx0) hla (sub1 _) ?_
  refine ⟨trivial, ?_⟩
  have hPl := hpl _ _ hdr
  obtain ⟨e5, he5, hrd⟩ := hPl.ready tx htx
  refine op_tok H (tx := tx) (L := Lx0) (pre := (Dq, listOf qv.toArray nq) :: (its.map It.cell ++ [(Dr, listOf rv.toArray nr), (Dm, listOf mv.toArray 0), (Dp, listOf (its.map fun i => Value.ref i.p).toArray np)]) ++ AL w t2 (A :: []) ++ [(185, tabObj (tabL la))]) ok (by decide) (by decide) hxl lok (Nat.zero_le _) (Nat.zero_le _) hla (by walk_at "V perm") fun u7 tl2 hla2 => ?_
  refine ⟨trivial, ?_⟩
  refine op_pushT H (tx := tx) (L := (Lx0.tok tx).2) ok (by decide) (by decide) lok (Nat.zero_le _) hla2 (.refl _) fun v7 tl3 hla3 => ?_
  -- the row, the spare ones
  refine op_newList (vs := []) (Nat.le_of_ble_eq_true rfl) fun Dw => ?_
  refine op_newList (vs := []) (Nat.le_of_ble_eq_true rfl) fun Ds => ?_
  intro t15
  refine ⟨trivial, ?_⟩
  refine op_range ?_
  intro r2 u8 u9 u10
  refine OpFor.weak (σ' := ⟨fsR Ds Dw (1 + (nlC tx tx.cps.size : Nat)) t14 A.x Dp Dm, (Ds, listOf (vrefs []).toArray 0) :: (Dw, listOf (vrefs []).toArray 0) :: (Dm, listOf mv.toArray 0) :: (((Dp, listOf (its.map fun i => Value.ref i.p).toArray np) :: (its.map It.cell ++ [(Dr, listOf rv.toArray nr), (185, tabObj (tabL la))])) ++ tl3 ++ AL w t2 ([] ++ (A :: []))) ++ [(r2, rangeOf 0 ((3 : Nat) : Int) 1 u8 u9 u10)], csL a (some (.ref Dr)) (some (.ref la.I)) none none⟩) (.p (r := [(Dq, listOf qv.toArray nq)]) rfl ?hpw) ?_
  case hpw =>
    rw [show ((3 : Nat) : Int) = 3 from rfl, show (vrefs []).toArray = #[] from rfl, List.nil_append]
    walk_at "V perm"
  refine loopR H ok (by decide) (by decide) rfl hAok lok hxl hm5 ht2 hla3 hrd he5 hil hsm.1 hPl.okS fun Dw2 row sp n1 n2 t3 tl4 co hrow ht3 hla4 hsp => ?_
  have h11 : ∀ i ∈ its, i.len ≤ 11 := fun i hi => (hsm.2 i hi).2
  refine lawD H ok (by decide) (by decide) hPl hil h11 lco loff hm5 hq7 hrow (fun B hB => ?_) ht3 hla4 fun fs' Do no ov os lx' co' x1 x2 x3 rest' led' h5o hov ho3 ho8 hos hpe => ?_
  rcases List.mem_append.mp hB with hB | hB
  · have hB' : B.prs ∈ rounds (its.map It.pr2) 3 := by rw [← hrow]; exact List.mem_map_of_mem hB
    exact small_ok (rounds_small hsm.1 hB') (by decide)
  · rcases List.mem_cons.mp hB with rfl | hB
    · exact hAok
    · exact small_ok (n := 0) ⟨by rw [prs_len, hsp B hB]; exact Nat.le_refl _, fun q hq => by unfold Acc.prs at hq; rw [hsp B hB] at hq; cases hq⟩ (by decide)
  refine Op.perm hpe ?_
  refine op_hide [(99, tabObj x1), (106, tabObj x2), (185, tabObj x3)] ?_
  refine ss_ok (s_ok (ok.hide _) 30) ?_
  refine lawE H (ok.hide _) (by decide) (by decide) (.refl _) h5o (by rw [List.length_map]; exact hil) hov hq7 (fun p hp => ?_) ho3 ho8 hos fun σ => ?_
  · obtain ⟨i, hi, rfl⟩ := List.mem_map.mp hp
    exact Nat.le_trans (h11 i hi) (by decide)
  · refine ⟨[(99, tabObj x1), (106, tabObj x2), (185, tabObj x3), (sa, listOf sv.toArray sn)], σ.led, ?_, hk x1 x2 x3⟩
    show List.Perm ((σ.led ++ [(99, tabObj x1), (106, tabObj x2), (185, tabObj x3)]) ++ [(sa, listOf sv.toArray sn)]) _
    walk_at "V perm"
end
end MineV
end
end

section
noncomputable section
namespace MineV
open PySem PySem.W PyProof.Rows PySem.Calls PySem.Spec
open Mine (LexA LexT LexOk CodeOf tabL lexTl lexD tokT)
/-! the sums of the coins, by functions -/
noncomputable def aT (l : List Nat) (b : Nat) : Nat := l.getD b 1000000
noncomputable def stF (c : Nat) (f : Nat → Nat) (p : Nat) : Nat → Nat := fun b => if c ≤ b then min (f b) (f (b - c) + p) else f b
noncomputable def evF (f : Nat → Nat) : Nat → Nat := fun b => f (2 * b)
noncomputable def FF (ps : List Nat) : Nat → Nat := ps.foldl (stF 1) (evF (ps.foldl (stF 1) (evF (ps.foldl (stF 1) (aT [0])))))
theorem aT_out {l : List Nat} {b : Nat} (h : l.length ≤ b) : aT l b = 1000000 := by
  unfold aT
  rw [List.getD_eq_getElem?_getD, List.getElem?_eq_none h]; rfl
theorem pad_at (l : List Nat) (c b : Nat) (h : b < l.length + c) : (l ++ List.replicate c 1000000).getD b 0 = aT l b := by
  unfold aT
  rw [List.getD_eq_getElem?_getD, List.getD_eq_getElem?_getD]
  rcases Nat.lt_or_ge b l.length with h1 | h1
  · rw [List.getElem?_append_left h1, List.getElem?_eq_getElem h1]; rfl
  · rw [List.getElem?_append_right h1, List.getElem?_eq_none h1, List.getElem?_replicate, if_pos (by k_extra "o")]; rfl
theorem aT_chS (c : Nat) (cs : List Nat) (p : Nat) : aT (chS c cs p) = stF c (aT cs) p := by
  funext b
  rcases Nat.lt_or_ge b (cs.length + c) with h | h
  · have e : aT (chS c cs p) b = if c ≤ b then min ((cs ++ List.replicate c 1000000).getD b 0) ((cs ++ List.replicate c 1000000).getD (b - c) 0 + p) else (cs ++ List.replicate c 1000000).getD b 0 := by
      unfold aT chS
      rw [List.getD_eq_getElem?_getD, List.getElem?_map, List.getElem?_range h]; rfl
    rw [e, pad_at cs c b h, pad_at cs c (b - c) (by k_extra "o")]; rfl
  · rw [aT_out (by rw [chS_len]; exact h)]
    unfold stF
    by_cases hc : c ≤ b
    · rw [if_pos hc, aT_out (show cs.length ≤ b by k_extra "o"), aT_out (show cs.length ≤ b - c by k_extra "o")]; k_extra "o"
    · rw [if_neg hc, aT_out (by k_extra "o")]
theorem fold_chS (c : Nat) : ∀ (ps cs : List Nat), aT (ps.foldl (chS c) cs) = ps.foldl (stF c) (aT cs)
  | [], _ => rfl
  | p :: r, cs => by rw [List.foldl_cons, fold_chS c r, aT_chS]; rfl
theorem stF_comm (c : Nat) (f : Nat → Nat) (p q : Nat) : stF c (stF c f p) q = stF c (stF c f q) p := by
  funext b
  show (if c ≤ b then min (if c ≤ b then min (f b) (f (b - c) + p) else f b) ((if c ≤ b - c then min (f (b - c)) (f (b - c - c) + p) else f (b - c)) + q) else (if c ≤ b then min (f b) (f (b - c) + p) else f b)) =
    (if c ≤ b then min (if c ≤ b then min (f b) (f (b - c) + q) else f b) ((if c ≤ b - c then min (f (b - c)) (f (b - c - c) + q) else f (b - c)) + p) else (if c ≤ b then min (f b) (f (b - c) + q) else f b))
  generalize f b = x
  generalize f (b - c) = y
  generalize f (b - c - c) = z
  by_cases h : c ≤ b
  · rw [if_pos h, if_pos h, if_pos h, if_pos h]
    by_cases h2 : c ≤ b - c
    · rw [if_pos h2, if_pos h2, ← Nat.add_min_add_right, ← Nat.add_min_add_right, Nat.add_right_comm z p q]
      generalize y + p = a1
      generalize y + q = a2
      generalize z + q + p = a3
      rw [Nat.min_assoc, Nat.min_assoc, Nat.min_left_comm a1 a2 a3]
    · rw [if_neg h2, if_neg h2, Nat.min_assoc, Nat.min_assoc, Nat.min_comm (y + p)]
  · rw [if_neg h, if_neg h, if_neg h, if_neg h]
theorem evF_st (c : Nat) (f : Nat → Nat) (p : Nat) : evF (stF (2 * c) f p) = stF c (evF f) p := by
  funext b
  unfold evF stF
  by_cases h : c ≤ b
  · rw [if_pos (by k_extra "o"), if_pos h, show 2 * b - 2 * c = 2 * (b - c) by k_extra "o"]
  · rw [if_neg (by k_extra "o"), if_neg h]
theorem evF_fold (c : Nat) : ∀ (ps : List Nat) (f : Nat → Nat), evF (ps.foldl (stF (2 * c)) f) = ps.foldl (stF c) (evF f)
  | [], _ => rfl
  | p :: r, f => by rw [List.foldl_cons, List.foldl_cons, evF_fold c r, evF_st]
theorem cheapest_is {ps : List Nat} (h5 : ps.length = 5) : cheapest ps = (List.range 9).map (FF ps) := by
  have e1 : aT (ps.foldl (chS 4) (ps.foldl (chS 2) (ps.foldl (chS 1) [0]))) = ps.foldl (stF 4) (ps.foldl (stF 2) (ps.foldl (stF 1) (aT [0]))) := by
    rw [fold_chS, fold_chS, fold_chS]
  have e2 : FF ps = evF (evF (ps.foldl (stF 4) (ps.foldl (stF 2) (ps.foldl (stF 1) (aT [0]))))) := by
    unfold FF
    rw [evF_fold 2, evF_fold 1, evF_fold 1]
  unfold cheapest
  refine List.map_congr_left fun m hm => ?_
  have hm := List.mem_range.mp hm
  have hl : (ps.foldl (chS 4) (ps.foldl (chS 2) (ps.foldl (chS 1) [0]))).length = 36 := by
    rw [fold_len, fold_len, fold_len, h5]; rfl
  show (ps.foldl (chS 4) (ps.foldl (chS 2) (ps.foldl (chS 1) [0]))).getD (4 * m) 0 = _
  have e3 : ∀ (l : List Nat) b, b < l.length → l.getD b 0 = aT l b := fun l b hb => by
    unfold aT
    rw [List.getD_eq_getElem?_getD, List.getD_eq_getElem?_getD, List.getElem?_eq_getElem hb]; rfl
  refine (e3 _ _ (by rw [hl]; k_extra "o")).trans ?_
  rw [e1, e2]
  unfold evF
  rw [show 2 * (2 * m) = 4 * m by k_extra "o"]
theorem FF_perm {a b : List Nat} (h : a.Perm b) : FF a = FF b := by
  have key : ∀ f : Nat → Nat, a.foldl (stF 1) f = b.foldl (stF 1) f := fun f => h.foldl_eq' (fun x _ y _ z => stF_comm 1 z x y) f
  unfold FF
  rw [key, key, key]
/-! lists for the kernel -/
noncomputable def goL (p : Nat) : Nat → List Nat → List Nat
  | y, [] => [bif Nat.ble 1000000 (y + p) then 1000000 else y + p]
  | y, x :: r => (bif Nat.ble x (y + p) then x else y + p) :: goL p x r
noncomputable def stL : List Nat → Nat → List Nat
  | [], _ => []
  | y :: r, p => y :: goL p y r
noncomputable def evL : List Nat → List Nat
  | [] => []
  | [x] => [x]
  | x :: _ :: r => x :: evL r
noncomputable def cheapL (ps : List Nat) : List Nat := ps.foldl stL (evL (ps.foldl stL (evL (ps.foldl stL [0]))))
theorem ble_min (a b : Nat) : (bif Nat.ble a b then a else b) = min a b := by
  rcases Nat.le_total a b with h | h
  · rw [show Nat.ble a b = true from Nat.ble_eq.mpr h]; exact (Nat.min_eq_left h).symm
  · rcases Nat.eq_or_lt_of_le h with e | h
    · subst e; cases Nat.ble b b <;> simp
    · rw [show Nat.ble a b = false from Bool.eq_false_iff.mpr fun k => by have := Nat.ble_eq.mp k; k_extra "o"]
      show b = _; k_extra "o"
theorem aT_nil (b : Nat) : aT [] b = 1000000 := rfl
theorem aT_succ (x : Nat) (r : List Nat) (b : Nat) : aT (x :: r) (b + 1) = aT r b := rfl
theorem aT_goL (p : Nat) : ∀ (r : List Nat) (y b : Nat), aT (goL p y r) b = min (aT r b) (aT (y :: r) b + p)
  | [], y, 0 => by unfold goL; rw [ble_min]; rfl
  | [], y, b + 1 => by
    unfold goL
    rw [aT_succ, aT_succ, aT_nil]; exact (Nat.min_eq_left (Nat.le_add_right _ _)).symm
  | x :: r, y, 0 => by unfold goL; rw [ble_min]; rfl
  | x :: r, y, b + 1 => by
    unfold goL
    rw [aT_succ, aT_goL p r x b, aT_succ, aT_succ]
theorem aT_stL (l : List Nat) (p : Nat) (h : l ≠ []) : aT (stL l p) = stF 1 (aT l) p := by
  cases l with
  | nil => exact absurd rfl h
  | cons y r =>
    funext b
    cases b with
    | zero => rfl
    | succ b =>
      show aT (goL p y r) b = _
      rw [aT_goL]
      unfold stF
      rw [if_pos (by k_extra "o")]; rfl
theorem aT_evL : ∀ (l : List Nat) (b : Nat), aT (evL l) b = aT l (2 * b)
  | [], b => rfl
  | [x], 0 => rfl
  | [x], b + 1 => rfl
  | x :: z :: r, 0 => rfl
  | x :: z :: r, b + 1 => by
    show aT (evL r) b = aT (x :: z :: r) (2 * b + 1 + 1)
    rw [aT_succ, aT_succ, aT_evL r b]
theorem stL_ne {l : List Nat} (p : Nat) (h : l ≠ []) : stL l p ≠ [] := by
  cases l with
  | nil => exact absurd rfl h
  | cons y r => exact fun k => nomatch k
theorem evL_ne {l : List Nat} (h : l ≠ []) : evL l ≠ [] := by
  match l, h with
  | [], h => exact absurd rfl h
  | [x], _ => exact fun k => nomatch k
  | x :: z :: r, _ => exact fun k => nomatch k
theorem fold_stL : ∀ (ps l : List Nat), l ≠ [] → ps.foldl stL l ≠ [] ∧ aT (ps.foldl stL l) = ps.foldl (stF 1) (aT l)
  | [], _, h => ⟨h, rfl⟩
  | p :: r, l, h => by
    rw [List.foldl_cons, List.foldl_cons, ← aT_stL l p h]
    exact fold_stL r _ (stL_ne p h)
theorem cheapL_at (ps : List Nat) : aT (cheapL ps) = FF ps := by
  have ev : ∀ l, aT (evL l) = evF (aT l) := fun l => funext fun b => aT_evL l b
  have h1 := fold_stL ps [0] (by simp)
  have h2 := fold_stL ps _ (evL_ne h1.1)
  have h3 := fold_stL ps _ (evL_ne h2.1)
  unfold cheapL FF
  rw [h3.2, ev, h2.2, ev, h1.2]
theorem cheapL_is {ps : List Nat} (h9 : (cheapL ps).length = 9) : cheapL ps = (List.range 9).map (FF ps) := by
  refine List.ext_getElem (by rw [h9, List.length_map, List.length_range]) fun i h1 h2 => ?_
  rw [List.getElem_map, List.getElem_range, ← cheapL_at]
  unfold aT
  rw [List.getD_eq_getElem?_getD, List.getElem?_eq_getElem h1]; rfl
/-! the short sums -/
noncomputable def sF (f : Nat → Nat) (p b : Nat) : Nat := min 1000000 (min (if 4 ≤ b then f (b - 4) + p * 1 else 1000000) (min (if 2 ≤ b then f (b - 2) + p * 2 else 1000000) (if 1 ≤ b then f (b - 1) + p * 3 else 1000000)))
theorem mn2 (a x y : Nat) : min a (min x y) = min (min a x) (min a y) := by
  rw [Nat.min_assoc a x, Nat.min_left_comm x a y, ← Nat.min_assoc a a, Nat.min_self]
theorem mn3 (x y z : Nat) : min 1000000 (min x (min y z)) = min (min 1000000 x) (min (min 1000000 y) (min 1000000 z)) := by
  rw [mn2 1000000 x, mn2 1000000 y]
noncomputable def mF (l : List Nat) : Nat := l.foldr min 1000000
theorem foldl_mF : ∀ (l : List Nat) (a : Nat), a ≤ 1000000 → l.foldl min a = min a (mF l)
  | [], a, h => (Nat.min_eq_left h).symm
  | x :: r, a, h => by
    rw [List.foldl_cons, foldl_mF r _ (Nat.le_trans (Nat.min_le_left _ _) h), Nat.min_assoc]; rfl
theorem mF_le : ∀ l : List Nat, mF l ≤ 1000000
  | [] => Nat.le_refl _
  | x :: r => Nat.le_trans (Nat.min_le_right _ _) (mF_le r)
theorem mF_cdl (ls : List Nat) (p b : Nat) (q : Nat × Nat) (r : List (Nat × Nat)) : mF (cdl ls p b (q :: r)) = min (if q.2 ≤ b then ls.getD (b - q.2) 0 + p * q.1 else 1000000) (mF (cdl ls p b r)) := by
  unfold cdl
  by_cases h : q.2 ≤ b
  · rw [if_pos h, List.filter_cons_of_pos (p := fun q : Nat × Nat => decide (q.2 ≤ b)) (decide_eq_true h)]; rfl
  · rw [if_neg h, List.filter_cons_of_neg (p := fun q : Nat × Nat => decide (q.2 ≤ b)) (fun k => h (of_decide_eq_true k))]
    exact (Nat.min_eq_right (mF_le _)).symm
theorem shS_at (ls : List Nat) (p : Nat) : shS ls p = (List.range 9).map (sF (ls.getD · 0) p) := by
  unfold shS
  refine List.map_congr_left fun b _ => ?_
  rw [foldl_mF _ _ (Nat.le_refl _)]
  show min 1000000 (min 1000000 (mF (cdl ls p b [(1, 4), (2, 2), (3, 1)]))) = _
  rw [mF_cdl, mF_cdl, mF_cdl, ← Nat.min_assoc, Nat.min_self]
  rw [show mF (cdl ls p b []) = 1000000 from rfl]
  show min 1000000 (min (if 4 ≤ b then ls.getD (b - 4) 0 + p * 1 else 1000000) (min (if 2 ≤ b then ls.getD (b - 2) 0 + p * 2 else 1000000) (min (if 1 ≤ b then ls.getD (b - 1) 0 + p * 3 else 1000000) 1000000))) =
    min 1000000 (min (if 4 ≤ b then ls.getD (b - 4) 0 + p * 1 else 1000000) (min (if 2 ≤ b then ls.getD (b - 2) 0 + p * 2 else 1000000) (if 1 ≤ b then ls.getD (b - 1) 0 + p * 3 else 1000000)))
  generalize (if 4 ≤ b then ls.getD (b - 4) 0 + p * 1 else 1000000) = x
  generalize (if 2 ≤ b then ls.getD (b - 2) 0 + p * 2 else 1000000) = y
  generalize (if 1 ≤ b then ls.getD (b - 1) 0 + p * 3 else 1000000) = z
  rw [mn3, mn3, Nat.min_comm z 1000000, ← Nat.min_assoc 1000000 1000000 z, Nat.min_self]
theorem at_map (f : Nat → Nat) {b : Nat} (h : b < 9) : ((List.range 9).map f).getD b 0 = f b := by
  rw [List.getD_eq_getElem?_getD, List.getElem?_map, List.getElem?_range h]; rfl
theorem sF_congr {f g : Nat → Nat} (h : ∀ b < 9, f b = g b) (p : Nat) {b : Nat} (hb : b < 9) : sF f p b = sF g p b := by
  unfold sF
  rw [h (b - 4) (by k_extra "o"), h (b - 2) (by k_extra "o"), h (b - 1) (by k_extra "o")]
noncomputable def hh (c k : Nat) (f : Nat → Nat) (p b : Nat) : Nat := if c ≤ b then f (b - c) + p * k else 1000000
theorem mn4 (x t : Nat) : min 1000000 (min (1000000 + t) x) = min 1000000 x := by
  rw [← Nat.min_assoc, Nat.min_eq_left (Nat.le_add_right _ _)]
theorem hh_mn (c k : Nat) (f A B C : Nat → Nat) (q b : Nat) (h : ∀ i, f i = min 1000000 (min (A i) (min (B i) (C i)))) :
    min 1000000 (hh c k f q b) = min (min 1000000 (hh c k A q b)) (min (min 1000000 (hh c k B q b)) (min 1000000 (hh c k C q b))) := by
  unfold hh
  by_cases hc : c ≤ b
  · rw [if_pos hc, if_pos hc, if_pos hc, if_pos hc, h, ← Nat.add_min_add_right, ← Nat.add_min_add_right, ← Nat.add_min_add_right, mn4, mn3]
  · rw [if_neg hc, if_neg hc, if_neg hc, if_neg hc, Nat.min_self, Nat.min_self, Nat.min_self]
theorem hh_out (c k d j : Nat) (f : Nat → Nat) (p q b : Nat) (h : ¬ c + d ≤ b) : min 1000000 (hh c k (hh d j f p) q b) = 1000000 := by
  unfold hh
  by_cases hc : c ≤ b
  · rw [if_pos hc, if_neg (by k_extra "o"), Nat.min_eq_left (Nat.le_add_right _ _)]
  · rw [if_neg hc, Nat.min_self]
theorem hh_in (c k d j : Nat) (f : Nat → Nat) (p q b : Nat) (h : c + d ≤ b) : hh c k (hh d j f p) q b = f (b - c - d) + p * j + q * k := by
  unfold hh
  rw [if_pos (by k_extra "o"), if_pos (by k_extra "o")]
theorem hh_comm (c k d j : Nat) (f : Nat → Nat) (p q b : Nat) : min 1000000 (hh c k (hh d j f p) q b) = min 1000000 (hh d j (hh c k f q) p b) := by
  by_cases h : c + d ≤ b
  · rw [hh_in c k d j f p q b h, hh_in d j c k f q p b (by k_extra "o"), Nat.sub_right_comm, Nat.add_right_comm]
  · rw [hh_out c k d j f p q b h, hh_out d j c k f q p b (by k_extra "o")]
theorem sF_hh (f : Nat → Nat) (p b : Nat) : sF f p b = min 1000000 (min (hh 4 1 f p b) (min (hh 2 2 f p b) (hh 1 3 f p b))) := rfl
theorem sF_sF (f : Nat → Nat) (p q b : Nat) : sF (sF f p) q b = sF (sF f q) p b := by
  rw [sF_hh (sF f p) q b, sF_hh (sF f q) p b, mn3, mn3]
  rw [hh_mn 4 1 (sF f p) _ _ _ q b (sF_hh f p), hh_mn 2 2 (sF f p) _ _ _ q b (sF_hh f p), hh_mn 1 3 (sF f p) _ _ _ q b (sF_hh f p)]
  rw [hh_mn 4 1 (sF f q) _ _ _ p b (sF_hh f q), hh_mn 2 2 (sF f q) _ _ _ p b (sF_hh f q), hh_mn 1 3 (sF f q) _ _ _ p b (sF_hh f q)]
  rw [hh_comm 4 1 4 1 f q p, hh_comm 4 1 2 2 f q p, hh_comm 4 1 1 3 f q p, hh_comm 2 2 4 1 f q p, hh_comm 2 2 2 2 f q p, hh_comm 2 2 1 3 f q p, hh_comm 1 3 4 1 f q p, hh_comm 1 3 2 2 f q p, hh_comm 1 3 1 3 f q p]
  generalize min 1000000 (hh 4 1 (hh 4 1 f p) q b) = a
  generalize min 1000000 (hh 4 1 (hh 2 2 f p) q b) = a2
  generalize min 1000000 (hh 4 1 (hh 1 3 f p) q b) = a3
  generalize min 1000000 (hh 2 2 (hh 4 1 f p) q b) = a4
  generalize min 1000000 (hh 2 2 (hh 2 2 f p) q b) = a5
  generalize min 1000000 (hh 2 2 (hh 1 3 f p) q b) = a6
  generalize min 1000000 (hh 1 3 (hh 4 1 f p) q b) = a7
  generalize min 1000000 (hh 1 3 (hh 2 2 f p) q b) = a8
  generalize min 1000000 (hh 1 3 (hh 1 3 f p) q b) = a9
  ac_rfl
theorem shS_comm (ls : List Nat) (p q : Nat) : shS (shS ls p) q = shS (shS ls q) p := by
  rw [shS_at (shS ls p), shS_at (shS ls q), shS_at ls p, shS_at ls q]
  refine List.map_congr_left fun b hb => ?_
  have hb := List.mem_range.mp hb
  rw [sF_congr (fun b h => at_map _ h) q hb, sF_congr (fun b h => at_map _ h) p hb, sF_sF]
theorem shortest_perm {a b : List Nat} (h : a.Perm b) : shortest a = shortest b := by
  unfold shortest
  rw [h.foldl_eq' (fun x _ y _ z => shS_comm z x y)]
end MineV
end
end

section
noncomputable section
namespace MineV
open PySem PySem.W PyProof.Rows PySem.Calls PySem.Spec
open Mine (LexA LexT LexOk CodeOf tabL lexTl lexD tokT)
/-! the rounds over any things, and over five numbers -/
noncomputable def rG {α : Type} (k : List α → Nat) (co : List α) : Nat → List (List α)
  | 0 => []
  | j + 1 => sortK k (co.map (fun x => [x]) ++ pairL (rG k co j))
noncomputable def sumL (pr : Nat → Nat) (l : List Nat) : Nat := (l.map pr).sum
theorem pairL_map {α β : Type} (f : α → β) : ∀ L : List (List α), pairL (L.map (List.map f)) = (pairL L).map (List.map f)
  | [] => rfl
  | [_] => rfl
  | a :: b :: r => by
    show (a.map f ++ b.map f) :: pairL (r.map (List.map f)) = (a ++ b).map f :: (pairL r).map (List.map f)
    rw [pairL_map f r, List.map_append]
theorem rG_map {α β : Type} (f : α → β) (k : List β → Nat) (co : List α) : ∀ j, rG k (co.map f) j = (rG (fun l => k (l.map f)) co j).map (List.map f)
  | 0 => rfl
  | j + 1 => by
    show sortK k ((co.map f).map (fun x => [x]) ++ pairL (rG k (co.map f) j)) = (sortK (fun l => k (l.map f)) (co.map (fun x => [x]) ++ pairL (rG _ co j))).map (List.map f)
    rw [sortK_map (List.map f) k, List.map_append, rG_map f k co j, pairL_map, List.map_map, List.map_map]; rfl
theorem insK_comm {α : Type} {k : α → Nat} {x y : α} (h : k y < k x) : ∀ W : List α, insK k y (insK k x W) = insK k x (insK k y W)
  | [] => by
    show (if k y ≤ k x then [y, x] else x :: insK k y []) = (if k x ≤ k y then [x, y] else y :: insK k x [])
    rw [if_pos (Nat.le_of_lt h), if_neg (Nat.not_le.mpr h)]; rfl
  | z :: W => by
    by_cases h1 : k x ≤ k z
    · have h2 : k y ≤ k z := by k_extra "o"
      have e1 : insK k x (z :: W) = x :: z :: W := if_pos h1
      have e2 : insK k y (z :: W) = y :: z :: W := if_pos h2
      have e3 : insK k y (x :: z :: W) = y :: x :: z :: W := if_pos (Nat.le_of_lt h)
      have e4 : insK k x (y :: z :: W) = y :: insK k x (z :: W) := if_neg (Nat.not_le.mpr h)
      rw [e2, e4, e1, e3]
    · have e1 : insK k x (z :: W) = z :: insK k x W := if_neg h1
      by_cases h2 : k y ≤ k z
      · have e2 : insK k y (z :: W) = y :: z :: W := if_pos h2
        have e3 : insK k y (z :: insK k x W) = y :: z :: insK k x W := if_pos h2
        have e4 : insK k x (y :: z :: W) = y :: insK k x (z :: W) := if_neg (Nat.not_le.mpr h)
        rw [e2, e4, e1, e3]
      · have e2 : insK k y (z :: W) = z :: insK k y W := if_neg h2
        have e3 : insK k y (z :: insK k x W) = z :: insK k y (insK k x W) := if_neg h2
        have e4 : insK k x (z :: insK k y W) = z :: insK k x (insK k y W) := if_neg h1
        rw [e2, e4, e1, e3, insK_comm h W]
theorem sortK_fold {α : Type} (k : α → Nat) : ∀ l m : List α, sortK k (l ++ m) = l.foldr (insK k) (sortK k m)
  | [], _ => rfl
  | x :: r, m => by
    show insK k x (sortK k (r ++ m)) = _
    rw [sortK_fold k r m]; rfl
theorem fold_insK {α : Type} (k : α → Nat) (Z : List α) (x : α) : ∀ l : List α, (insK k x l).foldr (insK k) Z = insK k x (l.foldr (insK k) Z)
  | [] => rfl
  | y :: r => by
    by_cases h : k x ≤ k y
    · have e1 : insK k x (y :: r) = x :: y :: r := if_pos h
      rw [e1]; rfl
    · have e1 : insK k x (y :: r) = y :: insK k x r := if_neg h
      rw [e1, List.foldr_cons, fold_insK k Z x r, List.foldr_cons, insK_comm (Nat.not_le.mp h)]
theorem fold_sortK {α : Type} (k : α → Nat) (Z : List α) : ∀ l : List α, (sortK k l).foldr (insK k) Z = l.foldr (insK k) Z
  | [] => rfl
  | x :: r => by
    show (insK k x (sortK k r)).foldr (insK k) Z = _
    rw [fold_insK, fold_sortK k Z r]; rfl
theorem sortK_app {α : Type} (k : α → Nat) (l m : List α) : sortK k (sortK k l ++ m) = sortK k (l ++ m) := by
  rw [sortK_fold, sortK_fold, fold_sortK]
theorem rG_sort {α : Type} (k : List α → Nat) (co : List α) : ∀ j, rG k (sortK (fun x => k [x]) co) j = rG k co j
  | 0 => rfl
  | j + 1 => by
    show sortK k ((sortK (fun x => k [x]) co).map (fun x => [x]) ++ pairL (rG k _ j)) = sortK k (co.map (fun x => [x]) ++ pairL (rG k co j))
    rw [rG_sort k co j, sortK_map (fun x : α => [x]) k, sortK_app]
theorem rG_mem {α : Type} (k : List α → Nat) (co : List α) : ∀ j, ∀ l ∈ rG k co j, ∀ x ∈ l, x ∈ co
  | 0, l, h => nomatch h
  | j + 1, l, h => by
    have h := (sortK_perm _ _).mem_iff.mp h
    rcases List.mem_append.mp h with h | h
    · obtain ⟨q, hq, rfl⟩ := List.mem_map.mp h
      exact fun x hx => by rw [List.mem_singleton.mp hx]; exact hq
    · have hL : ∀ L : List (List α), (∀ l ∈ L, ∀ x ∈ l, x ∈ co) → ∀ l ∈ pairL L, ∀ x ∈ l, x ∈ co := by
        intro L
        induction L using pairL.induct with
        | case1 a b r ih =>
          intro hL l hl x hx
          rcases List.mem_cons.mp hl with rfl | hl
          · rcases List.mem_append.mp hx with hx | hx
            · exact hL a (.head _) x hx
            · exact hL b (.tail _ (.head _)) x hx
          · exact ih (fun l hl => hL l (.tail _ (.tail _ hl))) l hl x hx
        | case2 L h =>
          intro _ l hl
          unfold pairL at hl
          split at hl
          · exact absurd rfl (h _ _ _)
          · cases hl
      exact hL _ (rG_mem k co j) l h
noncomputable def chk (q : List Nat) : Bool :=
  let R := rG (sumL (q.getD · 0)) [0, 1, 2, 3, 4] 3
  let cn := [0, 1, 2, 3, 4].map fun m => R.flatten.count m
  pfx (R.map (sumL (q.getD · 0))) R.length == cheapL q && (cheapL q).length == 9 && cn.all (fun m => decide (1 ≤ m) && decide (m ≤ 3)) && (cn.map fun m => 2 ^ (3 - m)).sum == 8 && ([0, 1, 2, 3, 4].map fun m => q.getD m 0 * R.flatten.count m).sum == shortest q
noncomputable def upF (f : Nat → Bool) : Nat → Nat → Bool
  | 0, _ => true
  | n + 1, lo => f lo && upF f n (lo + 1)
noncomputable def chC4 (a b : Nat) : Bool := upF (fun c => upF (fun d => upF (fun e => chk [a, b, c, d, e]) (12 - d) d) (12 - c) c) (12 - b) b
theorem upF_is {f : Nat → Bool} : ∀ {n lo : Nat}, upF f n lo = true → ∀ x, lo ≤ x → x < lo + n → f x = true
  | 0, lo, _, x, h1, h2 => absurd h2 (by k_extra "o")
  | n + 1, lo, h, x, h1, h2 => by
    have h : (f lo && upF f n (lo + 1)) = true := h
    rw [Bool.and_eq_true] at h
    rcases Nat.eq_or_lt_of_le h1 with rfl | h3
    · exact h.1
    · exact upF_is h.2 x h3 (by k_extra "o")
theorem chk_44 : chC4 4 4 = true := by decide +kernel
theorem chk_45 : chC4 4 5 = true := by decide +kernel
theorem chk_46 : (upF (chC4 4) 6 6) = true := by decide +kernel
theorem chk_5 : (upF (chC4 5) 7 5) = true := by decide +kernel
theorem chk_6 : (upF (chC4 6) 6 6) = true := by decide +kernel
theorem chk_7 : upF (fun a => upF (chC4 a) (12 - a) a) 5 7 = true := by decide +kernel
theorem chk_all {a b c d e : Nat} (h1 : 4 ≤ a) (h2 : a ≤ b) (h3 : b ≤ c) (h4 : c ≤ d) (h5 : d ≤ e) (h6 : e ≤ 11) : chk [a, b, c, d, e] = true := by
  have key : chC4 a b = true := by
    rcases (show a = 4 ∨ a = 5 ∨ a = 6 ∨ 7 ≤ a by k_extra "o") with rfl | rfl | rfl | h
    · rcases (show b = 4 ∨ b = 5 ∨ 6 ≤ b by k_extra "o") with rfl | rfl | hb
      · exact chk_44
      · exact chk_45
      · exact upF_is chk_46 b hb (by k_extra "o")
    · exact upF_is chk_5 b h2 (by k_extra "o")
    · exact upF_is chk_6 b h2 (by k_extra "o")
    · exact upF_is (upF_is chk_7 a h (by k_extra "o")) b h2 (by k_extra "o")
  exact upF_is (upF_is (upF_is key c h3 (by k_extra "o")) d h4 (by k_extra "o")) e h5 (by k_extra "o")
end MineV
end
end

section
noncomputable section
namespace MineV
open PySem PySem.W PyProof.Rows PySem.Calls PySem.Spec
open Mine (LexA LexT LexOk CodeOf tabL lexTl lexD tokT)
theorem map_getD (ps : List Nat) (h5 : ps.length = 5) : (List.range 5).map (fun k => ps.getD k 0) = ps := by
  refine List.ext_getElem (by rw [List.length_map, List.length_range, h5]) fun i h1 h2 => ?_
  rw [List.getElem_map, List.getElem_range, List.getD_eq_getElem?_getD, List.getElem?_eq_getElem h2]; rfl
theorem five_of : ∀ (q : List Nat), q.length = 5 → ∃ a b c d e, q = [a, b, c, d, e]
  | [a, b, c, d, e], _ => ⟨a, b, c, d, e, rfl⟩
theorem sumL_map {pr qr : Nat → Nat} (g : Nat → Nat) (h : ∀ m, pr (g m) = qr m) (l : List Nat) : sumL pr (l.map g) = sumL qr l := by
  unfold sumL
  rw [List.map_map]
  congr 1
  exact List.map_congr_left fun m _ => h m
theorem rounds_plain (ps : List Nat) (h5 : ps.length = 5) (hb : ∀ p ∈ ps, 4 ≤ p ∧ p ≤ 11) (R' : List (List Nat)) (hR : R' = rG (sumL (ps.getD · 0)) (List.range 5).reverse 3) :
    pfx (R'.map (sumL (ps.getD · 0))) R'.length = cheapest ps ∧ (∀ k < 5, 1 ≤ R'.flatten.count k ∧ R'.flatten.count k ≤ 3) ∧
      ((List.range 5).map fun k => 2 ^ (3 - R'.flatten.count k)).sum = 8 ∧ ((List.range 5).map fun k => ps.getD k 0 * R'.flatten.count k).sum = shortest ps := by
  generalize hpr : (fun k => ps.getD k 0) = pr
  have prE : ∀ k, ps.getD k 0 = pr k := fun k => congrFun hpr k
  replace hR : R' = rG (sumL pr) (List.range 5).reverse 3 := by rw [← hpr]; exact hR
  have hp : (sortK pr (List.range 5).reverse).Pairwise (BefK pr (fun k => 4 - k)) := sortK_pair (by decide)
  have hs : (sortK pr (List.range 5).reverse).Perm (List.range 5) := (sortK_perm _ _).trans (List.reverse_perm _)
  have hsort : rG (sumL pr) (sortK pr (List.range 5).reverse) 3 = rG (sumL pr) (List.range 5).reverse 3 := by
    have e : (fun x => sumL pr [x]) = pr := funext fun x => by unfold sumL; simp
    have := rG_sort (sumL pr) (List.range 5).reverse 3
    rw [e] at this
    exact this
  rw [← hsort] at hR
  clear hsort
  revert hp hs hR
  generalize sortK pr (List.range 5).reverse = s
  intro hR hp hs
  have sl : s.length = 5 := hs.length_eq
  have hg : (List.range 5).map (fun m => s.getD m 5) = s := by
    refine List.ext_getElem (by rw [List.length_map, List.length_range, sl]) fun i h1 h2 => ?_
    rw [List.getElem_map, List.getElem_range, List.getD_eq_getElem?_getD, List.getElem?_eq_getElem h2]; rfl
  have hnd : s.Nodup := hs.nodup_iff.mpr List.nodup_range
  have hinj : ∀ x < 5, ∀ y < 5, s.getD x 5 = s.getD y 5 → x = y := fun x hx y hy e => by
    rw [List.getD_eq_getElem?_getD, List.getD_eq_getElem?_getD, List.getElem?_eq_getElem (by k_extra "o"), List.getElem?_eq_getElem (by k_extra "o")] at e
    have hn := List.pairwise_iff_getElem.mp hnd
    rcases Nat.lt_trichotomy x y with h | h | h
    · exact absurd e (hn x y (by k_extra "o") (by k_extra "o") h)
    · exact h
    · exact absurd e.symm (hn y x (by k_extra "o") (by k_extra "o") h)
  have hq : (s.map pr).Perm ps := (hs.map pr).trans (by rw [← hpr, map_getD ps h5])
  have hqp : (s.map pr).Pairwise (· ≤ ·) := List.pairwise_map.mpr (hp.imp fun h => by unfold BefK at h; k_extra "o")
  have hqb : ∀ x ∈ s.map pr, 4 ≤ x ∧ x ≤ 11 := fun x hx => hb x (hq.mem_iff.mp hx)
  have hql : (s.map pr).length = 5 := by rw [List.length_map, sl]
  have hpg : ∀ m, pr (s.getD m 5) = (s.map pr).getD m 0 := fun m => by
    rw [List.getD_eq_getElem?_getD, List.getD_eq_getElem?_getD, List.getElem?_map]
    rcases Nat.lt_or_ge m s.length with h | h
    · rw [List.getElem?_eq_getElem h]; rfl
    · rw [List.getElem?_eq_none h]
      show pr 5 = 0
      rw [← prE, List.getD_eq_getElem?_getD, List.getElem?_eq_none (by k_extra "o")]; rfl
  have hC : chk (s.map pr) = true := by
    obtain ⟨a, b, c, d, e, E⟩ := five_of _ hql
    rw [E] at hqp hqb ⊢
    have h1 := (hqb a (by simp)).1
    have h2 := (hqb e (by simp)).2
    simp only [List.pairwise_cons, List.mem_cons, List.not_mem_nil, or_false, forall_eq_or_imp, forall_eq] at hqp
    exact chk_all h1 hqp.1.1 hqp.2.1.1 hqp.2.2.1.1 hqp.2.2.2.1 h2
  have hRm : R' = (rG (sumL ((s.map pr).getD · 0)) [0, 1, 2, 3, 4] 3).map (List.map fun m => s.getD m 5) := by
    have e := rG_map (fun m => s.getD m 5) (sumL pr) [0, 1, 2, 3, 4] 3
    rw [show [0, 1, 2, 3, 4].map (fun m => s.getD m 5) = s from hg, ← hR] at e
    have e2 : (fun l : List Nat => sumL pr (l.map fun m => s.getD m 5)) = sumL ((s.map pr).getD · 0) := funext fun l => sumL_map (fun m => s.getD m 5) hpg l
    rw [e2] at e
    exact e
  have hRmem : ∀ x ∈ (rG (sumL ((s.map pr).getD · 0)) [0, 1, 2, 3, 4] 3).flatten, x < 5 := fun x hx => by
    obtain ⟨l, hl, hx⟩ := List.mem_flatten.mp hx
    have := rG_mem _ _ 3 l hl x hx
    simp only [List.mem_cons, List.not_mem_nil, or_false] at this
    k_extra "o"
  unfold chk at hC
  simp only [Bool.and_eq_true, beq_iff_eq, List.all_eq_true] at hC
  revert hRm hRmem hC
  generalize rG (sumL ((s.map pr).getD · 0)) [0, 1, 2, 3, 4] 3 = R
  intro hRm hRmem hC
  obtain ⟨⟨⟨⟨c1, c2⟩, c3⟩, c4⟩, c5⟩ := hC
  have hF : R'.flatten = R.flatten.map fun m => s.getD m 5 := by rw [hRm, List.map_flatten]
  have hcnt : ∀ m < 5, R'.flatten.count (s.getD m 5) = R.flatten.count m := fun m hm => by
    rw [hF]
    unfold List.count
    rw [List.countP_map]
    refine List.countP_congr fun x hx => ?_
    have hx5 := hRmem x hx
    show (s.getD x 5 == s.getD m 5) = true ↔ (x == m) = true
    rw [beq_iff_eq, beq_iff_eq]
    exact ⟨hinj x hx5 m hm, fun e => by rw [e]⟩
  have hsum : ∀ f : Nat → Nat → Nat, ((List.range 5).map fun k => f (pr k) (R'.flatten.count k)).sum = ([0, 1, 2, 3, 4].map fun m => f ((s.map pr).getD m 0) (R.flatten.count m)).sum := fun f => by
    rw [← (hs.map fun k => f (pr k) (R'.flatten.count k)).sum_nat, ← hg, List.map_map]
    congr 1
    show (List.range 5).map _ = (List.range 5).map _
    refine List.map_congr_left fun m hm => ?_
    show f (pr (s.getD m 5)) (R'.flatten.count (s.getD m 5)) = _
    rw [hpg, hcnt m (List.mem_range.mp hm), hg]
  refine ⟨?_, fun k hk => ?_, ?_, ?_⟩
  · have e1 : R'.map (sumL pr) = R.map (sumL ((s.map pr).getD · 0)) := by
      rw [hRm, List.map_map]
      exact List.map_congr_left fun l _ => sumL_map (fun m => s.getD m 5) hpg l
    have e2 : R'.length = R.length := by rw [hRm, List.length_map]
    rw [e1, e2, c1, cheapL_is c2, FF_perm hq, cheapest_is h5]
  · have : k ∈ s := hs.mem_iff.mpr (List.mem_range.mpr hk)
    rw [← hg] at this
    obtain ⟨m, hm, rfl⟩ := List.mem_map.mp this
    have hm := List.mem_range.mp hm
    rw [hcnt m hm]
    have := c3 (R.flatten.count m) (List.mem_map.mpr ⟨m, by simp; k_extra "o", rfl⟩)
    rw [decide_eq_true_eq, decide_eq_true_eq] at this
    exact this
  · have := hsum fun _ n => 2 ^ (3 - n)
    rw [this]
    exact c4
  · have := hsum fun p n => p * n
    rw [show (fun k => ps.getD k 0 * R'.flatten.count k) = fun k => pr k * R'.flatten.count k from funext fun k => by rw [prE], this, c5, shortest_perm hq]
end MineV
end
end

section
noncomputable section
namespace MineV
open PySem PySem.W PyProof.Rows PySem.Calls PySem.Spec
open Mine (LexA LexT LexOk CodeOf tabL lexTl lexD tokT)
open Mine (nls wordL nls_app nls_count)
theorem toks_snoc (tx : Str) (n : Nat) (L : Lx) (l : List Str) (i : Nat) (ln : Int) (h : toks tx n L = (l, ⟨[], i, ln⟩)) (t : Str) (i' : Nat) (ln' : Int) (ht : tokT tx (tx.length + 1) i ln = (t, i', ln')) :
    toks tx (n + 1) L = (l ++ [t], ⟨[], i', ln'⟩) := by
  show ((toks tx n L).1 ++ [((toks tx n L).2.tok tx).1], ((toks tx n L).2.tok tx).2) = _
  rw [h]
  show (l ++ [(tokT tx (tx.length + 1) i ln).1], (⟨[], (tokT tx (tx.length + 1) i ln).2.1, (tokT tx (tx.length + 1) i ln).2.2⟩ : Lx)) = _
  rw [ht]
theorem read_all (tx : Str) (idx : List Nat) (ws : Nat → List Nat) (qb : Nat → Bool) (h5 : ∀ k ∈ idx, k < 5) (hw : ∀ k < 5, ws k ≠ [] ∧ ∀ c ∈ ws k, Mine.notWhite (Mine.one c) = false)
    (htx : tx.cps.toList = (idx.map fun k => ws k ++ wordL k (qb k)).flatten) :
    ∀ m, m ≤ idx.length → ∃ i d, toks tx m Lx0 = ((idx.take m).map fun k => Mine.strOf (Mine.nmL k), ⟨[], i, nls (tx.cps.toList.take i) 1⟩) ∧ i ≤ tx.length ∧ d ≤ 1 ∧ tx.cps.toList.drop i = (((idx.drop m).map fun k => ws k ++ wordL k (qb k)).flatten).drop d := by
  have hlen : tx.cps.toList.length = tx.length := Array.length_toList
  intro m
  induction m with
  | zero =>
    intro _
    exact ⟨0, 0, rfl, Nat.zero_le _, Nat.zero_le _, by rw [List.drop_zero, List.drop_zero, List.drop_zero, htx]⟩
  | succ m ih =>
    intro hm
    obtain ⟨i, d, e1, e2, e3, e4⟩ := ih (by k_extra "o")
    have hm' : m < idx.length := hm
    have hd : idx.drop m = idx[m] :: idx.drop (m + 1) := List.drop_eq_getElem_cons hm'
    have hk5 : idx[m] < 5 := h5 _ (List.getElem_mem hm')
    have hW := hw _ hk5
    have hW1 : 1 ≤ (ws idx[m]).length := List.length_pos_iff.mpr hW.1
    rw [hd, List.map_cons, List.flatten_cons, List.append_assoc, List.drop_append_of_le_length (by k_extra "o"), ← List.append_assoc] at e4
    have hr : (((idx.drop (m + 1)).map fun k => ws k ++ wordL k (qb k)).flatten) = [] ∨ ∃ z r, (((idx.drop (m + 1)).map fun k => ws k ++ wordL k (qb k)).flatten) = z :: r ∧ Mine.notWhite (Mine.one z) = false := by
      cases hc : idx.drop (m + 1) with
      | nil => exact .inl rfl
      | cons k r =>
        have hk : k < 5 := h5 k (List.mem_of_mem_drop (i := m + 1) (by rw [hc]; exact .head _))
        have hW2 := hw k hk
        cases hwk : ws k with
        | nil => exact absurd hwk hW2.1
        | cons z rz =>
          refine .inr ⟨z, rz ++ wordL k (qb k) ++ (r.map fun k => ws k ++ wordL k (qb k)).flatten, ?_, hW2.2 z (by rw [hwk]; exact .head _)⟩
          rw [List.map_cons, List.flatten_cons, hwk]; rfl
    obtain ⟨m', g1, g2, g3⟩ := Mine.tok_piece tx i (nls (tx.cps.toList.take i) 1) idx[m] (qb idx[m]) ((ws idx[m]).drop d) _ hk5 (fun c hc => hW.2 c (List.mem_of_mem_drop hc)) hr e4
    revert e4 g2 g3
    generalize (((idx.drop (m + 1)).map fun k => ws k ++ wordL k (qb k)).flatten) = rest
    generalize (ws idx[m]).drop d ++ wordL idx[m] (qb idx[m]) = front
    intro e4 g2 g3
    have e5 : front ++ rest = (front ++ rest.take m') ++ rest.drop m' := by rw [List.append_assoc, List.take_append_drop]
    have ln : (tx.cps.toList.drop i).length = (front ++ rest.take m').length + (rest.drop m').length := by rw [e4, e5, List.length_append]
    rw [List.length_drop, hlen] at ln
    refine ⟨i + (front ++ rest.take m').length, m', ?_, ?_, g1, ?_⟩
    · rw [toks_snoc tx m Lx0 _ _ _ e1 _ _ _ g3, List.take_add_one, List.getElem?_eq_getElem hm', List.map_append]
      congr 1
      congr 1
      rw [List.take_add, e4, e5, List.take_left]
      exact (nls_app _ _ _).symm
    · k_extra "o"
    · rw [← List.drop_drop, e4, e5, List.drop_left]
theorem read_end (tx : Str) (idx : List Nat) (ws : Nat → List Nat) (qb : Nat → Bool) (h5 : ∀ k ∈ idx, k < 5) (hw : ∀ k < 5, ws k ≠ [] ∧ ∀ c ∈ ws k, Mine.notWhite (Mine.one c) = false)
    (htx : tx.cps.toList = (idx.map fun k => ws k ++ wordL k (qb k)).flatten) :
    toks tx idx.length Lx0 = (idx.map fun k => Mine.strOf (Mine.nmL k), ⟨[], tx.length, 1 + (nlC tx tx.cps.size : Nat)⟩) ∧ ((toks tx idx.length Lx0).2.tok tx).1 = "" := by
  have hlen : tx.cps.toList.length = tx.length := Array.length_toList
  obtain ⟨i, d, e1, e2, e3, e4⟩ := read_all tx idx ws qb h5 hw htx idx.length (Nat.le_refl _)
  rw [List.drop_length, List.map_nil, List.flatten_nil, List.drop_nil] at e4
  have hi : i = tx.length := by
    have := List.drop_eq_nil_iff.mp e4
    k_extra "o"
  rw [List.take_length] at e1
  refine ⟨?_, ?_⟩
  · rw [e1, hi]
    congr 2
    rw [nls_count]
    rfl
  · rw [e1]
    show (tokT tx (tx.length + 1) i _).1 = ""
    rw [Mine.tokT_end tx _ i _ e2 e4]
theorem toks_back (tx : Str) (t : Str) (L' : Lx) (h : Lx0.tok tx = (t, L')) (hq : L'.q = []) : ∀ m, toks tx (m + 1) (L'.push t) = toks tx (m + 1) Lx0
  | 0 => by
    obtain ⟨q, i, ln⟩ := L'
    cases hq
    show (([] : List Str) ++ [t], (⟨[], i, ln⟩ : Lx)) = ([] ++ [(Lx0.tok tx).1], (Lx0.tok tx).2)
    rw [h]
  | m + 1 => by
    show ((toks tx (m + 1) (L'.push t)).1 ++ [((toks tx (m + 1) (L'.push t)).2.tok tx).1], ((toks tx (m + 1) (L'.push t)).2.tok tx).2) = _
    rw [toks_back tx t L' h hq m]; rfl
end MineV
end
end

section
noncomputable section
namespace MineV
open PySem PySem.W PyProof.Rows PySem.Calls PySem.Spec
open Mine (LexA LexT LexOk CodeOf tabL lexTl lexD tokT)
theorem white_facts (z : Int) : (whiteOf z).cps.toList ≠ [] ∧ (∀ c ∈ (whiteOf z).cps.toList, Mine.notWhite (Mine.one c) = false) ∧ PyData.strOk (whiteOf z) = true := by
  have a2 : 0 ≤ (z.fdiv 12).fmod 4 ∧ (z.fdiv 12).fmod 4 < 4 := ⟨Int.fmod_nonneg_of_pos _ (by decide), Int.fmod_lt_of_pos _ (by decide)⟩
  have b2 : 0 ≤ z.fmod 6 ∧ z.fmod 6 < 6 := ⟨Int.fmod_nonneg_of_pos _ (by decide), Int.fmod_lt_of_pos _ (by decide)⟩
  unfold whiteOf
  obtain ⟨a, ha⟩ := Int.eq_ofNat_of_zero_le a2.1
  obtain ⟨b, hb⟩ := Int.eq_ofNat_of_zero_le b2.1
  rw [ha] at a2 ⊢
  rw [hb] at b2 ⊢
  have a3 : a < 4 := by k_extra "o"
  have b3 : b < 6 := by k_extra "o"
  have key : ∀ a < 4, ∀ b < 6, ((Txt.mul (Txt.item " \t\r\n" ((a : Nat) : Int)) (1 + ((b : Nat) : Int))).cps.toList != [] && (Txt.mul (Txt.item " \t\r\n" ((a : Nat) : Int)) (1 + ((b : Nat) : Int))).cps.toList.all (fun c => !Mine.notWhite (Mine.one c)) && PyData.strOk (Txt.mul (Txt.item " \t\r\n" ((a : Nat) : Int)) (1 + ((b : Nat) : Int)))) = true := by decide +kernel
  have k := key a a3 b b3
  rw [Bool.and_eq_true, Bool.and_eq_true, bne_iff_ne, List.all_eq_true] at k
  refine ⟨k.1.1, fun c hc => ?_, k.2⟩
  have := k.1.2 c hc
  rw [Bool.not_eq_true'] at this
  exact this
theorem word_facts (k : Nat) (hk : k < 5) (z : Int) : (wordOf (nm5.getD k "") z).cps.toList = Mine.wordL k ((z.fdiv 6).fmod 2 == 1) ∧ PyData.strOk (wordOf (nm5.getD k "") z) = true := by
  unfold wordOf
  generalize ((z.fdiv 6).fmod 2 == 1) = q
  have key : ∀ k < 5, ∀ q : Bool, ((if q = true then "\"" ++ (if inQ (Txt.item (nm5.getD k "") 0) = true then "\\" ++ nm5.getD k "" else nm5.getD k "") ++ "\"" else "\\" ++ nm5.getD k "") : Str).cps.toList = Mine.wordL k q ∧ PyData.strOk (if q = true then "\"" ++ (if inQ (Txt.item (nm5.getD k "") 0) = true then "\\" ++ nm5.getD k "" else nm5.getD k "") ++ "\"" else "\\" ++ nm5.getD k "") = true := by decide +kernel
  exact key k hk q
theorem nm_facts : ∀ k < 5, Mine.strOf (Mine.nmL k) = nm5.getD k "" := by decide +kernel
theorem strP_cps : ∀ l : List (Str × Str), (strP l).cps.toList = (l.map fun q => q.1.cps.toList ++ q.2.cps.toList).flatten
  | [] => by
    show (("" : Str)).cps.toList = []
    decide +kernel
  | q :: r => by
    show ((q.1 ++ q.2) ++ strP r).cps.toList = _
    rw [List.map_cons, List.flatten_cons, ← strP_cps r]
    show ((q.1.cps ++ q.2.cps) ++ (strP r).cps).toList = _
    rw [Array.toList_append, Array.toList_append]
theorem rounds_rG (P : List (Str × Str)) : ∀ j, rounds P j = rG lenP P.reverse j
  | 0 => rfl
  | j + 1 => by
    show sortK lenP ((P.map fun q => [q]).reverse ++ pairL (rounds P j)) = sortK lenP (P.reverse.map (fun x => [x]) ++ pairL (rG lenP P.reverse j))
    rw [rounds_rG P j, List.map_reverse]
theorem nm5_count (ts : List Nat) (h : ∀ k ∈ ts, k < 5) : oft (ts.map fun k => nm5.getD k "") = (List.range 5).map fun k => ts.count k := by
  have d : ∀ i < 5, ∀ j < 5, (nm5.getD i "" == nm5.getD j "") = (i == j) := by decide +kernel
  have e : nm5 = (List.range 5).map fun k => nm5.getD k "" := by decide +kernel
  unfold oft
  conv => lhs; rw [e]
  rw [List.map_map]
  refine List.map_congr_left fun k hk => ?_
  have hk := List.mem_range.mp hk
  show List.count (nm5.getD k "") (ts.map fun k => ((List.range 5).map fun k => nm5.getD k "").getD k "") = _
  rw [← e]
  unfold List.count
  rw [List.countP_map]
  refine List.countP_congr fun x hx => ?_
  show (nm5.getD x "" == nm5.getD k "") = true ↔ (x == k) = true
  rw [d x (h x hx) k hk]
theorem reads_of (tx : Str) (idx : List Nat) (ws : Nat → List Nat) (qb : Nat → Bool) (h5 : ∀ k ∈ idx, k < 5) (hw : ∀ k < 5, ws k ≠ [] ∧ ∀ c ∈ ws k, Mine.notWhite (Mine.one c) = false)
    (htx : tx.cps.toList = (idx.map fun k => ws k ++ Mine.wordL k (qb k)).flatten) : Reads tx (idx.map fun k => nm5.getD k "") := by
  have hmap : ∀ l : List Nat, (∀ k ∈ l, k < 5) → (l.map fun k => Mine.strOf (Mine.nmL k)) = l.map fun k => nm5.getD k "" := fun l hl => List.map_congr_left fun k hk => nm_facts k (hl k hk)
  have hA := read_all tx idx ws qb h5 hw htx
  have htk : ∀ m, ∀ k ∈ idx.take m, k < 5 := fun m k hk => h5 k (List.mem_of_mem_take hk)
  refine ⟨fun m h => ?_, ?_, fun m h => ?_, fun m h => ?_, fun s hs => ?_⟩
  · have hm : m < idx.length := by rw [List.length_map] at h; exact h
    obtain ⟨i, d, e1, -⟩ := hA m (by k_extra "o")
    obtain ⟨i', d', e2, -⟩ := hA (m + 1) hm
    have e3 : (toks tx m Lx0).1 ++ [((toks tx m Lx0).2.tok tx).1] = (toks tx (m + 1) Lx0).1 := rfl
    rw [congrArg Prod.fst e1, congrArg Prod.fst e2, List.take_add_one, List.getElem?_eq_getElem hm, List.map_append] at e3
    have e4 := List.append_cancel_left e3
    have e5 : ((toks tx m Lx0).2.tok tx).1 = Mine.strOf (Mine.nmL idx[m]) := by injection e4
    rw [e5, List.getElem_map]
    exact nm_facts _ (h5 _ (List.getElem_mem hm))
  · rw [List.length_map]
    exact (read_end tx idx ws qb h5 hw htx).2
  · rw [List.length_map] at h
    obtain ⟨i, d, e1, e2, -⟩ := hA m h
    rw [congrArg Prod.snd e1]; exact e2
  · rw [List.length_map] at h
    obtain ⟨i, d, e1, -⟩ := hA m h
    rw [congrArg Prod.snd e1]
  · obtain ⟨k, hk, rfl⟩ := List.mem_map.mp hs
    have key : ∀ k < 5, nm5.getD k "" ∈ nm5 := by decide +kernel
    exact key k (h5 k hk)
theorem ready_of (tx : Str) (ws : Nat → List Nat) (qb : Nat → Bool) (hw : ∀ k < 5, ws k ≠ [] ∧ ∀ c ∈ ws k, Mine.notWhite (Mine.one c) = false)
    (htx : tx.cps.toList = ((List.range 5).map fun k => ws k ++ Mine.wordL k (qb k)).flatten) : Ready tx ((Lx0.tok tx).2.push (Lx0.tok tx).1) tx.length (1 + (nlC tx tx.cps.size : Nat)) := by
  have h5 : ∀ k ∈ List.range 5, k < 5 := fun k hk => List.mem_range.mp hk
  have hA := read_all tx (List.range 5) ws qb h5 hw htx
  rw [List.length_range] at hA
  have hE := read_end tx (List.range 5) ws qb h5 hw htx
  rw [List.length_range] at hE
  have hB := toks_back tx (Lx0.tok tx).1 (Lx0.tok tx).2 rfl rfl
  have names : ((List.range 5).map fun k => Mine.strOf (Mine.nmL k)) = nm5 := by decide +kernel
  refine ⟨?_, fun m hm => ?_, fun m hm => ?_⟩
  · rw [hB 4, hE.1, names]
  · cases m with
    | zero =>
      obtain ⟨i, d, e1, e2, -⟩ := hA 1 (by k_extra "o")
      have e3 : (toks tx 0 ((Lx0.tok tx).2.push (Lx0.tok tx).1)).2.i = (toks tx 1 Lx0).2.i := rfl
      rw [e3, congrArg Prod.snd e1]; exact e2
    | succ m =>
      obtain ⟨i, d, e1, e2, -⟩ := hA (m + 1) hm
      rw [hB m, congrArg Prod.snd e1]; exact e2
  · cases m with
    | zero => exact (by decide : 1 ≤ 5)
    | succ m =>
      obtain ⟨i, d, e1, e2, -⟩ := hA (m + 1) hm
      rw [hB m, congrArg Prod.snd e1]; exact Nat.zero_le _
theorem plain_of {ns : List Int} {its : List It} (h : Drawn ns its) : Plain its := by
  have hsm := drawn_small h
  have hpl : (its.map It.pr2).length = 5 := by rw [List.length_map, h.len]
  have hll : (its.map It.len).length = 5 := by rw [List.length_map, h.len]
  have at2 : ∀ k < 5, (its.map It.pr2).getD k ("", "") = (whiteOf (ns.getD k 0), wordOf (nm5.getD k "") (ns.getD k 0)) := fun k hk => by
    obtain ⟨it, e, ea, eb⟩ := h.at_ k hk
    rw [List.getD_eq_getElem?_getD, List.getElem?_map, e]
    show (it.a, it.b) = _
    rw [ea, eb]
  have hP : its.map It.pr2 = (List.range 5).map fun k => (its.map It.pr2).getD k ("", "") := by
    refine List.ext_getElem (by rw [hpl, List.length_map, List.length_range]) fun i h1 h2 => ?_
    rw [List.getElem_map (f := fun k => (its.map It.pr2).getD k ("", "")), List.getElem_range, List.getD_eq_getElem?_getD, List.getElem?_eq_getElem h1]; rfl
  have hln : ∀ k, (its.map It.len).getD k 0 = ((its.map It.pr2).getD k ("", "")).1.length + ((its.map It.pr2).getD k ("", "")).2.length := fun k => by
    rw [List.getD_eq_getElem?_getD, List.getD_eq_getElem?_getD, List.getElem?_map, List.getElem?_map]
    cases its[k]? with
    | none => rfl
    | some it => rfl
  have hbnd : ∀ p ∈ its.map It.len, 4 ≤ p ∧ p ≤ 11 := fun p hp => by
    obtain ⟨it, hit, rfl⟩ := List.mem_map.mp hp
    exact hsm.2 it hit
  have hok : ∀ q ∈ its.map It.pr2, PyData.strOk q.1 = true ∧ PyData.strOk q.2 = true := fun q hq => by
    rw [hP] at hq
    obtain ⟨k, hk, rfl⟩ := List.mem_map.mp hq
    have hk := List.mem_range.mp hk
    rw [at2 k hk]
    exact ⟨(white_facts _).2.2, (word_facts k hk _).2⟩
  have hw : ∀ k < 5, (whiteOf (ns.getD k 0)).cps.toList ≠ [] ∧ ∀ c ∈ (whiteOf (ns.getD k 0)).cps.toList, Mine.notWhite (Mine.one c) = false := fun k _ => ⟨(white_facts _).1, (white_facts _).2.1⟩
  have htx : ∀ idx : List Nat, (∀ k ∈ idx, k < 5) → (strP (idx.map fun k => (its.map It.pr2).getD k ("", ""))).cps.toList = (idx.map fun k => (whiteOf (ns.getD k 0)).cps.toList ++ Mine.wordL k (((ns.getD k 0).fdiv 6).fmod 2 == 1)).flatten := fun idx h5 => by
    rw [strP_cps, List.map_map]
    congr 1
    refine List.map_congr_left fun k hk => ?_
    have hk := h5 k hk
    show ((its.map It.pr2).getD k ("", "")).1.cps.toList ++ ((its.map It.pr2).getD k ("", "")).2.cps.toList = _
    rw [at2 k hk]
    show (whiteOf (ns.getD k 0)).cps.toList ++ (wordOf (nm5.getD k "") (ns.getD k 0)).cps.toList = _
    rw [(word_facts k hk _).1]
  obtain ⟨R', hR⟩ : ∃ R', R' = rG (sumL ((its.map It.len).getD · 0)) (List.range 5).reverse 3 := ⟨_, rfl⟩
  have hrd : rounds (its.map It.pr2) 3 = R'.map (List.map fun k => (its.map It.pr2).getD k ("", "")) := by
    rw [rounds_rG]
    conv => lhs; rw [hP]
    rw [← List.map_reverse, rG_map, hR]
    congr 2
    funext l
    unfold lenP sumL
    rw [List.map_map]
    congr 1
    exact List.map_congr_left fun k _ => (hln k).symm
  have hmem : ∀ k ∈ R'.flatten, k < 5 := fun k hk => by
    obtain ⟨l, hl, hx⟩ := List.mem_flatten.mp hk
    rw [hR] at hl
    exact List.mem_range.mp (List.mem_reverse.mp (rG_mem _ _ 3 l hl k hx))
  obtain ⟨r1, r2, r3, r4⟩ := rounds_plain (its.map It.len) hll hbnd R' hR
  refine ⟨hsm.1, hok, fun tx e => ?_, ?_, ?_⟩
  · refine ⟨tx.length, Nat.le_refl _, ready_of tx (fun k => (whiteOf (ns.getD k 0)).cps.toList) (fun k => ((ns.getD k 0).fdiv 6).fmod 2 == 1) hw ?_⟩
    rw [hP] at e
    rw [e]
    exact htx _ fun k hk => List.mem_range.mp hk
  · have e : (rounds (its.map It.pr2) 3).map lenP = R'.map (sumL ((its.map It.len).getD · 0)) := by
      rw [hrd, List.map_map]
      refine List.map_congr_left fun l _ => ?_
      show lenP (l.map _) = _
      unfold lenP sumL
      rw [List.map_map]
      congr 1
      exact List.map_congr_left fun k _ => (hln k).symm
    rw [e, hrd, List.length_map, r1]
  · refine ⟨R'.flatten.map fun k => nm5.getD k "", ?_, ?_, ?_, ?_⟩
    · rw [hrd, ← List.map_flatten]
      exact reads_of _ _ _ _ hmem hw (htx _ hmem)
    · rw [nm5_count _ hmem]
      intro m hm
      obtain ⟨k, hk, rfl⟩ := List.mem_map.mp hm
      exact r2 k (List.mem_range.mp hk)
    · rw [nm5_count _ hmem, List.map_map]
      exact r3
    · rw [nm5_count _ hmem, ← r4]
      rfl
end MineV
end
end

section
noncomputable section
namespace MineV
open PySem PySem.W PyProof.Rows PySem.Calls PySem.Spec
open Mine (LexA LexT LexOk CodeOf tabL lexTl lexD tokT)
section
variable {h : Heap} {sa : Addr} {n : Nat} {its : Array Value}
theorem hide_get {b : Addr} {o : Obj} (hs : h.get? sa = some (listOf its n)) (e : h.get? b = some o) (hn : o ≠ listOf its n) : (hideAll h [sa]).get? b = some o :=
  hideAll_get _ e fun q => by
    rw [List.mem_singleton.mp q, hs] at e
    exact hn (Option.some.inj e).symm
theorem hide_ns {a : Addr} {mm : Str → Option Value} (hs : h.get? sa = some (listOf its n)) (x : h.Ns a mm) : (hideAll h [sa]).Ns a mm :=
  let ⟨o, es, ep, e, hd, r⟩ := x; ⟨o, es, ep, hide_get hs e (fun q => by rw [q] at hd; cases hd), hd, r⟩
theorem hide_top {loose : List Str} {mean : ExcName → Option Value} {mg mb : Str → Option Value} (hs : h.get? sa = some (listOf its n)) (T : Top topProg loose mean mg mb h) : Top topProg loose mean mg mb (hideAll h [sa]) where
  g := hide_ns hs T.g
  b := hide_ns hs T.b
  nolimit := let ⟨mc, a, r⟩ := T.nolimit; ⟨mc, hide_ns hs a, r⟩
  nodigits := let ⟨mc, a, r⟩ := T.nodigits; ⟨mc, hide_ns hs a, r⟩
  fn := fun d hd => absurd (show d ∈ ([] : List DefRec) from hd) List.not_mem_nil
  own := fun o ho => absurd (show o ∈ ([] : List OwnSpec) from ho) List.not_mem_nil
  const := fun x d e => by cases (show (none : Option PyData) = some d from e)
  free := T.free
  builtins := T.builtins
  tab := fun d hd => absurd (show d ∈ ([] : List DefRec) from hd) List.not_mem_nil
  bmain := let ⟨bm, ob, a1, a2, a3, a4, r⟩ := T.bmain; ⟨bm, ob, a1, a2, hide_get hs a3 (fun q => by rw [q] at a4; exact absurd (show Value.type "list" = Value.type "module" from a4) (by decide)), a4, r⟩
  seer := fun e => absurd (show false = true from e) Bool.false_ne_true
noncomputable def noLists (K : Frag) : Bool := K.all fun p => match p.2.data with
  | .seq .. => (match p.2.cls with | .type x => !(x == "list") | _ => true)
  | _ => true
theorem hide_K {K : Frag} (hs : h.get? sa = some (listOf its n)) (X : K.In h) (hK : noLists K = true) : K.In (hideAll h [sa]) := fun a o e => by
  refine hide_get hs (X a o e) fun q => ?_
  have h2 := List.all_eq_true.mp hK (a, o) (mem_of_lookupK e)
  subst q
  exact absurd (show false = true from h2) Bool.false_ne_true
end
end MineV
end
end

section
namespace MineV
open PySem PySem.W PyProof.Rows PySem.Calls PySem.Spec
open Mine (Kf)
noncomputable abbrev tabs3 : List (Addr × Addr) := [(103, 99), (110, 106), (189, 185)]
theorem kf_tabs (P : Params) : noTabs (Kf P) = true := by kernel_rfl
theorem kf_lists (P : Params) : noLists (Kf P) = true := by kernel_rfl
theorem kf_tabsAt {P : Params} {h : Heap} (X : (Kf P).In h) (ht : ∀ q ∈ [99, 106, 185], h.get? q = some (tabObj #[])) : TabsAt tabs3 h :=
  List.forall_mem_cons.mpr ⟨⟨codeHd_of_K X (by kernel_rfl), ht 99 (.head _)⟩, List.forall_mem_cons.mpr ⟨⟨codeHd_of_K X (by kernel_rfl), ht 106 (.tail _ (.head _))⟩, List.forall_mem_cons.mpr ⟨⟨codeHd_of_K X (by kernel_rfl), ht 185 (.tail _ (.tail _ (.head _)))⟩, fun _ h => nomatch h⟩⟩⟩
theorem hd_of {w : World} {h : Heap} {p : Program} {loose : List Str} {mean : ExcName → Option Value} {mg mb : Str → Option Value} {sa : Addr} {n : Nat} {its : Array Value}
    (X : (Kf w.params).In h) (T : Top p loose mean mg mb h) (hT : TabsAt tabs3 h) (hs : h.get? sa = some (listOf its n)) : ∃ loose', Hd w (hideAll (ghostOf h tabs3) [sa]) loose' mean mg mb := by
  have hs' : (ghostOf h tabs3).get? sa = some (listOf its n) := ghost_get hT hs (fun q => by cases q)
  have X' : (Kf w.params).In (hideAll (ghostOf h tabs3) [sa]) := hide_K hs' (ghost_K hT X (kf_tabs _)) (kf_lists _)
  have nn : ∀ P ∈ tabs3.map (·.2), (hideAll (ghostOf h tabs3) [sa]).get? P = none := fun P hP => by
    cases q : (hideAll (ghostOf h tabs3) [sa]).get? P with
    | none => rfl
    | some o =>
      have := of_hideAll _ q
      rw [hideAll_none _ hP] at this
      cases this
  exact ⟨_, X', hide_top hs' (ghost_top hT T), codeHd_of_K X' (by kernel_rfl), nn 99 (.head _), codeHd_of_K X' (by kernel_rfl), nn 106 (.tail _ (.head _)), codeHd_of_K X' (by kernel_rfl), nn 185 (.tail _ (.tail _ (.head _)))⟩
theorem good_of {c : ClaimW} {cl : Str → Option Addr} {mean : ExcName → Option Value} {args : List WData} {s₁ s' : Shared} {sa : Addr} {o : Obj} (hT : TabsAt tabs3 s₁.heap) (hsa : s₁.heap.get? sa = some o)
    (hn : ∀ cls, c.raises args cls = false) (hp : c.post args (.bool true) args = true) {x1 x2 x3 : Array Value} {b₀ : Heap} (ho : s'.os = s₁.os) (hg : AllBare s'.gens)
    (hk : Kept [(99, tabObj #[]), (106, tabObj #[]), (185, tabObj #[]), (sa, o)] s₁.heap s'.heap) (hf : Fresh b₀ [(99, tabObj #[]), (106, tabObj #[]), (185, tabObj #[]), (sa, o)] [(99, tabObj x1), (106, tabObj x2), (185, tabObj x3), (sa, o)] s₁.heap s'.heap) :
    GoodWG c cl mean args s₁ (.ok (.ret (.bool true))) s' := by
  have grown : ∀ q ∈ tabs3, isCodeTable s₁.heap q.2 ∧ s₁.heap.get? q.2 = some (tabObj #[]) ∧ ∃ ps, s'.heap.get? q.2 = some (tabObj ps) := fun q hq => by
    refine ⟨((hT q hq).1.tab (hT q hq).2).isCodeTable, (hT q hq).2, ?_⟩
    rcases List.mem_cons.mp hq with rfl | hq
    · exact ⟨x1, (hf _ (.head _)).1⟩
    rcases List.mem_cons.mp hq with rfl | hq
    · exact ⟨x2, (hf _ (.tail _ (.head _))).1⟩
    rcases List.mem_cons.mp hq with rfl | hq
    · exact ⟨x3, (hf _ (.tail _ (.tail _ (.head _)))).1⟩
    · cases hq
  have hold : ∀ b o', s₁.heap.get? b = some o' → asItWas s₁.heap s'.heap b o' ∧ ∃ o', s'.heap.get? b = some o' := fun b o' e => by
    by_cases hb : b ∈ tabs3.map (·.2)
    · obtain ⟨q, hq, rfl⟩ := List.mem_map.mp hb
      obtain ⟨g1, g2, ps, g3⟩ := grown q hq
      rw [g2] at e
      cases e
      exact ⟨.inr (.inl ⟨g1, rfl, #[], ps, rfl, by rw [Array.empty_append]; exact g3⟩), _, g3⟩
    · by_cases hs : b = sa
      · subst hs
        rw [hsa] at e
        cases e
        have := (hf (b, o) (.tail _ (.tail _ (.tail _ (.head _))))).1
        exact ⟨.inl this, _, this⟩
      · have := hk b o' (fun hm => by
          rcases List.mem_cons.mp hm with e1 | hm
          · exact hb (e1 ▸ .head _)
          rcases List.mem_cons.mp hm with e1 | hm
          · exact hb (e1 ▸ .tail _ (.head _))
          rcases List.mem_cons.mp hm with e1 | hm
          · exact hb (e1 ▸ .tail _ (.tail _ (.head _)))
          · exact hs (List.mem_singleton.mp hm)) e
        exact ⟨.inl this, _, this⟩
  exact ⟨.inl ⟨.bool true, .bool true, [], rfl, hn, .bool true, hp, unshared_nil⟩, ⟨fun b o' e => (hold b o' e).1, fun b o' e => (hold b o' e).2⟩, ho, hg⟩
theorem list_of_well {P : Params} {h : Heap} {a : Addr} {xs : List PyData} {its : Array Value} (W : Well P h (.ref a) (ofPy (.list xs))) (hL : h.IsList a its) : h.get? a = some (listOf its 0) := by
  have W' : Well P h (.ref a) (.list (ofPys xs)) := W
  cases W' with
  | list e _ =>
    obtain ⟨o, e1, _, n, e2⟩ := hL
    rw [e] at e1
    cases e1
    injection e2 with e3 e4
    rw [e, e3]
theorem run_law {w : World} {s₁ : Shared} {p : Program} {loose : List Str} {mean : ExcName → Option Value} {mg mb : Str → Option Value} {sa : Addr} {sv : List Value} {script : List Int} {c : ClaimW} {cl : Str → Option Addr} {args : List WData}
    (X : (Kf w.params).In s₁.heap) (T : Top p loose mean mg mb s₁.heap) (ht : ∀ q ∈ [99, 106, 185], s₁.heap.get? q = some (tabObj #[])) (hs : s₁.heap.get? sa = some (listOf sv.toArray 0)) (hI : IntsAre sv script) (hl : script.length ≤ 63) (hg : s₁.gens = #[])
    (hn : ∀ cls, c.raises args cls = false) (hp : c.post args (.bool true) args = true) : codeAny (model (G2 w).P w) callerA (.call (.ref 219) ⟨[.ref sa], []⟩) (GoodWG c cl mean args s₁) s₁ := by
  have hT := kf_tabsAt X ht
  obtain ⟨loose', H⟩ := hd_of X T hT hs
  have ne : ∀ q ∈ [99, 106, 185], sa ≠ q := fun q hq e => by
    have := ht q hq
    rw [← e, hs] at this
    cases this
  have hide : ∀ b o, (hideAll (ghostOf s₁.heap tabs3) [sa]).get? b = some o → s₁.heap.get? b = some o := fun b o e => of_hideAll _ (of_hideAll _ e)
  refine law_fc H sa sv 0 script (fun _ _ => plain_of) hI hl (1 + claimMargin) 4 (some []) [] s₁ (fun v tl' => v = .bool true ∧ ∃ x1 x2 x3, tl' = [(99, tabObj x1), (106, tabObj x2), (185, tabObj x3), (sa, listOf sv.toArray 0)]) _ ⟨trivial, fun _ h => (nomatch h), hide, fun q hq => ?cells⟩ ?nd (.of_eq hg) (by decide) (by decide) (fun x1 x2 x3 => ⟨rfl, x1, x2, x3, rfl⟩) ?fin
  case cells =>
    rcases List.mem_cons.mp hq with rfl | hq
    · exact ⟨ht 99 (.head _), H.n1⟩
    rcases List.mem_cons.mp hq with rfl | hq
    · exact ⟨ht 106 (.tail _ (.head _)), H.n2⟩
    rcases List.mem_cons.mp hq with rfl | hq
    · exact ⟨ht 185 (.tail _ (.tail _ (.head _))), H.n3⟩
    · rw [List.mem_singleton.mp hq]
      exact ⟨hs, hideAll_none _ (.head _)⟩
  case nd =>
    refine ND.cons.mpr ⟨fun q hq => ?_, ND.cons.mpr ⟨fun q hq => ?_, ND.cons.mpr ⟨fun q hq => ?_, ND.cons.mpr ⟨fun q hq => (nomatch hq), ND.nil⟩⟩⟩⟩
    · rcases List.mem_cons.mp hq with rfl | hq
      · decide
      rcases List.mem_cons.mp hq with rfl | hq
      · decide
      · rw [List.mem_singleton.mp hq]; exact ne 99 (.head _)
    · rcases List.mem_cons.mp hq with rfl | hq
      · decide
      · rw [List.mem_singleton.mp hq]; exact ne 106 (.tail _ (.head _))
    · rw [List.mem_singleton.mp hq]; exact ne 185 (.tail _ (.tail _ (.head _)))
  case fin =>
    rintro v tl' s' ⟨rfl, x1, x2, x3, rfl⟩ _ _ hos hgen kept fresh
    exact good_of hT hs hn hp hos hgen kept fresh
end MineV
example : True := by
  k_with_none
  k_with "o" => first | assumption | (apply Mine.le_up; assumption; exact rfl) | (apply Mine.le_dn; assumption; exact rfl) | lia | omega
  trivial
theorem PySem.Challenge.cw_tl0016_02_holds : PySem.Challenge.rw_tl0016_02.Holds := by
  w_on
  refine holds_law (by kernel_rfl) fun said => ?_
  refine PySem.W.holds_open (q := Mine.qv) (loose := Mine.loosev) (Xt := fun s => xlAt Mine.qv [] s && recOk (RowW.records PySem.Challenge.rw_tl0016_02.row.toRowW) s) (XP := XL Mine.qv []) (Yf := Mine.Hk.obs) (Ya := Mine.Hk.val) (YP := Mine.Hk.says) (N := 2600) Mine.left (Hook.of Mine.Hk) (Hook.keeps Mine.Hk) (fun s e => xl_of s (Bool.and_eq_true_iff.mp e).1) XL.keeps (by rfl) (by rfl) (by rfl) (fun s e => recFacts_of (Bool.and_eq_true_iff.mp e).2) (by rfl) said (by decide +kernel) ⟨rfl, rfl, rfl, rfl, rfl, by decide +kernel⟩ ?hw ?hc
  case hw => w_witness2
  case hc =>
    k_fill
    intro w s₀ s₁ mg mb G Y fa o pm cd doc dV kV ho hd hcd hD hmg hg args vals as hpre hlay hrd hwl hlo
    have KX := km_in_of Y
    have hT8 := km_tabs_of Y
    refine Ground.open G ?_
    intro T B D TE TW
    wrow_args hpre hlay hrd hwl hlo
    all_goals first | refine callC_kw (enter_call ?_) | refine enter_call ?_
    rename IntsAre _ _ => hI
    rename Well _ _ _ _ => w1
    rename Heap.IsList _ _ _ => hL
    rename ¬ _ < _ => hlt
    have hfa : fa = 219 := by
      have e : mg "law" = some (.ref 219) := mg_of KX (Top.g T) (by kernel_rfl)
      have hmg' : mg "law" = some (.ref fa) := hmg
      rw [hmg'] at e
      cases e; rfl
    subst hfa
    exact MineV.run_law KX T hT8 (MineV.list_of_well w1 hL) hI (by k_extra "o") hg (raisesW_false (by wrow_none_raised)) (by kc_post)
end
end
