import PyProof.Rows.All
import PyProof.FactsAll.list_2
import PyProof.FactsAll.list_4
import PyProof.FactsAll.list
import PyProof.AttrMissHeap
import PyProof.CallStr
import PyProof.FactsAll.range_2
import PyProof.CollectWalk
import PyProof.SeqRoads2
import PyProof.EnumMake
import PyProof.FactsAll.set_1
import PyProof.FactsAll.set
import PyProof.WalksMore
import PyProof.ZipIter
import PyProof.WalksPairs
import PyProof.Rows.FStr
import PyProof.Rows.StrInSeq3
import PyProof.Rows.StrWeight2
import PyProof.Rows.ListMul
import PyProof.Rows.RuleB_and
import PyProof.Rows.RuleB_bool
import PyProof.Rows.RuleB_small
import PyProof.Rows.CountFlat
import PyProof.Rows.StrItemMod
import KE.KAnyBase
import KE.KUnpack
import KE.LcSums
import KE.KCallOwn
import KE.KListMore
import KE.LcTurns
import KE.KEqSeq
import KE.KEqDat
import KE.KExtendNil
import KE.KSliceW
import KE.KSorted
import KE.KPairComp
import KE.KPopAny
import KE.KRevIter
import KE.KRevSl
import KE.KSortAsk
import KE.TryLedger
import Wide.FinOn
import OpenK.AllK
import Wide.All
import Lean
import PySem.Challenge.RW_oy0120_01
set_option Elab.async false
-- Head
section
open PySem PySem.W PyProof.Rows
set_option maxRecDepth 100000
set_option maxHeartbeats 8000000
namespace Mine
noncomputable abbrev hdRow : OpenRow := PySem.Challenge.rw_oy0120_01.row
/-- what a def of the text bears: its parameters, body and scope; each is read off the given program -/
structure HdFD where
  a : Arguments
  b : List Stmt
  c : Scope
noncomputable def hdFdOf : Stmt → Option HdFD
  | .FunctionDef _ a b _ _ _ c _ _ _ => some ⟨a, b, c⟩
  | _ => none
noncomputable def hdAt1 (i : Nat) : Option HdFD := PySem.Challenge.pw_oy0120_01.main.body[i]?.bind hdFdOf
noncomputable def hdAt2 (i j : Nat) : Option HdFD := PySem.Challenge.pw_oy0120_01.main.body[i]?.bind fun
  | .ClassDef _ _ _ b _ _ _ _ _ _ _ => b[j]?.bind hdFdOf
  | _ => none
noncomputable def hdF0 : {x : HdFD // hdAt1 0 = some x} := ⟨⟨_, _, _⟩, rfl⟩
noncomputable def hdF2_0 : {x : HdFD // hdAt2 2 0 = some x} := ⟨⟨_, _, _⟩, rfl⟩
noncomputable def hdF2_1 : {x : HdFD // hdAt2 2 1 = some x} := ⟨⟨_, _, _⟩, rfl⟩
noncomputable def hdF2_2 : {x : HdFD // hdAt2 2 2 = some x} := ⟨⟨_, _, _⟩, rfl⟩
noncomputable def hdF2_3 : {x : HdFD // hdAt2 2 3 = some x} := ⟨⟨_, _, _⟩, rfl⟩
noncomputable def hdF3 : {x : HdFD // hdAt1 3 = some x} := ⟨⟨_, _, _⟩, rfl⟩
noncomputable def hdF5 : {x : HdFD // hdAt1 5 = some x} := ⟨⟨_, _, _⟩, rfl⟩
noncomputable def hdF6 : {x : HdFD // hdAt1 6 = some x} := ⟨⟨_, _, _⟩, rfl⟩
noncomputable def hdF7 : {x : HdFD // hdAt1 7 = some x} := ⟨⟨_, _, _⟩, rfl⟩
noncomputable def hdF8 : {x : HdFD // hdAt1 8 = some x} := ⟨⟨_, _, _⟩, rfl⟩
noncomputable def hdF9 : {x : HdFD // hdAt1 9 = some x} := ⟨⟨_, _, _⟩, rfl⟩
noncomputable def hdF11 : {x : HdFD // hdAt1 11 = some x} := ⟨⟨_, _, _⟩, rfl⟩
noncomputable def hdF12 : {x : HdFD // hdAt1 12 = some x} := ⟨⟨_, _, _⟩, rfl⟩
noncomputable def hdF14 : {x : HdFD // hdAt1 14 = some x} := ⟨⟨_, _, _⟩, rfl⟩
noncomputable def hdF15 : {x : HdFD // hdAt1 15 = some x} := ⟨⟨_, _, _⟩, rfl⟩
noncomputable def hdF16 : {x : HdFD // hdAt1 16 = some x} := ⟨⟨_, _, _⟩, rfl⟩
noncomputable def hdF17 : {x : HdFD // hdAt1 17 = some x} := ⟨⟨_, _, _⟩, rfl⟩
noncomputable def hdF18 : {x : HdFD // hdAt1 18 = some x} := ⟨⟨_, _, _⟩, rfl⟩
noncomputable def hdF19 : {x : HdFD // hdAt1 19 = some x} := ⟨⟨_, _, _⟩, rfl⟩
noncomputable def hdF20 : {x : HdFD // hdAt1 20 = some x} := ⟨⟨_, _, _⟩, rfl⟩

noncomputable def hdK : Params → Frag := fun P => [
  (2, (.mk .none none (.dict #[] 0) #[])),
  (3, (.mk (.type "dict") none (.dict #[(.mk (PyData.keyHash P (.ofString "__name__")) (.str (.ofString "__name__") 165) (.str (.ofString "law_oy0120_01") 336)), (.mk (PyData.keyHash P (.ofString "__doc__")) (.str (.ofString "__doc__") 166) .none), (.mk (PyData.keyHash P (.ofString "__package__")) (.str (.ofString "__package__") 167) .none), (.mk (PyData.keyHash P (.ofString "__loader__")) (.str (.ofString "__loader__") 168) (.builtin "__main__.__loader__#opaque")), (.mk (PyData.keyHash P (.ofString "__spec__")) (.str (.ofString "__spec__") 169) .none), (.mk (PyData.keyHash P (.ofString "__annotations__")) (.str (.ofString "__annotations__") 170) (.ref 6)), (.mk (PyData.keyHash P (.ofString "__builtins__")) (.str (.ofString "__builtins__") 171) (.ref 4)), (.mk (PyData.keyHash P (.ofString "__file__")) (.str (.ofString "__file__") 173) (.str (.ofString "/claim/cut.py") 172)), (.mk (PyData.keyHash P (.ofString "__cached__")) (.str (.ofString "__cached__") 174) .none), (.mk (PyData.keyHash P (.ofString "_wall")) (.str (.ofString "_wall") 193) (.ref 21)), (.mk (PyData.keyHash P (.ofString "Entry")) (.str (.ofString "Entry") 252) (.ref 59)), (.mk (PyData.keyHash P (.ofString "merge_entries")) (.str (.ofString "merge_entries") 261) (.ref 70)), (.mk (PyData.keyHash P (.ofString "heappop")) (.str (.ofString "heappop") 272) (.ref 77)), (.mk (PyData.keyHash P (.ofString "heapreplace")) (.str (.ofString "heapreplace") 281) (.ref 84)), (.mk (PyData.keyHash P (.ofString "heapify")) (.str (.ofString "heapify") 290) (.ref 91)), (.mk (PyData.keyHash P (.ofString "_siftdown")) (.str (.ofString "_siftdown") 302) (.ref 98)), (.mk (PyData.keyHash P (.ofString "_siftup")) (.str (.ofString "_siftup") 315) (.ref 105)), (.mk (PyData.keyHash P (.ofString "unorderable_list_difference")) (.str (.ofString "unorderable_list_difference") 327) (.ref 112)), (.mk (PyData.keyHash P (.ofString "three_way_cmp")) (.str (.ofString "three_way_cmp") 335) (.ref 119)), (.mk (PyData.keyHash P (.ofString "_law_parts")) (.str (.ofString "_law_parts") 343) (.ref 124)), (.mk (PyData.keyHash P (.ofString "_law_record")) (.str (.ofString "_law_record") 353) (.ref 131)), (.mk (PyData.keyHash P (.ofString "_law_merged")) (.str (.ofString "_law_merged") 359) (.ref 136)), (.mk (PyData.keyHash P (.ofString "_law_due")) (.str (.ofString "_law_due") 365) (.ref 141)), (.mk (PyData.keyHash P (.ofString "_law_least")) (.str (.ofString "_law_least") 371) (.ref 146)), (.mk (PyData.keyHash P (.ofString "_law_lacks")) (.str (.ofString "_law_lacks") 377) (.ref 151)), (.mk (PyData.keyHash P (.ofString "law")) (.str (.ofString "law") 383) (.ref 156))] 26) #[])),
  (15, (.mk (.type "tuple") none (.seq #[] 0) #[])),
  (17, (.mk (.type "tuple") none (.seq #[(.str (.ofString "k") 190)] 0) #[])),
  (18, (.mk (.type "tuple") none (.seq #[] 0) #[])),
  (20, (.mk (.type "code") none (.fields #[(.str (.ofString "_wall") 187), (.str (.ofString "_wall") 188), (.str (.ofString "/claim/cut.py") 189), (.int 1 0), (.int 1 0), (.int 0 0), (.int 0 0), (.int 3 0), (.ref 15), (.bool true), (.int 181 0), (.ref 16), .none, (.ref 17), (.ref 18), (.ref 19), (.int 191 0), (.int 1 0), (.str (.ofString "/claim/cut.py") 192)]) #[])),
  (21, (.mk (.type "function") none (.func (.mk (.ofString "_wall") (.ofString "_wall") hdF0.1.a (.stmts hdF0.1.b) hdF0.1.c 3 [] .none .none .none (.str (.ofString "__main__") 164) none (.ref 20) .none 0)) #[])),
  (29, (.mk (.type "tuple") none (.seq #[] 0) #[])),
  (31, (.mk (.type "tuple") none (.seq #[(.str (.ofString "self") 211)] 0) #[])),
  (32, (.mk (.type "tuple") none (.seq #[] 0) #[])),
  (34, (.mk (.type "code") none (.fields #[(.str (.ofString "__init__") 208), (.str (.ofString "Entry.__init__") 209), (.str (.ofString "/claim/cut.py") 210), (.int 7 0), (.int 1 0), (.int 0 0), (.int 0 0), (.int 3 0), (.ref 29), (.bool true), (.int 181 0), (.ref 30), .none, (.ref 31), (.ref 32), (.ref 33), (.int 212 0), (.int 7 0), (.str (.ofString "/claim/cut.py") 213)]) #[])),
  (35, (.mk (.type "function") none (.func (.mk (.ofString "__init__") (.ofString "Entry.__init__") hdF2_0.1.a (.stmts hdF2_0.1.b) hdF2_0.1.c 3 [] .none .none .none (.str (.ofString "cpy313.urllib.robotparser") 194) none (.ref 34) .none 0)) #[])),
  (36, (.mk (.type "tuple") none (.seq #[] 0) #[])),
  (38, (.mk (.type "tuple") none (.seq #[(.str (.ofString "self") 218), (.str (.ofString "ret") 219), (.str (.ofString "agent") 220), (.str (.ofString "rate") 221)] 0) #[])),
  (39, (.mk (.type "tuple") none (.seq #[] 0) #[])),
  (41, (.mk (.type "code") none (.fields #[(.str (.ofString "__str__") 215), (.str (.ofString "Entry.__str__") 216), (.str (.ofString "/claim/cut.py") 217), (.int 13 0), (.int 1 0), (.int 0 0), (.int 0 0), (.int 3 0), (.ref 36), (.bool true), (.int 181 0), (.ref 37), .none, (.ref 38), (.ref 39), (.ref 40), (.int 222 0), (.int 13 0), (.str (.ofString "/claim/cut.py") 223)]) #[])),
  (42, (.mk (.type "function") none (.func (.mk (.ofString "__str__") (.ofString "Entry.__str__") hdF2_1.1.a (.stmts hdF2_1.1.b) hdF2_1.1.c 3 [] .none .none .none (.str (.ofString "cpy313.urllib.robotparser") 194) none (.ref 41) .none 0)) #[])),
  (43, (.mk (.type "tuple") none (.seq #[] 0) #[])),
  (45, (.mk (.type "tuple") none (.seq #[(.str (.ofString "self") 228), (.str (.ofString "useragent") 229)] 0) #[])),
  (46, (.mk (.type "tuple") none (.seq #[] 0) #[])),
  (48, (.mk (.type "code") none (.fields #[(.str (.ofString "applies_to") 225), (.str (.ofString "Entry.applies_to") 226), (.str (.ofString "/claim/cut.py") 227), (.int 30 0), (.int 2 0), (.int 0 0), (.int 0 0), (.int 3 0), (.ref 43), (.bool true), (.int 181 0), (.ref 44), .none, (.ref 45), (.ref 46), (.ref 47), (.int 230 0), (.int 30 0), (.str (.ofString "/claim/cut.py") 231)]) #[])),
  (49, (.mk (.type "function") none (.func (.mk (.ofString "applies_to") (.ofString "Entry.applies_to") hdF2_2.1.a (.stmts hdF2_2.1.b) hdF2_2.1.c 3 [] .none .none .none (.str (.ofString "cpy313.urllib.robotparser") 194) none (.ref 48) .none 0)) #[])),
  (50, (.mk (.type "tuple") none (.seq #[] 0) #[])),
  (52, (.mk (.type "tuple") none (.seq #[(.str (.ofString "self") 236), (.str (.ofString "filename") 237)] 0) #[])),
  (53, (.mk (.type "tuple") none (.seq #[] 0) #[])),
  (55, (.mk (.type "code") none (.fields #[(.str (.ofString "allowance") 233), (.str (.ofString "Entry.allowance") 234), (.str (.ofString "/claim/cut.py") 235), (.int 33 0), (.int 2 0), (.int 0 0), (.int 0 0), (.int 3 0), (.ref 50), (.bool true), (.int 181 0), (.ref 51), .none, (.ref 52), (.ref 53), (.ref 54), (.int 238 0), (.int 33 0), (.str (.ofString "/claim/cut.py") 239)]) #[])),
  (56, (.mk (.type "function") none (.func (.mk (.ofString "allowance") (.ofString "Entry.allowance") hdF2_3.1.a (.stmts hdF2_3.1.b) hdF2_3.1.c 3 [] .none .none .none (.str (.ofString "cpy313.urllib.robotparser") 194) none (.ref 55) .none 0)) #[])),
  (57, (.mk (.type "tuple") none (.seq #[(.str (.ofString "delay") 241), (.str (.ofString "req_rate") 242), (.str (.ofString "rulelines") 243), (.str (.ofString "useragents") 244)] 0) #[])),
  (58, (.mk (.type "dict") none (.dict #[(.mk (PyData.keyHash P (.ofString "__module__")) (.str (.ofString "__module__") 203) (.str (.ofString "cpy313.urllib.robotparser") 194)), (.mk (PyData.keyHash P (.ofString "__firstlineno__")) (.str (.ofString "__firstlineno__") 207) (.int 5 206)), (.mk (PyData.keyHash P (.ofString "__init__")) (.str (.ofString "__init__") 214) (.ref 35)), (.mk (PyData.keyHash P (.ofString "__str__")) (.str (.ofString "__str__") 224) (.ref 42)), (.mk (PyData.keyHash P (.ofString "applies_to")) (.str (.ofString "applies_to") 232) (.ref 49)), (.mk (PyData.keyHash P (.ofString "allowance")) (.str (.ofString "allowance") 240) (.ref 56)), (.mk (PyData.keyHash P (.ofString "__static_attributes__")) (.str (.ofString "__static_attributes__") 245) (.ref 57)), (.mk (PyData.keyHash P (.ofString "__dict__")) (.str (.ofString "__dict__") 247) (.ref 60)), (.mk (PyData.keyHash P (.ofString "__weakref__")) (.str (.ofString "__weakref__") 249) (.ref 61)), (.mk (PyData.keyHash P (.ofString "__doc__")) (.str (.ofString "__doc__") 250) .none)] 4) #[])),
  (59, (.mk (.type "type") none (.cls (.mk (.ofString "Entry") [(.type "object")] [(.ref 59), (.type "object")] 58 (.ofString "Entry") true [] [] false none false)) #[none, none, (some (.str (.ofString "Entry") 196)), (some (.str (.ofString "Entry") 204)), (some (.builtin "object.__new__")), (some (.bool true))])),
  (60, (.mk (.type "getset_descriptor") none (.fields #[(.str (.ofString "__dict__") 246), (.ref 59), (.builtin "function.__dict__"), (.builtin "function.__dict__#set")]) #[])),
  (61, (.mk (.type "getset_descriptor") none (.fields #[(.str (.ofString "__weakref__") 248), (.ref 59), (.builtin "ExceptionGroup.__weakref__"), .none]) #[])),
  (64, (.mk (.type "tuple") none (.seq #[] 0) #[])),
  (66, (.mk (.type "tuple") none (.seq #[(.str (.ofString "e1") 256), (.str (.ofString "e2") 257), (.str (.ofString "entry") 258)] 0) #[])),
  (67, (.mk (.type "tuple") none (.seq #[] 0) #[])),
  (69, (.mk (.type "code") none (.fields #[(.str (.ofString "merge_entries") 253), (.str (.ofString "merge_entries") 254), (.str (.ofString "/claim/cut.py") 255), (.int 35 0), (.int 2 0), (.int 0 0), (.int 0 0), (.int 3 0), (.ref 64), (.bool true), (.int 181 0), (.ref 65), .none, (.ref 66), (.ref 67), (.ref 68), (.int 259 0), (.int 35 0), (.str (.ofString "/claim/cut.py") 260)]) #[])),
  (70, (.mk (.type "function") none (.func (.mk (.ofString "merge_entries") (.ofString "merge_entries") hdF3.1.a (.stmts hdF3.1.b) hdF3.1.c 3 [] .none .none .none (.str (.ofString "cpy313.urllib.robotparser") 194) none (.ref 69) .none 0)) #[])),
  (71, (.mk (.type "tuple") none (.seq #[] 0) #[])),
  (73, (.mk (.type "tuple") none (.seq #[(.str (.ofString "heap") 267), (.str (.ofString "lastelt") 268), (.str (.ofString "returnitem") 269)] 0) #[])),
  (74, (.mk (.type "tuple") none (.seq #[] 0) #[])),
  (76, (.mk (.type "code") none (.fields #[(.str (.ofString "heappop") 264), (.str (.ofString "heappop") 265), (.str (.ofString "/claim/cut.py") 266), (.int 43 0), (.int 1 0), (.int 0 0), (.int 0 0), (.int 3 0), (.ref 71), (.bool true), (.int 181 0), (.ref 72), .none, (.ref 73), (.ref 74), (.ref 75), (.int 270 0), (.int 43 0), (.str (.ofString "/claim/cut.py") 271)]) #[])),
  (77, (.mk (.type "function") none (.func (.mk (.ofString "heappop") (.ofString "heappop") hdF5.1.a (.stmts hdF5.1.b) hdF5.1.c 3 [] .none .none .none (.str (.ofString "cpy313.heapq") 262) none (.ref 76) .none 0)) #[])),
  (78, (.mk (.type "tuple") none (.seq #[] 0) #[])),
  (80, (.mk (.type "tuple") none (.seq #[(.str (.ofString "heap") 276), (.str (.ofString "item") 277), (.str (.ofString "returnitem") 278)] 0) #[])),
  (81, (.mk (.type "tuple") none (.seq #[] 0) #[])),
  (83, (.mk (.type "code") none (.fields #[(.str (.ofString "heapreplace") 273), (.str (.ofString "heapreplace") 274), (.str (.ofString "/claim/cut.py") 275), (.int 51 0), (.int 2 0), (.int 0 0), (.int 0 0), (.int 3 0), (.ref 78), (.bool true), (.int 181 0), (.ref 79), .none, (.ref 80), (.ref 81), (.ref 82), (.int 279 0), (.int 51 0), (.str (.ofString "/claim/cut.py") 280)]) #[])),
  (84, (.mk (.type "function") none (.func (.mk (.ofString "heapreplace") (.ofString "heapreplace") hdF6.1.a (.stmts hdF6.1.b) hdF6.1.c 3 [] .none .none .none (.str (.ofString "cpy313.heapq") 262) none (.ref 83) .none 0)) #[])),
  (85, (.mk (.type "tuple") none (.seq #[] 0) #[])),
  (87, (.mk (.type "tuple") none (.seq #[(.str (.ofString "x") 285), (.str (.ofString "n") 286), (.str (.ofString "i") 287)] 0) #[])),
  (88, (.mk (.type "tuple") none (.seq #[] 0) #[])),
  (90, (.mk (.type "code") none (.fields #[(.str (.ofString "heapify") 282), (.str (.ofString "heapify") 283), (.str (.ofString "/claim/cut.py") 284), (.int 56 0), (.int 1 0), (.int 0 0), (.int 0 0), (.int 3 0), (.ref 85), (.bool true), (.int 181 0), (.ref 86), .none, (.ref 87), (.ref 88), (.ref 89), (.int 288 0), (.int 56 0), (.str (.ofString "/claim/cut.py") 289)]) #[])),
  (91, (.mk (.type "function") none (.func (.mk (.ofString "heapify") (.ofString "heapify") hdF7.1.a (.stmts hdF7.1.b) hdF7.1.c 3 [] .none .none .none (.str (.ofString "cpy313.heapq") 262) none (.ref 90) .none 0)) #[])),
  (92, (.mk (.type "tuple") none (.seq #[] 0) #[])),
  (94, (.mk (.type "tuple") none (.seq #[(.str (.ofString "heap") 294), (.str (.ofString "startpos") 295), (.str (.ofString "pos") 296), (.str (.ofString "newitem") 297), (.str (.ofString "parentpos") 298), (.str (.ofString "parent") 299)] 0) #[])),
  (95, (.mk (.type "tuple") none (.seq #[] 0) #[])),
  (97, (.mk (.type "code") none (.fields #[(.str (.ofString "_siftdown") 291), (.str (.ofString "_siftdown") 292), (.str (.ofString "/claim/cut.py") 293), (.int 60 0), (.int 3 0), (.int 0 0), (.int 0 0), (.int 3 0), (.ref 92), (.bool true), (.int 181 0), (.ref 93), .none, (.ref 94), (.ref 95), (.ref 96), (.int 300 0), (.int 60 0), (.str (.ofString "/claim/cut.py") 301)]) #[])),
  (98, (.mk (.type "function") none (.func (.mk (.ofString "_siftdown") (.ofString "_siftdown") hdF8.1.a (.stmts hdF8.1.b) hdF8.1.c 3 [] .none .none .none (.str (.ofString "cpy313.heapq") 262) none (.ref 97) .none 0)) #[])),
  (99, (.mk (.type "tuple") none (.seq #[] 0) #[])),
  (101, (.mk (.type "tuple") none (.seq #[(.str (.ofString "heap") 306), (.str (.ofString "pos") 307), (.str (.ofString "endpos") 308), (.str (.ofString "startpos") 309), (.str (.ofString "newitem") 310), (.str (.ofString "childpos") 311), (.str (.ofString "rightpos") 312)] 0) #[])),
  (102, (.mk (.type "tuple") none (.seq #[] 0) #[])),
  (104, (.mk (.type "code") none (.fields #[(.str (.ofString "_siftup") 303), (.str (.ofString "_siftup") 304), (.str (.ofString "/claim/cut.py") 305), (.int 71 0), (.int 2 0), (.int 0 0), (.int 0 0), (.int 3 0), (.ref 99), (.bool true), (.int 181 0), (.ref 100), .none, (.ref 101), (.ref 102), (.ref 103), (.int 313 0), (.int 71 0), (.str (.ofString "/claim/cut.py") 314)]) #[])),
  (105, (.mk (.type "function") none (.func (.mk (.ofString "_siftup") (.ofString "_siftup") hdF9.1.a (.stmts hdF9.1.b) hdF9.1.c 3 [] .none .none .none (.str (.ofString "cpy313.heapq") 262) none (.ref 104) .none 0)) #[])),
  (106, (.mk (.type "tuple") none (.seq #[] 0) #[])),
  (108, (.mk (.type "tuple") none (.seq #[(.str (.ofString "expected") 321), (.str (.ofString "actual") 322), (.str (.ofString "missing") 323), (.str (.ofString "item") 324)] 0) #[])),
  (109, (.mk (.type "tuple") none (.seq #[] 0) #[])),
  (111, (.mk (.type "code") none (.fields #[(.str (.ofString "unorderable_list_difference") 318), (.str (.ofString "unorderable_list_difference") 319), (.str (.ofString "/claim/cut.py") 320), (.int 86 0), (.int 2 0), (.int 0 0), (.int 0 0), (.int 3 0), (.ref 106), (.bool true), (.int 181 0), (.ref 107), .none, (.ref 108), (.ref 109), (.ref 110), (.int 325 0), (.int 86 0), (.str (.ofString "/claim/cut.py") 326)]) #[])),
  (112, (.mk (.type "function") none (.func (.mk (.ofString "unorderable_list_difference") (.ofString "unorderable_list_difference") hdF11.1.a (.stmts hdF11.1.b) hdF11.1.c 3 [] .none .none .none (.str (.ofString "cpy313.unittest.util") 316) none (.ref 111) .none 0)) #[])),
  (113, (.mk (.type "tuple") none (.seq #[] 0) #[])),
  (115, (.mk (.type "tuple") none (.seq #[(.str (.ofString "x") 331), (.str (.ofString "y") 332)] 0) #[])),
  (116, (.mk (.type "tuple") none (.seq #[] 0) #[])),
  (118, (.mk (.type "code") none (.fields #[(.str (.ofString "three_way_cmp") 328), (.str (.ofString "three_way_cmp") 329), (.str (.ofString "/claim/cut.py") 330), (.int 95 0), (.int 2 0), (.int 0 0), (.int 0 0), (.int 3 0), (.ref 113), (.bool true), (.int 181 0), (.ref 114), .none, (.ref 115), (.ref 116), (.ref 117), (.int 333 0), (.int 95 0), (.str (.ofString "/claim/cut.py") 334)]) #[])),
  (119, (.mk (.type "function") none (.func (.mk (.ofString "three_way_cmp") (.ofString "three_way_cmp") hdF12.1.a (.stmts hdF12.1.b) hdF12.1.c 3 [] .none .none .none (.str (.ofString "cpy313.unittest.util") 316) none (.ref 118) .none 0)) #[])),
  (120, (.mk (.type "tuple") none (.seq #[] 0) #[])),
  (123, (.mk (.type "code") none (.fields #[(.str (.ofString "_law_parts") 338), (.str (.ofString "_law_parts") 339), (.str (.ofString "/claim/cut.py") 340), (.int 98 0), (.int 1 0), (.int 0 0), (.int 0 0), (.int 3 0), (.ref 120), (.bool true), (.int 181 0), (.ref 121), .none, .none, .none, (.ref 122), (.int 341 0), (.int 98 0), (.str (.ofString "/claim/cut.py") 342)]) #[])),
  (124, (.mk (.type "function") none (.func (.mk (.ofString "_law_parts") (.ofString "_law_parts") hdF14.1.a (.stmts hdF14.1.b) hdF14.1.c 3 [] .none .none .none (.str (.ofString "law_oy0120_01") 336) none (.ref 123) .none 0)) #[])),
  (125, (.mk (.type "tuple") none (.seq #[] 0) #[])),
  (127, (.mk (.type "tuple") none (.seq #[(.str (.ofString "agents") 347), (.str (.ofString "delay") 348), (.str (.ofString "rules") 349), (.str (.ofString "record") 350)] 0) #[])),
  (128, (.mk (.type "tuple") none (.seq #[] 0) #[])),
  (130, (.mk (.type "code") none (.fields #[(.str (.ofString "_law_record") 344), (.str (.ofString "_law_record") 345), (.str (.ofString "/claim/cut.py") 346), (.int 102 0), (.int 3 0), (.int 0 0), (.int 0 0), (.int 3 0), (.ref 125), (.bool true), (.int 181 0), (.ref 126), .none, (.ref 127), (.ref 128), (.ref 129), (.int 351 0), (.int 102 0), (.str (.ofString "/claim/cut.py") 352)]) #[])),
  (131, (.mk (.type "function") none (.func (.mk (.ofString "_law_record") (.ofString "_law_record") hdF15.1.a (.stmts hdF15.1.b) hdF15.1.c 3 [] .none .none .none (.str (.ofString "law_oy0120_01") 336) none (.ref 130) .none 0)) #[])),
  (132, (.mk (.type "tuple") none (.seq #[] 0) #[])),
  (135, (.mk (.type "code") none (.fields #[(.str (.ofString "_law_merged") 354), (.str (.ofString "_law_merged") 355), (.str (.ofString "/claim/cut.py") 356), (.int 108 0), (.int 1 0), (.int 0 0), (.int 0 0), (.int 3 0), (.ref 132), (.bool true), (.int 181 0), (.ref 133), .none, .none, .none, (.ref 134), (.int 357 0), (.int 108 0), (.str (.ofString "/claim/cut.py") 358)]) #[])),
  (136, (.mk (.type "function") none (.func (.mk (.ofString "_law_merged") (.ofString "_law_merged") hdF16.1.a (.stmts hdF16.1.b) hdF16.1.c 3 [] .none .none .none (.str (.ofString "law_oy0120_01") 336) none (.ref 135) .none 0)) #[])),
  (137, (.mk (.type "tuple") none (.seq #[] 0) #[])),
  (140, (.mk (.type "code") none (.fields #[(.str (.ofString "_law_due") 360), (.str (.ofString "_law_due") 361), (.str (.ofString "/claim/cut.py") 362), (.int 117 0), (.int 1 0), (.int 0 0), (.int 0 0), (.int 3 0), (.ref 137), (.bool true), (.int 181 0), (.ref 138), .none, .none, .none, (.ref 139), (.int 363 0), (.int 117 0), (.str (.ofString "/claim/cut.py") 364)]) #[])),
  (141, (.mk (.type "function") none (.func (.mk (.ofString "_law_due") (.ofString "_law_due") hdF17.1.a (.stmts hdF17.1.b) hdF17.1.c 3 [] .none .none .none (.str (.ofString "law_oy0120_01") 336) none (.ref 140) .none 0)) #[])),
  (142, (.mk (.type "tuple") none (.seq #[] 0) #[])),
  (145, (.mk (.type "code") none (.fields #[(.str (.ofString "_law_least") 366), (.str (.ofString "_law_least") 367), (.str (.ofString "/claim/cut.py") 368), (.int 125 0), (.int 1 0), (.int 0 0), (.int 0 0), (.int 3 0), (.ref 142), (.bool true), (.int 181 0), (.ref 143), .none, .none, .none, (.ref 144), (.int 369 0), (.int 125 0), (.str (.ofString "/claim/cut.py") 370)]) #[])),
  (146, (.mk (.type "function") none (.func (.mk (.ofString "_law_least") (.ofString "_law_least") hdF18.1.a (.stmts hdF18.1.b) hdF18.1.c 3 [] .none .none .none (.str (.ofString "law_oy0120_01") 336) none (.ref 145) .none 0)) #[])),
  (147, (.mk (.type "tuple") none (.seq #[] 0) #[])),
  (150, (.mk (.type "code") none (.fields #[(.str (.ofString "_law_lacks") 372), (.str (.ofString "_law_lacks") 373), (.str (.ofString "/claim/cut.py") 374), (.int 132 0), (.int 2 0), (.int 0 0), (.int 0 0), (.int 3 0), (.ref 147), (.bool true), (.int 181 0), (.ref 148), .none, .none, .none, (.ref 149), (.int 375 0), (.int 132 0), (.str (.ofString "/claim/cut.py") 376)]) #[])),
  (151, (.mk (.type "function") none (.func (.mk (.ofString "_law_lacks") (.ofString "_law_lacks") hdF19.1.a (.stmts hdF19.1.b) hdF19.1.c 3 [] .none .none .none (.str (.ofString "law_oy0120_01") 336) none (.ref 150) .none 0)) #[])),
  (152, (.mk (.type "tuple") none (.seq #[] 0) #[])),
  (155, (.mk (.type "code") none (.fields #[(.str (.ofString "law") 378), (.str (.ofString "law") 379), (.str (.ofString "/claim/cut.py") 380), (.int 134 0), (.int 1 0), (.int 0 0), (.int 0 0), (.int 3 0), (.ref 152), (.bool true), (.int 181 0), (.ref 153), .none, .none, .none, (.ref 154), (.int 381 0), (.int 134 0), (.str (.ofString "/claim/cut.py") 382)]) #[])),
  (156, (.mk (.type "function") none (.func (.mk (.ofString "law") (.ofString "law") hdF20.1.a (.stmts hdF20.1.b) hdF20.1.c 3 [] .none .none .none (.str (.ofString "law_oy0120_01") 336) none (.ref 155) .none 0)) #[]))]

noncomputable abbrev hdAs : List Addr := [2, 3, 15, 17, 18, 20, 21, 29, 31, 32, 34, 35, 36, 38, 39, 41, 42, 43, 45, 46, 48, 49, 50, 52, 53, 55, 56, 57, 58, 59, 60, 61, 64, 66, 67, 69, 70, 71, 73, 74, 76, 77, 78, 80, 81, 83, 84, 85, 87, 88, 90, 91, 92, 94, 95, 97, 98, 99, 101, 102, 104, 105, 106, 108, 109, 111, 112, 113, 115, 116, 118, 119, 120, 123, 124, 125, 127, 128, 130, 131, 132, 135, 136, 137, 140, 141, 142, 145, 146, 147, 150, 151, 152, 155, 156]
theorem hdAsOk : ∀ P, hdAs = (hdK P).map (·.1) := fun P => by kernel_rfl
noncomputable def hdV : Program := view PySem.Challenge.pw_oy0120_01 [0, 2, 3, 5, 6, 7, 8, 9, 11, 12, 14, 15, 16, 17, 18, 19, 20]
noncomputable def hdD : {x : DefRec // defOf hdV hdRow.name = some (x, [])} := ⟨⟨_, _, _, _, _⟩, rfl⟩
/-- the heap behind the top -/
noncomputable def hdH : Params → Heap := fun P => ⟨⟨[
  boot_o_0 P,
  boot_o_1 P,
  boot_o_2 P,
  (.mk (.type "dict") none (.dict #[(.mk (PyData.keyHash P (.ofString "__name__")) (.str (.ofString "__name__") 165) (.str (.ofString "law_oy0120_01") 336)), (.mk (PyData.keyHash P (.ofString "__doc__")) (.str (.ofString "__doc__") 166) .none), (.mk (PyData.keyHash P (.ofString "__package__")) (.str (.ofString "__package__") 167) .none), (.mk (PyData.keyHash P (.ofString "__loader__")) (.str (.ofString "__loader__") 168) (.builtin "__main__.__loader__#opaque")), (.mk (PyData.keyHash P (.ofString "__spec__")) (.str (.ofString "__spec__") 169) .none), (.mk (PyData.keyHash P (.ofString "__annotations__")) (.str (.ofString "__annotations__") 170) (.ref 6)), (.mk (PyData.keyHash P (.ofString "__builtins__")) (.str (.ofString "__builtins__") 171) (.ref 4)), (.mk (PyData.keyHash P (.ofString "__file__")) (.str (.ofString "__file__") 173) (.str (.ofString "/claim/cut.py") 172)), (.mk (PyData.keyHash P (.ofString "__cached__")) (.str (.ofString "__cached__") 174) .none), (.mk (PyData.keyHash P (.ofString "_wall")) (.str (.ofString "_wall") 193) (.ref 21)), (.mk (PyData.keyHash P (.ofString "Entry")) (.str (.ofString "Entry") 252) (.ref 59)), (.mk (PyData.keyHash P (.ofString "merge_entries")) (.str (.ofString "merge_entries") 261) (.ref 70)), (.mk (PyData.keyHash P (.ofString "heappop")) (.str (.ofString "heappop") 272) (.ref 77)), (.mk (PyData.keyHash P (.ofString "heapreplace")) (.str (.ofString "heapreplace") 281) (.ref 84)), (.mk (PyData.keyHash P (.ofString "heapify")) (.str (.ofString "heapify") 290) (.ref 91)), (.mk (PyData.keyHash P (.ofString "_siftdown")) (.str (.ofString "_siftdown") 302) (.ref 98)), (.mk (PyData.keyHash P (.ofString "_siftup")) (.str (.ofString "_siftup") 315) (.ref 105)), (.mk (PyData.keyHash P (.ofString "unorderable_list_difference")) (.str (.ofString "unorderable_list_difference") 327) (.ref 112)), (.mk (PyData.keyHash P (.ofString "three_way_cmp")) (.str (.ofString "three_way_cmp") 335) (.ref 119)), (.mk (PyData.keyHash P (.ofString "_law_parts")) (.str (.ofString "_law_parts") 343) (.ref 124)), (.mk (PyData.keyHash P (.ofString "_law_record")) (.str (.ofString "_law_record") 353) (.ref 131)), (.mk (PyData.keyHash P (.ofString "_law_merged")) (.str (.ofString "_law_merged") 359) (.ref 136)), (.mk (PyData.keyHash P (.ofString "_law_due")) (.str (.ofString "_law_due") 365) (.ref 141)), (.mk (PyData.keyHash P (.ofString "_law_least")) (.str (.ofString "_law_least") 371) (.ref 146)), (.mk (PyData.keyHash P (.ofString "_law_lacks")) (.str (.ofString "_law_lacks") 377) (.ref 151)), (.mk (PyData.keyHash P (.ofString "law")) (.str (.ofString "law") 383) (.ref 156))] 26) #[]),
  boot_o_4 P,
  boot_o_5 P,
  boot_o_6 P,
  boot_o_7 P,
  boot_o_8 P,
  boot_o_9 P,
  boot_o_10 P,
  (.mk (.type "tuple") none (.seq #[] 0) #[]),
  (.mk .none none (.fields #[(.int 1 0), (.int 0 0), (.ref 20), (.int 5 0), (.int 0 0), (.ref 27), (.int 35 0), (.int 0 0), (.ref 69), (.int 43 0), (.int 0 0), (.ref 76), (.int 51 0), (.int 0 0), (.ref 83), (.int 56 0), (.int 0 0), (.ref 90), (.int 60 0), (.int 0 0), (.ref 97), (.int 71 0), (.int 0 0), (.ref 104), (.int 86 0), (.int 0 0), (.ref 111), (.int 95 0), (.int 0 0), (.ref 118), (.int 98 0), (.int 0 0), (.ref 123), (.int 102 0), (.int 0 0), (.ref 130), (.int 108 0), (.int 0 0), (.ref 135), (.int 117 0), (.int 0 0), (.ref 140), (.int 125 0), (.int 0 0), (.ref 145), (.int 132 0), (.int 0 0), (.ref 150), (.int 134 0), (.int 0 0), (.ref 155)]) #[]),
  (.mk (.type "code") none (.fields #[(.str (.ofString "<module>") 182), (.str (.ofString "<module>") 183), (.str (.ofString "/claim/cut.py") 184), (.int 1 0), (.int 0 0), (.int 0 0), (.int 0 0), (.int 0 0), (.ref 11), (.bool false), (.int 181 0), (.ref 12), .none, .none, .none, .none, (.int 185 0), (.int 1 0), (.str (.ofString "/claim/cut.py") 186)]) #[]),
  (.mk (.type "frame") none .plain #[(some (.ref 13)), (some (.ref 3)), (some (.ref 3)), none, (some (.str (.ofString "__main__") 164)), none, (some (.ref 0))]),
  (.mk (.type "tuple") none (.seq #[] 0) #[]),
  (.mk .none none (.fields #[]) #[]),
  (.mk (.type "tuple") none (.seq #[(.str (.ofString "k") 190)] 0) #[]),
  (.mk (.type "tuple") none (.seq #[] 0) #[]),
  (.mk .none none (.func (.mk (.ofString "_wall") (.ofString "_wall") hdF0.1.a (.stmts hdF0.1.b) hdF0.1.c 0 [] .none .none .none .none none .none .none 0)) #[]),
  (.mk (.type "code") none (.fields #[(.str (.ofString "_wall") 187), (.str (.ofString "_wall") 188), (.str (.ofString "/claim/cut.py") 189), (.int 1 0), (.int 1 0), (.int 0 0), (.int 0 0), (.int 3 0), (.ref 15), (.bool true), (.int 181 0), (.ref 16), .none, (.ref 17), (.ref 18), (.ref 19), (.int 191 0), (.int 1 0), (.str (.ofString "/claim/cut.py") 192)]) #[]),
  (.mk (.type "function") none (.func (.mk (.ofString "_wall") (.ofString "_wall") hdF0.1.a (.stmts hdF0.1.b) hdF0.1.c 3 [] .none .none .none (.str (.ofString "__main__") 164) none (.ref 20) .none 0)) #[]),
  (.mk (.type "tuple") none (.seq #[] 0) #[]),
  (.mk (.type "builtin_function_or_method") none (.fields #[(.builtin "type.__prepare__"), (.type "type")]) #[]),
  (.mk (.type "dict") none (.dict #[(.mk (PyData.keyHash P (.ofString "__module__")) (.str (.ofString "__module__") 203) (.str (.ofString "cpy313.urllib.robotparser") 194)), (.mk (PyData.keyHash P (.ofString "__qualname__")) (.str (.ofString "__qualname__") 205) (.str (.ofString "Entry") 204)), (.mk (PyData.keyHash P (.ofString "__firstlineno__")) (.str (.ofString "__firstlineno__") 207) (.int 5 206)), (.mk (PyData.keyHash P (.ofString "__init__")) (.str (.ofString "__init__") 214) (.ref 35)), (.mk (PyData.keyHash P (.ofString "__str__")) (.str (.ofString "__str__") 224) (.ref 42)), (.mk (PyData.keyHash P (.ofString "applies_to")) (.str (.ofString "applies_to") 232) (.ref 49)), (.mk (PyData.keyHash P (.ofString "allowance")) (.str (.ofString "allowance") 240) (.ref 56)), (.mk (PyData.keyHash P (.ofString "__static_attributes__")) (.str (.ofString "__static_attributes__") 245) (.ref 57))] 8) #[]),
  (.mk (.type "tuple") none (.seq #[] 0) #[]),
  (.mk .none none (.fields #[(.int 7 0), (.int 4 0), (.ref 34), (.int 13 0), (.int 4 0), (.ref 41), (.int 30 0), (.int 4 0), (.ref 48), (.int 33 0), (.int 4 0), (.ref 55)]) #[]),
  (.mk (.type "code") none (.fields #[(.str (.ofString "Entry") 198), (.str (.ofString "Entry") 199), (.str (.ofString "/claim/cut.py") 200), (.int 5 0), (.int 0 0), (.int 0 0), (.int 0 0), (.int 0 0), (.ref 25), (.bool false), (.int 181 0), (.ref 26), .none, .none, .none, .none, (.int 201 0), (.int 5 0), (.str (.ofString "/claim/cut.py") 202)]) #[]),
  (.mk (.type "frame") none .plain #[(some (.ref 27)), (some (.ref 3)), (some (.ref 24)), none, (some (.str (.ofString "cpy313.urllib.robotparser") 194)), none, (some (.ref 0))]),
  (.mk (.type "tuple") none (.seq #[] 0) #[]),
  (.mk .none none (.fields #[]) #[]),
  (.mk (.type "tuple") none (.seq #[(.str (.ofString "self") 211)] 0) #[]),
  (.mk (.type "tuple") none (.seq #[] 0) #[]),
  (.mk .none none (.func (.mk (.ofString "__init__") (.ofString "Entry.__init__") hdF2_0.1.a (.stmts hdF2_0.1.b) hdF2_0.1.c 0 [] .none .none .none .none none .none .none 0)) #[]),
  (.mk (.type "code") none (.fields #[(.str (.ofString "__init__") 208), (.str (.ofString "Entry.__init__") 209), (.str (.ofString "/claim/cut.py") 210), (.int 7 0), (.int 1 0), (.int 0 0), (.int 0 0), (.int 3 0), (.ref 29), (.bool true), (.int 181 0), (.ref 30), .none, (.ref 31), (.ref 32), (.ref 33), (.int 212 0), (.int 7 0), (.str (.ofString "/claim/cut.py") 213)]) #[]),
  (.mk (.type "function") none (.func (.mk (.ofString "__init__") (.ofString "Entry.__init__") hdF2_0.1.a (.stmts hdF2_0.1.b) hdF2_0.1.c 3 [] .none .none .none (.str (.ofString "cpy313.urllib.robotparser") 194) none (.ref 34) .none 0)) #[]),
  (.mk (.type "tuple") none (.seq #[] 0) #[]),
  (.mk .none none (.fields #[]) #[]),
  (.mk (.type "tuple") none (.seq #[(.str (.ofString "self") 218), (.str (.ofString "ret") 219), (.str (.ofString "agent") 220), (.str (.ofString "rate") 221)] 0) #[]),
  (.mk (.type "tuple") none (.seq #[] 0) #[]),
  (.mk .none none (.func (.mk (.ofString "__str__") (.ofString "Entry.__str__") hdF2_1.1.a (.stmts hdF2_1.1.b) hdF2_1.1.c 0 [] .none .none .none .none none .none .none 0)) #[]),
  (.mk (.type "code") none (.fields #[(.str (.ofString "__str__") 215), (.str (.ofString "Entry.__str__") 216), (.str (.ofString "/claim/cut.py") 217), (.int 13 0), (.int 1 0), (.int 0 0), (.int 0 0), (.int 3 0), (.ref 36), (.bool true), (.int 181 0), (.ref 37), .none, (.ref 38), (.ref 39), (.ref 40), (.int 222 0), (.int 13 0), (.str (.ofString "/claim/cut.py") 223)]) #[]),
  (.mk (.type "function") none (.func (.mk (.ofString "__str__") (.ofString "Entry.__str__") hdF2_1.1.a (.stmts hdF2_1.1.b) hdF2_1.1.c 3 [] .none .none .none (.str (.ofString "cpy313.urllib.robotparser") 194) none (.ref 41) .none 0)) #[]),
  (.mk (.type "tuple") none (.seq #[] 0) #[]),
  (.mk .none none (.fields #[]) #[]),
  (.mk (.type "tuple") none (.seq #[(.str (.ofString "self") 228), (.str (.ofString "useragent") 229)] 0) #[]),
  (.mk (.type "tuple") none (.seq #[] 0) #[]),
  (.mk .none none (.func (.mk (.ofString "applies_to") (.ofString "Entry.applies_to") hdF2_2.1.a (.stmts hdF2_2.1.b) hdF2_2.1.c 0 [] .none .none .none .none none .none .none 0)) #[]),
  (.mk (.type "code") none (.fields #[(.str (.ofString "applies_to") 225), (.str (.ofString "Entry.applies_to") 226), (.str (.ofString "/claim/cut.py") 227), (.int 30 0), (.int 2 0), (.int 0 0), (.int 0 0), (.int 3 0), (.ref 43), (.bool true), (.int 181 0), (.ref 44), .none, (.ref 45), (.ref 46), (.ref 47), (.int 230 0), (.int 30 0), (.str (.ofString "/claim/cut.py") 231)]) #[]),
  (.mk (.type "function") none (.func (.mk (.ofString "applies_to") (.ofString "Entry.applies_to") hdF2_2.1.a (.stmts hdF2_2.1.b) hdF2_2.1.c 3 [] .none .none .none (.str (.ofString "cpy313.urllib.robotparser") 194) none (.ref 48) .none 0)) #[]),
  (.mk (.type "tuple") none (.seq #[] 0) #[]),
  (.mk .none none (.fields #[]) #[]),
  (.mk (.type "tuple") none (.seq #[(.str (.ofString "self") 236), (.str (.ofString "filename") 237)] 0) #[]),
  (.mk (.type "tuple") none (.seq #[] 0) #[]),
  (.mk .none none (.func (.mk (.ofString "allowance") (.ofString "Entry.allowance") hdF2_3.1.a (.stmts hdF2_3.1.b) hdF2_3.1.c 0 [] .none .none .none .none none .none .none 0)) #[]),
  (.mk (.type "code") none (.fields #[(.str (.ofString "allowance") 233), (.str (.ofString "Entry.allowance") 234), (.str (.ofString "/claim/cut.py") 235), (.int 33 0), (.int 2 0), (.int 0 0), (.int 0 0), (.int 3 0), (.ref 50), (.bool true), (.int 181 0), (.ref 51), .none, (.ref 52), (.ref 53), (.ref 54), (.int 238 0), (.int 33 0), (.str (.ofString "/claim/cut.py") 239)]) #[]),
  (.mk (.type "function") none (.func (.mk (.ofString "allowance") (.ofString "Entry.allowance") hdF2_3.1.a (.stmts hdF2_3.1.b) hdF2_3.1.c 3 [] .none .none .none (.str (.ofString "cpy313.urllib.robotparser") 194) none (.ref 55) .none 0)) #[]),
  (.mk (.type "tuple") none (.seq #[(.str (.ofString "delay") 241), (.str (.ofString "req_rate") 242), (.str (.ofString "rulelines") 243), (.str (.ofString "useragents") 244)] 0) #[]),
  (.mk (.type "dict") none (.dict #[(.mk (PyData.keyHash P (.ofString "__module__")) (.str (.ofString "__module__") 203) (.str (.ofString "cpy313.urllib.robotparser") 194)), (.mk (PyData.keyHash P (.ofString "__firstlineno__")) (.str (.ofString "__firstlineno__") 207) (.int 5 206)), (.mk (PyData.keyHash P (.ofString "__init__")) (.str (.ofString "__init__") 214) (.ref 35)), (.mk (PyData.keyHash P (.ofString "__str__")) (.str (.ofString "__str__") 224) (.ref 42)), (.mk (PyData.keyHash P (.ofString "applies_to")) (.str (.ofString "applies_to") 232) (.ref 49)), (.mk (PyData.keyHash P (.ofString "allowance")) (.str (.ofString "allowance") 240) (.ref 56)), (.mk (PyData.keyHash P (.ofString "__static_attributes__")) (.str (.ofString "__static_attributes__") 245) (.ref 57)), (.mk (PyData.keyHash P (.ofString "__dict__")) (.str (.ofString "__dict__") 247) (.ref 60)), (.mk (PyData.keyHash P (.ofString "__weakref__")) (.str (.ofString "__weakref__") 249) (.ref 61)), (.mk (PyData.keyHash P (.ofString "__doc__")) (.str (.ofString "__doc__") 250) .none)] 4) #[]),
  (.mk (.type "type") none (.cls (.mk (.ofString "Entry") [(.type "object")] [(.ref 59), (.type "object")] 58 (.ofString "Entry") true [] [] false none false)) #[none, none, (some (.str (.ofString "Entry") 196)), (some (.str (.ofString "Entry") 204)), (some (.builtin "object.__new__")), (some (.bool true))]),
  (.mk (.type "getset_descriptor") none (.fields #[(.str (.ofString "__dict__") 246), (.ref 59), (.builtin "function.__dict__"), (.builtin "function.__dict__#set")]) #[]),
  (.mk (.type "getset_descriptor") none (.fields #[(.str (.ofString "__weakref__") 248), (.ref 59), (.builtin "ExceptionGroup.__weakref__"), .none]) #[]),
  (.mk (.type "super") none (.fields #[(.ref 59), (.ref 59), (.ref 59)]) #[]),
  (.mk (.type "builtin_function_or_method") none (.fields #[(.builtin "object.__init_subclass__"), (.ref 59)]) #[]),
  (.mk (.type "tuple") none (.seq #[] 0) #[]),
  (.mk .none none (.fields #[]) #[]),
  (.mk (.type "tuple") none (.seq #[(.str (.ofString "e1") 256), (.str (.ofString "e2") 257), (.str (.ofString "entry") 258)] 0) #[]),
  (.mk (.type "tuple") none (.seq #[] 0) #[]),
  (.mk .none none (.func (.mk (.ofString "merge_entries") (.ofString "merge_entries") hdF3.1.a (.stmts hdF3.1.b) hdF3.1.c 0 [] .none .none .none .none none .none .none 0)) #[]),
  (.mk (.type "code") none (.fields #[(.str (.ofString "merge_entries") 253), (.str (.ofString "merge_entries") 254), (.str (.ofString "/claim/cut.py") 255), (.int 35 0), (.int 2 0), (.int 0 0), (.int 0 0), (.int 3 0), (.ref 64), (.bool true), (.int 181 0), (.ref 65), .none, (.ref 66), (.ref 67), (.ref 68), (.int 259 0), (.int 35 0), (.str (.ofString "/claim/cut.py") 260)]) #[]),
  (.mk (.type "function") none (.func (.mk (.ofString "merge_entries") (.ofString "merge_entries") hdF3.1.a (.stmts hdF3.1.b) hdF3.1.c 3 [] .none .none .none (.str (.ofString "cpy313.urllib.robotparser") 194) none (.ref 69) .none 0)) #[]),
  (.mk (.type "tuple") none (.seq #[] 0) #[]),
  (.mk .none none (.fields #[]) #[]),
  (.mk (.type "tuple") none (.seq #[(.str (.ofString "heap") 267), (.str (.ofString "lastelt") 268), (.str (.ofString "returnitem") 269)] 0) #[]),
  (.mk (.type "tuple") none (.seq #[] 0) #[]),
  (.mk .none none (.func (.mk (.ofString "heappop") (.ofString "heappop") hdF5.1.a (.stmts hdF5.1.b) hdF5.1.c 0 [] .none .none .none .none none .none .none 0)) #[]),
  (.mk (.type "code") none (.fields #[(.str (.ofString "heappop") 264), (.str (.ofString "heappop") 265), (.str (.ofString "/claim/cut.py") 266), (.int 43 0), (.int 1 0), (.int 0 0), (.int 0 0), (.int 3 0), (.ref 71), (.bool true), (.int 181 0), (.ref 72), .none, (.ref 73), (.ref 74), (.ref 75), (.int 270 0), (.int 43 0), (.str (.ofString "/claim/cut.py") 271)]) #[]),
  (.mk (.type "function") none (.func (.mk (.ofString "heappop") (.ofString "heappop") hdF5.1.a (.stmts hdF5.1.b) hdF5.1.c 3 [] .none .none .none (.str (.ofString "cpy313.heapq") 262) none (.ref 76) .none 0)) #[]),
  (.mk (.type "tuple") none (.seq #[] 0) #[]),
  (.mk .none none (.fields #[]) #[]),
  (.mk (.type "tuple") none (.seq #[(.str (.ofString "heap") 276), (.str (.ofString "item") 277), (.str (.ofString "returnitem") 278)] 0) #[]),
  (.mk (.type "tuple") none (.seq #[] 0) #[]),
  (.mk .none none (.func (.mk (.ofString "heapreplace") (.ofString "heapreplace") hdF6.1.a (.stmts hdF6.1.b) hdF6.1.c 0 [] .none .none .none .none none .none .none 0)) #[]),
  (.mk (.type "code") none (.fields #[(.str (.ofString "heapreplace") 273), (.str (.ofString "heapreplace") 274), (.str (.ofString "/claim/cut.py") 275), (.int 51 0), (.int 2 0), (.int 0 0), (.int 0 0), (.int 3 0), (.ref 78), (.bool true), (.int 181 0), (.ref 79), .none, (.ref 80), (.ref 81), (.ref 82), (.int 279 0), (.int 51 0), (.str (.ofString "/claim/cut.py") 280)]) #[]),
  (.mk (.type "function") none (.func (.mk (.ofString "heapreplace") (.ofString "heapreplace") hdF6.1.a (.stmts hdF6.1.b) hdF6.1.c 3 [] .none .none .none (.str (.ofString "cpy313.heapq") 262) none (.ref 83) .none 0)) #[]),
  (.mk (.type "tuple") none (.seq #[] 0) #[]),
  (.mk .none none (.fields #[]) #[]),
  (.mk (.type "tuple") none (.seq #[(.str (.ofString "x") 285), (.str (.ofString "n") 286), (.str (.ofString "i") 287)] 0) #[]),
  (.mk (.type "tuple") none (.seq #[] 0) #[]),
  (.mk .none none (.func (.mk (.ofString "heapify") (.ofString "heapify") hdF7.1.a (.stmts hdF7.1.b) hdF7.1.c 0 [] .none .none .none .none none .none .none 0)) #[]),
  (.mk (.type "code") none (.fields #[(.str (.ofString "heapify") 282), (.str (.ofString "heapify") 283), (.str (.ofString "/claim/cut.py") 284), (.int 56 0), (.int 1 0), (.int 0 0), (.int 0 0), (.int 3 0), (.ref 85), (.bool true), (.int 181 0), (.ref 86), .none, (.ref 87), (.ref 88), (.ref 89), (.int 288 0), (.int 56 0), (.str (.ofString "/claim/cut.py") 289)]) #[]),
  (.mk (.type "function") none (.func (.mk (.ofString "heapify") (.ofString "heapify") hdF7.1.a (.stmts hdF7.1.b) hdF7.1.c 3 [] .none .none .none (.str (.ofString "cpy313.heapq") 262) none (.ref 90) .none 0)) #[]),
  (.mk (.type "tuple") none (.seq #[] 0) #[]),
  (.mk .none none (.fields #[]) #[]),
  (.mk (.type "tuple") none (.seq #[(.str (.ofString "heap") 294), (.str (.ofString "startpos") 295), (.str (.ofString "pos") 296), (.str (.ofString "newitem") 297), (.str (.ofString "parentpos") 298), (.str (.ofString "parent") 299)] 0) #[]),
  (.mk (.type "tuple") none (.seq #[] 0) #[]),
  (.mk .none none (.func (.mk (.ofString "_siftdown") (.ofString "_siftdown") hdF8.1.a (.stmts hdF8.1.b) hdF8.1.c 0 [] .none .none .none .none none .none .none 0)) #[]),
  (.mk (.type "code") none (.fields #[(.str (.ofString "_siftdown") 291), (.str (.ofString "_siftdown") 292), (.str (.ofString "/claim/cut.py") 293), (.int 60 0), (.int 3 0), (.int 0 0), (.int 0 0), (.int 3 0), (.ref 92), (.bool true), (.int 181 0), (.ref 93), .none, (.ref 94), (.ref 95), (.ref 96), (.int 300 0), (.int 60 0), (.str (.ofString "/claim/cut.py") 301)]) #[]),
  (.mk (.type "function") none (.func (.mk (.ofString "_siftdown") (.ofString "_siftdown") hdF8.1.a (.stmts hdF8.1.b) hdF8.1.c 3 [] .none .none .none (.str (.ofString "cpy313.heapq") 262) none (.ref 97) .none 0)) #[]),
  (.mk (.type "tuple") none (.seq #[] 0) #[]),
  (.mk .none none (.fields #[]) #[]),
  (.mk (.type "tuple") none (.seq #[(.str (.ofString "heap") 306), (.str (.ofString "pos") 307), (.str (.ofString "endpos") 308), (.str (.ofString "startpos") 309), (.str (.ofString "newitem") 310), (.str (.ofString "childpos") 311), (.str (.ofString "rightpos") 312)] 0) #[]),
  (.mk (.type "tuple") none (.seq #[] 0) #[]),
  (.mk .none none (.func (.mk (.ofString "_siftup") (.ofString "_siftup") hdF9.1.a (.stmts hdF9.1.b) hdF9.1.c 0 [] .none .none .none .none none .none .none 0)) #[]),
  (.mk (.type "code") none (.fields #[(.str (.ofString "_siftup") 303), (.str (.ofString "_siftup") 304), (.str (.ofString "/claim/cut.py") 305), (.int 71 0), (.int 2 0), (.int 0 0), (.int 0 0), (.int 3 0), (.ref 99), (.bool true), (.int 181 0), (.ref 100), .none, (.ref 101), (.ref 102), (.ref 103), (.int 313 0), (.int 71 0), (.str (.ofString "/claim/cut.py") 314)]) #[]),
  (.mk (.type "function") none (.func (.mk (.ofString "_siftup") (.ofString "_siftup") hdF9.1.a (.stmts hdF9.1.b) hdF9.1.c 3 [] .none .none .none (.str (.ofString "cpy313.heapq") 262) none (.ref 104) .none 0)) #[]),
  (.mk (.type "tuple") none (.seq #[] 0) #[]),
  (.mk .none none (.fields #[]) #[]),
  (.mk (.type "tuple") none (.seq #[(.str (.ofString "expected") 321), (.str (.ofString "actual") 322), (.str (.ofString "missing") 323), (.str (.ofString "item") 324)] 0) #[]),
  (.mk (.type "tuple") none (.seq #[] 0) #[]),
  (.mk .none none (.func (.mk (.ofString "unorderable_list_difference") (.ofString "unorderable_list_difference") hdF11.1.a (.stmts hdF11.1.b) hdF11.1.c 0 [] .none .none .none .none none .none .none 0)) #[]),
  (.mk (.type "code") none (.fields #[(.str (.ofString "unorderable_list_difference") 318), (.str (.ofString "unorderable_list_difference") 319), (.str (.ofString "/claim/cut.py") 320), (.int 86 0), (.int 2 0), (.int 0 0), (.int 0 0), (.int 3 0), (.ref 106), (.bool true), (.int 181 0), (.ref 107), .none, (.ref 108), (.ref 109), (.ref 110), (.int 325 0), (.int 86 0), (.str (.ofString "/claim/cut.py") 326)]) #[]),
  (.mk (.type "function") none (.func (.mk (.ofString "unorderable_list_difference") (.ofString "unorderable_list_difference") hdF11.1.a (.stmts hdF11.1.b) hdF11.1.c 3 [] .none .none .none (.str (.ofString "cpy313.unittest.util") 316) none (.ref 111) .none 0)) #[]),
  (.mk (.type "tuple") none (.seq #[] 0) #[]),
  (.mk .none none (.fields #[]) #[]),
  (.mk (.type "tuple") none (.seq #[(.str (.ofString "x") 331), (.str (.ofString "y") 332)] 0) #[]),
  (.mk (.type "tuple") none (.seq #[] 0) #[]),
  (.mk .none none (.func (.mk (.ofString "three_way_cmp") (.ofString "three_way_cmp") hdF12.1.a (.stmts hdF12.1.b) hdF12.1.c 0 [] .none .none .none .none none .none .none 0)) #[]),
  (.mk (.type "code") none (.fields #[(.str (.ofString "three_way_cmp") 328), (.str (.ofString "three_way_cmp") 329), (.str (.ofString "/claim/cut.py") 330), (.int 95 0), (.int 2 0), (.int 0 0), (.int 0 0), (.int 3 0), (.ref 113), (.bool true), (.int 181 0), (.ref 114), .none, (.ref 115), (.ref 116), (.ref 117), (.int 333 0), (.int 95 0), (.str (.ofString "/claim/cut.py") 334)]) #[]),
  (.mk (.type "function") none (.func (.mk (.ofString "three_way_cmp") (.ofString "three_way_cmp") hdF12.1.a (.stmts hdF12.1.b) hdF12.1.c 3 [] .none .none .none (.str (.ofString "cpy313.unittest.util") 316) none (.ref 118) .none 0)) #[]),
  (.mk (.type "tuple") none (.seq #[] 0) #[]),
  (.mk .none none (.fields #[]) #[]),
  (.mk .none none (.func (.mk (.ofString "_law_parts") (.ofString "_law_parts") hdF14.1.a (.stmts hdF14.1.b) hdF14.1.c 0 [] .none .none .none .none none .none .none 0)) #[]),
  (.mk (.type "code") none (.fields #[(.str (.ofString "_law_parts") 338), (.str (.ofString "_law_parts") 339), (.str (.ofString "/claim/cut.py") 340), (.int 98 0), (.int 1 0), (.int 0 0), (.int 0 0), (.int 3 0), (.ref 120), (.bool true), (.int 181 0), (.ref 121), .none, .none, .none, (.ref 122), (.int 341 0), (.int 98 0), (.str (.ofString "/claim/cut.py") 342)]) #[]),
  (.mk (.type "function") none (.func (.mk (.ofString "_law_parts") (.ofString "_law_parts") hdF14.1.a (.stmts hdF14.1.b) hdF14.1.c 3 [] .none .none .none (.str (.ofString "law_oy0120_01") 336) none (.ref 123) .none 0)) #[]),
  (.mk (.type "tuple") none (.seq #[] 0) #[]),
  (.mk .none none (.fields #[]) #[]),
  (.mk (.type "tuple") none (.seq #[(.str (.ofString "agents") 347), (.str (.ofString "delay") 348), (.str (.ofString "rules") 349), (.str (.ofString "record") 350)] 0) #[]),
  (.mk (.type "tuple") none (.seq #[] 0) #[]),
  (.mk .none none (.func (.mk (.ofString "_law_record") (.ofString "_law_record") hdF15.1.a (.stmts hdF15.1.b) hdF15.1.c 0 [] .none .none .none .none none .none .none 0)) #[]),
  (.mk (.type "code") none (.fields #[(.str (.ofString "_law_record") 344), (.str (.ofString "_law_record") 345), (.str (.ofString "/claim/cut.py") 346), (.int 102 0), (.int 3 0), (.int 0 0), (.int 0 0), (.int 3 0), (.ref 125), (.bool true), (.int 181 0), (.ref 126), .none, (.ref 127), (.ref 128), (.ref 129), (.int 351 0), (.int 102 0), (.str (.ofString "/claim/cut.py") 352)]) #[]),
  (.mk (.type "function") none (.func (.mk (.ofString "_law_record") (.ofString "_law_record") hdF15.1.a (.stmts hdF15.1.b) hdF15.1.c 3 [] .none .none .none (.str (.ofString "law_oy0120_01") 336) none (.ref 130) .none 0)) #[]),
  (.mk (.type "tuple") none (.seq #[] 0) #[]),
  (.mk .none none (.fields #[]) #[]),
  (.mk .none none (.func (.mk (.ofString "_law_merged") (.ofString "_law_merged") hdF16.1.a (.stmts hdF16.1.b) hdF16.1.c 0 [] .none .none .none .none none .none .none 0)) #[]),
  (.mk (.type "code") none (.fields #[(.str (.ofString "_law_merged") 354), (.str (.ofString "_law_merged") 355), (.str (.ofString "/claim/cut.py") 356), (.int 108 0), (.int 1 0), (.int 0 0), (.int 0 0), (.int 3 0), (.ref 132), (.bool true), (.int 181 0), (.ref 133), .none, .none, .none, (.ref 134), (.int 357 0), (.int 108 0), (.str (.ofString "/claim/cut.py") 358)]) #[]),
  (.mk (.type "function") none (.func (.mk (.ofString "_law_merged") (.ofString "_law_merged") hdF16.1.a (.stmts hdF16.1.b) hdF16.1.c 3 [] .none .none .none (.str (.ofString "law_oy0120_01") 336) none (.ref 135) .none 0)) #[]),
  (.mk (.type "tuple") none (.seq #[] 0) #[]),
  (.mk .none none (.fields #[]) #[]),
  (.mk .none none (.func (.mk (.ofString "_law_due") (.ofString "_law_due") hdF17.1.a (.stmts hdF17.1.b) hdF17.1.c 0 [] .none .none .none .none none .none .none 0)) #[]),
  (.mk (.type "code") none (.fields #[(.str (.ofString "_law_due") 360), (.str (.ofString "_law_due") 361), (.str (.ofString "/claim/cut.py") 362), (.int 117 0), (.int 1 0), (.int 0 0), (.int 0 0), (.int 3 0), (.ref 137), (.bool true), (.int 181 0), (.ref 138), .none, .none, .none, (.ref 139), (.int 363 0), (.int 117 0), (.str (.ofString "/claim/cut.py") 364)]) #[]),
  (.mk (.type "function") none (.func (.mk (.ofString "_law_due") (.ofString "_law_due") hdF17.1.a (.stmts hdF17.1.b) hdF17.1.c 3 [] .none .none .none (.str (.ofString "law_oy0120_01") 336) none (.ref 140) .none 0)) #[]),
  (.mk (.type "tuple") none (.seq #[] 0) #[]),
  (.mk .none none (.fields #[]) #[]),
  (.mk .none none (.func (.mk (.ofString "_law_least") (.ofString "_law_least") hdF18.1.a (.stmts hdF18.1.b) hdF18.1.c 0 [] .none .none .none .none none .none .none 0)) #[]),
  (.mk (.type "code") none (.fields #[(.str (.ofString "_law_least") 366), (.str (.ofString "_law_least") 367), (.str (.ofString "/claim/cut.py") 368), (.int 125 0), (.int 1 0), (.int 0 0), (.int 0 0), (.int 3 0), (.ref 142), (.bool true), (.int 181 0), (.ref 143), .none, .none, .none, (.ref 144), (.int 369 0), (.int 125 0), (.str (.ofString "/claim/cut.py") 370)]) #[]),
  (.mk (.type "function") none (.func (.mk (.ofString "_law_least") (.ofString "_law_least") hdF18.1.a (.stmts hdF18.1.b) hdF18.1.c 3 [] .none .none .none (.str (.ofString "law_oy0120_01") 336) none (.ref 145) .none 0)) #[]),
  (.mk (.type "tuple") none (.seq #[] 0) #[]),
  (.mk .none none (.fields #[]) #[]),
  (.mk .none none (.func (.mk (.ofString "_law_lacks") (.ofString "_law_lacks") hdF19.1.a (.stmts hdF19.1.b) hdF19.1.c 0 [] .none .none .none .none none .none .none 0)) #[]),
  (.mk (.type "code") none (.fields #[(.str (.ofString "_law_lacks") 372), (.str (.ofString "_law_lacks") 373), (.str (.ofString "/claim/cut.py") 374), (.int 132 0), (.int 2 0), (.int 0 0), (.int 0 0), (.int 3 0), (.ref 147), (.bool true), (.int 181 0), (.ref 148), .none, .none, .none, (.ref 149), (.int 375 0), (.int 132 0), (.str (.ofString "/claim/cut.py") 376)]) #[]),
  (.mk (.type "function") none (.func (.mk (.ofString "_law_lacks") (.ofString "_law_lacks") hdF19.1.a (.stmts hdF19.1.b) hdF19.1.c 3 [] .none .none .none (.str (.ofString "law_oy0120_01") 336) none (.ref 150) .none 0)) #[]),
  (.mk (.type "tuple") none (.seq #[] 0) #[]),
  (.mk .none none (.fields #[]) #[]),
  (.mk .none none (.func (.mk (.ofString "law") (.ofString "law") hdF20.1.a (.stmts hdF20.1.b) hdF20.1.c 0 [] .none .none .none .none none .none .none 0)) #[]),
  (.mk (.type "code") none (.fields #[(.str (.ofString "law") 378), (.str (.ofString "law") 379), (.str (.ofString "/claim/cut.py") 380), (.int 134 0), (.int 1 0), (.int 0 0), (.int 0 0), (.int 3 0), (.ref 152), (.bool true), (.int 181 0), (.ref 153), .none, .none, .none, (.ref 154), (.int 381 0), (.int 134 0), (.str (.ofString "/claim/cut.py") 382)]) #[]),
  (.mk (.type "function") none (.func (.mk (.ofString "law") (.ofString "law") hdF20.1.a (.stmts hdF20.1.b) hdF20.1.c 3 [] .none .none .none (.str (.ofString "law_oy0120_01") 336) none (.ref 155) .none 0)) #[])]⟩, {}⟩
noncomputable abbrev hdPr : Program := hdRow.toRowW.1
theorem hdBo : ∀ w : World, (fencedOpening treeTable hdPr w 1786).map (fun s => (s.heap, s.gens, s.drawn, s.toks)) = some (boot_heap w.params, Array.mk [], boot_drawn, boot_toks) :=
  boot_open (by rfl) (by rfl) (fun s => by kernel_rfl)
theorem hdSz : ∀ w : World, ((boot_heap w.params).isNs mainGlobals && (Array.mk [] : Array GenState).size == 0, (boot_heap w.params).objs.size, (boot_heap w.params).nsMap mainGlobals "__annotations__") = (true, 11, some (.ref 6)) := fun w => by kernel_rfl
theorem hdRn : ∀ (w : World) (os : OsState), topRun treeTable hdPr w 11 (some (.ref 6)) 848 ⟨boot_heap w.params, Array.mk [], boot_drawn, boot_toks, os⟩ (topStub hdPr) = some ⟨hdH w.params, Array.mk [], {}, 384, os⟩ := fun w os => by
  rw [PySem.W.Fast.te14082659384304107361, PySem.W.Fast.te14364793385576792824]
  kernel_rfl
noncomputable abbrev hdHk : Hook := kHook hdK hdAs hdAsOk
noncomputable abbrev hdX (s : Shared) : Bool := xlAt hdV [] s && recOk hdRow.records s
theorem hdLk : ∀ w : World, (fun os => ((staticsOk (importedModules hdPr.main.body) (boot_heap w.params) (hdH w.params) && namesBound hdPr (hdH w.params) && gensDone ⟨hdH w.params, Array.mk [], {}, 384, os⟩ && laidKept (boot_heap w.params) (hdH w.params)),
    openSeen hdV [] (importedModules hdPr.main.body) hdX true ⟨hdH w.params, Array.mk [], {}, 384, os⟩, hdHk.obs ⟨hdH w.params, Array.mk [], {}, 384, os⟩)) = fun _ => (true, openGood hdV [], hdHk.val w) := fun w => by kernel_rfl
theorem hdLeft : LeftO hdPr hdV [] hdX hdHk.obs hdHk.val 1786 :=
  LeftO.of_pieces hdBo hdSz hdRn (Nat.ble_eq_true_of_le (by decide)) hdLk
theorem hdSaid : PySem.Challenge.rw_oy0120_01.wellSaid = true := by rw [PySem.W.Fast.te9446332074065402090]; kernel_rfl
/-- the law holds if its walk is done -/
theorem hd (walk : WalkO hdV [] (XL hdV []) hdHk.says hdRow.toRowW hdD.1 [] fun f vs => PySem.call f vs) : PySem.Challenge.rw_oy0120_01.Holds :=
  holds_law hdSaid fun s => holds_open (r := hdRow) (q := hdV) (loose := []) (Xt := hdX) (XP := XL hdV []) (Yf := hdHk.obs) (Ya := hdHk.val) (YP := hdHk.says) (N := 1786) hdLeft hdHk.of hdHk.keeps
    (fun s e => xl_of s (Bool.and_eq_true_iff.mp e).1) XL.keeps hdD.2 (by rfl) (by rfl) (fun s e => recFacts_of (Bool.and_eq_true_iff.mp e).2) (by rfl) s (by decide +kernel)
    ⟨rfl, rfl, rfl, rfl, rfl, by decide +kernel⟩ ⟨[.list []], by decide +kernel, by decide +kernel⟩ walk
end Mine
end

-- Base
section
open PySem PySem.W PyProof.Rows PySem.Calls
set_option maxRecDepth 100000
set_option maxHeartbeats 1000000
namespace Mine

noncomputable abbrev KK (w : World) : Frag := hdK w.params
noncomputable abbrev PG : Program := PySem.Challenge.pw_oy0120_01

/-- what a call leaves alone beyond the heap -/
structure Same (s s' : Shared) : Prop where
  gens : s'.gens = s.gens
  os : s'.os = s.os
theorem Same.rfl' {s : Shared} : Same s s := ⟨rfl, rfl⟩
theorem Same.trans {s s' s'' : Shared} (a : Same s s') (b : Same s' s'') : Same s s'' := ⟨b.gens.trans a.gens, b.os.trans a.os⟩

/-- where a frame stands -/
structure Cx (d u : Nat) (w : World) (A : Around) (L : Addr) (h₀ : Heap) : Prop where
  ex : ∃ A₀ base outer env mean mg mb, Below A₀ base outer h₀ ∧ Top hdV (looseW hdV []) mean mg mb h₀ ∧ A.frames = some (env :: outer) ∧ env.frame = some L ∧ env.scope.kind = .function
  X : (KK w).In h₀
  depth : A.depth ≤ d
  units : A.units ≤ u
  hand : A.handled = none

noncomputable def retOf : Flow → Value
  | .ret v => v
  | _ => .none

/-- a ledger grows: nothing is lost, the new lies above -/
structure Grow (news news' : List (Addr × Obj)) : Prop where
  sub : ∀ p ∈ news, p ∈ news'
  up : ∀ p ∈ news', p ∈ news ∨ ∀ q ∈ news, q.1 < p.1
theorem Grow.rfl' {news : List (Addr × Obj)} : Grow news news := ⟨fun _ h => h, fun _ h => .inl h⟩
theorem Grow.trans {a b c : List (Addr × Obj)} (x : Grow a b) (y : Grow b c) : Grow a c :=
  ⟨fun p h => y.sub p (x.sub p h), fun p h => (y.up p h).elim (fun h => x.up p h) fun h => .inr fun q hq => h q (x.sub q hq)⟩
theorem Grow.cons {a b : List (Addr × Obj)} {x : Addr} {o : Obj} (g : Grow a b) (h : ∀ p ∈ b, p.1 < x) : Grow a ((x, o) :: b) :=
  g.trans ⟨fun _ h => .tail _ h, fun p hp => (List.mem_cons.mp hp).elim (fun e => .inr fun q hq => e ▸ h q hq) .inl⟩

/-- how a body ends -/
noncomputable def Ends (g : Heap) (L' : Addr) (s₁ : Shared) (Post : Value → List (Addr × Obj) → Prop) (fl : Flow) (s' : Shared) : Prop :=
  ∃ m' news', Same s₁ s' ∧ Fr g L' s'.heap m' ∧ News g L' s'.heap news' ∧ Post (retOf fl) news'

section
variable {d u : Nat} {w : World} {A : Around} {E : Value → Shared → Prop} {s : Shared} {L : Addr} {h₀ : Heap} {m : Str → Option Value} {news : List (Addr × Obj)} {Q : Value → Shared → Prop}
  {name qual : Str} {params : Arguments} {body : List Stmt} {scope : Scope} {dV kV doc pm cdv ct oc : Value} {an od : Option Addr} {osl : Array (Option Value)} {f : Addr} {args : List Value} {binds : List (Str × Value)}

theorem code_def' (C : Cx d u w A L h₀) (F : Fr h₀ L s.heap m) (N : News h₀ L s.heap news) {R : Result → Shared → Prop}
    (ho : (KK w).lookup f = some ⟨oc, od, .func (fnOf name qual params body scope dV kV doc pm an cdv ct), osl⟩)
    (hcd : codeIn (KK w) cdv qual = true) (hd : d < 900)
    (hbind : bindArgs (fnOf name qual params body scope dV kV doc pm an cdv ct) ⟨args, []⟩ = pure binds)
    (hloc : ∀ y ∈ binds, scope.names.lookup y.1 = some .local)
    (Post : Value → List (Addr × Obj) → Prop)
    (hb : ∀ g L' A' s₁, Cx (d + 1) (u + 3) w A' L' g → Fr g L' s₁.heap (fun y => binds.reverse.lookup y) → News g L' s₁.heap news → Same s s₁ → (∀ p ∈ news, p.1 < L') →
      wpAny (model PG w) A' (execs body (envOf qual scope L' f cdv)) (Ends g L' s₁ Post) (fun _ _ => False) s₁)
    (h : ∀ v s' news', Same s s' → Fr h₀ L s'.heap m → News h₀ L s'.heap news' → Post v news' → R (.ok (.ret v)) s')
    (hco : scope.isCoroutine = false := by rfl) (hgen : scope.isGenerator = false := by rfl) (hk : scope.kind = .function := by rfl)
    (hcell : ∀ x ∈ scope.names, x.2 ≠ .cell := by decide) :
    codeAny (model PG w) A (.call (.ref f) ⟨args, []⟩) R s := by
  obtain ⟨⟨A₀, base, outer, env, mean, mg, mb, B, T, hA, hf, hke⟩, X, hdep, hun, hh⟩ := C
  refine callX_plain (cl := []) B F N T.nolimit hA hf hke ((X.keeps F.keep) _ _ ho) rfl (codeRec_of (X.keeps F.keep) hcd) (Nat.lt_of_le_of_lt hdep (Nat.lt_trans hd (by decide))) (BindsTo.of_eq hbind) hloc
    (fun g L' h₁ FG F' N' B' st l => ?_) hcell hco hgen hk
  refine wpAny_mono (hb g L' _ _ ⟨⟨A, base, env :: outer, envOf qual scope L' f cdv, mean, mg, mb, B', T.keeps st, ?_, rfl, hk⟩, X.keeps st, ?_, ?_, hh⟩ F' N' ⟨rfl, rfl⟩ l) ?_ (fun _ _ x => x.elim)
  · show A.frames.map _ = _; rw [hA]; rfl
  · exact Nat.succ_le_succ hdep
  · exact Nat.add_le_add_right hun 3
  · rintro fl s' ⟨m', news', sm, F'', N'', hP⟩
    refine ⟨L', m', news', F'', N'', fun F₃ N₃ => ?_⟩
    have := h (retOf fl) s' news' ⟨sm.gens, sm.os⟩ F₃ N₃ hP
    cases fl <;> exact this

theorem call_def (C : Cx d u w A L h₀) (F : Fr h₀ L s.heap m) (N : News h₀ L s.heap news)
    (ho : (KK w).lookup f = some ⟨oc, od, .func (fnOf name qual params body scope dV kV doc pm an cdv ct), osl⟩)
    (hcd : codeIn (KK w) cdv qual = true) (hd : d < 900)
    (hbind : bindArgs (fnOf name qual params body scope dV kV doc pm an cdv ct) ⟨args, []⟩ = pure binds)
    (hloc : ∀ y ∈ binds, scope.names.lookup y.1 = some .local)
    (Post : Value → List (Addr × Obj) → Prop)
    (hb : ∀ g L' A' s₁, Cx (d + 1) (u + 3) w A' L' g → Fr g L' s₁.heap (fun y => binds.reverse.lookup y) → News g L' s₁.heap news → Same s s₁ → (∀ p ∈ news, p.1 < L') →
      wpAny (model PG w) A' (execs body (envOf qual scope L' f cdv)) (Ends g L' s₁ Post) (fun _ _ => False) s₁)
    (h : ∀ v s' news', Same s s' → Fr h₀ L s'.heap m → News h₀ L s'.heap news' → Post v news' → Q v s')
    (hco : scope.isCoroutine = false := by rfl) (hgen : scope.isGenerator = false := by rfl) (hk : scope.kind = .function := by rfl)
    (hcell : ∀ x ∈ scope.names, x.2 ≠ .cell := by decide) :
    wpAny (model PG w) A (call (.ref f) args) Q E s :=
  wpAny_call (code_def' C F N ho hcd hd hbind hloc Post hb h hco hgen hk hcell)
end
end Mine
end

-- L1
section
open PySem PySem.W PyProof.Rows PySem.Calls
set_option maxRecDepth 100000
set_option maxHeartbeats 1000000
namespace Mine
open PySem.MeetsSeq PySem.MeetsSeq3
open AutoSeq1 (wpAny_loadPart')

theorem lt_loop_at {prog : Program} {w : World} {A : Around} {R : Result → Shared → Prop} {s : Shared} (a b : Addr) (xs ys : Array Value) (e e' : Nat) (i : Nat) (v v' : Int) (t t' : Tok)
    (hx : xs[i]? = some (.int v t)) (hy : ys[i]? = some (.int v' t')) (hl : s.heap.get? a = some (listOf xs e)) (hb : s.heap.get? b = some (listOf ys e'))
    (h : if v = v' then codeAny (model prog w) A (.builtin "list.__eq__.loop" ⟨[.ref a, .ref b, rawInt ((i : Nat) + 1 : Nat), rawInt 0], []⟩) R s else R (.ok (.ret (.bool (decide (v < v'))))) s) :
    codeAny (model prog w) A (.builtin "list.__eq__.loop" ⟨[.ref a, .ref b, rawInt (i : Nat), rawInt 0], []⟩) R s := by
  refine codeAny_builtin entry_eq_loop ?_
  rw [Around.under_plainId plain_eq_loop _]
  obtain ⟨hp, g, d, tk, os⟩ := s
  have hi1 : xs[((i : Nat) : Int).toNat]? = some (.int v t) := by simpa using hx
  have hi2 : ys[((i : Nat) : Int).toNat]? = some (.int v' t') := by simpa using hy
  wp_walk using wpAny_loadPart' hl, wpAny_loadPart' hb
  rw [hi1, hi2]
  refine wpAny_bind (wpAny_eqBool_int ?_)
  by_cases h1 : v = v'
  · subst h1
    rw [if_pos rfl] at h
    simp only [beq_self_eq_true]
    wp_walk
    exact ⟨plainId_quiet plain_eq_loop _, h⟩
  · rw [if_neg h1] at h
    have : (v == v') = false := by simpa using h1
    rw [this]
    wp_walk using wpAny_loadPart' hl, wpAny_loadPart' hb
    rw [hi1, hi2]
    refine wpAny_bind (cmp_ofLt (PyProof.Rows.lt_int ?_))
    wp_walk
    exact h

theorem list_lt (a b : Addr) (n n' k k' : Int) (t t' u u' : Tok) (x x' : Value) (e e' : Nat) (hne : ¬ (n = n' ∧ k = k')) :
    Meets (Builtin.«list.__lt__» ⟨[.ref a, .ref b], []⟩)
      (fun _ R s => s.heap.get? a = some (listOf #[.int n t, .int k u, x] e) ∧ s.heap.get? b = some (listOf #[.int n' t', .int k' u', x'] e') ∧
        R (.ok (.ret (.bool (decide (n < n' ∨ n = n' ∧ k < k'))))) s) := by
  intro prog w A R s h
  obtain ⟨hp, g, d, tk, os⟩ := s; obtain ⟨hl, hb, h⟩ := h
  have f3 := AutoSeq1.sub_list_list
  wp_walk using wpAny_loadPart' hl, wpAny_loadPart' hb
  refine ⟨plainId_quiet plain_eq_loop _, ?_⟩
  refine lt_loop_at a b _ _ e e' 0 n n' t t' rfl rfl hl hb ?_
  split
  · rename_i h1
    refine lt_loop_at a b _ _ e e' 1 k k' u u' rfl rfl hl hb ?_
    have h2 : k ≠ k' := fun q => hne ⟨h1, q⟩
    rw [if_neg h2]
    have : decide (n < n' ∨ n = n' ∧ k < k') = decide (k < k') := by
      have : ¬ n < n' := by omega
      simp [h1]
    rw [← this]; exact h
  · rename_i h1
    have : decide (n < n' ∨ n = n' ∧ k < k') = decide (n < n') := by simp [h1]
    rw [← this]; exact h

theorem lt_items {prog : Program} {w : World} {A : Around} {E : Value → Shared → Prop} {s : Shared} {Q : Value → Shared → Prop} {a b : Addr} {n n' k k' : Int} {t t' u u' : Tok} {x x' : Value} {e e' : Nat}
    (hl : s.heap.get? a = some (listOf #[.int n t, .int k u, x] e)) (hb : s.heap.get? b = some (listOf #[.int n' t', .int k' u', x'] e'))
    (hne : ¬ (n = n' ∧ k = k')) (hu : A.units < cLine) (h : Q (.bool (decide (n < n' ∨ n = n' ∧ k < k'))) s) :
    wpAny (model prog w) A (compareOp .Lt (.ref a) (.ref b)) Q E s :=
  cmp_ofLt (richCompare_meets_room (op := .Lt) ⟨_, hl, rfl⟩ ⟨_, hb, rfl⟩ F.slot_list_lt F.entry_list_lt (F.args_list_lt_2 _ _) (list_lt a b n n' k k' t t' u u' x x' e e' hne) ⟨hl, hb, by
    show wants _ _ _ _
    exact ⟨by simp, h⟩⟩ hu)
end Mine
end

-- R1
section
open PySem PySem.W PyProof.Rows PySem.Calls
set_option maxRecDepth 100000
set_option maxHeartbeats 1000000
namespace Mine

noncomputable abbrev lo (vs : List Value) (n : Nat) : Obj := listOf vs.toArray n
/-- the cells of a ledger lie off D -/
noncomputable def Off (D : Addr) (I : List (Addr × Obj)) : Prop := ∀ p ∈ I, p.1 ≠ D
theorem Off.of_lt {D : Addr} {I : List (Addr × Obj)} (h : ∀ p ∈ I, p.1 < D) : Off D I := fun p hp => Nat.ne_of_lt (h p hp)

section
variable {w : World} {A : Around} {E : Value → Shared → Prop} {s : Shared} {L : Addr} {h₀ : Heap} {m : Str → Option Value} {news I : List (Addr × Obj)} {Q : Value → Shared → Prop}

theorem tail_list {hp : Heap} {value slice : PySem.Expr} {l : Addr} {vs : List Value} {n : Nat} {k : Int} {t : Tok} {x : Value}
    (hl : hp.get? l = some (lo vs n)) (h0 : 0 ≤ k) (hx : vs[k.toNat]? = some x) (hz : vs.length ≤ 1000000) (h : Q x s)
    (hs : subscripted slice false (.ref l) (.int k t) = operate [.ref l, .int k t] (getItem (.ref l) (.int k t)) := by with_unfolding_all rfl) (he : s.heap = hp := by rfl) :
    wpAny (model PG w) A (subscriptTail value slice (.ref l) (.int k t)) Q E s := by
  subst he
  have hl' : s.heap.IsList l vs.toArray := ⟨_, hl, rfl, n, rfl⟩
  have hlt : k.toNat < vs.length := by
    rcases Nat.lt_or_ge k.toNat vs.length with q | q
    · exact q
    · rw [List.getElem?_eq_none q] at hx; cases hx
  exact tail_any hl'.typeIs slot_list_getitem.lookup (wpAny_getItem_list hl' h0 (by omega) (by simpa using hx) h) hs

theorem set_list {Q : Unit → Shared → Prop} {D : Addr} {vs : List Value} {n : Nat} {k : Int} {t : Tok} {v : Value}
    (F : Fr h₀ L s.heap m) (N : News h₀ L s.heap ((D, lo vs n) :: I)) (hI : Off D I) (h0 : 0 ≤ k) (hk : k.toNat < vs.length) (hz : vs.length ≤ 1000000)
    (h : ∀ h', Fr h₀ L h' m → News h₀ L h' ((D, lo (vs.set k.toNat v) n) :: I) → Q () { s with heap := h' }) :
    wpAny (model PG w) A (setItem (.ref D) (.int k t) v) Q E s := by
  refine ki_setAt (N _ (.head _)).1 h0 (by omega) (by simp only [List.size_toArray]; omega) ?_
  have e : Obj.mapSeq (·.setIfInBounds k.toNat v) (lo vs n) = lo (vs.set k.toNat v) n := by
    simp [lo, Obj.mapSeq]
  obtain ⟨F', N'⟩ := news_upd (pre := []) F N (fun _ h => nomatch h) hI e rfl
  exact h _ F' N'

theorem stS {hp : Heap} {name : Str} {scope : Scope} {a : Addr} {cd : Value} {x : Str} {v : Value} {Q : Unit → Shared → Prop} (F : Fr h₀ L hp m) (N : News h₀ L hp news)
    (h : ∀ s', Same s s' → Fr h₀ L s'.heap (fun y => if y = x then some v else m y) → News h₀ L s'.heap news → Q () s')
    (hk : scope.kind = .function := by rfl) (hl : (envOf name scope L a cd).kindOf x = some .local := by rfl) (he : s.heap = hp := by rfl) :
    wpAny (model PG w) A (storeName (envOf name scope L a cd) x v) Q E s := by
  subst he; exact stN F N (fun _ F' N' => h _ ⟨rfl, rfl⟩ F' N') hk hl

theorem setS {hp : Heap} {Q : Unit → Shared → Prop} {D : Addr} {vs : List Value} {n : Nat} {k : Int} {t : Tok} {v : Value}
    (F : Fr h₀ L hp m) (N : News h₀ L hp ((D, lo vs n) :: I)) (hI : Off D I) (h0 : 0 ≤ k) (hk : k.toNat < vs.length) (hz : vs.length ≤ 1000000)
    (h : ∀ s', Same s s' → Fr h₀ L s'.heap m → News h₀ L s'.heap ((D, lo (vs.set k.toNat v) n) :: I) → Q () s') (he : s.heap = hp := by rfl) :
    wpAny (model PG w) A (setItem (.ref D) (.int k t) v) Q E s := by
  subst he; exact set_list F N hI h0 hk hz fun _ F' N' => h _ ⟨rfl, rfl⟩ F' N'

/-- a while that leaves by its test or by break; X is what holds behind it -/
theorem while_to {env : Env} {test : PySem.Expr} {body : List Stmt} {pos : Pos} {Q : Flow → Shared → Prop} (J : Nat → Shared → Prop) (X : Shared → Prop) (n : Nat) (h : J n s)
    (turn : ∀ n s, J n s → wpAny (model PG w) A (isTrue test env (eval test env)) (fun b s₂ => if b then wpAny (model PG w) A (execs body env) (fun f s₃ => match f with
            | .next | .cont => ∃ m, m < n ∧ J m s₃
            | .brk => X s₃
            | .ret _ => False) (fun _ _ => False) s₂
        else X s₂) (fun _ _ => False) s)
    (hX : ∀ s, X s → Q .next s) :
    wpAny (model PG w) A (exec (.While test body [] pos) env) Q E s := by
  refine wpAny_While (codeAny_whileLoop J (fun n s hJ => ?_) n h)
  refine wpAny_mono (turn n s hJ) (fun b s₂ h₂ => ?_) (fun _ _ x => x.elim)
  cases b with
  | true =>
    simp only [if_true] at h₂ ⊢
    refine wpAny_mono h₂ (fun f s₃ h₃ => ?_) (fun _ _ x => x.elim)
    cases f with
    | next => exact h₃
    | cont => exact h₃
    | brk => exact hX _ h₃
    | ret _ => exact h₃.elim
  | false =>
    simp only [Bool.false_eq_true, if_false] at h₂ ⊢
    exact wpAny_execs_nil (hX _ h₂)

theorem while_inv {env : Env} {test : PySem.Expr} {body : List Stmt} {pos : Pos} {Q : Flow → Shared → Prop} (J : Nat → Shared → Prop) (n : Nat) (h : J n s)
    (turn : ∀ n s, J n s → wpAny (model PG w) A (isTrue test env (eval test env)) (fun b s₂ => if b then wpAny (model PG w) A (execs body env) (fun f s₃ => match f with
            | .next | .cont => ∃ m, m < n ∧ J m s₃
            | .brk => Q .next s₃
            | .ret v => Q (.ret v) s₃) (fun _ _ => False) s₂
        else Q .next s₂) (fun _ _ => False) s) :
    wpAny (model PG w) A (exec (.While test body [] pos) env) Q E s := by
  refine wpAny_While (codeAny_whileLoop J (fun n s hJ => ?_) n h)
  refine wpAny_mono (turn n s hJ) (fun b s₂ h₂ => ?_) (fun _ _ x => x.elim)
  cases b with
  | true =>
    simp only [if_true] at h₂ ⊢
    refine wpAny_mono h₂ (fun f s₃ h₃ => ?_) (fun _ _ x => x.elim)
    cases f <;> exact h₃
  | false =>
    simp only [Bool.false_eq_true, if_false] at h₂ ⊢
    exact wpAny_execs_nil h₂
end
end Mine
end

-- R2
section
open PySem PySem.W PyProof.Rows PySem.Calls
set_option maxRecDepth 100000
set_option maxHeartbeats 1000000
namespace Mine
theorem Same.via {s s' s'' : Shared} (a : Same s s') (g : s''.gens = s'.gens) (o : s''.os = s'.os) : Same s s'' := ⟨g.trans a.gens, o.trans a.os⟩

theorem Same.nx {s s' s₁ s'' : Shared} (a : Same s s') (b : Same s₁ s'') (e : s₁.gens = s'.gens := by rfl) (e' : s₁.os = s'.os := by rfl) : Same s s'' := ⟨b.gens.trans (e.trans a.gens), b.os.trans (e'.trans a.os)⟩

section
variable {d u : Nat} {w : World} {A : Around} {E : Value → Shared → Prop} {s : Shared} {L : Addr} {h₀ : Heap} {m : Str → Option Value} {news I : List (Addr × Obj)} {Q : Value → Shared → Prop} {env : Env}

theorem gK (C : Cx d u w A L h₀) (F : Fr h₀ L s.heap m) {x : Str} {pos : Pos} {v : Value} (e : nsIn (KK w) mainGlobals x = some (some v)) (h : Q v s)
    (hk : env.scope.kind = .function := by rfl) (hx : env.kindOf x = some .globalImplicit := by rfl) (hg : env.globals = mainGlobals := by rfl) (hd : (x == ("__debug__" : Str)) = false := by decide) :
    wpAny (model PG w) A (eval (.Name x pos) env) Q E s := by
  obtain ⟨⟨A₀, base, outer, env', mean, mg, mb, B, T, hA, hf, hke⟩, X, hdep, hun, hh⟩ := C
  exact Name_function_global hk hx (loadGlobal_global (by rw [hg]; exact T.g.keeps F.keep) (mg_of X T.g e) h) hd

theorem gB (C : Cx d u w A L h₀) (F : Fr h₀ L s.heap m) {x : Str} {pos : Pos} {v : Value} (e : nsIn (KK w) mainGlobals x = some none) (hv : bootBuiltins x = some v) (h : Q v s) (hn : x ≠ "__name__" := by decide)
    (hk : env.scope.kind = .function := by rfl) (hx : env.kindOf x = some .globalImplicit := by rfl) (hg : env.globals = mainGlobals := by rfl) (hb : env.builtins = builtinsNs := by rfl) (hd : (x == ("__debug__" : Str)) = false := by decide) :
    wpAny (model PG w) A (eval (.Name x pos) env) Q E s := by
  obtain ⟨⟨A₀, base, outer, env', mean, mg, mb, B, T, hA, hf, hke⟩, X, hdep, hun, hh⟩ := C
  exact Name_function_global hk hx (loadGlobal_builtin (by rw [hg]; exact T.g.keeps F.keep) (mg_none_of X T.g e) (by rw [hb]; exact T.b.keeps F.keep) ((T.builtins x hn).trans hv) h) hd

theorem Cx.at (C : Cx d u w A L h₀) (F : Fr h₀ L s.heap m) : (KK w).In s.heap := C.X.keeps F.keep

/-- a call of a def of the top by its name -/
theorem callN (C : Cx d u w A L h₀) (F : Fr h₀ L s.heap m) {x : Str} {p pos : Pos} {f : Addr} {e : PySem.Expr} {rest : List PySem.Expr} (hx : nsIn (KK w) mainGlobals x = some (some (.ref f))) (hk : keepIn (KK w) (.ref f) = true)
    (h : wpAny (model PG w) A (spliced (backTo pos (starEach (e :: rest) env))) (fun vs s₁ => (KK w).In s₁.heap ∧ wpAny (model PG w) A (call (.ref f) vs) Q E s₁) E s)
    (hkf : env.scope.kind = .function := by rfl) (hxg : env.kindOf x = some .globalImplicit := by rfl) (hg : env.globals = mainGlobals := by rfl) (hd : (x == ("__debug__" : Str)) = false := by decide)
    (he : starEach (e :: rest) env = (false, eval e env) :: starEach rest env := by rfl) (hplain : (backTo pos (starEach rest env)).any (·.1) = false := by rfl)
    (hev : eval (.Call (.Name x p) (e :: rest) [] pos) env = (do callWith pos (← eval (.Name x p) env) [] (backTo pos (starEach (e :: rest) env)) (backToKw pos (keywordEach [] env))) := by rfl) :
    wpAny (model PG w) A (eval (.Call (.Name x p) (e :: rest) [] pos) env) Q E s :=
  Call_ (gK C F hx (callWith_K C.X hk h he hplain) hkf hxg hg hd) hev

theorem callN0 (C : Cx d u w A L h₀) (F : Fr h₀ L s.heap m) {x : Str} {p pos : Pos} {f : Addr} (hx : nsIn (KK w) mainGlobals x = some (some (.ref f))) (hk : keepIn (KK w) (.ref f) = true)
    (h : wpAny (model PG w) A (call (.ref f) []) Q E s)
    (hkf : env.scope.kind = .function := by rfl) (hxg : env.kindOf x = some .globalImplicit := by rfl) (hg : env.globals = mainGlobals := by rfl) (hd : (x == ("__debug__" : Str)) = false := by decide)
    (hev : eval (.Call (.Name x p) [] [] pos) env = (do callWith pos (← eval (.Name x p) env) [] (backTo pos (starEach [] env)) (backToKw pos (keywordEach [] env))) := by rfl) :
    wpAny (model PG w) A (eval (.Call (.Name x p) [] [] pos) env) Q E s :=
  Call_ (gK C F hx (callWith_K0 (C.at F) hk h) hkf hxg hg hd) hev

/-- a call of a built-in function by its name -/
theorem callB (C : Cx d u w A L h₀) (F : Fr h₀ L s.heap m) {x : Str} {p pos : Pos} {id : String} {e : PySem.Expr} {rest : List PySem.Expr} (hx : nsIn (KK w) mainGlobals x = some none) (hv : bootBuiltins x = some (.builtin id))
    (h : wpAny (model PG w) A (spliced (backTo pos (starEach (e :: rest) env))) (fun vs s₁ => wpAny (model PG w) A (call (.builtin id) vs) Q E s₁) E s)
    (hn : x ≠ "__name__" := by decide) (hkf : env.scope.kind = .function := by rfl) (hxg : env.kindOf x = some .globalImplicit := by rfl) (hg : env.globals = mainGlobals := by rfl) (hb : env.builtins = builtinsNs := by rfl) (hd : (x == ("__debug__" : Str)) = false := by decide)
    (he : starEach (e :: rest) env = (false, eval e env) :: starEach rest env := by rfl) (hplain : (backTo pos (starEach rest env)).any (·.1) = false := by rfl)
    (hev : eval (.Call (.Name x p) (e :: rest) [] pos) env = (do callWith pos (← eval (.Name x p) env) [] (backTo pos (starEach (e :: rest) env)) (backToKw pos (keywordEach [] env))) := by rfl) :
    wpAny (model PG w) A (eval (.Call (.Name x p) (e :: rest) [] pos) env) Q E s :=
  Call_ (gB C F hx hv (PyProof.Rows.callWith_builtin1 h he hplain) hn hkf hxg hg hb hd) hev

/-- a call of a built-in type by its name -/
theorem callT (C : Cx d u w A L h₀) (F : Fr h₀ L s.heap m) {x : Str} {p pos : Pos} {id : String} {e : PySem.Expr} {rest : List PySem.Expr} (hx : nsIn (KK w) mainGlobals x = some none) (hv : bootBuiltins x = some (.type id))
    (h : wpAny (model PG w) A (spliced (backTo pos (starEach (e :: rest) env))) (fun vs s₁ => wpAny (model PG w) A (call (.type id) vs) Q E s₁) E s)
    (hn : x ≠ "__name__" := by decide) (hkf : env.scope.kind = .function := by rfl) (hxg : env.kindOf x = some .globalImplicit := by rfl) (hg : env.globals = mainGlobals := by rfl) (hb : env.builtins = builtinsNs := by rfl) (hd : (x == ("__debug__" : Str)) = false := by decide)
    (he : starEach (e :: rest) env = (false, eval e env) :: starEach rest env := by rfl) (hplain : (backTo pos (starEach rest env)).any (·.1) = false := by rfl)
    (hev : eval (.Call (.Name x p) (e :: rest) [] pos) env = (do callWith pos (← eval (.Name x p) env) [] (backTo pos (starEach (e :: rest) env)) (backToKw pos (keywordEach [] env))) := by rfl) :
    wpAny (model PG w) A (eval (.Call (.Name x p) (e :: rest) [] pos) env) Q E s :=
  Call_ (gB C F hx hv (PyProof.Rows.callWith_type1 h he hplain) hn hkf hxg hg hb hd) hev

theorem len_lo {hp : Heap} {a : Addr} {vs : List Value} {n : Nat} (hl : hp.get? a = some (lo vs n)) (hz : vs.length ≤ 1000000) (h : Q (.int vs.length (s.toks + 1)) { s with toks := s.toks + 1 + 1 }) (he : s.heap = hp := by rfl) :
    wpAny (model PG w) A (call (.builtin "len") [.ref a]) Q E s := by
  subst he
  refine PyProof.Rows.len_list ⟨_, hl, rfl, n, rfl⟩ (by simp; omega) ?_
  simpa using h
end
end Mine
end

-- R3
section
open PySem PySem.W PyProof.Rows PySem.Calls
set_option maxRecDepth 100000
set_option maxHeartbeats 1000000
namespace Mine
open LCg

/-- an iterator and how it stays -/
structure Wk (w : World) (A : Around) (h₀ : Heap) (L I : Addr) (n : Nat) (P : Nat → Value → Prop) (St : Nat → Heap → Prop) (S : List (Addr × Obj) → Prop) : Prop where
  W : ∃ fp, Walks PG w A I fp [I] n P St
  io : ∀ i h, St i h → ∃ o, h.get? I = some o
  st : ∀ i h h' o nw, St i h → h.get? I = some o → h'.get? I = some o → (∀ b o, h₀.get? b = some o → h'.get? b = some o) → News h₀ L h' nw → S nw → St i h'
theorem Wk.range {w : World} {A : Around} {h₀ : Heap} {L I : Addr} {a c : Int} {n : Nat} (hh : A.handled = none) :
    Wk w A h₀ L I n (fun i v => ∃ t, v = .int (a + i * c) t) (fun i h => IsRangeIter h I (a + (i : Nat) * c) ((n : Int) - (i : Nat)) c) (fun _ => True) :=
  ⟨⟨_, Walks.range hh I a c n⟩, fun i h st => ⟨_, st⟩, fun i h h' o nw st e e' _ _ _ => by
    have st' : h.get? I = some _ := st
    show h'.get? I = some _
    rw [e', ← e]; exact st'⟩
theorem Wk.list {w : World} {A : Around} {h₀ : Heap} {L I ax : Addr} {its : Array Value} (hh : A.handled = none) (hne : ax ≠ I) :
    Wk w A h₀ L I its.size (fun i v => its[i]? = some v) (fun i h => h.IsListIter I ax i ∧ h.IsList ax its) (SrcAt h₀ ax its) :=
  ⟨⟨_, Walks.list hh I ax hne its⟩, fun i h st => by obtain ⟨o, e, _⟩ := st.1; exact ⟨o, e⟩, list_st⟩

section
variable {d u : Nat} {w : World} {A : Around} {E : Value → Shared → Prop} {s : Shared} {L : Addr} {h₀ : Heap} {m : Str → Option Value} {news : List (Addr × Obj)} {env : Env}

theorem for_loop {R : Result → Shared → Prop} {x : Str} {px : Pos} {body : List Stmt} {I : Addr} {n : Nat} {P : Nat → Value → Prop} {St : Nat → Heap → Prop} {S : List (Addr × Obj) → Prop}
    (V : Wk w A h₀ L I n P St S) (hL : env.locals = L) (hx : env.kindOf x = some .local) (hp : (env.scope.kind == .class || (env.scope.kind == .module && env.locals != env.globals)) = false)
    (F : Fr h₀ L s.heap m) (N : News h₀ L s.heap news) (hst : St 0 s.heap) (hI : I ≠ L) (hI₀ : h₀.get? I = none) (off : ∀ p ∈ news, p.1 ≠ I) (hS : S news)
    (J : Nat → (Str → Option Value) → List (Addr × Obj) → Prop) (h0 : J 0 m news)
    (step : ∀ i v m₁ news₁ s₁ oI, i < n → P i v → J i m₁ news₁ → Same s s₁ → Fr h₀ L s₁.heap (fun y => if y = x then some v else m₁ y) → News h₀ L s₁.heap ((I, oI) :: news₁) → (∀ p ∈ news₁, p.1 ≠ I) → S news₁ →
      wpAny (model PG w) A (execs body env) (fun f s₂ => f = .next ∧ ∃ m₂ news₂, Same s₁ s₂ ∧ Fr h₀ L s₂.heap m₂ ∧ News h₀ L s₂.heap ((I, oI) :: news₂) ∧ (∀ p ∈ news₂, p.1 ≠ I) ∧ S news₂ ∧ J (i + 1) m₂ news₂) (fun _ _ => False) s₁)
    (hR : ∀ s' m' news', Same s s' → Fr h₀ L s'.heap m' → News h₀ L s'.heap news' → J n m' news' → R (.ok .next) s') :
    codeAny (model PG w) A (.forLoop (.Name x px) (.ref I) body [] env) R s := by
  subst hL
  obtain ⟨fp, W⟩ := V.W
  refine codeAny_forLoop (fun k s' => ∃ i m' news', k = n + 1 - i ∧ i ≤ n ∧ Same s s' ∧ St i s'.heap ∧ Fr h₀ env.locals s'.heap m' ∧ News h₀ env.locals s'.heap news' ∧ (∀ p ∈ news', p.1 ≠ I) ∧ S news' ∧ J i m' news') ?_ (n + 1)
    ⟨0, m, news, rfl, Nat.zero_le _, Same.rfl', hst, F, N, off, hS, h0⟩
  rintro k s' ⟨i, m', news', rfl, hi, sm, st, F', N', off', hS', hJ⟩
  have keepF : ∀ {h'}, (∀ b o, b ∉ [I] → s'.heap.get? b = some o → h'.get? b = some o) → Fr h₀ env.locals h' m' := fun hk => fr_but F' hk (Ne.symm hI) hI₀
  have keepN : ∀ {h'}, (∀ b o, b ∉ [I] → s'.heap.get? b = some o → h'.get? b = some o) → News h₀ env.locals h' news' := fun hk => news_but N' hk off'
  by_cases hlt : i < n
  · refine W.item i s' _ _ hlt st fun v h' tk hv st' hk => ?_
    dsimp only
    refine wpAny_assign_Name (wpAny_storeName_local hx (keepF hk).ns (fun h₂ hn₂ hs₂ => ?_) hp)
    have F₂ := (keepF hk).set hn₂ hs₂
    have N₂ := (keepN hk).set hs₂
    obtain ⟨oI, eI⟩ := V.io _ _ st'
    have eI₂ : h₂.get? I = some oI := (hs₂.2 I hI).trans eI
    have N₃ : News h₀ env.locals h₂ ((I, oI) :: news') := fun p hp => by
      rcases List.mem_cons.mp hp with rfl | hp
      · exact ⟨eI₂, hI, hI₀⟩
      · exact N₂ p hp
    refine wpAny_mono (step i v m' news' _ oI hlt hv hJ ⟨sm.gens, sm.os⟩ F₂ N₃ off' hS') ?_ fun _ _ x => x.elim
    rintro f s₃ ⟨rfl, m₃, news₃, sm₃, F₃, N₃', off₃, hS₃, hJ₃⟩
    have eI₃ := (N₃' (I, oI) (.head _)).1
    have N₄ : News h₀ env.locals s₃.heap news₃ := fun p hp => N₃' p (.tail _ hp)
    have st₂ : St (i + 1) h₂ := V.st _ _ _ _ _ st' eI eI₂ F₂.keep N₂ hS'
    exact ⟨n + 1 - (i + 1), by omega, i + 1, m₃, news₃, rfl, hlt, sm.nx sm₃, V.st _ _ _ _ _ st₂ eI₂ eI₃ F₃.keep N₄ hS₃, F₃, N₄, off₃, hS₃, hJ₃⟩
  · have : i = n := by omega
    subst this
    refine W.done s' _ _ st fun h' tk hk => ?_
    exact wpAny_execs_nil (hR _ m' news' ⟨sm.gens, sm.os⟩ (keepF hk) (keepN hk) hJ)
end
end Mine
end

-- R4
section
open PySem PySem.W PyProof.Rows PySem.Calls
set_option maxRecDepth 100000
set_option maxHeartbeats 1000000
namespace Mine
section
variable {w : World} {A : Around} {E : Value → Shared → Prop} {s : Shared}

theorem call_range_reversed {l : Addr} {t u v : Tok} {Q : Value → Shared → Prop} (hl : IsRange s.heap l 0 2 1 t u v)
    (h : Q (.ref s.heap.objs.size) { s with heap := s.heap.push { cls := .type "range_iterator", data := .fields #[rawInt 1, rawInt 2, rawInt (-1)] } }) : wpAny (model PG w) A (call (.builtin "range.__reversed__") [.ref l]) Q E s := by
  have ho : s.heap.get? l = some _ := hl
  refine wpAny_call_entry F.slot_range_reversed ⟨_, ho, rfl⟩ F.entry_range_reversed ?_ (F.args_range_reversed_1 _)
  unfold Builtin.«range.__reversed__»
  refine wpAny_bind (wpAny_of_eq (a := Value.ref l) rfl ?_)
  refine wpAny_bind ?_
  unfold Builtin.Range.rangeFields
  refine wpAny_bind (wpAny_field ho rfl (x := .int 0 t) rfl (wpAny_bind (wpAny_of_eq (a := some 0) rfl ?_)))
  refine wpAny_bind (wpAny_field ho rfl (x := .int 2 u) rfl (wpAny_bind (wpAny_of_eq (a := some 2) rfl ?_)))
  refine wpAny_bind (wpAny_field ho rfl (x := .int 1 v) rfl (wpAny_bind (wpAny_of_eq (a := some 1) rfl ?_)))
  refine wpAny_pure ?_
  dsimp only
  rw [if_neg (by decide), if_pos (by decide)]
  refine wpAny_bind (wpAny_newObj_type ?_)
  exact wpAny_pure ⟨_, rfl, h⟩

theorem call_reversed_range {l : Addr} {t u v : Tok} {Q : Value → Shared → Prop} (hl : IsRange s.heap l 0 2 1 t u v)
    (h : Q (.ref s.heap.objs.size) { s with heap := s.heap.push { cls := .type "range_iterator", data := .fields #[rawInt 1, rawInt 2, rawInt (-1)] } }) : wpAny (model PG w) A (call (.type "reversed") [.ref l]) Q E s := by
  have ho : s.heap.get? l = some _ := hl
  refine callType_other (U := "range_iterator") (Q₁ := fun obj s₁ => obj = .ref s.heap.objs.size ∧ s₁ = { s with heap := s.heap.push { cls := .type "range_iterator", data := .fields #[rawInt 1, rawInt 2, rawInt (-1)] } }) (by decide +kernel) F.create_reversed ⟨_, _, F.mro_reversed⟩ F.made_reversed (by rw [isSubtype_type]; kernel_rfl) (F.typeCall_reversed_1 _) ?_ ?_
  · refine codeAny_of_tree ?_
    show wpAny _ A.in1.in1 (do checkBuiltinCall "reversed.__new__" ⟨[.type "reversed", .ref l], []⟩; again (.builtin "reversed.__new__" ⟨[.type "reversed", .ref l], []⟩)) _ _ s
    refine wpAny_bind (wpAny_of_eq (F.newCall_reversed_1 _) (wpAny_pure ⟨plainId_quiet F.plain_reversed_new _, codeAny_builtin F.entry_reversed_new ?_⟩))
    rw [Around.under_plainId F.plain_reversed_new _]
    unfold Builtin.«reversed.__new__»
    refine wpAny_bind (wpAny_of_eq (newClass_reversed _) ?_)
    try dsimp only
    refine wpAny_bind (wpAny_of_eq (a := ()) (by first | rfl | kernel_rfl) ?_)
    refine wpAny_bind (wpAny_of_eq (a := ()) (by first | rfl | kernel_rfl) ?_)
    try dsimp only
    refine wpAny_bind (wpAny_specialOf ⟨_, ho, rfl⟩ F.slot_range_reversed.lookup ?_)
    try dsimp only
    refine wpAny_bind (wpAny_of_eq (F.slot_range_reversed.bind _) ?_)
    try dsimp only
    rw [if_neg (show ¬ ((Value.builtin "range.__reversed__" == Value.none) = true) from Bool.false_ne_true)]
    refine wpAny_bind (wpAny_rule ?_)
    refine wpAny_bind (m := runValue (.call (.builtin "range.__reversed__") ⟨[.ref l], []⟩)) (show wpAny _ _ (call (.builtin "range.__reversed__") [.ref l]) _ _ _ from call_range_reversed hl ?_)
    exact wpAny_pure ⟨rfl, rfl⟩
  · rintro obj s₁ ⟨rfl, rfl⟩
    exact ⟨⟨_, Heap.get?_push_size _ rfl, rfl⟩, h⟩
end

noncomputable abbrev rgObj (a b c : Int) (t u v : Tok) : Obj := { cls := .type "range", data := .fields #[.int a t, .int b u, .int c v] }
noncomputable abbrev riObj (a n c : Int) : Obj := { cls := .type "range_iterator", data := .fields #[rawInt a, rawInt n, rawInt c] }
noncomputable abbrev liObj (l : Addr) : Obj := { cls := .type "list_iterator", data := .fields #[.ref l, .int 0 0] }

section
variable {w : World} {A : Around} {E : Value → Shared → Prop} {s : Shared} {L : Addr} {h₀ : Heap} {m : Str → Option Value} {news : List (Addr × Obj)} {Q : Value → Shared → Prop} {env : Env}

theorem pushS (F : Fr h₀ L s.heap m) (N : News h₀ L s.heap news) {o : Obj} (hf : o.isFreed = false := by rfl) :
    Fr h₀ L (s.heap.push o) m ∧ News h₀ L (s.heap.push o) ((s.heap.objs.size, o) :: news) ∧ ∀ p ∈ news, p.1 < s.heap.objs.size := ⟨F.push o, N.push F o hf, fun p hp => Heap.lt_size (N p hp).1⟩

theorem rangeS1 {hp : Heap} (F : Fr h₀ L hp m) (N : News h₀ L hp news) {n : Int} {t : Tok}
    (h : ∀ r t' v' s', Same s s' → Fr h₀ L s'.heap m → News h₀ L s'.heap ((r, rgObj 0 n 1 t' t v') :: news) → (∀ p ∈ news, p.1 < r) → Q (.ref r) s') (he : s.heap = hp := by rfl) : wpAny (model PG w) A (call (.type "range") [.int n t]) Q E s := by
  subst he; exact PySem.call_range_1 (h _ _ _ _ ⟨rfl, rfl⟩ (F.push _) (N.push F _) (fun p hp => Heap.lt_size (N p hp).1))
theorem rangeS2 {hp : Heap} (F : Fr h₀ L hp m) (N : News h₀ L hp news) {a n : Int} {t u : Tok}
    (h : ∀ r v' s', Same s s' → Fr h₀ L s'.heap m → News h₀ L s'.heap ((r, rgObj a n 1 t u v') :: news) → (∀ p ∈ news, p.1 < r) → Q (.ref r) s') (he : s.heap = hp := by rfl) : wpAny (model PG w) A (call (.type "range") [.int a t, .int n u]) Q E s := by
  subst he; exact PySem.call_range_2 (h _ _ _ ⟨rfl, rfl⟩ (F.push _) (N.push F _) (fun p hp => Heap.lt_size (N p hp).1))
theorem rangeS3 {hp : Heap} (F : Fr h₀ L hp m) (N : News h₀ L hp news) {a n c : Int} {t u v : Tok} (hc : c ≠ 0) (hq : Builtin.divisionGoesByPylong (n - a) c = false)
    (h : ∀ r s', Same s s' → Fr h₀ L s'.heap m → News h₀ L s'.heap ((r, rgObj a n c t u v) :: news) → (∀ p ∈ news, p.1 < r) → Q (.ref r) s') (he : s.heap = hp := by rfl) : wpAny (model PG w) A (call (.type "range") [.int a t, .int n u, .int c v]) Q E s := by
  subst he; exact call_range_3 (hp := .inl hq) hc (h _ _ ⟨rfl, rfl⟩ (F.push _) (N.push F _) (fun p hp => Heap.lt_size (N p hp).1))
theorem revRangeS {hp : Heap} (F : Fr h₀ L hp m) (N : News h₀ L hp news) {r : Addr} {t u v : Tok} (hr : (r, rgObj 0 2 1 t u v) ∈ news)
    (h : ∀ i s', Same s s' → Fr h₀ L s'.heap m → News h₀ L s'.heap ((i, riObj 1 2 (-1)) :: news) → (∀ p ∈ news, p.1 < i) → Q (.ref i) s') (he : s.heap = hp := by rfl) : wpAny (model PG w) A (call (.type "reversed") [.ref r]) Q E s := by
  subst he; exact call_reversed_range (N _ hr).1 (h _ _ ⟨rfl, rfl⟩ (F.push _) (N.push F _) (fun p hp => Heap.lt_size (N p hp).1))
theorem iterRangeS {hp : Heap} (F : Fr h₀ L hp m) (N : News h₀ L hp news) {r : Addr} {a b c : Int} {t u v : Tok} (hr : (r, rgObj a b c t u v) ∈ news) (hs : Builtin.Range.small a b c = true)
    (h : ∀ i s', Same s s' → Fr h₀ L s'.heap m → News h₀ L s'.heap ((i, riObj a (Builtin.Range.rangeSize a b c) c) :: news) → (∀ p ∈ news, p.1 < i) → Q (.ref i) s') (he : s.heap = hp := by rfl) : wpAny (model PG w) A (pyIter (.ref r)) Q E s := by
  subst he; exact wpAny_pyIter_range (N _ hr).1 hs (h _ _ ⟨rfl, rfl⟩ (F.push _) (N.push F _) (fun p hp => Heap.lt_size (N p hp).1))
theorem iterListS {hp : Heap} (F : Fr h₀ L hp m) (N : News h₀ L hp news) {l : Addr} {vs : List Value} {n : Nat} (hl : (l, lo vs n) ∈ news)
    (h : ∀ i s', Same s s' → Fr h₀ L s'.heap m → News h₀ L s'.heap ((i, liObj l) :: news) → (∀ p ∈ news, p.1 < i) → Q (.ref i) s') (he : s.heap = hp := by rfl) : wpAny (model PG w) A (pyIter (.ref l)) Q E s := by
  subst he; exact wpAny_pyIter_list (items := vs.toArray) ⟨_, (N _ hl).1, rfl, n, rfl⟩ (h _ _ ⟨rfl, rfl⟩ (F.push _) (N.push F _) (fun p hp => Heap.lt_size (N p hp).1))
theorem iterIterS {hp : Heap} {i : Addr} {a n c : Int} (hi : hp.get? i = some (riObj a n c)) (h : Q (.ref i) s) (he : s.heap = hp := by rfl) : wpAny (model PG w) A (pyIter (.ref i)) Q E s := by
  subst he; exact wpAny_pyIter_rangeiter hi h

/-- a for over a range iterator of the ledger -/
theorem for_ri {R : Result → Shared → Prop} {x : Str} {px : Pos} {body : List Stmt} {I : Addr} {a c : Int} {n : Nat}
    (hh : A.handled = none) (hL : env.locals = L) (F : Fr h₀ L s.heap m) (N : News h₀ L s.heap ((I, riObj a n c) :: news)) (off : ∀ p ∈ news, p.1 ≠ I)
    (J : Nat → (Str → Option Value) → List (Addr × Obj) → Prop) (h0 : J 0 m news)
    (step : ∀ i t m₁ news₁ s₁ oI, i < n → J i m₁ news₁ → Same s s₁ → Fr h₀ L s₁.heap (fun y => if y = x then some (.int (a + i * c) t) else m₁ y) → News h₀ L s₁.heap ((I, oI) :: news₁) → (∀ p ∈ news₁, p.1 ≠ I) →
      wpAny (model PG w) A (execs body env) (fun f s₂ => f = .next ∧ ∃ m₂ news₂, Same s₁ s₂ ∧ Fr h₀ L s₂.heap m₂ ∧ News h₀ L s₂.heap ((I, oI) :: news₂) ∧ (∀ p ∈ news₂, p.1 ≠ I) ∧ J (i + 1) m₂ news₂) (fun _ _ => False) s₁)
    (hR : ∀ s' m' news', Same s s' → Fr h₀ L s'.heap m' → News h₀ L s'.heap news' → J n m' news' → R (.ok .next) s')
    (hx : env.kindOf x = some .local := by rfl) (hp : (env.scope.kind == .class || (env.scope.kind == .module && env.locals != env.globals)) = false := by rfl) :
    codeAny (model PG w) A (.forLoop (.Name x px) (.ref I) body [] env) R s := by
  have hI := N (I, riObj a n c) (.head _)
  refine for_loop (Wk.range (a := a) (c := c) (n := n) hh) hL hx hp F (fun p hp => N p (.tail _ hp)) ?_ hI.2.1 hI.2.2 off trivial J h0 ?_ hR
  · have := hI.1
    simpa using this
  · rintro i v m₁ news₁ s₁ oI hi ⟨t, rfl⟩ hJ sm F₁ N₁ off₁ _
    exact wpAny_mono (step i t m₁ news₁ s₁ oI hi hJ sm F₁ N₁ off₁) (fun f s₂ ⟨e, m₂, news₂, a1, a2, a3, a4, a5⟩ => ⟨e, m₂, news₂, a1, a2, a3, a4, trivial, a5⟩) fun _ _ x => x

theorem for_li {R : Result → Shared → Prop} {x : Str} {px : Pos} {body : List Stmt} {I l : Addr} {vs : List Value}
    (hh : A.handled = none) (hL : env.locals = L) (F : Fr h₀ L s.heap m) (N : News h₀ L s.heap ((I, liObj l) :: news)) (off : ∀ p ∈ news, p.1 ≠ I) (hl : ∃ k, (l, lo vs k) ∈ news)
    (J : Nat → (Str → Option Value) → List (Addr × Obj) → Prop) (h0 : J 0 m news)
    (step : ∀ i v m₁ news₁ s₁ oI, vs[i]? = some v → J i m₁ news₁ → Same s s₁ → Fr h₀ L s₁.heap (fun y => if y = x then some v else m₁ y) → News h₀ L s₁.heap ((I, oI) :: news₁) → (∀ p ∈ news₁, p.1 ≠ I) → (∃ k, (l, lo vs k) ∈ news₁) →
      wpAny (model PG w) A (execs body env) (fun f s₂ => f = .next ∧ ∃ m₂ news₂, Same s₁ s₂ ∧ Fr h₀ L s₂.heap m₂ ∧ News h₀ L s₂.heap ((I, oI) :: news₂) ∧ (∀ p ∈ news₂, p.1 ≠ I) ∧ (∃ k, (l, lo vs k) ∈ news₂) ∧ J (i + 1) m₂ news₂) (fun _ _ => False) s₁)
    (hR : ∀ s' m' news', Same s s' → Fr h₀ L s'.heap m' → News h₀ L s'.heap news' → J vs.length m' news' → R (.ok .next) s')
    (hx : env.kindOf x = some .local := by rfl) (hp : (env.scope.kind == .class || (env.scope.kind == .module && env.locals != env.globals)) = false := by rfl) :
    codeAny (model PG w) A (.forLoop (.Name x px) (.ref I) body [] env) R s := by
  have hI := N (I, liObj l) (.head _)
  obtain ⟨k₀, hl₀⟩ := hl
  have hlI : l ≠ I := off _ hl₀
  have V : Wk w A h₀ L I vs.length (fun i v => vs[i]? = some v) (fun i h => h.IsListIter I l i ∧ h.IsList l vs.toArray) (fun nw => ∃ k, (l, lo vs k) ∈ nw) := by
    have V := Wk.list (w := w) (h₀ := h₀) (L := L) (its := vs.toArray) hh hlI
    refine ⟨?_, V.io, fun i h h' o nw st e e' k N hS => V.st i h h' o nw st e e' k N ?_⟩
    · obtain ⟨fp, W⟩ := V.W
      refine ⟨fp, ?_⟩
      simpa using W
    · obtain ⟨k, hk⟩ := hS
      exact .inr ⟨_, hk, rfl, k, rfl⟩
  refine for_loop V hL hx hp F (fun p hp => N p (.tail _ hp)) ⟨⟨_, hI.1, rfl, rfl⟩, ⟨_, (N _ (.tail _ hl₀)).1, rfl, k₀, rfl⟩⟩ hI.2.1 hI.2.2 off ⟨k₀, hl₀⟩ J h0 ?_ hR
  rintro i v m₁ news₁ s₁ oI hi hv hJ sm F₁ N₁ off₁ hS
  exact wpAny_mono (step i v m₁ news₁ s₁ oI hv hJ sm F₁ N₁ off₁ hS) (fun f s₂ ⟨e, m₂, news₂, a1, a2, a3, a4, a5, a6⟩ => ⟨e, m₂, news₂, a1, a2, a3, a4, a5, a6⟩) fun _ _ x => x
end
end Mine
end

-- Sift
section
open PySem PySem.W PyProof.Rows PySem.Calls
set_option maxRecDepth 100000
set_option maxHeartbeats 1000000
namespace Mine

/-- a heap's item: a list [n, k, x] -/
structure It where
  a : Addr
  n : Int
  k : Int
  t : Tok
  u : Tok
  x : Value
  e : Nat
noncomputable def it0 : It := ⟨0, 0, 0, 0, 0, .none, 0⟩
noncomputable def It.obj (i : It) : Obj := listOf #[.int i.n i.t, .int i.k i.u, i.x] i.e
noncomputable def It.cell (i : It) : Addr × Obj := (i.a, i.obj)
noncomputable def It.v (i : It) : Value := .ref i.a
noncomputable def It.lt (i j : It) : Bool := decide (i.n < j.n ∨ i.n = j.n ∧ i.k < j.k)

noncomputable def sdLoop (new : It) (sp : Nat) : Nat → List It → Nat → List It × Nat
  | 0, l, pos => (l, pos)
  | f + 1, l, pos => if sp < pos then (if new.lt (l.getD ((pos - 1) / 2) it0) then sdLoop new sp f (l.set pos (l.getD ((pos - 1) / 2) it0)) ((pos - 1) / 2) else (l, pos)) else (l, pos)
theorem sdLoop_fuel (new : It) (sp : Nat) : ∀ (f f' : Nat) (l : List It) (p : Nat), p ≤ f → p ≤ f' → sdLoop new sp f l p = sdLoop new sp f' l p
  | 0, 0, _, _, _, _ => rfl
  | 0, f' + 1, l, p, h, _ => by
    have : p = 0 := by omega
    subst this
    rw [sdLoop, sdLoop, if_neg (by omega)]
  | f + 1, 0, l, p, _, h => by
    have : p = 0 := by omega
    subst this
    rw [sdLoop, sdLoop, if_neg (by omega)]
  | f + 1, f' + 1, l, p, h, h' => by
    rw [sdLoop, sdLoop]
    split
    · rw [sdLoop_fuel new sp f f' _ ((p - 1) / 2) (by omega) (by omega)]
    · rfl
theorem sdLoop_end (new : It) (sp : Nat) (f : Nat) (l : List It) (p : Nat) (h : ¬ sp < p) : sdLoop new sp f l p = (l, p) := by
  cases f <;> simp [sdLoop, h]
noncomputable def sd (l : List It) (sp pos : Nat) : List It :=
  let r := sdLoop (l.getD pos it0) sp pos l pos
  r.1.set r.2 (l.getD pos it0)

section
variable {d u : Nat} {w : World} {A : Around} {E : Value → Shared → Prop} {s : Shared} {L : Addr} {h₀ : Heap} {m : Str → Option Value} {I : List (Addr × Obj)} {Q : Value → Shared → Prop}
/-- what the loop keeps, and what it ends with -/
inductive SJ (g : Heap) (L' : Addr) (s₁ : Shared) (I : List (Addr × Obj)) (H : Addr) (its : List It) (new : It) (sp pos : Nat) (t1 : Tok) (k : Nat) (s' : Shared) : Prop
  | mk (l : List It) (p : Nat) (m' : Str → Option Value) (n' : Nat) (tp : Tok) (y0 : p = k) (y1 : p ≤ pos) (y2 : l.length = its.length) (y3 : ∀ j, j < p → l.getD j it0 = its.getD j it0) (y4 : sdLoop new sp p l p = sdLoop new sp pos its pos) (sm : Same s₁ s')
    (F : Fr g L' s'.heap m') (N : News g L' s'.heap ((H, lo (l.map It.v) n') :: I)) (e1 : m' (Str.ofString "heap") = some (.ref H)) (e2 : m' (Str.ofString "startpos") = some (.int sp t1)) (e3 : m' (Str.ofString "pos") = some (.int p tp)) (e4 : m' (Str.ofString "newitem") = some new.v) : SJ g L' s₁ I H its new sp pos t1 k s'
inductive SX (g : Heap) (L' : Addr) (s₁ : Shared) (I : List (Addr × Obj)) (H : Addr) (its : List It) (new : It) (sp pos : Nat) (s' : Shared) : Prop
  | mk (l : List It) (p : Nat) (m' : Str → Option Value) (n' : Nat) (tp : Tok) (y1 : p < its.length) (y2 : l.length = its.length) (y4 : (l, p) = sdLoop new sp pos its pos) (sm : Same s₁ s')
    (F : Fr g L' s'.heap m') (N : News g L' s'.heap ((H, lo (l.map It.v) n') :: I)) (e1 : m' (Str.ofString "heap") = some (.ref H)) (e3 : m' (Str.ofString "pos") = some (.int p tp)) (e4 : m' (Str.ofString "newitem") = some new.v) : SX g L' s₁ I H its new sp pos s'
theorem siftdown_call {hp₀ : Heap} (C : Cx d u w A L h₀) (F : Fr h₀ L hp₀ m) {H : Addr} {its : List It} {n : Nat} (N : News h₀ L hp₀ ((H, lo (its.map It.v) n) :: I)) (hI : Off H I)
    (hd : d < 800) (hu : u < 2000) {sp pos : Nat} {t1 t2 : Tok} (hp : pos < its.length) (hz : its.length ≤ 1000) (hc : ∀ i ∈ its, i.cell ∈ I)
    (hne : ∀ j, j < pos → ¬ ((its.getD pos it0).n = (its.getD j it0).n ∧ (its.getD pos it0).k = (its.getD j it0).k))
    (h : ∀ s' n', Same s s' → Fr h₀ L s'.heap m → News h₀ L s'.heap ((H, lo ((sd its sp pos).map It.v) n') :: I) → Q .none s') (he : s.heap = hp₀ := by rfl) :
    wpAny (model PG w) A (call (.ref 98) [.ref H, .int sp t1, .int pos t2]) Q E s := by
  subst he
  refine call_def C F N rfl rfl (by omega) rfl (locs rfl) (fun v news' => v = .none ∧ ∃ n', news' = (H, lo ((sd its sp pos).map It.v) n') :: I) ?_ ?_
  · intro g L' A' s₁ C' F' N' sm l
    have hC := (N' _ (.head _)).1
    generalize hnew : its.getD pos it0 = new at *
    have hg : ∀ (l : List It) j, j < l.length → (l.map It.v)[j]? = some (l.getD j it0).v := fun l j hj => by
      rw [List.getElem?_map, List.getElem?_eq_getElem hj, List.getD_eq_getElem?_getD, List.getElem?_eq_getElem hj]; rfl
    have hmem : ∀ j, j < its.length → its.getD j it0 ∈ its := fun j hj => by
      rw [List.getD_eq_getElem?_getD, List.getElem?_eq_getElem hj]; exact List.getElem_mem hj
    have hu' : A'.units < cLine := Nat.lt_of_le_of_lt C'.units (Nat.lt_of_lt_of_le (Nat.add_lt_add_right hu 3) (by decide))
    refine wpAny_execs_cons (wpAny_Assign_Name (Subscript_ (ld F' rfl (ld F' rfl (tail_list hC (Int.natCast_nonneg _) (hnew ▸ hg its pos hp : _ = some new.v) (by simp; omega) ?_)))))
    refine stS F' N' fun s₂ sm₂ F₂ N₂ => ?_
    refine wpAny_execs_cons (while_to
      (SJ g L' s₁ I H its new sp pos t1) (SX g L' s₁ I H its new sp pos)
      pos ⟨its, pos, _, n, t2, rfl, Nat.le_refl _, rfl, fun _ _ => rfl, rfl, ⟨sm₂.gens, sm₂.os⟩, F₂, N₂, rfl, rfl, rfl, rfl⟩ ?_ ?_)
    · rintro k s₃ ⟨l, p, m', n', tp, rfl, hp', hl, hold, hloop, sm₃, F₃, N₃, e1, e2, e3, e4⟩
      refine wpAny_isTrue_Compare1 (ld F₃ e3 (ld F₃ e2 (gt_int (wpAny_truthy_bool ?_))))
      by_cases hlt : sp < p
      · have : decide ((p : Int) > (sp : Int)) = true := by simp; omega
        rw [this]
        simp only [if_true]
        refine wpAny_execs_cons (wpAny_Assign_Name (wpAny_BinOp (wpAny_BinOp (ld F₃ e3 (wpAny_Constant_int (sub_int (wpAny_Constant_int (rshift_int (by decide) ?_))))))))
        have hq : ((p : Int) - 1).fdiv (2 ^ Int.toNat 1) = (((p - 1) / 2 : Nat) : Int) := by
          rw [Int.fdiv_eq_ediv_of_nonneg _ (by decide)]
          show ((p : Int) - 1) / 2 = _
          omega
        rw [hq]
        refine stS F₃ N₃ fun s₄ sm₄ F₄ N₄ => ?_
        have hpp : (p - 1) / 2 < p := by omega
        have hpar := hg l ((p - 1) / 2) (by omega)
        have hpe : l.getD ((p - 1) / 2) it0 = its.getD ((p - 1) / 2) it0 := hold _ hpp
        refine wpAny_execs_cons (wpAny_Assign_Name (Subscript_ (ld F₄ e1 (ld F₄ rfl (tail_list (N₄ _ (.head _)).1 (Int.natCast_nonneg _) hpar (by simp; omega) ?_)))))
        refine stS F₄ N₄ fun s₅ sm₅ F₅ N₅ => ?_
        have hcn := (N₅ _ (.tail _ (hc new (hnew ▸ hmem pos hp)))).1
        have hcp := (N₅ _ (.tail _ (hc _ (hmem ((p - 1) / 2) (by omega))))).1
        rw [← hpe] at hcp
        refine wpAny_execs_cons (wpAny_If (wpAny_isTrue_Compare1 (ld F₅ e4 (ld F₅ rfl (lt_items hcn hcp ?_ hu' (wpAny_truthy_bool ?_))))))
        · rw [hpe]; exact hne _ (by omega)
        have hun : sdLoop new sp p l p = if new.lt (l.getD ((p - 1) / 2) it0) then sdLoop new sp (p - 1) (l.set p (l.getD ((p - 1) / 2) it0)) ((p - 1) / 2) else (l, p) := by
          obtain ⟨q, rfl⟩ : ∃ q, p = q + 1 := ⟨p - 1, by omega⟩
          rw [sdLoop, if_pos hlt]; rfl
        by_cases hb : new.lt (l.getD ((p - 1) / 2) it0) = true
        · have hb' := hb
          unfold It.lt at hb'
          rw [hb', if_pos rfl]
          refine wpAny_execs_cons (wpAny_Assign_Subscript (ld F₅ rfl (ld F₅ e1 (ld F₅ e3 (setS F₅ N₅ hI (Int.natCast_nonneg _) (by simp; omega) (by simp; omega) fun s₆ sm₆ F₆ N₆ => ?_)))))
          refine wpAny_execs_cons (wpAny_Assign_Name (ld F₆ rfl (stS F₆ N₆ fun s₇ sm₇ F₇ N₇ => ?_)))
          refine wpAny_execs_cons (wpAny_Continue ?_)
          refine ⟨(p - 1) / 2, hpp, l.set p (l.getD ((p - 1) / 2) it0), _, _, n', _, rfl, by omega, by rw [List.length_set, hl], fun j hj => ?_, ?_, ⟨?_, ?_⟩, F₇, ?_, e1, e2, rfl, e4⟩
          · rw [← hold j (by omega)]
            simp only [List.getD_eq_getElem?_getD, List.getElem?_set_ne (show p ≠ j by omega)]
          · rw [← hloop, hun, if_pos hb]; exact sdLoop_fuel _ _ _ _ _ _ (Nat.le_refl _) (by omega)
          · exact sm₇.gens.trans (sm₆.gens.trans (sm₅.gens.trans (sm₄.gens.trans sm₃.gens)))
          · exact sm₇.os.trans (sm₆.os.trans (sm₅.os.trans (sm₄.os.trans sm₃.os)))
          · rw [List.map_set]; exact N₇
        · have hb' := Bool.eq_false_iff.mpr hb
          unfold It.lt at hb'
          rw [hb']
          simp only [Bool.false_eq_true, if_false]
          refine wpAny_execs_nil (wpAny_execs_cons (wpAny_Break ?_))
          refine ⟨l, p, _, n', tp, by omega, hl, ?_, ⟨?_, ?_⟩, F₅, N₅, e1, e3, e4⟩
          · rw [← hloop, hun, if_neg hb]
          · exact (sm₅.gens.trans (sm₄.gens.trans sm₃.gens))
          · exact (sm₅.os.trans (sm₄.os.trans sm₃.os))
      · have : decide ((p : Int) > (sp : Int)) = false := by simp; omega
        rw [this]
        simp only [Bool.false_eq_true, if_false]
        exact ⟨l, p, m', n', tp, by omega, hl, (sdLoop_end _ _ _ _ _ hlt).symm.trans hloop, sm₃, F₃, N₃, e1, e3, e4⟩
    · rintro s₃ ⟨l, p, m', n', tp, hp', hl, hloop, sm₃, F₃, N₃, e1, e3, e4⟩
      refine wpAny_execs_cons (wpAny_Assign_Subscript (ld F₃ e4 (ld F₃ e1 (ld F₃ e3 (setS F₃ N₃ hI (Int.natCast_nonneg _) (by simp; omega) (by simp; omega) fun s₄ sm₄ F₄ N₄ => ?_)))))
      refine wpAny_execs_nil ⟨_, _, sm₃.trans sm₄, F₄, N₄, rfl, n', ?_⟩
      unfold sd
      rw [hnew, ← hloop]
      simp only [List.map_set]
      rfl
  · rintro v s' news' sm F' N' ⟨rfl, n', rfl⟩
    exact h s' n' sm F' N'
end
end Mine
end

-- Siftup
section
open PySem PySem.W PyProof.Rows PySem.Calls
set_option maxRecDepth 100000
set_option maxHeartbeats 1000000
namespace Mine

noncomputable def suChild (l : List It) (c : Nat) : Nat := if c + 1 < l.length ∧ (l.getD c it0).lt (l.getD (c + 1) it0) = false then c + 1 else c
noncomputable def suLoop : Nat → List It → Nat → List It × Nat
  | 0, l, p => (l, p)
  | f + 1, l, p => if 2 * p + 1 < l.length then suLoop f (l.set p (l.getD (suChild l (2 * p + 1)) it0)) (suChild l (2 * p + 1)) else (l, p)
theorem suChild_ge (l : List It) (c : Nat) : c ≤ suChild l c := by unfold suChild; split <;> omega
theorem suChild_lt (l : List It) (c : Nat) (h : c < l.length) : suChild l c < l.length := by unfold suChild; split <;> omega
theorem suLoop_fuel : ∀ (f f' : Nat) (l : List It) (p : Nat), l.length ≤ p + f → l.length ≤ p + f' → suLoop f l p = suLoop f' l p
  | 0, 0, _, _, _, _ => rfl
  | 0, f' + 1, l, p, h, _ => by rw [suLoop, suLoop, if_neg (by omega)]
  | f + 1, 0, l, p, _, h => by rw [suLoop, suLoop, if_neg (by omega)]
  | f + 1, f' + 1, l, p, h, h' => by
    rw [suLoop, suLoop]
    split
    · have := suChild_ge l (2 * p + 1)
      rw [suLoop_fuel f f' _ _ (by rw [List.length_set]; omega) (by rw [List.length_set]; omega)]
    · rfl
theorem suLoop_step (f : Nat) (l : List It) (p : Nat) (hf : 0 < f) (h : 2 * p + 1 < l.length) : suLoop f l p = suLoop (f - 1) (l.set p (l.getD (suChild l (2 * p + 1)) it0)) (suChild l (2 * p + 1)) := by
  obtain ⟨q, rfl⟩ : ∃ q, f = q + 1 := ⟨f - 1, by omega⟩
  rw [suLoop, if_pos h]; rfl
theorem suLoop_end (f : Nat) (l : List It) (p : Nat) (h : ¬ 2 * p + 1 < l.length) : suLoop f l p = (l, p) := by
  cases f <;> simp [suLoop, h]
noncomputable def su (l : List It) (pos : Nat) : List It :=
  let r := suLoop l.length l pos
  sd (r.1.set r.2 (l.getD pos it0)) pos r.2

/-- no two items have one key -/
noncomputable def Dist (l : List It) : Prop := ∀ i j, i < l.length → j < l.length → i ≠ j → ¬ ((l.getD i it0).n = (l.getD j it0).n ∧ (l.getD i it0).k = (l.getD j it0).k)

theorem getD_map_v (l : List It) (j : Nat) (hj : j < l.length) : (l.map It.v)[j]? = some (l.getD j it0).v := by
  rw [List.getElem?_map, List.getElem?_eq_getElem hj, List.getD_eq_getElem?_getD, List.getElem?_eq_getElem hj]; rfl
theorem getD_mem (l : List It) (j : Nat) (hj : j < l.length) : l.getD j it0 ∈ l := by
  rw [List.getD_eq_getElem?_getD, List.getElem?_eq_getElem hj]; exact List.getElem_mem hj
theorem getD_set_self (l : List It) (j : Nat) (x : It) (hj : j < l.length) : (l.set j x).getD j it0 = x := by
  rw [List.getD_eq_getElem?_getD, List.getElem?_set_self hj]; rfl
theorem getD_set_ne (l : List It) (i j : Nat) (x : It) (h : i ≠ j) : (l.set i x).getD j it0 = l.getD j it0 := by
  rw [List.getD_eq_getElem?_getD, List.getElem?_set_ne h, List.getD_eq_getElem?_getD]

theorem mul_small (p : Nat) (h : p ≤ 1000) : IntMulOk 2 (p : Int) := IntMulOk.of_left (by decide)
section
variable {d u : Nat} {w : World} {A : Around} {E : Value → Shared → Prop} {s : Shared} {L : Addr} {h₀ : Heap} {m : Str → Option Value} {I : List (Addr × Obj)} {Q : Value → Shared → Prop}
/-- what the loop keeps, and what it ends with -/
inductive PJ (g : Heap) (L' : Addr) (s₁ : Shared) (I : List (Addr × Obj)) (H : Addr) (its : List It) (new : It) (pos : Nat) (t2 : Tok) (k : Nat) (s' : Shared) : Prop
  | mk (l : List It) (p : Nat) (m' : Str → Option Value) (n' : Nat) (tp tc : Tok) (y0 : its.length - p = k) (y1 : p < its.length) (y2 : pos ≤ p) (y3 : l.length = its.length) (y4 : ∀ j, p ≤ j → l.getD j it0 = its.getD j it0) (y5 : ∀ j, j < its.length → j ≠ p → ∃ i, i < its.length ∧ i ≠ pos ∧ l.getD j it0 = its.getD i it0)
    (y6 : suLoop its.length l p = suLoop its.length its pos) (sm : Same s₁ s') (F : Fr g L' s'.heap m') (N : News g L' s'.heap ((H, lo (l.map It.v) n') :: I)) (e1 : m' (Str.ofString "heap") = some (.ref H)) (e2 : m' (Str.ofString "startpos") = some (.int pos t2)) (e3 : m' (Str.ofString "pos") = some (.int p tp)) (e4 : m' (Str.ofString "newitem") = some new.v)
    (e5 : ∃ te, m' (Str.ofString "endpos") = some (.int its.length te)) (e6 : m' (Str.ofString "childpos") = some (.int (2 * p + 1 : Nat) tc)) : PJ g L' s₁ I H its new pos t2 k s'
inductive PX (g : Heap) (L' : Addr) (s₁ : Shared) (I : List (Addr × Obj)) (H : Addr) (its : List It) (new : It) (pos : Nat) (t2 : Tok) (s' : Shared) : Prop
  | mk (l : List It) (p : Nat) (m' : Str → Option Value) (n' : Nat) (tp : Tok) (y1 : p < its.length) (y2 : pos ≤ p) (y3 : l.length = its.length) (y5 : ∀ j, j < its.length → j ≠ p → ∃ i, i < its.length ∧ i ≠ pos ∧ l.getD j it0 = its.getD i it0)
    (y6 : (l, p) = suLoop its.length its pos) (sm : Same s₁ s') (F : Fr g L' s'.heap m') (N : News g L' s'.heap ((H, lo (l.map It.v) n') :: I)) (e1 : m' (Str.ofString "heap") = some (.ref H)) (e2 : m' (Str.ofString "startpos") = some (.int pos t2)) (e3 : m' (Str.ofString "pos") = some (.int p tp)) (e4 : m' (Str.ofString "newitem") = some new.v) : PX g L' s₁ I H its new pos t2 s'
theorem siftup_call {hp₀ : Heap} (C : Cx d u w A L h₀) (F : Fr h₀ L hp₀ m) {H : Addr} {its : List It} {n : Nat} (N : News h₀ L hp₀ ((H, lo (its.map It.v) n) :: I)) (hI : Off H I)
    (hd : d < 700) (hu : u < 1900) {pos : Nat} {t2 : Tok} (hp : pos < its.length) (hz : its.length ≤ 1000) (hc : ∀ i ∈ its, i.cell ∈ I) (hD : Dist its)
    (h : ∀ s' n', Same s s' → Fr h₀ L s'.heap m → News h₀ L s'.heap ((H, lo ((su its pos).map It.v) n') :: I) → Q .none s') (he : s.heap = hp₀ := by rfl) :
    wpAny (model PG w) A (call (.ref 105) [.ref H, .int pos t2]) Q E s := by
  subst he
  refine call_def C F N rfl rfl (by omega) rfl (locs rfl) (fun v news' => v = .none ∧ ∃ n', news' = (H, lo ((su its pos).map It.v) n') :: I) ?_ ?_
  · intro g L' A' s₁ C' F' N' sm l
    have hu' : A'.units < cLine := Nat.lt_of_le_of_lt C'.units (Nat.lt_of_lt_of_le (Nat.add_lt_add_right hu 3) (by decide))
    refine wpAny_execs_cons (wpAny_Assign_Name (callB C' F' rfl boot_len (spliced_more (ld F' rfl (spliced_none (len_lo (N' _ (.head _)).1 (by simp; omega) ?_))))))
    rw [List.length_map]
    refine stS F' N' fun s₂ sm₂ F₂ N₂ => ?_
    refine wpAny_execs_cons (wpAny_Assign_Name (ld F₂ rfl ?_))
    refine stS F₂ N₂ fun s₃ sm₃ F₃ N₃ => ?_
    generalize hnew : its.getD pos it0 = new at *
    refine wpAny_execs_cons (wpAny_Assign_Name (Subscript_ (ld F₃ rfl (ld F₃ rfl (tail_list (N₃ _ (.head _)).1 (Int.natCast_nonneg _) (hnew ▸ getD_map_v its pos hp : _ = some new.v) (by simp; omega) ?_)))))
    refine stS F₃ N₃ fun s₄ sm₄ F₄ N₄ => ?_
    refine wpAny_execs_cons (wpAny_Assign_Name (wpAny_BinOp (wpAny_BinOp (wpAny_Constant_int (ld F₄ rfl (mul_int (wpAny_Constant_int (add_int ?_)) (mul_small pos (by omega))))))))
    rw [show (2 * (pos : Int) + 1) = ((2 * pos + 1 : Nat) : Int) by omega]
    refine stS F₄ N₄ fun s₅ sm₅ F₅ N₅ => ?_
    refine wpAny_execs_cons (while_to
      (PJ g L' s₁ I H its new pos t2) (PX g L' s₁ I H its new pos t2)
      (its.length - pos) ⟨its, pos, _, n, t2, _, rfl, hp, Nat.le_refl _, rfl, fun _ _ => rfl, fun j hj hne => ⟨j, hj, hne, rfl⟩, rfl, (((Same.rfl'.nx sm₂).nx sm₃).nx sm₄).nx sm₅, F₅, N₅, rfl, rfl, rfl, rfl, ⟨_, rfl⟩, rfl⟩ ?_ ?_)
    · rintro k s₆ ⟨l, p, m', n', tp, tc, rfl, hp', hpos, hl, hold, hdis, hloop, sm₆, F₆, N₆, e1, e2, e3, e4, ⟨te, e5⟩, e6⟩
      refine wpAny_isTrue_Compare1 (ld F₆ e6 (ld F₆ e5 (PyProof.Rows.lt_int (wpAny_truthy_bool ?_))))
      by_cases hlt : 2 * p + 1 < its.length
      · have : decide (((2 * p + 1 : Nat) : Int) < (its.length : Int)) = true := by simp; omega
        rw [this]
        simp only [if_true]
        refine wpAny_execs_cons (wpAny_Assign_Name (wpAny_BinOp (ld F₆ e6 (wpAny_Constant_int (add_int ?_)))))
        rw [show (((2 * p + 1 : Nat) : Int) + 1) = ((2 * p + 1 + 1 : Nat) : Int) by omega]
        refine stS F₆ N₆ fun s₇ sm₇ F₇ N₇ => ?_
        generalize hcp : suChild l (2 * p + 1) = c at *
        -- the test and its branch: childpos is c behind it
        refine wpAny_execs_cons (wpAny_mono (Q := fun f s' => f = .next ∧ ∃ m'' tc', Same s₁ s' ∧ Fr g L' s'.heap m'' ∧ News g L' s'.heap ((H, lo (l.map It.v) n') :: I) ∧ m'' (Str.ofString "heap") = some (.ref H) ∧ m'' (Str.ofString "startpos") = some (.int pos t2) ∧ m'' (Str.ofString "pos") = some (.int p tp) ∧ m'' (Str.ofString "newitem") = some new.v ∧
          (∃ te, m'' (Str.ofString "endpos") = some (.int its.length te)) ∧ m'' (Str.ofString "childpos") = some (.int c tc')) ?_ ?_ fun _ _ x => x)
        · refine wpAny_If (isTrue_and (wpAny_isTrue_Compare1 (ld F₇ rfl (ld F₇ e5 (PyProof.Rows.lt_int (wpAny_truthy_bool ?_))))))
          by_cases hr : 2 * p + 1 + 1 < its.length
          · have : decide (((2 * p + 1 + 1 : Nat) : Int) < (its.length : Int)) = true := by simp; omega
            rw [this]
            simp only [if_true]
            have hca := (N₇ _ (.tail _ (hc _ (getD_mem its (2 * p + 1) hlt)))).1
            have hcb := (N₇ _ (.tail _ (hc _ (getD_mem its (2 * p + 1 + 1) hr)))).1
            rw [← hold _ (by omega)] at hca
            rw [← hold _ (by omega)] at hcb
            refine isTrue_and (isTrue_not (wpAny_isTrue_Compare1 (Subscript_ (ld F₇ e1 (ld F₇ e6 (tail_list (N₇ _ (.head _)).1 (Int.natCast_nonneg _) (getD_map_v l (2 * p + 1) (by omega)) (by simp; omega)
              (Subscript_ (ld F₇ e1 (ld F₇ rfl (tail_list (N₇ _ (.head _)).1 (Int.natCast_nonneg _) (getD_map_v l (2 * p + 1 + 1) (by omega)) (by simp; omega) (lt_items hca hcb ?_ hu' (wpAny_truthy_bool ?_)))))))))))) 
            · rw [hold _ (by omega), hold _ (by omega)]; exact hD _ _ hlt hr (by omega)
            by_cases hb : (l.getD (2 * p + 1) it0).lt (l.getD (2 * p + 1 + 1) it0) = true
            · have hb' := hb
              unfold It.lt at hb'
              rw [hb']
              simp only [Bool.not_true, Bool.false_eq_true, if_false]
              have hce : c = 2 * p + 1 := by rw [← hcp, suChild, if_neg (by rw [hb]; simp)]
              rw [hce]
              exact wpAny_execs_nil ⟨rfl, _, tc, sm₆.nx sm₇, F₇, N₇, e1, e2, e3, e4, ⟨te, e5⟩, e6⟩
            · have hb' := Bool.eq_false_iff.mpr hb
              unfold It.lt at hb'
              rw [hb']
              simp only [Bool.not_false, if_true]
              refine isTrue_and_nil ?_
              simp only [if_true]
              have hce : c = 2 * p + 1 + 1 := by rw [← hcp, suChild, if_pos ⟨by omega, Bool.eq_false_iff.mpr hb⟩]
              rw [hce]
              exact wpAny_execs_cons (wpAny_Assign_Name (ld F₇ rfl (stS F₇ N₇ fun s₈ sm₈ F₈ N₈ => wpAny_execs_nil ⟨rfl, _, _, (sm₆.nx sm₇).nx sm₈, F₈, N₈, e1, e2, e3, e4, ⟨te, e5⟩, rfl⟩)))
          · have : decide (((2 * p + 1 + 1 : Nat) : Int) < (its.length : Int)) = false := by simp; omega
            rw [this]
            simp only [Bool.false_eq_true, if_false]
            have hce : c = 2 * p + 1 := by rw [← hcp, suChild, if_neg (by omega)]
            rw [hce]
            exact wpAny_execs_nil ⟨rfl, _, tc, sm₆.nx sm₇, F₇, N₇, e1, e2, e3, e4, ⟨te, e5⟩, e6⟩
        · rintro f s₈ ⟨rfl, m₈, tc', sm₈, F₈, N₈, a1, a2, a3, a4, ⟨te', a5⟩, a6⟩
          have hcl : c < its.length := by rw [← hcp, ← hl]; exact suChild_lt _ _ (by omega)
          have hcg : 2 * p + 1 ≤ c := by rw [← hcp]; exact suChild_ge _ _
          dsimp only
          refine wpAny_execs_cons (wpAny_Assign_Subscript (Subscript_ (ld F₈ a1 (ld F₈ a6 (tail_list (N₈ _ (.head _)).1 (Int.natCast_nonneg _) (getD_map_v l c (by omega)) (by simp; omega)
            (ld F₈ a1 (ld F₈ a3 (setS F₈ N₈ hI (Int.natCast_nonneg _) (by simp; omega) (by simp; omega) fun s₉ sm₉ F₉ N₉ => ?_))))))))
          refine wpAny_execs_cons (wpAny_Assign_Name (ld F₉ a6 (stS F₉ N₉ fun s₁₀ sm₁₀ F₁₀ N₁₀ => ?_)))
          refine wpAny_execs_cons (wpAny_Assign_Name (wpAny_BinOp (wpAny_BinOp (wpAny_Constant_int (ld F₁₀ rfl (mul_int (wpAny_Constant_int (add_int ?_)) (mul_small c (by omega))))))))
          rw [show (2 * (c : Int) + 1) = ((2 * c + 1 : Nat) : Int) by omega]
          refine stS F₁₀ N₁₀ fun s₁₁ sm₁₁ F₁₁ N₁₁ => wpAny_execs_nil ?_
          refine ⟨its.length - c, by omega, l.set p (l.getD c it0), c, _, n', _, _, rfl, hcl, by omega, by rw [List.length_set, hl], fun j hj => ?_, fun j hj hne => ?_, ?_, ((sm₈.nx sm₉).nx sm₁₀).nx sm₁₁, F₁₁, ?_, a1, a2, rfl, a4, ⟨te', a5⟩, rfl⟩
          · rw [getD_set_ne _ _ _ _ (by omega)]; exact hold j (by omega)
          · by_cases hjp : j = p
            · subst hjp
              rw [getD_set_self _ _ _ (by omega)]
              exact hdis c hcl (by omega)
            · rw [getD_set_ne _ _ _ _ (by omega)]; exact hdis j hj hjp
          · rw [← hloop]
            rw [suLoop_step _ l p (by omega) (by omega), hcp]
            exact suLoop_fuel _ _ _ _ (by rw [List.length_set]; omega) (by rw [List.length_set]; omega)
          · rw [List.map_set]; exact N₁₁
      · have : decide (((2 * p + 1 : Nat) : Int) < (its.length : Int)) = false := by simp; omega
        rw [this]
        simp only [Bool.false_eq_true, if_false]
        refine ⟨l, p, m', n', tp, hp', hpos, hl, hdis, ?_, sm₆, F₆, N₆, e1, e2, e3, e4⟩
        rw [← hloop]
        exact (suLoop_end _ _ _ (by omega)).symm
    · rintro s₆ ⟨l, p, m', n', tp, hp', hpos, hl, hdis, hloop, sm₆, F₆, N₆, e1, e2, e3, e4⟩
      refine wpAny_execs_cons (wpAny_Assign_Subscript (ld F₆ e4 (ld F₆ e1 (ld F₆ e3 (setS F₆ N₆ hI (Int.natCast_nonneg _) (by simp; omega) (by simp; omega) fun s₇ sm₇ F₇ N₇ => ?_)))))
      rw [Int.toNat_natCast, ← List.map_set] at N₇
      refine wpAny_execs_cons (wpAny_Expr (callN C' F₇ rfl rfl (spliced_more (ld F₇ e1 (spliced_more (ld F₇ e2 (spliced_more (ld F₇ e3 (spliced_none ⟨C'.at F₇, ?_⟩)))))))))
      have hnm : new ∈ its := hnew ▸ getD_mem its pos hp
      refine siftdown_call C' F₇ N₇ hI (by omega) (by omega) (by rw [List.length_set]; omega) (by rw [List.length_set]; omega) (fun i hi => ?_) (fun j hj => ?_) fun s₈ n₈ sm₈ F₈ N₈ => ?_
      · obtain ⟨j, hj, rfl⟩ := List.mem_iff_getElem.mp hi
        rw [List.length_set] at hj
        by_cases hjp : p = j
        · subst hjp; rw [List.getElem_set_self]; exact hc _ hnm
        · obtain ⟨i', hi', _, e⟩ := hdis j (by omega) (Ne.symm hjp)
          rw [List.getD_eq_getElem?_getD, List.getElem?_eq_getElem hj] at e
          have e' : l[j] = its.getD i' it0 := e
          rw [List.getElem_set_ne hjp, e']; exact hc _ (getD_mem _ _ hi')
      · rw [getD_set_self _ _ _ (by omega), getD_set_ne _ _ _ _ (by omega)]
        obtain ⟨i', hi', hne', e⟩ := hdis j (by omega) (by omega)
        rw [e, ← hnew]; exact hD _ _ hp hi' (Ne.symm hne')
      · refine wpAny_execs_nil ⟨_, _, (sm₆.nx sm₇).nx sm₈, F₈, N₈, rfl, n₈, ?_⟩
        unfold su
        rw [← hloop, hnew]
  · rintro v s' news' sm F' N' ⟨rfl, n', rfl⟩
    exact h s' n' sm F' N'
end
end Mine
end

-- HeapF
section
open PySem PySem.W PyProof.Rows PySem.Calls
set_option maxRecDepth 100000
set_option maxHeartbeats 1000000
namespace Mine

noncomputable def hpop (its : List It) : List It := su (its.dropLast.set 0 (its.getLastD it0)) 0
noncomputable def hrep (its : List It) (x : It) : List It := su (its.set 0 x) 0

section
variable {d u : Nat} {w : World} {A : Around} {E : Value → Shared → Prop} {s : Shared} {L : Addr} {h₀ : Heap} {m : Str → Option Value} {I news : List (Addr × Obj)} {Q : Value → Shared → Prop}

theorem truthy_lo {a : Addr} {vs : List Value} {n : Nat} {Q : Bool → Shared → Prop} (hl : s.heap.get? a = some (lo vs n)) (hz : vs.length ≤ 1000000) (h : Q (decide (vs ≠ [])) { s with toks := s.toks + 1 + 1 }) :
    wpAny (model PG w) A (truthy (.ref a)) Q E s := by
  refine wpAny_truthy_list ⟨_, hl, rfl, n, rfl⟩ (by simp; omega) ?_
  have : (!vs.toArray.isEmpty) = decide (vs ≠ []) := by cases vs <;> simp
  rw [this]; exact h

theorem popS {hp₀ : Heap} {D : Addr} {vs : List Value} {y : Value} {n : Nat} (F : Fr h₀ L hp₀ m) (N : News h₀ L hp₀ ((D, lo (vs ++ [y]) n) :: I)) (hI : Off D I) (hz : vs.length < 1000000)
    (h : ∀ s', Same s s' → Fr h₀ L s'.heap m → News h₀ L s'.heap ((D, lo vs (n + 1)) :: I) → Q y s') (he : s.heap = hp₀ := by rfl) :
    wpAny (model PG w) A (call (.builtin "list.pop") [.ref D]) Q E s := by
  subst he; exact kl_pop F N (p := vs) (y := y) (kpa_last y vs) (.head hI) (by rw [sizeLine_eq]; simp; omega) fun _ F' N' => h _ ⟨rfl, rfl⟩ F' N'

theorem heappop_call {hp₀ : Heap} (C : Cx d u w A L h₀) (F : Fr h₀ L hp₀ m) {H : Addr} {its : List It} {n : Nat} (N : News h₀ L hp₀ ((H, lo (its.map It.v) n) :: I)) (hI : Off H I)
    (hd : d < 600) (hu : u < 1800) (h2 : 2 ≤ its.length) (hz : its.length ≤ 1000) (hc : ∀ i ∈ its, i.cell ∈ I) (hD : Dist (its.dropLast.set 0 (its.getLastD it0)))
    (h : ∀ s' n', Same s s' → Fr h₀ L s'.heap m → News h₀ L s'.heap ((H, lo ((hpop its).map It.v) n') :: I) → Q (its.getD 0 it0).v s') (he : s.heap = hp₀ := by rfl) :
    wpAny (model PG w) A (call (.ref 77) [.ref H]) Q E s := by
  subst he
  refine call_def C F N rfl rfl (by omega) rfl (locs rfl) (fun v news' => v = (its.getD 0 it0).v ∧ ∃ n', news' = (H, lo ((hpop its).map It.v) n') :: I) ?_ ?_
  · intro g L' A' s₁ C' F' N' sm l
    obtain ⟨vs, y, rfl⟩ : ∃ vs y, its = vs ++ [y] := ⟨its.dropLast, its.getLast (by intro q; rw [q] at h2; simp at h2), (List.dropLast_concat_getLast _).symm⟩
    have hvs : 1 ≤ vs.length := by simp at h2; omega
    have hlast : (vs ++ [y]).getLastD it0 = y := by simp
    have hdrop : (vs ++ [y]).dropLast = vs := by simp
    rw [hlast, hdrop] at hD
    have hpopE : hpop (vs ++ [y]) = su (vs.set 0 y) 0 := by unfold hpop; rw [hlast, hdrop]
    have hz' : vs.length ≤ 999 := by simp at hz; omega
    rw [List.map_append] at N'
    refine wpAny_execs_cons (wpAny_Assign_Name (MethodCall_ (ld F' rfl (listMethod_K N' (.head _) _root_.PySem.F.slot_list_pop _root_.PySem.F.type_list_pop (callWith_method0 (popS F' N' hI (by simp; omega) fun s₂ sm₂ F₂ N₂ => ?_))))))
    refine stS F₂ N₂ fun s₃ sm₃ F₃ N₃ => ?_
    refine wpAny_execs_cons (wpAny_If (isTrue_plain (ld F₃ rfl (truthy_lo (N₃ _ (.head _)).1 (by simp; omega) ?_))))
    rw [decide_eq_true (by intro q; rw [List.map_eq_nil_iff] at q; rw [q] at hvs; simp at hvs)]
    simp only [if_true]
    refine wpAny_execs_cons (wpAny_Assign_Name (Subscript_ (ld F₃ rfl (wpAny_Constant_int (tail_list (N₃ _ (.head _)).1 (by decide) (getD_map_v vs 0 hvs) (by simp; omega) ?_)))))
    refine stS F₃ N₃ fun s₄ sm₄ F₄ N₄ => ?_
    refine wpAny_execs_cons (wpAny_Assign_Subscript (ld F₄ rfl (ld F₄ rfl (wpAny_Constant_int (setS F₄ N₄ hI (by decide) (by simp; omega) (by simp; omega) fun s₅ sm₅ F₅ N₅ => ?_)))))
    have e0 : (List.map It.v vs).set (Int.toNat 0) y.v = (vs.set 0 y).map It.v := by rw [List.map_set]; rfl
    rw [e0] at N₅
    refine wpAny_execs_cons (wpAny_Expr (callN C' F₅ rfl rfl (spliced_more (ld F₅ rfl (spliced_more (wpAny_Constant_int (spliced_none ⟨C'.at F₅, ?_⟩)))))))
    show wpAny _ _ (call _ [_, .int ((0 : Nat) : Int) _]) _ _ _
    refine siftup_call (s := { s₅ with toks := s₅.toks + 1 }) (pos := 0) C' F₅ N₅ hI (by omega) (by omega) (by rw [List.length_set]; omega) (by rw [List.length_set]; omega) (fun i hi => ?_) hD fun s₆ n₆ sm₆ F₆ N₆ => ?_
    · rcases List.mem_or_eq_of_mem_set hi with q | q
      · exact hc i (List.mem_append_left _ q)
      · rw [q]; exact hc y (by simp)
    refine wpAny_execs_cons (wpAny_Return_some (ld F₆ rfl ?_))
    refine ⟨_, _, ((((Same.rfl'.nx sm₂).nx sm₃).nx sm₄).nx sm₅).nx sm₆, F₆, N₆, ?_, n₆, by rw [hpopE]⟩
    show (vs.getD 0 it0).v = _
    simp only [List.getD_eq_getElem?_getD, List.getElem?_append_left hvs]
  · rintro v s' news' sm F' N' ⟨rfl, n', rfl⟩
    exact h s' n' sm F' N'

theorem heapreplace_call {hp₀ : Heap} (C : Cx d u w A L h₀) (F : Fr h₀ L hp₀ m) {H : Addr} {its : List It} {n : Nat} (N : News h₀ L hp₀ ((H, lo (its.map It.v) n) :: I)) (hI : Off H I)
    (hd : d < 600) (hu : u < 1800) (h1 : 1 ≤ its.length) (hz : its.length ≤ 1000) {x : It} (hc : ∀ i ∈ its, i.cell ∈ I) (hx : x.cell ∈ I) (hD : Dist (its.set 0 x))
    (h : ∀ s' n', Same s s' → Fr h₀ L s'.heap m → News h₀ L s'.heap ((H, lo ((hrep its x).map It.v) n') :: I) → Q (its.getD 0 it0).v s') (he : s.heap = hp₀ := by rfl) :
    wpAny (model PG w) A (call (.ref 84) [.ref H, x.v]) Q E s := by
  subst he
  refine call_def C F N rfl rfl (by omega) rfl (locs rfl) (fun v news' => v = (its.getD 0 it0).v ∧ ∃ n', news' = (H, lo ((hrep its x).map It.v) n') :: I) ?_ ?_
  · intro g L' A' s₁ C' F₃ N₃ sm l
    refine wpAny_execs_cons (wpAny_Assign_Name (Subscript_ (ld F₃ rfl (wpAny_Constant_int (tail_list (N₃ _ (.head _)).1 (by decide) (getD_map_v its 0 h1) (by simp; omega) ?_)))))
    refine stS F₃ N₃ fun s₄ sm₄ F₄ N₄ => ?_
    refine wpAny_execs_cons (wpAny_Assign_Subscript (ld F₄ rfl (ld F₄ rfl (wpAny_Constant_int (setS F₄ N₄ hI (by decide) (by simp; omega) (by simp; omega) fun s₅ sm₅ F₅ N₅ => ?_)))))
    have e0 : (List.map It.v its).set (Int.toNat 0) x.v = (its.set 0 x).map It.v := by rw [List.map_set]; rfl
    rw [e0] at N₅
    refine wpAny_execs_cons (wpAny_Expr (callN C' F₅ rfl rfl (spliced_more (ld F₅ rfl (spliced_more (wpAny_Constant_int (spliced_none ⟨C'.at F₅, ?_⟩)))))))
    show wpAny _ _ (call _ [_, .int ((0 : Nat) : Int) _]) _ _ _
    refine siftup_call (s := { s₅ with toks := s₅.toks + 1 }) (pos := 0) C' F₅ N₅ hI (by omega) (by omega) (by rw [List.length_set]; omega) (by rw [List.length_set]; omega) (fun i hi => ?_) hD fun s₆ n₆ sm₆ F₆ N₆ => ?_
    · rcases List.mem_or_eq_of_mem_set hi with q | q
      · exact hc i q
      · rw [q]; exact hx
    refine wpAny_execs_cons (wpAny_Return_some (ld F₆ rfl ?_))
    exact ⟨_, _, ((Same.rfl'.nx sm₄).nx sm₅).nx sm₆, F₆, N₆, rfl, n₆, rfl⟩
  · rintro v s' news' sm F' N' ⟨rfl, n', rfl⟩
    exact h s' n' sm F' N'
end
end Mine
end

-- Heapify
section
open PySem PySem.W PyProof.Rows PySem.Calls
set_option maxRecDepth 100000
set_option maxHeartbeats 1000000
namespace Mine
open LCg
section
variable {d u : Nat} {w : World} {A : Around} {E : Value → Shared → Prop} {s : Shared} {L : Addr} {h₀ : Heap} {m : Str → Option Value} {I news : List (Addr × Obj)} {Q : Value → Shared → Prop}

theorem News.fresh_ne {p : Addr × Obj} (N : News h₀ L s.heap news) (hp : p ∈ news) : p.1 ≠ s.heap.objs.size := Nat.ne_of_lt (Heap.lt_size (N p hp).1)

theorem heapify_call {hp₀ : Heap} (C : Cx d u w A L h₀) (F : Fr h₀ L hp₀ m) {H : Addr} {its : List It} {n : Nat} (N : News h₀ L hp₀ ((H, lo (its.map It.v) n) :: I)) (hI : Off H I)
    (hd : d < 600) (hu : u < 1800) (h5 : its.length = 5) (hc : ∀ i ∈ its, i.cell ∈ I) (hD : Dist its) (hD1 : Dist (su its 1)) (hl1 : (su its 1).length = 5) (hc1 : ∀ i ∈ su its 1, i ∈ its)
    (h : ∀ s' n', Same s s' → Fr h₀ L s'.heap m → News h₀ L s'.heap ((H, lo ((su (su its 1) 0).map It.v) n') :: I) → Q .none s') (he : s.heap = hp₀ := by rfl) :
    wpAny (model PG w) A (call (.ref 91) [.ref H]) Q E s := by
  subst he
  refine call_def C F N rfl rfl (by omega) rfl (locs rfl) (fun v news' => v = .none ∧ ∃ n', news' = (H, lo ((su (su its 1) 0).map It.v) n') :: I) ?_ ?_
  · intro g L' A' s₁ C' F' N' sm l
    refine wpAny_execs_cons (wpAny_Assign_Name (callB C' F' rfl boot_len (spliced_more (ld F' rfl (spliced_none (len_lo (N' _ (.head _)).1 (by simp; omega) ?_))))))
    rw [List.length_map, h5]
    refine stS F' N' fun s₂ sm₂ F₂ N₂ => ?_
    refine wpAny_execs_cons (wpAny_For (callT C' F₂ rfl boot_reversed (spliced_more (callT C' F₂ rfl boot_range (spliced_more (wpAny_BinOp (ld F₂ rfl (wpAny_Constant_int (floordiv_int (by decide) ?_)))))))))
    rw [show ((5 : Nat) : Int).fdiv 2 = 2 by decide]
    refine spliced_none (rangeS1 F₂ N₂ fun r t' v' s₃ sm₃ F₃ N₃ l₃ => ?_)
    refine spliced_none (revRangeS F₃ N₃ (.head _) fun i s₄ sm₄ F₄ N₄ l₄ => iterIterS (N₄ _ (.head _)).1 ?_)
    have N₅ : News g L' s₄.heap ((i, riObj 1 (2 : Nat) (-1)) :: (H, lo (its.map It.v) n) :: I) := fun p hp => by
      rcases List.mem_cons.mp hp with rfl | hp
      · exact N₄ _ (.head _)
      · exact N₄ p (.tail _ (.tail _ hp))
    refine for_ri (n := 2) C'.hand rfl F₄ N₅ (fun p hp => Nat.ne_of_lt (l₄ p (.tail _ hp)))
      (fun j m' news' => ∃ its' n', news' = (H, lo (its'.map It.v) n') :: I ∧ m' (Str.ofString "x") = some (.ref H) ∧ (if j = 0 then its' = its else if j = 1 then its' = su its 1 else its' = su (su its 1) 0)) ⟨its, n, rfl, rfl, rfl⟩ ?_ ?_
    · rintro j t m₁ news₁ s₅ oI hj ⟨its', n', rfl, hm, hits⟩ sm₅ F₅ N₆ off
      have hHi : H ≠ i := off _ (.head _)
      have N₇ : News g L' s₅.heap ((H, lo (its'.map It.v) n') :: (i, oI) :: I) := fun p hp => N₆ p (by
        rcases List.mem_cons.mp hp with rfl | hp
        · exact .tail _ (.head _)
        · rcases List.mem_cons.mp hp with rfl | hp
          · exact .head _
          · exact .tail _ (.tail _ hp))
      have hI' : Off H ((i, oI) :: I) := fun p hp => by
        rcases List.mem_cons.mp hp with rfl | hp
        · exact Ne.symm hHi
        · exact hI p hp
      have two : j = 0 ∨ j = 1 := by omega
      have key : its'.length = 5 ∧ (∀ i ∈ its', i ∈ its) ∧ Dist its' := by
        rcases two with rfl | rfl
        · rw [if_pos rfl] at hits; subst hits; exact ⟨h5, fun _ h => h, hD⟩
        · rw [if_neg (by decide), if_pos rfl] at hits; subst hits; exact ⟨hl1, hc1, hD1⟩
      refine wpAny_execs_cons (wpAny_Expr (callN C' F₅ rfl rfl (spliced_more (ld F₅ hm (spliced_more (ld F₅ rfl (spliced_none ⟨C'.at F₅, ?_⟩)))))))
      have hv : (1 + (j : Int) * -1) = (((1 - j : Nat)) : Int) := by rcases two with rfl | rfl <;> rfl
      rw [hv]
      refine siftup_call C' F₅ N₇ hI' (by omega) (by omega) (by omega) (by omega) (fun i hi => .tail _ (hc i (key.2.1 i hi))) key.2.2 fun s₆ n₆ sm₆ F₆ N₈ => ?_
      refine wpAny_execs_nil ⟨rfl, _, (H, lo ((su its' (1 - j)).map It.v) n₆) :: I, Same.rfl'.nx sm₆, F₆, fun p hp => N₈ p ?_, (fun p hp => by
        rcases List.mem_cons.mp hp with rfl | hp
        · exact hHi
        · exact off p (.tail _ hp)), su its' (1 - j), n₆, rfl, hm, ?_⟩
      · rcases List.mem_cons.mp hp with rfl | hp
        · exact .tail _ (.head _)
        · rcases List.mem_cons.mp hp with rfl | hp
          · exact .head _
          · exact .tail _ (.tail _ hp)
      · rcases two with rfl | rfl
        · rw [if_pos rfl] at hits; subst hits; rfl
        · rw [if_neg (by decide), if_pos rfl] at hits; subst hits; rfl
    · rintro s₅ m' news' sm₅ F₅ N₆ ⟨its', n', rfl, hm, hits⟩
      rw [if_neg (by decide), if_neg (by decide)] at hits
      subst hits
      exact wpAny_execs_nil ⟨_, _, (((Same.rfl'.nx sm₂).nx sm₃).nx sm₄).nx sm₅, F₅, N₆, rfl, n', rfl⟩
  · rintro v s' news' sm F' N' ⟨rfl, n', rfl⟩
    exact h s' n' sm F' N'
end
end Mine
end

-- Ent
section
open PySem PySem.W PyProof.Rows PySem.Calls
set_option maxRecDepth 100000
set_option maxHeartbeats 1000000
namespace Mine

noncomputable abbrev S (x : String) : Str := Str.ofString x
/-- the dict of an Entry -/
noncomputable abbrev entD (w : World) (t : Tok × Tok × Tok × Tok) (ua rl dl rq : Value) : List DictEntry :=
  [⟨PyData.keyHash w.params (S "useragents"), .str (S "useragents") t.1, ua⟩, ⟨PyData.keyHash w.params (S "rulelines"), .str (S "rulelines") t.2.1, rl⟩,
   ⟨PyData.keyHash w.params (S "delay"), .str (S "delay") t.2.2.1, dl⟩, ⟨PyData.keyHash w.params (S "req_rate"), .str (S "req_rate") t.2.2.2, rq⟩]

section
variable {d u : Nat} {w : World} {A : Around} {E : Value → Shared → Prop} {s : Shared} {L : Addr} {h₀ : Heap} {m : Str → Option Value} {I news : List (Addr × Obj)} {Q : Value → Shared → Prop}

theorem Cx.make (C : Cx d u w A L h₀) (x : Addr) (pos : List Value) : Cx (d + 1) (u + 2) w (A.under (.builtin "type.__call__" ⟨.ref x :: pos, []⟩)) L h₀ := by
  obtain ⟨⟨A₀, base, outer, env, mean, mg, mb, B, T, hA, hf, hke⟩, X, hdep, hun, hh⟩ := C
  refine ⟨⟨A₀, base, outer, env, mean, mg, mb, B, T, hA, hf, hke⟩, X, ?_, ?_, hh⟩
  · show A.depth + _ ≤ d + 1
    have : (Code.builtin "type.__call__" ⟨.ref x :: pos, []⟩).weight = 1 := rfl
    rw [this]; omega
  · show A.units + _ ≤ u + 2
    have : (Code.builtin "type.__call__" ⟨.ref x :: pos, []⟩).cUnits = 1 := rfl
    rw [this]; omega

/-- a name that the own dict holds -/
theorem getA {hp : Heap} (C : Cx d u w A L h₀) (F : Fr h₀ L hp m) (N : News h₀ L hp news) {x dx : Addr} {es : List DictEntry} {n : Nat} {name : Str} {v : Value} {ex : Bool}
    (hx : (x, instObj 59 dx) ∈ news) (hd : (dx, dictOf es n) ∈ news) (hl : getL name es = some (some v)) (hv : handedIn v = true) (h : Q v { s with toks := s.toks + 1 })
    (hg : plainGet (KK w) 59 name = true := by rfl) (ha : findIn (KK w) (.ref 59) name = some none := by rfl) (he : s.heap = hp := by rfl) :
    wpAny (model PG w) A (getAttr (.ref x) name ex) Q E s := by
  subst he
  exact get_own F C.X (InstAt.of_news N hx hd) hg rfl ha rfl hl hv h

theorem setA {hp : Heap} (C : Cx d u w A L h₀) (F : Fr h₀ L hp m) {x dx : Addr} {es : List DictEntry} {n : Nat} (N : News h₀ L hp ((dx, dictOf es n) :: I)) (hI : Off dx I) {name : Str} {v : Value} {Q : Unit → Shared → Prop}
    (hx : (x, instObj 59 dx) ∈ I) (hl : (getL name es).isSome = true) (hz : es.length ≤ 900)
    (h : ∀ s' tk, Same s s' → Fr h₀ L s'.heap m → News h₀ L s'.heap ((dx, dictOf (putL name (PyData.keyHash w.params name) (.str name tk) v es) (putN name es n)) :: I) → Q () s')
    (ht : takerIn (KK w) 59 name = some none := by rfl) (he : s.heap = hp := by rfl) :
    wpAny (model PG w) A (setAttr (.ref x) name v) Q E s := by
  subst he
  refine set_dict F C.X N (InstAt.of_news N (.tail _ hx) (.head _)) rfl rfl rfl ht rfl hl rfl (.head hI) ?_ fun h' F' N' => h _ (s.toks + 1) ⟨rfl, rfl⟩ F' N'
  have : ∀ es : List DictEntry, (putL name (PyData.keyHash w.params name) (.str name (s.toks + 1)) v es).length ≤ es.length + 1 := fun es => by
    induction es with
    | nil => simp [putL]
    | cons e r ih => unfold putL; split <;> simp <;> omega
  have := this es
  omega

theorem newListS {hp : Heap} (F : Fr h₀ L hp m) (N : News h₀ L hp news) {vs : List Value} (hz : vs.length ≤ 1000000)
    (h : ∀ l s', Same s s' → Fr h₀ L s'.heap m → News h₀ L s'.heap ((l, lo vs 0) :: news) → (∀ p ∈ news, p.1 < l) → Q (.ref l) s') (he : s.heap = hp := by rfl) : wpAny (model PG w) A (newList vs) Q E s := by
  subst he
  exact newList_K F N (fun l h' F' N' lt => h l _ ⟨rfl, rfl⟩ F' N' lt) (by rw [sizeLine_eq]; omega)

theorem entry_call {hp₀ : Heap} (C : Cx d u w A L h₀) (F : Fr h₀ L hp₀ m) (N : News h₀ L hp₀ news) (hd : d < 700)
    (h : ∀ x dx ua rl t n s', Same s s' → Fr h₀ L s'.heap m → News h₀ L s'.heap ((dx, dictOf (entD w t (.ref ua) (.ref rl) .none .none) n) :: (rl, lo [] 0) :: (ua, lo [] 0) :: (x, instObj 59 dx) :: news) →
      (∀ p ∈ news, p.1 < dx) → dx < x → x < ua → ua < rl → Q (.ref x) s') (he : s.heap = hp₀ := by rfl) :
    wpAny (model PG w) A (call (.ref 59) []) Q E s := by
  subst he
  refine call_cls F C.X N rfl rfl rfl fun x dx h' F' N' lt lt2 => ?_
  have N₀ : News h₀ L h' ((dx, dictOf [] 0) :: (x, instObj 59 dx) :: news) := fun p hp => N' p (by
    rcases List.mem_cons.mp hp with rfl | hp
    · exact .tail _ (.head _)
    · rcases List.mem_cons.mp hp with rfl | hp
      · exact .head _
      · exact .tail _ (.tail _ hp))
  refine code_def' (C.make 59 []) F' N₀ rfl rfl (by omega) rfl (locs rfl) (fun v news' => v = .none ∧ ∃ ua rl t n, news' = (dx, dictOf (entD w t (.ref ua) (.ref rl) .none .none) n) :: (rl, lo [] 0) :: (ua, lo [] 0) :: (x, instObj 59 dx) :: news ∧ x < ua ∧ ua < rl) ?_ ?_
  · intro g L' A' s₁ C' F₁ N₁ sm l
    refine wpAny_execs_cons (plainObj_wpAny_Assign_Attribute (List_ (spliced_none (newListS F₁ N₁ (by simp) fun ua s₂ sm₂ F₂ N₂ l₂ => (ld F₂ rfl ?_)))))
    have a1 := l₂ _ (.tail _ (.head _))
    have a2 := l₂ _ (.head _)
    dsimp only at a1 a2
    have N₂' : News g L' s₂.heap ((dx, dictOf [] 0) :: (ua, lo [] 0) :: (x, instObj 59 dx) :: news) := fun p hp => N₂ p (by
      rcases List.mem_cons.mp hp with rfl | hp
      · exact .tail _ (.head _)
      · rcases List.mem_cons.mp hp with rfl | hp
        · exact .head _
        · exact .tail _ (.tail _ hp))
    have o2 : Off dx ((ua, lo [] 0) :: (x, instObj 59 dx) :: news) := fun p hp => by
      rcases List.mem_cons.mp hp with rfl | hp
      · exact Nat.ne_of_gt a2
      · rcases List.mem_cons.mp hp with rfl | hp
        · exact Nat.ne_of_gt lt2
        · exact Nat.ne_of_lt (lt p hp)
    refine setA C' F₂ N₂' o2 (.tail _ (.head _)) rfl (Nat.le_of_ble_eq_true rfl) fun s₃ t₃ sm₃ F₃ N₃ => ?_
    refine wpAny_execs_cons (plainObj_wpAny_Assign_Attribute (List_ (spliced_none (newListS F₃ N₃ (by simp) fun rl s₄ sm₄ F₄ N₄ l₄ => (ld F₄ rfl ?_)))))
    have b1 := l₄ _ (.tail _ (.head _))
    have b2 := l₄ _ (.head _)
    dsimp only at b1 b2
    have N₄' : News g L' s₄.heap ((dx, _) :: (rl, lo [] 0) :: (ua, lo [] 0) :: (x, instObj 59 dx) :: news) := fun p hp => N₄ p (by
      rcases List.mem_cons.mp hp with rfl | hp
      · exact .tail _ (.head _)
      · rcases List.mem_cons.mp hp with rfl | hp
        · exact .head _
        · exact .tail _ (.tail _ hp))
    have o4 : Off dx ((rl, lo [] 0) :: (ua, lo [] 0) :: (x, instObj 59 dx) :: news) := fun p hp => by
      rcases List.mem_cons.mp hp with rfl | hp
      · exact Nat.ne_of_gt b2
      · exact o2 p hp
    refine setA C' F₄ N₄' o4 (.tail _ (.tail _ (.head _))) rfl (Nat.le_of_ble_eq_true rfl) fun s₅ t₅ sm₅ F₅ N₅ => ?_
    refine wpAny_execs_cons (plainObj_wpAny_Assign_Attribute (wpAny_Constant_none (ld F₅ rfl ?_)))
    refine setA C' F₅ N₅ o4 (.tail _ (.tail _ (.head _))) rfl (Nat.le_of_ble_eq_true rfl) fun s₆ t₆ sm₆ F₆ N₆ => ?_
    refine wpAny_execs_cons (plainObj_wpAny_Assign_Attribute (wpAny_Constant_none (ld F₆ rfl ?_)))
    refine setA C' F₆ N₆ o4 (.tail _ (.tail _ (.head _))) rfl (Nat.le_of_ble_eq_true rfl) fun s₇ t₇ sm₇ F₇ N₇ => ?_
    exact wpAny_execs_nil ⟨_, _, (((((Same.rfl'.nx sm₂).nx sm₃).nx sm₄).nx sm₅).nx sm₆).nx sm₇, F₇, N₇, rfl, ua, rl, (t₃, t₅, t₆, t₇), _, rfl, a1, b1⟩
  · rintro v s' news' sm F₁ N₁ ⟨rfl, ua, rl, t, n, rfl, c1, c2⟩
    exact ⟨rfl, h x dx ua rl t n s' ⟨sm.gens, sm.os⟩ F₁ N₁ lt lt2 c1 c2⟩
end
end Mine
end

-- SetS
section
open PySem PySem.W PyProof.Rows PySem.Calls
set_option maxRecDepth 100000
set_option maxHeartbeats 4000000
namespace Mine

theorem StrsAre.str_at : ∀ {vs : List Value} {xs : List Str}, StrsAre vs xs → ∀ (i : Nat) (v : Value), vs[i]? = some v → ∃ x t, v = .str x t ∧ xs[i]? = some x
  | _, _, .nil, i, v, h => by simp at h
  | _, _, .cons x t hr, 0, v, h => by simp at h; exact ⟨x, t, h.symm, rfl⟩
  | _, _, .cons x t hr, i + 1, v, h => by
    simp only [List.getElem?_cons_succ] at h ⊢
    exact StrsAre.str_at hr i v h
theorem StrsAre.len : ∀ {vs : List Value} {xs : List Str}, StrsAre vs xs → vs.length = xs.length
  | _, _, .nil => rfl
  | _, _, .cons x t hr => congrArg (· + 1) (StrsAre.len hr)

noncomputable abbrev setO (led : Bool) : Obj := { cls := .type "set", dict := none, data := .set #[] 0 (.fresh 0 0 led) }
section
variable {w : World} {A : Around} {E : Value → Shared → Prop} {s : Shared} {R : Result → Shared → Prop}

theorem set_upd_loop {I l S : Addr} {vs : List Value} {xs : List Str} (hx : StrsAre vs xs) {St : Nat → Heap → Prop} (W : Walks PG w A.in1 I [I, l] [I] vs.length (fun i v => vs[i]? = some v) St) (hS1 : S ≠ I) (hS2 : S ≠ l) (hb : vs.length + 1 < scanBound) :
    ∀ (k i : Nat) (s : Shared), vs.length - i = k → i ≤ vs.length → St i s.heap → (∃ n, n ≤ i ∧ s.heap.SetOf (strKind PG w) S (fun k' => decide (k' ∈ xs.take i)) n) →
      (∀ h' tk, (∀ b o, b ≠ S → b ≠ I → s.heap.get? b = some o → h'.get? b = some o) → (∃ n, h'.SetOf (strKind PG w) S (fun k' => decide (k' ∈ xs)) n) → R (.ok (.ret .none)) { s with heap := h', toks := tk }) →
      codeAny (model PG w) A (.builtin "set.update.loop" ⟨[.ref S, .ref I], []⟩) R s := by
  have hlen := StrsAre.len hx
  intro k
  induction k with
  | zero =>
    intro i s hk hi hst hS hR
    have hin : i = vs.length := by omega
    subst hin
    refine codeAny_builtin PyProof.Rows.F.entry_set_update_loop ?_
    rw [Around.under_plainId PyProof.Rows.F.plain_set_update_loop _]
    show wpAny _ A.in1 (pyNext (.ref I) >>= _) _ _ s
    refine wpAny_bind (W.done s _ _ hst fun h' tk hm => ?_)
    show wpAny _ A.in1 (ret Value.none) _ _ _
    refine wpAny_pure (hR h' tk (fun b o _ hb e => hm b o (by simpa using hb) e) ?_)
    obtain ⟨n, _, o, es, ep, t, ho, rest⟩ := hS
    rw [List.take_of_length_le (by omega)] at rest
    exact ⟨n, o, es, ep, t, hm S o (by simpa using hS1) ho, rest⟩
  | succ k ih =>
    intro i s hk hi hst hS hR
    have hlt : i < vs.length := by omega
    refine codeAny_builtin PyProof.Rows.F.entry_set_update_loop ?_
    rw [Around.under_plainId PyProof.Rows.F.plain_set_update_loop _]
    show wpAny _ A.in1 (pyNext (.ref I) >>= _) _ _ s
    refine wpAny_bind (W.item i s _ _ hlt hst fun v h' tk hv hst' hm => ?_)
    obtain ⟨x, t, rfl, hxi⟩ := StrsAre.str_at hx i v hv
    obtain ⟨n, hn, o, es, ep, tb, ho, rest⟩ := hS
    have hS' : h'.SetOf (strKind PG w) S (fun k' => decide (k' ∈ xs.take i)) n := ⟨o, es, ep, tb, hm S o (by simpa using hS1) ho, rest⟩
    show wpAny _ A.in1 (holding [Value.str x t] (setAdd S (.str x t)) >>= _) _ _ _
    refine wpAny_bind (wpAny_holding ?_)
    unfold setAdd
    refine wpAny_holding ?_
    refine wpAny_bind ((strKind PG w).pyHash (k := x) (strKind_is _ _ _ _) ?_)
    have hroom : n + 1 < scanBound := by omega
    refine wpAny_setAddHashed_of (knd := strKind PG w) (strKind_is _ _ _ _) rfl hS' hroom fun h'' hsb hS2' => ?_
    have htake : xs.take (i + 1) = xs.take i ++ [x] := by
      rw [List.take_add_one, hxi]; rfl
    have hSi : ∃ n', n' ≤ i + 1 ∧ h''.SetOf (strKind PG w) S (fun k' => decide (k' ∈ xs.take (i + 1))) n' := by
      refine ⟨_, ?_, PyProof.Rows.SetOf_congr hS2' (fun k' => ?_) rfl⟩
      · split <;> omega
      · rw [htake]; simp [List.mem_append, Bool.decide_or]
    refine wpAny_pure ⟨plainId_quiet PyProof.Rows.F.plain_set_update_loop _, ih (i + 1) _ (by omega) hlt (W.frame _ _ _ hst' fun b hb o e => ?_) hSi fun h₃ tk₃ hm₃ hS₃ => ?_⟩
    · rw [hsb.2 b (fun q : b = S => by
        subst q
        simp only [List.mem_cons, List.not_mem_nil, or_false] at hb
        exact hb.elim hS1 hS2)]; exact e
    · exact hR h₃ tk₃ (fun b o h1 h2 e => hm₃ b o h1 h2 (by show h''.get? b = some o; rw [hsb.2 b h1]; exact hm b o (by simpa using h2) e)) hS₃

theorem call_set_strs {l : Addr} {vs : List Value} {xs : List Str} {n₀ : Nat} {Q : Value → Shared → Prop} (hh : A.handled = none) (hl : s.heap.get? l = some (lo vs n₀)) (hx : StrsAre vs xs) (hb : vs.length + 1 < scanBound)
    (h : ∀ (h' : Heap) (tk : Nat), (∃ n, h'.SetOf (strKind PG w) s.heap.objs.size (fun k' => decide (k' ∈ xs)) n) →
      (∀ b o, b < s.heap.objs.size → s.heap.get? b = some o → h'.get? b = some o) → Q (.ref s.heap.objs.size) { s with heap := h', toks := tk }) :
    wpAny (model PG w) A (call (.type "set") [.ref l]) Q E s := by
  obtain ⟨c, tl, hmro⟩ := F.called_set.mro
  have hmade := F.called_set.made
  have hsub := F.called_set.sub
  refine wpAny_call (codeAny_of_tree ?_)
  show wpAny _ _ (callAny (.type "set") _) _ _ _
  refine wpAny_pure ⟨Code.quiet_builtin _ (by decide +kernel), codeAny_builtin F.entry_type_call ?_⟩
  rw [Around.under_plain (weight_type_call_type "set" [.ref l] []) rfl]
  have h1 := F.called_set.notType
  have h2 := F.called_set.canCreate
  have hct := F.typeCall_set_1 (.ref l)
  repeat (any_goals (first | assumption | wp_step))
  refine codeAny_mono (code_set_new_1 (.ref l) (E := E) (Q₁ := fun obj s₁ => ∃ led : Bool, obj = .ref s.heap.objs.size ∧ s₁ = { s with heap := s.heap.push (setO led) }) fun led => ⟨led, rfl, rfl⟩) fun r s₁ hr => ?_
  cases r with
  | error e => exact hr
  | ok fl =>
    cases fl with
    | ret obj =>
      obtain ⟨led, rfl, rfl⟩ := hr
      have hS : (s.heap.push (setO led)).get? s.heap.objs.size = some (setO led) := Heap.get?_push_size _ rfl
      have hT : Shared.TypeIs { s with heap := s.heap.push (setO led) } (.ref s.heap.objs.size) "set" := ⟨_, hS, rfl⟩
      have hli := F.called_set.init.lookup
      have hbi := F.called_set.init.bind (.ref s.heap.objs.size)
      repeat (any_goals (first | assumption | wp_step))
      refine codeAny_mono (codeAny_call_builtin (R := wants (fun r s₂ => r = .none ∧ ∃ h' tk, s₂ = { s with heap := h', toks := tk } ∧
          (∃ n, h'.SetOf (strKind PG w) s.heap.objs.size (fun k' => decide (k' ∈ xs)) n) ∧
          (∀ b o, b < s.heap.objs.size → s.heap.get? b = some o → h'.get? b = some o)) E) F.called_set.init.plain F.entry_set_init (check_set_init_1 hT ?_)) fun r₂ s₂ hr₂ => ?_
      · have hol' : (s.heap.push (setO led)).get? l = some { cls := .type "list", dict := none, data := .seq vs.toArray n₀, slots := #[] } := Heap.get?_push_of_some _ hl
        have hsls := F.sub_list_set
        have hslf := F.sub_list_frozenset
        have hne : (Value.type "list" == Value.type "dict") = false := by decide
        have hl1 : (s.heap.push (setO led)).IsList l vs.toArray := ⟨_, hol', rfl, n₀, rfl⟩
        unfold Builtin.«set.__init__» noKeywords Builtin.Frozenset.updateFrom
        generalize hPI : pyIter = PI
        wp_walk
        subst hPI
        refine wpAny_pyIter_list hl1 ?_
        refine wpAny_bind (wpAny_runValue ?_)
        have hlS : l < s.heap.objs.size := Heap.lt_size hl
        have hneI : l ≠ (s.heap.push (setO led)).objs.size := by rw [Heap.size_push]; exact Nat.ne_of_lt (Nat.lt_succ_of_lt hlS)
        have W := Walks.list (prog := PG) (w := w) (A := A.in1.in1.in1) (by simp [hh]) (s.heap.push (setO led)).objs.size l hneI vs.toArray
        have W' : Walks PG w A.in1.in1.in1 (s.heap.push (setO led)).objs.size [(s.heap.push (setO led)).objs.size, l] [(s.heap.push (setO led)).objs.size] vs.length (fun i v => vs[i]? = some v) (fun i h => h.IsListIter (s.heap.push (setO led)).objs.size l i ∧ h.IsList l vs.toArray) := by simpa using W
        refine set_upd_loop hx W' (S := s.heap.objs.size) (by rw [Heap.size_push]; exact Nat.ne_of_lt (Nat.lt_succ_self _)) (Nat.ne_of_gt hlS) hb (vs.length - 0) 0 _ rfl (Nat.zero_le _)
          ⟨⟨_, Heap.get?_push_size _ rfl, rfl, rfl⟩, hl1.push _⟩ ⟨0, Nat.le_refl _, ?_⟩ fun h' tk hm hS' => ?_
        · have hget : ((s.heap.push (setO led)).push { cls := .type "list_iterator", data := .fields #[.ref l, .int 0 0] }).get? s.heap.objs.size = some (setO led) := Heap.get?_push_of_some _ hS
          exact PyProof.Rows.SetOf_congr ((PyProof.Rows.setObjOf_fresh (knd := strKind PG w) led).setOf hget (by unfold scanBound; omega)) (fun k => by simp) rfl
        · refine wpAny_pure ?_
          show wpAny _ _ (ret Value.none) _ _ _
          refine wpAny_pure ⟨rfl, h', tk, rfl, hS', fun b o hb e => ?_⟩
          exact hm b o (Nat.ne_of_lt hb) (by rw [Heap.size_push]; exact Nat.ne_of_lt (Nat.lt_succ_of_lt hb)) (Heap.get?_push_of_some _ (Heap.get?_push_of_some _ e))
      · cases r₂ with
        | error e => exact hr₂
        | ok fl₂ =>
          cases fl₂ with
          | ret r =>
            obtain ⟨rfl, h', tk, rfl, hS', hk'⟩ := hr₂
            repeat (any_goals (first | assumption | wp_step))
            exact h _ _ hS' hk'
          | _ => exact hr₂.elim
    | _ => exact hr.elim
end
end Mine
end

-- SetC
section
open PySem PySem.W PyProof.Rows PySem.Calls
set_option maxRecDepth 100000
set_option maxHeartbeats 4000000
namespace Mine
theorem entry_set_getattribute : entryFor table "set.__getattribute__" = some Builtin.«object.__getattribute__» :=
  entryFor_alias (id' := "object.__getattribute__") (by rw [fastTable_eq_tree]; kernel_rfl) (by decide +kernel) (by rw [PySem.W.Fast.canonicalQ_eq]; decide +kernel) (by rw [fastTable_eq_tree]; kernel_rfl)
theorem set_getattr_none : typeLookup (.type "set") "__getattr__" = pure none := by rw [typeLookup_type, builtinLookup_eq_fast]; kernel_rfl

theorem slot_md_get : Slot "method_descriptor" "__get__" "method_descriptor.__get__" :=
  .of (owner := "method_descriptor") (n := "__get__") (by rw [typeLookup_type, builtinLookup_eq_fast]; kernel_rfl) (by decide +kernel) (by decide +kernel) (by decide +kernel)
    (by first | exact .inl (by decide +kernel) | exact .inr (by decide +kernel)) (by rw [isSubtype_type]; kernel_rfl)
theorem entry_md_get : entryFor table "method_descriptor.__get__" = some Builtin.«method_descriptor.__get__» := entryFor_of_tree (by kernel_rfl)
theorem args_md_get (a b c : Value) : argsOk "method_descriptor.__get__" ⟨[a, b, c], []⟩ := by unfold argsOk; rw [PySem.W.Fast.signatureQ_eq]; kernel_rfl
theorem sub_set_set : isSubtype (.type "set") (.type "set") = pure true := by rw [isSubtype_type]; kernel_rfl

noncomputable abbrev bndO (a : Addr) : Obj := { cls := .type "builtin_function_or_method", data := .fields #[.builtin "set.__contains__", .ref a] }
theorem md_get (a : Addr) (o : Obj) (hc : o.cls = .type "set") :
    Meets (Builtin.«method_descriptor.__get__» ⟨[.builtin "set.__contains__", .ref a, .type "set"], []⟩) (fun A R s => s.heap.get? a = some o ∧ R (.ok (.ret (.ref s.heap.objs.size))) { s with heap := s.heap.push (bndO a) }) :=
  Meets.of_wp fun prog w A R s hs => by
    obtain ⟨hp, g, d, tk, os⟩ := s
    obtain ⟨hx, hs⟩ := hs
    have hT : (⟨hp, g, d, tk, os⟩ : Shared).TypeIs (.ref a) "set" := ⟨_, hx, hc⟩
    have f1 := sub_set_set
    unfold Builtin.«method_descriptor.__get__»
    repeat (any_goals (first | assumption | wp_step))
    rw [show (".".intercalate ("set.__contains__".cutAt '.').dropLast) = "set" from by decide +kernel]
    repeat (any_goals (first | assumption | wp_step))
    exact ⟨_, rfl, hs⟩

theorem typeIs_builtin_contains (s : Shared) : s.TypeIs (.builtin "set.__contains__") "method_descriptor" := F.type_set_contains
theorem getattribute_contains (a : Addr) (o : Obj) (u : Tok) (hc : o.cls = .type "set") (hd : o.dict = none) {es : Array (Int × Value)} {ep : Nat} {tb : SetTable} (hdat : o.data = .set es ep tb) :
    Meets (Builtin.«object.__getattribute__» ⟨[.ref a, .str (Str.ofString "__contains__") u], []⟩) (fun A R s => s.heap.get? a = some o ∧ R (.ok (.ret (.ref s.heap.objs.size))) { s with heap := s.heap.push { cls := .type "builtin_function_or_method", data := .fields #[.builtin "set.__contains__", .ref a] } }) :=
  Meets.of_wp fun prog w A R s hs => by
    obtain ⟨hp, g, d, tk, os⟩ := s
    obtain ⟨hx, hs⟩ := hs
    have hT : (⟨hp, g, d, tk, os⟩ : Shared).TypeIs (.ref a) "set" := ⟨_, hx, hc⟩
    have f1 := F.slot_set_contains.lookup
    have f2 := F.type_set_contains
    have f3 : typeLookup (.type "method_descriptor") (Str.ofString "__get__") = pure (some (.builtin "method_descriptor.__get__")) := by rw [typeLookup_type, builtinLookup_eq_fast]; kernel_rfl
    have f4 : typeLookup (.type "method_descriptor") (Str.ofString "__set__") = pure none := by rw [typeLookup_type, builtinLookup_eq_fast]; kernel_rfl
    have f5 : typeLookup (.type "method_descriptor") (Str.ofString "__delete__") = pure none := by rw [typeLookup_type, builtinLookup_eq_fast]; kernel_rfl
    obtain ⟨oc, od, odat, osl⟩ := o
    simp only at hc hd hdat
    subst hc hd hdat
    unfold Builtin.«object.__getattribute__»
    repeat (any_goals (first | assumption | ((with_reducible show wpAny _ _ (call (Value.builtin "method_descriptor.__get__") _ _) _ _ _); refine call_meets slot_md_get (typeIs_builtin_contains _) entry_md_get (args_md_get _ _ _) (md_get a _ rfl) ⟨hx, ?_⟩) | wp_step))
    exact wpAny_pure ⟨_, rfl, hs⟩

section
variable {w : World} {A : Around} {E : Value → Shared → Prop} {s : Shared} {Q : Value → Shared → Prop}
theorem getAttr_contains {a : Addr} {o : Obj} (hx : s.heap.get? a = some o) (hc : o.cls = .type "set") (hd : o.dict = none) {es : Array (Int × Value)} {ep : Nat} {tb : SetTable} (hdat : o.data = .set es ep tb)
    (h : ∀ tk, Q (.ref s.heap.objs.size) { s with heap := s.heap.push (bndO a), toks := tk }) : wpAny (model PG w) A (getAttr (.ref a) (Str.ofString "__contains__") true) Q E s := by
  obtain ⟨oc, od, odat, osl⟩ := o
  simp only at hc hd hdat
  subst hc hd hdat
  obtain ⟨hp, g, d, tk, os⟩ := s
  have hT : ∀ tk', (⟨hp, g, d, tk', os⟩ : Shared).TypeIs (.ref a) "set" := fun _ => ⟨_, hx, rfl⟩
  have f3 := F.slot_set_getattribute.lookup
  have f4 := F.slot_set_getattribute.bind (.ref a)
  have f5 := set_getattr_none
  unfold getAttr getAttrBy
  repeat (any_goals (first | assumption | exact hT _ | ((with_reducible show wpAny _ _ (call (Value.builtin "set.__getattribute__") _ _) _ _ _); refine call_meets F.slot_set_getattribute (hT _) entry_set_getattribute (F.args_set_getattribute_2 _ _) (getattribute_contains a _ _ rfl rfl rfl) ⟨hx, ?_⟩) | wp_step))
  exact wpAny_pure (h _)

theorem call_bound {b a : Addr} {x : Str} {t : Tok} {xs : List Str} {n : Nat} (hb : s.heap.get? b = some (bndO a)) (hS : s.heap.SetOf (strKind PG w) a (fun k' => decide (k' ∈ xs)) n)
    (h : ∀ tk, Q (.bool (decide (x ∈ xs))) { s with toks := tk }) : wpAny (model PG w) A (call (.ref b) [.str x t]) Q E s := by
  refine wpAny_call (codeAny_of_tree ?_)
  show wpAny _ A.in1 (callAny (.ref b) ⟨[.str x t], []⟩) _ _ s
  simp only [callAny]
  refine wpAny_bind (wpAny_load hb ?_)
  simp only [show (Value.type "builtin_function_or_method" == Value.type "method" || Value.type "builtin_function_or_method" == Value.type "builtin_function_or_method" || Value.type "builtin_function_or_method" == Value.type "method-wrapper") = true by decide, if_true]
  show wpAny _ _ (do checkBoundCall "set.__contains__" ⟨[.ref a, .str x t], []⟩; again (.builtin "set.__contains__" ⟨[.ref a, .str x t], []⟩)) _ _ _
  unfold checkBoundCall
  obtain ⟨hp, g, d, tk, os⟩ := s
  obtain ⟨oS, es, ep, tb, hS0, hS1, hS2, hS3⟩ := id hS
  have hT : (⟨hp, g, d, tk, os⟩ : Shared).TypeIs (.ref a) "set" := ⟨_, hS0, hS1.1⟩
  have f1 : isSubtype (.type "set") (.type "module") = pure false := by rw [isSubtype_type]; kernel_rfl
  have f2 : isSubtype (.type "set") (.type "type") = pure false := by rw [isSubtype_type]; kernel_rfl
  repeat (any_goals (first | assumption | wp_step))
  refine ⟨Code.quiet_builtin _ (by decide +kernel), codeAny_builtin entry_set_contains ?_⟩
  unfold Builtin.«frozenset.__contains__» Builtin.Frozenset.oneOther
  simp only [List.isEmpty_nil, bind_assoc]
  unfold Builtin.Frozenset.addrOf Builtin.Frozenset.withSetAsKey setContains
  refine wpAny_bind (wpAny_pure ?_)
  try dsimp only
  refine wpAny_bind (wpAny_pure ?_)
  try dsimp only
  refine wpAny_bind (wpAny_tryCatch ?_)
  refine wpAny_holding ?_
  refine wpAny_bind ((strKind PG w).pyHash (k := x) (strKind_is _ _ _ _) ?_)
  refine wpAny_bind (wpAny_setFind_of (knd := strKind PG w) (strKind_is _ _ _ _) rfl hS fun r hr => ?_)
  refine wpAny_pure ?_
  show wpAny _ _ (ret (Value.bool r.isSome)) _ _ _
  rw [hr]
  exact wpAny_pure (h _)
end
end Mine
end

-- Filt
section
open PySem PySem.W PyProof.Rows PySem.Calls
set_option maxRecDepth 100000
set_option maxHeartbeats 4000000
namespace Mine
open AutoSeq1 (wpAny_loadPart')

noncomputable abbrev fltO (b i : Addr) : Obj := { cls := .type "filter", data := .fields #[.ref b, .ref i] }
theorem sub_filter : isSubtype (.type "filter") (.type "filter") = pure true := by rw [isSubtype_type]; kernel_rfl

theorem meets_filter_new (b l : Addr) (vs : List Value) (n : Nat) :
    Meets (Builtin.«filter.__new__» ⟨[.type "filter", .ref b, .ref l], []⟩) (fun _ R s => s.heap.get? l = some (lo vs n) ∧
      R (.ok (.ret (.ref (s.heap.push (liObj l)).objs.size))) { s with heap := (s.heap.push (liObj l)).push (fltO b s.heap.objs.size) }) :=
  .of_wp fun prog w A R s h => by
    obtain ⟨hp, g, d, tk, os⟩ := s; obtain ⟨hl, h⟩ := h
    have hsub := sub_filter
    have hL : Heap.IsList (Shared.heap ⟨hp, g, d, tk, os⟩) l vs.toArray := ⟨_, hl, rfl, n, rfl⟩
    wp_walk using wpAny_loadPart' hl, wpAny_pyIter_list hL
    exact ⟨_, rfl, h⟩

section
variable {w : World} {A : Around} {E : Value → Shared → Prop} {s : Shared}

theorem cs_list_item {it l : Addr} {i : Nat} {vs : List Value} {n : Nat} {x : Value} {Q : Option Value → Shared → Prop} (hit : s.heap.IsListIter it l i) (hl : s.heap.get? l = some (lo vs n)) (hx : vs[i]? = some x)
    (hQ : ∀ h', h'.IsListIter it l (i + 1) → Heap.SameBut it s.heap h' → Q (some x) { s with heap := h' }) : wpAny (model PG w) A (callSpecial? (.ref it) (Str.ofString "__next__")) Q E s := by
  obtain ⟨o, ho, hc, hd⟩ := id hit
  refine wpAny_callSpecial?_slot (name := Str.ofString "__next__") hit.typeIs slot_listiter_next (wpAny_call_entry slot_listiter_next hit.typeIs entry_listiter_next ?_ (args_listiter_next _))
  show wpAny _ _ (field (.ref it) 0 >>= _) _ _ s
  refine wpAny_bind (wpAny_field ho hd (x := .ref l) rfl ?_)
  show wpAny _ _ (if (Value.ref l == Value.none) = true then _ else _) _ _ s
  rw [if_neg (show ¬ ((Value.ref l == Value.none) = true) from Bool.false_ne_true)]
  show wpAny _ _ (field (.ref it) 1 >>= _) _ _ s
  refine wpAny_bind (wpAny_field ho hd (x := .int i 0) rfl ?_)
  show wpAny _ _ (seqItems? (.ref l) >>= _) _ _ s
  refine wpAny_bind (wpAny_seqItems hl rfl ?_)
  have hx' : vs.toArray[i]? = some x := by simpa using hx
  simp only [Int.toNat_natCast, hx']
  refine wpAny_bind (wpAny_setField ho hd (by simp) (wpAny_pure ⟨x, rfl, (hQ _ ?_ (Heap.SameBut.update ..))⟩))
  exact ⟨_, Heap.get?_update_self _ ho (Obj.isFreed_of_fields (Obj.data_mapFields hd _)), (Obj.cls_mapFields ..).trans hc, by
    rw [Obj.data_mapFields hd]; simp [rawInt]⟩

theorem cs_list_end {it l : Addr} {i : Nat} {vs : List Value} {n : Nat} {Q : Option Value → Shared → Prop} (hh : A.handled = none) (hit : s.heap.IsListIter it l i) (hl : s.heap.get? l = some (lo vs n)) (hx : vs[i]? = none)
    (hE : ∀ h' e, Heap.ExtBut it s.heap h' → (∃ o, h'.get? e = some o ∧ o.cls = .type "StopIteration") → E (.ref e) { s with heap := h' }) : wpAny (model PG w) A (callSpecial? (.ref it) (Str.ofString "__next__")) Q E s := by
  obtain ⟨o, ho, hc, hd⟩ := id hit
  refine wpAny_callSpecial?_slot (name := Str.ofString "__next__") hit.typeIs slot_listiter_next (wpAny_call_entry slot_listiter_next hit.typeIs entry_listiter_next ?_ (args_listiter_next _))
  show wpAny _ _ (field (.ref it) 0 >>= _) _ _ s
  refine wpAny_bind (wpAny_field ho hd (x := .ref l) rfl ?_)
  show wpAny _ _ (if (Value.ref l == Value.none) = true then _ else _) _ _ s
  rw [if_neg (show ¬ ((Value.ref l == Value.none) = true) from Bool.false_ne_true)]
  show wpAny _ _ (field (.ref it) 1 >>= _) _ _ s
  refine wpAny_bind (wpAny_field ho hd (x := .int i 0) rfl ?_)
  show wpAny _ _ (seqItems? (.ref l) >>= _) _ _ s
  refine wpAny_bind (wpAny_seqItems hl rfl ?_)
  have hx' : vs.toArray[i]? = none := by simpa using hx
  simp only [Int.toNat_natCast, hx']
  refine wpAny_bind (wpAny_rule (wpAny_bind (wpAny_setField ho hd (by simp) ?_)))
  show wpAny _ _ (newExc (.type "StopIteration") [] >>= _) _ _ _
  refine wpAny_bind ?_
  simp only [newExc, newTuple]
  refine wpAny_bind (wpAny_newObj_type ?_ (by size_fits))
  refine wpAny_bind (m := firstArgMember _ _) (wpAny_of_eq (a := Value.none) (by first | rfl | (simp only [firstArgMember]; rfl)) ?_)
  refine wpAny_newObj_type ?_ (by size_fits)
  simp only [raiseNew]
  refine wpAny_bind (wpAny_handled ?_)
  first | rw [show A.in1.handled = none from hh] | rw [hh]
  refine wpAny_bind (wpAny_pure (wpAny_throw ?_))
  exact hE _ _ (((Heap.SameBut.update ..).extBut.push _).push _) ⟨_, Heap.get?_push_size _ rfl, rfl⟩

theorem mro_filter : mroOf (.type "filter") = pure [.type "filter", .type "object"] := by rw [mroOf_type]; kernel_rfl
theorem lookup_filter_new : typeLookup (.type "filter") "__new__" = pure (some (.builtin "filter.__new__")) := by rw [typeLookup_type, builtinLookup_eq_fast]; kernel_rfl
theorem slot_filter_init : Slot "filter" "__init__" "object.__init__" :=
  .of (owner := "object") (n := "__init__") (by rw [typeLookup_type, builtinLookup_eq_fast]; kernel_rfl) (by decide +kernel) (by decide +kernel) (by decide +kernel)
    (by first | exact .inl (by decide +kernel) | exact .inr (by decide +kernel)) (by rw [isSubtype_type]; kernel_rfl)
theorem called_filter : TypeCalled "filter" "filter.__new__" "object.__init__" :=
  ⟨by decide +kernel, by decide +kernel, ⟨_, _, mro_filter⟩, madeBy_type mro_filter lookup_filter_new (by decide +kernel), by decide +kernel, by rw [isSubtype_type]; kernel_rfl, slot_filter_init⟩
theorem typeCall_filter (a b : Value) : checkTypeCall "filter" ⟨[a, b], []⟩ = pure () := by rw [PySem.W.Fast.te11612656972197000677]; kernel_rfl
theorem newCall_filter (a b : Value) : checkBuiltinCall "filter.__new__" ⟨[.type "filter", a, b], []⟩ = pure () := by rw [PySem.W.Fast.te10254737850608025244]; kernel_rfl
theorem entry_filter_new : entryFor table "filter.__new__" = some Builtin.«filter.__new__» := entryFor_of_tree (by kernel_rfl)
theorem slot_filter_next : Slot "filter" "__next__" "filter.__next__" :=
  .of (owner := "filter") (n := "__next__") (by rw [typeLookup_type, builtinLookup_eq_fast]; kernel_rfl) (by decide +kernel) (by decide +kernel) (by decide +kernel)
    (by first | exact .inl (by decide +kernel) | exact .inr (by decide +kernel)) (by rw [isSubtype_type]; kernel_rfl)
theorem entry_filter_next : entryFor table "filter.__next__" = some Builtin.«filter.__next__» := entryFor_of_tree (by kernel_rfl)
theorem plain_filter_next : plainId "filter.__next__" = true := by decide +kernel
theorem args_filter_next (a : Value) : argsOk "filter.__next__" ⟨[a], []⟩ := by unfold argsOk; rw [PySem.W.Fast.signatureQ_eq]; kernel_rfl

theorem call_filter {b l : Addr} {vs : List Value} {n : Nat} {Q : Value → Shared → Prop} (hl : s.heap.get? l = some (lo vs n))
    (h : Q (.ref (s.heap.push (liObj l)).objs.size) { s with heap := (s.heap.push (liObj l)).push (fltO b s.heap.objs.size) }) : wpAny (model PG w) A (call (.type "filter") [.ref b, .ref l]) Q E s := by
  refine callType_new called_filter (by decide) (typeCall_filter _ _) (newCall_filter _ _) (fun obj => F.args_object_init_3 obj _ _) entry_filter_new (meets_filter_new b l vs n) ⟨hl, ?_⟩
  exact ⟨⟨_, Heap.get?_push_size _ rfl, rfl⟩, h⟩

noncomputable def fl (ys : List Str) : Value → Bool
  | .str x _ => decide (x ∈ ys)
  | _ => false

theorem flt_next {f b it l S : Addr} {vs : List Value} {xs ys : List Str} {n : Nat} (hx : StrsAre vs xs) (hh : A.handled = none) (h1 : f ≠ it) (h2 : b ≠ it) (h3 : l ≠ it) (h4 : S ≠ it) {R : Result → Shared → Prop} :
    ∀ (k i : Nat) (s : Shared), vs.length - i = k → s.heap.get? f = some (fltO b it) → s.heap.get? b = some (bndO S) → s.heap.get? l = some (lo vs n) → s.heap.IsListIter it l i → (∃ q, s.heap.SetOf (strKind PG w) S (fun k' => decide (k' ∈ ys)) q) →
      (∀ j v h' tk, (vs.drop i).filter (fl ys) = v :: (vs.drop (j + 1)).filter (fl ys) → h'.IsListIter it l (j + 1) → (∀ b o, b ≠ it → s.heap.get? b = some o → h'.get? b = some o) → R (.ok (.ret v)) { s with heap := h', toks := tk }) →
      (∀ h' tk e, (vs.drop i).filter (fl ys) = [] → (∀ b o, b ≠ it → s.heap.get? b = some o → h'.get? b = some o) → (∃ o, h'.get? e = some o ∧ o.cls = .type "StopIteration") → R (.error (.ref e)) { s with heap := h', toks := tk }) →
      codeAny (model PG w) A (.builtin "filter.__next__" ⟨[.ref f], []⟩) R s := by
  intro k
  induction k with
  | zero =>
    intro i s hk hf hb hl hit hS hItem hEnd
    refine codeAny_builtin entry_filter_next ?_
    rw [Around.under_plainId plain_filter_next _]
    show wpAny _ A.in1 (field (.ref f) 0 >>= _) _ _ s
    refine wpAny_bind (wpAny_field hf rfl (x := .ref b) rfl ?_)
    refine wpAny_bind (wpAny_field hf rfl (x := .ref it) rfl ?_)
    have hnone : vs[i]? = none := List.getElem?_eq_none (by omega)
    refine wpAny_bind (cs_list_end (A := A.in1) hh hit hl hnone fun h' e he hs => ?_)
    exact hEnd h' s.toks e (by rw [List.drop_of_length_le (by omega)]; rfl) (fun b o hb e => he b o hb e) hs
  | succ k ih =>
    intro i s hk hf hb hl hit hS hItem hEnd
    have hlt : i < vs.length := by omega
    refine codeAny_builtin entry_filter_next ?_
    rw [Around.under_plainId plain_filter_next _]
    show wpAny _ A.in1 (field (.ref f) 0 >>= _) _ _ s
    refine wpAny_bind (wpAny_field hf rfl (x := .ref b) rfl ?_)
    refine wpAny_bind (wpAny_field hf rfl (x := .ref it) rfl ?_)
    have hsome : vs[i]? = some vs[i] := List.getElem?_eq_getElem hlt
    obtain ⟨x, t, hv, hxi⟩ := StrsAre.str_at hx i vs[i] hsome
    refine wpAny_bind (cs_list_item (A := A.in1) hit hl hsome fun h' hit' hsb => ?_)
    obtain ⟨q, oS, es, ep, tb, hS0, hS1⟩ := hS
    have keep : ∀ b o, b ≠ it → s.heap.get? b = some o → h'.get? b = some o := fun b o hb e => (hsb.2 b hb).trans e
    have hS' : h'.SetOf (strKind PG w) S (fun k' => decide (k' ∈ ys)) q := ⟨oS, es, ep, tb, keep S _ h4 hS0, hS1⟩
    have hdrop : vs.drop i = vs[i] :: vs.drop (i + 1) := List.drop_eq_getElem_cons hlt
    rw [hv]
    dsimp only
    refine wpAny_bind (wpAny_holding ?_)
    rw [if_neg (show ¬ ((Value.ref b == Value.none || Value.ref b == Value.type "bool") = true) from Bool.false_ne_true)]
    refine wpAny_bind (call_bound (keep b _ h2 hb) hS' fun tk => ?_)
    refine wpAny_holding (wpAny_truthy_bool ?_)
    by_cases hmem : x ∈ ys
    · rw [decide_eq_true hmem]
      simp only [if_true]
      refine wpAny_pure ?_
      have := hItem i vs[i] h' tk (by rw [hdrop, List.filter_cons, if_pos (by rw [hv]; simpa [fl] using hmem)]) hit' keep
      rw [hv] at this
      exact this
    · rw [decide_eq_false hmem]
      simp only [Bool.false_eq_true, if_false]
      have hfil : (vs.drop i).filter (fl ys) = (vs.drop (i + 1)).filter (fl ys) := by
        rw [hdrop, List.filter_cons, if_neg (by rw [hv]; simpa [fl] using hmem)]
      refine wpAny_pure ⟨plainId_quiet plain_filter_next _, ih (i + 1) _ (by omega) (keep f _ h1 hf) (keep b _ h2 hb) (keep l _ h3 hl) hit' ⟨q, hS'⟩ (fun j v h'' tk' e1 e2 e3 => ?_) (fun h'' tk' e e1 e2 e3 => ?_)⟩
      · exact hItem j v h'' tk' (hfil.trans e1) e2 fun b o hb e => e3 b o hb (keep b o hb e)
      · exact hEnd h'' tk' e (hfil.trans e1) (fun b o hb e => e2 b o hb (keep b o hb e)) e3

theorem pyNext_flt {f b it l S : Addr} {vs : List Value} {xs ys : List Str} {n i : Nat} {Q : Option Value → Shared → Prop} (hx : StrsAre vs xs) (hh : A.handled = none) (h1 : f ≠ it) (h2 : b ≠ it) (h3 : l ≠ it) (h4 : S ≠ it)
    (hf : s.heap.get? f = some (fltO b it)) (hb : s.heap.get? b = some (bndO S)) (hl : s.heap.get? l = some (lo vs n)) (hit : s.heap.IsListIter it l i) (hS : ∃ q, s.heap.SetOf (strKind PG w) S (fun k' => decide (k' ∈ ys)) q)
    (hItem : ∀ j v h' tk, (vs.drop i).filter (fl ys) = v :: (vs.drop (j + 1)).filter (fl ys) → h'.IsListIter it l (j + 1) → (∀ b o, b ≠ it → s.heap.get? b = some o → h'.get? b = some o) → Q (some v) { s with heap := h', toks := tk })
    (hEnd : ∀ h' tk, (vs.drop i).filter (fl ys) = [] → (∀ b o, b ≠ it → s.heap.get? b = some o → h'.get? b = some o) → Q none { s with heap := h', toks := tk }) :
    wpAny (model PG w) A (pyNext (.ref f)) Q E s := by
  have hT : s.TypeIs (.ref f) "filter" := ⟨_, hf, rfl⟩
  unfold pyNext
  refine wpAny_bind (wpAny_attempt (wpAny_callSpecial?_slot (name := Str.ofString "__next__") hT slot_filter_next ?_))
  refine wpAny_call (codeAny_of_tree ?_)
  show wpAny _ A.in1 (do checkBuiltinCall "filter.__next__" ⟨[.ref f], []⟩; again (.builtin "filter.__next__" ⟨[.ref f], []⟩)) _ _ s
  refine wpAny_bind (slot_filter_next.check _ _ _ _ _ _ _ _ hT (args_filter_next _) (wpAny_pure ⟨plainId_quiet plain_filter_next _, ?_⟩))
  refine flt_next hx hh h1 h2 h3 h4 (vs.length - i) i s rfl hf hb hl hit hS (fun j v h' tk e1 e2 e3 => ?_) fun h' tk e e1 e2 e3 => ?_
  · exact wpAny_pure (hItem j v h' tk e1 e2 e3)
  · obtain ⟨o, ho, hc⟩ := e3
    show wpAny _ _ (isInstance (.ref e) (.type "StopIteration") >>= _) _ _ _
    refine wpAny_bind (wpAny_isInstance (T := "StopIteration") (b := true) ⟨o, ho, hc⟩ isSubtype_stop ?_)
    exact wpAny_pure (hEnd h' tk e1 e2)

/-- the loop that fills a list out of the filter -/
theorem ext_loop {D f b it l S : Addr} {vs : List Value} {xs ys : List Str} {n : Nat} (hx : StrsAre vs xs) (hh : A.handled = none) (h1 : f ≠ it) (h2 : b ≠ it) (h3 : l ≠ it) (h4 : S ≠ it) (d1 : D ≠ it) (d2 : f ≠ D) (d3 : b ≠ D) (d4 : l ≠ D) (d5 : S ≠ D) {R : Result → Shared → Prop} (res : Value) :
    ∀ (k i : Nat) (acc : List Value) (c : Nat) (s : Shared), ((vs.drop i).filter (fl ys)).length = k → acc.length + k ≤ 1000000 → s.heap.get? f = some (fltO b it) → s.heap.get? b = some (bndO S) → s.heap.get? l = some (lo vs n) → s.heap.IsListIter it l i → (∃ q, s.heap.SetOf (strKind PG w) S (fun k' => decide (k' ∈ ys)) q) →
      s.heap.get? D = some (lo acc c) →
      (∀ h' tk c', h'.get? D = some (lo (acc ++ (vs.drop i).filter (fl ys)) c') → (∀ b o, b ≠ it → b ≠ D → s.heap.get? b = some o → h'.get? b = some o) → R (.ok (.ret res)) { s with heap := h', toks := tk }) →
      codeAny (model PG w) A (.builtin "list.extend.loop" ⟨[.ref D, .ref f, res], []⟩) R s := by
  intro k
  induction k with
  | zero =>
    intro i acc c s hk hz hf hb hl hit hS hD hR
    refine codeAny_builtin F.entry_extend_loop ?_
    rw [Around.under_plainId F.plain_extend_loop _]
    show wpAny _ A.in1 (pyNext (.ref f) >>= _) _ _ s
    refine wpAny_bind (pyNext_flt (A := A.in1) hx hh h1 h2 h3 h4 hf hb hl hit hS (fun j v h' tk e1 _ _ => ?_) fun h' tk e1 e2 => ?_)
    · rw [e1] at hk; simp at hk
    · show wpAny _ _ (ret res) _ _ _
      refine wpAny_pure (hR h' tk c ?_ fun b o hb _ e => e2 b o hb e)
      rw [e1, List.append_nil]; exact e2 D _ d1 hD
  | succ k ih =>
    intro i acc c s hk hz hf hb hl hit hS hD hR
    refine codeAny_builtin F.entry_extend_loop ?_
    rw [Around.under_plainId F.plain_extend_loop _]
    show wpAny _ A.in1 (pyNext (.ref f) >>= _) _ _ s
    refine wpAny_bind (pyNext_flt (A := A.in1) hx hh h1 h2 h3 h4 hf hb hl hit hS (fun j v h' tk e1 e2 e3 => ?_) fun h' tk e1 _ => ?_)
    · rw [e1, List.length_cons] at hk
      show wpAny _ _ (Builtin.List.listUpdate (.ref D) (·.push v) >>= _) _ _ _
      have hD' := e3 D _ d1 hD
      refine wpAny_bind (listUpdate_at hD' rfl ?_ (by rw [sizeLine_eq]; simp; omega))
      have hup : Obj.mapSeq (·.push v) (lo acc c) = lo (acc ++ [v]) (c + 1) := by simp [lo, Obj.mapSeq]
      have hget : (h'.update D (Obj.mapSeq (·.push v))).get? D = some (lo (acc ++ [v]) (c + 1)) := hup ▸ Heap.get?_update_self _ hD' (hup ▸ rfl)
      have keep : ∀ b o, b ≠ it → b ≠ D → s.heap.get? b = some o → (h'.update D (Obj.mapSeq (·.push v))).get? b = some o := fun b o hb hbD e => (Heap.get?_update_ne _ _ _ _ hbD).trans (e3 b o hb e)
      have hit'' : (h'.update D (Obj.mapSeq (·.push v))).IsListIter it l (j + 1) := by
        obtain ⟨o, ho, r⟩ := e2
        exact ⟨o, (Heap.get?_update_ne _ _ _ _ (Ne.symm d1)).trans ho, r⟩
      obtain ⟨q, oS, es, ep, tb, hS0, hS1⟩ := hS
      refine wpAny_pure ⟨plainId_quiet F.plain_extend_loop _, ih (j + 1) (acc ++ [v]) (c + 1) _ (by omega) (by simp; omega) (keep f _ h1 d2 hf) (keep b _ h2 d3 hb) (keep l _ h3 d4 hl) hit'' ⟨q, oS, es, ep, tb, keep S _ h4 d5 hS0, hS1⟩ hget fun h₃ tk₃ c₃ g1 g2 => ?_⟩
      refine hR h₃ tk₃ c₃ ?_ fun b o hb hbD e => g2 b o hb hbD (keep b o hb hbD e)
      rw [e1, g1, List.append_assoc]; rfl
    · rw [e1] at hk; simp at hk
end
end Mine
end

-- Filt2
section
open PySem PySem.W PyProof.Rows PySem.Calls
set_option maxRecDepth 100000
set_option maxHeartbeats 4000000
namespace Mine
theorem slot_filter_iter : Slot "filter" "__iter__" "filter.__iter__" :=
  .of (owner := "filter") (n := "__iter__") (by rw [typeLookup_type, builtinLookup_eq_fast]; kernel_rfl) (by decide +kernel) (by decide +kernel) (by decide +kernel)
    (by first | exact .inl (by decide +kernel) | exact .inr (by decide +kernel)) (by rw [isSubtype_type]; kernel_rfl)
theorem entry_filter_iter : entryFor table "filter.__iter__" = some Builtin.«dict_keyiterator.__iter__» :=
  entryFor_alias (id' := "dict_keyiterator.__iter__") (by rw [fastTable_eq_tree]; kernel_rfl) (by first | rfl | decide +kernel | (unfold String.splitOn; simp +decide [String.splitOnAux])) (by rw [PySem.W.Fast.canonicalQ_eq]; decide +kernel) (by rw [fastTable_eq_tree]; kernel_rfl)
theorem args_filter_iter (a : Value) : argsOk "filter.__iter__" ⟨[a], []⟩ := by unfold argsOk; rw [PySem.W.Fast.signatureQ_eq]; kernel_rfl
theorem filter_no_len : typeLookup (.type "filter") (Str.ofString "__len__") = pure none := by rw [typeLookup_type, builtinLookup_eq_fast]; kernel_rfl
theorem filter_no_hint : typeLookup (.type "filter") (Str.ofString "__length_hint__") = pure none := by rw [typeLookup_type, builtinLookup_eq_fast]; kernel_rfl

section
variable {w : World} {A : Around} {E : Value → Shared → Prop} {s : Shared}

/-- list.extend and list.__init__ with an iterator that has no length: one loop -/
theorem extendWith_it {T iid nid : String} {Bi : Builtin} {D f : Addr} {acc : List Value} {c : Nat} {of : Obj} {res : Value} {R : Result → Shared → Prop} (hz : acc.length ≤ 1000000) (hDf : D ≠ f)
    (hof : s.heap.get? f = some of) (hoc : of.cls = .type T) (hD : s.heap.get? D = some (lo acc c))
    (t1 : (Value.type T == Value.type "list") = false) (t2 : (Value.type T == Value.type "tuple") = false)
    (hlen : typeLookup (.type T) (Str.ofString "__len__") = pure none) (hhint : typeLookup (.type T) (Str.ofString "__length_hint__") = pure none)
    (si : Slot T "__iter__" iid) (ei : entryFor table iid = some Bi) (ai : argsOk iid ⟨[.ref f], []⟩) (sn : Slot T "__next__" nid)
    (hBi : Bi ⟨[.ref f], []⟩ = ret (.ref f))
    (h : ∀ h', h'.get? D = some (lo acc (c + 2)) → (∀ b o, b ≠ D → s.heap.get? b = some o → h'.get? b = some o) → codeAny (model PG w) A (.builtin "list.extend.loop" ⟨[.ref D, .ref f, res], []⟩) R { s with heap := h' }) :
    wpAny (model PG w) A.in1 (Builtin.List.listExtendWith (.ref D) (.ref f) res)
      (fun fin s' => match fin with | .done f => R (.ok f) s' | .again c' => c'.quiet = true ∧ codeAny (model PG w) A c' R s') (fun e s' => R (.error e) s') s := by
  have hT : s.TypeIs (.ref f) T := ⟨_, hof, hoc⟩
  unfold Builtin.List.listExtendWith
  refine wpAny_bind (wpAny_typeOf hT ?_)
  have hsame : Builtin.List.listSameRef (.ref D) (.ref f) = false := by
    simpa [Builtin.List.listSameRef] using hDf
  rw [hsame, t1, t2]
  simp only [Bool.or_false, Bool.false_eq_true, if_false]
  refine wpAny_bind (wpAny_pyIter_slot hT si (wpAny_call_entry si hT ei ?_ ai))
  rw [hBi]
  refine wpAny_pure ⟨_, rfl, T, _, hT, sn.lookup, ?_⟩
  refine wpAny_bind (wpAny_holding ?_)
  unfold Builtin.List.listLengthHint
  refine wpAny_bind (wpAny_specialOf hT hlen ?_)
  dsimp only
  rw [if_neg (by decide), if_neg (by decide)]
  refine wpAny_bind (wpAny_specialOf hT hhint ?_)
  dsimp only
  refine wpAny_pure ?_
  simp only [Bool.true_or, if_true]
  refine wpAny_bind (wpAny_rule ?_)
  refine wpAny_bind ?_
  unfold Builtin.List.listTouch
  refine wpAny_bind (listUpdate_at hD rfl ?_ (by rw [sizeLine_eq]; simp; omega))
  have u1 : Obj.mapSeq (·.push Value.none) (lo acc c) = lo (acc ++ [Value.none]) (c + 1) := by simp [lo, Obj.mapSeq]
  have g1 : (s.heap.update D (Obj.mapSeq (·.push Value.none))).get? D = some (lo (acc ++ [Value.none]) (c + 1)) := u1 ▸ Heap.get?_update_self _ hD (u1 ▸ rfl)
  refine listUpdate_at (s := { s with heap := s.heap.update D (Obj.mapSeq (·.push Value.none)) }) g1 rfl ?_ (by rw [sizeLine_eq]; simp; omega) (by rw [sizeLine_eq]; simp; omega)
  have u2 : Obj.mapSeq (·.pop) (lo (acc ++ [Value.none]) (c + 1)) = lo acc (c + 2) := by simp [lo, Obj.mapSeq]
  refine wpAny_pure ⟨plainId_quiet F.plain_extend_loop _, h _ (u2 ▸ Heap.get?_update_self _ g1 (u2 ▸ rfl)) fun b o hb e => ?_⟩
  exact (Heap.get?_update_ne _ _ _ _ hb).trans ((Heap.get?_update_ne _ _ _ _ hb).trans e)

theorem filter_iter_ret (f : Value) : Builtin.«dict_keyiterator.__iter__» ⟨[f], []⟩ = ret f := rfl

theorem call_list_filter {f b it l S : Addr} {vs : List Value} {xs ys : List Str} {n : Nat} {Q : Value → Shared → Prop} (hx : StrsAre vs xs) (hh : A.handled = none) (hz : vs.length ≤ 100000) (h1 : f ≠ it) (h2 : b ≠ it) (h3 : l ≠ it) (h4 : S ≠ it)
    (hf : s.heap.get? f = some (fltO b it)) (hb : s.heap.get? b = some (bndO S)) (hl : s.heap.get? l = some (lo vs n)) (hit : s.heap.IsListIter it l 0) (hS : ∃ q, s.heap.SetOf (strKind PG w) S (fun k' => decide (k' ∈ ys)) q)
    (hQ : ∀ h' tk c', h'.get? s.heap.objs.size = some (lo (vs.filter (fl ys)) c') → (∀ b o, b ≠ it → s.heap.get? b = some o → h'.get? b = some o) → Q (.ref s.heap.objs.size) { s with heap := h', toks := tk }) :
    wpAny (model PG w) A (call (.type "list") [.ref f]) Q E s := by
  have lt : ∀ {x o}, s.heap.get? x = some o → x ≠ s.heap.objs.size := fun e => Nat.ne_of_lt (Heap.lt_size e)
  obtain ⟨q, oS, es, ep, tb, hS0, hS1⟩ := hS
  obtain ⟨oi, hi0, hi1⟩ := hit
  refine callType_codes (Q₁ := fun obj s₁ => obj = .ref s.heap.objs.size ∧ s₁ = { s with heap := s.heap.push { cls := .type "list", data := .seq #[] } }) F.called_list (F.typeCall_list_1 _) F.entry_list_init
    (code_list_new _ ⟨rfl, rfl⟩) fun obj s₁ h₁ => ?_
  obtain ⟨rfl, rfl⟩ := h₁
  have hD : (s.heap.push { cls := .type "list", data := .seq #[] }).get? s.heap.objs.size = some (lo [] 0) := Heap.get?_push_size _ rfl
  refine ⟨⟨_, hD, rfl⟩, F.args_list_init_2 _ _, ?_⟩
  show wpAny _ _ (do let old ← Builtin.List.listItems (.ref s.heap.objs.size); Builtin.List.listUpdate (.ref s.heap.objs.size) (fun _ => #[]); letGo old.toList.reverse; Builtin.List.listExtendWith (.ref s.heap.objs.size) (.ref f) .none) _ _ _
  refine wpAny_bind (listItems_at hD rfl ?_)
  refine wpAny_bind (listUpdate_at hD rfl ?_ (by rw [sizeLine_eq]; simp))
  have u1 : Obj.mapSeq (fun _ => (#[] : Array Value)) (lo [] 0) = lo [] 0 := by simp [lo, Obj.mapSeq]
  have g1 : ((s.heap.push { cls := .type "list", data := .seq #[] }).update s.heap.objs.size (Obj.mapSeq (fun _ => (#[] : Array Value)))).get? s.heap.objs.size = some (lo [] 0) := u1 ▸ Heap.get?_update_self _ hD rfl
  have oth : ∀ b o, s.heap.get? b = some o → ((s.heap.push { cls := .type "list", data := .seq #[] }).update s.heap.objs.size (Obj.mapSeq (fun _ => (#[] : Array Value)))).get? b = some o :=
    fun b o e => (Heap.get?_update_ne _ _ _ _ (lt e)).trans (Heap.get?_push_of_some _ e)
  refine wpAny_bind (wpAny_letGo ?_)
  refine extendWith_it (T := "filter") (acc := []) (c := 0) (by simp) (Ne.symm (lt hf)) (oth f _ hf) rfl g1 (by decide) (by decide) filter_no_len filter_no_hint slot_filter_iter entry_filter_iter (args_filter_iter _) slot_filter_next (filter_iter_ret _) fun h' k1 k2 => ?_
  have oth' : ∀ b o, s.heap.get? b = some o → h'.get? b = some o := fun b o e => k2 b o (lt e) (oth b o e)
  refine ext_loop hx (A := A.in1) hh h1 h2 h3 h4 (Ne.symm (lt hi0)) (lt hf) (lt hb) (lt hl) (lt hS0) .none ((vs.drop 0).filter (fl ys)).length 0 [] 2 _ rfl ?_ (oth' f _ hf) (oth' b _ hb) (oth' l _ hl) ⟨oi, oth' it _ hi0, hi1⟩ ⟨q, oS, es, ep, tb, oth' S _ hS0, hS1⟩ k1 fun h₃ tk₃ c₃ r1 r2 => ?_
  · have := List.length_filter_le (fl ys) (vs.drop 0)
    simp at this ⊢; omega
  · refine ⟨rfl, hQ h₃ tk₃ c₃ (by simpa using r1) fun b o hb e => r2 b o hb (lt e) (oth' b o e)⟩
end
end Mine
end

-- Merge
section
open PySem PySem.W PyProof.Rows PySem.Calls
set_option maxRecDepth 100000
set_option maxHeartbeats 4000000
namespace Mine
open LCg

structure Rec where
  x : Addr
  dx : Addr
  ua : Addr
  rl : Addr
  av : List Value
  rv : List Value
  ag : List Str
  ru : List Str
  dl : Value
  t : Tok × Tok × Tok × Tok
  n : Nat
  n1 : Nat
  n2 : Nat
noncomputable def rec0 : Rec := ⟨0, 0, 0, 0, [], [], [], [], .none, (0, 0, 0, 0), 0, 0, 0⟩

noncomputable def Fresh (news : List (Addr × Obj)) (r : Rec) : Prop := ∀ p ∈ news, p.1 < r.x ∧ p.1 < r.dx ∧ p.1 < r.ua ∧ p.1 < r.rl
noncomputable def IsDelay (v : Value) : Prop := v = .none ∨ ∃ i t, v = .int i t
structure IsRec (w : World) (news : List (Addr × Obj)) (r : Rec) : Prop where
  x : (r.x, instObj 59 r.dx) ∈ news
  d : (r.dx, dictOf (entD w r.t (.ref r.ua) (.ref r.rl) r.dl .none) r.n) ∈ news
  ua : (r.ua, lo r.av r.n1) ∈ news
  rl : (r.rl, lo r.rv r.n2) ∈ news
  ag : StrsAre r.av r.ag
  ru : StrsAre r.rv r.ru
  dl : IsDelay r.dl
  z1 : r.ag.length ≤ 1000
  z2 : r.ru.length ≤ 1000
theorem IsRec.mono {w : World} {news news' : List (Addr × Obj)} {r : Rec} (h : IsRec w news r) (s : ∀ p ∈ news, p ∈ news') : IsRec w news' r :=
  ⟨s _ h.x, s _ h.d, s _ h.ua, s _ h.rl, h.ag, h.ru, h.dl, h.z1, h.z2⟩
theorem IsDelay.handed {v : Value} (h : IsDelay v) : handedIn v = true := by
  rcases h with rfl | ⟨i, t, rfl⟩ <;> rfl

theorem StrsAre.filter {ys : List Str} : ∀ {vs : List Value} {xs : List Str}, StrsAre vs xs → StrsAre (vs.filter (fl ys)) (xs.filter (fun x => decide (x ∈ ys)))
  | _, _, .nil => .nil
  | _, _, .cons x t hr => by
    by_cases h : x ∈ ys
    · rw [List.filter_cons, List.filter_cons, if_pos (by simpa [fl] using h), if_pos (by simpa using h)]
      exact .cons x t (StrsAre.filter hr)
    · rw [List.filter_cons, List.filter_cons, if_neg (by simpa [fl] using h), if_neg (by simpa using h)]
      exact StrsAre.filter hr
theorem StrsAre.app : ∀ {vs vs' : List Value} {xs xs' : List Str}, StrsAre vs xs → StrsAre vs' xs' → StrsAre (vs ++ vs') (xs ++ xs')
  | _, _, _, _, .nil, h => h
  | _, _, _, _, .cons x t hr, h => .cons x t (StrsAre.app hr h)

section
variable {d u : Nat} {w : World} {A : Around} {E : Value → Shared → Prop} {s : Shared} {L : Addr} {h₀ : Heap} {m : Str → Option Value} {I news : List (Addr × Obj)} {Q : Value → Shared → Prop} {hp : Heap}

theorem keepAll (F : Fr h₀ L s.heap m) (N : News h₀ L s.heap news) {h' : Heap} (k : ∀ b o, s.heap.get? b = some o → h'.get? b = some o) {o : Obj} (ho : h'.get? s.heap.objs.size = some o) :
    Fr h₀ L h' m ∧ News h₀ L h' ((s.heap.objs.size, o) :: news) ∧ ∀ p ∈ news, p.1 < s.heap.objs.size := by
  refine ⟨F.keeps k, fun p hp => ?_, fun p hp => Heap.lt_size (N p hp).1⟩
  rcases List.mem_cons.mp hp with rfl | hp
  · exact ⟨ho, Nat.ne_of_gt F.ns.lt, next_is_new F⟩
  · exact N.grown k p hp

theorem setCallS (hh : A.handled = none) (F : Fr h₀ L hp m) (N : News h₀ L hp news) {l : Addr} {vs : List Value} {xs : List Str} {n : Nat} (hl : (l, lo vs n) ∈ news) (hx : StrsAre vs xs) (hz : xs.length ≤ 1000)
    (h : ∀ S o s', Same s s' → Fr h₀ L s'.heap m → News h₀ L s'.heap ((S, o) :: news) → (∀ p ∈ news, p.1 < S) → o.cls = .type "set" → o.dict = none → (∃ es ep tb, o.data = .set es ep tb) →
      (∀ hq : Heap, hq.get? S = some o → ∃ q, hq.SetOf (strKind PG w) S (fun k' => decide (k' ∈ xs)) q) → Q (.ref S) s') (he : s.heap = hp := by rfl) :
    wpAny (model PG w) A (call (.type "set") [.ref l]) Q E s := by
  subst he
  refine call_set_strs hh (N _ hl).1 hx (by rw [StrsAre.len hx]; unfold scanBound; omega) fun h' tk hS hk => ?_
  obtain ⟨q, o, es, ep, tb, ho, r1, r2, r3⟩ := hS
  obtain ⟨F', N', lt⟩ := keepAll F N (fun b o e => hk b o (Heap.lt_size e) e) ho
  exact h _ o _ ⟨rfl, rfl⟩ F' N' lt r1.1 r1.2.1 ⟨es, ep, tb, r2⟩ fun hq hqe => ⟨q, o, es, ep, tb, hqe, r1, r2, r3⟩

theorem containsS (F : Fr h₀ L hp m) (N : News h₀ L hp news) {S : Addr} {o : Obj} (hS : (S, o) ∈ news) (h1 : o.cls = .type "set") (h2 : o.dict = none) (h3 : ∃ es ep tb, o.data = .set es ep tb)
    (h : ∀ b s', Same s s' → Fr h₀ L s'.heap m → News h₀ L s'.heap ((b, bndO S) :: news) → (∀ p ∈ news, p.1 < b) → Q (.ref b) s') (he : s.heap = hp := by rfl) :
    wpAny (model PG w) A (getAttr (.ref S) (Str.ofString "__contains__") true) Q E s := by
  subst he
  obtain ⟨es, ep, tb, h3⟩ := h3
  exact getAttr_contains (N _ hS).1 h1 h2 h3 fun tk => h _ _ ⟨rfl, rfl⟩ (F.push _) (N.push F _) fun p hp => Heap.lt_size (N p hp).1

theorem filterS (F : Fr h₀ L hp m) (N : News h₀ L hp news) {b l : Addr} {vs : List Value} {n : Nat} (hl : (l, lo vs n) ∈ news)
    (h : ∀ f it s', Same s s' → Fr h₀ L s'.heap m → News h₀ L s'.heap ((f, fltO b it) :: (it, liObj l) :: news) → (∀ p ∈ news, p.1 < it) → it < f → Q (.ref f) s') (he : s.heap = hp := by rfl) :
    wpAny (model PG w) A (call (.type "filter") [.ref b, .ref l]) Q E s := by
  subst he
  refine call_filter (N _ hl).1 ?_
  have N₁ := N.push F (liObj l)
  have F₁ := F.push (liObj l)
  exact h _ _ _ ⟨rfl, rfl⟩ (F₁.push _) (N₁.push F₁ _) (fun p hp => Heap.lt_size (N p hp).1) (by rw [Heap.size_push]; exact Nat.lt_succ_self _)

theorem listFilterS (hh : A.handled = none) (F : Fr h₀ L hp m) {f it b l S : Addr} {o : Obj} {vs : List Value} {xs ys : List Str} {n : Nat} (N : News h₀ L hp ((f, fltO b it) :: (it, liObj l) :: news)) (hit : ∀ p ∈ news, p.1 < it) (hf : it < f)
    (hl : (l, lo vs n) ∈ news) (hb : (b, bndO S) ∈ news) (hS : (S, o) ∈ news) (hx : StrsAre vs xs) (hz : xs.length ≤ 1000) (hso : ∀ hq : Heap, hq.get? S = some o → ∃ q, hq.SetOf (strKind PG w) S (fun k' => decide (k' ∈ ys)) q)
    (h : ∀ D c s', Same s s' → Fr h₀ L s'.heap m → News h₀ L s'.heap ((D, lo (vs.filter (fl ys)) c) :: news) → (∀ p ∈ news, p.1 < D) → Q (.ref D) s') (he : s.heap = hp := by rfl) :
    wpAny (model PG w) A (call (.type "list") [.ref f]) Q E s := by
  subst he
  have hi := N (it, liObj l) (.tail _ (.head _))
  have ne : ∀ {p : Addr × Obj}, p ∈ news → p.1 ≠ it := fun hp => Nat.ne_of_lt (hit _ hp)
  have get : ∀ {p : Addr × Obj}, p ∈ news → s.heap.get? p.1 = some p.2 := fun hp => (N _ (.tail _ (.tail _ hp))).1
  refine call_list_filter hx hh (by rw [StrsAre.len hx]; omega) (Nat.ne_of_gt hf) (ne hb) (ne hl) (ne hS) (N _ (.head _)).1 (get hb) (get hl) ⟨_, hi.1, rfl, rfl⟩ (hso _ (get hS)) fun h' tk c' k1 k2 => ?_
  have k2' : ∀ b o, b ∉ [it] → s.heap.get? b = some o → h'.get? b = some o := fun b o hb e => k2 b o (by simpa using hb) e
  have N₀ : News h₀ L s.heap news := fun p hp => N p (.tail _ (.tail _ hp))
  refine h _ c' _ ⟨rfl, rfl⟩ (fr_but F k2' (Ne.symm hi.2.1) hi.2.2) (fun p hp => ?_) fun p hp => Heap.lt_size (N₀ p hp).1
  rcases List.mem_cons.mp hp with rfl | hp
  · exact ⟨k1, Nat.ne_of_gt F.ns.lt, next_is_new F⟩
  · exact news_but N₀ k2' (fun p hp => ne hp) p hp

theorem addListS (F : Fr h₀ L hp m) (N : News h₀ L hp news) {a b : Addr} {vs vs' : List Value} {n n' : Nat} (ha : (a, lo vs n) ∈ news) (hb : (b, lo vs' n') ∈ news) (hz : vs.length + vs'.length ≤ 1000000)
    (h : ∀ D s', Same s s' → Fr h₀ L s'.heap m → News h₀ L s'.heap ((D, lo (vs ++ vs') 0) :: news) → (∀ p ∈ news, p.1 < D) → Q (.ref D) s') (he : s.heap = hp := by rfl) :
    wpAny (model PG w) A (binaryOp .Add (.ref a) (.ref b)) Q E s := by
  subst he
  refine PySem.P.add_list (N _ ha).1 (N _ hb).1 ?_ (by rw [sizeLine_eq]; simp; omega)
  have e : vs.toArray ++ vs'.toArray = (vs ++ vs').toArray := by simp
  rw [e]
  exact h _ _ ⟨rfl, rfl⟩ (F.push _) (N.push F _) fun p hp => Heap.lt_size (N p hp).1

/-- what merging two records tells -/
noncomputable def mrg (r1 r2 : Rec) (r : Rec) : Prop := r.ag = r1.ag.filter (fun x => decide (x ∈ r2.ag)) ∧ r.ru = r1.ru ++ r2.ru ∧ r.dl = (if r2.dl = .none then r1.dl else r2.dl)

theorem merge_call {hp₀ : Heap} (C : Cx d u w A L h₀) (F : Fr h₀ L hp₀ m) (N : News h₀ L hp₀ news) (hd : d < 600) {r1 r2 : Rec} (h1 : IsRec w news r1) (h2 : IsRec w news r2) (hz : r1.ru.length + r2.ru.length ≤ 1000)
    (h : ∀ r news' s', Same s s' → Fr h₀ L s'.heap m → News h₀ L s'.heap news' → Grow news news' → IsRec w news' r → Fresh news r → mrg r1 r2 r → Q (.ref r.x) s') (he : s.heap = hp₀ := by rfl) :
    wpAny (model PG w) A (call (.ref 70) [.ref r1.x, .ref r2.x]) Q E s := by
  subst he
  refine call_def C F N rfl rfl (by omega) rfl (locs rfl) (fun v news' => ∃ r, v = .ref r.x ∧ Grow news news' ∧ IsRec w news' r ∧ Fresh news r ∧ mrg r1 r2 r) ?_ ?_
  · intro g L' A' s₁ C' F₁ N₁ sm l
    refine wpAny_execs_cons (wpAny_Assign_Name (callN0 C' F₁ rfl rfl (entry_call C' F₁ N₁ (by omega) fun x dx ua₀ rl₀ t n s₂ sm₂ F₂ N₂ l1 l2 l3 l4 => ?_)))
    refine stS F₂ N₂ fun s₃ sm₃ F₃ N₃ => ?_
    generalize hI : (rl₀, lo [] 0) :: (ua₀, lo [] 0) :: (x, instObj 59 dx) :: news = I₃ at N₃
    have sub : ∀ p ∈ news, p ∈ I₃ := fun p hp => hI ▸ .tail _ (.tail _ (.tail _ hp))
    have hxI : (x, instObj 59 dx) ∈ I₃ := hI ▸ .tail _ (.tail _ (.head _))
    have offI : Off dx I₃ := fun p hp => by
      rw [← hI] at hp
      simp only [List.mem_cons] at hp
      rcases hp with rfl | rfl | rfl | hp
      · exact Nat.ne_of_gt (Nat.lt_trans (Nat.lt_trans l2 l3) l4)
      · exact Nat.ne_of_gt (Nat.lt_trans l2 l3)
      · exact Nat.ne_of_gt l2
      · exact Nat.ne_of_lt (l1 p hp)
    have upI : ∀ p ∈ I₃, p ∈ news ∨ ∀ q ∈ news, q.1 < p.1 := fun p hp => by
      rw [← hI] at hp
      simp only [List.mem_cons] at hp
      rcases hp with rfl | rfl | rfl | hp
      · exact .inr fun q hq => Nat.lt_trans (l1 q hq) (Nat.lt_trans l2 (Nat.lt_trans l3 l4))
      · exact .inr fun q hq => Nat.lt_trans (l1 q hq) (Nat.lt_trans l2 l3)
      · exact .inr fun q hq => Nat.lt_trans (l1 q hq) l2
      · exact .inl hp
    clear hI
    have k1 := h1.mono (fun p hp => (.tail (dx, dictOf (entD w t (.ref ua₀) (.ref rl₀) .none .none) n) (sub p hp)))
    have k2 := h2.mono (fun p hp => (.tail (dx, dictOf (entD w t (.ref ua₀) (.ref rl₀) .none .none) n) (sub p hp)))
    refine wpAny_execs_cons (plainObj_wpAny_Assign_Attribute ?_)
    refine callT C' F₃ rfl boot_list (spliced_more ?_)
    refine callT C' F₃ rfl boot_filter (spliced_more ?_)
    refine Attribute_any_ (callT C' F₃ rfl boot_set (spliced_more ?_))
    refine Attribute_Name_ (ld F₃ rfl ?_)
    refine getA C' F₃ N₃ k2.x k2.d rfl rfl (spliced_none ?_)
    refine setCallS C'.hand F₃ N₃ k2.ua k2.ag k2.z1 fun S oS s₄ sm₄ F₄ N₄ l₄ q1 q2 q3 q4 => ?_
    refine containsS F₄ N₄ (.head _) q1 q2 q3 fun b s₅ sm₅ F₅ N₅ l₅ => ?_
    have k1' := k1.mono (fun p hp => (.tail (b, bndO S) (.tail (S, oS) hp)))
    refine spliced_more (Attribute_Name_ (ld F₅ rfl ?_))
    refine getA C' F₅ N₅ k1'.x k1'.d rfl rfl (spliced_none ?_)
    refine filterS F₅ N₅ k1'.ua fun f it s₆ sm₆ F₆ N₆ l₆ l₆' => ?_
    refine spliced_none (listFilterS C'.hand F₆ N₆ l₆ l₆' k1'.ua (.head _) (.tail _ (.head _)) k1'.ag k1'.z1 q4 fun D c s₇ sm₇ F₇ N₇ l₇ => ?_)
    refine ld F₇ rfl ?_
    have D1 : dx < D := l₇ _ (.tail _ (.tail _ (.head _)))
    have D2 : ∀ p ∈ I₃, p.1 < D := fun p hp => l₇ p (.tail _ (.tail _ (.tail _ hp)))
    have N₈ : News g L' s₇.heap ((dx, dictOf (entD w t (.ref ua₀) (.ref rl₀) .none .none) n) :: (D, lo (r1.av.filter (fl r2.ag)) c) :: I₃) := fun p hp => N₇ p (by
      simp only [List.mem_cons] at hp ⊢
      rcases hp with e | e | e
      · exact .inr (.inr (.inr (.inl e)))
      · exact .inl e
      · exact .inr (.inr (.inr (.inr e))))
    have o8 : Off dx ((D, lo (r1.av.filter (fl r2.ag)) c) :: I₃) := fun p hp => by
      rcases List.mem_cons.mp hp with rfl | hp
      · exact Nat.ne_of_gt D1
      · exact offI p hp
    refine setA C' F₇ N₈ o8 (.tail _ hxI) rfl (Nat.le_of_ble_eq_true rfl) fun s₈ t₈ sm₈ F₈ N₉ => ?_
    -- rulelines
    have k1 := h1.mono (fun p hp => (.tail (dx, dictOf (entD w t (.ref D) (.ref rl₀) .none .none) n) (.tail (D, lo (r1.av.filter (fl r2.ag)) c) (sub p hp))))
    have k2 := h2.mono (fun p hp => (.tail (dx, dictOf (entD w t (.ref D) (.ref rl₀) .none .none) n) (.tail (D, lo (r1.av.filter (fl r2.ag)) c) (sub p hp))))
    have N₉' : News g L' s₈.heap ((dx, dictOf (entD w t (.ref D) (.ref rl₀) .none .none) n) :: (D, lo (r1.av.filter (fl r2.ag)) c) :: I₃) := N₉
    refine wpAny_execs_cons (plainObj_wpAny_Assign_Attribute (wpAny_BinOp ?_))
    refine Attribute_Name_ (ld F₈ rfl (getA C' F₈ N₉' k1.x k1.d rfl rfl ?_))
    refine Attribute_Name_ (ld F₈ rfl (getA C' F₈ N₉' k2.x k2.d rfl rfl ?_))
    refine addListS F₈ N₉' k1.rl k2.rl (by rw [StrsAre.len h1.ru, StrsAre.len h2.ru]; omega) fun D' s₉ sm₉ F₉ N₁₀ l₉ => ?_
    refine ld F₉ rfl ?_
    have D3 : dx < D' := l₉ _ (.head _)
    have D4 : ∀ p ∈ I₃, p.1 < D' := fun p hp => l₉ p (.tail _ (.tail _ hp))
    have N₁₁ : News g L' s₉.heap ((dx, dictOf (entD w t (.ref D) (.ref rl₀) .none .none) n) :: (D', lo (r1.rv ++ r2.rv) 0) :: (D, lo (r1.av.filter (fl r2.ag)) c) :: I₃) := fun p hp => N₁₀ p (by
      simp only [List.mem_cons] at hp ⊢
      rcases hp with e | e | e
      · exact .inr (.inl e)
      · exact .inl e
      · exact .inr (.inr e))
    have o11 : Off dx ((D', lo (r1.rv ++ r2.rv) 0) :: (D, lo (r1.av.filter (fl r2.ag)) c) :: I₃) := fun p hp => by
      rcases List.mem_cons.mp hp with rfl | hp
      · exact Nat.ne_of_gt D3
      · exact o8 p hp
    refine setA C' F₉ N₁₁ o11 (.tail _ (.tail _ hxI)) rfl (Nat.le_of_ble_eq_true rfl) fun s₁₀ t₁₀ sm₁₀ F₁₀ N₁₂ => ?_
    generalize hJ : (D', lo (r1.rv ++ r2.rv) 0) :: (D, lo (r1.av.filter (fl r2.ag)) c) :: I₃ = J at *
    have subJ : ∀ p ∈ news, p ∈ J := fun p hp => hJ ▸ .tail _ (.tail _ (sub p hp))
    have N₁₃ : News g L' s₁₀.heap ((dx, dictOf (entD w t (.ref D) (.ref D') .none .none) n) :: J) := N₁₂
    have k1 := h1.mono (fun p hp => (.tail (dx, dictOf (entD w t (.ref D) (.ref D') .none .none) n) (subJ p hp)))
    have k2 := h2.mono (fun p hp => (.tail (dx, dictOf (entD w t (.ref D) (.ref D') .none .none) n) (subJ p hp)))
    -- delay
    refine wpAny_execs_cons (plainObj_wpAny_Assign_Attribute (wpAny_mono (Q := fun v s' => v = (if r2.dl = .none then r1.dl else r2.dl) ∧ Same s₁₀ s' ∧ s'.heap = s₁₀.heap) (IfExp_ (wpAny_isTrue_Compare1 ?_)) ?_ (fun _ _ x => x)))
    · refine Attribute_Name_ (ld F₁₀ rfl (getA C' F₁₀ N₁₃ k2.x k2.d rfl h2.dl.handed (wpAny_Constant_none (is_none (wpAny_truthy_bool ?_)))))
      by_cases hn : r2.dl = .none
      · have e : (r2.dl == Value.none) = true := by rw [hn]; rfl
        rw [if_pos e, if_pos hn]
        exact Attribute_Name_ (ld F₁₀ rfl (getA C' F₁₀ N₁₃ k1.x k1.d rfl h1.dl.handed ⟨rfl, ⟨rfl, rfl⟩, rfl⟩))
      · have e : ¬ (r2.dl == Value.none) = true := by simpa using hn
        rw [if_neg e, if_neg hn]
        exact Attribute_Name_ (ld F₁₀ rfl (getA C' F₁₀ N₁₃ k2.x k2.d rfl h2.dl.handed ⟨rfl, ⟨rfl, rfl⟩, rfl⟩))
    rintro v s₁₁ ⟨rfl, sm₁₁, e₁₁⟩
    rw [← e₁₁] at F₁₀ N₁₃
    have hdl : IsDelay (if r2.dl = .none then r1.dl else r2.dl) := by split; exact h1.dl; exact h2.dl
    generalize hdle : (if r2.dl = .none then r1.dl else r2.dl) = dl at hdl ⊢
    have hxJ : (x, instObj 59 dx) ∈ J := hJ ▸ .tail _ (.tail _ hxI)
    have offJ : Off dx J := hJ ▸ o11
    refine ld F₁₀ rfl (setA C' F₁₀ N₁₃ offJ hxJ rfl (Nat.le_of_ble_eq_true rfl) fun s₁₂ t₁₂ sm₁₂ F₁₂ N₁₄ => ?_)
    have N₁₅ : News g L' s₁₂.heap ((dx, dictOf (entD w t (.ref D) (.ref D') dl .none) n) :: J) := N₁₄
    have k1 := h1.mono (fun p hp => (.tail (dx, dictOf (entD w t (.ref D) (.ref D') dl .none) n) (subJ p hp)))
    have k2 := h2.mono (fun p hp => (.tail (dx, dictOf (entD w t (.ref D) (.ref D') dl .none) n) (subJ p hp)))
    refine wpAny_execs_cons (plainObj_wpAny_Assign_Attribute (IfExp_ (wpAny_isTrue_Compare1 ?_)))
    refine Attribute_Name_ (ld F₁₂ rfl (getA C' F₁₂ N₁₅ k2.x k2.d rfl rfl (wpAny_Constant_none (is_none (wpAny_truthy_bool ?_)))))
    rw [if_pos (by rfl)]
    refine Attribute_Name_ (ld F₁₂ rfl (getA C' F₁₂ N₁₅ k1.x k1.d rfl rfl ?_))
    refine ld F₁₂ rfl (setA C' F₁₂ N₁₅ offJ hxJ rfl (Nat.le_of_ble_eq_true rfl) fun s₁₃ t₁₃ sm₁₃ F₁₃ N₁₆ => ?_)
    have N₁₇ : News g L' s₁₃.heap ((dx, dictOf (entD w t (.ref D) (.ref D') dl .none) n) :: J) := N₁₆
    refine wpAny_execs_cons (wpAny_Return_some (ld F₁₃ rfl ?_))
    have lx : ∀ p ∈ news, p.1 < x := fun p hp => Nat.lt_trans (l1 p hp) l2
    have gr : Grow news ((dx, dictOf (entD w t (.ref D) (.ref D') dl .none) n) :: J) := by
      refine ⟨fun p hp => .tail _ (subJ p hp), fun p hp => ?_⟩
      rw [← hJ] at hp
      simp only [List.mem_cons] at hp
      rcases hp with rfl | rfl | rfl | hp
      · exact .inr fun q hq => l1 q hq
      · exact .inr fun q hq => D4 q (sub q hq)
      · exact .inr fun q hq => D2 q (sub q hq)
      · exact upI p hp
    refine ⟨_, _, (((((((((((Same.rfl'.nx sm₂).nx sm₃).nx sm₄).nx sm₅).nx sm₆).nx sm₇).nx sm₈).nx sm₉).nx sm₁₀).nx sm₁₁).nx sm₁₂).nx sm₁₃, F₁₃, N₁₇,
      ⟨x, dx, D, D', r1.av.filter (fl r2.ag), r1.rv ++ r2.rv, r1.ag.filter (fun x => decide (x ∈ r2.ag)), r1.ru ++ r2.ru, dl, t, n, c, 0⟩, rfl, gr, ?_, fun p hp => ⟨lx p hp, l1 p hp, D2 p (sub p hp), D4 p (sub p hp)⟩, rfl, rfl, hdle.symm⟩
    refine ⟨.tail _ hxJ, .head _, .tail _ (hJ ▸ .tail _ (.head _)), .tail _ (hJ ▸ .head _), StrsAre.filter h1.ag, StrsAre.app h1.ru h2.ru, hdl, ?_, ?_⟩
    · have := List.length_filter_le (fun x => decide (x ∈ r2.ag)) r1.ag
      have := h1.z1
      dsimp only; omega
    · simp only [List.length_append]; exact hz
  · rintro v s' news' sm F' N' ⟨r, rfl, g, hr, lx, hm⟩
    exact h r news' s' sm F' N' g hr lx hm
end
end Mine
end

-- RecM
section
open PySem PySem.W PyProof.Rows PySem.Calls
set_option maxRecDepth 100000
set_option maxHeartbeats 4000000
namespace Mine
section
variable {d u : Nat} {w : World} {A : Around} {E : Value → Shared → Prop} {s : Shared} {L : Addr} {h₀ : Heap} {m : Str → Option Value} {I news : List (Addr × Obj)} {Q : Value → Shared → Prop} {hp : Heap}

theorem extendS (F : Fr h₀ L hp m) {D b : Addr} {vs vs' : List Value} {n n' : Nat} (N : News h₀ L hp ((D, lo vs n) :: I)) (hI : Off D I) (hb : (b, lo vs' n') ∈ I) (hz : vs.length + vs'.length ≤ 1000000)
    (h : ∀ n'' s', Same s s' → Fr h₀ L s'.heap m → News h₀ L s'.heap ((D, lo (vs ++ vs') n'') :: I) → Q .none s') (he : s.heap = hp := by rfl) :
    wpAny (model PG w) A (call (.builtin "list.extend") [.ref D, .ref b]) Q E s := by
  subst he
  have hd : ¬ (!vs.toArray.isEmpty && Builtin.List.listTooLong (vs.toArray.size + vs'.toArray.size)) = true := by
    have : Builtin.List.listTooLong (vs.toArray.size + vs'.toArray.size) = false := by
      unfold Builtin.List.listTooLong
      simp only [List.size_toArray, decide_eq_false_iff_not, sizeLine_eq]
      omega
    rw [this]; simp
  by_cases h0 : vs' = []
  · subst h0
    exact kxn_extend F N (.tail _ hb) rfl (.head hI) hd (by rw [sizeLine_eq]; simp; simp at hz; omega) (by rw [sizeLine_eq]; simp; simp at hz; omega) fun h' F' N' => h n _ ⟨rfl, rfl⟩ F' (by simpa using N')
  · exact kl_extend F N (.tail _ hb) rfl (by simpa using h0) (.head hI) hd (by rw [sizeLine_eq]; simp; omega) (by rw [sizeLine_eq]; simp; omega) fun h' F' N' => h (n + 1) _ ⟨rfl, rfl⟩ F' (by simpa using N')

theorem record_call {hp₀ : Heap} (C : Cx d u w A L h₀) (F : Fr h₀ L hp₀ m) (N : News h₀ L hp₀ news) (hd : d < 600) {ua rl : Addr} {av rv : List Value} {ag ru : List Str} {dl : Value} {n1 n2 : Nat}
    (h1 : (ua, lo av n1) ∈ news) (h2 : (rl, lo rv n2) ∈ news) (h3 : StrsAre av ag) (h4 : StrsAre rv ru) (h5 : IsDelay dl) (z1 : ag.length ≤ 1000) (z2 : ru.length ≤ 1000)
    (h : ∀ r news' s', Same s s' → Fr h₀ L s'.heap m → News h₀ L s'.heap news' → Grow news news' → IsRec w news' r → Fresh news r → r.ag = ag ∧ r.ru = ru ∧ r.dl = dl → Q (.ref r.x) s') (he : s.heap = hp₀ := by rfl) :
    wpAny (model PG w) A (call (.ref 131) [.ref ua, dl, .ref rl]) Q E s := by
  subst he
  refine call_def C F N rfl rfl (by omega) rfl (locs rfl) (fun v news' => ∃ r, v = .ref r.x ∧ Grow news news' ∧ IsRec w news' r ∧ Fresh news r ∧ r.ag = ag ∧ r.ru = ru ∧ r.dl = dl) ?_ ?_
  · intro g L' A' s₁ C' F₁ N₁ sm l
    refine wpAny_execs_cons (wpAny_Assign_Name (callN0 C' F₁ rfl rfl (entry_call C' F₁ N₁ (by omega) fun x dx ua₀ rl₀ t n s₂ sm₂ F₂ N₂ l1 l2 l3 l4 => ?_)))
    refine stS F₂ N₂ fun s₃ sm₃ F₃ N₃ => ?_
    have hz1 := StrsAre.len h3
    have hz2 := StrsAre.len h4
    -- record.useragents.extend(agents)
    refine wpAny_execs_cons (wpAny_Expr (MethodCall_ (Attribute_Name_ (ld F₃ rfl (getA C' F₃ N₃ (.tail _ (.tail _ (.tail _ (.head _)))) (.head _) rfl rfl ?_)))))
    refine listMethod_K (s := { s₃ with toks := s₃.toks + 1 }) N₃ (.tail _ (.tail _ (.head _))) _root_.PySem.F.slot_list_extend _root_.PySem.F.type_list_extend (callWith_method1 (spliced_more (ld F₃ rfl (spliced_none ?_))))
    generalize hdc : (dx, dictOf (entD w t (.ref ua₀) (.ref rl₀) .none .none) n) = dc at N₃
    have N₄ : News g L' s₃.heap ((ua₀, lo [] 0) :: dc :: (rl₀, lo [] 0) :: (x, instObj 59 dx) :: news) := fun p hp => N₃ p (by
      simp only [List.mem_cons] at hp ⊢
      rcases hp with e | e | e | e | e
      · exact .inr (.inr (.inl e))
      · exact .inl e
      · exact .inr (.inl e)
      · exact .inr (.inr (.inr (.inl e)))
      · exact .inr (.inr (.inr (.inr e))))
    have o4 : Off ua₀ (dc :: (rl₀, lo [] 0) :: (x, instObj 59 dx) :: news) := fun p hp => by
      simp only [List.mem_cons] at hp
      rcases hp with rfl | rfl | rfl | hp
      · rw [← hdc]; exact Nat.ne_of_lt (Nat.lt_trans l2 l3)
      · exact Nat.ne_of_gt l4
      · exact Nat.ne_of_lt l3
      · exact Nat.ne_of_lt (Nat.lt_trans (l1 p hp) (Nat.lt_trans l2 l3))
    refine extendS F₃ N₄ o4 (.tail _ (.tail _ (.tail _ h1))) (by simp; omega) fun n₅ s₅ sm₅ F₅ N₅ => ?_
    rw [List.nil_append] at N₅
    -- record.rulelines.extend(rules)
    have N₆ : News g L' s₅.heap ((rl₀, lo [] 0) :: dc :: (ua₀, lo av n₅) :: (x, instObj 59 dx) :: news) := fun p hp => N₅ p (by
      simp only [List.mem_cons] at hp ⊢
      rcases hp with e | e | e | e | e
      · exact .inr (.inr (.inl e))
      · exact .inr (.inl e)
      · exact .inl e
      · exact .inr (.inr (.inr (.inl e)))
      · exact .inr (.inr (.inr (.inr e))))
    have hdm : (dx, dictOf (entD w t (.ref ua₀) (.ref rl₀) .none .none) n) ∈ (rl₀, lo [] 0) :: dc :: (ua₀, lo av n₅) :: (x, instObj 59 dx) :: news := hdc ▸ .tail _ (.head _)
    refine wpAny_execs_cons (wpAny_Expr (MethodCall_ (Attribute_Name_ (ld F₅ rfl (getA C' F₅ N₆ (.tail _ (.tail _ (.tail _ (.head _)))) hdm rfl rfl ?_)))))
    refine listMethod_K (s := { s₅ with toks := s₅.toks + 1 }) N₆ (.head _) _root_.PySem.F.slot_list_extend _root_.PySem.F.type_list_extend (callWith_method1 (spliced_more (ld F₅ rfl (spliced_none ?_))))
    have o6 : Off rl₀ (dc :: (ua₀, lo av n₅) :: (x, instObj 59 dx) :: news) := fun p hp => by
      simp only [List.mem_cons] at hp
      rcases hp with rfl | rfl | rfl | hp
      · rw [← hdc]; exact Nat.ne_of_lt (Nat.lt_trans l2 (Nat.lt_trans l3 l4))
      · exact Nat.ne_of_lt l4
      · exact Nat.ne_of_lt (Nat.lt_trans l3 l4)
      · exact Nat.ne_of_lt (Nat.lt_trans (l1 p hp) (Nat.lt_trans l2 (Nat.lt_trans l3 l4)))
    refine extendS F₅ N₆ o6 (.tail _ (.tail _ (.tail _ h2))) (by simp; omega) fun n₇ s₇ sm₇ F₇ N₇ => ?_
    rw [List.nil_append] at N₇
    -- record.delay = delay
    have N₈ : News g L' s₇.heap ((dx, dictOf (entD w t (.ref ua₀) (.ref rl₀) .none .none) n) :: (rl₀, lo rv n₇) :: (ua₀, lo av n₅) :: (x, instObj 59 dx) :: news) := fun p hp => N₇ p (by
      simp only [List.mem_cons] at hp ⊢
      rcases hp with e | e | e | e | e
      · exact .inr (.inl (e.trans hdc))
      · exact .inl e
      · exact .inr (.inr (.inl e))
      · exact .inr (.inr (.inr (.inl e)))
      · exact .inr (.inr (.inr (.inr e))))
    have o8 : Off dx ((rl₀, lo rv n₇) :: (ua₀, lo av n₅) :: (x, instObj 59 dx) :: news) := fun p hp => by
      simp only [List.mem_cons] at hp
      rcases hp with rfl | rfl | rfl | hp
      · exact Nat.ne_of_gt (Nat.lt_trans l2 (Nat.lt_trans l3 l4))
      · exact Nat.ne_of_gt (Nat.lt_trans l2 l3)
      · exact Nat.ne_of_gt l2
      · exact Nat.ne_of_lt (l1 p hp)
    refine wpAny_execs_cons (plainObj_wpAny_Assign_Attribute (ld F₇ rfl (ld F₇ rfl (setA C' F₇ N₈ o8 (.tail _ (.tail _ (.head _))) rfl (Nat.le_of_ble_eq_true rfl) fun s₉ t₉ sm₉ F₉ N₉ => ?_))))
    have N₁₀ : News g L' s₉.heap ((dx, dictOf (entD w t (.ref ua₀) (.ref rl₀) dl .none) n) :: (rl₀, lo rv n₇) :: (ua₀, lo av n₅) :: (x, instObj 59 dx) :: news) := N₉
    refine wpAny_execs_cons (wpAny_Return_some (ld F₉ rfl ?_))
    refine ⟨_, _, ((((Same.rfl'.nx sm₂).nx sm₃).nx sm₅).nx sm₇).nx sm₉, F₉, N₁₀, ⟨x, dx, ua₀, rl₀, av, rv, ag, ru, dl, t, n, n₅, n₇⟩, rfl, ⟨fun p hp => .tail _ (.tail _ (.tail _ (.tail _ hp))), fun p hp => ?_⟩, ?_, fun p hp => ⟨Nat.lt_trans (l1 p hp) l2, l1 p hp, Nat.lt_trans (l1 p hp) (Nat.lt_trans l2 l3), Nat.lt_trans (l1 p hp) (Nat.lt_trans l2 (Nat.lt_trans l3 l4))⟩, rfl, rfl, rfl⟩
    · simp only [List.mem_cons] at hp
      rcases hp with rfl | rfl | rfl | rfl | hp
      · exact .inr fun q hq => l1 q hq
      · exact .inr fun q hq => Nat.lt_trans (l1 q hq) (Nat.lt_trans l2 (Nat.lt_trans l3 l4))
      · exact .inr fun q hq => Nat.lt_trans (l1 q hq) (Nat.lt_trans l2 l3)
      · exact .inr fun q hq => Nat.lt_trans (l1 q hq) l2
      · exact .inl hp
    · exact ⟨.tail _ (.tail _ (.tail _ (.head _))), .head _, .tail _ (.tail _ (.head _)), .tail _ (.head _), h3, h4, h5, z1, z2⟩
  · rintro v s' news' sm F' N' ⟨r, rfl, g, hr, lx, hm⟩
    exact h r news' s' sm F' N' g hr lx hm
end
end Mine
end

-- CallC
section
open PySem PySem.W PyProof.Rows PySem.Calls
set_option maxRecDepth 100000
set_option maxHeartbeats 1000000
namespace Mine
section
variable {d u : Nat} {w : World} {A : Around} {E : Value → Shared → Prop} {s : Shared} {L : Addr} {h₀ : Heap} {m : Str → Option Value} {news I : List (Addr × Obj)} {Q : Value → Shared → Prop}
  {name qual : Str} {params : Arguments} {body : List Stmt} {scope : Scope} {dV kV doc pm cdv ct oc : Value} {an od : Option Addr} {osl : Array (Option Value)} {f : Addr} {args : List Value} {binds : List (Str × Value)}

theorem cells_up {cm : Str → Option Value} : ∀ {cs : List (Str × Addr)} {cells : List (Addr × Obj)}, CellsAre cm cs cells → ∀ {l : Addr}, (∀ p ∈ cs, l < p.2) → ∀ p ∈ cells, l < p.1
  | _, _, .nil, _, _, _, hp => nomatch hp
  | _, _, .cons _ r, _, h, p, hp => by
    rcases List.mem_cons.mp hp with rfl | hp
    · exact h _ (.head _)
    · exact cells_up r (fun q hq => h q (.tail _ hq)) p hp
theorem cellsFrom_up : ∀ (names : List (Str × NameKind)) (n l : Nat) (acc : List (Str × Addr)), l < n → (∀ p ∈ acc, @LT.lt Nat _ l p.2) → ∀ p ∈ cellsFrom n names acc, @LT.lt Nat _ l p.2
  | [], _, _, _, _, h => h
  | (x, k) :: r, n, l, acc, hn, h => by
    unfold cellsFrom
    split
    · exact cellsFrom_up r (n + 1) l _ (Nat.lt_succ_of_lt hn) fun p hp => by
        rcases List.mem_cons.mp hp with rfl | hp
        · exact hn
        · exact h p hp
    · exact cellsFrom_up r n l acc hn h

theorem call_defC (C : Cx d u w A L h₀) (F : Fr h₀ L s.heap m) (N : News h₀ L s.heap news)
    (ho : (KK w).lookup f = some ⟨oc, od, .func (fnOf name qual params body scope dV kV doc pm an cdv ct), osl⟩)
    (hcd : codeIn (KK w) cdv qual = true) (hd : d < 900)
    (hbind : bindArgs (fnOf name qual params body scope dV kV doc pm an cdv ct) ⟨args, []⟩ = pure binds)
    (Post : Value → List (Addr × Obj) → Prop)
    (hb : ∀ g L' A' s₁ cells, Cx (d + 1) (u + 3) w A' L' g → Fr g L' s₁.heap (bindL (envOfC qual scope L' f cdv).kindOf binds fun _ => none) → News g L' s₁.heap (cells ++ news) →
      CellsAre (bindC (envOfC qual scope L' f cdv).kindOf binds fun _ => none) (cellsFrom (L' + 1) scope.names []) cells → Same s s₁ → (∀ p ∈ news, p.1 < L') → (∀ p ∈ cells, L' < p.1) →
      wpAny (model PG w) A' (execs body (envOfC qual scope L' f cdv)) (Ends g L' s₁ Post) (fun _ _ => False) s₁)
    (h : ∀ v s' news', Same s s' → Fr h₀ L s'.heap m → News h₀ L s'.heap news' → Post v news' → Q v s')
    (hkind : (binds.all fun y => scope.names.lookup y.1 == some .local || scope.names.lookup y.1 == some .cell) = true)
    (hnd : ((cellsFrom 0 scope.names []).map (·.1)).Nodup)
    (hco : scope.isCoroutine = false := by rfl) (hgen : scope.isGenerator = false := by rfl) (hk : scope.kind = .function := by rfl) :
    wpAny (model PG w) A (call (.ref f) args) Q E s := by
  obtain ⟨⟨A₀, base, outer, env, mean, mg, mb, B, T, hA, hf, hke⟩, X, hdep, hun, hh⟩ := C
  refine wpAny_call (callX_cells B F N T.nolimit hA hf hke ((X.keeps F.keep) _ _ ho) rfl (codeRec_of (X.keeps F.keep) hcd) (Nat.lt_of_le_of_lt hdep (Nat.lt_trans hd (by decide))) (BindsTo.of_eq hbind) (kindsX hkind) hnd
    (fun g L' h₁ tk cells FG F' N' Y B' st l => ?_) hco hgen hk)
  refine wpAny_mono (hb g L' _ _ cells ⟨⟨A, base, env :: outer, envOfC qual scope L' f cdv, mean, mg, mb, B', T.keeps st, ?_, rfl, hk⟩, X.keeps st, ?_, ?_, hh⟩ F' N' Y ⟨rfl, rfl⟩ l
    (cells_up Y (cellsFrom_up _ _ _ _ (Nat.lt_succ_self _) (fun _ h => nomatch h)))) ?_ (fun _ _ x => x.elim)
  · show A.frames.map _ = _; rw [hA]; rfl
  · exact Nat.succ_le_succ hdep
  · exact Nat.add_le_add_right hun 3
  · rintro fl s' ⟨m', news', sm, F'', N'', hP⟩
    refine ⟨L', m', news', F'', N'', fun F₃ N₃ => ?_⟩
    have := h (retOf fl) s' news' ⟨sm.gens, sm.os⟩ F₃ N₃ hP
    cases fl <;> exact this

/-- a stored cell -/
noncomputable def IsC (v : Option Value) (o : Obj) : Prop := o.data = .cell v
/-- a cell of the frame is stored; it stands first in the ledger -/
theorem stC {hp : Heap} {name : Str} {scope : Scope} {a c : Addr} {cd : Value} {o : Obj} {x : Str} {v₀ : Option Value} {v : Value} {Q : Unit → Shared → Prop} (F : Fr h₀ L hp m) (N : News h₀ L hp ((c, o) :: I)) (hI : Off c I) (ho : IsC v₀ o)
    (h : ∀ o' s', Same s s' → Fr h₀ L s'.heap m → News h₀ L s'.heap ((c, o') :: I) → IsC (some v) o' → Q () s')
    (hk : scope.kind = .function := by rfl) (hx : (envOfC name scope L a cd).kindOf x = some .cell := by rfl) (hc : (envOfC name scope L a cd).cells.lookup x = some c := by rfl) (he : s.heap = hp := by rfl) :
    wpAny (model PG w) A (storeName (envOfC name scope L a cd) x v) Q E s := by
  subst he
  have hm := N (c, o) (.head _)
  refine wpAny_storeName_cell hk hx hc ⟨o, hm.1, ho⟩ fun h' hv hs => ?_
  obtain ⟨o', ho', hd'⟩ := hv
  refine h o' _ ⟨rfl, rfl⟩ ⟨F.ns.sameBut hs (Ne.symm hm.2.1), fun b ob e => (hs.2 b (fun q => ?_)).trans (F.keep b ob e), F.above⟩ (fun p hp => ?_) hd'
  · rw [q, hm.2.2] at e; cases e
  · rcases List.mem_cons.mp hp with rfl | hp
    · exact ⟨ho', hm.2⟩
    · exact ⟨(hs.2 _ (hI p hp)).trans (N p (.tail _ hp)).1, (N p (.tail _ hp)).2⟩
theorem ldC {hp : Heap} {name : Str} {scope : Scope} {a c : Addr} {cd : Value} {o : Obj} {x : Str} {pos : Pos} {v : Value} (N : News h₀ L hp news) (hm : (c, o) ∈ news) (ho : IsC (some v) o) (h : Q v s)
    (hk : scope.kind = .function := by rfl) (hx : (envOfC name scope L a cd).kindOf x = some .cell := by rfl) (hc : (envOfC name scope L a cd).cells.lookup x = some c := by rfl) (hb : (x == ("__debug__" : Str)) = false := by decide) (he : s.heap = hp := by rfl) :
    wpAny (model PG w) A (eval (.Name x pos) (envOfC name scope L a cd)) Q E s := by
  subst he; exact wpAny_Name (wpAny_loadName_cell hk hx hc ⟨o, N.get hm, ho⟩ h) hb
/-- a local of a frame that has cells -/
theorem ldL {hp : Heap} {name : Str} {scope : Scope} {a : Addr} {cd : Value} {x : Str} {pos : Pos} {v : Value} (F : Fr h₀ L hp m) (hv : m x = some v) (h : Q v s)
    (hk : scope.kind = .function := by rfl) (hx : (envOfC name scope L a cd).kindOf x = some .local := by rfl) (hb : (x == ("__debug__" : Str)) = false := by decide) (he : s.heap = hp := by rfl) :
    wpAny (model PG w) A (eval (.Name x pos) (envOfC name scope L a cd)) Q E s := by
  subst he; exact ldLoc F hv h hk hx hb
theorem stL {hp : Heap} {name : Str} {scope : Scope} {a : Addr} {cd : Value} {x : Str} {v : Value} {Q : Unit → Shared → Prop} (F : Fr h₀ L hp m) (N : News h₀ L hp news)
    (h : ∀ s', Same s s' → Fr h₀ L s'.heap (fun y => if y = x then some v else m y) → News h₀ L s'.heap news → Q () s')
    (hk : scope.kind = .function := by rfl) (hl : (envOfC name scope L a cd).kindOf x = some .local := by rfl) (he : s.heap = hp := by rfl) :
    wpAny (model PG w) A (storeName (envOfC name scope L a cd) x v) Q E s := by
  subst he
  exact wpAny_storeName_local hl F.ns (fun h' hn hs => h _ ⟨rfl, rfl⟩ (F.set hn hs) (N.set hs)) (by show (scope.kind == .class || (scope.kind == .module && L != mainGlobals)) = false; rw [hk]; rfl)

/-- names in a comprehension's frame -/
theorem qloc {hp : Heap} {scope : Scope} {cl : List (Str × Addr)} {D : Addr} {env : Env} {x : Str} {pos : Pos} {v : Value} {m₂ : Str → Option Value} (hn : hp.Ns D m₂) (hv : m₂ x = some v) (h : Q v s)
    (hk : (compEnvC scope cl D env).scope.kind = .function := by rfl) (hl : (compEnvC scope cl D env).kindOf x = some .local := by rfl) (hd : (x == ("__debug__" : Str)) = false := by decide) (he : s.heap = hp := by rfl) :
    wpAny (model PG w) A (eval (.Name x pos) (compEnvC scope cl D env)) Q E s := by subst he; exact ldVarK (C := D) hn hv h hk hl hd
theorem qcell {hp : Heap} {scope : Scope} {cl : List (Str × Addr)} {D c : Addr} {env : Env} {x : Str} {pos : Pos} {v : Value} {o : Obj} (ho : hp.get? c = some o) (hc : cl.lookup x = some c) (hv : IsC (some v) o) (h : Q v s)
    (hk : (compEnvC scope cl D env).scope.kind = .function := by rfl) (hx : (compEnvC scope cl D env).kindOf x = some .cell := by rfl) (hb : (x == ("__debug__" : Str)) = false := by decide) (he : s.heap = hp := by rfl) :
    wpAny (model PG w) A (eval (.Name x pos) (compEnvC scope cl D env)) Q E s := by subst he; exact wpAny_Name (wpAny_loadName_cell hk hx hc ⟨o, ho, hv⟩ h) hb

variable {env : Env}
theorem callNh {hp : Heap} (C : Cx d u w A L h₀) (F : Fr h₀ L hp m) {x : Str} {p pos : Pos} {f : Addr} {e : PySem.Expr} {rest : List PySem.Expr} (hx : nsIn (KK w) mainGlobals x = some (some (.ref f))) (hk : keepIn (KK w) (.ref f) = true)
    (h : wpAny (model PG w) A (spliced (backTo pos (starEach (e :: rest) env))) (fun vs s₁ => (KK w).In s₁.heap ∧ wpAny (model PG w) A (call (.ref f) vs) Q E s₁) E s)
    (hkf : env.scope.kind = .function := by rfl) (hxg : env.kindOf x = some .globalImplicit := by rfl) (hg : env.globals = mainGlobals := by rfl) (hd : (x == ("__debug__" : Str)) = false := by decide)
    (he : starEach (e :: rest) env = (false, eval e env) :: starEach rest env := by rfl) (hplain : (backTo pos (starEach rest env)).any (·.1) = false := by rfl)
    (hev : eval (.Call (.Name x p) (e :: rest) [] pos) env = (do callWith pos (← eval (.Name x p) env) [] (backTo pos (starEach (e :: rest) env)) (backToKw pos (keywordEach [] env))) := by rfl) (hhe : s.heap = hp := by rfl) :
    wpAny (model PG w) A (eval (.Call (.Name x p) (e :: rest) [] pos) env) Q E s := by
  subst hhe; exact callN C F hx hk h hkf hxg hg hd he hplain hev

theorem callN0h {hp : Heap} (C : Cx d u w A L h₀) (F : Fr h₀ L hp m) {x : Str} {p pos : Pos} {f : Addr} (hx : nsIn (KK w) mainGlobals x = some (some (.ref f))) (hk : keepIn (KK w) (.ref f) = true)
    (h : wpAny (model PG w) A (call (.ref f) []) Q E s)
    (hkf : env.scope.kind = .function := by rfl) (hxg : env.kindOf x = some .globalImplicit := by rfl) (hg : env.globals = mainGlobals := by rfl) (hd : (x == ("__debug__" : Str)) = false := by decide)
    (hev : eval (.Call (.Name x p) [] [] pos) env = (do callWith pos (← eval (.Name x p) env) [] (backTo pos (starEach [] env)) (backToKw pos (keywordEach [] env))) := by rfl) (hhe : s.heap = hp := by rfl) :
    wpAny (model PG w) A (eval (.Call (.Name x p) [] [] pos) env) Q E s := by
  subst hhe; exact callN0 C F hx hk h hkf hxg hg hd hev

theorem callBh {hp : Heap} (C : Cx d u w A L h₀) (F : Fr h₀ L hp m) {x : Str} {p pos : Pos} {id : String} {e : PySem.Expr} {rest : List PySem.Expr} (hx : nsIn (KK w) mainGlobals x = some none) (hv : bootBuiltins x = some (.builtin id))
    (h : wpAny (model PG w) A (spliced (backTo pos (starEach (e :: rest) env))) (fun vs s₁ => wpAny (model PG w) A (call (.builtin id) vs) Q E s₁) E s)
    (hn : x ≠ "__name__" := by decide) (hkf : env.scope.kind = .function := by rfl) (hxg : env.kindOf x = some .globalImplicit := by rfl) (hg : env.globals = mainGlobals := by rfl) (hb : env.builtins = builtinsNs := by rfl) (hd : (x == ("__debug__" : Str)) = false := by decide)
    (he : starEach (e :: rest) env = (false, eval e env) :: starEach rest env := by rfl) (hplain : (backTo pos (starEach rest env)).any (·.1) = false := by rfl)
    (hev : eval (.Call (.Name x p) (e :: rest) [] pos) env = (do callWith pos (← eval (.Name x p) env) [] (backTo pos (starEach (e :: rest) env)) (backToKw pos (keywordEach [] env))) := by rfl) (hhe : s.heap = hp := by rfl) :
    wpAny (model PG w) A (eval (.Call (.Name x p) (e :: rest) [] pos) env) Q E s := by
  subst hhe; exact callB C F hx hv h hn hkf hxg hg hb hd he hplain hev

theorem callTh {hp : Heap} (C : Cx d u w A L h₀) (F : Fr h₀ L hp m) {x : Str} {p pos : Pos} {id : String} {e : PySem.Expr} {rest : List PySem.Expr} (hx : nsIn (KK w) mainGlobals x = some none) (hv : bootBuiltins x = some (.type id))
    (h : wpAny (model PG w) A (spliced (backTo pos (starEach (e :: rest) env))) (fun vs s₁ => wpAny (model PG w) A (call (.type id) vs) Q E s₁) E s)
    (hn : x ≠ "__name__" := by decide) (hkf : env.scope.kind = .function := by rfl) (hxg : env.kindOf x = some .globalImplicit := by rfl) (hg : env.globals = mainGlobals := by rfl) (hb : env.builtins = builtinsNs := by rfl) (hd : (x == ("__debug__" : Str)) = false := by decide)
    (he : starEach (e :: rest) env = (false, eval e env) :: starEach rest env := by rfl) (hplain : (backTo pos (starEach rest env)).any (·.1) = false := by rfl)
    (hev : eval (.Call (.Name x p) (e :: rest) [] pos) env = (do callWith pos (← eval (.Name x p) env) [] (backTo pos (starEach (e :: rest) env)) (backToKw pos (keywordEach [] env))) := by rfl) (hhe : s.heap = hp := by rfl) :
    wpAny (model PG w) A (eval (.Call (.Name x p) (e :: rest) [] pos) env) Q E s := by
  subst hhe; exact callT C F hx hv h hn hkf hxg hg hb hd he hplain hev
end
end Mine
end

-- CompQ
section
open PySem PySem.W PyProof.Rows PySem.Calls
set_option maxRecDepth 100000
set_option maxHeartbeats 1000000
namespace Mine
open LCg

theorem Off.lt {D : Addr} {I : List (Addr × Obj)} (h : ∀ p ∈ I, p.1 < D) : Off D I := fun p hp => Nat.ne_of_lt (h p hp)
theorem Off.cons {D x : Addr} {o : Obj} {I : List (Addr × Obj)} (h : x ≠ D) (r : Off D I) : Off D ((x, o) :: I) := fun p hp => by
  rcases List.mem_cons.mp hp with rfl | hp
  · exact h
  · exact r p hp
/-- a ledger grows: nothing is lost, the new lies off the old -/
structure Gw (news news' : List (Addr × Obj)) : Prop where
  sub : ∀ p ∈ news, p ∈ news'
  up : ∀ p ∈ news', p ∈ news ∨ Off p.1 news
theorem Gw.rfl' {news : List (Addr × Obj)} : Gw news news := ⟨fun _ h => h, fun _ h => .inl h⟩
theorem Gw.trans {a b c : List (Addr × Obj)} (x : Gw a b) (y : Gw b c) : Gw a c :=
  ⟨fun p h => y.sub p (x.sub p h), fun p h => (y.up p h).elim (fun h => x.up p h) fun h => .inr fun q hq => h q (x.sub q hq)⟩
theorem Gw.cons {a b : List (Addr × Obj)} {x : Addr} {o : Obj} (g : Gw a b) (h : Off x b) : Gw a ((x, o) :: b) :=
  g.trans ⟨fun _ h => .tail _ h, fun p hp => (List.mem_cons.mp hp).elim (fun e => .inr (e ▸ h)) .inl⟩
theorem Gw.of {a b : List (Addr × Obj)} (g : Grow a b) : Gw a b := ⟨g.sub, fun p hp => (g.up p hp).imp id fun h => Off.lt h⟩
theorem Off.gw {D : Addr} {a b : List (Addr × Obj)} (g : Gw a b) (h : Off D b) : Off D a := fun p hp => h p (g.sub p hp)

theorem paired_map {K : Type} {keyOf : Value → K} {G : K → Value → Prop} : ∀ {l ys : List Value}, Paired (fun v y => G (keyOf v) y) l ys → Paired G (l.map keyOf) ys
  | _, _, .nil => .nil
  | _, _, .cons h r => .cons h (paired_map r)


/-- what a list comprehension asks of the iterator it has made: mm: the frame behind it, R: what is to hold of the new list -/
inductive CQ {K : Type} (w : World) (A : Around) (L : Addr) (h₀ : Heap) (env : Env) (keyOf : Value → K) (elt : PySem.Expr) (ifs : List PySem.Expr) (x : Str) (scope : Scope) (cl : List (Str × Addr)) (p : K → Bool) (G : K → Value → Prop)
    (mm : Addr → (Str → Option Value) → Str → Option Value) (R : Addr → Shared → Prop) (it : Value) (s₂ : Shared) : Prop
  | mk (I : Addr) (fp : List Addr) (n : Nat) (P : Nat → Value → Prop) (St : Nat → Heap → Prop) (m : Str → Option Value) (news : List (Addr × Obj)) (hit : it = .ref I) (W : Walks PG w A I fp [I] n P St) (hn : n ≤ 10000) (hst : St 0 s₂.heap)
      (hfp : ∀ b ∈ fp, b < s₂.heap.objs.size) (F : Fr h₀ L s₂.heap m) (N : News h₀ L s₂.heap news) (off : Off I news) (hLI : L ≠ I) (hI₀ : h₀.get? I = none)
      (ht : ∀ C s₃ m₂ E' i v, s₃.heap.Ns C m₂ → m₂ x = some v → P i v → (∀ q ∈ news, s₃.heap.get? q.1 = some q.2) → (∀ b o, h₀.get? b = some o → s₃.heap.get? b = some o) →
        wpAny (model PG w) A (forIn ifs true fun c r => if r = true then do let ok ← isTrue c (compEnvC scope cl C env) (eval c (compEnvC scope cl C env)); pure (ForInStep.yield ok) else pure (ForInStep.yield r))
          (fun ok s₄ => ok = p (keyOf v) ∧ Keeps s₃ s₄) E' s₃)
      (he : ∀ C s₃ m₂ E' i v, s₃.heap.Ns C m₂ → m₂ x = some v → P i v → p (keyOf v) = true → (∀ q ∈ news, s₃.heap.get? q.1 = some q.2) → (∀ b o, h₀.get? b = some o → s₃.heap.get? b = some o) →
        wpAny (model PG w) A (eval elt (compEnvC scope cl C env)) (fun y s₄ => G (keyOf v) y ∧ Keeps s₃ s₄) E' s₃)
      (ks : List K) (hkl : ks.length = n) (hks : ∀ i v, P i v → ks[i]? = some (keyOf v))
      (hQ : ∀ D ys k s₄, Same s₂ s₄ → Fr h₀ L s₄.heap (mm D m) → News h₀ L s₄.heap ((D, lo ys k) :: news) → Off D news → Paired G (ks.filter p) ys → R D s₄)

theorem keys_eq {K : Type} {keyOf : Value → K} {G : K → Value → Prop} {p : K → Bool} {n : Nat} {P : Nat → Value → Prop} {ks : List K} {vs ys : List Value} (hkl : ks.length = n) (hvl : vs.length = n) (hvs : ∀ i v, vs[i]? = some v → P i v)
    (hks : ∀ i v, P i v → ks[i]? = some (keyOf v)) (hpr : Paired (fun v y => G (keyOf v) y) (vs.filter (p ∘ keyOf)) ys) : Paired G (ks.filter p) ys := by
  have e : vs.map keyOf = ks := List.ext_getElem? fun i => by
    rw [List.getElem?_map]
    cases hv : vs[i]? with
    | none => rw [List.getElem?_eq_none (hkl ▸ hvl ▸ List.getElem?_eq_none_iff.mp hv)]; rfl
    | some v => rw [hks i v (hvs i v hv)]; rfl
  rw [← e, List.filter_map]
  exact paired_map hpr

theorem paired_all {K : Type} {G : K → Value → Prop} {l : List K} {ys : List Value} (h : Paired G (l.filter fun _ => true) ys) : Paired G l ys := by
  rwa [List.filter_eq_self.mpr fun _ _ => rfl] at h

section
variable {w : World} {A : Around} {E : Value → Shared → Prop} {s : Shared} {L : Addr} {h₀ : Heap} {m : Str → Option Value} {news : List (Addr × Obj)} {env : Env}

theorem one_off {I : Addr} {h h' : Heap} {b : Addr} (hb : b ≠ I) {o : Obj} (k : ∀ b o, b ∉ [I] → h.get? b = some o → h'.get? b = some o) (e : h.get? b = some o) : h'.get? b = some o :=
  k b o (fun q => hb (List.mem_singleton.mp q)) e
theorem keep_news {h h' : Heap} {I : Addr} (N : News h₀ L h news) (off : Off I news) (k : ∀ b o, b ∉ [I] → h.get? b = some o → h'.get? b = some o) : ∀ q ∈ news, h'.get? q.1 = some q.2 := fun q hq => one_off (off q hq) k (N q hq).1
theorem keep_base {h h' : Heap} {I : Addr} (F : Fr h₀ L h m) (hI₀ : h₀.get? I = none) (k : ∀ b o, b ∉ [I] → h.get? b = some o → h'.get? b = some o) : ∀ b o, h₀.get? b = some o → h'.get? b = some o :=
  fun b o e => one_off (fun q => nomatch (q ▸ hI₀).symm.trans e) k (F.keep b o e)
theorem new_off {h : Heap} {D b : Addr} {o : Obj} (hD : h.get? D = none) (e : h.get? b = some o) : b ≠ D := fun q => nomatch (q ▸ hD).symm.trans e
theorem new_base {h : Heap} {D : Addr} (F : Fr h₀ L h m) (hD : h.get? D = none) : h₀.get? D = none := by
  cases e : h₀.get? D with
  | none => rfl
  | some o => exact absurd rfl (new_off hD (F.keep D o e))
theorem new_L {h : Heap} {D : Addr} (F : Fr h₀ L h m) (hD : h.get? D = none) : L ≠ D := by obtain ⟨o, _, _, e, _⟩ := F.ns; exact new_off hD e

theorem compQ {K : Type} {keyOf : Value → K} {elt iter : PySem.Expr} {x : Str} {px : Pos} {ifs : List PySem.Expr} {scope : Scope} {cl : List (Str × Addr)} {pos : Pos} {Q : Value → Shared → Prop} {p : K → Bool} {G : K → Value → Prop}
    (hclos : closureFor scope env = pure cl) (hcell : ∀ y ∈ scope.names, y.2 ≠ .cell) (hkind : scope.kind = .function)
    (hnames : ∀ y ∈ scope.names, y.2 = .local → scope.names.lookup y.1 = some .local) (hx : scope.names.lookup x = some .local)
    (h : wpAny (model PG w) A (eval iter env) (fun xv s₁ => wpAny (model PG w) A (pyIter xv) (CQ w A L h₀ env keyOf elt ifs x scope cl p G (fun _ m => m) fun D => Q (.ref D)) E s₁) E s)
    (hs : ∀ x, foldedSetIterable iter env x = pure x) :
    wpAny (model PG w) A (eval (.ListComp elt [⟨.Name x px, iter, ifs, 0⟩] scope pos) env) Q E s := by
  refine wpAny_ListComp_free (p ∘ keyOf) (fun v y => G (keyOf v) y) hclos hcell hkind hnames hx (wpAny_mono h (fun xv s₁ h₁ => wpAny_mono h₁ (fun it s₂ h₂ => ?_) fun _ _ e => e) fun _ _ e => e) hs
  obtain ⟨I, fp, n, P, St, m, news, hit, W, hn, hst, hfp, F, N, off, hLI, hI₀, ht, he, ks, hkl, hks, hQ⟩ := h₂
  refine ⟨I, fp, [I], n, P, St, hit, W, (by rw [sizeLine_eq]; omega), hst, hfp, ⟨fun C i v s₃ m₃ E' _ hP hns hx₃ hk _ => ht C s₃ m₃ E' i v hns hx₃ hP (keep_news N off hk) (keep_base F hI₀ hk),
    fun C i v s₃ m₃ E' _ hP hp hns hx₃ hk _ => he C s₃ m₃ E' i v hns hx₃ hP hp (keep_news N off hk) (keep_base F hI₀ hk)⟩, fun D h' tk ys vs hD hl hpl hvl hvs hpr hk => ?_⟩
  obtain ⟨k, hDo⟩ := hpl
  exact hQ D ys.toList k _ ⟨rfl, rfl⟩ (fr_but F hk hLI hI₀) (fun q hq => (List.mem_cons.mp hq).elim (fun e => e ▸ ⟨hDo, Ne.symm (new_L F hD), new_base F hD⟩) fun hq => news_but N hk off q hq) (fun q hq => new_off hD (N q hq).1) (keys_eq hkl hvl hvs hks hpr)

theorem compQA {K : Type} {keyOf : Value → K} {elt iter : PySem.Expr} {x yy : Str} {px pyy : Pos} {ifs : List PySem.Expr} {scope : Scope} {cl : List (Str × Addr)} {pos spos : Pos} {Q : Flow → Shared → Prop} {p : K → Bool} {G : K → Value → Prop}
    (hL : env.locals = L) (hsw : swapsWith (.ListComp elt [⟨.Name x px, iter, ifs, 0⟩] scope pos) (some (.Name yy pyy)) spos.line env = pure true) (hyy : env.kindOf yy = some .local) (hpp : (env.scope.kind == .class || (env.scope.kind == .module && env.locals != env.globals)) = false)
    (hclos : closureFor scope env = pure cl) (hcell : ∀ y ∈ scope.names, y.2 ≠ .cell) (hkind : scope.kind = .function)
    (hnames : ∀ y ∈ scope.names, y.2 = .local → scope.names.lookup y.1 = some .local) (hx : scope.names.lookup x = some .local)
    (h : wpAny (model PG w) A (eval iter env) (fun xv s₁ => wpAny (model PG w) A (pyIter xv) (CQ w A L h₀ env keyOf elt ifs x scope cl p G (fun D m z => if z = yy then some (.ref D) else m z) fun _ => Q .next) E s₁) E s)
    (hs : ∀ x, foldedSetIterable iter env x = pure x) :
    wpAny (model PG w) A (exec (.Assign [.Name yy pyy] (.ListComp elt [⟨.Name x px, iter, ifs, 0⟩] scope pos) spos) env) Q E s := by
  cases hL
  refine wpAny_Assign_ListComp_free (p ∘ keyOf) (fun v y => G (keyOf v) y) hsw hclos hcell hkind hnames hx hyy hpp (wpAny_mono h (fun xv s₁ h₁ => wpAny_mono h₁ (fun it s₂ h₂ => ?_) fun _ _ e => e) fun _ _ e => e) hs
  obtain ⟨I, fp, n, P, St, m, news, hit, W, hn, hst, hfp, F, N, off, hLI, hI₀, ht, he, ks, hkl, hks, hQ⟩ := h₂
  refine ⟨I, fp, [I], n, P, St, m, hit, W, (by rw [sizeLine_eq]; omega), hst, hfp, (fun q => hLI (List.mem_singleton.mp q)), F.ns, ⟨fun C i v s₃ m₃ E' _ hP hns hx₃ hk _ => ht C s₃ m₃ E' i v hns hx₃ hP (keep_news N off hk) (keep_base F hI₀ hk),
    fun C i v s₃ m₃ E' _ hP hp hns hx₃ hk _ => he C s₃ m₃ E' i v hns hx₃ hP hp (keep_news N off hk) (keep_base F hI₀ hk)⟩, fun D h' tk ys vs hD hl hpl hvl hvs hpr hns hk => ?_⟩
  obtain ⟨k, hDo⟩ := hpl
  have hLn : h₀.get? env.locals = none := Heap.get?_none_of_le F.above
  exact hQ D ys.toList k _ ⟨rfl, rfl⟩ ⟨hns, fun b o e => hk b o (fun q => nomatch (q ▸ hLn).symm.trans e) (fun q => nomatch (List.mem_singleton.mp q ▸ hI₀).symm.trans e) (F.keep b o e), F.above⟩
    (fun q hq => (List.mem_cons.mp hq).elim (fun e => e ▸ ⟨hDo, Ne.symm (new_L F hD), new_base F hD⟩) fun hq => ⟨hk _ _ (N q hq).2.1 (fun z => off q hq (List.mem_singleton.mp z)) (N q hq).1, (N q hq).2⟩) (fun q hq => new_off hD (N q hq).1) (keys_eq hkl hvl hvs hks hpr)

noncomputable def intOf : Value → Int
  | .int k _ => k
  | _ => 0
noncomputable def strOf : Value → Str
  | .str x _ => x
  | _ => Str.ofString ""

/-- over a range: what is asked, ifs as they stand -/
inductive RQ (w : World) (A : Around) (L : Addr) (h₀ : Heap) (env : Env) (elt : PySem.Expr) (ifs : List PySem.Expr) (x : Str) (scope : Scope) (cl : List (Str × Addr)) (p : Int → Bool) (G : Int → Value → Prop)
    (mm : Addr → (Str → Option Value) → Str → Option Value) (R : Addr → Shared → Prop) (xv : Value) (s₁ : Shared) : Prop
  | mk (r : Addr) (a b c : Int) (t u v : _) (n : Nat) (m : Str → Option Value) (news : List (Addr × Obj)) (hxv : xv = .ref r) (F : Fr h₀ L s₁.heap m) (N : News h₀ L s₁.heap news) (hr : (r, rgObj a b c t u v) ∈ news) (hsm : Builtin.Range.small a b c = true)
      (hn : Builtin.Range.rangeSize a b c = ((n : Nat) : Int)) (hz : n ≤ 10000)
      (ht : ∀ C s₃ m₂ E' i t, s₃.heap.Ns C m₂ → m₂ x = some (.int (a + (i : Nat) * c) t) → i < n → (∀ q ∈ news, s₃.heap.get? q.1 = some q.2) → (∀ b o, h₀.get? b = some o → s₃.heap.get? b = some o) →
        wpAny (model PG w) A (forIn ifs true fun c r => if r = true then do let ok ← isTrue c (compEnvC scope cl C env) (eval c (compEnvC scope cl C env)); pure (ForInStep.yield ok) else pure (ForInStep.yield r))
          (fun ok s₄ => ok = p (a + (i : Nat) * c) ∧ Keeps s₃ s₄) E' s₃)
      (he : ∀ C s₃ m₂ E' i t, s₃.heap.Ns C m₂ → m₂ x = some (.int (a + (i : Nat) * c) t) → i < n → p (a + (i : Nat) * c) = true → (∀ q ∈ news, s₃.heap.get? q.1 = some q.2) → (∀ b o, h₀.get? b = some o → s₃.heap.get? b = some o) →
        wpAny (model PG w) A (eval elt (compEnvC scope cl C env)) (fun y s₄ => G (a + (i : Nat) * c) y ∧ Keeps s₃ s₄) E' s₃)
      (hQ : ∀ D ys k s₄, Same s₁ s₄ → Fr h₀ L s₄.heap (mm D m) → News h₀ L s₄.heap ((D, lo ys k) :: news) → Off D news → Paired G (((List.range n).map fun j => a + (j : Nat) * c).filter p) ys → R D s₄)
/-- over a range, one test -/
inductive RQ1 (w : World) (A : Around) (L : Addr) (h₀ : Heap) (env : Env) (elt ct : PySem.Expr) (x : Str) (scope : Scope) (cl : List (Str × Addr)) (p : Int → Bool) (G : Int → Value → Prop)
    (mm : Addr → (Str → Option Value) → Str → Option Value) (R : Addr → Shared → Prop) (xv : Value) (s₁ : Shared) : Prop
  | mk (r : Addr) (a b c : Int) (t u v : _) (n : Nat) (m : Str → Option Value) (news : List (Addr × Obj)) (hxv : xv = .ref r) (F : Fr h₀ L s₁.heap m) (N : News h₀ L s₁.heap news) (hr : (r, rgObj a b c t u v) ∈ news) (hsm : Builtin.Range.small a b c = true)
      (hn : Builtin.Range.rangeSize a b c = ((n : Nat) : Int)) (hz : n ≤ 10000)
      (ht : ∀ C s₃ m₂ E' i t, s₃.heap.Ns C m₂ → m₂ x = some (.int (a + (i : Nat) * c) t) → i < n → (∀ q ∈ news, s₃.heap.get? q.1 = some q.2) → (∀ b o, h₀.get? b = some o → s₃.heap.get? b = some o) →
        wpAny (model PG w) A (isTrue ct (compEnvC scope cl C env) (eval ct (compEnvC scope cl C env))) (fun ok s₄ => ok = p (a + (i : Nat) * c) ∧ Keeps s₃ s₄) E' s₃)
      (he : ∀ C s₃ m₂ E' i t, s₃.heap.Ns C m₂ → m₂ x = some (.int (a + (i : Nat) * c) t) → i < n → p (a + (i : Nat) * c) = true → (∀ q ∈ news, s₃.heap.get? q.1 = some q.2) → (∀ b o, h₀.get? b = some o → s₃.heap.get? b = some o) →
        wpAny (model PG w) A (eval elt (compEnvC scope cl C env)) (fun y s₄ => G (a + (i : Nat) * c) y ∧ Keeps s₃ s₄) E' s₃)
      (hQ : ∀ D ys k s₄, Same s₁ s₄ → Fr h₀ L s₄.heap (mm D m) → News h₀ L s₄.heap ((D, lo ys k) :: news) → Off D news → Paired G (((List.range n).map fun j => a + (j : Nat) * c).filter p) ys → R D s₄)
/-- over a range, no test -/
inductive RQ0 (w : World) (A : Around) (L : Addr) (h₀ : Heap) (env : Env) (elt : PySem.Expr) (x : Str) (scope : Scope) (cl : List (Str × Addr)) (G : Int → Value → Prop)
    (mm : Addr → (Str → Option Value) → Str → Option Value) (R : Addr → Shared → Prop) (xv : Value) (s₁ : Shared) : Prop
  | mk (r : Addr) (a b c : Int) (t u v : _) (n : Nat) (m : Str → Option Value) (news : List (Addr × Obj)) (hxv : xv = .ref r) (F : Fr h₀ L s₁.heap m) (N : News h₀ L s₁.heap news) (hr : (r, rgObj a b c t u v) ∈ news) (hsm : Builtin.Range.small a b c = true)
      (hn : Builtin.Range.rangeSize a b c = ((n : Nat) : Int)) (hz : n ≤ 10000)
      (he : ∀ C s₃ m₂ E' i t, s₃.heap.Ns C m₂ → m₂ x = some (.int (a + (i : Nat) * c) t) → i < n → (∀ q ∈ news, s₃.heap.get? q.1 = some q.2) → (∀ b o, h₀.get? b = some o → s₃.heap.get? b = some o) →
        wpAny (model PG w) A (eval elt (compEnvC scope cl C env)) (fun y s₄ => G (a + (i : Nat) * c) y ∧ Keeps s₃ s₄) E' s₃)
      (hQ : ∀ D ys k s₄, Same s₁ s₄ → Fr h₀ L s₄.heap (mm D m) → News h₀ L s₄.heap ((D, lo ys k) :: news) → Off D news → Paired G ((List.range n).map fun j => a + (j : Nat) * c) ys → R D s₄)

variable {elt iter ct : PySem.Expr} {x yy : Str} {px pyy : Pos} {ifs : List PySem.Expr} {scope : Scope} {cl : List (Str × Addr)} {pos spos : Pos} {mm : Addr → (Str → Option Value) → Str → Option Value} {R : Addr → Shared → Prop} {xv : Value} {s₁ : Shared}

theorem rq_cq {p : Int → Bool} {G : Int → Value → Prop} (hh : A.handled = none) (h : RQ w A L h₀ env elt ifs x scope cl p G mm R xv s₁) :
    wpAny (model PG w) A (pyIter xv) (CQ w A L h₀ env intOf elt ifs x scope cl p G mm R) E s₁ := by
  obtain ⟨r, a, b, c, t, u, v, n, m, news, rfl, F, N, hr, hsm, hn, hz, ht, he, hQ⟩ := h
  refine wpAny_pyIter_range (N _ hr).1 hsm ?_
  rw [hn]
  refine .mk _ [_] n (fun i v => i < n ∧ ∃ t, v = .int (a + (i : Nat) * c) t) _ m news rfl (Walks.range hh _ a c n).bound hz (by show IsRangeIter _ _ _ _ _; simpa using Heap.get?_push_size _ rfl) (fun b hb => List.mem_singleton.mp hb ▸ (Heap.size_push s₁.heap _ ▸ Nat.lt_succ_self _)) (F.push _) (fun q hq => (N.push F (riObj a n c) rfl) q (.tail _ hq))
    (Off.lt fun q hq => Heap.lt_size (N q hq).1) (Nat.ne_of_lt F.ns.lt) (next_is_new F) ?_ ?_ ((List.range n).map fun j => a + (j : Nat) * c) (by rw [List.length_map, List.length_range]) ?_ fun D ys k s₄ sm => hQ D ys k s₄ ⟨sm.gens, sm.os⟩
  · rintro C s₃ m₂ E' i v hns hx₂ ⟨hi, t, rfl⟩
    exact ht C s₃ m₂ E' i t hns hx₂ hi
  · rintro C s₃ m₂ E' i v hns hx₂ ⟨hi, t, rfl⟩
    exact he C s₃ m₂ E' i t hns hx₂ hi
  · rintro i v ⟨hi, t, rfl⟩
    rw [List.getElem?_map, List.getElem?_range hi]; rfl
theorem rq1 {p : Int → Bool} {G : Int → Value → Prop} (h : RQ1 w A L h₀ env elt ct x scope cl p G mm R xv s₁) : RQ w A L h₀ env elt [ct] x scope cl p G mm R xv s₁ := by
  obtain ⟨r, a, b, c, t, u, v, n, m, news, e, F, N, hr, hsm, hn, hz, ht, he, hQ⟩ := h
  exact .mk r a b c t u v n m news e F N hr hsm hn hz (fun C s₃ m₂ E' i t a1 a2 a3 a4 a5 => wpAny_tests_one (ht C s₃ m₂ E' i t a1 a2 a3 a4 a5)) he hQ
theorem rq0 {G : Int → Value → Prop} (h : RQ0 w A L h₀ env elt x scope cl G mm R xv s₁) : RQ w A L h₀ env elt [] x scope cl (fun _ => true) G mm R xv s₁ := by
  obtain ⟨r, a, b, c, t, u, v, n, m, news, e, F, N, hr, hsm, hn, hz, he, hQ⟩ := h
  exact .mk r a b c t u v n m news e F N hr hsm hn hz (fun C s₃ m₂ E' i t a1 a2 a3 a4 a5 => wpAny_tests_nil ⟨rfl, s₃.heap, s₃.toks, rfl, fun _ _ e => e⟩) (fun C s₃ m₂ E' i t a1 a2 a3 _ => he C s₃ m₂ E' i t a1 a2 a3)
    fun D ys k s₄ b1 b2 b3 b4 b5 => hQ D ys k s₄ b1 b2 b3 b4 (paired_all b5)

/-- over a range, one test -/
theorem compR1 {Q : Value → Shared → Prop} (p : Int → Bool) (G : Int → Value → Prop) (hh : A.handled = none)
    (hclos : closureFor scope env = pure cl) (hcell : ∀ y ∈ scope.names, y.2 ≠ .cell) (hkind : scope.kind = .function)
    (hnames : ∀ y ∈ scope.names, y.2 = .local → scope.names.lookup y.1 = some .local) (hx : scope.names.lookup x = some .local)
    (h : wpAny (model PG w) A (eval iter env) (RQ1 w A L h₀ env elt ct x scope cl p G (fun _ m => m) fun D => Q (.ref D)) E s)
    (hs : ∀ x, foldedSetIterable iter env x = pure x := by intro _; rfl) :
    wpAny (model PG w) A (eval (.ListComp elt [⟨.Name x px, iter, [ct], 0⟩] scope pos) env) Q E s :=
  compQ hclos hcell hkind hnames hx (wpAny_mono h (fun _ _ h₁ => rq_cq hh (rq1 h₁)) fun _ _ e => e) hs
/-- over a range, no test -/
theorem compR0 {Q : Value → Shared → Prop} (G : Int → Value → Prop) (hh : A.handled = none)
    (hclos : closureFor scope env = pure cl) (hcell : ∀ y ∈ scope.names, y.2 ≠ .cell) (hkind : scope.kind = .function)
    (hnames : ∀ y ∈ scope.names, y.2 = .local → scope.names.lookup y.1 = some .local) (hx : scope.names.lookup x = some .local)
    (h : wpAny (model PG w) A (eval iter env) (RQ0 w A L h₀ env elt x scope cl G (fun _ m => m) fun D => Q (.ref D)) E s)
    (hs : ∀ x, foldedSetIterable iter env x = pure x := by intro _; rfl) :
    wpAny (model PG w) A (eval (.ListComp elt [⟨.Name x px, iter, [], 0⟩] scope pos) env) Q E s :=
  compQ hclos hcell hkind hnames hx (wpAny_mono h (fun _ _ h₁ => rq_cq hh (rq0 h₁)) fun _ _ e => e) hs
theorem compR1A {Q : Flow → Shared → Prop} (p : Int → Bool) (G : Int → Value → Prop) (hh : A.handled = none)
    (hL : env.locals = L) (hsw : swapsWith (.ListComp elt [⟨.Name x px, iter, [ct], 0⟩] scope pos) (some (.Name yy pyy)) spos.line env = pure true) (hyy : env.kindOf yy = some .local) (hpp : (env.scope.kind == .class || (env.scope.kind == .module && env.locals != env.globals)) = false)
    (hclos : closureFor scope env = pure cl) (hcell : ∀ y ∈ scope.names, y.2 ≠ .cell) (hkind : scope.kind = .function)
    (hnames : ∀ y ∈ scope.names, y.2 = .local → scope.names.lookup y.1 = some .local) (hx : scope.names.lookup x = some .local)
    (h : wpAny (model PG w) A (eval iter env) (RQ1 w A L h₀ env elt ct x scope cl p G (fun D m z => if z = yy then some (.ref D) else m z) fun _ => Q .next) E s)
    (hs : ∀ x, foldedSetIterable iter env x = pure x := by intro _; rfl) :
    wpAny (model PG w) A (exec (.Assign [.Name yy pyy] (.ListComp elt [⟨.Name x px, iter, [ct], 0⟩] scope pos) spos) env) Q E s :=
  compQA hL hsw hyy hpp hclos hcell hkind hnames hx (wpAny_mono h (fun _ _ h₁ => rq_cq hh (rq1 h₁)) fun _ _ e => e) hs
theorem compR0A {Q : Flow → Shared → Prop} (G : Int → Value → Prop) (hh : A.handled = none)
    (hL : env.locals = L) (hsw : swapsWith (.ListComp elt [⟨.Name x px, iter, [], 0⟩] scope pos) (some (.Name yy pyy)) spos.line env = pure true) (hyy : env.kindOf yy = some .local) (hpp : (env.scope.kind == .class || (env.scope.kind == .module && env.locals != env.globals)) = false)
    (hclos : closureFor scope env = pure cl) (hcell : ∀ y ∈ scope.names, y.2 ≠ .cell) (hkind : scope.kind = .function)
    (hnames : ∀ y ∈ scope.names, y.2 = .local → scope.names.lookup y.1 = some .local) (hx : scope.names.lookup x = some .local)
    (h : wpAny (model PG w) A (eval iter env) (RQ0 w A L h₀ env elt x scope cl G (fun D m z => if z = yy then some (.ref D) else m z) fun _ => Q .next) E s)
    (hs : ∀ x, foldedSetIterable iter env x = pure x := by intro _; rfl) :
    wpAny (model PG w) A (exec (.Assign [.Name yy pyy] (.ListComp elt [⟨.Name x px, iter, [], 0⟩] scope pos) spos) env) Q E s :=
  compQA hL hsw hyy hpp hclos hcell hkind hnames hx (wpAny_mono h (fun _ _ h₁ => rq_cq hh (rq0 h₁)) fun _ _ e => e) hs

/-- over a list of strs: what is asked, ifs as they stand -/
inductive SQ (w : World) (A : Around) (L : Addr) (h₀ : Heap) (env : Env) (elt : PySem.Expr) (ifs : List PySem.Expr) (x : Str) (scope : Scope) (cl : List (Str × Addr)) (p : Str → Bool) (G : Str → Value → Prop)
    (R : Addr → Shared → Prop) (xv : Value) (s₁ : Shared) : Prop
  | mk (l : Addr) (vs : List Value) (k : Nat) (xs : List Str) (m : Str → Option Value) (news : List (Addr × Obj)) (hxv : xv = .ref l) (F : Fr h₀ L s₁.heap m) (N : News h₀ L s₁.heap news) (hl : (l, lo vs k) ∈ news) (hxs : StrsAre vs xs) (hz : xs.length ≤ 10000)
      (ht : ∀ C s₃ m₂ E' y t, s₃.heap.Ns C m₂ → m₂ x = some (.str y t) → y ∈ xs → (∀ q ∈ news, s₃.heap.get? q.1 = some q.2) → (∀ b o, h₀.get? b = some o → s₃.heap.get? b = some o) →
        wpAny (model PG w) A (forIn ifs true fun c r => if r = true then do let ok ← isTrue c (compEnvC scope cl C env) (eval c (compEnvC scope cl C env)); pure (ForInStep.yield ok) else pure (ForInStep.yield r))
          (fun ok s₄ => ok = p y ∧ Keeps s₃ s₄) E' s₃)
      (he : ∀ C s₃ m₂ E' y t, s₃.heap.Ns C m₂ → m₂ x = some (.str y t) → y ∈ xs → p y = true → (∀ q ∈ news, s₃.heap.get? q.1 = some q.2) → (∀ b o, h₀.get? b = some o → s₃.heap.get? b = some o) →
        wpAny (model PG w) A (eval elt (compEnvC scope cl C env)) (fun z s₄ => G y z ∧ Keeps s₃ s₄) E' s₃)
      (hQ : ∀ D ys k s₄, Same s₁ s₄ → Fr h₀ L s₄.heap m → News h₀ L s₄.heap ((D, lo ys k) :: news) → Off D news → Paired G (xs.filter p) ys → R D s₄)
inductive SQ1 (w : World) (A : Around) (L : Addr) (h₀ : Heap) (env : Env) (elt ct : PySem.Expr) (x : Str) (scope : Scope) (cl : List (Str × Addr)) (p : Str → Bool) (G : Str → Value → Prop)
    (R : Addr → Shared → Prop) (xv : Value) (s₁ : Shared) : Prop
  | mk (l : Addr) (vs : List Value) (k : Nat) (xs : List Str) (m : Str → Option Value) (news : List (Addr × Obj)) (hxv : xv = .ref l) (F : Fr h₀ L s₁.heap m) (N : News h₀ L s₁.heap news) (hl : (l, lo vs k) ∈ news) (hxs : StrsAre vs xs) (hz : xs.length ≤ 10000)
      (ht : ∀ C s₃ m₂ E' y t, s₃.heap.Ns C m₂ → m₂ x = some (.str y t) → y ∈ xs → (∀ q ∈ news, s₃.heap.get? q.1 = some q.2) → (∀ b o, h₀.get? b = some o → s₃.heap.get? b = some o) →
        wpAny (model PG w) A (isTrue ct (compEnvC scope cl C env) (eval ct (compEnvC scope cl C env))) (fun ok s₄ => ok = p y ∧ Keeps s₃ s₄) E' s₃)
      (he : ∀ C s₃ m₂ E' y t, s₃.heap.Ns C m₂ → m₂ x = some (.str y t) → y ∈ xs → p y = true → (∀ q ∈ news, s₃.heap.get? q.1 = some q.2) → (∀ b o, h₀.get? b = some o → s₃.heap.get? b = some o) →
        wpAny (model PG w) A (eval elt (compEnvC scope cl C env)) (fun z s₄ => G y z ∧ Keeps s₃ s₄) E' s₃)
      (hQ : ∀ D ys k s₄, Same s₁ s₄ → Fr h₀ L s₄.heap m → News h₀ L s₄.heap ((D, lo ys k) :: news) → Off D news → Paired G (xs.filter p) ys → R D s₄)
inductive SQ0 (w : World) (A : Around) (L : Addr) (h₀ : Heap) (env : Env) (elt : PySem.Expr) (x : Str) (scope : Scope) (cl : List (Str × Addr)) (G : Str → Value → Prop)
    (R : Addr → Shared → Prop) (xv : Value) (s₁ : Shared) : Prop
  | mk (l : Addr) (vs : List Value) (k : Nat) (xs : List Str) (m : Str → Option Value) (news : List (Addr × Obj)) (hxv : xv = .ref l) (F : Fr h₀ L s₁.heap m) (N : News h₀ L s₁.heap news) (hl : (l, lo vs k) ∈ news) (hxs : StrsAre vs xs) (hz : xs.length ≤ 10000)
      (he : ∀ C s₃ m₂ E' y t, s₃.heap.Ns C m₂ → m₂ x = some (.str y t) → y ∈ xs → (∀ q ∈ news, s₃.heap.get? q.1 = some q.2) → (∀ b o, h₀.get? b = some o → s₃.heap.get? b = some o) →
        wpAny (model PG w) A (eval elt (compEnvC scope cl C env)) (fun z s₄ => G y z ∧ Keeps s₃ s₄) E' s₃)
      (hQ : ∀ D ys k s₄, Same s₁ s₄ → Fr h₀ L s₄.heap m → News h₀ L s₄.heap ((D, lo ys k) :: news) → Off D news → Paired G xs ys → R D s₄)

theorem two_lt {n l b : Nat} (hl : l < n) (hb : b ∈ [n, l]) : b < n + 1 := by
  rcases List.mem_cons.mp hb with rfl | hb
  · exact Nat.lt_succ_self _
  · exact List.mem_singleton.mp hb ▸ Nat.lt_succ_of_lt hl
theorem sq_cq {p : Str → Bool} {G : Str → Value → Prop} (hh : A.handled = none) (h : SQ w A L h₀ env elt ifs x scope cl p G R xv s₁) :
    wpAny (model PG w) A (pyIter xv) (CQ w A L h₀ env strOf elt ifs x scope cl p G (fun _ m => m) R) E s₁ := by
  obtain ⟨l, vs, k, xs, m, news, rfl, F, N, hl, hxs, hz, ht, he, hQ⟩ := h
  have hlist : s₁.heap.IsList l vs.toArray := ⟨_, (N _ hl).1, rfl, k, rfl⟩
  have hlt := Heap.lt_size (N _ hl).1
  refine wpAny_pyIter_list hlist ?_
  refine .mk _ [s₁.heap.objs.size, l] vs.toArray.size _ _ m news rfl (Walks.list (prog := PG) (w := w) hh s₁.heap.objs.size l (Nat.ne_of_lt hlt) vs.toArray) (by have := StrsAre.len hxs; simp; omega) ⟨⟨_, Heap.get?_push_size _ rfl, rfl, rfl⟩, hlist.push _⟩ (fun b hb => (Heap.size_push s₁.heap (liObj l)).symm ▸ two_lt hlt hb) (F.push _)
    (fun q hq => (N.push F (liObj l) rfl) q (.tail _ hq)) (Off.lt fun q hq => Heap.lt_size (N q hq).1) (Nat.ne_of_lt F.ns.lt) (next_is_new F) ?_ ?_ xs (by have := StrsAre.len hxs; simp; omega) ?_ fun D ys k s₄ sm => hQ D ys k s₄ ⟨sm.gens, sm.os⟩
  · intro C s₃ m₂ E' i v hns hx₂ hv
    obtain ⟨y, t, rfl, hy⟩ := StrsAre.str_at hxs i v (by simpa using hv)
    exact ht C s₃ m₂ E' y t hns hx₂ (List.mem_of_getElem? hy)
  · intro C s₃ m₂ E' i v hns hx₂ hv
    obtain ⟨y, t, rfl, hy⟩ := StrsAre.str_at hxs i v (by simpa using hv)
    exact he C s₃ m₂ E' y t hns hx₂ (List.mem_of_getElem? hy)
  · intro i v hv
    obtain ⟨y, t, rfl, hy⟩ := StrsAre.str_at hxs i v (by simpa using hv)
    exact hy
/-- over a list of strs, one test -/
theorem compS1 {Q : Value → Shared → Prop} (p : Str → Bool) (G : Str → Value → Prop) (hh : A.handled = none)
    (hclos : closureFor scope env = pure cl) (hcell : ∀ y ∈ scope.names, y.2 ≠ .cell) (hkind : scope.kind = .function)
    (hnames : ∀ y ∈ scope.names, y.2 = .local → scope.names.lookup y.1 = some .local) (hx : scope.names.lookup x = some .local)
    (h : wpAny (model PG w) A (eval iter env) (SQ1 w A L h₀ env elt ct x scope cl p G fun D => Q (.ref D)) E s)
    (hs : ∀ x, foldedSetIterable iter env x = pure x := by intro _; rfl) :
    wpAny (model PG w) A (eval (.ListComp elt [⟨.Name x px, iter, [ct], 0⟩] scope pos) env) Q E s :=
  compQ hclos hcell hkind hnames hx (wpAny_mono h (fun _ _ h₁ => sq_cq hh (by
    obtain ⟨l, vs, k, xs, m, news, e, F, N, hl, hxs, hz, ht, he, hQ⟩ := h₁
    exact .mk l vs k xs m news e F N hl hxs hz (fun C s₃ m₂ E' y t a1 a2 a3 a4 a5 => wpAny_tests_one (ht C s₃ m₂ E' y t a1 a2 a3 a4 a5)) he hQ)) fun _ _ e => e) hs
/-- over a list of strs, no test -/
theorem compS0 {Q : Value → Shared → Prop} (G : Str → Value → Prop) (hh : A.handled = none)
    (hclos : closureFor scope env = pure cl) (hcell : ∀ y ∈ scope.names, y.2 ≠ .cell) (hkind : scope.kind = .function)
    (hnames : ∀ y ∈ scope.names, y.2 = .local → scope.names.lookup y.1 = some .local) (hx : scope.names.lookup x = some .local)
    (h : wpAny (model PG w) A (eval iter env) (SQ0 w A L h₀ env elt x scope cl G fun D => Q (.ref D)) E s)
    (hs : ∀ x, foldedSetIterable iter env x = pure x := by intro _; rfl) :
    wpAny (model PG w) A (eval (.ListComp elt [⟨.Name x px, iter, [], 0⟩] scope pos) env) Q E s :=
  compQ hclos hcell hkind hnames hx (wpAny_mono h (fun _ _ h₁ => sq_cq (p := fun _ => true) hh (by
    obtain ⟨l, vs, k, xs, m, news, e, F, N, hl, hxs, hz, he, hQ⟩ := h₁
    exact .mk l vs k xs m news e F N hl hxs hz (fun C s₃ m₂ E' y t a1 a2 a3 a4 a5 => wpAny_tests_nil ⟨rfl, s₃.heap, s₃.toks, rfl, fun _ _ e => e⟩) (fun C s₃ m₂ E' y t a1 a2 a3 _ => he C s₃ m₂ E' y t a1 a2 a3)
      fun D ys k s₄ b1 b2 b3 b4 b5 => hQ D ys k s₄ b1 b2 b3 b4 (paired_all b5))) fun _ _ e => e) hs
end
end Mine
end

-- Parts
section
open PySem PySem.W PyProof.Rows PySem.Calls
set_option maxRecDepth 100000
set_option maxHeartbeats 2000000
namespace Mine
open LCg
noncomputable def ltr (k : Int) : Str := PySem.Txt.item (S "abc") k
noncomputable def agBit (x k : Int) : Bool := ((x.fdiv (2 ^ k.toNat)).fmod 2) == 1
noncomputable def agOf0 (x : Int) : List Str := S "*" :: ((((List.range 3).map fun j => (0 : Int) + (j : Nat) * 1).filter (agBit x)).map ltr)
noncomputable def agOf (x : Int) : List Str := if ((x.fdiv 8).fmod 2 == 1) = true then (agOf0 x).reverse else agOf0 x
noncomputable def ruAt (x k : Int) : Str := [S "Allow: /", S "Disallow: /"].getD ((((x.fdiv 448).fdiv (2 ^ k.toNat)).fmod 2).toNat) (S "") ++ ltr (k.fmod 3)
noncomputable def ruOf (x : Int) : List Str := ((List.range ((x.fdiv 64).fmod 7).toNat).map fun j => (0 : Int) + (j : Nat) * 1).map (ruAt x)
noncomputable def dlOf (x : Int) : Option Int := [none, some 1, some 2, some 3].getD ((x.fdiv 16).fmod 4).toNat none
noncomputable def dlS : Value → Option Int
  | .int i _ => some i
  | _ => none

theorem strs_of {K : Type} {f : K → Str} {ks : List K} {ys : List Value} (h : Paired (fun k y => ∃ t, y = .str (f k) t) ks ys) : StrsAre ys (ks.map f) := by
  induction h with
  | nil => exact .nil
  | cons h _ ih => obtain ⟨t, rfl⟩ := h; exact .cons _ t ih
theorem StrsAre.rev {vs : List Value} {xs : List Str} (h : StrsAre vs xs) : StrsAre vs.reverse xs.reverse := by
  induction h with
  | nil => exact .nil
  | cons y t r ih => rw [List.reverse_cons, List.reverse_cons]; exact StrsAre.app ih (.cons y t .nil)

theorem keeps_refl {s : Shared} : Keeps s s := ⟨s.heap, s.toks, rfl, fun _ _ e => e⟩
theorem keeps_tk {s s' : Shared} (h : Keeps s s') {tk : Nat} : Keeps s { s' with toks := tk } := by
  obtain ⟨h', t, rfl, k⟩ := h; exact ⟨h', tk, rfl, k⟩

section
variable {d u : Nat} {w : World} {A : Around} {E : Value → Shared → Prop} {s : Shared} {L : Addr} {h₀ : Heap} {m : Str → Option Value} {I news : List (Addr × Obj)} {Q : Value → Shared → Prop} {hp : Heap}

/-- l[::-1] -/
theorem revS {value slice : PySem.Expr} {l : Addr} {vs : List Value} {n : Nat} {t : Tok} {s : Shared} (F : Fr h₀ L s.heap m) (N : News h₀ L s.heap news) (hl : (l, lo vs n) ∈ news) (hz : vs.length ≤ 1000000)
    (h : ∀ D s', Same s s' → Fr h₀ L s'.heap m → News h₀ L s'.heap ((D, lo vs.reverse 0) :: news) → Off D news → Q (.ref D) s')
    (hs : subscripted slice false (.ref l) (.ref s.heap.objs.size) = operate [.ref l, .ref s.heap.objs.size] (getItem (.ref l) (.ref s.heap.objs.size)) := by with_unfolding_all rfl) (ht : ∀ r, letTemporaryGo value (.ref l) r = pure () := by intro _; with_unfolding_all rfl) :
    wpAny (model PG w) A (subscriptTail value slice (.ref l) (.ref s.heap.objs.size)) Q E { s with heap := s.heap.push { cls := .type "slice", data := .fields #[.none, .none, .int (-1) t] } } :=
  krv_lit (its := vs.toArray) F N ⟨_, (N _ hl).1, rfl, n, rfl⟩ (.int _ _) rfl (fun D h' F' N' l => h D _ ⟨rfl, rfl⟩ F' N' (Off.lt l)) hs ht (by rw [sizeLine_eq]; simp; omega)

theorem fdivS {a b : Int} {t u : Tok} (h0 : 0 < b) (h1 : b ≤ 1000000) (h : Q (.int (a.fdiv b) s.toks) { s with toks := s.toks + 1 }) : wpAny (model PG w) A (binaryOp .FloorDiv (.int a t) (.int b u)) Q E s :=
  floordiv_int (by omega) h (.inl (PyProof.noPylong_small (by omega)))

theorem abcS {value slice : PySem.Expr} {k : Int} {t u : Tok} (h0 : 0 ≤ k) (h3 : k < 3) (h : Q (.str (ltr k) s.toks) { s with toks := s.toks + 1 })
    (hs : subscripted slice false (.str (S "abc") t) (.int k u) = operate [.str (S "abc") t, .int k u] (getItem (.str (S "abc") t) (.int k u)) := by with_unfolding_all rfl)
    (ht : ∀ r, letTemporaryGo value (.str (S "abc") t) r = pure () := by intro _; with_unfolding_all rfl) :
    wpAny (model PG w) A (subscriptTail value slice (.str (S "abc") t) (.int k u)) Q E s := by
  have e : (S "abc").length = 3 := by decide
  exact item_str (fitsSsize_of (N := 9223372036854775808) (by omega) (by omega) (Int.le_refl _)) (by rw [e]; omega) (by rw [e]; omega) (fun _ => h) hs ht

theorem newListR {vs : List Value} (hz : vs.length ≤ 1000000) (h : Q (.ref s.heap.objs.size) { s with heap := s.heap.push (lo vs 0) }) : wpAny (model PG w) A (newList vs) Q E s :=
  wpAny_newObj_type h (by show vs.toArray.size ≤ sizeLine; rw [sizeLine_eq]; simp; omega)
theorem get_push {h : Heap} {o : Obj} (hf : o.isFreed = false := by rfl) : (h.push o).get? h.objs.size = some o := Heap.get?_push_size _ hf
theorem ns_push {h : Heap} {C : Addr} {m : Str → Option Value} (x : h.Ns C m) {o : Obj} : (h.push o).Ns C m := x.at' fun _ e => Heap.get?_push_of_some _ e
theorem range_n {m : Int} (h0 : 0 ≤ m) (h1 : m < 50) : Builtin.Range.small 0 m 1 = true ∧ Builtin.Range.rangeSize 0 m 1 = ((m.toNat : Nat) : Int) := by
  obtain ⟨k, rfl⟩ := Int.eq_ofNat_of_zero_le h0
  have hk : k < 50 := by omega
  have all : ∀ k : Fin 50, Builtin.Range.small 0 (k.val : Int) 1 = true ∧ Builtin.Range.rangeSize 0 (k.val : Int) 1 = (((k.val : Int).toNat : Nat) : Int) := by decide
  exact all ⟨k, hk⟩

theorem dlTail {hp : Heap} {value slice : PySem.Expr} {l : Addr} {n : Nat} {q : Int} {t t1 t2 t3 : Tok} (hl : hp.get? l = some (lo [.none, .int 1 t1, .int 2 t2, .int 3 t3] n)) (h0 : 0 ≤ q) (h4 : q < 4)
    (h : ∀ dv, IsDelay dv → dlS dv = [none, some 1, some 2, some 3].getD q.toNat none → Q dv s)
    (hs : subscripted slice false (.ref l) (.int q t) = operate [.ref l, .int q t] (getItem (.ref l) (.int q t)) := by with_unfolding_all rfl) (he : s.heap = hp := by rfl) :
    wpAny (model PG w) A (subscriptTail value slice (.ref l) (.int q t)) Q E s := by
  have : q = 0 ∨ q = 1 ∨ q = 2 ∨ q = 3 := by omega
  rcases this with rfl | rfl | rfl | rfl
  · exact tail_list hl (by decide) rfl (Nat.le_of_ble_eq_true rfl) (h _ (.inl rfl) rfl) hs he
  · exact tail_list hl (by decide) rfl (Nat.le_of_ble_eq_true rfl) (h _ (.inr ⟨_, _, rfl⟩) rfl) hs he
  · exact tail_list hl (by decide) rfl (Nat.le_of_ble_eq_true rfl) (h _ (.inr ⟨_, _, rfl⟩) rfl) hs he
  · exact tail_list hl (by decide) rfl (Nat.le_of_ble_eq_true rfl) (h _ (.inr ⟨_, _, rfl⟩) rfl) hs he

structure Pt where
  q : Addr
  al : Addr
  rl : Addr
  av : List Value
  rv : List Value
  dv : Value
  k : Nat
  k1 : Nat
  k2 : Nat
/-- the part that is made of x -/
structure IsPt (news : List (Addr × Obj)) (x : Int) (p : Pt) : Prop where
  q : (p.q, lo [.ref p.al, p.dv, .ref p.rl] p.k) ∈ news
  al : (p.al, lo p.av p.k1) ∈ news
  rl : (p.rl, lo p.rv p.k2) ∈ news
  ag : StrsAre p.av (agOf x)
  ru : StrsAre p.rv (ruOf x)
  dl : IsDelay p.dv
  dx : dlS p.dv = dlOf x

theorem parts_call {hp₀ : Heap} (C : Cx d u w A L h₀) (F : Fr h₀ L hp₀ m) (N : News h₀ L hp₀ news) (hd : d < 600) (x : Int) {t : Tok}
    (h : ∀ p new s' news', Same s s' → Fr h₀ L s'.heap m → News h₀ L s'.heap news' → Gw news news' → (∀ c ∈ new, c ∈ news' ∧ Off c.1 news) → IsPt new x p → Q (.ref p.q) s') (he : s.heap = hp₀ := by rfl) :
    wpAny (model PG w) A (call (.ref 124) [.int x t]) Q E s := by
  subst he
  refine call_defC C F N rfl rfl (by omega) rfl (fun v news' => ∃ p new, v = .ref p.q ∧ Gw news news' ∧ (∀ c ∈ new, c ∈ news' ∧ Off c.1 news) ∧ IsPt new x p) ?_ ?_ rfl (by decide)
  · intro g L' A' s₁ cells C' F₁ N₁ Y sm l lc
    obtain ⟨oX, rfl, hoX⟩ := CellsAre.one (cm := _) (n := S "x") (c := L' + 1) Y
    have hoX : IsC (some (.int x t)) oX := hoX
    have g₁ : Gw news ([(L' + 1, oX)] ++ news) := Gw.rfl'.cons (Off.lt fun p hp => Nat.lt_succ_of_lt (l p hp))
    refine wpAny_execs_cons (wpAny_Assign_Name (wpAny_BinOp (List_ (spliced_more (wpAny_Constant_str (spliced_none (newListS F₁ N₁ (by simp) fun l1 s₂ sm₂ F₂ N₂ lt₂ => ?_)))))))
    refine compR1 (h₀ := g) (L := L') (agBit x) (fun k y => ∃ t, y = .str (ltr k) t) C'.hand rfl (by decide) rfl (by decide) rfl ?_
    refine callT C' F₂ rfl boot_range (spliced_more (wpAny_Constant_int (spliced_none (rangeS1 F₂ N₂ fun r t' v' s₃ sm₃ F₃ N₃ lt₃ => ?_))))
    refine ⟨r, 0, 3, 1, _, _, _, 3, _, _, rfl, F₃, N₃, .head _, by rfl, by rfl, by decide, ?_, ?_, ?_⟩
    · intro D s₄ m₂ E' i t hns hx hi hN hB
      have hoXc := hN (L' + 1, oX) (.tail _ (.tail _ (.head _)))
      refine wpAny_isTrue_Compare1 (wpAny_BinOp (wpAny_BinOp (qcell hoXc rfl hoX (wpAny_BinOp (wpAny_Constant_int (qloc hns hx (pow_int_small (by omega) (by omega) (by decide) (fdivS (kbt_pos _) ?_ (wpAny_Constant_int (mod_int (by decide) (wpAny_Constant_int (eq_int (wpAny_truthy_bool ?_)))))))))))))
      · have : i = 0 ∨ i = 1 ∨ i = 2 := by omega
        rcases this with rfl | rfl | rfl <;> decide
      · exact ⟨rfl, keeps_tk keeps_refl⟩
    · intro D s₄ m₂ E' i t hns hx hi hp hN hB
      refine Subscript_ (wpAny_Constant_str (qloc hns hx ?_))
      exact abcS (by omega) (by omega) ⟨⟨_, rfl⟩, keeps_tk (keeps_tk keeps_refl)⟩
    intro D₁ ys₁ k₁ s₄ sm₄ F₄ N₄ o₄ hp₄
    have hs₄ := strs_of hp₄
    have len₄ : ys₁.length ≤ 3 := by
      rw [← hp₄.length]
      exact Nat.le_trans (List.length_filter_le _ _) (by simp)
    refine addListS F₄ N₄ (.tail _ (.tail _ (.head _))) (.head _) (by simp; omega) fun D₂ s₅ sm₅ F₅ N₅ lt₅ => ?_
    refine stL F₅ N₅ fun s₆ sm₆ F₆ N₆ => ?_
    have g₆ := (((g₁.cons (o := lo [.str (S "*") s₁.toks] 0) (Off.lt lt₂)).cons (o := rgObj 0 3 1 t' (s₂.toks) v') (Off.lt lt₃)).cons (o := lo ys₁ k₁) o₄).cons (o := lo ([.str (S "*") s₁.toks] ++ ys₁) 0) (Off.lt lt₅)
    have hag : StrsAre ([.str (S "*") s₁.toks] ++ ys₁) (agOf0 x) := .cons _ _ hs₄
    have offD₂ : Off D₂ news := Off.gw (((g₁.cons (o := lo [.str (S "*") s₁.toks] 0) (Off.lt lt₂)).cons (o := rgObj 0 3 1 t' (s₂.toks) v') (Off.lt lt₃)).cons (o := lo ys₁ k₁) o₄) (Off.lt lt₅)
    -- rules
    have m0 := Int.fmod_nonneg_of_pos (x.fdiv 64) (show (0 : Int) < 7 by decide)
    have m1 := Int.fmod_lt_of_pos (x.fdiv 64) (show (0 : Int) < 7 by decide)
    have rn := range_n m0 (by omega)
    generalize hN₆ : (D₂, lo ([Value.str (S "*") s₁.toks] ++ ys₁) 0) :: (D₁, lo ys₁ k₁) :: (r, rgObj 0 3 1 t' s₂.toks v') :: (l1, lo [Value.str (S "*") s₁.toks] 0) :: ([(L' + 1, oX)] ++ news) = nw₆ at *
    have hX₆ : (L' + 1, oX) ∈ nw₆ := hN₆ ▸ .tail _ (.tail _ (.tail _ (.tail _ (.head _))))
    have hA₆ : (D₂, lo ([Value.str (S "*") s₁.toks] ++ ys₁) 0) ∈ nw₆ := hN₆ ▸ .head _
    refine wpAny_execs_cons (compR0A (h₀ := g) (L := L') (fun k y => ∃ t, y = .str (ruAt x k) t) C'.hand rfl (by with_unfolding_all rfl) rfl rfl rfl (by decide) rfl (by decide) rfl ?_)
    refine callT C' F₆ rfl boot_range (spliced_more (wpAny_BinOp (wpAny_BinOp (ldC N₆ hX₆ hoX (wpAny_Constant_int (fdivS (by decide) (by decide) (wpAny_Constant_int (mod_int (by decide) ?_))))))))
    refine spliced_none (rangeS1 F₆ N₆ fun r₂ t₂ v₂ s₇ sm₇ F₇ N₇ lt₇ => ?_)
    refine ⟨r₂, 0, _, 1, _, _, _, _, _, _, rfl, F₇, N₇, .head _, rn.1, rn.2, by omega, ?_, ?_⟩
    · intro D s₄ m₂ E' i t hns hx hi hN hB
      have hoXc := hN (L' + 1, oX) (.tail _ hX₆)
      refine wpAny_BinOp (Subscript_ (List_ (spliced_more (wpAny_Constant_str (spliced_more (wpAny_Constant_str (spliced_none (newListR (by simp) ?_))))))))
      refine wpAny_BinOp (wpAny_BinOp (wpAny_BinOp (qcell (Heap.get?_push_of_some _ hoXc) rfl hoX (wpAny_Constant_int (fdivS (by decide) (by decide) (wpAny_BinOp (wpAny_Constant_int (qloc (ns_push hns) hx (pow_int_small (by omega) (by omega) (by decide) (fdivS (kbt_pos _) ?_ (wpAny_Constant_int (mod_int (by decide) ?_))))))))))))
      · have : i = 0 ∨ i = 1 ∨ i = 2 ∨ i = 3 ∨ i = 4 ∨ i = 5 := by omega
        rcases this with rfl | rfl | rfl | rfl | rfl | rfl <;> decide
      have q0 := Int.fmod_nonneg_of_pos ((x.fdiv 448).fdiv (2 ^ ((0 : Int) + (i : Nat) * 1).toNat)) (show (0 : Int) < 2 by decide)
      have q1 := Int.fmod_lt_of_pos ((x.fdiv 448).fdiv (2 ^ ((0 : Int) + (i : Nat) * 1).toNat)) (show (0 : Int) < 2 by decide)
      have r0 := Int.fmod_nonneg_of_pos ((0 : Int) + (i : Nat) * 1) (show (0 : Int) < 3 by decide)
      have r1 := Int.fmod_lt_of_pos ((0 : Int) + (i : Nat) * 1) (show (0 : Int) < 3 by decide)
      have hru : ∀ y, y = [S "Allow: /", S "Disallow: /"].getD ((((x.fdiv 448).fdiv (2 ^ ((0 : Int) + (i : Nat) * 1).toNat)).fmod 2).toNat) (S "") → y ++ ltr (((0 : Int) + (i : Nat) * 1).fmod 3) = ruAt x ((0 : Int) + (i : Nat) * 1) := fun y e => by rw [e]; rfl
      generalize ((x.fdiv 448).fdiv (2 ^ ((0 : Int) + (i : Nat) * 1).toNat)).fmod 2 = q at *
      have : q = 0 ∨ q = 1 := by omega
      rcases this with rfl | rfl
      · refine tail_list get_push (by decide) rfl (Nat.le_of_ble_eq_true rfl) ?_
        refine Subscript_ (wpAny_Constant_str (wpAny_BinOp (qloc (ns_push hns) hx (wpAny_Constant_int (mod_int (by decide) (abcS r0 r1 ?_))))))
        refine add_str (fun tt tk => ⟨⟨tt, ?_⟩, ?_⟩) (by rw [sizeLine_eq]; show (S "Allow: /").length + 1 ≤ _; decide)
        · rw [← hru _ rfl]; rfl
        · exact ⟨_, _, rfl, fun b o e => Heap.get?_push_of_some _ e⟩
      · refine tail_list get_push (by decide) rfl (Nat.le_of_ble_eq_true rfl) ?_
        refine Subscript_ (wpAny_Constant_str (wpAny_BinOp (qloc (ns_push hns) hx (wpAny_Constant_int (mod_int (by decide) (abcS r0 r1 ?_))))))
        refine add_str (fun tt tk => ⟨⟨tt, ?_⟩, ?_⟩) (by rw [sizeLine_eq]; show (S "Disallow: /").length + 1 ≤ _; decide)
        · rw [← hru _ rfl]; rfl
        · exact ⟨_, _, rfl, fun b o e => Heap.get?_push_of_some _ e⟩
    intro D₃ ys₃ k₃ s₈ sm₈ F₈ N₈ o₈ hp₈
    have hru : StrsAre ys₃ (ruOf x) := strs_of hp₈
    have offD₃ : Off D₃ news := Off.gw (g₆.cons (Off.lt lt₇)) o₈
    have g₈ := Gw.cons (o := lo ys₃ k₃) (Gw.cons g₆ (Off.lt lt₇)) o₈
    -- the list
    obtain ⟨nw₈, m₈, F₈, N₈, g₈, e1, e2, hA₈, hR₈, hX₈⟩ : ∃ nw mm, Fr g L' s₈.heap mm ∧ News g L' s₈.heap nw ∧ Gw news nw ∧ mm (S "agents") = some (.ref D₂) ∧ mm (S "rules") = some (.ref D₃) ∧ (D₂, lo ([Value.str (S "*") s₁.toks] ++ ys₁) 0) ∈ nw ∧ (D₃, lo ys₃ k₃) ∈ nw ∧ (L' + 1, oX) ∈ nw :=
      ⟨_, _, F₈, N₈, g₈, rfl, rfl, .tail _ (.tail _ hA₆), .head _, .tail _ (.tail _ hX₆)⟩
    refine wpAny_execs_cons (wpAny_Return_some (List_ (spliced_more (wpAny_mono (Q := fun v s' => ∃ al av k1 nw, v = .ref al ∧ Same s₈ s' ∧ Fr g L' s'.heap m₈ ∧ News g L' s'.heap nw ∧ Gw nw₈ nw ∧ (al, lo av k1) ∈ nw ∧ StrsAre av (agOf x) ∧ Off al news) ?_ ?_ fun _ _ x => x))))
    · refine wpAny_IfExp (wpAny_isTrue_Compare1 (wpAny_BinOp (wpAny_BinOp (ldC N₈ hX₈ hoX (wpAny_Constant_int (fdivS (by decide) (by decide) (wpAny_Constant_int (mod_int (by decide) (wpAny_Constant_int (eq_int (wpAny_truthy_bool ?_)))))))))))
      by_cases hb : ((x.fdiv 8).fmod 2 == 1) = true
      · rw [if_pos hb]
        refine Subscript_ (ldL F₈ e1 (wpAny_Slice (wpAny_pure (wpAny_pure (wpAny_UnaryOp (wpAny_Constant_int (neg_int ?_)))))))
        refine revS F₈ N₈ hA₈ (by simp; omega) fun D₄ s₉ sm₉ F₉ N₉ o₉ => ⟨D₄, _, 0, _, rfl, Same.rfl'.nx sm₉, F₉, N₉, Gw.rfl'.cons o₉, .head _, ?_, Off.gw g₈ o₉⟩
        unfold agOf; rw [if_pos hb]; exact StrsAre.rev hag
      · rw [if_neg hb]
        refine ldL F₈ e1 ⟨D₂, _, 0, _, rfl, ⟨rfl, rfl⟩, F₈, N₈, Gw.rfl', hA₈, ?_, offD₂⟩
        unfold agOf; rw [if_neg hb]; exact hag
    · rintro v s₉ ⟨al, av, k1, nw₉, rfl, sm₉, F₉, N₉, g₉, hal, hav, oal⟩
      refine spliced_more (Subscript_ (List_ (spliced_more (wpAny_Constant_none (spliced_more (wpAny_Constant_int (spliced_more (wpAny_Constant_int (spliced_more (wpAny_Constant_int (spliced_none (newListS F₉ N₉ (Nat.le_of_ble_eq_true rfl) fun l5 s₁₀ sm₁₀ F₁₀ N₁₀ lt₁₀ => ?_))))))))))))
      refine wpAny_BinOp (wpAny_BinOp (ldC N₁₀ (.tail _ (g₉.sub _ hX₈)) hoX (wpAny_Constant_int (fdivS (by decide) (by decide) (wpAny_Constant_int (mod_int (by decide) ?_))))))
      refine dlTail (N₁₀ _ (.head _)).1 (Int.fmod_nonneg_of_pos _ (by decide)) (Int.fmod_lt_of_pos _ (by decide)) fun dv hd1 hd2 => ?_
      refine spliced_more (ldL F₁₀ e2 (spliced_none (newListS F₁₀ N₁₀ (Nat.le_of_ble_eq_true rfl) fun q s₁₁ sm₁₁ F₁₁ N₁₁ lt₁₁ => ?_)))
      have g₁₀ := Gw.cons (Gw.cons (Gw.trans g₈ g₉) (Off.lt lt₁₀)) (Off.lt lt₁₁) (o := lo [.ref al, dv, .ref D₃] 0)
      have oq : Off q news := Off.gw (Gw.cons (Gw.trans g₈ g₉) (Off.lt lt₁₀)) (Off.lt lt₁₁)
      refine ⟨_, _, (((((((((Same.rfl'.nx sm₂).nx sm₃).nx sm₄).nx sm₅).nx sm₆).nx sm₇).nx sm₈).nx sm₉).nx sm₁₀).nx sm₁₁, F₁₁, N₁₁, ⟨q, al, D₃, av, ys₃, dv, 0, k1, k₃⟩, [(q, lo [.ref al, dv, .ref D₃] 0), (al, lo av k1), (D₃, lo ys₃ k₃)], rfl, g₁₀, ?_, ?_⟩
      · intro c hc
        simp only [List.mem_cons, List.not_mem_nil, or_false] at hc
        rcases hc with rfl | rfl | rfl
        · exact ⟨.head _, oq⟩
        · exact ⟨.tail _ (.tail _ hal), oal⟩
        · exact ⟨.tail _ (.tail _ (g₉.sub _ hR₈)), offD₃⟩
      · exact ⟨.head _, .tail _ (.head _), .tail _ (.tail _ (.head _)), hav, hru, hd1, hd2⟩
  · rintro v s' news' sm F' N' ⟨p, new, rfl, g, hn, hp⟩
    exact h p new s' news' sm F' N' g hn hp
end
end Mine
end

-- Lacks
section
open PySem PySem.W PyProof.Rows PySem.Calls
set_option maxRecDepth 100000
set_option maxHeartbeats 2000000
namespace Mine
open LCg
noncomputable def cnt (k : Str) (ys : List Str) : Int := PySem.Spec.countIn (.str k) (ys.map PyData.str)
noncomputable def strAt (l : List Str) (k : Int) : Str := l.getD k.toNat (S "")
noncomputable def lackB (one two : List Str) (k : Int) : Bool := decide (cnt (strAt one k) (one.take k.toNat) < cnt (strAt one k) one - cnt (strAt one k) two)
noncomputable def lacksOf (one two : List Str) : List Str := ((((List.range one.length).map fun j => ((one.length : Int) - 1) + (j : Nat) * (-1)).filter (lackB one two)).map (strAt one))
theorem range_down {n : Nat} (h : n < 70) : Builtin.Range.small ((n : Int) - 1) (-1) (-1) = true ∧ Builtin.Range.rangeSize ((n : Int) - 1) (-1) (-1) = ((n : Nat) : Int) := by
  have all : ∀ k : Fin 70, Builtin.Range.small ((k.val : Int) - 1) (-1) (-1) = true ∧ Builtin.Range.rangeSize ((k.val : Int) - 1) (-1) (-1) = ((k.val : Nat) : Int) := by decide
  exact all ⟨n, h⟩
section
variable {d u : Nat} {w : World} {A : Around} {E : Value → Shared → Prop} {s : Shared} {L : Addr} {h₀ : Heap} {m : Str → Option Value} {I news : List (Addr × Obj)} {Q : Value → Shared → Prop} {hp : Heap}

theorem three_call {hp₀ : Heap} (C : Cx d u w A L h₀) (F : Fr h₀ L hp₀ m) (N : News h₀ L hp₀ news) (hd : d < 600) (x y : Int) {t t' : Tok}
    (h : ∀ tr s', Same s s' → Fr h₀ L s'.heap m → News h₀ L s'.heap news → Q (.int (if x > y then 1 else if x < y then -1 else 0) tr) s') (he : s.heap = hp₀ := by rfl) :
    wpAny (model PG w) A (call (.ref 119) [.int x t, .int y t']) Q E s := by
  subst he
  refine call_def C F N rfl rfl (by omega) rfl (locs rfl) (fun v news' => news' = news ∧ ∃ tr, v = .int (if x > y then 1 else if x < y then -1 else 0) tr) ?_ ?_
  · intro g L' A' s₁ C' F₁ N₁ sm l
    refine wpAny_execs_cons (wpAny_Return_some (wpAny_BinOp (wpAny_Compare1 (ld F₁ rfl (ld F₁ rfl (gt_int (wpAny_Compare1 (ld F₁ rfl (ld F₁ rfl (PyProof.Rows.lt_int (PyProof.Rows.sub_bool ?_))))))))))) 
    refine ⟨_, _, ⟨rfl, rfl⟩, F₁, N₁, rfl, s₁.toks, ?_⟩
    show Value.int _ _ = _
    congr 1
    unfold PyProof.Rows.b2i
    by_cases h1 : x > y
    · have : ¬ x < y := by omega
      simp [h1, this]
    · by_cases h2 : x < y <;> simp [h1, h2]
  · rintro v s' news' sm F' N' ⟨rfl, tr, rfl⟩
    exact h tr s' sm F' N'

theorem lmeth {l : Addr} {vs : List Value} {n : Nat} {name : Str} {id : String} {pl : Sem Bool} {Q : Value × List Value → Shared → Prop} {hp : Heap} (hl : hp.get? l = some (lo vs n)) (slot : Slot "list" name id) (hty : typeOf (.builtin id) = pure (.type "method_descriptor"))
    (h : Q (.builtin id, [.ref l]) s) (he : s.heap = hp := by rfl) : wpAny (model PG w) A (getMethod (.ref l) name pl) Q E s := by
  subst he
  exact getMethod_builtin ⟨_, hl, rfl⟩ PySem.F.plainAttrs_list slot hty (fun a e => by cases e; exact ⟨_, hl, rfl⟩) h

theorem countR {l : Addr} {vs : List Value} {n : Nat} {ys : List Str} {k : Str} {t : Tok} {hp : Heap} (hl : hp.get? l = some (lo vs n)) (hi : StrsAre vs ys) (h : Q (.int (cnt k ys) s.toks) { s with toks := s.toks + 1 }) (he : s.heap = hp := by rfl) :
    wpAny (model PG w) A (call (.builtin "list.count") [.ref l, .str k t]) Q E s := by
  subst he
  exact count_list_strs ⟨_, hl, rfl, n, rfl⟩ hi h

theorem StrsAre.take : ∀ {vs : List Value} {xs : List Str}, StrsAre vs xs → ∀ k, StrsAre (vs.take k) (xs.take k)
  | _, _, _, 0 => .nil
  | _, _, .nil, _ + 1 => .nil
  | _, _, .cons x t r, k + 1 => .cons x t (StrsAre.take r k)
theorem StrsAre.at' {vs : List Value} {xs : List Str} (h : StrsAre vs xs) {i : Nat} (hi : i < xs.length) : ∃ t, vs[i]? = some (.str (xs.getD i (S "")) t) := by
  have hl : i < vs.length := by rw [StrsAre.len h]; exact hi
  have hv : vs[i]? = some vs[i] := List.getElem?_eq_getElem hl
  obtain ⟨x, t, e, hx⟩ := StrsAre.str_at h i _ hv
  refine ⟨t, ?_⟩
  rw [List.getD_eq_getElem?_getD, hx, hv, e]; rfl
theorem pick_upto (vs : List Value) (k : Nat) (h : k ≤ vs.length) : slicePick vs.toArray none (some (k : Int)) none = (vs.take k).toArray := by
  rw [kms_pick_eq]
  unfold kms_pick kms_lo kms_hi
  have : ¬ ((k : Int) < 0) := by omega
  simp only [if_neg this]
  simp [Nat.min_eq_left h]

theorem lacks_call {hp₀ : Heap} (C : Cx d u w A L h₀) (F : Fr h₀ L hp₀ m) (N : News h₀ L hp₀ news) (hd : d < 600) {l1 l2 : Addr} {vs1 vs2 : List Value} {n1 n2 : Nat} {one two : List Str}
    (h1 : (l1, lo vs1 n1) ∈ news) (h2 : (l2, lo vs2 n2) ∈ news) (s1 : StrsAre vs1 one) (s2 : StrsAre vs2 two) (hz : one.length < 70)
    (h : ∀ D vs k s' news', Same s s' → Fr h₀ L s'.heap m → News h₀ L s'.heap news' → Gw news news' → (D, lo vs k) ∈ news' → Off D news → StrsAre vs (lacksOf one two) → Q (.ref D) s') (he : s.heap = hp₀ := by rfl) :
    wpAny (model PG w) A (call (.ref 151) [.ref l1, .ref l2]) Q E s := by
  subst he
  refine call_defC C F N rfl rfl (by omega) rfl (fun v news' => ∃ D vs k, v = .ref D ∧ Gw news news' ∧ (D, lo vs k) ∈ news' ∧ Off D news ∧ StrsAre vs (lacksOf one two)) ?_ ?_ rfl (by decide)
  · intro g L' A' s₁ cells C' F₁ N₁ Y sm l lc
    obtain ⟨o2, o1, rfl, ho2, ho1⟩ := CellsAre.two (cm := _) (n := S "two") (c := L' + 1 + 1) (n' := S "one") (c' := L' + 1) Y
    have ho1 : IsC (some (.ref l1)) o1 := ho1
    have ho2 : IsC (some (.ref l2)) o2 := ho2
    have c1 : L' + 1 ≠ L' + 1 + 1 := Nat.ne_of_lt (Nat.lt_succ_self _)
    have g₁ : Gw news ([(L' + 1 + 1, o2), (L' + 1, o1)] ++ news) := (Gw.rfl'.cons (Off.lt fun p hp => Nat.lt_succ_of_lt (l p hp))).cons (Off.cons c1 (Off.lt fun p hp => Nat.lt_succ_of_lt (Nat.lt_succ_of_lt (l p hp))))
    obtain ⟨nw, N₁, g₁, m1, m2, hl1, hl2⟩ : ∃ nw, News g L' s₁.heap nw ∧ Gw news nw ∧ (L' + 1, o1) ∈ nw ∧ (L' + 1 + 1, o2) ∈ nw ∧ (l1, lo vs1 n1) ∈ nw ∧ (l2, lo vs2 n2) ∈ nw :=
      ⟨_, N₁, g₁, .tail _ (.head _), .head _, g₁.sub _ h1, g₁.sub _ h2⟩
    have len1 := StrsAre.len s1
    have rd := range_down hz
    refine wpAny_execs_cons (wpAny_Return_some (compR1 (h₀ := g) (L := L') (lackB one two) (fun k y => ∃ t, y = .str (strAt one k) t) C'.hand rfl (by decide) rfl (by decide) rfl ?_))
    refine callT C' F₁ rfl boot_range (spliced_more (wpAny_BinOp (callB C' F₁ rfl boot_len (spliced_more (ldC N₁ m1 ho1 (spliced_none (len_lo (N₁ _ hl1).1 (by omega) (wpAny_Constant_int (sub_int ?_)))))))))
    refine spliced_more (wpAny_UnaryOp (wpAny_Constant_int (neg_int ?_)))
    refine spliced_more (wpAny_UnaryOp (wpAny_Constant_int (neg_int ?_)))
    rw [len1]
    refine spliced_none (rangeS3 F₁ N₁ (by decide) (PyProof.noPylong_small (by decide)) fun r s₃ sm₃ F₃ N₃ lt₃ => ?_)
    refine ⟨r, _, _, -1, _, _, _, one.length, _, _, rfl, F₃, N₃, .head _, rd.1, rd.2, by omega, ?_, ?_, ?_⟩
    · intro D s₄ m₂ E' i t hns hx hi hN hB
      have q1 := hN _ (.tail _ m1)
      have q2 := hN _ (.tail _ m2)
      have v1 := hN _ (.tail _ hl1)
      have v2 := hN _ (.tail _ hl2)
      obtain ⟨k, hk⟩ : ∃ k : Nat, ((one.length : Int) - 1) + (i : Nat) * (-1) = (k : Int) ∧ k < one.length := ⟨one.length - 1 - i, by omega, by omega⟩
      obtain ⟨hk, hkl⟩ := hk
      rw [hk] at hx ⊢
      obtain ⟨tk, hget⟩ := StrsAre.at' s1 hkl
      have up : ∀ {o₁ o₂ : Obj} {a : Addr} {o : Obj}, s₄.heap.get? a = some o → ((s₄.heap.push o₁).push o₂).get? a = some o := fun e => Heap.get?_push_of_some _ (Heap.get?_push_of_some _ e)
      refine wpAny_isTrue_Compare1 (MethodCall_ (wpAny_Subscript_list_slice (qcell q1 rfl ho1 (wpAny_pure (qloc hns hx ⟨l1, vs1.toArray, none, some (k : Int), rfl, ⟨_, v1, rfl, n1, rfl⟩, by rw [sizeLine_eq]; simp; omega, .none, .int _ _, ?_⟩)))))
      rw [pick_upto _ _ (by omega)]
      have hD : ((s₄.heap.push { cls := .type "slice", data := .fields #[Value.none, .int (k : Int) t, .none] }).push (lo (vs1.take k) 0)).get? (s₄.heap.objs.size + 1) = some (lo (vs1.take k) 0) := by
        have := get_push (h := s₄.heap.push { cls := .type "slice", data := .fields #[Value.none, .int (k : Int) t, .none] }) (o := lo (vs1.take k) 0)
        rwa [Heap.size_push] at this
      refine lmeth hD _root_.PySem.F.slot_list_count _root_.PySem.F.type_list_count (callWith_method1 (spliced_more (Subscript_ (qcell (up q1) rfl ho1 (qloc (ns_push (ns_push hns)) hx (tail_list (up v1) (Int.natCast_nonneg _) hget (by omega) (spliced_none (countR hD (StrsAre.take s1 k) ?_))))))))
      refine wpAny_BinOp (MethodCall_ (qcell (up q1) rfl ho1 (lmeth (up v1) _root_.PySem.F.slot_list_count _root_.PySem.F.type_list_count (callWith_method1 (spliced_more (Subscript_ (qcell (up q1) rfl ho1 (qloc (ns_push (ns_push hns)) hx (tail_list (up v1) (Int.natCast_nonneg _) hget (by omega) (spliced_none (countR (up v1) s1 ?_)))))))))))
      refine MethodCall_ (qcell (up q2) rfl ho2 (lmeth (up v2) _root_.PySem.F.slot_list_count _root_.PySem.F.type_list_count (callWith_method1 (spliced_more (Subscript_ (qcell (up q1) rfl ho1 (qloc (ns_push (ns_push hns)) hx (tail_list (up v1) (Int.natCast_nonneg _) hget (by omega) (spliced_none (countR (up v2) s2 ?_))))))))))
      exact sub_int (PyProof.Rows.lt_int (wpAny_truthy_bool ⟨rfl, _, _, rfl, fun b o e => up e⟩))
    · intro D s₄ m₂ E' i t hns hx hi hp hN hB
      have q1 := hN _ (.tail _ m1)
      have v1 := hN _ (.tail _ hl1)
      obtain ⟨k, hk⟩ : ∃ k : Nat, ((one.length : Int) - 1) + (i : Nat) * (-1) = (k : Int) ∧ k < one.length := ⟨one.length - 1 - i, by omega, by omega⟩
      obtain ⟨hk, hkl⟩ := hk
      rw [hk] at hx ⊢
      obtain ⟨tk, hget⟩ := StrsAre.at' s1 hkl
      exact Subscript_ (qcell q1 rfl ho1 (qloc hns hx (tail_list v1 (Int.natCast_nonneg _) hget (by omega) ⟨⟨tk, rfl⟩, keeps_refl⟩)))
    · intro D ys k s₄ sm₄ F₄ N₄ o₄ hp₄
      exact ⟨_, _, (Same.rfl'.nx sm₃).nx sm₄, F₄, N₄, D, ys, k, rfl, Gw.cons (Gw.cons g₁ (Off.lt lt₃)) o₄, .head _, Off.gw (Gw.cons g₁ (Off.lt lt₃)) o₄, strs_of hp₄⟩
  · rintro v s' news' sm F' N' ⟨D, vs, k, rfl, g, hD, oD, hs⟩
    exact h D vs k s' news' sm F' N' g hD oD hs
end
end Mine
end

-- Least
section
open PySem PySem.W PyProof.Rows PySem.Calls
set_option maxRecDepth 100000
set_option maxHeartbeats 2000000
namespace Mine
open LCg
noncomputable def ksR (a : Int) (n : Nat) : List Int := (List.range n).map fun j => a + (j : Nat) * 1
noncomputable def intAt (l : List Int) (k : Int) : Int := l.getD k.toNat 0
noncomputable def bitB (x k : Int) : Bool := ((x.fdiv (2 ^ k.toNat)).fmod 2) == 1
noncomputable def subB (some part : Int) : Bool := Builtin.bitAnd part some == part
noncomputable def minL : List Int → Int
  | [] => 0
  | x :: r => r.foldl min x
noncomputable def waysOf (L : List Int) (x : Int) (n : Nat) : List Int := ((ksR 1 n).filter (subB x)).map fun p => intAt L p + intAt L (x - p)
noncomputable def wholeOf (ns : List Int) (x : Int) : Int := (((ksR 0 5).filter (bitB x)).map (intAt ns)).sum
noncomputable def stepL (ns L : List Int) (i : Nat) : List Int := L.set (i + 1) (if waysOf L (1 + (i : Nat) * 1) i = [] then 0 else wholeOf ns (1 + (i : Nat) * 1) + minL (waysOf L (1 + (i : Nat) * 1) i))
noncomputable def tabL (ns : List Int) : Nat → List Int
  | 0 => List.replicate 32 0
  | i + 1 => stepL ns (tabL ns i) i
noncomputable def leastOf (ns : List Int) : Int := intAt (tabL ns 31) 31
theorem tabL_len (ns : List Int) : ∀ i, (tabL ns i).length = 32
  | 0 => rfl
  | i + 1 => by unfold tabL stepL; rw [List.length_set]; exact tabL_len ns i

theorem minL_fold : ∀ (r : List Int) (x : Int), (r.foldl min x = x ∨ r.foldl min x ∈ r) ∧ r.foldl min x ≤ x ∧ ∀ a ∈ r, r.foldl min x ≤ a
  | [], x => ⟨.inl rfl, Int.le_refl _, fun _ h => nomatch h⟩
  | y :: r, x => by
    have h := minL_fold r (min x y)
    rw [List.foldl_cons]
    refine ⟨?_, by have := h.2.1; omega, fun a ha => ?_⟩
    · rcases h.1 with e | e
      · rw [e]
        by_cases q : x ≤ y
        · left; omega
        · right; rw [show min x y = y by omega]; exact .head _
      · right; exact .tail _ e
    · rcases List.mem_cons.mp ha with rfl | ha
      · have := h.2.1; omega
      · exact h.2.2 a ha
theorem minL_spec {l : List Int} (h : l ≠ []) : minL l ∈ l ∧ ∀ a ∈ l, minL l ≤ a := by
  cases l with
  | nil => exact absurd rfl h
  | cons x r =>
    have := minL_fold r x
    refine ⟨?_, fun a ha => ?_⟩
    · rcases this.1 with e | e
      · show r.foldl min x ∈ _; rw [e]; exact .head _
      · exact .tail _ e
    · rcases List.mem_cons.mp ha with rfl | ha
      · exact this.2.1
      · exact this.2.2 a ha
theorem minL_eq {l : List Int} {M : Int} (h1 : M ∈ l) (h2 : ∀ a ∈ l, M ≤ a) : M = minL l := by
  have := minL_spec (l := l) (by rintro rfl; cases h1)
  have a := h2 _ this.1
  have b := this.2 _ h1
  omega

theorem ints_of {K : Type} {f : K → Int} {ks : List K} {ys : List Value} (h : Paired (fun k y => ∃ t, y = .int (f k) t) ks ys) : IntsAre ys (ks.map f) := by
  induction h with
  | nil => exact .nil
  | cons h _ ih => obtain ⟨t, rfl⟩ := h; exact .cons _ t ih
theorem IntsAre.at' : ∀ {vs : List Value} {ns : List Int}, IntsAre vs ns → ∀ {i : Nat}, i < ns.length → ∃ t, vs[i]? = some (.int (ns.getD i 0) t)
  | _, _, .nil, _, hi => by simp at hi
  | _, _, .cons n t r, 0, _ => ⟨t, rfl⟩
  | _, _, .cons n t r, i + 1, hi => by
    obtain ⟨t', e⟩ := IntsAre.at' r (i := i) (by simpa using hi)
    exact ⟨t', by simpa using e⟩
theorem IntsAre.set' {x : Int} {t : Tok} : ∀ {vs : List Value} {ns : List Int}, IntsAre vs ns → ∀ i, IntsAre (vs.set i (.int x t)) (ns.set i x)
  | _, _, .nil, _ => .nil
  | _, _, .cons _ _ r, 0 => .cons _ _ r
  | _, _, .cons n t r, i + 1 => .cons n t (IntsAre.set' r i)
theorem IntsAre.repl (x : Int) (t : Tok) : ∀ n, IntsAre (List.replicate n (.int x t)) (List.replicate n x)
  | 0 => .nil
  | n + 1 => .cons x t (IntsAre.repl x t n)

section
variable {d u : Nat} {w : World} {A : Around} {E : Value → Shared → Prop} {s : Shared} {L : Addr} {h₀ : Heap} {m : Str → Option Value} {I news : List (Addr × Obj)} {Q : Value → Shared → Prop} {hp : Heap} {env : Env}

/-- a for over a range, whatever the target's place -/
theorem for_riG {R : Result → Shared → Prop} {x : Str} {px : Pos} {body : List Stmt} {I : Addr} {a c : Int} {n : Nat}
    (hh : A.handled = none) (F : Fr h₀ L s.heap m) (N : News h₀ L s.heap ((I, riObj a n c) :: news)) (off : Off I news)
    (J : Nat → (Str → Option Value) → List (Addr × Obj) → Prop) (h0 : J 0 m news)
    (step : ∀ i t m₁ news₁ s₁ oI, i < n → J i m₁ news₁ → Same s s₁ → Fr h₀ L s₁.heap m₁ → News h₀ L s₁.heap ((I, oI) :: news₁) → Off I news₁ →
      wpAny (model PG w) A (assign (.Name x px) env (.int (a + i * c) t)) (fun _ s₂ => wpAny (model PG w) A (execs body env) (fun f s₃ => f = .next ∧ ∃ m₂ news₂, Same s₁ s₃ ∧ Fr h₀ L s₃.heap m₂ ∧ News h₀ L s₃.heap ((I, oI) :: news₂) ∧ Off I news₂ ∧ J (i + 1) m₂ news₂) (fun _ _ => False) s₂) (fun _ _ => False) s₁)
    (hR : ∀ s' m' news', Same s s' → Fr h₀ L s'.heap m' → News h₀ L s'.heap news' → J n m' news' → R (.ok .next) s') :
    codeAny (model PG w) A (.forLoop (.Name x px) (.ref I) body [] env) R s := by
  have hI := N (I, riObj a n c) (.head _)
  have W := Walks.range (prog := PG) (w := w) hh I a c n
  refine codeAny_forLoop (fun k s' => ∃ i m' news', k = n + 1 - i ∧ i ≤ n ∧ Same s s' ∧ Fr h₀ L s'.heap m' ∧ News h₀ L s'.heap ((I, riObj (a + (i : Nat) * c) ((n : Int) - (i : Nat)) c) :: news') ∧ Off I news' ∧ J i m' news') ?_ (n + 1)
    ⟨0, m, news, rfl, Nat.zero_le _, Same.rfl', F, by simpa using N, off, h0⟩
  rintro k s' ⟨i, m', news', rfl, hi, sm, F', N', off', hJ⟩
  have hst : IsRangeIter s'.heap I (a + (i : Nat) * c) ((n : Int) - (i : Nat)) c := (N' _ (.head _)).1
  have N₀ : News h₀ L s'.heap news' := fun p hp => N' p (.tail _ hp)
  by_cases hlt : i < n
  · refine W.item i s' _ _ hlt hst fun v h' tk hv hst' hk => ?_
    obtain ⟨t, rfl⟩ := hv
    have F₁ := fr_but F' hk (Ne.symm hI.2.1) hI.2.2
    have N₁ : News h₀ L h' ((I, riObj (a + ((i + 1 : Nat) : Int) * c) ((n : Int) - ((i + 1 : Nat) : Int)) c) :: news') := fun p hp => by
      rcases List.mem_cons.mp hp with rfl | hp
      · exact ⟨hst', hI.2⟩
      · exact news_but N₀ hk off' p hp
    refine wpAny_mono (step i t m' news' ⟨h', s'.gens, s'.drawn, tk, s'.os⟩ _ hlt hJ ⟨sm.gens, sm.os⟩ F₁ N₁ off') (fun _ s₂ h₂ => ?_) fun _ _ x => x.elim
    refine wpAny_mono h₂ ?_ fun _ _ x => x.elim
    rintro f s₃ ⟨rfl, m₂, news₂, sm₃, F₃, N₃, off₃, hJ₃⟩
    exact ⟨n + 1 - (i + 1), by omega, i + 1, m₂, news₂, rfl, hlt, sm.nx sm₃, F₃, N₃, off₃, hJ₃⟩
  · have : i = n := by omega
    subst this
    refine W.done s' _ _ hst fun h' tk hk => ?_
    exact wpAny_execs_nil (hR ⟨h', s'.gens, s'.drawn, tk, s'.os⟩ m' news' ⟨sm.gens, sm.os⟩ (fr_but F' hk (Ne.symm hI.2.1) hI.2.2) (news_but N₀ hk off') hJ)

theorem nand {l l' : List (Addr × Obj)} {p : Addr × Obj} (N : News h₀ L hp l) (hm : p ∈ l) (R : News h₀ L hp l') : News h₀ L hp (p :: l') := fun q hq => by
  rcases List.mem_cons.mp hq with rfl | hq
  · exact N _ hm
  · exact R q hq
theorem isl {hp : Heap} {l : Addr} {vs : List Value} {n : Nat} (N : News h₀ L hp news) (hl : (l, lo vs n) ∈ news) : hp.IsList l vs.toArray := ⟨_, (N _ hl).1, rfl, n, rfl⟩
theorem nsub {l l' : List (Addr × Obj)} (N : News h₀ L hp l) (h : ∀ p ∈ l', p ∈ l) : News h₀ L hp l' := fun q hq => N q (h q hq)
theorem range_1 {i : Nat} (h : i < 40) : Builtin.Range.small 1 (1 + (i : Nat) * 1) 1 = true ∧ Builtin.Range.rangeSize 1 (1 + (i : Nat) * 1) 1 = ((i : Nat) : Int) := by
  have all : ∀ k : Fin 40, Builtin.Range.small 1 (1 + (k.val : Int) * 1) 1 = true ∧ Builtin.Range.rangeSize 1 (1 + (k.val : Int) * 1) 1 = ((k.val : Nat) : Int) := by decide +kernel
  exact all ⟨i, h⟩
theorem mulS {hp : Heap} {l : Addr} {v : Value} {n : Nat} {t : Tok} (F : Fr h₀ L hp m) (N : News h₀ L hp news) (hl : (l, lo [v] n) ∈ news)
    (h : ∀ D s', Same s s' → Fr h₀ L s'.heap m → News h₀ L s'.heap ((D, lo (List.replicate 32 v) 0) :: news) → (∀ p ∈ news, p.1 < D) → Q (.ref D) s') (he : s.heap = hp := by rfl) :
    wpAny (model PG w) A (binaryOp .Mult (.ref l) (.int 32 t)) Q E s := by
  subst he
  refine mul_list F N (N _ hl).1 (by decide) (by decide) (by show 1 * 32 ≤ _; decide) fun h' F' N' => h _ ⟨h', s.gens, s.drawn, s.toks, s.os⟩ ⟨rfl, rfl⟩ F' ?_ fun p hp => Heap.lt_size (N p hp).1
  have e : List.foldl (fun x1 x2 => x1 ++ x2) #[] (List.replicate (if [v].toArray.isEmpty = true then 0 else (32 : Int).toNat) [v].toArray) = (List.replicate 32 v).toArray := by
    have : (if [v].toArray.isEmpty = true then 0 else (32 : Int).toNat) = 32 := by rw [if_neg (by simp)]; rfl
    rw [this]
    simp [List.replicate]
  rw [e] at N'
  exact N'

theorem least_call {hp₀ : Heap} (C : Cx d u w A L h₀) (F : Fr h₀ L hp₀ m) (N : News h₀ L hp₀ news) (hd : d < 600) (hu : u < 1800) {l1 : Addr} {vs1 : List Value} {n1 : Nat} {ns : List Int}
    (h1 : (l1, lo vs1 n1) ∈ news) (i1 : IntsAre vs1 ns) (hz : ns.length = 5)
    (h : ∀ t s', Same s s' → Fr h₀ L s'.heap m → News h₀ L s'.heap news → Q (.int (leastOf ns) t) s') (he : s.heap = hp₀ := by rfl) :
    wpAny (model PG w) A (call (.ref 146) [.ref l1]) Q E s := by
  subst he
  refine call_defC C F N rfl rfl (by omega) rfl (fun v news' => news' = news ∧ ∃ t, v = .int (leastOf ns) t) ?_ ?_ rfl (by decide)
  · intro g L' A' s₁ cells C' F₁ N₁ Y sm l lc
    obtain ⟨oS, oL, oZ, rfl, hoS, hoL, hoZ⟩ := CellsAre.three (cm := _) (n₁ := S "some") (c₁ := L' + 1 + 1 + 1) (n₂ := S "least") (c₂ := L' + 1 + 1) (n₃ := S "sizes") (c₃ := L' + 1) Y
    have hoS : IsC none oS := hoS
    have hoL : IsC none oL := hoL
    have hoZ : IsC (some (.ref l1)) oZ := hoZ
    have ne1 : (L' + 1 + 1 + 1 : Addr) ≠ L' + 1 := Nat.ne_of_gt (Nat.lt_succ_of_lt (Nat.lt_succ_self _))
    have ne2 : (L' + 1 + 1 + 1 : Addr) ≠ L' + 1 + 1 := Nat.ne_of_gt (Nat.lt_succ_self _)
    have ne3 : (L' + 1 + 1 : Addr) ≠ L' + 1 := Nat.ne_of_gt (Nat.lt_succ_self _)
    have on1 : Off (L' + 1) news := Off.lt fun p hp => Nat.lt_succ_of_lt (l p hp)
    have on2 : Off (L' + 1 + 1) news := Off.lt fun p hp => Nat.lt_succ_of_lt (Nat.lt_succ_of_lt (l p hp))
    have on3 : Off (L' + 1 + 1 + 1) news := Off.lt fun p hp => Nat.lt_succ_of_lt (Nat.lt_succ_of_lt (Nat.lt_succ_of_lt (l p hp)))
    -- least = [0] * 32
    refine wpAny_execs_cons (wpAny_Assign_Name (wpAny_BinOp (List_ (spliced_more (wpAny_Constant_int (spliced_none (newListS F₁ N₁ (Nat.le_of_ble_eq_true rfl) fun l0 s₂ sm₂ F₂ N₂ lt₂ => wpAny_Constant_int ?_)))))))
    refine mulS F₂ N₂ (.head _) fun D s₃ sm₃ F₃ N₃ lt₃ => ?_
    have oD : Off D ((L' + 1 + 1, oL) :: (L' + 1 + 1 + 1, oS) :: (L' + 1, oZ) :: news) := Off.lt fun p hp => lt₃ p (by
      simp only [List.mem_cons, List.mem_append, List.not_mem_nil, or_false] at hp ⊢
      rcases hp with e | e | e | e <;> simp [e])
    have N₄ : News g L' s₃.heap ((L' + 1 + 1, oL) :: (D, lo (List.replicate 32 (.int 0 s₁.toks)) 0) :: (L' + 1 + 1 + 1, oS) :: (L' + 1, oZ) :: news) := nsub N₃ fun p hp => by
      simp only [List.mem_cons, List.mem_append, List.not_mem_nil, or_false] at hp ⊢
      rcases hp with e | e | e | e | e <;> simp [e]
    refine stC F₃ N₄ (Off.cons (Ne.symm (oD _ (.head _))) (Off.cons ne2 (Off.cons (Ne.symm ne3) on2))) hoL fun oL' s₅ sm₅ F₅ N₅ hoL' => ?_
    have oD' : Off D ((L' + 1 + 1 + 1, oS) :: (L' + 1 + 1, oL') :: (L' + 1, oZ) :: news) := Off.cons (oD _ (.tail _ (.head _))) (Off.cons (oD _ (.head _)) fun p hp => oD p (.tail _ (.tail _ hp)))
    -- the loop
    refine wpAny_execs_cons (wpAny_For (callT C' F₅ rfl boot_range (spliced_more (wpAny_Constant_int (spliced_more (wpAny_Constant_int (spliced_none (rangeS2 F₅ N₅ fun r v₆ s₆ sm₆ F₆ N₆ lt₆ => ?_))))))))
    refine iterRangeS F₆ N₆ (.head _) (by rfl) fun I s₇ sm₇ F₇ N₇ lt₇ => ?_
    generalize hrest : (L' + 1 + 1, oL') :: (L' + 1, oZ) :: news = rest at *
    have mL : (L' + 1 + 1, oL') ∈ rest := hrest ▸ .head _
    have mZ : (L' + 1, oZ) ∈ rest := hrest ▸ .tail _ (.head _)
    have ml1 : (l1, lo vs1 n1) ∈ rest := hrest ▸ .tail _ (.tail _ h1)
    have oSr : Off (L' + 1 + 1 + 1) rest := hrest ▸ Off.cons (Ne.symm ne2) (Off.cons (Ne.symm ne1) on3)
    have oDr : Off D rest := fun p hp => oD' p (.tail _ hp)
    have DS : D ≠ L' + 1 + 1 + 1 := fun e => oD' _ (.head _) e.symm
    have len1 : vs1.length = 5 := (IntsAre.length i1).trans hz
    have N₈ : News g L' s₇.heap ((I, riObj 1 (31 : Nat) 1) :: (D, lo (List.replicate 32 (.int 0 s₁.toks)) 0) :: (L' + 1 + 1 + 1, oS) :: rest) := nsub N₇ fun p hp => by
      simp only [List.mem_cons] at hp ⊢
      rcases hp with rfl | rfl | rfl | hp
      · exact .inl rfl
      · exact .inr (.inr (.inr (.inl rfl)))
      · exact .inr (.inr (.inr (.inr (.inl rfl))))
      · rw [← hrest] at hp
        simp only [List.mem_cons] at hp
        rcases hp with e | e | e <;> simp [e]
    refine for_riG (n := 31) C'.hand F₇ N₈ (Off.lt fun p hp => lt₇ p (by
      simp only [List.mem_cons] at hp ⊢
      rcases hp with rfl | rfl | hp
      · exact .inr (.inr (.inl rfl))
      · exact .inr (.inr (.inr (.inl rfl)))
      · rw [← hrest] at hp
        simp only [List.mem_cons] at hp
        rcases hp with e | e | e <;> simp [e]))
      (fun i m' news' => ∃ oS v₀ Lv kk, news' = (D, lo Lv kk) :: (L' + 1 + 1 + 1, oS) :: rest ∧ IsC v₀ oS ∧ IntsAre Lv (tabL ns i)) ⟨oS, none, _, 0, rfl, hoS, IntsAre.repl 0 _ 32⟩ ?_ ?_
    · rintro i t m₁ news₁ s₈ oI hi ⟨oS₁, v₀, Lv, kk, rfl, hoS₁, hLv⟩ sm₈ F₈ N₈ off₈
      have lenL : Lv.length = 32 := (IntsAre.length hLv).trans (tabL_len ns i)
      have IS : L' + 1 + 1 + 1 ≠ I := off₈ _ (.tail _ (.head _))
      have N₉ : News g L' s₈.heap ((L' + 1 + 1 + 1, oS₁) :: (D, lo Lv kk) :: (I, oI) :: rest) := nsub N₈ fun p hp => by
        simp only [List.mem_cons] at hp ⊢
        rcases hp with e | e | e | e <;> simp [e]
      refine wpAny_assign_Name (stC F₈ N₉ (Off.cons DS (Off.cons (Ne.symm IS) oSr)) hoS₁ fun oS₂ s₁₀ sm₁₀ F₁₀ N₁₀ hoS₂ => ?_)
      generalize hxi : (1 + (i : Nat) * 1 : Int) = x at *
      -- ways
      refine wpAny_execs_cons (compR1A (h₀ := g) (L := L') (subB x) (fun k y => ∃ t, y = .int (intAt (tabL ns i) k + intAt (tabL ns i) (x - k)) t) C'.hand rfl (by with_unfolding_all rfl) rfl rfl rfl (by decide) rfl (by decide) rfl ?_)
      refine callT C' F₁₀ rfl boot_range (spliced_more (wpAny_Constant_int (spliced_more (ldC N₁₀ (.head _) hoS₂ (spliced_none (rangeS2 F₁₀ N₁₀ fun r₁ v₁₁ s₁₁ sm₁₁ F₁₁ N₁₁ lt₁₁ => ?_))))))
      have rn := range_1 (i := i) (by omega)
      rw [hxi] at rn
      refine ⟨r₁, 1, _, 1, _, _, _, i, _, _, rfl, F₁₁, N₁₁, .head _, rn.1, rn.2, by omega, ?_, ?_, ?_⟩
      · intro E s₄ m₂ E' j t hns hx hj hN hB
        have qS := hN _ (.tail _ (.head _))
        exact wpAny_isTrue_Compare1 (wpAny_BinOp (qloc hns hx (qcell qS rfl hoS₂ (and_int (qloc hns hx (eq_int (wpAny_truthy_bool ⟨rfl, keeps_tk keeps_refl⟩)))))))
      · intro E s₄ m₂ E' j t hns hx hj hp hN hB
        have qS := hN _ (.tail _ (.head _))
        have qD := hN _ (.tail _ (.tail _ (.head _)))
        have qL := hN _ (.tail _ (.tail _ (.tail _ (.tail _ mL))))
        obtain ⟨t1, e1⟩ := IntsAre.at' hLv (i := (1 + (j : Nat) * 1 : Int).toNat) (by rw [tabL_len]; omega)
        obtain ⟨t2, e2⟩ := IntsAre.at' hLv (i := (x - (1 + (j : Nat) * 1) : Int).toNat) (by rw [tabL_len]; omega)
        refine wpAny_BinOp (Subscript_ (qcell qL rfl hoL' (qloc hns hx (tail_list qD (by omega) e1 (by omega) ?_))))
        refine Subscript_ (qcell qL rfl hoL' (wpAny_BinOp (qcell qS rfl hoS₂ (qloc hns hx (sub_int (tail_list qD (by omega) e2 (by omega) ?_))))))
        exact add_int ⟨⟨_, rfl⟩, keeps_tk (keeps_tk keeps_refl)⟩
      · intro W ys k s₁₂ sm₁₂ F₁₂ N₁₂ o₁₂ hp₁₂
        have hways : IntsAre ys (waysOf (tabL ns i) x i) := ints_of hp₁₂
        have mD : (D, lo Lv kk) ∈ (r₁, rgObj 1 x 1 s₁₀.toks t v₁₁) :: (L' + 1 + 1 + 1, oS₂) :: (D, lo Lv kk) :: (I, oI) :: rest := .tail _ (.tail _ (.head _))
        -- whole
        refine wpAny_execs_cons (wpAny_Assign_Name (callB C' F₁₂ rfl boot_sum (spliced_more ?_)))
        refine compR1 (h₀ := g) (L := L') (bitB x) (fun k y => ∃ t, y = .int (intAt ns k) t) C'.hand rfl (by decide) rfl (by decide) rfl ?_
        refine callT C' F₁₂ rfl boot_range (spliced_more (wpAny_Constant_int (spliced_none (rangeS1 F₁₂ N₁₂ fun r₂ t₂ v₂ s₁₃ sm₁₃ F₁₃ N₁₃ lt₁₃ => ?_))))
        refine ⟨r₂, 0, _, 1, _, _, _, 5, _, _, rfl, F₁₃, N₁₃, .head _, by rfl, by rfl, by decide, ?_, ?_, ?_⟩
        · intro E s₄ m₂ E' j t hns hx hj hN hB
          have qS := hN _ (.tail _ (.tail _ (.tail _ (.head _))))
          refine wpAny_isTrue_Compare1 (wpAny_BinOp (wpAny_BinOp (qcell qS rfl hoS₂ (wpAny_BinOp (wpAny_Constant_int (qloc hns hx (pow_int_small (by omega) (by omega) (by decide) (fdivS (kbt_pos _) ?_ (wpAny_Constant_int (mod_int (by decide) (wpAny_Constant_int (eq_int (wpAny_truthy_bool ?_)))))))))))))
          · have : j = 0 ∨ j = 1 ∨ j = 2 ∨ j = 3 ∨ j = 4 := by omega
            rcases this with rfl | rfl | rfl | rfl | rfl <;> decide
          · exact ⟨rfl, keeps_tk keeps_refl⟩
        · intro E s₄ m₂ E' j t hns hx hj hp hN hB
          have qZ := hN _ (.tail _ (.tail _ (.tail _ (.tail _ (.tail _ (.tail _ mZ))))))
          have q1 := hN _ (.tail _ (.tail _ (.tail _ (.tail _ (.tail _ (.tail _ ml1))))))
          obtain ⟨t1, e1⟩ := IntsAre.at' i1 (i := (0 + (j : Nat) * 1 : Int).toNat) (by omega)
          exact Subscript_ (qcell qZ rfl hoZ (qloc hns hx (tail_list q1 (by omega) e1 (by omega) ⟨⟨_, rfl⟩, keeps_refl⟩)))
        intro Z zs k' s₁₄ sm₁₄ F₁₄ N₁₄ o₁₄ hp₁₄
        have hzs := ints_of hp₁₄
        refine spliced_none (LSm.sum_ints F₁₄ N₁₄ C'.hand (isl N₁₄ (.head _)) hzs fun h' tk t' F₁₅ N₁₅ => ?_)
        have hw : ((((List.range 5).map fun j => (0 : Int) + (j : Nat) * 1).filter (bitB x)).map (intAt ns)).sum = wholeOf ns x := rfl
        rw [hw]
        refine stL (s := ⟨h', _, _, _, _⟩) F₁₅ N₁₅ fun s₁₆ sm₁₆ F₁₆ N₁₆ => ?_
        -- least[some] = ..
        have mW : ∀ {X}, (W, lo ys k) ∈ (Z, lo zs k') :: (r₂, X) :: (W, lo ys k) :: (r₁, rgObj 1 x 1 s₁₀.toks t v₁₁) :: (L' + 1 + 1 + 1, oS₂) :: (D, lo Lv kk) :: (I, oI) :: rest := .tail _ (.tail _ (.head _))
        have fin : ∀ {hq : Heap} {X} {l5 : Addr}, News g L' hq ((l5, lo [] 0) :: (Z, lo zs k') :: (r₂, X) :: (W, lo ys k) :: (r₁, rgObj 1 x 1 s₁₀.toks t v₁₁) :: (L' + 1 + 1 + 1, oS₂) :: (D, lo Lv kk) :: (I, oI) :: rest) → News g L' hq ((D, lo Lv kk) :: (L' + 1 + 1 + 1, oS₂) :: (I, oI) :: rest) := fun N => nsub N fun p hp => by
          simp only [List.mem_cons] at hp ⊢
          rcases hp with e | e | e | e <;> simp [e]
        refine wpAny_execs_cons (wpAny_Assign_Subscript ?_)
        refine wpAny_mono (Q := fun v s' => ∃ mm t, v = .int (if waysOf (tabL ns i) x i = [] then 0 else wholeOf ns x + minL (waysOf (tabL ns i) x i)) t ∧ Same s₁₆ s' ∧ Fr g L' s'.heap mm ∧ News g L' s'.heap ((D, lo Lv kk) :: (L' + 1 + 1 + 1, oS₂) :: (I, oI) :: rest)) ?_ ?_ fun _ _ x => x
        · refine wpAny_IfExp (wpAny_isTrue_Compare1 (ldL F₁₆ rfl (List_ (spliced_none (newListS F₁₆ N₁₆ (by simp) fun l5 s₁₇ sm₁₇ F₁₇ N₁₇ lt₁₇ => ?_)))))
          refine ke_ne_ints (isl N₁₇ (.tail _ mW)) (isl N₁₇ (.head _)) hways .nil (by have := C'.units; show A'.units + 64 < 9900; omega) (wpAny_truthy_bool ?_)
          by_cases h0 : waysOf (tabL ns i) x i = []
          · rw [decide_eq_true h0, if_neg (by decide), if_pos h0]
            exact wpAny_Constant_int ⟨_, _, rfl, ⟨sm₁₇.gens, sm₁₇.os⟩, F₁₇, fin N₁₇⟩
          · rw [decide_eq_false h0, if_pos (by decide), if_neg h0]
            refine wpAny_BinOp (ldL F₁₇ rfl (callB C' F₁₇ rfl boot_min (spliced_more (ldL F₁₇ rfl (spliced_none (kso_min F₁₇ N₁₇ (isl N₁₇ (.tail _ mW)) hways (List.length_pos_iff.mpr h0) C'.hand fun h' M tM tkM F₁₈ N₁₈ hM1 hM2 => ?_))))))
            rw [← minL_eq hM1 hM2]
            exact add_int ⟨_, _, rfl, ⟨sm₁₇.gens, sm₁₇.os⟩, F₁₈, fin N₁₈⟩
        · rintro v s₂₀ ⟨mm, t, rfl, sm₂₀, F₂₀, N₂₀⟩
          refine ldC N₂₀ (.tail _ (.tail _ (.tail _ mL))) hoL' (ldC N₂₀ (.tail _ (.head _)) hoS₂ (setS F₂₀ N₂₀ (Off.cons (Ne.symm DS) (Off.cons (Ne.symm (off₈ _ (.head _))) oDr)) (by omega) (by omega) (by omega) fun s₂₁ sm₂₁ F₂₁ N₂₁ => ?_))
          refine wpAny_execs_nil ⟨rfl, _, (D, lo (Lv.set x.toNat (Value.int (if waysOf (tabL ns i) x i = [] then 0 else wholeOf ns x + minL (waysOf (tabL ns i) x i)) t)) kk) :: (L' + 1 + 1 + 1, oS₂) :: rest, ?_, F₂₁, ?_, ?_, oS₂, _, _, kk, rfl, hoS₂, ?_⟩
          · exact ((((((Same.rfl'.nx sm₁₀).nx sm₁₁).nx sm₁₂).nx sm₁₃).nx sm₁₄).nx sm₁₆ |>.nx sm₂₀).nx sm₂₁
          · exact nsub N₂₁ fun p hp => by
              simp only [List.mem_cons] at hp ⊢
              rcases hp with e | e | e | e <;> simp [e]
          · exact Off.cons (off₈ _ (.head _)) (Off.cons IS fun p hp => off₈ p (.tail _ (.tail _ hp)))
          · have hx' : x.toNat = i + 1 := by omega
            rw [hx']
            show IntsAre _ (stepL ns (tabL ns i) i)
            unfold stepL
            rw [hxi]
            exact IntsAre.set' hLv _
    · rintro s₈ m' news' sm₈ F₈ N₈ ⟨oS₁, v₀, Lv, kk, rfl, hoS₁, hLv⟩
      have lenL : Lv.length = 32 := (IntsAre.length hLv).trans (tabL_len ns 31)
      obtain ⟨t31, e31⟩ := IntsAre.at' hLv (i := (31 : Int).toNat) (by rw [tabL_len]; decide)
      refine wpAny_execs_cons (wpAny_Return_some (Subscript_ (ldC N₈ (.tail _ (.tail _ mL)) hoL' (wpAny_Constant_int (tail_list (N₈ _ (.head _)).1 (by decide) e31 (by omega) ?_)))))
      exact ⟨_, news, (((((Same.rfl'.nx sm₂).nx sm₃).nx sm₅).nx sm₆ |>.nx sm₇).nx sm₈).via rfl rfl, F₈, nsub N₈ fun p hp => .tail _ (.tail _ (hrest ▸ .tail _ (.tail _ hp))), rfl, t31, rfl⟩
  · rintro v s' news' sm F' N' ⟨rfl, t, rfl⟩
    exact h t s' sm F' N'
end
end Mine
end

-- Unord
section
open PySem PySem.W PyProof.Rows PySem.Calls
set_option maxRecDepth 100000
set_option maxHeartbeats 2000000
namespace Mine
open LCg TI

theorem strs_erase {k : Str} : ∀ {vs : List Value} {xs : List Str}, StrsAre vs xs → k ∈ xs →
    ∃ j, ∃ hj : j < vs.length, isStrOf k vs[j] = true ∧ (∀ i (hi : i < vs.length), i < j → isStrOf k vs[i] = false) ∧ StrsAre (vs.eraseIdx j) (xs.erase k)
  | _, _, .nil, h => nomatch h
  | _, _, .cons (vs := vs) (ys := xs) x t r, h => by
    by_cases e : x = k
    · subst e
      refine ⟨0, by simp, by simp [isStrOf], fun i _ hi => absurd hi (Nat.not_lt_zero _), ?_⟩
      simpa using r
    · have hk : k ∈ xs := by
        rcases List.mem_cons.mp h with q | q
        · exact absurd q.symm e
        · exact q
      obtain ⟨j, hj, h1, h2, h3⟩ := strs_erase r hk
      refine ⟨j + 1, by simpa using hj, by simpa using h1, fun i hi hlt => ?_, ?_⟩
      · cases i with
        | zero => simpa [isStrOf] using e
        | succ i => simpa using h2 i (by simpa using hi) (by omega)
      · rw [List.eraseIdx_cons_succ, List.erase_cons_tail (by simpa using e)]
        exact .cons x t h3
theorem strs_snoc {vs : List Value} {y : Value} {xs : List Str} (h : StrsAre (vs ++ [y]) xs) : ∃ xs₀ x t, xs = xs₀ ++ [x] ∧ y = .str x t ∧ StrsAre vs xs₀ := by
  induction vs generalizing xs with
  | nil =>
    cases h with
    | cons x t r => cases r; exact ⟨[], x, t, rfl, rfl, .nil⟩
  | cons v vs ih =>
    cases h with
    | cons x t r =>
      obtain ⟨xs₀, x', t', rfl, rfl, r'⟩ := ih r
      exact ⟨x :: xs₀, x', t', rfl, rfl, .cons x t r'⟩
theorem strs_none {k : Str} : ∀ {vs : List Value} {xs : List Str}, StrsAre vs xs → k ∉ xs → ∀ i (hi : i < vs.length), isStrOf k vs[i] = false
  | _, _, .nil, _, _, hi => absurd hi (Nat.not_lt_zero _)
  | _, _, .cons x t r, h, i, hi => by
    cases i with
    | zero =>
      have : x ≠ k := fun e => h (e ▸ .head _)
      simpa [isStrOf] using this
    | succ i => simpa using strs_none r (fun q => h (.tail _ q)) i (by simpa using hi)

noncomputable def udStep (p : List Str × List Str) (x : Str) : List Str × List Str := if x ∈ p.2 then (p.1, p.2.erase x) else (p.1 ++ [x], p.2)
noncomputable def udGo (xs : List Str) (p : List Str × List Str) : List Str × List Str := xs.reverse.foldl udStep p
noncomputable def udOf (xs ys : List Str) : List Str × List Str := udGo xs ([], ys)
theorem udGo_snoc (xs : List Str) (x : Str) (p : List Str × List Str) : udGo (xs ++ [x]) p = udGo xs (udStep p x) := by
  unfold udGo; rw [List.reverse_append]; rfl

section
variable {d u : Nat} {w : World} {A : Around} {E : Value → Shared → Prop} {s : Shared} {L : Addr} {h₀ : Heap} {m : Str → Option Value} {I news : List (Addr × Obj)} {Q : Value → Shared → Prop} {hp : Heap} {env : Env}

theorem removeS {D : Addr} {vs : List Value} {xs : List Str} {n : Nat} {k : Str} {t : Tok} (F : Fr h₀ L hp m) (N : News h₀ L hp ((D, lo vs n) :: I)) (hI : Off D I) (hx : StrsAre vs xs) (hk : k ∈ xs) (hz : xs.length ≤ 1000)
    (h : ∀ vs' s', Same s s' → Fr h₀ L s'.heap m → News h₀ L s'.heap ((D, lo vs' (n + 1)) :: I) → StrsAre vs' (xs.erase k) → Q .none s') (he : s.heap = hp := by rfl) :
    wpAny (model PG w) A (call (.builtin "list.remove") [.ref D, .str k t]) Q E s := by
  subst he
  obtain ⟨j, hj, h1, h2, h3⟩ := strs_erase hx hk
  have z := N (D, lo vs n) (.head _)
  have e : Obj.mapSeq (·.eraseIdxIfInBounds j) (lo vs n) = lo (vs.eraseIdx j) (n + 1) := by
    have q : (vs.eraseIdx j).length ≠ vs.length := by rw [List.length_eraseIdx, if_pos hj]; omega
    simp [lo, Obj.mapSeq, q]
  obtain ⟨F', N'⟩ := news_upd (pre := []) F N (fun _ h => nomatch h) hI e rfl
  refine call_meets PySem.F.slot_list_remove ⟨_, z.1, rfl⟩ PySem.F.entry_list_remove (PySem.F.args_list_remove_2 _ _)
    (MeetsSeq.list_remove D vs.toArray n (.str k t) (isStrOf k) (fun y hy => eq_isStrOf k t hx y (by simpa using hy)) j (by simpa using hj) (by simpa using h1) (fun i hi hlt => by simpa using h2 i (by simpa using hi) hlt) (by rw [sizeLine_eq]; have := StrsAre.len hx; simp; omega))
    ⟨z.1, h _ _ ⟨rfl, rfl⟩ F' N' h3⟩
theorem removeN {D : Addr} {vs : List Value} {xs : List Str} {n : Nat} {k : Str} {t : Tok} (hA : A.handled = none) (hl : hp.get? D = some (lo vs n)) (hx : StrsAre vs xs) (hk : k ∉ xs)
    (h : ∀ h' tk e, Heap.NewExc s.heap h' e "ValueError" → E (.ref e) { s with heap := h', toks := tk }) (he : s.heap = hp := by rfl) :
    wpAny (model PG w) A (call (.builtin "list.remove") [.ref D, .str k t]) Q E s := by
  subst he
  refine call_meets PySem.F.slot_list_remove ⟨_, hl, rfl⟩ PySem.F.entry_list_remove (PySem.F.args_list_remove_2 _ _)
    (MeetsSeq.list_remove_none D vs.toArray n (.str k t) (isStrOf k) (fun y hy => eq_isStrOf k t hx y (by simpa using hy)) (fun i hi => by simpa using strs_none hx hk i (by simpa using hi)))
    ⟨hl, hA, fun h' tk e hx => h h' tk e hx⟩
structure Cx0 (w : World) (A : Around) (L : Addr) (h₀ : Heap) (env : Env) : Prop where
  fr : A.frames = some [env]
  loc : env.frame = some L
  kind : env.scope.kind = .function
  X : (KK w).In h₀
  T : ∃ mean mg mb, Top hdV (looseW hdV []) mean mg mb h₀
  depth : A.depth < 400
  hand : A.handled = none

/-- a call of a def that catches what it raises: the caller's frame stands in the ledger -/
theorem call_defI {name qual : Str} {params : Arguments} {body : List Stmt} {scope : Scope} {dV kV doc pm cdv ct oc : Value} {an od : Option Addr} {osl : Array (Option Value)} {f : Addr} {args : List Value} {binds : List (Str × Value)}
    (C : Cx0 w A L h₀ env) (F : Fr h₀ L s.heap m) (N : News h₀ L s.heap news)
    (ho : (KK w).lookup f = some ⟨oc, od, .func (fnOf name qual params body scope dV kV doc pm an cdv ct), osl⟩) (hcd : codeIn (KK w) cdv qual = true)
    (hbind : bindArgs (fnOf name qual params body scope dV kV doc pm an cdv ct) ⟨args, []⟩ = pure binds)
    (hloc : ∀ y ∈ binds, scope.names.lookup y.1 = some .local)
    (Post : Value → List (Addr × Obj) → Prop)
    (hb : ∀ oL L' s₁, Frs [env] [(L, oL)] → Fr h₀ L' s₁.heap (fun y => binds.reverse.lookup y) → News h₀ L' s₁.heap (news ++ [(L, oL)]) → Same s s₁ → (∀ p ∈ news, p.1 < L') → L < L' → (∀ p ∈ news, p.1 ≠ L) →
      wpAny (model PG w) (A.deeper (envOf qual scope L' f cdv)) (execs body (envOf qual scope L' f cdv)) (fun fl s' => ∃ m' led sl, Same s₁ s' ∧ Fr h₀ L' s'.heap m' ∧ News h₀ L' s'.heap (led ++ [(L, { oL with slots := sl })]) ∧ (∀ p ∈ led, p.1 ≠ L) ∧ Post (retOf fl) led) (fun _ _ => False) s₁)
    (h : ∀ v s' led, Same s s' → Fr h₀ L s'.heap m → News h₀ L s'.heap led → Post v led → Q v s')
    (hco : scope.isCoroutine = false := by rfl) (hgen : scope.isGenerator = false := by rfl) (hk : scope.kind = .function := by rfl)
    (hcell : ∀ x ∈ scope.names, x.2 ≠ .cell := by decide) :
    wpAny (model PG w) A (call (.ref f) args) Q E s := by
  obtain ⟨mean, mg, mb, T⟩ := C.T
  obtain ⟨oL, es, ep, hL, hLd, hLk, hLf⟩ := F.ns
  have hLt := Heap.lt_size hL
  refine wpAny_call (codeAny_call_def (fd := fnOf name qual params body scope dV kV doc pm an cdv ct) (body := body) (binds := binds) (Nat.lt_trans C.depth (by decide)) ((C.X.keeps F.keep) _ _ ho) rfl (T.nolimit.keeps F.keep) (codeRec_of (C.X.keeps F.keep) hcd) rfl (BindsTo.of_eq hbind) hcell hloc (fun h₁ hns hk₁ => ?_) hco hgen hk)
  refine wpAny_mono (hb oL s.heap.objs.size ⟨h₁, s.gens, s.drawn, s.toks + binds.length, s.os⟩ ⟨by rw [C.kind]; decide, C.loc, ⟨es, ep, hLd⟩, trivial⟩ ⟨hns, fun b o e => hk₁ b o (F.keep b o e), Nat.le_trans F.above (Nat.le_of_lt hLt)⟩ (fun p hp => ?_) ⟨rfl, rfl⟩ (fun p hp => Heap.lt_size (N p hp).1) hLt (fun p hp => (N p hp).2.1)) ?_ fun _ _ x => x.elim
  · rcases List.mem_append.mp hp with hp | hp
    · obtain ⟨h1, h2, h3⟩ := N p hp
      exact ⟨hk₁ _ _ h1, Nat.ne_of_lt (Heap.lt_size h1), h3⟩
    · rcases List.mem_cons.mp hp with rfl | hp
      · exact ⟨hk₁ _ _ hL, Nat.ne_of_lt hLt, Heap.get?_none_of_le F.above⟩
      · exact nomatch hp
  · rintro fl s' ⟨m', led, sl, sm, F', N', hne, hP⟩
    have hLs := (N' _ (List.mem_append_right _ (.head _))).1
    have := h (retOf fl) s' led ⟨sm.gens, sm.os⟩ ⟨⟨_, es, ep, hLs, hLd, hLk, hLf⟩, F'.keep, F.above⟩ (fun p hp => ⟨(N' p (List.mem_append_left _ hp)).1, hne p hp, (N' p (List.mem_append_left _ hp)).2.2⟩) hP
    cases fl <;> exact this

theorem allNe_of {L : Addr} : ∀ {l : List (Addr × Obj)}, (∀ p ∈ l, p.1 ≠ L) → TLg.AllNe L l
  | [], _ => trivial
  | _ :: _, h => ⟨h _ (.head _), allNe_of fun p hp => h p (.tail _ hp)⟩
theorem appendS {D : Addr} {vs : List Value} {v : Value} {n : Nat} (F : Fr h₀ L hp m) (N : News h₀ L hp ((D, lo vs n) :: I)) (hI : Off D I) (hz : vs.length ≤ 1000000)
    (h : ∀ s', Same s s' → Fr h₀ L s'.heap m → News h₀ L s'.heap ((D, lo (vs ++ [v]) (n + 1)) :: I) → Q .none s') (he : s.heap = hp := by rfl) :
    wpAny (model PG w) A (call (.builtin "list.append") [.ref D, v]) Q E s := by
  subst he
  have z := N (D, lo vs n) (.head _)
  refine append_at (hsz := by rw [sizeLine_eq]; simp; omega) z.1 fun h' hs hD => ?_
  have e : ({ cls := .type "list", data := .seq (vs.toArray.push v) (n + 1) } : Obj) = lo (vs ++ [v]) (n + 1) := by simp [lo, W.listOf]
  refine h _ ⟨rfl, rfl⟩ (F.change hs z.2.1 z.2.2) fun p hp => ?_
  rcases List.mem_cons.mp hp with rfl | hp
  · exact ⟨hD.trans (congrArg some e), z.2⟩
  · exact ⟨(hs.2 _ (hI p hp)).trans (N p (.tail _ hp)).1, (N p (.tail _ hp)).2⟩

theorem newTupleR {vs : List Value} (hz : vs.length ≤ 1000000) (h : Q (.ref s.heap.objs.size) { s with heap := s.heap.push { cls := .type "tuple", data := .seq vs.toArray } }) : wpAny (model PG w) A (newTuple vs) Q E s :=
  wpAny_newObj_type h (by show vs.toArray.size ≤ sizeLine; rw [sizeLine_eq]; simp; omega)

/-- what the loop keeps, and what it ends with -/
inductive UJ (env : Env) (h₀ : Heap) (L L' : Addr) (oL : Obj) (s₁ : Shared) (I : List (Addr × Obj)) (De Da M : Addr) (xs ys : List Str) (n : Nat) (s' : Shared) : Prop
  | mk (xs' : List Str) (ev' : List Value) (ke : Nat) (ms : List Str) (mv : List Value) (km : Nat) (ac : List Str) (av' : List Value) (ka : Nat) (sl : Array (Option Value)) (m' : Str → Option Value) (y0 : n = xs'.length) (y1 : xs'.length ≤ 500) (y2 : ac.length ≤ 500) (y3 : ms.length + xs'.length ≤ 500)
    (hud : udGo xs' (ms, ac) = udOf xs ys) (sm : Same s₁ s') (F : Fr h₀ L' s'.heap m') (N : News h₀ L' s'.heap ((De, lo ev' ke) :: (Da, lo av' ka) :: (M, lo mv km) :: I ++ [(L, { oL with slots := sl })])) (Fs : Frs [env] [(L, { oL with slots := sl })])
    (t1 : StrsAre ev' xs') (t2 : StrsAre mv ms) (t3 : StrsAre av' ac) (e1 : m' (S "expected") = some (.ref De)) (e2 : m' (S "actual") = some (.ref Da)) (e3 : m' (S "missing") = some (.ref M)) : UJ env h₀ L L' oL s₁ I De Da M xs ys n s'
inductive UX (h₀ : Heap) (L L' : Addr) (oL : Obj) (s₁ : Shared) (I : List (Addr × Obj)) (Da M : Addr) (xs ys : List Str) (s' : Shared) : Prop
  | mk (mv : List Value) (km : Nat) (av' : List Value) (ka : Nat) (sl : Array (Option Value)) (m' : Str → Option Value) (sm : Same s₁ s') (F : Fr h₀ L' s'.heap m') (N : News h₀ L' s'.heap ((Da, lo av' ka) :: (M, lo mv km) :: I ++ [(L, { oL with slots := sl })]))
    (t1 : StrsAre mv (udOf xs ys).1) (t2 : StrsAre av' (udOf xs ys).2) (e1 : m' (S "actual") = some (.ref Da)) (e2 : m' (S "missing") = some (.ref M)) : UX h₀ L L' oL s₁ I Da M xs ys s'
theorem unord_call {hp₀ : Heap} (C : Cx0 w A L h₀ env) (F : Fr h₀ L hp₀ m) {De Da : Addr} {ev av : List Value} {ne na : Nat} {xs ys : List Str} (N : News h₀ L hp₀ ((De, lo ev ne) :: (Da, lo av na) :: I)) (hE : Off De I) (hA : Off Da I) (hEA : De ≠ Da)
    (s1 : StrsAre ev xs) (s2 : StrsAre av ys) (z1 : xs.length ≤ 500) (z2 : ys.length ≤ 500)
    (h : ∀ T M mv km av' ka s', Same s s' → Fr h₀ L s'.heap m → News h₀ L s'.heap ((T, { cls := .type "tuple", data := .seq #[.ref M, .ref Da] }) :: (M, lo mv km) :: (Da, lo av' ka) :: I) →
      StrsAre mv (udOf xs ys).1 → StrsAre av' (udOf xs ys).2 → Q (.ref T) s') (he : s.heap = hp₀ := by rfl) :
    wpAny (model PG w) A (call (.ref 112) [.ref De, .ref Da]) Q E s := by
  subst he
  obtain ⟨mean, mg, mb, T⟩ := C.T
  refine call_defI C F N rfl rfl rfl (locs rfl) (fun v led => ∃ T M mv km av' ka, v = .ref T ∧ led = ((T, { cls := .type "tuple", data := .seq #[.ref M, .ref Da] }) :: (M, lo mv km) :: (Da, lo av' ka) :: I) ∧ StrsAre mv (udOf xs ys).1 ∧ StrsAre av' (udOf xs ys).2) ?_ ?_
  · intro oL L' s₁ Fs F₁ N₁ sm l hLL hne
    -- missing = []
    refine wpAny_execs_cons (wpAny_Assign_Name (List_ (spliced_none (newListS F₁ N₁ (by simp) fun M s₂ sm₂ F₂ N₂ lt₂ => ?_))))
    refine stS F₂ N₂ fun s₃ sm₃ F₃ N₃ => ?_
    have oM : Off M ((De, lo ev ne) :: (Da, lo av na) :: I) := Off.lt fun p hp => lt₂ p (List.mem_append_left _ hp)
    have ML : M ≠ L := Nat.ne_of_gt (lt₂ (L, oL) (List.mem_append_right _ (.head _)))
    refine wpAny_execs_cons (while_to
      (UJ env h₀ L L' oL s₁ I De Da M xs ys) (UX h₀ L L' oL s₁ I Da M xs ys)
      xs.length ⟨xs, ev, ne, [], [], 0, ys, av, na, oL.slots, _, rfl, z1, z2, by simpa using z1, rfl, (Same.rfl'.nx sm₂).nx sm₃, F₃, nsub N₃ fun p hp => by
        simp only [List.mem_cons, List.mem_append, List.cons_append, List.not_mem_nil, or_false] at hp ⊢
        rcases hp with e | e | e | e | e <;> simp [e], Fs, s1, .nil, s2, rfl, rfl, rfl⟩ ?_ ?_)
    · rintro n s₄ ⟨xs', ev', ke, ms, mv, km, ac, av', ka, sl, m', rfl, y1, y2, y3, hud, sm₄, F₄, N₄, Fs₄, t1, t2, t3, e1, e2, e3⟩
      have lenE := StrsAre.len t1
      refine isTrue_plain (ld F₄ e1 (truthy_lo (N₄ _ (.head _)).1 (by omega) ?_))
      by_cases h0 : ev' = []
      · rw [decide_eq_false (by simpa using h0)]
        simp only [Bool.false_eq_true, if_false]
        subst h0
        have : xs' = [] := List.length_eq_zero_iff.mp (by rw [← lenE]; rfl)
        subst this
        have hud' : (ms, ac) = udOf xs ys := hud
        refine ⟨mv, km, av', ka, sl, m', ⟨sm₄.gens, sm₄.os⟩, F₄, nsub N₄ fun p hp => .tail _ hp, ?_, ?_, e2, e3⟩
        · rw [← hud']; exact t2
        · rw [← hud']; exact t3
      · rw [decide_eq_true h0]
        simp only [if_true]
        obtain ⟨vs, y, rfl⟩ : ∃ vs y, ev' = vs ++ [y] := ⟨ev'.dropLast, ev'.getLast h0, (List.dropLast_concat_getLast h0).symm⟩
        obtain ⟨xs₀, x, tx, rfl, rfl, t1'⟩ := strs_snoc t1
        have hlen : xs₀.length + 1 ≤ 500 := by simpa using y1
        have y3' : ms.length + xs₀.length + 1 ≤ 500 := by simp at y3; omega
        rw [udGo_snoc] at hud
        have offE : Off De ((Da, lo av' ka) :: (M, lo mv km) :: I ++ [(L, { oL with slots := sl })]) := Off.cons (Ne.symm hEA) (Off.cons (Ne.symm (oM _ (.head _))) fun p hp => (List.mem_append.mp hp).elim (hE p) fun hp => by
          rw [List.mem_singleton.mp hp]; exact Ne.symm (hne _ (.head _)))
        refine wpAny_execs_cons (wpAny_Assign_Name (MethodCall_ (ld F₄ e1 (lmeth (N₄ _ (.head _)).1 _root_.PySem.F.slot_list_pop _root_.PySem.F.type_list_pop (callWith_method0 (popS F₄ N₄ offE (by have := StrsAre.len t1'; omega) fun s₅ sm₅ F₅ N₅ => ?_))))))
        refine stS F₅ N₅ fun s₆ sm₆ F₆ N₆ => ?_
        have N₇ : News h₀ L' s₆.heap ((Da, lo av' ka) :: (De, lo vs (ke + 1)) :: (M, lo mv km) :: I ++ [(L, { oL with slots := sl })]) := nsub N₆ fun p hp => by
          simp only [List.mem_cons, List.mem_append, List.cons_append, List.not_mem_nil, or_false] at hp ⊢
          rcases hp with e | e | e | e | e <;> simp [e]
        have offA : Off Da ((De, lo vs (ke + 1)) :: (M, lo mv km) :: I ++ [(L, { oL with slots := sl })]) := Off.cons hEA (Off.cons (Ne.symm (oM _ (.tail _ (.head _)))) fun p hp => (List.mem_append.mp hp).elim (hA p) fun hp => by
          rw [List.mem_singleton.mp hp]; exact Ne.symm (hne (Da, lo av na) (.tail _ (.head _))))
        have offM : ∀ sl, Off M ((De, lo vs (ke + 1)) :: (Da, lo av' ka) :: I ++ [(L, { oL with slots := sl })]) := fun sl => Off.cons (oM _ (.head _)) (Off.cons (oM _ (.tail _ (.head _))) fun p hp => (List.mem_append.mp hp).elim (fun hp => oM p (.tail _ (.tail _ hp))) fun hp => by
          rw [List.mem_singleton.mp hp]; exact Ne.symm ML)
        refine wpAny_execs_cons (wpAny_Try_except ?_)
        refine wpAny_execs_cons (wpAny_Expr (MethodCall_ (ld F₆ e2 (lmeth (N₇ _ (.head _)).1 _root_.PySem.F.slot_list_remove _root_.PySem.F.type_list_remove (callWith_method1 (spliced_more (ld F₆ rfl (spliced_none ?_))))))))
        by_cases hk : x ∈ ac
        · refine removeS F₆ N₇ offA t3 hk (by omega) fun av₂ s₈ sm₈ F₈ N₈ t3' => ?_
          refine wpAny_execs_nil (wpAny_execs_nil (wpAny_execs_nil ⟨xs₀.length, by simp, xs₀, vs, ke + 1, ms, mv, km, ac.erase x, av₂, ka + 1, sl, _, rfl, by omega, ?_, by omega, ?_, ?_, F₈, ?_, Fs₄, t1', t2, t3', e1, e2, e3⟩))
          · exact Nat.le_trans (List.length_erase_le) y2
          · rw [← hud]; unfold udStep; rw [if_pos hk]
          · exact ((sm₄.nx sm₅).nx sm₆).nx sm₈
          · exact nsub N₈ fun p hp => by
              simp only [List.mem_cons, List.mem_append, List.cons_append, List.not_mem_nil, or_false] at hp ⊢
              rcases hp with e | e | e | e | e <;> simp [e]
        · refine removeN C.hand (N₇ _ (.head _)).1 t3 hk fun h' tk e hx => ?_
          have N₇' : News h₀ L' s₆.heap (((Da, lo av' ka) :: (De, lo vs (ke + 1)) :: (M, lo mv km) :: I) ++ [(L, { oL with slots := sl })]) := N₇
          refine TLg.noted_new1 C.fr Fs₄ hx F₆ N₇' (allNe_of fun p hp => ?_) (fun h₁ sl' Fs' H => ?_)
          · simp only [List.mem_cons] at hp
            rcases hp with rfl | rfl | rfl | hp
            · exact hne (Da, lo av na) (.tail _ (.head _))
            · exact hne (De, lo ev ne) (.head _)
            · exact ML
            · exact hne p (.tail _ (.tail _ hp))
          refine H.land fun h₂ H₂ => ?_
          refine TT.clause_hitTN (k := fun h₃ F₈ N₈ => ?_) H₂ T
          have N₉ : News h₀ L' h₃ ((M, lo mv km) :: (De, lo vs (ke + 1)) :: (Da, lo av' ka) :: I ++ [(L, { oL with slots := sl' })]) := nsub N₈ fun p hp => by
            simp only [List.mem_cons, List.mem_append, List.cons_append, List.not_mem_nil, or_false] at hp ⊢
            rcases hp with e | e | e | e | e <;> simp [e]
          have lenM := StrsAre.len t2
          refine wpAny_execs_cons (wpAny_Expr (MethodCall_ (ld F₈ e3 (lmeth (N₉ _ (.head _)).1 _root_.PySem.F.slot_list_append _root_.PySem.F.type_list_append (callWith_method1 (spliced_more (ld F₈ rfl (spliced_none ?_))))))))
          refine appendS F₈ N₉ (offM _) (by omega) fun s₁₀ sm₁₀ F₁₀ N₁₀ => ?_
          refine wpAny_execs_nil (wpAny_execs_nil ⟨xs₀.length, by simp, xs₀, vs, ke + 1, ms ++ [x], mv ++ [.str x tx], km + 1, ac, av', ka, sl', _, rfl, by omega, y2, by simp; omega, ?_, ?_, F₁₀, ?_, Fs', t1', StrsAre.app t2 (.cons x tx .nil), t3, e1, e2, e3⟩)
          · rw [← hud]; unfold udStep; rw [if_neg hk]
          · exact ((sm₄.nx sm₅).nx sm₆).nx sm₁₀
          · exact nsub N₁₀ fun p hp => by
              simp only [List.mem_cons, List.mem_append, List.cons_append, List.not_mem_nil, or_false] at hp ⊢
              rcases hp with e | e | e | e | e <;> simp [e]
    · rintro s₄ ⟨mv, km, av', ka, sl, m', sm₄, F₄, N₄, t2, t3, e2, e3⟩
      refine wpAny_execs_cons (wpAny_Return_some (Tuple_ (spliced_more (ld F₄ e3 (spliced_more (ld F₄ e2 (spliced_none (newTupleR (Nat.le_of_ble_eq_true rfl) ?_))))))))
      have N₅ := N₄.push F₄ { cls := .type "tuple", data := .seq #[.ref M, .ref Da] } rfl
      refine ⟨_, (s₄.heap.objs.size, { cls := .type "tuple", data := .seq #[.ref M, .ref Da] }) :: (M, lo mv km) :: (Da, lo av' ka) :: I, sl, ⟨sm₄.gens, sm₄.os⟩, F₄.push _, ?_, ?_, _, M, mv, km, av', ka, rfl, rfl, t2, t3⟩
      · exact nsub N₅ fun p hp => by
          simp only [List.mem_cons, List.mem_append, List.cons_append, List.not_mem_nil, or_false] at hp ⊢
          rcases hp with e | e | e | e | e <;> simp [e]
      · intro p hp
        simp only [List.mem_cons] at hp
        rcases hp with rfl | rfl | rfl | hp
        · exact Nat.ne_of_gt (Nat.lt_of_lt_of_le hLL (Nat.le_of_lt F₄.ns.lt))
        · exact ML
        · exact hne (Da, lo av na) (.tail _ (.head _))
        · exact hne p (.tail _ (.tail _ hp))
  · rintro v s' led sm F' N' ⟨T, M, mv, km, av', ka, rfl, rfl, q1, q2⟩
    exact h T M mv km av' ka s' sm F' N' q1 q2
end
end Mine
end

-- CompG
section
open PySem PySem.W PyProof.Rows PySem.Calls
set_option maxRecDepth 100000
set_option maxHeartbeats 2000000
namespace Mine
open LCg
section
variable {w : World} {A : Around} {E : Value → Shared → Prop} {s s₂ : Shared} {L : Addr} {h₀ : Heap} {m : Str → Option Value} {news : List (Addr × Obj)} {env : Env}

/-- one turn of a comprehension that makes objects -/
noncomputable def Turn (w : World) (A : Around) (h₀ : Heap) (L : Addr) (m : Str → Option Value) (env : Env) (elt target : PySem.Expr) (scope : Scope) (cl : List (Str × Addr)) (s₂ : Shared) (news : List (Addr × Obj)) (J : Nat → List Value → List (Addr × Obj) → Prop) (i : Nat) (v : Value) : Prop :=
  ∀ ys news₁ s₁ C oC D I oI m₂ (E' : Value → Shared → Prop), J i ys news₁ → Gw news news₁ → Same s₂ s₁ → Fr h₀ L s₁.heap m → NsObj oC m₂ → News h₀ L s₁.heap ((C, oC) :: (I, oI) :: (D, lo ys i) :: news₁) → Off C ((I, oI) :: (D, lo ys i) :: news₁) → Off I ((D, lo ys i) :: news₁) → Off D news₁ → (∃ l j, s₁.heap.IsListIter I l j) ∨ (∀ it, letOwnedTupleGo target it v = pure ()) →
    wpAny (model PG w) A (letOwnedTupleGo target (.ref I) v) (fun _ s₃ => wpAny (model PG w) A (assign target (compEnvC scope cl C env) v) (fun _ s₄ => wpAny (model PG w) A (eval elt (compEnvC scope cl C env)) (fun y s₅ =>
      ∃ oC' m₃ led, NsObj oC' m₃ ∧ Same s₁ s₅ ∧ Fr h₀ L s₅.heap m ∧ News h₀ L s₅.heap led ∧ Gw ((C, oC') :: (I, oI) :: (D, lo ys i) :: news₁) led ∧
        ∀ news₂, (∀ p ∈ led, p ∈ news₁ ∨ Off p.1 ((C, oC') :: (I, oI) :: (D, lo ys i) :: news₁) → p ∈ news₂) → J (i + 1) (ys ++ [y]) news₂) E' s₄) E' s₃) E' s₁

theorem compG_core {elt target iter : PySem.Expr} {scope : Scope} {cl : List (Str × Addr)} {pos : Pos} {RR : Value → Addr → Result → Shared → Prop} {I : Addr} {oI : Obj} {n : Nat} {P : Nat → Value → Prop} {St : Nat → Heap → Prop} {S : List (Addr × Obj) → Prop}
    (V : Wk w A h₀ L I n P St S) (hn : n ≤ 10000) (hcell : ∀ y ∈ scope.names, y.2 ≠ .cell) (hkind : scope.kind = .function)
    (J : Nat → List Value → List (Addr × Obj) → Prop) (hst : St 0 s₂.heap) (F : Fr h₀ L s₂.heap m) (N : News h₀ L s₂.heap ((I, oI) :: news)) (off : Off I news) (hS : ∀ news', Gw news news' → S news') (h0 : J 0 [] news)
    (hli : (∀ i h, St i h → ∃ l j, h.IsListIter I l j) ∨ ∀ it v, letOwnedTupleGo target it v = pure ())
    (step : ∀ i v, i < n → P i v → Turn w A h₀ L m env elt target scope cl s₂ news J i v)
    (hRR : ∀ D C oC m₂ ys news' s', J n ys news' → Same s₂ s' → Fr h₀ L s'.heap m → NsObj oC m₂ → News h₀ L s'.heap ((C, oC) :: (D, lo ys n) :: news') → Off C ((D, lo ys n) :: news') → Off D news' → Gw news news' → RR (.ref D) C (.ok .next) s') :
    wpAny (model PG w) A (newList []) (fun acc s₃ => wpAny (model PG w) A (newFunctionEnv scope env.globals cl [] env.qual none .none (some env)) (fun cenv s₄ =>
      codeAny (model PG w) A (.compStart (.ListComp elt [⟨target, iter, [], 0⟩] scope pos) 0 (.ref I) acc { cenv with scope := relabel scope env }) (RR acc cenv.locals) s₄) E s₃) E s₂ := by
  refine wpAny_newObj_type (wpAny_newFunctionEnv hcell (by intro y hy; simp at hy) (fun h₁ hns₁ hsb₁ => ?_) hkind)
  dsimp only at hns₁ hsb₁ ⊢
  have N₁ := N.push F (lo [] 0) rfl
  have F₁ := F.push (lo [] 0)
  change Heap.SameBut (s₂.heap.push (lo [] 0)).objs.size _ _ at hsb₁
  change h₁.Ns (s₂.heap.push (lo [] 0)).objs.size _ at hns₁
  show codeAny _ _ (.compStart _ 0 _ _ (compEnvC scope cl (s₂.heap.push (lo [] 0)).objs.size env)) (RR _ (s₂.heap.push (lo [] 0)).objs.size) _
  generalize hD : s₂.heap.objs.size = D at *
  generalize hC : (s₂.heap.push (lo [] 0)).objs.size = C at *
  have up : ∀ b o, (s₂.heap.push (lo [] 0)).get? b = some o → h₁.get? b = some o := fun b o e => hsb₁.extBut b o (by rw [← hC]; exact Nat.ne_of_lt (Heap.lt_size e)) (Heap.get?_push_of_some _ e)
  have F₂ : Fr h₀ L h₁ m := F₁.keeps up
  have hC₀ : h₀.get? C = none := hC ▸ next_is_new F₁
  have hCL : C ≠ L := hC ▸ Nat.ne_of_gt F₁.ns.lt
  obtain ⟨oC, heC, hoC⟩ := ns_obj hns₁
  have N₂ : News h₀ L h₁ ((C, oC) :: (I, oI) :: (D, lo [] 0) :: news) := fun p hp => by
    rcases List.mem_cons.mp hp with rfl | hp
    · exact ⟨heC, hCL, hC₀⟩
    · have z := N₁ p (by
        simp only [List.mem_cons] at hp ⊢
        rcases hp with e | e | e <;> simp [e])
      exact ⟨up _ _ z.1, z.2⟩
  have offC : Off C ((I, oI) :: (D, lo [] 0) :: news) := fun p hp => by
    have z := N₁ p (by
      simp only [List.mem_cons] at hp ⊢
      rcases hp with e | e | e <;> simp [e])
    rw [← hC]; exact Nat.ne_of_lt (Heap.lt_size z.1)
  have offD : ∀ p ∈ (I, oI) :: news, p.1 ≠ D := fun p hp => by rw [← hD]; exact Nat.ne_of_lt (Heap.lt_size (N p hp).1)
  have hI := N (I, oI) (.head _)
  obtain ⟨fp, W⟩ := V.W
  have hst₁ : St 0 h₁ := V.st 0 _ _ oI news hst hI.1 (N₂ _ (.tail _ (.head _))).1 F₂.keep (fun p hp => N₂ p (.tail _ (.tail _ (.tail _ hp)))) (hS _ Gw.rfl')
  have loop : ∀ s₃ : Shared, s₃.heap = h₁ → Same s₂ s₃ → codeAny (model PG w) A (.compLoop (.ListComp elt [⟨target, iter, [], 0⟩] scope pos) 0 (.ref I) (.ref D) (compEnvC scope cl C env)) (RR (.ref D) C) s₃ := by
    rintro s₃ rfl sm₃
    refine kcp_loop (fun k s' => ∃ i ys oC m₂ oI news', k = n + 1 - i ∧ i ≤ n ∧ ys.length = i ∧ Same s₂ s' ∧ St i s'.heap ∧ Fr h₀ L s'.heap m ∧ NsObj oC m₂ ∧ News h₀ L s'.heap ((C, oC) :: (I, oI) :: (D, lo ys i) :: news') ∧ Off C ((I, oI) :: (D, lo ys i) :: news') ∧ Off I ((D, lo ys i) :: news') ∧ Off D news' ∧ Gw news news' ∧ J i ys news') ?_ (n + 1)
      ⟨0, [], oC, _, oI, news, rfl, Nat.zero_le _, rfl, sm₃, hst₁, F₂, hoC, N₂, offC, Off.cons (Ne.symm (offD _ (.head _))) off, fun p hp => offD p (.tail _ hp), Gw.rfl', h0⟩
    rintro k s' ⟨i, ys, oC, m₂, oI, news', rfl, hi, hyl, sm, st, F', hoC', N', o1, o2, o3, g', hJ⟩
    have hIz := N' (I, oI) (.tail _ (.head _))
    have keepN : ∀ {h' : Heap}, (∀ b o, b ∉ [I] → s'.heap.get? b = some o → h'.get? b = some o) → News h₀ L h' ((C, oC) :: (D, lo ys i) :: news') := fun hk p hp => by
      have hp' : p ∈ (C, oC) :: (I, oI) :: (D, lo ys i) :: news' := by
        simp only [List.mem_cons] at hp ⊢
        rcases hp with e | e | e <;> simp [e]
      refine ⟨hk _ _ ?_ (N' p hp').1, (N' p hp').2⟩
      simp only [List.mem_cons, List.not_mem_nil, or_false]
      rcases List.mem_cons.mp hp with rfl | hp
      · exact Ne.symm (o1 _ (.head _))
      · exact o2 p hp
    by_cases hlt : i < n
    · refine W.item i s' _ _ hlt st fun v h' tk hPv st' hk => ?_
      obtain ⟨oI', eI'⟩ := V.io _ _ st'
      have F₄ := fr_but F' hk (Ne.symm hIz.2.1) hIz.2.2
      have N₄ : News h₀ L h' ((C, oC) :: (I, oI') :: (D, lo ys i) :: news') := fun p hp => by
        rcases List.mem_cons.mp hp with rfl | hp
        · exact keepN hk _ (.head _)
        · rcases List.mem_cons.mp hp with rfl | hp
          · exact ⟨eI', hIz.2⟩
          · exact keepN hk p (.tail _ hp)
      refine wpAny_mono (step i v hlt hPv ys news' ⟨h', s'.gens, s'.drawn, tk, s'.os⟩ C oC D I oI' m₂ _ hJ g' ⟨sm.gens, sm.os⟩ F₄ hoC' N₄ (Off.cons (o1 _ (.head _)) fun p hp => o1 p (.tail _ hp)) o2 o3 (hli.imp (fun q => q _ _ st') fun q it => q it v)) (fun _ s₅ h₅ => wpAny_mono h₅ (fun _ s₆ h₆ => wpAny_mono h₆ (fun y s₇ h₇ => ?_) fun _ _ e => e) fun _ _ e => e) fun _ _ e => e
      obtain ⟨oC', m₃, led, hoC₃, sm₇, F₇, N₇, g₇, hJ₇⟩ := h₇
      have hDl := N₇ _ (g₇.sub _ (.tail _ (.tail _ (.head _))))
      refine append_at (hsz := by rw [sizeLine_eq]; simp; omega) hDl.1 fun h₈ hs₈ hD₈ => ?_
      have e : ({ cls := .type "list", data := .seq (ys.toArray.push y) (i + 1) } : Obj) = lo (ys ++ [y]) (i + 1) := by simp [lo, PySem.W.listOf]
      let news₂ := led.filter fun p => decide (p.1 ≠ C ∧ p.1 ≠ I ∧ p.1 ≠ D)
      have mem₂ : ∀ {p}, p ∈ news₂ ↔ p ∈ led ∧ p.1 ≠ C ∧ p.1 ≠ I ∧ p.1 ≠ D := by intro p; simp [news₂, List.mem_filter]
      have hin : ∀ p ∈ led, p ∈ news' ∨ Off p.1 ((C, oC') :: (I, oI') :: (D, lo ys i) :: news') → p ∈ news₂ := fun p hp hq => mem₂.mpr ⟨hp, by
        rcases hq with q | q
        · exact ⟨o1 p (.tail _ (.tail _ q)), o2 p (.tail _ q), o3 p q⟩
        · exact ⟨Ne.symm (q _ (.head _)), Ne.symm (q _ (.tail _ (.head _))), Ne.symm (q _ (.tail _ (.tail _ (.head _))))⟩⟩
      have g₂ : Gw news' news₂ := ⟨fun p hp => hin p (g₇.sub _ (.tail _ (.tail _ (.tail _ hp)))) (.inl hp), fun p hp => by
        obtain ⟨h1, h2, h3, h4⟩ := mem₂.mp hp
        rcases g₇.up p h1 with q | q
        · simp only [List.mem_cons] at q
          rcases q with rfl | rfl | rfl | q
          · exact absurd rfl h2
          · exact absurd rfl h3
          · exact absurd rfl h4
          · exact .inl q
        · exact .inr fun r hr => q r (.tail _ (.tail _ (.tail _ hr)))⟩
      have N₈ : News h₀ L h₈ ((C, oC') :: (I, oI') :: (D, lo (ys ++ [y]) (i + 1)) :: news₂) := fun p hp => by
        simp only [List.mem_cons] at hp
        rcases hp with rfl | rfl | rfl | hp
        · have z := N₇ _ (g₇.sub _ (.head _))
          exact ⟨hs₈.extBut _ _ (Ne.symm (o1 _ (.tail _ (.head _)))) z.1, z.2⟩
        · have z := N₇ _ (g₇.sub _ (.tail _ (.head _)))
          exact ⟨hs₈.extBut _ _ (Ne.symm (o2 _ (.head _))) z.1, z.2⟩
        · exact ⟨hD₈.trans (congrArg some e), hDl.2⟩
        · obtain ⟨h1, h2, h3, h4⟩ := mem₂.mp hp
          exact ⟨hs₈.extBut _ _ h4 (N₇ p h1).1, (N₇ p h1).2⟩
      have F₈ := F₇.change hs₈ hDl.2.1 hDl.2.2
      have N₂' : News h₀ L h₈ news₂ := fun p hp => N₈ p (.tail _ (.tail _ (.tail _ hp)))
      refine ⟨n + 1 - (i + 1), by omega, i + 1, ys ++ [y], oC', m₃, oI', news₂, rfl, hlt, by simp [hyl], ⟨sm₇.gens.trans sm.gens, sm₇.os.trans sm.os⟩, V.st _ _ _ oI' news₂ st' eI' (N₈ _ (.tail _ (.head _))).1 F₈.keep N₂' (hS _ (g'.trans g₂)), F₈, hoC₃, N₈, ?_, ?_, fun p hp => (mem₂.mp hp).2.2.2, g'.trans g₂, hJ₇ news₂ hin⟩
      · exact Off.cons (o1 _ (.head _)) (Off.cons (o1 _ (.tail _ (.head _))) fun p hp => (mem₂.mp hp).2.1)
      · exact Off.cons (o2 _ (.head _)) fun p hp => (mem₂.mp hp).2.2.1
    · obtain rfl : i = n := Nat.le_antisymm hi (Nat.not_lt.mp hlt)
      refine W.done s' _ _ st fun h' tk hk => ?_
      exact hRR D C oC m₂ ys news' _ hJ ⟨sm.gens, sm.os⟩ (fr_but F' hk (Ne.symm hIz.2.1) hIz.2.2) hoC' (keepN hk) (fun p hp => o1 p (.tail _ hp)) o3 g'
  exact codeAny_compStart_list (loop _ rfl ⟨rfl, rfl⟩) (W.self 0 _ _ _ hst₁ (loop _ rfl ⟨rfl, rfl⟩))

theorem Wk.led {L I l : Addr} {vs : List Value} (hh : A.handled = none) (hlI : l ≠ I) :
    Wk w A h₀ L I vs.length (fun i v => vs[i]? = some v) (fun i h => h.IsListIter I l i ∧ h.IsList l vs.toArray) (fun nw => ∃ k, (l, lo vs k) ∈ nw) := by
  have V := Wk.list (w := w) (h₀ := h₀) (L := L) (its := vs.toArray) hh hlI
  refine ⟨?_, V.io, fun i h h' o nw st e e' k N hS => V.st i h h' o nw st e e' k N ?_⟩
  · obtain ⟨fp, W⟩ := V.W
    refine ⟨fp, ?_⟩
    simpa using W
  · obtain ⟨k, hk⟩ := hS
    exact .inr ⟨_, hk, rfl, k, rfl⟩

/-- what a comprehension that makes objects wants behind its iterable, and what it hands on -/
noncomputable def Gen (w : World) (A : Around) (h₀ : Heap) (L : Addr) (env : Env) (elt target : PySem.Expr) (scope : Scope) (cl : List (Str × Addr)) (Fin : (Str → Option Value) → Nat → List Value → List (Addr × Obj) → List (Addr × Obj) → Shared → Addr → Shared → Prop) (it : Value) (s₂ : Shared) : Prop :=
  ∃ I oI n P St S m news J, it = .ref I ∧ Wk w A h₀ L I n P St S ∧ n ≤ 10000 ∧ St 0 s₂.heap ∧ Fr h₀ L s₂.heap m ∧ News h₀ L s₂.heap ((I, oI) :: news) ∧ Off I news ∧ (∀ news', Gw news news' → S news') ∧ J 0 [] news ∧
    ((∀ i h, St i h → ∃ l j, h.IsListIter I l j) ∨ ∀ it v, letOwnedTupleGo target it v = pure ()) ∧ (∀ i v, i < n → P i v → Turn w A h₀ L m env elt target scope cl s₂ news J i v) ∧
    (∀ D ys news' s', J n ys news' → Same s₂ s' → Gw news news' → Off D news' → Fin m n ys news news' s₂ D s')

theorem compG {elt target iter : PySem.Expr} {scope : Scope} {cl : List (Str × Addr)} {pos : Pos} {Q : Value → Shared → Prop}
    (hclos : closureFor scope env = pure cl) (hcell : ∀ y ∈ scope.names, y.2 ≠ .cell) (hkind : scope.kind = .function)
    (hnames : ∀ y ∈ scope.names, y.2 = .local → scope.names.lookup y.1 = some .local)
    (h : wpAny (model PG w) A (eval iter env) (fun xv s₁ => wpAny (model PG w) A (pyIter xv) (Gen w A h₀ L env elt target scope cl fun m n ys news news' s₂ D s' => Fr h₀ L s'.heap m → News h₀ L s'.heap ((D, lo ys n) :: news') → Q (.ref D) s') E s₁) E s)
    (hs : ∀ x, foldedSetIterable iter env x = pure x := by intro _; rfl) :
    wpAny (model PG w) A (eval (.ListComp elt [⟨target, iter, [], 0⟩] scope pos) env) Q E s := by
  rw [eval_ListComp]
  refine wpAny_comprehension_free (use := none) rfl hs hclos hkind hnames (wpAny_mono h (fun xv s₁ h₁ => wpAny_mono h₁ (fun it s₂ h₂ => ?_) fun _ _ e => e) fun _ _ e => e)
  obtain ⟨I, oI, n, P, St, S, m, news, J, rfl, V, hn, hst, F, N, off, hS, h0, hli, step, hF⟩ := h₂
  refine compG_core (RR := fun acc C => compPost (model PG w) A E none Q acc C) V hn hcell hkind J hst F N off hS h0 hli step fun D C oC m₂ ys news' s' hJ sm F' hoC N' o1 o2 g => ?_
  have z := N' (C, oC) (.head _)
  refine ⟨m₂, hoC.ns z.1, fun h' hs' => hF D ys news' ⟨h', s'.gens, s'.drawn, s'.toks, s'.os⟩ hJ ⟨sm.gens, sm.os⟩ g o2 (F'.change hs' z.2.1 z.2.2) fun p hp => ?_⟩
  exact ⟨hs'.extBut _ _ (o1 p hp) (N' p (.tail _ hp)).1, (N' p (.tail _ hp)).2⟩

theorem compGA {elt target iter : PySem.Expr} {yy : Str} {pyy : Pos} {scope : Scope} {cl : List (Str × Addr)} {pos spos : Pos} {Q : Flow → Shared → Prop}
    (hL : env.locals = L) (hsw : swapsWith (.ListComp elt [⟨target, iter, [], 0⟩] scope pos) (some (.Name yy pyy)) spos.line env = pure true) (hyy : env.kindOf yy = some .local) (hpp : (env.scope.kind == .class || (env.scope.kind == .module && env.locals != env.globals)) = false)
    (hclos : closureFor scope env = pure cl) (hcell : ∀ y ∈ scope.names, y.2 ≠ .cell) (hkind : scope.kind = .function)
    (hnames : ∀ y ∈ scope.names, y.2 = .local → scope.names.lookup y.1 = some .local)
    (h : wpAny (model PG w) A (eval iter env) (fun xv s₁ => wpAny (model PG w) A (pyIter xv) (Gen w A h₀ L env elt target scope cl fun m n ys news news' s₂ D s' => Fr h₀ L s'.heap (fun z => if z = yy then some (.ref D) else m z) → News h₀ L s'.heap ((D, lo ys n) :: news') → Q .next s') E s₁) E s)
    (hs : ∀ x, foldedSetIterable iter env x = pure x := by intro _; rfl) :
    wpAny (model PG w) A (exec (.Assign [.Name yy pyy] (.ListComp elt [⟨target, iter, [], 0⟩] scope pos) spos) env) Q E s := by
  cases hL
  rw [exec_Assign_Name_used _ _ _ _ hsw]
  refine wpAny_bind (wpAny_standAt (wpAny_bind ?_))
  show wpAny _ A (do let _ ← comprehension (.ListComp elt [⟨target, iter, [], 0⟩] scope pos) scope env _ (newList []) false (eval iter env) (some (assign (.Name yy pyy) env))) _ _ s
  refine wpAny_bind (wpAny_mono (wpAny_comprehension_free (use := some (assign (.Name yy pyy) env)) (Q := fun _ s' => Q .next s') rfl hs hclos hkind hnames
    (wpAny_mono h (fun xv s₁ h₁ => wpAny_mono h₁ (fun it s₂ h₂ => ?_) fun _ _ e => e) fun _ _ e => e)) (fun _ s' hq => wpAny_pure (wpAny_pure hq)) fun _ _ e => e)
  obtain ⟨I, oI, n, P, St, S, m, news, J, rfl, V, hn, hst, F, N, off, hS, h0, hli, step, hF⟩ := h₂
  refine compG_core (RR := fun acc C => compPost (model PG w) A E (some (assign (.Name yy pyy) env)) (fun _ s' => Q .next s') acc C) V hn hcell hkind J hst F N off hS h0 hli step fun D C oC m₂ ys news' s' hJ sm F' hoC N' o1 o2 g => ?_
  have z := N' (C, oC) (.head _)
  show wpAny _ A (assign (.Name yy pyy) env (.ref D)) _ _ _
  refine wpAny_assign_Name (wpAny_storeName_local hyy F'.ns (fun h₂ hn₂ hs₂ => ?_) hpp)
  have F₂ := F'.set hn₂ hs₂
  have N₂ := N'.set hs₂
  have z₂ := N₂ (C, oC) (.head _)
  refine ⟨m₂, hoC.ns z₂.1, fun h' hs' => hF D ys news' ⟨h', s'.gens, s'.drawn, s'.toks + 1, s'.os⟩ hJ ⟨sm.gens, sm.os⟩ g o2 (F₂.change hs' z₂.2.1 z₂.2.2) fun p hp => ?_⟩
  exact ⟨hs'.extBut _ _ (o1 p hp) (N₂ p (.tail _ hp)).1, (N₂ p (.tail _ hp)).2⟩

/-- the turn where the target is one name -/
theorem turn1 {elt : PySem.Expr} {x : Str} {px : Pos} {scope : Scope} {cl : List (Str × Addr)} {J : Nat → List Value → List (Addr × Obj) → Prop} {i : Nat} {v : Value} (hx : scope.names.lookup x = some .local) (hkind : scope.kind = .function)
    (h : ∀ ys news₁ s₁ C oC D I oI m₂ (E' : Value → Shared → Prop), J i ys news₁ → Gw news news₁ → Same s₂ s₁ → Fr h₀ L s₁.heap m → s₁.heap.Ns C m₂ → m₂ x = some v → News h₀ L s₁.heap ((C, oC) :: (I, oI) :: (D, lo ys i) :: news₁) →
      wpAny (model PG w) A (eval elt (compEnvC scope cl C env)) (fun y s₅ => ∃ led, Same s₁ s₅ ∧ Fr h₀ L s₅.heap m ∧ News h₀ L s₅.heap led ∧ Gw ((C, oC) :: (I, oI) :: (D, lo ys i) :: news₁) led ∧
        ∀ news₂, (∀ p ∈ led, p ∈ news₁ ∨ Off p.1 ((C, oC) :: (I, oI) :: (D, lo ys i) :: news₁) → p ∈ news₂) → J (i + 1) (ys ++ [y]) news₂) E' s₁) :
    Turn w A h₀ L m env elt (.Name x px) scope cl s₂ news J i v := by
  intro ys news₁ s₁ C oC D I oI m₂ E' hJ g sm F hoC N o1 o2 o3 _
  refine wpAny_of_eq (a := ()) rfl ?_
  have z := N (C, oC) (.head _)
  refine wpAny_assign_Name (wpAny_storeName_local (lookup_relabel_local hx) (hoC.ns z.1) (fun h₃ hn₃ hs₃ => ?_) (by simp [compEnvC, relabel, hkind]))
  have hns₃ := hn₃
  obtain ⟨oC', heC, hoC'⟩ := ns_obj hn₃
  have N₃ : News h₀ L h₃ ((C, oC') :: (I, oI) :: (D, lo ys i) :: news₁) := fun p hp => by
    rcases List.mem_cons.mp hp with rfl | hp
    · exact ⟨heC, z.2⟩
    · exact ⟨hs₃.extBut _ _ (o1 p hp) (N p (.tail _ hp)).1, (N p (.tail _ hp)).2⟩
  refine wpAny_mono (h ys news₁ ⟨h₃, s₁.gens, s₁.drawn, s₁.toks + 1, s₁.os⟩ C oC' D I oI _ E' hJ g ⟨sm.gens, sm.os⟩ (F.change hs₃ z.2.1 z.2.2) hns₃ (by simp) N₃) (fun y s₅ h₅ => ?_) fun _ _ e => e
  obtain ⟨led, q1, q2, q3, q4, q5⟩ := h₅
  exact ⟨oC', _, led, hoC', ⟨q1.gens, q1.os⟩, q2, q3, q4, q5⟩

/-- the turn where the target is three names and the item a list of three -/
theorem turn3 {elt : PySem.Expr} {x y z : Str} {px py pz tp : Pos} {kk : Nat} {scope : Scope} {cl : List (Str × Addr)} {J : Nat → List Value → List (Addr × Obj) → Prop} {i : Nat} {l : Addr} {a b c : Value} (hh : A.handled = none)
    (hx : scope.names.lookup x = some .local) (hy : scope.names.lookup y = some .local) (hz : scope.names.lookup z = some .local) (hxy : x ≠ y) (hxz : x ≠ z) (hyz : y ≠ z) (hkind : scope.kind = .function)
    (hl : ∀ ys news₁, J i ys news₁ → ∃ k, (l, lo [a, b, c] k) ∈ news₁)
    (h : ∀ ys news₁ s₁ C oC D I oI m₂ (E' : Value → Shared → Prop), J i ys news₁ → Gw news news₁ → Same s₂ s₁ → Fr h₀ L s₁.heap m → s₁.heap.Ns C m₂ → m₂ x = some a → m₂ y = some b → m₂ z = some c → News h₀ L s₁.heap ((C, oC) :: (I, oI) :: (D, lo ys i) :: news₁) →
      wpAny (model PG w) A (eval elt (compEnvC scope cl C env)) (fun r s₅ => ∃ led, Same s₁ s₅ ∧ Fr h₀ L s₅.heap m ∧ News h₀ L s₅.heap led ∧ Gw ((C, oC) :: (I, oI) :: (D, lo ys i) :: news₁) led ∧
        ∀ news₂, (∀ p ∈ led, p ∈ news₁ ∨ Off p.1 ((C, oC) :: (I, oI) :: (D, lo ys i) :: news₁) → p ∈ news₂) → J (i + 1) (ys ++ [r]) news₂) E' s₁) :
    Turn w A h₀ L m env elt (.Tuple [.Name x px, .Name y py, .Name z pz] kk tp) scope cl s₂ news J i (.ref l) := by
  intro ys news₁ s₁ C oC D I oI m₂ E' hJ g sm F hoC N o1 o2 o3 hli
  obtain ⟨k, hlm⟩ := hl ys news₁ hJ
  have hgo : ∀ Q : Unit → Shared → Prop, Q () s₁ → wpAny (model PG w) A (letOwnedTupleGo (.Tuple [.Name x px, .Name y py, .Name z pz] kk tp) (.ref I) (.ref l)) Q E' s₁ := fun Q q => by
    rcases hli with ⟨l', j, hit⟩ | e
    · exact wpAny_letOwnedTupleGo_listiter hit q
    · exact wpAny_of_eq (e (.ref I)) q
  refine hgo _ ?_
  refine kun_list F N ⟨_, (N _ (.tail _ (.tail _ (.tail _ hlm)))).1, rfl, k, rfl⟩ hh rfl rfl fun h₂ F₂ N₂ => ?_
  have zC := N₂ (C, oC) (.head _)
  have hp : ((compEnvC scope cl C env).scope.kind == .class || ((compEnvC scope cl C env).scope.kind == .module && (compEnvC scope cl C env).locals != (compEnvC scope cl C env).globals)) = false := by simp [compEnvC, relabel, hkind]
  refine assignInOrder_cons (wpAny_assign_Name (wpAny_storeName_local (lookup_relabel_local hx) (hoC.ns zC.1) (fun h₃ hn₃ hs₃ => ?_) hp))
  refine assignInOrder_cons (wpAny_assign_Name (wpAny_storeName_local (lookup_relabel_local hy) hn₃ (fun h₄ hn₄ hs₄ => ?_) hp))
  refine assignInOrder_cons (wpAny_assign_Name (wpAny_storeName_local (lookup_relabel_local hz) hn₄ (fun h₅ hn₅ hs₅ => ?_) hp))
  refine assignInOrder_nil ?_
  obtain ⟨oC', heC, hoC'⟩ := ns_obj hn₅
  have N₃ : News h₀ L h₅ ((C, oC') :: (I, oI) :: (D, lo ys i) :: news₁) := fun p hp => by
    rcases List.mem_cons.mp hp with rfl | hp
    · exact ⟨heC, zC.2⟩
    · exact ⟨hs₅.extBut _ _ (o1 p hp) (hs₄.extBut _ _ (o1 p hp) (hs₃.extBut _ _ (o1 p hp) (N₂ p (.tail _ hp)).1)), (N₂ p (.tail _ hp)).2⟩
  refine wpAny_mono (h ys news₁ ⟨h₅, s₁.gens, s₁.drawn, s₁.toks + 1 + 1 + 1, s₁.os⟩ C oC' D I oI _ E' hJ g ⟨sm.gens, sm.os⟩ (((F₂.change hs₃ zC.2.1 zC.2.2).change hs₄ zC.2.1 zC.2.2).change hs₅ zC.2.1 zC.2.2) hn₅ (by simp [hxy, hxz]) (by simp [hyz]) (by simp) N₃) (fun r s₆ h₆ => ?_) fun _ _ e => e
  obtain ⟨led, q1, q2, q3, q4, q5⟩ := h₆
  exact ⟨oC', _, led, hoC', ⟨q1.gens, q1.os⟩, q2, q3, q4, q5⟩
end
end Mine
end

-- HeapP
section
open PySem PySem.W PyProof.Rows PySem.Calls
set_option maxRecDepth 100000
set_option maxHeartbeats 2000000
namespace Mine
noncomputable def It.key (i : It) : Int := i.n * 16 + i.k
noncomputable def Hp : List It → Prop
  | [] => True
  | [_] => True
  | [a, b] => a.key ≤ b.key
  | [a, b, c] => a.key ≤ b.key ∧ a.key ≤ c.key
  | [a, b, c, d] => a.key ≤ b.key ∧ a.key ≤ c.key ∧ b.key ≤ d.key
  | [a, b, c, d, e] => a.key ≤ b.key ∧ a.key ≤ c.key ∧ b.key ≤ d.key ∧ b.key ≤ e.key
  | _ => False
noncomputable def Hs : List It → Prop
  | [_, b, _, d] => b.key ≤ d.key
  | [_, b, _, d, e] => b.key ≤ d.key ∧ b.key ≤ e.key
  | _ => True
noncomputable def Kok (l : List It) : Prop := ∀ i ∈ l, 0 ≤ i.k ∧ i.k < 16

theorem lt_key {i j : It} (hi : 0 ≤ i.k ∧ i.k < 16) (hj : 0 ≤ j.k ∧ j.k < 16) : i.lt j = decide (i.key < j.key) := by
  unfold It.lt It.key
  congr 1
  apply propext
  omega

theorem perm_c {l l' : List It} (h : ∀ (p : It → Nat), (l.map p).sum = (l'.map p).sum) : l.Perm l' := by
  classical
  refine List.perm_iff_count.mpr fun x => ?_
  have := h fun y => if y = x then 1 else 0
  have key : ∀ l : List It, l.count x = (l.map fun y => if y = x then 1 else 0).sum := fun l => by
    induction l with
    | nil => rfl
    | cons y l ih => rw [List.count_cons, List.map_cons, List.sum_cons, ih, Nat.add_comm]; simp
  rw [key, key, this]

theorem su4 (a b c d : It) (h : b.key ≤ d.key) (ha : 0 ≤ a.k ∧ a.k < 16) (hb : 0 ≤ b.k ∧ b.k < 16) (hc : 0 ≤ c.k ∧ c.k < 16) (hd : 0 ≤ d.k ∧ d.k < 16) : Hp (su [a, b, c, d] 0) ∧ (su [a, b, c, d] 0).Perm [a, b, c, d] := by
  have e1 := lt_key hb hc
  have e2 := lt_key ha hb
  have e3 := lt_key ha hc
  have e4 := lt_key ha hd
  by_cases h1 : b.key < c.key <;> by_cases h2 : a.key < b.key <;> by_cases h3 : a.key < c.key <;> by_cases h4 : a.key < d.key <;>
    (simp only [h1, h2, h3, h4, decide_true, decide_false] at e1 e2 e3 e4
     simp [su, suLoop, suChild, sd, sdLoop, e1, e2, e3, e4, Hp])
  all_goals first
    | omega
    | exact ⟨by omega, perm_c fun p => by simp; omega⟩
theorem su3 (a b c : It) (ha : 0 ≤ a.k ∧ a.k < 16) (hb : 0 ≤ b.k ∧ b.k < 16) (hc : 0 ≤ c.k ∧ c.k < 16) : Hp (su [a, b, c] 0) ∧ (su [a, b, c] 0).Perm [a, b, c] := by
  have e1 := lt_key hb hc
  have e2 := lt_key ha hb
  have e3 := lt_key ha hc
  by_cases h1 : b.key < c.key <;> by_cases h2 : a.key < b.key <;> by_cases h3 : a.key < c.key <;>
    (simp only [h1, h2, h3, decide_true, decide_false] at e1 e2 e3
     simp [su, suLoop, suChild, sd, sdLoop, e1, e2, e3, Hp])
  all_goals first
    | omega
    | exact ⟨by omega, perm_c fun p => by simp; omega⟩
theorem su2 (a b : It) (ha : 0 ≤ a.k ∧ a.k < 16) (hb : 0 ≤ b.k ∧ b.k < 16) : Hp (su [a, b] 0) ∧ (su [a, b] 0).Perm [a, b] := by
  have e2 := lt_key ha hb
  by_cases h2 : a.key < b.key <;>
    (simp only [h2, decide_true, decide_false] at e2
     simp [su, suLoop, suChild, sd, sdLoop, e2, Hp])
  all_goals first
    | omega
    | exact ⟨by omega, perm_c fun p => by simp; omega⟩
theorem su1 (a : It) : Hp (su [a] 0) ∧ (su [a] 0).Perm [a] := by
  simp [su, suLoop, suChild, sd, sdLoop, Hp]
theorem su5 (a b c d e : It) (h : b.key ≤ d.key) (h' : b.key ≤ e.key) (ha : 0 ≤ a.k ∧ a.k < 16) (hb : 0 ≤ b.k ∧ b.k < 16) (hc : 0 ≤ c.k ∧ c.k < 16) (hd : 0 ≤ d.k ∧ d.k < 16) (he : 0 ≤ e.k ∧ e.k < 16) : Hp (su [a, b, c, d, e] 0) ∧ (su [a, b, c, d, e] 0).Perm [a, b, c, d, e] := by
  have e1 := lt_key hb hc
  have e2 := lt_key ha hb
  have e3 := lt_key ha hc
  have e4 := lt_key ha hd
  have e5 := lt_key ha he
  have e6 := lt_key hd he
  by_cases h1 : b.key < c.key
  · by_cases h6 : d.key < e.key
    · by_cases h2 : a.key < b.key <;> by_cases h4 : a.key < d.key <;>
        (simp only [h1, h2, h4, h6, decide_true, decide_false] at e1 e2 e4 e6
         simp [su, suLoop, suChild, sd, sdLoop, e1, e2, e4, e6, Hp])
      all_goals first
        | omega
        | exact ⟨by omega, perm_c fun p => by simp; omega⟩
    · by_cases h2 : a.key < b.key <;> by_cases h4 : a.key < e.key <;>
        (simp only [h1, h2, h4, h6, decide_true, decide_false] at e1 e2 e5 e6
         simp [su, suLoop, suChild, sd, sdLoop, e1, e2, e5, e6, Hp])
      all_goals first
        | omega
        | exact ⟨by omega, perm_c fun p => by simp; omega⟩
  · by_cases h3 : a.key < c.key <;>
      (simp only [h1, h3, decide_true, decide_false] at e1 e3
       simp [su, suLoop, suChild, sd, sdLoop, e1, e3, Hp])
    all_goals first
      | omega
      | exact ⟨by omega, perm_c fun p => by simp; omega⟩
/-- the first of heapify's two turns -/
theorem su51 (a b c d e : It) (hb : 0 ≤ b.k ∧ b.k < 16) (hd : 0 ≤ d.k ∧ d.k < 16) (he : 0 ≤ e.k ∧ e.k < 16) : ∃ b' d' e', su [a, b, c, d, e] 1 = [a, b', c, d', e'] ∧ b'.key ≤ d'.key ∧ b'.key ≤ e'.key ∧ [b', d', e'].Perm [b, d, e] := by
  have e4 := lt_key hb hd
  have e5 := lt_key hb he
  have e6 := lt_key hd he
  by_cases h6 : d.key < e.key
  · by_cases h4 : b.key < d.key <;>
      (simp only [h4, h6, decide_true, decide_false] at e4 e6
       simp [su, suLoop, suChild, sd, sdLoop, e4, e6])
    · exact ⟨b, d, e, ⟨rfl, rfl, rfl⟩, by omega, by omega, .refl _⟩
    · exact ⟨d, b, e, ⟨rfl, rfl, rfl⟩, by omega, by omega, perm_c fun p => by simp; omega⟩
  · by_cases h4 : b.key < e.key <;>
      (simp only [h4, h6, decide_true, decide_false] at e5 e6
       simp [su, suLoop, suChild, sd, sdLoop, e5, e6])
    · exact ⟨b, d, e, ⟨rfl, rfl, rfl⟩, by omega, by omega, .refl _⟩
    · exact ⟨e, d, b, ⟨rfl, rfl, rfl⟩, by omega, by omega, perm_c fun p => by simp; omega⟩
end Mine
end

-- Merged
section
open PySem PySem.W PyProof.Rows PySem.Calls
set_option maxRecDepth 100000
set_option maxHeartbeats 2000000
namespace Mine
open LCg

/-- what a node of the merging tells -/
structure Nd where
  k : Nat
  ag : List Str
  ru : List Str
  dl : Option Int
noncomputable def nd0 : Nd := ⟨0, [], [], none⟩
noncomputable def Nd.key (a : Nd) : Int := (a.ru.length : Int) * 16 + a.k
noncomputable def mrgN (a b : Nd) (place : Nat) : Nd := ⟨place, a.ag.filter (fun x => decide (x ∈ b.ag)), a.ru ++ b.ru, b.dl.or a.dl⟩
noncomputable def ins (x : Nd) : List Nd → List Nd
  | [] => [x]
  | y :: r => if x.key < y.key then x :: y :: r else y :: ins x r
noncomputable def srt : List Nd → List Nd
  | [] => []
  | x :: r => ins x (srt r)
noncomputable def prc : Nat → List Nd → Nat → Nat → Nd × Nat
  | 0, l, lines, _ => (l.headD nd0, lines)
  | f + 1, a :: b :: r, lines, place => prc f (ins (mrgN a b place) r) (lines + (a.ru ++ b.ru).length) (place + 1)
  | _ + 1, l, lines, _ => (l.headD nd0, lines)
noncomputable def Srt (l : List Nd) : Prop := l.Pairwise fun a b => a.key < b.key

theorem ins_perm (x : Nd) : ∀ l, (ins x l).Perm (x :: l)
  | [] => .refl _
  | y :: r => by
    unfold ins
    split
    · exact .refl _
    · exact ((ins_perm x r).cons y).trans (List.Perm.swap x y r)
theorem srt_perm : ∀ l, (srt l).Perm l
  | [] => .refl _
  | x :: r => (ins_perm x _).trans ((srt_perm r).cons x)
theorem ins_srt (x : Nd) : ∀ l, Srt l → (∀ y ∈ l, x.key ≠ y.key) → Srt (ins x l)
  | [], _, _ => List.pairwise_singleton _ _
  | y :: r, h, hx => by
    have hr := List.pairwise_cons.mp h
    unfold ins
    split
    · rename_i hlt
      refine List.pairwise_cons.mpr ⟨fun z hz => ?_, h⟩
      rcases List.mem_cons.mp hz with rfl | hz
      · exact hlt
      · have := hr.1 z hz; omega
    · rename_i hlt
      have hne := hx y (.head _)
      refine List.pairwise_cons.mpr ⟨fun z hz => ?_, ins_srt x r hr.2 fun z hz => hx z (.tail _ hz)⟩
      rcases List.mem_cons.mp ((ins_perm x r).mem_iff.mp hz) with rfl | hz
      · omega
      · exact hr.1 z hz
theorem srt_srt : ∀ l : List Nd, (l.map Nd.key).Nodup → Srt (srt l)
  | [], _ => List.Pairwise.nil
  | x :: r, h => by
    rw [List.map_cons, List.nodup_cons] at h
    exact ins_srt x _ (srt_srt r h.2) fun y hy e => h.1 (e ▸ List.mem_map_of_mem ((srt_perm r).mem_iff.mp hy))
theorem srt_uniq : ∀ {l l' : List Nd}, Srt l → Srt l' → l.Perm l' → l = l'
  | [], l', _, _, p => (List.nil_perm.mp p).symm
  | a :: l, [], _, _, p => absurd (List.perm_nil.mp p) (by simp)
  | a :: l, b :: l', h, h', p => by
    have h1 := List.pairwise_cons.mp h
    have h2 := List.pairwise_cons.mp h'
    have e : a = b := by
      rcases List.mem_cons.mp (p.mem_iff.mp (.head _)) with e | ha
      · exact e
      · rcases List.mem_cons.mp (p.mem_iff.mpr (.head _)) with e | hb
        · exact e.symm
        · have q1 := h2.1 a ha
          have q2 := h1.1 b hb
          omega
    subst e
    rw [srt_uniq h1.2 h2.2 (List.Perm.cons_inv p)]
theorem srt_head {l : List Nd} {x : Nd} {l' : List Nd} (h : Srt l) (p : l.Perm (x :: l')) (hm : ∀ y ∈ l', x.key ≤ y.key) : ∃ t, l = x :: t ∧ t.Perm l' ∧ Srt t := by
  cases l with
  | nil => exact absurd (List.nil_perm.mp p) (by simp)
  | cons a t =>
    have h1 := List.pairwise_cons.mp h
    have e : a = x := by
      rcases List.mem_cons.mp (p.mem_iff.mpr (.head _)) with e | hx
      · exact e.symm
      · have q1 := h1.1 x hx
        rcases List.mem_cons.mp (p.mem_iff.mp (.head _)) with e | ha
        · exact e
        · have := hm a ha; omega
    subst e
    exact ⟨t, rfl, List.Perm.cons_inv p, h1.2⟩
theorem perm_lift {α β : Type} {f : α → β} : ∀ {l' l : List β}, l'.Perm l → ∀ ps : List α, ps.map f = l → ∃ ps' : List α, ps'.Perm ps ∧ ps'.map f = l' := by
  intro l' l p
  induction p with
  | nil => intro ps e; exact ⟨[], by rw [List.map_eq_nil_iff] at e; rw [e], rfl⟩
  | cons x _ ih =>
    intro ps e
    cases ps with
    | nil => cases e
    | cons a ps =>
      obtain ⟨e1, e2⟩ := List.cons.inj e
      obtain ⟨ps', p', e'⟩ := ih ps e2
      exact ⟨a :: ps', p'.cons a, by rw [List.map_cons, e1, e']⟩
  | swap x y l =>
    intro ps e
    match ps, e with
    | [], e => cases e
    | [a], e => exact absurd (congrArg List.length e) (by simp)
    | a :: b :: ps, e =>
      rw [List.map_cons, List.map_cons] at e
      obtain ⟨e1, e⟩ := List.cons.inj e
      obtain ⟨e2, e3⟩ := List.cons.inj e
      exact ⟨b :: a :: ps, .swap a b ps, by rw [List.map_cons, List.map_cons, e1, e2, e3]⟩
  | trans _ _ ih1 ih2 =>
    intro ps e
    obtain ⟨p2, q2, e2⟩ := ih2 ps e
    obtain ⟨p1, q1, e1⟩ := ih1 p2 e2
    exact ⟨p1, q1.trans q2, e1⟩

theorem kok_perm {l l' : List It} (h : Kok l) (p : l'.Perm l) : Kok l' := fun i hi => h i (p.mem_iff.mp hi)
theorem hpop_ok : ∀ {l : List It}, 2 ≤ l.length → l.length ≤ 5 → Hp l → Kok l → Hp (hpop l) ∧ (hpop l).Perm l.tail
  | [], h, _, _, _ => absurd h (by simp)
  | [_], h, _, _, _ => absurd h (by simp)
  | [a, b], _, _, _, _ => su1 b
  | [a, b, c], _, _, h, k => by
    have := su2 c b (k c (by simp)) (k b (by simp))
    exact ⟨this.1, this.2.trans (perm_c fun p => by simp; omega)⟩
  | [a, b, c, d], _, _, h, k => by
    have := su3 d b c (k d (by simp)) (k b (by simp)) (k c (by simp))
    exact ⟨this.1, this.2.trans (perm_c fun p => by simp; omega)⟩
  | [a, b, c, d, e], _, _, h, k => by
    have := su4 e b c d h.2.2.1 (k e (by simp)) (k b (by simp)) (k c (by simp)) (k d (by simp))
    exact ⟨this.1, this.2.trans (perm_c fun p => by simp; omega)⟩
  | _ :: _ :: _ :: _ :: _ :: _ :: _, _, h, _, _ => absurd h (by simp)
theorem hrep_ok {x : It} (hx : 0 ≤ x.k ∧ x.k < 16) : ∀ {l : List It}, 1 ≤ l.length → l.length ≤ 4 → Hp l → Kok l → Hp (hrep l x) ∧ (hrep l x).Perm (x :: l.tail)
  | [], h, _, _, _ => absurd h (by simp)
  | [a], _, _, _, _ => su1 x
  | [a, b], _, _, _, k => su2 x b hx (k b (by simp))
  | [a, b, c], _, _, _, k => su3 x b c hx (k b (by simp)) (k c (by simp))
  | [a, b, c, d], _, _, h, k => su4 x b c d h.2.2 hx (k b (by simp)) (k c (by simp)) (k d (by simp))
  | _ :: _ :: _ :: _ :: _ :: _, _, h, _, _ => absurd h (by simp)
theorem hp_head : ∀ {a : It} {l : List It}, Hp (a :: l) → ∀ y ∈ l, a.key ≤ y.key
  | _, [], _, _, h => nomatch h
  | a, [b], h, y, hy => by simp at hy; subst hy; exact h
  | a, [b, c], h, y, hy => by
    simp at hy
    rcases hy with rfl | rfl
    · exact h.1
    · exact h.2
  | a, [b, c, d], h, y, hy => by
    simp at hy
    obtain ⟨h1, h2, h3⟩ := h
    rcases hy with rfl | rfl | rfl <;> omega
  | a, [b, c, d, e], h, y, hy => by
    simp at hy
    obtain ⟨h1, h2, h3, h4⟩ := h
    rcases hy with rfl | rfl | rfl | rfl <;> omega
  | _, _ :: _ :: _ :: _ :: _ :: _, h, _, _ => h.elim
theorem dist_of {l : List It} (h : (l.map It.k).Nodup) : Dist l := by
  intro i j hi hj hne ⟨_, e⟩
  apply hne
  have hi' : i < (l.map It.k).length := by simpa using hi
  have hj' : j < (l.map It.k).length := by simpa using hj
  have e' : (l.map It.k)[i] = (l.map It.k)[j] := by
    simp only [List.getElem_map]
    rw [List.getD_eq_getElem?_getD, List.getElem?_eq_getElem hi, List.getD_eq_getElem?_getD, List.getElem?_eq_getElem hj] at e
    exact e
  have hp := List.pairwise_iff_getElem.mp h
  rcases Nat.lt_trichotomy i j with q | q | q
  · exact absurd e' (hp i j hi' hj' q)
  · exact q
  · exact absurd e'.symm (hp j i hj' hi' q)
theorem nodup_k {l l' : List It} (h : (l.map It.k).Nodup) (p : l'.Perm l) : (l'.map It.k).Nodup := (p.map It.k).nodup_iff.mpr h

/-- what an item of the heap stands for -/
noncomputable def Rep (w : World) (news : List (Addr × Obj)) (p : It × Nd) : Prop :=
  p.1.n = (p.2.ru.length : Int) ∧ p.1.k = (p.2.k : Int) ∧ ∃ r : Rec, p.1.x = .ref r.x ∧ IsRec w news r ∧ r.ag = p.2.ag ∧ r.ru = p.2.ru ∧ dlS r.dl = p.2.dl
theorem Rep.mono {w : World} {news news' : List (Addr × Obj)} {p : It × Nd} (h : Rep w news p) (s : ∀ q ∈ news, q ∈ news') : Rep w news' p := by
  obtain ⟨h1, h2, r, h3, h4, h5⟩ := h
  exact ⟨h1, h2, r, h3, h4.mono s, h5⟩
noncomputable def ndOf (k : Nat) (r : Rec) : Nd := ⟨k, r.ag, r.ru, dlS r.dl⟩
noncomputable def ndsFrom : Nat → List Rec → List Nd
  | _, [] => []
  | k, r :: l => ndOf k r :: ndsFrom (k + 1) l

noncomputable def ndsOf (recs : List Rec) : List Nd := (List.range recs.length).map fun j => ndOf j (recs.getD j rec0)
noncomputable def totN (l : List Nd) : Nat := (l.map fun a => a.ru.length).sum
theorem five_of {α : Type} {l : List α} (h : l.length = 5) : ∃ a b c d e, l = [a, b, c, d, e] := by
  match l, h with
  | [a, b, c, d, e], _ => exact ⟨a, b, c, d, e, rfl⟩
theorem two_of {α : Type} {l : List α} (h : 1 < l.length) : ∃ a b r, l = a :: b :: r := by
  match l, h with
  | a :: b :: r, _ => exact ⟨a, b, r, rfl⟩
theorem one_of {α : Type} {l : List α} {n : Nat} (h : l.length = n + 1) : ∃ a r, l = a :: r := by
  match l, h with
  | a :: r, _ => exact ⟨a, r, rfl⟩
theorem just_of {α : Type} {l : List α} (h1 : 1 ≤ l.length) (h : ¬ 1 < l.length) : ∃ a, l = [a] := by
  match l, h1, h with
  | [a], _, _ => exact ⟨a, rfl⟩
  | a :: b :: r, _, h => exact absurd h (by simp)
theorem nds_lens {recs : List Rec} (h5 : recs.length = 5) : (ndsOf recs).map (fun a => a.ru.length) = recs.map fun r => r.ru.length := by
  obtain ⟨r0, r1, r2, r3, r4, rfl⟩ := five_of h5
  rfl
theorem totN_perm {l l' : List Nd} (p : l.Perm l') : totN l = totN l' := (p.map _).sum_nat
theorem Rep.key {w : World} {news : List (Addr × Obj)} {p : It × Nd} (h : Rep w news p) : p.1.key = p.2.key := by
  obtain ⟨h1, h2, _⟩ := h
  unfold It.key Nd.key
  rw [h1, h2]
theorem dlS_mrg {a b : Value} (h : IsDelay b) : dlS (if b = .none then a else b) = (dlS b).or (dlS a) := by
  rcases h with rfl | ⟨i, t, rfl⟩
  · rfl
  · rfl

noncomputable def PK (ps : List (It × Nd)) : Prop := ps.Pairwise fun p q => p.2.k ≠ q.2.k
theorem PK.perm {ps ps' : List (It × Nd)} (h : PK ps) (p : ps'.Perm ps) : PK ps' := (p.pairwise_iff fun h => Ne.symm h).mpr h
theorem PK.its {ps : List (It × Nd)} (h : PK ps) (e : ∀ p ∈ ps, p.1.k = (p.2.k : Int)) : ((ps.map Prod.fst).map It.k).Nodup := by
  unfold List.Nodup
  rw [List.pairwise_map, List.pairwise_map]
  exact List.Pairwise.imp_of_mem (fun {a b} ha hb hab q => hab (by have := e a ha; have := e b hb; omega)) h
theorem PK.keys {ps : List (It × Nd)} (h : PK ps) (e : ∀ p ∈ ps, p.2.k < 16) : ((ps.map Prod.snd).map Nd.key).Nodup := by
  unfold List.Nodup
  rw [List.pairwise_map, List.pairwise_map]
  exact List.Pairwise.imp_of_mem (fun {a b} ha hb hab q => hab (by have := e a ha; have := e b hb; unfold Nd.key at q; omega)) h
theorem kok_of {ps : List (It × Nd)} (e : ∀ p ∈ ps, p.1.k = (p.2.k : Int)) (e' : ∀ p ∈ ps, p.2.k < 16) : Kok (ps.map Prod.fst) := fun i hi => by
  obtain ⟨p, hp, rfl⟩ := List.mem_map.mp hi
  have := e p hp
  have := e' p hp
  omega

theorem pop_perm {l : List It} (h : 2 ≤ l.length) : (l.dropLast.set 0 (l.getLastD it0)).Perm l.tail := by
  match l, h with
  | a :: b :: r, _ =>
    have e1 : (a :: b :: r).dropLast = a :: (b :: r).dropLast := rfl
    have e2 : (a :: b :: r).getLastD it0 = (b :: r).getLast (by simp) := by rw [List.getLastD_cons]; simp [List.getLastD_eq_getLast?, List.getLast?_eq_some_getLast]
    rw [e1, e2]
    show ((b :: r).getLast _ :: (b :: r).dropLast).Perm (b :: r)
    have := List.dropLast_concat_getLast (l := b :: r) (by simp)
    conv => rhs; rw [← this]
    exact (List.perm_append_singleton _ _).symm

section
variable {d u : Nat} {w : World} {A : Around} {E : Value → Shared → Prop} {s : Shared} {L : Addr} {h₀ : Heap} {m : Str → Option Value} {I news : List (Addr × Obj)} {Q : Value → Shared → Prop} {hp : Heap} {env : Env}
noncomputable abbrev tupO (vs : List Value) : Obj := { cls := .type "tuple", data := .seq vs.toArray }
theorem tupS {vs : List Value} (F : Fr h₀ L hp m) (N : News h₀ L hp news) (hz : vs.length ≤ 1000000)
    (h : ∀ T s', Same s s' → Fr h₀ L s'.heap m → News h₀ L s'.heap ((T, tupO vs) :: news) → (∀ p ∈ news, p.1 < T) → Q (.ref T) s') (he : s.heap = hp := by rfl) :
    wpAny (model PG w) A (newTuple vs) Q E s := by
  subst he
  exact newTupleR hz (h _ _ ⟨rfl, rfl⟩ (F.push _) (N.push F (tupO vs) rfl) fun p hp => Heap.lt_size (N p hp).1)
theorem unpS {T : Addr} {vs : List Value} {n : Nat} {Q : List Value → Shared → Prop} (hh : A.handled = none) (F : Fr h₀ L hp m) (N : News h₀ L hp news) (hT : (T, tupO vs) ∈ news) (hn : n = vs.length)
    (h : ∀ s', Same s s' → Fr h₀ L s'.heap m → News h₀ L s'.heap news → Q vs s') (he : s.heap = hp := by rfl) :
    wpAny (model PG w) A (unpackItems (.ref T) n none) Q E s := by
  subst he hn
  have := unpackItems_tuple (E := E) (Q := Q) (prog := PG) (w := w) (t := T) (items := vs.toArray) hh ⟨_, (N _ hT).1, rfl, 0, rfl⟩ fun h' he => h ⟨h', s.gens, s.drawn, s.toks, s.os⟩ ⟨rfl, rfl⟩ (F.extBut he (Nat.le_refl _)) (N.extBut he (Nat.le_refl _))
  simpa using this

/-- what the merging loop keeps, and what it ends with -/
inductive MJ (w : World) (g : Heap) (L' : Addr) (s₁ : Shared) (H : Addr) (news : List (Addr × Obj)) (recs : List Rec) (n : Nat) (s' : Shared) : Prop
  | mk (ps : List (It × Nd)) (sl : List Nd) (lines place nH : Nat) (I₁ : List (Addr × Obj)) (m' : Str → Option Value) (tl tp : Tok) (y0 : n = ps.length) (y1 : 1 ≤ ps.length) (y2 : ps.length ≤ 5) (y3 : place + ps.length = 10) (sm : Same s₁ s') (F : Fr g L' s'.heap m')
    (N : News g L' s'.heap ((H, lo ((ps.map Prod.fst).map It.v) nH) :: I₁)) (oH : Off H I₁) (hsub : ∀ p ∈ news, p ∈ I₁) (hreps : ∀ p ∈ ps, p.1.cell ∈ I₁ ∧ Rep w I₁ p ∧ p.2.k < place) (hPK : PK ps) (hHp : Hp (ps.map Prod.fst)) (hS : Srt sl) (hsl : sl.Perm (ps.map Prod.snd))
    (htot : totN (ps.map Prod.snd) ≤ 100) (hprc : prc ps.length sl lines place = prc 5 (srt (ndsOf recs)) 0 5) (e1 : m' (S "heap") = some (.ref H)) (e2 : m' (S "lines") = some (.int (lines : Nat) tl)) (e3 : m' (S "place") = some (.int (place : Nat) tp)) : MJ w g L' s₁ H news recs n s'
inductive MX (w : World) (g : Heap) (L' : Addr) (s₁ : Shared) (H : Addr) (news : List (Addr × Obj)) (recs : List Rec) (s' : Shared) : Prop
  | mk (p : It × Nd) (sl : List Nd) (lines nH : Nat) (I₁ : List (Addr × Obj)) (m' : Str → Option Value) (tl : Tok) (sm : Same s₁ s') (F : Fr g L' s'.heap m') (N : News g L' s'.heap ((H, lo [p.1.v] nH) :: I₁)) (hsub : ∀ p ∈ news, p ∈ I₁) (hc : p.1.cell ∈ I₁) (hrep : Rep w I₁ p)
    (hsl : sl = [p.2]) (hprc : prc 1 sl lines 9 = prc 5 (srt (ndsOf recs)) 0 5) (e1 : m' (S "heap") = some (.ref H)) (e2 : m' (S "lines") = some (.int (lines : Nat) tl)) : MX w g L' s₁ H news recs s'
theorem merged_call {hp₀ : Heap} (C : Cx d u w A L h₀) (F : Fr h₀ L hp₀ m) (N : News h₀ L hp₀ news) (hd : d < 500) (hu : u < 1500) {R : Addr} {k : Nat} {recs : List Rec} (hR : (R, lo (recs.map fun r => .ref r.x) k) ∈ news) (h5 : recs.length = 5) (hr : ∀ r ∈ recs, IsRec w news r)
    (hz : (recs.map fun r => r.ru.length).sum ≤ 100)
    (h : ∀ q r k tl s' news', Same s s' → Fr h₀ L s'.heap m → News h₀ L s'.heap news' → (∀ p ∈ news, p ∈ news') → (q, lo [.ref r.x, .int ((prc 5 (srt (ndsOf recs)) 0 5).2 : Nat) tl] k) ∈ news' → IsRec w news' r →
      r.ag = (prc 5 (srt (ndsOf recs)) 0 5).1.ag → r.ru = (prc 5 (srt (ndsOf recs)) 0 5).1.ru → dlS r.dl = (prc 5 (srt (ndsOf recs)) 0 5).1.dl → Q (.ref q) s') (he : s.heap = hp₀ := by rfl) :
    wpAny (model PG w) A (call (.ref 136) [.ref R]) Q E s := by
  subst he
  refine call_defC C F N rfl rfl (by omega) rfl (fun v news' => ∃ q r k tl, v = .ref q ∧ (∀ p ∈ news, p ∈ news') ∧ (q, lo [.ref r.x, .int ((prc 5 (srt (ndsOf recs)) 0 5).2 : Nat) tl] k) ∈ news' ∧ IsRec w news' r ∧
      r.ag = (prc 5 (srt (ndsOf recs)) 0 5).1.ag ∧ r.ru = (prc 5 (srt (ndsOf recs)) 0 5).1.ru ∧ dlS r.dl = (prc 5 (srt (ndsOf recs)) 0 5).1.dl) ?_ ?_ rfl (by decide)
  · intro g L' A' s₁ cells C' F₁ N₁ Y sm l lc
    obtain ⟨oR, rfl, hoR⟩ := CellsAre.one (cm := _) (n := S "records") (c := L' + 1) Y
    have hoR : IsC (some (.ref R)) oR := hoR
    have g₁ : Gw news ([(L' + 1, oR)] ++ news) := Gw.rfl'.cons (Off.lt fun p hp => Nat.lt_succ_of_lt (l p hp))
    have lenR : (recs.map fun r => Value.ref r.x).length = 5 := by simp [h5]
    refine wpAny_execs_cons (Assign_Tuple_swapped (names := [S "heap", S "lines", S "place"]) ?_)
    refine Tuple_ (spliced_more (compG (h₀ := g) (L := L') rfl (by decide) rfl (by decide) ?_))
    refine callT C' F₁ rfl boot_range (spliced_more (callB C' F₁ rfl boot_len (spliced_more (ldC N₁ (.head _) hoR (spliced_none (len_lo (N₁ _ (g₁.sub _ hR)).1 (by omega) ?_))))))
    rw [lenR]
    refine spliced_none (rangeS1 F₁ N₁ fun r t' v' s₃ sm₃ F₃ N₃ lt₃ => iterRangeS F₃ N₃ (.head _) (by rfl) fun I s₄ sm₄ F₄ N₄ lt₄ => ?_)
    have e5 : Builtin.Range.rangeSize 0 ((5 : Nat) : Int) 1 = ((5 : Nat) : Int) := by rfl
    rw [e5] at N₄
    have N₅ : News g L' s₄.heap ((I, riObj 0 (5 : Nat) 1) :: [(L' + 1, oR)] ++ news) := nsub N₄ fun p hp => by
      simp only [List.mem_cons, List.mem_append, List.cons_append, List.nil_append, List.not_mem_nil, or_false] at hp ⊢
      rcases hp with e | e | e <;> simp [e]
    refine ⟨I, riObj 0 (5 : Nat) 1, 5, _, _, _, _, _, fun i ys nw => ∃ its : List It, its.length = i ∧ ys = its.map It.v ∧ ∀ j it, its[j]? = some it → it.cell ∈ nw ∧ it.n = ((recs.getD j rec0).ru.length : Int) ∧ it.k = (j : Int) ∧ it.x = .ref (recs.getD j rec0).x,
      rfl, Wk.range (a := 0) (c := 1) (n := 5) C'.hand, by decide, by simpa using (N₅ _ (.head _)).1, F₄, N₅, Off.lt fun p hp => lt₄ p (.tail _ hp), fun _ _ => trivial, ⟨[], rfl, rfl, fun j it e => by simp at e⟩, .inr fun _ _ => rfl, ?_, ?_⟩
    · rintro i v hi ⟨t, rfl⟩
      refine turn1 rfl rfl ?_
      rintro ys nw s₅ K oK D I₂ oI₂ m₂ E' ⟨its, hil, rfl, hits⟩ g₅ sm₅ F₅ hns hx N₅
      subst hil
      have mR : (R, lo (recs.map fun r => Value.ref r.x) k) ∈ (K, oK) :: (I₂, oI₂) :: (D, lo (its.map It.v) its.length) :: nw := .tail _ (.tail _ (.tail _ (g₅.sub _ (g₁.sub _ hR))))
      have mC : (L' + 1, oR) ∈ (K, oK) :: (I₂, oI₂) :: (D, lo (its.map It.v) its.length) :: nw := .tail _ (.tail _ (.tail _ (g₅.sub _ (.head _))))
      have hri : IsRec w ((K, oK) :: (I₂, oI₂) :: (D, lo (its.map It.v) its.length) :: nw) (recs.getD its.length rec0) := (hr _ (by
        rw [List.getD_eq_getElem?_getD, List.getElem?_eq_getElem (by omega)]; exact List.getElem_mem _)).mono fun p hp => .tail _ (.tail _ (.tail _ (g₅.sub _ (g₁.sub _ hp))))
      have hget : (recs.map fun r => Value.ref r.x)[(0 + (its.length : Nat) * 1 : Int).toNat]? = some (.ref (recs.getD its.length rec0).x) := by
        have : (0 + (its.length : Nat) * 1 : Int).toNat = its.length := by omega
        rw [this, List.getElem?_map, List.getD_eq_getElem?_getD, List.getElem?_eq_getElem (by omega)]; rfl
      refine List_ (spliced_more (callB C' F₅ rfl boot_len (spliced_more (Attribute_any_ (Subscript_ ?_)))))
      refine qcell (N₅ _ mC).1 rfl hoR (qloc hns hx (tail_list (N₅ _ mR).1 (by omega) hget (by omega) ?_))
      refine getA C' F₅ N₅ hri.x hri.d rfl rfl (spliced_none (len_lo (N₅ _ hri.rl).1 (by rw [StrsAre.len hri.ru]; have := hri.z2; omega) ?_))
      refine spliced_more (qloc hns hx (spliced_more (Subscript_ (qcell (N₅ _ mC).1 rfl hoR (qloc hns hx (tail_list (N₅ _ mR).1 (by omega) hget (by omega) (spliced_none (newListS F₅ N₅ (Nat.le_of_ble_eq_true rfl) fun a s₆ sm₆ F₆ N₆ lt₆ => ?_))))))))
      rw [StrsAre.len hri.ru] at N₆
      obtain ⟨tq, N₆⟩ : ∃ tq, News g L' s₆.heap ((a, lo [.int ((recs.getD its.length rec0).ru.length : Int) tq, .int (0 + (its.length : Nat) * 1) t, .ref (recs.getD its.length rec0).x] 0) :: (K, oK) :: (I₂, oI₂) :: (D, lo (its.map It.v) its.length) :: nw) := ⟨_, N₆⟩
      refine ⟨_, Same.rfl'.nx sm₆, F₆, N₆, Gw.rfl'.cons (Off.lt lt₆), fun news₂ hin => ⟨its ++ [⟨a, ((recs.getD its.length rec0).ru.length : Int), 0 + (its.length : Nat) * 1, tq, t, .ref (recs.getD its.length rec0).x, 0⟩], by simp, by rw [List.map_append]; rfl, fun j it hj => ?_⟩⟩
      rcases Nat.lt_or_ge j its.length with q | q
      · rw [List.getElem?_append_left q] at hj
        obtain ⟨h1, h2⟩ := hits j it hj
        exact ⟨hin _ (.tail _ (.tail _ (.tail _ (.tail _ h1)))) (.inl h1), h2⟩
      · rw [List.getElem?_append_right q] at hj
        have : j = its.length := by
          rcases Nat.lt_or_ge (j - its.length) 1 with q' | q'
          · omega
          · rw [List.getElem?_eq_none (by simpa using q')] at hj; cases hj
        subst this
        rw [Nat.sub_self] at hj
        injection hj with hj
        subst hj
        exact ⟨hin _ (.head _) (.inr (Off.lt lt₆)), rfl, by dsimp only; omega, rfl⟩
    · rintro H ys nw s₅ ⟨its, hil, rfl, hits⟩ sm₅ g₅ o₅ F₅ N₅
      obtain ⟨a, b, c, dd, e, rfl⟩ := five_of hil
      have ha := hits 0 a rfl
      have hb := hits 1 b rfl
      have hc := hits 2 c rfl
      have hdd := hits 3 dd rfl
      have he := hits 4 e rfl
      have mC : (L' + 1, oR) ∈ (H, lo ([a, b, c, dd, e].map It.v) 5) :: nw := .tail _ (g₅.sub _ (.head _))
      have mR : (R, lo (recs.map fun r => Value.ref r.x) k) ∈ (H, lo ([a, b, c, dd, e].map It.v) 5) :: nw := .tail _ (g₅.sub _ (g₁.sub _ hR))
      refine spliced_more (wpAny_Constant_int ?_)
      refine spliced_more (callBh C' F₅ rfl boot_len (spliced_more ?_))
      refine ldC N₅ mC hoR (spliced_none (len_lo (N₅ _ mR).1 (by omega) (spliced_none ?_)))
      rw [lenR]
      refine tupS F₅ N₅ (Nat.le_of_ble_eq_true rfl) fun T s₆ sm₆ F₆ N₆ lt₆ => ?_
      refine unpS C'.hand F₆ N₆ (.head _) rfl fun s₇ sm₇ F₇ N₇ => ?_
      refine assignInOrder_cons ?_
      refine bindName_ (stL F₇ N₇ fun s₈ sm₈ F₈ N₈ => ?_)
      refine assignInOrder_cons ?_
      refine bindName_ (stL F₈ N₈ fun s₉ sm₉ F₉ N₉ => ?_)
      refine assignInOrder_cons ?_
      refine bindName_ (stL F₉ N₉ fun s₁₀ sm₁₀ F₁₀ N₁₀ => ?_)
      refine assignInOrder_nil ?_
      -- heapify(heap)
      have N₁₁ : News g L' s₁₀.heap ((H, lo ([a, b, c, dd, e].map It.v) 5) :: nw) := nsub N₁₀ fun p hp => .tail _ hp
      have kok : Kok [a, b, c, dd, e] := fun i hi => by
        simp only [List.mem_cons, List.not_mem_nil, or_false] at hi
        rcases hi with rfl | rfl | rfl | rfl | rfl <;> simp [ha.2.2.1, hb.2.2.1, hc.2.2.1, hdd.2.2.1, he.2.2.1]
      have hnd : ([a, b, c, dd, e].map It.k).Nodup := by
        simp only [List.map_cons, List.map_nil, ha.2.2.1, hb.2.2.1, hc.2.2.1, hdd.2.2.1, he.2.2.1]
        decide
      obtain ⟨b', d', e', q1, q2, q3, q4⟩ := su51 a b c dd e (kok b (by simp)) (kok dd (by simp)) (kok e (by simp))
      have p1 : (su [a, b, c, dd, e] 1).Perm [a, b, c, dd, e] := by
        rw [q1]
        refine perm_c fun p => ?_
        have := (q4.map p).sum_nat
        simp at this ⊢
        omega
      have k1 := kok_perm kok p1
      rw [q1] at k1
      have s5 := su5 a b' c d' e' q2 q3 (k1 a (by simp)) (k1 b' (by simp)) (k1 c (by simp)) (k1 d' (by simp)) (k1 e' (by simp))
      rw [← q1] at s5
      refine wpAny_execs_cons (wpAny_Expr (callN C' F₁₀ rfl rfl (spliced_more (ldL F₁₀ rfl (spliced_none ⟨C'.at F₁₀, ?_⟩)))))
      refine heapify_call C' F₁₀ N₁₁ o₅ (by omega) (by omega) rfl (fun i hi => ?_) (dist_of hnd) (dist_of (nodup_k hnd p1)) (by rw [q1]; rfl) (fun i hi => p1.mem_iff.mp hi) fun s₁₂ n₁₂ sm₁₂ F₁₂ N₁₂ => ?_
      · simp only [List.mem_cons, List.not_mem_nil, or_false] at hi
        rcases hi with rfl | rfl | rfl | rfl | rfl
        · exact ha.1
        · exact hb.1
        · exact hc.1
        · exact hdd.1
        · exact he.1
      have p2 := s5.2.trans p1
      obtain ⟨ps, pp, ep⟩ := perm_lift (f := Prod.fst) p2 [(a, ndOf 0 (recs.getD 0 rec0)), (b, ndOf 1 (recs.getD 1 rec0)), (c, ndOf 2 (recs.getD 2 rec0)), (dd, ndOf 3 (recs.getD 3 rec0)), (e, ndOf 4 (recs.getD 4 rec0))] rfl
      rw [← ep] at N₁₂ s5
      have hnw : ∀ p ∈ news, p ∈ nw := fun p hp => g₅.sub _ (g₁.sub _ hp)
      have repOf : ∀ j (it : It), j < 5 → it.cell ∈ nw ∧ it.n = ((recs.getD j rec0).ru.length : Int) ∧ it.k = (j : Int) ∧ it.x = .ref (recs.getD j rec0).x → it.cell ∈ nw ∧ Rep w nw (it, ndOf j (recs.getD j rec0)) ∧ (ndOf j (recs.getD j rec0)).k < 5 := fun j it hj hq =>
        ⟨hq.1, ⟨hq.2.1, hq.2.2.1, recs.getD j rec0, hq.2.2.2, (hr _ (by rw [List.getD_eq_getElem?_getD, List.getElem?_eq_getElem (by omega)]; exact List.getElem_mem _)).mono hnw, rfl, rfl, rfl⟩, hj⟩
      have e0 : ([(a, ndOf 0 (recs.getD 0 rec0)), (b, ndOf 1 (recs.getD 1 rec0)), (c, ndOf 2 (recs.getD 2 rec0)), (dd, ndOf 3 (recs.getD 3 rec0)), (e, ndOf 4 (recs.getD 4 rec0))] : List (It × Nd)).map Prod.snd = ndsOf recs := by
        unfold ndsOf; rw [h5]; rfl
      have hreps : ∀ p ∈ ps, p.1.cell ∈ nw ∧ Rep w nw p ∧ p.2.k < 5 := fun p hp => by
        have := pp.mem_iff.mp hp
        simp only [List.mem_cons, List.not_mem_nil, or_false] at this
        rcases this with rfl | rfl | rfl | rfl | rfl
        · exact repOf 0 a (by decide) ha
        · exact repOf 1 b (by decide) hb
        · exact repOf 2 c (by decide) hc
        · exact repOf 3 dd (by decide) hdd
        · exact repOf 4 e (by decide) he
      have plen : ps.length = 5 := pp.length_eq
      have psnd : (ps.map Prod.snd).Perm (ndsOf recs) := e0 ▸ pp.map Prod.snd
      have hPK : PK ps := PK.perm (ps' := ps) (ps := [(a, ndOf 0 (recs.getD 0 rec0)), (b, ndOf 1 (recs.getD 1 rec0)), (c, ndOf 2 (recs.getD 2 rec0)), (dd, ndOf 3 (recs.getD 3 rec0)), (e, ndOf 4 (recs.getD 4 rec0))]) (by
        show List.Pairwise _ _
        simp [ndOf]) pp
      have hk16 : ∀ p ∈ ps, p.2.k < 16 := fun p hp => by have := (hreps p hp).2.2; omega
      have hsrt : Srt (srt (ndsOf recs)) := srt_srt _ ((psnd.map Nd.key).nodup_iff.mp (hPK.keys hk16))
      have htot : totN (ps.map Prod.snd) ≤ 100 := by
        rw [totN_perm psnd]
        have : (ndsOf recs).map (fun a => a.ru.length) = recs.map fun r => r.ru.length := by
          exact nds_lens h5
        unfold totN
        rw [this]; exact hz
      refine wpAny_execs_cons (while_to
        (MJ w g L' s₁ H news recs) (MX w g L' s₁ H news recs)
        5 ⟨ps, srt (ndsOf recs), 0, 5, n₁₂, nw, _, _, _, plen.symm, by omega, by omega, by omega, ?_, F₁₂, N₁₂, o₅, hnw, hreps, hPK, s5.1, hsrt, (srt_perm _).trans psnd.symm, htot, by rw [plen], rfl, rfl, rfl⟩ ?_ ?_)
      · exact ((((((((Same.rfl'.nx sm₃).nx sm₄).nx sm₅).nx sm₆).nx sm₇).nx sm₈).nx sm₉).nx sm₁₀).nx sm₁₂
      · rintro n s₁₃ ⟨ps, sl, lines, place, nH, I₁, m', tl, tp, rfl, y1, y2, y3, sm₁₃, F₁₃, N₁₃, oH, hsub, hreps, hPK, hHp, hSrt, hsl, htot, hprc, e1, e2, e3⟩
        refine wpAny_isTrue_Compare1 (callBh C' F₁₃ rfl boot_len (spliced_more (ldL F₁₃ e1 (spliced_none (len_lo (N₁₃ _ (.head _)).1 (by simp; omega) (wpAny_Constant_int (gt_int (wpAny_truthy_bool ?_))))))))
        rw [List.length_map, List.length_map]
        by_cases hlt : 1 < ps.length
        · rw [decide_eq_true (by omega)]
          simp only [if_true]
          obtain ⟨p0, p1, pr, rfl⟩ := two_of hlt
          have hk : ∀ p ∈ p0 :: p1 :: pr, p.1.k = (p.2.k : Int) := fun p hp => (hreps p hp).2.1.2.1
          have hk16 : ∀ p ∈ p0 :: p1 :: pr, p.2.k < 16 := fun p hp => by have := (hreps p hp).2.2; omega
          have hkok := kok_of hk hk16
          have hndi := hPK.its hk
          have hlen : (List.map Prod.fst (p0 :: p1 :: pr)).length = pr.length + 2 := by simp
          have hcells : ∀ i ∈ List.map Prod.fst (p0 :: p1 :: pr), i.cell ∈ I₁ := fun i hi => by
            obtain ⟨p, hp, rfl⟩ := List.mem_map.mp hi
            exact (hreps p hp).1
          have y2' : pr.length + 2 ≤ 5 := by simpa using y2
          have y3' : place + (pr.length + 2) = 10 := by simpa using y3
          -- first = heappop(heap)[2]
          refine wpAny_execs_cons (wpAny_Assign_Name (Subscript_ (callNh C' F₁₃ rfl rfl (spliced_more (ldL F₁₃ e1 (spliced_none ⟨C'.at F₁₃, ?_⟩))))))
          refine heappop_call C' F₁₃ N₁₃ oH (by omega) (by omega) (by omega) (by omega) hcells (dist_of (by
            refine nodup_k ?_ (pop_perm (l := List.map Prod.fst (p0 :: p1 :: pr)) (by omega))
            exact (List.nodup_cons.mp hndi).2)) fun s₁₄ n₁₄ sm₁₄ F₁₄ N₁₄ => ?_
          obtain ⟨hHp1, hperm1⟩ := hpop_ok (by omega) (by omega) hHp hkok
          obtain ⟨r1, hx1, hr1, a1, a2, a3⟩ := (hreps p0 (.head _)).2.1.2.2
          have hc0 : (p0.1.a, lo [.int p0.1.n p0.1.t, .int p0.1.k p0.1.u, p0.1.x] p0.1.e) ∈ I₁ := (hreps p0 (.head _)).1
          refine wpAny_Constant_int (tail_list (N₁₄ _ (.tail _ hc0)).1 (by decide) rfl (Nat.le_of_ble_eq_true rfl) ?_)
          refine stL F₁₄ N₁₄ fun s₁₅ sm₁₅ F₁₅ N₁₅ => ?_
          -- both = merge_entries(first, heap[0][2])
          obtain ⟨ps1, pp1, ep1⟩ := perm_lift (f := Prod.fst) hperm1 (p1 :: pr) rfl
          obtain ⟨t0, rfl, hperm0, hSrt0⟩ := srt_head hSrt hsl (fun y hy => by
            obtain ⟨q, hq, rfl⟩ := List.mem_map.mp hy
            have := hp_head hHp q.1 (List.mem_map_of_mem hq)
            rw [(hreps p0 (.head _)).2.1.key, (hreps q (.tail _ hq)).2.1.key] at this
            exact this)
          rw [← ep1] at N₁₅ hHp1
          have plen1 : ps1.length = pr.length + 1 := pp1.length_eq
          obtain ⟨q0, qr, rfl⟩ := one_of plen1
          have hreps1 : ∀ p ∈ q0 :: qr, p.1.cell ∈ I₁ ∧ Rep w I₁ p ∧ p.2.k < place := fun p hp => hreps p (.tail _ (pp1.mem_iff.mp hp))
          have hPK1 : PK (q0 :: qr) := PK.perm (List.pairwise_cons.mp hPK).2 pp1
          obtain ⟨t1, rfl, hperm2, hSrt1⟩ := srt_head hSrt0 (hperm0.trans (pp1.map Prod.snd).symm) (fun y hy => by
            obtain ⟨q, hq, rfl⟩ := List.mem_map.mp hy
            have := hp_head hHp1 q.1 (List.mem_map_of_mem hq)
            rw [(hreps1 q0 (.head _)).2.1.key, (hreps1 q (.tail _ hq)).2.1.key] at this
            exact this)
          obtain ⟨r2, hx2, hr2, b1, b2, b3⟩ := (hreps1 q0 (.head _)).2.1.2.2
          have hc1 : (q0.1.a, lo [.int q0.1.n q0.1.t, .int q0.1.k q0.1.u, q0.1.x] q0.1.e) ∈ I₁ := (hreps1 q0 (.head _)).1
          have hsum : p0.2.ru.length + q0.2.ru.length + totN (qr.map Prod.snd) ≤ 100 := by
            have h1 : totN (List.map Prod.snd (p0 :: p1 :: pr)) = p0.2.ru.length + totN (List.map Prod.snd (p1 :: pr)) := by unfold totN; simp
            have h2 : totN (List.map Prod.snd (p1 :: pr)) = totN (List.map Prod.snd (q0 :: qr)) := totN_perm (pp1.map Prod.snd).symm
            have h3 : totN (List.map Prod.snd (q0 :: qr)) = q0.2.ru.length + totN (List.map Prod.snd qr) := by unfold totN; simp
            omega
          refine wpAny_execs_cons (wpAny_Assign_Name (callNh C' F₁₅ rfl rfl (spliced_more (ldL F₁₅ rfl (spliced_more (Subscript_ (Subscript_ ?_)))))))
          refine ldL F₁₅ e1 (wpAny_Constant_int (tail_list (N₁₅ _ (.head _)).1 (by decide) rfl (by have := plen1; simp at this ⊢; omega) (wpAny_Constant_int (tail_list (N₁₅ _ (.tail _ hc1)).1 (by decide) rfl (Nat.le_of_ble_eq_true rfl) (spliced_none ⟨C'.at F₁₅, ?_⟩)))))
          rw [hx1, hx2]
          have zsum : r1.ru.length + r2.ru.length ≤ 1000 := by rw [a2, b2]; omega
          refine merge_call C' F₁₅ N₁₅ (by omega) (hr1.mono fun p hp => .tail _ hp) (hr2.mono fun p hp => .tail _ hp) zsum fun r3 nw₁ s₁₆ sm₁₆ F₁₆ N₁₆ g₁₆ hr3 fr3 hm3 => ?_
          refine stL F₁₆ N₁₆ fun s₁₇ sm₁₇ F₁₇ N₁₇ => ?_
          have frH := fr3 _ (.head _)
          obtain ⟨I₂, mem₂⟩ : ∃ I₂ : List (Addr × Obj), ∀ {p}, p ∈ I₂ ↔ p ∈ nw₁ ∧ p.1 ≠ H := ⟨nw₁.filter fun p => decide (p.1 ≠ H), by intro p; simp [List.mem_filter]⟩
          have sub₂ : ∀ p ∈ I₁, p ∈ I₂ := fun p hp => mem₂.mpr ⟨g₁₆.sub _ (.tail _ hp), oH p hp⟩
          have oH₂ : Off H I₂ := fun p hp => (mem₂.mp hp).2
          have hr3' : IsRec w I₂ r3 := ⟨mem₂.mpr ⟨hr3.x, Nat.ne_of_gt frH.1⟩, mem₂.mpr ⟨hr3.d, Nat.ne_of_gt frH.2.1⟩, mem₂.mpr ⟨hr3.ua, Nat.ne_of_gt frH.2.2.1⟩, mem₂.mpr ⟨hr3.rl, Nat.ne_of_gt frH.2.2.2⟩, hr3.ag, hr3.ru, hr3.dl, hr3.z1, hr3.z2⟩
          have N₁₈ : News g L' s₁₇.heap ((H, lo (List.map It.v (List.map Prod.fst (q0 :: qr))) n₁₄) :: I₂) := nand N₁₇ (g₁₆.sub _ (.head _)) (nsub N₁₇ fun p hp => (mem₂.mp hp).1)
          obtain ⟨m1, m2, m3⟩ := hm3
          have len3 : r3.ru.length = (p0.2.ru ++ q0.2.ru).length := by rw [m2, a2, b2]
          -- heapreplace(heap, [..])
          refine wpAny_execs_cons (wpAny_Expr_any (callNh C' F₁₇ rfl rfl (spliced_more (ldL F₁₇ e1 (spliced_more (List_ (spliced_more (callBh C' F₁₇ rfl boot_len (spliced_more (Attribute_Name_ (ldL F₁₇ rfl ?_)))))))))))
          refine getA C' F₁₇ N₁₈ (.tail _ hr3'.x) (.tail _ hr3'.d) rfl rfl (spliced_none (len_lo (N₁₈ _ (.tail _ hr3'.rl)).1 (by rw [StrsAre.len hr3.ru]; have := hr3.z2; omega) ?_))
          rw [StrsAre.len hr3.ru]
          refine spliced_more (ldL F₁₇ e3 (spliced_more (ldL F₁₇ rfl (spliced_none (newListS F₁₇ N₁₈ (Nat.le_of_ble_eq_true rfl) fun ax s₁₉ sm₁₉ F₁₉ N₁₉ lt₁₉ => spliced_none ⟨C'.at F₁₉, ?_⟩)))))
          have axH : ax ≠ H := Nat.ne_of_gt (lt₁₉ _ (.head _))
          obtain ⟨tq, N₁₉⟩ : ∃ tq, News g L' s₁₉.heap ((ax, lo [.int (r3.ru.length : Int) tq, .int (place : Nat) tp, .ref r3.x] 0) :: (H, lo (List.map It.v (List.map Prod.fst (q0 :: qr))) n₁₄) :: I₂) := ⟨_, N₁₉⟩
          have N₂₀ : News g L' s₁₉.heap ((H, lo (List.map It.v (List.map Prod.fst (q0 :: qr))) n₁₄) :: (ax, lo [.int (r3.ru.length : Int) tq, .int (place : Nat) tp, .ref r3.x] 0) :: I₂) := nsub N₁₉ fun p hp => by
            simp only [List.mem_cons] at hp ⊢
            rcases hp with e | e | e <;> simp [e]
          have hxk : 0 ≤ (place : Int) ∧ (place : Int) < 16 := ⟨by omega, by omega⟩
          have hk1 : ∀ p ∈ q0 :: qr, p.1.k = (p.2.k : Int) := fun p hp => (hreps1 p hp).2.1.2.1
          have hk16' : ∀ p ∈ q0 :: qr, p.2.k < 16 := fun p hp => by have := (hreps1 p hp).2.2; omega
          have plen1' : qr.length = pr.length := by simpa using plen1
          have nPK : PK ((⟨ax, (r3.ru.length : Int), (place : Int), tq, tp, .ref r3.x, 0⟩, mrgN p0.2 q0.2 place) :: qr) := List.pairwise_cons.mpr ⟨fun p hp => by
            have := (hreps1 p (.tail _ hp)).2.2
            show place ≠ p.2.k
            omega, (List.pairwise_cons.mp hPK1).2⟩
          have hrepN : Rep w ((ax, lo [.int (r3.ru.length : Int) tq, .int (place : Nat) tp, .ref r3.x] 0) :: I₂) (⟨ax, (r3.ru.length : Int), (place : Int), tq, tp, .ref r3.x, 0⟩, mrgN p0.2 q0.2 place) := by
            refine ⟨?_, rfl, r3, rfl, hr3'.mono fun p hp => .tail _ hp, ?_, ?_, ?_⟩
            · show (r3.ru.length : Int) = ((p0.2.ru ++ q0.2.ru).length : Nat); rw [len3]
            · rw [m1, a1, b1]; rfl
            · rw [m2, a2, b2]; rfl
            · rw [m3, dlS_mrg hr2.dl, a3, b3]; rfl
          obtain ⟨hHp2, hperm3⟩ := hrep_ok (x := ⟨ax, (r3.ru.length : Int), (place : Int), tq, tp, .ref r3.x, 0⟩) hxk (l := List.map Prod.fst (q0 :: qr)) (by simp) (by simp; omega) hHp1 (kok_of hk1 hk16')
          refine heapreplace_call (x := ⟨ax, (r3.ru.length : Int), (place : Int), tq, tp, .ref r3.x, 0⟩) C' F₁₉ N₂₀ (Off.cons axH oH₂) (by omega) (by omega) (by simp) (by simp; omega) (fun i hi => ?_) (.head _) (dist_of ?_) fun s₂₁ n₂₁ sm₂₁ F₂₁ N₂₁ => ?_
          · obtain ⟨p, hp, rfl⟩ := List.mem_map.mp hi
            exact .tail _ (sub₂ _ (hreps1 p hp).1)
          · have := nPK.its (fun p hp => by
              rcases List.mem_cons.mp hp with rfl | hp
              · rfl
              · exact hk1 p (.tail _ hp))
            exact this
          obtain ⟨ps2, pp2, ep2⟩ := perm_lift (f := Prod.fst) hperm3 ((⟨ax, (r3.ru.length : Int), (place : Int), tq, tp, .ref r3.x, 0⟩, mrgN p0.2 q0.2 place) :: qr) rfl
          rw [← ep2] at N₂₁ hHp2
          -- lines, place = ..
          refine wpAny_execs_cons (Assign_Tuple_swapped (names := [S "lines", S "place"]) ?_)
          refine Tuple_ (spliced_more (wpAny_BinOp (ldL F₂₁ e2 (callBh C' F₂₁ rfl boot_len (spliced_more (Attribute_Name_ (ldL F₂₁ rfl ?_)))))))
          refine getA C' F₂₁ N₂₁ (.tail _ (.tail _ hr3'.x)) (.tail _ (.tail _ hr3'.d)) rfl rfl (spliced_none (len_lo (N₂₁ _ (.tail _ (.tail _ hr3'.rl))).1 (by rw [StrsAre.len hr3.ru]; have := hr3.z2; omega) (add_int ?_)))
          rw [StrsAre.len hr3.ru, show ((lines : Int) + (r3.ru.length : Int)) = ((lines + (p0.2.ru ++ q0.2.ru).length : Nat) : Int) by rw [len3]; omega]
          refine spliced_more (wpAny_BinOp (ldL F₂₁ e3 (wpAny_Constant_int (add_int ?_))))
          rw [show ((place : Int) + 1) = ((place + 1 : Nat) : Int) by omega]
          refine spliced_none (tupS F₂₁ N₂₁ (Nat.le_of_ble_eq_true rfl) fun T s₂₂ sm₂₂ F₂₂ N₂₂ lt₂₂ => ?_)
          refine unpS C'.hand F₂₂ N₂₂ (.head _) rfl fun s₂₃ sm₂₃ F₂₃ N₂₃ => ?_
          refine assignInOrder_cons ?_
          refine bindName_ (stL F₂₃ N₂₃ fun s₂₄ sm₂₄ F₂₄ N₂₄ => ?_)
          refine assignInOrder_cons ?_
          refine bindName_ (stL F₂₄ N₂₄ fun s₂₅ sm₂₅ F₂₅ N₂₅ => ?_)
          refine assignInOrder_nil (wpAny_execs_nil ?_)
          obtain ⟨m₅, tl', tp', F₂₅, f1, f2, f3⟩ : ∃ mm tl' tp', Fr g L' s₂₅.heap mm ∧ mm (S "heap") = some (.ref H) ∧ mm (S "lines") = some (.int ((lines + (p0.2.ru ++ q0.2.ru).length : Nat) : Int) tl') ∧ mm (S "place") = some (.int ((place + 1 : Nat) : Int) tp') :=
            ⟨_, _, _, F₂₅, e1, rfl, rfl⟩
          have plen2 : ps2.length = pr.length + 1 := by rw [pp2.length_eq]; simp [plen1']
          have hreps2 : ∀ p ∈ ps2, p.1.cell ∈ (ax, lo [.int (r3.ru.length : Int) tq, .int (place : Nat) tp, .ref r3.x] 0) :: I₂ ∧ Rep w ((ax, lo [.int (r3.ru.length : Int) tq, .int (place : Nat) tp, .ref r3.x] 0) :: I₂) p ∧ p.2.k < place + 1 := fun p hp => by
            rcases List.mem_cons.mp (pp2.mem_iff.mp hp) with rfl | hp
            · exact ⟨.head _, hrepN, by show place < place + 1; omega⟩
            · obtain ⟨z1, z2, z3⟩ := hreps1 p (.tail _ hp)
              exact ⟨.tail _ (sub₂ _ z1), z2.mono fun q hq => .tail _ (sub₂ _ hq), by omega⟩
          have hsl2 : (ins (mrgN p0.2 q0.2 place) t1).Perm (ps2.map Prod.snd) := (ins_perm _ _).trans ((hperm2.cons _).trans (pp2.map Prod.snd).symm)
          refine ⟨ps2.length, by rw [plen2]; simp, ps2, ins (mrgN p0.2 q0.2 place) t1, lines + (p0.2.ru ++ q0.2.ru).length, place + 1, n₂₁, (ax, lo [.int (r3.ru.length : Int) tq, .int (place : Nat) tp, .ref r3.x] 0) :: I₂, m₅, tl', tp', rfl, by omega, by omega, by omega, ?_, F₂₅, nsub N₂₅ fun p hp => .tail _ hp, Off.cons axH oH₂, fun p hp => .tail _ (sub₂ _ (hsub p hp)), hreps2, nPK.perm pp2, hHp2, ?_, hsl2, ?_, ?_, f1, f2, f3⟩
          · exact (((((((((sm₁₃.nx sm₁₄).nx sm₁₅).nx sm₁₆).nx sm₁₇).nx sm₁₉).nx sm₂₁).nx sm₂₂).nx sm₂₃).nx sm₂₄).nx sm₂₅
          · refine ins_srt _ _ hSrt1 fun y hy => ?_
            obtain ⟨q, hq, rfl⟩ := List.mem_map.mp (hperm2.mem_iff.mp hy)
            have := (hreps1 q (.tail _ hq)).2.2
            unfold Nd.key mrgN
            dsimp only
            omega
          · have h1 : totN (List.map Prod.snd ps2) = totN (List.map Prod.snd ((⟨ax, (r3.ru.length : Int), (place : Int), tq, tp, .ref r3.x, 0⟩, mrgN p0.2 q0.2 place) :: qr)) := totN_perm (pp2.map Prod.snd)
            have h2 : totN (List.map Prod.snd (((⟨ax, (r3.ru.length : Int), (place : Int), tq, tp, .ref r3.x, 0⟩ : It), mrgN p0.2 q0.2 place) :: qr)) = (p0.2.ru.length + q0.2.ru.length) + totN (List.map Prod.snd qr) := by unfold totN; simp [mrgN]
            omega
          · rw [← hprc, plen2]; rfl
        · rw [decide_eq_false (by omega)]
          simp only [Bool.false_eq_true, if_false]
          obtain ⟨p, rfl⟩ := just_of y1 hlt
          have hsl1 : sl = [p.2] := List.perm_singleton.mp hsl
          have hp9 : place = 9 := by simp at y3; omega
          subst hp9
          exact ⟨p, sl, lines, nH, I₁, m', tl, ⟨sm₁₃.gens, sm₁₃.os⟩, F₁₃, N₁₃, hsub, (hreps p (by simp)).1, (hreps p (by simp)).2.1, hsl1, hprc, e1, e2⟩
      · rintro s₁₃ ⟨p, sl, lines, nH, I₁, m', tl, sm₁₃, F₁₃, N₁₃, hsub, hcell, hrep, hsl, hprc, e1, e2⟩
        obtain ⟨z1, z2, r, hx, hr, a1, a2, a3⟩ := hrep
        subst hsl
        have hc0 : (p.1.a, lo [.int p.1.n p.1.t, .int p.1.k p.1.u, p.1.x] p.1.e) ∈ I₁ := hcell
        refine wpAny_execs_cons (wpAny_Return_some (List_ (spliced_more (Subscript_ (Subscript_ ?_)))))
        refine ldL F₁₃ e1 (wpAny_Constant_int (tail_list (N₁₃ _ (.head _)).1 (by decide) rfl (Nat.le_of_ble_eq_true rfl) (wpAny_Constant_int (tail_list (N₁₃ _ (.tail _ hc0)).1 (by decide) rfl (Nat.le_of_ble_eq_true rfl) ?_))))
        rw [hx]
        refine spliced_more (ldL F₁₃ e2 (spliced_none (newListS F₁₃ N₁₃ (Nat.le_of_ble_eq_true rfl) fun q s₁₄ sm₁₄ F₁₄ N₁₄ lt₁₄ => ?_)))
        refine ⟨_, _, sm₁₃.nx sm₁₄, F₁₄, N₁₄, q, r, 0, tl, rfl, fun p hp => .tail _ (.tail _ (hsub p hp)), ?_, hr.mono fun p hp => .tail _ (.tail _ hp), ?_, ?_, ?_⟩
        · rw [← hprc]; exact .head _
        · rw [← hprc]; exact a1
        · rw [← hprc]; exact a2
        · rw [← hprc]; exact a3
  · rintro v s' news' sm F' N' ⟨q, r, k, tl, rfl, q1, q2, q3, q4, q5, q6⟩
    exact h q r k tl s' news' sm F' N' q1 q2 q3 q4 q5 q6
end
end Mine
end

-- SortT
section
open PySem PySem.W PyProof.Rows PySem.Calls
set_option maxRecDepth 100000
set_option maxHeartbeats 2000000
namespace Mine
noncomputable def runT {α : Type} (lt : Nat → Nat → Bool) : KasT α → α
  | .ret a => a
  | .ask i j k => runT lt (k (lt i j))
noncomputable def inT {α : Type} (n : Nat) : KasT α → Bool
  | .ret _ => true
  | .ask i j k => decide (i < n) && (decide (j < n) && decide (i ≠ j)) && inT n (k true) && inT n (k false)
noncomputable def okR (n : Nat) (r : List Nat) : Bool :=
  let p := (runT (fun i j => decide (r.getD i 0 < r.getD j 0)) (kas_sort n)).toList
  p.isPerm (List.range n) && ((List.range n).all fun i => (List.range n).all fun j => !decide (i < j) || decide (r.getD (p.getD i 0) 0 < r.getD (p.getD j 0) 0))
noncomputable def allL : Nat → Nat → List (List Nat)
  | 0, _ => [[]]
  | n + 1, m => (allL n m).flatMap fun l => (List.range m).filterMap fun x => if l.contains x then none else some (x :: l)
theorem ok_all : ∀ n, 2 ≤ n → n ≤ 5 → (allL n n).all (okR n) = true ∧ inT n (kas_sort n) = true := by
  intro n h1 h2
  have : n = 2 ∨ n = 3 ∨ n = 4 ∨ n = 5 := by omega
  rcases this with rfl | rfl | rfl | rfl
  · exact ⟨by decide +kernel, by decide +kernel⟩
  · exact ⟨by decide +kernel, by decide +kernel⟩
  · exact ⟨by decide +kernel, by decide +kernel⟩
  · exact ⟨by decide +kernel, by decide +kernel⟩
theorem mem_allL : ∀ (l : List Nat) (m : Nat), (∀ x ∈ l, x < m) → l.Nodup → l ∈ allL l.length m
  | [], _, _, _ => .head _
  | x :: l, m, h, hn => by
    have hn := List.nodup_cons.mp hn
    refine List.mem_flatMap.mpr ⟨l, mem_allL l m (fun y hy => h y (.tail _ hy)) hn.2, List.mem_filterMap.mpr ⟨x, List.mem_range.mpr (h x (.head _)), ?_⟩⟩
    rw [if_neg (by simpa using hn.1)]
theorem run_congr {α : Type} {n : Nat} {lt lt' : Nat → Nat → Bool} (h : ∀ i j, i < n → j < n → lt i j = lt' i j) : ∀ t : KasT α, inT n t = true → runT lt t = runT lt' t
  | .ret _, _ => rfl
  | .ask i j k, ht => by
    simp only [inT, Bool.and_eq_true, decide_eq_true_eq] at ht
    obtain ⟨⟨⟨h1, h2, _⟩, h3⟩, h4⟩ := ht
    show runT lt (k (lt i j)) = runT lt' (k (lt' i j))
    rw [h i j h1 h2]
    cases lt' i j
    · exact run_congr h _ h4
    · exact run_congr h _ h3
theorem wp_run {α : Type} {n : Nat} {lt : Nat → Nat → Bool} {cmp : Nat → Nat → (Bool → Shared → Prop) → Shared → Prop} {s : Shared} (h : ∀ i j C, i < n → j < n → i ≠ j → C (lt i j) s → cmp i j C s) : ∀ (t : KasT α) (Q : α → Shared → Prop), inT n t = true → Q (runT lt t) s → t.kasWp cmp Q s
  | .ret _, _, _, q => q
  | .ask i j k, Q, ht, q => by
    simp only [inT, Bool.and_eq_true, decide_eq_true_eq] at ht
    obtain ⟨⟨⟨h1, h2, h12⟩, h3⟩, h4⟩ := ht
    refine h i j _ h1 h2 h12 ?_
    refine wp_run h _ _ ?_ q
    cases lt i j
    · exact h4
    · exact h3
theorem cnt_le {α : Type} {p q : α → Bool} : ∀ {l : List α}, (∀ x ∈ l, p x = true → q x = true) → l.countP p ≤ l.countP q
  | [], _ => Nat.le_refl _
  | x :: l, h => by
    have ih := cnt_le (l := l) fun y hy => h y (.tail _ hy)
    rw [List.countP_cons, List.countP_cons]
    have := h x (.head _)
    cases hp : p x <;> cases hq : q x <;> simp_all <;> omega
theorem cnt_lt {α : Type} {p q : α → Bool} : ∀ {l : List α}, (∀ x ∈ l, p x = true → q x = true) → (∃ x ∈ l, q x = true ∧ p x = false) → l.countP p < l.countP q
  | [], _, ⟨_, h, _⟩ => nomatch h
  | x :: l, h, ⟨y, hy, h1, h2⟩ => by
    rw [List.countP_cons, List.countP_cons]
    rcases List.mem_cons.mp hy with rfl | hy
    · have ih := cnt_le (l := l) fun z hz => h z (.tail _ hz)
      rw [h1, h2]; simp; omega
    · have ih := cnt_lt (l := l) (fun z hz => h z (.tail _ hz)) ⟨y, hy, h1, h2⟩
      have := h x (.head _)
      cases hp : p x <;> cases hq : q x <;> simp_all <;> omega
noncomputable def rank (ks : List Int) (i : Nat) : Nat := (List.range ks.length).countP fun j => decide (ks.getD j 0 < ks.getD i 0)
theorem rank_lt {ks : List Int} {i j : Nat} (hi : i < ks.length) (h : ks.getD i 0 < ks.getD j 0) : rank ks i < rank ks j :=
  cnt_lt (fun x _ q => by simp only [decide_eq_true_eq] at q ⊢; omega) ⟨i, List.mem_range.mpr hi, by simpa using h, by simp⟩
theorem rank_n {ks : List Int} {i : Nat} (hi : i < ks.length) : rank ks i < ks.length := by
  have : rank ks i < (List.range ks.length).countP fun _ => true := cnt_lt (fun _ _ _ => rfl) ⟨i, List.mem_range.mpr hi, rfl, by simp⟩
  simpa using this

/-- the sort by a key gives the list in order -/
theorem sort_ok {ks : List Int} (h2 : 2 ≤ ks.length) (h5 : ks.length ≤ 5) (hn : ks.Nodup) :
    ∃ p : List Nat, (runT (fun i j => decide (ks.getD i 0 < ks.getD j 0)) (kas_sort ks.length)).toList = p ∧ p.Perm (List.range ks.length) ∧ ∀ i j, i < j → j < ks.length → ks.getD (p.getD i 0) 0 < ks.getD (p.getD j 0) 0 := by
  obtain ⟨ha, ht⟩ := ok_all ks.length h2 h5
  have inj : ∀ i j, i < ks.length → j < ks.length → i ≠ j → ks.getD i 0 ≠ ks.getD j 0 := fun i j hi hj hij e => by
    rw [List.getD_eq_getElem?_getD, List.getElem?_eq_getElem hi, List.getD_eq_getElem?_getD, List.getElem?_eq_getElem hj] at e
    have hp := List.pairwise_iff_getElem.mp hn
    rcases Nat.lt_or_gt_of_ne hij with q | q
    · exact hp i j hi hj q e
    · exact hp j i hj hi q e.symm
  have iff : ∀ i j, i < ks.length → j < ks.length → (rank ks i < rank ks j ↔ ks.getD i 0 < ks.getD j 0) := fun i j hi hj => by
    refine ⟨fun h => ?_, rank_lt hi⟩
    by_cases e : i = j
    · subst e; omega
    · have := inj i j hi hj e
      rcases Int.lt_or_gt_of_ne this with q | q
      · exact q
      · have := rank_lt hj q; omega
  let r := (List.range ks.length).map (rank ks)
  have rl : r.length = ks.length := by simp [r]
  have rget : ∀ i, i < ks.length → r.getD i 0 = rank ks i := fun i hi => by
    rw [List.getD_eq_getElem?_getD, List.getElem?_map, List.getElem?_range hi]; rfl
  have rn : r.Nodup := by
    show List.Pairwise _ _
    rw [List.pairwise_map]
    refine List.Pairwise.imp_of_mem (fun {a b} ha hb hab q => ?_) (List.nodup_range (n := ks.length))
    have ha := List.mem_range.mp ha
    have hb := List.mem_range.mp hb
    rcases Int.lt_or_gt_of_ne (inj a b ha hb hab) with z | z
    · have := rank_lt ha z; omega
    · have := rank_lt hb z; omega
  have hmem : r ∈ allL ks.length ks.length := rl ▸ mem_allL r _ (fun x hx => by
    obtain ⟨i, hi, rfl⟩ := List.mem_map.mp hx
    rw [rl]; exact rank_n (List.mem_range.mp hi)) rn
  have hok := List.all_eq_true.mp ha r hmem
  have hrun : runT (fun i j => decide (r.getD i 0 < r.getD j 0)) (kas_sort ks.length) = runT (fun i j => decide (ks.getD i 0 < ks.getD j 0)) (kas_sort ks.length) := run_congr (fun i j hi hj => by
    rw [rget i hi, rget j hj]; exact decide_eq_decide.mpr (iff i j hi hj)) _ ht
  unfold okR at hok
  rw [hrun] at hok
  refine ⟨_, rfl, ?_⟩
  generalize (runT (fun i j => decide (ks.getD i 0 < ks.getD j 0)) (kas_sort ks.length)).toList = p at hok ⊢
  simp only [Bool.and_eq_true, List.all_eq_true, List.mem_range, Bool.or_eq_true, Bool.not_eq_true', decide_eq_false_iff_not, decide_eq_true_eq] at hok
  have hp : p.Perm (List.range ks.length) := List.isPerm_iff.mp hok.1
  refine ⟨hp, fun i j hij hj => ?_⟩
  have hin : ∀ i, i < ks.length → p.getD i 0 < ks.length := fun i hi => by
    have hi' : i < p.length := by rw [hp.length_eq]; simpa using hi
    rw [List.getD_eq_getElem?_getD, List.getElem?_eq_getElem hi']
    exact List.mem_range.mp (hp.mem_iff.mp (List.getElem_mem hi'))
  rcases hok.2 i (by omega) j hj with q | q
  · exact absurd hij q
  · rw [rget _ (hin i (by omega)), rget _ (hin j hj)] at q
    exact (iff _ _ (hin i (by omega)) (hin j hj)).mp q
end Mine
end

-- SortS
section
open PySem PySem.W PyProof.Rows PySem.Calls
set_option maxRecDepth 100000
set_option maxHeartbeats 2000000
namespace Mine
section
variable {d u : Nat} {w : World} {A : Around} {E : Value → Shared → Prop} {s : Shared} {L : Addr} {h₀ : Heap} {m : Str → Option Value} {I news : List (Addr × Obj)} {hp : Heap}

theorem sort_lt {a b : Addr} {n n' k k' : Int} {t t' u u' : Tok} {x x' : Value} {e e' : Nat} {Q : Bool → Shared → Prop} (hu : A.units < cLine) (hl : s.heap.get? a = some (W.listOf #[.int n t, .int k u, x] e)) (hb : s.heap.get? b = some (W.listOf #[.int n' t', .int k' u', x'] e')) (hne : ¬ (n = n' ∧ k = k'))
    (h : Q (decide (n < n' ∨ n = n' ∧ k < k')) s) : wpAny (model PG w) A (keyLt' oneType' (.ref a) (.ref b)) Q E s := by
  rw [keyLt'_oneType, oneLt'_eq]
  simp only [if_true]
  have hT : s.TypeIs (.ref a) "list" := ⟨_, hl, rfl⟩
  refine wpAny_bind (wpAny_cRoomFor hu ?_)
  refine wpAny_bind (wpAny_callSpecialIfBound?_slot hT PySem.F.slot_list_lt (call_meets PySem.F.slot_list_lt hT PySem.F.entry_list_lt (PySem.F.args_list_lt_2 _ _) (list_lt a b n n' k k' t t' u u' x x' e e' hne) ⟨hl, hb, ?_⟩))
  exact wpAny_truthy_bool h

theorem sortedS {hp₀ : Heap} (hu : A.units + 100 < cLine) (F : Fr h₀ L hp₀ m) (N : News h₀ L hp₀ news) {P : Addr} {n : Nat} {its : List It} {Q : Value → Shared → Prop} (hl : (P, lo (its.map It.v) n) ∈ news) (h2 : 2 ≤ its.length) (h5 : its.length ≤ 5) (hc : ∀ i ∈ its, i.cell ∈ news) (hk : Kok its) (hn : (its.map It.k).Nodup)
    (h : ∀ (D : Addr) (its' : List It) (c : Nat) (s' : Shared), Same s s' → Fr h₀ L s'.heap m → News h₀ L s'.heap ((D, lo (its'.map It.v) c) :: news) → (∀ p ∈ news, p.1 < D) → its'.Perm its → (its'.Pairwise fun a b => a.key < b.key) → Q (.ref D) s') (he : s.heap = hp₀ := by rfl) :
    wpAny (model PG w) A (call (.builtin "sorted") [.ref P]) Q E s := by
  subst he
  refine kas_sorted (T := .type "list") F N ⟨_, (N _ hl).1, rfl, n, rfl⟩ (by simpa using h2) (by simp; omega) (fun hq _ Nq v hv => ?_) (by decide) fun D e1 h' F' N' lt => ?_
  · obtain ⟨i, hi, rfl⟩ := List.mem_map.mp hv
    exact fun A Q E s k q => wpAny_typeOf ⟨_, k _ _ (Nq _ (hc i hi)).1, rfl⟩ q
  have hdist := dist_of hn
  have getv : ∀ i, i < its.length → (its.map It.v).getD i Value.none = (its.getD i it0).v := fun i hi => by
    rw [List.getD_eq_getElem?_getD, getD_map_v its i hi]; rfl
  have kl : (its.map It.key).length = its.length := by simp
  have kget : ∀ i, i < its.length → (its.map It.key).getD i 0 = (its.getD i it0).key := fun i hi => by
    rw [List.getD_eq_getElem?_getD, List.getElem?_map, List.getElem?_eq_getElem hi, List.getD_eq_getElem?_getD, List.getElem?_eq_getElem hi]; rfl
  have kn : (its.map It.key).Nodup := by
    unfold List.Nodup at hn ⊢
    rw [List.pairwise_map] at hn ⊢
    exact List.Pairwise.imp_of_mem (fun {a b} ha hb hab q => hab (by have := hk a ha; have := hk b hb; unfold It.key at q; omega)) hn
  obtain ⟨p, hp, hperm, hord⟩ := sort_ok (ks := its.map It.key) (by omega) (by omega) kn
  rw [kl] at hp hperm hord
  have htree := (ok_all its.length h2 h5).2
  have hlen : (its.map It.v).length = its.length := by simp
  rw [hlen]
  refine wp_run (n := its.length) (lt := fun i j => decide ((its.map It.key).getD i 0 < (its.map It.key).getD j 0)) (fun i j C hi hj hij hC => ?_) _ _ htree ?_
  · unfold kas_ask
    rw [getv i hi, getv j hj]
    have hi' := hc _ (getD_mem its i hi)
    have hj' := hc _ (getD_mem its j hj)
    refine sort_lt (by show A.units + 1 + 1 < cLine; omega) (N' _ (.tail _ hi')).1 (N' _ (.tail _ hj')).1 (hdist i j hi hj hij) ?_
    have e : decide ((its.getD i it0).n < (its.getD j it0).n ∨ (its.getD i it0).n = (its.getD j it0).n ∧ (its.getD i it0).k < (its.getD j it0).k) = decide ((its.map It.key).getD i 0 < (its.map It.key).getD j 0) := by
      rw [kget i hi, kget j hj]
      exact lt_key (hk _ (getD_mem its i hi)) (hk _ (getD_mem its j hj))
    rw [e]
    exact hC
  · rw [hp]
    have hin : ∀ i ∈ p, i < its.length := fun i hi => List.mem_range.mp (hperm.mem_iff.mp hi)
    have hout : (p.map fun i => (its.map It.v).getD i Value.none) = (p.map fun i => its.getD i it0).map It.v := by
      rw [List.map_map]
      exact List.map_congr_left fun i hi => getv i (hin i hi)
    rw [hout]
    refine KasFin.intro (s := ⟨h', s.gens, s.drawn, s.toks, s.os⟩) F' N' (.head fun q hq => Nat.ne_of_lt (lt q hq)) fun h'' c F'' N'' => ?_
    refine h D (p.map fun i => its.getD i it0) c ⟨h'', s.gens, s.drawn, s.toks, s.os⟩ ⟨rfl, rfl⟩ F'' N'' lt ?_ ?_
    · have e : (List.range its.length).map (fun i => its.getD i it0) = its := by
        apply List.ext_getElem?
        intro i
        rw [List.getElem?_map]
        rcases Nat.lt_or_ge i its.length with q | q
        · rw [List.getElem?_range q, List.getElem?_eq_getElem q, Option.map_some, List.getD_eq_getElem?_getD, List.getElem?_eq_getElem q]; rfl
        · rw [List.getElem?_eq_none (by simpa using q), List.getElem?_eq_none q]; rfl
      have := hperm.map fun i => its.getD i it0
      rwa [e] at this
    · rw [List.pairwise_map, List.pairwise_iff_getElem]
      intro i j hi hj hij
      have pl : p.length = its.length := by rw [hperm.length_eq]; simp
      have := hord i j hij (by omega)
      rw [List.getD_eq_getElem?_getD (l := p), List.getElem?_eq_getElem hi, List.getD_eq_getElem?_getD (l := p), List.getElem?_eq_getElem hj] at this
      rw [← kget _ (hin _ (List.getElem_mem hi)), ← kget _ (hin _ (List.getElem_mem hj))]
      exact this
end
end Mine
end

-- Due
section
open PySem PySem.W PyProof.Rows PySem.Calls
set_option maxRecDepth 100000
set_option maxHeartbeats 2000000
namespace Mine
open LCg
/-- a part: a list of agents, delay and rules -/
noncomputable def PRep (news : List (Addr × Obj)) (q : Addr) (nd : Nd) : Prop :=
  ∃ al rl av rv dv k k1 k2, (q, lo [.ref al, dv, .ref rl] k) ∈ news ∧ (al, lo av k1) ∈ news ∧ (rl, lo rv k2) ∈ news ∧ StrsAre av nd.ag ∧ StrsAre rv nd.ru ∧ IsDelay dv ∧ dlS dv = nd.dl ∧ nd.ag.length ≤ 1000
theorem PRep.mono {news news' : List (Addr × Obj)} {q : Addr} {nd : Nd} (h : PRep news q nd) (s : ∀ p ∈ news, p ∈ news') : PRep news' q nd := by
  obtain ⟨al, rl, av, rv, dv, k, k1, k2, a, b, c, r⟩ := h
  exact ⟨al, rl, av, rv, dv, k, k1, k2, s _ a, s _ b, s _ c, r⟩
noncomputable def Rep' (news : List (Addr × Obj)) (p : It × Nd) : Prop :=
  p.1.n = (p.2.ru.length : Int) ∧ p.1.k = (p.2.k : Int) ∧ ∃ q : Addr, p.1.x = .ref q ∧ PRep news q p.2
theorem Rep'.mono {news news' : List (Addr × Obj)} {p : It × Nd} (h : Rep' news p) (s : ∀ q ∈ news, q ∈ news') : Rep' news' p := by
  obtain ⟨h1, h2, q, h3, h4⟩ := h
  exact ⟨h1, h2, q, h3, h4.mono s⟩
theorem Rep'.key {news : List (Addr × Obj)} {p : It × Nd} (h : Rep' news p) : p.1.key = p.2.key := by
  obtain ⟨h1, h2, _⟩ := h
  unfold It.key Nd.key
  rw [h1, h2]
theorem le_sum : ∀ {l : List Nat} {x : Nat}, x ∈ l → x ≤ l.sum
  | y :: l, x, h => by
    rw [List.sum_cons]
    rcases List.mem_cons.mp h with rfl | h
    · omega
    · have := le_sum h; omega

section
variable {d u : Nat} {w : World} {A : Around} {E : Value → Shared → Prop} {s : Shared} {L : Addr} {h₀ : Heap} {m : Str → Option Value} {I news : List (Addr × Obj)} {Q : Value → Shared → Prop} {hp : Heap}

theorem inR {l : Addr} {vs : List Value} {n : Nat} {xs : List Str} {k : Str} {t : Tok} (hl : hp.get? l = some (lo vs n)) (hi : StrsAre vs xs) (hz : xs.length ≤ 10000) (h : Q (.bool (decide (k ∈ xs))) s) (he : s.heap = hp := by rfl) :
    wpAny (model PG w) A (compareOp .In (.str k t) (.ref l)) Q E s := by
  subst he
  have e : (xs.any (· == k)) = decide (k ∈ xs) := by
    rw [Bool.eq_iff_iff, List.any_eq_true, decide_eq_true_eq]
    exact ⟨fun ⟨x, hx, q⟩ => by rw [← eq_of_beq q]; exact hx, fun q => ⟨k, q, by simp⟩⟩
  exact in_list_strs ⟨_, hl, rfl, n, rfl⟩ hi (by rw [e]; exact h)

theorem five_snd {a b c dd e : It} {parts : List (Addr × Nd)} (h5 : parts.length = 5) : ([(a, (parts.getD 0 (0, nd0)).2), (b, (parts.getD 1 (0, nd0)).2), (c, (parts.getD 2 (0, nd0)).2), (dd, (parts.getD 3 (0, nd0)).2), (e, (parts.getD 4 (0, nd0)).2)] : List (It × Nd)).map Prod.snd = parts.map Prod.snd := by
  obtain ⟨r0, r1, r2, r3, r4, rfl⟩ := five_of h5
  rfl
theorem asgT {T : Addr} {vs : List Value} {env : Env} {elts : List PySem.Expr} {x1 : Nat} {pos : Pos} {Q : Unit → Shared → Prop} (hh : A.handled = none) (F : Fr h₀ L hp m) (N : News h₀ L hp news) (hT : (T, tupO vs) ∈ news)
    (hn : (assignEach elts env).length = vs.length) (hstar : (assignEach elts env).findIdx? (·.1) = none)
    (h : ∀ s', Same s s' → Fr h₀ L s'.heap m → News h₀ L s'.heap news → wpAny (model PG w) A (assignInOrder ((assignEach elts env).map (·.2)) vs) Q E s') (he : s.heap = hp := by rfl) :
    wpAny (model PG w) A (assign (.Tuple elts x1 pos) env (.ref T)) Q E s := by
  subst he
  refine assign_Tuple_tuple (items := vs.toArray) hh ⟨_, (N _ hT).1, rfl, 0, rfl⟩ (by simpa using hn) hstar fun h' he => ?_
  exact h ⟨h', s.gens, s.drawn, s.toks, s.os⟩ ⟨rfl, rfl⟩ (F.extBut he (Nat.le_refl _)) (N.extBut he (Nat.le_refl _))

/-- l[lo:hi] -/
theorem sliceS {value slice : PySem.Expr} {l : Addr} {vs : List Value} {n : Nat} {vl vu : Value} {lw hw : Option Int} {s : Shared} (F : Fr h₀ L s.heap m) (N : News h₀ L s.heap news) (hl : (l, lo vs n) ∈ news) (pl : IsPart vl lw) (pu : IsPart vu hw) (hz : vs.length ≤ 1000000)
    (h : ∀ D s', Same s s' → Fr h₀ L s'.heap m → News h₀ L s'.heap ((D, lo (kms_pick vs lw hw) 0) :: news) → (∀ p ∈ news, p.1 < D) → Q (.ref D) s')
    (hs : subscripted slice false (.ref l) (.ref s.heap.objs.size) = operate [.ref s.heap.objs.size, .ref l] (getItem (.ref l) (.ref s.heap.objs.size)) := by with_unfolding_all rfl) (ht : ∀ r, letTemporaryGo value (.ref l) r = pure () := by intro _; with_unfolding_all rfl) :
    wpAny (model PG w) A (subscriptTail value slice (.ref l) (.ref s.heap.objs.size)) Q E { s with heap := s.heap.push { cls := .type "slice", data := .fields #[vl, vu, .none] } } :=
  kms_slice_lit (its := vs.toArray) F N ⟨_, (N _ hl).1, rfl, n, rfl⟩ pl pu rfl (fun D h' F' N' l => h D _ ⟨rfl, rfl⟩ F' (by simpa using N') l) hs ht (by rw [sizeLine_eq]; simp; omega)

/-- what the loop keeps, and what it ends with -/
inductive DJ (g : Heap) (L' : Addr) (s₁ : Shared) (news : List (Addr × Obj)) (parts : List (Addr × Nd)) (n : Nat) (s' : Shared) : Prop
  | mk (ps : List (It × Nd)) (sl : List Nd) (ln place : Nat) (D : Addr) (nD : Nat) (oO : Obj) (v₀ : Option Value) (I₁ : List (Addr × Obj)) (m' : Str → Option Value) (tp : Tok) (y0 : n = ps.length) (y1 : 1 ≤ ps.length) (y2 : ps.length ≤ 5) (y3 : place + ps.length = 10)
    (sm : Same s₁ s') (F : Fr g L' s'.heap m') (N : News g L' s'.heap ((L' + 1 + 1, oO) :: I₁)) (oI : Off (L' + 1 + 1) I₁) (hoO : IsC v₀ oO) (hsub : ∀ p ∈ news, p ∈ I₁) (mD : (D, lo ((ps.map Prod.fst).map It.v) nD) ∈ I₁)
    (hreps : ∀ p ∈ ps, p.1.cell ∈ I₁ ∧ Rep' I₁ p ∧ p.2.k < place) (hPK : PK ps) (hS : Srt sl) (hsl : sl.Perm (ps.map Prod.snd)) (htot : totN (ps.map Prod.snd) ≤ 100) (hprc : prc ps.length sl ln place = prc 5 (srt (parts.map Prod.snd)) 0 5)
    (e1 : m' (S "piles") = some (.ref D)) (e3 : m' (S "place") = some (.int (place : Nat) tp)) : DJ g L' s₁ news parts n s'
inductive DX (g : Heap) (L' : Addr) (s₁ : Shared) (news : List (Addr × Obj)) (parts : List (Addr × Nd)) (s' : Shared) : Prop
  | mk (p : It × Nd) (D : Addr) (nD : Nat) (I₁ : List (Addr × Obj)) (m' : Str → Option Value) (sm : Same s₁ s') (F : Fr g L' s'.heap m') (N : News g L' s'.heap I₁) (hsub : ∀ p ∈ news, p ∈ I₁) (mD : (D, lo [p.1.v] nD) ∈ I₁) (hc : p.1.cell ∈ I₁) (hrep : Rep' I₁ p)
    (hp : p.2 = (prc 5 (srt (parts.map Prod.snd)) 0 5).1) (e1 : m' (S "piles") = some (.ref D)) : DX g L' s₁ news parts s'
theorem due_call {hp₀ : Heap} (C : Cx d u w A L h₀) (F : Fr h₀ L hp₀ m) (N : News h₀ L hp₀ news) (hd : d < 500) (hu : u < 1500) {P : Addr} {k : Nat} {parts : List (Addr × Nd)} (hP : (P, lo (parts.map fun p => .ref p.1) k) ∈ news) (h5 : parts.length = 5) (hr : ∀ p ∈ parts, PRep news p.1 p.2)
    (hk : ∀ j, j < 5 → (parts.getD j (0, nd0)).2.k = j) (hz : totN (parts.map Prod.snd) ≤ 100)
    (h : ∀ q s' news', Same s s' → Fr h₀ L s'.heap m → News h₀ L s'.heap news' → (∀ p ∈ news, p ∈ news') → PRep news' q (prc 5 (srt (parts.map Prod.snd)) 0 5).1 → Q (.ref q) s') (he : s.heap = hp₀ := by rfl) :
    wpAny (model PG w) A (call (.ref 141) [.ref P]) Q E s := by
  subst he
  refine call_defC C F N rfl rfl (by omega) rfl (fun v news' => ∃ q, v = .ref q ∧ (∀ p ∈ news, p ∈ news') ∧ PRep news' q (prc 5 (srt (parts.map Prod.snd)) 0 5).1) ?_ ?_ rfl (by decide)
  · intro g L' A' s₁ cells C' F₁ N₁ Y sm l lc
    obtain ⟨oO, oP, rfl, hoO, hoP⟩ := CellsAre.two (cm := _) (n := S "other") (c := L' + 1 + 1) (n' := S "parts") (c' := L' + 1) Y
    have hoO : IsC none oO := hoO
    have hoP : IsC (some (.ref P)) oP := hoP
    have ne1 : (L' + 1 + 1 : Addr) ≠ L' + 1 := Nat.ne_of_gt (Nat.lt_succ_self _)
    have on1 : Off (L' + 1) news := Off.lt fun p hp => Nat.lt_succ_of_lt (l p hp)
    have on2 : Off (L' + 1 + 1) news := Off.lt fun p hp => Nat.lt_succ_of_lt (Nat.lt_succ_of_lt (l p hp))
    have g₁ : Gw news ([(L' + 1 + 1, oO), (L' + 1, oP)] ++ news) := (Gw.rfl'.cons on1).cons (Off.cons (Ne.symm ne1) on2)
    have lenP : (parts.map fun p => Value.ref p.1).length = 5 := by simp [h5]
    refine wpAny_execs_cons (Assign_Tuple_swapped (names := [S "piles", S "place"]) ?_)
    refine Tuple_ (spliced_more (compG (h₀ := g) (L := L') rfl (by decide) rfl (by decide) ?_))
    refine callT C' F₁ rfl boot_range (spliced_more (callB C' F₁ rfl boot_len (spliced_more (ldC N₁ (.tail _ (.head _)) hoP (spliced_none (len_lo (N₁ _ (g₁.sub _ hP)).1 (by omega) ?_))))))
    rw [lenP]
    refine spliced_none (rangeS1 F₁ N₁ fun r t' v' s₃ sm₃ F₃ N₃ lt₃ => iterRangeS F₃ N₃ (.head _) (by rfl) fun I s₄ sm₄ F₄ N₄ lt₄ => ?_)
    have e5 : Builtin.Range.rangeSize 0 ((5 : Nat) : Int) 1 = ((5 : Nat) : Int) := by rfl
    rw [e5] at N₄
    have N₅ : News g L' s₄.heap ((I, riObj 0 (5 : Nat) 1) :: [(L' + 1 + 1, oO), (L' + 1, oP)] ++ news) := nsub N₄ fun p hp => by
      simp only [List.mem_cons, List.mem_append, List.cons_append, List.nil_append, List.not_mem_nil, or_false] at hp ⊢
      rcases hp with e | e | e | e <;> simp [e]
    refine ⟨I, riObj 0 (5 : Nat) 1, 5, _, _, _, _, _, fun i ys nw => ∃ its : List It, its.length = i ∧ ys = its.map It.v ∧ ∀ j it, its[j]? = some it → it.cell ∈ nw ∧ it.n = ((parts.getD j (0, nd0)).2.ru.length : Int) ∧ it.k = (j : Int) ∧ it.x = .ref (parts.getD j (0, nd0)).1,
      rfl, Wk.range (a := 0) (c := 1) (n := 5) C'.hand, by decide, by simpa using (N₅ _ (.head _)).1, F₄, N₅, Off.lt fun p hp => lt₄ p (.tail _ hp), fun _ _ => trivial, ⟨[], rfl, rfl, fun j it e => by simp at e⟩, .inr fun _ _ => rfl, ?_, ?_⟩
    · rintro i v hi ⟨t, rfl⟩
      refine turn1 rfl rfl ?_
      rintro ys nw s₅ K oK D I₂ oI₂ m₂ E' ⟨its, hil, rfl, hits⟩ g₅ sm₅ F₅ hns hx N₅
      subst hil
      have mP : (P, lo (parts.map fun p => Value.ref p.1) k) ∈ (K, oK) :: (I₂, oI₂) :: (D, lo (its.map It.v) its.length) :: nw := .tail _ (.tail _ (.tail _ (g₅.sub _ (g₁.sub _ hP))))
      have mC : (L' + 1, oP) ∈ (K, oK) :: (I₂, oI₂) :: (D, lo (its.map It.v) its.length) :: nw := .tail _ (.tail _ (.tail _ (g₅.sub _ (.tail _ (.head _)))))
      obtain ⟨al, rl, av, rv, dv, kk, k1, k2, b1, b2, b3, b4, b5, b6, b7⟩ : PRep ((K, oK) :: (I₂, oI₂) :: (D, lo (its.map It.v) its.length) :: nw) (parts.getD its.length (0, nd0)).1 (parts.getD its.length (0, nd0)).2 := (hr _ (by
        rw [List.getD_eq_getElem?_getD, List.getElem?_eq_getElem (by omega)]; exact List.getElem_mem _)).mono fun p hp => .tail _ (.tail _ (.tail _ (g₅.sub _ (g₁.sub _ hp))))
      have hget : (parts.map fun p => Value.ref p.1)[(0 + (its.length : Nat) * 1 : Int).toNat]? = some (.ref (parts.getD its.length (0, nd0)).1) := by
        have : (0 + (its.length : Nat) * 1 : Int).toNat = its.length := by omega
        rw [this, List.getElem?_map, List.getD_eq_getElem?_getD, List.getElem?_eq_getElem (by omega)]; rfl
      have htl : (parts.getD its.length (0, nd0)).2.ru.length ≤ 100 := by
        have hmem : (parts.getD its.length (0, nd0)).2.ru.length ∈ (parts.map Prod.snd).map fun a => a.ru.length := List.mem_map_of_mem (List.mem_map_of_mem (by
          rw [List.getD_eq_getElem?_getD, List.getElem?_eq_getElem (by omega)]; exact List.getElem_mem _))
        exact Nat.le_trans (le_sum hmem) hz
      refine List_ (spliced_more (callB C' F₅ rfl boot_len (spliced_more (Subscript_ (Subscript_ ?_)))))
      refine qcell (N₅ _ mC).1 rfl hoP (qloc hns hx (tail_list (N₅ _ mP).1 (by omega) hget (by omega) ?_))
      refine wpAny_Constant_int (tail_list (N₅ _ b1).1 (by decide) rfl (Nat.le_of_ble_eq_true rfl) (spliced_none (len_lo (N₅ _ b3).1 (by rw [StrsAre.len b5]; omega) ?_)))
      refine spliced_more (qloc hns hx (spliced_more (Subscript_ (qcell (N₅ _ mC).1 rfl hoP (qloc hns hx (tail_list (N₅ _ mP).1 (by omega) hget (by omega) (spliced_none (newListS F₅ N₅ (Nat.le_of_ble_eq_true rfl) fun a s₆ sm₆ F₆ N₆ lt₆ => ?_))))))))
      rw [StrsAre.len b5] at N₆
      obtain ⟨tq, N₆⟩ : ∃ tq, News g L' s₆.heap ((a, lo [.int ((parts.getD its.length (0, nd0)).2.ru.length : Int) tq, .int (0 + (its.length : Nat) * 1) t, .ref (parts.getD its.length (0, nd0)).1] 0) :: (K, oK) :: (I₂, oI₂) :: (D, lo (its.map It.v) its.length) :: nw) := ⟨_, N₆⟩
      refine ⟨_, Same.rfl'.nx sm₆, F₆, N₆, Gw.rfl'.cons (Off.lt lt₆), fun news₂ hin => ⟨its ++ [⟨a, ((parts.getD its.length (0, nd0)).2.ru.length : Int), 0 + (its.length : Nat) * 1, tq, t, .ref (parts.getD its.length (0, nd0)).1, 0⟩], by simp, by rw [List.map_append]; rfl, fun j it hj => ?_⟩⟩
      rcases Nat.lt_or_ge j its.length with q | q
      · rw [List.getElem?_append_left q] at hj
        obtain ⟨h1, h2⟩ := hits j it hj
        exact ⟨hin _ (.tail _ (.tail _ (.tail _ (.tail _ h1)))) (.inl h1), h2⟩
      · rw [List.getElem?_append_right q] at hj
        have : j = its.length := by
          rcases Nat.lt_or_ge (j - its.length) 1 with q' | q'
          · omega
          · rw [List.getElem?_eq_none (by simpa using q')] at hj; cases hj
        subst this
        rw [Nat.sub_self] at hj
        injection hj with hj
        subst hj
        exact ⟨hin _ (.head _) (.inr (Off.lt lt₆)), rfl, by dsimp only; omega, rfl⟩
    · rintro H ys nw s₅ ⟨its, hil, rfl, hits⟩ sm₅ g₅ o₅ F₅ N₅
      obtain ⟨a, b, c, dd, e, rfl⟩ := five_of hil
      have ha := hits 0 a rfl
      have hb := hits 1 b rfl
      have hc := hits 2 c rfl
      have hdd := hits 3 dd rfl
      have he := hits 4 e rfl
      have mC : (L' + 1, oP) ∈ (H, lo ([a, b, c, dd, e].map It.v) 5) :: nw := .tail _ (g₅.sub _ (.tail _ (.head _)))
      have mP : (P, lo (parts.map fun p => Value.ref p.1) k) ∈ (H, lo ([a, b, c, dd, e].map It.v) 5) :: nw := .tail _ (g₅.sub _ (g₁.sub _ hP))
      refine spliced_more (callBh C' F₅ rfl boot_len (spliced_more ?_))
      refine ldC N₅ mC hoP (spliced_none (len_lo (N₅ _ mP).1 (by omega) (spliced_none ?_)))
      rw [lenP]
      refine tupS F₅ N₅ (Nat.le_of_ble_eq_true rfl) fun T s₆ sm₆ F₆ N₆ lt₆ => ?_
      refine unpS C'.hand F₆ N₆ (.head _) rfl fun s₇ sm₇ F₇ N₇ => ?_
      refine assignInOrder_cons ?_
      refine bindName_ (stL F₇ N₇ fun s₈ sm₈ F₈ N₈ => ?_)
      refine assignInOrder_cons ?_
      refine bindName_ (stL F₈ N₈ fun s₉ sm₉ F₉ N₉ => ?_)
      refine assignInOrder_nil ?_
      -- the ledger: the cell of other first
      obtain ⟨I₁, mem₁⟩ : ∃ I₁ : List (Addr × Obj), ∀ {p}, p ∈ I₁ ↔ p ∈ (H, lo ([a, b, c, dd, e].map It.v) 5) :: nw ∧ p.1 ≠ L' + 1 + 1 := ⟨((H, lo ([a, b, c, dd, e].map It.v) 5) :: nw).filter fun p => decide (p.1 ≠ L' + 1 + 1), by intro p; simp [List.mem_filter]⟩
      have hH2 : H ≠ L' + 1 + 1 := Ne.symm (o₅ _ (g₅.sub _ (.head _)))
      have hcellne : ∀ it : It, it.cell ∈ nw → it.cell.1 ≠ L' + 1 + 1 := fun it hm e => by
        have z1 := N₉ _ (.tail _ (.tail _ hm))
        have z2 := N₉ _ (.tail _ (.tail _ (g₅.sub _ (.head _))))
        rw [e, z2.1] at z1
        have z3 : oO = it.obj := Option.some.inj z1.1
        have z4 : it.obj.data = .cell none := z3 ▸ hoO
        cases z4
      have N₁₀ : News g L' s₉.heap ((L' + 1 + 1, oO) :: I₁) := nand N₉ (.tail _ (.tail _ (g₅.sub _ (.head _)))) (nsub N₉ fun p hp => .tail _ (mem₁.mp hp).1)
      have oI₁ : Off (L' + 1 + 1) I₁ := fun p hp => (mem₁.mp hp).2
      have hsub₁ : ∀ p ∈ news, p ∈ I₁ := fun p hp => mem₁.mpr ⟨.tail _ (g₅.sub _ (g₁.sub _ hp)), on2 p hp⟩
      have hnw₁ : ∀ it : It, it.cell ∈ nw → it.cell ∈ I₁ := fun it hm => mem₁.mpr ⟨.tail _ hm, hcellne it hm⟩
      have mH : (H, lo ([a, b, c, dd, e].map It.v) 5) ∈ I₁ := mem₁.mpr ⟨.head _, hH2⟩
      have repOf : ∀ j (it : It), j < 5 → it.cell ∈ nw ∧ it.n = ((parts.getD j (0, nd0)).2.ru.length : Int) ∧ it.k = (j : Int) ∧ it.x = .ref (parts.getD j (0, nd0)).1 → it.cell ∈ I₁ ∧ Rep' I₁ (it, (parts.getD j (0, nd0)).2) ∧ (parts.getD j (0, nd0)).2.k < 5 := fun j it hj hq =>
        ⟨hnw₁ _ hq.1, ⟨hq.2.1, by rw [hq.2.2.1, hk j hj], (parts.getD j (0, nd0)).1, hq.2.2.2, (hr _ (by rw [List.getD_eq_getElem?_getD, List.getElem?_eq_getElem (by omega)]; exact List.getElem_mem _)).mono hsub₁⟩, by rw [hk j hj]; exact hj⟩
      have e0 : ([(a, (parts.getD 0 (0, nd0)).2), (b, (parts.getD 1 (0, nd0)).2), (c, (parts.getD 2 (0, nd0)).2), (dd, (parts.getD 3 (0, nd0)).2), (e, (parts.getD 4 (0, nd0)).2)] : List (It × Nd)).map Prod.snd = parts.map Prod.snd := by
        exact five_snd h5
      have hPK0 : PK [(a, (parts.getD 0 (0, nd0)).2), (b, (parts.getD 1 (0, nd0)).2), (c, (parts.getD 2 (0, nd0)).2), (dd, (parts.getD 3 (0, nd0)).2), (e, (parts.getD 4 (0, nd0)).2)] := by
        show List.Pairwise _ _
        simp [-List.getD_eq_getElem?_getD, hk 0 (by decide), hk 1 (by decide), hk 2 (by decide), hk 3 (by decide), hk 4 (by decide)]
      have hreps0 : ∀ p ∈ [(a, (parts.getD 0 (0, nd0)).2), (b, (parts.getD 1 (0, nd0)).2), (c, (parts.getD 2 (0, nd0)).2), (dd, (parts.getD 3 (0, nd0)).2), (e, (parts.getD 4 (0, nd0)).2)], p.1.cell ∈ I₁ ∧ Rep' I₁ p ∧ p.2.k < 5 := fun p hp => by
        simp only [List.mem_cons, List.not_mem_nil, or_false] at hp
        rcases hp with rfl | rfl | rfl | rfl | rfl
        · exact repOf 0 a (by decide) ha
        · exact repOf 1 b (by decide) hb
        · exact repOf 2 c (by decide) hc
        · exact repOf 3 dd (by decide) hdd
        · exact repOf 4 e (by decide) he
      have hsrt : Srt (srt (parts.map Prod.snd)) := srt_srt _ (e0 ▸ hPK0.keys fun p hp => by have := (hreps0 p hp).2.2; omega)
      refine wpAny_execs_cons (while_to
        (DJ g L' s₁ news parts) (DX g L' s₁ news parts)
        5 ⟨[(a, (parts.getD 0 (0, nd0)).2), (b, (parts.getD 1 (0, nd0)).2), (c, (parts.getD 2 (0, nd0)).2), (dd, (parts.getD 3 (0, nd0)).2), (e, (parts.getD 4 (0, nd0)).2)], srt (parts.map Prod.snd), 0, 5, H, 5, oO, none, I₁, _, _, rfl, Nat.le_of_ble_eq_true rfl, Nat.le_of_ble_eq_true rfl, rfl, ?_, F₉, N₁₀, oI₁, hoO, hsub₁, mH, hreps0, hPK0, hsrt, ?_, ?_, rfl, rfl, rfl⟩ ?_ ?_)
      · exact ((((((Same.rfl'.nx sm₃).nx sm₄).nx sm₅).nx sm₆).nx sm₇).nx sm₈).nx sm₉
      · rw [e0]; exact srt_perm _
      · rw [e0]; exact hz
      · rintro n s₁₃ ⟨ps, sl, ln, place, D, nD, oO, v₀, I₁, m', tp, rfl, y1, y2, y3, sm₁₃, F₁₃, N₁₃, oI, hoO, hsub, mD, hreps, hPK, hSrt, hsl, htot, hprc, e1, e3⟩
        refine wpAny_isTrue_Compare1 (callBh C' F₁₃ rfl boot_len (spliced_more (ldL F₁₃ e1 (spliced_none (len_lo (N₁₃ _ (.tail _ mD)).1 (by simp; omega) (wpAny_Constant_int (gt_int (wpAny_truthy_bool ?_))))))))
        rw [List.length_map, List.length_map]
        by_cases hlt : 1 < ps.length
        · rw [decide_eq_true (by omega)]
          simp only [if_true]
          have hki : ∀ p ∈ ps, p.1.k = (p.2.k : Int) := fun p hp => (hreps p hp).2.1.2.1
          have hk16 : ∀ p ∈ ps, p.2.k < 16 := fun p hp => by have := (hreps p hp).2.2; omega
          -- piles = sorted(piles)
          refine wpAny_execs_cons (wpAny_Assign_Name (callBh C' F₁₃ rfl boot_sorted (spliced_more (ldL F₁₃ e1 (spliced_none ?_)))))
          refine sortedS (by have := C'.units; show A'.units + 100 < 9900; omega) F₁₃ N₁₃ (.tail _ mD) (by simp; omega) (by simpa using y2) (fun i hi => by
            obtain ⟨p, hp, rfl⟩ := List.mem_map.mp hi
            exact .tail _ (hreps p hp).1) (kok_of hki hk16) (hPK.its hki) fun D₁ its₁ c₁ s₁₄ sm₁₄ F₁₄ N₁₄ lt₁₄ hperm hord => ?_
          obtain ⟨ps₁, pp₁, ep₁⟩ := perm_lift (f := Prod.fst) hperm ps rfl
          subst ep₁
          refine stL F₁₄ N₁₄ fun s₁₅ sm₁₅ F₁₅ N₁₅ => ?_
          have plen₁ : ps₁.length = ps.length := pp₁.length_eq
          have hreps₁ : ∀ p ∈ ps₁, p.1.cell ∈ I₁ ∧ Rep' I₁ p ∧ p.2.k < place := fun p hp => hreps p (pp₁.mem_iff.mp hp)
          have hsl₁ : sl = ps₁.map Prod.snd := srt_uniq hSrt (by
            show List.Pairwise _ _
            rw [List.pairwise_map] at hord ⊢
            exact List.Pairwise.imp_of_mem (fun {a b} ha hb q => by rw [← (hreps₁ a ha).2.1.key, ← (hreps₁ b hb).2.1.key]; exact q) hord) (hsl.trans (pp₁.map Prod.snd).symm)
          have hPK₁ := PK.perm hPK pp₁
          have htot₁ : totN (ps₁.map Prod.snd) ≤ 100 := by rw [totN_perm (pp₁.map Prod.snd)]; exact htot
          rw [← plen₁] at hprc y2 y3 hlt ⊢
          clear hreps hPK hsl pp₁ hperm htot hki hk16 mD plen₁
          obtain ⟨p0, p1, pr, rfl⟩ := two_of hlt
          subst hsl₁
          have y2' : pr.length + 2 ≤ 5 := by simpa using y2
          have y3' : place + (pr.length + 2) = 10 := by simpa using y3
          have oI₂ : Off (L' + 1 + 1) ((D₁, lo (((p0 :: p1 :: pr).map Prod.fst).map It.v) c₁) :: I₁) := Off.cons (Nat.ne_of_gt (lt₁₄ _ (.head _))) oI
          have N₁₆ : News g L' s₁₅.heap ((L' + 1 + 1, oO) :: (D₁, lo (((p0 :: p1 :: pr).map Prod.fst).map It.v) c₁) :: I₁) := nsub N₁₅ fun p hp => by
            simp only [List.mem_cons] at hp ⊢
            rcases hp with e | e | e <;> simp [e]
          have hsub₂ : ∀ p ∈ I₁, p ∈ (D₁, lo (((p0 :: p1 :: pr).map Prod.fst).map It.v) c₁) :: I₁ := fun p hp => .tail _ hp
          have mD₁ : (D₁, lo (((p0 :: p1 :: pr).map Prod.fst).map It.v) c₁) ∈ (D₁, lo (((p0 :: p1 :: pr).map Prod.fst).map It.v) c₁) :: I₁ := .head _
          generalize (D₁, lo (((p0 :: p1 :: pr).map Prod.fst).map It.v) c₁) :: I₁ = I₂ at oI₂ N₁₆ hsub₂ mD₁
          obtain ⟨m₁₅, F₁₅, e1, e3⟩ : ∃ mm, Fr g L' s₁₅.heap mm ∧ mm (S "piles") = some (.ref D₁) ∧ mm (S "place") = some (.int (place : Nat) tp) := ⟨_, F₁₅, rfl, e3⟩
          obtain ⟨x0, x0', q0, hx0, al0, rl0, av0, rv0, dv0, kk0, k10, k20, a1, a2, a3, a4, a5, a6, a7, a8⟩ := (hreps₁ p0 (.head _)).2.1.mono hsub₂
          obtain ⟨x1, x1', q1, hx1, al1, rl1, av1, rv1, dv1, kk1, k11, k21, b1, b2, b3, b4, b5, b6, b7, b8⟩ := (hreps₁ p1 (.tail _ (.head _))).2.1.mono hsub₂
          have hc0 : (p0.1.a, lo [.int p0.1.n p0.1.t, .int p0.1.k p0.1.u, p0.1.x] p0.1.e) ∈ I₂ := hsub₂ _ (hreps₁ p0 (.head _)).1
          have hc1 : (p1.1.a, lo [.int p1.1.n p1.1.t, .int p1.1.k p1.1.u, p1.1.x] p1.1.e) ∈ I₂ := hsub₂ _ (hreps₁ p1 (.tail _ (.head _))).1
          have hsum : p0.2.ru.length + p1.2.ru.length + totN (pr.map Prod.snd) ≤ 100 := by
            have : totN (List.map Prod.snd (p0 :: p1 :: pr)) = p0.2.ru.length + (p1.2.ru.length + totN (List.map Prod.snd pr)) := by unfold totN; simp
            omega
          have lenD : (List.map It.v (List.map Prod.fst (p0 :: p1 :: pr))).length ≤ 1000000 := by simp; omega
          -- one, other = ..
          refine wpAny_execs_cons (Assign_Tuple ?_)
          refine Tuple_ (spliced_more (Subscript_ (Subscript_ ?_)))
          refine ldL F₁₅ e1 (wpAny_Constant_int (tail_list (N₁₆ _ (.tail _ mD₁)).1 (by decide) rfl lenD (wpAny_Constant_int (tail_list (N₁₆ _ (.tail _ hc0)).1 (by decide) rfl (Nat.le_of_ble_eq_true rfl) ?_))))
          refine spliced_more (Subscript_ (Subscript_ ?_))
          refine ldL F₁₅ e1 (wpAny_Constant_int (tail_list (N₁₆ _ (.tail _ mD₁)).1 (by decide) rfl lenD (wpAny_Constant_int (tail_list (N₁₆ _ (.tail _ hc1)).1 (by decide) rfl (Nat.le_of_ble_eq_true rfl) ?_))))
          rw [hx0, hx1]
          refine spliced_none (tupS F₁₅ N₁₆ (Nat.le_of_ble_eq_true rfl) fun T s₁₆ sm₁₆ F₁₆ N₁₇ lt₁₆ => ?_)
          refine asgT C'.hand F₁₆ N₁₇ (.head _) rfl rfl fun s₁₇ sm₁₇ F₁₇ N₁₈ => ?_
          refine assignInOrder_cons ?_
          refine assign_Name (stL F₁₇ (nsub N₁₈ fun p hp => .tail _ hp) fun s₁₈ sm₁₈ F₁₈ N₁₉ => ?_)
          refine assignInOrder_cons ?_
          refine assign_Name (stC F₁₈ N₁₉ oI₂ hoO fun oO' s₁₉ sm₁₉ F₁₉ N₂₀ hoO' => ?_)
          refine assignInOrder_nil ?_
          -- agents, delay = ..
          refine wpAny_execs_cons (Assign_Tuple_swapped (names := [S "agents", S "delay"]) ?_)
          refine Tuple_ (spliced_more (compS1 (h₀ := g) (L := L') (fun x => decide (x ∈ p1.2.ag)) (fun x y => ∃ t, y = .str x t) C'.hand rfl (by decide) rfl (by decide) rfl ?_))
          refine Subscript_ (ldL F₁₉ rfl (wpAny_Constant_int (tail_list (N₂₀ _ (.tail _ a1)).1 (by decide) rfl (Nat.le_of_ble_eq_true rfl) ?_)))
          refine ⟨al0, av0, k10, p0.2.ag, _, _, rfl, F₁₉, N₂₀, .tail _ a2, a4, by omega, ?_, ?_, ?_⟩
          · intro K s₄ m₂ E' y t hns hx hy hN hB
            have z1 := hN _ (.head _)
            have z2 := hN _ (.tail _ b1)
            have z3 := hN _ (.tail _ b2)
            refine wpAny_isTrue_Compare1 (qloc hns hx (Subscript_ (qcell z1 rfl hoO' (wpAny_Constant_int (tail_list z2 (by decide) rfl (Nat.le_of_ble_eq_true rfl) (inR z3 b4 (by omega) (wpAny_truthy_bool ?_)))))))
            exact ⟨rfl, keeps_tk keeps_refl⟩
          · intro K s₄ m₂ E' y t hns hx hy hp hN hB
            exact qloc hns hx ⟨⟨_, rfl⟩, keeps_refl⟩
          intro Ag yg kg s₂₀ sm₂₀ F₂₀ N₂₁ oAg hpg
          have hag : StrsAre yg (p0.2.ag.filter fun x => decide (x ∈ p1.2.ag)) := by
            have := strs_of (f := id) hpg
            simpa using this
          -- delay
          refine spliced_more (wpAny_mono (Q := fun v s' => v = (if dv1 = .none then dv0 else dv1) ∧ Same s₂₀ s' ∧ s'.heap = s₂₀.heap) (IfExp_ (wpAny_isTrue_Compare1 ?_)) ?_ (fun _ _ x => x))
          · refine Subscript_ (ldC N₂₁ (.tail _ (.head _)) hoO' (wpAny_Constant_int (tail_list (N₂₁ _ (.tail _ (.tail _ b1))).1 (by decide) rfl (Nat.le_of_ble_eq_true rfl) (wpAny_Constant_none (is_none (wpAny_truthy_bool ?_))))))
            by_cases hn : dv1 = .none
            · have e : (dv1 == Value.none) = true := by rw [hn]; rfl
              rw [if_pos e, if_pos hn]
              exact Subscript_ (ldL F₂₀ rfl (wpAny_Constant_int (tail_list (N₂₁ _ (.tail _ (.tail _ a1))).1 (by decide) rfl (Nat.le_of_ble_eq_true rfl) ⟨rfl, ⟨rfl, rfl⟩, rfl⟩)))
            · have e : ¬ (dv1 == Value.none) = true := by simpa using hn
              rw [if_neg e, if_neg hn]
              exact Subscript_ (ldC N₂₁ (.tail _ (.head _)) hoO' (wpAny_Constant_int (tail_list (N₂₁ _ (.tail _ (.tail _ b1))).1 (by decide) rfl (Nat.le_of_ble_eq_true rfl) ⟨rfl, ⟨rfl, rfl⟩, rfl⟩)))
          rintro v s₂₁ ⟨rfl, sm₂₁, e₂₁⟩
          rw [← e₂₁] at F₂₀ N₂₁
          have hdl : IsDelay (if dv1 = .none then dv0 else dv1) := by split; exact a6; exact b6
          have hdx : dlS (if dv1 = .none then dv0 else dv1) = (mrgN p0.2 p1.2 place).dl := by rw [dlS_mrg b6, a7, b7]; rfl
          generalize (if dv1 = .none then dv0 else dv1) = dv at hdl hdx ⊢
          refine spliced_none (tupS F₂₀ N₂₁ (Nat.le_of_ble_eq_true rfl) fun T₂ s₂₂ sm₂₂ F₂₂ N₂₂ lt₂₂ => ?_)
          refine unpS C'.hand F₂₂ N₂₂ (.head _) rfl fun s₂₃ sm₂₃ F₂₃ N₂₃ => ?_
          refine assignInOrder_cons ?_
          refine bindName_ (stL F₂₃ N₂₃ fun s₂₄ sm₂₄ F₂₄ N₂₄ => ?_)
          refine assignInOrder_cons ?_
          refine bindName_ (stL F₂₄ N₂₄ fun s₂₅ sm₂₅ F₂₅ N₂₅ => ?_)
          refine assignInOrder_nil ?_
          have N₂₆ : News g L' s₂₅.heap ((Ag, lo yg kg) :: (L' + 1 + 1, oO') :: I₂) := nsub N₂₅ fun p hp => .tail _ hp
          obtain ⟨m₂₅, F₂₅, f1, f2, f3, f4, f5⟩ : ∃ mm, Fr g L' s₂₅.heap mm ∧ mm (S "piles") = some (.ref D₁) ∧ mm (S "place") = some (.int (place : Nat) tp) ∧ mm (S "one") = some (.ref q0) ∧ mm (S "agents") = some (.ref Ag) ∧ mm (S "delay") = some dv := ⟨_, F₂₅, e1, e3, rfl, rfl, rfl⟩
          -- piles, place = ..
          have len0 := StrsAre.len a5
          have len1 := StrsAre.len b5
          refine wpAny_execs_cons (Assign_Tuple_swapped (names := [S "piles", S "place"]) ?_)
          refine Tuple_ (spliced_more (wpAny_BinOp (Subscript_ (ldL F₂₅ f1 (wpAny_Slice ?_)))))
          rw [evalPart_some]
          refine wpAny_Constant_int (wpAny_pure (wpAny_pure ?_))
          refine sliceS F₂₅ N₂₆ (.tail _ (.tail _ mD₁)) (.int _ _) .none lenD fun SL s₂₇ sm₂₇ F₂₇ N₂₇ lt₂₇ => ?_
          refine List_ (spliced_more (List_ (spliced_more ?_)))
          refine callBh C' F₂₇ rfl boot_len (spliced_more (wpAny_BinOp (Subscript_ ?_)))
          refine ldL F₂₇ f3 (wpAny_Constant_int (tail_list (N₂₇ _ (.tail _ (.tail _ (.tail _ a1)))).1 (by decide) rfl (Nat.le_of_ble_eq_true rfl) ?_))
          refine Subscript_ (ldC N₂₇ (.tail _ (.tail _ (.head _))) hoO' (wpAny_Constant_int (tail_list (N₂₇ _ (.tail _ (.tail _ (.tail _ b1)))).1 (by decide) rfl (Nat.le_of_ble_eq_true rfl) ?_)))
          refine addListS F₂₇ N₂₇ (.tail _ (.tail _ (.tail _ a3))) (.tail _ (.tail _ (.tail _ b3))) (by omega) fun S1 s₂₈ sm₂₈ F₂₈ N₂₈ lt₂₈ => ?_
          refine spliced_none (len_lo (N₂₈ _ (.head _)).1 (by simp; omega) ?_)
          refine spliced_more (ldL F₂₈ f2 (spliced_more (List_ (spliced_more (ldL F₂₈ f4 (spliced_more (ldL F₂₈ f5 (spliced_more ?_))))))))
          refine wpAny_BinOp (Subscript_ (ldL F₂₈ f3 (wpAny_Constant_int (tail_list (N₂₈ _ (.tail _ (.tail _ (.tail _ (.tail _ a1))))).1 (by decide) rfl (Nat.le_of_ble_eq_true rfl) ?_))))
          refine Subscript_ (ldC N₂₈ (.tail _ (.tail _ (.tail _ (.head _)))) hoO' (wpAny_Constant_int (tail_list (N₂₈ _ (.tail _ (.tail _ (.tail _ (.tail _ b1))))).1 (by decide) rfl (Nat.le_of_ble_eq_true rfl) ?_)))
          refine addListS F₂₈ N₂₈ (.tail _ (.tail _ (.tail _ (.tail _ a3)))) (.tail _ (.tail _ (.tail _ (.tail _ b3)))) (by omega) fun S2 s₂₉ sm₂₉ F₂₉ N₂₉ lt₂₉ => ?_
          refine spliced_none (newListS F₂₉ N₂₉ (Nat.le_of_ble_eq_true rfl) fun q' s₃₀ sm₃₀ F₃₀ N₃₀ lt₃₀ => ?_)
          refine spliced_none (newListS F₃₀ N₃₀ (Nat.le_of_ble_eq_true rfl) fun a' s₃₁ sm₃₁ F₃₁ N₃₁ lt₃₁ => ?_)
          refine spliced_none (newListS F₃₁ N₃₁ (Nat.le_of_ble_eq_true rfl) fun O' s₃₂ sm₃₂ F₃₂ N₃₂ lt₃₂ => ?_)
          refine addListS F₃₂ N₃₂ (.tail _ (.tail _ (.tail _ (.tail _ (.tail _ (.head _)))))) (.head _) (by
            unfold kms_pick; simp; omega) fun D₂ s₃₃ sm₃₃ F₃₃ N₃₃ lt₃₃ => ?_
          refine spliced_more (wpAny_BinOp (ldL F₃₃ f2 (wpAny_Constant_int (add_int ?_))))
          rw [show ((place : Int) + 1) = ((place + 1 : Nat) : Int) by omega]
          refine spliced_none (tupS F₃₃ N₃₃ (Nat.le_of_ble_eq_true rfl) fun T₃ s₃₄ sm₃₄ F₃₄ N₃₄ lt₃₄ => ?_)
          refine unpS C'.hand F₃₄ N₃₄ (.head _) rfl fun s₃₅ sm₃₅ F₃₅ N₃₅ => ?_
          refine assignInOrder_cons ?_
          refine bindName_ (stL F₃₅ N₃₅ fun s₃₆ sm₃₆ F₃₆ N₃₆ => ?_)
          refine assignInOrder_cons ?_
          refine bindName_ (stL F₃₆ N₃₆ fun s₃₇ sm₃₇ F₃₇ N₃₇ => ?_)
          refine assignInOrder_nil (wpAny_execs_nil ?_)
          obtain ⟨I₃, mem₃⟩ : ∃ I₃ : List (Addr × Obj), ∀ {p}, p ∈ I₃ ↔ (p ∈ (D₂, lo (kms_pick (List.map It.v (List.map Prod.fst (p0 :: p1 :: pr))) (some 2) none ++ [.ref a']) 0) :: (a', lo [.int ((rv0 ++ rv1).length : Int) (s₂₈.toks + 1), .int (place : Nat) tp, .ref q'] 0) :: (q', lo [.ref Ag, dv, .ref S2] 0) :: (S2, lo (rv0 ++ rv1) 0) :: (Ag, lo yg kg) :: I₂) ∧ p.1 ≠ L' + 1 + 1 :=
            ⟨((D₂, lo (kms_pick (List.map It.v (List.map Prod.fst (p0 :: p1 :: pr))) (some 2) none ++ [.ref a']) 0) :: (a', lo [.int ((rv0 ++ rv1).length : Int) (s₂₈.toks + 1), .int (place : Nat) tp, .ref q'] 0) :: (q', lo [.ref Ag, dv, .ref S2] 0) :: (S2, lo (rv0 ++ rv1) 0) :: (Ag, lo yg kg) :: I₂).filter fun p => decide (p.1 ≠ L' + 1 + 1), by intro p; simp [List.mem_filter]⟩
          have c2_15 : ∀ {X : Addr}, (L' + 1 + 1 : Addr) < X → X ≠ L' + 1 + 1 := fun h => Nat.ne_of_gt h
          have mI : ∀ p ∈ I₂, p ∈ I₃ := fun p hp => mem₃.mpr ⟨.tail _ (.tail _ (.tail _ (.tail _ (.tail _ hp)))), oI₂ p hp⟩
          have mAg : (Ag, lo yg kg) ∈ I₃ := mem₃.mpr ⟨.tail _ (.tail _ (.tail _ (.tail _ (.head _)))), Ne.symm (oAg _ (.head _))⟩
          have mS2 : (S2, lo (rv0 ++ rv1) 0) ∈ I₃ := mem₃.mpr ⟨.tail _ (.tail _ (.tail _ (.head _))), c2_15 (lt₂₉ _ (.tail _ (.tail _ (.tail _ (.head _)))))⟩
          have mq : (q', lo [.ref Ag, dv, .ref S2] 0) ∈ I₃ := mem₃.mpr ⟨.tail _ (.tail _ (.head _)), c2_15 (lt₃₀ _ (.tail _ (.tail _ (.tail _ (.tail _ (.head _))))))⟩
          have ma : (a', lo [.int ((rv0 ++ rv1).length : Int) (s₂₈.toks + 1), .int (place : Nat) tp, .ref q'] 0) ∈ I₃ := mem₃.mpr ⟨.tail _ (.head _), c2_15 (lt₃₁ _ (.tail _ (.tail _ (.tail _ (.tail _ (.tail _ (.head _)))))))⟩
          have mD₂ : (D₂, lo (kms_pick (List.map It.v (List.map Prod.fst (p0 :: p1 :: pr))) (some 2) none ++ [.ref a']) 0) ∈ I₃ := mem₃.mpr ⟨.head _, c2_15 (lt₃₃ _ (.tail _ (.tail _ (.tail _ (.tail _ (.tail _ (.tail _ (.tail _ (.head _)))))))))⟩
          have hpick : kms_pick (List.map It.v (List.map Prod.fst (p0 :: p1 :: pr))) (some 2) none ++ [.ref a'] = ((pr ++ [((⟨a', ((rv0 ++ rv1).length : Int), (place : Int), s₂₈.toks + 1, tp, .ref q', 0⟩ : It), mrgN p0.2 p1.2 place)]).map Prod.fst).map It.v := by
            rw [List.map_append, List.map_append]
            congr 1
            unfold kms_pick kms_lo kms_hi
            simp
            exact List.take_of_length_le (by simp)
          rw [hpick] at mD₂
          have hrepN : Rep' I₃ ((⟨a', ((rv0 ++ rv1).length : Int), (place : Int), s₂₈.toks + 1, tp, .ref q', 0⟩ : It), mrgN p0.2 p1.2 place) := by
            refine ⟨?_, rfl, q', rfl, Ag, S2, yg, rv0 ++ rv1, dv, 0, kg, 0, mq, mAg, mS2, hag, StrsAre.app a5 b5, hdl, hdx, ?_⟩
            · show ((rv0 ++ rv1).length : Int) = ((p0.2.ru ++ p1.2.ru).length : Nat)
              rw [List.length_append, List.length_append, len0, len1]
            · exact Nat.le_trans (List.length_filter_le _ _) a8
          have hrepsN : ∀ p ∈ pr ++ [((⟨a', ((rv0 ++ rv1).length : Int), (place : Int), s₂₈.toks + 1, tp, .ref q', 0⟩ : It), mrgN p0.2 p1.2 place)], p.1.cell ∈ I₃ ∧ Rep' I₃ p ∧ p.2.k < place + 1 := fun p hp => by
            rcases List.mem_append.mp hp with hp | hp
            · obtain ⟨z1, z2, z3⟩ := hreps₁ p (.tail _ (.tail _ hp))
              exact ⟨mI _ (hsub₂ _ z1), z2.mono fun q hq => mI _ (hsub₂ _ hq), by omega⟩
            · rw [List.mem_singleton.mp hp]
              exact ⟨ma, hrepN, by show place < place + 1; omega⟩
          have hSrt' := (List.pairwise_cons.mp (List.pairwise_cons.mp hSrt).2).2
          have hPKr := (List.pairwise_cons.mp (List.pairwise_cons.mp hPK₁).2).2
          have permN : (pr ++ [((⟨a', ((rv0 ++ rv1).length : Int), (place : Int), s₂₈.toks + 1, tp, .ref q', 0⟩ : It), mrgN p0.2 p1.2 place)]).Perm (((⟨a', ((rv0 ++ rv1).length : Int), (place : Int), s₂₈.toks + 1, tp, .ref q', 0⟩ : It), mrgN p0.2 p1.2 place) :: pr) := List.perm_append_singleton _ _
          obtain ⟨m₃₇, tp', F₃₇, g1, g2⟩ : ∃ mm tp', Fr g L' s₃₇.heap mm ∧ mm (S "piles") = some (.ref D₂) ∧ mm (S "place") = some (.int ((place + 1 : Nat) : Int) tp') := ⟨_, _, F₃₇, rfl, rfl⟩
          refine ⟨(pr ++ [((⟨a', ((rv0 ++ rv1).length : Int), (place : Int), s₂₈.toks + 1, tp, .ref q', 0⟩ : It), mrgN p0.2 p1.2 place)]).length, by simp, _, ins (mrgN p0.2 p1.2 place) (pr.map Prod.snd), ln + (p0.2.ru ++ p1.2.ru).length, place + 1, D₂, 0, oO', some (.ref q1), I₃, m₃₇, tp', rfl, by simp, by simp; omega, by simp; omega, ?_, F₃₇, ?_, fun p hp => (mem₃.mp hp).2, hoO', fun p hp => mI _ (hsub₂ _ (hsub p hp)), mD₂, hrepsN, PK.perm (List.pairwise_cons.mpr ⟨fun p hp => ?_, hPKr⟩) permN, ?_, ?_, ?_, ?_, g1, g2⟩
          · exact ((((((((((((((((((((((sm₁₃.nx sm₁₄).nx sm₁₅).nx sm₁₆).nx sm₁₇).nx sm₁₈).nx sm₁₉).nx sm₂₀).nx sm₂₁).nx sm₂₂).nx sm₂₃).nx sm₂₄).nx sm₂₅).nx sm₂₇).nx sm₂₈).nx sm₂₉).nx sm₃₀).nx sm₃₁).nx sm₃₂).nx sm₃₃).nx sm₃₄).nx sm₃₅).nx sm₃₆).nx sm₃₇
          · refine nand N₃₇ (.tail _ (.tail _ (.tail _ (.tail _ (.tail _ (.tail _ (.tail _ (.tail _ (.tail _ (.head _)))))))))) (nsub N₃₇ fun p hp => ?_)
            have := (mem₃.mp hp).1
            simp only [List.mem_cons] at this ⊢
            rcases this with e | e | e | e | e | e <;> simp [e]
          · have := (hreps₁ p (.tail _ (.tail _ hp))).2.2
            show place ≠ p.2.k
            omega
          · refine ins_srt _ _ hSrt' fun y hy => ?_
            obtain ⟨q, hq, rfl⟩ := List.mem_map.mp hy
            have := (hreps₁ q (.tail _ (.tail _ hq))).2.2
            unfold Nd.key mrgN
            dsimp only
            omega
          · exact (ins_perm _ _).trans (permN.map Prod.snd).symm
          · rw [totN_perm (permN.map Prod.snd)]
            have : totN (List.map Prod.snd (((⟨a', ((rv0 ++ rv1).length : Int), (place : Int), s₂₈.toks + 1, tp, .ref q', 0⟩ : It), mrgN p0.2 p1.2 place) :: pr)) = (p0.2.ru.length + p1.2.ru.length) + totN (List.map Prod.snd pr) := by unfold totN; simp [mrgN]
            omega
          · rw [← hprc, permN.length_eq]; rfl
        · rw [decide_eq_false (by omega)]
          simp only [Bool.false_eq_true, if_false]
          obtain ⟨p, rfl⟩ := just_of y1 hlt
          have hsl1 : sl = [p.2] := List.perm_singleton.mp hsl
          refine ⟨p, D, nD, I₁, m', ⟨sm₁₃.gens, sm₁₃.os⟩, F₁₃, nsub N₁₃ fun q hq => .tail _ hq, hsub, mD, (hreps p (by simp)).1, (hreps p (by simp)).2.1, ?_, e1⟩
          rw [← hprc, hsl1]; rfl
      · rintro s₁₃ ⟨p, D, nD, I₁, m', sm₁₃, F₁₃, N₁₃, hsub, mD, hcell, ⟨z1, z2, q, hx, hq⟩, hres, e1⟩
        have hc0 : (p.1.a, lo [.int p.1.n p.1.t, .int p.1.k p.1.u, p.1.x] p.1.e) ∈ I₁ := hcell
        refine wpAny_execs_cons (wpAny_Return_some (Subscript_ (Subscript_ ?_)))
        refine ldL F₁₃ e1 (wpAny_Constant_int (tail_list (N₁₃ _ mD).1 (by decide) rfl (Nat.le_of_ble_eq_true rfl) (wpAny_Constant_int (tail_list (N₁₃ _ hc0).1 (by decide) rfl (Nat.le_of_ble_eq_true rfl) ?_))))
        rw [hx]
        exact ⟨_, I₁, ⟨sm₁₃.gens, sm₁₃.os⟩, F₁₃, N₁₃, q, rfl, hsub, hres ▸ hq⟩
  · rintro v s' news' sm F' N' ⟨q, rfl, q1, q2⟩
    exact h q s' news' sm F' N' q1 q2
end
end Mine
end

-- MapS
section
open PySem PySem.W PyProof.Rows PySem.Calls
set_option maxRecDepth 100000
set_option maxHeartbeats 4000000
namespace Mine
noncomputable abbrev mapO (T : Addr) : Obj := { cls := .type "map", data := .fields #[.ref T, .type "str"] }
noncomputable abbrev tup1 (I : Addr) : Obj := { cls := .type "tuple", data := .seq #[.ref I] }
theorem sub_map : isSubtype (.type "map") (.type "map") = pure true := by rw [isSubtype_type]; kernel_rfl
theorem mro_map : mroOf (.type "map") = pure [.type "map", .type "object"] := by rw [mroOf_type]; kernel_rfl
theorem lookup_map_new : typeLookup (.type "map") "__new__" = pure (some (.builtin "map.__new__")) := by rw [typeLookup_type, builtinLookup_eq_fast]; kernel_rfl
theorem slot_map_init : Slot "map" "__init__" "object.__init__" :=
  .of (owner := "object") (n := "__init__") (by rw [typeLookup_type, builtinLookup_eq_fast]; kernel_rfl) (by decide +kernel) (by decide +kernel) (by decide +kernel)
    (by first | exact .inl (by decide +kernel) | exact .inr (by decide +kernel)) (by rw [isSubtype_type]; kernel_rfl)
theorem called_map : TypeCalled "map" "map.__new__" "object.__init__" :=
  ⟨by decide +kernel, by decide +kernel, ⟨_, _, mro_map⟩, madeBy_type mro_map lookup_map_new (by decide +kernel), by decide +kernel, by rw [isSubtype_type]; kernel_rfl, slot_map_init⟩
theorem typeCall_map (a b : Value) : checkTypeCall "map" ⟨[a, b], []⟩ = pure () := by rw [PySem.W.Fast.te11612656972197000677]; kernel_rfl
theorem newCall_map (a b : Value) : checkBuiltinCall "map.__new__" ⟨[.type "map", a, b], []⟩ = pure () := by rw [PySem.W.Fast.te10254737850608025244]; kernel_rfl
theorem entry_map_new : entryFor table "map.__new__" = some Builtin.«map.__new__» := entryFor_of_tree (by kernel_rfl)
theorem slot_map_next : Slot "map" "__next__" "map.__next__" :=
  .of (owner := "map") (n := "__next__") (by rw [typeLookup_type, builtinLookup_eq_fast]; kernel_rfl) (by decide +kernel) (by decide +kernel) (by decide +kernel)
    (by first | exact .inl (by decide +kernel) | exact .inr (by decide +kernel)) (by rw [isSubtype_type]; kernel_rfl)
theorem entry_map_next : entryFor table "map.__next__" = some Builtin.«map.__next__» := entryFor_of_tree (by kernel_rfl)
theorem plain_map_next : plainId "map.__next__" = true := by decide +kernel
theorem args_map_next (a : Value) : argsOk "map.__next__" ⟨[a], []⟩ := by unfold argsOk; rw [PySem.W.Fast.signatureQ_eq]; kernel_rfl
theorem slot_map_iter : Slot "map" "__iter__" "map.__iter__" :=
  .of (owner := "map") (n := "__iter__") (by rw [typeLookup_type, builtinLookup_eq_fast]; kernel_rfl) (by decide +kernel) (by decide +kernel) (by decide +kernel)
    (by first | exact .inl (by decide +kernel) | exact .inr (by decide +kernel)) (by rw [isSubtype_type]; kernel_rfl)
theorem entry_map_iter : entryFor table "map.__iter__" = some Builtin.«dict_keyiterator.__iter__» :=
  entryFor_alias (id' := "dict_keyiterator.__iter__") (by rw [fastTable_eq_tree]; kernel_rfl) (by first | rfl | decide +kernel | (unfold String.splitOn; simp +decide [String.splitOnAux])) (by rw [PySem.W.Fast.canonicalQ_eq]; decide +kernel) (by rw [fastTable_eq_tree]; kernel_rfl)
theorem args_map_iter (a : Value) : argsOk "map.__iter__" ⟨[a], []⟩ := by unfold argsOk; rw [PySem.W.Fast.signatureQ_eq]; kernel_rfl
theorem map_no_len : typeLookup (.type "map") (Str.ofString "__len__") = pure none := by rw [typeLookup_type, builtinLookup_eq_fast]; kernel_rfl
theorem map_no_hint : typeLookup (.type "map") (Str.ofString "__length_hint__") = pure none := by rw [typeLookup_type, builtinLookup_eq_fast]; kernel_rfl

theorem meets_map_new (l : Addr) (vs : List Value) (n : Nat) :
    Meets (Builtin.«map.__new__» ⟨[.type "map", .type "str", .ref l], []⟩) (fun _ R s => s.heap.get? l = some (lo vs n) ∧
      R (.ok (.ret (.ref ((s.heap.push (liObj l)).push (tup1 s.heap.objs.size)).objs.size))) { s with heap := ((s.heap.push (liObj l)).push (tup1 s.heap.objs.size)).push (mapO (s.heap.push (liObj l)).objs.size) }) :=
  .of_wp fun prog w A R s h => by
    obtain ⟨hp, g, d, tk, os⟩ := s; obtain ⟨hl, h⟩ := h
    have hsub := sub_map
    have hL : Heap.IsList (Shared.heap ⟨hp, g, d, tk, os⟩) l vs.toArray := ⟨_, hl, rfl, n, rfl⟩
    wp_walk using wpAny_loadPart' hl, wpAny_pyIter_list hL
    exact ⟨_, rfl, h⟩

section
variable {d u : Nat} {w : World} {A : Around} {E : Value → Shared → Prop} {s : Shared} {L : Addr} {h₀ : Heap} {m : Str → Option Value} {I news : List (Addr × Obj)} {hp : Heap}

theorem call_map {l : Addr} {vs : List Value} {n : Nat} {Q : Value → Shared → Prop} (hl : s.heap.get? l = some (lo vs n))
    (h : Q (.ref ((s.heap.push (liObj l)).push (tup1 s.heap.objs.size)).objs.size) { s with heap := ((s.heap.push (liObj l)).push (tup1 s.heap.objs.size)).push (mapO (s.heap.push (liObj l)).objs.size) }) : wpAny (model PG w) A (call (.type "map") [.type "str", .ref l]) Q E s := by
  refine callType_new called_map (by decide) (typeCall_map _ _) (newCall_map _ _) (fun obj => F.args_object_init_3 obj _ _) entry_map_new (meets_map_new l vs n) ⟨hl, ?_⟩
  exact ⟨⟨_, Heap.get?_push_size _ rfl, rfl⟩, h⟩

theorem map_item {f T it l : Addr} {vs : List Value} {n i : Nat} {x : Str} {t : Tok} {R : Result → Shared → Prop} (h1 : f ≠ it) (hf : s.heap.get? f = some (mapO T)) (hT : s.heap.get? T = some (tup1 it)) (hl : s.heap.get? l = some (lo vs n)) (hit : s.heap.IsListIter it l i) (hx : vs[i]? = some (.str x t))
    (h : ∀ h', h'.IsListIter it l (i + 1) → Heap.SameBut it s.heap h' → R (.ok (.ret (.str x t))) { s with heap := h' }) : codeAny (model PG w) A (.builtin "map.__next__" ⟨[.ref f], []⟩) R s := by
  refine codeAny_builtin entry_map_next ?_
  rw [Around.under_plainId plain_map_next _]
  unfold Builtin.«map.__next__»
  refine wpAny_bind (wpAny_of_eq (a := (Value.ref f, ([] : List Value))) rfl ?_)
  dsimp only
  refine wpAny_bind (wpAny_field hf rfl (x := .ref T) rfl ?_)
  refine wpAny_bind (wpAny_seqItems hT rfl ?_)
  dsimp only
  simp only [← Array.forIn_toList, List.forIn_cons, List.forIn_nil]
  refine wpAny_bind (wpAny_bind (wpAny_bind (wpAny_holding ?_)))
  unfold Builtin.SmallTypes.nextOf
  refine wpAny_bind (cs_list_item (A := A.in1) hit hl hx fun h' hit' hsb => ?_)
  refine wpAny_pure (wpAny_pure ?_)
  dsimp only
  refine wpAny_pure ?_
  refine wpAny_bind (wpAny_field ((hsb.2 f h1).trans hf) rfl (x := .type "str") rfl ?_)
  refine wpAny_bind (wpAny_holding (PySem.P.str_of_str ?_))
  refine wpAny_bind (wpAny_letGo ?_)
  exact wpAny_pure (h h' hit' hsb)

theorem map_end {f T it l : Addr} {vs : List Value} {n i : Nat} {R : Result → Shared → Prop} (hh : A.handled = none) (hf : s.heap.get? f = some (mapO T)) (hT : s.heap.get? T = some (tup1 it)) (hl : s.heap.get? l = some (lo vs n)) (hit : s.heap.IsListIter it l i) (hx : vs[i]? = none)
    (h : ∀ h' e, Heap.ExtBut it s.heap h' → (∃ o, h'.get? e = some o ∧ o.cls = .type "StopIteration") → R (.error (.ref e)) { s with heap := h' }) : codeAny (model PG w) A (.builtin "map.__next__" ⟨[.ref f], []⟩) R s := by
  refine codeAny_builtin entry_map_next ?_
  rw [Around.under_plainId plain_map_next _]
  unfold Builtin.«map.__next__»
  refine wpAny_bind (wpAny_of_eq (a := (Value.ref f, ([] : List Value))) rfl ?_)
  dsimp only
  refine wpAny_bind (wpAny_field hf rfl (x := .ref T) rfl ?_)
  refine wpAny_bind (wpAny_seqItems hT rfl ?_)
  dsimp only
  simp only [← Array.forIn_toList, List.forIn_cons, List.forIn_nil]
  refine wpAny_bind (wpAny_bind (wpAny_bind (wpAny_holding ?_)))
  unfold Builtin.SmallTypes.nextOf
  exact wpAny_bind (cs_list_end (A := A.in1) hh hit hl hx fun h' e he hs => h h' e he hs)

theorem pyNext_map_item {f T it l : Addr} {vs : List Value} {n i : Nat} {x : Str} {t : Tok} {Q : Option Value → Shared → Prop} (h1 : f ≠ it) (hf : s.heap.get? f = some (mapO T)) (hT : s.heap.get? T = some (tup1 it)) (hl : s.heap.get? l = some (lo vs n)) (hit : s.heap.IsListIter it l i) (hx : vs[i]? = some (.str x t))
    (h : ∀ h', h'.IsListIter it l (i + 1) → Heap.SameBut it s.heap h' → Q (some (.str x t)) { s with heap := h' }) : wpAny (model PG w) A (pyNext (.ref f)) Q E s := by
  have hTy : s.TypeIs (.ref f) "map" := ⟨_, hf, rfl⟩
  unfold pyNext
  refine wpAny_bind (wpAny_attempt (wpAny_callSpecial?_slot (name := Str.ofString "__next__") hTy slot_map_next ?_))
  refine wpAny_call (codeAny_of_tree ?_)
  show wpAny _ A.in1 (do checkBuiltinCall "map.__next__" ⟨[.ref f], []⟩; again (.builtin "map.__next__" ⟨[.ref f], []⟩)) _ _ s
  refine wpAny_bind (slot_map_next.check _ _ _ _ _ _ _ _ hTy (args_map_next _) (wpAny_pure ⟨plainId_quiet plain_map_next _, ?_⟩))
  exact map_item h1 hf hT hl hit hx fun h' e1 e2 => wpAny_pure (h h' e1 e2)
theorem pyNext_map_end {f T it l : Addr} {vs : List Value} {n i : Nat} {Q : Option Value → Shared → Prop} (hh : A.handled = none) (hf : s.heap.get? f = some (mapO T)) (hT : s.heap.get? T = some (tup1 it)) (hl : s.heap.get? l = some (lo vs n)) (hit : s.heap.IsListIter it l i) (hx : vs[i]? = none)
    (h : ∀ h', Heap.ExtBut it s.heap h' → Q none { s with heap := h' }) : wpAny (model PG w) A (pyNext (.ref f)) Q E s := by
  have hTy : s.TypeIs (.ref f) "map" := ⟨_, hf, rfl⟩
  unfold pyNext
  refine wpAny_bind (wpAny_attempt (wpAny_callSpecial?_slot (name := Str.ofString "__next__") hTy slot_map_next ?_))
  refine wpAny_call (codeAny_of_tree ?_)
  show wpAny _ A.in1 (do checkBuiltinCall "map.__next__" ⟨[.ref f], []⟩; again (.builtin "map.__next__" ⟨[.ref f], []⟩)) _ _ s
  refine wpAny_bind (slot_map_next.check _ _ _ _ _ _ _ _ hTy (args_map_next _) (wpAny_pure ⟨plainId_quiet plain_map_next _, ?_⟩))
  refine map_end hh hf hT hl hit hx fun h' e e1 e2 => ?_
  obtain ⟨o, ho, hc⟩ := e2
  show wpAny _ _ (isInstance (.ref e) (.type "StopIteration") >>= _) _ _ _
  refine wpAny_bind (wpAny_isInstance (T := "StopIteration") (b := true) ⟨o, ho, hc⟩ isSubtype_stop ?_)
  exact wpAny_pure (h h' e1)

theorem map_loop {D f T it l : Addr} {vs : List Value} {xs : List Str} {n : Nat} (hx : StrsAre vs xs) (hh : A.handled = none) (h1 : f ≠ it) (h2 : T ≠ it) (h3 : l ≠ it) (d1 : D ≠ it) (d2 : f ≠ D) (d3 : T ≠ D) (d4 : l ≠ D) {R : Result → Shared → Prop} (res : Value) :
    ∀ (k i : Nat) (acc : List Value) (c : Nat) (s : Shared), vs.length - i = k → i ≤ vs.length → acc.length + k ≤ 1000000 → s.heap.get? f = some (mapO T) → s.heap.get? T = some (tup1 it) → s.heap.get? l = some (lo vs n) → s.heap.IsListIter it l i → s.heap.get? D = some (lo acc c) →
      (∀ h' c', h'.get? D = some (lo (acc ++ vs.drop i) c') → (∀ b o, b ≠ it → b ≠ D → s.heap.get? b = some o → h'.get? b = some o) → R (.ok (.ret res)) { s with heap := h' }) →
      codeAny (model PG w) A (.builtin "list.extend.loop" ⟨[.ref D, .ref f, res], []⟩) R s := by
  intro k
  induction k with
  | zero =>
    intro i acc c s hk hi hz hf hT hl hit hD hR
    have hin : i = vs.length := by omega
    refine codeAny_builtin F.entry_extend_loop ?_
    rw [Around.under_plainId F.plain_extend_loop _]
    show wpAny _ A.in1 (pyNext (.ref f) >>= _) _ _ s
    refine wpAny_bind (pyNext_map_end (A := A.in1) hh hf hT hl hit (List.getElem?_eq_none (by omega)) fun h' e => ?_)
    show wpAny _ _ (ret res) _ _ _
    refine wpAny_pure (hR h' c ?_ fun b o hb _ e' => e b o hb e')
    rw [hin, List.drop_length, List.append_nil]; exact e D _ d1 hD
  | succ k ih =>
    intro i acc c s hk hi hz hf hT hl hit hD hR
    have hlt : i < vs.length := by omega
    obtain ⟨x, t, hv, _⟩ := StrsAre.str_at hx i vs[i] (List.getElem?_eq_getElem hlt)
    refine codeAny_builtin F.entry_extend_loop ?_
    rw [Around.under_plainId F.plain_extend_loop _]
    show wpAny _ A.in1 (pyNext (.ref f) >>= _) _ _ s
    refine wpAny_bind (pyNext_map_item (A := A.in1) h1 hf hT hl hit (by rw [List.getElem?_eq_getElem hlt, hv]) fun h' hit' hsb => ?_)
    show wpAny _ _ (Builtin.List.listUpdate (.ref D) (·.push (.str x t)) >>= _) _ _ _
    have hD' := (hsb.2 D d1).trans hD
    refine wpAny_bind (listUpdate_at hD' rfl ?_ (by rw [sizeLine_eq]; simp; omega))
    have hup : Obj.mapSeq (·.push (.str x t)) (lo acc c) = lo (acc ++ [.str x t]) (c + 1) := by simp [lo, Obj.mapSeq]
    have hget : (h'.update D (Obj.mapSeq (·.push (.str x t)))).get? D = some (lo (acc ++ [.str x t]) (c + 1)) := hup ▸ Heap.get?_update_self _ hD' (hup ▸ rfl)
    have keep : ∀ b o, b ≠ it → b ≠ D → s.heap.get? b = some o → (h'.update D (Obj.mapSeq (·.push (.str x t)))).get? b = some o := fun b o hb hbD e => (Heap.get?_update_ne _ _ _ _ hbD).trans ((hsb.2 b hb).trans e)
    have hit'' : (h'.update D (Obj.mapSeq (·.push (.str x t)))).IsListIter it l (i + 1) := by
      obtain ⟨o, ho, r⟩ := hit'
      exact ⟨o, (Heap.get?_update_ne _ _ _ _ (Ne.symm d1)).trans ho, r⟩
    refine wpAny_pure ⟨plainId_quiet F.plain_extend_loop _, ih (i + 1) (acc ++ [.str x t]) (c + 1) _ (by omega) hlt (by simp; omega) (keep f _ h1 d2 hf) (keep T _ h2 d3 hT) (keep l _ h3 d4 hl) hit'' hget fun h₃ c₃ g1 g2 => ?_⟩
    refine hR h₃ c₃ ?_ fun b o hb hbD e => g2 b o hb hbD (keep b o hb hbD e)
    rw [g1, List.append_assoc, List.drop_eq_getElem_cons hlt, hv]; rfl
end
end Mine
end

-- StrE
section
open PySem PySem.W PyProof.Rows PySem.Calls
set_option maxRecDepth 100000
set_option maxHeartbeats 2000000
namespace Mine
open LCg
section
variable {d u : Nat} {w : World} {A : Around} {E : Value → Shared → Prop} {s : Shared} {L : Addr} {h₀ : Heap} {m : Str → Option Value} {I news : List (Addr × Obj)} {Q : Value → Shared → Prop} {hp : Heap}

theorem mapS {l : Addr} {vs : List Value} {n : Nat} (F : Fr h₀ L hp m) (N : News h₀ L hp news) (hl : (l, lo vs n) ∈ news)
    (h : ∀ f T it s', Same s s' → Fr h₀ L s'.heap m → News h₀ L s'.heap ((f, mapO T) :: (T, tup1 it) :: (it, liObj l) :: news) → (∀ p ∈ news, p.1 < it) → it < T → T < f → Q (.ref f) s') (he : s.heap = hp := by rfl) :
    wpAny (model PG w) A (call (.type "map") [.type "str", .ref l]) Q E s := by
  subst he
  refine call_map (N _ hl).1 ?_
  have N₁ := N.push F (liObj l) rfl
  have F₁ := F.push (liObj l)
  have N₂ := N₁.push F₁ (tup1 s.heap.objs.size) rfl
  have F₂ := F₁.push (tup1 s.heap.objs.size)
  exact h _ _ _ _ ⟨rfl, rfl⟩ (F₂.push _) (N₂.push F₂ (mapO (s.heap.push (liObj l)).objs.size) rfl) (fun p hp => Heap.lt_size (N p hp).1) (by rw [Heap.size_push]; exact Nat.lt_succ_self _) (by rw [Heap.size_push (s.heap.push (liObj l))]; exact Nat.lt_succ_self _)

theorem extMapS {D f T it l : Addr} {acc vs : List Value} {xs : List Str} {c n : Nat} (hh : A.handled = none) (F : Fr h₀ L hp m) (N : News h₀ L hp ((f, mapO T) :: (T, tup1 it) :: (it, liObj l) :: (D, lo acc c) :: I)) (h1 : ∀ p ∈ (D, lo acc c) :: I, p.1 < it) (h2 : it < T) (h3 : T < f) (hI : Off D I)
    (hl : (l, lo vs n) ∈ I) (hx : StrsAre vs xs) (hz : acc.length + vs.length ≤ 1000000)
    (h : ∀ c' s', Same s s' → Fr h₀ L s'.heap m → News h₀ L s'.heap ((D, lo (acc ++ vs) c') :: I) → Q .none s') (he : s.heap = hp := by rfl) :
    wpAny (model PG w) A (call (.builtin "list.extend") [.ref D, .ref f]) Q E s := by
  subst he
  have zf := N _ (.head _)
  have zT := N _ (.tail _ (.head _))
  have zi := N _ (.tail _ (.tail _ (.head _)))
  have zD := N _ (.tail _ (.tail _ (.tail _ (.head _))))
  have zl := N _ (.tail _ (.tail _ (.tail _ (.tail _ hl))))
  have dit : D < it := h1 _ (.head _)
  have lit : l < it := h1 _ (.tail _ hl)
  have lD : l ≠ D := hI _ hl
  have hT : s.TypeIs (.ref D) "list" := ⟨_, zD.1, rfl⟩
  refine wpAny_call (codeAny_of_tree ?_)
  show wpAny _ A.in1 (do checkBuiltinCall "list.extend" ⟨[.ref D, .ref f], []⟩; again (.builtin "list.extend" ⟨[.ref D, .ref f], []⟩)) _ _ s
  refine wpAny_bind (_root_.PySem.F.slot_list_extend.check _ _ _ _ _ _ _ _ hT (_root_.PySem.F.args_list_extend_2 _ _) (wpAny_pure ⟨plainId_quiet (by decide +kernel) _, codeAny_builtin _root_.PySem.F.entry_list_extend ?_⟩))
  rw [Around.under_plainId (by decide +kernel) _]
  show wpAny _ _ (Builtin.List.listExtendWith (.ref D) (.ref f) .none) _ _ _
  refine extendWith_it (A := A) (T := "map") (R := fun r s' => match r with | .ok (.ret v) => Q v s' | .ok _ => False | .error e => E e s') (by omega) (Nat.ne_of_lt (Nat.lt_trans dit (Nat.lt_trans h2 h3))) zf.1 rfl zD.1 (by decide) (by decide) map_no_len map_no_hint slot_map_iter entry_map_iter (args_map_iter _) slot_map_next (filter_iter_ret _) fun h' k1 k2 => ?_
  have fD : f ≠ D := Nat.ne_of_gt (Nat.lt_trans dit (Nat.lt_trans h2 h3))
  have TD : T ≠ D := Nat.ne_of_gt (Nat.lt_trans dit h2)
  have iD : it ≠ D := Nat.ne_of_gt dit
  have hit : h'.IsListIter it l 0 := ⟨_, k2 it _ iD zi.1, rfl, rfl⟩
  refine map_loop hx (A := A) hh (Nat.ne_of_gt (Nat.lt_trans h2 h3)) (Nat.ne_of_gt h2) (Nat.ne_of_lt lit) (Nat.ne_of_lt dit) fD TD lD .none vs.length 0 acc (c + 2) { s with heap := h' } (by omega) (Nat.zero_le _) hz (k2 f _ fD zf.1) (k2 T _ TD zT.1) (k2 l _ lD zl.1) hit k1 fun h₃ c₃ g1 g2 => ?_
  have keep : ∀ b o, b ≠ it → b ≠ D → s.heap.get? b = some o → h₃.get? b = some o := fun b o hb hD e => g2 b o hb hD (k2 b o hD e)
  obtain ⟨oL, es, ep, hL, hLd, hLk, hLf⟩ := F.ns
  refine h c₃ ⟨h₃, s.gens, s.drawn, s.toks, s.os⟩ ⟨rfl, rfl⟩ ⟨⟨oL, es, ep, keep L _ (Ne.symm zi.2.1) (Ne.symm zD.2.1) hL, hLd, hLk, hLf⟩, fun b o e => keep b o (fun q => by rw [q, zi.2.2] at e; cases e) (fun q => by rw [q, zD.2.2] at e; cases e) (F.keep b o e), F.above⟩ fun p hp => ?_
  rcases List.mem_cons.mp hp with rfl | hp
  · exact ⟨by simpa using g1, zD.2⟩
  · have z := N p (.tail _ (.tail _ (.tail _ (.tail _ hp))))
    exact ⟨keep _ _ (Nat.ne_of_lt (h1 p (.tail _ hp))) (hI p hp) z.1, z.2⟩

theorem gBh {env : Env} {hp : Heap} (C : Cx d u w A L h₀) (F : Fr h₀ L hp m) {x : Str} {pos : Pos} {v : Value} (e : nsIn (KK w) mainGlobals x = some none) (hv : bootBuiltins x = some v) (h : Q v s) (hn : x ≠ "__name__" := by decide)
    (hk : env.scope.kind = .function := by rfl) (hx : env.kindOf x = some .globalImplicit := by rfl) (hg : env.globals = mainGlobals := by rfl) (hb : env.builtins = builtinsNs := by rfl) (hd : (x == ("__debug__" : Str)) = false := by decide) (he : s.heap = hp := by rfl) :
    wpAny (model PG w) A (eval (.Name x pos) env) Q E s := by
  subst he; exact gB C F e hv h hn hk hx hg hb hd

theorem emp_app (d : Str) : Str.empty ++ d = d := Str.ext' (by rw [Str.cps_append]; exact Array.empty_append)
/-- the text of a record -/
noncomputable def txtRows (ag : List Str) (dl : Option Int) (ru : List Str) : List Str :=
  ag.map (fun a => S "User-agent: " ++ a) ++ (match dl with | some i => [S "Crawl-delay: " ++ S (toString i)] | none => []) ++ (if ru = [] then [S "Allow:"] else ru)
noncomputable def txtOf (ag : List Str) (dl : Option Int) (ru : List Str) : Str := Txt.join (S "\n") (txtRows ag dl ru)
noncomputable def SmallDl (dl : Option Int) : Prop := ∀ i, dl = some i → 0 ≤ i ∧ i ≤ 3
noncomputable def SmallS (l : List Str) : Prop := l.length ≤ 200 ∧ ∀ x ∈ l, x.length ≤ 40

theorem sum_len (l : List Str) (b : Nat) (h : ∀ x ∈ l, x.length ≤ b) : (l.map (·.length)).sum ≤ l.length * b := by
  induction l with
  | nil => simp
  | cons x l ih =>
    have h1 := h x (.head _)
    have h2 := ih fun y hy => h y (.tail _ hy)
    simp only [List.map_cons, List.sum_cons, List.length_cons, Nat.succ_mul]
    omega
theorem rows_le {ag ru : List Str} {dl : Option Int} (hdl : SmallDl dl) (hs1 : SmallS ag) (hs2 : SmallS ru) : ∀ x ∈ txtRows ag dl ru, x.length ≤ 60 := by
  intro x hx
  unfold txtRows at hx
  rcases List.mem_append.mp hx with hx | hx
  · rcases List.mem_append.mp hx with hx | hx
    · obtain ⟨a, ha, rfl⟩ := List.mem_map.mp hx
      have := hs1.2 a ha
      have e : (S "User-agent: ").length = 12 := rfl
      rw [strLen_append]; omega
    · rcases dl with _ | i
      · cases hx
      · rw [List.mem_singleton.mp hx, strLen_append]
        have hi := hdl i rfl
        have hil : (S (toString i)).length ≤ 10 := toString_length_le hi.1 (by decide) (by have := hi.2; omega)
        have hcl : (S "Crawl-delay: ").length = 13 := rfl
        omega
  · split at hx
    · rw [List.mem_singleton.mp hx]; exact Nat.le_of_ble_eq_true rfl
    · have := hs2.2 x hx; omega

theorem str_call {hp₀ : Heap} (C : Cx d u w A L h₀) (F : Fr h₀ L hp₀ m) (N : News h₀ L hp₀ news) (hd : d < 600) {r : Rec} (hr : IsRec w news r) (hag : r.ag ≠ []) (hdl : SmallDl (dlS r.dl)) (hs1 : SmallS r.ag) (hs2 : SmallS r.ru)
    (h : ∀ t s', Same s s' → Fr h₀ L s'.heap m → News h₀ L s'.heap news → Q (.str (txtOf r.ag (dlS r.dl) r.ru) t) s') (he : s.heap = hp₀ := by rfl) :
    wpAny (model PG w) A (call (.ref 42) [.ref r.x]) Q E s := by
  subst he
  refine call_def C F N rfl rfl (by omega) rfl (locs rfl) (fun v news' => news' = news ∧ ∃ t, v = .str (txtOf r.ag (dlS r.dl) r.ru) t) ?_ ?_
  · intro g L' A' s₁ C' F₁ N₁ sm l
    have av0 : r.av ≠ [] := fun e => hag (List.length_eq_zero_iff.mp (by rw [← StrsAre.len hr.ag, e]; rfl))
    refine wpAny_execs_cons (wpAny_If (isTrue_not (isTrue_plain (Attribute_Name_ (ld F₁ rfl (getA C' F₁ N₁ hr.x hr.d rfl rfl (truthy_lo (N₁ _ hr.ua).1 (by rw [StrsAre.len hr.ag]; have := hr.z1; omega) ?_)))))))
    rw [decide_eq_true av0]
    simp only [Bool.not_true, Bool.false_eq_true, if_false]
    refine wpAny_execs_nil ?_
    refine wpAny_execs_cons (wpAny_Assign_Name (List_ (spliced_none (newListS F₁ N₁ (by simp) fun D s₂ sm₂ F₂ N₂ lt₂ => ?_))))
    refine stS F₂ N₂ fun s₃ sm₃ F₃ N₃ => ?_
    have hD : Off D news := Off.lt lt₂
    -- the agents
    refine wpAny_execs_cons (wpAny_For (Attribute_Name_ (ld F₃ rfl (getA C' F₃ N₃ (.tail _ hr.x) (.tail _ hr.d) rfl rfl (iterListS F₃ N₃ (.tail _ hr.ua) fun it s₄ sm₄ F₄ N₄ lt₄ => ?_)))))
    refine for_li (vs := r.av) C'.hand rfl F₄ N₄ (Off.lt lt₄) ⟨_, .tail _ hr.ua⟩
      (fun i m' nw => ∃ rv k, nw = (D, lo rv k) :: news ∧ StrsAre rv ((r.ag.take i).map fun a => S "User-agent: " ++ a) ∧ m' (S "ret") = some (.ref D) ∧ m' (S "self") = some (.ref r.x)) ⟨[], 0, rfl, .nil, rfl, rfl⟩ ?_ ?_
    · rintro i v m₁ nw₁ s₅ oI hv ⟨rv, k, rfl, hrv, e1, e2⟩ sm₅ F₅ N₅ off₅ hl₅
      obtain ⟨x, t, rfl, hxi⟩ := StrsAre.str_at hr.ag i v hv
      have hxs : x.length ≤ 40 := hs1.2 x (List.mem_of_getElem? hxi)
      have hit : D ≠ it := off₅ _ (.head _)
      have N₆ : News g L' s₅.heap ((D, lo rv k) :: (it, oI) :: news) := nsub N₅ fun p hp => by
        simp only [List.mem_cons] at hp ⊢
        rcases hp with e | e | e <;> simp [e]
      refine wpAny_execs_cons (wpAny_Expr (MethodCall_ (ld F₅ e1 (lmeth (N₆ _ (.head _)).1 _root_.PySem.F.slot_list_append _root_.PySem.F.type_list_append (callWith_method1 (spliced_more (JoinedStr_many (joinParts_cons (wpAny_Constant_str ⟨?_, joinParts_cons (FormattedValue_plain (ld F₅ rfl (formatField_str (fun t' tk => ?_) ?_)))⟩)))))))))
      · rw [emp_app]; exact Nat.le_of_ble_eq_true rfl
      · have hxl : (Str.empty ++ S "User-agent: " ++ x).length ≤ sizeLine := by
          rw [emp_app, strLen_append]
          have : (S "User-agent: ").length = 12 := rfl
          rw [sizeLine_eq]; omega
        refine ⟨hxl, joinParts_nil (spliced_none (appendS F₅ N₆ (fun p hp => ?_) ?_ fun s₆ sm₆ F₆ N₇ => ?_)) hxl⟩
        · rcases List.mem_cons.mp hp with rfl | hp
          · exact Ne.symm hit
          · exact hD p hp
        · have := StrsAre.len hrv; simp at this; have := hr.z1; omega
        · refine wpAny_execs_nil ⟨rfl, _, (D, lo (rv ++ [.str (Str.empty ++ S "User-agent: " ++ x) tk]) (k + 1)) :: news, ⟨sm₆.1, sm₆.2⟩, F₆, ?_, ?_, ⟨_, .tail _ hr.ua⟩, ⟨_, _, rfl, ?_, ?_, ?_⟩⟩
          · refine nsub N₇ fun p hp => ?_
            simp only [List.mem_cons] at hp ⊢
            rcases hp with e | e | e <;> simp [e]
          · intro p hp
            rcases List.mem_cons.mp hp with rfl | hp
            · exact hit
            · exact off₅ p (.tail _ hp)
          · rw [List.take_succ, hxi, List.map_append, emp_app]
            exact StrsAre.app hrv (.cons _ _ .nil)
          · show (if S "ret" = S "agent" then _ else _) = _
            rw [if_neg (by decide +kernel)]; exact e1
          · show (if S "self" = S "agent" then _ else _) = _
            rw [if_neg (by decide +kernel)]; exact e2
      · rw [sizeLine_eq]; omega
    · rintro s₅ m₁ nw₁ sm₅ F₅ N₅ ⟨rv, k, rfl, hrv, e1, e2⟩
      rw [StrsAre.len hr.ag, List.take_length] at hrv
      -- the delay
      refine wpAny_execs_cons (wpAny_mono (Q := fun f s' => f = .next ∧ ∃ m' rv k, Fr g L' s'.heap m' ∧ News g L' s'.heap ((D, lo rv k) :: news) ∧ Same s₅ s' ∧ m' (S "ret") = some (.ref D) ∧ m' (S "self") = some (.ref r.x) ∧
        StrsAre rv (r.ag.map (fun a => S "User-agent: " ++ a) ++ (match dlS r.dl with | some i => [S "Crawl-delay: " ++ S (toString i)] | none => []))) ?_ (fun f s' h' => ?_) (fun _ _ e => e))
      · refine wpAny_If (wpAny_isTrue_Compare1 (Attribute_Name_ (ld F₅ e2 (getA C' F₅ N₅ (.tail _ hr.x) (.tail _ hr.d) rfl hr.dl.handed (wpAny_Constant_none (isnot_none_gen (wpAny_truthy_bool ?_)))))))
        generalize hdv : r.dl = dv
        rcases (hdv ▸ hr.dl : IsDelay dv) with rfl | ⟨i, ti, rfl⟩
        · exact wpAny_execs_nil ⟨rfl, m₁, rv, k, F₅, N₅, ⟨rfl, rfl⟩, e1, e2, by simpa [dlS] using hrv⟩
        · have hi := hdl i (by rw [hdv]; rfl)
          have hil : (S (toString i)).length ≤ 10 := toString_length_le hi.1 (by decide) (by have := hi.2; omega)
          have hcl : (S "Crawl-delay: ").length = 13 := rfl
          have hc0 : (Str.empty ++ S "Crawl-delay: ").length ≤ sizeLine := by rw [emp_app, hcl, sizeLine_eq]; decide
          have hcc : (Str.empty ++ S "Crawl-delay: " ++ S (toString i)).length ≤ sizeLine := by rw [emp_app, strLen_append, hcl, sizeLine_eq]; omega
          refine wpAny_execs_cons (wpAny_Expr (MethodCall_ (ld F₅ e1 (lmeth (N₅ _ (.head _)).1 _root_.PySem.F.slot_list_append _root_.PySem.F.type_list_append (callWith_method1 (spliced_more (JoinedStr_many (joinParts_cons (wpAny_Constant_str ⟨hc0, joinParts_cons (FormattedValue_plain (Attribute_Name_ (ld F₅ e2 (getA C' F₅ N₅ (.tail _ hr.x) (.tail _ hr.d) rfl hr.dl.handed ?_))))⟩)))))))))
          show wpAny _ _ (formatField r.dl Str.empty) _ _ _
          rw [hdv]
          refine wpAny_formatField_int (by have := hi.1; have := hi.2; exact Nat.lt_of_le_of_lt (Nat.log2_le_self _) (by omega)) ⟨hcc, joinParts_nil (spliced_none (appendS F₅ N₅ hD ?_ fun s₆ sm₆ F₆ N₆ => ?_)) hcc⟩
          · have := StrsAre.len hrv; simp at this; have := hr.z1; omega
          · refine wpAny_execs_nil ⟨rfl, _, _, _, F₆, N₆, ⟨sm₆.1, sm₆.2⟩, e1, e2, ?_⟩
            rw [emp_app]
            exact StrsAre.app hrv (.cons _ _ .nil)
      · obtain ⟨rfl, m₂, rv₂, k₂, F₆, N₆, sm₆, f1, f2, hrv₂⟩ := h'
        refine wpAny_execs_cons (wpAny_If (wpAny_isTrue_Compare1 (Attribute_Name_ (ld F₆ f2 (getA C' F₆ N₆ (.tail _ hr.x) (.tail _ hr.d) rfl rfl (wpAny_Constant_none (isnot_none_gen (wpAny_truthy_bool ?_))))))))
        refine wpAny_execs_nil ?_
        have lenr : rv₂.length ≤ 1100 := by
          rw [StrsAre.len hrv₂]; simp only [List.length_append, List.length_map]
          have := hr.z1; rcases dlS r.dl with _ | i <;> simp <;> omega
        refine wpAny_execs_cons (wpAny_mono (Q := fun f s'' => f = .next ∧ ∃ rv k, Fr g L' s''.heap m₂ ∧ News g L' s''.heap ((D, lo rv k) :: news) ∧ Same s' s'' ∧ StrsAre rv (txtRows r.ag (dlS r.dl) r.ru)) ?_ (fun f s'' h' => ?_) (fun _ _ e => e))
        · refine wpAny_If (isTrue_plain (Attribute_Name_ (ld F₆ f2 (getA C' F₆ N₆ (.tail _ hr.x) (.tail _ hr.d) rfl rfl (truthy_lo (N₆ _ (.tail _ hr.rl)).1 (by rw [StrsAre.len hr.ru]; have := hr.z2; omega) ?_)))))
          by_cases hru : r.rv = []
          · rw [decide_eq_false (fun hn => hn hru)]
            have hru' : r.ru = [] := List.length_eq_zero_iff.mp (by rw [← StrsAre.len hr.ru, hru]; rfl)
            refine wpAny_execs_cons (wpAny_Expr (MethodCall_ (ld F₆ f1 (lmeth (N₆ _ (.head _)).1 _root_.PySem.F.slot_list_append _root_.PySem.F.type_list_append (callWith_method1 (spliced_more (wpAny_Constant_str (spliced_none (appendS F₆ N₆ hD (by omega) fun s₇ sm₇ F₇ N₇ => ?_)))))))))
            refine wpAny_execs_nil ⟨rfl, _, _, F₇, N₇, ⟨sm₇.1, sm₇.2⟩, ?_⟩
            unfold txtRows; rw [if_pos hru']
            exact StrsAre.app hrv₂ (.cons _ _ .nil)
          · rw [decide_eq_true hru]
            have hru' : r.ru ≠ [] := fun e => hru (List.length_eq_zero_iff.mp (by rw [StrsAre.len hr.ru, e]; rfl))
            refine wpAny_execs_cons (wpAny_Expr (MethodCall_ (ld F₆ f1 (lmeth (N₆ _ (.head _)).1 _root_.PySem.F.slot_list_extend _root_.PySem.F.type_list_extend (callWith_method1 (spliced_more ?_))))))
            refine callTh C' F₆ rfl rfl ?_
            refine spliced_more ?_
            refine gBh C' F₆ rfl rfl ?_
            refine spliced_more ?_
            refine Attribute_Name_ ?_
            refine ld F₆ f2 (getA C' F₆ N₆ (.tail _ hr.x) (.tail _ hr.d) rfl rfl (spliced_none (mapS F₆ N₆ (.tail _ hr.rl) fun f T it s₇ sm₇ F₇ N₇ q1 q2 q3 => ?_)))
            refine spliced_none (extMapS C'.hand F₇ N₇ q1 q2 q3 hD hr.rl hr.ru (by rw [StrsAre.len hr.ru]; have := hr.z2; omega) fun c' s₈ sm₈ F₈ N₈ => ?_)
            refine wpAny_execs_nil ⟨rfl, _, _, F₈, N₈, ⟨sm₈.1.trans sm₇.1, sm₈.2.trans sm₇.2⟩, ?_⟩
            unfold txtRows; rw [if_neg hru']
            exact StrsAre.app hrv₂ hr.ru
        · obtain ⟨rfl, rv₃, k₃, F₇, N₇, sm₇, hrv₃⟩ := h'
          refine wpAny_execs_cons (wpAny_Return_some (MethodCall_ (wpAny_Constant_str (GM.join (callWith_method1 (spliced_more (ld F₇ f1 (spliced_none (join_listW (isl N₇ (.head _)) hrv₃ (Nat.le_of_ble_eq_true rfl) ?_ fun t' k' => ?_)))))))))
          · have b : ∀ x ∈ txtRows r.ag (dlS r.dl) r.ru, x.length ≤ 60 := rows_le hdl hs1 hs2
            have b2 := sum_len _ _ b
            have b3 : (txtRows r.ag (dlS r.dl) r.ru).length ≤ 500 := by
              unfold txtRows
              have := hs1.1; have := hs2.1
              simp only [List.length_append, List.length_map]
              have h9 : (if r.ru = [] then [S "Allow:"] else r.ru).length ≤ 201 := by
                split
                · exact Nat.le_of_ble_eq_true rfl
                · omega
              have h8 : (match dlS r.dl with | some i => [S "Crawl-delay: " ++ S (toString i)] | none => []).length ≤ 1 := by
                rcases dlS r.dl with _ | i <;> simp
              omega
            omega
          · exact ⟨_, _, ((((Same.rfl'.nx sm₂).nx sm₃).nx sm₄).nx sm₅).nx ⟨(Same.nx sm₆ sm₇).1, (Same.nx sm₆ sm₇).2⟩, F₇, nsub N₇ fun p hp => .tail _ hp, rfl, t', rfl⟩
  · rintro v s' news' sm F' N' ⟨rfl, t, rfl⟩
    exact h t s' sm F' N'
end
end Mine
end

-- Law1
section
open PySem PySem.W PyProof.Rows PySem.Calls
set_option maxRecDepth 100000
set_option maxHeartbeats 2000000
namespace Mine
open LCg
/-- the law's own def -/
noncomputable def LawFn (w : World) (body : List Stmt) (scope : Scope) : Prop :=
  ∃ (name qual : Str) (params : Arguments) (dV kV doc pm cdv ct oc : Value) (an od : Option Addr) (osl : Array (Option Value)), (KK w).lookup 156 = some ⟨oc, od, .func (fnOf name qual params body scope dV kV doc pm an cdv ct), osl⟩
theorem LawFn.lit {w : World} {name' qual' : Str} {params' : Arguments} {body body' : List Stmt} {scope scope' : Scope} {dV' kV' doc' pm' cdv' ct' oc' : Value} {an' od' : Option Addr} {osl' : Array (Option Value)} (h : LawFn w body' scope')
    (h1 : (KK w).lookup 156 = some ⟨oc', od', .func (fnOf name' qual' params' body scope dV' kV' doc' pm' an' cdv' ct'), osl'⟩) : body' = body ∧ scope' = scope := by
  obtain ⟨_, _, _, _, _, _, _, _, _, _, _, _, _, h2⟩ := h
  have := h1.symm.trans h2
  simp only [Option.some.injEq, Obj.mk.injEq, Data.func.injEq, fnOf] at this
  simp_all
theorem pick_pre (l : List Value) (k : Nat) : kms_pick l none (some (k : Int)) = l.take k := by
  unfold kms_pick kms_lo kms_hi
  simp only [List.drop_zero, Nat.sub_zero]
  rw [if_neg (by omega)]
  rw [Int.toNat_natCast]
  rcases Nat.le_total k l.length with h | h
  · rw [Nat.min_eq_left h]
  · rw [Nat.min_eq_right h, List.take_of_length_le h, List.take_of_length_le (Nat.le_refl _)]
theorem pick_all (l : List Value) : kms_pick l none none = l := by
  unfold kms_pick kms_lo kms_hi
  simp
theorem IntsAre.len : ∀ {vs : List Value} {xs : List Int}, IntsAre vs xs → vs.length = xs.length
  | _, _, .nil => rfl
  | _, _, .cons x t hr => congrArg (· + 1) (IntsAre.len hr)
theorem IntsAre.take : ∀ {vs : List Value} {xs : List Int}, IntsAre vs xs → ∀ k, IntsAre (vs.take k) (xs.take k)
  | _, _, _, 0 => .nil
  | _, _, .nil, _ + 1 => .nil
  | _, _, .cons x t r, k + 1 => .cons x t (IntsAre.take r k)
theorem IntsAre.app : ∀ {vs vs' : List Value} {xs xs' : List Int}, IntsAre vs xs → IntsAre vs' xs' → IntsAre (vs ++ vs') (xs ++ xs')
  | _, _, _, _, .nil, h => h
  | _, _, _, _, .cons x t hr, h => .cons x t (IntsAre.app hr h)
theorem IntsAre.int_at : ∀ {vs : List Value} {xs : List Int}, IntsAre vs xs → ∀ (i : Nat) (v : Value), vs[i]? = some v → ∃ x t, v = .int x t ∧ xs[i]? = some x
  | _, _, .nil, i, v, h => by simp at h
  | _, _, .cons x t hr, 0, v, h => by simp at h; exact ⟨x, t, h.symm, rfl⟩
  | _, _, .cons x t hr, i + 1, v, h => by
    have := IntsAre.int_at hr i v (by simpa using h)
    simpa using this
noncomputable def X5 (xs : List Int) : List Int := (xs.take 5 ++ [2499, 559, 245, 67, 1047]).take 5
theorem X5_len (xs : List Int) : (X5 xs).length = 5 := by simp [X5]
section
variable {d u : Nat} {w : World} {A : Around} {E : Value → Shared → Prop} {s : Shared} {L : Addr} {h₀ : Heap} {m : Str → Option Value} {I news : List (Addr × Obj)} {Q : Flow → Shared → Prop}
  {body : List Stmt} {scope : Scope} {st : Stmt} {qual : Str} {fa : Addr} {cd : Value}

noncomputable def PtsAre (news : List (Addr × Obj)) (xs : List Int) (ps : List Pt) : Prop := ps.length = 5 ∧ ∀ j p, ps[j]? = some p → IsPt news (xs.getD j 0) p
theorem IsPt.mono {news news' : List (Addr × Obj)} {x : Int} {p : Pt} (h : IsPt news x p) (g : ∀ c ∈ news, c ∈ news') : IsPt news' x p :=
  ⟨g _ h.q, g _ h.al, g _ h.rl, h.ag, h.ru, h.dl, h.dx⟩

theorem law_s0 {hp₀ : Heap} (hb : LawFn w body scope) (hst : body[0]? = some st) (C : Cx d u w A L h₀) (F : Fr h₀ L hp₀ m) (N : News h₀ L hp₀ news) (hd : d < 500)
    {a : Addr} {items : Array Value} {xs : List Int} (hm : m (S "script") = some (.ref a)) (hl : h₀.IsList a items) (hi : IntsAre items.toList xs) (hz : xs.length ≤ 63)
    (h : ∀ D ps n s' news', Same s s' → Fr h₀ L s'.heap (fun y => if y = S "parts" then some (.ref D) else m y) → News h₀ L s'.heap ((D, lo (ps.map fun p => .ref p.q) n) :: news') → Off D news' → Gw news news' → PtsAre news' (X5 xs) ps → Q .next s') (he : s.heap = hp₀ := by rfl) :
    wpAny (model PG w) A (exec st (envOfC qual scope L fa cd)) Q E s := by
  subst he
  obtain ⟨rfl, rfl⟩ := hb.lit rfl
  obtain rfl := Option.some.inj hst
  refine compGA (h₀ := h₀) (L := L) rfl rfl rfl rfl rfl (by decide) rfl (by decide) ?_
  refine Subscript_ (wpAny_BinOp (Subscript_ (ldL F hm (wpAny_Slice (wpAny_pure ?_)))))
  rw [evalPart_some]
  refine wpAny_Constant_int (wpAny_pure ?_)
  obtain ⟨oL, hol, hcl, nn, hdl⟩ := hl
  refine kms_slice_lit (its := items) F N ⟨oL, F.keep a oL hol, hcl, nn, hdl⟩ .none (.int _ _) rfl (fun D₁ h₁ F₁ N₁ l₁ => ?_) (by with_unfolding_all rfl) (by intro _; with_unfolding_all rfl) (by rw [sizeLine_eq]; have := IntsAre.len hi; simp at this; omega)
  refine List_ (spliced_more (wpAny_Constant_int (spliced_more (wpAny_Constant_int (spliced_more (wpAny_Constant_int (spliced_more (wpAny_Constant_int (spliced_more (wpAny_Constant_int ?_))))))))))
  refine spliced_none (newListS F₁ N₁ (Nat.le_of_ble_eq_true rfl) fun D₂ s₂ sm₂ F₂ N₂ lt₂ => ?_)
  obtain ⟨t1, t2, t3, t4, t5, N₂⟩ : ∃ t1 t2 t3 t4 t5, News h₀ L s₂.heap ((D₂, lo [.int 2499 t1, .int 559 t2, .int 245 t3, .int 67 t4, .int 1047 t5] 0) :: (D₁, lo (kms_pick items.toList none (some (5 : Int))) 0) :: news) := ⟨_, _, _, _, _, N₂⟩
  have e5 : kms_pick items.toList none (some (5 : Int)) = items.toList.take 5 := pick_pre _ 5
  rw [e5] at N₂
  have hi5 := IntsAre.app (hi.take 5) (.cons 2499 t1 (.cons 559 t2 (.cons 245 t3 (.cons 67 t4 (.cons 1047 t5 .nil)))))
  refine addListS F₂ N₂ (.tail _ (.head _)) (.head _) (by simp; omega) fun D₃ s₃ sm₃ F₃ N₃ lt₃ => ?_
  refine wpAny_Slice (wpAny_pure ?_)
  rw [evalPart_some]
  refine wpAny_Constant_int (wpAny_pure ?_)
  refine kba_turn (value' := PySem.Expr.Name (S "_") ⟨0, 0, 0, 0⟩) (fun _ => rfl) ?_
  refine sliceS F₃ N₃ (.head _) .none (.int _ _) (by simp; omega) fun D₄ s₄ sm₄ F₄ N₄ lt₄ => ?_
  have e6 : ∀ l, kms_pick l none (some (5 : Int)) = l.take 5 := fun l => pick_pre l 5
  rw [e6] at N₄
  have hi6 := hi5.take 5
  generalize hV : List.take 5 (List.take 5 items.toList ++ [Value.int 2499 t1, .int 559 t2, .int 245 t3, .int 67 t4, .int 1047 t5]) = V at N₄ hi6
  have hi7 : IntsAre V (X5 xs) := hi6
  have lenV : V.length = 5 := by rw [IntsAre.len hi7, X5_len]
  refine iterListS F₄ N₄ (.head _) fun it s₅ sm₅ F₅ N₅ lt₅ => ?_
  have g₀ : Gw news ((D₄, lo V 0) :: news) := Gw.rfl'.cons (Off.lt fun p hp => lt₄ p (.tail _ (.tail _ (.tail _ hp))))
  have N₆ : News h₀ L s₅.heap ((it, liObj D₄) :: (D₄, lo V 0) :: news) := nsub N₅ fun p hp => by
    simp only [List.mem_cons] at hp ⊢
    rcases hp with e | e | e <;> simp [e]
  have z4 := N₆ _ (.tail _ (.head _))
  have zi := N₆ _ (.head _)
  have hne : D₄ ≠ it := Nat.ne_of_lt (lt₅ _ (.head _))
  refine ⟨it, liObj D₄, V.length, _, _, _, _, _, fun i ys nw => ∃ ps : List Pt, ps.length = i ∧ ys = ps.map (fun p => .ref p.q) ∧ ∀ j p, ps[j]? = some p → IsPt nw ((X5 xs).getD j 0) p,
    rfl, Wk.led (vs := V) C.hand hne, by omega, ⟨⟨_, zi.1, rfl, rfl⟩, _, z4.1, rfl, 0, rfl⟩, F₅, N₆, Off.lt fun p hp => ?_, fun nw g => ⟨0, g.sub _ (.head _)⟩, ⟨[], rfl, rfl, fun j p e => by simp at e⟩, .inl fun i h hst => ⟨_, _, hst.1⟩, ?_, ?_⟩
  · rcases List.mem_cons.mp hp with rfl | hp
    · exact lt₅ _ (.head _)
    · exact lt₅ _ (.tail _ (.tail _ (.tail _ (.tail _ hp))))
  · intro i v hiv hv
    obtain ⟨x, tx, rfl, hx5⟩ := Mine.IntsAre.int_at hi7 i v hv
    refine turn1 rfl rfl ?_
    rintro ys nw s₆ K oK D I₂ oI₂ m₂ E' ⟨ps, hil, rfl, hps⟩ g₆ sm₆ F₆ hns hx N₆
    subst hil
    refine callN C F₆ rfl rfl (spliced_more (qloc hns hx (spliced_none ⟨C.at F₆, ?_⟩)))
    refine parts_call C F₆ N₆ (by omega) x fun p new s₇ led sm₇ F₇ N₇ g₇ hnew hp => ?_
    refine ⟨led, Same.rfl'.nx sm₇, F₇, N₇, g₇, fun news₂ hin => ⟨ps ++ [p], by simp, by simp, fun j q hj => ?_⟩⟩
    rcases Nat.lt_or_ge j ps.length with q1 | q1
    · rw [List.getElem?_append_left q1] at hj
      exact (hps j q hj).mono fun c hc => hin c (g₇.sub _ (.tail _ (.tail _ (.tail _ hc)))) (.inl hc)
    · rw [List.getElem?_append_right q1] at hj
      have hlt : j - ps.length < [p].length := (List.getElem?_eq_some_iff.mp hj).1
      have e : j = ps.length := by simp at hlt; omega
      subst e
      rw [Nat.sub_self] at hj
      obtain rfl := Option.some.inj hj
      have e2 : (X5 xs).getD ps.length 0 = x := by rw [List.getD_eq_getElem?_getD, hx5]; rfl
      rw [e2]
      exact hp.mono fun c hc => hin c (hnew c hc).1 (.inr (hnew c hc).2)
  · rintro D ys nw s₆ ⟨ps, hpl, rfl, hps⟩ sm₆ g₆ off₆ F₆ N₆
    exact h D ps _ s₆ nw (((((Same.rfl'.nx ⟨sm₂.1, sm₂.2⟩).nx sm₃).nx sm₄).nx sm₅).nx sm₆) F₆ N₆ off₆ (g₀.trans g₆) ⟨by rw [hpl, lenV], hps⟩
end
end Mine
end

-- Law2
section
open PySem PySem.W PyProof.Rows PySem.Calls
set_option maxRecDepth 100000
set_option maxHeartbeats 2000000
namespace Mine
open LCg
section
variable {d u : Nat} {w : World} {A : Around} {E : Value → Shared → Prop} {s : Shared} {L : Addr} {h₀ : Heap} {m : Str → Option Value} {I news : List (Addr × Obj)} {Q : Flow → Shared → Prop}
  {body : List Stmt} {scope : Scope} {st : Stmt} {qual : Str} {fa : Addr} {cd : Value}

/-- the records stand for the parts -/
noncomputable def RecsAre (w : World) (news : List (Addr × Obj)) (xs : List Int) (rs : List Rec) : Prop :=
  rs.length = 5 ∧ ∀ j r, rs[j]? = some r → IsRec w news r ∧ r.ag = agOf (xs.getD j 0) ∧ r.ru = ruOf (xs.getD j 0) ∧ dlS r.dl = dlOf (xs.getD j 0)
noncomputable def noCell (o : Obj) : Prop := ∀ v, o.data ≠ .cell v
theorem noCell_lo {vs : List Value} {n : Nat} : noCell (lo vs n) := fun _ e => by simp [lo, W.listOf] at e
theorem not_cell {hp : Heap} {c a : Addr} {o ob : Obj} {v : Option Value} (N : News h₀ L hp news) (h1 : (c, o) ∈ news) (ho : IsC v o) (h2 : (a, ob) ∈ news) (hne : noCell ob) : a ≠ c := by
  rintro rfl
  have e := (N _ h1).1.symm.trans (N _ h2).1
  obtain rfl := Option.some.inj e
  exact hne v ho
theorem IsRec.cells {news news' : List (Addr × Obj)} {r : Rec} (h : IsRec w news r) (g : ∀ a ob, noCell ob → (a, ob) ∈ news → (a, ob) ∈ news') : IsRec w news' r :=
  ⟨g _ _ (fun _ e => nomatch e) h.x, g _ _ (fun _ e => nomatch e) h.d, g _ _ noCell_lo h.ua, g _ _ noCell_lo h.rl, h.ag, h.ru, h.dl, h.z1, h.z2⟩
theorem IsPt.cells {news news' : List (Addr × Obj)} {x : Int} {p : Pt} (h : IsPt news x p) (g : ∀ a ob, noCell ob → (a, ob) ∈ news → (a, ob) ∈ news') : IsPt news' x p :=
  ⟨g _ _ noCell_lo h.q, g _ _ noCell_lo h.al, g _ _ noCell_lo h.rl, h.ag, h.ru, h.dl, h.dx⟩
theorem ru_len (x : Int) : (ruOf x).length ≤ 6 := by
  unfold ruOf
  have : ((x.fdiv 64).fmod 7).toNat ≤ 6 := by
    have h1 : (x.fdiv 64).fmod 7 < 7 := Int.fmod_lt_of_pos _ (by decide)
    omega
  simpa using this
theorem ag_len (x : Int) : (agOf x).length ≤ 4 := by
  have h : (agOf0 x).length ≤ 4 := by
    unfold agOf0
    have := List.length_filter_le (agBit x) ((List.range 3).map fun j => (0 : Int) + (j : Nat) * 1)
    simp only [List.length_cons, List.length_map, List.length_range] at this ⊢
    omega
  unfold agOf
  split
  · simpa using h
  · exact h

theorem law_s1 {hp₀ : Heap} (hb : LawFn w body scope) (hst : body[1]? = some st) (C : Cx d u w A L h₀) (F : Fr h₀ L hp₀ m) (N : News h₀ L hp₀ news) (hd : d < 500)
    {D : Addr} {n : Nat} {ps : List Pt} {xs : List Int} {oC : Obj} (hm : m (S "parts") = some (.ref D)) (hD : (D, lo (ps.map fun p => .ref p.q) n) ∈ news) (hp : PtsAre news xs ps) (hc : (L + 1, oC) ∈ news) (hoC : IsC none oC)
    (h : ∀ R rs k SZ sz k' o' s' news', Same s s' → Fr h₀ L s'.heap (fun y => if y = S "records" then some (.ref R) else m y) → News h₀ L s'.heap news' → (R, lo (rs.map fun r => .ref r.x) k) ∈ news' → RecsAre w news' xs rs →
      (D, lo (ps.map fun p => .ref p.q) n) ∈ news' → PtsAre news' xs ps → (L + 1, o') ∈ news' → IsC (some (.ref SZ)) o' → (SZ, lo sz k') ∈ news' → IntsAre sz ((List.range 5).map fun j => ((ruOf (xs.getD j 0)).length : Int)) → Q .next s') (he : s.heap = hp₀ := by rfl) :
    wpAny (model PG w) A (exec st (envOfC qual scope L fa cd)) Q E s := by
  subst he
  obtain ⟨rfl, rfl⟩ := hb.lit rfl
  obtain rfl := Option.some.inj hst
  have lenP : (ps.map fun p => Value.ref p.q).length = 5 := by simp [hp.1]
  refine Assign_Tuple ?_
  refine Tuple_ (spliced_more (compG (h₀ := h₀) (L := L) rfl (by decide) rfl (by decide) ?_))
  refine ldL F hm (iterListS F N hD fun it s₁ sm₁ F₁ N₁ lt₁ => ?_)
  have z4 := N₁ _ (.tail _ hD)
  have zi := N₁ _ (.head _)
  have hne : D ≠ it := Nat.ne_of_lt (lt₁ _ hD)
  refine ⟨it, liObj D, _, _, _, _, _, _, fun i ys nw => (∀ c ∈ news, c ∈ nw) ∧ ∃ rs : List Rec, rs.length = i ∧ ys = rs.map (fun r => .ref r.x) ∧ ∀ j r, rs[j]? = some r → IsRec w nw r ∧ r.ag = agOf (xs.getD j 0) ∧ r.ru = ruOf (xs.getD j 0) ∧ dlS r.dl = dlOf (xs.getD j 0),
    rfl, Wk.led (vs := ps.map fun p => Value.ref p.q) C.hand hne, by omega, ⟨⟨_, zi.1, rfl, rfl⟩, _, z4.1, rfl, n, rfl⟩, F₁, N₁, Off.lt lt₁, fun nw g => ⟨n, g.sub _ hD⟩, ⟨fun _ h => h, [], rfl, rfl, fun j p e => by simp at e⟩, .inl fun i h hst => ⟨_, _, hst.1⟩, ?_, ?_⟩
  · intro i v hiv hv
    have hil : i < ps.length := by have := hp.1; omega
    rw [List.getElem?_map, List.getElem?_eq_getElem hil] at hv
    obtain rfl := Option.some.inj hv
    have hpt := hp.2 i ps[i] (List.getElem?_eq_getElem hil)
    refine turn3 (a := .ref ps[i].al) (b := ps[i].dv) (c := .ref ps[i].rl) C.hand rfl rfl rfl (by decide) (by decide) (by decide) rfl ?_ ?_
    · rintro ys nw ⟨hsub, _⟩
      exact ⟨_, hsub _ hpt.q⟩
    rintro ys nw s₆ K oK D' I₂ oI₂ m₂ E' ⟨hsub, rs, hil, rfl, hrs⟩ g₆ sm₆ F₆ hns hx hy hz N₆
    subst hil
    have up : ∀ c ∈ news, c ∈ (K, oK) :: (I₂, oI₂) :: (D', lo (rs.map fun r => Value.ref r.x) rs.length) :: nw := fun c hc => .tail _ (.tail _ (.tail _ (hsub c hc)))
    refine callN C F₆ rfl rfl (spliced_more (qloc hns hx (spliced_more (qloc hns hy (spliced_more (qloc hns hz (spliced_none ⟨C.at F₆, ?_⟩)))))))
    refine record_call C F₆ N₆ (by omega) (up _ hpt.al) (up _ hpt.rl) hpt.ag hpt.ru hpt.dl (by have := ag_len (xs.getD rs.length 0); omega) (by have := ru_len (xs.getD rs.length 0); omega) fun r led s₇ sm₇ F₇ N₇ g₇ hr hf hr3 => ?_
    refine ⟨led, Same.rfl'.nx sm₇, F₇, N₇, Gw.of g₇, fun news₂ hin => ⟨fun c hc => hin c (g₇.sub _ (up c hc)) (.inl (hsub c hc)), rs ++ [r], by simp, by simp, fun j q hj => ?_⟩⟩
    rcases Nat.lt_or_ge j rs.length with q1 | q1
    · rw [List.getElem?_append_left q1] at hj
      exact ⟨(hrs j q hj).1.mono fun c hc => hin c (g₇.sub _ (.tail _ (.tail _ (.tail _ hc)))) (.inl hc), (hrs j q hj).2⟩
    · rw [List.getElem?_append_right q1] at hj
      have hlt : j - rs.length < [r].length := (List.getElem?_eq_some_iff.mp hj).1
      have e : j = rs.length := by simp at hlt; omega
      subst e
      rw [Nat.sub_self] at hj
      obtain rfl := Option.some.inj hj
      refine ⟨⟨hin _ hr.x (.inr (Off.lt fun p hp => (hf p hp).1)), hin _ hr.d (.inr (Off.lt fun p hp => (hf p hp).2.1)), hin _ hr.ua (.inr (Off.lt fun p hp => (hf p hp).2.2.1)), hin _ hr.rl (.inr (Off.lt fun p hp => (hf p hp).2.2.2)), hr.ag, hr.ru, hr.dl, hr.z1, hr.z2⟩, hr3.1, hr3.2.1, ?_⟩
      rw [hr3.2.2]; exact hpt.dx
  · rintro R ys nw s₆ ⟨hsub, rs, hrl, rfl, hrs⟩ sm₆ g₆ off₆ F₆ N₆
    have hrl5 : rs.length = 5 := by rw [hrl, lenP]
    refine spliced_more (compG (h₀ := h₀) (L := L) rfl (by decide) rfl (by decide) ?_)
    refine ldL F₆ hm (iterListS F₆ N₆ (.tail _ (hsub _ hD)) fun it₂ s₇ sm₇ F₇ N₇ lt₇ => ?_)
    have z4 := N₇ _ (.tail _ (.tail _ (hsub _ hD)))
    have zi := N₇ _ (.head _)
    have hne : D ≠ it₂ := Nat.ne_of_lt (lt₇ _ (.tail _ (hsub _ hD)))
    generalize hB : ((R, lo (rs.map fun r => Value.ref r.x) (ps.map fun p => Value.ref p.q).length) :: nw) = B at N₇ lt₇
    have hBs : ∀ c ∈ nw, c ∈ B := fun c hc => hB ▸ .tail _ hc
    have hBR : (R, lo (rs.map fun r => Value.ref r.x) (ps.map fun p => Value.ref p.q).length) ∈ B := hB ▸ .head _
    refine ⟨it₂, liObj D, _, _, _, _, _, _, fun i ys nw' => (∀ c ∈ B, c ∈ nw') ∧ ys.length = i ∧ IntsAre ys ((List.range i).map fun j => ((ruOf (xs.getD j 0)).length : Int)),
      rfl, Wk.led (vs := ps.map fun p => Value.ref p.q) C.hand hne, by omega, ⟨⟨_, zi.1, rfl, rfl⟩, _, z4.1, rfl, n, rfl⟩, F₇, N₇, Off.lt lt₇, fun nw g => ⟨n, g.sub _ (hBs _ (hsub _ hD))⟩, ⟨fun _ h => h, rfl, .nil⟩, .inl fun i h hst => ⟨_, _, hst.1⟩, ?_, ?_⟩
    · intro i v hiv hv
      have hil : i < ps.length := by have := hp.1; omega
      rw [List.getElem?_map, List.getElem?_eq_getElem hil] at hv
      obtain rfl := Option.some.inj hv
      have hpt := hp.2 i ps[i] (List.getElem?_eq_getElem hil)
      refine turn3 (a := .ref ps[i].al) (b := ps[i].dv) (c := .ref ps[i].rl) C.hand rfl rfl rfl (by decide) (by decide) (by decide) rfl ?_ ?_
      · rintro ys nw ⟨hsub', _⟩
        exact ⟨_, hsub' _ (hBs _ (hsub _ hpt.q))⟩
      rintro ys nw s₈ K oK D' I₂ oI₂ m₂ E' ⟨hsub', hyl, hys⟩ g₈ sm₈ F₈ hns hx hy hz N₈
      refine callB C F₈ rfl boot_len (spliced_more (qloc hns hz (spliced_none (len_lo (N₈ _ (.tail _ (.tail _ (.tail _ (hsub' _ (hBs _ (hsub _ hpt.rl))))))).1 (by rw [StrsAre.len hpt.ru]; have := ru_len (xs.getD i 0); omega) ?_))))
      refine ⟨_, ⟨rfl, rfl⟩, F₈, N₈, Gw.rfl', fun news₂ hin => ⟨fun c hc => hin c (.tail _ (.tail _ (.tail _ (hsub' c hc)))) (.inl (hsub' c hc)), by simp [hyl], ?_⟩⟩
      rw [List.range_succ, List.map_append, StrsAre.len hpt.ru]
      exact IntsAre.app hys (.cons _ _ .nil)
    · rintro SZ sz nw₂ s₈ ⟨hsub', hzl, hzs⟩ sm₈ g₈ off₈ F₈ N₈
      refine spliced_none (tupS F₈ N₈ (Nat.le_of_ble_eq_true rfl) fun T s₉ sm₉ F₉ N₉ lt₉ => ?_)
      refine asgT C.hand F₉ N₉ (.head _) rfl rfl fun s₁₀ sm₁₀ F₁₀ N₁₀ => ?_
      refine assignInOrder_cons ?_
      refine assign_Name (stL F₁₀ (nsub N₁₀ fun p hp => .tail _ hp) fun s₁₁ sm₁₁ F₁₁ N₁₁ => ?_)
      refine assignInOrder_cons ?_
      have mc : (L + 1, oC) ∈ (SZ, lo sz (ps.map fun p => Value.ref p.q).length) :: nw₂ := .tail _ (hsub' _ (hBs _ (hsub _ hc)))
      generalize hW : (SZ, lo sz (ps.map fun p => Value.ref p.q).length) :: nw₂ = W at N₁₁ mc
      have hWs : ∀ c ∈ B, c ∈ W := fun c hc => hW ▸ .tail _ (hsub' c hc)
      have hSZ : (SZ, lo sz (ps.map fun p => Value.ref p.q).length) ∈ W := by rw [← hW]; exact .head _
      have NW : News h₀ L s₁₁.heap ((L + 1, oC) :: W.filter fun p => p.1 != L + 1) := nsub N₁₁ fun p hp => by
        rcases List.mem_cons.mp hp with rfl | hp
        · exact mc
        · exact (List.mem_filter.mp hp).1
      refine assign_Name (stC F₁₁ NW (fun p hp => by simpa using (List.mem_filter.mp hp).2) hoC fun o' s₁₂ sm₁₂ F₁₂ N₁₂ ho' => ?_)
      refine assignInOrder_nil ?_
      have tr : ∀ a ob, noCell ob → (a, ob) ∈ W → (a, ob) ∈ (L + 1, o') :: W.filter fun p => p.1 != L + 1 := fun a ob hn hm => .tail _ (List.mem_filter.mpr ⟨hm, by simpa using not_cell N₁₁ mc hoC hm hn⟩)
      refine h R rs _ SZ sz _ o' s₁₂ _ ((((((((Same.rfl'.nx sm₁).nx sm₆).nx sm₇).nx sm₈).nx sm₉).nx sm₁₀).nx sm₁₁).nx sm₁₂) F₁₂ N₁₂ (tr _ _ noCell_lo (hWs _ hBR)) ⟨hrl5, fun j r hj => ⟨(hrs j r hj).1.cells fun a ob hn hm => tr a ob hn (hWs _ (hBs _ hm)), (hrs j r hj).2⟩⟩
        (tr _ _ noCell_lo (hWs _ (hBs _ (hsub _ hD)))) ⟨hp.1, fun j p hj => (hp.2 j p hj).cells fun a ob hn hm => tr a ob hn (hWs _ (hBs _ (hsub _ hm)))⟩ (.head _) ho' (tr _ _ noCell_lo hSZ) ?_
      rw [lenP] at hzs
      exact hzs
end
end Mine
end

-- Law3
section
open PySem PySem.W PyProof.Rows PySem.Calls
set_option maxRecDepth 100000
set_option maxHeartbeats 2000000
namespace Mine
open LCg
noncomputable def ndAt (xs : List Int) (j : Nat) : Nd := ⟨j, agOf (xs.getD j 0), ruOf (xs.getD j 0), dlOf (xs.getD j 0)⟩
noncomputable def ndX (xs : List Int) : List Nd := (List.range 5).map (ndAt xs)
/-- what the merging comes to -/
noncomputable def fin (xs : List Int) : Nd × Nat := prc 5 (srt (ndX xs)) 0 5
theorem totN_X (xs : List Int) : totN (ndX xs) ≤ 30 := by
  have h : ∀ l : List Nat, ((l.map (ndAt xs)).map fun a => a.ru.length).sum ≤ 6 * l.length := fun l => by
    induction l with
    | nil => simp
    | cons a l ih =>
      have := ru_len (xs.getD a 0)
      simp only [List.map_cons, List.sum_cons, List.length_cons] at ih ⊢
      have e : (ndAt xs a).ru.length ≤ 6 := this
      omega
  exact h (List.range 5)
section
variable {d u : Nat} {w : World} {A : Around} {E : Value → Shared → Prop} {s : Shared} {L : Addr} {h₀ : Heap} {m : Str → Option Value} {I news : List (Addr × Obj)} {Q : Flow → Shared → Prop}
  {body : List Stmt} {scope : Scope} {st : Stmt} {qual : Str} {fa : Addr} {cd : Value}

theorem RecsAre.nds {xs : List Int} {rs : List Rec} (h : RecsAre w news xs rs) : ndsOf rs = ndX xs := by
  unfold ndsOf ndX
  rw [h.1]
  refine List.map_congr_left fun j hj => ?_
  have hj5 : j < rs.length := by rw [h.1]; exact List.mem_range.mp hj
  have e := h.2 j _ (List.getElem?_eq_getElem hj5)
  have e2 : rs.getD j rec0 = rs[j] := by rw [List.getD_eq_getElem?_getD, List.getElem?_eq_getElem hj5]; rfl
  unfold ndOf ndAt
  rw [e2, e.2.1, e.2.2.1, e.2.2.2]

theorem law_s2 {hp₀ : Heap} (hb : LawFn w body scope) (hst : body[2]? = some st) (C : Cx d u w A L h₀) (F : Fr h₀ L hp₀ m) (N : News h₀ L hp₀ news) (hd : d < 400) (hu : u < 1000)
    {R : Addr} {k : Nat} {rs : List Rec} {xs : List Int} (hm : m (S "records") = some (.ref R)) (hR : (R, lo (rs.map fun r => .ref r.x) k) ∈ news) (hr : RecsAre w news xs rs)
    (h : ∀ r tl s' news', Same s s' → Fr h₀ L s'.heap (fun y => if y = S "lines" then some (.int ((fin xs).2 : Nat) tl) else if y = S "record" then some (.ref r.x) else m y) → News h₀ L s'.heap news' → (∀ p ∈ news, p ∈ news') →
      IsRec w news' r → r.ag = (fin xs).1.ag → r.ru = (fin xs).1.ru → dlS r.dl = (fin xs).1.dl → Q .next s') (he : s.heap = hp₀ := by rfl) :
    wpAny (model PG w) A (exec st (envOfC qual scope L fa cd)) Q E s := by
  subst he
  obtain ⟨rfl, rfl⟩ := hb.lit rfl
  obtain rfl := Option.some.inj hst
  have e := hr.nds
  have hz : (rs.map fun r => r.ru.length).sum ≤ 100 := by
    have t := totN_X xs
    rw [← e] at t
    have e3 : totN (ndsOf rs) = (rs.map fun r => r.ru.length).sum := by
      unfold totN ndsOf
      rw [List.map_map]
      congr 1
      apply List.ext_getElem
      · simp
      · intro i h1 h2
        simp at h1 h2
        simp [ndOf, List.getElem?_eq_getElem h2]
    omega
  refine Assign_Tuple ?_
  refine callN C F rfl rfl (spliced_more (ldL F hm (spliced_none ⟨C.at F, ?_⟩)))
  refine merged_call C F N (by omega) (by omega) hR hr.1 (fun r hmem => ?_) hz fun q r k' tl s₁ led sm₁ F₁ N₁ sub hq h1 h2 h3 h4 => ?_
  · obtain ⟨j, hj⟩ := List.getElem?_of_mem hmem
    exact (hr.2 j r hj).1
  · refine kun_list F₁ N₁ ⟨_, (N₁ _ hq).1, rfl, k', rfl⟩ C.hand rfl rfl fun h₂ F₂ N₂ => ?_
    refine assignInOrder_cons ?_
    refine assign_Name (stL F₂ N₂ fun s₃ sm₃ F₃ N₃ => ?_)
    refine assignInOrder_cons ?_
    refine assign_Name (stL F₃ N₃ fun s₄ sm₄ F₄ N₄ => ?_)
    refine assignInOrder_nil ?_
    have hfin : fin xs = prc 5 (srt (ndsOf rs)) 0 5 := by unfold fin; rw [e]
    rw [hfin] at h
    exact h r tl s₄ led (((Same.rfl'.nx sm₁).nx ⟨sm₃.1, sm₃.2⟩).nx sm₄) F₄ N₄ sub h1 h2 h3 h4

theorem law_s3 {hp₀ : Heap} (hb : LawFn w body scope) (hst : body[3]? = some st) (C : Cx d u w A L h₀) (F : Fr h₀ L hp₀ m) (N : News h₀ L hp₀ news) (hd : d < 400) (hu : u < 1000)
    {D : Addr} {n : Nat} {ps : List Pt} {xs : List Int} (hm : m (S "parts") = some (.ref D)) (hD : (D, lo (ps.map fun p => .ref p.q) n) ∈ news) (hp : PtsAre news xs ps)
    (h : ∀ al rl av rv dv k1 k2 s' news', Same s s' → Fr h₀ L s'.heap (fun y => if y = S "rules" then some (.ref rl) else if y = S "delay" then some dv else if y = S "agents" then some (.ref al) else m y) → News h₀ L s'.heap news' → (∀ p ∈ news, p ∈ news') →
      (al, lo av k1) ∈ news' → (rl, lo rv k2) ∈ news' → StrsAre av (fin xs).1.ag → StrsAre rv (fin xs).1.ru → IsDelay dv → dlS dv = (fin xs).1.dl → (fin xs).1.ag.length ≤ 1000 → Q .next s') (he : s.heap = hp₀ := by rfl) :
    wpAny (model PG w) A (exec st (envOfC qual scope L fa cd)) Q E s := by
  subst he
  obtain ⟨rfl, rfl⟩ := hb.lit rfl
  obtain rfl := Option.some.inj hst
  obtain ⟨p0, p1, p2, p3, p4, rfl⟩ := five_of hp.1
  refine Assign_Tuple ?_
  refine callN C F rfl rfl (spliced_more (ldL F hm (spliced_none ⟨C.at F, ?_⟩)))
  have pr : ∀ j p, [p0, p1, p2, p3, p4][j]? = some p → PRep news p.q (ndAt xs j) := fun j p hj => by
    have z := hp.2 j p hj
    exact ⟨p.al, p.rl, p.av, p.rv, p.dv, p.k, p.k1, p.k2, z.q, z.al, z.rl, z.ag, z.ru, z.dl, z.dx, by have := ag_len (xs.getD j 0); show (agOf (xs.getD j 0)).length ≤ 1000; omega⟩
  refine due_call (parts := [(p0.q, ndAt xs 0), (p1.q, ndAt xs 1), (p2.q, ndAt xs 2), (p3.q, ndAt xs 3), (p4.q, ndAt xs 4)]) C F N (by omega) (by omega) hD rfl ?_ ?_ ?_ fun q s₁ led sm₁ F₁ N₁ sub hq => ?_
  · intro p hpm
    simp only [List.mem_cons, List.not_mem_nil, or_false] at hpm
    rcases hpm with rfl | rfl | rfl | rfl | rfl
    · exact pr 0 _ rfl
    · exact pr 1 _ rfl
    · exact pr 2 _ rfl
    · exact pr 3 _ rfl
    · exact pr 4 _ rfl
  · intro j hj
    match j, hj with
    | 0, _ => rfl
    | 1, _ => rfl
    | 2, _ => rfl
    | 3, _ => rfl
    | 4, _ => rfl
  · exact Nat.le_trans (totN_X xs) (by decide)
  · obtain ⟨al, rl, av, rv, dv, kk, k1, k2, b1, b2, b3, b4, b5, b6, b7, b8⟩ := hq
    refine kun_list F₁ N₁ ⟨_, (N₁ _ b1).1, rfl, kk, rfl⟩ C.hand rfl rfl fun h₂ F₂ N₂ => ?_
    refine assignInOrder_cons ?_
    refine assign_Name (stL F₂ N₂ fun s₃ sm₃ F₃ N₃ => ?_)
    refine assignInOrder_cons ?_
    refine assign_Name (stL F₃ N₃ fun s₄ sm₄ F₄ N₄ => ?_)
    refine assignInOrder_cons ?_
    refine assign_Name (stL F₄ N₄ fun s₅ sm₅ F₅ N₅ => ?_)
    refine assignInOrder_nil ?_
    exact h al rl av rv dv k1 k2 s₅ led ((((Same.rfl'.nx sm₁).nx ⟨sm₃.1, sm₃.2⟩).nx sm₄).nx sm₅) F₅ N₅ sub b2 b3 b4 b5 b6 b7 b8
end
end Mine
end

-- Law4
section
open PySem PySem.W PyProof.Rows PySem.Calls
set_option maxRecDepth 100000
set_option maxHeartbeats 2000000
namespace Mine
open LCg
section
variable {d u : Nat} {w : World} {A : Around} {E : Value → Shared → Prop} {s : Shared} {L : Addr} {h₀ : Heap} {m : Str → Option Value} {I news : List (Addr × Obj)} {Q : Flow → Shared → Prop}
  {body : List Stmt} {scope : Scope} {st : Stmt} {qual : Str} {fa : Addr} {cd : Value}
noncomputable def rowsOf (ag : List Str) (dl : Option Int) : List Str := ag.map (fun a => S "User-agent: " ++ a) ++ (match dl with | some i => [S "Crawl-delay: " ++ S (toString i)] | none => [])

theorem law_s4 {hp₀ : Heap} (hb : LawFn w body scope) (hst : body[4]? = some st) (C : Cx d u w A L h₀) (F : Fr h₀ L hp₀ m) (N : News h₀ L hp₀ news)
    {al : Addr} {av : List Value} {k1 : Nat} {dv : Value} {ag : List Str} (hm : m (S "agents") = some (.ref al)) (hm2 : m (S "delay") = some dv) (hal : (al, lo av k1) ∈ news) (hag : StrsAre av ag) (hs : SmallS ag) (hdv : IsDelay dv) (hdl : SmallDl (dlS dv))
    (h : ∀ RO rv k s' news', Same s s' → Fr h₀ L s'.heap (fun y => if y = S "rows" then some (.ref RO) else m y) → News h₀ L s'.heap news' → (∀ p ∈ news, p ∈ news') → (RO, lo rv k) ∈ news' → StrsAre rv (rowsOf ag (dlS dv)) → Q .next s') (he : s.heap = hp₀ := by rfl) :
    wpAny (model PG w) A (exec st (envOfC qual scope L fa cd)) Q E s := by
  subst he
  obtain ⟨rfl, rfl⟩ := hb.lit rfl
  obtain rfl := Option.some.inj hst
  refine wpAny_Assign_Name (wpAny_BinOp (compS0 (h₀ := h₀) (L := L) (fun x y => ∃ t, y = .str (S "User-agent: " ++ x) t) C.hand rfl (by decide) rfl (by decide) rfl ?_))
  refine ldL F hm ⟨al, av, k1, ag, m, news, rfl, F, N, hal, hag, by have := hs.1; omega, ?_, ?_⟩
  · intro K s₃ m₂ E' y t hns hx hy hN hB
    have hy40 := hs.2 y hy
    refine wpAny_BinOp (wpAny_Constant_str (qloc hns hx (add_str (fun tt tk => ⟨⟨tt, rfl⟩, keeps_tk keeps_refl⟩) ?_)))
    have e : (S "User-agent: ").length = 12 := rfl
    rw [sizeLine_eq]; show (S "User-agent: ").length + y.length ≤ _; omega
  intro D ys k s₁ sm₁ F₁ N₁ off₁ hpd
  have hys : StrsAre ys (ag.map fun a => S "User-agent: " ++ a) := strs_of hpd
  have lenY : ys.length ≤ 200 := by rw [StrsAre.len hys]; simpa using hs.1
  refine IfExp_ (wpAny_isTrue_Compare1 (ldL F₁ hm2 (wpAny_Constant_none (isnot_none_gen (wpAny_truthy_bool ?_)))))
  rcases hdv with rfl | ⟨i, ti, rfl⟩
  · refine List_ (spliced_none (newListS F₁ N₁ (Nat.le_of_ble_eq_true rfl) fun D₂ s₂ sm₂ F₂ N₂ lt₂ => ?_))
    refine addListS F₂ N₂ (.tail _ (.head _)) (.head _) (by simp; omega) fun D₃ s₃ sm₃ F₃ N₃ lt₃ => ?_
    refine stL F₃ N₃ fun s₄ sm₄ F₄ N₄ => ?_
    exact h D₃ _ 0 s₄ _ ((((Same.rfl'.nx sm₁).nx ⟨sm₂.1, sm₂.2⟩).nx sm₃).nx sm₄) F₄ N₄ (fun p hp => .tail _ (.tail _ (.tail _ hp))) (.head _) (StrsAre.app hys .nil)
  · have hi := hdl i rfl
    have hil : (S (toString i)).length ≤ 10 := toString_length_le hi.1 (by decide) (by have := hi.2; omega)
    refine List_ (spliced_more (wpAny_BinOp (wpAny_Constant_str ?_)))
    refine callTh C F₁ rfl rfl (spliced_more (ldL F₁ hm2 (spliced_none (str_of_int_fit (N := 10) (by have := hi.1; have := hi.2; split <;> omega) (by decide) fun _ => ?_))))
    refine add_str (fun tt tk => ?_) ?_
    · refine spliced_none (newListS F₁ N₁ (Nat.le_of_ble_eq_true rfl) fun D₂ s₂ sm₂ F₂ N₂ lt₂ => ?_)
      refine addListS F₂ N₂ (.tail _ (.head _)) (.head _) (by simp; omega) fun D₃ s₃ sm₃ F₃ N₃ lt₃ => ?_
      refine stL F₃ N₃ fun s₄ sm₄ F₄ N₄ => ?_
      exact h D₃ _ 0 s₄ _ ((((Same.rfl'.nx sm₁).nx ⟨sm₂.1, sm₂.2⟩).nx sm₃).nx sm₄) F₄ N₄ (fun p hp => .tail _ (.tail _ (.tail _ hp))) (.head _) (StrsAre.app hys (.cons _ _ .nil))
    · have e : (S "Crawl-delay: ").length = 13 := rfl
      rw [sizeLine_eq]; show (S "Crawl-delay: ").length + (S (toString i)).length ≤ _; omega
end
end Mine
end

-- Law5
section
open PySem PySem.W PyProof.Rows PySem.Calls
set_option maxRecDepth 100000
set_option maxHeartbeats 2000000
namespace Mine
open LCg
theorem ok_app {a b : Str} (ha : PyData.strOk a = true) (hb : PyData.strOk b = true) : PyData.strOk (a ++ b) = true := by
  unfold PyData.strOk at *
  rw [Str.cps_append, Array.all_append, ha, hb]; rfl
theorem ok_join {sep : Str} (hs : PyData.strOk sep = true) : ∀ l : List Str, (∀ x ∈ l, PyData.strOk x = true) → PyData.strOk (Str.join sep l) = true
  | [], _ => (by decide +kernel : PyData.strOk Str.empty = true)
  | [x], h => h x (.head _)
  | x :: y :: r, h => by
    have := ok_join hs (y :: r) fun z hz => h z (.tail _ hz)
    exact ok_app (ok_app (h x (.head _)) hs) this
noncomputable def OkS (l : List Str) : Prop := ∀ x ∈ l, PyData.strOk x = true
theorem ok_digits {i : Int} (h : 0 ≤ i ∧ i ≤ 3) : PyData.strOk (S (toString i)) = true := by
  obtain ⟨h0, h3⟩ := h
  rcases (by omega : i = 0 ∨ i = 1 ∨ i = 2 ∨ i = 3) with rfl | rfl | rfl | rfl <;> decide +kernel
theorem ok_txt {ag ru : List Str} {dl : Option Int} (ha : OkS ag) (hr : OkS ru) (hd : SmallDl dl) : PyData.strOk (txtOf ag dl ru) = true := by
  show PyData.strOk (Builtin.Str.glued _ _) = true
  rw [StrLaws.glued_eq_join]
  refine ok_join (by decide +kernel) _ fun x hx => ?_
  unfold txtRows at hx
  rcases List.mem_append.mp hx with hx | hx
  · rcases List.mem_append.mp hx with hx | hx
    · obtain ⟨a, h, rfl⟩ := List.mem_map.mp hx
      exact ok_app (by decide +kernel) (ha a h)
    · rcases dl with _ | i
      · cases hx
      · rw [List.mem_singleton.mp hx]
        exact ok_app (by decide +kernel) (ok_digits (hd i rfl))
  · split at hx
    · rw [List.mem_singleton.mp hx]; decide +kernel
    · exact hr x hx
theorem rows_len (ag : List Str) (dl : Option Int) : (rowsOf ag dl).length ≤ ag.length + 1 := by
  cases dl <;> simp [rowsOf]
noncomputable def dlDat : Option Int → Dat
  | some i => .int i
  | none => .none
theorem dat_dl {news : List (Addr × Obj)} {dv : Value} (h : IsDelay dv) : DatIn news dv (dlDat (dlS dv)) := by
  rcases h with rfl | ⟨i, t, rfl⟩
  · exact .none
  · exact .int i t
theorem dat_strs {news : List (Addr × Obj)} : ∀ {vs : List Value} {xs : List Str}, StrsAre vs xs → DatAll news vs (xs.map .str)
  | _, _, .nil => .nil
  | _, _, .cons x t r => .cons (.str x t) (dat_strs r)
theorem ok_dl (n : Nat) (dl : Option Int) : kqdOk n (dlDat dl) = true := by
  rcases dl with _ | i <;> cases n <;> rfl
theorem ok_strs {n : Nat} {xs : List Str} (h : OkS xs) : kqdOk (n + 1) (.list (xs.map .str)) = true := by
  rw [kqdOk, List.all_eq_true]
  intro d hd
  obtain ⟨x, hx, rfl⟩ := List.mem_map.mp hd
  have := h x hx
  cases n <;> exact this
theorem str_back {P : Str → Tok → Prop} {Q : Value → Shared → Prop} {v : Value} {s' : Shared} {x : Str} {t : Tok} (hv : v = .str x t) (h : Q (.str x t) s') : StrBack Q v s' := by
  subst hv; exact h
section
variable {d u : Nat} {w : World} {A : Around} {E : Value → Shared → Prop} {s : Shared} {L : Addr} {h₀ : Heap} {m : Str → Option Value} {I news : List (Addr × Obj)} {Q : Flow → Shared → Prop}
  {body : List Stmt} {scope : Scope} {st : Stmt} {qual : Str} {fa : Addr} {cd : Value}
theorem Cx.in2 (C : Cx d u w A L h₀) : Cx d (u + 2) w A.in1.in1 L h₀ := by
  obtain ⟨⟨A₀, base, outer, env, mean, mg, mb, B, T, hA, hf, hke⟩, X, hdep, hun, hh⟩ := C
  exact ⟨⟨A₀, base, outer, env, mean, mg, mb, B, T, hA, hf, hke⟩, X, hdep, Nat.add_le_add_right hun 2, hh⟩

theorem law_s5 {hp₀ : Heap} (hb : LawFn w body scope) (hst : body[5]? = some st) (C : Cx d u w A L h₀) (F : Fr h₀ L hp₀ m) (N : News h₀ L hp₀ news) (hd : d < 500) (hu : u < 1000)
    {r : Rec} {al rl RO : Addr} {av rv wv : List Value} {k1 k2 k3 : Nat} {dv : Value} {f : Nd} (hm1 : m (S "record") = some (.ref r.x)) (hm2 : m (S "agents") = some (.ref al)) (hm3 : m (S "delay") = some dv) (hm4 : m (S "rules") = some (.ref rl)) (hm5 : m (S "rows") = some (.ref RO))
    (hr : IsRec w news r) (e1 : r.ag = f.ag) (e2 : r.ru = f.ru) (e3 : dlS r.dl = f.dl) (hal : (al, lo av k1) ∈ news) (hrl : (rl, lo rv k2) ∈ news) (hro : (RO, lo wv k3) ∈ news) (hag : StrsAre av f.ag) (hru : StrsAre rv f.ru) (hdv : IsDelay dv) (e4 : dlS dv = f.dl) (hwv : StrsAre wv (rowsOf f.ag f.dl))
    (hne : f.ag ≠ []) (z1 : SmallS f.ag) (z2 : SmallS f.ru) (z3 : SmallDl f.dl) (o1 : OkS f.ag) (o2 : OkS f.ru)
    (h : ∀ s' news', Same s s' → Fr h₀ L s'.heap m → News h₀ L s'.heap news' → (∀ p ∈ news, p ∈ news') → Q .next s') (he : s.heap = hp₀ := by rfl) :
    wpAny (model PG w) A (exec st (envOfC qual scope L fa cd)) Q E s := by
  subst he
  obtain ⟨rfl, rfl⟩ := hb.lit rfl
  obtain rfl := Option.some.inj hst
  have hA : A.units ≤ u := C.units
  refine wpAny_If (wpAny_isTrue_Compare1 (List_ ?_))
  refine spliced_more (Attribute_Name_ (ldL F hm1 (getA C F N hr.x hr.d rfl rfl ?_)))
  refine spliced_more (Attribute_Name_ (ldL F hm1 (getA C F N hr.x hr.d rfl hr.dl.handed ?_)))
  refine spliced_more (Attribute_Name_ (ldL F hm1 (getA C F N hr.x hr.d rfl rfl ?_)))
  refine spliced_more ?_
  refine callTh C F rfl rfl (spliced_more (ldL F hm1 (spliced_none ?_)))
  refine kso_call (Nat.lt_of_le_of_lt (Nat.add_le_add_right hA 2) (Nat.lt_of_lt_of_le (by omega : u + 2 < 1900) (by decide))) (C.at F) (InstAt.of_news N hr.x hr.d) rfl rfl ?_
  refine str_call (C.in2) F N (by omega) hr (by rw [e1]; exact hne) (by rw [e3]; exact z3) (by rw [e1]; exact z1) (by rw [e2]; exact z2) fun t s₁ sm₁ F₁ N₁ => ?_
  rw [e1, e2, e3]
  refine spliced_none (newListS F₁ N₁ (Nat.le_of_ble_eq_true rfl) fun A1 s₂ sm₂ F₂ N₂ lt₂ => ?_)
  refine List_ (spliced_more (ldL F₂ hm2 (spliced_more (ldL F₂ hm3 (spliced_more (ldL F₂ hm4 (spliced_more ?_)))))))
  refine MethodCall_ (wpAny_Constant_str (GM.join (callWith_method1 (spliced_more (wpAny_BinOp (ldL F₂ hm5 ?_))))))
  refine wpAny_mono (Q := fun v s' => ∃ a vs n led, v = .ref a ∧ Same s₂ s' ∧ Fr h₀ L s'.heap m ∧ News h₀ L s'.heap led ∧ (∀ p ∈ (A1, lo [.ref r.ua, r.dl, .ref r.rl, .str (txtOf f.ag f.dl f.ru) t] 0) :: news, p ∈ led) ∧ (a, lo vs n) ∈ led ∧ StrsAre vs (if f.ru = [] then [S "Allow:"] else f.ru)) ?_ ?_ (fun _ _ x => x)
  · refine IfExp_ (wpAny_isTrue_Compare1 (ldL F₂ hm4 (List_ (spliced_none (newListS F₂ N₂ (Nat.le_of_ble_eq_true rfl) fun E1 s₃ sm₃ F₃ N₃ lt₃ => ?_)))))
    refine kqd_ne N₃ (.tail _ (.tail _ hrl)) rfl rfl (dat_strs (news := []) hru) (fun _ h => nomatch h) (.head _) rfl rfl (.nil (news := [])) (fun _ h => nomatch h) (fun e he => ?_) (fun e he => nomatch he) (Nat.lt_of_le_of_lt (Nat.add_le_add_right hA 64) (Nat.lt_of_lt_of_le (by omega : u + 64 < 1900) (by decide))) (wpAny_truthy_bool ?_)
    · obtain ⟨x, hx, rfl⟩ := List.mem_map.mp he
      exact o2 x hx
    by_cases hn : f.ru = []
    · have e : (f.ru.map Dat.str) = [] := by rw [hn]; rfl
      rw [decide_eq_true e, if_pos hn]
      refine List_ (spliced_more (wpAny_Constant_str (spliced_none (newListS F₃ N₃ (Nat.le_of_ble_eq_true rfl) fun E2 s₄ sm₄ F₄ N₄ lt₄ => ?_))))
      exact ⟨E2, _, _, _, rfl, ⟨sm₄.1.trans sm₃.1, sm₄.2.trans sm₃.2⟩, F₄, N₄, fun p hp => .tail _ (.tail _ hp), .head _, .cons _ _ .nil⟩
    · have e : ¬ (f.ru.map Dat.str) = [] := by simpa using hn
      rw [decide_eq_false e, if_neg hn]
      exact ldL F₃ hm4 ⟨rl, rv, k2, _, rfl, ⟨sm₃.1, sm₃.2⟩, F₃, N₃, fun p hp => .tail _ hp, .tail _ (.tail _ hrl), hru⟩
  rintro v s₃ ⟨a, vs, n, led, rfl, sm₃, F₃, N₃, sub, ha, hvs⟩
  have lenR : rv.length ≤ 200 := by rw [StrsAre.len hru]; exact z2.1
  have lenW : wv.length ≤ 300 := by
    rw [StrsAre.len hwv]
    have := z1.1; have := rows_len f.ag f.dl; omega
  have lenV : vs.length ≤ 201 := by
    rw [StrsAre.len hvs]
    split
    · exact Nat.le_of_ble_eq_true rfl
    · have := z2.1; omega
  refine addListS F₃ N₃ (sub _ (.tail _ hro)) ha (by omega) fun J s₄ sm₄ F₄ N₄ lt₄ => ?_
  have hrows : StrsAre (wv ++ vs) (txtRows f.ag f.dl f.ru) := StrsAre.app hwv hvs
  refine spliced_none (join_listW (isl N₄ (.head _)) hrows (Nat.le_of_ble_eq_true rfl) ?_ fun t' k' => ?_)
  · have b2 := sum_len _ _ (rows_le z3 z1 z2)
    have b3 := StrsAre.len hrows
    simp only [List.length_append] at b3
    omega
  refine spliced_none (newListS F₄ N₄ (Nat.le_of_ble_eq_true rfl) fun A2 s₅ sm₅ F₅ N₅ lt₅ => ?_)
  have Da : DatAll news [.ref r.ua, r.dl, .ref r.rl, .str (txtOf f.ag f.dl f.ru) t] [.list (f.ag.map .str), dlDat f.dl, .list (f.ru.map .str), .str (txtOf f.ag f.dl f.ru)] := by
    refine .cons (.list hr.ua ?_) (.cons ?_ (.cons (.list hr.rl ?_) (.cons (.str _ _) .nil)))
    · rw [← e1]; exact dat_strs hr.ag
    · rw [← e3]; exact dat_dl hr.dl
    · rw [← e2]; exact dat_strs hr.ru
  have Db : DatAll news [.ref al, dv, .ref rl, .str (txtOf f.ag f.dl f.ru) t'] [.list (f.ag.map .str), dlDat f.dl, .list (f.ru.map .str), .str (txtOf f.ag f.dl f.ru)] := by
    refine .cons (.list hal (dat_strs hag)) (.cons ?_ (.cons (.list hrl (dat_strs hru)) (.cons (.str _ _) .nil)))
    rw [← e4]; exact dat_dl hdv
  have ok : ∀ e ∈ [Dat.list (f.ag.map .str), dlDat f.dl, .list (f.ru.map .str), .str (txtOf f.ag f.dl f.ru)], kqdOk 8 e = true := by
    intro e he
    simp only [List.mem_cons, List.not_mem_nil, or_false] at he
    rcases he with rfl | rfl | rfl | rfl
    · exact ok_strs o1
    · exact ok_dl _ _
    · exact ok_strs o2
    · exact ok_txt o1 o2 z3
  refine kqd_ne N₅ (.tail _ (.tail _ (sub _ (.head _)))) rfl rfl Da (fun p hp => .tail _ (.tail _ (sub _ (.tail _ hp)))) (.head _) rfl rfl Db (fun p hp => .tail _ (.tail _ (sub _ (.tail _ hp)))) ok ok (Nat.lt_of_le_of_lt (Nat.add_le_add_right hA 64) (Nat.lt_of_lt_of_le (by omega : u + 64 < 1900) (by decide))) (wpAny_truthy_bool ?_)
  have hdec : ∀ (p : Prop) (inst : Decidable p), p → @decide p inst = true := fun p inst h => @decide_eq_true p inst h
  rw [hdec _ _ rfl]
  refine wpAny_execs_nil ?_
  exact h s₅ _ (((((Same.rfl'.nx ⟨sm₁.1, sm₁.2⟩).nx ⟨sm₂.1, sm₂.2⟩).nx sm₃).nx sm₄).nx ⟨sm₅.1, sm₅.2⟩) F₅ N₅ fun p hp => .tail _ (.tail _ (sub _ (.tail _ hp)))
end
end Mine
end

-- Law6
section
open PySem PySem.W PyProof.Rows PySem.Calls
set_option maxRecDepth 100000
set_option maxHeartbeats 2000000
namespace Mine
open LCg
section
variable {d u : Nat} {w : World} {A : Around} {E : Value → Shared → Prop} {s : Shared} {L : Addr} {h₀ : Heap} {m : Str → Option Value} {I news : List (Addr × Obj)} {Q : Flow → Shared → Prop}
  {body : List Stmt} {scope : Scope} {st : Stmt} {qual : Str} {fa : Addr} {cd : Value}
/-- the lines that a merging from left to right takes -/
noncomputable def leftOf (ns : List Int) : Int := ((List.range 4).map fun j => (ns.take (j + 2)).sum).sum

theorem law_s6 {hp₀ : Heap} (hb : LawFn w body scope) (hst : body[6]? = some st) (C : Cx d u w A L h₀) (F : Fr h₀ L hp₀ m) (N : News h₀ L hp₀ news) (hd : d < 500) (hu : u < 1000)
    {oC : Obj} {SZ : Addr} {sz : List Value} {k0 : Nat} {ns : List Int} (hc : (L + 1, oC) ∈ news) (hoC : IsC (some (.ref SZ)) oC) (hSZ : (SZ, lo sz k0) ∈ news) (hsz : IntsAre sz ns) (hl5 : ns.length = 5)
    (h : ∀ t t' s' news', Same s s' → Fr h₀ L s'.heap (fun y => if y = S "left" then some (.int (leftOf ns) t') else if y = S "least" then some (.int (leastOf ns) t) else m y) → News h₀ L s'.heap news' → (∀ p ∈ news, p ∈ news') → Q .next s') (he : s.heap = hp₀ := by rfl) :
    wpAny (model PG w) A (exec st (envOfC qual scope L fa cd)) Q E s := by
  subst he
  obtain ⟨rfl, rfl⟩ := hb.lit rfl
  obtain rfl := Option.some.inj hst
  have lenS : sz.length = 5 := by rw [IntsAre.len hsz, hl5]
  refine Assign_Tuple_swapped (names := [S "least", S "left"]) ?_
  refine Tuple_ (spliced_more (callN C F rfl rfl (spliced_more (ldC N hc hoC (spliced_none ⟨C.at F, ?_⟩)))))
  refine least_call C F N (by omega) (by omega) hSZ hsz hl5 fun t s₁ sm₁ F₁ N₁ => ?_
  refine spliced_more ?_
  refine callB C F₁ rfl boot_sum (spliced_more ?_)
  refine compG (h₀ := h₀) (L := L) rfl (by decide) rfl (by decide) ?_
  refine callT C F₁ rfl boot_range (spliced_more (wpAny_Constant_int (spliced_more (wpAny_Constant_int (spliced_none ?_)))))
  refine rangeS2 F₁ N₁ fun r v' s₃ sm₃ F₃ N₃ lt₃ => iterRangeS F₃ N₃ (.head _) (by rfl) fun I s₄ sm₄ F₄ N₄ lt₄ => ?_
  have e5 : Builtin.Range.rangeSize 2 6 1 = ((4 : Nat) : Int) := by rfl
  rw [e5] at N₄
  have N₅ : News h₀ L s₄.heap ((I, riObj 2 (4 : Nat) 1) :: news) := nsub N₄ fun p hp => by
    simp only [List.mem_cons] at hp ⊢
    rcases hp with e | e <;> simp [e]
  refine ⟨I, riObj 2 (4 : Nat) 1, 4, _, _, _, _, _, fun i ys nw => (∀ c ∈ news, c ∈ nw) ∧ ys.length = i ∧ IntsAre ys ((List.range i).map fun j => (ns.take (j + 2)).sum),
    rfl, Wk.range (a := 2) (c := 1) (n := 4) C.hand, by decide, by simpa using (N₅ _ (.head _)).1, F₄, N₅, Off.lt fun p hp => lt₄ p (.tail _ hp), fun _ _ => trivial, ⟨fun _ h => h, rfl, .nil⟩, .inr fun _ _ => rfl, ?_, ?_⟩
  · rintro i v hi ⟨t, rfl⟩
    refine turn1 rfl rfl ?_
    rintro ys nw s₅ K oK D I₂ oI₂ m₂ E' ⟨hsub, hyl, hys⟩ g₅ sm₅ F₅ hns hx N₅
    have mC : (L + 1, oC) ∈ (K, oK) :: (I₂, oI₂) :: (D, lo ys i) :: nw := .tail _ (.tail _ (.tail _ (hsub _ hc)))
    have mS : (SZ, lo sz k0) ∈ (K, oK) :: (I₂, oI₂) :: (D, lo ys i) :: nw := .tail _ (.tail _ (.tail _ (hsub _ hSZ)))
    refine callB C F₅ rfl boot_sum (spliced_more (Subscript_ (qcell (N₅ _ mC).1 rfl hoC (wpAny_Slice (wpAny_pure ?_)))))
    rw [evalPart_some]
    refine qloc hns hx (wpAny_pure ?_)
    refine sliceS F₅ N₅ mS .none (.int _ _) (by omega) fun D₂ s₆ sm₆ F₆ N₆ lt₆ => ?_
    have ek : (2 + (i : Nat) * 1 : Int) = ((i + 2 : Nat) : Int) := by omega
    rw [ek, pick_pre] at N₆
    refine spliced_none (LSm.sum_ints F₆ N₆ C.hand (isl N₆ (.head _)) (IntsAre.take hsz (i + 2)) fun h' tk t' F₇ N₇ => ?_)
    refine ⟨_, ⟨sm₆.1, sm₆.2⟩, F₇, N₇, Gw.rfl'.cons (Off.lt lt₆), fun news₂ hin => ⟨fun c hc => hin c (.tail _ (.tail _ (.tail _ (.tail _ (hsub c hc))))) (.inl (hsub c hc)), by simp [hyl], ?_⟩⟩
    rw [List.range_succ, List.map_append]
    exact IntsAre.app hys (.cons _ _ .nil)
  · rintro Z zs nw s₅ ⟨hsub, hzl, hzs⟩ sm₅ g₅ off₅ F₅ N₅
    refine spliced_none (LSm.sum_ints F₅ N₅ C.hand (isl N₅ (.head _)) hzs fun h' tk t' F₆ N₆ => ?_)
    refine spliced_none (tupS F₆ N₆ (Nat.le_of_ble_eq_true rfl) fun T s₇ sm₇ F₇ N₇ lt₇ => ?_)
    refine unpS C.hand F₇ N₇ (.head _) rfl fun s₈ sm₈ F₈ N₈ => ?_
    refine assignInOrder_cons ?_
    refine bindName_ (stL F₈ N₈ fun s₉ sm₉ F₉ N₉ => ?_)
    refine assignInOrder_cons ?_
    refine bindName_ (stL F₉ N₉ fun s₁₀ sm₁₀ F₁₀ N₁₀ => ?_)
    refine assignInOrder_nil ?_
    have hm : (fun y => if y = S "least" then some (Value.int (leastOf ns) t) else if y = S "left" then some (.int (leftOf ns) t') else m y) = (fun y => if y = S "left" then some (.int (leftOf ns) t') else if y = S "least" then some (Value.int (leastOf ns) t) else m y) := by
      funext y
      by_cases h1 : y = S "least"
      · subst h1; rw [if_pos rfl, if_neg (by decide), if_pos rfl]
      · rw [if_neg h1]
        by_cases h2 : y = S "left"
        · rw [if_pos h2, if_pos h2]
        · rw [if_neg h2, if_neg h2, if_neg h1]
    have F₁₁ : Fr h₀ L s₁₀.heap (fun y => if y = S "least" then some (Value.int (leastOf ns) t) else if y = S "left" then some (.int (leftOf ns) t') else m y) := F₁₀
    rw [hm] at F₁₁
    exact h t t' s₁₀ _ ((((((((Same.rfl'.nx sm₁).nx sm₃).nx sm₄).nx sm₅).nx ⟨sm₇.1, sm₇.2⟩).nx sm₈).nx sm₉).nx sm₁₀) F₁₁ N₁₀ fun p hp => .tail _ (.tail _ (hsub p hp))
end
end Mine
end

-- Law7
section
open PySem PySem.W PyProof.Rows PySem.Calls
set_option maxRecDepth 100000
set_option maxHeartbeats 2000000
namespace Mine
open LCg
section
variable {d u : Nat} {w : World} {A : Around} {E : Value → Shared → Prop} {s : Shared} {L : Addr} {h₀ : Heap} {m : Str → Option Value} {I news : List (Addr × Obj)} {Q : Flow → Shared → Prop}
  {body : List Stmt} {scope : Scope} {st : Stmt} {qual : Str} {fa : Addr} {cd : Value}
theorem law_s7 {hp₀ : Heap} (hb : LawFn w body scope) (hst : body[7]? = some st) (C : Cx d u w A L h₀) (F : Fr h₀ L hp₀ m) (N : News h₀ L hp₀ news) (hd : d < 500) (hu : u < 1000)
    {li lf : Int} {t1 t2 t3 : Tok} (hm1 : m (S "lines") = some (.int li t1)) (hm2 : m (S "left") = some (.int lf t2)) (hm3 : m (S "least") = some (.int li t3)) (hle : li ≤ lf)
    (h : ∀ s' news', Same s s' → Fr h₀ L s'.heap m → News h₀ L s'.heap news' → (∀ p ∈ news, p ∈ news') → Q .next s') (he : s.heap = hp₀ := by rfl) :
    wpAny (model PG w) A (exec st (envOfC qual scope L fa cd)) Q E s := by
  subst he
  obtain ⟨rfl, rfl⟩ := hb.lit rfl
  obtain rfl := Option.some.inj hst
  have hA : A.units ≤ u := C.units
  refine wpAny_If (wpAny_isTrue_Compare1 (List_ ?_))
  refine spliced_more (ldL F hm1 (spliced_more ?_))
  refine callN C F rfl rfl (spliced_more (ldL F hm1 (spliced_more (ldL F hm2 (spliced_none ⟨C.at F, ?_⟩)))))
  refine three_call C F N (by omega) li lf fun r1 s₁ sm₁ F₁ N₁ => ?_
  refine spliced_more ?_
  refine callN C F₁ rfl rfl (spliced_more (ldL F₁ hm2 (spliced_more (ldL F₁ hm1 (spliced_none ⟨C.at F₁, ?_⟩)))))
  refine three_call C F₁ N₁ (by omega) lf li fun r2 s₂ sm₂ F₂ N₂ => ?_
  refine spliced_none (newListS F₂ N₂ (Nat.le_of_ble_eq_true rfl) fun A1 s₃ sm₃ F₃ N₃ lt₃ => ?_)
  refine wpAny_BinOp (List_ (spliced_more (ldL F₃ hm3 (spliced_none (newListS F₃ N₃ (Nat.le_of_ble_eq_true rfl) fun A2 s₄ sm₄ F₄ N₄ lt₄ => ?_)))))
  refine IfExp_ (wpAny_isTrue_Compare1 (ldL F₄ hm3 (ldL F₄ hm2 (PyProof.Rows.lt_int (wpAny_truthy_bool ?_)))))
  have hU : A.units + 64 < cLine := Nat.lt_of_le_of_lt (Nat.add_le_add_right hA 64) (Nat.lt_of_lt_of_le (by omega : u + 64 < 1900) (by decide))
  have ok3 : ∀ a b c : Int, ∀ e ∈ [Dat.int a, .int b, .int c], kqdOk 8 e = true := by
    intro a b c e he
    simp only [List.mem_cons, List.not_mem_nil, or_false] at he
    rcases he with rfl | rfl | rfl <;> rfl
  have hdec : ∀ (p : Prop) (inst : Decidable p), p → @decide p inst = true := fun p inst h => @decide_eq_true p inst h
  by_cases hlt : li < lf
  · rw [decide_eq_true hlt]
    have e1 : (if li > lf then (1 : Int) else if li < lf then -1 else 0) = -1 := by rw [if_neg (by omega), if_pos hlt]
    have e2 : (if lf > li then (1 : Int) else if lf < li then -1 else 0) = 1 := by rw [if_pos hlt]
    refine List_ (spliced_more (wpAny_UnaryOp (wpAny_Constant_int (neg_int (spliced_more (wpAny_Constant_int (spliced_none (newListS F₄ N₄ (Nat.le_of_ble_eq_true rfl) fun A3 s₅ sm₅ F₅ N₅ lt₅ => ?_))))))))
    refine addListS F₅ N₅ (.tail _ (.head _)) (.head _) (Nat.le_of_ble_eq_true rfl) fun A4 s₆ sm₆ F₆ N₆ lt₆ => ?_
    refine kqd_ne (n₁ := []) (n₂ := []) N₆ (.tail _ (.tail _ (.tail _ (.head _)))) rfl rfl (.cons (.int _ _) (.cons (.int _ _) (.cons (.int _ _) .nil))) (fun _ h => nomatch h) (.head _) rfl rfl (.cons (.int _ _) (.cons (.int _ _) (.cons (.int _ _) .nil))) (fun _ h => nomatch h) (ok3 _ _ _) (ok3 _ _ _) hU (wpAny_truthy_bool ?_)
    rw [hdec _ _ (by rw [e1, e2])]
    refine wpAny_execs_nil ?_
    exact h s₆ _ ((((((Same.rfl'.nx sm₁).nx sm₂).nx ⟨sm₃.1, sm₃.2⟩).nx ⟨sm₄.1, sm₄.2⟩).nx ⟨sm₅.1, sm₅.2⟩).nx sm₆) F₆ N₆ fun p hp => .tail _ (.tail _ (.tail _ (.tail _ hp)))
  · rw [decide_eq_false hlt]
    have e1 : (if li > lf then (1 : Int) else if li < lf then -1 else 0) = 0 := by rw [if_neg (by omega), if_neg hlt]
    have e2 : (if lf > li then (1 : Int) else if lf < li then -1 else 0) = 0 := by rw [if_neg (by omega), if_neg (by omega)]
    refine List_ (spliced_more (wpAny_Constant_int (spliced_more (wpAny_Constant_int (spliced_none (newListS F₄ N₄ (Nat.le_of_ble_eq_true rfl) fun A3 s₅ sm₅ F₅ N₅ lt₅ => ?_))))))
    refine addListS F₅ N₅ (.tail _ (.head _)) (.head _) (Nat.le_of_ble_eq_true rfl) fun A4 s₆ sm₆ F₆ N₆ lt₆ => ?_
    refine kqd_ne (n₁ := []) (n₂ := []) N₆ (.tail _ (.tail _ (.tail _ (.head _)))) rfl rfl (.cons (.int _ _) (.cons (.int _ _) (.cons (.int _ _) .nil))) (fun _ h => nomatch h) (.head _) rfl rfl (.cons (.int _ _) (.cons (.int _ _) (.cons (.int _ _) .nil))) (fun _ h => nomatch h) (ok3 _ _ _) (ok3 _ _ _) hU (wpAny_truthy_bool ?_)
    rw [hdec _ _ (by rw [e1, e2])]
    refine wpAny_execs_nil ?_
    exact h s₆ _ ((((((Same.rfl'.nx sm₁).nx sm₂).nx ⟨sm₃.1, sm₃.2⟩).nx ⟨sm₄.1, sm₄.2⟩).nx ⟨sm₅.1, sm₅.2⟩).nx sm₆) F₆ N₆ fun p hp => .tail _ (.tail _ (.tail _ (.tail _ hp)))
end
end Mine
end

-- Law8
section
open PySem PySem.W PyProof.Rows PySem.Calls
set_option maxRecDepth 100000
set_option maxHeartbeats 2000000
namespace Mine
open LCg
section
variable {d u : Nat} {w : World} {A : Around} {E : Value → Shared → Prop} {s : Shared} {L : Addr} {h₀ : Heap} {m : Str → Option Value} {I news : List (Addr × Obj)} {Q : Flow → Shared → Prop}
  {body : List Stmt} {scope : Scope} {st : Stmt} {qual : Str} {fa : Addr} {cd : Value} {env : Env}
noncomputable def fourOf (xs : List Int) : List Str := ruOf (xs.getD 0 0) ++ ruOf (xs.getD 1 0) ++ ruOf (xs.getD 2 0) ++ ruOf (xs.getD 3 0)
theorem four_len (xs : List Int) : (fourOf xs).length ≤ 24 := by
  unfold fourOf
  have := ru_len (xs.getD 0 0); have := ru_len (xs.getD 1 0); have := ru_len (xs.getD 2 0); have := ru_len (xs.getD 3 0)
  simp only [List.length_append]; omega

theorem law_s8 {hp₀ : Heap} (hb : LawFn w body scope) (hst : body[8]? = some st) (C : Cx d u w A L h₀) (F : Fr h₀ L hp₀ m) (N : News h₀ L hp₀ news)
    {D : Addr} {n : Nat} {ps : List Pt} {xs : List Int} (hm : m (S "parts") = some (.ref D)) (hD : (D, lo (ps.map fun p => .ref p.q) n) ∈ news) (hp : PtsAre news xs ps)
    (h : ∀ FO fv s' news', Same s s' → Fr h₀ L s'.heap (fun y => if y = S "four" then some (.ref FO) else m y) → News h₀ L s'.heap ((FO, lo fv 0) :: news') → (∀ p ∈ news', p.1 < FO) → (∀ p ∈ news, p ∈ news') → StrsAre fv (fourOf xs) → Q .next s') (he : s.heap = hp₀ := by rfl) :
    wpAny (model PG w) A (exec st (envOfC qual scope L fa cd)) Q E s := by
  subst he
  obtain ⟨rfl, rfl⟩ := hb.lit rfl
  obtain rfl := Option.some.inj hst
  obtain ⟨p0, p1, p2, p3, p4, rfl⟩ := five_of hp.1
  have z0 := hp.2 0 p0 rfl
  have z1 := hp.2 1 p1 rfl
  have z2 := hp.2 2 p2 rfl
  have z3 := hp.2 3 p3 rfl
  have l0 := StrsAre.len z0.ru
  have l1 := StrsAre.len z1.ru
  have l2 := StrsAre.len z2.ru
  have l3 := StrsAre.len z3.ru
  have b0 := ru_len (xs.getD 0 0)
  have b1 := ru_len (xs.getD 1 0)
  have b2 := ru_len (xs.getD 2 0)
  have b3 := ru_len (xs.getD 3 0)
  refine wpAny_Assign_Name (wpAny_BinOp (wpAny_BinOp (wpAny_BinOp (Subscript_ (Subscript_ ?_)))))
  refine ldL F hm (wpAny_Constant_int (tail_list (N _ hD).1 (by decide) rfl (Nat.le_of_ble_eq_true rfl) (wpAny_Constant_int (tail_list (N _ z0.q).1 (by decide) rfl (Nat.le_of_ble_eq_true rfl) ?_))))
  refine Subscript_ (Subscript_ (ldL F hm (wpAny_Constant_int (tail_list (N _ hD).1 (by decide) rfl (Nat.le_of_ble_eq_true rfl) (wpAny_Constant_int (tail_list (N _ z1.q).1 (by decide) rfl (Nat.le_of_ble_eq_true rfl) ?_))))))
  refine addListS F N z0.rl z1.rl (by omega) fun D₁ s₁ sm₁ F₁ N₁ lt₁ => ?_
  refine Subscript_ (Subscript_ (ldL F₁ hm (wpAny_Constant_int (tail_list (N₁ _ (.tail _ hD)).1 (by decide) rfl (Nat.le_of_ble_eq_true rfl) (wpAny_Constant_int (tail_list (N₁ _ (.tail _ z2.q)).1 (by decide) rfl (Nat.le_of_ble_eq_true rfl) ?_))))))
  refine addListS F₁ N₁ (.head _) (.tail _ z2.rl) (by simp; omega) fun D₂ s₂ sm₂ F₂ N₂ lt₂ => ?_
  refine Subscript_ (Subscript_ (ldL F₂ hm (wpAny_Constant_int (tail_list (N₂ _ (.tail _ (.tail _ hD))).1 (by decide) rfl (Nat.le_of_ble_eq_true rfl) (wpAny_Constant_int (tail_list (N₂ _ (.tail _ (.tail _ z3.q))).1 (by decide) rfl (Nat.le_of_ble_eq_true rfl) ?_))))))
  refine addListS F₂ N₂ (.head _) (.tail _ (.tail _ z3.rl)) (by simp; omega) fun D₃ s₃ sm₃ F₃ N₃ lt₃ => ?_
  refine stL F₃ N₃ fun s₄ sm₄ F₄ N₄ => ?_
  exact h D₃ _ s₄ _ ((((Same.rfl'.nx sm₁).nx sm₂).nx sm₃).nx sm₄) F₄ N₄ lt₃ (fun p hp => .tail _ (.tail _ hp)) (StrsAre.app (StrsAre.app (StrsAre.app z0.ru z1.ru) z2.ru) z3.ru)
end
end Mine
end

-- Law9
section
open PySem PySem.W PyProof.Rows PySem.Calls
set_option maxRecDepth 100000
set_option maxHeartbeats 2000000
namespace Mine
open LCg
section
variable {d u : Nat} {w : World} {A : Around} {E : Value → Shared → Prop} {s : Shared} {L : Addr} {h₀ : Heap} {m : Str → Option Value} {I news : List (Addr × Obj)} {Q : Flow → Shared → Prop}
  {body : List Stmt} {scope : Scope} {st : Stmt} {qual : Str} {fa : Addr} {cd : Value} {env : Env}

theorem law_s9 {hp₀ : Heap} (hb : LawFn w body scope) (hst : body[9]? = some st) (C : Cx d u w A L h₀) (C0 : Cx0 w A L h₀ env) (F : Fr h₀ L hp₀ m)
    {FO : Addr} {fv : List Value} {n : Nat} {xs ys : List Str} {r : Rec} (N : News h₀ L hp₀ ((FO, lo fv n) :: news)) (lt : ∀ p ∈ news, p.1 < FO) (hm1 : m (S "record") = some (.ref r.x)) (hm2 : m (S "four") = some (.ref FO))
    (hr : IsRec w news r) (e1 : r.ru = xs) (hfv : StrsAre fv ys) (z1 : xs.length ≤ 200) (z2 : ys.length ≤ 200)
    (h : ∀ T M mv km av' ka s', Same s s' → Fr h₀ L s'.heap (fun y => if y = S "lacks" then some (.ref T) else m y) → News h₀ L s'.heap ((T, { cls := .type "tuple", data := .seq #[.ref M, .ref FO] }) :: (M, lo mv km) :: (FO, lo av' ka) :: news) →
      StrsAre mv (udOf xs ys).1 → StrsAre av' (udOf xs ys).2 → Q .next s') (he : s.heap = hp₀ := by rfl) :
    wpAny (model PG w) A (exec st (envOfC qual scope L fa cd)) Q E s := by
  subst he
  subst e1
  obtain ⟨rfl, rfl⟩ := hb.lit rfl
  obtain rfl := Option.some.inj hst
  refine wpAny_Assign_Name ?_
  refine callN C F rfl rfl (spliced_more (Subscript_ (Attribute_Name_ (ldL F hm1 (getA C F N (.tail _ hr.x) (.tail _ hr.d) rfl rfl (wpAny_Slice (wpAny_pure (wpAny_pure (wpAny_pure ?_)))))))))
  refine kba_turn (value' := PySem.Expr.Name (S "_") ⟨0, 0, 0, 0⟩) (fun _ => rfl) ?_
  refine sliceS (s := { s with toks := s.toks + 1 }) F N (.tail _ hr.rl) .none .none (by rw [StrsAre.len hr.ru]; omega) fun D₁ s₁ sm₁ F₁ N₁ lt₁ => ?_
  rw [pick_all] at N₁
  refine spliced_more (ldL F₁ hm2 (spliced_none ⟨C.at F₁, ?_⟩))
  refine unord_call C0 F₁ N₁ (Off.lt fun p hp => lt₁ p (.tail _ hp)) (Off.lt lt) (Nat.ne_of_gt (lt₁ _ (.head _))) hr.ru hfv (by omega) (by omega) fun T M mv km av' ka s₂ sm₂ F₂ N₂ hmv hav => ?_
  refine stL F₂ N₂ fun s₃ sm₃ F₃ N₃ => ?_
  exact h T M mv km av' ka s₃ (((Same.rfl'.nx ⟨sm₁.1, sm₁.2⟩).nx sm₂).nx sm₃) F₃ N₃ hmv hav
end
end Mine
end

-- Law10
section
open PySem PySem.W PyProof.Rows PySem.Calls
set_option maxRecDepth 100000
set_option maxHeartbeats 2000000
namespace Mine
open LCg
section
variable {d u : Nat} {w : World} {A : Around} {E : Value → Shared → Prop} {s : Shared} {L : Addr} {h₀ : Heap} {m : Str → Option Value} {I news : List (Addr × Obj)}
  {body : List Stmt} {scope : Scope} {st : Stmt} {qual : Str} {fa : Addr} {cd : Value} {env : Env}

theorem dat_eq {v1 v2 : Value} {e : Dat} {Q : Value → Shared → Prop} (N : News h₀ L s.heap news) (D1 : DatIn news v1 e) (D2 : DatIn news v2 e) (ok : kqdOk 9 e = true) (hu : A.units + 64 < cLine) (h : Q (.bool true) s) : wpAny (model PG w) A (compareOp .Eq v1 v2) Q E s := by
  obtain ⟨as, ra⟩ := kqd_in N 9 D1 ok
  obtain ⟨bs, rb⟩ := kqd_in N 9 D2 ok
  have la := kqd_lay 9 e ok
  have sh : SeqAt.shaped (kqdP e) = true := by
    unfold SeqAt.shaped; rw [la.1, Bool.true_and]; exact decide_eq_true (Nat.le_trans la.2 (by decide))
  refine eq_dataH ra rb sh sh hu ?_
  rw [(kqd_eqv 9 e e 9 ok ok).mpr rfl]
  exact h

noncomputable def partDat (x : Int) : Dat := .list [.list ((agOf x).map .str), dlDat (dlOf x), .list ((ruOf x).map .str)]
theorem ok_part {x : Int} (h1 : OkS (agOf x)) (h2 : OkS (ruOf x)) : kqdOk 8 (partDat x) = true := by
  unfold partDat
  rw [kqdOk, List.all_eq_true]
  intro e he
  simp only [List.mem_cons, List.not_mem_nil, or_false] at he
  rcases he with rfl | rfl | rfl
  · exact ok_strs h1
  · exact ok_dl _ _
  · exact ok_strs h2
theorem dat_snoc {news : List (Addr × Obj)} : ∀ {vs : List Value} {ds : List Dat} {v : Value} {e : Dat}, DatAll news vs ds → DatIn news v e → DatAll news (vs ++ [v]) (ds ++ [e])
  | _, _, _, _, .nil, h => .cons h .nil
  | _, _, _, _, .cons a r, h => .cons a (dat_snoc r h)

theorem law_s10 {Q : Flow → Shared → Prop} {hp₀ : Heap} (hb : LawFn w body scope) (hst : body[10]? = some st) (C : Cx d u w A L h₀) (F : Fr h₀ L hp₀ m) (N : News h₀ L hp₀ news) (hd : d < 500) (hu : u < 1000)
    {T M FO rl D R : Addr} {mv rv : List Value} {av' : List Value} {km ka k2 n k : Nat} {ps : List Pt} {rs : List Rec} {xs : List Int} {ru : List Str}
    (hm1 : m (S "lacks") = some (.ref T)) (hm2 : m (S "rules") = some (.ref rl)) (hm3 : m (S "parts") = some (.ref D)) (hm4 : m (S "records") = some (.ref R))
    (hT : (T, { cls := .type "tuple", data := .seq #[.ref M, .ref FO] }) ∈ news) (hM : (M, lo mv km) ∈ news) (hFO : (FO, lo av' ka) ∈ news) (hrl : (rl, lo rv k2) ∈ news) (hru : StrsAre rv ru) (z1 : ru.length < 70)
    (hD : (D, lo (ps.map fun p => .ref p.q) n) ∈ news) (hp : PtsAre news xs ps) (hR : (R, lo (rs.map fun r => .ref r.x) k) ∈ news) (hr : RecsAre w news xs rs)
    (hmv : StrsAre mv (lacksOf ru (fourOf xs))) (hav : StrsAre av' []) (ok1 : OkS (lacksOf ru (fourOf xs))) (ok2 : ∀ x, OkS (agOf x)) (ok3 : ∀ x, OkS (ruOf x))
    (h : ∀ s', Same s s' → Fr h₀ L s'.heap m → Q (.ret (.bool true)) s') (he : s.heap = hp₀ := by rfl) :
    wpAny (model PG w) A (exec st (envOfC qual scope L fa cd)) Q E s := by
  subst he
  obtain ⟨rfl, rfl⟩ := hb.lit rfl
  obtain rfl := Option.some.inj hst
  have hA : A.units ≤ u := C.units
  have hU : A.units + 64 < cLine := Nat.lt_of_le_of_lt (Nat.add_le_add_right hA 64) (Nat.lt_of_lt_of_le (by omega : u + 64 < 1900) (by decide))
  obtain ⟨p0, p1, p2, p3, p4, rfl⟩ := five_of hp.1
  have z0 := hp.2 0 p0 rfl
  have z1' := hp.2 1 p1 rfl
  have z2 := hp.2 2 p2 rfl
  have z3 := hp.2 3 p3 rfl
  have z4 := hp.2 4 p4 rfl
  have l0 := StrsAre.len z0.ru
  have l1 := StrsAre.len z1'.ru
  have l2 := StrsAre.len z2.ru
  have l3 := StrsAre.len z3.ru
  have b0 := ru_len (xs.getD 0 0)
  have b1 := ru_len (xs.getD 1 0)
  have b2 := ru_len (xs.getD 2 0)
  have b3 := ru_len (xs.getD 3 0)
  refine wpAny_Return_some (BoolOp_and (wpAny_Compare1 (ldL F hm1 (Tuple_ (spliced_more ?_)))))
  refine callN C F rfl rfl (spliced_more (ldL F hm2 (spliced_more (wpAny_BinOp (wpAny_BinOp (wpAny_BinOp (Subscript_ (Subscript_ ?_))))))))
  refine ldL F hm3 (wpAny_Constant_int (tail_list (N _ hD).1 (by decide) rfl (Nat.le_of_ble_eq_true rfl) (wpAny_Constant_int (tail_list (N _ z0.q).1 (by decide) rfl (Nat.le_of_ble_eq_true rfl) ?_))))
  refine Subscript_ (Subscript_ (ldL F hm3 (wpAny_Constant_int (tail_list (N _ hD).1 (by decide) rfl (Nat.le_of_ble_eq_true rfl) (wpAny_Constant_int (tail_list (N _ z1'.q).1 (by decide) rfl (Nat.le_of_ble_eq_true rfl) ?_))))))
  refine addListS F N z0.rl z1'.rl (by omega) fun D₁ s₁ sm₁ F₁ N₁ lt₁ => ?_
  refine Subscript_ (Subscript_ (ldL F₁ hm3 (wpAny_Constant_int (tail_list (N₁ _ (.tail _ hD)).1 (by decide) rfl (Nat.le_of_ble_eq_true rfl) (wpAny_Constant_int (tail_list (N₁ _ (.tail _ z2.q)).1 (by decide) rfl (Nat.le_of_ble_eq_true rfl) ?_))))))
  refine addListS F₁ N₁ (.head _) (.tail _ z2.rl) (by simp; omega) fun D₂ s₂ sm₂ F₂ N₂ lt₂ => ?_
  refine Subscript_ (Subscript_ (ldL F₂ hm3 (wpAny_Constant_int (tail_list (N₂ _ (.tail _ (.tail _ hD))).1 (by decide) rfl (Nat.le_of_ble_eq_true rfl) (wpAny_Constant_int (tail_list (N₂ _ (.tail _ (.tail _ z3.q))).1 (by decide) rfl (Nat.le_of_ble_eq_true rfl) ?_))))))
  refine addListS F₂ N₂ (.head _) (.tail _ (.tail _ z3.rl)) (by simp; omega) fun D₃ s₃ sm₃ F₃ N₃ lt₃ => ?_
  have h4 : StrsAre (((p0.rv ++ p1.rv) ++ p2.rv) ++ p3.rv) (fourOf xs) := StrsAre.app (StrsAre.app (StrsAre.app z0.ru z1'.ru) z2.ru) z3.ru
  refine spliced_none ⟨C.at F₃, ?_⟩
  refine lacks_call C F₃ N₃ (by omega) (.tail _ (.tail _ (.tail _ hrl))) (.head _) hru h4 z1 fun LA lv kl s₄ nw sm₄ F₄ N₄ g₄ hLA offLA hlv => ?_
  refine spliced_more (List_ (spliced_none (newListS F₄ N₄ (Nat.le_of_ble_eq_true rfl) fun E1 s₅ sm₅ F₅ N₅ lt₅ => ?_)))
  refine spliced_none (tupS F₅ N₅ (Nat.le_of_ble_eq_true rfl) fun T₂ s₆ sm₆ F₆ N₆ lt₆ => ?_)
  have up : ∀ p ∈ news, p ∈ nw := fun p hp => g₄.sub _ (.tail _ (.tail _ (.tail _ hp)))
  have up6 : ∀ p ∈ news, p ∈ (T₂, tupO [.ref LA, .ref E1]) :: (E1, lo [] 0) :: nw := fun p hp => .tail _ (.tail _ (up p hp))
  refine dat_eq (e := .tuple [.list ((lacksOf ru (fourOf xs)).map .str), .list []]) N₆
    (.tuple (vs := [.ref M, .ref FO]) (up6 _ hT) (.cons (.list (up6 _ hM) (dat_strs hmv)) (.cons (.list (up6 _ hFO) (dat_strs hav)) .nil)))
    (.tuple (vs := [.ref LA, .ref E1]) (.head _) (.cons (.list (.tail _ (.tail _ hLA)) (dat_strs hlv)) (.cons (.list (.tail _ (.head _)) .nil) .nil))) ?_ hU (wpAny_truthy_bool ?_)
  · rw [kqdOk, List.all_eq_true]
    intro e he
    simp only [List.mem_cons, List.not_mem_nil, or_false] at he
    rcases he with rfl | rfl
    · exact ok_strs ok1
    · rfl
  rw [if_pos rfl]
  refine BoolOp_one (wpAny_Compare1 (compG (h₀ := h₀) (L := L) rfl (by decide) rfl (by decide) ?_))
  generalize hB : (T₂, tupO [.ref LA, .ref E1]) :: (E1, lo [] 0) :: nw = B at N₆ up6
  refine ldL F₆ hm4 (iterListS F₆ N₆ (up6 _ hR) fun it s₇ sm₇ F₇ N₇ lt₇ => ?_)
  have q4 := N₇ _ (.tail _ (up6 _ hR))
  have qi := N₇ _ (.head _)
  have hne : R ≠ it := Nat.ne_of_lt (lt₇ _ (up6 _ hR))
  have lenR : (rs.map fun r => Value.ref r.x).length = 5 := by simp [hr.1]
  refine ⟨it, liObj R, _, _, _, _, _, _, fun i ys nw' => (∀ c ∈ B, c ∈ nw') ∧ ys.length = i ∧ DatAll nw' ys ((List.range i).map fun j => partDat (xs.getD j 0)),
    rfl, Wk.led (vs := rs.map fun r => Value.ref r.x) C.hand hne, by omega, ⟨⟨_, qi.1, rfl, rfl⟩, _, q4.1, rfl, k, rfl⟩, F₇, N₇, Off.lt lt₇, fun nw g => ⟨k, g.sub _ (up6 _ hR)⟩, ⟨fun _ h => h, rfl, .nil⟩, .inl fun i h hst => ⟨_, _, hst.1⟩, ?_, ?_⟩
  · intro i v hiv hv
    have hil : i < rs.length := by have := hr.1; omega
    rw [List.getElem?_map, List.getElem?_eq_getElem hil] at hv
    obtain rfl := Option.some.inj hv
    obtain ⟨hrec, e1, e2, e3⟩ := hr.2 i rs[i] (List.getElem?_eq_getElem hil)
    refine turn1 rfl rfl ?_
    rintro ys nw₈ s₈ K oK D' I₂ oI₂ m₂ E' ⟨hsub, hyl, hys⟩ g₈ sm₈ F₈ hns hx N₈
    have upr : ∀ p ∈ news, p ∈ (K, oK) :: (I₂, oI₂) :: (D', lo ys i) :: nw₈ := fun p hp => .tail _ (.tail _ (.tail _ (hsub _ (up6 p hp))))
    refine List_ (spliced_more (Attribute_Name_ (qloc hns hx (getA C F₈ N₈ (upr _ hrec.x) (upr _ hrec.d) rfl rfl ?_))))
    refine spliced_more (Attribute_Name_ (qloc hns hx (getA C F₈ N₈ (upr _ hrec.x) (upr _ hrec.d) rfl hrec.dl.handed ?_)))
    refine spliced_more (Attribute_Name_ (qloc hns hx (getA C F₈ N₈ (upr _ hrec.x) (upr _ hrec.d) rfl rfl ?_)))
    refine spliced_none (newListS F₈ N₈ (Nat.le_of_ble_eq_true rfl) fun D₉ s₉ sm₉ F₉ N₉ lt₉ => ?_)
    refine ⟨_, ⟨sm₉.1, sm₉.2⟩, F₉, N₉, Gw.rfl'.cons (Off.lt lt₉), fun news₂ hin => ?_⟩
    have hB2 : ∀ c ∈ nw₈, c ∈ news₂ := fun c hc => hin c (.tail _ (.tail _ (.tail _ (.tail _ hc)))) (.inl hc)
    have up2 : ∀ p ∈ news, p ∈ news₂ := fun p hp => hB2 _ (hsub _ (up6 p hp))
    refine ⟨fun c hc => hB2 _ (hsub c hc), by simp [hyl], ?_⟩
    rw [List.range_succ, List.map_append]
    refine dat_snoc (hys.mono hB2) (.list (hin _ (.head _) (.inr (Off.lt lt₉))) ?_)
    refine .cons (.list (up2 _ hrec.ua) ?_) (.cons ?_ (.cons (.list (up2 _ hrec.rl) ?_) .nil))
    · rw [← e1]; exact dat_strs hrec.ag
    · rw [← e3]; exact dat_dl hrec.dl
    · rw [← e2]; exact dat_strs hrec.ru
  · rintro Z zs nw₈ s₈ ⟨hsub, hzl, hzs⟩ sm₈ g₈ off₈ F₈ N₈
    have up2 : ∀ p ∈ news, p ∈ (Z, lo zs (rs.map fun r => Value.ref r.x).length) :: nw₈ := fun p hp => .tail _ (hsub _ (up6 p hp))
    refine ldL F₈ hm3 ?_
    have pd : ∀ {x : Int} {p : Pt}, IsPt news x p → DatIn ((Z, lo zs (rs.map fun r => Value.ref r.x).length) :: nw₈) (.ref p.q) (partDat x) := fun {x p} z => by
      refine .list (up2 _ z.q) (.cons (.list (up2 _ z.al) (dat_strs z.ag)) (.cons ?_ (.cons (.list (up2 _ z.rl) (dat_strs z.ru)) .nil)))
      rw [← z.dx]; exact dat_dl z.dl
    rw [lenR] at hzs
    refine dat_eq (e := .list ((List.range 5).map fun j => partDat (xs.getD j 0))) N₈ (.list (.head _) (hzs.mono fun c hc => .tail _ hc)) (.list (up2 _ hD) ?_) ?_ hU ?_
    · exact .cons (pd z0) (.cons (pd z1') (.cons (pd z2) (.cons (pd z3) (.cons (pd z4) .nil))))
    · rw [kqdOk, List.all_eq_true]
      intro e he
      obtain ⟨j, _, rfl⟩ := List.mem_map.mp he
      exact ok_part (ok2 _) (ok3 _)
    · exact h s₈ ((((((((Same.rfl'.nx sm₁).nx sm₂).nx sm₃).nx sm₄).nx ⟨sm₅.1, sm₅.2⟩).nx ⟨sm₆.1, sm₆.2⟩).nx sm₇).nx sm₈) F₈
end
end Mine
end

-- Law11
section
open PySem PySem.W PyProof.Rows PySem.Calls
set_option maxRecDepth 100000
set_option maxHeartbeats 2000000
namespace Mine
open LCg
/-- what the plain laws say of one script -/
structure Plain (X : List Int) : Prop where
  ne : (fin X).1.ag ≠ []
  sa : SmallS (fin X).1.ag
  sr : SmallS (fin X).1.ru
  sd : SmallDl (fin X).1.dl
  oa : OkS (fin X).1.ag
  orr : OkS (fin X).1.ru
  lst : (((fin X).2 : Nat) : Int) = leastOf ((List.range 5).map fun j => ((ruOf (X.getD j 0)).length : Int))
  le : leastOf ((List.range 5).map fun j => ((ruOf (X.getD j 0)).length : Int)) ≤ leftOf ((List.range 5).map fun j => ((ruOf (X.getD j 0)).length : Int))
  ud : udOf (fin X).1.ru (fourOf X) = (lacksOf (fin X).1.ru (fourOf X), [])
  lt : (fin X).1.ru.length < 70
  ol : OkS (lacksOf (fin X).1.ru (fourOf X))
  o2 : ∀ x, OkS (agOf x)
  o3 : ∀ x, OkS (ruOf x)
section
variable {d u : Nat} {w : World} {A : Around} {E : Value → Shared → Prop} {s : Shared} {L : Addr} {h₀ : Heap} {m : Str → Option Value} {I news : List (Addr × Obj)}
  {body : List Stmt} {scope : Scope} {st : Stmt} {qual : Str} {fa : Addr} {cd : Value} {env : Env}

theorem law_walk {Q : Flow → Shared → Prop} {oC : Obj} {a : Addr} {items : Array Value} {xs : List Int} (hb : LawFn w body scope) (C : Cx d u w A L h₀) (C0 : Cx0 w A L h₀ (envOfC qual scope L fa cd)) (F : Fr h₀ L s.heap m) (N : News h₀ L s.heap [(L + 1, oC)]) (hoC : IsC none oC) (hd : d < 400) (hu : u < 1000)
    (hm : m (S "script") = some (.ref a)) (hl : h₀.IsList a items) (hi : IntsAre items.toList xs) (hz : xs.length ≤ 63) (P : Plain (X5 xs))
    (h : ∀ s' (m' : Str → Option Value), Same s s' → Fr h₀ L s'.heap m' → Q (.ret (.bool true)) s') :
    wpAny (model PG w) A (execs body (envOfC qual scope L fa cd)) Q E s := by
  have hb' := hb
  obtain ⟨rfl, rfl⟩ := hb.lit rfl
  refine wpAny_execs_cons (law_s0 hb' rfl C F N (by omega) hm hl hi hz fun D ps n s₁ led₁ sm₁ F₁ N₁ off₁ g₁ hp₁ => ?_)
  refine wpAny_execs_cons (law_s1 hb' rfl C F₁ N₁ (by omega) rfl (.head _) ⟨hp₁.1, fun j p hj => (hp₁.2 j p hj).mono fun c hc => .tail _ hc⟩ (.tail _ (g₁.sub _ (.head _))) hoC
    fun R rs k SZ sz k' oC' s₂ led₂ sm₂ F₂ N₂ hR₂ hr₂ hD₂ hp₂ hc₂ hoC₂ hSZ₂ hsz₂ => ?_)
  refine wpAny_execs_cons (law_s2 hb' rfl C F₂ N₂ (by omega) (by omega) rfl hR₂ hr₂ fun r tl s₃ led₃ sm₃ F₃ N₃ sub₃ hr₃ e1 e2 e3 => ?_)
  refine wpAny_execs_cons (law_s3 hb' rfl C F₃ N₃ (by omega) (by omega) rfl (sub₃ _ hD₂) ⟨hp₂.1, fun j p hj => (hp₂.2 j p hj).mono sub₃⟩
    fun al rl av rv dv k1 k2 s₄ led₄ sm₄ F₄ N₄ sub₄ hal hrl hag hru hdv hdl _ => ?_)
  refine wpAny_execs_cons (law_s4 hb' rfl C F₄ N₄ rfl rfl hal hag P.sa hdv (by rw [hdl]; exact P.sd) fun RO wv k3 s₅ led₅ sm₅ F₅ N₅ sub₅ hRO hwv => ?_)
  rw [hdl] at hwv
  refine wpAny_execs_cons (law_s5 hb' rfl C F₅ N₅ (by omega) (by omega) rfl rfl rfl rfl rfl (hr₃.mono fun p hp => sub₅ _ (sub₄ _ hp)) e1 e2 e3 (sub₅ _ hal) (sub₅ _ hrl) hRO hag hru hdv hdl hwv P.ne P.sa P.sr P.sd P.oa P.orr
    fun s₆ led₆ sm₆ F₆ N₆ sub₆ => ?_)
  have t26 : ∀ p ∈ led₂, p ∈ led₆ := fun p hp => sub₆ _ (sub₅ _ (sub₄ _ (sub₃ _ hp)))
  refine wpAny_execs_cons (law_s6 hb' rfl C F₆ N₆ (by omega) (by omega) (t26 _ hc₂) hoC₂ (t26 _ hSZ₂) hsz₂ rfl fun tt tf s₇ led₇ sm₇ F₇ N₇ sub₇ => ?_)
  rw [← P.lst] at F₇
  refine wpAny_execs_cons (law_s7 hb' rfl C F₇ N₇ (by omega) (by omega) rfl rfl rfl (by rw [P.lst]; exact P.le) fun s₈ led₈ sm₈ F₈ N₈ sub₈ => ?_)
  have t28 : ∀ p ∈ led₂, p ∈ led₈ := fun p hp => sub₈ _ (sub₇ _ (t26 _ hp))
  refine wpAny_execs_cons (law_s8 hb' rfl C F₈ N₈ rfl (t28 _ hD₂) ⟨hp₂.1, fun j p hj => (hp₂.2 j p hj).mono t28⟩ fun FO fv s₉ led₉ sm₉ F₉ N₉ lt₉ sub₉ hfv => ?_)
  have t29 : ∀ p ∈ led₂, p ∈ led₉ := fun p hp => sub₉ _ (t28 _ hp)
  have t39 : ∀ p ∈ led₃, p ∈ led₉ := fun p hp => sub₉ _ (sub₈ _ (sub₇ _ (sub₆ _ (sub₅ _ (sub₄ _ hp)))))
  have t49 : ∀ p ∈ led₄, p ∈ led₉ := fun p hp => sub₉ _ (sub₈ _ (sub₇ _ (sub₆ _ (sub₅ _ hp))))
  refine wpAny_execs_cons (law_s9 hb' rfl C C0 F₉ N₉ lt₉ rfl rfl (hr₃.mono t39) e2 hfv P.sr.1 (by have := four_len (X5 xs); omega) fun T M mv km av' ka s₁₀ sm₁₀ F₁₀ N₁₀ hmv hav => ?_)
  rw [P.ud] at hmv hav
  dsimp only at hmv hav
  refine wpAny_execs_cons (law_s10 hb' rfl C F₁₀ N₁₀ (by omega) (by omega) rfl rfl rfl rfl (.head _) (.tail _ (.head _)) (.tail _ (.tail _ (.head _))) (.tail _ (.tail _ (.tail _ (t49 _ hrl)))) hru P.lt
    (.tail _ (.tail _ (.tail _ (t29 _ hD₂)))) ⟨hp₂.1, fun j p hj => (hp₂.2 j p hj).mono fun c hc => .tail _ (.tail _ (.tail _ (t29 _ hc)))⟩ (.tail _ (.tail _ (.tail _ (t29 _ hR₂))))
    ⟨hr₂.1, fun j r hj => ⟨(hr₂.2 j r hj).1.mono fun c hc => .tail _ (.tail _ (.tail _ (t29 _ hc))), (hr₂.2 j r hj).2⟩⟩ hmv hav P.ol P.o2 P.o3 fun s₁₁ sm₁₁ F₁₁ => ?_)
  exact h s₁₁ _ (((((((((((Same.rfl'.nx sm₁).nx sm₂).nx sm₃).nx sm₄).nx sm₅).nx sm₆).nx sm₇).nx sm₈).nx sm₉).nx sm₁₀).nx sm₁₁) F₁₁
end
end Mine
end

-- PlainA
section
open PySem PySem.W PyProof.Rows PySem.Calls
set_option maxRecDepth 100000
set_option maxHeartbeats 2000000
namespace Mine
theorem same_str (x y : Str) : PySem.Spec.same (.str x) (.str y) = decide (x = y) := by
  unfold PySem.Spec.same
  by_cases h : x = y
  · subst h; simp
  · simp [h]
theorem cnt_count (k : Str) : ∀ ys : List Str, cnt k ys = (ys.count k : Int)
  | [] => rfl
  | y :: r => by
    have ih := cnt_count k r
    unfold cnt at ih ⊢
    rw [List.map_cons, PySem.Spec.countIn, ih, same_str, List.count_cons]
    by_cases h : y = k
    · subst h; simp; omega
    · simp [h]
/-- the part of the list that stands under place k, as the law takes it -/
noncomputable def lackTo (one two : List Str) (k : Nat) : List Str := ((((List.range k).map fun j => ((k : Int) - 1) + (j : Nat) * (-1)).filter (lackB one two)).map (strAt one))
theorem lackTo_succ (one two : List Str) (k : Nat) : lackTo one two (k + 1) = (if lackB one two (k : Int) = true then [strAt one (k : Int)] else []) ++ lackTo one two k := by
  unfold lackTo
  rw [List.range_succ_eq_map, List.map_cons, List.map_map]
  have e0 : (((k + 1 : Nat) : Int) - 1) + ((0 : Nat) : Int) * (-1) = (k : Int) := by omega
  have e1 : (List.range k).map ((fun j : Nat => (((k + 1 : Nat) : Int) - 1) + (j : Nat) * (-1)) ∘ Nat.succ) = (List.range k).map fun j => ((k : Int) - 1) + (j : Nat) * (-1) := by
    refine List.map_congr_left fun j _ => ?_
    show (((k + 1 : Nat) : Int) - 1) + ((j + 1 : Nat) : Int) * (-1) = _
    omega
  rw [e0, e1, List.filter_cons]
  by_cases h : lackB one two (k : Int) = true
  · rw [if_pos h, if_pos h]; rfl
  · rw [if_neg h, if_neg h]; rfl
theorem ud_go (one two : List Str) : ∀ (k : Nat), k ≤ one.length → ∀ (M Y : List Str), (∀ y, Y.count y = two.count y - (one.drop k).count y) →
    (udGo (one.take k) (M, Y)).1 = M ++ lackTo one two k ∧ ∀ y, (udGo (one.take k) (M, Y)).2.count y = two.count y - one.count y
  | 0, _, M, Y, h => ⟨by simp [udGo, lackTo], fun y => by simpa [udGo] using h y⟩
  | k + 1, hk, M, Y, h => by
    have hlt : k < one.length := hk
    have et : one.take (k + 1) = one.take k ++ [one[k]] := by rw [List.take_succ_eq_append_getElem hlt]
    have ed : one.drop k = one[k] :: one.drop (k + 1) := List.drop_eq_getElem_cons hlt
    have es : strAt one (k : Int) = one[k] := by unfold strAt; rw [Int.toNat_natCast, List.getD_eq_getElem?_getD, List.getElem?_eq_getElem hlt]; rfl
    have ec : ∀ y, one.count y = (one.take k).count y + (one.drop k).count y := fun y => by
      rw [← List.count_append, List.take_append_drop]
    have hx := ec one[k]
    rw [ed, List.count_cons_self] at hx
    have hb : lackB one two (k : Int) = decide (two.count one[k] ≤ (one.drop (k + 1)).count one[k]) := by
      unfold lackB
      rw [es, cnt_count, cnt_count, cnt_count, Int.toNat_natCast]
      apply decide_eq_decide.mpr
      omega
    rw [et, udGo_snoc, lackTo_succ, hb, es]
    unfold udStep
    have hY := h one[k]
    by_cases hm : one[k] ∈ Y
    · have hp : 0 < Y.count one[k] := List.count_pos_iff.mpr hm
      rw [if_pos hm, if_neg (by simp; omega)]
      refine ud_go one two k (Nat.le_of_lt hlt) M _ fun y => ?_
      have h2 := h y
      rw [ed, List.count_cons]
      by_cases hy : one[k] = y
      · subst hy
        rw [List.count_erase_self]; simp; omega
      · rw [List.count_erase_of_ne (Ne.symm hy)]
        simp [hy]; omega
    · have hp : Y.count one[k] = 0 := List.count_eq_zero.mpr hm
      rw [if_neg hm, if_pos (by simp; omega)]
      have := ud_go one two k (Nat.le_of_lt hlt) (M ++ [one[k]]) Y fun y => by
        have h2 := h y
        rw [ed, List.count_cons]
        by_cases hy : one[k] = y
        · subst hy; simp; omega
        · simp [hy]; omega
      rw [this.1, List.append_assoc]
      exact ⟨rfl, this.2⟩
theorem ud_lacks (one two : List Str) (h : ∀ y, two.count y ≤ one.count y) : udOf one two = (lacksOf one two, []) := by
  have g := ud_go one two one.length (Nat.le_refl _) [] two fun y => by simp
  rw [List.take_length] at g
  have e1 : (udOf one two).1 = lacksOf one two := by
    show (udGo one ([], two)).1 = _
    rw [g.1]; rfl
  have e2 : (udOf one two).2 = [] := by
    apply List.eq_nil_iff_forall_not_mem.mpr
    intro y hy
    have h1 := List.count_pos_iff.mpr hy
    have h2 : (udOf one two).2.count y = two.count y - one.count y := g.2 y
    have h3 := h y
    omega
  rw [← e1, ← e2]
end Mine
end

-- PlainB
section
open PySem PySem.W PyProof.Rows PySem.Calls
set_option maxRecDepth 100000
set_option maxHeartbeats 2000000
namespace Mine
theorem ins_ne (x : Nd) (l : List Nd) : ins x l ≠ [] := fun e => by
  have := (ins_perm x l).length_eq
  rw [e] at this; simp at this
theorem prc_all (P : Nd → Prop) (hm : ∀ a b n, P a → P b → P (mrgN a b n)) : ∀ (f : Nat) (l : List Nd) (lines place : Nat), l ≠ [] → (∀ a ∈ l, P a) → P (prc f l lines place).1
  | 0, [], _, _, h, _ => absurd rfl h
  | 0, a :: _, _, _, _, h => h a (.head _)
  | _ + 1, [], _, _, h, _ => absurd rfl h
  | _ + 1, [a], _, _, _, h => h a (.head _)
  | f + 1, a :: b :: r, lines, place, _, h => by
    rw [prc]
    refine prc_all P hm f _ _ _ (ins_ne _ _) fun c hc => ?_
    rcases List.mem_cons.mp ((ins_perm _ _).mem_iff.mp hc) with rfl | hc
    · exact hm _ _ _ (h a (.head _)) (h b (.tail _ (.head _)))
    · exact h c (.tail _ (.tail _ hc))
theorem prc_add (φ : Nd → Nat) (hm : ∀ a b n, φ (mrgN a b n) = φ a + φ b) : ∀ (f : Nat) (l : List Nd) (lines place : Nat), l ≠ [] → l.length ≤ f + 1 → φ (prc f l lines place).1 = (l.map φ).sum
  | 0, [], _, _, h, _ => absurd rfl h
  | 0, [a], _, _, _, _ => by simp [prc]
  | 0, a :: b :: r, _, _, _, h => by simp at h
  | _ + 1, [], _, _, h, _ => absurd rfl h
  | _ + 1, [a], _, _, _, _ => by simp [prc]
  | f + 1, a :: b :: r, lines, place, _, h => by
    rw [prc]
    have hl : (ins (mrgN a b place) r).length ≤ f + 1 := by rw [(ins_perm _ _).length_eq]; simp at h ⊢; omega
    rw [prc_add φ hm f _ _ _ (ins_ne _ _) hl, ((ins_perm (mrgN a b place) r).map φ).sum_nat]
    simp [hm]; omega
theorem srt_perm' : ∀ l, (srt l).Perm l
  | [] => .refl _
  | x :: r => (ins_perm x _).trans ((srt_perm' r).cons x)
theorem fin_all (P : Nd → Prop) (hm : ∀ a b n, P a → P b → P (mrgN a b n)) {X : List Int} (h : ∀ j, P (ndAt X j)) : P (fin X).1 := by
  refine prc_all P hm _ _ _ _ (fun e => ?_) fun a ha => ?_
  · have := (srt_perm' (ndX X)).length_eq
    rw [e] at this; simp [ndX] at this
  · obtain ⟨j, _, rfl⟩ := List.mem_map.mp ((srt_perm' (ndX X)).mem_iff.mp ha)
    exact h j
theorem fin_add (φ : Nd → Nat) (hm : ∀ a b n, φ (mrgN a b n) = φ a + φ b) (X : List Int) : φ (fin X).1 = ((ndX X).map φ).sum := by
  have hl := (srt_perm' (ndX X)).length_eq
  have h5 : (ndX X).length = 5 := by simp [ndX]
  have h1 := prc_add φ hm 5 (srt (ndX X)) 0 5 (fun e => by rw [e] at hl; rw [← hl] at h5; simp at h5) (by omega)
  unfold fin
  rw [h1, ((srt_perm' (ndX X)).map φ).sum_nat]

theorem ltr_small {k : Int} (h0 : 0 ≤ k) (h3 : k < 3) : (ltr k).length ≤ 1 ∧ PyData.strOk (ltr k) = true := by
  rcases (by omega : k = 0 ∨ k = 1 ∨ k = 2) with rfl | rfl | rfl <;> decide +kernel
theorem ag0_mem {x : Int} {a : Str} (h : a ∈ agOf0 x) : a.length ≤ 1 ∧ PyData.strOk a = true := by
  unfold agOf0 at h
  rcases List.mem_cons.mp h with rfl | h
  · decide +kernel
  · obtain ⟨k, hk, rfl⟩ := List.mem_map.mp h
    obtain ⟨j, hj, rfl⟩ := List.mem_map.mp (List.mem_filter.mp hk).1
    have := List.mem_range.mp hj
    exact ltr_small (by omega) (by omega)
theorem ag_mem {x : Int} {a : Str} (h : a ∈ agOf x) : a.length ≤ 1 ∧ PyData.strOk a = true := by
  unfold agOf at h
  split at h
  · exact ag0_mem (List.mem_reverse.mp h)
  · exact ag0_mem h
theorem star_mem (x : Int) : S "*" ∈ agOf x := by
  have h : S "*" ∈ agOf0 x := .head _
  unfold agOf
  split
  · exact List.mem_reverse.mpr h
  · exact h
theorem ru_mem {x : Int} {a : Str} (h : a ∈ ruOf x) : a.length ≤ 40 ∧ PyData.strOk a = true := by
  obtain ⟨k, _, rfl⟩ := List.mem_map.mp h
  unfold ruAt
  have h1 : ∀ n : Nat, ([S "Allow: /", S "Disallow: /"].getD n (S "")).length ≤ 11 ∧ PyData.strOk ([S "Allow: /", S "Disallow: /"].getD n (S "")) = true := by
    intro n
    match n with
    | 0 => decide +kernel
    | 1 => decide +kernel
    | n + 2 => exact (by decide +kernel : (S "").length ≤ 11 ∧ PyData.strOk (S "") = true)
  have h2 := ltr_small (k := k.fmod 3) (Int.fmod_nonneg_of_pos _ (by decide)) (Int.fmod_lt_of_pos _ (by decide))
  refine ⟨?_, ok_app (h1 _).2 h2.2⟩
  rw [strLen_append]
  have := (h1 (((x.fdiv 448).fdiv (2 ^ k.toNat)).fmod 2).toNat).1
  have := h2.1
  omega
theorem dl_small (x : Int) : SmallDl (dlOf x) := by
  unfold dlOf
  generalize ((x.fdiv 16).fmod 4).toNat = n
  intro i hi
  match n, hi with
  | 0, hi => cases hi
  | 1, hi => cases hi; decide
  | 2, hi => cases hi; decide
  | 3, hi => cases hi; decide
  | n + 4, hi => cases hi

noncomputable def Good (a : Nd) : Prop := S "*" ∈ a.ag ∧ SmallS a.ag ∧ (∀ x ∈ a.ru, x.length ≤ 40) ∧ SmallDl a.dl ∧ OkS a.ag ∧ OkS a.ru
theorem good_mrg (a b : Nd) (n : Nat) (ha : Good a) (hb : Good b) : Good (mrgN a b n) := by
  obtain ⟨a1, a2, a3, a4, a5, a6⟩ := ha
  obtain ⟨b1, b2, b3, b4, b5, b6⟩ := hb
  refine ⟨List.mem_filter.mpr ⟨a1, by simpa using b1⟩, ⟨Nat.le_trans (List.length_filter_le _ _) a2.1, fun x hx => a2.2 x (List.mem_filter.mp hx).1⟩, ?_, ?_, fun x hx => a5 x (List.mem_filter.mp hx).1, ?_⟩
  · intro x hx
    rcases List.mem_append.mp hx with h | h
    · exact a3 x h
    · exact b3 x h
  · intro i hi
    have hi' : b.dl.or a.dl = some i := hi
    rcases hd : b.dl with _ | k
    · rw [hd] at hi'; exact a4 i (by simpa using hi')
    · rw [hd] at hi'; exact b4 i (by rw [hd]; simpa using hi')
  · intro x hx
    rcases List.mem_append.mp hx with h | h
    · exact a6 x h
    · exact b6 x h
theorem good_at (X : List Int) (j : Nat) : Good (ndAt X j) :=
  ⟨star_mem _, ⟨Nat.le_trans (ag_len _) (by decide), fun x hx => Nat.le_trans (ag_mem hx).1 (by decide)⟩, fun x hx => (ru_mem hx).1, dl_small _, fun x hx => (ag_mem hx).2, fun x hx => (ru_mem hx).2⟩
theorem fin_len (X : List Int) : (fin X).1.ru.length ≤ 30 := by
  rw [fin_add (fun a => a.ru.length) (fun a b n => by simp [mrgN]) X]
  exact totN_X X
theorem fin_count (X : List Int) (y : Str) : (fourOf X).count y ≤ (fin X).1.ru.count y := by
  rw [fin_add (fun a => a.ru.count y) (fun a b n => by simp [mrgN]) X]
  have e : ((ndX X).map fun a => a.ru.count y).sum = (ruOf (X.getD 0 0)).count y + ((ruOf (X.getD 1 0)).count y + ((ruOf (X.getD 2 0)).count y + ((ruOf (X.getD 3 0)).count y + ((ruOf (X.getD 4 0)).count y + 0)))) := rfl
  rw [e]
  unfold fourOf
  simp only [List.count_append]
  omega
theorem lacks_mem {one two : List Str} {x : Str} (h : x ∈ lacksOf one two) : x ∈ one := by
  unfold lacksOf at h
  obtain ⟨k, hk, rfl⟩ := List.mem_map.mp h
  obtain ⟨j, hj, rfl⟩ := List.mem_map.mp (List.mem_filter.mp hk).1
  have := List.mem_range.mp hj
  unfold strAt
  have hlt : (((one.length : Int) - 1) + (j : Nat) * (-1)).toNat < one.length := by omega
  rw [List.getD_eq_getElem?_getD, List.getElem?_eq_getElem hlt]
  exact List.getElem_mem _
theorem plain_of {X : List Int} (h1 : (((fin X).2 : Nat) : Int) = leastOf ((List.range 5).map fun j => ((ruOf (X.getD j 0)).length : Int)))
    (h2 : leastOf ((List.range 5).map fun j => ((ruOf (X.getD j 0)).length : Int)) ≤ leftOf ((List.range 5).map fun j => ((ruOf (X.getD j 0)).length : Int))) : Plain X := by
  obtain ⟨g1, g2, g3, g4, g5, g6⟩ := fin_all Good good_mrg (good_at X)
  have hl := fin_len X
  refine ⟨fun e => ?_, g2, ⟨by omega, g3⟩, g4, g5, g6, h1, h2, ud_lacks _ _ (fin_count X), by omega, fun x hx => g6 x (lacks_mem hx), fun x a ha => (ag_mem ha).2, fun x a ha => (ru_mem ha).2⟩
  rw [e] at g1; cases g1
end Mine
end

-- PlainC
section
open PySem PySem.W PyProof.Rows PySem.Calls
set_option maxRecDepth 100000
set_option maxHeartbeats 2000000
namespace Mine
/-- the law's table -/
noncomputable def T (ns : List Int) (x : Int) : Int := intAt (tabL ns 31) x
theorem tab_old (ns : List Int) (i p : Nat) (h : p ≤ i) : ∀ d, (tabL ns (i + d)).getD p 0 = (tabL ns i).getD p 0
  | 0 => rfl
  | d + 1 => by
    show (stepL ns (tabL ns (i + d)) (i + d)).getD p 0 = _
    unfold stepL
    rw [List.getD_eq_getElem?_getD, List.getElem?_set_ne (by omega), ← List.getD_eq_getElem?_getD]
    exact tab_old ns i p h d
theorem tab_new (ns : List Int) (i : Nat) (h : i < 31) : (tabL ns (i + 1)).getD (i + 1) 0 = if waysOf (tabL ns i) (1 + (i : Nat) * 1) i = [] then 0 else wholeOf ns (1 + (i : Nat) * 1) + minL (waysOf (tabL ns i) (1 + (i : Nat) * 1) i) := by
  show (stepL ns (tabL ns i) i).getD (i + 1) 0 = _
  unfold stepL
  rw [List.getD_eq_getElem?_getD, List.getElem?_set_self (by rw [tabL_len]; omega)]
  rfl
theorem T_of (ns : List Int) (i : Nat) (h : i ≤ 31) (p : Int) (hp : p.toNat ≤ i) : intAt (tabL ns i) p = T ns p := by
  unfold T intAt
  have := tab_old ns i p.toNat hp (31 - i)
  rw [show i + (31 - i) = 31 by omega] at this
  exact this.symm
/-- the parts of a set -/
noncomputable def partsOf (x : Int) (i : Nat) : List Int := (ksR 1 i).filter (subB x)
theorem parts_in {x p : Int} {i : Nat} (h : p ∈ partsOf x i) : 1 ≤ p ∧ p ≤ i ∧ subB x p = true := by
  obtain ⟨h1, h2⟩ := List.mem_filter.mp h
  obtain ⟨j, hj, rfl⟩ := List.mem_map.mp h1
  have := List.mem_range.mp hj
  exact ⟨by omega, by omega, h2⟩
theorem ways_T (ns : List Int) (i : Nat) (h : i < 31) : waysOf (tabL ns i) (1 + (i : Nat) * 1) i = (partsOf (1 + (i : Nat) * 1) i).map fun p => T ns p + T ns (1 + (i : Nat) * 1 - p) := by
  refine List.map_congr_left fun p hp => ?_
  obtain ⟨h1, h2, _⟩ := parts_in hp
  rw [T_of ns i (by omega) p (by omega), T_of ns i (by omega) _ (by omega)]
theorem minL_mem : ∀ {l : List Int}, l ≠ [] → minL l ∈ l ∧ ∀ a ∈ l, minL l ≤ a
  | [], h => absurd rfl h
  | x :: r, _ => by
    have h := minL_fold r x
    refine ⟨?_, fun a ha => ?_⟩
    · rcases h.1 with e | e
      · show r.foldl min x ∈ _; rw [e]; exact .head _
      · exact .tail _ e
    · rcases List.mem_cons.mp ha with rfl | ha
      · exact h.2.1
      · exact h.2.2 a ha
theorem T_fix (ns : List Int) (i : Nat) (h : i < 31) : T ns ((i + 1 : Nat) : Int) = if (partsOf (1 + (i : Nat) * 1) i).map (fun p => T ns p + T ns (1 + (i : Nat) * 1 - p)) = [] then 0 else wholeOf ns (1 + (i : Nat) * 1) + minL ((partsOf (1 + (i : Nat) * 1) i).map fun p => T ns p + T ns (1 + (i : Nat) * 1 - p)) := by
  rw [← ways_T ns i h, ← tab_new ns i h, ← T_of ns (i + 1) (by omega) _ (by rw [Int.toNat_natCast]; exact Nat.le_refl _)]
  rfl
theorem T_le (ns : List Int) (i : Nat) (h : i < 31) {p : Int} (hp : p ∈ partsOf (1 + (i : Nat) * 1) i) : T ns ((i + 1 : Nat) : Int) ≤ wholeOf ns (1 + (i : Nat) * 1) + (T ns p + T ns (1 + (i : Nat) * 1 - p)) := by
  have hm : T ns p + T ns (1 + (i : Nat) * 1 - p) ∈ (partsOf (1 + (i : Nat) * 1) i).map fun p => T ns p + T ns (1 + (i : Nat) * 1 - p) := List.mem_map_of_mem hp
  have hne : (partsOf (1 + (i : Nat) * 1) i).map (fun p => T ns p + T ns (1 + (i : Nat) * 1 - p)) ≠ [] := fun e => by rw [e] at hm; cases hm
  rw [T_fix ns i h, if_neg hne]
  have := (minL_mem hne).2 _ hm
  omega
theorem T_ex (ns : List Int) (i : Nat) (h : i < 31) : (partsOf (1 + (i : Nat) * 1) i = [] ∧ T ns ((i + 1 : Nat) : Int) = 0) ∨ ∃ p ∈ partsOf (1 + (i : Nat) * 1) i, T ns ((i + 1 : Nat) : Int) = wholeOf ns (1 + (i : Nat) * 1) + (T ns p + T ns (1 + (i : Nat) * 1 - p)) := by
  by_cases he : partsOf (1 + (i : Nat) * 1) i = []
  · refine .inl ⟨he, ?_⟩
    rw [T_fix ns i h, he]; rfl
  · have hne : (partsOf (1 + (i : Nat) * 1) i).map (fun p => T ns p + T ns (1 + (i : Nat) * 1 - p)) ≠ [] := by simpa using he
    right
    obtain ⟨p, hp, e⟩ := List.mem_map.mp (minL_mem hne).1
    refine ⟨p, hp, ?_⟩
    rw [T_fix ns i h, if_neg hne, ← e]

/-- the places of a set -/
noncomputable def idx (x : Int) : List Int := (ksR 0 5).filter (bitB x)
theorem masks : ∀ i : Fin 31, ∀ p ∈ partsOf (1 + (i.val : Int) * 1) i.val, (idx p ++ idx (1 + (i.val : Int) * 1 - p)).isPerm (idx (1 + (i.val : Int) * 1)) = true := by decide +kernel
theorem masks1 : ∀ i : Fin 31, partsOf (1 + (i.val : Int) * 1) i.val = [] → (idx (1 + (i.val : Int) * 1)).length = 1 := by decide +kernel

/-- what a tree of joins costs -/
inductive Cost : List Int → Int → Prop
  | one (a : Int) : Cost [a] 0
  | join {l1 l2 l : List Int} {c1 c2 : Int} : Cost l1 c1 → Cost l2 c2 → (l1 ++ l2).Perm l → Cost l (l.sum + (c1 + c2))
theorem T_cost (ns : List Int) : ∀ (n i : Nat), i < n → i < 31 → Cost ((idx (1 + (i : Nat) * 1)).map (intAt ns)) (T ns ((i + 1 : Nat) : Int))
  | 0, _, h, _ => absurd h (Nat.not_lt_zero _)
  | n + 1, i, hn, h => by
    rcases T_ex ns i h with ⟨he, e⟩ | ⟨p, hp, e⟩
    · have h1 := masks1 ⟨i, h⟩ he
      obtain ⟨a, ha⟩ := List.length_eq_one_iff.mp h1
      rw [e]
      have ha' : idx (1 + (i : Int) * 1) = [a] := ha
      rw [ha']
      exact .one _
    · have h2 := List.isPerm_iff.mp (masks ⟨i, h⟩ p hp)
      obtain ⟨p1, p2, p3⟩ := parts_in hp
      have c1 := T_cost ns n (p.toNat - 1) (by omega) (by omega)
      have c2 := T_cost ns n (i - p.toNat) (by omega) (by omega)
      have q1 : (1 + ((p.toNat - 1 : Nat) : Int) * 1) = p := by omega
      have q2 : ((p.toNat - 1 + 1 : Nat) : Int) = p := by omega
      have q3 : (1 + ((i - p.toNat : Nat) : Int) * 1) = 1 + (i : Nat) * 1 - p := by omega
      have q4 : ((i - p.toNat + 1 : Nat) : Int) = 1 + (i : Nat) * 1 - p := by omega
      rw [q1, q2] at c1
      rw [q3, q4] at c2
      rw [e]
      refine Cost.join c1 c2 ?_
      rw [← List.map_append]
      exact h2.map _
end Mine
end

-- PlainD
section
open PySem PySem.W PyProof.Rows PySem.Calls
set_option maxRecDepth 100000
set_option maxHeartbeats 2000000
namespace Mine
theorem perm_sum {l l' : List Int} (h : l.Perm l') : l.sum = l'.sum := by
  induction h with
  | nil => rfl
  | cons x _ ih => simp only [List.sum_cons, ih]
  | swap x y l => simp only [List.sum_cons]; omega
  | trans _ _ a b => exact a.trans b
theorem cost_len {l : List Int} {c : Int} (h : Cost l c) : 1 ≤ l.length := by
  induction h with
  | one a => exact Nat.le_refl _
  | join _ _ p a b => rw [← p.length_eq, List.length_append]; omega
/-- a join, the shorter side first -/
theorem cost_inv {l : List Int} {c : Int} (h : Cost l c) (h2 : 2 ≤ l.length) : ∃ l1 l2 c1 c2, Cost l1 c1 ∧ Cost l2 c2 ∧ (l1 ++ l2).Perm l ∧ c = l.sum + (c1 + c2) ∧ l1.length ≤ l2.length ∧ 1 ≤ l1.length ∧ l1.length + l2.length = l.length := by
  cases h with
  | one a => simp at h2
  | @join l1 l2 _ c1 c2 a b p =>
    have ha := cost_len a
    have hb := cost_len b
    have hl := p.length_eq
    rw [List.length_append] at hl
    by_cases q : l1.length ≤ l2.length
    · exact ⟨l1, l2, c1, c2, a, b, p, rfl, q, ha, hl⟩
    · exact ⟨l2, l1, c2, c1, b, a, List.perm_append_comm.trans p, by omega, by omega, hb, by omega⟩
theorem cost1 {l : List Int} {c : Int} (h : Cost l c) (hl : l.length = 1) : c = 0 := by
  cases h with
  | one a => rfl
  | @join l1 l2 _ c1 c2 a b p =>
    have ha := cost_len a
    have hb := cost_len b
    have hl' := p.length_eq
    rw [List.length_append] at hl'
    omega
theorem cost2 {l : List Int} {c : Int} (h : Cost l c) (hl : l.length = 2) : c = l.sum := by
  obtain ⟨l1, l2, c1, c2, h1, h2, p, e, q1, q2, q3⟩ := cost_inv h (by omega)
  have := cost1 h1 (by omega)
  have := cost1 h2 (by omega)
  omega
theorem cost3 {l : List Int} {c : Int} (h : Cost l c) (hl : l.length = 3) : ∃ p q r, [p, q, r].Perm l ∧ c = 2 * l.sum - p := by
  obtain ⟨l1, l2, c1, c2, h1, h2, p, e, q1, q2, q3⟩ := cost_inv h (by omega)
  have e1 := cost1 h1 (by omega)
  have e2 := cost2 h2 (by omega)
  have hs := perm_sum p
  rw [List.sum_append] at hs
  match l1, l2, (by omega : l1.length = 1), (by omega : l2.length = 2) with
  | [a], [b, c'], _, _ =>
    refine ⟨a, b, c', p, ?_⟩
    simp only [List.sum_cons, List.sum_nil] at hs e2
    omega
theorem cost4 {l : List Int} {c : Int} (h : Cost l c) (hl : l.length = 4) : ∃ p q r y, [p, q, r, y].Perm l ∧ (c = 2 * l.sum ∨ c = 3 * l.sum - 2 * p - q) := by
  obtain ⟨l1, l2, c1, c2, h1, h2, p, e, q1, q2, q3⟩ := cost_inv h (by omega)
  have hs := perm_sum p
  rw [List.sum_append] at hs
  rcases (by omega : l1.length = 1 ∧ l2.length = 3 ∨ l1.length = 2 ∧ l2.length = 2) with ⟨z1, z2⟩ | ⟨z1, z2⟩
  · have e1 := cost1 h1 z1
    obtain ⟨a, b, c', pp, e2⟩ := cost3 h2 z2
    match l1, z1 with
    | [x], _ =>
      refine ⟨x, a, b, c', (pp.cons x).trans p, .inr ?_⟩
      simp only [List.sum_cons, List.sum_nil] at hs
      omega
  · have e1 := cost2 h1 z1
    have e2 := cost2 h2 z2
    match l1, l2, z1, z2 with
    | [a, b], [c', d], _, _ =>
      refine ⟨a, b, c', d, p, .inl ?_⟩
      omega
theorem cost5 {l : List Int} {c : Int} (h : Cost l c) (hl : l.length = 5) : ∃ p q r y z, [p, q, r, y, z].Perm l ∧ (c = 3 * l.sum - 2 * p ∨ c = 4 * l.sum - 3 * p - 2 * q - r ∨ c = 3 * l.sum - p - q - r) := by
  obtain ⟨l1, l2, c1, c2, h1, h2, p, e, q1, q2, q3⟩ := cost_inv h (by omega)
  have hs := perm_sum p
  rw [List.sum_append] at hs
  rcases (by omega : l1.length = 1 ∧ l2.length = 4 ∨ l1.length = 2 ∧ l2.length = 3) with ⟨z1, z2⟩ | ⟨z1, z2⟩
  · have e1 := cost1 h1 z1
    obtain ⟨a, b, c', d, pp, e2⟩ := cost4 h2 z2
    match l1, z1 with
    | [x], _ =>
      simp only [List.sum_cons, List.sum_nil] at hs
      refine ⟨x, a, b, c', d, (pp.cons x).trans p, ?_⟩
      rcases e2 with e2 | e2
      · left; omega
      · right; left; omega
  · have e1 := cost2 h1 z1
    obtain ⟨a, b, c', pp, e2⟩ := cost3 h2 z2
    match l1, z1 with
    | [x, y], _ =>
      simp only [List.sum_cons, List.sum_nil] at hs e1
      refine ⟨x, y, a, b, c', ((pp.cons y).cons x).trans p, ?_⟩
      right; right; omega
/-- what stands over a line -/
noncomputable def over (t : Int) (l : List Int) : Int := (l.map fun v => max (v - t) 0).sum
theorem over_perm {l l' : List Int} (t : Int) (h : l.Perm l') : over t l = over t l' := perm_sum (h.map _)
theorem over_cons (t x : Int) (l : List Int) : over t (x :: l) = max (x - t) 0 + over t l := rfl
theorem over_nil (t : Int) : over t [] = 0 := rfl
theorem over_pos (t : Int) : ∀ l : List Int, 0 ≤ over t l
  | [] => Int.le_refl _
  | x :: l => by rw [over_cons]; have := over_pos t l; have := Int.le_max_right (x - t) 0; omega
theorem over_ge (t x : Int) (l : List Int) : x - t + over t l ≤ over t (x :: l) := by
  rw [over_cons]; have := Int.le_max_left (x - t) 0; omega
theorem over_lo {t x : Int} (l : List Int) (h : x ≤ t) : over t (x :: l) = over t l := by
  rw [over_cons, Int.max_eq_right (by omega)]; omega
theorem over_hi {t x : Int} (l : List Int) (h : t ≤ x) : over t (x :: l) = x - t + over t l := by
  rw [over_cons, Int.max_eq_left (by omega)]
theorem top3 {x1 x2 x3 x4 x5 p q r y z : Int} (h12 : x1 ≤ x2) (h23 : x2 ≤ x3) (h34 : x3 ≤ x4) (h45 : x4 ≤ x5) (h : [p, q, r, y, z].Perm [x1, x2, x3, x4, x5]) : p ≤ x5 ∧ p + q ≤ x4 + x5 ∧ p + q + r ≤ x3 + x4 + x5 := by
  have h13 := Int.le_trans h12 h23
  have h24 := Int.le_trans h23 h34
  have h35 := Int.le_trans h34 h45
  have h14 := Int.le_trans h13 h34
  have h25 := Int.le_trans h24 h45
  have h15 := Int.le_trans h14 h45
  have a := over_perm x5 h
  have b := over_perm x4 h
  have c := over_perm x3 h
  rw [over_lo _ h15, over_lo _ h25, over_lo _ h35, over_lo _ h45, over_lo _ (Int.le_refl _), over_nil] at a
  rw [over_lo _ h14, over_lo _ h24, over_lo _ h34, over_lo _ (Int.le_refl _), over_hi _ h45, over_nil] at b
  rw [over_lo _ h13, over_lo _ h23, over_lo _ (Int.le_refl _), over_hi _ h34, over_hi _ h35, over_nil] at c
  have a1 := over_ge x5 p [q, r, y, z]
  have a2 := over_pos x5 [q, r, y, z]
  have b1 := over_ge x4 p [q, r, y, z]
  have b2 := over_ge x4 q [r, y, z]
  have b3 := over_pos x4 [r, y, z]
  have c1 := over_ge x3 p [q, r, y, z]
  have c2 := over_ge x3 q [r, y, z]
  have c3 := over_ge x3 r [y, z]
  have c4 := over_pos x3 [y, z]
  rw [a] at a1
  rw [b] at b1
  rw [c] at c1
  clear a b c h h12 h23 h34 h45 h13 h24 h35 h14 h25 h15
  refine ⟨?_, ?_, ?_⟩
  · clear b1 b2 b3 c1 c2 c3 c4; omega
  · clear a1 a2 c1 c2 c3 c4; omega
  · clear a1 a2 b1 b2 b3; omega
/-- no tree is cheaper -/
theorem low5 {x1 x2 x3 x4 x5 H c : Int} {l : List Int} (h12 : x1 ≤ x2) (h23 : x2 ≤ x3) (h34 : x3 ≤ x4) (h45 : x4 ≤ x5) (hc : Cost l c) (hp : l.Perm [x1, x2, x3, x4, x5])
    (b1 : H ≤ 3 * (x1 + x2 + x3 + x4 + x5) - 2 * x5) (b2 : H ≤ 4 * (x1 + x2 + x3 + x4 + x5) - 3 * x5 - 2 * x4 - x3) (b3 : H ≤ 3 * (x1 + x2 + x3 + x4 + x5) - x5 - x4 - x3) : H ≤ c := by
  obtain ⟨p, q, r, y, z, pp, e⟩ := cost5 hc (by rw [hp.length_eq]; rfl)
  obtain ⟨t1, t2, t3⟩ := top3 h12 h23 h34 h45 (pp.trans hp)
  have hs := perm_sum hp
  simp only [List.sum_cons, List.sum_nil] at hs
  rcases e with e | e | e <;> omega

/-- the price of the merging, by lengths -/
theorem key_len {a b : Nd} (ha : a.k < 16) (hb : b.k < 16) : (a.key < b.key → a.ru.length ≤ b.ru.length) ∧ (¬ a.key < b.key → b.ru.length ≤ a.ru.length) := by
  unfold Nd.key
  constructor <;> intro h <;> omega
theorem huff {a b c d e : Nd} (ka : a.k < 16) (kb : b.k < 16) (kc : c.k < 16) (kd : d.k < 16) (ke : e.k < 16) (h12 : a.ru.length ≤ b.ru.length) (h23 : b.ru.length ≤ c.ru.length) (h34 : c.ru.length ≤ d.ru.length) (h45 : d.ru.length ≤ e.ru.length) :
    ((prc 5 [a, b, c, d, e] 0 5).2 : Int) ≤ 3 * ((a.ru.length : Int) + b.ru.length + c.ru.length + d.ru.length + e.ru.length) - 2 * e.ru.length ∧
    ((prc 5 [a, b, c, d, e] 0 5).2 : Int) ≤ 4 * ((a.ru.length : Int) + b.ru.length + c.ru.length + d.ru.length + e.ru.length) - 3 * e.ru.length - 2 * d.ru.length - c.ru.length ∧
    ((prc 5 [a, b, c, d, e] 0 5).2 : Int) ≤ 3 * ((a.ru.length : Int) + b.ru.length + c.ru.length + d.ru.length + e.ru.length) - e.ru.length - d.ru.length - c.ru.length := by
  have ek : ∀ (x y : Nd) n, (mrgN x y n).k = n := fun _ _ _ => rfl
  have er : ∀ (x y : Nd) n, (mrgN x y n).ru.length = x.ru.length + y.ru.length := fun x y n => by simp [mrgN]
  have el : ∀ (x y : Nd), (x.ru ++ y.ru).length = x.ru.length + y.ru.length := fun x y => List.length_append
  have ekey : ∀ x : Nd, x.key = (x.ru.length : Int) * 16 + x.k := fun _ => rfl
  simp only [prc, ins]
  repeat' split
  all_goals simp only [prc, ins]
  all_goals (repeat' split)
  all_goals simp only [prc, ins]
  all_goals (repeat' split)
  all_goals simp only [prc, ins, ekey, ek, er, el] at *
  all_goals (refine ⟨?_, ?_, ?_⟩ <;> omega)
end Mine
end

-- PlainE
section
open PySem PySem.W PyProof.Rows PySem.Calls
set_option maxRecDepth 100000
set_option maxHeartbeats 2000000
namespace Mine
theorem mask_parts : ((List.range 32).all fun a => (List.range 32).all fun b => !(decide (1 ≤ a) && decide (1 ≤ b) && a &&& b == 0) ||
    (decide (a + b ≤ 31) && decide ((a : Int) ∈ partsOf (1 + ((a + b - 1 : Nat) : Int) * 1) (a + b - 1)))) = true := by decide +kernel
theorem mask_or : ((List.range 32).all fun a => (List.range 32).all fun b => !(a &&& b == 0) || (List.range 32).all fun c => !(a &&& c == 0 && b &&& c == 0) || (a + b) &&& c == 0) = true := by decide +kernel
theorem mask2 {a b : Nat} (ha : 1 ≤ a) (hb : 1 ≤ b) (ha' : a ≤ 31) (hb' : b ≤ 31) (h : a &&& b = 0) : a + b ≤ 31 ∧ (a : Int) ∈ partsOf (1 + ((a + b - 1 : Nat) : Int) * 1) (a + b - 1) := by
  have h1 := List.all_eq_true.mp (List.all_eq_true.mp mask_parts a (List.mem_range.mpr (by omega))) b (List.mem_range.mpr (by omega))
  have e : (decide (1 ≤ a) && decide (1 ≤ b) && a &&& b == 0) = true := by simp [ha, hb, h]
  rw [e] at h1
  simp only [Bool.not_true, Bool.false_or, Bool.and_eq_true, decide_eq_true_eq] at h1
  exact h1
theorem mask3 {a b c : Nat} (ha' : a ≤ 31) (hb' : b ≤ 31) (hc' : c ≤ 31) (h : a &&& b = 0) (h2 : a &&& c = 0) (h3 : b &&& c = 0) : (a + b) &&& c = 0 := by
  have h1 := List.all_eq_true.mp (List.all_eq_true.mp mask_or a (List.mem_range.mpr (by omega))) b (List.mem_range.mpr (by omega))
  have e : (a &&& b == 0) = true := by simp [h]
  rw [e] at h1
  simp only [Bool.not_true, Bool.false_or] at h1
  have h4 := List.all_eq_true.mp h1 c (List.mem_range.mpr (by omega))
  have e2 : (a &&& c == 0 && b &&& c == 0) = true := by simp [h2, h3]
  rw [e2] at h4
  simpa using h4

structure Inv (ns : List Int) (ps : List (Nd × Nat)) (lines : Nat) : Prop where
  w : ∀ p ∈ ps, 1 ≤ p.2 ∧ p.2 ≤ 31 ∧ (p.1.ru.length : Int) = wholeOf ns (p.2 : Int)
  d : ps.Pairwise fun p q => p.2 &&& q.2 = 0
  s : (ps.map Prod.snd).sum = 31
  t : (ps.map fun p => T ns (p.2 : Int)).sum ≤ (lines : Int)
theorem Inv.perm {ns : List Int} {ps ps' : List (Nd × Nat)} {lines : Nat} (h : Inv ns ps lines) (p : ps'.Perm ps) : Inv ns ps' lines :=
  ⟨fun q hq => h.w q (p.mem_iff.mp hq), (p.pairwise_iff fun {a b} e => by rw [Nat.and_comm]; exact e).mpr h.d, by rw [(p.map _).sum_nat]; exact h.s, by rw [perm_sum (p.map _)]; exact h.t⟩

theorem forest (ns : List Int) : ∀ (f : Nat) (ps : List (Nd × Nat)) (lines place : Nat), ps ≠ [] → ps.length ≤ f + 1 → Inv ns ps lines → T ns 31 ≤ ((prc f (ps.map Prod.fst) lines place).2 : Int)
  | _, [], _, _, h, _, _ => absurd rfl h
  | 0, [(a, m)], lines, place, _, _, h => by
    have e : m = 31 := by simpa using h.s
    have := h.t
    subst e
    simpa [prc] using this
  | 0, _ :: _ :: _, _, _, _, h, _ => by simp at h
  | f + 1, [(a, m)], lines, place, _, _, h => by
    have e : m = 31 := by simpa using h.s
    have := h.t
    subst e
    simpa [prc] using this
  | f + 1, (a, ma) :: (b, mb) :: r, lines, place, _, hl, h => by
    obtain ⟨a1, a2, a3⟩ := h.w _ (.head _)
    obtain ⟨b1, b2, b3⟩ := h.w _ (.tail _ (.head _))
    have hd := List.pairwise_cons.mp h.d
    have hd2 := List.pairwise_cons.mp hd.2
    have hab : ma &&& mb = 0 := hd.1 (b, mb) (.head _)
    obtain ⟨m1, m2⟩ := mask2 a1 b1 a2 b2 hab
    have hlt : ma + mb - 1 < 31 := by omega
    have tl := T_le ns (ma + mb - 1) hlt m2
    have perm := List.isPerm_iff.mp (masks ⟨ma + mb - 1, hlt⟩ (ma : Int) m2)
    have q1 : (1 + ((ma + mb - 1 : Nat) : Int) * 1) = ((ma + mb : Nat) : Int) := by omega
    have q2 : ((ma + mb - 1 + 1 : Nat) : Int) = ((ma + mb : Nat) : Int) := by omega
    have q3 : ((ma + mb : Nat) : Int) - (ma : Int) = (mb : Int) := by omega
    simp only [q1, q3] at perm
    rw [q1, q2, q3] at tl
    have hw : wholeOf ns ((ma + mb : Nat) : Int) = wholeOf ns (ma : Int) + wholeOf ns (mb : Int) := by
      have := perm_sum (perm.map (intAt ns))
      rw [List.map_append, List.sum_append] at this
      exact this.symm
    have hs := h.s
    have ht := h.t
    simp only [List.map_cons, List.sum_cons] at hs ht
    dsimp only at hs ht a1 a2 a3 b1 b2 b3 tl
    have inv : Inv ns ((mrgN a b place, ma + mb) :: r) (lines + (a.ru ++ b.ru).length) := by
      refine ⟨fun p hp => ?_, List.pairwise_cons.mpr ⟨fun p hp => ?_, hd2.2⟩, by simp only [List.map_cons, List.sum_cons]; omega, ?_⟩
      · rcases List.mem_cons.mp hp with rfl | hp
        · refine ⟨by omega, m1, ?_⟩
          show (((a.ru ++ b.ru).length : Nat) : Int) = _
          rw [List.length_append, hw, ← a3, ← b3]; push_cast; rfl
        · exact h.w p (.tail _ (.tail _ hp))
      · exact mask3 a2 b2 (h.w p (.tail _ (.tail _ hp))).2.1 hab (hd.1 p (.tail _ hp)) (hd2.1 p hp)
      · simp only [List.map_cons, List.sum_cons, List.length_append]
        push_cast
        have a4 : (a.ru.length : Int) = wholeOf ns (ma : Int) := a3
        have b4 : (b.ru.length : Int) = wholeOf ns (mb : Int) := b3
        have q5 : ((ma + mb : Nat) : Int) = (ma : Int) + (mb : Int) := by omega
        rw [q5] at tl hw
        omega
    obtain ⟨ps', pp, pe⟩ := perm_lift (f := Prod.fst) (ins_perm (mrgN a b place) (r.map Prod.fst)) ((mrgN a b place, ma + mb) :: r) rfl
    have := forest ns f ps' (lines + (a.ru ++ b.ru).length) (place + 1) (fun e => by have := pp.length_eq; rw [e] at this; simp at this) (by rw [pp.length_eq]; simp at hl ⊢; omega) (inv.perm pp)
    rw [pe] at this
    exact this

noncomputable def nsX (X : List Int) : List Int := (List.range 5).map fun j => ((ruOf (X.getD j 0)).length : Int)
theorem T_zero (ns : List Int) (i : Nat) (h : i < 31) (e : partsOf (1 + (i : Nat) * 1) i = []) : T ns ((i + 1 : Nat) : Int) = 0 := by
  rw [T_fix ns i h, e]; rfl
theorem inv_X (X : List Int) : Inv (nsX X) ((List.range 5).map fun j => (ndAt X j, 2 ^ j)) 0 := by
  have w0 : wholeOf (nsX X) ((2 ^ 0 : Nat) : Int) = intAt (nsX X) 0 + 0 := by
    unfold wholeOf; rw [show (ksR 0 5).filter (bitB ((2 ^ 0 : Nat) : Int)) = [0] from by decide +kernel]; rfl
  have w1 : wholeOf (nsX X) ((2 ^ 1 : Nat) : Int) = intAt (nsX X) 1 + 0 := by
    unfold wholeOf; rw [show (ksR 0 5).filter (bitB ((2 ^ 1 : Nat) : Int)) = [1] from by decide +kernel]; rfl
  have w2 : wholeOf (nsX X) ((2 ^ 2 : Nat) : Int) = intAt (nsX X) 2 + 0 := by
    unfold wholeOf; rw [show (ksR 0 5).filter (bitB ((2 ^ 2 : Nat) : Int)) = [2] from by decide +kernel]; rfl
  have w3 : wholeOf (nsX X) ((2 ^ 3 : Nat) : Int) = intAt (nsX X) 3 + 0 := by
    unfold wholeOf; rw [show (ksR 0 5).filter (bitB ((2 ^ 3 : Nat) : Int)) = [3] from by decide +kernel]; rfl
  have w4 : wholeOf (nsX X) ((2 ^ 4 : Nat) : Int) = intAt (nsX X) 4 + 0 := by
    unfold wholeOf; rw [show (ksR 0 5).filter (bitB ((2 ^ 4 : Nat) : Int)) = [4] from by decide +kernel]; rfl
  refine ⟨?_, ?_, rfl, ?_⟩
  · intro p hp
    obtain ⟨j, hj, rfl⟩ := List.mem_map.mp hp
    have hj5 := List.mem_range.mp hj
    match j, hj5 with
    | 0, _ => exact ⟨(by decide : 1 ≤ 2 ^ 0), (by decide : 2 ^ 0 ≤ 31), by show _ = wholeOf (nsX X) ((2 ^ 0 : Nat) : Int); rw [w0, Int.add_zero]; rfl⟩
    | 1, _ => exact ⟨(by decide : 1 ≤ 2 ^ 1), (by decide : 2 ^ 1 ≤ 31), by show _ = wholeOf (nsX X) ((2 ^ 1 : Nat) : Int); rw [w1, Int.add_zero]; rfl⟩
    | 2, _ => exact ⟨(by decide : 1 ≤ 2 ^ 2), (by decide : 2 ^ 2 ≤ 31), by show _ = wholeOf (nsX X) ((2 ^ 2 : Nat) : Int); rw [w2, Int.add_zero]; rfl⟩
    | 3, _ => exact ⟨(by decide : 1 ≤ 2 ^ 3), (by decide : 2 ^ 3 ≤ 31), by show _ = wholeOf (nsX X) ((2 ^ 3 : Nat) : Int); rw [w3, Int.add_zero]; rfl⟩
    | 4, _ => exact ⟨(by decide : 1 ≤ 2 ^ 4), (by decide : 2 ^ 4 ≤ 31), by show _ = wholeOf (nsX X) ((2 ^ 4 : Nat) : Int); rw [w4, Int.add_zero]; rfl⟩
  · rw [List.pairwise_map]
    show (List.range 5).Pairwise fun a b => 2 ^ a &&& 2 ^ b = 0
    decide
  · have t0 := T_zero (nsX X) 0 (by decide) (by decide +kernel)
    have t1 := T_zero (nsX X) 1 (by decide) (by decide +kernel)
    have t2 := T_zero (nsX X) 3 (by decide) (by decide +kernel)
    have t3 := T_zero (nsX X) 7 (by decide) (by decide +kernel)
    have t4 := T_zero (nsX X) 15 (by decide) (by decide +kernel)
    have e : (((List.range 5).map fun j => (ndAt X j, 2 ^ j)).map fun p : Nd × Nat => T (nsX X) (p.2 : Int)).sum = T (nsX X) ((0 + 1 : Nat) : Int) + (T (nsX X) ((1 + 1 : Nat) : Int) + (T (nsX X) ((3 + 1 : Nat) : Int) + (T (nsX X) ((7 + 1 : Nat) : Int) + (T (nsX X) ((15 + 1 : Nat) : Int) + 0)))) := rfl
    rw [e, t0, t1, t2, t3, t4]
    decide
theorem up_X (X : List Int) : T (nsX X) 31 ≤ ((fin X).2 : Int) := by
  obtain ⟨ps', pp, pe⟩ := perm_lift (f := Prod.fst) (srt_perm' (ndX X)) ((List.range 5).map fun j => (ndAt X j, 2 ^ j)) (by rw [List.map_map]; rfl)
  have := forest (nsX X) 5 ps' 0 5 (fun e => by have := pp.length_eq; rw [e] at this; simp at this) (by rw [pp.length_eq]; simp) ((inv_X X).perm pp)
  rw [pe] at this
  exact this
theorem keys_X (X : List Int) : ((ndX X).map Nd.key).Nodup := by
  unfold ndX List.Nodup
  rw [List.pairwise_map, List.pairwise_map]
  refine List.Pairwise.imp_of_mem (fun {a b} ha hb hab e => ?_) (List.pairwise_lt_range (n := 5))
  have h1 := List.mem_range.mp ha
  have h2 := List.mem_range.mp hb
  have e' : ((ruOf (X.getD a 0)).length : Int) * 16 + (a : Nat) = ((ruOf (X.getD b 0)).length : Int) * 16 + (b : Nat) := e
  omega
theorem low_X (X : List Int) : ((fin X).2 : Int) ≤ T (nsX X) 31 := by
  have hs := srt_srt (ndX X) (keys_X X)
  have hp := srt_perm' (ndX X)
  have h5 := hp.length_eq
  have hk : ∀ a ∈ srt (ndX X), a.k < 16 := fun a ha => by
    obtain ⟨j, hj, rfl⟩ := List.mem_map.mp (hp.mem_iff.mp ha)
    have := List.mem_range.mp hj
    show j < 16; omega
  unfold fin
  generalize srt (ndX X) = l at hs hp h5 hk
  match l, (by rw [h5]; simp [ndX] : l.length = 5) with
  | [a, b, c, d, e], _ =>
    have ka := hk a (.head _)
    have kb := hk b (.tail _ (.head _))
    have kc := hk c (.tail _ (.tail _ (.head _)))
    have kd := hk d (.tail _ (.tail _ (.tail _ (.head _))))
    have ke := hk e (.tail _ (.tail _ (.tail _ (.tail _ (.head _)))))
    have s1 := List.pairwise_cons.mp hs
    have s2 := List.pairwise_cons.mp s1.2
    have s3 := List.pairwise_cons.mp s2.2
    have s4 := List.pairwise_cons.mp s3.2
    have l1 := (key_len ka kb).1 (s1.1 b (.head _))
    have l2 := (key_len kb kc).1 (s2.1 c (.head _))
    have l3 := (key_len kc kd).1 (s3.1 d (.head _))
    have l4 := (key_len kd ke).1 (s4.1 e (.head _))
    obtain ⟨b1, b2, b3⟩ := huff ka kb kc kd ke l1 l2 l3 l4
    have hc := T_cost (nsX X) 31 30 (by decide) (by decide)
    have ei : idx (1 + ((30 : Nat) : Int) * 1) = [0, 1, 2, 3, 4] := by decide +kernel
    rw [ei] at hc
    have en : ([0, 1, 2, 3, 4] : List Int).map (intAt (nsX X)) = (ndX X).map fun a => (a.ru.length : Int) := rfl
    rw [en] at hc
    have e31 : ((30 + 1 : Nat) : Int) = 31 := rfl
    rw [e31] at hc
    exact low5 (x1 := (a.ru.length : Int)) (x2 := (b.ru.length : Int)) (x3 := (c.ru.length : Int)) (x4 := (d.ru.length : Int)) (x5 := (e.ru.length : Int)) (by omega) (by omega) (by omega) (by omega) hc (hp.map fun a => (a.ru.length : Int)).symm b1 b2 b3
theorem left_X (X : List Int) : leastOf (nsX X) ≤ leftOf (nsX X) := by
  have t31 := T_le (nsX X) 30 (by decide) (p := 15) (by decide +kernel)
  have t15 := T_le (nsX X) 14 (by decide) (p := 7) (by decide +kernel)
  have t7 := T_le (nsX X) 6 (by decide) (p := 3) (by decide +kernel)
  have t3 := T_le (nsX X) 2 (by decide) (p := 1) (by decide +kernel)
  have z1 := T_zero (nsX X) 0 (by decide) (by decide +kernel)
  have z2 := T_zero (nsX X) 1 (by decide) (by decide +kernel)
  have z4 := T_zero (nsX X) 3 (by decide) (by decide +kernel)
  have z8 := T_zero (nsX X) 7 (by decide) (by decide +kernel)
  have z16 := T_zero (nsX X) 15 (by decide) (by decide +kernel)
  have w31 : wholeOf (nsX X) (1 + ((30 : Nat) : Int) * 1) = ((nsX X).take 5).sum := by
    unfold wholeOf; rw [show (ksR 0 5).filter (bitB (1 + ((30 : Nat) : Int) * 1)) = [0, 1, 2, 3, 4] from by decide +kernel]; rfl
  have w15 : wholeOf (nsX X) (1 + ((14 : Nat) : Int) * 1) = ((nsX X).take 4).sum := by
    unfold wholeOf; rw [show (ksR 0 5).filter (bitB (1 + ((14 : Nat) : Int) * 1)) = [0, 1, 2, 3] from by decide +kernel]; rfl
  have w7 : wholeOf (nsX X) (1 + ((6 : Nat) : Int) * 1) = ((nsX X).take 3).sum := by
    unfold wholeOf; rw [show (ksR 0 5).filter (bitB (1 + ((6 : Nat) : Int) * 1)) = [0, 1, 2] from by decide +kernel]; rfl
  have w3 : wholeOf (nsX X) (1 + ((2 : Nat) : Int) * 1) = ((nsX X).take 2).sum := by
    unfold wholeOf; rw [show (ksR 0 5).filter (bitB (1 + ((2 : Nat) : Int) * 1)) = [0, 1] from by decide +kernel]; rfl
  have el : leftOf (nsX X) = ((nsX X).take 2).sum + (((nsX X).take 3).sum + (((nsX X).take 4).sum + (((nsX X).take 5).sum + 0))) := rfl
  rw [w31] at t31
  rw [w15] at t15
  rw [w7] at t7
  rw [w3] at t3
  have a31 : T (nsX X) 31 ≤ ((nsX X).take 5).sum + (T (nsX X) 15 + T (nsX X) 16) := t31
  have a15 : T (nsX X) 15 ≤ ((nsX X).take 4).sum + (T (nsX X) 7 + T (nsX X) 8) := t15
  have a7 : T (nsX X) 7 ≤ ((nsX X).take 3).sum + (T (nsX X) 3 + T (nsX X) 4) := t7
  have a3 : T (nsX X) 3 ≤ ((nsX X).take 2).sum + (T (nsX X) 1 + T (nsX X) 2) := t3
  have y1 : T (nsX X) 1 = 0 := z1
  have y2 : T (nsX X) 2 = 0 := z2
  have y4 : T (nsX X) 4 = 0 := z4
  have y8 : T (nsX X) 8 = 0 := z8
  have y16 : T (nsX X) 16 = 0 := z16
  rw [el]
  show T (nsX X) 31 ≤ _
  omega
theorem plain_all (xs : List Int) : Plain (X5 xs) :=
  plain_of (Int.le_antisymm (low_X (X5 xs)) (up_X (X5 xs))) (left_X (X5 xs))
end Mine
end

-- Top
section
open PySem PySem.W PyProof.Rows PySem.Calls
set_option maxRecDepth 100000
set_option maxHeartbeats 2000000
namespace Mine
theorem mkCx {d u : Nat} {w : World} {A A₀ : Around} {L : Addr} {h₀ base : Heap} {env : Env} {mean : ExcName → Option Value} {mg mb : Str → Option Value} (B : Below A₀ base [] h₀) (T : Top hdV (looseW hdV []) mean mg mb h₀) (X : (KK w).In h₀)
    (h1 : A.frames = some [env]) (h2 : env.frame = some L) (h3 : env.scope.kind = .function) (h4 : A.depth ≤ d) (h5 : A.units ≤ u) (h6 : A.handled = none) : Cx d u w A L h₀ :=
  ⟨⟨A₀, base, [], env, mean, mg, mb, B, T, h1, h2, h3⟩, X, h4, h5, h6⟩
theorem mkCx0 {w : World} {A : Around} {L : Addr} {h₀ : Heap} {env : Env} {mean : ExcName → Option Value} {mg mb : Str → Option Value}
    (h1 : A.frames = some [env]) (h2 : env.frame = some L) (h3 : env.scope.kind = .function) (X : (KK w).In h₀) (T : Top hdV (looseW hdV []) mean mg mb h₀) (h4 : A.depth < 400) (h6 : A.handled = none) : Cx0 w A L h₀ env :=
  ⟨h1, h2, h3, X, ⟨mean, mg, mb, T⟩, h4, h6⟩
theorem top : PySem.Challenge.rw_oy0120_01.Holds := hd (by
  k_go0
  refine law_walk (xs := ?zxs) (items := ?zit) (a := ?za) (oC := ?zo) (m := ?zmm) (h₀ := ?zhh) (d := 310) (u := 10) ?zb ?zC ?zC0 ?zF ?zN ?zoC (by decide) (by decide) ?zm ?zl ?zi ?zz (plain_all _) ?zh
  case zb => exact ⟨_, _, _, _, _, _, _, _, _, _, _, _, _, rfl⟩
  case zF => assumption
  case zN => assumption
  case zoC => assumption
  case zm => rfl
  case zl => assumption
  case zi => assumption
  case zz => omega
  case zC =>
    refine mkCx (A₀ := callerA) (base := ?zbase) (mean := ?zmean) (mg := ?zmg) (mb := ?zmb) ?z1 ?z2 ?z3 rfl rfl rfl (Nat.le_of_ble_eq_true rfl) (Nat.le_of_ble_eq_true rfl) rfl
    case z1 => assumption
    case z2 => assumption
    case z3 => assumption
  case zC0 =>
    refine mkCx0 (mean := ?zmean0) (mg := ?zmg0) (mb := ?zmb0) rfl rfl rfl ?z4 ?z5 (Nat.le_of_ble_eq_true rfl) rfl
    case z4 => assumption
    case z5 => assumption
  case zh =>
    intro s' m' sm F'
    refine goodW_bool F' (sm.gens.trans ?_) (fun _ => rfl) ?_ sm.os
    · assumption
    · kc_post)
end Mine
end

set_option maxRecDepth 100000 in
set_option maxHeartbeats 8000000 in
theorem PySem.Challenge.cw_oy0120_01_holds : PySem.Challenge.rw_oy0120_01.Holds := by
  exact Mine.top
