import PyProof.Rows.All
import Wide.All
import OpenK.AllK
import Wide.FinOn
import Lean
import PySem.Challenge.RW_rx0045_01
open PySem PySem.W PyProof.Rows
set_option Elab.async false
set_option compiler.extract_closed false
set_option maxRecDepth 100000
set_option maxHeartbeats 8000000
set_option linter.unusedSimpArgs false
set_option linter.unusedVariables false
set_option linter.unusedSectionVars false
namespace Mine
local macro_rules | `(tactic| walk_at $s:str) => `(tactic| k_extra $s)
local macro_rules | `(tactic| k_all) => `(tactic| k_extra "k_all")
local macro_rules | `(tactic| k_inst) => `(tactic| k_extra "k_inst")
local macro_rules | `(tactic| k_room) => `(tactic| k_extra "k_room")
local macro_rules | `(tactic| ktr_room) => `(tactic| k_extra "ktr_room")
local macro_rules | `(tactic| ktr_units) => `(tactic| k_extra "ktr_room")
local macro_rules | `(tactic| k_mem) => `(tactic| k_extra "k_mem")
local macro_rules | `(tactic| k_memK) => `(tactic| k_extra "k_memK")
section
open PySem PySem.W PyProof.Rows
namespace hd
abbrev fnAt {n : Str} {ps : Arguments} {bd : List Stmt} {dl : List PySem.Expr} {rt : Option PySem.Expr} {tp : List TypeParam} {sc : Scope} {x : Option Scope} {y : Str} {p : Pos} (s : Option Stmt) (_h : s = some (Stmt.FunctionDef n ps bd dl rt tp sc x y p)) (k : Str → Arguments → List Stmt → Scope → Obj) : Obj := k n ps bd sc
noncomputable abbrev st (i : Nat) : Option Stmt := PySem.Challenge.pw_rx0045_01.main.body[i]?
noncomputable abbrev bodyOf : Option Stmt → List Stmt
  | some (Stmt.ClassDef _ _ _ b _ _ _ _ _ _ _) => b
  | _ => []
noncomputable abbrev ms (i : Nat) : Option Stmt := (bodyOf (st 10))[i]?
noncomputable def heap_39 : Params → Frag := fun P =>
  (nat_lit 2, { cls := Value.none, data := Data.dict #[{ hash := PyData.keyHash P (Str.ofString "\x69mport.loaded._sre"), key := Value.str (Str.ofString "\x69mport.loaded._sre") 183, val := Value.bool true }, { hash := PyData.keyHash P (Str.ofString "class._frozen_\x69mportlib.BuiltinImporter"), key := Value.str (Str.ofString "class._frozen_\x69mportlib.BuiltinImporter") 185, val := Value.ref 14 }, { hash := PyData.keyHash P (Str.ofString "watched.\x69mport"), key := Value.str (Str.ofString "watched.\x69mport") 206, val := Value.ref 18 }, { hash := PyData.keyHash P (Str.ofString "class._frozen_\x69mportlib.ModuleSpec"), key := Value.str (Str.ofString "class._frozen_\x69mportlib.ModuleSpec") 216, val := Value.ref 22 }, { hash := PyData.keyHash P (Str.ofString "sys.modules.booked-epoch"), key := Value.str (Str.ofString "sys.modules.booked-epoch") 245, val := Value.int 3 0 }, { hash := PyData.keyHash P (Str.ofString "\x69mport.later-laid._sre"), key := Value.str (Str.ofString "\x69mport.later-laid._sre") 270, val := Value.bool true }, { hash := PyData.keyHash P (Str.ofString "watched.library"), key := Value.str (Str.ofString "watched.library") 272, val := Value.ref 27 }, { hash := PyData.keyHash P (Str.ofString "watched.library-objects"), key := Value.str (Str.ofString "watched.library-objects") 0, val := Value.str (Str.ofString "\x0c") 0 }, { hash := PyData.keyHash P (Str.ofString "watched.library-deep._sre"), key := Value.str (Str.ofString "watched.library-deep._sre") 273, val := Value.str (Str.ofString "\x04\x00\x00\x0b\x04\x00\x00\x0b\x04\x00\x00\x03\x04\x00\x00\x0b\x08\x04dict\x02") 0 }] 9 }) ::
   (nat_lit 3, { cls := Value.type "dict", data := Data.dict #[{ hash := PyData.keyHash P (Str.ofString "__name__"), key := Value.str (Str.ofString "__name__") 165, val := Value.str (Str.ofString "law_rx0045_01") 655 }, { hash := PyData.keyHash P (Str.ofString "__doc__"), key := Value.str (Str.ofString "__doc__") 166, val := Value.none }, { hash := PyData.keyHash P (Str.ofString "__package__"), key := Value.str (Str.ofString "__package__") 167, val := Value.none }, { hash := PyData.keyHash P (Str.ofString "__loader__"), key := Value.str (Str.ofString "__loader__") 168, val := Value.builtin "__main__.__loader__#opaque" }, { hash := PyData.keyHash P (Str.ofString "__spec__"), key := Value.str (Str.ofString "__spec__") 169, val := Value.none }, { hash := PyData.keyHash P (Str.ofString "__annotations__"), key := Value.str (Str.ofString "__annotations__") 170, val := Value.ref 6 }, { hash := PyData.keyHash P (Str.ofString "__builtins__"), key := Value.str (Str.ofString "__builtins__") 171, val := Value.ref 4 }, { hash := PyData.keyHash P (Str.ofString "__file__"), key := Value.str (Str.ofString "__file__") 173, val := Value.str (Str.ofString "/claim/cut.py") 172 }, { hash := PyData.keyHash P (Str.ofString "__cached__"), key := Value.str (Str.ofString "__cached__") 174, val := Value.none }, { hash := PyData.keyHash P (Str.ofString "_sre"), key := Value.str (Str.ofString "_sre") 275, val := Value.ref 12 }, { hash := PyData.keyHash P (Str.ofString "_wall"), key := Value.str (Str.ofString "_wall") 288, val := Value.ref 38 }, { hash := PyData.keyHash P (Str.ofString "_twin_re_1"), key := Value.str (Str.ofString "_twin_re_1") 326, val := Value.ref 43 }, { hash := PyData.keyHash P (Str.ofString "_special_chars_map"), key := Value.str (Str.ofString "_special_chars_map") 474, val := Value.ref 45 }, { hash := PyData.keyHash P (Str.ofString "escape"), key := Value.str (Str.ofString "escape") 481, val := Value.ref 55 }, { hash := PyData.keyHash P (Str.ofString "_translate"), key := Value.str (Str.ofString "_translate") 502, val := Value.ref 62 }, { hash := PyData.keyHash P (Str.ofString "EMPTYSTRING"), key := Value.str (Str.ofString "EMPTYSTRING") 506, val := Value.str (Str.ofString "") 505 }, { hash := PyData.keyHash P (Str.ofString "_Accumulator"), key := Value.str (Str.ofString "_Accumulator") 601, val := Value.ref 142 }, { hash := PyData.keyHash P (Str.ofString "heappush"), key := Value.str (Str.ofString "heappush") 611, val := Value.ref 153 }, { hash := PyData.keyHash P (Str.ofString "heappop"), key := Value.str (Str.ofString "heappop") 620, val := Value.ref 160 }, { hash := PyData.keyHash P (Str.ofString "heapify"), key := Value.str (Str.ofString "heapify") 629, val := Value.ref 167 }, { hash := PyData.keyHash P (Str.ofString "_siftdown"), key := Value.str (Str.ofString "_siftdown") 641, val := Value.ref 174 }, { hash := PyData.keyHash P (Str.ofString "_siftup"), key := Value.str (Str.ofString "_siftup") 654, val := Value.ref 181 }, { hash := PyData.keyHash P (Str.ofString "_law_foes"), key := Value.str (Str.ofString "_law_foes") 665, val := Value.ref 188 }, { hash := PyData.keyHash P (Str.ofString "_law_top"), key := Value.str (Str.ofString "_law_top") 674, val := Value.ref 195 }, { hash := PyData.keyHash P (Str.ofString "_law_least"), key := Value.str (Str.ofString "_law_least") 680, val := Value.ref 200 }, { hash := PyData.keyHash P (Str.ofString "_law_runs"), key := Value.str (Str.ofString "_law_runs") 686, val := Value.ref 205 }, { hash := PyData.keyHash P (Str.ofString "_law_fits"), key := Value.str (Str.ofString "_law_fits") 694, val := Value.ref 212 }, { hash := PyData.keyHash P (Str.ofString "_law_taken"), key := Value.str (Str.ofString "_law_taken") 700, val := Value.ref 217 }, { hash := PyData.keyHash P (Str.ofString "law"), key := Value.str (Str.ofString "law") 706, val := Value.ref 222 }] 29 }) ::
   (nat_lit 32, { cls := Value.type "tuple", data := Data.seq #[] }) ::
   (nat_lit 34, { cls := Value.type "tuple", data := Data.seq #[Value.str (Str.ofString "k") 285] }) ::
   (nat_lit 35, { cls := Value.type "tuple", data := Data.seq #[] }) ::
   (nat_lit 37, { cls := Value.type "code", data := Data.fields #[Value.str (Str.ofString "_wall") 282, Value.str (Str.ofString "_wall") 283, Value.str (Str.ofString "/claim/cut.py") 284, Value.int 2 0, Value.int 1 0, Value.int 0 0, Value.int 0 0, Value.int 3 0, Value.ref 32, Value.bool true, Value.int 276 0, Value.ref 33, Value.none, Value.ref 34, Value.ref 35, Value.ref 36, Value.int 286 0, Value.int 2 0, Value.str (Str.ofString "/claim/cut.py") 287] }) ::
   (nat_lit 38, fnAt (st 1) rfl fun n ps bd sc => { cls := Value.type "function", data := Data.func { name := n, qualname := Str.ofString "_wall", params := ps, body := FuncBody.stmts bd, scope := sc, globals := 3, closure := [], defaults := Value.none, kwdefaults := Value.none, pyModule := Value.str (Str.ofString "__main__") 164, code := Value.ref 37 } }) ::
   (nat_lit 42, { cls := Value.type "tuple", data := Data.seq #[Value.int 14 0, Value.int 14 0, Value.int 4 0, Value.int 1 0, Value.int 1 0, Value.int 9 0, Value.int 0 0, Value.int 64 0, Value.int 0 0, Value.int 1342177280 0, Value.int 0 0, Value.int 0 0, Value.int 0 0, Value.int 0 0, Value.int 0 0, Value.int 17 0, Value.int 0 0, Value.int 13 0, Value.int 11 0, Value.int 9 0, Value.int 0 0, Value.int 64 0, Value.int 0 0, Value.int 1342177280 0, Value.int 0 0, Value.int 0 0, Value.int 0 0, Value.int 0 0, Value.int 0 0, Value.int 17 0, Value.int 1 0, Value.int 1 0] }) ::
   (nat_lit 43, { cls := Value.type "re.Pattern", data := Data.fields #[Value.str (Str.ofString "([&~|])") 290, Value.int 32 325, Value.int 1 0, Value.none, Value.none, Value.ref 42, Value.int 0 0] }) ::
   (nat_lit 45, { cls := Value.type "dict", data := Data.dict #[{ hash := 40, key := Value.int 40 330, val := Value.str (Str.ofString "\\(") 334 }, { hash := 41, key := Value.int 41 336, val := Value.str (Str.ofString "\\)") 340 }, { hash := 91, key := Value.int 91 342, val := Value.str (Str.ofString "\\[") 346 }, { hash := 93, key := Value.int 93 348, val := Value.str (Str.ofString "\\]") 352 }, { hash := 123, key := Value.int 123 354, val := Value.str (Str.ofString "\\{") 358 }, { hash := 125, key := Value.int 125 360, val := Value.str (Str.ofString "\\}") 364 }, { hash := 63, key := Value.int 63 366, val := Value.str (Str.ofString "\\?") 370 }, { hash := 42, key := Value.int 42 372, val := Value.str (Str.ofString "\\*") 376 }, { hash := 43, key := Value.int 43 378, val := Value.str (Str.ofString "\\+") 382 }, { hash := 45, key := Value.int 45 384, val := Value.str (Str.ofString "\\-") 388 }, { hash := 124, key := Value.int 124 390, val := Value.str (Str.ofString "\\|") 394 }, { hash := 94, key := Value.int 94 396, val := Value.str (Str.ofString "\\^") 400 }, { hash := 36, key := Value.int 36 402, val := Value.str (Str.ofString "\\$") 406 }, { hash := 92, key := Value.int 92 408, val := Value.str (Str.ofString "\\\\") 412 }, { hash := 46, key := Value.int 46 414, val := Value.str (Str.ofString "\\.") 418 }, { hash := 38, key := Value.int 38 420, val := Value.str (Str.ofString "\\&") 424 }, { hash := 126, key := Value.int 126 426, val := Value.str (Str.ofString "\\~") 430 }, { hash := 35, key := Value.int 35 432, val := Value.str (Str.ofString "\\#") 436 }, { hash := 32, key := Value.int 32 438, val := Value.str (Str.ofString "\\ ") 442 }, { hash := 9, key := Value.int 9 444, val := Value.str (Str.ofString "\\\t") 448 }, { hash := 10, key := Value.int 10 450, val := Value.str (Str.ofString "\\\n") 454 }, { hash := 13, key := Value.int 13 456, val := Value.str (Str.ofString "\\\x0d") 460 }, { hash := 11, key := Value.int 11 462, val := Value.str (Str.ofString "\\\x0b") 466 }, { hash := 12, key := Value.int 12 468, val := Value.str (Str.ofString "\\\x0c") 472 }] 24 }) ::
   (nat_lit 49, { cls := Value.type "tuple", data := Data.seq #[] }) ::
   (nat_lit 51, { cls := Value.type "tuple", data := Data.seq #[Value.str (Str.ofString "pattern") 478] }) ::
   (nat_lit 52, { cls := Value.type "tuple", data := Data.seq #[] }) ::
   (nat_lit 54, { cls := Value.type "code", data := Data.fields #[Value.str (Str.ofString "escape") 475, Value.str (Str.ofString "escape") 476, Value.str (Str.ofString "/claim/cut.py") 477, Value.int 8 0, Value.int 1 0, Value.int 0 0, Value.int 0 0, Value.int 3 0, Value.ref 49, Value.bool true, Value.int 276 0, Value.ref 50, Value.none, Value.ref 51, Value.ref 52, Value.ref 53, Value.int 479 0, Value.int 8 0, Value.str (Str.ofString "/claim/cut.py") 480] }) ::
   (nat_lit 55, fnAt (st 5) rfl fun n ps bd sc => { cls := Value.type "function", data := Data.func { name := n, qualname := Str.ofString "escape", params := ps, body := FuncBody.stmts bd, scope := sc, globals := 3, closure := [], defaults := Value.none, kwdefaults := Value.none, pyModule := Value.str (Str.ofString "re") 327, code := Value.ref 54 } }) ::
   (nat_lit 56, { cls := Value.type "tuple", data := Data.seq #[] }) ::
   (nat_lit 58, { cls := Value.type "tuple", data := Data.seq #[Value.str (Str.ofString "pat") 487, Value.str (Str.ofString "STAR") 488, Value.str (Str.ofString "QUESTION_MARK") 489, Value.str (Str.ofString "res") 490, Value.str (Str.ofString "add") 491, Value.str (Str.ofString "i") 492, Value.str (Str.ofString "n") 493, Value.str (Str.ofString "c") 494, Value.str (Str.ofString "j") 495, Value.str (Str.ofString "stuff") 496, Value.str (Str.ofString "chunks") 497, Value.str (Str.ofString "k") 498, Value.str (Str.ofString "chunk") 499] }) ::
   (nat_lit 59, { cls := Value.type "tuple", data := Data.seq #[] }) ::
   (nat_lit 61, { cls := Value.type "code", data := Data.fields #[Value.str (Str.ofString "_translate") 484, Value.str (Str.ofString "_translate") 485, Value.str (Str.ofString "/claim/cut.py") 486, Value.int 15 0, Value.int 3 0, Value.int 0 0, Value.int 0 0, Value.int 3 0, Value.ref 56, Value.bool true, Value.int 276 0, Value.ref 57, Value.none, Value.ref 58, Value.ref 59, Value.ref 60, Value.int 500 0, Value.int 15 0, Value.str (Str.ofString "/claim/cut.py") 501] }) ::
   (nat_lit 62, fnAt (st 7) rfl fun n ps bd sc => { cls := Value.type "function", data := Data.func { name := n, qualname := Str.ofString "_translate", params := ps, body := FuncBody.stmts bd, scope := sc, globals := 3, closure := [], defaults := Value.none, kwdefaults := Value.none, pyModule := Value.str (Str.ofString "cpy313.fnmatch") 482, code := Value.ref 61 } }) ::
   (nat_lit 63, { cls := Value.type "tuple", data := Data.seq #[Value.type "list"] }) ::
   (nat_lit 66, { cls := Value.type "cell", data := Data.cell (some (Value.ref 142)) }) ::
   (nat_lit 71, { cls := Value.type "tuple", data := Data.seq #[Value.int 0 519] }) ::
   (nat_lit 72, { cls := Value.type "tuple", data := Data.seq #[Value.ref 66] }) ::
   (nat_lit 73, { cls := Value.type "tuple", data := Data.seq #[Value.str (Str.ofString "__class__") 523] }) ::
   (nat_lit 75, { cls := Value.type "tuple", data := Data.seq #[Value.str (Str.ofString "self") 524, Value.str (Str.ofString "initial_size") 525] }) ::
   (nat_lit 76, { cls := Value.type "tuple", data := Data.seq #[] }) ::
   (nat_lit 78, { cls := Value.type "code", data := Data.fields #[Value.str (Str.ofString "__init__") 520, Value.str (Str.ofString "_Accumulator.__init__") 521, Value.str (Str.ofString "/claim/cut.py") 522, Value.int 81 0, Value.int 2 0, Value.int 0 0, Value.int 0 0, Value.int 3 0, Value.ref 73, Value.bool true, Value.int 276 0, Value.ref 74, Value.none, Value.ref 75, Value.ref 76, Value.ref 77, Value.int 526 0, Value.int 81 0, Value.str (Str.ofString "/claim/cut.py") 527] }) ::
   (nat_lit 79, fnAt (ms 0) rfl fun n ps bd sc => { cls := Value.type "function", data := Data.func { name := n, qualname := Str.ofString "_Accumulator.__init__", params := ps, body := FuncBody.stmts bd, scope := sc, globals := 3, closure := [(Str.ofString "__class__", 66)], defaults := Value.ref 71, kwdefaults := Value.none, pyModule := Value.str (Str.ofString "cpy313.email.header") 503, code := Value.ref 78, closureTuple := Value.ref 72 } }) ::
   (nat_lit 80, { cls := Value.type "tuple", data := Data.seq #[] }) ::
   (nat_lit 82, { cls := Value.type "tuple", data := Data.seq #[Value.str (Str.ofString "self") 532, Value.str (Str.ofString "fws") 533, Value.str (Str.ofString "string") 534] }) ::
   (nat_lit 83, { cls := Value.type "tuple", data := Data.seq #[] }) ::
   (nat_lit 85, { cls := Value.type "code", data := Data.fields #[Value.str (Str.ofString "push") 529, Value.str (Str.ofString "_Accumulator.push") 530, Value.str (Str.ofString "/claim/cut.py") 531, Value.int 85 0, Value.int 3 0, Value.int 0 0, Value.int 0 0, Value.int 3 0, Value.ref 80, Value.bool true, Value.int 276 0, Value.ref 81, Value.none, Value.ref 82, Value.ref 83, Value.ref 84, Value.int 535 0, Value.int 85 0, Value.str (Str.ofString "/claim/cut.py") 536] }) ::
   (nat_lit 86, fnAt (ms 1) rfl fun n ps bd sc => { cls := Value.type "function", data := Data.func { name := n, qualname := Str.ofString "_Accumulator.push", params := ps, body := FuncBody.stmts bd, scope := sc, globals := 3, closure := [], defaults := Value.none, kwdefaults := Value.none, pyModule := Value.str (Str.ofString "cpy313.email.header") 503, code := Value.ref 85 } }) ::
   (nat_lit 87, { cls := Value.type "tuple", data := Data.seq #[Value.int 0 538] }) ::
   (nat_lit 88, { cls := Value.type "tuple", data := Data.seq #[] }) ::
   (nat_lit 90, { cls := Value.type "tuple", data := Data.seq #[Value.str (Str.ofString "self") 542, Value.str (Str.ofString "i") 543] }) ::
   (nat_lit 91, { cls := Value.type "tuple", data := Data.seq #[] }) ::
   (nat_lit 93, { cls := Value.type "code", data := Data.fields #[Value.str (Str.ofString "pop_from") 539, Value.str (Str.ofString "_Accumulator.pop_from") 540, Value.str (Str.ofString "/claim/cut.py") 541, Value.int 88 0, Value.int 2 0, Value.int 0 0, Value.int 0 0, Value.int 3 0, Value.ref 88, Value.bool true, Value.int 276 0, Value.ref 89, Value.none, Value.ref 90, Value.ref 91, Value.ref 92, Value.int 544 0, Value.int 88 0, Value.str (Str.ofString "/claim/cut.py") 545] }) ::
   (nat_lit 94, fnAt (ms 2) rfl fun n ps bd sc => { cls := Value.type "function", data := Data.func { name := n, qualname := Str.ofString "_Accumulator.pop_from", params := ps, body := FuncBody.stmts bd, scope := sc, globals := 3, closure := [], defaults := Value.ref 87, kwdefaults := Value.none, pyModule := Value.str (Str.ofString "cpy313.email.header") 503, code := Value.ref 93 } }) ::
   (nat_lit 95, { cls := Value.type "tuple", data := Data.seq #[Value.ref 66] }) ::
   (nat_lit 96, { cls := Value.type "tuple", data := Data.seq #[Value.str (Str.ofString "__class__") 550] }) ::
   (nat_lit 98, { cls := Value.type "tuple", data := Data.seq #[Value.str (Str.ofString "self") 551] }) ::
   (nat_lit 99, { cls := Value.type "tuple", data := Data.seq #[] }) ::
   (nat_lit 101, { cls := Value.type "code", data := Data.fields #[Value.str (Str.ofString "pop") 547, Value.str (Str.ofString "_Accumulator.pop") 548, Value.str (Str.ofString "/claim/cut.py") 549, Value.int 91 0, Value.int 1 0, Value.int 0 0, Value.int 0 0, Value.int 3 0, Value.ref 96, Value.bool true, Value.int 276 0, Value.ref 97, Value.none, Value.ref 98, Value.ref 99, Value.ref 100, Value.int 552 0, Value.int 91 0, Value.str (Str.ofString "/claim/cut.py") 553] }) ::
   (nat_lit 102, fnAt (ms 3) rfl fun n ps bd sc => { cls := Value.type "function", data := Data.func { name := n, qualname := Str.ofString "_Accumulator.pop", params := ps, body := FuncBody.stmts bd, scope := sc, globals := 3, closure := [(Str.ofString "__class__", 66)], defaults := Value.none, kwdefaults := Value.none, pyModule := Value.str (Str.ofString "cpy313.email.header") 503, code := Value.ref 101, closureTuple := Value.ref 95 } }) ::
   (nat_lit 103, { cls := Value.type "tuple", data := Data.seq #[] }) ::
   (nat_lit 105, { cls := Value.type "tuple", data := Data.seq #[Value.str (Str.ofString "self") 558] }) ::
   (nat_lit 106, { cls := Value.type "tuple", data := Data.seq #[] }) ::
   (nat_lit 108, { cls := Value.type "code", data := Data.fields #[Value.str (Str.ofString "__len__") 555, Value.str (Str.ofString "_Accumulator.__len__") 556, Value.str (Str.ofString "/claim/cut.py") 557, Value.int 96 0, Value.int 1 0, Value.int 0 0, Value.int 0 0, Value.int 3 0, Value.ref 103, Value.bool true, Value.int 276 0, Value.ref 104, Value.none, Value.ref 105, Value.ref 106, Value.ref 107, Value.int 559 0, Value.int 96 0, Value.str (Str.ofString "/claim/cut.py") 560] }) ::
   (nat_lit 109, fnAt (ms 4) rfl fun n ps bd sc => { cls := Value.type "function", data := Data.func { name := n, qualname := Str.ofString "_Accumulator.__len__", params := ps, body := FuncBody.stmts bd, scope := sc, globals := 3, closure := [], defaults := Value.none, kwdefaults := Value.none, pyModule := Value.str (Str.ofString "cpy313.email.header") 503, code := Value.ref 108 } }) ::
   (nat_lit 110, { cls := Value.type "tuple", data := Data.seq #[] }) ::
   (nat_lit 112, { cls := Value.type "tuple", data := Data.seq #[Value.str (Str.ofString "self") 565] }) ::
   (nat_lit 113, { cls := Value.type "tuple", data := Data.seq #[] }) ::
   (nat_lit 115, { cls := Value.type "code", data := Data.fields #[Value.str (Str.ofString "__str__") 562, Value.str (Str.ofString "_Accumulator.__str__") 563, Value.str (Str.ofString "/claim/cut.py") 564, Value.int 99 0, Value.int 1 0, Value.int 0 0, Value.int 0 0, Value.int 3 0, Value.ref 110, Value.bool true, Value.int 276 0, Value.ref 111, Value.none, Value.ref 112, Value.ref 113, Value.ref 114, Value.int 566 0, Value.int 99 0, Value.str (Str.ofString "/claim/cut.py") 567] }) ::
   (nat_lit 116, fnAt (ms 5) rfl fun n ps bd sc => { cls := Value.type "function", data := Data.func { name := n, qualname := Str.ofString "_Accumulator.__str__", params := ps, body := FuncBody.stmts bd, scope := sc, globals := 3, closure := [], defaults := Value.none, kwdefaults := Value.none, pyModule := Value.str (Str.ofString "cpy313.email.header") 503, code := Value.ref 115 } }) ::
   (nat_lit 117, { cls := Value.type "tuple", data := Data.seq #[Value.none] }) ::
   (nat_lit 118, { cls := Value.type "tuple", data := Data.seq #[] }) ::
   (nat_lit 120, { cls := Value.type "tuple", data := Data.seq #[Value.str (Str.ofString "self") 572, Value.str (Str.ofString "startval") 573] }) ::
   (nat_lit 121, { cls := Value.type "tuple", data := Data.seq #[] }) ::
   (nat_lit 123, { cls := Value.type "code", data := Data.fields #[Value.str (Str.ofString "reset") 569, Value.str (Str.ofString "_Accumulator.reset") 570, Value.str (Str.ofString "/claim/cut.py") 571, Value.int 102 0, Value.int 2 0, Value.int 0 0, Value.int 0 0, Value.int 3 0, Value.ref 118, Value.bool true, Value.int 276 0, Value.ref 119, Value.none, Value.ref 120, Value.ref 121, Value.ref 122, Value.int 574 0, Value.int 102 0, Value.str (Str.ofString "/claim/cut.py") 575] }) ::
   (nat_lit 124, fnAt (ms 6) rfl fun n ps bd sc => { cls := Value.type "function", data := Data.func { name := n, qualname := Str.ofString "_Accumulator.reset", params := ps, body := FuncBody.stmts bd, scope := sc, globals := 3, closure := [], defaults := Value.ref 117, kwdefaults := Value.none, pyModule := Value.str (Str.ofString "cpy313.email.header") 503, code := Value.ref 123 } }) ::
   (nat_lit 125, { cls := Value.type "tuple", data := Data.seq #[] }) ::
   (nat_lit 127, { cls := Value.type "tuple", data := Data.seq #[Value.str (Str.ofString "self") 580] }) ::
   (nat_lit 128, { cls := Value.type "tuple", data := Data.seq #[] }) ::
   (nat_lit 130, { cls := Value.type "code", data := Data.fields #[Value.str (Str.ofString "is_onlyws") 577, Value.str (Str.ofString "_Accumulator.is_onlyws") 578, Value.str (Str.ofString "/claim/cut.py") 579, Value.int 105 0, Value.int 1 0, Value.int 0 0, Value.int 0 0, Value.int 3 0, Value.ref 125, Value.bool true, Value.int 276 0, Value.ref 126, Value.none, Value.ref 127, Value.ref 128, Value.ref 129, Value.int 581 0, Value.int 105 0, Value.str (Str.ofString "/claim/cut.py") 582] }) ::
   (nat_lit 131, fnAt (ms 7) rfl fun n ps bd sc => { cls := Value.type "function", data := Data.func { name := n, qualname := Str.ofString "_Accumulator.is_onlyws", params := ps, body := FuncBody.stmts bd, scope := sc, globals := 3, closure := [], defaults := Value.none, kwdefaults := Value.none, pyModule := Value.str (Str.ofString "cpy313.email.header") 503, code := Value.ref 130 } }) ::
   (nat_lit 132, { cls := Value.type "tuple", data := Data.seq #[Value.ref 66] }) ::
   (nat_lit 133, { cls := Value.type "tuple", data := Data.seq #[Value.str (Str.ofString "__class__") 587] }) ::
   (nat_lit 135, { cls := Value.type "tuple", data := Data.seq #[Value.str (Str.ofString "self") 588] }) ::
   (nat_lit 136, { cls := Value.type "tuple", data := Data.seq #[] }) ::
   (nat_lit 138, { cls := Value.type "code", data := Data.fields #[Value.str (Str.ofString "part_count") 584, Value.str (Str.ofString "_Accumulator.part_count") 585, Value.str (Str.ofString "/claim/cut.py") 586, Value.int 108 0, Value.int 1 0, Value.int 0 0, Value.int 0 0, Value.int 3 0, Value.ref 133, Value.bool true, Value.int 276 0, Value.ref 134, Value.none, Value.ref 135, Value.ref 136, Value.ref 137, Value.int 589 0, Value.int 108 0, Value.str (Str.ofString "/claim/cut.py") 590] }) ::
   (nat_lit 139, fnAt (ms 8) rfl fun n ps bd sc => { cls := Value.type "function", data := Data.func { name := n, qualname := Str.ofString "_Accumulator.part_count", params := ps, body := FuncBody.stmts bd, scope := sc, globals := 3, closure := [(Str.ofString "__class__", 66)], defaults := Value.none, kwdefaults := Value.none, pyModule := Value.str (Str.ofString "cpy313.email.header") 503, code := Value.ref 138, closureTuple := Value.ref 132 } }) ::
   (nat_lit 140, { cls := Value.type "tuple", data := Data.seq #[Value.str (Str.ofString "_initial_size") 592] }) ::
   (nat_lit 141, { cls := Value.type "dict", data := Data.dict #[{ hash := PyData.keyHash P (Str.ofString "__module__"), key := Value.str (Str.ofString "__module__") 514, val := Value.str (Str.ofString "cpy313.email.header") 503 }, { hash := PyData.keyHash P (Str.ofString "__firstlineno__"), key := Value.str (Str.ofString "__firstlineno__") 518, val := Value.int 79 517 }, { hash := PyData.keyHash P (Str.ofString "__init__"), key := Value.str (Str.ofString "__init__") 528, val := Value.ref 79 }, { hash := PyData.keyHash P (Str.ofString "push"), key := Value.str (Str.ofString "push") 537, val := Value.ref 86 }, { hash := PyData.keyHash P (Str.ofString "pop_from"), key := Value.str (Str.ofString "pop_from") 546, val := Value.ref 94 }, { hash := PyData.keyHash P (Str.ofString "pop"), key := Value.str (Str.ofString "pop") 554, val := Value.ref 102 }, { hash := PyData.keyHash P (Str.ofString "__len__"), key := Value.str (Str.ofString "__len__") 561, val := Value.ref 109 }, { hash := PyData.keyHash P (Str.ofString "__str__"), key := Value.str (Str.ofString "__str__") 568, val := Value.ref 116 }, { hash := PyData.keyHash P (Str.ofString "reset"), key := Value.str (Str.ofString "reset") 576, val := Value.ref 124 }, { hash := PyData.keyHash P (Str.ofString "is_onlyws"), key := Value.str (Str.ofString "is_onlyws") 583, val := Value.ref 131 }, { hash := PyData.keyHash P (Str.ofString "part_count"), key := Value.str (Str.ofString "part_count") 591, val := Value.ref 139 }, { hash := PyData.keyHash P (Str.ofString "__static_attributes__"), key := Value.str (Str.ofString "__static_attributes__") 593, val := Value.ref 140 }, { hash := PyData.keyHash P (Str.ofString "__dict__"), key := Value.str (Str.ofString "__dict__") 596, val := Value.ref 143 }, { hash := PyData.keyHash P (Str.ofString "__weakref__"), key := Value.str (Str.ofString "__weakref__") 598, val := Value.ref 144 }, { hash := PyData.keyHash P (Str.ofString "__doc__"), key := Value.str (Str.ofString "__doc__") 599, val := Value.none }] 5 }) ::
   (nat_lit 142, { cls := Value.type "type", data := Data.cls { name := Str.ofString "_Accumulator", bases := [Value.type "list"], mro := [Value.ref 142, Value.type "list", Value.type "object"], ns := 141, qualname := Str.ofString "_Accumulator" }, slots := #[some (Value.ref 63), none, some (Value.str (Str.ofString "_Accumulator") 507), some (Value.str (Str.ofString "_Accumulator") 515), some (Value.builtin "list.__new__"), some (Value.bool true)] }) ::
   (nat_lit 143, { cls := Value.type "getset_descriptor", data := Data.fields #[Value.str (Str.ofString "__dict__") 595, Value.ref 142, Value.builtin "function.__dict__", Value.builtin "function.__dict__#set"] }) ::
   (nat_lit 144, { cls := Value.type "getset_descriptor", data := Data.fields #[Value.str (Str.ofString "__weakref__") 597, Value.ref 142, Value.builtin "ExceptionGroup.__weakref__", Value.none] }) ::
   (nat_lit 147, { cls := Value.type "tuple", data := Data.seq #[] }) ::
   (nat_lit 149, { cls := Value.type "tuple", data := Data.seq #[Value.str (Str.ofString "heap") 607, Value.str (Str.ofString "item") 608] }) ::
   (nat_lit 150, { cls := Value.type "tuple", data := Data.seq #[] }) ::
   (nat_lit 152, { cls := Value.type "code", data := Data.fields #[Value.str (Str.ofString "heappush") 604, Value.str (Str.ofString "heappush") 605, Value.str (Str.ofString "/claim/cut.py") 606, Value.int 111 0, Value.int 2 0, Value.int 0 0, Value.int 0 0, Value.int 3 0, Value.ref 147, Value.bool true, Value.int 276 0, Value.ref 148, Value.none, Value.ref 149, Value.ref 150, Value.ref 151, Value.int 609 0, Value.int 111 0, Value.str (Str.ofString "/claim/cut.py") 610] }) ::
   (nat_lit 153, fnAt (st 12) rfl fun n ps bd sc => { cls := Value.type "function", data := Data.func { name := n, qualname := Str.ofString "heappush", params := ps, body := FuncBody.stmts bd, scope := sc, globals := 3, closure := [], defaults := Value.none, kwdefaults := Value.none, pyModule := Value.str (Str.ofString "cpy313.heapq") 602, code := Value.ref 152 } }) ::
   (nat_lit 154, { cls := Value.type "tuple", data := Data.seq #[] }) ::
   (nat_lit 156, { cls := Value.type "tuple", data := Data.seq #[Value.str (Str.ofString "heap") 615, Value.str (Str.ofString "lastelt") 616, Value.str (Str.ofString "returnitem") 617] }) ::
   (nat_lit 157, { cls := Value.type "tuple", data := Data.seq #[] }) ::
   (nat_lit 159, { cls := Value.type "code", data := Data.fields #[Value.str (Str.ofString "heappop") 612, Value.str (Str.ofString "heappop") 613, Value.str (Str.ofString "/claim/cut.py") 614, Value.int 114 0, Value.int 1 0, Value.int 0 0, Value.int 0 0, Value.int 3 0, Value.ref 154, Value.bool true, Value.int 276 0, Value.ref 155, Value.none, Value.ref 156, Value.ref 157, Value.ref 158, Value.int 618 0, Value.int 114 0, Value.str (Str.ofString "/claim/cut.py") 619] }) ::
   (nat_lit 160, fnAt (st 13) rfl fun n ps bd sc => { cls := Value.type "function", data := Data.func { name := n, qualname := Str.ofString "heappop", params := ps, body := FuncBody.stmts bd, scope := sc, globals := 3, closure := [], defaults := Value.none, kwdefaults := Value.none, pyModule := Value.str (Str.ofString "cpy313.heapq") 602, code := Value.ref 159 } }) ::
   (nat_lit 161, { cls := Value.type "tuple", data := Data.seq #[] }) ::
   (nat_lit 163, { cls := Value.type "tuple", data := Data.seq #[Value.str (Str.ofString "x") 624, Value.str (Str.ofString "n") 625, Value.str (Str.ofString "i") 626] }) ::
   (nat_lit 164, { cls := Value.type "tuple", data := Data.seq #[] }) ::
   (nat_lit 166, { cls := Value.type "code", data := Data.fields #[Value.str (Str.ofString "heapify") 621, Value.str (Str.ofString "heapify") 622, Value.str (Str.ofString "/claim/cut.py") 623, Value.int 122 0, Value.int 1 0, Value.int 0 0, Value.int 0 0, Value.int 3 0, Value.ref 161, Value.bool true, Value.int 276 0, Value.ref 162, Value.none, Value.ref 163, Value.ref 164, Value.ref 165, Value.int 627 0, Value.int 122 0, Value.str (Str.ofString "/claim/cut.py") 628] }) ::
   (nat_lit 167, fnAt (st 14) rfl fun n ps bd sc => { cls := Value.type "function", data := Data.func { name := n, qualname := Str.ofString "heapify", params := ps, body := FuncBody.stmts bd, scope := sc, globals := 3, closure := [], defaults := Value.none, kwdefaults := Value.none, pyModule := Value.str (Str.ofString "cpy313.heapq") 602, code := Value.ref 166 } }) ::
   (nat_lit 168, { cls := Value.type "tuple", data := Data.seq #[] }) ::
   (nat_lit 170, { cls := Value.type "tuple", data := Data.seq #[Value.str (Str.ofString "heap") 633, Value.str (Str.ofString "startpos") 634, Value.str (Str.ofString "pos") 635, Value.str (Str.ofString "newitem") 636, Value.str (Str.ofString "parentpos") 637, Value.str (Str.ofString "parent") 638] }) ::
   (nat_lit 171, { cls := Value.type "tuple", data := Data.seq #[] }) ::
   (nat_lit 173, { cls := Value.type "code", data := Data.fields #[Value.str (Str.ofString "_siftdown") 630, Value.str (Str.ofString "_siftdown") 631, Value.str (Str.ofString "/claim/cut.py") 632, Value.int 126 0, Value.int 3 0, Value.int 0 0, Value.int 0 0, Value.int 3 0, Value.ref 168, Value.bool true, Value.int 276 0, Value.ref 169, Value.none, Value.ref 170, Value.ref 171, Value.ref 172, Value.int 639 0, Value.int 126 0, Value.str (Str.ofString "/claim/cut.py") 640] }) ::
   (nat_lit 174, fnAt (st 15) rfl fun n ps bd sc => { cls := Value.type "function", data := Data.func { name := n, qualname := Str.ofString "_siftdown", params := ps, body := FuncBody.stmts bd, scope := sc, globals := 3, closure := [], defaults := Value.none, kwdefaults := Value.none, pyModule := Value.str (Str.ofString "cpy313.heapq") 602, code := Value.ref 173 } }) ::
   (nat_lit 175, { cls := Value.type "tuple", data := Data.seq #[] }) ::
   (nat_lit 177, { cls := Value.type "tuple", data := Data.seq #[Value.str (Str.ofString "heap") 645, Value.str (Str.ofString "pos") 646, Value.str (Str.ofString "endpos") 647, Value.str (Str.ofString "startpos") 648, Value.str (Str.ofString "newitem") 649, Value.str (Str.ofString "childpos") 650, Value.str (Str.ofString "rightpos") 651] }) ::
   (nat_lit 178, { cls := Value.type "tuple", data := Data.seq #[] }) ::
   (nat_lit 180, { cls := Value.type "code", data := Data.fields #[Value.str (Str.ofString "_siftup") 642, Value.str (Str.ofString "_siftup") 643, Value.str (Str.ofString "/claim/cut.py") 644, Value.int 137 0, Value.int 2 0, Value.int 0 0, Value.int 0 0, Value.int 3 0, Value.ref 175, Value.bool true, Value.int 276 0, Value.ref 176, Value.none, Value.ref 177, Value.ref 178, Value.ref 179, Value.int 652 0, Value.int 137 0, Value.str (Str.ofString "/claim/cut.py") 653] }) ::
   (nat_lit 181, fnAt (st 16) rfl fun n ps bd sc => { cls := Value.type "function", data := Data.func { name := n, qualname := Str.ofString "_siftup", params := ps, body := FuncBody.stmts bd, scope := sc, globals := 3, closure := [], defaults := Value.none, kwdefaults := Value.none, pyModule := Value.str (Str.ofString "cpy313.heapq") 602, code := Value.ref 180 } }) ::
   (nat_lit 182, { cls := Value.type "tuple", data := Data.seq #[] }) ::
   (nat_lit 184, { cls := Value.type "tuple", data := Data.seq #[Value.str (Str.ofString "bits") 660, Value.str (Str.ofString "foes") 661, Value.str (Str.ofString "pair") 662] }) ::
   (nat_lit 185, { cls := Value.type "tuple", data := Data.seq #[] }) ::
   (nat_lit 187, { cls := Value.type "code", data := Data.fields #[Value.str (Str.ofString "_law_foes") 657, Value.str (Str.ofString "_law_foes") 658, Value.str (Str.ofString "/claim/cut.py") 659, Value.int 152 0, Value.int 1 0, Value.int 0 0, Value.int 0 0, Value.int 3 0, Value.ref 182, Value.bool true, Value.int 276 0, Value.ref 183, Value.none, Value.ref 184, Value.ref 185, Value.ref 186, Value.int 663 0, Value.int 152 0, Value.str (Str.ofString "/claim/cut.py") 664] }) ::
   (nat_lit 188, fnAt (st 18) rfl fun n ps bd sc => { cls := Value.type "function", data := Data.func { name := n, qualname := Str.ofString "_law_foes", params := ps, body := FuncBody.stmts bd, scope := sc, globals := 3, closure := [], defaults := Value.none, kwdefaults := Value.none, pyModule := Value.str (Str.ofString "law_rx0045_01") 655, code := Value.ref 187 } }) ::
   (nat_lit 189, { cls := Value.type "tuple", data := Data.seq #[] }) ::
   (nat_lit 191, { cls := Value.type "tuple", data := Data.seq #[Value.str (Str.ofString "stack") 669, Value.str (Str.ofString "blank") 670, Value.str (Str.ofString "sign") 671] }) ::
   (nat_lit 192, { cls := Value.type "tuple", data := Data.seq #[] }) ::
   (nat_lit 194, { cls := Value.type "code", data := Data.fields #[Value.str (Str.ofString "_law_top") 666, Value.str (Str.ofString "_law_top") 667, Value.str (Str.ofString "/claim/cut.py") 668, Value.int 160 0, Value.int 1 0, Value.int 0 0, Value.int 0 0, Value.int 3 0, Value.ref 189, Value.bool true, Value.int 276 0, Value.ref 190, Value.none, Value.ref 191, Value.ref 192, Value.ref 193, Value.int 672 0, Value.int 160 0, Value.str (Str.ofString "/claim/cut.py") 673] }) ::
   (nat_lit 195, fnAt (st 19) rfl fun n ps bd sc => { cls := Value.type "function", data := Data.func { name := n, qualname := Str.ofString "_law_top", params := ps, body := FuncBody.stmts bd, scope := sc, globals := 3, closure := [], defaults := Value.none, kwdefaults := Value.none, pyModule := Value.str (Str.ofString "law_rx0045_01") 655, code := Value.ref 194 } }) ::
   (nat_lit 196, { cls := Value.type "tuple", data := Data.seq #[] }) ::
   (nat_lit 199, { cls := Value.type "code", data := Data.fields #[Value.str (Str.ofString "_law_least") 675, Value.str (Str.ofString "_law_least") 676, Value.str (Str.ofString "/claim/cut.py") 677, Value.int 165 0, Value.int 2 0, Value.int 0 0, Value.int 0 0, Value.int 3 0, Value.ref 196, Value.bool true, Value.int 276 0, Value.ref 197, Value.none, Value.none, Value.none, Value.ref 198, Value.int 678 0, Value.int 165 0, Value.str (Str.ofString "/claim/cut.py") 679] }) ::
   (nat_lit 200, fnAt (st 20) rfl fun n ps bd sc => { cls := Value.type "function", data := Data.func { name := n, qualname := Str.ofString "_law_least", params := ps, body := FuncBody.stmts bd, scope := sc, globals := 3, closure := [], defaults := Value.none, kwdefaults := Value.none, pyModule := Value.str (Str.ofString "law_rx0045_01") 655, code := Value.ref 199 } }) ::
   (nat_lit 201, { cls := Value.type "tuple", data := Data.seq #[] }) ::
   (nat_lit 204, { cls := Value.type "code", data := Data.fields #[Value.str (Str.ofString "_law_runs") 681, Value.str (Str.ofString "_law_runs") 682, Value.str (Str.ofString "/claim/cut.py") 683, Value.int 182 0, Value.int 2 0, Value.int 0 0, Value.int 0 0, Value.int 3 0, Value.ref 201, Value.bool true, Value.int 276 0, Value.ref 202, Value.none, Value.none, Value.none, Value.ref 203, Value.int 684 0, Value.int 182 0, Value.str (Str.ofString "/claim/cut.py") 685] }) ::
   (nat_lit 205, fnAt (st 21) rfl fun n ps bd sc => { cls := Value.type "function", data := Data.func { name := n, qualname := Str.ofString "_law_runs", params := ps, body := FuncBody.stmts bd, scope := sc, globals := 3, closure := [], defaults := Value.none, kwdefaults := Value.none, pyModule := Value.str (Str.ofString "law_rx0045_01") 655, code := Value.ref 204 } }) ::
   (nat_lit 206, { cls := Value.type "tuple", data := Data.seq #[] }) ::
   (nat_lit 208, { cls := Value.type "tuple", data := Data.seq #[Value.str (Str.ofString "part") 690, Value.str (Str.ofString "sign") 691] }) ::
   (nat_lit 209, { cls := Value.type "tuple", data := Data.seq #[] }) ::
   (nat_lit 211, { cls := Value.type "code", data := Data.fields #[Value.str (Str.ofString "_law_fits") 687, Value.str (Str.ofString "_law_fits") 688, Value.str (Str.ofString "/claim/cut.py") 689, Value.int 193 0, Value.int 2 0, Value.int 0 0, Value.int 0 0, Value.int 3 0, Value.ref 206, Value.bool true, Value.int 276 0, Value.ref 207, Value.none, Value.ref 208, Value.ref 209, Value.ref 210, Value.int 692 0, Value.int 193 0, Value.str (Str.ofString "/claim/cut.py") 693] }) ::
   (nat_lit 212, fnAt (st 22) rfl fun n ps bd sc => { cls := Value.type "function", data := Data.func { name := n, qualname := Str.ofString "_law_fits", params := ps, body := FuncBody.stmts bd, scope := sc, globals := 3, closure := [], defaults := Value.none, kwdefaults := Value.none, pyModule := Value.str (Str.ofString "law_rx0045_01") 655, code := Value.ref 211 } }) ::
   (nat_lit 213, { cls := Value.type "tuple", data := Data.seq #[] }) ::
   (nat_lit 216, { cls := Value.type "code", data := Data.fields #[Value.str (Str.ofString "_law_taken") 695, Value.str (Str.ofString "_law_taken") 696, Value.str (Str.ofString "/claim/cut.py") 697, Value.int 197 0, Value.int 2 0, Value.int 0 0, Value.int 0 0, Value.int 3 0, Value.ref 213, Value.bool true, Value.int 276 0, Value.ref 214, Value.none, Value.none, Value.none, Value.ref 215, Value.int 698 0, Value.int 197 0, Value.str (Str.ofString "/claim/cut.py") 699] }) ::
   (nat_lit 217, fnAt (st 23) rfl fun n ps bd sc => { cls := Value.type "function", data := Data.func { name := n, qualname := Str.ofString "_law_taken", params := ps, body := FuncBody.stmts bd, scope := sc, globals := 3, closure := [], defaults := Value.none, kwdefaults := Value.none, pyModule := Value.str (Str.ofString "law_rx0045_01") 655, code := Value.ref 216 } }) ::
   (nat_lit 218, { cls := Value.type "tuple", data := Data.seq #[] }) ::
   (nat_lit 221, { cls := Value.type "code", data := Data.fields #[Value.str (Str.ofString "law") 701, Value.str (Str.ofString "law") 702, Value.str (Str.ofString "/claim/cut.py") 703, Value.int 203 0, Value.int 1 0, Value.int 0 0, Value.int 0 0, Value.int 3 0, Value.ref 218, Value.bool true, Value.int 276 0, Value.ref 219, Value.none, Value.none, Value.none, Value.ref 220, Value.int 704 0, Value.int 203 0, Value.str (Str.ofString "/claim/cut.py") 705] }) ::
   (nat_lit 222, fnAt (st 24) rfl fun n ps bd sc => { cls := Value.type "function", data := Data.func { name := n, qualname := Str.ofString "law", params := ps, body := FuncBody.stmts bd, scope := sc, globals := 3, closure := [], defaults := Value.none, kwdefaults := Value.none, pyModule := Value.str (Str.ofString "law_rx0045_01") 655, code := Value.ref 221 } }) :: []
noncomputable def view_39 : Program := PySem.W.view PySem.Challenge.rw_rx0045_01.row.toRowW.prog [0,1,2,4,5,7,9,10,12,13,14,15,16,18,19,20,21,22,23,24]
noncomputable abbrev AS : List Addr := [2, 3, 32, 34, 35, 37, 38, 42, 43, 45, 49, 51, 52, 54, 55, 56, 58, 59, 61, 62, 63, 66, 71, 72, 73, 75, 76, 78, 79, 80, 82, 83, 85, 86, 87, 88, 90, 91, 93, 94, 95, 96, 98, 99, 101, 102, 103, 105, 106, 108, 109, 110, 112, 113, 115, 116, 117, 118, 120, 121, 123, 124, 125, 127, 128, 130, 131, 132, 133, 135, 136, 138, 139, 140, 141, 142, 143, 144, 147, 149, 150, 152, 153, 154, 156, 157, 159, 160, 161, 163, 164, 166, 167, 168, 170, 171, 173, 174, 175, 177, 178, 180, 181, 182, 184, 185, 187, 188, 189, 191, 192, 194, 195, 196, 199, 200, 201, 204, 205, 206, 208, 209, 211, 212, 213, 216, 217, 218, 221, 222]
abbrev getP {n : Str} {ps : Arguments} {bd : List Stmt} {dl : List PySem.Expr} {rt : Option PySem.Expr} {tp : List TypeParam} {sc : Scope} {x : Option Scope} {y : Str} {p : Pos} (s : Option Stmt) (_h : s = some (Stmt.FunctionDef n ps bd dl rt tp sc x y p)) : Arguments := ps
abbrev getB {n : Str} {ps : Arguments} {bd : List Stmt} {dl : List PySem.Expr} {rt : Option PySem.Expr} {tp : List TypeParam} {sc : Scope} {x : Option Scope} {y : Str} {p : Pos} (s : Option Stmt) (_h : s = some (Stmt.FunctionDef n ps bd dl rt tp sc x y p)) : List Stmt := bd
abbrev getS {n : Str} {ps : Arguments} {bd : List Stmt} {dl : List PySem.Expr} {rt : Option PySem.Expr} {tp : List TypeParam} {sc : Scope} {x : Option Scope} {y : Str} {p : Pos} (s : Option Stmt) (_h : s = some (Stmt.FunctionDef n ps bd dl rt tp sc x y p)) : Scope := sc
abbrev getQ {n : Str} {ps : Arguments} {bd : List Stmt} {dl : List PySem.Expr} {rt : Option PySem.Expr} {tp : List TypeParam} {sc : Scope} {x : Option Scope} {y : Str} {p : Pos} (s : Option Stmt) (_h : s = some (Stmt.FunctionDef n ps bd dl rt tp sc x y p)) : Pos := p
noncomputable abbrev posL : Pos := getQ (st 24) rfl
noncomputable abbrev psL : Arguments := getP (st 24) rfl
noncomputable abbrev bdL : List Stmt := getB (st 24) rfl
noncomputable abbrev scL : Scope := getS (st 24) rfl
end hd
end
section
open PySem PySem.W PyProof.Rows
open PySem.W.Fast
abbrev LOO : List Str := [Str.ofString "_twin_re_1", Str.ofString "_special_chars_map", Str.ofString "_Accumulator"]
noncomputable abbrev RW := OpenRow.toRowW PySem.Challenge.rw_rx0045_01.row
noncomputable abbrev HKK : Hook := kmHook hd.heap_39 hd.AS (fun _ => by kernel_rfl) [57]
noncomputable abbrev XTT : Shared → Bool := fun s => xlAt hd.view_39 [] s && recOk (RowW.records RW) s
noncomputable def topFast (p : Program) (w : World) (N : Nat) (s₀ : Shared) : Option Shared :=
  match s₀.heap.isNs mainGlobals && s₀.gens.size == 0 with
  | true => (tw14082659384304107361 tw14364793385576792824 p w s₀.heap.objs.size (s₀.heap.nsMap mainGlobals "__annotations__") N s₀ (topStub p)).bind fun s₁ => match staticsOk (tw5923862056798008813 p.main.body) s₀.heap s₁.heap && namesBound p s₁.heap && gensDone s₁ && laidKept s₀.heap s₁.heap with
      | true => some s₁
      | false => none
  | false => none
noncomputable def openFast (p : Program) (w : World) (N : Nat) : Option Shared :=
  ((tw10274390034422433532 tw14364793385576792824 (opening p) w N (tw1435165496053646825 (opening p)).1 (tw1435165496053646825 (opening p)).2).bind (tw14289696077712309145 p)).bind (topFast p w N)
theorem open_fast (p : Program) (w : World) (N : Nat) : openEnds treeTable p w N = openFast p w N := by
  unfold openEnds openFast fencedOpening topFast topFrom
  rw [te10274390034422433532, te14364793385576792824, te1435165496053646825, te14289696077712309145, te14082659384304107361, te5923862056798008813]
  rfl
abbrev LEFT (w : World) : Prop := (openFast PySem.Challenge.rw_rx0045_01.row.prog w 4818).map (fun s => (tw4187177175401517315 hd.view_39 LOO (tw5923862056798008813 PySem.Challenge.rw_rx0045_01.row.prog.main.body) XTT true s, HKK.obs s)) = some (openGood hd.view_39 LOO, HKK.val w)
theorem left00 (w : World) : LEFT ((w.withFollow "comprehension-iter-twice" false).withFollow "special-get-raises" false) := by unfold LEFT; kernel_rfl
theorem left01 (w : World) : LEFT ((w.withFollow "comprehension-iter-twice" false).withFollow "special-get-raises" true) := by unfold LEFT; kernel_rfl
theorem left10 (w : World) : LEFT ((w.withFollow "comprehension-iter-twice" true).withFollow "special-get-raises" false) := by unfold LEFT; kernel_rfl
theorem left11 (w : World) : LEFT ((w.withFollow "comprehension-iter-twice" true).withFollow "special-get-raises" true) := by unfold LEFT; kernel_rfl
theorem left (w : World) : LEFT w :=
  byRow2 "special-get-raises" (P := LEFT) (byRow2 "comprehension-iter-twice" (P := fun w => LEFT (w.withFollow "special-get-raises" false)) left00 left10) (byRow2 "comprehension-iter-twice" (P := fun w => LEFT (w.withFollow "special-get-raises" true)) left01 left11) w
theorem left_ok : LeftO PySem.Challenge.rw_rx0045_01.row.prog hd.view_39 LOO XTT HKK.obs HKK.val 4818 := fun w => by
  rw [open_fast, te4187177175401517315, te5923862056798008813]
  exact left w
end
section
open PySem PySem.W PyProof.Rows
abbrev WalkX {n : Str} {ps : Arguments} {bd : List Stmt} {dl : List PySem.Expr} {rt : Option PySem.Expr} {tp : List TypeParam} {sc : Scope} {x : Option Scope} {y : Str} {p : Pos} (s : Option Stmt) (_h : s = some (Stmt.FunctionDef n ps bd dl rt tp sc x y p)) : Prop :=
  WalkO hd.view_39 [Str.ofString "_twin_re_1", Str.ofString "_special_chars_map", Str.ofString "_Accumulator"] (XL hd.view_39 []) (kmHook hd.heap_39 [2, 3, 32, 34, 35, 37, 38, 42, 43, 45, 49, 51, 52, 54, 55, 56, 58, 59, 61, 62, 63, 66, 71, 72, 73, 75, 76, 78, 79, 80, 82, 83, 85, 86, 87, 88, 90, 91, 93, 94, 95, 96, 98, 99, 101, 102, 103, 105, 106, 108, 109, 110, 112, 113, 115, 116, 117, 118, 120, 121, 123, 124, 125, 127, 128, 130, 131, 132, 133, 135, 136, 138, 139, 140, 141, 142, 143, 144, 147, 149, 150, 152, 153, 154, 156, 157, 159, 160, 161, 163, 164, 166, 167, 168, 170, 171, 173, 174, 175, 177, 178, 180, 181, 182, 184, 185, 187, 188, 189, 191, 192, 194, 195, 196, 199, 200, 201, 204, 205, 206, 208, 209, 211, 212, 213, 216, 217, 218, 221, 222] (fun _ => by kernel_rfl) [57]).says PySem.Challenge.rw_rx0045_01.row.toRowW { name := n, params := ps, body := bd, scope := sc, pos := p } [] fun f vs => call f vs
theorem hd (walk : WalkX (hd.st 24) rfl) : PySem.Challenge.rw_rx0045_01.Holds := by
  w_on
  refine holds_law (by decide +kernel) fun said => ?_
  refine holds_open (q := hd.view_39) (loose := LOO) (Xt := XTT) (XP := XL hd.view_39 []) (Yf := Hook.obs HKK) (Ya := Hook.val HKK) (YP := Hook.says HKK) (N := 4818) left_ok (Hook.of HKK) (Hook.keeps HKK) (fun s e => xl_of s (Bool.and_eq_true_iff.mp e).1) XL.keeps (by rfl) (by rfl) (by rfl) (fun s e => recFacts_of (Bool.and_eq_true_iff.mp e).2) (by rfl) (by first | assumption | decide +kernel) (by decide +kernel) ⟨rfl, rfl, rfl, rfl, rfl, by decide +kernel⟩ ?hw walk
  w_witness2
  w_top off
end
section
open PySem PySem.W PyProof.Rows PySem.Spec PySem.Calls
noncomputable abbrev PRG : Program := PySem.Challenge.rw_rx0045_01.row.prog
noncomputable abbrev VW : Program := topProg
noncomputable abbrev LS0 : List Str := looseW hd.view_39 [Str.ofString "_twin_re_1", Str.ofString "_special_chars_map", Str.ofString "_Accumulator"]
noncomputable abbrev LS : List Str := LS0 ++ List.map (fun x => x.name) (recsOf hd.view_39) ++ List.map (fun x => x.fst) (litsOf hd.view_39) ++ List.map (fun x => x.name) (clssOf hd.view_39 LS0)
noncomputable abbrev KH (w : World) : Frag := hd.heap_39 w.params
/-- a call of the def at f, with values vs, from a ledger, by what it hands back -/
noncomputable abbrev CallS (w : World) (f : Addr) (d u : Nat) (news : List (Addr × Obj)) (vs : List Value)
    (Ret : (mean : Nat) → Heap → Addr → (Str → Option Value) → Shared → (Value → Shared → Prop) → Prop) : Prop :=
  ∀ (mean : ExcName → Option Value) (mg mb : Str → Option Value) (dp un : Nat) (gd : Option (List Code)) (cn : Str) (cs : Scope) (a : Addr) (ccd : Value) (cl : List (Str × Addr)) (outer : List Env) (A₀ : Around) (base h₀ : Heap) (L : Addr) (m : Str → Option Value) (s : Shared)
    (Q E : Value → Shared → Prop),
    Below A₀ base outer h₀ → Fr h₀ L s.heap m → (hd.heap_39 w.params).In h₀ → News h₀ L s.heap news → Top VW LS mean mg mb h₀ → cs.kind = .function → dp + d < recursionLimit → un + u < cLine →
    Ret 0 h₀ L m s Q →
    wpAny (model PySem.Challenge.rw_rx0045_01.row.prog w) (ktrTop dp un gd cn cs L a ccd cl outer) (call (.ref f) vs) Q E s
theorem om0 {a d r : Nat} (h : a + d < r) : a < r := Nat.lt_of_le_of_lt (Nat.le_add_right a d) h
theorem om1 {a c d r : Nat} (h : a + d < r) (e : Nat.ble c d = true) : a + c < r := Nat.lt_of_le_of_lt (Nat.add_le_add_left (Nat.le_of_ble_eq_true e) a) h
theorem om2 {a b c d r : Nat} (h : a + d < r) (e : Nat.ble (b + c) d = true) : a + b + c < r := by rw [Nat.add_assoc]; exact om1 h e
theorem om3 {a b : Nat} (e : Nat.ble (a + 1) b = true) : a < b := Nat.le_of_ble_eq_true e
end
section
open PySem PySem.W PyProof.Rows PySem.Spec PySem.Calls
/-- what stands still in the callee's ground -/
structure Frz (h₀ : Heap) (L : Addr) (g : Heap) (rest : List (Addr × Obj)) : Prop where
  n : News h₀ L g rest
theorem Frz.sep {h₀ g h : Heap} {L L' a : Addr} {o : Obj} {rest news : List (Addr × Obj)} (R : Frz h₀ L g rest) (N : News g L' h news) (hm : (a, o) ∈ news) : ∀ p ∈ rest, p.1 ≠ a := fun p hp e => by
  have h1 := (R.n p hp).1
  have h2 := (N _ hm).2.2
  rw [e] at h1
  rw [h1] at h2; cases h2
theorem news_app {h₀ h : Heap} {L : Addr} {a b : List (Addr × Obj)} (N : News h₀ L h a) (N' : News h₀ L h b) : News h₀ L h (a ++ b) := fun p hp => (List.mem_append.mp hp).elim (N p) (N' p)
section
variable {h₀ g h₁ : Heap} {L L' : Addr} {m m₁ : Str → Option Value} {live rest : List (Addr × Obj)}
theorem cut_get {h : Heap} {n b : Nat} {o : Obj} (hb : b < n) : (⟨h.objs.extract 0 n, h.life⟩ : Heap).get? b = some o ↔ h.get? b = some o := by
  unfold Heap.get?
  have : (h.objs.extract 0 n)[b]? = h.objs[b]? := by
    rw [Array.getElem?_extract]
    split
    · rw [Nat.zero_add]
    · rename_i hh
      rw [Array.getElem?_eq_none]
      omega
  dsimp only
  rw [this]
theorem cut_of {h : Heap} {n b : Nat} {o : Obj} (e : (⟨h.objs.extract 0 n, h.life⟩ : Heap).get? b = some o) : h.get? b = some o := by
  have h1 : b < (h.objs.extract 0 n).size := Heap.lt_size e
  rw [Array.size_extract, Nat.sub_zero] at h1
  exact (cut_get (Nat.lt_of_lt_of_le h1 (Nat.min_le_left _ _))).mp e
theorem frz_get {h : Heap} {n b : Nat} {o : Obj} {as : List Addr} (hb : b < n) (hn : b ∉ as) (e : h.get? b = some o) : (hideAll ⟨h.objs.extract 0 n, h.life⟩ as).get? b = some o :=
  hideAll_get as ((cut_get hb).mpr e) hn
theorem frz_of {h : Heap} {n b : Nat} {o : Obj} {as : List Addr} (e : (hideAll ⟨h.objs.extract 0 n, h.life⟩ as).get? b = some o) : h.get? b = some o := cut_of (of_hideAll as e)
/-- what the callee is not handed is still as it was behind the call -/
theorem freeze (FG : Fr h₀ L g m) (F : Fr g L' h₁ m₁) (N : News g L' h₁ live) (NR : News g L' h₁ rest) (NR0 : ∀ p ∈ rest, p.1 ≠ L ∧ h₀.get? p.1 = none) (hlt : ∀ p ∈ rest, p.1 < L') (dj : ∀ p ∈ rest, ∀ q ∈ live, p.1 ≠ q.1) :
    ∃ g₂, Fr h₀ L g₂ m ∧ Fr g₂ L' h₁ m₁ ∧ News g₂ L' h₁ live ∧ (∀ b o, g.get? b = some o → g₂.get? b = some o) ∧ News h₀ L g₂ rest ∧
      ∀ (R : Result → Shared → Prop) v s', LeaveK h₀ L m g₂ (fun r s' => News h₀ L s'.heap rest → R r s') v s' → LeaveK h₀ L m g R v s' := by
  have hL' : L' < h₁.objs.size := F.ns.lt
  have gg : ∀ b o, g.get? b = some o → (hideAll ⟨h₁.objs.extract 0 L', h₁.life⟩ (live.map (·.1))).get? b = some o := fun b o e =>
    frz_get (Nat.lt_of_lt_of_le (Heap.lt_size e) F.above) (fun q => by
      obtain ⟨p, hp, rfl⟩ := List.mem_map.mp q
      rw [(N p hp).2.2] at e; cases e) (F.keep b o e)
  have hr : ∀ p ∈ rest, (hideAll ⟨h₁.objs.extract 0 L', h₁.life⟩ (live.map (·.1))).get? p.1 = some p.2 := fun p hp =>
    frz_get (hlt p hp) (fun q => by
      obtain ⟨r, hr, e⟩ := List.mem_map.mp q
      exact dj p hp r hr e.symm) (NR p hp).1
  have hsz : (hideAll ⟨h₁.objs.extract 0 L', h₁.life⟩ (live.map (·.1))).objs.size = L' := by
    rw [hideAll_size]
    show (h₁.objs.extract 0 L').size = L'
    rw [Array.size_extract, Nat.sub_zero]
    exact Nat.min_eq_left (Nat.le_of_lt hL')
  refine ⟨hideAll ⟨h₁.objs.extract 0 L', h₁.life⟩ (live.map (·.1)), ⟨?_, fun b o e => gg b o (FG.keep b o e), FG.above⟩, ⟨F.ns, fun b o e => frz_of e, Nat.le_of_eq hsz⟩, fun p hp => ⟨(N p hp).1, (N p hp).2.1, hideAll_none _ (List.mem_map_of_mem hp)⟩, gg, fun p hp => ⟨hr p hp, NR0 p hp⟩, ?_⟩
  · obtain ⟨oL, es, ep, hL, r⟩ := FG.ns
    exact ⟨oL, es, ep, gg _ _ hL, r⟩
  · rintro R v s' ⟨L2, m2, news2, F2, N2, k⟩
    have hL2 : L' ≤ L2 := hsz ▸ F2.above
    refine ⟨L2, m2, news2 ++ rest, ⟨F2.ns, fun b o e => F2.keep b o (gg b o e), Nat.le_trans F.above hL2⟩, ?_, fun Fh Nh => k Fh (fun p hp => Nh p (List.mem_append_left _ hp)) (fun p hp => Nh p (List.mem_append_right _ hp))⟩
    intro p hp
    rcases List.mem_append.mp hp with hp | hp
    · refine ⟨(N2 p hp).1, (N2 p hp).2.1, ?_⟩
      cases q : g.get? p.1 with
      | none => rfl
      | some o => have := (N2 p hp).2.2; rw [gg _ _ q] at this; cases this
    · exact ⟨F2.keep _ _ (hr p hp), Nat.ne_of_lt (Nat.lt_of_lt_of_le (hlt p hp) hL2), (NR p hp).2.2⟩
end
section
variable {prog : Program} {w : World} {A A₀ : Around} {s : Shared} {K : Frag} {L : Addr} {h₀ base : Heap} {m mg mb : Str → Option Value} {news rest : List (Addr × Obj)} {p : Program} {loose : List Str} {mean : ExcName → Option Value}
theorem below_keep {base g g₂ : Heap} {A : Around} {l : List Env} (B : Below A base l g) (k : ∀ b o, g.get? b = some o → g₂.get? b = some o) : Below A base l g₂ :=
  ⟨B.stack, fun b o e => k b o (B.stays b o e), B.frames.of_keeps fun b o e _ => ⟨o, k b o e, rfl⟩⟩
theorem code_defR {env : Env} {outer : List Env} {R : Result → Shared → Prop} {name qual : Str} {params : Arguments} {body : List Stmt} {scope : Scope} {dV kV doc pm cdv ct oc : Value} {an od : Option Addr} {osl : Array (Option Value)} {f : Addr} {args : Args} {binds : List (Str × Value)}
    (B : Below A₀ base outer h₀) (F : Fr h₀ L s.heap m) (X₀ : K.In h₀) (N : News h₀ L s.heap (news ++ rest)) (dj : ∀ p ∈ rest, ∀ q ∈ news, p.1 ≠ q.1) (T : Top p loose mean mg mb h₀) (hA : A.frames = some (env :: outer)) (hf : env.frame = some L) (hke : env.scope.kind = .function)
    (ho : K.lookup f = some ⟨oc, od, .func (fnOf name qual params body scope dV kV doc pm an cdv ct), osl⟩) (hcd : codeIn K cdv qual = true) (hroom : A.depth < recursionLimit)
    (hbind : BindsTo s (fnOf name qual params body scope dV kV doc pm an cdv ct) args binds) (hloc : ∀ y ∈ binds, scope.names.lookup y.1 = some .local)
    (h : ∀ g L' h₁, Fr h₀ L g m → Fr g L' h₁ (fun y => binds.reverse.lookup y) → News g L' h₁ news → Frz h₀ L g rest → Below A base (env :: outer) g → K.In g → Top p loose mean mg mb g →
      wpAny (model prog w) (A.deeper (envOf qual scope L' f cdv)) (execs body (envOf qual scope L' f cdv))
        (fun fl s' => LeaveK h₀ L m g (fun r s' => News h₀ L s'.heap rest → R r s') (match fl with | .ret v => v | _ => .none) s')
        (fun e s' => wpAny (model prog w) (A.deeper (envOf qual scope L' f cdv)) (leaving (envOf qual scope L' f cdv) e) (fun _ s'' => R (.error e) s'') (fun e' s'' => R (.error e') s'') s')
        { s with heap := h₁, toks := s.toks + binds.length })
    (hco : scope.isCoroutine = false) (hgen : scope.isGenerator = false) (hk : scope.kind = .function)
    (hcell : ∀ x ∈ scope.names, x.2 ≠ .cell) : codeAny (model prog w) A (.call (.ref f) args) R s := by
  refine callX_plain (cl := []) B F N T.nolimit hA hf hke ((X₀.keeps F.keep) _ _ ho) rfl (codeRec_of (X₀.keeps F.keep) hcd) hroom hbind hloc (fun g L' h₁ FG F' N' B' st lt => ?_) hcell hco hgen hk
  obtain ⟨g₂, FG2, F2, N2, k, NR, lv⟩ := freeze FG F' (fun p hp => N' p (List.mem_append_left _ hp)) (fun p hp => N' p (List.mem_append_right _ hp)) (fun p hp => (N p (List.mem_append_right _ hp)).2) (fun p hp => lt p (List.mem_append_right _ hp)) dj
  exact wpAny_mono (h g₂ L' h₁ FG2 F2 N2 ⟨NR⟩ (below_keep B' k) (X₀.keeps fun b o e => k b o (st b o e)) (T.keeps fun b o e => k b o (st b o e))) (fun fl s' hl => lv _ _ _ hl) fun _ _ y => y
theorem code_defCR {env : Env} {outer : List Env} {R : Result → Shared → Prop} {name qual : Str} {params : Arguments} {body : List Stmt} {scope : Scope} {dV kV doc pm cdv ct oc : Value} {an od : Option Addr} {osl : Array (Option Value)} {f : Addr} {args : Args} {binds : List (Str × Value)}
    (B : Below A₀ base outer h₀) (F : Fr h₀ L s.heap m) (X₀ : K.In h₀) (N : News h₀ L s.heap (news ++ rest)) (dj : ∀ p ∈ rest, ∀ q ∈ news, p.1 ≠ q.1) (T : Top p loose mean mg mb h₀) (hA : A.frames = some (env :: outer)) (hf : env.frame = some L) (hke : env.scope.kind = .function)
    (ho : K.lookup f = some ⟨oc, od, .func (fnOf name qual params body scope dV kV doc pm an cdv ct), osl⟩) (hcd : codeIn K cdv qual = true) (hroom : A.depth < recursionLimit)
    (hbind : BindsTo s (fnOf name qual params body scope dV kV doc pm an cdv ct) args binds) (hkind : (binds.all fun y => scope.names.lookup y.1 == some .local || scope.names.lookup y.1 == some .cell) = true)
    (hnd : ((cellsFrom 0 scope.names []).map (·.1)).Nodup)
    (h : ∀ g L' h₁ tk cells, Fr h₀ L g m → Fr g L' h₁ (bindL (envOfC qual scope L' f cdv).kindOf binds fun _ => none) → News g L' h₁ (cells ++ news) → Frz h₀ L g rest →
      CellsAre (bindC (envOfC qual scope L' f cdv).kindOf binds fun _ => none) (cellsFrom (L' + 1) scope.names []) cells → Below A base (env :: outer) g → K.In g → Top p loose mean mg mb g → (∀ p ∈ news, p.1 < L') →
      wpAny (model prog w) (A.deeper (envOfC qual scope L' f cdv)) (execs body (envOfC qual scope L' f cdv))
        (fun fl s' => LeaveK h₀ L m g (fun r s' => News h₀ L s'.heap rest → R r s') (match fl with | .ret v => v | _ => .none) s')
        (fun e s' => wpAny (model prog w) (A.deeper (envOfC qual scope L' f cdv)) (leaving (envOfC qual scope L' f cdv) e) (fun _ s'' => R (.error e) s'') (fun e' s'' => R (.error e') s'') s')
        { s with heap := h₁, toks := tk })
    (hco : scope.isCoroutine = false) (hgen : scope.isGenerator = false) (hk : scope.kind = .function)
    (hcl : ∀ n cells, CellsAre (bindC (envOfC qual scope n f cdv).kindOf binds fun _ => none) (cellsFrom (n + 1) scope.names []) cells → ∀ q ∈ cells, n < q.1) : codeAny (model prog w) A (.call (.ref f) args) R s := by
  refine code_defC B F X₀ N T hA hf hke ho hcd hroom hbind hkind hnd (fun g L' h₁ tk cells FG F' N' Y B' X' T' lt => ?_) hco hgen hk
  have hcn := hcl L' cells Y
  obtain ⟨g₂, FG2, F2, N2, k, NR, lv⟩ := freeze (live := cells ++ news) (rest := rest) FG F' (fun p hp => N' p (by
      rcases List.mem_append.mp hp with hp | hp
      · exact List.mem_append_left _ hp
      · exact List.mem_append_right _ (List.mem_append_left _ hp))) (fun p hp => N' p (List.mem_append_right _ (List.mem_append_right _ hp))) (fun p hp => (N p (List.mem_append_right _ hp)).2) (fun p hp => lt p (List.mem_append_right _ hp)) (fun p hp q hq => by
      rcases List.mem_append.mp hq with hq | hq
      · have h1 := lt p (List.mem_append_right _ hp)
        have h2 := hcn q hq
        exact Nat.ne_of_lt (Nat.lt_trans h1 h2)
      · exact dj p hp q hq)
  exact wpAny_mono (h g₂ L' h₁ tk cells FG2 F2 N2 ⟨NR⟩ Y (below_keep B' k) (X'.keeps k) (T'.keeps k) (fun p hp => lt p (List.mem_append_left _ hp))) (fun fl s' hl => lv _ _ _ hl) fun _ _ y => y
end
end
section
open PySem PySem.W PyProof.Rows PySem.Spec PySem.Calls
open Builtin
abbrev accObj (dx : Addr) (its : Array Value) (n : Nat) : Obj := { cls := .ref 142, dict := some dx, data := .seq its n }
section
variable {w : World} {A : Around} {R : Result → Shared → Prop} {h : Heap} {g : Array GenState} {d : Drawn} {t : Nat} {os : OsState}
theorem ln_kind : builtinKind "list.__new__" = some .builtinFn := by decide +kernel
theorem ln_split : splitId "list.__new__" = some ("list", "__new__") := by decide +kernel
theorem acc_new (X : (hd.heap_39 w.params).In h)
    (hq : R (.ok (.ret (.ref (h.objs.size + 1)))) ⟨(h.push emptyDict).push (accObj h.objs.size #[] 0), g, d, t, os⟩) :
    codeAny (model PySem.Challenge.rw_rx0045_01.row.prog w) A (.call (.builtin "list.__new__") ⟨[.ref 142], []⟩) R ⟨h, g, d, t, os⟩ := by
  let K := hd.heap_39 w.params
  have cls : Looks (model PySem.Challenge.rw_rx0045_01.row.prog w) h (classData 142) _ := looks_clsIn X (C := 142) rfl
  have sub : Looks (model PySem.Challenge.rw_rx0045_01.row.prog w) h (isSubtype (.ref 142) (.type "list")) true := looks_mroIn X rfl
  have C0 := X 142 _ rfl
  have mro : Looks (model PySem.Challenge.rw_rx0045_01.row.prog w) h (mroOf (.ref 142)) [Value.ref 142, Value.type "list", Value.type "object"] := cls.andThen .now
  have made : Looks (model PySem.Challenge.rw_rx0045_01.row.prog w) h (Bind.madeBy (.ref 142)) (some "list.__new__") := by
    intro A Q E s k q
    unfold Bind.madeBy
    refine wpAny_bind (mro A _ E s k ?_)
    rw [List.forIn_cons]
    refine wpAny_bind (wpAny_bind (wpAny_bind (wpAny_bind (wpAny_loadPart (k _ _ C0) (wpAny_pure ?_)))))
    exact wpAny_pure (wpAny_pure (wpAny_pure q))
  have base : Looks (model PySem.Challenge.rw_rx0045_01.row.prog w) h (Bind.staticBase (.ref 142)) (.ref 142) := by
    intro A Q E s k q
    unfold Bind.staticBase
    refine wpAny_bind (mro A _ E s k ?_)
    rw [List.forIn_cons]
    exact wpAny_bind (wpAny_bind (wpAny_bind (made A _ E s k (wpAny_pure (wpAny_pure (wpAny_pure q))))))
  have typ : Looks (model PySem.Challenge.rw_rx0045_01.row.prog w) h (isType (.ref 142)) true := (Looks.ld C0).andThen .now
  refine codeAny_call_builtin_code (Code.quiet_builtin _ (by decide +kernel)) ?_
  simp only [checkBuiltinCall, ln_kind, ln_split]
  repeat (first | lk | simp only [beq_self_eq_true, Bool.not_true, Bool.false_eq_true, if_false, if_true, bne_self_eq_false])
  refine codeAny_builtin_stack F.entry_list_new rfl fun p st => ?_
  rw [Around.under_plainId F.plain_list_new _]
  have hown := owner_list_new
  simp only [hown]
  have hC' : ((h.push { cls := Value.type "dict", data := Data.dict #[] }).push { cls := Value.ref 142, dict := some h.objs.size, data := Data.seq #[] }).get? 142 = _ := Heap.get?_push_of_some _ (Heap.get?_push_of_some _ C0)
  repeat (first | lk | simp only [Bool.not_true, Bool.false_eq_true, if_false])
  rw [Heap.size_push]
  exact hq
theorem acc_make (X : (hd.heap_39 w.params).In h)
    (hq : codeAny (model PySem.Challenge.rw_rx0045_01.row.prog w) (A.under (.builtin "type.__call__" ⟨[.ref 142], []⟩)) (.call (.ref 79) ⟨[.ref (h.objs.size + 1)], []⟩) (InitBack (h.objs.size + 1) R) ⟨(h.push emptyDict).push (accObj h.objs.size #[] 0), g, d, t, os⟩) :
    codeAny (model PySem.Challenge.rw_rx0045_01.row.prog w) A (.call (.ref 142) ⟨[], []⟩) R ⟨h, g, d, t, os⟩ := by
  have C0 := X 142 _ rfl
  have I0 := X 79 _ rfl
  have cls : Looks (model PySem.Challenge.rw_rx0045_01.row.prog w) h (classData 142) _ := looks_clsIn X (C := 142) rfl
  have mro : Looks (model PySem.Challenge.rw_rx0045_01.row.prog w) h (mroOf (.ref 142)) [Value.ref 142, Value.type "list", Value.type "object"] := cls.andThen .now
  have call : Looks (model PySem.Challenge.rw_rx0045_01.row.prog w) h (specialOf (.ref 142) "__call__") (some (.builtin "type.__call__")) := looks_specialIn X (v := .ref 142) (name := "__call__") (by rfl)
  have typ : Looks (model PySem.Challenge.rw_rx0045_01.row.prog w) h (isInstance (.ref 142) (.type "type")) true := looks_instIn X (v := .ref 142) (base := .type "type") (by rfl)
  have made : Looks (model PySem.Challenge.rw_rx0045_01.row.prog w) h (Bind.madeBy (.ref 142)) (some "list.__new__") := by
    intro A Q E s k q
    unfold Bind.madeBy
    refine wpAny_bind (mro A _ E s k ?_)
    rw [List.forIn_cons]
    refine wpAny_bind (wpAny_bind (wpAny_bind (wpAny_bind (wpAny_loadPart (k _ _ C0) (wpAny_pure ?_)))))
    exact wpAny_pure (wpAny_pure (wpAny_pure q))
  refine codeAny_of_tree ?_
  show wpAny _ _ (callAny (.ref 142) _) _ _ _
  refine nd_load C0 ?_
  show wpAny _ _ (callAny.viaDunder (.ref 142) _) _ _ _
  unfold callAny.viaDunder
  refine wpAny_bind (call.at ?_)
  dsimp only
  rw [tc_bind]
  refine wpAny_bind (wpAny_pure (wpAny_bind (wpAny_pure ?_)))
  refine wpAny_pure (a := Fin.again (.call (.builtin "type.__call__") ⟨[.ref 142], []⟩)) (And.intro rfl ?_)
  refine codeAny_call_builtin_at (Code.quiet_builtin _ (by decide +kernel)) entry_typeCall (check_slot tc_kind tc_split typ (tc_args _ _ _) ?_)
  unfold Builtin.«type.__call__»
  repeat (first | with_reducible refine wpAny_call ?_ | lk | simp only [Bool.false_eq_true, if_false, List.isEmpty_cons])
  refine acc_new X ?_
  have k : ∀ b o, h.get? b = some o → ((h.push emptyDict).push (accObj h.objs.size #[] 0)).get? b = some o := fun b o e => Heap.get?_push_of_some _ (Heap.get?_push_of_some _ e)
  have hx : ((h.push emptyDict).push (accObj h.objs.size #[] 0)).get? (h.objs.size + 1) = some (accObj h.objs.size #[] 0) := by heap_get
  have t1 : Looks (model PySem.Challenge.rw_rx0045_01.row.prog w) ((h.push emptyDict).push (accObj h.objs.size #[] 0)) (typeOf (.ref (h.objs.size + 1))) (.ref 142) := (Looks.ld hx).andThen .now
  have X' := X.keeps k
  have s1 : Looks (model PySem.Challenge.rw_rx0045_01.row.prog w) ((h.push emptyDict).push (accObj h.objs.size #[] 0)) (isSubtype (.ref 142) (.ref 142)) true := looks_mroIn X' (by rfl)
  have i1 : Looks (model PySem.Challenge.rw_rx0045_01.row.prog w) ((h.push emptyDict).push (accObj h.objs.size #[] 0)) (typeLookup (.ref 142) "__init__") (some (.ref 79)) := looks_findIn X' (by rfl)
  have b1 := bind_fn (M := model PySem.Challenge.rw_rx0045_01.row.prog w) X' (f := 79) (.ref (h.objs.size + 1)) (by rfl)
  unfold isInstance callSpecial? specialOf
  repeat (first | with_reducible refine wpAny_call ?_ | lk | simp only [Bool.not_true, Bool.false_eq_true, if_false])
  refine codeAny_mono hq fun r s' z => ?_
  rcases r with e | (v | _ | _ | _) <;> first | exact z | exact z.elim | skip
  obtain ⟨rfl, z⟩ := z
  exact wpAny_pure (wpAny_pure z)
end
end
section
open PySem PySem.W PyProof.Rows PySem.Spec PySem.Calls
open Builtin
theorem slot_wd_get : Slot "wrapper_descriptor" "__get__" "wrapper_descriptor.__get__" := .of (owner := "wrapper_descriptor") (n := "__get__") (by rw [typeLookup_type, builtinLookup_eq_fast]; kernel_rfl) (by decide +kernel) (by decide +kernel) (by decide +kernel)
  (by first | exact .inl (by decide +kernel) | exact .inr (by decide +kernel)) (by rw [isSubtype_type]; kernel_rfl)
theorem entry_wd_get : entryFor table "wrapper_descriptor.__get__" = some Builtin.«wrapper_descriptor.__get__» := entryFor_of_tree (by kernel_rfl)
theorem args_wd_get (a b c : Value) : argsOk "wrapper_descriptor.__get__" ⟨[a, b, c], []⟩ := by unfold argsOk; kernel_rfl
theorem slot_md_get : Slot "method_descriptor" "__get__" "method_descriptor.__get__" := .of (owner := "method_descriptor") (n := "__get__") (by rw [typeLookup_type, builtinLookup_eq_fast]; kernel_rfl) (by decide +kernel) (by decide +kernel) (by decide +kernel)
  (by first | exact .inl (by decide +kernel) | exact .inr (by decide +kernel)) (by rw [isSubtype_type]; kernel_rfl)
theorem entry_md_get : entryFor table "method_descriptor.__get__" = some Builtin.«method_descriptor.__get__» := entryFor_of_tree (by kernel_rfl)
theorem args_md_get (a b c : Value) : argsOk "method_descriptor.__get__" ⟨[a, b, c], []⟩ := by unfold argsOk; kernel_rfl
theorem type_li : typeOf (.builtin "list.__init__") = pure (.type "wrapper_descriptor") := by show builtinType _ = _; rw [builtinType_eq_fast]; kernel_rfl
theorem type_ll : typeOf (.builtin "list.__len__") = pure (.type "wrapper_descriptor") := by show builtinType _ = _; rw [builtinType_eq_fast]; kernel_rfl
theorem type_lp : typeOf (.builtin "list.pop") = pure (.type "method_descriptor") := by show builtinType _ = _; rw [builtinType_eq_fast]; kernel_rfl
section
variable {w : World} {A : Around} {R : Result → Shared → Prop} {h : Heap} {g : Array GenState} {d : Drawn} {t : Nat} {os : OsState} {E : Value → Shared → Prop}
theorem wd_get_li {x dx : Addr} {its : Array Value} {n : Nat} {Q : Value → Shared → Prop} (X : (hd.heap_39 w.params).In h) (hx : h.get? x = some (accObj dx its n))
   (hq : Q (.ref h.objs.size) ⟨h.push { cls := .type "method-wrapper", data := .fields #[.builtin "list.__init__", .ref x] }, g, d, t, os⟩) :
   wpAny (model PySem.Challenge.rw_rx0045_01.row.prog w) A (call (.builtin "wrapper_descriptor.__get__") [.builtin "list.__init__", .ref x, .ref 142]) Q E ⟨h, g, d, t, os⟩ := by
  have T : (⟨h, g, d, t, os⟩ : Shared).TypeIs (.builtin "list.__init__") "wrapper_descriptor" := type_li
  refine wpAny_call_entry slot_wd_get T entry_wd_get ?_ (args_wd_get _ _ _)
  have t1 : Looks (model PySem.Challenge.rw_rx0045_01.row.prog w) h (typeOf (.ref x)) (.ref 142) := (Looks.ld hx).andThen .now
  have C0 := X 142 _ rfl
  unfold Builtin.«wrapper_descriptor.__get__»
  repeat (first | lk | simp only [Bool.not_true, Bool.false_eq_true, if_false])
  exact ⟨_, rfl, hq⟩
theorem wd_get_ll {x dx : Addr} {its : Array Value} {n : Nat} {Q : Value → Shared → Prop} (X : (hd.heap_39 w.params).In h) (hx : h.get? x = some (accObj dx its n))
   (hq : Q (.ref h.objs.size) ⟨h.push { cls := .type "method-wrapper", data := .fields #[.builtin "list.__len__", .ref x] }, g, d, t, os⟩) :
   wpAny (model PySem.Challenge.rw_rx0045_01.row.prog w) A (call (.builtin "wrapper_descriptor.__get__") [.builtin "list.__len__", .ref x, .ref 142]) Q E ⟨h, g, d, t, os⟩ := by
  have T : (⟨h, g, d, t, os⟩ : Shared).TypeIs (.builtin "list.__len__") "wrapper_descriptor" := type_ll
  refine wpAny_call_entry slot_wd_get T entry_wd_get ?_ (args_wd_get _ _ _)
  have t1 : Looks (model PySem.Challenge.rw_rx0045_01.row.prog w) h (typeOf (.ref x)) (.ref 142) := (Looks.ld hx).andThen .now
  have C0 := X 142 _ rfl
  unfold Builtin.«wrapper_descriptor.__get__»
  repeat (first | lk | simp only [Bool.not_true, Bool.false_eq_true, if_false])
  exact ⟨_, rfl, hq⟩
theorem md_get_lp {x dx : Addr} {its : Array Value} {n : Nat} {Q : Value → Shared → Prop} (X : (hd.heap_39 w.params).In h) (hx : h.get? x = some (accObj dx its n))
   (hq : Q (.ref h.objs.size) ⟨h.push { cls := .type "builtin_function_or_method", data := .fields #[.builtin "list.pop", .ref x] }, g, d, t, os⟩) :
   wpAny (model PySem.Challenge.rw_rx0045_01.row.prog w) A (call (.builtin "method_descriptor.__get__") [.builtin "list.pop", .ref x, .ref 142]) Q E ⟨h, g, d, t, os⟩ := by
  have T : (⟨h, g, d, t, os⟩ : Shared).TypeIs (.builtin "list.pop") "method_descriptor" := type_lp
  refine wpAny_call_entry slot_md_get T entry_md_get ?_ (args_md_get _ _ _)
  have t1 : Looks (model PySem.Challenge.rw_rx0045_01.row.prog w) h (typeOf (.ref x)) (.ref 142) := (Looks.ld hx).andThen .now
  have C0 := X 142 _ rfl
  unfold Builtin.«method_descriptor.__get__»
  repeat (first | lk | simp only [Bool.not_true, Bool.false_eq_true, if_false])
  exact ⟨_, rfl, hq⟩
theorem mapSeq_acc (f : Array Value → Array Value) (dx : Addr) (its : Array Value) (n : Nat) : Obj.mapSeq f (accObj dx its n) = accObj dx (f its) (if (f its).size == its.size then n else n + 1) := rfl
theorem acc_append_core {x dx : Addr} {its : Array Value} {n : Nat} {v : Value} {Q : Value → Shared → Prop} (X : (hd.heap_39 w.params).In h) (hx : h.get? x = some (accObj dx its n)) (hz : its.size ≤ 100)
   (hq : Q .none ⟨h.update x (Obj.mapSeq (·.push v)), g, d, t, os⟩) :
   wpAny (model PySem.Challenge.rw_rx0045_01.row.prog w) A (call (.builtin "list.append") [.ref x, v]) Q E ⟨h, g, d, t, os⟩ := by
  have t1 : Looks (model PySem.Challenge.rw_rx0045_01.row.prog w) h (typeOf (.ref x)) (.ref 142) := (Looks.ld hx).andThen .now
  have C0 := X 142 _ rfl
  have k1 : builtinKind "list.append" = some .method := by decide +kernel
  have k2 : splitId "list.append" = some ("list", "append") := by decide +kernel
  refine wpAny_call (codeAny_call_builtin slot_list_append.plain entry_list_append ?_)
  simp only [checkBuiltinCall, k1, k2]
  repeat (first | with_reducible refine wpAny_updateSeq hx rfl ?_ (by rw [sizeLine_eq]; omega) (by rw [sizeLine_eq, Array.size_push]; omega) | lk | simp only [Bool.not_true, Bool.false_eq_true, if_false])
  exact hq
theorem erase_last (ys : List Value) (v : Value) : (ys ++ [v]).toArray.eraseIdxIfInBounds ys.length = ys.toArray := by
  unfold Array.eraseIdxIfInBounds
  rw [dif_pos (by simp)]
  simp [List.eraseIdx_append_of_length_le]
theorem acc_pop_core {x dx q : Addr} {ys : List Value} {n : Nat} {v : Value} {Q : Value → Shared → Prop} (X : (hd.heap_39 w.params).In h) (hx : h.get? x = some (accObj dx (ys ++ [v]).toArray n)) (hz : ys.length ≤ 100)
   (hm : h.get? q = some { cls := .type "builtin_function_or_method", data := .fields #[.builtin "list.pop", .ref x] })
   (hq : Q v ⟨h.update x (Obj.mapSeq (·.eraseIdxIfInBounds ys.length)), g, d, t, os⟩) :
   wpAny (model PySem.Challenge.rw_rx0045_01.row.prog w) A (call (.ref q) []) Q E ⟨h, g, d, t, os⟩ := by
  have t1 : Looks (model PySem.Challenge.rw_rx0045_01.row.prog w) h (typeOf (.ref x)) (.ref 142) := (Looks.ld hx).andThen .now
  have C0 := X 142 _ rfl
  refine wpAny_call (codeAny_of_tree ?_)
  show wpAny _ _ (callAny (.ref q) _) _ _ _
  repeat (first | lk | simp only [Bool.not_true, Bool.false_eq_true, if_false])
  refine ⟨Code.quiet_builtin _ (by decide +kernel), codeAny_builtin F.entry_list_pop ?_⟩
  rw [Around.under_plainId (by decide +kernel)]
  show wpAny _ _ (Builtin.«list.pop» ⟨[.ref x], []⟩) _ _ _
  have e1 : (ys ++ [v]).toArray.isEmpty = false := by simp
  have e2 : ((seqIndex? (-1) (ys ++ [v]).toArray.size).bind fun k => ((ys ++ [v]).toArray)[k]?.map (k, ·)) = some (ys.length, v) := by
    have q : seqIndex? (-1) (ys ++ [v]).toArray.size = some ys.length := by
      have z : (if (-1 : Int) < 0 then -1 + (((ys ++ [v]).toArray.size : Nat) : Int) else -1) = (ys.length : Int) := by
        rw [if_pos (by decide)]
        simp only [List.size_toArray, List.length_append, List.length_cons, List.length_nil]
        omega
      unfold seqIndex?
      dsimp only
      rw [z]
      simp
      omega
    rw [q]
    simp
  have e3 : (ys ++ [v]).toArray.eraseIdxIfInBounds ys.length = ys.toArray := erase_last ys v
  unfold Builtin.«list.pop»
  repeat (first | with_reducible refine wpAny_updateSeq hx rfl ?_ (by rw [sizeLine_eq]; simp; omega) (by rw [e3, sizeLine_eq]; simp; omega) | lk | simp only [Bool.not_true, Bool.false_eq_true, if_false, e1, e2])
  exact hq
theorem acc_len_core {x dx q : Addr} {its : Array Value} {n : Nat} {Q : Value → Shared → Prop} (X : (hd.heap_39 w.params).In h) (hx : h.get? x = some (accObj dx its n))
   (hm : h.get? q = some { cls := .type "method-wrapper", data := .fields #[.builtin "list.__len__", .ref x] })
   (hq : Q (.int its.size t) ⟨h, g, d, t + 1, os⟩) :
   wpAny (model PySem.Challenge.rw_rx0045_01.row.prog w) A (call (.ref q) []) Q E ⟨h, g, d, t, os⟩ := by
  have t1 : Looks (model PySem.Challenge.rw_rx0045_01.row.prog w) h (typeOf (.ref x)) (.ref 142) := (Looks.ld hx).andThen .now
  have C0 := X 142 _ rfl
  refine wpAny_call (codeAny_of_tree ?_)
  show wpAny _ _ (callAny (.ref q) _) _ _ _
  repeat (first | lk | simp only [Bool.not_true, Bool.false_eq_true, if_false])
  refine ⟨Code.quiet_builtin _ (by decide +kernel), codeAny_builtin F.entry_list_len ?_⟩
  rw [Around.under_plainId (by decide +kernel)]
  show wpAny _ _ (Builtin.«list.__len__» ⟨[.ref x], []⟩) _ _ _
  unfold Builtin.«list.__len__»
  repeat (first | lk | simp only [Bool.not_true, Bool.false_eq_true, if_false])
  exact hq
theorem acc_init_core {x dx q : Addr} {n : Nat} {Q : Value → Shared → Prop} (X : (hd.heap_39 w.params).In h) (hx : h.get? x = some (accObj dx #[] n))
   (hm : h.get? q = some { cls := .type "method-wrapper", data := .fields #[.builtin "list.__init__", .ref x] })
   (hq : Q .none ⟨h.update x (Obj.mapSeq (fun _ => #[])), g, d, t, os⟩) :
   wpAny (model PySem.Challenge.rw_rx0045_01.row.prog w) A (call (.ref q) []) Q E ⟨h, g, d, t, os⟩ := by
  have t1 : Looks (model PySem.Challenge.rw_rx0045_01.row.prog w) h (typeOf (.ref x)) (.ref 142) := (Looks.ld hx).andThen .now
  have C0 := X 142 _ rfl
  refine wpAny_call (codeAny_of_tree ?_)
  show wpAny _ _ (callAny (.ref q) _) _ _ _
  repeat (first | lk | simp only [Bool.not_true, Bool.false_eq_true, if_false])
  refine ⟨Code.quiet_builtin _ (by decide +kernel), codeAny_builtin F.entry_list_init ?_⟩
  rw [Around.under_plainId (by decide +kernel)]
  show wpAny _ _ (Builtin.«list.__init__» ⟨[.ref x], []⟩) _ _ _
  unfold Builtin.«list.__init__»
  repeat (first | with_reducible refine wpAny_updateSeq hx rfl ?_ (by rw [sizeLine_eq]; simp) (by rw [sizeLine_eq]; simp) | lk | simp only [Bool.not_true, Bool.false_eq_true, if_false])
  exact hq
end
end
section
open PySem PySem.W PyProof.Rows PySem.Spec PySem.Calls
open Builtin
section
variable {w : World} {A : Around} {h : Heap} {g : Array GenState} {d : Drawn} {t : Nat} {os : OsState} {E : Value → Shared → Prop}
/-- the built-in that a bound super finds in list's own table, bound -/
theorem sup_ga {so x : Addr} {b T G : String} {name : Str} {tk : Tok} {bo : Obj} {ox : Obj} {Q : Fin → Shared → Prop} (X : (hd.heap_39 w.params).In h)
    (hso : h.get? so = some { cls := .type "super", dict := none, data := .fields #[.ref 142, .ref x, .ref 142], slots := #[] })
    (hx : h.get? x = some ox) (hcl : ox.cls = .ref 142) (hnc : notCls ox = true)
    (hf : alongIn (hd.heap_39 w.params) name [.type "list", .type "object"] = some (some (.builtin b)))
    (hT : typeOf (.builtin b) = pure (.type T)) (hG : typeLookup (.type T) "__get__" = pure (some (.builtin G))) (hn : (name == ("__class__" : Str)) = false)
    (hcall : ∀ {A' : Around} {E' : Value → Shared → Prop} {Q' : Value → Shared → Prop}, Q' (.ref h.objs.size) ⟨h.push bo, g, d, t, os⟩ → wpAny (model PySem.Challenge.rw_rx0045_01.row.prog w) A' (call (.builtin G) [.builtin b, .ref x, .ref 142]) Q' E' ⟨h, g, d, t, os⟩)
    (hq : Q (.done (.ret (.ref h.objs.size))) ⟨h.push bo, g, d, t, os⟩) :
    wpAny (model PySem.Challenge.rw_rx0045_01.row.prog w) A (Builtin.«super.__getattribute__» ⟨[.ref so, .str name tk], []⟩) Q E ⟨h, g, d, t, os⟩ := by
  have C0 := X 142 _ rfl
  have hxC : x ≠ 142 := by
    rintro rfl
    rw [C0] at hx
    cases hx
    cases hnc
  have hne : (Value.ref x == Value.ref 142) = false := by simp [hxC]
  have cls : Looks (model PySem.Challenge.rw_rx0045_01.row.prog w) h (classData 142) _ := looks_clsIn X (C := 142) rfl
  have mro : Looks (model PySem.Challenge.rw_rx0045_01.row.prog w) h (mroOf (.ref 142)) [Value.ref 142, Value.type "list", Value.type "object"] := cls.andThen .now
  have hno : Looks (model PySem.Challenge.rw_rx0045_01.row.prog w) h (opaqueClassAbove (.ref 142)) none := looks_opaque X (by rfl)
  have hdt : ({ cls := .type "super", dict := none, data := .fields #[.ref 142, .ref x, .ref 142], slots := #[] } : Obj).data = .fields #[.ref 142, .ref x, .ref 142] := rfl
  have f0 : (#[.ref 142, .ref x, .ref 142] : Array Value)[0]? = some (.ref 142) := rfl
  have f1 : (#[.ref 142, .ref x, .ref 142] : Array Value)[1]? = some (.ref x) := rfl
  have f2 : (#[.ref 142, .ref x, .ref 142] : Array Value)[2]? = some (.ref 142) := rfl
  have hTb : (⟨h, g, d, t, os⟩ : Shared).TypeIs (.builtin b) T := hT
  have hl : (([Value.ref 142, Value.type "list", Value.type "object"] : List Value).dropWhile (· != .ref 142)).drop 1 = [.type "list", .type "object"] := by decide +kernel
  unfold Builtin.«super.__getattribute__»
  repeat (first
    | (with_reducible refine wpAny_field hso hdt f0 ?_) | (with_reducible refine wpAny_field hso hdt f1 ?_) | (with_reducible refine wpAny_field hso hdt f2 ?_)
    | (with_reducible refine ks_wpAny_notOpaque hno ?_)
    | (with_reducible refine Looks.at mro ?_; rw [hl])
    | (refine ks_forIn_along X (fun _ _ => rfl) rfl ?_ hf)
    | (with_reducible refine wpAny_typeOf hTb ?_)
    | (with_reducible refine wpAny_of_eq hG ?_)
    | (with_reducible refine hcall ?_)
    | (simp only [hn, hne, Bool.or_false, Bool.false_eq_true, if_false])
    | wp_step
    | dsimp only)
  all_goals exact hq
abbrev bndObj (K b : String) (x : Addr) : Obj := { cls := .type K, data := .fields #[.builtin b, .ref x] }
theorem sup_getMethod {so x : Addr} {b T G : String} {name : Str} {pl : Sem Bool} {bo : Obj} {ox : Obj} {Q : Value × List Value → Shared → Prop} (X : (hd.heap_39 w.params).In h)
    (hso : h.get? so = some { cls := .type "super", dict := none, data := .fields #[.ref 142, .ref x, .ref 142], slots := #[] })
    (hx : h.get? x = some ox) (hcl : ox.cls = .ref 142) (hnc : notCls ox = true)
    (hf : alongIn (hd.heap_39 w.params) name [.type "list", .type "object"] = some (some (.builtin b)))
    (hT : typeOf (.builtin b) = pure (.type T)) (hG : typeLookup (.type T) "__get__" = pure (some (.builtin G))) (hn : (name == ("__class__" : Str)) = false)
    (hcall : ∀ {A' : Around} {E' : Value → Shared → Prop} {Q' : Value → Shared → Prop}, Q' (.ref h.objs.size) ⟨h.push bo, g, d, t + 1, os⟩ → wpAny (model PySem.Challenge.rw_rx0045_01.row.prog w) A' (call (.builtin G) [.builtin b, .ref x, .ref 142]) Q' E' ⟨h, g, d, t + 1, os⟩)
    (hq : Q (.ref h.objs.size, []) ⟨h.push bo, g, d, t + 1, os⟩) :
    wpAny (model PySem.Challenge.rw_rx0045_01.row.prog w) A (getMethod (.ref so) name pl) Q E ⟨h, g, d, t, os⟩ := by
  have hlk := F.ks_slot_super_ga.lookup
  have hcan := F.ks_canon_super_ga
  have hT' : ∀ t', (⟨h, g, d, t', os⟩ : Shared).TypeIs (.ref so) "super" := fun _ => ⟨_, hso, rfl⟩
  unfold getMethod
  refine wpAny_bind (wpAny_specialOf (hT' _) hlk ?_)
  show wpAny _ _ (if (Manifest.canonical "super.__getattribute__" != "object.__getattribute__") = true then _ else _) _ _ _
  rw [if_pos hcan]
  unfold getAttr getAttrBy
  refine wpAny_bind (wpAny_bind (wpAny_mkText (wpAny_holding (wpAny_bind (wpAny_typeOf (hT' _) (wpAny_bind (wpAny_of_eq hlk ?_)))))))
  show wpAny _ _ (getAttrByItsOwn (.ref so) (.str name t) (.type "super") (.builtin "super.__getattribute__") true false) _ _ _
  unfold getAttrByItsOwn hookBefore callGetattribute boundAndCalled
  refine wpAny_bind (wpAny_of_eq (show (if onTheHeap (.type "super") then typeLookup (.type "super") "__getattr__" else pure none) = pure none from rfl) ?_)
  refine wpAny_bind (wpAny_attempt (wpAny_holding ?_))
  show wpAny _ _ (bindSpecial (.builtin "super.__getattribute__") (.ref so) >>= _) _ _ _
  refine wpAny_bind (wpAny_of_eq (F.ks_slot_super_ga.bind _) ?_)
  refine wpAny_mono (Q := fun v s' => v = .ref h.objs.size ∧ s' = ⟨h.push bo, g, d, t + 1, os⟩) (E := fun _ _ => False)
    (wpAny_call_entry F.ks_slot_super_ga (hT' _) F.ks_entry_super_ga (sup_ga X hso hx hcl hnc hf hT hG hn hcall ⟨_, rfl, rfl, rfl⟩) (F.ks_gaArgs_super _ _)) (fun v s' hv => ?_) fun _ _ z => z.elim
  obtain ⟨rfl, rfl⟩ := hv
  exact wpAny_pure (wpAny_pure hq)
end
section
variable {w : World} {A : Around} {E : Value → Shared → Prop} {s : Shared} {h₀ : Heap} {L x dx so q : Addr} {m : Str → Option Value} {news news' : List (Addr × Obj)} {its : Array Value} {n : Nat}
theorem bnd_new {bo : Obj} (F : Fr h₀ L s.heap m) (N : News h₀ L s.heap news) (hfree : bo.isFreed = false) : Fr h₀ L (s.heap.push bo) m ∧ News h₀ L (s.heap.push bo) ((s.heap.objs.size, bo) :: news) ∧ ∀ p ∈ news, p.1 < s.heap.objs.size :=
  ⟨F.push _, N.push F _ hfree, fun p hp => Heap.lt_size (N p hp).1⟩
theorem sup_init {pl : Sem Bool} {Q : Value × List Value → Shared → Prop} (F : Fr h₀ L s.heap m) (X₀ : (hd.heap_39 w.params).In h₀) (N : News h₀ L s.heap news) (hso : (so, ks_superObj 142 x 142) ∈ news) (hx : (x, accObj dx its n) ∈ news)
    (h : ∀ q h', Fr h₀ L h' m → News h₀ L h' ((q, bndObj "method-wrapper" "list.__init__" x) :: news) → (∀ p ∈ news, p.1 < q) → Q (.ref q, []) { s with heap := h', toks := s.toks + 1 }) :
    wpAny (model PySem.Challenge.rw_rx0045_01.row.prog w) A (getMethod (.ref so) (Str.ofString "__init__") pl) Q E s := by
  have X : (hd.heap_39 w.params).In s.heap := X₀.keeps F.keep
  obtain ⟨F', N', l⟩ := bnd_new (bo := bndObj "method-wrapper" "list.__init__" x) F N rfl
  obtain ⟨hh, g, d, t, os⟩ := s
  exact sup_getMethod X (N _ hso).1 (N _ hx).1 rfl rfl (by rfl) type_li slot_wd_get.lookup (by decide) (fun q => wd_get_li X (N _ hx).1 q) (h _ _ F' N' l)
theorem sup_len {pl : Sem Bool} {Q : Value × List Value → Shared → Prop} (F : Fr h₀ L s.heap m) (X₀ : (hd.heap_39 w.params).In h₀) (N : News h₀ L s.heap news) (hso : (so, ks_superObj 142 x 142) ∈ news) (hx : (x, accObj dx its n) ∈ news)
    (h : ∀ q h', Fr h₀ L h' m → News h₀ L h' ((q, bndObj "method-wrapper" "list.__len__" x) :: news) → (∀ p ∈ news, p.1 < q) → Q (.ref q, []) { s with heap := h', toks := s.toks + 1 }) :
    wpAny (model PySem.Challenge.rw_rx0045_01.row.prog w) A (getMethod (.ref so) (Str.ofString "__len__") pl) Q E s := by
  have X : (hd.heap_39 w.params).In s.heap := X₀.keeps F.keep
  obtain ⟨F', N', l⟩ := bnd_new (bo := bndObj "method-wrapper" "list.__len__" x) F N rfl
  obtain ⟨hh, g, d, t, os⟩ := s
  exact sup_getMethod X (N _ hso).1 (N _ hx).1 rfl rfl (by rfl) type_ll slot_wd_get.lookup (by decide) (fun q => wd_get_ll X (N _ hx).1 q) (h _ _ F' N' l)
theorem sup_pop {pl : Sem Bool} {Q : Value × List Value → Shared → Prop} (F : Fr h₀ L s.heap m) (X₀ : (hd.heap_39 w.params).In h₀) (N : News h₀ L s.heap news) (hso : (so, ks_superObj 142 x 142) ∈ news) (hx : (x, accObj dx its n) ∈ news)
    (h : ∀ q h', Fr h₀ L h' m → News h₀ L h' ((q, bndObj "builtin_function_or_method" "list.pop" x) :: news) → (∀ p ∈ news, p.1 < q) → Q (.ref q, []) { s with heap := h', toks := s.toks + 1 }) :
    wpAny (model PySem.Challenge.rw_rx0045_01.row.prog w) A (getMethod (.ref so) (Str.ofString "pop") pl) Q E s := by
  have X : (hd.heap_39 w.params).In s.heap := X₀.keeps F.keep
  obtain ⟨F', N', l⟩ := bnd_new (bo := bndObj "builtin_function_or_method" "list.pop" x) F N rfl
  obtain ⟨hh, g, d, t, os⟩ := s
  exact sup_getMethod X (N _ hso).1 (N _ hx).1 rfl rfl (by rfl) type_lp slot_md_get.lookup (by decide) (fun q => md_get_lp X (N _ hx).1 q) (h _ _ F' N' l)
theorem bnd_keeper {M : Model} {Kd b : String} {h : Heap} (hk : Kd = "method-wrapper" ∨ Kd = "builtin_function_or_method") (hq : h.get? q = some (bndObj Kd b x)) : Looks M h (keeperOf (.ref q)) .machine := by
  rcases hk with rfl | rfl
  · exact (Looks.ld (part := none) hq).andThen .now
  · exact (Looks.ld (part := none) hq).andThen .now
theorem callWith_bnd {M : Model} {Kd b : String} {pos : Pos} {env : Env} {Q : Value → Shared → Prop} (N : News h₀ L s.heap news) (hq : (q, bndObj Kd b x) ∈ news) (hk : Kd = "method-wrapper" ∨ Kd = "builtin_function_or_method")
    (h : wpAny M A (call (.ref q) []) Q E s) : wpAny M A (callWith pos (.ref q) [] (backTo pos (starEach [] env)) []) Q E s :=
  callWith_of (P := fun h => h.get? q = some (bndObj Kd b x)) rfl (fun _ e => ⟨_, .inr (.inl rfl), bnd_keeper hk e⟩) (evalArgs_nil3 ⟨(N _ hq).1, h⟩)
theorem bnd_len {pos : Pos} {env : Env} {Q : Value → Shared → Prop} (F : Fr h₀ L s.heap m) (X₀ : (hd.heap_39 w.params).In h₀) (N : News h₀ L s.heap news) (hq : (q, bndObj "method-wrapper" "list.__len__" x) ∈ news) (hx : (x, accObj dx its n) ∈ news)
    (h : Q (.int its.size s.toks) { s with toks := s.toks + 1 }) : wpAny (model PySem.Challenge.rw_rx0045_01.row.prog w) A (callWith pos (.ref q) [] (backTo pos (starEach [] env)) []) Q E s := by
  refine callWith_bnd N hq (.inl rfl) ?_
  have X : (hd.heap_39 w.params).In s.heap := X₀.keeps F.keep
  have h1 := (N _ hq).1
  have h2 := (N _ hx).1
  obtain ⟨hh, g, d, t, os⟩ := s
  exact acc_len_core X h2 h1 h
theorem acc_upd {f : Array Value → Array Value} {its' : Array Value} {n' : Nat} (F : Fr h₀ L s.heap m) (N : News h₀ L s.heap news) (U : Upd x (accObj dx its n) (accObj dx its' n') news news') (e : Obj.mapSeq f (accObj dx its n) = accObj dx its' n') :
    Fr h₀ L (s.heap.update x (Obj.mapSeq f)) m ∧ News h₀ L (s.heap.update x (Obj.mapSeq f)) news' := by
  obtain ⟨pre, post, rfl, rfl, a, b⟩ := U.split
  exact news_upd F N a b e rfl
theorem bnd_init {pos : Pos} {env : Env} {Q : Value → Shared → Prop} (F : Fr h₀ L s.heap m) (X₀ : (hd.heap_39 w.params).In h₀) (N : News h₀ L s.heap news) (hq : (q, bndObj "method-wrapper" "list.__init__" x) ∈ news) (U : Upd x (accObj dx #[] n) (accObj dx #[] n) news news')
    (hx : (x, accObj dx #[] n) ∈ news) (h : ∀ h', Fr h₀ L h' m → News h₀ L h' news' → Q .none { s with heap := h' }) : wpAny (model PySem.Challenge.rw_rx0045_01.row.prog w) A (callWith pos (.ref q) [] (backTo pos (starEach [] env)) []) Q E s := by
  refine callWith_bnd N hq (.inl rfl) ?_
  have X : (hd.heap_39 w.params).In s.heap := X₀.keeps F.keep
  have h1 := (N _ hq).1
  have h2 := (N _ hx).1
  obtain ⟨F', N'⟩ := acc_upd (f := fun _ => #[]) F N U rfl
  obtain ⟨hh, g, d, t, os⟩ := s
  exact acc_init_core X h2 h1 (h _ F' N')
theorem bnd_pop {pos : Pos} {env : Env} {ys : List Value} {v : Value} {Q : Value → Shared → Prop} (F : Fr h₀ L s.heap m) (X₀ : (hd.heap_39 w.params).In h₀) (N : News h₀ L s.heap news) (hq : (q, bndObj "builtin_function_or_method" "list.pop" x) ∈ news)
    (hx : (x, accObj dx (ys ++ [v]).toArray n) ∈ news) (U : Upd x (accObj dx (ys ++ [v]).toArray n) (accObj dx ys.toArray (n + 1)) news news') (hz : ys.length ≤ 100)
    (h : ∀ h', Fr h₀ L h' m → News h₀ L h' news' → Q v { s with heap := h' }) : wpAny (model PySem.Challenge.rw_rx0045_01.row.prog w) A (callWith pos (.ref q) [] (backTo pos (starEach [] env)) []) Q E s := by
  refine callWith_bnd N hq (.inr rfl) ?_
  have X : (hd.heap_39 w.params).In s.heap := X₀.keeps F.keep
  have h1 := (N _ hq).1
  have h2 := (N _ hx).1
  obtain ⟨F', N'⟩ := acc_upd (f := (·.eraseIdxIfInBounds ys.length)) F N U (by rw [mapSeq_acc, erase_last]; simp)
  obtain ⟨hh, g, d, t, os⟩ := s
  exact acc_pop_core X h2 hz h1 (h _ F' N')
theorem acc_append {v : Value} {Q : Value → Shared → Prop} (F : Fr h₀ L s.heap m) (X₀ : (hd.heap_39 w.params).In h₀) (N : News h₀ L s.heap news)
    (hx : (x, accObj dx its n) ∈ news) (U : Upd x (accObj dx its n) (accObj dx (its.push v) (n + 1)) news news') (hz : its.size ≤ 100)
    (h : ∀ h', Fr h₀ L h' m → News h₀ L h' news' → Q .none { s with heap := h' }) : wpAny (model PySem.Challenge.rw_rx0045_01.row.prog w) A (call (.builtin "list.append") [.ref x, v]) Q E s := by
  have X : (hd.heap_39 w.params).In s.heap := X₀.keeps F.keep
  have h2 := (N _ hx).1
  obtain ⟨F', N'⟩ := acc_upd (f := (·.push v)) F N U (by rw [mapSeq_acc]; simp)
  obtain ⟨hh, g, d, t, os⟩ := s
  exact acc_append_core X h2 hz (h _ F' N')
end
end
section
section
open PySem PySem.W PyProof.Rows PySem.Spec PySem.Calls
open Builtin
theorem ne_of_allLt {d : Addr} {l : List (Addr × Obj)} (h : AllLt d l) : ∀ p ∈ l, p.1 ≠ d := fun p hp => Nat.ne_of_lt (kst_ltOf h p hp)
noncomputable abbrev accD (w : World) (t1 t2 : Tok) : Obj := dictOf [⟨PyData.keyHash w.params (Str.ofString "_initial_size"), .str (Str.ofString "_initial_size") t1, .int 0 t2⟩] 1
theorem inst_acc {h₀ h : Heap} {L x dx : Addr} {news : List (Addr × Obj)} {od : Obj} {its : Array Value} {n : Nat} (N : News h₀ L h news) (h1 : (x, accObj dx its n) ∈ news) (h2 : (dx, od) ∈ news) :
    InstAt h x (accObj dx its n) 142 (some od) := ⟨(N _ h1).1, rfl, rfl, (N _ h2).1⟩
section
variable {w : World} {A : Around} {E : Value → Shared → Prop} {s : Shared} {h₀ : Heap} {L x dx : Addr} {m : Str → Option Value} {news : List (Addr × Obj)} {its : Array Value} {n : Nat} {t1 t2 : Tok}
theorem acc_method {name : Str} {f : Value} {tf : String} {pl : Sem Bool} {Q : Value × List Value → Shared → Prop} (F : Fr h₀ L s.heap m) (X₀ : (hd.heap_39 w.params).In h₀) (N : News h₀ L s.heap news) (h1 : (x, accObj dx its n) ∈ news) (h2 : (dx, accD w t1 t2) ∈ news)
    (hf : findIn (hd.heap_39 w.params) (.ref 142) name = some (some f)) (htf : typeIn (hd.heap_39 w.params) f = some (.type tf)) (ht : (Value.type tf != .type "function" && Value.type tf != .type "method_descriptor" && Value.type tf != .type "wrapper_descriptor") = false)
    (hl : (Value.str (Str.ofString "_initial_size") t1).isStr name = false)
    (h : Q (f, [.ref x]) s) : wpAny (model PySem.Challenge.rw_rx0045_01.row.prog w) A (getMethod (.ref x) name pl) Q E s := by
  have X : (hd.heap_39 w.params).In s.heap := X₀.keeps F.keep
  have hx := (N _ h1).1
  have hdx := (N _ h2).1
  obtain ⟨hh, g, d, t, os⟩ := s
  have T1 : Looks (model PySem.Challenge.rw_rx0045_01.row.prog w) hh (typeOf (.ref x)) (.ref 142) := (Looks.ld hx).andThen .now
  have S1 : Looks (model PySem.Challenge.rw_rx0045_01.row.prog w) hh (specialOf (.ref x) "__getattribute__") (some (.builtin "list.__getattribute__")) := T1.andThen (looks_findIn X (t := .ref 142) (by rfl))
  have S2 : Looks (model PySem.Challenge.rw_rx0045_01.row.prog w) hh (specialOf (.ref x) "__getattr__") none := T1.andThen (looks_findIn X (t := .ref 142) (by rfl))
  have S3 : Looks (model PySem.Challenge.rw_rx0045_01.row.prog w) hh (specialOf (.ref x) name) (some f) := T1.andThen (looks_findIn X (t := .ref 142) hf)
  have S4 : Looks (model PySem.Challenge.rw_rx0045_01.row.prog w) hh (typeOf f) (.type tf) := looks_typeIn X htf
  have S5 : Looks (model PySem.Challenge.rw_rx0045_01.row.prog w) hh (nsGet dx name) none := (Looks.ld hdx).andThen (Looks.of_pure (nsLook_of (by
    show lookIn name (dictOf [⟨PyData.keyHash w.params (Str.ofString "_initial_size"), .str (Str.ofString "_initial_size") t1, .int 0 t2⟩] 1) = _
    rw [lookIn_dict]
    simp [getL, hl, DictEntry.refKey])))
  have c1 : (Manifest.canonical "list.__getattribute__" != "object.__getattribute__") = false := by decide +kernel
  unfold getMethod
  repeat (first | simp only [ht, c1, Bool.not_true, Bool.false_eq_true, if_false] | lk)
  exact h
end
theorem callS_use {w : World} {f : Addr} {d u : Nat} {news : List (Addr × Obj)} {vs : List Value} {Ret : Nat → Heap → Addr → (Str → Option Value) → Shared → (Value → Shared → Prop) → Prop} (C : CallS w f d u news vs Ret)
    {mean : ExcName → Option Value} {mg mb : Str → Option Value} {dp un : Nat} {gd : Option (List Code)} {cn : Str} {cs : Scope} {a : Addr} {ccd : Value} {cl : List (Str × Addr)} {outer : List Env} {A₀ : Around} {base h₀ : Heap} {L : Addr} {m : Str → Option Value} {s : Shared} {Q E : Value → Shared → Prop}
    (B : Below A₀ base outer h₀) (F : Fr h₀ L s.heap m) (X : (hd.heap_39 w.params).In h₀) (N : News h₀ L s.heap news) (T : Top VW LS mean mg mb h₀) (hk : cs.kind = .function) (hd : dp + d < recursionLimit) (hu : un + u < cLine)
    (R : Ret 0 h₀ L m s Q) : wpAny (model PySem.Challenge.rw_rx0045_01.row.prog w) (ktrTop dp un gd cn cs L a ccd cl outer) (call (.ref f) vs) Q E s := C _ _ _ _ _ _ _ _ _ _ _ _ _ _ _ _ _ _ _ _ B F X N T hk hd hu R
theorem callS_use2 {w : World} {f : Addr} {d u : Nat} {news : List (Addr × Obj)} {vs : List Value} {Ret : Nat → Heap → Addr → (Str → Option Value) → Shared → (Value → Shared → Prop) → Prop}
    {mean : ExcName → Option Value} {mg mb : Str → Option Value} {dp un : Nat} {gd : Option (List Code)} {cn : Str} {cs : Scope} {a : Addr} {ccd : Value} {cl : List (Str × Addr)} {outer : List Env} {A₀ : Around} {base h₀ : Heap} {L : Addr} {m : Str → Option Value} {s : Shared} {Q E : Value → Shared → Prop}
    (B : Below A₀ base outer h₀ := by k_asm) (F : Fr h₀ L s.heap m := by k_asm) (X : (hd.heap_39 w.params).In h₀ := by k_asm) (N : News h₀ L s.heap news := by k_asm) (T : Top VW LS mean mg mb h₀ := by k_asm) (hk : cs.kind = .function := by first | exact rfl | assumption) (hd : dp + d < recursionLimit := by ktr_room) (hu : un + u < cLine := by ktr_units)
    (C : CallS w f d u news vs Ret) (R : Ret 0 h₀ L m s Q) : wpAny (model PySem.Challenge.rw_rx0045_01.row.prog w) (ktrTop dp un gd cn cs L a ccd cl outer) (call (.ref f) vs) Q E s := C _ _ _ _ _ _ _ _ _ _ _ _ _ _ _ _ _ _ _ _ B F X N T hk hd hu R
abbrev tupObj (vs : List Value) : Obj := { cls := .type "tuple", data := .seq vs.toArray }
theorem ledger_drop {h₀ h : Heap} {L : Addr} {news news' : List (Addr × Obj)} (N : News h₀ L h news') (hs : ∀ p ∈ news, p ∈ news') : News h₀ L h news := fun p hp => N p (hs p hp)
theorem s_part_count (w : World) (x dx : Addr) (its : Array Value) (n : Nat) (t1 t2 : Tok) (rest : List (Addr × Obj)) :
   CallS w 139 20 200 ((x, accObj dx its n) :: (dx, accD w t1 t2) :: rest) [.ref x]
    (fun _ h₀ L m s Q => ∀ t tk h', Fr h₀ L h' m → News h₀ L h' ((x, accObj dx its n) :: (dx, accD w t1 t2) :: rest) → Q (.int its.size t) { s with heap := h', toks := tk }) := by
  k_with_none
  k_with "ktr_room" => first | exact om2 (by assumption) rfl | exact om1 (by assumption) rfl | exact om0 (by assumption) | exact om3 rfl
  k_with "k_all" => first | assumption | exact ne_of_allLt (by assumption) | exact ne_of_allLt (And.right (by assumption)) | exact ne_of_allLt (And.right (And.right (by assumption))) | exact ne_of_allLt (And.right (And.right (And.right (by assumption)))) | exact ne_of_allLt (And.right (And.right (And.right (And.right (by assumption))))) | exact ne_of_allLt (And.right (And.right (And.right (And.right (And.right (by assumption))))))
  k_with "k_inst" => (apply inst_acc; k_asm; k_mem; k_mem)
  k_with "MYSUB" => first | exact List.forall_mem_nil _ | (refine List.forall_mem_cons.mpr ⟨by k_memK, ?_⟩; walk_at "MYSUB") | (intro _ hp; repeat (first | exact hp | refine List.mem_cons_of_mem _ ?_))
  k_with "wpAt" => ((show PySem.wpAt _ _ _ _ _ _ _); ks_step "exec Expr"; k_dflt (refine ks_wpAt_Expr_any ?_))
  k_with "wpAt" => ((show PySem.wpAt _ _ _ _ _ _ _); ks_step "eval Call"; k_dflt (refine ks_wpAt_MethodCall ?_))
  k_with "wpAt" => ((show PySem.wpAt _ _ _ _ _ _ _); ks_step "execs cons"; refine ks_wpAt_execs_cons ?_)
  k_with "getMethod ref" => (k_here; k_dflt (first | (apply acc_method; k_asm; k_asm; k_asm; k_mem; k_mem; k_is; k_is; decide; rfl; k_whole) | (apply sup_len; k_asm; k_asm; k_asm; k_mem; k_mem; intro q' h' F' N' l1; (try k_lt l1)) | (apply sup_pop; k_asm; k_asm; k_asm; k_mem; k_mem; intro q' h' F' N' l1; (try k_lt l1)) | (apply sup_init; k_asm; k_asm; k_asm; k_mem; k_mem; intro _ _ _ _ l1; (try k_lt l1))))
  k_with "call builtin:list.append" => (k_here; k_dflt (refine acc_append (by k_asm) (by k_asm) (by k_asm) (by k_mem) (by k_upd) (by assumption) ?_; intro _ _ _))
  k_with "callWith ref" => (k_here; k_dflt (first | (apply bnd_len; k_asm; k_asm; k_asm; k_mem; k_mem) | (apply bnd_pop; k_asm; k_asm; k_asm; k_mem; k_mem; k_upd; assumption; intro h' F' N') | (apply bnd_init; k_asm; k_asm; k_asm; k_mem; rotate_left 1; k_mem; rotate_right 1; k_upd; intro _ _ _)))
  unfold CallS
  k_fill
  intro mean mg mb dp un gd cn cs a ccd cl outer A₀ base h₀ L m s Q E B F X N T hk hR hu hret
  refine wpAny_call ?_
  refine' ks_code_super (binds := [(Str.ofString "self", .ref x)]) B F X N T rfl rfl hk ?k6 ?k7 ?k8 ?k9 ?kB ?_ ?c1 ?c2 ?c3 ?c4
  case k6 => k_is
  case k7 => k_is
  case k8 => exact om0 (by assumption)
  case k9 => exact BindsTo.of_eq rfl
  case kB => exact locs rfl
  case c1 => decide
  case c2 => exact rfl
  case c3 => exact rfl
  case c4 => exact rfl
  intro g' L' h' FG' F' N' B' X' T' l1
  try k_lt l1
  try dsimp only
  k_steps
  exact hret _ _ _ (by k_asm) (ledger_drop (by assumption) (by walk_at "MYSUB"))
theorem s_pop0 (w : World) (x dx : Addr) (n : Nat) (t1 t2 : Tok) (rest : List (Addr × Obj)) :
   CallS w 102 40 400 ((x, accObj dx #[] n) :: (dx, accD w t1 t2) :: rest) [.ref x]
    (fun _ h₀ L m s Q => ∀ q tb ts tk h', Fr h₀ L h' m → News h₀ L h' ((q, tupObj [.str (Str.ofString "") tb, .str (Str.ofString "") ts]) :: (x, accObj dx #[] n) :: (dx, accD w t1 t2) :: rest) → AllLt q ((x, accObj dx #[] n) :: (dx, accD w t1 t2) :: rest) → Q (.ref q) { s with heap := h', toks := tk }) := by
  k_with_none
  k_with "ktr_room" => first | exact om2 (by assumption) rfl | exact om1 (by assumption) rfl | exact om0 (by assumption) | exact om3 rfl
  k_with "k_all" => first | assumption | exact ne_of_allLt (by assumption) | exact ne_of_allLt (And.right (by assumption)) | exact ne_of_allLt (And.right (And.right (by assumption))) | exact ne_of_allLt (And.right (And.right (And.right (by assumption)))) | exact ne_of_allLt (And.right (And.right (And.right (And.right (by assumption))))) | exact ne_of_allLt (And.right (And.right (And.right (And.right (And.right (by assumption))))))
  k_with "k_inst" => (apply inst_acc; k_asm; k_mem; k_mem)
  k_with "MYSUB" => first | exact List.forall_mem_nil _ | (refine List.forall_mem_cons.mpr ⟨by k_memK, ?_⟩; walk_at "MYSUB") | (intro _ hp; repeat (first | exact hp | refine List.mem_cons_of_mem _ ?_))
  k_with "wpAt" => ((show PySem.wpAt _ _ _ _ _ _ _); ks_step "exec Expr"; k_dflt (refine ks_wpAt_Expr_any ?_))
  k_with "wpAt" => ((show PySem.wpAt _ _ _ _ _ _ _); ks_step "eval Call"; k_dflt (refine ks_wpAt_MethodCall ?_))
  k_with "wpAt" => ((show PySem.wpAt _ _ _ _ _ _ _); ks_step "execs cons"; refine ks_wpAt_execs_cons ?_)
  k_with "getMethod ref" => (k_here; k_dflt (first | (apply acc_method; k_asm; k_asm; k_asm; k_mem; k_mem; k_is; k_is; decide; rfl; k_whole) | (apply sup_len; k_asm; k_asm; k_asm; k_mem; k_mem; intro q' h' F' N' l1; (try k_lt l1)) | (apply sup_pop; k_asm; k_asm; k_asm; k_mem; k_mem; intro q' h' F' N' l1; (try k_lt l1)) | (apply sup_init; k_asm; k_asm; k_asm; k_mem; k_mem; intro _ _ _ _ l1; (try k_lt l1))))
  k_with "call builtin:list.append" => (k_here; k_dflt (refine acc_append (by k_asm) (by k_asm) (by k_asm) (by k_mem) (by k_upd) (by assumption) ?_; intro _ _ _))
  k_with "callWith ref" => (k_here; k_dflt (first | (apply bnd_len; k_asm; k_asm; k_asm; k_mem; k_mem) | (apply bnd_pop; k_asm; k_asm; k_asm; k_mem; k_mem; k_upd; assumption; intro h' F' N') | (apply bnd_init; k_asm; k_asm; k_asm; k_mem; rotate_left 1; k_mem; rotate_right 1; k_upd; intro _ _ _)))
  k_with "call ref" => (k_here; (with_reducible show wpAny _ _ (call (Value.ref 139) _) _ _ _); k_dflt (refine callS_use2 (C := s_part_count _ _ _ _ _ _ _ _) (R := ?_); intro _ _ _ _ _))
  unfold CallS
  k_fill
  intro mean mg mb dp un gd cn cs a ccd cl outer A₀ base h₀ L m s Q E B F X N T hk hR hu hret
  refine wpAny_call ?_
  refine' ks_code_super (binds := [(Str.ofString "self", .ref x)]) B F X N T rfl rfl hk ?k6 ?k7 ?k8 ?k9 ?kB ?_ ?c1 ?c2 ?c3 ?c4
  case k6 => k_is
  case k7 => k_is
  case k8 => exact om0 (by assumption)
  case k9 => exact BindsTo.of_eq rfl
  case kB => exact locs rfl
  case c1 => decide
  case c2 => exact rfl
  case c3 => exact rfl
  case c4 => exact rfl
  intro g' L' h' FG' F' N' B' X' T' l1
  try k_lt l1
  try dsimp only
  k_steps
  exact hret _ _ _ _ _ (by k_asm) (ledger_drop (by assumption) (by walk_at "MYSUB")) (by assumption)
theorem s_pop1 (w : World) (x dx : Addr) (ys : List Value) (v : Value) (n : Nat) (t1 t2 : Tok) (rest : List (Addr × Obj)) (hz : ys.length ≤ 100) (hne : (dx : Nat) ≠ x) (hr : ∀ p ∈ rest, p.1 ≠ x) :
   CallS w 102 40 400 ((x, accObj dx (ys ++ [v]).toArray n) :: (dx, accD w t1 t2) :: rest) [.ref x]
    (fun _ h₀ L m s Q => ∀ tk h', Fr h₀ L h' m → News h₀ L h' ((x, accObj dx ys.toArray (n + 1)) :: (dx, accD w t1 t2) :: rest) → Q v { s with heap := h', toks := tk }) := by
  k_with_none
  k_with "ktr_room" => first | exact om2 (by assumption) rfl | exact om1 (by assumption) rfl | exact om0 (by assumption) | exact om3 rfl
  k_with "k_all" => first | assumption | exact ne_of_allLt (by assumption) | exact ne_of_allLt (And.right (by assumption)) | exact ne_of_allLt (And.right (And.right (by assumption))) | exact ne_of_allLt (And.right (And.right (And.right (by assumption)))) | exact ne_of_allLt (And.right (And.right (And.right (And.right (by assumption))))) | exact ne_of_allLt (And.right (And.right (And.right (And.right (And.right (by assumption))))))
  k_with "k_inst" => (apply inst_acc; k_asm; k_mem; k_mem)
  k_with "MYSUB" => first | exact List.forall_mem_nil _ | (refine List.forall_mem_cons.mpr ⟨by k_memK, ?_⟩; walk_at "MYSUB") | (intro _ hp; repeat (first | exact hp | refine List.mem_cons_of_mem _ ?_))
  k_with "wpAt" => ((show PySem.wpAt _ _ _ _ _ _ _); ks_step "exec Expr"; k_dflt (refine ks_wpAt_Expr_any ?_))
  k_with "wpAt" => ((show PySem.wpAt _ _ _ _ _ _ _); ks_step "eval Call"; k_dflt (refine ks_wpAt_MethodCall ?_))
  k_with "wpAt" => ((show PySem.wpAt _ _ _ _ _ _ _); ks_step "execs cons"; refine ks_wpAt_execs_cons ?_)
  k_with "getMethod ref" => (k_here; k_dflt (first | (apply acc_method; k_asm; k_asm; k_asm; k_mem; k_mem; k_is; k_is; decide; rfl; k_whole) | (apply sup_len; k_asm; k_asm; k_asm; k_mem; k_mem; intro q' h' F' N' l1; (try k_lt l1)) | (apply sup_pop; k_asm; k_asm; k_asm; k_mem; k_mem; intro q' h' F' N' l1; (try k_lt l1)) | (apply sup_init; k_asm; k_asm; k_asm; k_mem; k_mem; intro _ _ _ _ l1; (try k_lt l1))))
  k_with "call builtin:list.append" => (k_here; k_dflt (refine acc_append (by k_asm) (by k_asm) (by k_asm) (by k_mem) (by k_upd) (by assumption) ?_; intro _ _ _))
  k_with "callWith ref" => (k_here; k_dflt (first | (apply bnd_len; k_asm; k_asm; k_asm; k_mem; k_mem) | (apply bnd_pop; k_asm; k_asm; k_asm; k_mem; k_mem; k_upd; assumption; intro h' F' N') | (apply bnd_init; k_asm; k_asm; k_asm; k_mem; rotate_left 1; k_mem; rotate_right 1; k_upd; intro _ _ _)))
  k_with "call ref" => (k_here; (with_reducible show wpAny _ _ (call (Value.ref 139) _) _ _ _); k_dflt (refine callS_use2 (C := s_part_count _ _ _ _ _ _ _ _) (R := ?_); intro _ _ _ _ _))
  have hs : (ys ++ [v]).toArray.size = ys.length + 1 := by simp
  unfold CallS
  k_fill
  intro mean mg mb dp un gd cn cs a ccd cl outer A₀ base h₀ L m s Q E B F X N T hk hR hu hret
  refine wpAny_call ?_
  refine' ks_code_super (binds := [(Str.ofString "self", .ref x)]) B F X N T rfl rfl hk ?k6 ?k7 ?k8 ?k9 ?kB ?_ ?c1 ?c2 ?c3 ?c4
  case k6 => k_is
  case k7 => k_is
  case k8 => exact om0 (by assumption)
  case k9 => exact BindsTo.of_eq rfl
  case kB => exact locs rfl
  case c1 => decide
  case c2 => exact rfl
  case c3 => exact rfl
  case c4 => exact rfl
  intro g' L' h' FG' F' N' B' X' T' l1
  try k_lt l1
  try dsimp only
  k_steps
  all_goals first | (exfalso; omega) | skip
  exact hret _ _ (by k_asm) (ledger_drop (by assumption) (by walk_at "MYSUB"))
theorem s_push (w : World) (x dx : Addr) (its : Array Value) (n : Nat) (v1 v2 : Value) (t1 t2 : Tok) (rest : List (Addr × Obj)) (hz : its.size ≤ 100) (hne : (dx : Nat) ≠ x) (hr : ∀ p ∈ rest, p.1 ≠ x) :
   CallS w 86 40 400 ((x, accObj dx its n) :: (dx, accD w t1 t2) :: rest) [.ref x, v1, v2]
    (fun _ h₀ L m s Q => ∀ q tk h', Fr h₀ L h' m → News h₀ L h' ((x, accObj dx (its.push (.ref q)) (n + 1)) :: (dx, accD w t1 t2) :: (q, tupObj [v1, v2]) :: rest) → AllLt q ((x, accObj dx its n) :: (dx, accD w t1 t2) :: rest) → Q .none { s with heap := h', toks := tk }) := by
  k_with_none
  k_with "ktr_room" => first | exact om2 (by assumption) rfl | exact om1 (by assumption) rfl | exact om0 (by assumption) | exact om3 rfl
  k_with "k_all" => first | assumption | exact ne_of_allLt (by assumption) | exact ne_of_allLt (And.right (by assumption)) | exact ne_of_allLt (And.right (And.right (by assumption))) | exact ne_of_allLt (And.right (And.right (And.right (by assumption)))) | exact ne_of_allLt (And.right (And.right (And.right (And.right (by assumption))))) | exact ne_of_allLt (And.right (And.right (And.right (And.right (And.right (by assumption))))))
  k_with "k_inst" => (apply inst_acc; k_asm; k_mem; k_mem)
  k_with "MYSUB" => first | exact List.forall_mem_nil _ | (refine List.forall_mem_cons.mpr ⟨by k_memK, ?_⟩; walk_at "MYSUB") | (intro _ hp; repeat (first | exact hp | refine List.mem_cons_of_mem _ ?_))
  k_with "wpAt" => ((show PySem.wpAt _ _ _ _ _ _ _); ks_step "exec Expr"; k_dflt (refine ks_wpAt_Expr_any ?_))
  k_with "wpAt" => ((show PySem.wpAt _ _ _ _ _ _ _); ks_step "eval Call"; k_dflt (refine ks_wpAt_MethodCall ?_))
  k_with "wpAt" => ((show PySem.wpAt _ _ _ _ _ _ _); ks_step "execs cons"; refine ks_wpAt_execs_cons ?_)
  k_with "getMethod ref" => (k_here; k_dflt (first | (apply acc_method; k_asm; k_asm; k_asm; k_mem; k_mem; k_is; k_is; decide; rfl; k_whole) | (apply sup_len; k_asm; k_asm; k_asm; k_mem; k_mem; intro q' h' F' N' l1; (try k_lt l1)) | (apply sup_pop; k_asm; k_asm; k_asm; k_mem; k_mem; intro q' h' F' N' l1; (try k_lt l1)) | (apply sup_init; k_asm; k_asm; k_asm; k_mem; k_mem; intro _ _ _ _ l1; (try k_lt l1))))
  k_with "call builtin:list.append" => (k_here; k_dflt (refine acc_append (by k_asm) (by k_asm) (by k_asm) (by k_mem) (by k_upd) (by assumption) ?_; intro _ _ _))
  k_with "callWith ref" => (k_here; k_dflt (first | (apply bnd_len; k_asm; k_asm; k_asm; k_mem; k_mem) | (apply bnd_pop; k_asm; k_asm; k_asm; k_mem; k_mem; k_upd; assumption; intro h' F' N') | (apply bnd_init; k_asm; k_asm; k_asm; k_mem; rotate_left 1; k_mem; rotate_right 1; k_upd; intro _ _ _)))
  k_with "call ref" => (k_here; (with_reducible show wpAny _ _ (call (Value.ref 139) _) _ _ _); k_dflt (refine callS_use2 (C := s_part_count _ _ _ _ _ _ _ _) (R := ?_); intro _ _ _ _ _))
  unfold CallS
  k_fill
  intro mean mg mb dp un gd cn cs a ccd cl outer A₀ base h₀ L m s Q E B F X N T hk hR hu hret
  refine wpAny_call ?_
  refine' code_def (binds := [(Str.ofString "self", .ref x), (Str.ofString "fws", v1), (Str.ofString "string", v2)]) B F X N T rfl rfl hk ?k6 ?k7 ?k8 ?k9 ?kB ?_ ?c2 ?c3 ?c4 ?c5
  case k6 => k_is
  case k7 => k_is
  case k8 => exact om0 (by assumption)
  case k9 => exact BindsTo.of_eq rfl
  case kB => exact locs rfl
  case c2 => exact rfl
  case c3 => exact rfl
  case c4 => exact rfl
  case c5 => decide
  intro g' L' h' FG' F' N' B' X' T'
  try dsimp only
  try k_fold
  k_steps
  exact hret _ _ _ (by k_asm) (ledger_drop (by assumption) (by walk_at "MYSUB")) (by assumption)
end
section
open PySem PySem.W PyProof.Rows PySem.Spec PySem.Calls
open Builtin
section
variable {w : World} {A : Around} {R : Result → Shared → Prop} {E : Value → Shared → Prop} {s : Shared} {h₀ : Heap} {L x dx : Addr} {m : Str → Option Value} {news news' : List (Addr × Obj)} {its : Array Value} {n : Nat}
theorem refuse_acc (self : Value) : refuseLoop self "__setattr__" [.ref 142, .type "list", .type "object"] = pure () := by
  rw [refuseLoop_ref]
  kernel_rfl
theorem acc_set {v : Value} {Q : Unit → Shared → Prop} (F : Fr h₀ L s.heap m) (X₀ : (hd.heap_39 w.params).In h₀) (N : News h₀ L s.heap news) (h1 : (x, accObj dx its n) ∈ news)
    (U : Upd dx (dictOf [] 0) (dictOf [⟨PyData.keyHash w.params (Str.ofString "_initial_size"), .str (Str.ofString "_initial_size") (s.toks + 1), v⟩] 1) news news') (h2 : (dx, dictOf [] 0) ∈ news)
    (h : ∀ h', Fr h₀ L h' m → News h₀ L h' news' → Q () { s with heap := h', toks := s.toks + 2 }) :
    wpAny (model PySem.Challenge.rw_rx0045_01.row.prog w) A (setAttr (.ref x) (Str.ofString "_initial_size") v) Q E s := by
  have X : (hd.heap_39 w.params).In s.heap := X₀.keeps F.keep
  have I := inst_acc N h1 h2
  obtain ⟨pre, post, rfl, rfl, a, b⟩ := U.split
  refine set_plain X I (by rfl) ?_
  have SF := PySem.F.store_object
  have hc : clsIn (hd.heap_39 w.params) 142 = some _ := rfl
  have sub : Looks (model PySem.Challenge.rw_rx0045_01.row.prog w) s.heap (isInstance (.ref x) (.type "object")) true := I.type.andThen (looks_mroIn X (by rfl))
  have hm : Looks (model PySem.Challenge.rw_rx0045_01.row.prog w) s.heap (mroOf (.ref 142)) [Value.ref 142, Value.type "list", Value.type "object"] := (looks_clsIn X hc).andThen .now
  have ha : Looks (model PySem.Challenge.rw_rx0045_01.row.prog w) s.heap (typeLookup (.ref 142) (Str.ofString "_initial_size")) none := looks_findIn X (by rfl)
  refine codeAny_call_builtin SF.slot.plain SF.entry (@check_slot (model PySem.Challenge.rw_rx0045_01.row.prog w) _ _ { s with toks := s.toks + 1 } "object.__setattr__" "object" "__setattr__" (.ref x) [.str (Str.ofString "_initial_size") s.toks, v] [] _ SF.kind SF.split sub (SF.args (.ref x) (.str (Str.ofString "_initial_size") s.toks) v) ?_)
  rw [osa_eq, refuse_eq]
  refine wpAny_bind (wpAny_bind (I.type.here (s := { s with toks := s.toks + 1 }) (wpAny_bind (hm.here (s := { s with toks := s.toks + 1 }) ?_))))
  rw [refuse_acc]
  refine wpAny_pure (wpAny_bind (I.type.here (s := { s with toks := s.toks + 1 }) (wpAny_bind (ha.here (s := { s with toks := s.toks + 1 }) (wpAny_bind ?_)))))
  refine wpAny_pure ?_
  have e1 : Obj.putName (Str.ofString "_initial_size") (PyData.keyHash w.params (Str.ofString "_initial_size")) (.str (Str.ofString "_initial_size") (s.toks + 1)) v (dictOf [] 0) = dictOf [⟨PyData.keyHash w.params (Str.ofString "_initial_size"), .str (Str.ofString "_initial_size") (s.toks + 1), v⟩] 1 := by rw [putName_dict]; exact rfl
  obtain ⟨U1, U2⟩ := news_upd (f := Obj.putName (Str.ofString "_initial_size") (PyData.keyHash w.params (Str.ofString "_initial_size")) (.str (Str.ofString "_initial_size") (s.toks + 1)) v) F N a b e1 rfl
  have D := (N (dx, dictOf [] 0) (List.mem_append_right _ (.head _))).1
  have D' := (U2 (dx, dictOf [⟨PyData.keyHash w.params (Str.ofString "_initial_size"), .str (Str.ofString "_initial_size") (s.toks + 1), v⟩] 1) (List.mem_append_right _ (.head _))).1
  have hx := I.at_
  refine wpAny_bind (wpAny_pure (wpAny_bind (wpAny_bind (wpAny_loadPart hx (wpAny_bind ((looks_clsIn X hc).here (s := { s with toks := s.toks + 1 }) ?_))))))
  refine wpAny_pure (a := some dx) (wpAny_bind (wpAny_pure (wpAny_bind ?_)))
  unfold nsSet
  refine wpAny_bind (wpAny_bind (wpAny_askSetting (wpAny_pure (wpAny_bind (wpAny_mkText (wpAny_bind (wpAny_loadPart D ?_)))))))
  dsimp only
  rw [aRefKeyMayBeTheName_at, if_neg (by simp)]
  refine wpAny_updatePart (s := { s with toks := s.toks + 1 + 1 }) D ?_
  refine wpAny_bind (wpAny_lookBehind D' (pastItsLine_dict (by rw [List.size_toArray, sizeLine_eq]; simp)) ?_)
  exact wpAny_pure (h _ U1 U2)
theorem acc_make_K (F : Fr h₀ L s.heap m) (N : News h₀ L s.heap news) (X : (hd.heap_39 w.params).In h₀)
    (hq : ∀ x dx h', Fr h₀ L h' m → News h₀ L h' ((x, accObj dx #[] 0) :: (dx, dictOf [] 0) :: news) → (∀ p ∈ news, p.1 < dx) → dx < x →
      codeAny (model PySem.Challenge.rw_rx0045_01.row.prog w) (A.under (.builtin "type.__call__" ⟨[.ref 142], []⟩)) (.call (.ref 79) ⟨[.ref x], []⟩) (InitBack x R) { s with heap := h' }) :
    codeAny (model PySem.Challenge.rw_rx0045_01.row.prog w) A (.call (.ref 142) ⟨[], []⟩) R s := by
  obtain ⟨hh, g, d, t, os⟩ := s
  have N1 := N.push F (dictOf [] 0)
  have N2 := N1.push (F.push _) (accObj hh.objs.size #[] 0)
  rw [Heap.size_push] at N2
  exact acc_make (X.keeps F.keep) (hq _ _ _ ((F.push _).push _) N2 (fun p hp => Heap.lt_size (N p hp).1) (Nat.lt_succ_self _))
end
theorem s_new (w : World) (rest : List (Addr × Obj)) :
   CallS w 142 40 400 rest []
    (fun _ h₀ L m s Q => ∀ x dx t1 t2 tk h', Fr h₀ L h' m → News h₀ L h' ((x, accObj dx #[] 0) :: (dx, accD w t1 t2) :: rest) → AllLt dx rest → (dx : Nat) < x → Q (.ref x) { s with heap := h', toks := tk }) := by
  k_with_none
  k_with "ktr_room" => first | exact om2 (by assumption) rfl | exact om1 (by assumption) rfl | exact om0 (by assumption) | exact om3 rfl
  k_with "k_all" => first | assumption | exact ne_of_allLt (by assumption) | exact ne_of_allLt (And.right (by assumption)) | exact ne_of_allLt (And.right (And.right (by assumption))) | exact ne_of_allLt (And.right (And.right (And.right (by assumption)))) | exact ne_of_allLt (And.right (And.right (And.right (And.right (by assumption))))) | exact ne_of_allLt (And.right (And.right (And.right (And.right (And.right (by assumption))))))
  k_with "k_inst" => (apply inst_acc; k_asm; k_mem; k_mem)
  k_with "MYSUB" => first | exact List.forall_mem_nil _ | (refine List.forall_mem_cons.mpr ⟨by k_memK, ?_⟩; walk_at "MYSUB") | (intro _ hp; repeat (first | exact hp | refine List.mem_cons_of_mem _ ?_))
  k_with "wpAt" => ((show PySem.wpAt _ _ _ _ _ _ _); ks_step "exec Expr"; k_dflt (refine ks_wpAt_Expr_any ?_))
  k_with "wpAt" => ((show PySem.wpAt _ _ _ _ _ _ _); ks_step "eval Call"; k_dflt (refine ks_wpAt_MethodCall ?_))
  k_with "wpAt" => ((show PySem.wpAt _ _ _ _ _ _ _); ks_step "execs cons"; refine ks_wpAt_execs_cons ?_)
  k_with "getMethod ref" => (k_here; k_dflt (first | (apply acc_method; k_asm; k_asm; k_asm; k_mem; k_mem; k_is; k_is; decide; rfl; k_whole) | (apply sup_len; k_asm; k_asm; k_asm; k_mem; k_mem; intro q' h' F' N' l1; (try k_lt l1)) | (apply sup_pop; k_asm; k_asm; k_asm; k_mem; k_mem; intro q' h' F' N' l1; (try k_lt l1)) | (apply sup_init; k_asm; k_asm; k_asm; k_mem; k_mem; intro _ _ _ _ l1; (try k_lt l1))))
  k_with "call builtin:list.append" => (k_here; k_dflt (refine acc_append (by k_asm) (by k_asm) (by k_asm) (by k_mem) (by k_upd) (by assumption) ?_; intro _ _ _))
  k_with "callWith ref" => (k_here; k_dflt (first | (apply bnd_len; k_asm; k_asm; k_asm; k_mem; k_mem) | (apply bnd_pop; k_asm; k_asm; k_asm; k_mem; k_mem; k_upd; assumption; intro h' F' N') | (apply bnd_init; k_asm; k_asm; k_asm; k_mem; rotate_left 1; k_mem; rotate_right 1; k_upd; intro _ _ _)))
  k_with "call ref" => (k_here; (with_reducible show wpAny _ _ (call (Value.ref 139) _) _ _ _); k_dflt (refine callS_use2 (C := s_part_count _ _ _ _ _ _ _ _) (R := ?_); intro _ _ _ _ _))
  k_with "setAttr ref" => (k_here; k_dflt (refine acc_set (by k_asm) (by k_asm) (by k_asm) (by k_mem) (by k_upd) (by k_mem) ?_; intro _ _ _))
  unfold CallS
  k_fill
  intro mean mg mb dp un gd cn cs a ccd cl outer A₀ base h₀ L m s Q E B F X N T hk hR hu hret
  refine wpAny_call (acc_make_K F N X fun x dx h1 F1 N1 l0 l2 => ?_)
  k_lt2 l2
  have lx : ∀ p ∈ rest, p.1 ≠ x := fun p hp => Nat.ne_of_lt (Nat.lt_trans (l0 p hp) l2)
  refine' ks_code_super (binds := [(Str.ofString "self", .ref x), (Str.ofString "initial_size", .int 0 519)]) B F1 X N1 T rfl rfl hk ?k6 ?k7 ?k8 ?k9 ?kB ?_ ?c1 ?c2 ?c3 ?c4
  case k6 => k_is
  case k7 => k_is
  case k8 => ktr_room
  case k9 => exact binds_K (by k_in) rfl (by k_is) rfl rfl rfl
  case kB => exact locs rfl
  case c1 => decide
  case c2 => exact rfl
  case c3 => exact rfl
  case c4 => exact rfl
  intro g' L' h' FG' F' N' B' X' T' l1
  try k_lt l1
  try dsimp only
  k_steps
  have z9 := allLt_of l0
  exact hret _ _ _ _ _ _ (by k_asm) (ledger_drop (by assumption) (by walk_at "MYSUB")) z9 l2
end
section
open PySem PySem.W PyProof.Rows PySem.Spec PySem.Calls
open Builtin
theorem s_top0 (w : World) (x dx : Addr) (n : Nat) (t1 t2 : Tok) (rest : List (Addr × Obj)) :
   CallS w 195 60 600 ((x, accObj dx #[] n) :: (dx, accD w t1 t2) :: rest) [.ref x]
    (fun _ h₀ L m s Q => ∀ t tk h', Fr h₀ L h' m → News h₀ L h' ((x, accObj dx #[] n) :: (dx, accD w t1 t2) :: rest) → Q (.str (Str.ofString "") t) { s with heap := h', toks := tk }) := by
  k_with_none
  k_with "ktr_room" => first | exact om2 (by assumption) rfl | exact om1 (by assumption) rfl | exact om0 (by assumption) | exact om3 rfl
  k_with "k_all" => first | assumption | exact ne_of_allLt (by assumption) | exact ne_of_allLt (And.right (by assumption)) | exact ne_of_allLt (And.right (And.right (by assumption))) | exact ne_of_allLt (And.right (And.right (And.right (by assumption)))) | exact ne_of_allLt (And.right (And.right (And.right (And.right (by assumption))))) | exact ne_of_allLt (And.right (And.right (And.right (And.right (And.right (by assumption))))))
  k_with "k_inst" => (apply inst_acc; k_asm; k_mem; k_mem)
  k_with "MYSUB" => first | exact List.forall_mem_nil _ | (refine List.forall_mem_cons.mpr ⟨by k_memK, ?_⟩; walk_at "MYSUB") | (intro _ hp; repeat (first | exact hp | refine List.mem_cons_of_mem _ ?_))
  k_with "wpAt" => ((show PySem.wpAt _ _ _ _ _ _ _); ks_step "exec Expr"; k_dflt (refine ks_wpAt_Expr_any ?_))
  k_with "wpAt" => ((show PySem.wpAt _ _ _ _ _ _ _); ks_step "eval Call"; k_dflt (refine ks_wpAt_MethodCall ?_))
  k_with "wpAt" => ((show PySem.wpAt _ _ _ _ _ _ _); ks_step "execs cons"; refine ks_wpAt_execs_cons ?_)
  k_with "getMethod ref" => (k_here; k_dflt (first | (apply acc_method; k_asm; k_asm; k_asm; k_mem; k_mem; k_is; k_is; decide; rfl; k_whole) | (apply sup_len; k_asm; k_asm; k_asm; k_mem; k_mem; intro q' h' F' N' l1; (try k_lt l1)) | (apply sup_pop; k_asm; k_asm; k_asm; k_mem; k_mem; intro q' h' F' N' l1; (try k_lt l1)) | (apply sup_init; k_asm; k_asm; k_asm; k_mem; k_mem; intro _ _ _ _ l1; (try k_lt l1))))
  k_with "call builtin:list.append" => (k_here; k_dflt (refine acc_append (by k_asm) (by k_asm) (by k_asm) (by k_mem) (by k_upd) (by assumption) ?_; intro _ _ _))
  k_with "callWith ref" => (k_here; k_dflt (first | (apply bnd_len; k_asm; k_asm; k_asm; k_mem; k_mem) | (apply bnd_pop; k_asm; k_asm; k_asm; k_mem; k_mem; k_upd; assumption; intro h' F' N') | (apply bnd_init; k_asm; k_asm; k_asm; k_mem; rotate_left 1; k_mem; rotate_right 1; k_upd; intro _ _ _)))
  k_with "call ref" => (k_here; (with_reducible show wpAny _ _ (call (Value.ref 139) _) _ _ _); k_dflt (refine callS_use2 (C := s_part_count _ _ _ _ _ _ _ _) (R := ?_); intro _ _ _ _ _))
  k_with "call ref" => (k_here; (with_reducible show wpAny _ _ (call (Value.ref 102) _) _ _ _); k_dflt (first | (refine callS_use2 (C := s_pop0 _ _ _ _ _ _ _) (R := ?_); intro _ _ _ _ _ _ _ l1; (try simp only [AllLt, and_true] at l1)) | (refine callS_use2 (C := s_pop1 _ _ _ _ _ _ _ _ _ (by assumption) (by assumption) (by k_all)) (R := ?_); intro _ _ _ _)))
  k_with "call ref" => (k_here; (with_reducible show wpAny _ _ (call (Value.ref 86) _) _ _ _); k_dflt ( (refine callS_use2 (C := s_push _ _ _ _ _ _ _ _ _ _ (by assumption) (by assumption) (by k_all)) (R := ?_); intro _ _ _ _ _ l1; (try simp only [AllLt, and_true] at l1))))
  unfold CallS
  k_fill
  intro mean mg mb dp un gd cn cs a ccd cl outer A₀ base h₀ L m s Q E B F X N T hk hR hu hret
  refine wpAny_call ?_
  refine' code_def (binds := [(Str.ofString "stack", .ref x)]) B F X N T rfl rfl hk ?k6 ?k7 ?k8 ?k9 ?kB ?_ ?c2 ?c3 ?c4 ?c5
  case k6 => k_is
  case k7 => k_is
  case k8 => exact om0 (by assumption)
  case k9 => exact BindsTo.of_eq rfl
  case kB => exact locs rfl
  case c2 => exact rfl
  case c3 => exact rfl
  case c4 => exact rfl
  case c5 => decide
  intro g' L' h' FG' F' N' B' X' T'
  try dsimp only
  try k_fold
  k_steps
  exact hret _ _ _ (by k_asm) (ledger_drop (by assumption) (by walk_at "MYSUB"))
theorem s_top1 (w : World) (x dx q0 : Addr) (ys : List Value) (b g : Str) (tb tg : Tok) (n : Nat) (t1 t2 : Tok) (rest : List (Addr × Obj)) (hz : ys.length ≤ 100) (hzA : ys.toArray.size ≤ 100) (hne : (dx : Nat) ≠ x) (hnq : (q0 : Nat) ≠ x) (hr : ∀ p ∈ rest, p.1 ≠ x)
     (hlen : b.length ≤ 1 ∧ g.length ≤ 1) (hbg : b ++ g ≠ Str.ofString "") :
   CallS w 195 60 600 ((x, accObj dx (ys ++ [Value.ref q0]).toArray n) :: (dx, accD w t1 t2) :: (q0, tupObj [.str b tb, .str g tg]) :: rest) [.ref x]
    (fun _ h₀ L m s Q => ∀ q n' tk h', Fr h₀ L h' m → News h₀ L h' ((x, accObj dx (ys ++ [Value.ref q]).toArray n') :: (dx, accD w t1 t2) :: (q, tupObj [.str b tb, .str g tg]) :: rest) → AllLt q ((x, accObj dx (ys ++ [Value.ref q0]).toArray n) :: (dx, accD w t1 t2) :: (q0, tupObj [.str b tb, .str g tg]) :: rest) → Q (.str g tg) { s with heap := h', toks := tk }) := by
  k_with_none
  k_with "ktr_room" => first | exact om2 (by assumption) rfl | exact om1 (by assumption) rfl | exact om0 (by assumption) | exact om3 rfl
  k_with "k_all" => first | assumption | exact ne_of_allLt (by assumption) | exact ne_of_allLt (And.right (by assumption)) | exact ne_of_allLt (And.right (And.right (by assumption))) | exact ne_of_allLt (And.right (And.right (And.right (by assumption)))) | exact ne_of_allLt (And.right (And.right (And.right (And.right (by assumption))))) | exact ne_of_allLt (And.right (And.right (And.right (And.right (And.right (by assumption))))))
  k_with "k_inst" => (apply inst_acc; k_asm; k_mem; k_mem)
  k_with "MYSUB" => first | exact List.forall_mem_nil _ | (refine List.forall_mem_cons.mpr ⟨by k_memK, ?_⟩; walk_at "MYSUB") | (intro _ hp; repeat (first | exact hp | refine List.mem_cons_of_mem _ ?_))
  k_with "wpAt" => ((show PySem.wpAt _ _ _ _ _ _ _); ks_step "exec Expr"; k_dflt (refine ks_wpAt_Expr_any ?_))
  k_with "wpAt" => ((show PySem.wpAt _ _ _ _ _ _ _); ks_step "eval Call"; k_dflt (refine ks_wpAt_MethodCall ?_))
  k_with "wpAt" => ((show PySem.wpAt _ _ _ _ _ _ _); ks_step "execs cons"; refine ks_wpAt_execs_cons ?_)
  k_with "getMethod ref" => (k_here; k_dflt (first | (apply acc_method; k_asm; k_asm; k_asm; k_mem; k_mem; k_is; k_is; decide; rfl; k_whole) | (apply sup_len; k_asm; k_asm; k_asm; k_mem; k_mem; intro q' h' F' N' l1; (try k_lt l1)) | (apply sup_pop; k_asm; k_asm; k_asm; k_mem; k_mem; intro q' h' F' N' l1; (try k_lt l1)) | (apply sup_init; k_asm; k_asm; k_asm; k_mem; k_mem; intro _ _ _ _ l1; (try k_lt l1))))
  k_with "call builtin:list.append" => (k_here; k_dflt (refine acc_append (by k_asm) (by k_asm) (by k_asm) (by k_mem) (by k_upd) (by assumption) ?_; intro _ _ _))
  k_with "callWith ref" => (k_here; k_dflt (first | (apply bnd_len; k_asm; k_asm; k_asm; k_mem; k_mem) | (apply bnd_pop; k_asm; k_asm; k_asm; k_mem; k_mem; k_upd; assumption; intro h' F' N') | (apply bnd_init; k_asm; k_asm; k_asm; k_mem; rotate_left 1; k_mem; rotate_right 1; k_upd; intro _ _ _)))
  k_with "call ref" => (k_here; (with_reducible show wpAny _ _ (call (Value.ref 139) _) _ _ _); k_dflt (refine callS_use2 (C := s_part_count _ _ _ _ _ _ _ _) (R := ?_); intro _ _ _ _ _))
  k_with "call ref" => (k_here; (with_reducible show wpAny _ _ (call (Value.ref 102) _) _ _ _); k_dflt (first | (refine callS_use2 (C := s_pop0 _ _ _ _ _ _ _) (R := ?_); intro _ _ _ _ _ _ _ l1; (try simp only [AllLt, and_true] at l1)) | (refine callS_use2 (C := s_pop1 _ _ _ _ _ _ _ _ _ (by assumption) (by assumption) (by k_all)) (R := ?_); intro _ _ _ _)))
  k_with "call ref" => (k_here; (with_reducible show wpAny _ _ (call (Value.ref 86) _) _ _ _); k_dflt ( (refine callS_use2 (C := s_push _ _ _ _ _ _ _ _ _ _ (by assumption) (by assumption) (by k_all)) (R := ?_); intro _ _ _ _ _ l1; (try simp only [AllLt, and_true] at l1))))
  unfold CallS
  k_fill
  intro mean mg mb dp un gd cn cs a ccd cl outer A₀ base h₀ L m s Q E B F X N T hk hR hu hret
  refine wpAny_call ?_
  refine' code_def (binds := [(Str.ofString "stack", .ref x)]) B F X N T rfl rfl hk ?k6 ?k7 ?k8 ?k9 ?kB ?_ ?c2 ?c3 ?c4 ?c5
  case k6 => k_is
  case k7 => k_is
  case k8 => exact om0 (by assumption)
  case k9 => exact BindsTo.of_eq rfl
  case kB => exact locs rfl
  case c2 => exact rfl
  case c3 => exact rfl
  case c4 => exact rfl
  case c5 => decide
  intro g' L' h' FG' F' N' B' X' T'
  try dsimp only
  try k_fold
  k_steps
  · rename News h₀ L _ _ => N9
    rw [List.push_toArray] at N9
    exact hret _ _ _ _ (by k_asm) (ledger_drop N9 (by walk_at "MYSUB")) (by assumption)
  · exact absurd (bne_eq_false_iff_eq.mp (by assumption)) hbg
end
end
section
open PySem PySem.W PyProof.Rows PySem.Spec PySem.Calls
section
variable {prog : Program} {w : World} {A : Around} {s : Shared} {E : Value → Shared → Prop} {env : Env}
theorem turn_abs {t : Expr} {v : Value} {body : List Stmt} {Q : Flow → Shared → Prop} (h : ∀ QT : Flow → Shared → Prop, (∀ f s', Q f s' → QT f s') → wpAny (model prog w) A (assign t env v) (fun _ s₃ => wpAny (model prog w) A (execs body env) QT E s₃) E s) :
    wpAny (model prog w) A (assign t env v) (fun _ s₃ => wpAny (model prog w) A (execs body env) Q E s₃) E s := h Q fun _ _ h => h
theorem body_abs {body : List Stmt} {Q : Flow → Shared → Prop} (h : ∀ QT : Flow → Shared → Prop, (∀ f s', Q f s' → QT f s') → wpAny (model prog w) A (execs body env) QT E s) : wpAny (model prog w) A (execs body env) Q E s := h Q fun _ _ h => h
theorem while_abs {test : Expr} {body : List Stmt} {Q : Flow → Shared → Prop} {P2 : Shared → Prop} (h : ∀ QT : Flow → Shared → Prop, (∀ f s', Q f s' → QT f s') → wpAny (model prog w) A (isTrue test env (eval test env)) (fun b s₂ => if b = true then wpAny (model prog w) A (execs body env) QT E s₂ else P2 s₂) E s) :
    wpAny (model prog w) A (isTrue test env (eval test env)) (fun b s₂ => if b = true then wpAny (model prog w) A (execs body env) Q E s₂ else P2 s₂) E s := h Q fun _ _ h => h
theorem comp_abs {ct elt : Expr} {Q1 Q2 : Value → Shared → Prop} {v : Value} (h : ∀ QC QN : Value → Shared → Prop, (∀ y s', Q1 y s' → QC y s') → (∀ y s', Q2 y s' → QN y s') → wpAny (model prog w) A (isTrue ct env (eval ct env)) (fun ok s' => if ok = true then wpAny (model prog w) A (eval elt env) QC E s' else QN v s') E s) :
    wpAny (model prog w) A (isTrue ct env (eval ct env)) (fun ok s' => if ok = true then wpAny (model prog w) A (eval elt env) Q1 E s' else Q2 v s') E s := h Q1 Q2 (fun _ _ h => h) fun _ _ h => h
theorem fun_abs {body : List Stmt} {Q : Flow → Shared → Prop} (hp : PassesOwn (model prog w) A env E) (h : ∀ (QF : Flow → Shared → Prop) (EF : Value → Shared → Prop), (∀ f s', Q f s' → QF f s') → PassesOwn (model prog w) A env EF → wpAny (model prog w) A (execs body env) QF EF s) : wpAny (model prog w) A (execs body env) Q E s := h Q E (fun _ _ h => h) hp
theorem elt_abs {elt : Expr} {Q : Value → Shared → Prop} (h : ∀ QC : Value → Shared → Prop, (∀ y s', Q y s' → QC y s') → wpAny (model prog w) A (eval elt env) QC E s) : wpAny (model prog w) A (eval elt env) Q E s := h Q fun _ _ h => h
end
section
variable {prog : Program} {w : World} {A : Around} {E : Value → Shared → Prop} {s : Shared} {env : Env} {h₀ : Heap} {x : Str} {body : List Stmt} {Q : Flow → Shared → Prop}
/-- a turn's end, the iterator at I -/
def TurnEnd (h₀ : Heap) (L I : Addr) (o : Obj) (J : (Str → Option Value) → List (Addr × Obj) → Prop) (s : Shared) (Q : Flow → Shared → Prop) (f : Flow) (s₂ : Shared) : Prop := match f with
  | .ret v => Q (.ret v) s₂
  | .brk => Q .next s₂
  | _ => ∃ h' tk m' news', s₂ = { s with heap := h', toks := tk } ∧ Fr h₀ L h' m' ∧ News h₀ L h' ((I, o) :: news') ∧ (∀ p ∈ news', p.1 ≠ I) ∧ J m' news'
theorem TurnEnd.next {L I : Addr} {o : Obj} {J : (Str → Option Value) → List (Addr × Obj) → Prop} {h' : Heap} {tk : Nat} {m' : Str → Option Value} {news' : List (Addr × Obj)}
    (F : Fr h₀ L h' m') (N : News h₀ L h' ((I, o) :: news')) (hn : ∀ p ∈ news', p.1 ≠ I) (hj : J m' news') : TurnEnd h₀ L I o J s Q .next { s with heap := h', toks := tk } := ⟨h', tk, m', news', rfl, F, N, hn, hj⟩
theorem loop1_J {I : Addr} {n : Nat} {P : Nat → Value → Prop} {St : Nat → Heap → Prop} {m₀ : Str → Option Value} {news : List (Addr × Obj)} (J : Nat → (Str → Option Value) → List (Addr × Obj) → Prop)
    (W : Walks prog w A I [I] [I] n P St) (hL : env.locals ≠ I) (hI : h₀.get? I = none) (hst : St 0 s.heap) (F : Fr h₀ env.locals s.heap m₀) (N : News h₀ env.locals s.heap news) (hn : ∀ p ∈ news, p.1 ≠ I) (hj : J 0 m₀ news)
    (live : ∀ i h, St i h → ∃ o, h.get? I = some o)
    (turn : ∀ i v m₁ news₁ h tk o, i < n → P i v → J i m₁ news₁ → (∀ p ∈ news₁, p.1 ≠ I) → Fr h₀ env.locals h (fun y => if y = x then some v else m₁ y) → News h₀ env.locals h ((I, o) :: news₁) →
      wpAny (model prog w) A (execs body env) (TurnEnd h₀ env.locals I o (J (i + 1)) { s with heap := h, toks := tk } Q) E { s with heap := h, toks := tk })
    (done : ∀ m₁ news₁ h tk, J n m₁ news₁ → Fr h₀ env.locals h m₁ → News h₀ env.locals h news₁ → Q .next { s with heap := h, toks := tk }) :
    LoopAtV prog w A h₀ env x body Q E (.ref I) s := by
  refine ⟨I, [I], [I], n, P, St, m₀, news, J, rfl, W, ?_, ?_, ?_, hst, F, N, hj, ?_, ?_⟩
  · intro h; exact hL (List.mem_singleton.mp h)
  · intro b hb; rw [List.mem_singleton.mp hb]; exact hI
  · intro p hp h; exact hn p hp (List.mem_singleton.mp h)
  · rintro i v m₁ news₁ s₁ own ⟨hh, tk, rfl⟩ hin hP hJ hoff hown hget hall hst' F₁ N₁
    obtain ⟨o, ho⟩ := live _ _ hst'
    have hin' : (I, o) ∈ own := hall I (List.mem_singleton.mpr rfl) hI o ho
    have hoff' : ∀ p ∈ news₁, p.1 ≠ I := fun p hp e => hoff p hp (List.mem_singleton.mpr e)
    have N₂ : News h₀ env.locals hh ((I, o) :: news₁) := fun p hp => by
      rcases List.mem_cons.mp hp with rfl | hp
      · exact N₁ _ (List.mem_append_left _ hin')
      · exact N₁ _ (List.mem_append_right _ hp)
    refine wpAny_mono (turn i v m₁ news₁ hh tk o hin hP hJ hoff' F₁ N₂) (fun f s₂ p => ?_) fun _ _ e => e
    have fin : (∃ h' tk' m' news', s₂ = { s with heap := h', toks := tk' } ∧ Fr h₀ env.locals h' m' ∧ News h₀ env.locals h' ((I, o) :: news') ∧ (∀ p ∈ news', p.1 ≠ I) ∧ J (i + 1) m' news') →
        LoopStepU h₀ env.locals [I] own (J (i + 1)) { s with heap := hh, toks := tk } .next s₂ := by
      rintro ⟨h', tk', m', news', e, F', N', hn', hj'⟩
      refine ⟨rfl, h', tk', m', news', e, F', fun p hp => ?_, fun p hp h => hn' p hp (List.mem_singleton.mp h), hj'⟩
      rcases List.mem_append.mp hp with hp | hp
      · have e1 := List.mem_singleton.mp (hown p hp)
        have e2 : p = (I, o) := by
          have := hget p hp
          rw [e1] at this
          have e3 : p.2 = o := Option.some.inj (this.symm.trans ho)
          exact Prod.ext e1 e3
        rw [e2]; exact N' _ (.head _)
      · exact N' _ (.tail _ hp)
    cases f with
    | ret v => exact .ret p
    | brk => exact .brk p
    | next => exact .next (fin p)
    | cont => exact .cont (fin p)
  · intro h' tk m' news' F' N' _ hJ
    exact done m' news' h' tk hJ F' N'
theorem live_at {prog : Program} {w : World} {I : Addr} {n : Nat} {P : Nat → Value → Prop} {St : Nat → Heap → Prop} (W : Walks prog w A I [I] [I] n P St) {i : Nat} {h : Heap} (e : St i h) : True := trivial
theorem iter_str_J {xt : Str} {tx : Tok} {m₀ : Str → Option Value} {news : List (Addr × Obj)} (J : Nat → (Str → Option Value) → List (Addr × Obj) → Prop)
    (hh : A.handled = none) (F : Fr h₀ env.locals s.heap m₀) (N : News h₀ env.locals s.heap news) (hj : J 0 m₀ news)
    (turn : ∀ i c t m₁ news₁ h tk I o, xt.cps[i]? = some c → J i m₁ news₁ → (∀ p ∈ news₁, p.1 ≠ I) → Fr h₀ env.locals h (fun y => if y = x then some (.str ⟨#[c]⟩ t) else m₁ y) → News h₀ env.locals h ((I, o) :: news₁) →
      wpAny (model prog w) A (execs body env) (TurnEnd h₀ env.locals I o (J (i + 1)) { s with heap := h, toks := tk } Q) E { s with heap := h, toks := tk })
    (done : ∀ m₁ news₁ h tk, J xt.cps.size m₁ news₁ → Fr h₀ env.locals h m₁ → News h₀ env.locals h news₁ → Q .next { s with heap := h, toks := tk }) :
    wpAny (model prog w) A (pyIter (.str xt tx)) (fun it s₂ => LoopAtV prog w A h₀ env x body Q E it s₂) E s := by
  have lt : ∀ p ∈ news, p.1 ≠ s.heap.objs.size := fun p hp => Nat.ne_of_lt (Heap.lt_size (N p hp).1)
  have main : ∀ (St : Nat → Heap → Prop) (o : Obj), Walks prog w A s.heap.objs.size [s.heap.objs.size] [s.heap.objs.size] xt.cps.size (SignAt xt) St → St 0 (s.heap.push o) → (∀ i h, St i h → ∃ o, h.get? s.heap.objs.size = some o) →
      LoopAtV prog w A h₀ env x body Q E (.ref s.heap.objs.size) { s with heap := s.heap.push o } := by
    intro St o W h0 live
    refine loop1_J (s := { s with heap := s.heap.push o }) J W (fun e => absurd F.ns.lt (e ▸ Nat.lt_irrefl _)) (next_is_new F) h0 (F.push _) (fun p hp => ⟨Heap.get?_push_of_some _ (N p hp).1, (N p hp).2⟩) lt hj live ?_ done
    rintro i v m₁ news₁ h tk o' hi ⟨c, u, hc, rfl⟩ hJ hoff F₁ N₁
    exact turn i c u m₁ news₁ h tk _ o' hc hJ hoff F₁ N₁
  cases ha : xt.cps.all (· < 128)
  · exact wpAny_pyIter_wide ha (main _ _ (Walks.strWide hh _ xt tx) ⟨_, Heap.get?_push_size _ rfl, rfl, rfl⟩ (fun i h e => let ⟨o, ho, _⟩ := e; ⟨o, ho⟩))
  · exact wpAny_pyIter_ascii ha (main _ _ (Walks.strAscii hh _ xt tx) ⟨_, Heap.get?_push_size _ rfl, rfl, rfl⟩ (fun i h e => let ⟨o, ho, _⟩ := e; ⟨o, ho⟩))
theorem loop_rangeIter_J {I : Addr} {a c : Int} {n : Nat} {m₀ : Str → Option Value} {news : List (Addr × Obj)} (J : Nat → (Str → Option Value) → List (Addr × Obj) → Prop)
    (hh : A.handled = none) (hit : IsRangeIter s.heap I a n c) (hL : env.locals ≠ I) (hI : h₀.get? I = none) (F : Fr h₀ env.locals s.heap m₀) (N : News h₀ env.locals s.heap news) (hn : ∀ p ∈ news, p.1 ≠ I) (hj : J 0 m₀ news)
    (turn : ∀ i t m₁ news₁ h tk o, i < n → J i m₁ news₁ → (∀ p ∈ news₁, p.1 ≠ I) → Fr h₀ env.locals h (fun y => if y = x then some (.int (a + (i : Nat) * c) t) else m₁ y) → News h₀ env.locals h ((I, o) :: news₁) →
      wpAny (model prog w) A (execs body env) (TurnEnd h₀ env.locals I o (J (i + 1)) { s with heap := h, toks := tk } Q) E { s with heap := h, toks := tk })
    (done : ∀ m₁ news₁ h tk, J n m₁ news₁ → Fr h₀ env.locals h m₁ → News h₀ env.locals h news₁ → Q .next { s with heap := h, toks := tk }) :
    LoopAtV prog w A h₀ env x body Q E (.ref I) s := by
  have W : Walks prog w A I [I] [I] n (fun i v => i < n ∧ ∃ t, v = .int (a + i * c) t) (fun i h => IsRangeIter h I (a + (i : Nat) * c) ((n : Int) - (i : Nat)) c) := (Walks.range hh _ a c n).bound
  refine loop1_J J W hL hI (by simpa using hit) F N hn hj (fun i h e => ⟨_, e⟩) ?_ done
  rintro i v m₁ news₁ h tk o' hi ⟨_, t, rfl⟩ hJ hoff F₁ N₁
  exact turn i t m₁ news₁ h tk o' hi hJ hoff F₁ N₁
theorem iter_range_J {r : Addr} {a b c : Int} {t₀ u₀ v₀ : Tok} {n : Nat} {m₀ : Str → Option Value} {news : List (Addr × Obj)} (J : Nat → (Str → Option Value) → List (Addr × Obj) → Prop)
    (hh : A.handled = none) (hr : IsRange s.heap r a b c t₀ u₀ v₀) (hsmall : Builtin.Range.small a b c = true) (hn : Builtin.Range.rangeSize a b c = (n : Int)) (F : Fr h₀ env.locals s.heap m₀) (N : News h₀ env.locals s.heap news) (hj : J 0 m₀ news)
    (turn : ∀ i t m₁ news₁ h tk I o, i < n → J i m₁ news₁ → (∀ p ∈ news₁, p.1 ≠ I) → Fr h₀ env.locals h (fun y => if y = x then some (.int (a + (i : Nat) * c) t) else m₁ y) → News h₀ env.locals h ((I, o) :: news₁) →
      wpAny (model prog w) A (execs body env) (TurnEnd h₀ env.locals I o (J (i + 1)) { s with heap := h, toks := tk } Q) E { s with heap := h, toks := tk })
    (done : ∀ m₁ news₁ h tk, J n m₁ news₁ → Fr h₀ env.locals h m₁ → News h₀ env.locals h news₁ → Q .next { s with heap := h, toks := tk }) :
    wpAny (model prog w) A (pyIter (.ref r)) (fun it s₂ => LoopAtV prog w A h₀ env x body Q E it s₂) E s := by
  refine wpAny_pyIter_range hr hsmall ?_
  rw [hn]
  exact loop_rangeIter_J (s := { s with heap := s.heap.push _ }) J hh (Heap.get?_push_size _ rfl) (fun e => absurd F.ns.lt (e ▸ Nat.lt_irrefl _)) (next_is_new F) (F.push _) (fun p hp => ⟨Heap.get?_push_of_some _ (N p hp).1, (N p hp).2⟩)
    (fun p hp => Nat.ne_of_lt (Heap.lt_size (N p hp).1)) hj (fun i t m₁ news₁ h tk o hi hJ hoff F₁ N₁ => turn i t m₁ news₁ h tk _ o hi hJ hoff F₁ N₁) done
theorem iter_rangeIter_J {I : Addr} {a c : Int} {n : Nat} {m₀ : Str → Option Value} {news : List (Addr × Obj)} (J : Nat → (Str → Option Value) → List (Addr × Obj) → Prop)
    (hh : A.handled = none) (hit : IsRangeIter s.heap I a n c) (hL : env.locals ≠ I) (hI : h₀.get? I = none) (F : Fr h₀ env.locals s.heap m₀) (N : News h₀ env.locals s.heap news) (hn : ∀ p ∈ news, p.1 ≠ I) (hj : J 0 m₀ news)
    (turn : ∀ i t m₁ news₁ h tk o, i < n → J i m₁ news₁ → (∀ p ∈ news₁, p.1 ≠ I) → Fr h₀ env.locals h (fun y => if y = x then some (.int (a + (i : Nat) * c) t) else m₁ y) → News h₀ env.locals h ((I, o) :: news₁) →
      wpAny (model prog w) A (execs body env) (TurnEnd h₀ env.locals I o (J (i + 1)) { s with heap := h, toks := tk } Q) E { s with heap := h, toks := tk })
    (done : ∀ m₁ news₁ h tk, J n m₁ news₁ → Fr h₀ env.locals h m₁ → News h₀ env.locals h news₁ → Q .next { s with heap := h, toks := tk }) :
    wpAny (model prog w) A (pyIter (.ref I)) (fun it s₂ => LoopAtV prog w A h₀ env x body Q E it s₂) E s :=
  wpAny_pyIter_rangeiter hit (loop_rangeIter_J J hh hit hL hI F N hn hj turn done)
end
section
variable {prog : Program} {w : World} {A : Around} {E : Value → Shared → Prop} {s : Shared}
theorem sub_ri_reversed : isSubtype (.type "range_iterator") (.type "reversed") = pure false := by rw [isSubtype_type]; kernel_rfl
theorem call_range_reversed {r : Addr} {a b c : Int} {t u v : Tok} {Q : Value → Shared → Prop} (hr : IsRange s.heap r a b c t u v)
    (hz : (Builtin.Range.rangeFitsLong a && Builtin.Range.rangeFitsLong b && Builtin.Range.rangeFitsLong c && Builtin.Range.rangeFitsLong (-c) && Builtin.Range.rangeFitsLong (a - c) && Builtin.Range.rangeFitsLong (Builtin.Range.rangeSize a b c)) = true)
    (h : Q (.ref s.heap.objs.size) { s with heap := s.heap.push { cls := .type "range_iterator", data := .fields #[rawInt (a + (Builtin.Range.rangeSize a b c - 1) * c), rawInt (Builtin.Range.rangeSize a b c), rawInt (-c)] } }) :
    wpAny (model prog w) A (call (.builtin "range.__reversed__") [.ref r]) Q E s := by
  have hT : s.TypeIs (.ref r) "range" := ⟨_, hr, rfl⟩
  obtain ⟨hh, g, d, tk, os⟩ := s
  refine wpAny_call_entry F.slot_range_reversed hT F.entry_range_reversed ?_ (F.args_range_reversed_1 _)
  unfold Builtin.«range.__reversed__»
  repeat (first | lk | simp only [hz, Bool.not_true, Bool.false_eq_true, if_false, if_true])
  exact ⟨_, rfl, h⟩
theorem code_reversed_range {r : Addr} {a b c : Int} {t u v : Tok} {Q₁ : Value → Shared → Prop} (hr : IsRange s.heap r a b c t u v)
    (hz : (Builtin.Range.rangeFitsLong a && Builtin.Range.rangeFitsLong b && Builtin.Range.rangeFitsLong c && Builtin.Range.rangeFitsLong (-c) && Builtin.Range.rangeFitsLong (a - c) && Builtin.Range.rangeFitsLong (Builtin.Range.rangeSize a b c)) = true)
    (h : Q₁ (.ref s.heap.objs.size) { s with heap := s.heap.push { cls := .type "range_iterator", data := .fields #[rawInt (a + (Builtin.Range.rangeSize a b c - 1) * c), rawInt (Builtin.Range.rangeSize a b c), rawInt (-c)] } }) :
    codeAny (model prog w) A (.call (.builtin "reversed.__new__") ⟨[.type "reversed", .ref r], []⟩) (wants Q₁ E) s := by
  have hT : s.TypeIs (.ref r) "range" := ⟨_, hr, rfl⟩
  refine codeAny_of_tree ?_
  show wpAny _ A.in1 (do checkBuiltinCall "reversed.__new__" ⟨[.type "reversed", .ref r], []⟩; again (.builtin "reversed.__new__" ⟨[.type "reversed", .ref r], []⟩)) _ _ s
  refine wpAny_bind (wpAny_of_eq (F.newCall_reversed_1 _) (wpAny_pure ⟨plainId_quiet F.plain_reversed_new _, codeAny_builtin F.entry_reversed_new ?_⟩))
  rw [Around.under_plainId F.plain_reversed_new _]
  unfold Builtin.«reversed.__new__»
  refine wpAny_bind (wpAny_of_eq (newClass_reversed _) ?_)
  try dsimp only
  refine wpAny_bind (wpAny_of_eq (a := ()) (by first | rfl | kernel_rfl) ?_)
  refine wpAny_bind (wpAny_of_eq (a := ()) (by first | rfl | kernel_rfl) ?_)
  try dsimp only
  refine wpAny_bind (wpAny_specialOf hT F.slot_range_reversed.lookup ?_)
  try dsimp only
  refine wpAny_bind (wpAny_of_eq (F.slot_range_reversed.bind _) ?_)
  try dsimp only
  first
  | rw [if_neg (show ¬ ((Value.builtin "range.__reversed__" == Value.none) = true) from Bool.false_ne_true)]
  | (show wpAny _ _ (if (Value.builtin "range.__reversed__" == Value.none) = true then _ else _) _ _ _; rw [if_neg (show ¬ ((Value.builtin "range.__reversed__" == Value.none) = true) from Bool.false_ne_true)])
  refine wpAny_bind (wpAny_rule ?_)
  refine wpAny_bind (m := runValue (.call (.builtin "range.__reversed__") ⟨[.ref r], []⟩)) (show wpAny _ _ (call (.builtin "range.__reversed__") [.ref r]) _ _ _ from call_range_reversed hr hz ?_)
  first
  | exact wpAny_pure h
  | exact wpAny_bind (wpAny_pure (wpAny_pure h))
theorem call_reversed_range {r : Addr} {a b c : Int} {t u v : Tok} {Q : Value → Shared → Prop} (hr : IsRange s.heap r a b c t u v)
    (hz : (Builtin.Range.rangeFitsLong a && Builtin.Range.rangeFitsLong b && Builtin.Range.rangeFitsLong c && Builtin.Range.rangeFitsLong (-c) && Builtin.Range.rangeFitsLong (a - c) && Builtin.Range.rangeFitsLong (Builtin.Range.rangeSize a b c)) = true)
    (h : Q (.ref s.heap.objs.size) { s with heap := s.heap.push { cls := .type "range_iterator", data := .fields #[rawInt (a + (Builtin.Range.rangeSize a b c - 1) * c), rawInt (Builtin.Range.rangeSize a b c), rawInt (-c)] } }) :
    wpAny (model prog w) A (call (.type "reversed") [.ref r]) Q E s := by
  refine callType_other (U := "range_iterator") (Q₁ := fun obj s₁ => obj = .ref s.heap.objs.size ∧ s₁ = { s with heap := s.heap.push { cls := .type "range_iterator", data := .fields #[rawInt (a + (Builtin.Range.rangeSize a b c - 1) * c), rawInt (Builtin.Range.rangeSize a b c), rawInt (-c)] } }) (by decide +kernel) F.create_reversed ⟨_, _, F.mro_reversed⟩ F.made_reversed sub_ri_reversed (F.typeCall_reversed_1 _) (code_reversed_range hr hz ⟨rfl, rfl⟩) ?_
  rintro obj s₁ ⟨rfl, rfl⟩
  exact ⟨⟨_, Heap.get?_push_size _ rfl, rfl⟩, h⟩
abbrev rgIter (a : Int) (n : Nat) (c : Int) : Obj := { cls := .type "range_iterator", data := .fields #[rawInt a, rawInt n, rawInt c] }
theorem reversed_K {h₀ : Heap} {L : Addr} {m : Str → Option Value} {news : List (Addr × Obj)} {r : Addr} {b : Int} {n : Nat} {t u v : Tok} {Q : Value → Shared → Prop} (F : Fr h₀ L s.heap m) (N : News h₀ L s.heap news) (hr : IsRange s.heap r 0 b 1 t u v) (hb : b = (n : Int)) (hn : n ≤ 100)
    (h : ∀ q h', Fr h₀ L h' m → News h₀ L h' ((q, rgIter ((n : Int) - 1) n (-1)) :: news) → (∀ p ∈ news, p.1 < q) → L < q → Q (.ref q) { s with heap := h' }) :
    wpAny (model prog w) A (call (.type "reversed") [.ref r]) Q E s := by
  subst hb
  have e : Builtin.Range.rangeSize 0 (n : Int) 1 = (n : Int) := by
    unfold Builtin.Range.rangeSize
    rw [if_pos (by decide)]
    split
    · omega
    · omega
  have e2 : (0 + (Builtin.Range.rangeSize 0 (n : Int) 1 - 1) * 1 : Int) = (n : Int) - 1 := by rw [e]; omega
  refine call_reversed_range hr ?_ ?_
  · rw [e]
    simp [Builtin.Range.rangeFitsLong]
    omega
  · rw [e2, e]
    exact h _ _ (F.push _) (N.push F _) (fun p hp => Heap.lt_size (N p hp).1) F.ns.lt
end
end
section
open PySem PySem.W PyProof.Rows PySem.Spec PySem.Calls
open Builtin
/-- a text of the letters with these numbers -/
def tw (l : List Nat) : Str := ⟨(l.map (· + 97)).toArray⟩
theorem tw_lt (x y : Nat) : ((tw [x]).cps.toList < (tw [y]).cps.toList) ↔ x < y := by
  show ([x + 97] < [y + 97]) ↔ x < y
  rw [List.cons_lt_cons_iff]
  simp
def Strs : List Value → List Nat → Prop
  | [], [] => True
  | v :: vs, x :: xs => (∃ t, v = .str (tw [x]) t) ∧ Strs vs xs
  | _, _ => False
/-- what _siftdown(heap, 0, pos) leaves of up to four -/
def sd0 : List Nat → List Nat := fun l => l
def sd1 : List Nat → List Nat
  | a :: b :: l => if b < a then b :: a :: l else a :: b :: l
  | l => l
def sd2 : List Nat → List Nat
  | a :: b :: c :: l => if c < a then c :: b :: a :: l else a :: b :: c :: l
  | l => l
def sd3 : List Nat → List Nat
  | [a, b, c, d] => if d < b then (if d < a then [d, a, c, b] else [a, d, c, b]) else [a, b, c, d]
  | l => l
/-- what _siftup(heap, 0) leaves of up to four -/
def su : List Nat → List Nat
  | [a, b] => sd1 [b, a]
  | [a, b, c] => if b < c then sd1 [b, a, c] else sd2 [c, b, a]
  | [a, b, c, d] => if b < c then sd3 [b, d, c, a] else sd2 [c, b, a, d]
  | l => l
def su1 : List Nat → List Nat
  | [a, b, c, d] => if b < d then [a, b, c, d] else [a, d, c, b]
  | l => l
def hfy : List Nat → List Nat
  | [a, b] => su [a, b]
  | [a, b, c] => su [a, b, c]
  | [a, b, c, d] => su (su1 [a, b, c, d])
  | l => l
def hpush : List Nat → Nat → List Nat
  | [], y => [y]
  | [a], y => sd1 [a, y]
  | [a, b], y => sd2 [a, b, y]
  | [a, b, c], y => sd3 [a, b, c, y]
  | l, _ => l
def hrest : List Nat → List Nat
  | [_, b] => su [b]
  | [_, b, c] => su [c, b]
  | [_, b, c, d] => su [d, b, c]
  | _ => []
/-- a map that parts from another at these names alone -/
def EqOff (xs : List Str) (m m₀ : Str → Option Value) : Prop := ∀ y, xs.contains y = false → m y = m₀ y
def ovr (xs : List Str) (u m₀ : Str → Option Value) : Str → Option Value := fun y => if xs.contains y then u y else m₀ y
theorem EqOff.refl {xs : List Str} {m : Str → Option Value} : EqOff xs m m := fun _ _ => rfl
theorem EqOff.eq {xs : List Str} {m m₀ : Str → Option Value} (h : EqOff xs m m₀) : m = ovr xs m m₀ := by
  funext y
  unfold ovr
  cases e : xs.contains y with
  | true => rfl
  | false => exact h y e
theorem EqOff.ite {xs : List Str} {x : Str} {v : Option Value} {m m₀ : Str → Option Value} (hx : xs.contains x = true) (h : EqOff xs m m₀) : EqOff xs (fun y => if y = x then v else m y) m₀ := fun y hy => by
  show (if y = x then v else m y) = m₀ y
  rw [if_neg (fun e => by rw [e, hx] at hy; cases hy)]
  exact h y hy
theorem EqOff.ovr {xs : List Str} {u m₀ : Str → Option Value} : EqOff xs (ovr xs u m₀) m₀ := fun y hy => by
  show (if xs.contains y then u y else m₀ y) = m₀ y
  rw [hy]; rfl
theorem EqOff.eq2 {xs : List Str} {x : Str} {v : Value} {m m₀ : Str → Option Value} (h : EqOff xs m m₀) (hv : m x = some v) : m = fun y => if y = x then some v else _root_.Mine.ovr xs m m₀ y := by
  funext y
  by_cases e : y = x
  · rw [if_pos e, e, hv]
  · rw [if_neg e]
    unfold _root_.Mine.ovr
    cases e2 : xs.contains y with
    | true => rfl
    | false => exact h y e2
theorem half_ex {p s : Nat} (h : s < p) : ∃ q : Nat, ((p : Int) - 1) / 2 = (q : Int) ∧ (p - 1) / 2 = q ∧ 0 ≤ (p : Int) - 1 ∧ q < p := ⟨(p - 1) / 2, by omega, rfl, by omega, by omega⟩
theorem two_ex (p : Nat) : ∃ c : Nat, 2 * (p : Int) + 1 = (c : Int) := ⟨2 * p + 1, by omega⟩
theorem one_ex (p : Nat) : ∃ c : Nat, (p : Int) + 1 = (c : Int) ∧ p + 1 = c := ⟨p + 1, rfl, rfl⟩
theorem two_nat {p c : Nat} (h : 2 * (p : Int) + 1 = (c : Int)) : 2 * p + 1 = c := by omega
theorem hlf_ex {n : Nat} (h : n ≤ 4) : ∃ k : Nat, (n : Int) / 2 = (k : Int) ∧ n / 2 = k ∧ k ≤ 100 ∧ k ≤ n := ⟨n / 2, by omega, rfl, by omega, by omega⟩
theorem dn_ex {k i : Nat} (h : i < k) : ∃ j : Nat, k - i = j + 1 ∧ ((k : Int) - 1 + (i : Nat) * (-1)) = (j : Int) ∧ k - (i + 1) = j ∧ j < k := ⟨k - (i + 1), by omega, by omega, rfl, by omega⟩
theorem strs0 {its : List Value} (h : Strs its []) : its = [] := by cases its with | nil => rfl | cons _ _ => exact h.elim
theorem strsC {its : List Value} {x : Nat} {xs : List Nat} (h : Strs its (x :: xs)) : ∃ t r, its = .str (tw [x]) t :: r ∧ Strs r xs := by
  cases its with
  | nil => exact h.elim
  | cons v r => obtain ⟨⟨t, rfl⟩, q⟩ := h; exact ⟨t, r, rfl, q⟩
theorem strs_len : ∀ {its : List Value} {l : List Nat}, Strs its l → its.length = l.length
  | [], [], _ => rfl
  | _ :: _, _ :: _, ⟨_, r⟩ => congrArg Nat.succ (strs_len r)
  | [], _ :: _, h => h.elim
  | _ :: _, [], h => h.elim
theorem strs_get : ∀ {its : List Value} {l : List Nat} (j : Nat), Strs its l → j < l.length → ∃ t, its[j]? = some (.str (tw [l.getD j 0]) t)
  | _ :: _, _ :: _, 0, ⟨⟨t, h⟩, _⟩, _ => ⟨t, congrArg some h⟩
  | _ :: _, _ :: _, j + 1, ⟨_, r⟩, hj => strs_get j r (Nat.lt_of_succ_lt_succ hj)
  | [], _ :: _, _, h, _ => h.elim
  | _, [], _, _, hj => absurd hj (Nat.not_lt_zero _)
theorem strs_set : ∀ {its : List Value} {l : List Nat} (j x : Nat) (t : Tok), Strs its l → Strs (its.set j (.str (tw [x]) t)) (l.set j x)
  | [], [], _, _, _, h => h
  | _ :: _, _ :: _, 0, _, t, ⟨_, r⟩ => ⟨⟨t, rfl⟩, r⟩
  | _ :: _, _ :: _, j + 1, x, t, ⟨p, r⟩ => ⟨p, strs_set j x t r⟩
  | [], _ :: _, _, _, _, h => h.elim
  | _ :: _, [], _, _, _, h => h.elim
theorem setL_some : ∀ (l : List Value) (k : Nat) (v : Value), k < l.length → ki_setL l k v = some (l.set k v)
  | [], _, _, h => absurd h (Nat.not_lt_zero _)
  | _ :: _, 0, _, _ => rfl
  | _ :: r, k + 1, v, h => by
    have q := setL_some r k v (Nat.lt_of_succ_lt_succ h)
    unfold ki_setL
    rw [q]
    rfl
/-- what _siftdown(heap, s, p) leaves, x the item at p -/
def sdL (x s : Nat) : Nat → Nat → List Nat → List Nat
  | 0, p, l => l.set p x
  | f + 1, p, l => if s < p then (if x < l.getD ((p - 1) / 2) 0 then sdL x s f ((p - 1) / 2) (l.set p (l.getD ((p - 1) / 2) 0)) else l.set p x) else l.set p x
theorem sdL_stop {x s f p : Nat} {l : List Nat} (h : s < p → ¬ x < l.getD ((p - 1) / 2) 0) : sdL x s f p l = l.set p x := by
  cases f with
  | zero => rfl
  | succ f =>
    unfold sdL
    by_cases h1 : s < p
    · rw [if_pos h1, if_neg (h h1)]
    · rw [if_neg h1]
theorem sdL_go {x s f p q : Nat} {l : List Nat} (h1 : s < p) (hq : (p - 1) / 2 = q) (h2 : x < l.getD q 0) (hf : p ≤ f) : ∃ f', f' < f ∧ q ≤ f' ∧ sdL x s f p l = sdL x s f' q (l.set p (l.getD q 0)) := by
  cases f with
  | zero => omega
  | succ f =>
    subst hq
    refine ⟨f, Nat.lt_succ_self f, by omega, ?_⟩
    show (if s < p then _ else _) = _
    rw [if_pos h1, if_pos h2]
/-- what the loop of _siftup leaves: the place and the list -/
def suC (l : List Nat) (c : Nat) : Nat := if c + 1 < l.length then (if l.getD c 0 < l.getD (c + 1) 0 then c else c + 1) else c
def suL : Nat → Nat → List Nat → Nat × List Nat
  | 0, p, l => (p, l)
  | f + 1, p, l => if 2 * p + 1 < l.length then suL f (suC l (2 * p + 1)) (l.set p (l.getD (suC l (2 * p + 1)) 0)) else (p, l)
theorem suL_stop {f p : Nat} {l : List Nat} (h : ¬ 2 * p + 1 < l.length) : suL f p l = (p, l) := by
  cases f with
  | zero => rfl
  | succ f => unfold suL; rw [if_neg h]
theorem suL_go {f p c c' : Nat} {l : List Nat} (hc : 2 * p + 1 = c) (h : c < l.length) (hc' : suC l c = c') (hf : l.length ≤ f + p) : ∃ f', f' < f ∧ l.length ≤ f' + c' ∧ suL f p l = suL f' c' (l.set p (l.getD c' 0)) := by
  cases f with
  | zero => omega
  | succ f =>
    subst hc hc'
    refine ⟨f, Nat.lt_succ_self f, ?_, ?_⟩
    · unfold suC; split <;> (try split) <;> omega
    · show (if 2 * p + 1 < l.length then _ else _) = _
      rw [if_pos h]
def supL (p : Nat) (l : List Nat) : List Nat := sdL (l.getD p 0) p (suL l.length p l).1 (suL l.length p l).1 ((suL l.length p l).2.set (suL l.length p l).1 (l.getD p 0))
section
variable {prog : Program} {w : World} {A : Around} {E : Value → Shared → Prop} {s : Shared} {h₀ : Heap} {L a : Addr} {m : Str → Option Value} {news news' : List (Addr × Obj)} {its : List Value} {k : Nat} {l : List Nat}
theorem EqOff.eq3 {xs : List Str} {x z : Str} {v u : Value} {m m₀ : Str → Option Value} (h : EqOff xs m m₀) (hv : m x = some v) (hu : m z = some u) : m = fun y => if y = z then some u else if y = x then some v else _root_.Mine.ovr xs m m₀ y := by
  funext y
  by_cases e : y = z
  · rw [if_pos e, e, hu]
  · rw [if_neg e]
    exact congrFun (h.eq2 hv) y
theorem get_at {j : Nat} {u : Tok} {value slice : Expr} {Q : Value → Shared → Prop} (N : News h₀ L s.heap news) (hm : (a, listOf its.toArray k) ∈ news) (hI : Strs its l) (hi : j < l.length ∧ l.length ≤ 4) (h : ∀ t, Q (.str (tw [l.getD j 0]) t) s)
    (hs : subscripted slice false (.ref a) (.int (j : Int) u) = operate [.ref a, .int (j : Int) u] (getItem (.ref a) (.int (j : Int) u)) := by with_unfolding_all rfl) :
    wpAny (model prog w) A (subscriptTail value slice (.ref a) (.int (j : Int) u)) Q E s := by
  have hl := News.isList N hm
  obtain ⟨t, ht⟩ := strs_get j hI hi.1
  exact tail_any hl.typeIs slot_list_getitem.lookup (wpAny_getItem_list hl (by omega) (by omega) (by simpa using ht) (h t)) hs
theorem set_at {j : Nat} {u : Tok} {v : Value} {Q : Unit → Shared → Prop} (F : Fr h₀ L s.heap m) (N : News h₀ L s.heap news) (hI : Strs its l) (hi : j < l.length ∧ l.length ≤ 4) (U : Upd a (listOf its.toArray k) (listOf (its.set j v).toArray k) news news')
    (h : ∀ h', Fr h₀ L h' m → News h₀ L h' news' → Q () { s with heap := h' }) : wpAny (model prog w) A (setItem (.ref a) (.int (j : Int) u) v) Q E s :=
  ki_set F N (by omega) (by omega) (setL_some its j v (by rw [strs_len hI]; exact hi.1)) U h
theorem len_at {Q : Value → Shared → Prop} (N : News h₀ L s.heap news) (hm : (a, listOf its.toArray k) ∈ news) (hI : Strs its l) (hi : l.length ≤ 4) (h : ∀ t tk, Q (.int (l.length : Int) t) { s with toks := tk }) : wpAny (model prog w) A (call (.builtin "len") [.ref a]) Q E s := by
  have e : its.toArray.size = l.length := by rw [List.size_toArray, strs_len hI]
  refine call_len_list (News.isList N hm) (by omega) ?_
  rw [e]
  exact h _ _
theorem half_to {i : Int} {q : Nat} {t u : Tok} {Q : Value → Shared → Prop} (hq : i / 2 = (q : Int)) (h0 : 0 ≤ i) (h : Q (.int (q : Int) s.toks) { s with toks := s.toks + 1 }) : wpAny (model prog w) A (binaryOp .RShift (.int i t) (.int 1 u)) Q E s :=
  wpAny_rshift1_int h0 (by rw [hq]; exact h)
theorem add_to {i j : Int} {q : Nat} {t u : Tok} {Q : Value → Shared → Prop} (hq : i + j = (q : Int)) (h : Q (.int (q : Int) s.toks) { s with toks := s.toks + 1 }) : wpAny (model prog w) A (binaryOp .Add (.int i t) (.int j u)) Q E s :=
  add_int (by rw [hq]; exact h)
end
theorem fr_name {h₀ h : Heap} {L : Addr} {m : Str → Option Value} (F : Fr h₀ L h m) : ∃ m0, m0 = m ∧ Fr h₀ L h m0 := ⟨m, rfl, F⟩
section
variable {prog : Program} {w : World} {A : Around} {E : Value → Shared → Prop} {Q : Flow → Shared → Prop} {s : Shared} {env : Env} {h₀ : Heap} {L : Addr}
theorem While_mid {test : Expr} {body : List Stmt} {pos : Pos} {m : Str → Option Value} {news : List (Addr × Obj)} (J : Nat → (Str → Option Value) → List (Addr × Obj) → Prop) (K : (Str → Option Value) → List (Addr × Obj) → Prop) {n₀ : Nat}
    (F : Fr h₀ L s.heap m) (N : News h₀ L s.heap news) (hJ : J n₀ m news)
    (turn : ∀ n m₁ news₁ h₁ tk₁ (QT : Flow → Shared → Prop) (QX : Shared → Prop),
      (∀ h' tk m' news' n', Fr h₀ L h' m' → News h₀ L h' news' → n' < n → J n' m' news' → QT .next { s with heap := h', toks := tk } ∧ QT .cont { s with heap := h', toks := tk }) →
      (∀ h' tk m' news', Fr h₀ L h' m' → News h₀ L h' news' → K m' news' → QT .brk { s with heap := h', toks := tk } ∧ QX { s with heap := h', toks := tk }) →
      Fr h₀ L h₁ m₁ → News h₀ L h₁ news₁ → J n m₁ news₁ →
      wpAny (model prog w) A (isTrue test env (eval test env)) (fun b s₂ =>
        if b = true then wpAny (model prog w) A (execs body env) QT E s₂ else QX s₂) E { s with heap := h₁, toks := tk₁ })
    (next : ∀ h' tk m' news', Fr h₀ L h' m' → News h₀ L h' news' → K m' news' → Q .next { s with heap := h', toks := tk })
    (hE : PassesOwn (model prog w) A env E := by passes_own) :
    wpAny (model prog w) A (exec (.While test body [] pos) env) Q E s := by
  refine wpAny_mono (Q := fun f s' => f = .next ∧ ∃ h' tk m' news', s' = { s with heap := h', toks := tk } ∧ Fr h₀ L h' m' ∧ News h₀ L h' news' ∧ K m' news') (While_inv2 J F N hJ (fun n m₁ news₁ h₁ tk₁ F₁ N₁ J₁ => turn n m₁ news₁ h₁ tk₁ _ _ ?_ ?_ F₁ N₁ J₁) hE) ?_ ?_
  · intro h' tk m' news' n' F' N' hn J'
    exact ⟨⟨h', tk, m', news', n', rfl, F', N', hn, J'⟩, ⟨h', tk, m', news', n', rfl, F', N', hn, J'⟩⟩
  · intro h' tk m' news' F' N' K'
    exact ⟨⟨rfl, h', tk, m', news', rfl, F', N', K'⟩, ⟨rfl, h', tk, m', news', rfl, F', N', K'⟩⟩
  · rintro _ _ ⟨rfl, h', tk, m', news', rfl, F', N', K'⟩
    exact next h' tk m' news' F' N' K'
  · exact fun _ _ h => h
end
theorem strs_app : ∀ {its : List Value} {l : List Nat} (x : Nat) (t : Tok), Strs its l → Strs (its ++ [.str (tw [x]) t]) (l ++ [x])
  | [], [], _, t, _ => ⟨⟨t, rfl⟩, trivial⟩
  | _ :: _, _ :: _, x, t, ⟨p, r⟩ => ⟨p, strs_app x t r⟩
  | [], _ :: _, _, _, h => h.elim
  | _ :: _, [], _, _, h => h.elim
theorem strs_unsnoc : ∀ {its : List Value} {l : List Nat} {x : Nat}, Strs its (l ++ [x]) → ∃ ys t, its = ys ++ [.str (tw [x]) t] ∧ Strs ys l
  | [v], [], _, ⟨⟨t, h⟩, _⟩ => ⟨[], t, by rw [h]; rfl, trivial⟩
  | v :: its, y :: l, x, ⟨p, r⟩ => by
    obtain ⟨ys, t, rfl, q⟩ := strs_unsnoc r
    exact ⟨v :: ys, t, rfl, p, q⟩
  | [], [], _, h => h.elim
  | [], _ :: _, _, h => h.elim
  | _ :: _ :: _, [], _, ⟨_, h⟩ => h.elim
theorem getD_len (l : List Nat) (x : Nat) : (l ++ [x]).getD l.length 0 = x := by simp
theorem hpush_eq (l : List Nat) (x : Nat) (h : l.length ≤ 3) : hpush l x = sdL x 0 l.length l.length (l ++ [x]) := by
  match l, h with
  | [], _ => rfl
  | [a], _ => rw [show hpush [a] x = if x < a then [x, a] else [a, x] from rfl]; simp [sdL]
  | [a, b], _ => rw [show hpush [a, b] x = if x < a then [x, b, a] else [a, b, x] from rfl]; simp [sdL]
  | [a, b, c], _ => rw [show hpush [a, b, c] x = if x < b then (if x < a then [x, a, c, b] else [a, x, c, b]) else [a, b, c, x] from rfl]; simp [sdL]
  | _ :: _ :: _ :: _ :: _, h => simp at h
theorem su_eq (l : List Nat) (h : l.length ≤ 4) (h0 : 0 < l.length) : su l = supL 0 l := by
  match l, h with
  | [a], _ => rfl
  | [a, b], _ => rw [show su [a, b] = if a < b then [a, b] else [b, a] from rfl]; simp [supL, suL, suC, sdL]
  | [a, b, c], _ => rw [show su [a, b, c] = if b < c then (if a < b then [a, b, c] else [b, a, c]) else (if a < c then [a, b, c] else [c, b, a]) from rfl]; by_cases h : b < c <;> simp [supL, suL, suC, sdL, h]
  | [a, b, c, d], _ => rw [show su [a, b, c, d] = if b < c then (if a < d then (if a < b then [a, b, c, d] else [b, a, c, d]) else [b, d, c, a]) else (if a < c then [a, b, c, d] else [c, b, a, d]) from rfl]; by_cases h : b < c <;> simp [supL, suL, suC, sdL, h]
  | _ :: _ :: _ :: _ :: _ :: _, h => simp at h
theorem supL_len (p : Nat) (l : List Nat) : (supL p l).length = l.length := by
  have h1 : ∀ x s f p (l : List Nat), (sdL x s f p l).length = l.length := by
    intro x s f
    induction f with
    | zero => intro p l; exact List.length_set
    | succ f ih => intro p l; unfold sdL; split <;> (try split) <;> simp [ih]
  have h2 : ∀ f p (l : List Nat), (suL f p l).2.length = l.length := by
    intro f
    induction f with
    | zero => intro p l; rfl
    | succ f ih => intro p l; unfold suL; split <;> simp [ih]
  unfold supL
  rw [h1, List.length_set, h2]
/-- what heapify leaves: _siftup at k - 1, .., 0 -/
def hfyL : Nat → List Nat → List Nat
  | 0, l => l
  | k + 1, l => hfyL k (supL k l)
theorem hfy_eq (l : List Nat) (h : l.length ≤ 4) : hfy l = hfyL (l.length / 2) l := by
  match l, h with
  | [], _ => rfl
  | [a], _ => simp [hfy, hfyL]
  | [a, b], _ => rw [show hfyL ([a, b].length / 2) [a, b] = supL 0 [a, b] from by simp [hfyL]]; exact su_eq [a, b] (Nat.le_of_ble_eq_true rfl) (Nat.le_of_ble_eq_true rfl)
  | [a, b, c], _ => rw [show hfyL ([a, b, c].length / 2) [a, b, c] = supL 0 [a, b, c] from by simp [hfyL]]; exact su_eq [a, b, c] (Nat.le_of_ble_eq_true rfl) (Nat.le_of_ble_eq_true rfl)
  | [a, b, c, d], _ =>
    rw [show hfyL ([a, b, c, d].length / 2) [a, b, c, d] = supL 0 (supL 1 [a, b, c, d]) from by simp [hfyL]]
    show su (su1 [a, b, c, d]) = supL 0 (supL 1 [a, b, c, d])
    have e : su1 [a, b, c, d] = supL 1 [a, b, c, d] := by
      rw [show su1 [a, b, c, d] = if b < d then [a, b, c, d] else [a, d, c, b] from rfl]
      by_cases h : b < d <;> simp [supL, suL, suC, sdL, h]
    rw [← e]
    have h4 : (su1 [a, b, c, d]).length = 4 := by rw [e]; exact supL_len 1 _
    exact su_eq _ (Nat.le_of_eq h4) (h4 ▸ Nat.le_of_ble_eq_true rfl)
  | _ :: _ :: _ :: _ :: _ :: _, h => simp at h
theorem hrest_eq (x y : Nat) (l : List Nat) (h : l.length ≤ 2) : hrest (x :: l ++ [y]) = su (y :: l) := by
  match l, h with
  | [], _ => rfl
  | [a], _ => rfl
  | [a, b], _ => rfl
  | _ :: _ :: _ :: _, h => simp at h
section
variable {prog : Program} {w : World} {A : Around} {E : Value → Shared → Prop} {s : Shared} {h₀ : Heap} {L a : Addr} {m : Str → Option Value} {news news' : List (Addr × Obj)} {its : List Value} {k : Nat} {l : List Nat}
theorem get_at0 {u : Tok} {value slice : Expr} {Q : Value → Shared → Prop} (N : News h₀ L s.heap news) (hm : (a, listOf its.toArray k) ∈ news) (hI : Strs its l) (hi : 0 < l.length ∧ l.length ≤ 4) (h : ∀ t, Q (.str (tw [l.getD 0 0]) t) s)
    (hs : subscripted slice false (.ref a) (.int 0 u) = operate [.ref a, .int 0 u] (getItem (.ref a) (.int 0 u)) := by with_unfolding_all rfl) :
    wpAny (model prog w) A (subscriptTail value slice (.ref a) (.int 0 u)) Q E s := get_at (j := 0) N hm hI hi h hs
theorem set_at0 {u : Tok} {v : Value} {Q : Unit → Shared → Prop} (F : Fr h₀ L s.heap m) (N : News h₀ L s.heap news) (hI : Strs its l) (hi : 0 < l.length ∧ l.length ≤ 4) (U : Upd a (listOf its.toArray k) (listOf (its.set 0 v).toArray k) news news')
    (h : ∀ h', Fr h₀ L h' m → News h₀ L h' news' → Q () { s with heap := h' }) : wpAny (model prog w) A (setItem (.ref a) (.int 0 u) v) Q E s := set_at (j := 0) F N hI hi U h
theorem app_at {v : Value} {Q : Value → Shared → Prop} (F : Fr h₀ L s.heap m) (N : News h₀ L s.heap news) (hI : Strs its l) (hi : l.length ≤ 3) (U : Upd a (listOf its.toArray k) (listOf (its ++ [v]).toArray (k + 1)) news news')
    (h : ∀ h', Fr h₀ L h' m → News h₀ L h' news' → Q .none { s with heap := h' }) : wpAny (model prog w) A (call (.builtin "list.append") [.ref a, v]) Q E s :=
  append_K F N (by rw [List.push_toArray]; exact U) h (by rw [List.size_toArray, strs_len hI, sizeLine_eq]; omega)
theorem pop_at {v : Value} {Q : Value → Shared → Prop} (F : Fr h₀ L s.heap m) (N : News h₀ L s.heap news) (hI : Strs its l) (hi : l.length ≤ 3) (U : Upd a (listOf (its ++ [v]).toArray k) (listOf its.toArray (k + 1)) news news')
    (h : ∀ h', Fr h₀ L h' m → News h₀ L h' news' → Q v { s with heap := h' }) : wpAny (model prog w) A (call (.builtin "list.pop") [.ref a]) Q E s :=
  kl_pop F N (kpa_last v its) U (by show (its ++ [v]).length ≤ _; rw [List.length_append, strs_len hI, sizeLine_eq]; simp; omega) h
theorem truth_at {Q : Bool → Shared → Prop} (N : News h₀ L s.heap news) (hm : (a, listOf its.toArray k) ∈ news) (hI : Strs its l) (hi : 0 < l.length) (hi' : l.length ≤ 3) (h : ∀ tk, Q true { s with toks := tk }) : wpAny (model prog w) A (truthy (.ref a)) Q E s :=
  wpAny_truthy_list (News.isList N hm) (by rw [List.size_toArray, strs_len hI]; omega) (by
    have e : (!its.toArray.isEmpty) = true := by
      cases its with
      | nil => rw [← strs_len hI] at hi; exact absurd hi (Nat.lt_irrefl 0)
      | cons v r => rfl
    rw [e]
    exact h _)
theorem sub_to {i j : Int} {q : Nat} {t u : Tok} {Q : Value → Shared → Prop} (hq : i - j = (q : Int)) (h : Q (.int (q : Int) s.toks) { s with toks := s.toks + 1 }) : wpAny (model prog w) A (binaryOp .Sub (.int i t) (.int j u)) Q E s :=
  sub_int (by rw [hq]; exact h)
theorem fdiv_to {i : Int} {q : Nat} {t u : Tok} {Q : Value → Shared → Prop} (hq : i / 2 = (q : Int)) (h : Q (.int (q : Int) s.toks) { s with toks := s.toks + 1 }) : wpAny (model prog w) A (binaryOp .FloorDiv (.int i t) (.int 2 u)) Q E s :=
  floordiv_int (by decide) (by rw [Int.fdiv_eq_ediv_of_nonneg _ (by decide), hq]; exact h)
end
theorem s_sd (w : World) (D : Addr) (l : List Nat) (its : List Value) (sI p : Nat) (ti tj : Tok) (n : Nat) (rest : List (Addr × Obj)) (hr : ∀ p ∈ rest, p.1 ≠ D) (hI : Strs its l) (hl : l.length ≤ 4) (hp : p < l.length) :
   CallS w 174 20 200 ((D, listOf its.toArray n) :: rest) [.ref D, .int (sI : Int) ti, .int (p : Int) tj]
    (fun _ h₀ L m s Q => ∀ its n' tk h', Strs its (sdL (l.getD p 0) sI p p l) → Fr h₀ L h' m → News h₀ L h' ((D, listOf its.toArray n') :: rest) → Q .none { s with heap := h', toks := tk }) := by
  k_with_none
  k_with "ktr_room" => first | exact om2 (by assumption) rfl | exact om1 (by assumption) rfl | exact om0 (by assumption) | exact om3 rfl
  k_with "k_all" => first | assumption | exact ne_of_allLt (by assumption) | exact ne_of_allLt (And.right (by assumption)) | exact ne_of_allLt (And.right (And.right (by assumption))) | exact ne_of_allLt (And.right (And.right (And.right (by assumption)))) | exact ne_of_allLt (And.right (And.right (And.right (And.right (by assumption))))) | exact ne_of_allLt (And.right (And.right (And.right (And.right (And.right (by assumption))))))
  k_with "k_inst" => (apply inst_acc; k_asm; k_mem; k_mem)
  k_with "k_room" => ktr_room
  k_with "MYSUB" => first | exact List.forall_mem_nil _ | (refine List.forall_mem_cons.mpr ⟨by k_memK, ?_⟩; walk_at "MYSUB") | (intro _ hp; repeat (first | exact hp | refine List.mem_cons_of_mem _ ?_))
  k_with "MYSTEPS" => repeat' ((fail_if_success (with_reducible show wpAny _ _ (exec (Stmt.While _ _ _ _) _) _ _ _)); first | (k_unfold; (try dsimp only)) | (k_end; wrow_close) | walk1 | (dsimp only; walk1) | (leave1; try dsimp only))
  k_with "subscriptTail Name Name ref int" => (k_here; k_dflt (refine get_at (by k_asm) (by k_mem) (by assumption) (by assumption) ?_); intro _)
  k_with "setItem ref int" => (k_here; k_dflt (refine set_at (by k_asm) (by k_asm) (by assumption) (by assumption) (by k_upd) ?_); intro _ _ _)
  k_with "binaryOp RShift int int" => (k_here; k_dflt (refine half_to (by assumption) (by assumption) ?_))
  unfold CallS
  k_fill
  intro mean mg mb dp un gd cn cs a ccd cl outer A₀ base h₀ L m s Q E B F X N T hk hR hu hret
  refine wpAny_call ?_
  refine' code_def (binds := [(Str.ofString "heap", .ref D), (Str.ofString "startpos", .int (sI : Int) ti), (Str.ofString "pos", .int (p : Int) tj)]) B F X N T rfl rfl hk ?k6 ?k7 ?k8 ?k9 ?kB ?_ ?c2 ?c3 ?c4 ?c5
  case k6 => k_is
  case k7 => k_is
  case k8 => exact om0 hR
  case k9 => exact BindsTo.of_eq rfl
  case kB => exact locs rfl
  case c2 => exact rfl
  case c3 => exact rfl
  case c4 => exact rfl
  case c5 => decide
  intro g' L' h' FG' F' N' B' X' T'
  try dsimp only
  have hp4 : p < l.length ∧ l.length ≤ 4 := ⟨hp, hl⟩
  refine fun_abs (by passes_own) ?_
  intro QF EF hQF hPE
  walk_at "MYSTEPS"
  rename Fr g' L' _ _ => F9
  rename News g' L' _ _ => N9
  obtain ⟨R, hR0⟩ : ∃ R, R = sdL (l.getD p 0) sI p p l := ⟨_, rfl⟩
  rw [← hR0] at hret
  generalize l.getD p 0 = x at F9 hR0
  obtain ⟨m0, hm0, F8⟩ := fr_name F9
  clear F9
  k_dflt (refine While_mid (fun f m news => ∃ (p : Nat) (t : Tok) (its : List Value) (l' : List Nat) (n' : Nat), EqOff [Str.ofString "pos", Str.ofString "parentpos", Str.ofString "parent"] m m0 ∧ m (Str.ofString "pos") = some (.int (p : Int) t) ∧ news = (D, listOf its.toArray n') :: rest ∧ Strs its l' ∧ l'.length = l.length ∧ p < l.length ∧ p ≤ f ∧ R = sdL x sI f p l') (fun m news => ∃ (p : Nat) (t : Tok) (its : List Value) (l' : List Nat) (n' : Nat), EqOff [Str.ofString "pos", Str.ofString "parentpos", Str.ofString "parent"] m m0 ∧ m (Str.ofString "pos") = some (.int (p : Int) t) ∧ news = (D, listOf its.toArray n') :: rest ∧ Strs its l' ∧ l'.length = l.length ∧ p < l.length ∧ R = l'.set p x) (n₀ := p) F8 N9 ⟨p, _, _, l, _, EqOff.refl, (by rw [hm0]; rfl), rfl, hI, rfl, hp, Nat.le_refl _, hR0⟩ ?_ ?_)
  · rintro f m₁ news₁ h₁ tk₁ QT QX hT hX F1 N1 ⟨p1, t1, its1, l1, n1, hE1, hp1, rfl, hI1, hl1, hlt1, hf1, hR1⟩
    as_aux_lemma =>
    clear F8 N9 hI
    subst hm0
    rw [hE1.eq2 hp1] at F1
    have hl4 : l1.length ≤ 4 := hl1.symm ▸ hl
    have hp4' : p1 < l1.length ∧ l1.length ≤ 4 := ⟨hl1.symm ▸ hlt1, hl4⟩
    by_cases hgt : sI < p1
    · obtain ⟨q, hq, hq2, hi0, hq3⟩ := half_ex hgt
      have hq4 : q < l1.length ∧ l1.length ≤ 4 := ⟨Nat.lt_trans hq3 hp4'.1, hl4⟩
      walk_at "MYSTEPS"
      · rename Fr g' L' _ _ => F7
        rename News g' L' _ _ => N7
        rename (tw [_]).cps.toList < _ => hxy
        obtain ⟨f', hf', hqf, hS⟩ := sdL_go (x := x) (s := sI) (q := q) (l := l1) hgt hq2 ((tw_lt _ _).mp hxy) hf1
        refine (hT _ _ _ _ f' F7 N7 hf' ⟨q, _, _, _, _, ?_, rfl, rfl, strs_set p1 _ _ hI1, by rw [List.length_set]; exact hl1, hl1 ▸ hq4.1, hqf, hR1.trans hS⟩).2
        (repeat (refine EqOff.ite (by decide) ?_)); exact EqOff.ovr
      · rename Fr g' L' _ _ => F7
        rename News g' L' _ _ => N7
        rename ¬ (tw [_]).cps.toList < _ => hxy
        refine (hX _ _ _ _ F7 N7 ⟨p1, _, _, l1, _, ?_, rfl, rfl, hI1, hl1, hlt1, hR1.trans (sdL_stop fun _ h => hxy ((tw_lt _ _).mpr (hq2 ▸ h)))⟩).1
        (repeat (refine EqOff.ite (by decide) ?_)); exact EqOff.ovr
    · walk_at "MYSTEPS"
      refine (hX _ _ _ _ F1 N1 ⟨p1, _, _, l1, _, ?_, rfl, rfl, hI1, hl1, hlt1, hR1.trans (sdL_stop fun h => absurd h hgt)⟩).2
      (repeat (refine EqOff.ite (by decide) ?_)); exact EqOff.ovr
  · rintro h₂ tk₂ m₂ news₂ F2 N2 ⟨p1, t1, its1, l1, n1, hE1, hp1, rfl, hI1, hl1, hlt1, hR1⟩
    clear F8 N9 hI
    subst hm0
    rw [hE1.eq2 hp1] at F2
    have hp4' : p1 < l1.length ∧ l1.length ≤ 4 := ⟨hl1.symm ▸ hlt1, hl1.symm ▸ hl⟩
    walk_at "MYSTEPS"
    refine hQF _ _ ?_
    walk_at "MYSTEPS"
    exact hret _ _ _ _ (hR1 ▸ strs_set p1 _ _ hI1) (by k_asm) (by assumption)
theorem s_sup (w : World) (D : Addr) (l : List Nat) (its : List Value) (p : Nat) (ti : Tok) (n : Nat) (rest : List (Addr × Obj)) (hr : ∀ p ∈ rest, p.1 ≠ D) (hI : Strs its l) (hl : l.length ≤ 4) (hp : p < l.length) :
   CallS w 181 40 300 ((D, listOf its.toArray n) :: rest) [.ref D, .int (p : Int) ti]
    (fun _ h₀ L m s Q => ∀ its n' tk h', Strs its (supL p l) → Fr h₀ L h' m → News h₀ L h' ((D, listOf its.toArray n') :: rest) → Q .none { s with heap := h', toks := tk }) := by
  k_with_none
  k_with "ktr_room" => first | exact om2 (by assumption) rfl | exact om1 (by assumption) rfl | exact om0 (by assumption) | exact om3 rfl
  k_with "k_all" => first | assumption | exact ne_of_allLt (by assumption) | exact ne_of_allLt (And.right (by assumption)) | exact ne_of_allLt (And.right (And.right (by assumption))) | exact ne_of_allLt (And.right (And.right (And.right (by assumption)))) | exact ne_of_allLt (And.right (And.right (And.right (And.right (by assumption))))) | exact ne_of_allLt (And.right (And.right (And.right (And.right (And.right (by assumption))))))
  k_with "k_inst" => (apply inst_acc; k_asm; k_mem; k_mem)
  k_with "k_room" => ktr_room
  k_with "MYSUB" => first | exact List.forall_mem_nil _ | (refine List.forall_mem_cons.mpr ⟨by k_memK, ?_⟩; walk_at "MYSUB") | (intro _ hp; repeat (first | exact hp | refine List.mem_cons_of_mem _ ?_))
  k_with "MYSTEPS" => repeat' ((fail_if_success (with_reducible show wpAny _ _ (exec (Stmt.While _ _ _ _) _) _ _ _)); first | (k_unfold; (try dsimp only)) | (k_end; wrow_close) | walk1 | (dsimp only; walk1) | (leave1; try dsimp only))
  k_with "subscriptTail Name Name ref int" => (k_here; k_dflt (refine get_at (by k_asm) (by k_mem) (by assumption) (by assumption) ?_); intro _)
  k_with "setItem ref int" => (k_here; k_dflt (refine set_at (by k_asm) (by k_asm) (by assumption) (by assumption) (by k_upd) ?_); intro _ _ _)
  k_with "call builtin:len" => (k_here; (with_reducible show wpAny _ _ (call (Value.builtin "len") [Value.ref _]) _ _ _); k_dflt (refine len_at (by k_asm) (by k_mem) (by assumption) (by assumption) ?_); intro _ _)
  k_with "binaryOp Add int int" => (k_here; k_dflt (refine add_to (by assumption) ?_))
  k_with "call ref" => (k_here; (with_reducible show wpAny _ _ (call (Value.ref 174) _) _ _ _); k_dflt ((refine callS_use2 (C := s_sd _ _ _ _ _ _ _ _ _ _ (by k_all) (by first | assumption | exact hI2 _) (by assumption) (by assumption)) (R := ?_); intro _ _ _ _ _ _ _)))
  unfold CallS
  k_fill
  intro mean mg mb dp un gd cn cs a ccd cl outer A₀ base h₀ L m s Q E B F X N T hk hR hu hret
  refine wpAny_call ?_
  refine' code_def (binds := [(Str.ofString "heap", .ref D), (Str.ofString "pos", .int (p : Int) ti)]) B F X N T rfl rfl hk ?k6 ?k7 ?k8 ?k9 ?kB ?_ ?c2 ?c3 ?c4 ?c5
  case k6 => k_is
  case k7 => k_is
  case k8 => exact om0 hR
  case k9 => exact BindsTo.of_eq rfl
  case kB => exact locs rfl
  case c2 => exact rfl
  case c3 => exact rfl
  case c4 => exact rfl
  case c5 => decide
  intro g' L' h' FG' F' N' B' X' T'
  try dsimp only
  have hp4 : p < l.length ∧ l.length ≤ 4 := ⟨hp, hl⟩
  obtain ⟨c0, hc0⟩ := two_ex p
  refine fun_abs (by passes_own) ?_
  intro QF EF hQF hPE
  walk_at "MYSTEPS"
  rename Fr g' L' _ _ => F9
  rename News g' L' _ _ => N9
  obtain ⟨R, hR0⟩ : ∃ R, R = suL l.length p l := ⟨_, rfl⟩
  rw [supL, ← hR0] at hret
  generalize l.getD p 0 = x at F9 hret
  obtain ⟨m0, hm0, F8⟩ := fr_name F9
  clear F9
  k_dflt (refine While_mid (fun f m news => ∃ (p c : Nat) (t tc : Tok) (its : List Value) (l' : List Nat) (n' : Nat), EqOff [Str.ofString "pos", Str.ofString "childpos", Str.ofString "rightpos"] m m0 ∧ m (Str.ofString "pos") = some (.int (p : Int) t) ∧ m (Str.ofString "childpos") = some (.int (c : Int) tc) ∧ 2 * p + 1 = c ∧ news = (D, listOf its.toArray n') :: rest ∧ Strs its l' ∧ l'.length = l.length ∧ p < l.length ∧ l.length ≤ f + p ∧ R = suL f p l') (fun m news => ∃ (p : Nat) (t : Tok) (its : List Value) (l' : List Nat) (n' : Nat), EqOff [Str.ofString "pos", Str.ofString "childpos", Str.ofString "rightpos"] m m0 ∧ m (Str.ofString "pos") = some (.int (p : Int) t) ∧ news = (D, listOf its.toArray n') :: rest ∧ Strs its l' ∧ l'.length = l.length ∧ p < l.length ∧ R = (p, l')) (n₀ := l.length) F8 N9 ⟨p, c0, _, _, _, l, _, EqOff.refl, (by rw [hm0]; rfl), (by rw [hm0]; rfl), two_nat hc0, rfl, hI, rfl, hp, Nat.le_add_right _ _, hR0⟩ ?_ ?_)
  · rintro f m₁ news₁ h₁ tk₁ QT QX hT hX F1 N1 ⟨p1, c1, t1, tc1, its1, l1, n1, hE1, hp1, hc1, hpc, rfl, hI1, hl1, hlt1, hf1, hR1⟩
    as_aux_lemma =>
    clear F8 N9 hI
    rw [hE1.eq3 hp1 hc1] at F1
    have hl4 : l1.length ≤ 4 := hl1.symm ▸ hl
    have hp4' : p1 < l1.length ∧ l1.length ≤ 4 := ⟨hl1.symm ▸ hlt1, hl4⟩
    by_cases hgt : c1 < l.length
    · have hc4 : c1 < l1.length ∧ l1.length ≤ 4 := ⟨hl1.symm ▸ hgt, hl4⟩
      obtain ⟨r, hr1, hr2⟩ := one_ex c1
      obtain ⟨d1, hd1⟩ := two_ex c1
      obtain ⟨d2, hd2⟩ := two_ex r
      have hW : ∀ (c' d : Nat) t' tc' its' n' h' tk' m', suC l1 c1 = c' → 2 * (c' : Int) + 1 = (d : Int) → c' < l1.length → EqOff [Str.ofString "pos", Str.ofString "childpos", Str.ofString "rightpos"] m' m0 → m' (Str.ofString "pos") = some (.int (c' : Int) t') → m' (Str.ofString "childpos") = some (.int (d : Int) tc') → Strs its' (l1.set p1 (l1.getD c' 0)) → Fr g' L' h' m' → News g' L' h' ((D, listOf its'.toArray n') :: rest) → QT .next { s with heap := h', toks := tk' } := by
        intro c' d t' tc' its' n' h' tk' m' e1 e2 e3 e4 e5 e6 e7 F7 N7
        obtain ⟨f', hf', hqf, hS⟩ := suL_go (l := l1) hpc (hl1.symm ▸ hgt) e1 (hl1.symm ▸ hf1)
        exact (hT _ _ _ _ f' F7 N7 hf' ⟨c', d, _, _, _, _, _, e4, e5, e6, two_nat e2, rfl, e7, by rw [List.length_set]; exact hl1, hl1 ▸ e3, hl1 ▸ hqf, hR1.trans hS⟩).1
      have hs1 : r < l1.length → l1.getD c1 0 < l1.getD r 0 → suC l1 c1 = c1 := fun h h' => by unfold suC; rw [hr2, if_pos h, if_pos h']
      have hs2 : r < l1.length → ¬ l1.getD c1 0 < l1.getD r 0 → suC l1 c1 = r := fun h h' => by unfold suC; rw [hr2, if_pos h, if_neg h']
      have hs3 : ¬ r < l1.length → suC l1 c1 = c1 := fun h => by unfold suC; rw [hr2, if_neg h]
      by_cases hrt : r < l.length
      · have hr4 : r < l1.length ∧ l1.length ≤ 4 := ⟨hl1.symm ▸ hrt, hl4⟩
        subst hm0
        walk_at "MYSTEPS"
        all_goals
          rename Fr g' L' _ _ => F7
          rename News g' L' _ _ => N7
        all_goals first
          | (rename (tw [_]).cps.toList < _ => hxy; refine hW c1 d1 _ _ _ _ _ _ _ (hs1 hr4.1 ((tw_lt _ _).mp hxy)) hd1 hc4.1 ?_ rfl rfl (strs_set p1 _ _ hI1) F7 N7)
          | (rename ¬ (tw [_]).cps.toList < _ => hxy; refine hW r d2 _ _ _ _ _ _ _ (hs2 hr4.1 (fun h => hxy ((tw_lt _ _).mpr h))) hd2 hr4.1 ?_ rfl rfl (strs_set p1 _ _ hI1) F7 N7)
        all_goals (repeat (refine EqOff.ite (by decide) ?_)); exact EqOff.ovr
      · subst hm0
        walk_at "MYSTEPS"
        rename Fr g' L' _ _ => F7
        rename News g' L' _ _ => N7
        refine hW c1 d1 _ _ _ _ _ _ _ (hs3 (hl1.symm ▸ hrt)) hd1 hc4.1 ?_ rfl rfl (strs_set p1 _ _ hI1) F7 N7
        (repeat (refine EqOff.ite (by decide) ?_)); exact EqOff.ovr
    · subst hm0
      walk_at "MYSTEPS"
      refine (hX _ _ _ _ F1 N1 ⟨p1, _, _, l1, _, ?_, rfl, rfl, hI1, hl1, hlt1, hR1.trans (suL_stop fun h => hgt (hl1 ▸ hpc ▸ h))⟩).2
      (repeat (refine EqOff.ite (by decide) ?_)); exact EqOff.ovr
  · rintro h₂ tk₂ m₂ news₂ F2 N2 ⟨p1, t1, its1, l1, n1, hE1, hp1, rfl, hI1, hl1, hlt1, hR1⟩
    clear F8 N9 hI
    subst hm0
    rw [hE1.eq2 hp1] at F2
    have hp4' : p1 < l1.length ∧ l1.length ≤ 4 := ⟨hl1.symm ▸ hlt1, hl1.symm ▸ hl⟩
    have hI2 := fun t => strs_set p1 x t hI1
    have hget : (l1.set p1 x).getD p1 0 = x := by simp [hp4'.1]
    have hl2 : (l1.set p1 x).length ≤ 4 := by rw [List.length_set]; exact hp4'.2
    have hp2 : p1 < (l1.set p1 x).length := by rw [List.length_set]; exact hp4'.1
    walk_at "MYSTEPS"
    refine hQF _ _ ?_
    walk_at "MYSTEPS"
    refine hret _ _ _ _ ?_ (by k_asm) (by assumption)
    subst hR1
    rename Strs _ (sdL _ _ _ _ _) => hS
    rw [hget] at hS
    exact hS
theorem s_heappush (w : World) (D : Addr) (H : List Nat) (its : List Value) (y : Nat) (ty : Tok) (n : Nat) (rest : List (Addr × Obj)) (hr : ∀ p ∈ rest, p.1 ≠ D) (hI : Strs its H) (hl : H.length ≤ 3) :
   CallS w 153 60 400 ((D, listOf its.toArray n) :: rest) [.ref D, .str (tw [y]) ty]
    (fun _ h₀ L m s Q => ∀ its n' tk h', Strs its (hpush H y) → Fr h₀ L h' m → News h₀ L h' ((D, listOf its.toArray n') :: rest) → Q .none { s with heap := h', toks := tk }) := by
  k_with_none
  k_with "ktr_room" => first | exact om2 (by assumption) rfl | exact om1 (by assumption) rfl | exact om0 (by assumption) | exact om3 rfl
  k_with "k_all" => first | assumption | exact ne_of_allLt (by assumption) | exact ne_of_allLt (And.right (by assumption)) | exact ne_of_allLt (And.right (And.right (by assumption))) | exact ne_of_allLt (And.right (And.right (And.right (by assumption)))) | exact ne_of_allLt (And.right (And.right (And.right (And.right (by assumption))))) | exact ne_of_allLt (And.right (And.right (And.right (And.right (And.right (by assumption))))))
  k_with "k_inst" => (apply inst_acc; k_asm; k_mem; k_mem)
  k_with "k_room" => ktr_room
  k_with "MYSUB" => first | exact List.forall_mem_nil _ | (refine List.forall_mem_cons.mpr ⟨by k_memK, ?_⟩; walk_at "MYSUB") | (intro _ hp; repeat (first | exact hp | refine List.mem_cons_of_mem _ ?_))
  k_with "MYSTEPS" => repeat' ((fail_if_success (with_reducible show wpAny _ _ (exec (Stmt.While _ _ _ _) _) _ _ _)); first | (k_unfold; (try dsimp only)) | (k_end; wrow_close) | walk1 | (dsimp only; walk1) | (leave1; try dsimp only))
  k_with "subscriptTail Name Name ref int" => (k_here; k_dflt (refine get_at (by k_asm) (by k_mem) (by assumption) (by assumption) ?_); intro _)
  k_with "setItem ref int" => (k_here; k_dflt (refine set_at (by k_asm) (by k_asm) (by assumption) (by assumption) (by k_upd) ?_); intro _ _ _)
  k_with "call builtin:len" => (k_here; (with_reducible show wpAny _ _ (call (Value.builtin "len") [Value.ref _]) _ _ _); k_dflt (refine len_at (by k_asm) (by k_mem) (by assumption) (by assumption) ?_); intro _ _)
  k_with "call builtin:list.append" => (k_here; (with_reducible show wpAny _ _ (call (Value.builtin _) [Value.ref _, _]) _ _ _); k_dflt (refine app_at (by k_asm) (by k_asm) hI hl (by k_upd) ?_); intro _ _ _)
  k_with "binaryOp Sub int int" => (k_here; k_dflt (refine sub_to (by assumption) ?_))
  k_with "call ref" => (k_here; (with_reducible show wpAny _ _ (call (Value.ref 174) _) _ _ _); k_dflt ((refine callS_use2 (C := s_sd _ _ _ _ 0 _ _ _ _ _ (by k_all) (by assumption) (by assumption) (by assumption)) (R := ?_); intro _ _ _ _ _ _ _)))
  unfold CallS
  k_fill
  intro mean mg mb dp un gd cn cs a ccd cl outer A₀ base h₀ L m s Q E B F X N T hk hR hu hret
  refine wpAny_call ?_
  refine' code_def (binds := [(Str.ofString "heap", .ref D), (Str.ofString "item", .str (tw [y]) ty)]) B F X N T rfl rfl hk ?k6 ?k7 ?k8 ?k9 ?kB ?_ ?c2 ?c3 ?c4 ?c5
  case k6 => k_is
  case k7 => k_is
  case k8 => exact om0 hR
  case k9 => exact BindsTo.of_eq rfl
  case kB => exact locs rfl
  case c2 => exact rfl
  case c3 => exact rfl
  case c4 => exact rfl
  case c5 => decide
  intro g' L' h' FG' F' N' B' X' T'
  try dsimp only
  have hI2 := strs_app y ty hI
  have hl2 : (H ++ [y]).length ≤ 4 := by rw [List.length_append]; exact Nat.succ_le_succ hl
  have hp2 : H.length < (H ++ [y]).length := by rw [List.length_append]; exact Nat.lt_succ_self _
  have hs2 : ((H ++ [y]).length : Int) - 1 = (H.length : Int) := by rw [List.length_append]; simp
  have hget := getD_len H y
  refine fun_abs (by passes_own) ?_
  intro QF EF hQF hPE
  walk_at "MYSTEPS"
  refine hQF _ _ ?_
  walk_at "MYSTEPS"
  refine hret _ _ _ _ ?_ (by k_asm) (by assumption)
  rename Strs _ (sdL _ _ _ _ _) => hS
  rw [hget, ← hpush_eq H y hl] at hS
  exact hS
theorem s_hpop1 (w : World) (D : Addr) (a0 : Nat) (t0 : Tok) (n : Nat) (rest : List (Addr × Obj)) (hr : ∀ p ∈ rest, p.1 ≠ D) :
   CallS w 160 60 400 ((D, listOf [.str (tw [a0]) t0].toArray n) :: rest) [.ref D]
    (fun _ h₀ L m s Q => ∀ its n' t tk h', Strs its (hrest [a0]) → Fr h₀ L h' m → News h₀ L h' ((D, listOf its.toArray n') :: rest) → Q (.str (tw [a0]) t) { s with heap := h', toks := tk }) := by
  k_with_none
  k_with "ktr_room" => first | exact om2 (by assumption) rfl | exact om1 (by assumption) rfl | exact om0 (by assumption) | exact om3 rfl
  k_with "k_all" => first | assumption | exact ne_of_allLt (by assumption) | exact ne_of_allLt (And.right (by assumption)) | exact ne_of_allLt (And.right (And.right (by assumption))) | exact ne_of_allLt (And.right (And.right (And.right (by assumption)))) | exact ne_of_allLt (And.right (And.right (And.right (And.right (by assumption))))) | exact ne_of_allLt (And.right (And.right (And.right (And.right (And.right (by assumption))))))
  k_with "k_inst" => (apply inst_acc; k_asm; k_mem; k_mem)
  k_with "k_room" => ktr_room
  k_with "MYSUB" => first | exact List.forall_mem_nil _ | (refine List.forall_mem_cons.mpr ⟨by k_memK, ?_⟩; walk_at "MYSUB") | (intro _ hp; repeat (first | exact hp | refine List.mem_cons_of_mem _ ?_))
  k_with "MYSTEPS" => repeat' ((fail_if_success (with_reducible show wpAny _ _ (exec (Stmt.While _ _ _ _) _) _ _ _)); first | (k_unfold; (try dsimp only)) | (k_end; wrow_close) | walk1 | (dsimp only; walk1) | (leave1; try dsimp only))
  k_with "subscriptTail Name Name ref int" => (k_here; k_dflt (refine get_at (by k_asm) (by k_mem) (by assumption) (by assumption) ?_); intro _)
  k_with "setItem ref int" => (k_here; k_dflt (refine set_at (by k_asm) (by k_asm) (by assumption) (by assumption) (by k_upd) ?_); intro _ _ _)
  unfold CallS
  k_fill
  intro mean mg mb dp un gd cn cs a ccd cl outer A₀ base h₀ L m s Q E B F X N T hk hR hu hret
  refine wpAny_call ?_
  refine' code_def (binds := [(Str.ofString "heap", .ref D)]) B F X N T rfl rfl hk ?k6 ?k7 ?k8 ?k9 ?kB ?_ ?c2 ?c3 ?c4 ?c5
  case k6 => k_is
  case k7 => k_is
  case k8 => exact om0 hR
  case k9 => exact BindsTo.of_eq rfl
  case kB => exact locs rfl
  case c2 => exact rfl
  case c3 => exact rfl
  case c4 => exact rfl
  case c5 => decide
  intro g' L' h' FG' F' N' B' X' T'
  try dsimp only
  refine fun_abs (by passes_own) ?_
  intro QF EF hQF hPE
  walk_at "MYSTEPS"
  refine hQF _ _ ?_
  walk_at "MYSTEPS"
  refine hret [] _ _ _ _ trivial (by k_asm) (by assumption)
theorem s_hpopG (w : World) (D : Addr) (l : List Nat) (z : Nat) (tz : Tok) (its : List Value) (n : Nat) (rest : List (Addr × Obj)) (hr : ∀ p ∈ rest, p.1 ≠ D) (hI : Strs its l) (hl : l.length ≤ 3) (h0 : 0 < l.length) :
   CallS w 160 60 400 ((D, listOf (its ++ [Value.str (tw [z]) tz]).toArray n) :: rest) [.ref D]
    (fun _ h₀ L m s Q => ∀ its n' t tk h', Strs its (supL 0 (l.set 0 z)) → Fr h₀ L h' m → News h₀ L h' ((D, listOf its.toArray n') :: rest) → Q (.str (tw [l.getD 0 0]) t) { s with heap := h', toks := tk }) := by
  k_with_none
  k_with "ktr_room" => first | exact om2 (by assumption) rfl | exact om1 (by assumption) rfl | exact om0 (by assumption) | exact om3 rfl
  k_with "k_all" => first | assumption | exact ne_of_allLt (by assumption) | exact ne_of_allLt (And.right (by assumption)) | exact ne_of_allLt (And.right (And.right (by assumption))) | exact ne_of_allLt (And.right (And.right (And.right (by assumption)))) | exact ne_of_allLt (And.right (And.right (And.right (And.right (by assumption))))) | exact ne_of_allLt (And.right (And.right (And.right (And.right (And.right (by assumption))))))
  k_with "k_inst" => (apply inst_acc; k_asm; k_mem; k_mem)
  k_with "k_room" => ktr_room
  k_with "MYSUB" => first | exact List.forall_mem_nil _ | (refine List.forall_mem_cons.mpr ⟨by k_memK, ?_⟩; walk_at "MYSUB") | (intro _ hp; repeat (first | exact hp | refine List.mem_cons_of_mem _ ?_))
  k_with "MYSTEPS" => repeat' ((fail_if_success (with_reducible show wpAny _ _ (exec (Stmt.While _ _ _ _) _) _ _ _)); first | (k_unfold; (try dsimp only)) | (k_end; wrow_close) | walk1 | (dsimp only; walk1) | (leave1; try dsimp only))
  k_with "subscriptTail Name Name ref int" => (k_here; k_dflt (refine get_at (by k_asm) (by k_mem) (by assumption) (by assumption) ?_); intro _)
  k_with "setItem ref int" => (k_here; k_dflt (refine set_at (by k_asm) (by k_asm) (by assumption) (by assumption) (by k_upd) ?_); intro _ _ _)
  k_with "subscriptTail Name Constant ref int" => (k_here; k_dflt (refine get_at0 (by k_asm) (by k_mem) (by assumption) (by assumption) ?_); intro _)
  k_with "setItem ref int" => (k_here; k_dflt (refine set_at0 (by k_asm) (by k_asm) hI h04 (by k_upd) ?_); intro _ _ _)
  k_with "call builtin:list.pop" => (k_here; k_dflt (refine pop_at (by k_asm) (by k_asm) hI hl (by k_upd) ?_); intro _ _ _)
  k_with "truthy ref" => (k_here; (with_reducible show wpAny _ _ (truthy (Value.ref _)) _ _ _); k_dflt (refine truth_at (by k_asm) (by k_mem) (by assumption) (by assumption) (by assumption) ?_); intro _)
  k_with "call ref" => (k_here; (with_reducible show wpAny _ _ (call (Value.ref 181) _) _ _ _); k_dflt ((refine callS_use2 (C := s_sup _ _ _ _ 0 _ _ _ (by k_all) hI2 hl2 hp2) (R := ?_); intro _ _ _ _ _ _ _)))
  unfold CallS
  k_fill
  intro mean mg mb dp un gd cn cs a ccd cl outer A₀ base h₀ L m s Q E B F X N T hk hR hu hret
  refine wpAny_call ?_
  refine' code_def (binds := [(Str.ofString "heap", .ref D)]) B F X N T rfl rfl hk ?k6 ?k7 ?k8 ?k9 ?kB ?_ ?c2 ?c3 ?c4 ?c5
  case k6 => k_is
  case k7 => k_is
  case k8 => exact om0 hR
  case k9 => exact BindsTo.of_eq rfl
  case kB => exact locs rfl
  case c2 => exact rfl
  case c3 => exact rfl
  case c4 => exact rfl
  case c5 => decide
  intro g' L' h' FG' F' N' B' X' T'
  try dsimp only
  have h04 : 0 < l.length ∧ l.length ≤ 4 := ⟨h0, Nat.le_succ_of_le hl⟩
  have hI2 := strs_set 0 z tz hI
  have hl2 : (l.set 0 z).length ≤ 4 := by rw [List.length_set]; exact h04.2
  have hp2 : 0 < (l.set 0 z).length := by rw [List.length_set]; exact h0
  refine fun_abs (by passes_own) ?_
  intro QF EF hQF hPE
  walk_at "MYSTEPS"
  refine hQF _ _ ?_
  walk_at "MYSTEPS"
  exact hret _ _ _ _ _ (by assumption) (by k_asm) (by assumption)
theorem s_heappop (w : World) (D : Addr) (x : Nat) (H : List Nat) (its : List Value) (n : Nat) (rest : List (Addr × Obj)) (hr : ∀ p ∈ rest, p.1 ≠ D) (hI : Strs its (x :: H)) (hl : H.length ≤ 3) :
   CallS w 160 60 400 ((D, listOf its.toArray n) :: rest) [.ref D]
    (fun _ h₀ L m s Q => ∀ its n' t tk h', Strs its (hrest (x :: H)) → Fr h₀ L h' m → News h₀ L h' ((D, listOf its.toArray n') :: rest) → Q (.str (tw [x]) t) { s with heap := h', toks := tk }) := by
  rcases List.eq_nil_or_concat H with rfl | ⟨l, z, rfl⟩
  · obtain ⟨t, r0, rfl, hJ⟩ := strsC hI
    obtain rfl := strs0 hJ
    exact s_hpop1 w D x t n rest hr
  · rw [List.concat_eq_append] at hI hl ⊢
    have hl2 : l.length ≤ 2 := by rw [List.length_append] at hl; exact Nat.le_of_succ_le_succ hl
    obtain ⟨ys, t, rfl, q⟩ := strs_unsnoc (l := x :: l) hI
    have e : hrest (x :: (l ++ [z])) = supL 0 ((x :: l).set 0 z) := (hrest_eq x z l hl2).trans (su_eq _ (Nat.succ_le_succ (Nat.le_succ_of_le hl2)) (Nat.succ_pos _))
    rw [e]
    exact s_hpopG w D (x :: l) z t ys n rest hr q (Nat.succ_le_succ hl2) (Nat.succ_pos _)
theorem s_heapify (w : World) (D : Addr) (H : List Nat) (its : List Value) (n : Nat) (rest : List (Addr × Obj)) (hr : ∀ p ∈ rest, p.1 ≠ D) (hI : Strs its H) (hl : H.length ≤ 4) :
   CallS w 167 80 500 ((D, listOf its.toArray n) :: rest) [.ref D]
    (fun _ h₀ L m s Q => ∀ its n' tk h', Strs its (hfy H) → Fr h₀ L h' m → News h₀ L h' ((D, listOf its.toArray n') :: rest) → Q .none { s with heap := h', toks := tk }) := by
  k_with_none
  k_with "ktr_room" => first | exact om2 (by assumption) rfl | exact om1 (by assumption) rfl | exact om0 (by assumption) | exact om3 rfl
  k_with "k_all" => first | assumption | exact ne_of_allLt (by assumption) | exact ne_of_allLt (And.right (by assumption)) | exact ne_of_allLt (And.right (And.right (by assumption))) | exact ne_of_allLt (And.right (And.right (And.right (by assumption)))) | exact ne_of_allLt (And.right (And.right (And.right (And.right (by assumption))))) | exact ne_of_allLt (And.right (And.right (And.right (And.right (And.right (by assumption))))))
  k_with "k_inst" => (apply inst_acc; k_asm; k_mem; k_mem)
  k_with "k_room" => ktr_room
  k_with "MYSUB" => first | exact List.forall_mem_nil _ | (refine List.forall_mem_cons.mpr ⟨by k_memK, ?_⟩; walk_at "MYSUB") | (intro _ hp; repeat (first | exact hp | refine List.mem_cons_of_mem _ ?_))
  k_with "MYSTEPS" => repeat' ((fail_if_success (with_reducible show wpAny _ _ (exec (Stmt.While _ _ _ _) _) _ _ _)); first | (k_unfold; (try dsimp only)) | (k_end; wrow_close) | walk1 | (dsimp only; walk1) | (leave1; try dsimp only))
  k_with "subscriptTail Name Name ref int" => (k_here; k_dflt (refine get_at (by k_asm) (by k_mem) (by assumption) (by assumption) ?_); intro _)
  k_with "setItem ref int" => (k_here; k_dflt (refine set_at (by k_asm) (by k_asm) (by assumption) (by assumption) (by k_upd) ?_); intro _ _ _)
  k_with "call builtin:len" => (k_here; (with_reducible show wpAny _ _ (call (Value.builtin "len") [Value.ref _]) _ _ _); k_dflt (refine len_at (by k_asm) (by k_mem) (by assumption) (by assumption) ?_); intro _ _)
  k_with "binaryOp FloorDiv int int" => (k_here; k_dflt (refine fdiv_to (by assumption) ?_))
  k_with "call type:range" => (k_here; k_dflt (refine range1_rows (by k_asm) (by k_asm) ?_); intro _ _ _ _ _ _ _ _ _)
  k_with "call type:reversed" => (k_here; k_dflt (refine reversed_K (by k_asm) (by k_asm) (by assumption) rfl hk100 ?_); intro _ _ _ _ l1 _; (try k_lt l1))
  k_with "call ref" => (k_here; (with_reducible show wpAny _ _ (call (Value.ref 181) _) _ _ _); k_dflt ((refine callS_use2 (C := s_sup _ _ _ _ _ _ _ _ (by k_all) (by assumption) (by assumption) (by assumption)) (R := ?_); intro _ _ _ _ _ _ _)))
  unfold CallS
  k_fill
  intro mean mg mb dp un gd cn cs a ccd cl outer A₀ base h₀ L m s Q E B F X N T hk hR hu hret
  refine wpAny_call ?_
  refine' code_def (binds := [(Str.ofString "x", .ref D)]) B F X N T rfl rfl hk ?k6 ?k7 ?k8 ?k9 ?kB ?_ ?c2 ?c3 ?c4 ?c5
  case k6 => k_is
  case k7 => k_is
  case k8 => exact om0 hR
  case k9 => exact BindsTo.of_eq rfl
  case kB => exact locs rfl
  case c2 => exact rfl
  case c3 => exact rfl
  case c4 => exact rfl
  case c5 => decide
  intro g' L' h' FG' F' N' B' X' T'
  try dsimp only
  obtain ⟨kk, hkk, hk2, hk100, hkl⟩ := hlf_ex hl
  rw [hfy_eq H hl, hk2] at hret
  refine fun_abs (by passes_own) ?_
  intro QF EF hQF hPE
  walk_at "MYSTEPS"
  rename Fr g' L' _ _ => F9
  rename News g' L' _ _ => N9
  obtain ⟨m0, hm0, F8⟩ := fr_name F9
  clear F9
  k_dflt (refine iter_rangeIter_J (a := (kk : Int) - 1) (c := -1) (n := kk) (fun i m news => EqOff [Str.ofString "i"] m m0 ∧ ∃ its n' l', news = (D, listOf its.toArray n') :: rest ∧ Strs its l' ∧ l'.length = H.length ∧ hfyL kk H = hfyL (kk - i) l') rfl (N9 _ (.head _)).1 (Nat.ne_of_lt (by assumption)) (N9 _ (.head _)).2.2 F8 (ledger_drop N9 (by walk_at "MYSUB")) (by k_all) ⟨EqOff.refl, its, n, H, rfl, hI, rfl, rfl⟩ ?_ ?_)
  · rintro i t m₁ news₁ h tk o hi ⟨hE, its1, n1, l1, rfl, hI1, hl1, hR1⟩ hoff F1 N1
    refine body_abs ?_
    intro QT hQT
    as_aux_lemma =>
    have hDI := hoff _ (.head _)
    dsimp only at hDI
    obtain ⟨j, hj, hj2, hjj, hj3⟩ := dn_ex hi
    rw [hE.eq, hj2] at F1
    have N2 := ledger_drop (news := (D, listOf its1.toArray n1) :: (_, o) :: rest) N1 (by walk_at "MYSUB")
    clear N1 F8 N9 hE hI
    subst hm0
    have hl4 : l1.length ≤ 4 := hl1.symm ▸ hl
    have hjl : j < l1.length := hl1.symm ▸ Nat.lt_of_lt_of_le hj3 hkl
    walk_at "MYSTEPS"
    rename Fr g' L' _ _ => F7
    rename News g' L' _ _ => N7
    refine hQT _ _ (TurnEnd.next F7 (ledger_drop N7 (by walk_at "MYSUB")) ?_ ⟨?_, _, _, supL j l1, rfl, by assumption, by rw [supL_len]; exact hl1, ?_⟩)
    · exact List.forall_mem_cons.mpr ⟨hDI, fun p hp => hoff p (.tail _ hp)⟩
    · (repeat (refine EqOff.ite (by decide) ?_)); exact EqOff.ovr
    · rw [hR1, hj, hjj]; rfl
  · rintro m₁ news₁ h tk ⟨hE, its1, n1, l1, rfl, hI1, hl1, hR1⟩ F1 N1
    rw [hE.eq] at F1
    clear F8 N9 hE hI
    subst hm0
    walk_at "MYSTEPS"
    refine hQF _ _ ?_
    walk_at "MYSTEPS"
    refine hret _ _ _ _ ?_ (by k_asm) (by assumption)
    rw [hR1, Nat.sub_self]
    exact hI1
end
section
open PySem PySem.W PyProof.Rows PySem.Spec PySem.Calls
open Builtin
def upd {α : Type} (f : Nat → α) (x : Nat) (v : α) : Nat → α := fun y => if y = x then v else f y
theorem upd_same {α : Type} (f : Nat → α) (x : Nat) (v : α) : upd f x v x = v := if_pos rfl
theorem upd_ne {α : Type} (f : Nat → α) {x y : Nat} (v : α) (h : y ≠ x) : upd f x v y = f y := if_neg h
/-- the blank and the sign of a turn's mark -/
def bl (c : Bool) : Str := if c then Str.ofString "" else Str.ofString " "
def sg (y : Nat) (c : Bool) : Str := if c then tw [y] else Str.ofString ""
abbrev cellO (y : Nat) (c : Bool) (tb tg : Tok) : Obj := tupObj [.str (bl c) tb, .str (sg y c) tg]
def Rep (tups : List (Addr × Obj)) (y : Nat) : List Addr → List Bool → Prop
  | [], [] => True
  | q :: qs, c :: cs => (∃ tb tg, (q, cellO y c tb tg) ∈ tups) ∧ Rep tups y qs cs
  | _, _ => False
theorem Rep.mono {t t' : List (Addr × Obj)} {y : Nat} (h : ∀ p ∈ t, p ∈ t') : ∀ {qs : List Addr} {cs : List Bool}, Rep t y qs cs → Rep t' y qs cs
  | [], [], _ => trivial
  | _ :: _, _ :: _, ⟨⟨tb, tg, hm⟩, r⟩ => ⟨⟨tb, tg, h _ hm⟩, Rep.mono h r⟩
  | [], _ :: _, r => r.elim
  | _ :: _, [], r => r.elim
theorem Rep.snoc {t : List (Addr × Obj)} {y : Nat} {q : Addr} {c : Bool} {tb tg : Tok} (hm : (q, cellO y c tb tg) ∈ t) : ∀ {qs : List Addr} {cs : List Bool}, Rep t y qs cs → Rep t y (qs ++ [q]) (cs ++ [c])
  | [], [], _ => ⟨⟨tb, tg, hm⟩, trivial⟩
  | _ :: _, _ :: _, ⟨p, r⟩ => ⟨p, Rep.snoc hm r⟩
  | [], _ :: _, r => r.elim
  | _ :: _, [], r => r.elim
theorem Rep.unsnoc {t : List (Addr × Obj)} {y : Nat} {c : Bool} : ∀ {qs : List Addr} {cs : List Bool}, Rep t y qs (cs ++ [c]) → ∃ qs' q tb tg, qs = qs' ++ [q] ∧ Rep t y qs' cs ∧ (q, cellO y c tb tg) ∈ t
  | [q], [], ⟨⟨tb, tg, hm⟩, _⟩ => ⟨[], q, tb, tg, rfl, trivial, hm⟩
  | [], [], r => r.elim
  | _ :: _ :: _, [], ⟨_, r⟩ => r.elim
  | [], _ :: _, r => r.elim
  | q :: _, _ :: _, ⟨p, r⟩ => by
    obtain ⟨qs', q', tb, tg, e, r', hm⟩ := Rep.unsnoc r
    exact ⟨q :: qs', q', tb, tg, by rw [e]; rfl, ⟨p, r'⟩, hm⟩
theorem Rep.len {t : List (Addr × Obj)} {y : Nat} : ∀ {qs : List Addr} {cs : List Bool}, Rep t y qs cs → qs.length = cs.length
  | [], [], _ => rfl
  | _ :: _, _ :: _, ⟨_, r⟩ => by simp [Rep.len r]
  | [], _ :: _, r => r.elim
  | _ :: _, [], r => r.elim
/-- the four stacks, at the head of a ledger -/
@[irreducible] noncomputable def accs (w : World) (X DX : Nat → Addr) (T1 T2 : Nat → Tok) (qs : Nat → List Addr) (nn : Nat → Nat) (tups : List (Addr × Obj)) : List (Addr × Obj) :=
  (X 0, accObj (DX 0) ((qs 0).map Value.ref).toArray (nn 0)) :: (DX 0, accD w (T1 0) (T2 0)) ::
  (X 1, accObj (DX 1) ((qs 1).map Value.ref).toArray (nn 1)) :: (DX 1, accD w (T1 1) (T2 1)) ::
  (X 2, accObj (DX 2) ((qs 2).map Value.ref).toArray (nn 2)) :: (DX 2, accD w (T1 2) (T2 2)) ::
  (X 3, accObj (DX 3) ((qs 3).map Value.ref).toArray (nn 3)) :: (DX 3, accD w (T1 3) (T2 3)) :: tups
/-- the stacks hold these marks -/
structure StK (X DX : Nat → Addr) (qs : Nat → List Addr) (tups : List (Addr × Obj)) (cs : Nat → List Bool) : Prop where
  xx : ∀ x < 4, ∀ y < 4, x ≠ y → (X x : Nat) ≠ X y
  dx : ∀ x < 4, ∀ y < 4, (DX x : Nat) ≠ X y
  tx : ∀ p ∈ tups, ∀ y < 4, (p.1 : Nat) ≠ X y
  rep : ∀ y < 4, Rep tups y (qs y) (cs y)
def Sep (fr l : List (Addr × Obj)) : Prop := ∀ r ∈ fr, ∀ p ∈ l, (p.1 : Nat) ≠ r.1
section
variable {w : World} {X DX : Nat → Addr} {T1 T2 : Nat → Tok} {qs : Nat → List Addr} {nn : Nat → Nat} {tups : List (Addr × Obj)}
theorem accs_x {x : Nat} (hx : x < 4) : (X x, accObj (DX x) ((qs x).map Value.ref).toArray (nn x)) ∈ accs w X DX T1 T2 qs nn tups := by
  unfold accs
  match x, hx with
  | 0, _ => simp
  | 1, _ => simp
  | 2, _ => simp
  | 3, _ => simp
theorem accs_dx {x : Nat} (hx : x < 4) : (DX x, accD w (T1 x) (T2 x)) ∈ accs w X DX T1 T2 qs nn tups := by
  unfold accs
  match x, hx with
  | 0, _ => simp
  | 1, _ => simp
  | 2, _ => simp
  | 3, _ => simp
theorem accs_t {p : Addr × Obj} (hp : p ∈ tups) : p ∈ accs w X DX T1 T2 qs nn tups := by
  unfold accs
  simp [hp]
theorem accs_ne {r : Addr} (hx : ∀ x < 4, (X x : Nat) ≠ r) (hd : ∀ x < 4, (DX x : Nat) ≠ r) (ht : ∀ p ∈ tups, (p.1 : Nat) ≠ r) : ∀ p ∈ accs w X DX T1 T2 qs nn tups, (p.1 : Nat) ≠ r := by
  unfold accs
  intro p hp
  simp only [List.mem_cons] at hp
  rcases hp with rfl | rfl | rfl | rfl | rfl | rfl | rfl | rfl | hp
  · exact hx 0 (by decide)
  · exact hd 0 (by decide)
  · exact hx 1 (by decide)
  · exact hd 1 (by decide)
  · exact hx 2 (by decide)
  · exact hd 2 (by decide)
  · exact hx 3 (by decide)
  · exact hd 3 (by decide)
  · exact ht p hp
theorem Sep.to {fr : List (Addr × Obj)} {qs' : Nat → List Addr} {nn' : Nat → Nat} {tups' : List (Addr × Obj)} (h : Sep fr (accs w X DX T1 T2 qs nn tups)) (ht : ∀ r ∈ fr, ∀ p ∈ tups', (p.1 : Nat) ≠ r.1) : Sep fr (accs w X DX T1 T2 qs' nn' tups') := fun r hr =>
  accs_ne (fun x hx => h r hr _ (accs_x hx)) (fun x hx => h r hr _ (accs_dx hx)) (ht r hr)
theorem Sep.tps {fr : List (Addr × Obj)} (h : Sep fr (accs w X DX T1 T2 qs nn tups)) : ∀ r ∈ fr, ∀ p ∈ tups, (p.1 : Nat) ≠ r.1 := fun r hr p hp => h r hr p (accs_t hp)
theorem Sep.cons {p : Addr × Obj} {fr l : List (Addr × Obj)} (h : ∀ q ∈ l, (q.1 : Nat) ≠ p.1) (hs : Sep fr l) : Sep (p :: fr) l := fun r hr => by
  rcases List.mem_cons.mp hr with rfl | hr
  · exact h
  · exact hs r hr
theorem Sep.tail {p : Addr × Obj} {fr l : List (Addr × Obj)} (hs : Sep (p :: fr) l) : Sep fr l := fun r hr => hs r (.tail _ hr)
theorem Sep.head {p : Addr × Obj} {fr l : List (Addr × Obj)} (hs : Sep (p :: fr) l) : ∀ q ∈ l, (q.1 : Nat) ≠ p.1 := hs _ (.head _)
theorem Sep.nil {l : List (Addr × Obj)} : Sep [] l := fun _ h => nomatch h
end
def topS (x : Nat) (cs : List Bool) : Str := match cs.getLast? with
  | some c => sg x c
  | none => Str.ofString ""
section
variable {w : World} {X DX : Nat → Addr} {T1 T2 : Nat → Tok} {qs : Nat → List Addr} {nn : Nat → Nat} {tups fr : List (Addr × Obj)} {x : Nat}
theorem mem_accs {p : Addr × Obj} : p ∈ accs w X DX T1 T2 qs nn tups → (∃ y, y < 4 ∧ (p = (X y, accObj (DX y) ((qs y).map Value.ref).toArray (nn y)) ∨ p = (DX y, accD w (T1 y) (T2 y)))) ∨ p ∈ tups := by
  unfold accs
  intro hp
  simp only [List.mem_cons] at hp
  rcases hp with h | h | h | h | h | h | h | h | h
  · exact .inl ⟨0, by decide, .inl h⟩
  · exact .inl ⟨0, by decide, .inr h⟩
  · exact .inl ⟨1, by decide, .inl h⟩
  · exact .inl ⟨1, by decide, .inr h⟩
  · exact .inl ⟨2, by decide, .inl h⟩
  · exact .inl ⟨2, by decide, .inr h⟩
  · exact .inl ⟨3, by decide, .inl h⟩
  · exact .inl ⟨3, by decide, .inr h⟩
  · exact .inr h
/-- the other stacks -/
@[irreducible] noncomputable def oth (w : World) (X DX : Nat → Addr) (T1 T2 : Nat → Tok) (qs : Nat → List Addr) (nn : Nat → Nat) (x : Nat) (r : List (Addr × Obj)) : List (Addr × Obj) :=
  (([0, 1, 2, 3].filter fun y => y != x).flatMap fun y => [(X y, accObj (DX y) ((qs y).map Value.ref).toArray (nn y)), (DX y, accD w (T1 y) (T2 y))]) ++ r
theorem mem_oth {p : Addr × Obj} {r : List (Addr × Obj)} : p ∈ oth w X DX T1 T2 qs nn x r ↔ (∃ y, y < 4 ∧ y ≠ x ∧ (p = (X y, accObj (DX y) ((qs y).map Value.ref).toArray (nn y)) ∨ p = (DX y, accD w (T1 y) (T2 y)))) ∨ p ∈ r := by
  unfold oth
  rw [List.mem_append]
  refine or_congr ?_ Iff.rfl
  rw [List.mem_flatMap]
  constructor
  · rintro ⟨y, hy, h⟩
    have h1 := List.mem_filter.mp hy
    have h4 : y < 4 := by have := h1.1; simp at this; omega
    refine ⟨y, h4, by simpa using h1.2, ?_⟩
    simpa using h
  · rintro ⟨y, h4, hne, h⟩
    refine ⟨y, List.mem_filter.mpr ⟨?_, by simpa using hne⟩, by simpa using h⟩
    have : y = 0 ∨ y = 1 ∨ y = 2 ∨ y = 3 := by omega
    simpa using this
theorem subX (hx : x < 4) : ∀ p ∈ (X x, accObj (DX x) ((qs x).map Value.ref).toArray (nn x)) :: (DX x, accD w (T1 x) (T2 x)) :: oth w X DX T1 T2 qs nn x (tups ++ fr), p ∈ fr ++ accs w X DX T1 T2 qs nn tups := fun p hp => by
  rcases List.mem_cons.mp hp with rfl | hp
  · exact List.mem_append_right _ (accs_x hx)
  rcases List.mem_cons.mp hp with rfl | hp
  · exact List.mem_append_right _ (accs_dx hx)
  rcases mem_oth.mp hp with ⟨y, hy, _, rfl | rfl⟩ | hp
  · exact List.mem_append_right _ (accs_x hy)
  · exact List.mem_append_right _ (accs_dx hy)
  rcases List.mem_append.mp hp with hp | hp
  · exact List.mem_append_right _ (accs_t hp)
  · exact List.mem_append_left _ hp
theorem busX {v : List Addr} {k : Nat} {its : Array Value} {news : List (Addr × Obj)} (hv : its = (v.map Value.ref).toArray) (h1 : (X x, accObj (DX x) its k) ∈ news) (h2 : (DX x, accD w (T1 x) (T2 x)) ∈ news) (h3 : ∀ p ∈ oth w X DX T1 T2 qs nn x fr, p ∈ news) (h4 : ∀ p ∈ tups, p ∈ news) : ∀ p ∈ fr ++ accs w X DX T1 T2 (upd qs x v) (upd nn x k) tups, p ∈ news := fun p hp => by
  subst hv
  rcases List.mem_append.mp hp with hp | hp
  · exact h3 p (mem_oth.mpr (.inr hp))
  rcases mem_accs hp with ⟨y, hy, h⟩ | hp
  · by_cases e : y = x
    · subst e
      rw [upd_same, upd_same] at h
      rcases h with rfl | rfl
      · exact h1
      · exact h2
    · rw [upd_ne _ _ e, upd_ne _ _ e] at h
      exact h3 p (mem_oth.mpr (.inl ⟨y, hy, e, h⟩))
  · exact h4 p hp
theorem offX {qs' : Nat → List Addr} {nn' : Nat → Nat} {cs : Nat → List Bool} (hx : x < 4) (hS : StK X DX qs tups cs) (hF : Sep fr (accs w X DX T1 T2 qs nn tups)) : ∀ p ∈ oth w X DX T1 T2 qs' nn' x (tups ++ fr), p.1 ≠ X x := fun p hp => by
  rcases mem_oth.mp hp with ⟨y, hy, e, rfl | rfl⟩ | hp
  · exact hS.xx y hy x hx e
  · exact hS.dx y hy x hx
  rcases List.mem_append.mp hp with hp | hp
  · exact hS.tx p hp x hx
  · exact fun e => hF p hp _ (accs_x hx) e.symm
theorem othaX : ∀ p ∈ oth w X DX T1 T2 qs nn x fr, p ∈ oth w X DX T1 T2 qs nn x (tups ++ fr) := fun _ hp => mem_oth.mpr ((mem_oth.mp hp).imp id fun h => List.mem_append_right _ h)
theorem othbX : ∀ p ∈ tups ++ fr, p ∈ oth w X DX T1 T2 qs nn x (tups ++ fr) := fun _ hp => mem_oth.mpr (.inr hp)
theorem othxX {y : Nat} (hy : y < 4) (h : y ≠ x) : (X y, accObj (DX y) ((qs y).map Value.ref).toArray (nn y)) ∈ oth w X DX T1 T2 qs nn x fr := mem_oth.mpr (.inl ⟨y, hy, h, .inl rfl⟩)
theorem upd_id {α : Type} {f : Nat → α} : upd f x (f x) = f := by funext y; unfold upd; split <;> simp_all
end
theorem StK.push {X DX : Nat → Addr} {qs : Nat → List Addr} {tups : List (Addr × Obj)} {cs : Nat → List Bool} (hS : StK X DX qs tups cs) {x : Nat} {q : Addr} {c : Bool} {tb tg : Tok} (hq : ∀ y < 4, (q : Nat) ≠ X y) :
    StK X DX (upd qs x (qs x ++ [q])) ((q, cellO x c tb tg) :: tups) (upd cs x (cs x ++ [c])) where
  xx := hS.xx
  dx := hS.dx
  tx := fun p hp => by
    rcases List.mem_cons.mp hp with rfl | hp
    · exact hq
    · exact hS.tx p hp
  rep := fun y hy => by
    by_cases e : y = x
    · subst e
      rw [upd_same, upd_same]
      exact Rep.snoc (.head _) ((hS.rep y hy).mono fun p hp => .tail _ hp)
    · rw [upd_ne _ _ e, upd_ne _ _ e]
      exact (hS.rep y hy).mono fun p hp => .tail _ hp
theorem StK.pop {X DX : Nat → Addr} {qs : Nat → List Addr} {tups : List (Addr × Obj)} {cs : Nat → List Bool} (hS : StK X DX qs tups cs) {x : Nat} {qs' : List Addr} {c' : List Bool} (hr : Rep tups x qs' c') :
    StK X DX (upd qs x qs') tups (upd cs x c') where
  xx := hS.xx
  dx := hS.dx
  tx := hS.tx
  rep := fun y hy => by
    by_cases e : y = x
    · subst e
      rw [upd_same, upd_same]
      exact hr
    · rw [upd_ne _ _ e, upd_ne _ _ e]
      exact hS.rep y hy
theorem StK.top {X DX : Nat → Addr} {qs : Nat → List Addr} {tups : List (Addr × Obj)} {cs : Nat → List Bool} (hS : StK X DX qs tups cs) {x : Nat} {qs' : List Addr} {q : Addr} {c' : List Bool} {c : Bool} {tb tg : Tok} (hc : cs x = c' ++ [c]) (hr : Rep tups x qs' c') (hq : ∀ y < 4, (q : Nat) ≠ X y) :
    StK X DX (upd qs x (qs' ++ [q])) ((q, cellO x c tb tg) :: tups) cs where
  xx := hS.xx
  dx := hS.dx
  tx := fun p hp => by
    rcases List.mem_cons.mp hp with rfl | hp
    · exact hq
    · exact hS.tx p hp
  rep := fun y hy => by
    by_cases e : y = x
    · subst e
      rw [upd_same, hc]
      exact Rep.snoc (.head _) (hr.mono fun p hp => .tail _ hp)
    · rw [upd_ne _ _ e]
      exact (hS.rep y hy).mono fun p hp => .tail _ hp
theorem sep_new {w : World} {X DX : Nat → Addr} {T1 T2 : Nat → Tok} {qs qs' : Nat → List Addr} {nn nn' : Nat → Nat} {tups fr : List (Addr × Obj)} {q : Addr} {o : Obj} (hF : Sep fr (accs w X DX T1 T2 qs nn tups)) (hq : ∀ r ∈ fr, (r.1 : Nat) < q) : Sep fr (accs w X DX T1 T2 qs' nn' ((q, o) :: tups)) :=
  hF.to fun r hr p hp => by
    rcases List.mem_cons.mp hp with rfl | hp
    · exact (Nat.ne_of_lt (hq r hr)).symm
    · exact hF.tps r hr p hp
theorem bl_len (c : Bool) : (bl c).length ≤ 1 := by cases c <;> decide
theorem sg_len (y : Nat) (c : Bool) : (sg y c).length ≤ 1 := by cases c <;> exact Nat.le_of_ble_eq_true rfl
theorem blsg_ne (y : Nat) (c : Bool) : bl c ++ sg y c ≠ Str.ofString "" := by
  intro h
  have h2 : (bl c ++ sg y c).cps.size = 0 := by rw [h]; rfl
  cases c
  · exact absurd h2 (by show ¬ ((Str.ofString " " ++ Str.ofString "").cps.size = 0); decide)
  · exact absurd h2 (by
      show ¬ ((Str.ofString "" ++ tw [y]).cps.size = 0)
      show ¬ ((Array.append #[] (tw [y]).cps).size = 0)
      simp [tw])
theorem s_pushX (w : World) (X DX : Nat → Addr) (T1 T2 : Nat → Tok) (qs : Nat → List Addr) (nn : Nat → Nat) (tups fr : List (Addr × Obj)) (cs : Nat → List Bool) (hS : StK X DX qs tups cs) (hF : Sep fr (accs w X DX T1 T2 qs nn tups)) (x : Nat) (hx : x < 4) (c : Bool) (tb tg : Tok) (hz : (cs x).length ≤ 100) :
   CallS w 86 40 400 (fr ++ accs w X DX T1 T2 qs nn tups) [.ref (X x), .str (bl c) tb, .str (sg x c) tg]
    (fun _ h₀ L m s Q => ∀ qs' nn' tups' tk h', Fr h₀ L h' m → News h₀ L h' (fr ++ accs w X DX T1 T2 qs' nn' tups') → StK X DX qs' tups' (upd cs x (cs x ++ [c])) → Sep fr (accs w X DX T1 T2 qs' nn' tups') → Q .none { s with heap := h', toks := tk }) := by
  intro mean mg mb dp un gd cn cs' a ccd cl outer A₀ base h₀ L m s Q E B F X0 N T hk hR hu hret
  rw [← (hS.rep x hx).len] at hz
  refine callS_use (s_push w (X x) (DX x) ((qs x).map Value.ref).toArray (nn x) (.str (bl c) tb) (.str (sg x c) tg) (T1 x) (T2 x) (oth w X DX T1 T2 qs nn x (tups ++ fr)) (by simpa using hz) (hS.dx x hx x hx) (offX hx hS hF)) B F X0 (ledger_drop N (subX hx)) T hk hR hu ?_
  intro q tk h' F' N' l1
  have lt := fun p hp => kst_ltOf l1 p hp
  refine hret _ _ _ tk h' F' (ledger_drop N' (busX (v := qs x ++ [q]) (by simp) (.head _) (.tail _ (.head _)) (fun p hp => .tail _ (.tail _ (.tail _ (othaX p hp)))) (fun p hp => ?_))) (hS.push (tb := tb) (tg := tg) (fun y hy => ?_)) (sep_new hF fun r hr => lt r (.tail _ (.tail _ (othbX r (List.mem_append_right _ hr)))))
  · rcases List.mem_cons.mp hp with rfl | hp
    · exact .tail _ (.tail _ (.head _))
    · exact .tail _ (.tail _ (.tail _ (othbX p (List.mem_append_left _ hp))))
  · by_cases ey : y = x
    · subst ey
      exact (Nat.ne_of_lt (lt _ (.head _))).symm
    · exact (Nat.ne_of_lt (lt _ (.tail _ (.tail _ (othxX hy ey))))).symm
theorem s_popX (w : World) (X DX : Nat → Addr) (T1 T2 : Nat → Tok) (qs : Nat → List Addr) (nn : Nat → Nat) (tups fr : List (Addr × Obj)) (cs : Nat → List Bool) (hS : StK X DX qs tups cs) (hF : Sep fr (accs w X DX T1 T2 qs nn tups)) (x : Nat) (hx : x < 4) (c : Bool) (c' : List Bool) (hc : cs x = c' ++ [c]) (hz : (cs x).length ≤ 100) :
   CallS w 102 40 400 (fr ++ accs w X DX T1 T2 qs nn tups) [.ref (X x)]
    (fun _ h₀ L m s Q => ∀ v qs' nn' tk h', Fr h₀ L h' m → News h₀ L h' (fr ++ accs w X DX T1 T2 qs' nn' tups) → StK X DX qs' tups (upd cs x c') → Sep fr (accs w X DX T1 T2 qs' nn' tups) → Q v { s with heap := h', toks := tk }) := by
  intro mean mg mb dp un gd cn cs' a ccd cl outer A₀ base h₀ L m s Q E B F X0 N T hk hR hu hret
  have hrep := hS.rep x hx
  rw [hc] at hrep
  obtain ⟨qs', q, tb, tg, hq, hr, hm⟩ := hrep.unsnoc
  have hz' : qs'.length ≤ 100 := by rw [hr.len]; rw [hc] at hz; simp at hz; omega
  have e : ((qs x).map Value.ref) = qs'.map Value.ref ++ [.ref q] := by rw [hq]; simp
  refine callS_use (s_pop1 w (X x) (DX x) (qs'.map Value.ref) (.ref q) (nn x) (T1 x) (T2 x) (oth w X DX T1 T2 qs nn x (tups ++ fr)) (by simpa using hz') (hS.dx x hx x hx) (offX hx hS hF)) B F X0 (ledger_drop N (by rw [← e]; exact subX hx)) T hk hR hu ?_
  intro tk h' F' N'
  exact hret _ _ _ tk h' F' (ledger_drop N' (busX (v := qs') rfl (.head _) (.tail _ (.head _)) (fun p hp => .tail _ (.tail _ (othaX p hp))) (fun p hp => .tail _ (.tail _ (othbX p (List.mem_append_left _ hp)))))) (hS.pop hr) (hF.to hF.tps)
theorem s_topX (w : World) (X DX : Nat → Addr) (T1 T2 : Nat → Tok) (qs : Nat → List Addr) (nn : Nat → Nat) (tups fr : List (Addr × Obj)) (cs : Nat → List Bool) (hS : StK X DX qs tups cs) (hF : Sep fr (accs w X DX T1 T2 qs nn tups)) (x : Nat) (hx : x < 4) (hz : (cs x).length ≤ 100) (r : Str) (hr0 : topS x (cs x) = r) :
   CallS w 195 60 600 (fr ++ accs w X DX T1 T2 qs nn tups) [.ref (X x)]
    (fun _ h₀ L m s Q => ∀ qs' nn' tups' t tk h', Fr h₀ L h' m → News h₀ L h' (fr ++ accs w X DX T1 T2 qs' nn' tups') → StK X DX qs' tups' cs → Sep fr (accs w X DX T1 T2 qs' nn' tups') → Q (.str r t) { s with heap := h', toks := tk }) := by
  intro mean mg mb dp un gd cn cs' a ccd cl outer A₀ base h₀ L m s Q E B F X0 N T hk hR hu hret
  subst hr0
  have hrep := hS.rep x hx
  rcases hc : (cs x).reverse with _ | ⟨c, c'⟩
  · have hc : cs x = [] := by simpa using hc
    rw [hc] at hrep
    have hq : qs x = [] := by simpa using hrep.len
    have ht : topS x (cs x) = Str.ofString "" := by unfold topS; rw [hc]; rfl
    rw [ht] at hret
    refine callS_use (s_top0 w (X x) (DX x) (nn x) (T1 x) (T2 x) (oth w X DX T1 T2 qs nn x (tups ++ fr))) B F X0 (ledger_drop N ?_) T hk hR hu ?_
    · have := subX (w := w) (X := X) (DX := DX) (T1 := T1) (T2 := T2) (qs := qs) (nn := nn) (tups := tups) (fr := fr) hx
      rw [hq] at this
      exact this
    intro t tk h' F' N'
    have N2 := ledger_drop N' (busX (v := qs x) (by rw [hq]; rfl) (.head _) (.tail _ (.head _)) (fun p hp => .tail _ (.tail _ (othaX p hp))) (fun p hp => .tail _ (.tail _ (othbX p (List.mem_append_left _ hp)))))
    rw [upd_id, upd_id] at N2
    exact hret _ _ _ _ tk h' F' N2 hS hF
  have hc : cs x = c'.reverse ++ [c] := by rw [← List.reverse_reverse (cs x), hc]; simp
  generalize c'.reverse = c' at hc
  rw [hc] at hrep
  obtain ⟨qs', q, tb, tg, hq, hr, hm⟩ := hrep.unsnoc
  have hz' : qs'.length ≤ 100 := by rw [hr.len]; rw [hc] at hz; simp at hz; omega
  have e : ((qs x).map Value.ref) = qs'.map Value.ref ++ [.ref q] := by rw [hq]; simp
  refine callS_use (s_top1 w (X x) (DX x) q (qs'.map Value.ref) (bl c) (sg x c) tb tg (nn x) (T1 x) (T2 x) (oth w X DX T1 T2 qs nn x (tups ++ fr)) (by simpa using hz') (by simpa using hz') (hS.dx x hx x hx) (hS.tx _ hm x hx) (offX hx hS hF) ⟨bl_len c, sg_len x c⟩ (blsg_ne x c)) B F X0 (ledger_drop N ?_) T hk hR hu ?_
  · intro p hp
    rw [← e] at hp
    refine subX hx p ?_
    rcases List.mem_cons.mp hp with h | hp
    · rw [h]; exact .head _
    rcases List.mem_cons.mp hp with h | hp
    · rw [h]; exact .tail _ (.head _)
    rcases List.mem_cons.mp hp with rfl | hp
    · exact .tail _ (.tail _ (othbX _ (List.mem_append_left _ hm)))
    · exact .tail _ (.tail _ hp)
  intro q2 n' tk h' F' N' l1
  have lt := fun p hp => kst_ltOf l1 p hp
  have ht : topS x (cs x) = sg x c := by unfold topS; rw [hc]; simp
  rw [ht] at hret
  refine hret _ _ _ _ tk h' F' (ledger_drop N' (busX (v := qs' ++ [q2]) (by simp) (.head _) (.tail _ (.head _)) (fun p hp => .tail _ (.tail _ (.tail _ (othaX p hp)))) (fun p hp => ?_))) (hS.top (tb := tb) (tg := tg) hc hr (fun y hy => ?_)) (sep_new hF fun r hr => lt r (.tail _ (.tail _ (.tail _ (othbX r (List.mem_append_right _ hr))))))
  · rcases List.mem_cons.mp hp with rfl | hp
    · exact .tail _ (.tail _ (.head _))
    · exact .tail _ (.tail _ (.tail _ (othbX p (List.mem_append_left _ hp))))
  · by_cases ey : y = x
    · subst ey
      exact (Nat.ne_of_lt (lt _ (.head _))).symm
    · exact (Nat.ne_of_lt (lt _ (.tail _ (.tail _ (.tail _ (othxX hy ey)))))).symm
theorem s_countX (w : World) (X DX : Nat → Addr) (T1 T2 : Nat → Tok) (qs : Nat → List Addr) (nn : Nat → Nat) (tups fr : List (Addr × Obj)) (cs : Nat → List Bool) (hS : StK X DX qs tups cs) (hF : Sep fr (accs w X DX T1 T2 qs nn tups)) (x : Nat) (hx : x < 4) :
   CallS w 139 20 200 (fr ++ accs w X DX T1 T2 qs nn tups) [.ref (X x)]
    (fun _ h₀ L m s Q => ∀ t tk h', Fr h₀ L h' m → News h₀ L h' (fr ++ accs w X DX T1 T2 qs nn tups) → Q (.int (cs x).length t) { s with heap := h', toks := tk }) := by
  intro mean mg mb dp un gd cn cs' a ccd cl outer A₀ base h₀ L m s Q E B F X0 N T hk hR hu hret
  refine callS_use (s_part_count w (X x) (DX x) ((qs x).map Value.ref).toArray (nn x) (T1 x) (T2 x) (oth w X DX T1 T2 qs nn x (tups ++ fr))) B F X0 (ledger_drop N (subX hx)) T hk hR hu ?_
  intro t tk h' F' N'
  have N2 := ledger_drop N' (busX (v := qs x) rfl (.head _) (.tail _ (.head _)) (fun p hp => .tail _ (.tail _ (othaX p hp))) (fun p hp => .tail _ (.tail _ (othbX p (List.mem_append_left _ hp)))))
  rw [upd_id, upd_id] at N2
  have hl : ((qs x).map Value.ref).toArray.size = (cs x).length := by simpa using (hS.rep x hx).len
  rw [hl]
  exact hret t tk h' F' N2
/-- a ledger that ends in the stacks -/
def Spl (l fr a : List (Addr × Obj)) : Prop := l = fr ++ a
theorem Spl.nil {a : List (Addr × Obj)} : Spl a [] a := rfl
theorem Spl.cons {p : Addr × Obj} {l fr a : List (Addr × Obj)} (h : Spl l fr a) : Spl (p :: l) (p :: fr) a := congrArg (p :: ·) h
section
variable {w : World} {X DX : Nat → Addr} {T1 T2 : Nat → Tok} {qs : Nat → List Addr} {nn : Nat → Nat} {tups fr l : List (Addr × Obj)} {cs : Nat → List Bool} {x : Nat}
theorem s_pushX2 (hL : Spl l fr (accs w X DX T1 T2 qs nn tups)) (hS : StK X DX qs tups cs) (hF : Sep fr (accs w X DX T1 T2 qs nn tups)) (hx : x < 4) (c : Bool) {tb tg : Tok} (hz : (cs x).length ≤ 100) :
   CallS w 86 40 400 l [.ref (X x), .str (bl c) tb, .str (sg x c) tg]
    (fun _ h₀ L m s Q => ∀ qs' nn' tups' tk h', Fr h₀ L h' m → News h₀ L h' (fr ++ accs w X DX T1 T2 qs' nn' tups') → StK X DX qs' tups' (upd cs x (cs x ++ [c])) → Sep fr (accs w X DX T1 T2 qs' nn' tups') → Q .none { s with heap := h', toks := tk }) := by
  unfold Spl at hL
  subst hL
  exact s_pushX w X DX T1 T2 qs nn tups fr cs hS hF x hx c tb tg hz
theorem s_popX2 (hL : Spl l fr (accs w X DX T1 T2 qs nn tups)) (hS : StK X DX qs tups cs) (hF : Sep fr (accs w X DX T1 T2 qs nn tups)) (hx : x < 4) {c : Bool} {c' : List Bool} (hc : cs x = c' ++ [c]) (hz : (cs x).length ≤ 100) :
   CallS w 102 40 400 l [.ref (X x)]
    (fun _ h₀ L m s Q => ∀ v qs' nn' tk h', Fr h₀ L h' m → News h₀ L h' (fr ++ accs w X DX T1 T2 qs' nn' tups) → StK X DX qs' tups (upd cs x c') → Sep fr (accs w X DX T1 T2 qs' nn' tups) → Q v { s with heap := h', toks := tk }) := by
  unfold Spl at hL
  subst hL
  exact s_popX w X DX T1 T2 qs nn tups fr cs hS hF x hx c c' hc hz
theorem s_topX2 (hL : Spl l fr (accs w X DX T1 T2 qs nn tups)) (hS : StK X DX qs tups cs) (hF : Sep fr (accs w X DX T1 T2 qs nn tups)) (hx : x < 4) (hz : (cs x).length ≤ 100) {r : Str} (hr0 : topS x (cs x) = r) :
   CallS w 195 60 600 l [.ref (X x)]
    (fun _ h₀ L m s Q => ∀ qs' nn' tups' t tk h', Fr h₀ L h' m → News h₀ L h' (fr ++ accs w X DX T1 T2 qs' nn' tups') → StK X DX qs' tups' cs → Sep fr (accs w X DX T1 T2 qs' nn' tups') → Q (.str r t) { s with heap := h', toks := tk }) := by
  unfold Spl at hL
  subst hL
  exact s_topX w X DX T1 T2 qs nn tups fr cs hS hF x hx hz r hr0
theorem s_countX2 (hL : Spl l fr (accs w X DX T1 T2 qs nn tups)) (hS : StK X DX qs tups cs) (hF : Sep fr (accs w X DX T1 T2 qs nn tups)) (hx : x < 4) :
   CallS w 139 20 200 l [.ref (X x)]
    (fun _ h₀ L m s Q => ∀ t tk h', Fr h₀ L h' m → News h₀ L h' (fr ++ accs w X DX T1 T2 qs nn tups) → Q (.int (cs x).length t) { s with heap := h', toks := tk }) := by
  unfold Spl at hL
  subst hL
  exact s_countX w X DX T1 T2 qs nn tups fr cs hS hF x hx
end
end
section
open PySem PySem.W PyProof.Rows PySem.Spec PySem.Calls
open Builtin
theorem tw_len (l : List Nat) : (tw l).length = l.length := by simp [tw, Str.length]
theorem tw_app (a b : List Nat) : tw a ++ tw b = tw (a ++ b) := by
  apply Str.ext'
  rw [Str.cps_append]
  simp [tw]
theorem tw_inj {a b : List Nat} (h : tw a = tw b) : a = b := by
  have h2 : (a.map (· + 97)) = b.map (· + 97) := by
    have := congrArg (fun x : Str => x.cps.toList) h
    simpa [tw] using this
  have : Function.Injective (fun x : Nat => x + 97) := fun x y e => Nat.add_right_cancel e
  exact (List.map_inj_right (fun x y e => this e)).mp h2
theorem tw_nil : tw [] = Str.ofString "" := by decide
theorem tw_item {l : List Nat} {j c : Nat} {i : Int} (hi : i = (j : Nat)) (hj : l[j]? = some c) : Txt.item (tw l) i = tw [c] := by
  subst hi
  rw [item_meets (n := c + 97) (by omega) (by simp [tw, hj])]
  rfl
section
variable {prog : Program} {w : World} {A : Around} {E : Value → Shared → Prop} {s : Shared} {value slice : PySem.Expr} {t u : Tok}
theorem twl_len {l : List Nat} {Q : Value → Shared → Prop} (hl : l.length ≤ 1048576) (h : ∀ t' k, Q (.int l.length t') { s with toks := k }) : wpAny (model prog w) A (call (.builtin "len") [.str (tw l) t]) Q E s := by
  refine P.len_str (by rw [tw_len]; omega) ?_
  rw [tw_len]
  exact h _ _
theorem twl_item {l : List Nat} {i : Int} {j c : Nat} {Q : Value → Shared → Prop} (hj : l[j]? = some c) (hi : i = (j : Nat)) (hl : l.length ≤ 1048576) (h : ∀ t' k, Q (.str (tw [c]) t') { s with toks := k })
    (hs : subscripted slice false (.str (tw l) t) (.int i u) = operate [.str (tw l) t, .int i u] (getItem (.str (tw l) t) (.int i u)) := by with_unfolding_all rfl)
    (ht : ∀ r, letTemporaryGo value (.str (tw l) t) r = pure () := by intro _; with_unfolding_all rfl) :
    wpAny (model prog w) A (subscriptTail value slice (.str (tw l) t) (.int i u)) Q E s := by
  have hlt : j < l.length := by
    rcases Nat.lt_or_ge j l.length with h | h
    · exact h
    · rw [List.getElem?_eq_none h] at hj; cases hj
  refine KXi.item (n := l.length) (tw_len l) (by omega) (by omega) (by omega) (fun _ => ?_) hs ht
  rw [tw_item hi hj]
  exact h _ _
theorem twl_add {a b : List Nat} {Q : Value → Shared → Prop} (hl : a.length + b.length ≤ 1048576) (h : ∀ t' k, Q (.str (tw (a ++ b)) t') { s with toks := k }) : wpAny (model prog w) A (binaryOp .Add (.str (tw a) t) (.str (tw b) u)) Q E s := by
  refine SB.add (fun t' k => ?_) (by rw [tw_len, tw_len, sizeLine_eq]; omega)
  rw [tw_app]
  exact h _ _
theorem twl_iadd {a b : List Nat} {Q : Value → Shared → Prop} (hl : a.length + b.length ≤ 1048576) (h : ∀ t' k, Q (.str (tw (a ++ b)) t') { s with toks := k }) : wpAny (model prog w) A (inplaceOp .Add (.str (tw a) t) (.str (tw b) u)) Q E s := by
  refine SB.iadd (fun t' k => ?_) (by rw [tw_len, tw_len, sizeLine_eq]; omega)
  rw [tw_app]
  exact h _ _
theorem twl_ne1 {x : Nat} {l : List Nat} {Q : Value → Shared → Prop} (h : Q (.bool true) s) : wpAny (model prog w) A (compareOp .NotEq (.str (tw (x :: l)) t) (.str (Str.ofString "") u)) Q E s := by
  refine P.ne_str ?_
  have : ((tw (x :: l)).cps.toList != (Str.ofString "").cps.toList) = true := by
    simp [tw]
    exact fun e => by cases e
  rw [this]
  exact h
theorem twl_ne {a b : List Nat} {Q : Value → Shared → Prop} (h : Q (.bool (a != b)) s) : wpAny (model prog w) A (compareOp .NotEq (.str (tw a) t) (.str (tw b) u)) Q E s := by
  refine P.ne_str ?_
  have : ((tw a).cps.toList != (tw b).cps.toList) = (a != b) := by
    rw [Bool.eq_iff_iff]
    simp only [bne_iff_ne, ne_eq]
    constructor
    · exact fun h e => h (by rw [e])
    · exact fun h e => h (tw_inj (Str.ext' (Array.toList_inj.mp e)))
  rw [this]
  exact h
end
end
section
open PySem PySem.W PyProof.Rows PySem.Spec PySem.Calls
open PyProof.Rows.LCg PyProof.Rows.LCt
section
variable {prog : Program} {w : World} {A : Around} {E : Value → Shared → Prop} {s : Shared} {h₀ : Heap} {L : Addr} {m : Str → Option Value} {env : Env}
theorem compT_J {ct elt : Expr} {x : Str} {scope : Scope} {cl : List (Str × Addr)} {P : Nat → Value → Prop} {Fin : List Value → List (Addr × Obj) → Prop} {n : Nat} (J : Nat → List Value → List (Addr × Obj) → Prop)
    (turn : ∀ i ys news v I oI C oC D m₂ h tk (E' : Value → Shared → Prop), i < n → P i v → J i ys news → NsObj oC m₂ → m₂ x = some v → Fr h₀ L h m → News h₀ L h ((I, oI) :: (C, oC) :: (D, lst ys) :: news) → Off3 I C D news → ((@Ne Nat I C) ∧ (@Ne Nat I D) ∧ (@Ne Nat C D)) →
      wpAny (model prog w) A (isTrue ct (compEnvC scope cl C env) (eval ct (compEnvC scope cl C env))) (fun ok s' => if ok = true then
        wpAny (model prog w) A (eval elt (compEnvC scope cl C env)) (CompEnd h₀ L m { s with heap := h, toks := tk } I oI C oC D (lst ys) (fun _ => True) (fun y news' => J (i + 1) (ys ++ [y]) news')) E' s'
        else CompEnd h₀ L m { s with heap := h, toks := tk } I oI C oC D (lst ys) (fun _ => True) (fun _ news' => J (i + 1) ys news') Value.none s') E' { s with heap := h, toks := tk })
    (done : ∀ ys news, J n ys news → Fin ys news) :
    ∀ k i ys news, i + k = n → J i ys news → CompRestT prog w A h₀ L m env ct elt x scope cl s (fun _ => True) P Fin k i ys news := by
  intro k
  induction k with
  | zero =>
    intro i ys news hi hj
    have : i = n := by omega
    exact CompRestT.zero (done ys news (this ▸ hj))
  | succ k ih =>
    intro i ys news hi hj
    refine CompRestT.succ ?_
    intro v I oI C oC D m₂ h tk E' hP hC hx F N hO hne
    have mono : ∀ {rest rest' : Value → List (Addr × Obj) → Prop}, (∀ y nw, rest y nw → rest' y nw) → ∀ y s', CompEnd h₀ L m { s with heap := h, toks := tk } I oI C oC D (lst ys) (fun _ => True) rest y s' → CompEnd h₀ L m { s with heap := h, toks := tk } I oI C oC D (lst ys) (fun _ => True) rest' y s' := by
      rintro rest rest' hr y s' ⟨h', tk', nw, e, F', N', O', S', r⟩
      exact ⟨h', tk', nw, e, F', N', O', S', hr _ _ r⟩
    refine wpAny_mono (turn i ys news v I oI C oC D m₂ h tk E' (by omega) hP hj hC hx F N hO hne) (fun ok s' q => ?_) fun _ _ e => e
    cases ok with
    | true =>
      simp only [if_true] at q ⊢
      exact wpAny_mono q (fun y s'' r => mono (fun y nw hj' => ih (i + 1) _ nw (by omega) hj') y s'' r) fun _ _ e => e
    | false =>
      simp only [Bool.false_eq_true, if_false] at q ⊢
      exact mono (fun y nw hj' => ih (i + 1) _ nw (by omega) hj') _ s' q
/-- a block over a text -/
def SrcST (prog : Program) (w : World) (A : Around) (h₀ : Heap) (L : Addr) (m : Str → Option Value) (env : Env) (ct elt : Expr) (x : Str) (scope : Scope) (cl : List (Str × Addr)) (Fin : Shared → List Value → List (Addr × Obj) → Prop) (xv : Value) (s₁ : Shared) : Prop :=
  ∃ xt t news, xv = .str xt t ∧ A.handled = none ∧ Fr h₀ L s₁.heap m ∧ News h₀ L s₁.heap news ∧ xt.cps.size ≤ sizeLine ∧
    ∀ s₂ : Shared, (∃ h, s₂ = { s₁ with heap := h }) → CompRestT prog w A h₀ L m env ct elt x scope cl s₂ (fun _ => True) (SignAt xt) (Fin s₂) xt.cps.size 0 [] news
theorem ListComp_S {ct elt iter : Expr} {x : Str} {px : Pos} {scope : Scope} {cl : List (Str × Addr)} {pos : Pos} {Q : Value → Shared → Prop} (F₀ : Fr h₀ L s.heap m)
    (hclos : closureFor scope env = pure cl) (hcell : ∀ y ∈ scope.names, y.2 ≠ .cell) (hkind : scope.kind = .function)
    (hnames : ∀ y ∈ scope.names, y.2 = .local → scope.names.lookup y.1 = some .local) (hx : scope.names.lookup x = some .local)
    (h : wpAny (model prog w) A (eval iter env) (SrcST prog w A h₀ L m env ct elt x scope cl (fun s₂ => FinE h₀ L m s₂ Q)) E s)
    (hs : ∀ x, foldedSetIterable iter env x = pure x := by intro _; rfl) :
    wpAny (model prog w) A (eval (.ListComp elt [⟨.Name x px, iter, [ct], 0⟩] scope pos) env) Q E s := by
  rw [eval_ListComp]
  refine wpAny_comprehension_free (use := none) rfl hs hclos hkind hnames (wpAny_mono h (fun xv s₁ h₁ => ?_) fun _ _ e => e)
  obtain ⟨xt, t, news, rfl, hh, F, N, hsz, R⟩ := h₁
  have main : ∀ (St : Nat → Heap → Prop) (o : Obj), Walks prog w A s₁.heap.objs.size [s₁.heap.objs.size] [s₁.heap.objs.size] xt.cps.size (SignAt xt) St → St 0 (s₁.heap.push o) → (∀ i h, St i h → ∃ o, h.get? s₁.heap.objs.size = some o) →
      (∀ i h h' o, St i h → h.get? s₁.heap.objs.size = some o → h'.get? s₁.heap.objs.size = some o → St i h') → wpAny (model prog w) A (newList []) (fun acc s₃ => wpAny (model prog w) A (newFunctionEnv scope env.globals cl [] env.qual none .none (some env)) (fun cenv s₄ =>
      codeAny (model prog w) A (.compStart (.ListComp elt [⟨.Name x px, iter, [ct], 0⟩] scope pos) 0 (.ref s₁.heap.objs.size) acc { cenv with scope := relabel scope env }) (compPost (model prog w) A E none Q acc cenv.locals) s₄) E s₃) E { s₁ with heap := s₁.heap.push o } := by
    intro St o W h0 live keep
    refine block_T (s₂ := { s₁ with heap := s₁.heap.push o }) (S := fun _ => True) (Fin := FinE h₀ L m { s₁ with heap := s₁.heap.push o } Q) (RR := fun acc C => compPost (model prog w) A E none Q acc C) W hsz live (fun i h h' o nw st e e' _ _ _ => keep i h h' o st e e') hcell hkind hx h0 (fun b hb => ?_)
      (F.keeps fun _ _ e => Heap.get?_push_of_some _ e) (N.grown fun _ _ e => Heap.get?_push_of_some _ e) (Nat.ne_of_lt F.ns.lt) (next_is_new F) (fun p hp => Nat.ne_of_lt (Heap.lt_size (N p hp).1)) trivial (R _ ⟨_, rfl⟩) ?_
    · rw [List.mem_singleton.mp hb]
      show s₁.heap.objs.size < (s₁.heap.push _).objs.size
      rw [Heap.size_push]; exact Nat.lt_succ_self _
    · intro D C h tk m' ys news' F' N' o1 hn hC₀ hD₀ hCL hDL hCD offC fin
      refine ⟨m', hn, fun h'' hs'' => fin D h'' tk (F'.change hs'' hCL hC₀) (fun p hp => ?_) o1⟩
      refine ⟨hs''.extBut _ _ ?_ (N' p hp).1, (N' p hp).2⟩
      rcases List.mem_cons.mp hp with rfl | hp
      · exact Ne.symm hCD
      · exact offC p hp
  cases ha : xt.cps.all (· < 128)
  · refine wpAny_pyIter_wide ha (main _ _ (Walks.strWide hh _ xt t) ⟨_, Heap.get?_push_size _ rfl, rfl, rfl⟩ (fun i h e => let ⟨o, ho, _⟩ := e; ⟨o, ho⟩) fun i h h' o st e e' => ?_)
    obtain ⟨o2, g, r⟩ := st
    rw [g] at e
    cases e
    exact ⟨_, e', r⟩
  · refine wpAny_pyIter_ascii ha (main _ _ (Walks.strAscii hh _ xt t) ⟨_, Heap.get?_push_size _ rfl, rfl, rfl⟩ (fun i h e => let ⟨o, ho, _⟩ := e; ⟨o, ho⟩) fun i h h' o st e e' => ?_)
    obtain ⟨o2, g, r⟩ := st
    rw [g] at e
    cases e
    exact ⟨_, e', r⟩
end
end
section
open PySem PySem.W PyProof.Rows PySem.Spec PySem.Calls PyProof.V
def lets (H : List Nat) : List PyData := H.map fun x => PyData.str (tw [x])
theorem lets_carried : ∀ {vs : List Value} {H : List Nat}, Strs vs H → CarriedAll vs (lets H)
  | [], [], _ => .nil
  | _ :: _, x :: _, ⟨⟨t, e⟩, r⟩ => by
    subst e
    exact .cons (.str _ t) (lets_carried r)
  | [], _ :: _, h => h.elim
  | _ :: _, [], h => h.elim
theorem lets_lay : ∀ H : List Nat, (∀ x ∈ H, x < 4) → PyData.canLayAll0 (lets H) = true
  | [], _ => rfl
  | x :: r, h => by
    have ih := lets_lay r fun y hy => h y (List.mem_cons_of_mem _ hy)
    have hx := h x List.mem_cons_self
    have h1 : PyData.canLay0 (PyData.str (tw [x])) = true := by
      have hx' : x = 0 ∨ x = 1 ∨ x = 2 ∨ x = 3 := by omega
      rcases hx' with rfl | rfl | rfl | rfl <;> (simp [PyData.canLay0, PyData.strOk, tw])
    show PyData.canLayAll0 (PyData.str (tw [x]) :: lets r) = true
    simp [PyData.canLayAll0, h1, ih]
theorem lets_depth : ∀ H : List Nat, PyData.depthAll (lets H) = 0
  | [] => rfl
  | x :: r => by
    show PyData.depthAll (PyData.str (tw [x]) :: lets r) = 0
    simp [PyData.depthAll, PyData.depth, lets_depth r]
theorem lets_shaped (H : List Nat) (h : ∀ x ∈ H, x < 4) : SeqAt.shaped (.list (lets H)) = true := by
  simp [SeqAt.shaped, PyData.canLay0, PyData.depth, lets_lay H h, lets_depth]
theorem tw1_beq (a b : Nat) : (tw [a] == tw [b]) = decide (a = b) := by
  rw [Bool.eq_iff_iff]
  simp only [beq_iff_eq, decide_eq_true_eq]
  exact ⟨fun h => by simpa using tw_inj h, fun h => by rw [h]⟩
theorem lets_same : ∀ H K : List Nat, PySem.Spec.sameAll (lets H) (lets K) = decide (H = K)
  | [], [] => by simp [lets, PySem.Spec.sameAll]
  | [], _ :: _ => by simp [lets, PySem.Spec.sameAll]
  | _ :: _, [] => by simp [lets, PySem.Spec.sameAll]
  | a :: r, b :: t => by
    show PySem.Spec.sameAll (PyData.str (tw [a]) :: lets r) (PyData.str (tw [b]) :: lets t) = _
    simp only [PySem.Spec.sameAll, PySem.Spec.same, lets_same r t, tw1_beq]
    by_cases h : a = b <;> by_cases h' : r = t <;> simp [h, h']
section
variable {prog : Program} {w : World} {A : Around} {E : Value → Shared → Prop} {s : Shared} {a b : Addr} {xs ys : List Value} {H K : List Nat} {Q : Value → Shared → Prop}
theorem lets_ne (ha : s.heap.IsList a xs.toArray) (hb : s.heap.IsList b ys.toArray) (hi : Strs xs H) (hj : Strs ys K) (h1 : ∀ x ∈ H, x < 4) (h2 : ∀ x ∈ K, x < 4) (hu : A.units + 64 < cLine) (h : Q (.bool (!decide (H = K))) s) :
    wpAny (model prog w) A (compareOp .NotEq (.ref a) (.ref b)) Q E s :=
  ne_dataH_same (reads_newData ha (lets_carried hi)) (reads_newData hb (lets_carried hj)) (lets_shaped _ h1) (lets_shaped _ h2) hu (SeqAt.noMix_of_shape (.list .str) rfl _ _ (list_map_has fun _ => rfl) (list_map_has fun _ => rfl)) (by
    show Q (.bool (!PySem.Spec.same (.list (lets H)) (.list (lets K)))) s
    simp only [PySem.Spec.same, lets_same]; exact h)
theorem lets_ne_cons {x : Nat} (ha : s.heap.IsList a xs.toArray) (hb : s.heap.IsList b #[]) (hi : Strs xs (x :: H)) (h1 : ∀ y ∈ x :: H, y < 4) (hu : A.units + 64 < cLine) (h : Q (.bool true) s) :
    wpAny (model prog w) A (compareOp .NotEq (.ref a) (.ref b)) Q E s := lets_ne (ys := []) (K := []) ha hb hi trivial h1 (fun _ h => nomatch h) hu h
theorem lets_ne_nil (ha : s.heap.IsList a #[]) (hb : s.heap.IsList b #[]) (hu : A.units + 64 < cLine) (h : Q (.bool false) s) :
    wpAny (model prog w) A (compareOp .NotEq (.ref a) (.ref b)) Q E s := lets_ne (xs := []) (H := []) (ys := []) (K := []) ha hb trivial trivial (fun _ h => nomatch h) (fun _ h => nomatch h) hu h
end
end
section
open PySem PySem.W PyProof.Rows PySem.Spec PySem.Calls
/-- the four texts of foes -/
structure Gr (F : Nat → List Nat) : Prop where
  lt : ∀ x < 4, ∀ y ∈ F x, y < 4
  ir : ∀ x < 4, x ∉ F x
  sy : ∀ x < 4, ∀ y < 4, y ∈ F x → x ∈ F y
  nd : ∀ x < 4, (F x).Nodup
  ln : ∀ x < 4, (F x).length ≤ 3
/-- the marks of a letter's stack, the top first -/
def pr (G : Nat → List Nat) (y : Nat) (l : List Nat) : List Bool := l.flatMap fun x => if x = y then [true] else if y ∈ G x then [false] else []
/-- a letter that no foe and no like stands before -/
def av (G : Nat → List Nat) (l : List Nat) (y : Nat) : Bool := match pr G y l with
  | true :: _ => true
  | _ => false
def gr (G : Nat → List Nat) : Nat → List Nat → List Nat
  | 0, _ => []
  | n + 1, l => match [0, 1, 2, 3].find? (av G l) with
    | none => []
    | some a => a :: gr G n (l.erase a)
def HOrd : List Nat → Prop
  | [a, b] => a ≤ b
  | [a, b, c] => a ≤ b ∧ a ≤ c
  | [a, b, c, d] => a ≤ b ∧ a ≤ c ∧ b ≤ d
  | _ => True
theorem perm_of {l l' : List Nat} (h : ∀ z, l.count z = l'.count z) : l.Perm l' := List.perm_iff_count.mpr h
theorem hfy2 (a b : Nat) : hfy [a, b] = if a < b then [a, b] else [b, a] := rfl
theorem hfy3 (a b c : Nat) : hfy [a, b, c] = if b < c then (if a < b then [a, b, c] else [b, a, c]) else (if a < c then [a, b, c] else [c, b, a]) := rfl
theorem ho2 {a b : Nat} (h : a ≤ b) : HOrd [a, b] := h
theorem ho3 {a b c : Nat} (h : a ≤ b) (h2 : a ≤ c) : HOrd [a, b, c] := ⟨h, h2⟩
theorem ho4 {a b c d : Nat} (h : a ≤ b) (h2 : a ≤ c) (h3 : b ≤ d) : HOrd [a, b, c, d] := ⟨h, h2, h3⟩
theorem pm3 {a b c : Nat} (is : List Nat) (h : is.isPerm [0, 1, 2] = true) : (is.map fun i => [a, b, c].getD i 0).Perm [a, b, c] := (List.isPerm_iff.mp h).map _
theorem pm4 {a b c d : Nat} (is : List Nat) (h : is.isPerm [0, 1, 2, 3] = true) : (is.map fun i => [a, b, c, d].getD i 0).Perm [a, b, c, d] := (List.isPerm_iff.mp h).map _
theorem le_nn {a b : Nat} (h : ¬ b < a) : a ≤ b := Nat.le_of_not_lt h
theorem le_l {a b : Nat} (h : a < b) : a ≤ b := Nat.le_of_lt h
theorem le_ll {a b c : Nat} (h : a < b) (h2 : b < c) : a ≤ c := Nat.le_of_lt (Nat.lt_trans h h2)
theorem le_nl {a b c : Nat} (h : ¬ b < a) (h2 : b < c) : a ≤ c := Nat.le_trans (le_nn h) (le_l h2)
theorem le_ln {a b c : Nat} (h : a < b) (h2 : ¬ c < b) : a ≤ c := Nat.le_trans (le_l h) (le_nn h2)
theorem le_n2 {a b c : Nat} (h : ¬ b < a) (h2 : ¬ c < b) : a ≤ c := Nat.le_trans (le_nn h) (le_nn h2)
theorem hfy4a (a b c d : Nat) (hbd : b ≤ d) : HOrd (su [a, b, c, d]) ∧ (su [a, b, c, d]).Perm [a, b, c, d] := by
  rw [show su [a, b, c, d] = if b < c then (if a < d then (if a < b then [a, b, c, d] else [b, a, c, d]) else [b, d, c, a]) else (if a < c then [a, b, c, d] else [c, b, a, d]) from rfl]
  by_cases h1 : b < c
  · rw [if_pos h1]
    by_cases h2 : a < d
    · rw [if_pos h2]
      by_cases h3 : a < b
      · rw [if_pos h3]; exact ⟨ho4 (le_l h3) (le_ll h3 h1) hbd, .refl _⟩
      · rw [if_neg h3]; exact ⟨ho4 (le_nn h3) (le_l h1) (le_l h2), pm4 [1, 0, 2, 3] rfl⟩
    · rw [if_neg h2]; exact ⟨ho4 hbd (le_l h1) (le_nn h2), pm4 [1, 3, 2, 0] rfl⟩
  · rw [if_neg h1]
    by_cases h2 : a < c
    · rw [if_pos h2]; exact ⟨ho4 (le_ln h2 h1) (le_l h2) hbd, .refl _⟩
    · rw [if_neg h2]; exact ⟨ho4 (le_nn h1) (le_nn h2) hbd, pm4 [2, 1, 0, 3] rfl⟩
theorem hfy_ok (H : List Nat) (hl : H.length ≤ 4) : HOrd (hfy H) ∧ (hfy H).Perm H := by
  match H, hl with
  | [], _ => exact ⟨trivial, .refl _⟩
  | [a], _ => exact ⟨trivial, .refl _⟩
  | [a, b], _ =>
    rw [hfy2]
    by_cases h1 : a < b
    · rw [if_pos h1]; exact ⟨ho2 (le_l h1), .refl _⟩
    · rw [if_neg h1]; exact ⟨ho2 (le_nn h1), List.Perm.swap a b []⟩
  | [a, b, c], _ =>
    rw [hfy3]
    by_cases h1 : b < c
    · rw [if_pos h1]
      by_cases h2 : a < b
      · rw [if_pos h2]; exact ⟨ho3 (le_l h2) (le_ll h2 h1), .refl _⟩
      · rw [if_neg h2]; exact ⟨ho3 (le_nn h2) (le_l h1), pm3 [1, 0, 2] rfl⟩
    · rw [if_neg h1]
      by_cases h2 : a < c
      · rw [if_pos h2]; exact ⟨ho3 (le_ln h2 h1) (le_l h2), .refl _⟩
      · rw [if_neg h2]; exact ⟨ho3 (le_nn h1) (le_nn h2), pm3 [2, 1, 0] rfl⟩
  | [a, b, c, d], _ =>
    show HOrd (su (su1 [a, b, c, d])) ∧ (su (su1 [a, b, c, d])).Perm [a, b, c, d]
    by_cases h : b < d
    · rw [show su1 [a, b, c, d] = [a, b, c, d] from if_pos h]
      exact hfy4a a b c d (le_l h)
    · rw [show su1 [a, b, c, d] = [a, d, c, b] from if_neg h]
      obtain ⟨h1, h2⟩ := hfy4a a d c b (le_nn h)
      exact ⟨h1, h2.trans (pm4 [0, 3, 2, 1] rfl)⟩
  | _ :: _ :: _ :: _ :: _ :: _, hl => simp at hl
theorem le_all3 {x a b c : Nat} {l : List Nat} (h : x ≤ a) (h2 : x ≤ b) (h3 : x ≤ c) (e : l = [a, b, c]) : ∀ y ∈ l, x ≤ y := by
  subst e
  exact List.forall_mem_cons.mpr ⟨h, List.forall_mem_cons.mpr ⟨h2, List.forall_mem_cons.mpr ⟨h3, List.forall_mem_nil _⟩⟩⟩
theorem hrest_ok (x : Nat) (H : List Nat) (hl : H.length ≤ 3) (ho : HOrd (x :: H)) : HOrd (hrest (x :: H)) ∧ (hrest (x :: H)).Perm H ∧ ∀ y ∈ H, x ≤ y := by
  match H, hl with
  | [], _ => exact ⟨trivial, .refl _, fun _ h => nomatch h⟩
  | [a], _ => exact ⟨trivial, .refl _, List.forall_mem_cons.mpr ⟨ho, List.forall_mem_nil _⟩⟩
  | [a, b], _ =>
    obtain ⟨o1, o2⟩ : x ≤ a ∧ x ≤ b := ho
    have hm : ∀ y ∈ [a, b], x ≤ y := List.forall_mem_cons.mpr ⟨o1, List.forall_mem_cons.mpr ⟨o2, List.forall_mem_nil _⟩⟩
    rw [show hrest [x, a, b] = if b < a then [b, a] else [a, b] from rfl]
    by_cases h1 : b < a
    · rw [if_pos h1]; exact ⟨ho2 (le_l h1), List.Perm.swap a b [], hm⟩
    · rw [if_neg h1]; exact ⟨ho2 (le_nn h1), .refl _, hm⟩
  | [a, b, c], _ =>
    obtain ⟨o1, o2, o3⟩ : x ≤ a ∧ x ≤ b ∧ a ≤ c := ho
    have hm : ∀ y ∈ [a, b, c], x ≤ y := le_all3 o1 o2 (Nat.le_trans o1 o3) rfl
    rw [show hrest [x, a, b, c] = if a < b then (if c < a then [c, a, b] else [a, c, b]) else (if c < b then [c, a, b] else [b, a, c]) from rfl]
    by_cases h1 : a < b
    · rw [if_pos h1]
      by_cases h2 : c < a
      · rw [if_pos h2]; exact ⟨ho3 (le_l h2) (le_ll h2 h1), pm3 [2, 0, 1] rfl, hm⟩
      · rw [if_neg h2]; exact ⟨ho3 (le_nn h2) (le_l h1), pm3 [0, 2, 1] rfl, hm⟩
    · rw [if_neg h1]
      by_cases h2 : c < b
      · rw [if_pos h2]; exact ⟨ho3 (le_ln h2 h1) (le_l h2), pm3 [2, 0, 1] rfl, hm⟩
      · rw [if_neg h2]; exact ⟨ho3 (le_nn h1) (le_nn h2), pm3 [1, 0, 2] rfl, hm⟩
  | _ :: _ :: _ :: _ :: _, hl => simp at hl
theorem hpush_ok (H : List Nat) (y : Nat) (hl : H.length ≤ 3) (ho : HOrd H) : HOrd (hpush H y) ∧ (hpush H y).Perm (y :: H) := by
  match H, hl with
  | [], _ => exact ⟨trivial, .refl _⟩
  | [a], _ =>
    rw [show hpush [a] y = if y < a then [y, a] else [a, y] from rfl]
    by_cases h1 : y < a
    · rw [if_pos h1]; exact ⟨ho2 (le_l h1), .refl _⟩
    · rw [if_neg h1]; exact ⟨ho2 (le_nn h1), List.Perm.swap y a []⟩
  | [a, b], _ =>
    have o1 : a ≤ b := ho
    rw [show hpush [a, b] y = if y < a then [y, b, a] else [a, b, y] from rfl]
    by_cases h1 : y < a
    · rw [if_pos h1]; exact ⟨ho3 (Nat.le_trans (le_l h1) o1) (le_l h1), pm3 [0, 2, 1] rfl⟩
    · rw [if_neg h1]; exact ⟨ho3 o1 (le_nn h1), pm3 [1, 2, 0] rfl⟩
  | [a, b, c], _ =>
    obtain ⟨o1, o2⟩ : a ≤ b ∧ a ≤ c := ho
    rw [show hpush [a, b, c] y = if y < b then (if y < a then [y, a, c, b] else [a, y, c, b]) else [a, b, c, y] from rfl]
    by_cases h1 : y < b
    · rw [if_pos h1]
      by_cases h2 : y < a
      · rw [if_pos h2]; exact ⟨ho4 (le_l h2) (Nat.le_trans (le_l h2) o2) o1, pm4 [0, 1, 3, 2] rfl⟩
      · rw [if_neg h2]; exact ⟨ho4 (le_nn h2) o2 (le_l h1), pm4 [1, 0, 3, 2] rfl⟩
    · rw [if_neg h1]; exact ⟨ho4 o1 o2 (le_nn h1), pm4 [1, 2, 3, 0] rfl⟩
  | _ :: _ :: _ :: _ :: _, hl => simp at hl
theorem nodup_len : ∀ (n : Nat) (l : List Nat), l.Nodup → (∀ x ∈ l, x < n) → l.length ≤ n
  | 0, [], _, _ => Nat.le_refl _
  | 0, x :: _, _, h => absurd (h x List.mem_cons_self) (Nat.not_lt_zero _)
  | n + 1, l, hn, h => by
    have h1 := nodup_len n (l.erase n) (hn.erase n) (fun x hx => by
      have h2 := h x (List.mem_of_mem_erase hx)
      have h3 : x ≠ n := (List.Nodup.mem_erase_iff hn).mp hx |>.1
      omega)
    have h2 : l.length ≤ (l.erase n).length + 1 := by
      rw [List.length_erase]
      split <;> omega
    omega
theorem pr_cons (G : Nat → List Nat) (y x : Nat) (l : List Nat) : pr G y (x :: l) = (if x = y then [true] else if y ∈ G x then [false] else []) ++ pr G y l := by simp [pr]
theorem pr_app (G : Nat → List Nat) (y : Nat) (u l : List Nat) : pr G y (u ++ l) = pr G y u ++ pr G y l := by simp [pr]
/-- what stands before an available letter -/
theorem av_split {G : Nat → List Nat} {x : Nat} : ∀ {l : List Nat}, av G l x = true → ∃ u v, l = u ++ x :: v ∧ (∀ z ∈ u, z ≠ x ∧ x ∉ G z)
  | [], h => by simp [av, pr] at h
  | z :: l, h => by
    by_cases e : z = x
    · exact ⟨[], l, by rw [e]; rfl, fun _ h => nomatch h⟩
    · by_cases e2 : x ∈ G z
      · rw [av, pr_cons, if_neg e, if_pos e2] at h
        simp at h
      · have h' : av G l x = true := by rw [av, pr_cons, if_neg e, if_neg e2] at h; exact h
        obtain ⟨u, v, rfl, hu⟩ := av_split h'
        exact ⟨z :: u, v, rfl, fun q hq => by
          rcases List.mem_cons.mp hq with rfl | hq
          · exact ⟨e, e2⟩
          · exact hu q hq⟩
theorem av_of_split {G : Nat → List Nat} {x : Nat} {u v : List Nat} (hu : ∀ z ∈ u, z ≠ x ∧ x ∉ G z) : av G (u ++ x :: v) x = true := by
  induction u with
  | nil => simp [av, pr_cons]
  | cons z u ih =>
    have := hu z List.mem_cons_self
    have ih' := ih fun q hq => hu q (List.mem_cons_of_mem _ hq)
    unfold av at ih' ⊢
    rw [List.cons_append, pr_cons, if_neg this.1, if_neg this.2]
    exact ih'
theorem erase_split {x : Nat} {u v : List Nat} (hu : x ∉ u) : (u ++ x :: v).erase x = u ++ v := by
  rw [List.erase_append_right _ hu]; simp
theorem pr_blank {G : Nat → List Nat} {y : Nat} : ∀ {u : List Nat}, (∀ z ∈ u, z ≠ y) → ∀ v, pr G y u ++ false :: v = false :: (pr G y u ++ v)
  | [], _, v => rfl
  | z :: u, h, v => by
    rw [pr_cons, if_neg (h z List.mem_cons_self)]
    have ih := pr_blank (G := G) (y := y) (u := u) (fun q hq => h q (List.mem_cons_of_mem _ hq)) v
    split
    · simp [ih]
    · simp [ih]
theorem pr_none {G : Nat → List Nat} {y : Nat} : ∀ {u : List Nat}, (∀ z ∈ u, z ≠ y ∧ y ∉ G z) → pr G y u = []
  | [], _ => rfl
  | z :: u, h => by
    have := h z List.mem_cons_self
    rw [pr_cons, if_neg this.1, if_neg this.2, pr_none fun q hq => h q (List.mem_cons_of_mem _ hq)]
    rfl
section
variable {G : Nat → List Nat} (hG : Gr G) {l : List Nat} (hl : ∀ z ∈ l, z < 4) {x : Nat} (hx : x < 4) (ha : av G l x = true)
include hG hl hx ha
theorem pr_own : pr G x l = true :: pr G x (l.erase x) := by
  obtain ⟨u, v, rfl, hu⟩ := av_split ha
  rw [erase_split fun h => (hu x h).1 rfl, pr_app, pr_app, pr_cons, if_pos rfl, pr_none hu]
  rfl
theorem pr_foe {y : Nat} (hy : y ∈ G x) : pr G y l = false :: pr G y (l.erase x) := by
  obtain ⟨u, v, rfl, hu⟩ := av_split ha
  have hy4 := hG.lt x hx y hy
  have hne : x ≠ y := fun e => hG.ir x hx (e ▸ hy)
  rw [erase_split fun h => (hu x h).1 rfl, pr_app, pr_app, pr_cons, if_neg hne, if_pos hy]
  refine pr_blank (fun z hz e => ?_) _
  exact (hu z hz).2 (e ▸ hG.sy x hx y hy4 hy)
theorem pr_rest {y : Nat} (hne : y ≠ x) (hy : y ∉ G x) : pr G y (l.erase x) = pr G y l := by
  obtain ⟨u, v, rfl, hu⟩ := av_split ha
  rw [erase_split fun h => (hu x h).1 rfl, pr_app, pr_app, pr_cons, if_neg (Ne.symm hne), if_neg hy]
  rfl
theorem av_rest {y : Nat} (hne : y ≠ x) (hy : y ∉ G x) : av G (l.erase x) y = av G l y := by
  unfold av
  rw [pr_rest hG hl hx ha hne hy]
theorem av_foe {y : Nat} (hy : y ∈ G x) : av G l y = false := by
  unfold av
  rw [pr_foe hG hl hx ha hy]
theorem mem_of_av : x ∈ l := by
  obtain ⟨u, v, rfl, hu⟩ := av_split ha
  simp
end
theorem av_head {G : Nat → List Nat} (x : Nat) (l : List Nat) : av G (x :: l) x = true := by
  unfold av; rw [pr_cons, if_pos rfl]; rfl
/-- the heap of a text's available letters -/
structure Hp (P : Nat → Prop) (H : List Nat) : Prop where
  ord : HOrd H
  nd : H.Nodup
  lt : ∀ y ∈ H, y < 4
  mem : ∀ y < 4, y ∈ H ↔ P y
theorem Hp.len {P : Nat → Prop} {H : List Nat} (h : Hp P H) : H.length ≤ 4 := nodup_len 4 H h.nd h.lt
theorem Hp.start {G : Nat → List Nat} {l : List Nat} : Hp (fun y => av G l y = true) (hfy ([3, 2, 1, 0].filter (av G l))) := by
  have hlen : ([3, 2, 1, 0].filter (av G l)).length ≤ 4 := List.length_filter_le _ _
  obtain ⟨ho, hp⟩ := hfy_ok _ hlen
  have hn : ([3, 2, 1, 0].filter (av G l)).Nodup := List.Pairwise.filter _ (by decide : [3, 2, 1, 0].Nodup)
  refine ⟨ho, hp.nodup_iff.mpr hn, fun y hy => ?_, fun y hy => ?_⟩
  · have := (List.mem_filter.mp (hp.mem_iff.mp hy)).1
    simp at this; omega
  · rw [hp.mem_iff, List.mem_filter]
    constructor
    · exact fun h => h.2
    · intro h
      refine ⟨?_, h⟩
      simp; omega
theorem Hp.pop {P : Nat → Prop} {x : Nat} {H : List Nat} (h : Hp P (x :: H)) : Hp (fun y => P y ∧ y ≠ x) (hrest (x :: H)) ∧ (∀ y < 4, P y → x ≤ y) ∧ P x ∧ x < 4 ∧ H.length ≤ 3 := by
  have hx := h.lt x List.mem_cons_self
  have hlen := h.len
  simp at hlen
  obtain ⟨ho, hp, hm⟩ := hrest_ok x H (by omega) h.ord
  have hn := List.nodup_cons.mp h.nd
  refine ⟨⟨ho, hp.nodup_iff.mpr hn.2, fun y hy => h.lt y (List.mem_cons_of_mem _ (hp.mem_iff.mp hy)), fun y hy => ?_⟩, fun y hy hP => ?_, (h.mem x hx).mp List.mem_cons_self, hx, by omega⟩
  · rw [hp.mem_iff, ← h.mem y hy, List.mem_cons]
    constructor
    · exact fun q => ⟨.inr q, fun e => hn.1 (e ▸ q)⟩
    · rintro ⟨q | q, hne⟩
      · exact absurd q hne
      · exact q
  · rcases List.mem_cons.mp ((h.mem y hy).mpr hP) with e | q
    · omega
    · exact hm y q
theorem Hp.push {P : Nat → Prop} {H : List Nat} (h : Hp P H) {y : Nat} (hy : y < 4) (hn : ¬ P y) : Hp (fun z => P z ∨ z = y) (hpush H y) ∧ H.length ≤ 3 := by
  have hny : y ∉ H := fun q => hn ((h.mem y hy).mp q)
  have hnd : (y :: H).Nodup := List.nodup_cons.mpr ⟨hny, h.nd⟩
  have hlt : ∀ z ∈ y :: H, z < 4 := fun z hz => by
    rcases List.mem_cons.mp hz with rfl | hz
    · exact hy
    · exact h.lt z hz
  have hlen := nodup_len 4 _ hnd hlt
  simp at hlen
  obtain ⟨ho, hp⟩ := hpush_ok H y (by omega) h.ord
  refine ⟨⟨ho, hp.nodup_iff.mpr hnd, fun z hz => hlt z (hp.mem_iff.mp hz), fun z hz => ?_⟩, by omega⟩
  rw [hp.mem_iff, List.mem_cons, h.mem z hz]
  exact Or.comm
theorem Hp.congr {P P' : Nat → Prop} {H : List Nat} (h : Hp P H) (e : ∀ y < 4, P y ↔ P' y) : Hp P' H := ⟨h.ord, h.nd, h.lt, fun y hy => (h.mem y hy).trans (e y hy)⟩
theorem gr_step {G : Nat → List Nat} {n : Nat} {l : List Nat} {x : Nat} (hx : x < 4) (ha : av G l x = true) (hm : ∀ y < 4, av G l y = true → x ≤ y) : gr G (n + 1) l = x :: gr G n (l.erase x) := by
  have : [0, 1, 2, 3].find? (av G l) = some x := by
    have no : ∀ y < x, av G l y = false := fun y hy => by
      cases e : av G l y with
      | false => rfl
      | true => exact absurd (hm y (by omega) e) (by omega)
    have hx' : x = 0 ∨ x = 1 ∨ x = 2 ∨ x = 3 := by omega
    rcases hx' with rfl | rfl | rfl | rfl
    · simp [List.find?, ha]
    · simp [List.find?, ha, no 0 (by omega)]
    · simp [List.find?, ha, no 0 (by omega), no 1 (by omega)]
    · simp [List.find?, ha, no 0 (by omega), no 1 (by omega), no 2 (by omega)]
  rw [gr, this]
theorem nil_of_no {G : Nat → List Nat} {l : List Nat} (hl : ∀ z ∈ l, z < 4) (h : ∀ y < 4, ¬ av G l y = true) : l = [] := by
  cases l with
  | nil => rfl
  | cons x l => exact absurd (av_head x l) (h x (hl x List.mem_cons_self))
end
section
/-- a letter stands behind a greater one with which it can change places, as with each letter between -/
def Bad (G : Nat → List Nat) : List Nat → Prop
  | [] => False
  | x :: l => (∃ u y v, l = u ++ y :: v ∧ y < x ∧ x ∉ G y ∧ ∀ z ∈ u, z ≠ y ∧ z ∉ G y) ∨ Bad G l
section
variable {G : Nat → List Nat} (hG : Gr G)
include hG
theorem gr_some {l : List Nat} (hl : ∀ z ∈ l, z < 4) (hne : l ≠ []) : ∃ x, x < 4 ∧ av G l x = true ∧ (∀ y < 4, av G l y = true → x ≤ y) := by
  by_cases h0 : av G l 0 = true
  · exact ⟨0, by omega, h0, fun _ _ _ => Nat.zero_le _⟩
  by_cases h1 : av G l 1 = true
  · exact ⟨1, by omega, h1, fun y _ hy => by
      rcases Nat.eq_zero_or_pos y with rfl | h
      · exact absurd hy h0
      · exact h⟩
  by_cases h2 : av G l 2 = true
  · refine ⟨2, by omega, h2, fun y _ hy => ?_⟩
    have : y ≠ 0 := fun e => h0 (e ▸ hy)
    have : y ≠ 1 := fun e => h1 (e ▸ hy)
    omega
  by_cases h3 : av G l 3 = true
  · refine ⟨3, by omega, h3, fun y _ hy => ?_⟩
    have : y ≠ 0 := fun e => h0 (e ▸ hy)
    have : y ≠ 1 := fun e => h1 (e ▸ hy)
    have : y ≠ 2 := fun e => h2 (e ▸ hy)
    omega
  · exfalso
    refine hne (nil_of_no (G := G) hl fun y hy h => ?_)
    have : y = 0 ∨ y = 1 ∨ y = 2 ∨ y = 3 := by omega
    rcases this with rfl | rfl | rfl | rfl
    · exact h0 h
    · exact h1 h
    · exact h2 h
    · exact h3 h
theorem erase_lt {l : List Nat} (hl : ∀ z ∈ l, z < 4) (x : Nat) : ∀ z ∈ l.erase x, z < 4 := fun z hz => hl z (List.mem_of_mem_erase hz)
theorem gr_ind {P : List Nat → List Nat → Prop} (nil : P [] []) (step : ∀ l x g, (∀ z ∈ l, z < 4) → x < 4 → av G l x = true → (∀ y < 4, av G l y = true → x ≤ y) → x ∈ l → g = gr G (l.erase x).length (l.erase x) → P (l.erase x) g → P l (x :: g)) :
    ∀ n l, l.length = n → (∀ z ∈ l, z < 4) → P l (gr G l.length l) := by
  intro n
  induction n with
  | zero =>
    intro l hn hl
    have : l = [] := List.eq_nil_of_length_eq_zero hn
    subst this
    exact nil
  | succ n ih =>
    intro l hn hl
    obtain ⟨x, hx, ha, hm⟩ := gr_some hG hl (fun e => by subst e; simp at hn)
    have hmem := mem_of_av hG hl hx ha
    have hlen : (l.erase x).length = n := by rw [List.length_erase, if_pos hmem]; omega
    have := step l x _ hl hx ha hm hmem rfl (ih (l.erase x) hlen (erase_lt hG hl x))
    rw [hn, gr_step hx ha hm, ← hlen]
    exact this
theorem gr_len {l : List Nat} (hl : ∀ z ∈ l, z < 4) : (gr G l.length l).length = l.length := by
  refine gr_ind hG (P := fun l g => g.length = l.length) rfl (fun l x g hl hx ha hm hmem hg ih => ?_) _ l rfl hl
  have : 0 < l.length := List.length_pos_of_mem hmem
  rw [List.length_cons, ih, List.length_erase, if_pos hmem]; omega
theorem gr_lt {l : List Nat} (hl : ∀ z ∈ l, z < 4) : ∀ z ∈ gr G l.length l, z < 4 := by
  refine gr_ind hG (P := fun l g => ∀ z ∈ g, z < 4) (fun _ h => nomatch h) (fun l x g hl hx ha hm hmem hg ih => ?_) _ l rfl hl
  intro z hz
  rcases List.mem_cons.mp hz with rfl | hz
  · exact hx
  · exact ih z hz
/-- what is picked later, behind friends, was there to be picked -/
theorem av_later {l : List Nat} (hl : ∀ z ∈ l, z < 4) : ∀ u y v, gr G l.length l = u ++ y :: v → (∀ z ∈ u, z ≠ y ∧ z ∉ G y) → av G l y = true ∧ y < 4 := by
  refine gr_ind hG (P := fun l g => ∀ u y v, g = u ++ y :: v → (∀ z ∈ u, z ≠ y ∧ z ∉ G y) → av G l y = true ∧ y < 4) (fun u y v h => by cases u <;> cases h) (fun l x g hl hx ha hm hmem hg ih => ?_) _ l rfl hl
  intro u y v e hu
  cases u with
  | nil =>
    obtain ⟨rfl, rfl⟩ := List.cons.inj e
    exact ⟨ha, hx⟩
  | cons z u =>
    obtain ⟨rfl, e2⟩ := List.cons.inj e
    obtain ⟨h1, h2⟩ := ih u y v e2 fun q hq => hu q (List.mem_cons_of_mem _ hq)
    have hz := hu x List.mem_cons_self
    rw [av_rest hG hl hx ha (Ne.symm hz.1) (fun q => hz.2 (hG.sy x hx y h2 q))] at h1
    exact ⟨h1, h2⟩
theorem gr_good {l : List Nat} (hl : ∀ z ∈ l, z < 4) : ¬ Bad G (gr G l.length l) := by
  refine gr_ind hG (P := fun l g => ¬ Bad G g) (fun h => h) (fun l x g hl hx ha hm hmem hg ih => ?_) _ l rfl hl
  rintro (⟨u, y, v, e, hyx, hxy, hu⟩ | h)
  · subst hg
    obtain ⟨h1, h2⟩ := av_later hG (erase_lt hG hl x) u y v e hu
    rw [av_rest hG hl hx ha (by omega) (fun q => hxy (hG.sy x hx y h2 q))] at h1
    have := hm y h2 h1
    omega
  · exact ih h
theorem good_fix : ∀ l : List Nat, (∀ z ∈ l, z < 4) → ¬ Bad G l → gr G l.length l = l
  | [], _, _ => rfl
  | x :: l, hl, hb => by
    have hx := hl x List.mem_cons_self
    have ha := av_head (G := G) x l
    have hm : ∀ y < 4, av G (x :: l) y = true → x ≤ y := by
      intro y hy h
      rcases Nat.lt_or_ge y x with hlt | hge
      · exfalso
        obtain ⟨u, v, e, hu⟩ := av_split h
        cases u with
        | nil => cases e; omega
        | cons z u =>
          obtain ⟨rfl, e2⟩ := List.cons.inj e
          refine hb (.inl ⟨u, y, v, e2, hlt, fun q => (hu x List.mem_cons_self).2 (hG.sy y hy x hx q), fun z hz => ?_⟩)
          have h1 := hu z (List.mem_cons_of_mem _ hz)
          have hz4 : z < 4 := hl z (by rw [e2]; simp [hz])
          exact ⟨h1.1, fun q => h1.2 (hG.sy y hy z hz4 q)⟩
      · exact hge
    have := good_fix l (fun z hz => hl z (List.mem_cons_of_mem _ hz)) fun h => hb (.inr h)
    rw [List.length_cons, gr_step hx ha hm, List.erase_cons_head, this]
theorem bad_iff {l : List Nat} (hl : ∀ z ∈ l, z < 4) : Bad G l ↔ l ≠ gr G l.length l := by
  constructor
  · intro h e
    rw [e] at h
    have := gr_good hG hl
    rw [e] at this
    exact gr_good hG hl h
  · intro h
    exact Classical.byContradiction fun hb => h (good_fix hG l hl hb).symm
/-- the words agree on each letter and on each two foes -/
theorem gr_proj {l : List Nat} (hl : ∀ z ∈ l, z < 4) {p q : Nat} (hp : p < 4) (hq : q = p ∨ q ∈ G p) : (gr G l.length l).filter (fun z => z == p || z == q) = l.filter (fun z => z == p || z == q) := by
  refine gr_ind hG (P := fun l g => g.filter (fun z => z == p || z == q) = l.filter (fun z => z == p || z == q)) rfl (fun l x g hl hx ha hm hmem hg ih => ?_) _ l rfl hl
  obtain ⟨u, v, rfl, hu⟩ := av_split ha
  rw [erase_split fun h => (hu x h).1 rfl] at ih
  rw [List.filter_cons, ih]
  cases e : (x == p || x == q) with
  | false => simp only [List.filter_append, List.filter_cons, e, Bool.false_eq_true, if_false]
  | true =>
    have hn : u.filter (fun z => z == p || z == q) = [] := by
      rw [List.filter_eq_nil_iff]
      intro z hz hzp
      have h1 := hu z hz
      have hz4 : z < 4 := hl z (by simp [hz])
      simp only [Bool.or_eq_true, beq_iff_eq] at hzp e
      rcases hq with rfl | hq
      · have : z = x := by rcases hzp with h | h <;> rcases e with h' | h' <;> exact h.trans h'.symm
        exact h1.1 this
      · have hq4 := hG.lt p hp q hq
        have hqp := hG.sy p hp q hq4 hq
        rcases hzp with rfl | rfl <;> rcases e with rfl | rfl
        · exact h1.1 rfl
        · exact h1.2 hq
        · exact h1.2 hqp
        · exact h1.1 rfl
    simp only [List.filter_append, List.filter_cons, e, if_true, hn, List.nil_append]
end
/-- the parts that _translate tells -/
inductive Part
  | br (l : List Nat)
  | nb (l : List Nat)
  | tx (l : List Nat)
def fits : Part → Nat → Bool
  | .br l, x => l.contains x
  | .nb l, x => !l.contains x
  | .tx l, x => l.contains x
/-- the letters with which a letter can change places -/
def frs (G : Nat → List Nat) (a : Nat) : List Nat := [0, 1, 2, 3].filter fun x => x != a && !(G a).contains x
def grt (G : Nat → List Nat) (a : Nat) : List Nat := (frs G a).filter fun x => decide (a < x)
def mid (G : Nat → List Nat) (a i j : Nat) : List Part := List.replicate i (.tx (frs G a)) ++ List.replicate j (.nb (a :: G a))
def runOf (G : Nat → List Nat) (a gap : Nat) : List Part := .br (grt G a) :: (mid G a (gap - gap / 2) (gap / 2) ++ [.tx [a]])
def gapsOf (G : Nat → List Nat) (a n : Nat) : Nat := if grt G a = [] then 0 else n - 1
def runsOf (G : Nat → List Nat) (n : Nat) : List (List Part) := [0, 1, 2].flatMap fun a => (List.range (gapsOf G a n)).map (runOf G a)
def fitsAll : List Part → List Nat → Bool
  | [], _ => true
  | p :: r, x :: l => fits p x && fitsAll r l
  | _ :: _, [] => false
/-- the run fits somewhere -/
def fitsAt : List Part → List Nat → Bool
  | r, [] => fitsAll r []
  | r, x :: l => fitsAll r (x :: l) || fitsAt r l
theorem mem_frs {G : Nat → List Nat} {a x : Nat} : x ∈ frs G a ↔ x < 4 ∧ x ≠ a ∧ x ∉ G a := by
  unfold frs
  rw [List.mem_filter]
  simp
  omega
theorem mem_grt {G : Nat → List Nat} {a x : Nat} : x ∈ grt G a ↔ x < 4 ∧ a < x ∧ x ∉ G a := by
  unfold grt
  rw [List.mem_filter, mem_frs, decide_eq_true_eq]
  constructor
  · rintro ⟨⟨h1, h2, h3⟩, h4⟩; exact ⟨h1, h4, h3⟩
  · rintro ⟨h1, h2, h3⟩; exact ⟨⟨h1, by omega, h3⟩, h2⟩
theorem fitsAll_app : ∀ (r s : List Part) (l : List Nat), fitsAll (r ++ s) l = (fitsAll r (l.take r.length) && fitsAll s (l.drop r.length))
  | [], s, l => by simp [fitsAll]
  | p :: r, s, [] => by
    simp only [List.cons_append, fitsAll, List.take_nil, Bool.false_and]
  | p :: r, s, x :: l => by
    simp only [List.cons_append, fitsAll, List.length_cons, List.take_succ_cons, List.drop_succ_cons, fitsAll_app r s l, Bool.and_assoc]
theorem fitsAll_len : ∀ (r : List Part) (l : List Nat), fitsAll r l = true → r.length ≤ l.length
  | [], _, _ => Nat.zero_le _
  | p :: r, [], h => by cases h
  | p :: r, x :: l, h => by
    simp only [fitsAll, Bool.and_eq_true] at h
    have := fitsAll_len r l h.2
    simp; omega
/-- what the middle of a run fits -/
theorem fits_mid {G : Nat → List Nat} {a : Nat} : ∀ (i j : Nat) (l : List Nat), (∀ z ∈ l, z < 4) → (fitsAll (mid G a i j) (l.take (i + j)) = true ↔ (i + j ≤ l.length ∧ ∀ z ∈ l.take (i + j), z ≠ a ∧ z ∉ G a))
  | 0, 0, l, hl => by simp [mid, fitsAll]
  | 0, j + 1, [], hl => by simp [mid, List.replicate_succ, fitsAll]
  | i + 1, j, [], hl => by
    simp [mid, List.replicate_succ, fitsAll]
  | 0, j + 1, x :: l, hl => by
    have ih := fits_mid (G := G) (a := a) 0 j l fun z hz => hl z (List.mem_cons_of_mem _ hz)
    have e : mid G a 0 (j + 1) = .nb (a :: G a) :: mid G a 0 j := by simp [mid, List.replicate_succ]
    rw [e, show 0 + (j + 1) = (0 + j) + 1 from by omega, List.take_succ_cons, fitsAll, Bool.and_eq_true, ih]
    simp [fits]
    constructor
    · rintro ⟨⟨h1, h2⟩, h3, h4⟩; exact ⟨by omega, ⟨h1, h2⟩, h4⟩
    · rintro ⟨h3, ⟨h1, h2⟩, h4⟩; exact ⟨⟨h1, h2⟩, by omega, h4⟩
  | i + 1, j, x :: l, hl => by
    have ih := fits_mid (G := G) (a := a) i j l fun z hz => hl z (List.mem_cons_of_mem _ hz)
    have e : mid G a (i + 1) j = .tx (frs G a) :: mid G a i j := by simp [mid, List.replicate_succ]
    have hx := hl x List.mem_cons_self
    rw [e, show i + 1 + j = (i + j) + 1 from by omega, List.take_succ_cons, fitsAll, Bool.and_eq_true, ih]
    simp [fits, mem_frs, hx]
    constructor
    · rintro ⟨⟨h1, h2⟩, h3, h4⟩; exact ⟨by omega, ⟨h1, h2⟩, h4⟩
    · rintro ⟨h3, ⟨h1, h2⟩, h4⟩; exact ⟨⟨h1, h2⟩, by omega, h4⟩
theorem mid_len (G : Nat → List Nat) (a i j : Nat) : (mid G a i j).length = i + j := by simp [mid]
theorem runOf_len (G : Nat → List Nat) (a gap : Nat) : (runOf G a gap).length = gap + 2 := by
  simp [runOf, mid_len]; omega
theorem fits_run {G : Nat → List Nat} {a gap x : Nat} {l : List Nat} (hx : x < 4) (hl : ∀ z ∈ l, z < 4) :
    fitsAll (runOf G a gap) (x :: l) = true ↔ (a < x ∧ x ∉ G a ∧ ∃ u v, l = u ++ a :: v ∧ u.length = gap ∧ ∀ z ∈ u, z ≠ a ∧ z ∉ G a) := by
  have hs : gap - gap / 2 + gap / 2 = gap := by omega
  rw [runOf, fitsAll, fitsAll_app, mid_len, hs]
  simp only [Bool.and_eq_true]
  have := fits_mid (G := G) (a := a) (gap - gap / 2) (gap / 2) l hl
  rw [hs] at this
  rw [this]
  have h1 : fits (.br (grt G a)) x = true ↔ (a < x ∧ x ∉ G a) := by
    simp [fits, mem_grt, hx]
  rw [h1]
  constructor
  · rintro ⟨⟨h1, h2⟩, ⟨h3, h4⟩, h5⟩
    refine ⟨h1, h2, l.take gap, l.drop (gap + 1), ?_, by rw [List.length_take]; omega, h4⟩
    cases e : l.drop gap with
    | nil => rw [e] at h5; cases h5
    | cons y r =>
      rw [e] at h5
      have : y = a := by simpa [fitsAll, fits] using h5
      subst this
      have e2 : l.drop (gap + 1) = r := by rw [← List.drop_drop, e]; rfl
      rw [e2, ← e, List.take_append_drop]
  · rintro ⟨h1, h2, u, v, rfl, rfl, hu⟩
    refine ⟨⟨h1, h2⟩, ⟨by simp, by simpa using hu⟩, ?_⟩
    simp [fitsAll, fits]
theorem fits_bad {G : Nat → List Nat} : ∀ {n : Nat} {l : List Nat}, l.length ≤ n → (∀ z ∈ l, z < 4) → ((runsOf G n).any (fun r => fitsAt r l) = true ↔ Bad G l)
  | n, [], _, _ => by
    simp only [Bad, iff_false, List.any_eq_true, not_exists, not_and, runsOf, List.mem_flatMap, List.mem_map]
    rintro r ⟨a, _, gap, _, rfl⟩ h
    have := fitsAll_len _ _ h
    rw [runOf_len] at this
    simp at this
  | n, x :: l, hn, hl => by
    have hx := hl x List.mem_cons_self
    have hl' := fun z hz => hl z (List.mem_cons_of_mem x hz)
    have ih := fits_bad (G := G) (n := n) (l := l) (by simp at hn; omega) hl'
    have e : (runsOf G n).any (fun r => fitsAt r (x :: l)) = ((runsOf G n).any (fun r => fitsAll r (x :: l)) || (runsOf G n).any (fun r => fitsAt r l)) := by
      rw [Bool.eq_iff_iff]
      simp only [fitsAt, List.any_eq_true, Bool.or_eq_true]
      constructor
      · rintro ⟨r, hr, h | h⟩
        · exact .inl ⟨r, hr, h⟩
        · exact .inr ⟨r, hr, h⟩
      · rintro (⟨r, hr, h⟩ | ⟨r, hr, h⟩)
        · exact ⟨r, hr, .inl h⟩
        · exact ⟨r, hr, .inr h⟩
    rw [e, Bool.or_eq_true, ih, Bad]
    refine or_congr ?_ Iff.rfl
    rw [List.any_eq_true]
    constructor
    · rintro ⟨r, hr, h⟩
      obtain ⟨a, ha, hr⟩ := List.mem_flatMap.mp hr
      obtain ⟨gap, hg, rfl⟩ := List.mem_map.mp hr
      obtain ⟨h1, h2, u, v, rfl, h3, h4⟩ := (fits_run hx hl').mp h
      exact ⟨u, a, v, rfl, h1, h2, h4⟩
    · rintro ⟨u, y, v, rfl, h1, h2, h3⟩
      refine ⟨runOf G y u.length, List.mem_flatMap.mpr ⟨y, by simp; omega, List.mem_map.mpr ⟨u.length, ?_, rfl⟩⟩, (fits_run hx hl').mpr ⟨h1, h2, u, v, rfl, rfl, h3⟩⟩
      rw [List.mem_range, gapsOf, if_neg]
      · simp at hn; omega
      · intro e
        have : x ∈ grt G y := mem_grt.mpr ⟨hx, h1, h2⟩
        rw [e] at this; cases this
/-- the law -/
theorem law_pure {G : Nat → List Nat} (hG : Gr G) {l : List Nat} (hl : ∀ z ∈ l, z < 4) :
    (runsOf G l.length).any (fun r => fitsAt r (gr G l.length l)) = false ∧ (runsOf G l.length).any (fun r => fitsAt r l) = (l != gr G l.length l) := by
  constructor
  · rw [Bool.eq_false_iff]
    exact fun h => gr_good hG hl ((fits_bad (Nat.le_of_eq (gr_len hG hl)) (gr_lt hG hl)).mp h)
  · rw [Bool.eq_iff_iff, fits_bad (Nat.le_refl _) hl, bad_iff hG hl]
    simp
end
section
section
open PySem PySem.W PyProof.Rows PySem.Spec PySem.Calls
open Builtin
section
variable {prog : Program} {w : World} {A : Around} {E : Value → Shared → Prop} {s : Shared} {env : Env} {h₀ : Heap} {x : Str} {body : List Stmt} {Q : Flow → Shared → Prop}
theorem iter_tw_J {l : List Nat} {tx : Tok} {m₀ : Str → Option Value} {news : List (Addr × Obj)} (J : Nat → (Str → Option Value) → List (Addr × Obj) → Prop)
    (hh : A.handled = none) (F : Fr h₀ env.locals s.heap m₀) (N : News h₀ env.locals s.heap news) (hj : J 0 m₀ news)
    (turn : ∀ i c t m₁ news₁ h tk I o, l[i]? = some c → J i m₁ news₁ → (∀ p ∈ news₁, p.1 ≠ I) → Fr h₀ env.locals h (fun y => if y = x then some (.str (tw [c]) t) else m₁ y) → News h₀ env.locals h ((I, o) :: news₁) →
      wpAny (model prog w) A (execs body env) (TurnEnd h₀ env.locals I o (J (i + 1)) { s with heap := h, toks := tk } Q) E { s with heap := h, toks := tk })
    (done : ∀ m₁ news₁ h tk, J l.length m₁ news₁ → Fr h₀ env.locals h m₁ → News h₀ env.locals h news₁ → Q .next { s with heap := h, toks := tk }) :
    wpAny (model prog w) A (pyIter (.str (tw l) tx)) (fun it s₂ => LoopAtV prog w A h₀ env x body Q E it s₂) E s := by
  refine iter_str_J (xt := tw l) J hh F N hj ?_ (by simpa [tw] using done)
  intro i c t m₁ news₁ h tk I o hc
  have : ∃ d, l[i]? = some d ∧ c = d + 97 := by
    simp only [tw, List.getElem?_toArray, List.getElem?_map] at hc
    cases e : l[i]? with
    | none => rw [e] at hc; cases hc
    | some d => rw [e] at hc; exact ⟨d, rfl, (Option.some.inj hc).symm⟩
  obtain ⟨d, hd, rfl⟩ := this
  exact turn i d t m₁ news₁ h tk I o hd
end
/-- the dict of the four texts -/
def fkv (F : Nat → List Nat) (tf : Nat → Tok) : List (Str × Value) := [(Str.ofString "a", .str (tw (F 0)) (tf 0)), (Str.ofString "b", .str (tw (F 1)) (tf 1)), (Str.ofString "c", .str (tw (F 2)) (tf 2)), (Str.ofString "d", .str (tw (F 3)) (tf 3))]
def skv (X : Nat → Addr) : List (Str × Value) := [(Str.ofString "a", .ref (X 0)), (Str.ofString "b", .ref (X 1)), (Str.ofString "c", .ref (X 2)), (Str.ofString "d", .ref (X 3))]
theorem fkv_at {F : Nat → List Nat} {tf : Nat → Tok} {x : Nat} (hx : x < 4) : valueAt (fkv F tf) (tw [x]) = some (.str (tw (F x)) (tf x)) := by
  match x, hx with
  | 0, _ => rfl
  | 1, _ => rfl
  | 2, _ => rfl
  | 3, _ => rfl
theorem skv_at {X : Nat → Addr} {x : Nat} (hx : x < 4) : valueAt (skv X) (tw [x]) = some (.ref (X x)) := by
  match x, hx with
  | 0, _ => rfl
  | 1, _ => rfl
  | 2, _ => rfl
  | 3, _ => rfl
def sel {α : Type} (a b c d : α) : Nat → α := fun y => match y with | 0 => a | 1 => b | 2 => c | _ => d
theorem sel0 {α : Type} {a b c d : α} : sel a b c d 0 = a := rfl
theorem sel1 {α : Type} {a b c d : α} : sel a b c d 1 = b := rfl
theorem sel2 {α : Type} {a b c d : α} : sel a b c d 2 = c := rfl
theorem sel3 {α : Type} {a b c d : α} : sel a b c d 3 = d := rfl
theorem chain_lt {x d : Nat → Nat} (a : ∀ i < 4, d i < x i) (b : ∀ i < 3, x i < d (i + 1)) : ∀ k i, i + 1 + k < 4 → x i < d (i + 1 + k)
  | 0, i, h => b i (Nat.lt_of_succ_lt_succ h)
  | k + 1, i, h => Nat.lt_trans (chain_lt a b k i (Nat.lt_of_succ_lt h)) (Nat.lt_trans (a _ (Nat.lt_of_succ_lt h)) (b _ (Nat.lt_of_succ_lt_succ h)))
theorem chain_ij {x d : Nat → Nat} (a : ∀ i < 4, d i < x i) (b : ∀ i < 3, x i < d (i + 1)) {i j : Nat} (h : i < j) (hj : j < 4) : x i < d j := by
  obtain ⟨k, rfl⟩ := Nat.exists_eq_add_of_lt h
  rw [Nat.add_right_comm] at hj ⊢
  exact chain_lt a b k i hj
theorem chain_ne {x d : Nat → Nat} (a : ∀ i < 4, d i < x i) (b : ∀ i < 3, x i < d (i + 1)) :
    (∀ i < 4, ∀ j < 4, i ≠ j → x i ≠ x j) ∧ (∀ i < 4, ∀ j < 4, d i ≠ x j) ∧ (∀ r, r < d 0 → (∀ i < 4, x i ≠ r) ∧ (∀ i < 4, d i ≠ r)) := by
  have lt : ∀ {i j : Nat}, i < j → j < 4 → x i < d j := fun h hj => chain_ij a b h hj
  have d0 : ∀ i < 4, d 0 ≤ d i := fun i hi => by
    cases i with
    | zero => exact Nat.le_refl _
    | succ i => exact Nat.le_of_lt (Nat.lt_trans (a 0 (by decide)) (lt (Nat.succ_pos i) hi))
  refine ⟨fun i hi j hj h => ?_, fun i hi j hj => ?_, fun r hr => ⟨fun i hi => ?_, fun i hi => ?_⟩⟩
  · rcases Nat.lt_or_gt_of_ne h with h | h
    · exact Nat.ne_of_lt (Nat.lt_trans (lt h hj) (a j hj))
    · exact Nat.ne_of_gt (Nat.lt_trans (lt h hi) (a i hi))
  · rcases Nat.lt_trichotomy i j with h | h | h
    · exact Nat.ne_of_lt (Nat.lt_trans (a i hi) (Nat.lt_trans (lt h hj) (a j hj)))
    · exact h ▸ Nat.ne_of_lt (a i hi)
    · exact Nat.ne_of_gt (lt h hi)
  · exact Nat.ne_of_gt (Nat.lt_of_lt_of_le hr (Nat.le_trans (d0 i hi) (Nat.le_of_lt (a i hi))))
  · exact Nat.ne_of_gt (Nat.lt_of_lt_of_le hr (d0 i hi))
theorem all4 {P : Nat → Prop} (h0 : P 0) (h1 : P 1) (h2 : P 2) (h3 : P 3) : ∀ i < 4, P i
  | 0, _ => h0
  | 1, _ => h1
  | 2, _ => h2
  | 3, _ => h3
  | n + 4, h => absurd h (Nat.not_lt.mpr (Nat.le_add_left 4 n))
theorem all3 {P : Nat → Prop} (h0 : P 0) (h1 : P 1) (h2 : P 2) : ∀ i < 3, P i
  | 0, _ => h0
  | 1, _ => h1
  | 2, _ => h2
  | n + 3, h => absurd h (Nat.not_lt.mpr (Nat.le_add_left 3 n))
theorem led_start {prog : Program} {w : World} {h₀ h : Heap} {L : Addr} {x0 x1 x2 x3 d0 d1 d2 d3 SD C FD : Addr} {a0 a1 a2 a3 b0 b1 b2 b3 : Tok} {so oc fo : Obj}
    (N : News h₀ L h [(x3, accObj d3 #[] 0), (d3, accD w a3 b3), (x2, accObj d2 #[] 0), (d2, accD w a2 b2), (x1, accObj d1 #[] 0), (d1, accD w a1 b1), (x0, accObj d0 #[] 0), (d0, accD w a0 b0), (SD, so), (C, oc), (FD, fo)])
    (hso : so.IsDictOf (PySem.strKind prog w) (strPairs [(.str (Str.ofString "a") 0, .ref x0), (.str (Str.ofString "b") 0, .ref x1), (.str (Str.ofString "c") 0, .ref x2), (.str (Str.ofString "d") 0, .ref x3)]))
    (hoc : oc.data = .cell (some (.ref SD))) (hlt : @LT.lt Nat _ FD C ∧ @LT.lt Nat _ C SD ∧ @LT.lt Nat _ SD d0 ∧ @LT.lt Nat _ d0 x0 ∧ @LT.lt Nat _ x0 d1 ∧ @LT.lt Nat _ d1 x1 ∧ @LT.lt Nat _ x1 d2 ∧ @LT.lt Nat _ d2 x2 ∧ @LT.lt Nat _ x2 d3 ∧ @LT.lt Nat _ d3 x3) :
    ∃ X DX T1 T2, ∃ SD so oc, Obj.data oc = .cell (some (.ref SD)) ∧ so.IsDictOf (PySem.strKind prog w) (skv X) ∧ News h₀ L h ((C, oc) :: (SD, so) :: (FD, fo) :: accs w X DX T1 T2 (fun _ => []) (fun _ => 0) []) ∧ StK X DX (fun _ => []) [] (fun _ => []) ∧ Sep [(C, oc), (SD, so), (FD, fo)] (accs w X DX T1 T2 (fun _ => []) (fun _ => 0) []) := by
  obtain ⟨l1, l2, l3, l4, l5, l6, l7, l8, l9, l10⟩ := hlt
  obtain ⟨n1, n2, n3⟩ := chain_ne (x := sel x0 x1 x2 x3) (d := sel d0 d1 d2 d3) (all4 l4 l6 l8 l10) (all3 l5 l7 l9)
  refine ⟨sel x0 x1 x2 x3, sel d0 d1 d2 d3, sel a0 a1 a2 a3, sel b0 b1 b2 b3, SD, so, oc, hoc, hso, ?_, ⟨n1, n2, ?_, ?_⟩, ?_⟩
  · refine ledger_drop N ?_
    unfold accs
    exact List.forall_mem_cons.mpr ⟨List.mem_of_getElem? (i := 9) rfl, List.forall_mem_cons.mpr ⟨List.mem_of_getElem? (i := 8) rfl, List.forall_mem_cons.mpr ⟨List.mem_of_getElem? (i := 10) rfl,
      List.forall_mem_cons.mpr ⟨List.mem_of_getElem? (i := 6) rfl, List.forall_mem_cons.mpr ⟨List.mem_of_getElem? (i := 7) rfl, List.forall_mem_cons.mpr ⟨List.mem_of_getElem? (i := 4) rfl, List.forall_mem_cons.mpr ⟨List.mem_of_getElem? (i := 5) rfl,
      List.forall_mem_cons.mpr ⟨List.mem_of_getElem? (i := 2) rfl, List.forall_mem_cons.mpr ⟨List.mem_of_getElem? (i := 3) rfl, List.forall_mem_cons.mpr ⟨List.mem_of_getElem? (i := 0) rfl, List.forall_mem_cons.mpr ⟨List.mem_of_getElem? (i := 1) rfl, List.forall_mem_nil _⟩⟩⟩⟩⟩⟩⟩⟩⟩⟩⟩
  · exact fun _ h => nomatch h
  · exact fun _ _ => trivial
  · have c1 := Nat.lt_trans l2 l3
    have go : ∀ r : Addr × Obj, @LT.lt Nat _ r.1 d0 → ∀ p ∈ accs w (sel x0 x1 x2 x3) (sel d0 d1 d2 d3) (sel a0 a1 a2 a3) (sel b0 b1 b2 b3) (fun _ => []) (fun _ => 0) [], (p.1 : Nat) ≠ r.1 :=
      fun r hr => accs_ne (n3 _ hr).1 (n3 _ hr).2 fun _ h => nomatch h
    exact List.forall_mem_cons.mpr ⟨go _ c1, List.forall_mem_cons.mpr ⟨go _ l3, List.forall_mem_cons.mpr ⟨go _ (Nat.lt_trans l1 c1), List.forall_mem_nil _⟩⟩⟩
theorem EqOff.trans {xs ys : List Str} {m m' m₀ : Str → Option Value} (h : EqOff xs m m') (hs : ∀ y, ys.contains y = false → xs.contains y = false) (h' : EqOff ys m' m₀) : EqOff ys m m₀ := fun y hy => (h y (hs y hy)).trans (h' y hy)
def Bd (cs : Nat → List Bool) : Prop := ∀ y, (cs y).length ≤ 100
theorem Bd.at {cs : Nat → List Bool} (h : Bd cs) {x : Nat} : (cs x).length ≤ 100 := h x
theorem flat_nodup {y : Nat} : ∀ {l : List Nat}, l.Nodup → l.flatMap (fun z => if z = y then [false] else []) = if y ∈ l then [false] else []
  | [], _ => rfl
  | z :: l, h => by
    rw [List.flatMap_cons, flat_nodup (List.nodup_cons.mp h).2]
    by_cases e : z = y
    · subst e
      rw [if_pos rfl, if_neg (List.nodup_cons.mp h).1, if_pos (List.mem_cons_self)]
      rfl
    · rw [if_neg e]
      by_cases e2 : y ∈ l
      · rw [if_pos e2, if_pos (List.mem_cons_of_mem _ e2)]; rfl
      · rw [if_neg e2, if_neg (fun h => by rcases List.mem_cons.mp h with h | h; exact e h.symm; exact e2 h)]; rfl
/-- the stacks in the midst of a turn -/
def csI (G : Nat → List Nat) (cs : Nat → List Bool) (x i : Nat) : Nat → List Bool := fun y => upd cs x (cs x ++ [true]) y ++ ((G x).take i).flatMap (fun z => if z = y then [false] else [])
theorem csI_zero (G : Nat → List Nat) (cs : Nat → List Bool) (x : Nat) : csI G cs x 0 = upd cs x (cs x ++ [true]) := by
  funext y
  unfold csI
  simp
theorem csI_succ {G : Nat → List Nat} {cs : Nat → List Bool} {x i c : Nat} (h : (G x)[i]? = some c) : csI G cs x (i + 1) = upd (csI G cs x i) c (csI G cs x i c ++ [false]) := by
  funext y
  have e : (G x).take (i + 1) = (G x).take i ++ [c] := by rw [List.take_add_one, h]; rfl
  unfold csI
  rw [e, List.flatMap_append, ← List.append_assoc]
  by_cases ey : y = c
  · subst ey
    rw [upd_same]
    simp
  · rw [upd_ne _ _ ey]
    have : ¬ c = y := fun h => ey h.symm
    simp [this]
theorem csI_end {G : Nat → List Nat} {x : Nat} {l : List Nat} (hn : (G x).Nodup) (hx : x ∉ G x) : csI G (fun y => (pr G y l).reverse) x (G x).length = fun y => (pr G y (x :: l)).reverse := by
  funext y
  unfold csI
  rw [List.take_length, flat_nodup hn]
  have e : pr G y (x :: l) = (if x = y then [true] else if y ∈ G x then [false] else []) ++ pr G y l := by simp [pr]
  rw [e, List.reverse_append]
  by_cases ey : y = x
  · subst ey
    rw [upd_same, if_neg hx, if_pos rfl]
    simp
  · rw [upd_ne _ _ ey, if_neg (fun h : x = y => ey h.symm)]
    split <;> simp
theorem pr_len (G : Nat → List Nat) (y : Nat) (l : List Nat) : (pr G y l).length ≤ l.length := by
  induction l with
  | nil => simp [pr]
  | cons x l ih =>
    have e : pr G y (x :: l) = (if x = y then [true] else if y ∈ G x then [false] else []) ++ pr G y l := by simp [pr]
    rw [e, List.length_append, List.length_cons]
    have : (if x = y then [true] else if y ∈ G x then [false] else []).length ≤ 1 := by split; simp; split <;> simp
    omega
theorem csI_bd {G : Nat → List Nat} {x i : Nat} {l : List Nat} (hl : l.length ≤ 60) (hi : i ≤ 4) : Bd (csI G (fun y => (pr G y l).reverse) x i) := by
  intro y
  unfold csI
  rw [List.length_append]
  have h1 : (upd (fun y => (pr G y l).reverse) x ((pr G x l).reverse ++ [true]) y).length ≤ 61 := by
    by_cases ey : y = x
    · subst ey
      rw [upd_same]
      have := pr_len G y l
      simp; omega
    · rw [upd_ne _ _ ey]
      have := pr_len G y l
      simp; omega
  have h2 : (((G x).take i).flatMap (fun z => if z = y then [false] else [])).length ≤ 4 := by
    refine Nat.le_trans (m := ((G x).take i).length) ?_ (by rw [List.length_take]; omega)
    generalize (G x).take i = l
    induction l with
    | nil => simp
    | cons z l ih =>
      rw [List.flatMap_cons, List.length_append, List.length_cons]
      have : (if z = y then [false] else []).length ≤ 1 := by split <;> simp
      omega
  dsimp only at h1 ⊢
  omega
theorem pr_bd {G : Nat → List Nat} {l : List Nat} (hl : l.length ≤ 60) : Bd (fun y => (pr G y l).reverse) := fun y => by
  have := pr_len G y l
  simp; omega
theorem range_small : ∀ n : Nat, n ≤ 6 → Builtin.Range.small ((n : Int) - 1) (-1) (-1) = true := by
  intro n hn
  have : n = 0 ∨ n = 1 ∨ n = 2 ∨ n = 3 ∨ n = 4 ∨ n = 5 ∨ n = 6 := by omega
  rcases this with rfl | rfl | rfl | rfl | rfl | rfl | rfl <;> decide
theorem range_size : ∀ n : Nat, n ≤ 6 → Builtin.Range.rangeSize ((n : Int) - 1) (-1) (-1) = (n : Int) := by
  intro n hn
  have : n = 0 ∨ n = 1 ∨ n = 2 ∨ n = 3 ∨ n = 4 ∨ n = 5 ∨ n = 6 := by omega
  rcases this with rfl | rfl | rfl | rfl | rfl | rfl | rfl <;> decide
theorem top_av {G : Nat → List Nat} {l : List Nat} {y : Nat} (h : av G l y = true) : topS y (pr G y l).reverse = tw [y] := by
  unfold av at h
  unfold topS
  split at h
  · rename_i r e
    rw [e]; simp [sg]
  · cases h
theorem top_nav {G : Nat → List Nat} {l : List Nat} {y : Nat} (h : av G l y = false) : topS y (pr G y l).reverse = Str.ofString "" := by
  unfold av at h
  unfold topS
  split at h
  · cases h
  · rename_i ne
    cases e : pr G y l with
    | nil => rfl
    | cons c r =>
      cases c with
      | true => exact absurd e (ne r)
      | false => simp [sg]
theorem sign_tw {l : List Nat} {i : Nat} {v : Value} (h : SignAt (tw l) i v) : ∃ x u, l[i]? = some x ∧ v = .str (tw [x]) u := by
  obtain ⟨c, u, hc, rfl⟩ := h
  simp only [tw, List.getElem?_toArray, List.getElem?_map] at hc
  cases e : l[i]? with
  | none => rw [e] at hc; cases hc
  | some d =>
    rw [e] at hc
    obtain rfl := Option.some.inj hc
    exact ⟨d, u, rfl, rfl⟩
theorem news_tl {h₀ h : Heap} {L : Addr} {p : Addr × Obj} {news : List (Addr × Obj)} (N : News h₀ L h (p :: news)) : News h₀ L h news := fun q hq => N q (.tail _ hq)
theorem ledger_swap {h₀ h : Heap} {L : Addr} {p q : Addr × Obj} {news : List (Addr × Obj)} (N : News h₀ L h (p :: q :: news)) : News h₀ L h (q :: p :: news) := fun r hr => N r (by
  rcases List.mem_cons.mp hr with rfl | hr
  · exact .tail _ (.head _)
  rcases List.mem_cons.mp hr with rfl | hr
  · exact .head _
  · exact .tail _ (.tail _ hr))
theorem sepD {I D : Addr} {o o' : Obj} {fr l : List (Addr × Obj)} (h : Sep ((I, o) :: (D, o') :: fr) l) : ∀ q ∈ l, q.1 ≠ D := h.tail.head
theorem EqOff.ovr2 {xs ys : List Str} {u b m₀ : Str → Option Value} (hs : ∀ y, ys.contains y = false → xs.contains y = false) (h : EqOff ys b m₀) : EqOff ys (_root_.Mine.ovr xs u b) m₀ := fun y hy => by
  show (if xs.contains y then u y else b y) = m₀ y
  rw [hs y hy]
  exact h y hy
theorem off1_ne {D : Addr} : ∀ {l : List (Addr × Obj)}, PyProof.Rows.LCg.Off1 D l → ∀ p ∈ l, p.1 ≠ D
  | [], _, _, h => nomatch h
  | _ :: _, x, p, h => by
    rcases List.mem_cons.mp h with rfl | h
    · exact x.1
    · exact off1_ne x.2 p h
/-- the stacks while a letter is taken off -/
def csP (G : Nat → List Nat) (l : List Nat) (x i : Nat) : Nat → List Bool := fun y => if y ∈ (x :: G x).take i then (pr G y (l.erase x)).reverse else (pr G y l).reverse
theorem csP_zero (G : Nat → List Nat) (l : List Nat) (x : Nat) : csP G l x 0 = fun y => (pr G y l).reverse := by funext y; simp [csP]
theorem not_take {l : List Nat} (hn : l.Nodup) {i c : Nat} (h : l[i]? = some c) : c ∉ l.take i := by
  intro hm
  obtain ⟨hi, e2⟩ := List.getElem?_eq_some_iff.mp h
  rw [← List.take_append_drop i l] at hn
  refine (List.nodup_append.mp hn).2.2 c hm c ?_ rfl
  rw [List.drop_eq_getElem_cons hi, e2]
  exact List.mem_cons_self
theorem mem_take_succ {l : List Nat} {i c y : Nat} (h : l[i]? = some c) : y ∈ l.take (i + 1) ↔ y ∈ l.take i ∨ y = c := by
  rw [List.take_add_one, h]; simp
section
variable {G : Nat → List Nat} (hG : Gr G) {l : List Nat} (hl : ∀ z ∈ l, z < 4) {x : Nat} (hx : x < 4) (ha : av G l x = true)
include hG hl hx ha
theorem xG_nd : (x :: G x).Nodup := List.nodup_cons.mpr ⟨hG.ir x hx, hG.nd x hx⟩
theorem csP_at {i c : Nat} (h : (x :: G x)[i]? = some c) : ∃ b, csP G l x i c = (pr G c (l.erase x)).reverse ++ [b] := by
  have hc := List.mem_of_getElem? h
  refine ⟨decide (c = x), ?_⟩
  unfold csP
  rw [if_neg (not_take (xG_nd hG hl hx ha) h)]
  rcases List.mem_cons.mp hc with rfl | hc
  · rw [pr_own hG hl hx ha]; simp
  · have hne : c ≠ x := fun e => hG.ir x hx (e ▸ hc)
    rw [pr_foe hG hl hx ha hc]; simp [hne]
theorem csP_succ {i c : Nat} (h : (x :: G x)[i]? = some c) : upd (csP G l x i) c (pr G c (l.erase x)).reverse = csP G l x (i + 1) := by
  funext y
  by_cases e : y = c
  · subst e
    rw [upd_same]
    unfold csP
    rw [if_pos ((mem_take_succ h).mpr (.inr rfl))]
  · rw [upd_ne _ _ e]
    unfold csP
    by_cases e2 : y ∈ (x :: G x).take i
    · rw [if_pos e2, if_pos ((mem_take_succ h).mpr (.inl e2))]
    · rw [if_neg e2, if_neg (fun q => by rcases (mem_take_succ h).mp q with q | q; exact e2 q; exact e q)]
theorem csP_end : csP G l x (x :: G x).length = fun y => (pr G y (l.erase x)).reverse := by
  funext y
  unfold csP
  rw [List.take_length]
  split
  · rfl
  · rename_i h
    have h1 : y ≠ x := fun e => h (e ▸ List.mem_cons_self)
    have h2 : y ∉ G x := fun e => h (List.mem_cons_of_mem _ e)
    rw [pr_rest hG hl hx ha h1 h2]
theorem csP_bd {i : Nat} (hz : l.length ≤ 60) : Bd (csP G l x i) := by
  intro y
  unfold csP
  have h1 := pr_len G y l
  have h2 := pr_len G y (l.erase x)
  have h3 := List.length_erase_le (a := x) (l := l)
  split
  · simp; omega
  · simp; omega
def hpP (G : Nat → List Nat) (l : List Nat) (x i : Nat) (y : Nat) : Prop := (y ∉ x :: G x ∧ av G l y = true) ∨ (y ∈ (x :: G x).take i ∧ av G (l.erase x) y = true)
theorem hpP_start {H : List Nat} (h : Hp (fun y => av G l y = true ∧ y ≠ x) H) : Hp (hpP G l x 0) H := h.congr fun y hy => by
  unfold hpP
  simp only [List.take_zero, List.not_mem_nil, false_and, or_false, List.mem_cons, not_or]
  constructor
  · rintro ⟨h1, h2⟩
    exact ⟨⟨h2, fun q => by rw [av_foe hG hl hx ha q] at h1; cases h1⟩, h1⟩
  · rintro ⟨⟨h1, h2⟩, h3⟩
    exact ⟨h3, h1⟩
theorem hpP_no {i c : Nat} (h : (x :: G x)[i]? = some c) : ¬ hpP G l x i c := by
  rintro (⟨q, _⟩ | ⟨q, _⟩)
  · exact q (List.mem_of_getElem? h)
  · exact not_take (xG_nd hG hl hx ha) h q
theorem hpP_push {i c : Nat} {H : List Nat} (h : (x :: G x)[i]? = some c) (hv : av G (l.erase x) c = true) (hH : Hp (fun z => hpP G l x i z ∨ z = c) H) : Hp (hpP G l x (i + 1)) H := hH.congr fun y hy => by
  unfold hpP
  rw [mem_take_succ h]
  constructor
  · rintro ((q | q) | rfl)
    · exact .inl q
    · exact .inr ⟨.inl q.1, q.2⟩
    · exact .inr ⟨.inr rfl, hv⟩
  · rintro (q | ⟨q | rfl, q2⟩)
    · exact .inl (.inl q)
    · exact .inl (.inr ⟨q, q2⟩)
    · exact .inr rfl
theorem hpP_skip {i c : Nat} {H : List Nat} (h : (x :: G x)[i]? = some c) (hv : av G (l.erase x) c = false) (hH : Hp (hpP G l x i) H) : Hp (hpP G l x (i + 1)) H := hH.congr fun y hy => by
  unfold hpP
  rw [mem_take_succ h]
  constructor
  · rintro (q | q)
    · exact .inl q
    · exact .inr ⟨.inl q.1, q.2⟩
  · rintro (q | ⟨q | rfl, q2⟩)
    · exact .inl q
    · exact .inr ⟨q, q2⟩
    · rw [hv] at q2; cases q2
theorem hpP_end {H : List Nat} (hH : Hp (hpP G l x (x :: G x).length) H) : Hp (fun y => av G (l.erase x) y = true) H := hH.congr fun y hy => by
  unfold hpP
  rw [List.take_length]
  by_cases e : y ∈ x :: G x
  · simp [e]
  · have h1 : y ≠ x := fun q => e (q ▸ List.mem_cons_self)
    have h2 : y ∉ G x := fun q => e (List.mem_cons_of_mem _ q)
    rw [av_rest hG hl hx ha h1 h2]
    simp [e]
end
theorem strs_snoc {t : Tok} {y : Nat} : ∀ {its : List Value} {H : List Nat}, Strs its H → Strs (its ++ [.str (tw [y]) t]) (H ++ [y])
  | [], [], _ => ⟨⟨t, rfl⟩, trivial⟩
  | _ :: _, _ :: _, ⟨p, r⟩ => ⟨p, strs_snoc r⟩
  | [], _ :: _, h => h.elim
  | _ :: _, [], h => h.elim
theorem s_least (w : World) (FD : Addr) (fo : Obj) (G : Nat → List Nat) (hG : Gr G) (tf : Nat → Tok) (hfo : fo.IsDictOf (PySem.strKind PRG w) (fkv G tf)) (wd : List Nat) (hw : ∀ x ∈ wd, x < 4) (hl : wd.length ≤ 6) (t0 : Tok) (rest : List (Addr × Obj)) (hsep : ∀ p ∈ rest, p.1 ≠ FD) :
   CallS w 200 120 1200 ((FD, fo) :: rest) [.str (tw wd) t0, .ref FD]
    (fun _ h₀ L m s Q => ∀ q lf t n tk h', Fr h₀ L h' m → News h₀ L h' ((q, tupObj [.str (tw (gr G wd.length wd)) t, .ref lf]) :: (lf, listOf #[] n) :: (FD, fo) :: rest) → Q (.ref q) { s with heap := h', toks := tk }) := by
  k_with_none
  k_with "ktr_room" => first | exact om2 (by assumption) rfl | exact om1 (by assumption) rfl | exact om0 (by assumption) | exact om3 rfl
  k_with "k_all" => first | assumption | exact ne_of_allLt (by assumption) | exact ne_of_allLt (And.right (by assumption)) | exact ne_of_allLt (And.right (And.right (by assumption))) | exact ne_of_allLt (And.right (And.right (And.right (by assumption)))) | exact ne_of_allLt (And.right (And.right (And.right (And.right (by assumption))))) | exact ne_of_allLt (And.right (And.right (And.right (And.right (And.right (by assumption))))))
  k_with "k_inst" => (apply inst_acc; k_asm; k_mem; k_mem)
  k_with "k_room" => ktr_room
  k_with "SPL" => first | exact Spl.nil | (apply Spl.cons; walk_at "SPL")
  k_with "MYSUB" => first | exact List.forall_mem_nil _ | (refine List.forall_mem_cons.mpr ⟨by k_memK, ?_⟩; walk_at "MYSUB") | (intro _ hp; repeat (first | exact hp | refine List.mem_cons_of_mem _ ?_))
  k_with "MYHP" => ( (repeat (first | rw [if_pos (by rw [← tw_lt]; assumption)] | rw [if_neg (by rw [← tw_lt]; assumption)])); (first | assumption | (repeat (first | exact trivial | refine ⟨⟨_, rfl⟩, ?_⟩))))
  k_with "compareOp NotEq str str" => (k_here; (with_reducible show wpAny _ _ (compareOp CmpOp.NotEq (Value.str (tw (_ :: _)) _) (Value.str (Str.ofString "") _)) _ _ _); k_dflt (refine twl_ne1 ?_))
  k_with "call builtin:len" => (k_here; (with_reducible show wpAny _ _ (call (Value.builtin "len") [Value.str (tw _) _]) _ _ _); k_dflt (refine twl_len (by first | (simp only [List.length_append, List.length_cons, List.length_nil]; omega) | omega) ?_; intro _ _))
  k_with "subscriptTail" => (k_here; (with_reducible show wpAny _ _ (subscriptTail _ _ (Value.str (tw _) _) (Value.int _ _)) _ _ _); k_dflt (refine twl_item (by assumption) (by omega) (by omega) ?_; intro _ _))
  k_with "subscriptTail Name Name str int" => (k_here; (with_reducible show wpAny _ _ (subscriptTail _ _ (Value.str (tw _) _) (Value.int _ _)) _ _ _); k_dflt (refine twl_item (by assumption) (by omega) (by omega) ?_; intro _ _))
  k_with "subscriptTail Name BinOp str int" => (k_here; (with_reducible show wpAny _ _ (subscriptTail _ _ (Value.str (tw _) _) (Value.int _ _)) _ _ _); k_dflt (refine twl_item (by assumption) (by omega) (by omega) ?_; intro _ _))
  k_with "subscriptTail Name Constant str int" => (k_here; (with_reducible show wpAny _ _ (subscriptTail _ _ (Value.str (tw _) _) (Value.int _ _)) _ _ _); k_dflt (refine twl_item (by assumption) (by omega) (by omega) ?_; intro _ _))
  k_with "binaryOp Add str str" => (k_here; (with_reducible show wpAny _ _ (binaryOp Operator.Add (Value.str (tw _) _) (Value.str (tw _) _)) _ _ _); k_dflt (refine twl_add (by first | (simp only [List.length_append, List.length_cons, List.length_nil]; omega) | omega) ?_; intro _ _))
  k_with "inplaceOp Add str str" => (k_here; (with_reducible show wpAny _ _ (inplaceOp Operator.Add (Value.str (tw _) _) (Value.str (tw _) _)) _ _ _); k_dflt (refine twl_iadd (by first | (simp only [List.length_append, List.length_cons, List.length_nil]; omega) | omega) ?_; intro _ _))
  k_with "inplaceOp Add" => (k_here; (with_reducible show wpAny _ _ (inplaceOp Operator.Add (Value.str (tw _) _) (Value.str (tw _) _)) _ _ _); k_dflt (refine twl_iadd (by first | (simp only [List.length_append, List.length_cons, List.length_nil]; omega) | omega) ?_; intro _ _))
  k_with "subscriptTail" => (k_here; (with_reducible show wpAny _ _ (subscriptTail _ _ (Value.ref _) (Value.str (tw [_]) _)) _ _ _); k_dflt (first | (refine kda_item (knd := PySem.strKind _ _) (kvs := skv _) (by k_asm) (by k_mem) (by assumption) (strKind_is _ _ _ _) (skv_at (by assumption)) ?_) | (refine kda_item (knd := PySem.strKind _ _) (kvs := fkv _ _) (by k_asm) (by k_mem) (by assumption) (strKind_is _ _ _ _) (fkv_at (by assumption)) ?_)))
  k_with "subscriptTail Name Name ref str" => (k_here; (with_reducible show wpAny _ _ (subscriptTail _ _ (Value.ref _) (Value.str (tw [_]) _)) _ _ _); k_dflt (first | (refine kda_item (knd := PySem.strKind _ _) (kvs := skv _) (by k_asm) (by k_mem) (by assumption) (strKind_is _ _ _ _) (skv_at (by assumption)) ?_) | (refine kda_item (knd := PySem.strKind _ _) (kvs := fkv _ _) (by k_asm) (by k_mem) (by assumption) (strKind_is _ _ _ _) (fkv_at (by assumption)) ?_)))
  k_with "subscriptTail Name Subscript ref str" => (k_here; (with_reducible show wpAny _ _ (subscriptTail _ _ (Value.ref _) (Value.str (tw [_]) _)) _ _ _); k_dflt (first | (refine kda_item (knd := PySem.strKind _ _) (kvs := skv _) (by k_asm) (by k_mem) (by assumption) (strKind_is _ _ _ _) (skv_at (by assumption)) ?_) | (refine kda_item (knd := PySem.strKind _ _) (kvs := fkv _ _) (by k_asm) (by k_mem) (by assumption) (strKind_is _ _ _ _) (fkv_at (by assumption)) ?_)))
  k_with "MYSTEPS" => repeat' ((fail_if_success (with_reducible show wpAny _ _ (pyIter (Value.str (tw _) _)) _ _ _)); (fail_if_success (with_reducible show wpAny _ _ (exec (Stmt.While _ _ _ _) _) _ _ _)); (fail_if_success (with_reducible show wpAny _ _ (eval (PySem.Expr.ListComp _ _ _ _) _) _ _ _)); first | (k_unfold; (try dsimp only)) | (k_end; wrow_close) | walk1 | (dsimp only; walk1) | (leave1; try dsimp only))
  k_with "exec For" => (k_here; (with_reducible show wpAny _ _ (exec (Stmt.For _ _ _ [] _) _) _ _ _); (rename Fr _ _ _ _ => lF'); (with_unfolding_all refine For_invVF lF' (by exact rfl) (by exact rfl) ?_; k_whole))
  k_with "call ref" => (k_here; (with_reducible show wpAny _ _ (call (Value.ref 142) _) _ _ _); k_dflt ( (refine callS_use2 (C := s_new _ _) (R := ?_); intro _ _ _ _ _ _ _ _ l1 l2; (try simp only [AllLt, and_true] at l1); (try k_lt2 l2))))
  k_with "MEMX" => first | exact accs_x (by assumption) | exact accs_dx (by assumption) | (refine List.Mem.tail _ ?_; walk_at "MEMX")
  k_with "getMethod ref" => (k_here; k_dflt ( (apply acc_method; k_asm; k_asm; k_asm; walk_at "MEMX"; walk_at "MEMX"; k_is; k_is; decide; rfl; k_whole)))
  k_with "call ref" => (k_here; (with_reducible show wpAny _ _ (call (Value.ref 86) _) _ _ _); k_dflt (first | (refine callS_use2 (N := by assumption) (C := s_pushX2 (by walk_at "SPL") (by assumption) (by assumption) (by assumption) true (by exact Bd.at (by assumption))) (R := ?_); intro _ _ _ _ _ _ N' _ _; (simp only [List.cons_append, List.nil_append] at N')) | (refine callS_use2 (N := by assumption) (C := s_pushX2 (by walk_at "SPL") (by assumption) (by assumption) (by assumption) false (by exact Bd.at (by assumption))) (R := ?_); intro _ _ _ _ _ _ N' _ _; (simp only [List.cons_append, List.nil_append] at N'))))
  k_with "call ref" => (k_here; (with_reducible show wpAny _ _ (call (Value.ref 195) _) _ _ _); k_dflt (refine callS_use2 (N := by assumption) (C := s_topX2 (by walk_at "SPL") (by assumption) (by assumption) (by assumption) (by exact Bd.at (by assumption)) (by assumption)) (R := ?_); intro _ _ _ _ _ _ _ N' _ _; (simp only [List.cons_append, List.nil_append] at N')))
  k_with "call ref" => (k_here; (with_reducible show wpAny _ _ (call (Value.ref 102) _) _ _ _); k_dflt (refine callS_use2 (N := by assumption) (C := s_popX2 (by walk_at "SPL") (by assumption) (by assumption) (by assumption) (by assumption) (by exact Bd.at (by assumption))) (R := ?_); intro _ _ _ _ _ _ N' _ _; (simp only [List.cons_append, List.nil_append] at N')))
  k_with "call ref" => (k_here; (with_reducible show wpAny _ _ (call (Value.ref 139) _) _ _ _); k_dflt (refine callS_use2 (N := by assumption) (C := s_countX2 (by walk_at "SPL") (by assumption) (by assumption) (by assumption)) (R := ?_); intro _ _ _ _ N'; (simp only [List.cons_append, List.nil_append] at N')))
  k_with "compareOp NotEq ref ref" => (k_here; (with_reducible show wpAny _ _ (compareOp CmpOp.NotEq (Value.ref _) (Value.ref _)) _ _ _); k_dflt (first | (refine lets_ne_cons (by exact News.isList (by assumption) (by k_mem)) (by exact News.isList (by assumption) (by k_mem)) (by assumption) (by assumption) (by first | ktr_units | units_room) ?_) | (refine lets_ne_nil (by exact News.isList (by assumption) (by k_mem)) (by exact News.isList (by assumption) (by k_mem)) (by first | ktr_units | units_room) ?_)))
  k_with "call ref" => (k_here; (with_reducible show wpAny _ _ (call (Value.ref 167) _) _ _ _); k_dflt ( (refine callS_use2 (N := by first | assumption | exact news_tl (by assumption)) (C := s_heapify _ _ _ _ _ _ (by assumption) (by assumption) (by assumption)) (R := ?_); intro _ _ _ _ _ _ _)))
  k_with "call ref" => (k_here; (with_reducible show wpAny _ _ (call (Value.ref 160) _) _ _ _); k_dflt ( (refine callS_use2 (N := by first | assumption | exact news_tl (by assumption)) (C := s_heappop _ _ _ _ _ _ _ (by assumption) (by assumption) (by assumption)) (R := ?_); intro _ _ _ _ _ _ _ _)))
  k_with "call ref" => (k_here; (with_reducible show wpAny _ _ (call (Value.ref 153) _) _ _ _); k_dflt ( (refine callS_use2 (N := by exact ledger_swap (by assumption)) (C := s_heappush _ _ _ _ _ _ _ _ (by first | assumption | ((repeat (refine List.forall_mem_cons.mpr ⟨by assumption, ?_⟩)); exact sepD (by assumption))) (by assumption) (by assumption)) (R := ?_); intro _ _ _ _ _ _ _)))
  unfold CallS
  k_fill
  intro mean mg mb dp un gd cn cs a ccd cl outer A₀ base h₀ L m s Q E B F X N T hk hR hu hret
  refine wpAny_call ?_
  refine' code_defCR (news := [(FD, fo)]) (rest := rest) (binds := [(Str.ofString "word", .str (tw wd) t0), (Str.ofString "foes", .ref FD)]) B F X N (fun p hp q hq => by rw [List.mem_singleton.mp hq]; exact hsep p hp) T rfl rfl hk ?k6 ?k7 ?k8 ?k9 ?kB ?kD ?_ ?c2 ?c3 ?c4 ?hcl
  case k6 => k_is
  case k7 => k_is
  case k8 => exact om0 (by assumption)
  case k9 => exact BindsTo.of_eq rfl
  case kB => exact rfl
  case kD => decide +kernel
  case c2 => exact rfl
  case c3 => exact rfl
  case c4 => exact rfl
  case hcl => (intro n cells Y; k_cells Y; simp)
  intro g' L' h' tk' cells' FG' F' N' NR' Y' B' X' T' l1
  try k_lt l1
  k_cells Y'
  try simp only [List.cons_append, List.nil_append] at N'
  try dsimp only
  try k_fold
  k_steps
  have hwl := hl
  rename Fr g' L' _ _ => F9
  rename News g' L' _ _ => N9
  obtain ⟨X1, DX, T1, T2, SD, so, oc, hoc, hso, N8, hS8, hP8⟩ := led_start N9 (by assumption) (by assumption) (by refine ⟨?_, ?_, ?_, ?_, ?_, ?_, ?_, ?_, ?_, ?_⟩ <;> omega)
  clear N9
  k_dflt (refine iter_range_J (n := wd.length) (fun i m news => EqOff [Str.ofString "k", Str.ofString "other"] m _ ∧ ∃ qs nn tups, news = (L' + 1, oc) :: (SD, so) :: (FD, fo) :: accs w X1 DX T1 T2 qs nn tups ∧ StK X1 DX qs tups (fun y => (pr G y (wd.drop (wd.length - i))).reverse) ∧ Sep [(L' + 1, oc), (SD, so), (FD, fo)] (accs w X1 DX T1 T2 qs nn tups)) rfl (by assumption) (range_small _ hl) (range_size _ hl) F9 N8 ⟨EqOff.refl, _, _, _, rfl, ?_, hP8⟩ ?_ ?_)
  · simpa [pr] using hS8
  · rintro i t m₁ news₁ h tk I o hi ⟨hE, qs, nn, tups, rfl, hS, hP⟩ hoff F1 N1
    refine body_abs ?_
    intro QT2 hQT2
    as_aux_lemma =>
    clear F9 N8 hS8 hP8
    rw [hE.eq] at F1
    obtain ⟨x, hx⟩ : ∃ x, wd[wd.length - 1 - i]? = some x := ⟨_, List.getElem?_eq_getElem (by omega)⟩
    have hx4 : x < 4 := hw x (List.mem_of_getElem? hx)
    have hP2 := Sep.cons (p := (I, o)) (fun q hq => hoff q (.tail _ (.tail _ (.tail _ hq)))) hP
    have hB : Bd (fun y => (pr G y (wd.drop (wd.length - i))).reverse) := pr_bd (by rw [List.length_drop]; omega)
    walk_at "MYSTEPS"
    rename Fr g' L' _ _ => F8
    rename News g' L' _ _ => N8
    rename StK _ _ _ _ _ => S8
    rename Sep _ _ => P8
    rw [← csI_zero G] at S8
    clear hS hP hP2 hB F1 N1
    have hG3 : (G x).length ≤ 3 := hG.ln x hx4
    k_dflt (refine iter_tw_J (fun i m news => EqOff [Str.ofString "other"] m _ ∧ ∃ qs nn tups, news = (I, o) :: (L' + 1, oc) :: (SD, so) :: (FD, fo) :: accs w X1 DX T1 T2 qs nn tups ∧ StK X1 DX qs tups (csI G _ x i) ∧ Sep [(I, o), (L' + 1, oc), (SD, so), (FD, fo)] (accs w X1 DX T1 T2 qs nn tups)) rfl F8 N8 ⟨EqOff.refl, _, _, _, rfl, S8, P8⟩ ?_ ?_)
    · rintro i2 c t2 m₂ news₂ h2 tk2 I2 o2 hc ⟨hE2, qs2, nn2, tups2, rfl, hS2, hP2⟩ hoff2 F2 N2
      refine body_abs ?_
      intro QT3 hQT3
      as_aux_lemma =>
      clear F8 N8 S8 P8
      rw [hE2.eq] at F2
      have hc4 : c < 4 := hG.lt x hx4 c (List.mem_of_getElem? hc)
      have hP3 := Sep.cons (p := (I2, o2)) (fun q hq => hoff2 q (.tail _ (.tail _ (.tail _ (.tail _ hq))))) hP2
      have hB : Bd (csI G (fun y => (pr G y (wd.drop (wd.length - i))).reverse) x i2) := csI_bd (by rw [List.length_drop]; omega) (by have := (List.getElem?_eq_some_iff.mp hc).1; omega)
      k_steps
      rename Fr g' L' _ _ => F8
      rename News g' L' _ _ => N8
      rename StK _ _ _ _ _ => S8
      rename Sep _ _ => P8
      rw [← csI_succ hc] at S8
      refine hQT3 _ _ (TurnEnd.next F8 N8 ?_ ⟨?_, _, _, _, rfl, S8, P8.tail⟩)
      · exact List.forall_mem_cons.mpr ⟨hoff2 _ (.head _), List.forall_mem_cons.mpr ⟨hoff2 _ (.tail _ (.head _)), List.forall_mem_cons.mpr ⟨hoff2 _ (.tail _ (.tail _ (.head _))), List.forall_mem_cons.mpr ⟨hoff2 _ (.tail _ (.tail _ (.tail _ (.head _)))), P8.head⟩⟩⟩⟩
      · (repeat (refine EqOff.ite (by decide) ?_)); exact EqOff.ovr
    · rintro m₂ news₂ h2 tk2 ⟨hE2, qs2, nn2, tups2, rfl, hS2, hP2⟩ F2 N2
      clear F8 N8 S8 P8
      rw [csI_end (hG.nd x hx4) (hG.ir x hx4)] at hS2
      have e : wd.drop (wd.length - (i + 1)) = x :: wd.drop (wd.length - i) := by
        have hlt : wd.length - 1 - i < wd.length := by omega
        have e1 : wd.length - (i + 1) = wd.length - 1 - i := by omega
        have e2 : wd.length - i = wd.length - 1 - i + 1 := by omega
        rw [e1, e2, List.drop_eq_getElem_cons hlt]
        rw [List.getElem?_eq_getElem hlt] at hx
        rw [Option.some.inj hx]
      rw [← e] at hS2
      k_steps
      rename Fr g' L' _ _ => F8
      refine hQT2 _ _ (TurnEnd.next F8 N2 ?_ ⟨?_, _, _, _, rfl, hS2, hP2.tail⟩)
      · exact List.forall_mem_cons.mpr ⟨hoff _ (.head _), List.forall_mem_cons.mpr ⟨hoff _ (.tail _ (.head _)), List.forall_mem_cons.mpr ⟨hoff _ (.tail _ (.tail _ (.head _))), hP2.head⟩⟩⟩
      · refine hE2.trans (fun y hy => by simp at hy ⊢; exact hy.2) ?_
        (repeat (refine EqOff.ite (by decide) ?_)); exact EqOff.ovr
  · rintro m₁ news₁ h tk ⟨hE, qs, nn, tups, rfl, hS, hP⟩ F1 N1
    clear F9 N8 hS8 hP8
    rw [hE.eq] at F1
    rw [Nat.sub_self, List.drop_zero] at hS
    iterate 4 walk1
    have hB := pr_bd (G := G) (l := wd) (by omega)
    k_dflt (refine ListComp_S (F₀ := by k_asm) (by with_unfolding_all rfl) (by decide) (by rfl) (by decide) (by rfl) ?_)
    iterate 1 walk1
    refine ⟨tw [3, 2, 1, 0], _, _, rfl, rfl, F1, N1, Nat.le_of_ble_eq_true (by with_unfolding_all rfl), ?_⟩
    rintro s₂ ⟨g, rfl⟩
    refine compT_J (fun i ys news => ∃ qs nn tups, news = (L' + 1, oc) :: (SD, so) :: (FD, fo) :: accs w X1 DX T1 T2 qs nn tups ∧ StK X1 DX qs tups (fun y => (pr G y wd).reverse) ∧ Sep [(L' + 1, oc), (SD, so), (FD, fo)] (accs w X1 DX T1 T2 qs nn tups) ∧ Strs ys (([3, 2, 1, 0].take i).filter (av G wd))) ?_ ?_ 4 0 [] _ rfl ⟨_, _, _, rfl, hS, hP, trivial⟩
    · rintro i ys news₂ v I oI C oC D m₂ h2 tk2 E' hi hv ⟨qs2, nn2, tups2, rfl, hS2, hP2, hY⟩ hC hx F2 N2 hO hne
      refine comp_abs ?_
      intro QC4 QN4 hQC4 hQN4
      as_aux_lemma =>
      clear F1 N1 hS hP
      obtain ⟨x, u, hx0, rfl⟩ := sign_tw hv
      have hx4 : x < 4 := by
        have hi' : i = 0 ∨ i = 1 ∨ i = 2 ∨ i = 3 := by omega
        rcases hi' with rfl | rfl | rfl | rfl <;> (obtain rfl := Option.some.inj hx0; decide)
      have hP3 : Sep [(I, oI), (C, oC), (D, PyProof.Rows.LCg.lst ys), (L' + 1, oc), (SD, so), (FD, fo)] (accs w X1 DX T1 T2 qs2 nn2 tups2) := by
        have ho := fun q hq => PyProof.Rows.LCg.Off3.mem hO q (.tail _ (.tail _ (.tail _ hq)))
        exact Sep.cons (fun q hq => (ho q hq).1) (Sep.cons (fun q hq => (ho q hq).2.1) (Sep.cons (fun q hq => (ho q hq).2.2) hP2))
      have etk : ([3, 2, 1, 0].take (i + 1)).filter (av G wd) = ([3, 2, 1, 0].take i).filter (av G wd) ++ [x].filter (av G wd) := by
        rw [List.take_add_one, hx0, List.filter_append]; rfl
      cases hav : av G wd x with
      | true =>
        have ht := top_av hav
        k_steps
        rename Fr g' L' _ _ => F8
        rename News g' L' _ _ => N8
        rename StK _ _ _ _ _ => S8
        rename Sep _ _ => P8
        refine hQC4 _ _ (PyProof.Rows.LCg.CompEnd.intro F8 N8 _ (fun _ hp => hp) (PyProof.Rows.LCg.Off3.of fun p hp => ?_) trivial ⟨_, _, _, rfl, S8, P8.tail.tail.tail, ?_⟩)
        · have ho := PyProof.Rows.LCg.Off3.mem hO
          rcases List.mem_cons.mp hp with rfl | hp
          · exact ho _ (.head _)
          rcases List.mem_cons.mp hp with rfl | hp
          · exact ho _ (.tail _ (.head _))
          rcases List.mem_cons.mp hp with rfl | hp
          · exact ho _ (.tail _ (.tail _ (.head _)))
          · exact ⟨P8.head p hp, P8.tail.head p hp, P8.tail.tail.head p hp⟩
        · rw [etk]
          simp only [List.filter_cons, hav, List.filter_nil, if_true, Bool.false_eq_true, if_false, List.append_nil]
          first | exact strs_snoc hY | exact hY
      | false =>
        have ht := top_nav hav
        k_steps
        rename Fr g' L' _ _ => F8
        rename News g' L' _ _ => N8
        rename StK _ _ _ _ _ => S8
        rename Sep _ _ => P8
        refine hQN4 _ _ (PyProof.Rows.LCg.CompEnd.intro F8 N8 _ (fun _ hp => hp) (PyProof.Rows.LCg.Off3.of fun p hp => ?_) trivial ⟨_, _, _, rfl, S8, P8.tail.tail.tail, ?_⟩)
        · have ho := PyProof.Rows.LCg.Off3.mem hO
          rcases List.mem_cons.mp hp with rfl | hp
          · exact ho _ (.head _)
          rcases List.mem_cons.mp hp with rfl | hp
          · exact ho _ (.tail _ (.head _))
          rcases List.mem_cons.mp hp with rfl | hp
          · exact ho _ (.tail _ (.tail _ (.head _)))
          · exact ⟨P8.head p hp, P8.tail.head p hp, P8.tail.tail.head p hp⟩
        · rw [etk]
          simp only [List.filter_cons, hav, List.filter_nil, if_true, Bool.false_eq_true, if_false, List.append_nil]
          first | exact strs_snoc hY | exact hY
    · rintro ys news₂ ⟨qs2, nn2, tups2, rfl, hS2, hP2, hY⟩
      intro D h2 tk2 F2 N2 hO
      clear F1 N1 hS hP
      have hOD := off1_ne hO
      change News _ _ _ ((D, listOf ys.toArray ys.length) :: _) at N2
      change Strs ys ([3, 2, 1, 0].filter (av G wd)) at hY
      have hYl : ([3, 2, 1, 0].filter (av G wd)).length ≤ 4 := List.length_filter_le _ _
      have hPD : Sep [(D, PyProof.Rows.LCg.lst ys), (L' + 1, oc), (SD, so), (FD, fo)] (accs w X1 DX T1 T2 qs2 nn2 tups2) := Sep.cons (fun q hq => hOD q (.tail _ (.tail _ (.tail _ hq)))) hP2
      have hD1 : (L' + 1 : Nat) ≠ D := hOD (L' + 1, oc) (.head _)
      have hD2 : (SD : Nat) ≠ D := hOD (SD, so) (.tail _ (.head _))
      have hD3 : (FD : Nat) ≠ D := hOD (FD, fo) (.tail _ (.tail _ (.head _)))
      walk_at "MYSTEPS"
      rename Strs _ _ => hI8
      rename Fr g' L' _ _ => F8
      rename News g' L' _ _ => N8
      have hH8 := Hp.start (G := G) (l := wd)
      generalize hfy ([3, 2, 1, 0].filter (av G wd)) = H8 at hI8 hH8
      k_dflt (refine While_inv (fun n m news => ∃ l H its nH qs nn tups ls tl, n = l.length ∧ EqOff [Str.ofString "letter", Str.ofString "other", Str.ofString "least"] m _ ∧ m (Str.ofString "least") = some (.str (tw ls) tl) ∧ news = (D, listOf its.toArray nH) :: (L' + 1, oc) :: (SD, so) :: (FD, fo) :: accs w X1 DX T1 T2 qs nn tups ∧ StK X1 DX qs tups (fun y => (pr G y l).reverse) ∧ Sep [(D, listOf its.toArray nH), (L' + 1, oc), (SD, so), (FD, fo)] (accs w X1 DX T1 T2 qs nn tups) ∧ Strs its H ∧ Hp (fun y => av G l y = true) H ∧ ls ++ gr G l.length l = gr G wd.length wd ∧ (∀ z ∈ l, z < 4) ∧ l.length + ls.length ≤ 6) (n₀ := wd.length) F8 N8 ⟨wd, H8, _, _, _, _, _, [], _, rfl, EqOff.refl, rfl, rfl, hS2, Sep.cons hPD.head hPD.tail, hI8, hH8, rfl, hw, by simpa using hl⟩ ?_ ?_)
      · rintro n m₁ news₁ h₁ tk₁ F1 N1 ⟨l, H, its, nH, qs, nn, tups, ls, tl, rfl, hE, hls, rfl, hS, hP, hI, hH, hgr, hl4, hlen⟩
        refine while_abs ?_
        intro QT5 hQT5
        as_aux_lemma =>
        clear F8 N8 hI8 hH8 hS2 hPD
        rw [hE.eq2 hls] at F1
        have hB := pr_bd (G := G) (l := l) (by omega)
        have hH4 := hH.lt
        cases H with
        | nil =>
          obtain rfl := strs0 hI
          walk_at "MYSTEPS"
          have hl0 : l = [] := nil_of_no hl4 fun y hy h => nomatch ((hH.mem y hy).mpr h)
          subst hl0
          rename Fr g' L' _ _ => F8
          have hls2 : ls = gr G wd.length wd := by simpa [gr] using hgr
          subst hls2
          have hPF : Sep [(L' + 1, oc), (SD, so), (FD, fo)] (accs w X1 DX T1 T2 qs nn tups) := hP.tail
          have N9 : News g' L' _ ((L' + 1, oc) :: (SD, so) :: (FD, fo) :: accs w X1 DX T1 T2 qs nn tups) := ledger_drop (by assumption) (by intro p hp; first | exact .tail _ hp | exact .tail _ (.tail _ hp))
          have hS0 : StK X1 DX qs tups (fun _ => []) := hS
          k_dflt (refine ListComp_S (F₀ := F8) (by with_unfolding_all rfl) (by decide) (by rfl) (by decide) (by rfl) ?_)
          iterate 1 walk1
          refine ⟨tw [0, 1, 2, 3], _, _, rfl, rfl, F8, N9, Nat.le_of_ble_eq_true (by with_unfolding_all rfl), ?_⟩
          rintro s₂ ⟨g, rfl⟩
          refine compT_J (fun i ys news => ys = [] ∧ news = (L' + 1, oc) :: (SD, so) :: (FD, fo) :: accs w X1 DX T1 T2 qs nn tups) ?_ ?_ 4 0 [] _ rfl ⟨rfl, rfl⟩
          · rintro i ys news₂ v I oI C oC D2 m₂ h2 tk2 E' hi hv ⟨rfl, rfl⟩ hC hx F2 N2 hO hne
            refine comp_abs ?_
            intro QC6 QN6 hQC6 hQN6
            as_aux_lemma =>
            clear F8 N9 hB
            obtain ⟨x, u, hx0, rfl⟩ := sign_tw hv
            have hx4 : x < 4 := by
              have hi' : i = 0 ∨ i = 1 ∨ i = 2 ∨ i = 3 := by omega
              rcases hi' with rfl | rfl | rfl | rfl <;> (obtain rfl := Option.some.inj hx0; decide)
            have hP3 : Sep [(I, oI), (C, oC), (D2, PyProof.Rows.LCg.lst []), (L' + 1, oc), (SD, so), (FD, fo)] (accs w X1 DX T1 T2 qs nn tups) := by
              have ho := fun q hq => PyProof.Rows.LCg.Off3.mem hO q (.tail _ (.tail _ (.tail _ hq)))
              exact Sep.cons (fun q hq => (ho q hq).1) (Sep.cons (fun q hq => (ho q hq).2.1) (Sep.cons (fun q hq => (ho q hq).2.2) hPF))
            clear hS hP
            k_steps
            rename Fr g' L' _ _ => F8
            rename News g' L' _ _ => N8
            exact hQN6 _ _ (PyProof.Rows.LCg.CompEnd.intro F8 N8 _ (fun _ hp => hp) hO trivial ⟨rfl, rfl⟩)
          · rintro ys news₂ ⟨rfl, rfl⟩
            intro D2 h2 tk2 F2 N2 hO
            clear F8 N9
            k_steps
            rename News h₀ L _ rest => NR2
            replace NR2 := Frz.mk NR2
            exact hret _ _ _ _ _ _ (by k_asm) (news_app (a := [_, _, _]) (ledger_drop (by assumption) (by walk_at "MYSUB")) NR2.n)
        | cons x H =>
          obtain ⟨hH', hmin, hxa, hx4, hHl⟩ := hH.pop
          have hxl := mem_of_av hG hl4 hx4 hxa
          have hGx := hG.ln x hx4
          have hDn : ∀ p ∈ (L' + 1, oc) :: (SD, so) :: (FD, fo) :: accs w X1 DX T1 T2 qs nn tups, p.1 ≠ D := by
            refine List.forall_mem_cons.mpr ⟨hD1, List.forall_mem_cons.mpr ⟨hD2, List.forall_mem_cons.mpr ⟨hD3, hP.head⟩⟩⟩
          walk_at "MYSTEPS"
          rename Strs _ _ => hI8
          rename Fr g' L' _ _ => F8
          rename News g' L' _ _ => N8
          rename List Value => its8
          obtain ⟨nX, N9⟩ : ∃ n, News g' L' _ ((D, listOf its8.toArray n) :: (L' + 1, oc) :: (SD, so) :: (FD, fo) :: accs w X1 DX T1 T2 qs nn tups) := ⟨_, N8⟩
          clear N8 hB hDn
          try clear F1
          try clear N1
          rw [← csP_zero G l x] at hS
          have hP9 : Sep [(D, listOf its8.toArray nX), (L' + 1, oc), (SD, so), (FD, fo)] (accs w X1 DX T1 T2 qs nn tups) := Sep.cons hP.head hP.tail
          clear hP
          k_dflt (refine iter_tw_J (l := x :: G x) (fun i m news => EqOff [Str.ofString "other"] m _ ∧ ∃ qs nn tups, news = (D, listOf its8.toArray nX) :: (L' + 1, oc) :: (SD, so) :: (FD, fo) :: accs w X1 DX T1 T2 qs nn tups ∧ StK X1 DX qs tups (csP G l x i) ∧ Sep [(D, listOf its8.toArray nX), (L' + 1, oc), (SD, so), (FD, fo)] (accs w X1 DX T1 T2 qs nn tups)) rfl F8 N9 ⟨EqOff.refl, _, _, _, rfl, hS, hP9⟩ ?_ ?_)
          · rintro i2 c t2 m₂ news₂ h2 tk2 I2 o2 hc ⟨hE2, qs2, nn2, tups2, rfl, hS2, hP2⟩ hoff2 F2 N2
            refine body_abs ?_
            intro QT7 hQT7
            as_aux_lemma =>
            clear F8 N9 hS hP9
            rw [hE2.eq] at F2
            have hc4 : c < 4 := by
              rcases List.mem_cons.mp (List.mem_of_getElem? hc) with rfl | q
              · exact hx4
              · exact hG.lt x hx4 c q
            have hP3 := Sep.cons (p := (I2, o2)) (fun q hq => hoff2 q (.tail _ (.tail _ (.tail _ (.tail _ hq))))) hP2
            have hB : Bd (csP G l x i2) := csP_bd hG hl4 hx4 hxa (by omega)
            obtain ⟨b, hcs⟩ := csP_at hG hl4 hx4 hxa hc
            k_steps
            rename Fr g' L' _ _ => F8
            rename News g' L' _ _ => N8
            rename StK _ _ _ _ _ => S8
            rename Sep _ _ => P8
            rw [csP_succ hG hl4 hx4 hxa hc] at S8
            refine hQT7 _ _ (TurnEnd.next F8 N8 ?_ ⟨?_, _, _, _, rfl, S8, P8.tail⟩)
            · exact List.forall_mem_cons.mpr ⟨hoff2 _ (.head _), List.forall_mem_cons.mpr ⟨hoff2 _ (.tail _ (.head _)), List.forall_mem_cons.mpr ⟨hoff2 _ (.tail _ (.tail _ (.head _))), List.forall_mem_cons.mpr ⟨hoff2 _ (.tail _ (.tail _ (.tail _ (.head _)))), P8.head⟩⟩⟩⟩
            · (repeat (refine EqOff.ite (by decide) ?_)); exact EqOff.ovr
          · rintro m₂ news₂ h2 tk2 ⟨hE2, qs2, nn2, tups2, rfl, hS2, hP2⟩ F2 N2
            clear F8 N9 hS hP9
            rw [hE2.eq] at F2
            rw [csP_end hG hl4 hx4 hxa] at hS2
            walk_at "MYSTEPS"
            rename Fr g' L' _ _ => F8
            have hH8 := hpP_start hG hl4 hx4 hxa hH'
            generalize hrest (x :: H) = H8 at hI8 hH8
            clear hH'
            k_dflt (refine iter_tw_J (l := x :: G x) (fun i m news => EqOff [Str.ofString "other"] m _ ∧ ∃ H its n qs nn tups, news = (D, listOf its.toArray n) :: (L' + 1, oc) :: (SD, so) :: (FD, fo) :: accs w X1 DX T1 T2 qs nn tups ∧ StK X1 DX qs tups (fun y => (pr G y (l.erase x)).reverse) ∧ Sep [(D, listOf its.toArray n), (L' + 1, oc), (SD, so), (FD, fo)] (accs w X1 DX T1 T2 qs nn tups) ∧ Strs its H ∧ Hp (hpP G l x i) H) rfl F8 N2 ⟨EqOff.refl, _, _, _, _, _, _, rfl, hS2, hP2, hI8, hH8⟩ ?_ ?_)
            · rintro i2 c t2 m₃ news₃ h3 tk3 I2 o2 hc ⟨hE3, H3, its3, n3, qs3, nn3, tups3, rfl, hS3, hP3, hI3, hH3⟩ hoff2 F3 N3
              refine body_abs ?_
              intro QT8 hQT8
              as_aux_lemma =>
              clear F8 N2 hS2 hP2 hI8 hH8 hI
              rw [hE3.eq] at F3
              have hc4 : c < 4 := by
                rcases List.mem_cons.mp (List.mem_of_getElem? hc) with rfl | q
                · exact hx4
                · exact hG.lt x hx4 c q
              have hP4 := Sep.cons (p := (I2, o2)) (fun q hq => hoff2 q (.tail _ (.tail _ (.tail _ (.tail _ hq))))) hP3
              have hB := pr_bd (G := G) (l := l.erase x) (by have := List.length_erase_le (a := x) (l := l); omega)
              have hID : (I2 : Nat) ≠ D := Ne.symm (hoff2 _ (.head _))
              cases hav : av G (l.erase x) c with
              | true =>
                have ht := top_av hav
                obtain ⟨hH4, hHl3⟩ := hH3.push hc4 (hpP_no hG hl4 hx4 hxa hc)
                have hH5 := hpP_push hG hl4 hx4 hxa hc hav hH4
                k_steps
                rename Strs _ _ => hI8
                rename Fr g' L' _ _ => F8
                rename News g' L' _ _ => N8
                rename StK _ _ _ _ _ => S8
                rename Sep _ _ => P8
                refine hQT8 _ _ (TurnEnd.next F8 (ledger_swap N8) ?_ ⟨?_, _, _, _, _, _, _, rfl, S8, Sep.cons P8.tail.head P8.tail.tail, hI8, hH5⟩)
                · exact List.forall_mem_cons.mpr ⟨fun e => hID e.symm, List.forall_mem_cons.mpr ⟨hoff2 _ (.tail _ (.head _)), List.forall_mem_cons.mpr ⟨hoff2 _ (.tail _ (.tail _ (.head _))), List.forall_mem_cons.mpr ⟨hoff2 _ (.tail _ (.tail _ (.tail _ (.head _)))), P8.head⟩⟩⟩⟩
                · (repeat (refine EqOff.ite (by decide) ?_)); exact EqOff.ovr
              | false =>
                have ht := top_nav hav
                have hH5 := hpP_skip hG hl4 hx4 hxa hc hav hH3
                k_steps
                rename Fr g' L' _ _ => F8
                rename News g' L' _ _ => N8
                rename StK _ _ _ _ _ => S8
                rename Sep _ _ => P8
                refine hQT8 _ _ (TurnEnd.next F8 N8 ?_ ⟨?_, _, _, _, _, _, _, rfl, S8, P8.tail, hI3, hH5⟩)
                · exact List.forall_mem_cons.mpr ⟨hoff2 _ (.head _), List.forall_mem_cons.mpr ⟨hoff2 _ (.tail _ (.head _)), List.forall_mem_cons.mpr ⟨hoff2 _ (.tail _ (.tail _ (.head _))), List.forall_mem_cons.mpr ⟨hoff2 _ (.tail _ (.tail _ (.tail _ (.head _)))), P8.head⟩⟩⟩⟩
                · (repeat (refine EqOff.ite (by decide) ?_)); exact EqOff.ovr
            · rintro m₃ news₃ h3 tk3 ⟨hE3, H3, its3, n3, qs3, nn3, tups3, rfl, hS3, hP3, hI3, hH3⟩ F3 N3
              clear F8 N2 hS2 hP2 hI8 hH8 hI
              have hH4 := hpP_end hG hl4 hx4 hxa hH3
              have hel := List.length_erase_of_mem hxl
              have hpos := List.length_pos_of_mem hxl
              have hstep : gr G l.length l = x :: gr G (l.erase x).length (l.erase x) := by
                have e : l.length = (l.erase x).length + 1 := by omega
                rw [e]
                exact gr_step hx4 hxa hmin
              k_steps
              refine hQT5 _ _ (WhileStep.intro F3 N3 (n' := (l.erase x).length) (by omega) ⟨l.erase x, H3, its3, n3, qs3, nn3, tups3, ls ++ [x], _, rfl, ?_, (hE3 _ (by decide)).trans rfl, rfl, hS3, hP3, hI3, hH4, ?_, fun z hz => hl4 z (List.mem_of_mem_erase hz), ?_⟩)
              · refine hE3.trans (fun y hy => by simp at hy ⊢; exact hy.2.1) ?_
                refine EqOff.ovr2 (fun y hy => by simp at hy ⊢; exact hy.2.1) ?_
                (repeat (refine EqOff.ite (by decide) ?_)); exact EqOff.ovr
              · rw [hstep] at hgr
                simpa using hgr
              · simp; omega
      · with_unfolding_all passes_own
end
section
open PySem PySem.W PyProof.Rows PySem.Spec PySem.Calls
section
variable {prog : Program} {w : World} {A : Around} {E : Value → Shared → Prop} {s : Shared} {env : Env} {h₀ : Heap} {x : Str} {body : List Stmt} {Q : Flow → Shared → Prop}
theorem loop2_J {I ax : Addr} {oL : Obj} {n : Nat} {P : Nat → Value → Prop} {St : Nat → Heap → Prop} {m₀ : Str → Option Value} {news : List (Addr × Obj)} (J : Nat → (Str → Option Value) → List (Addr × Obj) → Prop)
    (hJ : ∀ i m nw, J i m nw → (ax, oL) ∈ nw)
    (W : Walks prog w A I [I, ax] [I] n P St) (hL : env.locals ≠ I) (hI : h₀.get? I = none) (hst : St 0 s.heap) (F : Fr h₀ env.locals s.heap m₀) (N : News h₀ env.locals s.heap news) (hn : ∀ p ∈ news, p.1 ≠ I) (hj : J 0 m₀ news)
    (live : ∀ i h, St i h → ∃ o, h.get? I = some o)
    (turn : ∀ i v m₁ news₁ h tk o, i < n → P i v → J i m₁ news₁ → (∀ p ∈ news₁, p.1 ≠ I) → Fr h₀ env.locals h (fun y => if y = x then some v else m₁ y) → News h₀ env.locals h ((I, o) :: news₁) →
      wpAny (model prog w) A (execs body env) (TurnEnd h₀ env.locals I o (J (i + 1)) { s with heap := h, toks := tk } Q) E { s with heap := h, toks := tk })
    (done : ∀ m₁ news₁ h tk, J n m₁ news₁ → Fr h₀ env.locals h m₁ → News h₀ env.locals h news₁ → Q .next { s with heap := h, toks := tk }) :
    LoopAtV prog w A h₀ env x body Q E (.ref I) s := by
  have hax := N _ (hJ _ _ _ hj)
  refine ⟨I, [I, ax], [I], n, P, St, m₀, news, J, rfl, W, ?_, ?_, ?_, hst, F, N, hj, ?_, ?_⟩
  · intro h
    rcases List.mem_cons.mp h with h | h
    · exact hL h
    · exact hax.2.1 (List.mem_singleton.mp h).symm
  · intro b hb; rw [List.mem_singleton.mp hb]; exact hI
  · intro p hp h; exact hn p hp (List.mem_singleton.mp h)
  · rintro i v m₁ news₁ s₁ own ⟨hh, tk, rfl⟩ hin hP hJ1 hoff hown hget hall hst' F₁ N₁
    obtain ⟨o, ho⟩ := live _ _ hst'
    have hin' : (I, o) ∈ own := hall I (.head _) hI o ho
    have hoff' : ∀ p ∈ news₁, p.1 ≠ I := fun p hp e => hoff p hp (List.mem_singleton.mpr e)
    have N₂ : News h₀ env.locals hh ((I, o) :: news₁) := fun p hp => by
      rcases List.mem_cons.mp hp with rfl | hp
      · exact N₁ _ (List.mem_append_left _ hin')
      · exact N₁ _ (List.mem_append_right _ hp)
    have hLat : hh.get? ax = some oL := (N₁ _ (List.mem_append_right _ (hJ _ _ _ hJ1))).1
    refine wpAny_mono (turn i v m₁ news₁ hh tk o hin hP hJ1 hoff' F₁ N₂) (fun f s₂ p => ?_) fun _ _ e => e
    have fin : (∃ h' tk' m' news', s₂ = { s with heap := h', toks := tk' } ∧ Fr h₀ env.locals h' m' ∧ News h₀ env.locals h' ((I, o) :: news') ∧ (∀ p ∈ news', p.1 ≠ I) ∧ J (i + 1) m' news') →
        LoopStepU h₀ env.locals [I] own (J (i + 1)) { s with heap := hh, toks := tk } .next s₂ := by
      rintro ⟨h', tk', m', news', e, F', N', hn', hj'⟩
      refine ⟨rfl, h', tk', m', news', e, F', fun p hp => ?_, fun p hp h => hn' p hp (List.mem_singleton.mp h), hj'⟩
      rcases List.mem_append.mp hp with hp | hp
      · have g := hget p hp
        rcases List.mem_cons.mp (hown p hp) with e1 | e1
        · have e2 : p = (I, o) := by
            rw [e1] at g
            exact Prod.ext e1 (Option.some.inj (g.symm.trans ho))
          rw [e2]; exact N' _ (.head _)
        · have e1 := List.mem_singleton.mp e1
          have e2 : p = (ax, oL) := by
            rw [e1] at g
            exact Prod.ext e1 (Option.some.inj (g.symm.trans hLat))
          rw [e2]; exact N' _ (.tail _ (hJ _ _ _ hj'))
      · exact N' _ (.tail _ hp)
    cases f with
    | ret v => exact .ret p
    | brk => exact .brk p
    | next => exact .next (fin p)
    | cont => exact .cont (fin p)
  · intro h' tk m' news' F' N' _ hJ
    exact done m' news' h' tk hJ F' N'
/-- for over a list that nobody touches -/
theorem iter_list_J {ax : Addr} {its : Array Value} {k : Nat} {m₀ : Str → Option Value} {news : List (Addr × Obj)} (J : Nat → (Str → Option Value) → List (Addr × Obj) → Prop)
    (hJ : ∀ i m nw, J i m nw → (ax, ({ cls := .type "list", data := .seq its k } : Obj)) ∈ nw)
    (hh : A.handled = none) (F : Fr h₀ env.locals s.heap m₀) (N : News h₀ env.locals s.heap news) (hj : J 0 m₀ news)
    (turn : ∀ i v m₁ news₁ h tk I o, i < its.size → its[i]? = some v → J i m₁ news₁ → (∀ p ∈ news₁, p.1 ≠ I) → Fr h₀ env.locals h (fun y => if y = x then some v else m₁ y) → News h₀ env.locals h ((I, o) :: news₁) →
      wpAny (model prog w) A (execs body env) (TurnEnd h₀ env.locals I o (J (i + 1)) { s with heap := h, toks := tk } Q) E { s with heap := h, toks := tk })
    (done : ∀ m₁ news₁ h tk, J its.size m₁ news₁ → Fr h₀ env.locals h m₁ → News h₀ env.locals h news₁ → Q .next { s with heap := h, toks := tk }) :
    wpAny (model prog w) A (pyIter (.ref ax)) (fun it s₂ => LoopAtV prog w A h₀ env x body Q E it s₂) E s := by
  have hax := N _ (hJ _ _ _ hj)
  have hl : s.heap.IsList ax its := ⟨_, hax.1, rfl, _, rfl⟩
  have hlt : ax < s.heap.objs.size := Heap.lt_size hax.1
  refine wpAny_pyIter_list hl ?_
  refine loop2_J (s := { s with heap := s.heap.push _ }) J hJ (Walks.list hh s.heap.objs.size ax (Nat.ne_of_lt hlt) its) (fun e => absurd F.ns.lt (e ▸ Nat.lt_irrefl _)) (next_is_new F) ⟨⟨_, Heap.get?_push_size _ rfl, rfl, rfl⟩, hl.push _⟩ (F.push _)
    (fun p hp => ⟨Heap.get?_push_of_some _ (N p hp).1, (N p hp).2⟩) (fun p hp => Nat.ne_of_lt (Heap.lt_size (N p hp).1)) hj (fun i h e => by obtain ⟨o, g, _⟩ := e.1; exact ⟨o, g⟩) ?_ done
  intro i v m₁ news₁ h tk o hi hP hJ1 hoff F₁ N₁
  exact turn i v m₁ news₁ h tk _ o hi hP hJ1 hoff F₁ N₁
end
end
section
open PySem PySem.W PyProof.Rows PySem.Spec PySem.Calls
open Builtin
def paL : List (Nat × Nat) := [(0, 1), (0, 2), (1, 2), (0, 3), (1, 3), (2, 3)]
def stepF (f : Nat → List Nat) (p q : Nat) : Nat → List Nat := upd (upd f p (f p ++ [q])) q (upd f p (f p ++ [q]) q ++ [p])
def fGi (b : Nat) : Nat → Nat → List Nat
  | 0 => fun _ => []
  | i + 1 => match paL[i]? with
    | some (p, q) => if b / 2 ^ i % 2 = 1 then stepF (fGi b i) p q else fGi b i
    | none => fGi b i
theorem fkv_set {F : Nat → List Nat} {tf : Nat → Tok} {x : Nat} {l : List Nat} {t : Tok} (hx : x < 4) : stored (fkv F tf) (tw [x]) (.str (tw l) t) = fkv (upd F x l) (upd tf x t) := by
  match x, hx with
  | 0, _ => rfl
  | 1, _ => rfl
  | 2, _ => rfl
  | 3, _ => rfl
theorem fkv_getItem {prog : Program} {w : World} {A : Around} {E : Value → Shared → Prop} {s : Shared} {h₀ : Heap} {L d : Addr} {news : List (Addr × Obj)} {o : Obj} {F : Nat → List Nat} {tf : Nat → Tok} {x : Nat} {t : Tok} {Q : Value → Shared → Prop} (N : News h₀ L s.heap news) (hm : (d, o) ∈ news) (hd : o.IsDictOf (PySem.strKind prog w) (fkv F tf)) (hx : x < 4)
    (h : Q (.str (tw (F x)) (tf x)) { s with toks := s.toks + 1 }) : wpAny (model prog w) A (getItem (.ref d) (.str (tw [x]) t)) Q E s := wpAny_getItem_of (strKind_is _ _ _ _) (kda_dict N hm hd).mapOf (fkv_at hx) h
theorem foes_start {prog : Program} {w : World} {h₀ h : Heap} {L FD LA : Addr} {fo : Obj} {k : Nat} {a0 a1 a2 a3 a4 a5 u0 u1 u2 u3 v0 v1 v2 v3 : Tok}
    (N : News h₀ L h [(LA, listOf #[.str (Str.ofString "ab") a0, .str (Str.ofString "ac") a1, .str (Str.ofString "bc") a2, .str (Str.ofString "ad") a3, .str (Str.ofString "bd") a4, .str (Str.ofString "cd") a5] k), (FD, fo)])
    (hd : fo.IsDictOf (PySem.strKind prog w) (strPairs [(.str (Str.ofString "a") u0, .str (Str.ofString "") v0), (.str (Str.ofString "b") u1, .str (Str.ofString "") v1), (.str (Str.ofString "c") u2, .str (Str.ofString "") v2), (.str (Str.ofString "d") u3, .str (Str.ofString "") v3)])) :
    ∃ (its : Array Value) (tf : Nat → Tok) (o : Obj) (la : Addr), o = fo ∧ la = LA ∧ Obj.IsDictOf (PySem.strKind prog w) o (fkv (fun _ => []) tf) ∧ News h₀ L h [(la, ({ cls := .type "list", data := .seq its k } : Obj)), (FD, o)] ∧ its.size = 6 ∧ ∀ (i : Nat) (v : Value), its[i]? = some v → ∃ p q t, paL[i]? = some (p, q) ∧ v = Value.str (tw [p, q]) t ∧ p < 4 ∧ q < 4 := by
  refine ⟨_, sel v0 v1 v2 v3, fo, LA, rfl, rfl, hd, N, rfl, ?_⟩
  intro i v h
  match i, h with
  | 0, h => exact ⟨0, 1, a0, rfl, (Option.some.inj h).symm, by decide, by decide⟩
  | 1, h => exact ⟨0, 2, a1, rfl, (Option.some.inj h).symm, by decide, by decide⟩
  | 2, h => exact ⟨1, 2, a2, rfl, (Option.some.inj h).symm, by decide, by decide⟩
  | 3, h => exact ⟨0, 3, a3, rfl, (Option.some.inj h).symm, by decide, by decide⟩
  | 4, h => exact ⟨1, 3, a4, rfl, (Option.some.inj h).symm, by decide, by decide⟩
  | 5, h => exact ⟨2, 3, a5, rfl, (Option.some.inj h).symm, by decide, by decide⟩
  | n + 6, h => cases h
theorem upd_len {f : Nat → List Nat} {k : Nat} (h : ∀ y, (f y).length ≤ k) (x : Nat) (v : Nat) : ∀ y, (upd f x (f x ++ [v]) y).length ≤ k + 1 := fun y => by
  by_cases e : y = x
  · subst e
    rw [upd_same]
    have := h y
    simp; omega
  · rw [upd_ne _ _ e]
    have := h y
    omega
theorem fGi_on {b i p q : Nat} (h : paL[i]? = some (p, q)) (hb : b / 2 ^ i % 2 = 1) : fGi b (i + 1) = stepF (fGi b i) p q := by rw [fGi, h]; simp only; rw [if_pos hb]
theorem fGi_off {b i p q : Nat} (h : paL[i]? = some (p, q)) (hb : ¬ b / 2 ^ i % 2 = 1) : fGi b (i + 1) = fGi b i := by rw [fGi, h]; simp only; rw [if_neg hb]
theorem fGi_len (b : Nat) : ∀ i y, (fGi b i y).length ≤ 2 * i
  | 0, _ => Nat.le_refl _
  | i + 1, y => by
    have ih := fGi_len b i
    have ihy := ih y
    cases e : paL[i]? with
    | none =>
      have e2 : fGi b (i + 1) = fGi b i := by rw [fGi, e]
      rw [e2]; omega
    | some pq =>
      obtain ⟨p, q⟩ := pq
      by_cases hb : b / 2 ^ i % 2 = 1
      · rw [fGi_on e hb]
        exact upd_len (upd_len ih _ _) _ _ y
      · rw [fGi_off e hb]; omega
theorem s_foes (w : World) (b : Nat) (hb : b < 64) (t0 : Tok) (rest : List (Addr × Obj)) :
   CallS w 188 60 600 rest [.int (b : Nat) t0]
    (fun _ h₀ L m s Q => ∀ FD fo tf tk h', Obj.IsDictOf (PySem.strKind PRG w) fo (fkv (fGi b 6) tf) → Fr h₀ L h' m → News h₀ L h' ((FD, fo) :: rest) → (∀ p ∈ rest, p.1 ≠ FD) → Q (.ref FD) { s with heap := h', toks := tk }) := by
  k_with_none
  k_with "ktr_room" => first | exact om2 (by assumption) rfl | exact om1 (by assumption) rfl | exact om0 (by assumption) | exact om3 rfl
  k_with "k_all" => first | assumption | exact ne_of_allLt (by assumption) | exact ne_of_allLt (And.right (by assumption)) | exact ne_of_allLt (And.right (And.right (by assumption))) | exact ne_of_allLt (And.right (And.right (And.right (by assumption)))) | exact ne_of_allLt (And.right (And.right (And.right (And.right (by assumption))))) | exact ne_of_allLt (And.right (And.right (And.right (And.right (And.right (by assumption))))))
  k_with "k_inst" => (apply inst_acc; k_asm; k_mem; k_mem)
  k_with "k_room" => ktr_room
  k_with "MYSUB" => first | exact List.forall_mem_nil _ | (refine List.forall_mem_cons.mpr ⟨by k_memK, ?_⟩; walk_at "MYSUB") | (intro _ hp; repeat (first | exact hp | refine List.mem_cons_of_mem _ ?_))
  k_with "MYHP" => ( (repeat (first | rw [if_pos (by rw [← tw_lt]; assumption)] | rw [if_neg (by rw [← tw_lt]; assumption)])); (first | assumption | (repeat (first | exact trivial | refine ⟨⟨_, rfl⟩, ?_⟩))))
  k_with "compareOp NotEq str str" => (k_here; (with_reducible show wpAny _ _ (compareOp CmpOp.NotEq (Value.str (tw (_ :: _)) _) (Value.str (Str.ofString "") _)) _ _ _); k_dflt (refine twl_ne1 ?_))
  k_with "call builtin:len" => (k_here; (with_reducible show wpAny _ _ (call (Value.builtin "len") [Value.str (tw _) _]) _ _ _); k_dflt (refine twl_len (by first | (simp only [List.length_append, List.length_cons, List.length_nil]; omega) | omega) ?_; intro _ _))
  k_with "subscriptTail" => (k_here; (with_reducible show wpAny _ _ (subscriptTail _ _ (Value.str (tw _) _) (Value.int _ _)) _ _ _); k_dflt (refine twl_item (by assumption) (by omega) (by omega) ?_; intro _ _))
  k_with "subscriptTail Name Name str int" => (k_here; (with_reducible show wpAny _ _ (subscriptTail _ _ (Value.str (tw _) _) (Value.int _ _)) _ _ _); k_dflt (refine twl_item (by assumption) (by omega) (by omega) ?_; intro _ _))
  k_with "subscriptTail Name BinOp str int" => (k_here; (with_reducible show wpAny _ _ (subscriptTail _ _ (Value.str (tw _) _) (Value.int _ _)) _ _ _); k_dflt (refine twl_item (by assumption) (by omega) (by omega) ?_; intro _ _))
  k_with "subscriptTail Name Constant str int" => (k_here; (with_reducible show wpAny _ _ (subscriptTail _ _ (Value.str (tw _) _) (Value.int _ _)) _ _ _); k_dflt (refine twl_item (by assumption) (by omega) (by omega) ?_; intro _ _))
  k_with "binaryOp Add str str" => (k_here; (with_reducible show wpAny _ _ (binaryOp Operator.Add (Value.str (tw _) _) (Value.str (tw _) _)) _ _ _); k_dflt (refine twl_add (by first | (simp only [List.length_append, List.length_cons, List.length_nil]; omega) | omega) ?_; intro _ _))
  k_with "inplaceOp Add str str" => (k_here; (with_reducible show wpAny _ _ (inplaceOp Operator.Add (Value.str (tw _) _) (Value.str (tw _) _)) _ _ _); k_dflt (refine twl_iadd (by first | (simp only [List.length_append, List.length_cons, List.length_nil]; omega) | omega) ?_; intro _ _))
  k_with "inplaceOp Add" => (k_here; (with_reducible show wpAny _ _ (inplaceOp Operator.Add (Value.str (tw _) _) (Value.str (tw _) _)) _ _ _); k_dflt (refine twl_iadd (by first | (simp only [List.length_append, List.length_cons, List.length_nil]; omega) | omega) ?_; intro _ _))
  k_with "MYSTEPS" => repeat' ((fail_if_success (with_reducible show wpAny _ _ (pyIter _) _ _ _)); first | (k_unfold; (try dsimp only)) | (k_end; wrow_close) | walk1 | (dsimp only; walk1) | (leave1; try dsimp only))
  k_with "exec For Name List cons nil" => (k_here; (with_reducible show wpAny _ _ (exec (Stmt.For _ _ _ [] _) _) _ _ _); (rename Fr _ _ _ _ => lF'); (with_unfolding_all refine For_invVF lF' (by exact rfl) (by exact rfl) ?_; k_whole))
  k_with "setItem ref str" => (k_here; (with_reducible show wpAny _ _ (setItem (Value.ref _) (Value.str (tw [_]) _) _) _ _ _); k_dflt (refine kda_set (knd := PySem.strKind _ _) (kvs := fkv _ _) (by k_asm) (by k_asm) (by k_updF) (by assumption) (strKind_is _ _ _ _) (by rw [sizeLine_eq]; exact Nat.le_of_ble_eq_true (by with_unfolding_all rfl)) ?_); intro _ _ _ N' hd'; (rw [fkv_set (by assumption)] at hd'); (try dsimp only at N'))
  k_with "subscriptTail" => (k_here; (with_reducible show wpAny _ _ (subscriptTail _ _ (Value.ref _) (Value.str (tw [_]) _)) _ _ _); k_dflt (first | (refine kda_item (knd := PySem.strKind _ _) (kvs := skv _) (by k_asm) (by k_mem) (by assumption) (strKind_is _ _ _ _) (skv_at (by assumption)) ?_) | (refine kda_item (knd := PySem.strKind _ _) (kvs := fkv _ _) (by k_asm) (by k_mem) (by assumption) (strKind_is _ _ _ _) (fkv_at (by assumption)) ?_)))
  k_with "subscriptTail Name Name ref str" => (k_here; (with_reducible show wpAny _ _ (subscriptTail _ _ (Value.ref _) (Value.str (tw [_]) _)) _ _ _); k_dflt (first | (refine kda_item (knd := PySem.strKind _ _) (kvs := skv _) (by k_asm) (by k_mem) (by assumption) (strKind_is _ _ _ _) (skv_at (by assumption)) ?_) | (refine kda_item (knd := PySem.strKind _ _) (kvs := fkv _ _) (by k_asm) (by k_mem) (by assumption) (strKind_is _ _ _ _) (fkv_at (by assumption)) ?_)))
  k_with "subscriptTail Name Subscript ref str" => (k_here; (with_reducible show wpAny _ _ (subscriptTail _ _ (Value.ref _) (Value.str (tw [_]) _)) _ _ _); k_dflt (first | (refine kda_item (knd := PySem.strKind _ _) (kvs := skv _) (by k_asm) (by k_mem) (by assumption) (strKind_is _ _ _ _) (skv_at (by assumption)) ?_) | (refine kda_item (knd := PySem.strKind _ _) (kvs := fkv _ _) (by k_asm) (by k_mem) (by assumption) (strKind_is _ _ _ _) (fkv_at (by assumption)) ?_)))
  k_with "subscriptTail Name Constant str int" => (k_here; (with_reducible show wpAny _ _ (subscriptTail _ _ (Value.str (tw _) _) (Value.int 0 _)) _ _ _); k_dflt (refine twl_item (j := 0) (i := 0) rfl rfl (by exact Nat.le_of_ble_eq_true rfl) ?_; intro _ _))
  k_with "subscriptTail Name Constant str int" => (k_here; (with_reducible show wpAny _ _ (subscriptTail _ _ (Value.str (tw _) _) (Value.int 1 _)) _ _ _); k_dflt (refine twl_item (j := 1) (i := 1) rfl rfl (by exact Nat.le_of_ble_eq_true rfl) ?_; intro _ _))
  k_with "getItem ref str" => (k_here; (with_reducible show wpAny _ _ (getItem (Value.ref _) (Value.str (tw [_]) _)) _ _ _); k_dflt (refine fkv_getItem (by k_asm) (by k_mem) (by assumption) (by assumption) ?_))
  unfold CallS
  k_fill
  intro mean mg mb dp un gd cn cs a ccd cl outer A₀ base h₀ L m s Q E B F X N T hk hR hu hret
  refine wpAny_call ?_
  refine' code_defR (news := []) (rest := rest) (binds := [(Str.ofString "bits", .int (b : Nat) t0)]) B F X N (fun _ _ _ h => nomatch h) T rfl rfl hk ?k6 ?k7 ?k8 ?k9 ?kB ?_ ?c2 ?c3 ?c4 ?c5
  case k6 => k_is
  case k7 => k_is
  case k8 => exact om0 (by assumption)
  case k9 => exact BindsTo.of_eq rfl
  case kB => exact locs rfl
  case c2 => exact rfl
  case c3 => exact rfl
  case c4 => exact rfl
  case c5 => decide
  intro g' L' h' FG' F' N' NR' B' X' T'
  try dsimp only
  try k_fold
  walk_at "MYSTEPS"
  rename Fr g' L' _ _ => F9
  rename News g' L' _ _ => N9
  obtain ⟨its, tf, fo, LA, rfl, rfl, hfo, N8, hsz, hits⟩ := foes_start N9 (by assumption)
  clear N9
  have hLF : @Ne Nat LA h'.objs.size := by (try dsimp only at *); omega
  k_dflt (refine iter_list_J (its := its) (fun i m news => EqOff [Str.ofString "pair", Str.ofString "bits"] m _ ∧ (∃ t, m (Str.ofString "bits") = some (.int ((b / 2 ^ i : Nat) : Int) t)) ∧ ∃ o tf, news = [(LA, { cls := .type "list", data := .seq its _ }), (h'.objs.size, o)] ∧ Obj.IsDictOf (PySem.strKind PRG w) o (fkv (fGi b i) tf)) (fun i m nw h => by obtain ⟨_, _, _, _, rfl, _⟩ := h; exact .head _) rfl F9 N8 ⟨EqOff.refl, ⟨t0, (show _ = some (Value.int (b : Int) t0) from rfl).trans (by simp)⟩, _, _, rfl, hfo⟩ ?_ ?_)
  · rintro i v m₁ news₁ h tk I o hi hv ⟨hE, ⟨tb, hbit⟩, o2, tf2, rfl, hfo2⟩ hoff F1 N1
    refine body_abs ?_
    intro QT1 hQT1
    as_aux_lemma =>
    obtain ⟨p, q, t2, hpq, rfl, hp, hq⟩ := hits i v hv
    clear F9 N8
    rw [hE.eq2 hbit] at F1
    have h0 : [p, q][0]? = some p := rfl
    have h1 : [p, q][1]? = some q := rfl
    have hI1 : @Ne Nat LA I := hoff _ (.head _)
    have hI2 : @Ne Nat h'.objs.size I := hoff _ (.tail _ (.head _))
    have hi6 : i < 6 := by omega
    have hb1 : (fGi b i p).length ≤ 100 := Nat.le_trans (fGi_len b i p) (by omega)
    have hb2 : (upd (fGi b i) p (fGi b i p ++ [q]) q).length ≤ 100 := Nat.le_trans (upd_len (fGi_len b i) p q q) (by omega)
    have hfm : ((b / 2 ^ i : Nat) : Int).fmod 2 = ((b / 2 ^ i % 2 : Nat) : Int) := by
      rw [Int.fmod_eq_emod_of_nonneg _ (by decide)]; omega
    have hfd : ((b / 2 ^ i : Nat) : Int).fdiv 2 = ((b / 2 ^ (i + 1) : Nat) : Int) := by
      rw [Int.fdiv_eq_ediv_of_nonneg _ (by decide), Nat.pow_succ, ← Nat.div_div_eq_div_mul]; omega
    k_steps
    · have hbb : b / 2 ^ i % 2 = 1 := by omega
      rename Obj.IsDictOf _ _ _ => hd8
      rename Fr g' L' _ _ => F8
      rename News g' L' _ _ => N8
      rw [hfd] at F8
      have hd9 := hd8
      change Obj.IsDictOf _ _ (fkv (stepF (fGi b i) p q) _) at hd9
      rw [← fGi_on hpq hbb] at hd9
      refine hQT1 _ _ (TurnEnd.next F8 N8 ?_ ⟨?_, ⟨_, rfl⟩, _, _, rfl, hd9⟩)
      · exact List.forall_mem_cons.mpr ⟨hI1, List.forall_mem_cons.mpr ⟨hI2, fun _ h => nomatch h⟩⟩
      · (repeat (refine EqOff.ite (by decide) ?_)); exact EqOff.ovr
    · have hbb : ¬ b / 2 ^ i % 2 = 1 := by omega
      rename Fr g' L' _ _ => F8
      rename News g' L' _ _ => N8
      rw [hfd] at F8
      have hd9 := hfo2
      rw [← fGi_off hpq hbb] at hd9
      refine hQT1 _ _ (TurnEnd.next F8 N8 ?_ ⟨?_, ⟨_, rfl⟩, _, _, rfl, hd9⟩)
      · exact List.forall_mem_cons.mpr ⟨hI1, List.forall_mem_cons.mpr ⟨hI2, fun _ h => nomatch h⟩⟩
      · (repeat (refine EqOff.ite (by decide) ?_)); exact EqOff.ovr
  · rintro m₁ news₁ h tk ⟨hE, ⟨tb, hbit⟩, o2, tf2, rfl, hfo2⟩ F1 N1
    clear F9 N8
    rw [hE.eq] at F1
    rw [hsz] at hfo2
    have hsep := NR'.sep N1 (.tail _ (.head _))
    k_steps
    rename News h₀ L _ rest => NR2
    replace NR2 := Frz.mk NR2
    exact hret _ _ _ _ _ hfo2 (by k_asm) (news_app (a := [_]) (ledger_drop (by assumption) (by walk_at "MYSUB")) NR2.n) hsep
end
section
open PySem PySem.W PyProof.Rows PySem.Spec PySem.Calls PyProof.V
open PySem.Builtin.Str PySem.StrLaws
/-- a text by its codes -/
def cw (l : List Nat) : Str := ⟨l.toArray⟩
theorem cw_len (l : List Nat) : (cw l).length = l.length := by simp [cw, Str.length]
theorem cw_list (l : List Nat) : (cw l).cps.toList = l := by simp [cw]
theorem cw_app (a b : List Nat) : cw a ++ cw b = cw (a ++ b) := by
  apply Str.ext'
  rw [Str.cps_append]
  simp [cw]
theorem cw_inj {a b : List Nat} (h : cw a = cw b) : a = b := by
  have := congrArg (fun x : Str => x.cps.toList) h
  simpa [cw] using this
abbrev up (l : List Nat) : List Nat := l.map (· + 97)
theorem tw_cw (l : List Nat) : tw l = cw (up l) := rfl
theorem slice_ab (l : List Nat) {a b : Nat} (hab : a ≤ b) (hb : b ≤ l.length) : Txt.slice (cw l) (some (a : Int)) (some (b : Int)) = cw ((l.drop a).take (b - a)) := by
  have := sliceText_nat (cw l) hab (by rw [cw_len]; exact hb)
  rw [cw_list] at this
  exact this
theorem slice_neg (l : List Nat) {a : Nat} {c : Int} {k : Nat} (hc : c = -(k : Int)) (hk : 0 < k) (h : a + k ≤ l.length) : Txt.slice (cw l) (some (a : Int)) (some c) = cw ((l.drop a).take (l.length - k - a)) := by
  subst hc
  have e : Txt.slice (cw l) (some (a : Int)) (some (-(k : Int))) = sliceText (cw l) (some (a : Int)) (some (-(k : Int) + (cw l).length)) := sliceText_neg_hi (cw l) _ (by omega) (by rw [cw_len]; omega)
  rw [e, cw_len]
  have := slice_ab l (a := a) (b := l.length - k) (by omega) (by omega)
  rw [← this, show (-(k : Int) + (l.length : Int)) = ((l.length - k : Nat) : Int) from by omega]
  rfl
theorem slice_to (l : List Nat) (k : Nat) : Txt.slice (cw l) none (some (k : Int)) = cw (l.take k) := by
  have e : Txt.slice (cw l) none (some (k : Int)) = Txt.slice (cw l) (some ((0 : Nat) : Int)) (some ((min k l.length : Nat) : Int)) := by
    show sliceText (cw l) none (some (k : Int)) = sliceText (cw l) (some 0) _
    unfold sliceText
    rw [sliceIdx_none_lo]
    have : strSliceIndices (some 0) (some (k : Int)) 1 (cw l).length = strSliceIndices (some 0) (some ((min k l.length : Nat) : Int)) 1 (cw l).length := by
      rw [cw_len]
      simp only [strSliceIndices]
      have a1 : ¬ ((k : Int) < 0) := by omega
      have a2 : ¬ (((min k l.length : Nat) : Int) < 0) := by omega
      rw [if_neg a1, if_neg a2]
      have : min (k : Int) (l.length : Int) = min ((min k l.length : Nat) : Int) (l.length : Int) := by omega
      rw [this]
      rfl
    rw [this]
  rw [e, slice_ab l (Nat.zero_le _) (Nat.min_le_right _ _), List.drop_zero, Nat.sub_zero]
  congr 1
  rcases Nat.le_total k l.length with h | h
  · rw [Nat.min_eq_left h]
  · rw [Nat.min_eq_right h, List.take_length, List.take_of_length_le h]
theorem slice_from (l : List Nat) {a : Nat} (h : a ≤ l.length) : Txt.slice (cw l) (some (a : Int)) none = cw (l.drop a) := by
  have := sliceText_from (x := cw l) (i := (a : Int)) ⟨by omega, by rw [cw_list]; omega⟩
  rw [cw_list] at this
  refine this.trans ?_
  show cw _ = _
  congr 1
  rw [List.take_of_length_le]
  · simp
  · simp
theorem in_cw (c : Nat) (l : List Nat) : (!(occurrences (cw l) (cw [c]) 0 (cw l).length 1).isEmpty) = decide (c ∈ l) := by
  have := found_one (cw l) c
  rw [cw_list] at this
  exact this
/-- a part's text -/
def ptx : Part → List Nat
  | .br l => 91 :: (up l ++ [93])
  | .nb l => 91 :: 94 :: (up l ++ [93])
  | .tx l => up l
def plen : Part → Nat
  | .br l => l.length
  | .nb l => l.length
  | .tx l => l.length
theorem ptx_len (p : Part) : (ptx p).length ≤ plen p + 3 := by
  cases p <;> simp [ptx, plen]
theorem mem_up {x : Nat} {l : List Nat} : x + 97 ∈ up l ↔ x ∈ l := by
  simp [up]
theorem br_mid (l : List Nat) : Txt.slice (cw (ptx (.br l))) (some 1) (some (-1)) = cw (up l) := by
  refine (slice_neg (ptx (.br l)) (a := 1) (c := -1) (k := 1) rfl (by decide) (by simp [ptx])).trans ?_
  simp [ptx]
theorem nb_mid (l : List Nat) : Txt.slice (cw (ptx (.nb l))) (some 2) (some (-1)) = cw (up l) := by
  refine (slice_neg (ptx (.nb l)) (a := 2) (c := -1) (k := 1) rfl (by decide) (by simp [ptx])).trans ?_
  simp [ptx]
theorem to2 (p : Part) : Txt.slice (cw (ptx p)) none (some 2) = cw ((ptx p).take 2) := slice_to _ 2
theorem to1 (p : Part) : Txt.slice (cw (ptx p)) none (some 1) = cw ((ptx p).take 1) := slice_to _ 1
theorem br_to2 (l : List Nat) : ((ptx (.br l)).take 2 == [91, 94]) = false := by
  cases l with
  | nil => rfl
  | cons a l =>
    rw [Bool.eq_false_iff]
    simp [ptx, up]
theorem nb_to2 (l : List Nat) : ((ptx (.nb l)).take 2 == [91, 94]) = true := by simp [ptx]
theorem tx_to2 (l : List Nat) : ((ptx (.tx l)).take 2 == [91, 94]) = false := by
  cases l with
  | nil => rfl
  | cons a l =>
    rw [Bool.eq_false_iff]
    simp [ptx, up]
theorem br_to1 (l : List Nat) : ((ptx (.br l)).take 1 == [91]) = true := by simp [ptx]
theorem tx_to1 (l : List Nat) : ((ptx (.tx l)).take 1 == [91]) = false := by
  cases l with
  | nil => rfl
  | cons a l =>
    rw [Bool.eq_false_iff]
    simp [ptx, up]
theorem cw_fits {l : List Nat} (h : l.length ≤ 1048576) : (cw l).length ≤ sizeLine := by rw [cw_len, sizeLine_eq]; omega
section
variable {prog : Program} {w : World} {A : Around} {E : Value → Shared → Prop} {s : Shared} {t u : Tok} {Q : Value → Shared → Prop}
theorem cw_eq {l k : List Nat} {y : Str} {b : Bool} (hy : y = cw k) (hb : (l == k) = b) (h : Q (.bool b) s) : wpAny (model prog w) A (compareOp .Eq (.str (cw l) t) (.str y u)) Q E s := by
  refine P.eq_str ?_
  subst hy
  rw [cw_list, cw_list, hb]
  exact h
theorem cw_ne {l k : List Nat} {y : Str} {b : Bool} (hy : y = cw k) (hb : (l != k) = b) (h : Q (.bool b) s) : wpAny (model prog w) A (compareOp .NotEq (.str (cw l) t) (.str y u)) Q E s := by
  refine P.ne_str ?_
  subst hy
  rw [cw_list, cw_list, hb]
  exact h
theorem cw_in {l : List Nat} {c : Nat} {b : Bool} {y : Str} (hy : y = cw [c]) (hb : decide (c ∈ l) = b) (h : Q (.bool b) s) : wpAny (model prog w) A (compareOp .In (.str y u) (.str (cw l) t)) Q E s := by
  refine P.in_str ?_
  subst hy
  rw [in_cw, hb]
  exact h
theorem cw_notIn {l : List Nat} {c : Nat} {b : Bool} {y : Str} (hy : y = cw [c]) (hb : decide (c ∈ l) = b) (h : Q (.bool (!b)) s) : wpAny (model prog w) A (compareOp .NotIn (.str y u) (.str (cw l) t)) Q E s := by
  refine P.notIn_str ?_
  subst hy
  rw [in_cw, hb]
  exact h
end
theorem up_in (x : Nat) (l : List Nat) : decide (x + 97 ∈ up l) = l.contains x := by
  rw [Bool.eq_iff_iff, decide_eq_true_eq, mem_up]
  simp
end
section
open PySem PySem.W PyProof.Rows PySem.Spec PySem.Calls
open Builtin
theorem s_fits (w : World) (p : Part) (hp : plen p ≤ 1000) (x : Nat) (t0 t1 : Tok) (rest : List (Addr × Obj)) :
   CallS w 212 60 600 rest [.str (cw (ptx p)) t0, .str (tw [x]) t1]
    (fun _ h₀ L m s Q => ∀ tk h', Fr h₀ L h' m → News h₀ L h' rest → Q (.bool (fits p x)) { s with heap := h', toks := tk }) := by
  k_with_none
  k_with "ktr_room" => first | exact om2 (by assumption) rfl | exact om1 (by assumption) rfl | exact om0 (by assumption) | exact om3 rfl
  k_with "k_all" => first | assumption | exact ne_of_allLt (by assumption) | exact ne_of_allLt (And.right (by assumption)) | exact ne_of_allLt (And.right (And.right (by assumption))) | exact ne_of_allLt (And.right (And.right (And.right (by assumption)))) | exact ne_of_allLt (And.right (And.right (And.right (And.right (by assumption))))) | exact ne_of_allLt (And.right (And.right (And.right (And.right (And.right (by assumption))))))
  k_with "k_inst" => (apply inst_acc; k_asm; k_mem; k_mem)
  k_with "k_room" => ktr_room
  k_with "MYSUB" => first | exact List.forall_mem_nil _ | (refine List.forall_mem_cons.mpr ⟨by k_memK, ?_⟩; walk_at "MYSUB") | (intro _ hp; repeat (first | exact hp | refine List.mem_cons_of_mem _ ?_))
  k_with "MYHP" => ( (repeat (first | rw [if_pos (by rw [← tw_lt]; assumption)] | rw [if_neg (by rw [← tw_lt]; assumption)])); (first | assumption | (repeat (first | exact trivial | refine ⟨⟨_, rfl⟩, ?_⟩))))
  k_with "MYSTEPS" => repeat' ((fail_if_success (with_reducible show wpAny _ _ (pyIter _) _ _ _)); first | (k_unfold; (try dsimp only)) | (k_end; wrow_close) | walk1 | (dsimp only; walk1) | (leave1; try dsimp only))
  k_with "subscriptTail Name Slice str ref" => (k_here; (with_reducible show wpAny _ _ (subscriptTail _ (Expr.Slice none (some _) none _) (Value.str (cw _) _) _) _ _ _); (with_reducible rename Fr _ _ _ _ => F'); (with_reducible rename News _ _ _ _ => N'); (refine slice_strN_ns (hsz := by exact cw_fits (by assumption)) (s := ⟨_, _, _, _, _⟩) F' N' ?_); intro _ _ _ _ _; first | rw [to2] | rw [to1])
  k_with "subscriptTail Name Slice str ref" => (k_here; (with_reducible show wpAny _ _ (subscriptTail _ (Expr.Slice (some _) (some _) none _) (Value.str (cw _) _) _) _ _ _); (with_reducible rename Fr _ _ _ _ => F'); (with_reducible rename News _ _ _ _ => N'); (refine slice_strN_ss (hsz := by exact cw_fits (by assumption)) (s := ⟨_, _, _, _, _⟩) F' N' ?_); intro _ _ _ _ _; first | rw [br_mid] | rw [nb_mid])
  k_with "compareOp Eq str str" => (k_here; (with_reducible show wpAny _ _ (compareOp CmpOp.Eq (Value.str (cw _) _) _) _ _ _); k_dflt (first | refine cw_eq (k := [91, 94]) rfl (br_to2 _) ?_ | refine cw_eq (k := [91, 94]) rfl (nb_to2 _) ?_ | refine cw_eq (k := [91, 94]) rfl (tx_to2 _) ?_ | refine cw_eq (k := [91]) rfl (br_to1 _) ?_ | refine cw_eq (k := [91]) rfl (tx_to1 _) ?_))
  k_with "compareOp In str str" => (k_here; (with_reducible show wpAny _ _ (compareOp CmpOp.In _ (Value.str (cw _) _)) _ _ _); k_dflt (first | refine cw_in rfl (up_in _ _) ?_))
  k_with "compareOp NotIn str str" => (k_here; (with_reducible show wpAny _ _ (compareOp CmpOp.NotIn _ (Value.str (cw _) _)) _ _ _); k_dflt (first | refine cw_notIn rfl (up_in _ _) ?_))
  have hln : (ptx p).length ≤ 1048576 := Nat.le_trans (ptx_len p) (by omega)
  unfold CallS
  k_fill
  intro mean mg mb dp un gd cn cs a ccd cl outer A₀ base h₀ L m s Q E B F X N T hk hR hu hret
  refine wpAny_call ?_
  refine' code_def (binds := [(Str.ofString "part", .str (cw (ptx p)) t0), (Str.ofString "sign", .str (tw [x]) t1)]) B F X N T rfl rfl hk ?k6 ?k7 ?k8 ?k9 ?kB ?_ ?c2 ?c3 ?c4 ?c5
  case k6 => k_is
  case k7 => k_is
  case k8 => exact om0 (by assumption)
  case k9 => exact BindsTo.of_eq rfl
  case kB => exact locs rfl
  case c2 => exact rfl
  case c3 => exact rfl
  case c4 => exact rfl
  case c5 => decide
  intro g' L' h' FG' F' N' B' X' T'
  try dsimp only
  try k_fold
  cases p with
  | br l =>
    k_steps
    exact hret _ _ (by k_asm) (ledger_drop (by assumption) (by walk_at "MYSUB"))
  | nb l =>
    k_steps
    exact hret _ _ (by k_asm) (ledger_drop (by assumption) (by walk_at "MYSUB"))
  | tx l =>
    k_steps
    exact hret _ _ (by k_asm) (ledger_drop (by assumption) (by walk_at "MYSUB"))
end
section
open PySem PySem.W PyProof.Rows PySem.Spec PySem.Calls
section
variable {prog : Program} {w : World} {A : Around} {E : Value → Shared → Prop} {s : Shared} {env : Env} {h₀ : Heap} {x : Str} {px : Pos} {body : List Stmt} {Q : Flow → Shared → Prop}
/-- a for loop whose letter may be a cell: the storing is part of the turn -/
def LoopAtX (prog : Program) (w : World) (A : Around) (env : Env) (x : Str) (px : Pos) (body : List Stmt) (Q : Flow → Shared → Prop) (E : Value → Shared → Prop) (it : Value) (s₂ : Shared) : Prop :=
  ∃ I : Addr, it = .ref I ∧ codeAny (model prog w) A (.forLoop (.Name x px) (.ref I) body [] env) (fun r s' => match r with | .ok f => Q f s' | .error e => cameBackBy (model prog w) A env E e s') s₂
theorem For_X {pos : Pos} {iter : Expr} {m : Str → Option Value} (_F : Fr h₀ env.locals s.heap m)
    (h : wpAny (model prog w) A (eval iter env) (fun xv s₁ => wpAny (model prog w) A (pyIter xv) (fun it s₂ => LoopAtX prog w A env x px body Q E it s₂) E s₁) E s)
    (hs : ∀ x, foldedSetIterable iter env x = pure x) : wpAny (model prog w) A (exec (.For (.Name x px) iter body [] pos) env) Q E s := by
  refine wpAny_For (wpAny_mono h (fun xv s₁ h₁ => wpAny_mono h₁ (fun it s₂ h₂ => ?_) fun _ _ e => e) fun _ _ e => e) hs
  obtain ⟨I, rfl, h⟩ := h₂
  exact h
theorem loopX_J {I : Addr} {fp : List Addr} {n : Nat} {P : Nat → Value → Prop} {St : Nat → Heap → Prop} {m₀ : Str → Option Value} {news : List (Addr × Obj)} (J : Nat → (Str → Option Value) → List (Addr × Obj) → Prop)
    (hfp : ∀ b ∈ fp, b = I ∨ ∃ o, ∀ i m nw, J i m nw → (b, o) ∈ nw)
    (W : Walks prog w A I fp [I] n P St) (hL : env.locals ≠ I) (hI : h₀.get? I = none) (hst : St 0 s.heap) (F : Fr h₀ env.locals s.heap m₀) (N : News h₀ env.locals s.heap news) (hn : ∀ p ∈ news, p.1 ≠ I) (hj : J 0 m₀ news)
    (live : ∀ i h, St i h → ∃ o, h.get? I = some o)
    (turn : ∀ i v m₁ news₁ h tk o, i < n → P i v → J i m₁ news₁ → (∀ p ∈ news₁, p.1 ≠ I) → Fr h₀ env.locals h m₁ → News h₀ env.locals h ((I, o) :: news₁) →
      wpAny (model prog w) A (assign (.Name x px) env v) (fun _ s₃ => wpAny (model prog w) A (execs body env) (TurnEnd h₀ env.locals I o (J (i + 1)) { s with heap := h, toks := tk } Q) E s₃) E { s with heap := h, toks := tk })
    (done : ∀ m₁ news₁ h tk, J n m₁ news₁ → Fr h₀ env.locals h m₁ → News h₀ env.locals h news₁ → Q .next { s with heap := h, toks := tk })
    (hE : PassesOwn (model prog w) A env E) :
    LoopAtX prog w A env x px body Q E (.ref I) s := by
  refine ⟨I, rfl, ?_⟩
  refine codeAny_forLoop (fun k s' => ∃ h' tk m' news' i, s' = { s with heap := h', toks := tk } ∧ St i h' ∧ Fr h₀ env.locals h' m' ∧ News h₀ env.locals h' news' ∧ (∀ p ∈ news', p.1 ≠ I) ∧ J i m' news' ∧ i ≤ n ∧ k = n + 1 - i) ?_ (n + 1)
    ⟨s.heap, s.toks, m₀, news, 0, rfl, hst, F, N, hn, hj, Nat.zero_le _, rfl⟩
  rintro k s' ⟨h', tk, m', news', i, rfl, hst', F', N', hn', hJ, hi, rfl⟩
  have next : ∀ h₁ : Heap, (∀ b o, b ∉ [I] → h'.get? b = some o → h₁.get? b = some o) → Fr h₀ env.locals h₁ m' ∧ News h₀ env.locals h₁ news' := fun h₁ hk₁ =>
    ⟨⟨F'.ns.at' fun o e => hk₁ _ o (fun q => hL (List.mem_singleton.mp q)) e, fun b o e => hk₁ b o (fun q => by rw [List.mem_singleton.mp q, hI] at e; cases e) (F'.keep b o e), F'.above⟩, fun p hp => ⟨hk₁ _ _ (fun q => hn' p hp (List.mem_singleton.mp q)) (N' p hp).1, (N' p hp).2⟩⟩
  by_cases hlt : i < n
  · refine W.item i _ _ _ hlt hst' fun v h₁ tk₁ hP hst₁ hk₁ => ?_
    obtain ⟨F₁, N₁⟩ := next h₁ hk₁
    obtain ⟨o, ho⟩ := live _ _ hst₁
    have NI : News h₀ env.locals h₁ ((I, o) :: news') := fun p hp => by
      rcases List.mem_cons.mp hp with rfl | hp
      · exact ⟨ho, Ne.symm hL, hI⟩
      · exact N₁ p hp
    refine wpAny_mono (wpAny_passesOwn hE (turn i v m' news' h₁ tk₁ o hlt hP hJ hn' F₁ NI)) (fun _ s₂ h₂ => wpAny_mono (wpAny_passesOwn hE h₂) (fun f s₃ h₃ => ?_) fun _ _ e => e) fun _ _ e => e
    have fin : (∃ h' tk' m' news', s₃ = { s with heap := h', toks := tk' } ∧ Fr h₀ env.locals h' m' ∧ News h₀ env.locals h' ((I, o) :: news') ∧ (∀ p ∈ news', p.1 ≠ I) ∧ J (i + 1) m' news') →
        ∃ m, m < n + 1 - i ∧ ∃ h' tk m' news' i, s₃ = { s with heap := h', toks := tk } ∧ St i h' ∧ Fr h₀ env.locals h' m' ∧ News h₀ env.locals h' news' ∧ (∀ p ∈ news', p.1 ≠ I) ∧ J i m' news' ∧ i ≤ n ∧ m = n + 1 - i := by
      rintro ⟨hp3, tk₃, m₂, news₂, rfl, F₃, N₃, ha₃, hJ₃⟩
      refine ⟨n + 1 - (i + 1), by omega, hp3, tk₃, m₂, news₂, i + 1, rfl, ?_, F₃, fun p hp => N₃ p (.tail _ hp), ha₃, hJ₃, hlt, rfl⟩
      refine W.frame _ _ _ hst₁ fun b hb ob e => ?_
      rcases hfp b hb with rfl | ⟨oL, hoL⟩
      · rw [ho] at e
        rw [← Option.some.inj e]
        exact (N₃ _ (.head _)).1
      · have e1 := (N₁ _ (hoL _ _ _ hJ)).1
        dsimp only at e1
        rw [e1] at e
        rw [← Option.some.inj e]
        exact (N₃ _ (.tail _ (hoL _ _ _ hJ₃))).1
    cases f with
    | ret v => exact h₃
    | brk => exact h₃
    | cont => exact fin h₃
    | next => exact fin h₃
  · have hin : i = n := by omega
    subst hin
    refine W.done _ _ _ hst' fun h₁ tk₁ hk₁ => wpAny_execs_nil ?_
    obtain ⟨F₁, N₁⟩ := next h₁ hk₁
    exact done m' news' h₁ tk₁ hJ F₁ N₁
theorem iter_str_X {xt : Str} {tx : Tok} {m₀ : Str → Option Value} {news : List (Addr × Obj)} (J : Nat → (Str → Option Value) → List (Addr × Obj) → Prop)
    (hh : A.handled = none) (F : Fr h₀ env.locals s.heap m₀) (N : News h₀ env.locals s.heap news) (hj : J 0 m₀ news)
    (turn : ∀ i c t m₁ news₁ h tk I o, xt.cps[i]? = some c → J i m₁ news₁ → (∀ p ∈ news₁, p.1 ≠ I) → Fr h₀ env.locals h m₁ → News h₀ env.locals h ((I, o) :: news₁) →
      wpAny (model prog w) A (assign (.Name x px) env (.str ⟨#[c]⟩ t)) (fun _ s₃ => wpAny (model prog w) A (execs body env) (TurnEnd h₀ env.locals I o (J (i + 1)) { s with heap := h, toks := tk } Q) E s₃) E { s with heap := h, toks := tk })
    (done : ∀ m₁ news₁ h tk, J xt.cps.size m₁ news₁ → Fr h₀ env.locals h m₁ → News h₀ env.locals h news₁ → Q .next { s with heap := h, toks := tk })
    (hE : PassesOwn (model prog w) A env E) :
    wpAny (model prog w) A (pyIter (.str xt tx)) (fun it s₂ => LoopAtX prog w A env x px body Q E it s₂) E s := by
  have lt : ∀ p ∈ news, p.1 ≠ s.heap.objs.size := fun p hp => Nat.ne_of_lt (Heap.lt_size (N p hp).1)
  have main : ∀ (St : Nat → Heap → Prop) (o : Obj), Walks prog w A s.heap.objs.size [s.heap.objs.size] [s.heap.objs.size] xt.cps.size (SignAt xt) St → St 0 (s.heap.push o) → (∀ i h, St i h → ∃ o, h.get? s.heap.objs.size = some o) →
      LoopAtX prog w A env x px body Q E (.ref s.heap.objs.size) { s with heap := s.heap.push o } := by
    intro St o W h0 live
    refine loopX_J (s := { s with heap := s.heap.push o }) J (fun b hb => .inl (List.mem_singleton.mp hb)) W (fun e => absurd F.ns.lt (e ▸ Nat.lt_irrefl _)) (next_is_new F) h0 (F.push _) (fun p hp => ⟨Heap.get?_push_of_some _ (N p hp).1, (N p hp).2⟩) lt hj live ?_ done hE
    rintro i v m₁ news₁ h tk o' hi ⟨c, u, hc, rfl⟩ hJ hoff F₁ N₁
    exact turn i c u m₁ news₁ h tk _ o' hc hJ hoff F₁ N₁
  cases ha : xt.cps.all (· < 128)
  · exact wpAny_pyIter_wide ha (main _ _ (Walks.strWide hh _ xt tx) ⟨_, Heap.get?_push_size _ rfl, rfl, rfl⟩ (fun i h e => let ⟨o, ho, _⟩ := e; ⟨o, ho⟩))
  · exact wpAny_pyIter_ascii ha (main _ _ (Walks.strAscii hh _ xt tx) ⟨_, Heap.get?_push_size _ rfl, rfl, rfl⟩ (fun i h e => let ⟨o, ho, _⟩ := e; ⟨o, ho⟩))
theorem iter_range_X {r : Addr} {a b c : Int} {t₀ u₀ v₀ : Tok} {n : Nat} {m₀ : Str → Option Value} {news : List (Addr × Obj)} (J : Nat → (Str → Option Value) → List (Addr × Obj) → Prop)
    (hh : A.handled = none) (hr : IsRange s.heap r a b c t₀ u₀ v₀) (hsmall : Builtin.Range.small a b c = true) (hn : Builtin.Range.rangeSize a b c = (n : Int)) (F : Fr h₀ env.locals s.heap m₀) (N : News h₀ env.locals s.heap news) (hj : J 0 m₀ news)
    (turn : ∀ i t m₁ news₁ h tk I o, i < n → J i m₁ news₁ → (∀ p ∈ news₁, p.1 ≠ I) → Fr h₀ env.locals h m₁ → News h₀ env.locals h ((I, o) :: news₁) →
      wpAny (model prog w) A (assign (.Name x px) env (.int (a + (i : Nat) * c) t)) (fun _ s₃ => wpAny (model prog w) A (execs body env) (TurnEnd h₀ env.locals I o (J (i + 1)) { s with heap := h, toks := tk } Q) E s₃) E { s with heap := h, toks := tk })
    (done : ∀ m₁ news₁ h tk, J n m₁ news₁ → Fr h₀ env.locals h m₁ → News h₀ env.locals h news₁ → Q .next { s with heap := h, toks := tk })
    (hE : PassesOwn (model prog w) A env E) :
    wpAny (model prog w) A (pyIter (.ref r)) (fun it s₂ => LoopAtX prog w A env x px body Q E it s₂) E s := by
  refine wpAny_pyIter_range hr hsmall ?_
  rw [hn]
  have W : Walks prog w A s.heap.objs.size [s.heap.objs.size] [s.heap.objs.size] n (fun i v => i < n ∧ ∃ t, v = .int (a + i * c) t) (fun i h => IsRangeIter h s.heap.objs.size (a + (i : Nat) * c) ((n : Int) - (i : Nat)) c) := (Walks.range hh _ a c n).bound
  refine loopX_J (s := { s with heap := s.heap.push _ }) J (fun b hb => .inl (List.mem_singleton.mp hb)) W (fun e => absurd F.ns.lt (e ▸ Nat.lt_irrefl _)) (next_is_new F) (by simpa using (Heap.get?_push_size _ rfl)) (F.push _) (fun p hp => ⟨Heap.get?_push_of_some _ (N p hp).1, (N p hp).2⟩)
    (fun p hp => Nat.ne_of_lt (Heap.lt_size (N p hp).1)) hj (fun i h e => ⟨_, e⟩) ?_ done hE
  rintro i v m₁ news₁ h tk o' hi ⟨_, t, rfl⟩ hJ hoff F₁ N₁
  exact turn i t m₁ news₁ h tk _ o' hi hJ hoff F₁ N₁
theorem iter_list_X {ax : Addr} {its : Array Value} {k : Nat} {m₀ : Str → Option Value} {news : List (Addr × Obj)} (J : Nat → (Str → Option Value) → List (Addr × Obj) → Prop)
    (hJ : ∀ i m nw, J i m nw → (ax, ({ cls := .type "list", data := .seq its k } : Obj)) ∈ nw)
    (hh : A.handled = none) (F : Fr h₀ env.locals s.heap m₀) (N : News h₀ env.locals s.heap news) (hj : J 0 m₀ news)
    (turn : ∀ i v m₁ news₁ h tk I o, i < its.size → its[i]? = some v → J i m₁ news₁ → (∀ p ∈ news₁, p.1 ≠ I) → Fr h₀ env.locals h m₁ → News h₀ env.locals h ((I, o) :: news₁) →
      wpAny (model prog w) A (assign (.Name x px) env v) (fun _ s₃ => wpAny (model prog w) A (execs body env) (TurnEnd h₀ env.locals I o (J (i + 1)) { s with heap := h, toks := tk } Q) E s₃) E { s with heap := h, toks := tk })
    (done : ∀ m₁ news₁ h tk, J its.size m₁ news₁ → Fr h₀ env.locals h m₁ → News h₀ env.locals h news₁ → Q .next { s with heap := h, toks := tk })
    (hE : PassesOwn (model prog w) A env E) :
    wpAny (model prog w) A (pyIter (.ref ax)) (fun it s₂ => LoopAtX prog w A env x px body Q E it s₂) E s := by
  have hax := N _ (hJ _ _ _ hj)
  have hl : s.heap.IsList ax its := ⟨_, hax.1, rfl, _, rfl⟩
  have hlt : ax < s.heap.objs.size := Heap.lt_size hax.1
  refine wpAny_pyIter_list hl ?_
  refine loopX_J (s := { s with heap := s.heap.push _ }) J (fun b hb => ?_) (Walks.list hh s.heap.objs.size ax (Nat.ne_of_lt hlt) its) (fun e => absurd F.ns.lt (e ▸ Nat.lt_irrefl _)) (next_is_new F) ⟨⟨_, Heap.get?_push_size _ rfl, rfl, rfl⟩, hl.push _⟩ (F.push _)
    (fun p hp => ⟨Heap.get?_push_of_some _ (N p hp).1, (N p hp).2⟩) (fun p hp => Nat.ne_of_lt (Heap.lt_size (N p hp).1)) hj (fun i h e => by obtain ⟨o, g, _⟩ := e.1; exact ⟨o, g⟩) ?_ done hE
  · rcases List.mem_cons.mp hb with h | h
    · exact .inl h
    · exact .inr ⟨_, fun i m nw q => (List.mem_singleton.mp h) ▸ hJ i m nw q⟩
  · intro i v m₁ news₁ h tk o hi hP hJ1 hoff F₁ N₁
    exact turn i v m₁ news₁ h tk _ o hi hP hJ1 hoff F₁ N₁
end
end
section
open PySem PySem.W PyProof.Rows PySem.Spec PySem.Calls
open Builtin
def PartsAre (its : List Value) (r : List Part) : Prop := its.length = r.length ∧ ∀ (j : Nat) (p : Part), r[j]? = some p → ∃ t, its[j]? = some (.str (cw (ptx p)) t)
structure RunsIn (news : List (Addr × Obj)) (refs : List Value) (rs : List (List Part)) : Prop where
  len : refs.length = rs.length
  at_ : ∀ (i : Nat) (r : List Part), rs[i]? = some r → ∃ a its k, refs[i]? = some (.ref a) ∧ (a, listOf its.toArray k) ∈ news ∧ PartsAre its r
def startOk (r : List Part) (wd : List Nat) (n : Nat) : Bool := (List.range n).any fun s => fitsAll r (wd.drop s)
def takenOf (rs : List (List Part)) (wd : List Nat) : Bool := rs.any fun r => startOk r wd (wd.length + 1 - r.length)
theorem fitsAll_iff : ∀ (r : List Part) (l : List Nat), r.length ≤ l.length → (fitsAll r l = true ↔ ∀ (j : Nat) (p : Part) (c : Nat), r[j]? = some p → l[j]? = some c → fits p c = true)
  | [], l, _ => by simp [fitsAll]
  | p :: r, [], h => by simp at h
  | p :: r, x :: l, h => by
    have ih := fitsAll_iff r l (by simp at h; omega)
    rw [fitsAll, Bool.and_eq_true, ih]
    constructor
    · rintro ⟨h1, h2⟩ j q c hq hc
      cases j with
      | zero =>
        obtain rfl := Option.some.inj hq
        obtain rfl := Option.some.inj hc
        exact h1
      | succ j => exact h2 j q c hq hc
    · intro hh
      exact ⟨hh 0 p x rfl rfl, fun j q c hq hc => hh (j + 1) q c hq hc⟩
theorem range_small7 : ∀ (n : Nat) (b : Int), b = (n : Int) → n ≤ 7 → Builtin.Range.small 0 b 1 = true := by
  rintro n _ rfl hn
  have : n = 0 ∨ n = 1 ∨ n = 2 ∨ n = 3 ∨ n = 4 ∨ n = 5 ∨ n = 6 ∨ n = 7 := by omega
  rcases this with rfl | rfl | rfl | rfl | rfl | rfl | rfl | rfl <;> decide
theorem range_size7 : ∀ (n : Nat) (b : Int), b = (n : Int) → n ≤ 7 → Builtin.Range.rangeSize 0 b 1 = (n : Int) := by
  rintro n _ rfl hn
  have : n = 0 ∨ n = 1 ∨ n = 2 ∨ n = 3 ∨ n = 4 ∨ n = 5 ∨ n = 6 ∨ n = 7 := by omega
  rcases this with rfl | rfl | rfl | rfl | rfl | rfl | rfl | rfl <;> decide
section
variable {prog : Program} {w : World} {A : Around} {E : Value → Shared → Prop} {s : Shared} {h₀ : Heap} {L a b : Addr} {news : List (Addr × Obj)} {Q : Value → Shared → Prop}
theorem len_mem {its : Array Value} {k n : Nat} (N : News h₀ L s.heap news) (hm : (a, listOf its k) ∈ news) (hz : its.size = n ∧ n ≤ 1048576) (h : ∀ t tk, Q (.int n t) { s with toks := tk }) :
    wpAny (model prog w) A (call (.builtin "len") [.ref a]) Q E s := by
  refine call_len_list (News.isList N hm) (by omega) ?_
  rw [hz.1]
  exact h _ _
theorem item_mem {its : List Value} {k j : Nat} {i : Int} {u : Tok} {v : Value} {value slice : Expr} (N : News h₀ L s.heap news) (hm : (a, listOf its.toArray k) ∈ news) (hi : i = (j : Int) ∧ j ≤ 1048576) (hv : its[j]? = some v) (h : Q v s)
    (hs : subscripted slice false (.ref a) (.int i u) = operate [.ref a, .int i u] (getItem (.ref a) (.int i u)) := by with_unfolding_all rfl) :
    wpAny (model prog w) A (subscriptTail value slice (.ref a) (.int i u)) Q E s := by
  obtain ⟨rfl, hj⟩ := hi
  have hl := News.isList N hm
  exact tail_any hl.typeIs slot_list_getitem.lookup (wpAny_getItem_list hl (by omega) (by omega) (by simpa using hv) h) hs
theorem ints_eq_nil {vs : List Value} (ha : s.heap.IsList a vs.toArray) (hb : s.heap.IsList b #[]) (hi : IntsAre vs []) (hu : A.units + 64 < cLine) (h : Q (.bool true) s) : wpAny (model prog w) A (compareOp .Eq (.ref a) (.ref b)) Q E s :=
  eq_intsK (us := []) ha hi hb .nil hu (by simpa using h)
theorem ints_eq_cons {vs : List Value} {k : Int} {ks : List Int} (ha : s.heap.IsList a vs.toArray) (hb : s.heap.IsList b #[]) (hi : IntsAre vs (k :: ks)) (hu : A.units + 64 < cLine) (h : Q (.bool false) s) : wpAny (model prog w) A (compareOp .Eq (.ref a) (.ref b)) Q E s :=
  eq_intsK (us := []) ha hi hb .nil hu (by simpa using h)
end
theorem ints_snoc {n : Int} {t : Tok} : ∀ {vs : List Value} {ns : List Int}, IntsAre vs ns → IntsAre (vs ++ [.int n t]) (ns ++ [n])
  | _, _, .nil => .cons n t .nil
  | _, _, .cons k u r => .cons k u (ints_snoc r)
theorem startOk_iff {r : List Part} {wd : List Nat} {n : Nat} : startOk r wd n = false ↔ ∀ s < n, fitsAll r (wd.drop s) = false := by
  unfold startOk
  rw [List.any_eq_false]
  simp
theorem taken_true {rs : List (List Part)} {wd : List Nat} {r : List Part} {i : Nat} (hr : r ∈ rs) (hi : i < wd.length + 1 - r.length) (h : fitsAll r (wd.drop i) = true) : takenOf rs wd = true := by
  unfold takenOf startOk
  rw [List.any_eq_true]
  refine ⟨r, hr, ?_⟩
  rw [List.any_eq_true]
  exact ⟨i, List.mem_range.mpr hi, h⟩
theorem taken_false {rs : List (List Part)} {wd : List Nat} (h : ∀ r ∈ rs, startOk r wd (wd.length + 1 - r.length) = false) : takenOf rs wd = false := by
  unfold takenOf
  rw [List.any_eq_false]
  exact fun r hr => by rw [h r hr]; simp
theorem take_snoc {rs : List (List Part)} {P : List Part → Prop} {i : Nat} {r : List Part} (hr : rs[i]? = some r) (h : ∀ r ∈ rs.take i, P r) (hp : P r) : ∀ r ∈ rs.take (i + 1), P r := by
  rw [List.take_add_one, hr]
  intro q hq
  rcases List.mem_append.mp hq with hq | hq
  · exact h q hq
  · rw [List.mem_singleton.mp hq]; exact hp
theorem TurnEnd.ret {h₀ : Heap} {L I : Addr} {o : Obj} {J : (Str → Option Value) → List (Addr × Obj) → Prop} {s s₂ : Shared} {Q : Flow → Shared → Prop} {v : Value} (h : Q (.ret v) s₂) : TurnEnd h₀ L I o J s Q (.ret v) s₂ := h
theorem s_taken (w : World) (RA : Addr) (refs : List Value) (k : Nat) (rs : List (List Part)) (wd : List Nat) (hw : ∀ x ∈ wd, x < 4) (hl : wd.length ≤ 6) (hrl : ∀ r ∈ rs, r.length ≤ wd.length) (hpl : ∀ r ∈ rs, ∀ p ∈ r, plen p ≤ 1000) (t0 : Tok)
   (rest : List (Addr × Obj)) (hRA : (RA, listOf refs.toArray k) ∈ rest) (hR : RunsIn rest refs rs) :
   CallS w 217 120 1200 rest [.ref RA, .str (tw wd) t0]
    (fun _ h₀ L m s Q => ∀ tk h', Fr h₀ L h' m → News h₀ L h' rest → Q (.bool (takenOf rs wd)) { s with heap := h', toks := tk }) := by
  k_with_none
  k_with "ktr_room" => first | exact om2 (by assumption) rfl | exact om1 (by assumption) rfl | exact om0 (by assumption) | exact om3 rfl
  k_with "k_all" => first | assumption | exact ne_of_allLt (by assumption) | exact ne_of_allLt (And.right (by assumption)) | exact ne_of_allLt (And.right (And.right (by assumption))) | exact ne_of_allLt (And.right (And.right (And.right (by assumption)))) | exact ne_of_allLt (And.right (And.right (And.right (And.right (by assumption))))) | exact ne_of_allLt (And.right (And.right (And.right (And.right (And.right (by assumption))))))
  k_with "k_inst" => (apply inst_acc; k_asm; k_mem; k_mem)
  k_with "k_room" => ktr_room
  k_with "k_mem" => first | assumption | exact List.Mem.head _ | (apply List.Mem.tail; k_mem)
  k_with "k_memK" => k_mem
  k_with "MYSUB" => first | exact List.forall_mem_nil _ | (refine List.forall_mem_cons.mpr ⟨by k_memK, ?_⟩; walk_at "MYSUB") | (intro _ hp; repeat (first | exact hp | refine List.mem_cons_of_mem _ ?_))
  k_with "MYHP" => ( (repeat (first | rw [if_pos (by rw [← tw_lt]; assumption)] | rw [if_neg (by rw [← tw_lt]; assumption)])); (first | assumption | (repeat (first | exact trivial | refine ⟨⟨_, rfl⟩, ?_⟩))))
  k_with "compareOp NotEq str str" => (k_here; (with_reducible show wpAny _ _ (compareOp CmpOp.NotEq (Value.str (tw (_ :: _)) _) (Value.str (Str.ofString "") _)) _ _ _); k_dflt (refine twl_ne1 ?_))
  k_with "call builtin:len" => (k_here; (with_reducible show wpAny _ _ (call (Value.builtin "len") [Value.str (tw _) _]) _ _ _); k_dflt (refine twl_len (by first | (simp only [List.length_append, List.length_cons, List.length_nil]; omega) | omega) ?_; intro _ _))
  k_with "subscriptTail" => (k_here; (with_reducible show wpAny _ _ (subscriptTail _ _ (Value.str (tw _) _) (Value.int _ _)) _ _ _); k_dflt (refine twl_item (by assumption) (by omega) (by omega) ?_; intro _ _))
  k_with "subscriptTail Name Name str int" => (k_here; (with_reducible show wpAny _ _ (subscriptTail _ _ (Value.str (tw _) _) (Value.int _ _)) _ _ _); k_dflt (refine twl_item (by assumption) (by omega) (by omega) ?_; intro _ _))
  k_with "subscriptTail Name BinOp str int" => (k_here; (with_reducible show wpAny _ _ (subscriptTail _ _ (Value.str (tw _) _) (Value.int _ _)) _ _ _); k_dflt (refine twl_item (by assumption) (by omega) (by omega) ?_; intro _ _))
  k_with "subscriptTail Name Constant str int" => (k_here; (with_reducible show wpAny _ _ (subscriptTail _ _ (Value.str (tw _) _) (Value.int _ _)) _ _ _); k_dflt (refine twl_item (by assumption) (by omega) (by omega) ?_; intro _ _))
  k_with "binaryOp Add str str" => (k_here; (with_reducible show wpAny _ _ (binaryOp Operator.Add (Value.str (tw _) _) (Value.str (tw _) _)) _ _ _); k_dflt (refine twl_add (by first | (simp only [List.length_append, List.length_cons, List.length_nil]; omega) | omega) ?_; intro _ _))
  k_with "inplaceOp Add str str" => (k_here; (with_reducible show wpAny _ _ (inplaceOp Operator.Add (Value.str (tw _) _) (Value.str (tw _) _)) _ _ _); k_dflt (refine twl_iadd (by first | (simp only [List.length_append, List.length_cons, List.length_nil]; omega) | omega) ?_; intro _ _))
  k_with "inplaceOp Add" => (k_here; (with_reducible show wpAny _ _ (inplaceOp Operator.Add (Value.str (tw _) _) (Value.str (tw _) _)) _ _ _); k_dflt (refine twl_iadd (by first | (simp only [List.length_append, List.length_cons, List.length_nil]; omega) | omega) ?_; intro _ _))
  k_with "MYSTEPS" => repeat' ((fail_if_success (with_reducible show wpAny _ _ (pyIter _) _ _ _)); (fail_if_success (with_reducible show wpAny _ _ (eval (PySem.Expr.ListComp _ _ _ _) _) _ _ _)); (fail_if_success (with_reducible show PyProof.Rows.LCt.CompSrcT _ _ _ _ _ _ _ _ _ _ _ _ _ _ _)); first | (k_unfold; (try dsimp only)) | (k_end; wrow_close) | walk1 | (dsimp only; walk1) | (leave1; try dsimp only))
  k_with "exec For" => (k_here; (with_reducible show wpAny _ _ (exec (Stmt.For _ _ _ [] _) _) _ _ _); (rename Fr _ _ _ _ => lF'); (with_unfolding_all refine For_X lF' ?_ (by exact fun _ => rfl); k_whole))
  k_with "exec For Name Name cons nil" => k_extra "exec For"
  k_with "exec For Name Call cons nil" => k_extra "exec For"
  k_with "exec For Name Constant cons nil" => k_extra "exec For"
  k_with "exec For Name BinOp cons nil" => k_extra "exec For"
  k_with "call builtin:len" => (k_here; (with_reducible show wpAny _ _ (call (Value.builtin "len") [Value.ref _]) _ _ _); k_dflt (refine len_mem (by k_asm) (by k_mem) (by assumption) ?_; intro _ _))
  k_with "subscriptTail Name Name ref int" => (k_here; (with_reducible show wpAny _ _ (subscriptTail _ _ (Value.ref _) (Value.int _ _)) _ _ _); k_dflt (refine' item_mem (by k_asm) (by k_mem) ?_ (by assumption) ?_; omega))
  k_with "compareOp Eq ref ref" => (k_here; (with_reducible show wpAny _ _ (compareOp CmpOp.Eq (Value.ref _) (Value.ref _)) _ _ _); k_dflt (first | (refine ints_eq_nil (by exact News.isList (by assumption) (by k_mem)) (by exact News.isList (by assumption) (by k_mem)) (by assumption) (by first | ktr_units | units_room) ?_) | (refine ints_eq_cons (by exact News.isList (by assumption) (by k_mem)) (by exact News.isList (by assumption) (by k_mem)) (by assumption) (by first | ktr_units | units_room) ?_)))
  k_with "call ref" => (k_here; (with_reducible show wpAny _ _ (call (Value.ref 212) _) _ _ _); k_dflt ( (refine callS_use2 (C := s_fits _ _ (by assumption) _ _ _ _) (R := ?_); intro _ _ _ _)))
  unfold CallS
  k_fill
  intro mean mg mb dp un gd cn cs a ccd cl outer A₀ base h₀ L m s Q E B F X N T hk hRl hu hret
  refine wpAny_call ?_
  refine' code_defC (binds := [(Str.ofString "runs", .ref RA), (Str.ofString "word", .str (tw wd) t0)]) B F X N T rfl rfl hk ?k6 ?k7 ?k8 ?k9 ?kB ?kD ?_ ?c2 ?c3 ?c4
  case k6 => k_is
  case k7 => k_is
  case k8 => exact om0 (by assumption)
  case k9 => exact BindsTo.of_eq rfl
  case kB => exact rfl
  case kD => decide +kernel
  case c2 => exact rfl
  case c3 => exact rfl
  case c4 => exact rfl
  intro g' L' h' tk' cells' FG' F' N' Y' B' X' T' l1
  try k_lt l1
  have hY := CellsAre.three Y'
  obtain ⟨oS, oR, oW, hE', doS, doR, doW⟩ := hY
  subst hE'
  clear Y'
  try simp only [List.cons_append, List.nil_append] at N'
  try dsimp only
  try k_fold
  walk_at "MYSTEPS"
  rename Fr g' L' _ _ => F9
  rename News g' L' _ _ => N9
  have hcS : ∀ p ∈ rest, p.1 ≠ L' + 1 + 1 + 1 := fun p hp => Nat.ne_of_lt (Nat.lt_of_lt_of_le (l1 p hp) (by omega))
  have hcR : ∀ p ∈ rest, p.1 ≠ L' + 1 + 1 := fun p hp => Nat.ne_of_lt (Nat.lt_of_lt_of_le (l1 p hp) (by omega))
  change oW.data = .cell (some (.str (tw wd) t0)) at doW
  k_dflt (refine iter_list_X (its := refs.toArray) (fun i m news => m = _ ∧ ∃ oS oR, news = (L' + 1 + 1 + 1, oS) :: (L' + 1 + 1, oR) :: (L' + 1, oW) :: rest ∧ (∃ v, Obj.data oS = .cell v) ∧ (∃ v, Obj.data oR = .cell v) ∧ ∀ r ∈ rs.take i, startOk r wd (wd.length + 1 - r.length) = false) (fun i m nw h => by obtain ⟨_, _, _, rfl, _⟩ := h; exact .tail _ (.tail _ (.tail _ hRA))) rfl F9 N9 ⟨rfl, _, _, rfl, ⟨_, doS⟩, ⟨_, doR⟩, by simp⟩ ?_ ?_ (by passes_own))
  · rintro i v m₁ news₁ h tk I o hi hv ⟨rfl, oS1, oR1, rfl, ⟨vS1, dS1⟩, ⟨vR1, dR1⟩, hno⟩ hoff F1 N1
    refine turn_abs ?_
    intro QT1 hQT1
    as_aux_lemma =>
    have hi' : i < rs.length := by rw [← hR.len]; simpa using hi
    obtain ⟨r, hr⟩ : ∃ r, rs[i]? = some r := ⟨_, List.getElem?_eq_getElem hi'⟩
    obtain ⟨ra, its, kk, hra, hmem, hpa⟩ := hR.at_ i r hr
    obtain rfl : Value.ref ra = v := by
      have : refs[i]? = some v := by simpa using hv
      exact Option.some.inj (hra.symm.trans this)
    have hrm := List.mem_of_getElem? hr
    have hrw := hrl r hrm
    have hIS : @Ne Nat (L' + 1 + 1 + 1) I := hoff _ (.head _)
    have hIR : @Ne Nat (L' + 1 + 1) I := hoff _ (.tail _ (.head _))
    have hIW : @Ne Nat (L' + 1) I := hoff _ (.tail _ (.tail _ (.head _)))
    have hIr : ∀ p ∈ rest, p.1 ≠ I := fun p hp => hoff p (.tail _ (.tail _ (.tail _ hp)))
    have hsz : its.toArray.size = r.length ∧ r.length ≤ 1048576 := ⟨by simpa using hpa.1, by omega⟩
    clear F9 N9 doS doR
    walk_at "MYSTEPS"
    rename Fr g' L' _ _ => F8
    rename News g' L' _ _ => N8
    clear F1 N1 dR1
    rename Obj => oR2
    rename oR2.data = _ => dR2
    have hb : ((wd.length : Int) - (r.length : Int) + 1) = ((wd.length + 1 - r.length : Nat) : Int) := by omega
    have hn7 : wd.length + 1 - r.length ≤ 7 := by omega
    k_dflt (refine iter_range_X (n := wd.length + 1 - r.length) (fun i2 m news => m = _ ∧ ∃ oS, news = (I, o) :: (L' + 1 + 1 + 1, oS) :: (L' + 1 + 1, oR2) :: (L' + 1, oW) :: rest ∧ (∃ v, Obj.data oS = .cell v) ∧ ∀ s < i2, fitsAll r (wd.drop s) = false) rfl (by assumption) (range_small7 _ _ hb hn7) (range_size7 _ _ hb hn7) F8 N8 ⟨rfl, _, rfl, ⟨_, dS1⟩, fun s h => absurd h (Nat.not_lt_zero _)⟩ ?_ ?_ (by passes_own))
    · rintro i2 t2 m₂ news₂ h2 tk2 I2 o2 hi2 ⟨rfl, oS2, rfl, ⟨vS2, dS2⟩, hno2⟩ hoff2 F2 N2
      refine turn_abs ?_
      intro QT2 hQT2
      as_aux_lemma =>
      clear F8 N8 dS1
      have hI2S : @Ne Nat (L' + 1 + 1 + 1) I2 := hoff2 _ (.tail _ (.head _))
      have hI2r : ∀ p ∈ rest, p.1 ≠ I2 := fun p hp => hoff2 p (.tail _ (.tail _ (.tail _ (.tail _ hp))))
      walk_at "MYSTEPS"
      rename Fr g' L' _ _ => F8
      rename News g' L' _ _ => N8
      rename Obj => oS3
      rename oS3.data = _ => dS3
      clear F2 N2 dS2
      k_dflt (refine PyProof.Rows.LCt.ListComp_T (F₀ := F8) (by with_unfolding_all rfl) (by decide) (by rfl) (by decide) (by rfl) ?_)
      walk_at "MYSTEPS"
      rename Fr g' L' _ _ => F8
      rename News g' L' _ _ => N8
      have hn6 : r.length ≤ 7 := by omega
      refine PyProof.Rows.LCt.CompSrcT.range (n := r.length) (by rfl) F8 N8 (by assumption) (range_small7 r.length _ rfl hn6) (range_size7 r.length _ rfl hn6) (by rw [sizeLine_eq]; omega) ?_
      intro g
      refine compT_J (fun j ys news => news = (I2, o2) :: (I, o) :: (L' + 1 + 1 + 1, oS3) :: (L' + 1 + 1, oR2) :: (L' + 1, oW) :: rest ∧ ∃ ks, IntsAre ys ks ∧ (ks = [] ↔ ∀ j' < j, ∀ p c, r[j']? = some p → (wd.drop i2)[j']? = some c → fits p c = true)) ?_ ?_ r.length 0 [] _ (Nat.zero_add _) ⟨rfl, [], .nil, ⟨fun _ j' h => absurd h (Nat.not_lt_zero _), fun _ => rfl⟩⟩
      · rintro j ys news₃ v I3 oI C oC D m₃ h3 tk3 E' hj hv ⟨rfl, ks, hks, hiff⟩ hC hx F3 N3 hO hne
        refine comp_abs ?_
        intro QC3 QN3 hQC3 hQN3
        as_aux_lemma =>
        clear F8 N8
        obtain ⟨t3, rfl⟩ := hv
        obtain ⟨p, hp⟩ : ∃ p, r[j]? = some p := ⟨_, List.getElem?_eq_getElem hj⟩
        obtain ⟨c, hc⟩ : ∃ c, wd[i2 + j]? = some c := ⟨_, List.getElem?_eq_getElem (by omega)⟩
        have hc2 : (wd.drop i2)[j]? = some c := by rw [List.getElem?_drop]; exact hc
        obtain ⟨tp, hit⟩ := hpa.2 j p hp
        have hpl2 := hpl r hrm p (List.mem_of_getElem? hp)
        have hc4 : c < 4 := hw c (List.mem_of_getElem? hc)
        walk_at "MYSTEPS"
        · rename Fr g' L' _ _ => F8
          rename News g' L' _ _ => N8
          rename fits p c = true => hf
          refine hQN3 _ _ (PyProof.Rows.LCg.CompEnd.intro F8 N8 _ (fun _ hp => hp) hO trivial ⟨rfl, ks, hks, hiff.trans ⟨fun hh j' hj' p' c' hp' hc' => ?_, fun hh j' hj' => hh j' (by omega)⟩⟩)
          rcases Nat.lt_succ_iff_lt_or_eq.mp hj' with hlt | rfl
          · exact hh j' hlt p' c' hp' hc'
          · obtain rfl := Option.some.inj (hp.symm.trans hp')
            obtain rfl := Option.some.inj (hc2.symm.trans hc')
            exact hf
        · rename Fr g' L' _ _ => F8
          rename News g' L' _ _ => N8
          rename fits p c = false => hf
          refine hQC3 _ _ (PyProof.Rows.LCg.CompEnd.intro F8 N8 _ (fun _ hp => hp) hO trivial ⟨rfl, ks ++ [0 + (j : Int)], ints_snoc hks, ⟨fun hh => absurd hh (by simp), fun hh => ?_⟩⟩)
          rw [hh j (Nat.lt_succ_self _) p c hp hc2] at hf
          cases hf
      · rintro ys news₃ ⟨rfl, ks, hks, hiff⟩
        intro D h3 tk3 F3 N3 hO
        clear F8 N8
        have hOD := off1_ne hO
        have hdl : r.length ≤ (wd.drop i2).length := by rw [List.length_drop]; omega
        replace hiff : ks = [] ↔ fitsAll r (wd.drop i2) = true := hiff.trans ⟨fun h => (fitsAll_iff r _ hdl).mpr fun j p c hp => h j (List.getElem?_eq_some_iff.mp hp).1 p c hp, fun h j _ p c hp => (fitsAll_iff r _ hdl).mp h j p c hp⟩
        change News _ _ _ ((D, listOf ys.toArray ys.length) :: _) at N3
        cases ks with
        | nil =>
          have ht := taken_true hrm hi2 (hiff.mp rfl)
          rw [ht] at hret
          walk_at "MYSTEPS"
          dsimp only
          refine hQT2 _ _ (TurnEnd.ret ?_)
          dsimp only
          refine hQT1 _ _ (TurnEnd.ret ?_)
          dsimp only
          walk_at "MYSTEPS"
          exact hret _ _ (by k_asm) (ledger_drop (by assumption) (by walk_at "MYSUB"))
        | cons k0 ks =>
          have hff : fitsAll r (wd.drop i2) = false := by
            cases e : fitsAll r (wd.drop i2) with
            | false => rfl
            | true => exact absurd (hiff.mpr e) (by simp)
          walk_at "MYSTEPS"
          rename Fr g' L' _ _ => F8
          rename News g' L' _ _ => N8
          refine hQT2 _ _ (TurnEnd.next F8 (ledger_drop N8 (by walk_at "MYSUB")) ?_ ⟨rfl, _, rfl, ⟨_, dS3⟩, fun s hs => ?_⟩)
          · exact List.forall_mem_cons.mpr ⟨hoff2 _ (.head _), List.forall_mem_cons.mpr ⟨hI2S, List.forall_mem_cons.mpr ⟨hoff2 _ (.tail _ (.tail _ (.head _))), List.forall_mem_cons.mpr ⟨hoff2 _ (.tail _ (.tail _ (.tail _ (.head _)))), hI2r⟩⟩⟩⟩
          · rcases Nat.lt_succ_iff_lt_or_eq.mp hs with hlt | rfl
            · exact hno2 s hlt
            · exact hff
    · rintro m₂ news₂ h2 tk2 ⟨rfl, oS2, rfl, ⟨vS2, dS2⟩, hno2⟩ F2 N2
      clear F8 N8
      walk_at "MYSTEPS"
      rename Fr g' L' _ _ => F8
      rename News g' L' _ _ => N8
      refine hQT1 _ _ (TurnEnd.next F8 N8 ?_ ⟨rfl, _, _, rfl, ⟨_, dS2⟩, ⟨_, dR2⟩, take_snoc hr hno (startOk_iff.mpr hno2)⟩)
      exact List.forall_mem_cons.mpr ⟨hIS, List.forall_mem_cons.mpr ⟨hIR, List.forall_mem_cons.mpr ⟨hIW, hIr⟩⟩⟩
  · rintro m₁ news₁ h tk ⟨rfl, oS1, oR1, rfl, _, _, hno⟩ F1 N1
    clear F9 N9
    have hsz : refs.toArray.size = rs.length := by simpa using hR.len
    rw [hsz, List.take_length] at hno
    rw [taken_false hno] at hret
    walk_at "MYSTEPS"
    exact hret _ _ (by k_asm) (ledger_drop (by assumption) (by walk_at "MYSUB"))
end
section
open PySem PySem.W PyProof.Rows PySem.Spec PySem.Calls
open Builtin
theorem type_la : typeOf (.builtin "list.append") = pure (.type "method_descriptor") := by show builtinType _ = _; rw [builtinType_eq_fast]; kernel_rfl
theorem lk_list_append : typeLookup (.type "list") "append" = pure (some (.builtin "list.append")) := by rw [typeLookup_type, builtinLookup_eq_fast]; kernel_rfl
theorem lk_md_set : typeLookup (.type "method_descriptor") "__set__" = pure none := by rw [typeLookup_type, builtinLookup_eq_fast]; kernel_rfl
theorem lk_md_delete : typeLookup (.type "method_descriptor") "__delete__" = pure none := by rw [typeLookup_type, builtinLookup_eq_fast]; kernel_rfl
theorem sub_la : isSubtype (.type "list") (.type (".".intercalate ("list.append".cutAt '.').dropLast)) = pure true := by
  rw [show ".".intercalate ("list.append".cutAt '.').dropLast = "list" from by decide +kernel, isSubtype_type]; kernel_rfl
theorem sub_list_list : isSubtype (.type "list") (.type "list") = pure true := by rw [isSubtype_type]; kernel_rfl
section
variable {w : World} {A : Around} {R : Result → Shared → Prop} {h : Heap} {g : Array GenState} {d : Drawn} {t : Nat} {os : OsState} {E : Value → Shared → Prop} {prog : Program}
theorem md_get_la {x : Addr} {its : Array Value} {n : Nat} (hx : h.get? x = some (listOf its n))
   (hq : R (.ok (.ret (.ref h.objs.size))) ⟨h.push (bndObj "builtin_function_or_method" "list.append" x), g, d, t, os⟩) :
   codeAny (model prog w) A (.call (.builtin "method_descriptor.__get__") ⟨[.builtin "list.append", .ref x, .type "list"], []⟩) R ⟨h, g, d, t, os⟩ := by
  have T : (⟨h, g, d, t, os⟩ : Shared).TypeIs (.builtin "list.append") "method_descriptor" := type_la
  have t1 : Looks (model prog w) h (typeOf (.ref x)) (.type "list") := (Looks.ld hx).andThen .now
  have s1 : Looks (model prog w) h (isSubtype (.type "list") (.type (".".intercalate ("list.append".cutAt '.').dropLast))) true := Looks.of_pure sub_la
  refine codeAny_call_builtin slot_md_get.plain entry_md_get (slot_md_get.check _ _ _ _ _ _ _ _ T (args_md_get _ _ _) ?_)
  unfold Builtin.«method_descriptor.__get__»
  repeat (first | lk | simp only [Bool.not_true, Bool.false_eq_true, if_false])
  exact hq
theorem la_ga {x : Addr} {its : Array Value} {n : Nat} {tk : Tok} {Q : Fin → Shared → Prop} (hx : h.get? x = some (listOf its n))
   (hq : Q (.done (.ret (.ref h.objs.size))) ⟨h.push (bndObj "builtin_function_or_method" "list.append" x), g, d, t, os⟩) :
    wpAny (model prog w) A (Builtin.«object.__getattribute__» ⟨[.ref x, .str "append" tk], []⟩) Q E ⟨h, g, d, t, os⟩ := by
  have t1 : Looks (model prog w) h (typeOf (.ref x)) (.type "list") := (Looks.ld hx).andThen .now
  have f4 : Looks (model prog w) h (typeLookup (.type "list") "append") (some (.builtin "list.append")) := Looks.of_pure lk_list_append
  have f5 : Looks (model prog w) h (typeOf (.builtin "list.append")) (.type "method_descriptor") := Looks.of_pure type_la
  have f6 : Looks (model prog w) h (typeLookup (.type "method_descriptor") "__get__") (some (.builtin "method_descriptor.__get__")) := Looks.of_pure slot_md_get.lookup
  have f7 : Looks (model prog w) h (typeLookup (.type "method_descriptor") "__set__") none := Looks.of_pure lk_md_set
  have f8 : Looks (model prog w) h (typeLookup (.type "method_descriptor") "__delete__") none := Looks.of_pure lk_md_delete
  unfold Builtin.«object.__getattribute__»
  repeat (first | with_reducible refine wpAny_call ?_ | lk | simp only [Bool.not_true, Bool.false_eq_true, if_false])
  refine md_get_la hx ?_
  exact wpAny_pure hq
theorem la_call {x : Addr} {its : Array Value} {n : Nat} {tk : Tok} (hx : h.get? x = some (listOf its n))
   (hq : R (.ok (.ret (.ref h.objs.size))) ⟨h.push (bndObj "builtin_function_or_method" "list.append" x), g, d, t, os⟩) :
    codeAny (model prog w) A (.call (.builtin "list.__getattribute__") ⟨[.ref x, .str "append" tk], []⟩) R ⟨h, g, d, t, os⟩ :=
  codeAny_call_builtin F.slot_list_getattribute.plain F.entry_list_ga (F.slot_list_getattribute.check _ _ _ _ _ _ _ _ (show (⟨h, g, d, t, os⟩ : Shared).TypeIs (.ref x) "list" from ⟨_, hx, rfl⟩) (F.args_list_getattribute_2 _ _) (la_ga hx hq))
theorem la_attr {x : Addr} {its : Array Value} {n : Nat} {ex : Bool} {Q : Value → Shared → Prop} (hx : h.get? x = some (listOf its n))
   (hq : Q (.ref h.objs.size) ⟨h.push (bndObj "builtin_function_or_method" "list.append" x), g, d, t + 1, os⟩) : wpAny (model prog w) A (getAttr (.ref x) (Str.ofString "append") ex) Q E ⟨h, g, d, t, os⟩ := by
  have hT : ∀ t', (⟨h, g, d, t', os⟩ : Shared).TypeIs (.ref x) "list" := fun _ => ⟨_, hx, rfl⟩
  unfold getAttr getAttrBy
  refine wpAny_bind (wpAny_mkText (wpAny_holding (wpAny_bind (wpAny_typeOf (hT _) (wpAny_bind (wpAny_of_eq F.slot_list_getattribute.lookup ?_))))))
  show wpAny _ _ (getAttrByItsOwn (.ref x) (.str (Str.ofString "append") t) (.type "list") (.builtin "list.__getattribute__") true ex) _ _ _
  unfold getAttrByItsOwn hookBefore callGetattribute
  rw [show (ex && onTheHeap (Value.builtin "list.__getattribute__")) = false from by cases ex <;> rfl]
  unfold boundAndCalled
  refine wpAny_bind (wpAny_of_eq (show (if onTheHeap (.type "list") then typeLookup (.type "list") "__getattr__" else pure none) = pure none from rfl) ?_)
  refine wpAny_bind (wpAny_attempt (wpAny_holding ?_))
  show wpAny _ _ (bindSpecial (.builtin "list.__getattribute__") (.ref x) >>= _) _ _ _
  refine wpAny_bind (wpAny_of_eq (F.slot_list_getattribute.bind _) ?_)
  refine wpAny_call (la_call hx ?_)
  exact wpAny_pure hq
end
section
variable {prog : Program} {w : World} {A : Around} {E : Value → Shared → Prop} {s : Shared} {h₀ : Heap} {L x : Addr} {m : Str → Option Value} {news : List (Addr × Obj)} {its : Array Value} {n : Nat}
theorem la_bound {ex : Bool} {Q : Value → Shared → Prop} (F : Fr h₀ L s.heap m) (N : News h₀ L s.heap news) (hm : (x, listOf its n) ∈ news)
    (h : ∀ q h', Fr h₀ L h' m → News h₀ L h' ((q, bndObj "builtin_function_or_method" "list.append" x) :: news) → (∀ p ∈ news, p.1 < q) → Q (.ref q) { s with heap := h', toks := s.toks + 1 }) :
    wpAny (model prog w) A (getAttr (.ref x) (Str.ofString "append") ex) Q E s := by
  obtain ⟨F', N', l⟩ := bnd_new (bo := bndObj "builtin_function_or_method" "list.append" x) F N rfl
  have h2 := h _ _ F' N' l
  have h1 := (N _ hm).1
  obtain ⟨hh, g, d, t, os⟩ := s
  exact la_attr h1 h2
theorem mapSeq_list (f : Array Value → Array Value) (its : Array Value) (n : Nat) : Obj.mapSeq f (listOf its n) = listOf (f its) (if (f its).size == its.size then n else n + 1) := rfl
theorem bnd_append_core {q : Addr} {v : Value} {Q : Value → Shared → Prop} {h : Heap} {g : Array GenState} {d : Drawn} {t : Nat} {os : OsState} (hx : h.get? x = some (listOf its n)) (hz : its.size ≤ 1048576)
   (hm : h.get? q = some (bndObj "builtin_function_or_method" "list.append" x))
   (hq : Q .none ⟨h.update x (Obj.mapSeq (·.push v)), g, d, t, os⟩) :
   wpAny (model prog w) A (call (.ref q) [v]) Q E ⟨h, g, d, t, os⟩ := by
  refine wpAny_call (codeAny_of_tree ?_)
  show wpAny _ _ (callAny (.ref q) _) _ _ _
  repeat (first | lk | simp only [Bool.not_true, Bool.false_eq_true, if_false])
  refine ⟨Code.quiet_builtin _ (by decide +kernel), codeAny_builtin entry_list_append ?_⟩
  rw [Around.under_plainId (by decide +kernel)]
  show wpAny _ _ (Builtin.«list.append» ⟨[.ref x, v], []⟩) _ _ _
  unfold Builtin.«list.append»
  repeat (first | with_reducible refine wpAny_updateSeq hx rfl ?_ (by rw [sizeLine_eq]; omega) (by rw [sizeLine_eq, Array.size_push]; omega) | lk | simp only [Bool.not_true, Bool.false_eq_true, if_false])
  exact hq
def BndAt (q x : Addr) (h : Heap) : Prop := h.get? q = some (bndObj "builtin_function_or_method" "list.append" x)
theorem callWith_la {M : Model} {pos : Pos} {q : Addr} {first : List Value} {env : Env} {e : Expr} {rest : List Expr} {Q : Value → Shared → Prop} (_N : News h₀ L s.heap news) (_hm : (q, bndObj "builtin_function_or_method" "list.append" x) ∈ news)
    (h : wpAny M A (spliced (backTo pos (starEach (e :: rest) env))) (fun vs s₁ => BndAt q x s₁.heap ∧ wpAny M A (call (.ref q) (first ++ vs)) Q E s₁) E s)
    (he : starEach (e :: rest) env = (false, eval e env) :: starEach rest env := by rfl) (hplain : (backTo pos (starEach rest env)).any (·.1) = false := by rfl) :
    wpAny M A (callWith pos (.ref q) first (backTo pos (starEach (e :: rest) env)) []) Q E s := by
  rw [he] at h ⊢
  refine callWith_of (P := BndAt q x) (by show ((false || (backTo pos (starEach rest env)).any (·.1)) || false) = false; rw [hplain]; rfl) (fun _ e => ⟨_, .inr (.inl rfl), bnd_keeper (.inr rfl) e⟩) ?_
  exact evalArgs_plain h
theorem bnd_append {q : Addr} {v : Value} {vs : List Value} {news' : List (Addr × Obj)} {Q : Value → Shared → Prop} (F : Fr h₀ L s.heap m) (N : News h₀ L s.heap news) (hq : (q, bndObj "builtin_function_or_method" "list.append" x) ∈ news)
    (hx : (x, listOf (List.toArray vs) n) ∈ news) (U : Upd x (listOf (List.toArray vs) n) (listOf (List.toArray (vs ++ [v])) (n + 1)) news news') (hz : vs.length ≤ 1048576)
    (h : ∀ h', Fr h₀ L h' m → News h₀ L h' news' → Q .none { s with heap := h' }) : wpAny (model prog w) A (call (.ref q) [v]) Q E s := by
  have h1 := (N _ hq).1
  have h2 := (N _ hx).1
  obtain ⟨pre, post, rfl, rfl, a, b⟩ := U.split
  obtain ⟨F', N'⟩ := news_upd (o' := listOf (List.toArray (vs ++ [v])) (n + 1)) (f := Obj.mapSeq (·.push v)) F N a b (by rw [mapSeq_list]; simp) rfl
  obtain ⟨hh, g, d, t, os⟩ := s
  exact bnd_append_core h2 (by simpa using hz) h1 (h _ F' N')
end
end
section
open PySem PySem.W PyProof.Rows PySem.Spec PySem.Calls
open Builtin Builtin.Re
theorem entry_re_sub : entryFor table "re.Pattern.sub" = some Builtin.«re.Pattern.sub» := entryFor_of_tree (by kernel_rfl)
theorem entry_re_loop : entryFor table "re.Pattern.sub.loop" = some Builtin.«re.Pattern.sub.loop» := entryFor_of_tree (by kernel_rfl)
theorem plain_re_sub : plainId "re.Pattern.sub" = true := by decide +kernel
theorem plain_re_loop : plainId "re.Pattern.sub.loop" = true := by decide +kernel
theorem kind_re_sub : builtinKind "re.Pattern.sub" = some .method := by decide +kernel
theorem split_re_sub : splitId "re.Pattern.sub" = some ("re.Pattern", "sub") := by decide +kernel
theorem lk_fn_call : typeLookup (.type "function") "__call__" = pure (some (.builtin "function.__call__")) := by rw [typeLookup_type, builtinLookup_eq_fast]; kernel_rfl
theorem type_re_sub : typeOf (.builtin "re.Pattern.sub") = pure (.type "method_descriptor") := by show builtinType _ = _; rw [builtinType_eq_fast]; kernel_rfl
theorem lk_re_sub : typeLookup (.type "re.Pattern") "sub" = pure (some (.builtin "re.Pattern.sub")) := by rw [typeLookup_type, builtinLookup_eq_fast]; kernel_rfl
def CODE : Array Nat := #[14, 14, 4, 1, 1, 9, 0, 64, 0, 1342177280, 0, 0, 0, 0, 0, 17, 0, 13, 11, 9, 0, 64, 0, 1342177280, 0, 0, 0, 0, 0, 17, 1, 1]
def Plain (l : List Nat) : Prop := ∀ c ∈ l, c = 33 ∨ (97 ≤ c ∧ c ≤ 100)
theorem set_no (c : Nat) (h : c = 33 ∨ (97 ≤ c ∧ c ≤ 100)) (seen : Sre.Seen) : ∃ seen', Sre.inSet CODE c CODE.size 5 true seen = .ok (false, seen') := by
  have : c = 33 ∨ c = 97 ∨ c = 98 ∨ c = 99 ∨ c = 100 := by omega
  rcases this with rfl | rfl | rfl | rfl | rfl <;> exact ⟨_, rfl⟩
theorem admitted_no (m : Sre.M) (hc : m.code = CODE) (l : List Nat) (ht : m.text = l.toArray) (hp : Plain l) (hl : m.lim = l.length) : ∀ (fuel s : Nat) (seen : Sre.Seen), ∃ seen', Sre.M.admitted m fuel s seen = .ok (none, seen')
  | 0, _, _ => ⟨_, rfl⟩
  | fuel + 1, s, seen => by
    unfold Sre.M.admitted
    split
    · exact ⟨_, rfl⟩
    · rename_i h
      have hs : s < l.length := by omega
      have e : m.text.getD s 0 = l[s] := by rw [ht]; simp [hs]
      obtain ⟨s2, hs2⟩ := set_no l[s] (hp _ (List.getElem_mem hs)) seen
      rw [hc, e, hs2]
      exact admitted_no m hc l ht hp hl fuel (s + 1) s2
theorem attempt_no (m : Sre.M) (hc : m.code = CODE) (l : List Nat) (ht : m.text = l.toArray) (hp : Plain l) (hl : m.lim = l.length) : ∃ seen', m.attemptFrom 0 true = Sre.M.say { m with seen := seen' } false := by
  have hf : m.hasFirstSet = true := by
    unfold Sre.M.hasFirstSet
    rw [hc]
    rfl
  obtain ⟨s2, h2⟩ := admitted_no m hc l ht hp hl (m.lim + 1 - 0) 0 m.seen
  refine ⟨s2, ?_⟩
  unfold Sre.M.attemptFrom
  rw [hf, h2]
  rfl
theorem search_no (l : List Nat) (hp : Plain l) (hn : l ≠ []) : ((Sre.forSearch CODE l.toArray 1 0 l.length false).runFor reTurnSteps).outcome = some .failed := by
  have hpos : 0 < l.length := List.length_pos_iff.mpr hn
  obtain ⟨m0, e, h1, h2, h3, h4, h5⟩ : ∃ m0 : Sre.M, Sre.forSearch CODE l.toArray 1 0 l.length false = m0.attemptFrom 0 true ∧ m0.code = CODE ∧ m0.text = l.toArray ∧ m0.lim = l.length ∧ m0.outcome = none ∧ m0.frames = [] := by
    have hh : Sre.header CODE = (1, 15) := rfl
    unfold Sre.forSearch
    rw [hh]
    dsimp only
    rw [if_neg (by simp; omega)]
    exact ⟨_, rfl, rfl, rfl, rfl, rfl, rfl⟩
  obtain ⟨s2, e2⟩ := attempt_no m0 h1 l h2 hp h3
  rw [e, e2]
  simp [reTurnSteps, Sre.M.runFor, Sre.M.step, Sre.M.say, h4, h5]
section
variable {M : Model} {A : Around} {E : Value → Shared → Prop} {s : Shared}
theorem rules_go {b : Nat → Bool} {nm : Nat → String} {Q : PUnit → Shared → Prop} (h : Q ⟨⟩ s) : ∀ l : List Nat, wpAny M A (forIn l PUnit.unit fun i _ => (if b i = true then do rule (nm i); pure (ForInStep.yield PUnit.unit) else pure (ForInStep.yield PUnit.unit) : Sem (ForInStep PUnit))) Q E s
  | [] => wpAny_pure h
  | i :: l => by
    rw [List.forIn_cons]
    refine wpAny_bind ?_
    split
    · exact wpAny_bind (wpAny_rule (wpAny_pure (rules_go h l)))
    · exact wpAny_pure (rules_go h l)
theorem drive_done (m : Sre.M) (o : Sre.Outcome) (h : (m.runFor reTurnSteps).outcome = some o) : ∃ m', reDrive (2 ^ 64) m = pure m' ∧ m'.outcome = some o := by
  refine ⟨m.runFor reTurnSteps, ?_, h⟩
  show reDrive (18446744073709551615 + 1) m = _
  unfold reDrive
  simp only [h, Option.isSome_some, if_true]
theorem found_no {t : ReTarget} {n : Nat} {Q : Option Sre.M → Shared → Prop} (l : List Nat) (hp : Plain l) (hn : l ≠ []) (h1 : t.code = CODE) (h2 : t.text = l.toArray) (h3 : t.groups = 1) (h4 : t.lim = l.length) (h0 : n = 0) (h : Q none s) : wpAny M A (reNextFound t n false) Q E s := by
  subst h0
  unfold reNextFound reRunToEnd
  rw [h1, h2, h3, h4]
  obtain ⟨m', e, ho⟩ := drive_done _ _ (search_no l hp hn)
  rw [e]
  refine wpAny_bind (wpAny_pure ?_)
  refine wpAny_bind (rules_go ?_ _)
  rw [ho]
  exact wpAny_pure h
end
abbrev patObj : Obj := { cls := .type "re.Pattern", data := .fields #[.str (Str.ofString "([&~|])") 290, .int 32 325, .int 1 0, .none, .none, .ref 42, .int 0 0] }
abbrev codeObj : Obj := { cls := .type "tuple", data := .seq #[.int 14 0, .int 14 0, .int 4 0, .int 1 0, .int 1 0, .int 9 0, .int 0 0, .int 64 0, .int 0 0, .int 1342177280 0, .int 0 0, .int 0 0, .int 0 0, .int 0 0, .int 0 0, .int 17 0, .int 0 0, .int 13 0, .int 11 0, .int 9 0, .int 0 0, .int 64 0, .int 0 0, .int 1342177280 0, .int 0 0, .int 0 0, .int 0 0, .int 0 0, .int 0 0, .int 17 0, .int 1 0, .int 1 0] }
section
variable {prog : Program} {w : World} {A : Around} {R : Result → Shared → Prop} {h : Heap} {g : Array GenState} {d : Drawn} {t : Nat} {os : OsState} {E : Value → Shared → Prop}
theorem whole_ok {l : List Nat} {tl : Tok} {Q : ReTarget → Shared → Prop} (h43 : h.get? 43 = some patObj) (h42 : h.get? 42 = some codeObj)
    (hq : ∀ T : ReTarget, T.code = CODE → T.text = l.toArray → T.kind = 0 → T.groups = 1 → T.lim = l.length → Q T ⟨h, g, d, t, os⟩) :
    wpAny (model prog w) A (reWholeTarget (.ref 43) (.str (cw l) tl)) Q E ⟨h, g, d, t, os⟩ := by
  unfold reWholeTarget
  repeat (first | lk | simp only [Bool.not_true, Bool.false_eq_true, if_false])
  refine hq _ ?_ rfl rfl rfl (by simp [cw])
  show Array.map _ (Array.map _ _) = CODE
  decide +kernel
theorem join_one {l : List Nat} {tl tj : Tok} {D : Addr} {n : Nat} {Q : Value → Shared → Prop} (hD : h.get? D = some (listOf #[.str (cw l) tl] n)) (hz : l.length ≤ 1048576)
    (hq : ∀ t' k, Q (.str (cw l) t') ⟨h, g, d, k, os⟩) : wpAny (model prog w) A (call (.builtin "str.join") [.str Str.empty tj, .ref D]) Q E ⟨h, g, d, t, os⟩ := by
  refine SC.join (l := [(cw l, tl)]) (texts := [cw l]) ⟨_, hD, rfl, n, rfl⟩ rfl ?_ (fun t' k => ?_)
  · unfold JoinOk
    have e : Builtin.Str.tooLong l.length = false := by
      unfold Builtin.Str.tooLong
      rw [decide_eq_false_iff_not, sizeLine_eq]
      omega
    simpa [cw, Str.length, Str.empty] using e
  · have : Txt.join Str.empty [cw l] = cw l := by
      unfold Txt.join
      simp [Builtin.Str.glued]
    rw [this]
    exact hq _ _
theorem mk_ok {x : Str} {Q : Value → Shared → Prop} (hx : x.length ≤ sizeLine) (hq : Q (.str x t) ⟨h, g, d, t + 1, os⟩) : wpAny (model prog w) A (mkStr x) Q E ⟨h, g, d, t, os⟩ := by
  unfold mkStr
  rw [if_neg (by omega)]
  repeat lk
  exact hq
theorem slice_all (l : List Nat) : reSlice l.toArray 0 0 l.length = mkStr (cw l) := by
  unfold reSlice
  simp [cw]
theorem slice_none (l : List Nat) : reSlice l.toArray 0 0 0 = mkStr Str.empty := by
  unfold reSlice
  simp [Str.empty]
theorem sub_loop {l : List Nat} {tl : Tok} {D : Addr} {f : Value} (hp : Plain l) (hn : l ≠ []) (hz : l.length ≤ 1048576) (h43 : h.get? 43 = some patObj) (h42 : h.get? 42 = some codeObj) (hD : h.get? D = some (listOf #[] 0))
    (hq : ∀ h' t' k, (∀ b o, b ≠ D → h.get? b = some o → h'.get? b = some o) → R (.ok (.ret (.str (cw l) t'))) ⟨h', g, d, k, os⟩) :
    codeAny (model prog w) A (.builtin "re.Pattern.sub.loop" ⟨[.ref 43, .str (cw l) tl, f, rawInt 1, rawInt 0, rawInt 0, rawInt 0, rawInt 0, .bool false, .ref D, .bool false], []⟩) R ⟨h, g, d, t, os⟩ := by
  refine codeAny_builtin entry_re_loop ?_
  rw [Around.under_plainId plain_re_loop]
  unfold Builtin.«re.Pattern.sub.loop»
  refine wpAny_bind ?_
  refine whole_ok h43 h42 fun T h1 h2 h3 h4 h5 => ?_
  repeat (first | with_reducible refine found_no l hp hn h1 h2 h4 h5 rfl ?_ | lk | simp only [Bool.not_true, Bool.false_eq_true, if_false])
  have hpos : 0 < l.length := List.length_pos_iff.mpr hn
  rw [h2, h3, h5, show Int.toNat 0 = 0 from rfl, if_pos hpos, slice_all, slice_none]
  refine wpAny_bind (mk_ok (cw_fits hz) ?_)
  refine wpAny_bind (wpAny_updateSeq hD rfl ?_ (by rw [sizeLine_eq]; simp) (by rw [sizeLine_eq]; simp))
  have hD1 : (h.update D (Obj.mapSeq (·.push (.str (cw l) t)))).get? D = some (listOf #[.str (cw l) t] 1) := Heap.get?_update_self _ hD rfl
  refine wpAny_bind (mk_ok (by decide) ?_)
  refine wpAny_bind (wpAny_seqItems hD1 rfl ?_)
  show wpAny _ _ (call (.builtin "str.join") [_, .ref D] >>= ret) _ _ _
  refine wpAny_bind (join_one hD1 hz fun t' k => ?_)
  refine wpAny_pure (hq _ _ _ (fun b o hb e => (Heap.get?_update_ne _ _ _ _ hb).trans e))
theorem sub_core {l : List Nat} {tl : Tok} {f : Addr} {fo : Obj} {Q : Value → Shared → Prop} (hp : Plain l) (hn : l ≠ []) (hz : l.length ≤ 1048576) (h43 : h.get? 43 = some patObj) (h42 : h.get? 42 = some codeObj) (hf : h.get? f = some fo) (hfc : fo.cls = .type "function")
    (hq : ∀ h' t' k, (∀ b o, h.get? b = some o → h'.get? b = some o) → Q (.str (cw l) t') ⟨h', g, d, k, os⟩) :
    wpAny (model prog w) A (call (.builtin "re.Pattern.sub") [.ref 43, .ref f, .str (cw l) tl]) Q E ⟨h, g, d, t, os⟩ := by
  have t1 : Looks (model prog w) h (typeOf (.ref f)) (.type "function") := hfc ▸ (Looks.ld hf).andThen .now
  have t2 : Looks (model prog w) h (typeLookup (.type "function") "__call__") (some (.builtin "function.__call__")) := Looks.of_pure lk_fn_call
  have t3 : Looks (model prog w) h (typeOf (.ref 43)) (.type "re.Pattern") := (Looks.ld h43).andThen .now
  refine wpAny_call (codeAny_call_builtin plain_re_sub entry_re_sub ?_)
  simp only [checkBuiltinCall, kind_re_sub, split_re_sub]
  repeat (first | lk | simp only [Bool.not_true, Bool.false_eq_true, if_false])
  refine ⟨by first | rfl | exact Code.quiet_builtin _ (by decide +kernel), sub_loop hp hn hz (Heap.get?_push_of_some _ h43) (Heap.get?_push_of_some _ h42) (Heap.get?_push_size _ rfl) fun h' t' k k1 => hq h' t' k fun b o e => k1 b o (Nat.ne_of_lt (Heap.lt_size e)) (Heap.get?_push_of_some _ e)⟩
theorem sub_meth {Q : Value × List Value → Shared → Prop} {pl : Sem Bool} (h43 : h.get? 43 = some patObj) (hq : Q (.builtin "re.Pattern.sub", [.ref 43]) ⟨h, g, d, t, os⟩) : wpAny (model prog w) A (getMethod (.ref 43) (Str.ofString "sub") pl) Q E ⟨h, g, d, t, os⟩ := by
  have t3 : Looks (model prog w) h (typeOf (.ref 43)) (.type "re.Pattern") := (Looks.ld h43).andThen .now
  have t4 : Looks (model prog w) h (typeLookup (.type "re.Pattern") "sub") (some (.builtin "re.Pattern.sub")) := Looks.of_pure lk_re_sub
  unfold getMethod
  repeat (first | lk | simp only [Bool.not_true, Bool.false_eq_true, if_false])
  exact hq
end
section
variable {w : World} {A : Around} {E : Value → Shared → Prop} {s : Shared} {h₀ : Heap} {L : Addr} {m : Str → Option Value} {news : List (Addr × Obj)}
theorem re_getm {Q : Value × List Value → Shared → Prop} {pl : Sem Bool} (F : Fr h₀ L s.heap m) (X₀ : (hd.heap_39 w.params).In h₀) (h : Q (.builtin "re.Pattern.sub", [.ref 43]) s) :
    wpAny (model PySem.Challenge.rw_rx0045_01.row.prog w) A (getMethod (.ref 43) (Str.ofString "sub") pl) Q E s := by
  have h43 := (X₀.keeps F.keep) 43 _ rfl
  obtain ⟨hh, g, d, t, os⟩ := s
  exact sub_meth h43 h
theorem re_sub_K {l : List Nat} {tl : Tok} {f : Addr} {fo : Obj} {Q : Value → Shared → Prop} (F : Fr h₀ L s.heap m) (X₀ : (hd.heap_39 w.params).In h₀) (N : News h₀ L s.heap news) (hf : (f, fo) ∈ news) (hfc : fo.cls = .type "function")
    (hp : Plain l) (hn : l ≠ []) (hz : l.length ≤ 1048576) (h : ∀ h' t' k, Fr h₀ L h' m → News h₀ L h' news → Q (.str (cw l) t') { s with heap := h', toks := k }) :
    wpAny (model PySem.Challenge.rw_rx0045_01.row.prog w) A (call (.builtin "re.Pattern.sub") [.ref 43, .ref f, .str (cw l) tl]) Q E s := by
  have h43 := (X₀.keeps F.keep) 43 _ rfl
  have h42 := (X₀.keeps F.keep) 42 _ rfl
  have hf2 := (N _ hf).1
  obtain ⟨hh, g, d, t, os⟩ := s
  exact sub_core hp hn hz h43 h42 hf2 hfc fun h' t' k hk => h h' t' k (F.keeps hk) (N.grown hk)
end
end
section
open PySem PySem.W PyProof.Rows PySem.Spec PySem.Calls
open Builtin Builtin.Str
theorem sp_keys {prog : Program} {w : World} : ∃ es ep, (hd.heap_39 w.params).lookup 45 = some { cls := .type "dict", data := .dict es ep } ∧ KeysOf (PySem.intKind prog w) es ∧ ∀ c : Nat, 97 ≤ c → c ≤ 100 → findBy (PySem.intKind prog w).is es (c : Int) = none := by
  refine ⟨_, _, rfl, ?_, ?_⟩
  · intro e he
    have h := Array.mem_toList_iff.mpr he
    clear he
    revert e
    show ∀ e ∈ (_ : List DictEntry), _
    refine List.forall_mem_cons.mpr ⟨⟨40, rfl, rfl⟩, ?_⟩
    refine List.forall_mem_cons.mpr ⟨⟨41, rfl, rfl⟩, ?_⟩
    refine List.forall_mem_cons.mpr ⟨⟨91, rfl, rfl⟩, ?_⟩
    refine List.forall_mem_cons.mpr ⟨⟨93, rfl, rfl⟩, ?_⟩
    refine List.forall_mem_cons.mpr ⟨⟨123, rfl, rfl⟩, ?_⟩
    refine List.forall_mem_cons.mpr ⟨⟨125, rfl, rfl⟩, ?_⟩
    refine List.forall_mem_cons.mpr ⟨⟨63, rfl, rfl⟩, ?_⟩
    refine List.forall_mem_cons.mpr ⟨⟨42, rfl, rfl⟩, ?_⟩
    refine List.forall_mem_cons.mpr ⟨⟨43, rfl, rfl⟩, ?_⟩
    refine List.forall_mem_cons.mpr ⟨⟨45, rfl, rfl⟩, ?_⟩
    refine List.forall_mem_cons.mpr ⟨⟨124, rfl, rfl⟩, ?_⟩
    refine List.forall_mem_cons.mpr ⟨⟨94, rfl, rfl⟩, ?_⟩
    refine List.forall_mem_cons.mpr ⟨⟨36, rfl, rfl⟩, ?_⟩
    refine List.forall_mem_cons.mpr ⟨⟨92, rfl, rfl⟩, ?_⟩
    refine List.forall_mem_cons.mpr ⟨⟨46, rfl, rfl⟩, ?_⟩
    refine List.forall_mem_cons.mpr ⟨⟨38, rfl, rfl⟩, ?_⟩
    refine List.forall_mem_cons.mpr ⟨⟨126, rfl, rfl⟩, ?_⟩
    refine List.forall_mem_cons.mpr ⟨⟨35, rfl, rfl⟩, ?_⟩
    refine List.forall_mem_cons.mpr ⟨⟨32, rfl, rfl⟩, ?_⟩
    refine List.forall_mem_cons.mpr ⟨⟨9, rfl, rfl⟩, ?_⟩
    refine List.forall_mem_cons.mpr ⟨⟨10, rfl, rfl⟩, ?_⟩
    refine List.forall_mem_cons.mpr ⟨⟨13, rfl, rfl⟩, ?_⟩
    refine List.forall_mem_cons.mpr ⟨⟨11, rfl, rfl⟩, ?_⟩
    refine List.forall_mem_cons.mpr ⟨⟨12, rfl, rfl⟩, ?_⟩
    exact List.forall_mem_nil _
  · intro c h1 h2
    have : c = 97 ∨ c = 98 ∨ c = 99 ∨ c = 100 := by omega
    rcases this with rfl | rfl | rfl | rfl <;> rfl
theorem sub_key_lookup : isSubtype (.type "KeyError") (.type "LookupError") = pure true := by rw [isSubtype_type]; kernel_rfl
theorem kind_tr : builtinKind "str.translate" = some .method := by decide +kernel
section
variable {w : World} {A : Around} {E : Value → Shared → Prop} {h : Heap} {g : Array GenState} {d : Drawn} {t : Nat} {os : OsState}
theorem look_keep {c : Nat} {Q : Mapped → Shared → Prop} (hh : A.handled = none) (X : (hd.heap_39 w.params).In h) (h1 : 97 ≤ c) (h2 : c ≤ 100)
    (hq : ∀ h' k, (∀ b o, h.get? b = some o → h'.get? b = some o) → Q .keep ⟨h', g, d, k, os⟩) : wpAny (model PySem.Challenge.rw_rx0045_01.row.prog w) A (tableLookup (.ref 45) c) Q E ⟨h, g, d, t, os⟩ := by
  obtain ⟨es, ep, hl, hk, hf⟩ := sp_keys (prog := PySem.Challenge.rw_rx0045_01.row.prog) (w := w)
  have h45 := X _ _ hl
  have M45 : h.MapOf (PySem.intKind PySem.Challenge.rw_rx0045_01.row.prog w) 45 (fun k => findBy (PySem.intKind PySem.Challenge.rw_rx0045_01.row.prog w).is es k) := ⟨_, es, ep, h45, ⟨rfl, rfl, rfl⟩, rfl, hk, fun _ => rfl⟩
  unfold tableLookup
  refine wpAny_bind (wpAny_attempt ?_)
  refine wpAny_bind ?_
  show wpAny _ _ (mkInt (c : Int)) _ _ _
  refine wpAny_mkInt ?_
  refine wpAny_getItem_missing_of (k := (c : Int)) (by simp [PySem.intKind, Value.isInt]) (by decide) hh M45 (hf c h1 h2) fun h' e hx => ?_
  obtain ⟨ob, tt, ho, hc, _⟩ := hx.there
  have t1 : Looks (model PySem.Challenge.rw_rx0045_01.row.prog w) h' (typeOf (.ref e)) (.type "KeyError") := hc ▸ (Looks.ld ho).andThen .now
  have s1 : Looks (model PySem.Challenge.rw_rx0045_01.row.prog w) h' (isSubtype (.type "KeyError") (.type "LookupError")) true := Looks.of_pure sub_key_lookup
  have q := hq h'
  dsimp only
  unfold isInstance
  repeat (first | lk | simp only [Bool.not_true, Bool.false_eq_true, if_false, if_true])
  exact q _ hx.keeps
theorem trans_core {c : Nat} {tt : Tok} {Q : Value → Shared → Prop} (hh : A.handled = none) (X : (hd.heap_39 w.params).In h) (h1 : 97 ≤ c) (h2 : c ≤ 100)
    (hq : ∀ h' t' k, (∀ b o, h.get? b = some o → h'.get? b = some o) → Q (.str (cw [c]) t') ⟨h', g, d, k, os⟩) : wpAny (model PySem.Challenge.rw_rx0045_01.row.prog w) A (call (.builtin "str.translate") [.str (cw [c]) tt, .ref 45]) Q E ⟨h, g, d, t, os⟩ := by
  refine wpAny_call_entry F.slot_str_translate (typeIs_str _ _ _) F.entry_str_translate ?_ (F.args_str_translate_2 _ _)
  have hall : (cw [c]).cps.all (· < 128) = true := by simp [cw]; omega
  unfold Builtin.«str.translate»
  repeat (first | with_reducible refine look_keep hh X h1 h2 ?_ | lk | simp only [Bool.not_true, Bool.false_eq_true, if_false])
  rw [if_pos hall]
  show wpAny _ _ (tableLookup (.ref 45) c >>= _) _ _ _
  refine wpAny_bind (look_keep hh X h1 h2 fun h' k hk => ?_)
  rw [hall]
  repeat (first | lk | simp only [Bool.not_true, Bool.false_eq_true, if_false])
  refine ⟨_, rfl, ?_⟩
  have q := hq h' k (k + 1) hk
  simpa [cw] using q
end
section
variable {w : World} {A : Around} {E : Value → Shared → Prop} {s : Shared} {h₀ : Heap} {L : Addr} {m : Str → Option Value} {news : List (Addr × Obj)}
theorem trans_K {c : Nat} {tt : Tok} {Q : Value → Shared → Prop} (F : Fr h₀ L s.heap m) (X₀ : (hd.heap_39 w.params).In h₀) (N : News h₀ L s.heap news) (hh : A.handled = none) (hc : c < 4)
    (h : ∀ h' t' k, Fr h₀ L h' m → News h₀ L h' news → Q (.str (cw [c + 97]) t') { s with heap := h', toks := k }) :
    wpAny (model PySem.Challenge.rw_rx0045_01.row.prog w) A (call (.builtin "str.translate") [.str (cw [c + 97]) tt, .ref 45]) Q E s := by
  have X := X₀.keeps F.keep
  obtain ⟨hh', g, d, t, os⟩ := s
  exact trans_core hh X (by omega) (by omega) fun h' t' k hk => h h' t' k (F.keeps hk) (N.grown hk)
end
end
section
open PySem PySem.W PyProof.Rows PySem.Spec PySem.Calls
open Builtin
inductive Tk
  | st
  | br (l : List Nat)
  | q
  | nb (l : List Nat)
  | ch (c : Nat)
def tkx : Tk → List Nat
  | .st => [42]
  | .br l => 91 :: (up l ++ [93])
  | .q => [63]
  | .nb l => 91 :: 33 :: (up l ++ [93])
  | .ch c => [c + 97]
/-- the first sign of a token -/
def tkc : Tk → Nat
  | .st => 42
  | .br _ => 91
  | .q => 63
  | .nb _ => 91
  | .ch c => c + 97
theorem tkc_at (t : Tk) : (tkx t)[0]? = some (tkc t) := by cases t <;> rfl
def TabPs (ps : Array Value) : Prop := ps = #[] ∨ ∃ c', ps = #[rawInt 61, rawInt 39, .ref c']
noncomputable abbrev CallT (w : World) (f : Addr) (d u : Nat) (news : List (Addr × Obj)) (vs : List Value)
    (Ret : (mean : Nat) → Heap → Addr → (Str → Option Value) → Shared → (Value → Shared → Prop) → Prop) : Prop :=
  ∀ (mean : ExcName → Option Value) (mg mb : Str → Option Value) (dp un : Nat) (gd : Option (List Code)) (cn : Str) (cs : Scope) (a : Addr) (ccd : Value) (cl : List (Str × Addr)) (outer : List Env) (A₀ : Around) (base h₀ : Heap) (L : Addr) (m : Str → Option Value) (s : Shared)
    (Q E : Value → Shared → Prop),
    Below A₀ base outer h₀ → Fr h₀ L s.heap m → (hd.heap_39 w.params).In h₀ → News h₀ L s.heap news → Top VW LS mean mg mb h₀ → CodeHd h₀ 61 57 → cs.kind = .function → dp + d < recursionLimit → un + u < cLine →
    Ret 0 h₀ L m s Q →
    wpAny (model PySem.Challenge.rw_rx0045_01.row.prog w) (ktrTop dp un gd cn cs L a ccd cl outer) (call (.ref f) vs) Q E s
def OutIs (fr : List Nat) (v : Value) : Tk → Prop
  | .st => v = .none
  | .br l => ∃ t, v = .str (cw (ptx (.br l))) t
  | .q => ∃ t, v = .str (cw (ptx (.tx fr))) t
  | .nb l => ∃ t, v = .str (cw (ptx (.nb l))) t
  | .ch c => ∃ t, v = .str (cw (ptx (.tx [c]))) t
def OutAre (fr : List Nat) : List Value → List Tk → Prop
  | [], [] => True
  | v :: vs, t :: ts => OutIs fr v t ∧ OutAre fr vs ts
  | _, _ => False
def TkOk : Tk → Prop
  | .st => True
  | .br l => l ≠ [] ∧ (∀ x ∈ l, x < 4) ∧ l.length ≤ 10
  | .q => True
  | .nb l => l ≠ [] ∧ (∀ x ∈ l, x < 4) ∧ l.length ≤ 10
  | .ch c => c < 4
def pats (ts : List Tk) : List Nat := ts.flatMap tkx
theorem ch_ne {c k : Nat} (h : k < 97) : ([c + 97] == [k]) = false := by
  rw [Bool.eq_false_iff]
  simp
  omega
theorem ch_nne {c k : Nat} (h : k < 97) : ([c + 97] != [k]) = true := by
  rw [bne, ch_ne h]; rfl
theorem pats_app (a b : List Tk) : pats (a ++ b) = pats a ++ pats b := by simp [pats]
theorem pats_at {ts dn td : List Tk} {t : Tk} (h : ts = dn ++ t :: td) {j c : Nat} (hc : (tkx t)[j]? = some c) : (pats ts)[(pats dn).length + j]? = some c := by
  subst h
  rw [pats_app, List.getElem?_append_right (by omega)]
  have hj := (List.getElem?_eq_some_iff.mp hc).1
  have e : pats (t :: td) = tkx t ++ pats td := rfl
  rw [e, List.getElem?_append_left (by omega), Nat.add_sub_cancel_left, hc]
theorem tkx_pos (t : Tk) : 0 < (tkx t).length := by cases t <;> simp [tkx]
theorem pats_snoc (dn : List Tk) (t : Tk) : (pats (dn ++ [t])).length = (pats dn).length + (tkx t).length := by
  rw [pats_app, List.length_append]
  simp [pats]
theorem outs_snoc {fr : List Nat} {v : Value} {t : Tk} (h : OutIs fr v t) : ∀ {vs : List Value} {ts : List Tk}, OutAre fr vs ts → OutAre fr (vs ++ [v]) (ts ++ [t])
  | [], [], _ => ⟨h, trivial⟩
  | _ :: _, _ :: _, ⟨p, r⟩ => ⟨p, outs_snoc h r⟩
  | [], _ :: _, r => r.elim
  | _ :: _, [], r => r.elim
theorem outs_len {fr : List Nat} : ∀ {vs : List Value} {ts : List Tk}, OutAre fr vs ts → vs.length = ts.length
  | [], [], _ => rfl
  | _ :: _, _ :: _, ⟨_, r⟩ => congrArg (· + 1) (outs_len r)
  | [], _ :: _, r => r.elim
  | _ :: _, [], r => r.elim
theorem trans_start {h₀ h : Heap} {L q r D : Addr} {d : Obj} {ps : Array Value} (N : News h₀ L h [(D, d), (q, bndObj "builtin_function_or_method" "list.append" r), (r, listOf #[] 0), (57, tabObj ps)]) (lt : @LT.lt Nat _ r q ∧ @LT.lt Nat _ 57 q) (lt2 : @LT.lt Nat _ 57 r) :
    ∃ QA RA, QA = q ∧ RA = r ∧ @LT.lt Nat _ r q ∧ @LT.lt Nat _ 57 q ∧ @LT.lt Nat _ 57 r ∧ News h₀ L h [(QA, bndObj "builtin_function_or_method" "list.append" RA), (RA, listOf (List.toArray []) 0), (57, tabObj ps)] := ⟨q, r, rfl, rfl, lt.1, lt.2, lt2, news_tl N⟩
abbrev OFFT : List Str := [Str.ofString "i", Str.ofString "c", Str.ofString "j", Str.ofString "stuff"]
theorem outs_nil {fr : List Nat} {its : List Value} (h : OutAre fr its []) : its = [] := by
  cases its with
  | nil => rfl
  | cons v vs => exact h.elim
theorem out_str {fr : List Nat} {v : Value} {t : Tk} (h : OutIs fr v t) (ht : t ≠ .st) : ∃ x tx, v = .str x tx := by
  cases t with
  | st => exact absurd rfl ht
  | br l => obtain ⟨t, rfl⟩ := h; exact ⟨_, _, rfl⟩
  | q => obtain ⟨t, rfl⟩ := h; exact ⟨_, _, rfl⟩
  | nb l => obtain ⟨t, rfl⟩ := h; exact ⟨_, _, rfl⟩
  | ch c => obtain ⟨t, rfl⟩ := h; exact ⟨_, _, rfl⟩
theorem outs_last {fr : List Nat} {t : Tk} (ht : t ≠ .st) : ∀ {its : List Value} {ds : List Tk}, OutAre fr its (ds ++ [t]) → ∃ its' x tx, its = its' ++ [.str x tx]
  | [], [], h => h.elim
  | [], _ :: _, h => h.elim
  | [v], [], h => by
    obtain ⟨x, tx, rfl⟩ := out_str h.1 ht
    exact ⟨[], x, tx, rfl⟩
  | v :: v2 :: vs, [], h => h.2.elim
  | v :: vs, d :: ds, h => by
    obtain ⟨its', x, tx, rfl⟩ := outs_last ht h.2
    exact ⟨v :: its', x, tx, rfl⟩
theorem pats_ge : ∀ ts : List Tk, ts.length ≤ (pats ts).length
  | [] => Nat.le_refl _
  | t :: ts => by
    have h1 := pats_ge ts
    have h2 := tkx_pos t
    have e : pats (t :: ts) = tkx t ++ pats ts := rfl
    rw [e, List.length_append, List.length_cons]
    omega
section
variable {prog : Program} {w : World} {A : Around} {E : Value → Shared → Prop} {s : Shared} {h₀ : Heap} {L a : Addr} {news : List (Addr × Obj)} {value slice : Expr}
theorem truthy_snoc {its : List Value} {v : Value} {k : Nat} {Q : Bool → Shared → Prop} (N : News h₀ L s.heap news) (hm : (a, listOf (List.toArray (its ++ [v])) k) ∈ news) (hz : its.length + 1 ≤ 1048576) (h : ∀ tk, Q true { s with toks := tk }) : wpAny (model prog w) A (truthy (.ref a)) Q E s := by
  refine wpAny_truthy_list (News.isList N hm) (by simp; omega) ?_
  have e : (!(List.toArray (its ++ [v])).isEmpty) = true := by simp
  rw [e]
  exact h _
theorem truthy_nil {k : Nat} {Q : Bool → Shared → Prop} (N : News h₀ L s.heap news) (hm : (a, listOf (List.toArray []) k) ∈ news) (h : ∀ tk, Q false { s with toks := tk }) : wpAny (model prog w) A (truthy (.ref a)) Q E s := by
  refine wpAny_truthy_list (News.isList N hm) (by simp) ?_
  exact h _
theorem last_mem {its : List Value} {v : Value} {k : Nat} {u : Tok} {Q : Value → Shared → Prop} (N : News h₀ L s.heap news) (hm : (a, listOf (List.toArray (its ++ [v])) k) ∈ news) (hz : its.length + 1 ≤ 1048576) (h : Q v s)
    (hs : subscripted slice false (.ref a) (.int (-1) u) = operate [.ref a, .int (-1) u] (getItem (.ref a) (.int (-1) u)) := by with_unfolding_all rfl) :
    wpAny (model prog w) A (subscriptTail value slice (.ref a) (.int (-1) u)) Q E s := by
  have hl := News.isList N hm
  refine tail_any hl.typeIs slot_list_getitem.lookup (wpAny_getItem_list_neg (x := v) hl (by decide) (by simp; omega) (by decide) (by
    have e : (-1 + ((its ++ [v]).toArray.size : Int)).toNat = its.length := by simp; omega
    rw [e]; simp) h) hs
end
theorem plain_up {l : List Nat} (h : ∀ x ∈ l, x < 4) : Plain (up l) := by
  intro c hc
  obtain ⟨x, hx, rfl⟩ := List.mem_map.mp hc
  have := h x hx
  exact .inr ⟨by omega, by omega⟩
theorem plain_nb {l : List Nat} (h : ∀ x ∈ l, x < 4) : Plain (33 :: up l) := by
  intro c hc
  rcases List.mem_cons.mp hc with rfl | hc
  · exact .inl rfl
  · exact plain_up h c hc
theorem plain_no {l : List Nat} (h : Plain l) {k : Nat} (hk : k ≠ 33 ∧ (k < 97 ∨ 100 < k)) : k ∉ l := fun q => by
  have := h k q
  omega
theorem occ_plain {l : List Nat} {k n : Nat} (h : k ∉ l) : (Builtin.Str.occurrences (cw l) ⟨#[k]⟩ 0 (cw l).length n).isEmpty = true := by
  cases e : Builtin.Str.occurrences (cw l) ⟨#[k]⟩ 0 (cw l).length n with
  | nil => rfl
  | cons i r =>
    have h1 := StrLaws.occ_spec (cw l) ⟨#[k]⟩ 0 (cw l).length n i (by rw [e]; exact List.mem_cons_self)
    have h2 := (StrLaws.subAt_one (cw l) k i).mp h1
    rw [cw_list] at h2
    exact absurd (List.mem_of_getElem? h2) h
theorem up_ne33 {l : List Nat} : (up l == [33]) = false := by
  cases l with
  | nil => rfl
  | cons x l =>
    rw [Bool.eq_false_iff]
    simp [up]
theorem nb_ne33 {l : List Nat} (h : l ≠ []) : (33 :: up l == [33]) = false := by
  cases l with
  | nil => exact absurd rfl h
  | cons x l =>
    rw [Bool.eq_false_iff]
    simp [up]
section
variable {prog : Program} {w : World} {A : Around} {E : Value → Shared → Prop} {s : Shared} {t u : Tok} {Q : Value → Shared → Prop} {value slice : Expr}
theorem rep_cw {l : List Nat} {u v : Tok} (hp : Plain l) (h : ∀ t' k, Q (.str (cw l) t') { s with toks := k }) :
    wpAny (model prog w) A (call (.builtin "str.replace") [.str (cw l) t, .str (Str.ofString "\\") u, .str (Str.ofString "\\\\") v]) Q E s := by
  have he : ((Builtin.Str.occurrences (cw l) (Str.ofString "\\") 0 (cw l).length ((cw l).length + 1)).isEmpty || ((Str.ofString "\\").length == 0 && (Str.ofString "\\\\").length == 0)) = true := by
    rw [Bool.or_eq_true]
    exact .inl (occ_plain (k := 92) (plain_no hp (by decide)))
  refine call_gives F.slot_str_replace (typeIs_str _ _ _) F.entry_str_replace (F.args_str_replace_3 _ _ _) (gives_str_replace (cw l) (Str.ofString "\\") (Str.ofString "\\\\") t u v fun hc => ?_) ?_
  · rw [he] at hc; cases hc
  · rw [he]
    simp only [if_true]
    exact h t s.toks
theorem any_no {x : Nat} : ([Str.ofString "^", Str.ofString "["].any fun y => y == cw [x + 97]) = false := by
  rw [List.any_eq_false]
  intro y hy h
  have h := eq_of_beq h
  simp only [List.mem_cons, List.not_mem_nil, or_false] at hy
  rcases hy with rfl | rfl
  · have := cw_inj (a := [94]) (b := [x + 97]) h
    simp at this
  · have := cw_inj (a := [91]) (b := [x + 97]) h
    simp at this
theorem getm_translate {x : Str} {pl : Sem Bool} {Q : Value × List Value → Shared → Prop} (h : Q (.builtin "str.translate", [.str x t]) s) : wpAny (model prog w) A (getMethod (.str x t) (Str.ofString "translate") pl) Q E s := by
  with_reducible exact GM.of (.str x t) (typeIs_str _ _ _) F.slot_str_translate F.type_str_translate GM.noRef h
theorem joinN {a : List Nat} : Str.empty ++ Str.ofString "[" ++ cw a ++ Str.ofString "]" = cw (91 :: (a ++ [93])) := by
  rw [show Str.empty = cw [] from rfl, show Str.ofString "[" = cw [91] from rfl, show Str.ofString "]" = cw [93] from rfl, cw_app, cw_app, cw_app]
  rfl
theorem seg {P X R : List Nat} {n k : Nat} (hn : n = P.length) (hk : k = X.length) : ((P ++ X ++ R).drop n).take k = X := by
  subst hn hk
  rw [List.append_assoc, List.drop_left, List.take_left]
theorem seg_cw {T P X R : List Nat} {a b : Int} (hT : T = P ++ X ++ R) (ha : a = (P.length : Nat)) (hb : b = ((P.length + X.length : Nat))) : Txt.slice (cw T) (some a) (some b) = cw X := by
  subst ha hb hT
  rw [slice_ab _ (by omega) (by simp), seg rfl (by omega)]
theorem lam_any {A : Around} {mean : ExcName → Option Value} {mg mb : Str → Option Value} {cn : Str} {cs : Scope} {a : Addr} {cl : List (Str × Addr)} {h₀ : Heap} {L : Addr} {m : Str → Option Value} {q r : Addr × Obj} {ps : Array Value} {params : Arguments} {body : Expr} {scope : Scope} {clos : List (Str × Addr)} {pos : Pos} {Q : Value → Shared → Prop}
    (F : Fr h₀ L s.heap m) (N : News h₀ L s.heap [q, r, (57, tabObj ps)]) (T : Top VW LS mean mg mb h₀) (C : CodeHd h₀ 61 57) (hps : TabPs ps) (hq : @Ne Nat q.1 57) (hr : @Ne Nat r.1 57) (hp : pos.line = 61 ∧ pos.col = 39)
    (hdef : defaultsOf params (envX cn cs L a (.ref 61) cl) = ([], [])) (hcl : closureFor scope (envX cn cs L a (.ref 61) cl) = pure clos)
    (h : ∀ f fo ps' h' tk, fo.cls = .type "function" → TabPs ps' → (@LT.lt Nat _ q.1 f ∧ @LT.lt Nat _ r.1 f) → Fr h₀ L h' m → News h₀ L h' [(f, fo), q, r, (57, tabObj ps')] → Q (.ref f) { s with heap := h', toks := tk }) :
    wpAny (model prog w) A (eval (.Lambda params body scope pos) (envX cn cs L a (.ref 61) cl)) Q E s := by
  refine kla_eval hdef ?_
  rcases hps with rfl | ⟨c', rfl⟩
  · refine kla_nest F N T C rfl (UpdF.tail hq (UpdF.tail hr (UpdF.head (fun _ h => nomatch h)))) True.intro rfl hcl ?_
    intro f c' oc vs t ctv h' tk F' N' _ _ l1 l2
    refine h f (kla_obj (Str.ofString "<lambda>") ((envX cn cs L a (.ref 61) cl).qual ++ Str.ofString "<lambda>") params body scope clos ((mg (Str.ofString "__name__")).getD .none) c' ctv) (#[] ++ #[rawInt pos.line, rawInt pos.col, .ref c']) h' tk rfl (.inr ⟨c', by rw [hp.1, hp.2]; rfl⟩) ⟨Nat.lt_trans (l1 _ (.head _)) l2, Nat.lt_trans (l1 _ (.tail _ (.head _))) l2⟩ F' (ledger_drop N' (List.forall_mem_cons.mpr ⟨.head _, List.forall_mem_cons.mpr ⟨.tail _ (.tail _ (.head _)), List.forall_mem_cons.mpr ⟨.tail _ (.tail _ (.tail _ (.head _))), List.forall_mem_cons.mpr ⟨.tail _ (.tail _ (.tail _ (.tail _ (.head _)))), List.forall_mem_nil _⟩⟩⟩⟩))
  · refine kla_hit (c' := c') F N T C rfl (.tail _ (.tail _ (.head _))) (by simp [TriplesOk, rawInt]) (by simp [codeAmong, rawInt, hp.1, hp.2]) hcl ?_
    intro f ctv h' tk F' N' l1
    exact h f (kla_obj (Str.ofString "<lambda>") ((envX cn cs L a (.ref 61) cl).qual ++ Str.ofString "<lambda>") params body scope clos ((mg (Str.ofString "__name__")).getD .none) c' ctv) _ h' tk rfl (.inr ⟨c', rfl⟩) ⟨l1 _ (.head _), l1 _ (.tail _ (.head _))⟩ F' N'
theorem truthy_cw {x : Nat} {l : List Nat} {Q : Bool → Shared → Prop} (hz : (x :: l).length ≤ 1048576) (h : ∀ k, Q true { s with toks := k }) : wpAny (model prog w) A (truthy (.str (cw (x :: l)) t)) Q E s := by
  refine P.truthy_str (by rw [cw_len]; omega) ?_
  rw [cw_len, show ((((x :: l).length : Nat) : Int) != 0) = true by simp; omega]
  exact h _
theorem cw_add {a b : List Nat} {y z : Str} (hy : y = cw a) (hz : z = cw b) (hl : a.length + b.length ≤ 1048576) (h : ∀ t' k, Q (.str (cw (a ++ b)) t') { s with toks := k }) : wpAny (model prog w) A (binaryOp .Add (.str y t) (.str z u)) Q E s := by
  subst hy hz
  refine SB.add (fun t' k => ?_) (by rw [cw_len, cw_len, sizeLine_eq]; omega)
  rw [cw_app]
  exact h _ _
theorem cwl_len {l : List Nat} (hl : l.length ≤ 1048576) (h : ∀ t' k, Q (.int l.length t') { s with toks := k }) : wpAny (model prog w) A (call (.builtin "len") [.str (cw l) t]) Q E s := by
  refine P.len_str (by rw [cw_len]; omega) ?_
  rw [cw_len]
  exact h _ _
def ItemAt (l : List Nat) (i : Int) (c : Nat) : Prop := ∃ j : Nat, i = (j : Nat) ∧ l[j]? = some c
theorem cwl_item {l : List Nat} {i : Int} {c : Nat} (hij : ItemAt l i c) (hl : l.length ≤ 1048576) (h : ∀ t' k, Q (.str (cw [c]) t') { s with toks := k })
    (hs : subscripted slice false (.str (cw l) t) (.int i u) = operate [.str (cw l) t, .int i u] (getItem (.str (cw l) t) (.int i u)) := by with_unfolding_all rfl)
    (ht : ∀ r, letTemporaryGo value (.str (cw l) t) r = pure () := by intro _; with_unfolding_all rfl) :
    wpAny (model prog w) A (subscriptTail value slice (.str (cw l) t) (.int i u)) Q E s := by
  obtain ⟨j, hi, hj⟩ := hij
  have hlt : j < l.length := (List.getElem?_eq_some_iff.mp hj).1
  refine KXi.item (n := l.length) (cw_len l) (by omega) (by omega) (by omega) (fun _ => ?_) hs ht
  have : Txt.item (cw l) i = cw [c] := by
    subst hi
    rw [item_meets (n := c) (by omega) (by simp [cw, hj])]
    rfl
  rw [this]
  exact h _ _
end
theorem s_trans (w : World) (ts : List Tk) (fr : List Nat) (hts : ∀ t ∈ ts, TkOk t) (hst : ∀ dn td, ts = dn ++ .st :: td → dn = [] ∨ ∃ d' t', dn = d' ++ [t'] ∧ t' ≠ .st) (hlen : (pats ts).length ≤ 1048576) (t0 tq : Tok) (ps : Array Value) (hps : TabPs ps) (rest : List (Addr × Obj)) (h57 : ∀ p ∈ rest, p.1 ≠ 57) :
   CallT w 62 120 1200 ((57, tabObj ps) :: rest) [.str (cw (pats ts)) t0, .none, .str (tw fr) tq]
    (fun _ h₀ L m s Q => ∀ RA its k ps' tk h', OutAre fr its ts → TabPs ps' → Fr h₀ L h' m → News h₀ L h' ((RA, listOf its.toArray k) :: (57, tabObj ps') :: rest) → (∀ p ∈ rest, p.1 ≠ RA) → Q (.ref RA) { s with heap := h', toks := tk }) := by
  k_with_none
  k_with "ktr_room" => first | exact om2 (by assumption) rfl | exact om1 (by assumption) rfl | exact om0 (by assumption) | exact om3 rfl
  k_with "k_all" => first | assumption | exact ne_of_allLt (by assumption) | exact ne_of_allLt (And.right (by assumption)) | exact ne_of_allLt (And.right (And.right (by assumption))) | exact ne_of_allLt (And.right (And.right (And.right (by assumption)))) | exact ne_of_allLt (And.right (And.right (And.right (And.right (by assumption))))) | exact ne_of_allLt (And.right (And.right (And.right (And.right (And.right (by assumption))))))
  k_with "k_inst" => (apply inst_acc; k_asm; k_mem; k_mem)
  k_with "k_room" => ktr_room
  k_with "k_mem" => first | assumption | exact List.Mem.head _ | (apply List.Mem.tail; k_mem)
  k_with "k_memK" => k_mem
  k_with "MYSUB" => first | exact List.forall_mem_nil _ | (refine List.forall_mem_cons.mpr ⟨by k_memK, ?_⟩; walk_at "MYSUB") | (intro _ hp; repeat (first | exact hp | refine List.mem_cons_of_mem _ ?_))
  k_with "MYHP" => ( (repeat (first | rw [if_pos (by rw [← tw_lt]; assumption)] | rw [if_neg (by rw [← tw_lt]; assumption)])); (first | assumption | (repeat (first | exact trivial | refine ⟨⟨_, rfl⟩, ?_⟩))))
  k_with "MYSTEPS" => repeat' ((fail_if_success (with_reducible show wpAny _ _ (exec (Stmt.While _ _ _ _) _) _ _ _)); first | (k_unfold; (try dsimp only)) | (k_end; wrow_close) | walk1 | (dsimp only; walk1) | (leave1; try dsimp only))
  k_with "MYPRE" => repeat' ((fail_if_success (with_reducible show wpAny _ _ (exec (Stmt.If _ _ _ _) _) _ _ _)); (fail_if_success (with_reducible show wpAny _ _ (exec (Stmt.While _ _ _ _) _) _ _ _)); first | (k_unfold; (try dsimp only)) | (k_end; wrow_close) | walk1 | (dsimp only; walk1) | (leave1; try dsimp only))
  k_with "getAttr ref" => (k_here; (with_reducible show wpAny _ _ (getAttr (Value.ref _) (PySem.Str.ofString "append") _) _ _ _); k_dflt (refine la_bound (by k_asm) (by k_asm) (by k_mem) ?_); intro _ _ _ _ l1; (try k_lt l1))
  k_with "callWith ref" => (k_here; (with_reducible show wpAny _ _ (callWith _ (Value.ref _) _ (backTo _ (starEach (_ :: _) _)) []) _ _ _); k_dflt (refine callWith_la (by k_asm) (by k_mem) ?_; k_whole))
  k_with "And" => ((with_reducible show BndAt _ _ _ ∧ _); k_dflt (refine ⟨(News.get (by k_asm) (by k_mem) : _), ?_⟩); (try dsimp only [List.nil_append, List.cons_append]))
  k_with "call ref" => (k_here; (with_reducible show wpAny _ _ (call (Value.ref _) [_]) _ _ _); k_dflt (refine bnd_append (by k_asm) (by k_asm) (by k_mem) (by k_mem) (by k_upd) (by assumption) ?_; intro _ _ _))
  k_with "MYSIZE" => (simp only [Str.length_append, cw_len, List.length_append, List.length_cons, List.length_nil, show (Str.ofString "[").length = 1 from rfl, show (Str.ofString "]").length = 1 from rfl, show Str.empty.length = 0 from rfl, sizeLine_eq]; omega)
  k_with "And" => ((with_reducible show PySem.Str.length (_ ++ _) ≤ sizeLine ∧ wpAny _ _ (joinParts _ _) _ _ _); k_dflt (refine ⟨by walk_at "MYSIZE", ?_⟩))
  k_with "joinParts" => (k_here; (first | (with_reducible show wpAny _ _ (joinParts _ []) _ _ _) | (with_reducible show wpAny _ _ (joinParts _ (evalEach [] _)) _ _ _)); k_dflt (refine joinParts_nil ?_ (by walk_at "MYSIZE")))
  k_with "formatField str" => (k_here; (with_reducible show wpAny _ _ (formatField (Value.str (cw _) _) _) _ _ _); k_dflt (refine formatField_str ?_ (by walk_at "MYSIZE")); intro _ _)
  k_with "eval Lambda" => (k_here; (rename CodeHd _ 61 57 => cH); (rename TabPs _ => hT); (with_unfolding_all refine lam_any (a := 62) (by k_asm) (by k_asm) (by k_asm) cH hT (by exact neN (by omega)) (by exact neN (by omega)) (by exact ⟨rfl, rfl⟩) (by exact rfl) (by exact rfl) ?_); intro _ _ _ _ _ _ _ hlt' _ _; (try dsimp only at hlt'))
  k_with "getMethod ref" => (k_here; (with_reducible show wpAny _ _ (getMethod (Value.ref 43) _ _) _ _ _); k_dflt (refine re_getm (by k_asm) (by k_asm) ?_))
  k_with "call builtin:re.Pattern.sub" => (k_here; k_dflt (refine re_sub_K (by k_asm) (by k_asm) (by k_asm) (by exact .head _) (by assumption) (by assumption) (by (intro q; cases q)) (by assumption) ?_); intro _ _ _ _ _)
  k_with "getMethod str" => (k_here; (with_reducible show wpAny _ _ (getMethod (Value.str _ _) (Str.ofString "translate") _) _ _ _); k_dflt (refine getm_translate ?_))
  k_with "call builtin:str.translate" => (k_here; k_dflt (refine trans_K (by k_asm) (by k_asm) (by k_asm) (by exact rfl) (by assumption) ?_); intro _ _ _ _ _)
  k_with "call builtin:str.replace" => (k_here; k_dflt (refine rep_cw (by assumption) ?_); intro _ _)
  k_with "truthy str" => (k_here; k_dflt (refine truthy_cw (by assumption) ?_; intro _))
  k_with "compareOp NotIn str str" => (k_here; (with_reducible show wpAny _ _ (compareOp CmpOp.NotIn _ (Value.str (cw _) _)) _ _ _); k_dflt (refine cw_notIn (c := 45) rfl (decide_eq_false (plain_no (by assumption) (by decide))) ?_))
  k_with "subscriptTail Name Slice str ref" => (k_here; (with_reducible show wpAny _ _ (subscriptTail _ (Expr.Slice (some _) (some _) none _) (Value.str (cw _) _) _) _ _ _); (with_reducible rename Fr _ _ _ _ => F'); (with_reducible rename News _ _ _ _ => N'); (refine slice_strN_ss (hsz := by exact cw_fits (by assumption)) (s := ⟨_, _, _, _, _⟩) F' N' ?_); intro _ _ _ _ _; (rename Txt.slice (cw (pats _)) _ _ = _ => hsl'); rw [hsl'])
  k_with "subscriptTail Name Slice str ref" => (k_here; (with_reducible show wpAny _ _ (subscriptTail _ (Expr.Slice (some _) none none _) (Value.str (cw _) _) _) _ _ _); (with_reducible rename Fr _ _ _ _ => F'); (with_reducible rename News _ _ _ _ => N'); (refine slice_strN_sn (hsz := by exact cw_fits (by assumption)) (s := ⟨_, _, _, _, _⟩) F' N' ?_); intro _ _ _ _ _; (rename Txt.slice (cw (33 :: _)) _ _ = _ => hsl'); rw [hsl'])
  k_with "subscriptTail Name Constant str int" => (k_here; (with_reducible show wpAny _ _ (subscriptTail _ _ (Value.str (cw _) _) (Value.int _ _)) _ _ _); k_dflt (refine cwl_item (by assumption) (by assumption) ?_; intro _ _))
  k_with "binaryOp Add str str" => (k_here; (with_reducible show wpAny _ _ (binaryOp Operator.Add (Value.str _ _) (Value.str (cw _) _)) _ _ _); k_dflt (refine cw_add (a := [94]) rfl rfl (by (simp only [List.length_cons, List.length_nil]; omega)) ?_; intro _ _))
  k_with "truthy ref" => (k_here; (with_reducible show wpAny _ _ (truthy (Value.ref _)) _ _ _); k_dflt (first | (refine truthy_snoc (by k_asm) (by k_mem) (by assumption) ?_; intro _) | (refine truthy_nil (by k_asm) (by k_mem) ?_; intro _)))
  k_with "subscriptTail Name UnaryOp ref int" => (k_here; (with_reducible show wpAny _ _ (subscriptTail _ _ (Value.ref _) (Value.int _ _)) _ _ _); k_dflt (refine last_mem (by k_asm) (by k_mem) (by assumption) ?_))
  k_with "subscriptTail Name Constant ref int" => (k_here; (with_reducible show wpAny _ _ (subscriptTail _ _ (Value.ref _) (Value.int _ _)) _ _ _); k_dflt (refine last_mem (by k_asm) (by k_mem) (by assumption) ?_))
  k_with "call builtin:len" => (k_here; (with_reducible show wpAny _ _ (call (Value.builtin "len") [Value.str (cw _) _]) _ _ _); k_dflt (refine cwl_len (by assumption) ?_; intro _ _))
  k_with "subscriptTail Name Name str int" => (k_here; (with_reducible show wpAny _ _ (subscriptTail _ _ (Value.str (cw _) _) (Value.int _ _)) _ _ _); k_dflt (refine cwl_item (by assumption) (by assumption) ?_; intro _ _))
  k_with "MYEQ" => first | exact ch_ne (by decide) | exact up_ne33 | exact nb_ne33 (by assumption) | exact (rfl : _ = true) | exact (rfl : _ = false)
  k_with "compareOp Eq str str" => (k_here; (with_reducible show wpAny _ _ (compareOp CmpOp.Eq (Value.str (cw _) _) _) _ _ _); k_dflt (first | refine cw_eq (k := [42]) rfl (by walk_at "MYEQ") ?_ | refine cw_eq (k := [63]) rfl (by walk_at "MYEQ") ?_ | refine cw_eq (k := [91]) rfl (by walk_at "MYEQ") ?_ | refine cw_eq (k := [33]) rfl (by walk_at "MYEQ") ?_ | refine cw_eq (k := [93]) rfl (by walk_at "MYEQ") ?_))
  k_with "compareOp NotEq str str" => (k_here; (with_reducible show wpAny _ _ (compareOp CmpOp.NotEq (Value.str (cw _) _) _) _ _ _); k_dflt (first | refine cw_ne (k := [93]) rfl (by first | exact ch_nne (by decide) | exact (rfl : _ = true) | exact (rfl : _ = false)) ?_))
  unfold CallT
  k_fill
  intro mean mg mb dp un gd cn cs a ccd cl outer A₀ base h₀ L m s Q E B F X N T codeHd hk hR hu hret
  refine wpAny_call ?_
  refine' code_defR (news := [(57, tabObj ps)]) (rest := rest) (binds := [(Str.ofString "pat", .str (cw (pats ts)) t0), (Str.ofString "STAR", .none), (Str.ofString "QUESTION_MARK", .str (tw fr) tq)]) B F X N (fun p hp q hq => by rw [List.mem_singleton.mp hq]; exact h57 p hp) T rfl rfl hk ?k6 ?k7 ?k8 ?k9 ?kB ?_ ?c2 ?c3 ?c4 ?c5
  case k6 => k_is
  case k7 => k_is
  case k8 => exact om0 (by assumption)
  case k9 => exact BindsTo.of_eq rfl
  case kB => exact locs rfl
  case c2 => exact rfl
  case c3 => exact rfl
  case c4 => exact rfl
  case c5 => decide
  intro g' L' h' FG' F' N' NR' B' X' T'
  try dsimp only
  refine fun_abs (by passes_own) ?_
  intro QF EF hQF hPE
  have codeHd' : CodeHd g' 61 57 := codeHd.keeps FG'.keep
  walk_at "MYSTEPS"
  rename Fr g' L' _ _ => F9
  rename News g' L' _ _ => N9
  obtain ⟨QA, RA, rfl, rfl, hQR, hQ57, hR57, N8⟩ := trans_start N9 (by assumption) (by assumption)
  clear N9
  k_dflt (refine While_inv (fun n m news => ∃ dn td its k t ps, n = List.length td ∧ ts = dn ++ td ∧ EqOff OFFT m _ ∧ m (Str.ofString "i") = some (.int (((pats dn).length : Nat) : Int) t) ∧ news = [(QA, bndObj "builtin_function_or_method" "list.append" RA), (RA, listOf (List.toArray its) k), (57, tabObj ps)] ∧ OutAre fr its dn ∧ TabPs ps) (n₀ := ts.length) F9 N8 ⟨[], ts, [], 0, _, ps, rfl, rfl, EqOff.refl, rfl, rfl, trivial, hps⟩ ?_ ?_)
  · rintro n m₁ news₁ h₁ tk₁ F1 N1 ⟨dn, td, its, k, t, ps1, rfl, hsp, hE, hi, rfl, hout, hps1⟩
    refine while_abs ?_
    intro QT1 hQT1
    as_aux_lemma =>
    clear F9 N8
    rw [hE.eq2 hi] at F1
    cases td with
    | nil =>
      rw [List.append_nil] at hsp
      subst hsp
      have hsep := NR'.sep N1 (.tail _ (.head _))
      walk_at "MYSTEPS"
      · refine hQF _ _ ?_
        walk_at "MYSTEPS"
        rename News h₀ L _ rest => NR2
        replace NR2 := Frz.mk NR2
        exact hret _ _ _ _ _ _ hout hps1 (by k_asm) (news_app (a := [_, _]) (ledger_drop (by assumption) (by walk_at "MYSUB")) NR2.n) hsep
      · rename @Ne Int _ _ => hx
        exact absurd rfl hx
    | cons t td =>
      have hat := fun {j c} => @pats_at ts dn td t hsp j c
      have hok := hts t (by rw [hsp]; simp)
      have hlt : (pats dn).length < (pats ts).length := by
        rw [hsp, pats_app, List.length_append]
        have := tkx_pos t
        simp [pats]; omega
      have hsn := pats_snoc dn t
      obtain ⟨c0, hc0⟩ : ∃ c0, c0 = tkc t := ⟨_, rfl⟩
      have h0 : ItemAt (pats ts) ((pats dn).length : Int) c0 := ⟨_, rfl, hat (j := 0) (hc0 ▸ tkc_at t)⟩
      walk_at "MYPRE"
      (try clear F1); (try clear N1)
      cases t with
      | st =>
        simp only [tkc] at hc0
        subst hc0
        rcases hst dn td hsp with rfl | ⟨d', t', rfl, ht'⟩
        · obtain rfl := outs_nil hout
          have hz0 : ([] : List Value).length ≤ 1048576 := Nat.zero_le _
          walk_at "MYSTEPS"
          rename Fr g' L' _ _ => F8
          rename News g' L' _ _ => N8
          rw [show (((pats ([] : List Tk)).length : Nat) : Int) + 1 = ((pats (([] : List Tk) ++ [Tk.st])).length : Nat) from by rw [hsn]; simp [tkx]] at F8
          refine hQT1 _ _ (WhileStep.intro F8 N8 (n' := td.length) (by simp) ⟨([] : List Tk) ++ [Tk.st], td, _, _, _, _, rfl, by rw [hsp]; simp, ?_, rfl, rfl, outs_snoc (v := .none) (t := Tk.st) rfl hout, hps1⟩)
          (repeat (refine EqOff.ite (by decide) ?_)); exact EqOff.ovr
        · obtain ⟨its', x, tx, rfl⟩ := outs_last ht' hout
          have hil : its'.length + 1 ≤ 1048576 := by
            have h1 := outs_len hout
            have h2 := pats_ge (d' ++ [t'])
            simp at h1 h2
            omega
          have hz0 : (its' ++ [Value.str x tx]).length ≤ 1048576 := by simpa using hil
          walk_at "MYSTEPS"
          rename Fr g' L' _ _ => F8
          rename News g' L' _ _ => N8
          rw [show (((pats (d' ++ [t'])).length : Nat) : Int) + 1 = ((pats ((d' ++ [t']) ++ [Tk.st])).length : Nat) from by rw [hsn]; simp [tkx]] at F8
          refine hQT1 _ _ (WhileStep.intro F8 N8 (n' := td.length) (by simp) ⟨(d' ++ [t']) ++ [Tk.st], td, _, _, _, _, rfl, by rw [hsp]; simp, ?_, rfl, rfl, outs_snoc (v := .none) (t := Tk.st) rfl hout, hps1⟩)
          (repeat (refine EqOff.ite (by decide) ?_)); exact EqOff.ovr
      | br l =>
        simp only [tkc] at hc0
        subst hc0
        obtain ⟨hl0, hl4, hl10⟩ := hok
        obtain ⟨x0, lt, hlx⟩ : ∃ x0 lt, l = x0 :: lt := by
          cases l with
          | nil => exact absurd rfl hl0
          | cons x lt => exact ⟨_, _, rfl⟩
        have h1 : ItemAt (pats ts) ((pats dn).length + 1 : Int) (x0 + 97) := ⟨_, by omega, hat (j := 1) (by rw [hlx]; rfl)⟩
        have hn2 : (pats dn).length + l.length + 2 ≤ (pats ts).length := by
          have e : (pats (dn ++ Tk.br l :: td)).length = (pats dn).length + (pats (Tk.br l :: td)).length := by rw [pats_app, List.length_append]
          rw [hsp, e]
          simp [pats, tkx]
          omega
        have hz0 : its.length ≤ 1048576 := by
          have h1 := outs_len hout
          have h2 := pats_ge dn
          omega
        have hls : ∀ jj, jj < l.length → ∃ x, ItemAt (pats ts) ((pats dn).length + 1 + (jj : Nat) : Int) (x + 97) := fun jj hj => by
          refine ⟨l[jj], (pats dn).length + (1 + jj), by omega, hat ?_⟩
          show (91 :: (up l ++ [93]))[1 + jj]? = _
          rw [Nat.add_comm 1 jj, List.getElem?_cons_succ, List.getElem?_append_left (by simpa using hj)]
          simp [hj]
        have hle : ItemAt (pats ts) ((pats dn).length + 1 + (l.length : Nat) : Int) 93 := by
          refine ⟨(pats dn).length + (1 + l.length), by omega, hat ?_⟩
          show (91 :: (up l ++ [93]))[1 + l.length]? = _
          rw [Nat.add_comm 1 l.length, List.getElem?_cons_succ, List.getElem?_append_right (by simp)]
          simp
        walk_at "MYSTEPS"
        rename Fr g' L' _ _ => F8
        rename News g' L' _ _ => N8
        try clear F1
        try clear N1
        k_dflt (refine While_inv (fun n m news => ∃ jj t, n = l.length - jj ∧ jj ≤ l.length ∧ EqOff [Str.ofString "j"] m _ ∧ m (Str.ofString "j") = some (.int (((pats dn).length : Int) + 1 + (jj : Nat)) t) ∧ news = [(QA, bndObj "builtin_function_or_method" "list.append" RA), (RA, listOf (List.toArray its) k), (57, tabObj ps1)]) (n₀ := l.length) F8 N8 ⟨0, _, rfl, Nat.zero_le _, EqOff.refl, (show _ = some (Value.int (((pats dn).length : Int) + 1) _) from rfl).trans (by simp; rfl), rfl⟩ ?_ ?_)
        · rintro n m₂ news₂ h₂ tk₂ F2 N2 ⟨jj, t2, rfl, hjj, hE2, hj2, rfl⟩
          refine while_abs ?_
          intro QT2 hQT2
          as_aux_lemma =>
          clear F8 N8
          rw [hE2.eq2 hj2] at F2
          rcases Nat.lt_or_eq_of_le hjj with hlt2 | rfl
          · obtain ⟨x, hx⟩ := hls jj hlt2
            walk_at "MYSTEPS"
            rename Fr g' L' _ _ => F8
            rename News g' L' _ _ => N8
            rw [show ((pats dn).length : Int) + 1 + (jj : Nat) + 1 = ((pats dn).length : Int) + 1 + ((jj + 1 : Nat)) from by omega] at F8
            refine hQT2 _ _ (WhileStep.intro F8 N8 (n' := l.length - (jj + 1)) (by omega) ⟨jj + 1, _, rfl, by omega, ?_, rfl, rfl⟩)
            (repeat (refine EqOff.ite (by decide) ?_)); exact EqOff.ovr
          · clear hls
            have hsl : Txt.slice (cw (pats ts)) (some ((pats dn).length + 1 : Int)) (some ((pats dn).length + 1 + (l.length : Nat) : Int)) = cw (up l) := seg_cw (P := pats dn ++ [91]) (X := up l) (R := 93 :: pats td) (by rw [hsp, pats_app]; simp [pats, tkx]) (by simp) (by simp)
            have hpl : Plain (up l) := plain_up hl4
            have hul : (up l).length ≤ 1048576 := by simp; omega
            have h00 : ItemAt (up l) 0 (x0 + 97) := ⟨0, rfl, by rw [hlx]; rfl⟩
            subst hlx
            walk_at "MYSTEPS"
            · rename List.any _ _ = true => ha
              rw [any_no] at ha
              cases ha
            rename Fr g' L' _ _ => F8
            rename News g' L' _ _ => N8
            rename TabPs _ => hps2
            rw [joinN] at N8
            rw [show ((pats dn).length : Int) + 1 + ((x0 :: lt).length : Nat) + 1 = ((pats (dn ++ [Tk.br (x0 :: lt)])).length : Nat) from by rw [hsn]; simp [tkx]; omega] at F8
            refine hQT1 _ _ (WhileStep.intro F8 (ledger_drop N8 (by walk_at "MYSUB")) (n' := td.length) (by simp) ⟨dn ++ [Tk.br (x0 :: lt)], td, _, _, _, _, rfl, by rw [hsp]; simp, ?_, rfl, rfl, outs_snoc (t := Tk.br (x0 :: lt)) ⟨_, rfl⟩ hout, hps2⟩)
            (repeat (refine EqOff.ite (by decide) ?_))
            refine EqOff.ovr2 (fun y hy => by simp at hy ⊢; exact hy.2.2.1) ?_
            (repeat (refine EqOff.ite (by decide) ?_)); exact EqOff.ovr
        · with_unfolding_all passes_own
      | q =>
        simp only [tkc] at hc0
        subst hc0
        have hz0 : its.length ≤ 1048576 := by
          have h1 := outs_len hout
          have h2 := pats_ge dn
          omega
        walk_at "MYSTEPS"
        rename Fr g' L' _ _ => F8
        rename News g' L' _ _ => N8
        rw [show (((pats dn).length : Nat) : Int) + 1 = ((pats (dn ++ [Tk.q])).length : Nat) from by rw [hsn]; simp [tkx]] at F8
        refine hQT1 _ _ (WhileStep.intro F8 N8 (n' := td.length) (by simp) ⟨dn ++ [Tk.q], td, _, _, _, _, rfl, by rw [hsp]; simp, ?_, rfl, rfl, outs_snoc (v := .str (tw fr) tq) (t := Tk.q) ⟨tq, rfl⟩ hout, hps1⟩)
        (repeat (refine EqOff.ite (by decide) ?_)); exact EqOff.ovr
      | nb l =>
        simp only [tkc] at hc0
        subst hc0
        obtain ⟨hl0, hl4, hl10⟩ := hok
        obtain ⟨x0, lt, hlx⟩ : ∃ x0 lt, l = x0 :: lt := by
          cases l with
          | nil => exact absurd rfl hl0
          | cons x lt => exact ⟨_, _, rfl⟩
        have h1 : ItemAt (pats ts) ((pats dn).length + 1 : Int) 33 := ⟨_, by omega, hat (j := 1) rfl⟩
        have h2 : ItemAt (pats ts) ((pats dn).length + 1 + 1 : Int) (x0 + 97) := ⟨_, by omega, hat (j := 2) (by rw [hlx]; rfl)⟩
        have hn2 : (pats dn).length + l.length + 3 ≤ (pats ts).length := by
          have e : (pats (dn ++ Tk.nb l :: td)).length = (pats dn).length + (pats (Tk.nb l :: td)).length := by rw [pats_app, List.length_append]
          rw [hsp, e]
          simp [pats, tkx]
          omega
        have hz0 : its.length ≤ 1048576 := by
          have h1 := outs_len hout
          have h2 := pats_ge dn
          omega
        have hls : ∀ jj, jj < l.length → ∃ x, ItemAt (pats ts) ((pats dn).length + 1 + 1 + (jj : Nat) : Int) (x + 97) := fun jj hj => by
          refine ⟨l[jj], (pats dn).length + (jj + 1 + 1), by omega, hat ?_⟩
          show (91 :: 33 :: (up l ++ [93]))[jj + 1 + 1]? = _
          rw [List.getElem?_cons_succ, List.getElem?_cons_succ, List.getElem?_append_left (by simpa using hj)]
          simp [hj]
        have hle : ItemAt (pats ts) ((pats dn).length + 1 + 1 + (l.length : Nat) : Int) 93 := by
          refine ⟨(pats dn).length + (l.length + 1 + 1), by omega, hat ?_⟩
          show (91 :: 33 :: (up l ++ [93]))[l.length + 1 + 1]? = _
          rw [List.getElem?_cons_succ, List.getElem?_cons_succ, List.getElem?_append_right (by simp)]
          simp
        walk_at "MYSTEPS"
        rename Fr g' L' _ _ => F8
        rename News g' L' _ _ => N8
        try clear F1
        try clear N1
        k_dflt (refine While_inv (fun n m news => ∃ jj t, n = l.length - jj ∧ jj ≤ l.length ∧ EqOff [Str.ofString "j"] m _ ∧ m (Str.ofString "j") = some (.int (((pats dn).length : Int) + 1 + 1 + (jj : Nat)) t) ∧ news = [(QA, bndObj "builtin_function_or_method" "list.append" RA), (RA, listOf (List.toArray its) k), (57, tabObj ps1)]) (n₀ := l.length) F8 N8 ⟨0, _, rfl, Nat.zero_le _, EqOff.refl, (show _ = some (Value.int (((pats dn).length : Int) + 1 + 1) _) from rfl).trans (by simp; rfl), rfl⟩ ?_ ?_)
        · rintro n m₂ news₂ h₂ tk₂ F2 N2 ⟨jj, t2, rfl, hjj, hE2, hj2, rfl⟩
          refine while_abs ?_
          intro QT3 hQT3
          as_aux_lemma =>
          clear F8 N8
          rw [hE2.eq2 hj2] at F2
          rcases Nat.lt_or_eq_of_le hjj with hlt2 | rfl
          · obtain ⟨x, hx⟩ := hls jj hlt2
            walk_at "MYSTEPS"
            rename Fr g' L' _ _ => F8
            rename News g' L' _ _ => N8
            rw [show ((pats dn).length : Int) + 1 + 1 + (jj : Nat) + 1 = ((pats dn).length : Int) + 1 + 1 + ((jj + 1 : Nat)) from by omega] at F8
            refine hQT3 _ _ (WhileStep.intro F8 N8 (n' := l.length - (jj + 1)) (by omega) ⟨jj + 1, _, rfl, by omega, ?_, rfl, rfl⟩)
            (repeat (refine EqOff.ite (by decide) ?_)); exact EqOff.ovr
          · clear hls
            have hsl : Txt.slice (cw (pats ts)) (some ((pats dn).length + 1 : Int)) (some ((pats dn).length + 1 + 1 + (l.length : Nat) : Int)) = cw (33 :: up l) := seg_cw (P := pats dn ++ [91]) (X := 33 :: up l) (R := 93 :: pats td) (by rw [hsp, pats_app]; simp [pats, tkx]) (by simp) (by simp; omega)
            have hpl : Plain (33 :: up l) := plain_nb hl4
            have hul : (33 :: up l).length ≤ 1048576 := by simp; omega
            have hul2 : (up l).length ≤ 100 := by simp; omega
            have h00 : ItemAt (33 :: up l) 0 33 := ⟨0, rfl, rfl⟩
            have hsl2 : Txt.slice (cw (33 :: up l)) (some 1) none = cw (up l) := slice_from (33 :: up l) (a := 1) (by simp)
            subst hlx
            walk_at "MYSTEPS"
            rename Fr g' L' _ _ => F8
            rename News g' L' _ _ => N8
            rename TabPs _ => hps2
            rw [joinN] at N8
            rw [show ((pats dn).length : Int) + 1 + 1 + ((x0 :: lt).length : Nat) + 1 = ((pats (dn ++ [Tk.nb (x0 :: lt)])).length : Nat) from by rw [hsn]; simp [tkx]; omega] at F8
            refine hQT1 _ _ (WhileStep.intro F8 (ledger_drop N8 (by walk_at "MYSUB")) (n' := td.length) (by simp) ⟨dn ++ [Tk.nb (x0 :: lt)], td, _, _, _, _, rfl, by rw [hsp]; simp, ?_, rfl, rfl, outs_snoc (t := Tk.nb (x0 :: lt)) ⟨_, rfl⟩ hout, hps2⟩)
            (repeat (refine EqOff.ite (by decide) ?_))
            refine EqOff.ovr2 (fun y hy => by simp at hy ⊢; exact hy.2.2.1) ?_
            (repeat (refine EqOff.ite (by decide) ?_)); exact EqOff.ovr
        · with_unfolding_all passes_own
      | ch c =>
        simp only [tkc] at hc0
        subst hc0
        have hok' : c < 4 := hok
        have hz0 : its.length ≤ 1048576 := by
          have h1 := outs_len hout
          have h2 := pats_ge dn
          omega
        walk_at "MYSTEPS"
        rename Fr g' L' _ _ => F8
        rename News g' L' _ _ => N8
        rw [show (((pats dn).length : Nat) : Int) + 1 = ((pats (dn ++ [Tk.ch c])).length : Nat) from by rw [hsn]; simp [tkx]] at F8
        refine hQT1 _ _ (WhileStep.intro F8 N8 (n' := td.length) (by simp) ⟨dn ++ [Tk.ch c], td, _, _, _, _, rfl, by rw [hsp]; simp, ?_, rfl, rfl, outs_snoc (t := Tk.ch c) ⟨_, rfl⟩ hout, hps1⟩)
        (repeat (refine EqOff.ite (by decide) ?_)); exact EqOff.ovr
  · with_unfolding_all passes_own
end
section
open PySem PySem.W PyProof.Rows PySem.Spec PySem.Calls
def tkp (fr : List Nat) : Tk → Part
  | .st => .tx []
  | .br l => .br l
  | .q => .tx fr
  | .nb l => .nb l
  | .ch c => .tx [c]
theorem out_part {fr : List Nat} {v : Value} {t : Tk} (h : OutIs fr v t) (ht : t ≠ .st) : ∃ u, v = .str (cw (ptx (tkp fr t))) u := by
  cases t with
  | st => exact absurd rfl ht
  | br l => exact h
  | q => exact h
  | nb l => exact h
  | ch c => exact h
theorem outs_parts {fr : List Nat} : ∀ {its : List Value} {ts : List Tk}, OutAre fr its ts → (∀ t ∈ ts, t ≠ .st) → PartsAre its (ts.map (tkp fr))
  | [], [], _, _ => ⟨rfl, fun j p h => by simp at h⟩
  | v :: vs, t :: ts, h, hn => by
    obtain ⟨h1, h2⟩ := outs_parts h.2 fun q hq => hn q (List.mem_cons_of_mem _ hq)
    obtain ⟨u, hu⟩ := out_part h.1 (hn t List.mem_cons_self)
    refine ⟨by simpa using h1, fun j p hp => ?_⟩
    cases j with
    | zero =>
      obtain rfl := Option.some.inj hp
      exact ⟨u, by rw [hu]; rfl⟩
    | succ j => exact h2 j p hp
  | [], _ :: _, h, _ => h.elim
  | _ :: _, [], h, _ => h.elim
theorem outs_app {fr : List Nat} : ∀ {its : List Value} {a b : List Tk}, OutAre fr its (a ++ b) → ∃ x y, its = x ++ y ∧ OutAre fr x a ∧ OutAre fr y b
  | its, [], b, h => ⟨[], its, rfl, trivial, h⟩
  | [], t :: a, b, h => h.elim
  | v :: vs, t :: a, b, h => by
    obtain ⟨x, y, rfl, h1, h2⟩ := outs_app h.2
    exact ⟨v :: x, y, rfl, ⟨h.1, h1⟩, h2⟩
theorem outs_mid {fr : List Nat} {its : List Value} {mid : List Tk} (h : OutAre fr its (.st :: (mid ++ [.st]))) (hm : ∀ t ∈ mid, t ≠ .st) : ∃ v x w, its = v :: (x ++ [w]) ∧ PartsAre x (mid.map (tkp fr)) := by
  cases its with
  | nil => exact h.elim
  | cons v vs =>
    obtain ⟨x, y, rfl, h1, h2⟩ := outs_app h.2
    match y, h2 with
    | [w], _ => exact ⟨v, x, w, rfl, outs_parts h1 hm⟩
    | [], h2 => exact h2.elim
    | _ :: _ :: _, h2 => exact h2.2.elim
def tksOf (G : Nat → List Nat) (a gap : Nat) : List Tk := .br (grt G a) :: (List.replicate (gap - gap / 2) .q ++ List.replicate (gap / 2) (.nb (a :: G a)) ++ [.ch a])
theorem tks_parts (G : Nat → List Nat) (a gap : Nat) : (tksOf G a gap).map (tkp (frs G a)) = runOf G a gap := by
  simp [tksOf, runOf, mid, tkp]
theorem tks_st (G : Nat → List Nat) (a gap : Nat) : ∀ t ∈ tksOf G a gap, t ≠ .st := by
  intro t ht
  unfold tksOf at ht
  simp only [List.mem_cons, List.mem_append, List.mem_replicate, List.not_mem_nil, or_false] at ht
  rcases ht with rfl | (⟨_, rfl⟩ | ⟨_, rfl⟩) | rfl <;> exact fun h => nomatch h
theorem tks_ok {G : Nat → List Nat} (hG : Gr G) {a : Nat} (ha : a < 4) (hg : grt G a ≠ []) (gap : Nat) : ∀ t ∈ .st :: (tksOf G a gap ++ [.st]), TkOk t := by
  intro t ht
  have hgl : (grt G a).length ≤ 10 := by
    unfold grt frs
    exact Nat.le_trans (List.length_filter_le _ _) (Nat.le_trans (List.length_filter_le _ _) (by decide))
  have hal := hG.ln a ha
  unfold tksOf at ht
  simp only [List.mem_cons, List.mem_append, List.mem_replicate, List.not_mem_nil, or_false] at ht
  rcases ht with rfl | (rfl | (⟨_, rfl⟩ | ⟨_, rfl⟩) | rfl) | rfl
  · trivial
  · exact ⟨hg, fun x hx => (mem_grt.mp hx).1, hgl⟩
  · trivial
  · refine ⟨by simp, fun x hx => ?_, by simp; omega⟩
    rcases List.mem_cons.mp hx with rfl | hx
    · exact ha
    · exact hG.lt a ha x hx
  · exact ha
  · trivial
theorem st_apart {mid dn td : List Tk} (hm : ∀ t ∈ mid, t ≠ .st) (hne : mid ≠ []) (h : .st :: (mid ++ [.st]) = dn ++ .st :: td) : dn = [] ∨ ∃ d' t', dn = d' ++ [t'] ∧ t' ≠ .st := by
  rcases List.eq_nil_or_concat dn with rfl | ⟨d', t', rfl⟩
  · exact .inl rfl
  · refine .inr ⟨d', t', by simp, fun e => ?_⟩
    subst e
    cases d' with
    | nil =>
      simp at h
      cases mid with
      | nil => exact hne rfl
      | cons x m =>
        obtain ⟨rfl, _⟩ := List.cons.inj h
        exact hm _ List.mem_cons_self rfl
    | cons z d =>
      simp at h
      obtain ⟨_, h⟩ := h
      have hl := congrArg List.length h
      simp at hl
      have h1 : (mid ++ [Tk.st])[d.length]? = some .st := by rw [h]; simp
      rw [List.getElem?_append_left (by omega)] at h1
      exact hm _ (List.mem_of_getElem? h1) rfl
theorem pick_mid {v w : Value} {x : List Value} : (slicePick (List.toArray (v :: (x ++ [w]))) (some 1) (some (-1)) none).toList = x := by
  rw [slicePick_plain]
  have h1 : clipAt (List.toArray (v :: (x ++ [w]))).size 1 = 1 := (clipAt_nat _ 1).trans (by simp)
  have h2 : clipAt (List.toArray (v :: (x ++ [w]))).size (-1) = x.length + 1 := (clipAt_neg _ 1 (Nat.le_refl _)).trans (by simp)
  simp only [Option.elim, h1, h2]
  simp
theorem runs_snoc {rl : List (Addr × Obj)} {refs : List Value} {rs : List (List Part)} {r : List Part} {a : Addr} {its : List Value} {k : Nat} (h : RunsIn rl refs rs) (hp : PartsAre its r) : RunsIn ((a, listOf its.toArray k) :: rl) (refs ++ [.ref a]) (rs ++ [r]) := by
  refine ⟨by simp [h.len], fun i q hq => ?_⟩
  rcases Nat.lt_or_ge i rs.length with hi | hi
  · rw [List.getElem?_append_left hi] at hq
    obtain ⟨a', its', k', h1, h2, h3⟩ := h.at_ i q hq
    exact ⟨a', its', k', by rw [List.getElem?_append_left (by rw [h.len]; exact hi)]; exact h1, .tail _ h2, h3⟩
  · rw [List.getElem?_append_right hi] at hq
    have : i - rs.length = 0 := by
      have := (List.getElem?_eq_some_iff.mp hq).1
      simp at this
      exact this
    rw [this] at hq
    obtain rfl := Option.some.inj hq
    have hi' : i = refs.length := by rw [h.len]; omega
    subst hi'
    exact ⟨a, its, k, by simp, .head _, hp⟩
/-- the text of a run's pattern -/
theorem pat_text (G : Nat → List Nat) (a gap : Nat) : pats (.st :: (tksOf G a gap ++ [.st])) = [42, 91] ++ up (grt G a) ++ [93] ++ (List.replicate (gap - gap / 2) 63 ++ (List.replicate (gap / 2) (91 :: 33 :: (up (a :: G a) ++ [93]))).flatten) ++ [a + 97] ++ [42] := by
  have e1 : ∀ n, (List.replicate n Tk.q).flatMap tkx = List.replicate n 63 := by
    intro n
    induction n with
    | zero => rfl
    | succ n ih => rw [List.replicate_succ, List.flatMap_cons, ih]; rfl
  have e2 : ∀ n, (List.replicate n (Tk.nb (a :: G a))).flatMap tkx = (List.replicate n (91 :: 33 :: (up (a :: G a) ++ [93]))).flatten := by
    intro n
    induction n with
    | zero => rfl
    | succ n ih => rw [List.replicate_succ, List.flatMap_cons, ih, List.replicate_succ, List.flatten_cons]; rfl
  simp only [pats, tksOf, List.flatMap_cons, List.flatMap_append, e1, e2, List.flatMap_nil]
  simp [tkx]
end
section
open PySem PySem.W PyProof.Rows PySem.Spec PySem.Calls
theorem fold_rep (l : List Nat) : ∀ (k : Nat) (acc : Array Nat), (List.replicate k l.toArray).foldl (· ++ ·) acc = acc ++ ((List.replicate k l).flatten).toArray
  | 0, acc => by simp
  | k + 1, acc => by
    rw [List.replicate_succ, List.foldl_cons, fold_rep l k, List.replicate_succ, List.flatten_cons]
    apply Array.toList_inj.mp
    simp
theorem mul_cw (l : List Nat) (k : Nat) : Txt.mul (cw l) (k : Int) = cw (List.replicate k l).flatten := by
  unfold Txt.mul
  split
  · have : k = 0 := by omega
    subst this
    rfl
  · split
    · rename_i h1 h2
      simp only [Bool.or_eq_true, beq_iff_eq] at h2
      rcases h2 with h2 | h2
      · have : k = 1 := by omega
        subst this
        simp
      · rw [cw_len] at h2
        have : l = [] := List.eq_nil_of_length_eq_zero h2
        subst this
        simp
    · show (⟨(List.replicate (k : Int).toNat l.toArray).foldl (· ++ ·) #[]⟩ : Str) = _
      rw [Int.toNat_natCast, fold_rep]
      simp [cw]
theorem strs_vals : ∀ {ys : List Value} {H : List Nat}, Strs ys H → ∃ l : List (Str × Tok), ys = strValues l ∧ l.map (·.1) = H.map fun x => tw [x]
  | [], [], _ => ⟨[], rfl, rfl⟩
  | v :: vs, x :: xs, ⟨⟨t, e⟩, r⟩ => by
    obtain ⟨l, h1, h2⟩ := strs_vals r
    exact ⟨(tw [x], t) :: l, by rw [e, h1]; rfl, by simp [h2]⟩
  | [], _ :: _, h => h.elim
  | _ :: _, [], h => h.elim
theorem join_tw {H : List Nat} (hl : H.length ≤ 6) : Txt.join Str.empty (H.map fun x => tw [x]) = tw H ∧ JoinOk Str.empty (H.map fun x => tw [x]) = true := by
  match H, hl with
  | [], _ => exact ⟨by decide, by decide⟩
  | [a], _ => exact ⟨by simp [Txt.join, Builtin.Str.glued, tw], by simp [JoinOk, Builtin.Str.tooLong, sizeLine_eq, tw, Str.length, Str.empty]⟩
  | [a, b], _ => exact ⟨by simp [Txt.join, Builtin.Str.glued, tw, Str.empty], by simp [JoinOk, Builtin.Str.tooLong, sizeLine_eq, tw, Str.length, Str.empty]⟩
  | [a, b, c], _ => exact ⟨by simp [Txt.join, Builtin.Str.glued, tw, Str.empty], by simp [JoinOk, Builtin.Str.tooLong, sizeLine_eq, tw, Str.length, Str.empty]⟩
  | [a, b, c, d], _ => exact ⟨by simp [Txt.join, Builtin.Str.glued, tw, Str.empty], by simp [JoinOk, Builtin.Str.tooLong, sizeLine_eq, tw, Str.length, Str.empty]⟩
  | [a, b, c, d, e], _ => exact ⟨by simp [Txt.join, Builtin.Str.glued, tw, Str.empty], by simp [JoinOk, Builtin.Str.tooLong, sizeLine_eq, tw, Str.length, Str.empty]⟩
  | [a, b, c, d, e, f], _ => exact ⟨by simp [Txt.join, Builtin.Str.glued, tw, Str.empty], by simp [JoinOk, Builtin.Str.tooLong, sizeLine_eq, tw, Str.length, Str.empty]⟩
  | _ :: _ :: _ :: _ :: _ :: _ :: _ :: _, hl => simp at hl
section
variable {prog : Program} {w : World} {A : Around} {E : Value → Shared → Prop} {s : Shared} {t u : Tok} {Q : Value → Shared → Prop} {h₀ : Heap} {L D : Addr} {news : List (Addr × Obj)}
theorem join_letters {ys : List Value} {H : List Nat} {k : Nat} {x : Str} (hI : Strs ys H) (hl : H.length ≤ 6) (N : News h₀ L s.heap news) (hm : (D, listOf ys.toArray k) ∈ news) (hx : x = Str.empty) (hq : ∀ t' k, Q (.str (tw H) t') { s with toks := k }) :
    wpAny (model prog w) A (call (.builtin "str.join") [.str x t, .ref D]) Q E s := by
  subst hx
  obtain ⟨l, rfl, h2⟩ := strs_vals hI
  obtain ⟨h3, h4⟩ := join_tw hl
  refine SC.join (texts := H.map fun x => tw [x]) (News.isList N hm) h2 h4 fun t' k => ?_
  rw [h3]
  exact hq _ _
theorem cw_mul {l : List Nat} {k : Nat} {i : Int} {y : Str} (hy : y = cw l) (hi : i = (k : Int)) (hk : k ≤ 100) (hl : l.length ≤ 1000) (h : ∀ t' k', Q (.str (cw (List.replicate k l).flatten) t') { s with toks := k' }) : wpAny (model prog w) A (binaryOp .Mult (.str y t) (.int i u)) Q E s := by
  subst hy hi
  refine SB.mul (mulOk_of 1000 1000 (by rw [cw_len]; exact hl) (by omega) (by omega) (by decide) (by decide)) fun t' k' => ?_
  rw [mul_cw]
  exact h _ _
end
end
section
open PySem PySem.W PyProof.Rows PySem.Spec PySem.Calls
open Builtin
section
variable {prog : Program} {w : World} {A : Around} {E : Value → Shared → Prop} {s : Shared} {t u : Tok} {Q : Value → Shared → Prop}
theorem tw1_ne {a b : Nat} {c : Bool} (hb : (a != b) = c) (h : Q (.bool c) s) : wpAny (model prog w) A (compareOp .NotEq (.str (tw [a]) t) (.str (tw [b]) u)) Q E s := by
  refine twl_ne ?_
  have : ([a] != [b]) = (a != b) := by
    rw [Bool.eq_iff_iff]
    simp
  rw [this, hb]
  exact h
theorem tw1_notIn {a : Nat} {l : List Nat} {c : Bool} (hb : l.contains a = c) (h : Q (.bool (!c)) s) : wpAny (model prog w) A (compareOp .NotIn (.str (tw [a]) t) (.str (tw l) u)) Q E s :=
  cw_notIn (l := up l) (c := a + 97) rfl ((up_in a l).trans hb) h
theorem tw1_gt {a b : Nat} {c : Bool} (hb : decide (b < a) = c) (h : Q (.bool c) s) : wpAny (model prog w) A (compareOp .Gt (.str (tw [a]) t) (.str (tw [b]) u)) Q E s := by
  refine P.gt_str ?_
  have : decide ((tw [b]).cps.toList < (tw [a]).cps.toList) = decide (b < a) := by
    simp [tw, List.cons_lt_cons_iff]
  rw [this, hb]
  exact h
end
/-- the barred bracket's text -/
def barOf (G : Nat → List Nat) (a : Nat) : List Nat := 91 :: 33 :: (up (a :: G a) ++ [93])
def repOf (k : Nat) (l : List Nat) : List Nat := (List.replicate k l).flatten
theorem repOf_len : ∀ (k : Nat) (l : List Nat), l.length ≤ 10 → (repOf k l).length ≤ 10 * k
  | 0, l, _ => by simp [repOf]
  | k + 1, l, h => by
    have := repOf_len k l h
    unfold repOf at this ⊢
    rw [List.replicate_succ, List.flatten_cons, List.length_append]
    omega
theorem pat_eq (G : Nat → List Nat) (a gap : Nat) : 42 :: 91 :: (up (grt G a) ++ [93] ++ (repOf (gap - gap / 2) [63] ++ repOf (gap / 2) (barOf G a)) ++ up [a] ++ [42]) = pats (.st :: (tksOf G a gap ++ [.st])) := by
  show [42, 91] ++ up (grt G a) ++ [93] ++ (repOf (gap - gap / 2) [63] ++ repOf (gap / 2) (barOf G a)) ++ up [a] ++ [42] = _
  rw [pat_text]
  have e1 : ∀ n, repOf n [63] = List.replicate n 63 := by
    intro n
    unfold repOf
    induction n with
    | zero => rfl
    | succ n ih => rw [List.replicate_succ, List.flatten_cons, ih]; rfl
  rw [e1]
  rfl
section
variable {prog : Program} {w : World} {A : Around} {E : Value → Shared → Prop} {s : Shared} {t u : Tok} {Q : Value → Shared → Prop} {h₀ : Heap} {L : Addr} {m : Str → Option Value} {news : List (Addr × Obj)}
theorem tw_neE {l : List Nat} {c : Bool} (hb : (l != []) = c) (h : Q (.bool c) s) : wpAny (model prog w) A (compareOp .NotEq (.str (tw l) t) (.str (Str.ofString "") u)) Q E s := by
  rw [← tw_nil]
  refine twl_ne ?_
  rw [hb]
  exact h
theorem cw_mulR {l : List Nat} {k : Nat} {i : Int} {y : Str} (hy : y = cw l) (hi : i = (k : Int)) (hk : k ≤ 100) (hl : l.length ≤ 10) (h : ∀ t' k', Q (.str (cw (repOf k l)) t') { s with toks := k' }) : wpAny (model prog w) A (binaryOp .Mult (.str y t) (.int i u)) Q E s :=
  cw_mul hy hi hk (by omega) h
theorem merge {M : Model} {tree : Sem Value} {P : Value → Prop} (F : Fr h₀ L s.heap m) (N : News h₀ L s.heap news) (h1 : wpAny M A tree (fun v s' => P v ∧ ∃ h tk, s' = { s with heap := h, toks := tk } ∧ Fr h₀ L h m ∧ News h₀ L h news) E s)
    (h2 : ∀ v h tk, P v → Fr h₀ L h m → News h₀ L h news → Q v { s with heap := h, toks := tk }) : wpAny M A tree Q E s := by
  refine wpAny_mono h1 (fun v s' hv => ?_) fun _ _ e => e
  obtain ⟨hp, h, tk, rfl, F', N'⟩ := hv
  exact h2 v h tk hp F' N'
end
theorem append_mem {prog : Program} {w : World} {A : Around} {E : Value → Shared → Prop} {s : Shared} {h₀ : Heap} {L D : Addr} {m : Str → Option Value} {news news' : List (Addr × Obj)} {vs : List Value} {v : Value} {k : Nat} {Q : Value → Shared → Prop} (F : Fr h₀ L s.heap m) (N : News h₀ L s.heap news)
    (U : Upd D (listOf (List.toArray vs) k) (listOf (List.toArray (vs ++ [v])) (k + 1)) news news') (hz : vs.length ≤ 1000) (h : ∀ h', Fr h₀ L h' m → News h₀ L h' news' → Q .none { s with heap := h' }) :
    wpAny (model prog w) A (call (.builtin "list.append") [.ref D, v]) Q E s := by
  refine append_K F N (its := List.toArray vs) (n := k) (x := v) (news' := news') ?_ h ?_
  · rw [List.push_toArray]; exact U
  · rw [sizeLine_eq]; simp; omega
theorem head_name {h₀ h : Heap} {L D : Addr} {o : Obj} {news : List (Addr × Obj)} (_N : News h₀ L h ((D, o) :: news)) : ∃ S, S = D := ⟨D, rfl⟩
theorem callT_use {w : World} {f : Addr} {d u : Nat} {news : List (Addr × Obj)} {vs : List Value} {Ret : Nat → Heap → Addr → (Str → Option Value) → Shared → (Value → Shared → Prop) → Prop} (C : CallT w f d u news vs Ret)
    {mean : ExcName → Option Value} {mg mb : Str → Option Value} {dp un : Nat} {gd : Option (List Code)} {cn : Str} {cs : Scope} {a : Addr} {ccd : Value} {cl : List (Str × Addr)} {outer : List Env} {A₀ : Around} {base h₀ : Heap} {L : Addr} {m : Str → Option Value} {s : Shared} {Q E : Value → Shared → Prop}
    (B : Below A₀ base outer h₀) (F : Fr h₀ L s.heap m) (X : (hd.heap_39 w.params).In h₀) (N : News h₀ L s.heap news) (T : Top VW LS mean mg mb h₀) (H : CodeHd h₀ 61 57) (hk : cs.kind = .function) (hd : dp + d < recursionLimit) (hu : un + u < cLine)
    (R : Ret 0 h₀ L m s Q) : wpAny (model PySem.Challenge.rw_rx0045_01.row.prog w) (ktrTop dp un gd cn cs L a ccd cl outer) (call (.ref f) vs) Q E s := C _ _ _ _ _ _ _ _ _ _ _ _ _ _ _ _ _ _ _ _ B F X N T H hk hd hu R
theorem runs_len {G : Nat → List Nat} {n i a i3 : Nat} (hn : n ≤ 6) (hi : i ≤ 3) (h3 : i3 ≤ 5) : ((([0, 1, 2].take i).flatMap fun a => (List.range (gapsOf G a n)).map (runOf G a)) ++ (List.range i3).map (runOf G a)).length ≤ 1000 := by
  have hg : ∀ a, gapsOf G a n ≤ 5 := fun a => by unfold gapsOf; split <;> omega
  have h0 := hg 0
  have h1 := hg 1
  have h2 := hg 2
  have : i = 0 ∨ i = 1 ∨ i = 2 ∨ i = 3 := by omega
  rcases this with rfl | rfl | rfl | rfl <;> simp <;> omega
theorem runs_start {h₀ h : Heap} {L l c1 c2 FD : Addr} {rs : List (Addr × Obj)} (N : News h₀ L h ((l, listOf #[] 0) :: rs)) (lt : @LT.lt Nat _ c1 l ∧ @LT.lt Nat _ c2 l ∧ @LT.lt Nat _ FD l ∧ @LT.lt Nat _ 57 l) :
    ∃ RA, RA = l ∧ @LT.lt Nat _ c1 l ∧ @LT.lt Nat _ c2 l ∧ @LT.lt Nat _ FD l ∧ @LT.lt Nat _ 57 l ∧ News h₀ L h ((RA, listOf (List.toArray []) 0) :: rs) := ⟨l, rfl, lt.1, lt.2.1, lt.2.2.1, lt.2.2.2, N⟩
abbrev OFFR : List Str := [Str.ofString "friends", Str.ofString "greater", Str.ofString "barred", Str.ofString "gap", Str.ofString "between", Str.ofString "parts"]
def Sp (RA CL : Nat) (rl : List (Addr × Obj)) : Prop := ∀ p ∈ rl, p.1 ≠ RA ∧ p.1 ≠ CL ∧ p.1 ≠ 57
section
variable {prog : Program} {w : World} {A : Around} {E : Value → Shared → Prop} {s : Shared} {env : Env} {h₀ : Heap} {x : Str} {px : Pos} {body : List Stmt} {Q : Flow → Shared → Prop}
theorem iter_tw_X {l : List Nat} {tx : Tok} {m₀ : Str → Option Value} {news : List (Addr × Obj)} (J : Nat → (Str → Option Value) → List (Addr × Obj) → Prop)
    (hh : A.handled = none) (F : Fr h₀ env.locals s.heap m₀) (N : News h₀ env.locals s.heap news) (hj : J 0 m₀ news)
    (turn : ∀ i c t m₁ news₁ h tk I o, l[i]? = some c → J i m₁ news₁ → (∀ p ∈ news₁, p.1 ≠ I) → Fr h₀ env.locals h m₁ → News h₀ env.locals h ((I, o) :: news₁) →
      wpAny (model prog w) A (assign (.Name x px) env (.str (tw [c]) t)) (fun _ s₃ => wpAny (model prog w) A (execs body env) (TurnEnd h₀ env.locals I o (J (i + 1)) { s with heap := h, toks := tk } Q) E s₃) E { s with heap := h, toks := tk })
    (done : ∀ m₁ news₁ h tk, J l.length m₁ news₁ → Fr h₀ env.locals h m₁ → News h₀ env.locals h news₁ → Q .next { s with heap := h, toks := tk })
    (hE : PassesOwn (model prog w) A env E) :
    wpAny (model prog w) A (pyIter (.str (tw l) tx)) (fun it s₂ => LoopAtX prog w A env x px body Q E it s₂) E s := by
  refine iter_str_X (xt := tw l) J hh F N hj ?_ (by simpa [tw] using done) hE
  intro i c t m₁ news₁ h tk I o hc
  have : ∃ d, l[i]? = some d ∧ c = d + 97 := by
    simp only [tw, List.getElem?_toArray, List.getElem?_map] at hc
    cases e : l[i]? with
    | none => rw [e] at hc; cases hc
    | some d => rw [e] at hc; exact ⟨d, rfl, (Option.some.inj hc).symm⟩
  obtain ⟨d, hd, rfl⟩ := this
  exact turn i d t m₁ news₁ h tk I o hd
end
theorem s_runs (w : World) (FD : Addr) (fo : Obj) (G : Nat → List Nat) (hG : Gr G) (tf : Nat → Tok) (hfo : fo.IsDictOf (PySem.strKind PRG w) (fkv G tf)) (n : Nat) (hn : n ≤ 6) (hn1 : 1 ≤ n) (t0 : Tok) (ps : Array Value) (hps : TabPs ps) (rest : List (Addr × Obj)) (h57 : ∀ p ∈ rest, p.1 ≠ 57) (hFD : ∀ p ∈ rest, p.1 ≠ FD) (hF57 : (FD : Nat) ≠ 57) :
   CallT w 205 240 2400 ((FD, fo) :: (57, tabObj ps) :: rest) [.ref FD, .int (n : Nat) t0]
    (fun _ h₀ L m s Q => ∀ RA refs k rl ps' tk h', RunsIn rl refs (runsOf G n) → TabPs ps' → Fr h₀ L h' m → News h₀ L h' ((RA, listOf refs.toArray k) :: (FD, fo) :: (57, tabObj ps') :: (rl ++ rest)) → Q (.ref RA) { s with heap := h', toks := tk }) := by
  k_with_none
  k_with "ktr_room" => first | exact om2 (by assumption) rfl | exact om1 (by assumption) rfl | exact om0 (by assumption) | exact om3 rfl
  k_with "k_all" => first | assumption | exact ne_of_allLt (by assumption) | exact ne_of_allLt (And.right (by assumption)) | exact ne_of_allLt (And.right (And.right (by assumption))) | exact ne_of_allLt (And.right (And.right (And.right (by assumption)))) | exact ne_of_allLt (And.right (And.right (And.right (And.right (by assumption))))) | exact ne_of_allLt (And.right (And.right (And.right (And.right (And.right (by assumption))))))
  k_with "k_inst" => (apply inst_acc; k_asm; k_mem; k_mem)
  k_with "k_room" => ktr_room
  k_with "k_mem" => first | assumption | exact List.Mem.head _ | (apply List.Mem.tail; k_mem)
  k_with "k_memK" => k_mem
  k_with "MYSUB" => first | exact List.forall_mem_nil _ | (refine List.forall_mem_cons.mpr ⟨by k_memK, ?_⟩; walk_at "MYSUB") | (intro _ hp; repeat (first | exact hp | refine List.mem_cons_of_mem _ ?_))
  k_with "MYHP" => ( (repeat (first | rw [if_pos (by rw [← tw_lt]; assumption)] | rw [if_neg (by rw [← tw_lt]; assumption)])); (first | assumption | (repeat (first | exact trivial | refine ⟨⟨_, rfl⟩, ?_⟩))))
  k_with "compareOp NotEq str str" => (k_here; (with_reducible show wpAny _ _ (compareOp CmpOp.NotEq (Value.str (tw (_ :: _)) _) (Value.str (Str.ofString "") _)) _ _ _); k_dflt (refine twl_ne1 ?_))
  k_with "call builtin:len" => (k_here; (with_reducible show wpAny _ _ (call (Value.builtin "len") [Value.str (tw _) _]) _ _ _); k_dflt (refine twl_len (by first | (simp only [List.length_append, List.length_cons, List.length_nil]; omega) | omega) ?_; intro _ _))
  k_with "subscriptTail" => (k_here; (with_reducible show wpAny _ _ (subscriptTail _ _ (Value.str (tw _) _) (Value.int _ _)) _ _ _); k_dflt (refine twl_item (by assumption) (by omega) (by omega) ?_; intro _ _))
  k_with "subscriptTail Name Name str int" => (k_here; (with_reducible show wpAny _ _ (subscriptTail _ _ (Value.str (tw _) _) (Value.int _ _)) _ _ _); k_dflt (refine twl_item (by assumption) (by omega) (by omega) ?_; intro _ _))
  k_with "subscriptTail Name BinOp str int" => (k_here; (with_reducible show wpAny _ _ (subscriptTail _ _ (Value.str (tw _) _) (Value.int _ _)) _ _ _); k_dflt (refine twl_item (by assumption) (by omega) (by omega) ?_; intro _ _))
  k_with "subscriptTail Name Constant str int" => (k_here; (with_reducible show wpAny _ _ (subscriptTail _ _ (Value.str (tw _) _) (Value.int _ _)) _ _ _); k_dflt (refine twl_item (by assumption) (by omega) (by omega) ?_; intro _ _))
  k_with "binaryOp Add str str" => (k_here; (with_reducible show wpAny _ _ (binaryOp Operator.Add (Value.str (tw _) _) (Value.str (tw _) _)) _ _ _); k_dflt (refine twl_add (by first | (simp only [List.length_append, List.length_cons, List.length_nil]; omega) | omega) ?_; intro _ _))
  k_with "inplaceOp Add str str" => (k_here; (with_reducible show wpAny _ _ (inplaceOp Operator.Add (Value.str (tw _) _) (Value.str (tw _) _)) _ _ _); k_dflt (refine twl_iadd (by first | (simp only [List.length_append, List.length_cons, List.length_nil]; omega) | omega) ?_; intro _ _))
  k_with "inplaceOp Add" => (k_here; (with_reducible show wpAny _ _ (inplaceOp Operator.Add (Value.str (tw _) _) (Value.str (tw _) _)) _ _ _); k_dflt (refine twl_iadd (by first | (simp only [List.length_append, List.length_cons, List.length_nil]; omega) | omega) ?_; intro _ _))
  k_with "MYIF" => repeat' ((fail_if_success (with_reducible show (_ ∧ _))); first | (k_unfold; (try dsimp only)) | walk1 | (dsimp only; walk1))
  k_with "MYSTEPS" => repeat' ((fail_if_success (with_reducible show wpAny _ _ (pyIter _) _ _ _)); (fail_if_success (with_reducible show wpAny _ _ (eval (PySem.Expr.ListComp _ _ _ _) _) _ _ _)); (fail_if_success (with_reducible show wpAny _ _ (eval (PySem.Expr.IfExp _ _ _ _) _) _ _ _)); (fail_if_success (with_reducible show wpAny _ _ (call (Value.ref 62) _) _ _ _)); first | (k_unfold; (try dsimp only)) | (k_end; wrow_close) | walk1 | (dsimp only; walk1) | (leave1; try dsimp only))
  k_with "subscriptTail" => (k_here; (with_reducible show wpAny _ _ (subscriptTail _ _ (Value.ref _) (Value.str (tw [_]) _)) _ _ _); k_dflt (first | (refine kda_item (knd := PySem.strKind _ _) (kvs := skv _) (by k_asm) (by k_mem) (by assumption) (strKind_is _ _ _ _) (skv_at (by assumption)) ?_) | (refine kda_item (knd := PySem.strKind _ _) (kvs := fkv _ _) (by k_asm) (by k_mem) (by assumption) (strKind_is _ _ _ _) (fkv_at (by assumption)) ?_)))
  k_with "subscriptTail Name Name ref str" => (k_here; (with_reducible show wpAny _ _ (subscriptTail _ _ (Value.ref _) (Value.str (tw [_]) _)) _ _ _); k_dflt (first | (refine kda_item (knd := PySem.strKind _ _) (kvs := skv _) (by k_asm) (by k_mem) (by assumption) (strKind_is _ _ _ _) (skv_at (by assumption)) ?_) | (refine kda_item (knd := PySem.strKind _ _) (kvs := fkv _ _) (by k_asm) (by k_mem) (by assumption) (strKind_is _ _ _ _) (fkv_at (by assumption)) ?_)))
  k_with "subscriptTail Name Subscript ref str" => (k_here; (with_reducible show wpAny _ _ (subscriptTail _ _ (Value.ref _) (Value.str (tw [_]) _)) _ _ _); k_dflt (first | (refine kda_item (knd := PySem.strKind _ _) (kvs := skv _) (by k_asm) (by k_mem) (by assumption) (strKind_is _ _ _ _) (skv_at (by assumption)) ?_) | (refine kda_item (knd := PySem.strKind _ _) (kvs := fkv _ _) (by k_asm) (by k_mem) (by assumption) (strKind_is _ _ _ _) (fkv_at (by assumption)) ?_)))
  k_with "exec For" => (k_here; (with_reducible show wpAny _ _ (exec (Stmt.For _ _ _ [] _) _) _ _ _); (rename Fr _ _ _ _ => lF'); (with_unfolding_all refine For_X lF' ?_ (by exact fun _ => rfl); k_whole))
  k_with "exec For Name Name cons nil" => k_extra "exec For"
  k_with "exec For Name Call cons nil" => k_extra "exec For"
  k_with "exec For Name Constant cons nil" => k_extra "exec For"
  k_with "exec For Name BinOp cons nil" => k_extra "exec For"
  k_with "compareOp NotEq str str" => (k_here; (with_reducible show wpAny _ _ (compareOp CmpOp.NotEq (Value.str (tw [_]) _) (Value.str (tw [_]) _)) _ _ _); k_dflt (refine tw1_ne (by assumption) ?_))
  k_with "compareOp NotIn str str" => (k_here; (with_reducible show wpAny _ _ (compareOp CmpOp.NotIn (Value.str (tw [_]) _) (Value.str (tw _) _)) _ _ _); k_dflt (refine tw1_notIn (by assumption) ?_))
  k_with "compareOp Gt str str" => (k_here; (with_reducible show wpAny _ _ (compareOp CmpOp.Gt (Value.str (tw [_]) _) (Value.str (tw [_]) _)) _ _ _); k_dflt (refine tw1_gt (by assumption) ?_))
  k_with "compareOp NotEq str str" => (k_here; (with_reducible show wpAny _ _ (compareOp CmpOp.NotEq (Value.str (tw _) _) (Value.str (Str.ofString "") _)) _ _ _); k_dflt (refine tw_neE (by assumption) ?_))
  k_with "binaryOp Mult str int" => (k_here; k_dflt (first | (refine cw_mulR (l := [63]) rfl (by assumption) (by omega) (by decide) ?_) | (refine cw_mulR rfl (by assumption) (by omega) (by assumption) ?_)); intro _ _)
  k_with "subscriptTail Name Slice ref ref" => (k_here; (with_reducible show wpAny _ _ (subscriptTail _ (PySem.Expr.Slice _ _ none _) (Value.ref _) (Value.ref _)) _ _ _); k_dflt (refine kmk_slice_lit (by k_asm) (by k_asm) (by exact News.isList (by k_asm) (by k_mem)) (by kmk_part) (by kmk_part) pick_mid ?_ (by with_unfolding_all rfl) (by (intro _; with_unfolding_all rfl)) (by assumption)); intro _ _ _ _ l1; (try k_lt l1))
  k_with "call builtin:str.join" => (k_here; k_dflt (refine join_letters (by assumption) (by assumption) (by k_asm) (by k_mem) rfl ?_; intro _ _))
  k_with "MYHB" => (try simp only [List.length_append, List.length_cons, List.length_nil, List.length_map]); omega
  k_with "binaryOp Add str str" => (k_here; k_dflt (first | refine cw_add (a := [91, 33]) rfl rfl (by walk_at "MYHB") ?_ | refine cw_add (a := [42, 91]) rfl rfl (by walk_at "MYHB") ?_ | refine cw_add (b := [93]) rfl rfl (by walk_at "MYHB") ?_ | refine cw_add (b := [42]) rfl rfl (by walk_at "MYHB") ?_ | refine cw_add rfl rfl (by walk_at "MYHB") ?_); intro _ _)
  unfold CallT
  k_fill
  intro mean mg mb dp un gd cn cs a ccd cl outer A₀ base h₀ L m s Q E B F X N T codeHd hk hRl hu hret
  refine wpAny_call ?_
  refine' code_defCR (news := [(FD, fo), (57, tabObj ps)]) (rest := rest) (binds := [(Str.ofString "foes", .ref FD), (Str.ofString "size", .int (n : Nat) t0)]) B F X N (fun p hp q hq => by rcases List.mem_cons.mp hq with rfl | hq; exact hFD p hp; rw [List.mem_singleton.mp hq]; exact h57 p hp) T rfl rfl hk ?k6 ?k7 ?k8 ?k9 ?kB ?kD ?_ ?c2 ?c3 ?c4 ?hcl
  case k6 => k_is
  case k7 => k_is
  case k8 => exact om0 (by assumption)
  case k9 => exact BindsTo.of_eq rfl
  case kB => exact rfl
  case kD => decide +kernel
  case c2 => exact rfl
  case c3 => exact rfl
  case c4 => exact rfl
  case hcl => (intro n cells Y; k_cells Y; exact List.forall_mem_cons.mpr ⟨Nat.lt_succ_of_lt (Nat.lt_succ_self _), List.forall_mem_cons.mpr ⟨Nat.lt_succ_self _, List.forall_mem_nil _⟩⟩)
  intro g' L' h' tk' cells' FG' F' N' NR' Y' B' X' T' l1
  try k_lt l1
  have hY := CellsAre.two Y'
  obtain ⟨oL, oF, hE', doL, doF⟩ := hY
  subst hE'
  clear Y'
  try simp only [List.cons_append, List.nil_append] at N'
  try dsimp only
  try k_fold
  have codeHd' : CodeHd g' 61 57 := codeHd.keeps FG'.keep
  walk_at "MYSTEPS"
  rename Fr g' L' _ _ => F9
  rename News g' L' _ _ => N9
  obtain ⟨RA, rfl, hR1, hR2, hRF, hR5, N8⟩ := runs_start (c1 := L' + 1 + 1) (c2 := L' + 1) (FD := FD) N9 (by assumption)
  clear N9
  have hc57 : @LT.lt Nat _ 57 (L' + 1 + 1) := by (try dsimp only at *); omega
  have hc58 : @LT.lt Nat _ 57 (L' + 1) := by (try dsimp only at *); omega
  change oF.data = .cell (some (.ref FD)) at doF
  k_dflt (refine iter_tw_X (l := [0, 1, 2]) (fun i m news => EqOff OFFR m _ ∧ ∃ refs k rl ps oL, news = (RA, listOf (List.toArray refs) k) :: (L' + 1 + 1, oL) :: (L' + 1, oF) :: (FD, fo) :: (57, tabObj ps) :: rl ∧ (∃ v, Obj.data oL = .cell v) ∧ RunsIn rl refs (([0, 1, 2].take i).flatMap fun a => (List.range (gapsOf G a n)).map (runOf G a)) ∧ TabPs ps ∧ Sp RA (L' + 1 + 1) rl) rfl F9 N8 ⟨EqOff.refl, [], 0, [], ps, oL, rfl, ⟨_, doL⟩, ⟨rfl, fun i r h => by simp at h⟩, hps, fun _ h => nomatch h⟩ ?_ ?_ (by passes_own))
  · rintro i a t1 m₁ news₁ h tk I o hi ⟨hE, refs, k, rl, ps1, oL1, rfl, ⟨vL1, dL1⟩, hRI, hps1, hSp⟩ hoff F1 N1
    refine turn_abs ?_
    intro QT1 hQT1
    as_aux_lemma =>
    clear F9 N8 doL
    rw [hE.eq] at F1
    have ha3 : a < 3 := by
      have hi' := (List.getElem?_eq_some_iff.mp hi).1
      have h3 : i = 0 ∨ i = 1 ∨ i = 2 := by simp at hi'; omega
      rcases h3 with rfl | rfl | rfl <;> (obtain rfl := Option.some.inj hi; decide)
    have ha4 : a < 4 := by omega
    have hIR : @Ne Nat RA I := hoff _ (.head _)
    have hIL : @Ne Nat (L' + 1 + 1) I := hoff _ (.tail _ (.head _))
    have hrlL : ∀ p ∈ rl, p.1 ≠ L' + 1 + 1 := fun p hp => (hSp p hp).2.1
    walk_at "MYSTEPS"
    rename Fr g' L' _ _ => F8
    rename News g' L' _ _ => N8
    rename Obj => oL2
    rename oL2.data = _ => dL2
    clear F1 N1 dL1
    have hlen6 : ∀ p : Nat → Bool, ([0, 1, 2, 3].filter p).length ≤ 6 := fun p => Nat.le_trans (List.length_filter_le _ _) (by decide)
    k_dflt (refine ListComp_S (F₀ := F8) (by with_unfolding_all rfl) (by decide) (by rfl) (by decide) (by rfl) ?_)
    iterate 1 walk1
    refine ⟨tw [0, 1, 2, 3], _, _, rfl, rfl, F8, N8, Nat.le_of_ble_eq_true (by with_unfolding_all rfl), ?_⟩
    rintro s₂ ⟨g, rfl⟩
    refine compT_J (fun i ys news => news = (I, o) :: (RA, listOf (List.toArray refs) k) :: (L' + 1 + 1, oL2) :: (L' + 1, oF) :: (FD, fo) :: (57, tabObj ps1) :: rl ∧ Strs ys (([0, 1, 2, 3].take i).filter fun x => x != a && !(G a).contains x)) ?_ ?_ 4 0 [] _ rfl ⟨rfl, trivial⟩
    · rintro i2 ys news₂ v I2 oI C oC D m₂ h2 tk2 E' hi2 hv ⟨rfl, hY⟩ hC hx F2 N2 hO hne
      refine comp_abs ?_
      intro QC2 QN2 hQC2 hQN2
      as_aux_lemma =>
      clear F8 N8
      obtain ⟨x, u, hx0, rfl⟩ := sign_tw hv
      have hx4 : x < 4 := by
        have hi' : i2 = 0 ∨ i2 = 1 ∨ i2 = 2 ∨ i2 = 3 := by omega
        rcases hi' with rfl | rfl | rfl | rfl <;> (obtain rfl := Option.some.inj hx0; decide)
      have etk : ([0, 1, 2, 3].take (i2 + 1)).filter (fun x => x != a && !(G a).contains x) = ([0, 1, 2, 3].take i2).filter (fun x => x != a && !(G a).contains x) ++ [x].filter (fun x => x != a && !(G a).contains x) := by
        rw [List.take_add_one, hx0, List.filter_append]; rfl
      cases e1 : (x != a) with
      | false =>
        walk_at "MYSTEPS"
        rename Fr g' L' _ _ => F8
        rename News g' L' _ _ => N8
        refine hQN2 _ _ (PyProof.Rows.LCg.CompEnd.intro F8 N8 _ (fun _ hp => hp) hO trivial ⟨rfl, ?_⟩)
        rw [etk]
        simp only [List.filter_cons, e1, Bool.false_and, Bool.false_eq_true, if_false, List.filter_nil, List.append_nil]
        exact hY
      | true =>
        cases e2 : (G a).contains x with
        | true =>
          walk_at "MYSTEPS"
          rename Fr g' L' _ _ => F8
          rename News g' L' _ _ => N8
          refine hQN2 _ _ (PyProof.Rows.LCg.CompEnd.intro F8 N8 _ (fun _ hp => hp) hO trivial ⟨rfl, ?_⟩)
          rw [etk]
          simp only [List.filter_cons, e1, e2, Bool.not_true, Bool.and_false, Bool.false_eq_true, if_false, List.filter_nil, List.append_nil]
          exact hY
        | false =>
          walk_at "MYSTEPS"
          rename Fr g' L' _ _ => F8
          rename News g' L' _ _ => N8
          refine hQC2 _ _ (PyProof.Rows.LCg.CompEnd.intro F8 N8 _ (fun _ hp => hp) hO trivial ⟨rfl, ?_⟩)
          rw [etk]
          simp only [List.filter_cons, e1, e2, Bool.not_false, Bool.and_true, if_true, List.filter_nil]
          exact strs_snoc hY
    · rintro ys news₂ ⟨rfl, hY⟩
      intro D h2 tk2 F2 N2 hO
      clear F8 N8
      have hOD := off1_ne hO
      change News _ _ _ ((D, listOf ys.toArray ys.length) :: _) at N2
      change Strs ys (frs G a) at hY
      have hl6 : (frs G a).length ≤ 6 := hlen6 _
      walk_at "MYSTEPS"
      rename Fr g' L' _ _ => F8
      rename News g' L' _ _ => N8
      replace N8 := news_tl N8
      try clear F2
      try clear N2
      clear hO hOD hY
      k_dflt (refine ListComp_S (F₀ := F8) (by with_unfolding_all rfl) (by decide) (by rfl) (by decide) (by rfl) ?_)
      iterate 1 walk1
      refine ⟨tw (frs G a), _, _, rfl, rfl, F8, N8, by rw [show (tw (frs G a)).cps.size = (frs G a).length from by simp [tw], sizeLine_eq]; omega, ?_⟩
      rintro s₂ ⟨g, rfl⟩
      rw [show (tw (frs G a)).cps.size = (frs G a).length from by simp [tw]]
      refine compT_J (fun i ys news => news = (I, o) :: (RA, listOf (List.toArray refs) k) :: (L' + 1 + 1, oL2) :: (L' + 1, oF) :: (FD, fo) :: (57, tabObj ps1) :: rl ∧ Strs ys (((frs G a).take i).filter fun x => decide (a < x))) ?_ ?_ (frs G a).length 0 [] _ (Nat.zero_add _) ⟨rfl, trivial⟩
      · rintro i2 ys news₂ v I2 oI C oC D m₂ h2 tk2 E' hi2 hv ⟨rfl, hY⟩ hC hx F2 N2 hO hne
        refine comp_abs ?_
        intro QC3 QN3 hQC3 hQN3
        as_aux_lemma =>
        clear F8 N8
        obtain ⟨x, u, hx0, rfl⟩ := sign_tw hv
        have etk : ((frs G a).take (i2 + 1)).filter (fun x => decide (a < x)) = ((frs G a).take i2).filter (fun x => decide (a < x)) ++ [x].filter (fun x => decide (a < x)) := by
          rw [List.take_add_one, hx0, List.filter_append]; rfl
        cases e1 : decide (a < x) with
        | false =>
          walk_at "MYSTEPS"
          rename Fr g' L' _ _ => F8
          rename News g' L' _ _ => N8
          refine hQN3 _ _ (PyProof.Rows.LCg.CompEnd.intro F8 N8 _ (fun _ hp => hp) hO trivial ⟨rfl, ?_⟩)
          rw [etk]
          simp only [List.filter_cons, e1, Bool.false_eq_true, if_false, List.filter_nil, List.append_nil]
          exact hY
        | true =>
          walk_at "MYSTEPS"
          rename Fr g' L' _ _ => F8
          rename News g' L' _ _ => N8
          refine hQC3 _ _ (PyProof.Rows.LCg.CompEnd.intro F8 N8 _ (fun _ hp => hp) hO trivial ⟨rfl, ?_⟩)
          rw [etk]
          simp only [List.filter_cons, e1, if_true, List.filter_nil]
          exact strs_snoc hY
      · rintro ys news₂ ⟨rfl, hY⟩
        intro D h2 tk2 F2 N2 hO
        clear F8 N8
        have hOD := off1_ne hO
        change News _ _ _ ((D, listOf ys.toArray ys.length) :: _) at N2
        rw [List.take_length] at hY
        change Strs ys (grt G a) at hY
        have hg6 : (grt G a).length ≤ 6 := Nat.le_trans (List.length_filter_le _ _) hl6
        have hGa := hG.ln a ha4
        walk_at "MYSTEPS"
        rename Fr g' L' _ _ => F8
        rename News g' L' _ _ => N8
        replace N8 := news_tl N8
        try clear F2
        try clear N2
        clear hO hOD hY
        k_dflt (refine merge F8 N8 (P := fun v => ∃ t, v = .int ((gapsOf G a n : Nat) : Int) t) ?_ ?_)
        · cases hgb : (grt G a != []) with
          | false =>
            walk_at "MYIF"
            have hg0 : grt G a = [] := by simpa using hgb
            exact ⟨⟨_, by rw [gapsOf, if_pos hg0]; rfl⟩, _, _, rfl, by k_asm, by k_asm⟩
          | true =>
            walk_at "MYIF"
            have hg0 : grt G a ≠ [] := by simpa using hgb
            exact ⟨⟨_, by rw [gapsOf, if_neg hg0, show ((n : Int) - 1) = ((n - 1 : Nat) : Int) from by omega]⟩, _, _, rfl, by k_asm, by k_asm⟩
        · rintro _ h3 tk3 ⟨t3, rfl⟩ F3 N3
          clear F8 N8
          walk_at "MYSTEPS"
          rename Fr g' L' _ _ => F8
          rename News g' L' _ _ => N8
          have hgl : gapsOf G a n ≤ 5 := by unfold gapsOf; split <;> omega
          rw [show [91, 33] ++ List.map (fun x => x + 97) [a] ++ List.map (fun x => x + 97) (G a) ++ [93] = barOf G a from rfl] at F8
          have hbl : (barOf G a).length ≤ 10 := by simp [barOf]; omega
          k_dflt (refine iter_range_X (n := gapsOf G a n) (fun i3 m news => EqOff [Str.ofString "gap", Str.ofString "between", Str.ofString "parts"] m _ ∧ ∃ refs k rl ps, news = (I, o) :: (RA, listOf (List.toArray refs) k) :: (L' + 1 + 1, oL2) :: (L' + 1, oF) :: (FD, fo) :: (57, tabObj ps) :: rl ∧ RunsIn rl refs ((([0, 1, 2].take i).flatMap fun a => (List.range (gapsOf G a n)).map (runOf G a)) ++ (List.range i3).map (runOf G a)) ∧ TabPs ps ∧ Sp RA (L' + 1 + 1) rl ∧ ∀ p ∈ rl, p.1 ≠ I) rfl (by assumption) (range_small7 _ _ rfl (by omega)) (range_size7 _ _ rfl (by omega)) F8 N8 ⟨EqOff.refl, refs, k, rl, ps1, rfl, by simpa using hRI, hps1, hSp, fun p hp => hoff p (.tail _ (.tail _ (.tail _ (.tail _ (.tail _ hp)))))⟩ ?_ ?_ (by passes_own))
          · rintro i3 t4 m₃ news₃ h4 tk4 I3 o3 hi3 ⟨hE3, refs2, k2, rl2, ps2, rfl, hRI2, hps2, hSp2, hI2⟩ hoff3 F4 N4
            refine turn_abs ?_
            intro QT4 hQT4
            as_aux_lemma =>
            clear F8 N8
            try clear F3
            try clear N3
            rw [hE3.eq] at F4
            have hg0 : grt G a ≠ [] := fun e => by
              unfold gapsOf at hi3
              rw [if_pos e] at hi3
              omega
            have hq2 : Int.fdiv (0 + (i3 : Nat) * 1) 2 = ((i3 / 2 : Nat) : Int) := by
              rw [Int.fdiv_eq_ediv_of_nonneg _ (by decide)]; omega
            have hq1 : (0 + (i3 : Nat) * 1 : Int) - Int.fdiv (0 + (i3 : Nat) * 1) 2 = ((i3 - i3 / 2 : Nat) : Int) := by
              rw [hq2]; omega
            have hr1 := repOf_len (i3 - i3 / 2) [63] (by decide)
            have hr2 := repOf_len (i3 / 2) (barOf G a) hbl
            have hpat := pat_eq G a i3
            have hIR3 : @Ne Nat RA I3 := hoff3 _ (.tail _ (.head _))
            have hrlR : ∀ p ∈ rl2, p.1 ≠ RA := fun p hp => (hSp2 p hp).1
            walk_at "MYSTEPS"
            rw [hpat]
            rename Fr g' L' _ _ => F8
            rename News g' L' _ _ => N8
            have hne57 : ∀ p ∈ (I3, o3) :: (I, o) :: (RA, listOf (List.toArray refs2) k2) :: (L' + 1 + 1, oL2) :: (L' + 1, oF) :: (FD, fo) :: rl2, p.1 ≠ 57 := by
              have e1 : @Ne Nat 57 I3 := hoff3 (57, tabObj ps2) (.tail _ (.tail _ (.tail _ (.tail _ (.tail _ (.head _))))))
              have e2 : @Ne Nat 57 I := hoff (57, tabObj ps1) (.tail _ (.tail _ (.tail _ (.tail _ (.head _)))))
              exact List.forall_mem_cons.mpr ⟨fun q => e1 q.symm, List.forall_mem_cons.mpr ⟨fun q => e2 q.symm, List.forall_mem_cons.mpr ⟨Nat.ne_of_gt hR5, List.forall_mem_cons.mpr ⟨Nat.ne_of_gt hc57, List.forall_mem_cons.mpr ⟨Nat.ne_of_gt hc58, List.forall_mem_cons.mpr ⟨hF57, fun p hp => (hSp2 p hp).2.2⟩⟩⟩⟩⟩⟩
            have hpl : (pats (.st :: (tksOf G a i3 ++ [.st]))).length ≤ 1048576 := by
              rw [← hpat]
              simp only [List.length_append, List.length_cons, List.length_nil, List.length_map]
              omega
            k_dflt (refine' callT_use (s_trans w _ (frs G a) (tks_ok hG ha4 hg0 i3) (fun dn td h => st_apart (tks_st G a i3) (by simp [tksOf]) h) hpl _ _ ps2 hps2 _ hne57) ?hB F8 ?hX (ledger_drop N8 (by walk_at "MYSUB")) ?hT codeHd' ?hk ?hd ?hu ?_)
            case hB => k_asm
            case hX => k_asm
            case hT => k_asm
            case hk => first | exact rfl | assumption
            case hd => ktr_room
            case hu => ktr_units
            intro PA its k5 ps3 tk5 h5 hout hps3 F5 N5 hsep5
            obtain ⟨v0, xs, w0, rfl, hpx⟩ := outs_mid hout (tks_st G a i3)
            rw [tks_parts] at hpx
            have hRP : @Ne Nat RA PA := hsep5 _ (.tail _ (.tail _ (.head _)))
            have hzs : (List.toArray (v0 :: (xs ++ [w0]))).size ≤ sizeLine := by
              have h1 := hpx.1
              rw [runOf_len] at h1
              rw [sizeLine_eq]
              simp
              omega
            have hz5 : refs2.length ≤ 1000 := by
              rw [hRI2.len]
              have hi' := (List.getElem?_eq_some_iff.mp hi).1
              exact runs_len hn (by simp at hi'; omega) (by omega)
            clear F8 N8
            walk_at "MYSTEPS"
            rename Fr g' L' _ _ => F8
            rename News g' L' _ _ => N8
            obtain ⟨SA, rfl⟩ := head_name N8
            rw [List.push_toArray] at N8
            have hSA : @LT.lt Nat _ RA SA ∧ @LT.lt Nat _ (L' + 1 + 1) SA ∧ @LT.lt Nat _ 57 SA ∧ @LT.lt Nat _ I3 SA ∧ @LT.lt Nat _ I SA := by (try dsimp only at *); omega
            refine hQT4 _ _ (TurnEnd.next F8 (news' := (I, o) :: (RA, listOf (List.toArray (refs2 ++ [.ref SA])) (k2 + 1)) :: (L' + 1 + 1, oL2) :: (L' + 1, oF) :: (FD, fo) :: (57, tabObj ps3) :: (SA, listOf (List.toArray xs) 0) :: rl2) (ledger_drop N8 (by walk_at "MYSUB")) ?_ ⟨?_, refs2 ++ [.ref SA], k2 + 1, (SA, listOf (List.toArray xs) 0) :: rl2, ps3, rfl, ?_, hps3, ?_, ?_⟩)
            · exact List.forall_mem_cons.mpr ⟨hoff3 _ (.head _), List.forall_mem_cons.mpr ⟨hIR3, List.forall_mem_cons.mpr ⟨hoff3 _ (.tail _ (.tail _ (.head _))), List.forall_mem_cons.mpr ⟨hoff3 _ (.tail _ (.tail _ (.tail _ (.head _)))), List.forall_mem_cons.mpr ⟨hoff3 _ (.tail _ (.tail _ (.tail _ (.tail _ (.head _))))), List.forall_mem_cons.mpr ⟨hoff3 (57, tabObj ps2) (.tail _ (.tail _ (.tail _ (.tail _ (.tail _ (.head _)))))), List.forall_mem_cons.mpr ⟨Nat.ne_of_gt hSA.2.2.2.1, fun p hp => hoff3 p (.tail _ (.tail _ (.tail _ (.tail _ (.tail _ (.tail _ hp))))))⟩⟩⟩⟩⟩⟩⟩
            · (repeat (refine EqOff.ite (by decide) ?_)); exact EqOff.ovr
            · rw [List.range_succ, List.map_append, ← List.append_assoc]
              exact runs_snoc hRI2 hpx
            · exact List.forall_mem_cons.mpr ⟨⟨Nat.ne_of_gt hSA.1, Nat.ne_of_gt hSA.2.1, Nat.ne_of_gt hSA.2.2.1⟩, hSp2⟩
            · exact List.forall_mem_cons.mpr ⟨Nat.ne_of_gt hSA.2.2.2.2, hI2⟩
          · rintro m₃ news₃ h4 tk4 ⟨hE3, refs2, k2, rl2, ps2, rfl, hRI2, hps2, hSp2, hI2⟩ F4 N4
            clear F8 N8
            rw [hE3.eq] at F4
            walk_at "MYSTEPS"
            rename Fr g' L' _ _ => F8
            rename News g' L' _ _ => N8
            refine hQT1 _ _ (TurnEnd.next F8 N8 ?_ ⟨?_, refs2, k2, rl2, ps2, oL2, rfl, ⟨_, dL2⟩, ?_, hps2, hSp2⟩)
            · have e2 : @Ne Nat 57 I := hoff (57, tabObj ps1) (.tail _ (.tail _ (.tail _ (.tail _ (.head _)))))
              exact List.forall_mem_cons.mpr ⟨hIR, List.forall_mem_cons.mpr ⟨hIL, List.forall_mem_cons.mpr ⟨hoff _ (.tail _ (.tail _ (.head _))), List.forall_mem_cons.mpr ⟨hoff _ (.tail _ (.tail _ (.tail _ (.head _)))), List.forall_mem_cons.mpr ⟨e2, hI2⟩⟩⟩⟩⟩
            · refine EqOff.ovr2 (fun y hy => by simp at hy ⊢; exact hy.2.2.2) ?_
              (repeat (refine EqOff.ite (by decide) ?_)); exact EqOff.ovr
            · rw [List.take_add_one, hi, List.flatMap_append]
              simpa using hRI2
  · rintro m₁ news₁ h tk ⟨hE, refs, k, rl, ps1, oL1, rfl, _, hRI, hps1, hSp⟩ F1 N1
    clear F9 N8
    rw [hE.eq] at F1
    walk_at "MYSTEPS"
    rename News h₀ L _ rest => NR2
    replace NR2 := Frz.mk NR2
    exact hret _ _ _ _ _ _ _ hRI hps1 (by k_asm) (news_app (a := (RA, listOf (List.toArray refs) k) :: (FD, fo) :: (57, tabObj ps1) :: rl) (ledger_drop (by assumption) (by walk_at "MYSUB")) NR2.n)
end
section
open PySem PySem.W PyProof.Rows PySem.Spec PySem.Calls
theorem fitsAt_iff {r : List Part} : ∀ {l : List Nat}, fitsAt r l = true ↔ ∃ s, s ≤ l.length ∧ fitsAll r (l.drop s) = true
  | [] => by
    unfold fitsAt
    constructor
    · exact fun h => ⟨0, Nat.le_refl _, h⟩
    · rintro ⟨s, hs, h⟩
      simpa using h
  | x :: l => by
    rw [fitsAt, Bool.or_eq_true, fitsAt_iff]
    constructor
    · rintro (h | ⟨s, hs, h⟩)
      · exact ⟨0, Nat.zero_le _, h⟩
      · exact ⟨s + 1, by simp; omega, h⟩
    · rintro ⟨s, hs, h⟩
      cases s with
      | zero => exact .inl h
      | succ s => exact .inr ⟨s, by simp at hs; omega, h⟩
theorem start_fits {r : List Part} {l : List Nat} : startOk r l (l.length + 1 - r.length) = fitsAt r l := by
  rw [Bool.eq_iff_iff, fitsAt_iff]
  unfold startOk
  rw [List.any_eq_true]
  constructor
  · rintro ⟨s, hs, h⟩
    have := List.mem_range.mp hs
    exact ⟨s, by omega, h⟩
  · rintro ⟨s, hs, h⟩
    refine ⟨s, List.mem_range.mpr ?_, h⟩
    have := fitsAll_len _ _ h
    rw [List.length_drop] at this
    omega
theorem taken_any (rs : List (List Part)) (l : List Nat) : takenOf rs l = rs.any fun r => fitsAt r l := by
  unfold takenOf
  congr 1
  funext r
  exact start_fits
theorem gr_fGi (b : Nat) (hb : b < 64) : Gr (fGi b 6) := by
  have h1 : ∀ b < 64, ∀ x < 4, ∀ y ∈ fGi b 6 x, y < 4 := by decide +kernel
  have h2 : ∀ b < 64, ∀ x < 4, x ∉ fGi b 6 x := by decide +kernel
  have h3 : ∀ b < 64, ∀ x < 4, ∀ y ∈ fGi b 6 x, x ∈ fGi b 6 y := by decide +kernel
  have h4 : ∀ b < 64, ∀ x < 4, (fGi b 6 x).Nodup := by decide +kernel
  have h5 : ∀ b < 64, ∀ x < 4, (fGi b 6 x).length ≤ 3 := by decide +kernel
  exact ⟨h1 b hb, h2 b hb, fun x hx y _ hy => h3 b hb x hx y hy, h4 b hb, h5 b hb⟩
theorem runs_bounds {G : Nat → List Nat} (hG : Gr G) {n : Nat} : (∀ r ∈ runsOf G n, r.length ≤ n) ∧ ∀ r ∈ runsOf G n, ∀ p ∈ r, plen p ≤ 1000 := by
  have hf : ∀ a, (frs G a).length ≤ 4 := fun a => List.length_filter_le _ _
  have hg : ∀ a, (grt G a).length ≤ 4 := fun a => Nat.le_trans (List.length_filter_le _ _) (hf a)
  constructor
  · intro r hr
    obtain ⟨a, ha, hr⟩ := List.mem_flatMap.mp hr
    obtain ⟨gap, hgap, rfl⟩ := List.mem_map.mp hr
    have := List.mem_range.mp hgap
    rw [runOf_len]
    unfold gapsOf at this
    split at this <;> omega
  · intro r hr p hp
    obtain ⟨a, ha, hr⟩ := List.mem_flatMap.mp hr
    obtain ⟨gap, hgap, rfl⟩ := List.mem_map.mp hr
    have ha4 : a < 4 := by simp at ha; omega
    have hl := hG.ln a ha4
    have h1 := hf a
    have h2 := hg a
    unfold runOf mid at hp
    simp only [List.mem_cons, List.mem_append, List.mem_replicate, List.not_mem_nil, or_false] at hp
    rcases hp with rfl | (⟨_, rfl⟩ | ⟨_, rfl⟩) | rfl
    · simp [plen]; omega
    · simp [plen]; omega
    · simp [plen]; omega
    · simp [plen]
/-- what the law hands back is true -/
theorem law_true {b : Nat} (hb : b < 64) {l : List Nat} (hl : ∀ z ∈ l, z < 4) : takenOf (runsOf (fGi b 6) l.length) (gr (fGi b 6) l.length l) = false ∧ takenOf (runsOf (fGi b 6) l.length) l = (l != gr (fGi b 6) l.length l) := by
  obtain ⟨h1, h2⟩ := law_pure (gr_fGi b hb) hl
  exact ⟨by rw [taken_any]; exact h1, by rw [taken_any]; exact h2⟩
theorem fmod64 (x : Int) : ∃ b : Nat, b < 64 ∧ x.fmod 64 = (b : Int) := by
  have h1 := Int.fmod_nonneg_of_pos x (b := 64) (by decide)
  have h2 := Int.fmod_lt_of_pos x (b := 64) (by decide)
  exact ⟨(x.fmod 64).toNat, by omega, by omega⟩
theorem fmod4 (x : Int) : ∃ c : Nat, c < 4 ∧ x.fmod 4 = (c : Int) := by
  have h1 := Int.fmod_nonneg_of_pos x (b := 4) (by decide)
  have h2 := Int.fmod_lt_of_pos x (b := 4) (by decide)
  exact ⟨(x.fmod 4).toNat, by omega, by omega⟩
open PyProof.Rows.LCg
section
variable {prog : Program} {w : World} {A : Around} {E : Value → Shared → Prop} {s : Shared} {h₀ : Heap} {L : Addr} {m : Str → Option Value} {env : Env}
theorem compU_J {elt : Expr} {x : Str} {scope : Scope} {cl : List (Str × Addr)} {S : List (Addr × Obj) → Prop} {P : Nat → Value → Prop} {Fin : List Value → List (Addr × Obj) → Prop} {n : Nat} (J : Nat → List Value → List (Addr × Obj) → Prop)
    (turn : ∀ i ys news v I oI C oC D m₂ h tk (E' : Value → Shared → Prop), i < n → P i v → J i ys news → NsObj oC m₂ → m₂ x = some v → Fr h₀ L h m → News h₀ L h ((I, oI) :: (C, oC) :: (D, lst ys) :: news) → Off3 I C D news → ((@Ne Nat I C) ∧ (@Ne Nat I D) ∧ (@Ne Nat C D)) →
      wpAny (model prog w) A (eval elt (compEnvC scope cl C env)) (CompEnd h₀ L m { s with heap := h, toks := tk } I oI C oC D (lst ys) S (fun y news' => J (i + 1) (ys ++ [y]) news')) E' { s with heap := h, toks := tk })
    (done : ∀ ys news, J n ys news → Fin ys news) :
    ∀ k i ys news, i + k = n → J i ys news → CompRest prog w A h₀ L m env elt x scope cl s S P Fin k i ys news := by
  intro k
  induction k with
  | zero =>
    intro i ys news hi hj
    have : i = n := by omega
    exact CompRest.zero (done ys news (this ▸ hj))
  | succ k ih =>
    intro i ys news hi hj
    refine CompRest.succ ?_
    intro v I oI C oC D m₂ h tk E' hP hC hx F N hO hne
    refine wpAny_mono (turn i ys news v I oI C oC D m₂ h tk E' (by omega) hP hj hC hx F N hO hne) (fun y s' q => ?_) fun _ _ e => e
    obtain ⟨h', tk', nw, e, F', N', O', S', r⟩ := q
    exact ⟨h', tk', nw, e, F', N', O', S', ih (i + 1) _ nw (by omega) r⟩
end
end
section
open PySem PySem.W PyProof.Rows PySem.Spec PySem.Calls
theorem ints_at {i : Nat} {v : Value} : ∀ {vs : List Value} {zs : List Int}, IntsAre vs zs → ∀ {i : Nat}, vs[i]? = some v → ∃ z t, v = .int z t
  | _, _, .nil, i, h => by simp at h
  | _, _, .cons k t r, i, h => by
    cases i with
    | zero => exact ⟨k, t, (Option.some.inj h).symm⟩
    | succ i => exact ints_at (i := i) r (by simpa using h)
theorem ints_len {vs : List Value} {zs : List Int} (h : IntsAre vs zs) : vs.length = zs.length := by
  induction h with
  | nil => rfl
  | cons k t r ih => simp [ih]
theorem idx4 {c : Nat} (h : c < 4) : [0, 1, 2, 3][c]? = some c := by
  have : c = 0 ∨ c = 1 ∨ c = 2 ∨ c = 3 := by omega
  rcases this with rfl | rfl | rfl | rfl <;> rfl
theorem slice_tw (l : List Nat) : Txt.slice (tw l) none (some 6) = tw (l.take 6) := by
  have := slice_to (up l) 6
  rw [tw_cw, tw_cw]
  refine this.trans ?_
  rw [up, up, ← List.map_take]
theorem ne_of_data {h₀ h : Heap} {L a b : Addr} {o1 o2 : Obj} {news : List (Addr × Obj)} (N : News h₀ L h news) (h1 : (a, o1) ∈ news) (h2 : (b, o2) ∈ news) (hd : o1.data ≠ o2.data) : @Ne Nat a b := fun e => by
  have e1 := (N _ h1).1
  have e2 := (N _ h2).1
  subst e
  rw [e1] at e2
  exact hd (congrArg Obj.data (Option.some.inj e2))
section
variable {prog : Program} {w : World} {A : Around} {E : Value → Shared → Prop} {s : Shared} {a b : Addr} {xs ys : List Value} {H K : List Nat} {Q : Value → Shared → Prop}
theorem lets_ne_same (ha : s.heap.IsList a xs.toArray) (hb : s.heap.IsList b ys.toArray) (hi : Strs xs H) (hj : Strs ys K) (e : H = K) (h1 : ∀ x ∈ H, x < 4) (hu : A.units + 64 < cLine) (h : Q (.bool false) s) :
    wpAny (model prog w) A (compareOp .NotEq (.ref a) (.ref b)) Q E s := by
  subst e
  exact lets_ne ha hb hi hj h1 h1 hu (by simpa using h)
theorem empty_eq (ha : s.heap.IsList a #[]) (hb : s.heap.IsList b #[]) (hu : A.units + 64 < cLine) (h : Q (.bool true) s) : wpAny (model prog w) A (compareOp .Eq (.ref a) (.ref b)) Q E s :=
  ints_eq_nil (vs := []) ha hb .nil hu h
end
theorem mem_wd {H : List Nat} (h : ∀ x ∈ H, x < 4) : ∀ x ∈ (H ++ [3, 2, 0, 1, 3]).take 6, x < 4 := fun x hx => by
  have := List.mem_of_mem_take hx
  rcases List.mem_append.mp this with q | q
  · exact h x q
  · simp at q; omega
theorem len_wd (H : List Nat) : 1 ≤ ((H ++ [3, 2, 0, 1, 3]).take 6).length ∧ ((H ++ [3, 2, 0, 1, 3]).take 6).length ≤ 6 := by
  simp [List.length_take]
  omega
theorem proj_eq {G : Nat → List Nat} (hG : Gr G) {l : List Nat} (hl : ∀ z ∈ l, z < 4) {p q : Nat} (hp : p < 4) (hq : q ∈ p :: G p) : l.filter (fun z => ([p] ++ [q]).contains z) = (gr G l.length l).filter (fun z => ([p] ++ [q]).contains z) := by
  have e : (fun z => ([p] ++ [q]).contains z) = fun z => z == p || z == q := by
    funext z
    rw [Bool.eq_iff_iff]
    simp
  rw [e]
  exact (gr_proj hG hl hp (List.mem_cons.mp hq)).symm
end
section
open PySem PySem.W PyProof.Rows PySem.Spec PySem.Calls
open Builtin
/-- names for the cells -/
theorem cells_name {h₀ h : Heap} {L D0 D1 D2 c1 c2 : Addr} {o0 o1 o2 oa ob ot : Obj} (N : News h₀ L h [(D0, o0), (D1, o1), (D2, o2), (c1, oa), (c2, ob), (57, ot)]) (lt : @LT.lt Nat _ D1 D0 ∧ @LT.lt Nat _ D2 D0 ∧ @LT.lt Nat _ c1 D0 ∧ @LT.lt Nat _ c2 D0 ∧ @LT.lt Nat _ 57 D0) :
    ∃ oA oB : Obj, oA = oa ∧ oB = ob ∧ News h₀ L h [(c1, oA), (c2, oB), (57, ot)] := ⟨oa, ob, rfl, rfl, fun p hp => N p (.tail _ (.tail _ (.tail _ hp)))⟩
theorem runsIn_mono {l l' : List (Addr × Obj)} {refs : List Value} {rs : List (List Part)} (h : RunsIn l refs rs) (hs : ∀ p ∈ l, p ∈ l') : RunsIn l' refs rs :=
  ⟨h.len, fun i r hr => by obtain ⟨a, its, k, h1, h2, h3⟩ := h.at_ i r hr; exact ⟨a, its, k, h1, hs _ h2, h3⟩⟩
theorem led_end {h₀ h : Heap} {L : Addr} {a b c d : Addr × Obj} {rl : List (Addr × Obj)} (N : News h₀ L h (a :: b :: c :: (rl ++ [d]))) : News h₀ L h (a :: d :: c :: rl) := fun p hp => by
  rcases List.mem_cons.mp hp with rfl | hp
  · exact N _ (.head _)
  rcases List.mem_cons.mp hp with rfl | hp
  · exact N _ (.tail _ (.tail _ (.tail _ (List.mem_append_right _ (.head _)))))
  rcases List.mem_cons.mp hp with rfl | hp
  · exact N _ (.tail _ (.tail _ (.head _)))
  · exact N _ (.tail _ (.tail _ (.tail _ (List.mem_append_left _ hp))))
theorem frame_gen {h₀ h : Heap} {L : Addr} {n1 n2 n3 n4 : Str} {v1 v2 v3 v4 : Option Value} {m : Str → Option Value} (F : Fr h₀ L h (fun y => if y = n1 then v1 else if y = n2 then v2 else if y = n3 then v3 else if y = n4 then v4 else m y)) :
    ∃ m' : Str → Option Value, Fr h₀ L h (fun y => if y = n1 then v1 else if y = n2 then v2 else if y = n3 then v3 else if y = n4 then v4 else m' y) := ⟨m, F⟩
section
variable {prog : Program} {w : World} {A : Around} {E : Value → Shared → Prop} {s : Shared} {t u : Tok} {Q : Value → Shared → Prop}
theorem tw1_in {a : Nat} {l : List Nat} {c : Bool} (hb : l.contains a = c) (h : Q (.bool c) s) : wpAny (model prog w) A (compareOp .In (.str (tw [a]) t) (.str (tw l) u)) Q E s :=
  cw_in (l := up l) (c := a + 97) rfl ((up_in a l).trans hb) h
end
theorem lawgo : PySem.Challenge.rw_rx0045_01.Holds := hd (by
  k_with_none
  k_with "ktr_room" => first | exact om2 (by assumption) rfl | exact om1 (by assumption) rfl | exact om0 (by assumption) | exact om3 rfl
  k_with "k_all" => first | assumption | exact ne_of_allLt (by assumption) | exact ne_of_allLt (And.right (by assumption)) | exact ne_of_allLt (And.right (And.right (by assumption))) | exact ne_of_allLt (And.right (And.right (And.right (by assumption)))) | exact ne_of_allLt (And.right (And.right (And.right (And.right (by assumption))))) | exact ne_of_allLt (And.right (And.right (And.right (And.right (And.right (by assumption))))))
  k_with "k_inst" => (apply inst_acc; k_asm; k_mem; k_mem)
  k_with "k_room" => ktr_room
  k_with "k_mem" => first | assumption | exact List.Mem.head _ | (apply List.Mem.tail; k_mem)
  k_with "k_memK" => k_mem
  k_with "MYSUB" => first | exact List.forall_mem_nil _ | (refine List.forall_mem_cons.mpr ⟨by k_memK, ?_⟩; walk_at "MYSUB") | (intro _ hp; repeat (first | exact hp | refine List.mem_cons_of_mem _ ?_))
  k_with "MYHP" => ( (repeat (first | rw [if_pos (by rw [← tw_lt]; assumption)] | rw [if_neg (by rw [← tw_lt]; assumption)])); (first | assumption | (repeat (first | exact trivial | refine ⟨⟨_, rfl⟩, ?_⟩))))
  k_with "compareOp NotEq str str" => (k_here; (with_reducible show wpAny _ _ (compareOp CmpOp.NotEq (Value.str (tw (_ :: _)) _) (Value.str (Str.ofString "") _)) _ _ _); k_dflt (refine twl_ne1 ?_))
  k_with "call builtin:len" => (k_here; (with_reducible show wpAny _ _ (call (Value.builtin "len") [Value.str (tw _) _]) _ _ _); k_dflt (refine twl_len (by first | (simp only [List.length_append, List.length_cons, List.length_nil]; omega) | omega) ?_; intro _ _))
  k_with "subscriptTail" => (k_here; (with_reducible show wpAny _ _ (subscriptTail _ _ (Value.str (tw _) _) (Value.int _ _)) _ _ _); k_dflt (refine twl_item (by assumption) (by omega) (by omega) ?_; intro _ _))
  k_with "subscriptTail Name Name str int" => (k_here; (with_reducible show wpAny _ _ (subscriptTail _ _ (Value.str (tw _) _) (Value.int _ _)) _ _ _); k_dflt (refine twl_item (by assumption) (by omega) (by omega) ?_; intro _ _))
  k_with "subscriptTail Name BinOp str int" => (k_here; (with_reducible show wpAny _ _ (subscriptTail _ _ (Value.str (tw _) _) (Value.int _ _)) _ _ _); k_dflt (refine twl_item (by assumption) (by omega) (by omega) ?_; intro _ _))
  k_with "subscriptTail Name Constant str int" => (k_here; (with_reducible show wpAny _ _ (subscriptTail _ _ (Value.str (tw _) _) (Value.int _ _)) _ _ _); k_dflt (refine twl_item (by assumption) (by omega) (by omega) ?_; intro _ _))
  k_with "binaryOp Add str str" => (k_here; (with_reducible show wpAny _ _ (binaryOp Operator.Add (Value.str (tw _) _) (Value.str (tw _) _)) _ _ _); k_dflt (refine twl_add (by first | (simp only [List.length_append, List.length_cons, List.length_nil]; omega) | omega) ?_; intro _ _))
  k_with "inplaceOp Add str str" => (k_here; (with_reducible show wpAny _ _ (inplaceOp Operator.Add (Value.str (tw _) _) (Value.str (tw _) _)) _ _ _); k_dflt (refine twl_iadd (by first | (simp only [List.length_append, List.length_cons, List.length_nil]; omega) | omega) ?_; intro _ _))
  k_with "inplaceOp Add" => (k_here; (with_reducible show wpAny _ _ (inplaceOp Operator.Add (Value.str (tw _) _) (Value.str (tw _) _)) _ _ _); k_dflt (refine twl_iadd (by first | (simp only [List.length_append, List.length_cons, List.length_nil]; omega) | omega) ?_; intro _ _))
  k_with "MYSTEPS" => repeat' ((fail_if_success (with_reducible show wpAny _ _ (pyIter _) _ _ _)); (fail_if_success (with_reducible show wpAny _ _ (eval (PySem.Expr.ListComp _ _ _ _) _) _ _ _)); (fail_if_success (with_reducible show wpAny _ _ (call (Value.ref 188) _) _ _ _)); (fail_if_success (with_reducible show wpAny _ _ (call (Value.ref 200) _) _ _ _)); (fail_if_success (with_reducible show wpAny _ _ (call (Value.ref 205) _) _ _ _)); (fail_if_success (with_reducible show wpAny _ _ (call (Value.ref 217) _) _ _ _)); (fail_if_success (with_reducible show PyProof.Rows.LCg.CompSrc _ _ _ _ _ _ _ _ _ _ _ _ _ _)); first | (k_unfold; (try dsimp only)) | (k_end; wrow_close) | walk1 | (dsimp only; walk1) | (leave1; try dsimp only))
  k_with "subscriptTail" => (k_here; (with_reducible show wpAny _ _ (subscriptTail _ _ (Value.ref _) (Value.str (tw [_]) _)) _ _ _); k_dflt (first | (refine kda_item (knd := PySem.strKind _ _) (kvs := skv _) (by k_asm) (by k_mem) (by assumption) (strKind_is _ _ _ _) (skv_at (by assumption)) ?_) | (refine kda_item (knd := PySem.strKind _ _) (kvs := fkv _ _) (by k_asm) (by k_mem) (by assumption) (strKind_is _ _ _ _) (fkv_at (by assumption)) ?_)))
  k_with "subscriptTail Name Name ref str" => (k_here; (with_reducible show wpAny _ _ (subscriptTail _ _ (Value.ref _) (Value.str (tw [_]) _)) _ _ _); k_dflt (first | (refine kda_item (knd := PySem.strKind _ _) (kvs := skv _) (by k_asm) (by k_mem) (by assumption) (strKind_is _ _ _ _) (skv_at (by assumption)) ?_) | (refine kda_item (knd := PySem.strKind _ _) (kvs := fkv _ _) (by k_asm) (by k_mem) (by assumption) (strKind_is _ _ _ _) (fkv_at (by assumption)) ?_)))
  k_with "subscriptTail Name Subscript ref str" => (k_here; (with_reducible show wpAny _ _ (subscriptTail _ _ (Value.ref _) (Value.str (tw [_]) _)) _ _ _); k_dflt (first | (refine kda_item (knd := PySem.strKind _ _) (kvs := skv _) (by k_asm) (by k_mem) (by assumption) (strKind_is _ _ _ _) (skv_at (by assumption)) ?_) | (refine kda_item (knd := PySem.strKind _ _) (kvs := fkv _ _) (by k_asm) (by k_mem) (by assumption) (strKind_is _ _ _ _) (fkv_at (by assumption)) ?_)))
  k_with "exec For" => (k_here; (with_reducible show wpAny _ _ (exec (Stmt.For _ _ _ [] _) _) _ _ _); (rename Fr _ _ _ _ => lF'); (with_unfolding_all refine For_X lF' ?_ (by exact fun _ => rfl); k_whole))
  k_with "exec For Name Name cons nil" => k_extra "exec For"
  k_with "exec For Name Call cons nil" => k_extra "exec For"
  k_with "exec For Name Constant cons nil" => k_extra "exec For"
  k_with "exec For Name BinOp cons nil" => k_extra "exec For"
  k_with "subscriptTail" => (k_here; (with_reducible show wpAny _ _ (subscriptTail _ _ (Value.str (Str.ofString "abcd") _) (Value.int _ _)) _ _ _); (rename Int.fmod _ 4 = _ => he); rw [he]; k_dflt (refine twl_item (l := [0, 1, 2, 3]) (idx4 (by assumption)) rfl (by decide) ?_; intro _ _))
  k_with "subscriptTail Constant BinOp str int" => k_extra "subscriptTail"
  k_with "call builtin:str.join" => (k_here; k_dflt (refine join_letters (by assumption) (by assumption) (by k_asm) (by k_mem) rfl ?_; intro _ _))
  k_with "binaryOp Add str str" => (k_here; (with_reducible show wpAny _ _ (binaryOp Operator.Add (Value.str (tw _) _) (Value.str (Str.ofString "dcabd") _)) _ _ _); k_dflt (refine twl_add (b := [3, 2, 0, 1, 3]) (by (simp only [List.length_cons, List.length_nil]; omega)) ?_; intro _ _))
  k_with "subscriptTail BinOp Slice str ref" => (k_here; (with_reducible show wpAny _ _ (subscriptTail _ (Expr.Slice none (some _) none _) (Value.str (tw _) _) _) _ _ _); (with_reducible rename Fr _ _ _ _ => F'); (with_reducible rename News _ _ _ _ => N'); (refine slice_strN_ns (hsz := by (rw [tw_len, sizeLine_eq]; simp only [List.length_append, List.length_cons, List.length_nil]; omega)) (s := ⟨_, _, _, _, _⟩) F' N' ?_); intro _ _ _ _ _; rw [slice_tw])
  k_with "subscriptTail Name Slice str ref" => k_extra "subscriptTail BinOp Slice str ref"
  k_with "compareOp NotEq str str" => (k_here; (with_reducible show wpAny _ _ (compareOp CmpOp.NotEq (Value.str (tw _) _) (Value.str (tw _) _)) _ _ _); k_dflt (refine twl_ne ?_))
  k_with "compareOp Eq ref ref" => (k_here; (with_reducible show wpAny _ _ (compareOp CmpOp.Eq (Value.ref _) (Value.ref _)) _ _ _); k_dflt (refine empty_eq (by exact News.isList (by assumption) (by k_mem)) (by exact News.isList (by assumption) (by k_mem)) (by first | ktr_units | units_room) ?_))
  k_with "compareOp In str str" => (k_here; (with_reducible show wpAny _ _ (compareOp CmpOp.In (Value.str (tw [_]) _) (Value.str (tw _) _)) _ _ _); k_dflt (refine tw1_in (by assumption) ?_))
  k_with "compareOp NotEq ref ref" => (k_here; (with_reducible show wpAny _ _ (compareOp CmpOp.NotEq (Value.ref _) (Value.ref _)) _ _ _); k_dflt (refine lets_ne_same (xs := _) (ys := _) (by exact News.isList (by assumption) (by k_mem)) (by exact News.isList (by assumption) (by k_mem)) (by assumption) (by assumption) (by assumption) (by assumption) (by first | ktr_units | units_room) ?_))
  unfold WalkX
  k_go0
  all_goals try k_fold
  rename World => w
  rename Shared => s1
  rename List Int => ns
  rename IntsAre _ ns => hns
  walk_at "MYSTEPS"
  rename Fr _ _ _ _ => F9
  rename News _ _ _ _ => N9
  obtain ⟨b, hb, eb⟩ := fmod64 _
  rw [eb]
  obtain ⟨oA, oB, rfl, rfl, N8⟩ := cells_name N9 (by assumption)
  k_dflt (refine' callS_use (s_foes w b hb _ [(s1.heap.objs.size + 1 + 1, oA), (s1.heap.objs.size + 1, oB), (57, tabObj #[])]) ?hB F9 ?hX N8 ?hT ?hk ?hd ?hu ?_)
  case hB => k_asm
  case hX => k_asm
  case hT => k_asm
  case hk => first | exact rfl | assumption
  case hd => ktr_room
  case hu => ktr_units
  intro FD fo tf tk2 h2 hfo F2 N2 hsep
  clear F9 N9 N8
  have hG := gr_fGi b hb
  walk_at "MYSTEPS"
  rename Fr _ _ _ _ => F8
  rename News _ _ _ _ => N8
  (try clear F2); (try clear N2)
  k_dflt (refine PyProof.Rows.LCg.ListComp_U (F₀ := F8) (by with_unfolding_all rfl) (by decide) (by rfl) (by decide) (by rfl) ?_)
  walk_at "MYSTEPS"
  rename Fr _ _ _ _ => F7
  rename News _ _ _ _ => N7
  rename IntsAre _ (List.take _ _) => hI
  rename List Value => vs
  have hvl : vs.length ≤ 6 := by
    rw [ints_len hI, List.length_take, List.length_drop]
    omega
  rename Addr => SD
  rename @LT.lt Nat _ _ SD ∧ _ => hlS
  refine PyProof.Rows.LCg.CompSrc.ledger (by rfl) F7 N7 (.head _) (by rw [sizeLine_eq]; simp; omega) ?_
  intro g
  refine compU_J (fun i ys news => news = (SD, W.listOf vs.toArray 0) :: (FD, fo) :: (s1.heap.objs.size + 1 + 1, oA) :: (s1.heap.objs.size + 1, oB) :: [(57, tabObj #[])] ∧ ∃ H, Strs ys H ∧ H.length = i ∧ ∀ x ∈ H, x < 4) ?_ ?_ vs.toArray.size 0 [] _ (Nat.zero_add _) ⟨rfl, [], trivial, rfl, fun _ h => by cases h⟩
  · rintro i ys news₂ v I oI C oC D m₂ h3 tk3 E' hi hv ⟨rfl, H, hY, hHl, hH4⟩ hC hx F3 N3 hO hne
    refine elt_abs ?_
    intro QT1 hQT1
    as_aux_lemma =>
    clear F7 N7; (try clear F8); (try clear N8)
    obtain ⟨z, tz, rfl⟩ := ints_at (i := i) hI (by simpa using hv)
    obtain ⟨c, hc4, he⟩ := fmod4 z
    walk_at "MYSTEPS"
    rename Fr _ _ _ _ => F8
    rename News _ _ _ _ => N8
    refine hQT1 _ _ (PyProof.Rows.LCg.CompEnd.intro F8 N8 _ (fun _ hp => hp) hO (.inr ⟨_, .head _, rfl, _, rfl⟩) ⟨rfl, H ++ [c], strs_snoc hY, by simp [hHl], fun x hx => ?_⟩)
    rcases List.mem_append.mp hx with q | q
    · exact hH4 x q
    · rw [List.mem_singleton.mp q]; exact hc4
  · rintro ys news₂ ⟨rfl, H, hY, hHl, hH4⟩
    intro D h3 tk3 F3 N3 hO
    clear F7 N7; (try clear F8); (try clear N8)
    have hH6 : H.length ≤ 6 := by rw [hHl]; simpa using hvl
    change News _ _ _ ((D, listOf ys.toArray ys.length) :: _) at N3
    walk_at "MYSTEPS"
    rename Fr _ _ _ _ => F8
    rename News _ _ _ _ => N8
    have hW4 := mem_wd hH4
    obtain ⟨hW1, hW6⟩ := len_wd H
    generalize List.take 6 (H ++ [3, 2, 0, 1, 3]) = wd at F8 hW4 hW1 hW6 ⊢
    k_dflt (refine' callS_use (s_least w FD fo (fGi b 6) hG tf hfo wd hW4 hW6 _ [(s1.heap.objs.size + 1 + 1, oA), (s1.heap.objs.size + 1, oB), (57, tabObj #[])] hsep) ?hB F8 ?hX (ledger_drop N8 (by walk_at "MYSUB")) ?hT ?hk ?hd ?hu ?_)
    case hB => k_asm
    case hX => k_asm
    case hT => k_asm
    case hk => first | exact rfl | assumption
    case hd => ktr_room
    case hu => ktr_units
    intro LQ LF t1 n1 tk4 h4 F4 N4
    (try clear F3); (try clear N3); (try clear F8); (try clear N8)
    walk_at "MYSTEPS"
    rename Fr _ _ _ _ => F8
    rename News _ _ _ _ => N8
    have hdA : ∃ v, oA.data = .cell v := ⟨_, by assumption⟩
    have hdB : ∃ v, oB.data = .cell v := ⟨_, by assumption⟩
    obtain ⟨_, hdA⟩ := hdA
    obtain ⟨_, hdB⟩ := hdB
    have hQA : @Ne Nat LQ (s1.heap.objs.size + 1 + 1) := ne_of_data N8 (by k_mem) (by k_mem) (by rw [hdA]; nofun)
    have hQB : @Ne Nat LQ (s1.heap.objs.size + 1) := ne_of_data N8 (by k_mem) (by k_mem) (by rw [hdB]; nofun)
    have hEA : @Ne Nat LF (s1.heap.objs.size + 1 + 1) := ne_of_data N8 (by k_mem) (by k_mem) (by rw [hdA]; nofun)
    have hEB : @Ne Nat LF (s1.heap.objs.size + 1) := ne_of_data N8 (by k_mem) (by k_mem) (by rw [hdB]; nofun)
    have hDA : @Ne Nat (s1.heap.objs.size + 1 + 1) FD := hsep _ (.head _)
    have hDB : @Ne Nat (s1.heap.objs.size + 1) FD := hsep _ (.tail _ (.head _))
    have hD57 : @Ne Nat 57 FD := hsep (57, tabObj #[]) (.tail _ (.tail _ (.head _)))
    (rename oA.data = Data.cell (bindC _ _ _ _) => hz; clear hz)
    (rename oB.data = Data.cell (bindC _ _ _ _) => hz; clear hz)
    (rename CellsAre _ _ _ => hz; clear hz)
    (rename Dflts _ _ _ _ _ _ => hz; clear hz)
    obtain ⟨m0, F9⟩ := frame_gen F8
    clear F8
    k_dflt (refine iter_tw_X (l := [0, 1, 2, 3]) (fun i m news => m = _ ∧ ∃ oA oB : Obj, news = (LQ, tupObj [.str (tw (gr (fGi b 6) wd.length wd)) t1, .ref LF]) :: (LF, listOf #[] n1) :: (FD, fo) :: (s1.heap.objs.size + 1 + 1, oA) :: (s1.heap.objs.size + 1, oB) :: [(57, tabObj #[])] ∧ (∃ v, oA.data = .cell v) ∧ ∃ v, oB.data = .cell v) rfl F9 N8 ⟨rfl, oA, oB, rfl, ⟨_, hdA⟩, ⟨_, hdB⟩⟩ ?_ ?_ (by passes_own))
    · rintro i a t2 m₁ news₁ h5 tk5 I o hi ⟨rfl, oA1, oB1, rfl, ⟨vA1, dA1⟩, ⟨vB1, dB1⟩⟩ hoff F5 N5
      refine turn_abs ?_
      intro QT2 hQT2
      as_aux_lemma =>
      (try clear F4); (try clear N4); (try clear F9); (try clear N8)
      have ha4 : a < 4 := by
        have hi' := (List.getElem?_eq_some_iff.mp hi).1
        have h3 : i = 0 ∨ i = 1 ∨ i = 2 ∨ i = 3 := by simp at hi'; omega
        rcases h3 with rfl | rfl | rfl | rfl <;> (obtain rfl := Option.some.inj hi; decide)
      have hGa := hG.ln a ha4
      have hIA : @Ne Nat (s1.heap.objs.size + 1 + 1) I := hoff _ (.tail _ (.tail _ (.tail _ (.head _))))
      have hIB : @Ne Nat (s1.heap.objs.size + 1) I := hoff _ (.tail _ (.tail _ (.tail _ (.tail _ (.head _)))))
      walk_at "MYSTEPS"
      rename Fr _ _ _ _ => F8
      rename News _ _ _ _ => N8
      (try clear F5); (try clear N5)
      rename Obj => oB2
      rename oB2.data = _ => dB2
      k_dflt (refine iter_tw_X (l := [a] ++ fGi b 6 a) (fun i m news => m = _ ∧ ∃ oA : Obj, news = (I, o) :: (LQ, tupObj [.str (tw (gr (fGi b 6) wd.length wd)) t1, .ref LF]) :: (LF, listOf #[] n1) :: (FD, fo) :: (s1.heap.objs.size + 1 + 1, oA) :: (s1.heap.objs.size + 1, oB2) :: [(57, tabObj #[])] ∧ ∃ v, oA.data = .cell v) rfl F8 N8 ⟨rfl, oA1, rfl, ⟨_, dA1⟩⟩ ?_ ?_ (by passes_own))
      · rintro i2 q t3 m₂ news₂ h6 tk6 I2 o2 hi2 ⟨rfl, oA2, rfl, ⟨vA2, dA2⟩⟩ hoff2 F6 N6
        refine turn_abs ?_
        intro QT3 hQT3
        as_aux_lemma =>
        (try clear F8); (try clear N8)
        have hqm : q ∈ a :: fGi b 6 a := List.mem_of_getElem? hi2
        have hI2A : @Ne Nat (s1.heap.objs.size + 1 + 1) I2 := hoff2 _ (.tail _ (.tail _ (.tail _ (.tail _ (.head _)))))
        have hpj := proj_eq hG hW4 ha4 hqm
        walk_at "MYSTEPS"
        rename Fr _ _ _ _ => F8
        rename News _ _ _ _ => N8
        (try clear F6); (try clear N6)
        rename Obj => oA3
        rename oA3.data = _ => dA3
        have hgl := gr_len hG hW4
        have hf4 : ∀ z ∈ wd.filter (fun z => ([a] ++ [q]).contains z), z < 4 := fun z hz => hW4 z (List.mem_filter.mp hz).1
        k_dflt (refine ListComp_S (F₀ := F8) (by with_unfolding_all rfl) (by decide) (by rfl) (by decide) (by rfl) ?_)
        iterate 1 walk1
        refine ⟨tw wd, _, _, rfl, rfl, F8, N8, by rw [show (tw wd).cps.size = wd.length from by simp [tw], sizeLine_eq]; omega, ?_⟩
        rintro s₂ ⟨g1, rfl⟩
        rw [show (tw wd).cps.size = wd.length from by simp [tw]]
        refine compT_J (fun i ys news => news = (I2, o2) :: (I, o) :: (LQ, tupObj [.str (tw (gr (fGi b 6) wd.length wd)) t1, .ref LF]) :: (LF, listOf #[] n1) :: (FD, fo) :: (s1.heap.objs.size + 1 + 1, oA3) :: (s1.heap.objs.size + 1, oB2) :: [(57, tabObj #[])] ∧ Strs ys ((wd.take i).filter fun z => ([a] ++ [q]).contains z)) ?_ ?_ wd.length 0 [] _ (Nat.zero_add _) ⟨rfl, trivial⟩
        · rintro i3 ys news₃ v I3 oI C oC D m₃ h7 tk7 E' hi3 hv ⟨rfl, hY⟩ hC hx F7 N7 hO hne
          refine comp_abs ?_
          intro QC4 QN4 hQC4 hQN4
          as_aux_lemma =>
          (try clear F8); (try clear N8)
          obtain ⟨x, u, hx0, rfl⟩ := sign_tw hv
          have etk : ((wd).take (i3 + 1)).filter (fun z => ([a] ++ [q]).contains z) = ((wd).take i3).filter (fun z => ([a] ++ [q]).contains z) ++ [x].filter (fun z => ([a] ++ [q]).contains z) := by
            rw [List.take_add_one, hx0, List.filter_append]; rfl
          cases e1 : ([a] ++ [q]).contains x with
          | false =>
            walk_at "MYSTEPS"
            rename Fr _ _ _ _ => F8
            rename News _ _ _ _ => N8
            refine hQN4 _ _ (PyProof.Rows.LCg.CompEnd.intro F8 N8 _ (fun _ hp => hp) hO trivial ⟨rfl, ?_⟩)
            rw [etk]
            simp only [List.filter_cons, e1, Bool.false_eq_true, if_false, List.filter_nil, List.append_nil]
            exact hY
          | true =>
            walk_at "MYSTEPS"
            rename Fr _ _ _ _ => F8
            rename News _ _ _ _ => N8
            refine hQC4 _ _ (PyProof.Rows.LCg.CompEnd.intro F8 N8 _ (fun _ hp => hp) hO trivial ⟨rfl, ?_⟩)
            rw [etk]
            simp only [List.filter_cons, e1, if_true, List.filter_nil]
            exact strs_snoc hY
        · rintro ys1 news₃ ⟨rfl, hY1⟩
          intro D1 h7 tk7 F7 N7 hO1
          clear F8 N8
          have hOD1 := off1_ne hO1
          change News _ _ _ ((D1, listOf ys1.toArray ys1.length) :: _) at N7
          rw [List.take_length] at hY1
          walk_at "MYSTEPS"
          rename Fr _ _ _ _ => F8
          rename News _ _ _ _ => N8
          (try clear F7); (try clear N7)
          k_dflt (refine ListComp_S (F₀ := F8) (by with_unfolding_all rfl) (by decide) (by rfl) (by decide) (by rfl) ?_)
          iterate 1 walk1
          refine ⟨tw (gr (fGi b 6) wd.length wd), _, _, rfl, rfl, F8, N8, by rw [show (tw (gr (fGi b 6) wd.length wd)).cps.size = (gr (fGi b 6) wd.length wd).length from by simp [tw], sizeLine_eq]; omega, ?_⟩
          rintro s₂ ⟨g2, rfl⟩
          rw [show (tw (gr (fGi b 6) wd.length wd)).cps.size = (gr (fGi b 6) wd.length wd).length from by simp [tw]]
          refine compT_J (fun i ys news => news = (D1, listOf ys1.toArray ys1.length) :: (I2, o2) :: (I, o) :: (LQ, tupObj [.str (tw (gr (fGi b 6) wd.length wd)) t1, .ref LF]) :: (LF, listOf #[] n1) :: (FD, fo) :: (s1.heap.objs.size + 1 + 1, oA3) :: (s1.heap.objs.size + 1, oB2) :: [(57, tabObj #[])] ∧ Strs ys (((gr (fGi b 6) wd.length wd).take i).filter fun z => ([a] ++ [q]).contains z)) ?_ ?_ (gr (fGi b 6) wd.length wd).length 0 [] _ (Nat.zero_add _) ⟨rfl, trivial⟩
          · rintro i3 ys news₃ v I3 oI C oC D m₃ h7 tk7 E' hi3 hv ⟨rfl, hY⟩ hC hx F7 N7 hO hne
            refine comp_abs ?_
            intro QC5 QN5 hQC5 hQN5
            as_aux_lemma =>
            (try clear F8); (try clear N8)
            obtain ⟨x, u, hx0, rfl⟩ := sign_tw hv
            have etk : (((gr (fGi b 6) wd.length wd)).take (i3 + 1)).filter (fun z => ([a] ++ [q]).contains z) = (((gr (fGi b 6) wd.length wd)).take i3).filter (fun z => ([a] ++ [q]).contains z) ++ [x].filter (fun z => ([a] ++ [q]).contains z) := by
              rw [List.take_add_one, hx0, List.filter_append]; rfl
            cases e1 : ([a] ++ [q]).contains x with
            | false =>
              walk_at "MYSTEPS"
              rename Fr _ _ _ _ => F8
              rename News _ _ _ _ => N8
              refine hQN5 _ _ (PyProof.Rows.LCg.CompEnd.intro F8 N8 _ (fun _ hp => hp) hO trivial ⟨rfl, ?_⟩)
              rw [etk]
              simp only [List.filter_cons, e1, Bool.false_eq_true, if_false, List.filter_nil, List.append_nil]
              exact hY
            | true =>
              walk_at "MYSTEPS"
              rename Fr _ _ _ _ => F8
              rename News _ _ _ _ => N8
              refine hQC5 _ _ (PyProof.Rows.LCg.CompEnd.intro F8 N8 _ (fun _ hp => hp) hO trivial ⟨rfl, ?_⟩)
              rw [etk]
              simp only [List.filter_cons, e1, if_true, List.filter_nil]
              exact strs_snoc hY
          · rintro ys2 news₃ ⟨rfl, hY2⟩
            intro D2 h7 tk7 F7 N7 hO2
            clear F8 N8
            have hOD2 := off1_ne hO2
            change News _ _ _ ((D2, listOf ys2.toArray ys2.length) :: _) at N7
            rw [List.take_length] at hY2
            walk_at "MYSTEPS"
            refine hQT3 _ _ (TurnEnd.next F7 (news' := (I, o) :: (LQ, tupObj [.str (tw (gr (fGi b 6) wd.length wd)) t1, .ref LF]) :: (LF, listOf #[] n1) :: (FD, fo) :: (s1.heap.objs.size + 1 + 1, oA3) :: (s1.heap.objs.size + 1, oB2) :: [(57, tabObj #[])]) (ledger_drop N7 (by walk_at "MYSUB")) ?_ ⟨rfl, oA3, rfl, ⟨_, dA3⟩⟩)
            exact List.forall_mem_cons.mpr ⟨hoff2 _ (.head _), List.forall_mem_cons.mpr ⟨hoff2 _ (.tail _ (.head _)), List.forall_mem_cons.mpr ⟨hoff2 _ (.tail _ (.tail _ (.head _))), List.forall_mem_cons.mpr ⟨hoff2 _ (.tail _ (.tail _ (.tail _ (.head _)))), List.forall_mem_cons.mpr ⟨hI2A, List.forall_mem_cons.mpr ⟨hoff2 _ (.tail _ (.tail _ (.tail _ (.tail _ (.tail _ (.head _)))))), List.forall_mem_cons.mpr ⟨hoff2 _ (.tail _ (.tail _ (.tail _ (.tail _ (.tail _ (.tail _ (.head _))))))), List.forall_mem_nil _⟩⟩⟩⟩⟩⟩⟩
      · rintro m₂ news₂ h6 tk6 ⟨rfl, oA2, rfl, ⟨vA2, dA2⟩⟩ F6 N6
        (try clear F8); (try clear N8)
        walk_at "MYSTEPS"
        refine hQT2 _ _ (TurnEnd.next F6 N6 ?_ ⟨rfl, oA2, oB2, rfl, ⟨_, dA2⟩, ⟨_, dB2⟩⟩)
        exact List.forall_mem_cons.mpr ⟨hoff _ (.head _), List.forall_mem_cons.mpr ⟨hoff _ (.tail _ (.head _)), List.forall_mem_cons.mpr ⟨hoff _ (.tail _ (.tail _ (.head _))), List.forall_mem_cons.mpr ⟨hIA, List.forall_mem_cons.mpr ⟨hIB, List.forall_mem_cons.mpr ⟨hoff _ (.tail _ (.tail _ (.tail _ (.tail _ (.tail _ (.head _)))))), List.forall_mem_nil _⟩⟩⟩⟩⟩⟩
    · rintro m₁ news₁ h5 tk5 ⟨rfl, oA1, oB1, rfl, _, _⟩ F5 N5
      (try clear F9); (try clear N8)
      walk_at "MYSTEPS"
      rename Fr _ _ _ _ => F8
      rename News _ _ _ _ => N8
      obtain ⟨ht1, ht2⟩ := law_true hb hW4
      obtain ⟨hrb1, hrb2⟩ := runs_bounds hG (n := wd.length)
      have hgl := gr_len hG hW4
      have hg4 := gr_lt hG hW4
      have hE57 : @Ne Nat LF 57 := ne_of_data (o1 := listOf #[] n1) (o2 := tabObj #[]) N8 (by k_mem) (by k_mem) nofun
      have hED : @Ne Nat LF FD := ne_of_data (o1 := listOf #[] n1) (o2 := fo) N8 (by k_mem) (by k_mem) (by obtain ⟨es, ep, _, e, _⟩ := hfo; rw [e]; nofun)
      k_dflt (refine' callT_use (s_runs w FD fo (fGi b 6) hG tf hfo wd.length hW6 hW1 _ #[] (.inl rfl) [(LF, listOf #[] n1)] (fun p hp => by rw [List.mem_singleton.mp hp]; exact hE57) (fun p hp => by rw [List.mem_singleton.mp hp]; exact hED) (Ne.symm hD57)) ?hB F8 ?hX (ledger_drop N8 (by walk_at "MYSUB")) ?hT codeHd ?hk ?hd ?hu ?_)
      case hB => k_asm
      case hX => k_asm
      case hT => k_asm
      case hk => first | exact rfl | assumption
      case hd => ktr_room
      case hu => ktr_units
      intro RA refs k7 rl ps' tk7 h7 hRI hps' F7 N7
      (try clear F8); (try clear N8); (try clear F5); (try clear N5)
      replace N7 := led_end N7
      have hRI' := runsIn_mono (l' := (RA, listOf refs.toArray k7) :: (LF, listOf #[] n1) :: (57, tabObj ps') :: rl) hRI (fun p hp => .tail _ (.tail _ (.tail _ hp)))
      walk_at "MYSTEPS"
      rename Fr _ _ _ _ => F8
      rename News _ _ _ _ => N8
      (try clear F7); (try clear N7)
      k_dflt (refine' callS_use (s_taken w RA refs k7 (runsOf (fGi b 6) wd.length) (gr (fGi b 6) wd.length wd) hg4 (by rw [hgl]; exact hW6) (fun r hr => by rw [hgl]; exact hrb1 r hr) hrb2 _ ((RA, listOf refs.toArray k7) :: (LF, listOf #[] n1) :: (57, tabObj ps') :: rl) (.head _) hRI') ?hB F8 ?hX (ledger_drop N8 (by walk_at "MYSUB")) ?hT ?hk ?hd ?hu ?_)
      case hB => k_asm
      case hX => k_asm
      case hT => k_asm
      case hk => first | exact rfl | assumption
      case hd => ktr_room
      case hu => ktr_units
      intro tk8 h8 F7 N7
      rw [ht1]
      (try clear F8); (try clear N8)
      walk_at "MYSTEPS"
      rename Fr _ _ _ _ => F8
      rename News _ _ _ _ => N8
      (try clear F7); (try clear N7)
      k_dflt (refine' callS_use (s_taken w RA refs k7 (runsOf (fGi b 6) wd.length) wd hW4 hW6 hrb1 hrb2 _ ((RA, listOf refs.toArray k7) :: (LF, listOf #[] n1) :: (57, tabObj ps') :: rl) (.head _) hRI') ?hB F8 ?hX (ledger_drop N8 (by walk_at "MYSUB")) ?hT ?hk ?hd ?hu ?_)
      case hB => k_asm
      case hX => k_asm
      case hT => k_asm
      case hk => first | exact rfl | assumption
      case hd => ktr_room
      case hu => ktr_units
      intro tk9 h9 F7 N7
      rw [ht2]
      (try clear F8); (try clear N8)
      walk_at "MYSTEPS")
end
end
end Mine
theorem PySem.Challenge.cw_rx0045_01_holds : PySem.Challenge.rw_rx0045_01.Holds := by
  exact Mine.lawgo
