import PyProof.Rows.All
import Wide.All
import OpenK.AllK
import Wide.FinOn
import PySem.Challenge.RW_wn0047_01
open PySem PySem.W PySem.Calls PyProof.Rows
set_option Elab.async false
set_option linter.all false
set_option compiler.extract_closed false
namespace Mine
set_option maxRecDepth 100000
set_option maxHeartbeats 8000000
local macro_rules | `(tactic| k_room) => `(tactic| k_extra "k_room")
local macro_rules | `(tactic| tb_start) => `(tactic| k_extra "tb_start")
local macro_rules | `(tactic| tb_rel) => `(tactic| k_extra "tb_rel")
local macro_rules | `(tactic| k_units) => `(tactic| k_extra "k_units")
local macro_rules | `(tactic| walk_at $s:str) => `(tactic| k_extra $s)
local macro_rules | `(tactic| k_ne) => `(tactic| (refine neN ?_; (try dsimp only); first | k_extra "ne" | omega))
-- Hd
/-- a statement of the text's top -/
noncomputable def stm (n : Nat) : Stmt := match (PySem.Challenge.pw_wn0047_01.main.body)[n]? with | some s => s | none => default
/-- a method of its first class -/
noncomputable def meth (n : Nat) : Stmt := match stm 1 with
  | .ClassDef _ _ _ body _ _ _ _ _ _ _ => (match (body : List Stmt)[n]? with | some s => s | none => default)
  | _ => default
/-- what a def leaves on the heap -/
noncomputable def fnO (nm q md : String) (k : Tok) (c : Nat) : Stmt → Obj
  | .FunctionDef _ ps bd _ _ _ sc _ _ _ => Obj.mk (Value.type "function") none (Data.func (FuncData.mk (Str.ofString nm) (Str.ofString q) ps (FuncBody.stmts bd) sc 3 [] Value.none Value.none Value.none (Value.str (Str.ofString md) k) none (Value.ref c) Value.none 0)) #[]
  | _ => default
/-- the part of the heap behind the top that the law can come to -/
noncomputable def hd.heap_39 : Params → Frag := fun P =>
  (nat_lit 2, Obj.mk Value.none none (Data.dict #[DictEntry.mk (PyData.keyHash P (Str.ofString "type.__subclasses__.Exception.0")) (Value.str (Str.ofString "type.__subclasses__.Exception.0") 265) (Value.int 66 0), DictEntry.mk (PyData.keyHash P (Str.ofString "type.__subclasses__.Exception.n")) (Value.str (Str.ofString "type.__subclasses__.Exception.n") 266) (Value.int 1 0)] 2) #[]) ::
  (nat_lit 3, Obj.mk (Value.type "dict") none (Data.dict #[DictEntry.mk (PyData.keyHash P (Str.ofString "__name__")) (Value.str (Str.ofString "__name__") 165) (Value.str (Str.ofString "law_wn0047_01") 346), DictEntry.mk (PyData.keyHash P (Str.ofString "__doc__")) (Value.str (Str.ofString "__doc__") 166) Value.none, DictEntry.mk (PyData.keyHash P (Str.ofString "__package__")) (Value.str (Str.ofString "__package__") 167) Value.none, DictEntry.mk (PyData.keyHash P (Str.ofString "__loader__")) (Value.str (Str.ofString "__loader__") 168) (Value.builtin "__main__.__loader__#opaque"), DictEntry.mk (PyData.keyHash P (Str.ofString "__spec__")) (Value.str (Str.ofString "__spec__") 169) Value.none, DictEntry.mk (PyData.keyHash P (Str.ofString "__annotations__")) (Value.str (Str.ofString "__annotations__") 170) (Value.ref 6), DictEntry.mk (PyData.keyHash P (Str.ofString "__builtins__")) (Value.str (Str.ofString "__builtins__") 171) (Value.ref 4), DictEntry.mk (PyData.keyHash P (Str.ofString "__file__")) (Value.str (Str.ofString "__file__") 173) (Value.str (Str.ofString "/claim/cut.py") 172), DictEntry.mk (PyData.keyHash P (Str.ofString "__cached__")) (Value.str (Str.ofString "__cached__") 174) Value.none, DictEntry.mk (PyData.keyHash P (Str.ofString "_netrclex")) (Value.str (Str.ofString "_netrclex") 246) (Value.ref 52), DictEntry.mk (PyData.keyHash P (Str.ofString "Error")) (Value.str (Str.ofString "Error") 268) (Value.ref 66), DictEntry.mk (PyData.keyHash P (Str.ofString "error_reply")) (Value.str (Str.ofString "error_reply") 284) (Value.ref 79), DictEntry.mk (PyData.keyHash P (Str.ofString "error_proto")) (Value.str (Str.ofString "error_proto") 300) (Value.ref 91), DictEntry.mk (PyData.keyHash P (Str.ofString "parse229")) (Value.str (Str.ofString "parse229") 313) (Value.ref 100), DictEntry.mk (PyData.keyHash P (Str.ofString "parse257")) (Value.str (Str.ofString "parse257") 324) (Value.ref 107), DictEntry.mk (PyData.keyHash P (Str.ofString "_strcoll")) (Value.str (Str.ofString "_strcoll") 334) (Value.ref 114), DictEntry.mk (PyData.keyHash P (Str.ofString "CHAR_MAX")) (Value.str (Str.ofString "CHAR_MAX") 336) (Value.int 127 335), DictEntry.mk (PyData.keyHash P (Str.ofString "_grouping_intervals")) (Value.str (Str.ofString "_grouping_intervals") 345) (Value.ref 121), DictEntry.mk (PyData.keyHash P (Str.ofString "_law_seeds")) (Value.str (Str.ofString "_law_seeds") 356) (Value.ref 128), DictEntry.mk (PyData.keyHash P (Str.ofString "_law_name")) (Value.str (Str.ofString "_law_name") 365) (Value.ref 135), DictEntry.mk (PyData.keyHash P (Str.ofString "_law_text")) (Value.str (Str.ofString "_law_text") 374) (Value.ref 142), DictEntry.mk (PyData.keyHash P (Str.ofString "_law_lexer")) (Value.str (Str.ofString "_law_lexer") 383) (Value.ref 149), DictEntry.mk (PyData.keyHash P (Str.ofString "_law_boxes")) (Value.str (Str.ofString "_law_boxes") 396) (Value.ref 156), DictEntry.mk (PyData.keyHash P (Str.ofString "_law_ruler")) (Value.str (Str.ofString "_law_ruler") 402) (Value.ref 161), DictEntry.mk (PyData.keyHash P (Str.ofString "_law_calls")) (Value.str (Str.ofString "_law_calls") 413) (Value.ref 168), DictEntry.mk (PyData.keyHash P (Str.ofString "_law_marked")) (Value.str (Str.ofString "_law_marked") 423) (Value.ref 175), DictEntry.mk (PyData.keyHash P (Str.ofString "_law_named")) (Value.str (Str.ofString "_law_named") 430) (Value.ref 182), DictEntry.mk (PyData.keyHash P (Str.ofString "_law_run")) (Value.str (Str.ofString "_law_run") 436) (Value.ref 187), DictEntry.mk (PyData.keyHash P (Str.ofString "_law_first")) (Value.str (Str.ofString "_law_first") 442) (Value.ref 192), DictEntry.mk (PyData.keyHash P (Str.ofString "_law_due")) (Value.str (Str.ofString "_law_due") 448) (Value.ref 197), DictEntry.mk (PyData.keyHash P (Str.ofString "law")) (Value.str (Str.ofString "law") 454) (Value.ref 202)] 31) #[]) ::
  (nat_lit 22, Obj.mk (Value.type "tuple") none (Data.seq #[]) #[]) ::
  (nat_lit 24, Obj.mk (Value.type "tuple") none (Data.seq #[Value.str (Str.ofString "self") 204, Value.str (Str.ofString "fp") 205]) #[]) ::
  (nat_lit 25, Obj.mk (Value.type "tuple") none (Data.seq #[]) #[]) ::
  (nat_lit 27, Obj.mk (Value.type "code") none (Data.fields #[Value.str (Str.ofString "__init__") 201, Value.str (Str.ofString "_netrclex.__init__") 202, Value.str (Str.ofString "/claim/cut.py") 203, Value.int 4 0, Value.int 2 0, Value.int 0 0, Value.int 0 0, Value.int 3 0, Value.ref 22, Value.bool true, Value.int 181 0, Value.ref 23, Value.none, Value.ref 24, Value.ref 25, Value.ref 26, Value.int 206 0, Value.int 4 0, Value.str (Str.ofString "/claim/cut.py") 207]) #[]) ::
  (nat_lit 28, fnO "__init__" "_netrclex.__init__" "cpy313.netrc" 187 27 (meth 0)) ::
  (nat_lit 29, Obj.mk (Value.type "tuple") none (Data.seq #[]) #[]) ::
  (nat_lit 31, Obj.mk (Value.type "tuple") none (Data.seq #[Value.str (Str.ofString "self") 212, Value.str (Str.ofString "ch") 213]) #[]) ::
  (nat_lit 32, Obj.mk (Value.type "tuple") none (Data.seq #[]) #[]) ::
  (nat_lit 34, Obj.mk (Value.type "code") none (Data.fields #[Value.str (Str.ofString "_read_char") 209, Value.str (Str.ofString "_netrclex._read_char") 210, Value.str (Str.ofString "/claim/cut.py") 211, Value.int 10 0, Value.int 1 0, Value.int 0 0, Value.int 0 0, Value.int 3 0, Value.ref 29, Value.bool true, Value.int 181 0, Value.ref 30, Value.none, Value.ref 31, Value.ref 32, Value.ref 33, Value.int 214 0, Value.int 10 0, Value.str (Str.ofString "/claim/cut.py") 215]) #[]) ::
  (nat_lit 35, fnO "_read_char" "_netrclex._read_char" "cpy313.netrc" 187 34 (meth 1)) ::
  (nat_lit 36, Obj.mk (Value.type "tuple") none (Data.seq #[]) #[]) ::
  (nat_lit 38, Obj.mk (Value.type "tuple") none (Data.seq #[Value.str (Str.ofString "self") 220, Value.str (Str.ofString "token") 221, Value.str (Str.ofString "fiter") 222, Value.str (Str.ofString "ch") 223]) #[]) ::
  (nat_lit 39, Obj.mk (Value.type "tuple") none (Data.seq #[]) #[]) ::
  (nat_lit 41, Obj.mk (Value.type "code") none (Data.fields #[Value.str (Str.ofString "get_token") 217, Value.str (Str.ofString "_netrclex.get_token") 218, Value.str (Str.ofString "/claim/cut.py") 219, Value.int 16 0, Value.int 1 0, Value.int 0 0, Value.int 0 0, Value.int 3 0, Value.ref 36, Value.bool true, Value.int 181 0, Value.ref 37, Value.none, Value.ref 38, Value.ref 39, Value.ref 40, Value.int 224 0, Value.int 16 0, Value.str (Str.ofString "/claim/cut.py") 225]) #[]) ::
  (nat_lit 42, fnO "get_token" "_netrclex.get_token" "cpy313.netrc" 187 41 (meth 2)) ::
  (nat_lit 43, Obj.mk (Value.type "tuple") none (Data.seq #[]) #[]) ::
  (nat_lit 45, Obj.mk (Value.type "tuple") none (Data.seq #[Value.str (Str.ofString "self") 230, Value.str (Str.ofString "token") 231]) #[]) ::
  (nat_lit 46, Obj.mk (Value.type "tuple") none (Data.seq #[]) #[]) ::
  (nat_lit 48, Obj.mk (Value.type "code") none (Data.fields #[Value.str (Str.ofString "push_token") 227, Value.str (Str.ofString "_netrclex.push_token") 228, Value.str (Str.ofString "/claim/cut.py") 229, Value.int 43 0, Value.int 2 0, Value.int 0 0, Value.int 0 0, Value.int 3 0, Value.ref 43, Value.bool true, Value.int 181 0, Value.ref 44, Value.none, Value.ref 45, Value.ref 46, Value.ref 47, Value.int 232 0, Value.int 43 0, Value.str (Str.ofString "/claim/cut.py") 233]) #[]) ::
  (nat_lit 49, fnO "push_token" "_netrclex.push_token" "cpy313.netrc" 187 48 (meth 3)) ::
  (nat_lit 50, Obj.mk (Value.type "tuple") none (Data.seq #[Value.str (Str.ofString "instream") 235, Value.str (Str.ofString "lineno") 236, Value.str (Str.ofString "pushback") 237, Value.str (Str.ofString "whitespace") 238]) #[]) ::
  (nat_lit 51, Obj.mk (Value.type "dict") none (Data.dict #[DictEntry.mk (PyData.keyHash P (Str.ofString "__module__")) (Value.str (Str.ofString "__module__") 196) (Value.str (Str.ofString "cpy313.netrc") 187), DictEntry.mk (PyData.keyHash P (Str.ofString "__firstlineno__")) (Value.str (Str.ofString "__firstlineno__") 200) (Value.int 2 199), DictEntry.mk (PyData.keyHash P (Str.ofString "__init__")) (Value.str (Str.ofString "__init__") 208) (Value.ref 28), DictEntry.mk (PyData.keyHash P (Str.ofString "_read_char")) (Value.str (Str.ofString "_read_char") 216) (Value.ref 35), DictEntry.mk (PyData.keyHash P (Str.ofString "get_token")) (Value.str (Str.ofString "get_token") 226) (Value.ref 42), DictEntry.mk (PyData.keyHash P (Str.ofString "push_token")) (Value.str (Str.ofString "push_token") 234) (Value.ref 49), DictEntry.mk (PyData.keyHash P (Str.ofString "__static_attributes__")) (Value.str (Str.ofString "__static_attributes__") 239) (Value.ref 50), DictEntry.mk (PyData.keyHash P (Str.ofString "__dict__")) (Value.str (Str.ofString "__dict__") 241) (Value.ref 53), DictEntry.mk (PyData.keyHash P (Str.ofString "__weakref__")) (Value.str (Str.ofString "__weakref__") 243) (Value.ref 54), DictEntry.mk (PyData.keyHash P (Str.ofString "__doc__")) (Value.str (Str.ofString "__doc__") 244) Value.none] 4) #[]) ::
  (nat_lit 52, Obj.mk (Value.type "type") none (Data.cls (ClassData.mk (Str.ofString "_netrclex") [Value.type "object"] [Value.ref 52, Value.type "object"] 51 (Str.ofString "_netrclex") true [] [] false none false)) #[none, none, some (Value.str (Str.ofString "_netrclex") 189), some (Value.str (Str.ofString "_netrclex") 197), some (Value.builtin "object.__new__"), some (Value.bool true)]) ::
  (nat_lit 53, Obj.mk (Value.type "getset_descriptor") none (Data.fields #[Value.str (Str.ofString "__dict__") 240, Value.ref 52, Value.builtin "function.__dict__", Value.builtin "function.__dict__#set"]) #[]) ::
  (nat_lit 54, Obj.mk (Value.type "getset_descriptor") none (Data.fields #[Value.str (Str.ofString "__weakref__") 242, Value.ref 52, Value.builtin "ExceptionGroup.__weakref__", Value.none]) #[]) ::
  (nat_lit 57, Obj.mk (Value.type "tuple") none (Data.seq #[Value.type "Exception"]) #[]) ::
  (nat_lit 64, Obj.mk (Value.type "tuple") none (Data.seq #[]) #[]) ::
  (nat_lit 65, Obj.mk (Value.type "dict") none (Data.dict #[DictEntry.mk (PyData.keyHash P (Str.ofString "__module__")) (Value.str (Str.ofString "__module__") 256) (Value.str (Str.ofString "cpy313.ftplib") 247), DictEntry.mk (PyData.keyHash P (Str.ofString "__firstlineno__")) (Value.str (Str.ofString "__firstlineno__") 260) (Value.int 46 259), DictEntry.mk (PyData.keyHash P (Str.ofString "__static_attributes__")) (Value.str (Str.ofString "__static_attributes__") 261) (Value.ref 64), DictEntry.mk (PyData.keyHash P (Str.ofString "__weakref__")) (Value.str (Str.ofString "__weakref__") 263) (Value.ref 67), DictEntry.mk (PyData.keyHash P (Str.ofString "__doc__")) (Value.str (Str.ofString "__doc__") 264) Value.none] 3) #[]) ::
  (nat_lit 66, Obj.mk (Value.type "type") none (Data.cls (ClassData.mk (Str.ofString "Error") [Value.type "Exception"] [Value.ref 66, Value.type "Exception", Value.type "BaseException", Value.type "object"] 65 (Str.ofString "Error") true [] [Value.ref 79, Value.ref 91] false none false)) #[some (Value.ref 57), none, some (Value.str (Str.ofString "Error") 249), some (Value.str (Str.ofString "Error") 257), some (Value.builtin "Exception.__new__"), some (Value.bool true)]) ::
  (nat_lit 67, Obj.mk (Value.type "getset_descriptor") none (Data.fields #[Value.str (Str.ofString "__weakref__") 262, Value.ref 66, Value.builtin "ExceptionGroup.__weakref__", Value.none]) #[]) ::
  (nat_lit 70, Obj.mk (Value.type "tuple") none (Data.seq #[Value.ref 66]) #[]) ::
  (nat_lit 77, Obj.mk (Value.type "tuple") none (Data.seq #[]) #[]) ::
  (nat_lit 78, Obj.mk (Value.type "dict") none (Data.dict #[DictEntry.mk (PyData.keyHash P (Str.ofString "__module__")) (Value.str (Str.ofString "__module__") 276) (Value.str (Str.ofString "cpy313.ftplib") 247), DictEntry.mk (PyData.keyHash P (Str.ofString "__firstlineno__")) (Value.str (Str.ofString "__firstlineno__") 280) (Value.int 48 279), DictEntry.mk (PyData.keyHash P (Str.ofString "__static_attributes__")) (Value.str (Str.ofString "__static_attributes__") 281) (Value.ref 77), DictEntry.mk (PyData.keyHash P (Str.ofString "__doc__")) (Value.str (Str.ofString "__doc__") 282) Value.none] 2) #[]) ::
  (nat_lit 79, Obj.mk (Value.type "type") none (Data.cls (ClassData.mk (Str.ofString "error_reply") [Value.ref 66] [Value.ref 79, Value.ref 66, Value.type "Exception", Value.type "BaseException", Value.type "object"] 78 (Str.ofString "error_reply") true [] [] false none false)) #[some (Value.ref 70), none, some (Value.str (Str.ofString "error_reply") 269), some (Value.str (Str.ofString "error_reply") 277), some (Value.builtin "Exception.__new__"), some (Value.bool true)]) ::
  (nat_lit 82, Obj.mk (Value.type "tuple") none (Data.seq #[Value.ref 66]) #[]) ::
  (nat_lit 89, Obj.mk (Value.type "tuple") none (Data.seq #[]) #[]) ::
  (nat_lit 90, Obj.mk (Value.type "dict") none (Data.dict #[DictEntry.mk (PyData.keyHash P (Str.ofString "__module__")) (Value.str (Str.ofString "__module__") 292) (Value.str (Str.ofString "cpy313.ftplib") 247), DictEntry.mk (PyData.keyHash P (Str.ofString "__firstlineno__")) (Value.str (Str.ofString "__firstlineno__") 296) (Value.int 50 295), DictEntry.mk (PyData.keyHash P (Str.ofString "__static_attributes__")) (Value.str (Str.ofString "__static_attributes__") 297) (Value.ref 89), DictEntry.mk (PyData.keyHash P (Str.ofString "__doc__")) (Value.str (Str.ofString "__doc__") 298) Value.none] 2) #[]) ::
  (nat_lit 91, Obj.mk (Value.type "type") none (Data.cls (ClassData.mk (Str.ofString "error_proto") [Value.ref 66] [Value.ref 91, Value.ref 66, Value.type "Exception", Value.type "BaseException", Value.type "object"] 90 (Str.ofString "error_proto") true [] [] false none false)) #[some (Value.ref 82), none, some (Value.str (Str.ofString "error_proto") 285), some (Value.str (Str.ofString "error_proto") 293), some (Value.builtin "Exception.__new__"), some (Value.bool true)]) ::
  (nat_lit 94, Obj.mk (Value.type "tuple") none (Data.seq #[]) #[]) ::
  (nat_lit 96, Obj.mk (Value.type "tuple") none (Data.seq #[Value.str (Str.ofString "resp") 304, Value.str (Str.ofString "peer") 305, Value.str (Str.ofString "left") 306, Value.str (Str.ofString "right") 307, Value.str (Str.ofString "parts") 308, Value.str (Str.ofString "host") 309, Value.str (Str.ofString "port") 310]) #[]) ::
  (nat_lit 97, Obj.mk (Value.type "tuple") none (Data.seq #[]) #[]) ::
  (nat_lit 99, Obj.mk (Value.type "code") none (Data.fields #[Value.str (Str.ofString "parse229") 301, Value.str (Str.ofString "parse229") 302, Value.str (Str.ofString "/claim/cut.py") 303, Value.int 52 0, Value.int 2 0, Value.int 0 0, Value.int 0 0, Value.int 3 0, Value.ref 94, Value.bool true, Value.int 181 0, Value.ref 95, Value.none, Value.ref 96, Value.ref 97, Value.ref 98, Value.int 311 0, Value.int 52 0, Value.str (Str.ofString "/claim/cut.py") 312]) #[]) ::
  (nat_lit 100, fnO "parse229" "parse229" "cpy313.ftplib" 247 99 (stm 6)) ::
  (nat_lit 101, Obj.mk (Value.type "tuple") none (Data.seq #[]) #[]) ::
  (nat_lit 103, Obj.mk (Value.type "tuple") none (Data.seq #[Value.str (Str.ofString "resp") 317, Value.str (Str.ofString "dirname") 318, Value.str (Str.ofString "i") 319, Value.str (Str.ofString "n") 320, Value.str (Str.ofString "c") 321]) #[]) ::
  (nat_lit 104, Obj.mk (Value.type "tuple") none (Data.seq #[]) #[]) ::
  (nat_lit 106, Obj.mk (Value.type "code") none (Data.fields #[Value.str (Str.ofString "parse257") 314, Value.str (Str.ofString "parse257") 315, Value.str (Str.ofString "/claim/cut.py") 316, Value.int 69 0, Value.int 1 0, Value.int 0 0, Value.int 0 0, Value.int 3 0, Value.ref 101, Value.bool true, Value.int 181 0, Value.ref 102, Value.none, Value.ref 103, Value.ref 104, Value.ref 105, Value.int 322 0, Value.int 69 0, Value.str (Str.ofString "/claim/cut.py") 323]) #[]) ::
  (nat_lit 107, fnO "parse257" "parse257" "cpy313.ftplib" 247 106 (stm 7)) ::
  (nat_lit 108, Obj.mk (Value.type "tuple") none (Data.seq #[]) #[]) ::
  (nat_lit 110, Obj.mk (Value.type "tuple") none (Data.seq #[Value.str (Str.ofString "a") 330, Value.str (Str.ofString "b") 331]) #[]) ::
  (nat_lit 111, Obj.mk (Value.type "tuple") none (Data.seq #[]) #[]) ::
  (nat_lit 113, Obj.mk (Value.type "code") none (Data.fields #[Value.str (Str.ofString "_strcoll") 327, Value.str (Str.ofString "_strcoll") 328, Value.str (Str.ofString "/claim/cut.py") 329, Value.int 87 0, Value.int 2 0, Value.int 0 0, Value.int 0 0, Value.int 3 0, Value.ref 108, Value.bool true, Value.int 181 0, Value.ref 109, Value.none, Value.ref 110, Value.ref 111, Value.ref 112, Value.int 332 0, Value.int 87 0, Value.str (Str.ofString "/claim/cut.py") 333]) #[]) ::
  (nat_lit 114, fnO "_strcoll" "_strcoll" "cpy313.locale" 325 113 (stm 9)) ::
  (nat_lit 115, Obj.mk (Value.type "tuple") none (Data.seq #[]) #[]) ::
  (nat_lit 117, Obj.mk (Value.type "tuple") none (Data.seq #[Value.str (Str.ofString "grouping") 340, Value.str (Str.ofString "last_interval") 341, Value.str (Str.ofString "interval") 342]) #[]) ::
  (nat_lit 118, Obj.mk (Value.type "tuple") none (Data.seq #[]) #[]) ::
  (nat_lit 120, Obj.mk (Value.type "code") none (Data.fields #[Value.str (Str.ofString "_grouping_intervals") 337, Value.str (Str.ofString "_grouping_intervals") 338, Value.str (Str.ofString "/claim/cut.py") 339, Value.int 90 0, Value.int 1 0, Value.int 0 0, Value.int 0 0, Value.int 35 0, Value.ref 115, Value.bool true, Value.int 181 0, Value.ref 116, Value.none, Value.ref 117, Value.ref 118, Value.ref 119, Value.int 343 0, Value.int 90 0, Value.str (Str.ofString "/claim/cut.py") 344]) #[]) ::
  (nat_lit 121, fnO "_grouping_intervals" "_grouping_intervals" "cpy313.locale" 325 120 (stm 11)) ::
  (nat_lit 122, Obj.mk (Value.type "tuple") none (Data.seq #[]) #[]) ::
  (nat_lit 124, Obj.mk (Value.type "tuple") none (Data.seq #[Value.str (Str.ofString "script") 351, Value.str (Str.ofString "seeds") 352, Value.str (Str.ofString "k") 353]) #[]) ::
  (nat_lit 125, Obj.mk (Value.type "tuple") none (Data.seq #[]) #[]) ::
  (nat_lit 127, Obj.mk (Value.type "code") none (Data.fields #[Value.str (Str.ofString "_law_seeds") 348, Value.str (Str.ofString "_law_seeds") 349, Value.str (Str.ofString "/claim/cut.py") 350, Value.int 103 0, Value.int 1 0, Value.int 0 0, Value.int 0 0, Value.int 3 0, Value.ref 122, Value.bool true, Value.int 181 0, Value.ref 123, Value.none, Value.ref 124, Value.ref 125, Value.ref 126, Value.int 354 0, Value.int 103 0, Value.str (Str.ofString "/claim/cut.py") 355]) #[]) ::
  (nat_lit 128, fnO "_law_seeds" "_law_seeds" "law_wn0047_01" 346 127 (stm 13)) ::
  (nat_lit 129, Obj.mk (Value.type "tuple") none (Data.seq #[]) #[]) ::
  (nat_lit 131, Obj.mk (Value.type "tuple") none (Data.seq #[Value.str (Str.ofString "seed") 360, Value.str (Str.ofString "node") 361, Value.str (Str.ofString "signs") 362]) #[]) ::
  (nat_lit 132, Obj.mk (Value.type "tuple") none (Data.seq #[]) #[]) ::
  (nat_lit 134, Obj.mk (Value.type "code") none (Data.fields #[Value.str (Str.ofString "_law_name") 357, Value.str (Str.ofString "_law_name") 358, Value.str (Str.ofString "/claim/cut.py") 359, Value.int 108 0, Value.int 2 0, Value.int 0 0, Value.int 0 0, Value.int 3 0, Value.ref 129, Value.bool true, Value.int 181 0, Value.ref 130, Value.none, Value.ref 131, Value.ref 132, Value.ref 133, Value.int 363 0, Value.int 108 0, Value.str (Str.ofString "/claim/cut.py") 364]) #[]) ::
  (nat_lit 135, fnO "_law_name" "_law_name" "law_wn0047_01" 346 134 (stm 14)) ::
  (nat_lit 136, Obj.mk (Value.type "tuple") none (Data.seq #[]) #[]) ::
  (nat_lit 138, Obj.mk (Value.type "tuple") none (Data.seq #[Value.str (Str.ofString "name") 369, Value.str (Str.ofString "seed") 370, Value.str (Str.ofString "letter") 371]) #[]) ::
  (nat_lit 139, Obj.mk (Value.type "tuple") none (Data.seq #[]) #[]) ::
  (nat_lit 141, Obj.mk (Value.type "code") none (Data.fields #[Value.str (Str.ofString "_law_text") 366, Value.str (Str.ofString "_law_text") 367, Value.str (Str.ofString "/claim/cut.py") 368, Value.int 111 0, Value.int 2 0, Value.int 0 0, Value.int 0 0, Value.int 3 0, Value.ref 136, Value.bool true, Value.int 181 0, Value.ref 137, Value.none, Value.ref 138, Value.ref 139, Value.ref 140, Value.int 372 0, Value.int 111 0, Value.str (Str.ofString "/claim/cut.py") 373]) #[]) ::
  (nat_lit 142, fnO "_law_text" "_law_text" "law_wn0047_01" 346 141 (stm 15)) ::
  (nat_lit 143, Obj.mk (Value.type "tuple") none (Data.seq #[]) #[]) ::
  (nat_lit 145, Obj.mk (Value.type "tuple") none (Data.seq #[Value.str (Str.ofString "text") 378, Value.str (Str.ofString "stream") 379]) #[]) ::
  (nat_lit 146, Obj.mk (Value.type "tuple") none (Data.seq #[Value.str (Str.ofString "signs") 380]) #[]) ::
  (nat_lit 148, Obj.mk (Value.type "code") none (Data.fields #[Value.str (Str.ofString "_law_lexer") 375, Value.str (Str.ofString "_law_lexer") 376, Value.str (Str.ofString "/claim/cut.py") 377, Value.int 119 0, Value.int 1 0, Value.int 0 0, Value.int 0 0, Value.int 3 0, Value.ref 143, Value.bool true, Value.int 181 0, Value.ref 144, Value.none, Value.ref 145, Value.ref 146, Value.ref 147, Value.int 381 0, Value.int 119 0, Value.str (Str.ofString "/claim/cut.py") 382]) #[]) ::
  (nat_lit 149, fnO "_law_lexer" "_law_lexer" "law_wn0047_01" 346 148 (stm 16)) ::
  (nat_lit 150, Obj.mk (Value.type "tuple") none (Data.seq #[]) #[]) ::
  (nat_lit 152, Obj.mk (Value.type "tuple") none (Data.seq #[Value.str (Str.ofString "names") 387, Value.str (Str.ofString "seeds") 388, Value.str (Str.ofString "first") 389, Value.str (Str.ofString "boxes") 390, Value.str (Str.ofString "node") 391, Value.str (Str.ofString "sender") 392, Value.str (Str.ofString "text") 393]) #[]) ::
  (nat_lit 153, Obj.mk (Value.type "tuple") none (Data.seq #[]) #[]) ::
  (nat_lit 155, Obj.mk (Value.type "code") none (Data.fields #[Value.str (Str.ofString "_law_boxes") 384, Value.str (Str.ofString "_law_boxes") 385, Value.str (Str.ofString "/claim/cut.py") 386, Value.int 124 0, Value.int 3 0, Value.int 0 0, Value.int 0 0, Value.int 3 0, Value.ref 150, Value.bool true, Value.int 181 0, Value.ref 151, Value.none, Value.ref 152, Value.ref 153, Value.ref 154, Value.int 394 0, Value.int 124 0, Value.str (Str.ofString "/claim/cut.py") 395]) #[]) ::
  (nat_lit 156, fnO "_law_boxes" "_law_boxes" "law_wn0047_01" 346 155 (stm 17)) ::
  (nat_lit 157, Obj.mk (Value.type "tuple") none (Data.seq #[]) #[]) ::
  (nat_lit 160, Obj.mk (Value.type "code") none (Data.fields #[Value.str (Str.ofString "_law_ruler") 397, Value.str (Str.ofString "_law_ruler") 398, Value.str (Str.ofString "/claim/cut.py") 399, Value.int 133 0, Value.int 1 0, Value.int 0 0, Value.int 0 0, Value.int 3 0, Value.ref 157, Value.bool true, Value.int 181 0, Value.ref 158, Value.none, Value.none, Value.none, Value.ref 159, Value.int 400 0, Value.int 133 0, Value.str (Str.ofString "/claim/cut.py") 401]) #[]) ::
  (nat_lit 161, fnO "_law_ruler" "_law_ruler" "law_wn0047_01" 346 160 (stm 18)) ::
  (nat_lit 162, Obj.mk (Value.type "tuple") none (Data.seq #[]) #[]) ::
  (nat_lit 164, Obj.mk (Value.type "tuple") none (Data.seq #[Value.str (Str.ofString "seeds") 406, Value.str (Str.ofString "calls") 407, Value.str (Str.ofString "seed") 408, Value.str (Str.ofString "left") 409, Value.str (Str.ofString "figure") 410]) #[]) ::
  (nat_lit 165, Obj.mk (Value.type "tuple") none (Data.seq #[]) #[]) ::
  (nat_lit 167, Obj.mk (Value.type "code") none (Data.fields #[Value.str (Str.ofString "_law_calls") 403, Value.str (Str.ofString "_law_calls") 404, Value.str (Str.ofString "/claim/cut.py") 405, Value.int 136 0, Value.int 1 0, Value.int 0 0, Value.int 0 0, Value.int 3 0, Value.ref 162, Value.bool true, Value.int 181 0, Value.ref 163, Value.none, Value.ref 164, Value.ref 165, Value.ref 166, Value.int 411 0, Value.int 136 0, Value.str (Str.ofString "/claim/cut.py") 412]) #[]) ::
  (nat_lit 168, fnO "_law_calls" "_law_calls" "law_wn0047_01" 346 167 (stm 19)) ::
  (nat_lit 169, Obj.mk (Value.type "tuple") none (Data.seq #[]) #[]) ::
  (nat_lit 171, Obj.mk (Value.type "tuple") none (Data.seq #[Value.str (Str.ofString "ruler") 417, Value.str (Str.ofString "marked") 418, Value.str (Str.ofString "place") 419, Value.str (Str.ofString "size") 420]) #[]) ::
  (nat_lit 172, Obj.mk (Value.type "tuple") none (Data.seq #[]) #[]) ::
  (nat_lit 174, Obj.mk (Value.type "code") none (Data.fields #[Value.str (Str.ofString "_law_marked") 414, Value.str (Str.ofString "_law_marked") 415, Value.str (Str.ofString "/claim/cut.py") 416, Value.int 144 0, Value.int 1 0, Value.int 0 0, Value.int 0 0, Value.int 3 0, Value.ref 169, Value.bool true, Value.int 181 0, Value.ref 170, Value.none, Value.ref 171, Value.ref 172, Value.ref 173, Value.int 421 0, Value.int 144 0, Value.str (Str.ofString "/claim/cut.py") 422]) #[]) ::
  (nat_lit 175, fnO "_law_marked" "_law_marked" "law_wn0047_01" 346 174 (stm 20)) ::
  (nat_lit 176, Obj.mk (Value.type "tuple") none (Data.seq #[]) #[]) ::
  (nat_lit 178, Obj.mk (Value.type "tuple") none (Data.seq #[Value.str (Str.ofString "letter") 427]) #[]) ::
  (nat_lit 179, Obj.mk (Value.type "tuple") none (Data.seq #[]) #[]) ::
  (nat_lit 181, Obj.mk (Value.type "code") none (Data.fields #[Value.str (Str.ofString "_law_named") 424, Value.str (Str.ofString "_law_named") 425, Value.str (Str.ofString "/claim/cut.py") 426, Value.int 156 0, Value.int 1 0, Value.int 0 0, Value.int 0 0, Value.int 3 0, Value.ref 176, Value.bool true, Value.int 181 0, Value.ref 177, Value.none, Value.ref 178, Value.ref 179, Value.ref 180, Value.int 428 0, Value.int 156 0, Value.str (Str.ofString "/claim/cut.py") 429]) #[]) ::
  (nat_lit 182, fnO "_law_named" "_law_named" "law_wn0047_01" 346 181 (stm 21)) ::
  (nat_lit 183, Obj.mk (Value.type "tuple") none (Data.seq #[]) #[]) ::
  (nat_lit 186, Obj.mk (Value.type "code") none (Data.fields #[Value.str (Str.ofString "_law_run") 431, Value.str (Str.ofString "_law_run") 432, Value.str (Str.ofString "/claim/cut.py") 433, Value.int 161 0, Value.int 4 0, Value.int 0 0, Value.int 0 0, Value.int 3 0, Value.ref 183, Value.bool true, Value.int 181 0, Value.ref 184, Value.none, Value.none, Value.none, Value.ref 185, Value.int 434 0, Value.int 161 0, Value.str (Str.ofString "/claim/cut.py") 435]) #[]) ::
  (nat_lit 187, fnO "_law_run" "_law_run" "law_wn0047_01" 346 186 (stm 22)) ::
  (nat_lit 188, Obj.mk (Value.type "tuple") none (Data.seq #[]) #[]) ::
  (nat_lit 191, Obj.mk (Value.type "code") none (Data.fields #[Value.str (Str.ofString "_law_first") 437, Value.str (Str.ofString "_law_first") 438, Value.str (Str.ofString "/claim/cut.py") 439, Value.int 191 0, Value.int 1 0, Value.int 0 0, Value.int 0 0, Value.int 3 0, Value.ref 188, Value.bool true, Value.int 181 0, Value.ref 189, Value.none, Value.none, Value.none, Value.ref 190, Value.int 440 0, Value.int 191 0, Value.str (Str.ofString "/claim/cut.py") 441]) #[]) ::
  (nat_lit 192, fnO "_law_first" "_law_first" "law_wn0047_01" 346 191 (stm 23)) ::
  (nat_lit 193, Obj.mk (Value.type "tuple") none (Data.seq #[]) #[]) ::
  (nat_lit 196, Obj.mk (Value.type "code") none (Data.fields #[Value.str (Str.ofString "_law_due") 443, Value.str (Str.ofString "_law_due") 444, Value.str (Str.ofString "/claim/cut.py") 445, Value.int 201 0, Value.int 2 0, Value.int 0 0, Value.int 0 0, Value.int 3 0, Value.ref 193, Value.bool true, Value.int 181 0, Value.ref 194, Value.none, Value.none, Value.none, Value.ref 195, Value.int 446 0, Value.int 201 0, Value.str (Str.ofString "/claim/cut.py") 447]) #[]) ::
  (nat_lit 197, fnO "_law_due" "_law_due" "law_wn0047_01" 346 196 (stm 24)) ::
  (nat_lit 198, Obj.mk (Value.type "tuple") none (Data.seq #[]) #[]) ::
  (nat_lit 201, Obj.mk (Value.type "code") none (Data.fields #[Value.str (Str.ofString "law") 449, Value.str (Str.ofString "law") 450, Value.str (Str.ofString "/claim/cut.py") 451, Value.int 215 0, Value.int 1 0, Value.int 0 0, Value.int 0 0, Value.int 3 0, Value.ref 198, Value.bool true, Value.int 181 0, Value.ref 199, Value.none, Value.none, Value.none, Value.ref 200, Value.int 452 0, Value.int 215 0, Value.str (Str.ofString "/claim/cut.py") 453]) #[]) ::
  (nat_lit 202, fnO "law" "law" "law_wn0047_01" 346 201 (stm 25)) :: []
/-- its addresses -/
noncomputable abbrev kAs : List Addr := [2, 3, 22, 24, 25, 27, 28, 29, 31, 32, 34, 35, 36, 38, 39, 41, 42, 43, 45, 46, 48, 49, 50, 51, 52, 53, 54, 57, 64, 65, 66, 67, 70, 77, 78, 79, 82, 89, 90, 91, 94, 96, 97, 99, 100, 101, 103, 104, 106, 107, 108, 110, 111, 113, 114, 115, 117, 118, 120, 121, 122, 124, 125, 127, 128, 129, 131, 132, 134, 135, 136, 138, 139, 141, 142, 143, 145, 146, 148, 149, 150, 152, 153, 155, 156, 157, 160, 161, 162, 164, 165, 167, 168, 169, 171, 172, 174, 175, 176, 178, 179, 181, 182, 183, 186, 187, 188, 191, 192, 193, 196, 197, 198, 201, 202]
-- Hd2
/-- the text without the four names that it gives its parts -/
noncomputable def vw : Program := view PySem.Challenge.pw_wn0047_01 [1, 3, 4, 5, 6, 7, 9, 10, 11, 13, 14, 15, 16, 17, 18, 19, 20, 21, 22, 23, 24, 25]
theorem kAs_eq (P : Params) : kAs = (hd.heap_39 P).map (·.1) := by kernel_rfl
theorem said : PySem.Challenge.rw_wn0047_01.wellSaid = true := by
  unfold OpenLaw.wellSaid OpenRow.wellSaid OpenRow.partSaid looksOpen
  repeat' (with_reducible refine look_both ?_ ?_)
  all_goals ((try rw [PySem.W.Fast.te8326940854005059898]); (try rw [PySem.W.Fast.te17119622794617984870]); (try rw [PySem.W.Fast.te8377067652309620493]); (try rw [PySem.W.Fast.te16286561074155671207]); (try rw [PySem.W.Fast.te18344453789297297638]); (try rw [PySem.W.Fast.te11788848310118352699]); (try rw [PySem.W.Fast.te13343964577679436407]); (try rw [PySem.W.Fast.te17868728402115742887]); (try rw [PySem.W.Fast.te6984425678791042302]); (try rw [PySem.W.Fast.te797321630700447069]); (try rw [PySem.W.Fast.te10792542408131684335]); (try rw [PySem.W.Fast.te10501279942588096481]); (try rw [PySem.W.Fast.te8179353310426384613]); (try rw [PySem.W.Fast.te5923862056798008813]); decide +kernel)
/-- what a def is while the top reads it -/
noncomputable def fn0 (nm q : String) : Stmt → Obj
  | .FunctionDef _ ps bd _ _ _ sc _ _ _ => Obj.mk Value.none none (Data.func (FuncData.mk (Str.ofString nm) (Str.ofString q) ps (FuncBody.stmts bd) sc 0 [] Value.none Value.none Value.none Value.none none Value.none Value.none 0)) #[]
  | _ => default
noncomputable def kO (n : Nat) (P : Params) : Obj := ((hd.heap_39 P).lookup n).getD default
noncomputable def nl (o : Obj) : BT := .node o .nil .nil
noncomputable def q11 : Params → Obj := fun _ => Obj.mk (Value.type "tuple") none (Data.seq #[]) #[]
noncomputable def q12 : Params → Obj := fun _ => Obj.mk Value.none none (Data.fields #[]) #[]
noncomputable def q13 : Params → Obj := fun _ => Obj.mk (Value.type "code") none (Data.fields #[Value.str (Str.ofString "<module>") 182, Value.str (Str.ofString "<module>") 183, Value.str (Str.ofString "/claim/cut.py") 184, Value.int 1 0, Value.int 0 0, Value.int 0 0, Value.int 0 0, Value.int 0 0, Value.ref 11, Value.bool false, Value.int 181 0, Value.ref 12, Value.none, Value.none, Value.none, Value.none, Value.int 185 0, Value.int 1 0, Value.str (Str.ofString "/claim/cut.py") 186]) #[]
noncomputable def q14 : Params → Obj := fun _ => Obj.mk (Value.type "frame") none Data.plain #[some (Value.ref 13), some (Value.ref 3), some (Value.ref 3), none, some (Value.str (Str.ofString "__main__") 164), none, some (Value.ref 0)]
noncomputable def q3 : Params → Obj := fun P => Obj.mk (Value.type "dict") none (Data.dict #[DictEntry.mk (PyData.keyHash P (Str.ofString "__name__")) (Value.str (Str.ofString "__name__") 165) (Value.str (Str.ofString "cpy313.ftplib") 247), DictEntry.mk (PyData.keyHash P (Str.ofString "__doc__")) (Value.str (Str.ofString "__doc__") 166) Value.none, DictEntry.mk (PyData.keyHash P (Str.ofString "__package__")) (Value.str (Str.ofString "__package__") 167) Value.none, DictEntry.mk (PyData.keyHash P (Str.ofString "__loader__")) (Value.str (Str.ofString "__loader__") 168) (Value.builtin "__main__.__loader__#opaque"), DictEntry.mk (PyData.keyHash P (Str.ofString "__spec__")) (Value.str (Str.ofString "__spec__") 169) Value.none, DictEntry.mk (PyData.keyHash P (Str.ofString "__annotations__")) (Value.str (Str.ofString "__annotations__") 170) (Value.ref 6), DictEntry.mk (PyData.keyHash P (Str.ofString "__builtins__")) (Value.str (Str.ofString "__builtins__") 171) (Value.ref 4), DictEntry.mk (PyData.keyHash P (Str.ofString "__file__")) (Value.str (Str.ofString "__file__") 173) (Value.str (Str.ofString "/claim/cut.py") 172), DictEntry.mk (PyData.keyHash P (Str.ofString "__cached__")) (Value.str (Str.ofString "__cached__") 174) Value.none, DictEntry.mk (PyData.keyHash P (Str.ofString "_netrclex")) (Value.str (Str.ofString "_netrclex") 246) (Value.ref 52)] 10) #[]
noncomputable def q12_p2 : Params → Obj := fun _ => Obj.mk Value.none none (Data.fields #[Value.int 2 0, Value.int 0 0, Value.ref 20]) #[]
noncomputable def q16 : Params → Obj := fun _ => Obj.mk (Value.type "builtin_function_or_method") none (Data.fields #[Value.builtin "type.__prepare__", Value.type "type"]) #[]
noncomputable def q17 : Params → Obj := fun P => Obj.mk (Value.type "dict") none (Data.dict #[DictEntry.mk (PyData.keyHash P (Str.ofString "__module__")) (Value.str (Str.ofString "__module__") 196) (Value.str (Str.ofString "cpy313.netrc") 187), DictEntry.mk (PyData.keyHash P (Str.ofString "__qualname__")) (Value.str (Str.ofString "__qualname__") 198) (Value.str (Str.ofString "_netrclex") 197), DictEntry.mk (PyData.keyHash P (Str.ofString "__firstlineno__")) (Value.str (Str.ofString "__firstlineno__") 200) (Value.int 2 199), DictEntry.mk (PyData.keyHash P (Str.ofString "__init__")) (Value.str (Str.ofString "__init__") 208) (Value.ref 28), DictEntry.mk (PyData.keyHash P (Str.ofString "_read_char")) (Value.str (Str.ofString "_read_char") 216) (Value.ref 35), DictEntry.mk (PyData.keyHash P (Str.ofString "get_token")) (Value.str (Str.ofString "get_token") 226) (Value.ref 42), DictEntry.mk (PyData.keyHash P (Str.ofString "push_token")) (Value.str (Str.ofString "push_token") 234) (Value.ref 49), DictEntry.mk (PyData.keyHash P (Str.ofString "__static_attributes__")) (Value.str (Str.ofString "__static_attributes__") 239) (Value.ref 50)] 8) #[]
noncomputable def q19 : Params → Obj := fun _ => Obj.mk Value.none none (Data.fields #[Value.int 4 0, Value.int 4 0, Value.ref 27, Value.int 10 0, Value.int 4 0, Value.ref 34, Value.int 16 0, Value.int 4 0, Value.ref 41, Value.int 43 0, Value.int 4 0, Value.ref 48]) #[]
noncomputable def q20 : Params → Obj := fun _ => Obj.mk (Value.type "code") none (Data.fields #[Value.str (Str.ofString "_netrclex") 191, Value.str (Str.ofString "_netrclex") 192, Value.str (Str.ofString "/claim/cut.py") 193, Value.int 2 0, Value.int 0 0, Value.int 0 0, Value.int 0 0, Value.int 0 0, Value.ref 18, Value.bool false, Value.int 181 0, Value.ref 19, Value.none, Value.none, Value.none, Value.none, Value.int 194 0, Value.int 2 0, Value.str (Str.ofString "/claim/cut.py") 195]) #[]
noncomputable def q21 : Params → Obj := fun _ => Obj.mk (Value.type "frame") none Data.plain #[some (Value.ref 20), some (Value.ref 3), some (Value.ref 17), none, some (Value.str (Str.ofString "cpy313.netrc") 187), none, some (Value.ref 0)]
noncomputable def q26 : Params → Obj := fun _ => fn0 "__init__" "_netrclex.__init__" (meth 0)
noncomputable def q33 : Params → Obj := fun _ => fn0 "_read_char" "_netrclex._read_char" (meth 1)
noncomputable def q40 : Params → Obj := fun _ => fn0 "get_token" "_netrclex.get_token" (meth 2)
noncomputable def q47 : Params → Obj := fun _ => fn0 "push_token" "_netrclex.push_token" (meth 3)
noncomputable def q55 : Params → Obj := fun _ => Obj.mk (Value.type "super") none (Data.fields #[Value.ref 52, Value.ref 52, Value.ref 52]) #[]
noncomputable def q56 : Params → Obj := fun _ => Obj.mk (Value.type "builtin_function_or_method") none (Data.fields #[Value.builtin "object.__init_subclass__", Value.ref 52]) #[]
noncomputable def q3_p4 : Params → Obj := fun P => Obj.mk (Value.type "dict") none (Data.dict #[DictEntry.mk (PyData.keyHash P (Str.ofString "__name__")) (Value.str (Str.ofString "__name__") 165) (Value.str (Str.ofString "cpy313.ftplib") 247), DictEntry.mk (PyData.keyHash P (Str.ofString "__doc__")) (Value.str (Str.ofString "__doc__") 166) Value.none, DictEntry.mk (PyData.keyHash P (Str.ofString "__package__")) (Value.str (Str.ofString "__package__") 167) Value.none, DictEntry.mk (PyData.keyHash P (Str.ofString "__loader__")) (Value.str (Str.ofString "__loader__") 168) (Value.builtin "__main__.__loader__#opaque"), DictEntry.mk (PyData.keyHash P (Str.ofString "__spec__")) (Value.str (Str.ofString "__spec__") 169) Value.none, DictEntry.mk (PyData.keyHash P (Str.ofString "__annotations__")) (Value.str (Str.ofString "__annotations__") 170) (Value.ref 6), DictEntry.mk (PyData.keyHash P (Str.ofString "__builtins__")) (Value.str (Str.ofString "__builtins__") 171) (Value.ref 4), DictEntry.mk (PyData.keyHash P (Str.ofString "__file__")) (Value.str (Str.ofString "__file__") 173) (Value.str (Str.ofString "/claim/cut.py") 172), DictEntry.mk (PyData.keyHash P (Str.ofString "__cached__")) (Value.str (Str.ofString "__cached__") 174) Value.none, DictEntry.mk (PyData.keyHash P (Str.ofString "_netrclex")) (Value.str (Str.ofString "_netrclex") 246) (Value.ref 52), DictEntry.mk (PyData.keyHash P (Str.ofString "Error")) (Value.str (Str.ofString "Error") 268) (Value.ref 66), DictEntry.mk (PyData.keyHash P (Str.ofString "error_reply")) (Value.str (Str.ofString "error_reply") 284) (Value.ref 79)] 12) #[]
noncomputable def q12_p4 : Params → Obj := fun _ => Obj.mk Value.none none (Data.fields #[Value.int 2 0, Value.int 0 0, Value.ref 20, Value.int 46 0, Value.int 0 0, Value.ref 62, Value.int 48 0, Value.int 0 0, Value.ref 75]) #[]
noncomputable def q59 : Params → Obj := fun P => Obj.mk (Value.type "dict") none (Data.dict #[DictEntry.mk (PyData.keyHash P (Str.ofString "__module__")) (Value.str (Str.ofString "__module__") 256) (Value.str (Str.ofString "cpy313.ftplib") 247), DictEntry.mk (PyData.keyHash P (Str.ofString "__qualname__")) (Value.str (Str.ofString "__qualname__") 258) (Value.str (Str.ofString "Error") 257), DictEntry.mk (PyData.keyHash P (Str.ofString "__firstlineno__")) (Value.str (Str.ofString "__firstlineno__") 260) (Value.int 46 259), DictEntry.mk (PyData.keyHash P (Str.ofString "__static_attributes__")) (Value.str (Str.ofString "__static_attributes__") 261) (Value.ref 64)] 4) #[]
noncomputable def q62 : Params → Obj := fun _ => Obj.mk (Value.type "code") none (Data.fields #[Value.str (Str.ofString "Error") 251, Value.str (Str.ofString "Error") 252, Value.str (Str.ofString "/claim/cut.py") 253, Value.int 46 0, Value.int 0 0, Value.int 0 0, Value.int 0 0, Value.int 0 0, Value.ref 60, Value.bool false, Value.int 181 0, Value.ref 61, Value.none, Value.none, Value.none, Value.none, Value.int 254 0, Value.int 46 0, Value.str (Str.ofString "/claim/cut.py") 255]) #[]
noncomputable def q63 : Params → Obj := fun _ => Obj.mk (Value.type "frame") none Data.plain #[some (Value.ref 62), some (Value.ref 3), some (Value.ref 59), none, some (Value.str (Str.ofString "cpy313.ftplib") 247), none, some (Value.ref 0)]
noncomputable def q66 : Params → Obj := fun _ => Obj.mk (Value.type "type") none (Data.cls (ClassData.mk (Str.ofString "Error") [Value.type "Exception"] [Value.ref 66, Value.type "Exception", Value.type "BaseException", Value.type "object"] 65 (Str.ofString "Error") true [] [Value.ref 79] false none false)) #[some (Value.ref 57), none, some (Value.str (Str.ofString "Error") 249), some (Value.str (Str.ofString "Error") 257), some (Value.builtin "Exception.__new__"), some (Value.bool true)]
noncomputable def q68 : Params → Obj := fun _ => Obj.mk (Value.type "super") none (Data.fields #[Value.ref 66, Value.ref 66, Value.ref 66]) #[]
noncomputable def q69 : Params → Obj := fun _ => Obj.mk (Value.type "builtin_function_or_method") none (Data.fields #[Value.builtin "object.__init_subclass__", Value.ref 66]) #[]
noncomputable def q72 : Params → Obj := fun P => Obj.mk (Value.type "dict") none (Data.dict #[DictEntry.mk (PyData.keyHash P (Str.ofString "__module__")) (Value.str (Str.ofString "__module__") 276) (Value.str (Str.ofString "cpy313.ftplib") 247), DictEntry.mk (PyData.keyHash P (Str.ofString "__qualname__")) (Value.str (Str.ofString "__qualname__") 278) (Value.str (Str.ofString "error_reply") 277), DictEntry.mk (PyData.keyHash P (Str.ofString "__firstlineno__")) (Value.str (Str.ofString "__firstlineno__") 280) (Value.int 48 279), DictEntry.mk (PyData.keyHash P (Str.ofString "__static_attributes__")) (Value.str (Str.ofString "__static_attributes__") 281) (Value.ref 77)] 4) #[]
noncomputable def q75 : Params → Obj := fun _ => Obj.mk (Value.type "code") none (Data.fields #[Value.str (Str.ofString "error_reply") 271, Value.str (Str.ofString "error_reply") 272, Value.str (Str.ofString "/claim/cut.py") 273, Value.int 48 0, Value.int 0 0, Value.int 0 0, Value.int 0 0, Value.int 0 0, Value.ref 73, Value.bool false, Value.int 181 0, Value.ref 74, Value.none, Value.none, Value.none, Value.none, Value.int 274 0, Value.int 48 0, Value.str (Str.ofString "/claim/cut.py") 275]) #[]
noncomputable def q76 : Params → Obj := fun _ => Obj.mk (Value.type "frame") none Data.plain #[some (Value.ref 75), some (Value.ref 3), some (Value.ref 72), none, some (Value.str (Str.ofString "cpy313.ftplib") 247), none, some (Value.ref 0)]
noncomputable def q80 : Params → Obj := fun _ => Obj.mk (Value.type "super") none (Data.fields #[Value.ref 79, Value.ref 79, Value.ref 79]) #[]
noncomputable def q81 : Params → Obj := fun _ => Obj.mk (Value.type "builtin_function_or_method") none (Data.fields #[Value.builtin "object.__init_subclass__", Value.ref 79]) #[]
noncomputable def q3_p11 : Params → Obj := fun P => Obj.mk (Value.type "dict") none (Data.dict #[DictEntry.mk (PyData.keyHash P (Str.ofString "__name__")) (Value.str (Str.ofString "__name__") 165) (Value.str (Str.ofString "cpy313.locale") 325), DictEntry.mk (PyData.keyHash P (Str.ofString "__doc__")) (Value.str (Str.ofString "__doc__") 166) Value.none, DictEntry.mk (PyData.keyHash P (Str.ofString "__package__")) (Value.str (Str.ofString "__package__") 167) Value.none, DictEntry.mk (PyData.keyHash P (Str.ofString "__loader__")) (Value.str (Str.ofString "__loader__") 168) (Value.builtin "__main__.__loader__#opaque"), DictEntry.mk (PyData.keyHash P (Str.ofString "__spec__")) (Value.str (Str.ofString "__spec__") 169) Value.none, DictEntry.mk (PyData.keyHash P (Str.ofString "__annotations__")) (Value.str (Str.ofString "__annotations__") 170) (Value.ref 6), DictEntry.mk (PyData.keyHash P (Str.ofString "__builtins__")) (Value.str (Str.ofString "__builtins__") 171) (Value.ref 4), DictEntry.mk (PyData.keyHash P (Str.ofString "__file__")) (Value.str (Str.ofString "__file__") 173) (Value.str (Str.ofString "/claim/cut.py") 172), DictEntry.mk (PyData.keyHash P (Str.ofString "__cached__")) (Value.str (Str.ofString "__cached__") 174) Value.none, DictEntry.mk (PyData.keyHash P (Str.ofString "_netrclex")) (Value.str (Str.ofString "_netrclex") 246) (Value.ref 52), DictEntry.mk (PyData.keyHash P (Str.ofString "Error")) (Value.str (Str.ofString "Error") 268) (Value.ref 66), DictEntry.mk (PyData.keyHash P (Str.ofString "error_reply")) (Value.str (Str.ofString "error_reply") 284) (Value.ref 79), DictEntry.mk (PyData.keyHash P (Str.ofString "error_proto")) (Value.str (Str.ofString "error_proto") 300) (Value.ref 91), DictEntry.mk (PyData.keyHash P (Str.ofString "parse229")) (Value.str (Str.ofString "parse229") 313) (Value.ref 100), DictEntry.mk (PyData.keyHash P (Str.ofString "parse257")) (Value.str (Str.ofString "parse257") 324) (Value.ref 107), DictEntry.mk (PyData.keyHash P (Str.ofString "_strcoll")) (Value.str (Str.ofString "_strcoll") 334) (Value.ref 114), DictEntry.mk (PyData.keyHash P (Str.ofString "CHAR_MAX")) (Value.str (Str.ofString "CHAR_MAX") 336) (Value.int 127 335), DictEntry.mk (PyData.keyHash P (Str.ofString "_grouping_intervals")) (Value.str (Str.ofString "_grouping_intervals") 345) (Value.ref 121)] 18) #[]
noncomputable def q12_p11 : Params → Obj := fun _ => Obj.mk Value.none none (Data.fields #[Value.int 2 0, Value.int 0 0, Value.ref 20, Value.int 46 0, Value.int 0 0, Value.ref 62, Value.int 48 0, Value.int 0 0, Value.ref 75, Value.int 50 0, Value.int 0 0, Value.ref 87, Value.int 52 0, Value.int 0 0, Value.ref 99, Value.int 69 0, Value.int 0 0, Value.ref 106, Value.int 87 0, Value.int 0 0, Value.ref 113, Value.int 90 0, Value.int 0 0, Value.ref 120]) #[]
noncomputable def q84 : Params → Obj := fun P => Obj.mk (Value.type "dict") none (Data.dict #[DictEntry.mk (PyData.keyHash P (Str.ofString "__module__")) (Value.str (Str.ofString "__module__") 292) (Value.str (Str.ofString "cpy313.ftplib") 247), DictEntry.mk (PyData.keyHash P (Str.ofString "__qualname__")) (Value.str (Str.ofString "__qualname__") 294) (Value.str (Str.ofString "error_proto") 293), DictEntry.mk (PyData.keyHash P (Str.ofString "__firstlineno__")) (Value.str (Str.ofString "__firstlineno__") 296) (Value.int 50 295), DictEntry.mk (PyData.keyHash P (Str.ofString "__static_attributes__")) (Value.str (Str.ofString "__static_attributes__") 297) (Value.ref 89)] 4) #[]
noncomputable def q87 : Params → Obj := fun _ => Obj.mk (Value.type "code") none (Data.fields #[Value.str (Str.ofString "error_proto") 287, Value.str (Str.ofString "error_proto") 288, Value.str (Str.ofString "/claim/cut.py") 289, Value.int 50 0, Value.int 0 0, Value.int 0 0, Value.int 0 0, Value.int 0 0, Value.ref 85, Value.bool false, Value.int 181 0, Value.ref 86, Value.none, Value.none, Value.none, Value.none, Value.int 290 0, Value.int 50 0, Value.str (Str.ofString "/claim/cut.py") 291]) #[]
noncomputable def q88 : Params → Obj := fun _ => Obj.mk (Value.type "frame") none Data.plain #[some (Value.ref 87), some (Value.ref 3), some (Value.ref 84), none, some (Value.str (Str.ofString "cpy313.ftplib") 247), none, some (Value.ref 0)]
noncomputable def q92 : Params → Obj := fun _ => Obj.mk (Value.type "super") none (Data.fields #[Value.ref 91, Value.ref 91, Value.ref 91]) #[]
noncomputable def q93 : Params → Obj := fun _ => Obj.mk (Value.type "builtin_function_or_method") none (Data.fields #[Value.builtin "object.__init_subclass__", Value.ref 91]) #[]
noncomputable def q98 : Params → Obj := fun _ => fn0 "parse229" "parse229" (stm 6)
noncomputable def q105 : Params → Obj := fun _ => fn0 "parse257" "parse257" (stm 7)
noncomputable def q112 : Params → Obj := fun _ => fn0 "_strcoll" "_strcoll" (stm 9)
noncomputable def q119 : Params → Obj := fun _ => fn0 "_grouping_intervals" "_grouping_intervals" (stm 11)
noncomputable def q12_p25 : Params → Obj := fun _ => Obj.mk Value.none none (Data.fields #[Value.int 2 0, Value.int 0 0, Value.ref 20, Value.int 46 0, Value.int 0 0, Value.ref 62, Value.int 48 0, Value.int 0 0, Value.ref 75, Value.int 50 0, Value.int 0 0, Value.ref 87, Value.int 52 0, Value.int 0 0, Value.ref 99, Value.int 69 0, Value.int 0 0, Value.ref 106, Value.int 87 0, Value.int 0 0, Value.ref 113, Value.int 90 0, Value.int 0 0, Value.ref 120, Value.int 103 0, Value.int 0 0, Value.ref 127, Value.int 108 0, Value.int 0 0, Value.ref 134, Value.int 111 0, Value.int 0 0, Value.ref 141, Value.int 119 0, Value.int 0 0, Value.ref 148, Value.int 124 0, Value.int 0 0, Value.ref 155, Value.int 133 0, Value.int 0 0, Value.ref 160, Value.int 136 0, Value.int 0 0, Value.ref 167, Value.int 144 0, Value.int 0 0, Value.ref 174, Value.int 156 0, Value.int 0 0, Value.ref 181, Value.int 161 0, Value.int 0 0, Value.ref 186, Value.int 191 0, Value.int 0 0, Value.ref 191, Value.int 201 0, Value.int 0 0, Value.ref 196, Value.int 215 0, Value.int 0 0, Value.ref 201]) #[]
noncomputable def q126 : Params → Obj := fun _ => fn0 "_law_seeds" "_law_seeds" (stm 13)
noncomputable def q133 : Params → Obj := fun _ => fn0 "_law_name" "_law_name" (stm 14)
noncomputable def q140 : Params → Obj := fun _ => fn0 "_law_text" "_law_text" (stm 15)
noncomputable def q147 : Params → Obj := fun _ => fn0 "_law_lexer" "_law_lexer" (stm 16)
noncomputable def q154 : Params → Obj := fun _ => fn0 "_law_boxes" "_law_boxes" (stm 17)
noncomputable def q159 : Params → Obj := fun _ => fn0 "_law_ruler" "_law_ruler" (stm 18)
noncomputable def q166 : Params → Obj := fun _ => fn0 "_law_calls" "_law_calls" (stm 19)
noncomputable def q173 : Params → Obj := fun _ => fn0 "_law_marked" "_law_marked" (stm 20)
noncomputable def q180 : Params → Obj := fun _ => fn0 "_law_named" "_law_named" (stm 21)
noncomputable def q185 : Params → Obj := fun _ => fn0 "_law_run" "_law_run" (stm 22)
noncomputable def q190 : Params → Obj := fun _ => fn0 "_law_first" "_law_first" (stm 23)
noncomputable def q195 : Params → Obj := fun _ => fn0 "_law_due" "_law_due" (stm 24)
noncomputable def q200 : Params → Obj := fun _ => fn0 "law" "law" (stm 25)
noncomputable def life : Life := Life.mk [] [] [] 0 [] [] false #[] [] 0 false false false 0 [2000, 10, 10] false 0 true [] [] 0 false
noncomputable def Ha : Params → Heap := fun P => ⟨⟨boot_o_0 P :: boot_o_1 P :: boot_o_2 P :: boot_o_3 P :: boot_o_4 P :: boot_o_5 P :: boot_o_6 P :: boot_o_7 P :: boot_o_8 P :: boot_o_9 P :: boot_o_10 P :: q11 P :: q12 P :: q13 P :: q14 P :: []⟩, life⟩
noncomputable def T_block : Params → BT := fun P => (.node (boot_o_0 P) (.node (boot_o_1 P) (.node (boot_o_3 P) (nl (boot_o_7 P)) (nl (q11 P))) (.node (boot_o_5 P) (nl (boot_o_9 P)) (nl (q13 P)))) (.node (boot_o_2 P) (.node (boot_o_4 P) (nl (boot_o_8 P)) (nl (q12 P))) (.node (boot_o_6 P) (nl (boot_o_10 P)) (nl (q14 P)))))
noncomputable def T_p2 : Params → BT := fun P => (.node (boot_o_0 P) (.node (boot_o_1 P) (.node (q3 P) (.node (boot_o_7 P) (.node (q11 P) (nl (kO 31 P)) (nl (q47 P))) (.node (q12 P) (nl (kO 39 P)) (nl (q55 P)))) (.node (q11 P) (.node (q19 P) (nl (kO 35 P)) (nl (kO 51 P))) (.node (kO 27 P) (nl (kO 43 P)) .nil))) (.node (boot_o_5 P) (.node (boot_o_9 P) (.node (q17 P) (nl (q33 P)) (nl (kO 49 P))) (.node (kO 25 P) (nl (kO 41 P)) .nil)) (.node (q13 P) (.node (q21 P) (nl (q12 P)) (nl (kO 53 P))) (.node (kO 29 P) (nl (kO 45 P)) .nil)))) (.node (boot_o_2 P) (.node (boot_o_4 P) (.node (boot_o_8 P) (.node (q16 P) (nl (kO 32 P)) (nl (kO 48 P))) (.node (kO 24 P) (nl (q40 P)) (nl (q56 P)))) (.node (q12_p2 P) (.node (q20 P) (nl (kO 36 P)) (nl (kO 52 P))) (.node (kO 28 P) (nl (q12 P)) .nil))) (.node (boot_o_6 P) (.node (boot_o_10 P) (.node (q11 P) (nl (kO 34 P)) (nl (kO 50 P))) (.node (q26 P) (nl (kO 42 P)) .nil)) (.node (q14 P) (.node (kO 22 P) (nl (kO 38 P)) (nl (kO 54 P))) (.node (q12 P) (nl (kO 46 P)) .nil)))))
noncomputable def T_p4 : Params → BT := fun P => (.node (boot_o_0 P) (.node (boot_o_1 P) (.node (q3_p4 P) (.node (boot_o_7 P) (.node (q11 P) (.node (kO 31 P) (nl (q63 P)) .nil) (.node (q47 P) (nl (kO 79 P)) .nil)) (.node (q12 P) (.node (kO 39 P) (nl (q16 P)) .nil) (nl (q55 P)))) (.node (q11 P) (.node (q19 P) (.node (kO 35 P) (nl (kO 67 P)) .nil) (nl (kO 51 P))) (.node (kO 27 P) (.node (kO 43 P) (nl (q75 P)) .nil) (nl (q59 P))))) (.node (boot_o_5 P) (.node (boot_o_9 P) (.node (q17 P) (.node (q33 P) (nl (kO 65 P)) .nil) (.node (kO 49 P) (nl (q81 P)) .nil)) (.node (kO 25 P) (.node (kO 41 P) (nl (q11 P)) .nil) (nl (kO 57 P)))) (.node (q13 P) (.node (q21 P) (.node (q12 P) (nl (q69 P)) .nil) (nl (kO 53 P))) (.node (kO 29 P) (.node (kO 45 P) (nl (kO 77 P)) .nil) (nl (q12 P)))))) (.node (kO 2 P) (.node (boot_o_4 P) (.node (boot_o_8 P) (.node (q16 P) (.node (kO 32 P) (nl (kO 64 P)) .nil) (.node (kO 48 P) (nl (q80 P)) .nil)) (.node (kO 24 P) (.node (q40 P) (nl (q72 P)) .nil) (nl (q56 P)))) (.node (q12_p4 P) (.node (q20 P) (.node (kO 36 P) (nl (q68 P)) .nil) (nl (kO 52 P))) (.node (kO 28 P) (.node (q12 P) (nl (q76 P)) .nil) (nl (q11 P))))) (.node (boot_o_6 P) (.node (boot_o_10 P) (.node (q11 P) (.node (kO 34 P) (nl (q66 P)) .nil) (nl (kO 50 P))) (.node (q26 P) (.node (kO 42 P) (nl (q12 P)) .nil) (nl (q16 P)))) (.node (q14 P) (.node (kO 22 P) (.node (kO 38 P) (nl (kO 70 P)) .nil) (nl (kO 54 P))) (.node (q12 P) (.node (kO 46 P) (nl (kO 78 P)) .nil) (nl (q62 P)))))))
noncomputable def T_p11 : Params → BT := fun P => (.node (boot_o_0 P) (.node (boot_o_1 P) (.node (q3_p11 P) (.node (boot_o_7 P) (.node (q11 P) (.node (kO 31 P) (nl (q63 P)) (nl (q12 P))) (.node (q47 P) (nl (kO 79 P)) (nl (kO 111 P)))) (.node (q12 P) (.node (kO 39 P) (nl (q16 P)) (nl (kO 103 P))) (.node (q55 P) (nl (q87 P)) (nl (q119 P))))) (.node (q11 P) (.node (q19 P) (.node (kO 35 P) (nl (kO 67 P)) (nl (kO 99 P))) (.node (kO 51 P) (nl (q16 P)) (nl (kO 115 P)))) (.node (kO 27 P) (.node (kO 43 P) (nl (q75 P)) (nl (kO 107 P))) (.node (q59 P) (nl (kO 91 P)) .nil)))) (.node (boot_o_5 P) (.node (boot_o_9 P) (.node (q17 P) (.node (q33 P) (nl (kO 65 P)) (nl (kO 97 P))) (.node (kO 49 P) (nl (q81 P)) (nl (kO 113 P)))) (.node (kO 25 P) (.node (kO 41 P) (nl (q11 P)) (nl (q105 P))) (.node (kO 57 P) (nl (kO 89 P)) (nl (kO 121 P))))) (.node (q13 P) (.node (q21 P) (.node (q12 P) (nl (q69 P)) (nl (kO 101 P))) (.node (kO 53 P) (nl (q11 P)) (nl (kO 117 P)))) (.node (kO 29 P) (.node (kO 45 P) (nl (kO 77 P)) (nl (q12 P))) (.node (q12 P) (nl (q93 P)) .nil))))) (.node (kO 2 P) (.node (boot_o_4 P) (.node (boot_o_8 P) (.node (q16 P) (.node (kO 32 P) (nl (kO 64 P)) (nl (kO 96 P))) (.node (kO 48 P) (nl (q80 P)) (nl (q112 P)))) (.node (kO 24 P) (.node (q40 P) (nl (q72 P)) (nl (kO 104 P))) (.node (q56 P) (nl (q88 P)) (nl (kO 120 P))))) (.node (q12_p11 P) (.node (q20 P) (.node (kO 36 P) (nl (q68 P)) (nl (kO 100 P))) (.node (kO 52 P) (nl (q84 P)) (nl (q12 P)))) (.node (kO 28 P) (.node (q12 P) (nl (q76 P)) (nl (kO 108 P))) (.node (q11 P) (nl (q92 P)) .nil)))) (.node (boot_o_6 P) (.node (boot_o_10 P) (.node (q11 P) (.node (kO 34 P) (nl (kO 66 P)) (nl (q98 P))) (.node (kO 50 P) (nl (kO 82 P)) (nl (kO 114 P)))) (.node (q26 P) (.node (kO 42 P) (nl (q12 P)) (nl (kO 106 P))) (.node (q16 P) (nl (kO 90 P)) .nil))) (.node (q14 P) (.node (kO 22 P) (.node (kO 38 P) (nl (kO 70 P)) (nl (q12 P))) (.node (kO 54 P) (nl (q12 P)) (nl (kO 118 P)))) (.node (q12 P) (.node (kO 46 P) (nl (kO 78 P)) (nl (kO 110 P))) (.node (q62 P) (nl (kO 94 P)) .nil))))))
noncomputable def T_p25 : Params → BT := fun P => (.node (boot_o_0 P) (.node (boot_o_1 P) (.node (kO 3 P) (.node (boot_o_7 P) (.node (q11 P) (.node (kO 31 P) (.node (q63 P) (nl (kO 127 P)) (nl (kO 191 P))) (.node (q12 P) (nl (q159 P)) .nil)) (.node (q47 P) (.node (kO 79 P) (nl (kO 143 P)) .nil) (.node (kO 111 P) (nl (kO 175 P)) .nil))) (.node (q12 P) (.node (kO 39 P) (.node (q16 P) (nl (kO 135 P)) (nl (q12 P))) (.node (kO 103 P) (nl (kO 167 P)) .nil)) (.node (q55 P) (.node (q87 P) (nl (q12 P)) .nil) (.node (q119 P) (nl (kO 183 P)) .nil)))) (.node (q11 P) (.node (q19 P) (.node (kO 35 P) (.node (kO 67 P) (nl (kO 131 P)) (nl (q195 P))) (.node (kO 99 P) (nl (q12 P)) .nil)) (.node (kO 51 P) (.node (q16 P) (nl (q147 P)) .nil) (.node (kO 115 P) (nl (kO 179 P)) .nil))) (.node (kO 27 P) (.node (kO 43 P) (.node (q75 P) (nl (kO 139 P)) .nil) (.node (kO 107 P) (nl (kO 171 P)) .nil)) (.node (q59 P) (.node (kO 91 P) (nl (kO 155 P)) .nil) (.node (q12 P) (nl (kO 187 P)) .nil))))) (.node (boot_o_5 P) (.node (boot_o_9 P) (.node (q17 P) (.node (q33 P) (.node (kO 65 P) (nl (kO 129 P)) (nl (kO 193 P))) (.node (kO 97 P) (nl (kO 161 P)) .nil)) (.node (kO 49 P) (.node (q81 P) (nl (kO 145 P)) .nil) (.node (kO 113 P) (nl (q12 P)) .nil))) (.node (kO 25 P) (.node (kO 41 P) (.node (q11 P) (nl (q12 P)) (nl (kO 201 P))) (.node (q105 P) (nl (kO 169 P)) .nil)) (.node (kO 57 P) (.node (kO 89 P) (nl (kO 153 P)) .nil) (.node (kO 121 P) (nl (q185 P)) .nil)))) (.node (q13 P) (.node (q21 P) (.node (q12 P) (.node (q69 P) (nl (q133 P)) (nl (kO 197 P))) (.node (kO 101 P) (nl (kO 165 P)) .nil)) (.node (kO 53 P) (.node (q11 P) (nl (kO 149 P)) .nil) (.node (kO 117 P) (nl (kO 181 P)) .nil))) (.node (kO 29 P) (.node (kO 45 P) (.node (kO 77 P) (nl (kO 141 P)) .nil) (.node (q12 P) (nl (q173 P)) .nil)) (.node (q12 P) (.node (q93 P) (nl (kO 157 P)) .nil) (.node (kO 125 P) (nl (q12 P)) .nil)))))) (.node (kO 2 P) (.node (boot_o_4 P) (.node (boot_o_8 P) (.node (q16 P) (.node (kO 32 P) (.node (kO 64 P) (nl (kO 128 P)) (nl (kO 192 P))) (.node (kO 96 P) (nl (kO 160 P)) .nil)) (.node (kO 48 P) (.node (q80 P) (nl (q12 P)) .nil) (.node (q112 P) (nl (kO 176 P)) .nil))) (.node (kO 24 P) (.node (q40 P) (.node (q72 P) (nl (kO 136 P)) (nl (q200 P))) (.node (kO 104 P) (nl (kO 168 P)) .nil)) (.node (q56 P) (.node (q88 P) (nl (kO 152 P)) .nil) (.node (kO 120 P) (nl (q12 P)) .nil)))) (.node (q12_p25 P) (.node (q20 P) (.node (kO 36 P) (.node (q68 P) (nl (kO 132 P)) (nl (kO 196 P))) (.node (kO 100 P) (nl (kO 164 P)) .nil)) (.node (kO 52 P) (.node (q84 P) (nl (kO 148 P)) .nil) (.node (q12 P) (nl (q180 P)) .nil))) (.node (kO 28 P) (.node (q12 P) (.node (q76 P) (nl (q140 P)) .nil) (.node (kO 108 P) (nl (kO 172 P)) .nil)) (.node (q11 P) (.node (q92 P) (nl (kO 156 P)) .nil) (.node (kO 124 P) (nl (kO 188 P)) .nil))))) (.node (boot_o_6 P) (.node (boot_o_10 P) (.node (q11 P) (.node (kO 34 P) (.node (kO 66 P) (nl (q12 P)) (nl (q12 P))) (.node (q98 P) (nl (kO 162 P)) .nil)) (.node (kO 50 P) (.node (kO 82 P) (nl (kO 146 P)) .nil) (.node (kO 114 P) (nl (kO 178 P)) .nil))) (.node (q26 P) (.node (kO 42 P) (.node (q12 P) (nl (kO 138 P)) (nl (kO 202 P))) (.node (kO 106 P) (nl (q12 P)) .nil)) (.node (q16 P) (.node (kO 90 P) (nl (q154 P)) .nil) (.node (kO 122 P) (nl (kO 186 P)) .nil)))) (.node (q14 P) (.node (kO 22 P) (.node (kO 38 P) (.node (kO 70 P) (nl (kO 134 P)) (nl (kO 198 P))) (.node (q12 P) (nl (q166 P)) .nil)) (.node (kO 54 P) (.node (q12 P) (nl (kO 150 P)) .nil) (.node (kO 118 P) (nl (kO 182 P)) .nil))) (.node (q12 P) (.node (kO 46 P) (.node (kO 78 P) (nl (kO 142 P)) .nil) (.node (kO 110 P) (nl (kO 174 P)) .nil)) (.node (q62 P) (.node (kO 94 P) (nl (q12 P)) .nil) (.node (q126 P) (nl (q190 P)) .nil)))))))
noncomputable def Hf : Params → Heap := fun P => ⟨⟨boot_o_0 P :: boot_o_1 P :: kO 2 P :: kO 3 P :: boot_o_4 P :: boot_o_5 P :: boot_o_6 P :: boot_o_7 P :: boot_o_8 P :: boot_o_9 P :: boot_o_10 P :: q11 P :: q12_p25 P :: q13 P :: q14 P :: q11 P :: q16 P :: q17 P :: q11 P :: q19 P :: q20 P :: q21 P :: kO 22 P :: q12 P :: kO 24 P :: kO 25 P :: q26 P :: kO 27 P :: kO 28 P :: kO 29 P :: q12 P :: kO 31 P :: kO 32 P :: q33 P :: kO 34 P :: kO 35 P :: kO 36 P :: q12 P :: kO 38 P :: kO 39 P :: q40 P :: kO 41 P :: kO 42 P :: kO 43 P :: q12 P :: kO 45 P :: kO 46 P :: q47 P :: kO 48 P :: kO 49 P :: kO 50 P :: kO 51 P :: kO 52 P :: kO 53 P :: kO 54 P :: q55 P :: q56 P :: kO 57 P :: q16 P :: q59 P :: q11 P :: q12 P :: q62 P :: q63 P :: kO 64 P :: kO 65 P :: kO 66 P :: kO 67 P :: q68 P :: q69 P :: kO 70 P :: q16 P :: q72 P :: q11 P :: q12 P :: q75 P :: q76 P :: kO 77 P :: kO 78 P :: kO 79 P :: q80 P :: q81 P :: kO 82 P :: q16 P :: q84 P :: q11 P :: q12 P :: q87 P :: q88 P :: kO 89 P :: kO 90 P :: kO 91 P :: q92 P :: q93 P :: kO 94 P :: q12 P :: kO 96 P :: kO 97 P :: q98 P :: kO 99 P :: kO 100 P :: kO 101 P :: q12 P :: kO 103 P :: kO 104 P :: q105 P :: kO 106 P :: kO 107 P :: kO 108 P :: q12 P :: kO 110 P :: kO 111 P :: q112 P :: kO 113 P :: kO 114 P :: kO 115 P :: q12 P :: kO 117 P :: kO 118 P :: q119 P :: kO 120 P :: kO 121 P :: kO 122 P :: q12 P :: kO 124 P :: kO 125 P :: q126 P :: kO 127 P :: kO 128 P :: kO 129 P :: q12 P :: kO 131 P :: kO 132 P :: q133 P :: kO 134 P :: kO 135 P :: kO 136 P :: q12 P :: kO 138 P :: kO 139 P :: q140 P :: kO 141 P :: kO 142 P :: kO 143 P :: q12 P :: kO 145 P :: kO 146 P :: q147 P :: kO 148 P :: kO 149 P :: kO 150 P :: q12 P :: kO 152 P :: kO 153 P :: q154 P :: kO 155 P :: kO 156 P :: kO 157 P :: q12 P :: q159 P :: kO 160 P :: kO 161 P :: kO 162 P :: q12 P :: kO 164 P :: kO 165 P :: q166 P :: kO 167 P :: kO 168 P :: kO 169 P :: q12 P :: kO 171 P :: kO 172 P :: q173 P :: kO 174 P :: kO 175 P :: kO 176 P :: q12 P :: kO 178 P :: kO 179 P :: q180 P :: kO 181 P :: kO 182 P :: kO 183 P :: q12 P :: q185 P :: kO 186 P :: kO 187 P :: kO 188 P :: q12 P :: q190 P :: kO 191 P :: kO 192 P :: kO 193 P :: q12 P :: q195 P :: kO 196 P :: kO 197 P :: kO 198 P :: q12 P :: q200 P :: kO 201 P :: kO 202 P :: []⟩, life⟩
noncomputable def gn : Array GenState := Array.mk []
noncomputable def dr : Drawn := Drawn.mk 0 0 0 0
noncomputable abbrev pg : Program := PySem.Challenge.pw_wn0047_01
noncomputable def bd : List Stmt := behindTheImports pg
noncomputable def en : Env := { scope := pg.main.scope, locals := mainNs, globals := mainNs, cells := [], code := .ref 13, frame := some 14 }
noncomputable def cc : Code := .body bd en
noncomputable def fr0 : List Frame := [topFrame ⟨0, 0, 0, 0⟩]
noncomputable def an : Option Value := some (.ref 6)
theorem bd_eq : bd = bd.take 3 ++ ((bd.drop 3).take 2 ++ ((bd.drop 5).take 7 ++ (bd.drop 12 ++ []))) := by kernel_rfl
theorem preT (w : World) (os : OsState) : topGo treeTable pg w 11 an 12 ⟨boot_heap w.params, Array.mk [], boot_drawn, boot_toks, os⟩ (topStub pg) = some (⟨Ha w.params, gn, dr, 187, os⟩, ⟨denote treeTable cc, cc, ⟨0, 0, 0, 0⟩, fr0⟩) := by kernel_rfl
theorem blockT (w : World) (os : OsState) : segRun treeTable pg w 11 an 1 1 ⟨Ha w.params, gn, dr, 187, os⟩ (blockOf bd en cc ⟨0, 0, 0, 0⟩ fr0) = some (.next, SharedT.abs ⟨T_block w.params, 15, life, gn, dr, 187, os⟩, cc, ⟨0, 0, 0, 0⟩) := by kernel_rfl
theorem gA (w : World) (os : OsState) : segRunT treeTable pg w 11 an 1 342 ⟨T_block w.params, 15, life, gn, dr, 187, os⟩ (piecesOf (bd.take 3) en cc ⟨0, 0, 0, 0⟩ fr0) = some (.next, ⟨T_p2 w.params, 57, life, gn, dr, 249, os⟩, cc, ⟨45, 0, 45, 8⟩) := by
  unfold piecesOf
  rw [PySem.W.Fast.te10110043849684766642, PySem.W.Fast.te12563942051412417395, PySem.W.Fast.te14364793385576792824]
  kernel_rfl
theorem gB (w : World) (os : OsState) : segRunT treeTable pg w 11 an 1 410 ⟨T_p2 w.params, 57, life, gn, dr, 249, os⟩ (piecesOf ((bd.drop 3).take 2) en cc ⟨45, 0, 45, 8⟩ fr0) = some (.next, ⟨T_p4 w.params, 82, life, gn, dr, 285, os⟩, cc, ⟨48, 0, 49, 8⟩) := by
  unfold piecesOf
  rw [PySem.W.Fast.te10110043849684766642, PySem.W.Fast.te12563942051412417395, PySem.W.Fast.te14364793385576792824]
  kernel_rfl
theorem gC (w : World) (os : OsState) : segRunT treeTable pg w 11 an 1 370 ⟨T_p4 w.params, 82, life, gn, dr, 285, os⟩ (piecesOf ((bd.drop 5).take 7) en cc ⟨48, 0, 49, 8⟩ fr0) = some (.next, ⟨T_p11 w.params, 122, life, gn, dr, 346, os⟩, cc, ⟨90, 0, 101, 32⟩) := by
  unfold piecesOf
  rw [PySem.W.Fast.te10110043849684766642, PySem.W.Fast.te12563942051412417395, PySem.W.Fast.te14364793385576792824]
  kernel_rfl
theorem gD (w : World) (os : OsState) : segRunT treeTable pg w 11 an 1 393 ⟨T_p11 w.params, 122, life, gn, dr, 346, os⟩ (piecesOf (bd.drop 12) en cc ⟨90, 0, 101, 32⟩ fr0) = some (.next, ⟨T_p25 w.params, 203, life, gn, dr, 455, os⟩, cc, ⟨215, 0, 224, 98⟩) := by
  unfold piecesOf
  rw [PySem.W.Fast.te10110043849684766642, PySem.W.Fast.te12563942051412417395, PySem.W.Fast.te14364793385576792824]
  kernel_rfl
theorem finT (w : World) (os : OsState) : topRun treeTable pg w 11 an 2 (SharedT.abs ⟨T_p25 w.params, 203, life, gn, dr, 455, os⟩) ⟨doneF .next, cc, ⟨215, 0, 224, 98⟩, fr0⟩ = some ⟨Hf w.params, gn, dr, 455, os⟩ := by kernel_rfl
theorem runT (w : World) (os : OsState) : topRun treeTable pg w 11 an (12 + (1 + (342 + (410 + (370 + (393 + 2)))))) ⟨boot_heap w.params, Array.mk [], boot_drawn, boot_toks, os⟩ (topStub pg) = some ⟨Hf w.params, gn, dr, 455, os⟩ :=
  go_top (preT w os) (piece_block (blockT w os) (Eq.mpr (congrArg (fun l => topRun treeTable pg w 11 an (342 + (410 + (370 + (393 + 2)))) (SharedT.abs ⟨T_block w.params, 15, life, gn, dr, 187, os⟩) (restOf l en cc ⟨0, 0, 0, 0⟩ fr0) = some ⟨Hf w.params, gn, dr, 455, os⟩) bd_eq)
    (piece_app (segRun_of (gA w os)) (piece_app (segRun_of (gB w os)) (piece_app (segRun_of (gC w os)) (piece_app (segRun_of (gD w os)) (piece_nil (finT w os))))))))
theorem opensT : ∀ w : World, (fencedOpening treeTable pg w 3130).map (fun s => (s.heap, s.gens, s.drawn, s.toks)) = some (boot_heap w.params, Array.mk [], boot_drawn, boot_toks) :=
  boot_open (by kernel_rfl) (by kernel_rfl) (fun s => by kernel_rfl)
theorem sizeT (w : World) : ((boot_heap w.params).isNs PySem.mainGlobals && (Array.mk [] : Array GenState).size == 0, (boot_heap w.params).objs.size, (boot_heap w.params).nsMap PySem.mainGlobals "__annotations__") = (true, 11, an) := by kernel_rfl
theorem look1 (w : World) (os : OsState) : (staticsOk (importedModules pg.main.body) (boot_heap w.params) (Hf w.params) && namesBound pg (Hf w.params) && gensDone ⟨Hf w.params, gn, dr, 455, os⟩ && laidKept (boot_heap w.params) (Hf w.params)) = true := by kernel_rfl
theorem look2 (w : World) (os : OsState) : openSeen vw [] (importedModules pg.main.body) (fun s => xlAt vw [] s && recOk (RowW.records PySem.Challenge.rw_wn0047_01.row.toRowW) s) true ⟨Hf w.params, gn, dr, 455, os⟩ = openGood vw [] := by
  rw [PySem.W.Fast.te4187177175401517315]
  kernel_rfl
theorem look3 (w : World) (os : OsState) : Hook.obs (kmHook hd.heap_39 kAs kAs_eq [144]) ⟨Hf w.params, gn, dr, 455, os⟩ = Hook.val (kmHook hd.heap_39 kAs kAs_eq [144]) w := by kernel_rfl
theorem left : LeftO PySem.Challenge.rw_wn0047_01.row.prog vw [] (fun s => xlAt vw [] s && recOk (RowW.records PySem.Challenge.rw_wn0047_01.row.toRowW) s) (Hook.obs (kmHook hd.heap_39 kAs kAs_eq [144])) (Hook.val (kmHook hd.heap_39 kAs kAs_eq [144])) 3130 :=
  LeftO.of_pieces opensT sizeT runT (by decide) (fun w => funext fun os => looks_pair (look1 w os) (looks_pair (look2 w os) (look3 w os)))
-- Base
/-- what a contract hands on: the caller's frame and ledger stand -/
noncomputable abbrev Ret (h₀ : Heap) (L : Addr) (m : Str → Option Value) (news : List (Addr × Obj)) (s : Shared) (Q : Value → Shared → Prop) (v : Tok → Value) : Prop :=
  ∀ (t : Tok) (h' : Heap) (tk' : Nat), Fr h₀ L h' m → News h₀ L h' news → Q (v t) { s with heap := h', toks := tk' }
/-- the same, with new objects ahead of the ledger -/
noncomputable abbrev RetN (h₀ : Heap) (L : Addr) (m : Str → Option Value) (news : List (Addr × Obj)) (s : Shared) (Q : Value → Shared → Prop) (v : Value) (own : List (Addr × Obj)) : Prop :=
  ∀ (h' : Heap) (tk' : Nat), Fr h₀ L h' m → News h₀ L h' (own ++ news) → (∀ p ∈ own, ∀ q ∈ news, q.1 < p.1) → Q v { s with heap := h', toks := tk' }
theorem up1 {u a b c : Nat} (h : u + b < c) (e : Nat.ble a b = true) : u + a < c := Nat.lt_of_le_of_lt (Nat.add_le_add_left (Nat.le_of_ble_eq_true e) u) h
theorem up2 {u a a2 b c : Nat} (h : u + b < c) (e : Nat.ble (a + a2) b = true) : u + a + a2 < c := Nat.add_assoc u a a2 ▸ up1 h e
theorem up3 {u a a2 a3 b c : Nat} (h : u + b < c) (e : Nat.ble (a + a2 + a3) b = true) : u + a + a2 + a3 < c := by rw [Nat.add_assoc u a a2]; exact up2 h e
theorem up4 {u a a2 a3 a4 b c : Nat} (h : u + b < c) (e : Nat.ble (a + a2 + a3 + a4) b = true) : u + a + a2 + a3 + a4 < c := by rw [Nat.add_assoc u a a2]; exact up3 h e
theorem up5 {u a a2 a3 a4 a5 b c : Nat} (h : u + b < c) (e : Nat.ble (a + a2 + a3 + a4 + a5) b = true) : u + a + a2 + a3 + a4 + a5 < c := by rw [Nat.add_assoc u a a2]; exact up4 h e
-- Lib1
theorem lines1 : True := by
  k_with_none
  k_with "in" => first | with_reducible assumption | exact And.left (by with_reducible assumption) | exact And.left (And.right (by with_reducible assumption)) | exact And.left (And.right (And.right (by with_reducible assumption))) | exact And.left (And.right (And.right (And.right (by with_reducible assumption)))) | exact And.left (And.right (And.right (And.right (And.right (by with_reducible assumption))))) | exact And.left (And.right (And.right (And.right (And.right (And.right (by with_reducible assumption)))))) | exact And.left (And.right (And.right (And.right (And.right (And.right (And.right (by with_reducible assumption))))))) | exact And.left (And.right (And.right (And.right (And.right (And.right (And.right (And.right (by with_reducible assumption)))))))) | exact And.left (And.right (And.right (And.right (And.right (And.right (And.right (And.right (And.right (by with_reducible assumption))))))))) | exact And.left (And.right (And.right (And.right (And.right (And.right (And.right (And.right (And.right (And.right (by with_reducible assumption)))))))))) | exact And.left (And.right (And.right (And.right (And.right (And.right (And.right (And.right (And.right (And.right (And.right (by with_reducible assumption))))))))))) | exact And.left (And.right (And.right (And.right (And.right (And.right (And.right (And.right (And.right (And.right (And.right (And.right (by with_reducible assumption)))))))))))) | exact And.left (And.right (And.right (And.right (And.right (And.right (And.right (And.right (And.right (And.right (And.right (And.right (And.right (by with_reducible assumption))))))))))))) | exact And.left (And.right (And.right (And.right (And.right (And.right (And.right (And.right (And.right (And.right (And.right (And.right (And.right (And.right (by with_reducible assumption)))))))))))))) | exact And.left (And.right (And.right (And.right (And.right (And.right (And.right (And.right (And.right (And.right (And.right (And.right (And.right (And.right (And.right (by with_reducible assumption))))))))))))))) | exact And.right (by with_reducible assumption) | exact And.right (And.right (by with_reducible assumption)) | exact And.right (And.right (And.right (by with_reducible assumption))) | exact And.right (And.right (And.right (And.right (by with_reducible assumption)))) | exact And.right (And.right (And.right (And.right (And.right (by with_reducible assumption))))) | exact And.right (And.right (And.right (And.right (And.right (And.right (by with_reducible assumption)))))) | exact And.right (And.right (And.right (And.right (And.right (And.right (And.right (by with_reducible assumption))))))) | exact And.right (And.right (And.right (And.right (And.right (And.right (And.right (And.right (by with_reducible assumption)))))))) | exact And.right (And.right (And.right (And.right (And.right (And.right (And.right (And.right (And.right (by with_reducible assumption))))))))) | exact And.right (And.right (And.right (And.right (And.right (And.right (And.right (And.right (And.right (And.right (by with_reducible assumption)))))))))) | exact And.right (And.right (And.right (And.right (And.right (And.right (And.right (And.right (And.right (And.right (And.right (by with_reducible assumption))))))))))) | exact And.right (And.right (And.right (And.right (And.right (And.right (And.right (And.right (And.right (And.right (And.right (And.right (by with_reducible assumption)))))))))))) | exact And.right (And.right (And.right (And.right (And.right (And.right (And.right (And.right (And.right (And.right (And.right (And.right (And.right (by with_reducible assumption))))))))))))) | exact And.right (And.right (And.right (And.right (And.right (And.right (And.right (And.right (And.right (And.right (And.right (And.right (And.right (And.right (by with_reducible assumption))))))))))))))
  k_with "lt0" => first | with_reducible assumption | exact Nat.lt_trans (by with_reducible assumption) (by k_extra "lt0")
  k_with "lt" => first | k_extra "in" | exact Nat.lt_trans (by k_extra "in") (by k_extra "lt")
  k_with "ne0" => first | with_reducible assumption | exact Ne.symm (by with_reducible assumption) | exact Nat.succ_ne_self _ | exact Ne.symm (Nat.succ_ne_self _) | (refine Nat.ne_of_lt ?_; k_extra "lt0") | (refine Nat.ne_of_gt ?_; k_extra "lt0")
  k_with "ne1" => first | k_extra "in" | (refine Ne.symm ?_; k_extra "in") | (refine Nat.ne_of_lt ?_; k_extra "lt") | (refine Nat.ne_of_gt ?_; k_extra "lt")
  k_with "ne2" => first | (refine Nat.ne_of_lt ?_; k_extra "lt0") | (refine Nat.ne_of_gt ?_; k_extra "lt0") | (refine Nat.ne_of_lt (And.left (by with_reducible assumption)))  | (refine Nat.ne_of_gt (And.left (by with_reducible assumption))) | (refine Nat.ne_of_lt (Nat.lt_trans (And.right (by with_reducible assumption)) ?_); k_extra "lt0") | (refine Nat.ne_of_lt (And.right (by with_reducible assumption))) | (refine Nat.ne_of_gt (Nat.lt_trans ?_ (And.left (by with_reducible assumption))); k_extra "lt0")
  k_with "ne" => first | k_extra "ne0" | (refine Or.elim (by with_reducible assumption : @LT.lt Nat _ _ _ ∨ @LT.lt Nat _ _ _ ∧ @LT.lt Nat _ _ _) (fun q9 => ?_) (fun q9 => ?_); (all_goals k_extra "ne2")) | k_extra "ne1"
  k_with "ifs" => first | with_reducible rfl | exact Eq.trans (if_neg (by assumption)) (by k_extra "ifs")
  k_with "up" => first | exact up2 (by with_reducible assumption) rfl | exact up1 (by with_reducible assumption) rfl | exact up3 (by with_reducible assumption) rfl | exact up4 (by with_reducible assumption) rfl | exact up5 (by with_reducible assumption) rfl
  k_with "om" => first | with_reducible assumption | exact Nat.succ_pos _ | (with_reducible show @LT.lt Nat _ _ _; (try dsimp only); first | k_extra "lt0" | k_extra "up" | k_extra "lt") | (with_reducible show @Ne Nat _ _; k_extra "ne") | (with_reducible show @LT.lt Nat _ _ _ ∧ @LT.lt Nat _ _ _; refine And.intro ?_ ?_ <;> k_extra "om") | (with_reducible show @Eq Nat _ _; first | exact Nat.add_sub_add_right 6 1 _ | exact (Nat.add_sub_add_right 6 1 _).symm | exact Nat.succ_sub (by omega) | exact (Nat.succ_sub (by omega)).symm | exact Nat.sub_sub_self (by omega)) | omega
  k_with "k_room" => first | k_extra "up" | ((try simp only [depth_under_make, depth_under_kw, depth_in1, depth_deeper, depth_caller]); omega)
  k_with "tb_start" => first | assumption | omega | (simp only [List.length_cons, List.length_nil, List.length_append]; omega)
  k_with "tb_rel" => repeat' (first | exact List.forall_mem_nil _ | refine List.forall_mem_cons.mpr ⟨by first | exact Or.inr (by k_mem) | exact Or.inl (by simp), ?_⟩)
  k_with "k_units" => first | k_extra "up" | ((try simp only [units_in1, units_deeper, Around.mark_units, units_caller]); omega)

  exact True.intro
/-- two lists, item by item -/
inductive All2 {α β : Type} (R : α → β → Prop) : List α → List β → Prop
  | nil : All2 R [] []
  | cons {a : α} {b : β} {as : List α} {bs : List β} : R a b → All2 R as bs → All2 R (a :: as) (b :: bs)
/-- the items are one-sign strs -/
noncomputable def CharsAre (vs : List Value) (cs : List Nat) : Prop := All2 (fun v c => ∃ t, v = Value.str ⟨#[c]⟩ t) vs cs
theorem CharsAre.of_get {vs : List Value} {cs : List Nat} (hl : vs.length = cs.length) (h : ∀ (j : Nat) (v : Value), vs[j]? = some v → ∃ c u, cs[j]? = some c ∧ v = Value.str ⟨#[c]⟩ u) : CharsAre vs cs := by
  induction vs generalizing cs with
  | nil => cases cs with
    | nil => exact .nil
    | cons c r => cases hl
  | cons v r ih => cases cs with
    | nil => cases hl
    | cons c cs =>
      obtain ⟨c', u, hc, hv⟩ := h 0 v rfl
      cases hc
      exact .cons ⟨u, hv⟩ (ih (by simpa using hl) fun j w hw => h (j + 1) w hw)
section
variable {prog : Program} {w : World} {A : Around} {E : Value → Shared → Prop} {s : Shared} {h₀ : Heap} {L : Addr} {m : Str → Option Value} {Q : Value → Shared → Prop} {news : List (Addr × Obj)}
theorem list_strN {x : Str} {t : Tok} (hh : A.handled = none) (F : Fr h₀ L s.heap m) (N : News h₀ L s.heap news) (hn : x.cps.size ≤ sizeLine)
    (h : ∀ l h' tk vs k, Fr h₀ L h' m → News h₀ L h' ((l, ({ cls := .type "list", data := .seq (List.toArray vs) k } : Obj)) :: news) → (∀ q ∈ news, q.1 < l) → CharsAre vs x.cps.toList → Q (.ref l) { s with heap := h', toks := tk }) :
    wpAny (model prog w) A (call (.type "list") [.str x t]) Q E s := by
  refine PySem.call_list_str hh x t (hn := hn) fun h' tk acc' c' hk hS' hacc => ?_
  have hLs : L < s.heap.objs.size := F.ns.lt
  refine h s.heap.objs.size h' tk acc'.toList c' (F.keeps hk) (fun p hp => ?_) (fun q hq => Heap.lt_size (N q hq).1) (CharsAre.of_get (by simp [hacc.1]) fun j v hv => ?_)
  · rcases List.mem_cons.mp hp with rfl | hp
    · refine ⟨by simpa using hS', Nat.ne_of_gt hLs, ?_⟩
      cases e : h₀.get? s.heap.objs.size with
      | none => rfl
      | some o => exact absurd (Heap.lt_size (F.keep _ _ e)) (Nat.lt_irrefl _)
    · exact ⟨hk _ _ (N p hp).1, (N p hp).2⟩
  · obtain ⟨c, u, hc, rfl⟩ := hacc.2 j v (by simpa using hv)
    exact ⟨c, u, by simpa using hc, rfl⟩
end
-- Lib2
/-- where a call stands: no exception handled, the frames below -/
noncomputable abbrev AT (dp un : Nat) (gd : Option (List Code)) (outs : List Env) : Around := { handled := none, depth := dp, frames := some outs, guards := gd, units := un }
/-- objects that stand in h and are none of h₀'s -/
noncomputable abbrev Own (h₀ h : Heap) (own : List (Addr × Obj)) : Prop := ∀ p ∈ own, h.get? p.1 = some p.2 ∧ h₀.get? p.1 = none
/-- all but what lies at these addresses stands -/
noncomputable def Keeps (as : List Addr) (h h' : Heap) : Prop := ∀ b o, b ∉ as → h.get? b = some o → h'.get? b = some o
theorem Keeps.refl {as : List Addr} {h : Heap} : Keeps as h h := fun _ _ _ e => e
theorem Keeps.trans {as : List Addr} {h h' h'' : Heap} (x : Keeps as h h') (y : Keeps as h' h'') : Keeps as h h'' := fun b o hb e => y b o hb (x b o hb e)
theorem Keeps.mono {as bs : List Addr} {h h' : Heap} (x : Keeps as h h') (hs : ∀ a ∈ as, a ∈ bs) : Keeps bs h h' := fun b o hb e => x b o (fun q => hb (hs b q)) e
theorem Keeps.all {h h' : Heap} (x : Keeps [] h h') {b : Addr} {o : Obj} (e : h.get? b = some o) : h'.get? b = some o := x b o (fun q => nomatch q) e
theorem own_hide {A : Around} {base h₀ h : Heap} {outs : List Env} {own : List (Addr × Obj)} (B : Below A base outs h₀) (st : h₀.StaysIn h) (N : Own h₀ h own) :
    h₀.StaysIn (hideAll h (own.map (·.1))) ∧ Below A base outs (hideAll h (own.map (·.1))) := by
  have nm : ∀ b o, h₀.get? b = some o → b ∉ own.map (·.1) := fun b o e q => by
    obtain ⟨p, hp, rfl⟩ := List.mem_map.mp q
    rw [(N p hp).2] at e; cases e
  have st' : h₀.StaysIn (hideAll h (own.map (·.1))) := fun b o e => hideAll_get _ (st b o e) (nm b o e)
  refine ⟨st', B.stack, fun b o e => st' b o (B.stays b o e), funFrames_hideAll (B.frames.of_keeps fun b o e _ => ⟨o, st b o e, rfl⟩) fun env he b hb hf => ?_⟩
  obtain ⟨L₁, o₁, hf₁, ho₁⟩ := funFrames_in B.frames env he
  rw [hf₁] at hf
  exact nm L₁ o₁ ho₁ ((Option.some.inj hf : L₁ = b) ▸ hb)
theorem keeps_as {g h h' h₀ : Heap} {L : Addr} {m : Str → Option Value} {own news' : List (Addr × Obj)} {as : List Addr} (hg : g = hideAll h (own.map (·.1))) (N : Own h₀ h own) (F : Fr g L h' m) (N' : News g L h' news')
    (hs : ∀ p ∈ own, p.1 ∈ as ∨ p ∈ news') : Keeps as h h' := by
  subst hg
  intro b o hb e
  by_cases hm : b ∈ own.map (·.1)
  · obtain ⟨p, hp, rfl⟩ := List.mem_map.mp hm
    rcases hs p hp with q | q
    · exact absurd q hb
    · have := (N p hp).1
      rw [e] at this; cases this
      exact (N' p q).1
  · exact F.keep b o (hideAll_get _ e hm)
theorem new_of {g h h' : Heap} {L a : Addr} {o : Obj} {own news : List (Addr × Obj)} (hg : g = hideAll h (own.map (·.1))) (N : News g L h' news) (hm : (a, o) ∈ news) (hne : a ∉ own.map (·.1)) : h.get? a = none := by
  subst hg
  cases e : h.get? a with
  | none => rfl
  | some o' =>
    have := (N _ hm).2.2
    rw [hideAll_get _ e hne] at this
    cases this
/-- a frame and a ledger, behind a call that changed what lies at these addresses -/
theorem fr_keeps {h₀ h h' : Heap} {L : Addr} {m : Str → Option Value} {as : List Addr} (F : Fr h₀ L h m) (k : Keeps as h h') (ha : ∀ a ∈ as, a ≠ L ∧ h₀.get? a = none) : Fr h₀ L h' m :=
  ⟨F.ns.at' fun o e => k L o (fun q => (ha L q).1 rfl) e, fun b o e => k b o (fun q => by have := (ha b q).2; rw [e] at this; cases this) (F.keep b o e), F.above⟩
theorem news_keeps0 {h₀ h h' : Heap} {L : Addr} {news : List (Addr × Obj)} (N : News h₀ L h news) (k : Keeps [] h h') : News h₀ L h' news := fun p hp => ⟨k.all (N p hp).1, (N p hp).2⟩
theorem news_keeps1 {h₀ h h' : Heap} {L d : Addr} {o o' : Obj} {news news' : List (Addr × Obj)} (N : News h₀ L h news) (k : Keeps [d] h h') (U : Upd d o o' news news') (hd : h'.get? d = some o') : News h₀ L h' news' := by
  obtain ⟨pre, post, rfl, rfl, a, b⟩ := U.split
  have z := N (d, o) (List.mem_append.mpr (.inr (.head _)))
  intro p hp
  rcases List.mem_append.mp hp with hp | hp
  · exact ⟨k _ _ (by simpa using a p hp) (N p (List.mem_append_left _ hp)).1, (N p (List.mem_append_left _ hp)).2⟩
  · rcases List.mem_cons.mp hp with rfl | hp
    · exact ⟨hd, z.2⟩
    · have z' := N p (List.mem_append_right _ (.tail _ hp))
      exact ⟨k _ _ (by simpa using b p hp) z'.1, z'.2⟩
theorem news_keeps2 {h₀ h h' : Heap} {L d d₂ : Addr} {o o' o₂ o₂' : Obj} {news n1 news' : List (Addr × Obj)} (N : News h₀ L h news) (k : Keeps [d, d₂] h h') (U : Upd d o o' news n1) (U₂ : Upd d₂ o₂ o₂' n1 news') (hne : d ≠ d₂) (hd : h'.get? d = some o') (hd₂ : h'.get? d₂ = some o₂') : News h₀ L h' news' := by
  obtain ⟨pre, post, rfl, rfl, a, b⟩ := U.split
  obtain ⟨pre₂, post₂, e, rfl, a₂, b₂⟩ := U₂.split
  have z := N (d, o) (List.mem_append.mpr (.inr (.head _)))
  have look : ∀ p ∈ pre ++ (d, o') :: post, p.1 ≠ d₂ → h'.get? p.1 = some p.2 ∧ p.1 ≠ L ∧ h₀.get? p.1 = none := fun p hp hne₂ => by
    rcases List.mem_append.mp hp with hp | hp
    · have z' := N p (List.mem_append_left _ hp)
      exact ⟨k _ _ (by simp; exact ⟨a p hp, hne₂⟩) z'.1, z'.2⟩
    · rcases List.mem_cons.mp hp with rfl | hp
      · exact ⟨hd, z.2⟩
      · have z' := N p (List.mem_append_right _ (.tail _ hp))
        exact ⟨k _ _ (by simp; exact ⟨b p hp, hne₂⟩) z'.1, z'.2⟩
  have there : ∀ p ∈ pre ++ (d, o') :: post, p.1 ≠ L ∧ h₀.get? p.1 = none := fun p hp => by
    rcases List.mem_append.mp hp with hp | hp
    · exact (N p (List.mem_append_left _ hp)).2
    · rcases List.mem_cons.mp hp with rfl | hp
      · exact z.2
      · exact (N p (List.mem_append_right _ (.tail _ hp))).2
  intro p hp
  rcases List.mem_append.mp hp with hp | hp
  · exact look p (e ▸ List.mem_append_left _ hp) (a₂ p hp)
  · rcases List.mem_cons.mp hp with rfl | hp
    · exact ⟨hd₂, there (d₂, o₂) (e ▸ List.mem_append_right _ (.head _))⟩
    · exact look p (e ▸ List.mem_append_right _ (.tail _ hp)) (b₂ p hp)
/-- a call of a contract's, out of a frame with its ledger -/
theorem call_own {A A₀ : Around} {s : Shared} {base h₀ : Heap} {outer : List Env} {L : Addr} {m : Str → Option Value} {env : Env} {news : List (Addr × Obj)} {K : Frag} {mg mb : Str → Option Value} {p : Program} {loose : List Str} {mean : ExcName → Option Value} {P : Prop}
    (B : Below A₀ base outer h₀) (F : Fr h₀ L s.heap m) (X : K.In h₀) (T : Top p loose mean mg mb h₀) (N : News h₀ L s.heap news) (hA : A.frames = some (env :: outer)) (hf : env.frame = some L) (hke : env.scope.kind = .function)
    (h : ∀ h₁, Below A base (env :: outer) h₁ → K.In h₁ → Top p loose mean mg mb h₁ → h₁.StaysIn s.heap → Own h₁ s.heap news → P) : P := by
  obtain ⟨FG, BG, st, -⟩ := groundX (R := fun _ _ => True) B F N hA hf hke
  exact h _ BG (X.keeps st) (T.keeps st) (fun b o e => of_hideAll _ e) fun p hp => ⟨(N p hp).1, hideAll_none _ (List.mem_map_of_mem hp)⟩
section
variable {prog : Program} {w : World} {A : Around} {s : Shared} {base h₀ : Heap} {outs : List Env} {K : Frag} {own : List (Addr × Obj)} {mg mb : Str → Option Value} {p : Program} {loose : List Str} {mean : ExcName → Option Value}
  {R : Result → Shared → Prop} {name qual : Str} {params : Arguments} {body : List Stmt} {scope : Scope} {dV kV doc pm cdv ct oc : Value} {an od : Option Addr} {osl : Array (Option Value)} {f : Addr} {args : Args} {binds : List (Str × Value)}
theorem enter (B : Below A base outs h₀) (X : K.In h₀) (T : Top p loose mean mg mb h₀) (st : h₀.StaysIn s.heap) (N : Own h₀ s.heap own)
    (ho : K.lookup f = some ⟨oc, od, .func (fnOf name qual params body scope dV kV doc pm an cdv ct), osl⟩) (hcd : codeIn K cdv qual = true) (hroom : A.depth < recursionLimit)
    (hbind : BindsTo s (fnOf name qual params body scope dV kV doc pm an cdv ct) args binds) (hloc : ∀ y ∈ binds, scope.names.lookup y.1 = some .local)
    (h : ∀ g L' h₁ tk, g = hideAll s.heap (own.map (·.1)) → Fr g L' h₁ (fun y => binds.reverse.lookup y) → News g L' h₁ own → Below A base outs g → K.In g → Top p loose mean mg mb g → (∀ p ∈ own, p.1 < L') →
      wpAny (model prog w) (A.deeper (envOf qual scope L' f cdv)) (execs body (envOf qual scope L' f cdv))
        (fun fl s' => R (.ok (.ret (match fl with | .ret v => v | _ => .none))) s')
        (fun e s' => wpAny (model prog w) (A.deeper (envOf qual scope L' f cdv)) (leaving (envOf qual scope L' f cdv) e) (fun _ s'' => R (.error e) s'') (fun e' s'' => R (.error e') s'') s')
        { s with heap := h₁, toks := tk })
    (hco : scope.isCoroutine = false) (hgen : scope.isGenerator = false) (hk : scope.kind = .function)
    (hcell : ∀ x ∈ scope.names, x.2 ≠ .cell) : codeAny (model prog w) A (.call (.ref f) args) R s := by
  obtain ⟨st', B'⟩ := own_hide B st N
  refine codeAny_call_def (fd := fnOf name qual params body scope dV kV doc pm an cdv ct) (body := body) (binds := binds) hroom (st _ _ (X _ _ ho)) rfl (T.nolimit.keeps st) (codeRec_of (fun b o e => st b o (X b o e)) hcd) rfl hbind hcell hloc (fun h₁ hns hk₁ => ?_) hco hgen hk
  exact h _ s.heap.objs.size h₁ _ rfl ⟨hns, fun b o e => hk₁ b o (of_hideAll _ e), Nat.le_of_eq (hideAll_size _ _)⟩
    (fun p hp => ⟨hk₁ _ _ (N p hp).1, Nat.ne_of_lt (Heap.lt_size (N p hp).1), hideAll_none _ (List.mem_map_of_mem hp)⟩) B' (X.keeps st') (T.keeps st') (fun p hp => Heap.lt_size (N p hp).1)
theorem enterC (B : Below A base outs h₀) (X : K.In h₀) (T : Top p loose mean mg mb h₀) (st : h₀.StaysIn s.heap) (N : Own h₀ s.heap own)
    (ho : K.lookup f = some ⟨oc, od, .func (fnOf name qual params body scope dV kV doc pm an cdv ct), osl⟩) (hcd : codeIn K cdv qual = true) (hroom : A.depth < recursionLimit)
    (hbind : BindsTo s (fnOf name qual params body scope dV kV doc pm an cdv ct) args binds) (hkind : (binds.all fun y => scope.names.lookup y.1 == some .local || scope.names.lookup y.1 == some .cell) = true)
    (hnd : ((cellsFrom 0 scope.names []).map (·.1)).Nodup)
    (h : ∀ g L' h₁ tk cells, g = hideAll s.heap (own.map (·.1)) → Fr g L' h₁ (bindL (envOfC qual scope L' f cdv).kindOf binds fun _ => none) → News g L' h₁ (cells ++ own) →
      CellsAre (bindC (envOfC qual scope L' f cdv).kindOf binds fun _ => none) (cellsFrom (L' + 1) scope.names []) cells → Below A base outs g → K.In g → Top p loose mean mg mb g → (∀ p ∈ own, p.1 < L') →
      wpAny (model prog w) (A.deeper (envOfC qual scope L' f cdv)) (execs body (envOfC qual scope L' f cdv))
        (fun fl s' => R (.ok (.ret (match fl with | .ret v => v | _ => .none))) s')
        (fun e s' => wpAny (model prog w) (A.deeper (envOfC qual scope L' f cdv)) (leaving (envOfC qual scope L' f cdv) e) (fun _ s'' => R (.error e) s'') (fun e' s'' => R (.error e') s'') s')
        { s with heap := h₁, toks := tk })
    (hco : scope.isCoroutine = false) (hgen : scope.isGenerator = false) (hk : scope.kind = .function) : codeAny (model prog w) A (.call (.ref f) args) R s := by
  obtain ⟨st', B'⟩ := own_hide B st N
  refine codeAny_call_function hroom (st _ _ (X _ _ ho)) rfl hco hgen rfl (codeRec_of (fun b o e => st b o (X b o e)) hcd) (hbind _ _ _ _ ?_)
  refine wpAny_newFunctionEnv_cells hk (kindsX hkind _) fun env' he s' x => ?_
  subst he
  refine ⟨(T.nolimit.keeps st).keeps x.toInCall.keep, codeAny_func ?_⟩
  obtain ⟨h₁, tk, rfl, _⟩ := x.done
  have hk₁ := x.toInCall.keep
  obtain ⟨cells, NC, Y⟩ := Cl.news (h₀ := s.heap) (Nat.le_refl _) fun n c hm => ⟨x.cell n c (lookup_of_mem_nodup (cellsFrom_names scope.names 0 (s.heap.objs.size + 1) [] [] rfl ▸ hnd) hm), x.above n c hm⟩
  refine h _ s.heap.objs.size h₁ tk cells rfl ⟨x.toInCall.ns, fun b o e => hk₁ b o (of_hideAll _ e), Nat.le_of_eq (hideAll_size _ _)⟩ (fun p hp => ?_) Y B' (X.keeps st') (T.keeps st') (fun p hp => Heap.lt_size (N p hp).1)
  rcases List.mem_append.mp hp with hp | hp
  · refine ⟨(NC p hp).1, (NC p hp).2.1, ?_⟩
    cases q : (hideAll s.heap (own.map (·.1))).get? p.1 with
    | none => rfl
    | some o => have := of_hideAll _ q; rw [(NC p hp).2.2] at this; cases this
  · exact ⟨hk₁ _ _ (N p hp).1, Nat.ne_of_lt (Heap.lt_size (N p hp).1), hideAll_none _ (List.mem_map_of_mem hp)⟩
theorem enterLam {cl : List (Str × Addr)} {pm' ctv : Value} {c' : Addr} {ebody : PySem.Expr} (B : Below A base outs h₀) (X : K.In h₀) (T : Top p loose mean mg mb h₀) (st : h₀.StaysIn s.heap) (N : Own h₀ s.heap own)
    (ho : (f, kla_obj name qual params ebody scope cl pm' c' ctv) ∈ own) (hcd : s.heap.CodeRec (.ref c') qual) (hroom : A.depth < recursionLimit)
    (hbind : bindArgs (kla_fn name qual params ebody scope cl pm' (.ref c') ctv) args = pure binds) (hloc : ∀ y ∈ binds, scope.names.lookup y.1 = some .local)
    (h : ∀ g L' h₁ tk, g = hideAll s.heap (own.map (·.1)) → Fr g L' h₁ (fun y => binds.reverse.lookup y) → News g L' h₁ own → Below A base outs g → K.In g → Top p loose mean mg mb g → (∀ p ∈ own, p.1 < L') →
      wpAny (model prog w) (A.deeper (envX qual scope L' f (.ref c') cl)) (eval ebody (envX qual scope L' f (.ref c') cl))
        (fun v s' => R (.ok (.ret v)) s')
        (fun e s' => wpAny (model prog w) (A.deeper (envX qual scope L' f (.ref c') cl)) (leaving (envX qual scope L' f (.ref c') cl) e) (fun _ s'' => R (.error e) s'') (fun e' s'' => R (.error e') s'') s')
        { s with heap := h₁, toks := tk })
    (hco : scope.isCoroutine = false) (hgen : scope.isGenerator = false) (hk : scope.kind = .function)
    (hcell : ∀ x ∈ scope.names, x.2 ≠ .cell) : codeAny (model prog w) A (.call (.ref f) args) R s := by
  obtain ⟨st', B'⟩ := own_hide B st N
  refine kla_callFunE hroom (N _ ho).1 rfl hco hgen rfl hcd ?_
  rw [hbind]
  refine wpAny_pure (wpAny_newFunctionEnv hcell hloc (fun h₁ hns hsb => ⟨(T.nolimit.keeps st).fresh _ hsb, ?_⟩) hk)
  show codeAny _ _ (.expr ebody (envX qual scope s.heap.objs.size f (.ref c') cl)) _ _
  have hk₁ : ∀ b o, s.heap.get? b = some o → h₁.get? b = some o := fun b o e => hsb.extBut b o (Nat.ne_of_lt (Heap.lt_size e)) (Heap.get?_push_of_some _ e)
  exact kla_codeExpr (h _ s.heap.objs.size h₁ _ rfl ⟨hns, fun b o e => hk₁ b o (of_hideAll _ e), Nat.le_of_eq (hideAll_size _ _)⟩
    (fun p hp => ⟨hk₁ _ _ (N p hp).1, Nat.ne_of_lt (Heap.lt_size (N p hp).1), hideAll_none _ (List.mem_map_of_mem hp)⟩) B' (X.keeps st') (T.keeps st') (fun p hp => Heap.lt_size (N p hp).1))
end
-- Lib3
/-- a list object -/
noncomputable abbrev lsO (vs : List Value) (k : Nat) : Obj := { cls := Value.type "list", data := Data.seq (List.toArray vs) k }
/-- the dict of a lexer -/
noncomputable abbrev lexD (P : Params) (k1 k2 k3 k4 u1 u3 : Tok) (ln : Int) (src pb : Value) : Obj :=
  dictOf [⟨PyData.keyHash P (Str.ofString "lineno"), .str (Str.ofString "lineno") k1, .int ln u1⟩,
    ⟨PyData.keyHash P (Str.ofString "instream"), .str (Str.ofString "instream") k2, src⟩,
    ⟨PyData.keyHash P (Str.ofString "whitespace"), .str (Str.ofString "whitespace") k3, .str (Str.ofString "\n\t\x0d ") u3⟩,
    ⟨PyData.keyHash P (Str.ofString "pushback"), .str (Str.ofString "pushback") k4, pb⟩] 4
/-- the dict of a stream -/
noncomputable abbrev strD (P : Params) (k1 k2 k3 k4 k5 u1 u3 : Tok) (pb lam : Value) : Obj :=
  dictOf [⟨PyData.keyHash P (Str.ofString "lineno"), .str (Str.ofString "lineno") k1, .int 1 u1⟩,
    ⟨PyData.keyHash P (Str.ofString "instream"), .str (Str.ofString "instream") k2, .none⟩,
    ⟨PyData.keyHash P (Str.ofString "whitespace"), .str (Str.ofString "whitespace") k3, .str (Str.ofString "\n\t\x0d ") u3⟩,
    ⟨PyData.keyHash P (Str.ofString "pushback"), .str (Str.ofString "pushback") k4, pb⟩,
    ⟨PyData.keyHash P (Str.ofString "read"), .str (Str.ofString "read") k5, lam⟩] 5
noncomputable abbrev lamQ : Str := ((Str.ofString "_law_lexer" ++ ".<locals>.") ++ Str.ofString "<lambda>")
/-- the lambda that reads, taken out of the given program -/
noncomputable def lamE : Arguments × PySem.Expr × Scope :=
  match (PySem.Challenge.pw_wn0047_01.main.body)[16]? with
  | some (PySem.Stmt.FunctionDef _ _ body _ _ _ _ _ _ _) => match (body : List PySem.Stmt)[2]? with
    | some (PySem.Stmt.Assign _ (PySem.Expr.Lambda p b sc _) _) => (p, b, sc)
    | _ => default
  | _ => default
noncomputable abbrev lamO (cell ct : Addr) (pm ctv : Value) : Obj :=
  kla_obj (Str.ofString "<lambda>") lamQ lamE.1 lamE.2.1 lamE.2.2 [(Str.ofString "signs", cell)] pm ct ctv
/-- the fixed parts of a lexer: where its objects lie -/
structure Lex where
  (x dx pb st sd spb lam ct cell sg : Addr)
  (k1 k2 k3 k4 u3 j1 j2 j3 j4 j5 w1 w3 : Tok)
  (ctv : Value) (oc oe : Obj)
/-- the code object and the cell are what they are -/
structure Lex.Ok (l : Lex) : Prop where
  code : ∃ vs t, l.oc.data = .fields vs ∧ vs[1]? = some (.str lamQ t)
  cell : l.oe.data = .cell (some (.ref l.sg))
/-- the objects of a lexer -/
noncomputable abbrev Lex.objs (P : Params) (pm : Value) (l : Lex) (u1 : Tok) (ln : Int) (pbs : List Value) (pbn : Nat) (sgs : List Value) (sgn : Nat) : List (Addr × Obj) :=
  [(l.sg, lsO sgs sgn), (l.pb, lsO pbs pbn), (l.dx, lexD P l.k1 l.k2 l.k3 l.k4 u1 l.u3 ln (.ref l.st) (.ref l.pb)), (l.x, instObj 52 l.dx),
   (l.sd, strD P l.j1 l.j2 l.j3 l.j4 l.j5 l.w1 l.w3 (.ref l.spb) (.ref l.lam)), (l.st, instObj 52 l.sd), (l.lam, lamO l.cell l.ct pm l.ctv), (l.ct, l.oc), (l.cell, l.oe)]
/-- they lie apart -/
noncomputable def Lex.Apart (l : Lex) : Prop := @LT.lt Nat _ l.cell l.sg ∧ @LT.lt Nat _ l.sg l.sd ∧ @LT.lt Nat _ l.sd l.st ∧ @LT.lt Nat _ l.st l.lam ∧ @LT.lt Nat _ l.lam l.dx ∧ @LT.lt Nat _ l.dx l.x ∧ @LT.lt Nat _ l.x l.pb ∧ (@LT.lt Nat _ l.ct l.cell ∨ (@LT.lt Nat _ l.st l.ct ∧ @LT.lt Nat _ l.ct l.lam))
-- Lib4
theorem lines4 : True := by
  k_with_none
  k_with "in" => first | with_reducible assumption | exact And.left (by with_reducible assumption) | exact And.left (And.right (by with_reducible assumption)) | exact And.left (And.right (And.right (by with_reducible assumption))) | exact And.left (And.right (And.right (And.right (by with_reducible assumption)))) | exact And.left (And.right (And.right (And.right (And.right (by with_reducible assumption))))) | exact And.left (And.right (And.right (And.right (And.right (And.right (by with_reducible assumption)))))) | exact And.left (And.right (And.right (And.right (And.right (And.right (And.right (by with_reducible assumption))))))) | exact And.left (And.right (And.right (And.right (And.right (And.right (And.right (And.right (by with_reducible assumption)))))))) | exact And.left (And.right (And.right (And.right (And.right (And.right (And.right (And.right (And.right (by with_reducible assumption))))))))) | exact And.left (And.right (And.right (And.right (And.right (And.right (And.right (And.right (And.right (And.right (by with_reducible assumption)))))))))) | exact And.left (And.right (And.right (And.right (And.right (And.right (And.right (And.right (And.right (And.right (And.right (by with_reducible assumption))))))))))) | exact And.left (And.right (And.right (And.right (And.right (And.right (And.right (And.right (And.right (And.right (And.right (And.right (by with_reducible assumption)))))))))))) | exact And.left (And.right (And.right (And.right (And.right (And.right (And.right (And.right (And.right (And.right (And.right (And.right (And.right (by with_reducible assumption))))))))))))) | exact And.left (And.right (And.right (And.right (And.right (And.right (And.right (And.right (And.right (And.right (And.right (And.right (And.right (And.right (by with_reducible assumption)))))))))))))) | exact And.left (And.right (And.right (And.right (And.right (And.right (And.right (And.right (And.right (And.right (And.right (And.right (And.right (And.right (And.right (by with_reducible assumption))))))))))))))) | exact And.right (by with_reducible assumption) | exact And.right (And.right (by with_reducible assumption)) | exact And.right (And.right (And.right (by with_reducible assumption))) | exact And.right (And.right (And.right (And.right (by with_reducible assumption)))) | exact And.right (And.right (And.right (And.right (And.right (by with_reducible assumption))))) | exact And.right (And.right (And.right (And.right (And.right (And.right (by with_reducible assumption)))))) | exact And.right (And.right (And.right (And.right (And.right (And.right (And.right (by with_reducible assumption))))))) | exact And.right (And.right (And.right (And.right (And.right (And.right (And.right (And.right (by with_reducible assumption)))))))) | exact And.right (And.right (And.right (And.right (And.right (And.right (And.right (And.right (And.right (by with_reducible assumption))))))))) | exact And.right (And.right (And.right (And.right (And.right (And.right (And.right (And.right (And.right (And.right (by with_reducible assumption)))))))))) | exact And.right (And.right (And.right (And.right (And.right (And.right (And.right (And.right (And.right (And.right (And.right (by with_reducible assumption))))))))))) | exact And.right (And.right (And.right (And.right (And.right (And.right (And.right (And.right (And.right (And.right (And.right (And.right (by with_reducible assumption)))))))))))) | exact And.right (And.right (And.right (And.right (And.right (And.right (And.right (And.right (And.right (And.right (And.right (And.right (And.right (by with_reducible assumption))))))))))))) | exact And.right (And.right (And.right (And.right (And.right (And.right (And.right (And.right (And.right (And.right (And.right (And.right (And.right (And.right (by with_reducible assumption))))))))))))))
  k_with "lt0" => first | with_reducible assumption | exact Nat.lt_trans (by with_reducible assumption) (by k_extra "lt0")
  k_with "lt" => first | k_extra "in" | exact Nat.lt_trans (by k_extra "in") (by k_extra "lt")
  k_with "ne0" => first | with_reducible assumption | exact Ne.symm (by with_reducible assumption) | exact Nat.succ_ne_self _ | exact Ne.symm (Nat.succ_ne_self _) | (refine Nat.ne_of_lt ?_; k_extra "lt0") | (refine Nat.ne_of_gt ?_; k_extra "lt0")
  k_with "ne1" => first | k_extra "in" | (refine Ne.symm ?_; k_extra "in") | (refine Nat.ne_of_lt ?_; k_extra "lt") | (refine Nat.ne_of_gt ?_; k_extra "lt")
  k_with "ne2" => first | (refine Nat.ne_of_lt ?_; k_extra "lt0") | (refine Nat.ne_of_gt ?_; k_extra "lt0") | (refine Nat.ne_of_lt (And.left (by with_reducible assumption)))  | (refine Nat.ne_of_gt (And.left (by with_reducible assumption))) | (refine Nat.ne_of_lt (Nat.lt_trans (And.right (by with_reducible assumption)) ?_); k_extra "lt0") | (refine Nat.ne_of_lt (And.right (by with_reducible assumption))) | (refine Nat.ne_of_gt (Nat.lt_trans ?_ (And.left (by with_reducible assumption))); k_extra "lt0")
  k_with "ne" => first | k_extra "ne0" | (refine Or.elim (by with_reducible assumption : @LT.lt Nat _ _ _ ∨ @LT.lt Nat _ _ _ ∧ @LT.lt Nat _ _ _) (fun q9 => ?_) (fun q9 => ?_); (all_goals k_extra "ne2")) | k_extra "ne1"
  k_with "ifs" => first | with_reducible rfl | exact Eq.trans (if_neg (by assumption)) (by k_extra "ifs")
  k_with "up" => first | exact up2 (by with_reducible assumption) rfl | exact up1 (by with_reducible assumption) rfl | exact up3 (by with_reducible assumption) rfl | exact up4 (by with_reducible assumption) rfl | exact up5 (by with_reducible assumption) rfl
  k_with "om" => first | with_reducible assumption | exact Nat.succ_pos _ | (with_reducible show @LT.lt Nat _ _ _; (try dsimp only); first | k_extra "lt0" | k_extra "up" | k_extra "lt") | (with_reducible show @Ne Nat _ _; k_extra "ne") | (with_reducible show @LT.lt Nat _ _ _ ∧ @LT.lt Nat _ _ _; refine And.intro ?_ ?_ <;> k_extra "om") | (with_reducible show @Eq Nat _ _; first | exact Nat.add_sub_add_right 6 1 _ | exact (Nat.add_sub_add_right 6 1 _).symm | exact Nat.succ_sub (by omega) | exact (Nat.succ_sub (by omega)).symm | exact Nat.sub_sub_self (by omega)) | omega
  k_with "k_room" => first | k_extra "up" | ((try simp only [depth_under_make, depth_under_kw, depth_in1, depth_deeper, depth_caller]); omega)
  k_with "tb_start" => first | assumption | omega | (simp only [List.length_cons, List.length_nil, List.length_append]; omega)
  k_with "tb_rel" => repeat' (first | exact List.forall_mem_nil _ | refine List.forall_mem_cons.mpr ⟨by first | exact Or.inr (by k_mem) | exact Or.inl (by simp), ?_⟩)
  k_with "k_units" => first | k_extra "up" | ((try simp only [units_in1, units_deeper, Around.mark_units, units_caller]); omega)
  k_with "call type:list" => (k_here; (with_reducible show wpAny _ _ (call (Value.type "list") [Value.str _ _]) _ _ _); k_dflt (refine' list_strN ?h ?F ?N ?z ?_; (case h => rfl); (case F => k_asm); (case N => k_asm); (case z => exact Nat.le_trans (by assumption) (Nat.le_of_ble_eq_true rfl)); k_whole); intro l₉ h₉ tk₉ vs₉ k₉ F₉ N₉ l1₉ hc₉; (try k_lt l1₉); (try k_sweep))
  k_with "truthy ref" => (k_here; k_dflt (refine' truthy_ls ?N ?m ?z ?_; (case N => k_asm); (case m => k_mem); (case z => tb_start)); (intro tk₉; (try dsimp only [List.isEmpty_cons, List.isEmpty_nil, Bool.not_false, Bool.not_true])))
  k_with "call builtin:list.pop" => (k_here; (with_reducible show wpAny _ _ (call (Value.builtin "list.pop") [Value.ref _, Value.int 0 _]) _ _ _); k_dflt (refine' pop0_N ?F ?N ?U ?z ?_; (case F => k_asm); (case N => k_asm); (case U => k_upd); (case z => tb_start)); (intro h₉ F₉ N₉; (try k_sweep)))
  exact True.intro
theorem pop0_N {prog : Program} {w : World} {A : Around} {E : Value → Shared → Prop} {s : Shared} {h₀ : Heap} {L D : Addr} {m : Str → Option Value} {news news' : List (Addr × Obj)} {v : Value} {rest : List Value} {n : Nat} {u : Tok} {Q : Value → Shared → Prop}
    (F : Fr h₀ L s.heap m) (N : News h₀ L s.heap news) (U : Upd D (lsO (v :: rest) n) (lsO rest (n + 1)) news news') (hz : rest.length ≤ 100000) (h : ∀ h', Fr h₀ L h' m → News h₀ L h' news' → Q v { s with heap := h' }) :
    wpAny (model prog w) A (call (.builtin "list.pop") [.ref D, .int 0 u]) Q E s := by
  refine kl_popAt (its := (v :: rest).toArray) (n := n) (p := []) (q := rest) (k := 0) F N rfl ?_ rfl U ?_ h
  · rw [List.size_toArray]
    simp [seqIndex?]
  · rw [sizeLine_eq]; show (v :: rest).length ≤ _; rw [List.length_cons]; omega
theorem truthy_ls {prog : Program} {w : World} {A : Around} {E : Value → Shared → Prop} {s : Shared} {h₀ : Heap} {L D : Addr} {news : List (Addr × Obj)} {vs : List Value} {n : Nat} {Q : Bool → Shared → Prop}
    (N : News h₀ L s.heap news) (hm : (D, lsO vs n) ∈ news) (hz : vs.length ≤ 100000) (h : ∀ tk, Q (!vs.isEmpty) { s with toks := tk }) : wpAny (model prog w) A (truthy (.ref D)) Q E s := by
  refine PySem.wpAny_truthy_list (items := vs.toArray) ⟨_, (N _ hm).1, rfl, n, rfl⟩ (by rw [List.size_toArray]; omega) ?_
  have := h (s.toks + 1 + 1)
  simpa using this
theorem NewsOff {h₀ h : Heap} {L a : Addr} {o : Obj} {news : List (Addr × Obj)} (N : News h₀ L h news) (hm : (a, o) ∈ news) : a ≠ L ∧ h₀.get? a = none := ⟨(N _ hm).2.1, (N _ hm).2.2⟩
theorem own_sub {h₀ h : Heap} {own news : List (Addr × Obj)} (N : Own h₀ h news) (hs : ∀ p ∈ own, p ∈ news) : Own h₀ h own := fun p hp => N p (hs p hp)
section
variable {w : World} {p : Program} {loose : List Str} {mean : ExcName → Option Value} {mg mb : Str → Option Value} {dp un : Nat} {gd : Option (List Code)} {outs : List Env} {base h₀ : Heap} {s : Shared} {R : Result → Shared → Prop}
  (B : Below (AT dp un gd outs) base outs h₀) (X : (hd.heap_39 w.params).In h₀) (T : Top p loose mean mg mb h₀) (st : h₀.StaysIn s.heap) (hdp : dp + 6 < recursionLimit) (hu : un + 60 < cLine)
include B X T st hdp hu
theorem lam_nil {lam ct cell sg : Addr} {pm ctv : Value} {oc oe : Obj} {k : Nat} {t1 ctk : Tok} {cvs : Array Value} (N : Own h₀ s.heap [(lam, lamO cell ct pm ctv), (ct, oc), (cell, oe), (sg, lsO [] k)]) (Cd : CodeHd base 148 144) (hc1 : oc.data = .fields cvs) (hc2 : cvs[1]? = some (.str lamQ ctk)) (hce : oe.data = .cell (some (.ref sg)))
    (hret : ∀ t h' tk', Keeps [] s.heap h' → R (.ok (.ret (.str (Str.ofString "") t))) { s with heap := h', toks := tk' }) :
    codeAny (model PySem.Challenge.rw_wn0047_01.row.prog w) (AT dp un gd outs) (.call (.ref lam) ⟨[.int 1 t1], []⟩) R s := by
  revert X; k_fill; intro X
  have hx : lamE = lamE := rfl
  conv at hx => rhs; whnf
  simp only [lamO, hx] at N
  refine' enterLam (binds := [(Str.ofString "size", Value.int 1 t1)]) B X T st N (.head _) ⟨ct, oc, cvs, ctk, rfl, (N (ct, oc) (by k_mem)).1, hc1, hc2⟩ (by k_room) rfl (locs rfl) ?_ rfl rfl rfl (by decide)
  intro g L' h₁ tk gh F' N' B' X' T' l1
  k_lt l1
  k_steps
  exact hret _ _ _ (keeps_as gh N (by k_asm) (by k_asm) (by tb_rel))
theorem lam_cons {lam ct cell sg : Addr} {pm ctv : Value} {oc oe : Obj} {k : Nat} {t1 ctk : Tok} {cvs : Array Value} {v : Value} {rest : List Value} (N : Own h₀ s.heap [(lam, lamO cell ct pm ctv), (ct, oc), (cell, oe), (sg, lsO (v :: rest) k)]) (Cd : CodeHd base 148 144) (hc1 : oc.data = .fields cvs) (hc2 : cvs[1]? = some (.str lamQ ctk)) (hce : oe.data = .cell (some (.ref sg)))
    (hz : rest.length ≤ 10000) (ap : @Ne Nat sg lam ∧ @Ne Nat sg ct ∧ @Ne Nat sg cell)
    (hret : ∀ h' tk', Keeps [sg] s.heap h' → h'.get? sg = some (lsO rest (k + 1)) → R (.ok (.ret v)) { s with heap := h', toks := tk' }) :
    codeAny (model PySem.Challenge.rw_wn0047_01.row.prog w) (AT dp un gd outs) (.call (.ref lam) ⟨[.int 1 t1], []⟩) R s := by
  revert X; k_fill; intro X
  have hx : lamE = lamE := rfl
  conv at hx => rhs; whnf
  simp only [lamO, hx] at N
  refine' enterLam (binds := [(Str.ofString "size", Value.int 1 t1)]) B X T st N (.head _) ⟨ct, oc, cvs, ctk, rfl, (N (ct, oc) (by k_mem)).1, hc1, hc2⟩ (by k_room) rfl (locs rfl) ?_ rfl rfl rfl (by decide)
  intro g L' h₁ tk gh F' N' B' X' T' l1
  k_lt l1
  k_steps
  rename News _ _ _ _ => NN
  exact hret _ _ (keeps_as gh N (by k_asm) NN (by tb_rel)) (NN.get (by k_mem))
theorem lam_nil' {news : List (Addr × Obj)} {lam ct cell sg : Addr} {pm ctv : Value} {oc oe : Obj} {k : Nat} {t1 ctk : Tok} {cvs : Array Value} (N : Own h₀ s.heap news) (Cd : CodeHd base 148 144) (m1 : (lam, lamO cell ct pm ctv) ∈ news) (m2 : (ct, oc) ∈ news) (m3 : (cell, oe) ∈ news) (hc1 : oc.data = .fields cvs) (hc2 : cvs[1]? = some (.str lamQ ctk)) (hce : oe.data = .cell (some (.ref sg))) (m4 : (sg, lsO [] k) ∈ news)
    (hret : ∀ t h' tk', Keeps [] s.heap h' → R (.ok (.ret (.str (Str.ofString "") t))) { s with heap := h', toks := tk' }) :
    codeAny (model PySem.Challenge.rw_wn0047_01.row.prog w) (AT dp un gd outs) (.call (.ref lam) ⟨[.int 1 t1], []⟩) R s :=
  lam_nil B X T st hdp hu (own_sub N (List.forall_mem_cons.mpr ⟨m1, List.forall_mem_cons.mpr ⟨m2, List.forall_mem_cons.mpr ⟨m3, List.forall_mem_cons.mpr ⟨m4, List.forall_mem_nil _⟩⟩⟩⟩)) Cd hc1 hc2 hce hret
theorem lam_cons' {news : List (Addr × Obj)} {lam ct cell sg : Addr} {pm ctv : Value} {oc oe : Obj} {k : Nat} {t1 ctk : Tok} {cvs : Array Value} {v : Value} {rest : List Value} (N : Own h₀ s.heap news) (Cd : CodeHd base 148 144) (m1 : (lam, lamO cell ct pm ctv) ∈ news) (m2 : (ct, oc) ∈ news) (m3 : (cell, oe) ∈ news) (hc1 : oc.data = .fields cvs) (hc2 : cvs[1]? = some (.str lamQ ctk)) (hce : oe.data = .cell (some (.ref sg))) (m4 : (sg, lsO (v :: rest) k) ∈ news)
    (hz : rest.length ≤ 10000) (ap : @Ne Nat sg lam ∧ @Ne Nat sg ct ∧ @Ne Nat sg cell)
    (hret : ∀ h' tk', Keeps [sg] s.heap h' → h'.get? sg = some (lsO rest (k + 1)) → R (.ok (.ret v)) { s with heap := h', toks := tk' }) :
    codeAny (model PySem.Challenge.rw_wn0047_01.row.prog w) (AT dp un gd outs) (.call (.ref lam) ⟨[.int 1 t1], []⟩) R s :=
  lam_cons B X T st hdp hu (own_sub N (List.forall_mem_cons.mpr ⟨m1, List.forall_mem_cons.mpr ⟨m2, List.forall_mem_cons.mpr ⟨m3, List.forall_mem_cons.mpr ⟨m4, List.forall_mem_nil _⟩⟩⟩⟩)) Cd hc1 hc2 hce hz ap hret
end
-- C16
theorem lines5 : True := by
  k_with_none
  k_with "in" => first | with_reducible assumption | exact And.left (by with_reducible assumption) | exact And.left (And.right (by with_reducible assumption)) | exact And.left (And.right (And.right (by with_reducible assumption))) | exact And.left (And.right (And.right (And.right (by with_reducible assumption)))) | exact And.left (And.right (And.right (And.right (And.right (by with_reducible assumption))))) | exact And.left (And.right (And.right (And.right (And.right (And.right (by with_reducible assumption)))))) | exact And.left (And.right (And.right (And.right (And.right (And.right (And.right (by with_reducible assumption))))))) | exact And.left (And.right (And.right (And.right (And.right (And.right (And.right (And.right (by with_reducible assumption)))))))) | exact And.left (And.right (And.right (And.right (And.right (And.right (And.right (And.right (And.right (by with_reducible assumption))))))))) | exact And.left (And.right (And.right (And.right (And.right (And.right (And.right (And.right (And.right (And.right (by with_reducible assumption)))))))))) | exact And.left (And.right (And.right (And.right (And.right (And.right (And.right (And.right (And.right (And.right (And.right (by with_reducible assumption))))))))))) | exact And.left (And.right (And.right (And.right (And.right (And.right (And.right (And.right (And.right (And.right (And.right (And.right (by with_reducible assumption)))))))))))) | exact And.left (And.right (And.right (And.right (And.right (And.right (And.right (And.right (And.right (And.right (And.right (And.right (And.right (by with_reducible assumption))))))))))))) | exact And.left (And.right (And.right (And.right (And.right (And.right (And.right (And.right (And.right (And.right (And.right (And.right (And.right (And.right (by with_reducible assumption)))))))))))))) | exact And.left (And.right (And.right (And.right (And.right (And.right (And.right (And.right (And.right (And.right (And.right (And.right (And.right (And.right (And.right (by with_reducible assumption))))))))))))))) | exact And.right (by with_reducible assumption) | exact And.right (And.right (by with_reducible assumption)) | exact And.right (And.right (And.right (by with_reducible assumption))) | exact And.right (And.right (And.right (And.right (by with_reducible assumption)))) | exact And.right (And.right (And.right (And.right (And.right (by with_reducible assumption))))) | exact And.right (And.right (And.right (And.right (And.right (And.right (by with_reducible assumption)))))) | exact And.right (And.right (And.right (And.right (And.right (And.right (And.right (by with_reducible assumption))))))) | exact And.right (And.right (And.right (And.right (And.right (And.right (And.right (And.right (by with_reducible assumption)))))))) | exact And.right (And.right (And.right (And.right (And.right (And.right (And.right (And.right (And.right (by with_reducible assumption))))))))) | exact And.right (And.right (And.right (And.right (And.right (And.right (And.right (And.right (And.right (And.right (by with_reducible assumption)))))))))) | exact And.right (And.right (And.right (And.right (And.right (And.right (And.right (And.right (And.right (And.right (And.right (by with_reducible assumption))))))))))) | exact And.right (And.right (And.right (And.right (And.right (And.right (And.right (And.right (And.right (And.right (And.right (And.right (by with_reducible assumption)))))))))))) | exact And.right (And.right (And.right (And.right (And.right (And.right (And.right (And.right (And.right (And.right (And.right (And.right (And.right (by with_reducible assumption))))))))))))) | exact And.right (And.right (And.right (And.right (And.right (And.right (And.right (And.right (And.right (And.right (And.right (And.right (And.right (And.right (by with_reducible assumption))))))))))))))
  k_with "lt0" => first | with_reducible assumption | exact Nat.lt_trans (by with_reducible assumption) (by k_extra "lt0")
  k_with "lt" => first | k_extra "in" | exact Nat.lt_trans (by k_extra "in") (by k_extra "lt")
  k_with "ne0" => first | with_reducible assumption | exact Ne.symm (by with_reducible assumption) | exact Nat.succ_ne_self _ | exact Ne.symm (Nat.succ_ne_self _) | (refine Nat.ne_of_lt ?_; k_extra "lt0") | (refine Nat.ne_of_gt ?_; k_extra "lt0")
  k_with "ne1" => first | k_extra "in" | (refine Ne.symm ?_; k_extra "in") | (refine Nat.ne_of_lt ?_; k_extra "lt") | (refine Nat.ne_of_gt ?_; k_extra "lt")
  k_with "ne2" => first | (refine Nat.ne_of_lt ?_; k_extra "lt0") | (refine Nat.ne_of_gt ?_; k_extra "lt0") | (refine Nat.ne_of_lt (And.left (by with_reducible assumption)))  | (refine Nat.ne_of_gt (And.left (by with_reducible assumption))) | (refine Nat.ne_of_lt (Nat.lt_trans (And.right (by with_reducible assumption)) ?_); k_extra "lt0") | (refine Nat.ne_of_lt (And.right (by with_reducible assumption))) | (refine Nat.ne_of_gt (Nat.lt_trans ?_ (And.left (by with_reducible assumption))); k_extra "lt0")
  k_with "ne" => first | k_extra "ne0" | (refine Or.elim (by with_reducible assumption : @LT.lt Nat _ _ _ ∨ @LT.lt Nat _ _ _ ∧ @LT.lt Nat _ _ _) (fun q9 => ?_) (fun q9 => ?_); (all_goals k_extra "ne2")) | k_extra "ne1"
  k_with "ifs" => first | with_reducible rfl | exact Eq.trans (if_neg (by assumption)) (by k_extra "ifs")
  k_with "up" => first | exact up2 (by with_reducible assumption) rfl | exact up1 (by with_reducible assumption) rfl | exact up3 (by with_reducible assumption) rfl | exact up4 (by with_reducible assumption) rfl | exact up5 (by with_reducible assumption) rfl
  k_with "om" => first | with_reducible assumption | exact Nat.succ_pos _ | (with_reducible show @LT.lt Nat _ _ _; (try dsimp only); first | k_extra "lt0" | k_extra "up" | k_extra "lt") | (with_reducible show @Ne Nat _ _; k_extra "ne") | (with_reducible show @LT.lt Nat _ _ _ ∧ @LT.lt Nat _ _ _; refine And.intro ?_ ?_ <;> k_extra "om") | (with_reducible show @Eq Nat _ _; first | exact Nat.add_sub_add_right 6 1 _ | exact (Nat.add_sub_add_right 6 1 _).symm | exact Nat.succ_sub (by omega) | exact (Nat.succ_sub (by omega)).symm | exact Nat.sub_sub_self (by omega)) | omega
  k_with "k_room" => first | k_extra "up" | ((try simp only [depth_under_make, depth_under_kw, depth_in1, depth_deeper, depth_caller]); omega)
  k_with "tb_start" => first | assumption | omega | (simp only [List.length_cons, List.length_nil, List.length_append]; omega)
  k_with "tb_rel" => repeat' (first | exact List.forall_mem_nil _ | refine List.forall_mem_cons.mpr ⟨by first | exact Or.inr (by k_mem) | exact Or.inl (by simp), ?_⟩)
  k_with "k_units" => first | k_extra "up" | ((try simp only [units_in1, units_deeper, Around.mark_units, units_caller]); omega)
  k_with "call type:list" => (k_here; (with_reducible show wpAny _ _ (call (Value.type "list") [Value.str _ _]) _ _ _); k_dflt (refine' list_strN ?h ?F ?N ?z ?_; (case h => rfl); (case F => k_asm); (case N => k_asm); (case z => exact Nat.le_trans (by assumption) (Nat.le_of_ble_eq_true rfl)); k_whole); intro l₉ h₉ tk₉ vs₉ k₉ F₉ N₉ l1₉ hc₉; (try k_lt l1₉); (try k_sweep))
  k_with "truthy ref" => (k_here; k_dflt (refine' truthy_ls ?N ?m ?z ?_; (case N => k_asm); (case m => k_mem); (case z => tb_start)); (intro tk₉; (try dsimp only [List.isEmpty_cons, List.isEmpty_nil, Bool.not_false, Bool.not_true])))
  k_with "call builtin:list.pop" => (k_here; (with_reducible show wpAny _ _ (call (Value.builtin "list.pop") [Value.ref _, Value.int 0 _]) _ _ _); k_dflt (refine' pop0_N ?F ?N ?U ?z ?_; (case F => k_asm); (case N => k_asm); (case U => k_upd); (case z => tb_start)); (intro h₉ F₉ N₉; (try k_sweep)))
  exact True.intro
theorem lex_out {g0 : Heap} {P : Params} {g h h' : Heap} {L x dx pb st sd spb lam ct cell sg : Addr} {k1 k2 k3 k4 u1 u3 j1 j2 j3 j4 j5 w1 w3 : Tok} {pm ctv : Value} {oc oe o6 : Obj} {vs : List Value} {cvs : Array Value} {t : Tok} {k : Nat} {cs : List Nat} {own : List (Addr × Obj)} {m : Str → Option Value} {tb : Array Value}
    (gh : g = hideAll h (own.map (·.1))) (N0 : Own g0 h own) (F : Fr g L h' m)
    (NN : News g L h' [(pb, lsO [] 0), (x, instObj 52 dx), (dx, lexD P k1 k2 k3 k4 u1 u3 1 (.ref st) (.ref pb)), (lam, lamO cell ct pm ctv), (ct, oc), (spb, o6), (st, instObj 52 sd), (sd, strD P j1 j2 j3 j4 j5 w1 w3 (.ref spb) (.ref lam)), (sg, lsO vs k), (cell, oe), (144, tabObj tb)])
    (hown : own = [(144, tabObj #[])]) (hcs : CharsAre vs cs) (hc1 : oc.data = .fields cvs) (hc2 : cvs[1]? = some (.str lamQ t)) (hce : oe.data = .cell (some (.ref sg)))
    (ap : @LT.lt Nat _ cell sg ∧ @LT.lt Nat _ sg sd ∧ @LT.lt Nat _ sd st ∧ @LT.lt Nat _ st lam ∧ @LT.lt Nat _ lam dx ∧ @LT.lt Nat _ dx x ∧ @LT.lt Nat _ x pb ∧ @LT.lt Nat _ st ct ∧ @LT.lt Nat _ ct lam ∧ @LT.lt Nat _ 144 cell) {P' : Prop}
    (hret : ∀ (l : Lex) pm u1 k, l.x = x → l.ct = ct → Keeps [144] h h' → l.Ok → l.Apart → (∀ q ∈ l.objs P pm u1 1 [] 0 vs k, h'.get? q.1 = some q.2 ∧ h.get? q.1 = none) → h'.get? 144 = some (tabObj tb) → P') : P' := by
  have AP : Lex.Apart ⟨x, dx, pb, st, sd, spb, lam, ct, cell, sg, k1, k2, k3, k4, u3, j1, j2, j3, j4, j5, w1, w3, ctv, oc, oe⟩ := ⟨ap.1, ap.2.1, ap.2.2.1, ap.2.2.2.1, ap.2.2.2.2.1, ap.2.2.2.2.2.1, ap.2.2.2.2.2.2.1, .inr ⟨ap.2.2.2.2.2.2.2.1, ap.2.2.2.2.2.2.2.2.1⟩⟩
  refine hret ⟨x, dx, pb, st, sd, spb, lam, ct, cell, sg, k1, k2, k3, k4, u3, j1, j2, j3, j4, j5, w1, w3, ctv, oc, oe⟩ pm u1 k rfl rfl (keeps_as gh N0 F NN ?_) ⟨⟨cvs, t, hc1, hc2⟩, hce⟩ AP ?_ (NN.get (by k_mem))
  · subst hown; intro p hp; cases List.mem_singleton.mp hp; exact .inl (by simp)
  · have hn : ∀ p ∈ own, p.1 = 144 := by subst hown; intro p hp; cases List.mem_singleton.mp hp; rfl
    have look : ∀ a o, (a, o) ∈ _ → @LT.lt Nat _ 144 a → h'.get? a = some o ∧ h.get? a = none := fun a o hm hl => ⟨NN.get hm, new_of gh NN hm fun q => by
      obtain ⟨p, hp, e⟩ := List.mem_map.mp q
      have := hn p hp
      rw [← e, this] at hl
      exact Nat.lt_irrefl _ hl⟩
    dsimp only [Lex.objs]
    obtain ⟨a1, a2, a3, a4, a5, a6, a7, a8, a9, a10⟩ := ap
    refine List.forall_mem_cons.mpr ⟨look _ _ (by k_mem) (by k_extra "om"), List.forall_mem_cons.mpr ⟨look _ _ (by k_mem) (by k_extra "om"), List.forall_mem_cons.mpr ⟨look _ _ (by k_mem) (by k_extra "om"), List.forall_mem_cons.mpr ⟨look _ _ (by k_mem) (by k_extra "om"), List.forall_mem_cons.mpr ⟨look _ _ (by k_mem) (by k_extra "om"), List.forall_mem_cons.mpr ⟨look _ _ (by k_mem) (by k_extra "om"), List.forall_mem_cons.mpr ⟨look _ _ (by k_mem) (by k_extra "om"), List.forall_mem_cons.mpr ⟨look _ _ (by k_mem) (by k_extra "om"), List.forall_mem_cons.mpr ⟨look _ _ (by k_mem) (by k_extra "om"), List.forall_mem_nil _⟩⟩⟩⟩⟩⟩⟩⟩⟩
theorem lex_out2 {g0 : Heap} {P : Params} {g h h' : Heap} {L x dx pb st sd spb lam ct cell sg : Addr} {k1 k2 k3 k4 u1 u3 j1 j2 j3 j4 j5 w1 w3 : Tok} {pm ctv : Value} {oc oe o6 o9 : Obj} {vs : List Value} {cvs : Array Value} {t : Tok} {k : Nat} {cs : List Nat} {own : List (Addr × Obj)} {m : Str → Option Value} 
    (gh : g = hideAll h (own.map (·.1))) (N0 : Own g0 h own) (F : Fr g L h' m)
    (NN : News g L h' [(pb, lsO [] 0), (x, instObj 52 dx), (dx, lexD P k1 k2 k3 k4 u1 u3 1 (.ref st) (.ref pb)), (lam, lamO cell ct pm ctv), (spb, o6), (st, instObj 52 sd), (sd, strD P j1 j2 j3 j4 j5 w1 w3 (.ref spb) (.ref lam)), (sg, lsO vs k), (cell, oe), (144, o9), (ct, oc)])
    (hown : own = [(144, o9), (ct, oc)]) (hcs : CharsAre vs cs) (hc1 : oc.data = .fields cvs) (hc2 : cvs[1]? = some (.str lamQ t)) (hce : oe.data = .cell (some (.ref sg)))
    (ap : @LT.lt Nat _ cell sg ∧ @LT.lt Nat _ sg sd ∧ @LT.lt Nat _ sd st ∧ @LT.lt Nat _ st lam ∧ @LT.lt Nat _ lam dx ∧ @LT.lt Nat _ dx x ∧ @LT.lt Nat _ x pb ∧ @LT.lt Nat _ ct cell ∧ @LT.lt Nat _ 144 cell) {P' : Prop}
    (hret : ∀ (l : Lex) pm u1 k, l.x = x → l.ct = ct → l.oc = oc → Keeps [] h h' → l.Ok → l.Apart → (∀ q ∈ l.objs P pm u1 1 [] 0 vs k, h'.get? q.1 = some q.2 ∧ (h.get? q.1 = none ∨ q.1 = ct)) → P') : P' := by
  have AP : Lex.Apart ⟨x, dx, pb, st, sd, spb, lam, ct, cell, sg, k1, k2, k3, k4, u3, j1, j2, j3, j4, j5, w1, w3, ctv, oc, oe⟩ := ⟨ap.1, ap.2.1, ap.2.2.1, ap.2.2.2.1, ap.2.2.2.2.1, ap.2.2.2.2.2.1, ap.2.2.2.2.2.2.1, .inl ap.2.2.2.2.2.2.2.1⟩
  refine hret ⟨x, dx, pb, st, sd, spb, lam, ct, cell, sg, k1, k2, k3, k4, u3, j1, j2, j3, j4, j5, w1, w3, ctv, oc, oe⟩ pm u1 k rfl rfl rfl (keeps_as gh N0 F NN ?_) ⟨⟨cvs, t, hc1, hc2⟩, hce⟩ AP ?_
  · subst hown; intro p hp; rcases List.mem_cons.mp hp with rfl | hp; (exact .inr (by k_mem)); cases List.mem_singleton.mp hp; exact .inr (by k_mem)
  · have hn : ∀ p ∈ own, p.1 = 144 ∨ p.1 = ct := by subst hown; intro p hp; rcases List.mem_cons.mp hp with rfl | hp; (exact .inl rfl); cases List.mem_singleton.mp hp; exact .inr rfl
    have look : ∀ a o, (a, o) ∈ _ → (@LT.lt Nat _ 144 a ∧ @LT.lt Nat _ ct a) → h'.get? a = some o ∧ (h.get? a = none ∨ a = ct) := fun a o hm hl => ⟨NN.get hm, .inl (new_of gh NN hm fun q => by
      obtain ⟨p, hp, e⟩ := List.mem_map.mp q
      rcases hn p hp with q | q <;> rw [← e, q] at hl
      · exact Nat.lt_irrefl _ hl.1
      · exact Nat.lt_irrefl _ hl.2)⟩
    dsimp only [Lex.objs]
    obtain ⟨a1, a2, a3, a4, a5, a6, a7, a8, a9⟩ := ap
    refine List.forall_mem_cons.mpr ⟨look _ _ (by k_mem) (by k_extra "om"), List.forall_mem_cons.mpr ⟨look _ _ (by k_mem) (by k_extra "om"), List.forall_mem_cons.mpr ⟨look _ _ (by k_mem) (by k_extra "om"), List.forall_mem_cons.mpr ⟨look _ _ (by k_mem) (by k_extra "om"), List.forall_mem_cons.mpr ⟨look _ _ (by k_mem) (by k_extra "om"), List.forall_mem_cons.mpr ⟨look _ _ (by k_mem) (by k_extra "om"), List.forall_mem_cons.mpr ⟨look _ _ (by k_mem) (by k_extra "om"), List.forall_mem_cons.mpr ⟨⟨NN.get (by k_mem), .inr rfl⟩, List.forall_mem_cons.mpr ⟨look _ _ (by k_mem) (by k_extra "om"), List.forall_mem_nil _⟩⟩⟩⟩⟩⟩⟩⟩⟩
section
variable {w : World} {p : Program} {loose : List Str} {mean : ExcName → Option Value} {mg mb : Str → Option Value} {dp un : Nat} {gd : Option (List Code)} {outs : List Env} {base h₀ : Heap} {s : Shared} {R : Result → Shared → Prop}
  (B : Below (AT dp un gd outs) base outs h₀) (X : (hd.heap_39 w.params).In h₀) (T : Top p loose mean mg mb h₀) (st : h₀.StaysIn s.heap) (hdp : dp + 6 < recursionLimit) (hu : un + 60 < cLine)
include B X T st hdp hu
theorem lexer_spec1 {text : Str} {t1 : Tok} (N : Own h₀ s.heap [(144, tabObj #[])]) (Cd : CodeHd base 148 144) (hlen : text.length ≤ 1000)
    (hret : ∀ (l : Lex) pm u1 vs k h' tk', Keeps [144] s.heap h' → l.Ok → l.Apart → CharsAre vs text.cps.toList → h'.get? 144 = some (tabObj #[rawInt 122, rawInt 18, .ref l.ct]) → (∀ q ∈ l.objs w.params pm u1 1 [] 0 vs k, h'.get? q.1 = some q.2 ∧ s.heap.get? q.1 = none) → R (.ok (.ret (.ref l.x))) { s with heap := h', toks := tk' }) :
    codeAny (model PySem.Challenge.rw_wn0047_01.row.prog w) (AT dp un gd outs) (.call (.ref 149) ⟨[.str text t1], []⟩) R s := by
  revert X; k_fill; intro X
  k_dflt (first | (refine' enter ?k1 ?k2 ?k3 ?k4 ?k5 ?k6 ?k7 ?k8 ?k9 ?kB ?_ ?c2 ?c3 ?c4 ?c5; (case k1 => k_asm); (case k2 => k_asm); (case k3 => k_asm); (case k4 => k_asm); (case k5 => k_asm); (case k6 => k_is); (case k7 => k_is); (case k8 => k_room); (case k9 => exact BindsTo.of_eq rfl); (case c5 => decide); (case kB => exact locs rfl); (case c2 => exact rfl); (case c3 => exact rfl); (case c4 => exact rfl); k_whole; intro g' L' h' tk' gh F' N' B' X' T' l1; (try k_lt l1); (try dsimp only); (try k_lift B'); (try k_fold)) | (refine' enterC ?k1 ?k2 ?k3 ?k4 ?k5 ?k6 ?k7 ?k8 ?k9 ?kB ?kD ?_ ?c2 ?c3 ?c4; (case k1 => k_asm); (case k2 => k_asm); (case k3 => k_asm); (case k4 => k_asm); (case k5 => k_asm); (case k6 => k_is); (case k7 => k_is); (case k8 => k_room); (case k9 => exact BindsTo.of_eq rfl); (case kB => exact rfl); (case kD => decide +kernel); (case c2 => exact rfl); (case c3 => exact rfl); (case c4 => exact rfl); k_whole; intro g' L' h' tk' cells' gh F' N' Y' B' X' T' l1; (try k_lt l1); k_cells Y'; (try simp only [List.cons_append, List.nil_append] at N'); (try dsimp only); (try k_lift B'); (try k_fold)))
  k_steps
  rename CharsAre _ _ => hcs
  rename News _ _ _ [_, _, _, _, _, _, _, _, _, _, _] => NN
  refine lex_out (by assumption) N (by k_asm) NN rfl hcs (by assumption) (by assumption) (by assumption) ?_ ?_
  · refine ⟨?_, ?_, ?_, ?_, ?_, ?_, ?_, ?_, ?_, ?_⟩ <;> k_extra "om"
  · intro l pm u1 k e1 e2 K ok ap ob tb
    rw [← e2] at tb
    rw [← e1]
    exact hret l pm u1 _ k _ _ K ok ap hcs tb ob
theorem lexer_spec2 {text : Str} {t1 : Tok} {ct : Addr} {oc : Obj} (N : Own h₀ s.heap [(144, tabObj #[rawInt 122, rawInt 18, .ref ct]), (ct, oc)]) (Cd : CodeHd base 148 144) (hlen : text.length ≤ 1000) (hoc : ∃ vs t, oc.data = .fields vs ∧ vs[1]? = some (.str lamQ t))
    (hret : ∀ (l : Lex) pm u1 vs k h' tk', Keeps [] s.heap h' → l.Ok → l.Apart → CharsAre vs text.cps.toList → l.ct = ct → l.oc = oc → (∀ q ∈ l.objs w.params pm u1 1 [] 0 vs k, h'.get? q.1 = some q.2 ∧ (s.heap.get? q.1 = none ∨ q.1 = ct)) → R (.ok (.ret (.ref l.x))) { s with heap := h', toks := tk' }) :
    codeAny (model PySem.Challenge.rw_wn0047_01.row.prog w) (AT dp un gd outs) (.call (.ref 149) ⟨[.str text t1], []⟩) R s := by
  revert X; k_fill; intro X
  obtain ⟨cvs, ctt, hc1, hc2⟩ := hoc
  k_dflt (first | (refine' enter ?k1 ?k2 ?k3 ?k4 ?k5 ?k6 ?k7 ?k8 ?k9 ?kB ?_ ?c2 ?c3 ?c4 ?c5; (case k1 => k_asm); (case k2 => k_asm); (case k3 => k_asm); (case k4 => k_asm); (case k5 => k_asm); (case k6 => k_is); (case k7 => k_is); (case k8 => k_room); (case k9 => exact BindsTo.of_eq rfl); (case c5 => decide); (case kB => exact locs rfl); (case c2 => exact rfl); (case c3 => exact rfl); (case c4 => exact rfl); k_whole; intro g' L' h' tk' gh F' N' B' X' T' l1; (try k_lt l1); (try dsimp only); (try k_lift B'); (try k_fold)) | (refine' enterC ?k1 ?k2 ?k3 ?k4 ?k5 ?k6 ?k7 ?k8 ?k9 ?kB ?kD ?_ ?c2 ?c3 ?c4; (case k1 => k_asm); (case k2 => k_asm); (case k3 => k_asm); (case k4 => k_asm); (case k5 => k_asm); (case k6 => k_is); (case k7 => k_is); (case k8 => k_room); (case k9 => exact BindsTo.of_eq rfl); (case kB => exact rfl); (case kD => decide +kernel); (case c2 => exact rfl); (case c3 => exact rfl); (case c4 => exact rfl); k_whole; intro g' L' h' tk' cells' gh F' N' Y' B' X' T' l1; (try k_lt l1); k_cells Y'; (try simp only [List.cons_append, List.nil_append] at N'); (try dsimp only); (try k_lift B'); (try k_fold)))
  k_steps
  rename CharsAre _ _ => hcs
  rename News _ _ _ [_, _, _, _, _, _, _, _, _, _, _] => NN
  refine lex_out2 (by assumption) N (by k_asm) NN rfl hcs hc1 hc2 (by assumption) ?_ ?_
  · refine ⟨?_, ?_, ?_, ?_, ?_, ?_, ?_, ?_, ?_⟩ <;> k_extra "om"
  · intro l pm u1 k e1 e2 e3 K ok ap ob
    rw [← e1]
    exact hret l pm u1 _ k _ _ K ok ap hcs e2 e3 ob
end
-- Lib5
theorem slot_ci_next : Slot "callable_iterator" "__next__" "callable_iterator.__next__" :=
  .of (owner := "callable_iterator") (n := "__next__") (by rw [typeLookup_type, builtinLookup_eq_fast]; kernel_rfl) (by decide +kernel) (by decide +kernel) (by decide +kernel)
    (by first | exact .inl (by decide +kernel) | exact .inr (by decide +kernel)) (by rw [isSubtype_type]; kernel_rfl)
theorem slot_ci_iter : Slot "callable_iterator" "__iter__" "callable_iterator.__iter__" :=
  .of (owner := "callable_iterator") (n := "__iter__") (by rw [typeLookup_type, builtinLookup_eq_fast]; kernel_rfl) (by decide +kernel) (by decide +kernel) (by decide +kernel)
    (by first | exact .inl (by decide +kernel) | exact .inr (by decide +kernel)) (by rw [isSubtype_type]; kernel_rfl)
theorem entry_ci_next : entryFor table "callable_iterator.__next__" = some Builtin.«callable_iterator.__next__» := entryFor_of_tree (by kernel_rfl)
theorem entry_ci_iter : entryFor table "callable_iterator.__iter__" = some Builtin.«dict_keyiterator.__iter__» :=
  entryFor_alias (id' := "dict_keyiterator.__iter__") (by rw [fastTable_eq_tree]; kernel_rfl) (by first | rfl | decide +kernel) (by decide +kernel) (by rw [fastTable_eq_tree]; kernel_rfl)
theorem args_ci_next (a : Value) : argsOk "callable_iterator.__next__" ⟨[a], []⟩ := by unfold argsOk; kernel_rfl
theorem args_ci_iter (a : Value) : argsOk "callable_iterator.__iter__" ⟨[a], []⟩ := by unfold argsOk; kernel_rfl
theorem kind_iter : builtinKind "iter" = none := by decide +kernel
theorem plain_iter : plainId "iter" = true := by decide +kernel
theorem entry_iter : entryFor table "iter" = some Builtin.«iter» := entryFor_of_tree (by kernel_rfl)
theorem args_iter2 (a b : Value) : argsOk "iter" ⟨[a, b], []⟩ := by unfold argsOk; kernel_rfl
theorem method_has_call : ∃ r, typeLookup (.type "method") "__call__" = pure (some r) := ⟨.builtin "method.__call__", by rw [typeLookup_type, builtinLookup_eq_fast]; kernel_rfl⟩
/-- what iter(f, sentinel) makes -/
noncomputable abbrev ciO (f sent : Value) : Obj := { cls := .type "callable_iterator", data := .fields #[f, sent, .bool false] }
section
variable {prog : Program} {w : World} {A : Around} {E : Value → Shared → Prop} {s : Shared}
theorem iter2_call {q : Addr} {f self sent : Value} {Q : Value → Shared → Prop} (hq : s.heap.get? q = some (methodObj f self))
    (h : Q (.ref s.heap.objs.size) { s with heap := s.heap.push (ciO (.ref q) sent) }) : wpAny (model prog w) A (call (.builtin "iter") [.ref q, sent]) Q E s := by
  obtain ⟨r, hr⟩ := method_has_call
  refine Calls.call_function_entry kind_iter plain_iter entry_iter (args_iter2 _ _) ?_
  show wpAny _ _ (specialOf (.ref q) "__call__" >>= _) _ _ s
  refine wpAny_bind (wpAny_specialOf (T := "method") ⟨_, hq, rfl⟩ hr ?_)
  show wpAny _ _ (rule "iter.sentinel" >>= fun _ => (newFields "callable_iterator" [.ref q, sent, .bool false] >>= ret)) _ _ s
  refine wpAny_bind (wpAny_rule (wpAny_bind ?_))
  exact wpAny_newObj_type (wpAny_pure ⟨_, rfl, h⟩) (by size_fits)
theorem pyIter_ci {it : Addr} {f sent : Value} {Q : Value → Shared → Prop} (hi : s.heap.get? it = some (ciO f sent)) (h : Q (.ref it) s) : wpAny (model prog w) A (pyIter (.ref it)) Q E s := by
  have hT : s.TypeIs (.ref it) "callable_iterator" := ⟨_, hi, rfl⟩
  refine wpAny_pyIter_slot hT slot_ci_iter (wpAny_call_entry slot_ci_iter hT entry_ci_iter ?_ (args_ci_iter _))
  show wpAny _ _ (ret (.ref it)) _ _ s
  exact wpAny_pure ⟨_, rfl, "callable_iterator", _, hT, slot_ci_next.lookup, h⟩
theorem callBorrowed_call {f : Value} {Q : Value → Shared → Prop}
    (hc : codeAny (model prog w) A (.call f ⟨[], []⟩) (fun r s' => match r with | .ok (.ret v) => Q v s' | .ok _ => False | .error e => E e s') s) : wpAny (model prog w) A (callBorrowed f) Q E s := by
  intro Γ p hΓ
  refine wpCode_mono (fun r s' h => ?_) (hc _ p rfl (hΓ.enter (.call f ⟨[], []⟩) none p (by intro x; cases x)))
  match r, h with
  | .ok (.ret v), h => exact h
  | .error e, h => exact h
theorem borrows_method {q f : Addr} {self : Value} {o : Obj} {fd : FuncData} {Q : Bool → Shared → Prop} (hq : s.heap.get? q = some (methodObj (.ref f) self)) (hf : s.heap.get? f = some o) (hd : o.data = .func fd) (h : Q true s) :
    wpAny (model prog w) A (borrowsExactly (.ref q)) Q E s := by
  unfold borrowsExactly
  refine wpAny_bind (wpAny_load hq ?_)
  dsimp only
  refine wpAny_bind (wpAny_load hf ?_)
  rw [hd]
  exact wpAny_pure h
end
-- Lib6
section
variable {prog : Program} {w : World} {A : Around} {E : Value → Shared → Prop} {s : Shared}
theorem callOut_method {q f : Addr} {self : Value} {o : Obj} {fd : FuncData} {Q : Value → Shared → Prop} (hq : s.heap.get? q = some (methodObj (.ref f) self)) (hf : s.heap.get? f = some o) (hd : o.data = .func fd)
    (hc : codeAny (model prog w) A (.call (.ref f) ⟨[self], []⟩) (fun r s' => match r with | .ok (.ret v) => Q v s' | .ok _ => False | .error e => E e s') s) :
    wpAny (model prog w) A (callOutOfASlot (.ref q)) Q E s := by
  unfold callOutOfASlot
  refine wpAny_bind (borrows_method hq hf hd ?_)
  show wpAny _ _ (callBorrowed (.ref q)) _ _ _
  exact callBorrowed_call (method_call hq hc)
theorem next_ci_item {it q f : Addr} {self : Value} {o : Obj} {fd : FuncData} {t0 : Tok} {Q : Option Value → Shared → Prop} (hi : s.heap.get? it = some (ciO (.ref q) (.str (Str.ofString "") t0)))
    (hq : s.heap.get? q = some (methodObj (.ref f) self)) (hf : s.heap.get? f = some o) (hd : o.data = .func fd)
    (hc : codeAny (model prog w) A.in1 (.call (.ref f) ⟨[self], []⟩) (fun r s' => ∃ c t, r = .ok (.ret (.str c t)) ∧ c ≠ Str.ofString "" ∧ s'.heap.get? it = some (ciO (.ref q) (.str (Str.ofString "") t0)) ∧ Q (some (.str c t)) s') s) :
    wpAny (model prog w) A (pyNext (.ref it)) Q E s := by
  have hT : s.TypeIs (.ref it) "callable_iterator" := ⟨_, hi, rfl⟩
  unfold pyNext
  refine wpAny_bind (wpAny_attempt (wpAny_callSpecial?_slot (name := Str.ofString "__next__") hT slot_ci_next (wpAny_call_entry slot_ci_next hT entry_ci_next ?_ (args_ci_next _))))
  show wpAny _ _ (field (.ref it) 2 >>= _) _ _ s
  refine wpAny_bind (wpAny_field hi rfl (x := .bool false) rfl ?_)
  show wpAny _ _ (field (.ref it) 0 >>= fun v => (callOutOfASlot v).attempt >>= _) _ _ s
  refine wpAny_bind (wpAny_field hi rfl (x := .ref q) rfl ?_)
  refine wpAny_bind (wpAny_attempt (callOut_method hq hf hd (codeAny_mono hc fun r s' h => ?_)))
  obtain ⟨c, t, rfl, hne, hi', hQ⟩ := h
  show wpAny _ _ (field (.ref it) 2 >>= _) _ _ s'
  refine wpAny_bind (wpAny_field hi' rfl (x := .bool false) rfl ?_)
  show wpAny _ _ (field (.ref it) 1 >>= fun v => holding [.str c t] (eqBool v (.str c t)) >>= _) _ _ s'
  refine wpAny_bind (wpAny_field hi' rfl (x := .str (Str.ofString "") t0) rfl ?_)
  refine wpAny_bind (wpAny_holding (eqBool_str ?_))
  rw [show (Str.ofString "" == c) = false from beq_eq_false_iff_ne.mpr (Ne.symm hne)]
  exact wpAny_pure ⟨_, rfl, wpAny_pure hQ⟩
theorem next_ci_end {it q f : Addr} {self : Value} {o : Obj} {fd : FuncData} {t0 : Tok} {Q : Option Value → Shared → Prop} (hh : A.handled = none) (hi : s.heap.get? it = some (ciO (.ref q) (.str (Str.ofString "") t0)))
    (hq : s.heap.get? q = some (methodObj (.ref f) self)) (hf : s.heap.get? f = some o) (hd : o.data = .func fd)
    (hc : codeAny (model prog w) A.in1 (.call (.ref f) ⟨[self], []⟩) (fun r s' => ∃ t, r = .ok (.ret (.str (Str.ofString "") t)) ∧ s'.heap.get? it = some (ciO (.ref q) (.str (Str.ofString "") t0)) ∧ s'.heap.get? q = some (methodObj (.ref f) self) ∧ s'.heap.get? f = some o ∧
      ∀ h', Keeps [it] s'.heap h' → Q none { s' with heap := h' }) s) :
    wpAny (model prog w) A (pyNext (.ref it)) Q E s := by
  have hT : s.TypeIs (.ref it) "callable_iterator" := ⟨_, hi, rfl⟩
  unfold pyNext
  refine wpAny_bind (wpAny_attempt (wpAny_callSpecial?_slot (name := Str.ofString "__next__") hT slot_ci_next (wpAny_call_entry slot_ci_next hT entry_ci_next ?_ (args_ci_next _))))
  show wpAny _ _ (field (.ref it) 2 >>= _) _ _ s
  refine wpAny_bind (wpAny_field hi rfl (x := .bool false) rfl ?_)
  show wpAny _ _ (field (.ref it) 0 >>= fun v => (callOutOfASlot v).attempt >>= _) _ _ s
  refine wpAny_bind (wpAny_field hi rfl (x := .ref q) rfl ?_)
  refine wpAny_bind (wpAny_attempt (callOut_method hq hf hd (codeAny_mono hc fun r s' h => ?_)))
  obtain ⟨t, rfl, hi', hq', hf', hQ⟩ := h
  show wpAny _ _ (field (.ref it) 2 >>= _) _ _ s'
  refine wpAny_bind (wpAny_field hi' rfl (x := .bool false) rfl ?_)
  show wpAny _ _ (field (.ref it) 1 >>= fun v => holding [.str (Str.ofString "") t] (eqBool v (.str (Str.ofString "") t)) >>= _) _ _ s'
  refine wpAny_bind (wpAny_field hi' rfl (x := .str (Str.ofString "") t0) rfl ?_)
  refine wpAny_bind (wpAny_holding (eqBool_str ?_))
  rw [show (Str.ofString "" == Str.ofString "") = true from rfl]
  show wpAny _ _ (rule _ >>= fun _ => (field (.ref it) 0 >>= fun v => slotLetsGo "callable_iterator.__next__" v _ >>= fun _ => setField (.ref it) 0 .none >>= fun _ => setField (.ref it) 1 .none >>= fun _ => setField (.ref it) 2 (.bool true)) >>= _) _ _ s'
  refine wpAny_bind (wpAny_rule (wpAny_bind (wpAny_bind (wpAny_field hi' rfl (x := .ref q) rfl ?_))))
  refine wpAny_bind ?_
  unfold slotLetsGo
  refine wpAny_bind (borrows_method hq' hf' hd ?_)
  refine wpAny_pure ?_
  have go : ∀ {h₁ h₂ h₃ : Heap}, Heap.SameBut it s'.heap h₁ → Heap.SameBut it h₁ h₂ → Heap.SameBut it h₂ h₃ → Keeps [it] s'.heap h₃ := fun a b c bb o hb e => by
    have hne : bb ≠ it := fun q => hb (by rw [q]; exact List.mem_singleton.mpr rfl)
    exact c.extBut _ _ hne (b.extBut _ _ hne (a.extBut _ _ hne e))
  refine wpAny_bind (wpAny_setField_rec hi' (by simp) fun h₁ e₁ k₁ => ?_)
  refine wpAny_bind (wpAny_setField_rec (s := { s' with heap := h₁ }) e₁ (by simp) fun h₂ e₂ k₂ => ?_)
  refine wpAny_setField_rec (s := { s' with heap := h₂ }) e₂ (by simp) fun h₃ e₃ k₃ => ?_
  have k := go k₁ k₂ k₃
  show wpAny _ _ (newExc (.type "StopIteration") [] >>= _) _ _ _
  refine wpAny_bind ?_
  simp only [newExc, newTuple]
  refine wpAny_bind (wpAny_newObj_type ?_ (by size_fits))
  refine wpAny_bind (m := firstArgMember _ _) (wpAny_of_eq (a := Value.none) (by first | rfl | (simp only [firstArgMember]; rfl)) ?_)
  refine wpAny_newObj_type ?_ (by size_fits)
  simp only [raiseNew]
  refine wpAny_bind (wpAny_handled ?_)
  rw [show A.in1.handled = none from hh]
  refine wpAny_bind (wpAny_pure (wpAny_throw ?_))
  refine wpAny_bind (wpAny_isInstance (T := "StopIteration") (b := true) ⟨_, Heap.get?_push_size _ rfl, rfl⟩ isSubtype_stop ?_)
  exact wpAny_pure (hQ _ fun b o hb e => Heap.get?_push_of_some _ (Heap.get?_push_of_some _ (k b o hb e)))
end
-- Lib7
/-- a goal that the walk does not touch -/
noncomputable def Stop (P : Prop) : Prop := P
theorem Stop.go {P : Prop} (h : Stop P) : P := h
/-- an object of the written part -/
theorem kget {K : Frag} {h : Heap} {a : Addr} {o : Obj} (X : K.In h) (ho : K.lookup a = some o) : h.get? a = some o := X _ _ ho
theorem one_ne_empty {c : Nat} : (⟨#[c]⟩ : Str) ≠ Str.ofString "" := fun e => by
  have h0 : (Str.ofString "").cps.size = 0 := by decide +kernel
  rw [← e] at h0
  exact absurd h0 (by simp)
/-- call_own, at a call's code -/
theorem call_ownC {M : Model} {c : Code} {R : Result → Shared → Prop} {A A₀ : Around} {s : Shared} {base h₀ : Heap} {outer : List Env} {L : Addr} {m : Str → Option Value} {env : Env} {news : List (Addr × Obj)} {K : Frag} {mg mb : Str → Option Value} {p : Program} {loose : List Str} {mean : ExcName → Option Value}
    (B : Below A₀ base outer h₀) (F : Fr h₀ L s.heap m) (X : K.In h₀) (T : Top p loose mean mg mb h₀) (N : News h₀ L s.heap news) (hA : A.frames = some (env :: outer)) (hf : env.frame = some L) (hke : env.scope.kind = .function)
    (h : ∀ h₁, Below A base (env :: outer) h₁ → K.In h₁ → Top p loose mean mg mb h₁ → h₁.StaysIn s.heap → Own h₁ s.heap news → codeAny M A c R s) : codeAny M A c R s := call_own B F X T N hA hf hke h
section
variable {prog : Program} {w : World} {A : Around} {s : Shared} {base h₀ : Heap} {outs : List Env} {K : Frag} {own : List (Addr × Obj)} {mg mb : Str → Option Value} {p : Program} {loose : List Str} {mean : ExcName → Option Value}
  {R : Result → Shared → Prop} {name qual : Str} {params : Arguments} {body : List Stmt} {scope : Scope} {dV kV doc pm cdv ct oc : Value} {an od : Option Addr} {osl : Array (Option Value)} {f : Addr} {args : Args} {binds : List (Str × Value)}
theorem enterT (B : Below A base outs h₀) (X : K.In h₀) (T : Top p loose mean mg mb h₀) (st : h₀.StaysIn s.heap) (N : Own h₀ s.heap own)
    (ho : K.lookup f = some ⟨oc, od, .func (fnOf name qual params body scope dV kV doc pm an cdv ct), osl⟩) (hcd : codeIn K cdv qual = true) (hroom : A.depth < recursionLimit)
    (hbind : BindsTo s (fnOf name qual params body scope dV kV doc pm an cdv ct) args binds) (hloc : ∀ y ∈ binds, scope.names.lookup y.1 = some .local)
    (h : ∀ g L' h₁ tk, g = hideAll s.heap (own.map (·.1)) → Fr g L' h₁ (fun y => binds.reverse.lookup y) → News g L' h₁ own → Below A base outs g → K.In g → Top p loose mean mg mb g → (∀ p ∈ own, p.1 < L') → binds.length ≤ tk →
      wpAny (model prog w) (A.deeper (envOf qual scope L' f cdv)) (execs body (envOf qual scope L' f cdv))
        (fun fl s' => R (.ok (.ret (match fl with | .ret v => v | _ => .none))) s')
        (fun e s' => wpAny (model prog w) (A.deeper (envOf qual scope L' f cdv)) (leaving (envOf qual scope L' f cdv) e) (fun _ s'' => R (.error e) s'') (fun e' s'' => R (.error e') s'') s')
        { s with heap := h₁, toks := tk })
    (hco : scope.isCoroutine = false) (hgen : scope.isGenerator = false) (hk : scope.kind = .function)
    (hcell : ∀ x ∈ scope.names, x.2 ≠ .cell) : codeAny (model prog w) A (.call (.ref f) args) R s := by
  obtain ⟨st', B'⟩ := own_hide B st N
  refine codeAny_call_def (fd := fnOf name qual params body scope dV kV doc pm an cdv ct) (body := body) (binds := binds) hroom (st _ _ (X _ _ ho)) rfl (T.nolimit.keeps st) (codeRec_of (fun b o e => st b o (X b o e)) hcd) rfl hbind hcell hloc (fun h₁ hns hk₁ => ?_) hco hgen hk
  exact h _ s.heap.objs.size h₁ _ rfl ⟨hns, fun b o e => hk₁ b o (of_hideAll _ e), Nat.le_of_eq (hideAll_size _ _)⟩
    (fun p hp => ⟨hk₁ _ _ (N p hp).1, Nat.ne_of_lt (Heap.lt_size (N p hp).1), hideAll_none _ (List.mem_map_of_mem hp)⟩) B' (X.keeps st') (T.keeps st') (fun p hp => Heap.lt_size (N p hp).1) (Nat.le_add_left _ _)
end
theorem fr_congr {h₀ h : Heap} {L : Addr} {m m' : Str → Option Value} (F : Fr h₀ L h m) (e : ∀ y, m y = m' y) : Fr h₀ L h m' := (funext e : m = m') ▸ F
section
variable {prog : Program} {w : World} {A : Around} {E : Value → Shared → Prop} {s : Shared}
theorem forLoop_step {R : Result → Shared → Prop} {x : Str} {px : Pos} {it : Value} {body orelse : List Stmt} {env : Env}
    (h : wpAny (model prog w) A (pyNext it) (fun r s₁ => match r with
      | none => wpAny (model prog w) A (execs orelse env) (fun f s₃ => R (.ok f) s₃) (notedBy (model prog w) A env fun e s' => R (.error e) s') s₁
      | some v => wpAny (model prog w) A (storeName env x v) (fun _ s₂ => wpAny (model prog w) A (execs body env) (fun f s₃ => match f with
            | .next | .cont => codeAny (model prog w) A (.forLoop (.Name x px) it body orelse env) R s₃
            | .brk => R (.ok .next) s₃
            | .ret v => R (.ok (.ret v)) s₃) (notedBy (model prog w) A env fun e s' => R (.error e) s') s₂) (notedBy (model prog w) A env fun e s' => R (.error e) s') s₁) (notedBy (model prog w) A env fun e s' => R (.error e) s') s) :
    codeAny (model prog w) A (.forLoop (.Name x px) it body orelse env) R s := by
  refine codeAny_of_tree ?_
  show wpAny _ A ((forTurn (.Name x px) it body orelse env).onRaise (fun x => do noteFrame x env; theTreesLotGoes x)) _ _ s
  refine wpAny_noted ?_
  simp only [forTurn]
  refine wpAny_bind (wpAny_standAt (wpAny_bind (wpAny_onRaise (wpAny_mono h (fun r s₁ h₁ => ?_) fun _ _ h' => wpAny_standAt h'))))
  cases r with
  | none => exact wpAny_pure ⟨rfl, codeAny_block h₁⟩
  | some v =>
    refine wpAny_bind (wpAny_of_eq (a := ()) rfl ?_)
    refine wpAny_bind (wpAny_mono (wpAny_assign_Name h₁) (fun _ s₂ h₂ => wpAny_bind (wpAny_mono h₂ (fun f s₃ h₃ => ?_) fun _ _ h' => h')) fun _ _ h' => h')
    cases f with
    | next => exact wpAny_pure ⟨rfl, h₃⟩
    | cont => exact wpAny_pure ⟨rfl, h₃⟩
    | brk => exact wpAny_pure h₃
    | ret v => exact wpAny_pure h₃
end
-- Lib8
theorem lines9 : True := by
  k_with_none
  k_with "in" => first | with_reducible assumption | exact And.left (by with_reducible assumption) | exact And.left (And.right (by with_reducible assumption)) | exact And.left (And.right (And.right (by with_reducible assumption))) | exact And.left (And.right (And.right (And.right (by with_reducible assumption)))) | exact And.left (And.right (And.right (And.right (And.right (by with_reducible assumption))))) | exact And.left (And.right (And.right (And.right (And.right (And.right (by with_reducible assumption)))))) | exact And.left (And.right (And.right (And.right (And.right (And.right (And.right (by with_reducible assumption))))))) | exact And.left (And.right (And.right (And.right (And.right (And.right (And.right (And.right (by with_reducible assumption)))))))) | exact And.left (And.right (And.right (And.right (And.right (And.right (And.right (And.right (And.right (by with_reducible assumption))))))))) | exact And.left (And.right (And.right (And.right (And.right (And.right (And.right (And.right (And.right (And.right (by with_reducible assumption)))))))))) | exact And.left (And.right (And.right (And.right (And.right (And.right (And.right (And.right (And.right (And.right (And.right (by with_reducible assumption))))))))))) | exact And.left (And.right (And.right (And.right (And.right (And.right (And.right (And.right (And.right (And.right (And.right (And.right (by with_reducible assumption)))))))))))) | exact And.left (And.right (And.right (And.right (And.right (And.right (And.right (And.right (And.right (And.right (And.right (And.right (And.right (by with_reducible assumption))))))))))))) | exact And.left (And.right (And.right (And.right (And.right (And.right (And.right (And.right (And.right (And.right (And.right (And.right (And.right (And.right (by with_reducible assumption)))))))))))))) | exact And.left (And.right (And.right (And.right (And.right (And.right (And.right (And.right (And.right (And.right (And.right (And.right (And.right (And.right (And.right (by with_reducible assumption))))))))))))))) | exact And.right (by with_reducible assumption) | exact And.right (And.right (by with_reducible assumption)) | exact And.right (And.right (And.right (by with_reducible assumption))) | exact And.right (And.right (And.right (And.right (by with_reducible assumption)))) | exact And.right (And.right (And.right (And.right (And.right (by with_reducible assumption))))) | exact And.right (And.right (And.right (And.right (And.right (And.right (by with_reducible assumption)))))) | exact And.right (And.right (And.right (And.right (And.right (And.right (And.right (by with_reducible assumption))))))) | exact And.right (And.right (And.right (And.right (And.right (And.right (And.right (And.right (by with_reducible assumption)))))))) | exact And.right (And.right (And.right (And.right (And.right (And.right (And.right (And.right (And.right (by with_reducible assumption))))))))) | exact And.right (And.right (And.right (And.right (And.right (And.right (And.right (And.right (And.right (And.right (by with_reducible assumption)))))))))) | exact And.right (And.right (And.right (And.right (And.right (And.right (And.right (And.right (And.right (And.right (And.right (by with_reducible assumption))))))))))) | exact And.right (And.right (And.right (And.right (And.right (And.right (And.right (And.right (And.right (And.right (And.right (And.right (by with_reducible assumption)))))))))))) | exact And.right (And.right (And.right (And.right (And.right (And.right (And.right (And.right (And.right (And.right (And.right (And.right (And.right (by with_reducible assumption))))))))))))) | exact And.right (And.right (And.right (And.right (And.right (And.right (And.right (And.right (And.right (And.right (And.right (And.right (And.right (And.right (by with_reducible assumption))))))))))))))
  k_with "lt0" => first | with_reducible assumption | exact Nat.lt_trans (by with_reducible assumption) (by k_extra "lt0")
  k_with "lt" => first | k_extra "in" | exact Nat.lt_trans (by k_extra "in") (by k_extra "lt")
  k_with "ne0" => first | with_reducible assumption | exact Ne.symm (by with_reducible assumption) | exact Nat.succ_ne_self _ | exact Ne.symm (Nat.succ_ne_self _) | (refine Nat.ne_of_lt ?_; k_extra "lt0") | (refine Nat.ne_of_gt ?_; k_extra "lt0")
  k_with "ne1" => first | k_extra "in" | (refine Ne.symm ?_; k_extra "in") | (refine Nat.ne_of_lt ?_; k_extra "lt") | (refine Nat.ne_of_gt ?_; k_extra "lt")
  k_with "ne2" => first | (refine Nat.ne_of_lt ?_; k_extra "lt0") | (refine Nat.ne_of_gt ?_; k_extra "lt0") | (refine Nat.ne_of_lt (And.left (by with_reducible assumption)))  | (refine Nat.ne_of_gt (And.left (by with_reducible assumption))) | (refine Nat.ne_of_lt (Nat.lt_trans (And.right (by with_reducible assumption)) ?_); k_extra "lt0") | (refine Nat.ne_of_lt (And.right (by with_reducible assumption))) | (refine Nat.ne_of_gt (Nat.lt_trans ?_ (And.left (by with_reducible assumption))); k_extra "lt0")
  k_with "ne" => first | k_extra "ne0" | (refine Or.elim (by with_reducible assumption : @LT.lt Nat _ _ _ ∨ @LT.lt Nat _ _ _ ∧ @LT.lt Nat _ _ _) (fun q9 => ?_) (fun q9 => ?_); (all_goals k_extra "ne2")) | k_extra "ne1"
  k_with "ifs" => first | with_reducible rfl | exact Eq.trans (if_neg (by assumption)) (by k_extra "ifs")
  k_with "up" => first | exact up2 (by with_reducible assumption) rfl | exact up1 (by with_reducible assumption) rfl | exact up3 (by with_reducible assumption) rfl | exact up4 (by with_reducible assumption) rfl | exact up5 (by with_reducible assumption) rfl
  k_with "om" => first | with_reducible assumption | exact Nat.succ_pos _ | (with_reducible show @LT.lt Nat _ _ _; (try dsimp only); first | k_extra "lt0" | k_extra "up" | k_extra "lt") | (with_reducible show @Ne Nat _ _; k_extra "ne") | (with_reducible show @LT.lt Nat _ _ _ ∧ @LT.lt Nat _ _ _; refine And.intro ?_ ?_ <;> k_extra "om") | (with_reducible show @Eq Nat _ _; first | exact Nat.add_sub_add_right 6 1 _ | exact (Nat.add_sub_add_right 6 1 _).symm | exact Nat.succ_sub (by omega) | exact (Nat.succ_sub (by omega)).symm | exact Nat.sub_sub_self (by omega)) | omega
  k_with "k_room" => first | k_extra "up" | ((try simp only [depth_under_make, depth_under_kw, depth_in1, depth_deeper, depth_caller]); omega)
  k_with "tb_start" => first | assumption | omega | (simp only [List.length_cons, List.length_nil, List.length_append]; omega)
  k_with "tb_rel" => repeat' (first | exact List.forall_mem_nil _ | refine List.forall_mem_cons.mpr ⟨by first | exact Or.inr (by k_mem) | exact Or.inl (by simp), ?_⟩)
  k_with "k_units" => first | k_extra "up" | ((try simp only [units_in1, units_deeper, Around.mark_units, units_caller]); omega)
  k_with "call type:list" => (k_here; (with_reducible show wpAny _ _ (call (Value.type "list") [Value.str _ _]) _ _ _); k_dflt (refine' list_strN ?h ?F ?N ?z ?_; (case h => rfl); (case F => k_asm); (case N => k_asm); (case z => exact Nat.le_trans (by assumption) (Nat.le_of_ble_eq_true rfl)); k_whole); intro l₉ h₉ tk₉ vs₉ k₉ F₉ N₉ l1₉ hc₉; (try k_lt l1₉); (try k_sweep))
  k_with "truthy ref" => (k_here; k_dflt (refine' truthy_ls ?N ?m ?z ?_; (case N => k_asm); (case m => k_mem); (case z => tb_start)); (intro tk₉; (try dsimp only [List.isEmpty_cons, List.isEmpty_nil, Bool.not_false, Bool.not_true])))
  k_with "call builtin:list.pop" => (k_here; (with_reducible show wpAny _ _ (call (Value.builtin "list.pop") [Value.ref _, Value.int 0 _]) _ _ _); k_dflt (refine' pop0_N ?F ?N ?U ?z ?_; (case F => k_asm); (case N => k_asm); (case U => k_upd); (case z => tb_start)); (intro h₉ F₉ N₉; (try k_sweep)))
  k_with "getMethod ref" => (k_here; (with_reducible show wpAny _ _ (getMethod (Value.ref _) (PySem.Str.ofString "read") _) _ _ _); k_dflt (refine' kmu_own ?k1 ?k2 ?k3 ?k4 ?k5 ?_; (case k1 => k_asm); (case k2 => k_asm); (case k3 => k_inst); (case k4 => k_is); (case k5 => k_is); k_whole))
  exact True.intro
section
variable {w : World} {p : Program} {loose : List Str} {mean : ExcName → Option Value} {mg mb : Str → Option Value} {dp un : Nat} {gd : Option (List Code)} {outs : List Env} {base h₀ : Heap} {s : Shared} {R : Result → Shared → Prop}
  (B : Below (AT dp un gd outs) base outs h₀) (X : (hd.heap_39 w.params).In h₀) (T : Top p loose mean mg mb h₀) (st : h₀.StaysIn s.heap) (hdp : dp + 6 < recursionLimit) (hu : un + 60 < cLine)
include B X T st hdp hu
theorem read_nil {l : Lex} {pm : Value} {u1 : Tok} {ln : Int} {sgn : Nat} (N : Own h₀ s.heap [(l.sg, lsO [] sgn), (l.dx, lexD w.params l.k1 l.k2 l.k3 l.k4 u1 l.u3 ln (.ref l.st) (.ref l.pb)), (l.x, instObj 52 l.dx), (l.sd, strD w.params l.j1 l.j2 l.j3 l.j4 l.j5 l.w1 l.w3 (.ref l.spb) (.ref l.lam)), (l.st, instObj 52 l.sd), (l.lam, lamO l.cell l.ct pm l.ctv), (l.ct, l.oc), (l.cell, l.oe)]) (ok : l.Ok) (ap : l.Apart) (Cd : CodeHd base 148 144)
    (hret : ∀ t h' tk', Keeps [] s.heap h' → R (.ok (.ret (.str (Str.ofString "") t))) { s with heap := h', toks := tk' }) :
    codeAny (model PySem.Challenge.rw_wn0047_01.row.prog w) (AT dp un gd outs) (.call (.ref 35) ⟨[.ref l.x], []⟩) R s := by
  revert X; k_fill; intro X
  obtain ⟨x, dx, pb, st', sd, spb, lam, ct, cell, sg, k1, k2, k3, k4, u3, j1, j2, j3, j4, j5, w1, w3, ctv, oc, oe⟩ := l
  obtain ⟨⟨cvs, ctk, hc1, hc2⟩, hce⟩ := ok
  dsimp only at hc1 hc2 hce N hret
  have hx : lamE = lamE := rfl
  conv at hx => rhs; whnf
  simp only [lamO, hx] at N
  dsimp only [Lex.Apart] at ap
  obtain ⟨ap1, ap2, ap3, ap4, ap5, ap6, ap7, ap8⟩ := ap
  k_dflt (refine' enter (binds := [(Str.ofString "self", Value.ref x)]) B X T st N ?k6 ?k7 ?k8 ?k9 ?kB ?_ ?c2 ?c3 ?c4 ?c5; (case k6 => k_is); (case k7 => k_is); (case k8 => k_room); (case k9 => exact BindsTo.of_eq rfl); (case c5 => decide); (case kB => exact locs rfl); (case c2 => exact rfl); (case c3 => exact rfl); (case c4 => exact rfl))
  intro g L' h₁ tk gh F' N' B' X' T' l1
  (try k_lt l1)
  k_steps
  exact hret _ _ _ (keeps_as gh N (by k_asm) (by k_asm) (by tb_rel))
theorem read_cons {l : Lex} {pm : Value} {u1 : Tok} {ln : Int} {sgn c : Nat} {tc : Tok} {rest : List Value} (N : Own h₀ s.heap [(l.sg, lsO (.str ⟨#[c]⟩ tc :: rest) sgn), (l.dx, lexD w.params l.k1 l.k2 l.k3 l.k4 u1 l.u3 ln (.ref l.st) (.ref l.pb)), (l.x, instObj 52 l.dx), (l.sd, strD w.params l.j1 l.j2 l.j3 l.j4 l.j5 l.w1 l.w3 (.ref l.spb) (.ref l.lam)), (l.st, instObj 52 l.sd), (l.lam, lamO l.cell l.ct pm l.ctv), (l.ct, l.oc), (l.cell, l.oe)]) (ok : l.Ok) (ap : l.Apart) (Cd : CodeHd base 148 144)
    (hz : rest.length ≤ 10000)
    (hret : ∀ u1' ln' h' tk', Keeps [l.sg, l.dx] s.heap h' → h'.get? l.sg = some (lsO rest (sgn + 1)) → h'.get? l.dx = some (lexD w.params l.k1 l.k2 l.k3 l.k4 u1' l.u3 ln' (.ref l.st) (.ref l.pb)) → R (.ok (.ret (.str ⟨#[c]⟩ tc))) { s with heap := h', toks := tk' }) :
    codeAny (model PySem.Challenge.rw_wn0047_01.row.prog w) (AT dp un gd outs) (.call (.ref 35) ⟨[.ref l.x], []⟩) R s := by
  revert X; k_fill; intro X
  obtain ⟨x, dx, pb, st', sd, spb, lam, ct, cell, sg, k1, k2, k3, k4, u3, j1, j2, j3, j4, j5, w1, w3, ctv, oc, oe⟩ := l
  obtain ⟨⟨cvs, ctk, hc1, hc2⟩, hce⟩ := ok
  dsimp only at hc1 hc2 hce N hret
  have hx : lamE = lamE := rfl
  conv at hx => rhs; whnf
  simp only [lamO, hx] at N
  dsimp only [Lex.Apart] at ap
  obtain ⟨ap1, ap2, ap3, ap4, ap5, ap6, ap7, ap8⟩ := ap
  k_dflt (refine' enter (binds := [(Str.ofString "self", Value.ref x)]) B X T st N ?k6 ?k7 ?k8 ?k9 ?kB ?_ ?c2 ?c3 ?c4 ?c5; (case k6 => k_is); (case k7 => k_is); (case k8 => k_room); (case k9 => exact BindsTo.of_eq rfl); (case c5 => decide); (case kB => exact locs rfl); (case c2 => exact rfl); (case c3 => exact rfl); (case c4 => exact rfl))
  intro g L' h₁ tk gh F' N' B' X' T' l1
  (try k_lt l1)
  k_steps
  all_goals (rename News _ _ _ _ => NN; exact hret _ _ _ _ (keeps_as gh N (by k_asm) NN (by tb_rel)) (NN.get (by k_mem)) (NN.get (by k_mem)))
/-- the ledger of get_token behind iter -/
noncomputable abbrev gtL (P : Params) (pm : Value) (l : Lex) (it q : Addr) (t0 u1 : Tok) (ln : Int) (pbs : List Value) (pbn : Nat) (sgs : List Value) (sgn : Nat) : List (Addr × Obj) :=
  (it, ciO (.ref q) (.str (Str.ofString "") t0)) :: (q, methodObj (.ref 35) (.ref l.x)) :: l.objs P pm u1 ln pbs pbn sgs sgn
end
section
variable {w : World} {p : Program} {loose : List Str} {mean : ExcName → Option Value} {mg mb : Str → Option Value} {dp un : Nat} {gd : Option (List Code)} {outs : List Env} {base g : Heap} {s : Shared} {R : Result → Shared → Prop} {A₀ : Around}
  {cn : Str} {sc : Scope} {L a : Addr} {cd : Value} {m : Str → Option Value} {x : Str} {px : Pos} {body : List Stmt} {l : Lex} {pm : Value} {it q : Addr} {t0 u1 : Tok} {ln : Int} {pbs : List Value} {pbn sgn : Nat}
theorem ci_cons {c : Nat} {tc : Tok} {rest : List Value} (B : Below A₀ base outs g) (F : Fr g L s.heap m) (X : (hd.heap_39 w.params).In g) (T : Top p loose mean mg mb g) (N : News g L s.heap (gtL w.params pm l it q t0 u1 ln pbs pbn (.str ⟨#[c]⟩ tc :: rest) sgn))
    (hdp : dp + 6 < recursionLimit) (hu : un + 62 < cLine) (hk : sc.kind = .function) (hx : (envOf cn sc L a cd).kindOf x = some .local) (ok : l.Ok) (ap : l.Apart) (aq : @LT.lt Nat _ l.pb q ∧ @LT.lt Nat _ q it) (Cd : CodeHd base 148 144) (hz : rest.length ≤ 10000)
    (h : ∀ u1' ln' h' tk', Fr g L h' (fun y => if y = x then some (.str ⟨#[c]⟩ tc) else m y) → News g L h' (gtL w.params pm l it q t0 u1' ln' pbs pbn rest (sgn + 1)) →
      wpAny (model PySem.Challenge.rw_wn0047_01.row.prog w) (AT dp un gd (envOf cn sc L a cd :: outs)) (execs body (envOf cn sc L a cd)) (fun f s₃ => match f with
            | .next | .cont => codeAny (model PySem.Challenge.rw_wn0047_01.row.prog w) (AT dp un gd (envOf cn sc L a cd :: outs)) (.forLoop (.Name x px) (.ref it) body [] (envOf cn sc L a cd)) R s₃
            | .brk => R (.ok .next) s₃
            | .ret v => R (.ok (.ret v)) s₃) (notedBy (model PySem.Challenge.rw_wn0047_01.row.prog w) (AT dp un gd (envOf cn sc L a cd :: outs)) (envOf cn sc L a cd) fun e s' => R (.error e) s') { s with heap := h', toks := tk' }) :
    codeAny (model PySem.Challenge.rw_wn0047_01.row.prog w) (AT dp un gd (envOf cn sc L a cd :: outs)) (.forLoop (.Name x px) (.ref it) body [] (envOf cn sc L a cd)) R s := by
  revert X; k_fill; intro X
  obtain ⟨aq1, aq2⟩ := aq
  have ap' := ap
  dsimp only [Lex.Apart] at ap'
  obtain ⟨ap1, ap2, ap3, ap4, ap5, ap6, ap7, ap8⟩ := ap'
  refine forLoop_step ?_
  k_dflt (refine' next_ci_item (N.get (.head _)) (N.get (.tail _ (.head _))) (kget (X.keeps F.keep) ?ho) ?hd9 ?_; (case ho => k_is); (case hd9 => rfl))
  refine call_own (A := (AT dp un gd (envOf cn sc L a cd :: outs)).in1) (env := envOf cn sc L a cd) B F X T N rfl rfl hk fun h₁ B1 X1 T1 st1 N1 => ?_
  refine read_cons (l := l) (pm := pm) (u1 := u1) (ln := ln) (sgn := sgn) (c := c) (tc := tc) (rest := rest) B1 X1 T1 st1 (by k_room) (by k_units) (own_sub N1 (by lcg_sub)) ok ap Cd hz ?_
  intro u1' ln' h' tk' kp d1 d2
  have F2 := fr_keeps F kp (fun b hb => by
    rcases List.mem_cons.mp hb with rfl | hb
    · exact NewsOff N (by k_mem)
    · cases List.mem_singleton.mp hb
      exact NewsOff N (by k_mem))
  have N2 : News g L h' (gtL w.params pm l it q t0 u1' ln' pbs pbn rest (sgn + 1)) := news_keeps2 N kp (by k_upd) (by k_upd) (by k_ne) d1 d2
  refine ⟨_, _, rfl, one_ne_empty, N2.get (.head _), ?_⟩
  exact storeX_L F2 N2 (fun h'' F3 N3 => h u1' ln' h'' _ F3 N3) hk hx
theorem ci_nil (B : Below A₀ base outs g) (F : Fr g L s.heap m) (X : (hd.heap_39 w.params).In g) (T : Top p loose mean mg mb g) (N : News g L s.heap (gtL w.params pm l it q t0 u1 ln pbs pbn [] sgn))
    (hdp : dp + 6 < recursionLimit) (hu : un + 62 < cLine) (hk : sc.kind = .function) (ok : l.Ok) (ap : l.Apart) (aq : @LT.lt Nat _ l.pb q ∧ @LT.lt Nat _ q it) (Cd : CodeHd base 148 144)
    (h : ∀ h' tk', Fr g L h' m → News g L h' (l.objs w.params pm u1 ln pbs pbn [] sgn) → R (.ok .next) { s with heap := h', toks := tk' }) :
    codeAny (model PySem.Challenge.rw_wn0047_01.row.prog w) (AT dp un gd (envOf cn sc L a cd :: outs)) (.forLoop (.Name x px) (.ref it) body [] (envOf cn sc L a cd)) R s := by
  revert X; k_fill; intro X
  obtain ⟨aq1, aq2⟩ := aq
  have ap' := ap
  dsimp only [Lex.Apart] at ap'
  obtain ⟨ap1, ap2, ap3, ap4, ap5, ap6, ap7, ap8⟩ := ap'
  refine forLoop_step ?_
  k_dflt (refine' next_ci_end rfl (N.get (.head _)) (N.get (.tail _ (.head _))) (kget (X.keeps F.keep) ?ho) ?hd9 ?_; (case ho => k_is); (case hd9 => rfl))
  refine call_own (A := (AT dp un gd (envOf cn sc L a cd :: outs)).in1) (env := envOf cn sc L a cd) B F X T N rfl rfl hk fun h₁ B1 X1 T1 st1 N1 => ?_
  refine read_nil (l := l) (pm := pm) (u1 := u1) (ln := ln) (sgn := sgn) B1 X1 T1 st1 (by k_room) (by k_units) (own_sub N1 (by lcg_sub)) ok ap Cd ?_
  intro t h' tk' kp
  have F2 := fr_keeps F kp (fun b hb => nomatch hb)
  have N2 := news_keeps0 N kp
  refine ⟨_, rfl, N2.get (.head _), N2.get (.tail _ (.head _)), F2.keep _ _ (kget X (by k_is)), fun h'' k2 => wpAny_execs_nil ?_⟩
  refine h h'' _ (fr_keeps F2 k2 (fun b hb => by cases List.mem_singleton.mp hb; exact NewsOff N2 (.head _))) fun p hp => ⟨k2 _ _ ?_ (N2 p (.tail _ (.tail _ hp))).1, (N2 p (.tail _ (.tail _ hp))).2⟩
  simp only [List.mem_singleton]
  simp only [Lex.objs, List.mem_cons, List.not_mem_nil, or_false] at hp
  rcases hp with rfl | rfl | rfl | rfl | rfl | rfl | rfl | rfl | rfl <;> k_ne
end
-- Lib9
theorem lines10 : True := by
  k_with_none
  k_with "in" => first | with_reducible assumption | exact And.left (by with_reducible assumption) | exact And.left (And.right (by with_reducible assumption)) | exact And.left (And.right (And.right (by with_reducible assumption))) | exact And.left (And.right (And.right (And.right (by with_reducible assumption)))) | exact And.left (And.right (And.right (And.right (And.right (by with_reducible assumption))))) | exact And.left (And.right (And.right (And.right (And.right (And.right (by with_reducible assumption)))))) | exact And.left (And.right (And.right (And.right (And.right (And.right (And.right (by with_reducible assumption))))))) | exact And.left (And.right (And.right (And.right (And.right (And.right (And.right (And.right (by with_reducible assumption)))))))) | exact And.left (And.right (And.right (And.right (And.right (And.right (And.right (And.right (And.right (by with_reducible assumption))))))))) | exact And.left (And.right (And.right (And.right (And.right (And.right (And.right (And.right (And.right (And.right (by with_reducible assumption)))))))))) | exact And.left (And.right (And.right (And.right (And.right (And.right (And.right (And.right (And.right (And.right (And.right (by with_reducible assumption))))))))))) | exact And.left (And.right (And.right (And.right (And.right (And.right (And.right (And.right (And.right (And.right (And.right (And.right (by with_reducible assumption)))))))))))) | exact And.left (And.right (And.right (And.right (And.right (And.right (And.right (And.right (And.right (And.right (And.right (And.right (And.right (by with_reducible assumption))))))))))))) | exact And.left (And.right (And.right (And.right (And.right (And.right (And.right (And.right (And.right (And.right (And.right (And.right (And.right (And.right (by with_reducible assumption)))))))))))))) | exact And.left (And.right (And.right (And.right (And.right (And.right (And.right (And.right (And.right (And.right (And.right (And.right (And.right (And.right (And.right (by with_reducible assumption))))))))))))))) | exact And.right (by with_reducible assumption) | exact And.right (And.right (by with_reducible assumption)) | exact And.right (And.right (And.right (by with_reducible assumption))) | exact And.right (And.right (And.right (And.right (by with_reducible assumption)))) | exact And.right (And.right (And.right (And.right (And.right (by with_reducible assumption))))) | exact And.right (And.right (And.right (And.right (And.right (And.right (by with_reducible assumption)))))) | exact And.right (And.right (And.right (And.right (And.right (And.right (And.right (by with_reducible assumption))))))) | exact And.right (And.right (And.right (And.right (And.right (And.right (And.right (And.right (by with_reducible assumption)))))))) | exact And.right (And.right (And.right (And.right (And.right (And.right (And.right (And.right (And.right (by with_reducible assumption))))))))) | exact And.right (And.right (And.right (And.right (And.right (And.right (And.right (And.right (And.right (And.right (by with_reducible assumption)))))))))) | exact And.right (And.right (And.right (And.right (And.right (And.right (And.right (And.right (And.right (And.right (And.right (by with_reducible assumption))))))))))) | exact And.right (And.right (And.right (And.right (And.right (And.right (And.right (And.right (And.right (And.right (And.right (And.right (by with_reducible assumption)))))))))))) | exact And.right (And.right (And.right (And.right (And.right (And.right (And.right (And.right (And.right (And.right (And.right (And.right (And.right (by with_reducible assumption))))))))))))) | exact And.right (And.right (And.right (And.right (And.right (And.right (And.right (And.right (And.right (And.right (And.right (And.right (And.right (And.right (by with_reducible assumption))))))))))))))
  k_with "lt0" => first | with_reducible assumption | exact Nat.lt_trans (by with_reducible assumption) (by k_extra "lt0")
  k_with "lt" => first | k_extra "in" | exact Nat.lt_trans (by k_extra "in") (by k_extra "lt")
  k_with "ne0" => first | with_reducible assumption | exact Ne.symm (by with_reducible assumption) | exact Nat.succ_ne_self _ | exact Ne.symm (Nat.succ_ne_self _) | (refine Nat.ne_of_lt ?_; k_extra "lt0") | (refine Nat.ne_of_gt ?_; k_extra "lt0")
  k_with "ne1" => first | k_extra "in" | (refine Ne.symm ?_; k_extra "in") | (refine Nat.ne_of_lt ?_; k_extra "lt") | (refine Nat.ne_of_gt ?_; k_extra "lt")
  k_with "ne2" => first | (refine Nat.ne_of_lt ?_; k_extra "lt0") | (refine Nat.ne_of_gt ?_; k_extra "lt0") | (refine Nat.ne_of_lt (And.left (by with_reducible assumption)))  | (refine Nat.ne_of_gt (And.left (by with_reducible assumption))) | (refine Nat.ne_of_lt (Nat.lt_trans (And.right (by with_reducible assumption)) ?_); k_extra "lt0") | (refine Nat.ne_of_lt (And.right (by with_reducible assumption))) | (refine Nat.ne_of_gt (Nat.lt_trans ?_ (And.left (by with_reducible assumption))); k_extra "lt0")
  k_with "ne" => first | k_extra "ne0" | (refine Or.elim (by with_reducible assumption : @LT.lt Nat _ _ _ ∨ @LT.lt Nat _ _ _ ∧ @LT.lt Nat _ _ _) (fun q9 => ?_) (fun q9 => ?_); (all_goals k_extra "ne2")) | k_extra "ne1"
  k_with "ifs" => first | with_reducible rfl | exact Eq.trans (if_neg (by assumption)) (by k_extra "ifs")
  k_with "up" => first | exact up2 (by with_reducible assumption) rfl | exact up1 (by with_reducible assumption) rfl | exact up3 (by with_reducible assumption) rfl | exact up4 (by with_reducible assumption) rfl | exact up5 (by with_reducible assumption) rfl
  k_with "om" => first | with_reducible assumption | exact Nat.succ_pos _ | (with_reducible show @LT.lt Nat _ _ _; (try dsimp only); first | k_extra "lt0" | k_extra "up" | k_extra "lt") | (with_reducible show @Ne Nat _ _; k_extra "ne") | (with_reducible show @LT.lt Nat _ _ _ ∧ @LT.lt Nat _ _ _; refine And.intro ?_ ?_ <;> k_extra "om") | (with_reducible show @Eq Nat _ _; first | exact Nat.add_sub_add_right 6 1 _ | exact (Nat.add_sub_add_right 6 1 _).symm | exact Nat.succ_sub (by omega) | exact (Nat.succ_sub (by omega)).symm | exact Nat.sub_sub_self (by omega)) | omega
  k_with "k_room" => first | k_extra "up" | ((try simp only [depth_under_make, depth_under_kw, depth_in1, depth_deeper, depth_caller]); omega)
  k_with "tb_start" => first | assumption | omega | (simp only [List.length_cons, List.length_nil, List.length_append]; omega)
  k_with "tb_rel" => repeat' (first | exact List.forall_mem_nil _ | refine List.forall_mem_cons.mpr ⟨by first | exact Or.inr (by k_mem) | exact Or.inl (by simp), ?_⟩)
  k_with "k_units" => first | k_extra "up" | ((try simp only [units_in1, units_deeper, Around.mark_units, units_caller]); omega)
  k_with "call type:list" => (k_here; (with_reducible show wpAny _ _ (call (Value.type "list") [Value.str _ _]) _ _ _); k_dflt (refine' list_strN ?h ?F ?N ?z ?_; (case h => rfl); (case F => k_asm); (case N => k_asm); (case z => exact Nat.le_trans (by assumption) (Nat.le_of_ble_eq_true rfl)); k_whole); intro l₉ h₉ tk₉ vs₉ k₉ F₉ N₉ l1₉ hc₉; (try k_lt l1₉); (try k_sweep))
  k_with "truthy ref" => (k_here; k_dflt (refine' truthy_ls ?N ?m ?z ?_; (case N => k_asm); (case m => k_mem); (case z => tb_start)); (intro tk₉; (try dsimp only [List.isEmpty_cons, List.isEmpty_nil, Bool.not_false, Bool.not_true])))
  k_with "call builtin:list.pop" => (k_here; (with_reducible show wpAny _ _ (call (Value.builtin "list.pop") [Value.ref _, Value.int 0 _]) _ _ _); k_dflt (refine' pop0_N ?F ?N ?U ?z ?_; (case F => k_asm); (case N => k_asm); (case U => k_upd); (case z => tb_start)); (intro h₉ F₉ N₉; (try k_sweep)))
  exact True.intro
/-- a token in quotes -/
noncomputable def quoted : List Nat → List Nat → Option (List Nat × List Nat)
  | _, [] => none
  | acc, [c] => if c = 34 then some (acc, []) else none
  | acc, c :: d :: r => if c = 34 then some (acc, d :: r) else if c = 92 then quoted (acc ++ [d]) r else quoted (acc ++ [c]) (d :: r)
noncomputable abbrev isWs (c : Nat) : Prop := c = 10 ∨ c = 9 ∨ c = 13 ∨ c = 32
/-- a token without -/
noncomputable def plainTok : List Nat → List Nat → Option (List Nat × List Nat)
  | _, [] => none
  | acc, [c] => if isWs c then some (acc, []) else none
  | acc, c :: d :: r => if isWs c then some (acc, d :: r) else if c = 92 then plainTok (acc ++ [d]) r else plainTok (acc ++ [c]) (d :: r)
/-- a frame's names within the loops -/
noncomputable abbrev mA (m0 : Str → Option Value) (vch : Option Value) (acc : List Nat) (ta : Tok) : Str → Option Value :=
  fun y => if y = Str.ofString "ch" then vch else if y = Str.ofString "token" then some (.str ⟨acc.toArray⟩ ta) else m0 y
theorem All2.length {α β : Type} {R : α → β → Prop} {as : List α} {bs : List β} (h : All2 R as bs) : as.length = bs.length := by
  induction h with
  | nil => rfl
  | cons _ _ ih => simp [ih]
theorem CharsAre.length {vs : List Value} {cs : List Nat} (h : CharsAre vs cs) : vs.length = cs.length := All2.length h
theorem loopA {w : World} {p : Program} {loose : List Str} {mean : ExcName → Option Value} {mg mb : Str → Option Value} {dp un : Nat} {gd : Option (List Code)} {outs : List Env} {base g : Heap} {R : Result → Shared → Prop} {A₀ : Around}
  {cn : Str} {sc : Scope} {L a : Addr} {cd : Value} {m0 : Str → Option Value} {px : Pos} {body : List Stmt} {l : Lex} {pm : Value} {it q : Addr} {t0 : Tok} {pbs : List Value} {pbn : Nat}
    (B : Below A₀ base outs g) (X : (hd.heap_39 w.params).In g) (T : Top p loose mean mg mb g)
    (hdp : dp + 6 < recursionLimit) (hu : un + 62 < cLine) (hk : sc.kind = .function) (hx : (envOf cn sc L a cd).kindOf (Str.ofString "ch") = some .local) (ok : l.Ok) (ap : l.Apart) (aq : @LT.lt Nat _ l.pb q ∧ @LT.lt Nat _ q it) (Cd : CodeHd base 148 144) {s₀ : Shared}
    (tq : ∀ c tc acc ta u1 ln vs k h tk (Q : Flow → Shared → Prop) (E : Value → Shared → Prop), c = 34 → acc.length ≤ 10000 → Fr g L h (mA m0 (some (.str ⟨#[c]⟩ tc)) acc ta) → News g L h (gtL w.params pm l it q t0 u1 ln pbs pbn vs k) →
      (∀ h' tk', Fr g L h' (mA m0 (some (.str ⟨#[c]⟩ tc)) acc ta) → News g L h' (gtL w.params pm l it q t0 u1 ln pbs pbn vs k) → Q (.ret (.str ⟨acc.toArray⟩ ta)) { s₀ with heap := h', toks := tk' }) →
      wpAny (model PySem.Challenge.rw_wn0047_01.row.prog w) (AT dp un gd (envOf cn sc L a cd :: outs)) (execs body (envOf cn sc L a cd)) Q E { s₀ with heap := h, toks := tk })
    (te : ∀ tc d td acc ta u1 ln vs k h tk (Q : Flow → Shared → Prop) (E : Value → Shared → Prop), acc.length ≤ 10000 → vs.length ≤ 10000 → Fr g L h (mA m0 (some (.str ⟨#[92]⟩ tc)) acc ta) → News g L h (gtL w.params pm l it q t0 u1 ln pbs pbn (.str ⟨#[d]⟩ td :: vs) k) →
      (∀ u1' ln' vch ta' h' tk', Fr g L h' (mA m0 vch (acc ++ [d]) ta') → News g L h' (gtL w.params pm l it q t0 u1' ln' pbs pbn vs (k + 1)) → Q .next { s₀ with heap := h', toks := tk' }) →
      wpAny (model PySem.Challenge.rw_wn0047_01.row.prog w) (AT dp un gd (envOf cn sc L a cd :: outs)) (execs body (envOf cn sc L a cd)) Q E { s₀ with heap := h, toks := tk })
    (tn : ∀ c tc acc ta u1 ln vs k h tk (Q : Flow → Shared → Prop) (E : Value → Shared → Prop), c ≠ 34 → c ≠ 92 → acc.length ≤ 10000 → Fr g L h (mA m0 (some (.str ⟨#[c]⟩ tc)) acc ta) → News g L h (gtL w.params pm l it q t0 u1 ln pbs pbn vs k) →
      (∀ vch ta' h' tk', Fr g L h' (mA m0 vch (acc ++ [c]) ta') → News g L h' (gtL w.params pm l it q t0 u1 ln pbs pbn vs k) → Q .next { s₀ with heap := h', toks := tk' }) →
      wpAny (model PySem.Challenge.rw_wn0047_01.row.prog w) (AT dp un gd (envOf cn sc L a cd :: outs)) (execs body (envOf cn sc L a cd)) Q E { s₀ with heap := h, toks := tk })
    {tok rest : List Nat} (hR : ∀ ta u1 ln vs k h tk, (∃ m, Fr g L h m) → CharsAre vs rest → News g L h (gtL w.params pm l it q t0 u1 ln pbs pbn vs k) → R (.ok (.ret (.str ⟨tok.toArray⟩ ta))) { s₀ with heap := h, toks := tk }) :
    ∀ (n : Nat) (cs acc : List Nat) (vs : List Value) (k : Nat) (vch : Option Value) (ta u1 : Tok) (ln : Int) (h : Heap) (tk : Nat), cs.length ≤ n → CharsAre vs cs → quoted acc cs = some (tok, rest) → cs.length + acc.length ≤ 10000 →
      Fr g L h (mA m0 vch acc ta) → News g L h (gtL w.params pm l it q t0 u1 ln pbs pbn vs k) →
      codeAny (model PySem.Challenge.rw_wn0047_01.row.prog w) (AT dp un gd (envOf cn sc L a cd :: outs)) (.forLoop (.Name (Str.ofString "ch") px) (.ref it) body [] (envOf cn sc L a cd)) R { s₀ with heap := h, toks := tk } := by
  intro n
  induction n with
  | zero =>
    intro cs acc vs k vch ta u1 ln h tk hn hcs hq hlen F N
    cases cs with
    | nil => simp [quoted] at hq
    | cons c r => simp at hn
  | succ n ih =>
    intro cs acc vs k vch ta u1 ln h tk hn hcs hq hlen F N
    cases hcs with
    | nil => simp [quoted] at hq
    | @cons v c vs cs hv hcs =>
      obtain ⟨tc, rfl⟩ := hv
      have hl : vs.length = cs.length := hcs.length
      simp only [List.length_cons] at hlen hn
      refine ci_cons (s := { s₀ with heap := h, toks := tk }) B F X T N hdp hu hk hx ok ap aq Cd (by k_extra "om") fun u1' ln' h' tk' F' N' => ?_
      have F2 : Fr g L h' (mA m0 (some (.str ⟨#[c]⟩ tc)) acc ta) := fr_congr F' fun y => by
        by_cases hy : y = Str.ofString "ch"
        · simp only [mA, if_pos hy]
        · simp only [mA, if_neg hy]
      by_cases he : c = 34
      · refine tq c tc acc ta u1' ln' vs _ h' tk' _ _ he (by k_extra "om") F2 N' fun h'' tk'' F'' N'' => ?_
        have hq' : tok = acc ∧ rest = cs := by
          cases cs with
          | nil => simp [quoted, he] at hq; exact ⟨hq.1.symm, hq.2⟩
          | cons d r => simp [quoted, he] at hq; exact ⟨hq.1.symm, hq.2.symm⟩
        obtain ⟨rfl, rfl⟩ := hq'
        exact hR ta u1' ln' vs _ h'' tk'' ⟨_, F''⟩ hcs N''
      · by_cases h92 : c = 92
        · subst h92
          cases hcs with
          | nil => simp [quoted, he] at hq
          | @cons v d vs cs hv hcs =>
            obtain ⟨td, rfl⟩ := hv
            have hl2 : vs.length = cs.length := hcs.length
            simp only [List.length_cons] at hlen hn
            refine te tc d td acc ta u1' ln' vs _ h' tk' _ _ (by k_extra "om") (by k_extra "om") F2 N' fun u1'' ln'' vch' ta' h'' tk'' F'' N'' => ?_
            refine ih cs (acc ++ [d]) vs _ vch' ta' u1'' ln'' h'' tk'' (by k_extra "om") hcs ?_ (by simp only [List.length_append, List.length_cons, List.length_nil]; omega) F'' N''
            simpa [quoted, he] using hq
        · refine tn c tc acc ta u1' ln' vs _ h' tk' _ _ he h92 (by k_extra "om") F2 N' fun vch' ta' h'' tk'' F'' N'' => ?_
          refine ih cs (acc ++ [c]) vs _ vch' ta' u1' ln' h'' tk'' (by k_extra "om") hcs ?_ (by simp only [List.length_append, List.length_cons, List.length_nil]; omega) F'' N''
          cases cs with
          | nil => simp [quoted, he] at hq
          | cons d r => simpa [quoted, he, h92] using hq
theorem loopB {w : World} {p : Program} {loose : List Str} {mean : ExcName → Option Value} {mg mb : Str → Option Value} {dp un : Nat} {gd : Option (List Code)} {outs : List Env} {base g : Heap} {R : Result → Shared → Prop} {A₀ : Around}
  {cn : Str} {sc : Scope} {L a : Addr} {cd : Value} {m0 : Str → Option Value} {px : Pos} {body : List Stmt} {l : Lex} {pm : Value} {it q : Addr} {t0 : Tok} {pbs : List Value} {pbn : Nat}
    (B : Below A₀ base outs g) (X : (hd.heap_39 w.params).In g) (T : Top p loose mean mg mb g)
    (hdp : dp + 6 < recursionLimit) (hu : un + 62 < cLine) (hk : sc.kind = .function) (hx : (envOf cn sc L a cd).kindOf (Str.ofString "ch") = some .local) (ok : l.Ok) (ap : l.Apart) (aq : @LT.lt Nat _ l.pb q ∧ @LT.lt Nat _ q it) (Cd : CodeHd base 148 144) {s₀ : Shared}
    (tq : ∀ c tc acc ta u1 ln vs k h tk (Q : Flow → Shared → Prop) (E : Value → Shared → Prop), isWs c → acc.length ≤ 10000 → Fr g L h (mA m0 (some (.str ⟨#[c]⟩ tc)) acc ta) → News g L h (gtL w.params pm l it q t0 u1 ln pbs pbn vs k) →
      (∀ h' tk', Fr g L h' (mA m0 (some (.str ⟨#[c]⟩ tc)) acc ta) → News g L h' (gtL w.params pm l it q t0 u1 ln pbs pbn vs k) → Q (.ret (.str ⟨acc.toArray⟩ ta)) { s₀ with heap := h', toks := tk' }) →
      wpAny (model PySem.Challenge.rw_wn0047_01.row.prog w) (AT dp un gd (envOf cn sc L a cd :: outs)) (execs body (envOf cn sc L a cd)) Q E { s₀ with heap := h, toks := tk })
    (te : ∀ tc d td acc ta u1 ln vs k h tk (Q : Flow → Shared → Prop) (E : Value → Shared → Prop), acc.length ≤ 10000 → vs.length ≤ 10000 → Fr g L h (mA m0 (some (.str ⟨#[92]⟩ tc)) acc ta) → News g L h (gtL w.params pm l it q t0 u1 ln pbs pbn (.str ⟨#[d]⟩ td :: vs) k) →
      (∀ u1' ln' vch ta' h' tk', Fr g L h' (mA m0 vch (acc ++ [d]) ta') → News g L h' (gtL w.params pm l it q t0 u1' ln' pbs pbn vs (k + 1)) → Q .next { s₀ with heap := h', toks := tk' }) →
      wpAny (model PySem.Challenge.rw_wn0047_01.row.prog w) (AT dp un gd (envOf cn sc L a cd :: outs)) (execs body (envOf cn sc L a cd)) Q E { s₀ with heap := h, toks := tk })
    (tn : ∀ c tc acc ta u1 ln vs k h tk (Q : Flow → Shared → Prop) (E : Value → Shared → Prop), ¬ isWs c → c ≠ 92 → acc.length ≤ 10000 → Fr g L h (mA m0 (some (.str ⟨#[c]⟩ tc)) acc ta) → News g L h (gtL w.params pm l it q t0 u1 ln pbs pbn vs k) →
      (∀ vch ta' h' tk', Fr g L h' (mA m0 vch (acc ++ [c]) ta') → News g L h' (gtL w.params pm l it q t0 u1 ln pbs pbn vs k) → Q .next { s₀ with heap := h', toks := tk' }) →
      wpAny (model PySem.Challenge.rw_wn0047_01.row.prog w) (AT dp un gd (envOf cn sc L a cd :: outs)) (execs body (envOf cn sc L a cd)) Q E { s₀ with heap := h, toks := tk })
    {tok rest : List Nat} (hR : ∀ ta u1 ln vs k h tk, (∃ m, Fr g L h m) → CharsAre vs rest → News g L h (gtL w.params pm l it q t0 u1 ln pbs pbn vs k) → R (.ok (.ret (.str ⟨tok.toArray⟩ ta))) { s₀ with heap := h, toks := tk }) :
    ∀ (n : Nat) (cs acc : List Nat) (vs : List Value) (k : Nat) (vch : Option Value) (ta u1 : Tok) (ln : Int) (h : Heap) (tk : Nat), cs.length ≤ n → CharsAre vs cs → plainTok acc cs = some (tok, rest) → cs.length + acc.length ≤ 10000 →
      Fr g L h (mA m0 vch acc ta) → News g L h (gtL w.params pm l it q t0 u1 ln pbs pbn vs k) →
      codeAny (model PySem.Challenge.rw_wn0047_01.row.prog w) (AT dp un gd (envOf cn sc L a cd :: outs)) (.forLoop (.Name (Str.ofString "ch") px) (.ref it) body [] (envOf cn sc L a cd)) R { s₀ with heap := h, toks := tk } := by
  intro n
  induction n with
  | zero =>
    intro cs acc vs k vch ta u1 ln h tk hn hcs hq hlen F N
    cases cs with
    | nil => simp [plainTok] at hq
    | cons c r => simp at hn
  | succ n ih =>
    intro cs acc vs k vch ta u1 ln h tk hn hcs hq hlen F N
    cases hcs with
    | nil => simp [plainTok] at hq
    | @cons v c vs cs hv hcs =>
      obtain ⟨tc, rfl⟩ := hv
      have hl : vs.length = cs.length := hcs.length
      simp only [List.length_cons] at hlen hn
      refine ci_cons (s := { s₀ with heap := h, toks := tk }) B F X T N hdp hu hk hx ok ap aq Cd (by k_extra "om") fun u1' ln' h' tk' F' N' => ?_
      have F2 : Fr g L h' (mA m0 (some (.str ⟨#[c]⟩ tc)) acc ta) := fr_congr F' fun y => by
        by_cases hy : y = Str.ofString "ch"
        · simp only [mA, if_pos hy]
        · simp only [mA, if_neg hy]
      by_cases he : isWs c
      · refine tq c tc acc ta u1' ln' vs _ h' tk' _ _ he (by k_extra "om") F2 N' fun h'' tk'' F'' N'' => ?_
        have hq' : tok = acc ∧ rest = cs := by
          cases cs with
          | nil => simp [plainTok, he] at hq; exact ⟨hq.1.symm, hq.2⟩
          | cons d r => simp [plainTok, he] at hq; exact ⟨hq.1.symm, hq.2.symm⟩
        obtain ⟨rfl, rfl⟩ := hq'
        exact hR ta u1' ln' vs _ h'' tk'' ⟨_, F''⟩ hcs N''
      · by_cases h92 : c = 92
        · subst h92
          cases hcs with
          | nil => simp [plainTok, he] at hq
          | @cons v d vs cs hv hcs =>
            obtain ⟨td, rfl⟩ := hv
            have hl2 : vs.length = cs.length := hcs.length
            simp only [List.length_cons] at hlen hn
            refine te tc d td acc ta u1' ln' vs _ h' tk' _ _ (by k_extra "om") (by k_extra "om") F2 N' fun u1'' ln'' vch' ta' h'' tk'' F'' N'' => ?_
            refine ih cs (acc ++ [d]) vs _ vch' ta' u1'' ln'' h'' tk'' (by k_extra "om") hcs ?_ (by simp only [List.length_append, List.length_cons, List.length_nil]; omega) F'' N''
            simpa [plainTok, he] using hq
        · refine tn c tc acc ta u1' ln' vs _ h' tk' _ _ he h92 (by k_extra "om") F2 N' fun vch' ta' h'' tk'' F'' N'' => ?_
          refine ih cs (acc ++ [c]) vs _ vch' ta' u1' ln' h'' tk'' (by k_extra "om") hcs ?_ (by simp only [List.length_append, List.length_cons, List.length_nil]; omega) F'' N''
          cases cs with
          | nil => simp [plainTok, he] at hq
          | cons d r => simpa [plainTok, he, h92] using hq
-- Lib10
theorem lines11 : True := by
  k_with_none
  k_with "in" => first | with_reducible assumption | exact And.left (by with_reducible assumption) | exact And.left (And.right (by with_reducible assumption)) | exact And.left (And.right (And.right (by with_reducible assumption))) | exact And.left (And.right (And.right (And.right (by with_reducible assumption)))) | exact And.left (And.right (And.right (And.right (And.right (by with_reducible assumption))))) | exact And.left (And.right (And.right (And.right (And.right (And.right (by with_reducible assumption)))))) | exact And.left (And.right (And.right (And.right (And.right (And.right (And.right (by with_reducible assumption))))))) | exact And.left (And.right (And.right (And.right (And.right (And.right (And.right (And.right (by with_reducible assumption)))))))) | exact And.left (And.right (And.right (And.right (And.right (And.right (And.right (And.right (And.right (by with_reducible assumption))))))))) | exact And.left (And.right (And.right (And.right (And.right (And.right (And.right (And.right (And.right (And.right (by with_reducible assumption)))))))))) | exact And.left (And.right (And.right (And.right (And.right (And.right (And.right (And.right (And.right (And.right (And.right (by with_reducible assumption))))))))))) | exact And.left (And.right (And.right (And.right (And.right (And.right (And.right (And.right (And.right (And.right (And.right (And.right (by with_reducible assumption)))))))))))) | exact And.left (And.right (And.right (And.right (And.right (And.right (And.right (And.right (And.right (And.right (And.right (And.right (And.right (by with_reducible assumption))))))))))))) | exact And.left (And.right (And.right (And.right (And.right (And.right (And.right (And.right (And.right (And.right (And.right (And.right (And.right (And.right (by with_reducible assumption)))))))))))))) | exact And.left (And.right (And.right (And.right (And.right (And.right (And.right (And.right (And.right (And.right (And.right (And.right (And.right (And.right (And.right (by with_reducible assumption))))))))))))))) | exact And.right (by with_reducible assumption) | exact And.right (And.right (by with_reducible assumption)) | exact And.right (And.right (And.right (by with_reducible assumption))) | exact And.right (And.right (And.right (And.right (by with_reducible assumption)))) | exact And.right (And.right (And.right (And.right (And.right (by with_reducible assumption))))) | exact And.right (And.right (And.right (And.right (And.right (And.right (by with_reducible assumption)))))) | exact And.right (And.right (And.right (And.right (And.right (And.right (And.right (by with_reducible assumption))))))) | exact And.right (And.right (And.right (And.right (And.right (And.right (And.right (And.right (by with_reducible assumption)))))))) | exact And.right (And.right (And.right (And.right (And.right (And.right (And.right (And.right (And.right (by with_reducible assumption))))))))) | exact And.right (And.right (And.right (And.right (And.right (And.right (And.right (And.right (And.right (And.right (by with_reducible assumption)))))))))) | exact And.right (And.right (And.right (And.right (And.right (And.right (And.right (And.right (And.right (And.right (And.right (by with_reducible assumption))))))))))) | exact And.right (And.right (And.right (And.right (And.right (And.right (And.right (And.right (And.right (And.right (And.right (And.right (by with_reducible assumption)))))))))))) | exact And.right (And.right (And.right (And.right (And.right (And.right (And.right (And.right (And.right (And.right (And.right (And.right (And.right (by with_reducible assumption))))))))))))) | exact And.right (And.right (And.right (And.right (And.right (And.right (And.right (And.right (And.right (And.right (And.right (And.right (And.right (And.right (by with_reducible assumption))))))))))))))
  k_with "lt0" => first | with_reducible assumption | exact Nat.lt_trans (by with_reducible assumption) (by k_extra "lt0")
  k_with "lt" => first | k_extra "in" | exact Nat.lt_trans (by k_extra "in") (by k_extra "lt")
  k_with "ne0" => first | with_reducible assumption | exact Ne.symm (by with_reducible assumption) | exact Nat.succ_ne_self _ | exact Ne.symm (Nat.succ_ne_self _) | (refine Nat.ne_of_lt ?_; k_extra "lt0") | (refine Nat.ne_of_gt ?_; k_extra "lt0")
  k_with "ne1" => first | k_extra "in" | (refine Ne.symm ?_; k_extra "in") | (refine Nat.ne_of_lt ?_; k_extra "lt") | (refine Nat.ne_of_gt ?_; k_extra "lt")
  k_with "ne2" => first | (refine Nat.ne_of_lt ?_; k_extra "lt0") | (refine Nat.ne_of_gt ?_; k_extra "lt0") | (refine Nat.ne_of_lt (And.left (by with_reducible assumption)))  | (refine Nat.ne_of_gt (And.left (by with_reducible assumption))) | (refine Nat.ne_of_lt (Nat.lt_trans (And.right (by with_reducible assumption)) ?_); k_extra "lt0") | (refine Nat.ne_of_lt (And.right (by with_reducible assumption))) | (refine Nat.ne_of_gt (Nat.lt_trans ?_ (And.left (by with_reducible assumption))); k_extra "lt0")
  k_with "ne" => first | k_extra "ne0" | (refine Or.elim (by with_reducible assumption : @LT.lt Nat _ _ _ ∨ @LT.lt Nat _ _ _ ∧ @LT.lt Nat _ _ _) (fun q9 => ?_) (fun q9 => ?_); (all_goals k_extra "ne2")) | k_extra "ne1"
  k_with "ifs" => first | with_reducible rfl | exact Eq.trans (if_neg (by assumption)) (by k_extra "ifs")
  k_with "up" => first | exact up2 (by with_reducible assumption) rfl | exact up1 (by with_reducible assumption) rfl | exact up3 (by with_reducible assumption) rfl | exact up4 (by with_reducible assumption) rfl | exact up5 (by with_reducible assumption) rfl
  k_with "om" => first | with_reducible assumption | exact Nat.succ_pos _ | (with_reducible show @LT.lt Nat _ _ _; (try dsimp only); first | k_extra "lt0" | k_extra "up" | k_extra "lt") | (with_reducible show @Ne Nat _ _; k_extra "ne") | (with_reducible show @LT.lt Nat _ _ _ ∧ @LT.lt Nat _ _ _; refine And.intro ?_ ?_ <;> k_extra "om") | (with_reducible show @Eq Nat _ _; first | exact Nat.add_sub_add_right 6 1 _ | exact (Nat.add_sub_add_right 6 1 _).symm | exact Nat.succ_sub (by omega) | exact (Nat.succ_sub (by omega)).symm | exact Nat.sub_sub_self (by omega)) | omega
  k_with "k_room" => first | k_extra "up" | ((try simp only [depth_under_make, depth_under_kw, depth_in1, depth_deeper, depth_caller]); omega)
  k_with "tb_start" => first | assumption | omega | (simp only [List.length_cons, List.length_nil, List.length_append]; omega)
  k_with "tb_rel" => repeat' (first | exact List.forall_mem_nil _ | refine List.forall_mem_cons.mpr ⟨by first | exact Or.inr (by k_mem) | exact Or.inl (by simp), ?_⟩)
  k_with "k_units" => first | k_extra "up" | ((try simp only [units_in1, units_deeper, Around.mark_units, units_caller]); omega)
  k_with "call type:list" => (k_here; (with_reducible show wpAny _ _ (call (Value.type "list") [Value.str _ _]) _ _ _); k_dflt (refine' list_strN ?h ?F ?N ?z ?_; (case h => rfl); (case F => k_asm); (case N => k_asm); (case z => exact Nat.le_trans (by assumption) (Nat.le_of_ble_eq_true rfl)); k_whole); intro l₉ h₉ tk₉ vs₉ k₉ F₉ N₉ l1₉ hc₉; (try k_lt l1₉); (try k_sweep))
  k_with "truthy ref" => (k_here; k_dflt (refine' truthy_ls ?N ?m ?z ?_; (case N => k_asm); (case m => k_mem); (case z => tb_start)); (intro tk₉; (try dsimp only [List.isEmpty_cons, List.isEmpty_nil, Bool.not_false, Bool.not_true])))
  k_with "call builtin:list.pop" => (k_here; (with_reducible show wpAny _ _ (call (Value.builtin "list.pop") [Value.ref _, Value.int 0 _]) _ _ _); k_dflt (refine' pop0_N ?F ?N ?U ?z ?_; (case F => k_asm); (case N => k_asm); (case U => k_upd); (case z => tb_start)); (intro h₉ F₉ N₉; (try k_sweep)))
  exact True.intro
section
variable {prog : Program} {w : World} {A : Around} {E : Value → Shared → Prop} {s : Shared}
theorem whileLoop_step {R : Result → Shared → Prop} {test : PySem.Expr} {body orelse : List Stmt} {env : Env}
    (h : wpAny (model prog w) A (isTrue test env (eval test env)) (fun b s₂ =>
        if b = true then wpAny (model prog w) A (execs body env) (fun f s₃ => match f with
            | .next | .cont => codeAny (model prog w) A (.whileLoop test body orelse env) R s₃
            | .brk => R (.ok .next) s₃
            | .ret v => R (.ok (.ret v)) s₃) (notedBy (model prog w) A env fun e s' => R (.error e) s') s₂
        else wpAny (model prog w) A (execs orelse env) (fun f s₃ => R (.ok f) s₃) (notedBy (model prog w) A env fun e s' => R (.error e) s') s₂)
        (notedBy (model prog w) A env fun e s' => R (.error e) s') s) : codeAny (model prog w) A (.whileLoop test body orelse env) R s := by
  refine codeAny_of_tree ?_
  show wpAny _ A ((whileTurn test body orelse env).onRaise (fun x => do noteFrame x env; theTreesLotGoes x)) _ _ s
  refine wpAny_noted ?_
  simp only [whileTurn]
  refine wpAny_bind (wpAny_mono h (fun b s₂ h₂ => ?_) fun _ _ h' => h')
  cases b with
  | false =>
    simp only [Bool.false_eq_true, if_false] at h₂ ⊢
    exact wpAny_bind (wpAny_mono h₂ (fun f s₃ h₃ => wpAny_pure h₃) fun _ _ h' => h')
  | true =>
    simp only [if_true] at h₂ ⊢
    refine wpAny_bind (wpAny_mono h₂ (fun f s₃ h₃ => ?_) fun _ _ h' => h')
    cases f with
    | next => exact wpAny_pure ⟨rfl, h₃⟩
    | cont => exact wpAny_pure ⟨rfl, h₃⟩
    | brk => exact wpAny_pure h₃
    | ret v => exact wpAny_pure h₃
theorem item_chr {value slice : PySem.Expr} {x : Str} {t u : Tok} {i : Int} {c k : Nat} {Q : Value → Shared → Prop} (hi : i = (k : Int)) (hc : x.cps.toList[k]? = some c) (hsz : x.length ≤ 1000) (h : ∀ t' tk', Q (.str ⟨#[c]⟩ t') { s with toks := tk' })
    (hs : subscripted slice false (.str x t) (.int i u) = operate [.str x t, .int i u] (getItem (.str x t) (.int i u)) := by with_unfolding_all rfl)
    (ht : ∀ r, letTemporaryGo value (.str x t) r = pure () := by intro _; with_unfolding_all rfl) : wpAny (model prog w) A (subscriptTail value slice (.str x t) (.int i u)) Q E s := by
  have hk : k < x.length := by
    have := List.getElem?_eq_some_iff.mp hc
    obtain ⟨q, _⟩ := this
    exact (by simpa using q : k < x.cps.size)
  refine PyProof.Rows.item_str ?_ ?_ ?_ (fun _ => ?_) hs ht
  · subst hi; exact PyProof.Rows.fitsSsize_of (N := 9223372036854775808) (by k_extra "om") (by k_extra "om") (Int.le_refl _)
  · subst hi; omega
  · subst hi; omega
  · have e : Txt.item x i = ⟨#[c]⟩ := by
      unfold Txt.item Txt.charAt
      have h1 : seqIndex? i x.length = some k := by
        subst hi
        unfold seqIndex?
        simp
        omega
      rw [h1]
      have h2 : x.cps[k]? = some c := by rw [← hc]; simp
      show (⟨#[(x.cps[k]?).getD 0]⟩ : Str) = _
      rw [h2]; rfl
    rw [e]; exact h _ _
end
/-- what parse257 makes of the text behind the first quote -/
noncomputable def dirn : List Nat → List Nat → List Nat
  | acc, [] => acc
  | acc, [c] => if c = 34 then acc else acc ++ [c]
  | acc, c :: d :: r => if c = 34 then (if d = 34 then dirn (acc ++ [34]) r else acc) else dirn (acc ++ [c]) (d :: r)
noncomputable abbrev mP (m0 : Str → Option Value) (vc : Option Value) (acc : List Nat) (k : Nat) (ta ti : Tok) : Str → Option Value :=
  fun y => if y = Str.ofString "c" then vc else if y = Str.ofString "i" then some (.int (k : Int) ti) else if y = Str.ofString "dirname" then some (.str ⟨acc.toArray⟩ ta) else m0 y
theorem fr_mP {g h : Heap} {L : Addr} {M m0 : Str → Option Value} {ta ti : Tok} {acc : List Nat} {k : Nat} {i : Int} {z : Str} (F : Fr g L h M) (hi : M (Str.ofString "i") = some (.int i ti)) (hik : i = (k : Int)) (ht : M (Str.ofString "dirname") = some (.str z ta)) (hz : z = ⟨acc.toArray⟩)
    (hr : ∀ y, y ≠ Str.ofString "c" → y ≠ Str.ofString "i" → y ≠ Str.ofString "dirname" → M y = m0 y) : Fr g L h (mP m0 (M (Str.ofString "c")) acc k ta ti) :=
  fr_congr F fun y => by
    subst hz; subst hik
    by_cases h1 : y = Str.ofString "c"
    · subst h1; simp only [mP, if_pos]
    · by_cases h2 : y = Str.ofString "i"
      · simp only [mP, if_neg h1, if_pos h2]; subst h2; exact hi
      · by_cases h3 : y = Str.ofString "dirname"
        · simp only [mP, if_neg h1, if_neg h2, if_pos h3]; subst h3; exact ht
        · simp only [mP, if_neg h1, if_neg h2, if_neg h3]; exact hr y h1 h2 h3
theorem loopP {w : World} {dp un : Nat} {gd : Option (List Code)} {outs : List Env} {g : Heap} {R : Result → Shared → Prop}
  {cn : Str} {sc : Scope} {L a : Addr} {cd : Value} {m0 : Str → Option Value} {test : PySem.Expr} {body : List Stmt} {s₀ : Shared} {resp : Str}
    (tEnd : ∀ acc k ta ti vc h tk (Nx Dn : Shared → Prop) (Rt : Value → Shared → Prop) (Fi : Flow → Shared → Prop) E, k = resp.length → Fr g L h (mP m0 vc acc k ta ti) →
      (∀ vc ta ti h' tk', Fr g L h' (mP m0 vc acc k ta ti) → Fi .next { s₀ with heap := h', toks := tk' }) → wpAny (model PySem.Challenge.rw_wn0047_01.row.prog w) (AT dp un gd (envOf cn sc L a cd :: outs)) (isTrue test (envOf cn sc L a cd) (eval test (envOf cn sc L a cd))) (fun b s₂ => if b = true then wpAny (model PySem.Challenge.rw_wn0047_01.row.prog w) (AT dp un gd (envOf cn sc L a cd :: outs)) (execs body (envOf cn sc L a cd)) (fun f s₃ => match f with | .next | .cont => Nx s₃ | .brk => Dn s₃ | .ret v => Rt v s₃) E s₂ else wpAny (model PySem.Challenge.rw_wn0047_01.row.prog w) (AT dp un gd (envOf cn sc L a cd :: outs)) (execs [] (envOf cn sc L a cd)) (fun f s₃ => Fi f s₃) E s₂) E { s₀ with heap := h, toks := tk })
    (tOne : ∀ c acc k ta ti vc h tk (Nx Dn : Shared → Prop) (Rt : Value → Shared → Prop) (Fi : Flow → Shared → Prop) E, c ≠ 34 → k < resp.length → resp.cps.toList[k]? = some c → acc.length ≤ 1000 → Fr g L h (mP m0 vc acc k ta ti) →
      (∀ vc ta ti h' tk', Fr g L h' (mP m0 vc (acc ++ [c]) (k + 1) ta ti) → Nx { s₀ with heap := h', toks := tk' }) → wpAny (model PySem.Challenge.rw_wn0047_01.row.prog w) (AT dp un gd (envOf cn sc L a cd :: outs)) (isTrue test (envOf cn sc L a cd) (eval test (envOf cn sc L a cd))) (fun b s₂ => if b = true then wpAny (model PySem.Challenge.rw_wn0047_01.row.prog w) (AT dp un gd (envOf cn sc L a cd :: outs)) (execs body (envOf cn sc L a cd)) (fun f s₃ => match f with | .next | .cont => Nx s₃ | .brk => Dn s₃ | .ret v => Rt v s₃) E s₂ else wpAny (model PySem.Challenge.rw_wn0047_01.row.prog w) (AT dp un gd (envOf cn sc L a cd :: outs)) (execs [] (envOf cn sc L a cd)) (fun f s₃ => Fi f s₃) E s₂) E { s₀ with heap := h, toks := tk })
    (tTwo : ∀ acc k ta ti vc h tk (Nx Dn : Shared → Prop) (Rt : Value → Shared → Prop) (Fi : Flow → Shared → Prop) E, k + 1 < resp.length → resp.cps.toList[k]? = some 34 → resp.cps.toList[k + 1]? = some 34 → acc.length ≤ 1000 → Fr g L h (mP m0 vc acc k ta ti) →
      (∀ vc ta ti h' tk', Fr g L h' (mP m0 vc (acc ++ [34]) (k + 2) ta ti) → Nx { s₀ with heap := h', toks := tk' }) → wpAny (model PySem.Challenge.rw_wn0047_01.row.prog w) (AT dp un gd (envOf cn sc L a cd :: outs)) (isTrue test (envOf cn sc L a cd) (eval test (envOf cn sc L a cd))) (fun b s₂ => if b = true then wpAny (model PySem.Challenge.rw_wn0047_01.row.prog w) (AT dp un gd (envOf cn sc L a cd :: outs)) (execs body (envOf cn sc L a cd)) (fun f s₃ => match f with | .next | .cont => Nx s₃ | .brk => Dn s₃ | .ret v => Rt v s₃) E s₂ else wpAny (model PySem.Challenge.rw_wn0047_01.row.prog w) (AT dp un gd (envOf cn sc L a cd :: outs)) (execs [] (envOf cn sc L a cd)) (fun f s₃ => Fi f s₃) E s₂) E { s₀ with heap := h, toks := tk })
    (tBrk : ∀ d acc k ta ti vc h tk (Nx Dn : Shared → Prop) (Rt : Value → Shared → Prop) (Fi : Flow → Shared → Prop) E, k + 1 < resp.length → resp.cps.toList[k]? = some 34 → resp.cps.toList[k + 1]? = some d → d ≠ 34 → Fr g L h (mP m0 vc acc k ta ti) →
      (∀ vc k ta ti h' tk', Fr g L h' (mP m0 vc acc k ta ti) → Dn { s₀ with heap := h', toks := tk' }) → wpAny (model PySem.Challenge.rw_wn0047_01.row.prog w) (AT dp un gd (envOf cn sc L a cd :: outs)) (isTrue test (envOf cn sc L a cd) (eval test (envOf cn sc L a cd))) (fun b s₂ => if b = true then wpAny (model PySem.Challenge.rw_wn0047_01.row.prog w) (AT dp un gd (envOf cn sc L a cd :: outs)) (execs body (envOf cn sc L a cd)) (fun f s₃ => match f with | .next | .cont => Nx s₃ | .brk => Dn s₃ | .ret v => Rt v s₃) E s₂ else wpAny (model PySem.Challenge.rw_wn0047_01.row.prog w) (AT dp un gd (envOf cn sc L a cd :: outs)) (execs [] (envOf cn sc L a cd)) (fun f s₃ => Fi f s₃) E s₂) E { s₀ with heap := h, toks := tk })
    (tBrk2 : ∀ acc k ta ti vc h tk (Nx Dn : Shared → Prop) (Rt : Value → Shared → Prop) (Fi : Flow → Shared → Prop) E, k + 1 = resp.length → resp.cps.toList[k]? = some 34 → Fr g L h (mP m0 vc acc k ta ti) →
      (∀ vc k ta ti h' tk', Fr g L h' (mP m0 vc acc k ta ti) → Dn { s₀ with heap := h', toks := tk' }) → wpAny (model PySem.Challenge.rw_wn0047_01.row.prog w) (AT dp un gd (envOf cn sc L a cd :: outs)) (isTrue test (envOf cn sc L a cd) (eval test (envOf cn sc L a cd))) (fun b s₂ => if b = true then wpAny (model PySem.Challenge.rw_wn0047_01.row.prog w) (AT dp un gd (envOf cn sc L a cd :: outs)) (execs body (envOf cn sc L a cd)) (fun f s₃ => match f with | .next | .cont => Nx s₃ | .brk => Dn s₃ | .ret v => Rt v s₃) E s₂ else wpAny (model PySem.Challenge.rw_wn0047_01.row.prog w) (AT dp un gd (envOf cn sc L a cd :: outs)) (execs [] (envOf cn sc L a cd)) (fun f s₃ => Fi f s₃) E s₂) E { s₀ with heap := h, toks := tk })
    {out : List Nat} (hR : ∀ vc k ta ti h tk, Fr g L h (mP m0 vc out k ta ti) → R (.ok .next) { s₀ with heap := h, toks := tk }) (hsz : resp.length ≤ 500) :
    ∀ (n : Nat) (rem acc : List Nat) (k : Nat) vc ta ti h tk, rem.length ≤ n → resp.cps.toList.drop k = rem → dirn acc rem = out → k ≤ resp.length → acc.length + rem.length ≤ 1000 → Fr g L h (mP m0 vc acc k ta ti) →
      codeAny (model PySem.Challenge.rw_wn0047_01.row.prog w) (AT dp un gd (envOf cn sc L a cd :: outs)) (.whileLoop test body [] (envOf cn sc L a cd)) R { s₀ with heap := h, toks := tk } := by
  have drop1 : ∀ {k : Nat} {c : Nat} {r : List Nat}, resp.cps.toList.drop k = c :: r → resp.cps.toList[k]? = some c ∧ k < resp.length ∧ resp.cps.toList.drop (k + 1) = r := fun {k c r} e => by
    have h1 : (resp.cps.toList.drop k)[0]? = some c := by rw [e]; rfl
    have h2 : resp.cps.toList[k]? = some c := by simpa using h1
    refine ⟨h2, ?_, ?_⟩
    · obtain ⟨q, _⟩ := List.getElem?_eq_some_iff.mp h2
      exact (by simpa using q : k < resp.cps.size)
    · rw [← List.drop_drop, e]; rfl
  intro n
  induction n with
  | zero =>
    intro rem acc k vc ta ti h tk hn hd ho hk hl F
    have hr : rem = [] := List.length_eq_zero_iff.mp (Nat.le_zero.mp hn)
    subst hr
    have hke : k = resp.length := by
      have := List.drop_eq_nil_iff.mp hd
      simp at this
      have q : resp.length = resp.cps.size := rfl
      omega
    refine whileLoop_step (tEnd acc k ta ti vc h tk _ _ _ _ _ hke F fun vc' ta' ti' h' tk' F' => hR vc' k ta' ti' h' tk' ?_)
    have : out = acc := by rw [← ho]; simp [dirn]
    rw [this]; exact F'
  | succ n ih =>
    intro rem acc k vc ta ti h tk hn hd ho hk hl F
    cases rem with
    | nil =>
      have hke : k = resp.length := by
        have := List.drop_eq_nil_iff.mp hd
        simp at this
        have q : resp.length = resp.cps.size := rfl
        omega
      refine whileLoop_step (tEnd acc k ta ti vc h tk _ _ _ _ _ hke F fun vc' ta' ti' h' tk' F' => hR vc' k ta' ti' h' tk' ?_)
      have : out = acc := by rw [← ho]; simp [dirn]
      rw [this]; exact F'
    | cons c r =>
      obtain ⟨hc, hlt, hd1⟩ := drop1 hd
      simp only [List.length_cons] at hn hl
      by_cases h34 : c = 34
      · subst h34
        cases r with
        | nil =>
          have hke : k + 1 = resp.length := by
            have := List.drop_eq_nil_iff.mp hd1
            simp at this
            have q : resp.length = resp.cps.size := rfl
            omega
          refine whileLoop_step (tBrk2 acc k ta ti vc h tk _ _ _ _ _ hke hc F fun vc' k' ta' ti' h' tk' F' => hR vc' k' ta' ti' h' tk' ?_)
          have : out = acc := by rw [← ho]; simp [dirn]
          rw [this]; exact F'
        | cons d r =>
          obtain ⟨hc2, hlt2, hd2⟩ := drop1 hd1
          simp only [List.length_cons] at hn hl
          by_cases h2 : d = 34
          · subst h2
            refine whileLoop_step (tTwo acc k ta ti vc h tk _ _ _ _ _ hlt2 hc hc2 (by k_extra "om") F fun vc' ta' ti' h' tk' F' => ?_)
            exact ih r (acc ++ [34]) (k + 2) vc' ta' ti' h' tk' (by k_extra "om") hd2 (by rw [← ho]; simp [dirn]) (by k_extra "om") (by simp only [List.length_append, List.length_cons, List.length_nil]; omega) F'
          · refine whileLoop_step (tBrk d acc k ta ti vc h tk _ _ _ _ _ hlt2 hc hc2 h2 F fun vc' k' ta' ti' h' tk' F' => hR vc' k' ta' ti' h' tk' ?_)
            have : out = acc := by rw [← ho]; simp [dirn, h2]
            rw [this]; exact F'
      · refine whileLoop_step (tOne c acc k ta ti vc h tk _ _ _ _ _ h34 hlt hc (by k_extra "om") F fun vc' ta' ti' h' tk' F' => ?_)
        refine ih r (acc ++ [c]) (k + 1) vc' ta' ti' h' tk' (by k_extra "om") hd1 ?_ (by k_extra "om") (by simp only [List.length_append, List.length_cons, List.length_nil]; omega) F'
        rw [← ho]
        cases r with
        | nil => simp [dirn, h34]
        | cons d r => simp [dirn, h34]
-- Lib11
/-- all stands but what lies at these addresses; the frames' slots may be others -/
noncomputable def KeepsT (fs as : List Addr) (h h' : Heap) : Prop := ∀ b o, b ∉ as → h.get? b = some o → (b ∉ fs → h'.get? b = some o) ∧ ∃ sl, h'.get? b = some { o with slots := sl }
theorem Keeps.toT {fs as : List Addr} {h h' : Heap} (k : Keeps as h h') : KeepsT fs as h h' := fun b o hb e => ⟨fun _ => k b o hb e, o.slots, k b o hb e⟩
theorem KeepsT.mono {fs as bs : List Addr} {h h' : Heap} (x : KeepsT fs as h h') (hs : ∀ a ∈ as, a ∈ bs) : KeepsT fs bs h h' := fun b o hb e => x b o (fun q => hb (hs b q)) e
theorem keepsT_as {fs : List Addr} {g g' h h' h₀ : Heap} {L : Addr} {m : Str → Option Value} {own news' : List (Addr × Obj)} {as : List Addr} (hg : g = hideAll h (own.map (·.1))) (N : Own h₀ h own) (T : KtsTurn fs g g') (F : Fr g' L h' m) (N' : News g' L h' news')
    (hs : ∀ p ∈ own, p.1 ∈ as ∨ p ∈ news') : KeepsT fs as h h' := by
  subst hg
  intro b o hb e
  by_cases hm : b ∈ own.map (·.1)
  · obtain ⟨p, hp, rfl⟩ := List.mem_map.mp hm
    rcases hs p hp with q | q
    · exact absurd q hb
    · have := (N p hp).1
      rw [e] at this; cases this
      exact ⟨fun _ => (N' p q).1, _, (N' p q).1⟩
  · have e' := hideAll_get _ e hm
    refine ⟨fun nm => F.keep b o (T.other b o e' nm), ?_⟩
    obtain ⟨sl, hs⟩ := T.up e'
    exact ⟨sl, F.keep b _ hs⟩
theorem frame_mem {env : Env} {L b : Addr} {outer : List Env} (hf : env.frame = some L) (hm : b ∈ (env :: outer).filterMap (·.frame)) : b = L ∨ b ∈ outer.filterMap (·.frame) := by
  obtain ⟨e', he, hf'⟩ := List.mem_filterMap.mp hm
  rcases List.mem_cons.mp he with rfl | he
  · rw [hf] at hf'; exact .inl (Option.some.inj hf').symm
  · exact .inr (List.mem_filterMap.mpr ⟨e', he, hf'⟩)
theorem frame_tail {env : Env} {b : Addr} {outer : List Env} (hm : b ∈ outer.filterMap (·.frame)) : b ∈ (env :: outer).filterMap (·.frame) := by
  obtain ⟨e', he, hf'⟩ := List.mem_filterMap.mp hm
  exact List.mem_filterMap.mpr ⟨e', .tail _ he, hf'⟩
/-- a call that turned the frames' slots, seen by its caller -/
theorem turn_ground {A₀ : Around} {base g h h' : Heap} {env : Env} {L : Addr} {outer : List Env} {m : Str → Option Value} {as : List Addr} (hf : env.frame = some L) (K : Below A₀ base outer g) (F : Fr g L h m)
    (k : KeepsT ((env :: outer).filterMap (·.frame)) as h h') (has : ∀ a ∈ as, a ≠ L ∧ g.get? a = none) :
    ∃ g', KtsTurn (outer.filterMap (·.frame)) g g' ∧ Fr g' L h' m ∧ Below A₀ base outer g' := by
  have nas : ∀ b o, g.get? b = some o → b ∉ as := fun b o e q => by have := (has b q).2; rw [e] at this; cases this
  obtain ⟨T, S⟩ := kts_turn_at (h := h') (fs := outer.filterMap (·.frame)) (g := g)
    (fun b hb => by
      obtain ⟨_, o, ho, _⟩ := K.frames.mem hb
      exact ⟨o, ho⟩)
    (fun b o e nm => (k b o (nas b o e) (F.keep b o e)).1 (fun hm => by
      rcases frame_mem hf hm with z | z
      · rw [z, kts_self F] at e
        cases e
      · exact nm z))
    (fun b o e hm => (k b o (nas b o e) (F.keep b o e)).2)
  refine ⟨_, T, ⟨?_, S, by rw [T.size]; exact F.above⟩, ⟨K.stack, fun b o e => T.other b o (K.stays b o e) (fun hm => by
    rw [(K.frames.mem hm).1] at e
    cases e), K.frames.of_keeps fun b o e _ => ?_⟩⟩
  · obtain ⟨o, es, ep, ho, hd, h1, h2⟩ := F.ns
    obtain ⟨sl, hs⟩ := (k L o (fun q => (has L q).1 rfl) ho).2
    exact ⟨_, es, ep, hs, hd, h1, h2⟩
  · obtain ⟨sl, hs⟩ := T.up e
    exact ⟨_, hs, rfl⟩
/-- what is no frame's, behind such a call -/
theorem turn_get {A₀ : Around} {base g h h' : Heap} {env : Env} {L a : Addr} {o : Obj} {outer : List Env} {as : List Addr} (hf : env.frame = some L) (K : Below A₀ base outer g) (k : KeepsT ((env :: outer).filterMap (·.frame)) as h h')
    (hL : a ≠ L) (hg : g.get? a = none) (ha : a ∉ as) (e : h.get? a = some o) : h'.get? a = some o := (k a o ha e).1 fun hm => by
  rcases frame_mem hf hm with z | z
  · exact hL z
  · obtain ⟨_, o', ho', _⟩ := K.frames.mem z
    rw [hg] at ho'; cases ho'
theorem turn_news {A₀ : Around} {base g g' h h' : Heap} {env : Env} {L : Addr} {outer : List Env} {news : List (Addr × Obj)} {fs : List Addr} (hf : env.frame = some L) (K : Below A₀ base outer g) (N : News g L h news) (k : KeepsT ((env :: outer).filterMap (·.frame)) [] h h')
    (T : KtsTurn fs g g') : News g' L h' news := fun p hp => ⟨turn_get hf K k (N p hp).2.1 (N p hp).2.2 (fun q => nomatch q) (N p hp).1, (N p hp).2.1, T.none_ _ (N p hp).2.2⟩
/-- the frames' dicts, for a callee -/
theorem dicts_push {A₀ : Around} {base g h : Heap} {env : Env} {L : Addr} {outer : List Env} {m : Str → Option Value} {news : List (Addr × Obj)} (hf : env.frame = some L) (K : Below A₀ base outer g) (F : Fr g L h m) (N : News g L h news) (D : KtsDicts (outer.filterMap (·.frame)) g) :
    KtsDicts ((env :: outer).filterMap (·.frame)) (hideAll h (news.map (·.1))) := fun b hb => by
  rcases frame_mem hf hb with z | z
  · subst z
    obtain ⟨o, es, ep, ho, hd, -⟩ := F.ns
    exact ⟨o, es, ep, hideAll_get _ ho (fun q => by obtain ⟨p, hp, e⟩ := List.mem_map.mp q; exact (N p hp).2.1 e), hd⟩
  · obtain ⟨o, es, n, ho, hd⟩ := D b z
    exact ⟨o, es, n, hideAll_get _ (F.keep _ _ ho) (fun q => by obtain ⟨p, hp, e⟩ := List.mem_map.mp q; have := (N p hp).2.2; rw [e, ho] at this; cases this), hd⟩
theorem call_ownD {M : Model} {c : Code} {R : Result → Shared → Prop} {A A₀ : Around} {s : Shared} {base h₀ : Heap} {outer : List Env} {L : Addr} {m : Str → Option Value} {env : Env} {news : List (Addr × Obj)} {K : Frag} {mg mb : Str → Option Value} {p : Program} {loose : List Str} {mean : ExcName → Option Value}
    (B : Below A₀ base outer h₀) (F : Fr h₀ L s.heap m) (X : K.In h₀) (T : Top p loose mean mg mb h₀) (N : News h₀ L s.heap news) (D : KtsDicts (outer.filterMap (·.frame)) h₀) (hA : A.frames = some (env :: outer)) (hf : env.frame = some L) (hke : env.scope.kind = .function)
    (h : ∀ h₁, Below A base (env :: outer) h₁ → K.In h₁ → Top p loose mean mg mb h₁ → h₁.StaysIn s.heap → Own h₁ s.heap news → KtsDicts ((env :: outer).filterMap (·.frame)) h₁ → codeAny M A c R s) : codeAny M A c R s := by
  have D' := dicts_push hf B F N D
  obtain ⟨FG, BG, st, -⟩ := groundX (R := fun _ _ => True) B F N hA hf hke
  exact h _ BG (X.keeps st) (T.keeps st) (fun b o e => of_hideAll _ e) (fun p hp => ⟨(N p hp).1, hideAll_none _ (List.mem_map_of_mem hp)⟩) D'
theorem dicts_own {A : Around} {base h₀ h : Heap} {outs : List Env} {own : List (Addr × Obj)} (B : Below A base outs h₀) (st : h₀.StaysIn h) (N : Own h₀ h own) (D : KtsDicts (outs.filterMap (·.frame)) h₀) : KtsDicts (outs.filterMap (·.frame)) (hideAll h (own.map (·.1))) := fun b m => by
  obtain ⟨o, es, n, ho, hd⟩ := D b m
  exact ⟨o, es, n, (own_hide B st N).1 _ _ ho, hd⟩
-- Lib12
noncomputable abbrev riO (x left : Int) : Obj := { cls := .type "range_iterator", dict := none, data := .fields #[rawInt x, rawInt left, rawInt 1], slots := #[] }
noncomputable abbrev Names := Str → Option Value
noncomputable abbrev Led := List (Addr × Obj)
theorem led_tail {g h : Heap} {L : Addr} {p : Addr × Obj} {news : Led} (N : News g L h (p :: news)) : News g L h news := fun q hq => N q (.tail _ hq)
theorem led_turn {g h h' : Heap} {L a : Addr} {o o' : Obj} {news : Led} {m : Names} (F : Fr g L h m) (N : News g L h ((a, o) :: news)) (hne : ∀ p ∈ news, p.1 ≠ a) (hs : Heap.SameBut a h h') (ho : h'.get? a = some o') : Fr g L h' m ∧ News g L h' ((a, o') :: news) :=
  ⟨F.change hs (N _ (.head _)).2.1 (N _ (.head _)).2.2, news_set (pre := []) N (fun _ q => nomatch q) hne hs ho⟩
theorem led_ext {g h h' : Heap} {L a : Addr} {o : Obj} {news : Led} {m : Names} (F : Fr g L h m) (N : News g L h ((a, o) :: news)) (hne : ∀ p ∈ news, p.1 ≠ a) (hs : Heap.ExtBut a h h') : Fr g L h' m ∧ News g L h' news := by
  have na := N _ (.head _)
  refine ⟨⟨F.ns.at' fun o e => hs _ _ (fun q => na.2.1 q.symm) e, fun b x e => hs _ _ (fun q => ?_) (F.keep b x e), F.above⟩, fun q hq => ⟨hs _ _ (hne q hq) (N q (.tail _ hq)).1, (N q (.tail _ hq)).2⟩⟩
  subst q
  rw [na.2.2] at e; cases e
section
variable {prog : Program} {w : World} {A : Around} {s₀ : Shared} {env : Env} {x : Str} {px : Pos} {body : List Stmt} {I L : Addr} {R : Result → Shared → Prop}
/-- a loop over a range, by an invariant -/
theorem forRng {Inv : Heap → Nat → Names → Led → Prop} {n : Nat} (hh : A.handled = none)
    (turn : ∀ i g m news h tk (Nx Dn : Shared → Prop) (Rt : Value → Shared → Prop) (E : Value → Shared → Prop), i < n → Inv g i m news → (∀ p ∈ news, p.1 ≠ I) → Fr g L h m → News g L h ((I, riO ((i : Int) + 1) ((n : Int) - i - 1)) :: news) →
      (∀ g' m' news' h' tk', Inv g' (i + 1) m' news' → (∀ p ∈ news', p.1 ≠ I) → Fr g' L h' m' → News g' L h' ((I, riO ((i : Int) + 1) ((n : Int) - i - 1)) :: news') → Nx { s₀ with heap := h', toks := tk' }) →
      wpAny (model prog w) A (storeName env x (.int i tk)) (fun _ s₂ => wpAny (model prog w) A (execs body env) (fun f s₃ => match f with | .next | .cont => Nx s₃ | .brk => Dn s₃ | .ret v => Rt v s₃) E s₂) E { s₀ with heap := h, toks := tk + 1 })
    (fin : ∀ g m news h tk, Inv g n m news → Fr g L h m → News g L h news → R (.ok .next) { s₀ with heap := h, toks := tk }) :
    ∀ k i g m news h tk, i + k = n → Inv g i m news → (∀ p ∈ news, p.1 ≠ I) → Fr g L h m → News g L h ((I, riO i ((n : Int) - i)) :: news) →
      codeAny (model prog w) A (.forLoop (.Name x px) (.ref I) body [] env) R { s₀ with heap := h, toks := tk } := by
  intro k
  induction k with
  | zero =>
    intro i g m news h tk hk hI hne F N
    have hi : i = n := by k_extra "om"
    subst hi
    refine forLoop_step (wpAny_pyNext_range_end hh (N _ (.head _)).1 (by k_extra "om") fun h' he => ?_)
    obtain ⟨F', N'⟩ := led_ext F N hne he
    exact wpAny_execs_nil (fin _ _ _ _ _ hI F' N')
  | succ k ih =>
    intro i g m news h tk hk hI hne F N
    refine forLoop_step (wpAny_pyNext_range_item (N _ (.head _)).1 (by k_extra "om") fun h' he hs => ?_)
    obtain ⟨F', N'⟩ := led_turn F N hne hs he
    refine turn i g m news h' tk _ _ _ _ (by k_extra "om") hI hne F' N' fun g' m' news' h'' tk' hI' hne' F'' N'' => ?_
    refine ih (i + 1) g' m' news' h'' tk' (by k_extra "om") hI' hne' F'' ?_
    have e1 : (((i + 1 : Nat) : Int)) = (i : Int) + 1 := by k_extra "om"
    have e2 : (n : Int) - ((i + 1 : Nat) : Int) = (n : Int) - i - 1 := by k_extra "om"
    rw [e2, e1]
    exact N''
/-- a loop over a list, by an invariant -/
theorem forLst {Inv : Heap → Nat → Names → Led → Prop} {vs : List Value} {la : Addr} (hh : A.handled = none)
    (there : ∀ i g m news h, Inv g i m news → Fr g L h m → News g L h news → h.IsList la vs.toArray)
    (turn : ∀ i v g m news h tk o (Nx Dn : Shared → Prop) (Rt : Value → Shared → Prop) (E : Value → Shared → Prop), vs[i]? = some v → Inv g i m news → (∀ p ∈ news, p.1 ≠ I) → Fr g L h m → News g L h ((I, o) :: news) →
      (∀ g' m' news' h' tk', Inv g' (i + 1) m' news' → (∀ p ∈ news', p.1 ≠ I) → Fr g' L h' m' → News g' L h' ((I, o) :: news') → Nx { s₀ with heap := h', toks := tk' }) →
      (∀ g' m' news' h' tk', Inv g' vs.length m' news' → Fr g' L h' m' → News g' L h' news' → Dn { s₀ with heap := h', toks := tk' }) →
      wpAny (model prog w) A (storeName env x v) (fun _ s₂ => wpAny (model prog w) A (execs body env) (fun f s₃ => match f with | .next | .cont => Nx s₃ | .brk => Dn s₃ | .ret v => Rt v s₃) E s₂) E { s₀ with heap := h, toks := tk })
    (fin : ∀ g m news h tk, Inv g vs.length m news → Fr g L h m → News g L h news → R (.ok .next) { s₀ with heap := h, toks := tk }) :
    ∀ k i g m news h tk o, i + k = vs.length → Inv g i m news → (∀ p ∈ news, p.1 ≠ I) → Fr g L h m → News g L h ((I, o) :: news) → o.cls = .type "list_iterator" → o.data = .fields #[.ref la, .int i 0] →
      codeAny (model prog w) A (.forLoop (.Name x px) (.ref I) body [] env) R { s₀ with heap := h, toks := tk } := by
  intro k
  induction k with
  | zero =>
    intro i g m news h tk o hk hI hne F N hc hd
    have hi : i = vs.length := by k_extra "om"
    subst hi
    refine forLoop_step (wpAny_pyNext_list_end hh ⟨o, (N _ (.head _)).1, hc, hd⟩ (there _ _ _ _ _ hI F (led_tail N)) (by simp) fun h' he => ?_)
    obtain ⟨F', N'⟩ := led_ext F N hne he
    exact wpAny_execs_nil (fin _ _ _ _ _ hI F' N')
  | succ k ih =>
    intro i g m news h tk o hk hI hne F N hc hd
    have hi : i < vs.length := by k_extra "om"
    have hx : vs[i]? = some vs[i] := List.getElem?_eq_getElem hi
    refine forLoop_step (wpAny_pyNext_list_item ⟨o, (N _ (.head _)).1, hc, hd⟩ (there _ _ _ _ _ hI F (led_tail N)) (x := vs[i]) (by simp [hi]) fun h' he hs => ?_)
    obtain ⟨o', ho', hc', hd'⟩ := he
    obtain ⟨F', N'⟩ := led_turn F N hne hs ho'
    refine turn i _ g m news h' tk o' _ _ _ _ hx hI hne F' N' (fun g' m' news' h'' tk' hI' hne' F'' N'' => ?_) fun g' m' news' h'' tk' hI' F'' N'' => fin _ _ _ _ _ hI' F'' N''
    exact ih (i + 1) g' m' news' h'' tk' o' (by k_extra "om") hI' hne' F'' N'' hc' hd'
/-- a list's item put in place -/
theorem set_ls {E : Value → Shared → Prop} {s : Shared} {g : Heap} {m : Names} {news news' : Led} {D : Addr} {vs : List Value} {n : Nat} {k : Int} {t : Tok} {v : Value} {Q : Unit → Shared → Prop} (F : Fr g L s.heap m) (N : News g L s.heap news) (U : Upd D (lsO vs n) (lsO (vs.set k.toNat v) n) news news')
    (h0 : 0 ≤ k) (h1 : k < vs.length) (hz : vs.length ≤ 100000) (h : ∀ h', Fr g L h' m → News g L h' news' → Q () { s with heap := h' }) : wpAny (model prog w) A (setItem (.ref D) (.int k t) v) Q E s := by
  obtain ⟨pre, post, rfl, rfl, a, b⟩ := U.split
  have z := N (D, lsO vs n) (List.mem_append.mpr (.inr (.head _)))
  have hj : k.toNat < vs.length := by k_extra "om"
  refine ki_setAt (n := n) (items := vs.toArray) z.1 h0 (by k_extra "om") (by rw [List.size_toArray]; exact h1) (h _ (F.change (Heap.SameBut.update ..) z.2.1 z.2.2) (ki_turn (its := vs.toArray) (its' := (vs.set k.toNat v).toArray) _ N a b ?_ ?_))
  · apply Array.toList_inj.mp
    simp [Array.toList_setIfInBounds]
  · rw [if_pos (by simp)]
end
-- Lib13
theorem IntsAre.at' {vs : List Value} {is : List Int} (h : IntsAre vs is) {k : Nat} (hk : k < vs.length) : ∃ i t, vs[k]? = some (.int i t) ∧ is[k]? = some i := by
  obtain ⟨n, t, e, e2⟩ := PyProof.Rows.IntsAre.at h k vs[k] (List.getElem?_eq_getElem hk)
  exact ⟨n, t, by rw [List.getElem?_eq_getElem hk, e], e2⟩
theorem fr_set1 {g h : Heap} {L : Addr} {M m0 : Names} (x : Str) (F : Fr g L h M) (hr : ∀ y, y ≠ x → M y = m0 y) : Fr g L h (fun y => if y = x then M x else m0 y) := fr_congr F fun y => by
  by_cases e : y = x
  · subst e; rw [if_pos rfl]
  · rw [if_neg e]; exact hr y e
theorem fr_set2 {g h : Heap} {L : Addr} {M m0 : Names} (x1 x2 : Str) (F : Fr g L h M) (hr : ∀ y, y ≠ x1 → y ≠ x2 → M y = m0 y) : Fr g L h (fun y => if y = x1 then M x1 else if y = x2 then M x2 else m0 y) := fr_congr F fun y => by
  by_cases e1 : y = x1
  · rw [if_pos e1, e1]
  by_cases e2 : y = x2
  · rw [if_neg e1, if_pos e2, e2]
  rw [if_neg e1, if_neg e2]; exact hr y e1 e2
theorem fr_set3 {g h : Heap} {L : Addr} {M m0 : Names} (x1 x2 x3 : Str) (F : Fr g L h M) (hr : ∀ y, y ≠ x1 → y ≠ x2 → y ≠ x3 → M y = m0 y) : Fr g L h (fun y => if y = x1 then M x1 else if y = x2 then M x2 else if y = x3 then M x3 else m0 y) := fr_congr F fun y => by
  by_cases e1 : y = x1
  · rw [if_pos e1, e1]
  by_cases e2 : y = x2
  · rw [if_neg e1, if_pos e2, e2]
  by_cases e3 : y = x3
  · rw [if_neg e1, if_neg e2, if_pos e3, e3]
  rw [if_neg e1, if_neg e2, if_neg e3]; exact hr y e1 e2 e3
theorem fr_set4 {g h : Heap} {L : Addr} {M m0 : Names} (x1 x2 x3 x4 : Str) (F : Fr g L h M) (hr : ∀ y, y ≠ x1 → y ≠ x2 → y ≠ x3 → y ≠ x4 → M y = m0 y) : Fr g L h (fun y => if y = x1 then M x1 else if y = x2 then M x2 else if y = x3 then M x3 else if y = x4 then M x4 else m0 y) := fr_congr F fun y => by
  by_cases e1 : y = x1
  · rw [if_pos e1, e1]
  by_cases e2 : y = x2
  · rw [if_neg e1, if_pos e2, e2]
  by_cases e3 : y = x3
  · rw [if_neg e1, if_neg e2, if_pos e3, e3]
  by_cases e4 : y = x4
  · rw [if_neg e1, if_neg e2, if_neg e3, if_pos e4, e4]
  rw [if_neg e1, if_neg e2, if_neg e3, if_neg e4]; exact hr y e1 e2 e3 e4
theorem fr_set5 {g h : Heap} {L : Addr} {M m0 : Names} (x1 x2 x3 x4 x5 : Str) (F : Fr g L h M) (hr : ∀ y, y ≠ x1 → y ≠ x2 → y ≠ x3 → y ≠ x4 → y ≠ x5 → M y = m0 y) : Fr g L h (fun y => if y = x1 then M x1 else if y = x2 then M x2 else if y = x3 then M x3 else if y = x4 then M x4 else if y = x5 then M x5 else m0 y) := fr_congr F fun y => by
  by_cases e1 : y = x1
  · rw [if_pos e1, e1]
  by_cases e2 : y = x2
  · rw [if_neg e1, if_pos e2, e2]
  by_cases e3 : y = x3
  · rw [if_neg e1, if_neg e2, if_pos e3, e3]
  by_cases e4 : y = x4
  · rw [if_neg e1, if_neg e2, if_neg e3, if_pos e4, e4]
  by_cases e5 : y = x5
  · rw [if_neg e1, if_neg e2, if_neg e3, if_neg e4, if_pos e5, e5]
  rw [if_neg e1, if_neg e2, if_neg e3, if_neg e4, if_neg e5]; exact hr y e1 e2 e3 e4 e5
theorem fr_set6 {g h : Heap} {L : Addr} {M m0 : Names} (x1 x2 x3 x4 x5 x6 : Str) (F : Fr g L h M) (hr : ∀ y, y ≠ x1 → y ≠ x2 → y ≠ x3 → y ≠ x4 → y ≠ x5 → y ≠ x6 → M y = m0 y) : Fr g L h (fun y => if y = x1 then M x1 else if y = x2 then M x2 else if y = x3 then M x3 else if y = x4 then M x4 else if y = x5 then M x5 else if y = x6 then M x6 else m0 y) := fr_congr F fun y => by
  by_cases e1 : y = x1
  · rw [if_pos e1, e1]
  by_cases e2 : y = x2
  · rw [if_neg e1, if_pos e2, e2]
  by_cases e3 : y = x3
  · rw [if_neg e1, if_neg e2, if_pos e3, e3]
  by_cases e4 : y = x4
  · rw [if_neg e1, if_neg e2, if_neg e3, if_pos e4, e4]
  by_cases e5 : y = x5
  · rw [if_neg e1, if_neg e2, if_neg e3, if_neg e4, if_pos e5, e5]
  by_cases e6 : y = x6
  · rw [if_neg e1, if_neg e2, if_neg e3, if_neg e4, if_neg e5, if_pos e6, e6]
  rw [if_neg e1, if_neg e2, if_neg e3, if_neg e4, if_neg e5, if_neg e6]; exact hr y e1 e2 e3 e4 e5 e6
theorem fr_set7 {g h : Heap} {L : Addr} {M m0 : Names} (x1 x2 x3 x4 x5 x6 x7 : Str) (F : Fr g L h M) (hr : ∀ y, y ≠ x1 → y ≠ x2 → y ≠ x3 → y ≠ x4 → y ≠ x5 → y ≠ x6 → y ≠ x7 → M y = m0 y) : Fr g L h (fun y => if y = x1 then M x1 else if y = x2 then M x2 else if y = x3 then M x3 else if y = x4 then M x4 else if y = x5 then M x5 else if y = x6 then M x6 else if y = x7 then M x7 else m0 y) := fr_congr F fun y => by
  by_cases e1 : y = x1
  · rw [if_pos e1, e1]
  by_cases e2 : y = x2
  · rw [if_neg e1, if_pos e2, e2]
  by_cases e3 : y = x3
  · rw [if_neg e1, if_neg e2, if_pos e3, e3]
  by_cases e4 : y = x4
  · rw [if_neg e1, if_neg e2, if_neg e3, if_pos e4, e4]
  by_cases e5 : y = x5
  · rw [if_neg e1, if_neg e2, if_neg e3, if_neg e4, if_pos e5, e5]
  by_cases e6 : y = x6
  · rw [if_neg e1, if_neg e2, if_neg e3, if_neg e4, if_neg e5, if_pos e6, e6]
  by_cases e7 : y = x7
  · rw [if_neg e1, if_neg e2, if_neg e3, if_neg e4, if_neg e5, if_neg e6, if_pos e7, e7]
  rw [if_neg e1, if_neg e2, if_neg e3, if_neg e4, if_neg e5, if_neg e6, if_neg e7]; exact hr y e1 e2 e3 e4 e5 e6 e7
theorem fr_set8 {g h : Heap} {L : Addr} {M m0 : Names} (x1 x2 x3 x4 x5 x6 x7 x8 : Str) (F : Fr g L h M) (hr : ∀ y, y ≠ x1 → y ≠ x2 → y ≠ x3 → y ≠ x4 → y ≠ x5 → y ≠ x6 → y ≠ x7 → y ≠ x8 → M y = m0 y) : Fr g L h (fun y => if y = x1 then M x1 else if y = x2 then M x2 else if y = x3 then M x3 else if y = x4 then M x4 else if y = x5 then M x5 else if y = x6 then M x6 else if y = x7 then M x7 else if y = x8 then M x8 else m0 y) := fr_congr F fun y => by
  by_cases e1 : y = x1
  · rw [if_pos e1, e1]
  by_cases e2 : y = x2
  · rw [if_neg e1, if_pos e2, e2]
  by_cases e3 : y = x3
  · rw [if_neg e1, if_neg e2, if_pos e3, e3]
  by_cases e4 : y = x4
  · rw [if_neg e1, if_neg e2, if_neg e3, if_pos e4, e4]
  by_cases e5 : y = x5
  · rw [if_neg e1, if_neg e2, if_neg e3, if_neg e4, if_pos e5, e5]
  by_cases e6 : y = x6
  · rw [if_neg e1, if_neg e2, if_neg e3, if_neg e4, if_neg e5, if_pos e6, e6]
  by_cases e7 : y = x7
  · rw [if_neg e1, if_neg e2, if_neg e3, if_neg e4, if_neg e5, if_neg e6, if_pos e7, e7]
  by_cases e8 : y = x8
  · rw [if_neg e1, if_neg e2, if_neg e3, if_neg e4, if_neg e5, if_neg e6, if_neg e7, if_pos e8, e8]
  rw [if_neg e1, if_neg e2, if_neg e3, if_neg e4, if_neg e5, if_neg e6, if_neg e7, if_neg e8]; exact hr y e1 e2 e3 e4 e5 e6 e7 e8
theorem fr_set9 {g h : Heap} {L : Addr} {M m0 : Names} (x1 x2 x3 x4 x5 x6 x7 x8 x9 : Str) (F : Fr g L h M) (hr : ∀ y, y ≠ x1 → y ≠ x2 → y ≠ x3 → y ≠ x4 → y ≠ x5 → y ≠ x6 → y ≠ x7 → y ≠ x8 → y ≠ x9 → M y = m0 y) : Fr g L h (fun y => if y = x1 then M x1 else if y = x2 then M x2 else if y = x3 then M x3 else if y = x4 then M x4 else if y = x5 then M x5 else if y = x6 then M x6 else if y = x7 then M x7 else if y = x8 then M x8 else if y = x9 then M x9 else m0 y) := fr_congr F fun y => by
  by_cases e1 : y = x1
  · rw [if_pos e1, e1]
  by_cases e2 : y = x2
  · rw [if_neg e1, if_pos e2, e2]
  by_cases e3 : y = x3
  · rw [if_neg e1, if_neg e2, if_pos e3, e3]
  by_cases e4 : y = x4
  · rw [if_neg e1, if_neg e2, if_neg e3, if_pos e4, e4]
  by_cases e5 : y = x5
  · rw [if_neg e1, if_neg e2, if_neg e3, if_neg e4, if_pos e5, e5]
  by_cases e6 : y = x6
  · rw [if_neg e1, if_neg e2, if_neg e3, if_neg e4, if_neg e5, if_pos e6, e6]
  by_cases e7 : y = x7
  · rw [if_neg e1, if_neg e2, if_neg e3, if_neg e4, if_neg e5, if_neg e6, if_pos e7, e7]
  by_cases e8 : y = x8
  · rw [if_neg e1, if_neg e2, if_neg e3, if_neg e4, if_neg e5, if_neg e6, if_neg e7, if_pos e8, e8]
  by_cases e9 : y = x9
  · rw [if_neg e1, if_neg e2, if_neg e3, if_neg e4, if_neg e5, if_neg e6, if_neg e7, if_neg e8, if_pos e9, e9]
  rw [if_neg e1, if_neg e2, if_neg e3, if_neg e4, if_neg e5, if_neg e6, if_neg e7, if_neg e8, if_neg e9]; exact hr y e1 e2 e3 e4 e5 e6 e7 e8 e9
theorem fr_set10 {g h : Heap} {L : Addr} {M m0 : Names} (x1 x2 x3 x4 x5 x6 x7 x8 x9 x10 : Str) (F : Fr g L h M) (hr : ∀ y, y ≠ x1 → y ≠ x2 → y ≠ x3 → y ≠ x4 → y ≠ x5 → y ≠ x6 → y ≠ x7 → y ≠ x8 → y ≠ x9 → y ≠ x10 → M y = m0 y) : Fr g L h (fun y => if y = x1 then M x1 else if y = x2 then M x2 else if y = x3 then M x3 else if y = x4 then M x4 else if y = x5 then M x5 else if y = x6 then M x6 else if y = x7 then M x7 else if y = x8 then M x8 else if y = x9 then M x9 else if y = x10 then M x10 else m0 y) := fr_congr F fun y => by
  by_cases e1 : y = x1
  · rw [if_pos e1, e1]
  by_cases e2 : y = x2
  · rw [if_neg e1, if_pos e2, e2]
  by_cases e3 : y = x3
  · rw [if_neg e1, if_neg e2, if_pos e3, e3]
  by_cases e4 : y = x4
  · rw [if_neg e1, if_neg e2, if_neg e3, if_pos e4, e4]
  by_cases e5 : y = x5
  · rw [if_neg e1, if_neg e2, if_neg e3, if_neg e4, if_pos e5, e5]
  by_cases e6 : y = x6
  · rw [if_neg e1, if_neg e2, if_neg e3, if_neg e4, if_neg e5, if_pos e6, e6]
  by_cases e7 : y = x7
  · rw [if_neg e1, if_neg e2, if_neg e3, if_neg e4, if_neg e5, if_neg e6, if_pos e7, e7]
  by_cases e8 : y = x8
  · rw [if_neg e1, if_neg e2, if_neg e3, if_neg e4, if_neg e5, if_neg e6, if_neg e7, if_pos e8, e8]
  by_cases e9 : y = x9
  · rw [if_neg e1, if_neg e2, if_neg e3, if_neg e4, if_neg e5, if_neg e6, if_neg e7, if_neg e8, if_pos e9, e9]
  by_cases e10 : y = x10
  · rw [if_neg e1, if_neg e2, if_neg e3, if_neg e4, if_neg e5, if_neg e6, if_neg e7, if_neg e8, if_neg e9, if_pos e10, e10]
  rw [if_neg e1, if_neg e2, if_neg e3, if_neg e4, if_neg e5, if_neg e6, if_neg e7, if_neg e8, if_neg e9, if_neg e10]; exact hr y e1 e2 e3 e4 e5 e6 e7 e8 e9 e10
theorem fr_set11 {g h : Heap} {L : Addr} {M m0 : Names} (x1 x2 x3 x4 x5 x6 x7 x8 x9 x10 x11 : Str) (F : Fr g L h M) (hr : ∀ y, y ≠ x1 → y ≠ x2 → y ≠ x3 → y ≠ x4 → y ≠ x5 → y ≠ x6 → y ≠ x7 → y ≠ x8 → y ≠ x9 → y ≠ x10 → y ≠ x11 → M y = m0 y) : Fr g L h (fun y => if y = x1 then M x1 else if y = x2 then M x2 else if y = x3 then M x3 else if y = x4 then M x4 else if y = x5 then M x5 else if y = x6 then M x6 else if y = x7 then M x7 else if y = x8 then M x8 else if y = x9 then M x9 else if y = x10 then M x10 else if y = x11 then M x11 else m0 y) := fr_congr F fun y => by
  by_cases e1 : y = x1
  · rw [if_pos e1, e1]
  by_cases e2 : y = x2
  · rw [if_neg e1, if_pos e2, e2]
  by_cases e3 : y = x3
  · rw [if_neg e1, if_neg e2, if_pos e3, e3]
  by_cases e4 : y = x4
  · rw [if_neg e1, if_neg e2, if_neg e3, if_pos e4, e4]
  by_cases e5 : y = x5
  · rw [if_neg e1, if_neg e2, if_neg e3, if_neg e4, if_pos e5, e5]
  by_cases e6 : y = x6
  · rw [if_neg e1, if_neg e2, if_neg e3, if_neg e4, if_neg e5, if_pos e6, e6]
  by_cases e7 : y = x7
  · rw [if_neg e1, if_neg e2, if_neg e3, if_neg e4, if_neg e5, if_neg e6, if_pos e7, e7]
  by_cases e8 : y = x8
  · rw [if_neg e1, if_neg e2, if_neg e3, if_neg e4, if_neg e5, if_neg e6, if_neg e7, if_pos e8, e8]
  by_cases e9 : y = x9
  · rw [if_neg e1, if_neg e2, if_neg e3, if_neg e4, if_neg e5, if_neg e6, if_neg e7, if_neg e8, if_pos e9, e9]
  by_cases e10 : y = x10
  · rw [if_neg e1, if_neg e2, if_neg e3, if_neg e4, if_neg e5, if_neg e6, if_neg e7, if_neg e8, if_neg e9, if_pos e10, e10]
  by_cases e11 : y = x11
  · rw [if_neg e1, if_neg e2, if_neg e3, if_neg e4, if_neg e5, if_neg e6, if_neg e7, if_neg e8, if_neg e9, if_neg e10, if_pos e11, e11]
  rw [if_neg e1, if_neg e2, if_neg e3, if_neg e4, if_neg e5, if_neg e6, if_neg e7, if_neg e8, if_neg e9, if_neg e10, if_neg e11]; exact hr y e1 e2 e3 e4 e5 e6 e7 e8 e9 e10 e11
theorem fr_set12 {g h : Heap} {L : Addr} {M m0 : Names} (x1 x2 x3 x4 x5 x6 x7 x8 x9 x10 x11 x12 : Str) (F : Fr g L h M) (hr : ∀ y, y ≠ x1 → y ≠ x2 → y ≠ x3 → y ≠ x4 → y ≠ x5 → y ≠ x6 → y ≠ x7 → y ≠ x8 → y ≠ x9 → y ≠ x10 → y ≠ x11 → y ≠ x12 → M y = m0 y) : Fr g L h (fun y => if y = x1 then M x1 else if y = x2 then M x2 else if y = x3 then M x3 else if y = x4 then M x4 else if y = x5 then M x5 else if y = x6 then M x6 else if y = x7 then M x7 else if y = x8 then M x8 else if y = x9 then M x9 else if y = x10 then M x10 else if y = x11 then M x11 else if y = x12 then M x12 else m0 y) := fr_congr F fun y => by
  by_cases e1 : y = x1
  · rw [if_pos e1, e1]
  by_cases e2 : y = x2
  · rw [if_neg e1, if_pos e2, e2]
  by_cases e3 : y = x3
  · rw [if_neg e1, if_neg e2, if_pos e3, e3]
  by_cases e4 : y = x4
  · rw [if_neg e1, if_neg e2, if_neg e3, if_pos e4, e4]
  by_cases e5 : y = x5
  · rw [if_neg e1, if_neg e2, if_neg e3, if_neg e4, if_pos e5, e5]
  by_cases e6 : y = x6
  · rw [if_neg e1, if_neg e2, if_neg e3, if_neg e4, if_neg e5, if_pos e6, e6]
  by_cases e7 : y = x7
  · rw [if_neg e1, if_neg e2, if_neg e3, if_neg e4, if_neg e5, if_neg e6, if_pos e7, e7]
  by_cases e8 : y = x8
  · rw [if_neg e1, if_neg e2, if_neg e3, if_neg e4, if_neg e5, if_neg e6, if_neg e7, if_pos e8, e8]
  by_cases e9 : y = x9
  · rw [if_neg e1, if_neg e2, if_neg e3, if_neg e4, if_neg e5, if_neg e6, if_neg e7, if_neg e8, if_pos e9, e9]
  by_cases e10 : y = x10
  · rw [if_neg e1, if_neg e2, if_neg e3, if_neg e4, if_neg e5, if_neg e6, if_neg e7, if_neg e8, if_neg e9, if_pos e10, e10]
  by_cases e11 : y = x11
  · rw [if_neg e1, if_neg e2, if_neg e3, if_neg e4, if_neg e5, if_neg e6, if_neg e7, if_neg e8, if_neg e9, if_neg e10, if_pos e11, e11]
  by_cases e12 : y = x12
  · rw [if_neg e1, if_neg e2, if_neg e3, if_neg e4, if_neg e5, if_neg e6, if_neg e7, if_neg e8, if_neg e9, if_neg e10, if_neg e11, if_pos e12, e12]
  rw [if_neg e1, if_neg e2, if_neg e3, if_neg e4, if_neg e5, if_neg e6, if_neg e7, if_neg e8, if_neg e9, if_neg e10, if_neg e11, if_neg e12]; exact hr y e1 e2 e3 e4 e5 e6 e7 e8 e9 e10 e11 e12
theorem append_ls {M : Model} {A : Around} {E : Value → Shared → Prop} {s : Shared} {prog : Program} {w : World} {g : Heap} {L D : Addr} {m : Names} {news news' : Led} {vs : List Value} {n : Nat} {x : Value} {Q : Value → Shared → Prop} (F : Fr g L s.heap m) (N : News g L s.heap news) (U : Upd D (lsO vs n) (lsO (vs ++ [x]) (n + 1)) news news') (hz : vs.length ≤ 100000)
    (h : ∀ h', Fr g L h' m → News g L h' news' → Q .none { s with heap := h' }) : wpAny (model prog w) A (call (.builtin "list.append") [.ref D, x]) Q E s :=
  append_K (its := vs.toArray) (n := n) F N (by rw [List.push_toArray]; exact U) h (by rw [List.size_toArray, sizeLine_eq]; omega)
theorem notin1 {a b : Addr} {o : Obj} (h : @LT.lt Nat _ a b) : b ∉ ([(a, o)] : Led).map (·.1) := fun q => by
  cases List.mem_singleton.mp q
  exact Nat.lt_irrefl _ h
theorem notin_cons {a b : Addr} {o : Obj} {r : Led} (h : @LT.lt Nat _ a b) (hr : b ∉ r.map (·.1)) : b ∉ ((a, o) :: r : Led).map (·.1) := fun q => by
  rcases List.mem_cons.mp q with e | q
  · subst e; exact Nat.lt_irrefl _ h
  · exact hr q
theorem intsSet {ws : List Value} {js : List Int} (h : IntsAre ws js) (k : Nat) {v : Int} {t : Tok} : IntsAre (ws.set k (.int v t)) (js.set k v) := by
  induction h generalizing k with
  | nil => exact .nil
  | cons n t' h ih =>
    cases k with
    | zero => exact .cons _ _ h
    | succ k => exact .cons _ _ (ih k)
theorem intsSnoc {ws : List Value} {js : List Int} (h : IntsAre ws js) {v : Int} {t : Tok} : IntsAre (ws ++ [.int v t]) (js ++ [v]) := by
  induction h with
  | nil => exact .cons _ _ .nil
  | cons n t' h ih => exact .cons _ _ ih
theorem intsApp {ws ws' : List Value} {js js' : List Int} (h : IntsAre ws js) (h' : IntsAre ws' js') : IntsAre (ws ++ ws') (js ++ js') := by
  induction h with
  | nil => exact h'
  | cons n t' h ih => exact .cons _ _ ih
theorem intsLen {ws : List Value} {js : List Int} (h : IntsAre ws js) : ws.length = js.length := by
  induction h with
  | nil => rfl
  | cons n t' h ih => simp [ih]
theorem small_n {n : Nat} (h : n ≤ 1000) : Builtin.Range.small 0 (n : Int) 1 = true := small_one (by k_extra "om") (by k_extra "om") (by k_extra "om") (by k_extra "om")
theorem riL {g h : Heap} {L a : Addr} {n : Nat} {news : Led} (N : News g L h ((a, riO 0 n) :: news)) : News g L h ((a, riO ((0 : Nat) : Int) ((n : Int) - ((0 : Nat) : Int))) :: news) := by
  rw [show ((n : Int) - ((0 : Nat) : Int)) = n from by k_extra "om"]; exact N
theorem rsize_n {n : Nat} : Builtin.Range.rangeSize 0 (n : Int) 1 = (n : Int) := by
  rw [rangeSize_one]
  split <;> k_extra "om"
noncomputable abbrev ledA {g h : Heap} {L a : Addr} {o : Obj} {r : List (Addr × Obj)} (_ : News g L h ((a, o) :: r)) : Addr := a
theorem lsAt {g h : Heap} {L a : Addr} {m : Str → Option Value} {its : Array Value} (F : Fr g L h m) (hl : g.IsList a its) : h.IsList a its := hl.at (F.keep a)
theorem ne_size {g h : Heap} {L : Addr} {news : Led} (N : News g L h news) : ∀ p ∈ news, p.1 ≠ h.objs.size := fun p hp => Nat.ne_of_lt (Heap.lt_size (N p hp).1)
section
variable {prog : Program} {w : World} {A : Around} {s : Shared} {env : Env} {x : Str} {px : Pos} {body : List Stmt} {L : Addr} {R : Result → Shared → Prop} {E : Value → Shared → Prop}
theorem pyForRng {Inv : Heap → Nat → Names → Led → Prop} {g : Heap} {m : Names} {news : Led} {r : Addr} {t u v : Tok} (n : Nat) (hh : A.handled = none) (hR : IsRange s.heap r 0 (n : Int) 1 t u v) (hn : n ≤ 1000) (F : Fr g L s.heap m) (N : News g L s.heap news) (h0 : Inv g 0 m news)
    (turn : ∀ I, (∀ p ∈ news, p.1 < I) → ∀ i g m news h tk (Nx Dn : Shared → Prop) (Rt : Value → Shared → Prop) (E : Value → Shared → Prop), i < n → Inv g i m news → (∀ p ∈ news, p.1 ≠ I) → Fr g L h m → News g L h ((I, riO ((i : Int) + 1) ((n : Int) - i - 1)) :: news) →
      (∀ g' m' news' h' tk', Inv g' (i + 1) m' news' → (∀ p ∈ news', p.1 ≠ I) → Fr g' L h' m' → News g' L h' ((I, riO ((i : Int) + 1) ((n : Int) - i - 1)) :: news') → Nx { s with heap := h', toks := tk' }) →
      wpAny (model prog w) A (storeName env x (.int i tk)) (fun _ s₂ => wpAny (model prog w) A (execs body env) (fun f s₃ => match f with | .next | .cont => Nx s₃ | .brk => Dn s₃ | .ret v => Rt v s₃) E s₂) E { s with heap := h, toks := tk + 1 })
    (fin : ∀ g m news h tk, Inv g n m news → Fr g L h m → News g L h news → R (.ok .next) { s with heap := h, toks := tk }) :
    wpAny (model prog w) A (pyIter (.ref r)) (fun it s₂ => codeAny (model prog w) A (.forLoop (.Name x px) it body [] env) R s₂) E s := by
  refine wpAny_pyIter_range hR (small_n hn) ?_
  rw [rsize_n]
  have F9 := F.push (riO 0 n)
  have N9 := N.push F (riO 0 n)
  exact forRng (Inv := Inv) hh (turn _ fun p hp => Heap.lt_size (N p hp).1) fin n 0 g _ _ _ _ (by k_extra "om") h0 (ne_size N) F9 (riL N9)
theorem pyForLst {Inv : Heap → Nat → Names → Led → Prop} {vs : List Value} {g : Heap} {m : Names} {news : Led} {la : Addr} (hh : A.handled = none)
    (there : ∀ i g m news h, Inv g i m news → Fr g L h m → News g L h news → h.IsList la vs.toArray) (F : Fr g L s.heap m) (N : News g L s.heap news) (h0 : Inv g 0 m news)
    (turn : ∀ I, (∀ p ∈ news, p.1 < I) → ∀ i v g m news h tk o (Nx Dn : Shared → Prop) (Rt : Value → Shared → Prop) (E : Value → Shared → Prop), vs[i]? = some v → Inv g i m news → (∀ p ∈ news, p.1 ≠ I) → Fr g L h m → News g L h ((I, o) :: news) →
      (∀ g' m' news' h' tk', Inv g' (i + 1) m' news' → (∀ p ∈ news', p.1 ≠ I) → Fr g' L h' m' → News g' L h' ((I, o) :: news') → Nx { s with heap := h', toks := tk' }) →
      (∀ g' m' news' h' tk', Inv g' vs.length m' news' → Fr g' L h' m' → News g' L h' news' → Dn { s with heap := h', toks := tk' }) →
      wpAny (model prog w) A (storeName env x v) (fun _ s₂ => wpAny (model prog w) A (execs body env) (fun f s₃ => match f with | .next | .cont => Nx s₃ | .brk => Dn s₃ | .ret v => Rt v s₃) E s₂) E { s with heap := h, toks := tk })
    (fin : ∀ g m news h tk, Inv g vs.length m news → Fr g L h m → News g L h news → R (.ok .next) { s with heap := h, toks := tk }) :
    wpAny (model prog w) A (pyIter (.ref la)) (fun it s₂ => codeAny (model prog w) A (.forLoop (.Name x px) it body [] env) R s₂) E s := by
  refine wpAny_pyIter_list (there _ _ _ _ _ h0 F N) ?_
  have F9 := F.push { cls := .type "list_iterator", data := .fields #[.ref la, .int 0 0] }
  have N9 := N.push F { cls := .type "list_iterator", data := .fields #[.ref la, .int 0 0] }
  exact forLst (Inv := Inv) hh there (turn _ fun p hp => Heap.lt_size (N p hp).1) fin vs.length 0 g _ _ _ _ _ (by k_extra "om") h0 (ne_size N) F9 N9 rfl rfl
end
-- LibI
section
variable {prog : Program} {w : World} {A : Around} {E : Value → Shared → Prop} {s : Shared} {g : Heap} {L D : Addr} {m : Names} {news : Led} {ws : List Value} {js : List Int} {n : Nat} {k : Int} {t : Tok} {Q : Value → Shared → Prop}
theorem index_ls (N : News g L s.heap news) (hm : (D, lsO ws n) ∈ news) (hI : IntsAre ws js) (hk : k ∈ js) (hz : js.length ≤ 100000) (h : Q (.int (js.idxOf k : Nat) s.toks) { s with toks := s.toks + 1 }) :
    wpAny (model prog w) A (call (.builtin "list.index") [.ref D, .int k t]) Q E s := by
  have hlen := hI.length
  have hj : js.idxOf k < js.length := List.idxOf_lt_length_iff.mpr hk
  refine call_meets PySem.F.slot_list_index ⟨_, (N _ hm).1, rfl⟩ PySem.F.entry_list_index (PySem.F.args_list_index_2 _ _)
    (PySem.SeqAt.list_indexAt D ws.toArray n none #[] (.int k t) (isInt k) (js.idxOf k) (by simpa [hlen] using hj) (by k_extra "om") ?_ ?_) ⟨(N _ hm).1, fun y hy => (eq_isInt k t hI y (by simpa using hy)).at _ _, h⟩
  · show isInt k ws[js.idxOf k] = true
    rw [isInt_at k hI _ (by k_extra "om") hj]
    simpa using List.getElem_idxOf hj
  · intro j hjs hlt
    show isInt k ws[j] = false
    rw [isInt_at k hI j (by simpa using hjs) (by k_extra "om")]
    exact ne_of_lt_idxOf hlt _
theorem in_ls (N : News g L s.heap news) (hm : (D, lsO ws n) ∈ news) (hI : IntsAre ws js) (h : Q (.bool (decide (k ∈ js))) s) : wpAny (model prog w) A (compareOp .In (.int k t) (.ref D)) Q E s :=
  in_list_ints ⟨_, (N _ hm).1, rfl, n, rfl⟩ hI (by
    have : js.any (· == k) = decide (k ∈ js) := by
      rw [Bool.eq_iff_iff]; simp
    rw [this]; exact h)
end
-- LibC
section
open PyProof.Rows.LCg PyProof.Rows.LCt
theorem notinN {a b : Addr} {o : Obj} (h : @Ne Nat a b) : b ∉ ([(a, o)] : Led).map (·.1) := fun q => by
  cases List.mem_singleton.mp q
  exact h rfl
/-- a mark that the walk is to stop once -/
noncomputable def Tick (_ : Nat) : Prop := True
theorem Tick.mk (n : Nat) : Tick n := True.intro
section
variable {prog : Program} {w : World} {A : Around} {s : Shared} {h₀ : Heap} {L : Addr} {m : Names} {env : Env} {elt ct : PySem.Expr} {x : Str} {scope : Scope} {cl : List (Str × Addr)} {S : Led → Prop} {P : Nat → Value → Prop} {Fin : List Value → Led → Prop}
/-- a comprehension, by an invariant -/
theorem compRest_ind {Inv : Nat → List Value → Led → Prop} {n : Nat}
    (turn : ∀ i ys news v I oI C oC D m₂ h tk (E' : Value → Shared → Prop) (Nx : Value → Shared → Prop), i < n → P i v → Inv i ys news → NsObj oC m₂ → m₂ x = some v → Fr h₀ L h m → News h₀ L h ((I, oI) :: (C, oC) :: (D, lst ys) :: news) → Off3 I C D news → ((@Ne Nat I C) ∧ (@Ne Nat I D) ∧ (@Ne Nat C D)) →
      (∀ y h' tk' news', Fr h₀ L h' m → News h₀ L h' ((I, oI) :: (C, oC) :: (D, lst ys) :: news') → Off3 I C D news' → S news' → Inv (i + 1) (ys ++ [y]) news' → Nx y { s with heap := h', toks := tk' }) →
      wpAny (model prog w) A (eval elt (compEnvC scope cl C env)) Nx E' { s with heap := h, toks := tk })
    (fin : ∀ ys news, Inv n ys news → Fin ys news) :
    ∀ k i ys news, i + k = n → Inv i ys news → CompRest prog w A h₀ L m env elt x scope cl s S P Fin k i ys news := by
  intro k
  induction k with
  | zero =>
    intro i ys news hk hI
    have : i = n := by k_extra "om"
    subst this
    exact CompRest.zero (fin _ _ hI)
  | succ k ih =>
    intro i ys news hk hI
    refine CompRest.succ fun v I oI C oC D m₂ h tk E' hP hC hm F N off ne => ?_
    exact turn i ys news v I oI C oC D m₂ h tk E' _ (by k_extra "om") hP hI hC hm F N off ne fun y h' tk' news' F' N' off' hS hI' =>
      ⟨h', tk', news', rfl, F', N', off', hS, ih (i + 1) _ _ (by k_extra "om") hI'⟩
/-- the same with a test -/
theorem compRestT_ind {Inv : Nat → List Value → Led → Prop} {n : Nat}
    (turn : ∀ i ys news v I oI C oC D m₂ h tk (E' : Value → Shared → Prop) (Nx : Value → Shared → Prop) (Sk : Shared → Prop), i < n → P i v → Inv i ys news → NsObj oC m₂ → m₂ x = some v → Fr h₀ L h m → News h₀ L h ((I, oI) :: (C, oC) :: (D, lst ys) :: news) → Off3 I C D news → ((@Ne Nat I C) ∧ (@Ne Nat I D) ∧ (@Ne Nat C D)) →
      (∀ y h' tk' news', Fr h₀ L h' m → News h₀ L h' ((I, oI) :: (C, oC) :: (D, lst ys) :: news') → Off3 I C D news' → S news' → Inv (i + 1) (ys ++ [y]) news' → Nx y { s with heap := h', toks := tk' }) →
      (∀ h' tk' news', Fr h₀ L h' m → News h₀ L h' ((I, oI) :: (C, oC) :: (D, lst ys) :: news') → Off3 I C D news' → S news' → Inv (i + 1) ys news' → Sk { s with heap := h', toks := tk' }) →
      wpAny (model prog w) A (isTrue ct (compEnvC scope cl C env) (eval ct (compEnvC scope cl C env))) (fun ok s' => if ok = true then wpAny (model prog w) A (eval elt (compEnvC scope cl C env)) Nx E' s' else Sk s') E' { s with heap := h, toks := tk })
    (fin : ∀ ys news, Inv n ys news → Fin ys news) :
    ∀ k i ys news, i + k = n → Inv i ys news → CompRestT prog w A h₀ L m env ct elt x scope cl s S P Fin k i ys news := by
  intro k
  induction k with
  | zero =>
    intro i ys news hk hI
    have : i = n := by k_extra "om"
    subst this
    exact CompRestT.zero (fin _ _ hI)
  | succ k ih =>
    intro i ys news hk hI
    refine CompRestT.succ fun v I oI C oC D m₂ h tk E' hP hC hm F N off ne => ?_
    exact turn i ys news v I oI C oC D m₂ h tk E' _ _ (by k_extra "om") hP hI hC hm F N off ne (fun y h' tk' news' F' N' off' hS hI' =>
      ⟨h', tk', news', rfl, F', N', off', hS, ih (i + 1) _ _ (by k_extra "om") hI'⟩) fun h' tk' news' F' N' off' hS hI' => ⟨h', tk', news', rfl, F', N', off', hS, ih (i + 1) _ _ (by k_extra "om") hI'⟩
theorem compRest_same {Inv : Nat → List Value → Prop} {n : Nat} {news : Led} (hS : S news)
    (turn : ∀ i ys v I oI C oC D m₂ h tk (E' : Value → Shared → Prop) (Nx : Value → Shared → Prop), i < n → P i v → Inv i ys → NsObj oC m₂ → m₂ x = some v → Fr h₀ L h m → News h₀ L h ((I, oI) :: (C, oC) :: (D, lst ys) :: news) → Off3 I C D news → ((@Ne Nat I C) ∧ (@Ne Nat I D) ∧ (@Ne Nat C D)) →
      (∀ y h' tk' all, Fr h₀ L h' m → News h₀ L h' all → (∀ p ∈ ((I, oI) :: (C, oC) :: (D, lst ys) :: news : Led), p ∈ all) → Inv (i + 1) (ys ++ [y]) → Nx y { s with heap := h', toks := tk' }) →
      wpAny (model prog w) A (eval elt (compEnvC scope cl C env)) Nx E' { s with heap := h, toks := tk })
    (fin : ∀ ys, Inv n ys → Fin ys news) (h0 : Inv 0 []) : CompRest prog w A h₀ L m env elt x scope cl s S P Fin n 0 [] news :=
  compRest_ind (Inv := fun i ys nw => nw = news ∧ Inv i ys) (fun i ys nw v I oI C oC D m₂ h tk E' Nx hi hP hI hC hm F N off ne hN => by
    obtain ⟨rfl, hI⟩ := hI
    exact turn i ys v I oI C oC D m₂ h tk E' Nx hi hP hI hC hm F N off ne fun y h' tk' all F' N' sub hI' => hN y h' tk' nw F' (fun p hp => N' p (sub p hp)) off hS ⟨rfl, hI'⟩) (fun ys nw hI => by obtain ⟨rfl, hI⟩ := hI; exact fin ys hI) n 0 [] news (by k_extra "om") ⟨rfl, h0⟩
theorem compRestT_same {Inv : Nat → List Value → Prop} {n : Nat} {news : Led} (hS : S news)
    (turn : ∀ i ys v I oI C oC D m₂ h tk (E' : Value → Shared → Prop) (Nx : Value → Shared → Prop) (Sk : Shared → Prop), i < n → P i v → Inv i ys → NsObj oC m₂ → m₂ x = some v → Fr h₀ L h m → News h₀ L h ((I, oI) :: (C, oC) :: (D, lst ys) :: news) → Off3 I C D news → ((@Ne Nat I C) ∧ (@Ne Nat I D) ∧ (@Ne Nat C D)) →
      (∀ y h' tk' all, Fr h₀ L h' m → News h₀ L h' all → (∀ p ∈ ((I, oI) :: (C, oC) :: (D, lst ys) :: news : Led), p ∈ all) → Inv (i + 1) (ys ++ [y]) → Nx y { s with heap := h', toks := tk' }) →
      (∀ h' tk' all, Fr h₀ L h' m → News h₀ L h' all → (∀ p ∈ ((I, oI) :: (C, oC) :: (D, lst ys) :: news : Led), p ∈ all) → Inv (i + 1) ys → Sk { s with heap := h', toks := tk' }) →
      wpAny (model prog w) A (isTrue ct (compEnvC scope cl C env) (eval ct (compEnvC scope cl C env))) (fun ok s' => if ok = true then wpAny (model prog w) A (eval elt (compEnvC scope cl C env)) Nx E' s' else Sk s') E' { s with heap := h, toks := tk })
    (fin : ∀ ys, Inv n ys → Fin ys news) (h0 : Inv 0 []) : CompRestT prog w A h₀ L m env ct elt x scope cl s S P Fin n 0 [] news :=
  compRestT_ind (Inv := fun i ys nw => nw = news ∧ Inv i ys) (fun i ys nw v I oI C oC D m₂ h tk E' Nx Sk hi hP hI hC hm F N off ne hN hK => by
    obtain ⟨rfl, hI⟩ := hI
    exact turn i ys v I oI C oC D m₂ h tk E' Nx Sk hi hP hI hC hm F N off ne (fun y h' tk' all F' N' sub hI' => hN y h' tk' nw F' (fun p hp => N' p (sub p hp)) off hS ⟨rfl, hI'⟩) fun h' tk' all F' N' sub hI' => hK h' tk' nw F' (fun p hp => N' p (sub p hp)) off hS ⟨rfl, hI'⟩) (fun ys nw hI => by obtain ⟨rfl, hI⟩ := hI; exact fin ys hI) n 0 [] news (by k_extra "om") ⟨rfl, h0⟩
end
end
-- C10
theorem lines17 : True := by
  k_with_none
  k_with "in" => first | with_reducible assumption | exact And.left (by with_reducible assumption) | exact And.left (And.right (by with_reducible assumption)) | exact And.left (And.right (And.right (by with_reducible assumption))) | exact And.left (And.right (And.right (And.right (by with_reducible assumption)))) | exact And.left (And.right (And.right (And.right (And.right (by with_reducible assumption))))) | exact And.left (And.right (And.right (And.right (And.right (And.right (by with_reducible assumption)))))) | exact And.left (And.right (And.right (And.right (And.right (And.right (And.right (by with_reducible assumption))))))) | exact And.left (And.right (And.right (And.right (And.right (And.right (And.right (And.right (by with_reducible assumption)))))))) | exact And.left (And.right (And.right (And.right (And.right (And.right (And.right (And.right (And.right (by with_reducible assumption))))))))) | exact And.left (And.right (And.right (And.right (And.right (And.right (And.right (And.right (And.right (And.right (by with_reducible assumption)))))))))) | exact And.left (And.right (And.right (And.right (And.right (And.right (And.right (And.right (And.right (And.right (And.right (by with_reducible assumption))))))))))) | exact And.left (And.right (And.right (And.right (And.right (And.right (And.right (And.right (And.right (And.right (And.right (And.right (by with_reducible assumption)))))))))))) | exact And.left (And.right (And.right (And.right (And.right (And.right (And.right (And.right (And.right (And.right (And.right (And.right (And.right (by with_reducible assumption))))))))))))) | exact And.left (And.right (And.right (And.right (And.right (And.right (And.right (And.right (And.right (And.right (And.right (And.right (And.right (And.right (by with_reducible assumption)))))))))))))) | exact And.left (And.right (And.right (And.right (And.right (And.right (And.right (And.right (And.right (And.right (And.right (And.right (And.right (And.right (And.right (by with_reducible assumption))))))))))))))) | exact And.right (by with_reducible assumption) | exact And.right (And.right (by with_reducible assumption)) | exact And.right (And.right (And.right (by with_reducible assumption))) | exact And.right (And.right (And.right (And.right (by with_reducible assumption)))) | exact And.right (And.right (And.right (And.right (And.right (by with_reducible assumption))))) | exact And.right (And.right (And.right (And.right (And.right (And.right (by with_reducible assumption)))))) | exact And.right (And.right (And.right (And.right (And.right (And.right (And.right (by with_reducible assumption))))))) | exact And.right (And.right (And.right (And.right (And.right (And.right (And.right (And.right (by with_reducible assumption)))))))) | exact And.right (And.right (And.right (And.right (And.right (And.right (And.right (And.right (And.right (by with_reducible assumption))))))))) | exact And.right (And.right (And.right (And.right (And.right (And.right (And.right (And.right (And.right (And.right (by with_reducible assumption)))))))))) | exact And.right (And.right (And.right (And.right (And.right (And.right (And.right (And.right (And.right (And.right (And.right (by with_reducible assumption))))))))))) | exact And.right (And.right (And.right (And.right (And.right (And.right (And.right (And.right (And.right (And.right (And.right (And.right (by with_reducible assumption)))))))))))) | exact And.right (And.right (And.right (And.right (And.right (And.right (And.right (And.right (And.right (And.right (And.right (And.right (And.right (by with_reducible assumption))))))))))))) | exact And.right (And.right (And.right (And.right (And.right (And.right (And.right (And.right (And.right (And.right (And.right (And.right (And.right (And.right (by with_reducible assumption))))))))))))))
  k_with "lt0" => first | with_reducible assumption | exact Nat.lt_trans (by with_reducible assumption) (by k_extra "lt0")
  k_with "lt" => first | k_extra "in" | exact Nat.lt_trans (by k_extra "in") (by k_extra "lt")
  k_with "ne0" => first | with_reducible assumption | exact Ne.symm (by with_reducible assumption) | exact Nat.succ_ne_self _ | exact Ne.symm (Nat.succ_ne_self _) | (refine Nat.ne_of_lt ?_; k_extra "lt0") | (refine Nat.ne_of_gt ?_; k_extra "lt0")
  k_with "ne1" => first | k_extra "in" | (refine Ne.symm ?_; k_extra "in") | (refine Nat.ne_of_lt ?_; k_extra "lt") | (refine Nat.ne_of_gt ?_; k_extra "lt")
  k_with "ne2" => first | (refine Nat.ne_of_lt ?_; k_extra "lt0") | (refine Nat.ne_of_gt ?_; k_extra "lt0") | (refine Nat.ne_of_lt (And.left (by with_reducible assumption)))  | (refine Nat.ne_of_gt (And.left (by with_reducible assumption))) | (refine Nat.ne_of_lt (Nat.lt_trans (And.right (by with_reducible assumption)) ?_); k_extra "lt0") | (refine Nat.ne_of_lt (And.right (by with_reducible assumption))) | (refine Nat.ne_of_gt (Nat.lt_trans ?_ (And.left (by with_reducible assumption))); k_extra "lt0")
  k_with "ne" => first | k_extra "ne0" | (refine Or.elim (by with_reducible assumption : @LT.lt Nat _ _ _ ∨ @LT.lt Nat _ _ _ ∧ @LT.lt Nat _ _ _) (fun q9 => ?_) (fun q9 => ?_); (all_goals k_extra "ne2")) | k_extra "ne1"
  k_with "ifs" => first | with_reducible rfl | exact Eq.trans (if_neg (by assumption)) (by k_extra "ifs")
  k_with "up" => first | exact up2 (by with_reducible assumption) rfl | exact up1 (by with_reducible assumption) rfl | exact up3 (by with_reducible assumption) rfl | exact up4 (by with_reducible assumption) rfl | exact up5 (by with_reducible assumption) rfl
  k_with "om" => first | with_reducible assumption | exact Nat.succ_pos _ | (with_reducible show @LT.lt Nat _ _ _; (try dsimp only); first | k_extra "lt0" | k_extra "up" | k_extra "lt") | (with_reducible show @Ne Nat _ _; k_extra "ne") | (with_reducible show @LT.lt Nat _ _ _ ∧ @LT.lt Nat _ _ _; refine And.intro ?_ ?_ <;> k_extra "om") | (with_reducible show @Eq Nat _ _; first | exact Nat.add_sub_add_right 6 1 _ | exact (Nat.add_sub_add_right 6 1 _).symm | exact Nat.succ_sub (by omega) | exact (Nat.succ_sub (by omega)).symm | exact Nat.sub_sub_self (by omega)) | omega
  k_with "k_room" => first | k_extra "up" | ((try simp only [depth_under_make, depth_under_kw, depth_in1, depth_deeper, depth_caller]); omega)
  k_with "tb_start" => first | assumption | omega | (simp only [List.length_cons, List.length_nil, List.length_append]; omega)
  k_with "tb_rel" => repeat' (first | exact List.forall_mem_nil _ | refine List.forall_mem_cons.mpr ⟨by first | exact Or.inr (by k_mem) | exact Or.inl (by simp), ?_⟩)
  k_with "k_units" => first | k_extra "up" | ((try simp only [units_in1, units_deeper, Around.mark_units, units_caller]); omega)
  k_with "call type:list" => (k_here; (with_reducible show wpAny _ _ (call (Value.type "list") [Value.str _ _]) _ _ _); k_dflt (refine' list_strN ?h ?F ?N ?z ?_; (case h => rfl); (case F => k_asm); (case N => k_asm); (case z => exact Nat.le_trans (by assumption) (Nat.le_of_ble_eq_true rfl)); k_whole); intro l₉ h₉ tk₉ vs₉ k₉ F₉ N₉ l1₉ hc₉; (try k_lt l1₉); (try k_sweep))
  k_with "truthy ref" => (k_here; k_dflt (refine' truthy_ls ?N ?m ?z ?_; (case N => k_asm); (case m => k_mem); (case z => tb_start)); (intro tk₉; (try dsimp only [List.isEmpty_cons, List.isEmpty_nil, Bool.not_false, Bool.not_true])))
  k_with "call builtin:list.pop" => (k_here; (with_reducible show wpAny _ _ (call (Value.builtin "list.pop") [Value.ref _, Value.int 0 _]) _ _ _); k_dflt (refine' pop0_N ?F ?N ?U ?z ?_; (case F => k_asm); (case N => k_asm); (case U => k_upd); (case z => tb_start)); (intro h₉ F₉ N₉; (try k_sweep)))
  k_with "getMethod ref" => (k_here; (with_reducible show wpAny _ _ (getMethod (Value.ref _) (PySem.Str.ofString "read") _) _ _ _); k_dflt (refine' kmu_own ?k1 ?k2 ?k3 ?k4 ?k5 ?_; (case k1 => k_asm); (case k2 => k_asm); (case k3 => k_inst); (case k4 => k_is); (case k5 => k_is); k_whole))
  k_with "exec For Name Name cons nil" => refine Stop.go ?_
  k_with "exec For Name Call cons nil" => refine Stop.go ?_
  k_with "call ref" => ((try dsimp only [List.nil_append, List.cons_append]); (with_reducible show wpAny _ _ (call (Value.ref 35) [Value.ref _]) _ _ _); refine Stop.go ?_)
  k_with "call builtin:iter" => (k_here; (with_reducible show wpAny _ _ (call (Value.builtin "iter") [Value.ref _, Value.str _ _]) _ _ _); k_dflt (refine' iter2_N ?F ?N ?m ?_; (case F => k_asm); (case N => k_asm); (case m => k_mem)); (intro it9₉ h9₉ F9₉ N9₉ l9₉; (try k_lt l9₉); (try k_sweep)))
  k_with "compareOp In str str" => refine in_ws ?_
  k_with "compareOp Eq str str" => first | refine eq_lit lit34 ?_ | refine eq_lit lit92 ?_
  exact True.intro
theorem iter2_N {prog : Program} {w : World} {A : Around} {E : Value → Shared → Prop} {s : Shared} {h₀ : Heap} {L q : Addr} {m : Str → Option Value} {news : List (Addr × Obj)} {f self sent : Value} {Q : Value → Shared → Prop}
    (F : Fr h₀ L s.heap m) (N : News h₀ L s.heap news) (hm : (q, methodObj f self) ∈ news) (h : ∀ it h', Fr h₀ L h' m → News h₀ L h' ((it, ciO (.ref q) sent) :: news) → (∀ p ∈ news, p.1 < it) → Q (.ref it) { s with heap := h' }) :
    wpAny (model prog w) A (call (.builtin "iter") [.ref q, sent]) Q E s :=
  iter2_call (N.get hm) (h _ _ (F.push _) (N.push F _) fun p hp => Heap.lt_size (N p hp).1)
theorem in_ws {prog : Program} {w : World} {A : Around} {E : Value → Shared → Prop} {s : Shared} {c : Nat} {t u : Tok} {Q : Value → Shared → Prop} (h : Q (.bool (decide (isWs c))) s) :
    wpAny (model prog w) A (compareOp .In (.str ⟨#[c]⟩ t) (.str (Str.ofString "\n\t\x0d ") u)) Q E s := by
  refine PySem.P.in_str ?_
  rw [PySem.StrLaws.found_one, show (Str.ofString "\n\t\x0d ").cps.toList = [10, 9, 13, 32] from by decide +kernel]
  simpa [isWs] using h
theorem eq_lit {prog : Program} {w : World} {A : Around} {E : Value → Shared → Prop} {s : Shared} {c d : Nat} {l : Str} {t u : Tok} {Q : Value → Shared → Prop} (hl : l = ⟨#[d]⟩) (h : Q (.bool (decide (c = d))) s) :
    wpAny (model prog w) A (compareOp .Eq (.str ⟨#[c]⟩ t) (.str l u)) Q E s := by
  refine PySem.P.eq_str ?_
  rw [eq_meets]
  subst hl
  have : ((⟨#[c]⟩ : Str) == ⟨#[d]⟩) = decide (c = d) := by
    by_cases e : c = d
    · subst e; simp
    · rw [decide_eq_false e]
      exact beq_eq_false_iff_ne.mpr fun q => e (by have := congrArg (fun z => z.cps.toList) q; simpa using this)
  rw [this]
  exact h
theorem lit34 : Str.ofString "\"" = ⟨#[34]⟩ := by decide +kernel
theorem lit92 : Str.ofString "\\" = ⟨#[92]⟩ := by decide +kernel
theorem acc_snoc (acc : List Nat) (c : Nat) : ((⟨acc.toArray⟩ : Str) ++ (⟨#[c]⟩ : Str)) = ⟨(acc ++ [c]).toArray⟩ := by
  apply Str.ext'
  rw [Str.cps_append]
  simp
theorem fr_mA {g h : Heap} {L : Addr} {m : Str → Option Value} {ta : Tok} (F : Fr g L h m) (ht : m (Str.ofString "token") = some (.str (Str.ofString "") ta)) : Fr g L h (mA m (m (Str.ofString "ch")) [] ta) :=
  fr_congr F fun y => by
    by_cases h1 : y = Str.ofString "ch"
    · subst h1; simp only [mA, if_pos]
    · by_cases h2 : y = Str.ofString "token"
      · simp only [mA, if_neg h1, if_pos h2]; subst h2; exact ht
      · simp only [mA, if_neg h1, if_neg h2]
theorem fr_mA2 {g h : Heap} {L : Addr} {m0 : Str → Option Value} {ta t' : Tok} {vch : Option Value} {acc : List Nat} {c : Nat} {z : Str} (F : Fr g L h (fun y => if y = Str.ofString "token" then some (.str z t') else mA m0 vch acc ta y)) (hz : z = ⟨(acc ++ [c]).toArray⟩) : Fr g L h (mA m0 vch (acc ++ [c]) t') :=
  fr_congr F fun y => by
    subst hz
    by_cases h2 : y = Str.ofString "token"
    · subst h2
      simp only [mA, if_pos, show ¬ (Str.ofString "token" = Str.ofString "ch") from by decide +kernel, if_false]
    · simp only [mA, if_neg h2]
theorem fr_mA3 {g h : Heap} {L : Addr} {M m0 : Str → Option Value} {t' : Tok} {acc' : List Nat} {z : Str} (F : Fr g L h M) (ht : M (Str.ofString "token") = some (.str z t')) (hz : z = ⟨acc'.toArray⟩) (hr : ∀ y, y ≠ Str.ofString "ch" → y ≠ Str.ofString "token" → M y = m0 y) :
    Fr g L h (mA m0 (M (Str.ofString "ch")) acc' t') :=
  fr_congr F fun y => by
    subst hz
    by_cases h1 : y = Str.ofString "ch"
    · subst h1; simp only [mA, if_pos]
    · by_cases h2 : y = Str.ofString "token"
      · simp only [mA, if_neg h1, if_pos h2]; subst h2; exact ht
      · simp only [mA, if_neg h1, if_neg h2]; exact hr y h1 h2
section
variable {w : World} {p : Program} {loose : List Str} {mean : ExcName → Option Value} {mg mb : Str → Option Value} {dp un : Nat} {gd : Option (List Code)} {outs : List Env} {base h₀ : Heap} {s : Shared} {R : Result → Shared → Prop}
  (B : Below (AT dp un gd outs) base outs h₀) (X : (hd.heap_39 w.params).In h₀) (T : Top p loose mean mg mb h₀) (st : h₀.StaysIn s.heap) (hdp : dp + 12 < recursionLimit) (hu : un + 120 < cLine)
include B X T st hdp hu
theorem token_quoted {l : Lex} {pm : Value} {u1 : Tok} {ln : Int} {pbn sgn : Nat} {vs : List Value} {cs tok rest : List Nat} {tc : Tok} (N : Own h₀ s.heap (l.objs w.params pm u1 ln [] pbn (.str ⟨#[34]⟩ tc :: vs) sgn)) (ok : l.Ok) (ap : l.Apart) (Cd : CodeHd base 148 144)
    (hcs : CharsAre vs cs) (hq : quoted [] cs = some (tok, rest)) (hlen : cs.length ≤ 9000)
    (hret : ∀ t u1' ln' vs' k' h' tk', Keeps [l.sg, l.dx] s.heap h' → CharsAre vs' rest → h'.get? l.sg = some (lsO vs' k') → h'.get? l.dx = some (lexD w.params l.k1 l.k2 l.k3 l.k4 u1' l.u3 ln' (.ref l.st) (.ref l.pb)) → R (.ok (.ret (.str ⟨tok.toArray⟩ t))) { s with heap := h', toks := tk' }) :
    codeAny (model PySem.Challenge.rw_wn0047_01.row.prog w) (AT dp un gd outs) (.call (.ref 42) ⟨[.ref l.x], []⟩) R s := by
  revert X; k_fill; intro X
  obtain ⟨x, dx, pb, st', sd, spb, lam, ct, cell, sg, k1, k2, k3, k4, u3, j1, j2, j3, j4, j5, w1, w3, ctv, oc, oe⟩ := l
  have ok' := ok
  have ap0 := ap
  obtain ⟨⟨cvs, ctk, hc1, hc2⟩, hce⟩ := ok'
  dsimp only at hc1 hc2 hce hret
  dsimp only [Lex.objs] at N
  dsimp only [Lex.Apart] at ap
  obtain ⟨ap1, ap2, ap3, ap4, ap5, ap6, ap7, ap8⟩ := ap
  k_dflt (refine' enter (binds := [(Str.ofString "self", Value.ref x)]) B X T st N ?k6 ?k7 ?k8 ?k9 ?kB ?_ ?c2 ?c3 ?c4 ?c5; (case k6 => k_is); (case k7 => k_is); (case k8 => k_room); (case k9 => exact BindsTo.of_eq rfl); (case c5 => decide); (case kB => exact locs rfl); (case c2 => exact rfl); (case c3 => exact rfl); (case c4 => exact rfl))
  intro g L' h₁ tk gh F' N' B' X' T' l1
  (try k_lt l1)
  k_steps
  unfold Stop
  refine wpAny_For ?_
  walk1
  (rename News _ _ _ _ => NN)
  (rename Fr _ _ _ _ => FF)
  refine pyIter_ci (NN.get (.head _)) ?_
  refine ci_cons (l := ⟨x, dx, pb, st', sd, spb, lam, ct, cell, sg, k1, k2, k3, k4, u3, j1, j2, j3, j4, j5, w1, w3, ctv, oc, oe⟩) B' FF X' T' NN (by k_room) (by k_units) rfl rfl ok ap0 (by dsimp only; exact ⟨by k_extra "om", by k_extra "om"⟩) Cd (by have := hcs.length; omega) ?_
  intro u2 ln2 h2 tk2 F2 N2
  clear FF NN
  dsimp only [gtL, Lex.objs] at N2
  k_steps
  unfold Stop
  refine wpAny_For ?_
  walk1
  (rename News _ _ _ _ => NN)
  (rename Fr _ _ _ _ => FF)
  refine pyIter_ci (NN.get (.head _)) ?_
  have FM := fr_mA FF rfl
  refine loopA (l := ⟨x, dx, pb, st', sd, spb, lam, ct, cell, sg, k1, k2, k3, k4, u3, j1, j2, j3, j4, j5, w1, w3, ctv, oc, oe⟩) (s₀ := s) (tok := tok) (rest := rest) B' X' T' (by k_room) (by k_units) rfl rfl ok ap0 (by dsimp only; exact ⟨by k_extra "om", by k_extra "om"⟩) Cd ?tq ?te ?tn ?hR cs.length cs _ _ _ _ _ _ _ _ _ (Nat.le_refl _) hcs hq (by simp only [List.length_cons, List.length_nil]; omega) FM NN
  case tq =>
    intro c tc acc ta u1 ln vs k h tk Q E hc hl F N hQ
    subst hc
    dsimp only [gtL, Lex.objs] at N
    clear FF NN FM
    k_steps
    exact hQ _ _ (by k_asm) (by k_asm)
  case te =>
    intro tc d td acc ta u1 ln vs k h tk Q E hl hl2 F N hQ
    dsimp only [gtL, Lex.objs] at N
    clear FF NN FM
    k_steps
    unfold Stop
    refine wpAny_call ?_
    (rename Fr _ _ _ _ => F5)
    (rename News _ _ _ _ => N5)
    refine call_ownC B' F5 X' T' N5 rfl rfl rfl fun h₁ B1 X1 T1 st1 N1 => ?_
    refine read_cons (l := ⟨x, dx, pb, st', sd, spb, lam, ct, cell, sg, k1, k2, k3, k4, u3, j1, j2, j3, j4, j5, w1, w3, ctv, oc, oe⟩) (pm := pm) B1 X1 T1 st1 (by k_room) (by k_units) (own_sub N1 (by lcg_sub)) ok ap0 Cd (by k_extra "om") ?_
    intro u6 ln6 h6 tk6 kp d1 d2
    have F6 := fr_keeps F5 kp (fun b hb => by
      rcases List.mem_cons.mp hb with rfl | hb
      · exact NewsOff N5 (by k_mem)
      · cases List.mem_singleton.mp hb
        exact NewsOff N5 (by k_mem))
    have N6 := news_keeps2 N5 kp (by k_upd) (by k_upd) (by k_ne) d1 d2
    clear F5 N5 kp d1 d2
    dsimp only
    k_steps
    exact hQ _ _ _ _ _ _ (fr_mA3 (by k_asm) rfl (acc_snoc _ _) (fun y h1 h2 => by simp only [mA, if_neg h1, if_neg h2])) (by k_asm)
  case tn =>
    intro c tc acc ta u1 ln vs k h tk Q E hn hn2 hl F N hQ
    dsimp only [gtL, Lex.objs] at N
    clear FF NN FM
    k_steps
    exact hQ _ _ _ _ (fr_mA3 (by k_asm) rfl (acc_snoc _ _) (fun y h1 h2 => by simp only [mA, if_neg h1, if_neg h2])) (by k_asm)
  case hR =>
    intro ta u1 ln vs k h tk F7 hcs7 N7
    obtain ⟨m7, F7⟩ := F7
    dsimp only [gtL, Lex.objs] at N7
    dsimp only
    exact hret _ _ _ _ _ _ _ (keeps_as gh N F7 N7 (by tb_rel)) hcs7 (N7.get (by k_mem)) (N7.get (by k_mem))
end
-- C11
theorem lines18 : True := by
  k_with_none
  k_with "in" => first | with_reducible assumption | exact And.left (by with_reducible assumption) | exact And.left (And.right (by with_reducible assumption)) | exact And.left (And.right (And.right (by with_reducible assumption))) | exact And.left (And.right (And.right (And.right (by with_reducible assumption)))) | exact And.left (And.right (And.right (And.right (And.right (by with_reducible assumption))))) | exact And.left (And.right (And.right (And.right (And.right (And.right (by with_reducible assumption)))))) | exact And.left (And.right (And.right (And.right (And.right (And.right (And.right (by with_reducible assumption))))))) | exact And.left (And.right (And.right (And.right (And.right (And.right (And.right (And.right (by with_reducible assumption)))))))) | exact And.left (And.right (And.right (And.right (And.right (And.right (And.right (And.right (And.right (by with_reducible assumption))))))))) | exact And.left (And.right (And.right (And.right (And.right (And.right (And.right (And.right (And.right (And.right (by with_reducible assumption)))))))))) | exact And.left (And.right (And.right (And.right (And.right (And.right (And.right (And.right (And.right (And.right (And.right (by with_reducible assumption))))))))))) | exact And.left (And.right (And.right (And.right (And.right (And.right (And.right (And.right (And.right (And.right (And.right (And.right (by with_reducible assumption)))))))))))) | exact And.left (And.right (And.right (And.right (And.right (And.right (And.right (And.right (And.right (And.right (And.right (And.right (And.right (by with_reducible assumption))))))))))))) | exact And.left (And.right (And.right (And.right (And.right (And.right (And.right (And.right (And.right (And.right (And.right (And.right (And.right (And.right (by with_reducible assumption)))))))))))))) | exact And.left (And.right (And.right (And.right (And.right (And.right (And.right (And.right (And.right (And.right (And.right (And.right (And.right (And.right (And.right (by with_reducible assumption))))))))))))))) | exact And.right (by with_reducible assumption) | exact And.right (And.right (by with_reducible assumption)) | exact And.right (And.right (And.right (by with_reducible assumption))) | exact And.right (And.right (And.right (And.right (by with_reducible assumption)))) | exact And.right (And.right (And.right (And.right (And.right (by with_reducible assumption))))) | exact And.right (And.right (And.right (And.right (And.right (And.right (by with_reducible assumption)))))) | exact And.right (And.right (And.right (And.right (And.right (And.right (And.right (by with_reducible assumption))))))) | exact And.right (And.right (And.right (And.right (And.right (And.right (And.right (And.right (by with_reducible assumption)))))))) | exact And.right (And.right (And.right (And.right (And.right (And.right (And.right (And.right (And.right (by with_reducible assumption))))))))) | exact And.right (And.right (And.right (And.right (And.right (And.right (And.right (And.right (And.right (And.right (by with_reducible assumption)))))))))) | exact And.right (And.right (And.right (And.right (And.right (And.right (And.right (And.right (And.right (And.right (And.right (by with_reducible assumption))))))))))) | exact And.right (And.right (And.right (And.right (And.right (And.right (And.right (And.right (And.right (And.right (And.right (And.right (by with_reducible assumption)))))))))))) | exact And.right (And.right (And.right (And.right (And.right (And.right (And.right (And.right (And.right (And.right (And.right (And.right (And.right (by with_reducible assumption))))))))))))) | exact And.right (And.right (And.right (And.right (And.right (And.right (And.right (And.right (And.right (And.right (And.right (And.right (And.right (And.right (by with_reducible assumption))))))))))))))
  k_with "lt0" => first | with_reducible assumption | exact Nat.lt_trans (by with_reducible assumption) (by k_extra "lt0")
  k_with "lt" => first | k_extra "in" | exact Nat.lt_trans (by k_extra "in") (by k_extra "lt")
  k_with "ne0" => first | with_reducible assumption | exact Ne.symm (by with_reducible assumption) | exact Nat.succ_ne_self _ | exact Ne.symm (Nat.succ_ne_self _) | (refine Nat.ne_of_lt ?_; k_extra "lt0") | (refine Nat.ne_of_gt ?_; k_extra "lt0")
  k_with "ne1" => first | k_extra "in" | (refine Ne.symm ?_; k_extra "in") | (refine Nat.ne_of_lt ?_; k_extra "lt") | (refine Nat.ne_of_gt ?_; k_extra "lt")
  k_with "ne2" => first | (refine Nat.ne_of_lt ?_; k_extra "lt0") | (refine Nat.ne_of_gt ?_; k_extra "lt0") | (refine Nat.ne_of_lt (And.left (by with_reducible assumption)))  | (refine Nat.ne_of_gt (And.left (by with_reducible assumption))) | (refine Nat.ne_of_lt (Nat.lt_trans (And.right (by with_reducible assumption)) ?_); k_extra "lt0") | (refine Nat.ne_of_lt (And.right (by with_reducible assumption))) | (refine Nat.ne_of_gt (Nat.lt_trans ?_ (And.left (by with_reducible assumption))); k_extra "lt0")
  k_with "ne" => first | k_extra "ne0" | (refine Or.elim (by with_reducible assumption : @LT.lt Nat _ _ _ ∨ @LT.lt Nat _ _ _ ∧ @LT.lt Nat _ _ _) (fun q9 => ?_) (fun q9 => ?_); (all_goals k_extra "ne2")) | k_extra "ne1"
  k_with "ifs" => first | with_reducible rfl | exact Eq.trans (if_neg (by assumption)) (by k_extra "ifs")
  k_with "up" => first | exact up2 (by with_reducible assumption) rfl | exact up1 (by with_reducible assumption) rfl | exact up3 (by with_reducible assumption) rfl | exact up4 (by with_reducible assumption) rfl | exact up5 (by with_reducible assumption) rfl
  k_with "om" => first | with_reducible assumption | exact Nat.succ_pos _ | (with_reducible show @LT.lt Nat _ _ _; (try dsimp only); first | k_extra "lt0" | k_extra "up" | k_extra "lt") | (with_reducible show @Ne Nat _ _; k_extra "ne") | (with_reducible show @LT.lt Nat _ _ _ ∧ @LT.lt Nat _ _ _; refine And.intro ?_ ?_ <;> k_extra "om") | (with_reducible show @Eq Nat _ _; first | exact Nat.add_sub_add_right 6 1 _ | exact (Nat.add_sub_add_right 6 1 _).symm | exact Nat.succ_sub (by omega) | exact (Nat.succ_sub (by omega)).symm | exact Nat.sub_sub_self (by omega)) | omega
  k_with "k_room" => first | k_extra "up" | ((try simp only [depth_under_make, depth_under_kw, depth_in1, depth_deeper, depth_caller]); omega)
  k_with "tb_start" => first | assumption | omega | (simp only [List.length_cons, List.length_nil, List.length_append]; omega)
  k_with "tb_rel" => repeat' (first | exact List.forall_mem_nil _ | refine List.forall_mem_cons.mpr ⟨by first | exact Or.inr (by k_mem) | exact Or.inl (by simp), ?_⟩)
  k_with "k_units" => first | k_extra "up" | ((try simp only [units_in1, units_deeper, Around.mark_units, units_caller]); omega)
  k_with "call type:list" => (k_here; (with_reducible show wpAny _ _ (call (Value.type "list") [Value.str _ _]) _ _ _); k_dflt (refine' list_strN ?h ?F ?N ?z ?_; (case h => rfl); (case F => k_asm); (case N => k_asm); (case z => exact Nat.le_trans (by assumption) (Nat.le_of_ble_eq_true rfl)); k_whole); intro l₉ h₉ tk₉ vs₉ k₉ F₉ N₉ l1₉ hc₉; (try k_lt l1₉); (try k_sweep))
  k_with "truthy ref" => (k_here; k_dflt (refine' truthy_ls ?N ?m ?z ?_; (case N => k_asm); (case m => k_mem); (case z => tb_start)); (intro tk₉; (try dsimp only [List.isEmpty_cons, List.isEmpty_nil, Bool.not_false, Bool.not_true])))
  k_with "call builtin:list.pop" => (k_here; (with_reducible show wpAny _ _ (call (Value.builtin "list.pop") [Value.ref _, Value.int 0 _]) _ _ _); k_dflt (refine' pop0_N ?F ?N ?U ?z ?_; (case F => k_asm); (case N => k_asm); (case U => k_upd); (case z => tb_start)); (intro h₉ F₉ N₉; (try k_sweep)))
  k_with "getMethod ref" => (k_here; (with_reducible show wpAny _ _ (getMethod (Value.ref _) (PySem.Str.ofString "read") _) _ _ _); k_dflt (refine' kmu_own ?k1 ?k2 ?k3 ?k4 ?k5 ?_; (case k1 => k_asm); (case k2 => k_asm); (case k3 => k_inst); (case k4 => k_is); (case k5 => k_is); k_whole))
  k_with "exec For Name Name cons nil" => refine Stop.go ?_
  k_with "exec For Name Call cons nil" => refine Stop.go ?_
  k_with "call ref" => ((try dsimp only [List.nil_append, List.cons_append]); (with_reducible show wpAny _ _ (call (Value.ref 35) [Value.ref _]) _ _ _); refine Stop.go ?_)
  k_with "call builtin:iter" => (k_here; (with_reducible show wpAny _ _ (call (Value.builtin "iter") [Value.ref _, Value.str _ _]) _ _ _); k_dflt (refine' iter2_N ?F ?N ?m ?_; (case F => k_asm); (case N => k_asm); (case m => k_mem)); (intro it9₉ h9₉ F9₉ N9₉ l9₉; (try k_lt l9₉); (try k_sweep)))
  k_with "compareOp In str str" => refine in_ws ?_
  k_with "compareOp Eq str str" => first | refine eq_lit lit34 ?_ | refine eq_lit lit92 ?_
  exact True.intro
theorem nil_snoc (c : Nat) : (Str.ofString "" ++ (⟨#[c]⟩ : Str)) = ⟨[c].toArray⟩ := by
  apply Str.ext'
  rw [Str.cps_append, show (Str.ofString "").cps = #[] from by decide +kernel]
  simp
section
variable {w : World} {p : Program} {loose : List Str} {mean : ExcName → Option Value} {mg mb : Str → Option Value} {dp un : Nat} {gd : Option (List Code)} {outs : List Env} {base h₀ : Heap} {s : Shared} {R : Result → Shared → Prop}
  (B : Below (AT dp un gd outs) base outs h₀) (X : (hd.heap_39 w.params).In h₀) (T : Top p loose mean mg mb h₀) (st : h₀.StaysIn s.heap) (hdp : dp + 12 < recursionLimit) (hu : un + 120 < cLine)
include B X T st hdp hu
theorem token_plain {l : Lex} {pm : Value} {u1 : Tok} {ln : Int} {pbn sgn : Nat} {vs : List Value} {cs tok rest : List Nat} {tc : Tok} {c0 : Nat} (hc0 : ¬ isWs c0 ∧ c0 ≠ 34 ∧ c0 ≠ 92) (N : Own h₀ s.heap (l.objs w.params pm u1 ln [] pbn (.str ⟨#[c0]⟩ tc :: vs) sgn)) (ok : l.Ok) (ap : l.Apart) (Cd : CodeHd base 148 144)
    (hcs : CharsAre vs cs) (hq : plainTok [c0] cs = some (tok, rest)) (hlen : cs.length ≤ 9000)
    (hret : ∀ t u1' ln' vs' k' h' tk', Keeps [l.sg, l.dx] s.heap h' → CharsAre vs' rest → h'.get? l.sg = some (lsO vs' k') → h'.get? l.dx = some (lexD w.params l.k1 l.k2 l.k3 l.k4 u1' l.u3 ln' (.ref l.st) (.ref l.pb)) → R (.ok (.ret (.str ⟨tok.toArray⟩ t))) { s with heap := h', toks := tk' }) :
    codeAny (model PySem.Challenge.rw_wn0047_01.row.prog w) (AT dp un gd outs) (.call (.ref 42) ⟨[.ref l.x], []⟩) R s := by
  obtain ⟨hw0, h340, h920⟩ := hc0
  revert X; k_fill; intro X
  obtain ⟨x, dx, pb, st', sd, spb, lam, ct, cell, sg, k1, k2, k3, k4, u3, j1, j2, j3, j4, j5, w1, w3, ctv, oc, oe⟩ := l
  have ok' := ok
  have ap0 := ap
  obtain ⟨⟨cvs, ctk, hc1, hc2⟩, hce⟩ := ok'
  dsimp only at hc1 hc2 hce hret
  dsimp only [Lex.objs] at N
  dsimp only [Lex.Apart] at ap
  obtain ⟨ap1, ap2, ap3, ap4, ap5, ap6, ap7, ap8⟩ := ap
  k_dflt (refine' enter (binds := [(Str.ofString "self", Value.ref x)]) B X T st N ?k6 ?k7 ?k8 ?k9 ?kB ?_ ?c2 ?c3 ?c4 ?c5; (case k6 => k_is); (case k7 => k_is); (case k8 => k_room); (case k9 => exact BindsTo.of_eq rfl); (case c5 => decide); (case kB => exact locs rfl); (case c2 => exact rfl); (case c3 => exact rfl); (case c4 => exact rfl))
  intro g L' h₁ tk gh F' N' B' X' T' l1
  (try k_lt l1)
  k_steps
  unfold Stop
  refine wpAny_For ?_
  walk1
  (rename News _ _ _ _ => NN)
  (rename Fr _ _ _ _ => FF)
  refine pyIter_ci (NN.get (.head _)) ?_
  refine ci_cons (l := ⟨x, dx, pb, st', sd, spb, lam, ct, cell, sg, k1, k2, k3, k4, u3, j1, j2, j3, j4, j5, w1, w3, ctv, oc, oe⟩) B' FF X' T' NN (by k_room) (by k_units) rfl rfl ok ap0 (by dsimp only; exact ⟨by k_extra "om", by k_extra "om"⟩) Cd (by have := hcs.length; omega) ?_
  intro u2 ln2 h2 tk2 F2 N2
  clear FF NN
  dsimp only [gtL, Lex.objs] at N2
  k_steps
  unfold Stop
  refine wpAny_For ?_
  walk1
  (rename News _ _ _ _ => NN)
  (rename Fr _ _ _ _ => FF)
  refine pyIter_ci (NN.get (.head _)) ?_
  have FM := fr_mA3 (acc' := [c0]) FF rfl (nil_snoc c0) (fun _ _ _ => rfl)
  refine loopB (l := ⟨x, dx, pb, st', sd, spb, lam, ct, cell, sg, k1, k2, k3, k4, u3, j1, j2, j3, j4, j5, w1, w3, ctv, oc, oe⟩) (s₀ := s) (tok := tok) (rest := rest) B' X' T' (by k_room) (by k_units) rfl rfl ok ap0 (by dsimp only; exact ⟨by k_extra "om", by k_extra "om"⟩) Cd ?tq ?te ?tn ?hR cs.length cs _ _ _ _ _ _ _ _ _ (Nat.le_refl _) hcs hq (by simp only [List.length_cons, List.length_nil]; omega) FM NN
  case tq =>
    intro c tc acc ta u1 ln vs k h tk Q E hc hl F N hQ
    dsimp only [gtL, Lex.objs] at N
    clear FF NN FM
    rcases hc with rfl | rfl | rfl | rfl <;> (k_steps; exact hQ _ _ (by k_asm) (by k_asm))
  case te =>
    intro tc d td acc ta u1 ln vs k h tk Q E hl hl2 F N hQ
    dsimp only [gtL, Lex.objs] at N
    clear FF NN FM
    k_steps
    unfold Stop
    refine wpAny_call ?_
    (rename Fr _ _ _ _ => F5)
    (rename News _ _ _ _ => N5)
    refine call_ownC B' F5 X' T' N5 rfl rfl rfl fun h₁ B1 X1 T1 st1 N1 => ?_
    refine read_cons (l := ⟨x, dx, pb, st', sd, spb, lam, ct, cell, sg, k1, k2, k3, k4, u3, j1, j2, j3, j4, j5, w1, w3, ctv, oc, oe⟩) (pm := pm) B1 X1 T1 st1 (by k_room) (by k_units) (own_sub N1 (by lcg_sub)) ok ap0 Cd (by k_extra "om") ?_
    intro u6 ln6 h6 tk6 kp d1 d2
    have F6 := fr_keeps F5 kp (fun b hb => by
      rcases List.mem_cons.mp hb with rfl | hb
      · exact NewsOff N5 (by k_mem)
      · cases List.mem_singleton.mp hb
        exact NewsOff N5 (by k_mem))
    have N6 := news_keeps2 N5 kp (by k_upd) (by k_upd) (by k_ne) d1 d2
    clear F5 N5 kp d1 d2
    dsimp only
    k_steps
    exact hQ _ _ _ _ _ _ (fr_mA3 (by k_asm) rfl (acc_snoc _ _) (fun y h1 h2 => by simp only [mA, if_neg h1, if_neg h2])) (by k_asm)
  case tn =>
    intro c tc acc ta u1 ln vs k h tk Q E hn hn2 hl F N hQ
    dsimp only [gtL, Lex.objs] at N
    clear FF NN FM
    k_steps
    exact hQ _ _ _ _ (fr_mA3 (by k_asm) rfl (acc_snoc _ _) (fun y h1 h2 => by simp only [mA, if_neg h1, if_neg h2])) (by k_asm)
  case hR =>
    intro ta u1 ln vs k h tk F7 hcs7 N7
    obtain ⟨m7, F7⟩ := F7
    dsimp only [gtL, Lex.objs] at N7
    dsimp only
    exact hret _ _ _ _ _ _ _ (keeps_as gh N F7 N7 (by tb_rel)) hcs7 (N7.get (by k_mem)) (N7.get (by k_mem))
theorem token_push {l : Lex} {pm : Value} {u1 : Tok} {ln : Int} {pbn sgn : Nat} {v : Value} {pbs vs : List Value} (N : Own h₀ s.heap (l.objs w.params pm u1 ln (v :: pbs) pbn vs sgn)) (ap : l.Apart) (hlen : pbs.length ≤ 9000)
    (hret : ∀ h' tk', Keeps [l.pb] s.heap h' → h'.get? l.pb = some (lsO pbs (pbn + 1)) → R (.ok (.ret v)) { s with heap := h', toks := tk' }) :
    codeAny (model PySem.Challenge.rw_wn0047_01.row.prog w) (AT dp un gd outs) (.call (.ref 42) ⟨[.ref l.x], []⟩) R s := by
  revert X; k_fill; intro X
  obtain ⟨x, dx, pb, st', sd, spb, lam, ct, cell, sg, k1, k2, k3, k4, u3, j1, j2, j3, j4, j5, w1, w3, ctv, oc, oe⟩ := l
  have ap0 := ap
  dsimp only at hret
  dsimp only [Lex.objs] at N
  dsimp only [Lex.Apart] at ap
  obtain ⟨ap1, ap2, ap3, ap4, ap5, ap6, ap7, ap8⟩ := ap
  k_dflt (refine' enter (binds := [(Str.ofString "self", Value.ref x)]) B X T st N ?k6 ?k7 ?k8 ?k9 ?kB ?_ ?c2 ?c3 ?c4 ?c5; (case k6 => k_is); (case k7 => k_is); (case k8 => k_room); (case k9 => exact BindsTo.of_eq rfl); (case c5 => decide); (case kB => exact locs rfl); (case c2 => exact rfl); (case c3 => exact rfl); (case c4 => exact rfl))
  intro g L' h₁ tk gh F' N' B' X' T' l1
  (try k_lt l1)
  k_steps
  (rename News _ _ _ _ => NN)
  exact hret _ _ (keeps_as gh N (by k_asm) NN (by tb_rel)) (NN.get (by k_mem))
end
-- C12
theorem lines19 : True := by
  k_with_none
  k_with "in" => first | with_reducible assumption | exact And.left (by with_reducible assumption) | exact And.left (And.right (by with_reducible assumption)) | exact And.left (And.right (And.right (by with_reducible assumption))) | exact And.left (And.right (And.right (And.right (by with_reducible assumption)))) | exact And.left (And.right (And.right (And.right (And.right (by with_reducible assumption))))) | exact And.left (And.right (And.right (And.right (And.right (And.right (by with_reducible assumption)))))) | exact And.left (And.right (And.right (And.right (And.right (And.right (And.right (by with_reducible assumption))))))) | exact And.left (And.right (And.right (And.right (And.right (And.right (And.right (And.right (by with_reducible assumption)))))))) | exact And.left (And.right (And.right (And.right (And.right (And.right (And.right (And.right (And.right (by with_reducible assumption))))))))) | exact And.left (And.right (And.right (And.right (And.right (And.right (And.right (And.right (And.right (And.right (by with_reducible assumption)))))))))) | exact And.left (And.right (And.right (And.right (And.right (And.right (And.right (And.right (And.right (And.right (And.right (by with_reducible assumption))))))))))) | exact And.left (And.right (And.right (And.right (And.right (And.right (And.right (And.right (And.right (And.right (And.right (And.right (by with_reducible assumption)))))))))))) | exact And.left (And.right (And.right (And.right (And.right (And.right (And.right (And.right (And.right (And.right (And.right (And.right (And.right (by with_reducible assumption))))))))))))) | exact And.left (And.right (And.right (And.right (And.right (And.right (And.right (And.right (And.right (And.right (And.right (And.right (And.right (And.right (by with_reducible assumption)))))))))))))) | exact And.left (And.right (And.right (And.right (And.right (And.right (And.right (And.right (And.right (And.right (And.right (And.right (And.right (And.right (And.right (by with_reducible assumption))))))))))))))) | exact And.right (by with_reducible assumption) | exact And.right (And.right (by with_reducible assumption)) | exact And.right (And.right (And.right (by with_reducible assumption))) | exact And.right (And.right (And.right (And.right (by with_reducible assumption)))) | exact And.right (And.right (And.right (And.right (And.right (by with_reducible assumption))))) | exact And.right (And.right (And.right (And.right (And.right (And.right (by with_reducible assumption)))))) | exact And.right (And.right (And.right (And.right (And.right (And.right (And.right (by with_reducible assumption))))))) | exact And.right (And.right (And.right (And.right (And.right (And.right (And.right (And.right (by with_reducible assumption)))))))) | exact And.right (And.right (And.right (And.right (And.right (And.right (And.right (And.right (And.right (by with_reducible assumption))))))))) | exact And.right (And.right (And.right (And.right (And.right (And.right (And.right (And.right (And.right (And.right (by with_reducible assumption)))))))))) | exact And.right (And.right (And.right (And.right (And.right (And.right (And.right (And.right (And.right (And.right (And.right (by with_reducible assumption))))))))))) | exact And.right (And.right (And.right (And.right (And.right (And.right (And.right (And.right (And.right (And.right (And.right (And.right (by with_reducible assumption)))))))))))) | exact And.right (And.right (And.right (And.right (And.right (And.right (And.right (And.right (And.right (And.right (And.right (And.right (And.right (by with_reducible assumption))))))))))))) | exact And.right (And.right (And.right (And.right (And.right (And.right (And.right (And.right (And.right (And.right (And.right (And.right (And.right (And.right (by with_reducible assumption))))))))))))))
  k_with "lt0" => first | with_reducible assumption | exact Nat.lt_trans (by with_reducible assumption) (by k_extra "lt0")
  k_with "lt" => first | k_extra "in" | exact Nat.lt_trans (by k_extra "in") (by k_extra "lt")
  k_with "ne0" => first | with_reducible assumption | exact Ne.symm (by with_reducible assumption) | exact Nat.succ_ne_self _ | exact Ne.symm (Nat.succ_ne_self _) | (refine Nat.ne_of_lt ?_; k_extra "lt0") | (refine Nat.ne_of_gt ?_; k_extra "lt0")
  k_with "ne1" => first | k_extra "in" | (refine Ne.symm ?_; k_extra "in") | (refine Nat.ne_of_lt ?_; k_extra "lt") | (refine Nat.ne_of_gt ?_; k_extra "lt")
  k_with "ne2" => first | (refine Nat.ne_of_lt ?_; k_extra "lt0") | (refine Nat.ne_of_gt ?_; k_extra "lt0") | (refine Nat.ne_of_lt (And.left (by with_reducible assumption)))  | (refine Nat.ne_of_gt (And.left (by with_reducible assumption))) | (refine Nat.ne_of_lt (Nat.lt_trans (And.right (by with_reducible assumption)) ?_); k_extra "lt0") | (refine Nat.ne_of_lt (And.right (by with_reducible assumption))) | (refine Nat.ne_of_gt (Nat.lt_trans ?_ (And.left (by with_reducible assumption))); k_extra "lt0")
  k_with "ne" => first | k_extra "ne0" | (refine Or.elim (by with_reducible assumption : @LT.lt Nat _ _ _ ∨ @LT.lt Nat _ _ _ ∧ @LT.lt Nat _ _ _) (fun q9 => ?_) (fun q9 => ?_); (all_goals k_extra "ne2")) | k_extra "ne1"
  k_with "ifs" => first | with_reducible rfl | exact Eq.trans (if_neg (by assumption)) (by k_extra "ifs")
  k_with "up" => first | exact up2 (by with_reducible assumption) rfl | exact up1 (by with_reducible assumption) rfl | exact up3 (by with_reducible assumption) rfl | exact up4 (by with_reducible assumption) rfl | exact up5 (by with_reducible assumption) rfl
  k_with "om" => first | with_reducible assumption | exact Nat.succ_pos _ | (with_reducible show @LT.lt Nat _ _ _; (try dsimp only); first | k_extra "lt0" | k_extra "up" | k_extra "lt") | (with_reducible show @Ne Nat _ _; k_extra "ne") | (with_reducible show @LT.lt Nat _ _ _ ∧ @LT.lt Nat _ _ _; refine And.intro ?_ ?_ <;> k_extra "om") | (with_reducible show @Eq Nat _ _; first | exact Nat.add_sub_add_right 6 1 _ | exact (Nat.add_sub_add_right 6 1 _).symm | exact Nat.succ_sub (by omega) | exact (Nat.succ_sub (by omega)).symm | exact Nat.sub_sub_self (by omega)) | omega
  k_with "k_room" => first | k_extra "up" | ((try simp only [depth_under_make, depth_under_kw, depth_in1, depth_deeper, depth_caller]); omega)
  k_with "tb_start" => first | assumption | omega | (simp only [List.length_cons, List.length_nil, List.length_append]; omega)
  k_with "tb_rel" => repeat' (first | exact List.forall_mem_nil _ | refine List.forall_mem_cons.mpr ⟨by first | exact Or.inr (by k_mem) | exact Or.inl (by simp), ?_⟩)
  k_with "k_units" => first | k_extra "up" | ((try simp only [units_in1, units_deeper, Around.mark_units, units_caller]); omega)
  k_with "call type:list" => (k_here; (with_reducible show wpAny _ _ (call (Value.type "list") [Value.str _ _]) _ _ _); k_dflt (refine' list_strN ?h ?F ?N ?z ?_; (case h => rfl); (case F => k_asm); (case N => k_asm); (case z => exact Nat.le_trans (by assumption) (Nat.le_of_ble_eq_true rfl)); k_whole); intro l₉ h₉ tk₉ vs₉ k₉ F₉ N₉ l1₉ hc₉; (try k_lt l1₉); (try k_sweep))
  k_with "truthy ref" => (k_here; k_dflt (refine' truthy_ls ?N ?m ?z ?_; (case N => k_asm); (case m => k_mem); (case z => tb_start)); (intro tk₉; (try dsimp only [List.isEmpty_cons, List.isEmpty_nil, Bool.not_false, Bool.not_true])))
  k_with "call builtin:list.pop" => (k_here; (with_reducible show wpAny _ _ (call (Value.builtin "list.pop") [Value.ref _, Value.int 0 _]) _ _ _); k_dflt (refine' pop0_N ?F ?N ?U ?z ?_; (case F => k_asm); (case N => k_asm); (case U => k_upd); (case z => tb_start)); (intro h₉ F₉ N₉; (try k_sweep)))
  k_with "getMethod ref" => (k_here; (with_reducible show wpAny _ _ (getMethod (Value.ref _) (PySem.Str.ofString "read") _) _ _ _); k_dflt (refine' kmu_own ?k1 ?k2 ?k3 ?k4 ?k5 ?_; (case k1 => k_asm); (case k2 => k_asm); (case k3 => k_inst); (case k4 => k_is); (case k5 => k_is); k_whole))
  k_with "exec For Name Name cons nil" => refine Stop.go ?_
  k_with "exec For Name Call cons nil" => refine Stop.go ?_
  k_with "call ref" => ((try dsimp only [List.nil_append, List.cons_append]); (with_reducible show wpAny _ _ (call (Value.ref 35) [Value.ref _]) _ _ _); refine Stop.go ?_)
  k_with "call builtin:iter" => (k_here; (with_reducible show wpAny _ _ (call (Value.builtin "iter") [Value.ref _, Value.str _ _]) _ _ _); k_dflt (refine' iter2_N ?F ?N ?m ?_; (case F => k_asm); (case N => k_asm); (case m => k_mem)); (intro it9₉ h9₉ F9₉ N9₉ l9₉; (try k_lt l9₉); (try k_sweep)))
  k_with "compareOp In str str" => refine in_ws ?_
  k_with "compareOp Eq str str" => first | refine eq_lit lit34 ?_ | refine eq_lit lit92 ?_
  exact True.intro
section
variable {w : World} {p : Program} {loose : List Str} {mean : ExcName → Option Value} {mg mb : Str → Option Value} {dp un : Nat} {gd : Option (List Code)} {outs : List Env} {base h₀ : Heap} {s : Shared} {R : Result → Shared → Prop}
  (B : Below (AT dp un gd outs) base outs h₀) (X : (hd.heap_39 w.params).In h₀) (T : Top p loose mean mg mb h₀) (st : h₀.StaysIn s.heap) (hdp : dp + 12 < recursionLimit) (hu : un + 120 < cLine)
include B X T st hdp hu
theorem token_end {l : Lex} {pm : Value} {u1 : Tok} {ln : Int} {pbn sgn : Nat} (N : Own h₀ s.heap (l.objs w.params pm u1 ln [] pbn [] sgn)) (ok : l.Ok) (ap : l.Apart) (Cd : CodeHd base 148 144)
    (hret : ∀ t u1' ln' k' h' tk', Keeps [l.sg, l.dx] s.heap h' → h'.get? l.sg = some (lsO [] k') → h'.get? l.dx = some (lexD w.params l.k1 l.k2 l.k3 l.k4 u1' l.u3 ln' (.ref l.st) (.ref l.pb)) → R (.ok (.ret (.str (Str.ofString "") t))) { s with heap := h', toks := tk' }) :
    codeAny (model PySem.Challenge.rw_wn0047_01.row.prog w) (AT dp un gd outs) (.call (.ref 42) ⟨[.ref l.x], []⟩) R s := by
  revert X; k_fill; intro X
  obtain ⟨x, dx, pb, st', sd, spb, lam, ct, cell, sg, k1, k2, k3, k4, u3, j1, j2, j3, j4, j5, w1, w3, ctv, oc, oe⟩ := l
  have ok' := ok
  have ap0 := ap
  obtain ⟨⟨cvs, ctk, hc1, hc2⟩, hce⟩ := ok'
  dsimp only at hc1 hc2 hce hret
  dsimp only [Lex.objs] at N
  dsimp only [Lex.Apart] at ap
  obtain ⟨ap1, ap2, ap3, ap4, ap5, ap6, ap7, ap8⟩ := ap
  k_dflt (refine' enter (binds := [(Str.ofString "self", Value.ref x)]) B X T st N ?k6 ?k7 ?k8 ?k9 ?kB ?_ ?c2 ?c3 ?c4 ?c5; (case k6 => k_is); (case k7 => k_is); (case k8 => k_room); (case k9 => exact BindsTo.of_eq rfl); (case c5 => decide); (case kB => exact locs rfl); (case c2 => exact rfl); (case c3 => exact rfl); (case c4 => exact rfl))
  intro g L' h₁ tk gh F' N' B' X' T' l1
  (try k_lt l1)
  k_steps
  unfold Stop
  refine wpAny_For ?_
  walk1
  (rename News _ _ _ _ => NN)
  (rename Fr _ _ _ _ => FF)
  refine pyIter_ci (NN.get (.head _)) ?_
  refine ci_nil (l := ⟨x, dx, pb, st', sd, spb, lam, ct, cell, sg, k1, k2, k3, k4, u3, j1, j2, j3, j4, j5, w1, w3, ctv, oc, oe⟩) B' FF X' T' NN (by k_room) (by k_units) rfl ok ap0 (by dsimp only; exact ⟨by k_extra "om", by k_extra "om"⟩) Cd ?_
  intro h7 tk7 F7 N7
  clear FF NN
  dsimp only [gtL, Lex.objs] at N7
  dsimp only
  k_steps
  (rename News _ _ _ _ => N8)
  exact hret _ _ _ _ _ _ (keeps_as gh N (by k_asm) N8 (by tb_rel)) (N8.get (by k_mem)) (N8.get (by k_mem))
theorem token_blank {l : Lex} {pm : Value} {u1 : Tok} {ln : Int} {pbn sgn : Nat} {tc : Tok} (N : Own h₀ s.heap (l.objs w.params pm u1 ln [] pbn [.str ⟨#[32]⟩ tc] sgn)) (ok : l.Ok) (ap : l.Apart) (Cd : CodeHd base 148 144)
    (hret : ∀ t u1' ln' k' h' tk', Keeps [l.sg, l.dx] s.heap h' → h'.get? l.sg = some (lsO [] k') → h'.get? l.dx = some (lexD w.params l.k1 l.k2 l.k3 l.k4 u1' l.u3 ln' (.ref l.st) (.ref l.pb)) → R (.ok (.ret (.str (Str.ofString "") t))) { s with heap := h', toks := tk' }) :
    codeAny (model PySem.Challenge.rw_wn0047_01.row.prog w) (AT dp un gd outs) (.call (.ref 42) ⟨[.ref l.x], []⟩) R s := by
  revert X; k_fill; intro X
  obtain ⟨x, dx, pb, st', sd, spb, lam, ct, cell, sg, k1, k2, k3, k4, u3, j1, j2, j3, j4, j5, w1, w3, ctv, oc, oe⟩ := l
  have ok' := ok
  have ap0 := ap
  obtain ⟨⟨cvs, ctk, hc1, hc2⟩, hce⟩ := ok'
  dsimp only at hc1 hc2 hce hret
  dsimp only [Lex.objs] at N
  dsimp only [Lex.Apart] at ap
  obtain ⟨ap1, ap2, ap3, ap4, ap5, ap6, ap7, ap8⟩ := ap
  k_dflt (refine' enter (binds := [(Str.ofString "self", Value.ref x)]) B X T st N ?k6 ?k7 ?k8 ?k9 ?kB ?_ ?c2 ?c3 ?c4 ?c5; (case k6 => k_is); (case k7 => k_is); (case k8 => k_room); (case k9 => exact BindsTo.of_eq rfl); (case c5 => decide); (case kB => exact locs rfl); (case c2 => exact rfl); (case c3 => exact rfl); (case c4 => exact rfl))
  intro g L' h₁ tk gh F' N' B' X' T' l1
  (try k_lt l1)
  k_steps
  unfold Stop
  refine wpAny_For ?_
  walk1
  (rename News _ _ _ _ => NN)
  (rename Fr _ _ _ _ => FF)
  refine pyIter_ci (NN.get (.head _)) ?_
  refine ci_cons (l := ⟨x, dx, pb, st', sd, spb, lam, ct, cell, sg, k1, k2, k3, k4, u3, j1, j2, j3, j4, j5, w1, w3, ctv, oc, oe⟩) B' FF X' T' NN (by k_room) (by k_units) rfl rfl ok ap0 (by dsimp only; exact ⟨by k_extra "om", by k_extra "om"⟩) Cd (by simp) ?_
  intro u2 ln2 h2 tk2 F2 N2
  clear FF NN
  dsimp only [gtL, Lex.objs] at N2
  k_steps
  (rename News _ _ _ _ => NN)
  (rename Fr _ _ _ _ => FF)
  refine ci_nil (l := ⟨x, dx, pb, st', sd, spb, lam, ct, cell, sg, k1, k2, k3, k4, u3, j1, j2, j3, j4, j5, w1, w3, ctv, oc, oe⟩) B' FF X' T' NN (by k_room) (by k_units) rfl ok ap0 (by dsimp only; exact ⟨by k_extra "om", by k_extra "om"⟩) Cd ?_
  intro h7 tk7 F7 N7
  clear FF NN
  dsimp only [gtL, Lex.objs] at N7
  dsimp only
  k_steps
  (rename News _ _ _ _ => N8)
  exact hret _ _ _ _ _ _ (keeps_as gh N (by k_asm) N8 (by tb_rel)) (N8.get (by k_mem)) (N8.get (by k_mem))
end
-- C13
theorem lines20 : True := by
  k_with_none
  k_with "in" => first | with_reducible assumption | exact And.left (by with_reducible assumption) | exact And.left (And.right (by with_reducible assumption)) | exact And.left (And.right (And.right (by with_reducible assumption))) | exact And.left (And.right (And.right (And.right (by with_reducible assumption)))) | exact And.left (And.right (And.right (And.right (And.right (by with_reducible assumption))))) | exact And.left (And.right (And.right (And.right (And.right (And.right (by with_reducible assumption)))))) | exact And.left (And.right (And.right (And.right (And.right (And.right (And.right (by with_reducible assumption))))))) | exact And.left (And.right (And.right (And.right (And.right (And.right (And.right (And.right (by with_reducible assumption)))))))) | exact And.left (And.right (And.right (And.right (And.right (And.right (And.right (And.right (And.right (by with_reducible assumption))))))))) | exact And.left (And.right (And.right (And.right (And.right (And.right (And.right (And.right (And.right (And.right (by with_reducible assumption)))))))))) | exact And.left (And.right (And.right (And.right (And.right (And.right (And.right (And.right (And.right (And.right (And.right (by with_reducible assumption))))))))))) | exact And.left (And.right (And.right (And.right (And.right (And.right (And.right (And.right (And.right (And.right (And.right (And.right (by with_reducible assumption)))))))))))) | exact And.left (And.right (And.right (And.right (And.right (And.right (And.right (And.right (And.right (And.right (And.right (And.right (And.right (by with_reducible assumption))))))))))))) | exact And.left (And.right (And.right (And.right (And.right (And.right (And.right (And.right (And.right (And.right (And.right (And.right (And.right (And.right (by with_reducible assumption)))))))))))))) | exact And.left (And.right (And.right (And.right (And.right (And.right (And.right (And.right (And.right (And.right (And.right (And.right (And.right (And.right (And.right (by with_reducible assumption))))))))))))))) | exact And.right (by with_reducible assumption) | exact And.right (And.right (by with_reducible assumption)) | exact And.right (And.right (And.right (by with_reducible assumption))) | exact And.right (And.right (And.right (And.right (by with_reducible assumption)))) | exact And.right (And.right (And.right (And.right (And.right (by with_reducible assumption))))) | exact And.right (And.right (And.right (And.right (And.right (And.right (by with_reducible assumption)))))) | exact And.right (And.right (And.right (And.right (And.right (And.right (And.right (by with_reducible assumption))))))) | exact And.right (And.right (And.right (And.right (And.right (And.right (And.right (And.right (by with_reducible assumption)))))))) | exact And.right (And.right (And.right (And.right (And.right (And.right (And.right (And.right (And.right (by with_reducible assumption))))))))) | exact And.right (And.right (And.right (And.right (And.right (And.right (And.right (And.right (And.right (And.right (by with_reducible assumption)))))))))) | exact And.right (And.right (And.right (And.right (And.right (And.right (And.right (And.right (And.right (And.right (And.right (by with_reducible assumption))))))))))) | exact And.right (And.right (And.right (And.right (And.right (And.right (And.right (And.right (And.right (And.right (And.right (And.right (by with_reducible assumption)))))))))))) | exact And.right (And.right (And.right (And.right (And.right (And.right (And.right (And.right (And.right (And.right (And.right (And.right (And.right (by with_reducible assumption))))))))))))) | exact And.right (And.right (And.right (And.right (And.right (And.right (And.right (And.right (And.right (And.right (And.right (And.right (And.right (And.right (by with_reducible assumption))))))))))))))
  k_with "lt0" => first | with_reducible assumption | exact Nat.lt_trans (by with_reducible assumption) (by k_extra "lt0")
  k_with "lt" => first | k_extra "in" | exact Nat.lt_trans (by k_extra "in") (by k_extra "lt")
  k_with "ne0" => first | with_reducible assumption | exact Ne.symm (by with_reducible assumption) | exact Nat.succ_ne_self _ | exact Ne.symm (Nat.succ_ne_self _) | (refine Nat.ne_of_lt ?_; k_extra "lt0") | (refine Nat.ne_of_gt ?_; k_extra "lt0")
  k_with "ne1" => first | k_extra "in" | (refine Ne.symm ?_; k_extra "in") | (refine Nat.ne_of_lt ?_; k_extra "lt") | (refine Nat.ne_of_gt ?_; k_extra "lt")
  k_with "ne2" => first | (refine Nat.ne_of_lt ?_; k_extra "lt0") | (refine Nat.ne_of_gt ?_; k_extra "lt0") | (refine Nat.ne_of_lt (And.left (by with_reducible assumption)))  | (refine Nat.ne_of_gt (And.left (by with_reducible assumption))) | (refine Nat.ne_of_lt (Nat.lt_trans (And.right (by with_reducible assumption)) ?_); k_extra "lt0") | (refine Nat.ne_of_lt (And.right (by with_reducible assumption))) | (refine Nat.ne_of_gt (Nat.lt_trans ?_ (And.left (by with_reducible assumption))); k_extra "lt0")
  k_with "ne" => first | k_extra "ne0" | (refine Or.elim (by with_reducible assumption : @LT.lt Nat _ _ _ ∨ @LT.lt Nat _ _ _ ∧ @LT.lt Nat _ _ _) (fun q9 => ?_) (fun q9 => ?_); (all_goals k_extra "ne2")) | k_extra "ne1"
  k_with "ifs" => first | with_reducible rfl | exact Eq.trans (if_neg (by assumption)) (by k_extra "ifs")
  k_with "up" => first | exact up2 (by with_reducible assumption) rfl | exact up1 (by with_reducible assumption) rfl | exact up3 (by with_reducible assumption) rfl | exact up4 (by with_reducible assumption) rfl | exact up5 (by with_reducible assumption) rfl
  k_with "om" => first | with_reducible assumption | exact Nat.succ_pos _ | (with_reducible show @LT.lt Nat _ _ _; (try dsimp only); first | k_extra "lt0" | k_extra "up" | k_extra "lt") | (with_reducible show @Ne Nat _ _; k_extra "ne") | (with_reducible show @LT.lt Nat _ _ _ ∧ @LT.lt Nat _ _ _; refine And.intro ?_ ?_ <;> k_extra "om") | (with_reducible show @Eq Nat _ _; first | exact Nat.add_sub_add_right 6 1 _ | exact (Nat.add_sub_add_right 6 1 _).symm | exact Nat.succ_sub (by omega) | exact (Nat.succ_sub (by omega)).symm | exact Nat.sub_sub_self (by omega)) | omega
  k_with "k_room" => first | k_extra "up" | ((try simp only [depth_under_make, depth_under_kw, depth_in1, depth_deeper, depth_caller]); omega)
  k_with "tb_start" => first | assumption | omega | (simp only [List.length_cons, List.length_nil, List.length_append]; omega)
  k_with "tb_rel" => repeat' (first | exact List.forall_mem_nil _ | refine List.forall_mem_cons.mpr ⟨by first | exact Or.inr (by k_mem) | exact Or.inl (by simp), ?_⟩)
  k_with "k_units" => first | k_extra "up" | ((try simp only [units_in1, units_deeper, Around.mark_units, units_caller]); omega)
  k_with "call type:list" => (k_here; (with_reducible show wpAny _ _ (call (Value.type "list") [Value.str _ _]) _ _ _); k_dflt (refine' list_strN ?h ?F ?N ?z ?_; (case h => rfl); (case F => k_asm); (case N => k_asm); (case z => exact Nat.le_trans (by assumption) (Nat.le_of_ble_eq_true rfl)); k_whole); intro l₉ h₉ tk₉ vs₉ k₉ F₉ N₉ l1₉ hc₉; (try k_lt l1₉); (try k_sweep))
  k_with "truthy ref" => (k_here; k_dflt (refine' truthy_ls ?N ?m ?z ?_; (case N => k_asm); (case m => k_mem); (case z => tb_start)); (intro tk₉; (try dsimp only [List.isEmpty_cons, List.isEmpty_nil, Bool.not_false, Bool.not_true])))
  k_with "call builtin:list.pop" => (k_here; (with_reducible show wpAny _ _ (call (Value.builtin "list.pop") [Value.ref _, Value.int 0 _]) _ _ _); k_dflt (refine' pop0_N ?F ?N ?U ?z ?_; (case F => k_asm); (case N => k_asm); (case U => k_upd); (case z => tb_start)); (intro h₉ F₉ N₉; (try k_sweep)))
  exact True.intro
section
variable {w : World} {p : Program} {loose : List Str} {mean : ExcName → Option Value} {mg mb : Str → Option Value} {dp un : Nat} {gd : Option (List Code)} {outs : List Env} {base h₀ : Heap} {s : Shared} {R : Result → Shared → Prop}
  (B : Below (AT dp un gd outs) base outs h₀) (X : (hd.heap_39 w.params).In h₀) (T : Top p loose mean mg mb h₀) (st : h₀.StaysIn s.heap) (hdp : dp + 12 < recursionLimit) (hu : un + 120 < cLine)
include B X T st hdp hu
theorem push_spec {l : Lex} {u1 : Tok} {ln : Int} {pbn : Nat} {v : Value} {pbs : List Value} (N : Own h₀ s.heap [(l.pb, lsO pbs pbn), (l.dx, lexD w.params l.k1 l.k2 l.k3 l.k4 u1 l.u3 ln (.ref l.st) (.ref l.pb)), (l.x, instObj 52 l.dx)]) (ap : l.Apart) (hlen : pbs.length ≤ 9000)
    (hret : ∀ h' tk', Keeps [l.pb] s.heap h' → h'.get? l.pb = some (lsO (pbs ++ [v]) (pbn + 1)) → R (.ok (.ret .none)) { s with heap := h', toks := tk' }) :
    codeAny (model PySem.Challenge.rw_wn0047_01.row.prog w) (AT dp un gd outs) (.call (.ref 49) ⟨[.ref l.x, v], []⟩) R s := by
  revert X; k_fill; intro X
  obtain ⟨x, dx, pb, st', sd, spb, lam, ct, cell, sg, k1, k2, k3, k4, u3, j1, j2, j3, j4, j5, w1, w3, ctv, oc, oe⟩ := l
  dsimp only at N hret
  dsimp only [Lex.Apart] at ap
  obtain ⟨ap1, ap2, ap3, ap4, ap5, ap6, ap7, ap8⟩ := ap
  k_dflt (refine' enter (binds := [(Str.ofString "self", Value.ref x), (Str.ofString "token", v)]) B X T st N ?k6 ?k7 ?k8 ?k9 ?kB ?_ ?c2 ?c3 ?c4 ?c5; (case k6 => k_is); (case k7 => k_is); (case k8 => k_room); (case k9 => exact BindsTo.of_eq rfl); (case c5 => decide); (case kB => exact locs rfl); (case c2 => exact rfl); (case c3 => exact rfl); (case c4 => exact rfl))
  intro g L' h₁ tk gh F' N' B' X' T' l1
  (try k_lt l1)
  k_steps
  (rename News _ _ _ _ => NN)
  have Z := NN.get (.head _)
  simp only [List.push_toArray] at Z
  exact hret _ _ (keeps_as gh N (by k_asm) NN (by tb_rel)) Z
theorem strcoll_spec {x y : Str} {tx ty : Tok} (N : Own h₀ s.heap [])
    (hret : ∀ t h' tk', Keeps [] s.heap h' → R (.ok (.ret (.int (b2i (decide (y.cps.toList < x.cps.toList)) - b2i (decide (x.cps.toList < y.cps.toList))) t))) { s with heap := h', toks := tk' }) :
    codeAny (model PySem.Challenge.rw_wn0047_01.row.prog w) (AT dp un gd outs) (.call (.ref 114) ⟨[.str x tx, .str y ty], []⟩) R s := by
  revert X; k_fill; intro X
  k_dflt (refine' enter (binds := [(Str.ofString "a", Value.str x tx), (Str.ofString "b", Value.str y ty)]) B X T st N ?k6 ?k7 ?k8 ?k9 ?kB ?_ ?c2 ?c3 ?c4 ?c5; (case k6 => k_is); (case k7 => k_is); (case k8 => k_room); (case k9 => exact BindsTo.of_eq rfl); (case c5 => decide); (case kB => exact locs rfl); (case c2 => exact rfl); (case c3 => exact rfl); (case c4 => exact rfl))
  intro g L' h₁ tk gh F' N' B' X' T' l1
  (try k_lt l1)
  k_steps
  exact hret _ _ _ (keeps_as gh N (by k_asm) (by k_asm) (by tb_rel))
/-- a node's name -/
noncomputable def nameOf (seed node : Int) : Str := Txt.item (Str.ofString "ab\"\\ !") (seed.fmod 6) ++ Txt.item (Str.ofString "ab\"\\ !") ((seed.fdiv 6).fmod 6) ++ Txt.item (Str.ofString "cdefg") node
theorem name_spec {seed node : Int} {t1 t2 : Tok} (N : Own h₀ s.heap []) (hn : 0 ≤ node ∧ node < 5)
    (hret : ∀ t h' tk', Keeps [] s.heap h' → R (.ok (.ret (.str (nameOf seed node) t))) { s with heap := h', toks := tk' }) :
    codeAny (model PySem.Challenge.rw_wn0047_01.row.prog w) (AT dp un gd outs) (.call (.ref 135) ⟨[.int seed t1, .int node t2], []⟩) R s := by
  revert X; k_fill; intro X
  k_dflt (refine' enter (binds := [(Str.ofString "seed", Value.int seed t1), (Str.ofString "node", Value.int node t2)]) B X T st N ?k6 ?k7 ?k8 ?k9 ?kB ?_ ?c2 ?c3 ?c4 ?c5; (case k6 => k_is); (case k7 => k_is); (case k8 => k_room); (case k9 => exact BindsTo.of_eq rfl); (case c5 => decide); (case kB => exact locs rfl); (case c2 => exact rfl); (case c3 => exact rfl); (case c4 => exact rfl))
  intro g L' h₁ tk gh F' N' B' X' T' l1
  (try k_lt l1)
  k_steps
  exact hret _ _ _ (keeps_as gh N (by k_asm) (by k_asm) (by tb_rel))
end
-- C14
section
theorem lines21 : True := by
  k_with_none
  k_with "in" => first | with_reducible assumption | exact And.left (by with_reducible assumption) | exact And.left (And.right (by with_reducible assumption)) | exact And.left (And.right (And.right (by with_reducible assumption))) | exact And.left (And.right (And.right (And.right (by with_reducible assumption)))) | exact And.left (And.right (And.right (And.right (And.right (by with_reducible assumption))))) | exact And.left (And.right (And.right (And.right (And.right (And.right (by with_reducible assumption)))))) | exact And.left (And.right (And.right (And.right (And.right (And.right (And.right (by with_reducible assumption))))))) | exact And.left (And.right (And.right (And.right (And.right (And.right (And.right (And.right (by with_reducible assumption)))))))) | exact And.left (And.right (And.right (And.right (And.right (And.right (And.right (And.right (And.right (by with_reducible assumption))))))))) | exact And.left (And.right (And.right (And.right (And.right (And.right (And.right (And.right (And.right (And.right (by with_reducible assumption)))))))))) | exact And.left (And.right (And.right (And.right (And.right (And.right (And.right (And.right (And.right (And.right (And.right (by with_reducible assumption))))))))))) | exact And.left (And.right (And.right (And.right (And.right (And.right (And.right (And.right (And.right (And.right (And.right (And.right (by with_reducible assumption)))))))))))) | exact And.left (And.right (And.right (And.right (And.right (And.right (And.right (And.right (And.right (And.right (And.right (And.right (And.right (by with_reducible assumption))))))))))))) | exact And.left (And.right (And.right (And.right (And.right (And.right (And.right (And.right (And.right (And.right (And.right (And.right (And.right (And.right (by with_reducible assumption)))))))))))))) | exact And.left (And.right (And.right (And.right (And.right (And.right (And.right (And.right (And.right (And.right (And.right (And.right (And.right (And.right (And.right (by with_reducible assumption))))))))))))))) | exact And.right (by with_reducible assumption) | exact And.right (And.right (by with_reducible assumption)) | exact And.right (And.right (And.right (by with_reducible assumption))) | exact And.right (And.right (And.right (And.right (by with_reducible assumption)))) | exact And.right (And.right (And.right (And.right (And.right (by with_reducible assumption))))) | exact And.right (And.right (And.right (And.right (And.right (And.right (by with_reducible assumption)))))) | exact And.right (And.right (And.right (And.right (And.right (And.right (And.right (by with_reducible assumption))))))) | exact And.right (And.right (And.right (And.right (And.right (And.right (And.right (And.right (by with_reducible assumption)))))))) | exact And.right (And.right (And.right (And.right (And.right (And.right (And.right (And.right (And.right (by with_reducible assumption))))))))) | exact And.right (And.right (And.right (And.right (And.right (And.right (And.right (And.right (And.right (And.right (by with_reducible assumption)))))))))) | exact And.right (And.right (And.right (And.right (And.right (And.right (And.right (And.right (And.right (And.right (And.right (by with_reducible assumption))))))))))) | exact And.right (And.right (And.right (And.right (And.right (And.right (And.right (And.right (And.right (And.right (And.right (And.right (by with_reducible assumption)))))))))))) | exact And.right (And.right (And.right (And.right (And.right (And.right (And.right (And.right (And.right (And.right (And.right (And.right (And.right (by with_reducible assumption))))))))))))) | exact And.right (And.right (And.right (And.right (And.right (And.right (And.right (And.right (And.right (And.right (And.right (And.right (And.right (And.right (by with_reducible assumption))))))))))))))
  k_with "lt0" => first | with_reducible assumption | exact Nat.lt_trans (by with_reducible assumption) (by k_extra "lt0")
  k_with "lt" => first | k_extra "in" | exact Nat.lt_trans (by k_extra "in") (by k_extra "lt")
  k_with "ne0" => first | with_reducible assumption | exact Ne.symm (by with_reducible assumption) | exact Nat.succ_ne_self _ | exact Ne.symm (Nat.succ_ne_self _) | (refine Nat.ne_of_lt ?_; k_extra "lt0") | (refine Nat.ne_of_gt ?_; k_extra "lt0")
  k_with "ne1" => first | k_extra "in" | (refine Ne.symm ?_; k_extra "in") | (refine Nat.ne_of_lt ?_; k_extra "lt") | (refine Nat.ne_of_gt ?_; k_extra "lt")
  k_with "ne2" => first | (refine Nat.ne_of_lt ?_; k_extra "lt0") | (refine Nat.ne_of_gt ?_; k_extra "lt0") | (refine Nat.ne_of_lt (And.left (by with_reducible assumption)))  | (refine Nat.ne_of_gt (And.left (by with_reducible assumption))) | (refine Nat.ne_of_lt (Nat.lt_trans (And.right (by with_reducible assumption)) ?_); k_extra "lt0") | (refine Nat.ne_of_lt (And.right (by with_reducible assumption))) | (refine Nat.ne_of_gt (Nat.lt_trans ?_ (And.left (by with_reducible assumption))); k_extra "lt0")
  k_with "ne" => first | k_extra "ne0" | (refine Or.elim (by with_reducible assumption : @LT.lt Nat _ _ _ ∨ @LT.lt Nat _ _ _ ∧ @LT.lt Nat _ _ _) (fun q9 => ?_) (fun q9 => ?_); (all_goals k_extra "ne2")) | k_extra "ne1"
  k_with "ifs" => first | with_reducible rfl | exact Eq.trans (if_neg (by assumption)) (by k_extra "ifs")
  k_with "up" => first | exact up2 (by with_reducible assumption) rfl | exact up1 (by with_reducible assumption) rfl | exact up3 (by with_reducible assumption) rfl | exact up4 (by with_reducible assumption) rfl | exact up5 (by with_reducible assumption) rfl
  k_with "om" => first | with_reducible assumption | exact Nat.succ_pos _ | (with_reducible show @LT.lt Nat _ _ _; (try dsimp only); first | k_extra "lt0" | k_extra "up" | k_extra "lt") | (with_reducible show @Ne Nat _ _; k_extra "ne") | (with_reducible show @LT.lt Nat _ _ _ ∧ @LT.lt Nat _ _ _; refine And.intro ?_ ?_ <;> k_extra "om") | (with_reducible show @Eq Nat _ _; first | exact Nat.add_sub_add_right 6 1 _ | exact (Nat.add_sub_add_right 6 1 _).symm | exact Nat.succ_sub (by omega) | exact (Nat.succ_sub (by omega)).symm | exact Nat.sub_sub_self (by omega)) | omega
  k_with "k_room" => first | k_extra "up" | ((try simp only [depth_under_make, depth_under_kw, depth_in1, depth_deeper, depth_caller]); omega)
  k_with "tb_start" => first | assumption | omega | (simp only [List.length_cons, List.length_nil, List.length_append]; omega)
  k_with "tb_rel" => repeat' (first | exact List.forall_mem_nil _ | refine List.forall_mem_cons.mpr ⟨by first | exact Or.inr (by k_mem) | exact Or.inl (by simp), ?_⟩)
  k_with "k_units" => first | k_extra "up" | ((try simp only [units_in1, units_deeper, Around.mark_units, units_caller]); omega)
  k_with "call type:list" => (k_here; (with_reducible show wpAny _ _ (call (Value.type "list") [Value.str _ _]) _ _ _); k_dflt (refine' list_strN ?h ?F ?N ?z ?_; (case h => rfl); (case F => k_asm); (case N => k_asm); (case z => exact Nat.le_trans (by assumption) (Nat.le_of_ble_eq_true rfl)); k_whole); intro l₉ h₉ tk₉ vs₉ k₉ F₉ N₉ l1₉ hc₉; (try k_lt l1₉); (try k_sweep))
  k_with "truthy ref" => (k_here; k_dflt (refine' truthy_ls ?N ?m ?z ?_; (case N => k_asm); (case m => k_mem); (case z => tb_start)); (intro tk₉; (try dsimp only [List.isEmpty_cons, List.isEmpty_nil, Bool.not_false, Bool.not_true])))
  k_with "call builtin:list.pop" => (k_here; (with_reducible show wpAny _ _ (call (Value.builtin "list.pop") [Value.ref _, Value.int 0 _]) _ _ _); k_dflt (refine' pop0_N ?F ?N ?U ?z ?_; (case F => k_asm); (case N => k_asm); (case U => k_upd); (case z => tb_start)); (intro h₉ F₉ N₉; (try k_sweep)))
  k_with "binaryOp Add str str" => (k_here; (with_reducible show wpAny _ _ (binaryOp Operator.Add (Value.str _ _) (Value.str _ _)) _ _ _); k_dflt (refine' add_len ?h1 ?h2 ?h3 ?_; (case h1 => ktr_rel); (case h2 => ktr_rel); (case h3 => decide +kernel)); intro t9₉ k9₉ hk9₉; (try dsimp only at hk9₉))
  k_with "call builtin:str.replace" => (k_here; (with_reducible show wpAny _ _ (call (Value.builtin "str.replace") [Value.str _ _, Value.str _ _, Value.str _ _]) _ _ _); k_dflt (refine' rep_len ?u ?v ?uv ?yz ?h1 ?h2 ?h3 ?_; (case u => k_ne); (case v => k_ne); (case uv => k_ne); (case yz => decide +kernel); (case h1 => ktr_rel); (case h2 => ktr_rel); (case h3 => decide +kernel)); intro t9₉ k9₉ hk9₉; (try dsimp only at hk9₉))
  k_with "execs cons" => (k_here; (with_reducible show wpAny _ _ _ _ _ (Shared.mk _ _ _ (_ + 1) _)); (refine gen_toks (by (try dsimp only); omega) ?_); intro tk9₉ htk9₉)
  k_with "execs nil" => (k_here; (with_reducible show wpAny _ _ _ _ _ (Shared.mk _ _ _ (_ + 1) _)); (refine gen_toks (by (try dsimp only); omega) ?_); intro tk9₉ htk9₉)
  exact True.intro
/-- a letter: the name, its quotes doubled, in quotes; with a blank and a quote behind, or without -/
noncomputable def letB (name : Str) (b1 : Bool) : Str := cond b1 (Str.ofString "257 \"" ++ Txt.replace name (Str.ofString "\"") (Str.ofString "\"\"") ++ Str.ofString "\"" ++ Str.ofString " \"")
  (Str.ofString "257 \"" ++ Txt.replace name (Str.ofString "\"") (Str.ofString "\"\"") ++ Str.ofString "\"")
/-- the text that a lexer reads as it: in quotes, or without -/
noncomputable def textB (name : Str) (b1 b2 : Bool) : Str := cond b2
  (Str.ofString "\"" ++ Txt.replace (Txt.replace (letB name b1) (Str.ofString "\\") (Str.ofString "\\\\")) (Str.ofString "\"") (Str.ofString "\\\"") ++ Str.ofString "\"")
  (Txt.replace (Txt.replace (letB name b1) (Str.ofString "\\") (Str.ofString "\\\\")) (Str.ofString " ") (Str.ofString "\\ ") ++ Str.ofString "\n")
theorem len_add {x y : Str} {a b : Nat} (h1 : x.length ≤ a) (h2 : y.length ≤ b) : (x ++ y).length ≤ a + b := by rw [Str.length_append]; omega
theorem len_rep {x y z : Str} {a b : Nat} (h1 : x.length ≤ a) (h2 : z.length ≤ b) : (Txt.replace x y z).length ≤ a + (a + 1) * b := by
  have h1' : (x.length + 1) * z.length ≤ (a + 1) * b := Nat.mul_le_mul (by k_extra "om") h2
  have main : (Txt.replace x y z).length ≤ x.length + (x.length + 1) * z.length := by
    unfold Txt.replace
    split
    · omega
    · have hy := congrArg Str.length (StrLaws.glued_between_self x y (x.length + 1))
      have ho := StrLaws.occ_length_le x y 0 x.length (x.length + 1)
      have hm : (Builtin.Str.occurrences x y 0 x.length (x.length + 1)).length * z.length ≤ (x.length + 1) * z.length := Nat.mul_le_mul_right _ ho
      rw [size_glued, length_partsBetween, Nat.add_sub_cancel] at hy ⊢
      omega
  omega
theorem add_len {prog : Program} {w : World} {A : Around} {E : Value → Shared → Prop} {s : Shared} {x y : Str} {t u : Tok} {a b : Nat} {Q : Value → Shared → Prop} (h1 : x.length ≤ a) (h2 : y.length ≤ b) (h3 : a + b ≤ 100000) (h : ∀ t' k, s.toks ≤ k → Q (.str (x ++ y) t') { s with toks := k }) :
    wpAny (model prog w) A (binaryOp .Add (.str x t) (.str y u)) Q E s := wpAny_with_toks (Nat.le_refl _) (PyProof.Rows.SBL.add (fun t' k _ hk => h t' k hk) (hsz := by rw [sizeLine_eq]; omega))
theorem rep_len {prog : Program} {w : World} {A : Around} {E : Value → Shared → Prop} {s : Shared} {x y z : Str} {t u v : Tok} {a b : Nat} {Q : Value → Shared → Prop} (hu : u ≠ 0) (hv : v ≠ 0) (huv : u ≠ v) (hyz : (y == z) = false) (h1 : x.length ≤ a) (h2 : z.length ≤ b) (h3 : a + (a + 1) * b ≤ 100000)
    (h : ∀ t' k, s.toks ≤ k → Q (.str (Txt.replace x y z) t') { s with toks := k }) : wpAny (model prog w) A (call (.builtin "str.replace") [.str x t, .str y u, .str z v]) Q E s := by
  refine wpAny_with_toks (Nat.le_refl _) (SC.replace hu hv huv hyz ?_ fun t' k hk => h t' k hk)
  have h1' : (x.length + 1) * z.length ≤ (a + 1) * b := Nat.mul_le_mul (by k_extra "om") h2
  omega
local macro_rules | `(tactic| ktr_rel) => `(tactic| first | with_reducible assumption | exact len_add (by ktr_rel) (by ktr_rel) | exact len_rep (by ktr_rel) (by ktr_rel) | exact Nat.le_refl _)
theorem gen_toks {α : Type} {M : Model} {A : Around} {t : Sem α} {Q : α → Shared → Prop} {E : Value → Shared → Prop} {h : Heap} {g : Array GenState} {d : Drawn} {k : Nat} {o : OsState} (hk : 0 < k) (H : ∀ k, 0 < k → wpAny M A t Q E ⟨h, g, d, k, o⟩) : wpAny M A t Q E ⟨h, g, d, k, o⟩ := H k hk
section
variable {w : World} {p : Program} {loose : List Str} {mean : ExcName → Option Value} {mg mb : Str → Option Value} {dp un : Nat} {gd : Option (List Code)} {outs : List Env} {base h₀ : Heap} {s : Shared} {R : Result → Shared → Prop}
  (B : Below (AT dp un gd outs) base outs h₀) (X : (hd.heap_39 w.params).In h₀) (T : Top p loose mean mg mb h₀) (st : h₀.StaysIn s.heap) (hdp : dp + 12 < recursionLimit) (hu : un + 120 < cLine)
include B X T st hdp hu
theorem text_spec {name : Str} {seed : Int} {t1 t2 : Tok} (N : Own h₀ s.heap []) (hn : name.length ≤ 3)
    (hret : ∀ b1 b2 t h' tk', Keeps [] s.heap h' → R (.ok (.ret (.str (textB name b1 b2) t))) { s with heap := h', toks := tk' }) :
    codeAny (model PySem.Challenge.rw_wn0047_01.row.prog w) (AT dp un gd outs) (.call (.ref 142) ⟨[.str name t1, .int seed t2], []⟩) R s := by
  revert X; k_fill; intro X
  k_dflt (refine' enterT (binds := [(Str.ofString "name", Value.str name t1), (Str.ofString "seed", Value.int seed t2)]) B X T st N ?k6 ?k7 ?k8 ?k9 ?kB ?_ ?c2 ?c3 ?c4 ?c5; (case k6 => k_is); (case k7 => k_is); (case k8 => k_room); (case k9 => exact BindsTo.of_eq rfl); (case c5 => decide); (case kB => exact locs rfl); (case c2 => exact rfl); (case c3 => exact rfl); (case c4 => exact rfl))
  intro g L' h₁ tk gh F' N' B' X' T' l1 tkp
  (try k_lt l1)
  simp only [List.length_cons, List.length_nil] at tkp
  k_steps
  · exact hret true true _ _ _ (keeps_as gh N (by k_asm) (by k_asm) (by tb_rel))
  · exact hret true false _ _ _ (keeps_as gh N (by k_asm) (by k_asm) (by tb_rel))
  · exact hret false true _ _ _ (keeps_as gh N (by k_asm) (by k_asm) (by tb_rel))
  · exact hret false false _ _ _ (keeps_as gh N (by k_asm) (by k_asm) (by tb_rel))
end
end
-- C15
section
theorem lines22 : True := by
  k_with_none
  k_with "in" => first | with_reducible assumption | exact And.left (by with_reducible assumption) | exact And.left (And.right (by with_reducible assumption)) | exact And.left (And.right (And.right (by with_reducible assumption))) | exact And.left (And.right (And.right (And.right (by with_reducible assumption)))) | exact And.left (And.right (And.right (And.right (And.right (by with_reducible assumption))))) | exact And.left (And.right (And.right (And.right (And.right (And.right (by with_reducible assumption)))))) | exact And.left (And.right (And.right (And.right (And.right (And.right (And.right (by with_reducible assumption))))))) | exact And.left (And.right (And.right (And.right (And.right (And.right (And.right (And.right (by with_reducible assumption)))))))) | exact And.left (And.right (And.right (And.right (And.right (And.right (And.right (And.right (And.right (by with_reducible assumption))))))))) | exact And.left (And.right (And.right (And.right (And.right (And.right (And.right (And.right (And.right (And.right (by with_reducible assumption)))))))))) | exact And.left (And.right (And.right (And.right (And.right (And.right (And.right (And.right (And.right (And.right (And.right (by with_reducible assumption))))))))))) | exact And.left (And.right (And.right (And.right (And.right (And.right (And.right (And.right (And.right (And.right (And.right (And.right (by with_reducible assumption)))))))))))) | exact And.left (And.right (And.right (And.right (And.right (And.right (And.right (And.right (And.right (And.right (And.right (And.right (And.right (by with_reducible assumption))))))))))))) | exact And.left (And.right (And.right (And.right (And.right (And.right (And.right (And.right (And.right (And.right (And.right (And.right (And.right (And.right (by with_reducible assumption)))))))))))))) | exact And.left (And.right (And.right (And.right (And.right (And.right (And.right (And.right (And.right (And.right (And.right (And.right (And.right (And.right (And.right (by with_reducible assumption))))))))))))))) | exact And.right (by with_reducible assumption) | exact And.right (And.right (by with_reducible assumption)) | exact And.right (And.right (And.right (by with_reducible assumption))) | exact And.right (And.right (And.right (And.right (by with_reducible assumption)))) | exact And.right (And.right (And.right (And.right (And.right (by with_reducible assumption))))) | exact And.right (And.right (And.right (And.right (And.right (And.right (by with_reducible assumption)))))) | exact And.right (And.right (And.right (And.right (And.right (And.right (And.right (by with_reducible assumption))))))) | exact And.right (And.right (And.right (And.right (And.right (And.right (And.right (And.right (by with_reducible assumption)))))))) | exact And.right (And.right (And.right (And.right (And.right (And.right (And.right (And.right (And.right (by with_reducible assumption))))))))) | exact And.right (And.right (And.right (And.right (And.right (And.right (And.right (And.right (And.right (And.right (by with_reducible assumption)))))))))) | exact And.right (And.right (And.right (And.right (And.right (And.right (And.right (And.right (And.right (And.right (And.right (by with_reducible assumption))))))))))) | exact And.right (And.right (And.right (And.right (And.right (And.right (And.right (And.right (And.right (And.right (And.right (And.right (by with_reducible assumption)))))))))))) | exact And.right (And.right (And.right (And.right (And.right (And.right (And.right (And.right (And.right (And.right (And.right (And.right (And.right (by with_reducible assumption))))))))))))) | exact And.right (And.right (And.right (And.right (And.right (And.right (And.right (And.right (And.right (And.right (And.right (And.right (And.right (And.right (by with_reducible assumption))))))))))))))
  k_with "lt0" => first | with_reducible assumption | exact Nat.lt_trans (by with_reducible assumption) (by k_extra "lt0")
  k_with "lt" => first | k_extra "in" | exact Nat.lt_trans (by k_extra "in") (by k_extra "lt")
  k_with "ne0" => first | with_reducible assumption | exact Ne.symm (by with_reducible assumption) | exact Nat.succ_ne_self _ | exact Ne.symm (Nat.succ_ne_self _) | (refine Nat.ne_of_lt ?_; k_extra "lt0") | (refine Nat.ne_of_gt ?_; k_extra "lt0")
  k_with "ne1" => first | k_extra "in" | (refine Ne.symm ?_; k_extra "in") | (refine Nat.ne_of_lt ?_; k_extra "lt") | (refine Nat.ne_of_gt ?_; k_extra "lt")
  k_with "ne2" => first | (refine Nat.ne_of_lt ?_; k_extra "lt0") | (refine Nat.ne_of_gt ?_; k_extra "lt0") | (refine Nat.ne_of_lt (And.left (by with_reducible assumption)))  | (refine Nat.ne_of_gt (And.left (by with_reducible assumption))) | (refine Nat.ne_of_lt (Nat.lt_trans (And.right (by with_reducible assumption)) ?_); k_extra "lt0") | (refine Nat.ne_of_lt (And.right (by with_reducible assumption))) | (refine Nat.ne_of_gt (Nat.lt_trans ?_ (And.left (by with_reducible assumption))); k_extra "lt0")
  k_with "ne" => first | k_extra "ne0" | (refine Or.elim (by with_reducible assumption : @LT.lt Nat _ _ _ ∨ @LT.lt Nat _ _ _ ∧ @LT.lt Nat _ _ _) (fun q9 => ?_) (fun q9 => ?_); (all_goals k_extra "ne2")) | k_extra "ne1"
  k_with "ifs" => first | with_reducible rfl | exact Eq.trans (if_neg (by assumption)) (by k_extra "ifs")
  k_with "up" => first | exact up2 (by with_reducible assumption) rfl | exact up1 (by with_reducible assumption) rfl | exact up3 (by with_reducible assumption) rfl | exact up4 (by with_reducible assumption) rfl | exact up5 (by with_reducible assumption) rfl
  k_with "om" => first | with_reducible assumption | exact Nat.succ_pos _ | (with_reducible show @LT.lt Nat _ _ _; (try dsimp only); first | k_extra "lt0" | k_extra "up" | k_extra "lt") | (with_reducible show @Ne Nat _ _; k_extra "ne") | (with_reducible show @LT.lt Nat _ _ _ ∧ @LT.lt Nat _ _ _; refine And.intro ?_ ?_ <;> k_extra "om") | (with_reducible show @Eq Nat _ _; first | exact Nat.add_sub_add_right 6 1 _ | exact (Nat.add_sub_add_right 6 1 _).symm | exact Nat.succ_sub (by omega) | exact (Nat.succ_sub (by omega)).symm | exact Nat.sub_sub_self (by omega)) | omega
  k_with "k_room" => first | k_extra "up" | ((try simp only [depth_under_make, depth_under_kw, depth_in1, depth_deeper, depth_caller]); omega)
  k_with "tb_start" => first | assumption | omega | (simp only [List.length_cons, List.length_nil, List.length_append]; omega)
  k_with "tb_rel" => repeat' (first | exact List.forall_mem_nil _ | refine List.forall_mem_cons.mpr ⟨by first | exact Or.inr (by k_mem) | exact Or.inl (by simp), ?_⟩)
  k_with "k_units" => first | k_extra "up" | ((try simp only [units_in1, units_deeper, Around.mark_units, units_caller]); omega)
  k_with "call type:list" => (k_here; (with_reducible show wpAny _ _ (call (Value.type "list") [Value.str _ _]) _ _ _); k_dflt (refine' list_strN ?h ?F ?N ?z ?_; (case h => rfl); (case F => k_asm); (case N => k_asm); (case z => exact Nat.le_trans (by assumption) (Nat.le_of_ble_eq_true rfl)); k_whole); intro l₉ h₉ tk₉ vs₉ k₉ F₉ N₉ l1₉ hc₉; (try k_lt l1₉); (try k_sweep))
  k_with "truthy ref" => (k_here; k_dflt (refine' truthy_ls ?N ?m ?z ?_; (case N => k_asm); (case m => k_mem); (case z => tb_start)); (intro tk₉; (try dsimp only [List.isEmpty_cons, List.isEmpty_nil, Bool.not_false, Bool.not_true])))
  k_with "call builtin:list.pop" => (k_here; (with_reducible show wpAny _ _ (call (Value.builtin "list.pop") [Value.ref _, Value.int 0 _]) _ _ _); k_dflt (refine' pop0_N ?F ?N ?U ?z ?_; (case F => k_asm); (case N => k_asm); (case U => k_upd); (case z => tb_start)); (intro h₉ F₉ N₉; (try k_sweep)))
  k_with "exec For Name Name cons nil" => refine Stop.go ?_
  k_with "exec For Name Call cons nil" => refine Stop.go ?_
  k_with "compareOp In str str" => refine in_ws ?_
  k_with "compareOp Eq str str" => first | refine eq_lit lit34 ?_ | refine eq_lit lit92 ?_
  k_with "binaryOp Add str str" => (k_here; (with_reducible show wpAny _ _ (binaryOp Operator.Add (Value.str _ _) (Value.str _ _)) _ _ _); k_dflt (refine' add_len ?h1 ?h2 ?h3 ?_; (case h1 => ktr_rel); (case h2 => ktr_rel); (case h3 => decide +kernel)); intro t9₉ k9₉ hk9₉; (try dsimp only at hk9₉))
  k_with "call builtin:str.replace" => (k_here; (with_reducible show wpAny _ _ (call (Value.builtin "str.replace") [Value.str _ _, Value.str _ _, Value.str _ _]) _ _ _); k_dflt (refine' rep_len ?u ?v ?uv ?yz ?h1 ?h2 ?h3 ?_; (case u => k_ne); (case v => k_ne); (case uv => k_ne); (case yz => decide +kernel); (case h1 => ktr_rel); (case h2 => ktr_rel); (case h3 => decide +kernel)); intro t9₉ k9₉ hk9₉; (try dsimp only at hk9₉))
  k_with "exec While" => refine Stop.go ?_
  k_with "exec While Compare cons nil" => refine Stop.go ?_
  k_with "subscriptTail Name Name str int" => (k_here; (with_reducible show wpAny _ _ (subscriptTail _ _ (Value.str _ _) (Value.int _ _)) _ _ _); k_dflt (refine' item_chr ?hi ?hc ?hz ?_ ?hs ?ht; (case hi => first | exact rfl | exact (Int.natCast_add _ 1).symm); (case hc => with_reducible assumption); (case hz => k_extra "om"); (case hs => with_unfolding_all rfl); (case ht => intro _; with_unfolding_all rfl)); (intro t9₉ k9₉))
  k_with "compareOp NotEq str str" => refine ne_lit lit34 ?_
  exact True.intro
theorem ne_lit {prog : Program} {w : World} {A : Around} {E : Value → Shared → Prop} {s : Shared} {c d : Nat} {l : Str} {t u : Tok} {Q : Value → Shared → Prop} (hl : l = ⟨#[d]⟩) (h : Q (.bool (decide (c ≠ d))) s) :
    wpAny (model prog w) A (compareOp .NotEq (.str ⟨#[c]⟩ t) (.str l u)) Q E s := by
  refine PyProof.Rows.ne_str ?_
  subst hl
  have : ((⟨#[c]⟩ : Str) != ⟨#[d]⟩) = decide (c ≠ d) := by
    by_cases e : c = d
    · subst e; simp
    · rw [decide_eq_true e]
      exact bne_iff_ne.mpr fun q => e (by have := congrArg (fun z => z.cps.toList) q; simpa using this)
  rw [this]; exact h
local macro_rules | `(tactic| ktr_rel) => `(tactic| first | with_reducible assumption | exact len_add (by ktr_rel) (by ktr_rel) | exact len_rep (by ktr_rel) (by ktr_rel) | exact Nat.le_refl _)
section
variable {w : World} {p : Program} {loose : List Str} {mean : ExcName → Option Value} {mg mb : Str → Option Value} {dp un : Nat} {gd : Option (List Code)} {outs : List Env} {base h₀ : Heap} {s : Shared} {R : Result → Shared → Prop}
  (B : Below (AT dp un gd outs) base outs h₀) (X : (hd.heap_39 w.params).In h₀) (T : Top p loose mean mg mb h₀) (st : h₀.StaysIn s.heap) (hdp : dp + 12 < recursionLimit) (hu : un + 120 < cLine)
include B X T st hdp hu
theorem p257_spec {resp : Str} {t1 : Tok} (N : Own h₀ s.heap []) (hn : resp.length ≤ 100) (h1 : (Txt.slice resp none (some 3) != Str.ofString "257") = false) (h2 : (Txt.slice resp (some 3) (some 5) != Str.ofString " \"") = false)
    (h5 : 5 ≤ resp.length)
    (hret : ∀ t h' tk', Keeps [] s.heap h' → R (.ok (.ret (.str ⟨(dirn [] (resp.cps.toList.drop 5)).toArray⟩ t))) { s with heap := h', toks := tk' }) :
    codeAny (model PySem.Challenge.rw_wn0047_01.row.prog w) (AT dp un gd outs) (.call (.ref 107) ⟨[.str resp t1], []⟩) R s := by
  revert X; k_fill; intro X
  k_dflt (refine' enterT (binds := [(Str.ofString "resp", Value.str resp t1)]) B X T st N ?k6 ?k7 ?k8 ?k9 ?kB ?_ ?c2 ?c3 ?c4 ?c5; (case k6 => k_is); (case k7 => k_is); (case k8 => k_room); (case k9 => exact BindsTo.of_eq rfl); (case c5 => decide); (case kB => exact locs rfl); (case c2 => exact rfl); (case c3 => exact rfl); (case c4 => exact rfl))
  intro g L' h₁ tk gh F' N' B' X' T' l1 tkp
  (try k_lt l1)
  simp only [List.length_cons, List.length_nil] at tkp
  k_steps
  unfold Stop
  refine wpAny_While ?_
  (rename News _ _ _ _ => NN)
  (rename Fr _ _ _ _ => FF)
  have FM := fr_mP (k := 5) (acc := []) FF rfl rfl rfl (by decide +kernel) (fun _ _ _ _ => rfl)
  refine loopP (s₀ := s) (resp := resp) ?tEnd ?tOne ?tTwo ?tBrk ?tBrk2 ?hR (by k_extra "om") (resp.cps.toList.drop 5).length _ [] 5 _ _ _ _ _ (Nat.le_refl _) rfl rfl h5 (by simp only [List.length_nil, List.length_drop, Array.length_toList]; have : resp.cps.size = resp.length := rfl; omega) FM
  case tEnd =>
    intro acc k ta ti vc h tk Nx Dn Rt Fi E hk F hF
    clear FF NN FM
    have N3 : News g L' h [] := News.nil
    k_steps
    exact hF _ _ _ _ _ (by k_asm)
  case tOne =>
    intro c acc k ta ti vc h tk Nx Dn Rt Fi E hc hk hi hl F hF
    clear FF NN FM
    have N3 : News g L' h [] := News.nil
    k_steps
    exact hF _ _ _ _ _ (fr_mP (by k_asm) rfl (by k_extra "om") rfl (acc_snoc _ _) (fun y h1 h2 h3 => by simp only [mP, if_neg h1, if_neg h2, if_neg h3]))
  case tTwo =>
    intro acc k ta ti vc h tk Nx Dn Rt Fi E hk hi hi2 hl F hF
    clear FF NN FM
    have N3 : News g L' h [] := News.nil
    k_steps
    exact hF _ _ _ _ _ (fr_mP (by k_asm) rfl (by k_extra "om") rfl (acc_snoc _ _) (fun y h1 h2 h3 => by simp only [mP, if_neg h1, if_neg h2, if_neg h3]))
  case tBrk =>
    intro d acc k ta ti vc h tk Nx Dn Rt Fi E hk hi hi2 hd F hF
    clear FF NN FM
    have N3 : News g L' h [] := News.nil
    k_steps
    exact hF _ (k + 1) _ _ _ _ (fr_mP (by k_asm) rfl (by k_extra "om") rfl rfl (fun y h1 h2 h3 => by simp only [mP, if_neg h1, if_neg h2, if_neg h3]))
  case tBrk2 =>
    intro acc k ta ti vc h tk Nx Dn Rt Fi E hk hi F hF
    clear FF NN FM
    have N3 : News g L' h [] := News.nil
    k_steps
    exact hF _ (k + 1) _ _ _ _ (fr_mP (by k_asm) rfl (by k_extra "om") rfl rfl (fun y h1 h2 h3 => by simp only [mP, if_neg h1, if_neg h2, if_neg h3]))
  case hR =>
    intro vc k ta ti h tk F
    clear FF NN FM
    have N3 : News g L' h [] := News.nil
    dsimp only
    k_steps
    exact hret _ _ _ (keeps_as gh N (by k_asm) News.nil (by tb_rel))
end
end
-- C17
theorem lines23 : True := by
  k_with_none
  k_with "in" => first | with_reducible assumption | exact And.left (by with_reducible assumption) | exact And.left (And.right (by with_reducible assumption)) | exact And.left (And.right (And.right (by with_reducible assumption))) | exact And.left (And.right (And.right (And.right (by with_reducible assumption)))) | exact And.left (And.right (And.right (And.right (And.right (by with_reducible assumption))))) | exact And.left (And.right (And.right (And.right (And.right (And.right (by with_reducible assumption)))))) | exact And.left (And.right (And.right (And.right (And.right (And.right (And.right (by with_reducible assumption))))))) | exact And.left (And.right (And.right (And.right (And.right (And.right (And.right (And.right (by with_reducible assumption)))))))) | exact And.left (And.right (And.right (And.right (And.right (And.right (And.right (And.right (And.right (by with_reducible assumption))))))))) | exact And.left (And.right (And.right (And.right (And.right (And.right (And.right (And.right (And.right (And.right (by with_reducible assumption)))))))))) | exact And.left (And.right (And.right (And.right (And.right (And.right (And.right (And.right (And.right (And.right (And.right (by with_reducible assumption))))))))))) | exact And.left (And.right (And.right (And.right (And.right (And.right (And.right (And.right (And.right (And.right (And.right (And.right (by with_reducible assumption)))))))))))) | exact And.left (And.right (And.right (And.right (And.right (And.right (And.right (And.right (And.right (And.right (And.right (And.right (And.right (by with_reducible assumption))))))))))))) | exact And.left (And.right (And.right (And.right (And.right (And.right (And.right (And.right (And.right (And.right (And.right (And.right (And.right (And.right (by with_reducible assumption)))))))))))))) | exact And.left (And.right (And.right (And.right (And.right (And.right (And.right (And.right (And.right (And.right (And.right (And.right (And.right (And.right (And.right (by with_reducible assumption))))))))))))))) | exact And.right (by with_reducible assumption) | exact And.right (And.right (by with_reducible assumption)) | exact And.right (And.right (And.right (by with_reducible assumption))) | exact And.right (And.right (And.right (And.right (by with_reducible assumption)))) | exact And.right (And.right (And.right (And.right (And.right (by with_reducible assumption))))) | exact And.right (And.right (And.right (And.right (And.right (And.right (by with_reducible assumption)))))) | exact And.right (And.right (And.right (And.right (And.right (And.right (And.right (by with_reducible assumption))))))) | exact And.right (And.right (And.right (And.right (And.right (And.right (And.right (And.right (by with_reducible assumption)))))))) | exact And.right (And.right (And.right (And.right (And.right (And.right (And.right (And.right (And.right (by with_reducible assumption))))))))) | exact And.right (And.right (And.right (And.right (And.right (And.right (And.right (And.right (And.right (And.right (by with_reducible assumption)))))))))) | exact And.right (And.right (And.right (And.right (And.right (And.right (And.right (And.right (And.right (And.right (And.right (by with_reducible assumption))))))))))) | exact And.right (And.right (And.right (And.right (And.right (And.right (And.right (And.right (And.right (And.right (And.right (And.right (by with_reducible assumption)))))))))))) | exact And.right (And.right (And.right (And.right (And.right (And.right (And.right (And.right (And.right (And.right (And.right (And.right (And.right (by with_reducible assumption))))))))))))) | exact And.right (And.right (And.right (And.right (And.right (And.right (And.right (And.right (And.right (And.right (And.right (And.right (And.right (And.right (by with_reducible assumption))))))))))))))
  k_with "lt0" => first | with_reducible assumption | exact Nat.lt_trans (by with_reducible assumption) (by k_extra "lt0")
  k_with "lt" => first | k_extra "in" | exact Nat.lt_trans (by k_extra "in") (by k_extra "lt")
  k_with "ne0" => first | with_reducible assumption | exact Ne.symm (by with_reducible assumption) | exact Nat.succ_ne_self _ | exact Ne.symm (Nat.succ_ne_self _) | (refine Nat.ne_of_lt ?_; k_extra "lt0") | (refine Nat.ne_of_gt ?_; k_extra "lt0")
  k_with "ne1" => first | k_extra "in" | (refine Ne.symm ?_; k_extra "in") | (refine Nat.ne_of_lt ?_; k_extra "lt") | (refine Nat.ne_of_gt ?_; k_extra "lt")
  k_with "ne2" => first | (refine Nat.ne_of_lt ?_; k_extra "lt0") | (refine Nat.ne_of_gt ?_; k_extra "lt0") | (refine Nat.ne_of_lt (And.left (by with_reducible assumption)))  | (refine Nat.ne_of_gt (And.left (by with_reducible assumption))) | (refine Nat.ne_of_lt (Nat.lt_trans (And.right (by with_reducible assumption)) ?_); k_extra "lt0") | (refine Nat.ne_of_lt (And.right (by with_reducible assumption))) | (refine Nat.ne_of_gt (Nat.lt_trans ?_ (And.left (by with_reducible assumption))); k_extra "lt0")
  k_with "ne" => first | k_extra "ne0" | (refine Or.elim (by with_reducible assumption : @LT.lt Nat _ _ _ ∨ @LT.lt Nat _ _ _ ∧ @LT.lt Nat _ _ _) (fun q9 => ?_) (fun q9 => ?_); (all_goals k_extra "ne2")) | k_extra "ne1"
  k_with "ifs" => first | with_reducible rfl | exact Eq.trans (if_neg (by assumption)) (by k_extra "ifs")
  k_with "up" => first | exact up2 (by with_reducible assumption) rfl | exact up1 (by with_reducible assumption) rfl | exact up3 (by with_reducible assumption) rfl | exact up4 (by with_reducible assumption) rfl | exact up5 (by with_reducible assumption) rfl
  k_with "om" => first | with_reducible assumption | exact Nat.succ_pos _ | (with_reducible show @LT.lt Nat _ _ _; (try dsimp only); first | k_extra "lt0" | k_extra "up" | k_extra "lt") | (with_reducible show @Ne Nat _ _; k_extra "ne") | (with_reducible show @LT.lt Nat _ _ _ ∧ @LT.lt Nat _ _ _; refine And.intro ?_ ?_ <;> k_extra "om") | (with_reducible show @Eq Nat _ _; first | exact Nat.add_sub_add_right 6 1 _ | exact (Nat.add_sub_add_right 6 1 _).symm | exact Nat.succ_sub (by omega) | exact (Nat.succ_sub (by omega)).symm | exact Nat.sub_sub_self (by omega)) | omega
  k_with "k_room" => first | k_extra "up" | ((try simp only [depth_under_make, depth_under_kw, depth_in1, depth_deeper, depth_caller]); omega)
  k_with "tb_start" => first | assumption | omega | (simp only [List.length_cons, List.length_nil, List.length_append]; omega)
  k_with "tb_rel" => repeat' (first | exact List.forall_mem_nil _ | refine List.forall_mem_cons.mpr ⟨by first | exact Or.inr (by k_mem) | exact Or.inl (by simp), ?_⟩)
  k_with "k_units" => first | k_extra "up" | ((try simp only [units_in1, units_deeper, Around.mark_units, units_caller]); omega)
  k_with "call type:list" => (k_here; (with_reducible show wpAny _ _ (call (Value.type "list") [Value.str _ _]) _ _ _); k_dflt (refine' list_strN ?h ?F ?N ?z ?_; (case h => rfl); (case F => k_asm); (case N => k_asm); (case z => exact Nat.le_trans (by assumption) (Nat.le_of_ble_eq_true rfl)); k_whole); intro l₉ h₉ tk₉ vs₉ k₉ F₉ N₉ l1₉ hc₉; (try k_lt l1₉); (try k_sweep))
  k_with "truthy ref" => (k_here; k_dflt (refine' truthy_ls ?N ?m ?z ?_; (case N => k_asm); (case m => k_mem); (case z => tb_start)); (intro tk₉; (try dsimp only [List.isEmpty_cons, List.isEmpty_nil, Bool.not_false, Bool.not_true])))
  k_with "call builtin:list.pop" => (k_here; (with_reducible show wpAny _ _ (call (Value.builtin "list.pop") [Value.ref _, Value.int 0 _]) _ _ _); k_dflt (refine' pop0_N ?F ?N ?U ?z ?_; (case F => k_asm); (case N => k_asm); (case U => k_upd); (case z => tb_start)); (intro h₉ F₉ N₉; (try k_sweep)))
  k_with "call ref" => ((try dsimp only [List.nil_append, List.cons_append]); (with_reducible show wpAny _ _ (call (Value.ref 107) [Value.str _ _]) _ _ _); k_dflt (refine wpAny_call ?_; (rename Fr _ _ _ _ => F9₉); (rename News _ _ _ _ => N0₉); (refine' call_ownC ?kB F9₉ ?kX ?kT N0₉ ?kA ?kf ?kk ?_; (case kA => exact rfl); (case kf => exact rfl); (case kk => exact rfl); (case kB => k_asm); (case kX => k_asm); (case kT => k_asm)); intro h9₉ B9₉ X9₉ T9₉ s9₉ N9₉; refine p257_spec B9₉ X9₉ T9₉ s9₉ (by k_room) (by k_units) (own_sub N9₉ (by lcg_sub)) (by assumption) (by assumption) (by assumption) (by assumption) ?_; intro t8₉ h8₉ tk8₉ k9₉; have F8₉ := fr_keeps F9₉ k9₉ (fun _ q => nomatch q); have N8₉ := news_keeps0 N0₉ k9₉; clear F9₉ N0₉ k9₉ N9₉ B9₉ X9₉ T9₉ s9₉; (try clear h9₉); (try dsimp only); (try k_sweep)))
  exact True.intro
section
variable {w : World} {p : Program} {loose : List Str} {mean : ExcName → Option Value} {mg mb : Str → Option Value} {dp un : Nat} {gd : Option (List Code)} {outs : List Env} {base h₀ : Heap} {s : Shared} {R : Result → Shared → Prop}
  (B : Below (AT dp un gd outs) base outs h₀) (X : (hd.heap_39 w.params).In h₀) (T : Top p loose mean mg mb h₀) (st : h₀.StaysIn s.heap) (hdp : dp + 18 < recursionLimit) (hu : un + 180 < cLine)
include B X T st hdp hu
theorem named_name {resp : Str} {t1 : Tok} (N : Own h₀ s.heap []) (hn : resp.length ≤ 100) (h1 : (Txt.slice resp none (some 3) != Str.ofString "257") = false) (h2 : (Txt.slice resp (some 3) (some 5) != Str.ofString " \"") = false)
    (h5 : 5 ≤ resp.length)
    (hret : ∀ t h' tk', Keeps [] s.heap h' → R (.ok (.ret (.str ⟨(dirn [] (resp.cps.toList.drop 5)).toArray⟩ t))) { s with heap := h', toks := tk' }) :
    codeAny (model PySem.Challenge.rw_wn0047_01.row.prog w) (AT dp un gd outs) (.call (.ref 182) ⟨[.str resp t1], []⟩) R s := by
  revert X; k_fill; intro X
  k_dflt (refine' enter (binds := [(Str.ofString "letter", Value.str resp t1)]) B X T st N ?k6 ?k7 ?k8 ?k9 ?kB ?_ ?c2 ?c3 ?c4 ?c5; (case k6 => k_is); (case k7 => k_is); (case k8 => k_room); (case k9 => exact BindsTo.of_eq rfl); (case c5 => decide); (case kB => exact locs rfl); (case c2 => exact rfl); (case c3 => exact rfl); (case c4 => exact rfl))
  intro g L' h₁ tk gh F' N' B' X' T' l1
  (try k_lt l1)
  k_steps
  exact hret _ _ _ (keeps_as gh N (by k_asm) News.nil (by tb_rel))
end
-- C18
theorem lines24 : True := by
  k_with_none
  k_with "in" => first | with_reducible assumption | exact And.left (by with_reducible assumption) | exact And.left (And.right (by with_reducible assumption)) | exact And.left (And.right (And.right (by with_reducible assumption))) | exact And.left (And.right (And.right (And.right (by with_reducible assumption)))) | exact And.left (And.right (And.right (And.right (And.right (by with_reducible assumption))))) | exact And.left (And.right (And.right (And.right (And.right (And.right (by with_reducible assumption)))))) | exact And.left (And.right (And.right (And.right (And.right (And.right (And.right (by with_reducible assumption))))))) | exact And.left (And.right (And.right (And.right (And.right (And.right (And.right (And.right (by with_reducible assumption)))))))) | exact And.left (And.right (And.right (And.right (And.right (And.right (And.right (And.right (And.right (by with_reducible assumption))))))))) | exact And.left (And.right (And.right (And.right (And.right (And.right (And.right (And.right (And.right (And.right (by with_reducible assumption)))))))))) | exact And.left (And.right (And.right (And.right (And.right (And.right (And.right (And.right (And.right (And.right (And.right (by with_reducible assumption))))))))))) | exact And.left (And.right (And.right (And.right (And.right (And.right (And.right (And.right (And.right (And.right (And.right (And.right (by with_reducible assumption)))))))))))) | exact And.left (And.right (And.right (And.right (And.right (And.right (And.right (And.right (And.right (And.right (And.right (And.right (And.right (by with_reducible assumption))))))))))))) | exact And.left (And.right (And.right (And.right (And.right (And.right (And.right (And.right (And.right (And.right (And.right (And.right (And.right (And.right (by with_reducible assumption)))))))))))))) | exact And.left (And.right (And.right (And.right (And.right (And.right (And.right (And.right (And.right (And.right (And.right (And.right (And.right (And.right (And.right (by with_reducible assumption))))))))))))))) | exact And.right (by with_reducible assumption) | exact And.right (And.right (by with_reducible assumption)) | exact And.right (And.right (And.right (by with_reducible assumption))) | exact And.right (And.right (And.right (And.right (by with_reducible assumption)))) | exact And.right (And.right (And.right (And.right (And.right (by with_reducible assumption))))) | exact And.right (And.right (And.right (And.right (And.right (And.right (by with_reducible assumption)))))) | exact And.right (And.right (And.right (And.right (And.right (And.right (And.right (by with_reducible assumption))))))) | exact And.right (And.right (And.right (And.right (And.right (And.right (And.right (And.right (by with_reducible assumption)))))))) | exact And.right (And.right (And.right (And.right (And.right (And.right (And.right (And.right (And.right (by with_reducible assumption))))))))) | exact And.right (And.right (And.right (And.right (And.right (And.right (And.right (And.right (And.right (And.right (by with_reducible assumption)))))))))) | exact And.right (And.right (And.right (And.right (And.right (And.right (And.right (And.right (And.right (And.right (And.right (by with_reducible assumption))))))))))) | exact And.right (And.right (And.right (And.right (And.right (And.right (And.right (And.right (And.right (And.right (And.right (And.right (by with_reducible assumption)))))))))))) | exact And.right (And.right (And.right (And.right (And.right (And.right (And.right (And.right (And.right (And.right (And.right (And.right (And.right (by with_reducible assumption))))))))))))) | exact And.right (And.right (And.right (And.right (And.right (And.right (And.right (And.right (And.right (And.right (And.right (And.right (And.right (And.right (by with_reducible assumption))))))))))))))
  k_with "lt0" => first | with_reducible assumption | exact Nat.lt_trans (by with_reducible assumption) (by k_extra "lt0")
  k_with "lt" => first | k_extra "in" | exact Nat.lt_trans (by k_extra "in") (by k_extra "lt")
  k_with "ne0" => first | with_reducible assumption | exact Ne.symm (by with_reducible assumption) | exact Nat.succ_ne_self _ | exact Ne.symm (Nat.succ_ne_self _) | (refine Nat.ne_of_lt ?_; k_extra "lt0") | (refine Nat.ne_of_gt ?_; k_extra "lt0")
  k_with "ne1" => first | k_extra "in" | (refine Ne.symm ?_; k_extra "in") | (refine Nat.ne_of_lt ?_; k_extra "lt") | (refine Nat.ne_of_gt ?_; k_extra "lt")
  k_with "ne2" => first | (refine Nat.ne_of_lt ?_; k_extra "lt0") | (refine Nat.ne_of_gt ?_; k_extra "lt0") | (refine Nat.ne_of_lt (And.left (by with_reducible assumption)))  | (refine Nat.ne_of_gt (And.left (by with_reducible assumption))) | (refine Nat.ne_of_lt (Nat.lt_trans (And.right (by with_reducible assumption)) ?_); k_extra "lt0") | (refine Nat.ne_of_lt (And.right (by with_reducible assumption))) | (refine Nat.ne_of_gt (Nat.lt_trans ?_ (And.left (by with_reducible assumption))); k_extra "lt0")
  k_with "ne" => first | k_extra "ne0" | (refine Or.elim (by with_reducible assumption : @LT.lt Nat _ _ _ ∨ @LT.lt Nat _ _ _ ∧ @LT.lt Nat _ _ _) (fun q9 => ?_) (fun q9 => ?_); (all_goals k_extra "ne2")) | k_extra "ne1"
  k_with "ifs" => first | with_reducible rfl | exact Eq.trans (if_neg (by assumption)) (by k_extra "ifs")
  k_with "up" => first | exact up2 (by with_reducible assumption) rfl | exact up1 (by with_reducible assumption) rfl | exact up3 (by with_reducible assumption) rfl | exact up4 (by with_reducible assumption) rfl | exact up5 (by with_reducible assumption) rfl
  k_with "om" => first | with_reducible assumption | exact Nat.succ_pos _ | (with_reducible show @LT.lt Nat _ _ _; (try dsimp only); first | k_extra "lt0" | k_extra "up" | k_extra "lt") | (with_reducible show @Ne Nat _ _; k_extra "ne") | (with_reducible show @LT.lt Nat _ _ _ ∧ @LT.lt Nat _ _ _; refine And.intro ?_ ?_ <;> k_extra "om") | (with_reducible show @Eq Nat _ _; first | exact Nat.add_sub_add_right 6 1 _ | exact (Nat.add_sub_add_right 6 1 _).symm | exact Nat.succ_sub (by omega) | exact (Nat.succ_sub (by omega)).symm | exact Nat.sub_sub_self (by omega)) | omega
  k_with "k_room" => first | k_extra "up" | ((try simp only [depth_under_make, depth_under_kw, depth_in1, depth_deeper, depth_caller]); omega)
  k_with "tb_start" => first | assumption | omega | (simp only [List.length_cons, List.length_nil, List.length_append]; omega)
  k_with "tb_rel" => repeat' (first | exact List.forall_mem_nil _ | refine List.forall_mem_cons.mpr ⟨by first | exact Or.inr (by k_mem) | exact Or.inl (by simp), ?_⟩)
  k_with "k_units" => first | k_extra "up" | ((try simp only [units_in1, units_deeper, Around.mark_units, units_caller]); omega)
  k_with "call type:list" => (k_here; (with_reducible show wpAny _ _ (call (Value.type "list") [Value.str _ _]) _ _ _); k_dflt (refine' list_strN ?h ?F ?N ?z ?_; (case h => rfl); (case F => k_asm); (case N => k_asm); (case z => exact Nat.le_trans (by assumption) (Nat.le_of_ble_eq_true rfl)); k_whole); intro l₉ h₉ tk₉ vs₉ k₉ F₉ N₉ l1₉ hc₉; (try k_lt l1₉); (try k_sweep))
  k_with "truthy ref" => (k_here; k_dflt (refine' truthy_ls ?N ?m ?z ?_; (case N => k_asm); (case m => k_mem); (case z => tb_start)); (intro tk₉; (try dsimp only [List.isEmpty_cons, List.isEmpty_nil, Bool.not_false, Bool.not_true])))
  k_with "call builtin:list.pop" => (k_here; (with_reducible show wpAny _ _ (call (Value.builtin "list.pop") [Value.ref _, Value.int 0 _]) _ _ _); k_dflt (refine' pop0_N ?F ?N ?U ?z ?_; (case F => k_asm); (case N => k_asm); (case U => k_upd); (case z => tb_start)); (intro h₉ F₉ N₉; (try k_sweep)))
  exact True.intro
section
variable {w : World} {p : Program} {loose : List Str} {mean : ExcName → Option Value} {mg mb : Str → Option Value} {dp un : Nat} {gd : Option (List Code)} {outs : List Env} {base h₀ : Heap} {s : Shared} {R : Result → Shared → Prop}
  (B : Below (AT dp un gd outs) base outs h₀) (X : (hd.heap_39 w.params).In h₀) (T : Top p loose mean mg mb h₀) (st : h₀.StaysIn s.heap) (hdp : dp + 18 < recursionLimit) (hu : un + 180 < cLine)
include B X T st hdp hu
theorem named_told {resp : Str} {t1 : Tok} (XB : (hd.heap_39 w.params).In base) (TB : Top p loose mean mg mb base) (D : KtsDicts (outs.filterMap (·.frame)) h₀) (N : Own h₀ s.heap []) (hn : resp.length ≤ 100) (h1 : (Txt.slice resp none (some 3) != Str.ofString "257") = true)
    (hret : ∀ h' tk', KeepsT (outs.filterMap (·.frame)) [] s.heap h' → R (.ok (.ret .none)) { s with heap := h', toks := tk' }) :
    codeAny (model PySem.Challenge.rw_wn0047_01.row.prog w) (AT dp un gd outs) (.call (.ref 182) ⟨[.str resp t1], []⟩) R s := by
  revert XB X; k_fill; intro X XB
  have D' := dicts_own B st N D
  k_dflt (refine' enter (binds := [(Str.ofString "letter", Value.str resp t1)]) B X T st N ?k6 ?k7 ?k8 ?k9 ?kB ?_ ?c2 ?c3 ?c4 ?c5; (case k6 => k_is); (case k7 => k_is); (case k8 => k_room); (case k9 => exact BindsTo.of_eq rfl); (case c5 => decide); (case kB => exact locs rfl); (case c2 => exact rfl); (case c3 => exact rfl); (case c4 => exact rfl))
  intro g L' h₁ tk gh F' N' B' X' T' l1
  (try k_lt l1)
  rw [← gh] at D'
  k_steps
  dsimp only
  exact hret _ _ (keepsT_as gh N (by k_asm) (by k_asm) News.nil (by tb_rel))
end
-- C20
theorem lines25 : True := by
  k_with_none
  k_with "in" => first | with_reducible assumption | exact And.left (by with_reducible assumption) | exact And.left (And.right (by with_reducible assumption)) | exact And.left (And.right (And.right (by with_reducible assumption))) | exact And.left (And.right (And.right (And.right (by with_reducible assumption)))) | exact And.left (And.right (And.right (And.right (And.right (by with_reducible assumption))))) | exact And.left (And.right (And.right (And.right (And.right (And.right (by with_reducible assumption)))))) | exact And.left (And.right (And.right (And.right (And.right (And.right (And.right (by with_reducible assumption))))))) | exact And.left (And.right (And.right (And.right (And.right (And.right (And.right (And.right (by with_reducible assumption)))))))) | exact And.left (And.right (And.right (And.right (And.right (And.right (And.right (And.right (And.right (by with_reducible assumption))))))))) | exact And.left (And.right (And.right (And.right (And.right (And.right (And.right (And.right (And.right (And.right (by with_reducible assumption)))))))))) | exact And.left (And.right (And.right (And.right (And.right (And.right (And.right (And.right (And.right (And.right (And.right (by with_reducible assumption))))))))))) | exact And.left (And.right (And.right (And.right (And.right (And.right (And.right (And.right (And.right (And.right (And.right (And.right (by with_reducible assumption)))))))))))) | exact And.left (And.right (And.right (And.right (And.right (And.right (And.right (And.right (And.right (And.right (And.right (And.right (And.right (by with_reducible assumption))))))))))))) | exact And.left (And.right (And.right (And.right (And.right (And.right (And.right (And.right (And.right (And.right (And.right (And.right (And.right (And.right (by with_reducible assumption)))))))))))))) | exact And.left (And.right (And.right (And.right (And.right (And.right (And.right (And.right (And.right (And.right (And.right (And.right (And.right (And.right (And.right (by with_reducible assumption))))))))))))))) | exact And.right (by with_reducible assumption) | exact And.right (And.right (by with_reducible assumption)) | exact And.right (And.right (And.right (by with_reducible assumption))) | exact And.right (And.right (And.right (And.right (by with_reducible assumption)))) | exact And.right (And.right (And.right (And.right (And.right (by with_reducible assumption))))) | exact And.right (And.right (And.right (And.right (And.right (And.right (by with_reducible assumption)))))) | exact And.right (And.right (And.right (And.right (And.right (And.right (And.right (by with_reducible assumption))))))) | exact And.right (And.right (And.right (And.right (And.right (And.right (And.right (And.right (by with_reducible assumption)))))))) | exact And.right (And.right (And.right (And.right (And.right (And.right (And.right (And.right (And.right (by with_reducible assumption))))))))) | exact And.right (And.right (And.right (And.right (And.right (And.right (And.right (And.right (And.right (And.right (by with_reducible assumption)))))))))) | exact And.right (And.right (And.right (And.right (And.right (And.right (And.right (And.right (And.right (And.right (And.right (by with_reducible assumption))))))))))) | exact And.right (And.right (And.right (And.right (And.right (And.right (And.right (And.right (And.right (And.right (And.right (And.right (by with_reducible assumption)))))))))))) | exact And.right (And.right (And.right (And.right (And.right (And.right (And.right (And.right (And.right (And.right (And.right (And.right (And.right (by with_reducible assumption))))))))))))) | exact And.right (And.right (And.right (And.right (And.right (And.right (And.right (And.right (And.right (And.right (And.right (And.right (And.right (And.right (by with_reducible assumption))))))))))))))
  k_with "lt0" => first | with_reducible assumption | exact Nat.lt_trans (by with_reducible assumption) (by k_extra "lt0")
  k_with "lt" => first | k_extra "in" | exact Nat.lt_trans (by k_extra "in") (by k_extra "lt")
  k_with "ne0" => first | with_reducible assumption | exact Ne.symm (by with_reducible assumption) | exact Nat.succ_ne_self _ | exact Ne.symm (Nat.succ_ne_self _) | (refine Nat.ne_of_lt ?_; k_extra "lt0") | (refine Nat.ne_of_gt ?_; k_extra "lt0")
  k_with "ne1" => first | k_extra "in" | (refine Ne.symm ?_; k_extra "in") | (refine Nat.ne_of_lt ?_; k_extra "lt") | (refine Nat.ne_of_gt ?_; k_extra "lt")
  k_with "ne2" => first | (refine Nat.ne_of_lt ?_; k_extra "lt0") | (refine Nat.ne_of_gt ?_; k_extra "lt0") | (refine Nat.ne_of_lt (And.left (by with_reducible assumption)))  | (refine Nat.ne_of_gt (And.left (by with_reducible assumption))) | (refine Nat.ne_of_lt (Nat.lt_trans (And.right (by with_reducible assumption)) ?_); k_extra "lt0") | (refine Nat.ne_of_lt (And.right (by with_reducible assumption))) | (refine Nat.ne_of_gt (Nat.lt_trans ?_ (And.left (by with_reducible assumption))); k_extra "lt0")
  k_with "ne" => first | k_extra "ne0" | (refine Or.elim (by with_reducible assumption : @LT.lt Nat _ _ _ ∨ @LT.lt Nat _ _ _ ∧ @LT.lt Nat _ _ _) (fun q9 => ?_) (fun q9 => ?_); (all_goals k_extra "ne2")) | k_extra "ne1"
  k_with "ifs" => first | with_reducible rfl | exact Eq.trans (if_neg (by assumption)) (by k_extra "ifs")
  k_with "up" => first | exact up2 (by with_reducible assumption) rfl | exact up1 (by with_reducible assumption) rfl | exact up3 (by with_reducible assumption) rfl | exact up4 (by with_reducible assumption) rfl | exact up5 (by with_reducible assumption) rfl
  k_with "om" => first | with_reducible assumption | exact Nat.succ_pos _ | (with_reducible show @LT.lt Nat _ _ _; (try dsimp only); first | k_extra "lt0" | k_extra "up" | k_extra "lt") | (with_reducible show @Ne Nat _ _; k_extra "ne") | (with_reducible show @LT.lt Nat _ _ _ ∧ @LT.lt Nat _ _ _; refine And.intro ?_ ?_ <;> k_extra "om") | (with_reducible show @Eq Nat _ _; first | exact Nat.add_sub_add_right 6 1 _ | exact (Nat.add_sub_add_right 6 1 _).symm | exact Nat.succ_sub (by omega) | exact (Nat.succ_sub (by omega)).symm | exact Nat.sub_sub_self (by omega)) | omega
  k_with "k_room" => first | k_extra "up" | ((try simp only [depth_under_make, depth_under_kw, depth_in1, depth_deeper, depth_caller]); omega)
  k_with "tb_start" => first | assumption | omega | (simp only [List.length_cons, List.length_nil, List.length_append]; omega)
  k_with "tb_rel" => repeat' (first | exact List.forall_mem_nil _ | refine List.forall_mem_cons.mpr ⟨by first | exact Or.inr (by k_mem) | exact Or.inl (by simp), ?_⟩)
  k_with "k_units" => first | k_extra "up" | ((try simp only [units_in1, units_deeper, Around.mark_units, units_caller]); omega)
  k_with "call type:list" => (k_here; (with_reducible show wpAny _ _ (call (Value.type "list") [Value.str _ _]) _ _ _); k_dflt (refine' list_strN ?h ?F ?N ?z ?_; (case h => rfl); (case F => k_asm); (case N => k_asm); (case z => exact Nat.le_trans (by assumption) (Nat.le_of_ble_eq_true rfl)); k_whole); intro l₉ h₉ tk₉ vs₉ k₉ F₉ N₉ l1₉ hc₉; (try k_lt l1₉); (try k_sweep))
  k_with "truthy ref" => (k_here; k_dflt (refine' truthy_ls ?N ?m ?z ?_; (case N => k_asm); (case m => k_mem); (case z => tb_start)); (intro tk₉; (try dsimp only [List.isEmpty_cons, List.isEmpty_nil, Bool.not_false, Bool.not_true])))
  k_with "call builtin:list.pop" => (k_here; (with_reducible show wpAny _ _ (call (Value.builtin "list.pop") [Value.ref _, Value.int 0 _]) _ _ _); k_dflt (refine' pop0_N ?F ?N ?U ?z ?_; (case F => k_asm); (case N => k_asm); (case U => k_upd); (case z => tb_start)); (intro h₉ F₉ N₉; (try k_sweep)))
  k_with "call builtin:len" => ((with_reducible show wpAny _ _ (call (Value.builtin "len") [Value.ref _]) _ _ _); (refine len_list (lsAt (by k_asm) (by assumption)) (by simp; omega) ?_); (try simp only [List.size_toArray]))
  k_with "setItem ref int" => ((with_reducible show wpAny _ _ (setItem (Value.ref _) (Value.int _ _) _) _ _ _); k_dflt (refine' set_ls ?F ?N ?U ?h0 ?h1 ?hz ?_; (case F => k_asm); (case N => k_asm); (case U => k_upd); (case h0 => k_extra "om"); (case h1 => k_extra "om"); (case hz => k_extra "om")); intro h9₉ F9₉ N9₉; (try k_sweep))
  k_with "exec For Name Name cons nil" => refine Stop.go ?_
  k_with "exec For Name Call cons nil" => refine Stop.go ?_
  exact True.intro
section
variable {w : World} {p : Program} {loose : List Str} {mean : ExcName → Option Value} {mg mb : Str → Option Value} {dp un : Nat} {gd : Option (List Code)} {outs : List Env} {base h₀ : Heap} {s : Shared} {R : Result → Shared → Prop}
  (B : Below (AT dp un gd outs) base outs h₀) (X : (hd.heap_39 w.params).In h₀) (T : Top p loose mean mg mb h₀) (st : h₀.StaysIn s.heap) (hdp : dp + 12 < recursionLimit) (hu : un + 120 < cLine)
include B X T st hdp hu
theorem seeds_spec {a : Addr} {vs : List Value} {is : List Int} (hl : h₀.IsList a vs.toArray) (hI : IntsAre vs is) (hn : vs.length ≤ 63) (N : Own h₀ s.heap [])
    (hret : ∀ b vs' is' k h' tk', Keeps [] s.heap h' → h'.get? b = some (lsO vs' k) → s.heap.get? b = none → IntsAre vs' is' → is'.length = 10 → R (.ok (.ret (.ref b))) { s with heap := h', toks := tk' }) :
    codeAny (model PySem.Challenge.rw_wn0047_01.row.prog w) (AT dp un gd outs) (.call (.ref 128) ⟨[.ref a], []⟩) R s := by
  revert X; k_fill; intro X
  have hl' : Heap.IsList (hideAll s.heap (List.map (fun x => x.1) ([] : List (Addr × Obj)))) a vs.toArray := hl.at fun o e => (own_hide B st N).1 _ _ e
  k_dflt (refine' enter (binds := [(Str.ofString "script", Value.ref a)]) B X T st N ?k6 ?k7 ?k8 ?k9 ?kB ?_ ?c2 ?c3 ?c4 ?c5; (case k6 => k_is); (case k7 => k_is); (case k8 => k_room); (case k9 => exact BindsTo.of_eq rfl); (case c5 => decide); (case kB => exact locs rfl); (case c2 => exact rfl); (case c3 => exact rfl); (case c4 => exact rfl))
  intro g L' h₁ tk gh F' N' B' X' T' l1
  (try k_lt l1)
  rw [← gh] at hl'
  k_steps
  unfold Stop
  refine wpAny_For ?_
  k_steps
  rename IsRange _ _ _ _ _ _ _ _ => hR
  (rename Fr _ _ _ _ => F8)
  (rename News _ _ _ _ => N8)
  obtain ⟨lv, hlv⟩ : ∃ x, x = ledA N8 := ⟨_, rfl⟩
  dsimp only [ledA] at hlv
  subst hlv
  rename IntsAre vs is => hIv
  rename vs.length = is.length => hlen
  obtain ⟨n, hnE, hn1, hn2⟩ : ∃ n : Nat, (if 60 < (is.length : Int) then (60 : Int) else is.length) = n ∧ n ≤ is.length ∧ n ≤ 60 := by
    split
    · exact ⟨60, rfl, by k_extra "om", by k_extra "om"⟩
    · exact ⟨is.length, rfl, by k_extra "om", by k_extra "om"⟩
  rw [hnE] at hR
  refine wpAny_pyIter_range hR (small_n (by k_extra "om")) ?_
  rw [rsize_n]
  have F9 := F8.push (riO 0 n)
  have N9 := N8.push F8 (riO 0 n)
  dsimp only
  obtain ⟨I, hIe⟩ : ∃ I, I = ledA N9 := ⟨_, rfl⟩
  dsimp only [ledA] at hIe
  rw [← hIe] at N9 ⊢
  refine forRng (Inv := fun g' i m news => g' = g ∧ ∃ ws js nn vk, IntsAre ws js ∧ js.length = 10 ∧ m = (fun y => if y = Str.ofString "k" then vk else if y = Str.ofString "seeds" then some (Value.ref lv) else List.lookup y [(Str.ofString "script", Value.ref a)].reverse) ∧ news = [(lv, lsO ws nn)]) (n := n) rfl ?turn ?fin n 0 g _ _ _ _ (by k_extra "om") ⟨rfl, _, _, 0, _, (.cons _ _ (.cons _ _ (.cons _ _ (.cons _ _ (.cons _ _ (.cons _ _ (.cons _ _ (.cons _ _ (.cons _ _ (.cons _ _ .nil)))))))))), rfl, rfl, rfl⟩ ?hne (fr_set1 (Str.ofString "k") F9 (fun _ _ => rfl)) (riL N9)
  case turn =>
    intro i g9 m news h tk Nx Dn Rt E hi hI hne F N hN
    obtain ⟨rfl, ws, js, nn, vk, hW, hj, rfl, rfl⟩ := hI
    have hwl : ws.length = 10 := by have := hW.sizeZ; simp only [List.size_toArray] at this; omega
    have hIl : @Ne Nat lv _ := hne (lv, _) (.head _)
    clear F8 N8 F9 N9 hR
    have hf0 : 0 ≤ Int.fmod (i : Int) 10 := Int.fmod_nonneg_of_pos _ (by k_extra "om")
    have hf1 : Int.fmod (i : Int) 10 < 10 := Int.fmod_lt_of_pos _ (by k_extra "om")
    obtain ⟨x, tx, hx1, hx2⟩ := IntsAre.at' hW (k := (Int.fmod i 10).toNat) (by rw [hwl]; omega)
    obtain ⟨y, ty, hy1, hy2⟩ := IntsAre.at' hIv (k := i) (by k_extra "om")
    k_steps
    dsimp only
    (rename News _ _ _ _ => NN)
    (rename Fr _ _ _ _ => FF)
    exact hN _ _ _ _ _ ⟨rfl, _, _, _, _, intsSet hW _, by rw [List.length_set]; exact hj, rfl, rfl⟩ (fun p hp => by cases List.mem_singleton.mp hp; exact hIl) (fr_set1 (Str.ofString "k") FF (fun y h => by k_extra "ifs")) NN
  case fin =>
    intro g9 m news h tk hI FF NN
    obtain ⟨rfl, ws, js, nn, vk, hW, hj, rfl, rfl⟩ := hI
    clear F8 N8 F9 N9 hR
    k_steps
    dsimp only
    exact hret _ _ _ _ _ _ (keeps_as gh N (by k_asm) NN (by tb_rel)) (NN.get (.head _)) (new_of gh NN (.head _) (fun q => nomatch q)) hW hj
  case hne =>
    intro p hp
    cases List.mem_singleton.mp hp
    have := (N8 (lv, _) (.head _)).1
    rw [hIe]
    exact Nat.ne_of_lt (Heap.lt_size this)
end
-- C21
theorem lines26 : True := by
  k_with_none
  k_with "in" => first | with_reducible assumption | exact And.left (by with_reducible assumption) | exact And.left (And.right (by with_reducible assumption)) | exact And.left (And.right (And.right (by with_reducible assumption))) | exact And.left (And.right (And.right (And.right (by with_reducible assumption)))) | exact And.left (And.right (And.right (And.right (And.right (by with_reducible assumption))))) | exact And.left (And.right (And.right (And.right (And.right (And.right (by with_reducible assumption)))))) | exact And.left (And.right (And.right (And.right (And.right (And.right (And.right (by with_reducible assumption))))))) | exact And.left (And.right (And.right (And.right (And.right (And.right (And.right (And.right (by with_reducible assumption)))))))) | exact And.left (And.right (And.right (And.right (And.right (And.right (And.right (And.right (And.right (by with_reducible assumption))))))))) | exact And.left (And.right (And.right (And.right (And.right (And.right (And.right (And.right (And.right (And.right (by with_reducible assumption)))))))))) | exact And.left (And.right (And.right (And.right (And.right (And.right (And.right (And.right (And.right (And.right (And.right (by with_reducible assumption))))))))))) | exact And.left (And.right (And.right (And.right (And.right (And.right (And.right (And.right (And.right (And.right (And.right (And.right (by with_reducible assumption)))))))))))) | exact And.left (And.right (And.right (And.right (And.right (And.right (And.right (And.right (And.right (And.right (And.right (And.right (And.right (by with_reducible assumption))))))))))))) | exact And.left (And.right (And.right (And.right (And.right (And.right (And.right (And.right (And.right (And.right (And.right (And.right (And.right (And.right (by with_reducible assumption)))))))))))))) | exact And.left (And.right (And.right (And.right (And.right (And.right (And.right (And.right (And.right (And.right (And.right (And.right (And.right (And.right (And.right (by with_reducible assumption))))))))))))))) | exact And.right (by with_reducible assumption) | exact And.right (And.right (by with_reducible assumption)) | exact And.right (And.right (And.right (by with_reducible assumption))) | exact And.right (And.right (And.right (And.right (by with_reducible assumption)))) | exact And.right (And.right (And.right (And.right (And.right (by with_reducible assumption))))) | exact And.right (And.right (And.right (And.right (And.right (And.right (by with_reducible assumption)))))) | exact And.right (And.right (And.right (And.right (And.right (And.right (And.right (by with_reducible assumption))))))) | exact And.right (And.right (And.right (And.right (And.right (And.right (And.right (And.right (by with_reducible assumption)))))))) | exact And.right (And.right (And.right (And.right (And.right (And.right (And.right (And.right (And.right (by with_reducible assumption))))))))) | exact And.right (And.right (And.right (And.right (And.right (And.right (And.right (And.right (And.right (And.right (by with_reducible assumption)))))))))) | exact And.right (And.right (And.right (And.right (And.right (And.right (And.right (And.right (And.right (And.right (And.right (by with_reducible assumption))))))))))) | exact And.right (And.right (And.right (And.right (And.right (And.right (And.right (And.right (And.right (And.right (And.right (And.right (by with_reducible assumption)))))))))))) | exact And.right (And.right (And.right (And.right (And.right (And.right (And.right (And.right (And.right (And.right (And.right (And.right (And.right (by with_reducible assumption))))))))))))) | exact And.right (And.right (And.right (And.right (And.right (And.right (And.right (And.right (And.right (And.right (And.right (And.right (And.right (And.right (by with_reducible assumption))))))))))))))
  k_with "lt0" => first | with_reducible assumption | exact Nat.lt_trans (by with_reducible assumption) (by k_extra "lt0")
  k_with "lt" => first | k_extra "in" | exact Nat.lt_trans (by k_extra "in") (by k_extra "lt")
  k_with "ne0" => first | with_reducible assumption | exact Ne.symm (by with_reducible assumption) | exact Nat.succ_ne_self _ | exact Ne.symm (Nat.succ_ne_self _) | (refine Nat.ne_of_lt ?_; k_extra "lt0") | (refine Nat.ne_of_gt ?_; k_extra "lt0")
  k_with "ne1" => first | k_extra "in" | (refine Ne.symm ?_; k_extra "in") | (refine Nat.ne_of_lt ?_; k_extra "lt") | (refine Nat.ne_of_gt ?_; k_extra "lt")
  k_with "ne2" => first | (refine Nat.ne_of_lt ?_; k_extra "lt0") | (refine Nat.ne_of_gt ?_; k_extra "lt0") | (refine Nat.ne_of_lt (And.left (by with_reducible assumption)))  | (refine Nat.ne_of_gt (And.left (by with_reducible assumption))) | (refine Nat.ne_of_lt (Nat.lt_trans (And.right (by with_reducible assumption)) ?_); k_extra "lt0") | (refine Nat.ne_of_lt (And.right (by with_reducible assumption))) | (refine Nat.ne_of_gt (Nat.lt_trans ?_ (And.left (by with_reducible assumption))); k_extra "lt0")
  k_with "ne" => first | k_extra "ne0" | (refine Or.elim (by with_reducible assumption : @LT.lt Nat _ _ _ ∨ @LT.lt Nat _ _ _ ∧ @LT.lt Nat _ _ _) (fun q9 => ?_) (fun q9 => ?_); (all_goals k_extra "ne2")) | k_extra "ne1"
  k_with "ifs" => first | with_reducible rfl | exact Eq.trans (if_neg (by assumption)) (by k_extra "ifs")
  k_with "up" => first | exact up2 (by with_reducible assumption) rfl | exact up1 (by with_reducible assumption) rfl | exact up3 (by with_reducible assumption) rfl | exact up4 (by with_reducible assumption) rfl | exact up5 (by with_reducible assumption) rfl
  k_with "om" => first | with_reducible assumption | exact Nat.succ_pos _ | (with_reducible show @LT.lt Nat _ _ _; (try dsimp only); first | k_extra "lt0" | k_extra "up" | k_extra "lt") | (with_reducible show @Ne Nat _ _; k_extra "ne") | (with_reducible show @LT.lt Nat _ _ _ ∧ @LT.lt Nat _ _ _; refine And.intro ?_ ?_ <;> k_extra "om") | (with_reducible show @Eq Nat _ _; first | exact Nat.add_sub_add_right 6 1 _ | exact (Nat.add_sub_add_right 6 1 _).symm | exact Nat.succ_sub (by omega) | exact (Nat.succ_sub (by omega)).symm | exact Nat.sub_sub_self (by omega)) | omega
  k_with "k_room" => first | k_extra "up" | ((try simp only [depth_under_make, depth_under_kw, depth_in1, depth_deeper, depth_caller]); omega)
  k_with "tb_start" => first | assumption | omega | (simp only [List.length_cons, List.length_nil, List.length_append]; omega)
  k_with "tb_rel" => repeat' (first | exact List.forall_mem_nil _ | refine List.forall_mem_cons.mpr ⟨by first | exact Or.inr (by k_mem) | exact Or.inl (by simp), ?_⟩)
  k_with "k_units" => first | k_extra "up" | ((try simp only [units_in1, units_deeper, Around.mark_units, units_caller]); omega)
  k_with "call type:list" => (k_here; (with_reducible show wpAny _ _ (call (Value.type "list") [Value.str _ _]) _ _ _); k_dflt (refine' list_strN ?h ?F ?N ?z ?_; (case h => rfl); (case F => k_asm); (case N => k_asm); (case z => exact Nat.le_trans (by assumption) (Nat.le_of_ble_eq_true rfl)); k_whole); intro l₉ h₉ tk₉ vs₉ k₉ F₉ N₉ l1₉ hc₉; (try k_lt l1₉); (try k_sweep))
  k_with "truthy ref" => (k_here; k_dflt (refine' truthy_ls ?N ?m ?z ?_; (case N => k_asm); (case m => k_mem); (case z => tb_start)); (intro tk₉; (try dsimp only [List.isEmpty_cons, List.isEmpty_nil, Bool.not_false, Bool.not_true])))
  k_with "call builtin:list.pop" => (k_here; (with_reducible show wpAny _ _ (call (Value.builtin "list.pop") [Value.ref _, Value.int 0 _]) _ _ _); k_dflt (refine' pop0_N ?F ?N ?U ?z ?_; (case F => k_asm); (case N => k_asm); (case U => k_upd); (case z => tb_start)); (intro h₉ F₉ N₉; (try k_sweep)))
  k_with "eval IfExp" => (k_here; k_dflt (refine' fig_join ?hm ?h1 ?_; (case hm => assumption); (case h1 => (k_steps; all_goals first | exact ⟨⟨_, rfl⟩, _, by rw [fig1 (by with_reducible assumption)]⟩ | exact ⟨⟨_, rfl⟩, _, by rw [fig2 (by with_reducible assumption)]⟩))); (intro t9₉ tk9₉))
  exact True.intro
theorem ints4 {a b c d : Int} {t1 t2 t3 t4 : Tok} : IntsAre [.int a t1, .int b t2, .int c t3, .int d t4] [a, b, c, d] := .cons _ _ (.cons _ _ (.cons _ _ (.cons _ _ .nil)))
noncomputable def fig (y : Int) : Int := if y = 5 then 127 else y
theorem fig_join {prog : Program} {w : World} {A : Around} {E : Value → Shared → Prop} {s : Shared} {m : Str → Option Value} {y : Int} {t : Tok} {env : Env} {a b c : PySem.Expr} {p : Pos} {Q : Value → Shared → Prop} (hm : m (Str.ofString "figure") = some (.int y t))
    (h1 : wpAny (model prog w) A (isTrue a env (eval a env)) (fun c1 s2 => if c1 then wpAny (model prog w) A (eval b env) (fun v s' => Stop ((∃ tk, s' = { s with toks := tk }) ∧ ∃ t, v = .int (fig y) t)) E s2 else wpAny (model prog w) A (eval c env) (fun v s' => Stop ((∃ tk, s' = { s with toks := tk }) ∧ ∃ t, v = .int (fig y) t)) E s2) E s)
    (h : ∀ t tk, Q (.int (fig y) t) { s with toks := tk }) : wpAny (model prog w) A (eval (.IfExp a b c p) env) Q E s :=
  PyProof.Rows.IfExp_ (wpAny_mono h1 (fun c1 s2 h2 => by
    cases c1
    · exact wpAny_mono h2 (fun v s' hv => by obtain ⟨⟨tk, rfl⟩, t', rfl⟩ := hv; exact h _ _) fun _ _ x => x
    · exact wpAny_mono h2 (fun v s' hv => by obtain ⟨⟨tk, rfl⟩, t', rfl⟩ := hv; exact h _ _) fun _ _ x => x) fun _ _ x => x)
theorem fig1 {y : Int} (h : y = 5) : fig y = 127 := if_pos h
theorem fig2 {y : Int} (h : ¬ y = 5) : fig y = y := if_neg h
section
variable {w : World} {p : Program} {loose : List Str} {mean : ExcName → Option Value} {mg mb : Str → Option Value} {dp un : Nat} {gd : Option (List Code)} {outs : List Env} {base h₀ : Heap} {s : Shared} {R : Result → Shared → Prop}
  (B : Below (AT dp un gd outs) base outs h₀) (X : (hd.heap_39 w.params).In h₀) (T : Top p loose mean mg mb h₀) (st : h₀.StaysIn s.heap) (hdp : dp + 12 < recursionLimit) (hu : un + 120 < cLine)
include B X T st hdp hu
theorem ruler_spec {x : Int} {t1 : Tok} (N : Own h₀ s.heap [])
    (hret : ∀ b vs' k h' tk', Keeps [] s.heap h' → h'.get? b = some (lsO vs' k) → s.heap.get? b = none → IntsAre vs' [fig (Int.fmod x 6), fig (Int.fmod (Int.fdiv x 6) 6), fig (Int.fmod (Int.fdiv x 36) 6), fig (Int.fmod (Int.fdiv x 216) 6)] → R (.ok (.ret (.ref b))) { s with heap := h', toks := tk' }) :
    codeAny (model PySem.Challenge.rw_wn0047_01.row.prog w) (AT dp un gd outs) (.call (.ref 161) ⟨[.int x t1], []⟩) R s := by
  revert X; k_fill; intro X
  k_dflt (refine' enter (binds := [(Str.ofString "seed", Value.int x t1)]) B X T st N ?k6 ?k7 ?k8 ?k9 ?kB ?_ ?c2 ?c3 ?c4 ?c5; (case k6 => k_is); (case k7 => k_is); (case k8 => k_room); (case k9 => exact BindsTo.of_eq rfl); (case c5 => decide); (case kB => exact locs rfl); (case c2 => exact rfl); (case c3 => exact rfl); (case c4 => exact rfl))
  intro g L' h₁ tk gh F' N' B' X' T' l1
  (try k_lt l1)
  k_steps
  (rename News _ _ _ _ => NN)
  (rename Fr _ _ _ _ => FF)
  have e1 := NN.get (.head _)
  have e2 := keeps_as (as := []) gh N FF NN (by tb_rel)
  have e3 := new_of gh NN (.head _) (fun q => nomatch q)
  clear NN gh
  have e4 : ∀ (h' : Heap) (b : Addr) (vs' : List Value), h'.get? b = some (LCg.lst vs') → h'.get? b = some (lsO vs' vs'.length) := fun _ _ _ e => e
  have e5 := e4 _ _ _ e1
  refine hret _ _ _ _ _ e2 e5 e3 ?_
  clear hret e2 e3 e5 e1
  exact ints4
end
-- C22
theorem lines27 : True := by
  k_with_none
  k_with "in" => first | with_reducible assumption | exact And.left (by with_reducible assumption) | exact And.left (And.right (by with_reducible assumption)) | exact And.left (And.right (And.right (by with_reducible assumption))) | exact And.left (And.right (And.right (And.right (by with_reducible assumption)))) | exact And.left (And.right (And.right (And.right (And.right (by with_reducible assumption))))) | exact And.left (And.right (And.right (And.right (And.right (And.right (by with_reducible assumption)))))) | exact And.left (And.right (And.right (And.right (And.right (And.right (And.right (by with_reducible assumption))))))) | exact And.left (And.right (And.right (And.right (And.right (And.right (And.right (And.right (by with_reducible assumption)))))))) | exact And.left (And.right (And.right (And.right (And.right (And.right (And.right (And.right (And.right (by with_reducible assumption))))))))) | exact And.left (And.right (And.right (And.right (And.right (And.right (And.right (And.right (And.right (And.right (by with_reducible assumption)))))))))) | exact And.left (And.right (And.right (And.right (And.right (And.right (And.right (And.right (And.right (And.right (And.right (by with_reducible assumption))))))))))) | exact And.left (And.right (And.right (And.right (And.right (And.right (And.right (And.right (And.right (And.right (And.right (And.right (by with_reducible assumption)))))))))))) | exact And.left (And.right (And.right (And.right (And.right (And.right (And.right (And.right (And.right (And.right (And.right (And.right (And.right (by with_reducible assumption))))))))))))) | exact And.left (And.right (And.right (And.right (And.right (And.right (And.right (And.right (And.right (And.right (And.right (And.right (And.right (And.right (by with_reducible assumption)))))))))))))) | exact And.left (And.right (And.right (And.right (And.right (And.right (And.right (And.right (And.right (And.right (And.right (And.right (And.right (And.right (And.right (by with_reducible assumption))))))))))))))) | exact And.right (by with_reducible assumption) | exact And.right (And.right (by with_reducible assumption)) | exact And.right (And.right (And.right (by with_reducible assumption))) | exact And.right (And.right (And.right (And.right (by with_reducible assumption)))) | exact And.right (And.right (And.right (And.right (And.right (by with_reducible assumption))))) | exact And.right (And.right (And.right (And.right (And.right (And.right (by with_reducible assumption)))))) | exact And.right (And.right (And.right (And.right (And.right (And.right (And.right (by with_reducible assumption))))))) | exact And.right (And.right (And.right (And.right (And.right (And.right (And.right (And.right (by with_reducible assumption)))))))) | exact And.right (And.right (And.right (And.right (And.right (And.right (And.right (And.right (And.right (by with_reducible assumption))))))))) | exact And.right (And.right (And.right (And.right (And.right (And.right (And.right (And.right (And.right (And.right (by with_reducible assumption)))))))))) | exact And.right (And.right (And.right (And.right (And.right (And.right (And.right (And.right (And.right (And.right (And.right (by with_reducible assumption))))))))))) | exact And.right (And.right (And.right (And.right (And.right (And.right (And.right (And.right (And.right (And.right (And.right (And.right (by with_reducible assumption)))))))))))) | exact And.right (And.right (And.right (And.right (And.right (And.right (And.right (And.right (And.right (And.right (And.right (And.right (And.right (by with_reducible assumption))))))))))))) | exact And.right (And.right (And.right (And.right (And.right (And.right (And.right (And.right (And.right (And.right (And.right (And.right (And.right (And.right (by with_reducible assumption))))))))))))))
  k_with "lt0" => first | with_reducible assumption | exact Nat.lt_trans (by with_reducible assumption) (by k_extra "lt0")
  k_with "lt" => first | k_extra "in" | exact Nat.lt_trans (by k_extra "in") (by k_extra "lt")
  k_with "ne0" => first | with_reducible assumption | exact Ne.symm (by with_reducible assumption) | exact Nat.succ_ne_self _ | exact Ne.symm (Nat.succ_ne_self _) | (refine Nat.ne_of_lt ?_; k_extra "lt0") | (refine Nat.ne_of_gt ?_; k_extra "lt0")
  k_with "ne1" => first | k_extra "in" | (refine Ne.symm ?_; k_extra "in") | (refine Nat.ne_of_lt ?_; k_extra "lt") | (refine Nat.ne_of_gt ?_; k_extra "lt")
  k_with "ne2" => first | (refine Nat.ne_of_lt ?_; k_extra "lt0") | (refine Nat.ne_of_gt ?_; k_extra "lt0") | (refine Nat.ne_of_lt (And.left (by with_reducible assumption)))  | (refine Nat.ne_of_gt (And.left (by with_reducible assumption))) | (refine Nat.ne_of_lt (Nat.lt_trans (And.right (by with_reducible assumption)) ?_); k_extra "lt0") | (refine Nat.ne_of_lt (And.right (by with_reducible assumption))) | (refine Nat.ne_of_gt (Nat.lt_trans ?_ (And.left (by with_reducible assumption))); k_extra "lt0")
  k_with "ne" => first | k_extra "ne0" | (refine Or.elim (by with_reducible assumption : @LT.lt Nat _ _ _ ∨ @LT.lt Nat _ _ _ ∧ @LT.lt Nat _ _ _) (fun q9 => ?_) (fun q9 => ?_); (all_goals k_extra "ne2")) | k_extra "ne1"
  k_with "ifs" => first | with_reducible rfl | exact Eq.trans (if_neg (by assumption)) (by k_extra "ifs")
  k_with "up" => first | exact up2 (by with_reducible assumption) rfl | exact up1 (by with_reducible assumption) rfl | exact up3 (by with_reducible assumption) rfl | exact up4 (by with_reducible assumption) rfl | exact up5 (by with_reducible assumption) rfl
  k_with "om" => first | with_reducible assumption | exact Nat.succ_pos _ | (with_reducible show @LT.lt Nat _ _ _; (try dsimp only); first | k_extra "lt0" | k_extra "up" | k_extra "lt") | (with_reducible show @Ne Nat _ _; k_extra "ne") | (with_reducible show @LT.lt Nat _ _ _ ∧ @LT.lt Nat _ _ _; refine And.intro ?_ ?_ <;> k_extra "om") | (with_reducible show @Eq Nat _ _; first | exact Nat.add_sub_add_right 6 1 _ | exact (Nat.add_sub_add_right 6 1 _).symm | exact Nat.succ_sub (by omega) | exact (Nat.succ_sub (by omega)).symm | exact Nat.sub_sub_self (by omega)) | omega
  k_with "k_room" => first | k_extra "up" | ((try simp only [depth_under_make, depth_under_kw, depth_in1, depth_deeper, depth_caller]); omega)
  k_with "tb_start" => first | assumption | omega | (simp only [List.length_cons, List.length_nil, List.length_append]; omega)
  k_with "tb_rel" => repeat' (first | exact List.forall_mem_nil _ | refine List.forall_mem_cons.mpr ⟨by first | exact Or.inr (by k_mem) | exact Or.inl (by simp), ?_⟩)
  k_with "k_units" => first | k_extra "up" | ((try simp only [units_in1, units_deeper, Around.mark_units, units_caller]); omega)
  k_with "call type:list" => (k_here; (with_reducible show wpAny _ _ (call (Value.type "list") [Value.str _ _]) _ _ _); k_dflt (refine' list_strN ?h ?F ?N ?z ?_; (case h => rfl); (case F => k_asm); (case N => k_asm); (case z => exact Nat.le_trans (by assumption) (Nat.le_of_ble_eq_true rfl)); k_whole); intro l₉ h₉ tk₉ vs₉ k₉ F₉ N₉ l1₉ hc₉; (try k_lt l1₉); (try k_sweep))
  k_with "truthy ref" => (k_here; k_dflt (refine' truthy_ls ?N ?m ?z ?_; (case N => k_asm); (case m => k_mem); (case z => tb_start)); (intro tk₉; (try dsimp only [List.isEmpty_cons, List.isEmpty_nil, Bool.not_false, Bool.not_true])))
  k_with "call builtin:list.pop" => (k_here; (with_reducible show wpAny _ _ (call (Value.builtin "list.pop") [Value.ref _, Value.int 0 _]) _ _ _); k_dflt (refine' pop0_N ?F ?N ?U ?z ?_; (case F => k_asm); (case N => k_asm); (case U => k_upd); (case z => tb_start)); (intro h₉ F₉ N₉; (try k_sweep)))
  k_with "call builtin:list.append" => (k_here; (with_reducible show wpAny _ _ (call (Value.builtin _) [Value.ref _, _]) _ _ _); k_dflt (refine' append_ls ?F ?N ?U ?z ?_; (case F => k_asm); (case N => k_asm); (case U => k_upd); (case z => tb_start)); (intro h₉ F₉ N₉; (try k_sweep)))
  k_with "exec For Name Name cons nil" => refine Stop.go ?_
  k_with "exec For Name Call cons nil" => refine Stop.go ?_
  k_with "pyIter ref" => refine Stop.go ?_
  exact True.intro
/-- what holds between two seeds -/
inductive CallsA (lv a : Addr) (vs : List Value) (k0 i : Nat) (m : Names) (news : Led) : Prop
  | mk (ws : List Value) (js : List Int) (nn : Nat) (v1 v2 v3 : Option Value) (h1 : IntsAre ws js) (h2 : js.length = 6 * i) (h3 : (∀ j ∈ js, 0 ≤ j ∧ j < 5)) (h4 : m = (fun y => if y = Str.ofString "seed" then v1 else if y = Str.ofString "left" then v2 else if y = Str.ofString "figure" then v3 else if y = Str.ofString "calls" then some (Value.ref lv) else List.lookup y [(Str.ofString "seeds", Value.ref a)].reverse)) (h5 : news = [(lv, lsO ws nn), (a, lsO vs k0)]) : CallsA lv a vs k0 i m news
/-- what holds between two figures of a seed -/
inductive CallsB (lv a I : Addr) (o : Obj) (vs : List Value) (k0 i j : Nat) (m : Names) (news : Led) : Prop
  | mk (ws : List Value) (js : List Int) (nn : Nat) (v1 v3 : Option Value) (lf : Int) (tl : Tok) (h1 : IntsAre ws js) (h2 : js.length = 6 * i + j) (h3 : (∀ j ∈ js, 0 ≤ j ∧ j < 5)) (h4 : m = (fun y => if y = Str.ofString "figure" then v3 else if y = Str.ofString "left" then some (Value.int lf tl) else if y = Str.ofString "seed" then v1 else if y = Str.ofString "calls" then some (Value.ref lv) else List.lookup y [(Str.ofString "seeds", Value.ref a)].reverse)) (h5 : news = [(I, o), (lv, lsO ws nn), (a, lsO vs k0)]) : CallsB lv a I o vs k0 i j m news
section
variable {w : World} {p : Program} {loose : List Str} {mean : ExcName → Option Value} {mg mb : Str → Option Value} {dp un : Nat} {gd : Option (List Code)} {outs : List Env} {base h₀ : Heap} {s : Shared} {R : Result → Shared → Prop}
  (B : Below (AT dp un gd outs) base outs h₀) (X : (hd.heap_39 w.params).In h₀) (T : Top p loose mean mg mb h₀) (st : h₀.StaysIn s.heap) (hdp : dp + 12 < recursionLimit) (hu : un + 120 < cLine)
include B X T st hdp hu
theorem calls_spec {a : Addr} {vs : List Value} {is : List Int} {k0 : Nat} (hI : IntsAre vs is) (hn : vs.length = 4) (N : Own h₀ s.heap [(a, lsO vs k0)])
    (hret : ∀ b ws js k h' tk', Keeps [] s.heap h' → h'.get? b = some (lsO ws k) → s.heap.get? b = none → IntsAre ws (js ++ (List.replicate 20 [0, 1, 2, 3, 4]).flatten) → js.length = 24 → (∀ j ∈ js, 0 ≤ j ∧ j < 5) → R (.ok (.ret (.ref b))) { s with heap := h', toks := tk' }) :
    codeAny (model PySem.Challenge.rw_wn0047_01.row.prog w) (AT dp un gd outs) (.call (.ref 168) ⟨[.ref a], []⟩) R s := by
  revert X; k_fill; intro X
  k_dflt (refine' enter (binds := [(Str.ofString "seeds", Value.ref a)]) B X T st N ?k6 ?k7 ?k8 ?k9 ?kB ?_ ?c2 ?c3 ?c4 ?c5; (case k6 => k_is); (case k7 => k_is); (case k8 => k_room); (case k9 => exact BindsTo.of_eq rfl); (case c5 => decide); (case kB => exact locs rfl); (case c2 => exact rfl); (case c3 => exact rfl); (case c4 => exact rfl))
  intro g L' h₁ tk gh F' N' B' X' T' l1
  (try k_lt l1)
  k_steps
  unfold Stop
  refine wpAny_For ?_
  k_steps
  unfold Stop
  (rename News _ _ _ _ => N1)
  (rename Fr _ _ _ _ => F1)
  obtain ⟨lv, hlv⟩ : ∃ x, x = ledA N1 := ⟨_, rfl⟩
  dsimp only [ledA] at hlv
  subst hlv
  refine pyForLst (vs := vs) (Inv := fun g' i m news => g' = g ∧ CallsA lv a vs k0 i m news) rfl ?there (fr_set3 (Str.ofString "seed") (Str.ofString "left") (Str.ofString "figure") F1 (fun _ _ _ _ => rfl)) N1 ⟨rfl, [], [], 0, _, _, _, .nil, rfl, List.forall_mem_nil _, rfl, rfl⟩ ?turn ?fin
  case there =>
    intro i g' m news h hI F N
    obtain ⟨-, ws, js, nn, v1, v2, v3, -, -, -, -, rfl⟩ := hI
    exact ⟨_, N.get (by k_mem), rfl, k0, rfl⟩
  case turn =>
    intro I hlt i v g9 m news h tk o Nx Dn Rt E hv hV hne F N hN hD
    obtain ⟨rfl, ws, js, nn, v1, v2, v3, hW, hj, hb, rfl, rfl⟩ := hV
    clear F1 N1
    have hlI : @Ne Nat lv I := hne (lv, _) (.head _)
    have haI : @Ne Nat a I := hne (a, _) (.tail _ (.head _))
    obtain ⟨y, ty, hy1, hy2⟩ := IntsAre.at' hI (k := i) (by have := (List.getElem?_eq_some_iff.mp hv).1; omega)
    have hi4 : i < 4 := by have := (List.getElem?_eq_some_iff.mp hv).1; omega
    rw [hy1] at hv
    cases hv
    k_steps
    unfold Stop
    refine wpAny_For ?_
    k_steps
    unfold Stop
    rename IsRange _ _ _ _ _ _ _ _ => hR
    (rename News _ _ _ _ => N1)
    (rename Fr _ _ _ _ => F1)
    refine pyForRng (Inv := fun g' j m news => g' = g9 ∧ CallsB lv a I o vs k0 i j m news) 6 rfl hR (by k_extra "om") (fr_set4 (Str.ofString "figure") (Str.ofString "left") (Str.ofString "seed") (Str.ofString "calls") F1 (fun y h1 h2 h3 h4 => by k_extra "ifs")) N1 ⟨rfl, ws, js, nn, _, _, _, _, hW, hj, hb, rfl, rfl⟩ ?turn2 ?fin2
    case turn2 =>
      intro I2 hlt2 j g8 m news h tk Nx2 Dn2 Rt2 E2 hj2 hV hne2 F N hN2
      obtain ⟨rfl, ws2, js2, nn2, w1, w3, lf, tl, hW2, hl2, hb2, rfl, rfl⟩ := hV
      clear F1 N1
      have hlI2 : @Ne Nat lv I2 := hne2 (lv, _) (.tail _ (.head _))
      have haI2 : @Ne Nat a I2 := hne2 (a, _) (.tail _ (.tail _ (.head _)))
      have hII2 : @Ne Nat I I2 := hne2 (I, _) (.head _)
      have f1 : 0 ≤ Int.fmod lf 5 := Int.fmod_nonneg_of_pos _ (by k_extra "om")
      have f2 : Int.fmod lf 5 < 5 := Int.fmod_lt_of_pos _ (by k_extra "om")
      have hwl := intsLen hW2
      k_steps
      (rename News _ _ _ _ => NN)
      (rename Fr _ _ _ _ => FF)
      simp only [List.push_toArray] at NN
      exact hN2 _ _ _ _ _ ⟨rfl, _, _, _, _, _, _, _, intsSnoc hW2, by rw [List.length_append, hl2]; rfl, List.forall_mem_append.mpr ⟨hb2, List.forall_mem_cons.mpr ⟨⟨f1, f2⟩, List.forall_mem_nil _⟩⟩, rfl, rfl⟩ (List.forall_mem_cons.mpr ⟨hII2, List.forall_mem_cons.mpr ⟨hlI2, List.forall_mem_cons.mpr ⟨haI2, List.forall_mem_nil _⟩⟩⟩) (fr_set4 (Str.ofString "figure") (Str.ofString "left") (Str.ofString "seed") (Str.ofString "calls") FF (fun y h1 h2 h3 h4 => by k_extra "ifs")) NN
    case fin2 =>
      intro g8 m news h tk hV FF NN
      obtain ⟨rfl, ws2, js2, nn2, w1, w3, lf, tl, hW2, hl2, hb2, rfl, rfl⟩ := hV
      clear F1 N1
      k_steps
      exact hN _ _ _ _ _ ⟨rfl, ws2, js2, nn2, _, _, _, hW2, by k_extra "om", hb2, rfl, rfl⟩ (List.forall_mem_cons.mpr ⟨hlI, List.forall_mem_cons.mpr ⟨haI, List.forall_mem_nil _⟩⟩) (fr_set4 (Str.ofString "seed") (Str.ofString "left") (Str.ofString "figure") (Str.ofString "calls") FF (fun y h1 h2 h3 h4 => by k_extra "ifs")) NN
  case fin =>
    intro g9 m news h tk hI FF NN
    obtain ⟨rfl, ws, js, nn, v1, v2, v3, hW, hj, hb, rfl, rfl⟩ := hI
    clear F1 N1
    k_steps
    (rename News _ _ _ _ => NN)
    (rename Fr _ _ _ _ => FF)
    rename IntsAre _ _ => hIZ
    exact hret _ _ _ _ _ _ (keeps_as gh N FF NN (by tb_rel)) (NN.get (.head _)) (new_of gh NN (.head _) (notin1 (by k_extra "om"))) hIZ (by k_extra "om") hb
end
-- C23
theorem lines28 : True := by
  k_with_none
  k_with "in" => first | with_reducible assumption | exact And.left (by with_reducible assumption) | exact And.left (And.right (by with_reducible assumption)) | exact And.left (And.right (And.right (by with_reducible assumption))) | exact And.left (And.right (And.right (And.right (by with_reducible assumption)))) | exact And.left (And.right (And.right (And.right (And.right (by with_reducible assumption))))) | exact And.left (And.right (And.right (And.right (And.right (And.right (by with_reducible assumption)))))) | exact And.left (And.right (And.right (And.right (And.right (And.right (And.right (by with_reducible assumption))))))) | exact And.left (And.right (And.right (And.right (And.right (And.right (And.right (And.right (by with_reducible assumption)))))))) | exact And.left (And.right (And.right (And.right (And.right (And.right (And.right (And.right (And.right (by with_reducible assumption))))))))) | exact And.left (And.right (And.right (And.right (And.right (And.right (And.right (And.right (And.right (And.right (by with_reducible assumption)))))))))) | exact And.left (And.right (And.right (And.right (And.right (And.right (And.right (And.right (And.right (And.right (And.right (by with_reducible assumption))))))))))) | exact And.left (And.right (And.right (And.right (And.right (And.right (And.right (And.right (And.right (And.right (And.right (And.right (by with_reducible assumption)))))))))))) | exact And.left (And.right (And.right (And.right (And.right (And.right (And.right (And.right (And.right (And.right (And.right (And.right (And.right (by with_reducible assumption))))))))))))) | exact And.left (And.right (And.right (And.right (And.right (And.right (And.right (And.right (And.right (And.right (And.right (And.right (And.right (And.right (by with_reducible assumption)))))))))))))) | exact And.left (And.right (And.right (And.right (And.right (And.right (And.right (And.right (And.right (And.right (And.right (And.right (And.right (And.right (And.right (by with_reducible assumption))))))))))))))) | exact And.right (by with_reducible assumption) | exact And.right (And.right (by with_reducible assumption)) | exact And.right (And.right (And.right (by with_reducible assumption))) | exact And.right (And.right (And.right (And.right (by with_reducible assumption)))) | exact And.right (And.right (And.right (And.right (And.right (by with_reducible assumption))))) | exact And.right (And.right (And.right (And.right (And.right (And.right (by with_reducible assumption)))))) | exact And.right (And.right (And.right (And.right (And.right (And.right (And.right (by with_reducible assumption))))))) | exact And.right (And.right (And.right (And.right (And.right (And.right (And.right (And.right (by with_reducible assumption)))))))) | exact And.right (And.right (And.right (And.right (And.right (And.right (And.right (And.right (And.right (by with_reducible assumption))))))))) | exact And.right (And.right (And.right (And.right (And.right (And.right (And.right (And.right (And.right (And.right (by with_reducible assumption)))))))))) | exact And.right (And.right (And.right (And.right (And.right (And.right (And.right (And.right (And.right (And.right (And.right (by with_reducible assumption))))))))))) | exact And.right (And.right (And.right (And.right (And.right (And.right (And.right (And.right (And.right (And.right (And.right (And.right (by with_reducible assumption)))))))))))) | exact And.right (And.right (And.right (And.right (And.right (And.right (And.right (And.right (And.right (And.right (And.right (And.right (And.right (by with_reducible assumption))))))))))))) | exact And.right (And.right (And.right (And.right (And.right (And.right (And.right (And.right (And.right (And.right (And.right (And.right (And.right (And.right (by with_reducible assumption))))))))))))))
  k_with "lt0" => first | with_reducible assumption | exact Nat.lt_trans (by with_reducible assumption) (by k_extra "lt0")
  k_with "lt" => first | k_extra "in" | exact Nat.lt_trans (by k_extra "in") (by k_extra "lt")
  k_with "ne0" => first | with_reducible assumption | exact Ne.symm (by with_reducible assumption) | exact Nat.succ_ne_self _ | exact Ne.symm (Nat.succ_ne_self _) | (refine Nat.ne_of_lt ?_; k_extra "lt0") | (refine Nat.ne_of_gt ?_; k_extra "lt0")
  k_with "ne1" => first | k_extra "in" | (refine Ne.symm ?_; k_extra "in") | (refine Nat.ne_of_lt ?_; k_extra "lt") | (refine Nat.ne_of_gt ?_; k_extra "lt")
  k_with "ne2" => first | (refine Nat.ne_of_lt ?_; k_extra "lt0") | (refine Nat.ne_of_gt ?_; k_extra "lt0") | (refine Nat.ne_of_lt (And.left (by with_reducible assumption)))  | (refine Nat.ne_of_gt (And.left (by with_reducible assumption))) | (refine Nat.ne_of_lt (Nat.lt_trans (And.right (by with_reducible assumption)) ?_); k_extra "lt0") | (refine Nat.ne_of_lt (And.right (by with_reducible assumption))) | (refine Nat.ne_of_gt (Nat.lt_trans ?_ (And.left (by with_reducible assumption))); k_extra "lt0")
  k_with "ne" => first | k_extra "ne0" | (refine Or.elim (by with_reducible assumption : @LT.lt Nat _ _ _ ∨ @LT.lt Nat _ _ _ ∧ @LT.lt Nat _ _ _) (fun q9 => ?_) (fun q9 => ?_); (all_goals k_extra "ne2")) | k_extra "ne1"
  k_with "ifs" => first | with_reducible rfl | exact Eq.trans (if_neg (by assumption)) (by k_extra "ifs")
  k_with "up" => first | exact up2 (by with_reducible assumption) rfl | exact up1 (by with_reducible assumption) rfl | exact up3 (by with_reducible assumption) rfl | exact up4 (by with_reducible assumption) rfl | exact up5 (by with_reducible assumption) rfl
  k_with "om" => first | with_reducible assumption | exact Nat.succ_pos _ | (with_reducible show @LT.lt Nat _ _ _; (try dsimp only); first | k_extra "lt0" | k_extra "up" | k_extra "lt") | (with_reducible show @Ne Nat _ _; k_extra "ne") | (with_reducible show @LT.lt Nat _ _ _ ∧ @LT.lt Nat _ _ _; refine And.intro ?_ ?_ <;> k_extra "om") | (with_reducible show @Eq Nat _ _; first | exact Nat.add_sub_add_right 6 1 _ | exact (Nat.add_sub_add_right 6 1 _).symm | exact Nat.succ_sub (by omega) | exact (Nat.succ_sub (by omega)).symm | exact Nat.sub_sub_self (by omega)) | omega
  k_with "k_room" => first | k_extra "up" | ((try simp only [depth_under_make, depth_under_kw, depth_in1, depth_deeper, depth_caller]); omega)
  k_with "tb_start" => first | assumption | omega | (simp only [List.length_cons, List.length_nil, List.length_append]; omega)
  k_with "tb_rel" => repeat' (first | exact List.forall_mem_nil _ | refine List.forall_mem_cons.mpr ⟨by first | exact Or.inr (by k_mem) | exact Or.inl (by simp), ?_⟩)
  k_with "k_units" => first | k_extra "up" | ((try simp only [units_in1, units_deeper, Around.mark_units, units_caller]); omega)
  k_with "call type:list" => (k_here; (with_reducible show wpAny _ _ (call (Value.type "list") [Value.str _ _]) _ _ _); k_dflt (refine' list_strN ?h ?F ?N ?z ?_; (case h => rfl); (case F => k_asm); (case N => k_asm); (case z => exact Nat.le_trans (by assumption) (Nat.le_of_ble_eq_true rfl)); k_whole); intro l₉ h₉ tk₉ vs₉ k₉ F₉ N₉ l1₉ hc₉; (try k_lt l1₉); (try k_sweep))
  k_with "truthy ref" => (k_here; k_dflt (refine' truthy_ls ?N ?m ?z ?_; (case N => k_asm); (case m => k_mem); (case z => tb_start)); (intro tk₉; (try dsimp only [List.isEmpty_cons, List.isEmpty_nil, Bool.not_false, Bool.not_true])))
  k_with "call builtin:list.pop" => (k_here; (with_reducible show wpAny _ _ (call (Value.builtin "list.pop") [Value.ref _, Value.int 0 _]) _ _ _); k_dflt (refine' pop0_N ?F ?N ?U ?z ?_; (case F => k_asm); (case N => k_asm); (case U => k_upd); (case z => tb_start)); (intro h₉ F₉ N₉; (try k_sweep)))
  k_with "call builtin:list.index" => (k_here; (with_reducible show wpAny _ _ (call (Value.builtin "list.index") [Value.ref _, Value.int _ _]) _ _ _); k_dflt (refine' index_ls ?N ?m ?i ?k ?z ?_; (case N => k_asm); (case m => k_mem); (case i => with_reducible assumption); (case k => first | with_reducible assumption | simp); (case z => first | omega | (simp; omega))))
  k_with "compareOp In int ref" => (k_here; k_dflt (refine' in_ls ?N ?m ?i ?_; (case N => k_asm); (case m => k_mem); (case i => with_reducible assumption)))
  k_with "call builtin:len" => (k_here; (with_reducible show wpAny _ _ (call (Value.builtin "len") [Value.ref _]) _ _ _); k_dflt (refine' len_ls ?N ?m ?z ?_; (case N => k_asm); (case m => k_mem); (case z => k_extra "om")); (intro t9₉ tk9₉))
  k_with "CompSrc" => refine Stop.go ?_
  k_with "CompSrcT" => refine Stop.go ?_
  k_with "eval Name" => ((with_reducible show wpAny _ _ (eval (Expr.Name _ _) (compEnvC _ _ _ _)) _ _ _); first
  | refine LCgL.ld_built (by k_asm) (by k_asm) (by k_asm) (by k_is) (by boot_by_name) (by decide) ?_
  | refine LCgL.ld_global (by k_asm) (by k_asm) (by k_asm) (by k_is) ?_
  | refine LCgL.ld_own (by k_asm) (by k_mem) (by assumption) (by assumption) ?_)
  k_with "execs cons" => ((with_reducible show wpAny _ _ (execs (Stmt.Assign [PySem.Expr.Name (Str.ofString "turn") _] _ _ :: _) _) _ _ _); (rename Tick 1 => hTick₉); clear hTick₉; refine Stop.go ?_)
  k_with "execs cons" => ((with_reducible show wpAny _ _ (execs (Stmt.Assign [PySem.Expr.Name (Str.ofString "sums") _] _ _ :: _) _) _ _ _); (rename Tick 2 => hTick₉); clear hTick₉; refine Stop.go ?_)
  exact True.intro
theorem len_ls {prog : Program} {w : World} {A : Around} {E : Value → Shared → Prop} {s : Shared} {g : Heap} {L D : Addr} {news : Led} {ws : List Value} {n : Nat} {Q : Value → Shared → Prop} (N : News g L s.heap news) (hm : (D, lsO ws n) ∈ news) (hz : ws.length ≤ 100000) (h : ∀ t tk, Q (.int ws.length t) { s with toks := tk }) : wpAny (model prog w) A (call (.builtin "len") [.ref D]) Q E s :=
  len_list ⟨_, (N _ hm).1, rfl, n, rfl⟩ (by rw [List.size_toArray]; omega) (by rw [List.size_toArray]; exact h _ _)
noncomputable def rowA (r : List Int) : List Int := List.take (Int.toNat ((List.idxOf 127 (r ++ [127]) : Nat) : Int)) (r ++ [127])
noncomputable def rowC (row : List Int) : List Int := List.take (Int.toNat ((List.idxOf 0 row : Nat) : Int)) row ++ (List.replicate (Int.toNat 5) (List.take (min (Int.toNat ((List.idxOf 0 row : Nat) : Int)) row.length - Int.toNat (((List.idxOf 0 row : Nat) : Int) - 1)) (List.drop (Int.toNat (((List.idxOf 0 row : Nat) : Int) - 1)) row))).flatten
noncomputable def sumsOf (row : List Int) (n : Nat) : List Int := (List.range n).map fun k => (row.take (k + 1)).sum
noncomputable def pickOf (ss : List Int) (n : Nat) : List Int := ((List.range n).filter fun (i : Nat) => decide ((i : Int) + 1 ∈ ss)).map fun (i : Nat) => (i : Int)
noncomputable def firstOf (r : List Int) : List Int := if r.getD (Int.toNat 0) 0 = 0 then [0, 1, 2, 3, 4] else if 0 ∈ rowA r then pickOf (sumsOf (rowC (rowA r)) (rowC (rowA r)).length) 5 else pickOf (sumsOf (rowA r) (rowA r).length) 5
theorem first_1 {r : List Int} (h : r.getD (Int.toNat 0) 0 = 0) : firstOf r = [0, 1, 2, 3, 4] := if_pos h
theorem first_2 {r : List Int} (h : r.getD (Int.toNat 0) 0 ≠ 0) (h0 : 0 ∈ rowA r) : firstOf r = pickOf (sumsOf (rowC (rowA r)) (rowC (rowA r)).length) 5 := by rw [firstOf, if_neg h, if_pos h0]
theorem first_3 {r : List Int} (h : r.getD (Int.toNat 0) 0 ≠ 0) (h0 : ¬ 0 ∈ rowA r) : firstOf r = pickOf (sumsOf (rowA r) (rowA r).length) 5 := by rw [firstOf, if_neg h, if_neg h0]
theorem rowA_len {r : List Int} (h : r.length = 4) : (rowA r).length ≤ 4 := by
  have h1 : List.idxOf 127 (r ++ [127]) < (r ++ [127]).length := List.idxOf_lt_length_iff.mpr (by simp)
  have h2 : (r ++ [127]).length = 5 := by simp [h]
  unfold rowA
  rw [List.length_take]
  omega
theorem rowC_len {r : List Int} (h : r.length ≤ 4) : (rowC r).length ≤ 24 := by
  unfold rowC
  rw [List.length_append, List.length_take, List.length_flatten, List.map_replicate, List.sum_replicate_nat, List.length_take, List.length_drop]
  have : (min (min (Int.toNat ((List.idxOf 0 r : Nat) : Int)) r.length - Int.toNat (((List.idxOf 0 r : Nat) : Int) - 1)) (r.length - Int.toNat (((List.idxOf 0 r : Nat) : Int) - 1))) ≤ 4 := by k_extra "om"
  have h5 : Int.toNat 5 = 5 := rfl
  rw [h5]
  omega
theorem idx_one {r : List Int} (h : r.getD (Int.toNat 0) 0 ≠ 0) (hn : r.length = 4) (h0 : 0 ∈ rowA r) : 1 ≤ (rowA r).idxOf 0 := by
  match r, hn with
  | x :: rest, _ =>
    have hx : (x == 0) = false := by simpa using h
    unfold rowA at h0 ⊢
    generalize Int.toNat ((List.idxOf 127 (x :: rest ++ [127]) : Nat) : Int) = n at h0 ⊢
    cases n with
    | zero => simp at h0
    | succ n =>
      rw [List.cons_append, List.take_succ_cons, List.idxOf_cons, hx]
      simp
theorem sums_snoc {row : List Int} {i : Nat} : sumsOf row (i + 1) = sumsOf row i ++ [(row.take (1 + (i : Int)).toNat).sum] := by
  unfold sumsOf
  rw [List.range_succ, List.map_append, List.map_singleton, show (1 + (i : Int)).toNat = i + 1 from by k_extra "om"]
theorem pick_yes {ss : List Int} {i : Nat} (h : 0 + (i : Int) + 1 ∈ ss) : pickOf ss (i + 1) = pickOf ss i ++ [0 + (i : Int)] := by
  have h' : (i : Int) + 1 ∈ ss := by rw [Int.zero_add] at h; exact h
  unfold pickOf
  rw [List.range_succ, List.filter_append, List.map_append]
  simp [List.filter, h']
theorem pick_no {ss : List Int} {i : Nat} (h : ¬ 0 + (i : Int) + 1 ∈ ss) : pickOf ss (i + 1) = pickOf ss i := by
  have h' : ¬ (i : Int) + 1 ∈ ss := by rw [Int.zero_add] at h; exact h
  unfold pickOf
  rw [List.range_succ, List.filter_append, List.map_append]
  simp [List.filter, h']
theorem off3_nil {I C D : Addr} : LCg.Off3 I C D [] = True := rfl
section
variable {w : World} {p : Program} {loose : List Str} {mean : ExcName → Option Value} {mg mb : Str → Option Value} {dp un : Nat} {gd : Option (List Code)} {outs : List Env} {base h₀ : Heap} {s : Shared} {R : Result → Shared → Prop}
  (B : Below (AT dp un gd outs) base outs h₀) (X : (hd.heap_39 w.params).In h₀) (T : Top p loose mean mg mb h₀) (st : h₀.StaysIn s.heap) (hdp : dp + 12 < recursionLimit) (hu : un + 120 < cLine)
include B X T st hdp hu
theorem first_spec {a : Addr} {vs : List Value} {is : List Int} {k0 : Nat} (hI : IntsAre vs is) (hn : is.length = 4) (N : Own h₀ s.heap [(a, lsO vs k0)])
    (hret : ∀ b ws k h' tk', Keeps [] s.heap h' → h'.get? b = some (lsO ws k) → s.heap.get? b = none → IntsAre ws (firstOf is) → R (.ok (.ret (.ref b))) { s with heap := h', toks := tk' }) :
    codeAny (model PySem.Challenge.rw_wn0047_01.row.prog w) (AT dp un gd outs) (.call (.ref 192) ⟨[.ref a], []⟩) R s := by
  revert X; k_fill; intro X
  have hvl := intsLen hI
  have hT1 := Tick.mk 1
  have hT2 := Tick.mk 2
  obtain ⟨y, ty, hy1, hy2⟩ := IntsAre.at' hI (k := 0) (by k_extra "om")
  k_dflt (refine' enterC (binds := [(Str.ofString "ruler", Value.ref a)]) B X T st N ?k6 ?k7 ?k8 ?k9 ?kB ?kD ?_ ?c2 ?c3 ?c4; (case k6 => k_is); (case k7 => k_is); (case k8 => k_room); (case k9 => exact BindsTo.of_eq rfl); (case kB => exact rfl); (case kD => decide +kernel); (case c2 => exact rfl); (case c3 => exact rfl); (case c4 => exact rfl))
  intro g L' h₁ tk cells' gh F' N' Y' B' X' T' l1
  (try k_lt l1)
  k_cells Y'
  (try simp only [List.cons_append, List.nil_append] at N')
  (try k_fold)
  k_steps
  · (rename News _ _ _ _ => N1)
    (rename Fr _ _ _ _ => F1)
    exact hret _ _ _ _ _ (keeps_as gh N F1 N1 (by tb_rel)) (N1.get (.head _)) (new_of gh N1 (.head _) (notin1 (by k_extra "om"))) (by rw [first_1 (by with_reducible assumption)]; exact .cons _ _ (.cons _ _ (.cons _ _ (.cons _ _ (.cons _ _ .nil)))))
  · unfold Stop
    rename _ ≠ (0 : Int) => hne0
    have hrl := rowA_len hn
    rename 0 ∈ _ => h0
    have hf := first_2 hne0 h0
    have h01 := idx_one hne0 hn h0
    have h02 := List.idxOf_lt_length_iff.mpr h0
    generalize hrow : List.take (Int.toNat ((List.idxOf 127 (is ++ [127]) : Nat) : Int)) (is ++ [127]) = row at *
    change rowA is = row at hrow
    rw [hrow] at hrl h01 hf
    have hrl2 := rowC_len hrl
    clear hrow
    k_steps
    unfold Stop
    unfold rowC at hf hrl2
    rename IntsAre _ _ => hRw
    generalize List.take (Int.toNat ((List.idxOf 0 row : Nat) : Int)) row ++ (List.replicate (Int.toNat 5) (List.take (min (Int.toNat ((List.idxOf 0 row : Nat) : Int)) row.length - Int.toNat (((List.idxOf 0 row : Nat) : Int) - 1)) (List.drop (Int.toNat (((List.idxOf 0 row : Nat) : Int) - 1)) row))).flatten = row2 at *
    have hRl := intsLen hRw
    k_steps
    unfold Stop
    rename IsRange _ _ _ _ _ _ _ _ => hRg
    (rename News _ _ _ _ => N1)
    (rename Fr _ _ _ _ => F1)
    have hsm : Builtin.Range.small 1 ((row2.length : Int) + 1) 1 = true := small_one (by k_extra "om") (by k_extra "om") (by k_extra "om") (by k_extra "om")
    have hsz : Builtin.Range.rangeSize 1 ((row2.length : Int) + 1) 1 = ((row2.length : Nat) : Int) := by rw [rangeSize_one]; split <;> k_extra "om"
    refine LCg.CompSrc.range rfl F1 N1 hRg hsm hsz (by rw [sizeLine_eq]; omega) fun g' => compRest_same (Inv := fun i ys => IntsAre ys (sumsOf row2 i)) trivial ?turn ?fin .nil
    case turn =>
      intro i ys v I oI C oC D m₂ h tk E' Nx hi hP hV hC hm F N off ne hN
      obtain ⟨tv, rfl⟩ := hP
      simp only [LCg.Off3] at off
      clear F1 N1
      k_steps
      (rename News _ _ _ _ => N1)
      (rename Fr _ _ _ _ => F1)
      exact hN _ _ _ _ F1 N1 (by lcg_sub) (by rw [sums_snoc]; exact intsSnoc hV)
    case fin =>
      intro ys hY D h tk F N off
      simp only [LCg.Off1] at off
      clear F1 N1
      have hYl := intsLen hY
      k_steps
      unfold Stop
      clear hRg
      rename IsRange _ _ _ _ _ _ _ _ => hRg
      (rename News _ _ _ _ => N1)
      (rename Fr _ _ _ _ => F1)
      refine LCt.CompSrcT.range (n := 5) rfl F1 N1 hRg (by decide) (by decide) (by rw [sizeLine_eq]; omega) fun g' => compRestT_same (Inv := fun i ys => IntsAre ys (pickOf (sumsOf row2 row2.length) i)) trivial ?turn2 ?fin2 .nil
      case turn2 =>
        intro i ys v I oI C oC D m₂ h tk E' Nx Sk hi hP hV hC hm F N off ne hN hK
        obtain ⟨tv, rfl⟩ := hP
        simp only [LCg.Off3] at off
        clear F1 N1
        k_steps
        all_goals
          (rename News _ _ _ _ => N1)
          (rename Fr _ _ _ _ => F1)
          first
          | exact hN _ _ _ _ F1 N1 (by lcg_sub) (by rw [pick_yes (by with_reducible assumption)]; exact intsSnoc hV)
          | exact hK _ _ _ F1 N1 (by lcg_sub) (by rw [pick_no (by with_reducible assumption)]; exact hV)
      case fin2 =>
        intro ys hY D h tk F N off
        simp only [LCg.Off1] at off
        clear F1 N1
        k_steps
        (rename News _ _ _ _ => N1)
        (rename Fr _ _ _ _ => F1)
        exact hret _ _ _ _ _ (keeps_as gh N F1 N1 (by tb_rel)) (N1.get (.head _)) (new_of gh N1 (.head _) (notinN (by k_extra "om"))) (by rw [hf]; exact hY)

  · unfold Stop
    rename _ ≠ (0 : Int) => hne0
    have hrl := rowA_len hn
    rename ¬ 0 ∈ _ => h0
    have hf := first_3 hne0 h0
    generalize hrow : List.take (Int.toNat ((List.idxOf 127 (is ++ [127]) : Nat) : Int)) (is ++ [127]) = row at *
    change rowA is = row at hrow
    rw [hrow] at hrl hf
    clear hrow
    rename IntsAre _ row => hRw
    have hRl := intsLen hRw
    k_steps
    unfold Stop
    rename IsRange _ _ _ _ _ _ _ _ => hRg
    (rename News _ _ _ _ => N1)
    (rename Fr _ _ _ _ => F1)
    have hsm : Builtin.Range.small 1 ((row.length : Int) + 1) 1 = true := small_one (by k_extra "om") (by k_extra "om") (by k_extra "om") (by k_extra "om")
    have hsz : Builtin.Range.rangeSize 1 ((row.length : Int) + 1) 1 = ((row.length : Nat) : Int) := by rw [rangeSize_one]; split <;> k_extra "om"
    refine LCg.CompSrc.range rfl F1 N1 hRg hsm hsz (by rw [sizeLine_eq]; omega) fun g' => compRest_same (Inv := fun i ys => IntsAre ys (sumsOf row i)) trivial ?turn ?fin .nil
    case turn =>
      intro i ys v I oI C oC D m₂ h tk E' Nx hi hP hV hC hm F N off ne hN
      obtain ⟨tv, rfl⟩ := hP
      simp only [LCg.Off3] at off
      clear F1 N1
      k_steps
      (rename News _ _ _ _ => N1)
      (rename Fr _ _ _ _ => F1)
      exact hN _ _ _ _ F1 N1 (by lcg_sub) (by rw [sums_snoc]; exact intsSnoc hV)
    case fin =>
      intro ys hY D h tk F N off
      simp only [LCg.Off1] at off
      clear F1 N1
      have hYl := intsLen hY
      k_steps
      unfold Stop
      clear hRg
      rename IsRange _ _ _ _ _ _ _ _ => hRg
      (rename News _ _ _ _ => N1)
      (rename Fr _ _ _ _ => F1)
      refine LCt.CompSrcT.range (n := 5) rfl F1 N1 hRg (by decide) (by decide) (by rw [sizeLine_eq]; omega) fun g' => compRestT_same (Inv := fun i ys => IntsAre ys (pickOf (sumsOf row row.length) i)) trivial ?turn2 ?fin2 .nil
      case turn2 =>
        intro i ys v I oI C oC D m₂ h tk E' Nx Sk hi hP hV hC hm F N off ne hN hK
        obtain ⟨tv, rfl⟩ := hP
        simp only [LCg.Off3] at off
        clear F1 N1
        k_steps
        all_goals
          (rename News _ _ _ _ => N1)
          (rename Fr _ _ _ _ => F1)
          first
          | exact hN _ _ _ _ F1 N1 (by lcg_sub) (by rw [pick_yes (by with_reducible assumption)]; exact intsSnoc hV)
          | exact hK _ _ _ F1 N1 (by lcg_sub) (by rw [pick_no (by with_reducible assumption)]; exact hV)
      case fin2 =>
        intro ys hY D h tk F N off
        simp only [LCg.Off1] at off
        clear F1 N1
        k_steps
        (rename News _ _ _ _ => N1)
        (rename Fr _ _ _ _ => F1)
        exact hret _ _ _ _ _ (keeps_as gh N F1 N1 (by tb_rel)) (N1.get (.head _)) (new_of gh N1 (.head _) (notinN (by k_extra "om"))) (by rw [hf]; exact hY)
end
-- C19
theorem lines29 : True := by
  k_with_none
  k_with "in" => first | with_reducible assumption | exact And.left (by with_reducible assumption) | exact And.left (And.right (by with_reducible assumption)) | exact And.left (And.right (And.right (by with_reducible assumption))) | exact And.left (And.right (And.right (And.right (by with_reducible assumption)))) | exact And.left (And.right (And.right (And.right (And.right (by with_reducible assumption))))) | exact And.left (And.right (And.right (And.right (And.right (And.right (by with_reducible assumption)))))) | exact And.left (And.right (And.right (And.right (And.right (And.right (And.right (by with_reducible assumption))))))) | exact And.left (And.right (And.right (And.right (And.right (And.right (And.right (And.right (by with_reducible assumption)))))))) | exact And.left (And.right (And.right (And.right (And.right (And.right (And.right (And.right (And.right (by with_reducible assumption))))))))) | exact And.left (And.right (And.right (And.right (And.right (And.right (And.right (And.right (And.right (And.right (by with_reducible assumption)))))))))) | exact And.left (And.right (And.right (And.right (And.right (And.right (And.right (And.right (And.right (And.right (And.right (by with_reducible assumption))))))))))) | exact And.left (And.right (And.right (And.right (And.right (And.right (And.right (And.right (And.right (And.right (And.right (And.right (by with_reducible assumption)))))))))))) | exact And.left (And.right (And.right (And.right (And.right (And.right (And.right (And.right (And.right (And.right (And.right (And.right (And.right (by with_reducible assumption))))))))))))) | exact And.left (And.right (And.right (And.right (And.right (And.right (And.right (And.right (And.right (And.right (And.right (And.right (And.right (And.right (by with_reducible assumption)))))))))))))) | exact And.left (And.right (And.right (And.right (And.right (And.right (And.right (And.right (And.right (And.right (And.right (And.right (And.right (And.right (And.right (by with_reducible assumption))))))))))))))) | exact And.right (by with_reducible assumption) | exact And.right (And.right (by with_reducible assumption)) | exact And.right (And.right (And.right (by with_reducible assumption))) | exact And.right (And.right (And.right (And.right (by with_reducible assumption)))) | exact And.right (And.right (And.right (And.right (And.right (by with_reducible assumption))))) | exact And.right (And.right (And.right (And.right (And.right (And.right (by with_reducible assumption)))))) | exact And.right (And.right (And.right (And.right (And.right (And.right (And.right (by with_reducible assumption))))))) | exact And.right (And.right (And.right (And.right (And.right (And.right (And.right (And.right (by with_reducible assumption)))))))) | exact And.right (And.right (And.right (And.right (And.right (And.right (And.right (And.right (And.right (by with_reducible assumption))))))))) | exact And.right (And.right (And.right (And.right (And.right (And.right (And.right (And.right (And.right (And.right (by with_reducible assumption)))))))))) | exact And.right (And.right (And.right (And.right (And.right (And.right (And.right (And.right (And.right (And.right (And.right (by with_reducible assumption))))))))))) | exact And.right (And.right (And.right (And.right (And.right (And.right (And.right (And.right (And.right (And.right (And.right (And.right (by with_reducible assumption)))))))))))) | exact And.right (And.right (And.right (And.right (And.right (And.right (And.right (And.right (And.right (And.right (And.right (And.right (And.right (by with_reducible assumption))))))))))))) | exact And.right (And.right (And.right (And.right (And.right (And.right (And.right (And.right (And.right (And.right (And.right (And.right (And.right (And.right (by with_reducible assumption))))))))))))))
  k_with "lt0" => first | with_reducible assumption | exact Nat.lt_trans (by with_reducible assumption) (by k_extra "lt0")
  k_with "lt" => first | k_extra "in" | exact Nat.lt_trans (by k_extra "in") (by k_extra "lt")
  k_with "ne0" => first | with_reducible assumption | exact Ne.symm (by with_reducible assumption) | exact Nat.succ_ne_self _ | exact Ne.symm (Nat.succ_ne_self _) | (refine Nat.ne_of_lt ?_; k_extra "lt0") | (refine Nat.ne_of_gt ?_; k_extra "lt0")
  k_with "ne1" => first | k_extra "in" | (refine Ne.symm ?_; k_extra "in") | (refine Nat.ne_of_lt ?_; k_extra "lt") | (refine Nat.ne_of_gt ?_; k_extra "lt")
  k_with "ne2" => first | (refine Nat.ne_of_lt ?_; k_extra "lt0") | (refine Nat.ne_of_gt ?_; k_extra "lt0") | (refine Nat.ne_of_lt (And.left (by with_reducible assumption)))  | (refine Nat.ne_of_gt (And.left (by with_reducible assumption))) | (refine Nat.ne_of_lt (Nat.lt_trans (And.right (by with_reducible assumption)) ?_); k_extra "lt0") | (refine Nat.ne_of_lt (And.right (by with_reducible assumption))) | (refine Nat.ne_of_gt (Nat.lt_trans ?_ (And.left (by with_reducible assumption))); k_extra "lt0")
  k_with "ne" => first | k_extra "ne0" | (refine Or.elim (by with_reducible assumption : @LT.lt Nat _ _ _ ∨ @LT.lt Nat _ _ _ ∧ @LT.lt Nat _ _ _) (fun q9 => ?_) (fun q9 => ?_); (all_goals k_extra "ne2")) | k_extra "ne1"
  k_with "ifs" => first | with_reducible rfl | exact Eq.trans (if_neg (by assumption)) (by k_extra "ifs")
  k_with "up" => first | exact up2 (by with_reducible assumption) rfl | exact up1 (by with_reducible assumption) rfl | exact up3 (by with_reducible assumption) rfl | exact up4 (by with_reducible assumption) rfl | exact up5 (by with_reducible assumption) rfl
  k_with "om" => first | with_reducible assumption | exact Nat.succ_pos _ | (with_reducible show @LT.lt Nat _ _ _; (try dsimp only); first | k_extra "lt0" | k_extra "up" | k_extra "lt") | (with_reducible show @Ne Nat _ _; k_extra "ne") | (with_reducible show @LT.lt Nat _ _ _ ∧ @LT.lt Nat _ _ _; refine And.intro ?_ ?_ <;> k_extra "om") | (with_reducible show @Eq Nat _ _; first | exact Nat.add_sub_add_right 6 1 _ | exact (Nat.add_sub_add_right 6 1 _).symm | exact Nat.succ_sub (by omega) | exact (Nat.succ_sub (by omega)).symm | exact Nat.sub_sub_self (by omega)) | omega
  k_with "k_room" => first | k_extra "up" | ((try simp only [depth_under_make, depth_under_kw, depth_in1, depth_deeper, depth_caller]); omega)
  k_with "tb_start" => first | assumption | omega | (simp only [List.length_cons, List.length_nil, List.length_append]; omega)
  k_with "tb_rel" => repeat' (first | exact List.forall_mem_nil _ | refine List.forall_mem_cons.mpr ⟨by first | exact Or.inr (by k_mem) | exact Or.inl (by simp), ?_⟩)
  k_with "k_units" => first | k_extra "up" | ((try simp only [units_in1, units_deeper, Around.mark_units, units_caller]); omega)
  k_with "call type:list" => (k_here; (with_reducible show wpAny _ _ (call (Value.type "list") [Value.str _ _]) _ _ _); k_dflt (refine' list_strN ?h ?F ?N ?z ?_; (case h => rfl); (case F => k_asm); (case N => k_asm); (case z => exact Nat.le_trans (by assumption) (Nat.le_of_ble_eq_true rfl)); k_whole); intro l₉ h₉ tk₉ vs₉ k₉ F₉ N₉ l1₉ hc₉; (try k_lt l1₉); (try k_sweep))
  k_with "truthy ref" => (k_here; k_dflt (refine' truthy_ls ?N ?m ?z ?_; (case N => k_asm); (case m => k_mem); (case z => tb_start)); (intro tk₉; (try dsimp only [List.isEmpty_cons, List.isEmpty_nil, Bool.not_false, Bool.not_true])))
  k_with "call builtin:list.pop" => (k_here; (with_reducible show wpAny _ _ (call (Value.builtin "list.pop") [Value.ref _, Value.int 0 _]) _ _ _); k_dflt (refine' pop0_N ?F ?N ?U ?z ?_; (case F => k_asm); (case N => k_asm); (case U => k_upd); (case z => tb_start)); (intro h₉ F₉ N₉; (try k_sweep)))
  k_with "call builtin:str.find" => first
  | ((with_reducible show wpAny _ _ (call (Value.builtin "str.find") [Value.str _ _, Value.str _ _]) _ _ _); (refine KXw.find (by assumption) ?_); intro t9₉ k9₉)
  | ((with_reducible show wpAny _ _ (call (Value.builtin "str.find") [Value.str _ _, Value.str _ _, Value.int _ _]) _ _ _); (refine find3_is (by assumption) ?_); intro t9₉ k9₉)
  k_with "call builtin:str.split" => ((with_reducible show wpAny _ _ (call (Value.builtin "str.split") _) _ _ _); (refine KSpl.split1 (by k_asm) (by k_asm) (by with_unfolding_all rfl) ?_ (by rw [sizeLine_eq]; omega)); (intro D₉ l₉ h₉ k₉ e₉ a₉ F₉ N₉ l1₉); (try k_lt l1₉); (have e2₉ := e₉.trans (by assumption)); (clear e₉); (kspl_open e2₉); (simp only [strValues, List.map_cons, List.map_nil] at N₉ a₉))
  k_with "subscriptTail Name BinOp str int" => ((with_reducible show wpAny _ _ (subscriptTail _ _ (Value.str _ _) (Value.int _ _)) _ _ _); k_dflt (refine' item_at ?hc ?hz ?_ ?hs ?ht; (case hc => assumption); (case hz => k_extra "om"); (case hs => with_unfolding_all rfl); (case ht => intro _; with_unfolding_all rfl)); (intro t9₉ k9₉))
  k_with "compareOp NotEq str str" => (refine PyProof.Rows.ne_str ?_; (try rw [show ∀ x : Str, (x != x) = false from fun x => bne_self_eq_false (a := x)]))
  exact True.intro
theorem item_at {prog : Program} {w : World} {A : Around} {E : Value → Shared → Prop} {s : Shared} {value slice : PySem.Expr} {x : Str} {t u : Tok} {i : Int} {k c : Nat} {Q : Value → Shared → Prop} (hc : i = (k : Int) ∧ x.cps.toList[k]? = some c) (hsz : x.length ≤ 1000) (h : ∀ t' tk', Q (.str ⟨#[c]⟩ t') { s with toks := tk' })
    (hs : subscripted slice false (.str x t) (.int i u) = operate [.str x t, .int i u] (getItem (.str x t) (.int i u)) := by with_unfolding_all rfl)
    (ht : ∀ r, letTemporaryGo value (.str x t) r = pure () := by intro _; with_unfolding_all rfl) : wpAny (model prog w) A (subscriptTail value slice (.str x t) (.int i u)) Q E s := item_chr hc.1 hc.2 hsz h hs ht
theorem find3_is {prog : Program} {w : World} {A : Around} {E : Value → Shared → Prop} {s : Shared} {x y : Str} {t u v : Tok} {i r : Int} {Q : Value → Shared → Prop} (e : Txt.find3 x y i = r) (h : ∀ t' k, Q (.int r t') { s with toks := k }) : wpAny (model prog w) A (call (.builtin "str.find") [.str x t, .str y u, .int i v]) Q E s := SC.find3 (by rw [e]; exact h _ _)
section
variable {w : World} {p : Program} {loose : List Str} {mean : ExcName → Option Value} {mg mb : Str → Option Value} {dp un : Nat} {gd : Option (List Code)} {outs : List Env} {base h₀ : Heap} {s : Shared} {R : Result → Shared → Prop}
  (B : Below (AT dp un gd outs) base outs h₀) (X : (hd.heap_39 w.params).In h₀) (T : Top p loose mean mg mb h₀) (st : h₀.StaysIn s.heap) (hdp : dp + 18 < recursionLimit) (hu : un + 180 < cLine)
include B X T st hdp hu
/-- a tuple -/
noncomputable abbrev tuO (vs : List Value) (k : Nat) : Obj := { cls := Value.type "tuple", data := Data.seq (List.toArray vs) k }
theorem p229_spec {resp ms ds : Str} {m : Nat} {d : Int} {t1 t2 t3 : Tok} {host : Str} {pa : Addr} {k : Nat} (N : Own h₀ s.heap [(pa, tuO [.str host t2, .int 21 t3] k)]) (hlen : resp.length ≤ 100)
    (f1 : (Txt.slice resp none (some 3) != Str.ofString "229") = false) (f2 : Txt.find resp (Str.ofString "(") = 9) (f3 : Txt.find3 resp (Str.ofString ")") (9 + 1) = 15)
    (f4 : ((9 : Int) + 1 = ((10 : Nat) : Int)) ∧ resp.cps.toList[10]? = some m) (f5 : ((15 : Int) - 1 = ((14 : Nat) : Int)) ∧ resp.cps.toList[14]? = some m)
    (f6 : Txt.split (Txt.slice resp (some (9 + 1)) (some 15)) ⟨#[m]⟩ = [Str.ofString "", Str.ofString "", Str.ofString "", ds, Str.ofString ""]) (f7 : PySem.intText? ds = some d) (f8 : ds.length ≤ 640) (f9 : (Txt.slice resp (some (9 + 1)) (some 15)).length ≤ 100)
    (hret : ∀ a t k' h' tk', Keeps [] s.heap h' → h'.get? a = some (tuO [.str host t2, .int d t] k') → s.heap.get? a = none → R (.ok (.ret (.ref a))) { s with heap := h', toks := tk' }) :
    codeAny (model PySem.Challenge.rw_wn0047_01.row.prog w) (AT dp un gd outs) (.call (.ref 100) ⟨[.str resp t1, .ref pa], []⟩) R s := by
  revert X; k_fill; intro X
  k_dflt (refine' enter (binds := [(Str.ofString "resp", Value.str resp t1), (Str.ofString "peer", Value.ref pa)]) B X T st N ?k6 ?k7 ?k8 ?k9 ?kB ?_ ?c2 ?c3 ?c4 ?c5; (case k6 => k_is); (case k7 => k_is); (case k8 => k_room); (case k9 => exact BindsTo.of_eq rfl); (case c5 => decide); (case kB => exact locs rfl); (case c2 => exact rfl); (case c3 => exact rfl); (case c4 => exact rfl))
  intro g L' h₁ tk gh F' N' B' X' T' l1
  (try k_lt l1)
  k_steps
  (rename News _ _ _ _ => NN)
  exact hret _ _ _ _ _ (keeps_as gh N (by k_asm) NN (by tb_rel)) (NN.get (.head _)) (new_of gh NN (.head _) (fun q => by
    simp only [List.map_cons, List.map_nil, List.mem_singleton] at q
    rename _ ∧ _ => l9
    rw [q] at l9
    exact Nat.lt_irrefl _ l9.2))
end
-- P3
noncomputable def nm3 (i j n : Int) : Str := Txt.item (Str.ofString "ab\"\\ !") i ++ Txt.item (Str.ofString "ab\"\\ !") j ++ Txt.item (Str.ofString "cdefg") n
theorem nameOf_nm3 {seed node : Int} : nameOf seed node = nm3 (seed.fmod 6) ((seed.fdiv 6).fmod 6) node := rfl
/-- each `c` of a text by `z` -/
noncomputable def esc (c : Nat) (z : List Nat) : List Nat → List Nat
  | [] => []
  | k :: r => bif Nat.beq k c then z ++ esc c z r else k :: esc c z r
theorem esc_append (c : Nat) (z : List Nat) : ∀ a b : List Nat, esc c z (a ++ b) = esc c z a ++ esc c z b
  | [], _ => rfl
  | k :: r, b => by
    have ih := esc_append c z r b
    show (bif Nat.beq k c then z ++ esc c z (r ++ b) else k :: esc c z (r ++ b)) = (bif Nat.beq k c then z ++ esc c z r else k :: esc c z r) ++ esc c z b
    rw [ih]
    cases Nat.beq k c
    · rfl
    · exact (List.append_assoc _ _ _).symm
theorem esc_free (c : Nat) (z : List Nat) : ∀ l : List Nat, c ∉ l → esc c z l = l
  | [], _ => rfl
  | k :: r, h => by
    have h1 : ¬ k = c := fun e => h (e ▸ List.mem_cons_self ..)
    have h2 : c ∉ r := fun m => h (List.mem_cons_of_mem _ m)
    have h3 : Nat.beq k c = false := Bool.eq_false_iff.mpr fun e => h1 (Nat.eq_of_beq_eq_true e)
    unfold esc
    rw [h3, esc_free c z r h2]
    rfl
theorem esc_join (c : Nat) (z : Str) : ∀ parts : List Str, (∀ p ∈ parts, c ∉ p.cps.toList) → esc c z.cps.toList (Str.join ⟨#[c]⟩ parts).cps.toList = (Str.join z parts).cps.toList
  | [], _ => rfl
  | [p], h => esc_free c _ _ (h p (List.mem_singleton.mpr rfl))
  | p :: q :: r, h => by
    have ih := esc_join c z (q :: r) fun a ha => h a (List.mem_cons_of_mem _ ha)
    show esc c z.cps.toList (p ++ ⟨#[c]⟩ ++ Str.join ⟨#[c]⟩ (q :: r)).cps.toList = (p ++ z ++ Str.join z (q :: r)).cps.toList
    have e1 : esc c z.cps.toList [c] = z.cps.toList := by
      unfold esc
      rw [show Nat.beq c c = true from Nat.beq_refl c]
      exact List.append_nil _
    simp only [Str.cps_append, Array.toList_append]
    rw [esc_append, esc_append, ih, esc_free c _ _ (h p (List.mem_cons_self ..))]
    exact congrArg (fun l => p.cps.toList ++ l ++ _) e1
theorem rep_list {x y z : Str} {c : Nat} (hy : y = ⟨#[c]⟩) : (Txt.replace x y z).cps.toList = esc c z.cps.toList x.cps.toList := by
  rw [hy, StrLaws.replace_one, ← esc_join c z _ (StrLaws.split_free x c), StrLaws.join_split]
noncomputable def letL (l : List Nat) (b1 : Bool) : List Nat := [50, 53, 55, 32, 34] ++ (esc 34 [34, 34] l ++ cond b1 [34, 32, 34] [34])
noncomputable def textL (l : List Nat) (b1 b2 : Bool) : List Nat := cond b2 (34 :: (esc 34 [92, 34] (esc 92 [92, 92] (letL l b1)) ++ [34])) (esc 32 [92, 32] (esc 92 [92, 92] (letL l b1)) ++ [10])
theorem lits : (Str.ofString "257 \"").cps.toList = [50, 53, 55, 32, 34] ∧ (Str.ofString "\"\"").cps.toList = [34, 34] ∧ (Str.ofString "\"").cps.toList = [34] ∧ (Str.ofString " \"").cps.toList = [32, 34] ∧ (Str.ofString "\\\\").cps.toList = [92, 92] ∧ (Str.ofString "\\\"").cps.toList = [92, 34] ∧ (Str.ofString "\\ ").cps.toList = [92, 32] ∧ (Str.ofString "\n").cps.toList = [10] := by decide +kernel
theorem ones : Str.ofString "\"" = ⟨#[34]⟩ ∧ Str.ofString "\\" = ⟨#[92]⟩ ∧ Str.ofString " " = ⟨#[32]⟩ := by decide +kernel
theorem letB_L (x : Str) (b1 : Bool) : (letB x b1).cps.toList = letL x.cps.toList b1 := by
  cases b1 <;> simp only [letB, letL, cond_true, cond_false, Str.cps_append, Array.toList_append, rep_list ones.1, lits.1, lits.2.1, lits.2.2.1, lits.2.2.2.1, List.append_assoc, List.cons_append, List.nil_append]
theorem textB_L (x : Str) (b1 b2 : Bool) : (textB x b1 b2).cps.toList = textL x.cps.toList b1 b2 := by
  cases b2
  · simp only [textB, textL, cond_false, Str.cps_append, Array.toList_append, rep_list ones.2.1, rep_list ones.2.2, lits.2.2.2.2.1, lits.2.2.2.2.2.2.1, lits.2.2.2.2.2.2.2, letB_L]
  · simp only [textB, textL, cond_true, Str.cps_append, Array.toList_append, rep_list ones.2.1, rep_list ones.1, lits.2.2.2.2.1, lits.2.2.2.2.2.1, lits.2.2.1, letB_L, List.cons_append, List.nil_append]
theorem letB_eq (x : Str) (b1 : Bool) : letB x b1 = ⟨(letL x.cps.toList b1).toArray⟩ := by rw [← letB_L, Array.toArray_toList]
noncomputable def tokF (l : List Nat) (b1 b2 : Bool) : Bool :=
  cond b2 ((textL l b1 b2).head? == some 34 && quoted [] (textL l b1 b2).tail == some (letL l b1, [])) ((textL l b1 b2).head? == some 50 && plainTok [50] (textL l b1 b2).tail == some (letL l b1, [])) && Nat.ble (textL l b1 b2).length 1000
noncomputable def letF (l : List Nat) (b1 : Bool) : Bool :=
  Nat.ble (letL l b1).length 100 && (Txt.slice ⟨(letL l b1).toArray⟩ none (some 3) == Str.ofString "257") && (Txt.slice ⟨(letL l b1).toArray⟩ (some 3) (some 5) == Str.ofString " \"") && Nat.ble 5 (letL l b1).length && (dirn [] ((letL l b1).drop 5) == l) && Nat.beq l.length 3
noncomputable def tokI (a : Nat) : Bool := [97, 98, 34, 92, 32, 33].all fun b => [99, 100, 101, 102, 103].all fun c => [true, false].all fun b1 => letF [a, b, c] b1 && [true, false].all fun b2 => tokF [a, b, c] b1 b2
theorem tok0 : tokI 97 = true := by decide +kernel
theorem tok1 : tokI 98 = true := by decide +kernel
theorem tok2 : tokI 34 = true := by decide +kernel
theorem tok3 : tokI 92 = true := by decide +kernel
theorem tok4 : tokI 32 = true := by decide +kernel
theorem tok5 : tokI 33 = true := by decide +kernel
theorem tok_all : ([97, 98, 34, 92, 32, 33].all tokI) = true := by simp only [List.all_cons, List.all_nil, tok0, tok1, tok2, tok3, tok4, tok5, Bool.and_self]
/-- one of the law's names -/
noncomputable def GoodNm (x : Str) (n : Nat) : Prop := ∃ i j : Int, (0 ≤ i ∧ i < 6) ∧ (0 ≤ j ∧ j < 6) ∧ n < 5 ∧ x = nm3 i j n
theorem in6 {i : Int} (h : 0 ≤ i ∧ i < 6) : i ∈ [0, 1, 2, 3, 4, 5] := by
  have : i = 0 ∨ i = 1 ∨ i = 2 ∨ i = 3 ∨ i = 4 ∨ i = 5 := by k_extra "om"
  rcases this with rfl | rfl | rfl | rfl | rfl | rfl <;> decide
theorem in5i {n : Nat} (h : n < 5) : (n : Int) ∈ [0, 1, 2, 3, 4] := by
  have : n = 0 ∨ n = 1 ∨ n = 2 ∨ n = 3 ∨ n = 4 := by k_extra "om"
  rcases this with rfl | rfl | rfl | rfl | rfl <;> decide
theorem sign_all : ([0, 1, 2, 3, 4, 5].all fun (i : Int) => [97, 98, 34, 92, 32, 33].any fun a => (Txt.item (Str.ofString "ab\"\\ !") i).cps.toList == [a]) = true := by decide +kernel
theorem last_sign : ([0, 1, 2, 3, 4].all fun (i : Int) => [99, 100, 101, 102, 103].any fun a => (Txt.item (Str.ofString "cdefg") i).cps.toList == [a]) = true := by decide +kernel
theorem nm3_list {x : Str} {n : Nat} (h : GoodNm x n) : ∃ a b c, a ∈ [97, 98, 34, 92, 32, 33] ∧ b ∈ [97, 98, 34, 92, 32, 33] ∧ c ∈ [99, 100, 101, 102, 103] ∧ x.cps.toList = [a, b, c] := by
  obtain ⟨i, j, hi, hj, hn, rfl⟩ := h
  obtain ⟨a, ha, ea⟩ := List.any_eq_true.mp (List.all_eq_true.mp sign_all i (in6 hi))
  obtain ⟨b, hb, eb⟩ := List.any_eq_true.mp (List.all_eq_true.mp sign_all j (in6 hj))
  obtain ⟨c, hc, ec⟩ := List.any_eq_true.mp (List.all_eq_true.mp last_sign n (in5i hn))
  refine ⟨a, b, c, ha, hb, hc, ?_⟩
  unfold nm3
  rw [Str.cps_append, Str.cps_append, Array.toList_append, Array.toList_append, eq_of_beq ea, eq_of_beq eb, eq_of_beq ec]
  rfl
theorem good_all {x : Str} {n : Nat} (h : GoodNm x n) (b1 : Bool) : letF x.cps.toList b1 = true ∧ ∀ b2, tokF x.cps.toList b1 b2 = true := by
  obtain ⟨a, b, c, ha, hb, hc, e⟩ := nm3_list h
  rw [e]
  have h1 := List.all_eq_true.mp tok_all a ha
  unfold tokI at h1
  have h2 := List.all_eq_true.mp h1 b hb
  have h3 := List.all_eq_true.mp h2 c hc
  have h4 := List.all_eq_true.mp h3 b1 (by cases b1 <;> decide)
  rw [Bool.and_eq_true] at h4
  exact ⟨h4.1, fun b2 => List.all_eq_true.mp h4.2 b2 (by cases b2 <;> decide)⟩
theorem good_name {seed : Int} {n : Nat} (h : n < 5) : GoodNm (nameOf seed n) n := ⟨_, _, ⟨Int.fmod_nonneg_of_pos _ (by k_extra "om"), Int.fmod_lt_of_pos _ (by k_extra "om")⟩, ⟨Int.fmod_nonneg_of_pos _ (by k_extra "om"), Int.fmod_lt_of_pos _ (by k_extra "om")⟩, h, rfl⟩
structure LetFacts (x : Str) (b1 : Bool) : Prop where
  len : (letB x b1).length ≤ 100
  p257 : (Txt.slice (letB x b1) none (some 3) != Str.ofString "257") = false
  p2 : (Txt.slice (letB x b1) (some 3) (some 5) != Str.ofString " \"") = false
  five : 5 ≤ (letB x b1).length
  dir : dirn [] ((letB x b1).cps.toList.drop 5) = x.cps.toList
  ne : ¬ letB x b1 = Str.ofString ""
  nlen : x.length = 3
theorem let_facts {x : Str} {n : Nat} (h : GoodNm x n) (b1 : Bool) : LetFacts x b1 := by
  have := (good_all h b1).1
  simp only [letF, Bool.and_eq_true, beq_iff_eq] at this
  obtain ⟨⟨⟨⟨⟨a1, a2⟩, a3⟩, a4⟩, a5⟩, a7⟩ := this
  have hl : (letB x b1).length = (letL x.cps.toList b1).length := by rw [← letB_L]; exact (Array.length_toList).symm
  have h5 : 5 ≤ (letB x b1).length := by rw [hl]; exact Nat.le_of_ble_eq_true a4
  refine ⟨by rw [hl]; exact Nat.le_of_ble_eq_true a1, by rw [letB_eq, a2]; exact bne_self_eq_false _, by rw [letB_eq, a3]; exact bne_self_eq_false _, h5, by rw [letB_L]; exact a5, fun e => ?_, (Array.length_toList).symm.trans (Nat.eq_of_beq_eq_true a7)⟩
  rw [e] at h5
  exact absurd h5 (by decide +kernel)
theorem tok_quoted {x : Str} {n : Nat} (h : GoodNm x n) (b1 : Bool) : ∃ cs, (textB x b1 true).cps.toList = 34 :: cs ∧ quoted [] cs = some ((letB x b1).cps.toList, []) ∧ cs.length ≤ 1000 := by
  have := (good_all h b1).2 true
  simp only [tokF, cond_true, Bool.and_eq_true, beq_iff_eq] at this
  rw [← textB_L, ← letB_L] at this
  obtain ⟨⟨a1, a2⟩, a3⟩ := this
  have a3 := Nat.le_of_ble_eq_true a3
  cases e : (textB x b1 true).cps.toList with
  | nil => rw [e] at a1; cases a1
  | cons c cs =>
    rw [e] at a1 a2 a3
    cases a1
    exact ⟨cs, rfl, a2, by simp at a3; omega⟩
theorem tok_plain {x : Str} {n : Nat} (h : GoodNm x n) (b1 : Bool) : ∃ cs, (textB x b1 false).cps.toList = 50 :: cs ∧ plainTok [50] cs = some ((letB x b1).cps.toList, []) ∧ cs.length ≤ 1000 := by
  have := (good_all h b1).2 false
  simp only [tokF, cond_false, Bool.and_eq_true, beq_iff_eq] at this
  rw [← textB_L, ← letB_L] at this
  obtain ⟨⟨a1, a2⟩, a3⟩ := this
  have a3 := Nat.le_of_ble_eq_true a3
  cases e : (textB x b1 false).cps.toList with
  | nil => rw [e] at a1; cases a1
  | cons c cs =>
    rw [e] at a1 a2 a3
    cases a1
    exact ⟨cs, rfl, a2, by simp at a3; omega⟩
theorem textB_len {x : Str} {n : Nat} (h : GoodNm x n) (b1 b2 : Bool) : (textB x b1 b2).length ≤ 1000 := by
  have := (good_all h b1).2 b2
  simp only [tokF, Bool.and_eq_true] at this
  have := Nat.le_of_ble_eq_true this.2
  rw [← textB_L, Array.length_toList] at this
  exact this
-- P2
/-- a letter: a name on its way, or the told one -/
inductive Lt where
  | nm (s : Nat) (v : Bool)
  | td (s : Nat)
deriving DecidableEq
noncomputable def Lt.snd : Lt → Nat
  | .nm s _ => s
  | .td s => s
structure AB where
  (pend : List Lt) (src : Option Lt)
noncomputable def AB.letters (b : AB) : List Lt := b.pend ++ b.src.toList
noncomputable def AB.take (b : AB) : Option (Lt × AB) := match b.pend with
  | x :: r => some (x, ⟨r, b.src⟩)
  | [] => match b.src with
    | some x => some (x, ⟨[], none⟩)
    | none => none
noncomputable def AB.push (b : AB) (y : Lt) : AB := ⟨b.pend ++ [y], b.src⟩
theorem take_none {b : AB} (h : b.take = none) : b.letters = [] := by
  obtain ⟨p, s⟩ := b
  cases p with
  | cons x r => cases h
  | nil => cases s with
    | some x => cases h
    | none => rfl
theorem take_some {b b' : AB} {x : Lt} (h : b.take = some (x, b')) : b.letters = x :: b'.letters := by
  obtain ⟨p, s⟩ := b
  cases p with
  | cons y r => cases h; rfl
  | nil => cases s with
    | some y => cases h; rfl
    | none => cases h
/-- what is sent on: q tells the nodes that stop the letter's sender -/
noncomputable def sentQ (q : Nat → Bool) (node : Nat) : Lt → Option Lt
  | .td s => if s = node then none else some (.td s)
  | .nm s v => if q node = false then some (.nm s v) else if s = node then some (.td node) else none
theorem sentQ_snd {q : Nat → Bool} {node : Nat} {x y : Lt} (h : sentQ q node x = some y) : y.snd = x.snd := by
  cases x with
  | td s =>
    simp only [sentQ] at h
    by_cases e : s = node
    · rw [if_pos e] at h; cases h
    · rw [if_neg e] at h; cases h; rfl
  | nm s v =>
    simp only [sentQ] at h
    by_cases e : q node = false
    · rw [if_pos e] at h; cases h; rfl
    · rw [if_neg e] at h
      by_cases e2 : s = node
      · rw [if_pos e2] at h; cases h; exact e2.symm
      · rw [if_neg e2] at h; cases h
noncomputable def futQ (q : Nat → Bool) : Nat → Nat → Lt → List (Nat × Lt)
  | 0, _, _ => []
  | f + 1, i, x => (i, x) :: match sentQ q i x with
    | none => []
    | some y => futQ q f ((i + 1) % 5) y
noncomputable def finQ (q : Nat → Bool) : Nat → Nat → Lt → Bool
  | 0, _, _ => false
  | f + 1, i, x => match sentQ q i x with
    | none => true
    | some y => finQ q f ((i + 1) % 5) y
theorem fin_mono {q : Nat → Bool} : ∀ {f i x}, finQ q f i x = true → finQ q (f + 1) i x = true
  | 0, _, _, h => by cases h
  | f + 1, i, x, h => by
    unfold finQ at h ⊢
    cases e : sentQ q i x with
    | none => rfl
    | some y => rw [e] at h; exact fin_mono h
theorem fut_stable {q : Nat → Bool} : ∀ {f i x}, finQ q f i x = true → futQ q (f + 1) i x = futQ q f i x
  | 0, _, _, h => by cases h
  | f + 1, i, x, h => by
    unfold finQ at h
    rw [futQ, futQ.eq_2]
    cases e : sentQ q i x with
    | none => rfl
    | some y => rw [e] at h; dsimp only; rw [fut_stable h]
theorem fut_next {q : Nat → Bool} {f i : Nat} {x y : Lt} (h : finQ q (f + 1) i x = true) (e : sentQ q i x = some y) : futQ q (f + 1) i x = (i, x) :: futQ q (f + 1) ((i + 1) % 5) y ∧ finQ q (f + 1) ((i + 1) % 5) y = true := by
  unfold finQ at h
  rw [e] at h
  refine ⟨?_, fin_mono h⟩
  rw [fut_stable h, futQ.eq_2, e]
theorem fut_last {q : Nat → Bool} {f i : Nat} {x : Lt} (e : sentQ q i x = none) : futQ q (f + 1) i x = [(i, x)] := by rw [futQ, e]
/-- a sum over all letters in the boxes -/
noncomputable def sumB (φ : Lt → Nat) (b : AB) : Nat := (b.letters.map φ).sum
noncomputable def tot (φ : Nat → Lt → Nat) (bx : Nat → AB) : Nat := sumB (φ 0) (bx 0) + sumB (φ 1) (bx 1) + sumB (φ 2) (bx 2) + sumB (φ 3) (bx 3) + sumB (φ 4) (bx 4)
noncomputable def upd {α : Type} (f : Nat → α) (k : Nat) (a : α) : Nat → α := fun j => if j = k then a else f j
theorem upd_self {α : Type} {f : Nat → α} {k : Nat} {a : α} : upd f k a k = a := if_pos rfl
theorem upd_ne {α : Type} {f : Nat → α} {k j : Nat} {a : α} (h : j ≠ k) : upd f k a j = f j := if_neg h
theorem sum_take {φ : Lt → Nat} {b b' : AB} {x : Lt} (h : b.take = some (x, b')) : sumB φ b = φ x + sumB φ b' := by
  unfold sumB
  rw [take_some h]
  simp
theorem sum_push {φ : Lt → Nat} {b : AB} {y : Lt} : sumB φ (b.push y) = sumB φ b + φ y := by
  unfold sumB AB.push AB.letters
  simp
  omega
theorem five {n : Nat} (h : n < 5) : n = 0 ∨ n = 1 ∨ n = 2 ∨ n = 3 ∨ n = 4 := by omega
theorem tot_upd {φ : Nat → Lt → Nat} {bx : Nat → AB} {k : Nat} {b : AB} (hk : k < 5) : tot φ (upd bx k b) + sumB (φ k) (bx k) = tot φ bx + sumB (φ k) b := by
  rcases five hk with rfl | rfl | rfl | rfl | rfl <;> simp only [tot, upd] <;> simp <;> omega
theorem tot_take {φ : Nat → Lt → Nat} {bx : Nat → AB} {k : Nat} {b' : AB} {x : Lt} (hk : k < 5) (h : (bx k).take = some (x, b')) : tot φ (upd bx k b') + φ k x = tot φ bx := by
  have := tot_upd (φ := φ) (bx := bx) (b := b') hk
  rw [sum_take h] at this
  omega
theorem tot_push {φ : Nat → Lt → Nat} {bx : Nat → AB} {k : Nat} {y : Lt} (hk : k < 5) : tot φ (upd bx k ((bx k).push y)) = tot φ bx + φ k y := by
  have := tot_upd (φ := φ) (bx := bx) (b := (bx k).push y) hk
  rw [sum_push] at this
  omega
/-- the ring -/
structure ASt where
  (bx : Nat → AB) (tk hd : Nat → List Nat) (left : Nat)
section
variable (Q : Nat → Nat → Bool)
noncomputable def tkOf (t : Nat → List Nat) (node : Nat) : Lt → Nat → List Nat
  | .nm s _ => upd t node (t node ++ [s])
  | .td _ => t
noncomputable def hdOf (t : Nat → List Nat) (node : Nat) : Lt → Nat → List Nat
  | .td s => upd t node (t node ++ [s])
  | .nm _ _ => t
noncomputable def turn (S : ASt) (node : Nat) : ASt :=
  if S.left = 0 then S else
  match (S.bx node).take with
  | none => S
  | some (x, b') => match sentQ (Q x.snd) node x with
    | none => ⟨upd S.bx node b', tkOf S.tk node x, hdOf S.hd node x, S.left - 1⟩
    | some y => ⟨upd (upd S.bx node b') ((node + 1) % 5) ((upd S.bx node b' ((node + 1) % 5)).push y), tkOf S.tk node x, hdOf S.hd node x, S.left⟩
/-- what is still to come: how often s is taken at n, how often told -/
noncomputable def isTk (n s : Nat) (e : Nat × Lt) : Bool := match e.2 with
  | .nm s' _ => decide (e.1 = n) && decide (s' = s)
  | .td _ => false
noncomputable def isHd (n s : Nat) (e : Nat × Lt) : Bool := match e.2 with
  | .td s' => decide (e.1 = n) && decide (s' = s)
  | .nm _ _ => false
noncomputable def cnt (p : Nat × Lt → Bool) (i : Nat) (x : Lt) : Nat := (futQ (Q x.snd) 10 i x).countP p
noncomputable def lenF (i : Nat) (x : Lt) : Nat := (futQ (Q x.snd) 10 i x).length
structure AInv (Ct Ch : Nat → Nat → Nat) (S : ASt) : Prop where
  fin : ∀ i, i < 5 → ∀ x ∈ (S.bx i).letters, finQ (Q x.snd) 10 i x = true
  left : S.left = tot (fun _ _ => 1) S.bx
  tk : ∀ n s, n < 5 → (S.tk n).count s + tot (cnt Q (isTk n s)) S.bx = Ct n s
  hd : ∀ n s, n < 5 → (S.hd n).count s + tot (cnt Q (isHd n s)) S.bx = Ch n s
noncomputable def pot (S : ASt) : Nat := tot (lenF Q) S.bx
variable {Q}
theorem tk_count {t : Nat → List Nat} {node n s : Nat} {x : Lt} : (tkOf t node x n).count s = (t n).count s + (if isTk n s (node, x) = true then 1 else 0) := by
  cases x with
  | td s' => simp [tkOf, isTk]
  | nm s' v =>
    show (upd t node (t node ++ [s']) n).count s = _
    by_cases h : n = node
    · subst h
      rw [upd_self]
      simp [isTk, List.count_append, List.count_singleton]
    · rw [upd_ne h]
      simp [isTk, Ne.symm h]
theorem hd_count {t : Nat → List Nat} {node n s : Nat} {x : Lt} : (hdOf t node x n).count s = (t n).count s + (if isHd n s (node, x) = true then 1 else 0) := by
  cases x with
  | nm s' v => simp [hdOf, isHd]
  | td s' =>
    show (upd t node (t node ++ [s']) n).count s = _
    by_cases h : n = node
    · subst h
      rw [upd_self]
      simp [isHd, List.count_append, List.count_singleton]
    · rw [upd_ne h]
      simp [isHd, Ne.symm h]
theorem turn_none {S : ASt} {node : Nat} (h : S.left = 0 ∨ (S.bx node).take = none) : turn Q S node = S := by
  unfold turn
  by_cases e : S.left = 0
  · rw [if_pos e]
  · rw [if_neg e]
    rcases h with h | h
    · exact absurd h e
    · rw [h]
theorem inv_turn {Ct Ch : Nat → Nat → Nat} {S : ASt} {node : Nat} (hn : node < 5) (I : AInv Q Ct Ch S) : AInv Q Ct Ch (turn Q S node) ∧ (turn Q S node = S ∨ pot Q (turn Q S node) + 1 = pot Q S) ∧ (S.left ≠ 0 → (S.bx node).letters ≠ [] → pot Q (turn Q S node) + 1 = pot Q S) := by
  by_cases h0 : S.left = 0
  · rw [turn_none (.inl h0)]
    exact ⟨I, .inl rfl, fun h => absurd h0 h⟩
  · cases ht : (S.bx node).take with
    | none =>
      rw [turn_none (.inr ht)]
      exact ⟨I, .inl rfl, fun _ h => absurd (take_none ht) h⟩
    | some z =>
      obtain ⟨x, b'⟩ := z
      have hx : x ∈ (S.bx node).letters := by rw [take_some ht]; exact .head _
      have hfx := I.fin node hn x hx
      have hk : (node + 1) % 5 < 5 := Nat.mod_lt _ (by omega)
      have hfin1 : ∀ i, i < 5 → ∀ z ∈ (upd S.bx node b' i).letters, finQ (Q z.snd) 10 i z = true := fun i hi z hz => by
        by_cases e : i = node
        · subst e
          rw [upd_self] at hz
          exact I.fin i hi z (by rw [take_some ht]; exact .tail _ hz)
        · rw [upd_ne e] at hz
          exact I.fin i hi z hz
      cases hs : sentQ (Q x.snd) node x with
      | none =>
        have he : turn Q S node = ⟨upd S.bx node b', tkOf S.tk node x, hdOf S.hd node x, S.left - 1⟩ := by
          unfold turn
          rw [if_neg h0, ht]
          dsimp only
          rw [hs]
        have hlast := fut_last (f := 9) hs
        have hp : pot Q (turn Q S node) + 1 = pot Q S := by
          rw [he]
          have := tot_take (φ := lenF Q) hn ht
          have hl : lenF Q node x = 1 := by unfold lenF; rw [hlast]; rfl
          unfold pot
          dsimp only
          omega
        refine ⟨?_, .inr hp, fun _ _ => hp⟩
        rw [he]
        refine ⟨hfin1, ?_, fun n s hn' => ?_, fun n s hn' => ?_⟩
        · have := tot_take (φ := fun _ _ => 1) hn ht
          have := I.left
          dsimp only at *
          omega
        · have h1 := tot_take (φ := cnt Q (isTk n s)) hn ht
          have h2 := I.tk n s hn'
          have h3 : cnt Q (isTk n s) node x = if isTk n s (node, x) = true then 1 else 0 := by unfold cnt; rw [hlast]; simp [List.countP_cons]
          dsimp only
          rw [tk_count]
          omega
        · have h1 := tot_take (φ := cnt Q (isHd n s)) hn ht
          have h2 := I.hd n s hn'
          have h3 : cnt Q (isHd n s) node x = if isHd n s (node, x) = true then 1 else 0 := by unfold cnt; rw [hlast]; simp [List.countP_cons]
          dsimp only
          rw [hd_count]
          omega
      | some y =>
        have he : turn Q S node = ⟨upd (upd S.bx node b') ((node + 1) % 5) ((upd S.bx node b' ((node + 1) % 5)).push y), tkOf S.tk node x, hdOf S.hd node x, S.left⟩ := by
          unfold turn
          rw [if_neg h0, ht]
          dsimp only
          rw [hs]
        obtain ⟨hnext, hfy⟩ := fut_next hfx hs
        have hsnd := sentQ_snd hs
        have hp : pot Q (turn Q S node) + 1 = pot Q S := by
          rw [he]
          have h1 := tot_take (φ := lenF Q) hn ht
          have h2 := tot_push (φ := lenF Q) (bx := upd S.bx node b') (y := y) hk
          have hl : lenF Q node x = lenF Q ((node + 1) % 5) y + 1 := by unfold lenF; rw [hnext, hsnd]; rfl
          unfold pot
          dsimp only
          omega
        refine ⟨?_, .inr hp, fun _ _ => hp⟩
        rw [he]
        refine ⟨fun i hi z hz => ?_, ?_, fun n s hn' => ?_, fun n s hn' => ?_⟩
        · dsimp only at hz
          by_cases e : i = (node + 1) % 5
          · subst e
            rw [upd_self] at hz
            unfold AB.push AB.letters at hz
            dsimp only at hz
            rcases List.mem_append.mp hz with hz | hz
            · rcases List.mem_append.mp hz with hz | hz
              · exact hfin1 _ hi z (List.mem_append_left _ hz)
              · cases List.mem_singleton.mp hz
                rw [hsnd]; exact hfy
            · exact hfin1 _ hi z (List.mem_append_right _ hz)
          · rw [upd_ne e] at hz
            exact hfin1 i hi z hz
        · have h1 := tot_take (φ := fun _ _ => 1) hn ht
          have h2 := tot_push (φ := fun _ _ => 1) (bx := upd S.bx node b') (y := y) hk
          have := I.left
          dsimp only at *
          omega
        · have h1 := tot_take (φ := cnt Q (isTk n s)) hn ht
          have h4 := tot_push (φ := cnt Q (isTk n s)) (bx := upd S.bx node b') (y := y) hk
          have h2 := I.tk n s hn'
          have h3 : cnt Q (isTk n s) node x = cnt Q (isTk n s) ((node + 1) % 5) y + if isTk n s (node, x) = true then 1 else 0 := by unfold cnt; rw [hnext, hsnd, List.countP_cons]
          dsimp only
          rw [tk_count]
          omega
        · have h1 := tot_take (φ := cnt Q (isHd n s)) hn ht
          have h4 := tot_push (φ := cnt Q (isHd n s)) (bx := upd S.bx node b') (y := y) hk
          have h2 := I.hd n s hn'
          have h3 : cnt Q (isHd n s) node x = cnt Q (isHd n s) ((node + 1) % 5) y + if isHd n s (node, x) = true then 1 else 0 := by unfold cnt; rw [hnext, hsnd, List.countP_cons]
          dsimp only
          rw [hd_count]
          omega
theorem inv_turns {Ct Ch : Nat → Nat → Nat} : ∀ {cs : List Nat} {S : ASt}, (∀ c ∈ cs, c < 5) → AInv Q Ct Ch S → AInv Q Ct Ch (cs.foldl (turn Q) S) ∧ pot Q (cs.foldl (turn Q) S) ≤ pot Q S ∧ (pot Q (cs.foldl (turn Q) S) = pot Q S → cs.foldl (turn Q) S = S ∧ ∀ c ∈ cs, S.left ≠ 0 → (S.bx c).letters = [])
  | [], S, _, I => ⟨I, Nat.le_refl _, fun _ => ⟨rfl, fun _ h => nomatch h⟩⟩
  | c :: cs, S, hc, I => by
    obtain ⟨I1, h1, h2⟩ := inv_turn (hc c (.head _)) I
    obtain ⟨I2, h3, h4⟩ := inv_turns (cs := cs) (fun d hd => hc d (.tail _ hd)) I1
    have hle : pot Q (turn Q S c) ≤ pot Q S := by
      rcases h1 with h1 | h1
      · rw [h1]; exact Nat.le_refl _
      · omega
    refine ⟨I2, Nat.le_trans h3 hle, fun e => ?_⟩
    have e' : pot Q (cs.foldl (turn Q) (turn Q S c)) = pot Q S := e
    have hS : turn Q S c = S := by
      rcases h1 with h1 | h1
      · exact h1
      · omega
    rw [hS] at h4 e'
    obtain ⟨h5, h6⟩ := h4 e'
    refine ⟨by show cs.foldl (turn Q) (turn Q S c) = S; rw [hS]; exact h5, fun d hd hl => ?_⟩
    rcases List.mem_cons.mp hd with rfl | hd
    · cases hq : (S.bx d).letters with
      | nil => rfl
      | cons y r =>
        have := h2 hl (by rw [hq]; exact nofun)
        rw [hS] at this
        omega
    · exact h6 d hd hl
theorem tot_zero {φ : Nat → Lt → Nat} {bx : Nat → AB} (h : ∀ i, i < 5 → (bx i).letters = []) : tot φ bx = 0 := by
  unfold tot sumB
  rw [h 0 (by omega), h 1 (by omega), h 2 (by omega), h 3 (by omega), h 4 (by omega)]
  rfl
theorem empty_of_left {bx : Nat → AB} (h : tot (fun _ _ => 1) bx = 0) : ∀ i, i < 5 → (bx i).letters = [] := by
  intro i hi
  have : sumB (fun _ => 1) (bx i) = 0 := by
    unfold tot at h
    dsimp only at h
    rcases five hi with rfl | rfl | rfl | rfl | rfl <;> omega
  unfold sumB at this
  cases e : (bx i).letters with
  | nil => rfl
  | cons y r => rw [e] at this; simp at this
theorem inv_round {Ct Ch : Nat → Nat → Nat} {S : ASt} (I : AInv Q Ct Ch S) : AInv Q Ct Ch ([0, 1, 2, 3, 4].foldl (turn Q) S) ∧ (S.left = 0 ∧ [0, 1, 2, 3, 4].foldl (turn Q) S = S ∨ pot Q ([0, 1, 2, 3, 4].foldl (turn Q) S) + 1 ≤ pot Q S) := by
  obtain ⟨I1, h1, h2⟩ := inv_turns (cs := [0, 1, 2, 3, 4]) (by decide) I
  refine ⟨I1, ?_⟩
  by_cases e : pot Q ([0, 1, 2, 3, 4].foldl (turn Q) S) = pot Q S
  · left
    obtain ⟨h3, h4⟩ := h2 e
    refine ⟨?_, h3⟩
    by_cases hl : S.left = 0
    · exact hl
    · have : ∀ i, i < 5 → (S.bx i).letters = [] := fun i hi => h4 i (by rcases five hi with rfl | rfl | rfl | rfl | rfl <;> decide) hl
      have := tot_zero (φ := fun _ _ => 1) this
      rw [← I.left] at this
      exact this
  · right; omega
theorem inv_rounds {Ct Ch : Nat → Nat → Nat} : ∀ (n : Nat) {S : ASt}, AInv Q Ct Ch S → pot Q S ≤ n → AInv Q Ct Ch ((List.replicate n [0, 1, 2, 3, 4]).flatten.foldl (turn Q) S) ∧ ((List.replicate n [0, 1, 2, 3, 4]).flatten.foldl (turn Q) S).left = 0
  | 0, S, I, hp => by
    refine ⟨I, ?_⟩
    show S.left = 0
    cases hl : S.left with
    | zero => rfl
    | succ k =>
      exfalso
      have h1 := I.left
      have hpt : pot Q S = 0 := by omega
      have : ∀ i, i < 5 → (S.bx i).letters = [] := by
        intro i hi
        have hz : sumB (lenF Q i) (S.bx i) = 0 := by
          unfold pot tot at hpt
          rcases five hi with rfl | rfl | rfl | rfl | rfl <;> omega
        unfold sumB at hz
        cases e : (S.bx i).letters with
        | nil => rfl
        | cons y r =>
          rw [e] at hz
          have : lenF Q i y ≥ 1 := by unfold lenF; rw [futQ.eq_2]; simp
          simp at hz
          omega
      rw [tot_zero this] at h1
      omega
  | n + 1, S, I, hp => by
    obtain ⟨I1, h1⟩ := inv_round I
    rw [List.replicate_succ, List.flatten_cons, List.foldl_append]
    rcases h1 with ⟨h1, h2⟩ | h1
    · rw [h2]
      have hz : pot Q S ≤ n := by
        have : pot Q S = 0 := by
          unfold pot
          refine tot_zero (empty_of_left ?_)
          rw [← I.left]; exact h1
        omega
      exact inv_rounds n I hz
    · exact inv_rounds n I1 (by omega)
end
theorem fut_congr {q q' : Nat → Bool} (h : ∀ n, n < 5 → q n = q' n) : ∀ {f i x}, i < 5 → futQ q f i x = futQ q' f i x ∧ finQ q f i x = finQ q' f i x
  | 0, _, _, _ => ⟨rfl, rfl⟩
  | f + 1, i, x, hi => by
    have e : sentQ q i x = sentQ q' i x := by
      cases x with
      | td s => rfl
      | nm s v => simp only [sentQ, h i hi]
    rw [futQ.eq_2, futQ.eq_2, finQ.eq_2, finQ.eq_2, e]
    cases sentQ q' i x with
    | none => exact ⟨rfl, rfl⟩
    | some y =>
      obtain ⟨h1, h2⟩ := fut_congr h (f := f) (i := (i + 1) % 5) (x := y) (Nat.mod_lt _ (by omega))
      exact ⟨by dsimp only; rw [h1], h2⟩
theorem fut_snd {q : Nat → Bool} : ∀ {f i x}, ∀ e ∈ futQ q f i x, e.2.snd = x.snd
  | 0, _, _, _, h => nomatch h
  | f + 1, i, x, e, h => by
    rw [futQ.eq_2] at h
    rcases List.mem_cons.mp h with rfl | h
    · rfl
    · cases hs : sentQ q i x with
      | none => rw [hs] at h; exact nomatch h
      | some y =>
        rw [hs] at h
        exact (fut_snd e h).trans (sentQ_snd hs)
theorem isTk_snd {n s : Nat} {e : Nat × Lt} (h : isTk n s e = true) : e.2.snd = s := by
  obtain ⟨a, x⟩ := e
  cases x with
  | nm s' v => simp [isTk] at h; exact h.2
  | td s' => cases h
theorem isHd_snd {n s : Nat} {e : Nat × Lt} (h : isHd n s e = true) : e.2.snd = s := by
  obtain ⟨a, x⟩ := e
  cases x with
  | td s' => simp [isHd] at h; exact h.2
  | nm s' v => cases h
noncomputable def qf (b0 b1 b2 b3 b4 : Bool) : Nat → Bool
  | 0 => b0
  | 1 => b1
  | 2 => b2
  | 3 => b3
  | _ => b4
theorem qf_all (q : Nat → Bool) : ∀ n, n < 5 → q n = qf (q 0) (q 1) (q 2) (q 3) (q 4) n := fun n hn => by rcases five hn with rfl | rfl | rfl | rfl | rfl <;> rfl
/-- a letter's whole way, all cases -/
theorem way_all : ∀ b0 b1 b2 b3 b4 v : Bool, ∀ s ∈ [0, 1, 2, 3, 4], qf b0 b1 b2 b3 b4 s = true →
    finQ (qf b0 b1 b2 b3 b4) 10 ((s + 1) % 5) (.nm s v) = true ∧
    (∀ n ∈ [0, 1, 2, 3, 4], (futQ (qf b0 b1 b2 b3 b4) 10 ((s + 1) % 5) (.nm s v)).countP (isTk n s) = (if (List.range ((n + 5 - s - 1) % 5)).all (fun j => !(qf b0 b1 b2 b3 b4 ((s + 1 + j) % 5))) = true then 1 else 0) ∧
      (futQ (qf b0 b1 b2 b3 b4) 10 ((s + 1) % 5) (.nm s v)).countP (isHd n s) = (if (List.range 4).all (fun j => !(qf b0 b1 b2 b3 b4 ((s + 1 + j) % 5))) = true then 1 else 0)) ∧
    (futQ (qf b0 b1 b2 b3 b4) 10 ((s + 1) % 5) (.nm s v)).length ≤ 10 ∧
    ∀ c ∈ [0, 1, 2, 3, 4], c ≠ s → qf b0 b1 b2 b3 b4 c = true → (futQ (qf b0 b1 b2 b3 b4) 10 ((s + 1) % 5) (.nm s v)).length ≤ (c + 5 - s) % 5 := by decide +kernel
theorem in5 {n : Nat} (h : n < 5) : n ∈ [0, 1, 2, 3, 4] := by rcases five h with rfl | rfl | rfl | rfl | rfl <;> decide
theorem way_of {q : Nat → Bool} {s : Nat} (hs : s < 5) (hq : q s = true) (v : Bool) :
    finQ q 10 ((s + 1) % 5) (.nm s v) = true ∧
    (∀ n, n < 5 → (futQ q 10 ((s + 1) % 5) (.nm s v)).countP (isTk n s) = (if (List.range ((n + 5 - s - 1) % 5)).all (fun j => !(q ((s + 1 + j) % 5))) = true then 1 else 0) ∧
      (futQ q 10 ((s + 1) % 5) (.nm s v)).countP (isHd n s) = (if (List.range 4).all (fun j => !(q ((s + 1 + j) % 5))) = true then 1 else 0)) ∧
    (futQ q 10 ((s + 1) % 5) (.nm s v)).length ≤ 10 ∧
    ∀ c, c < 5 → c ≠ s → q c = true → (futQ q 10 ((s + 1) % 5) (.nm s v)).length ≤ (c + 5 - s) % 5 := by
  have hc := qf_all q
  obtain ⟨e1, e2⟩ := fut_congr hc (f := 10) (i := (s + 1) % 5) (x := .nm s v) (Nat.mod_lt _ (by omega))
  have hm : ∀ j, q ((s + 1 + j) % 5) = qf (q 0) (q 1) (q 2) (q 3) (q 4) ((s + 1 + j) % 5) := fun j => hc _ (Nat.mod_lt _ (by omega))
  obtain ⟨w1, w2, w3, w4⟩ := way_all (q 0) (q 1) (q 2) (q 3) (q 4) v s (in5 hs) (by rw [← hc s hs]; exact hq)
  rw [e1, e2]
  refine ⟨w1, fun n hn => ?_, w3, fun c hc5 hne hqc => w4 c (in5 hc5) hne (by rw [← hc c hc5]; exact hqc)⟩
  simp only [hm]
  exact w2 n (in5 hn)
/-- the ring's start -/
noncomputable def bx0 (first : List Nat) (v : Nat → Bool) (i : Nat) : AB := ⟨[], if (i + 4) % 5 ∈ first then some (.nm ((i + 4) % 5) (v i)) else none⟩
noncomputable def stopQ (first : List Nat) (gt : Nat → Nat → Bool) (s n : Nat) : Bool := decide (n ∈ first) && !gt s n
noncomputable def dueT (first : List Nat) (gt : Nat → Nat → Bool) (n : Nat) : List Nat := first.filter fun s => (List.range ((n + 5 - s - 1) % 5)).all fun j => !(decide ((s + 1 + j) % 5 ∈ first) && gt ((s + 1 + j) % 5) s)
structure Ring (first : List Nat) (gt : Nat → Nat → Bool) (c : Nat) : Prop where
  lt : ∀ s ∈ first, s < 5
  nodup : first.Nodup
  irr : ∀ s, gt s s = false
  anti : ∀ s n, s < 5 → n < 5 → s ≠ n → gt s n = !gt n s
  chief : first ≠ [] → c ∈ first ∧ ∀ k ∈ first, k ≠ c → gt c k = true
section
variable {first : List Nat} {gt : Nat → Nat → Bool} {c : Nat} {v : Nat → Bool}
noncomputable def st0 (first : List Nat) (v : Nat → Bool) : ASt := ⟨bx0 first v, fun _ => [], fun _ => [], first.length⟩
theorem sum_bx0 {φ : Lt → Nat} {i : Nat} : sumB φ (bx0 first v i) = if (i + 4) % 5 ∈ first then φ (.nm ((i + 4) % 5) (v i)) else 0 := by
  unfold sumB AB.letters bx0
  by_cases h : (i + 4) % 5 ∈ first
  · simp [h]
  · simp [h]
theorem stop_self (R : Ring first gt c) {s : Nat} (h : s ∈ first) : stopQ first gt s s = true := by unfold stopQ; simp [h, R.irr s]
theorem stop_eq (R : Ring first gt c) {s j : Nat} (hs : s < 5) (hj : j < 4) : stopQ first gt s ((s + 1 + j) % 5) = (decide ((s + 1 + j) % 5 ∈ first) && gt ((s + 1 + j) % 5) s) := by
  unfold stopQ
  have hne : (s + 1 + j) % 5 ≠ s := by omega
  rw [R.anti _ _ (Nat.mod_lt _ (by omega)) hs hne]
theorem back5 {s i : Nat} (hs : s < 5) (hi : i < 5) : ((i + 4) % 5 = s ↔ i = (s + 1) % 5) := by omega
/-- a sum over the start that only one sender feeds -/
theorem tot_one {φ : Nat → Lt → Nat} {s : Nat} (hs : s < 5) (h0 : ∀ i, i < 5 → (i + 4) % 5 ≠ s → φ i (.nm ((i + 4) % 5) (v i)) = 0) : tot φ (bx0 first v) = if s ∈ first then φ ((s + 1) % 5) (.nm s (v ((s + 1) % 5))) else 0 := by
  have z : ∀ i, i < 5 → sumB (φ i) (bx0 first v i) = if i = (s + 1) % 5 then (if s ∈ first then φ ((s + 1) % 5) (.nm s (v ((s + 1) % 5))) else 0) else 0 := fun i hi => by
    rw [sum_bx0]
    by_cases e : i = (s + 1) % 5
    · have e' := (back5 hs hi).mpr e
      rw [if_pos e, e', e]
    · rw [if_neg e]
      have e' : (i + 4) % 5 ≠ s := fun q => e ((back5 hs hi).mp q)
      by_cases hm : (i + 4) % 5 ∈ first
      · rw [if_pos hm, h0 i hi e']
      · rw [if_neg hm]
  unfold tot
  rw [z 0 (by omega), z 1 (by omega), z 2 (by omega), z 3 (by omega), z 4 (by omega)]
  rcases five hs with rfl | rfl | rfl | rfl | rfl <;> simp
theorem count_none {q : Nat → Bool} {p : Nat × Lt → Bool} {i s : Nat} {x : Lt} (hp : ∀ e, p e = true → e.2.snd = s) (hx : x.snd ≠ s) : (futQ q 10 i x).countP p = 0 := by
  rw [List.countP_eq_zero]
  intro e he h
  exact hx ((fut_snd e he).symm.trans (hp e h))
theorem len_counts : ∀ {l : List Nat}, (∀ x ∈ l, x < 5) → l.length = l.count 0 + l.count 1 + l.count 2 + l.count 3 + l.count 4
  | [], _ => rfl
  | x :: r, h => by
    have ih := len_counts (l := r) fun y hy => h y (.tail _ hy)
    have hx := h x (.head _)
    simp only [List.count_cons, List.length_cons]
    rcases five hx with rfl | rfl | rfl | rfl | rfl <;> simp <;> omega
theorem tot_zero' {φ : Nat → Lt → Nat} (h0 : ∀ i, i < 5 → φ i (.nm ((i + 4) % 5) (v i)) = 0) : tot φ (bx0 first v) = 0 := by
  have z : ∀ i, i < 5 → sumB (φ i) (bx0 first v i) = 0 := fun i hi => by
    rw [sum_bx0, h0 i hi]
    split <;> rfl
  unfold tot
  rw [z 0 (by omega), z 1 (by omega), z 2 (by omega), z 3 (by omega), z 4 (by omega)]
theorem nodup_count {l : List Nat} (h : l.Nodup) (s : Nat) : l.count s = if s ∈ l then 1 else 0 := by
  induction l with
  | nil => rfl
  | cons x r ih =>
    obtain ⟨h1, h2⟩ := List.nodup_cons.mp h
    rw [List.count_cons, ih h2]
    by_cases e : x = s
    · subst e
      simp [h1]
    · have e' : ¬ s = x := fun q => e q.symm
      simp [e, e']
theorem all_stop (R : Ring first gt c) {s k : Nat} (hs : s < 5) (hk : k ≤ 4) : (List.range k).all (fun j => !(stopQ first gt s ((s + 1 + j) % 5))) = (List.range k).all (fun j => !(decide ((s + 1 + j) % 5 ∈ first) && gt ((s + 1 + j) % 5) s)) := by
  rw [Bool.eq_iff_iff, List.all_eq_true, List.all_eq_true]
  constructor
  · intro h j hj
    have := h j hj
    rw [stop_eq R hs (by have := List.mem_range.mp hj; omega)] at this
    exact this
  · intro h j hj
    rw [stop_eq R hs (by have := List.mem_range.mp hj; omega)]
    exact h j hj
theorem chief_way (R : Ring first gt c) {s : Nat} (hm : s ∈ first) : (List.range 4).all (fun j => !(stopQ first gt s ((s + 1 + j) % 5))) = decide (s = c) := by
  have hne : first ≠ [] := fun e => by rw [e] at hm; exact nomatch hm
  obtain ⟨hc, hg⟩ := R.chief hne
  have hs := R.lt s hm
  have hc5 := R.lt c hc
  by_cases e : s = c
  · rw [decide_eq_true e, List.all_eq_true]
    intro j hj
    have hj4 := List.mem_range.mp hj
    have hn : (s + 1 + j) % 5 ≠ s := by omega
    unfold stopQ
    by_cases hmn : (s + 1 + j) % 5 ∈ first
    · have := hg _ hmn (by rw [← e]; exact hn)
      rw [← e] at this
      simp [this]
    · simp [hmn]
  · rw [decide_eq_false e]
    have hj : (c + 5 - s - 1) % 5 < 4 := by omega
    have hj2 : (s + 1 + (c + 5 - s - 1) % 5) % 5 = c := by omega
    have hst : stopQ first gt s c = true := by
      unfold stopQ
      have := hg s hm e
      have h2 := R.anti s c hs hc5 e
      rw [this] at h2
      simp [hc, h2]
    cases hq : (List.range 4).all (fun j => !(stopQ first gt s ((s + 1 + j) % 5))) with
    | false => rfl
    | true =>
      have := List.all_eq_true.mp hq _ (List.mem_range.mpr hj)
      rw [hj2, hst] at this
      cases this
theorem inv0 (R : Ring first gt c) : AInv (stopQ first gt) (fun n s => (dueT first gt n).count s) (fun _ s => if first ≠ [] ∧ s = c then 1 else 0) (st0 first v) := by
  refine ⟨fun i hi x hx => ?_, ?_, fun n s hn => ?_, fun n s hn => ?_⟩
  · unfold st0 bx0 AB.letters at hx
    dsimp only at hx
    by_cases h : (i + 4) % 5 ∈ first
    · rw [if_pos h] at hx
      have : x = .nm ((i + 4) % 5) (v i) := by simpa using hx
      subst this
      have := (way_of (R.lt _ h) (stop_self R h) (v i)).1
      rw [show ((i + 4) % 5 + 1) % 5 = i from by omega] at this
      exact this
    · rw [if_neg h] at hx
      simp at hx
  · show first.length = tot (fun _ _ => 1) (bx0 first v)
    rw [len_counts R.lt]
    simp only [nodup_count R.nodup]
    unfold tot
    rw [sum_bx0, sum_bx0, sum_bx0, sum_bx0, sum_bx0]
    simp only [Nat.reduceAdd, Nat.reduceMod]
    omega
  · show List.count s [] + tot (cnt (stopQ first gt) (isTk n s)) (bx0 first v) = _
    rw [List.count_nil, Nat.zero_add]
    by_cases hs : s < 5
    · rw [tot_one hs fun i hi hne => count_none (x := .nm ((i + 4) % 5) (v i)) (fun e => isTk_snd) hne]
      by_cases hm : s ∈ first
      · rw [if_pos hm]
        unfold cnt
        have := ((way_of hs (stop_self R hm) (v ((s + 1) % 5))).2.1 n hn).1
        show List.countP (isTk n s) (futQ (stopQ first gt s) 10 ((s + 1) % 5) (.nm s (v ((s + 1) % 5)))) = _
        rw [this, all_stop R hs (by omega)]
        by_cases hq : (List.range ((n + 5 - s - 1) % 5)).all (fun j => !(decide ((s + 1 + j) % 5 ∈ first) && gt ((s + 1 + j) % 5) s)) = true
        · rw [if_pos hq]
          unfold dueT
          rw [List.count_filter (p := fun s => (List.range ((n + 5 - s - 1) % 5)).all fun j => !(decide ((s + 1 + j) % 5 ∈ first) && gt ((s + 1 + j) % 5) s)) hq, nodup_count R.nodup, if_pos hm]
        · rw [if_neg hq]
          symm
          refine List.count_eq_zero.mpr fun h => ?_
          exact hq (List.mem_filter.mp h).2
      · rw [if_neg hm]
        symm
        exact List.count_eq_zero.mpr fun h => hm (List.mem_filter.mp h).1
    · rw [tot_zero' fun i hi => count_none (x := .nm ((i + 4) % 5) (v i)) (fun e => isTk_snd) (by show (i + 4) % 5 ≠ s; omega)]
      symm
      exact List.count_eq_zero.mpr fun h => hs (R.lt s (List.mem_filter.mp h).1)
  · show List.count s [] + tot (cnt (stopQ first gt) (isHd n s)) (bx0 first v) = _
    rw [List.count_nil, Nat.zero_add]
    by_cases hs : s < 5
    · rw [tot_one hs fun i hi hne => count_none (x := .nm ((i + 4) % 5) (v i)) (fun e => isHd_snd) hne]
      by_cases hm : s ∈ first
      · rw [if_pos hm]
        unfold cnt
        have := ((way_of hs (stop_self R hm) (v ((s + 1) % 5))).2.1 n hn).2
        show List.countP (isHd n s) (futQ (stopQ first gt s) 10 ((s + 1) % 5) (.nm s (v ((s + 1) % 5)))) = _
        rw [this, chief_way R hm]
        have hne : first ≠ [] := fun e => by rw [e] at hm; exact nomatch hm
        by_cases e : s = c
        · rw [decide_eq_true e, if_pos rfl, if_pos ⟨hne, e⟩]
        · rw [decide_eq_false e, if_neg Bool.false_ne_true, if_neg fun h => e h.2]
      · rw [if_neg hm, if_neg fun h => hm (by rw [h.2]; exact (R.chief h.1).1)]
    · rw [tot_zero' fun i hi => count_none (x := .nm ((i + 4) % 5) (v i)) (fun e => isHd_snd) (by show (i + 4) % 5 ≠ s; omega), if_neg fun h => hs (by rw [h.2]; exact R.lt _ (R.chief h.1).1)]
theorem pot0 (R : Ring first gt c) : pot (stopQ first gt) (st0 first v) ≤ 20 := by
  show tot (lenF (stopQ first gt)) (bx0 first v) ≤ 20
  by_cases hne : first = []
  · have : tot (lenF (stopQ first gt)) (bx0 first v) = 0 := by
      refine tot_zero fun i _ => ?_
      unfold bx0 AB.letters
      simp [hne]
    omega
  · obtain ⟨hc, hg⟩ := R.chief hne
    have hc5 := R.lt c hc
    have z : ∀ i, i < 5 → sumB (lenF (stopQ first gt) i) (bx0 first v i) ≤ if (i + 4) % 5 = c then 10 else (c + 5 - (i + 4) % 5) % 5 := fun i hi => by
      rw [sum_bx0]
      by_cases hm : (i + 4) % 5 ∈ first
      · rw [if_pos hm]
        have w := way_of (R.lt _ hm) (stop_self R hm) (v i)
        rw [show ((i + 4) % 5 + 1) % 5 = i from by omega] at w
        unfold lenF
        by_cases e : (i + 4) % 5 = c
        · rw [if_pos e]; exact w.2.2.1
        · rw [if_neg e]
          refine w.2.2.2 c hc5 (Ne.symm e) ?_
          have h1 := hg _ hm e
          have h2 := R.anti _ c (R.lt _ hm) hc5 e
          rw [h1] at h2
          unfold stopQ
          simp [hc, h2]
      · rw [if_neg hm]; exact Nat.zero_le _
    have z0 := z 0 (by omega)
    have z1 := z 1 (by omega)
    have z2 := z 2 (by omega)
    have z3 := z 3 (by omega)
    have z4 := z 4 (by omega)
    unfold tot
    rcases five hc5 with rfl | rfl | rfl | rfl | rfl <;> simp at z0 z1 z2 z3 z4 <;> omega
/-- the whole run: all is told, nothing is left -/
theorem ring_end (R : Ring first gt c) {pre : List Nat} (hp : ∀ x ∈ pre, x < 5) : ∃ S, S = (pre ++ (List.replicate 20 [0, 1, 2, 3, 4]).flatten).foldl (turn (stopQ first gt)) (st0 first v) ∧ S.left = 0 ∧ (∀ i, i < 5 → (S.bx i).letters = []) ∧
    (∀ n, n < 5 → (S.tk n).Perm (dueT first gt n)) ∧ ∀ n, n < 5 → S.hd n = if first ≠ [] then [c] else [] := by
  refine ⟨_, rfl, ?_⟩
  rw [List.foldl_append]
  obtain ⟨I1, h1, -⟩ := inv_turns (cs := pre) hp (inv0 (v := v) R)
  obtain ⟨I2, h2⟩ := inv_rounds 20 I1 (Nat.le_trans h1 (pot0 R))
  generalize (List.replicate 20 [0, 1, 2, 3, 4]).flatten.foldl (turn (stopQ first gt)) (pre.foldl (turn (stopQ first gt)) (st0 first v)) = S at I2 h2 ⊢
  have he : ∀ i, i < 5 → (S.bx i).letters = [] := empty_of_left (by rw [← I2.left]; exact h2)
  refine ⟨h2, he, fun n hn => ?_, fun n hn => ?_⟩
  · rw [List.perm_iff_count]
    intro s
    have := I2.tk n s hn
    rw [tot_zero he] at this
    exact this
  · have hcount : ∀ s, List.count s (S.hd n) = if first ≠ [] ∧ s = c then 1 else 0 := fun s => by
      have := I2.hd n s hn
      rw [tot_zero he] at this
      exact this
    by_cases hne : first ≠ []
    · rw [if_pos hne]
      refine List.perm_singleton.mp ?_
      rw [List.perm_iff_count]
      intro s
      rw [hcount s]
      by_cases e : s = c
      · rw [if_pos ⟨hne, e⟩, e]; simp
      · rw [if_neg fun h => e h.2]
        symm
        exact List.count_eq_zero.mpr (by simp [e])
    · rw [if_neg hne]
      refine List.perm_nil.mp ?_
      rw [List.perm_iff_count]
      intro s
      rw [hcount s, if_neg fun h => hne h.1]
      rfl
end
-- C31
theorem lines31 : True := by
  k_with_none
  k_with "in" => first | with_reducible assumption | exact And.left (by with_reducible assumption) | exact And.left (And.right (by with_reducible assumption)) | exact And.left (And.right (And.right (by with_reducible assumption))) | exact And.left (And.right (And.right (And.right (by with_reducible assumption)))) | exact And.left (And.right (And.right (And.right (And.right (by with_reducible assumption))))) | exact And.left (And.right (And.right (And.right (And.right (And.right (by with_reducible assumption)))))) | exact And.left (And.right (And.right (And.right (And.right (And.right (And.right (by with_reducible assumption))))))) | exact And.left (And.right (And.right (And.right (And.right (And.right (And.right (And.right (by with_reducible assumption)))))))) | exact And.left (And.right (And.right (And.right (And.right (And.right (And.right (And.right (And.right (by with_reducible assumption))))))))) | exact And.left (And.right (And.right (And.right (And.right (And.right (And.right (And.right (And.right (And.right (by with_reducible assumption)))))))))) | exact And.left (And.right (And.right (And.right (And.right (And.right (And.right (And.right (And.right (And.right (And.right (by with_reducible assumption))))))))))) | exact And.left (And.right (And.right (And.right (And.right (And.right (And.right (And.right (And.right (And.right (And.right (And.right (by with_reducible assumption)))))))))))) | exact And.left (And.right (And.right (And.right (And.right (And.right (And.right (And.right (And.right (And.right (And.right (And.right (And.right (by with_reducible assumption))))))))))))) | exact And.left (And.right (And.right (And.right (And.right (And.right (And.right (And.right (And.right (And.right (And.right (And.right (And.right (And.right (by with_reducible assumption)))))))))))))) | exact And.left (And.right (And.right (And.right (And.right (And.right (And.right (And.right (And.right (And.right (And.right (And.right (And.right (And.right (And.right (by with_reducible assumption))))))))))))))) | exact And.right (by with_reducible assumption) | exact And.right (And.right (by with_reducible assumption)) | exact And.right (And.right (And.right (by with_reducible assumption))) | exact And.right (And.right (And.right (And.right (by with_reducible assumption)))) | exact And.right (And.right (And.right (And.right (And.right (by with_reducible assumption))))) | exact And.right (And.right (And.right (And.right (And.right (And.right (by with_reducible assumption)))))) | exact And.right (And.right (And.right (And.right (And.right (And.right (And.right (by with_reducible assumption))))))) | exact And.right (And.right (And.right (And.right (And.right (And.right (And.right (And.right (by with_reducible assumption)))))))) | exact And.right (And.right (And.right (And.right (And.right (And.right (And.right (And.right (And.right (by with_reducible assumption))))))))) | exact And.right (And.right (And.right (And.right (And.right (And.right (And.right (And.right (And.right (And.right (by with_reducible assumption)))))))))) | exact And.right (And.right (And.right (And.right (And.right (And.right (And.right (And.right (And.right (And.right (And.right (by with_reducible assumption))))))))))) | exact And.right (And.right (And.right (And.right (And.right (And.right (And.right (And.right (And.right (And.right (And.right (And.right (by with_reducible assumption)))))))))))) | exact And.right (And.right (And.right (And.right (And.right (And.right (And.right (And.right (And.right (And.right (And.right (And.right (And.right (by with_reducible assumption))))))))))))) | exact And.right (And.right (And.right (And.right (And.right (And.right (And.right (And.right (And.right (And.right (And.right (And.right (And.right (And.right (by with_reducible assumption))))))))))))))
  k_with "lt0" => first | with_reducible assumption | exact Nat.lt_trans (by with_reducible assumption) (by k_extra "lt0")
  k_with "lt" => first | k_extra "in" | exact Nat.lt_trans (by k_extra "in") (by k_extra "lt")
  k_with "ne0" => first | with_reducible assumption | exact Ne.symm (by with_reducible assumption) | exact Nat.succ_ne_self _ | exact Ne.symm (Nat.succ_ne_self _) | (refine Nat.ne_of_lt ?_; k_extra "lt0") | (refine Nat.ne_of_gt ?_; k_extra "lt0")
  k_with "ne1" => first | k_extra "in" | (refine Ne.symm ?_; k_extra "in") | (refine Nat.ne_of_lt ?_; k_extra "lt") | (refine Nat.ne_of_gt ?_; k_extra "lt")
  k_with "ne2" => first | (refine Nat.ne_of_lt ?_; k_extra "lt0") | (refine Nat.ne_of_gt ?_; k_extra "lt0") | (refine Nat.ne_of_lt (And.left (by with_reducible assumption)))  | (refine Nat.ne_of_gt (And.left (by with_reducible assumption))) | (refine Nat.ne_of_lt (Nat.lt_trans (And.right (by with_reducible assumption)) ?_); k_extra "lt0") | (refine Nat.ne_of_lt (And.right (by with_reducible assumption))) | (refine Nat.ne_of_gt (Nat.lt_trans ?_ (And.left (by with_reducible assumption))); k_extra "lt0")
  k_with "ne" => first | k_extra "ne0" | (refine Or.elim (by with_reducible assumption : @LT.lt Nat _ _ _ ∨ @LT.lt Nat _ _ _ ∧ @LT.lt Nat _ _ _) (fun q9 => ?_) (fun q9 => ?_); (all_goals k_extra "ne2")) | k_extra "ne1"
  k_with "ifs" => first | with_reducible rfl | exact Eq.trans (if_neg (by assumption)) (by k_extra "ifs")
  k_with "up" => first | exact up2 (by with_reducible assumption) rfl | exact up1 (by with_reducible assumption) rfl | exact up3 (by with_reducible assumption) rfl | exact up4 (by with_reducible assumption) rfl | exact up5 (by with_reducible assumption) rfl
  k_with "om" => first | with_reducible assumption | exact Nat.succ_pos _ | (with_reducible show @LT.lt Nat _ _ _; (try dsimp only); first | k_extra "lt0" | k_extra "up" | k_extra "lt") | (with_reducible show @Ne Nat _ _; k_extra "ne") | (with_reducible show @LT.lt Nat _ _ _ ∧ @LT.lt Nat _ _ _; refine And.intro ?_ ?_ <;> k_extra "om") | (with_reducible show @Eq Nat _ _; first | exact Nat.add_sub_add_right 6 1 _ | exact (Nat.add_sub_add_right 6 1 _).symm | exact Nat.succ_sub (by omega) | exact (Nat.succ_sub (by omega)).symm | exact Nat.sub_sub_self (by omega)) | omega
  k_with "k_room" => first | k_extra "up" | ((try simp only [depth_under_make, depth_under_kw, depth_in1, depth_deeper, depth_caller]); omega)
  k_with "tb_start" => first | assumption | omega | (simp only [List.length_cons, List.length_nil, List.length_append]; omega)
  k_with "tb_rel" => repeat' (first | exact List.forall_mem_nil _ | refine List.forall_mem_cons.mpr ⟨by first | exact Or.inr (by k_mem) | exact Or.inl (by simp), ?_⟩)
  k_with "k_units" => first | k_extra "up" | ((try simp only [units_in1, units_deeper, Around.mark_units, units_caller]); omega)
  k_with "call type:list" => (k_here; (with_reducible show wpAny _ _ (call (Value.type "list") [Value.str _ _]) _ _ _); k_dflt (refine' list_strN ?h ?F ?N ?z ?_; (case h => rfl); (case F => k_asm); (case N => k_asm); (case z => exact Nat.le_trans (by assumption) (Nat.le_of_ble_eq_true rfl)); k_whole); intro l₉ h₉ tk₉ vs₉ k₉ F₉ N₉ l1₉ hc₉; (try k_lt l1₉); (try k_sweep))
  k_with "truthy ref" => (k_here; k_dflt (refine' truthy_ls ?N ?m ?z ?_; (case N => k_asm); (case m => k_mem); (case z => tb_start)); (intro tk₉; (try dsimp only [List.isEmpty_cons, List.isEmpty_nil, Bool.not_false, Bool.not_true])))
  k_with "call builtin:list.pop" => (k_here; (with_reducible show wpAny _ _ (call (Value.builtin "list.pop") [Value.ref _, Value.int 0 _]) _ _ _); k_dflt (refine' pop0_N ?F ?N ?U ?z ?_; (case F => k_asm); (case N => k_asm); (case U => k_upd); (case z => tb_start)); (intro h₉ F₉ N₉; (try k_sweep)))
  exact True.intro
section
variable {prog : Program} {w : World} {A : Around} {E : Value → Shared → Prop} {s : Shared} {g : Heap} {L D : Addr} {m : Names} {ws : List Value} {js : List Int} {k : Int} {t : Tok} {Q : Value → Shared → Prop}
theorem in_gr (F : Fr g L s.heap m) (hl : g.IsList D ws.toArray) (hI : IntsAre ws js) (h : Q (.bool (decide (k ∈ js))) s) : wpAny (model prog w) A (compareOp .In (.int k t) (.ref D)) Q E s :=
  in_list_ints (lsAt F hl) hI (by
    have : js.any (· == k) = decide (k ∈ js) := by
      rw [Bool.eq_iff_iff]; simp
    rw [this]; exact h)
theorem item_gr {value slice : PySem.Expr} {v : Value} (F : Fr g L s.heap m) (hl : g.IsList D ws.toArray) (h0 : 0 ≤ k) (h1 : k < 2 ^ 63) (hx : ws[k.toNat]? = some v) (h : Q v s)
    (hs : subscripted slice false (.ref D) (.int k t) = operate [.ref D, .int k t] (getItem (.ref D) (.int k t)) := by with_unfolding_all rfl) :
    wpAny (model prog w) A (subscriptTail value slice (.ref D) (.int k t)) Q E s :=
  tail_any (lsAt F hl).typeIs slot_list_getitem.lookup (wpAny_getItem_list (lsAt F hl) h0 h1 (by simpa using hx) h) hs
end
noncomputable def TabOk (tab : Obj) (nw : Led) (ls : List Lex) : Prop := (ls = [] ∧ tab = tabObj #[] ∧ nw = []) ∨ (∃ ct oc, tab = tabObj #[rawInt 122, rawInt 18, .ref ct] ∧ (∃ vs t, oc.data = .fields vs ∧ vs[1]? = some (.str lamQ t)) ∧ (ct, oc) ∈ nw ∧ ∀ l ∈ ls, l.ct = ct ∧ l.oc = oc)
noncomputable def BoxAt (P : Params) (nw : Led) (l : Lex) (txt : Str) : Prop := l.Ok ∧ l.Apart ∧ ∃ pm u1 vs k, CharsAre vs txt.cps.toList ∧ ∀ q ∈ l.objs P pm u1 1 [] 0 vs k, q ∈ nw
noncomputable def Lex.adr (l : Lex) : List Addr := [l.sg, l.pb, l.dx, l.x, l.sd, l.st, l.lam, l.cell]
noncomputable def Far (l l' : Lex) : Prop := ∀ a ∈ l.adr, ∀ b ∈ l'.adr, a ≠ b
noncomputable def sndOf (j : Nat) : Int := Int.fmod ((j : Int) - 1) 5
noncomputable def TextOk (nm : Nat → Str) (fis : List Int) (j : Nat) (txt : Str) : Prop := (sndOf j ∈ fis ∧ ∃ b1 b2, txt = textB (nm (sndOf j).toNat) b1 b2) ∨ (¬ sndOf j ∈ fis ∧ txt = Str.ofString " ")
noncomputable def BoxInv (P : Params) (T : Nat → Str → Prop) (nw : Led) (ls : List Lex) : Prop := (∀ j l, ls[j]? = some l → ∃ txt, T j txt ∧ BoxAt P nw l txt) ∧ ls.Pairwise Far ∧ ∀ l ∈ ls, ∀ a ∈ l.adr, ∃ o, (a, o) ∈ nw
theorem ct_not_adr {l : Lex} (h : l.Apart) : l.ct ∉ l.adr := by
  obtain ⟨a1, a2, a3, a4, a5, a6, a7, a8⟩ := h
  intro q
  unfold Lex.adr at q
  have e : l.ct = l.sg ∨ l.ct = l.pb ∨ l.ct = l.dx ∨ l.ct = l.x ∨ l.ct = l.sd ∨ l.ct = l.st ∨ l.ct = l.lam ∨ l.ct = l.cell := by simpa using q
  have e2 : @Eq Nat l.ct l.sg ∨ @Eq Nat l.ct l.pb ∨ @Eq Nat l.ct l.dx ∨ @Eq Nat l.ct l.x ∨ @Eq Nat l.ct l.sd ∨ @Eq Nat l.ct l.st ∨ @Eq Nat l.ct l.lam ∨ @Eq Nat l.ct l.cell := e
  rcases e2 with e | e | e | e | e | e | e | e <;> exact absurd e (by first | k_extra "ne" | omega)
theorem adr_objs {P : Params} {l : Lex} {pm : Value} {u1 : Tok} {ln : Int} {pbs sgs : List Value} {pbn sgn : Nat} {a : Addr} (h : a ∈ l.adr) : ∃ o, (a, o) ∈ l.objs P pm u1 ln pbs pbn sgs sgn := by
  unfold Lex.adr at h
  rcases List.mem_cons.mp h with rfl | h
  · exact ⟨_, by k_mem⟩
  rcases List.mem_cons.mp h with rfl | h
  · exact ⟨_, by k_mem⟩
  rcases List.mem_cons.mp h with rfl | h
  · exact ⟨_, by k_mem⟩
  rcases List.mem_cons.mp h with rfl | h
  · exact ⟨_, by k_mem⟩
  rcases List.mem_cons.mp h with rfl | h
  · exact ⟨_, by k_mem⟩
  rcases List.mem_cons.mp h with rfl | h
  · exact ⟨_, by k_mem⟩
  rcases List.mem_cons.mp h with rfl | h
  · exact ⟨_, by k_mem⟩
  · cases List.mem_singleton.mp h
    exact ⟨_, by k_mem⟩
theorem boxInv_snoc {P : Params} {T : Nat → Str → Prop} {nw : Led} {ls : List Lex} {l : Lex} {pm : Value} {u1 : Tok} {vs : List Value} {k : Nat} {txt : Str} {h : Heap} (I : BoxInv P T nw ls) (ht : T ls.length txt) (hc : CharsAre vs txt.cps.toList) (ok : l.Ok) (ap : l.Apart)
    (hold : ∀ q ∈ nw, h.get? q.1 = some q.2) (hfresh : ∀ a ∈ l.adr, h.get? a = none) : BoxInv P T (l.objs P pm u1 1 [] 0 vs k ++ nw) (ls ++ [l]) := by
  obtain ⟨i1, i2, i3⟩ := I
  refine ⟨fun j l' hj => ?_, ?_, fun l' hl a ha => ?_⟩
  · by_cases hlt : j < ls.length
    · rw [List.getElem?_append_left hlt] at hj
      obtain ⟨t', h1, h2, h3, pm', u1', vs', k', h4, h5⟩ := i1 j l' hj
      exact ⟨t', h1, h2, h3, pm', u1', vs', k', h4, fun q hq => List.mem_append_right _ (h5 q hq)⟩
    · rw [List.getElem?_append_right (by k_extra "om")] at hj
      have hj0 : j - ls.length = 0 := by
        cases e : j - ls.length with
        | zero => rfl
        | succ n => rw [e] at hj; simp at hj
      rw [hj0] at hj
      cases hj
      have : j = ls.length := by k_extra "om"
      subst this
      exact ⟨txt, ht, ok, ap, pm, u1, vs, k, hc, fun q hq => List.mem_append_left _ hq⟩
  · refine List.pairwise_append.mpr ⟨i2, List.pairwise_singleton _ _, fun l' hl l'' hl'' => ?_⟩
    cases List.mem_singleton.mp hl''
    intro a ha b hb e
    subst e
    obtain ⟨o, ho⟩ := i3 l' hl a ha
    have := hold _ ho
    rw [hfresh a hb] at this
    cases this
  · rcases List.mem_append.mp hl with hl | hl
    · obtain ⟨o, ho⟩ := i3 l' hl a ha
      exact ⟨o, List.mem_append_right _ ho⟩
    · cases List.mem_singleton.mp hl
      obtain ⟨o, ho⟩ := adr_objs (P := P) (pm := pm) (u1 := u1) (ln := 1) (pbs := []) (pbn := 0) (sgs := vs) (sgn := k) ha
      exact ⟨o, List.mem_append_left _ ho⟩
-- C32
section
theorem lines32 : True := by
  k_with_none
  k_with "in" => first | with_reducible assumption | exact And.left (by with_reducible assumption) | exact And.left (And.right (by with_reducible assumption)) | exact And.left (And.right (And.right (by with_reducible assumption))) | exact And.left (And.right (And.right (And.right (by with_reducible assumption)))) | exact And.left (And.right (And.right (And.right (And.right (by with_reducible assumption))))) | exact And.left (And.right (And.right (And.right (And.right (And.right (by with_reducible assumption)))))) | exact And.left (And.right (And.right (And.right (And.right (And.right (And.right (by with_reducible assumption))))))) | exact And.left (And.right (And.right (And.right (And.right (And.right (And.right (And.right (by with_reducible assumption)))))))) | exact And.left (And.right (And.right (And.right (And.right (And.right (And.right (And.right (And.right (by with_reducible assumption))))))))) | exact And.left (And.right (And.right (And.right (And.right (And.right (And.right (And.right (And.right (And.right (by with_reducible assumption)))))))))) | exact And.left (And.right (And.right (And.right (And.right (And.right (And.right (And.right (And.right (And.right (And.right (by with_reducible assumption))))))))))) | exact And.left (And.right (And.right (And.right (And.right (And.right (And.right (And.right (And.right (And.right (And.right (And.right (by with_reducible assumption)))))))))))) | exact And.left (And.right (And.right (And.right (And.right (And.right (And.right (And.right (And.right (And.right (And.right (And.right (And.right (by with_reducible assumption))))))))))))) | exact And.left (And.right (And.right (And.right (And.right (And.right (And.right (And.right (And.right (And.right (And.right (And.right (And.right (And.right (by with_reducible assumption)))))))))))))) | exact And.left (And.right (And.right (And.right (And.right (And.right (And.right (And.right (And.right (And.right (And.right (And.right (And.right (And.right (And.right (by with_reducible assumption))))))))))))))) | exact And.right (by with_reducible assumption) | exact And.right (And.right (by with_reducible assumption)) | exact And.right (And.right (And.right (by with_reducible assumption))) | exact And.right (And.right (And.right (And.right (by with_reducible assumption)))) | exact And.right (And.right (And.right (And.right (And.right (by with_reducible assumption))))) | exact And.right (And.right (And.right (And.right (And.right (And.right (by with_reducible assumption)))))) | exact And.right (And.right (And.right (And.right (And.right (And.right (And.right (by with_reducible assumption))))))) | exact And.right (And.right (And.right (And.right (And.right (And.right (And.right (And.right (by with_reducible assumption)))))))) | exact And.right (And.right (And.right (And.right (And.right (And.right (And.right (And.right (And.right (by with_reducible assumption))))))))) | exact And.right (And.right (And.right (And.right (And.right (And.right (And.right (And.right (And.right (And.right (by with_reducible assumption)))))))))) | exact And.right (And.right (And.right (And.right (And.right (And.right (And.right (And.right (And.right (And.right (And.right (by with_reducible assumption))))))))))) | exact And.right (And.right (And.right (And.right (And.right (And.right (And.right (And.right (And.right (And.right (And.right (And.right (by with_reducible assumption)))))))))))) | exact And.right (And.right (And.right (And.right (And.right (And.right (And.right (And.right (And.right (And.right (And.right (And.right (And.right (by with_reducible assumption))))))))))))) | exact And.right (And.right (And.right (And.right (And.right (And.right (And.right (And.right (And.right (And.right (And.right (And.right (And.right (And.right (by with_reducible assumption))))))))))))))
  k_with "lt0" => first | with_reducible assumption | exact Nat.lt_trans (by with_reducible assumption) (by k_extra "lt0")
  k_with "lt" => first | k_extra "in" | exact Nat.lt_trans (by k_extra "in") (by k_extra "lt")
  k_with "ne0" => first | with_reducible assumption | exact Ne.symm (by with_reducible assumption) | exact Nat.succ_ne_self _ | exact Ne.symm (Nat.succ_ne_self _) | (refine Nat.ne_of_lt ?_; k_extra "lt0") | (refine Nat.ne_of_gt ?_; k_extra "lt0")
  k_with "ne1" => first | k_extra "in" | (refine Ne.symm ?_; k_extra "in") | (refine Nat.ne_of_lt ?_; k_extra "lt") | (refine Nat.ne_of_gt ?_; k_extra "lt")
  k_with "ne2" => first | (refine Nat.ne_of_lt ?_; k_extra "lt0") | (refine Nat.ne_of_gt ?_; k_extra "lt0") | (refine Nat.ne_of_lt (And.left (by with_reducible assumption)))  | (refine Nat.ne_of_gt (And.left (by with_reducible assumption))) | (refine Nat.ne_of_lt (Nat.lt_trans (And.right (by with_reducible assumption)) ?_); k_extra "lt0") | (refine Nat.ne_of_lt (And.right (by with_reducible assumption))) | (refine Nat.ne_of_gt (Nat.lt_trans ?_ (And.left (by with_reducible assumption))); k_extra "lt0")
  k_with "ne" => first | k_extra "ne0" | (refine Or.elim (by with_reducible assumption : @LT.lt Nat _ _ _ ∨ @LT.lt Nat _ _ _ ∧ @LT.lt Nat _ _ _) (fun q9 => ?_) (fun q9 => ?_); (all_goals k_extra "ne2")) | k_extra "ne1"
  k_with "ifs" => first | with_reducible rfl | exact Eq.trans (if_neg (by assumption)) (by k_extra "ifs")
  k_with "up" => first | exact up2 (by with_reducible assumption) rfl | exact up1 (by with_reducible assumption) rfl | exact up3 (by with_reducible assumption) rfl | exact up4 (by with_reducible assumption) rfl | exact up5 (by with_reducible assumption) rfl
  k_with "om" => first | with_reducible assumption | exact Nat.succ_pos _ | (with_reducible show @LT.lt Nat _ _ _; (try dsimp only); first | k_extra "lt0" | k_extra "up" | k_extra "lt") | (with_reducible show @Ne Nat _ _; k_extra "ne") | (with_reducible show @LT.lt Nat _ _ _ ∧ @LT.lt Nat _ _ _; refine And.intro ?_ ?_ <;> k_extra "om") | (with_reducible show @Eq Nat _ _; first | exact Nat.add_sub_add_right 6 1 _ | exact (Nat.add_sub_add_right 6 1 _).symm | exact Nat.succ_sub (by omega) | exact (Nat.succ_sub (by omega)).symm | exact Nat.sub_sub_self (by omega)) | omega
  k_with "k_room" => first | k_extra "up" | ((try simp only [depth_under_make, depth_under_kw, depth_in1, depth_deeper, depth_caller]); omega)
  k_with "tb_start" => first | assumption | omega | (simp only [List.length_cons, List.length_nil, List.length_append]; omega)
  k_with "tb_rel" => repeat' (first | exact List.forall_mem_nil _ | refine List.forall_mem_cons.mpr ⟨by first | exact Or.inr (by k_mem) | exact Or.inl (by simp), ?_⟩)
  k_with "k_units" => first | k_extra "up" | ((try simp only [units_in1, units_deeper, Around.mark_units, units_caller]); omega)
  k_with "call type:list" => (k_here; (with_reducible show wpAny _ _ (call (Value.type "list") [Value.str _ _]) _ _ _); k_dflt (refine' list_strN ?h ?F ?N ?z ?_; (case h => rfl); (case F => k_asm); (case N => k_asm); (case z => exact Nat.le_trans (by assumption) (Nat.le_of_ble_eq_true rfl)); k_whole); intro l₉ h₉ tk₉ vs₉ k₉ F₉ N₉ l1₉ hc₉; (try k_lt l1₉); (try k_sweep))
  k_with "truthy ref" => (k_here; k_dflt (refine' truthy_ls ?N ?m ?z ?_; (case N => k_asm); (case m => k_mem); (case z => tb_start)); (intro tk₉; (try dsimp only [List.isEmpty_cons, List.isEmpty_nil, Bool.not_false, Bool.not_true])))
  k_with "call builtin:list.pop" => (k_here; (with_reducible show wpAny _ _ (call (Value.builtin "list.pop") [Value.ref _, Value.int 0 _]) _ _ _); k_dflt (refine' pop0_N ?F ?N ?U ?z ?_; (case F => k_asm); (case N => k_asm); (case U => k_upd); (case z => tb_start)); (intro h₉ F₉ N₉; (try k_sweep)))
  k_with "call builtin:list.append" => (k_here; (with_reducible show wpAny _ _ (call (Value.builtin _) [Value.ref _, _]) _ _ _); k_dflt (refine' append_ls ?F ?N ?U ?z ?_; (case F => k_asm); (case N => k_asm); (case U => k_upd); (case z => tb_start)); (intro h₉ F₉ N₉; (try k_sweep)))
  k_with "exec For Name Name cons nil" => refine Stop.go ?_
  k_with "exec For Name Call cons nil" => refine Stop.go ?_
  k_with "pyIter ref" => refine Stop.go ?_
  k_with "call ref" => ((with_reducible show wpAny _ _ (call (Value.ref 142) _) _ _ _); refine Stop.go ?_)
  k_with "call ref" => ((with_reducible show wpAny _ _ (call (Value.ref 149) _) _ _ _); refine Stop.go ?_)
  k_with "compareOp In int ref" => (k_dflt (refine' in_gr ?F ?l ?i ?_; (case F => k_asm); (case l => with_reducible assumption); (case i => with_reducible assumption)))
  k_with "subscriptTail Name Name ref int" => ((with_reducible show wpAny _ _ (subscriptTail _ _ (Value.ref _) (Value.int _ _)) _ _ _); k_dflt (refine' item_gr ?F ?l ?h0 ?h1 ?hx ?_ ?hs; (case F => k_asm); (case l => with_reducible assumption); (case h0 => k_extra "om"); (case h1 => k_extra "om"); (case hx => with_reducible assumption); (case hs => with_unfolding_all rfl)))
  exact True.intro
local macro_rules | `(tactic| k_all) => `(tactic| with_reducible assumption)
section
variable {w : World} {p : Program} {loose : List Str} {mean : ExcName → Option Value} {mg mb : Str → Option Value} {d u : Nat} {gd : Option (List Code)} {outs : List Env} {env : Env} {base g : Heap} {s : Shared} {R : Result → Shared → Prop} {A₀ : Around} {L I lv : Addr} {m : Names} {o ov tab : Obj} {nw : Led} {ls : List Lex} {Tx : Nat → Str → Prop}
theorem lex_call {text : Str} {t1 : Tok} (B : Below A₀ base outs g) (X : (hd.heap_39 w.params).In g) (T : Top p loose mean mg mb g) (hdp : d + 12 < recursionLimit) (hu : u + 120 < cLine) (hf : env.frame = some L) (hke : env.scope.kind = .function) (Cd : CodeHd base 148 144) (hlen : text.length ≤ 1000)
    (F : Fr g L s.heap m) (N : News g L s.heap ((I, o) :: (lv, ov) :: (144, tab) :: nw)) (hI4 : @Ne Nat I 144) (hl4 : @Ne Nat lv 144) (hTab : TabOk tab nw ls) (hInv : BoxInv w.params Tx nw ls) (ht : Tx ls.length text)
    (h : ∀ l tab' nw' h' tk', Fr g L h' m → News g L h' ((I, o) :: (lv, ov) :: (144, tab') :: nw') → TabOk tab' nw' (ls ++ [l]) → BoxInv w.params Tx nw' (ls ++ [l]) → (∀ q ∈ nw', q ∈ nw ∨ s.heap.get? q.1 = none) → R (.ok (.ret (.ref l.x))) { s with heap := h', toks := tk' }) :
    codeAny (model PySem.Challenge.rw_wn0047_01.row.prog w) (AT d u gd (env :: outs)) (.call (.ref 149) ⟨[.str text t1], []⟩) R s := by
  refine call_ownC B F X T N rfl hf hke fun h9 B9 X9 T9 s9 N0 => ?_
  have gN : ∀ a, s.heap.get? a = none → a ≠ L ∧ g.get? a = none := fun a e => by
    refine ⟨fun q => ?_, ?_⟩
    · obtain ⟨oL, _, _, hL, _⟩ := F.ns
      rw [q, hL] at e; cases e
    · cases q : g.get? a with
      | none => rfl
      | some o' => have := F.keep _ _ q; rw [e] at this; cases this
  have hm4 : (144, tab) ∈ ((I, o) :: (lv, ov) :: (144, tab) :: nw : Led) := .tail _ (.tail _ (.head _))
  rcases hTab with ⟨rfl, rfl, rfl⟩ | ⟨ct, oc, rfl, hoc, hct, hall⟩
  · refine lexer_spec1 B9 X9 T9 s9 (by k_extra "om") (by k_extra "om") (own_sub N0 fun q hq => by cases List.mem_singleton.mp hq; exact hm4) Cd hlen fun l pm u1 vs k h8 tk8 k9 ok ap hc h144 hobj => ?_
    have F8 := fr_keeps F k9 (fun a hq => by cases List.mem_singleton.mp hq; exact (N _ hm4).2)
    refine h l _ (l.objs w.params pm u1 1 [] 0 vs k ++ []) h8 tk8 F8 ?_ (.inr ⟨l.ct, l.oc, rfl, ok.code, List.mem_append_left _ (by k_mem), fun l' hl' => by cases List.mem_singleton.mp hl'; exact ⟨rfl, rfl⟩⟩)
      (boxInv_snoc hInv ht hc ok ap (fun q hq => nomatch hq) fun a ha => by
        obtain ⟨oa, hoa⟩ := adr_objs (P := w.params) (pm := pm) (u1 := u1) (ln := 1) (pbs := []) (pbn := 0) (sgs := vs) (sgn := k) ha
        exact (hobj _ hoa).2) ?_
    · intro q hq
      rcases List.mem_cons.mp hq with rfl | hq
      · exact ⟨k9 _ _ (fun z => hI4 (List.mem_singleton.mp z)) (N _ (.head _)).1, (N _ (.head _)).2⟩
      rcases List.mem_cons.mp hq with rfl | hq
      · exact ⟨k9 _ _ (fun z => hl4 (List.mem_singleton.mp z)) (N _ (.tail _ (.head _))).1, (N _ (.tail _ (.head _))).2⟩
      rcases List.mem_cons.mp hq with rfl | hq
      · exact ⟨h144, (N _ hm4).2⟩
      · rw [List.append_nil] at hq
        exact ⟨(hobj q hq).1, gN _ (hobj q hq).2⟩
    · intro q hq
      rw [List.append_nil] at hq
      exact .inr (hobj q hq).2
  · refine lexer_spec2 B9 X9 T9 s9 (by k_extra "om") (by k_extra "om") (own_sub N0 fun q hq => by
      rcases List.mem_cons.mp hq with rfl | hq
      · exact hm4
      · cases List.mem_singleton.mp hq
        exact .tail _ (.tail _ (.tail _ hct))) Cd hlen hoc fun l pm u1 vs k h8 tk8 k9 ok ap hc e1 e2 hobj => ?_
    have F8 := fr_keeps F k9 (fun a hq => nomatch hq)
    have N8 := news_keeps0 N k9
    have hobj' : ∀ q ∈ l.objs w.params pm u1 1 [] 0 vs k, h8.get? q.1 = some q.2 ∧ q.1 ≠ L ∧ g.get? q.1 = none := fun q hq => by
      refine ⟨(hobj q hq).1, ?_⟩
      rcases (hobj q hq).2 with z | z
      · exact gN _ z
      · rw [z]; exact (N _ (.tail _ (.tail _ (.tail _ hct)))).2
    have hsame : ∀ q ∈ l.objs w.params pm u1 1 [] 0 vs k, q.1 = ct → q = (ct, oc) := fun q hq z => by
      have h1 := (hobj q hq).1
      have h2 := (N8 _ (.tail _ (.tail _ (.tail _ hct)))).1
      obtain ⟨qa, qo⟩ := q
      dsimp only at z h1
      subst z
      rw [h1] at h2
      cases h2
      rfl
    refine h l _ (l.objs w.params pm u1 1 [] 0 vs k ++ nw) h8 tk8 F8 ?_ (.inr ⟨ct, oc, rfl, hoc, List.mem_append_right _ hct, fun l' hl' => by
        rcases List.mem_append.mp hl' with hl' | hl'
        · exact hall l' hl'
        · cases List.mem_singleton.mp hl'
          exact ⟨e1, e2⟩⟩)
      (boxInv_snoc hInv ht hc ok ap (fun q hq => (N _ (.tail _ (.tail _ (.tail _ hq)))).1) fun a ha => by
        obtain ⟨oa, hoa⟩ := adr_objs (P := w.params) (pm := pm) (u1 := u1) (ln := 1) (pbs := []) (pbn := 0) (sgs := vs) (sgn := k) ha
        rcases (hobj _ hoa).2 with z | z
        · exact z
        · have z' : a = ct := z
          rw [z', ← e1] at ha
          exact absurd ha (ct_not_adr ap)) ?_
    · intro q hq
      rcases List.mem_cons.mp hq with rfl | hq
      · exact N8 _ (.head _)
      rcases List.mem_cons.mp hq with rfl | hq
      · exact N8 _ (.tail _ (.head _))
      rcases List.mem_cons.mp hq with rfl | hq
      · exact N8 _ hm4
      rcases List.mem_append.mp hq with hq | hq
      · exact hobj' q hq
      · exact N8 _ (.tail _ (.tail _ (.tail _ hq)))
    · intro q hq
      rcases List.mem_append.mp hq with hq | hq
      · rcases (hobj q hq).2 with z | z
        · exact .inr z
        · rw [hsame q hq z]; exact .inl hct
      · exact .inl hq
end
/-- what holds between two boxes -/
inductive BoxesA (P : Params) (T : Nat → Str → Prop) (lv nl sl fl : Addr) (i : Nat) (m : Names) (news : Led) : Prop
  | mk (ls : List Lex) (tab : Obj) (nw : Led) (nn : Nat) (v1 v2 v3 : Option Value) (h1 : ls.length = i) (h2 : TabOk tab nw ls) (h3 : BoxInv P T nw ls) (h4 : (∀ q ∈ nw, q.1 ≠ 144 ∧ q.1 ≠ lv)) (h5 : m = (fun y => if y = Str.ofString "node" then v1 else if y = Str.ofString "sender" then v2 else if y = Str.ofString "text" then v3 else if y = Str.ofString "boxes" then some (Value.ref lv) else List.lookup y [(Str.ofString "names", Value.ref nl), (Str.ofString "seeds", Value.ref sl), (Str.ofString "first", Value.ref fl)].reverse)) (h6 : news = (lv, lsO (ls.map fun l : Lex => .ref l.x) nn) :: (144, tab) :: nw) : BoxesA P T lv nl sl fl i m news
section
variable {w : World} {p : Program} {loose : List Str} {mean : ExcName → Option Value} {mg mb : Str → Option Value} {dp un : Nat} {gd : Option (List Code)} {outs : List Env} {base h₀ : Heap} {s : Shared} {R : Result → Shared → Prop}
  (B : Below (AT dp un gd outs) base outs h₀) (X : (hd.heap_39 w.params).In h₀) (T : Top p loose mean mg mb h₀) (st : h₀.StaysIn s.heap) (hdp : dp + 18 < recursionLimit) (hu : un + 180 < cLine)
include B X T st hdp hu
theorem boxes_spec {nl sl fl : Addr} {nvs svs fvs : List Value} {nm : Nat → Str} {sis fis : List Int} (hnl : h₀.IsList nl nvs.toArray) (hn : ∀ k, k < 5 → ∃ t, nvs[k]? = some (.str (nm k) t)) (hgood : ∀ k, k < 5 → GoodNm (nm k) k)
    (hsl : h₀.IsList sl svs.toArray) (hsI : IntsAre svs sis) (hsn : 5 ≤ sis.length) (hfl : h₀.IsList fl fvs.toArray) (hfI : IntsAre fvs fis) (N : Own h₀ s.heap [(144, tabObj #[])]) (Cd : CodeHd base 148 144)
    (hret : ∀ b ls nw tab k h' tk', Keeps [144] s.heap h' → h'.get? b = some (lsO (ls.map fun l : Lex => .ref l.x) k) → s.heap.get? b = none → ls.length = 5 → TabOk tab nw ls → h'.get? 144 = some tab → BoxInv w.params (TextOk nm fis) nw ls → (∀ q ∈ nw, h'.get? q.1 = some q.2 ∧ s.heap.get? q.1 = none ∧ q.1 ≠ b) → R (.ok (.ret (.ref b))) { s with heap := h', toks := tk' }) :
    codeAny (model PySem.Challenge.rw_wn0047_01.row.prog w) (AT dp un gd outs) (.call (.ref 156) ⟨[.ref nl, .ref sl, .ref fl], []⟩) R s := by
  revert X; k_fill; intro X
  have hnl' : Heap.IsList (hideAll s.heap (List.map (fun x => x.1) ([(144, tabObj #[])] : List (Addr × Obj)))) nl nvs.toArray := hnl.at fun o e => (own_hide B st N).1 _ _ e
  have hsl' : Heap.IsList (hideAll s.heap (List.map (fun x => x.1) ([(144, tabObj #[])] : List (Addr × Obj)))) sl svs.toArray := hsl.at fun o e => (own_hide B st N).1 _ _ e
  have hfl' : Heap.IsList (hideAll s.heap (List.map (fun x => x.1) ([(144, tabObj #[])] : List (Addr × Obj)))) fl fvs.toArray := hfl.at fun o e => (own_hide B st N).1 _ _ e
  k_dflt (refine' enter (binds := [(Str.ofString "names", Value.ref nl), (Str.ofString "seeds", Value.ref sl), (Str.ofString "first", Value.ref fl)]) B X T st N ?k6 ?k7 ?k8 ?k9 ?kB ?_ ?c2 ?c3 ?c4 ?c5; (case k6 => k_is); (case k7 => k_is); (case k8 => k_room); (case k9 => exact BindsTo.of_eq rfl); (case c5 => decide); (case kB => exact locs rfl); (case c2 => exact rfl); (case c3 => exact rfl); (case c4 => exact rfl))
  intro g L' h₁ tk gh F' N' B' X' T' l1
  (try k_lt l1)
  rw [← gh] at hnl' hsl' hfl'
  k_steps
  unfold Stop
  refine wpAny_For ?_
  k_steps
  unfold Stop
  rename IsRange _ _ _ _ _ _ _ _ => hR
  (rename News _ _ _ _ => N1)
  (rename Fr _ _ _ _ => F1)
  obtain ⟨lv, hlv⟩ : ∃ x, x = ledA N1 := ⟨_, rfl⟩
  dsimp only [ledA] at hlv
  subst hlv
  refine pyForRng (Inv := fun g' i m news => g' = g ∧ BoxesA w.params (TextOk nm fis) lv nl sl fl i m news) 5 rfl hR (by k_extra "om") (fr_set3 (Str.ofString "node") (Str.ofString "sender") (Str.ofString "text") F1 (fun _ _ _ _ => rfl)) N1 ⟨rfl, [], _, [], 0, _, _, _, rfl, .inl ⟨rfl, rfl, rfl⟩, ⟨fun j l hj => by simp at hj, .nil, fun l hl => nomatch hl⟩, fun q hq => (nomatch hq), rfl, rfl⟩ ?turn ?fin
  case turn =>
    intro I hlt i g9 m news h tk Nx Dn Rt E hi hV hne F N hN
    obtain ⟨rfl, ls, tab, nw, nn, v1, v2, v3, hll, hTab, hInv, hof, rfl, rfl⟩ := hV
    clear F1 N1 hR
    have hlI : @Ne Nat lv I := hne (lv, _) (.head _)
    have h4I : @Ne Nat 144 I := hne (144, tab) (.tail _ (.head _))
    have f0 : 0 ≤ Int.fmod ((i : Int) - 1) 5 := Int.fmod_nonneg_of_pos _ (by k_extra "om")
    have f1 : Int.fmod ((i : Int) - 1) 5 < 5 := Int.fmod_lt_of_pos _ (by k_extra "om")
    obtain ⟨tn, hx1⟩ := hn (Int.fmod ((i : Int) - 1) 5).toNat (by k_extra "om")
    obtain ⟨sy, ty, hx2, -⟩ := IntsAre.at' hsI (k := (Int.fmod ((i : Int) - 1) 5).toNat) (by have := intsLen hsI; omega)
    have hgd := hgood (Int.fmod ((i : Int) - 1) 5).toNat (by k_extra "om")
    have hnl3 : (nm (Int.fmod ((i : Int) - 1) 5).toNat).length ≤ 3 := by have := (let_facts hgd true).nlen; omega
    k_steps
    · unfold Stop
      rename Int.fmod ((i : Int) - 1) 5 ∈ fis => hmem
      refine wpAny_call ?_
      (rename News _ _ _ _ => N9)
      (rename Fr _ _ _ _ => F9)
      refine call_ownC B' F9 X' T' N9 rfl rfl rfl fun h9 B9 X9 T9 s9 N0 => ?_
      refine text_spec B9 X9 T9 s9 (by k_room) (by k_units) (own_sub N0 (fun _ q => nomatch q)) hnl3 fun b1 b2 t8 h8 tk8 k9 => ?_
      have F8 := fr_keeps F9 k9 (fun _ q => nomatch q)
      have N8 := news_keeps0 N9 k9
      clear F9 N9 k9 N0 B9 X9 T9 s9
      dsimp only
      k_steps
      unfold Stop
      refine wpAny_call ?_
      (rename News _ _ _ _ => N9)
      (rename Fr _ _ _ _ => F9)
      refine lex_call (Tx := TextOk nm fis) (d := dp + 1) (u := un + 3) B' X' T' (by k_extra "om") (by k_extra "om") rfl rfl Cd (textB_len hgd b1 b2) F9 N9 (by k_extra "om") (by k_extra "om") hTab hInv (.inl ⟨by rw [hll]; exact hmem, b1, b2, by rw [hll]; rfl⟩) fun l tab' nw' h8 tk8 F8 N8 hTab8 hInv8 hfr8 => ?_
      have hof9 : ∀ q ∈ nw', q.1 ≠ 144 ∧ q.1 ≠ lv := fun q hq => by
        rcases hfr8 q hq with z | z
        · exact hof q z
        · refine ⟨fun e => ?_, fun e => ?_⟩
          · rw [e, (N9 _ (.tail _ (.tail _ (.head _)))).1] at z
            cases z
          · rw [e, (N9 _ (.tail _ (.head _))).1] at z
            cases z
      have hofI : ∀ q ∈ nw', q.1 ≠ I := fun q hq => by
        rcases hfr8 q hq with z | z
        · exact hne q (.tail _ (.tail _ z))
        · intro e
          rw [e, (N9 _ (.head _)).1] at z
          cases z
      have hof8 : ∀ q ∈ nw', q.1 ≠ lv := fun q hq => (hof9 q hq).2
      clear F9 N9
      dsimp only
      k_steps
      (rename News _ _ _ _ => N9)
      (rename Fr _ _ _ _ => F9)
      simp only [List.push_toArray] at N9
      refine hN _ _ _ _ _ ⟨rfl, ls ++ [l], tab', nw', nn + 1, _, _, _, by rw [List.length_append, hll]; rfl, hTab8, hInv8, hof9, rfl, rfl⟩ (List.forall_mem_cons.mpr ⟨hlI, List.forall_mem_cons.mpr ⟨h4I, hofI⟩⟩) (fr_set4 (Str.ofString "node") (Str.ofString "sender") (Str.ofString "text") (Str.ofString "boxes") F9 (fun y h1 h2 h3 h4 => by k_extra "ifs")) ?_
      rw [List.map_append]
      exact N9
    · rename ¬ Int.fmod ((i : Int) - 1) 5 ∈ fis => hmem
      unfold Stop
      refine wpAny_call ?_
      (rename News _ _ _ _ => N9)
      (rename Fr _ _ _ _ => F9)
      refine lex_call (Tx := TextOk nm fis) (d := dp + 1) (u := un + 3) B' X' T' (by k_extra "om") (by k_extra "om") rfl rfl Cd (Nat.le_of_ble_eq_true rfl) F9 N9 (by k_extra "om") (by k_extra "om") hTab hInv (.inr ⟨by rw [hll]; exact hmem, rfl⟩) fun l tab' nw' h8 tk8 F8 N8 hTab8 hInv8 hfr8 => ?_
      have hof9 : ∀ q ∈ nw', q.1 ≠ 144 ∧ q.1 ≠ lv := fun q hq => by
        rcases hfr8 q hq with z | z
        · exact hof q z
        · refine ⟨fun e => ?_, fun e => ?_⟩
          · rw [e, (N9 _ (.tail _ (.tail _ (.head _)))).1] at z
            cases z
          · rw [e, (N9 _ (.tail _ (.head _))).1] at z
            cases z
      have hofI : ∀ q ∈ nw', q.1 ≠ I := fun q hq => by
        rcases hfr8 q hq with z | z
        · exact hne q (.tail _ (.tail _ z))
        · intro e
          rw [e, (N9 _ (.head _)).1] at z
          cases z
      have hof8 : ∀ q ∈ nw', q.1 ≠ lv := fun q hq => (hof9 q hq).2
      clear F9 N9
      dsimp only
      k_steps
      (rename News _ _ _ _ => N9)
      (rename Fr _ _ _ _ => F9)
      simp only [List.push_toArray] at N9
      refine hN _ _ _ _ _ ⟨rfl, ls ++ [l], tab', nw', nn + 1, _, _, _, by rw [List.length_append, hll]; rfl, hTab8, hInv8, hof9, rfl, rfl⟩ (List.forall_mem_cons.mpr ⟨hlI, List.forall_mem_cons.mpr ⟨h4I, hofI⟩⟩) (fr_set4 (Str.ofString "node") (Str.ofString "sender") (Str.ofString "text") (Str.ofString "boxes") F9 (fun y h1 h2 h3 h4 => by k_extra "ifs")) ?_
      rw [List.map_append]
      exact N9
  case fin =>
    intro g9 m news h tk hV FF NN
    obtain ⟨rfl, ls, tab, nw, nn, v1, v2, v3, hll, hTab, hInv, hof, rfl, rfl⟩ := hV
    clear F1 N1 hR
    k_steps
    refine hret lv ls nw tab _ h _ (keeps_as gh N FF NN (by tb_rel)) (NN.get (.head _)) (new_of gh NN (.head _) (notin1 (by k_extra "om"))) hll hTab (NN.get (.tail _ (.head _))) hInv fun q hq => ⟨(NN _ (.tail _ (.tail _ hq))).1, new_of gh NN (.tail _ (.tail _ hq)) (fun e => (hof q hq).1 (List.mem_singleton.mp e)), (hof q hq).2⟩
end
end
-- R1
/-- the told letter -/
noncomputable def toldS (x : Str) (s : Nat) : Str := (((Str.ofString "229 told (" ++ Txt.mul (Txt.item x 0) 3) ++ Txt.item (Str.ofString "01234") (s : Int)) ++ Txt.item x 0) ++ Str.ofString ")"
noncomputable def strL (nm : Nat → Str) : Lt → Str
  | .nm s v => letB (nm s) v
  | .td s => toldS (nm s) s
noncomputable def SrcOk (nm : Nat → Str) (sgs : List Value) : Option Lt → Prop
  | some (.nm s v) => ∃ b2, CharsAre sgs (textB (nm s) v b2).cps.toList
  | some (.td _) => False
  | none => sgs = [] ∨ CharsAre sgs [32]
noncomputable def PendOk (nm : Nat → Str) (pbs : List Value) (xs : List Lt) : Prop := All2 (fun v x => ∃ t, v = Value.str (strL nm x) t) pbs xs
inductive BoxOk (P : Params) (nm : Nat → Str) (l : Lex) (led : Led) (b : AB) : Prop
  | mk (pm : Value) (u1 : Tok) (ln : Int) (pbs : List Value) (pbn : Nat) (sgs : List Value) (sgn : Nat) (m1 : ∀ q ∈ l.objs P pm u1 ln pbs pbn sgs sgn, q ∈ led) (m2 : PendOk nm pbs b.pend) (m3 : SrcOk nm sgs b.src) : BoxOk P nm l led b
/-- where the run's things lie -/
structure RunP where
  (ls : List Lex) (nm : Nat → Str) (rT rH : Nat → Addr) (tO hO : Addr)
noncomputable def RunP.rows (Z : RunP) : List Addr := [Z.rT 0, Z.rT 1, Z.rT 2, Z.rT 3, Z.rT 4, Z.rH 0, Z.rH 1, Z.rH 2, Z.rH 3, Z.rH 4, Z.tO, Z.hO]
structure RunP.Ok (Z : RunP) : Prop where
  len : Z.ls.length = 5
  lex : ∀ l ∈ Z.ls, l.Ok ∧ l.Apart
  far : Z.ls.Pairwise Far
  ct : ∀ l ∈ Z.ls, ∀ l' ∈ Z.ls, l.ct = l'.ct
  rows : Z.rows.Nodup
  off : ∀ l ∈ Z.ls, ∀ a ∈ l.adr, a ∉ Z.rows
  offct : ∀ l ∈ Z.ls, l.ct ∉ Z.rows
  good : ∀ k, k < 5 → GoodNm (Z.nm k) k
structure LedOk (P : Params) (Z : RunP) (S : ASt) (led : Led) : Prop where
  box : ∀ k, k < 5 → ∃ l, Z.ls[k]? = some l ∧ BoxOk P Z.nm l led (S.bx k)
  tk : ∀ k, k < 5 → ∃ vs n, (Z.rT k, lsO vs n) ∈ led ∧ All2 (fun v s => ∃ t, v = Value.str (Z.nm s) t) vs (S.tk k)
  hd : ∀ k, k < 5 → ∃ vs n, (Z.rH k, lsO vs n) ∈ led ∧ All2 (fun v (s : Nat) => ∃ a t1 t2 n, v = Value.ref a ∧ (a, tuO [.str (Z.nm k) t1, .int (s : Int) t2] n) ∈ led) vs (S.hd k)
  tO : ∃ n, (Z.tO, lsO [.ref (Z.rT 0), .ref (Z.rT 1), .ref (Z.rT 2), .ref (Z.rT 3), .ref (Z.rT 4)] n) ∈ led
  hO : ∃ n, (Z.hO, lsO [.ref (Z.rH 0), .ref (Z.rH 1), .ref (Z.rH 2), .ref (Z.rH 3), .ref (Z.rH 4)] n) ∈ led
  snd : ∀ k, k < 5 → ∀ x ∈ (S.bx k).letters, x.snd < 5
/-- a ledger with what lies at these addresses put anew -/
noncomputable def updL (led : Led) (as : List Addr) (f : Addr → Obj) : Led := led.map fun p => if p.1 ∈ as then (p.1, f p.1) else p
theorem updL_keep {led : Led} {as : List Addr} {f : Addr → Obj} {a : Addr} {o : Obj} (h : (a, o) ∈ led) (ha : a ∉ as) : (a, o) ∈ updL led as f := List.mem_map.mpr ⟨(a, o), h, if_neg ha⟩
theorem updL_new {led : Led} {as : List Addr} {f : Addr → Obj} {a : Addr} {o : Obj} (h : (a, o) ∈ led) (ha : a ∈ as) : (a, f a) ∈ updL led as f := List.mem_map.mpr ⟨(a, o), h, if_pos ha⟩
theorem news_updL {g h h' : Heap} {L : Addr} {led : Led} {as : List Addr} {f : Addr → Obj} (N : News g L h led) (k : Keeps as h h') (hf : ∀ a ∈ as, h'.get? a = some (f a)) : News g L h' (updL led as f) := by
  intro q hq
  obtain ⟨p, hp, rfl⟩ := List.mem_map.mp hq
  by_cases ha : p.1 ∈ as
  · rw [if_pos ha]
    exact ⟨hf _ ha, (N p hp).2⟩
  · rw [if_neg ha]
    exact ⟨k _ _ ha (N p hp).1, (N p hp).2⟩
theorem updL_offs {led : Led} {as : List Addr} {f : Addr → Obj} {P : Addr → Prop} (h : ∀ p ∈ led, P p.1) : ∀ p ∈ updL led as f, P p.1 := by
  intro q hq
  obtain ⟨p, hp, rfl⟩ := List.mem_map.mp hq
  split
  · exact h p hp
  · exact h p hp
theorem objs_adr {P : Params} {l : Lex} {pm : Value} {u1 : Tok} {ln : Int} {pbs sgs : List Value} {pbn sgn : Nat} : ∀ q ∈ l.objs P pm u1 ln pbs pbn sgs sgn, q.1 ∈ l.adr ∨ q.1 = l.ct := by
  intro q hq
  unfold Lex.adr
  dsimp only [Lex.objs] at hq
  rcases List.mem_cons.mp hq with rfl | hq
  · exact .inl (by k_mem)
  rcases List.mem_cons.mp hq with rfl | hq
  · exact .inl (by k_mem)
  rcases List.mem_cons.mp hq with rfl | hq
  · exact .inl (by k_mem)
  rcases List.mem_cons.mp hq with rfl | hq
  · exact .inl (by k_mem)
  rcases List.mem_cons.mp hq with rfl | hq
  · exact .inl (by k_mem)
  rcases List.mem_cons.mp hq with rfl | hq
  · exact .inl (by k_mem)
  rcases List.mem_cons.mp hq with rfl | hq
  · exact .inl (by k_mem)
  rcases List.mem_cons.mp hq with rfl | hq
  · exact .inr rfl
  · cases List.mem_singleton.mp hq
    exact .inl (by k_mem)
/-- a box that the change does not meet -/
theorem box_keep {P : Params} {nm : Nat → Str} {l : Lex} {led : Led} {b : AB} {as : List Addr} {f : Addr → Obj} (h : BoxOk P nm l led b) (h1 : ∀ a ∈ l.adr, a ∉ as) (h2 : l.ct ∉ as) : BoxOk P nm l (updL led as f) b := by
  obtain ⟨pm, u1, ln, pbs, pbn, sgs, sgn, m1, m2, m3⟩ := h
  refine ⟨pm, u1, ln, pbs, pbn, sgs, sgn, fun q hq => updL_keep (m1 q hq) ?_, m2, m3⟩
  rcases objs_adr q hq with z | z
  · exact h1 _ z
  · rw [z]; exact h2
theorem far_get {ls : List Lex} (h : ls.Pairwise Far) {j k : Nat} {l l' : Lex} (hj : ls[j]? = some l) (hk : ls[k]? = some l') (hne : j ≠ k) : ∀ a ∈ l.adr, a ∉ l'.adr := by
  intro a ha hb
  obtain ⟨hj1, rfl⟩ := List.getElem?_eq_some_iff.mp hj
  obtain ⟨hk1, rfl⟩ := List.getElem?_eq_some_iff.mp hk
  rcases Nat.lt_or_gt_of_ne hne with h1 | h1
  · exact List.pairwise_iff_getElem.mp h j k hj1 hk1 h1 a ha a hb rfl
  · exact List.pairwise_iff_getElem.mp h k j hk1 hj1 h1 a hb a ha rfl
theorem ct_off {Z : RunP} (O : Z.Ok) {l l' : Lex} (hl : l ∈ Z.ls) (hl' : l' ∈ Z.ls) : l.ct ∉ l'.adr := by
  rw [O.ct l hl l' hl']
  exact ct_not_adr (O.lex l' hl').2
theorem one_obj {g h : Heap} {L a : Addr} {led : Led} {o o' : Obj} (N : News g L h led) (h1 : (a, o) ∈ led) (h2 : (a, o') ∈ led) : o = o' := by
  have e1 := (N _ h1).1
  have e2 := (N _ h2).1
  rw [e1] at e2
  exact Option.some.inj e2
theorem rows_T {Z : RunP} {k : Nat} (hk : k < 5) : Z.rows[k]? = some (Z.rT k) := by
  rcases five hk with rfl | rfl | rfl | rfl | rfl <;> rfl
theorem rows_H {Z : RunP} {k : Nat} (hk : k < 5) : Z.rows[5 + k]? = some (Z.rH k) := by
  rcases five hk with rfl | rfl | rfl | rfl | rfl <;> rfl
theorem mem_rows_T {Z : RunP} {k : Nat} (hk : k < 5) : Z.rT k ∈ Z.rows := List.mem_of_getElem? (rows_T hk)
theorem mem_rows_H {Z : RunP} {k : Nat} (hk : k < 5) : Z.rH k ∈ Z.rows := List.mem_of_getElem? (rows_H hk)
theorem all2_imp {α β : Type} {R R' : α → β → Prop} {as : List α} {bs : List β} (h : All2 R as bs) (hi : ∀ a b, R a b → R' a b) : All2 R' as bs := by
  induction h with
  | nil => exact .nil
  | cons h1 _ ih => exact .cons (hi _ _ h1) ih
theorem all2_snoc {α β : Type} {R : α → β → Prop} {as : List α} {bs : List β} {a : α} {b : β} (h : All2 R as bs) (hr : R a b) : All2 R (as ++ [a]) (bs ++ [b]) := by
  induction h with
  | nil => exact .cons hr .nil
  | cons h1 _ ih => exact .cons h1 ih
/-- a change within one box -/
theorem led_box {P : Params} {Z : RunP} {S : ASt} {g h : Heap} {L : Addr} {led : Led} {as : List Addr} {f : Addr → Obj} {k : Nat} {l : Lex} {b' : AB} (O : Z.Ok) (N : News g L h led) (H : LedOk P Z S led) (hk : k < 5) (hl : Z.ls[k]? = some l) (has : ∀ a ∈ as, a ∈ l.adr) (hob : ∀ a ∈ as, ∀ o, (a, o) ∈ led → o.cls ≠ .type "tuple")
    (hb : BoxOk P Z.nm l (updL led as f) b') (hs : ∀ x ∈ b'.letters, x.snd < 5) : LedOk P Z { S with bx := upd S.bx k b' } (updL led as f) := by
  have hlm : l ∈ Z.ls := List.mem_of_getElem? hl
  have nrow : ∀ r ∈ Z.rows, r ∉ as := fun r hr hq => O.off l hlm r (has r hq) hr
  have ntup : ∀ a vs n, (a, tuO vs n) ∈ led → a ∉ as := fun a vs n hm hq => hob a hq _ hm rfl
  refine ⟨fun j hj => ?_, fun j hj => ?_, fun j hj => ?_, ?_, ?_, fun j hj => ?_⟩
  · by_cases e : j = k
    · subst e
      exact ⟨l, hl, by dsimp only; rw [upd_self]; exact hb⟩
    · obtain ⟨l', h1, h2⟩ := H.box j hj
      refine ⟨l', h1, ?_⟩
      dsimp only
      rw [upd_ne e]
      exact box_keep h2 (fun a ha hq => far_get O.far h1 hl e a ha (has a hq)) (fun hq => ct_off O (List.mem_of_getElem? h1) hlm (has _ hq))
  · obtain ⟨vs, n, h1, h2⟩ := H.tk j hj
    exact ⟨vs, n, updL_keep h1 (nrow _ (mem_rows_T hj)), h2⟩
  · obtain ⟨vs, n, h1, h2⟩ := H.hd j hj
    refine ⟨vs, n, updL_keep h1 (nrow _ (mem_rows_H hj)), all2_imp h2 fun v s hv => ?_⟩
    obtain ⟨a, t1, t2, n', rfl, hm⟩ := hv
    exact ⟨a, t1, t2, n', rfl, updL_keep hm (ntup _ _ _ hm)⟩
  · obtain ⟨n, hm⟩ := H.tO
    exact ⟨n, updL_keep hm (nrow _ (by unfold RunP.rows; simp))⟩
  · obtain ⟨n, hm⟩ := H.hO
    exact ⟨n, updL_keep hm (nrow _ (by unfold RunP.rows; simp))⟩
  · dsimp only
    by_cases e : j = k
    · subst e
      rw [upd_self]; exact hs
    · rw [upd_ne e]; exact H.snd j hj
-- R2
theorem str_eta {x : Str} : (⟨x.cps.toList.toArray⟩ : Str) = x := by
  obtain ⟨a⟩ := x
  simp
/-- a box behind a change of its own -/
theorem box_self {P : Params} {nm : Nat → Str} {l : Lex} {led : Led} {pm : Value} {u1 u1' : Tok} {ln ln' : Int} {pbs pbs' sgs sgs' : List Value} {pbn pbn' sgn sgn' : Nat} {as : List Addr} {f : Addr → Obj} {b : AB} (ap : l.Apart) (m : ∀ q ∈ l.objs P pm u1 ln pbs pbn sgs sgn, q ∈ led) (has : ∀ a ∈ as, a = l.sg ∨ a = l.pb ∨ a = l.dx)
    (h1 : (l.sg ∈ as ∧ f l.sg = lsO sgs' sgn') ∨ (l.sg ∉ as ∧ sgs' = sgs ∧ sgn' = sgn)) (h2 : (l.pb ∈ as ∧ f l.pb = lsO pbs' pbn') ∨ (l.pb ∉ as ∧ pbs' = pbs ∧ pbn' = pbn))
    (h3 : (l.dx ∈ as ∧ f l.dx = lexD P l.k1 l.k2 l.k3 l.k4 u1' l.u3 ln' (.ref l.st) (.ref l.pb)) ∨ (l.dx ∉ as ∧ u1' = u1 ∧ ln' = ln)) (hp : PendOk nm pbs' b.pend) (hs : SrcOk nm sgs' b.src) : BoxOk P nm l (updL led as f) b := by
  refine ⟨pm, u1', ln', pbs', pbn', sgs', sgn', fun q hq => ?_, hp, hs⟩
  have not3 : ∀ a : Addr, @Ne Nat a l.sg → @Ne Nat a l.pb → @Ne Nat a l.dx → a ∉ as := fun a e1 e2 e3 hm => by
    rcases has a hm with z | z | z
    · exact e1 z
    · exact e2 z
    · exact e3 z
  obtain ⟨a1, a2, a3, a4, a5, a6, a7, a8⟩ := ap
  dsimp only [Lex.objs] at hq m
  rcases List.mem_cons.mp hq with rfl | hq
  · rcases h1 with ⟨i1, i2⟩ | ⟨i1, rfl, rfl⟩
    · have := updL_new (f := f) (m (l.sg, lsO sgs sgn) (by k_mem)) i1
      rw [i2] at this; exact this
    · exact updL_keep (m _ (by k_mem)) i1
  rcases List.mem_cons.mp hq with rfl | hq
  · rcases h2 with ⟨i1, i2⟩ | ⟨i1, rfl, rfl⟩
    · have := updL_new (f := f) (m (l.pb, lsO pbs pbn) (by k_mem)) i1
      rw [i2] at this; exact this
    · exact updL_keep (m _ (by k_mem)) i1
  rcases List.mem_cons.mp hq with rfl | hq
  · rcases h3 with ⟨i1, i2⟩ | ⟨i1, rfl, rfl⟩
    · have := updL_new (f := f) (m (l.dx, _) (by k_mem)) i1
      rw [i2] at this; exact this
    · exact updL_keep (m _ (by k_mem)) i1
  rcases List.mem_cons.mp hq with rfl | hq
  · exact updL_keep (m _ (by k_mem)) (not3 l.x (by k_extra "om") (by k_extra "om") (by k_extra "om"))
  rcases List.mem_cons.mp hq with rfl | hq
  · exact updL_keep (m _ (by k_mem)) (not3 l.sd (by k_extra "om") (by k_extra "om") (by k_extra "om"))
  rcases List.mem_cons.mp hq with rfl | hq
  · exact updL_keep (m _ (by k_mem)) (not3 l.st (by k_extra "om") (by k_extra "om") (by k_extra "om"))
  rcases List.mem_cons.mp hq with rfl | hq
  · exact updL_keep (m _ (by k_mem)) (not3 l.lam (by k_extra "om") (by k_extra "om") (by k_extra "om"))
  rcases List.mem_cons.mp hq with rfl | hq
  · exact updL_keep (m _ (by k_mem)) (not3 l.ct (by k_extra "om") (by k_extra "om") (by k_extra "om"))
  · cases List.mem_singleton.mp hq
    exact updL_keep (m _ (by k_mem)) (not3 l.cell (by k_extra "om") (by k_extra "om") (by k_extra "om"))
section
variable {w : World} {p : Program} {loose : List Str} {mean : ExcName → Option Value} {mg mb : Str → Option Value} {d u : Nat} {gd : Option (List Code)} {outs : List Env} {env : Env} {base g : Heap} {s : Shared} {R : Result → Shared → Prop} {A₀ : Around} {L I : Addr} {m : Names} {o : Obj} {led : Led} {Z : RunP} {S : ASt}
theorem token_call {k : Nat} {l : Lex} (B : Below A₀ base outs g) (X : (hd.heap_39 w.params).In g) (T : Top p loose mean mg mb g) (hdp : d + 18 < recursionLimit) (hu : u + 180 < cLine) (hf : env.frame = some L) (hke : env.scope.kind = .function) (Cd : CodeHd base 148 144)
    (O : Z.Ok) (F : Fr g L s.heap m) (N : News g L s.heap ((I, o) :: led)) (hne : ∀ p ∈ led, p.1 ≠ I) (H : LedOk w.params Z S led) (hk : k < 5) (hl : Z.ls[k]? = some l) (hpl : (S.bx k).pend.length ≤ 1000)
    (h : ∀ y b' t h' tk' led', ((S.bx k).take = none ∧ y = Str.ofString "" ∧ b' = S.bx k) ∨ (∃ x, (S.bx k).take = some (x, b') ∧ y = strL Z.nm x ∧ x.snd < 5) → Fr g L h' m → News g L h' ((I, o) :: led') → (∀ p ∈ led', p.1 ≠ I) → LedOk w.params Z { S with bx := upd S.bx k b' } led' → R (.ok (.ret (.str y t))) { s with heap := h', toks := tk' }) :
    codeAny (model PySem.Challenge.rw_wn0047_01.row.prog w) (AT d u gd (env :: outs)) (.call (.ref 42) ⟨[.ref l.x], []⟩) R s := by
  have hlm : l ∈ Z.ls := List.mem_of_getElem? hl
  obtain ⟨ok, ap⟩ := O.lex l hlm
  have Nl := led_tail N
  obtain ⟨l', hl', pm, u1, ln, pbs, pbn, sgs, sgn, hm, hp, hs⟩ := H.box k hk
  rw [hl] at hl'
  cases hl'
  have adrs : l.sg ∈ l.adr ∧ l.pb ∈ l.adr ∧ l.dx ∈ l.adr := by unfold Lex.adr; simp
  -- what all four ways share
  have fin : ∀ (as : List Addr) (f : Addr → Obj) (h8 : Heap) (tk8 : Nat) (y : Str) (t : Tok) (b' : AB), (∀ a ∈ as, a = l.sg ∨ a = l.pb ∨ a = l.dx) → Keeps as s.heap h8 → (∀ a ∈ as, h8.get? a = some (f a)) → BoxOk w.params Z.nm l (updL led as f) b' → (∀ x ∈ b'.letters, x.snd < 5) →
      (((S.bx k).take = none ∧ y = Str.ofString "" ∧ b' = S.bx k) ∨ (∃ x, (S.bx k).take = some (x, b') ∧ y = strL Z.nm x ∧ x.snd < 5)) → R (.ok (.ret (.str y t))) { s with heap := h8, toks := tk8 } := by
    intro as f h8 tk8 y t b' has k9 hget hb hsn hc
    have hsub : ∀ a ∈ as, ∃ oo, (a, oo) ∈ led ∧ oo.cls ≠ .type "tuple" := fun a ha => by
      rcases has a ha with rfl | rfl | rfl
      · exact ⟨_, hm (l.sg, lsO sgs sgn) (by k_mem), by intro e; injection e with e; exact absurd e (by decide)⟩
      · exact ⟨_, hm (l.pb, lsO pbs pbn) (by k_mem), by intro e; injection e with e; exact absurd e (by decide)⟩
      · exact ⟨_, hm (l.dx, lexD w.params l.k1 l.k2 l.k3 l.k4 u1 l.u3 ln (.ref l.st) (.ref l.pb)) (by k_mem), by intro e; injection e with e; exact absurd e (by decide)⟩
    have F8 := fr_keeps F k9 (fun a ha => by
      obtain ⟨oo, h1, -⟩ := hsub a ha
      exact (Nl _ h1).2)
    have N8 := news_updL Nl k9 hget
    have hI : I ∉ as := fun hq => by
      obtain ⟨oo, h1, -⟩ := hsub I hq
      exact hne _ h1 rfl
    refine h y b' t h8 tk8 _ hc F8 (fun q hq => ?_) (updL_offs (P := fun a => a ≠ I) hne) (led_box O Nl H hk hl (fun a ha => ?_) (fun a ha oo hoo => ?_) hb hsn)
    · rcases List.mem_cons.mp hq with rfl | hq
      · exact ⟨k9 _ _ hI (N _ (.head _)).1, (N _ (.head _)).2⟩
      · exact N8 q hq
    · rcases has a ha with rfl | rfl | rfl
      · exact adrs.1
      · exact adrs.2.1
      · exact adrs.2.2
    · obtain ⟨o1, h1, h2⟩ := hsub a ha
      rw [one_obj Nl hoo h1]; exact h2
  refine call_ownC B F X T N rfl hf hke fun h9 B9 X9 T9 s9 N0 => ?_
  have ND : @Ne Nat l.sg l.pb ∧ @Ne Nat l.sg l.dx ∧ @Ne Nat l.pb l.dx := by
    obtain ⟨a1, a2, a3, a4, a5, a6, a7, a8⟩ := ap
    omega
  obtain ⟨nd1, nd2, nd3⟩ := ND
  have hsn := H.snd k hk
  cases hpe : (S.bx k).pend with
  | cons x r =>
    rw [hpe] at hp hpl
    cases hp with
    | cons hv hr =>
      rename_i v pbs'
      obtain ⟨t, rfl⟩ := hv
      refine token_push B9 X9 T9 s9 (by k_extra "om") (by k_extra "om") (own_sub N0 fun q hq => .tail _ (hm q hq)) ap (by rw [All2.length hr]; simp at hpl; omega) fun h8 tk8 k9 e1 => ?_
      have htk : (S.bx k).take = some (x, ⟨r, (S.bx k).src⟩) := by unfold AB.take; rw [hpe]
      refine fin [l.pb] (fun _ => lsO pbs' (pbn + 1)) h8 tk8 _ t ⟨r, (S.bx k).src⟩ (fun a ha => .inr (.inl (List.mem_singleton.mp ha))) k9 (fun a ha => by rw [List.mem_singleton.mp ha]; exact e1)
        (box_self (b := ⟨r, (S.bx k).src⟩) ap hm (fun a ha => .inr (.inl (List.mem_singleton.mp ha))) (.inr ⟨fun q => nd1 (List.mem_singleton.mp q), rfl, rfl⟩) (.inl ⟨.head _, rfl⟩) (.inr ⟨fun q => nd3 (List.mem_singleton.mp q).symm, rfl, rfl⟩) hr hs)
        (fun y hy => hsn y (by rw [take_some htk]; exact .tail _ hy)) (.inr ⟨x, htk, rfl, hsn x (by rw [take_some htk]; exact .head _)⟩)
  | nil =>
    rw [hpe] at hp
    cases hp
    have read : ∀ (h8 : Heap) (tk8 : Nat) (y : Str) (t u1' : Tok) (ln' : Int) (k' : Nat) (b' : AB), Keeps [l.sg, l.dx] s.heap h8 → h8.get? l.sg = some (lsO [] k') → h8.get? l.dx = some (lexD w.params l.k1 l.k2 l.k3 l.k4 u1' l.u3 ln' (.ref l.st) (.ref l.pb)) → b'.pend = [] → b'.src = none →
        (((S.bx k).take = none ∧ y = Str.ofString "" ∧ b' = S.bx k) ∨ (∃ x, (S.bx k).take = some (x, b') ∧ y = strL Z.nm x ∧ x.snd < 5)) → R (.ok (.ret (.str y t))) { s with heap := h8, toks := tk8 } := by
      intro h8 tk8 y t u1' ln' k' b' k9 e1 e2 hb1 hb2 hc
      have f1 : (fun a : Addr => if a = l.sg then lsO [] k' else lexD w.params l.k1 l.k2 l.k3 l.k4 u1' l.u3 ln' (.ref l.st) (.ref l.pb)) l.sg = lsO [] k' := if_pos rfl
      have f2 : (fun a : Addr => if a = l.sg then lsO [] k' else lexD w.params l.k1 l.k2 l.k3 l.k4 u1' l.u3 ln' (.ref l.st) (.ref l.pb)) l.dx = lexD w.params l.k1 l.k2 l.k3 l.k4 u1' l.u3 ln' (.ref l.st) (.ref l.pb) := if_neg (Ne.symm nd2)
      have has : ∀ a ∈ [l.sg, l.dx], a = l.sg ∨ a = l.pb ∨ a = l.dx := fun a ha => by
        rcases List.mem_cons.mp ha with z | ha
        · exact .inl z
        · exact .inr (.inr (List.mem_singleton.mp ha))
      refine fin [l.sg, l.dx] (fun a : Addr => if a = l.sg then lsO [] k' else lexD w.params l.k1 l.k2 l.k3 l.k4 u1' l.u3 ln' (.ref l.st) (.ref l.pb)) h8 tk8 y t b' has k9 (fun a ha => ?_)
        (box_self (pbs' := []) (sgs' := []) (b := b') ap hm has (.inl ⟨.head _, f1⟩) (.inr ⟨fun q => ?_, rfl, rfl⟩) (.inl ⟨.tail _ (.head _), f2⟩) (by rw [hb1]; exact .nil) (by rw [hb2]; exact .inl rfl)) (fun x hx => by unfold AB.letters at hx; rw [hb1, hb2] at hx; exact nomatch hx) hc
      · rcases List.mem_cons.mp ha with rfl | ha
        · exact e1.trans (congrArg some f1.symm)
        · rw [List.mem_singleton.mp ha]; exact e2.trans (congrArg some f2.symm)
      · rcases List.mem_cons.mp q with z | q
        · exact nd1 z.symm
        · exact nd3 (List.mem_singleton.mp q)
    cases hsr : (S.bx k).src with
    | none =>
      have htk : (S.bx k).take = none := by unfold AB.take; rw [hpe, hsr]
      rw [hsr] at hs
      rcases hs with rfl | hs
      · exact token_end B9 X9 T9 s9 (by k_extra "om") (by k_extra "om") (own_sub N0 fun q hq => .tail _ (hm q hq)) ok ap Cd fun t u1' ln' k' h8 tk8 k9 e1 e2 => read h8 tk8 _ t u1' ln' k' _ k9 e1 e2 hpe hsr (.inl ⟨htk, rfl, rfl⟩)
      · cases hs with
        | cons hv hr =>
          cases hr
          obtain ⟨tc, rfl⟩ := hv
          exact token_blank B9 X9 T9 s9 (by k_extra "om") (by k_extra "om") (own_sub N0 fun q hq => .tail _ (hm q hq)) ok ap Cd fun t u1' ln' k' h8 tk8 k9 e1 e2 => read h8 tk8 _ t u1' ln' k' _ k9 e1 e2 hpe hsr (.inl ⟨htk, rfl, rfl⟩)
    | some x =>
      have htk : (S.bx k).take = some (x, ⟨[], none⟩) := by unfold AB.take; rw [hpe, hsr]
      have hx5 := hsn x (by rw [take_some htk]; exact .head _)
      rw [hsr] at hs
      cases x with
      | td s' => exact hs.elim
      | nm s' v =>
        obtain ⟨b2, hc⟩ := hs
        have hgd := O.good s' hx5
        cases b2 with
        | true =>
          obtain ⟨cs, e, hq, hlen⟩ := tok_quoted hgd v
          rw [e] at hc
          cases hc with
          | cons hv hr =>
            obtain ⟨tc, rfl⟩ := hv
            refine token_quoted B9 X9 T9 s9 (by k_extra "om") (by k_extra "om") (own_sub N0 fun q hq => .tail _ (hm q hq)) ok ap Cd hr hq (by k_extra "om") fun t u1' ln' vs' k' h8 tk8 k9 hcr e1 e2 => ?_
            cases hcr
            rw [str_eta]
            exact read h8 tk8 _ t u1' ln' k' _ k9 e1 e2 rfl rfl (.inr ⟨_, htk, rfl, hx5⟩)
        | false =>
          obtain ⟨cs, e, hq, hlen⟩ := tok_plain hgd v
          rw [e] at hc
          cases hc with
          | cons hv hr =>
            obtain ⟨tc, rfl⟩ := hv
            refine token_plain B9 X9 T9 s9 (by k_extra "om") (by k_extra "om") (by decide) (own_sub N0 fun q hq => .tail _ (hm q hq)) ok ap Cd hr hq (by k_extra "om") fun t u1' ln' vs' k' h8 tk8 k9 hcr e1 e2 => ?_
            cases hcr
            rw [str_eta]
            exact read h8 tk8 _ t u1' ln' k' _ k9 e1 e2 rfl rfl (.inr ⟨_, htk, rfl, hx5⟩)
end
-- R3
theorem nd_at {l : List Addr} (h : l.Nodup) {i j : Nat} {a b : Addr} (hi : l[i]? = some a) (hj : l[j]? = some b) (e : a = b) : i = j := by
  subst e
  obtain ⟨h1, e1⟩ := List.getElem?_eq_some_iff.mp hi
  obtain ⟨h2, e2⟩ := List.getElem?_eq_some_iff.mp hj
  rcases Nat.lt_trichotomy i j with q | q | q
  · exact absurd (e1.trans e2.symm) (List.pairwise_iff_getElem.mp h i j h1 h2 q)
  · exact q
  · exact absurd (e2.trans e1.symm) (List.pairwise_iff_getElem.mp h j i h2 h1 q)
theorem nodup_T {Z : RunP} (O : Z.Ok) {j k : Nat} (hj : j < 5) (hk : k < 5) (e : Z.rT j = Z.rT k) : j = k := nd_at O.rows (rows_T hj) (rows_T hk) e
theorem nodup_H {Z : RunP} (O : Z.Ok) {j k : Nat} (hj : j < 5) (hk : k < 5) (e : Z.rH j = Z.rH k) : j = k := Nat.add_left_cancel (nd_at O.rows (rows_H hj) (rows_H hk) e)
theorem T_ne_H {Z : RunP} (O : Z.Ok) {j k : Nat} (hj : j < 5) (hk : k < 5) : Z.rT j ≠ Z.rH k := fun e => by
  have := nd_at O.rows (rows_T hj) (rows_H hk) e
  omega
theorem O_ne {Z : RunP} (O : Z.Ok) {k : Nat} (hk : k < 5) : Z.tO ≠ Z.rT k ∧ Z.tO ≠ Z.rH k ∧ Z.hO ≠ Z.rT k ∧ Z.hO ≠ Z.rH k :=
  have a : Z.rows[10]? = some Z.tO := rfl
  have b : Z.rows[11]? = some Z.hO := rfl
  ⟨fun e => by have := nd_at O.rows a (rows_T hk) e; omega, fun e => by have := nd_at O.rows a (rows_H hk) e; omega, fun e => by have := nd_at O.rows b (rows_T hk) e; omega, fun e => by have := nd_at O.rows b (rows_H hk) e; omega⟩
theorem led_T {P : Params} {Z : RunP} {S : ASt} {g h : Heap} {L : Addr} {led : Led} {k s n : Nat} {vs : List Value} {t : Tok} (O : Z.Ok) (N : News g L h led) (H : LedOk P Z S led) (hk : k < 5) (hm : (Z.rT k, lsO vs n) ∈ led) (hv : All2 (fun v s => ∃ t, v = Value.str (Z.nm s) t) vs (S.tk k)) :
    LedOk P Z { S with tk := upd S.tk k (S.tk k ++ [s]) } (updL led [Z.rT k] fun _ => lsO (vs ++ [.str (Z.nm s) t]) (n + 1)) := by
  have one : ∀ a, a ≠ Z.rT k → a ∉ [Z.rT k] := fun a h q => h (List.mem_singleton.mp q)
  have ntup : ∀ a vs' n', (a, tuO vs' n') ∈ led → a ≠ Z.rT k := fun a vs' n' hm' e => by
    subst e
    have := one_obj N hm hm'
    injection this with h1
    injection h1 with h1
    exact absurd h1 (by decide)
  refine ⟨fun j hj => ?_, fun j hj => ?_, fun j hj => ?_, ?_, ?_, H.snd⟩
  · obtain ⟨l', h1, h2⟩ := H.box j hj
    have hl := List.mem_of_getElem? h1
    exact ⟨l', h1, box_keep h2 (fun a ha => one a fun e => O.off l' hl a ha (by rw [e]; exact mem_rows_T hk)) (one _ fun e => O.offct l' hl (by rw [e]; exact mem_rows_T hk))⟩
  · by_cases e : j = k
    · subst e
      refine ⟨_, _, updL_new hm (.head _), ?_⟩
      dsimp only
      rw [upd_self]
      exact all2_snoc hv ⟨t, rfl⟩
    · obtain ⟨vs', n', h1, h2⟩ := H.tk j hj
      refine ⟨vs', n', updL_keep h1 (one _ fun q => e (nodup_T O hj hk q)), ?_⟩
      dsimp only
      rw [upd_ne e]
      exact h2
  · obtain ⟨vs', n', h1, h2⟩ := H.hd j hj
    refine ⟨vs', n', updL_keep h1 (one _ fun q => T_ne_H O hk hj q.symm), all2_imp h2 fun v s' hv' => ?_⟩
    obtain ⟨a, t1, t2, n'', rfl, hm'⟩ := hv'
    exact ⟨a, t1, t2, n'', rfl, updL_keep hm' (one _ (ntup _ _ _ hm'))⟩
  · obtain ⟨n', hm'⟩ := H.tO
    exact ⟨n', updL_keep hm' (one _ (O_ne O hk).1)⟩
  · obtain ⟨n', hm'⟩ := H.hO
    exact ⟨n', updL_keep hm' (one _ (O_ne O hk).2.2.1)⟩
theorem led_H {P : Params} {Z : RunP} {S : ASt} {g h : Heap} {L a : Addr} {led : Led} {k s n n2 : Nat} {vs : List Value} {t1 t2 : Tok} (O : Z.Ok) (N : News g L h led) (H : LedOk P Z S led) (hk : k < 5) (hm : (Z.rH k, lsO vs n) ∈ led)
    (hv : All2 (fun v (s : Nat) => ∃ a t1 t2 n, v = Value.ref a ∧ (a, tuO [.str (Z.nm k) t1, .int (s : Int) t2] n) ∈ led) vs (S.hd k)) :
    LedOk P Z { S with hd := upd S.hd k (S.hd k ++ [s]) } ((a, tuO [.str (Z.nm k) t1, .int (s : Int) t2] n2) :: updL led [Z.rH k] fun _ => lsO (vs ++ [.ref a]) (n + 1)) := by
  have one : ∀ b, b ≠ Z.rH k → b ∉ [Z.rH k] := fun b h q => h (List.mem_singleton.mp q)
  have ntup : ∀ b vs' n', (b, tuO vs' n') ∈ led → b ≠ Z.rH k := fun b vs' n' hm' e => by
    subst e
    have := one_obj N hm hm'
    injection this with h1
    injection h1 with h1
    exact absurd h1 (by decide)
  have lift : ∀ (l' : Lex) b, BoxOk P Z.nm l' (updL led [Z.rH k] fun _ => lsO (vs ++ [.ref a]) (n + 1)) b → BoxOk P Z.nm l' ((a, tuO [.str (Z.nm k) t1, .int (s : Int) t2] n2) :: updL led [Z.rH k] fun _ => lsO (vs ++ [.ref a]) (n + 1)) b := fun l' b ⟨pm, u1, ln, pbs, pbn, sgs, sgn, m1, m2, m3⟩ => ⟨pm, u1, ln, pbs, pbn, sgs, sgn, fun q hq => .tail _ (m1 q hq), m2, m3⟩
  refine ⟨fun j hj => ?_, fun j hj => ?_, fun j hj => ?_, ?_, ?_, H.snd⟩
  · obtain ⟨l', h1, h2⟩ := H.box j hj
    have hl := List.mem_of_getElem? h1
    exact ⟨l', h1, lift _ _ (box_keep h2 (fun b hb => one b fun e => O.off l' hl b hb (by rw [e]; exact mem_rows_H hk)) (one _ fun e => O.offct l' hl (by rw [e]; exact mem_rows_H hk)))⟩
  · obtain ⟨vs', n', h1, h2⟩ := H.tk j hj
    exact ⟨vs', n', .tail _ (updL_keep h1 (one _ fun q => T_ne_H O hj hk q)), h2⟩
  · by_cases e : j = k
    · subst e
      refine ⟨vs ++ [.ref a], n + 1, .tail _ (updL_new (f := fun _ => lsO (vs ++ [.ref a]) (n + 1)) hm (.head _)), ?_⟩
      dsimp only
      rw [upd_self]
      refine all2_snoc (all2_imp hv fun v s' hv' => ?_) ⟨a, t1, t2, n2, rfl, .head _⟩
      obtain ⟨b, u1, u2, n'', rfl, hm'⟩ := hv'
      exact ⟨b, u1, u2, n'', rfl, .tail _ (updL_keep hm' (one _ (ntup _ _ _ hm')))⟩
    · obtain ⟨vs', n', h1, h2⟩ := H.hd j hj
      refine ⟨vs', n', .tail _ (updL_keep h1 (one _ fun q => e (nodup_H O hj hk q))), ?_⟩
      dsimp only
      rw [upd_ne e]
      refine all2_imp h2 fun v s' hv' => ?_
      obtain ⟨b, u1, u2, n'', rfl, hm'⟩ := hv'
      exact ⟨b, u1, u2, n'', rfl, .tail _ (updL_keep hm' (one _ (ntup _ _ _ hm')))⟩
  · obtain ⟨n', hm'⟩ := H.tO
    exact ⟨n', .tail _ (updL_keep hm' (one _ (O_ne O hk).2.1))⟩
  · obtain ⟨n', hm'⟩ := H.hO
    exact ⟨n', .tail _ (updL_keep hm' (one _ (O_ne O hk).2.2.2))⟩
/-- append to a list of the ledger, all the rest standing -/
theorem append_led {prog : Program} {w : World} {A : Around} {E : Value → Shared → Prop} {s : Shared} {g : Heap} {L D : Addr} {m : Names} {led : Led} {vs : List Value} {n : Nat} {x : Value} {Q : Value → Shared → Prop} (F : Fr g L s.heap m) (N : News g L s.heap led) (hm : (D, lsO vs n) ∈ led) (hz : vs.length ≤ 100000)
    (h : ∀ h', Fr g L h' m → News g L h' (updL led [D] fun _ => lsO (vs ++ [x]) (n + 1)) → Keeps [D] s.heap h' → Q .none { s with heap := h' }) : wpAny (model prog w) A (call (.builtin "list.append") [.ref D, x]) Q E s := by
  refine append_at (its := vs.toArray) (n := n) (hsz := by rw [List.size_toArray, sizeLine_eq]; omega) (N _ hm).1 fun h' hs hD => ?_
  have k9 : Keeps [D] s.heap h' := fun b o hb e => (hs.2 b fun q => hb (by rw [q]; exact .head _)).trans e
  rw [List.push_toArray] at hD
  exact h h' (fr_keeps F k9 fun a ha => by rw [List.mem_singleton.mp ha]; exact (N _ hm).2) (news_updL N k9 fun a ha => by rw [List.mem_singleton.mp ha]; exact hD) k9
section
variable {w : World} {p : Program} {loose : List Str} {mean : ExcName → Option Value} {mg mb : Str → Option Value} {d u : Nat} {gd : Option (List Code)} {outs : List Env} {env : Env} {base g : Heap} {s : Shared} {R : Result → Shared → Prop} {A₀ : Around} {L I : Addr} {m : Names} {o : Obj} {led : Led} {Z : RunP} {S : ASt}
theorem push_call {k : Nat} {l : Lex} {y : Lt} {t : Tok} (B : Below A₀ base outs g) (X : (hd.heap_39 w.params).In g) (T : Top p loose mean mg mb g) (hdp : d + 18 < recursionLimit) (hu : u + 180 < cLine) (hf : env.frame = some L) (hke : env.scope.kind = .function)
    (O : Z.Ok) (F : Fr g L s.heap m) (N : News g L s.heap ((I, o) :: led)) (hne : ∀ p ∈ led, p.1 ≠ I) (H : LedOk w.params Z S led) (hk : k < 5) (hl : Z.ls[k]? = some l) (hpl : (S.bx k).pend.length ≤ 1000) (hy : y.snd < 5)
    (h : ∀ h' tk' led', Fr g L h' m → News g L h' ((I, o) :: led') → (∀ p ∈ led', p.1 ≠ I) → LedOk w.params Z { S with bx := upd S.bx k ((S.bx k).push y) } led' → R (.ok (.ret .none)) { s with heap := h', toks := tk' }) :
    codeAny (model PySem.Challenge.rw_wn0047_01.row.prog w) (AT d u gd (env :: outs)) (.call (.ref 49) ⟨[.ref l.x, .str (strL Z.nm y) t], []⟩) R s := by
  have hlm : l ∈ Z.ls := List.mem_of_getElem? hl
  obtain ⟨ok, ap⟩ := O.lex l hlm
  have Nl := led_tail N
  obtain ⟨l', hl', pm, u1, ln, pbs, pbn, sgs, sgn, hm, hp, hs⟩ := H.box k hk
  rw [hl] at hl'
  cases hl'
  refine call_ownC B F X T N rfl hf hke fun h9 B9 X9 T9 s9 N0 => ?_
  have hmp := hm (l.pb, lsO pbs pbn) (by k_mem)
  refine push_spec B9 X9 T9 s9 (by k_extra "om") (by k_extra "om") (own_sub N0 fun q hq => by
    rcases List.mem_cons.mp hq with rfl | hq
    · exact .tail _ hmp
    rcases List.mem_cons.mp hq with rfl | hq
    · exact .tail _ (hm _ (by k_mem))
    · cases List.mem_singleton.mp hq
      exact .tail _ (hm _ (by k_mem))) ap (by rw [All2.length hp]; omega) fun h8 tk8 k9 e1 => ?_
  have hget : ∀ a ∈ [l.pb], h8.get? a = some ((fun _ => lsO (pbs ++ [.str (strL Z.nm y) t]) (pbn + 1)) a) := fun a ha => by rw [List.mem_singleton.mp ha]; exact e1
  have F8 := fr_keeps F k9 (fun a ha => by rw [List.mem_singleton.mp ha]; exact (Nl _ hmp).2)
  have N8 := news_updL Nl k9 hget
  have hIp : I ∉ [l.pb] := fun hq => hne _ hmp (List.mem_singleton.mp hq).symm
  have ND : @Ne Nat l.sg l.pb ∧ @Ne Nat l.dx l.pb := by
    obtain ⟨a1, a2, a3, a4, a5, a6, a7, a8⟩ := ap
    omega
  refine h h8 tk8 (updL led [l.pb] fun _ => lsO (pbs ++ [.str (strL Z.nm y) t]) (pbn + 1)) F8 (fun q hq => ?_) (updL_offs (P := fun a => a ≠ I) hne) (led_box O Nl H hk hl (fun a ha => ?_) (fun a ha oo hoo => ?_)
    (box_self (pbs' := pbs ++ [.str (strL Z.nm y) t]) (pbn' := pbn + 1) (b := (S.bx k).push y) ap hm (fun a ha => .inr (.inl (List.mem_singleton.mp ha))) (.inr ⟨fun q => ND.1 (List.mem_singleton.mp q), rfl, rfl⟩) (.inl ⟨.head _, rfl⟩) (.inr ⟨fun q => ND.2 (List.mem_singleton.mp q), rfl, rfl⟩) (all2_snoc hp ⟨t, rfl⟩) hs) fun x hx => ?_)
  · rcases List.mem_cons.mp hq with rfl | hq
    · exact ⟨k9 _ _ hIp (N _ (.head _)).1, (N _ (.head _)).2⟩
    · exact N8 q hq
  · rw [List.mem_singleton.mp ha]; unfold Lex.adr; simp
  · rw [List.mem_singleton.mp ha] at hoo
    rw [one_obj Nl hoo hmp]
    intro e; injection e with e; exact absurd e (by decide)
  · unfold AB.push AB.letters at hx
    dsimp only at hx
    rcases List.mem_append.mp hx with hx | hx
    · rcases List.mem_append.mp hx with hx | hx
      · exact H.snd k hk x (List.mem_append_left _ hx)
      · rw [List.mem_singleton.mp hx]; exact hy
    · exact H.snd k hk x (List.mem_append_right _ hx)
end
-- R4
theorem snd_eq {j : Nat} (h : j < 5) : sndOf j = (((j + 4) % 5 : Nat) : Int) := by
  unfold sndOf
  rcases five h with rfl | rfl | rfl | rfl | rfl <;> decide
theorem mem_cast {first : List Nat} {k : Nat} : ((k : Nat) : Int) ∈ first.map (fun x : Nat => (x : Int)) ↔ k ∈ first := by
  rw [List.mem_map]
  constructor
  · rintro ⟨x, hx, e⟩
    have : x = k := by k_extra "om"
    subst this; exact hx
  · exact fun h => ⟨k, h, rfl⟩
theorem pick_bool {P : Nat → Bool → Prop} (h : ∀ i, i < 5 → ∃ b, P i b) : ∃ v : Nat → Bool, ∀ i, i < 5 → P i (v i) := by
  obtain ⟨b0, h0⟩ := h 0 (by k_extra "om")
  obtain ⟨b1, h1⟩ := h 1 (by k_extra "om")
  obtain ⟨b2, h2⟩ := h 2 (by k_extra "om")
  obtain ⟨b3, h3⟩ := h 3 (by k_extra "om")
  obtain ⟨b4, h4⟩ := h 4 (by k_extra "om")
  refine ⟨qf b0 b1 b2 b3 b4, fun i hi => ?_⟩
  rcases five hi with rfl | rfl | rfl | rfl | rfl <;> assumption
noncomputable def f5 (a0 a1 a2 a3 a4 : Addr) : Nat → Addr
  | 0 => a0
  | 1 => a1
  | 2 => a2
  | 3 => a3
  | _ => a4
theorem run_init {P : Params} {g h : Heap} {L hO h4 h3 h2 h1 h0 tO t4 t3 t2 t1 t0 : Addr} {nw : Led} {ls : List Lex} {nm : Nat → Str} {first : List Nat} {tab : Obj}
    (N : News g L h ((hO, listOf #[.ref h0, .ref h1, .ref h2, .ref h3, .ref h4] 0) :: (h4, listOf #[] 0) :: (h3, listOf #[] 0) :: (h2, listOf #[] 0) :: (h1, listOf #[] 0) :: (h0, listOf #[] 0) :: (tO, listOf #[.ref t0, .ref t1, .ref t2, .ref t3, .ref t4] 0) :: (t4, listOf #[] 0) :: (t3, listOf #[] 0) :: (t2, listOf #[] 0) :: (t1, listOf #[] 0) :: (t0, listOf #[] 0) :: nw))
    (o0 : ∀ q ∈ nw, q.1 < t0) (ord : @LT.lt Nat _ t0 t1 ∧ @LT.lt Nat _ t1 t2 ∧ @LT.lt Nat _ t2 t3 ∧ @LT.lt Nat _ t3 t4 ∧ @LT.lt Nat _ t4 tO ∧ @LT.lt Nat _ tO h0 ∧ @LT.lt Nat _ h0 h1 ∧ @LT.lt Nat _ h1 h2 ∧ @LT.lt Nat _ h2 h3 ∧ @LT.lt Nat _ h3 h4 ∧ @LT.lt Nat _ h4 hO)
    (hlen : ls.length = 5) (hI : BoxInv P (TextOk nm (first.map fun x : Nat => (x : Int))) nw ls) (hT : TabOk tab nw ls) (hgood : ∀ k, k < 5 → GoodNm (nm k) k) (hf5 : ∀ x ∈ first, x < 5) {R : Prop}
    (k : ∀ Z led v, Z.Ok → Z.ls = ls → Z.nm = nm → tO = Z.tO → hO = Z.hO → LedOk P Z (st0 first v) led → News g L h led → (∀ q ∈ led, q.1 < hO ∨ q.1 = hO) → R) : R := by
  obtain ⟨i1, i2, i3⟩ := hI
  have hex : ∀ i, i < 5 → ∃ b, ∀ l, ls[i]? = some l → l.Ok ∧ l.Apart ∧ ∃ pm u1 vs kk, (∀ q ∈ l.objs P pm u1 1 [] 0 vs kk, q ∈ nw) ∧ SrcOk nm vs (if (i + 4) % 5 ∈ first then some (.nm ((i + 4) % 5) b) else none) := fun i hi => by
    obtain ⟨l, hl⟩ : ∃ l, ls[i]? = some l := ⟨_, List.getElem?_eq_getElem (by k_extra "om")⟩
    obtain ⟨txt, ht, ok, ap, pm, u1, vs, kk, hc, hm⟩ := i1 i l hl
    unfold TextOk at ht
    rw [snd_eq hi, mem_cast] at ht
    rcases ht with ⟨h1, b1, b2, rfl⟩ | ⟨h1, rfl⟩
    · refine ⟨b1, fun l' hl' => ?_⟩
      rw [hl] at hl'
      cases hl'
      refine ⟨ok, ap, pm, u1, vs, kk, hm, ?_⟩
      rw [if_pos h1]
      exact ⟨b2, hc⟩
    · refine ⟨true, fun l' hl' => ?_⟩
      rw [hl] at hl'
      cases hl'
      refine ⟨ok, ap, pm, u1, vs, kk, hm, ?_⟩
      rw [if_neg h1]
      rw [show (Str.ofString " ").cps.toList = [32] from by decide +kernel] at hc
      exact .inr hc
  obtain ⟨v, hv⟩ := pick_bool hex
  obtain ⟨o1, o2, o3, o4, o5, o6, o7, o8, o9, o10, o11⟩ := ord
  have hadr : ∀ l ∈ ls, ∀ a ∈ l.adr, @LT.lt Nat _ a t0 := fun l hl a ha => by
    obtain ⟨oo, hoo⟩ := i3 l hl a ha
    exact o0 _ hoo
  have hct : ∀ l ∈ ls, ∃ oo, (l.ct, oo) ∈ nw := fun l hl => by
    rcases hT with ⟨rfl, -, -⟩ | ⟨ct, oc, -, -, hm, hall⟩
    · exact nomatch hl
    · rw [(hall l hl).1]; exact ⟨oc, hm⟩
  have offr : ∀ a : Addr, @LT.lt Nat _ a t0 → a ∉ (RunP.mk ls nm (f5 t0 t1 t2 t3 t4) (f5 h0 h1 h2 h3 h4) tO hO).rows := fun a ha hq => by
    unfold RunP.rows at hq
    simp only [f5, List.mem_cons, List.not_mem_nil, or_false] at hq
    have hq' : @Eq Nat a t0 ∨ @Eq Nat a t1 ∨ @Eq Nat a t2 ∨ @Eq Nat a t3 ∨ @Eq Nat a t4 ∨ @Eq Nat a h0 ∨ @Eq Nat a h1 ∨ @Eq Nat a h2 ∨ @Eq Nat a h3 ∨ @Eq Nat a h4 ∨ @Eq Nat a tO ∨ @Eq Nat a hO := hq
    have b1 := Nat.lt_trans ha o1
    have b2 := Nat.lt_trans b1 o2
    have b3 := Nat.lt_trans b2 o3
    have b4 := Nat.lt_trans b3 o4
    have b5 := Nat.lt_trans b4 o5
    have b6 := Nat.lt_trans b5 o6
    have b7 := Nat.lt_trans b6 o7
    have b8 := Nat.lt_trans b7 o8
    have b9 := Nat.lt_trans b8 o9
    have b10 := Nat.lt_trans b9 o10
    have b11 := Nat.lt_trans b10 o11
    rcases hq' with e | e | e | e | e | e | e | e | e | e | e | e <;> exact absurd e (Nat.ne_of_lt (by assumption))
  refine k ⟨ls, nm, f5 t0 t1 t2 t3 t4, f5 h0 h1 h2 h3 h4, tO, hO⟩ _ v ⟨hlen, fun l hl => ?_, i2, fun l hl l' hl' => ?_, ?_, fun l hl a ha => offr a (hadr l hl a ha), fun l hl => ?_, hgood⟩ rfl rfl rfl rfl ⟨fun i hi => ?_, fun i hi => ?_, fun i hi => ?_, ?_, ?_, fun i hi x hx => ?_⟩ N ?_
  · obtain ⟨j, hj, rfl⟩ := List.mem_iff_getElem.mp hl
    obtain ⟨txt, ht, ok, ap, -⟩ := i1 j _ (List.getElem?_eq_getElem hj)
    exact ⟨ok, ap⟩
  · rcases hT with ⟨rfl, -, -⟩ | ⟨ct, oc, -, -, hm, hall⟩
    · exact nomatch hl
    · rw [(hall l hl).1, (hall l' hl').1]
  · unfold RunP.rows
    simp only [f5, List.nodup_cons, List.mem_cons, List.not_mem_nil, or_false, not_or, List.nodup_nil, and_true, not_false_eq_true]
    have ne : ∀ a b : Nat, a < b → ¬ a = b := fun a b h e => by k_extra "om"
    refine ⟨⟨?_, ?_, ?_, ?_, ?_, ?_, ?_, ?_, ?_, ?_, ?_⟩, ⟨?_, ?_, ?_, ?_, ?_, ?_, ?_, ?_, ?_, ?_⟩, ⟨?_, ?_, ?_, ?_, ?_, ?_, ?_, ?_, ?_⟩, ⟨?_, ?_, ?_, ?_, ?_, ?_, ?_, ?_⟩, ⟨?_, ?_, ?_, ?_, ?_, ?_, ?_⟩, ⟨?_, ?_, ?_, ?_, ?_, ?_⟩, ⟨?_, ?_, ?_, ?_, ?_⟩, ⟨?_, ?_, ?_, ?_⟩, ⟨?_, ?_, ?_⟩, ⟨?_, ?_⟩, ?_⟩ <;> (show ¬ @Eq Nat _ _; first | k_extra "ne0" | omega)
  · obtain ⟨oo, hoo⟩ := hct l hl
    exact offr _ (o0 _ hoo)
  · obtain ⟨l, hl⟩ : ∃ l, ls[i]? = some l := ⟨_, List.getElem?_eq_getElem (by k_extra "om")⟩
    obtain ⟨ok, ap, pm, u1, vs, kk, hm, hs⟩ := hv i hi l hl
    exact ⟨l, hl, pm, u1, 1, [], 0, vs, kk, fun q hq => .tail _ (.tail _ (.tail _ (.tail _ (.tail _ (.tail _ (.tail _ (.tail _ (.tail _ (.tail _ (.tail _ (.tail _ (hm q hq)))))))))))), .nil, hs⟩
  · refine ⟨[], 0, ?_, .nil⟩
    rcases five hi with rfl | rfl | rfl | rfl | rfl <;> (show _ ∈ _; dsimp only [f5]; k_mem)
  · refine ⟨[], 0, ?_, .nil⟩
    rcases five hi with rfl | rfl | rfl | rfl | rfl <;> (show _ ∈ _; dsimp only [f5]; k_mem)
  · exact ⟨0, by dsimp only [f5]; k_mem⟩
  · exact ⟨0, by dsimp only [f5]; k_mem⟩
  · unfold st0 bx0 AB.letters at hx
    dsimp only at hx
    by_cases hm : (i + 4) % 5 ∈ first
    · rw [if_pos hm] at hx
      have : x = .nm ((i + 4) % 5) (v i) := by simpa using hx
      subst this
      exact hf5 _ hm
    · rw [if_neg hm] at hx
      simp at hx
  · intro q hq
    have lt : ∀ a : Addr, @LT.lt Nat _ a hO → a < hO ∨ a = hO := fun a h => .inl h
    rcases List.mem_cons.mp hq with rfl | hq
    · exact .inr rfl
    rcases List.mem_cons.mp hq with rfl | hq
    · exact lt _ (by k_extra "om")
    rcases List.mem_cons.mp hq with rfl | hq
    · exact lt _ (by k_extra "om")
    rcases List.mem_cons.mp hq with rfl | hq
    · exact lt _ (by k_extra "om")
    rcases List.mem_cons.mp hq with rfl | hq
    · exact lt _ (by k_extra "om")
    rcases List.mem_cons.mp hq with rfl | hq
    · exact lt _ (by k_extra "om")
    rcases List.mem_cons.mp hq with rfl | hq
    · exact lt _ (by k_extra "om")
    rcases List.mem_cons.mp hq with rfl | hq
    · exact lt _ (by k_extra "om")
    rcases List.mem_cons.mp hq with rfl | hq
    · exact lt _ (by k_extra "om")
    rcases List.mem_cons.mp hq with rfl | hq
    · exact lt _ (by k_extra "om")
    rcases List.mem_cons.mp hq with rfl | hq
    · exact lt _ (by k_extra "om")
    rcases List.mem_cons.mp hq with rfl | hq
    · exact lt _ (by k_extra "om")
    · have : @LT.lt Nat _ q.1 t0 := o0 q hq
      exact lt _ (by k_extra "om")
-- R5
noncomputable def mk0 (x : Str) : Nat := x.cps.toList.headD 0
noncomputable def toldA (a s : Nat) : Str := (((Str.ofString "229 told (" ++ Txt.mul ⟨#[a]⟩ 3) ++ Txt.item (Str.ofString "01234") (s : Int)) ++ ⟨#[a]⟩) ++ Str.ofString ")"
noncomputable def toldF (a s : Nat) : Bool :=
  let x := toldA a s
  decide (x.length ≤ 100) && (Txt.slice x none (some 3) != Str.ofString "257") && (Txt.slice x none (some 3) == Str.ofString "229") && (Txt.find x (Str.ofString "(") == 9) && (Txt.find3 x (Str.ofString ")") (9 + 1) == 15) && (x.cps.toList[10]? == some a) && (x.cps.toList[14]? == some a) &&
  (Txt.split (Txt.slice x (some (9 + 1)) (some 15)) ⟨#[a]⟩ == [Str.ofString "", Str.ofString "", Str.ofString "", Txt.item (Str.ofString "01234") (s : Int), Str.ofString ""]) && (PySem.intText? (Txt.item (Str.ofString "01234") (s : Int)) == some (s : Int)) && decide ((Txt.item (Str.ofString "01234") (s : Int)).length ≤ 640) && decide ((Txt.slice x (some (9 + 1)) (some 15)).length ≤ 100) && !(x == Str.ofString "")
theorem told_all : ([97, 98, 34, 92, 32, 33].all fun a => [0, 1, 2, 3, 4].all fun s => toldF a s) = true := by decide +kernel
theorem told_A {x : Str} {a b c : Nat} (e : x.cps.toList = [a, b, c]) (s : Nat) : mk0 x = a ∧ toldS x s = toldA a s := by
  obtain ⟨⟨l⟩⟩ := x
  cases (e : l = [a, b, c])
  exact ⟨rfl, rfl⟩
structure ToldFacts (x : Str) (s : Nat) : Prop where
  len : (toldS x s).length ≤ 100
  p257 : (Txt.slice (toldS x s) none (some 3) != Str.ofString "257") = true
  f1 : (Txt.slice (toldS x s) none (some 3) != Str.ofString "229") = false
  f2 : Txt.find (toldS x s) (Str.ofString "(") = 9
  f3 : Txt.find3 (toldS x s) (Str.ofString ")") (9 + 1) = 15
  f4 : ((9 : Int) + 1 = ((10 : Nat) : Int)) ∧ (toldS x s).cps.toList[10]? = some (mk0 x)
  f5 : ((15 : Int) - 1 = ((14 : Nat) : Int)) ∧ (toldS x s).cps.toList[14]? = some (mk0 x)
  f6 : Txt.split (Txt.slice (toldS x s) (some (9 + 1)) (some 15)) ⟨#[mk0 x]⟩ = [Str.ofString "", Str.ofString "", Str.ofString "", Txt.item (Str.ofString "01234") (s : Int), Str.ofString ""]
  f7 : PySem.intText? (Txt.item (Str.ofString "01234") (s : Int)) = some (s : Int)
  f8 : (Txt.item (Str.ofString "01234") (s : Int)).length ≤ 640
  f9 : (Txt.slice (toldS x s) (some (9 + 1)) (some 15)).length ≤ 100
  ne : ¬ toldS x s = Str.ofString ""
theorem told_facts {x : Str} {n : Nat} (h : GoodNm x n) : ToldFacts x n := by
  obtain ⟨a, b, c, ha, hb, hc, e⟩ := nm3_list h
  have hn : n < 5 := by obtain ⟨i, j, hi, hj, hn, e⟩ := h; exact hn
  have h3 := List.all_eq_true.mp (List.all_eq_true.mp told_all a ha) n (by rcases five hn with rfl | rfl | rfl | rfl | rfl <;> decide)
  unfold toldF at h3
  rw [← (told_A e n).2, ← (told_A e n).1] at h3
  simp only [Bool.and_eq_true, decide_eq_true_eq, beq_iff_eq, Bool.not_eq_true', beq_eq_false_iff_ne] at h3
  obtain ⟨⟨⟨⟨⟨⟨⟨⟨⟨⟨⟨a1, a2⟩, a3⟩, a4⟩, a5⟩, a6⟩, a7⟩, a8⟩, a9⟩, b1⟩, b2⟩, b3⟩ := h3
  exact ⟨a1, a2, by rw [a3]; exact bne_self_eq_false _, a4, a5, ⟨rfl, a6⟩, ⟨rfl, a7⟩, a8, a9, b1, b2, b3⟩
theorem strL_ne {nm : Nat → Str} {x : Lt} (h : GoodNm (nm x.snd) x.snd) : ¬ strL nm x = Str.ofString "" := by
  cases x with
  | nm s v => exact (let_facts h v).ne
  | td s => exact (told_facts h).ne
theorem turn_left {Q : Nat → Nat → Bool} {S : ASt} {n : Nat} : (turn Q S n).left ≤ S.left := by
  unfold turn
  split
  · exact Nat.le_refl _
  · split
    · exact Nat.le_refl _
    · split
      · exact Nat.sub_le _ _
      · exact Nat.le_refl _
theorem turns_left {Q : Nat → Nat → Bool} : ∀ {cs : List Nat} {S : ASt}, (cs.foldl (turn Q) S).left ≤ S.left
  | [], _ => Nat.le_refl _
  | c :: cs, S => by
    rw [List.foldl_cons]
    exact Nat.le_trans (turns_left (cs := cs)) turn_left
theorem turns_stop {Q : Nat → Nat → Bool} : ∀ {cs : List Nat} {S : ASt}, S.left = 0 → cs.foldl (turn Q) S = S
  | [], _, _ => rfl
  | c :: cs, S, h => by rw [List.foldl_cons, turn_none (.inl h)]; exact turns_stop h
theorem pend_le {Q : Nat → Nat → Bool} {Ct Ch : Nat → Nat → Nat} {S : ASt} (I : AInv Q Ct Ch S) {k : Nat} (hk : k < 5) : (S.bx k).pend.length ≤ S.left := by
  have h := I.left
  have h1 : ∀ j, sumB (fun _ => 1) (S.bx j) = (S.bx j).letters.length := fun j => by
    unfold sumB
    rw [show (fun _ : Lt => 1) = Function.const Lt 1 from rfl, List.map_const, List.sum_replicate_nat, Nat.mul_one]
  have h2 : (S.bx k).pend.length ≤ (S.bx k).letters.length := by
    unfold AB.letters; simp
  unfold tot at h
  rw [h1, h1, h1, h1, h1] at h
  rcases five hk with rfl | rfl | rfl | rfl | rfl <;> k_extra "om"
theorem take_at {cs : List Nat} {i c : Nat} {Q : Nat → Nat → Bool} {S0 : ASt} (h : cs[i]? = some c) : (cs.take (i + 1)).foldl (turn Q) S0 = turn Q ((cs.take i).foldl (turn Q) S0) c := by
  have : cs.take (i + 1) = cs.take i ++ [c] := by
    obtain ⟨h1, rfl⟩ := List.getElem?_eq_some_iff.mp h
    exact (List.take_append_getElem h1).symm
  rw [this, List.foldl_append]; rfl
theorem list_turn {fs : List Addr} {g g' : Heap} {a : Addr} {its : Array Value} (T : KtsTurn fs g g') (h : g.IsList a its) : g'.IsList a its := by
  obtain ⟨o, h1, h2, h3⟩ := h
  obtain ⟨sl, e⟩ := T.up h1
  exact ⟨_, e, h2, h3⟩
theorem ints_nat {vs : List Value} {cs : List Nat} (h : IntsAre vs (cs.map fun x : Nat => (x : Int))) {i : Nat} {v : Value} (hv : vs[i]? = some v) : ∃ (k : Nat) (t : Tok), v = .int (k : Int) t ∧ cs[i]? = some k := by
  obtain ⟨hi, -⟩ := List.getElem?_eq_some_iff.mp hv
  obtain ⟨n, t, e1, e2⟩ := IntsAre.at' h hi
  rw [hv] at e1
  cases e1
  rw [List.getElem?_map] at e2
  cases e3 : cs[i]? with
  | none => rw [e3] at e2; cases e2
  | some k => rw [e3] at e2; cases e2; exact ⟨k, t, rfl, rfl⟩
-- R6
theorem item_ld {prog : Program} {w : World} {A : Around} {E : Value → Shared → Prop} {s : Shared} {g : Heap} {L D : Addr} {led : Led} {ws : List Value} {n : Nat} {k : Int} {t : Tok} {Q : Value → Shared → Prop} {value slice : PySem.Expr} {v : Value} (N : News g L s.heap led) (hm : (D, lsO ws n) ∈ led) (h0 : 0 ≤ k) (h1 : k < 2 ^ 63) (hx : ws[k.toNat]? = some v) (h : Q v s)
    (hs : subscripted slice false (.ref D) (.int k t) = operate [.ref D, .int k t] (getItem (.ref D) (.int k t)) := by with_unfolding_all rfl) :
    wpAny (model prog w) A (subscriptTail value slice (.ref D) (.int k t)) Q E s := by
  have hl : s.heap.IsList D ws.toArray := ⟨_, (N _ hm).1, rfl, n, rfl⟩
  exact tail_any hl.typeIs slot_list_getitem.lookup (wpAny_getItem_list hl h0 h1 (by simpa using hx) h) hs
theorem append_ledI {prog : Program} {w : World} {A : Around} {E : Value → Shared → Prop} {s : Shared} {g : Heap} {L D I : Addr} {m : Names} {o : Obj} {led : Led} {vs : List Value} {n : Nat} {x : Value} {Q : Value → Shared → Prop} (F : Fr g L s.heap m) (N : News g L s.heap ((I, o) :: led)) (hne : ∀ p ∈ led, p.1 ≠ I) (hm : (D, lsO vs n) ∈ led) (hz : vs.length ≤ 100000)
    (h : ∀ h', Fr g L h' m → News g L h' ((I, o) :: updL led [D] fun _ => lsO (vs ++ [x]) (n + 1)) → (∀ p ∈ updL led [D] fun _ => lsO (vs ++ [x]) (n + 1), p.1 ≠ I) → Keeps [D] s.heap h' → Q .none { s with heap := h' }) : wpAny (model prog w) A (call (.builtin "list.append") [.ref D, x]) Q E s := by
  refine append_led F (led_tail N) hm hz fun h' F' N' k' => h h' F' (fun q hq => ?_) (updL_offs (P := fun a => a ≠ I) hne) k'
  rcases List.mem_cons.mp hq with rfl | hq
  · exact ⟨k' _ _ (fun q => hne _ hm (List.mem_singleton.mp q).symm) (N _ (.head _)).1, (N _ (.head _)).2⟩
  · exact N' q hq
theorem turn_tk {Q : Nat → Nat → Bool} {S : ASt} {n k : Nat} : ((turn Q S n).tk k).length ≤ (S.tk k).length + 1 ∧ ((turn Q S n).hd k).length ≤ (S.hd k).length + 1 := by
  have h1 : ∀ x, (tkOf S.tk n x k).length ≤ (S.tk k).length + 1 := fun x => by
    cases x with
    | td s => exact Nat.le_succ _
    | nm s v =>
      show (upd S.tk n (S.tk n ++ [s]) k).length ≤ _
      by_cases e : k = n
      · subst e; rw [upd_self]; simp
      · rw [upd_ne e]; omega
  have h2 : ∀ x, (hdOf S.hd n x k).length ≤ (S.hd k).length + 1 := fun x => by
    cases x with
    | nm s v => exact Nat.le_succ _
    | td s =>
      show (upd S.hd n (S.hd n ++ [s]) k).length ≤ _
      by_cases e : k = n
      · subst e; rw [upd_self]; simp
      · rw [upd_ne e]; omega
  unfold turn
  split
  · exact ⟨Nat.le_succ _, Nat.le_succ _⟩
  · split
    · exact ⟨Nat.le_succ _, Nat.le_succ _⟩
    · split
      · exact ⟨h1 _, h2 _⟩
      · exact ⟨h1 _, h2 _⟩
theorem turns_tk {Q : Nat → Nat → Bool} {k : Nat} : ∀ {cs : List Nat} {S : ASt}, ((cs.foldl (turn Q) S).tk k).length ≤ (S.tk k).length + cs.length ∧ ((cs.foldl (turn Q) S).hd k).length ≤ (S.hd k).length + cs.length
  | [], _ => ⟨Nat.le_refl _, Nat.le_refl _⟩
  | c :: cs, S => by
    rw [List.foldl_cons, List.length_cons]
    have h1 := turns_tk (Q := Q) (k := k) (cs := cs) (S := turn Q S c)
    have h2 := turn_tk (Q := Q) (S := S) (n := c) (k := k)
    omega
theorem upd_same {α : Type} {f : Nat → α} {k : Nat} : upd f k (f k) = f := by
  funext j
  by_cases e : j = k
  · subst e; exact upd_self
  · exact upd_ne e
theorem LedOk.of {P : Params} {Z : RunP} {S S' : ASt} {led : Led} (H : LedOk P Z S led) (h1 : S'.bx = S.bx) (h2 : S'.tk = S.tk) (h3 : S'.hd = S.hd) : LedOk P Z S' led := by
  obtain ⟨a, b, c, d⟩ := S
  obtain ⟨a', b', c', d'⟩ := S'
  dsimp only at h1 h2 h3
  subst h1 h2 h3
  exact ⟨H.box, H.tk, H.hd, H.tO, H.hO, H.snd⟩
theorem rows_at {f : Nat → Addr} {k : Nat} (hk : k < 5) : ([Value.ref (f 0), .ref (f 1), .ref (f 2), .ref (f 3), .ref (f 4)] : List Value)[((k : Nat) : Int).toNat]? = some (.ref (f k)) := by
  rw [Int.toNat_natCast]
  rcases five hk with rfl | rfl | rfl | rfl | rfl <;> rfl
theorem turn_eq {Q : Nat → Nat → Bool} {S : ASt} {k : Nat} {x : Lt} {b' : AB} (h0 : ¬ S.left = 0) (ht : (S.bx k).take = some (x, b')) : turn Q S k = match sentQ (Q x.snd) k x with
    | none => ⟨upd S.bx k b', tkOf S.tk k x, hdOf S.hd k x, S.left - 1⟩
    | some y => ⟨upd (upd S.bx k b') ((k + 1) % 5) ((upd S.bx k b' ((k + 1) % 5)).push y), tkOf S.tk k x, hdOf S.hd k x, S.left⟩ := by
  unfold turn
  rw [if_neg h0, ht]
  all_goals (try dsimp only)
  all_goals (cases sentQ (Q x.snd) k x <;> rfl)
theorem next_at {k : Nat} : (Int.fmod ((k : Int) + 1) 5).toNat = (k + 1) % 5 := by
  rw [show ((k : Int) + 1) = ((k + 1 : Nat) : Int) from by k_extra "om", Int.fmod_eq_emod_of_nonneg _ (by k_extra "om")]
  omega
-- R7
theorem any_mem {first : List Nat} {k : Nat} : ((first.map fun x : Nat => (x : Int)).any fun x => x == (k : Int)) = decide (k ∈ first) := by
  rw [Bool.eq_iff_iff, List.any_eq_true, decide_eq_true_iff, ← mem_cast (first := first) (k := k)]
  constructor
  · rintro ⟨x, hx, e⟩
    rw [← eq_of_beq e]; exact hx
  · exact fun h => ⟨_, h, beq_self_eq_true _⟩
section
variable {first : List Nat} {gt : Nat → Nat → Bool} {cc s k : Nat} {v : Bool} {ord : Int}
theorem sent_away (h : ((first.map fun x : Nat => (x : Int)).any fun x => x == (k : Int)) = false) : sentQ (stopQ first gt s) k (.nm s v) = some (.nm s v) := by
  rw [any_mem] at h
  unfold sentQ stopQ
  rw [h]; rfl
theorem sent_gt (hR : Ring first gt cc) (hord : ord = b2i (gt s k) - b2i (gt k s)) (h : 0 < ord) : sentQ (stopQ first gt s) k (.nm s v) = some (.nm s v) := by
  have : gt s k = true := by
    cases e : gt s k with
    | true => rfl
    | false => rw [e] at hord; unfold b2i at hord; cases e2 : gt k s <;> rw [e2] at hord <;> simp at hord <;> k_extra "om"
  unfold sentQ stopQ
  rw [this]; simp
theorem sent_self (hR : Ring first gt cc) (ha : ((first.map fun x : Nat => (x : Int)).any fun x => x == (k : Int)) = true) (hs : s < 5) (hk : k < 5) (hord : ord = b2i (gt s k) - b2i (gt k s)) (h : ord = 0) : s = k ∧ sentQ (stopQ first gt s) k (.nm s v) = some (.td k) := by
  have e : s = k := by
    by_cases e : s = k
    · exact e
    · have h1 := hR.anti s k hs hk e
      rw [h1] at hord
      cases e2 : gt k s <;> rw [e2] at hord <;> simp [b2i] at hord <;> k_extra "om"
  subst e
  rw [any_mem] at ha
  refine ⟨rfl, ?_⟩
  unfold sentQ stopQ
  rw [ha, hR.irr]; simp
theorem sent_stop (hR : Ring first gt cc) (ha : ((first.map fun x : Nat => (x : Int)).any fun x => x == (k : Int)) = true) (hord : ord = b2i (gt s k) - b2i (gt k s)) (h : ¬ 0 < ord) (h0 : ord ≠ 0) : sentQ (stopQ first gt s) k (.nm s v) = none := by
  have e : s ≠ k := fun e => by
    subst e
    apply h0; rw [hord]; omega
  have h1 : gt s k = false := by
    cases e1 : gt s k with
    | false => rfl
    | true =>
      rw [e1] at hord
      cases e2 : gt k s <;> rw [e2] at hord <;> simp [b2i] at hord <;> k_extra "om"
  rw [any_mem] at ha
  unfold sentQ stopQ
  rw [ha, h1]; simp [e]
end
theorem fresh_gr {g h : Heap} {L a : Addr} {m : Names} (F : Fr g L h m) (e : h.get? a = none) : a ≠ L ∧ g.get? a = none := by
  refine ⟨fun q => ?_, ?_⟩
  · obtain ⟨oL, _, _, hL, _⟩ := F.ns
    rw [q, hL] at e; cases e
  · cases q : g.get? a with
    | none => rfl
    | some o' => have := F.keep _ _ q; rw [e] at this; cases this
-- LibM
theorem strsLen {vs : List Value} {ss : List Str} (h : StrsAre vs ss) : vs.length = ss.length := by
  induction h with
  | nil => rfl
  | cons x t h ih => simp [ih]
theorem strsAt {vs : List Value} {ss : List Str} (h : StrsAre vs ss) : ∀ {k : Nat} {v : Value}, vs[k]? = some v → ∃ t, v = .str (ss[k]?.getD ⟨#[]⟩) t ∧ k < ss.length := by
  induction h with
  | nil => intro k v e; simp at e
  | cons x t h ih =>
    intro k v e
    cases k with
    | zero => simp at e; exact ⟨t, by simp [← e], by simp⟩
    | succ k =>
      obtain ⟨t', e1, e2⟩ := ih (k := k) (v := v) (by simpa using e)
      exact ⟨t', by simpa using e1, by simpa using e2⟩
theorem isStr_at (k : Str) : ∀ {vs : List Value} {ns : List Str}, StrsAre vs ns → ∀ (j : Nat) (h1 : j < vs.length) (h2 : j < ns.length), isStrOf k vs[j] = (ns[j] == k)
  | _, _, .cons n t _, 0, _, _ => rfl
  | _, _, .cons n t r, j + 1, h1, h2 => isStr_at k r j (Nat.lt_of_succ_lt_succ h1) (Nat.lt_of_succ_lt_succ h2)
theorem ne_of_lt_idxOfS {k : Str} : ∀ {ns : List Str} {j : Nat}, j < ns.idxOf k → ∀ (h2 : j < ns.length), (ns[j] == k) = false
  | n :: r, 0, h, _ => by
    by_cases e : n = k
    · subst e; simp at h
    · simpa using e
  | n :: r, j + 1, h, h2 => by
    by_cases e : n = k
    · subst e; simp at h
    · have h' : j < r.idxOf k := by
        rw [List.idxOf_cons] at h
        have : (n == k) = false := by simpa using e
        rw [this] at h
        simp at h; omega
      simpa using ne_of_lt_idxOfS h' (Nat.lt_of_succ_lt_succ h2)
theorem CmpStrs {prog : Program} {w : World} {A : Around} {P : Nat → Value → Prop} (val : Nat → Str) (hval : ∀ i v, P i v → ∃ t, v = .str (val i) t) :
    CmpOf prog w A .Gt P (fun i j => decide ((val j).cps.toList < (val i).cps.toList)) := fun i j vi vj s Q E hi hj h => by
  obtain ⟨t, rfl⟩ := hval i vi hi
  obtain ⟨u, rfl⟩ := hval j vj hj
  exact richCompare_gives (op := .Gt) (typeIs_str s _ t) (typeIs_str s _ u) F.slot_str_gt F.entry_str_gt (F.args_str_gt_2 _ _) (gives_str_gt _ _ t u) (fun x => nomatch x) h
theorem iter_listM {prog : Program} {w : World} {A : Around} {E : Value → Shared → Prop} {s : Shared} {l : Addr} {xs : Array Value} {Q : Value → Shared → Prop} (hl : s.heap.IsList l xs)
    (h : ∀ s₂ : Shared, s₂ = { s with heap := s.heap.push { cls := .type "list_iterator", data := .fields #[.ref l, .int 0 0] } } →
      (s₂.heap.IsListIter s.heap.objs.size l 0 ∧ s₂.heap.IsList l xs) → (∀ b ∈ [s.heap.objs.size, l], b < s₂.heap.objs.size) → l ≠ s.heap.objs.size → Q (.ref s.heap.objs.size) s₂) :
    wpAny (model prog w) A (pyIter (.ref l)) Q E s := by
  have hlt : l < s.heap.objs.size := by obtain ⟨_, e, _⟩ := hl; exact Heap.lt_size e
  refine wpAny_pyIter_list hl (h _ rfl ⟨⟨_, Heap.get?_push_size _ rfl, rfl, rfl⟩, hl.push _⟩ (fun b hb => ?_) (Nat.ne_of_lt hlt))
  show b < (s.heap.push _).objs.size
  rw [Heap.size_push]
  rcases List.mem_cons.mp hb with rfl | hb
  · exact Nat.lt_succ_self _
  · rcases List.mem_cons.mp hb with rfl | hb
    · exact Nat.lt_succ_of_lt hlt
    · cases hb
section
variable {prog : Program} {w : World} {A : Around} {E : Value → Shared → Prop} {s : Shared} {g : Heap} {L D : Addr} {m : Names} {news : Led} {ws : List Value} {ss : List Str} {n : Nat} {k : Str} {t : Tok} {Q : Value → Shared → Prop}
/-- the best by the greater-than of the texts -/
noncomputable def bestS (ss : List Str) : Nat := argBest (fun i j => decide ((ss[j]?.getD ⟨#[]⟩).cps.toList < (ss[i]?.getD ⟨#[]⟩).cps.toList)) (ss.length - 1)
theorem max_strs (hh : A.handled = none) (F : Fr g L s.heap m) (N : News g L s.heap news) (hl : s.heap.IsList D ws.toArray) (hS : StrsAre ws ss) (hne : 0 < ss.length)
    (h : ∀ h' t tk, Fr g L h' m → News g L h' news → Q (.str (ss[bestS ss]?.getD ⟨#[]⟩) t) { s with heap := h', toks := tk }) :
    wpAny (model prog w) A (call (.builtin "max") [.ref D]) Q E s := by
  have hlen := strsLen hS
  refine call_max_walk (iter_listM hl fun s₂ e st hfp hlI => ?_)
  subst e
  refine ⟨_, _, _, _, _, _, _, rfl, Walks.list (A := A.in1) hh _ D hlI ws.toArray, st, hfp, by simp; omega, CmpStrs (fun i => ss[i]?.getD ⟨#[]⟩) (fun i v hv => ?_), fun v h' tk hP hk => ?_⟩
  · obtain ⟨t, e, -⟩ := strsAt hS (k := i) (v := v) (by simpa using hv)
    exact ⟨t, e⟩
  · have hP' : ws[bestS ss]? = some v := by
      have : ws.toArray[bestS ss]? = some v := by
        unfold bestS
        rw [← hlen]
        simpa using hP
      simpa using this
    obtain ⟨t, e, -⟩ := strsAt hS hP'
    subst e
    have hk' : ∀ b o, s.heap.get? b = some o → h'.get? b = some o := old_kept hk
    exact h _ t tk (F.grownK hk') (N.grown hk')
theorem index_strs (hl : s.heap.IsList D ws.toArray) (hS : StrsAre ws ss) (hk : k ∈ ss) (hz : ss.length ≤ 100000) (h : Q (.int (ss.idxOf k : Nat) s.toks) { s with toks := s.toks + 1 }) :
    wpAny (model prog w) A (call (.builtin "list.index") [.ref D, .str k t]) Q E s := by
  have hlen := strsLen hS
  have hj : ss.idxOf k < ss.length := List.idxOf_lt_length_iff.mpr hk
  obtain ⟨o, ho, hc, nn, hd⟩ := hl
  obtain ⟨oc, dd, od, osl⟩ := o
  dsimp only at hc hd
  subst hc hd
  refine call_meets PySem.F.slot_list_index ⟨_, ho, rfl⟩ PySem.F.entry_list_index (PySem.F.args_list_index_2 _ _)
    (PySem.SeqAt.list_indexAt D ws.toArray nn dd osl (.str k t) (isStrOf k) (ss.idxOf k) (by simpa [hlen] using hj) (by k_extra "om") ?_ ?_) ⟨ho, fun y hy => (eq_isStrOf k t hS y (by simpa using hy)).at _ _, h⟩
  · show isStrOf k ws[ss.idxOf k] = true
    rw [isStr_at k hS _ (by k_extra "om") hj]
    simpa using List.getElem_idxOf hj
  · intro j hjs hlt
    show isStrOf k ws[j] = false
    rw [isStr_at k hS j (by simpa using hjs) (by k_extra "om")]
    exact ne_of_lt_idxOfS hlt _
end
section
variable {prog : Program} {w : World} {A : Around} {E : Value → Shared → Prop} {s : Shared} {g : Heap} {L D : Addr} {m : Names} {ws : List Value} {js : List Int} {k : Int} {t : Tok} {Q : Value → Shared → Prop}
theorem in_grM (F : Fr g L s.heap m) (hl : g.IsList D ws.toArray) (hI : IntsAre ws js) (h : Q (.bool (decide (k ∈ js))) s) : wpAny (model prog w) A (compareOp .In (.int k t) (.ref D)) Q E s :=
  in_list_ints (lsAt F hl) hI (by
    have : js.any (· == k) = decide (k ∈ js) := by
      rw [Bool.eq_iff_iff]; simp
    rw [this]; exact h)
theorem item_grM {value slice : PySem.Expr} {v : Value} (F : Fr g L s.heap m) (hl : g.IsList D ws.toArray) (h0 : 0 ≤ k) (h1 : k < 2 ^ 63) (hx : ws[k.toNat]? = some v) (h : Q v s)
    (hs : subscripted slice false (.ref D) (.int k t) = operate [.ref D, .int k t] (getItem (.ref D) (.int k t)) := by with_unfolding_all rfl) :
    wpAny (model prog w) A (subscriptTail value slice (.ref D) (.int k t)) Q E s :=
  tail_any (lsAt F hl).typeIs slot_list_getitem.lookup (wpAny_getItem_list (lsAt F hl) h0 h1 (by simpa using hx) h) hs
theorem ints_natM {vs : List Value} {cs : List Nat} (h : IntsAre vs (cs.map fun x : Nat => (x : Int))) {i : Nat} {v : Value} (hv : vs[i]? = some v) : ∃ (k : Nat) (t : Tok), v = .int (k : Int) t ∧ cs[i]? = some k := by
  obtain ⟨hi, -⟩ := List.getElem?_eq_some_iff.mp hv
  obtain ⟨n, t, e1, e2⟩ := IntsAre.at' h hi
  rw [hv] at e1
  cases e1
  rw [List.getElem?_map] at e2
  cases e3 : cs[i]? with
  | none => rw [e3] at e2; cases e2
  | some k => rw [e3] at e2; cases e2; exact ⟨k, t, rfl, rfl⟩
end
-- LibD
section
open PySem.Spec
noncomputable def leS (a b : Str) : Prop := ¬ (b.cps.toList < a.cps.toList)
theorem leS_trans {a b c : Str} (h1 : leS a b) (h2 : leS b c) : leS a c := by
  unfold leS at *
  rw [List.not_lt] at *
  exact List.le_trans h1 h2
theorem leS_anti {a b : Str} (h1 : leS a b) (h2 : leS b a) : a = b := by
  unfold leS at *
  rw [List.not_lt] at *
  have := List.le_antisymm h1 h2
  obtain ⟨x⟩ := a
  obtain ⟨y⟩ := b
  have : x.toList = y.toList := this
  have : x = y := Array.toList_inj.mp this
  rw [this]
theorem rising_pw : ∀ (p : Str) (l : List Str), risingS p l = true → (p :: l).Pairwise leS
  | p, [], _ => by simp
  | p, x :: r, h => by
    have h' : (!ltCps x.cps.toList p.cps.toList && risingS x r) = true := h
    rw [Bool.and_eq_true, Bool.not_eq_true', ltCps_eq, decide_eq_false_iff_not] at h'
    have ih := rising_pw x r h'.2
    rw [List.pairwise_cons]
    refine ⟨fun y hy => ?_, ih⟩
    rcases List.mem_cons.mp hy with rfl | hy
    · exact h'.1
    · exact leS_trans h'.1 ((List.pairwise_cons.mp ih).1 y hy)
theorem sorted_pw {l : List Str} (h : sortedS l = true) : l.Pairwise leS := by
  cases l with
  | nil => exact .nil
  | cons x r => exact rising_pw x r h
theorem sorted_unique : ∀ {a b : List Str}, a.Perm b → a.Pairwise leS → b.Pairwise leS → a = b
  | [], b, p, _, _ => (List.nil_perm.mp p).symm ▸ rfl
  | x :: a, [], p, _, _ => absurd p.length_eq (by simp)
  | x :: a, y :: b, p, ha, hb => by
    obtain ⟨ha1, ha2⟩ := List.pairwise_cons.mp ha
    obtain ⟨hb1, hb2⟩ := List.pairwise_cons.mp hb
    have hxy : x = y := by
      have h1 : x ∈ y :: b := p.mem_iff.mp (.head _)
      have h2 : y ∈ x :: a := p.mem_iff.mpr (.head _)
      rcases List.mem_cons.mp h1 with e | h1
      · exact e
      rcases List.mem_cons.mp h2 with e | h2
      · exact e.symm
      exact leS_anti (ha1 _ h2) (hb1 _ h1)
    subst hxy
    rw [sorted_unique ((List.perm_cons x).mp p) ha2 hb2]
/-- lists of sorted rows -/
noncomputable def rowsD (sss : List (List Str)) : PyData := .list (sss.map fun ss => .list (ss.map PyData.str))
noncomputable def heardD (nm : Nat → Str) (hh : Nat → List Nat) : PyData := .list ([0, 1, 2, 3, 4].map fun k => .list ((hh k).map fun s : Nat => PyData.tuple [.str (nm k), .int (s : Int)]))
noncomputable def RowAt (nw : Led) (v : Value) (ss : List Str) : Prop := ∃ a n ws, v = Value.ref a ∧ (a, lsO ws n) ∈ nw ∧ StrsAre ws ss
theorem RowAt.mono {nw nw' : Led} {v : Value} {ss : List Str} (h : RowAt nw v ss) (hs : ∀ q ∈ nw, q ∈ nw') : RowAt nw' v ss := by
  obtain ⟨a, n, ws, e, hm, hS⟩ := h
  exact ⟨a, n, ws, e, hs _ hm, hS⟩
/-- the rows are the sorted texts of these -/
noncomputable def RowsOk (tk : Nat → List Nat) (nm : Nat → Str) (i : Nat) (sss : List (List Str)) : Prop := sss.length = i ∧ ∀ j, j < i → ∃ ss, sss[j]? = some ss ∧ ss.Perm ((tk j).map nm) ∧ sortedS ss = true
theorem rowsOk_nil {tk : Nat → List Nat} {nm : Nat → Str} : RowsOk tk nm 0 [] := ⟨rfl, fun j h => absurd h (Nat.not_lt_zero _)⟩
theorem rowsOk_snoc {tk : Nat → List Nat} {nm : Nat → Str} {i : Nat} {sss : List (List Str)} {ss : List Str} (h : RowsOk tk nm i sss) (hp : ss.Perm ((tk i).map nm)) (hs : sortedS ss = true) : RowsOk tk nm (i + 1) (sss ++ [ss]) := by
  refine ⟨by simp [h.1], fun j hj => ?_⟩
  by_cases e : j = i
  · subst e
    exact ⟨ss, by rw [List.getElem?_append_right (by have := h.1; omega), h.1]; simp, hp, hs⟩
  · obtain ⟨ss', h1, h2⟩ := h.2 j (by k_extra "om")
    exact ⟨ss', by rw [List.getElem?_append_left (by rw [h.1]; omega)]; exact h1, h2⟩
theorem rowsOk_eq {tk tk' : Nat → List Nat} {nm : Nat → Str} {sss sss' : List (List Str)} (h : RowsOk tk nm 5 sss) (h' : RowsOk tk' nm 5 sss') (hp : ∀ j, j < 5 → (tk j).Perm (tk' j)) : sss = sss' := by
  apply List.ext_getElem?
  intro j
  by_cases hj : j < 5
  · obtain ⟨ss, h1, h2, h3⟩ := h.2 j hj
    obtain ⟨ss', h1', h2', h3'⟩ := h'.2 j hj
    rw [h1, h1']
    have := sorted_unique (h2.trans (((hp j hj).map nm).trans h2'.symm)) (sorted_pw h3) (sorted_pw h3')
    rw [this]
  · rw [List.getElem?_eq_none (by rw [h.1]; omega), List.getElem?_eq_none (by rw [h'.1]; omega)]
theorem reads_rows {h : Heap} {nw : Led} (N : ∀ q ∈ nw, h.get? q.1 = some q.2) {ys : List Value} {sss : List (List Str)} (H : All2 (RowAt nw) ys sss) : ∃ as, ReadsAll h ys (sss.map fun ss => .list (ss.map PyData.str)) as := by
  induction H with
  | nil => exact ⟨_, .nil⟩
  | cons h1 _ ih =>
    obtain ⟨a, n, ws, rfl, hm, hS⟩ := h1
    obtain ⟨as, ih⟩ := ih
    exact ⟨_, .cons (reads_list_at (N _ hm) rfl rfl (hS.reads h)) ih⟩
theorem all2_strs {nm : Nat → Str} {vs : List Value} {ss : List Nat} (H : All2 (fun v s => ∃ t, v = Value.str (nm s) t) vs ss) : StrsAre vs (ss.map nm) := by
  induction H with
  | nil => exact .nil
  | cons h1 _ ih =>
    obtain ⟨t, rfl⟩ := h1
    exact .cons _ _ ih
theorem canLay_strs : ∀ ss : List Str, (∀ x ∈ ss, PyData.strOk x = true) → PyData.canLayAll0 (ss.map PyData.str) = true
  | [], _ => rfl
  | x :: r, h => by
    have h1 := h x (.head _)
    have h2 := canLay_strs r fun y hy => h y (.tail _ hy)
    simp [PyData.canLayAll0, PyData.canLay0, h1, h2]
theorem canLay_rows : ∀ sss : List (List Str), (∀ ss ∈ sss, ∀ x ∈ ss, PyData.strOk x = true) → PyData.canLayAll0 (sss.map fun ss => .list (ss.map PyData.str)) = true
  | [], _ => rfl
  | x :: r, h => by
    have h1 := canLay_strs x (h x (.head _))
    have h2 := canLay_rows r fun y hy => h y (.tail _ hy)
    simp only [List.map_cons, PyData.canLayAll0, PyData.canLay0, h1, h2, Bool.and_self]
theorem canLay_tups {x : Str} (h : PyData.strOk x = true) : ∀ ss : List Nat, PyData.canLayAll0 (ss.map fun s : Nat => PyData.tuple [.str x, .int (s : Int)]) = true
  | [] => rfl
  | _ :: r => by
    have h2 := canLay_tups h r
    simp [PyData.canLayAll0, PyData.canLay0, h, h2]
theorem depth_strs : ∀ ss : List Str, PyData.depthAll (ss.map PyData.str) = 0
  | [] => rfl
  | _ :: r => by simp [PyData.depthAll, PyData.depth, depth_strs r]
theorem depth_rows : ∀ sss : List (List Str), PyData.depthAll (sss.map fun ss => .list (ss.map PyData.str)) ≤ 1
  | [] => by simp [PyData.depthAll]
  | x :: r => by
    have := depth_rows r
    simp [PyData.depthAll, PyData.depth, depth_strs x]
    omega
theorem depth_tups {x : Str} : ∀ ss : List Nat, PyData.depthAll (ss.map fun s : Nat => PyData.tuple [.str x, .int (s : Int)]) ≤ 1
  | [] => by simp [PyData.depthAll]
  | _ :: r => by
    have := depth_tups (x := x) r
    simp [PyData.depthAll, PyData.depth]
    omega
theorem shaped_tree {sss : List (List Str)} {nm : Nat → Str} {hh : Nat → List Nat} (h : ∀ ss ∈ sss, ∀ x ∈ ss, PyData.strOk x = true) (hn : ∀ k, k < 5 → PyData.strOk (nm k) = true) : SeqAt.shaped (.list [rowsD sss, heardD nm hh]) = true := by
  have h0 := depth_rows sss
  have h1 := depth_tups (x := nm 0) (hh 0)
  have h2 := depth_tups (x := nm 1) (hh 1)
  have h3 := depth_tups (x := nm 2) (hh 2)
  have h4 := depth_tups (x := nm 3) (hh 3)
  have h5 := depth_tups (x := nm 4) (hh 4)
  have c0 := canLay_rows sss h
  have c1 := canLay_tups (hn 0 (by k_extra "om")) (hh 0)
  have c2 := canLay_tups (hn 1 (by k_extra "om")) (hh 1)
  have c3 := canLay_tups (hn 2 (by k_extra "om")) (hh 2)
  have c4 := canLay_tups (hn 3 (by k_extra "om")) (hh 3)
  have c5 := canLay_tups (hn 4 (by k_extra "om")) (hh 4)
  simp only [SeqAt.shaped, PyData.canLay0, PyData.canLayAll0, rowsD, heardD, List.map_cons, List.map_nil, c0, c1, c2, c3, c4, c5, PyData.depth, PyData.depthAll, Bool.and_true, Bool.true_and, decide_eq_true_eq]
  have mx : ∀ {a b c : Nat}, a ≤ c → b ≤ c → max a b ≤ c := fun h1 h2 => Nat.max_le.mpr ⟨h1, h2⟩
  repeat' first
    | exact Nat.zero_le _
    | exact Nat.le_trans h0 (Nat.le_of_ble_eq_true rfl)
    | exact Nat.le_trans h1 (Nat.le_of_ble_eq_true rfl)
    | exact Nat.le_trans h2 (Nat.le_of_ble_eq_true rfl)
    | exact Nat.le_trans h3 (Nat.le_of_ble_eq_true rfl)
    | exact Nat.le_trans h4 (Nat.le_of_ble_eq_true rfl)
    | exact Nat.le_trans h5 (Nat.le_of_ble_eq_true rfl)
    | refine Nat.succ_le_succ ?_
    | refine mx ?_ ?_
theorem eqv_tree {sss : List (List Str)} {nm : Nat → Str} {hh : Nat → List Nat} (h : ∀ ss ∈ sss, ∀ x ∈ ss, PyData.strOk x = true) (hn : ∀ k, k < 5 → PyData.strOk (nm k) = true) : PyData.eqv (.list [rowsD sss, heardD nm hh]) (.list [rowsD sss, heardD nm hh]) = true := by
  have := shaped_tree (sss := sss) (nm := nm) (hh := hh) h hn
  unfold SeqAt.shaped at this
  rw [Bool.and_eq_true] at this
  exact SeqAt.eqv_refl _ this.1
end
-- C33
section
theorem lines42 : True := by
  k_with_none
  k_with "in" => first | with_reducible assumption | exact And.left (by with_reducible assumption) | exact And.left (And.right (by with_reducible assumption)) | exact And.left (And.right (And.right (by with_reducible assumption))) | exact And.left (And.right (And.right (And.right (by with_reducible assumption)))) | exact And.left (And.right (And.right (And.right (And.right (by with_reducible assumption))))) | exact And.left (And.right (And.right (And.right (And.right (And.right (by with_reducible assumption)))))) | exact And.left (And.right (And.right (And.right (And.right (And.right (And.right (by with_reducible assumption))))))) | exact And.left (And.right (And.right (And.right (And.right (And.right (And.right (And.right (by with_reducible assumption)))))))) | exact And.left (And.right (And.right (And.right (And.right (And.right (And.right (And.right (And.right (by with_reducible assumption))))))))) | exact And.left (And.right (And.right (And.right (And.right (And.right (And.right (And.right (And.right (And.right (by with_reducible assumption)))))))))) | exact And.left (And.right (And.right (And.right (And.right (And.right (And.right (And.right (And.right (And.right (And.right (by with_reducible assumption))))))))))) | exact And.left (And.right (And.right (And.right (And.right (And.right (And.right (And.right (And.right (And.right (And.right (And.right (by with_reducible assumption)))))))))))) | exact And.left (And.right (And.right (And.right (And.right (And.right (And.right (And.right (And.right (And.right (And.right (And.right (And.right (by with_reducible assumption))))))))))))) | exact And.left (And.right (And.right (And.right (And.right (And.right (And.right (And.right (And.right (And.right (And.right (And.right (And.right (And.right (by with_reducible assumption)))))))))))))) | exact And.left (And.right (And.right (And.right (And.right (And.right (And.right (And.right (And.right (And.right (And.right (And.right (And.right (And.right (And.right (by with_reducible assumption))))))))))))))) | exact And.right (by with_reducible assumption) | exact And.right (And.right (by with_reducible assumption)) | exact And.right (And.right (And.right (by with_reducible assumption))) | exact And.right (And.right (And.right (And.right (by with_reducible assumption)))) | exact And.right (And.right (And.right (And.right (And.right (by with_reducible assumption))))) | exact And.right (And.right (And.right (And.right (And.right (And.right (by with_reducible assumption)))))) | exact And.right (And.right (And.right (And.right (And.right (And.right (And.right (by with_reducible assumption))))))) | exact And.right (And.right (And.right (And.right (And.right (And.right (And.right (And.right (by with_reducible assumption)))))))) | exact And.right (And.right (And.right (And.right (And.right (And.right (And.right (And.right (And.right (by with_reducible assumption))))))))) | exact And.right (And.right (And.right (And.right (And.right (And.right (And.right (And.right (And.right (And.right (by with_reducible assumption)))))))))) | exact And.right (And.right (And.right (And.right (And.right (And.right (And.right (And.right (And.right (And.right (And.right (by with_reducible assumption))))))))))) | exact And.right (And.right (And.right (And.right (And.right (And.right (And.right (And.right (And.right (And.right (And.right (And.right (by with_reducible assumption)))))))))))) | exact And.right (And.right (And.right (And.right (And.right (And.right (And.right (And.right (And.right (And.right (And.right (And.right (And.right (by with_reducible assumption))))))))))))) | exact And.right (And.right (And.right (And.right (And.right (And.right (And.right (And.right (And.right (And.right (And.right (And.right (And.right (And.right (by with_reducible assumption))))))))))))))
  k_with "lt0" => first | with_reducible assumption | exact Nat.lt_trans (by with_reducible assumption) (by k_extra "lt0")
  k_with "lt" => first | k_extra "in" | exact Nat.lt_trans (by k_extra "in") (by k_extra "lt")
  k_with "ne0" => first | with_reducible assumption | exact Ne.symm (by with_reducible assumption) | exact Nat.succ_ne_self _ | exact Ne.symm (Nat.succ_ne_self _) | (refine Nat.ne_of_lt ?_; k_extra "lt0") | (refine Nat.ne_of_gt ?_; k_extra "lt0")
  k_with "ne1" => first | k_extra "in" | (refine Ne.symm ?_; k_extra "in") | (refine Nat.ne_of_lt ?_; k_extra "lt") | (refine Nat.ne_of_gt ?_; k_extra "lt")
  k_with "ne2" => first | (refine Nat.ne_of_lt ?_; k_extra "lt0") | (refine Nat.ne_of_gt ?_; k_extra "lt0") | (refine Nat.ne_of_lt (And.left (by with_reducible assumption)))  | (refine Nat.ne_of_gt (And.left (by with_reducible assumption))) | (refine Nat.ne_of_lt (Nat.lt_trans (And.right (by with_reducible assumption)) ?_); k_extra "lt0") | (refine Nat.ne_of_lt (And.right (by with_reducible assumption))) | (refine Nat.ne_of_gt (Nat.lt_trans ?_ (And.left (by with_reducible assumption))); k_extra "lt0")
  k_with "ne" => first | k_extra "ne0" | (refine Or.elim (by with_reducible assumption : @LT.lt Nat _ _ _ ∨ @LT.lt Nat _ _ _ ∧ @LT.lt Nat _ _ _) (fun q9 => ?_) (fun q9 => ?_); (all_goals k_extra "ne2")) | k_extra "ne1"
  k_with "ifs" => first | with_reducible rfl | exact Eq.trans (if_neg (by assumption)) (by k_extra "ifs")
  k_with "up" => first | exact up2 (by with_reducible assumption) rfl | exact up1 (by with_reducible assumption) rfl | exact up3 (by with_reducible assumption) rfl | exact up4 (by with_reducible assumption) rfl | exact up5 (by with_reducible assumption) rfl
  k_with "om" => first | with_reducible assumption | exact Nat.succ_pos _ | (with_reducible show @LT.lt Nat _ _ _; (try dsimp only); first | k_extra "lt0" | k_extra "up" | k_extra "lt") | (with_reducible show @Ne Nat _ _; k_extra "ne") | (with_reducible show @LT.lt Nat _ _ _ ∧ @LT.lt Nat _ _ _; refine And.intro ?_ ?_ <;> k_extra "om") | (with_reducible show @Eq Nat _ _; first | exact Nat.add_sub_add_right 6 1 _ | exact (Nat.add_sub_add_right 6 1 _).symm | exact Nat.succ_sub (by omega) | exact (Nat.succ_sub (by omega)).symm | exact Nat.sub_sub_self (by omega)) | omega
  k_with "k_room" => first | k_extra "up" | ((try simp only [depth_under_make, depth_under_kw, depth_in1, depth_deeper, depth_caller]); omega)
  k_with "tb_start" => first | assumption | omega | (simp only [List.length_cons, List.length_nil, List.length_append]; omega)
  k_with "tb_rel" => repeat' (first | exact List.forall_mem_nil _ | refine List.forall_mem_cons.mpr ⟨by first | exact Or.inr (by k_mem) | exact Or.inl (by simp), ?_⟩)
  k_with "k_units" => first | k_extra "up" | ((try simp only [units_in1, units_deeper, Around.mark_units, units_caller]); omega)
  k_with "call type:list" => (k_here; (with_reducible show wpAny _ _ (call (Value.type "list") [Value.str _ _]) _ _ _); k_dflt (refine' list_strN ?h ?F ?N ?z ?_; (case h => rfl); (case F => k_asm); (case N => k_asm); (case z => exact Nat.le_trans (by assumption) (Nat.le_of_ble_eq_true rfl)); k_whole); intro l₉ h₉ tk₉ vs₉ k₉ F₉ N₉ l1₉ hc₉; (try k_lt l1₉); (try k_sweep))
  k_with "truthy ref" => (k_here; k_dflt (refine' truthy_ls ?N ?m ?z ?_; (case N => k_asm); (case m => k_mem); (case z => tb_start)); (intro tk₉; (try dsimp only [List.isEmpty_cons, List.isEmpty_nil, Bool.not_false, Bool.not_true])))
  k_with "call builtin:list.pop" => (k_here; (with_reducible show wpAny _ _ (call (Value.builtin "list.pop") [Value.ref _, Value.int 0 _]) _ _ _); k_dflt (refine' pop0_N ?F ?N ?U ?z ?_; (case F => k_asm); (case N => k_asm); (case U => k_upd); (case z => tb_start)); (intro h₉ F₉ N₉; (try k_sweep)))
  k_with "call builtin:list.append" => (k_here; (with_reducible show wpAny _ _ (call (Value.builtin _) [Value.ref _, _]) _ _ _); k_dflt (refine' append_ls ?F ?N ?U ?z ?_; (case F => k_asm); (case N => k_asm); (case U => k_upd); (case z => tb_start)); (intro h₉ F₉ N₉; (try k_sweep)))
  k_with "exec For Name Name cons nil" => refine Stop.go ?_
  k_with "exec For Name Call cons nil" => refine Stop.go ?_
  k_with "CompSrc" => refine Stop.go ?_
  k_with "CompSrcT" => refine Stop.go ?_
  k_with "eval Name" => ((with_reducible show wpAny _ _ (eval (Expr.Name _ _) (compEnvC _ _ _ _)) _ _ _); first
  | refine LCgL.ld_built (by k_asm) (by k_asm) (by k_asm) (by k_is) (by boot_by_name) (by decide) ?_
  | refine LCgL.ld_global (by k_asm) (by k_asm) (by k_asm) (by k_is) ?_
  | refine LCgL.ld_own (by k_asm) (by k_mem) (by assumption) (by assumption) ?_)
  k_with "pyIter ref" => refine Stop.go ?_
  k_with "call builtin:len" => ((with_reducible show wpAny _ _ (call (Value.builtin "len") [Value.ref _]) _ _ _); (refine len_list (lsAt (by k_asm) (by with_reducible assumption)) (by simp; omega) ?_); (try simp only [List.size_toArray]))
  k_with "call ref" => ((with_reducible show wpAny _ _ (call (Value.ref 42) _) _ _ _); refine Stop.go ?_)
  k_with "call ref" => ((with_reducible show wpAny _ _ (call (Value.ref 182) _) _ _ _); refine Stop.go ?_)
  k_with "call ref" => ((with_reducible show wpAny _ _ (call (Value.ref 100) _) _ _ _); refine Stop.go ?_)
  k_with "call ref" => ((with_reducible show wpAny _ _ (call (Value.ref 114) _) _ _ _); refine Stop.go ?_)
  k_with "call ref" => ((with_reducible show wpAny _ _ (call (Value.ref 49) _) _ _ _); refine Stop.go ?_)
  k_with "call builtin:sorted" => refine Stop.go ?_
  k_with "call builtin:list.append" => refine Stop.go ?_
  k_with "compareOp In int ref" => (k_dflt (refine' in_gr ?F ?l ?i ?_; (case F => k_asm); (case l => with_reducible assumption); (case i => with_reducible assumption)))
  k_with "subscriptTail Name Constant str int" => ((with_reducible show wpAny _ _ (subscriptTail _ _ (Value.str _ _) (Value.int _ _)) _ _ _); k_dflt (refine' PyProof.Rows.item_str ?h0 ?h1 ?h2 ?_ ?hs ?ht; (case h0 => exact PyProof.Rows.fitsSsize_of (N := 9223372036854775808) (by k_extra "om") (by k_extra "om") (Int.le_refl _)); (case h1 => k_extra "om"); (case h2 => k_extra "om"); (case hs => with_unfolding_all rfl); (case ht => intro _; with_unfolding_all rfl)); intro hl1₉; (try dsimp only))
  k_with "subscriptTail Constant Name str int" => ((with_reducible show wpAny _ _ (subscriptTail _ _ (Value.str _ _) (Value.int _ _)) _ _ _); k_dflt (refine' PyProof.Rows.item_str ?h0 ?h1 ?h2 ?_ ?hs ?ht; (case h0 => exact PyProof.Rows.fitsSsize_of (N := 9223372036854775808) (by k_extra "om") (by k_extra "om") (Int.le_refl _)); (case h1 => rw [show (Str.ofString "01234").length = 5 from by decide +kernel]; omega); (case h2 => rw [show (Str.ofString "01234").length = 5 from by decide +kernel]; omega); (case hs => with_unfolding_all rfl); (case ht => intro _; with_unfolding_all rfl)); intro hl1₉; (try dsimp only))
  k_with "subscriptTail Name BinOp ref int" => ((with_reducible show wpAny _ _ (subscriptTail _ _ (Value.ref _) (Value.int _ _)) _ _ _); k_dflt (refine' item_gr ?F ?l ?h0 ?h1 ?hx ?_ ?hs; (case F => k_asm); (case l => with_reducible assumption); (case h0 => k_extra "om"); (case h1 => k_extra "om"); (case hx => with_reducible assumption); (case hs => with_unfolding_all rfl)); (try dsimp only))
  k_with "subscriptTail Name Name ref int" => ((with_reducible show wpAny _ _ (subscriptTail _ _ (Value.ref _) (Value.int _ _)) _ _ _); k_dflt (refine' item_ld ?N ?m ?h0 ?h1 ?hx ?_ ?hs; (case N => k_asm); (case hx => with_reducible assumption); (case m => k_mem); (case h0 => k_extra "om"); (case h1 => k_extra "om"); (case hs => with_unfolding_all rfl)))
  k_with "subscriptTail Name Name ref int" => ((with_reducible show wpAny _ _ (subscriptTail _ _ (Value.ref _) (Value.int _ _)) _ _ _); k_dflt (refine' item_gr ?F ?l ?h0 ?h1 ?hx ?_ ?hs; (case F => k_asm); (case l => with_reducible assumption); (case h0 => k_extra "om"); (case h1 => k_extra "om"); (case hx => with_reducible assumption); (case hs => with_unfolding_all rfl)))
  exact True.intro
local macro_rules | `(tactic| k_all) => `(tactic| with_reducible assumption)
theorem off1_mem {D : Addr} : ∀ (l : Led), LCg.Off1 D l → ∀ p ∈ l, @Ne Nat p.1 D
  | [], _, p, hp => nomatch hp
  | q :: r, h, p, hp => by
    rcases List.mem_cons.mp hp with rfl | hp
    · exact h.1
    · exact off1_mem r h.2 p hp
theorem updL_off1 {a b : Addr} {o : Obj} {led : Led} {f : Addr → Obj} (h : a ≠ b) : updL ((a, o) :: led) [b] f = (a, o) :: updL led [b] f := by
  unfold updL
  rw [List.map_cons, if_neg (fun q => h (List.mem_singleton.mp q))]
/-- what holds between two turns of the run -/
inductive RunInv (P : Params) (Z : RunP) (S : ASt) (nl fl bl cl : Addr) (m : Names) (news : Led) : Prop
  | mk (n0 : Nat) (t0 : Tok) (v1 v2 v3 v4 v5 v6 v7 : Option Value) (hn : n0 = S.left) (hm : m = (fun y => if y = Str.ofString "node" then v1 else if y = Str.ofString "letter" then v2 else if y = Str.ofString "sent" then v3 else if y = Str.ofString "name" then v4 else if y = Str.ofString "told" then v5 else if y = Str.ofString "order" then v6 else if y = Str.ofString "mark" then v7 else if y = Str.ofString "left" then some (Value.int (n0 : Int) t0) else if y = Str.ofString "heard" then some (Value.ref Z.hO) else if y = Str.ofString "taken" then some (Value.ref Z.tO) else List.lookup y [(Str.ofString "names", Value.ref nl), (Str.ofString "first", Value.ref fl), (Str.ofString "boxes", Value.ref bl), (Str.ofString "calls", Value.ref cl)].reverse)) (hl : LedOk P Z S news) : RunInv P Z S nl fl bl cl m news
section
variable {w : World} {p : Program} {loose : List Str} {mean : ExcName → Option Value} {mg mb : Str → Option Value} {dp un : Nat} {gd : Option (List Code)} {outs : List Env} {base h₀ : Heap} {s : Shared} {R : Result → Shared → Prop}
  (B : Below (AT dp un gd outs) base outs h₀) (X : (hd.heap_39 w.params).In h₀) (T : Top p loose mean mg mb h₀) (st : h₀.StaysIn s.heap) (hdp : dp + 24 < recursionLimit) (hu : un + 240 < cLine)
include B X T st hdp hu
theorem run_spec {nl fl bl cl : Addr} {nvs fvs cvs : List Value} {nm : Nat → Str} {first cs : List Nat} {gt : Nat → Nat → Bool} {cc : Nat} {ls : List Lex} {nw : Led} {tab : Obj} (XB : (hd.heap_39 w.params).In base) (TB : Top p loose mean mg mb base) (D : KtsDicts (outs.filterMap (·.frame)) h₀) (Cd : CodeHd base 148 144)
    (hnl : h₀.IsList nl nvs.toArray) (hn : ∀ k, k < 5 → ∃ t, nvs[k]? = some (.str (nm k) t)) (hgood : ∀ k, k < 5 → GoodNm (nm k) k) (hfl : h₀.IsList fl fvs.toArray) (hfI : IntsAre fvs (first.map fun x : Nat => (x : Int))) (hfn : first.length ≤ 5) (hRing : Ring first gt cc) (hgt : ∀ a b, gt a b = decide ((nm b).cps.toList < (nm a).cps.toList))
    (hbl : h₀.IsList bl (ls.map fun l : Lex => Value.ref l.x).toArray) (hll : ls.length = 5) (hInv : BoxInv w.params (TextOk nm (first.map fun x : Nat => (x : Int))) nw ls) (hTab : TabOk tab nw ls) (hcl : h₀.IsList cl cvs.toArray) (hcI : IntsAre cvs (cs.map fun x : Nat => (x : Int))) (hc5 : ∀ c ∈ cs, c < 5) (hcn : cs.length ≤ 1000) (N : Own h₀ s.heap nw)
    (hend : ∀ v n, n < 5 → ((cs.foldl (turn (stopQ first gt)) (st0 first v)).tk n).length < 64)
    (hret : ∀ (Z : RunP) (v : Nat → Bool) (b D : Addr) (k1 : Nat) (ys : List Value) (nwR led : Led) (sss : List (List Str)) (h' : Heap) (tk' : Nat), Z.Ok → Z.ls = ls → Z.nm = nm → LedOk w.params Z (cs.foldl (turn (stopQ first gt)) (st0 first v)) led →
      All2 (RowAt nwR) ys sss → RowsOk (cs.foldl (turn (stopQ first gt)) (st0 first v)).tk nm 5 sss → (∀ q ∈ (b, lsO [.ref D, .ref Z.hO] k1) :: (D, LCg.lst ys) :: (nwR ++ led), h'.get? q.1 = some q.2 ∧ h₀.get? q.1 = none) →
      (∀ q ∈ (b, lsO [.ref D, .ref Z.hO] k1) :: (D, LCg.lst ys) :: nwR, ∀ p ∈ led, q.1 ≠ p.1) → KeepsT (outs.filterMap (·.frame)) (nw.map (·.1)) s.heap h' → R (.ok (.ret (.ref b))) { s with heap := h', toks := tk' }) :
    codeAny (model PySem.Challenge.rw_wn0047_01.row.prog w) (AT dp un gd outs) (.call (.ref 187) ⟨[.ref nl, .ref fl, .ref bl, .ref cl], []⟩) R s := by
  have XB0 := XB
  revert XB X; k_fill; intro X XB
  have D' := dicts_own B st N D
  have hnl' : Heap.IsList (hideAll s.heap (nw.map (·.1))) nl nvs.toArray := hnl.at fun o e => (own_hide B st N).1 _ _ e
  have hfl' : Heap.IsList (hideAll s.heap (nw.map (·.1))) fl fvs.toArray := hfl.at fun o e => (own_hide B st N).1 _ _ e
  have hbl' : Heap.IsList (hideAll s.heap (nw.map (·.1))) bl (ls.map fun l : Lex => Value.ref l.x).toArray := hbl.at fun o e => (own_hide B st N).1 _ _ e
  have hcl' : Heap.IsList (hideAll s.heap (nw.map (·.1))) cl cvs.toArray := hcl.at fun o e => (own_hide B st N).1 _ _ e
  have hfl2 := intsLen hfI
  rw [List.length_map] at hfl2
  k_dflt (refine' enter (binds := [(Str.ofString "names", Value.ref nl), (Str.ofString "first", Value.ref fl), (Str.ofString "boxes", Value.ref bl), (Str.ofString "calls", Value.ref cl)]) B X T st N ?k6 ?k7 ?k8 ?k9 ?kB ?_ ?c2 ?c3 ?c4 ?c5; (case k6 => k_is); (case k7 => k_is); (case k8 => k_room); (case k9 => exact BindsTo.of_eq rfl); (case c5 => decide); (case kB => exact locs rfl); (case c2 => exact rfl); (case c3 => exact rfl); (case c4 => exact rfl))
  intro g L' h₁ tk gh F' N' B' X' T' l1
  (try k_lt l1)
  rw [← gh] at D' hnl' hfl' hbl' hcl'
  k_steps
  unfold Stop
  refine wpAny_For ?_
  k_steps
  unfold Stop
  (rename News _ _ _ _ => N1)
  (rename Fr _ _ _ _ => F1)
  refine run_init N1 (by assumption) ⟨by k_extra "om", by k_extra "om", by k_extra "om", by k_extra "om", by k_extra "om", by k_extra "om", by k_extra "om", by k_extra "om", by k_extra "om", by k_extra "om", by k_extra "om"⟩ hll hInv hTab hgood hRing.lt fun Z led v O e1 e2 e3 e4 H N2 hle => ?_
  subst e1 e2 e3 e4
  clear N1
  rw [hfl2] at F1
  refine pyForLst (Inv := fun g' i m news => KtsTurn (outs.filterMap (·.frame)) g g' ∧ Below (AT dp un gd outs) base outs g' ∧ RunInv w.params Z ((cs.take i).foldl (turn (stopQ first gt)) (st0 first v)) nl fl bl cl m news) rfl (fun i g' m news h hV F _ => lsAt F (list_turn hV.1 hcl')) (fr_set7 (Str.ofString "node") (Str.ofString "letter") (Str.ofString "sent") (Str.ofString "name") (Str.ofString "told") (Str.ofString "order") (Str.ofString "mark") F1 (fun _ _ _ _ _ _ _ _ => rfl)) N2 ⟨.refl, B', first.length, _, _, _, _, _, _, _, _, by rw [List.take_zero]; rfl, rfl, by rw [List.take_zero]; exact H⟩ ?turn ?fin
  case turn =>
    clear F1 N2 H hle
    repeat (rename @LT.lt Addr _ _ _ ∧ _ => hcl; clear hcl)
    repeat (rename ∀ p, p ∈ nw → p.1 < _ => hcl; clear hcl)
    intro I hlt i v9 g9 m news h tk o Nx Dn Rt E hvi hV hne F N3 hN hD
    obtain ⟨TT, BB, n0, t0, v1, v2, v3, v4, v5, v6, v7, hn0, rfl, H⟩ := hV
    obtain ⟨k, tkk, rfl, hci⟩ := ints_nat hcI hvi
    have hk5 : k < 5 := hc5 k (List.mem_of_getElem? hci)
    have IA := (inv_turns (cs := cs.take i) (fun c hc => hc5 c (List.mem_of_mem_take hc)) (inv0 (v := v) hRing)).1
    have hL0 : ((cs.take i).foldl (turn (stopQ first gt)) (st0 first v)).left ≤ 5 := Nat.le_trans turns_left hfn
    have hnext := take_at (Q := stopQ first gt) (S0 := st0 first v) hci
    have hlast : ((cs.take i).foldl (turn (stopQ first gt)) (st0 first v)).left = 0 → (cs.take cvs.length).foldl (turn (stopQ first gt)) (st0 first v) = (cs.take i).foldl (turn (stopQ first gt)) (st0 first v) := fun e => by
      have hcl2 := intsLen hcI
      rw [List.length_map] at hcl2
      rw [hcl2, List.take_length]
      conv => lhs; rw [← List.take_append_drop i cs, List.foldl_append]
      exact turns_stop e
    have hTK : ∀ k, (((cs.take i).foldl (turn (stopQ first gt)) (st0 first v)).tk k).length ≤ 1000 ∧ (((cs.take i).foldl (turn (stopQ first gt)) (st0 first v)).hd k).length ≤ 1000 := fun k => by
      have h1 := turns_tk (Q := stopQ first gt) (k := k) (cs := cs.take i) (S := st0 first v)
      have h2 : (cs.take i).length ≤ cs.length := by rw [List.length_take]; omega
      have h3 : ((st0 first v).tk k).length = 0 := rfl
      have h4 : ((st0 first v).hd k).length = 0 := rfl
      omega
    generalize hS : (cs.take i).foldl (turn (stopQ first gt)) (st0 first v) = S at H IA hL0 hnext hlast hn0 hTK
    have hpl : ∀ k, k < 5 → (S.bx k).pend.length ≤ 5 := fun k hk => Nat.le_trans (pend_le IA hk) hL0
    obtain ⟨l, hl, hbx⟩ := H.box k hk5
    have hxl : ((Z.ls.map fun l : Lex => Value.ref l.x))[((k : Nat) : Int).toNat]? = some (.ref l.x) := by
      rw [Int.toNat_natCast, List.getElem?_map, hl]; rfl
    have hbl9 := list_turn TT hbl'
    have hnl9 := list_turn TT hnl'
    have hfl9 := list_turn TT hfl'
    have X9 : (hd.heap_39 w.params).In g9 := XB.keeps BB.stays
    have T9 : Top p loose mean mg mb g9 := TB.keeps BB.stays
    obtain ⟨pm, u1, ln, pbs, pbn, sgs, sgn, hm, hp, hs⟩ := hbx
    have NF : News g9 L' h ((l.x, instObj 52 l.dx) :: (l.dx, lexD w.params l.k1 l.k2 l.k3 l.k4 u1 l.u3 ln (.ref l.st) (.ref l.pb)) :: (I, o) :: news) := fun q hq => by
      rcases List.mem_cons.mp hq with rfl | hq
      · exact N3 _ (.tail _ (hm _ (by k_mem)))
      rcases List.mem_cons.mp hq with rfl | hq
      · exact N3 _ (.tail _ (hm _ (by k_mem)))
      · exact N3 q hq
    clear N3
    k_steps
    · dsimp only
      (rename News _ _ _ _ => N9)
      (rename Fr _ _ _ _ => F9)
      (rename ((n0 : Nat) : Int) = 0 => hz)
      have e0 : S.left = 0 := by k_extra "om"
      refine hD _ _ _ _ _ ⟨TT, BB, n0, t0, _, _, _, _, _, _, _, by rw [hlast e0]; exact hn0, rfl, by rw [hlast e0]; exact H⟩ (fr_set7 (Str.ofString "node") (Str.ofString "letter") (Str.ofString "sent") (Str.ofString "name") (Str.ofString "told") (Str.ofString "order") (Str.ofString "mark") F9 (fun y h1 h2 h3 h4 h5 h6 h7 => by k_extra "ifs")) (fun q hq => N9 q (.tail _ (.tail _ (.tail _ hq))))
    · unfold Stop
      (rename News _ _ _ _ => N9)
      (rename Fr _ _ _ _ => F9)
      (rename ¬ ((n0 : Nat) : Int) = 0 => hz)
      have e0 : ¬ S.left = 0 := by k_extra "om"
      refine wpAny_call ?_
      refine token_call (L := L') (I := I) (o := o) (d := dp + 1) (u := un + 3) BB X9 T9 (by k_extra "om") (by k_extra "om") rfl rfl Cd O F9 (fun q hq => N9 q (.tail _ (.tail _ hq))) hne H hk5 hl (by have := hpl k hk5; omega) fun y b' t8 h8 tk8 led8 hc F8 N8 hne8 H8 => ?_
      clear F9 N9 hm hp hs
      dsimp only
      rcases hc with ⟨htk, rfl, rfl⟩ | ⟨x, htk, rfl, hx5⟩
      · k_steps
        dsimp only
        (rename News _ _ _ _ => N9)
        (rename Fr _ _ _ _ => F9)
        rw [upd_same] at H8
        refine hN _ _ _ _ _ ⟨TT, BB, n0, t0, _, _, _, _, _, _, _, by rw [hnext, turn_none (.inr htk)]; exact hn0, rfl, by rw [hnext, turn_none (.inr htk)]; exact H8⟩ hne8 (fr_set7 (Str.ofString "node") (Str.ofString "letter") (Str.ofString "sent") (Str.ofString "name") (Str.ofString "told") (Str.ofString "order") (Str.ofString "mark") F9 (fun y h1 h2 h3 h4 h5 h6 h7 => by k_extra "ifs")) N9
      have hteq := turn_eq (Q := stopQ first gt) e0 htk
      rw [← hnext] at hteq
      obtain ⟨tnk, hnk⟩ := hn k hk5
      have hnk' : nvs[((k : Nat) : Int).toNat]? = some (.str (Z.nm k) tnk) := by rw [Int.toNat_natCast]; exact hnk
      have hk2 : (k + 1) % 5 < 5 := Nat.mod_lt _ (by k_extra "om")
      obtain ⟨l2, hl2⟩ : ∃ l2, Z.ls[(k + 1) % 5]? = some l2 := ⟨_, List.getElem?_eq_getElem (by k_extra "om")⟩
      have hxl2 : ((Z.ls.map fun l : Lex => Value.ref l.x))[(Int.fmod ((k : Int) + 1) 5).toNat]? = some (.ref l2.x) := by
        rw [next_at, List.getElem?_map, hl2]; rfl
      have f0 : 0 ≤ Int.fmod ((k : Int) + 1) 5 := Int.fmod_nonneg_of_pos _ (by k_extra "om")
      have f1 : Int.fmod ((k : Int) + 1) 5 < 5 := Int.fmod_lt_of_pos _ (by k_extra "om")
      have hpl8 : (upd S.bx k b' ((k + 1) % 5)).pend.length ≤ 1000 := by
        rw [upd_ne (by k_extra "om")]
        have := hpl _ hk2
        omega
      cases x with
      | nm s' v' =>
        have LF := let_facts (hgood s' hx5) v'
        have hlne := LF.ne
        change ¬ strL Z.nm (.nm s' v') = Str.ofString "" at hlne
        have hdir : (⟨(dirn [] ((strL Z.nm (.nm s' v')).cps.toList.drop 5)).toArray⟩ : Str) = Z.nm s' := by
          show (⟨(dirn [] ((letB (Z.nm s') v').cps.toList.drop 5)).toArray⟩ : Str) = Z.nm s'
          rw [LF.dir, str_eta]
        obtain ⟨vsT, nT, hmT, hvT⟩ := H8.tk k hk5
        obtain ⟨nO, hmO⟩ := H8.tO
        have hxT := rows_at (f := Z.rT) hk5
        have NF : News g9 L' h8 ((Z.tO, lsO [.ref (Z.rT 0), .ref (Z.rT 1), .ref (Z.rT 2), .ref (Z.rT 3), .ref (Z.rT 4)] nO) :: (Z.rT k, lsO vsT nT) :: (I, o) :: led8) := fun q hq => by
          rcases List.mem_cons.mp hq with rfl | hq
          · exact N8 _ (.tail _ hmO)
          rcases List.mem_cons.mp hq with rfl | hq
          · exact N8 _ (.tail _ hmT)
          · exact N8 q hq
        clear N8
        k_steps
        · exact absurd (eq_of_beq (by assumption)) hlne
        · unfold Stop
          (rename News _ _ _ _ => N9)
          (rename Fr _ _ _ _ => F9)
          refine wpAny_call ?_
          refine call_ownC BB F9 X9 T9 N9 rfl rfl rfl fun h5 B5 X5 T5 s5 N5 => ?_
          refine named_name B5 X5 T5 s5 (by k_room) (by k_units) (own_sub N5 (fun _ q => nomatch q)) LF.len LF.p257 LF.p2 LF.five fun t5 h6 tk6 k6 => ?_
          have F6 := fr_keeps F9 k6 (fun _ q => nomatch q)
          have N6 := news_keeps0 N9 k6
          clear F9 N9 k6 N5 B5 X5 T5 s5
          dsimp only
          rw [hdir]
          k_steps
          unfold Stop
          (rename News _ _ _ _ => N9)
          (rename Fr _ _ _ _ => F9)
          refine append_ledI F9 (I := I) (o := o) (fun q hq => N9 q (.tail _ (.tail _ hq))) hne8 hmT (by rw [All2.length hvT]; have h1 := (hTK k).1; show (S.tk k).length ≤ 100000; omega) fun h7 F7 N7 hne7 k7 => ?_
          have H7 := led_T O (led_tail (led_tail (led_tail N9))) H8 hk5 hmT hvT (t := t5) (s := s')
          generalize hled7 : updL led8 [Z.rT k] (fun _ => lsO (vsT ++ [.str (Z.nm s') t5]) (nT + 1)) = led7 at N7 hne7 H7
          clear N9 F9 k7 H8 hmT hvT hmO hne8 hled7
          dsimp only
          k_steps
          unfold Stop
          (rename News _ _ _ _ => N9)
          (rename Fr _ _ _ _ => F9)
          refine wpAny_call ?_
          refine call_ownC BB F9 X9 T9 N9 rfl rfl rfl fun h5 B5 X5 T5 s5 N5 => ?_
          refine strcoll_spec B5 X5 T5 s5 (by k_room) (by k_units) (own_sub N5 (fun _ q => nomatch q)) fun t6 h6 tk6 k6 => ?_
          have F6 := fr_keeps F9 k6 (fun _ q => nomatch q)
          have N6 := news_keeps0 N9 k6
          clear F9 N9 k6 N5 B5 X5 T5 s5
          dsimp only
          rw [← hgt, ← hgt]
          obtain ⟨ord, hord⟩ : ∃ ord, ord = b2i (gt s' k) - b2i (gt k s') := ⟨_, rfl⟩
          rw [← hord]
          obtain ⟨l2', hl2', pm2, u12, ln2, pbs2, pbn2, sgs2, sgn2, hm2, -, -⟩ := H7.box _ hk2
          rw [hl2] at hl2'
          cases hl2'
          have NF2 : News g9 L' h6 ((l2.x, instObj 52 l2.dx) :: (l2.dx, lexD w.params l2.k1 l2.k2 l2.k3 l2.k4 u12 l2.u3 ln2 (.ref l2.st) (.ref l2.pb)) :: (I, o) :: led7) := fun q hq => by
            rcases List.mem_cons.mp hq with rfl | hq
            · exact N6 _ (.tail _ (hm2 _ (by k_mem)))
            rcases List.mem_cons.mp hq with rfl | hq
            · exact N6 _ (.tail _ (hm2 _ (by k_mem)))
            · exact N6 q hq
          clear N6
          have hnl3 := (let_facts (hgood k hk5) true).nlen
          k_steps
          · unfold Stop
            (rename News _ _ _ _ => N9)
            (rename Fr _ _ _ _ => F9)
            (rename 0 < ord => hlt0)
            have hsent := sent_gt (s := s') (v := v') hRing hord hlt0
            have e9 : (cs.take (i + 1)).foldl (turn (stopQ first gt)) (st0 first v) = (⟨upd (upd S.bx k b') ((k + 1) % 5) ((upd S.bx k b' ((k + 1) % 5)).push (.nm s' v')), tkOf S.tk k (.nm s' v'), hdOf S.hd k (.nm s' v'), S.left⟩ : ASt) := hteq.trans (by rw [show sentQ (stopQ first gt (Lt.nm s' v').snd) k (Lt.nm s' v') = some (.nm s' v') from hsent])
            refine wpAny_call ?_
            refine push_call (L := L') (I := I) (o := o) (d := dp + 1) (u := un + 3) (y := .nm s' v') BB X9 T9 (by k_extra "om") (by k_extra "om") rfl rfl O F9 (fun q hq => N9 q (.tail _ (.tail _ hq))) hne7 H7 hk2 hl2 hpl8 hx5 fun h8 tk8 led9 F8 N8 hne9 H9 => ?_
            clear F9 N9
            dsimp only
            k_steps
            (try dsimp only)
            (rename News _ _ _ _ => N9)
            (rename Fr _ _ _ _ => F9)
            rw [show ((n0 : Int) - 1 + 1) = (n0 : Int) from by k_extra "om"] at F9
            refine hN _ _ _ _ _ ⟨TT, BB, n0, _, _, _, _, _, _, _, _, by rw [e9]; exact hn0, rfl, by rw [e9]; exact H9.of rfl rfl rfl⟩ hne9 (fr_set8 (Str.ofString "node") (Str.ofString "letter") (Str.ofString "sent") (Str.ofString "name") (Str.ofString "told") (Str.ofString "order") (Str.ofString "mark") (Str.ofString "left") F9 (fun y h1 h2 h3 h4 h5 h6 h7 h8 => by k_extra "ifs")) N9
          · exact absurd (by assumption : (strL Z.nm (.nm s' v') != Str.ofString "") = false) (fun q => hlne (by simpa using q))
          · unfold Stop
            (rename News _ _ _ _ => N9)
            (rename Fr _ _ _ _ => F9)
            (rename List.any _ _ = _ => hany)
            (rename ord = 0 => hz0)
            obtain ⟨hsk, hsent⟩ := sent_self (s := s') (v := v') hRing hany hx5 hk5 hord hz0
            have e9 : (cs.take (i + 1)).foldl (turn (stopQ first gt)) (st0 first v) = (⟨upd (upd S.bx k b') ((k + 1) % 5) ((upd S.bx k b' ((k + 1) % 5)).push (.td k)), tkOf S.tk k (.nm s' v'), hdOf S.hd k (.nm s' v'), S.left⟩ : ASt) := hteq.trans (by rw [show sentQ (stopQ first gt (Lt.nm s' v').snd) k (Lt.nm s' v') = some (.td k) from hsent])
            refine wpAny_call ?_
            refine push_call (L := L') (I := I) (o := o) (d := dp + 1) (u := un + 3) (y := .td k) BB X9 T9 (by k_extra "om") (by k_extra "om") rfl rfl O F9 (fun q hq => N9 q (.tail _ (.tail _ hq))) hne7 H7 hk2 hl2 hpl8 hk5 fun h8 tk8 led9 F8 N8 hne9 H9 => ?_
            clear F9 N9
            dsimp only
            k_steps
            (try dsimp only)
            (rename News _ _ _ _ => N9)
            (rename Fr _ _ _ _ => F9)
            rw [show ((n0 : Int) - 1 + 1) = (n0 : Int) from by k_extra "om"] at F9
            refine hN _ _ _ _ _ ⟨TT, BB, n0, _, _, _, _, _, _, _, _, by rw [e9]; exact hn0, rfl, by rw [e9]; exact H9.of rfl rfl rfl⟩ hne9 (fr_set8 (Str.ofString "node") (Str.ofString "letter") (Str.ofString "sent") (Str.ofString "name") (Str.ofString "told") (Str.ofString "order") (Str.ofString "mark") (Str.ofString "left") F9 (fun y h1 h2 h3 h4 h5 h6 h7 h8 => by k_extra "ifs")) N9
          · exact absurd (by assumption : (strL Z.nm (.td k) != Str.ofString "") = false) (fun q => (told_facts (hgood k hk5)).ne (by show strL Z.nm (.td k) = Str.ofString ""; simpa using q))
          · dsimp only
            (rename News _ _ _ _ => N9)
            (rename Fr _ _ _ _ => F9)
            (rename List.any _ _ = _ => hany)
            (rename ¬ 0 < ord => hlt0)
            (rename ord ≠ 0 => hz0)
            have hsent := sent_stop (s := s') (v := v') hRing hany hord hlt0 hz0
            have e9 : (cs.take (i + 1)).foldl (turn (stopQ first gt)) (st0 first v) = (⟨upd S.bx k b', tkOf S.tk k (.nm s' v'), hdOf S.hd k (.nm s' v'), S.left - 1⟩ : ASt) := hteq.trans (by rw [show sentQ (stopQ first gt (Lt.nm s' v').snd) k (Lt.nm s' v') = none from hsent])
            rw [show ((n0 : Int) - 1) = ((n0 - 1 : Nat) : Int) from by k_extra "om"] at F9
            refine hN _ _ _ _ _ ⟨TT, BB, n0 - 1, _, _, _, _, _, _, _, _, by rw [e9, hn0], rfl, by rw [e9]; exact H7.of rfl rfl rfl⟩ hne7 (fr_set8 (Str.ofString "node") (Str.ofString "letter") (Str.ofString "sent") (Str.ofString "name") (Str.ofString "told") (Str.ofString "order") (Str.ofString "mark") (Str.ofString "left") F9 (fun y h1 h2 h3 h4 h5 h6 h7 h8 => by k_extra "ifs")) (fun q hq => N9 q (.tail _ (.tail _ hq)))
          · unfold Stop
            (rename News _ _ _ _ => N9)
            (rename Fr _ _ _ _ => F9)
            (rename List.any _ _ = _ => hany)
            have hsent := sent_away (gt := gt) (s := s') (v := v') hany
            have e9 : (cs.take (i + 1)).foldl (turn (stopQ first gt)) (st0 first v) = (⟨upd (upd S.bx k b') ((k + 1) % 5) ((upd S.bx k b' ((k + 1) % 5)).push (.nm s' v')), tkOf S.tk k (.nm s' v'), hdOf S.hd k (.nm s' v'), S.left⟩ : ASt) := hteq.trans (by rw [show sentQ (stopQ first gt (Lt.nm s' v').snd) k (Lt.nm s' v') = some (.nm s' v') from hsent])
            refine wpAny_call ?_
            refine push_call (L := L') (I := I) (o := o) (d := dp + 1) (u := un + 3) (y := .nm s' v') BB X9 T9 (by k_extra "om") (by k_extra "om") rfl rfl O F9 (fun q hq => N9 q (.tail _ (.tail _ hq))) hne7 H7 hk2 hl2 hpl8 hx5 fun h8 tk8 led9 F8 N8 hne9 H9 => ?_
            clear F9 N9
            dsimp only
            k_steps
            (try dsimp only)
            (rename News _ _ _ _ => N9)
            (rename Fr _ _ _ _ => F9)
            rw [show ((n0 : Int) - 1 + 1) = (n0 : Int) from by k_extra "om"] at F9
            refine hN _ _ _ _ _ ⟨TT, BB, n0, _, _, _, _, _, _, _, _, by rw [e9]; exact hn0, rfl, by rw [e9]; exact H9.of rfl rfl rfl⟩ hne9 (fr_set8 (Str.ofString "node") (Str.ofString "letter") (Str.ofString "sent") (Str.ofString "name") (Str.ofString "told") (Str.ofString "order") (Str.ofString "mark") (Str.ofString "left") F9 (fun y h1 h2 h3 h4 h5 h6 h7 h8 => by k_extra "ifs")) N9
          · exact absurd (by assumption : (strL Z.nm (.nm s' v') != Str.ofString "") = false) (fun q => hlne (by simpa using q))
      | td s' =>
        have LF := told_facts (hgood s' hx5)
        have hlne := LF.ne
        change ¬ strL Z.nm (.td s') = Str.ofString "" at hlne
        obtain ⟨vsH, nH, hmH, hvH⟩ := H8.hd k hk5
        obtain ⟨nO, hmO⟩ := H8.hO
        have hxH := rows_at (f := Z.rH) hk5
        k_steps
        · exact absurd (eq_of_beq (by assumption)) hlne
        · unfold Stop
          (rename News _ _ _ _ => N9)
          (rename Fr _ _ _ _ => F9)
          refine wpAny_call ?_
          refine call_ownD BB F9 X9 T9 N9 (D'.turn TT) rfl rfl rfl fun h5 B5 X5 T5 s5 N5 D5 => ?_
          refine named_told B5 X5 T5 s5 (by k_room) (by k_units) XB0 TB D5 (own_sub N5 (fun _ q => nomatch q)) LF.len LF.p257 fun h6 tk6 k6 => ?_
          obtain ⟨g6, T6, F6, B6⟩ := turn_ground rfl BB F9 k6 (fun _ q => nomatch q)
          have N6 := turn_news rfl BB N9 k6 T6
          have hnl6 := list_turn T6 hnl9
          have hbl6 := list_turn T6 hbl9
          have hfl6 := list_turn T6 hfl9
          have TT6 := TT.trans T6
          have X6 : (hd.heap_39 w.params).In g6 := XB0.keeps B6.stays
          have TP6 : Top p loose mean mg mb g6 := TB.keeps B6.stays
          clear N9 F9 k6 N5 B5 X5 T5 s5 D5 T6 TT BB X9 T9 hnl9 hbl9 hfl9
          have NF : News g6 L' h6 ((Z.hO, lsO [.ref (Z.rH 0), .ref (Z.rH 1), .ref (Z.rH 2), .ref (Z.rH 3), .ref (Z.rH 4)] nO) :: (Z.rH k, lsO vsH nH) :: (I, o) :: led8) := fun q hq => by
            rcases List.mem_cons.mp hq with rfl | hq
            · exact N6 _ (.tail _ hmO)
            rcases List.mem_cons.mp hq with rfl | hq
            · exact N6 _ (.tail _ hmH)
            · exact N6 q hq
          clear N6
          dsimp only
          k_steps
          unfold Stop
          (rename News _ _ _ _ => N9)
          (rename Fr _ _ _ _ => F9)
          refine wpAny_call ?_
          refine call_ownC B6 F9 X6 TP6 N9 rfl rfl rfl fun h5 B5 X5 T5 s5 N5 => ?_
          refine p229_spec (ms := Str.ofString "") B5 X5 T5 s5 (by k_room) (by k_units) (own_sub N5 (fun q hq => by cases List.mem_singleton.mp hq; exact .head _)) LF.len LF.f1 LF.f2 LF.f3 LF.f4 LF.f5 LF.f6 LF.f7 LF.f8 LF.f9 fun a t5 k5 h7 tk7 k7 ha hna => ?_
          have F7 := fr_keeps F9 k7 (fun _ q => nomatch q)
          have N7 := news_keeps0 N9 k7
          have hIa : a ≠ I := by
            intro e
            have := (N9 (I, o) (by k_mem)).1
            rw [← e, hna] at this; cases this
          have hHa : a ≠ Z.rH k := by
            intro e
            have := (N9 (Z.rH k, lsO vsH nH) (by k_mem)).1
            rw [← e, hna] at this; cases this
          have NT : News g6 L' h7 ((Z.hO, lsO [.ref (Z.rH 0), .ref (Z.rH 1), .ref (Z.rH 2), .ref (Z.rH 3), .ref (Z.rH 4)] nO) :: (Z.rH k, lsO vsH nH) :: (I, o) :: (a, tuO [.str (Z.nm k) tnk, .int (s' : Int) t5] k5) :: led8) := fun q hq => by
            rcases List.mem_cons.mp hq with rfl | hq
            · exact N7 _ (by k_mem)
            rcases List.mem_cons.mp hq with rfl | hq
            · exact N7 _ (by k_mem)
            rcases List.mem_cons.mp hq with rfl | hq
            · exact N7 _ (by k_mem)
            rcases List.mem_cons.mp hq with rfl | hq
            · exact ⟨ha, fresh_gr F9 hna⟩
            · exact N7 q (.tail _ (.tail _ (.tail _ (.tail _ hq))))
          clear N9 F9 k7 N5 B5 X5 T5 s5 N7 ha hna
          dsimp only
          k_steps
          unfold Stop
          (rename News _ _ _ _ => N9)
          (rename Fr _ _ _ _ => F9)
          refine append_ledI F9 (I := I) (o := o) (led := (a, tuO [.str (Z.nm k) tnk, .int (s' : Int) t5] k5) :: led8) (fun q hq => N9 q (.tail _ (.tail _ hq))) (List.forall_mem_cons.mpr ⟨hIa, hne8⟩) (.tail _ hmH) (by rw [All2.length hvH]; have h1 := (hTK k).2; show (S.hd k).length ≤ 100000; omega) fun h7 F7 N7 hne7 k7 => ?_
          have H7 := led_H O (led_tail (led_tail (led_tail (led_tail N9)))) H8 hk5 hmH hvH (a := a) (t1 := tnk) (t2 := t5) (s := s') (n2 := k5)
          rw [updL_off1 hHa] at N7 hne7
          generalize hled7 : updL led8 [Z.rH k] (fun _ => lsO (vsH ++ [.ref a]) (nH + 1)) = led7 at N7 hne7 H7
          clear N9 F9 k7 H8 hmH hvH hmO hne8 hled7
          obtain ⟨l2', hl2', pm2, u12, ln2, pbs2, pbn2, sgs2, sgn2, hm2, -, -⟩ := H7.box _ hk2
          rw [hl2] at hl2'
          cases hl2'
          have NF2 : News g6 L' h7 ((l2.x, instObj 52 l2.dx) :: (l2.dx, lexD w.params l2.k1 l2.k2 l2.k3 l2.k4 u12 l2.u3 ln2 (.ref l2.st) (.ref l2.pb)) :: (I, o) :: (a, tuO [.str (Z.nm k) tnk, .int (s' : Int) t5] k5) :: led7) := fun q hq => by
            rcases List.mem_cons.mp hq with rfl | hq
            · exact N7 _ (.tail _ (hm2 _ (by k_mem)))
            rcases List.mem_cons.mp hq with rfl | hq
            · exact N7 _ (.tail _ (hm2 _ (by k_mem)))
            · exact N7 q hq
          clear N7
          dsimp only
          k_steps
          · unfold Stop
            (rename News _ _ _ _ => N9)
            (rename Fr _ _ _ _ => F9)
            (rename ¬ ((s' : Nat) : Int) = ((k : Nat) : Int) => hsk)
            have e9 : (cs.take (i + 1)).foldl (turn (stopQ first gt)) (st0 first v) = (⟨upd (upd S.bx k b') ((k + 1) % 5) ((upd S.bx k b' ((k + 1) % 5)).push (.td s')), tkOf S.tk k (.td s'), hdOf S.hd k (.td s'), S.left⟩ : ASt) := hteq.trans (by rw [show sentQ (stopQ first gt (Lt.td s').snd) k (Lt.td s') = some (.td s') from if_neg (fun e => hsk (by rw [e]))])
            refine wpAny_call ?_
            refine push_call (L := L') (I := I) (o := o) (d := dp + 1) (u := un + 3) (y := .td s') B6 X6 TP6 (by k_extra "om") (by k_extra "om") rfl rfl O F9 (fun q hq => N9 q (.tail _ (.tail _ hq))) hne7 H7 hk2 hl2 hpl8 hx5 fun h8 tk8 led9 F8 N8 hne9 H9 => ?_
            clear F9 N9
            dsimp only
            k_steps
            (try dsimp only)
            (rename News _ _ _ _ => N9)
            (rename Fr _ _ _ _ => F9)
            rw [show ((n0 : Int) - 1 + 1) = (n0 : Int) from by k_extra "om"] at F9
            refine hN _ _ _ _ _ ⟨TT6, B6, n0, _, _, _, _, _, _, _, _, by rw [e9]; exact hn0, rfl, by rw [e9]; exact H9.of rfl rfl rfl⟩ hne9 (fr_set8 (Str.ofString "node") (Str.ofString "letter") (Str.ofString "sent") (Str.ofString "name") (Str.ofString "told") (Str.ofString "order") (Str.ofString "mark") (Str.ofString "left") F9 (fun y h1 h2 h3 h4 h5 h6 h7 h8 => by k_extra "ifs")) N9
          · exact absurd (by assumption : (strL Z.nm (.td s') != Str.ofString "") = false) (fun q => hlne (by simpa using q))
          · dsimp only
            (rename News _ _ _ _ => N9)
            (rename Fr _ _ _ _ => F9)
            (rename ((s' : Nat) : Int) = ((k : Nat) : Int) => hsk)
            have e9 : (cs.take (i + 1)).foldl (turn (stopQ first gt)) (st0 first v) = (⟨upd S.bx k b', tkOf S.tk k (.td s'), hdOf S.hd k (.td s'), S.left - 1⟩ : ASt) := hteq.trans (by rw [show sentQ (stopQ first gt (Lt.td s').snd) k (Lt.td s') = none from if_pos (by k_extra "om")])
            rw [show ((n0 : Int) - 1) = ((n0 - 1 : Nat) : Int) from by k_extra "om"] at F9
            refine hN _ _ _ _ _ ⟨TT6, B6, n0 - 1, _, _, _, _, _, _, _, _, by rw [e9, hn0], rfl, by rw [e9]; exact H7.of rfl rfl rfl⟩ hne7 (fr_set8 (Str.ofString "node") (Str.ofString "letter") (Str.ofString "sent") (Str.ofString "name") (Str.ofString "told") (Str.ofString "order") (Str.ofString "mark") (Str.ofString "left") F9 (fun y h1 h2 h3 h4 h5 h6 h7 h8 => by k_extra "ifs")) (fun q hq => N9 q (.tail _ (.tail _ hq)))
  case fin =>
    intro g9 m news h tk hV F N3
    obtain ⟨TT, BB, n0, t0, v1, v2, v3, v4, v5, v6, v7, hn0, rfl, H⟩ := hV
    clear F1 N2
    have X9 : (hd.heap_39 w.params).In g9 := XB.keeps BB.stays
    have T9 : Top p loose mean mg mb g9 := TB.keeps BB.stays
    have hcl2 := intsLen hcI
    rw [List.length_map] at hcl2
    rw [hcl2, List.take_length] at H
    have hLen := hend v
    have hret2 := hret Z v
    clear hn0
    generalize hS : cs.foldl (turn (stopQ first gt)) (st0 first v) = S at H hLen hret2
    obtain ⟨nO, hmO⟩ := H.tO
    obtain ⟨nH, hmH⟩ := H.hO
    have NF : News g9 L' h ((Z.tO, lsO [.ref (Z.rT 0), .ref (Z.rT 1), .ref (Z.rT 2), .ref (Z.rT 3), .ref (Z.rT 4)] nO) :: news) := fun q hq => by
      rcases List.mem_cons.mp hq with rfl | hq
      · exact N3 _ hmO
      · exact N3 q hq
    clear N3
    k_steps
    unfold Stop
    (rename News _ _ _ _ => N1)
    (rename Fr _ _ _ _ => F1)
    refine LCg.CompSrc.ledger (k := nO) rfl F1 N1 (.head _) (by rw [sizeLine_eq]; exact Nat.le_of_ble_eq_true rfl) fun g' => compRest_ind (n := 5) (Inv := fun i ys nw => ∃ nwR, nw = nwR ++ ((Z.tO, lsO [.ref (Z.rT 0), .ref (Z.rT 1), .ref (Z.rT 2), .ref (Z.rT 3), .ref (Z.rT 4)] nO) :: news) ∧ (∀ q ∈ nwR, ∀ p ∈ news, q.1 ≠ p.1) ∧ ∃ sss, All2 (RowAt nwR) ys sss ∧ RowsOk S.tk Z.nm i sss) ?tn ?fn 5 0 [] _ rfl ⟨[], rfl, (fun q hq => (nomatch hq)), [], .nil, rowsOk_nil⟩
    case tn =>
      intro i ys nw v9 I oI C oC D m₂ h tk E' Nx hi hP hV hC hm F N off ne hN
      obtain ⟨nwR, rfl, hdis, sss, hA, hR⟩ := hV
      have hP2 := rows_at (f := Z.rT) hi
      rw [Int.toNat_natCast] at hP2
      have hv : v9 = .ref (Z.rT i) := by
        have : ([Value.ref (Z.rT 0), .ref (Z.rT 1), .ref (Z.rT 2), .ref (Z.rT 3), .ref (Z.rT 4)] : List Value)[i]? = some v9 := by simpa using hP
        rw [hP2] at this
        exact (Option.some.inj this).symm
      subst hv
      obtain ⟨vs, n, hm1, hm2⟩ := H.tk i hi
      clear F1 N1
      k_steps
      unfold Stop
      (rename News _ _ _ _ => N9)
      (rename Fr _ _ _ _ => F9)
      refine sorted_N_str F9 N9 ⟨_, (N9 (Z.rT i, lsO vs n) (.tail _ (.tail _ (.tail _ (List.mem_append_right _ (.tail _ hm1)))))).1, rfl, n, rfl⟩ (all2_strs hm2) (by rw [All2.length hm2]; exact hLen i hi) fun h5 vs' ss' e F5 N5 hS5 hp5 hs5 => ?_
      dsimp only at N5 ⊢
      have big : ∀ p ∈ (I, oI) :: (C, oC) :: (D, LCg.lst ys) :: (nwR ++ ((Z.tO, lsO [.ref (Z.rT 0), .ref (Z.rT 1), .ref (Z.rT 2), .ref (Z.rT 3), .ref (Z.rT 4)] nO) :: news)), @Ne Nat (h.objs.size + 1) p.1 := fun p hp => Nat.ne_of_gt (Nat.lt_succ_of_lt (Heap.lt_size (N9 p hp).1))
      refine hN _ h5 _ ((h.objs.size + 1, lsO vs' e) :: (nwR ++ ((Z.tO, lsO [.ref (Z.rT 0), .ref (Z.rT 1), .ref (Z.rT 2), .ref (Z.rT 3), .ref (Z.rT 4)] nO) :: news))) F5 (fun q hq => ?_) ⟨⟨big _ (.head _), big _ (.tail _ (.head _)), big _ (.tail _ (.tail _ (.head _)))⟩, off⟩ (.inr ⟨_, .tail _ (List.mem_append_right _ (.head _)), rfl, _, rfl⟩) ⟨(h.objs.size + 1, lsO vs' e) :: nwR, rfl, List.forall_mem_cons.mpr ⟨fun p hp => big p (.tail _ (.tail _ (.tail _ (List.mem_append_right _ (.tail _ hp))))), hdis⟩, sss ++ [ss'], all2_snoc (all2_imp hA fun v ss h => RowAt.mono h fun q hq => .tail _ hq) ⟨_, e, vs', rfl, .head _, hS5⟩, rowsOk_snoc hR hp5 hs5⟩
      rcases List.mem_cons.mp hq with rfl | hq
      · exact N5 _ (.tail _ (.head _))
      rcases List.mem_cons.mp hq with rfl | hq
      · exact N5 _ (.tail _ (.tail _ (.head _)))
      rcases List.mem_cons.mp hq with rfl | hq
      · exact N5 _ (.tail _ (.tail _ (.tail _ (.head _))))
      rcases List.mem_cons.mp hq with rfl | hq
      · exact N5 _ (.head _)
      · exact N5 q (.tail _ (.tail _ (.tail _ (.tail _ hq))))
    case fn =>
      intro ys nw hI D h tk F N off
      have hmark9 : True := trivial
      obtain ⟨nwR, rfl, hdis, sss, hA, hR⟩ := hI
      clear F1 N1
      have off1 := off1_mem _ off
      generalize hnw : nwR ++ ((Z.tO, lsO [.ref (Z.rT 0), .ref (Z.rT 1), .ref (Z.rT 2), .ref (Z.rT 3), .ref (Z.rT 4)] nO) :: news) = nw9 at N off off1
      k_steps
      (rename News _ _ _ _ => N9)
      (rename Fr _ _ _ _ => F9)
      (rename _ ∧ AllLt _ nw9 => hb)
      have sub1 : ∀ q ∈ nwR, q ∈ nw9 := fun q hq => by rw [← hnw]; exact List.mem_append_left _ hq
      have sub2 : ∀ q ∈ news, q ∈ nw9 := fun q hq => by rw [← hnw]; exact List.mem_append_right _ (.tail _ hq)
      have fresh : ∀ a, g9.get? a = none → h₀.get? a = none := fun a ha => by
        cases e : h₀.get? a with
        | none => rfl
        | some o9 =>
          have e2 : g.get? a = some o9 := by rw [gh]; exact (own_hide B st N).1 _ _ e
          obtain ⟨sl, e3⟩ := TT.up e2
          rw [ha] at e3; cases e3
      have one : ∀ q, q ∈ _ → _ := fun q hq => (⟨(N9 q hq).1, fresh _ (N9 q hq).2.2⟩ : _ ∧ _)
      refine hret2 _ D 0 ys nwR news sss _ _ O rfl rfl H hA hR (fun q hq => ?_) (fun q hq p hp => ?_) (keepsT_as gh N TT F9 N9 (fun p hp => .inl (List.mem_map_of_mem hp)))
      · rcases List.mem_cons.mp hq with rfl | hq
        · exact one _ (.head _)
        rcases List.mem_cons.mp hq with rfl | hq
        · exact one _ (.tail _ (.head _))
        rcases List.mem_append.mp hq with hq | hq
        · exact one _ (.tail _ (.tail _ (sub1 _ hq)))
        · exact one _ (.tail _ (.tail _ (sub2 _ hq)))
      · have hp9 := sub2 _ hp
        rcases List.mem_cons.mp hq with rfl | hq
        · exact Nat.ne_of_gt (ktn_ltOf hb.2 p hp9)
        rcases List.mem_cons.mp hq with rfl | hq
        · exact Ne.symm (off1 p hp9)
        · exact hdis q hq p hp
end
end
-- C34
section
theorem lines43 : True := by
  k_with_none
  k_with "in" => first | with_reducible assumption | exact And.left (by with_reducible assumption) | exact And.left (And.right (by with_reducible assumption)) | exact And.left (And.right (And.right (by with_reducible assumption))) | exact And.left (And.right (And.right (And.right (by with_reducible assumption)))) | exact And.left (And.right (And.right (And.right (And.right (by with_reducible assumption))))) | exact And.left (And.right (And.right (And.right (And.right (And.right (by with_reducible assumption)))))) | exact And.left (And.right (And.right (And.right (And.right (And.right (And.right (by with_reducible assumption))))))) | exact And.left (And.right (And.right (And.right (And.right (And.right (And.right (And.right (by with_reducible assumption)))))))) | exact And.left (And.right (And.right (And.right (And.right (And.right (And.right (And.right (And.right (by with_reducible assumption))))))))) | exact And.left (And.right (And.right (And.right (And.right (And.right (And.right (And.right (And.right (And.right (by with_reducible assumption)))))))))) | exact And.left (And.right (And.right (And.right (And.right (And.right (And.right (And.right (And.right (And.right (And.right (by with_reducible assumption))))))))))) | exact And.left (And.right (And.right (And.right (And.right (And.right (And.right (And.right (And.right (And.right (And.right (And.right (by with_reducible assumption)))))))))))) | exact And.left (And.right (And.right (And.right (And.right (And.right (And.right (And.right (And.right (And.right (And.right (And.right (And.right (by with_reducible assumption))))))))))))) | exact And.left (And.right (And.right (And.right (And.right (And.right (And.right (And.right (And.right (And.right (And.right (And.right (And.right (And.right (by with_reducible assumption)))))))))))))) | exact And.left (And.right (And.right (And.right (And.right (And.right (And.right (And.right (And.right (And.right (And.right (And.right (And.right (And.right (And.right (by with_reducible assumption))))))))))))))) | exact And.right (by with_reducible assumption) | exact And.right (And.right (by with_reducible assumption)) | exact And.right (And.right (And.right (by with_reducible assumption))) | exact And.right (And.right (And.right (And.right (by with_reducible assumption)))) | exact And.right (And.right (And.right (And.right (And.right (by with_reducible assumption))))) | exact And.right (And.right (And.right (And.right (And.right (And.right (by with_reducible assumption)))))) | exact And.right (And.right (And.right (And.right (And.right (And.right (And.right (by with_reducible assumption))))))) | exact And.right (And.right (And.right (And.right (And.right (And.right (And.right (And.right (by with_reducible assumption)))))))) | exact And.right (And.right (And.right (And.right (And.right (And.right (And.right (And.right (And.right (by with_reducible assumption))))))))) | exact And.right (And.right (And.right (And.right (And.right (And.right (And.right (And.right (And.right (And.right (by with_reducible assumption)))))))))) | exact And.right (And.right (And.right (And.right (And.right (And.right (And.right (And.right (And.right (And.right (And.right (by with_reducible assumption))))))))))) | exact And.right (And.right (And.right (And.right (And.right (And.right (And.right (And.right (And.right (And.right (And.right (And.right (by with_reducible assumption)))))))))))) | exact And.right (And.right (And.right (And.right (And.right (And.right (And.right (And.right (And.right (And.right (And.right (And.right (And.right (by with_reducible assumption))))))))))))) | exact And.right (And.right (And.right (And.right (And.right (And.right (And.right (And.right (And.right (And.right (And.right (And.right (And.right (And.right (by with_reducible assumption))))))))))))))
  k_with "lt0" => first | with_reducible assumption | exact Nat.lt_trans (by with_reducible assumption) (by k_extra "lt0")
  k_with "lt" => first | k_extra "in" | exact Nat.lt_trans (by k_extra "in") (by k_extra "lt")
  k_with "ne0" => first | with_reducible assumption | exact Ne.symm (by with_reducible assumption) | exact Nat.succ_ne_self _ | exact Ne.symm (Nat.succ_ne_self _) | (refine Nat.ne_of_lt ?_; k_extra "lt0") | (refine Nat.ne_of_gt ?_; k_extra "lt0")
  k_with "ne1" => first | k_extra "in" | (refine Ne.symm ?_; k_extra "in") | (refine Nat.ne_of_lt ?_; k_extra "lt") | (refine Nat.ne_of_gt ?_; k_extra "lt")
  k_with "ne2" => first | (refine Nat.ne_of_lt ?_; k_extra "lt0") | (refine Nat.ne_of_gt ?_; k_extra "lt0") | (refine Nat.ne_of_lt (And.left (by with_reducible assumption)))  | (refine Nat.ne_of_gt (And.left (by with_reducible assumption))) | (refine Nat.ne_of_lt (Nat.lt_trans (And.right (by with_reducible assumption)) ?_); k_extra "lt0") | (refine Nat.ne_of_lt (And.right (by with_reducible assumption))) | (refine Nat.ne_of_gt (Nat.lt_trans ?_ (And.left (by with_reducible assumption))); k_extra "lt0")
  k_with "ne" => first | k_extra "ne0" | (refine Or.elim (by with_reducible assumption : @LT.lt Nat _ _ _ ∨ @LT.lt Nat _ _ _ ∧ @LT.lt Nat _ _ _) (fun q9 => ?_) (fun q9 => ?_); (all_goals k_extra "ne2")) | k_extra "ne1"
  k_with "ifs" => first | with_reducible rfl | exact Eq.trans (if_neg (by assumption)) (by k_extra "ifs")
  k_with "up" => first | exact up2 (by with_reducible assumption) rfl | exact up1 (by with_reducible assumption) rfl | exact up3 (by with_reducible assumption) rfl | exact up4 (by with_reducible assumption) rfl | exact up5 (by with_reducible assumption) rfl
  k_with "om" => first | with_reducible assumption | exact Nat.succ_pos _ | (with_reducible show @LT.lt Nat _ _ _; (try dsimp only); first | k_extra "lt0" | k_extra "up" | k_extra "lt") | (with_reducible show @Ne Nat _ _; k_extra "ne") | (with_reducible show @LT.lt Nat _ _ _ ∧ @LT.lt Nat _ _ _; refine And.intro ?_ ?_ <;> k_extra "om") | (with_reducible show @Eq Nat _ _; first | exact Nat.add_sub_add_right 6 1 _ | exact (Nat.add_sub_add_right 6 1 _).symm | exact Nat.succ_sub (by omega) | exact (Nat.succ_sub (by omega)).symm | exact Nat.sub_sub_self (by omega)) | omega
  k_with "k_room" => first | k_extra "up" | ((try simp only [depth_under_make, depth_under_kw, depth_in1, depth_deeper, depth_caller]); omega)
  k_with "tb_start" => first | assumption | omega | (simp only [List.length_cons, List.length_nil, List.length_append]; omega)
  k_with "tb_rel" => repeat' (first | exact List.forall_mem_nil _ | refine List.forall_mem_cons.mpr ⟨by first | exact Or.inr (by k_mem) | exact Or.inl (by simp), ?_⟩)
  k_with "k_units" => first | k_extra "up" | ((try simp only [units_in1, units_deeper, Around.mark_units, units_caller]); omega)
  k_with "call type:list" => (k_here; (with_reducible show wpAny _ _ (call (Value.type "list") [Value.str _ _]) _ _ _); k_dflt (refine' list_strN ?h ?F ?N ?z ?_; (case h => rfl); (case F => k_asm); (case N => k_asm); (case z => exact Nat.le_trans (by assumption) (Nat.le_of_ble_eq_true rfl)); k_whole); intro l₉ h₉ tk₉ vs₉ k₉ F₉ N₉ l1₉ hc₉; (try k_lt l1₉); (try k_sweep))
  k_with "truthy ref" => (k_here; k_dflt (refine' truthy_ls ?N ?m ?z ?_; (case N => k_asm); (case m => k_mem); (case z => tb_start)); (intro tk₉; (try dsimp only [List.isEmpty_cons, List.isEmpty_nil, Bool.not_false, Bool.not_true])))
  k_with "call builtin:list.pop" => (k_here; (with_reducible show wpAny _ _ (call (Value.builtin "list.pop") [Value.ref _, Value.int 0 _]) _ _ _); k_dflt (refine' pop0_N ?F ?N ?U ?z ?_; (case F => k_asm); (case N => k_asm); (case U => k_upd); (case z => tb_start)); (intro h₉ F₉ N₉; (try k_sweep)))
  k_with "call builtin:list.append" => (k_here; (with_reducible show wpAny _ _ (call (Value.builtin _) [Value.ref _, _]) _ _ _); k_dflt (refine' append_ls ?F ?N ?U ?z ?_; (case F => k_asm); (case N => k_asm); (case U => k_upd); (case z => tb_start)); (intro h₉ F₉ N₉; (try k_sweep)))
  k_with "exec For Name Name cons nil" => refine Stop.go ?_
  k_with "exec For Name Call cons nil" => refine Stop.go ?_
  k_with "call builtin:list.index" => (k_here; (with_reducible show wpAny _ _ (call (Value.builtin "list.index") [Value.ref _, Value.int _ _]) _ _ _); k_dflt (refine' index_ls ?N ?m ?i ?k ?z ?_; (case N => k_asm); (case m => k_mem); (case i => with_reducible assumption); (case k => first | with_reducible assumption | simp); (case z => first | omega | (simp; omega))))
  k_with "compareOp In int ref" => (k_here; k_dflt (refine' in_ls ?N ?m ?i ?_; (case N => k_asm); (case m => k_mem); (case i => with_reducible assumption)))
  k_with "call builtin:len" => (k_here; (with_reducible show wpAny _ _ (call (Value.builtin "len") [Value.ref _]) _ _ _); k_dflt (refine' len_ls ?N ?m ?z ?_; (case N => k_asm); (case m => k_mem); (case z => k_extra "om")); (intro t9₉ tk9₉))
  k_with "CompSrc" => refine Stop.go ?_
  k_with "CompSrcT" => refine Stop.go ?_
  k_with "eval Name" => ((with_reducible show wpAny _ _ (eval (Expr.Name _ _) (compEnvC _ _ _ _)) _ _ _); first
  | refine LCgL.ld_built (by k_asm) (by k_asm) (by k_asm) (by k_is) (by boot_by_name) (by decide) ?_
  | refine LCgL.ld_global (by k_asm) (by k_asm) (by k_asm) (by k_is) ?_
  | refine LCgL.ld_own (by k_asm) (by k_mem) (by assumption) (by assumption) ?_)
  k_with "getMethod ref" => ((with_reducible show wpAny _ _ (getMethod (Value.ref _) (PySem.Str.ofString "index") _) _ _ _); (refine getMethod_gr (by k_asm) (by with_reducible assumption) ?_))
  k_with "call builtin:max" => refine Stop.go ?_
  k_with "call builtin:list.index" => refine Stop.go ?_
  k_with "call builtin:sorted" => refine Stop.go ?_
  k_with "pyIter ref" => refine Stop.go ?_
  k_with "compareOp In int ref" => (k_dflt (refine' in_grM ?F ?l ?i ?_; (case F => k_asm); (case l => with_reducible assumption); (case i => with_reducible assumption)))
  k_with "subscriptTail Name Name ref int" => ((with_reducible show wpAny _ _ (subscriptTail _ _ (Value.ref _) (Value.int _ _)) _ _ _); k_dflt (refine' item_grM ?F ?l ?h0 ?h1 ?hx ?_ ?hs; (case F => k_asm); (case l => with_reducible assumption); (case h0 => k_extra "om"); (case h1 => k_extra "om"); (case hx => with_reducible assumption); (case hs => with_unfolding_all rfl)))
  exact True.intro
theorem getMethod_gr {prog : Program} {w : World} {A : Around} {E : Value → Shared → Prop} {s : Shared} {g : Heap} {L l : Addr} {m : Names} {ws : List Value} {n : Nat} {pl : Sem Bool} {Q : Value × List Value → Shared → Prop} (F : Fr g L s.heap m) (hl : g.get? l = some (lsO ws n)) (h : Q (.builtin "list.index", [.ref l]) s) : wpAny (model prog w) A (getMethod (.ref l) (Str.ofString "index") pl) Q E s :=
  getMethod_builtin ⟨_, F.keep _ _ hl, rfl⟩ PySem.F.plainAttrs_list PySem.F.slot_list_index PySem.F.type_list_index (fun a e => by cases e; exact ⟨_, F.keep _ _ hl, rfl⟩) h
local macro_rules | `(tactic| k_all) => `(tactic| with_reducible assumption)
noncomputable def hitP (first : List Nat) (gt : Nat → Nat → Bool) (s t : Nat) : Bool := decide ((s + 1 + t) % 5 ∈ first) && gt ((s + 1 + t) % 5) s
noncomputable def wayI (s n : Nat) : List Int := (List.range n).map fun t => (((s + 1 + t) % 5 : Nat) : Int)
noncomputable def hitI (first : List Nat) (gt : Nat → Nat → Bool) (s n : Nat) : List Int := ((List.range n).filter (hitP first gt s)).map fun t => (((s + 1 + t) % 5 : Nat) : Int)
noncomputable def dueP (first : List Nat) (gt : Nat → Nat → Bool) (n s : Nat) : Bool := (List.range ((n + 5 - s - 1) % 5)).all fun t => !(hitP first gt s t)
theorem dueT_eq {first : List Nat} {gt : Nat → Nat → Bool} {n : Nat} : dueT first gt n = first.filter (dueP first gt n) := rfl
theorem fmod_node {i s : Nat} (hs : s < 5) : Int.fmod ((i : Int) - (s : Int) - 1) 5 = (((i + 5 - s - 1) % 5 : Nat) : Int) := by
  rw [Int.fmod_eq_emod_of_nonneg _ (by k_extra "om")]
  omega
theorem fmod_way {s j : Nat} : Int.fmod ((s : Int) + 1 + (0 + (j : Int))) 5 = (((s + 1 + j) % 5 : Nat) : Int) := by
  rw [Int.fmod_eq_emod_of_nonneg _ (by k_extra "om")]
  omega
theorem wayI_snoc {s n : Nat} : wayI s (n + 1) = wayI s n ++ [(((s + 1 + n) % 5 : Nat) : Int)] := by
  unfold wayI; rw [List.range_succ, List.map_append]; rfl
theorem hitI_yes {first : List Nat} {gt : Nat → Nat → Bool} {s n : Nat} (h : hitP first gt s n = true) : hitI first gt s (n + 1) = hitI first gt s n ++ [(((s + 1 + n) % 5 : Nat) : Int)] := by
  unfold hitI; rw [List.range_succ, List.filter_append, List.map_append]; simp [h]
theorem hitI_no {first : List Nat} {gt : Nat → Nat → Bool} {s n : Nat} (h : hitP first gt s n = false) : hitI first gt s (n + 1) = hitI first gt s n := by
  unfold hitI; rw [List.range_succ, List.filter_append, List.map_append]; simp [h]
theorem append_lsD {A : Around} {E : Value → Shared → Prop} {s : Shared} {prog : Program} {w : World} {g : Heap} {L D : Addr} {m : Names} {news news' : Led} {vs : List Value} {n : Nat} {x : Value} {Q : Value → Shared → Prop} (F : Fr g L s.heap m) (N : News g L s.heap news) (U : Upd D (lsO vs n) (lsO (vs ++ [x]) (n + 1)) news news') (hz : vs.length ≤ 100000)
    (h : ∀ h', Fr g L h' m → News g L h' news' → Q .none { s with heap := h' }) : wpAny (model prog w) A (call (.builtin "list.append") [.ref D, x]) Q E s := append_ls (M := model prog w) F N U hz h
noncomputable def chiefOf (nm : Nat → Str) (first : List Nat) : Nat := ([0, 1, 2, 3, 4].map nm).idxOf ((first.map nm)[bestS (first.map nm)]?.getD ⟨#[]⟩)
noncomputable def dueH (nm : Nat → Str) (first : List Nat) (_ : Nat) : List Nat := if first = [] then [] else [chiefOf nm first]
theorem dueH_nil {nm : Nat → Str} {first : List Nat} (h : first = []) : heardD nm (dueH nm first) = .list [.list [], .list [], .list [], .list [], .list []] := by
  subst h; rfl
theorem argBest_le (b : Nat → Nat → Bool) : ∀ n, argBest b n ≤ n
  | 0 => Nat.le_refl _
  | n + 1 => by
    unfold argBest
    split
    · exact Nat.le_refl _
    · exact Nat.le_succ_of_le (argBest_le b n)
theorem best_lt {ss : List Str} (h : 0 < ss.length) : bestS ss < ss.length := by
  have := argBest_le (fun i j => decide ((ss[j]?.getD ⟨#[]⟩).cps.toList < (ss[i]?.getD ⟨#[]⟩).cps.toList)) (ss.length - 1)
  unfold bestS
  omega
theorem best_mem {nm : Nat → Str} {first : List Nat} (h : first ≠ []) (hf5 : ∀ x ∈ first, x < 5) : (first.map nm)[bestS (first.map nm)]?.getD ⟨#[]⟩ ∈ [0, 1, 2, 3, 4].map nm := by
  have h0 : 0 < (first.map nm).length := by rw [List.length_map]; exact List.length_pos_iff.mpr h
  have h1 := best_lt h0
  rw [List.getElem?_eq_getElem h1]
  have h2 : (first.map nm)[bestS (first.map nm)] ∈ first.map nm := List.getElem_mem h1
  obtain ⟨x, hx, e⟩ := List.mem_map.mp h2
  show (first.map nm)[bestS (first.map nm)] ∈ _
  rw [← e]
  exact List.mem_map.mpr ⟨x, in5 (hf5 x hx), rfl⟩
noncomputable abbrev dataO {o : Obj} {d : Data} (_ : o.data = d) : Obj := o
noncomputable abbrev ledA2 {g h : Heap} {L a b : Addr} {o o2 : Obj} {r : List (Addr × Obj)} (_ : News g L h ((a, o) :: (b, o2) :: r)) : Addr := b
noncomputable def TupAt (c : Nat) (nw : Led) (v : Value) (x : Str) : Prop := ∃ a b t1 t2 n1 n2, v = Value.ref a ∧ (a, lsO [.ref b] n1) ∈ nw ∧ (b, tuO [.str x t1, .int (c : Int) t2] n2) ∈ nw
theorem TupAt.mono {c : Nat} {nw nw' : Led} {v : Value} {x : Str} (h : TupAt c nw v x) (hs : ∀ q ∈ nw, q ∈ nw') : TupAt c nw' v x := by
  obtain ⟨a, b, t1, t2, n1, n2, e, h1, h2⟩ := h
  exact ⟨a, b, t1, t2, n1, n2, e, hs _ h1, hs _ h2⟩
theorem reads_tupAt {c : Nat} {h : Heap} {nw : Led} (N : ∀ q ∈ nw, h.get? q.1 = some q.2) {ys : List Value} {xs : List Str} (H : All2 (TupAt c nw) ys xs) : ∃ as, ReadsAll h ys (xs.map fun x => .list [.tuple [.str x, .int (c : Int)]]) as := by
  induction H with
  | nil => exact ⟨_, .nil⟩
  | cons h1 _ ih =>
    obtain ⟨a, b, t1, t2, n1, n2, rfl, hm1, hm2⟩ := h1
    obtain ⟨as, ih⟩ := ih
    exact ⟨_, .cons (reads_list_at (N _ hm1) rfl rfl (.cons (reads_tuple_at (N _ hm2) rfl rfl (.cons (.str _ _) (.cons (.int _ _) .nil))) .nil)) ih⟩
theorem dueH_some {nm : Nat → Str} {first : List Nat} (h : first ≠ []) : heardD nm (dueH nm first) = .list ([nm 0, nm 1, nm 2, nm 3, nm 4].map fun x => .list [.tuple [.str x, .int ((chiefOf nm first : Nat) : Int)]]) := by
  unfold heardD dueH
  simp only [if_neg h]
  rfl
theorem take_nm {nm : Nat → Str} {j : Nat} (h : j < 5) : ([0, 1, 2, 3, 4].map nm).take (j + 1) = ([0, 1, 2, 3, 4].map nm).take j ++ [nm j] := by
  rcases five h with rfl | rfl | rfl | rfl | rfl <;> rfl
theorem neA {a b : Addr} (h : @Ne Nat a b) : a ≠ b := h
theorem lt_led1 {g h : Heap} {L a : Addr} {o : Obj} {news : Led} (N : News g L h news) (hm : (a, o) ∈ news) : @LT.lt Nat _ a (h.objs.size + 1) := Nat.lt_succ_of_lt (Heap.lt_size (N _ hm).1)
theorem strsSnoc {vs : List Value} {ss : List Str} (h : StrsAre vs ss) {x : Str} {t : Tok} : StrsAre (vs ++ [.str x t]) (ss ++ [x]) := by
  induction h with
  | nil => exact .cons _ _ .nil
  | cons y u h ih => exact .cons _ _ ih
theorem take_one {first : List Nat} {j sd : Nat} (h : first[j]? = some sd) : first.take (j + 1) = first.take j ++ [sd] := by
  obtain ⟨h1, rfl⟩ := List.getElem?_eq_some_iff.mp h
  exact (List.take_append_getElem h1).symm
theorem due_yes {nm : Nat → Str} {first : List Nat} {gt : Nat → Nat → Bool} {i j sd : Nat} (h : first[j]? = some sd) (hd : dueP first gt i sd = true) : ((first.take (j + 1)).filter (dueP first gt i)).map nm = ((first.take j).filter (dueP first gt i)).map nm ++ [nm sd] := by
  rw [take_one h, List.filter_append, List.map_append]; simp [hd]
theorem due_no {nm : Nat → Str} {first : List Nat} {gt : Nat → Nat → Bool} {i j sd : Nat} (h : first[j]? = some sd) (hd : dueP first gt i sd = false) : ((first.take (j + 1)).filter (dueP first gt i)).map nm = ((first.take j).filter (dueP first gt i)).map nm := by
  rw [take_one h, List.filter_append, List.map_append]; simp [hd]
theorem mem_castD {first : List Nat} {k : Nat} : ((k : Nat) : Int) ∈ first.map (fun x : Nat => (x : Int)) ↔ k ∈ first := by
  rw [List.mem_map]
  constructor
  · rintro ⟨x, hx, e⟩
    have : x = k := by k_extra "om"
    subst this; exact hx
  · exact fun h => ⟨k, h, rfl⟩
theorem hit_yes {nm : Nat → Str} {first : List Nat} {gt : Nat → Nat → Bool} {s t : Nat} (hgt : ∀ a b, gt a b = decide ((nm b).cps.toList < (nm a).cps.toList)) (h1 : (s + 1 + t) % 5 ∈ first) (h2 : (nm (s : Int).toNat).cps.toList < (nm (((s + 1 + t) % 5 : Nat) : Int).toNat).cps.toList) : hitP first gt s t = true := by
  unfold hitP
  rw [hgt]
  rw [Int.toNat_natCast, Int.toNat_natCast] at h2
  simp [h1, h2]
theorem hit_no1 {nm : Nat → Str} {first : List Nat} {gt : Nat → Nat → Bool} {s t : Nat} (hgt : ∀ a b, gt a b = decide ((nm b).cps.toList < (nm a).cps.toList)) (h2 : ¬ (nm (s : Int).toNat).cps.toList < (nm (((s + 1 + t) % 5 : Nat) : Int).toNat).cps.toList) : hitP first gt s t = false := by
  unfold hitP
  rw [hgt]
  rw [Int.toNat_natCast, Int.toNat_natCast] at h2
  rw [decide_eq_false h2, Bool.and_false]
theorem hit_no2 {first : List Nat} {gt : Nat → Nat → Bool} {s t : Nat} (h1 : ¬ (s + 1 + t) % 5 ∈ first) : hitP first gt s t = false := by
  unfold hitP
  rw [decide_eq_false h1, Bool.false_and]
theorem hitI_nil {first : List Nat} {gt : Nat → Nat → Bool} {n s : Nat} : decide (hitI first gt s ((n + 5 - s - 1) % 5) = []) = dueP first gt n s := by
  unfold hitI dueP
  rw [Bool.eq_iff_iff, decide_eq_true_iff, List.map_eq_nil_iff, List.filter_eq_nil_iff, List.all_eq_true]
  constructor
  · intro h t ht; simpa using h t ht
  · intro h t ht; simpa using h t ht
/-- what holds between two rows of the due -/
inductive DueA (tk : Nat → List Nat) (nm : Nat → Str) (i : Nat) (lv L' : Addr) (oC oF oN : Obj) (m0 m : Names) (news : Led) : Prop
  | mk (ys : List Value) (sss : List (List Str)) (nw : Led) (nn : Nat) (oS : Obj) (vS v1 v2 v3 : Option Value) (h1 : oS.data = .cell vS) (h2 : All2 (RowAt nw) ys sss) (h3 : RowsOk tk nm i sss) (h4 : ∀ q ∈ nw, q.1 ≠ lv ∧ q.1 ≠ L' + 1 + 1 + 1 + 1 ∧ q.1 ≠ L' + 1 + 1 + 1 ∧ q.1 ≠ L' + 1 + 1 ∧ q.1 ≠ L' + 1) (h5 : m = (fun y => if y = Str.ofString "node" then v1 else if y = Str.ofString "row" then v2 else if y = Str.ofString "way" then v3 else if y = Str.ofString "taken" then some (Value.ref lv) else m0 y)) (h6 : news = (lv, lsO ys nn) :: (L' + 1 + 1 + 1 + 1, oC) :: (L' + 1 + 1 + 1, oS) :: (L' + 1 + 1, oF) :: (L' + 1, oN) :: nw) : DueA tk nm i lv L' oC oF oN m0 m news
/-- what holds between two senders of a row -/
inductive DueB (xs : List Str) (i : Nat) (tn : Tok) (rl I lv L' : Addr) (ys : List Value) (nn : Nat) (nw : Led) (oC oF oN : Obj) (m0 m : Names) (news : Led) : Prop
  | mk (ws : List Value) (n : Nat) (oS : Obj) (vS v3 : Option Value) (h1 : oS.data = .cell vS) (h2 : StrsAre ws xs) (h3 : m = (fun y => if y = Str.ofString "row" then some (Value.ref rl) else if y = Str.ofString "way" then v3 else if y = Str.ofString "node" then some (Value.int (i : Int) tn) else if y = Str.ofString "taken" then some (Value.ref lv) else m0 y)) (h4 : news = (rl, lsO ws n) :: (I, riO ((i : Int) + 1) (((5 : Nat) : Int) - i - 1)) :: (lv, lsO ys nn) :: (L' + 1 + 1 + 1 + 1, oC) :: (L' + 1 + 1 + 1, oS) :: (L' + 1 + 1, oF) :: (L' + 1, oN) :: nw) : DueB xs i tn rl I lv L' ys nn nw oC oF oN m0 m news
section
variable {w : World} {p : Program} {loose : List Str} {mean : ExcName → Option Value} {mg mb : Str → Option Value} {dp un : Nat} {gd : Option (List Code)} {outs : List Env} {base h₀ : Heap} {s : Shared} {R : Result → Shared → Prop}
  (B : Below (AT dp un gd outs) base outs h₀) (X : (hd.heap_39 w.params).In h₀) (T : Top p loose mean mg mb h₀) (st : h₀.StaysIn s.heap) (hdp : dp + 12 < recursionLimit) (hu : un + 120 < cLine)
include B X T st hdp hu
theorem due_spec {nl fl : Addr} {kn : Nat} {nvs fvs : List Value} {nm : Nat → Str} {first : List Nat} {gt : Nat → Nat → Bool}
    (hnl0 : h₀.get? nl = some (lsO nvs kn)) (hnS : StrsAre nvs ([0, 1, 2, 3, 4].map nm)) (hfl : h₀.IsList fl fvs.toArray) (hfI : IntsAre fvs (first.map fun x : Nat => (x : Int))) (hf5 : ∀ x ∈ first, x < 5) (hfn : first.length ≤ 5) (hgt : ∀ a b, gt a b = decide ((nm b).cps.toList < (nm a).cps.toList)) (N : Own h₀ s.heap [])
    (hret : ∀ b sss as h' tk', Keeps [] s.heap h' → Reads h' (.ref b) (.list [rowsD sss, heardD nm (dueH nm first)]) as → RowsOk (dueT first gt) nm 5 sss → R (.ok (.ret (.ref b))) { s with heap := h', toks := tk' }) :
    codeAny (model PySem.Challenge.rw_wn0047_01.row.prog w) (AT dp un gd outs) (.call (.ref 197) ⟨[.ref nl, .ref fl], []⟩) R s := by
  have N0 := N
  have hnl : h₀.IsList nl nvs.toArray := ⟨_, hnl0, rfl, kn, rfl⟩
  have hnl0' : (hideAll s.heap (List.map (fun x => x.1) ([] : List (Addr × Obj)))).get? nl = some (lsO nvs kn) := (own_hide B st N).1 _ _ hnl0
  revert X; k_fill; intro X
  have hnl' : Heap.IsList (hideAll s.heap (List.map (fun x => x.1) ([] : List (Addr × Obj)))) nl nvs.toArray := hnl.at fun o e => (own_hide B st N).1 _ _ e
  have hfl' : Heap.IsList (hideAll s.heap (List.map (fun x => x.1) ([] : List (Addr × Obj)))) fl fvs.toArray := hfl.at fun o e => (own_hide B st N).1 _ _ e
  have hn : ∀ k, k < 5 → ∃ t, nvs[k]? = some (.str (nm k) t) := fun k hk => by
    have h5 := strsLen hnS
    obtain ⟨t, e, -⟩ := strsAt hnS (k := k) (v := nvs[k]'(by rw [h5]; exact hk)) (List.getElem?_eq_getElem _)
    refine ⟨t, ?_⟩
    rw [List.getElem?_eq_getElem (by rw [h5]; exact hk), e]
    rcases five hk with rfl | rfl | rfl | rfl | rfl <;> rfl
  k_dflt (refine' enterC (binds := [(Str.ofString "names", Value.ref nl), (Str.ofString "first", Value.ref fl)]) B X T st N ?k6 ?k7 ?k8 ?k9 ?kB ?kD ?_ ?c2 ?c3 ?c4; (case k6 => k_is); (case k7 => k_is); (case k8 => k_room); (case k9 => exact BindsTo.of_eq rfl); (case kB => exact rfl); (case kD => decide +kernel); (case c2 => exact rfl); (case c3 => exact rfl); (case c4 => exact rfl))
  intro g L' h₁ tk cells' gh F' N' Y' B' X' T' l1
  (try k_lt l1)
  k_cells Y'
  (try simp only [List.cons_append, List.nil_append] at N')
  (try k_fold)
  rw [← gh] at hnl' hfl' hnl0'
  rename_i oC oS0 oF oN dC dS dF dN
  have dN' : oN.data = .cell (some (.ref nl)) := dN
  have dF' : oF.data = .cell (some (.ref fl)) := dF
  have dC' : oC.data = .cell none := dC
  clear dN dF dC
  obtain ⟨m0, F0⟩ : ∃ m0, Fr g L' h₁ m0 := ⟨_, F'⟩
  clear F'
  k_steps
  unfold Stop
  refine wpAny_For ?_
  k_steps
  unfold Stop
  rename IsRange _ _ _ _ _ _ _ _ => hR
  (rename News _ _ _ _ => N1)
  (rename Fr _ _ _ _ => F1)
  obtain ⟨lv, hlv⟩ : ∃ x, x = ledA N1 := ⟨_, rfl⟩
  dsimp only [ledA] at hlv
  subst hlv
  refine pyForRng (Inv := fun g' i m news => g' = g ∧ DueA (dueT first gt) nm i lv L' oC oF oN m0 m news) 5 rfl hR (by k_extra "om") (fr_set3 (Str.ofString "node") (Str.ofString "row") (Str.ofString "way") F1 (fun _ _ _ _ => rfl)) N1 ⟨rfl, [], [], [], 0, oS0, _, _, _, _, dS, .nil, rowsOk_nil, fun q hq => (nomatch hq), rfl, rfl⟩ ?turn ?fin
  case turn =>
    intro I hlt i g9 m news h tn Nx Dn Rt E hi hV hne F N hN
    obtain ⟨rfl, ys, sss, nw, nn, oS, vS, v1, v2, v3, dS, hA, hRo, hof, rfl, rfl⟩ := hV
    clear F1 N1 hR
    have hlvI : @Ne Nat lv I := hne (lv, _) (.head _)
    have hcCI : @Ne Nat (L' + 1 + 1 + 1 + 1) I := hne (L' + 1 + 1 + 1 + 1, oC) (.tail _ (.head _))
    have hcSI : @Ne Nat (L' + 1 + 1 + 1) I := hne (L' + 1 + 1 + 1, oS) (.tail _ (.tail _ (.head _)))
    have hcFI : @Ne Nat (L' + 1 + 1) I := hne (L' + 1 + 1, oF) (.tail _ (.tail _ (.tail _ (.head _))))
    have hcNI : @Ne Nat (L' + 1) I := hne (L' + 1, oN) (.tail _ (.tail _ (.tail _ (.tail _ (.head _)))))
    have hofI : ∀ q ∈ nw, q.1 ≠ I := fun q hq => hne q (.tail _ (.tail _ (.tail _ (.tail _ (.tail _ hq)))))
    k_steps
    unfold Stop
    refine wpAny_For ?_
    k_steps
    unfold Stop
    (rename News _ _ _ _ => N1)
    (rename Fr _ _ _ _ => F1)
    obtain ⟨rl, hlv⟩ : ∃ x, x = ledA N1 := ⟨_, rfl⟩
    dsimp only [ledA] at hlv
    subst hlv
    have hrl : (I < rl ∧ lv < rl ∧ L' + 1 + 1 + 1 + 1 < rl ∧ L' + 1 + 1 + 1 < rl ∧ L' + 1 + 1 < rl ∧ L' + 1 < rl ∧ AllLt rl nw) := by assumption
    refine pyForLst (Inv := fun g' j m news => g' = g9 ∧ DueB (((first.take j).filter (dueP first gt i)).map nm) i tn rl I lv L' ys nn nw oC oF oN m0 m news) rfl (fun j g' m news h hV F _ => lsAt F (by rw [hV.1]; exact hfl')) (fr_set4 (Str.ofString "row") (Str.ofString "way") (Str.ofString "node") (Str.ofString "taken") F1 (fun y h1 h2 h3 h4 => by k_extra "ifs")) N1 ⟨rfl, [], 0, oS, _, _, dS, .nil, rfl, rfl⟩ ?turn2 ?fin2
    case turn2 =>
      intro I2 hlt2 j v9 g8 m news h tk o Nx2 Dn2 Rt2 E2 hvi hV hne2 F N hN2 hD2
      obtain ⟨rfl, ws, n, oS2, vS2, v4, dS2, hW, rfl, rfl⟩ := hV
      clear F1 N1 dS
      have hofS : ∀ q ∈ nw, q.1 ≠ L' + 1 + 1 + 1 := fun q hq => (hof q hq).2.2.1
      have d1 : @Ne Nat rl I2 := hne2 (rl, _) (.head _)
      have d2 : @Ne Nat I I2 := hne2 (I, _) (.tail _ (.head _))
      have d3 : @Ne Nat lv I2 := hne2 (lv, _) (.tail _ (.tail _ (.head _)))
      have d4 : @Ne Nat (L' + 1 + 1 + 1 + 1) I2 := hne2 (L' + 1 + 1 + 1 + 1, oC) (.tail _ (.tail _ (.tail _ (.head _))))
      have d5 : @Ne Nat (L' + 1 + 1 + 1) I2 := hne2 (L' + 1 + 1 + 1, oS2) (.tail _ (.tail _ (.tail _ (.tail _ (.head _)))))
      have d6 : @Ne Nat (L' + 1 + 1) I2 := hne2 (L' + 1 + 1, oF) (.tail _ (.tail _ (.tail _ (.tail _ (.tail _ (.head _))))))
      have d7 : @Ne Nat (L' + 1) I2 := hne2 (L' + 1, oN) (.tail _ (.tail _ (.tail _ (.tail _ (.tail _ (.tail _ (.head _)))))))
      have hofI2 : ∀ q ∈ nw, q.1 ≠ I2 := fun q hq => hne2 q (.tail _ (.tail _ (.tail _ (.tail _ (.tail _ (.tail _ (.tail _ hq)))))))
      obtain ⟨sd, tsd, rfl, hsd⟩ := ints_natM hfI hvi
      have hs5 : sd < 5 := hf5 sd (List.mem_of_getElem? hsd)
      k_steps
      unfold Stop
      rename IsRange _ _ _ _ _ _ _ _ => hR
      (rename News _ _ _ _ => N1)
      (rename Fr _ _ _ _ => F1)
      rw [fmod_node hs5] at hR
      have hnb : (i + 5 - sd - 1) % 5 < 5 := Nat.mod_lt _ (by k_extra "om")
      refine LCg.CompSrc.range (n := (i + 5 - sd - 1) % 5) rfl F1 N1 hR (small_n (by k_extra "om")) rsize_n (by rw [sizeLine_eq]; omega) fun g' => compRest_same (Inv := fun j ys => IntsAre ys (wayI sd j)) trivial ?cturn ?cfin .nil
      case cturn =>
        intro j2 ys2 v9 I3 oI C oC2 D m₂ h tk E' Nx3 hi3 hP hV hC hm F N off ne hN3
        obtain ⟨tv, rfl⟩ := hP
        simp only [LCg.Off3] at off
        clear F1 N1
        k_steps
        (rename News _ _ _ _ => N1)
        (rename Fr _ _ _ _ => F1)
        exact hN3 _ _ _ _ F1 N1 (fun p hp => hp) (by rw [wayI_snoc, fmod_way]; exact intsSnoc hV)
      case cfin =>
        intro ys2 hY D h tk F N off
        simp only [LCg.Off1] at off
        clear F1 N1 hR
        k_steps
        unfold Stop
        (rename News _ _ _ _ => N1)
        (rename Fr _ _ _ _ => F1)
        have hyl : ys2.toArray.size = (i + 5 - sd - 1) % 5 := by
          have := intsLen hY
          rw [List.size_toArray, this]
          unfold wayI; simp
        refine LCt.CompSrcT.ledger (its := ys2.toArray) rfl F1 N1 (.head _) (by rw [sizeLine_eq, hyl]; omega) fun g' => compRestT_same (Inv := fun j ys => IntsAre ys (hitI first gt sd j)) (.inr ⟨_, .head _, rfl, _, rfl⟩) ?tturn ?tfin .nil
        case tturn =>
          intro j2 ys3 v9 I3 oI C oC2 D m₂ h tk E' Nx3 Sk3 hi3 hP hV hC hm F N off ne hN3 hK3
          have hj2 : j2 < (i + 5 - sd - 1) % 5 := by rw [hyl] at hi3; exact hi3
          obtain ⟨kv, tkv, hk1, hk2⟩ := IntsAre.at' hY (k := j2) (by rw [List.size_toArray] at hyl; omega)
          have hv9 : v9 = .int kv tkv := by
            have : ys2[j2]? = some v9 := by simpa using hP
            rw [hk1] at this
            exact (Option.some.inj this).symm
          have hkv : kv = (((sd + 1 + j2) % 5 : Nat) : Int) := by
            unfold wayI at hk2
            rw [List.getElem?_map, List.getElem?_range hj2] at hk2
            exact (Option.some.inj hk2).symm
          subst hkv hv9
          have hkn : (sd + 1 + j2) % 5 < 5 := Nat.mod_lt _ (by k_extra "om")
          obtain ⟨tx1, hx1⟩ := hn ((sd + 1 + j2) % 5) hkn
          obtain ⟨tx2, hx2⟩ := hn sd hs5
          rw [show (sd + 1 + j2) % 5 = ((((sd + 1 + j2) % 5 : Nat) : Int)).toNat from rfl] at hx1
          rw [show sd = ((sd : Nat) : Int).toNat from rfl] at hx2
          simp only [LCg.Off3] at off
          clear F1 N1 hk1 hk2
          k_steps
          all_goals
            (rename News _ _ _ _ => N1)
            (rename Fr _ _ _ _ => F1)
            first
            | ((rename _ < _ => hlt9); (rename _ ∈ List.map _ first => hmem9); exact hN3 _ _ _ _ F1 N1 (fun p hp => hp) (by rw [hitI_yes (hit_yes hgt (mem_castD.mp hmem9) hlt9)]; exact intsSnoc hV))
            | ((rename ¬ (_ < _) => hlt9); exact hK3 _ _ _ F1 N1 (fun p hp => hp) (by rw [hitI_no (hit_no1 hgt hlt9)]; exact hV))
            | ((rename ¬ (_ ∈ List.map _ first) => hmem9); exact hK3 _ _ _ F1 N1 (fun p hp => hp) (by rw [hitI_no (hit_no2 (fun q => hmem9 (mem_castD.mpr q)))]; exact hV))
        case tfin =>
          intro ys3 hY3 D3 h tk F N off3
          simp only [LCg.Off1] at off3
          clear F1 N1
          rw [hyl] at hY3
          obtain ⟨tx2, hx2⟩ := hn sd hs5
          rw [show sd = ((sd : Nat) : Int).toNat from rfl] at hx2
          k_steps
          · dsimp only
            (rename News _ _ _ _ => N9)
            (rename Fr _ _ _ _ => F9)
            (rename decide _ = true => hdec)
            (rename _ = Data.cell (some (Value.int ((sd : Nat) : Int) tsd)) => dS9)
            rw [hitI_nil] at hdec
            simp only [List.push_toArray] at N9
            refine hN2 _ _ _ _ _ ⟨rfl, ws ++ [.str (nm ((sd : Nat) : Int).toNat) tx2], n + 1, _, _, _, dS9, by rw [Int.toNat_natCast, due_yes hsd hdec]; exact strsSnoc hW, rfl, rfl⟩ (List.forall_mem_cons.mpr ⟨d1, List.forall_mem_cons.mpr ⟨d2, List.forall_mem_cons.mpr ⟨d3, List.forall_mem_cons.mpr ⟨d4, List.forall_mem_cons.mpr ⟨d5, List.forall_mem_cons.mpr ⟨d6, List.forall_mem_cons.mpr ⟨d7, hofI2⟩⟩⟩⟩⟩⟩⟩) (fr_set4 (Str.ofString "row") (Str.ofString "way") (Str.ofString "node") (Str.ofString "taken") F9 (fun y h1 h2 h3 h4 => by k_extra "ifs")) (fun q hq => N9 q (.tail _ (.tail _ (.tail _ hq))))
          · dsimp only
            (rename News _ _ _ _ => N9)
            (rename Fr _ _ _ _ => F9)
            (rename decide _ = false => hdec)
            (rename _ = Data.cell (some (Value.int ((sd : Nat) : Int) tsd)) => dS9)
            rw [hitI_nil] at hdec
            refine hN2 _ _ _ _ _ ⟨rfl, ws, n, _, _, _, dS9, by rw [due_no hsd hdec]; exact hW, rfl, rfl⟩ (List.forall_mem_cons.mpr ⟨d1, List.forall_mem_cons.mpr ⟨d2, List.forall_mem_cons.mpr ⟨d3, List.forall_mem_cons.mpr ⟨d4, List.forall_mem_cons.mpr ⟨d5, List.forall_mem_cons.mpr ⟨d6, List.forall_mem_cons.mpr ⟨d7, hofI2⟩⟩⟩⟩⟩⟩⟩) (fr_set4 (Str.ofString "row") (Str.ofString "way") (Str.ofString "node") (Str.ofString "taken") F9 (fun y h1 h2 h3 h4 => by k_extra "ifs")) (fun q hq => N9 q (.tail _ (.tail _ (.tail _ hq))))
    case fin2 =>
      intro g8 m news h tk hV F N
      obtain ⟨rfl, ws, n, oS2, vS2, v4, dS2, hW, rfl, rfl⟩ := hV
      clear F1 N1 dS
      have hfl9 := intsLen hfI
      rw [List.length_map] at hfl9
      rw [hfl9, List.take_length] at hW
      have hwl := strsLen hW
      have hw5 : ws.length ≤ 5 := by
        rw [hwl, List.length_map]
        exact Nat.le_trans (List.length_filter_le _ _) hfn
      have hyl := All2.length hA
      rw [hRo.1] at hyl
      have hofL : ∀ q ∈ nw, q.1 ≠ lv := fun q hq => (hof q hq).1
      k_steps
      unfold Stop
      (rename News _ _ _ _ => N9)
      (rename Fr _ _ _ _ => F9)
      refine sorted_N_str F9 N9 ⟨_, (N9 (rl, lsO ws n) (.head _)).1, rfl, n, rfl⟩ hW (by k_extra "om") fun h5 vs' ss' e F5 N5 hS5 hp5 hs5 => ?_
      dsimp only at N5 ⊢
      have l9 : @LT.lt Nat _ (rl) (h.objs.size + 1) ∧ @LT.lt Nat _ (I) (h.objs.size + 1) ∧ @LT.lt Nat _ (lv) (h.objs.size + 1) ∧ @LT.lt Nat _ (L' + 1 + 1 + 1 + 1) (h.objs.size + 1) ∧ @LT.lt Nat _ (L' + 1 + 1 + 1) (h.objs.size + 1) ∧ @LT.lt Nat _ (L' + 1 + 1) (h.objs.size + 1) ∧ @LT.lt Nat _ (L' + 1) (h.objs.size + 1) := ⟨lt_led1 N9 (.head _), lt_led1 N9 (.tail _ (.head _)), lt_led1 N9 (.tail _ (.tail _ (.head _))), lt_led1 N9 (.tail _ (.tail _ (.tail _ (.head _)))), lt_led1 N9 (.tail _ (.tail _ (.tail _ (.tail _ (.head _))))), lt_led1 N9 (.tail _ (.tail _ (.tail _ (.tail _ (.tail _ (.head _)))))), lt_led1 N9 (.tail _ (.tail _ (.tail _ (.tail _ (.tail _ (.tail _ (.head _)))))))⟩
      generalize h.objs.size + 1 = sa at N5 l9 ⊢
      clear N9 F9
      k_steps
      dsimp only
      (rename News _ _ _ _ => N9)
      (rename Fr _ _ _ _ => F9)
      simp only [List.push_toArray] at N9
      refine hN _ _ _ _ _ ⟨rfl, ys ++ [.ref sa], sss ++ [ss'], (sa, lsO vs' e) :: nw, nn + 1, oS2, vS2, _, _, _, dS2, all2_snoc (all2_imp hA fun v ss h => RowAt.mono h fun q hq => .tail _ hq) ⟨_, e, vs', rfl, .head _, hS5⟩, rowsOk_snoc hRo hp5 hs5, List.forall_mem_cons.mpr ⟨⟨neA (by k_extra "om"), neA (by k_extra "om"), neA (by k_extra "om"), neA (by k_extra "om"), neA (by k_extra "om")⟩, hof⟩, rfl, rfl⟩ (List.forall_mem_cons.mpr ⟨hlvI, List.forall_mem_cons.mpr ⟨hcCI, List.forall_mem_cons.mpr ⟨hcSI, List.forall_mem_cons.mpr ⟨hcFI, List.forall_mem_cons.mpr ⟨hcNI, List.forall_mem_cons.mpr ⟨neA (by k_extra "om"), hofI⟩⟩⟩⟩⟩⟩) (fr_set3 (Str.ofString "node") (Str.ofString "row") (Str.ofString "way") F9 (fun y h1 h2 h3 => by k_extra "ifs")) (fun q hq => ?_)
      rcases List.mem_cons.mp hq with rfl | hq
      · exact N9 _ (.tail _ (.tail _ (.head _)))
      rcases List.mem_cons.mp hq with rfl | hq
      · exact N9 _ (.tail _ (.tail _ (.tail _ (.head _))))
      rcases List.mem_cons.mp hq with rfl | hq
      · exact N9 _ (.tail _ (.tail _ (.tail _ (.tail _ (.head _)))))
      rcases List.mem_cons.mp hq with rfl | hq
      · exact N9 _ (.tail _ (.tail _ (.tail _ (.tail _ (.tail _ (.head _))))))
      rcases List.mem_cons.mp hq with rfl | hq
      · exact N9 _ (.tail _ (.tail _ (.tail _ (.tail _ (.tail _ (.tail _ (.head _)))))))
      rcases List.mem_cons.mp hq with rfl | hq
      · exact N9 _ (.tail _ (.tail _ (.tail _ (.tail _ (.tail _ (.tail _ (.tail _ (.head _))))))))
      rcases List.mem_cons.mp hq with rfl | hq
      · exact N9 _ (.head _)
      · exact N9 q (.tail _ (.tail _ (.tail _ (.tail _ (.tail _ (.tail _ (.tail _ (.tail _ hq))))))))
  case fin =>
    intro g9 m news h tk hV F N8
    obtain ⟨rfl, ys, sss, nw, nn, oS, vS, v1, v2, v3, dS9, hA, hRo, hof, rfl, rfl⟩ := hV
    clear F1 N1 hR dS
    have hofC : ∀ q ∈ nw, q.1 ≠ L' + 1 + 1 + 1 + 1 := fun q hq => (hof q hq).2.1
    k_steps
    · (rename News _ _ _ _ => N9)
      (rename Fr _ _ _ _ => F9)
      (rename decide _ = true => hdec)
      have hnil : first = [] := by simpa using hdec
      have NW : ∀ q ∈ (lv, lsO ys nn) :: nw, _ := fun q hq => (by
        rcases List.mem_cons.mp hq with rfl | hq
        · exact N9.get (a := lv) (o := lsO ys nn) (by k_mem)
        · exact (N9 q (.tail _ (.tail _ (.tail _ (.tail _ (.tail _ (.tail _ (.tail _ (.tail _ (.tail _ (.tail _ (.tail _ (.tail _ (.tail _ hq)))))))))))))).1 : Heap.get? _ q.1 = some q.2)
      obtain ⟨as1, ra⟩ := reads_rows (fun q hq => NW q (.tail _ hq)) hA
      have rb := reads_list_at (NW _ (.head _)) rfl rfl ra
      refine hret _ sss _ _ _ (keeps_as gh N0 F9 N9 (fun p hp => nomatch hp)) (reads_list_at (N9.get (.head _)) rfl rfl (ReadsAll.cons rb (ReadsAll.cons (by rw [dueH_nil hnil]; ke_read) ReadsAll.nil))) hRo
    · unfold Stop
      (rename News _ _ _ _ => N1)
      (rename Fr _ _ _ _ => F1)
      (rename decide _ = false => hdec)
      have hnil : first ≠ [] := by simpa using hdec
      have hfl9 := intsLen hfI
      rw [List.length_map] at hfl9
      refine LCg.CompSrc.base rfl F1 N1 hfl' (by rw [sizeLine_eq, List.size_toArray]; omega) fun g' => compRest_same (Inv := fun j ys => StrsAre ys ((first.take j).map nm)) (.inl hfl') ?mturn ?mfin .nil
      case mturn =>
        intro j2 ys2 v9 I3 oI C oC2 D m₂ h tk E' Nx3 hi3 hP hV hC hm F N off ne hN3
        obtain ⟨k, tk9, rfl, hk⟩ := ints_natM hfI (by simpa using hP)
        have hk5 : k < 5 := hf5 k (List.mem_of_getElem? hk)
        obtain ⟨tx2, hx2⟩ := hn k hk5
        rw [show k = ((k : Nat) : Int).toNat from rfl] at hx2
        simp only [LCg.Off3] at off
        clear F1 N1
        k_steps
        (rename News _ _ _ _ => N1)
        (rename Fr _ _ _ _ => F1)
        exact hN3 _ _ _ _ F1 N1 (fun p hp => hp) (by rw [take_one hk, List.map_append]; exact strsSnoc hV)
      case mfin =>
        intro ys2 hY D h tk F N off
        simp only [LCg.Off1] at off
        clear F1 N1
        rw [List.size_toArray, hfl9, List.take_length] at hY
        k_steps
        unfold Stop
        (rename News _ _ _ _ => N9)
        (rename Fr _ _ _ _ => F9)
        refine max_strs rfl F9 N9 ⟨_, (N9 _ (.head _)).1, rfl, _, rfl⟩ hY (by rw [List.length_map]; exact List.length_pos_iff.mpr hnil) fun h5 t5 tk5 F5 N5 => ?_
        clear F9 N9
        dsimp only
        k_steps
        unfold Stop
        (rename News _ _ _ _ => N9)
        (rename Fr _ _ _ _ => F9)
        refine index_strs (lsAt F9 hnl') hnS (best_mem hnil hf5) (Nat.le_of_ble_eq_true rfl) ?_
        k_steps
        unfold Stop
        (rename News _ _ _ _ => N1)
        (rename Fr _ _ _ _ => F1)
        (rename _ = Data.cell (some (Value.int _ _)) => dC9)
        obtain ⟨oC9, hoC9⟩ : ∃ o : Obj, o = dataO dC9 := ⟨_, rfl⟩
        dsimp only [dataO] at hoC9
        subst hoC9
        obtain ⟨tc9, htc9⟩ : ∃ tc : Tok, oC9.data = Data.cell (some (Value.int ((chiefOf nm first : Nat) : Int) tc)) := ⟨_, dC9⟩
        clear dC9
        have hnv5 := strsLen hnS
        have N2 : News g9 L' _ ((L' + 1 + 1 + 1 + 1, oC9) :: (lv, lsO ys nn) :: nw) := fun q hq => by
          rcases List.mem_cons.mp hq with rfl | hq
          · exact N1 _ (by k_mem)
          rcases List.mem_cons.mp hq with rfl | hq
          · exact N1 _ (by k_mem)
          · exact N1 q (.tail _ (.tail _ (.tail _ (.tail _ (.tail _ (.tail _ (.tail _ (.tail _ (.tail _ (.tail _ (.tail _ (.tail _ (.tail _ hq)))))))))))))
        clear N1
        refine LCg.CompSrc.base rfl F1 N2 hnl' (by rw [sizeLine_eq, List.size_toArray, hnv5]; exact Nat.le_of_ble_eq_true rfl) fun g' => compRest_ind (n := nvs.toArray.size) (Inv := fun j ys3 nw3 => ∃ nwX, nw3 = (L' + 1 + 1 + 1 + 1, oC9) :: (lv, lsO ys nn) :: nwX ∧ (∀ q ∈ nw, q ∈ nwX) ∧ All2 (TupAt (chiefOf nm first) nwX) ys3 (([0, 1, 2, 3, 4].map nm).take j)) ?hturn ?hfin nvs.toArray.size 0 [] _ (by k_extra "om") ⟨nw, rfl, fun q hq => hq, .nil⟩
        case hturn =>
          intro j ys3 nw3 v9 I3 oI C oC2 D3 m₂ h tk E' Nx3 hi3 hP hV hC hm F N off ne hN3
          obtain ⟨nwX, rfl, hsub, hT⟩ := hV
          rw [List.size_toArray, hnv5] at hi3
          have hi5 : j < 5 := hi3
          obtain ⟨tx2, hx2⟩ := hn j hi5
          have hv9 : v9 = .str (nm j) tx2 := by
            have : nvs[j]? = some v9 := by simpa using hP
            rw [hx2] at this
            exact (Option.some.inj this).symm
          subst hv9
          have off' := off
          simp only [LCg.Off3] at off'
          clear F1 N2
          k_steps
          (rename News _ _ _ _ => N9)
          (rename Fr _ _ _ _ => F9)
          obtain ⟨la, hla⟩ : ∃ x, x = ledA N9 := ⟨_, rfl⟩
          obtain ⟨lb, hlb⟩ : ∃ x, x = ledA2 N9 := ⟨_, rfl⟩
          dsimp only [ledA] at hla
          dsimp only [ledA2] at hlb
          subst hla hlb
          refine hN3 _ _ _ ((L' + 1 + 1 + 1 + 1, oC9) :: (lv, lsO ys nn) :: (la, lsO [.ref lb] 0) :: (lb, tuO [.str (nm j) tx2, .int ((chiefOf nm first : Nat) : Int) tc9] 0) :: nwX) F9 (fun q hq => ?_) ⟨off.1, off.2.1, ⟨by k_extra "om", by k_extra "om", by k_extra "om"⟩, ⟨by k_extra "om", by k_extra "om", by k_extra "om"⟩, off.2.2⟩ (.inl hnl') ⟨_, rfl, fun q hq => .tail _ (.tail _ (hsub q hq)), by rw [take_nm hi5]; exact all2_snoc (all2_imp hT fun v x h => TupAt.mono h fun q hq => .tail _ (.tail _ hq)) ⟨la, lb, _, _, 0, 0, rfl, .head _, .tail _ (.head _)⟩⟩
          rcases List.mem_cons.mp hq with rfl | hq
          · exact N9 _ (by k_mem)
          rcases List.mem_cons.mp hq with rfl | hq
          · exact N9 _ (by k_mem)
          rcases List.mem_cons.mp hq with rfl | hq
          · exact N9 _ (by k_mem)
          rcases List.mem_cons.mp hq with rfl | hq
          · exact N9 _ (by k_mem)
          rcases List.mem_cons.mp hq with rfl | hq
          · exact N9 _ (by k_mem)
          rcases List.mem_cons.mp hq with rfl | hq
          · exact N9 _ (by k_mem)
          rcases List.mem_cons.mp hq with rfl | hq
          · exact N9 _ (by k_mem)
          · exact N9 q (.tail _ (.tail _ (.tail _ (.tail _ (.tail _ (.tail _ (.tail _ hq)))))))
        case hfin =>
          intro ys3 nw3 hI D3 h tk F N off
          obtain ⟨nwX, rfl, hsub, hT⟩ := hI
          simp only [LCg.Off1] at off
          clear F1 N2
          rw [List.size_toArray, hnv5] at hT
          change All2 _ ys3 [nm 0, nm 1, nm 2, nm 3, nm 4] at hT
          k_steps
          (rename News _ _ _ _ => N9)
          (rename Fr _ _ _ _ => F9)
          have NW : ∀ q ∈ nwX, _ := fun q hq => ((N9 q (.tail _ (.tail _ (.tail _ (.tail _ hq))))).1 : Heap.get? _ q.1 = some q.2)
          obtain ⟨as1, ra⟩ := reads_rows (fun q hq => NW q (hsub q hq)) hA
          have rb := reads_list_at (N9.get (a := lv) (o := lsO ys nn) (by k_mem)) rfl rfl ra
          obtain ⟨as2, rt⟩ := reads_tupAt NW hT
          have rh := reads_list_at (N9.get (a := D3) (o := LCg.lst ys3) (by k_mem)) rfl rfl rt
          refine hret _ sss _ _ _ (keeps_as gh N0 F9 N9 (fun p hp => nomatch hp)) (reads_list_at (N9.get (.head _)) rfl rfl (ReadsAll.cons rb (ReadsAll.cons (by rw [dueH_some hnil]; exact rh) ReadsAll.nil))) hRo
end
end
-- LibG
open Sem (wp)
section
variable {M : Model} {A : Around} {R : GenEnd} {Y : Protocol} {n : Nat} {s₀ : Shared} {c : Code} {fs : List Frame} {s : Shared} {env : Env}
  {K : Flow → Sem Fin} {H : Value → Sem Fin} {gd : Bool → Bool} {lv : List Value → List Value}
theorem seg_If {test : PySem.Expr} {body orelse : List Stmt} {pos : Pos}
    (h : wpAny M (A.over c fs) (isTrue test env (eval test env)) (fun b s' => if b = true then Seg M A R Y n s₀ c ((execs body env).wrap K H gd lv) fs s' else Seg M A R Y n s₀ c ((execs orelse env).wrap K H gd lv) fs s') (fun x s' => Seg M A R Y n s₀ c (H x) fs s') s) :
    Seg M A R Y n s₀ c ((exec (.If test body orelse pos) env).wrap K H gd lv) fs s := by
  rw [exec_If]
  show Seg M A R Y n s₀ c (.at pos fun _ => (isTrue test env (eval test env) >>= fun b => if b then execs body env else execs orelse env).wrap K H gd lv) fs s
  refine seg_at ?_
  rw [Sem.bind_eq_wrap', Sem.wrap_wrap]
  refine seg_wrap (wpAny_mono h (fun b s' hb => ?_) fun _ _ x => x)
  cases b with
  | true => rw [if_pos rfl] at hb; exact hb
  | false => rw [if_neg Bool.false_ne_true] at hb; exact hb
theorem seg_stmt {st : Stmt} (h : wpAny M (A.over c fs) (exec st env) (fun f s' => Seg M A R Y n s₀ c (K f) fs s') (fun x s' => Seg M A R Y n s₀ c (H x) fs s') s) :
    Seg M A R Y n s₀ c ((exec st env).wrap K H gd lv) fs s := seg_wrap h
/-- what a loop's activation hands back to its statement -/
noncomputable abbrev loopK (env : Env) (K : Flow → Sem Fin) (H : Value → Sem Fin) (gd : Bool → Bool) (lv : List Value → List Value) (r : Result) : Sem Fin :=
  ((match r with | .ok f => (.pure f : Sem Flow) | .error e => .raise e).onRaise fun (x : Value) => do
        if (← field x 1) == Value.none then unsupported "frame.own-activation:exception-without-traceback"
        setFlight x env.frame).wrap K H gd lv
theorem seg_For {target iter : PySem.Expr} {body orelse : List Stmt} {pos : Pos}
    (h : wpAny M (A.over c fs) (eval iter env) (fun x s₁ => wpAny M (A.over c fs) (pyIter x) (fun it s₂ => ∀ p, Seg M A R Y n s₀ (.forLoop target it body orelse env) (M.den (.forLoop target it body orelse env)) (.ret (loopK env K H gd lv) none (gd false) (lv []) c p [] :: fs) s₂)
      (fun x s' => Seg M A R Y n s₀ c (H x) fs s') s₁) (fun x s' => Seg M A R Y n s₀ c (H x) fs s') s)
    (hs : ∀ x, foldedSetIterable iter env x = pure x := by intro _; rfl) :
    Seg M A R Y n s₀ c ((exec (.For target iter body orelse pos) env).wrap K H gd lv) fs s := by
  have e : exec (.For target iter body orelse pos) env = (do
    standAt pos
    let x ← (do let x ← foldedSetIterable iter env (← eval iter env); standAt iter.pos; holding [x] (pyIter x))
    runOwn (.forLoop target x body orelse env) env) := by
    rw [exec_For]
    simp only [bind_assoc]
  rw [e]
  show Seg M A R Y n s₀ c (.at pos fun _ => (_ >>= fun x => runOwn (.forLoop target x body orelse env) env).wrap K H gd lv) fs s
  refine seg_at ?_
  rw [Sem.bind_eq_wrap', Sem.wrap_wrap]
  refine seg_wrap ?_
  refine wpAny_bind (wpAny_mono h (fun x s₁ h₁ => wpAny_bind (wpAny_of_eq (hs x) (wpAny_bind (wpAny_standAt (wpAny_holding (wpAny_mono h₁ (fun it s₂ h₂ => ?_) fun _ _ x => x)))))) fun _ _ x => x)
  exact seg_call h₂
end
section
variable {prog : Program} {w : World} {A : Around} {R : GenEnd} {Y : Protocol} {n : Nat} {s₀ : Shared} {fs : List Frame} {s : Shared} {env : Env}
/-- what a loop's turn does behind its body -/
noncomputable abbrev turnK (c : Code) (f : Flow) : Sem Fin := match f with
  | .next | .cont => .pure (.again c)
  | .brk => .pure (.done .next)
  | .ret v => .pure (.done (.ret v))
noncomputable abbrev turnH (env : Env) (e : Value) : Sem Fin := (do noteFrame e env; theTreesLotGoes e : Sem Unit).wrap (fun _ => .raise e) .raise id id
theorem seg_forLoop {x : Str} {px : Pos} {it : Value} {body orelse : List Stmt}
    (h : wpAny (model prog w) (A.over (.forLoop (.Name x px) it body orelse env) fs) (pyNext it) (fun r s₁ => match r with
      | none => Seg (model prog w) A R Y n s₀ (.block orelse env) ((model prog w).den (.block orelse env)) fs s₁
      | some v => wpAny (model prog w) (A.over (.forLoop (.Name x px) it body orelse env) fs) (storeName env x v) (fun _ s₂ =>
          Seg (model prog w) A R Y n s₀ (.forLoop (.Name x px) it body orelse env) ((execs body env).wrap (turnK (.forLoop (.Name x px) it body orelse env)) (turnH env) id id) fs s₂) (fun _ _ => False) s₁) (fun _ _ => False) s) (hq : (Code.block orelse env).quiet = true) :
    Seg (model prog w) A R Y n s₀ (.forLoop (.Name x px) it body orelse env) ((model prog w).den (.forLoop (.Name x px) it body orelse env)) fs s := by
  show Seg _ A R Y n s₀ _ ((forTurn (.Name x px) it body orelse env).onRaise (fun x => do noteFrame x env; theTreesLotGoes x)) fs s
  unfold forTurn
  rw [Sem.onRaise_eq_wrap]
  rw [Sem.bind_eq_wrap', Sem.wrap_wrap]
  refine seg_wrap (wpAny_standAt ?_)
  rw [Sem.bind_eq_wrap', Sem.wrap_wrap]
  refine seg_wrap (wpAny_onRaise (wpAny_mono h (fun r s₁ h₁ => ?_) fun _ _ x => x.elim))
  cases r with
  | none => exact seg_again hq h₁
  | some v =>
    dsimp only
    rw [Sem.bind_eq_wrap', Sem.wrap_wrap]
    refine seg_wrap (wpAny_of_eq (a := ()) rfl ?_)
    rw [Sem.bind_eq_wrap', Sem.wrap_wrap]
    refine seg_wrap (wpAny_mono (wpAny_assign_Name h₁) (fun _ s₂ h₂ => ?_) fun _ _ x => x.elim)
    rw [Sem.bind_eq_wrap', Sem.wrap_wrap]
    rw [Sem.wrap_congr (execs body env) _ _ (K' := turnK (.forLoop (.Name x px) it body orelse env)) (H' := turnH env) (fun f => by cases f <;> rfl)
      (fun e => by first | exact Sem.bind_eq_wrap _ _ | (show (do noteFrame e env; theTreesLotGoes e : Sem Unit).bind (fun _ => .raise e) = _; rw [Sem.bind_eq_wrap]))]
    exact h₂
end
-- C24
theorem lines45 : True := by
  k_with_none
  k_with "in" => first | with_reducible assumption | exact And.left (by with_reducible assumption) | exact And.left (And.right (by with_reducible assumption)) | exact And.left (And.right (And.right (by with_reducible assumption))) | exact And.left (And.right (And.right (And.right (by with_reducible assumption)))) | exact And.left (And.right (And.right (And.right (And.right (by with_reducible assumption))))) | exact And.left (And.right (And.right (And.right (And.right (And.right (by with_reducible assumption)))))) | exact And.left (And.right (And.right (And.right (And.right (And.right (And.right (by with_reducible assumption))))))) | exact And.left (And.right (And.right (And.right (And.right (And.right (And.right (And.right (by with_reducible assumption)))))))) | exact And.left (And.right (And.right (And.right (And.right (And.right (And.right (And.right (And.right (by with_reducible assumption))))))))) | exact And.left (And.right (And.right (And.right (And.right (And.right (And.right (And.right (And.right (And.right (by with_reducible assumption)))))))))) | exact And.left (And.right (And.right (And.right (And.right (And.right (And.right (And.right (And.right (And.right (And.right (by with_reducible assumption))))))))))) | exact And.left (And.right (And.right (And.right (And.right (And.right (And.right (And.right (And.right (And.right (And.right (And.right (by with_reducible assumption)))))))))))) | exact And.left (And.right (And.right (And.right (And.right (And.right (And.right (And.right (And.right (And.right (And.right (And.right (And.right (by with_reducible assumption))))))))))))) | exact And.left (And.right (And.right (And.right (And.right (And.right (And.right (And.right (And.right (And.right (And.right (And.right (And.right (And.right (by with_reducible assumption)))))))))))))) | exact And.left (And.right (And.right (And.right (And.right (And.right (And.right (And.right (And.right (And.right (And.right (And.right (And.right (And.right (And.right (by with_reducible assumption))))))))))))))) | exact And.right (by with_reducible assumption) | exact And.right (And.right (by with_reducible assumption)) | exact And.right (And.right (And.right (by with_reducible assumption))) | exact And.right (And.right (And.right (And.right (by with_reducible assumption)))) | exact And.right (And.right (And.right (And.right (And.right (by with_reducible assumption))))) | exact And.right (And.right (And.right (And.right (And.right (And.right (by with_reducible assumption)))))) | exact And.right (And.right (And.right (And.right (And.right (And.right (And.right (by with_reducible assumption))))))) | exact And.right (And.right (And.right (And.right (And.right (And.right (And.right (And.right (by with_reducible assumption)))))))) | exact And.right (And.right (And.right (And.right (And.right (And.right (And.right (And.right (And.right (by with_reducible assumption))))))))) | exact And.right (And.right (And.right (And.right (And.right (And.right (And.right (And.right (And.right (And.right (by with_reducible assumption)))))))))) | exact And.right (And.right (And.right (And.right (And.right (And.right (And.right (And.right (And.right (And.right (And.right (by with_reducible assumption))))))))))) | exact And.right (And.right (And.right (And.right (And.right (And.right (And.right (And.right (And.right (And.right (And.right (And.right (by with_reducible assumption)))))))))))) | exact And.right (And.right (And.right (And.right (And.right (And.right (And.right (And.right (And.right (And.right (And.right (And.right (And.right (by with_reducible assumption))))))))))))) | exact And.right (And.right (And.right (And.right (And.right (And.right (And.right (And.right (And.right (And.right (And.right (And.right (And.right (And.right (by with_reducible assumption))))))))))))))
  k_with "lt0" => first | with_reducible assumption | exact Nat.lt_trans (by with_reducible assumption) (by k_extra "lt0")
  k_with "lt" => first | k_extra "in" | exact Nat.lt_trans (by k_extra "in") (by k_extra "lt")
  k_with "ne0" => first | with_reducible assumption | exact Ne.symm (by with_reducible assumption) | exact Nat.succ_ne_self _ | exact Ne.symm (Nat.succ_ne_self _) | (refine Nat.ne_of_lt ?_; k_extra "lt0") | (refine Nat.ne_of_gt ?_; k_extra "lt0")
  k_with "ne1" => first | k_extra "in" | (refine Ne.symm ?_; k_extra "in") | (refine Nat.ne_of_lt ?_; k_extra "lt") | (refine Nat.ne_of_gt ?_; k_extra "lt")
  k_with "ne2" => first | (refine Nat.ne_of_lt ?_; k_extra "lt0") | (refine Nat.ne_of_gt ?_; k_extra "lt0") | (refine Nat.ne_of_lt (And.left (by with_reducible assumption)))  | (refine Nat.ne_of_gt (And.left (by with_reducible assumption))) | (refine Nat.ne_of_lt (Nat.lt_trans (And.right (by with_reducible assumption)) ?_); k_extra "lt0") | (refine Nat.ne_of_lt (And.right (by with_reducible assumption))) | (refine Nat.ne_of_gt (Nat.lt_trans ?_ (And.left (by with_reducible assumption))); k_extra "lt0")
  k_with "ne" => first | k_extra "ne0" | (refine Or.elim (by with_reducible assumption : @LT.lt Nat _ _ _ ∨ @LT.lt Nat _ _ _ ∧ @LT.lt Nat _ _ _) (fun q9 => ?_) (fun q9 => ?_); (all_goals k_extra "ne2")) | k_extra "ne1"
  k_with "ifs" => first | with_reducible rfl | exact Eq.trans (if_neg (by assumption)) (by k_extra "ifs")
  k_with "up" => first | exact up2 (by with_reducible assumption) rfl | exact up1 (by with_reducible assumption) rfl | exact up3 (by with_reducible assumption) rfl | exact up4 (by with_reducible assumption) rfl | exact up5 (by with_reducible assumption) rfl
  k_with "om" => first | with_reducible assumption | exact Nat.succ_pos _ | (with_reducible show @LT.lt Nat _ _ _; (try dsimp only); first | k_extra "lt0" | k_extra "up" | k_extra "lt") | (with_reducible show @Ne Nat _ _; k_extra "ne") | (with_reducible show @LT.lt Nat _ _ _ ∧ @LT.lt Nat _ _ _; refine And.intro ?_ ?_ <;> k_extra "om") | (with_reducible show @Eq Nat _ _; first | exact Nat.add_sub_add_right 6 1 _ | exact (Nat.add_sub_add_right 6 1 _).symm | exact Nat.succ_sub (by omega) | exact (Nat.succ_sub (by omega)).symm | exact Nat.sub_sub_self (by omega)) | omega
  k_with "k_room" => first | k_extra "up" | ((try simp only [depth_under_make, depth_under_kw, depth_in1, depth_deeper, depth_caller]); omega)
  k_with "tb_start" => first | assumption | omega | (simp only [List.length_cons, List.length_nil, List.length_append]; omega)
  k_with "tb_rel" => repeat' (first | exact List.forall_mem_nil _ | refine List.forall_mem_cons.mpr ⟨by first | exact Or.inr (by k_mem) | exact Or.inl (by simp), ?_⟩)
  k_with "k_units" => first | k_extra "up" | ((try simp only [units_in1, units_deeper, Around.mark_units, units_caller]); omega)
  k_with "call type:list" => (k_here; (with_reducible show wpAny _ _ (call (Value.type "list") [Value.str _ _]) _ _ _); k_dflt (refine' list_strN ?h ?F ?N ?z ?_; (case h => rfl); (case F => k_asm); (case N => k_asm); (case z => exact Nat.le_trans (by assumption) (Nat.le_of_ble_eq_true rfl)); k_whole); intro l₉ h₉ tk₉ vs₉ k₉ F₉ N₉ l1₉ hc₉; (try k_lt l1₉); (try k_sweep))
  k_with "truthy ref" => (k_here; k_dflt (refine' truthy_ls ?N ?m ?z ?_; (case N => k_asm); (case m => k_mem); (case z => tb_start)); (intro tk₉; (try dsimp only [List.isEmpty_cons, List.isEmpty_nil, Bool.not_false, Bool.not_true])))
  k_with "call builtin:list.pop" => (k_here; (with_reducible show wpAny _ _ (call (Value.builtin "list.pop") [Value.ref _, Value.int 0 _]) _ _ _); k_dflt (refine' pop0_N ?F ?N ?U ?z ?_; (case F => k_asm); (case N => k_asm); (case U => k_upd); (case z => tb_start)); (intro h₉ F₉ N₉; (try k_sweep)))
  exact True.intro
open Sem (wp)
/-- the generator's loop, taken out of the given program -/
noncomputable def genL : Pos × List Stmt :=
  match (PySem.Challenge.pw_wn0047_01.main.body)[11]? with
  | some (PySem.Stmt.FunctionDef _ _ body _ _ _ _ _ _ _) => match (body : List PySem.Stmt)[1]? with
    | some (PySem.Stmt.For (PySem.Expr.Name _ px) _ b _ _) => (px, b)
    | _ => default
  | _ => default
noncomputable def genS : Scope :=
  match (PySem.Challenge.pw_wn0047_01.main.body)[11]? with
  | some (PySem.Stmt.FunctionDef _ _ _ _ _ _ sc _ _ _) => sc
  | _ => default
noncomputable def genW : PySem.Expr × List Stmt :=
  match genL.2[1]? with
  | some (PySem.Stmt.If _ b _ _) => match (b : List PySem.Stmt)[1]? with
    | some (PySem.Stmt.While t b _ _) => (t, b)
    | _ => default
  | _ => default
inductive GS where
  | lp (i : Nat) (last : Option Int)
  | yF (i : Nat) (v : Int)
  | yW (l : Int)
inductive GO where
  | fin
  | err
  | out (v : Int) (st : GS)
noncomputable def goZ : Option Int → GO
  | none => .err
  | some l => .out l (.yW l)
noncomputable def goL (r : List Int) (i : Nat) (last : Option Int) : GO := match r[i]? with
  | none => .fin
  | some v => if v = 127 then .fin else if v = 0 then goZ last else .out v (.yF i v)
theorem goL_at {r : List Int} {i : Nat} {last : Option Int} {v : Int} (h : r[i]? = some v) : goL r i last = if v = 127 then .fin else if v = 0 then goZ last else .out v (.yF i v) := by unfold goL; rw [h]
theorem goL_end {r : List Int} {i : Nat} {last : Option Int} (h : r[i]? = none) : goL r i last = .fin := by unfold goL; rw [h]
theorem goL_ne {r : List Int} {i : Nat} {v : Int} : goL r i (some v) ≠ .err := by
  unfold goL
  split
  · exact nofun
  · split
    · exact nofun
    · split <;> exact nofun
noncomputable def emit (r : List Int) : GS → GO
  | .lp i last => goL r i last
  | .yF i v => goL r (i + 1) (some v)
  | .yW l => .out l (.yW l)
noncomputable def sq (r : List Int) : Nat → GS
  | 0 => .lp 0 none
  | k + 1 => match emit r (sq r k) with
    | .out _ st => st
    | _ => sq r k
theorem sq_next {r : List Int} {k : Nat} {v : Int} {st : GS} (h : emit r (sq r k) = .out v st) : sq r (k + 1) = st := by
  show (match emit r (sq r k) with | .out _ st => st | _ => sq r k) = st
  rw [h]
noncomputable abbrev gEnv (Lg : Addr) : Env := envOf (Str.ofString "_grouping_intervals") genS Lg 121 (.ref 120)
section
variable {w : World} {A : Around} {R : GenEnd} {Y : Protocol} {fs : List Frame} {g : Heap} {Lg : Addr} {p : Program} {loose : List Str} {mean : ExcName → Option Value} {mg mb : Str → Option Value} {d u : Nat} {gd : Option (List Code)} {os : List Env}
theorem seg_W {l : Int} {tl : Tok} {c : Code} (hc : c = .whileLoop genW.1 genW.2 [] (gEnv Lg)) (hov : A.over c fs = AT d u gd os) (hsp : splitAtGen fs = none) (hfg : fs.any Frame.guarded = false)
    {n : Nat} {s₀ : Shared} {h : Heap} {tk : Nat} {m : Names} (F : Fr g Lg h m) (hm : m (Str.ofString "last_interval") = some (.int l tl))
    (hY : ∀ tk' kap, (∀ s'', Seg (model PySem.Challenge.rw_wn0047_01.row.prog w) A R Y n s'' c ((model PySem.Challenge.rw_wn0047_01.row.prog w).den c) fs s'' → kap (.send .none) s'') → Y n s₀ (.int l tl) { s₀ with heap := h, toks := tk' } kap) :
    Seg (model PySem.Challenge.rw_wn0047_01.row.prog w) A R Y (n + 1) s₀ c ((model PySem.Challenge.rw_wn0047_01.row.prog w).den c) fs { s₀ with heap := h, toks := tk } := by
  have hx : genW = genW := rfl
  conv at hx => rhs; whnf
  have hS : genS = genS := rfl
  conv at hS => rhs; whnf
  simp only [hx, hS, gEnv] at hc
  subst hc
  refine seg_whileLoop ?_
  rw [hov]
  k_steps

  refine seg_execs_cons (seg_Expr_Yield hsp rfl hfg ?_)
  rw [hov]
  k_steps
  refine PyProof.Rows.ld F hm ?_
  intro kap hk
  exact hY _ kap fun s'' hs => hk .none s'' (seg_execs_nil (seg_again rfl hs))
end
noncomputable abbrev MD (w : World) : Model := model PySem.Challenge.rw_wn0047_01.row.prog w
noncomputable def IterAt (oI : Obj) (a : Addr) (i : Nat) : Prop := oI.cls = .type "list_iterator" ∧ oI.data = .fields #[.ref a, .int i 0]
noncomputable def lastOk (m : Names) : Option Int → Prop
  | none => m (Str.ofString "last_interval") = some .none
  | some l => ∃ t, m (Str.ofString "last_interval") = some (.int l t)
noncomputable def GIm (a : Addr) (oI : Obj) (m : Names) : GS → Prop
  | .lp i last => lastOk m last ∧ IterAt oI a i
  | .yF i v => (∃ t, m (Str.ofString "interval") = some (.int v t)) ∧ IterAt oI a (i + 1)
  | .yW l => ∃ t, m (Str.ofString "last_interval") = some (.int l t)
/-- the places that the generator meets -/
structure GP where
  (r : List Int) (vs : List Value) (k0 : Nat) (a G L lv Lg : Addr) (g : Heap)
noncomputable abbrev GP.led (P : GP) (I : Addr) (oI oG oL oM : Obj) : Led := [(I, oI), (P.a, lsO P.vs P.k0), (P.G, oG), (P.L, oL), (P.lv, oM)]
noncomputable def GP.big (P : GP) (I : Addr) : Prop := @LT.lt Nat _ P.a I ∧ @LT.lt Nat _ P.G I ∧ @LT.lt Nat _ P.L I ∧ @LT.lt Nat _ P.lv I ∧ @LT.lt Nat _ P.Lg I
noncomputable def GP.same (P : GP) (h h' : Heap) : Prop := ∀ q ∈ [P.a, P.G, P.L, P.lv], ∀ o, h.get? q = some o → h'.get? q = some o
theorem GP.same.trans {P : GP} {h h' h'' : Heap} (x : P.same h h') (y : P.same h' h'') : P.same h h'' := fun q hq o e => y q hq o (x q hq o e)
noncomputable def GP.Y (P : GP) : Protocol := fun j s₀ v s₁ kap => ∃ x t, v = .int x t ∧ emit P.r (sq P.r (6 - j)) = .out x (sq P.r (7 - j)) ∧ ∃ I oI h tk m, s₁ = { s₀ with heap := h, toks := tk } ∧ GIm P.a oI m (sq P.r (7 - j)) ∧ Fr P.g P.Lg h m ∧ News P.g P.Lg h [(I, oI)] ∧ P.big I ∧ P.same s₀.heap h ∧
  (1 ≤ j → ∀ s'' mm oG oL oM, Fr P.g P.Lg s''.heap mm → GIm P.a oI mm (sq P.r (7 - j)) → News P.g P.Lg s''.heap (P.led I oI oG oL oM) → kap (.send .none) s'')
noncomputable def GP.R (P : GP) : GenEnd := fun n s₀ res s' => emit P.r (sq P.r (7 - n)) = .fin ∧ res = .ok (.ret .none) ∧ ∃ h tk m, s' = { s₀ with heap := h, toks := tk } ∧ Fr P.g P.Lg h m ∧ P.same s₀.heap h
theorem led_same {P : GP} {I : Addr} {oI oI' oG oL oM : Obj} {h h' : Heap} (N : News P.g P.Lg h (P.led I oI oG oL oM)) (N' : News P.g P.Lg h' (P.led I oI' oG oL oM)) : P.same h h' := by
  intro q hq o e
  have t : ∀ x, (q, x) ∈ P.led I oI oG oL oM → (q, x) ∈ P.led I oI' oG oL oM → h'.get? q = some o := fun x h1 h2 => by
    have := (N _ h1).1
    rw [e] at this
    cases this
    exact (N' _ h2).1
  rcases List.mem_cons.mp hq with rfl | hq
  · exact t _ (.tail _ (.head _)) (.tail _ (.head _))
  rcases List.mem_cons.mp hq with rfl | hq
  · exact t _ (.tail _ (.tail _ (.head _))) (.tail _ (.tail _ (.head _)))
  rcases List.mem_cons.mp hq with rfl | hq
  · exact t _ (.tail _ (.tail _ (.tail _ (.head _)))) (.tail _ (.tail _ (.tail _ (.head _))))
  · cases List.mem_singleton.mp hq
    exact t _ (.tail _ (.tail _ (.tail _ (.tail _ (.head _))))) (.tail _ (.tail _ (.tail _ (.tail _ (.head _)))))
-- C25
theorem lines46 : True := by
  k_with_none
  k_with "in" => first | with_reducible assumption | exact And.left (by with_reducible assumption) | exact And.left (And.right (by with_reducible assumption)) | exact And.left (And.right (And.right (by with_reducible assumption))) | exact And.left (And.right (And.right (And.right (by with_reducible assumption)))) | exact And.left (And.right (And.right (And.right (And.right (by with_reducible assumption))))) | exact And.left (And.right (And.right (And.right (And.right (And.right (by with_reducible assumption)))))) | exact And.left (And.right (And.right (And.right (And.right (And.right (And.right (by with_reducible assumption))))))) | exact And.left (And.right (And.right (And.right (And.right (And.right (And.right (And.right (by with_reducible assumption)))))))) | exact And.left (And.right (And.right (And.right (And.right (And.right (And.right (And.right (And.right (by with_reducible assumption))))))))) | exact And.left (And.right (And.right (And.right (And.right (And.right (And.right (And.right (And.right (And.right (by with_reducible assumption)))))))))) | exact And.left (And.right (And.right (And.right (And.right (And.right (And.right (And.right (And.right (And.right (And.right (by with_reducible assumption))))))))))) | exact And.left (And.right (And.right (And.right (And.right (And.right (And.right (And.right (And.right (And.right (And.right (And.right (by with_reducible assumption)))))))))))) | exact And.left (And.right (And.right (And.right (And.right (And.right (And.right (And.right (And.right (And.right (And.right (And.right (And.right (by with_reducible assumption))))))))))))) | exact And.left (And.right (And.right (And.right (And.right (And.right (And.right (And.right (And.right (And.right (And.right (And.right (And.right (And.right (by with_reducible assumption)))))))))))))) | exact And.left (And.right (And.right (And.right (And.right (And.right (And.right (And.right (And.right (And.right (And.right (And.right (And.right (And.right (And.right (by with_reducible assumption))))))))))))))) | exact And.right (by with_reducible assumption) | exact And.right (And.right (by with_reducible assumption)) | exact And.right (And.right (And.right (by with_reducible assumption))) | exact And.right (And.right (And.right (And.right (by with_reducible assumption)))) | exact And.right (And.right (And.right (And.right (And.right (by with_reducible assumption))))) | exact And.right (And.right (And.right (And.right (And.right (And.right (by with_reducible assumption)))))) | exact And.right (And.right (And.right (And.right (And.right (And.right (And.right (by with_reducible assumption))))))) | exact And.right (And.right (And.right (And.right (And.right (And.right (And.right (And.right (by with_reducible assumption)))))))) | exact And.right (And.right (And.right (And.right (And.right (And.right (And.right (And.right (And.right (by with_reducible assumption))))))))) | exact And.right (And.right (And.right (And.right (And.right (And.right (And.right (And.right (And.right (And.right (by with_reducible assumption)))))))))) | exact And.right (And.right (And.right (And.right (And.right (And.right (And.right (And.right (And.right (And.right (And.right (by with_reducible assumption))))))))))) | exact And.right (And.right (And.right (And.right (And.right (And.right (And.right (And.right (And.right (And.right (And.right (And.right (by with_reducible assumption)))))))))))) | exact And.right (And.right (And.right (And.right (And.right (And.right (And.right (And.right (And.right (And.right (And.right (And.right (And.right (by with_reducible assumption))))))))))))) | exact And.right (And.right (And.right (And.right (And.right (And.right (And.right (And.right (And.right (And.right (And.right (And.right (And.right (And.right (by with_reducible assumption))))))))))))))
  k_with "lt0" => first | with_reducible assumption | exact Nat.lt_trans (by with_reducible assumption) (by k_extra "lt0")
  k_with "lt" => first | k_extra "in" | exact Nat.lt_trans (by k_extra "in") (by k_extra "lt")
  k_with "ne0" => first | with_reducible assumption | exact Ne.symm (by with_reducible assumption) | exact Nat.succ_ne_self _ | exact Ne.symm (Nat.succ_ne_self _) | (refine Nat.ne_of_lt ?_; k_extra "lt0") | (refine Nat.ne_of_gt ?_; k_extra "lt0")
  k_with "ne1" => first | k_extra "in" | (refine Ne.symm ?_; k_extra "in") | (refine Nat.ne_of_lt ?_; k_extra "lt") | (refine Nat.ne_of_gt ?_; k_extra "lt")
  k_with "ne2" => first | (refine Nat.ne_of_lt ?_; k_extra "lt0") | (refine Nat.ne_of_gt ?_; k_extra "lt0") | (refine Nat.ne_of_lt (And.left (by with_reducible assumption)))  | (refine Nat.ne_of_gt (And.left (by with_reducible assumption))) | (refine Nat.ne_of_lt (Nat.lt_trans (And.right (by with_reducible assumption)) ?_); k_extra "lt0") | (refine Nat.ne_of_lt (And.right (by with_reducible assumption))) | (refine Nat.ne_of_gt (Nat.lt_trans ?_ (And.left (by with_reducible assumption))); k_extra "lt0")
  k_with "ne" => first | k_extra "ne0" | (refine Or.elim (by with_reducible assumption : @LT.lt Nat _ _ _ ∨ @LT.lt Nat _ _ _ ∧ @LT.lt Nat _ _ _) (fun q9 => ?_) (fun q9 => ?_); (all_goals k_extra "ne2")) | k_extra "ne1"
  k_with "ifs" => first | with_reducible rfl | exact Eq.trans (if_neg (by assumption)) (by k_extra "ifs")
  k_with "up" => first | exact up2 (by with_reducible assumption) rfl | exact up1 (by with_reducible assumption) rfl | exact up3 (by with_reducible assumption) rfl | exact up4 (by with_reducible assumption) rfl | exact up5 (by with_reducible assumption) rfl
  k_with "om" => first | with_reducible assumption | exact Nat.succ_pos _ | (with_reducible show @LT.lt Nat _ _ _; (try dsimp only); first | k_extra "lt0" | k_extra "up" | k_extra "lt") | (with_reducible show @Ne Nat _ _; k_extra "ne") | (with_reducible show @LT.lt Nat _ _ _ ∧ @LT.lt Nat _ _ _; refine And.intro ?_ ?_ <;> k_extra "om") | (with_reducible show @Eq Nat _ _; first | exact Nat.add_sub_add_right 6 1 _ | exact (Nat.add_sub_add_right 6 1 _).symm | exact Nat.succ_sub (by omega) | exact (Nat.succ_sub (by omega)).symm | exact Nat.sub_sub_self (by omega)) | omega
  k_with "k_room" => first | k_extra "up" | ((try simp only [depth_under_make, depth_under_kw, depth_in1, depth_deeper, depth_caller]); omega)
  k_with "tb_start" => first | assumption | omega | (simp only [List.length_cons, List.length_nil, List.length_append]; omega)
  k_with "tb_rel" => repeat' (first | exact List.forall_mem_nil _ | refine List.forall_mem_cons.mpr ⟨by first | exact Or.inr (by k_mem) | exact Or.inl (by simp), ?_⟩)
  k_with "k_units" => first | k_extra "up" | ((try simp only [units_in1, units_deeper, Around.mark_units, units_caller]); omega)
  k_with "call type:list" => (k_here; (with_reducible show wpAny _ _ (call (Value.type "list") [Value.str _ _]) _ _ _); k_dflt (refine' list_strN ?h ?F ?N ?z ?_; (case h => rfl); (case F => k_asm); (case N => k_asm); (case z => exact Nat.le_trans (by assumption) (Nat.le_of_ble_eq_true rfl)); k_whole); intro l₉ h₉ tk₉ vs₉ k₉ F₉ N₉ l1₉ hc₉; (try k_lt l1₉); (try k_sweep))
  k_with "truthy ref" => (k_here; k_dflt (refine' truthy_ls ?N ?m ?z ?_; (case N => k_asm); (case m => k_mem); (case z => tb_start)); (intro tk₉; (try dsimp only [List.isEmpty_cons, List.isEmpty_nil, Bool.not_false, Bool.not_true])))
  k_with "call builtin:list.pop" => (k_here; (with_reducible show wpAny _ _ (call (Value.builtin "list.pop") [Value.ref _, Value.int 0 _]) _ _ _); k_dflt (refine' pop0_N ?F ?N ?U ?z ?_; (case F => k_asm); (case N => k_asm); (case U => k_upd); (case z => tb_start)); (intro h₉ F₉ N₉; (try k_sweep)))
  exact True.intro
open Sem (wp)
section
variable {w : World} {P : GP} {p : Program} {loose : List Str} {mean : ExcName → Option Value} {mg mb : Str → Option Value} {dp un : Nat} {gd : Option (List Code)} {os0 : List Env} {kF : Result → Sem Fin} {fb : List Stmt} {l0 : List Value} {pF : Pos}
/-- the frames below the loop -/
noncomputable abbrev fsF (kF : Result → Sem Fin) (l0 : List Value) (fb : List Stmt) (Lg : Addr) (pF : Pos) : List Frame := [.ret kF none false l0 (.func fb (gEnv Lg)) pF []]
theorem over_F {c : Code} (h1 : c.weight = 0) (h2 : c.envs = []) (h3 : c.guards = []) : ∃ d u, (AT dp un gd os0).over c (fsF kF l0 fb P.Lg pF) = AT d u gd (gEnv P.Lg :: os0) ∧ d ≤ dp + 4 ∧ u ≤ un + 20 + c.cUnits := by
  refine ⟨dp + 1 + c.weight, un + unitsOf ((fsF kF l0 fb P.Lg pF).map Frame.where_) + c.cUnits, ?_, by k_extra "om", ?_⟩
  · unfold Around.over
    rw [h2, h3]
    rfl
  · have : unitsOf ((fsF kF l0 fb P.Lg pF).map Frame.where_) ≤ 20 := Nat.le_of_ble_eq_true rfl
    omega
theorem over_W {c c' : Code} {kW : Result → Sem Fin} {l1 : List Value} {pW : Pos} (h1 : c.weight = 0) (h2 : c.envs = []) (h3 : c.guards = []) (h1' : c'.weight = 0) (h2' : envsOf [(c', pW), (.func fb (gEnv P.Lg), pF)] = [gEnv P.Lg]) (h3' : guardsOf [(c', pW), (.func fb (gEnv P.Lg), pF)] = []) (hm : (marksOver (.ret kW none false l1 c' pW [] :: fsF kF l0 fb P.Lg pF) (none, none)).1 = none) : ∃ d u, (AT dp un gd os0).over c (.ret kW none false l1 c' pW [] :: fsF kF l0 fb P.Lg pF) = AT d u gd (gEnv P.Lg :: os0) := by
  refine ⟨dp + frameCount ((Frame.ret kW none false l1 c' pW [] :: fsF kF l0 fb P.Lg pF).map Frame.where_) + c.weight, un + unitsOf ((Frame.ret kW none false l1 c' pW [] :: fsF kF l0 fb P.Lg pF).map Frame.where_) + c.cUnits, ?_⟩
  unfold Around.over
  rw [h2, h3]
  show Around.mk (marksOver (.ret kW none false l1 c' pW [] :: fsF kF l0 fb P.Lg pF) (none, none)).1 _ (pushEnvs [] (pushEnvs (envsOf [(c', pW), (.func fb (gEnv P.Lg), pF)]) (some os0))) (pushGuards [] (pushGuards (guardsOf [(c', pW), (.func fb (gEnv P.Lg), pF)]) gd)) _ = _
  rw [h2', h3', hm]
  rfl
theorem seg_Ws {l : Int} {kW : Result → Sem Fin} {l1 : List Value} {c' : Code} {pW : Pos} (h1' : c'.weight = 0) (h2' : envsOf [(c', pW), (.func fb (gEnv P.Lg), pF)] = [gEnv P.Lg]) (h3' : guardsOf [(c', pW), (.func fb (gEnv P.Lg), pF)] = []) (hm : (marksOver (.ret kW none false l1 c' pW [] :: fsF kF l0 fb P.Lg pF) (none, none)).1 = none) (hsp : splitAtGen (.ret kW none false l1 c' pW [] :: fsF kF l0 fb P.Lg pF) = none) (hfg : (Frame.ret kW none false l1 c' pW [] :: fsF kF l0 fb P.Lg pF).any Frame.guarded = false) :
    ∀ n, n ≤ 6 → emit P.r (sq P.r (6 - n)) = .out l (.yW l) → ∀ I oI h tk m s₀, (∃ t, m (Str.ofString "last_interval") = some (.int l t)) → Fr P.g P.Lg h m → News P.g P.Lg h [(I, oI)] → P.big I → P.same s₀.heap h →
      Seg (model PySem.Challenge.rw_wn0047_01.row.prog w) (AT dp un gd os0) P.R P.Y (n + 1) s₀ (.whileLoop genW.1 genW.2 [] (gEnv P.Lg)) ((model PySem.Challenge.rw_wn0047_01.row.prog w).den (.whileLoop genW.1 genW.2 [] (gEnv P.Lg))) (.ret kW none false l1 c' pW [] :: fsF kF l0 fb P.Lg pF) { s₀ with heap := h, toks := tk } := by
  intro n
  induction n with
  | zero =>
    intro hn he I oI h tk m s₀ hl F N hB hS
    obtain ⟨tl, hl⟩ := hl
    obtain ⟨d, u, hov⟩ := over_W (dp := dp) (un := un) (gd := gd) (os0 := os0) (c := (.whileLoop genW.1 genW.2 [] (gEnv P.Lg))) rfl rfl rfl h1' h2' h3' hm
    refine seg_W rfl hov hsp hfg F hl fun tk' kap hk => ?_
    have hs : sq P.r (7 - 0) = .yW l := sq_next he
    exact ⟨l, tl, rfl, by rw [hs]; exact he, I, oI, h, _, m, rfl, by rw [hs]; exact ⟨tl, hl⟩, F, N, hB, hS, fun h1 => absurd h1 (by k_extra "om")⟩
  | succ n ih =>
    intro hn he I oI h tk m s₀ hl F N hB hS
    obtain ⟨tl, hl⟩ := hl
    obtain ⟨d, u, hov⟩ := over_W (dp := dp) (un := un) (gd := gd) (os0 := os0) (c := (.whileLoop genW.1 genW.2 [] (gEnv P.Lg))) rfl rfl rfl h1' h2' h3' hm
    refine seg_W rfl hov hsp hfg F hl fun tk' kap hk => ?_
    have hs : sq P.r (7 - (n + 1)) = .yW l := by
      have := sq_next he
      rw [show 6 - (n + 1) + 1 = 7 - (n + 1) from by k_extra "om"] at this
      exact this
    refine ⟨l, tl, rfl, by rw [hs]; exact he, I, oI, h, _, m, rfl, by rw [hs]; exact ⟨tl, hl⟩, F, N, hB, hS, fun h1 s'' mm oG oL oM F3 G3 N3 => hk s'' ?_⟩
    rw [hs] at G3
    exact ih (by k_extra "om") (by rw [show 6 - n = 7 - (n + 1) from by k_extra "om", hs]; rfl) I oI s''.heap s''.toks mm s'' G3 F3 (fun q hq => N3 q (by cases List.mem_singleton.mp hq; exact .head _)) hB (fun q _ o e => e)
theorem seg_F1 (X : (hd.heap_39 w.params).In P.g) (T : Top p loose mean mg mb P.g) (hdp : dp + 12 < recursionLimit) (hu : un + 120 < cLine) (hI : IntsAre P.vs P.r) (hr : P.r.length = 4)
    (hK : ∀ n s₀ s f, f = Flow.next ∨ f = .ret .none → P.R n s₀ (.ok (.ret .none)) s → Seg (model PySem.Challenge.rw_wn0047_01.row.prog w) (AT dp un gd os0) P.R P.Y n s₀ (.func fb (gEnv P.Lg)) (kF (.ok f)) [] s)
    (n : Nat) (hn : n ≤ 6) (ih : 1 ≤ n → ∀ i last I oI oG oL oM h tk m s₀, emit P.r (sq P.r (7 - n)) = goL P.r i last → goL P.r i last ≠ .err → lastOk m last → IterAt oI P.a i → i ≤ 4 → Fr P.g P.Lg h m → News P.g P.Lg h (P.led I oI oG oL oM) → P.big I → P.same s₀.heap h →
      Seg (model PySem.Challenge.rw_wn0047_01.row.prog w) (AT dp un gd os0) P.R P.Y n s₀ (.forLoop (.Name (Str.ofString "interval") genL.1) (.ref I) genL.2 [] (gEnv P.Lg)) ((model PySem.Challenge.rw_wn0047_01.row.prog w).den (.forLoop (.Name (Str.ofString "interval") genL.1) (.ref I) genL.2 [] (gEnv P.Lg))) (fsF kF l0 fb P.Lg pF) { s₀ with heap := h, toks := tk }) : ∀ i last I oI oG oL oM h tk m s₀, emit P.r (sq P.r (6 - n)) = goL P.r i last → goL P.r i last ≠ .err → lastOk m last → IterAt oI P.a i → i ≤ 4 → Fr P.g P.Lg h m → News P.g P.Lg h (P.led I oI oG oL oM) → P.big I → P.same s₀.heap h →
      Seg (model PySem.Challenge.rw_wn0047_01.row.prog w) (AT dp un gd os0) P.R P.Y (n + 1) s₀ (.forLoop (.Name (Str.ofString "interval") genL.1) (.ref I) genL.2 [] (gEnv P.Lg)) ((model PySem.Challenge.rw_wn0047_01.row.prog w).den (.forLoop (.Name (Str.ofString "interval") genL.1) (.ref I) genL.2 [] (gEnv P.Lg))) (fsF kF l0 fb P.Lg pF) { s₀ with heap := h, toks := tk } := by
    intro i last I oI oG oL oM h tk m s₀ he hne hl hIt hi F N hB hS0
    revert X; k_fill; intro X
    obtain ⟨d, u, hov, hd1, hu1⟩ := over_F (dp := dp) (un := un) (gd := gd) (os0 := os0) (kF := kF) (l0 := l0) (fb := fb) (P := P) (pF := pF) (c := (.forLoop (.Name (Str.ofString "interval") genL.1) (.ref I) genL.2 [] (gEnv P.Lg))) rfl rfl rfl
    refine seg_forLoop ?_ rfl
    rw [hov]
    have hne' : ∀ q ∈ ([(P.a, lsO P.vs P.k0), (P.G, oG), (P.L, oL), (P.lv, oM)] : Led), q.1 ≠ I := by
      obtain ⟨b1, b2, b3, b4, b5⟩ := hB
      intro q hq
      rcases List.mem_cons.mp hq with rfl | hq
      · exact Nat.ne_of_lt b1
      rcases List.mem_cons.mp hq with rfl | hq
      · exact Nat.ne_of_lt b2
      rcases List.mem_cons.mp hq with rfl | hq
      · exact Nat.ne_of_lt b3
      · cases List.mem_singleton.mp hq
        exact Nat.ne_of_lt b4
    have hls : h.IsList P.a P.vs.toArray := ⟨_, (N (P.a, lsO P.vs P.k0) (.tail _ (.head _))).1, rfl, P.k0, rfl⟩
    have hvl := intsLen hI
    by_cases hlt : i < 4
    · obtain ⟨v, tv, hv1, hv2⟩ := IntsAre.at' hI (k := i) (by k_extra "om")
      refine wpAny_pyNext_list_item ⟨oI, (N _ (.head _)).1, hIt.1, hIt.2⟩ hls (x := .int v tv) (by simpa using hv1) fun h' he' hs => ?_
      obtain ⟨o', ho', hc', hd'⟩ := he'
      obtain ⟨F1, N1⟩ := led_turn F N hne' hs ho'
      dsimp only
      refine stN F1 N1 (fun h2 F2 N2 => ?_)
      have hx : genL = genL := rfl
      conv at hx => rhs; whnf
      have hS : genS = genS := rfl
      conv at hS => rhs; whnf
      have hgo := goL_at (last := last) hv2
      have hmi : (fun y => if y = Str.ofString "interval" then some (Value.int v tv) else m y) (Str.ofString "interval") = some (.int v tv) := if_pos rfl
      have hml : (fun y => if y = Str.ofString "interval" then some (Value.int v tv) else m y) (Str.ofString "last_interval") = m (Str.ofString "last_interval") := if_neg (by decide +kernel)
      generalize (fun y => if y = Str.ofString "interval" then some (Value.int v tv) else m y) = m2 at F2 hmi hml
      have hS2 : P.same s₀.heap h2 := hS0.trans (led_same N N2)
      have hIt2 : IterAt o' P.a (i + 1) := ⟨hc', hd'⟩
      simp only [hx, hS, gEnv] at hov ⊢
      refine seg_execs_cons (seg_If ?_)
      rw [hov]
      refine wpAny_isTrue_Compare1 ?_
      refine PyProof.Rows.ld F2 hmi ?_
      k_steps
      · rename v = 127 => h127
        rw [if_pos h127] at hgo
        refine seg_execs_cons (seg_stmt (wpAny_Return_none ?_))
        refine seg_leaf (.ok (.ret .none)) (hK _ _ _ _ (.inr rfl) ⟨?_, rfl, h2, _, m2, rfl, F2, hS2⟩)
        rw [show 7 - (n + 1) = 6 - n from by k_extra "om", he, hgo]
      · rename ¬ v = 127 => h127
        rw [if_neg h127] at hgo
        refine seg_execs_nil (seg_execs_cons (seg_If ?_))
        rw [hov]
        refine wpAny_isTrue_Compare1 ?_
        refine PyProof.Rows.ld F2 hmi ?_
        k_steps
        · rename v = 0 => h0
          rw [if_pos h0] at hgo
          cases last with
          | none => exact absurd hgo hne
          | some l =>
            obtain ⟨tl, hl⟩ := hl
            rw [hl] at hml
            refine seg_execs_cons (seg_If ?_)
            rw [hov]
            refine wpAny_isTrue_Compare1 ?_
            refine PyProof.Rows.ld F2 hml ?_
            k_steps
            refine seg_execs_nil (seg_execs_cons (seg_While fun p => ?_))
            exact seg_Ws rfl rfl rfl rfl rfl rfl n hn (he.trans hgo) I o' h2 _ m2 s₀ ⟨tl, hml⟩ F2 (fun q hq => N2 q (by cases List.mem_singleton.mp hq; exact .head _)) hB hS2
        · rename ¬ v = 0 => h0
          rw [if_neg h0] at hgo
          refine seg_execs_nil (seg_execs_cons (seg_Expr_Yield rfl rfl rfl ?_))
          rw [hov]
          refine PyProof.Rows.ld F2 hmi ?_
          intro kap hk
          have hsq : sq P.r (7 - n) = .yF i v := by
            have := sq_next (he.trans hgo)
            rw [show 6 - n + 1 = 7 - n from by k_extra "om"] at this
            exact this
          refine ⟨v, tv, rfl, by rw [hsq, he, hgo], I, o', h2, _, m2, rfl, by rw [hsq]; exact ⟨⟨tv, hmi⟩, hIt2⟩, F2, fun q hq => N2 q (by cases List.mem_singleton.mp hq; exact .head _), hB, hS2, fun h1 s'' mm oG' oL' oM' F3 G3 N3 => hk .none s'' ?_⟩
          rw [hsq] at G3
          obtain ⟨⟨t3, hm3⟩, hIt3⟩ := G3
          have hS3 : ∀ h', News P.g P.Lg h' (P.led I o' oG' oL' oM') → P.same s''.heap h' := fun _ z => led_same N3 z
          refine seg_execs_cons (seg_stmt ?_)
          rw [hov]
          k_steps
          refine PyProof.Rows.ld F3 hm3 ?_
          k_steps
          (rename News _ _ _ _ => N4)
          (rename Fr _ _ _ _ => F4)
          refine seg_execs_nil (seg_again rfl ?_)
          exact ih h1 (i + 1) (some v) I o' oG' oL' oM' _ _ _ s'' (by rw [hsq]; rfl) goL_ne ⟨t3, if_pos rfl⟩ hIt2 (by k_extra "om") F4 N4 hB (hS3 _ N4)
    · have hi4 : i = 4 := by k_extra "om"
      subst hi4
      refine wpAny_pyNext_list_end rfl ⟨oI, (N _ (.head _)).1, hIt.1, hIt.2⟩ hls (by simp; omega) fun h' he' => ?_
      obtain ⟨F4, N4⟩ := led_ext F N hne' he'
      dsimp only
      refine seg_leaf (.ok .next) (hK _ _ _ _ (.inl rfl) ⟨?_, rfl, h', _, m, rfl, F4, hS0.trans fun q hq o e => ?_⟩)
      · rw [show 7 - (n + 1) = 6 - n from by k_extra "om", he]
        exact goL_end (List.getElem?_eq_none (by k_extra "om"))
      · refine he' _ _ (fun z => ?_) e
        subst z
        obtain ⟨b1, b2, b3, b4, b5⟩ := hB
        rcases List.mem_cons.mp hq with z | hq
        · rw [z] at b1; exact Nat.lt_irrefl _ b1
        rcases List.mem_cons.mp hq with z | hq
        · rw [z] at b2; exact Nat.lt_irrefl _ b2
        rcases List.mem_cons.mp hq with z | hq
        · rw [z] at b3; exact Nat.lt_irrefl _ b3
        · rw [List.mem_singleton.mp hq] at b4; exact Nat.lt_irrefl _ b4
end
-- C26
theorem lines47 : True := by
  k_with_none
  k_with "in" => first | with_reducible assumption | exact And.left (by with_reducible assumption) | exact And.left (And.right (by with_reducible assumption)) | exact And.left (And.right (And.right (by with_reducible assumption))) | exact And.left (And.right (And.right (And.right (by with_reducible assumption)))) | exact And.left (And.right (And.right (And.right (And.right (by with_reducible assumption))))) | exact And.left (And.right (And.right (And.right (And.right (And.right (by with_reducible assumption)))))) | exact And.left (And.right (And.right (And.right (And.right (And.right (And.right (by with_reducible assumption))))))) | exact And.left (And.right (And.right (And.right (And.right (And.right (And.right (And.right (by with_reducible assumption)))))))) | exact And.left (And.right (And.right (And.right (And.right (And.right (And.right (And.right (And.right (by with_reducible assumption))))))))) | exact And.left (And.right (And.right (And.right (And.right (And.right (And.right (And.right (And.right (And.right (by with_reducible assumption)))))))))) | exact And.left (And.right (And.right (And.right (And.right (And.right (And.right (And.right (And.right (And.right (And.right (by with_reducible assumption))))))))))) | exact And.left (And.right (And.right (And.right (And.right (And.right (And.right (And.right (And.right (And.right (And.right (And.right (by with_reducible assumption)))))))))))) | exact And.left (And.right (And.right (And.right (And.right (And.right (And.right (And.right (And.right (And.right (And.right (And.right (And.right (by with_reducible assumption))))))))))))) | exact And.left (And.right (And.right (And.right (And.right (And.right (And.right (And.right (And.right (And.right (And.right (And.right (And.right (And.right (by with_reducible assumption)))))))))))))) | exact And.left (And.right (And.right (And.right (And.right (And.right (And.right (And.right (And.right (And.right (And.right (And.right (And.right (And.right (And.right (by with_reducible assumption))))))))))))))) | exact And.right (by with_reducible assumption) | exact And.right (And.right (by with_reducible assumption)) | exact And.right (And.right (And.right (by with_reducible assumption))) | exact And.right (And.right (And.right (And.right (by with_reducible assumption)))) | exact And.right (And.right (And.right (And.right (And.right (by with_reducible assumption))))) | exact And.right (And.right (And.right (And.right (And.right (And.right (by with_reducible assumption)))))) | exact And.right (And.right (And.right (And.right (And.right (And.right (And.right (by with_reducible assumption))))))) | exact And.right (And.right (And.right (And.right (And.right (And.right (And.right (And.right (by with_reducible assumption)))))))) | exact And.right (And.right (And.right (And.right (And.right (And.right (And.right (And.right (And.right (by with_reducible assumption))))))))) | exact And.right (And.right (And.right (And.right (And.right (And.right (And.right (And.right (And.right (And.right (by with_reducible assumption)))))))))) | exact And.right (And.right (And.right (And.right (And.right (And.right (And.right (And.right (And.right (And.right (And.right (by with_reducible assumption))))))))))) | exact And.right (And.right (And.right (And.right (And.right (And.right (And.right (And.right (And.right (And.right (And.right (And.right (by with_reducible assumption)))))))))))) | exact And.right (And.right (And.right (And.right (And.right (And.right (And.right (And.right (And.right (And.right (And.right (And.right (And.right (by with_reducible assumption))))))))))))) | exact And.right (And.right (And.right (And.right (And.right (And.right (And.right (And.right (And.right (And.right (And.right (And.right (And.right (And.right (by with_reducible assumption))))))))))))))
  k_with "lt0" => first | with_reducible assumption | exact Nat.lt_trans (by with_reducible assumption) (by k_extra "lt0")
  k_with "lt" => first | k_extra "in" | exact Nat.lt_trans (by k_extra "in") (by k_extra "lt")
  k_with "ne0" => first | with_reducible assumption | exact Ne.symm (by with_reducible assumption) | exact Nat.succ_ne_self _ | exact Ne.symm (Nat.succ_ne_self _) | (refine Nat.ne_of_lt ?_; k_extra "lt0") | (refine Nat.ne_of_gt ?_; k_extra "lt0")
  k_with "ne1" => first | k_extra "in" | (refine Ne.symm ?_; k_extra "in") | (refine Nat.ne_of_lt ?_; k_extra "lt") | (refine Nat.ne_of_gt ?_; k_extra "lt")
  k_with "ne2" => first | (refine Nat.ne_of_lt ?_; k_extra "lt0") | (refine Nat.ne_of_gt ?_; k_extra "lt0") | (refine Nat.ne_of_lt (And.left (by with_reducible assumption)))  | (refine Nat.ne_of_gt (And.left (by with_reducible assumption))) | (refine Nat.ne_of_lt (Nat.lt_trans (And.right (by with_reducible assumption)) ?_); k_extra "lt0") | (refine Nat.ne_of_lt (And.right (by with_reducible assumption))) | (refine Nat.ne_of_gt (Nat.lt_trans ?_ (And.left (by with_reducible assumption))); k_extra "lt0")
  k_with "ne" => first | k_extra "ne0" | (refine Or.elim (by with_reducible assumption : @LT.lt Nat _ _ _ ∨ @LT.lt Nat _ _ _ ∧ @LT.lt Nat _ _ _) (fun q9 => ?_) (fun q9 => ?_); (all_goals k_extra "ne2")) | k_extra "ne1"
  k_with "ifs" => first | with_reducible rfl | exact Eq.trans (if_neg (by assumption)) (by k_extra "ifs")
  k_with "up" => first | exact up2 (by with_reducible assumption) rfl | exact up1 (by with_reducible assumption) rfl | exact up3 (by with_reducible assumption) rfl | exact up4 (by with_reducible assumption) rfl | exact up5 (by with_reducible assumption) rfl
  k_with "om" => first | with_reducible assumption | exact Nat.succ_pos _ | (with_reducible show @LT.lt Nat _ _ _; (try dsimp only); first | k_extra "lt0" | k_extra "up" | k_extra "lt") | (with_reducible show @Ne Nat _ _; k_extra "ne") | (with_reducible show @LT.lt Nat _ _ _ ∧ @LT.lt Nat _ _ _; refine And.intro ?_ ?_ <;> k_extra "om") | (with_reducible show @Eq Nat _ _; first | exact Nat.add_sub_add_right 6 1 _ | exact (Nat.add_sub_add_right 6 1 _).symm | exact Nat.succ_sub (by omega) | exact (Nat.succ_sub (by omega)).symm | exact Nat.sub_sub_self (by omega)) | omega
  k_with "k_room" => first | k_extra "up" | ((try simp only [depth_under_make, depth_under_kw, depth_in1, depth_deeper, depth_caller]); omega)
  k_with "tb_start" => first | assumption | omega | (simp only [List.length_cons, List.length_nil, List.length_append]; omega)
  k_with "tb_rel" => repeat' (first | exact List.forall_mem_nil _ | refine List.forall_mem_cons.mpr ⟨by first | exact Or.inr (by k_mem) | exact Or.inl (by simp), ?_⟩)
  k_with "k_units" => first | k_extra "up" | ((try simp only [units_in1, units_deeper, Around.mark_units, units_caller]); omega)
  k_with "call type:list" => (k_here; (with_reducible show wpAny _ _ (call (Value.type "list") [Value.str _ _]) _ _ _); k_dflt (refine' list_strN ?h ?F ?N ?z ?_; (case h => rfl); (case F => k_asm); (case N => k_asm); (case z => exact Nat.le_trans (by assumption) (Nat.le_of_ble_eq_true rfl)); k_whole); intro l₉ h₉ tk₉ vs₉ k₉ F₉ N₉ l1₉ hc₉; (try k_lt l1₉); (try k_sweep))
  k_with "truthy ref" => (k_here; k_dflt (refine' truthy_ls ?N ?m ?z ?_; (case N => k_asm); (case m => k_mem); (case z => tb_start)); (intro tk₉; (try dsimp only [List.isEmpty_cons, List.isEmpty_nil, Bool.not_false, Bool.not_true])))
  k_with "call builtin:list.pop" => (k_here; (with_reducible show wpAny _ _ (call (Value.builtin "list.pop") [Value.ref _, Value.int 0 _]) _ _ _); k_dflt (refine' pop0_N ?F ?N ?U ?z ?_; (case F => k_asm); (case N => k_asm); (case U => k_upd); (case z => tb_start)); (intro h₉ F₉ N₉; (try k_sweep)))
  exact True.intro
open Sem (wp)
section
variable {M : Model} {A : Around} {E : Value → Shared → Prop} {s : Shared}
/-- the first note of a made exception -/
theorem note_made {base h : Heap} {env : Env} {outer : List Env} {L e : Addr} {cls : Value} {args : List Value} {Q : Unit → Shared → Prop}
    (hfr : A.frames = some (env :: outer)) (hf : env.frame = some L) (hkb : base.StaysIn h) (hl : h.FunFrames base (env :: outer)) (hx : Heap.MadeExcOf h s.heap e cls args)
    (hQ : ∀ h' t, Heap.HeldW base (env :: outer) e cls (.ref t) L h' → h'.TupAt t args → base.get? t = none → s.heap.UpToSlots h' → Q () { s with heap := h' }) : wpAny M A (noteFrame (.ref e) env) Q E s := by
  obtain ⟨t, he, htn, ht⟩ := hx.there
  have fresh : ∀ b, h.get? b = none → base.get? b = none := fun b hb => by
    cases hq : base.get? b with
    | none => rfl
    | some o' => have := hkb b o' hq; rw [hb] at this; cases this
  unfold noteFrame
  simp only [hf]
  refine wpAny_bind (wpAny_field he rfl (show _ = some Value.none from rfl) ?_)
  rw [if_neg (by decide)]
  refine wpAny_entryW (a0 := .ref t) hfr (hl.of_keeps fun b o hb _ => ⟨o, hx.keeps b o hb, rfl⟩) hf he (fun b o hb => hx.keeps b o (hkb b o hb)) (fresh e hx.new) rfl (by simp) rfl fun h' hL => ?_
  obtain ⟨k1, k2, k3, k4⟩ := hL
  exact hQ h' t ⟨k1, fresh e hx.new, k2, k3⟩ (Heap.TupAt.of_slots ⟨_, _, ht, rfl, rfl⟩ k4) (fresh t htn) k4
/-- a loop's activation hands it on -/
theorem back_held {base : Heap} {env : Env} {l : List Env} {L e : Addr} {cls a0 : Value} {what : String} {Q : Unit → Shared → Prop} (hf : env.frame = some L) (hh : Heap.HeldW base l e cls a0 L s.heap)
    (hQ : ∀ h', Heap.HeldW base l e cls a0 L h' → s.heap.UpToSlots h' → Q () { s with heap := h' }) :
    wpAny M A (do
      if (← field (.ref e) 1) == Value.none then unsupported what
      setFlight (.ref e) env.frame) Q E s := by
  obtain ⟨f1, f2, f3, f4⟩ := hh
  obtain ⟨oe, vs, T, oT, ts, he, hcls, hd, h1, hnT, hTe, hT, hdT, h3⟩ := f4
  have hsz3 : 3 < ts.size := (Array.getElem?_eq_some_iff.mp h3).1
  refine wpAny_bind (wpAny_field he hd h1 ?_)
  rw [if_neg (show ¬ ((Value.ref T == Value.none) = true) from by simp)]
  rw [hf]
  have other : ∀ b, b ≠ T → (s.heap.update T (Obj.mapFields (·.setIfInBounds 3 ((some L : Option Addr).elim Value.none fun f => rawInt f)))).get? b = s.heap.get? b :=
    fun b hb => Heap.get?_update_other _ _ (Ne.symm hb)
  have noRecord : ∀ b o, s.heap.get? b = some o → (∀ vs, o.data ≠ .fields vs) → b ≠ T := fun b o hb hnf q => by
    rw [q, hT] at hb; injection hb with hb; subst hb; exact hnf ts hdT
  unfold setFlight
  refine wpAny_bind (wpAny_field he hd h1 ?_)
  rw [if_pos (show (Value.ref T != Value.none) = true from by simp)]
  refine wpAny_setField hT hdT hsz3 (hQ _ ⟨fun b o hbo => (other b fun q => by rw [q, hnT] at hbo; cases hbo).trans (f1 b o hbo), f2,
    f3.of_keeps fun b o hb hnf => ⟨o, (other b (noRecord b o hb hnf)).trans hb, rfl⟩, ?_⟩ fun b o hb hnf => ⟨o.slots, (other b (noRecord b o hb hnf)).trans hb⟩)
  exact ⟨oe, vs, T, _, _, (other e (Ne.symm hTe)).trans he, hcls, hd, h1, hnT, hTe, Heap.get?_update_self _ hT (Obj.isFreed_of_fields (Obj.data_mapFields hdT _)), Obj.data_mapFields hdT _, by simp [hsz3]⟩
end
section
variable {w : World} {P : GP} {p : Program} {loose : List Str} {mean : ExcName → Option Value} {mg mb : Str → Option Value} {dp un : Nat} {gd : Option (List Code)} {os0 : List Env} {kF : Result → Sem Fin} {fb : List Stmt} {l0 : List Value} {pF : Pos}
theorem seg_F (X : (hd.heap_39 w.params).In P.g) (T : Top p loose mean mg mb P.g) (hdp : dp + 12 < recursionLimit) (hu : un + 120 < cLine) (hI : IntsAre P.vs P.r) (hr : P.r.length = 4)
    (hK : ∀ n s₀ s f, f = Flow.next ∨ f = .ret .none → P.R n s₀ (.ok (.ret .none)) s → Seg (model PySem.Challenge.rw_wn0047_01.row.prog w) (AT dp un gd os0) P.R P.Y n s₀ (.func fb (gEnv P.Lg)) (kF (.ok f)) [] s) :
    ∀ n, n ≤ 6 → ∀ i last I oI oG oL oM h tk m s₀, emit P.r (sq P.r (6 - n)) = goL P.r i last → goL P.r i last ≠ .err → lastOk m last → IterAt oI P.a i → i ≤ 4 → Fr P.g P.Lg h m → News P.g P.Lg h (P.led I oI oG oL oM) → P.big I → P.same s₀.heap h →
      Seg (model PySem.Challenge.rw_wn0047_01.row.prog w) (AT dp un gd os0) P.R P.Y (n + 1) s₀ (.forLoop (.Name (Str.ofString "interval") genL.1) (.ref I) genL.2 [] (gEnv P.Lg)) ((model PySem.Challenge.rw_wn0047_01.row.prog w).den (.forLoop (.Name (Str.ofString "interval") genL.1) (.ref I) genL.2 [] (gEnv P.Lg))) (fsF kF l0 fb P.Lg pF) { s₀ with heap := h, toks := tk } := by
  intro n
  induction n with
  | zero => exact fun hn => seg_F1 X T hdp hu hI hr hK 0 hn fun h => absurd h (by k_extra "om")
  | succ n ih =>
    intro hn
    refine seg_F1 X T hdp hu hI hr hK (n + 1) hn fun _ => ?_
    rw [show 7 - (n + 1) = 6 - n from by k_extra "om"]
    exact ih (by k_extra "om")
noncomputable def genBody : List Stmt :=
  match (PySem.Challenge.pw_wn0047_01.main.body)[11]? with
  | some (PySem.Stmt.FunctionDef _ _ body _ _ _ _ _ _ _) => body
  | _ => default
theorem over_0 : ∃ d u, (AT dp un gd os0).over (.func fb (gEnv P.Lg)) [] = AT d u gd (gEnv P.Lg :: os0) ∧ d ≤ dp + 4 ∧ u ≤ un + 20 := ⟨dp + frameCount [] + 1, un + unitsOf [] + (Code.func fb (gEnv P.Lg)).cUnits, rfl, by show dp + 0 + 1 ≤ _; omega, by show un + 0 + _ ≤ _; have : (Code.func fb (gEnv P.Lg)).cUnits ≤ 20 := Nat.le_of_ble_eq_true rfl; omega⟩
theorem seg_start (X : (hd.heap_39 w.params).In P.g) (T : Top p loose mean mg mb P.g) (hdp : dp + 12 < recursionLimit) (hu : un + 120 < cLine) (hI : IntsAre P.vs P.r) (hr : P.r.length = 4) (hne : goL P.r 0 none ≠ .err) {oG oL oM : Obj} {h : Heap} {tk : Nat} {s₀ : Shared} {m : Names}
    (F : Fr P.g P.Lg h m) (hm : m (Str.ofString "grouping") = some (.ref P.a)) (N : News P.g P.Lg h [(P.a, lsO P.vs P.k0), (P.G, oG), (P.L, oL), (P.lv, oM)]) (hS0 : P.same s₀.heap h) :
    Seg (model PySem.Challenge.rw_wn0047_01.row.prog w) (AT dp un gd os0) P.R P.Y 7 s₀ (.func genBody (gEnv P.Lg)) ((model PySem.Challenge.rw_wn0047_01.row.prog w).den (.func genBody (gEnv P.Lg))) [] { s₀ with heap := h, toks := tk } := by
  have X0 := X
  have hSt : ∀ h', News P.g P.Lg h' [(P.a, lsO P.vs P.k0), (P.G, oG), (P.L, oL), (P.lv, oM)] → P.same s₀.heap h' := fun h' N' => hS0.trans fun q hq o e => by
    have t : ∀ x, (q, x) ∈ ([(P.a, lsO P.vs P.k0), (P.G, oG), (P.L, oL), (P.lv, oM)] : Led) → h'.get? q = some o := fun x h1 => by
      have := (N _ h1).1
      rw [e] at this
      cases this
      exact (N' _ h1).1
    rcases List.mem_cons.mp hq with rfl | hq
    · exact t _ (.head _)
    rcases List.mem_cons.mp hq with rfl | hq
    · exact t _ (.tail _ (.head _))
    rcases List.mem_cons.mp hq with rfl | hq
    · exact t _ (.tail _ (.tail _ (.head _)))
    · cases List.mem_singleton.mp hq
      exact t _ (.tail _ (.tail _ (.tail _ (.head _))))
  revert X; k_fill; intro X
  obtain ⟨d, u, hov, hd1, hu1⟩ := over_0 (P := P) (dp := dp) (un := un) (gd := gd) (os0 := os0) (fb := genBody)
  refine seg_func ?_
  have hx : genBody = genBody := rfl
  conv at hx => rhs; whnf
  have hSS : genS = genS := rfl
  conv at hSS => rhs; whnf
  have hm2 : (fun y => if y = Str.ofString "last_interval" then some Value.none else m y) (Str.ofString "grouping") = some (.ref P.a) := (if_neg (by decide +kernel)).trans hm
  simp only [hx, hSS, gEnv] at hov ⊢
  refine seg_execs_cons (seg_stmt ?_)
  rw [hov]
  k_steps
  (rename News _ _ _ _ => N4)
  (rename Fr _ _ _ _ => F4)
  refine seg_execs_cons (seg_For ?_)
  rw [hov]
  refine PyProof.Rows.ld F4 hm2 ?_
  refine wpAny_pyIter_list ⟨_, (N4 _ (.head _)).1, rfl, P.k0, rfl⟩ ?_
  intro pp
  have hB : P.big _ := ⟨Heap.lt_size (N4 _ (.head _)).1, Heap.lt_size (N4 _ (.tail _ (.head _))).1, Heap.lt_size (N4 _ (.tail _ (.tail _ (.head _)))).1, Heap.lt_size (N4 _ (.tail _ (.tail _ (.tail _ (.head _))))).1, F4.ns.lt⟩
  have F5 := F4.push { cls := .type "list_iterator", data := .fields #[.ref P.a, .int 0 0] }
  have N5 := N4.push F4 { cls := .type "list_iterator", data := .fields #[.ref P.a, .int 0 0] }
  have hS5 := hSt _ (fun q hq => N5 q (.tail _ hq))
  exact seg_F X0 T hdp hu hI hr (fun n s₀ s f hf hR => by
    rcases hf with rfl | rfl
    · exact seg_end (.ok (.ret .none)) hR
    · exact seg_end (.ok (.ret .none)) hR) 6 (by k_extra "om") 0 none _ _ oG oL oM _ _ _ s₀ rfl hne (show lastOk (fun y => if y = Str.ofString "last_interval" then some Value.none else m y) none from if_pos rfl) ⟨rfl, rfl⟩ (by k_extra "om") F5 N5 hB hS5
end
-- C27
theorem lines48 : True := by
  k_with_none
  k_with "in" => first | with_reducible assumption | exact And.left (by with_reducible assumption) | exact And.left (And.right (by with_reducible assumption)) | exact And.left (And.right (And.right (by with_reducible assumption))) | exact And.left (And.right (And.right (And.right (by with_reducible assumption)))) | exact And.left (And.right (And.right (And.right (And.right (by with_reducible assumption))))) | exact And.left (And.right (And.right (And.right (And.right (And.right (by with_reducible assumption)))))) | exact And.left (And.right (And.right (And.right (And.right (And.right (And.right (by with_reducible assumption))))))) | exact And.left (And.right (And.right (And.right (And.right (And.right (And.right (And.right (by with_reducible assumption)))))))) | exact And.left (And.right (And.right (And.right (And.right (And.right (And.right (And.right (And.right (by with_reducible assumption))))))))) | exact And.left (And.right (And.right (And.right (And.right (And.right (And.right (And.right (And.right (And.right (by with_reducible assumption)))))))))) | exact And.left (And.right (And.right (And.right (And.right (And.right (And.right (And.right (And.right (And.right (And.right (by with_reducible assumption))))))))))) | exact And.left (And.right (And.right (And.right (And.right (And.right (And.right (And.right (And.right (And.right (And.right (And.right (by with_reducible assumption)))))))))))) | exact And.left (And.right (And.right (And.right (And.right (And.right (And.right (And.right (And.right (And.right (And.right (And.right (And.right (by with_reducible assumption))))))))))))) | exact And.left (And.right (And.right (And.right (And.right (And.right (And.right (And.right (And.right (And.right (And.right (And.right (And.right (And.right (by with_reducible assumption)))))))))))))) | exact And.left (And.right (And.right (And.right (And.right (And.right (And.right (And.right (And.right (And.right (And.right (And.right (And.right (And.right (And.right (by with_reducible assumption))))))))))))))) | exact And.right (by with_reducible assumption) | exact And.right (And.right (by with_reducible assumption)) | exact And.right (And.right (And.right (by with_reducible assumption))) | exact And.right (And.right (And.right (And.right (by with_reducible assumption)))) | exact And.right (And.right (And.right (And.right (And.right (by with_reducible assumption))))) | exact And.right (And.right (And.right (And.right (And.right (And.right (by with_reducible assumption)))))) | exact And.right (And.right (And.right (And.right (And.right (And.right (And.right (by with_reducible assumption))))))) | exact And.right (And.right (And.right (And.right (And.right (And.right (And.right (And.right (by with_reducible assumption)))))))) | exact And.right (And.right (And.right (And.right (And.right (And.right (And.right (And.right (And.right (by with_reducible assumption))))))))) | exact And.right (And.right (And.right (And.right (And.right (And.right (And.right (And.right (And.right (And.right (by with_reducible assumption)))))))))) | exact And.right (And.right (And.right (And.right (And.right (And.right (And.right (And.right (And.right (And.right (And.right (by with_reducible assumption))))))))))) | exact And.right (And.right (And.right (And.right (And.right (And.right (And.right (And.right (And.right (And.right (And.right (And.right (by with_reducible assumption)))))))))))) | exact And.right (And.right (And.right (And.right (And.right (And.right (And.right (And.right (And.right (And.right (And.right (And.right (And.right (by with_reducible assumption))))))))))))) | exact And.right (And.right (And.right (And.right (And.right (And.right (And.right (And.right (And.right (And.right (And.right (And.right (And.right (And.right (by with_reducible assumption))))))))))))))
  k_with "lt0" => first | with_reducible assumption | exact Nat.lt_trans (by with_reducible assumption) (by k_extra "lt0")
  k_with "lt" => first | k_extra "in" | exact Nat.lt_trans (by k_extra "in") (by k_extra "lt")
  k_with "ne0" => first | with_reducible assumption | exact Ne.symm (by with_reducible assumption) | exact Nat.succ_ne_self _ | exact Ne.symm (Nat.succ_ne_self _) | (refine Nat.ne_of_lt ?_; k_extra "lt0") | (refine Nat.ne_of_gt ?_; k_extra "lt0")
  k_with "ne1" => first | k_extra "in" | (refine Ne.symm ?_; k_extra "in") | (refine Nat.ne_of_lt ?_; k_extra "lt") | (refine Nat.ne_of_gt ?_; k_extra "lt")
  k_with "ne2" => first | (refine Nat.ne_of_lt ?_; k_extra "lt0") | (refine Nat.ne_of_gt ?_; k_extra "lt0") | (refine Nat.ne_of_lt (And.left (by with_reducible assumption)))  | (refine Nat.ne_of_gt (And.left (by with_reducible assumption))) | (refine Nat.ne_of_lt (Nat.lt_trans (And.right (by with_reducible assumption)) ?_); k_extra "lt0") | (refine Nat.ne_of_lt (And.right (by with_reducible assumption))) | (refine Nat.ne_of_gt (Nat.lt_trans ?_ (And.left (by with_reducible assumption))); k_extra "lt0")
  k_with "ne" => first | k_extra "ne0" | (refine Or.elim (by with_reducible assumption : @LT.lt Nat _ _ _ ∨ @LT.lt Nat _ _ _ ∧ @LT.lt Nat _ _ _) (fun q9 => ?_) (fun q9 => ?_); (all_goals k_extra "ne2")) | k_extra "ne1"
  k_with "ifs" => first | with_reducible rfl | exact Eq.trans (if_neg (by assumption)) (by k_extra "ifs")
  k_with "up" => first | exact up2 (by with_reducible assumption) rfl | exact up1 (by with_reducible assumption) rfl | exact up3 (by with_reducible assumption) rfl | exact up4 (by with_reducible assumption) rfl | exact up5 (by with_reducible assumption) rfl
  k_with "om" => first | with_reducible assumption | exact Nat.succ_pos _ | (with_reducible show @LT.lt Nat _ _ _; (try dsimp only); first | k_extra "lt0" | k_extra "up" | k_extra "lt") | (with_reducible show @Ne Nat _ _; k_extra "ne") | (with_reducible show @LT.lt Nat _ _ _ ∧ @LT.lt Nat _ _ _; refine And.intro ?_ ?_ <;> k_extra "om") | (with_reducible show @Eq Nat _ _; first | exact Nat.add_sub_add_right 6 1 _ | exact (Nat.add_sub_add_right 6 1 _).symm | exact Nat.succ_sub (by omega) | exact (Nat.succ_sub (by omega)).symm | exact Nat.sub_sub_self (by omega)) | omega
  k_with "k_room" => first | k_extra "up" | ((try simp only [depth_under_make, depth_under_kw, depth_in1, depth_deeper, depth_caller]); omega)
  k_with "tb_start" => first | assumption | omega | (simp only [List.length_cons, List.length_nil, List.length_append]; omega)
  k_with "tb_rel" => repeat' (first | exact List.forall_mem_nil _ | refine List.forall_mem_cons.mpr ⟨by first | exact Or.inr (by k_mem) | exact Or.inl (by simp), ?_⟩)
  k_with "k_units" => first | k_extra "up" | ((try simp only [units_in1, units_deeper, Around.mark_units, units_caller]); omega)
  k_with "call type:list" => (k_here; (with_reducible show wpAny _ _ (call (Value.type "list") [Value.str _ _]) _ _ _); k_dflt (refine' list_strN ?h ?F ?N ?z ?_; (case h => rfl); (case F => k_asm); (case N => k_asm); (case z => exact Nat.le_trans (by assumption) (Nat.le_of_ble_eq_true rfl)); k_whole); intro l₉ h₉ tk₉ vs₉ k₉ F₉ N₉ l1₉ hc₉; (try k_lt l1₉); (try k_sweep))
  k_with "truthy ref" => (k_here; k_dflt (refine' truthy_ls ?N ?m ?z ?_; (case N => k_asm); (case m => k_mem); (case z => tb_start)); (intro tk₉; (try dsimp only [List.isEmpty_cons, List.isEmpty_nil, Bool.not_false, Bool.not_true])))
  k_with "call builtin:list.pop" => (k_here; (with_reducible show wpAny _ _ (call (Value.builtin "list.pop") [Value.ref _, Value.int 0 _]) _ _ _); k_dflt (refine' pop0_N ?F ?N ?U ?z ?_; (case F => k_asm); (case N => k_asm); (case U => k_upd); (case z => tb_start)); (intro h₉ F₉ N₉; (try k_sweep)))
  exact True.intro
open Sem (wp)
/-- an exception on its way, noted in a frame that has not left yet -/
noncomputable def HeldS (base G : Heap) (env : Env) (outer : List Env) (e : Addr) (cls : Value) (t : Addr) (vs : List Value) (news : Led) (L : Addr) (h : Heap) : Prop :=
  (∃ B, base.StaysIn B ∧ (∀ b o, G.get? b = some o → b ∉ outer.filterMap (·.frame) → B.get? b = some o) ∧ (∀ q ∈ news, B.get? q.1 = some q.2 ∧ G.get? q.1 = none ∧ base.get? q.1 = none) ∧ Heap.HeldW B (env :: outer) e cls (.ref t) L h ∧ B.get? t = none) ∧ h.TupAt t vs ∧ G.UpToSlots h
section
variable {M : Model} {A A₀ : Around} {E : Value → Shared → Prop} {s' : Shared} {base g h : Heap} {outer : List Env} {L a e t : Addr} {m : Str → Option Value} {name : Str} {scope : Scope} {cd : Value} {Q : Unit → Shared → Prop} {news : List (Addr × Obj)}
theorem note_heldS {cls : Value} {vs : List Value} (hA : A.frames = some (envOf name scope L a cd :: outer)) (K : Below A₀ base outer g) (hx : Heap.MadeExcOf h s'.heap e cls vs) (F : Fr g L h m) (N : News g L h news)
    (hQ : ∀ h' t, HeldS base g (envOf name scope L a cd) outer e cls t vs news L h' → Q () { s' with heap := h' }) (hk : scope.kind = .function := by rfl) :
    wpAny M A (noteFrame (.ref e) (envOf name scope L a cd)) Q E s' := by
  have K' := K.push (name := name) (a := a) (cd := cd) F hk
  have hin : ∀ env ∈ (envOf name scope L a cd :: outer), ∀ b, env.frame = some b → b ∈ (envOf name scope L a cd :: outer).filterMap (·.frame) := fun env he b hb => List.mem_filterMap.mpr ⟨env, he, hb⟩
  have st : base.StaysIn (hideAll h ((envOf name scope L a cd :: outer).filterMap (·.frame))) := fun b o q => hideAll_get _ (K'.stays b o q) fun hm => by
    rw [(K'.frames.mem hm).1] at q; cases q
  have sg : ∀ b o, g.get? b = some o → b ∉ outer.filterMap (·.frame) → (hideAll h ((envOf name scope L a cd :: outer).filterMap (·.frame))).get? b = some o := fun b o q nm => hideAll_get _ (F.keep b o q) fun hm => by
    rcases kts_mem hm with z | z
    · rw [z, kts_self F] at q
      cases q
    · exact nm z
  have hl : ∀ q ∈ news, (hideAll h ((envOf name scope L a cd :: outer).filterMap (·.frame))).get? q.1 = some q.2 ∧ g.get? q.1 = none ∧ base.get? q.1 = none := fun q hq => by
    refine ⟨hideAll_get _ (N q hq).1 fun hm => ?_, (N q hq).2.2, fresh_of_stays K.stays (N q hq).2.2⟩
    obtain ⟨env, he, hf⟩ := List.mem_filterMap.mp hm
    rcases List.mem_cons.mp he with rfl | he
    · exact (N q hq).2.1 (Option.some.inj hf).symm
    · obtain ⟨o, ho, _⟩ := (K.frames.mem (List.mem_filterMap.mpr ⟨env, he, hf⟩)).2
      rw [(N q hq).2.2] at ho; cases ho
  exact note_made hA rfl (fun b o q => of_hideAll _ q) (funFrames_hide K'.frames hin) hx fun h' t x1 x2 x3 x4 =>
    hQ h' t ⟨⟨_, st, sg, hl, x1, x3⟩, x2, ((Heap.UpToSlots.of_keeps F.keep).trans (Heap.UpToSlots.of_keeps hx.keeps)).trans x4⟩
theorem back_heldS {cls : Value} {vs : List Value} {env : Env} {what : String} (hf : env.frame = some L) (H : HeldS base g env outer e cls t vs news L s'.heap) (hQ : ∀ h', HeldS base g env outer e cls t vs news L h' → Q () { s' with heap := h' }) :
    wpAny M A (do
      if (← field (.ref e) 1) == Value.none then unsupported what
      setFlight (.ref e) env.frame) Q E s' := by
  obtain ⟨⟨B, b1, b2, b3, b4, b5⟩, b6, b7⟩ := H
  exact back_held hf b4 fun h' x1 x2 => hQ h' ⟨⟨B, b1, b2, b3, x1, b5⟩, b6.of_slots x2, b7.trans x2⟩
theorem leave_heldS {cls : Value} {vs : List Value} {env : Env} (hf : env.frame = some L) (H : HeldS base g env outer e cls t vs news L s'.heap) (hQ : ∀ h', RaisedS base g outer e cls t vs news h' → g.UpToSlots h' → Q () { s' with heap := h' }) :
    wpAny M A (leaving env (.ref e)) Q E s' := by
  obtain ⟨⟨B, b1, b2, b3, b4, b5⟩, b6, b7⟩ := H
  unfold leaving
  refine wpAny_bind (wpAny_noteFrame_againW hf b4.2.2.2 ?_)
  refine wpAny_landsW b4 fun h' hfl hs => ?_
  obtain ⟨k1, k2, ⟨_, _, k3⟩, k4⟩ := hfl
  exact hQ h' ⟨⟨B, b1, b2, b3, ⟨k1, k2, k3, k4⟩, b5⟩, b6.of_slots hs⟩ (b7.trans hs)
end
section
variable {w : World} {P : GP} {p : Program} {loose : List Str} {mean : ExcName → Option Value} {mg mb : Str → Option Value} {dp un : Nat} {gd : Option (List Code)} {os0 : List Env} {R : GenEnd} {Y : Protocol} {A₀ : Around} {base : Heap} {kF : Result → Sem Fin} {fb : List Stmt} {l0 : List Value} {pF : Pos}
theorem seg_Ferr (B : Below A₀ base os0 P.g) (X : (hd.heap_39 w.params).In P.g) (T : Top p loose mean mg mb P.g) (hdp : dp + 12 < recursionLimit) (hu : un + 120 < cLine) (hI : IntsAre P.vs P.r) (hr : P.r.length = 4) (hr0 : P.r[0]? = some 0) {oG oM oI : Obj} {I : Addr} {h : Heap} {tk n : Nat} {s₀ : Shared} {m : Names}
    (hK : ∀ e t vs' h' tk', HeldS base P.g (gEnv P.Lg) os0 e (.type "ValueError") t vs' [(P.a, lsO P.vs P.k0), (P.G, oG), (P.lv, oM)] P.Lg h' → Seg (model PySem.Challenge.rw_wn0047_01.row.prog w) (AT dp un gd os0) R Y n s₀ (.func fb (gEnv P.Lg)) (kF (.error (.ref e))) [] { s₀ with heap := h', toks := tk' })
    (hl : m (Str.ofString "last_interval") = some .none) (hIt : IterAt oI P.a 0) (F : Fr P.g P.Lg h m) (N : News P.g P.Lg h [(I, oI), (P.a, lsO P.vs P.k0), (P.G, oG), (P.lv, oM)]) (hB : ∀ q ∈ ([(P.a, lsO P.vs P.k0), (P.G, oG), (P.lv, oM)] : Led), q.1 ≠ I) :
    Seg (model PySem.Challenge.rw_wn0047_01.row.prog w) (AT dp un gd os0) R Y n s₀ (.forLoop (.Name (Str.ofString "interval") genL.1) (.ref I) genL.2 [] (gEnv P.Lg)) ((model PySem.Challenge.rw_wn0047_01.row.prog w).den (.forLoop (.Name (Str.ofString "interval") genL.1) (.ref I) genL.2 [] (gEnv P.Lg))) (fsF kF l0 fb P.Lg pF) { s₀ with heap := h, toks := tk } := by
  revert X; k_fill; intro X
  obtain ⟨d, u, hov, hd1, hu1⟩ := over_F (dp := dp) (un := un) (gd := gd) (os0 := os0) (kF := kF) (l0 := l0) (fb := fb) (P := P) (pF := pF) (c := (.forLoop (.Name (Str.ofString "interval") genL.1) (.ref I) genL.2 [] (gEnv P.Lg))) rfl rfl rfl
  refine seg_forLoop ?_ rfl
  rw [hov]
  obtain ⟨v, tv, hv1, hv2⟩ := IntsAre.at' hI (k := 0) (by have := intsLen hI; omega)
  rw [hr0] at hv2
  cases hv2
  refine wpAny_pyNext_list_item ⟨oI, (N _ (.head _)).1, hIt.1, hIt.2⟩ ⟨_, (N (P.a, lsO P.vs P.k0) (.tail _ (.head _))).1, rfl, P.k0, rfl⟩ (x := .int 0 tv) (by simpa using hv1) fun h' he' hs => ?_
  obtain ⟨o', ho', hc', hd'⟩ := he'
  obtain ⟨F1, N1⟩ := led_turn F N hB hs ho'
  dsimp only
  refine stN F1 N1 (fun h2 F2 N2 => ?_)
  have hx : genL = genL := rfl
  conv at hx => rhs; whnf
  have hS : genS = genS := rfl
  conv at hS => rhs; whnf
  have hmi : (fun y => if y = Str.ofString "interval" then some (Value.int 0 tv) else m y) (Str.ofString "interval") = some (.int 0 tv) := if_pos rfl
  have hml : (fun y => if y = Str.ofString "interval" then some (Value.int 0 tv) else m y) (Str.ofString "last_interval") = some .none := (if_neg (by decide +kernel)).trans hl
  generalize (fun y => if y = Str.ofString "interval" then some (Value.int 0 tv) else m y) = m2 at F2 hmi hml
  simp only [hx, hS, gEnv] at hov hK ⊢
  refine seg_execs_cons (seg_If ?_)
  rw [hov]
  refine wpAny_isTrue_Compare1 ?_
  refine PyProof.Rows.ld F2 hmi ?_
  k_steps
  refine seg_execs_nil (seg_execs_cons (seg_If ?_))
  rw [hov]
  refine wpAny_isTrue_Compare1 ?_
  refine PyProof.Rows.ld F2 hmi ?_
  k_steps
  refine seg_execs_cons (seg_If ?_)
  rw [hov]
  refine wpAny_isTrue_Compare1 ?_
  refine PyProof.Rows.ld F2 hml ?_
  k_steps
  refine seg_execs_cons (seg_stmt ?_)
  rw [hov]
  refine Raise_madeB PySem.F.excCall_ValueError PySem.F.excRaise_ValueError rfl ?_
  refine name_B F2 (by k_asm) (by k_asm) (by k_is) (by boot_by_name) (by decide) ⟨rfl, ?_⟩
  k_steps
  rename Heap.MadeExc _ _ _ _ _ => hx9
  refine seg_wrap ?_
  rw [hov]
  refine wpAny_bind (note_heldS rfl B hx9.of F2 (fun q hq => N2 q (.tail _ hq)) fun h3 t H => wpAny_theTreesLotGoes ?_)
  exact seg_leaf (.error (.ref _)) (hK _ _ _ _ _ H)
theorem seg_err (B : Below A₀ base os0 P.g) (X : (hd.heap_39 w.params).In P.g) (T : Top p loose mean mg mb P.g) (hdp : dp + 12 < recursionLimit) (hu : un + 120 < cLine) (hI : IntsAre P.vs P.r) (hr : P.r.length = 4) (hr0 : P.r[0]? = some 0) {oG oM : Obj} {h : Heap} {tk n : Nat} {s₀ : Shared} {m : Names}
    (F : Fr P.g P.Lg h m) (hm : m (Str.ofString "grouping") = some (.ref P.a)) (N : News P.g P.Lg h [(P.a, lsO P.vs P.k0), (P.G, oG), (P.lv, oM)])
    (hR : ∀ e t vs' h' tk', RaisedS base P.g os0 e (.type "ValueError") t vs' [(P.a, lsO P.vs P.k0), (P.G, oG), (P.lv, oM)] h' → P.g.UpToSlots h' → R n s₀ (.error (.ref e)) { s₀ with heap := h', toks := tk' }) :
    Seg (model PySem.Challenge.rw_wn0047_01.row.prog w) (AT dp un gd os0) R Y n s₀ (.func genBody (gEnv P.Lg)) ((model PySem.Challenge.rw_wn0047_01.row.prog w).den (.func genBody (gEnv P.Lg))) [] { s₀ with heap := h, toks := tk } := by
  have X0 := X
  revert X; k_fill; intro X
  obtain ⟨d, u, hov, hd1, hu1⟩ := over_0 (P := P) (dp := dp) (un := un) (gd := gd) (os0 := os0) (fb := genBody)
  refine seg_func ?_
  have hx : genBody = genBody := rfl
  conv at hx => rhs; whnf
  have hSS : genS = genS := rfl
  conv at hSS => rhs; whnf
  have hm2 : (fun y => if y = Str.ofString "last_interval" then some Value.none else m y) (Str.ofString "grouping") = some (.ref P.a) := (if_neg (by decide +kernel)).trans hm
  simp only [hx, hSS, gEnv] at hov ⊢
  refine seg_execs_cons (seg_stmt ?_)
  rw [hov]
  k_steps
  (rename News _ _ _ _ => N4)
  (rename Fr _ _ _ _ => F4)
  refine seg_execs_cons (seg_For ?_)
  rw [hov]
  refine PyProof.Rows.ld F4 hm2 ?_
  refine wpAny_pyIter_list ⟨_, (N4 _ (.head _)).1, rfl, P.k0, rfl⟩ ?_
  intro pp
  have hB := ne_size N4
  have F5 := F4.push { cls := .type "list_iterator", data := .fields #[.ref P.a, .int 0 0] }
  have N5 := N4.push F4 { cls := .type "list_iterator", data := .fields #[.ref P.a, .int 0 0] }
  refine seg_Ferr B X0 T hdp hu hI hr hr0 (fun e t vs' h' tk' H => ?_) (if_pos rfl) ⟨rfl, rfl⟩ F5 N5 hB
  show Seg _ _ _ _ _ _ _ (loopK _ _ _ _ _ (.error (.ref e))) _ _
  unfold loopK
  rw [Sem.onRaise_eq_wrap, Sem.wrap_wrap]
  show Seg _ _ _ _ _ _ _ (Sem.wrap _ _ _ _ (Sem.bind _ _)) _ _
  rw [Sem.bind_eq_wrap, Sem.wrap_wrap]
  refine seg_wrap ?_
  refine back_heldS rfl H fun h4 H4 => ?_
  refine seg_wrap (m := leaving _ (.ref e)) ?_
  refine leave_heldS rfl H4 fun h5 x1 x2 => ?_
  exact seg_end (.error (.ref e)) (hR _ _ _ _ _ x1 x2)
end
-- C28
theorem lines49 : True := by
  k_with_none
  k_with "in" => first | with_reducible assumption | exact And.left (by with_reducible assumption) | exact And.left (And.right (by with_reducible assumption)) | exact And.left (And.right (And.right (by with_reducible assumption))) | exact And.left (And.right (And.right (And.right (by with_reducible assumption)))) | exact And.left (And.right (And.right (And.right (And.right (by with_reducible assumption))))) | exact And.left (And.right (And.right (And.right (And.right (And.right (by with_reducible assumption)))))) | exact And.left (And.right (And.right (And.right (And.right (And.right (And.right (by with_reducible assumption))))))) | exact And.left (And.right (And.right (And.right (And.right (And.right (And.right (And.right (by with_reducible assumption)))))))) | exact And.left (And.right (And.right (And.right (And.right (And.right (And.right (And.right (And.right (by with_reducible assumption))))))))) | exact And.left (And.right (And.right (And.right (And.right (And.right (And.right (And.right (And.right (And.right (by with_reducible assumption)))))))))) | exact And.left (And.right (And.right (And.right (And.right (And.right (And.right (And.right (And.right (And.right (And.right (by with_reducible assumption))))))))))) | exact And.left (And.right (And.right (And.right (And.right (And.right (And.right (And.right (And.right (And.right (And.right (And.right (by with_reducible assumption)))))))))))) | exact And.left (And.right (And.right (And.right (And.right (And.right (And.right (And.right (And.right (And.right (And.right (And.right (And.right (by with_reducible assumption))))))))))))) | exact And.left (And.right (And.right (And.right (And.right (And.right (And.right (And.right (And.right (And.right (And.right (And.right (And.right (And.right (by with_reducible assumption)))))))))))))) | exact And.left (And.right (And.right (And.right (And.right (And.right (And.right (And.right (And.right (And.right (And.right (And.right (And.right (And.right (And.right (by with_reducible assumption))))))))))))))) | exact And.right (by with_reducible assumption) | exact And.right (And.right (by with_reducible assumption)) | exact And.right (And.right (And.right (by with_reducible assumption))) | exact And.right (And.right (And.right (And.right (by with_reducible assumption)))) | exact And.right (And.right (And.right (And.right (And.right (by with_reducible assumption))))) | exact And.right (And.right (And.right (And.right (And.right (And.right (by with_reducible assumption)))))) | exact And.right (And.right (And.right (And.right (And.right (And.right (And.right (by with_reducible assumption))))))) | exact And.right (And.right (And.right (And.right (And.right (And.right (And.right (And.right (by with_reducible assumption)))))))) | exact And.right (And.right (And.right (And.right (And.right (And.right (And.right (And.right (And.right (by with_reducible assumption))))))))) | exact And.right (And.right (And.right (And.right (And.right (And.right (And.right (And.right (And.right (And.right (by with_reducible assumption)))))))))) | exact And.right (And.right (And.right (And.right (And.right (And.right (And.right (And.right (And.right (And.right (And.right (by with_reducible assumption))))))))))) | exact And.right (And.right (And.right (And.right (And.right (And.right (And.right (And.right (And.right (And.right (And.right (And.right (by with_reducible assumption)))))))))))) | exact And.right (And.right (And.right (And.right (And.right (And.right (And.right (And.right (And.right (And.right (And.right (And.right (And.right (by with_reducible assumption))))))))))))) | exact And.right (And.right (And.right (And.right (And.right (And.right (And.right (And.right (And.right (And.right (And.right (And.right (And.right (And.right (by with_reducible assumption))))))))))))))
  k_with "lt0" => first | with_reducible assumption | exact Nat.lt_trans (by with_reducible assumption) (by k_extra "lt0")
  k_with "lt" => first | k_extra "in" | exact Nat.lt_trans (by k_extra "in") (by k_extra "lt")
  k_with "ne0" => first | with_reducible assumption | exact Ne.symm (by with_reducible assumption) | exact Nat.succ_ne_self _ | exact Ne.symm (Nat.succ_ne_self _) | (refine Nat.ne_of_lt ?_; k_extra "lt0") | (refine Nat.ne_of_gt ?_; k_extra "lt0")
  k_with "ne1" => first | k_extra "in" | (refine Ne.symm ?_; k_extra "in") | (refine Nat.ne_of_lt ?_; k_extra "lt") | (refine Nat.ne_of_gt ?_; k_extra "lt")
  k_with "ne2" => first | (refine Nat.ne_of_lt ?_; k_extra "lt0") | (refine Nat.ne_of_gt ?_; k_extra "lt0") | (refine Nat.ne_of_lt (And.left (by with_reducible assumption)))  | (refine Nat.ne_of_gt (And.left (by with_reducible assumption))) | (refine Nat.ne_of_lt (Nat.lt_trans (And.right (by with_reducible assumption)) ?_); k_extra "lt0") | (refine Nat.ne_of_lt (And.right (by with_reducible assumption))) | (refine Nat.ne_of_gt (Nat.lt_trans ?_ (And.left (by with_reducible assumption))); k_extra "lt0")
  k_with "ne" => first | k_extra "ne0" | (refine Or.elim (by with_reducible assumption : @LT.lt Nat _ _ _ ∨ @LT.lt Nat _ _ _ ∧ @LT.lt Nat _ _ _) (fun q9 => ?_) (fun q9 => ?_); (all_goals k_extra "ne2")) | k_extra "ne1"
  k_with "ifs" => first | with_reducible rfl | exact Eq.trans (if_neg (by assumption)) (by k_extra "ifs")
  k_with "up" => first | exact up2 (by with_reducible assumption) rfl | exact up1 (by with_reducible assumption) rfl | exact up3 (by with_reducible assumption) rfl | exact up4 (by with_reducible assumption) rfl | exact up5 (by with_reducible assumption) rfl
  k_with "om" => first | with_reducible assumption | exact Nat.succ_pos _ | (with_reducible show @LT.lt Nat _ _ _; (try dsimp only); first | k_extra "lt0" | k_extra "up" | k_extra "lt") | (with_reducible show @Ne Nat _ _; k_extra "ne") | (with_reducible show @LT.lt Nat _ _ _ ∧ @LT.lt Nat _ _ _; refine And.intro ?_ ?_ <;> k_extra "om") | (with_reducible show @Eq Nat _ _; first | exact Nat.add_sub_add_right 6 1 _ | exact (Nat.add_sub_add_right 6 1 _).symm | exact Nat.succ_sub (by omega) | exact (Nat.succ_sub (by omega)).symm | exact Nat.sub_sub_self (by omega)) | omega
  k_with "k_room" => first | k_extra "up" | ((try simp only [depth_under_make, depth_under_kw, depth_in1, depth_deeper, depth_caller]); omega)
  k_with "tb_start" => first | assumption | omega | (simp only [List.length_cons, List.length_nil, List.length_append]; omega)
  k_with "tb_rel" => repeat' (first | exact List.forall_mem_nil _ | refine List.forall_mem_cons.mpr ⟨by first | exact Or.inr (by k_mem) | exact Or.inl (by simp), ?_⟩)
  k_with "k_units" => first | k_extra "up" | ((try simp only [units_in1, units_deeper, Around.mark_units, units_caller]); omega)
  k_with "call type:list" => (k_here; (with_reducible show wpAny _ _ (call (Value.type "list") [Value.str _ _]) _ _ _); k_dflt (refine' list_strN ?h ?F ?N ?z ?_; (case h => rfl); (case F => k_asm); (case N => k_asm); (case z => exact Nat.le_trans (by assumption) (Nat.le_of_ble_eq_true rfl)); k_whole); intro l₉ h₉ tk₉ vs₉ k₉ F₉ N₉ l1₉ hc₉; (try k_lt l1₉); (try k_sweep))
  k_with "truthy ref" => (k_here; k_dflt (refine' truthy_ls ?N ?m ?z ?_; (case N => k_asm); (case m => k_mem); (case z => tb_start)); (intro tk₉; (try dsimp only [List.isEmpty_cons, List.isEmpty_nil, Bool.not_false, Bool.not_true])))
  k_with "call builtin:list.pop" => (k_here; (with_reducible show wpAny _ _ (call (Value.builtin "list.pop") [Value.ref _, Value.int 0 _]) _ _ _); k_dflt (refine' pop0_N ?F ?N ?U ?z ?_; (case F => k_asm); (case N => k_asm); (case U => k_upd); (case z => tb_start)); (intro h₉ F₉ N₉; (try k_sweep)))
  exact True.intro
open Sem (wp)
theorem sub_stop_value : isSubtype (.type "ValueError") (.type "StopIteration") = pure false := by with_unfolding_all rfl
section
variable {prog : Program} {w : World} {A : Around} {E : Value → Shared → Prop} {s : Shared}
theorem pyNextG {a : Addr} {g n : Nat} {gs : GenState} {R : GenEnd} {Y : Protocol} {Q : Option Value → Shared → Prop} (hh : A.handled = none)
    (hl : s.heap.NoLimit) (hroom : A.depth < recursionLimit)
    (hg : s.heap.IsGen a g) (hgs : s.gens[g]? = some gs)
    (hgo : gs.Goes (model prog w) A.in1 R Y n (.send .none) (s.setGen g .running))
    (hY : ∀ v s₁ gs', gs'.bare = true → Y (n - 1) (s.setGen g .running) v s₁ (fun r' s'' => match n with
        | 0 => False
        | m + 1 => gs'.Goes (model prog w) A.in1 R Y m r' s'') → Q (some v) (s₁.setGen g gs'))
    (hR : ∀ x s₁, R n (s.setGen g .running) x s₁ → (x = .ok (.ret .none) ∧ ∀ h', (∀ b o, s₁.heap.get? b = some o → h'.get? b = some o) → Q none { s₁.setGen g .finished with heap := h' }) ∨
      (∃ e ob, x = .error (.ref e) ∧ s₁.heap.get? e = some ob ∧ ob.cls = .type "ValueError" ∧ s₁.heap.IsGen a g ∧ E (.ref e) (s₁.setGen g .finished))) :
    wpAny (model prog w) A (pyNext (.ref a)) Q E s := by
  unfold pyNext
  refine wpAny_bind (wpAny_attempt (wpAny_callSpecial?_slot (name := Str.ofString "__next__") hg.typeIs slot_gen_next
    (wpAny_call_entry slot_gen_next hg.typeIs entry_gen_next ?_ (args_gen_next _))))
  show wpAny _ A.in1 (Builtin.Generator.genWake (.ref a) (.send .none)) _ _ s
  unfold Builtin.Generator.genWake
  refine wpAny_bind (wpAny_holding (wpAny_genNumber hg (wpAny_bind (wpAny_genState hgs ?_))))
  cases gs with
  | running => exact hgo.elim
  | finished => exact hgo.elim
  | _ =>
    refine wpAny_bind (wpAny_roomToWake hl hroom ?_)
    show wpAny _ A.in1 (.resume g (.send .none) [] _) _ _ s
    refine wpAny_resumeQ hgs hgo (fun x s₁ hx => ?_) (fun v s₁ gs' hb hv => ?_)
    · rcases hR x s₁ hx with ⟨rfl, hq⟩ | ⟨e, ob, rfl, he, hc, hg1, hE⟩
      · show wpAny _ A.in1 (newExc (.type "StopIteration") [] >>= _) _ _ _
        refine wpAny_bind ?_
        simp only [newExc, newTuple]
        refine wpAny_bind (wpAny_newObj_type ?_ (by size_fits))
        refine wpAny_bind (m := firstArgMember _ _) (wpAny_of_eq (a := Value.none) (by first | rfl | (simp only [firstArgMember]; rfl)) ?_)
        refine wpAny_newObj_type ?_ (by size_fits)
        simp only [raiseNew]
        refine wpAny_bind (wpAny_bind (wpAny_handled ?_))
        first | rw [show A.in1.handled = none from hh] | rw [hh]
        refine wpAny_throw ?_
        refine wpAny_bind (wpAny_isInstance (T := "StopIteration") (b := true) ⟨_, Heap.get?_push_size _ rfl, rfl⟩ isSubtype_stop ?_)
        exact wpAny_pure (hq _ fun b o hb => Heap.get?_push_of_some _ (Heap.get?_push_of_some _ hb))
      · show wpAny _ A.in1 (Builtin.Generator.genLeft (.ref a) (.ref e)) _ _ _
        unfold Builtin.Generator.genLeft Builtin.Generator.madeByALambda Builtin.Generator.genEscaped
        obtain ⟨og, nm, qn, hog, hgc, hgd, hgl⟩ := hg1
        have hI : ∀ {A' : Around} {Q' : Bool → Shared → Prop} {E' : Value → Shared → Prop}, Q' false (s₁.setGen g .finished) → wpAny (model prog w) A' (isInstance (.ref e) (.type "StopIteration")) Q' E' (s₁.setGen g .finished) := fun h => wpAny_isInstance (T := "ValueError") (b := false) ⟨ob, he, hc⟩ sub_stop_value h
        refine wpAny_bind (wpAny_bind (wpAny_load hog (wpAny_pure (wpAny_bind (hI ?_)))))
        rw [hgd]
        dsimp only
        rw [Bool.and_false, if_neg Bool.false_ne_true]
        refine wpAny_bind (hI ?_)
        rw [Bool.not_false, if_pos rfl]
        refine wpAny_throw ?_
        refine wpAny_bind (hI ?_)
        rw [if_neg Bool.false_ne_true]
        exact wpAny_throw hE
    · exact wpAny_pure ⟨v, rfl, wpAny_pure (hY v s₁ gs' hb hv)⟩
end
section
variable {prog : Program} {w : World} {A : Around} {s : Shared} {h₀ : Heap} {K : Frag} {mg mb : Str → Option Value} {p : Program} {loose : List Str} {mean : ExcName → Option Value}
  {R : Result → Shared → Prop} {name qual : Str} {params : Arguments} {body : List Stmt} {scope : Scope} {dV kV doc pm cdv ct oc : Value} {an od : Option Addr} {osl : Array (Option Value)} {f : Addr} {args : Args} {binds : List (Str × Value)}
/-- a generator function's call makes the generator alone -/
theorem enterG (X : K.In h₀) (T : Top p loose mean mg mb h₀) (st : h₀.StaysIn s.heap)
    (ho : K.lookup f = some ⟨oc, od, .func (fnOf name qual params body scope dV kV doc pm an cdv ct), osl⟩) (hcd : codeIn K cdv qual = true) (hroom : A.depth < recursionLimit)
    (hbind : BindsTo s (fnOf name qual params body scope dV kV doc pm an cdv ct) args binds) (hloc : ∀ y ∈ binds, scope.names.lookup y.1 = some .local)
    (h : ∀ (h₁ : Heap) (t1 t2 : Tok) (tk : Nat), h₁.Ns s.heap.objs.size (fun y => binds.reverse.lookup y) → (∀ b o, s.heap.get? b = some o → h₁.get? b = some o) →
      R (.ok (.ret (.ref h₁.objs.size))) { s with gens := s.gens.push (.fresh (.func body (envOf qual scope s.heap.objs.size f cdv))), toks := tk, heap := h₁.push { cls := .type "generator", data := .fields #[.int s.gens.size 0, .str name t1, .str qual t2] } })
    (hco : scope.isCoroutine = false) (hgen : scope.isGenerator = true) (hk : scope.kind = .function)
    (hcell : ∀ x ∈ scope.names, x.2 ≠ .cell) : codeAny (model prog w) A (.call (.ref f) args) R s := by
  refine codeAny_call_generator (fd := fnOf name qual params body scope dV kV doc pm an cdv ct) (body := body) hroom (st _ _ (X _ _ ho)) rfl hco hgen rfl (codeRec_of (fun b o e => st b o (X b o e)) hcd) (hbind _ _ _ _ ?_)
  refine wpAny_newFunctionEnv hcell hloc (fun h₁ hns hsb => ⟨(T.nolimit.keeps st).fresh _ hsb, ?_⟩) hk
  exact h h₁ _ _ _ hns fun b o e => hsb.extBut b o (Nat.ne_of_lt (Heap.lt_size e)) (Heap.get?_push_of_some _ e)
end
-- C29
theorem lines50 : True := by
  k_with_none
  k_with "in" => first | with_reducible assumption | exact And.left (by with_reducible assumption) | exact And.left (And.right (by with_reducible assumption)) | exact And.left (And.right (And.right (by with_reducible assumption))) | exact And.left (And.right (And.right (And.right (by with_reducible assumption)))) | exact And.left (And.right (And.right (And.right (And.right (by with_reducible assumption))))) | exact And.left (And.right (And.right (And.right (And.right (And.right (by with_reducible assumption)))))) | exact And.left (And.right (And.right (And.right (And.right (And.right (And.right (by with_reducible assumption))))))) | exact And.left (And.right (And.right (And.right (And.right (And.right (And.right (And.right (by with_reducible assumption)))))))) | exact And.left (And.right (And.right (And.right (And.right (And.right (And.right (And.right (And.right (by with_reducible assumption))))))))) | exact And.left (And.right (And.right (And.right (And.right (And.right (And.right (And.right (And.right (And.right (by with_reducible assumption)))))))))) | exact And.left (And.right (And.right (And.right (And.right (And.right (And.right (And.right (And.right (And.right (And.right (by with_reducible assumption))))))))))) | exact And.left (And.right (And.right (And.right (And.right (And.right (And.right (And.right (And.right (And.right (And.right (And.right (by with_reducible assumption)))))))))))) | exact And.left (And.right (And.right (And.right (And.right (And.right (And.right (And.right (And.right (And.right (And.right (And.right (And.right (by with_reducible assumption))))))))))))) | exact And.left (And.right (And.right (And.right (And.right (And.right (And.right (And.right (And.right (And.right (And.right (And.right (And.right (And.right (by with_reducible assumption)))))))))))))) | exact And.left (And.right (And.right (And.right (And.right (And.right (And.right (And.right (And.right (And.right (And.right (And.right (And.right (And.right (And.right (by with_reducible assumption))))))))))))))) | exact And.right (by with_reducible assumption) | exact And.right (And.right (by with_reducible assumption)) | exact And.right (And.right (And.right (by with_reducible assumption))) | exact And.right (And.right (And.right (And.right (by with_reducible assumption)))) | exact And.right (And.right (And.right (And.right (And.right (by with_reducible assumption))))) | exact And.right (And.right (And.right (And.right (And.right (And.right (by with_reducible assumption)))))) | exact And.right (And.right (And.right (And.right (And.right (And.right (And.right (by with_reducible assumption))))))) | exact And.right (And.right (And.right (And.right (And.right (And.right (And.right (And.right (by with_reducible assumption)))))))) | exact And.right (And.right (And.right (And.right (And.right (And.right (And.right (And.right (And.right (by with_reducible assumption))))))))) | exact And.right (And.right (And.right (And.right (And.right (And.right (And.right (And.right (And.right (And.right (by with_reducible assumption)))))))))) | exact And.right (And.right (And.right (And.right (And.right (And.right (And.right (And.right (And.right (And.right (And.right (by with_reducible assumption))))))))))) | exact And.right (And.right (And.right (And.right (And.right (And.right (And.right (And.right (And.right (And.right (And.right (And.right (by with_reducible assumption)))))))))))) | exact And.right (And.right (And.right (And.right (And.right (And.right (And.right (And.right (And.right (And.right (And.right (And.right (And.right (by with_reducible assumption))))))))))))) | exact And.right (And.right (And.right (And.right (And.right (And.right (And.right (And.right (And.right (And.right (And.right (And.right (And.right (And.right (by with_reducible assumption))))))))))))))
  k_with "lt0" => first | with_reducible assumption | exact Nat.lt_trans (by with_reducible assumption) (by k_extra "lt0")
  k_with "lt" => first | k_extra "in" | exact Nat.lt_trans (by k_extra "in") (by k_extra "lt")
  k_with "ne0" => first | with_reducible assumption | exact Ne.symm (by with_reducible assumption) | exact Nat.succ_ne_self _ | exact Ne.symm (Nat.succ_ne_self _) | (refine Nat.ne_of_lt ?_; k_extra "lt0") | (refine Nat.ne_of_gt ?_; k_extra "lt0")
  k_with "ne1" => first | k_extra "in" | (refine Ne.symm ?_; k_extra "in") | (refine Nat.ne_of_lt ?_; k_extra "lt") | (refine Nat.ne_of_gt ?_; k_extra "lt")
  k_with "ne2" => first | (refine Nat.ne_of_lt ?_; k_extra "lt0") | (refine Nat.ne_of_gt ?_; k_extra "lt0") | (refine Nat.ne_of_lt (And.left (by with_reducible assumption)))  | (refine Nat.ne_of_gt (And.left (by with_reducible assumption))) | (refine Nat.ne_of_lt (Nat.lt_trans (And.right (by with_reducible assumption)) ?_); k_extra "lt0") | (refine Nat.ne_of_lt (And.right (by with_reducible assumption))) | (refine Nat.ne_of_gt (Nat.lt_trans ?_ (And.left (by with_reducible assumption))); k_extra "lt0")
  k_with "ne" => first | k_extra "ne0" | (refine Or.elim (by with_reducible assumption : @LT.lt Nat _ _ _ ∨ @LT.lt Nat _ _ _ ∧ @LT.lt Nat _ _ _) (fun q9 => ?_) (fun q9 => ?_); (all_goals k_extra "ne2")) | k_extra "ne1"
  k_with "ifs" => first | with_reducible rfl | exact Eq.trans (if_neg (by assumption)) (by k_extra "ifs")
  k_with "up" => first | exact up2 (by with_reducible assumption) rfl | exact up1 (by with_reducible assumption) rfl | exact up3 (by with_reducible assumption) rfl | exact up4 (by with_reducible assumption) rfl | exact up5 (by with_reducible assumption) rfl
  k_with "om" => first | with_reducible assumption | exact Nat.succ_pos _ | (with_reducible show @LT.lt Nat _ _ _; (try dsimp only); first | k_extra "lt0" | k_extra "up" | k_extra "lt") | (with_reducible show @Ne Nat _ _; k_extra "ne") | (with_reducible show @LT.lt Nat _ _ _ ∧ @LT.lt Nat _ _ _; refine And.intro ?_ ?_ <;> k_extra "om") | (with_reducible show @Eq Nat _ _; first | exact Nat.add_sub_add_right 6 1 _ | exact (Nat.add_sub_add_right 6 1 _).symm | exact Nat.succ_sub (by omega) | exact (Nat.succ_sub (by omega)).symm | exact Nat.sub_sub_self (by omega)) | omega
  k_with "k_room" => first | k_extra "up" | ((try simp only [depth_under_make, depth_under_kw, depth_in1, depth_deeper, depth_caller]); omega)
  k_with "tb_start" => first | assumption | omega | (simp only [List.length_cons, List.length_nil, List.length_append]; omega)
  k_with "tb_rel" => repeat' (first | exact List.forall_mem_nil _ | refine List.forall_mem_cons.mpr ⟨by first | exact Or.inr (by k_mem) | exact Or.inl (by simp), ?_⟩)
  k_with "k_units" => first | k_extra "up" | ((try simp only [units_in1, units_deeper, Around.mark_units, units_caller]); omega)
  k_with "call type:list" => (k_here; (with_reducible show wpAny _ _ (call (Value.type "list") [Value.str _ _]) _ _ _); k_dflt (refine' list_strN ?h ?F ?N ?z ?_; (case h => rfl); (case F => k_asm); (case N => k_asm); (case z => exact Nat.le_trans (by assumption) (Nat.le_of_ble_eq_true rfl)); k_whole); intro l₉ h₉ tk₉ vs₉ k₉ F₉ N₉ l1₉ hc₉; (try k_lt l1₉); (try k_sweep))
  k_with "truthy ref" => (k_here; k_dflt (refine' truthy_ls ?N ?m ?z ?_; (case N => k_asm); (case m => k_mem); (case z => tb_start)); (intro tk₉; (try dsimp only [List.isEmpty_cons, List.isEmpty_nil, Bool.not_false, Bool.not_true])))
  k_with "call builtin:list.pop" => (k_here; (with_reducible show wpAny _ _ (call (Value.builtin "list.pop") [Value.ref _, Value.int 0 _]) _ _ _); k_dflt (refine' pop0_N ?F ?N ?U ?z ?_; (case F => k_asm); (case N => k_asm); (case U => k_upd); (case z => tb_start)); (intro h₉ F₉ N₉; (try k_sweep)))
  exact True.intro
open Sem (wp)
noncomputable def mkL : Pos × List Stmt :=
  match (PySem.Challenge.pw_wn0047_01.main.body)[20]? with
  | some (PySem.Stmt.FunctionDef _ _ body _ _ _ _ _ _ _) => match (body : List PySem.Stmt)[2]? with
    | some (PySem.Stmt.Try b _ _ _ _) => match (b : List PySem.Stmt)[0]? with
      | some (PySem.Stmt.For (PySem.Expr.Name _ px) _ b _ _) => (px, b)
      | _ => default
    | _ => default
  | _ => default
noncomputable def mkS : Scope :=
  match (PySem.Challenge.pw_wn0047_01.main.body)[20]? with
  | some (PySem.Stmt.FunctionDef _ _ _ _ _ _ sc _ _ _) => sc
  | _ => default
noncomputable abbrev mEnv (L : Addr) : Env := envOf (Str.ofString "_law_marked") mkS L 175 (.ref 174)
theorem bare_set {a : Array GenState} {i : Nat} {x : GenState} (h : AllBare a) (hx : x.bare = true) : AllBare (a.setIfInBounds i x) := fun y hy => by
  obtain ⟨k, hk, rfl⟩ := Array.mem_iff_getElem.mp hy
  have hk' : k < a.size := by simpa using hk
  rw [Array.getElem_setIfInBounds (hj := hk')]
  split
  · exact hx
  · exact h _ (Array.getElem_mem _)
theorem set_at {a : Array GenState} {i : Nat} {x z y : GenState} (h : a[i]? = some z) : ((a.setIfInBounds i y).setIfInBounds i x)[i]? = some x := by
  have := (Array.getElem?_eq_some_iff.mp h).1
  rw [Array.getElem?_setIfInBounds_self_of_lt]
  simpa using this
noncomputable def GS.good : GS → Prop
  | .lp _ none => True
  | .lp _ (some l) => 1 ≤ l
  | .yF _ v => 1 ≤ v
  | .yW l => 1 ≤ l
theorem goL_good {r : List Int} (hb : ∀ y ∈ r, y = 127 ∨ (0 ≤ y ∧ y < 5)) {i : Nat} {last : Option Int} {x : Int} {st : GS} (hl : (GS.lp i last).good) (h : goL r i last = .out x st) : 1 ≤ x ∧ st.good := by
  unfold goL at h
  split at h
  · cases h
  · rename_i v hv
    split at h
    · cases h
    · split at h
      · cases last with
        | none => cases h
        | some l =>
          cases h
          exact ⟨hl, hl⟩
      · cases h
        have hm : x ∈ r := List.mem_of_getElem? hv
        have := hb x hm
        have : 1 ≤ x := by k_extra "om"
        exact ⟨this, this⟩
theorem emit_good {r : List Int} (hb : ∀ y ∈ r, y = 127 ∨ (0 ≤ y ∧ y < 5)) {s st : GS} {x : Int} (hs : s.good) (h : emit r s = .out x st) : 1 ≤ x ∧ st.good := by
  cases s with
  | lp i last => exact goL_good hb hs h
  | yF i v => exact goL_good hb (last := some v) (i := i + 1) hs h
  | yW l =>
    cases h
    exact ⟨hs, hs⟩
theorem sq_good {r : List Int} (hb : ∀ y ∈ r, y = 127 ∨ (0 ≤ y ∧ y < 5)) : ∀ k, (sq r k).good
  | 0 => True.intro
  | k + 1 => by
    have ih := sq_good hb k
    show (match emit r (sq r k) with | .out _ st => st | _ => sq r k).good
    cases h : emit r (sq r k) with
    | fin => exact ih
    | err => exact ih
    | out x st => exact (emit_good hb ih h).2
noncomputable def markK (r : List Int) : Nat → Nat → Int → List Int → List Int
  | 0, _, _, acc => acc
  | f + 1, k, place, acc => match emit r (sq r k) with
    | .fin => acc
    | .err => [0, 1, 2, 3, 4]
    | .out x _ => if place + x > 5 then acc else markK r f (k + 1) (place + x) (acc ++ [place + x - 1])
theorem mark_fin {r : List Int} {f k : Nat} {place : Int} {acc : List Int} (h : emit r (sq r k) = .fin) : markK r (f + 1) k place acc = acc := by unfold markK; rw [h]
theorem mark_stop {r : List Int} {f k : Nat} {place x : Int} {st : GS} {acc : List Int} (h : emit r (sq r k) = .out x st) (hp : place + x > 5) : markK r (f + 1) k place acc = acc := by unfold markK; rw [h]; exact if_pos hp
theorem mark_more {r : List Int} {f k : Nat} {place x : Int} {st : GS} {acc : List Int} (h : emit r (sq r k) = .out x st) (hp : ¬ place + x > 5) : markK r (f + 1) k place acc = markK r f (k + 1) (place + x) (acc ++ [place + x - 1]) := by rw [markK.eq_2, h]; exact if_neg hp
theorem led_back {P : GP} {h : Heap} {m mg : Names} {I : Addr} {oI oG oF oM : Obj} (hap : @LT.lt Nat _ P.a P.lv ∧ @LT.lt Nat _ P.L P.Lg ∧ @LT.lt Nat _ P.lv P.Lg ∧ @LT.lt Nat _ P.Lg P.G) (F : Fr P.g P.L h m) (N : News P.g P.L h [(P.lv, oM), (P.a, lsO P.vs P.k0), (P.G, oG), (P.Lg, oF), (I, oI)]) (hn : LCg.NsObj oF mg) (hI : I ≠ P.Lg) :
    Fr P.g P.Lg h mg ∧ ∃ oL, News P.g P.Lg h (P.led I oI oG oL oM) := by
  obtain ⟨ap1, ap2, ap3, ap4⟩ := hap
  obtain ⟨oL, es, ep, hL, hd, hk⟩ := F.ns
  refine ⟨⟨hn.ns (N _ (.tail _ (.tail _ (.tail _ (.head _))))).1, F.keep, Nat.le_trans F.above (Nat.le_of_lt ap2)⟩, oL, ?_⟩
  intro q hq
  rcases List.mem_cons.mp hq with rfl | hq
  · exact ⟨(N _ (.tail _ (.tail _ (.tail _ (.tail _ (.head _)))))).1, hI, (N (I, oI) (.tail _ (.tail _ (.tail _ (.tail _ (.head _)))))).2.2⟩
  rcases List.mem_cons.mp hq with rfl | hq
  · exact ⟨(N _ (.tail _ (.head _))).1, Nat.ne_of_lt (Nat.lt_trans ap1 ap3), (N (P.a, lsO P.vs P.k0) (.tail _ (.head _))).2.2⟩
  rcases List.mem_cons.mp hq with rfl | hq
  · exact ⟨(N _ (.tail _ (.tail _ (.head _)))).1, Nat.ne_of_gt ap4, (N (P.G, oG) (.tail _ (.tail _ (.head _)))).2.2⟩
  rcases List.mem_cons.mp hq with rfl | hq
  · exact ⟨hL, Nat.ne_of_lt ap2, kts_self F⟩
  · cases List.mem_singleton.mp hq
    exact ⟨(N _ (.head _)).1, Nat.ne_of_lt ap3, (N (P.lv, oM) (.head _)).2.2⟩
section
variable {w : World} {P : GP} {p : Program} {loose : List Str} {mean : ExcName → Option Value} {mg mb : Str → Option Value} {dp un : Nat} {gd : Option (List Code)} {outs : List Env} {base : Heap} {RL : Result → Shared → Prop} {s₁ : Shared} {gi : Nat}
theorem marked_loop (B : Below (AT dp un gd outs) base outs P.g) (X : (hd.heap_39 w.params).In P.g) (T : Top p loose mean mg mb P.g) (hdp : dp + 12 < recursionLimit) (hu : un + 120 < cLine) (hI : IntsAre P.vs P.r) (hb : ∀ y ∈ P.r, y = 127 ∨ (0 ≤ y ∧ y < 5)) (oG : Obj) (hG : ∀ h : Heap, h.get? P.G = some oG → h.IsGen P.G gi) (hap : @LT.lt Nat _ P.a P.lv ∧ @LT.lt Nat _ P.L P.Lg ∧ @LT.lt Nat _ P.lv P.Lg ∧ @LT.lt Nat _ P.Lg P.G)
    (fin : ∀ h tk gens m ws nn js, AllBare gens → Fr P.g P.L h m → m (Str.ofString "marked") = some (.ref P.lv) → News P.g P.L h [(P.lv, lsO ws nn), (P.a, lsO P.vs P.k0)] → IntsAre ws js → js = markK P.r 7 0 0 [] → RL (.ok .next) { s₁ with heap := h, toks := tk, gens := gens }) :
    ∀ j k, k + j = 5 → ∀ h tk gens gs m ws nn js (place : Int) tp, AllBare gens → gens[gi]? = some gs → gs.Goes (model PySem.Challenge.rw_wn0047_01.row.prog w) ((AT dp un gd outs).deeper (mEnv P.L)).in1 P.R P.Y (7 - k) (.send .none) (Shared.setGen { s₁ with heap := h, toks := tk, gens := gens } gi .running) →
      Fr P.g P.L h m → m (Str.ofString "marked") = some (.ref P.lv) → m (Str.ofString "place") = some (.int place tp) → News P.g P.L h [(P.lv, lsO ws nn), (P.a, lsO P.vs P.k0), (P.G, oG)] → IntsAre ws js → (k : Int) ≤ place → js.length = k → markK P.r (7 - k) k place js = markK P.r 7 0 0 [] →
      codeAny (model PySem.Challenge.rw_wn0047_01.row.prog w) ((AT dp un gd outs).deeper (mEnv P.L)) (.forLoop (.Name (Str.ofString "size") mkL.1) (.ref P.G) mkL.2 [] (mEnv P.L)) RL { s₁ with heap := h, toks := tk, gens := gens } := by
  intro j
  induction j using Nat.strongRecOn with
  | _ j ih =>
    intro k hkj h tk gens gs m ws nn js place tp hA hgs hgo F hmm hmp N hW hpl hjl hmk
    revert X; k_fill; intro X
    obtain ⟨ap1, ap2, ap3, ap4⟩ := hap
    refine forLoop_step ?_
    refine pyNextG rfl (T.nolimit.keeps F.keep) (by k_room) (hG _ (N (P.G, oG) (by k_mem)).1) hgs hgo ?_ ?_
    · intro v s₂ gs' hbare hYv
      rw [show 7 - k - 1 = 6 - k from by k_extra "om"] at hYv
      obtain ⟨x, tx, rfl, he, I, oI, h2, tk2, mg2, rfl, hGI, FG, NG, hBig, hSm, hkap⟩ := hYv
      rw [show 6 - (6 - k) = k from by k_extra "om"] at he
      obtain ⟨hx1, -⟩ := emit_good hb (sq_good hb k) he
      have hA2 : AllBare ((gens.setIfInBounds gi .running).setIfInBounds gi gs') := bare_set (bare_set hA rfl) hbare
      have hgs2 : ((gens.setIfInBounds gi .running).setIfInBounds gi gs')[gi]? = some gs' := set_at hgs
      change wpAny _ _ _ _ _ { s₁ with heap := h2, toks := tk2, gens := (gens.setIfInBounds gi .running).setIfInBounds gi gs' }
      generalize (gens.setIfInBounds gi .running).setIfInBounds gi gs' = gens2 at hA2 hgs2 ⊢
      change P.same h h2 at hSm
      obtain ⟨oL, hoL⟩ : ∃ o, h.get? P.L = some o := by obtain ⟨o, _, _, ho, _⟩ := F.ns; exact ⟨o, ho⟩
      have F2 : Fr P.g P.L h2 m := ⟨F.ns.at' fun o e => hSm P.L (.tail _ (.tail _ (.head _))) o e, FG.keep, F.above⟩
      obtain ⟨oF, hoF, hnF⟩ := LCg.ns_obj FG.ns
      obtain ⟨b1, b2, b3, b4, b5⟩ := hBig
      have zI := NG (I, oI) (.head _)
      have N2 : News P.g P.L h2 [(P.lv, lsO ws nn), (P.a, lsO P.vs P.k0), (P.G, oG), (P.Lg, oF), (I, oI)] := by
        intro q hq
        rcases List.mem_cons.mp hq with rfl | hq
        · exact ⟨hSm _ (.tail _ (.tail _ (.tail _ (.head _)))) _ (N _ (.head _)).1, (N _ (.head _)).2⟩
        rcases List.mem_cons.mp hq with rfl | hq
        · exact ⟨hSm _ (.head _) _ (N _ (.tail _ (.head _))).1, (N _ (.tail _ (.head _))).2⟩
        rcases List.mem_cons.mp hq with rfl | hq
        · exact ⟨hSm _ (.tail _ (.head _)) _ (N _ (.tail _ (.tail _ (.head _)))).1, (N _ (.tail _ (.tail _ (.head _)))).2⟩
        rcases List.mem_cons.mp hq with rfl | hq
        · exact ⟨hoF, Nat.ne_of_gt ap2, kts_self FG⟩
        · cases List.mem_singleton.mp hq
          exact ⟨zI.1, Nat.ne_of_gt b3, zI.2.2⟩
      have F3 := fr_set2 (Str.ofString "place") (Str.ofString "marked") F2 (fun _ _ _ => rfl)
      rw [hmp, hmm] at F3
      have hnext : 7 - k = (6 - k) + 1 := by k_extra "om"
      rw [hnext] at hmk
      clear F N FG NG F2 hgo hgs
      have hx : mkL = mkL := rfl
      conv at hx => rhs; whnf
      have hSS : mkS = mkS := rfl
      conv at hSS => rhs; whnf
      simp only [hx, hSS, mEnv] at ih ⊢
      have hwl := intsLen hW
      have hI5 : I ≠ P.Lg := zI.2.1
      have hk1 : 1 ≤ 6 - k := by k_extra "om"
      have hkap2 := hkap hk1
      simp only [hnext] at hkap2
      clear hkap zI hSm hoL hoF
      k_steps
      · (rename News _ _ _ _ => NN)
        (rename Fr _ _ _ _ => FF)
        rename _ > (5 : Int) => hp5
        exact fin _ _ _ _ _ _ _ hA2 FF rfl (fun q hq => NN q (by rcases List.mem_cons.mp hq with rfl | hq; exact .head _; cases List.mem_singleton.mp hq; exact .tail _ (.head _))) hW ((mark_stop he hp5).symm.trans hmk)
      · (rename News _ _ _ _ => NN)
        (rename Fr _ _ _ _ => FF)
        rename ¬ _ > (5 : Int) => hp5
        simp only [List.push_toArray] at NN
        obtain ⟨FB, oL9, NB⟩ := led_back ⟨ap1, ap2, ap3, ap4⟩ FF NN hnF hI5
        refine ih (j - 1) (by k_extra "om") (k + 1) (by k_extra "om") _ _ gens2 gs' _ _ _ (js ++ [place + x - 1]) (place + x) _ hA2 hgs2 ?_ FF rfl rfl (fun q hq => NN q (by rcases List.mem_cons.mp hq with rfl | hq; exact .head _; rcases List.mem_cons.mp hq with rfl | hq; exact .tail _ (.head _); cases List.mem_singleton.mp hq; exact .tail _ (.tail _ (.head _)))) (intsSnoc hW) (by k_extra "om") (by rw [List.length_append, hjl]; rfl) ?_
        · rw [show 7 - (k + 1) = 6 - k from by k_extra "om"]
          exact hkap2 _ mg2 oG oL9 _ FB hGI NB
        · rw [show 7 - (k + 1) = 6 - k from by k_extra "om", ← mark_more he hp5]
          exact hmk
    · intro x s₂ hx
      obtain ⟨he, rfl, h2, tk2, mg2, rfl, FG, hSm⟩ := hx
      rw [show 7 - (7 - k) = k from by k_extra "om"] at he
      refine .inl ⟨rfl, fun h3 hk3 => ?_⟩
      refine wpAny_execs_nil ?_
      have hk4 : P.same h h3 := fun q hq o e => hk3 _ _ (hSm q hq o e)
      have hnext : 7 - k = (6 - k) + 1 := by k_extra "om"
      rw [hnext, mark_fin he] at hmk
      refine fin h3 _ _ m ws nn js ?_ ⟨F.ns.at' fun o e => hk4 P.L (.tail _ (.tail _ (.head _))) o e, fun b o e => hk3 _ _ (FG.keep b o e), F.above⟩ hmm ?_ hW hmk
      · exact bare_set (bare_set hA rfl) rfl
      · intro q hq
        rcases List.mem_cons.mp hq with rfl | hq
        · exact ⟨hk4 _ (.tail _ (.tail _ (.tail _ (.head _)))) _ (N _ (.head _)).1, (N _ (.head _)).2⟩
        · cases List.mem_singleton.mp hq
          exact ⟨hk4 _ (.head _) _ (N _ (.tail _ (.head _))).1, (N _ (.tail _ (.head _))).2⟩
end
-- C30
theorem lines51 : True := by
  k_with_none
  k_with "in" => first | with_reducible assumption | exact And.left (by with_reducible assumption) | exact And.left (And.right (by with_reducible assumption)) | exact And.left (And.right (And.right (by with_reducible assumption))) | exact And.left (And.right (And.right (And.right (by with_reducible assumption)))) | exact And.left (And.right (And.right (And.right (And.right (by with_reducible assumption))))) | exact And.left (And.right (And.right (And.right (And.right (And.right (by with_reducible assumption)))))) | exact And.left (And.right (And.right (And.right (And.right (And.right (And.right (by with_reducible assumption))))))) | exact And.left (And.right (And.right (And.right (And.right (And.right (And.right (And.right (by with_reducible assumption)))))))) | exact And.left (And.right (And.right (And.right (And.right (And.right (And.right (And.right (And.right (by with_reducible assumption))))))))) | exact And.left (And.right (And.right (And.right (And.right (And.right (And.right (And.right (And.right (And.right (by with_reducible assumption)))))))))) | exact And.left (And.right (And.right (And.right (And.right (And.right (And.right (And.right (And.right (And.right (And.right (by with_reducible assumption))))))))))) | exact And.left (And.right (And.right (And.right (And.right (And.right (And.right (And.right (And.right (And.right (And.right (And.right (by with_reducible assumption)))))))))))) | exact And.left (And.right (And.right (And.right (And.right (And.right (And.right (And.right (And.right (And.right (And.right (And.right (And.right (by with_reducible assumption))))))))))))) | exact And.left (And.right (And.right (And.right (And.right (And.right (And.right (And.right (And.right (And.right (And.right (And.right (And.right (And.right (by with_reducible assumption)))))))))))))) | exact And.left (And.right (And.right (And.right (And.right (And.right (And.right (And.right (And.right (And.right (And.right (And.right (And.right (And.right (And.right (by with_reducible assumption))))))))))))))) | exact And.right (by with_reducible assumption) | exact And.right (And.right (by with_reducible assumption)) | exact And.right (And.right (And.right (by with_reducible assumption))) | exact And.right (And.right (And.right (And.right (by with_reducible assumption)))) | exact And.right (And.right (And.right (And.right (And.right (by with_reducible assumption))))) | exact And.right (And.right (And.right (And.right (And.right (And.right (by with_reducible assumption)))))) | exact And.right (And.right (And.right (And.right (And.right (And.right (And.right (by with_reducible assumption))))))) | exact And.right (And.right (And.right (And.right (And.right (And.right (And.right (And.right (by with_reducible assumption)))))))) | exact And.right (And.right (And.right (And.right (And.right (And.right (And.right (And.right (And.right (by with_reducible assumption))))))))) | exact And.right (And.right (And.right (And.right (And.right (And.right (And.right (And.right (And.right (And.right (by with_reducible assumption)))))))))) | exact And.right (And.right (And.right (And.right (And.right (And.right (And.right (And.right (And.right (And.right (And.right (by with_reducible assumption))))))))))) | exact And.right (And.right (And.right (And.right (And.right (And.right (And.right (And.right (And.right (And.right (And.right (And.right (by with_reducible assumption)))))))))))) | exact And.right (And.right (And.right (And.right (And.right (And.right (And.right (And.right (And.right (And.right (And.right (And.right (And.right (by with_reducible assumption))))))))))))) | exact And.right (And.right (And.right (And.right (And.right (And.right (And.right (And.right (And.right (And.right (And.right (And.right (And.right (And.right (by with_reducible assumption))))))))))))))
  k_with "lt0" => first | with_reducible assumption | exact Nat.lt_trans (by with_reducible assumption) (by k_extra "lt0")
  k_with "lt" => first | k_extra "in" | exact Nat.lt_trans (by k_extra "in") (by k_extra "lt")
  k_with "ne0" => first | with_reducible assumption | exact Ne.symm (by with_reducible assumption) | exact Nat.succ_ne_self _ | exact Ne.symm (Nat.succ_ne_self _) | (refine Nat.ne_of_lt ?_; k_extra "lt0") | (refine Nat.ne_of_gt ?_; k_extra "lt0")
  k_with "ne1" => first | k_extra "in" | (refine Ne.symm ?_; k_extra "in") | (refine Nat.ne_of_lt ?_; k_extra "lt") | (refine Nat.ne_of_gt ?_; k_extra "lt")
  k_with "ne2" => first | (refine Nat.ne_of_lt ?_; k_extra "lt0") | (refine Nat.ne_of_gt ?_; k_extra "lt0") | (refine Nat.ne_of_lt (And.left (by with_reducible assumption)))  | (refine Nat.ne_of_gt (And.left (by with_reducible assumption))) | (refine Nat.ne_of_lt (Nat.lt_trans (And.right (by with_reducible assumption)) ?_); k_extra "lt0") | (refine Nat.ne_of_lt (And.right (by with_reducible assumption))) | (refine Nat.ne_of_gt (Nat.lt_trans ?_ (And.left (by with_reducible assumption))); k_extra "lt0")
  k_with "ne" => first | k_extra "ne0" | (refine Or.elim (by with_reducible assumption : @LT.lt Nat _ _ _ ∨ @LT.lt Nat _ _ _ ∧ @LT.lt Nat _ _ _) (fun q9 => ?_) (fun q9 => ?_); (all_goals k_extra "ne2")) | k_extra "ne1"
  k_with "ifs" => first | with_reducible rfl | exact Eq.trans (if_neg (by assumption)) (by k_extra "ifs")
  k_with "up" => first | exact up2 (by with_reducible assumption) rfl | exact up1 (by with_reducible assumption) rfl | exact up3 (by with_reducible assumption) rfl | exact up4 (by with_reducible assumption) rfl | exact up5 (by with_reducible assumption) rfl
  k_with "om" => first | with_reducible assumption | exact Nat.succ_pos _ | (with_reducible show @LT.lt Nat _ _ _; (try dsimp only); first | k_extra "lt0" | k_extra "up" | k_extra "lt") | (with_reducible show @Ne Nat _ _; k_extra "ne") | (with_reducible show @LT.lt Nat _ _ _ ∧ @LT.lt Nat _ _ _; refine And.intro ?_ ?_ <;> k_extra "om") | (with_reducible show @Eq Nat _ _; first | exact Nat.add_sub_add_right 6 1 _ | exact (Nat.add_sub_add_right 6 1 _).symm | exact Nat.succ_sub (by omega) | exact (Nat.succ_sub (by omega)).symm | exact Nat.sub_sub_self (by omega)) | omega
  k_with "k_room" => first | k_extra "up" | ((try simp only [depth_under_make, depth_under_kw, depth_in1, depth_deeper, depth_caller]); omega)
  k_with "tb_start" => first | assumption | omega | (simp only [List.length_cons, List.length_nil, List.length_append]; omega)
  k_with "tb_rel" => repeat' (first | exact List.forall_mem_nil _ | refine List.forall_mem_cons.mpr ⟨by first | exact Or.inr (by k_mem) | exact Or.inl (by simp), ?_⟩)
  k_with "k_units" => first | k_extra "up" | ((try simp only [units_in1, units_deeper, Around.mark_units, units_caller]); omega)
  k_with "call type:list" => (k_here; (with_reducible show wpAny _ _ (call (Value.type "list") [Value.str _ _]) _ _ _); k_dflt (refine' list_strN ?h ?F ?N ?z ?_; (case h => rfl); (case F => k_asm); (case N => k_asm); (case z => exact Nat.le_trans (by assumption) (Nat.le_of_ble_eq_true rfl)); k_whole); intro l₉ h₉ tk₉ vs₉ k₉ F₉ N₉ l1₉ hc₉; (try k_lt l1₉); (try k_sweep))
  k_with "truthy ref" => (k_here; k_dflt (refine' truthy_ls ?N ?m ?z ?_; (case N => k_asm); (case m => k_mem); (case z => tb_start)); (intro tk₉; (try dsimp only [List.isEmpty_cons, List.isEmpty_nil, Bool.not_false, Bool.not_true])))
  k_with "call builtin:list.pop" => (k_here; (with_reducible show wpAny _ _ (call (Value.builtin "list.pop") [Value.ref _, Value.int 0 _]) _ _ _); k_dflt (refine' pop0_N ?F ?N ?U ?z ?_; (case F => k_asm); (case N => k_asm); (case U => k_upd); (case z => tb_start)); (intro h₉ F₉ N₉; (try k_sweep)))
  k_with "exec For Name Name cons nil" => refine Stop.go ?_
  k_with "exec For Name Call cons nil" => refine Stop.go ?_
  k_with "call ref" => ((with_reducible show wpAny _ _ (call (Value.ref 121) _) _ _ _); refine Stop.go ?_)
  exact True.intro
noncomputable abbrev heapOfN {g h : Heap} {L : Addr} {news : Led} (_ : News g L h news) : Heap := h
theorem passE {M : Model} {A : Around} {env : Env} {E : Value → Shared → Prop} {e : Value} {s' : Shared} (hp : PassesOwnAt M A A env E) (h : E e s') : notedBy M A env (cameBackBy M A env E) e s' := hp e s' h
theorem new_ofT {g g' h h' : Heap} {L a : Addr} {o : Obj} {own news : List (Addr × Obj)} {fs : List Addr} (hg : g = hideAll h (own.map (·.1))) (T : KtsTurn fs g g') (N : News g' L h' news) (hm : (a, o) ∈ news) (hne : a ∉ own.map (·.1)) : h.get? a = none := by
  subst hg
  cases e : h.get? a with
  | none => rfl
  | some o' =>
    obtain ⟨sl, h1⟩ := T.up (hideAll_get _ e hne)
    have := (N _ hm).2.2
    rw [h1] at this
    cases this
theorem call_ownG {M : Model} {c : Code} {R : Result → Shared → Prop} {A A₀ : Around} {s : Shared} {base h₀ : Heap} {outer : List Env} {L : Addr} {m : Str → Option Value} {env : Env} {news : List (Addr × Obj)} {K : Frag} {mg mb : Str → Option Value} {p : Program} {loose : List Str} {mean : ExcName → Option Value}
    (B : Below A₀ base outer h₀) (F : Fr h₀ L s.heap m) (X : K.In h₀) (T : Top p loose mean mg mb h₀) (N : News h₀ L s.heap news) (hA : A.frames = some (env :: outer)) (hf : env.frame = some L) (hke : env.scope.kind = .function)
    (h : ∀ G, G = hideAll s.heap (news.map (·.1)) → Fr h₀ L G m → Below A base (env :: outer) G → K.In G → Top p loose mean mg mb G → G.StaysIn s.heap → codeAny M A c R s) : codeAny M A c R s := by
  obtain ⟨FG, BG, st, -⟩ := groundX (R := fun _ _ => True) B F N hA hf hke
  exact h _ rfl FG BG (X.keeps st) (T.keeps st) (fun b o e => of_hideAll _ e)
noncomputable def markedOf (r : List Int) : List Int := if r[0]? = some 0 then [0, 1, 2, 3, 4] else markK r 7 0 0 []
section
variable {w : World} {p : Program} {loose : List Str} {mean : ExcName → Option Value} {mg mb : Str → Option Value} {dp un : Nat} {gd : Option (List Code)} {outs : List Env} {base h₀ : Heap} {s : Shared} {R : Result → Shared → Prop}
  (B : Below (AT dp un gd outs) base outs h₀) (X : (hd.heap_39 w.params).In h₀) (T : Top p loose mean mg mb h₀) (st : h₀.StaysIn s.heap) (hdp : dp + 18 < recursionLimit) (hu : un + 180 < cLine)
include B X T st hdp hu
theorem marked_spec {a : Addr} {vs : List Value} {is : List Int} {k0 : Nat} (XB : (hd.heap_39 w.params).In base) (TB : Top p loose mean mg mb base) (D : KtsDicts (outs.filterMap (·.frame)) h₀) (hI : IntsAre vs is) (hn : is.length = 4) (hb : ∀ y ∈ is, y = 127 ∨ (0 ≤ y ∧ y < 5)) (hg : AllBare s.gens) (N : Own h₀ s.heap [(a, lsO vs k0)])
    (hret : ∀ b ws k h' tk' gens', AllBare gens' → KeepsT (outs.filterMap (·.frame)) [] s.heap h' → h'.get? b = some (lsO ws k) → s.heap.get? b = none → IntsAre ws (markedOf is) → R (.ok (.ret (.ref b))) { s with heap := h', toks := tk', gens := gens' }) :
    codeAny (model PySem.Challenge.rw_wn0047_01.row.prog w) (AT dp un gd outs) (.call (.ref 175) ⟨[.ref a], []⟩) R s := by
  have XB0 := XB
  have X0 := X
  revert XB X; k_fill; intro X XB
  have D' := dicts_own B st N D
  k_dflt (refine' enter (binds := [(Str.ofString "ruler", Value.ref a)]) B X T st N ?k6 ?k7 ?k8 ?k9 ?kB ?_ ?c2 ?c3 ?c4 ?c5; (case k6 => k_is); (case k7 => k_is); (case k8 => k_room); (case k9 => exact BindsTo.of_eq rfl); (case c5 => decide); (case kB => exact locs rfl); (case c2 => exact rfl); (case c3 => exact rfl); (case c4 => exact rfl))
  intro g L' h₁ tk gh F' N' B' X' T' l1
  (try k_lt l1)
  rw [← gh] at D'
  k_steps
  unfold Stop
  refine wpAny_For ?_
  k_steps
  unfold Stop
  (rename News _ _ _ _ => N1)
  (rename Fr _ _ _ _ => F1)
  obtain ⟨lv, hlv⟩ : ∃ x, x = ledA N1 := ⟨_, rfl⟩
  dsimp only [ledA] at hlv
  subst hlv
  refine wpAny_call ?_
  refine call_ownG B' F1 X' T' N1 rfl rfl rfl fun G hGe FG BG XG TG stG => ?_
  k_dflt (refine' enterG (binds := [(Str.ofString "grouping", Value.ref a)]) XG TG stG ?k6 ?k7 ?k8 ?k9 ?kB ?_ ?c2 ?c3 ?c4 ?c5; (case k6 => k_is); (case k7 => k_is); (case k8 => k_room); (case k9 => exact BindsTo.of_eq rfl); (case c5 => decide); (case kB => exact locs rfl); (case c2 => exact rfl); (case c3 => exact rfl); (case c4 => exact rfl))
  intro h2 t2 t3 tk2 hns hk2
  obtain ⟨H, hHe⟩ : ∃ H, H = heapOfN N1 := ⟨_, rfl⟩
  dsimp only [heapOfN] at hHe
  subst hHe
  dsimp only at hns hk2 hGe stG ⊢
  obtain ⟨oG, hoG⟩ : ∃ oG, oG = ({ cls := .type "generator", data := .fields #[.int s.gens.size 0, .str (Str.ofString "_grouping_intervals") t2, .str (Str.ofString "_grouping_intervals") t3] } : Obj) := ⟨_, rfl⟩
  have hIG : ∀ h : Heap, h.get? h2.objs.size = some oG → h.IsGen h2.objs.size s.gens.size := fun h e => ⟨_, _, _, e, by rw [hoG], by rw [hoG], by rw [hoG]⟩
  rw [← hoG]
  have hfr : oG.isFreed = false := by rw [hoG]; rfl
  have hGet : (h2.push oG).get? h2.objs.size = some oG := Heap.get?_push_size _ hfr
  have hk3 : ∀ b o, H.get? b = some o → (h2.push oG).get? b = some o := fun b o e => Heap.get?_push_of_some _ (hk2 b o e)
  have hLgG : @LT.lt Nat _ H.objs.size h2.objs.size := hns.lt
  have hLLg : @LT.lt Nat _ L' H.objs.size := F1.ns.lt
  have hlvLg : @LT.lt Nat _ lv H.objs.size := Heap.lt_size (N1 _ (.head _)).1
  have haLg : @LT.lt Nat _ a H.objs.size := Heap.lt_size (N1 _ (.tail _ (.head _))).1
  have gNone : ∀ b, L' ≤ b → g.get? b = none := fun b hb => Heap.get?_none_of_le (Nat.le_trans F1.above hb)
  refine wpAny_pyIter_gen (g := s.gens.size) (hIG _ hGet) ?_
  by_cases hr0 : is[0]? = some 0
  · refine forLoop_step ?_
    refine pyNextG (n := 7) (R := fun _ s₀ res s' => ∃ e t vs' h' tk', res = .error (.ref e) ∧ s' = { s₀ with heap := h', toks := tk' } ∧ RaisedS base G (mEnv L' :: outs) e (.type "ValueError") t vs' [(a, lsO vs k0), (h2.objs.size, oG), (lv, lsO [] 0)] h' ∧ G.UpToSlots h') (Y := fun _ _ _ _ _ => False) rfl (T'.nolimit.keeps fun b o e => hk3 b o (F1.keep b o e)) (by k_room) (hIG _ hGet) Array.getElem?_push_size ?_ (fun _ _ _ _ h => h.elim) ?_
    · refine ⟨rfl, ?_⟩
      refine seg_err (P := ⟨is, vs, k0, a, h2.objs.size, L', lv, H.objs.size, G⟩) (oG := oG) (oM := lsO [] 0) (dp := dp + 1) (un := un + 3 + 1) (os0 := mEnv L' :: outs) BG XG TG (by k_extra "om") (by k_extra "om") hI hn hr0 (Fr.push ⟨hns, fun b o e => hk2 b o (stG b o e), Nat.le_of_eq (by rw [hGe]; exact hideAll_size _ _)⟩ oG) rfl ?_ ?_
      · intro q hq
        rcases List.mem_cons.mp hq with rfl | hq
        · exact ⟨hk3 _ _ (N1 _ (.tail _ (.head _))).1, Nat.ne_of_lt haLg, by rw [hGe]; exact hideAll_none _ (.tail _ (.head _))⟩
        rcases List.mem_cons.mp hq with rfl | hq
        · exact ⟨hGet, Nat.ne_of_gt hLgG, Heap.get?_none_of_le (by rw [hGe, hideAll_size]; exact Nat.le_of_lt hLgG)⟩
        · cases List.mem_singleton.mp hq
          exact ⟨hk3 _ _ (N1 _ (.head _)).1, Nat.ne_of_lt hlvLg, by rw [hGe]; exact hideAll_none _ (.head _)⟩
      · exact fun e t vs' h' tk' x1 x2 => ⟨e, t, vs', h', tk', rfl, rfl, x1, x2⟩
    · rintro x s₂ ⟨e, t, vs', h', tk', rfl, rfl, x1, x2⟩
      have x1' := x1
      obtain ⟨⟨B9, hB9, hBG9, hl9, hfl9, hnew9⟩, htup9⟩ := x1'
      obtain ⟨ob, hob, hobc⟩ := hfl9.there
      refine .inr ⟨e, ob, rfl, hob, hobc, hIG _ (hfl9.1 _ _ (hl9 (h2.objs.size, oG) (.tail _ (.head _))).1), ?_⟩
      have hbA : AllBare (((s.gens.push (.fresh (.func genBody (gEnv H.objs.size)))).setIfInBounds s.gens.size .running).setIfInBounds s.gens.size .finished) := bare_set (bare_set (hg.push rfl) rfl) rfl
      clear N1 F1 hIG hGet hns hk2 hk3 hoG hfr hfl9 hl9 hBG9 hB9 hnew9 htup9
      change RaisedS base G (_ :: outs) _ _ _ _ _ h' at x1
      change G.UpToSlots h' at x2
      refine passE (by passes_own) ?_
      change wpAny _ _ _ _ _ { s with heap := h', toks := tk', gens := ((s.gens.push (.fresh (.func genBody (gEnv H.objs.size)))).setIfInBounds s.gens.size .running).setIfInBounds s.gens.size .finished }
      generalize ((s.gens.push (.fresh (.func genBody (gEnv H.objs.size)))).setIfInBounds s.gens.size .running).setIfInBounds s.gens.size .finished = gens9 at hbA ⊢
      have hSS : mkS = mkS := rfl
      conv at hSS => rhs; whnf
      simp only [mEnv, hSS] at x1
      kts_caught
      k_steps
      (rename News _ _ _ _ => NN)
      (rename Fr _ _ _ _ => FF)
      (rename KtsTurn _ _ _ => TT)
      refine hret _ _ _ _ _ _ hbA (keepsT_as (as := []) gh N TT FF NN (by tb_rel)) (NN.get (.head _)) (new_ofT gh TT NN (.head _) (notin1 (by k_extra "om"))) ?_
      unfold markedOf
      rw [if_pos hr0]
      exact .cons _ _ (.cons _ _ (.cons _ _ (.cons _ _ (.cons _ _ .nil))))
  · have hne : goL is 0 none ≠ .err := by
      obtain ⟨v, tv, hv1, hv2⟩ := IntsAre.at' hI (k := 0) (by have := intsLen hI; omega)
      rw [goL_at hv2]
      have hv0 : ¬ v = 0 := fun e => hr0 (by rw [hv2, e])
      rw [if_neg hv0]
      split <;> exact nofun
    have hL5 := F1.ns
    obtain ⟨oL, esL, epL, hoL, hdL, hkL⟩ := hL5
    refine marked_loop (P := ⟨is, vs, k0, a, h2.objs.size, L', lv, H.objs.size, g⟩) (s₁ := s) (gi := s.gens.size) B' X' T' (by k_extra "om") (by k_extra "om") hI hb oG hIG ⟨by k_extra "om", hLLg, hlvLg, hLgG⟩ ?fin 5 0 rfl (h2.push oG) _ _ _ _ [] 0 [] 0 _ (hg.push rfl) Array.getElem?_push_size ?goes ((F1.keeps hk2).push oG) rfl rfl ?led .nil (by k_extra "om") rfl rfl
    case led =>
      intro q hq
      rcases List.mem_cons.mp hq with rfl | hq
      · exact ⟨hk3 _ _ (N1 _ (.head _)).1, (N1 _ (.head _)).2⟩
      rcases List.mem_cons.mp hq with rfl | hq
      · exact ⟨hk3 _ _ (N1 _ (.tail _ (.head _))).1, (N1 _ (.tail _ (.head _))).2⟩
      · cases List.mem_singleton.mp hq
        exact ⟨hGet, Nat.ne_of_gt (Nat.lt_trans hLLg hLgG), gNone _ (Nat.le_of_lt (Nat.lt_trans hLLg hLgG))⟩
    case goes =>
      refine ⟨rfl, ?_⟩
      refine seg_start (P := ⟨is, vs, k0, a, h2.objs.size, L', lv, H.objs.size, g⟩) (oG := oG) (oL := oL) (oM := lsO [] 0) (dp := dp + 1) (un := un + 3 + 1) (os0 := mEnv L' :: outs) X' T' (by k_extra "om") (by k_extra "om") hI hn hne (Fr.push ⟨hns, fun b o e => hk2 b o (F1.keep b o e), Nat.le_trans F1.above (Nat.le_of_lt hLLg)⟩ oG) rfl ?_ (fun q _ o e => e)
      intro q hq
      rcases List.mem_cons.mp hq with rfl | hq
      · exact ⟨hk3 _ _ (N1 _ (.tail _ (.head _))).1, Nat.ne_of_lt haLg, (N1 _ (.tail _ (.head _))).2.2⟩
      rcases List.mem_cons.mp hq with rfl | hq
      · exact ⟨hGet, Nat.ne_of_gt hLgG, gNone _ (Nat.le_of_lt (Nat.lt_trans hLLg hLgG))⟩
      rcases List.mem_cons.mp hq with rfl | hq
      · exact ⟨hk3 _ _ hoL, Nat.ne_of_lt hLLg, kts_self F1⟩
      · cases List.mem_singleton.mp hq
        exact ⟨hk3 _ _ (N1 _ (.head _)).1, Nat.ne_of_lt hlvLg, (N1 _ (.head _)).2.2⟩
    case fin =>
      intro h tk gens m ws nn js hbA FF hmm NN hW hjs
      clear hoL hIG hGet hns hk2 hk3 hoG hfr
      have F3 := fr_set1 (Str.ofString "marked") FF (fun _ _ => rfl)
      rw [hmm] at F3
      clear FF F1 N1
      dsimp only
      k_steps
      refine hret _ _ _ _ _ _ hbA (keeps_as (as := []) gh N F3 NN (by tb_rel)).toT (NN.get (.head _)) (new_of gh NN (.head _) (notin1 (by k_extra "om"))) ?_
      unfold markedOf
      rw [if_neg hr0, ← hjs]
      exact hW
end
-- P1
noncomputable def firstN (r : List Int) : List Nat := (firstOf r).map Int.toNat
noncomputable def rulerB (r : List Int) : Bool := (markedOf r == firstOf r) && (firstOf r == (firstN r).map fun x : Nat => (x : Int)) && decide ((firstN r).Nodup) && (firstN r).all (fun x => decide (x < 5)) && decide ((firstN r).length ≤ 5)
noncomputable def rulerA (a : Int) : Bool := [0, 1, 2, 3, 4, 127].all fun (b : Int) => [0, 1, 2, 3, 4, 127].all fun (c : Int) => [0, 1, 2, 3, 4, 127].all fun (d : Int) => rulerB [a, b, c, d]
theorem ruler0 : rulerA 0 = true := by decide +kernel
theorem ruler1 : rulerA 1 = true := by decide +kernel
theorem ruler2 : rulerA 2 = true := by decide +kernel
theorem ruler3 : rulerA 3 = true := by decide +kernel
theorem ruler4 : rulerA 4 = true := by decide +kernel
theorem ruler127 : rulerA 127 = true := by decide +kernel
theorem ruler_all : ([0, 1, 2, 3, 4, 127].all rulerA) = true := by simp only [List.all_cons, List.all_nil, ruler0, ruler1, ruler2, ruler3, ruler4, ruler127, Bool.and_self]
noncomputable def figs6 : List Int := [0, 1, 2, 3, 4, 127]
theorem fig_mem {y : Int} (h : 0 ≤ y ∧ y < 6) : fig y ∈ [0, 1, 2, 3, 4, 127] := by
  have : y = 0 ∨ y = 1 ∨ y = 2 ∨ y = 3 ∨ y = 4 ∨ y = 5 := by k_extra "om"
  rcases this with rfl | rfl | rfl | rfl | rfl | rfl <;> decide
structure RulerOk (r : List Int) : Prop where
  same : markedOf r = firstOf r
  nats : firstOf r = (firstN r).map fun x : Nat => (x : Int)
  nodup : (firstN r).Nodup
  lt : ∀ x ∈ firstN r, x < 5
  len : (firstN r).length ≤ 5
theorem ruler_ok {a b c d : Int} (ha : a ∈ [0, 1, 2, 3, 4, 127]) (hb : b ∈ [0, 1, 2, 3, 4, 127]) (hc : c ∈ [0, 1, 2, 3, 4, 127]) (hd : d ∈ [0, 1, 2, 3, 4, 127]) : RulerOk [a, b, c, d] := by
  have h0 := List.all_eq_true.mp ruler_all a ha
  unfold rulerA at h0
  have h := List.all_eq_true.mp (List.all_eq_true.mp (List.all_eq_true.mp h0 b hb) c hc) d hd
  unfold rulerB at h
  simp only [Bool.and_eq_true, beq_iff_eq, decide_eq_true_eq, List.all_eq_true] at h
  obtain ⟨⟨⟨⟨h1, h2⟩, h3⟩, h4⟩, h5⟩ := h
  exact ⟨h1, h2, h3, h4, h5⟩
-- P4
theorem last_all : ([0, 1, 2, 3, 4, 5].all fun (i : Int) => [0, 1, 2, 3, 4, 5].all fun (j : Int) => [0, 1, 2, 3, 4].all fun (n : Nat) => ((nm3 i j n).cps.toList[2]? == some (99 + n)) && PyData.strOk (nm3 i j n)) = true := by decide +kernel
theorem good_last {x : Str} {n : Nat} (h : GoodNm x n) : x.cps.toList[2]? = some (99 + n) ∧ PyData.strOk x = true := by
  obtain ⟨i, j, hi, hj, hn, rfl⟩ := h
  have h3 := List.all_eq_true.mp (List.all_eq_true.mp (List.all_eq_true.mp last_all i (in6 hi)) j (in6 hj)) n (in5 hn)
  simp only [Bool.and_eq_true, beq_iff_eq] at h3
  exact h3
noncomputable abbrev gtN (nm : Nat → Str) (a b : Nat) : Bool := decide ((nm b).cps.toList < (nm a).cps.toList)
theorem good_ne {nm : Nat → Str} (hg : ∀ k, k < 5 → GoodNm (nm k) k) {a b : Nat} (ha : a < 5) (hb : b < 5) (h : nm a = nm b) : a = b := by
  have h1 := (good_last (hg a ha)).1
  have h2 := (good_last (hg b hb)).1
  rw [h, h2] at h1
  have := Option.some.inj h1
  omega
theorem str_ext {x y : Str} (h : x.cps.toList = y.cps.toList) : x = y := by
  obtain ⟨a⟩ := x
  obtain ⟨b⟩ := y
  have : a = b := Array.toList_inj.mp h
  rw [this]
theorem best_spec {f : Nat → List Nat} : ∀ n, ∀ j ≤ n, ¬ (f (argBest (fun i j => decide (f j < f i)) n) < f j)
  | 0, j, hj => by
    have : j = 0 := by k_extra "om"
    subst this
    exact List.lt_irrefl _
  | n + 1, j, hj => by
    have ih := best_spec (f := f) n
    have e : argBest (fun i j => decide (f j < f i)) (n + 1) = if decide (f (argBest (fun i j => decide (f j < f i)) n) < f (n + 1)) = true then n + 1 else argBest (fun i j => decide (f j < f i)) n := rfl
    rw [e]
    by_cases hb : f (argBest (fun i j => decide (f j < f i)) n) < f (n + 1)
    · rw [if_pos (decide_eq_true hb)]
      by_cases hj' : j = n + 1
      · subst hj'; exact List.lt_irrefl _
      · have := ih j (by k_extra "om")
        rw [List.not_lt] at this ⊢
        exact List.le_trans this (List.le_of_lt hb)
    · rw [if_neg (by simpa using hb)]
      by_cases hj' : j = n + 1
      · subst hj'; exact hb
      · exact ih j (by k_extra "om")
theorem ring_names {nm : Nat → Str} {first : List Nat} (hg : ∀ k, k < 5 → GoodNm (nm k) k) (hnd : first.Nodup) (hlt : ∀ x ∈ first, x < 5) : Ring first (gtN nm) (chiefOf nm first) := by
  refine ⟨hlt, hnd, fun s => decide_eq_false (List.lt_irrefl _), fun s n hs hn hne => ?_, fun h => ?_⟩
  · by_cases h1 : (nm n).cps.toList < (nm s).cps.toList
    · have h2 : ¬ (nm s).cps.toList < (nm n).cps.toList := fun h2 => List.lt_irrefl _ (List.lt_trans h1 h2)
      show decide _ = !decide _
      rw [decide_eq_true h1, decide_eq_false h2]; rfl
    · have h2 : (nm s).cps.toList < (nm n).cps.toList := by
        rw [List.not_lt] at h1
        rcases Classical.em ((nm s).cps.toList < (nm n).cps.toList) with h2 | h2
        · exact h2
        · rw [List.not_lt] at h2
          exact absurd (good_ne hg hs hn (str_ext (List.le_antisymm h1 h2))) hne
      show decide _ = !decide _
      rw [decide_eq_false h1, decide_eq_true h2]; rfl
  · have h0 : 0 < (first.map nm).length := by rw [List.length_map]; exact List.length_pos_iff.mpr h
    have h1 := best_lt h0
    have hb : bestS (first.map nm) < first.length := by rw [List.length_map] at h1; exact h1
    have hc : chiefOf nm first = first[bestS (first.map nm)] := by
      have hk := hlt _ (List.getElem_mem hb)
      unfold chiefOf
      rw [List.getElem?_map, List.getElem?_eq_getElem hb]
      show ([0, 1, 2, 3, 4].map nm).idxOf (nm first[bestS (first.map nm)]) = first[bestS (first.map nm)]
      generalize first[bestS (first.map nm)] = k at hk
      have hx : k < ([0, 1, 2, 3, 4].map nm).length := hk
      have hm : nm k ∈ [0, 1, 2, 3, 4].map nm := List.mem_map.mpr ⟨k, in5 hk, rfl⟩
      have hl := List.idxOf_lt_length_iff.mpr hm
      have he := List.getElem_idxOf hl
      have hl5 : ([0, 1, 2, 3, 4].map nm).idxOf (nm k) < 5 := hl
      generalize ([0, 1, 2, 3, 4].map nm).idxOf (nm k) = z at hl he hl5
      have hz : nm z = nm k := by
        rw [← he]
        rcases five hl5 with rfl | rfl | rfl | rfl | rfl <;> rfl
      exact good_ne hg hl5 hk hz
    rw [hc]
    refine ⟨List.getElem_mem hb, fun k hk hne => ?_⟩
    obtain ⟨j, hj, rfl⟩ := List.mem_iff_getElem.mp hk
    have hs := best_spec (f := fun i => ((first.map nm)[i]?.getD ⟨#[]⟩).cps.toList) ((first.map nm).length - 1) j (by rw [List.length_map]; omega)
    change ¬ (((first.map nm)[bestS (first.map nm)]?.getD ⟨#[]⟩).cps.toList < ((first.map nm)[j]?.getD ⟨#[]⟩).cps.toList) at hs
    rw [List.getElem?_map, List.getElem?_eq_getElem hb, List.getElem?_map, List.getElem?_eq_getElem hj] at hs
    change ¬ ((nm first[bestS (first.map nm)]).cps.toList < (nm first[j]).cps.toList) at hs
    refine decide_eq_true ?_
    rcases Classical.em ((nm first[j]).cps.toList < (nm first[bestS (first.map nm)]).cps.toList) with h2 | h2
    · exact h2
    · rw [List.not_lt] at h2 hs
      exact absurd (good_ne hg (hlt _ (List.getElem_mem hj)) (hlt _ (List.getElem_mem hb)) (str_ext (List.le_antisymm hs h2))) hne
-- R8
section
variable {w : World} {p : Program} {loose : List Str} {mean : ExcName → Option Value} {mg mb : Str → Option Value} {d u : Nat} {gd : Option (List Code)} {outs : List Env} {env : Env} {base g : Heap} {s : Shared} {R : Result → Shared → Prop} {A₀ : Around} {L : Addr} {m : Names} {ex led : Led} {Z : RunP} {S : ASt}
theorem token_callX {k : Nat} {l : Lex} (B : Below A₀ base outs g) (X : (hd.heap_39 w.params).In g) (T : Top p loose mean mg mb g) (hdp : d + 18 < recursionLimit) (hu : u + 180 < cLine) (hf : env.frame = some L) (hke : env.scope.kind = .function) (Cd : CodeHd base 148 144)
    (O : Z.Ok) (F : Fr g L s.heap m) (N : News g L s.heap (ex ++ led)) (hne : ∀ p ∈ led, ∀ q ∈ ex, p.1 ≠ q.1) (H : LedOk w.params Z S led) (hk : k < 5) (hl : Z.ls[k]? = some l) (hpl : (S.bx k).pend.length ≤ 1000)
    (h : ∀ y b' t h' tk' led', ((S.bx k).take = none ∧ y = Str.ofString "" ∧ b' = S.bx k) ∨ (∃ x, (S.bx k).take = some (x, b') ∧ y = strL Z.nm x ∧ x.snd < 5) → Fr g L h' m → News g L h' (ex ++ led') → (∀ p ∈ led', ∀ q ∈ ex, p.1 ≠ q.1) → LedOk w.params Z { S with bx := upd S.bx k b' } led' → R (.ok (.ret (.str y t))) { s with heap := h', toks := tk' }) :
    codeAny (model PySem.Challenge.rw_wn0047_01.row.prog w) (AT d u gd (env :: outs)) (.call (.ref 42) ⟨[.ref l.x], []⟩) R s := by
  have hlm : l ∈ Z.ls := List.mem_of_getElem? hl
  obtain ⟨ok, ap⟩ := O.lex l hlm
  have Nl : News g L s.heap led := fun q hq => N q (List.mem_append_right _ hq)
  obtain ⟨l', hl', pm, u1, ln, pbs, pbn, sgs, sgn, hm, hp, hs⟩ := H.box k hk
  rw [hl] at hl'
  cases hl'
  have adrs : l.sg ∈ l.adr ∧ l.pb ∈ l.adr ∧ l.dx ∈ l.adr := by unfold Lex.adr; simp
  -- what all four ways share
  have fin : ∀ (as : List Addr) (f : Addr → Obj) (h8 : Heap) (tk8 : Nat) (y : Str) (t : Tok) (b' : AB), (∀ a ∈ as, a = l.sg ∨ a = l.pb ∨ a = l.dx) → Keeps as s.heap h8 → (∀ a ∈ as, h8.get? a = some (f a)) → BoxOk w.params Z.nm l (updL led as f) b' → (∀ x ∈ b'.letters, x.snd < 5) →
      (((S.bx k).take = none ∧ y = Str.ofString "" ∧ b' = S.bx k) ∨ (∃ x, (S.bx k).take = some (x, b') ∧ y = strL Z.nm x ∧ x.snd < 5)) → R (.ok (.ret (.str y t))) { s with heap := h8, toks := tk8 } := by
    intro as f h8 tk8 y t b' has k9 hget hb hsn hc
    have hsub : ∀ a ∈ as, ∃ oo, (a, oo) ∈ led ∧ oo.cls ≠ .type "tuple" := fun a ha => by
      rcases has a ha with rfl | rfl | rfl
      · exact ⟨_, hm (l.sg, lsO sgs sgn) (by k_mem), by intro e; injection e with e; exact absurd e (by decide)⟩
      · exact ⟨_, hm (l.pb, lsO pbs pbn) (by k_mem), by intro e; injection e with e; exact absurd e (by decide)⟩
      · exact ⟨_, hm (l.dx, lexD w.params l.k1 l.k2 l.k3 l.k4 u1 l.u3 ln (.ref l.st) (.ref l.pb)) (by k_mem), by intro e; injection e with e; exact absurd e (by decide)⟩
    have F8 := fr_keeps F k9 (fun a ha => by
      obtain ⟨oo, h1, -⟩ := hsub a ha
      exact (Nl _ h1).2)
    have N8 := news_updL Nl k9 hget
    have hI : ∀ p ∈ ex, p.1 ∉ as := fun p hp hq => by
      obtain ⟨oo, h1, -⟩ := hsub p.1 hq
      exact hne _ h1 _ hp rfl
    refine h y b' t h8 tk8 _ hc F8 (fun q hq => ?_) (updL_offs (P := fun a => ∀ q ∈ ex, a ≠ q.1) hne) (led_box O Nl H hk hl (fun a ha => ?_) (fun a ha oo hoo => ?_) hb hsn)
    · rcases List.mem_append.mp hq with hq | hq
      · have z := N q (List.mem_append_left _ hq)
        exact ⟨k9 _ _ (hI q hq) z.1, z.2⟩
      · exact N8 q hq
    · rcases has a ha with rfl | rfl | rfl
      · exact adrs.1
      · exact adrs.2.1
      · exact adrs.2.2
    · obtain ⟨o1, h1, h2⟩ := hsub a ha
      rw [one_obj Nl hoo h1]; exact h2
  refine call_ownC B F X T N rfl hf hke fun h9 B9 X9 T9 s9 N0 => ?_
  have ND : @Ne Nat l.sg l.pb ∧ @Ne Nat l.sg l.dx ∧ @Ne Nat l.pb l.dx := by
    obtain ⟨a1, a2, a3, a4, a5, a6, a7, a8⟩ := ap
    omega
  obtain ⟨nd1, nd2, nd3⟩ := ND
  have hsn := H.snd k hk
  cases hpe : (S.bx k).pend with
  | cons x r =>
    rw [hpe] at hp hpl
    cases hp with
    | cons hv hr =>
      rename_i v pbs'
      obtain ⟨t, rfl⟩ := hv
      refine token_push B9 X9 T9 s9 (by k_extra "om") (by k_extra "om") (own_sub N0 fun q hq => List.mem_append_right _ (hm q hq)) ap (by rw [All2.length hr]; simp at hpl; omega) fun h8 tk8 k9 e1 => ?_
      have htk : (S.bx k).take = some (x, ⟨r, (S.bx k).src⟩) := by unfold AB.take; rw [hpe]
      refine fin [l.pb] (fun _ => lsO pbs' (pbn + 1)) h8 tk8 _ t ⟨r, (S.bx k).src⟩ (fun a ha => .inr (.inl (List.mem_singleton.mp ha))) k9 (fun a ha => by rw [List.mem_singleton.mp ha]; exact e1)
        (box_self (b := ⟨r, (S.bx k).src⟩) ap hm (fun a ha => .inr (.inl (List.mem_singleton.mp ha))) (.inr ⟨fun q => nd1 (List.mem_singleton.mp q), rfl, rfl⟩) (.inl ⟨.head _, rfl⟩) (.inr ⟨fun q => nd3 (List.mem_singleton.mp q).symm, rfl, rfl⟩) hr hs)
        (fun y hy => hsn y (by rw [take_some htk]; exact .tail _ hy)) (.inr ⟨x, htk, rfl, hsn x (by rw [take_some htk]; exact .head _)⟩)
  | nil =>
    rw [hpe] at hp
    cases hp
    have read : ∀ (h8 : Heap) (tk8 : Nat) (y : Str) (t u1' : Tok) (ln' : Int) (k' : Nat) (b' : AB), Keeps [l.sg, l.dx] s.heap h8 → h8.get? l.sg = some (lsO [] k') → h8.get? l.dx = some (lexD w.params l.k1 l.k2 l.k3 l.k4 u1' l.u3 ln' (.ref l.st) (.ref l.pb)) → b'.pend = [] → b'.src = none →
        (((S.bx k).take = none ∧ y = Str.ofString "" ∧ b' = S.bx k) ∨ (∃ x, (S.bx k).take = some (x, b') ∧ y = strL Z.nm x ∧ x.snd < 5)) → R (.ok (.ret (.str y t))) { s with heap := h8, toks := tk8 } := by
      intro h8 tk8 y t u1' ln' k' b' k9 e1 e2 hb1 hb2 hc
      have f1 : (fun a : Addr => if a = l.sg then lsO [] k' else lexD w.params l.k1 l.k2 l.k3 l.k4 u1' l.u3 ln' (.ref l.st) (.ref l.pb)) l.sg = lsO [] k' := if_pos rfl
      have f2 : (fun a : Addr => if a = l.sg then lsO [] k' else lexD w.params l.k1 l.k2 l.k3 l.k4 u1' l.u3 ln' (.ref l.st) (.ref l.pb)) l.dx = lexD w.params l.k1 l.k2 l.k3 l.k4 u1' l.u3 ln' (.ref l.st) (.ref l.pb) := if_neg (Ne.symm nd2)
      have has : ∀ a ∈ [l.sg, l.dx], a = l.sg ∨ a = l.pb ∨ a = l.dx := fun a ha => by
        rcases List.mem_cons.mp ha with z | ha
        · exact .inl z
        · exact .inr (.inr (List.mem_singleton.mp ha))
      refine fin [l.sg, l.dx] (fun a : Addr => if a = l.sg then lsO [] k' else lexD w.params l.k1 l.k2 l.k3 l.k4 u1' l.u3 ln' (.ref l.st) (.ref l.pb)) h8 tk8 y t b' has k9 (fun a ha => ?_)
        (box_self (pbs' := []) (sgs' := []) (b := b') ap hm has (.inl ⟨.head _, f1⟩) (.inr ⟨fun q => ?_, rfl, rfl⟩) (.inl ⟨.tail _ (.head _), f2⟩) (by rw [hb1]; exact .nil) (by rw [hb2]; exact .inl rfl)) (fun x hx => by unfold AB.letters at hx; rw [hb1, hb2] at hx; exact nomatch hx) hc
      · rcases List.mem_cons.mp ha with rfl | ha
        · exact e1.trans (congrArg some f1.symm)
        · rw [List.mem_singleton.mp ha]; exact e2.trans (congrArg some f2.symm)
      · rcases List.mem_cons.mp q with z | q
        · exact nd1 z.symm
        · exact nd3 (List.mem_singleton.mp q)
    cases hsr : (S.bx k).src with
    | none =>
      have htk : (S.bx k).take = none := by unfold AB.take; rw [hpe, hsr]
      rw [hsr] at hs
      rcases hs with rfl | hs
      · exact token_end B9 X9 T9 s9 (by k_extra "om") (by k_extra "om") (own_sub N0 fun q hq => List.mem_append_right _ (hm q hq)) ok ap Cd fun t u1' ln' k' h8 tk8 k9 e1 e2 => read h8 tk8 _ t u1' ln' k' _ k9 e1 e2 hpe hsr (.inl ⟨htk, rfl, rfl⟩)
      · cases hs with
        | cons hv hr =>
          cases hr
          obtain ⟨tc, rfl⟩ := hv
          exact token_blank B9 X9 T9 s9 (by k_extra "om") (by k_extra "om") (own_sub N0 fun q hq => List.mem_append_right _ (hm q hq)) ok ap Cd fun t u1' ln' k' h8 tk8 k9 e1 e2 => read h8 tk8 _ t u1' ln' k' _ k9 e1 e2 hpe hsr (.inl ⟨htk, rfl, rfl⟩)
    | some x =>
      have htk : (S.bx k).take = some (x, ⟨[], none⟩) := by unfold AB.take; rw [hpe, hsr]
      have hx5 := hsn x (by rw [take_some htk]; exact .head _)
      rw [hsr] at hs
      cases x with
      | td s' => exact hs.elim
      | nm s' v =>
        obtain ⟨b2, hc⟩ := hs
        have hgd := O.good s' hx5
        cases b2 with
        | true =>
          obtain ⟨cs, e, hq, hlen⟩ := tok_quoted hgd v
          rw [e] at hc
          cases hc with
          | cons hv hr =>
            obtain ⟨tc, rfl⟩ := hv
            refine token_quoted B9 X9 T9 s9 (by k_extra "om") (by k_extra "om") (own_sub N0 fun q hq => List.mem_append_right _ (hm q hq)) ok ap Cd hr hq (by k_extra "om") fun t u1' ln' vs' k' h8 tk8 k9 hcr e1 e2 => ?_
            cases hcr
            rw [str_eta]
            exact read h8 tk8 _ t u1' ln' k' _ k9 e1 e2 rfl rfl (.inr ⟨_, htk, rfl, hx5⟩)
        | false =>
          obtain ⟨cs, e, hq, hlen⟩ := tok_plain hgd v
          rw [e] at hc
          cases hc with
          | cons hv hr =>
            obtain ⟨tc, rfl⟩ := hv
            refine token_plain B9 X9 T9 s9 (by k_extra "om") (by k_extra "om") (by decide) (own_sub N0 fun q hq => List.mem_append_right _ (hm q hq)) ok ap Cd hr hq (by k_extra "om") fun t u1' ln' vs' k' h8 tk8 k9 hcr e1 e2 => ?_
            cases hcr
            rw [str_eta]
            exact read h8 tk8 _ t u1' ln' k' _ k9 e1 e2 rfl rfl (.inr ⟨_, htk, rfl, hx5⟩)
end
-- W1
section
theorem lines55 : True := by
  k_with_none
  k_with "in" => first | with_reducible assumption | exact And.left (by with_reducible assumption) | exact And.left (And.right (by with_reducible assumption)) | exact And.left (And.right (And.right (by with_reducible assumption))) | exact And.left (And.right (And.right (And.right (by with_reducible assumption)))) | exact And.left (And.right (And.right (And.right (And.right (by with_reducible assumption))))) | exact And.left (And.right (And.right (And.right (And.right (And.right (by with_reducible assumption)))))) | exact And.left (And.right (And.right (And.right (And.right (And.right (And.right (by with_reducible assumption))))))) | exact And.left (And.right (And.right (And.right (And.right (And.right (And.right (And.right (by with_reducible assumption)))))))) | exact And.left (And.right (And.right (And.right (And.right (And.right (And.right (And.right (And.right (by with_reducible assumption))))))))) | exact And.left (And.right (And.right (And.right (And.right (And.right (And.right (And.right (And.right (And.right (by with_reducible assumption)))))))))) | exact And.left (And.right (And.right (And.right (And.right (And.right (And.right (And.right (And.right (And.right (And.right (by with_reducible assumption))))))))))) | exact And.left (And.right (And.right (And.right (And.right (And.right (And.right (And.right (And.right (And.right (And.right (And.right (by with_reducible assumption)))))))))))) | exact And.left (And.right (And.right (And.right (And.right (And.right (And.right (And.right (And.right (And.right (And.right (And.right (And.right (by with_reducible assumption))))))))))))) | exact And.left (And.right (And.right (And.right (And.right (And.right (And.right (And.right (And.right (And.right (And.right (And.right (And.right (And.right (by with_reducible assumption)))))))))))))) | exact And.left (And.right (And.right (And.right (And.right (And.right (And.right (And.right (And.right (And.right (And.right (And.right (And.right (And.right (And.right (by with_reducible assumption))))))))))))))) | exact And.right (by with_reducible assumption) | exact And.right (And.right (by with_reducible assumption)) | exact And.right (And.right (And.right (by with_reducible assumption))) | exact And.right (And.right (And.right (And.right (by with_reducible assumption)))) | exact And.right (And.right (And.right (And.right (And.right (by with_reducible assumption))))) | exact And.right (And.right (And.right (And.right (And.right (And.right (by with_reducible assumption)))))) | exact And.right (And.right (And.right (And.right (And.right (And.right (And.right (by with_reducible assumption))))))) | exact And.right (And.right (And.right (And.right (And.right (And.right (And.right (And.right (by with_reducible assumption)))))))) | exact And.right (And.right (And.right (And.right (And.right (And.right (And.right (And.right (And.right (by with_reducible assumption))))))))) | exact And.right (And.right (And.right (And.right (And.right (And.right (And.right (And.right (And.right (And.right (by with_reducible assumption)))))))))) | exact And.right (And.right (And.right (And.right (And.right (And.right (And.right (And.right (And.right (And.right (And.right (by with_reducible assumption))))))))))) | exact And.right (And.right (And.right (And.right (And.right (And.right (And.right (And.right (And.right (And.right (And.right (And.right (by with_reducible assumption)))))))))))) | exact And.right (And.right (And.right (And.right (And.right (And.right (And.right (And.right (And.right (And.right (And.right (And.right (And.right (by with_reducible assumption))))))))))))) | exact And.right (And.right (And.right (And.right (And.right (And.right (And.right (And.right (And.right (And.right (And.right (And.right (And.right (And.right (by with_reducible assumption))))))))))))))
  k_with "lt0" => first | with_reducible assumption | exact Nat.lt_trans (by with_reducible assumption) (by k_extra "lt0")
  k_with "lt" => first | k_extra "in" | exact Nat.lt_trans (by k_extra "in") (by k_extra "lt")
  k_with "ne0" => first | with_reducible assumption | exact Ne.symm (by with_reducible assumption) | exact Nat.succ_ne_self _ | exact Ne.symm (Nat.succ_ne_self _) | (refine Nat.ne_of_lt ?_; k_extra "lt0") | (refine Nat.ne_of_gt ?_; k_extra "lt0")
  k_with "ne1" => first | k_extra "in" | (refine Ne.symm ?_; k_extra "in") | (refine Nat.ne_of_lt ?_; k_extra "lt") | (refine Nat.ne_of_gt ?_; k_extra "lt")
  k_with "ne2" => first | (refine Nat.ne_of_lt ?_; k_extra "lt0") | (refine Nat.ne_of_gt ?_; k_extra "lt0") | (refine Nat.ne_of_lt (And.left (by with_reducible assumption)))  | (refine Nat.ne_of_gt (And.left (by with_reducible assumption))) | (refine Nat.ne_of_lt (Nat.lt_trans (And.right (by with_reducible assumption)) ?_); k_extra "lt0") | (refine Nat.ne_of_lt (And.right (by with_reducible assumption))) | (refine Nat.ne_of_gt (Nat.lt_trans ?_ (And.left (by with_reducible assumption))); k_extra "lt0")
  k_with "ne" => first | k_extra "ne0" | (refine Or.elim (by with_reducible assumption : @LT.lt Nat _ _ _ ∨ @LT.lt Nat _ _ _ ∧ @LT.lt Nat _ _ _) (fun q9 => ?_) (fun q9 => ?_); (all_goals k_extra "ne2")) | k_extra "ne1"
  k_with "ifs" => first | with_reducible rfl | exact Eq.trans (if_neg (by assumption)) (by k_extra "ifs")
  k_with "up" => first | exact up2 (by with_reducible assumption) rfl | exact up1 (by with_reducible assumption) rfl | exact up3 (by with_reducible assumption) rfl | exact up4 (by with_reducible assumption) rfl | exact up5 (by with_reducible assumption) rfl
  k_with "om" => first | with_reducible assumption | exact Nat.succ_pos _ | (with_reducible show @LT.lt Nat _ _ _; (try dsimp only); first | k_extra "lt0" | k_extra "up" | k_extra "lt") | (with_reducible show @Ne Nat _ _; k_extra "ne") | (with_reducible show @LT.lt Nat _ _ _ ∧ @LT.lt Nat _ _ _; refine And.intro ?_ ?_ <;> k_extra "om") | (with_reducible show @Eq Nat _ _; first | exact Nat.add_sub_add_right 6 1 _ | exact (Nat.add_sub_add_right 6 1 _).symm | exact Nat.succ_sub (by omega) | exact (Nat.succ_sub (by omega)).symm | exact Nat.sub_sub_self (by omega)) | omega
  k_with "k_room" => first | k_extra "up" | ((try simp only [depth_under_make, depth_under_kw, depth_in1, depth_deeper, depth_caller]); omega)
  k_with "tb_start" => first | assumption | omega | (simp only [List.length_cons, List.length_nil, List.length_append]; omega)
  k_with "tb_rel" => repeat' (first | exact List.forall_mem_nil _ | refine List.forall_mem_cons.mpr ⟨by first | exact Or.inr (by k_mem) | exact Or.inl (by simp), ?_⟩)
  k_with "k_units" => first | k_extra "up" | ((try simp only [units_in1, units_deeper, Around.mark_units, units_caller]); omega)
  k_with "call type:list" => (k_here; (with_reducible show wpAny _ _ (call (Value.type "list") [Value.str _ _]) _ _ _); k_dflt (refine' list_strN ?h ?F ?N ?z ?_; (case h => rfl); (case F => k_asm); (case N => k_asm); (case z => exact Nat.le_trans (by assumption) (Nat.le_of_ble_eq_true rfl)); k_whole); intro l₉ h₉ tk₉ vs₉ k₉ F₉ N₉ l1₉ hc₉; (try k_lt l1₉); (try k_sweep))
  k_with "truthy ref" => (k_here; k_dflt (refine' truthy_ls ?N ?m ?z ?_; (case N => k_asm); (case m => k_mem); (case z => tb_start)); (intro tk₉; (try dsimp only [List.isEmpty_cons, List.isEmpty_nil, Bool.not_false, Bool.not_true])))
  k_with "call builtin:list.pop" => (k_here; (with_reducible show wpAny _ _ (call (Value.builtin "list.pop") [Value.ref _, Value.int 0 _]) _ _ _); k_dflt (refine' pop0_N ?F ?N ?U ?z ?_; (case F => k_asm); (case N => k_asm); (case U => k_upd); (case z => tb_start)); (intro h₉ F₉ N₉; (try k_sweep)))
  k_with "exec For Name Name cons nil" => refine Stop.go ?_
  k_with "exec For Name Call cons nil" => refine Stop.go ?_
  k_with "CompSrc" => refine Stop.go ?_
  k_with "CompSrcT" => refine Stop.go ?_
  k_with "eval Name" => ((with_reducible show wpAny _ _ (eval (Expr.Name _ _) (compEnvC _ _ _ _)) _ _ _); first
  | refine LCgL.ld_built (by k_asm) (by k_asm) (by k_asm) (by k_is) (by boot_by_name) (by decide) ?_
  | refine LCgL.ld_global (by k_asm) (by k_asm) (by k_asm) (by k_is) ?_
  | refine LCgL.ld_own (by k_asm) (by k_mem) (by assumption) (by assumption) ?_)
  k_with "subscriptTail Name Name ref int" => ((with_reducible show wpAny _ _ (subscriptTail _ _ (Value.ref _) (Value.int _ _)) _ _ _); k_dflt (refine' item_ld ?N ?m ?h0 ?h1 ?hx ?_ ?hs; (case N => k_asm); (case hx => with_reducible assumption); (case m => k_mem); (case h0 => k_extra "om"); (case h1 => k_extra "om"); (case hs => with_unfolding_all rfl)))
  k_with "subscriptTail Name Constant ref int" => ((with_reducible show wpAny _ _ (subscriptTail _ _ (Value.ref _) (Value.int _ _)) _ _ _); k_dflt (refine' item_ld ?N ?m ?h0 ?h1 ?hx ?_ ?hs; (case N => k_asm); (case hx => with_reducible assumption); (case m => k_mem); (case h0 => k_extra "om"); (case h1 => k_extra "om"); (case hs => with_unfolding_all rfl)))
  k_with "compareOp Eq ref ref" => refine Stop.go ?_
  k_with "call ref" => ((with_reducible show wpAny _ _ (call (Value.ref 128) _) _ _ _); refine Stop.go ?_)
  k_with "call ref" => ((with_reducible show wpAny _ _ (call (Value.ref 135) _) _ _ _); refine Stop.go ?_)
  k_with "call ref" => ((with_reducible show wpAny _ _ (call (Value.ref 161) _) _ _ _); refine Stop.go ?_)
  k_with "call ref" => ((with_reducible show wpAny _ _ (call (Value.ref 192) _) _ _ _); refine Stop.go ?_)
  k_with "call ref" => ((with_reducible show wpAny _ _ (call (Value.ref 175) _) _ _ _); refine Stop.go ?_)
  k_with "call ref" => ((with_reducible show wpAny _ _ (call (Value.ref 156) _) _ _ _); refine Stop.go ?_)
  k_with "call ref" => ((with_reducible show wpAny _ _ (call (Value.ref 168) _) _ _ _); refine Stop.go ?_)
  k_with "call ref" => ((with_reducible show wpAny _ _ (call (Value.ref 187) _) _ _ _); refine Stop.go ?_)
  k_with "call ref" => ((with_reducible show wpAny _ _ (call (Value.ref 197) _) _ _ _); refine Stop.go ?_)
  k_with "call ref" => ((with_reducible show wpAny _ _ (call (Value.ref 42) _) _ _ _); refine Stop.go ?_)
  exact True.intro
local macro_rules | `(tactic| k_all) => `(tactic| with_reducible assumption)
theorem blank5_shaped : SeqAt.shaped (.list [.str (Str.ofString ""), .str (Str.ofString ""), .str (Str.ofString ""), .str (Str.ofString ""), .str (Str.ofString "")]) = true := by decide +kernel
theorem blank5_eqv : PyData.eqv (.list [.str (Str.ofString ""), .str (Str.ofString ""), .str (Str.ofString ""), .str (Str.ofString ""), .str (Str.ofString "")]) (.list [.str (Str.ofString ""), .str (Str.ofString ""), .str (Str.ofString ""), .str (Str.ofString ""), .str (Str.ofString "")]) = true := by decide +kernel
theorem reads_tups {h : Heap} {led : Led} {x : Str} (N : ∀ q ∈ led, h.get? q.1 = some q.2) {vs : List Value} {ss : List Nat} (H : All2 (fun v (s : Nat) => ∃ a t1 t2 n, v = Value.ref a ∧ (a, tuO [.str x t1, .int (s : Int) t2] n) ∈ led) vs ss) : ∃ as, ReadsAll h vs (ss.map fun s : Nat => PyData.tuple [.str x, .int (s : Int)]) as := by
  induction H with
  | nil => exact ⟨_, .nil⟩
  | cons h1 _ ih =>
    obtain ⟨a, t1, t2, n, rfl, hm⟩ := h1
    obtain ⟨as, ih⟩ := ih
    exact ⟨_, .cons (reads_tuple_at (N _ hm) rfl rfl (.cons (.str _ _) (.cons (.int _ _) .nil))) ih⟩
theorem reads_heard {P : Params} {Z : RunP} {S : ASt} {led : Led} {h : Heap} (N : ∀ q ∈ led, h.get? q.1 = some q.2) (H : LedOk P Z S led) : ∃ as, Reads h (.ref Z.hO) (heardD Z.nm S.hd) as := by
  obtain ⟨nO, hO⟩ := H.hO
  have row : ∀ k, k < 5 → ∃ as, Reads h (.ref (Z.rH k)) (.list ((S.hd k).map fun s : Nat => PyData.tuple [.str (Z.nm k), .int (s : Int)])) as := fun k hk => by
    obtain ⟨vs, n, hm, hv⟩ := H.hd k hk
    obtain ⟨as, ha⟩ := reads_tups N hv
    exact ⟨_, reads_list_at (N _ hm) rfl rfl ha⟩
  obtain ⟨a0, r0⟩ := row 0 (by k_extra "om")
  obtain ⟨a1, r1⟩ := row 1 (by k_extra "om")
  obtain ⟨a2, r2⟩ := row 2 (by k_extra "om")
  obtain ⟨a3, r3⟩ := row 3 (by k_extra "om")
  obtain ⟨a4, r4⟩ := row 4 (by k_extra "om")
  exact ⟨_, reads_list_at (N _ hO) rfl rfl (.cons r0 (.cons r1 (.cons r2 (.cons r3 (.cons r4 .nil)))))⟩
theorem heard_congr {nm : Nat → Str} {f f' : Nat → List Nat} (h : ∀ n, n < 5 → f n = f' n) : heardD nm f = heardD nm f' := by
  unfold heardD
  simp only [List.map_cons, List.map_nil, h 0 (by k_extra "om"), h 1 (by k_extra "om"), h 2 (by k_extra "om"), h 3 (by k_extra "om"), h 4 (by k_extra "om")]
theorem rows_strOk {nm : Nat → Str} {tk : Nat → List Nat} {sss : List (List Str)} (hg : ∀ k, k < 5 → GoodNm (nm k) k) (hR : RowsOk tk nm 5 sss) (ht : ∀ j, j < 5 → ∀ x ∈ tk j, x < 5) : ∀ ss ∈ sss, ∀ x ∈ ss, PyData.strOk x = true := fun ss hss x hx => by
  obtain ⟨j, hj, rfl⟩ := List.mem_iff_getElem.mp hss
  have hj5 : j < 5 := by have := hR.1; omega
  obtain ⟨ss', h1, h2, -⟩ := hR.2 j hj5
  rw [List.getElem?_eq_getElem hj] at h1
  have h1 := Option.some.inj h1
  rw [h1] at hx
  obtain ⟨y, hy, rfl⟩ := List.mem_map.mp (h2.mem_iff.mp hx)
  exact (good_last (hg y (ht j hj5 y hy))).2
theorem ex_split {p a b c d e f g : Addr × Obj} {r s : Led} (h : p ∈ a :: b :: c :: d :: e :: f :: g :: (r ++ s)) : p ∈ a :: b :: c :: d :: e :: f :: g :: r ∨ p ∈ s := by
  have : p ∈ (a :: b :: c :: d :: e :: f :: g :: r) ++ s := h
  exact List.mem_append.mp this
theorem ex_left {p a b c d e f g : Addr × Obj} {r s : Led} (h : p ∈ a :: b :: c :: d :: e :: f :: g :: r) : p ∈ a :: b :: c :: d :: e :: f :: g :: (r ++ s) := by
  have : p ∈ (a :: b :: c :: d :: e :: f :: g :: r) ++ s := List.mem_append_left _ h
  exact this
theorem rep_snoc {x : Str} {j : Nat} : List.replicate (j + 1) x = List.replicate j x ++ [x] := by rw [List.replicate_succ']
theorem call_ownGD {M : Model} {c : Code} {R : Result → Shared → Prop} {A A₀ : Around} {s : Shared} {base h₀ : Heap} {outer : List Env} {L : Addr} {m : Str → Option Value} {env : Env} {news : List (Addr × Obj)} {K : Frag} {mg mb : Str → Option Value} {p : Program} {loose : List Str} {mean : ExcName → Option Value}
    (B : Below A₀ base outer h₀) (F : Fr h₀ L s.heap m) (X : K.In h₀) (T : Top p loose mean mg mb h₀) (N : News h₀ L s.heap news) (D : KtsDicts (outer.filterMap (·.frame)) h₀) (hA : A.frames = some (env :: outer)) (hf : env.frame = some L) (hke : env.scope.kind = .function)
    (h : ∀ G, G = hideAll s.heap (news.map (·.1)) → Fr h₀ L G m → Below A base (env :: outer) G → K.In G → Top p loose mean mg mb G → G.StaysIn s.heap → KtsDicts ((env :: outer).filterMap (·.frame)) G → codeAny M A c R s) : codeAny M A c R s :=
  call_ownG B F X T N hA hf hke fun G e FG BG XG TG sG => h G e FG BG XG TG sG (by rw [e]; exact dicts_push hf B F N D)
theorem calls_nat {js : List Int} (h : ∀ j ∈ js, 0 ≤ j ∧ j < 5) : js ++ (List.replicate 20 ([0, 1, 2, 3, 4] : List Int)).flatten = (js.map Int.toNat ++ (List.replicate 20 ([0, 1, 2, 3, 4] : List Nat)).flatten).map fun x : Nat => (x : Int) := by
  rw [List.map_append]
  congr 1
  rw [List.map_map]
  conv => lhs; rw [← List.map_id js]
  exact List.map_congr_left fun j hj => by
    have := h j hj
    show j = ((j.toNat : Nat) : Int)
    omega
theorem rounds_lt : ∀ c ∈ (List.replicate 20 ([0, 1, 2, 3, 4] : List Nat)).flatten, c < 5 := by decide
noncomputable def nmF (sis : List Int) (n : Nat) : Str := nameOf (sis.getD n 0) (n : Int)
theorem names_at {nm : Nat → Str} {nvs : List Value} (hnS : StrsAre nvs ([0, 1, 2, 3, 4].map nm)) : ∀ k, k < 5 → ∃ t, nvs[k]? = some (.str (nm k) t) := fun k hk => by
  have h5 := strsLen hnS
  obtain ⟨t, e, -⟩ := strsAt hnS (k := k) (v := nvs[k]'(by rw [h5]; exact hk)) (List.getElem?_eq_getElem _)
  refine ⟨t, ?_⟩
  rw [List.getElem?_eq_getElem (by rw [h5]; exact hk), e]
  rcases five hk with rfl | rfl | rfl | rfl | rfl <;> rfl
theorem news_keepN {g h h' : Heap} {L : Addr} {news news' : Led} {as : List Addr} (N : News g L h news) (k : Keeps as h h') (hs : ∀ p ∈ news', p ∈ news ∧ p.1 ∉ as) : News g L h' news' := fun p hp => ⟨k _ _ (hs p hp).2 (N p (hs p hp).1).1, (N p (hs p hp).1).2⟩
theorem nin1 {a b : Addr} (h : @Ne Nat a b) : a ∉ [b] := fun q => h (List.mem_singleton.mp q)
theorem nm_eq {sis : List Int} {j : Nat} {sx : Int} (h : sis[j]? = some sx) : nameOf sx (0 + (j : Int)) = nmF sis j := by
  unfold nmF
  rw [Int.zero_add, List.getD_eq_getElem?_getD, h]; rfl
theorem fm6 (x : Int) : 0 ≤ Int.fmod x 6 ∧ Int.fmod x 6 < 6 := ⟨Int.fmod_nonneg_of_pos _ (by k_extra "om"), Int.fmod_lt_of_pos _ (by k_extra "om")⟩
theorem fig_bd {y : Int} (h : 0 ≤ y ∧ y < 6) : fig y = 127 ∨ (0 ≤ fig y ∧ fig y < 5) := by
  unfold fig
  split
  · exact .inl rfl
  · exact .inr (by k_extra "om")
theorem ne_of_none {h : Heap} {a b : Addr} {o : Obj} (h1 : h.get? a = none) (h2 : h.get? b = some o) : @Ne Nat a b := fun e => by
  have e' : a = b := e
  rw [e', h2] at h1; cases h1
theorem turn0 {base h h' : Heap} {env : Env} {L : Addr} {m : Names} {as : List Addr} (hf : env.frame = some L) (F : Fr base L h m) (k : KeepsT ([env].filterMap (·.frame)) as h h') (has : ∀ a ∈ as, a ≠ L ∧ base.get? a = none) : Fr base L h' m := by
  refine ⟨?_, fun b o e => ?_, F.above⟩
  · obtain ⟨o, es, ep, ho, hd, h1, h2⟩ := F.ns
    obtain ⟨sl, hs⟩ := (k L o (fun q => (has L q).1 rfl) ho).2
    exact ⟨_, es, ep, hs, hd, h1, h2⟩
  · refine (k b o (fun q => by have := (has b q).2; rw [e] at this; cases this) (F.keep b o e)).1 fun hm => ?_
    rcases frame_mem hf hm with z | z
    · rw [z, kts_self F] at e; cases e
    · simp at z
theorem turn0_news {base h h' : Heap} {env : Env} {L : Addr} {news : Led} {as : List Addr} (hf : env.frame = some L) (N : News base L h news) (k : KeepsT ([env].filterMap (·.frame)) as h h') (has : ∀ p ∈ news, p.1 ∉ as) : News base L h' news := fun p hp => by
  refine ⟨(k p.1 p.2 (has p hp) (N p hp).1).1 fun hm => ?_, (N p hp).2⟩
  rcases frame_mem hf hm with z | z
  · exact (N p hp).2.1 z
  · simp at z
theorem news_cons {g h : Heap} {L a : Addr} {o : Obj} {news : Led} (N : News g L h news) (h1 : h.get? a = some o) (h2 : a ≠ L ∧ g.get? a = none) : News g L h ((a, o) :: news) := fun q hq => by
  rcases List.mem_cons.mp hq with rfl | hq
  · exact ⟨h1, h2⟩
  · exact N q hq
/-- the law came back with True: nothing of the caller's is changed but the table of made codes -/
noncomputable def Told9 (tabs : List (Addr × Addr)) (s₁ : Shared) (res : Result) (s' : Shared) : Prop :=
  res = .ok (.ret (.bool true)) ∧ (∀ b o, (ghostOf s₁.heap tabs).get? b = some o → s'.heap.get? b = some o) ∧ s'.os = s₁.os ∧ AllBare s'.gens ∧ GrownAll tabs s'.heap
theorem told_good {cw : ClaimW} {cl : Str → Option Addr} {mean : ExcName → Option Value} {args : List WData} {tabs : List (Addr × Addr)} {s₁ s' : Shared} {res : Result} (hT : TabsAt tabs s₁.heap) (hr : ∀ x, cw.raises args x = false) (hp : cw.post args (.bool true) args = true)
    (h : Told9 tabs s₁ res s') : GoodWG cw cl mean args s₁ res s' := by
  obtain ⟨h1, h2, h3, h4, h5⟩ := h
  have hold : ∀ b o, s₁.heap.get? b = some o → s'.heap.get? b = some o ∨ (isCodeTable s₁.heap b ∧ o = tabObj #[] ∧ ∃ ps, s'.heap.get? b = some (tabObj ps)) := fun b o e => by
    rcases Classical.em (b ∈ tabs.map (·.2)) with hb | hb
    · obtain ⟨q, hq, e2⟩ := List.mem_map.mp hb
      obtain ⟨c1, c2⟩ := hT q hq
      have e3 : o = tabObj #[] := Option.some.inj ((e.symm.trans (by rw [← e2])).trans c2)
      exact .inr ⟨by rw [← e2]; exact (c1.tab c2).isCodeTable, e3, by rw [← e2]; exact h5.get q hq⟩
    · exact .inl (h2 b o (ghost_ne e hb))
  refine ⟨.inl ⟨.bool true, .bool true, [], h1, hr, .bool true, hp, fun _ => ⟨.nil, fun a ha => nomatch ha⟩⟩, ⟨fun b o e => ?_, fun b o e => ?_⟩, h3, h4⟩
  · rcases hold b o e with z | ⟨z1, z2, ps, z3⟩
    · exact .inl z
    · subst z2
      exact .inr (.inl ⟨z1, rfl, #[], ps, rfl, by rw [Array.empty_append]; exact z3⟩)
  · rcases hold b o e with z | ⟨z1, z2, ps, z3⟩
    · exact ⟨o, z⟩
    · exact ⟨_, z3⟩
theorem told_post {M : Model} {A : Around} {cd : Code} {cw : ClaimW} {cl : Str → Option Addr} {mean : ExcName → Option Value} {args : List WData} {tabs : List (Addr × Addr)} {s s₁ : Shared} (hT : TabsAt tabs s₁.heap) (hr : ∀ x, cw.raises args x = false) (hp : cw.post args (.bool true) args = true)
    (h : codeAny M A cd (Told9 tabs s₁) s) : codeAny M A cd (GoodWG cw cl mean args s₁) s := codeAny_mono h fun _ _ x => told_good hT hr hp x
theorem law_top : PySem.Challenge.rw_wn0047_01.Holds := by
  w_on
  refine holds_law said fun said' => ?_
  refine holds_open (q := vw) (loose := []) (Xt := fun s => xlAt vw [] s && recOk (RowW.records PySem.Challenge.rw_wn0047_01.row.toRowW) s) (XP := XL vw []) (Yf := Hook.obs (kmHook hd.heap_39 kAs kAs_eq [144])) (Ya := Hook.val (kmHook hd.heap_39 kAs kAs_eq [144])) (YP := Hook.says (kmHook hd.heap_39 kAs kAs_eq [144])) (N := 3130) left (Hook.of (kmHook hd.heap_39 kAs kAs_eq [144])) (Hook.keeps (kmHook hd.heap_39 kAs kAs_eq [144])) (fun s e => xl_of s (Bool.and_eq_true_iff.mp e).1) XL.keeps (by rfl) (by rfl) (by rfl) (fun s e => recFacts_of (Bool.and_eq_true_iff.mp e).2) (by rfl) (by first | assumption | decide +kernel) (by decide +kernel) ⟨rfl, rfl, rfl, rfl, rfl, by decide +kernel⟩ ?hw ?hc
  case hw => w_witness2
  k_fill
  intro w s₀ s₁ mg mb G Y fa o pm cd doc dV kV ho hd hcd hD hmg hg args vals as hpre hlay hrd hwl hlo
  have KX := km_in_of Y
  km_tabs Y
  have X := (Ground.X G).1
  have V := (Ground.X G).2
  refine Ground.open G ?_
  intro T B D TE TW
  try (refine guard_noD D (by decide +kernel) ?_; clear D)
  km_lay T hmg ho hd cd
  clear hmg
  wrow_args hpre hlay hrd hwl hlo
  first | refine callC_kw (enter_call ?_) | refine enter_call ?_
  w_top on
  refine told_post hT9 (raisesW_false ?hr) ?hp ?_
  case hr => wrow_none_raised
  case hp => wrow_post
  w_call any ho hd hcd hD T F
  clear hd
  kn_ghosts F T
  k_drop
  (rename Fr _ _ _ _ => F1)
  (rename News _ _ _ _ => N1)
  (rename Below _ _ _ _ => B0)
  (rename IntsAre _ _ => hI)
  (rename Frag.In _ (ghostOf _ _) => X0)
  (rename Top _ _ _ _ _ (ghostOf _ _) => T0)
  (rename ¬ _ < _ => hcond)
  (rename _ = Data.cell _ => dC0)
  (rename 144 < _ => l0)
  (rename CellsAre _ _ _ => hcl; clear hcl)
  generalize hbase : ghostOf s₁.heap [(148, 144)] = base at F1 N1 B0 X0 T0 lifted codeHd
  generalize hL : s₁.heap.objs.size = L at F1 N1 l0 ⊢
  obtain ⟨oC, hoC⟩ : ∃ x : Obj, x = dataO dC0 := ⟨_, rfl⟩
  dsimp only [dataO] at hoC
  subst hoC
  have dC : oC.data = .cell none := dC0
  clear dC0
  have hn63 := intsLen hI
  clear hD hcd ho TE TW B V X T Y hT8 G said'
  k_steps
  unfold Stop
  refine wpAny_call ?_
  refine call_ownC B0 F1 X0 T0 N1 rfl rfl rfl fun h5 B5 X5 T5 s5 N5 => ?_
  refine seeds_spec B5 X5 T5 s5 (by k_room) (by k_units) (lifted.at fun o e => B5.stays _ _ e) hI (by k_extra "om") (own_sub N5 (fun _ q => nomatch q)) fun sb svs sis ks h6 tk6 k6 hsb hsn hsI hs10 => ?_
  have F6 := fr_keeps F1 k6 (fun _ q => nomatch q)
  have N6 := news_cons (news_keeps0 N1 k6) hsb (fresh_gr F1 hsn)
  have e1 : @Ne Nat sb (L + 1) := fun e => by have := (N1 _ (.head _)).1; rw [← e, hsn] at this; cases this
  have e2 : @Ne Nat sb 144 := fun e => by have := (N1 _ (.tail _ (.head _))).1; rw [← e, hsn] at this; cases this
  clear F1 N1 k6 hsb hsn N5 B5 X5 T5 s5
  dsimp only
  k_steps
  unfold Stop
  rename IsRange _ _ _ _ _ _ _ _ => hR
  (rename News _ _ _ _ => N1)
  (rename Fr _ _ _ _ => F1)
  (rename IntsAre svs sis => hsI)
  have hsl := intsLen hsI
  refine LCg.CompSrc.range (n := 5) rfl F1 N1 hR (by decide) (by decide) (by rw [sizeLine_eq]; exact Nat.le_of_ble_eq_true rfl) fun g' => compRest_same (Inv := fun j ys => StrsAre ys (([0, 1, 2, 3, 4].map (nmF sis)).take j)) trivial ?nturn ?nfin .nil
  case nturn =>
    intro j2 ys2 v9 I3 oI C oC2 D m₂ h tk E' Nx3 hi3 hP hV hC hm F N off ne hN3
    obtain ⟨tv, rfl⟩ := hP
    obtain ⟨sx, tsx, hx1, hx2⟩ := IntsAre.at' hsI (k := j2) (by k_extra "om")
    have hx0 : svs[(0 + (j2 : Int)).toNat]? = some (.int sx tsx) := by rw [Int.zero_add, Int.toNat_natCast]; exact hx1
    simp only [LCg.Off3] at off
    clear F1 N1
    k_steps
    unfold Stop
    (rename News _ _ _ _ => N9)
    (rename Fr _ _ _ _ => F9)
    refine wpAny_call ?_
    refine call_ownC B0 F9 X0 T0 N9 rfl rfl rfl fun h5 B5 X5 T5 s5 N5 => ?_
    refine name_spec B5 X5 T5 s5 (by k_room) (by k_units) (own_sub N5 (fun _ q => nomatch q)) ⟨by k_extra "om", by k_extra "om"⟩ fun t5 h6 tk6 k6 => ?_
    have F6 := fr_keeps F9 k6 (fun _ q => nomatch q)
    have N6 := news_keeps0 N9 k6
    dsimp only
    rw [nm_eq hx2]
    exact hN3 _ _ _ _ F6 N6 (fun p hp => hp) (by rw [take_nm hi3]; exact strsSnoc hV)
  case nfin =>
    intro nvs hY nl h tk F N off
    change StrsAre nvs ([0, 1, 2, 3, 4].map (nmF sis)) at hY
    simp only [LCg.Off1] at off
    clear F1 N1 hR
    obtain ⟨r5, tr5, hx5, -⟩ := IntsAre.at' hsI (k := 5) (by k_extra "om")
    change svs[Int.toNat 5]? = _ at hx5
    k_steps
    unfold Stop
    (rename News _ _ _ _ => N9)
    (rename Fr _ _ _ _ => F9)
    refine wpAny_call ?_
    refine call_ownC B0 F9 X0 T0 N9 rfl rfl rfl fun h5 B5 X5 T5 s5 N5 => ?_
    refine ruler_spec B5 X5 T5 s5 (by k_room) (by k_units) (own_sub N5 (fun _ q => nomatch q)) fun rb rvs rk h6 tk6 k6 hrb hrn hrI => ?_
    have hRul := ruler_ok (fig_mem (y := Int.fmod r5 6) (fm6 _)) (fig_mem (y := Int.fmod (Int.fdiv r5 6) 6) (fm6 _)) (fig_mem (y := Int.fmod (Int.fdiv r5 36) 6) (fm6 _)) (fig_mem (y := Int.fmod (Int.fdiv r5 216) 6) (fm6 _))
    have hFig : ∀ y ∈ [fig (Int.fmod r5 6), fig (Int.fmod (Int.fdiv r5 6) 6), fig (Int.fmod (Int.fdiv r5 36) 6), fig (Int.fmod (Int.fdiv r5 216) 6)], y = 127 ∨ (0 ≤ y ∧ y < 5) := List.forall_mem_cons.mpr ⟨fig_bd (fm6 _), List.forall_mem_cons.mpr ⟨fig_bd (fm6 _), List.forall_mem_cons.mpr ⟨fig_bd (fm6 _), List.forall_mem_cons.mpr ⟨fig_bd (fm6 _), List.forall_mem_nil _⟩⟩⟩⟩
    have hF4 : [fig (Int.fmod r5 6), fig (Int.fmod (Int.fdiv r5 6) 6), fig (Int.fmod (Int.fdiv r5 36) 6), fig (Int.fmod (Int.fdiv r5 216) 6)].length = 4 := rfl
    generalize [fig (Int.fmod r5 6), fig (Int.fmod (Int.fdiv r5 6) 6), fig (Int.fmod (Int.fdiv r5 36) 6), fig (Int.fmod (Int.fdiv r5 216) 6)] = rul at hrI hRul hFig hF4
    have r4 : @Ne Nat rb 144 := ne_of_none hrn (N9 (144, tabObj #[]) (by k_mem)).1
    have F6 := fr_keeps F9 k6 (fun _ q => nomatch q)
    have N6 := news_cons (news_keeps0 N9 k6) hrb (fresh_gr F9 hrn)
    clear F9 N9 k6 hrb hrn N5 B5 X5 T5 s5 hx5
    dsimp only
    k_steps
    unfold Stop
    (rename News _ _ _ _ => N9)
    (rename Fr _ _ _ _ => F9)
    (rename IntsAre rvs rul => hrI)
    refine wpAny_call ?_
    refine call_ownC B0 F9 X0 T0 N9 rfl rfl rfl fun h5 B5 X5 T5 s5 N5 => ?_
    refine first_spec B5 X5 T5 s5 (by k_room) (by k_units) hrI hF4 (own_sub N5 (fun q hq => by cases List.mem_singleton.mp hq; exact .head _)) fun fb fvs fk h6 tk6 k6 hfb hfn hfI => ?_
    have f4 : @Ne Nat fb 144 := ne_of_none hfn (N9 (144, tabObj #[]) (by k_mem)).1
    have F6 := fr_keeps F9 k6 (fun _ q => nomatch q)
    have N6 := news_cons (news_keeps0 N9 k6) hfb (fresh_gr F9 hfn)
    clear F9 N9 k6 hfb hfn N5 B5 X5 T5 s5
    dsimp only
    k_steps
    unfold Stop
    (rename News _ _ _ _ => N9)
    (rename Fr _ _ _ _ => F9)
    refine wpAny_call ?_
    refine call_ownD B0 F9 X0 T0 N9 (fun b hb => by simp at hb) rfl rfl rfl fun h5 B5 X5 T5 s5 N5 D5 => ?_
    refine marked_spec B5 X5 T5 s5 (by k_room) (by k_units) X0 T0 D5 hrI hF4 hFig (.of_eq hg) (own_sub N5 (fun q hq => by cases List.mem_singleton.mp hq; exact .tail _ (.head _))) fun bb bvs bk h6 tk6 gens6 hbare k6 hbb hbn hbI => ?_
    have b4 : @Ne Nat bb 144 := ne_of_none hbn (N9 (144, tabObj #[]) (by k_mem)).1
    have F6 := turn0 rfl F9 k6 (fun _ q => nomatch q)
    have N6 := news_cons (turn0_news rfl N9 k6 (fun _ _ q => nomatch q)) hbb (fresh_gr F9 hbn)
    clear F9 N9 k6 hbb hbn N5 B5 X5 T5 s5 D5
    dsimp only
    k_steps
    unfold Stop
    (rename News _ _ _ _ => N9)
    (rename Fr _ _ _ _ => F9)
    (rename IntsAre svs sis => hsI)
    obtain ⟨H, hH⟩ : ∃ H, H = heapOfN N9 := ⟨_, rfl⟩
    dsimp only [heapOfN] at hH
    subst hH
    rw [hRul.same, hRul.nats] at hbI
    rw [hRul.nats] at hfI
    have hfd := hRul.nodup
    have hf5 := hRul.lt
    have hfl5 := hRul.len
    clear hRul hrI hFig hF4
    generalize firstN rul = first at hbI hfI hfd hf5 hfl5
    have hgood : ∀ k, k < 5 → GoodNm (nmF sis k) k := fun k hk => good_name (seed := sis.getD k 0) hk
    have hnm := names_at hY
    have hRing := ring_names hgood hfd hf5
    have N4 : News base L H [(144, tabObj #[])] := fun q hq => N9 q (by cases List.mem_singleton.mp hq; k_mem)
    refine wpAny_call ?_
    refine call_ownG B0 F9 X0 T0 N4 rfl rfl rfl fun G9 hG FG BG XG TG sG => ?_
    have look : ∀ {a o}, H.get? a = some o → @Ne Nat a 144 → G9.get? a = some o := fun {a o} e h => by rw [hG]; exact hideAll_get _ e (nin1 h)
    refine boxes_spec BG XG TG sG (by k_room) (by k_units) ⟨_, look (N9 (nl, LCg.lst nvs) (by k_mem)).1 (by k_extra "om"), rfl, _, rfl⟩ hnm hgood ⟨_, look (N9 (sb, lsO svs ks) (by k_mem)).1 (by k_extra "om"), rfl, _, rfl⟩ hsI (by k_extra "om") ⟨_, look (N9 (bb, lsO bvs bk) (by k_mem)).1 (by k_extra "om"), rfl, _, rfl⟩ hbI (fun p hp => ⟨(N4 p hp).1, by rw [hG]; exact hideAll_none _ (List.mem_map_of_mem hp)⟩) codeHd fun xl ls nw tab xk h6 tk6 k6 hxl hxn hls hTab h144 hInv hnw => ?_
    have F6 := fr_keeps F9 k6 (fun a ha => by rw [List.mem_singleton.mp ha]; exact (N4 _ (.head _)).2)
    have hold : ∀ a o, H.get? a = some o → ∀ q ∈ nw, q.1 ≠ a := fun a o e q hq z => by
      have := (hnw q hq).2.1
      rw [z, e] at this; cases this
    (rename _ = Data.cell (some (Value.ref sb)) => dS9)
    obtain ⟨oS, hoS⟩ : ∃ x : Obj, x = dataO dS9 := ⟨_, rfl⟩
    dsimp only [dataO] at hoS
    subst hoS
    have kp : ∀ {a : Addr} {o : Obj}, (a, o) ∈ _ → @Ne Nat a 144 → h6.get? a = some o ∧ a ≠ L ∧ base.get? a = none := fun {a o} hm hne => ⟨k6 _ _ (nin1 hne) (N9 _ hm).1, (N9 _ hm).2⟩
    have N6 : News base L h6 ((xl, lsO (ls.map fun l : Lex => .ref l.x) xk) :: (bb, lsO bvs bk) :: (fb, lsO fvs fk) :: (nl, LCg.lst nvs) :: (sb, lsO svs ks) :: (L + 1, oS) :: (144, tab) :: nw) := fun q hq => by
      rcases List.mem_cons.mp hq with rfl | hq
      · exact ⟨hxl, fresh_gr F9 hxn⟩
      rcases List.mem_cons.mp hq with rfl | hq
      · exact kp (by k_mem) (by k_extra "om")
      rcases List.mem_cons.mp hq with rfl | hq
      · exact kp (by k_mem) (by k_extra "om")
      rcases List.mem_cons.mp hq with rfl | hq
      · exact kp (by k_mem) (by k_extra "om")
      rcases List.mem_cons.mp hq with rfl | hq
      · exact kp (by k_mem) (by k_extra "om")
      rcases List.mem_cons.mp hq with rfl | hq
      · exact kp (by k_mem) (by k_extra "om")
      rcases List.mem_cons.mp hq with rfl | hq
      · exact ⟨h144, (N4 _ (.head _)).2⟩
      · exact ⟨(hnw q hq).1, fresh_gr F9 (hnw q hq).2.1⟩
    have q1 := hold bb _ (N9 (bb, lsO bvs bk) (by k_mem)).1
    have q2 := hold fb _ (N9 (fb, lsO fvs fk) (by k_mem)).1
    have q3 := hold nl _ (N9 (nl, LCg.lst nvs) (by k_mem)).1
    have q4 := hold sb _ (N9 (sb, lsO svs ks) (by k_mem)).1
    have q5 := hold (L + 1) _ (N9 (L + 1, oS) (by k_mem)).1
    have q6 := hold 144 _ (N4 (144, tabObj #[]) (.head _)).1
    have q7 : ∀ q ∈ nw, q.1 ≠ xl := fun q hq => (hnw q hq).2.2
    clear N9 F9 N4 k6 hold kp look hG FG BG XG TG sG hxl hxn h144 hnw
    dsimp only
    k_steps
    unfold Stop
    (rename News _ _ _ _ => N9)
    (rename Fr _ _ _ _ => F9)
    (rename IntsAre _ (List.drop 6 sis) => hI4)
    refine wpAny_call ?_
    refine call_ownC B0 F9 X0 T0 N9 rfl rfl rfl fun h5 B5 X5 T5 s5 N5 => ?_
    refine calls_spec B5 X5 T5 s5 (by k_room) (by k_units) hI4 (by have h7 := intsLen hI4; rw [List.length_drop] at h7; omega) (own_sub N5 (fun q hq => by cases List.mem_singleton.mp hq; exact .head _)) fun cb cws js ck h6 tk6 k6 hcb hcn hcI hjl hj5 => ?_
    have q8 : ∀ q ∈ nw, q.1 ≠ cb := fun q hq z => by
      have := (N9 q (.tail _ (.tail _ (.tail _ (.tail _ (.tail _ (.tail _ (.tail _ (.tail _ hq))))))))).1
      rw [z, hcn] at this; cases this
    have F6 := fr_keeps F9 k6 (fun _ q => nomatch q)
    have N6 : News base L h6 ((cb, lsO cws ck) :: (xl, lsO (ls.map fun l : Lex => .ref l.x) xk) :: (bb, lsO bvs bk) :: (fb, lsO fvs fk) :: (nl, LCg.lst nvs) :: (144, tab) :: nw) := fun q hq => by
      have N7 := news_keeps0 N9 k6
      rcases List.mem_cons.mp hq with rfl | hq
      · exact ⟨hcb, fresh_gr F9 hcn⟩
      rcases List.mem_cons.mp hq with rfl | hq
      · exact N7 _ (by k_mem)
      rcases List.mem_cons.mp hq with rfl | hq
      · exact N7 _ (by k_mem)
      rcases List.mem_cons.mp hq with rfl | hq
      · exact N7 _ (by k_mem)
      rcases List.mem_cons.mp hq with rfl | hq
      · exact N7 _ (by k_mem)
      rcases List.mem_cons.mp hq with rfl | hq
      · exact N7 _ (by k_mem)
      · exact N7 q (.tail _ (.tail _ (.tail _ (.tail _ (.tail _ (.tail _ (.tail _ (.tail _ hq))))))))
    obtain ⟨ps, hps⟩ : ∃ ps, tab = tabObj ps := by
      rcases hTab with ⟨-, e, -⟩ | ⟨ct, oc, e, -⟩
      · exact ⟨_, e⟩
      · exact ⟨_, e⟩
    subst hps
    clear N9 F9 k6 hcb hcn N5 B5 X5 T5 s5
    dsimp only
    k_steps
    unfold Stop
    (rename News _ _ _ _ => N9)
    (rename Fr _ _ _ _ => F9)
    (rename IntsAre bvs _ => hbI)
    (rename IntsAre fvs _ => hfI)
    rw [calls_nat hj5] at hcI
    have hp5 : ∀ x ∈ js.map Int.toNat, x < 5 := fun x hx => by
      obtain ⟨j, hj, rfl⟩ := List.mem_map.mp hx
      have := hj5 j hj
      omega
    have NR : News base L h6 nw := fun q hq => N9 q (.tail _ (.tail _ (.tail _ (.tail _ (.tail _ (.tail _ hq))))))
    refine wpAny_call ?_
    refine call_ownGD B0 F9 X0 T0 NR (fun b hb => by simp at hb) rfl rfl rfl fun G9 hG FG BG XG TG sG D9 => ?_
    have look : ∀ {a : Addr} {o : Obj}, h6.get? a = some o → (∀ q ∈ nw, q.1 ≠ a) → G9.get? a = some o := fun {a o} e h => by rw [hG]; exact hideAll_get _ e (fun q => by obtain ⟨p, hp, e⟩ := List.mem_map.mp q; exact h p hp e)
    have g1 := look (N9 (nl, LCg.lst nvs) (by k_mem)).1 q3
    have g2 := look (N9 (bb, lsO bvs bk) (by k_mem)).1 q1
    have g3 := look (N9 (xl, lsO (ls.map fun l : Lex => .ref l.x) xk) (by k_mem)).1 q7
    have g4 := look (N9 (cb, lsO cws ck) (by k_mem)).1 q8
    have g5 := look (N9 (fb, lsO fvs fk) (by k_mem)).1 q2
    refine run_spec BG XG TG sG (by k_room) (by k_units) X0 T0 D9 codeHd ⟨_, g1, rfl, _, rfl⟩ hnm hgood ⟨_, g2, rfl, _, rfl⟩ hbI hfl5 hRing (fun _ _ => rfl) ⟨_, g3, rfl, _, rfl⟩ hls hInv hTab ⟨_, g4, rfl, _, rfl⟩ hcI (fun c hc => ?_) ?_ (fun p hp => ⟨(NR p hp).1, by rw [hG]; exact hideAll_none _ (List.mem_map_of_mem hp)⟩) (fun v n hn => ?_) fun Z v tb td tk1 tys nwR led sss h7 tk7 OZ z1 z2 HZ hA hR hobj hdis kT => ?_
    · rcases List.mem_append.mp hc with hc | hc
      · exact hp5 c hc
      · exact rounds_lt c hc
    · rw [List.length_append, List.length_map, hjl]
      exact Nat.le_of_ble_eq_true rfl
    · obtain ⟨S, hS, -, -, hT, -⟩ := ring_end (v := v) hRing hp5
      rw [← hS, (hT n hn).length_eq]
      have := List.length_filter_le (dueP first (gtN (nmF sis)) n) first
      rw [dueT_eq]
      omega
    obtain ⟨S, hS, -, hbx, hTk, hHd⟩ := ring_end (v := v) hRing hp5
    rw [← hS] at HZ hR
    clear hS
    subst z1
    have N5 : News base L h6 [(xl, lsO (Z.ls.map fun l : Lex => .ref l.x) xk), (bb, lsO bvs bk), (fb, lsO fvs fk), (nl, LCg.lst nvs), (144, tabObj ps)] := fun q hq => N9 q (by
      rcases List.mem_cons.mp hq with rfl | hq
      · k_mem
      rcases List.mem_cons.mp hq with rfl | hq
      · k_mem
      rcases List.mem_cons.mp hq with rfl | hq
      · k_mem
      rcases List.mem_cons.mp hq with rfl | hq
      · k_mem
      · cases List.mem_singleton.mp hq
        k_mem)
    have q8' : ∀ p ∈ ([(xl, lsO (Z.ls.map fun l : Lex => .ref l.x) xk), (bb, lsO bvs bk), (fb, lsO fvs fk), (nl, LCg.lst nvs), (144, tabObj ps)] : Led), ∀ q ∈ nw, q.1 ≠ p.1 := List.forall_mem_cons.mpr ⟨q7, List.forall_mem_cons.mpr ⟨q1, List.forall_mem_cons.mpr ⟨q2, List.forall_mem_cons.mpr ⟨q3, List.forall_mem_cons.mpr ⟨q6, List.forall_mem_nil _⟩⟩⟩⟩⟩
    have gAll : ∀ p ∈ ([(xl, lsO (Z.ls.map fun l : Lex => .ref l.x) xk), (bb, lsO bvs bk), (fb, lsO fvs fk), (nl, LCg.lst nvs), (144, tabObj ps)] : Led), G9.get? p.1 = some p.2 := fun p hp => look (N5 p hp).1 (q8' p hp)
    have F6 := turn0 rfl F9 kT (fun a ha => by obtain ⟨p, hp, rfl⟩ := List.mem_map.mp ha; exact (NR p hp).2)
    have NK := turn0_news rfl N5 kT (fun p hp q => by obtain ⟨z, hz, e⟩ := List.mem_map.mp q; exact q8' p hp z hz e)
    have nObj : ∀ q ∈ (tb, lsO [.ref td, .ref Z.hO] tk1) :: (td, LCg.lst tys) :: (nwR ++ led), h7.get? q.1 = some q.2 ∧ q.1 ≠ L ∧ base.get? q.1 = none := fun q hq => ⟨(hobj q hq).1, fresh_gr FG (hobj q hq).2⟩
    have NE : News base L h7 ((xl, lsO (Z.ls.map fun l : Lex => .ref l.x) xk) :: (bb, lsO bvs bk) :: (fb, lsO fvs fk) :: (nl, LCg.lst nvs) :: (144, tabObj ps) :: (tb, lsO [.ref td, .ref Z.hO] tk1) :: (td, LCg.lst tys) :: (nwR ++ led)) := fun q hq => by
      rcases List.mem_cons.mp hq with rfl | hq
      · exact NK _ (by k_mem)
      rcases List.mem_cons.mp hq with rfl | hq
      · exact NK _ (by k_mem)
      rcases List.mem_cons.mp hq with rfl | hq
      · exact NK _ (by k_mem)
      rcases List.mem_cons.mp hq with rfl | hq
      · exact NK _ (by k_mem)
      rcases List.mem_cons.mp hq with rfl | hq
      · exact NK _ (by k_mem)
      · exact nObj q hq
    have disE : ∀ p ∈ led, ∀ q ∈ ((xl, lsO (Z.ls.map fun l : Lex => .ref l.x) xk) :: (bb, lsO bvs bk) :: (fb, lsO fvs fk) :: (nl, LCg.lst nvs) :: (144, tabObj ps) :: (tb, lsO [.ref td, .ref Z.hO] tk1) :: (td, LCg.lst tys) :: nwR : Led), p.1 ≠ q.1 := fun p hp q hq e => by
      have hp0 := (hobj p (.tail _ (.tail _ (List.mem_append_right _ hp)))).2
      have five1 : q ∈ ([(xl, lsO (Z.ls.map fun l : Lex => .ref l.x) xk), (bb, lsO bvs bk), (fb, lsO fvs fk), (nl, LCg.lst nvs), (144, tabObj ps)] : Led) ∨ q ∈ (tb, lsO [.ref td, .ref Z.hO] tk1) :: (td, LCg.lst tys) :: nwR := by
        rcases List.mem_cons.mp hq with rfl | hq
        · exact .inl (by k_mem)
        rcases List.mem_cons.mp hq with rfl | hq
        · exact .inl (by k_mem)
        rcases List.mem_cons.mp hq with rfl | hq
        · exact .inl (by k_mem)
        rcases List.mem_cons.mp hq with rfl | hq
        · exact .inl (by k_mem)
        rcases List.mem_cons.mp hq with rfl | hq
        · exact .inl (by k_mem)
        · exact .inr hq
      rcases five1 with z | z
      · have := gAll q z
        rw [← e, hp0] at this; cases this
      · exact hdis q z p hp e.symm
    clear N9 F9 NR kT look g1 g2 g3 g4 g5 NK N5 gAll q8' hG FG BG XG TG sG D9 nObj
    dsimp only
    k_steps
    unfold Stop
    (rename News _ _ _ _ => N9)
    (rename Fr _ _ _ _ => F9)
    have hxs : ((Z.ls.map fun l : Lex => Value.ref l.x).toArray).size = 5 := by rw [List.size_toArray, List.length_map]; exact OZ.len
    refine LCg.CompSrc.ledger (its := (Z.ls.map fun l : Lex => Value.ref l.x).toArray) rfl F9 N9 (.head _) (by rw [hxs, sizeLine_eq]; exact Nat.le_of_ble_eq_true rfl) fun g' => compRest_ind (n := ((Z.ls.map fun l : Lex => Value.ref l.x).toArray).size) (Inv := fun j ys nw8 => ∃ led', nw8 = (xl, lsO (Z.ls.map fun l : Lex => .ref l.x) xk) :: (bb, lsO bvs bk) :: (fb, lsO fvs fk) :: (nl, LCg.lst nvs) :: (144, tabObj ps) :: (tb, lsO [.ref td, .ref Z.hO] tk1) :: (td, LCg.lst tys) :: (nwR ++ led') ∧ LedOk w.params Z S led' ∧ (∀ p ∈ led', ∀ q ∈ ((xl, lsO (Z.ls.map fun l : Lex => .ref l.x) xk) :: (bb, lsO bvs bk) :: (fb, lsO fvs fk) :: (nl, LCg.lst nvs) :: (144, tabObj ps) :: (tb, lsO [.ref td, .ref Z.hO] tk1) :: (td, LCg.lst tys) :: nwR : Led), p.1 ≠ q.1) ∧ StrsAre ys (List.replicate j (Str.ofString ""))) ?wturn ?wfin ((Z.ls.map fun l : Lex => Value.ref l.x).toArray).size 0 [] _ (by k_extra "om") ⟨led, rfl, HZ, disE, .nil⟩
    case wturn =>
      intro j ys nw8 v9 I3 oI C oC2 D3 m₂ h tk E' Nx3 hi3 hP hV hC hm F N off ne hN3
      obtain ⟨led', rfl, HZ', hdis', hSt⟩ := hV
      rw [hxs] at hi3
      obtain ⟨l, hl, pm, u1, ln, pbs, pbn, sgs, sgn, hm1, -, -⟩ := HZ'.box j hi3
      have hv9 : v9 = .ref l.x := by
        have : (Z.ls.map fun l : Lex => Value.ref l.x)[j]? = some v9 := by simpa using hP
        rw [List.getElem?_map, hl] at this
        exact (Option.some.inj this).symm
      subst hv9
      have off3 := LCg.Off3.mem off
      have NF : News base L h ((l.x, instObj 52 l.dx) :: (l.dx, lexD w.params l.k1 l.k2 l.k3 l.k4 u1 l.u3 ln (.ref l.st) (.ref l.pb)) :: (I3, oI) :: (C, oC2) :: (D3, LCg.lst ys) :: (xl, lsO (Z.ls.map fun l : Lex => .ref l.x) xk) :: (bb, lsO bvs bk) :: (fb, lsO fvs fk) :: (nl, LCg.lst nvs) :: (144, tabObj ps) :: (tb, lsO [.ref td, .ref Z.hO] tk1) :: (td, LCg.lst tys) :: (nwR ++ led')) := fun q hq => by
        rcases List.mem_cons.mp hq with rfl | hq
        · exact N _ (.tail _ (.tail _ (.tail _ (.tail _ (.tail _ (.tail _ (.tail _ (.tail _ (.tail _ (.tail _ (List.mem_append_right _ (hm1 _ (by k_mem)))))))))))))
        rcases List.mem_cons.mp hq with rfl | hq
        · exact N _ (.tail _ (.tail _ (.tail _ (.tail _ (.tail _ (.tail _ (.tail _ (.tail _ (.tail _ (.tail _ (List.mem_append_right _ (hm1 _ (by k_mem)))))))))))))
        · exact N q hq
      clear N N9 F9
      have hl0 := hbx j hi3
      have hpend : (S.bx j).pend.length ≤ 1000 := by
        unfold AB.letters at hl0
        rw [(List.append_eq_nil_iff.mp hl0).1]; exact Nat.zero_le _
      k_steps
      unfold Stop
      (rename News _ _ _ _ => N9)
      (rename Fr _ _ _ _ => F9)
      refine wpAny_call ?_
      refine token_callX (ex := (I3, oI) :: (C, oC2) :: (D3, LCg.lst ys) :: (xl, lsO (Z.ls.map fun l : Lex => .ref l.x) xk) :: (bb, lsO bvs bk) :: (fb, lsO fvs fk) :: (nl, LCg.lst nvs) :: (144, tabObj ps) :: (tb, lsO [.ref td, .ref Z.hO] tk1) :: (td, LCg.lst tys) :: nwR) B0 X0 T0 (by k_room) (by k_units) rfl rfl codeHd OZ F9 (fun q hq => N9 q (.tail _ (.tail _ hq))) (fun p hp => List.forall_mem_cons.mpr ⟨?_, List.forall_mem_cons.mpr ⟨?_, List.forall_mem_cons.mpr ⟨?_, hdis' p hp⟩⟩⟩) HZ' hi3 hl hpend fun y b' t8 h8 tk8 led8 hc F8 N8 hne8 H8 => ?_
      · exact (off3 p (.tail _ (.tail _ (.tail _ (.tail _ (.tail _ (.tail _ (.tail _ (List.mem_append_right _ hp))))))))).1
      · exact (off3 p (.tail _ (.tail _ (.tail _ (.tail _ (.tail _ (.tail _ (.tail _ (List.mem_append_right _ hp))))))))).2.1
      · exact (off3 p (.tail _ (.tail _ (.tail _ (.tail _ (.tail _ (.tail _ (.tail _ (List.mem_append_right _ hp))))))))).2.2
      · rcases hc with ⟨htk, rfl, rfl⟩ | ⟨x, htk, -, -⟩
        · rw [upd_same] at H8
          dsimp only
          refine hN3 _ _ _ ((xl, lsO (Z.ls.map fun l : Lex => .ref l.x) xk) :: (bb, lsO bvs bk) :: (fb, lsO fvs fk) :: (nl, LCg.lst nvs) :: (144, tabObj ps) :: (tb, lsO [.ref td, .ref Z.hO] tk1) :: (td, LCg.lst tys) :: (nwR ++ led8)) F8 N8 (LCg.Off3.of fun p hp => ?_) (.inr ⟨_, .head _, rfl, _, rfl⟩) ⟨led8, rfl, H8, fun p hp q hq => hne8 p hp q (.tail _ (.tail _ (.tail _ hq))), by rw [rep_snoc]; exact strsSnoc hSt⟩
          rcases ex_split hp with z | z
          · exact off3 p (ex_left z)
          · exact ⟨hne8 p z _ (.head _), hne8 p z _ (.tail _ (.head _)), hne8 p z _ (.tail _ (.tail _ (.head _)))⟩
        · rw [take_some htk] at hl0
          cases hl0
    case wfin =>
      intro ys nw8 hI wl h tk F N off
      obtain ⟨led', rfl, HZ', hdis', hSt⟩ := hI
      rw [hxs] at hSt
      clear N9 F9
      k_steps
      unfold Stop
      (rename News _ _ _ _ => N9)
      (rename Fr _ _ _ _ => F9)
      (rename IntsAre bvs _ => hbI)
      (rename IntsAre fvs _ => hfI)
      refine ke_eq_ints ⟨_, (N9 (bb, lsO bvs bk) (by k_mem)).1, rfl, _, rfl⟩ ⟨_, (N9 (fb, lsO fvs fk) (by k_mem)).1, rfl, _, rfl⟩ hbI hfI (by ke_room) ?_
      rw [decide_eq_true rfl]
      (try clear N F)
      k_steps
      unfold Stop
      (rename News _ _ _ _ => N9)
      (rename Fr _ _ _ _ => F9)
      (rename IntsAre bvs _ => hbI)
      (rename IntsAre fvs _ => hfI)
      (rename StrsAre nvs _ => hY)
      obtain ⟨H2, hH2⟩ : ∃ H, H = heapOfN N9 := ⟨_, rfl⟩
      dsimp only [heapOfN] at hH2
      subst hH2
      have NW : ∀ q ∈ nwR, H2.get? q.1 = some q.2 := fun q hq => (N9 q (.tail _ (.tail _ (.tail _ (.tail _ (.tail _ (.tail _ (.tail _ (.tail _ (List.mem_append_left _ hq)))))))))).1
      have NLd : ∀ q ∈ led', H2.get? q.1 = some q.2 := fun q hq => (N9 q (.tail _ (.tail _ (.tail _ (.tail _ (.tail _ (.tail _ (.tail _ (.tail _ (List.mem_append_right _ hq)))))))))).1
      obtain ⟨as1, ra⟩ := reads_rows NW hA
      obtain ⟨as2, rh⟩ := reads_heard NLd HZ'
      have rt := reads_list_at (N9 (tb, lsO [.ref td, .ref Z.hO] tk1) (by k_mem)).1 rfl rfl (ReadsAll.cons (reads_list_at (N9 (td, LCg.lst tys) (by k_mem)).1 rfl rfl ra) (ReadsAll.cons rh ReadsAll.nil))
      change Reads H2 (.ref tb) (.list [rowsD sss, heardD Z.nm S.hd]) _ at rt
      rw [z2] at rt
      refine wpAny_call ?_
      refine call_ownG (news := []) B0 F9 X0 T0 (fun p hp => nomatch hp) rfl rfl rfl fun G9 hG FG BG XG TG sG => ?_
      have look : ∀ {a : Addr} {o : Obj}, H2.get? a = some o → G9.get? a = some o := fun {a o} e => by rw [hG]; exact hideAll_get _ e (fun q => nomatch q)
      refine due_spec (gt := gtN (nmF sis)) BG XG TG sG (by k_room) (by k_units) (look (N9 (nl, LCg.lst nvs) (by k_mem)).1) hY ⟨_, look (N9 (fb, lsO fvs fk) (by k_mem)).1, rfl, _, rfl⟩ hfI hf5 hfl5 (fun _ _ => rfl) (fun p hp => nomatch hp) fun db dsss das h8 tk8 k8 hRd hRo => ?_
      have F6 := fr_keeps F9 k8 (fun _ q => nomatch q)
      have N6 := news_keeps0 N9 k8
      have rt8 := Reads.keeps (fun b o e => k8.all e) rt
      have hEq : sss = dsss := rowsOk_eq hR hRo (fun j hj => hTk j hj)
      have hHe : heardD (nmF sis) S.hd = heardD (nmF sis) (dueH (nmF sis) first) := heard_congr fun n hn => by
        rw [hHd n hn]
        unfold dueH
        by_cases e : first = []
        · rw [if_pos e, if_neg (fun q => q e)]
        · rw [if_neg e, if_pos e]
      rw [hEq, hHe] at rt8
      have hok : ∀ ss ∈ dsss, ∀ x ∈ ss, PyData.strOk x = true := rows_strOk hgood hRo (fun j hj x hx => hf5 x (List.mem_filter.mp (show x ∈ first.filter _ from hx)).1)
      have hnk : ∀ k, k < 5 → PyData.strOk (nmF sis k) = true := fun k hk => (good_last (hgood k hk)).2
      clear N9 F9 k8 rt ra rh NW NLd look hG FG BG XG TG sG hA HZ'
      dsimp only
      k_steps
      unfold Stop
      refine eq_dataH rt8 hRd (shaped_tree hok hnk) (shaped_tree hok hnk) (by ke_room) ?_
      rw [eqv_tree hok hnk]
      k_steps
      unfold Stop
      (rename News _ _ _ _ => N9)
      (rename Fr _ _ _ _ => F9)
      have rw1 : Reads _ (.ref wl) (.list [.str (Str.ofString ""), .str (Str.ofString ""), .str (Str.ofString ""), .str (Str.ofString ""), .str (Str.ofString "")]) _ := reads_list_at (N9 (wl, LCg.lst ys) (by k_mem)).1 rfl rfl (hSt.reads _)
      refine eq_dataH rw1 (by ke_read) blank5_shaped blank5_shaped (by ke_room) ?_
      rw [blank5_eqv]
      k_steps
      exact ⟨rfl, fun b o e => F9.keep b o (by rw [← hbase]; exact e), rfl, hbare, ⟨GrownAt.of N9 (by k_mem), True.intro⟩⟩
end
end Mine

theorem PySem.Challenge.cw_wn0047_01_holds : PySem.Challenge.rw_wn0047_01.Holds :=
  Mine.law_top
