import PyProof.Rows.All
import Wide.All
import OpenK.AllK
import Wide.FinOn
import Lean
import PySem.Challenge.RW_wo0071_01
open PySem PySem.W PySem.Calls PyProof.Rows
set_option Elab.async false
set_option maxRecDepth 100000
local macro_rules | `(tactic| walk_at $s:str) => `(tactic| k_extra $s)
local macro_rules | `(tactic| k_all) => `(tactic| k_extra "k_all")
local macro_rules | `(tactic| k_ne) => `(tactic| k_extra "k_ne")
local macro_rules | `(tactic| k_room) => `(tactic| k_extra "k_room")
local macro_rules | `(tactic| ktu_off) => `(tactic| k_extra "ktu_off")
local macro_rules | `(tactic| lcg_off) => `(tactic| k_extra "lcg_off")
local macro_rules | `(tactic| k_mem) => `(tactic| k_extra "k_mem")
local macro_rules | `(tactic| k_subL) => `(tactic| k_extra "k_subL")
section
open PySem PySem.W PyProof.Rows
set_option maxHeartbeats 8000000
namespace Mine
noncomputable abbrev pwBody : List Stmt := PySem.Challenge.pw_wo0071_01.main.body
/-- the i-th statement is a def with these parts -/
noncomputable def FnAt (l : List Stmt) (i : Nat) (p : Arguments) (b : List Stmt) (s : Scope) : Prop := match l[i]? with
  | some (.FunctionDef _ p' b' _ _ _ s' _ _ _) => p' = p ∧ b' = b ∧ s' = s
  | _ => False
noncomputable def ClAt (l : List Stmt) (i : Nat) (b : List Stmt) : Prop := match l[i]? with
  | some (.ClassDef _ _ _ b' _ _ _ _ _ _ _) => b' = b
  | _ => False

/-- the part of the heap behind the top that the law reaches -/
noncomputable def hd.heap_39 : Params → Frag := fun P =>
  (fun (c17 : List Stmt) (p0 : Arguments) (b0 : List Stmt) (s0 : Scope) (p1 : Arguments) (b1 : List Stmt) (s1 : Scope) (p2 : Arguments) (b2 : List Stmt) (s2 : Scope) (p3 : Arguments) (b3 : List Stmt) (s3 : Scope) (p4 : Arguments) (b4 : List Stmt) (s4 : Scope) (p5 : Arguments) (b5 : List Stmt) (s5 : Scope) (p6 : Arguments) (b6 : List Stmt) (s6 : Scope) (p7 : Arguments) (b7 : List Stmt) (s7 : Scope) (p8 : Arguments) (b8 : List Stmt) (s8 : Scope) (p9 : Arguments) (b9 : List Stmt) (s9 : Scope) (p10 : Arguments) (b10 : List Stmt) (s10 : Scope) (p11 : Arguments) (b11 : List Stmt) (s11 : Scope) (p12 : Arguments) (b12 : List Stmt) (s12 : Scope) (p13 : Arguments) (b13 : List Stmt) (s13 : Scope) (p14 : Arguments) (b14 : List Stmt) (s14 : Scope) (p15 : Arguments) (b15 : List Stmt) (s15 : Scope) (p16 : Arguments) (b16 : List Stmt) (s16 : Scope) (p17 : Arguments) (b17 : List Stmt) (s17 : Scope) (p18 : Arguments) (b18 : List Stmt) (s18 : Scope) (p19 : Arguments) (b19 : List Stmt) (s19 : Scope) (p20 : Arguments) (b20 : List Stmt) (s20 : Scope) (p21 : Arguments) (b21 : List Stmt) (s21 : Scope) (p22 : Arguments) (b22 : List Stmt) (s22 : Scope) (p23 : Arguments) (b23 : List Stmt) (s23 : Scope) (p24 : Arguments) (b24 : List Stmt) (s24 : Scope) (p25 : Arguments) (b25 : List Stmt) (s25 : Scope) (p26 : Arguments) (b26 : List Stmt) (s26 : Scope) (p27 : Arguments) (b27 : List Stmt) (s27 : Scope) (p28 : Arguments) (b28 : List Stmt) (s28 : Scope) (p29 : Arguments) (b29 : List Stmt) (s29 : Scope) (p30 : Arguments) (b30 : List Stmt) (s30 : Scope) (p31 : Arguments) (b31 : List Stmt) (s31 : Scope) (p32 : Arguments) (b32 : List Stmt) (s32 : Scope) (_ : ClAt pwBody 17 c17) (_ : FnAt pwBody 1 p0 b0 s0) (_ : FnAt pwBody 5 p1 b1 s1) (_ : FnAt pwBody 10 p2 b2 s2) (_ : FnAt pwBody 11 p3 b3 s3) (_ : FnAt pwBody 16 p4 b4 s4) (_ : FnAt c17 0 p5 b5 s5) (_ : FnAt c17 1 p6 b6 s6) (_ : FnAt c17 2 p7 b7 s7) (_ : FnAt c17 3 p8 b8 s8) (_ : FnAt c17 4 p9 b9 s9) (_ : FnAt c17 5 p10 b10 s10) (_ : FnAt c17 6 p11 b11 s11) (_ : FnAt c17 7 p12 b12 s12) (_ : FnAt c17 8 p13 b13 s13) (_ : FnAt c17 9 p14 b14 s14) (_ : FnAt c17 10 p15 b15 s15) (_ : FnAt c17 11 p16 b16 s16) (_ : FnAt c17 12 p17 b17 s17) (_ : FnAt c17 13 p18 b18 s18) (_ : FnAt c17 14 p19 b19 s19) (_ : FnAt c17 15 p20 b20 s20) (_ : FnAt c17 16 p21 b21 s21) (_ : FnAt pwBody 19 p22 b22 s22) (_ : FnAt pwBody 20 p23 b23 s23) (_ : FnAt pwBody 22 p24 b24 s24) (_ : FnAt pwBody 23 p25 b25 s25) (_ : FnAt pwBody 24 p26 b26 s26) (_ : FnAt pwBody 25 p27 b27 s27) (_ : FnAt pwBody 26 p28 b28 s28) (_ : FnAt pwBody 27 p29 b29 s29) (_ : FnAt pwBody 28 p30 b30 s30) (_ : FnAt pwBody 29 p31 b31 s31) (_ : FnAt pwBody 30 p32 b32 s32) =>
  ((
(nat_lit 2, { cls := PySem.Value.none, data := PySem.Data.dict #[{ hash := PySem.PyData.keyHash P (PySem.Str.ofString "\x69mport.loaded._sre"), key := PySem.Value.str (PySem.Str.ofString "\x69mport.loaded._sre") 183, val := PySem.Value.bool true }, { hash := PySem.PyData.keyHash P (PySem.Str.ofString "class._frozen_importlib.BuiltinImporter"), key := PySem.Value.str (PySem.Str.ofString "class._frozen_importlib.BuiltinImporter") 185, val := PySem.Value.ref 14 }, { hash := PySem.PyData.keyHash P (PySem.Str.ofString "watched.\x69mport"), key := PySem.Value.str (PySem.Str.ofString "watched.\x69mport") 206, val := PySem.Value.ref 18 }, { hash := PySem.PyData.keyHash P (PySem.Str.ofString "class._frozen_importlib.ModuleSpec"), key := PySem.Value.str (PySem.Str.ofString "class._frozen_importlib.ModuleSpec") 216, val := PySem.Value.ref 22 }, { hash := PySem.PyData.keyHash P (PySem.Str.ofString "sys.modules.booked-epoch"), key := PySem.Value.str (PySem.Str.ofString "sys.modules.booked-epoch") 245, val := PySem.Value.int 3 0 }, { hash := PySem.PyData.keyHash P (PySem.Str.ofString "\x69mport.later-laid._sre"), key := PySem.Value.str (PySem.Str.ofString "\x69mport.later-laid._sre") 270, val := PySem.Value.bool true }, { hash := PySem.PyData.keyHash P (PySem.Str.ofString "watched.library"), key := PySem.Value.str (PySem.Str.ofString "watched.library") 272, val := PySem.Value.ref 27 }, { hash := PySem.PyData.keyHash P (PySem.Str.ofString "watched.library-objects"), key := PySem.Value.str (PySem.Str.ofString "watched.library-objects") 0, val := PySem.Value.str (PySem.Str.ofString "\x0c") 0 }, { hash := PySem.PyData.keyHash P (PySem.Str.ofString "watched.library-deep._sre"), key := PySem.Value.str (PySem.Str.ofString "watched.library-deep._sre") 273, val := PySem.Value.str (PySem.Str.ofString "\x04\x00\x00\x0b\x04\x00\x00\x0b\x04\x00\x00\x03\x04\x00\x00\x0b\x08\x04dict\x02") 0 }, { hash := PySem.PyData.keyHash P (PySem.Str.ofString "type.__subclasses__.Exception.0"), key := PySem.Value.str (PySem.Str.ofString "type.__subclasses__.Exception.0") 307, val := PySem.Value.int 48 0 }, { hash := PySem.PyData.keyHash P (PySem.Str.ofString "type.__subclasses__.Exception.n"), key := PySem.Value.str (PySem.Str.ofString "type.__subclasses__.Exception.n") 308, val := PySem.Value.int 1 0 }] 11 }) ::
    (nat_lit 3, { cls := PySem.Value.type "dict", data := PySem.Data.dict #[{ hash := PySem.PyData.keyHash P (PySem.Str.ofString "__name__"), key := PySem.Value.str (PySem.Str.ofString "__name__") 165, val := PySem.Value.str (PySem.Str.ofString "law_wo0071_01") 653 }, { hash := PySem.PyData.keyHash P (PySem.Str.ofString "__doc__"), key := PySem.Value.str (PySem.Str.ofString "__doc__") 166, val := PySem.Value.none }, { hash := PySem.PyData.keyHash P (PySem.Str.ofString "__package__"), key := PySem.Value.str (PySem.Str.ofString "__package__") 167, val := PySem.Value.none }, { hash := PySem.PyData.keyHash P (PySem.Str.ofString "__loader__"), key := PySem.Value.str (PySem.Str.ofString "__loader__") 168, val := PySem.Value.builtin "__main__.__loader__#\x6fpaque" }, { hash := PySem.PyData.keyHash P (PySem.Str.ofString "__spec__"), key := PySem.Value.str (PySem.Str.ofString "__spec__") 169, val := PySem.Value.none }, { hash := PySem.PyData.keyHash P (PySem.Str.ofString "__annotations__"), key := PySem.Value.str (PySem.Str.ofString "__annotations__") 170, val := PySem.Value.ref 6 }, { hash := PySem.PyData.keyHash P (PySem.Str.ofString "__builtins__"), key := PySem.Value.str (PySem.Str.ofString "__builtins__") 171, val := PySem.Value.ref 4 }, { hash := PySem.PyData.keyHash P (PySem.Str.ofString "__file__"), key := PySem.Value.str (PySem.Str.ofString "__file__") 173, val := PySem.Value.str (PySem.Str.ofString "/claim/cut.py") 172 }, { hash := PySem.PyData.keyHash P (PySem.Str.ofString "__cached__"), key := PySem.Value.str (PySem.Str.ofString "__cached__") 174, val := PySem.Value.none }, { hash := PySem.PyData.keyHash P (PySem.Str.ofString "_sre"), key := PySem.Value.str (PySem.Str.ofString "_sre") 275, val := PySem.Value.ref 12 }, { hash := PySem.PyData.keyHash P (PySem.Str.ofString "_wall"), key := PySem.Value.str (PySem.Str.ofString "_wall") 288, val := PySem.Value.ref 38 }, { hash := PySem.PyData.keyHash P (PySem.Str.ofString "Error"), key := PySem.Value.str (PySem.Str.ofString "Error") 310, val := PySem.Value.ref 48 }, { hash := PySem.PyData.keyHash P (PySem.Str.ofString "error_reply"), key := PySem.Value.str (PySem.Str.ofString "error_reply") 326, val := PySem.Value.ref 61 }, { hash := PySem.PyData.keyHash P (PySem.Str.ofString "parse257"), key := PySem.Value.str (PySem.Str.ofString "parse257") 337, val := PySem.Value.ref 70 }, { hash := PySem.PyData.keyHash P (PySem.Str.ofString "_MAX_STRING_SIZE"), key := PySem.Value.str (PySem.Str.ofString "_MAX_STRING_SIZE") 341, val := PySem.Value.int 40 340 }, { hash := PySem.PyData.keyHash P (PySem.Str.ofString "_MOVE_COST"), key := PySem.Value.str (PySem.Str.ofString "_MOVE_COST") 343, val := PySem.Value.int 2 342 }, { hash := PySem.PyData.keyHash P (PySem.Str.ofString "_CASE_COST"), key := PySem.Value.str (PySem.Str.ofString "_CASE_COST") 345, val := PySem.Value.int 1 344 }, { hash := PySem.PyData.keyHash P (PySem.Str.ofString "_substitution_cost"), key := PySem.Value.str (PySem.Str.ofString "_substitution_cost") 353, val := PySem.Value.ref 77 }, { hash := PySem.PyData.keyHash P (PySem.Str.ofString "_levenshtein_distance"), key := PySem.Value.str (PySem.Str.ofString "_levenshtein_distance") 373, val := PySem.Value.ref 84 }, { hash := PySem.PyData.keyHash P (PySem.Str.ofString "tspecials"), key := PySem.Value.str (PySem.Str.ofString "tspecials") 409, val := PySem.Value.ref 89 }, { hash := PySem.PyData.keyHash P (PySem.Str.ofString "_name_disallowed_re"), key := PySem.Value.str (PySem.Str.ofString "_name_disallowed_re") 435, val := PySem.Value.ref 94 }, { hash := PySem.PyData.keyHash P (PySem.Str.ofString "_value_disallowed_re"), key := PySem.Value.str (PySem.Str.ofString "_value_disallowed_re") 469, val := PySem.Value.ref 99 }, { hash := PySem.PyData.keyHash P (PySem.Str.ofString "_formatparam"), key := PySem.Value.str (PySem.Str.ofString "_formatparam") 479, val := PySem.Value.ref 107 }, { hash := PySem.PyData.keyHash P (PySem.Str.ofString "Headers"), key := PySem.Value.str (PySem.Str.ofString "Headers") 636, val := PySem.Value.ref 228 }, { hash := PySem.PyData.keyHash P (PySem.Str.ofString "_raise_serialization_error"), key := PySem.Value.str (PySem.Str.ofString "_raise_serialization_error") 645, val := PySem.Value.ref 239 }, { hash := PySem.PyData.keyHash P (PySem.Str.ofString "_escape_cdata"), key := PySem.Value.str (PySem.Str.ofString "_escape_cdata") 652, val := PySem.Value.ref 246 }, { hash := PySem.PyData.keyHash P (PySem.Str.ofString "_law_spoilt"), key := PySem.Value.str (PySem.Str.ofString "_law_spoilt") 665, val := PySem.Value.ref 253 }, { hash := PySem.PyData.keyHash P (PySem.Str.ofString "_law_cost"), key := PySem.Value.str (PySem.Str.ofString "_law_cost") 671, val := PySem.Value.ref 258 }, { hash := PySem.PyData.keyHash P (PySem.Str.ofString "_law_reply"), key := PySem.Value.str (PySem.Str.ofString "_law_reply") 679, val := PySem.Value.ref 265 }, { hash := PySem.PyData.keyHash P (PySem.Str.ofString "_law_read"), key := PySem.Value.str (PySem.Str.ofString "_law_read") 687, val := PySem.Value.ref 272 }, { hash := PySem.PyData.keyHash P (PySem.Str.ofString "_law_heard"), key := PySem.Value.str (PySem.Str.ofString "_law_heard") 693, val := PySem.Value.ref 277 }, { hash := PySem.PyData.keyHash P (PySem.Str.ofString "_law_run"), key := PySem.Value.str (PySem.Str.ofString "_law_run") 699, val := PySem.Value.ref 282 }, { hash := PySem.PyData.keyHash P (PySem.Str.ofString "_law_written"), key := PySem.Value.str (PySem.Str.ofString "_law_written") 705, val := PySem.Value.ref 287 }, { hash := PySem.PyData.keyHash P (PySem.Str.ofString "_law_costs"), key := PySem.Value.str (PySem.Str.ofString "_law_costs") 711, val := PySem.Value.ref 292 }, { hash := PySem.PyData.keyHash P (PySem.Str.ofString "law"), key := PySem.Value.str (PySem.Str.ofString "law") 717, val := PySem.Value.ref 297 }] 35 }) ::
    (nat_lit 32, { cls := PySem.Value.type "tuple", data := PySem.Data.seq #[] }) ::
    (nat_lit 34, { cls := PySem.Value.type "tuple", data := PySem.Data.seq #[PySem.Value.str (PySem.Str.ofString "k") 285] }) ::
    (nat_lit 35, { cls := PySem.Value.type "tuple", data := PySem.Data.seq #[] }) ::
    (nat_lit 37, { cls := PySem.Value.type "code", data := PySem.Data.fields #[PySem.Value.str (PySem.Str.ofString "_wall") 282, PySem.Value.str (PySem.Str.ofString "_wall") 283, PySem.Value.str (PySem.Str.ofString "/claim/cut.py") 284, PySem.Value.int 2 0, PySem.Value.int 1 0, PySem.Value.int 0 0, PySem.Value.int 0 0, PySem.Value.int 3 0, PySem.Value.ref 32, PySem.Value.bool true, PySem.Value.int 276 0, PySem.Value.ref 33, PySem.Value.none, PySem.Value.ref 34, PySem.Value.ref 35, PySem.Value.ref 36, PySem.Value.int 286 0, PySem.Value.int 2 0, PySem.Value.str (PySem.Str.ofString "/claim/cut.py") 287] }) ::
    (nat_lit 38, { cls := PySem.Value.type "function", data := PySem.Data.func { name := PySem.Str.ofString "_wall", qualname := PySem.Str.ofString "_wall", params := p0, body := PySem.FuncBody.stmts b0, scope := s0, globals := 3, closure := [], defaults := PySem.Value.none, kwdefaults := PySem.Value.none, pyModule := PySem.Value.str (PySem.Str.ofString "__main__") 164, code := PySem.Value.ref 37 } }) ::
    (nat_lit 39, { cls := PySem.Value.type "tuple", data := PySem.Data.seq #[PySem.Value.type "Exception"] }) ::
    (nat_lit 46, { cls := PySem.Value.type "tuple", data := PySem.Data.seq #[] }) ::
    (nat_lit 47, { cls := PySem.Value.type "dict", data := PySem.Data.dict #[{ hash := PySem.PyData.keyHash P (PySem.Str.ofString "__module__"), key := PySem.Value.str (PySem.Str.ofString "__module__") 298, val := PySem.Value.str (PySem.Str.ofString "cpy313.ftplib") 289 }, { hash := PySem.PyData.keyHash P (PySem.Str.ofString "__firstlineno__"), key := PySem.Value.str (PySem.Str.ofString "__firstlineno__") 302, val := PySem.Value.int 6 301 }, { hash := PySem.PyData.keyHash P (PySem.Str.ofString "__static_attributes__"), key := PySem.Value.str (PySem.Str.ofString "__static_attributes__") 303, val := PySem.Value.ref 46 }, { hash := PySem.PyData.keyHash P (PySem.Str.ofString "__weakref__"), key := PySem.Value.str (PySem.Str.ofString "__weakref__") 305, val := PySem.Value.ref 49 }, { hash := PySem.PyData.keyHash P (PySem.Str.ofString "__doc__"), key := PySem.Value.str (PySem.Str.ofString "__doc__") 306, val := PySem.Value.none }] 3 }) ::
    (nat_lit 48, { cls := PySem.Value.type "type", data := PySem.Data.cls { name := PySem.Str.ofString "Error", bases := [PySem.Value.type "Exception"], mro := [PySem.Value.ref 48, PySem.Value.type "Exception", PySem.Value.type "BaseException", PySem.Value.type "object"], ns := 47, qualname := PySem.Str.ofString "Error", subclasses := [PySem.Value.ref 61] }, slots := #[some (PySem.Value.ref 39), none, some (PySem.Value.str (PySem.Str.ofString "Error") 291), some (PySem.Value.str (PySem.Str.ofString "Error") 299), some (PySem.Value.builtin "Exception.__new__"), some (PySem.Value.bool true)] }) ::
    (nat_lit 49, { cls := PySem.Value.type "getset_descriptor", data := PySem.Data.fields #[PySem.Value.str (PySem.Str.ofString "__weakref__") 304, PySem.Value.ref 48, PySem.Value.builtin "ExceptionGroup.__weakref__", PySem.Value.none] }) ::
    (nat_lit 52, { cls := PySem.Value.type "tuple", data := PySem.Data.seq #[PySem.Value.ref 48] }) ::
    (nat_lit 59, { cls := PySem.Value.type "tuple", data := PySem.Data.seq #[] }) ::
    (nat_lit 60, { cls := PySem.Value.type "dict", data := PySem.Data.dict #[{ hash := PySem.PyData.keyHash P (PySem.Str.ofString "__module__"), key := PySem.Value.str (PySem.Str.ofString "__module__") 318, val := PySem.Value.str (PySem.Str.ofString "cpy313.ftplib") 289 }, { hash := PySem.PyData.keyHash P (PySem.Str.ofString "__firstlineno__"), key := PySem.Value.str (PySem.Str.ofString "__firstlineno__") 322, val := PySem.Value.int 8 321 }, { hash := PySem.PyData.keyHash P (PySem.Str.ofString "__static_attributes__"), key := PySem.Value.str (PySem.Str.ofString "__static_attributes__") 323, val := PySem.Value.ref 59 }, { hash := PySem.PyData.keyHash P (PySem.Str.ofString "__doc__"), key := PySem.Value.str (PySem.Str.ofString "__doc__") 324, val := PySem.Value.none }] 2 }) ::
    (nat_lit 61, { cls := PySem.Value.type "type", data := PySem.Data.cls { name := PySem.Str.ofString "error_reply", bases := [PySem.Value.ref 48], mro := [PySem.Value.ref 61, PySem.Value.ref 48, PySem.Value.type "Exception", PySem.Value.type "BaseException", PySem.Value.type "object"], ns := 60, qualname := PySem.Str.ofString "error_reply" }, slots := #[some (PySem.Value.ref 52), none, some (PySem.Value.str (PySem.Str.ofString "error_reply") 311), some (PySem.Value.str (PySem.Str.ofString "error_reply") 319), some (PySem.Value.builtin "Exception.__new__"), some (PySem.Value.bool true)] }) ::
    (nat_lit 64, { cls := PySem.Value.type "tuple", data := PySem.Data.seq #[] }) ::
    (nat_lit 66, { cls := PySem.Value.type "tuple", data := PySem.Data.seq #[PySem.Value.str (PySem.Str.ofString "resp") 330, PySem.Value.str (PySem.Str.ofString "dirname") 331, PySem.Value.str (PySem.Str.ofString "i") 332, PySem.Value.str (PySem.Str.ofString "n") 333, PySem.Value.str (PySem.Str.ofString "c") 334] }) ::
    (nat_lit 67, { cls := PySem.Value.type "tuple", data := PySem.Data.seq #[] }) ::
    (nat_lit 69, { cls := PySem.Value.type "code", data := PySem.Data.fields #[PySem.Value.str (PySem.Str.ofString "parse257") 327, PySem.Value.str (PySem.Str.ofString "parse257") 328, PySem.Value.str (PySem.Str.ofString "/claim/cut.py") 329, PySem.Value.int 10 0, PySem.Value.int 1 0, PySem.Value.int 0 0, PySem.Value.int 0 0, PySem.Value.int 3 0, PySem.Value.ref 64, PySem.Value.bool true, PySem.Value.int 276 0, PySem.Value.ref 65, PySem.Value.none, PySem.Value.ref 66, PySem.Value.ref 67, PySem.Value.ref 68, PySem.Value.int 335 0, PySem.Value.int 10 0, PySem.Value.str (PySem.Str.ofString "/claim/cut.py") 336] }) ::
    (nat_lit 70, { cls := PySem.Value.type "function", data := PySem.Data.func { name := PySem.Str.ofString "parse257", qualname := PySem.Str.ofString "parse257", params := p1, body := PySem.FuncBody.stmts b1, scope := s1, globals := 3, closure := [], defaults := PySem.Value.none, kwdefaults := PySem.Value.none, pyModule := PySem.Value.str (PySem.Str.ofString "cpy313.ftplib") 289, code := PySem.Value.ref 69 } }) ::
    (nat_lit 71, { cls := PySem.Value.type "tuple", data := PySem.Data.seq #[] }) ::
    (nat_lit 73, { cls := PySem.Value.type "tuple", data := PySem.Data.seq #[PySem.Value.str (PySem.Str.ofString "ch_a") 349, PySem.Value.str (PySem.Str.ofString "ch_b") 350] }) ::
    (nat_lit 74, { cls := PySem.Value.type "tuple", data := PySem.Data.seq #[] }) ::
    (nat_lit 76, { cls := PySem.Value.type "code", data := PySem.Data.fields #[PySem.Value.str (PySem.Str.ofString "_substitution_cost") 346, PySem.Value.str (PySem.Str.ofString "_substitution_cost") 347, PySem.Value.str (PySem.Str.ofString "/claim/cut.py") 348, PySem.Value.int 31 0, PySem.Value.int 2 0, PySem.Value.int 0 0, PySem.Value.int 0 0, PySem.Value.int 3 0, PySem.Value.ref 71, PySem.Value.bool true, PySem.Value.int 276 0, PySem.Value.ref 72, PySem.Value.none, PySem.Value.ref 73, PySem.Value.ref 74, PySem.Value.ref 75, PySem.Value.int 351 0, PySem.Value.int 31 0, PySem.Value.str (PySem.Str.ofString "/claim/cut.py") 352] }) ::
    (nat_lit 77, { cls := PySem.Value.type "function", data := PySem.Data.func { name := PySem.Str.ofString "_substitution_cost", qualname := PySem.Str.ofString "_substitution_cost", params := p2, body := PySem.FuncBody.stmts b2, scope := s2, globals := 3, closure := [], defaults := PySem.Value.none, kwdefaults := PySem.Value.none, pyModule := PySem.Value.str (PySem.Str.ofString "cpy313.traceback") 338, code := PySem.Value.ref 76 } }) ::
    (nat_lit 78, { cls := PySem.Value.type "tuple", data := PySem.Data.seq #[] }) ::
    (nat_lit 80, { cls := PySem.Value.type "tuple", data := PySem.Data.seq #[PySem.Value.str (PySem.Str.ofString "a") 357, PySem.Value.str (PySem.Str.ofString "b") 358, PySem.Value.str (PySem.Str.ofString "max_cost") 359, PySem.Value.str (PySem.Str.ofString "pre") 360, PySem.Value.str (PySem.Str.ofString "post") 361, PySem.Value.str (PySem.Str.ofString "row") 362, PySem.Value.str (PySem.Str.ofString "result") 363, PySem.Value.str (PySem.Str.ofString "bindex") 364, PySem.Value.str (PySem.Str.ofString "bchar") 365, PySem.Value.str (PySem.Str.ofString "distance") 366, PySem.Value.str (PySem.Str.ofString "minimum") 367, PySem.Value.str (PySem.Str.ofString "index") 368, PySem.Value.str (PySem.Str.ofString "substitute") 369, PySem.Value.str (PySem.Str.ofString "insert_delete") 370] }) ::
    (nat_lit 81, { cls := PySem.Value.type "tuple", data := PySem.Data.seq #[] }) ::
    (nat_lit 83, { cls := PySem.Value.type "code", data := PySem.Data.fields #[PySem.Value.str (PySem.Str.ofString "_levenshtein_distance") 354, PySem.Value.str (PySem.Str.ofString "_levenshtein_distance") 355, PySem.Value.str (PySem.Str.ofString "/claim/cut.py") 356, PySem.Value.int 37 0, PySem.Value.int 3 0, PySem.Value.int 0 0, PySem.Value.int 0 0, PySem.Value.int 3 0, PySem.Value.ref 78, PySem.Value.bool true, PySem.Value.int 276 0, PySem.Value.ref 79, PySem.Value.none, PySem.Value.ref 80, PySem.Value.ref 81, PySem.Value.ref 82, PySem.Value.int 371 0, PySem.Value.int 37 0, PySem.Value.str (PySem.Str.ofString "/claim/cut.py") 372] }) ::
    (nat_lit 84, { cls := PySem.Value.type "function", data := PySem.Data.func { name := PySem.Str.ofString "_levenshtein_distance", qualname := PySem.Str.ofString "_levenshtein_distance", params := p3, body := PySem.FuncBody.stmts b3, scope := s3, globals := 3, closure := [], defaults := PySem.Value.none, kwdefaults := PySem.Value.none, pyModule := PySem.Value.str (PySem.Str.ofString "cpy313.traceback") 338, code := PySem.Value.ref 83 } }) ::
    (nat_lit 88, { cls := PySem.Value.type "tuple", data := PySem.Data.seq #[PySem.Value.int 14 0, PySem.Value.int 14 0, PySem.Value.int 4 0, PySem.Value.int 1 0, PySem.Value.int 1 0, PySem.Value.int 9 0, PySem.Value.int 0 0, PySem.Value.int 4227896069 0, PySem.Value.int 939524097 0, PySem.Value.int 0 0, PySem.Value.int 0 0, PySem.Value.int 0 0, PySem.Value.int 0 0, PySem.Value.int 0 0, PySem.Value.int 0 0, PySem.Value.int 13 0, PySem.Value.int 11 0, PySem.Value.int 9 0, PySem.Value.int 0 0, PySem.Value.int 4227896069 0, PySem.Value.int 939524097 0, PySem.Value.int 0 0, PySem.Value.int 0 0, PySem.Value.int 0 0, PySem.Value.int 0 0, PySem.Value.int 0 0, PySem.Value.int 0 0, PySem.Value.int 1 0] }) ::
    (nat_lit 89, { cls := PySem.Value.type "re.Pattern", data := PySem.Data.fields #[PySem.Value.str (PySem.Str.ofString "[ \\(\\)<>@,;:\\\\\"/\\[\\]\\?=]") 377, PySem.Value.int 32 408, PySem.Value.int 0 0, PySem.Value.none, PySem.Value.none, PySem.Value.ref 88, PySem.Value.int 0 0] }) ::
    (nat_lit 93, { cls := PySem.Value.type "tuple", data := PySem.Data.seq #[PySem.Value.int 14 0, PySem.Value.int 10 0, PySem.Value.int 4 0, PySem.Value.int 1 0, PySem.Value.int 1 0, PySem.Value.int 22 0, PySem.Value.int 0 0, PySem.Value.int 31 0, PySem.Value.int 16 0, PySem.Value.int 127 0, PySem.Value.int 0 0, PySem.Value.int 13 0, PySem.Value.int 7 0, PySem.Value.int 22 0, PySem.Value.int 0 0, PySem.Value.int 31 0, PySem.Value.int 16 0, PySem.Value.int 127 0, PySem.Value.int 0 0, PySem.Value.int 1 0] }) ::
    (nat_lit 94, { cls := PySem.Value.type "re.Pattern", data := PySem.Data.fields #[PySem.Value.str (PySem.Str.ofString "[\\x00-\\x1F\\x7F]") 411, PySem.Value.int 32 434, PySem.Value.int 0 0, PySem.Value.none, PySem.Value.none, PySem.Value.ref 93, PySem.Value.int 0 0] }) ::
    (nat_lit 98, { cls := PySem.Value.type "tuple", data := PySem.Data.seq #[PySem.Value.int 14 0, PySem.Value.int 14 0, PySem.Value.int 4 0, PySem.Value.int 1 0, PySem.Value.int 1 0, PySem.Value.int 9 0, PySem.Value.int 4294966783 0, PySem.Value.int 0 0, PySem.Value.int 0 0, PySem.Value.int 2147483648 0, PySem.Value.int 0 0, PySem.Value.int 0 0, PySem.Value.int 0 0, PySem.Value.int 0 0, PySem.Value.int 0 0, PySem.Value.int 13 0, PySem.Value.int 11 0, PySem.Value.int 9 0, PySem.Value.int 4294966783 0, PySem.Value.int 0 0, PySem.Value.int 0 0, PySem.Value.int 2147483648 0, PySem.Value.int 0 0, PySem.Value.int 0 0, PySem.Value.int 0 0, PySem.Value.int 0 0, PySem.Value.int 0 0, PySem.Value.int 1 0] }) ::
    (nat_lit 99, { cls := PySem.Value.type "re.Pattern", data := PySem.Data.fields #[PySem.Value.str (PySem.Str.ofString "[\\x00-\\x08\\x0A-\\x1F\\x7F]") 437, PySem.Value.int 32 468, PySem.Value.int 0 0, PySem.Value.none, PySem.Value.none, PySem.Value.ref 98, PySem.Value.int 0 0] }) ::
    (nat_lit 100, { cls := PySem.Value.type "tuple", data := PySem.Data.seq #[PySem.Value.none, PySem.Value.int 1 470] }) ::
    (nat_lit 101, { cls := PySem.Value.type "tuple", data := PySem.Data.seq #[] }) ::
    (nat_lit 103, { cls := PySem.Value.type "tuple", data := PySem.Data.seq #[PySem.Value.str (PySem.Str.ofString "param") 474, PySem.Value.str (PySem.Str.ofString "value") 475, PySem.Value.str (PySem.Str.ofString "quote") 476] }) ::
    (nat_lit 104, { cls := PySem.Value.type "tuple", data := PySem.Data.seq #[] }) ::
    (nat_lit 106, { cls := PySem.Value.type "code", data := PySem.Data.fields #[PySem.Value.str (PySem.Str.ofString "_formatparam") 471, PySem.Value.str (PySem.Str.ofString "_formatparam") 472, PySem.Value.str (PySem.Str.ofString "/claim/cut.py") 473, PySem.Value.int 79 0, PySem.Value.int 3 0, PySem.Value.int 0 0, PySem.Value.int 0 0, PySem.Value.int 3 0, PySem.Value.ref 101, PySem.Value.bool true, PySem.Value.int 276 0, PySem.Value.ref 102, PySem.Value.none, PySem.Value.ref 103, PySem.Value.ref 104, PySem.Value.ref 105, PySem.Value.int 477 0, PySem.Value.int 79 0, PySem.Value.str (PySem.Str.ofString "/claim/cut.py") 478] }) ::
    (nat_lit 107, { cls := PySem.Value.type "function", data := PySem.Data.func { name := PySem.Str.ofString "_formatparam", qualname := PySem.Str.ofString "_formatparam", params := p4, body := PySem.FuncBody.stmts b4, scope := s4, globals := 3, closure := [], defaults := PySem.Value.ref 100, kwdefaults := PySem.Value.none, pyModule := PySem.Value.str (PySem.Str.ofString "cpy313.wsgiref.headers") 374, code := PySem.Value.ref 106 } }) ::
    (nat_lit 115, { cls := PySem.Value.type "tuple", data := PySem.Data.seq #[PySem.Value.none] }) ::
    (nat_lit 116, { cls := PySem.Value.type "tuple", data := PySem.Data.seq #[] }) ::
    (nat_lit 118, { cls := PySem.Value.type "tuple", data := PySem.Data.seq #[PySem.Value.str (PySem.Str.ofString "self") 495, PySem.Value.str (PySem.Str.ofString "headers") 496, PySem.Value.str (PySem.Str.ofString "k") 497, PySem.Value.str (PySem.Str.ofString "v") 498] }) ::
    (nat_lit 119, { cls := PySem.Value.type "tuple", data := PySem.Data.seq #[] }) ::
    (nat_lit 121, { cls := PySem.Value.type "code", data := PySem.Data.fields #[PySem.Value.str (PySem.Str.ofString "__init__") 492, PySem.Value.str (PySem.Str.ofString "Headers.__init__") 493, PySem.Value.str (PySem.Str.ofString "/claim/cut.py") 494, PySem.Value.int 90 0, PySem.Value.int 2 0, PySem.Value.int 0 0, PySem.Value.int 0 0, PySem.Value.int 3 0, PySem.Value.ref 116, PySem.Value.bool true, PySem.Value.int 276 0, PySem.Value.ref 117, PySem.Value.none, PySem.Value.ref 118, PySem.Value.ref 119, PySem.Value.ref 120, PySem.Value.int 499 0, PySem.Value.int 90 0, PySem.Value.str (PySem.Str.ofString "/claim/cut.py") 500] }) ::
    (nat_lit 122, { cls := PySem.Value.type "function", data := PySem.Data.func { name := PySem.Str.ofString "__init__", qualname := PySem.Str.ofString "Headers.__init__", params := p5, body := PySem.FuncBody.stmts b5, scope := s5, globals := 3, closure := [], defaults := PySem.Value.ref 115, kwdefaults := PySem.Value.none, pyModule := PySem.Value.str (PySem.Str.ofString "cpy313.wsgiref.headers") 374, code := PySem.Value.ref 121 } }) ::
    (nat_lit 123, { cls := PySem.Value.type "tuple", data := PySem.Data.seq #[] }) ::
    (nat_lit 125, { cls := PySem.Value.type "tuple", data := PySem.Data.seq #[PySem.Value.str (PySem.Str.ofString "self") 505, PySem.Value.str (PySem.Str.ofString "value") 506, PySem.Value.str (PySem.Str.ofString "name") 507, PySem.Value.str (PySem.Str.ofString "regex") 508] }) ::
    (nat_lit 126, { cls := PySem.Value.type "tuple", data := PySem.Data.seq #[] }) ::
    (nat_lit 128, { cls := PySem.Value.type "code", data := PySem.Data.fields #[PySem.Value.str (PySem.Str.ofString "_convert_string_type") 502, PySem.Value.str (PySem.Str.ofString "Headers._convert_string_type") 503, PySem.Value.str (PySem.Str.ofString "/claim/cut.py") 504, PySem.Value.int 100 0, PySem.Value.int 2 0, PySem.Value.int 0 0, PySem.Value.int 1 0, PySem.Value.int 3 0, PySem.Value.ref 123, PySem.Value.bool true, PySem.Value.int 276 0, PySem.Value.ref 124, PySem.Value.none, PySem.Value.ref 125, PySem.Value.ref 126, PySem.Value.ref 127, PySem.Value.int 509 0, PySem.Value.int 100 0, PySem.Value.str (PySem.Str.ofString "/claim/cut.py") 510] }) ::
    (nat_lit 129, { cls := PySem.Value.type "function", data := PySem.Data.func { name := PySem.Str.ofString "_convert_string_type", qualname := PySem.Str.ofString "Headers._convert_string_type", params := p6, body := PySem.FuncBody.stmts b6, scope := s6, globals := 3, closure := [], defaults := PySem.Value.none, kwdefaults := PySem.Value.none, pyModule := PySem.Value.str (PySem.Str.ofString "cpy313.wsgiref.headers") 374, code := PySem.Value.ref 128 } }) ::
    (nat_lit 130, { cls := PySem.Value.type "tuple", data := PySem.Data.seq #[] }) ::
    (nat_lit 132, { cls := PySem.Value.type "tuple", data := PySem.Data.seq #[PySem.Value.str (PySem.Str.ofString "self") 515] }) ::
    (nat_lit 133, { cls := PySem.Value.type "tuple", data := PySem.Data.seq #[] }) ::
    (nat_lit 135, { cls := PySem.Value.type "code", data := PySem.Data.fields #[PySem.Value.str (PySem.Str.ofString "__len__") 512, PySem.Value.str (PySem.Str.ofString "Headers.__len__") 513, PySem.Value.str (PySem.Str.ofString "/claim/cut.py") 514, PySem.Value.int 108 0, PySem.Value.int 1 0, PySem.Value.int 0 0, PySem.Value.int 0 0, PySem.Value.int 3 0, PySem.Value.ref 130, PySem.Value.bool true, PySem.Value.int 276 0, PySem.Value.ref 131, PySem.Value.none, PySem.Value.ref 132, PySem.Value.ref 133, PySem.Value.ref 134, PySem.Value.int 516 0, PySem.Value.int 108 0, PySem.Value.str (PySem.Str.ofString "/claim/cut.py") 517] }) ::
    (nat_lit 136, { cls := PySem.Value.type "function", data := PySem.Data.func { name := PySem.Str.ofString "__len__", qualname := PySem.Str.ofString "Headers.__len__", params := p7, body := PySem.FuncBody.stmts b7, scope := s7, globals := 3, closure := [], defaults := PySem.Value.none, kwdefaults := PySem.Value.none, pyModule := PySem.Value.str (PySem.Str.ofString "cpy313.wsgiref.headers") 374, code := PySem.Value.ref 135 } }) ::
    (nat_lit 137, { cls := PySem.Value.type "tuple", data := PySem.Data.seq #[] }) ::
    (nat_lit 139, { cls := PySem.Value.type "tuple", data := PySem.Data.seq #[PySem.Value.str (PySem.Str.ofString "self") 522, PySem.Value.str (PySem.Str.ofString "name") 523, PySem.Value.str (PySem.Str.ofString "val") 524] }) ::
    (nat_lit 140, { cls := PySem.Value.type "tuple", data := PySem.Data.seq #[] }) ::
    (nat_lit 142, { cls := PySem.Value.type "code", data := PySem.Data.fields #[PySem.Value.str (PySem.Str.ofString "__setitem__") 519, PySem.Value.str (PySem.Str.ofString "Headers.__setitem__") 520, PySem.Value.str (PySem.Str.ofString "/claim/cut.py") 521, PySem.Value.int 111 0, PySem.Value.int 3 0, PySem.Value.int 0 0, PySem.Value.int 0 0, PySem.Value.int 3 0, PySem.Value.ref 137, PySem.Value.bool true, PySem.Value.int 276 0, PySem.Value.ref 138, PySem.Value.none, PySem.Value.ref 139, PySem.Value.ref 140, PySem.Value.ref 141, PySem.Value.int 525 0, PySem.Value.int 111 0, PySem.Value.str (PySem.Str.ofString "/claim/cut.py") 526] }) ::
    (nat_lit 143, { cls := PySem.Value.type "function", data := PySem.Data.func { name := PySem.Str.ofString "__setitem__", qualname := PySem.Str.ofString "Headers.__setitem__", params := p8, body := PySem.FuncBody.stmts b8, scope := s8, globals := 3, closure := [], defaults := PySem.Value.none, kwdefaults := PySem.Value.none, pyModule := PySem.Value.str (PySem.Str.ofString "cpy313.wsgiref.headers") 374, code := PySem.Value.ref 142 } }) ::
    (nat_lit 144, { cls := PySem.Value.type "tuple", data := PySem.Data.seq #[] }) ::
    (nat_lit 147, { cls := PySem.Value.type "code", data := PySem.Data.fields #[PySem.Value.str (PySem.Str.ofString "__delitem__") 528, PySem.Value.str (PySem.Str.ofString "Headers.__delitem__") 529, PySem.Value.str (PySem.Str.ofString "/claim/cut.py") 530, PySem.Value.int 115 0, PySem.Value.int 2 0, PySem.Value.int 0 0, PySem.Value.int 0 0, PySem.Value.int 3 0, PySem.Value.ref 144, PySem.Value.bool true, PySem.Value.int 276 0, PySem.Value.ref 145, PySem.Value.none, PySem.Value.none, PySem.Value.none, PySem.Value.ref 146, PySem.Value.int 531 0, PySem.Value.int 115 0, PySem.Value.str (PySem.Str.ofString "/claim/cut.py") 532] }) ::
    (nat_lit 148, { cls := PySem.Value.type "function", data := PySem.Data.func { name := PySem.Str.ofString "__delitem__", qualname := PySem.Str.ofString "Headers.__delitem__", params := p9, body := PySem.FuncBody.stmts b9, scope := s9, globals := 3, closure := [], defaults := PySem.Value.none, kwdefaults := PySem.Value.none, pyModule := PySem.Value.str (PySem.Str.ofString "cpy313.wsgiref.headers") 374, code := PySem.Value.ref 147 } }) ::
    (nat_lit 149, { cls := PySem.Value.type "tuple", data := PySem.Data.seq #[] }) ::
    (nat_lit 151, { cls := PySem.Value.type "tuple", data := PySem.Data.seq #[PySem.Value.str (PySem.Str.ofString "self") 537, PySem.Value.str (PySem.Str.ofString "name") 538] }) ::
    (nat_lit 152, { cls := PySem.Value.type "tuple", data := PySem.Data.seq #[] }) ::
    (nat_lit 154, { cls := PySem.Value.type "code", data := PySem.Data.fields #[PySem.Value.str (PySem.Str.ofString "__getitem__") 534, PySem.Value.str (PySem.Str.ofString "Headers.__getitem__") 535, PySem.Value.str (PySem.Str.ofString "/claim/cut.py") 536, PySem.Value.int 119 0, PySem.Value.int 2 0, PySem.Value.int 0 0, PySem.Value.int 0 0, PySem.Value.int 3 0, PySem.Value.ref 149, PySem.Value.bool true, PySem.Value.int 276 0, PySem.Value.ref 150, PySem.Value.none, PySem.Value.ref 151, PySem.Value.ref 152, PySem.Value.ref 153, PySem.Value.int 539 0, PySem.Value.int 119 0, PySem.Value.str (PySem.Str.ofString "/claim/cut.py") 540] }) ::
    (nat_lit 155, { cls := PySem.Value.type "function", data := PySem.Data.func { name := PySem.Str.ofString "__getitem__", qualname := PySem.Str.ofString "Headers.__getitem__", params := p10, body := PySem.FuncBody.stmts b10, scope := s10, globals := 3, closure := [], defaults := PySem.Value.none, kwdefaults := PySem.Value.none, pyModule := PySem.Value.str (PySem.Str.ofString "cpy313.wsgiref.headers") 374, code := PySem.Value.ref 154 } }) ::
    (nat_lit 156, { cls := PySem.Value.type "tuple", data := PySem.Data.seq #[] }) ::
    (nat_lit 158, { cls := PySem.Value.type "tuple", data := PySem.Data.seq #[PySem.Value.str (PySem.Str.ofString "self") 545, PySem.Value.str (PySem.Str.ofString "name") 546] }) ::
    (nat_lit 159, { cls := PySem.Value.type "tuple", data := PySem.Data.seq #[] }) ::
    (nat_lit 161, { cls := PySem.Value.type "code", data := PySem.Data.fields #[PySem.Value.str (PySem.Str.ofString "__contains__") 542, PySem.Value.str (PySem.Str.ofString "Headers.__contains__") 543, PySem.Value.str (PySem.Str.ofString "/claim/cut.py") 544, PySem.Value.int 122 0, PySem.Value.int 2 0, PySem.Value.int 0 0, PySem.Value.int 0 0, PySem.Value.int 3 0, PySem.Value.ref 156, PySem.Value.bool true, PySem.Value.int 276 0, PySem.Value.ref 157, PySem.Value.none, PySem.Value.ref 158, PySem.Value.ref 159, PySem.Value.ref 160, PySem.Value.int 547 0, PySem.Value.int 122 0, PySem.Value.str (PySem.Str.ofString "/claim/cut.py") 548] }) ::
    (nat_lit 162, { cls := PySem.Value.type "function", data := PySem.Data.func { name := PySem.Str.ofString "__contains__", qualname := PySem.Str.ofString "Headers.__contains__", params := p11, body := PySem.FuncBody.stmts b11, scope := s11, globals := 3, closure := [], defaults := PySem.Value.none, kwdefaults := PySem.Value.none, pyModule := PySem.Value.str (PySem.Str.ofString "cpy313.wsgiref.headers") 374, code := PySem.Value.ref 161 } }) ::
    (nat_lit 163, { cls := PySem.Value.type "tuple", data := PySem.Data.seq #[] }) ::
    (nat_lit 166, { cls := PySem.Value.type "code", data := PySem.Data.fields #[PySem.Value.str (PySem.Str.ofString "get_all") 550, PySem.Value.str (PySem.Str.ofString "Headers.get_all") 551, PySem.Value.str (PySem.Str.ofString "/claim/cut.py") 552, PySem.Value.int 125 0, PySem.Value.int 2 0, PySem.Value.int 0 0, PySem.Value.int 0 0, PySem.Value.int 3 0, PySem.Value.ref 163, PySem.Value.bool true, PySem.Value.int 276 0, PySem.Value.ref 164, PySem.Value.none, PySem.Value.none, PySem.Value.none, PySem.Value.ref 165, PySem.Value.int 553 0, PySem.Value.int 125 0, PySem.Value.str (PySem.Str.ofString "/claim/cut.py") 554] }) ::
    (nat_lit 167, { cls := PySem.Value.type "function", data := PySem.Data.func { name := PySem.Str.ofString "get_all", qualname := PySem.Str.ofString "Headers.get_all", params := p12, body := PySem.FuncBody.stmts b12, scope := s12, globals := 3, closure := [], defaults := PySem.Value.none, kwdefaults := PySem.Value.none, pyModule := PySem.Value.str (PySem.Str.ofString "cpy313.wsgiref.headers") 374, code := PySem.Value.ref 166 } }) ::
    (nat_lit 168, { cls := PySem.Value.type "tuple", data := PySem.Data.seq #[PySem.Value.none] }) ::
    (nat_lit 169, { cls := PySem.Value.type "tuple", data := PySem.Data.seq #[] }) ::
    (nat_lit 171, { cls := PySem.Value.type "tuple", data := PySem.Data.seq #[PySem.Value.str (PySem.Str.ofString "self") 559, PySem.Value.str (PySem.Str.ofString "name") 560, PySem.Value.str (PySem.Str.ofString "default") 561, PySem.Value.str (PySem.Str.ofString "k") 562, PySem.Value.str (PySem.Str.ofString "v") 563] }) ::
    (nat_lit 172, { cls := PySem.Value.type "tuple", data := PySem.Data.seq #[] }) ::
    (nat_lit 174, { cls := PySem.Value.type "code", data := PySem.Data.fields #[PySem.Value.str (PySem.Str.ofString "get") 556, PySem.Value.str (PySem.Str.ofString "Headers.get") 557, PySem.Value.str (PySem.Str.ofString "/claim/cut.py") 558, PySem.Value.int 129 0, PySem.Value.int 3 0, PySem.Value.int 0 0, PySem.Value.int 0 0, PySem.Value.int 3 0, PySem.Value.ref 169, PySem.Value.bool true, PySem.Value.int 276 0, PySem.Value.ref 170, PySem.Value.none, PySem.Value.ref 171, PySem.Value.ref 172, PySem.Value.ref 173, PySem.Value.int 564 0, PySem.Value.int 129 0, PySem.Value.str (PySem.Str.ofString "/claim/cut.py") 565] }) ::
    (nat_lit 175, { cls := PySem.Value.type "function", data := PySem.Data.func { name := PySem.Str.ofString "get", qualname := PySem.Str.ofString "Headers.get", params := p13, body := PySem.FuncBody.stmts b13, scope := s13, globals := 3, closure := [], defaults := PySem.Value.ref 168, kwdefaults := PySem.Value.none, pyModule := PySem.Value.str (PySem.Str.ofString "cpy313.wsgiref.headers") 374, code := PySem.Value.ref 174 } }) ::
    (nat_lit 176, { cls := PySem.Value.type "tuple", data := PySem.Data.seq #[] }) ::
    (nat_lit 179, { cls := PySem.Value.type "code", data := PySem.Data.fields #[PySem.Value.str (PySem.Str.ofString "keys") 567, PySem.Value.str (PySem.Str.ofString "Headers.keys") 568, PySem.Value.str (PySem.Str.ofString "/claim/cut.py") 569, PySem.Value.int 136 0, PySem.Value.int 1 0, PySem.Value.int 0 0, PySem.Value.int 0 0, PySem.Value.int 3 0, PySem.Value.ref 176, PySem.Value.bool true, PySem.Value.int 276 0, PySem.Value.ref 177, PySem.Value.none, PySem.Value.none, PySem.Value.none, PySem.Value.ref 178, PySem.Value.int 570 0, PySem.Value.int 136 0, PySem.Value.str (PySem.Str.ofString "/claim/cut.py") 571] }) ::
    (nat_lit 180, { cls := PySem.Value.type "function", data := PySem.Data.func { name := PySem.Str.ofString "keys", qualname := PySem.Str.ofString "Headers.keys", params := p14, body := PySem.FuncBody.stmts b14, scope := s14, globals := 3, closure := [], defaults := PySem.Value.none, kwdefaults := PySem.Value.none, pyModule := PySem.Value.str (PySem.Str.ofString "cpy313.wsgiref.headers") 374, code := PySem.Value.ref 179 } }) ::
    (nat_lit 181, { cls := PySem.Value.type "tuple", data := PySem.Data.seq #[] }) ::
    (nat_lit 184, { cls := PySem.Value.type "code", data := PySem.Data.fields #[PySem.Value.str (PySem.Str.ofString "values") 573, PySem.Value.str (PySem.Str.ofString "Headers.values") 574, PySem.Value.str (PySem.Str.ofString "/claim/cut.py") 575, PySem.Value.int 139 0, PySem.Value.int 1 0, PySem.Value.int 0 0, PySem.Value.int 0 0, PySem.Value.int 3 0, PySem.Value.ref 181, PySem.Value.bool true, PySem.Value.int 276 0, PySem.Value.ref 182, PySem.Value.none, PySem.Value.none, PySem.Value.none, PySem.Value.ref 183, PySem.Value.int 576 0, PySem.Value.int 139 0, PySem.Value.str (PySem.Str.ofString "/claim/cut.py") 577] }) ::
    (nat_lit 185, { cls := PySem.Value.type "function", data := PySem.Data.func { name := PySem.Str.ofString "values", qualname := PySem.Str.ofString "Headers.values", params := p15, body := PySem.FuncBody.stmts b15, scope := s15, globals := 3, closure := [], defaults := PySem.Value.none, kwdefaults := PySem.Value.none, pyModule := PySem.Value.str (PySem.Str.ofString "cpy313.wsgiref.headers") 374, code := PySem.Value.ref 184 } }) ::
    (nat_lit 186, { cls := PySem.Value.type "tuple", data := PySem.Data.seq #[] }) ::
    (nat_lit 188, { cls := PySem.Value.type "tuple", data := PySem.Data.seq #[PySem.Value.str (PySem.Str.ofString "self") 582] }) ::
    (nat_lit 189, { cls := PySem.Value.type "tuple", data := PySem.Data.seq #[] }) ::
    (nat_lit 191, { cls := PySem.Value.type "code", data := PySem.Data.fields #[PySem.Value.str (PySem.Str.ofString "items") 579, PySem.Value.str (PySem.Str.ofString "Headers.items") 580, PySem.Value.str (PySem.Str.ofString "/claim/cut.py") 581, PySem.Value.int 142 0, PySem.Value.int 1 0, PySem.Value.int 0 0, PySem.Value.int 0 0, PySem.Value.int 3 0, PySem.Value.ref 186, PySem.Value.bool true, PySem.Value.int 276 0, PySem.Value.ref 187, PySem.Value.none, PySem.Value.ref 188, PySem.Value.ref 189, PySem.Value.ref 190, PySem.Value.int 583 0, PySem.Value.int 142 0, PySem.Value.str (PySem.Str.ofString "/claim/cut.py") 584] }) ::
    (nat_lit 192, { cls := PySem.Value.type "function", data := PySem.Data.func { name := PySem.Str.ofString "items", qualname := PySem.Str.ofString "Headers.items", params := p16, body := PySem.FuncBody.stmts b16, scope := s16, globals := 3, closure := [], defaults := PySem.Value.none, kwdefaults := PySem.Value.none, pyModule := PySem.Value.str (PySem.Str.ofString "cpy313.wsgiref.headers") 374, code := PySem.Value.ref 191 } }) ::
    (nat_lit 193, { cls := PySem.Value.type "tuple", data := PySem.Data.seq #[] }) ::
    (nat_lit 195, { cls := PySem.Value.type "tuple", data := PySem.Data.seq #[PySem.Value.str (PySem.Str.ofString "self") 589] }) ::
    (nat_lit 196, { cls := PySem.Value.type "tuple", data := PySem.Data.seq #[] }) ::
    (nat_lit 198, { cls := PySem.Value.type "code", data := PySem.Data.fields #[PySem.Value.str (PySem.Str.ofString "__repr__") 586, PySem.Value.str (PySem.Str.ofString "Headers.__repr__") 587, PySem.Value.str (PySem.Str.ofString "/claim/cut.py") 588, PySem.Value.int 145 0, PySem.Value.int 1 0, PySem.Value.int 0 0, PySem.Value.int 0 0, PySem.Value.int 3 0, PySem.Value.ref 193, PySem.Value.bool true, PySem.Value.int 276 0, PySem.Value.ref 194, PySem.Value.none, PySem.Value.ref 195, PySem.Value.ref 196, PySem.Value.ref 197, PySem.Value.int 590 0, PySem.Value.int 145 0, PySem.Value.str (PySem.Str.ofString "/claim/cut.py") 591] }) ::
    (nat_lit 199, { cls := PySem.Value.type "function", data := PySem.Data.func { name := PySem.Str.ofString "__repr__", qualname := PySem.Str.ofString "Headers.__repr__", params := p17, body := PySem.FuncBody.stmts b17, scope := s17, globals := 3, closure := [], defaults := PySem.Value.none, kwdefaults := PySem.Value.none, pyModule := PySem.Value.str (PySem.Str.ofString "cpy313.wsgiref.headers") 374, code := PySem.Value.ref 198 } }) ::
    (nat_lit 200, { cls := PySem.Value.type "tuple", data := PySem.Data.seq #[] }) ::
    (nat_lit 203, { cls := PySem.Value.type "code", data := PySem.Data.fields #[PySem.Value.str (PySem.Str.ofString "__str__") 593, PySem.Value.str (PySem.Str.ofString "Headers.__str__") 594, PySem.Value.str (PySem.Str.ofString "/claim/cut.py") 595, PySem.Value.int 148 0, PySem.Value.int 1 0, PySem.Value.int 0 0, PySem.Value.int 0 0, PySem.Value.int 3 0, PySem.Value.ref 200, PySem.Value.bool true, PySem.Value.int 276 0, PySem.Value.ref 201, PySem.Value.none, PySem.Value.none, PySem.Value.none, PySem.Value.ref 202, PySem.Value.int 596 0, PySem.Value.int 148 0, PySem.Value.str (PySem.Str.ofString "/claim/cut.py") 597] }) ::
    (nat_lit 204, { cls := PySem.Value.type "function", data := PySem.Data.func { name := PySem.Str.ofString "__str__", qualname := PySem.Str.ofString "Headers.__str__", params := p18, body := PySem.FuncBody.stmts b18, scope := s18, globals := 3, closure := [], defaults := PySem.Value.none, kwdefaults := PySem.Value.none, pyModule := PySem.Value.str (PySem.Str.ofString "cpy313.wsgiref.headers") 374, code := PySem.Value.ref 203 } }) ::
    (nat_lit 205, { cls := PySem.Value.type "tuple", data := PySem.Data.seq #[] }) ::
    (nat_lit 207, { cls := PySem.Value.type "tuple", data := PySem.Data.seq #[PySem.Value.str (PySem.Str.ofString "self") 602] }) ::
    (nat_lit 208, { cls := PySem.Value.type "tuple", data := PySem.Data.seq #[] }) ::
    (nat_lit 210, { cls := PySem.Value.type "code", data := PySem.Data.fields #[PySem.Value.str (PySem.Str.ofString "__bytes__") 599, PySem.Value.str (PySem.Str.ofString "Headers.__bytes__") 600, PySem.Value.str (PySem.Str.ofString "/claim/cut.py") 601, PySem.Value.int 151 0, PySem.Value.int 1 0, PySem.Value.int 0 0, PySem.Value.int 0 0, PySem.Value.int 3 0, PySem.Value.ref 205, PySem.Value.bool true, PySem.Value.int 276 0, PySem.Value.ref 206, PySem.Value.none, PySem.Value.ref 207, PySem.Value.ref 208, PySem.Value.ref 209, PySem.Value.int 603 0, PySem.Value.int 151 0, PySem.Value.str (PySem.Str.ofString "/claim/cut.py") 604] }) ::
    (nat_lit 211, { cls := PySem.Value.type "function", data := PySem.Data.func { name := PySem.Str.ofString "__bytes__", qualname := PySem.Str.ofString "Headers.__bytes__", params := p19, body := PySem.FuncBody.stmts b19, scope := s19, globals := 3, closure := [], defaults := PySem.Value.none, kwdefaults := PySem.Value.none, pyModule := PySem.Value.str (PySem.Str.ofString "cpy313.wsgiref.headers") 374, code := PySem.Value.ref 210 } }) ::
    (nat_lit 212, { cls := PySem.Value.type "tuple", data := PySem.Data.seq #[] }) ::
    (nat_lit 214, { cls := PySem.Value.type "tuple", data := PySem.Data.seq #[PySem.Value.str (PySem.Str.ofString "self") 609, PySem.Value.str (PySem.Str.ofString "name") 610, PySem.Value.str (PySem.Str.ofString "value") 611] }) ::
    (nat_lit 215, { cls := PySem.Value.type "tuple", data := PySem.Data.seq #[] }) ::
    (nat_lit 217, { cls := PySem.Value.type "code", data := PySem.Data.fields #[PySem.Value.str (PySem.Str.ofString "setdefault") 606, PySem.Value.str (PySem.Str.ofString "Headers.setdefault") 607, PySem.Value.str (PySem.Str.ofString "/claim/cut.py") 608, PySem.Value.int 154 0, PySem.Value.int 3 0, PySem.Value.int 0 0, PySem.Value.int 0 0, PySem.Value.int 3 0, PySem.Value.ref 212, PySem.Value.bool true, PySem.Value.int 276 0, PySem.Value.ref 213, PySem.Value.none, PySem.Value.ref 214, PySem.Value.ref 215, PySem.Value.ref 216, PySem.Value.int 612 0, PySem.Value.int 154 0, PySem.Value.str (PySem.Str.ofString "/claim/cut.py") 613] }) ::
    (nat_lit 218, { cls := PySem.Value.type "function", data := PySem.Data.func { name := PySem.Str.ofString "setdefault", qualname := PySem.Str.ofString "Headers.setdefault", params := p20, body := PySem.FuncBody.stmts b20, scope := s20, globals := 3, closure := [], defaults := PySem.Value.none, kwdefaults := PySem.Value.none, pyModule := PySem.Value.str (PySem.Str.ofString "cpy313.wsgiref.headers") 374, code := PySem.Value.ref 217 } }) ::
    (nat_lit 219, { cls := PySem.Value.type "tuple", data := PySem.Data.seq #[] }) ::
    (nat_lit 221, { cls := PySem.Value.type "tuple", data := PySem.Data.seq #[PySem.Value.str (PySem.Str.ofString "self") 618, PySem.Value.str (PySem.Str.ofString "_name") 619, PySem.Value.str (PySem.Str.ofString "_value") 620, PySem.Value.str (PySem.Str.ofString "_params") 621, PySem.Value.str (PySem.Str.ofString "parts") 622, PySem.Value.str (PySem.Str.ofString "k") 623, PySem.Value.str (PySem.Str.ofString "v") 624] }) ::
    (nat_lit 222, { cls := PySem.Value.type "tuple", data := PySem.Data.seq #[] }) ::
    (nat_lit 224, { cls := PySem.Value.type "code", data := PySem.Data.fields #[PySem.Value.str (PySem.Str.ofString "add_header") 615, PySem.Value.str (PySem.Str.ofString "Headers.add_header") 616, PySem.Value.str (PySem.Str.ofString "/claim/cut.py") 617, PySem.Value.int 157 0, PySem.Value.int 3 0, PySem.Value.int 0 0, PySem.Value.int 0 0, PySem.Value.int 11 0, PySem.Value.ref 219, PySem.Value.bool true, PySem.Value.int 276 0, PySem.Value.ref 220, PySem.Value.none, PySem.Value.ref 221, PySem.Value.ref 222, PySem.Value.ref 223, PySem.Value.int 625 0, PySem.Value.int 157 0, PySem.Value.str (PySem.Str.ofString "/claim/cut.py") 626] }) ::
    (nat_lit 225, { cls := PySem.Value.type "function", data := PySem.Data.func { name := PySem.Str.ofString "add_header", qualname := PySem.Str.ofString "Headers.add_header", params := p21, body := PySem.FuncBody.stmts b21, scope := s21, globals := 3, closure := [], defaults := PySem.Value.none, kwdefaults := PySem.Value.none, pyModule := PySem.Value.str (PySem.Str.ofString "cpy313.wsgiref.headers") 374, code := PySem.Value.ref 224 } }) ::
    (nat_lit 226, { cls := PySem.Value.type "tuple", data := PySem.Data.seq #[PySem.Value.str (PySem.Str.ofString "_headers") 628] }) ::
    (nat_lit 227, { cls := PySem.Value.type "dict", data := PySem.Data.dict #[{ hash := PySem.PyData.keyHash P (PySem.Str.ofString "__module__"), key := PySem.Value.str (PySem.Str.ofString "__module__") 487, val := PySem.Value.str (PySem.Str.ofString "cpy313.wsgiref.headers") 374 }, { hash := PySem.PyData.keyHash P (PySem.Str.ofString "__firstlineno__"), key := PySem.Value.str (PySem.Str.ofString "__firstlineno__") 491, val := PySem.Value.int 88 490 }, { hash := PySem.PyData.keyHash P (PySem.Str.ofString "__init__"), key := PySem.Value.str (PySem.Str.ofString "__init__") 501, val := PySem.Value.ref 122 }, { hash := PySem.PyData.keyHash P (PySem.Str.ofString "_convert_string_type"), key := PySem.Value.str (PySem.Str.ofString "_convert_string_type") 511, val := PySem.Value.ref 129 }, { hash := PySem.PyData.keyHash P (PySem.Str.ofString "__len__"), key := PySem.Value.str (PySem.Str.ofString "__len__") 518, val := PySem.Value.ref 136 }, { hash := PySem.PyData.keyHash P (PySem.Str.ofString "__setitem__"), key := PySem.Value.str (PySem.Str.ofString "__setitem__") 527, val := PySem.Value.ref 143 }, { hash := PySem.PyData.keyHash P (PySem.Str.ofString "__delitem__"), key := PySem.Value.str (PySem.Str.ofString "__delitem__") 533, val := PySem.Value.ref 148 }, { hash := PySem.PyData.keyHash P (PySem.Str.ofString "__getitem__"), key := PySem.Value.str (PySem.Str.ofString "__getitem__") 541, val := PySem.Value.ref 155 }, { hash := PySem.PyData.keyHash P (PySem.Str.ofString "__contains__"), key := PySem.Value.str (PySem.Str.ofString "__contains__") 549, val := PySem.Value.ref 162 }, { hash := PySem.PyData.keyHash P (PySem.Str.ofString "get_all"), key := PySem.Value.str (PySem.Str.ofString "get_all") 555, val := PySem.Value.ref 167 }, { hash := PySem.PyData.keyHash P (PySem.Str.ofString "get"), key := PySem.Value.str (PySem.Str.ofString "get") 566, val := PySem.Value.ref 175 }, { hash := PySem.PyData.keyHash P (PySem.Str.ofString "keys"), key := PySem.Value.str (PySem.Str.ofString "keys") 572, val := PySem.Value.ref 180 }, { hash := PySem.PyData.keyHash P (PySem.Str.ofString "values"), key := PySem.Value.str (PySem.Str.ofString "values") 578, val := PySem.Value.ref 185 }, { hash := PySem.PyData.keyHash P (PySem.Str.ofString "items"), key := PySem.Value.str (PySem.Str.ofString "items") 585, val := PySem.Value.ref 192 }, { hash := PySem.PyData.keyHash P (PySem.Str.ofString "__repr__"), key := PySem.Value.str (PySem.Str.ofString "__repr__") 592, val := PySem.Value.ref 199 }, { hash := PySem.PyData.keyHash P (PySem.Str.ofString "__str__"), key := PySem.Value.str (PySem.Str.ofString "__str__") 598, val := PySem.Value.ref 204 }, { hash := PySem.PyData.keyHash P (PySem.Str.ofString "__bytes__"), key := PySem.Value.str (PySem.Str.ofString "__bytes__") 605, val := PySem.Value.ref 211 }, { hash := PySem.PyData.keyHash P (PySem.Str.ofString "setdefault"), key := PySem.Value.str (PySem.Str.ofString "setdefault") 614, val := PySem.Value.ref 218 }, { hash := PySem.PyData.keyHash P (PySem.Str.ofString "add_header"), key := PySem.Value.str (PySem.Str.ofString "add_header") 627, val := PySem.Value.ref 225 }, { hash := PySem.PyData.keyHash P (PySem.Str.ofString "__static_attributes__"), key := PySem.Value.str (PySem.Str.ofString "__static_attributes__") 629, val := PySem.Value.ref 226 }, { hash := PySem.PyData.keyHash P (PySem.Str.ofString "__dict__"), key := PySem.Value.str (PySem.Str.ofString "__dict__") 631, val := PySem.Value.ref 229 }, { hash := PySem.PyData.keyHash P (PySem.Str.ofString "__weakref__"), key := PySem.Value.str (PySem.Str.ofString "__weakref__") 633, val := PySem.Value.ref 230 }, { hash := PySem.PyData.keyHash P (PySem.Str.ofString "__doc__"), key := PySem.Value.str (PySem.Str.ofString "__doc__") 634, val := PySem.Value.none }] 4 }) ::
    (nat_lit 228, { cls := PySem.Value.type "type", data := PySem.Data.cls { name := PySem.Str.ofString "Headers", bases := [PySem.Value.type "object"], mro := [PySem.Value.ref 228, PySem.Value.type "object"], ns := 227, qualname := PySem.Str.ofString "Headers" }, slots := #[none, none, some (PySem.Value.str (PySem.Str.ofString "Headers") 480), some (PySem.Value.str (PySem.Str.ofString "Headers") 488), some (PySem.Value.builtin "object.__new__"), some (PySem.Value.bool true)] }) ::
    (nat_lit 229, { cls := PySem.Value.type "getset_descriptor", data := PySem.Data.fields #[PySem.Value.str (PySem.Str.ofString "__dict__") 630, PySem.Value.ref 228, PySem.Value.builtin "function.__dict__", PySem.Value.builtin "function.__dict__#set"] }) ::
    (nat_lit 230, { cls := PySem.Value.type "getset_descriptor", data := PySem.Data.fields #[PySem.Value.str (PySem.Str.ofString "__weakref__") 632, PySem.Value.ref 228, PySem.Value.builtin "ExceptionGroup.__weakref__", PySem.Value.none] }) ::
    (nat_lit 233, { cls := PySem.Value.type "tuple", data := PySem.Data.seq #[] }) ::
    (nat_lit 235, { cls := PySem.Value.type "tuple", data := PySem.Data.seq #[PySem.Value.str (PySem.Str.ofString "text") 642] }) ::
    (nat_lit 236, { cls := PySem.Value.type "tuple", data := PySem.Data.seq #[] }) ::
    (nat_lit 238, { cls := PySem.Value.type "code", data := PySem.Data.fields #[PySem.Value.str (PySem.Str.ofString "_raise_serialization_error") 639, PySem.Value.str (PySem.Str.ofString "_raise_serialization_error") 640, PySem.Value.str (PySem.Str.ofString "/claim/cut.py") 641, PySem.Value.int 171 0, PySem.Value.int 1 0, PySem.Value.int 0 0, PySem.Value.int 0 0, PySem.Value.int 3 0, PySem.Value.ref 233, PySem.Value.bool true, PySem.Value.int 276 0, PySem.Value.ref 234, PySem.Value.none, PySem.Value.ref 235, PySem.Value.ref 236, PySem.Value.ref 237, PySem.Value.int 643 0, PySem.Value.int 171 0, PySem.Value.str (PySem.Str.ofString "/claim/cut.py") 644] }) ::
    (nat_lit 239, { cls := PySem.Value.type "function", data := PySem.Data.func { name := PySem.Str.ofString "_raise_serialization_error", qualname := PySem.Str.ofString "_raise_serialization_error", params := p22, body := PySem.FuncBody.stmts b22, scope := s22, globals := 3, closure := [], defaults := PySem.Value.none, kwdefaults := PySem.Value.none, pyModule := PySem.Value.str (PySem.Str.ofString "cpy313.xml.etree.ElementTree") 637, code := PySem.Value.ref 238 } }) ::
    (nat_lit 240, { cls := PySem.Value.type "tuple", data := PySem.Data.seq #[] }) ::
    (nat_lit 242, { cls := PySem.Value.type "tuple", data := PySem.Data.seq #[PySem.Value.str (PySem.Str.ofString "text") 649] }) ::
    (nat_lit 243, { cls := PySem.Value.type "tuple", data := PySem.Data.seq #[] }) ::
    (nat_lit 245, { cls := PySem.Value.type "code", data := PySem.Data.fields #[PySem.Value.str (PySem.Str.ofString "_escape_cdata") 646, PySem.Value.str (PySem.Str.ofString "_escape_cdata") 647, PySem.Value.str (PySem.Str.ofString "/claim/cut.py") 648, PySem.Value.int 173 0, PySem.Value.int 1 0, PySem.Value.int 0 0, PySem.Value.int 0 0, PySem.Value.int 3 0, PySem.Value.ref 240, PySem.Value.bool true, PySem.Value.int 276 0, PySem.Value.ref 241, PySem.Value.none, PySem.Value.ref 242, PySem.Value.ref 243, PySem.Value.ref 244, PySem.Value.int 650 0, PySem.Value.int 173 0, PySem.Value.str (PySem.Str.ofString "/claim/cut.py") 651] }) ::
    (nat_lit 246, { cls := PySem.Value.type "function", data := PySem.Data.func { name := PySem.Str.ofString "_escape_cdata", qualname := PySem.Str.ofString "_escape_cdata", params := p23, body := PySem.FuncBody.stmts b23, scope := s23, globals := 3, closure := [], defaults := PySem.Value.none, kwdefaults := PySem.Value.none, pyModule := PySem.Value.str (PySem.Str.ofString "cpy313.xml.etree.ElementTree") 637, code := PySem.Value.ref 245 } }) ::
    (nat_lit 247, { cls := PySem.Value.type "tuple", data := PySem.Data.seq #[] }) ::
    (nat_lit 249, { cls := PySem.Value.type "tuple", data := PySem.Data.seq #[PySem.Value.str (PySem.Str.ofString "word") 658, PySem.Value.str (PySem.Str.ofString "number") 659, PySem.Value.str (PySem.Str.ofString "place") 660, PySem.Value.str (PySem.Str.ofString "sign") 661, PySem.Value.str (PySem.Str.ofString "kind") 662] }) ::
    (nat_lit 250, { cls := PySem.Value.type "tuple", data := PySem.Data.seq #[] }) ::
    (nat_lit 252, { cls := PySem.Value.type "code", data := PySem.Data.fields #[PySem.Value.str (PySem.Str.ofString "_law_spoilt") 655, PySem.Value.str (PySem.Str.ofString "_law_spoilt") 656, PySem.Value.str (PySem.Str.ofString "/claim/cut.py") 657, PySem.Value.int 185 0, PySem.Value.int 2 0, PySem.Value.int 0 0, PySem.Value.int 0 0, PySem.Value.int 3 0, PySem.Value.ref 247, PySem.Value.bool true, PySem.Value.int 276 0, PySem.Value.ref 248, PySem.Value.none, PySem.Value.ref 249, PySem.Value.ref 250, PySem.Value.ref 251, PySem.Value.int 663 0, PySem.Value.int 185 0, PySem.Value.str (PySem.Str.ofString "/claim/cut.py") 664] }) ::
    (nat_lit 253, { cls := PySem.Value.type "function", data := PySem.Data.func { name := PySem.Str.ofString "_law_spoilt", qualname := PySem.Str.ofString "_law_spoilt", params := p24, body := PySem.FuncBody.stmts b24, scope := s24, globals := 3, closure := [], defaults := PySem.Value.none, kwdefaults := PySem.Value.none, pyModule := PySem.Value.str (PySem.Str.ofString "law_wo0071_01") 653, code := PySem.Value.ref 252 } }) ::
    (nat_lit 254, { cls := PySem.Value.type "tuple", data := PySem.Data.seq #[] }) ::
    (nat_lit 257, { cls := PySem.Value.type "code", data := PySem.Data.fields #[PySem.Value.str (PySem.Str.ofString "_law_cost") 666, PySem.Value.str (PySem.Str.ofString "_law_cost") 667, PySem.Value.str (PySem.Str.ofString "/claim/cut.py") 668, PySem.Value.int 198 0, PySem.Value.int 2 0, PySem.Value.int 0 0, PySem.Value.int 0 0, PySem.Value.int 3 0, PySem.Value.ref 254, PySem.Value.bool true, PySem.Value.int 276 0, PySem.Value.ref 255, PySem.Value.none, PySem.Value.none, PySem.Value.none, PySem.Value.ref 256, PySem.Value.int 669 0, PySem.Value.int 198 0, PySem.Value.str (PySem.Str.ofString "/claim/cut.py") 670] }) ::
    (nat_lit 258, { cls := PySem.Value.type "function", data := PySem.Data.func { name := PySem.Str.ofString "_law_cost", qualname := PySem.Str.ofString "_law_cost", params := p25, body := PySem.FuncBody.stmts b25, scope := s25, globals := 3, closure := [], defaults := PySem.Value.none, kwdefaults := PySem.Value.none, pyModule := PySem.Value.str (PySem.Str.ofString "law_wo0071_01") 653, code := PySem.Value.ref 257 } }) ::
    (nat_lit 259, { cls := PySem.Value.type "tuple", data := PySem.Data.seq #[] }) ::
    (nat_lit 261, { cls := PySem.Value.type "tuple", data := PySem.Data.seq #[PySem.Value.str (PySem.Str.ofString "text") 675, PySem.Value.str (PySem.Str.ofString "teller") 676] }) ::
    (nat_lit 262, { cls := PySem.Value.type "tuple", data := PySem.Data.seq #[] }) ::
    (nat_lit 264, { cls := PySem.Value.type "code", data := PySem.Data.fields #[PySem.Value.str (PySem.Str.ofString "_law_reply") 672, PySem.Value.str (PySem.Str.ofString "_law_reply") 673, PySem.Value.str (PySem.Str.ofString "/claim/cut.py") 674, PySem.Value.int 202 0, PySem.Value.int 2 0, PySem.Value.int 0 0, PySem.Value.int 0 0, PySem.Value.int 3 0, PySem.Value.ref 259, PySem.Value.bool true, PySem.Value.int 276 0, PySem.Value.ref 260, PySem.Value.none, PySem.Value.ref 261, PySem.Value.ref 262, PySem.Value.ref 263, PySem.Value.int 677 0, PySem.Value.int 202 0, PySem.Value.str (PySem.Str.ofString "/claim/cut.py") 678] }) ::
    (nat_lit 265, { cls := PySem.Value.type "function", data := PySem.Data.func { name := PySem.Str.ofString "_law_reply", qualname := PySem.Str.ofString "_law_reply", params := p26, body := PySem.FuncBody.stmts b26, scope := s26, globals := 3, closure := [], defaults := PySem.Value.none, kwdefaults := PySem.Value.none, pyModule := PySem.Value.str (PySem.Str.ofString "law_wo0071_01") 653, code := PySem.Value.ref 264 } }) ::
    (nat_lit 266, { cls := PySem.Value.type "tuple", data := PySem.Data.seq #[] }) ::
    (nat_lit 268, { cls := PySem.Value.type "tuple", data := PySem.Data.seq #[PySem.Value.str (PySem.Str.ofString "reply") 683, PySem.Value.str (PySem.Str.ofString "caught") 684] }) ::
    (nat_lit 269, { cls := PySem.Value.type "tuple", data := PySem.Data.seq #[] }) ::
    (nat_lit 271, { cls := PySem.Value.type "code", data := PySem.Data.fields #[PySem.Value.str (PySem.Str.ofString "_law_read") 680, PySem.Value.str (PySem.Str.ofString "_law_read") 681, PySem.Value.str (PySem.Str.ofString "/claim/cut.py") 682, PySem.Value.int 204 0, PySem.Value.int 1 0, PySem.Value.int 0 0, PySem.Value.int 0 0, PySem.Value.int 3 0, PySem.Value.ref 266, PySem.Value.bool true, PySem.Value.int 276 0, PySem.Value.ref 267, PySem.Value.none, PySem.Value.ref 268, PySem.Value.ref 269, PySem.Value.ref 270, PySem.Value.int 685 0, PySem.Value.int 204 0, PySem.Value.str (PySem.Str.ofString "/claim/cut.py") 686] }) ::
    (nat_lit 272, { cls := PySem.Value.type "function", data := PySem.Data.func { name := PySem.Str.ofString "_law_read", qualname := PySem.Str.ofString "_law_read", params := p27, body := PySem.FuncBody.stmts b27, scope := s27, globals := 3, closure := [], defaults := PySem.Value.none, kwdefaults := PySem.Value.none, pyModule := PySem.Value.str (PySem.Str.ofString "law_wo0071_01") 653, code := PySem.Value.ref 271 } }) ::
    (nat_lit 273, { cls := PySem.Value.type "tuple", data := PySem.Data.seq #[] }) ::
    (nat_lit 276, { cls := PySem.Value.type "code", data := PySem.Data.fields #[PySem.Value.str (PySem.Str.ofString "_law_heard") 688, PySem.Value.str (PySem.Str.ofString "_law_heard") 689, PySem.Value.str (PySem.Str.ofString "/claim/cut.py") 690, PySem.Value.int 209 0, PySem.Value.int 3 0, PySem.Value.int 0 0, PySem.Value.int 0 0, PySem.Value.int 3 0, PySem.Value.ref 273, PySem.Value.bool true, PySem.Value.int 276 0, PySem.Value.ref 274, PySem.Value.none, PySem.Value.none, PySem.Value.none, PySem.Value.ref 275, PySem.Value.int 691 0, PySem.Value.int 209 0, PySem.Value.str (PySem.Str.ofString "/claim/cut.py") 692] }) ::
    (nat_lit 277, { cls := PySem.Value.type "function", data := PySem.Data.func { name := PySem.Str.ofString "_law_heard", qualname := PySem.Str.ofString "_law_heard", params := p28, body := PySem.FuncBody.stmts b28, scope := s28, globals := 3, closure := [], defaults := PySem.Value.none, kwdefaults := PySem.Value.none, pyModule := PySem.Value.str (PySem.Str.ofString "law_wo0071_01") 653, code := PySem.Value.ref 276 } }) ::
    (nat_lit 278, { cls := PySem.Value.type "tuple", data := PySem.Data.seq #[] }) ::
    (nat_lit 281, { cls := PySem.Value.type "code", data := PySem.Data.fields #[PySem.Value.str (PySem.Str.ofString "_law_run") 694, PySem.Value.str (PySem.Str.ofString "_law_run") 695, PySem.Value.str (PySem.Str.ofString "/claim/cut.py") 696, PySem.Value.int 216 0, PySem.Value.int 4 0, PySem.Value.int 0 0, PySem.Value.int 0 0, PySem.Value.int 3 0, PySem.Value.ref 278, PySem.Value.bool true, PySem.Value.int 276 0, PySem.Value.ref 279, PySem.Value.none, PySem.Value.none, PySem.Value.none, PySem.Value.ref 280, PySem.Value.int 697 0, PySem.Value.int 216 0, PySem.Value.str (PySem.Str.ofString "/claim/cut.py") 698] }) ::
    (nat_lit 282, { cls := PySem.Value.type "function", data := PySem.Data.func { name := PySem.Str.ofString "_law_run", qualname := PySem.Str.ofString "_law_run", params := p29, body := PySem.FuncBody.stmts b29, scope := s29, globals := 3, closure := [], defaults := PySem.Value.none, kwdefaults := PySem.Value.none, pyModule := PySem.Value.str (PySem.Str.ofString "law_wo0071_01") 653, code := PySem.Value.ref 281 } }) ::
    (nat_lit 283, { cls := PySem.Value.type "tuple", data := PySem.Data.seq #[] }) ::
    (nat_lit 286, { cls := PySem.Value.type "code", data := PySem.Data.fields #[PySem.Value.str (PySem.Str.ofString "_law_written") 700, PySem.Value.str (PySem.Str.ofString "_law_written") 701, PySem.Value.str (PySem.Str.ofString "/claim/cut.py") 702, PySem.Value.int 235 0, PySem.Value.int 1 0, PySem.Value.int 0 0, PySem.Value.int 0 0, PySem.Value.int 3 0, PySem.Value.ref 283, PySem.Value.bool true, PySem.Value.int 276 0, PySem.Value.ref 284, PySem.Value.none, PySem.Value.none, PySem.Value.none, PySem.Value.ref 285, PySem.Value.int 703 0, PySem.Value.int 235 0, PySem.Value.str (PySem.Str.ofString "/claim/cut.py") 704] }) ::
    (nat_lit 287, { cls := PySem.Value.type "function", data := PySem.Data.func { name := PySem.Str.ofString "_law_written", qualname := PySem.Str.ofString "_law_written", params := p30, body := PySem.FuncBody.stmts b30, scope := s30, globals := 3, closure := [], defaults := PySem.Value.none, kwdefaults := PySem.Value.none, pyModule := PySem.Value.str (PySem.Str.ofString "law_wo0071_01") 653, code := PySem.Value.ref 286 } }) ::
    (nat_lit 288, { cls := PySem.Value.type "tuple", data := PySem.Data.seq #[] }) ::
    (nat_lit 291, { cls := PySem.Value.type "code", data := PySem.Data.fields #[PySem.Value.str (PySem.Str.ofString "_law_costs") 706, PySem.Value.str (PySem.Str.ofString "_law_costs") 707, PySem.Value.str (PySem.Str.ofString "/claim/cut.py") 708, PySem.Value.int 238 0, PySem.Value.int 2 0, PySem.Value.int 0 0, PySem.Value.int 0 0, PySem.Value.int 3 0, PySem.Value.ref 288, PySem.Value.bool true, PySem.Value.int 276 0, PySem.Value.ref 289, PySem.Value.none, PySem.Value.none, PySem.Value.none, PySem.Value.ref 290, PySem.Value.int 709 0, PySem.Value.int 238 0, PySem.Value.str (PySem.Str.ofString "/claim/cut.py") 710] }) ::
    (nat_lit 292, { cls := PySem.Value.type "function", data := PySem.Data.func { name := PySem.Str.ofString "_law_costs", qualname := PySem.Str.ofString "_law_costs", params := p31, body := PySem.FuncBody.stmts b31, scope := s31, globals := 3, closure := [], defaults := PySem.Value.none, kwdefaults := PySem.Value.none, pyModule := PySem.Value.str (PySem.Str.ofString "law_wo0071_01") 653, code := PySem.Value.ref 291 } }) ::
    (nat_lit 293, { cls := PySem.Value.type "tuple", data := PySem.Data.seq #[] }) ::
    (nat_lit 296, { cls := PySem.Value.type "code", data := PySem.Data.fields #[PySem.Value.str (PySem.Str.ofString "law") 712, PySem.Value.str (PySem.Str.ofString "law") 713, PySem.Value.str (PySem.Str.ofString "/claim/cut.py") 714, PySem.Value.int 246 0, PySem.Value.int 1 0, PySem.Value.int 0 0, PySem.Value.int 0 0, PySem.Value.int 3 0, PySem.Value.ref 293, PySem.Value.bool true, PySem.Value.int 276 0, PySem.Value.ref 294, PySem.Value.none, PySem.Value.none, PySem.Value.none, PySem.Value.ref 295, PySem.Value.int 715 0, PySem.Value.int 246 0, PySem.Value.str (PySem.Str.ofString "/claim/cut.py") 716] }) ::
    (nat_lit 297, { cls := PySem.Value.type "function", data := PySem.Data.func { name := PySem.Str.ofString "law", qualname := PySem.Str.ofString "law", params := p32, body := PySem.FuncBody.stmts b32, scope := s32, globals := 3, closure := [], defaults := PySem.Value.none, kwdefaults := PySem.Value.none, pyModule := PySem.Value.str (PySem.Str.ofString "law_wo0071_01") 653, code := PySem.Value.ref 296 } })
:: []) : Frag)) _ _ _ _ _ _ _ _ _ _ _ _ _ _ _ _ _ _ _ _ _ _ _ _ _ _ _ _ _ _ _ _ _ _ _ _ _ _ _ _ _ _ _ _ _ _ _ _ _ _ _ _ _ _ _ _ _ _ _ _ _ _ _ _ _ _ _ _ _ _ _ _ _ _ _ _ _ _ _ _ _ _ _ _ _ _ _ _ _ _ _ _ _ _ _ _ _ _ _ _ rfl ⟨rfl, rfl, rfl⟩ ⟨rfl, rfl, rfl⟩ ⟨rfl, rfl, rfl⟩ ⟨rfl, rfl, rfl⟩ ⟨rfl, rfl, rfl⟩ ⟨rfl, rfl, rfl⟩ ⟨rfl, rfl, rfl⟩ ⟨rfl, rfl, rfl⟩ ⟨rfl, rfl, rfl⟩ ⟨rfl, rfl, rfl⟩ ⟨rfl, rfl, rfl⟩ ⟨rfl, rfl, rfl⟩ ⟨rfl, rfl, rfl⟩ ⟨rfl, rfl, rfl⟩ ⟨rfl, rfl, rfl⟩ ⟨rfl, rfl, rfl⟩ ⟨rfl, rfl, rfl⟩ ⟨rfl, rfl, rfl⟩ ⟨rfl, rfl, rfl⟩ ⟨rfl, rfl, rfl⟩ ⟨rfl, rfl, rfl⟩ ⟨rfl, rfl, rfl⟩ ⟨rfl, rfl, rfl⟩ ⟨rfl, rfl, rfl⟩ ⟨rfl, rfl, rfl⟩ ⟨rfl, rfl, rfl⟩ ⟨rfl, rfl, rfl⟩ ⟨rfl, rfl, rfl⟩ ⟨rfl, rfl, rfl⟩ ⟨rfl, rfl, rfl⟩ ⟨rfl, rfl, rfl⟩ ⟨rfl, rfl, rfl⟩ ⟨rfl, rfl, rfl⟩

noncomputable def hd.view_39 : Program := view PySem.Challenge.pw_wo0071_01 [0, 1, 3, 4, 5, 7, 8, 9, 10, 11, 13, 14, 15, 17, 19, 20, 22, 23, 24, 25, 26, 27, 28, 29, 30]

theorem hd.addrs (P : Params) : [2, 3, 32, 34, 35, 37, 38, 39, 46, 47, 48, 49, 52, 59, 60, 61, 64, 66, 67, 69, 70, 71, 73, 74, 76, 77, 78, 80, 81, 83, 84, 88, 89, 93, 94, 98, 99, 100, 101, 103, 104, 106, 107, 115, 116, 118, 119, 121, 122, 123, 125, 126, 128, 129, 130, 132, 133, 135, 136, 137, 139, 140, 142, 143, 144, 147, 148, 149, 151, 152, 154, 155, 156, 158, 159, 161, 162, 163, 166, 167, 168, 169, 171, 172, 174, 175, 176, 179, 180, 181, 184, 185, 186, 188, 189, 191, 192, 193, 195, 196, 198, 199, 200, 203, 204, 205, 207, 208, 210, 211, 212, 214, 215, 217, 218, 219, 221, 222, 224, 225, 226, 227, 228, 229, 230, 233, 235, 236, 238, 239, 240, 242, 243, 245, 246, 247, 249, 250, 252, 253, 254, 257, 258, 259, 261, 262, 264, 265, 266, 268, 269, 271, 272, 273, 276, 277, 278, 281, 282, 283, 286, 287, 288, 291, 292, 293, 296, 297] = (hd.heap_39 P).map (·.1) := by
  kernel_rfl
noncomputable abbrev hd.hook : Hook := kHook hd.heap_39 [2, 3, 32, 34, 35, 37, 38, 39, 46, 47, 48, 49, 52, 59, 60, 61, 64, 66, 67, 69, 70, 71, 73, 74, 76, 77, 78, 80, 81, 83, 84, 88, 89, 93, 94, 98, 99, 100, 101, 103, 104, 106, 107, 115, 116, 118, 119, 121, 122, 123, 125, 126, 128, 129, 130, 132, 133, 135, 136, 137, 139, 140, 142, 143, 144, 147, 148, 149, 151, 152, 154, 155, 156, 158, 159, 161, 162, 163, 166, 167, 168, 169, 171, 172, 174, 175, 176, 179, 180, 181, 184, 185, 186, 188, 189, 191, 192, 193, 195, 196, 198, 199, 200, 203, 204, 205, 207, 208, 210, 211, 212, 214, 215, 217, 218, 219, 221, 222, 224, 225, 226, 227, 228, 229, 230, 233, 235, 236, 238, 239, 240, 242, 243, 245, 246, 247, 249, 250, 252, 253, 254, 257, 258, 259, 261, 262, 264, 265, 266, 268, 269, 271, 272, 273, 276, 277, 278, 281, 282, 283, 286, 287, 288, 291, 292, 293, 296, 297] hd.addrs
noncomputable abbrev hd.loose : List Str := [Str.ofString "tspecials", Str.ofString "_name_disallowed_re", Str.ofString "_value_disallowed_re", Str.ofString "_formatparam"]
theorem hd.said : OpenLaw.wellSaid PySem.Challenge.rw_wo0071_01 = true := by
  rw [PySem.W.Fast.te9446332074065402090]
  kernel_rfl
/-- the whole start of the program, run by the kernel -/
theorem hd.left : LeftO PySem.Challenge.rw_wo0071_01.row.prog hd.view_39 hd.loose (fun s => xlAt hd.view_39 [] s && recOk PySem.Challenge.rw_wo0071_01.row.records s) hd.hook.obs hd.hook.val 3934 := by
  intro w
  unfold openEnds fencedOpening topFrom
  rw [PySem.W.Fast.te4187177175401517315, PySem.W.Fast.te5923862056798008813, PySem.W.Fast.te14082659384304107361, PySem.W.Fast.te14364793385576792824, PySem.W.Fast.te8920871248978507458, PySem.W.Fast.te10274390034422433532, PySem.W.Fast.te1435165496053646825, PySem.W.Fast.te14289696077712309145]
  kernel_rfl
theorem hd (d : DefRec) (hdef : defOf hd.view_39 PySem.Challenge.rw_wo0071_01.row.name = some (d, []))
    (walk : WalkO hd.view_39 [Str.ofString "tspecials", Str.ofString "_name_disallowed_re", Str.ofString "_value_disallowed_re", Str.ofString "_formatparam"] (XL hd.view_39 []) (kHook hd.heap_39 [2, 3, 32, 34, 35, 37, 38, 39, 46, 47, 48, 49, 52, 59, 60, 61, 64, 66, 67, 69, 70, 71, 73, 74, 76, 77, 78, 80, 81, 83, 84, 88, 89, 93, 94, 98, 99, 100, 101, 103, 104, 106, 107, 115, 116, 118, 119, 121, 122, 123, 125, 126, 128, 129, 130, 132, 133, 135, 136, 137, 139, 140, 142, 143, 144, 147, 148, 149, 151, 152, 154, 155, 156, 158, 159, 161, 162, 163, 166, 167, 168, 169, 171, 172, 174, 175, 176, 179, 180, 181, 184, 185, 186, 188, 189, 191, 192, 193, 195, 196, 198, 199, 200, 203, 204, 205, 207, 208, 210, 211, 212, 214, 215, 217, 218, 219, 221, 222, 224, 225, 226, 227, 228, 229, 230, 233, 235, 236, 238, 239, 240, 242, 243, 245, 246, 247, 249, 250, 252, 253, 254, 257, 258, 259, 261, 262, 264, 265, 266, 268, 269, 271, 272, 273, 276, 277, 278, 281, 282, 283, 286, 287, 288, 291, 292, 293, 296, 297] hd.addrs).says PySem.Challenge.rw_wo0071_01.row.toRowW d [] fun f vs => PySem.call f vs) : PySem.Challenge.rw_wo0071_01.Holds := by
  refine holds_law hd.said fun said => ?_
  have hp : PySem.Challenge.rw_wo0071_01.row.prog.theDef PySem.Challenge.rw_wo0071_01.row.name = some (d.params, d.body, d.scope) ∧ kwWritten? d.params.kwonlyargs d.params.kw_defaults = some [] := by
    have e : some (d, ([] : List (Str × PySem.Expr))) = _ := hdef.symm.trans rfl
    obtain ⟨rfl, -⟩ := Prod.mk.inj (Option.some.inj e)
    exact ⟨rfl, rfl⟩
  refine holds_open (N := 3934) hd.left (Hook.of hd.hook) (Hook.keeps hd.hook) (fun s e => xl_of s (Bool.and_eq_true_iff.mp e).1) XL.keeps hdef hp.1 hp.2 (fun s e => recFacts_of (Bool.and_eq_true_iff.mp e).2) (by rfl) said (by kernel_rfl) ⟨rfl, rfl, rfl, rfl, rfl, by kernel_rfl⟩ ?hw walk
  case hw => w_witness2
end Mine
end
section
open PySem PySem.W PySem.Spec PySem.Calls PyProof.Rows
set_option maxHeartbeats 8000000
namespace Mine
theorem fill : PySem.Challenge.rw_wo0071_01 = PySem.Challenge.rw_wo0071_01 → hd.heap_39 = hd.heap_39 := by
  k_fill
  intro _; rfl

noncomputable abbrev Claim (w : World) (n : Nat) (f : Addr) (pre : Prop) (vs : List Value) (R : Tok → Value) : Prop :=
  ∀ (prog : Program) (p : Program) (loose : List Str) (mean : ExcName → Option Value) (mg mb : Str → Option Value) (news : List (Addr × Obj))
    (dp un : Nat) (gd : Option (List Code)) (cn : Str) (cs : Scope) (a : Addr) (ccd : Value) (cl : List (Str × Addr)) (outer : List Env) (A₀ : Around) (base h₀ : Heap) (L : Addr) (m : Str → Option Value) (s : Shared) (Q E : Value → Shared → Prop),
    Below A₀ base outer h₀ → Fr h₀ L s.heap m → (hd.heap_39 w.params).In h₀ → News h₀ L s.heap news → Top p loose mean mg mb h₀ → cs.kind = .function →
    pre → dp + n < recursionLimit → un + 100 * n < cLine → CbRet h₀ L m news s Q R →
      wpAny (model prog w) (ktrTop dp un gd cn cs L a ccd cl outer) (call (.ref f) vs) Q E s
noncomputable def Stop (P : Prop) : Prop := P
theorem Stop.mk {P : Prop} (h : Stop P) : P := h
end Mine
end
section
open PySem PySem.W PySem.Spec PySem.Calls PyProof.Rows
set_option maxHeartbeats 8000000
namespace Mine
theorem rs_M0 : True := by
  k_with_none
  exact trivial
section
variable {α : Type _} {x a b c d e f g h : α} {l s : List α}
theorem mem1 : x ∈ a :: x :: l := .tail _ (.head _)
theorem mem2 : x ∈ a :: b :: x :: l := .tail _ mem1
theorem mem3 : x ∈ a :: b :: c :: x :: l := .tail _ mem2
theorem mem4 : x ∈ a :: b :: c :: d :: x :: l := .tail _ mem3
theorem mem5 : x ∈ a :: b :: c :: d :: e :: x :: l := .tail _ mem4
theorem mem6 : x ∈ a :: b :: c :: d :: e :: f :: x :: l := .tail _ mem5
theorem mem7 : x ∈ a :: b :: c :: d :: e :: f :: g :: x :: l := .tail _ mem6
theorem mem8 (H : x ∈ l) : x ∈ a :: b :: c :: d :: e :: f :: g :: h :: l := .tail _ (.tail _ (.tail _ (.tail _ (.tail _ (.tail _ (.tail _ (.tail _ H)))))))
end
/-- s is l with some entries left out -/
inductive Sq : List (Addr × Obj) → List (Addr × Obj) → Prop
  | nil (l : List (Addr × Obj)) : Sq [] l
  | keep {x : Addr × Obj} {s l : List (Addr × Obj)} (h : Sq s l) : Sq (x :: s) (x :: l)
  | skip {x : Addr × Obj} {s l : List (Addr × Obj)} (h : Sq s l) : Sq s (x :: l)
theorem Sq.mem {s l : List (Addr × Obj)} (q : Sq s l) : ∀ p ∈ s, p ∈ l := by
  induction q with
  | nil l => exact fun _ h => nomatch h
  | keep _ ih => exact fun p h => (List.mem_cons.mp h).elim (fun e => e ▸ .head _) fun h => .tail _ (ih p h)
  | skip _ ih => exact fun p h => .tail _ (ih p h)
theorem sqL_of : ∀ {s l : List (Addr × Obj)}, (∀ p ∈ s, p ∈ l) → SubL s l
  | [], _, _ => trivial
  | _ :: _, _, h => ⟨h _ (.head _), sqL_of fun p hp => h p (.tail _ hp)⟩
theorem Sq.subL {s l : List (Addr × Obj)} (q : Sq s l) : SubL s l := sqL_of q.mem
theorem allNe_cons {x a : Addr} {o : Obj} {l : List (Addr × Obj)} (h : @Ne Nat x a) (r : ∀ p ∈ l, p.1 ≠ a) : ∀ p ∈ (x, o) :: l, p.1 ≠ a := List.forall_mem_cons.mpr ⟨h, r⟩
end Mine
end
section
local macro_rules | `(tactic| omega) => `(tactic| lia)
section
open PySem PySem.W PySem.Spec PySem.Calls PyProof.Rows
set_option maxHeartbeats 8000000
namespace Mine
theorem rs_C2 : True := by
  k_with_none
  exact trivial

noncomputable def subC (a b : Str) : Int := if (a == b) = true then 0 else if (Txt.lower a == Txt.lower b) = true then 1 else 2
theorem subst_c (w : World) (x y : Str) (t u : Tok) : Claim w 2 77 (x.length ≤ 2000 ∧ y.length ≤ 2000) [.str x t, .str y u] (fun t => .int (subC x y) t) := by
  intro prog p loose mean mg mb news
  dsimp only [CbRet]; intros; rename_i hpre _ _ hret
  obtain ⟨hx3, hxl⟩ := hpre
  refine wpAny_call ?_
  k_dflt cell_enter 
  k_steps
  all_goals refine cb_retI hret ?_ (by k_asm) (by k_asm)
  all_goals simp [subC, *]
end Mine
end
section
open PySem PySem.W PySem.Spec PySem.Calls PyProof.Rows PySem.Builtin.Str
namespace Mine
theorem rs_S0 : True := by
  k_with_none
  exact trivial
theorem range_pick (xs : Array Nat) (lo n : Nat) : (((List.range n).map fun (k : Nat) => ((lo : Int) + 1 * (k : Int)).toNat).filterMap (xs[·]?)) = (xs.toList.drop lo).take n := by
  induction n with
  | zero => simp
  | succ n ih =>
    rw [List.range_succ, List.map_append, List.filterMap_append, ih, List.take_add_one]
    congr 1
    have e : ((lo : Int) + 1 * (n : Int)).toNat = lo + n := by omega
    simp only [List.map_cons, List.map_nil, e]
    simp only [List.filterMap_cons, List.filterMap_nil, List.getElem?_drop, Array.getElem?_toList]
    cases xs[lo + n]? <;> rfl
noncomputable def clipLo (l : Option Int) (n : Nat) : Nat := match l with
  | none => 0
  | some i => (max 0 (min (if i < 0 then i + n else i) n)).toNat
noncomputable def clipHi (u : Option Int) (n : Nat) : Nat := match u with
  | none => n
  | some i => (max 0 (min (if i < 0 then i + n else i) n)).toNat
theorem range_count (lo hi : Nat) : (if (lo : Int) < hi then ((hi : Int) - lo + 1 - 1) / 1 else 0).toNat = hi - lo := by
  split <;> omega
theorem sliceRange_nat {a b : Int} {lo hi : Nat} (ha : a = lo) (hb : b = hi) :
    sliceRange a b 1 = (List.range (hi - lo)).map fun (k : Nat) => ((lo : Int) + 1 * (k : Int)).toNat := by
  subst ha hb
  unfold sliceRange
  simp only [show (1 : Int) > 0 by decide, if_true]
  rw [range_count]
theorem clipLo_le (l : Option Int) (n : Nat) : clipLo l n ≤ n := by
  unfold clipLo; cases l <;> simp only <;> omega
theorem clipHi_le (l : Option Int) (n : Nat) : clipHi l n ≤ n := by
  unfold clipHi; cases l <;> simp only <;> omega
theorem slice_list (x : Str) (l u : Option Int) : (Txt.slice x l u).cps.toList = (x.cps.toList.drop (clipLo l x.length)).take (clipHi u x.length - clipLo l x.length) := by
  have key : strSliceIndices l u 1 x.length = (List.range (clipHi u x.length - clipLo l x.length)).map fun (k : Nat) => ((clipLo l x.length : Int) + 1 * (k : Int)).toNat := by
    unfold strSliceIndices clipLo clipHi
    cases l <;> cases u <;> simp only [show (1 : Int) > 0 by decide, if_true]
    all_goals
      refine sliceRange_nat ?_ ?_ <;> first | rfl | exact (Int.toNat_of_nonneg (Int.le_max_left _ _)).symm
  unfold Txt.slice
  rw [key]
  split
  · rename_i h
    simp only [beq_self_eq_true, List.length_map, List.length_range, Bool.true_and, beq_iff_eq] at h
    have hn : x.length = x.cps.toList.length := by simp [Str.length]
    have hh := clipHi_le u x.length
    have hl := clipLo_le l x.length
    have h0 : clipLo l x.length = 0 := by omega
    rw [h0, List.drop_zero, List.take_of_length_le (by omega)]
  · rw [range_pick]
theorem slice_from {x : Str} {i : Int} (h : 0 ≤ i) : (Txt.slice x (some i) none).cps.toList = x.cps.toList.drop i.toNat := by
  rw [slice_list]
  have hn : x.length = x.cps.toList.length := by simp [Str.length]
  simp only [clipLo, clipHi]
  rw [if_neg (by omega)]
  by_cases q : i ≤ x.length
  · have e : (max 0 (min i (x.length : Int))).toNat = i.toNat := by omega
    rw [e, List.take_of_length_le (by rw [List.length_drop]; omega)]
  · have e : (max 0 (min i (x.length : Int))).toNat = x.length := by omega
    rw [e, List.drop_of_length_le (by omega), List.drop_of_length_le (by omega)]; simp
theorem slice_neg {x : Str} {k : Int} (h : k < 0) : (Txt.slice x none (some k)).cps.toList = x.cps.toList.take ((x.length : Int) + k).toNat := by
  rw [slice_list]
  simp only [clipLo, clipHi, if_pos h, List.drop_zero, Nat.sub_zero]
  congr 1; omega
theorem slice_all (x : Str) : Txt.slice x none none = x := by
  have e := slice_list x none none
  simp only [clipLo, clipHi, List.drop_zero, Nat.sub_zero] at e
  rw [List.take_of_length_le (by simp [Str.length])] at e
  exact Str.ext' (Array.toList_inj.mp e)
theorem slice_to {x : Str} {k : Int} (h : 0 ≤ k) : (Txt.slice x none (some k)).cps.toList = x.cps.toList.take k.toNat := by
  rw [slice_list]
  have hn : x.length = x.cps.toList.length := by simp [Str.length]
  simp only [clipLo, clipHi, if_neg (by omega : ¬ k < 0), List.drop_zero, Nat.sub_zero]
  by_cases q : k ≤ x.length
  · congr 1; omega
  · rw [List.take_of_length_le (by omega), List.take_of_length_le (by omega)]
theorem slice_mid {x : Str} {i k : Int} (h : 0 ≤ i) (hk : 0 ≤ k) : (Txt.slice x (some i) (some k)).cps.toList = (x.cps.toList.drop i.toNat).take (k.toNat - i.toNat) := by
  rw [slice_list]
  have hn : x.length = x.cps.toList.length := by simp [Str.length]
  simp only [clipLo, clipHi, if_neg (by omega : ¬ i < 0), if_neg (by omega : ¬ k < 0)]
  by_cases q : i ≤ x.length
  · have e : (max 0 (min i (x.length : Int))).toNat = i.toNat := by omega
    rw [e]
    by_cases q2 : k ≤ x.length
    · congr 1; omega
    · rw [List.take_of_length_le (by rw [List.length_drop]; omega), List.take_of_length_le (by rw [List.length_drop]; omega)]
  · rw [List.drop_of_length_le (by omega), List.drop_of_length_le (by omega)]; simp
theorem len_list (x : Str) : x.length = x.cps.toList.length := by simp [Str.length]
theorem slice_neg_len {x : Str} {k : Int} (h : k < 0) : (Txt.slice x none (some k)).length = ((x.length : Int) + k).toNat := by
  rw [len_list, slice_neg h, List.length_take, ← len_list]; omega
theorem slice_from_len {x : Str} {k : Int} (h : 0 ≤ k) : (Txt.slice x (some k) none).length = x.length - k.toNat := by
  rw [len_list, slice_from h, List.length_drop, ← len_list]
theorem item_nn {x : Str} {i : Int} (h0 : 0 ≤ i) (h1 : i < x.length) : Txt.item x i = ⟨#[x.cps.toList.getD i.toNat 0]⟩ := by
  unfold Txt.item Txt.charAt
  have hs : seqIndex? i x.length = some i.toNat := by
    unfold seqIndex?
    simp only [if_neg (by omega : ¬ i < 0)]
    rw [if_pos (by simp; omega)]
  rw [hs]
  simp [List.getD]
end Mine
end
section
open PySem PySem.W PySem.Spec PySem.Calls PyProof.Rows
set_option maxHeartbeats 8000000
namespace Mine
theorem rs_D0 : True := by
  k_with_none
  exact trivial
section
variable {prog : Program} {w : World} {A : Around} {E : Value → Shared → Prop} {Q : Flow → Shared → Prop} {s : Shared} {env : Env} {h₀ : Heap} {L : Addr}
noncomputable def CutV (h₀ : Heap) (L : Addr) (s : Shared) (news : List (Addr × Obj)) (m₀ : Str → Option Value) (name : Str) (Done : Value → Prop) (f : Flow) (s' : Shared) : Prop :=
  f = .next ∧ ∃ (v : Value) (h' : Heap) (tk' : Nat), s' = { s with heap := h', toks := tk' } ∧ Done v ∧ Fr h₀ L h' (fun z => if z = name then some v else m₀ z) ∧ News h₀ L h' news
theorem cutV {st : Stmt} {m₀ : Str → Option Value} {news : List (Addr × Obj)} (name : Str) (Done : Value → Prop) (F : Fr h₀ L s.heap m₀) (N : News h₀ L s.heap news)
    (loop : wpAny (model prog w) A (exec st env) (CutV h₀ L s news m₀ name Done) E s)
    (cont : ∀ (v : Value) (h' : Heap) (tk' : Nat), Done v → Fr h₀ L h' (fun z => if z = name then some v else m₀ z) → News h₀ L h' news → Q .next { s with heap := h', toks := tk' }) :
    wpAny (model prog w) A (exec st env) Q E s := by
  refine wpAny_mono loop (fun f s' h => ?_) fun _ _ x => x
  obtain ⟨rfl, k, h', tk', rfl, hd, F', N'⟩ := h
  exact cont k h' tk' hd F' N'
noncomputable def CutV2 (h₀ : Heap) (L : Addr) (s : Shared) (news : List (Addr × Obj)) (m₀ : Str → Option Value) (n1 n2 : Str) (Done : Value → Value → Prop) (f : Flow) (s' : Shared) : Prop :=
  f = .next ∧ ∃ (v1 v2 : Value) (h' : Heap) (tk' : Nat), s' = { s with heap := h', toks := tk' } ∧ Done v1 v2 ∧ Fr h₀ L h' (fun z => if z = n1 then some v1 else if z = n2 then some v2 else m₀ z) ∧ News h₀ L h' news
theorem cutV2 {st : Stmt} {m₀ : Str → Option Value} {news : List (Addr × Obj)} (n1 n2 : Str) (Done : Value → Value → Prop) (F : Fr h₀ L s.heap m₀) (N : News h₀ L s.heap news)
    (loop : wpAny (model prog w) A (exec st env) (CutV2 h₀ L s news m₀ n1 n2 Done) E s)
    (cont : ∀ (v1 v2 : Value) (h' : Heap) (tk' : Nat), Done v1 v2 → Fr h₀ L h' (fun z => if z = n1 then some v1 else if z = n2 then some v2 else m₀ z) → News h₀ L h' news → Q .next { s with heap := h', toks := tk' }) :
    wpAny (model prog w) A (exec st env) Q E s := by
  refine wpAny_mono loop (fun f s' h => ?_) fun _ _ x => x
  obtain ⟨rfl, v1, v2, h', tk', rfl, hd, F', N'⟩ := h
  exact cont v1 v2 h' tk' hd F' N'
end
section
variable {prog : Program} {w : World}
theorem use_claim {n : Nat} {f : Addr} {pre : Prop} {vs : List Value} {R : Tok → Value} (C : Claim w n f pre vs R) {p : Program} {loose : List Str} {mean : ExcName → Option Value} {mg mb : Str → Option Value} {news : List (Addr × Obj)}
    {dp un : Nat} {gd : Option (List Code)} {cn : Str} {cs : Scope} {a : Addr} {ccd : Value} {cl : List (Str × Addr)} {outer : List Env} {A₀ : Around} {base h₀ : Heap} {L : Addr} {m : Str → Option Value} {s : Shared} {Q E : Value → Shared → Prop}
    (B : Below A₀ base outer h₀) (F : Fr h₀ L s.heap m) (X : (hd.heap_39 w.params).In h₀) (N : News h₀ L s.heap news) (T : Top p loose mean mg mb h₀) (hk : cs.kind = .function) (hp : pre) (hd : dp + n < recursionLimit) (hu : un + 100 * n < cLine)
    (ret : CbRet h₀ L m news s Q R) : wpAny (model prog w) (ktrTop dp un gd cn cs L a ccd cl outer) (call (.ref f) vs) Q E s :=
  C prog p loose mean mg mb news dp un gd cn cs a ccd cl outer A₀ base h₀ L m s Q E B F X N T hk hp hd hu ret
end
noncomputable abbrev PreC (a b : Str) (k : Int) : Prop := k < a.length ∧ k < b.length ∧ (Txt.item a k == Txt.item b k) = true
noncomputable def preGo (a b : Str) : Nat → Int → Int
  | 0, k => k
  | f + 1, k => if PreC a b k then preGo a b f (k + 1) else k
noncomputable def preV (a b : Str) : Int := preGo a b a.length 0
noncomputable def PreJ (a b : Str) (k : Int) : Prop := (0 ≤ k ∧ k ≤ a.length ∧ k ≤ b.length) ∧ ∃ f : Nat, (a.length : Int) ≤ k + f ∧ preGo a b f k = preV a b
theorem PreJ.start (a b : Str) : PreJ a b 0 := ⟨⟨by omega, by omega, by omega⟩, a.length, by omega, rfl⟩
theorem PreJ.next {a b : Str} {k : Int} (h : PreJ a b k) (ha : k < a.length) (hb : k < b.length) (hc : (Txt.item a k == Txt.item b k) = true) : PreJ a b (k + 1) := by
  obtain ⟨⟨h0, h1, h2⟩, f, hf, e⟩ := h
  refine ⟨⟨by omega, by omega, by omega⟩, ?_⟩
  cases f with
  | zero => exfalso; omega
  | succ f =>
    refine ⟨f, by omega, ?_⟩
    rw [preGo, if_pos ⟨ha, hb, hc⟩] at e
    exact e
theorem PreJ.done {a b : Str} {k : Int} (h : PreJ a b k) (hc : ¬ PreC a b k) : k = preV a b := by
  obtain ⟨_, f, hf, e⟩ := h
  rw [← e]
  cases f with
  | zero => rfl
  | succ f => rw [preGo, if_neg hc]
noncomputable def cutTo (x : Str) (k : Int) : Str := if k = 0 then Txt.slice x none none else Txt.slice x none (some k)
noncomputable abbrev PostC (a b : Str) (k : Int) : Prop := 0 < a.length + k ∧ 0 < b.length + k ∧ (Txt.item a (k - 1) == Txt.item b (k - 1)) = true
noncomputable def postGo (a b : Str) : Nat → Int → Int
  | 0, k => k
  | f + 1, k => if PostC a b k then postGo a b f (k - 1) else k
noncomputable def postV (a b : Str) : Int := postGo a b a.length 0
noncomputable def PostJ (a b : Str) (k : Int) : Prop := (k ≤ 0 ∧ 0 ≤ a.length + k ∧ 0 ≤ b.length + k) ∧ ∃ f : Nat, (a.length : Int) + k ≤ f ∧ postGo a b f k = postV a b
theorem PostJ.start (a b : Str) : PostJ a b 0 := ⟨⟨by omega, by omega, by omega⟩, a.length, by omega, rfl⟩
theorem PostJ.next {a b : Str} {k : Int} (h : PostJ a b k) (ha : 0 < a.length + k) (hb : 0 < b.length + k) (hc : (Txt.item a (k - 1) == Txt.item b (k - 1)) = true) : PostJ a b (k - 1) := by
  obtain ⟨⟨h0, h1, h2⟩, f, hf, e⟩ := h
  refine ⟨⟨by omega, by omega, by omega⟩, ?_⟩
  cases f with
  | zero => exfalso; omega
  | succ f =>
    refine ⟨f, by omega, ?_⟩
    rw [postGo, if_pos ⟨ha, hb, hc⟩] at e
    exact e
theorem PostJ.done {a b : Str} {k : Int} (h : PostJ a b k) (hc : ¬ PostC a b k) : k = postV a b := by
  obtain ⟨_, f, hf, e⟩ := h
  rw [← e]
  cases f with
  | zero => rfl
  | succ f => rw [postGo, if_neg hc]
/-- one inner turn: (distance, result, minimum, row) -/
noncomputable def stepI (bc a : Str) (st : Int × Int × Int × List Int) (k : Int) : Int × Int × Int × List Int :=
  let sub := st.1 + subC bc (Txt.item a k)
  let dist := st.2.2.2.getD k.toNat 0
  let ins := (if dist < st.2.1 then dist else st.2.1) + 2
  let res := if sub < ins then sub else ins
  (dist, res, (if res < st.2.2.1 then res else st.2.2.1), st.2.2.2.set k.toNat res)
noncomputable def innerV (bc a : Str) (k : Int) (row : List Int) : Int × Int × Int × List Int := (rangeKs 0 a.length).foldl (stepI bc a) (k * 2, k * 2, 9223372036854775807, row)
noncomputable def levOut (a b : Str) (mx : Int) : Nat → Int → Int → List Int → Int
  | 0, _, r, _ => r
  | f + 1, k, _, row =>
    let st := innerV (Txt.item b k) a k row
    if mx < st.2.2.1 then mx + 1 else levOut a b mx f (k + 1) st.2.1 st.2.2.2
noncomputable def row0 (n : Nat) : List Int := (List.range n).map fun (i : Nat) => 2 + (i : Int) * 2
noncomputable def levM (a b : Str) (mx : Int) : Int := if mx < ((b.length : Int) - a.length) * 2 then mx + 1 else levOut a b mx b.length 0 0 (row0 a.length)
noncomputable def levS (a b : Str) (mx : Int) : Int :=
  if a.length = 0 ∨ b.length = 0 then 2 * ((a.length : Int) + b.length)
  else if 40 < a.length ∨ 40 < b.length then mx + 1
  else if b.length < a.length then levM b a mx else levM a b mx
noncomputable def LevV (a b : Str) (mx : Int) : Int :=
  if (a == b) = true then 0 else
    let k := preV a b
    let a1 := Txt.slice a (some k) none
    let b1 := Txt.slice b (some k) none
    let q := postV a1 b1
    levS (cutTo a1 q) (cutTo b1 q) mx
section
variable {prog : Program} {w : World} {A : Around} {E : Value → Shared → Prop} {s : Shared} {h₀ : Heap} {L r : Addr} {m : Str → Option Value} {news : List (Addr × Obj)} {t₀ u₀ v₀ : Tok} {n : Nat} {b : Int} {Q : Value → Shared → Prop}
theorem row_ints : ∀ (vs : List Value) (a c : Int), (∀ (j : Nat) (v : Value), vs[j]? = some v → ∃ t, v = .int (a + j * c) t) → IntsAre vs ((List.range vs.length).map fun (i : Nat) => a + (i : Int) * c)
  | [], _, _, _ => IntsAre.nil
  | v :: r, a, c, h => by
    obtain ⟨t, ht⟩ := h 0 v rfl
    have hv : v = .int a t := by rw [ht]; simp
    subst hv
    rw [List.length_cons, List.range_succ_eq_map, List.map_cons, List.map_map]
    have e : (fun (i : Nat) => a + (i : Int) * c) ∘ Nat.succ = fun (i : Nat) => (a + c) + (i : Int) * c := by
      funext i; simp only [Function.comp, Nat.succ_eq_add_one, Int.natCast_add, Int.add_mul]; omega
    rw [e]
    have e0 : a + ((0 : Nat) : Int) * c = a := by simp
    rw [e0]
    refine IntsAre.cons _ _ (row_ints r (a + c) c fun j v hj => ?_)
    obtain ⟨t', ht'⟩ := h (j + 1) v hj
    refine ⟨t', ht'.trans ?_⟩
    congr 1
    simp only [Int.natCast_add, Int.add_mul]; omega
theorem list_range2 (hh : A.handled = none) (F : Fr h₀ L s.heap m) (N : News h₀ L s.heap news) (hr : IsRange s.heap r 2 b 2 t₀ u₀ v₀) (hb : b = 2 * ((n : Int) + 1)) (hz : n ≤ 1000)
    (h : ∀ D us c h' tk, Fr h₀ L h' m → News h₀ L h' ((D, listOf (List.toArray us) c) :: news) → (∀ p ∈ news, p.1 < D) → IntsAre us (row0 n) → Q (.ref D) { s with heap := h', toks := tk }) :
    wpAny (model prog w) A (call (.type "list") [.ref r]) Q E s := by
  have hsz : Builtin.Range.rangeSize 2 b 2 = (n : Int) := by
    unfold Builtin.Range.rangeSize
    simp only [show (2 : Int) > 0 by decide, if_true]
    subst hb
    split <;> omega
  have hsm : Builtin.Range.small 2 b 2 = true := by
    unfold Builtin.Range.small
    rw [hsz]
    simp only [Builtin.Range.rangeFitsLong, Bool.and_eq_true, Bool.or_eq_true, decide_eq_true_eq, beq_iff_eq, show (2 : Int) > 0 by decide, if_true]
    omega
  refine call_list_range hh hr hsm hsz (by omega) fun h' tk acc c hk hD hI => ?_
  have hD' : h'.get? s.heap.objs.size = some (listOf (List.toArray acc.toList) c) := by
    rw [Array.toArray_toList]
    exact hD
  refine h _ acc.toList c h' tk (F.keeps hk) (news_pushed F N hk hD' rfl) (fun p hp => Heap.lt_size (N p hp).1) ?_
  have e := row_ints acc.toList 2 2 fun j v hj => hI.2 j v (by rw [← hj, Array.getElem?_toList])
  have hl : acc.toList.length = n := by rw [Array.length_toList]; exact hI.1
  rw [hl] at e
  exact e
end
end Mine
end
section
open PySem PySem.W PySem.Spec PySem.Calls PyProof.Rows
set_option maxHeartbeats 8000000
namespace Mine
theorem rs_C1 : True := by
  k_with_none
  exact trivial
noncomputable def pgo (x : Str) : Nat → Int → Str → Str
  | 0, _, d => d
  | f + 1, i, d =>
    if i < x.length then
      if (Txt.item x i == Str.ofString "\"") = true then
        if (x.length : Int) ≤ i + 1 then d
        else if (Txt.item x (i + 1) != Str.ofString "\"") = true then d
        else pgo x f (i + 1 + 1) (d ++ Txt.item x i)
      else pgo x f (i + 1) (d ++ Txt.item x i)
    else d
noncomputable def PV (x : Str) : Str := if (Txt.slice x (some 3) (some 5) != Str.ofString " \"") = true then Str.ofString "" else pgo x x.length 5 (Str.ofString "")

noncomputable def PJ (x : Str) (i : Int) (d : Str) : Prop := (5 ≤ i ∧ d.length ≤ i) ∧ ∃ f : Nat, (x.length : Int) ≤ i + f ∧ pgo x f i d = PV x

theorem PJ.start {x : Str} (h : (Txt.slice x (some 3) (some 5) != Str.ofString " \"") = false) : PJ x 5 (Str.ofString "") := by
  refine ⟨⟨by omega, by decide⟩, x.length, by omega, ?_⟩
  unfold PV; rw [h]; rfl
theorem PV_none {x : Str} (h : (Txt.slice x (some 3) (some 5) != Str.ofString " \"") = true) : Str.ofString "" = PV x := by unfold PV; rw [if_pos h]
theorem PJ.len {x d : Str} {i : Int} (h : PJ x i d) : d.length ≤ i := h.1.2
theorem PJ.pos {x d : Str} {i : Int} (h : PJ x i d) : 5 ≤ i := h.1.1
theorem PJ.done {x d : Str} {i : Int} (h : PJ x i d) (hi : ¬ i < x.length) : d = PV x := by
  obtain ⟨_, f, hf, e⟩ := h
  rw [← e]
  cases f with
  | zero => rfl
  | succ f => rw [pgo, if_neg hi]
theorem PJ.brk1 {x d : Str} {i : Int} (h : PJ x i d) (hi : i < x.length) (hc : (Txt.item x i == Str.ofString "\"") = true) (h2 : (x.length : Int) ≤ i + 1) : d = PV x := by
  obtain ⟨_, f, hf, e⟩ := h
  rw [← e]
  cases f with
  | zero => exfalso; omega
  | succ f => rw [pgo, if_pos hi, if_pos hc, if_pos h2]
theorem PJ.brk2 {x d : Str} {i : Int} (h : PJ x i d) (hi : i < x.length) (hc : (Txt.item x i == Str.ofString "\"") = true) (h2 : ¬ (x.length : Int) ≤ i + 1) (hc2 : (Txt.item x (i + 1) != Str.ofString "\"") = true) : d = PV x := by
  obtain ⟨_, f, hf, e⟩ := h
  rw [← e]
  cases f with
  | zero => exfalso; omega
  | succ f => rw [pgo, if_pos hi, if_pos hc, if_neg h2, if_pos hc2]
theorem PJ.two {x d : Str} {i : Int} (h : PJ x i d) (hi : i < x.length) (hc : (Txt.item x i == Str.ofString "\"") = true) (h2 : ¬ (x.length : Int) ≤ i + 1) (hc2 : (Txt.item x (i + 1) != Str.ofString "\"") = false) (hl : (Txt.item x i).length ≤ 1) : PJ x (i + 1 + 1) (d ++ Txt.item x i) := by
  obtain ⟨⟨h5, hd⟩, f, hf, e⟩ := h
  refine ⟨⟨by omega, by rw [Str.length_append]; omega⟩, ?_⟩
  cases f with
  | zero => exfalso; omega
  | succ f =>
    refine ⟨f, by omega, ?_⟩
    rw [pgo, if_pos hi, if_pos hc, if_neg h2, if_neg (by rw [hc2]; decide)] at e
    exact e
theorem PJ.one {x d : Str} {i : Int} (h : PJ x i d) (hi : i < x.length) (hc : (Txt.item x i == Str.ofString "\"") = false) (hl : (Txt.item x i).length ≤ 1) : PJ x (i + 1) (d ++ Txt.item x i) := by
  obtain ⟨⟨h5, hd⟩, f, hf, e⟩ := h
  refine ⟨⟨by omega, by rw [Str.length_append]; omega⟩, ?_⟩
  cases f with
  | zero => exfalso; omega
  | succ f =>
    refine ⟨f, by omega, ?_⟩
    rw [pgo, if_pos hi, if_neg (by rw [hc]; decide)] at e
    exact e

theorem parse_c (w : World) (x : Str) (t : Tok) : Claim w 2 70 ((Txt.slice x none (some 3) != Str.ofString "257") = false ∧ x.length ≤ 2000) [.str x t] (fun t => .str (PV x) t) := by
  k_with_none
  k_with "exec While Compare cons nil" => refine Stop.mk ?_
  intro prog p loose mean mg mb news
  dsimp only [CbRet]; intros; rename_i hpre _ _ hret
  obtain ⟨hx3, hxl⟩ := hpre
  refine wpAny_call ?_
  k_dflt cell_enter 
  (k_with "state" => (first | exact PJ.start (by assumption) | exact PJ.two (by assumption) (by assumption) (by assumption) (by assumption) (by assumption) (And.right (by assumption)) | exact PJ.one (by assumption) (by assumption) (by assumption) (And.right (by assumption))))
  k_steps
  all_goals try (show wpAny _ _ _ _ _ _; k_while (fun _ i d => PJ x i d) (fun _ i _ => x.length - i.toNat) "i" "dirname"; (have hj := PJ.len (by assumption)); (have hj2 := PJ.pos (by assumption)); k_steps)
  all_goals refine cb_retS hret ?_ (by k_asm) (by k_asm)
  all_goals first
    | exact PJ.done (by assumption) (by assumption)
    | exact PJ.brk1 (by assumption) (by assumption) (by assumption) (by assumption)
    | exact PJ.brk2 (by assumption) (by assumption) (by assumption) (by assumption) (by assumption)
    | exact PV_none (by assumption)
end Mine
end
section
open PySem PySem.W PySem.Spec PySem.Calls PyProof.Rows PySem.Builtin.Str
namespace Mine
theorem rs_S1 : True := by
  k_with_none
  exact trivial
noncomputable def put (c : Nat) (z : List Nat) (k : Nat) : List Nat := if k = c then z else [k]
theorem flat_free {c : Nat} {z : List Nat} : ∀ {l : List Nat}, c ∉ l → l.flatMap (put c z) = l
  | [], _ => rfl
  | a :: l, h => by
    have h1 : a ≠ c := fun e => h (by rw [e]; exact List.mem_cons_self ..)
    have h2 : c ∉ l := fun m => h (List.mem_cons_of_mem _ m)
    rw [List.flatMap_cons, flat_free h2]
    simp [put, h1]
theorem join_flat {c : Nat} {z : Str} : ∀ (l : List Str), (∀ p ∈ l, c ∉ p.cps.toList) → (Str.join z l).cps.toList = (Str.join ⟨#[c]⟩ l).cps.toList.flatMap (put c z.cps.toList)
  | [], _ => rfl
  | [x], h => by
    show x.cps.toList = x.cps.toList.flatMap _
    rw [flat_free (h x (List.mem_cons_self ..))]
  | x :: y :: r, h => by
    have ih := join_flat (z := z) (y :: r) fun p hp => h p (List.mem_cons_of_mem _ hp)
    show (x ++ z ++ Str.join z (y :: r)).cps.toList = (x ++ ⟨#[c]⟩ ++ Str.join ⟨#[c]⟩ (y :: r)).cps.toList.flatMap _
    rw [Str.cps_append, Str.cps_append, Str.cps_append, Str.cps_append]
    simp only [Array.toList_append, List.flatMap_append, ih]
    rw [flat_free (h x (List.mem_cons_self ..))]
    congr 2
    simp [put]
theorem replace_list (x z : Str) (c : Nat) : (Txt.replace x ⟨#[c]⟩ z).cps.toList = x.cps.toList.flatMap (put c z.cps.toList) := by
  rw [StrLaws.replace_one, join_flat _ (StrLaws.split_free x c), StrLaws.join_split]
theorem flat_len {c : Nat} {z : List Nat} {n : Nat} (hz : z.length ≤ n) (hn : 1 ≤ n) : ∀ (l : List Nat), (l.flatMap (put c z)).length ≤ n * l.length
  | [] => by simp
  | a :: l => by
    have ih := flat_len (c := c) hz hn l
    rw [List.flatMap_cons, List.length_append, List.length_cons, Nat.mul_add]
    have : (put c z a).length ≤ n := by unfold put; split; exact hz; exact hn
    omega
theorem replace_len2 (x : Str) : (Txt.replace x (Str.ofString "\"") (Str.ofString "\"\"")).length ≤ 2 * x.length := by
  have e : Str.ofString "\"" = ⟨#[34]⟩ := by decide +kernel
  rw [e, len_list, replace_list, len_list]
  exact flat_len (by decide +kernel) (by decide) _
end Mine
end
section
open PySem PySem.W PySem.Spec PySem.Calls PyProof.Rows
set_option maxHeartbeats 8000000
namespace Mine
theorem rs_S2 : True := by
  k_with_none
  exact trivial
section
variable {prog : Program} {w : World} {A : Around} {E : Value → Shared → Prop} {s : Shared} {h₀ : Heap} {L : Addr} {m : Str → Option Value} {env : Env}
noncomputable def TupAt (ax : Addr) (its : Array Value) (k : Nat) (news : List (Addr × Obj)) : Prop := (ax, ({ cls := .type "tuple", data := .seq its k } : Obj)) ∈ news
theorem TupAt.tup {h : Heap} {ax : Addr} {its : Array Value} {k : Nat} {news : List (Addr × Obj)} (x : TupAt ax its k news) (N : News h₀ L h news) : h.IsTuple ax its := ⟨_, (N _ x).1, rfl, k, rfl⟩
noncomputable def TupSrc (prog : Program) (w : World) (A : Around) (h₀ : Heap) (L : Addr) (m : Str → Option Value) (env : Env) (ct elt : PySem.Expr) (x : Str) (scope : Scope) (cl : List (Str × Addr)) (Fin : Shared → List Value → List (Addr × Obj) → Prop) (xv : Value) (s₁ : Shared) : Prop :=
  ∃ ax its k news, xv = .ref ax ∧ A.handled = none ∧ Fr h₀ L s₁.heap m ∧ News h₀ L s₁.heap news ∧ TupAt ax its k news ∧ its.size ≤ sizeLine ∧
    ∀ s₂ : Shared, (∃ h, s₂ = { s₁ with heap := h }) → LCt.CompRestT prog w A h₀ L m env ct elt x scope cl s₂ (TupAt ax its k) (fun i v => its[i]? = some v) (Fin s₂) its.size 0 [] news
theorem TupSrc.mk {ct elt : PySem.Expr} {x : Str} {scope : Scope} {cl : List (Str × Addr)} {Fin : Shared → List Value → List (Addr × Obj) → Prop} {ax : Addr} {its : Array Value} {k : Nat} {news : List (Addr × Obj)} {s₁ : Shared}
    (hh : A.handled = none) (F : Fr h₀ L s₁.heap m) (N : News h₀ L s₁.heap news) (hm : (ax, ({ cls := .type "tuple", data := .seq its k } : Obj)) ∈ news) (hsz : its.size ≤ sizeLine)
    (h : ∀ g, LCt.CompRestT prog w A h₀ L m env ct elt x scope cl { s₁ with heap := g } (TupAt ax its k) (fun i v => its[i]? = some v) (Fin { s₁ with heap := g }) its.size 0 [] news) :
    TupSrc prog w A h₀ L m env ct elt x scope cl Fin (.ref ax) s₁ := ⟨ax, its, k, news, rfl, hh, F, N, hm, hsz, fun _ ⟨g, e⟩ => e ▸ h g⟩
theorem tup_st {ax I : Addr} {its : Array Value} {k : Nat} : ∀ i (h h' : Heap) (o : Obj) (nw : List (Addr × Obj)), (h.IsTupleIter I ax i ∧ h.IsTuple ax its) → h.get? I = some o → h'.get? I = some o → (∀ b o, h₀.get? b = some o → h'.get? b = some o) → News h₀ L h' nw → TupAt ax its k nw → (h'.IsTupleIter I ax i ∧ h'.IsTuple ax its) :=
  fun _ _ _ o _ st e e' _ N S => ⟨by obtain ⟨o', q, r⟩ := st.1; rw [e] at q; cases q; exact ⟨o, e', r⟩, S.tup N⟩
theorem comp_tupE {ct elt iter : PySem.Expr} {x : Str} {px : Pos} {scope : Scope} {cl : List (Str × Addr)} {pos : Pos} {Q : Value → Shared → Prop} (_F₀ : Fr h₀ L s.heap m)
    (hclos : closureFor scope env = pure cl) (hcell : ∀ y ∈ scope.names, y.2 ≠ .cell) (hkind : scope.kind = .function)
    (hnames : ∀ y ∈ scope.names, y.2 = .local → scope.names.lookup y.1 = some .local) (hx : scope.names.lookup x = some .local)
    (h : wpAny (model prog w) A (eval iter env) (TupSrc prog w A h₀ L m env ct elt x scope cl (fun s₂ => LCg.FinE h₀ L m s₂ Q)) E s)
    (hs : ∀ x, foldedSetIterable iter env x = pure x := by intro _; rfl) :
    wpAny (model prog w) A (eval (.ListComp elt [⟨.Name x px, iter, [ct], 0⟩] scope pos) env) Q E s := by
  rw [eval_ListComp]
  refine wpAny_comprehension_free (use := none) rfl hs hclos hkind hnames (wpAny_mono h (fun xv s₁ h₁ => ?_) fun _ _ e => e)
  obtain ⟨ax, its, k, news, rfl, hh, F, N, S, hsz, R⟩ := h₁
  have hl := S.tup N
  have hlt : ax < s₁.heap.objs.size := by obtain ⟨_, e, _⟩ := hl; exact Heap.lt_size e
  refine wpAny_pyIter_tuple hl ?_
  have up : ∀ b o, s₁.heap.get? b = some o → (s₁.heap.push { cls := .type "tuple_iterator", data := .fields #[.ref ax, .int 0 0] }).get? b = some o := fun b o e => Heap.get?_push_of_some _ e
  refine LCt.block_T (Walks.tuple hh s₁.heap.objs.size ax (Nat.ne_of_lt hlt) its) hsz (fun i h st => by obtain ⟨o, e, _⟩ := st.1; exact ⟨o, e⟩) tup_st hcell hkind hx ⟨⟨_, Heap.get?_push_size _ rfl, rfl, rfl⟩, hl.push _⟩ (fun b hb => ?_)
    (F.keeps up) (N.grown up) (Nat.ne_of_lt F.ns.lt) (next_is_new F) (fun p hp => Nat.ne_of_lt (Heap.lt_size (N p hp).1)) S (R _ ⟨_, rfl⟩) ?_
  · show b < (s₁.heap.push _).objs.size
    rw [Heap.size_push]
    rcases List.mem_cons.mp hb with rfl | hb
    · exact Nat.lt_succ_self _
    · rw [List.mem_singleton.mp hb]; exact Nat.lt_succ_of_lt hlt
  · intro D C h tk m' ys news' F' N' o1 hn hC₀ hD₀ hCL hDL hCD offC fin
    refine ⟨m', hn, fun h'' hs'' => fin D h'' tk (F'.change hs'' hCL hC₀) (fun p hp => ?_) o1⟩
    refine ⟨hs''.extBut _ _ ?_ (N' p hp).1, (N' p hp).2⟩
    rcases List.mem_cons.mp hp with rfl | hp
    · exact Ne.symm hCD
    · exact offC p hp
theorem comp_tupA {ct elt iter : PySem.Expr} {x y : Str} {px py : Pos} {scope : Scope} {cl : List (Str × Addr)} {pos spos : Pos} {Q : Flow → Shared → Prop} (_F₀ : Fr h₀ L s.heap m) (hLe : env.locals = L)
    (hsw : swapsWith (.ListComp elt [⟨.Name x px, iter, [ct], 0⟩] scope pos) (some (.Name y py)) spos.line env = pure true)
    (hclos : closureFor scope env = pure cl) (hcell : ∀ z ∈ scope.names, z.2 ≠ .cell) (hkind : scope.kind = .function)
    (hnames : ∀ z ∈ scope.names, z.2 = .local → scope.names.lookup z.1 = some .local) (hx : scope.names.lookup x = some .local)
    (hy : env.kindOf y = some .local) (hp : (env.scope.kind == .class || (env.scope.kind == .module && env.locals != env.globals)) = false)
    (h : wpAny (model prog w) A (eval iter env) (TupSrc prog w A h₀ L m env ct elt x scope cl (fun s₂ => LCg.FinA h₀ L m s₂ y Q)) E s)
    (hs : ∀ x, foldedSetIterable iter env x = pure x := by intro _; rfl) :
    wpAny (model prog w) A (exec (.Assign [.Name y py] (.ListComp elt [⟨.Name x px, iter, [ct], 0⟩] scope pos) spos) env) Q E s := by
  subst hLe
  rw [exec_Assign_Name_used _ _ _ _ hsw]
  refine wpAny_bind (wpAny_standAt (wpAny_bind ?_))
  show wpAny _ A (do let _ ← comprehension (.ListComp elt [⟨.Name x px, iter, [ct], 0⟩] scope pos) scope env _ (newList []) false (eval iter env) (some (assign (.Name y py) env))) _ _ s
  refine wpAny_bind (wpAny_mono (wpAny_comprehension_free (use := some (assign (.Name y py) env)) (Q := fun _ s' => Q .next s') rfl hs hclos hkind hnames
    (wpAny_mono h (fun xv s₁ h₁ => ?_) fun _ _ e => e)) (fun _ s' hq => wpAny_pure (wpAny_pure hq)) fun _ _ e => e)
  obtain ⟨ax, its, k, news, rfl, hh, F, N, S, hsz, R⟩ := h₁
  have hl := S.tup N
  have hlt : ax < s₁.heap.objs.size := by obtain ⟨_, e, _⟩ := hl; exact Heap.lt_size e
  refine wpAny_pyIter_tuple hl ?_
  have up : ∀ b o, s₁.heap.get? b = some o → (s₁.heap.push { cls := .type "tuple_iterator", data := .fields #[.ref ax, .int 0 0] }).get? b = some o := fun b o e => Heap.get?_push_of_some _ e
  refine LCt.block_T (Walks.tuple hh s₁.heap.objs.size ax (Nat.ne_of_lt hlt) its) hsz (fun i h st => by obtain ⟨o, e, _⟩ := st.1; exact ⟨o, e⟩) tup_st hcell hkind hx ⟨⟨_, Heap.get?_push_size _ rfl, rfl, rfl⟩, hl.push _⟩ (fun b hb => ?_)
    (F.keeps up) (N.grown up) (Nat.ne_of_lt F.ns.lt) (next_is_new F) (fun p hp => Nat.ne_of_lt (Heap.lt_size (N p hp).1)) S (R _ ⟨_, rfl⟩) ?_
  · show b < (s₁.heap.push _).objs.size
    rw [Heap.size_push]
    rcases List.mem_cons.mp hb with rfl | hb
    · exact Nat.lt_succ_self _
    · rw [List.mem_singleton.mp hb]; exact Nat.lt_succ_of_lt hlt
  · intro D C h' tk m' ys news' F' N' o1 hn hC₀ hD₀ hCL hDL hCD offC fin
    show wpAny _ A (assign (.Name y py) env (.ref D)) _ _ _
    refine wpAny_assign_Name (wpAny_storeName_local hy F'.ns (fun h₂ hn₂ hs₂ => ?_) hp)
    have hL₀ : h₀.get? env.locals = none := Heap.get?_none_of_le F'.above
    have F₂ : Fr h₀ env.locals h₂ (fun z => if z = y then some (.ref D) else m z) := ⟨hn₂, fun b o e => hs₂.extBut b o (fun q => by rw [q, hL₀] at e; cases e) (F'.keep b o e), F'.above⟩
    refine ⟨m', hn.sameBut hs₂ hCL, fun h'' hs'' => fin D h'' _ (F₂.change hs'' hCL hC₀) (fun p hp => ?_) o1⟩
    have z : h₂.get? p.1 = some p.2 := hs₂.extBut _ _ (N' p hp).2.1 (N' p hp).1
    refine ⟨hs''.extBut _ _ ?_ z, (N' p hp).2⟩
    rcases List.mem_cons.mp hp with rfl | hp
    · exact Ne.symm hCD
    · exact offC p hp
theorem sub_known {D : Addr} {news : List (Addr × Obj)} {vs : List Value} {ns : List Int} {n : Nat} {k v : Int} {u : Tok} {value slice : PySem.Expr} {Q : Value → Shared → Prop} (N : News h₀ L s.heap news) (hm : (D, listOf vs.toArray n) ∈ news) (hi : IntsAre vs ns) (h0 : 0 ≤ k) (hfit : k < 2 ^ 63) (e : ns[k.toNat]? = some v) (h : ∀ t, Q (.int v t) s)
    (hs : subscripted slice false (.ref D) (.int k u) = operate [.ref D, .int k u] (getItem (.ref D) (.int k u)) := by with_unfolding_all rfl) :
    wpAny (model prog w) A (subscriptTail value slice (.ref D) (.int k u)) Q E s := by
  have hl : k.toNat < ns.length := (List.getElem?_eq_some_iff.mp e).1
  have hv : ns.getD k.toNat 0 = v := by simp [List.getD, e]
  refine ksa_sub N hm hi h0 (by omega) hfit ?_ hs
  rw [hv]; exact h
theorem sub_val {D : Addr} {news : List (Addr × Obj)} {vs : List Value} {n : Nat} {k : Int} {v : Value} {u : Tok} {value slice : PySem.Expr} {Q : Value → Shared → Prop} (N : News h₀ L s.heap news) (hm : (D, listOf vs.toArray n) ∈ news) (h0 : 0 ≤ k) (hfit : k < 2 ^ 63) (e : vs[k.toNat]? = some v) (h : Q v s)
    (hs : subscripted slice false (.ref D) (.int k u) = operate [.ref D, .int k u] (getItem (.ref D) (.int k u)) := by with_unfolding_all rfl) :
    wpAny (model prog w) A (subscriptTail value slice (.ref D) (.int k u)) Q E s :=
  have hl : s.heap.IsList D vs.toArray := ⟨_, (N _ hm).1, rfl, n, rfl⟩
  tail_any hl.typeIs slot_list_getitem.lookup (wpAny_getItem_list hl h0 hfit (by simpa using e) h) hs
end
end Mine
end
section
open PySem PySem.W PySem.Spec PySem.Calls PyProof.Rows
set_option maxHeartbeats 8000000
namespace Mine
theorem rs_L1 : True := by
  k_with_none
  exact trivial
theorem slice_none_L {prog : Program} {w : World} {A : Around} {E : Value → Shared → Prop} {s : Shared} {value slice : PySem.Expr} {x : Str} {t : Tok} {h₀ : Heap} {L : Addr} {m : Str → Option Value} {news : List (Addr × Obj)} {Q : Value → Shared → Prop}
    (hF : Fr h₀ L s.heap m) (hN : News h₀ L s.heap news) (h : ∀ h' t' k, Fr h₀ L h' m → News h₀ L h' news → (Txt.slice x none none).length = x.length → Q (.str (Txt.slice x none none) t') { s with heap := h', toks := k })
    (hs : subscripted slice false (.str x t) (.ref s.heap.objs.size) = operate [.ref s.heap.objs.size, .str x t] (getItem (.str x t) (.ref s.heap.objs.size)) := by with_unfolding_all rfl)
    (ht : ∀ r, letTemporaryGo value (.str x t) r = pure () := by intro _; with_unfolding_all rfl) (hsz : x.length ≤ sizeLine := by size_fits) :
    wpAny (model prog w) A (subscriptTail value slice (.str x t) (.ref s.heap.objs.size)) Q E { s with heap := s.heap.push { cls := .type "slice", data := .fields #[.none, .none, .none] } } :=
  slice_strN_nn hF hN (fun h' t' k F N => h h' t' k F N (by rw [slice_all])) hs ht hsz
theorem slice_neg_L {prog : Program} {w : World} {A : Around} {E : Value → Shared → Prop} {s : Shared} {value slice : PySem.Expr} {x : Str} {t uj : Tok} {j : Int} {h₀ : Heap} {L : Addr} {m : Str → Option Value} {news : List (Addr × Obj)} {Q : Value → Shared → Prop}
    (hj : j < 0) (hF : Fr h₀ L s.heap m) (hN : News h₀ L s.heap news) (h : ∀ h' t' k, Fr h₀ L h' m → News h₀ L h' news → (Txt.slice x none (some j)).length = ((x.length : Int) + j).toNat → Q (.str (Txt.slice x none (some j)) t') { s with heap := h', toks := k })
    (hs : subscripted slice false (.str x t) (.ref s.heap.objs.size) = operate [.ref s.heap.objs.size, .str x t] (getItem (.str x t) (.ref s.heap.objs.size)) := by with_unfolding_all rfl)
    (ht : ∀ r, letTemporaryGo value (.str x t) r = pure () := by intro _; with_unfolding_all rfl) (hsz : x.length ≤ sizeLine := by size_fits) :
    wpAny (model prog w) A (subscriptTail value slice (.str x t) (.ref s.heap.objs.size)) Q E { s with heap := s.heap.push { cls := .type "slice", data := .fields #[.none, .int j uj, .none] } } :=
  slice_strN_ns hF hN (fun h' t' k F N => h h' t' k F N (slice_neg_len hj)) hs ht hsz
theorem all_append {D : Addr} {A B : List (Addr × Obj)} (h1 : ∀ p ∈ A, p.1 ≠ D) (h2 : ∀ p ∈ B, p.1 ≠ D) : ∀ p ∈ A ++ B, p.1 ≠ D := fun p hp => (List.mem_append.mp hp).elim (h1 p) (h2 p)
theorem all_lt {D : Addr} {A : List (Addr × Obj)} (h1 : ∀ p ∈ A, p.1 < D) : ∀ p ∈ A, p.1 ≠ D := fun p hp => Nat.ne_of_lt (h1 p hp)
theorem all_off {D : Addr} {adr : List Addr} {A : List (Addr × Obj)} (h1 : OwnOff A (D :: adr)) : ∀ p ∈ A, p.1 ≠ D := OwnOff.ne h1 (List.mem_cons_self ..)
theorem fr_same2 {h₀ h : Heap} {L : Addr} {m : Str → Option Value} {n1 n2 : Str} {v1 v2 : Value} (F : Fr h₀ L h m) (h1 : m n1 = some v1) (h2 : m n2 = some v2) : Fr h₀ L h (fun z => if z = n1 then some v1 else if z = n2 then some v2 else m z) := by
  have e : (fun z => if z = n1 then some v1 else if z = n2 then some v2 else m z) = m := by
    funext z
    by_cases q : z = n1
    · subst q; simp [h1]
    · by_cases q2 : z = n2
      · subst q2; simp [q, h2]
      · simp [q, q2]
  rw [e]; exact F
theorem swap_yes {a b : Str} {mx v : Int} {t1 t2 : Tok} (hL : v = levS a b mx) (h1 : ((a.length : Nat) : Int) ≠ 0) (h2 : ((b.length : Nat) : Int) ≠ 0) (h3 : ¬ (40 : Int) < a.length) (h4 : ¬ (40 : Int) < b.length) (h : (b.length : Int) < a.length) :
    ∃ a3 b3 u1 u2, Value.str b t2 = .str a3 u1 ∧ Value.str a t1 = .str b3 u2 ∧ v = levM a3 b3 mx ∧ 0 < a3.length ∧ a3.length ≤ b3.length ∧ b3.length ≤ 40 := by
  refine ⟨b, a, t2, t1, rfl, rfl, ?_, by omega, by omega, by omega⟩
  rw [hL]; unfold levS
  rw [if_neg (by omega), if_neg (by omega), if_pos (by omega)]
theorem swap_no {a b : Str} {mx v : Int} {t1 t2 : Tok} (hL : v = levS a b mx) (h1 : ((a.length : Nat) : Int) ≠ 0) (h2 : ((b.length : Nat) : Int) ≠ 0) (h3 : ¬ (40 : Int) < a.length) (h4 : ¬ (40 : Int) < b.length) (h : ¬ (b.length : Int) < a.length) :
    ∃ a3 b3 u1 u2, Value.str a t1 = .str a3 u1 ∧ Value.str b t2 = .str b3 u2 ∧ v = levM a3 b3 mx ∧ 0 < a3.length ∧ a3.length ≤ b3.length ∧ b3.length ≤ 40 := by
  refine ⟨a, b, t1, t2, rfl, rfl, ?_, by omega, by omega, by omega⟩
  rw [hL]; unfold levS
  rw [if_neg (by omega), if_neg (by omega), if_neg (by omega)]
noncomputable def OutJ (a b : Str) (mx : Int) (pre : List Int) (row : List Int) (r : Int) : Prop := row.length = a.length ∧ ∃ f : Nat, pre.length + f = b.length ∧ levOut a b mx f pre.length r row = levOut a b mx b.length 0 0 (row0 a.length)
noncomputable def InnJ (bc a : Str) (k : Int) (row₀ : List Int) (pre : List Int) (row : List Int) (d r m : Int) : Prop := row.length = a.length ∧ (d, r, m, row) = pre.foldl (stepI bc a) (k * 2, k * 2, 9223372036854775807, row₀)
theorem pre_end {a b : Str} {k : Int} {t : Tok} (h : PreJ a b k) (hc : ¬ PreC a b k) : ∃ t', Value.int k t = .int (preV a b) t' ∧ 0 ≤ preV a b ∧ preV a b ≤ a.length ∧ preV a b ≤ b.length := by
  have e := h.done hc
  have b := h.1
  rw [← e]
  exact ⟨t, rfl, b⟩
theorem post_end {a b : Str} {k : Int} {t : Tok} (h : PostJ a b k) (hc : ¬ PostC a b k) : ∃ t', Value.int k t = .int (postV a b) t' ∧ postV a b ≤ 0 ∧ 0 ≤ a.length + postV a b ∧ 0 ≤ b.length + postV a b := by
  have e := h.done hc
  have b := h.1
  rw [← e]
  exact ⟨t, rfl, b⟩
theorem cutTo_end {x y : Str} {k : Int} {t : Tok} (e : y = cutTo x k) (h : y.length ≤ x.length) (hx : x.length ≤ 1000) : ∃ t', Value.str y t = .str (cutTo x k) t' ∧ (cutTo x k).length ≤ 1000 := by
  subst e
  exact ⟨t, rfl, by omega⟩
theorem InnJ.next {bc a : Str} {k kI d r m R m' : Int} {row₀ pre row : List Int} (h : InnJ bc a k row₀ pre row d r m) (_ : kI = 0 + (pre.length : Int))
    (hR : R = if d + subC bc (Txt.item a kI) < (if row.getD kI.toNat 0 < r then row.getD kI.toNat 0 else r) + 2 then d + subC bc (Txt.item a kI) else (if row.getD kI.toNat 0 < r then row.getD kI.toNat 0 else r) + 2)
    (hm : m' = if R < m then R else m) : InnJ bc a k row₀ (pre ++ [kI]) (row.set kI.toNat R) (row.getD kI.toNat 0) R m' := by
  refine ⟨by rw [List.length_set]; exact h.1, ?_⟩
  rw [List.foldl_append, ← h.2, hm, hR]
  rfl
theorem InnJ.next1 {bc a : Str} {k kI d r m R : Int} {row₀ pre row : List Int} (h : InnJ bc a k row₀ pre row d r m) (hk : kI = 0 + (pre.length : Int))
    (hR : R = if d + subC bc (Txt.item a kI) < (if row.getD kI.toNat 0 < r then row.getD kI.toNat 0 else r) + 2 then d + subC bc (Txt.item a kI) else (if row.getD kI.toNat 0 < r then row.getD kI.toNat 0 else r) + 2)
    (hm : R < m) : InnJ bc a k row₀ (pre ++ [kI]) (row.set kI.toNat R) (row.getD kI.toNat 0) R R := h.next hk hR (by rw [if_pos hm])
theorem InnJ.next2 {bc a : Str} {k kI d r m R : Int} {row₀ pre row : List Int} (h : InnJ bc a k row₀ pre row d r m) (hk : kI = 0 + (pre.length : Int))
    (hR : R = if d + subC bc (Txt.item a kI) < (if row.getD kI.toNat 0 < r then row.getD kI.toNat 0 else r) + 2 then d + subC bc (Txt.item a kI) else (if row.getD kI.toNat 0 < r then row.getD kI.toNat 0 else r) + 2)
    (hm : ¬ R < m) : InnJ bc a k row₀ (pre ++ [kI]) (row.set kI.toNat R) (row.getD kI.toNat 0) R m := h.next hk hR (by rw [if_neg hm])
theorem mem_inner {α : Type} {x : α} {A B C : List α} : ∀ p ∈ x :: (A ++ B), p ∈ x :: (A ++ B ++ C) := fun p hp => by
  rcases List.mem_cons.mp hp with h | h
  · rw [h]; exact List.mem_cons_self ..
  · exact List.mem_cons_of_mem _ (List.mem_append_left _ h)
theorem mem_outer {α : Type} {x : α} {A B : List α} : ∀ p ∈ x :: A, p ∈ x :: (A ++ B) := fun p hp => by
  rcases List.mem_cons.mp hp with h | h
  · rw [h]; exact List.mem_cons_self ..
  · exact List.mem_cons_of_mem _ (List.mem_append_left _ h)
theorem OutJ.start {a b : Str} {mx : Int} : OutJ a b mx [] (row0 a.length) 0 := ⟨by simp [row0], b.length, by simp, rfl⟩
theorem OutJ.next {a b : Str} {mx : Int} {pre row row' : List Int} {r d' r' m' k : Int} (h : OutJ a b mx pre row r) (hk : k = 0 + (pre.length : Int)) (hlt : pre.length < ((b.length : Int) - 0).toNat)
    (hi : InnJ (Txt.item b k) a k row (rangeKs 0 ((a.length : Int) - 0).toNat) row' d' r' m') (hm : ¬ mx < m') : OutJ a b mx (pre ++ [k]) row' r' := by
  obtain ⟨hl, f, hf, e⟩ := h
  refine ⟨hi.1, ?_⟩
  cases f with
  | zero => exfalso; omega
  | succ f =>
    refine ⟨f, by rw [List.length_append, List.length_singleton]; omega, ?_⟩
    have e2 := hi.2
    have hn : ((a.length : Int) - 0).toNat = a.length := by omega
    have hk' : ((pre.length : Nat) : Int) = k := by omega
    rw [hn] at e2
    rw [levOut, hk'] at e
    unfold innerV at e
    rw [← e2] at e
    simp only at e
    rw [if_neg hm] at e
    rw [← e, List.length_append, List.length_singleton, Int.natCast_add, hk']
    rfl
theorem OutJ.stop {a b : Str} {mx : Int} {pre row row' : List Int} {r d' r' m' k : Int} (h : OutJ a b mx pre row r) (hk : k = 0 + (pre.length : Int)) (hlt : pre.length < ((b.length : Int) - 0).toNat)
    (hi : InnJ (Txt.item b k) a k row (rangeKs 0 ((a.length : Int) - 0).toNat) row' d' r' m') (hm : mx < m') : mx + 1 = levOut a b mx b.length 0 0 (row0 a.length) := by
  obtain ⟨hl, f, hf, e⟩ := h
  cases f with
  | zero => exfalso; omega
  | succ f =>
    have e2 := hi.2
    have hn : ((a.length : Int) - 0).toNat = a.length := by omega
    have hk' : ((pre.length : Nat) : Int) = k := by omega
    rw [hn] at e2
    rw [levOut, hk'] at e
    unfold innerV at e
    rw [← e2] at e
    simp only at e
    rw [if_pos hm] at e
    exact e
theorem OutJ.done {a b : Str} {mx : Int} {row : List Int} {r : Int} (h : OutJ a b mx (rangeKs 0 ((b.length : Int) - 0).toNat) row r) : r = levOut a b mx b.length 0 0 (row0 a.length) := by
  obtain ⟨hl, f, hf, e⟩ := h
  rw [rangeKs_length] at hf
  have : f = 0 := by omega
  subst this
  exact e
theorem InnJ.start {bc a : Str} {k : Int} {r1 : Int} {row₀ : List Int} (h : row₀.length = a.length) (e : r1 = k * 2) : InnJ bc a k row₀ [] row₀ r1 r1 9223372036854775807 := ⟨h, by subst e; rfl⟩
theorem lev_c (w : World) (a b : Str) (mx : Int) (t u v : Tok) : Claim w 4 84 (a.length ≤ 1000 ∧ b.length ≤ 1000 ∧ 0 ≤ mx ∧ mx ≤ 1000) [.str a t, .str b u, .int mx v] (fun t => .int (LevV a b mx) t) := by
  k_with_none
  k_with "subscriptTail Name Slice str ref" => ((with_reducible show wpAny _ _ (subscriptTail _ (Expr.Slice none (some _) none _) _ _) _ _ _); (with_reducible rename Fr _ _ _ _ => F'); (with_reducible rename News _ _ _ _ => N'); first
  | (refine slice_none_L (hsz := ?hsz) (s := ⟨_, _, _, _, _⟩) F' N' ?_; (case hsz => (simp only [sizeLine_eq]; omega)); intro _ _ _ _ _ _)
  | (refine slice_neg_L (hsz := ?hsz) (s := ⟨_, _, _, _, _⟩) (by omega) F' N' ?_; (case hsz => (simp only [sizeLine_eq]; omega)); intro _ _ _ _ _ _))
  k_with "subscriptTail Name BinOp str int" => (refine KXi.item (n := _) rfl (by omega) (by omega) (by omega) ?_; intro _)
  k_with "exec While BoolOp cons nil" => refine Stop.mk ?_
  k_with "pyIter ref" => refine Stop.mk ?_
  k_with "exec If Compare cons nil" => ((with_reducible show wpAny _ _ (exec (Stmt.If _ [Stmt.Assign [Expr.Tuple _ _ _] _ _] _ _) _) _ _ _); refine Stop.mk ?_)
  k_with "call type:list" => ((with_reducible show wpAny _ _ (call (Value.type _) [Value.ref _]) _ _ _); (with_reducible rename IsRange _ _ _ _ _ _ _ _ => rgX); (with_unfolding_all refine' list_range2 ?k0 ?k1 ?k2 ?k3 ?k4 ?k5 ?_; (case k0 => rfl); (case k1 => k_asm); (case k2 => k_asm); (case k3 => exact rgX); (case k4 => first | rfl | omega); (case k5 => omega)); intro _ _ _ _ _ _ _ l1 _; (try k_lt l1); (try k_sweep))
  k_with "call ref" => (k_here; (with_reducible show wpAny _ _ (call (Value.ref _) [Value.str _ _, Value.str _ _]) _ _ _); k_dflt (refine' use_claim (subst_c _ _ _ _ _) ?k1 ?k2 ?k3 ?k4 ?k5 ?kK ?kp ?kd ?ku ?_; (case k1 => k_asm); (case k2 => k_asm); (case k3 => k_asm); (case k4 => k_asm); (case k5 => k_asm); (case kK => first | exact rfl | assumption); (case kp => (constructor <;> omega)); (case kd => ktr_room); (case ku => ktr_units)); intro _ _ _ _ _; (try dsimp only); (try k_fold))
  k_with "subscriptTail Name Name ref int" => (k_dflt (refine' ksa_sub ?k1 ?k2 ?k3 ?k4 ?k5 ?k6 ?_ ?k7; (case k1 => k_asm); (case k2 => k_mem); (case k3 => with_reducible assumption); (case k4 => omega); (case k5 => omega); (case k6 => omega); (case k7 => with_unfolding_all rfl); k_whole); intro _)
  k_with "InvEndN" => refine Stop.mk ?_
  k_with "k_all" => first | (refine all_append ?_ ?_ <;> k_all) | exact all_lt (by assumption) | exact all_off (by assumption)
  intro prog p loose mean mg mb news
  dsimp only [CbRet]; intros; rename_i hpre _ _ hret
  obtain ⟨hla, hlb, hm1, hm2⟩ := hpre
  refine wpAny_call ?_
  k_dflt cell_enter 
  (k_with "state" => (first | exact PreJ.start _ _ | exact PreJ.next (by assumption) (by omega) (by omega) (by assumption)))
  k_steps
  · exact cb_retI hret (by unfold LevV; rw [if_pos (by assumption)]) (by k_asm) (by k_asm)
  · refine cutV (Str.ofString "pre") (fun v => ∃ t, v = .int (preV a b) t ∧ 0 ≤ preV a b ∧ preV a b ≤ a.length ∧ preV a b ≤ b.length) (by k_asm) (by k_asm) ?_ ?_
    · k_while (fun _ i => PreJ a b i) (fun _ i => a.length - i.toNat) "pre"
      (have hj1 := And.left kInv)
      k_steps
      all_goals refine ⟨rfl, _, _, _, rfl, pre_end (by assumption) ?_, by k_asm, by k_asm⟩
      all_goals first
        | (intro hc; have := hc.1; omega)
        | (intro hc; have := hc.2.1; omega)
        | (intro hc; have := hc.2.2; simp_all; done)
    · rintro _ h9 tk9 ⟨t9, rfl, hp0, hp1, hp2⟩ F9 N9
      dsimp only
      k_sweep
      k_steps
      (k_with "state" => (first | exact PostJ.start _ _ | exact PostJ.next (by assumption) (by omega) (by omega) (by assumption)))
      have hL : LevV a b mx = levS (cutTo (Txt.slice a (some (preV a b)) none) (postV (Txt.slice a (some (preV a b)) none) (Txt.slice b (some (preV a b)) none))) (cutTo (Txt.slice b (some (preV a b)) none) (postV (Txt.slice a (some (preV a b)) none) (Txt.slice b (some (preV a b)) none))) mx := by unfold LevV; rw [if_neg (by simp_all)]
      generalize hA : Txt.slice a (some (preV a b)) none = a1 at *
      generalize hB : Txt.slice b (some (preV a b)) none = b1 at *
      refine cutV (Str.ofString "post") (fun v => ∃ t, v = .int (postV a1 b1) t ∧ postV a1 b1 ≤ 0 ∧ 0 ≤ a1.length + postV a1 b1 ∧ 0 ≤ b1.length + postV a1 b1) (by k_asm) (by k_asm) ?_ ?_
      · k_while (fun _ i => PostJ a1 b1 i) (fun _ i => (a1.length + i).toNat) "post"
        (have hj1 := And.left kInv)
        k_steps
        all_goals refine ⟨rfl, _, _, _, rfl, post_end (by assumption) ?_, by k_asm, by k_asm⟩
        all_goals first
          | (intro hc; have := hc.1; omega)
          | (intro hc; have := hc.2.1; omega)
          | (intro hc; have := hc.2.2; simp_all; done)
      · rintro _ h9 tk9 ⟨t9, rfl, hp0, hp1, hp2⟩ F9 N9
        generalize postV a1 b1 = q at *
        dsimp only
        k_sweep
        refine wpAny_execs_cons ?_
        refine cutV (Str.ofString "a") (fun v => ∃ t, v = .str (cutTo a1 q) t ∧ (cutTo a1 q).length ≤ 1000) (by k_asm) (by k_asm) ?_ ?_
        · k_steps
          all_goals refine ⟨rfl, _, _, _, rfl, cutTo_end ?_ ?_ ?_, by k_asm, by k_asm⟩
          all_goals first
            | assumption | omega
            | (unfold cutTo; first | rw [if_pos (by omega)] | rw [if_neg (by omega)])
        rintro _ h9 tk9 ⟨t9, rfl, hp3⟩ F9 N9
        dsimp only
        k_sweep
        refine wpAny_execs_cons ?_
        refine cutV (Str.ofString "b") (fun v => ∃ t, v = .str (cutTo b1 q) t ∧ (cutTo b1 q).length ≤ 1000) (by k_asm) (by k_asm) ?_ ?_
        · k_steps
          all_goals refine ⟨rfl, _, _, _, rfl, cutTo_end ?_ ?_ ?_, by k_asm, by k_asm⟩
          all_goals first
            | assumption | omega
            | (unfold cutTo; first | rw [if_pos (by omega)] | rw [if_neg (by omega)])
        rintro _ h9 tk9 ⟨t9, rfl, hp4⟩ F9 N9
        generalize cutTo a1 q = a2 at *
        generalize cutTo b1 q = b2 at *
        clear hp0 hp1 hp2 hA hB
        dsimp only
        k_sweep
        k_steps
        all_goals try (refine cb_retI hret ?_ (by k_asm) (by k_asm); rw [hL]; unfold levS levM; (repeat' split) <;> first | rfl | omega | (exfalso; omega))
        show wpAny _ _ _ _ _ _
        refine cutV2 (Str.ofString "a") (Str.ofString "b") (fun v1 v2 => ∃ a3 b3 t1 t2, v1 = .str a3 t1 ∧ v2 = .str b3 t2 ∧ LevV a b mx = levM a3 b3 mx ∧ 0 < a3.length ∧ a3.length ≤ b3.length ∧ b3.length ≤ 40) (by k_asm) (by k_asm) ?_ ?_
        · refine wpAny_If ?_
          k_steps
          · exact ⟨rfl, _, _, _, _, rfl, swap_yes hL (by assumption) (by assumption) (by assumption) (by assumption) (by assumption), by k_asm, cb_drop (by assumption) (fun p hp => List.mem_cons_of_mem _ hp)⟩
          · exact ⟨rfl, _, _, _, _, rfl, swap_no hL (by assumption) (by assumption) (by assumption) (by assumption) (by assumption), fr_same2 (by k_asm) (by rfl) (by rfl), by k_asm⟩
        · rintro _ _ h9 tk9 ⟨a3, b3, t1, t2, rfl, rfl, hM, hl1, hl2, hl3⟩ F9 N9
          clear hL hp3 hp4
          dsimp only
          k_sweep
          k_steps
          all_goals try (refine cb_retI hret ?_ (by k_asm) (by k_asm); rw [hM]; unfold levM; (repeat' split) <;> first | rfl | omega | (exfalso; omega))
          show wpAny _ _ _ _ _ _
          (have hrow9 : (row0 a3.length).length = a3.length := by simp [row0])
          (k_with "state" => (exact OutJ.start))
          k_state (fun pre row result => OutJ a3 b3 mx pre row result) "row" "result"
          · rename_i vsO rowO cO rO tO _
            (have hr8 := And.left kInv)
            k_steps
            show wpAny _ _ _ _ _ _
            (k_with "state" => (first
              | exact InnJ.start (by assumption) (by rfl)
              | exact InnJ.next (by assumption) (by assumption) (by rfl) (by first | rw [if_pos (by assumption)] | rw [if_neg (by assumption)])
              | exact OutJ.next (by assumption) (by assumption) (by assumption) (by assumption) (by assumption)))
            k_state (fun pre row d r m => InnJ (Txt.item b3 kN) a3 kN rowO pre row d r m) "row" "distance" "result" "minimum"
            · (have hr9 := And.left kInv)
              k_steps
              all_goals show InvEndN _ _ _ _ _ _ _
              all_goals rename News _ _ _ _ => nE9
              all_goals refine kst_end ⟨_,_,_,_,_,_,_,_,_⟩ (by assumption) nE9 (by dsimp only; exact mem_inner) (by first | (intro p hp; kst_mem) | kst_anyIn) (by rfl) (by kst_facts) (by kst_all) (by kst_same) (by first | exact InnJ.next1 (by assumption) (by assumption) (by rfl) (by assumption) | exact InnJ.next2 (by assumption) (by assumption) (by rfl) (by assumption))
            · k_steps
              · exact cb_retI hret (by rw [hM]; unfold levM; rw [if_neg (by assumption)]; exact OutJ.stop (by assumption) (by assumption) (by assumption) (by assumption) (by assumption)) (by k_asm) (cb_drop (by assumption) (fun p hp => List.mem_cons_of_mem _ (List.mem_append_left _ hp)))
              · show InvEndN _ _ _ _ _ _ _
                rename News _ _ _ _ => nE9
                refine kst_end ⟨_,_,_,_,_⟩ (by assumption) nE9 (by dsimp only; exact mem_outer) (by first | (intro p hp; kst_mem) | kst_anyIn) (by rfl) (by kst_facts) (by kst_all) (by kst_same) (by exact OutJ.next (by assumption) (by assumption) (by assumption) (by assumption) (by assumption))
          · k_steps
            exact cb_retI hret (by rw [hM]; unfold levM; rw [if_neg (by assumption)]; exact OutJ.done (by assumption)) (by k_asm) (cb_drop (by assumption) (fun p hp => List.mem_cons_of_mem _ hp))
end Mine
end
end
section
open PySem PySem.W PySem.Spec PySem.Calls PyProof.Rows
set_option maxHeartbeats 8000000
namespace Mine
theorem rs_C3 : True := by
  k_with_none
  exact trivial
noncomputable def spoiltV (x : Str) (n : Int) : Str :=
  let p := ((n.fdiv 10).fmod 10).fmod x.length
  let g := Txt.item (Str.ofString "aL;\"&") ((n.fdiv 100).fmod 5)
  let k := (n.fdiv 2).fmod 5
  if k = 1 then Txt.slice x none (some p) ++ Txt.slice x (some (p + 1)) none
  else if k = 2 then Txt.slice x none (some p) ++ g ++ Txt.slice x (some p) none
  else if k = 3 then Txt.slice x none (some p) ++ g ++ Txt.slice x (some (p + 1)) none
  else if k = 4 then Txt.slice x none (some p) ++ Txt.upper (Txt.slice x (some p) (some (p + 2))) ++ Txt.slice x (some (p + 2)) none
  else x
theorem spoilt_c (w : World) (x : Str) (n : Int) (t u : Tok) : Claim w 2 253 (1 ≤ x.length ∧ x.length ≤ 20) [.str x t, .int n u] (fun t => .str (spoiltV x n) t) := by
  intro prog p loose mean mg mb news
  dsimp only [CbRet]; intros; rename_i hpre _ _ hret
  obtain ⟨hx1, hx2⟩ := hpre
  refine wpAny_call ?_
  k_dflt cell_enter 
  k_steps
  all_goals refine cb_retS hret ?_ (by k_asm) (by k_asm)
  all_goals (unfold spoiltV; simp only []; (first | rw [if_pos (by assumption)] | (rw [if_neg (by assumption)]; first | rw [if_pos (by assumption)] | (rw [if_neg (by assumption)]; first | rw [if_pos (by assumption)] | (rw [if_neg (by assumption)]; first | rw [if_pos (by assumption)] | rw [if_neg (by assumption)])))))
end Mine
end
section
local macro_rules | `(tactic| omega) => `(tactic| lia)
section
open PySem PySem.W PySem.Spec PySem.Calls PyProof.Rows
set_option maxHeartbeats 8000000
namespace Mine
theorem rs_C4 : True := by
  k_with_none
  exact trivial
section
noncomputable def replyV (x y : Str) : Str := Str.ofString "257 \"" ++ Txt.replace x (Str.ofString "\"") (Str.ofString "\"\"") ++ Str.ofString "\" says \"" ++ y ++ Str.ofString "\""
theorem reply_c (w : World) (x y : Str) (t u : Tok) : Claim w 2 265 (x.length ≤ 200 ∧ y.length ≤ 20) [.str x t, .str y u] (fun t => .str (replyV x y) t) := by
  k_with_none
  k_with "call builtin:str.replace" => (refine SC.replaceW (by decide) (by decide) (by decide) (by decide) (by omega) (by decide) ?_; (have hrl := replace_len2 _); intro _ _)
  intro prog p loose mean mg mb news
  dsimp only [CbRet]; intros; rename_i hpre _ _ hret
  obtain ⟨hx1, hx2⟩ := hpre
  have hrl := replace_len2 x
  refine wpAny_call ?_
  k_dflt cell_enter 
  k_steps
  all_goals refine cb_retS hret ?_ (by k_asm) (by k_asm)
  all_goals rfl
end
section
noncomputable def costAt (x y : Str) (k : Int) : Int := if (Txt.item x k == Txt.item y k) = true then 0 else if (Txt.item x k == Txt.lower (Txt.item y k)) = true then 1 else 2
noncomputable def costV (x y : Str) : Int := if (x.length : Int) ≠ y.length then 2 else ((rangeKs 0 ((x.length : Int) - 0).toNat).map (costAt x y)).sum
theorem cost_c (w : World) (x y : Str) (t u : Tok) : Claim w 4 258 (x.length ≤ 20 ∧ y.length ≤ 20) [.str x t, .str y u] (fun t => .int (costV x y) t) := by
  k_with_none
  k_with "CompSrc" => refine Stop.mk ?_
  k_with "KCfEl" => refine Stop.mk ?_
  k_with "z enter" => k_dflt (refine' code_defC ?k1 ?k2 ?k3 ?k4 ?k5 ?kA ?kF ?kK ?k6 ?k7 ?k8 ?k9 ?kB ?kD ?_ ?c2 ?c3 ?c4; (case kA => exact rfl); (case kF => exact rfl); (case kK => assumption); (case k1 => k_asm); (case k2 => k_asm); (case k3 => k_asm); (case k4 => k_asm); (case k5 => k_asm); (case k6 => k_is); (case k7 => k_is); (case k8 => ktr_room); (case k9 => exact BindsTo.of_eq rfl); (case kB => exact rfl); (case kD => decide +kernel); (case c2 => exact rfl); (case c3 => exact rfl); (case c4 => exact rfl); k_whole; intro _ _ _ _ _ _ _ N' Y' B' _ _ l1; (try k_lt l1); k_cells Y'; (try simp only [List.cons_append, List.nil_append] at N'); (try dsimp only); (try k_lift B'); (try k_fold))
  intro prog p loose mean mg mb news
  dsimp only [CbRet]; intros; rename_i hpre _ _ hret
  obtain ⟨hx1, hx2⟩ := hpre
  refine wpAny_call ?_
  walk_at "z enter"
  k_steps
  · exact cb_retI hret (by unfold costV; rw [if_pos (by assumption)]) (by k_asm) (by first | k_asm | exact cb_drop (by assumption) (by kcj_all))
  · show LCg.CompSrc _ _ _ _ _ _ _ _ _ _ _ _ _ _
    k_dflt (refine LCg.CompSrc.range (by rfl) (by k_asm) (by k_asm) (by assumption) (by exact small_one (by omega) (by omega) (by omega) (by omega)) (by exact rangeSize_nat _ _) (by rw [PySem.sizeLine_eq]; omega) ?_; intro g'; (refine' kcf_range (costAt x y) (fun k' t' I' oI' C' oC' D' m' ys' h' tk' E' hlo' hhi' hC' hx' F' N' off' ne' hMark' => ?_) ?_); kcf_last)
    all_goals k_steps
    all_goals first
      | (show KCfEl _ _ _ _; refine kcf_el ?_ (by with_unfolding_all rfl) (by with_unfolding_all rfl); unfold costAt; simp [*]; done)
      | exact cb_retI hret (by unfold costV; rw [if_neg (by first | assumption | omega)]) (by k_asm) (by first | k_asm | exact cb_drop (by assumption) (by kcj_all))
end
end Mine
end
section
open PySem PySem.W PySem.Spec PySem.Calls PyProof.Rows
set_option maxHeartbeats 8000000
namespace Mine
theorem rs_C5 : True := by
  k_with_none
  exact trivial
section

theorem all_far {A : List (Addr × Obj)} {d e : Nat} (h : AllLt d A) (hd : @LE.le Nat _ d e) : ∀ p ∈ A, p.1 ≠ e := fun p hp => Nat.ne_of_lt (Nat.lt_of_lt_of_le (kst_ltOf h p hp) hd)
noncomputable def HPre (rep sent w0 w1 : Str) (x : Int) : Prop :=
  ((Txt.slice rep none (some 3) != Str.ofString "257") = false ∧ rep.length ≤ 2000) ∧ PV rep = sent ∧ (sent.length ≤ 20 ∧ w0.length ≤ 20 ∧ w1.length ≤ 20) ∧
  ((x = 0 ∧ LevV sent w0 2 ≤ 2 ∧ ¬ LevV w1 sent 2 ≤ 2 ∧ LevV sent w0 2 = costV w0 sent) ∨ (x = 1 ∧ ¬ LevV sent w0 2 ≤ 2 ∧ LevV w1 sent 2 ≤ 2 ∧ LevV w1 sent 2 = costV w1 sent))
theorem news_front {h₀ h : Heap} {L : Addr} {news : List (Addr × Obj)} {p : Addr × Obj} (N : News h₀ L h news) (hm : p ∈ news) : News h₀ L h (p :: news) := fun q hq => by
  rcases List.mem_cons.mp hq with e | hq
  · rw [e]; exact N p hm
  · exact N q hq
theorem news_pick {h₀ h : Heap} {L : Addr} {news led : List (Addr × Obj)} {p : Addr × Obj} (N : News h₀ L h led) (hm : p ∈ led) (hs : ∀ q ∈ news, q ∈ led) : News h₀ L h (p :: news) := fun q hq => by
  rcases List.mem_cons.mp hq with e | hq
  · rw [e]; exact N p hm
  · exact N q (hs q hq)
theorem heard_c (w : World) (rep sent w0 w1 : Str) (x : Int) (tr ts t0 t1 : Tok) (D : Addr) (c : Nat) (hp : HPre rep sent w0 w1 x) :
  ∀ (prog : Program) (p : Program) (loose : List Str) (mean : ExcName → Option Value) (mg mb : Str → Option Value) (news : List (Addr × Obj))
    (dp un : Nat) (gd : Option (List Code)) (cn : Str) (cs : Scope) (a : Addr) (ccd : Value) (cl : List (Str × Addr)) (outer : List Env) (A₀ : Around) (base h₀ : Heap) (L : Addr) (m : Str → Option Value) (s : Shared) (Q E : Value → Shared → Prop),
    Below A₀ base outer h₀ → Fr h₀ L s.heap m → (hd.heap_39 w.params).In h₀ → News h₀ L s.heap news → Top p loose mean mg mb h₀ → cs.kind = .function →
    (D, listOf [.str w0 t0, .str w1 t1].toArray c) ∈ news → dp + 8 < recursionLimit → un + 800 < cLine →
    (∀ (H : Addr) (t : Tok) (k : Nat) (h' : Heap) (tk' : Nat), Fr h₀ L h' m → News h₀ L h' ((H, listOf [.int x t].toArray k) :: news) → LCg.Off1 H news → Q (.ref H) { s with heap := h', toks := tk' }) →
      wpAny (model prog w) (ktrTop dp un gd cn cs L a ccd cl outer) (call (.ref 277) [.str rep tr, .str sent ts, .ref D]) Q E s := by
  k_with_none
  k_with "k_mem" => k_extra "mem8"
  k_with "mem8" => first | exact List.Mem.head _ | exact mem1 | exact mem2 | exact mem3 | exact mem4 | exact mem5 | exact mem6 | exact mem7 | (refine' mem8 ?_; k_extra "mem8")
  k_with "k_subL" => first | exact trivial | (refine' Sq.subL ?_; k_extra "sq") | (refine And.intro (by k_mem) ?_; k_subL)
  k_with "sq" => first | exact Sq.nil _ | (refine' Sq.keep ?_; k_extra "sq") | (refine' Sq.skip ?_; k_extra "sq")
  k_with "z enter" => k_dflt (refine' code_defC ?k1 ?k2 ?k3 ?k4 ?k5 ?kA ?kF ?kK ?k6 ?k7 ?k8 ?k9 ?kB ?kD ?_ ?c2 ?c3 ?c4; (case kA => exact rfl); (case kF => exact rfl); (case kK => assumption); (case k1 => k_asm); (case k2 => k_asm); (case k3 => k_asm); (case k4 => k_asm); (case k5 => k_asm); (case k6 => k_is); (case k7 => k_is); (case k8 => ktr_room); (case k9 => exact BindsTo.of_eq rfl); (case kB => exact rfl); (case kD => decide +kernel); (case c2 => exact rfl); (case c3 => exact rfl); (case c4 => exact rfl); k_whole; intro _ _ _ _ _ _ _ N' Y' B' _ _ l1; (try k_lt l1); k_cells Y'; (try simp only [List.cons_append, List.nil_append] at N'); (try dsimp only); (try k_lift B'); (try k_fold))
  k_with "call ref" => (k_here; k_dflt (refine' use_claim (parse_c _ _ _) ?k1 ?k2 ?k3 ?k4 ?k5 ?kK ?kp ?kd ?ku ?_; (case k1 => k_asm); (case k2 => k_asm); (case k3 => k_asm); (case k4 => k_asm); (case k5 => k_asm); (case kK => first | exact rfl | assumption); (case kp => (constructor <;> first | assumption | omega)); (case kd => ktr_room); (case ku => ktr_units)); intro _ _ _ _ _; (try dsimp only); (try k_fold))
  k_with "call ref" => (k_here; k_dflt (refine' use_claim (lev_c _ _ _ _ _ _ _) ?k1 ?k2 ?k3 ?k4 ?k5 ?kK ?kp ?kd ?ku ?_; (case k1 => k_asm); (case k2 => k_asm); (case k3 => k_asm); (case k4 => k_asm); (case k5 => k_asm); (case kK => first | exact rfl | assumption); (case kp => (refine ⟨?_, ?_, ?_, ?_⟩ <;> omega)); (case kd => ktr_room); (case ku => ktr_units)); intro _ _ _ _ _; (try dsimp only); (try k_fold))
  k_with "call ref" => (k_here; k_dflt (refine' use_claim (cost_c _ _ _ _ _) ?k1 ?k2 ?k3 ?k4 ?k5 ?kK ?kp ?kd ?ku ?_; (case k1 => k_asm); (case k2 => k_asm); (case k3 => k_asm); (case k4 => k_asm); (case k5 => k_asm); (case kK => first | exact rfl | assumption); (case kp => (constructor <;> omega)); (case kd => ktr_room); (case ku => ktr_units)); intro _ _ _ _ _; (try dsimp only); (try k_fold))
  k_with "k_all" => exact all_far (by assumption) (by omega)
  k_with "exec Assign cons ListComp" => ((with_reducible show wpAny _ _ (exec (Stmt.Assign _ (Expr.ListComp _ [⟨_, Expr.Tuple _ _ _, [_], _⟩] _ _) _) _) _ _ _); k_dflt (refine comp_tupA (by k_asm) (by rfl) (by with_unfolding_all rfl) (by with_unfolding_all rfl) (by decide) (by rfl) (by decide) (by rfl) (by rfl) (by rfl) ?_))
  k_with "TupSrc" => (k_dflt (refine TupSrc.mk (by rfl) (by k_asm) (by k_asm) (by k_mem) (by exact Nat.le_of_ble_eq_true rfl) ?_; intro _; lct_lit))
  k_with "CompEnd" => (k_dflt (refine LCg.CompEnd.intro (by assumption) (by assumption) _ (fun p hp => hp) (by first | assumption | (simp only [LCg.Off3, and_true]; assumption)) (by first | (show _ ∈ _; k_mem) | lcg_src) ?_))
  k_with "subscriptTail Name Name ref int" => ((with_reducible show wpAny _ _ (subscriptTail _ _ (Value.ref _) (Value.int _ _)) _ _ _); k_dflt (refine' sub_val ?k1 ?k2 ?k4 ?k5 ?k6 ?_ ?k7; (case k1 => k_asm); (case k2 => k_mem); (case k4 => decide); (case k5 => decide); (case k6 => with_unfolding_all rfl); (case k7 => with_unfolding_all rfl); k_whole))
  k_with "subscriptTail Name Constant ref int" => ((with_reducible show wpAny _ _ (subscriptTail _ _ (Value.ref _) (Value.int _ _)) _ _ _); k_dflt (refine' sub_val ?k1 ?k2 ?k4 ?k5 ?k6 ?_ ?k7; (case k1 => k_asm); (case k2 => k_mem); (case k4 => decide); (case k5 => decide); (case k6 => with_unfolding_all rfl); (case k7 => with_unfolding_all rfl); k_whole))
  k_with "subscriptTail Name" => ((with_reducible show wpAny _ _ (subscriptTail _ _ (Value.ref _) (Value.int _ _)) _ _ _); k_dflt (refine' sub_val ?k1 ?k2 ?k4 ?k5 ?k6 ?_ ?k7; (case k1 => k_asm); (case k2 => k_mem); (case k4 => decide); (case k5 => decide); (case k6 => with_unfolding_all rfl); (case k7 => with_unfolding_all rfl); k_whole))
  k_with "CompSrc" => (k_dflt (refine LCg.CompSrc.ledger (by rfl) (by k_asm) (by k_asm) (by k_mem) (by exact Nat.le_of_ble_eq_true rfl) ?_; intro _; lcg_lit))
  intro prog p loose mean mg mb news
  intros; rename_i hm hdp hun hret
  rename News _ _ _ _ => N0
  have N1 := news_front N0 hm
  clear N0
  obtain ⟨⟨hr1, hr2⟩, hr3, ⟨hl1, hl2, hl3⟩, hx⟩ := hp
  subst hr3
  have hne : (PV rep != PV rep) = false := by simp
  rcases hx with ⟨rfl, hx1, hx2, hx3⟩ | ⟨rfl, hx1, hx2, hx3⟩
  all_goals (
    refine wpAny_call ?_
    walk_at "z enter"
    rename _ ∧ AllLt _ _ => hl9
    have hl8 := hl9.2
    k_steps)
  all_goals first
    | (exfalso; simp_all; done)
    | exact hret _ _ _ _ _ (by k_asm) (news_pick (by assumption) (by k_mem) (fun p hp => by repeat (first | exact hp | apply List.mem_cons_of_mem))) (And.right (And.right (And.right (And.right (And.right (And.right (by assumption)))))))
end
end Mine
end
section
open PySem PySem.W PySem.Spec PySem.Calls PyProof.Rows
set_option maxHeartbeats 8000000
namespace Mine
theorem rs_R1 : True := by
  k_with_none
  exact trivial
/-- the value of a tree that only reads the written part -/
noncomputable def evR (K : Frag) (P : Setting) {α : Type} : Nat → Sem α → Option α
  | 0, _ => none
  | _ + 1, .pure a => some a
  | n + 1, .rule _ k => evR K P n (k ())
  | n + 1, .at _ k => evR K P n (k ())
  | n + 1, .point _ k => evR K P n (k ())
  | n + 1, .ask k => evR K P n (k P)
  | n + 1, .load a _ k => match K.lookup a with
    | some o => evR K P n (k o)
    | none => none
  | _ + 1, _ => none
theorem evR_sound {prog : Program} {w : World} {K : Frag} {A : Around} {α : Type} {Q : α → Shared → Prop} {E : Value → Shared → Prop} {s : Shared} (X : K.In s.heap) : ∀ (n : Nat) (t : Sem α) (v : α), evR K ⟨prog, w.params⟩ n t = some v → Q v s → wpAny (model prog w) A t Q E s
  | 0, _, _, e, _ => by cases e
  | n + 1, .pure a, v, e, h => by
    cases e
    exact wpAny_pure h
  | n + 1, .rule t k, v, e, h => evR_sound X n (k ()) v e h
  | n + 1, .at t k, v, e, h => fun Γ p hΓ => evR_sound X n (k ()) v e h Γ t hΓ
  | n + 1, .point t k, v, e, h => evR_sound X n (k ()) v e h
  | n + 1, .ask k, v, e, h => evR_sound X n (k ⟨prog, w.params⟩) v e h
  | n + 1, .load a q k, v, e, h => by
    unfold evR at e
    cases q1 : K.lookup a with
    | none => rw [q1] at e; cases e
    | some o =>
      rw [q1] at e
      have z := evR_sound (Q := Q) (E := E) (A := A) X n (k o) v e h
      intro Γ p hΓ
      have zz := z Γ p hΓ
      have ho := X a o q1
      show Sem.wp _ _ (.load a q k) _ _ _ _
      simp only [Sem.wp, ho]
      first | exact zz | exact ⟨_, rfl, zz⟩
  | n + 1, .raise _, _, e, _ => by cases e
  | n + 1, .unsupported _, _, e, _ => by cases e
  | n + 1, .finish _, _, e, _ => by cases e
  | n + 1, .update .., _, e, _ => by cases e
  | n + 1, .alloc .., _, e, _ => by cases e
  | n + 1, .loadIfAlive .., _, e, _ => by cases e
  | n + 1, .register .., _, e, _ => by cases e
  | n + 1, .fresh .., _, e, _ => by cases e
  | n + 1, .choose .., _, e, _ => by cases e
  | n + 1, .os .., _, e, _ => by cases e
  | n + 1, .call .., _, e, _ => by cases e
  | n + 1, .handled .., _, e, _ => by cases e
  | n + 1, .newGen .., _, e, _ => by cases e
  | n + 1, .genState .., _, e, _ => by cases e
  | n + 1, .resume .., _, e, _ => by cases e
  | n + 1, .yield .., _, e, _ => by cases e
  | n + 1, .stack .., _, e, _ => by cases e
  | n + 1, .fork .., _, e, _ => by cases e
  | n + 1, .thread .., _, e, _ => by cases e
  | n + 1, .await .., _, e, _ => by cases e
theorem call_ev {prog : Program} {w : World} {K : Frag} {A : Around} {Q : Value → Shared → Prop} {E : Value → Shared → Prop} {s : Shared} {id : String} {args : List Value} {b : Builtin} {v : Value} (n : Nat) (X : K.In s.heap) (hp : plainId id = true) (hb : entryFor table id = some b)
    (hc : evR K ⟨prog, w.params⟩ n (checkBuiltinCall id ⟨args, []⟩) = some ()) (he : evR K ⟨prog, w.params⟩ n (b ⟨args, []⟩) = some (.done (.ret v))) (h : Q v s) : wpAny (model prog w) A (call (.builtin id) args) Q E s :=
  wpAny_call (codeAny_call_builtin hp hb (evR_sound X n _ _ hc (evR_sound X n _ _ he h)))
theorem getm94 (prog : Program) (w : World) (pl : Sem Bool) : evR (hd.heap_39 w.params) ⟨prog, w.params⟩ 3000 (getMethod (.ref 94) (Str.ofString "search") pl) = some (.builtin "re.Pattern.search", [.ref 94]) := by kernel_rfl
theorem getm99 (prog : Program) (w : World) (pl : Sem Bool) : evR (hd.heap_39 w.params) ⟨prog, w.params⟩ 3000 (getMethod (.ref 99) (Str.ofString "search") pl) = some (.builtin "re.Pattern.search", [.ref 99]) := by kernel_rfl
noncomputable def wordOf (sg o : Nat) : Str := [Str.ofString "&lt;a", Str.ofString "&amp;a", Str.ofString "&lt;\"", Str.ofString "&amp;\"", Str.ofString "&lt;&lt;", Str.ofString "&amp;&lt;", Str.ofString "&lt;&gt;", Str.ofString "&amp;&gt;"].getD (2 * sg + o) Str.empty
noncomputable def upOf (sg o : Nat) : Str := [Str.ofString "&LT;A", Str.ofString "&AMP;A", Str.ofString "&LT;\"", Str.ofString "&AMP;\"", Str.ofString "&LT;&LT;", Str.ofString "&AMP;&LT;", Str.ofString "&LT;&GT;", Str.ofString "&AMP;&GT;"].getD (2 * sg + o) Str.empty
noncomputable def Name (x : Str) : Prop := ∃ sg o, sg < 4 ∧ o < 2 ∧ (x = wordOf sg o ∨ x = upOf sg o)
noncomputable def Teller (x : Str) : Prop := x = Str.ofString "g" ∨ x = Str.ofString "a" ∨ x = Str.ofString "b" ∨ x = Str.ofString "c"
theorem two {P : Nat → Prop} (h0 : P 0) (h1 : P 1) : ∀ o, o < 2 → P o
  | 0, _ => h0
  | 1, _ => h1
  | n + 2, h => absurd h (by omega)
theorem four {P : Nat → Prop} (h0 : P 0) (h1 : P 1) (h2 : P 2) (h3 : P 3) : ∀ o, o < 4 → P o
  | 0, _ => h0
  | 1, _ => h1
  | 2, _ => h2
  | 3, _ => h3
  | n + 4, h => absurd h (by omega)
theorem ev_name {x : Str} (hx : Name x) (prog : Program) (w : World) (t : Tok) : evR (hd.heap_39 w.params) ⟨prog, w.params⟩ 3000 (Builtin.«re.Pattern.search» ⟨[.ref 94, .str x t], []⟩) = some (.done (.ret .none)) := by
  obtain ⟨sg, o, hs, ho, h⟩ := hx
  rcases h with rfl | rfl
  · exact four (P := fun sg => ∀ o, o < 2 → evR (hd.heap_39 w.params) ⟨prog, w.params⟩ 3000 (Builtin.«re.Pattern.search» ⟨[.ref 94, .str (wordOf sg o) t], []⟩) = some (.done (.ret .none)))
      (two (by kernel_rfl) (by kernel_rfl)) (two (by kernel_rfl) (by kernel_rfl)) (two (by kernel_rfl) (by kernel_rfl)) (two (by kernel_rfl) (by kernel_rfl)) sg hs o ho
  · exact four (P := fun sg => ∀ o, o < 2 → evR (hd.heap_39 w.params) ⟨prog, w.params⟩ 3000 (Builtin.«re.Pattern.search» ⟨[.ref 94, .str (upOf sg o) t], []⟩) = some (.done (.ret .none)))
      (two (by kernel_rfl) (by kernel_rfl)) (two (by kernel_rfl) (by kernel_rfl)) (two (by kernel_rfl) (by kernel_rfl)) (two (by kernel_rfl) (by kernel_rfl)) sg hs o ho
theorem ev_teller {x : Str} (hx : Teller x) (prog : Program) (w : World) (t : Tok) : evR (hd.heap_39 w.params) ⟨prog, w.params⟩ 3000 (Builtin.«re.Pattern.search» ⟨[.ref 99, .str x t], []⟩) = some (.done (.ret .none)) := by
  rcases hx with rfl | rfl | rfl | rfl <;> kernel_rfl
theorem search_plain : plainId "re.Pattern.search" = true := by decide +kernel
theorem search_entry : entryFor table "re.Pattern.search" = some Builtin.«re.Pattern.search» := entryFor_of_fast (by kernel_rfl)
theorem search_args94 (prog : Program) (w : World) (x : Str) (t : Tok) : evR (hd.heap_39 w.params) ⟨prog, w.params⟩ 3000 (checkBuiltinCall "re.Pattern.search" ⟨[.ref 94, .str x t], []⟩) = some () := by kernel_rfl
theorem search_args99 (prog : Program) (w : World) (x : Str) (t : Tok) : evR (hd.heap_39 w.params) ⟨prog, w.params⟩ 3000 (checkBuiltinCall "re.Pattern.search" ⟨[.ref 99, .str x t], []⟩) = some () := by kernel_rfl
section
variable {prog : Program} {w : World} {A : Around} {Q : Value → Shared → Prop} {E : Value → Shared → Prop} {s : Shared} {x : Str} {t : Tok}
theorem search_name (X : (hd.heap_39 w.params).In s.heap) (hx : Name x) (h : Q .none s) : wpAny (model prog w) A (call (.builtin "re.Pattern.search") [.ref 94, .str x t]) Q E s :=
  call_ev 3000 X search_plain search_entry (search_args94 ..) (ev_name hx ..) h
theorem search_teller (X : (hd.heap_39 w.params).In s.heap) (hx : Teller x) (h : Q .none s) : wpAny (model prog w) A (call (.builtin "re.Pattern.search") [.ref 99, .str x t]) Q E s :=
  call_ev 3000 X search_plain search_entry (search_args99 ..) (ev_teller hx ..) h
theorem get_search94 {pl : Sem Bool} {R : Value × List Value → Shared → Prop} (X : (hd.heap_39 w.params).In s.heap) (h : R (.builtin "re.Pattern.search", [.ref 94]) s) : wpAny (model prog w) A (getMethod (.ref 94) (Str.ofString "search") pl) R E s :=
  evR_sound X 3000 _ _ (getm94 prog w pl) h
theorem get_search99 {pl : Sem Bool} {R : Value × List Value → Shared → Prop} (X : (hd.heap_39 w.params).In s.heap) (h : R (.builtin "re.Pattern.search", [.ref 99]) s) : wpAny (model prog w) A (getMethod (.ref 99) (Str.ofString "search") pl) R E s :=
  evR_sound X 3000 _ _ (getm99 prog w pl) h
end
end Mine
end
section
open PySem PySem.W PySem.Spec PySem.Calls PyProof.Rows
set_option maxHeartbeats 8000000
namespace Mine
theorem rs_A1 : True := by
  k_with_none
  exact trivial
section
theorem join_one {prog : Program} {w : World} {A : Around} {Q : Value → Shared → Prop} {E : Value → Shared → Prop} {s : Shared} {x v : Str} {t u : Tok} {D : Addr} {news : List (Addr × Obj)} {h₀ : Heap} {L : Addr} {c : Nat} (N : News h₀ L s.heap news) (hm : (D, listOf [.str v u].toArray c) ∈ news) (hx : x.length ≤ 16) (hv : v.length ≤ 1000) (h : ∀ t' k, Q (.str v t') { s with toks := k }) :
    wpAny (model prog w) A (call (.builtin "str.join") [.str x t, .ref D]) Q E s := by
  have hl : s.heap.IsList D [.str v u].toArray := ⟨_, (N _ hm).1, rfl, c, rfl⟩
  exact join_listW (ys := [v]) hl (by repeat constructor) hx (by simp; omega) h
theorem far_of {A : List (Addr × Obj)} {l : Addr} (h : ∀ p ∈ A, p.1 ≠ l) : ∀ p ∈ A, p.1 ≠ l := h
noncomputable def SizeMk (_ : Nat) : Prop := True
theorem size_of {h₀ h : Heap} {L : Addr} {news : List (Addr × Obj)} (N : News h₀ L h news) : AllLt h.objs.size news := allLt_of fun p hp => by
  have h1 := (N p hp).1
  rcases Nat.lt_or_ge p.1 h.objs.size with hlt | hge
  · exact hlt
  · exfalso
    rw [Heap.get?, Array.getElem?_eq_none hge] at h1
    exact nomatch h1
theorem news_sub4 {h₀ h : Heap} {L : Addr} {news led : List (Addr × Obj)} {p q r o : Addr × Obj} (N : News h₀ L h led) (h1 : p ∈ led) (h2 : q ∈ led) (h3 : r ∈ led) (h4 : o ∈ led) (hs : ∀ q ∈ news, q ∈ led) : News h₀ L h (p :: q :: r :: o :: news) :=
  fun x hx => by
    rcases List.mem_cons.mp hx with e | hx
    · rw [e]; exact N _ h1
    rcases List.mem_cons.mp hx with e | hx
    · rw [e]; exact N _ h2
    rcases List.mem_cons.mp hx with e | hx
    · rw [e]; exact N _ h3
    rcases List.mem_cons.mp hx with e | hx
    · rw [e]; exact N _ h4
    exact N _ (hs _ hx)
theorem append_L {prog : Program} {w : World} {A : Around} {Q : Value → Shared → Prop} {E : Value → Shared → Prop} {s : Shared} {h₀ : Heap} {L : Addr} {m : Str → Option Value} {news news' : List (Addr × Obj)} {D : Addr} {vs : List Value} {n : Nat} {x : Value} (hvs : vs.length ≤ 100) (F : Fr h₀ L s.heap m) (N : News h₀ L s.heap news) (U : Upd D (listOf vs.toArray n) (listOf (vs ++ [x]).toArray (n + 1)) news news')
    (h : ∀ h', Fr h₀ L h' m → News h₀ L h' news' → Q .none { s with heap := h' }) : wpAny (model prog w) A (call (.builtin "list.append") [.ref D, x]) Q E s := by
  have e : (listOf (vs ++ [x]).toArray (n + 1)) = listOf (vs.toArray.push x) (n + 1) := by rw [List.push_toArray]
  rw [e] at U
  exact append_K F N U h (by rw [List.size_toArray, PySem.sizeLine_eq]; omega)
theorem add_c (w : World) (nm vl : Str) (tn tv : Tok) (I d l : Addr) (vs : List Value) (c : Nat) (kt : Tok) (hnm : Name nm) (hvl : Teller vl) (hIl : @Ne Nat I l) (hdl : @Ne Nat d l) (hvs : vs.length ≤ 100) :
  ∀ (prog : Program) (p : Program) (loose : List Str) (mean : ExcName → Option Value) (mg mb : Str → Option Value) (news : List (Addr × Obj))
    (dp un : Nat) (gd : Option (List Code)) (cn : Str) (cs : Scope) (a : Addr) (ccd : Value) (cl : List (Str × Addr)) (outer : List Env) (A₀ : Around) (base h₀ : Heap) (L : Addr) (m : Str → Option Value) (s : Shared) (Q E : Value → Shared → Prop),
    Below A₀ base outer h₀ → Fr h₀ L s.heap m → (hd.heap_39 w.params).In h₀ → News h₀ L s.heap ((I, instObj 228 d) :: (d, dictOf [⟨PyData.keyHash w.params (Str.ofString "_headers"), .str (Str.ofString "_headers") kt, .ref l⟩] 1) :: (l, listOf vs.toArray c) :: news) → Top p loose mean mg mb h₀ → cs.kind = .function →
    (∀ p ∈ news, p.1 ≠ l) → dp + 8 < recursionLimit → un + 800 < cLine →
    (∀ (T : Addr) (t9 : Tok) (h' : Heap) (tk' : Nat), Fr h₀ L h' m → News h₀ L h' ((T, { cls := Value.type "tuple", data := Data.seq [Value.str nm tn, Value.str vl t9].toArray }) :: (I, instObj 228 d) :: (d, dictOf [⟨PyData.keyHash w.params (Str.ofString "_headers"), .str (Str.ofString "_headers") kt, .ref l⟩] 1) :: (l, listOf (vs ++ [Value.ref T]).toArray (c + 1)) :: news) → AllLt T news → @LT.lt Nat _ I T → @LT.lt Nat _ d T → @LT.lt Nat _ l T → Q .none { s with heap := h', toks := tk' }) →
      wpAny (model prog w) (ktrTop dp un gd cn cs L a ccd cl outer) (call (.ref 225) [.ref I, .str nm tn, .str vl tv]) Q E s := by
  k_with_none
  k_with "k_mem" => k_extra "mem8"
  k_with "mem8" => first | exact List.Mem.head _ | exact mem1 | exact mem2 | exact mem3 | exact mem4 | exact mem5 | exact mem6 | exact mem7 | (refine' mem8 ?_; k_extra "mem8")
  k_with "k_subL" => first | exact trivial | (refine' Sq.subL ?_; k_extra "sq") | (refine And.intro (by k_mem) ?_; k_subL)
  k_with "sq" => first | exact Sq.nil _ | (refine' Sq.keep ?_; k_extra "sq") | (refine' Sq.skip ?_; k_extra "sq")
  k_with "z enter" => k_dflt (refine' code_defC ?k1 ?k2 ?k3 ?k4 ?k5 ?kA ?kF ?kK ?k6 ?k7 ?k8 ?k9 ?kB ?kD ?_ ?c2 ?c3 ?c4; (case kA => exact rfl); (case kF => exact rfl); (case kK => assumption); (case k1 => k_asm); (case k2 => k_asm); (case k3 => k_asm); (case k4 => k_asm); (case k5 => k_asm); (case k6 => k_is); (case k7 => k_is); (case k8 => ktr_room); (case k9 => exact BindsTo.of_eq rfl); (case kB => exact rfl); (case kD => decide +kernel); (case c2 => exact rfl); (case c3 => exact rfl); (case c4 => exact rfl); k_whole; intro _ _ _ _ _ _ _ N' Y' B' _ _ l1; (try k_lt l1); k_cells Y'; (try simp only [List.cons_append, List.nil_append] at N'); (try dsimp only); (try k_lift B'); (try k_fold))
  k_with "k_room" => ktr_room
  k_with "getMethod ref" => (k_here; k_dflt (first | refine get_search94 (by k_in) ?_ | refine get_search99 (by k_in) ?_); (try dsimp only))
  k_with "call builtin:re.Pattern.search" => (k_here; k_dflt (first | refine search_teller (by k_in) (by assumption) ?_ | refine search_name (by k_in) (by assumption) ?_))
  k_with "call builtin:str.join" => (k_here; k_dflt (refine join_one (by k_asm) (by k_mem) (by decide +kernel) (by omega) ?_); intro _ _)
  k_with "k_all" => exact all_far (by assumption) (by omega)
  k_with "k_all" => exact far_of (by assumption)
  k_with "exec For Tuple Call cons nil" => (k_here; (fail_if_success (rename SizeMk 9 => hmk)); (have hmk9 : SizeMk 9 := trivial); (rename News _ _ _ _ => hN9); (have hsz9 := size_of hN9); (try simp only [AllLt] at hsz9); walk_at "exec For Tuple Call")
  k_with "call builtin:list.append" => (k_here; (with_reducible show wpAny _ _ (call (Value.builtin _) [Value.ref _, _]) _ _ _); k_dflt (refine' append_L (by assumption) ?k1 ?k2 ?k3 ?_; (case k1 => k_asm); (case k2 => k_asm); (case k3 => k_upd); k_whole); intro _ _ _; (try k_sweep))
  intro prog p loose mean mg mb news dp un gd cn cs a ccd cl outer A₀ base h₀ L m s Q E
  obtain ⟨kind, names, isG, isC, more⟩ := cs
  intro hB hF hX hN hT hk hnl hdp hun hret
  simp only at hk
  subst hk
  have hvlen : vl.length ≤ 1000 := by rcases hvl with rfl | rfl | rfl | rfl <;> decide +kernel
  refine wpAny_call ?_
  k_dflt k_enter
  rename _ ∧ _ ∧ _ ∧ AllLt _ _ => hl9
  have hl8 := hl9.2.2.2
  k_steps
  rename _ ∧ _ ∧ _ ∧ _ ∧ _ ∧ _ ∧ AllLt _ _ => hl7
  rename News _ _ _ _ => kN
  exact hret _ _ _ _ (by k_asm) (news_sub4 kN (List.Mem.head _) (by k_mem) (by k_mem) (by k_mem) (fun p hp => by repeat (first | exact hp | apply List.mem_cons_of_mem))) (And.right (And.right (And.right (And.right (And.right (And.right hl7)))))) (by omega) (by omega) (by omega)
end
end Mine
end
section
open PySem PySem.W PySem.Spec PySem.Calls PyProof.Rows
set_option maxHeartbeats 8000000
namespace Mine
theorem rs_G1 : True := by
  k_with_none
  exact trivial
section
theorem news_sub3 {h₀ h : Heap} {L : Addr} {news led : List (Addr × Obj)} {q r o : Addr × Obj} (N : News h₀ L h led) (h2 : q ∈ led) (h3 : r ∈ led) (h4 : o ∈ led) (hs : ∀ q ∈ news, q ∈ led) : News h₀ L h (q :: r :: o :: news) :=
  fun x hx => by
    rcases List.mem_cons.mp hx with e | hx
    · rw [e]; exact N _ h2
    rcases List.mem_cons.mp hx with e | hx
    · rw [e]; exact N _ h3
    rcases List.mem_cons.mp hx with e | hx
    · rw [e]; exact N _ h4
    exact N _ (hs _ hx)
theorem init_c (w : World) :
  ∀ (prog : Program) (p : Program) (loose : List Str) (mean : ExcName → Option Value) (mg mb : Str → Option Value) (news : List (Addr × Obj))
    (dp un : Nat) (gd : Option (List Code)) (cn : Str) (cs : Scope) (a : Addr) (ccd : Value) (cl : List (Str × Addr)) (outer : List Env) (A₀ : Around) (base h₀ : Heap) (L : Addr) (m : Str → Option Value) (s : Shared) (Q E : Value → Shared → Prop),
    Below A₀ base outer h₀ → Fr h₀ L s.heap m → (hd.heap_39 w.params).In h₀ → News h₀ L s.heap news → Top p loose mean mg mb h₀ → cs.kind = .function →
    dp + 8 < recursionLimit → un + 800 < cLine →
    (∀ (I d l : Addr) (kt : Tok) (h' : Heap) (tk' : Nat), Fr h₀ L h' m → News h₀ L h' ((I, instObj 228 d) :: (d, dictOf [⟨PyData.keyHash w.params (Str.ofString "_headers"), .str (Str.ofString "_headers") kt, .ref l⟩] 1) :: (l, listOf #[] 0) :: news) → AllLt d news → @LT.lt Nat _ d I → @LT.lt Nat _ I l → Q (.ref I) { s with heap := h', toks := tk' }) →
      wpAny (model prog w) (ktrTop dp un gd cn cs L a ccd cl outer) (call (.ref 228) []) Q E s := by
  k_with_none
  k_with "k_room" => ktr_room
  k_with "exec For Tuple Name cons nil" => (k_here; (rename Fr _ _ _ _ => lF'); (with_unfolding_all refine' For_turns lF' ?_; k_whole))
  k_with "pyIter ref" => (k_here; (with_reducible show wpAny _ _ (pyIter (Value.ref _)) (fun it s₂ => TurnsAt _ _ _ _ _ _ _ _ _ it s₂) _ _); ((rename Fr _ _ _ _ => lF'); (rename News _ _ _ _ => lN'); (with_unfolding_all refine iter_listTurns (vs := []) (by rfl) lF' lN' (List.Mem.head _) (by rfl) (by rfl) ?_); clear lF' lN'; intro _ l1; (try k_lt l1)))
  intro prog p loose mean mg mb news dp un gd cn cs a ccd cl outer A₀ base h₀ L m s Q E
  obtain ⟨kind, names, isG, isC, more⟩ := cs
  intro hB hF hX hN hT hk hdp hun hret
  simp only at hk
  subst hk
  k_steps
  rename ∀ p ∈ news, _ => hl5
  rename News _ _ _ _ => kN
  exact hret _ _ _ _ _ _ (by k_asm) (news_sub3 kN (by k_mem) (by k_mem) (by k_mem) (fun p hp => by repeat (first | exact hp | apply List.mem_cons_of_mem))) (allLt_of hl5) (by omega) (by omega)
end
end Mine
end
section
open PySem PySem.W PySem.Spec PySem.Calls PyProof.Rows
set_option maxHeartbeats 8000000
namespace Mine
theorem rs_A2 : True := by
  k_with_none
  exact trivial
theorem cls_ne {h : Heap} {a b : Addr} {o o' : Obj} (h1 : h.get? a = some o) (h2 : h.get? b = some o') (hc : o.cls ≠ o'.cls) : @Ne Nat a b := fun e => by
  subst e
  rw [h1] at h2
  exact hc (congrArg Obj.cls (Option.some.inj h2))
theorem allLt_app {T : Addr} {a b : List (Addr × Obj)} (h : AllLt T (a ++ b)) (p : Addr × Obj) (hp : @LT.lt Nat _ p.1 T) : AllLt T (a ++ p :: b) :=
  allLt_of fun q hq => by
    rcases List.mem_append.mp hq with hq | hq
    · exact kst_ltOf h q (List.mem_append_left _ hq)
    · rcases List.mem_cons.mp hq with e | hq
      · rw [e]; exact hp
      · exact kst_ltOf h q (List.mem_append_right _ hq)
theorem add_u {w : World} {nm vl : Str} {tn tv : Tok} {I d l : Addr} {vs : List Value} {c : Nat} {kt : Tok} (hnm : Name nm) (hvl : Teller vl)
    {prog : Program} {p : Program} {loose : List Str} {mean : ExcName → Option Value} {mg mb : Str → Option Value} {news : List (Addr × Obj)} {g : Obj → List (Addr × Obj)}
    {dp un : Nat} {gd : Option (List Code)} {cn : Str} {cs : Scope} {a : Addr} {ccd : Value} {cl : List (Str × Addr)} {outer : List Env} {A₀ : Around} {base h₀ : Heap} {L : Addr} {m : Str → Option Value} {s : Shared} {Q E : Value → Shared → Prop}
    (hB : Below A₀ base outer h₀) (hF : Fr h₀ L s.heap m) (hX : (hd.heap_39 w.params).In h₀) (hN : News h₀ L s.heap news) (hT : Top p loose mean mg mb h₀) (hk : cs.kind = .function)
    (mI : (I, instObj 228 d) ∈ news) (md : (d, dictOf [⟨PyData.keyHash w.params (Str.ofString "_headers"), .str (Str.ofString "_headers") kt, .ref l⟩] 1) ∈ news) (U : UpdF l (listOf vs.toArray c) news g) (hvs : vs.length ≤ 100)
    (hdp : dp + 8 < recursionLimit) (hun : un + 800 < cLine)
    (hret : ∀ (T : Addr) (t9 : Tok) (h' : Heap) (tk' : Nat), Fr h₀ L h' m → News h₀ L h' ((T, { cls := Value.type "tuple", data := Data.seq [Value.str nm tn, Value.str vl t9].toArray }) :: g (listOf (vs ++ [Value.ref T]).toArray (c + 1))) → AllLt T news → Q .none { s with heap := h', toks := tk' }) :
    wpAny (model prog w) (ktrTop dp un gd cn cs L a ccd cl outer) (call (.ref 225) [.ref I, .str nm tn, .str vl tv]) Q E s := by
  obtain ⟨pre, post, rfl, hg, hpre, hpost⟩ := U.split
  have NI := hN _ mI
  have Nd := hN _ md
  have Nl := hN (l, listOf vs.toArray c) (List.mem_append.mpr (.inr (.head _)))
  have hIl : @Ne Nat I l := cls_ne NI.1 Nl.1 (by intro e; exact nomatch e)
  have hdl : @Ne Nat d l := cls_ne Nd.1 Nl.1 (show Value.type "dict" ≠ Value.type "list" by k_cls)
  have hN' : News h₀ L s.heap ((I, instObj 228 d) :: (d, dictOf [⟨PyData.keyHash w.params (Str.ofString "_headers"), .str (Str.ofString "_headers") kt, .ref l⟩] 1) :: (l, listOf vs.toArray c) :: (pre ++ post)) := by
    refine news_sub3 hN mI md (List.mem_append.mpr (.inr (.head _))) fun q hq => ?_
    rcases List.mem_append.mp hq with h | h
    · exact List.mem_append_left _ h
    · exact List.mem_append_right _ (.tail _ h)
  refine add_c w nm vl tn tv I d l vs c kt hnm hvl hIl hdl hvs prog p loose mean mg mb (pre ++ post) dp un gd cn cs a ccd cl outer A₀ base h₀ L m s Q E hB hF hX hN' hT hk (fun q hq => ?_) hdp hun fun T t9 h' tk' F' N' hA h1 h2 h3 => hret T t9 h' tk' F' ?_ (allLt_app hA _ h3)
  · rcases List.mem_append.mp hq with h | h
    · exact hpre q h
    · exact hpost q h
  · rw [hg]
    intro q hq
    rcases List.mem_cons.mp hq with e | hq
    · rw [e]; exact N' _ (.head _)
    · rcases List.mem_append.mp hq with hq | hq
      · exact N' _ (.tail _ (.tail _ (.tail _ (.tail _ (List.mem_append_left _ hq)))))
      · rcases List.mem_cons.mp hq with e | hq
        · rw [e]; exact N' _ (.tail _ (.tail _ (.tail _ (.head _))))
        · exact N' _ (.tail _ (.tail _ (.tail _ (.tail _ (List.mem_append_right _ hq)))))
end Mine
end
section
open PySem PySem.W PySem.Spec PySem.Calls PyProof.Rows
namespace Mine
theorem rs_P1 : True := by
  k_with_none
  exact trivial
noncomputable def strip : List Nat → List Nat → List Nat × List Nat
  | x :: a, y :: b => if x = y then strip a b else (x :: a, y :: b)
  | [], b => ([], b)
  | a, [] => (a, [])
noncomputable def lowN (c : Nat) : Nat := if 65 ≤ c ∧ c ≤ 90 then c + 32 else c
noncomputable def subN (c d : Nat) : Nat := if c = d then 0 else if lowN c = lowN d then 1 else 2
theorem low_item : ∀ c, c < 128 → Txt.lower ⟨#[c]⟩ = ⟨#[lowN c]⟩ := by decide +kernel
theorem str_one {c d : Nat} : ((⟨#[c]⟩ : Str) = ⟨#[d]⟩) ↔ c = d := by
  constructor
  · intro h; simpa using congrArg Str.cps h
  · rintro rfl; rfl
theorem sub_one {c d : Nat} (hc : c < 128) (hd : d < 128) : subC ⟨#[c]⟩ ⟨#[d]⟩ = (subN c d : Nat) := by
  unfold subC subN
  rw [low_item c hc, low_item d hd]
  simp only [beq_iff_eq, str_one]
  split
  · rfl
  · split <;> rfl
noncomputable def innerN (b : Nat) : List Nat → List Nat → Nat → Nat → Nat → Nat × Nat × List Nat
  | c :: a, x :: row, d, r, m =>
    let sub := d + subN b c
    let ins := (if x < r then x else r) + 2
    let res := if sub < ins then sub else ins
    let q := innerN b a row x res (if res < m then res else m)
    (q.1, q.2.1, res :: q.2.2)
  | _, row, _, r, m => (r, m, row)
theorem innerN_len (b : Nat) : ∀ (a row : List Nat) (d r m : Nat), (innerN b a row d r m).2.2.length = row.length
  | [], _, _, _, _ => rfl
  | _ :: _, [], _, _, _ => rfl
  | c :: a, x :: row, d, r, m => by
    simp only [innerN, List.length_cons]
    rw [innerN_len b a row]
theorem rangeKs_cons (j : Int) (n : Nat) : rangeKs j (n + 1) = j :: rangeKs (j + 1) n := by
  unfold rangeKs
  rw [List.range_succ_eq_map, List.map_cons, List.map_map]
  congr 1
  · simp
  · apply List.map_congr_left
    intro i _
    simp only [Function.comp, Nat.succ_eq_add_one, Int.natCast_add]; omega
noncomputable abbrev asI (l : List Nat) : List Int := l.map fun (n : Nat) => (n : Int)
theorem inner_sim {B a : Str} {b : Nat} (hB : B = ⟨#[b]⟩) (hb : b < 128) (ha : ∀ c ∈ a.cps.toList, c < 128) : ∀ (rest pre : List Nat) (done row : List Nat) (d r m : Nat), a.cps.toList = pre ++ rest → done.length = pre.length → row.length = rest.length →
    ((rangeKs pre.length rest.length).foldl (stepI B a) ((d : Int), (r : Int), (m : Int), asI (done ++ row))).2 =
      (((innerN b rest row d r m).1 : Int), ((innerN b rest row d r m).2.1 : Int), asI (done ++ (innerN b rest row d r m).2.2))
  | [], pre, done, row, d, r, m, _, _, _ => by
    simp only [List.length_nil, innerN]; rfl
  | c :: rest, pre, done, [], d, r, m, _, _, h => by simp at h
  | c :: rest, pre, done, x :: row, d, r, m, e, hd, hr => by
    have hl : a.length = pre.length + (rest.length + 1) := by rw [len_list, e]; simp
    have hi : Txt.item a (pre.length : Int) = ⟨#[c]⟩ := by
      rw [item_nn (by omega) (by omega), e]
      simp [List.getD]
    have hc : c < 128 := ha c (by rw [e]; simp)
    have h2 : (asI (done ++ x :: row)).getD pre.length 0 = (x : Int) := by
      rw [← hd]; simp [asI, List.getD]
    rw [List.length_cons, rangeKs_cons, List.foldl_cons]
    have hs : stepI B a ((d : Int), (r : Int), (m : Int), asI (done ++ x :: row)) (pre.length : Int) =
        ((x : Int), (((if d + subN b c < (if x < r then x else r) + 2 then d + subN b c else (if x < r then x else r) + 2 : Nat)) : Int),
          (((if (if d + subN b c < (if x < r then x else r) + 2 then d + subN b c else (if x < r then x else r) + 2) < m then (if d + subN b c < (if x < r then x else r) + 2 then d + subN b c else (if x < r then x else r) + 2) else m : Nat)) : Int),
          asI ((done ++ [if d + subN b c < (if x < r then x else r) + 2 then d + subN b c else (if x < r then x else r) + 2]) ++ row)) := by
      unfold stepI
      simp only [Int.toNat_natCast, h2, hi, hB, sub_one hb hc]
      have hins : ((if (x : Int) < r then (x : Int) else r) + 2) = (((if x < r then x else r) + 2 : Nat) : Int) := by
        split <;> split <;> first | rfl | omega
      have hres : (if ((d : Int) + (subN b c : Nat)) < (((if x < r then x else r) + 2 : Nat) : Int) then ((d : Int) + (subN b c : Nat)) else (((if x < r then x else r) + 2 : Nat) : Int)) = ((if d + subN b c < (if x < r then x else r) + 2 then d + subN b c else (if x < r then x else r) + 2 : Nat) : Int) := by
        generalize (if x < r then x else r) + 2 = y
        generalize subN b c = z
        split <;> split <;> first | rfl | omega
      rw [hins, hres]
      generalize (if d + subN b c < (if x < r then x else r) + 2 then d + subN b c else (if x < r then x else r) + 2) = y
      congr 1
      congr 1
      congr 1
      · split <;> split <;> first | rfl | omega
      · rw [← hd]
        simp [asI]
    rw [hs]
    have ih := inner_sim hB hb ha rest (pre ++ [c]) (done ++ [if d + subN b c < (if x < r then x else r) + 2 then d + subN b c else (if x < r then x else r) + 2]) row x (if d + subN b c < (if x < r then x else r) + 2 then d + subN b c else (if x < r then x else r) + 2)
      (if (if d + subN b c < (if x < r then x else r) + 2 then d + subN b c else (if x < r then x else r) + 2) < m then (if d + subN b c < (if x < r then x else r) + 2 then d + subN b c else (if x < r then x else r) + 2) else m) (by rw [e]; simp) (by simp [hd]) (by simpa using hr)
    have hn : ((pre ++ [c]).length : Int) = (pre.length : Int) + 1 := by simp
    rw [hn] at ih
    rw [ih]
    simp only [innerN, List.append_assoc, List.singleton_append]
noncomputable def levOutN (a : List Nat) (mx : Nat) : List Nat → Nat → Nat → List Nat → Nat
  | [], _, r, _ => r
  | c :: b, k, _, row =>
    let q := innerN c a row (k * 2) (k * 2) 9223372036854775807
    if mx < q.2.1 then mx + 1 else levOutN a mx b (k + 1) q.1 q.2.2
theorem out_sim {a b : Str} {mx : Nat} (ha : ∀ c ∈ a.cps.toList, c < 128) (hb : ∀ c ∈ b.cps.toList, c < 128) : ∀ (rest pre : List Nat) (r : Nat) (row : List Nat), b.cps.toList = pre ++ rest → row.length = a.length →
    levOut a b mx rest.length pre.length r (asI row) = (levOutN a.cps.toList mx rest pre.length r row : Nat)
  | [], pre, r, row, _, _ => rfl
  | c :: rest, pre, r, row, e, hr => by
    have hi : Txt.item b (pre.length : Int) = ⟨#[c]⟩ := by
      have hl : b.length = pre.length + (rest.length + 1) := by rw [len_list, e]; simp
      rw [item_nn (by omega) (by omega), e]
      simp [List.getD]
    have hc : c < 128 := hb c (by rw [e]; simp)
    have hin := inner_sim (B := Txt.item b (pre.length : Int)) hi hc ha a.cps.toList [] [] row (pre.length * 2) (pre.length * 2) 9223372036854775807 rfl rfl (by rw [hr, len_list])
    simp only [List.length_nil, List.nil_append] at hin
    rw [List.length_cons]
    unfold levOut levOutN innerV
    rw [len_list a]
    have hk : ((pre.length : Int) * 2) = ((pre.length * 2 : Nat) : Int) := by omega
    have hbig : (9223372036854775807 : Int) = ((9223372036854775807 : Nat) : Int) := rfl
    rw [hk, hbig]
    simp only [Int.natCast_zero] at hin
    generalize hst : (rangeKs 0 a.cps.toList.length).foldl (stepI (Txt.item b (pre.length : Int)) a) ((pre.length * 2 : Nat), (pre.length * 2 : Nat), ((9223372036854775807 : Nat) : Int), asI row) = st at hin ⊢
    simp only [hin]
    generalize hq : innerN c a.cps.toList row (pre.length * 2) (pre.length * 2) 9223372036854775807 = q at hin ⊢
    have ih := out_sim (mx := mx) ha hb rest (pre ++ [c]) q.1 q.2.2 (by rw [e]; simp) (by rw [← hq, innerN_len, hr])
    have hn : ((pre ++ [c]).length : Int) = (pre.length : Int) + 1 := by simp
    rw [hn] at ih
    rw [ih]
    have hn2 : (pre ++ [c]).length = pre.length + 1 := by simp
    rw [hn2]
    split <;> split <;> first | rfl | omega
noncomputable def row0N (n : Nat) : List Nat := (List.range n).map fun i => 2 + i * 2
theorem row0_sim (n : Nat) : row0 n = asI (row0N n) := by
  unfold row0 row0N asI
  rw [List.map_map]
  apply List.map_congr_left
  intro i _
  simp only [Function.comp]; omega
noncomputable def levMN (a b : List Nat) (mx : Nat) : Nat := if mx < (b.length - a.length) * 2 then mx + 1 else levOutN a mx b 0 0 (row0N a.length)
theorem levM_sim {a b : Str} {mx : Nat} (ha : ∀ c ∈ a.cps.toList, c < 128) (hb : ∀ c ∈ b.cps.toList, c < 128) : levM a b mx = (levMN a.cps.toList b.cps.toList mx : Nat) := by
  unfold levM levMN
  have h := out_sim (mx := mx) ha hb b.cps.toList [] 0 (row0N a.length) rfl (by simp [row0N])
  rw [row0_sim, len_list b]
  simp only [List.length_nil, Int.natCast_zero] at h
  rw [h, len_list a]
  split <;> split <;> first | rfl | omega
noncomputable def levSN (a b : List Nat) (mx : Nat) : Nat :=
  if a.length = 0 ∨ b.length = 0 then 2 * (a.length + b.length)
  else if 40 < a.length ∨ 40 < b.length then mx + 1
  else if b.length < a.length then levMN b a mx else levMN a b mx
theorem levS_sim {a b : Str} {mx : Nat} (ha : ∀ c ∈ a.cps.toList, c < 128) (hb : ∀ c ∈ b.cps.toList, c < 128) : levS a b mx = (levSN a.cps.toList b.cps.toList mx : Nat) := by
  unfold levS levSN
  rw [levM_sim ha hb, levM_sim hb ha, len_list a, len_list b]
  repeat' split
  all_goals first | rfl | omega
/-! the prefix -/
theorem item_eq {a b : Str} {k : Nat} {x y : Nat} {u v : List Nat} (ha : a.cps.toList.drop k = x :: u) (hb : b.cps.toList.drop k = y :: v) : ((Txt.item a k == Txt.item b k) = true) ↔ x = y := by
  have h1 : k < a.cps.toList.length := by
    rcases Nat.lt_or_ge k a.cps.toList.length with h | h
    · exact h
    · rw [List.drop_of_length_le h] at ha; cases ha
  have h2 : k < b.cps.toList.length := by
    rcases Nat.lt_or_ge k b.cps.toList.length with h | h
    · exact h
    · rw [List.drop_of_length_le h] at hb; cases hb
  rw [item_nn (by omega) (by rw [len_list]; omega), item_nn (by omega) (by rw [len_list]; omega)]
  rw [List.drop_eq_getElem_cons h1] at ha
  rw [List.drop_eq_getElem_cons h2] at hb
  injection ha with ha _
  injection hb with hb _
  simp only [Int.toNat_natCast, beq_iff_eq, str_one, List.getD, List.getElem?_eq_getElem h1, List.getElem?_eq_getElem h2, Option.getD_some, ha, hb]
theorem pre_sim {a b : Str} : ∀ (f k : Nat), a.length ≤ k + f → ∃ n : Nat, preGo a b f k = n ∧ strip (a.cps.toList.drop k) (b.cps.toList.drop k) = (a.cps.toList.drop n, b.cps.toList.drop n)
  | 0, k, h => ⟨k, rfl, by
      rw [List.drop_of_length_le (l := a.cps.toList) (by rw [← len_list]; omega)]; simp [strip]⟩
  | f + 1, k, h => by
    unfold preGo
    cases ha : a.cps.toList.drop k with
    | nil =>
      refine ⟨k, ?_, by rw [ha]; simp [strip]⟩
      rw [if_neg]
      intro hp
      have : a.cps.toList.length ≤ k := by simpa using ha
      have := hp.1
      rw [len_list] at this; omega
    | cons x u =>
      cases hb : b.cps.toList.drop k with
      | nil =>
        refine ⟨k, ?_, by rw [ha, hb]; simp [strip]⟩
        rw [if_neg]
        intro hp
        have : b.cps.toList.length ≤ k := by simpa using hb
        have := hp.2.1
        rw [len_list] at this; omega
      | cons y v =>
        have hi := item_eq ha hb
        have h1 : k < a.cps.toList.length := by
          rcases Nat.lt_or_ge k a.cps.toList.length with h | h
          · exact h
          · rw [List.drop_of_length_le h] at ha; cases ha
        have h2 : k < b.cps.toList.length := by
          rcases Nat.lt_or_ge k b.cps.toList.length with h | h
          · exact h
          · rw [List.drop_of_length_le h] at hb; cases hb
        have ha' : a.cps.toList.drop (k + 1) = u := by rw [← List.drop_drop, ha]; rfl
        have hb' : b.cps.toList.drop (k + 1) = v := by rw [← List.drop_drop, hb]; rfl
        by_cases q : x = y
        · rw [if_pos ⟨by rw [len_list]; omega, by rw [len_list]; omega, hi.mpr q⟩]
          obtain ⟨n, e1, e2⟩ := pre_sim (a := a) (b := b) f (k + 1) (by omega)
          refine ⟨n, e1, ?_⟩
          rw [ha', hb'] at e2
          simp only [strip, if_pos q]; exact e2
        · refine ⟨k, ?_, ?_⟩
          · rw [if_neg]; intro hp; exact q (hi.mp hp.2.2)
          · simp only [strip, if_neg q, ha, hb]
theorem item_neg {x : Str} {k : Nat} (h : k < x.length) : Txt.item x (-(k : Int) - 1) = ⟨#[x.cps.toList.reverse.getD k 0]⟩ := by
  unfold Txt.item Txt.charAt
  have hs : seqIndex? (-(k : Int) - 1) x.length = some (x.length - 1 - k) := by
    unfold seqIndex?
    simp only [if_pos (by omega : -(k : Int) - 1 < 0)]
    rw [if_pos (by simp; omega)]
    congr 1; omega
  rw [hs]
  have hl := len_list x
  simp only [Option.bind_some, List.getD]
  rw [List.getElem?_reverse (by omega), ← hl, Array.getElem?_toList]
theorem item_eq' {a b : Str} {k : Nat} {x y : Nat} {u v : List Nat} (ha : a.cps.toList.reverse.drop k = x :: u) (hb : b.cps.toList.reverse.drop k = y :: v) : ((Txt.item a (-(k : Int) - 1) == Txt.item b (-(k : Int) - 1)) = true) ↔ x = y := by
  have h1 : k < a.cps.toList.reverse.length := by
    rcases Nat.lt_or_ge k a.cps.toList.reverse.length with h | h
    · exact h
    · rw [List.drop_of_length_le h] at ha; cases ha
  have h2 : k < b.cps.toList.reverse.length := by
    rcases Nat.lt_or_ge k b.cps.toList.reverse.length with h | h
    · exact h
    · rw [List.drop_of_length_le h] at hb; cases hb
  rw [item_neg (by rw [len_list]; simpa using h1), item_neg (by rw [len_list]; simpa using h2)]
  rw [List.drop_eq_getElem_cons h1] at ha
  rw [List.drop_eq_getElem_cons h2] at hb
  injection ha with ha _
  injection hb with hb _
  simp only [beq_iff_eq, str_one, List.getD, List.getElem?_eq_getElem h1, List.getElem?_eq_getElem h2, Option.getD_some, ha, hb]
theorem post_sim {a b : Str} : ∀ (f k : Nat), k ≤ a.length → k ≤ b.length → a.length ≤ k + f → ∃ n : Nat, n ≤ a.length ∧ n ≤ b.length ∧ postGo a b f (-(k : Int)) = -(n : Int) ∧ strip (a.cps.toList.reverse.drop k) (b.cps.toList.reverse.drop k) = (a.cps.toList.reverse.drop n, b.cps.toList.reverse.drop n)
  | 0, k, h1, h2, h => ⟨k, h1, h2, rfl, by
      rw [List.drop_of_length_le (l := a.cps.toList.reverse) (by rw [List.length_reverse, ← len_list]; omega)]; simp [strip]⟩
  | f + 1, k, hk1, hk2, h => by
    unfold postGo
    cases ha : a.cps.toList.reverse.drop k with
    | nil =>
      refine ⟨k, hk1, hk2, ?_, by rw [ha]; simp [strip]⟩
      rw [if_neg]
      intro hp
      have : a.cps.toList.length ≤ k := by simpa using ha
      have := hp.1
      rw [len_list] at this; omega
    | cons x u =>
      cases hb : b.cps.toList.reverse.drop k with
      | nil =>
        refine ⟨k, hk1, hk2, ?_, by rw [ha, hb]; simp [strip]⟩
        rw [if_neg]
        intro hp
        have : b.cps.toList.length ≤ k := by simpa using hb
        have := hp.2.1
        rw [len_list] at this; omega
      | cons y v =>
        have hi := item_eq' ha hb
        have h1 : k < a.cps.toList.length := by
          rcases Nat.lt_or_ge k a.cps.toList.length with h | h
          · exact h
          · rw [List.drop_of_length_le (by rw [List.length_reverse]; exact h)] at ha; cases ha
        have h2 : k < b.cps.toList.length := by
          rcases Nat.lt_or_ge k b.cps.toList.length with h | h
          · exact h
          · rw [List.drop_of_length_le (by rw [List.length_reverse]; exact h)] at hb; cases hb
        have ha' : a.cps.toList.reverse.drop (k + 1) = u := by rw [← List.drop_drop, ha]; rfl
        have hb' : b.cps.toList.reverse.drop (k + 1) = v := by rw [← List.drop_drop, hb]; rfl
        have hk : -(k : Int) - 1 = -((k + 1 : Nat) : Int) := by omega
        by_cases q : x = y
        · rw [if_pos ⟨by rw [len_list]; omega, by rw [len_list]; omega, hi.mpr q⟩]
          obtain ⟨n, e0, e00, e1, e2⟩ := post_sim (a := a) (b := b) f (k + 1) (by rw [len_list]; omega) (by rw [len_list]; omega) (by omega)
          refine ⟨n, e0, e00, by rw [hk]; exact e1, ?_⟩
          rw [ha', hb'] at e2
          simp only [strip, if_pos q]; exact e2
        · refine ⟨k, hk1, hk2, ?_, ?_⟩
          · rw [if_neg]; intro hp; exact q (hi.mp hp.2.2)
          · simp only [strip, if_neg q, ha, hb]
theorem cutTo_list {x : Str} {n : Nat} (h : n ≤ x.length) : (cutTo x (-(n : Int))).cps.toList = (x.cps.toList.reverse.drop n).reverse := by
  have hl := len_list x
  unfold cutTo
  split
  · have : n = 0 := by omega
    subst this
    rw [slice_all]; simp
  · rw [slice_neg (by omega), List.drop_reverse, List.reverse_reverse]
    congr 1; omega
noncomputable def levN (a b : List Nat) (mx : Nat) : Nat :=
  if a = b then 0 else
    let p := strip a b
    let q := strip p.1.reverse p.2.reverse
    levSN q.1.reverse q.2.reverse mx
theorem lev_sim {a b : Str} {mx : Nat} (ha : ∀ c ∈ a.cps.toList, c < 128) (hb : ∀ c ∈ b.cps.toList, c < 128) : LevV a b mx = (levN a.cps.toList b.cps.toList mx : Nat) := by
  unfold LevV levN
  have he : (a == b) = true ↔ a.cps.toList = b.cps.toList := by
    rw [beq_iff_eq]
    exact ⟨fun h => by rw [h], fun h => Str.ext' (Array.toList_inj.mp h)⟩
  by_cases q : a.cps.toList = b.cps.toList
  · rw [if_pos (he.mpr q), if_pos q]; rfl
  · rw [if_neg (fun h => q (he.mp h)), if_neg q]
    obtain ⟨n, e1, e2⟩ := pre_sim (a := a) (b := b) a.length 0 (by omega)
    simp only [List.drop_zero] at e2
    have e1' : preV a b = n := e1
    simp only [e1', e2]
    have la : (Txt.slice a (some (n : Int)) none).cps.toList = a.cps.toList.drop n := slice_from (by omega)
    have lb : (Txt.slice b (some (n : Int)) none).cps.toList = b.cps.toList.drop n := slice_from (by omega)
    generalize Txt.slice a (some (n : Int)) none = a1 at la ⊢
    generalize Txt.slice b (some (n : Int)) none = b1 at lb ⊢
    obtain ⟨k, k1, k2, f1, f2⟩ := post_sim (a := a1) (b := b1) a1.length 0 (by omega) (by omega) (by omega)
    simp only [List.drop_zero] at f2
    have f1' : postV a1 b1 = -(k : Int) := f1
    rw [f1', ← la, ← lb, f2]
    have ca := cutTo_list k1
    have cb := cutTo_list k2
    have hs := levS_sim (a := cutTo a1 (-(k : Int))) (b := cutTo b1 (-(k : Int))) (mx := mx)
      (fun c hc => ha c (by rw [ca] at hc; have := List.mem_of_mem_drop (List.mem_reverse.mp hc); rw [List.mem_reverse, la] at this; exact List.mem_of_mem_drop this))
      (fun c hc => hb c (by rw [cb] at hc; have := List.mem_of_mem_drop (List.mem_reverse.mp hc); rw [List.mem_reverse, lb] at this; exact List.mem_of_mem_drop this))
    rw [ca, cb] at hs
    exact hs
end Mine
end
section
open PySem PySem.W PySem.Spec PySem.Calls PyProof.Rows
namespace Mine
theorem rs_P2 : True := by
  k_with_none
  exact trivial
noncomputable def upN (c : Nat) : Nat := if 97 ≤ c ∧ c ≤ 122 then c - 32 else c
theorem up_of : ∀ c, c < 128 → Unicode.upperOf c = [upN c] := by decide +kernel
theorem upN_lt : ∀ c, c < 128 → upN c < 128 := by decide +kernel
theorem up_list {x : Str} (h : ∀ c ∈ x.cps.toList, c < 128) : (Txt.upper x).cps.toList = x.cps.toList.map upN := by
  obtain ⟨⟨l⟩⟩ := x
  simp only [Txt.upper, placed] at h ⊢
  have : (l.toArray.mapIdx fun (_ : Nat) c => (Unicode.upperOf c).toArray) = (l.map fun c => #[upN c]).toArray := by
    rw [List.mapIdx_toArray]
    congr 1
    rw [List.mapIdx_eq_iff]
    intro i
    rw [List.getElem?_map]
    cases hl : l[i]? with
    | none => rfl
    | some c => simp only [Option.map_some]; rw [up_of c (h c (List.mem_of_getElem? hl))]
  rw [this]
  clear this h
  induction l with
  | nil => rfl
  | cons c l ih => simp_all
noncomputable def spN (x : List Nat) (k p c : Nat) : List Nat :=
  if k = 1 then x.take p ++ x.drop (p + 1)
  else if k = 2 then x.take p ++ c :: x.drop p
  else if k = 3 then x.take p ++ c :: x.drop (p + 1)
  else if k = 4 then x.take p ++ ((x.drop p).take 2).map upN ++ x.drop (p + 2)
  else x
noncomputable def signN (g : Nat) : Nat := [97, 76, 59, 34, 38].getD g 0
theorem sign_item : ∀ g : Nat, g < 5 → Txt.item (Str.ofString "aL;\"&") (g : Int) = ⟨#[signN g]⟩ := by decide +kernel
theorem fmod_nat (n : Int) (k : Nat) (h : 0 < k) : ∃ m : Nat, m < k ∧ n.fmod k = m := by
  have h1 := Int.fmod_nonneg_of_pos n (b := (k : Int)) (by omega)
  have h2 := Int.fmod_lt_of_pos n (b := (k : Int)) (by omega)
  exact ⟨(n.fmod k).toNat, by omega, by omega⟩
theorem sp_sim {x : Str} (n : Int) (hl : 1 ≤ x.length) (h : ∀ c ∈ x.cps.toList, c < 128) : ∃ k p g : Nat, k < 5 ∧ p < x.cps.toList.length ∧ g < 5 ∧ (spoiltV x n).cps.toList = spN x.cps.toList k p (signN g) := by
  obtain ⟨k, hk, ek⟩ := fmod_nat (n.fdiv 2) 5 (by omega)
  obtain ⟨p, hp, ep⟩ := fmod_nat ((n.fdiv 10).fmod 10) x.length (by omega)
  obtain ⟨g, hg, eg⟩ := fmod_nat (n.fdiv 100) 5 (by omega)
  refine ⟨k, p, g, hk, by rw [← len_list]; exact hp, hg, ?_⟩
  have h5 : ((5 : Nat) : Int) = 5 := rfl
  rw [h5] at ek eg
  unfold spoiltV
  simp only [ek, ep, eg, sign_item g hg]
  unfold spN
  have e1 : ((k : Int) = 1) = (k = 1) := by apply propext; omega
  have e2 : ((k : Int) = 2) = (k = 2) := by apply propext; omega
  have e3 : ((k : Int) = 3) = (k = 3) := by apply propext; omega
  have e4 : ((k : Int) = 4) = (k = 4) := by apply propext; omega
  simp only [e1, e2, e3, e4]
  have hsT : (Txt.slice x none (some (p : Int))).cps.toList = x.cps.toList.take p := by rw [slice_to (by omega)]; simp
  have hsD : (Txt.slice x (some (p : Int)) none).cps.toList = x.cps.toList.drop p := by rw [slice_from (by omega)]; simp
  have hsD1 : (Txt.slice x (some ((p : Int) + 1)) none).cps.toList = x.cps.toList.drop (p + 1) := by rw [slice_from (by omega)]; congr 1
  have hsD2 : (Txt.slice x (some ((p : Int) + 2)) none).cps.toList = x.cps.toList.drop (p + 2) := by rw [slice_from (by omega)]; congr 1
  have hsM : (Txt.slice x (some (p : Int)) (some ((p : Int) + 2))).cps.toList = (x.cps.toList.drop p).take 2 := by rw [slice_mid (by omega) (by omega)]; congr 1; omega
  repeat' split
  · rw [Str.cps_append, Array.toList_append, hsT, hsD1]
  · rw [Str.cps_append, Array.toList_append, Str.cps_append, Array.toList_append, hsT, hsD]; simp
  · rw [Str.cps_append, Array.toList_append, Str.cps_append, Array.toList_append, hsT, hsD1]; simp
  · rw [Str.cps_append, Array.toList_append, Str.cps_append, Array.toList_append, hsT, hsD2, up_list, hsM]
    intro c hc; rw [hsM] at hc; exact h c (List.mem_of_mem_drop (List.mem_of_mem_take hc))
  · rfl
theorem signN_lt : ∀ g, g < 5 → signN g < 128 := by decide +kernel
theorem sp_lt {x : List Nat} {k p c : Nat} (h : ∀ d ∈ x, d < 128) (hc : c < 128) : ∀ d ∈ spN x k p c, d < 128 := by
  intro d hd
  unfold spN at hd
  repeat' split at hd
  · rcases List.mem_append.mp hd with hd | hd
    · exact h d (List.mem_of_mem_take hd)
    · exact h d (List.mem_of_mem_drop hd)
  · rcases List.mem_append.mp hd with hd | hd
    · exact h d (List.mem_of_mem_take hd)
    · rcases List.mem_cons.mp hd with rfl | hd
      · exact hc
      · exact h d (List.mem_of_mem_drop hd)
  · rcases List.mem_append.mp hd with hd | hd
    · exact h d (List.mem_of_mem_take hd)
    · rcases List.mem_cons.mp hd with rfl | hd
      · exact hc
      · exact h d (List.mem_of_mem_drop hd)
  · rcases List.mem_append.mp hd with hd | hd
    · rcases List.mem_append.mp hd with hd | hd
      · exact h d (List.mem_of_mem_take hd)
      · obtain ⟨e, he, rfl⟩ := List.mem_map.mp hd
        exact upN_lt e (h e (List.mem_of_mem_drop (List.mem_of_mem_take he)))
    · exact h d (List.mem_of_mem_drop hd)
  · exact h d hd
noncomputable def costN : List Nat → List Nat → Nat
  | x :: a, y :: b => (if x = y then 0 else if x = lowN y then 1 else 2) + costN a b
  | _, _ => 0
theorem cost_at {c d : Nat} (hd : d < 128) {x y : Str} {k : Nat} {u v : List Nat} (hx : x.cps.toList.drop k = c :: u) (hy : y.cps.toList.drop k = d :: v) : costAt x y k = ((if c = d then 0 else if c = lowN d then 1 else 2 : Nat) : Int) := by
  have h1 : k < x.cps.toList.length := by
    rcases Nat.lt_or_ge k x.cps.toList.length with h | h
    · exact h
    · rw [List.drop_of_length_le h] at hx; cases hx
  have h2 : k < y.cps.toList.length := by
    rcases Nat.lt_or_ge k y.cps.toList.length with h | h
    · exact h
    · rw [List.drop_of_length_le h] at hy; cases hy
  rw [List.drop_eq_getElem_cons h1] at hx
  rw [List.drop_eq_getElem_cons h2] at hy
  injection hx with hx _
  injection hy with hy _
  unfold costAt
  rw [item_nn (x := x) (by omega) (by rw [len_list]; omega), item_nn (x := y) (by omega) (by rw [len_list]; omega)]
  simp only [Int.toNat_natCast, List.getD, List.getElem?_eq_getElem h1, List.getElem?_eq_getElem h2, Option.getD_some, hx, hy, low_item d hd, beq_iff_eq, str_one]
  split
  · rfl
  · split <;> rfl
theorem cost_sum {x y : Str} (h : ∀ d ∈ y.cps.toList, d < 128) (hl : x.cps.toList.length = y.cps.toList.length) : ∀ (n k : Nat), x.cps.toList.length = k + n → ((rangeKs k n).map (costAt x y)).sum = (costN (x.cps.toList.drop k) (y.cps.toList.drop k) : Nat)
  | 0, k, e => by
    rw [List.drop_of_length_le (by omega)]; rfl
  | n + 1, k, e => by
    have e1 := List.drop_eq_getElem_cons (l := x.cps.toList) (i := k) (by omega)
    have e2 := List.drop_eq_getElem_cons (l := y.cps.toList) (i := k) (by omega)
    rw [rangeKs_cons, List.map_cons, List.sum_cons, cost_at (h _ (List.getElem_mem (l := y.cps.toList) (by omega))) e1 e2, e1, e2, costN]
    have ih := cost_sum h hl n (k + 1) (by omega)
    have hk : ((k + 1 : Nat) : Int) = (k : Int) + 1 := by omega
    rw [hk] at ih
    rw [ih]; omega
noncomputable def costLN (x y : List Nat) : Nat := if x.length ≠ y.length then 2 else costN x y
theorem cost_sim {x y : Str} (h : ∀ d ∈ y.cps.toList, d < 128) : costV x y = (costLN x.cps.toList y.cps.toList : Nat) := by
  unfold costV costLN
  rw [len_list x, len_list y]
  by_cases q : x.cps.toList.length = y.cps.toList.length
  · rw [if_neg (by omega), if_neg (by omega)]
    have := cost_sum h q x.cps.toList.length 0 (by omega)
    simp only [List.drop_zero, Int.natCast_zero] at this
    rw [← this]
    congr 1
  · rw [if_pos (by omega), if_pos q]; rfl
/-! the check of all spoilings -/
noncomputable def okN (x w0 w1 : List Nat) (o : Bool) : Bool :=
  x.length ≤ 20 && (let l0 := levN x w0 2; let l1 := levN w1 x 2; if o then (!(Nat.ble l0 2)) && Nat.ble l1 2 && Nat.beq l1 (costLN w1 x) else Nat.ble l0 2 && !(Nat.ble l1 2) && Nat.beq l0 (costLN w0 x))
noncomputable def allN (w0 w1 : List Nat) (o : Bool) : Bool :=
  let x := if o then w1 else w0
  (List.range x.length).all fun p => okN (spN x 0 p 0) w0 w1 o && okN (spN x 1 p 0) w0 w1 o && okN (spN x 4 p 0) w0 w1 o && [97, 76, 59, 34, 38].all fun c => okN (spN x 2 p c) w0 w1 o && okN (spN x 3 p c) w0 w1 o
theorem all_0 : allN [38,108,116,59,97] [38,97,109,112,59,97] false = true := by decide +kernel
theorem all_1 : allN [38,108,116,59,97] [38,97,109,112,59,97] true = true := by decide +kernel
theorem all_7 : allN [38,108,116,59,38,103,116,59] [38,97,109,112,59,38,103,116,59] true = true := by decide +kernel
end Mine
end
section
open PySem PySem.W PySem.Spec PySem.Calls PyProof.Rows
namespace Mine
theorem rs_P3 : True := by
  k_with_none
  exact trivial
theorem reply_list (x y : Str) : (replyV x y).cps.toList = [50,53,55,32,34] ++ x.cps.toList.flatMap (put 34 [34,34]) ++ [34,32,115,97,121,115,32,34] ++ y.cps.toList ++ [34] := by
  have e1 : Str.ofString "\"" = ⟨#[34]⟩ := by decide +kernel
  have e2 : Str.ofString "\"\"" = ⟨#[34,34]⟩ := by decide +kernel
  have e3 : Str.ofString "257 \"" = ⟨#[50,53,55,32,34]⟩ := by decide +kernel
  have e4 : Str.ofString "\" says \"" = ⟨#[34,32,115,97,121,115,32,34]⟩ := by decide +kernel
  unfold replyV
  rw [e1, e2, e3, e4]
  simp only [Str.cps_append, Array.toList_append, replace_list]
theorem item_at {x : Str} {k c : Nat} {u : List Nat} (h : x.cps.toList.drop k = c :: u) : (k : Int) < x.length ∧ Txt.item x (k : Int) = ⟨#[c]⟩ := by
  have h1 : k < x.cps.toList.length := by
    rcases Nat.lt_or_ge k x.cps.toList.length with q | q
    · exact q
    · rw [List.drop_of_length_le q] at h; cases h
  have hl := len_list x
  refine ⟨by omega, ?_⟩
  rw [item_nn (by omega) (by omega)]
  rw [List.drop_eq_getElem_cons h1] at h
  injection h with h _
  simp [List.getD, List.getElem?_eq_getElem h1, h]
theorem drop_one {x : List Nat} {k c : Nat} {u : List Nat} (h : x.drop k = c :: u) : x.drop (k + 1) = u := by
  rw [← List.drop_drop, h]; rfl
theorem pgo_dbl {X : Str} : ∀ (u : List Nat) (f k : Nat) (d : Str) (v : List Nat), X.cps.toList.drop k = u.flatMap (put 34 [34,34]) ++ 34 :: 32 :: v → X.length ≤ k + f → (pgo X f k d).cps.toList = d.cps.toList ++ u
  | [], f, k, d, v, h, hf => by
    rw [List.flatMap_nil, List.nil_append] at h
    obtain ⟨h1, h2⟩ := item_at h
    obtain ⟨h3, h4⟩ := item_at (drop_one h)
    cases f with
    | zero => omega
    | succ f =>
      rw [pgo, if_pos h1, if_pos (by rw [h2]; decide +kernel), if_neg (by omega), if_pos]
      · simp
      · have : ((k : Int) + 1) = ((k + 1 : Nat) : Int) := by omega
        rw [this, h4]; decide +kernel
  | c :: u, f, k, d, v, h, hf => by
    by_cases hc : c = 34
    · subst hc
      have e : (34 :: u).flatMap (put 34 [34,34]) ++ 34 :: 32 :: v = 34 :: 34 :: (u.flatMap (put 34 [34,34]) ++ 34 :: 32 :: v) := by simp [List.flatMap_cons, put]
      rw [e] at h
      obtain ⟨h1, h2⟩ := item_at h
      obtain ⟨h3, h4⟩ := item_at (drop_one h)
      have h5 := drop_one (drop_one h)
      cases f with
      | zero => omega
      | succ f =>
        have hk : ((k : Int) + 1) = ((k + 1 : Nat) : Int) := by omega
        have hk2 : (((k + 1 : Nat) : Int) + 1) = ((k + 1 + 1 : Nat) : Int) := by omega
        rw [pgo, if_pos h1, if_pos (by rw [h2]; decide +kernel), if_neg (by omega), hk, if_neg (by rw [h4]; decide +kernel), hk2, pgo_dbl u f (k + 1 + 1) _ v h5 (by omega), h2]
        rw [Str.cps_append]; simp
    · have e : (c :: u).flatMap (put 34 [34,34]) ++ 34 :: 32 :: v = c :: (u.flatMap (put 34 [34,34]) ++ 34 :: 32 :: v) := by simp [List.flatMap_cons, put, hc]
      rw [e] at h
      obtain ⟨h1, h2⟩ := item_at h
      have h5 := drop_one h
      have e34 : Str.ofString "\"" = ⟨#[34]⟩ := by decide +kernel
      cases f with
      | zero => omega
      | succ f =>
        have hk : ((k : Int) + 1) = ((k + 1 : Nat) : Int) := by omega
        rw [pgo, if_pos h1, if_neg (by rw [h2, e34, beq_iff_eq, str_one]; exact hc), hk, pgo_dbl u f (k + 1) _ v h5 (by omega), h2]
        rw [Str.cps_append]; simp
theorem pv_reply (x y : Str) : PV (replyV x y) = x := by
  have hl := reply_list x y
  unfold PV
  have h2 : (Txt.slice (replyV x y) (some 3) (some 5)).cps.toList = [32, 34] := by
    rw [slice_mid (by omega) (by omega), hl]; rfl
  have h3 : Txt.slice (replyV x y) (some 3) (some 5) = Str.ofString " \"" := by
    refine Str.ext' (Array.toList_inj.mp ?_)
    rw [h2]; decide +kernel
  rw [if_neg (by rw [h3]; decide +kernel)]
  have h5 : (replyV x y).cps.toList.drop 5 = x.cps.toList.flatMap (put 34 [34,34]) ++ 34 :: 32 :: ([115,97,121,115,32,34] ++ y.cps.toList ++ [34]) := by
    rw [hl]; simp
  have := pgo_dbl (X := replyV x y) x.cps.toList (replyV x y).length 5 (Str.ofString "") _ h5 (by omega)
  refine Str.ext' (Array.toList_inj.mp ?_)
  have e0 : (Str.ofString "").cps.toList = [] := by decide +kernel
  rw [e0, List.nil_append] at this
  exact this
theorem ps_reply (x y : Str) : (Txt.slice (replyV x y) none (some 3) != Str.ofString "257") = false := by
  have h3 : Txt.slice (replyV x y) none (some 3) = Str.ofString "257" := by
    refine Str.ext' (Array.toList_inj.mp ?_)
    rw [slice_to (by omega), reply_list]
    have : (Str.ofString "257").cps.toList = [50,53,55] := by decide +kernel
    rw [this]; rfl
  rw [h3]; decide +kernel
theorem len_reply (x y : Str) : (replyV x y).length ≤ 2 * x.length + y.length + 14 := by
  rw [len_list, reply_list]
  have := flat_len (c := 34) (z := [34,34]) (n := 2) (by decide) (by decide) x.cps.toList
  have h1 := len_list x
  have h2 := len_list y
  simp only [List.length_append, List.length_cons, List.length_nil]
  omega
end Mine
end
section
open PySem PySem.W PySem.Spec PySem.Calls PyProof.Rows
set_option maxHeartbeats 8000000
namespace Mine
theorem rs_D1 : True := by
  k_with_none
  exact trivial
noncomputable def pickS (o : Int) (a b : Str) : Str := if o = 0 then a else b
structure RunPre (w0 w1 : Str) : Prop where
  l0 : 1 ≤ w0.length ∧ w0.length ≤ 20
  l1 : 1 ≤ w1.length ∧ w1.length ≤ 20
  n0 : Name w0
  n1 : Name w1
  u0 : Name (Txt.upper w0)
  u1 : Name (Txt.upper w1)
  sp : ∀ o n, o = 0 ∨ o = 1 → (spoiltV (pickS o w0 w1) n).length ≤ 20
  hp : ∀ o n, o = 0 ∨ o = 1 → HPre (replyV (spoiltV (pickS o w0 w1) n) (Str.ofString "g")) (spoiltV (pickS o w0 w1) n) w0 w1 o
  rl : ∀ o n, o = 0 ∨ o = 1 → (replyV (spoiltV (pickS o w0 w1) n) (Str.ofString "g")).length ≤ 200
  ps : ∀ x y, (Txt.slice (replyV x y) none (some 3) != Str.ofString "257") = false
  pv : ∀ x y, PV (replyV x y) = x
  pl : ∀ x y, x.length ≤ 200 → y.length ≤ 20 → (replyV x y).length ≤ 2000
end Mine
end
section
open PySem PySem.W PySem.Spec PySem.Calls PyProof.Rows
set_option maxHeartbeats 8000000
namespace Mine
theorem rs_TA : True := by
  k_with_none
  exact trivial
section
theorem RunPre.len {w0 w1 : Str} (h : RunPre w0 w1) {o : Int} : 1 ≤ (pickS o w0 w1).length ∧ (pickS o w0 w1).length ≤ 20 := by
  unfold pickS; split
  · exact h.l0
  · exact h.l1
theorem RunPre.nam {w0 w1 : Str} (h : RunPre w0 w1) {o : Int} : Name (pickS o w0 w1) := by
  unfold pickS; split
  · exact h.n0
  · exact h.n1
theorem RunPre.unam {w0 w1 : Str} (h : RunPre w0 w1) {o : Int} : Name (Txt.upper (pickS o w0 w1)) := by
  unfold pickS; split
  · exact h.u0
  · exact h.u1
section
variable {prog : Program} {w : World} {A : Around} {E : Value → Shared → Prop} {s : Shared} {h₀ : Heap} {L : Addr}
theorem sub_two {D : Addr} {news : List (Addr × Obj)} {w0 w1 : Str} {t0 t1 : Tok} {n : Nat} {k : Int} {u : Tok} {value slice : PySem.Expr} {Q : Value → Shared → Prop} (N : News h₀ L s.heap news) (hm : (D, listOf [.str w0 t0, .str w1 t1].toArray n) ∈ news) (h0 : k = 0 ∨ k = 1) (h : ∀ t, Q (.str (pickS k w0 w1) t) s)
    (hs : subscripted slice false (.ref D) (.int k u) = operate [.ref D, .int k u] (getItem (.ref D) (.int k u)) := by with_unfolding_all rfl) :
    wpAny (model prog w) A (subscriptTail value slice (.ref D) (.int k u)) Q E s := by
  rcases h0 with rfl | rfl
  · exact sub_val N hm (by decide) (by decide) rfl (h t0) hs
  · exact sub_val N hm (by decide) (by decide) rfl (h t1) hs
end
theorem off_new {I C D d9 I9 l9 : Addr} {o1 o2 o3 oI oC oD : Obj} {led rest : List (Addr × Obj)} (a : AllLt d9 led) (b : @LT.lt Nat _ d9 I9) (c : @LT.lt Nat _ I9 l9) (hI : (I, oI) ∈ led) (hC : (C, oC) ∈ led) (hD : (D, oD) ∈ led) (h : LCg.Off3 I C D rest) : LCg.Off3 I C D ((I9, o1) :: (d9, o2) :: (l9, o3) :: rest) := by
  have h1 : @LT.lt Nat _ I d9 := kst_ltOf a _ hI
  have h2 : @LT.lt Nat _ C d9 := kst_ltOf a _ hC
  have h3 : @LT.lt Nat _ D d9 := kst_ltOf a _ hD
  refine ⟨⟨?_, ?_, ?_⟩, ⟨?_, ?_, ?_⟩, ⟨?_, ?_, ?_⟩, h⟩ <;> (dsimp only; omega)
theorem teller_g : Teller (Str.ofString "g") := .inl rfl
noncomputable def tellerB (x : Str) : Bool := x == Str.ofString "g" || x == Str.ofString "a" || x == Str.ofString "b" || x == Str.ofString "c"
theorem teller_of {x : Str} (h : tellerB x = true) : Teller x := by
  simpa [tellerB, Teller, or_assoc] using h
theorem teller_a : Teller (Str.ofString "a") := .inr (.inl rfl)
theorem teller_b : Teller (Str.ofString "b") := .inr (.inr (.inl rfl))
theorem teller_c : Teller (Str.ofString "c") := .inr (.inr (.inr rfl))
theorem RunPre.spl {w0 w1 : Str} (h : RunPre w0 w1) {o n : Int} (ho : o = 0 ∨ o = 1) : (spoiltV (pickS o w0 w1) n).length ≤ 200 ∧ (Str.ofString "g").length ≤ 20 := ⟨by have := h.sp o n ho; omega, by decide +kernel⟩
theorem RunPre.rpl {w0 w1 : Str} (h : RunPre w0 w1) {o n : Int} {y : Str} (ho : o = 0 ∨ o = 1) (hy : y.length ≤ 20) : (replyV (spoiltV (pickS o w0 w1) n) (Str.ofString "g")).length ≤ 200 ∧ y.length ≤ 20 := ⟨h.rl o n ho, hy⟩
noncomputable def IfPost (P : Int → Prop) (s : Shared) (v : Value) (s' : Shared) : Prop := ∃ y t k, v = .int y t ∧ P y ∧ s' = { s with toks := k }
theorem ifexp_cut {prog : Program} {w : World} {A : Around} {E : Value → Shared → Prop} {s : Shared} {e : PySem.Expr} {env : Env} {Q : Value → Shared → Prop} (P : Int → Prop)
    (h1 : wpAny (model prog w) A (eval e env) (IfPost P s) E s)
    (h2 : ∀ y t k, P y → Q (.int y t) { s with toks := k }) : wpAny (model prog w) A (eval e env) Q E s :=
  wpAny_mono h1 (fun v s' ⟨y, t, k, e1, hp, e2⟩ => by subst e1 e2; exact h2 y t k hp) fun _ _ x => x
/-- the place of an address in an order -/
noncomputable def Rk (cls : Nat → Nat) (a : Addr) (i : Nat) : Prop := cls a = i
noncomputable def Rk.addr {cls : Nat → Nat} {a : Addr} {i : Nat} (_ : Rk cls a i) : Addr := a
theorem rk_ne {cls : Nat → Nat} {a b : Addr} {i j : Nat} (h1 : Rk cls a i) (h2 : Rk cls b j) (h : Nat.beq i j = false) : @Ne Nat a b := fun e => by
  have e' : cls a = cls b := congrArg cls e
  rw [h1, h2] at e'
  rw [e', Nat.beq_refl] at h
  cases h
noncomputable def clsOf (l : List Nat) (x : Nat) : Nat := l.countP fun a => Nat.ble a x
theorem clsOf_low {l : List Nat} {x : Nat} (h : ∀ a ∈ l, x < a) : clsOf l x = 0 := by
  unfold clsOf
  rw [List.countP_eq_zero]
  intro a ha
  have := h a ha
  simp; omega
theorem clsOf_top {l : List Nat} {x : Nat} (h : ∀ a ∈ l, a ≤ x) : clsOf l x = l.length := by
  unfold clsOf
  rw [List.countP_eq_length]
  intro a ha
  have := h a ha
  simpa using this
theorem clsOf_at {pre post : List Nat} {x : Nat} (h1 : ∀ a ∈ pre, a ≤ x) (h2 : ∀ a ∈ post, x < a) : clsOf (pre ++ x :: post) x = pre.length + 1 := by
  have a := clsOf_top h1
  have b := clsOf_low h2
  unfold clsOf at *
  rw [List.countP_append, List.countP_cons, a, b]
  simp
noncomputable def UpL : Nat → List Nat → Prop
  | _, [] => True
  | a, b :: l => a < b ∧ UpL b l
theorem UpL.lt : ∀ {l : List Nat} {a : Nat}, UpL a l → ∀ x ∈ l, a < x
  | [], _, _, _, h => by cases h
  | b :: l, a, ⟨h1, h2⟩, x, h => by
    rcases List.mem_cons.mp h with rfl | h
    · exact h1
    · exact Nat.lt_trans h1 (UpL.lt h2 x h)
/-- each of a rising list has its place -/
noncomputable def AllRk (cls : Nat → Nat) : List Nat → Nat → Prop
  | [], _ => True
  | a :: l, i => Rk cls a i ∧ AllRk cls l (i + 1)
theorem allRk_of : ∀ (post pre : List Nat) (a : Nat), (∀ x ∈ pre, x ≤ a) → UpL a post → AllRk (clsOf (pre ++ a :: post)) (a :: post) (pre.length + 1)
  | [], pre, a, h, _ => ⟨clsOf_at h (fun _ h => by cases h), trivial⟩
  | b :: post, pre, a, h, u => by
    refine ⟨clsOf_at h (fun x hx => UpL.lt u x hx), ?_⟩
    have ih := allRk_of post (pre ++ [a]) b (fun x hx => by
      rcases List.mem_append.mp hx with hx | hx
      · exact Nat.le_trans (h x hx) (Nat.le_of_lt u.1)
      · rw [List.mem_singleton.mp hx]; exact Nat.le_of_lt u.1) u.2
    simpa using ih
theorem ranks (a : Nat) (l : List Nat) (u : UpL a l) : ∃ cls : Nat → Nat, AllRk cls (a :: l) 1 ∧ (∀ x : Nat, x < a → Rk cls x 0) ∧ (∀ x : Nat, (a :: l).getLast (by simp) ≤ x → Rk cls x (l.length + 1)) := by
  refine ⟨clsOf (a :: l), allRk_of l [] a (fun _ h => by cases h) u, fun x hx => clsOf_low fun y hy => ?_, fun x hx => ?_⟩
  · rcases List.mem_cons.mp hy with rfl | hy
    · exact hx
    · exact Nat.lt_trans hx (UpL.lt u y hy)
  · have : ∀ y ∈ a :: l, y ≤ (a :: l).getLast (by simp) := by
      clear hx
      revert u
      revert a
      induction l with
      | nil => intro a _ y hy; simp at hy; simp [hy]
      | cons b l ih =>
        intro a u y hy
        rw [List.getLast_cons (by simp)]
        rcases List.mem_cons.mp hy with rfl | hy
        · exact Nat.le_trans (Nat.le_of_lt u.1) (ih b u.2 b (List.mem_cons_self ..))
        · exact ih b u.2 y hy
    have := clsOf_top (l := a :: l) (x := x) fun y hy => Nat.le_trans (this y hy) hx
    have e : clsOf (a :: l) x = l.length + 1 := by simpa using this
    exact e
theorem fr_to {h₀ h : Heap} {L : Addr} {m m' : Str → Option Value} (F : Fr h₀ L h m) (e : m = m') : Fr h₀ L h m' := e ▸ F
noncomputable def RTop (cls : Nat → Nat) (It n : Nat) : Prop := ∀ x : Nat, It < x → Rk cls x n
theorem news_drop2 {h₀ h : Heap} {L : Addr} {a b c : Addr × Obj} {r : List (Addr × Obj)} (N : News h₀ L h (a :: b :: c :: r)) : News h₀ L h (a :: b :: r) := fun q hq => N q (by
    rcases List.mem_cons.mp hq with e | hq
    · rw [e]; exact List.mem_cons_self ..
    rcases List.mem_cons.mp hq with e | hq
    · rw [e]; exact List.mem_cons_of_mem _ (List.mem_cons_self ..)
    · exact List.mem_cons_of_mem _ (List.mem_cons_of_mem _ (List.mem_cons_of_mem _ hq)))
theorem news_A {h₀ h : Heap} {L : Addr} {a0 a1 a2 a3 a4 a5 a6 a7 : Addr × Obj} {r : List (Addr × Obj)} (N : News h₀ L h (a0 :: a1 :: a2 :: a3 :: a4 :: a5 :: a6 :: a7 :: r)) : News h₀ L h (a0 :: a1 :: a2 :: a4 :: a5 :: a6 :: r) := fun q hq => N q (by
    simp only [List.mem_cons] at hq ⊢
    rcases hq with h | h | h | h | h | h | h <;> simp [h])
theorem rtop_of {cls : Nat → Nat} {It n T : Nat} {led : List (Addr × Obj)} {o : Obj} (h : RTop cls It n) (l : AllLt T led) (m : (It, o) ∈ led) : Rk cls T n := h T (kst_ltOf l _ m)
theorem off1_ne {X H : Addr} {o : Obj} : ∀ {led : List (Addr × Obj)}, LCg.Off1 H led → (X, o) ∈ led → @Ne Nat X H
  | [], _, m => by cases m
  | p :: led, h, m => by
    rcases List.mem_cons.mp m with e | m
    · subst e; exact h.1
    · exact off1_ne h.2 m
theorem tname_ne {a b : String} (h : (a == b) = false) : Value.type a ≠ Value.type b := fun e => by
  have := Value.type.inj e
  subst this
  simp at h
inductive Rem {α : Type} (p : α) : List α → List α → Prop
  | head (r : List α) : Rem p (p :: r) r
  | tail {q : α} {r r' : List α} : Rem p r r' → Rem p (q :: r) (q :: r')
theorem Rem.mem {α : Type} {p : α} : ∀ {l l' : List α}, Rem p l l' → p ∈ l ∧ ∀ q ∈ l', q ∈ l
  | _, _, .head r => ⟨List.mem_cons_self .., fun q hq => List.mem_cons_of_mem _ hq⟩
  | _, _, .tail h => ⟨List.mem_cons_of_mem _ h.mem.1, fun q hq => by
      rcases List.mem_cons.mp hq with e | hq
      · rw [e]; exact List.mem_cons_self ..
      · exact List.mem_cons_of_mem _ (h.mem.2 q hq)⟩
theorem subL_of : ∀ {a b : List (Addr × Obj)}, (∀ q ∈ a, q ∈ b) → SubL a b
  | [], _, _ => trivial
  | p :: a, _, h => ⟨h p (List.mem_cons_self ..), subL_of fun q hq => h q (List.mem_cons_of_mem _ hq)⟩
theorem end_rem {h₀ : Heap} {L : Addr} {p : Addr × Obj} {rest : (Str → Option Value) → List (Addr × Obj) → Prop} {s₁ : Shared} {h' : Heap} {tk : Nat} {m' : Str → Option Value} {all keep : List (Addr × Obj)} (F : Fr h₀ L h' m') (N : News h₀ L h' all) (R : Rem p all keep)
    (off : OffW [p] keep) (r : rest m' keep) : UnrEndW h₀ L s₁ [p] rest { s₁ with heap := h', toks := tk } :=
  UnrEndW.intro F N keep ⟨R.mem.1, trivial⟩ (subL_of R.mem.2) off r
theorem news_B {h₀ h : Heap} {L : Addr} {a0 a1 a2 a3 a4 a5 a6 a7 a8 a9 : Addr × Obj} {r : List (Addr × Obj)} (N : News h₀ L h (a0 :: a1 :: a2 :: a3 :: a4 :: a5 :: a6 :: a7 :: a8 :: a9 :: r)) : News h₀ L h (a0 :: a1 :: a2 :: a4 :: a5 :: a7 :: r) := fun q hq => N q (by
    simp only [List.mem_cons] at hq ⊢
    rcases hq with h | h | h | h | h | h | h <;> simp [h])
theorem gabc1 : Txt.item (Str.ofString "gabc") 1 = Str.ofString "a" := by decide +kernel
theorem gabc2 : Txt.item (Str.ofString "gabc") 2 = Str.ofString "b" := by decide +kernel
theorem gabc3 : Txt.item (Str.ofString "gabc") 3 = Str.ofString "c" := by decide +kernel
theorem news_sub {h₀ h : Heap} {L : Addr} {a b : List (Addr × Obj)} (N : News h₀ L h b) (S : SubL a b) : News h₀ L h a := fun p hp => N p (S.mem p hp)
theorem mod_two (c : Int) : c.fmod 2 = 0 ∨ c.fmod 2 = 1 := by
  have h1 := Int.fmod_nonneg_of_pos c (b := 2) (by omega)
  have h2 := Int.fmod_lt_of_pos c (b := 2) (by omega)
  omega
theorem ite_two {p : Prop} [Decidable p] {a b y : Int} (ha : a = 0 ∨ a = 1) (hb : b = 0 ∨ b = 1) (h : y = if p then a else b) : y = 0 ∨ y = 1 := by
  rw [h]; split <;> assumption
theorem parse_r {w0 w1 : Str} (h : RunPre w0 w1) (w : World) (x y : Str) (t : Tok) : Claim w 2 70 (x.length ≤ 200 ∧ y.length ≤ 20) [.str (replyV x y) t] (fun t => .str x t) := by
  intro prog p loose mean mg mb news dp un gd cn cs a ccd cl outer A₀ base h₀ L m s Q E B F X N T hk hp hd hu ret
  refine parse_c w (replyV x y) t prog p loose mean mg mb news dp un gd cn cs a ccd cl outer A₀ base h₀ L m s Q E B F X N T hk ⟨h.ps x y, h.pl x y hp.1 hp.2⟩ hd hu ?_
  rw [h.pv]; exact ret

theorem sub_at {prog : Program} {w : World} {A : Around} {E : Value → Shared → Prop} {s : Shared} {h₀ : Heap} {L : Addr} {D : Addr} {news : List (Addr × Obj)} {vs : List Value} {n : Nat} {k : Int} {v : Value} {u : Tok} {value slice : PySem.Expr} {Q : Value → Shared → Prop} (N : News h₀ L s.heap news) (hm : (D, listOf vs.toArray n) ∈ news) (h0 : 0 ≤ k ∧ k < 10) (e : vs[k.toNat]? = some v) (h : Q v s)
    (hs : subscripted slice false (.ref D) (.int k u) = operate [.ref D, .int k u] (getItem (.ref D) (.int k u)) := by with_unfolding_all rfl) :
    wpAny (model prog w) A (subscriptTail value slice (.ref D) (.int k u)) Q E s := sub_val N hm h0.1 (by have := h0.2; omega) e h hs
noncomputable def runOf : List Stmt × Scope := match (pwBody[27]? : Option Stmt) with
  | some (.FunctionDef _ _ b _ _ _ sc _ _ _) => (b, sc)
  | _ => ([], default)
noncomputable def turnA : List Stmt := match (runOf.1[2]? : Option Stmt) with
  | some (.For _ _ b _ _) => b
  | _ => []
noncomputable abbrev runEnv (L : Addr) : Env := envOfC (Str.ofString "_law_run") runOf.2 L 282 (.ref 281)
noncomputable abbrev mRun (Fs Bk C D : Addr) (f o : Int) (tf to : Tok) (mr : Str → Option Value) : Str → Option Value := fun y => if y = Str.ofString "first" then some (Value.ref Fs) else if y = Str.ofString "books" then some (Value.ref Bk) else if y = Str.ofString "cells" then some (Value.ref C) else if y = Str.ofString "false" then some (Value.int f tf) else if y = Str.ofString "order" then some (Value.int o to) else if y = Str.ofString "words" then some (Value.ref D) else mr y
noncomputable abbrev hdrs (w : World) (d l : Addr) (kt : Tok) : Addr × Obj := (d, dictOf [⟨PyData.keyHash w.params (Str.ofString "_headers"), .str (Str.ofString "_headers") kt, .ref l⟩] 1)
noncomputable abbrev tup2 (T : Addr) (a b : Str) (u v : Tok) : Addr × Obj := (T, { cls := Value.type "tuple", data := Data.seq ([.str a u, .str b v] : List Value).toArray })

theorem allLt_mem {T : Addr} {X : Addr} {o : Obj} : ∀ {led : List (Addr × Obj)}, AllLt T led → (X, o) ∈ led → @Ne Nat T X
  | _ :: _, l, m => by
    rcases List.mem_cons.mp m with e | m
    · have := l.1; rw [← e] at this; exact Nat.ne_of_gt this
    · exact allLt_mem l.2 m
theorem news_no2 {h₀ h : Heap} {L : Addr} {a b : Addr × Obj} {r : List (Addr × Obj)} (N : News h₀ L h (a :: b :: r)) : News h₀ L h (a :: r) := fun q hq => N q (by
  rcases List.mem_cons.mp hq with e | hq
  · rw [e]; exact .head _
  · exact .tail _ (.tail _ hq))
theorem mrun_back {Fs Bk C D : Addr} {f o : Int} {tf to : Tok} {mr : Str → Option Value} {a b : Option Value} : (fun y => if y = Str.ofString "heard" then a else if y = Str.ofString "sent" then b else mRun Fs Bk C D f o tf to mr y) = mRun Fs Bk C D f o tf to (fun y => if y = Str.ofString "heard" then a else if y = Str.ofString "sent" then b else mr y) := by
  funext y
  unfold mRun
  by_cases h1 : y = Str.ofString "heard"
  · subst h1; rfl
  · by_cases h2 : y = Str.ofString "sent"
    · subst h2; rfl
    · simp only [if_neg h1, if_neg h2]

theorem turn_a (w : World) (w0 w1 : Str) (hp9 : RunPre w0 w1) (f o i ci : Int) (ho : o = 0 ∨ o = 1) (hi : 0 ≤ i ∧ i < 10) (t0 t1 to tf ti ki kt : Tok) (D C Bk Fs I d l : Addr) (cD cC cB cF n : Nat) (cells bks fs vs : List Value)
    (hcell : cells[i.toNat]? = some (Value.int ci ki)) (hbk : bks[i.toNat]? = some (Value.ref I)) (hfs : fs.length ≤ 10) (hvs : vs.length ≤ 100) (oi : Obj) (hoi : oi.data = .cell (some (.int i ti))) (tail : List (Addr × Obj))
    (mD : (D, listOf [.str w0 t0, .str w1 t1].toArray cD) ∈ tail) (mC : (C, listOf cells.toArray cC) ∈ tail) (mB : (Bk, listOf bks.toArray cB) ∈ tail) (mI : (I, instObj 228 d) ∈ tail) (md : hdrs w d l kt ∈ tail)
    (hFs : ∀ p ∈ tail, p.1 ≠ Fs) (hl : ∀ p ∈ tail, p.1 ≠ l) (hne : @Ne Nat Fs l) :
  ∀ (prog : Program) (p : Program) (loose : List Str) (mean : ExcName → Option Value) (mg mb : Str → Option Value)
    (dp un : Nat) (gd : Option (List Code)) (cn : Str) (cs : Scope) (L0 a0 : Addr) (ccd : Value) (cl : List (Str × Addr)) (outer : List Env) (base h₀ : Heap) (L : Addr) (mr : Str → Option Value) (s : Shared) (Q : Flow → Shared → Prop) (E : Value → Shared → Prop),
    (L + 1, oi) ∈ tail → Below (ktrTop dp un gd cn cs L0 a0 ccd cl outer) base (envX cn cs L0 a0 ccd cl :: outer) h₀ → Fr h₀ L s.heap (mRun Fs Bk C D f o tf to mr) → (hd.heap_39 w.params).In h₀ →
    News h₀ L s.heap ((Fs, listOf fs.toArray cF) :: (l, listOf vs.toArray n) :: tail) → Top p loose mean mg mb h₀ →
    dp + 20 < recursionLimit → un + 2000 < cLine →
    (∀ (T : Addr) (x : Int) (tx u9 v9 : Tok) (c9 : Nat) (mr' : Str → Option Value) (h' : Heap) (tk' : Nat), x = (if f = 0 then ci.fmod 2 else o) → Fr h₀ L h' (mRun Fs Bk C D f o tf to mr') →
      News h₀ L h' (tup2 T (pickS x w0 w1) (Str.ofString "g") u9 v9 :: (Fs, listOf (fs ++ [Value.int x tx]).toArray c9) :: (l, listOf (vs ++ [Value.ref T]).toArray (n + 1)) :: tail) → AllLt T ((Fs, listOf fs.toArray cF) :: (l, listOf vs.toArray n) :: tail) → Q .next { s with heap := h', toks := tk' }) →
      wpAny (model prog w) ((ktrTop dp un gd cn cs L0 a0 ccd cl outer).deeper (runEnv L)) (execs turnA (runEnv L)) Q E s := by
  k_with_none
  k_with "k_room" => ktr_room
  k_with "k_mem" => first | assumption | with_reducible exact List.Mem.head _ | (refine' List.Mem.tail _ ?_; k_mem)
  k_with "eval IfExp" => ((with_reducible show wpAny _ _ (eval (Expr.IfExp _ _ _ _) _) _ _ _); refine Stop.mk ?_)
  k_with "subscriptTail Name Name ref int" => ((with_reducible show wpAny _ _ (subscriptTail _ _ (Value.ref _) (Value.int _ _)) _ _ _); k_dflt (refine' sub_at ?k1 ?k2 ?k4 ?k6 ?_ ?k7; (case k1 => k_asm); (case k2 => k_mem); (case k4 => assumption); (case k6 => assumption); (case k7 => with_unfolding_all rfl); k_whole))
  k_with "subscriptTail Name Constant ref int" => ((with_reducible show wpAny _ _ (subscriptTail _ _ (Value.ref _) (Value.int _ _)) _ _ _); k_dflt (refine' sub_val ?k1 ?k2 ?k4 ?k5 ?k6 ?_ ?k7; (case k1 => k_asm); (case k2 => k_mem); (case k4 => decide); (case k5 => decide); (case k6 => with_unfolding_all rfl); (case k7 => with_unfolding_all rfl); k_whole))
  k_with "subscriptTail Name IfExp ref int" => ((with_reducible show wpAny _ _ (subscriptTail _ _ (Value.ref _) (Value.int _ _)) _ _ _); k_dflt (refine' sub_two ?k1 ?k2 ?k4 ?_ ?k7; (case k1 => k_asm); (case k2 => k_mem); (case k4 => assumption); (case k7 => with_unfolding_all rfl); k_whole); intro _)
  k_with "subscriptTail Name Subscript ref int" => ((with_reducible show wpAny _ _ (subscriptTail _ _ (Value.ref _) (Value.int _ _)) _ _ _); k_dflt (refine' sub_two ?k1 ?k2 ?k4 ?_ ?k7; (case k1 => k_asm); (case k2 => k_mem); (case k4 => assumption); (case k7 => with_unfolding_all rfl); k_whole); intro _)
  k_with "eval Name" => ((with_reducible show wpAny _ _ (eval (Expr.Name (Str.ofString "i") _) _) _ _ _); k_dflt (refine nameX_C (o := oi) (c := L + 1) (by k_asm) (by with_unfolding_all rfl) (by repeat (first | exact mi | apply List.Mem.tail)) hoi ?_))
  k_with "call ref" => (k_here; (with_reducible show wpAny _ _ (call (Value.ref 253) _) _ _ _); (try dsimp only); k_dflt (refine' use_claim (spoilt_c _ _ _ _ _) ?k1 ?k2 ?k3 ?k4 ?k5 ?kK ?kp ?kd ?ku ?_; (case k1 => k_asm); (case k2 => k_asm); (case k3 => k_asm); (case k4 => k_asm); (case k5 => k_asm); (case kK => first | exact rfl | assumption); (case kp => exact RunPre.len (by assumption)); (case kd => ktr_room); (case ku => ktr_units)); intro _ _ _ _ _; (try dsimp only); (try k_fold))
  k_with "call ref" => (k_here; (with_reducible show wpAny _ _ (call (Value.ref 265) _) _ _ _); (try dsimp only); k_dflt (refine' use_claim (reply_c _ _ _ _ _) ?k1 ?k2 ?k3 ?k4 ?k5 ?kK ?kp ?kd ?ku ?_; (case k1 => k_asm); (case k2 => k_asm); (case k3 => k_asm); (case k4 => k_asm); (case k5 => k_asm); (case kK => first | exact rfl | assumption); (case kp => first | with_reducible exact RunPre.spl (by assumption) (by assumption) | with_reducible exact RunPre.rpl (by assumption) (by assumption) (by decide +kernel)); (case kd => ktr_room); (case ku => ktr_units)); intro _ _ _ _ _; (try dsimp only); (try k_fold))
  k_with "call ref" => (k_here; (with_reducible show wpAny _ _ (call (Value.ref 277) _) _ _ _); (try dsimp only); k_dflt (refine' heard_c _ _ _ _ _ _ _ _ _ _ _ _ ?hp _ _ _ _ _ _ _ _ _ _ _ _ _ _ _ _ _ _ _ _ _ _ _ _ ?k1 ?k2 ?k3 ?k4 ?k5 ?kK ?km ?kd ?ku ?_; (case k1 => k_asm); (case k2 => k_asm); (case k3 => k_asm); (case k4 => k_asm); (case k5 => k_asm); (case kK => first | exact rfl | assumption); (case km => k_mem); (case hp => exact RunPre.hp (by assumption) _ _ (by assumption)); (case kd => ktr_room); (case ku => ktr_units)); intro _ _ _ _ _ _ _ _; (try dsimp only); (try k_fold))
  k_with "call ref" => (k_here; (with_reducible show wpAny _ _ (call (Value.ref 225) _) _ _ _); (try dsimp only); k_dflt (refine' add_u ?n1 ?n2 ?k1 ?k2 ?k3 ?k4 ?k5 ?kK ?m1 ?m2 ?m3 ?m4 ?kd ?ku ?_; (case k1 => k_asm); (case k2 => k_asm); (case k3 => k_asm); (case k4 => k_asm); (case k5 => k_asm); (case kK => first | exact rfl | assumption); (case m1 => k_mem); (case m2 => k_mem); (case m3 => exact UpdF.tail (Ne.symm (off1_ne (by assumption) (List.Mem.tail _ (List.Mem.head _)))) (UpdF.tail hne (UpdF.head hl))); (case m4 => assumption); (case n1 => with_reducible exact RunPre.nam (by assumption)); (case n2 => with_reducible exact teller_g); (case kd => ktr_room); (case ku => ktr_units)); intro T9 _ _ _ _ N9 l9; (try dsimp only at N9); (try dsimp only); (try k_fold))
  k_with "call builtin:list.append" => (k_here; (with_reducible show wpAny _ _ (call (Value.builtin _) [Value.ref _, _]) _ _ _); k_dflt (refine' append_L ?k0 ?k1 ?k2 ?k3 ?_; (case k1 => k_asm); (case k2 => k_asm); (case k3 => exact Upd.tail (allLt_mem l9 (List.Mem.tail _ (List.Mem.head _))) (Upd.tail (Ne.symm (off1_ne (by assumption) (List.Mem.head _))) (Upd.head (List.forall_mem_cons.mpr ⟨Ne.symm hne, hFs⟩)))); (case k0 => omega); k_whole); intro h8 F8 N8)
  intro prog p loose mean mg mb dp un gd cn cs L0 a0 ccd cl outer base h₀ L mr s Q E mi hB hF hX hN hT hdp hun hret
  show wpAny _ (Around.deeper _ (envOfC _ (Scope.mk _ _ _ _ _) _ _ _)) (execs [_, _, _, _] (envOfC _ (Scope.mk _ _ _ _ _) _ _ _)) _ _ _
  k_steps
  unfold Stop
  with_reducible refine ifexp_cut (fun y => y = if f = 0 then ci.fmod 2 else o) ?_ ?_
  · with_reducible refine IfExp_ ?_
    k_steps
    · exact ⟨_, _, _, rfl, by rw [if_pos (by assumption)], rfl⟩
    · exact ⟨_, _, _, rfl, by rw [if_neg (by assumption)], rfl⟩
  rintro x tx kx hx
  have hb1 := ite_two (mod_two ci) ho hx
  dsimp only
  k_steps
  exact hret T9 x _ _ _ _ _ _ _ hx (fr_to F8 mrun_back) (news_no2 N8) l9.2
end
end Mine
end
section
open PySem PySem.W PySem.Spec PySem.Calls PyProof.Rows
set_option maxHeartbeats 8000000
namespace Mine
theorem rs_TB : True := by
  k_with_none
  exact trivial
section
noncomputable def turnB : List Stmt := match (runOf.1[3]? : Option Stmt) with
  | some (.For _ _ c _ _) => match (c[1]? : Option Stmt) with
    | some (.For _ _ b _ _) => b
    | _ => []
  | _ => []
noncomputable abbrev mRunB (Oth : Addr) (n : Int) (tn : Tok) (Fs Bk C D : Addr) (f o : Int) (tf to : Tok) (mr : Str → Option Value) : Str → Option Value := fun y => if y = Str.ofString "n" then some (Value.int n tn) else if y = Str.ofString "others" then some (Value.ref Oth) else mRun Fs Bk C D f o tf to mr y
theorem mrun_self {Fs Bk C D : Addr} {f o : Int} {tf to : Tok} {m : Str → Option Value} (h1 : m (Str.ofString "first") = some (.ref Fs)) (h2 : m (Str.ofString "books") = some (.ref Bk)) (h3 : m (Str.ofString "cells") = some (.ref C)) (h4 : m (Str.ofString "false") = some (.int f tf)) (h5 : m (Str.ofString "order") = some (.int o to)) (h6 : m (Str.ofString "words") = some (.ref D)) : m = mRun Fs Bk C D f o tf to m := by
  funext y
  unfold mRun
  repeat' split
  all_goals first | (subst_vars; assumption) | rfl
theorem mrunB_self {Oth : Addr} {n : Int} {tn : Tok} {Fs Bk C D : Addr} {f o : Int} {tf to : Tok} {m : Str → Option Value} (a1 : m (Str.ofString "n") = some (.int n tn)) (a2 : m (Str.ofString "others") = some (.ref Oth)) (h1 : m (Str.ofString "first") = some (.ref Fs)) (h2 : m (Str.ofString "books") = some (.ref Bk)) (h3 : m (Str.ofString "cells") = some (.ref C)) (h4 : m (Str.ofString "false") = some (.int f tf)) (h5 : m (Str.ofString "order") = some (.int o to)) (h6 : m (Str.ofString "words") = some (.ref D)) : m = mRunB Oth n tn Fs Bk C D f o tf to m := by
  funext y
  unfold mRunB
  repeat' split
  all_goals first | (subst_vars; assumption) | exact congrFun (mrun_self h1 h2 h3 h4 h5 h6) _
theorem fr_run {h₀ h : Heap} {L Fs Bk C D : Addr} {f o : Int} {tf to : Tok} {m : Str → Option Value} (F : Fr h₀ L h m) (h1 : m (Str.ofString "first") = some (.ref Fs)) (h2 : m (Str.ofString "books") = some (.ref Bk)) (h3 : m (Str.ofString "cells") = some (.ref C)) (h4 : m (Str.ofString "false") = some (.int f tf)) (h5 : m (Str.ofString "order") = some (.int o to)) (h6 : m (Str.ofString "words") = some (.ref D)) : Fr h₀ L h (mRun Fs Bk C D f o tf to m) := fr_to F (mrun_self h1 h2 h3 h4 h5 h6)
theorem fr_runB {h₀ h : Heap} {L Oth Fs Bk C D : Addr} {f o n : Int} {tf to tn : Tok} {m : Str → Option Value} (F : Fr h₀ L h m) (a1 : m (Str.ofString "n") = some (.int n tn)) (a2 : m (Str.ofString "others") = some (.ref Oth)) (h1 : m (Str.ofString "first") = some (.ref Fs)) (h2 : m (Str.ofString "books") = some (.ref Bk)) (h3 : m (Str.ofString "cells") = some (.ref C)) (h4 : m (Str.ofString "false") = some (.int f tf)) (h5 : m (Str.ofString "order") = some (.int o to)) (h6 : m (Str.ofString "words") = some (.ref D)) : Fr h₀ L h (mRunB Oth n tn Fs Bk C D f o tf to m) := fr_to F (mrunB_self a1 a2 h1 h2 h3 h4 h5 h6)
theorem turn_b (w : World) (w0 w1 : Str) (hp9 : RunPre w0 w1) (f o i n ci xi j : Int) (hx9 : xi = 0 ∨ xi = 1) (hi : 0 ≤ i ∧ i < 10) (hi4 : -4 ≤ i ∧ i < 4) (hn : 0 ≤ n ∧ n < 10) (hin : 0 ≤ 2 + 2 * i + n ∧ 2 + 2 * i + n < 10) (hj : 0 ≤ j ∧ j < 10) (t0 t1 to tf ti tn tx tj ki kt : Tok) (D C Bk Fs Oth I d l : Addr) (cD cC cB cF cO k : Nat) (cells bks fs ots vs : List Value)
    (hte : Teller (Txt.item (Str.ofString "gabc") i)) (hcell : cells[(2 + 2 * i + n).toNat]? = some (Value.int ci ki)) (hfst : fs[i.toNat]? = some (Value.int xi tx)) (hoth : ots[n.toNat]? = some (Value.int j tj)) (hbk : bks[j.toNat]? = some (Value.ref I)) (hvs : vs.length ≤ 100) (oi : Obj) (hoi : oi.data = .cell (some (.int i ti))) (tail : List (Addr × Obj))
    (mD : (D, listOf [.str w0 t0, .str w1 t1].toArray cD) ∈ tail) (mC : (C, listOf cells.toArray cC) ∈ tail) (mB : (Bk, listOf bks.toArray cB) ∈ tail) (mF : (Fs, listOf fs.toArray cF) ∈ tail) (mO : (Oth, listOf ots.toArray cO) ∈ tail) (mI : (I, instObj 228 d) ∈ tail) (md : hdrs w d l kt ∈ tail)
    (hl : ∀ p ∈ tail, p.1 ≠ l) :
  ∀ (prog : Program) (p : Program) (loose : List Str) (mean : ExcName → Option Value) (mg mb : Str → Option Value)
    (dp un : Nat) (gd : Option (List Code)) (cn : Str) (cs : Scope) (L0 a0 : Addr) (ccd : Value) (cl : List (Str × Addr)) (outer : List Env) (base h₀ : Heap) (L : Addr) (mr : Str → Option Value) (s : Shared) (Q : Flow → Shared → Prop) (E : Value → Shared → Prop),
    (L + 1, oi) ∈ tail → Below (ktrTop dp un gd cn cs L0 a0 ccd cl outer) base (envX cn cs L0 a0 ccd cl :: outer) h₀ → Fr h₀ L s.heap (mRunB Oth n tn Fs Bk C D f o tf to mr) → (hd.heap_39 w.params).In h₀ →
    News h₀ L s.heap ((l, listOf vs.toArray k) :: tail) → Top p loose mean mg mb h₀ →
    dp + 20 < recursionLimit → un + 2000 < cLine →
    (∀ (T : Addr) (y : Int) (u9 v9 : Tok) (mr' : Str → Option Value) (h' : Heap) (tk' : Nat), y = (if f = i then ci.fmod 2 else xi) → Fr h₀ L h' (mRunB Oth n tn Fs Bk C D f o tf to mr') →
      News h₀ L h' (tup2 T (Txt.upper (pickS y w0 w1)) (Txt.item (Str.ofString "gabc") i) u9 v9 :: (l, listOf (vs ++ [Value.ref T]).toArray (k + 1)) :: tail) → AllLt T ((l, listOf vs.toArray k) :: tail) → Q .next { s with heap := h', toks := tk' }) →
      wpAny (model prog w) ((ktrTop dp un gd cn cs L0 a0 ccd cl outer).deeper (runEnv L)) (execs turnB (runEnv L)) Q E s := by
  k_with_none
  k_with "k_room" => ktr_room
  k_with "k_mem" => first | assumption | with_reducible exact List.Mem.head _ | (refine' List.Mem.tail _ ?_; k_mem)
  k_with "eval IfExp" => ((with_reducible show wpAny _ _ (eval (Expr.IfExp _ _ _ _) _) _ _ _); refine Stop.mk ?_)
  k_with "subscriptTail Name Name ref int" => ((with_reducible show wpAny _ _ (subscriptTail _ _ (Value.ref _) (Value.int _ _)) _ _ _); k_dflt (refine' sub_at ?k1 ?k2 ?k4 ?k6 ?_ ?k7; (case k1 => k_asm); (case k2 => k_mem); (case k4 => assumption); (case k6 => assumption); (case k7 => with_unfolding_all rfl); k_whole))
  k_with "subscriptTail Name Constant ref int" => ((with_reducible show wpAny _ _ (subscriptTail _ _ (Value.ref _) (Value.int _ _)) _ _ _); k_dflt (refine' sub_val ?k1 ?k2 ?k4 ?k5 ?k6 ?_ ?k7; (case k1 => k_asm); (case k2 => k_mem); (case k4 => decide); (case k5 => decide); (case k6 => with_unfolding_all rfl); (case k7 => with_unfolding_all rfl); k_whole))
  k_with "subscriptTail Name IfExp ref int" => ((with_reducible show wpAny _ _ (subscriptTail _ _ (Value.ref _) (Value.int _ _)) _ _ _); k_dflt (refine' sub_two ?k1 ?k2 ?k4 ?_ ?k7; (case k1 => k_asm); (case k2 => k_mem); (case k4 => assumption); (case k7 => with_unfolding_all rfl); k_whole); intro _)
  k_with "subscriptTail Name Subscript ref int" => ((with_reducible show wpAny _ _ (subscriptTail _ _ (Value.ref _) (Value.int _ _)) _ _ _); k_dflt (refine' sub_at ?k1 ?k2 ?k4 ?k6 ?_ ?k7; (case k1 => k_asm); (case k2 => k_mem); (case k4 => assumption); (case k6 => assumption); (case k7 => with_unfolding_all rfl); k_whole))
  k_with "subscriptTail Name Subscript ref int" => ((with_reducible show wpAny _ _ (subscriptTail _ _ (Value.ref _) (Value.int _ _)) _ _ _); k_dflt (refine' sub_two ?k1 ?k2 ?k4 ?_ ?k7; (case k1 => k_asm); (case k2 => k_mem); (case k4 => assumption); (case k7 => with_unfolding_all rfl); k_whole); intro _)
  k_with "subscriptTail Name BinOp ref int" => ((with_reducible show wpAny _ _ (subscriptTail _ _ (Value.ref _) (Value.int _ _)) _ _ _); k_dflt (refine' sub_at ?k1 ?k2 ?k4 ?k6 ?_ ?k7; (case k1 => k_asm); (case k2 => k_mem); (case k4 => assumption); (case k6 => assumption); (case k7 => with_unfolding_all rfl); k_whole))
  k_with "subscriptTail Constant Name str int" => (k_dflt (refine KXi.item (n := 4) (by decide +kernel) (by omega) (by omega) (by decide) ?_); intro hlg9)
  k_with "call ref" => (k_here; (with_reducible show wpAny _ _ (call (Value.ref 70) _) _ _ _); (try dsimp only); k_dflt (refine' use_claim (parse_r (by assumption) _ _ _ _) ?k1 ?k2 ?k3 ?k4 ?k5 ?kK ?kp ?kd ?ku ?_; (case k1 => k_asm); (case k2 => k_asm); (case k3 => k_asm); (case k4 => k_asm); (case k5 => k_asm); (case kK => first | exact rfl | assumption); (case kp => with_reducible exact RunPre.rpl (by assumption) (by assumption) (by omega)); (case kd => ktr_room); (case ku => ktr_units)); intro _ _ _ _ _; (try dsimp only); (try k_fold))
  k_with "eval Name" => ((with_reducible show wpAny _ _ (eval (Expr.Name (Str.ofString "i") _) _) _ _ _); k_dflt (refine nameX_C (o := oi) (c := L + 1) (by k_asm) (by with_unfolding_all rfl) (by repeat (first | exact mi | apply List.Mem.tail)) hoi ?_))
  k_with "call ref" => (k_here; (with_reducible show wpAny _ _ (call (Value.ref 253) _) _ _ _); (try dsimp only); k_dflt (refine' use_claim (spoilt_c _ _ _ _ _) ?k1 ?k2 ?k3 ?k4 ?k5 ?kK ?kp ?kd ?ku ?_; (case k1 => k_asm); (case k2 => k_asm); (case k3 => k_asm); (case k4 => k_asm); (case k5 => k_asm); (case kK => first | exact rfl | assumption); (case kp => exact RunPre.len (by assumption)); (case kd => ktr_room); (case ku => ktr_units)); intro _ _ _ _ _; (try dsimp only); (try k_fold))
  k_with "call ref" => (k_here; (with_reducible show wpAny _ _ (call (Value.ref 265) _) _ _ _); (try dsimp only); k_dflt (refine' use_claim (reply_c _ _ _ _ _) ?k1 ?k2 ?k3 ?k4 ?k5 ?kK ?kp ?kd ?ku ?_; (case k1 => k_asm); (case k2 => k_asm); (case k3 => k_asm); (case k4 => k_asm); (case k5 => k_asm); (case kK => first | exact rfl | assumption); (case kp => first | with_reducible exact RunPre.spl (by assumption) (by assumption) | with_reducible exact RunPre.rpl (by assumption) (by assumption) (by omega)); (case kd => ktr_room); (case ku => ktr_units)); intro _ _ _ _ _; (try dsimp only); (try k_fold))
  k_with "call ref" => (k_here; (with_reducible show wpAny _ _ (call (Value.ref 277) _) _ _ _); (try dsimp only); k_dflt (refine' heard_c _ _ _ _ _ _ _ _ _ _ _ _ ?hp _ _ _ _ _ _ _ _ _ _ _ _ _ _ _ _ _ _ _ _ _ _ _ _ ?k1 ?k2 ?k3 ?k4 ?k5 ?kK ?km ?kd ?ku ?_; (case k1 => k_asm); (case k2 => k_asm); (case k3 => k_asm); (case k4 => k_asm); (case k5 => k_asm); (case kK => first | exact rfl | assumption); (case km => k_mem); (case hp => exact RunPre.hp (by assumption) _ _ (by assumption)); (case kd => ktr_room); (case ku => ktr_units)); intro _ _ _ _ _ _ _ _; (try dsimp only); (try k_fold))
  k_with "call ref" => (k_here; (with_reducible show wpAny _ _ (call (Value.ref 225) _) _ _ _); (try dsimp only); k_dflt (refine' add_u ?n1 ?n2 ?k1 ?k2 ?k3 ?k4 ?k5 ?kK ?m1 ?m2 ?m3 ?m4 ?kd ?ku ?_; (case k1 => k_asm); (case k2 => k_asm); (case k3 => k_asm); (case k4 => k_asm); (case k5 => k_asm); (case kK => first | exact rfl | assumption); (case m1 => k_mem); (case m2 => k_mem); (case m3 => exact UpdF.tail (Ne.symm (off1_ne (by assumption) (List.Mem.head _))) (UpdF.head hl)); (case m4 => assumption); (case n1 => with_reducible exact RunPre.unam (by assumption)); (case n2 => exact hte); (case kd => ktr_room); (case ku => ktr_units)); intro T9 _ h8 _ F8 N9 l9; (try dsimp only at N9); (try dsimp only); (try k_fold))
  intro prog p loose mean mg mb dp un gd cn cs L0 a0 ccd cl outer base h₀ L mr s Q E mi hB hF hX hN hT hdp hun hret
  show wpAny _ (Around.deeper _ (envOfC _ (Scope.mk _ _ _ _ _) _ _ _)) (execs [_, _, _, _, _] (envOfC _ (Scope.mk _ _ _ _ _) _ _ _)) _ _ _
  k_steps
  unfold Stop
  with_reducible refine ifexp_cut (fun y => y = if f = i then ci.fmod 2 else xi) ?_ ?_
  · with_reducible refine IfExp_ ?_
    k_steps
    · exact ⟨_, _, _, rfl, by rw [if_pos (by assumption)], rfl⟩
    · exact ⟨_, _, _, rfl, by rw [if_neg (by assumption)], rfl⟩
  rintro y ty ky hy
  have hb1 := ite_two (mod_two ci) hx9 hy
  have hL9 : (pickS y w0 w1).length ≤ 20 := (RunPre.len hp9).2
  dsimp only
  k_steps
  exact hret T9 y _ _ _ _ _ hy (fr_to F8 (mrunB_self (by with_unfolding_all rfl) (by with_unfolding_all rfl) (by with_unfolding_all rfl) (by with_unfolding_all rfl) (by with_unfolding_all rfl) (by with_unfolding_all rfl) (by with_unfolding_all rfl) (by with_unfolding_all rfl))) (news_no2 N9) l9.2
end
end Mine
end
section
open PySem PySem.W PySem.Spec PySem.Calls PyProof.Rows
set_option maxHeartbeats 8000000
namespace Mine
theorem rs_TC : True := by
  k_with_none
  exact trivial
section
noncomputable def othersSt : Stmt := match (runOf.1[3]? : Option Stmt) with
  | some (.For _ _ c _ _) => match (c[0]? : Option Stmt) with
    | some s => s
    | none => .Pass default
  | _ => .Pass default
theorem news_no23 {h₀ h : Heap} {L : Addr} {a b c : Addr × Obj} {r : List (Addr × Obj)} (N : News h₀ L h (a :: b :: c :: r)) : News h₀ L h (a :: r) := news_no2 (news_no2 N)
theorem others_c (w : World) (i a b : Int) (hi : (i = 1 ∧ a = 2 ∧ b = 3) ∨ (i = 2 ∧ a = 1 ∧ b = 3) ∨ (i = 3 ∧ a = 1 ∧ b = 2)) (ti : Tok) (oi : Obj) (hoi : oi.data = .cell (some (.int i ti))) :
  ∀ (prog : Program) (p : Program) (loose : List Str) (mean : ExcName → Option Value) (mg mb : Str → Option Value)
    (dp un : Nat) (gd : Option (List Code)) (cn : Str) (cs : Scope) (L0 a0 : Addr) (ccd : Value) (cl : List (Str × Addr)) (outer : List Env) (base h₀ : Heap) (L : Addr) (m : Str → Option Value) (led : List (Addr × Obj)) (s : Shared) (Q : Flow → Shared → Prop) (E : Value → Shared → Prop),
    (L + 1, oi) ∈ led → Below (ktrTop dp un gd cn cs L0 a0 ccd cl outer) base (envX cn cs L0 a0 ccd cl :: outer) h₀ → Fr h₀ L s.heap m → (hd.heap_39 w.params).In h₀ →
    News h₀ L s.heap led → Top p loose mean mg mb h₀ → dp + 20 < recursionLimit → un + 2000 < cLine →
    (∀ (Oth : Addr) (u1 u2 : Tok) (h' : Heap) (tk' : Nat), Fr h₀ L h' (fun y => if y = Str.ofString "others" then some (Value.ref Oth) else m y) →
      News h₀ L h' ((Oth, LCg.lst [Value.int a u1, Value.int b u2]) :: led) → LCg.Off1 Oth led → Q .next { s with heap := h', toks := tk' }) →
      wpAny (model prog w) ((ktrTop dp un gd cn cs L0 a0 ccd cl outer).deeper (runEnv L)) (exec othersSt (runEnv L)) Q E s := by
  k_with_none
  k_with "k_room" => ktr_room
  k_with "lcg_off" => first | assumption | ((simp only [LCg.Off3, and_true]); assumption) | (refine off_new (by assumption) (by assumption) (by assumption) (by k_mem) (by k_mem) (by k_mem) ?_; first | assumption | ((simp only [LCg.Off3, and_true]); assumption))
  k_with "ktu_off" => first
  | exact Or.inl (rk_ne (by with_reducible assumption) (by with_reducible assumption) (by rfl))
  | exact Or.inr (ktu_clsNe (by with_reducible assumption) (tname_ne (by rfl)))
  | exact Or.inl (by with_reducible assumption)
  | exact Or.inl (Ne.symm (by with_reducible assumption))
  k_with "my rem" => first | refine' Rem.head _ | (refine' Rem.tail ?a; (case a => walk_at "my rem"))
  k_with "UnrEndW" => (k_dflt (refine' end_rem ?F ?N ?R ?c ⟨?d, ?_⟩; (case F => k_asm); (case N => k_asm); (case R => walk_at "my rem"); (case c => ktu_offL); (case d => k_subL)))
  k_with "CompSrc" => (k_dflt (refine LCg.CompSrc.ledger (by rfl) (by k_asm) (by k_asm) (by k_mem) (by exact Nat.le_of_ble_eq_true rfl) ?_; intro _; (try dsimp only); lcg_lit; (try dsimp only)))
  k_with "CompSrc" => (k_dflt (refine LCg.CompSrc.range (by rfl) (by k_asm) (by k_asm) (by assumption) (by first | decide | rfl) (by first | rfl | decide) (by exact Nat.le_of_ble_eq_true rfl) ?_; intro _; (try dsimp only); lcg_lit; (try dsimp only)))
  k_with "exec Assign cons ListComp" => ((with_reducible show wpAny _ _ (exec (Stmt.Assign _ (Expr.ListComp _ [⟨_, Expr.Tuple _ _ _, [_], _⟩] _ _) _) _) _ _ _); k_dflt (refine comp_tupA (by k_asm) (by rfl) (by with_unfolding_all rfl) (by with_unfolding_all rfl) (by decide) (by rfl) (by decide) (by rfl) (by rfl) (by rfl) ?_))
  k_with "TupSrc" => (k_dflt (refine TupSrc.mk (by rfl) (by k_asm) (by k_asm) (by k_mem) (by exact Nat.le_of_ble_eq_true rfl) ?_; intro _; lct_lit))
  k_with "CompEnd" => (k_dflt (refine LCg.CompEnd.intro (by assumption) (by assumption) _ (fun p hp => hp) (by first | assumption | (simp only [LCg.Off3, and_true]; assumption)) (by first | (show _ ∈ _; k_mem) | lcg_src) ?_))
  k_with "k_all" => first | exact List.forall_mem_nil _ | exact tbn_neAll (by assumption) | (refine' List.forall_mem_cons.mpr ⟨?a, ?b⟩; (case a => k_ne); (case b => k_all))
  intro prog p loose mean mg mb dp un gd cn cs L0 a0 ccd cl outer base h₀ L m led s Q E mi hB hF hX hN hT hdp hun hret
  have hN1 := news_front hN mi
  rcases hi with ⟨rfl, rfl, rfl⟩ | ⟨rfl, rfl, rfl⟩ | ⟨rfl, rfl, rfl⟩
  all_goals (
    show wpAny _ (Around.deeper _ (envOfC _ (Scope.mk _ _ _ _ _) _ _ _)) (exec (Stmt.Assign _ (Expr.ListComp _ _ _ _) _) (envOfC _ (Scope.mk _ _ _ _ _) _ _ _)) _ _ _
    k_steps
    rename Fr _ _ _ _ => F8
    rename News _ _ _ _ => N8
    rename _ ∧ _ ∧ LCg.Off1 _ led => o8
    exact hret _ _ _ _ _ F8 (news_no23 N8) o8.2.2)
end
end Mine
end
end
section
open PySem PySem.W PySem.Spec PySem.Calls PyProof.Rows
set_option maxHeartbeats 8000000
namespace Mine
theorem rs_N4 : True := by
  k_with_none
  exact trivial
local macro_rules | `(tactic| k_lt $h:ident) => `(tactic| replace $h := allLt_of $h)
local macro_rules | `(tactic| ktu_offL) => `(tactic| k_extra "ktu_offL")
local macro_rules | `(tactic| k_updF) => `(tactic| k_extra "k_updF")
section
theorem ltm {T X : Addr} {o : Obj} {led : List (Addr × Obj)} (l : AllLt T led) (m : (X, o) ∈ led) : @LT.lt Nat _ X T := kst_ltOf l _ m
theorem mem_obj {a : Addr} {o o' : Obj} {l : List (Addr × Obj)} (e : o = o') (h : (a, o') ∈ l) : (a, o) ∈ l := e ▸ h
theorem at_of {l c : List Value} {n : Nat} {v : Value} (e : l = c) (h : l[n]? = some v) : c[n]? = some v := e ▸ h
theorem upL_cons {a b : Nat} {l : List Nat} (h : a < b) (r : UpL b l) : UpL a (b :: l) := ⟨h, r⟩
theorem allRk_at {cls : Nat → Nat} {a : Addr} : ∀ {l : List Nat} {i : Nat} (_ : AllRk cls l i) (k : Nat) (_ : l[k]? = some a), Rk cls a (i + k)
  | [], _, _, _, e => by simp at e
  | b :: l, i, h, 0, e => by
    have : b = a := by simpa using e
    subst this; exact h.1
  | b :: l, i, h, k + 1, e => by
    have := allRk_at h.2 k (by simpa using e)
    have e2 : i + 1 + k = i + (k + 1) := by omega
    rw [← e2]; exact this
theorem offW_rk {cls : Nat → Nat} {a x : Addr} {i j : Nat} {o ox : Obj} {r : List (Addr × Obj)} (h1 : Rk cls x j) (h2 : Rk cls a i) (e : Nat.beq j i = false) (t : OffW [(a, o)] r) : OffW [(a, o)] ((x, ox) :: r) := ⟨⟨.inl (rk_ne h1 h2 e), trivial⟩, t⟩
theorem offW_ne {a x : Addr} {o ox : Obj} {r : List (Addr × Obj)} (h : @Ne Nat x a) (t : OffW [(a, o)] r) : OffW [(a, o)] ((x, ox) :: r) := ⟨⟨.inl h, trivial⟩, t⟩
theorem offW_cls {a x : Addr} {o ox : Obj} {r : List (Addr × Obj)} (h : ox.cls ≠ o.cls) (t : OffW [(a, o)] r) : OffW [(a, o)] ((x, ox) :: r) := ⟨⟨.inr h, trivial⟩, t⟩
theorem updF_rk {cls : Nat → Nat} {a x : Addr} {i j : Nat} {o ox : Obj} {r : List (Addr × Obj)} {g : Obj → List (Addr × Obj)} (h1 : Rk cls x j) (h2 : Rk cls a i) (e : Nat.beq j i = false) (u : UpdF a o r g) : UpdF a o ((x, ox) :: r) (fun o' => (x, ox) :: g o') := .tail (rk_ne h1 h2 e) u
theorem run_c (w : World) (w0 w1 : Str) (f o : Int) (c0 c1 c2 c3 c4 c5 c6 c7 c8 c9 : Int) (t0 t1 to tf k0 k1 k2 k3 k4 k5 k6 k7 k8 k9 : Tok) (D C Z1 Z2 Z3 : Addr) (z1 z2 z3 : Obj) (cD cC : Nat) (ho : o = 0 ∨ o = 1) (hp9 : RunPre w0 w1) :
  ∀ (prog : Program) (p : Program) (loose : List Str) (mean : ExcName → Option Value) (mg mb : Str → Option Value)
    (dp un : Nat) (gd : Option (List Code)) (cn : Str) (cs : Scope) (a : Addr) (ccd : Value) (cl : List (Str × Addr)) (outer : List Env) (A₀ : Around) (base h₀ : Heap) (L : Addr) (m : Str → Option Value) (s : Shared) (Q E : Value → Shared → Prop),
    Below A₀ base outer h₀ → Fr h₀ L s.heap m → (hd.heap_39 w.params).In h₀ → News h₀ L s.heap [(D, listOf [.str w0 t0, .str w1 t1].toArray cD), (C, listOf [.int c0 k0, .int c1 k1, .int c2 k2, .int c3 k3, .int c4 k4, .int c5 k5, .int c6 k6, .int c7 k7, .int c8 k8, .int c9 k9].toArray cC), (Z1, z1), (Z2, z2), (Z3, z3)] → Top p loose mean mg mb h₀ → cs.kind = .function →
    dp + 20 < recursionLimit → un + 2000 < cLine →
    (∀ (Bk Ia da la Ib db lb Ic dc lc Id dd ld T1 T2 T3 T10 T11 T20 T21 T30 T31 : Addr) (ka kb kc kd : Tok) (na nb nc nd : Nat) (u1 v1 u2 v2 u3 v3 u10 v10 u11 v11 u20 v20 u21 v21 u30 v30 u31 v31 : Tok) (x1 x2 x3 y10 y11 y20 y21 y30 y31 : Int) (h' : Heap) (tk' : Nat),
      x1 = (if f = 0 then c1.fmod 2 else o) → x2 = (if f = 0 then c2.fmod 2 else o) → x3 = (if f = 0 then c3.fmod 2 else o) → y10 = (if f = 1 then c4.fmod 2 else x1) → y11 = (if f = 1 then c5.fmod 2 else x1) → y20 = (if f = 2 then c6.fmod 2 else x2) → y21 = (if f = 2 then c7.fmod 2 else x2) → y30 = (if f = 3 then c8.fmod 2 else x3) → y31 = (if f = 3 then c9.fmod 2 else x3) →
      Fr h₀ L h' m → News h₀ L h' [(Bk, LCg.lst [.ref Ia, .ref Ib, .ref Ic, .ref Id]), (Ia, instObj 228 da), (da, dictOf [⟨PyData.keyHash w.params (Str.ofString "_headers"), .str (Str.ofString "_headers") ka, .ref la⟩] 1), (la, listOf ([] : List Value).toArray na), (Ib, instObj 228 db), (db, dictOf [⟨PyData.keyHash w.params (Str.ofString "_headers"), .str (Str.ofString "_headers") kb, .ref lb⟩] 1), (lb, listOf ([.ref T1, .ref T20, .ref T30] : List Value).toArray nb), (Ic, instObj 228 dc), (dc, dictOf [⟨PyData.keyHash w.params (Str.ofString "_headers"), .str (Str.ofString "_headers") kc, .ref lc⟩] 1), (lc, listOf ([.ref T2, .ref T10, .ref T31] : List Value).toArray nc), (Id, instObj 228 dd), (dd, dictOf [⟨PyData.keyHash w.params (Str.ofString "_headers"), .str (Str.ofString "_headers") kd, .ref ld⟩] 1), (ld, listOf ([.ref T3, .ref T11, .ref T21] : List Value).toArray nd), (T1, { cls := Value.type "tuple", data := Data.seq ([.str (pickS x1 w0 w1) u1, .str (Str.ofString "g") v1] : List Value).toArray }), (T2, { cls := Value.type "tuple", data := Data.seq ([.str (pickS x2 w0 w1) u2, .str (Str.ofString "g") v2] : List Value).toArray }), (T3, { cls := Value.type "tuple", data := Data.seq ([.str (pickS x3 w0 w1) u3, .str (Str.ofString "g") v3] : List Value).toArray }), (T10, { cls := Value.type "tuple", data := Data.seq ([.str (Txt.upper (pickS y10 w0 w1)) u10, .str (Str.ofString "a") v10] : List Value).toArray }), (T11, { cls := Value.type "tuple", data := Data.seq ([.str (Txt.upper (pickS y11 w0 w1)) u11, .str (Str.ofString "a") v11] : List Value).toArray }), (T20, { cls := Value.type "tuple", data := Data.seq ([.str (Txt.upper (pickS y20 w0 w1)) u20, .str (Str.ofString "b") v20] : List Value).toArray }), (T21, { cls := Value.type "tuple", data := Data.seq ([.str (Txt.upper (pickS y21 w0 w1)) u21, .str (Str.ofString "b") v21] : List Value).toArray }), (T30, { cls := Value.type "tuple", data := Data.seq ([.str (Txt.upper (pickS y30 w0 w1)) u30, .str (Str.ofString "c") v30] : List Value).toArray }), (T31, { cls := Value.type "tuple", data := Data.seq ([.str (Txt.upper (pickS y31 w0 w1)) u31, .str (Str.ofString "c") v31] : List Value).toArray }), (D, listOf [.str w0 t0, .str w1 t1].toArray cD), (Z1, z1), (Z2, z2), (Z3, z3)] → Q (.ref Bk) { s with heap := h', toks := tk' }) →
      wpAny (model prog w) (ktrTop dp un gd cn cs L a ccd cl outer) (call (.ref 282) [.ref D, .int o to, .int f tf, .ref C]) Q E s := by
  k_with_none
  k_with "k_mem" => k_extra "mem8"
  k_with "mem8" => first | exact List.Mem.head _ | exact mem1 | exact mem2 | exact mem3 | exact mem4 | exact mem5 | exact mem6 | exact mem7 | (refine' mem8 ?_; k_extra "mem8")
  k_with "k_subL" => first | exact trivial | (refine' Sq.subL ?_; k_extra "sq") | (refine And.intro (by k_mem) ?_; k_subL)
  k_with "sq" => first | exact Sq.nil _ | (refine' Sq.keep ?_; k_extra "sq") | (refine' Sq.skip ?_; k_extra "sq")
  k_with "z enter" => k_dflt (refine' code_defC ?k1 ?k2 ?k3 ?k4 ?k5 ?kA ?kF ?kK ?k6 ?k7 ?k8 ?k9 ?kB ?kD ?_ ?c2 ?c3 ?c4; (case kA => exact rfl); (case kF => exact rfl); (case kK => assumption); (case k1 => k_asm); (case k2 => k_asm); (case k3 => k_asm); (case k4 => k_asm); (case k5 => k_asm); (case k6 => k_is); (case k7 => k_is); (case k8 => ktr_room); (case k9 => exact BindsTo.of_eq rfl); (case kB => exact rfl); (case kD => decide +kernel); (case c2 => exact rfl); (case c3 => exact rfl); (case c4 => exact rfl); k_whole; intro _ _ _ _ _ _ _ N' Y' B' _ _ l1; (try k_lt l1); k_cells Y'; (try simp only [List.cons_append, List.nil_append] at N'); (try dsimp only); (try k_lift B'); (try k_fold))
  k_with "k_room" => ktr_room
  k_with "lcg_off" => first | assumption | ((simp only [LCg.Off3, and_true]); assumption) | (refine off_new (by assumption) (by assumption) (by assumption) (by k_mem) (by k_mem) (by k_mem) ?_; first | assumption | ((simp only [LCg.Off3, and_true]); assumption))
  k_with "k_ne" => k_dflt (refine neN ?_; (try dsimp only); first | exact rk_ne (by with_reducible assumption) (by with_reducible assumption) (by rfl) | exact off1_ne (by with_reducible assumption) (by k_mem) | exact Ne.symm (off1_ne (by with_reducible assumption) (by k_mem)) | with_reducible assumption | exact Ne.symm (by with_reducible assumption) | exact allLt_mem (by with_reducible assumption) (by k_mem) | exact Ne.symm (allLt_mem (by with_reducible assumption) (by k_mem)))
  k_with "k_all" => first | exact List.forall_mem_nil _ | (refine' allNe_cons ?a ?b; (case a => k_ne); (case b => k_all)) | (refine' List.forall_mem_cons.mpr ⟨?a, ?b⟩; (case a => k_ne); (case b => k_all))
  k_with "ktu_off" => first
  | exact Or.inl (rk_ne (by with_reducible assumption) (by with_reducible assumption) (by rfl))
  | exact Or.inr (ktu_clsNe (by with_reducible assumption) (tname_ne (by rfl)))
  | exact Or.inl (by with_reducible assumption)
  | exact Or.inl (Ne.symm (by with_reducible assumption))
  | exact Or.inl (off1_ne (by with_reducible assumption) (by k_mem))
  | exact Or.inl (Ne.symm (off1_ne (by with_reducible assumption) (by k_mem)))
  k_with "ktu_offL" => first
  | exact trivial
  | (refine' offW_rk (by with_reducible assumption) (by with_reducible assumption) (by rfl) ?a; (case a => k_extra "ktu_offL"))
  | (refine' offW_cls ?z ?a; (case z => first | exact tname_ne (by rfl) | exact ktu_clsNe (by with_reducible assumption) (tname_ne (by rfl))); (case a => k_extra "ktu_offL"))
  | (refine' offW_ne ?z ?a; (case z => k_ne); (case a => k_extra "ktu_offL"))
  k_with "k_updF" => first | (refine' UpdF.head ?a; (case a => k_all)) | (refine' updF_rk (by with_reducible assumption) (by with_reducible assumption) (by rfl) ?b; (case b => k_extra "k_updF")) | (refine' UpdF.tail ?a ?b; (case a => k_ne); (case b => k_extra "k_updF"))
  k_with "my rem" => first | refine' Rem.head _ | (refine' Rem.tail ?a; (case a => walk_at "my rem"))
  k_with "UnrEndW" => (k_dflt (refine' end_rem ?F ?N ?R ?c ⟨?d, ?_⟩; (case F => k_asm); (case N => k_asm); (case R => walk_at "my rem"); (case c => ktu_offL); (case d => k_subL)))
  k_with "CompSrc" => (k_dflt (refine LCg.CompSrc.ledger (by rfl) (by k_asm) (by k_asm) (by k_mem) (by exact Nat.le_of_ble_eq_true rfl) ?_; intro _; (try dsimp only); lcg_lit; (try dsimp only)))
  k_with "CompSrc" => (k_dflt (refine LCg.CompSrc.range (by rfl) (by k_asm) (by k_asm) (by assumption) (by first | decide | rfl) (by first | rfl | decide) (by exact Nat.le_of_ble_eq_true rfl) ?_; intro _; (try dsimp only); lcg_lit; (try dsimp only)))
  k_with "CompEnd" => (k_dflt (refine LCg.CompEnd.intro (by assumption) (by assumption) _ (fun p hp => hp) (by first | assumption | (simp only [LCg.Off3, and_true]; assumption)) (by first | (show _ ∈ _; k_mem) | lcg_src) ?_))
  k_with "call ref" => (k_here; (with_reducible show wpAny _ _ (call (Value.ref 228) _) _ _ _); (try dsimp only); k_dflt (refine' init_c _ _ _ _ _ _ _ _ _ _ _ _ _ _ _ _ _ _ _ _ _ _ _ _ _ ?k1 ?k2 ?k3 ?k4 ?k5 ?kK ?kd ?ku ?_; (case k1 => k_asm); (case k2 => k_asm); (case k3 => k_asm); (case k4 => k_asm); (case k5 => k_asm); (case kK => first | exact rfl | assumption); (case kd => ktr_room); (case ku => ktr_units)); intro _ _ _ _ _ _ _ _ a9 _ _; (try dsimp only); (try k_fold))
  k_with "storeName" => ((fail_if_success (rename Rk _ _ _ => j9)); (with_reducible show wpAny _ _ (storeName _ (Str.ofString "i") _) _ _ _); refine Stop.mk ?_)
  k_with "execs cons" => ((with_reducible show wpAny _ _ (execs (Stmt.Assign [Expr.Name (Str.ofString "sent") _] _ _ :: _) _) _ _ _); refine Stop.mk ?_)
  k_with "execs cons" => ((with_reducible show wpAny _ _ (execs (Stmt.Assign [Expr.Name (Str.ofString "number") _] _ _ :: _) _) _ _ _); refine Stop.mk ?_)
  k_with "exec Assign cons ListComp" => ((with_reducible show wpAny _ _ (exec (Stmt.Assign _ (Expr.ListComp _ [⟨_, Expr.Tuple _ _ _, [_], _⟩] _ _) _) _) _ _ _); refine Stop.mk ?_)
  intro prog p loose mean mg mb dp un gd cn cs a ccd cl outer A₀ base h₀ L m s Q E hB hF hX hN hT hk hdp hun hret
  generalize hcl : [Value.int c0 k0, Value.int c1 k1, Value.int c2 k2, Value.int c3 k3, Value.int c4 k4, Value.int c5 k5, Value.int c6 k6, Value.int c7 k7, Value.int c8 k8, Value.int c9 k9] = cl9 at hN
  generalize hD9 : listOf [Value.str w0 t0, Value.str w1 t1].toArray cD = oD at hN
  refine wpAny_call ?_
  walk_at "z enter"
  rename Below _ _ _ _ => hB9
  k_steps
  k_sweep
  repeat (rename InElt _ _ => j; clear j)
  repeat (rename LCg.NsObj _ _ => j; clear j)
  repeat (rename IsRange _ _ _ _ _ _ _ _ => j; clear j)
  repeat (rename _ ≠ _ ∧ _ ≠ _ ∧ _ ≠ _ => j; clear j)
  repeat (rename (_ ≠ _ ∧ _) ∧ _ => j; clear j)
  repeat (rename _ = some _ => j; clear j)
  rename_i L1 _ _ hF0 hX0 hT0 _ _ _ _ _ _ _ _ _ _ _ _ _ _ _ _ _ _ _ _ Ia da la kta _ _ fa ga ha _ _ _ _ _ _ _ _ _ _ _ _ Ib db lb ktb _ _ fb gb hb _ _ _ _ _ _ _ _ _ _ _ _ Ic dc lc ktc _ _ fc gc hc _ _ _ _ _ _ _ _ _ _ Id dd ld ktd _ _ gd9 hd9 Bk _ _ o1 Fs _ q1 _ Tp _ nn0 q2 It q3 _ _ FF oit hct NN
  have fd := a9
  clear a9 nn0
  obtain ⟨cls, rk9⟩ := ranks (L1 + 1) [da, Ia, la, db, Ib, lb, dc, Ic, lc, dd, Id, ld, Fs, Tp, Tp + 1] (upL_cons (ltm fa (by k_mem)) (upL_cons ga (upL_cons ha (upL_cons (ltm fb (by k_mem)) (upL_cons gb (upL_cons hb (upL_cons (ltm fc (by k_mem)) (upL_cons gc (upL_cons hc (upL_cons (ltm fd (by k_mem)) (upL_cons gd9 (upL_cons hd9 (upL_cons (ltm q1 (by k_mem)) (upL_cons (ltm q2 (by k_mem)) (upL_cons (Nat.lt_succ_self _) trivial)))))))))))))))
  have r1 : Rk cls (L1 + 1) 1 := allRk_at rk9.1 0 rfl
  have r2 : Rk cls da 2 := allRk_at rk9.1 1 rfl
  have r3 : Rk cls Ia 3 := allRk_at rk9.1 2 rfl
  have r4 : Rk cls la 4 := allRk_at rk9.1 3 rfl
  have r5 : Rk cls db 5 := allRk_at rk9.1 4 rfl
  have r6 : Rk cls Ib 6 := allRk_at rk9.1 5 rfl
  have r7 : Rk cls lb 7 := allRk_at rk9.1 6 rfl
  have r8 : Rk cls dc 8 := allRk_at rk9.1 7 rfl
  have r9 : Rk cls Ic 9 := allRk_at rk9.1 8 rfl
  have r10 : Rk cls lc 10 := allRk_at rk9.1 9 rfl
  have r11 : Rk cls dd 11 := allRk_at rk9.1 10 rfl
  have r12 : Rk cls Id 12 := allRk_at rk9.1 11 rfl
  have r13 : Rk cls ld 13 := allRk_at rk9.1 12 rfl
  have r14 : Rk cls Fs 14 := allRk_at rk9.1 13 rfl
  have r15 : Rk cls Tp 15 := allRk_at rk9.1 14 rfl
  have rD : Rk cls D 0 := rk9.2.1 D (Nat.lt_succ_of_lt (ltm l1 (by k_mem)))
  have rC : Rk cls C 0 := rk9.2.1 C (Nat.lt_succ_of_lt (ltm l1 (by k_mem)))
  have rZ1 : Rk cls Z1 0 := rk9.2.1 Z1 (Nat.lt_succ_of_lt (ltm l1 (by k_mem)))
  have rZ2 : Rk cls Z2 0 := rk9.2.1 Z2 (Nat.lt_succ_of_lt (ltm l1 (by k_mem)))
  have rZ3 : Rk cls Z3 0 := rk9.2.1 Z3 (Nat.lt_succ_of_lt (ltm l1 (by k_mem)))
  have ob4 : @Ne Nat ld Bk := o1.2.2.1
  have ob3 : @Ne Nat lc Bk := o1.2.2.2.2.2.1
  have ob2 : @Ne Nat lb Bk := o1.2.2.2.2.2.2.2.2.1
  have ob1 : @Ne Nat la Bk := o1.2.2.2.2.2.2.2.2.2.2.2.1
  have ob5 : @Ne Nat (L1 + 1) Bk := o1.2.2.2.2.2.2.2.2.2.2.2.2.1
  have ob7 : @Ne Nat Fs Bk := Nat.ne_of_gt (ltm q1 (by k_mem))
  have ob8 : @Ne Nat It Bk := Nat.ne_of_gt (ltm q3 (by k_mem))
  have rtop : RTop cls Tp 16 := rk9.2.2
  have hTI : @LT.lt Nat _ Tp It := ltm q3 (by k_mem)
  have rIt := rtop It hTI
  clear fa ga ha fb gb hb fc gc hc fd gd9 hd9 q1 q2 q3 o1 l1 rk9
  have NN := news_sub (a := [(It, _), (Tp, _), (Fs, _), (Bk, _), (Ia, _), (da, _), (la, _), (Ib, _), (db, _), (lb, _), (Ic, _), (dc, _), (lc, _), (Id, _), (dd, _), (ld, _), (L1 + 1, _), (D, _), (C, _), (Z1, _), (Z2, _), (Z3, _)]) NN (by k_subL)
  generalize hda : dictOf [⟨PyData.keyHash w.params (Str.ofString "_headers"), Value.str (Str.ofString "_headers") kta, Value.ref la⟩] 1 = oda at NN
  generalize hdb : dictOf [⟨PyData.keyHash w.params (Str.ofString "_headers"), Value.str (Str.ofString "_headers") ktb, Value.ref lb⟩] 1 = odb at NN
  generalize hdc : dictOf [⟨PyData.keyHash w.params (Str.ofString "_headers"), Value.str (Str.ofString "_headers") ktc, Value.ref lc⟩] 1 = odc at NN
  generalize hdd : dictOf [⟨PyData.keyHash w.params (Str.ofString "_headers"), Value.str (Str.ofString "_headers") ktd, Value.ref ld⟩] 1 = odd at NN
  have hc1 : cl9[(1 : Int).toNat]? = some (Value.int c1 k1) := at_of hcl rfl
  have hc2 : cl9[(2 : Int).toNat]? = some (Value.int c2 k2) := at_of hcl rfl
  have hc3 : cl9[(3 : Int).toNat]? = some (Value.int c3 k3) := at_of hcl rfl
  have hc4 : cl9[(2 + 2 * (1 : Int) + 0).toNat]? = some (Value.int c4 k4) := at_of hcl rfl
  have hc5 : cl9[(2 + 2 * (1 : Int) + 1).toNat]? = some (Value.int c5 k5) := at_of hcl rfl
  have hc6 : cl9[(2 + 2 * (2 : Int) + 0).toNat]? = some (Value.int c6 k6) := at_of hcl rfl
  have hc7 : cl9[(2 + 2 * (2 : Int) + 1).toNat]? = some (Value.int c7 k7) := at_of hcl rfl
  have hc8 : cl9[(2 + 2 * (3 : Int) + 0).toNat]? = some (Value.int c8 k8) := at_of hcl rfl
  have hc9 : cl9[(2 + 2 * (3 : Int) + 1).toNat]? = some (Value.int c9 k9) := at_of hcl rfl
  unfold Stop
  k_steps
  k_sweep
  rename News _ _ _ _ => NN
  rename Fr _ _ _ _ => FF
  unfold Stop
  show wpAny _ (Around.deeper _ (runEnv _)) (execs turnA (runEnv _)) _ _ _
  have F8 := fr_run (Fs := Fs) (Bk := Bk) (C := C) (D := D) (f := f) (o := o) (tf := tf) (to := to) FF (by with_unfolding_all rfl) (by with_unfolding_all rfl) (by with_unfolding_all rfl) (by with_unfolding_all rfl) (by with_unfolding_all rfl) (by with_unfolding_all rfl)
  with_reducible refine' turn_a w w0 w1 hp9 f o 1 c1 ho ⟨by decide, by decide⟩ t0 t1 to tf _ k1 ktb D C Bk Fs Ib db lb cD cC _ _ _ cl9 [.ref Ia, .ref Ib, .ref Ic, .ref Id] [.int o to] [] hc1 rfl (Nat.le_of_ble_eq_true rfl) (Nat.le_of_ble_eq_true rfl) _ ?hoi [(It, _), (Tp, _), (Bk, _), (Ia, _), (da, _), (la, _), (Ib, _), (db, _), (Ic, _), (dc, _), (lc, _), (Id, _), (dd, _), (ld, _), (L1 + 1, _), (D, _), (C, _), (Z1, _), (Z2, _), (Z3, _)] ?mD ?mC ?mB ?mI ?md ?hFs ?hl ?hne prog p loose mean mg mb dp un gd cn cs L a ccd cl outer base _ L1 _ _ _ _ ?mi hB9 F8 hX0 ?hN hT0 hdp hun ?_
  (case hN => exact news_sub NN (by k_subL))
  (case hoi => assumption)
  (case mD => exact mem_obj hD9 (by k_mem))
  (case mC => k_mem)
  (case mB => k_mem)
  (case mI => k_mem)
  (case md => first | exact mem_obj hda (by k_mem) | exact mem_obj hdb (by k_mem) | exact mem_obj hdc (by k_mem) | exact mem_obj hdd (by k_mem))
  (case mi => k_mem)
  (case hFs => k_all)
  (case hl => k_all)
  (case hne => exact rk_ne (by with_reducible assumption) (by with_reducible assumption) (by rfl))
  intro T1 x1 tx1 u1 v1 cf1 mr1 g1 tk1 hx1 F1 N1 al1
  have hb1 := ite_two (mod_two c1) ho hx1
  have hT1 : @LT.lt Nat _ Tp T1 := Nat.lt_trans hTI (ltm al1 (by k_mem))
  have rT1 := rtop T1 hT1
  clear al1 FF NN F8
  k_steps
  k_sweep
  unfold Stop
  rename News _ _ _ _ => NN
  rename Fr _ _ _ _ => FF
  show wpAny _ (Around.deeper _ (runEnv _)) (execs turnA (runEnv _)) _ _ _
  have F8 := fr_run (Fs := Fs) (Bk := Bk) (C := C) (D := D) (f := f) (o := o) (tf := tf) (to := to) FF (by with_unfolding_all rfl) (by with_unfolding_all rfl) (by with_unfolding_all rfl) (by with_unfolding_all rfl) (by with_unfolding_all rfl) (by with_unfolding_all rfl)
  with_reducible refine' turn_a w w0 w1 hp9 f o 2 c2 ho ⟨by decide, by decide⟩ t0 t1 to tf _ k2 ktc D C Bk Fs Ic dc lc cD cC _ _ _ cl9 [.ref Ia, .ref Ib, .ref Ic, .ref Id] [.int o to, .int x1 tx1] [] hc2 rfl (Nat.le_of_ble_eq_true rfl) (Nat.le_of_ble_eq_true rfl) _ ?hoi [(T1, _), (It, _), (Tp, _), (Bk, _), (Ia, _), (da, _), (la, _), (Ib, _), (db, _), (lb, _), (Ic, _), (dc, _), (Id, _), (dd, _), (ld, _), (L1 + 1, _), (D, _), (C, _), (Z1, _), (Z2, _), (Z3, _)] ?mD ?mC ?mB ?mI ?md ?hFs ?hl ?hne prog p loose mean mg mb dp un gd cn cs L a ccd cl outer base _ L1 _ _ _ _ ?mi hB9 F8 hX0 ?hN hT0 hdp hun ?_
  (case hN => exact news_sub NN (by k_subL))
  (case hoi => assumption)
  (case mD => exact mem_obj hD9 (by k_mem))
  (case mC => k_mem)
  (case mB => k_mem)
  (case mI => k_mem)
  (case md => first | exact mem_obj hda (by k_mem) | exact mem_obj hdb (by k_mem) | exact mem_obj hdc (by k_mem) | exact mem_obj hdd (by k_mem))
  (case mi => k_mem)
  (case hFs => k_all)
  (case hl => k_all)
  (case hne => exact rk_ne (by with_reducible assumption) (by with_reducible assumption) (by rfl))
  intro T2 x2 tx2 u2 v2 cf2 mr2 g2 tk2 hx2 F2 N2 al2
  have hb2 := ite_two (mod_two c2) ho hx2
  have hT2 : @LT.lt Nat _ Tp T2 := Nat.lt_trans hTI (ltm al2 (by k_mem))
  have rT2 := rtop T2 hT2
  clear al2 FF NN F8
  k_steps
  k_sweep
  unfold Stop
  rename News _ _ _ _ => NN
  rename Fr _ _ _ _ => FF
  show wpAny _ (Around.deeper _ (runEnv _)) (execs turnA (runEnv _)) _ _ _
  have F8 := fr_run (Fs := Fs) (Bk := Bk) (C := C) (D := D) (f := f) (o := o) (tf := tf) (to := to) FF (by with_unfolding_all rfl) (by with_unfolding_all rfl) (by with_unfolding_all rfl) (by with_unfolding_all rfl) (by with_unfolding_all rfl) (by with_unfolding_all rfl)
  with_reducible refine' turn_a w w0 w1 hp9 f o 3 c3 ho ⟨by decide, by decide⟩ t0 t1 to tf _ k3 ktd D C Bk Fs Id dd ld cD cC _ _ _ cl9 [.ref Ia, .ref Ib, .ref Ic, .ref Id] [.int o to, .int x1 tx1, .int x2 tx2] [] hc3 rfl (Nat.le_of_ble_eq_true rfl) (Nat.le_of_ble_eq_true rfl) _ ?hoi [(T1, _), (T2, _), (It, _), (Tp, _), (Bk, _), (Ia, _), (da, _), (la, _), (Ib, _), (db, _), (lb, _), (Ic, _), (dc, _), (lc, _), (Id, _), (dd, _), (L1 + 1, _), (D, _), (C, _), (Z1, _), (Z2, _), (Z3, _)] ?mD ?mC ?mB ?mI ?md ?hFs ?hl ?hne prog p loose mean mg mb dp un gd cn cs L a ccd cl outer base _ L1 _ _ _ _ ?mi hB9 F8 hX0 ?hN hT0 hdp hun ?_
  (case hN => exact news_sub NN (by k_subL))
  (case hoi => assumption)
  (case mD => exact mem_obj hD9 (by k_mem))
  (case mC => k_mem)
  (case mB => k_mem)
  (case mI => k_mem)
  (case md => first | exact mem_obj hda (by k_mem) | exact mem_obj hdb (by k_mem) | exact mem_obj hdc (by k_mem) | exact mem_obj hdd (by k_mem))
  (case mi => k_mem)
  (case hFs => k_all)
  (case hl => k_all)
  (case hne => exact rk_ne (by with_reducible assumption) (by with_reducible assumption) (by rfl))
  intro T3 x3 tx3 u3 v3 cf3 mr3 g3 tk3 hx3 F3 N3 al3
  have hb3 := ite_two (mod_two c3) ho hx3
  have hT3 : @LT.lt Nat _ Tp T3 := Nat.lt_trans hTI (ltm al3 (by k_mem))
  have rT3 := rtop T3 hT3
  clear al3 FF NN F8
  k_steps
  k_sweep
  unfold Stop
  rename_i D6 _ ff1 q1 i1 q2 _ _ ff2 _ _ ff3 _ _ FF NN dc2
  clear ff1 ff2 ff3
  have hTi1 : @LT.lt Nat _ Tp i1 := Nat.lt_trans hT1 (ltm q2 (by k_mem))
  have rD6 := rtop D6 (Nat.lt_trans hT1 (ltm q1 (by k_mem)))
  have ri1 := rtop i1 hTi1
  clear q1 q2
  show wpAny _ (Around.deeper _ (runEnv _)) (exec othersSt (runEnv _)) _ _ _
  with_reducible refine' others_c w 1 2 3 (.inl ⟨rfl, rfl, rfl⟩) _ _ ?hoi prog p loose mean mg mb dp un gd cn cs L a ccd cl outer base _ L1 _ [(i1, _), (D6, _), (T1, _), (T2, _), (T3, _), (Fs, _), (Bk, _), (Ia, _), (da, _), (la, _), (Ib, _), (db, _), (lb, _), (Ic, _), (dc, _), (lc, _), (Id, _), (dd, _), (ld, _), (L1 + 1, _), (D, _), (C, _), (Z1, _), (Z2, _), (Z3, _)] _ _ _ ?mi hB9 FF hX0 ?hN hT0 hdp hun ?_
  (case hN => exact news_sub NN (by k_subL))
  (case hoi => assumption)
  (case mi => k_mem)
  intro Oth1 uo1 vo1 go1 to1 Fo1 No1 oo1
  clear FF NN
  k_steps
  k_sweep
  rename_i D01 _ q4 In1 q5 _ _ ff4 _ _ nn4 _ FF NN
  clear ff4 nn4
  have rD01 := rtop D01 (Nat.lt_trans hT1 (ltm q4 (by k_mem)))
  have rIn1 := rtop In1 (Nat.lt_trans hTi1 (ltm q5 (by k_mem)))
  have nI1 : @Ne Nat i1 In1 := Nat.ne_of_lt (ltm q5 (by k_mem))
  clear q4 q5
  unfold Stop
  show wpAny _ (Around.deeper _ (runEnv _)) (execs turnB (runEnv _)) _ _ _
  have F8 := fr_runB (Oth := Oth1) (n := 0) (Fs := Fs) (Bk := Bk) (C := C) (D := D) (f := f) (o := o) (tf := tf) (to := to) FF (by with_unfolding_all rfl) (by with_unfolding_all rfl) (by with_unfolding_all rfl) (by with_unfolding_all rfl) (by with_unfolding_all rfl) (by with_unfolding_all rfl) (by with_unfolding_all rfl) (by with_unfolding_all rfl)
  with_reducible refine' turn_b w w0 w1 hp9 f o 1 0 c4 x1 2 hb1 ⟨by decide, by decide⟩ ⟨by decide, by decide⟩ ⟨by decide, by decide⟩ ⟨by decide, by decide⟩ ⟨by decide, by decide⟩ t0 t1 to tf _ _ _ _ k4 ktc D C Bk Fs Oth1 Ic dc lc cD cC _ _ _ _ cl9 [.ref Ia, .ref Ib, .ref Ic, .ref Id] [.int o to, .int x1 tx1, .int x2 tx2, .int x3 tx3] [.int 2 _, .int 3 _] [.ref T2] (teller_of (by decide +kernel)) hc4 rfl rfl rfl (Nat.le_of_ble_eq_true rfl) _ ?hoi [(In1, _), (D01, _), (Oth1, _), (i1, _), (D6, _), (T1, _), (T2, _), (T3, _), (Fs, _), (Bk, _), (Ia, _), (da, _), (la, _), (Ib, _), (db, _), (lb, _), (Ic, _), (dc, _), (Id, _), (dd, _), (ld, _), (L1 + 1, _), (D, _), (C, _), (Z1, _), (Z2, _), (Z3, _)] ?mD ?mC ?mB ?mF ?mO ?mI ?md ?hl prog p loose mean mg mb dp un gd cn cs L a ccd cl outer base _ L1 _ _ _ _ ?mi hB9 F8 hX0 ?hN hT0 hdp hun ?_
  (case hN => exact news_sub NN (by k_subL))
  (case hoi => assumption)
  (case mD => exact mem_obj hD9 (by k_mem))
  (case mC => k_mem)
  (case mB => k_mem)
  (case mF => k_mem)
  (case mO => k_mem)
  (case mI => k_mem)
  (case md => first | exact mem_obj hda (by k_mem) | exact mem_obj hdb (by k_mem) | exact mem_obj hdc (by k_mem) | exact mem_obj hdd (by k_mem))
  (case mi => k_mem)
  (case hl => k_all)
  intro T10 y10 u10 v10 mr10 g10 tk10 hy10 F10 N10 al10
  have hb10 := ite_two (mod_two c4) hb1 hy10
  have rT10 := rtop T10 (Nat.lt_trans hTi1 (ltm al10 (by k_mem)))
  clear al10 FF NN F8
  k_steps
  k_sweep
  rename News _ _ _ _ => NN
  rename Fr _ _ _ _ => FF
  unfold Stop
  show wpAny _ (Around.deeper _ (runEnv _)) (execs turnB (runEnv _)) _ _ _
  have F8 := fr_runB (Oth := Oth1) (n := 1) (Fs := Fs) (Bk := Bk) (C := C) (D := D) (f := f) (o := o) (tf := tf) (to := to) FF (by with_unfolding_all rfl) (by with_unfolding_all rfl) (by with_unfolding_all rfl) (by with_unfolding_all rfl) (by with_unfolding_all rfl) (by with_unfolding_all rfl) (by with_unfolding_all rfl) (by with_unfolding_all rfl)
  with_reducible refine' turn_b w w0 w1 hp9 f o 1 1 c5 x1 3 hb1 ⟨by decide, by decide⟩ ⟨by decide, by decide⟩ ⟨by decide, by decide⟩ ⟨by decide, by decide⟩ ⟨by decide, by decide⟩ t0 t1 to tf _ _ _ _ k5 ktd D C Bk Fs Oth1 Id dd ld cD cC _ _ _ _ cl9 [.ref Ia, .ref Ib, .ref Ic, .ref Id] [.int o to, .int x1 tx1, .int x2 tx2, .int x3 tx3] [.int 2 _, .int 3 _] [.ref T3] (teller_of (by decide +kernel)) hc5 rfl rfl rfl (Nat.le_of_ble_eq_true rfl) _ ?hoi [(In1, _), (D01, _), (Oth1, _), (i1, _), (D6, _), (T1, _), (T2, _), (T3, _), (T10, _), (Fs, _), (Bk, _), (Ia, _), (da, _), (la, _), (Ib, _), (db, _), (lb, _), (Ic, _), (dc, _), (lc, _), (Id, _), (dd, _), (L1 + 1, _), (D, _), (C, _), (Z1, _), (Z2, _), (Z3, _)] ?mD ?mC ?mB ?mF ?mO ?mI ?md ?hl prog p loose mean mg mb dp un gd cn cs L a ccd cl outer base _ L1 _ _ _ _ ?mi hB9 F8 hX0 ?hN hT0 hdp hun ?_
  (case hN => exact news_sub NN (by k_subL))
  (case hoi => assumption)
  (case mD => exact mem_obj hD9 (by k_mem))
  (case mC => k_mem)
  (case mB => k_mem)
  (case mF => k_mem)
  (case mO => k_mem)
  (case mI => k_mem)
  (case md => first | exact mem_obj hda (by k_mem) | exact mem_obj hdb (by k_mem) | exact mem_obj hdc (by k_mem) | exact mem_obj hdd (by k_mem))
  (case mi => k_mem)
  (case hl => k_all)
  intro T11 y11 u11 v11 mr11 g11 tk11 hy11 F11 N11 al11
  have hb11 := ite_two (mod_two c5) hb1 hy11
  have rT11 := rtop T11 (Nat.lt_trans hTi1 (ltm al11 (by k_mem)))
  clear al11 FF NN F8
  k_steps
  k_sweep
  unfold Stop
  rename News _ _ _ _ => NN
  rename Fr _ _ _ _ => FF
  show wpAny _ (Around.deeper _ (runEnv _)) (exec othersSt (runEnv _)) _ _ _
  with_reducible refine' others_c w 2 1 3 (.inr (.inl ⟨rfl, rfl, rfl⟩)) _ _ ?hoi prog p loose mean mg mb dp un gd cn cs L a ccd cl outer base _ L1 _ [(i1, _), (D6, _), (T1, _), (T2, _), (T3, _), (T10, _), (T11, _), (Fs, _), (Bk, _), (Ia, _), (da, _), (la, _), (Ib, _), (db, _), (lb, _), (Ic, _), (dc, _), (lc, _), (Id, _), (dd, _), (ld, _), (L1 + 1, _), (D, _), (C, _), (Z1, _), (Z2, _), (Z3, _)] _ _ _ ?mi hB9 FF hX0 ?hN hT0 hdp hun ?_
  (case hN => exact news_sub NN (by k_subL))
  (case hoi => assumption)
  (case mi => k_mem)
  intro Oth2 uo2 vo2 go2 to2 Fo2 No2 oo2
  clear FF NN
  k_steps
  k_sweep
  rename_i D02 _ q4 In2 q5 _ _ ff4 _ _ nn4 _ FF NN
  clear ff4 nn4
  have rD02 := rtop D02 (Nat.lt_trans hT1 (ltm q4 (by k_mem)))
  have rIn2 := rtop In2 (Nat.lt_trans hTi1 (ltm q5 (by k_mem)))
  have nI2 : @Ne Nat i1 In2 := Nat.ne_of_lt (ltm q5 (by k_mem))
  clear q4 q5
  unfold Stop
  show wpAny _ (Around.deeper _ (runEnv _)) (execs turnB (runEnv _)) _ _ _
  have F8 := fr_runB (Oth := Oth2) (n := 0) (Fs := Fs) (Bk := Bk) (C := C) (D := D) (f := f) (o := o) (tf := tf) (to := to) FF (by with_unfolding_all rfl) (by with_unfolding_all rfl) (by with_unfolding_all rfl) (by with_unfolding_all rfl) (by with_unfolding_all rfl) (by with_unfolding_all rfl) (by with_unfolding_all rfl) (by with_unfolding_all rfl)
  with_reducible refine' turn_b w w0 w1 hp9 f o 2 0 c6 x2 1 hb2 ⟨by decide, by decide⟩ ⟨by decide, by decide⟩ ⟨by decide, by decide⟩ ⟨by decide, by decide⟩ ⟨by decide, by decide⟩ t0 t1 to tf _ _ _ _ k6 ktb D C Bk Fs Oth2 Ib db lb cD cC _ _ _ _ cl9 [.ref Ia, .ref Ib, .ref Ic, .ref Id] [.int o to, .int x1 tx1, .int x2 tx2, .int x3 tx3] [.int 1 _, .int 3 _] [.ref T1] (teller_of (by decide +kernel)) hc6 rfl rfl rfl (Nat.le_of_ble_eq_true rfl) _ ?hoi [(In2, _), (D02, _), (Oth2, _), (i1, _), (D6, _), (T1, _), (T2, _), (T3, _), (T10, _), (T11, _), (Fs, _), (Bk, _), (Ia, _), (da, _), (la, _), (Ib, _), (db, _), (Ic, _), (dc, _), (lc, _), (Id, _), (dd, _), (ld, _), (L1 + 1, _), (D, _), (C, _), (Z1, _), (Z2, _), (Z3, _)] ?mD ?mC ?mB ?mF ?mO ?mI ?md ?hl prog p loose mean mg mb dp un gd cn cs L a ccd cl outer base _ L1 _ _ _ _ ?mi hB9 F8 hX0 ?hN hT0 hdp hun ?_
  (case hN => exact news_sub NN (by k_subL))
  (case hoi => assumption)
  (case mD => exact mem_obj hD9 (by k_mem))
  (case mC => k_mem)
  (case mB => k_mem)
  (case mF => k_mem)
  (case mO => k_mem)
  (case mI => k_mem)
  (case md => first | exact mem_obj hda (by k_mem) | exact mem_obj hdb (by k_mem) | exact mem_obj hdc (by k_mem) | exact mem_obj hdd (by k_mem))
  (case mi => k_mem)
  (case hl => k_all)
  intro T20 y20 u20 v20 mr20 g20 tk20 hy20 F20 N20 al20
  have hb20 := ite_two (mod_two c6) hb2 hy20
  have rT20 := rtop T20 (Nat.lt_trans hTi1 (ltm al20 (by k_mem)))
  clear al20 FF NN F8
  k_steps
  k_sweep
  rename News _ _ _ _ => NN
  rename Fr _ _ _ _ => FF
  unfold Stop
  show wpAny _ (Around.deeper _ (runEnv _)) (execs turnB (runEnv _)) _ _ _
  have F8 := fr_runB (Oth := Oth2) (n := 1) (Fs := Fs) (Bk := Bk) (C := C) (D := D) (f := f) (o := o) (tf := tf) (to := to) FF (by with_unfolding_all rfl) (by with_unfolding_all rfl) (by with_unfolding_all rfl) (by with_unfolding_all rfl) (by with_unfolding_all rfl) (by with_unfolding_all rfl) (by with_unfolding_all rfl) (by with_unfolding_all rfl)
  with_reducible refine' turn_b w w0 w1 hp9 f o 2 1 c7 x2 3 hb2 ⟨by decide, by decide⟩ ⟨by decide, by decide⟩ ⟨by decide, by decide⟩ ⟨by decide, by decide⟩ ⟨by decide, by decide⟩ t0 t1 to tf _ _ _ _ k7 ktd D C Bk Fs Oth2 Id dd ld cD cC _ _ _ _ cl9 [.ref Ia, .ref Ib, .ref Ic, .ref Id] [.int o to, .int x1 tx1, .int x2 tx2, .int x3 tx3] [.int 1 _, .int 3 _] [.ref T3, .ref T11] (teller_of (by decide +kernel)) hc7 rfl rfl rfl (Nat.le_of_ble_eq_true rfl) _ ?hoi [(In2, _), (D02, _), (Oth2, _), (i1, _), (D6, _), (T1, _), (T2, _), (T3, _), (T10, _), (T11, _), (T20, _), (Fs, _), (Bk, _), (Ia, _), (da, _), (la, _), (Ib, _), (db, _), (lb, _), (Ic, _), (dc, _), (lc, _), (Id, _), (dd, _), (L1 + 1, _), (D, _), (C, _), (Z1, _), (Z2, _), (Z3, _)] ?mD ?mC ?mB ?mF ?mO ?mI ?md ?hl prog p loose mean mg mb dp un gd cn cs L a ccd cl outer base _ L1 _ _ _ _ ?mi hB9 F8 hX0 ?hN hT0 hdp hun ?_
  (case hN => exact news_sub NN (by k_subL))
  (case hoi => assumption)
  (case mD => exact mem_obj hD9 (by k_mem))
  (case mC => k_mem)
  (case mB => k_mem)
  (case mF => k_mem)
  (case mO => k_mem)
  (case mI => k_mem)
  (case md => first | exact mem_obj hda (by k_mem) | exact mem_obj hdb (by k_mem) | exact mem_obj hdc (by k_mem) | exact mem_obj hdd (by k_mem))
  (case mi => k_mem)
  (case hl => k_all)
  intro T21 y21 u21 v21 mr21 g21 tk21 hy21 F21 N21 al21
  have hb21 := ite_two (mod_two c7) hb2 hy21
  have rT21 := rtop T21 (Nat.lt_trans hTi1 (ltm al21 (by k_mem)))
  clear al21 FF NN F8
  k_steps
  k_sweep
  unfold Stop
  rename News _ _ _ _ => NN
  rename Fr _ _ _ _ => FF
  show wpAny _ (Around.deeper _ (runEnv _)) (exec othersSt (runEnv _)) _ _ _
  with_reducible refine' others_c w 3 1 2 (.inr (.inr ⟨rfl, rfl, rfl⟩)) _ _ ?hoi prog p loose mean mg mb dp un gd cn cs L a ccd cl outer base _ L1 _ [(i1, _), (D6, _), (T1, _), (T2, _), (T3, _), (T10, _), (T11, _), (T20, _), (T21, _), (Fs, _), (Bk, _), (Ia, _), (da, _), (la, _), (Ib, _), (db, _), (lb, _), (Ic, _), (dc, _), (lc, _), (Id, _), (dd, _), (ld, _), (L1 + 1, _), (D, _), (C, _), (Z1, _), (Z2, _), (Z3, _)] _ _ _ ?mi hB9 FF hX0 ?hN hT0 hdp hun ?_
  (case hN => exact news_sub NN (by k_subL))
  (case hoi => assumption)
  (case mi => k_mem)
  intro Oth3 uo3 vo3 go3 to3 Fo3 No3 oo3
  clear FF NN
  k_steps
  k_sweep
  rename_i D03 _ q4 In3 q5 _ _ ff4 _ _ nn4 _ FF NN
  clear ff4 nn4
  have rD03 := rtop D03 (Nat.lt_trans hT1 (ltm q4 (by k_mem)))
  have rIn3 := rtop In3 (Nat.lt_trans hTi1 (ltm q5 (by k_mem)))
  have nI3 : @Ne Nat i1 In3 := Nat.ne_of_lt (ltm q5 (by k_mem))
  clear q4 q5
  unfold Stop
  show wpAny _ (Around.deeper _ (runEnv _)) (execs turnB (runEnv _)) _ _ _
  have F8 := fr_runB (Oth := Oth3) (n := 0) (Fs := Fs) (Bk := Bk) (C := C) (D := D) (f := f) (o := o) (tf := tf) (to := to) FF (by with_unfolding_all rfl) (by with_unfolding_all rfl) (by with_unfolding_all rfl) (by with_unfolding_all rfl) (by with_unfolding_all rfl) (by with_unfolding_all rfl) (by with_unfolding_all rfl) (by with_unfolding_all rfl)
  with_reducible refine' turn_b w w0 w1 hp9 f o 3 0 c8 x3 1 hb3 ⟨by decide, by decide⟩ ⟨by decide, by decide⟩ ⟨by decide, by decide⟩ ⟨by decide, by decide⟩ ⟨by decide, by decide⟩ t0 t1 to tf _ _ _ _ k8 ktb D C Bk Fs Oth3 Ib db lb cD cC _ _ _ _ cl9 [.ref Ia, .ref Ib, .ref Ic, .ref Id] [.int o to, .int x1 tx1, .int x2 tx2, .int x3 tx3] [.int 1 _, .int 2 _] [.ref T1, .ref T20] (teller_of (by decide +kernel)) hc8 rfl rfl rfl (Nat.le_of_ble_eq_true rfl) _ ?hoi [(In3, _), (D03, _), (Oth3, _), (i1, _), (D6, _), (T1, _), (T2, _), (T3, _), (T10, _), (T11, _), (T20, _), (T21, _), (Fs, _), (Bk, _), (Ia, _), (da, _), (la, _), (Ib, _), (db, _), (Ic, _), (dc, _), (lc, _), (Id, _), (dd, _), (ld, _), (L1 + 1, _), (D, _), (C, _), (Z1, _), (Z2, _), (Z3, _)] ?mD ?mC ?mB ?mF ?mO ?mI ?md ?hl prog p loose mean mg mb dp un gd cn cs L a ccd cl outer base _ L1 _ _ _ _ ?mi hB9 F8 hX0 ?hN hT0 hdp hun ?_
  (case hN => exact news_sub NN (by k_subL))
  (case hoi => assumption)
  (case mD => exact mem_obj hD9 (by k_mem))
  (case mC => k_mem)
  (case mB => k_mem)
  (case mF => k_mem)
  (case mO => k_mem)
  (case mI => k_mem)
  (case md => first | exact mem_obj hda (by k_mem) | exact mem_obj hdb (by k_mem) | exact mem_obj hdc (by k_mem) | exact mem_obj hdd (by k_mem))
  (case mi => k_mem)
  (case hl => k_all)
  intro T30 y30 u30 v30 mr30 g30 tk30 hy30 F30 N30 al30
  have hb30 := ite_two (mod_two c8) hb3 hy30
  have rT30 := rtop T30 (Nat.lt_trans hTi1 (ltm al30 (by k_mem)))
  clear al30 FF NN F8
  k_steps
  k_sweep
  rename News _ _ _ _ => NN
  rename Fr _ _ _ _ => FF
  unfold Stop
  show wpAny _ (Around.deeper _ (runEnv _)) (execs turnB (runEnv _)) _ _ _
  have F8 := fr_runB (Oth := Oth3) (n := 1) (Fs := Fs) (Bk := Bk) (C := C) (D := D) (f := f) (o := o) (tf := tf) (to := to) FF (by with_unfolding_all rfl) (by with_unfolding_all rfl) (by with_unfolding_all rfl) (by with_unfolding_all rfl) (by with_unfolding_all rfl) (by with_unfolding_all rfl) (by with_unfolding_all rfl) (by with_unfolding_all rfl)
  with_reducible refine' turn_b w w0 w1 hp9 f o 3 1 c9 x3 2 hb3 ⟨by decide, by decide⟩ ⟨by decide, by decide⟩ ⟨by decide, by decide⟩ ⟨by decide, by decide⟩ ⟨by decide, by decide⟩ t0 t1 to tf _ _ _ _ k9 ktc D C Bk Fs Oth3 Ic dc lc cD cC _ _ _ _ cl9 [.ref Ia, .ref Ib, .ref Ic, .ref Id] [.int o to, .int x1 tx1, .int x2 tx2, .int x3 tx3] [.int 1 _, .int 2 _] [.ref T2, .ref T10] (teller_of (by decide +kernel)) hc9 rfl rfl rfl (Nat.le_of_ble_eq_true rfl) _ ?hoi [(In3, _), (D03, _), (Oth3, _), (i1, _), (D6, _), (T1, _), (T2, _), (T3, _), (T10, _), (T11, _), (T20, _), (T21, _), (T30, _), (Fs, _), (Bk, _), (Ia, _), (da, _), (la, _), (Ib, _), (db, _), (lb, _), (Ic, _), (dc, _), (Id, _), (dd, _), (ld, _), (L1 + 1, _), (D, _), (C, _), (Z1, _), (Z2, _), (Z3, _)] ?mD ?mC ?mB ?mF ?mO ?mI ?md ?hl prog p loose mean mg mb dp un gd cn cs L a ccd cl outer base _ L1 _ _ _ _ ?mi hB9 F8 hX0 ?hN hT0 hdp hun ?_
  (case hN => exact news_sub NN (by k_subL))
  (case hoi => assumption)
  (case mD => exact mem_obj hD9 (by k_mem))
  (case mC => k_mem)
  (case mB => k_mem)
  (case mF => k_mem)
  (case mO => k_mem)
  (case mI => k_mem)
  (case md => first | exact mem_obj hda (by k_mem) | exact mem_obj hdb (by k_mem) | exact mem_obj hdc (by k_mem) | exact mem_obj hdd (by k_mem))
  (case mi => k_mem)
  (case hl => k_all)
  intro T31 y31 u31 v31 mr31 g31 tk31 hy31 F31 N31 al31
  have hb31 := ite_two (mod_two c9) hb3 hy31
  have rT31 := rtop T31 (Nat.lt_trans hTi1 (ltm al31 (by k_mem)))
  clear al31 FF NN F8
  k_steps
  rename News _ _ (Shared.heap _) _ => kN
  rename Fr _ _ (Shared.heap _) _ => kF
  rw [gabc1, gabc2, gabc3] at kN
  k_with "fin" => first | exact trivial | (refine And.intro (by first | exact mem_obj hD9 (by k_mem) | exact mem_obj hda (by k_mem) | exact mem_obj hdb (by k_mem) | exact mem_obj hdc (by k_mem) | exact mem_obj hdd (by k_mem) | k_mem) ?_; k_extra "fin")
  exact hret Bk Ia da la Ib db lb Ic dc lc Id dd ld T1 T2 T3 T10 T11 T20 T21 T30 T31 kta ktb ktc ktd _ _ _ _ _ _ _ _ _ _ _ _ _ _ _ _ _ _ _ _ _ _ x1 x2 x3 y10 y11 y20 y21 y30 y31 _ _ hx1 hx2 hx3 hy10 hy11 hy20 hy21 hy30 hy31 kF (news_sub kN (by k_extra "fin"))
end
end Mine
end
section
local macro_rules | `(tactic| omega) => `(tactic| lia)
section
open PySem PySem.W PySem.Spec PySem.Calls PyProof.Rows
set_option maxHeartbeats 8000000
namespace Mine
theorem rs_V1 : True := by
  k_with_none
  exact trivial
section
noncomputable def tupO (a b : Str) (u v : Tok) : Obj := { cls := Value.type "tuple", data := Data.seq ([.str a u, .str b v] : List Value).toArray }
theorem vals_c (w : World) (I d l T1 T2 T3 : Addr) (kt : Tok) (n : Nat) (a1 b1 a2 b2 a3 b3 : Str) (u1 v1 u2 v2 u3 v3 : Tok) :
  ∀ (prog : Program) (p : Program) (loose : List Str) (mean : ExcName → Option Value) (mg mb : Str → Option Value) (news : List (Addr × Obj))
    (dp un : Nat) (gd : Option (List Code)) (cn : Str) (cs : Scope) (a : Addr) (ccd : Value) (cl : List (Str × Addr)) (outer : List Env) (A₀ : Around) (base h₀ : Heap) (L : Addr) (m : Str → Option Value) (s : Shared) (Q E : Value → Shared → Prop),
    Below A₀ base outer h₀ → Fr h₀ L s.heap m → (hd.heap_39 w.params).In h₀ →
    News h₀ L s.heap ((I, instObj 228 d) :: (d, dictOf [⟨PyData.keyHash w.params (Str.ofString "_headers"), .str (Str.ofString "_headers") kt, .ref l⟩] 1) :: (l, listOf ([.ref T1, .ref T2, .ref T3] : List Value).toArray n) :: (T1, { cls := Value.type "tuple", data := Data.seq ([.str a1 u1, .str b1 v1] : List Value).toArray }) :: (T2, { cls := Value.type "tuple", data := Data.seq ([.str a2 u2, .str b2 v2] : List Value).toArray }) :: (T3, { cls := Value.type "tuple", data := Data.seq ([.str a3 u3, .str b3 v3] : List Value).toArray }) :: news) → Top p loose mean mg mb h₀ → cs.kind = .function →
    dp + 8 < recursionLimit → un + 800 < cLine →
    (∀ (V : Addr) (c : Nat) (h' : Heap) (tk' : Nat), Fr h₀ L h' m → News h₀ L h' ((V, listOf ([.str b1 v1, .str b2 v2, .str b3 v3] : List Value).toArray c) :: news) → LCg.Off1 V news → Q (.ref V) { s with heap := h', toks := tk' }) →
      wpAny (model prog w) (ktrTop dp un gd cn cs L a ccd cl outer) (call (.ref 185) [.ref I]) Q E s := by
  k_with_none
  k_with "k_room" => ktr_room
  k_with "k_all" => exact all_far (by assumption) (by omega)
  k_with "CompEnd" => (k_dflt (refine LCg.CompEnd.intro (by assumption) (by assumption) _ (fun p hp => hp) (by first | assumption | (simp only [LCg.Off3, and_true]; assumption)) (by first | (show _ ∈ _; k_mem) | lcg_src) ?_))
  intro prog p loose mean mg mb news dp un gd cn cs a ccd cl outer A₀ base h₀ L m s Q E
  obtain ⟨kind, names, isG, isC, more⟩ := cs
  intro hB hF hX hN hT hk hdp hun hret
  simp only at hk
  subst hk
  refine wpAny_call ?_
  k_dflt k_enter
  k_steps
  exact hret _ _ _ _ (by k_asm) (news_pick (by assumption) (by k_mem) (fun p hp => by repeat (first | exact hp | apply List.mem_cons_of_mem))) (And.right (And.right (And.right (And.right (And.right (And.right (by assumption)))))))
theorem vals_0 (w : World) (I d l : Addr) (kt : Tok) (n : Nat) :
  ∀ (prog : Program) (p : Program) (loose : List Str) (mean : ExcName → Option Value) (mg mb : Str → Option Value) (news : List (Addr × Obj))
    (dp un : Nat) (gd : Option (List Code)) (cn : Str) (cs : Scope) (a : Addr) (ccd : Value) (cl : List (Str × Addr)) (outer : List Env) (A₀ : Around) (base h₀ : Heap) (L : Addr) (m : Str → Option Value) (s : Shared) (Q E : Value → Shared → Prop),
    Below A₀ base outer h₀ → Fr h₀ L s.heap m → (hd.heap_39 w.params).In h₀ →
    News h₀ L s.heap ((I, instObj 228 d) :: (d, dictOf [⟨PyData.keyHash w.params (Str.ofString "_headers"), .str (Str.ofString "_headers") kt, .ref l⟩] 1) :: (l, listOf ([] : List Value).toArray n) :: news) → Top p loose mean mg mb h₀ → cs.kind = .function →
    dp + 8 < recursionLimit → un + 800 < cLine →
    (∀ (V : Addr) (c : Nat) (h' : Heap) (tk' : Nat), Fr h₀ L h' m → News h₀ L h' ((V, listOf ([] : List Value).toArray c) :: news) → LCg.Off1 V news → Q (.ref V) { s with heap := h', toks := tk' }) →
      wpAny (model prog w) (ktrTop dp un gd cn cs L a ccd cl outer) (call (.ref 185) [.ref I]) Q E s := by
  intro prog p loose mean mg mb news dp un gd cn cs a ccd cl outer A₀ base h₀ L m s Q E
  obtain ⟨kind, names, isG, isC, more⟩ := cs
  intro hB hF hX hN hT hk hdp hun hret
  simp only at hk
  subst hk
  refine wpAny_call ?_
  k_dflt k_enter
  k_steps
  exact hret _ _ _ _ (by k_asm) (news_pick (by assumption) (by k_mem) (fun p hp => by repeat (first | exact hp | apply List.mem_cons_of_mem))) (And.right (And.right (And.right (by assumption))))
end
end Mine
end
section
open PySem PySem.W PySem.Spec PySem.Calls PyProof.Rows
set_option maxHeartbeats 8000000
namespace Mine
theorem rs_V2 : True := by
  k_with_none
  exact trivial
section
section
variable {prog : Program} {w : World} {A : Around} {E : Value → Shared → Prop} {s : Shared} {h₀ : Heap} {L : Addr}
theorem sub_tup {T : Addr} {news : List (Addr × Obj)} {vs : List Value} {n : Nat} {k : Int} {v : Value} {u : Tok} {value slice : PySem.Expr} {Q : Value → Shared → Prop} (N : News h₀ L s.heap news) (hm : (T, ({ cls := Value.type "tuple", data := Data.seq vs.toArray n } : Obj)) ∈ news) (h0 : 0 ≤ k) (hfit : k < 2 ^ 63) (e : vs[k.toNat]? = some v) (h : Q v s)
    (hs : subscripted slice false (.ref T) (.int k u) = operate [.ref T, .int k u] (getItem (.ref T) (.int k u)) := by with_unfolding_all rfl) :
    wpAny (model prog w) A (subscriptTail value slice (.ref T) (.int k u)) Q E s :=
  have ht : IsTup s.heap T vs.toArray := ⟨_, (N _ hm).1, rfl, n, rfl⟩
  have hl : k.toNat < vs.length := (List.getElem?_eq_some_iff.mp e).1
  item_tupleT ht (by omega) hfit (seqIndex_of h0 (by omega)) e h hs
end
noncomputable def isK (nm a : Str) : Nat := if (Txt.lower a == Txt.lower nm) = true then 1 else 0
theorem gets_c (w : World) (nm : Str) (tn : Tok) (I d l T1 T2 T3 : Addr) (kt : Tok) (n : Nat) (a1 b1 a2 b2 a3 b3 : Str) (u1 v1 u2 v2 u3 v3 : Tok) (hnm : Name (Txt.lower nm)) (hnl : nm.length ≤ 20) (ha1 : a1.length ≤ 20) (ha2 : a2.length ≤ 20) (ha3 : a3.length ≤ 20) :
  ∀ (prog : Program) (p : Program) (loose : List Str) (mean : ExcName → Option Value) (mg mb : Str → Option Value) (news : List (Addr × Obj))
    (dp un : Nat) (gd : Option (List Code)) (cn : Str) (cs : Scope) (a : Addr) (ccd : Value) (cl : List (Str × Addr)) (outer : List Env) (A₀ : Around) (base h₀ : Heap) (L : Addr) (m : Str → Option Value) (s : Shared) (Q E : Value → Shared → Prop),
    Below A₀ base outer h₀ → Fr h₀ L s.heap m → (hd.heap_39 w.params).In h₀ →
    News h₀ L s.heap ((I, instObj 228 d) :: (d, dictOf [⟨PyData.keyHash w.params (Str.ofString "_headers"), .str (Str.ofString "_headers") kt, .ref l⟩] 1) :: (l, listOf ([.ref T1, .ref T2, .ref T3] : List Value).toArray n) :: (T1, { cls := Value.type "tuple", data := Data.seq ([.str a1 u1, .str b1 v1] : List Value).toArray }) :: (T2, { cls := Value.type "tuple", data := Data.seq ([.str a2 u2, .str b2 v2] : List Value).toArray }) :: (T3, { cls := Value.type "tuple", data := Data.seq ([.str a3 u3, .str b3 v3] : List Value).toArray }) :: news) → Top p loose mean mg mb h₀ → cs.kind = .function →
    dp + 8 < recursionLimit → un + 800 < cLine →
    (∀ (V : Addr) (vs : List Value) (c : Nat) (h' : Heap) (tk' : Nat), vs.length = isK nm a1 + isK nm a2 + isK nm a3 → Fr h₀ L h' m → News h₀ L h' ((V, listOf vs.toArray c) :: news) → LCg.Off1 V news → Q (.ref V) { s with heap := h', toks := tk' }) →
      wpAny (model prog w) (ktrTop dp un gd cn cs L a ccd cl outer) (call (.ref 167) [.ref I, .str nm tn]) Q E s := by
  k_with_none
  k_with "k_mem" => k_extra "mem8"
  k_with "mem8" => first | exact List.Mem.head _ | exact mem1 | exact mem2 | exact mem3 | exact mem4 | exact mem5 | exact mem6 | exact mem7 | (refine' mem8 ?_; k_extra "mem8")
  k_with "k_subL" => first | exact trivial | (refine' Sq.subL ?_; k_extra "sq") | (refine And.intro (by k_mem) ?_; k_subL)
  k_with "sq" => first | exact Sq.nil _ | (refine' Sq.keep ?_; k_extra "sq") | (refine' Sq.skip ?_; k_extra "sq")
  k_with "z enter" => k_dflt (refine' code_defC ?k1 ?k2 ?k3 ?k4 ?k5 ?kA ?kF ?kK ?k6 ?k7 ?k8 ?k9 ?kB ?kD ?_ ?c2 ?c3 ?c4; (case kA => exact rfl); (case kF => exact rfl); (case kK => first | exact rfl | assumption); (case k1 => k_asm); (case k2 => k_asm); (case k3 => k_asm); (case k4 => k_asm); (case k5 => k_asm); (case k6 => k_is); (case k7 => k_is); (case k8 => ktr_room); (case k9 => exact BindsTo.of_eq rfl); (case kB => exact rfl); (case kD => decide +kernel); (case c2 => exact rfl); (case c3 => exact rfl); (case c4 => exact rfl); k_whole; intro _ _ _ _ _ _ _ N' Y' B' _ _ l1; (try k_lt l1); k_cells Y'; (try simp only [List.cons_append, List.nil_append] at N'); (try dsimp only); (try k_lift B'); (try k_fold))
  k_with "k_room" => ktr_room
  k_with "k_all" => exact all_far (by assumption) (by omega)
  k_with "CompEnd" => (k_dflt (refine LCg.CompEnd.intro (by assumption) (by assumption) _ (fun p hp => hp) (by first | assumption | (simp only [LCg.Off3, and_true]; assumption)) (by first | (show _ ∈ _; k_mem) | lcg_src) ?_))
  k_with "getMethod ref" => (k_here; k_dflt (first | refine get_search94 (by k_in) ?_ | refine get_search99 (by k_in) ?_); (try dsimp only))
  k_with "call builtin:re.Pattern.search" => (k_here; k_dflt (first | refine search_teller (by k_in) (by assumption) ?_ | refine search_name (by k_in) (by assumption) ?_))
  k_with "subscriptTail Name Constant ref int" => ((with_reducible show wpAny _ _ (subscriptTail _ _ (Value.ref _) (Value.int _ _)) _ _ _); k_dflt (refine' sub_tup ?k1 ?k2 ?k4 ?k5 ?k6 ?_ ?k7; (case k1 => k_asm); (case k2 => k_mem); (case k4 => decide); (case k5 => decide); (case k6 => with_unfolding_all rfl); (case k7 => with_unfolding_all rfl); k_whole))
  k_with "eval Name" => (k_here; (with_reducible show wpAny _ _ (eval (Expr.Name _ _) (compEnvC _ _ _ _)) _ _ _); k_dflt (refine LCgL.ld_own (by k_asm) (by k_mem) (by with_reducible assumption) (by with_reducible assumption) ?_))
  intro prog p loose mean mg mb news dp un gd cn cs a ccd cl outer A₀ base h₀ L m s Q E
  obtain ⟨kind, names, isG, isC, more⟩ := cs
  intro hB hF hX hN hT hk hdp hun hret
  simp only at hk
  subst hk
  refine wpAny_call ?_
  walk_at "z enter"
  k_steps
  all_goals (refine hret _ _ _ _ _ ?_ (by k_asm) (news_pick (by assumption) (by k_mem) (fun p hp => by repeat (first | exact hp | apply List.mem_cons_of_mem))) (And.right (And.right (And.right (And.right (And.right (And.right (And.right (by assumption)))))))))
  all_goals simp [isK, *]
end
end Mine
end
section
open PySem PySem.W PySem.Spec PySem.Calls PyProof.Rows
set_option maxHeartbeats 8000000
namespace Mine
theorem rs_Z1 : True := by
  k_with_none
  exact trivial
noncomputable def lawOf : List Stmt × Scope := match PySem.Challenge.pw_wo0071_01.main.body.getLast? with
  | some (.FunctionDef _ _ b _ _ _ sc _ _ _) => (b, sc)
  | _ => ([], default)
noncomputable abbrev lawEnv (L fa : Addr) (ccd : Value) : Env := envOfC (Str.ofString "law") lawOf.2 L fa ccd
noncomputable def LawEnd (h₀ : Heap) (L : Addr) (s : Shared) (Q : Flow → Shared → Prop) : Prop := ∀ (h' : Heap) (tk' : Nat) (m' : Str → Option Value), Fr h₀ L h' m' → Q (.ret (.bool true)) { s with heap := h', toks := tk' }
/-- the words as get_all asks for them -/
structure GetPre (w0 w1 : Str) : Prop where
  nm : Name (Txt.lower (Txt.upper w1))
  ln : (Txt.upper w1).length ≤ 20
  l0 : w0.length ≤ 20
  l1 : w1.length ≤ 20
  v0 : (Txt.upper w0).length ≤ 20
  k0 : isK (Txt.upper w1) w0 = 0
  k1 : isK (Txt.upper w1) w1 = 1
  u0 : isK (Txt.upper w1) (Txt.upper w0) = 0
  u1 : isK (Txt.upper w1) (Txt.upper w1) = 1
theorem GetPre.pl {w0 w1 : Str} (h : GetPre w0 w1) {o : Int} : (pickS o w0 w1).length ≤ 20 := by
  unfold pickS; split
  · exact h.l0
  · exact h.l1
theorem GetPre.ul {w0 w1 : Str} (h : GetPre w0 w1) {o : Int} : (Txt.upper (pickS o w0 w1)).length ≤ 20 := by
  unfold pickS; split
  · exact h.v0
  · exact h.ln
noncomputable def decV (U a b c : Str) : Int := if 1 < isK U a + isK U b + isK U c then 1 else 0
theorem decV_one {U a b c : Str} {n : Nat} (h : n = isK U a + isK U b + isK U c) (h1 : (1 : Int) < n) : 1 = decV U a b c := by
  unfold decV; rw [if_pos (by omega)]
theorem decV_zero {U a b c : Str} {n : Nat} (h : n = isK U a + isK U b + isK U c) (h1 : ¬ (1 : Int) < n) : 0 = decV U a b c := by
  unfold decV; rw [if_neg (by omega)]
theorem decV_pick {w0 w1 : Str} (G : GetPre w0 w1) {x y z : Int} (hx : x = 0 ∨ x = 1) (hy : y = 0 ∨ y = 1) (hz : z = 0 ∨ z = 1) :
    decV (Txt.upper w1) (pickS x w0 w1) (Txt.upper (pickS y w0 w1)) (Txt.upper (pickS z w0 w1)) = if 1 < x + y + z then 1 else 0 := by
  have e0 : pickS 0 w0 w1 = w0 := rfl
  have e1 : pickS 1 w0 w1 = w1 := rfl
  rcases hx with rfl | rfl <;> rcases hy with rfl | rfl <;> rcases hz with rfl | rfl <;> simp only [decV, e0, e1, G.k0, G.k1, G.u0, G.u1] <;> rfl
noncomputable abbrev heads (w : World) (d l : Addr) (kt : Tok) : Addr × Obj := (d, dictOf [⟨PyData.keyHash w.params (Str.ofString "_headers"), .str (Str.ofString "_headers") kt, .ref l⟩] 1)
noncomputable abbrev tupA (T : Addr) (a b : Str) (u v : Tok) : Addr × Obj := (T, { cls := Value.type "tuple", data := Data.seq ([.str a u, .str b v] : List Value).toArray })
section
variable {w : World} {prog : Program} {p : Program} {loose : List Str} {mean : ExcName → Option Value} {mg mb : Str → Option Value} {led : List (Addr × Obj)}
    {dp un : Nat} {gd : Option (List Code)} {cn : Str} {cs : Scope} {a : Addr} {ccd : Value} {cl : List (Str × Addr)} {outer : List Env} {A₀ : Around} {base h₀ : Heap} {L : Addr} {m : Str → Option Value} {s : Shared} {Q E : Value → Shared → Prop}
theorem vals_u0 {I d l : Addr} {kt : Tok} {n : Nat} (hB : Below A₀ base outer h₀) (hF : Fr h₀ L s.heap m) (hX : (hd.heap_39 w.params).In h₀) (hN : News h₀ L s.heap led) (hT : Top p loose mean mg mb h₀) (hk : cs.kind = .function)
    (mI : (I, instObj 228 d) ∈ led) (md : heads w d l kt ∈ led) (ml : (l, listOf ([] : List Value).toArray n) ∈ led) (hdp : dp + 8 < recursionLimit) (hun : un + 800 < cLine)
    (hret : ∀ (V : Addr) (c : Nat) (h' : Heap) (tk' : Nat), Fr h₀ L h' m → News h₀ L h' ((V, listOf ([] : List Value).toArray c) :: led) → LCg.Off1 V led → Q (.ref V) { s with heap := h', toks := tk' }) :
      wpAny (model prog w) (ktrTop dp un gd cn cs L a ccd cl outer) (call (.ref 185) [.ref I]) Q E s :=
  vals_0 w I d l kt n prog p loose mean mg mb led dp un gd cn cs a ccd cl outer A₀ base h₀ L m s Q E hB hF hX (news_front (news_front (news_front hN ml) (.tail _ md)) (.tail _ (.tail _ mI))) hT hk hdp hun hret
theorem vals_u {I d l T1 T2 T3 : Addr} {kt : Tok} {n : Nat} {a1 b1 a2 b2 a3 b3 : Str} {u1 v1 u2 v2 u3 v3 : Tok} (hB : Below A₀ base outer h₀) (hF : Fr h₀ L s.heap m) (hX : (hd.heap_39 w.params).In h₀) (hN : News h₀ L s.heap led) (hT : Top p loose mean mg mb h₀) (hk : cs.kind = .function)
    (mI : (I, instObj 228 d) ∈ led) (md : heads w d l kt ∈ led) (ml : (l, listOf ([.ref T1, .ref T2, .ref T3] : List Value).toArray n) ∈ led) (m1 : tupA T1 a1 b1 u1 v1 ∈ led) (m2 : tupA T2 a2 b2 u2 v2 ∈ led) (m3 : tupA T3 a3 b3 u3 v3 ∈ led) (hdp : dp + 8 < recursionLimit) (hun : un + 800 < cLine)
    (hret : ∀ (V : Addr) (c : Nat) (h' : Heap) (tk' : Nat), Fr h₀ L h' m → News h₀ L h' ((V, listOf ([.str b1 v1, .str b2 v2, .str b3 v3] : List Value).toArray c) :: led) → LCg.Off1 V led → Q (.ref V) { s with heap := h', toks := tk' }) :
      wpAny (model prog w) (ktrTop dp un gd cn cs L a ccd cl outer) (call (.ref 185) [.ref I]) Q E s :=
  vals_c w I d l T1 T2 T3 kt n a1 b1 a2 b2 a3 b3 u1 v1 u2 v2 u3 v3 prog p loose mean mg mb led dp un gd cn cs a ccd cl outer A₀ base h₀ L m s Q E hB hF hX
    (news_front (news_front (news_front (news_front (news_front (news_front hN m3) (.tail _ m2)) (.tail _ (.tail _ m1))) (.tail _ (.tail _ (.tail _ ml)))) (.tail _ (.tail _ (.tail _ (.tail _ md))))) (.tail _ (.tail _ (.tail _ (.tail _ (.tail _ mI)))))) hT hk hdp hun hret
theorem gets_u {I d l T1 T2 T3 : Addr} {nm : Str} {tn : Tok} {kt : Tok} {n : Nat} {a1 b1 a2 b2 a3 b3 : Str} {u1 v1 u2 v2 u3 v3 : Tok} (hnm : Name (Txt.lower nm)) (hnl : nm.length ≤ 20) (hB : Below A₀ base outer h₀) (hF : Fr h₀ L s.heap m) (hX : (hd.heap_39 w.params).In h₀) (hN : News h₀ L s.heap led) (hT : Top p loose mean mg mb h₀) (hk : cs.kind = .function)
    (mI : (I, instObj 228 d) ∈ led) (md : heads w d l kt ∈ led) (ml : (l, listOf ([.ref T1, .ref T2, .ref T3] : List Value).toArray n) ∈ led) (m1 : tupA T1 a1 b1 u1 v1 ∈ led) (m2 : tupA T2 a2 b2 u2 v2 ∈ led) (m3 : tupA T3 a3 b3 u3 v3 ∈ led)
    (ha1 : a1.length ≤ 20) (ha2 : a2.length ≤ 20) (ha3 : a3.length ≤ 20) (hdp : dp + 8 < recursionLimit) (hun : un + 800 < cLine)
    (hret : ∀ (V : Addr) (vs : List Value) (c : Nat) (h' : Heap) (tk' : Nat), vs.length = isK nm a1 + isK nm a2 + isK nm a3 → Fr h₀ L h' m → News h₀ L h' ((V, listOf vs.toArray c) :: led) → LCg.Off1 V led → Q (.ref V) { s with heap := h', toks := tk' }) :
      wpAny (model prog w) (ktrTop dp un gd cn cs L a ccd cl outer) (call (.ref 167) [.ref I, .str nm tn]) Q E s :=
  gets_c w nm tn I d l T1 T2 T3 kt n a1 b1 a2 b2 a3 b3 u1 v1 u2 v2 u3 v3 hnm hnl ha1 ha2 ha3 prog p loose mean mg mb led dp un gd cn cs a ccd cl outer A₀ base h₀ L m s Q E hB hF hX
    (news_front (news_front (news_front (news_front (news_front (news_front hN m3) (.tail _ m2)) (.tail _ (.tail _ m1))) (.tail _ (.tail _ (.tail _ ml)))) (.tail _ (.tail _ (.tail _ (.tail _ md))))) (.tail _ (.tail _ (.tail _ (.tail _ (.tail _ mI)))))) hT hk hdp hun hret
end
theorem off_v {I C D V : Addr} {o oI oC oD : Obj} {led rest : List (Addr × Obj)} (a : LCg.Off1 V led) (hI : (I, oI) ∈ led) (hC : (C, oC) ∈ led) (hD : (D, oD) ∈ led) (h : LCg.Off3 I C D rest) : LCg.Off3 I C D ((V, o) :: rest) :=
  ⟨⟨Ne.symm (off1_ne a hI), Ne.symm (off1_ne a hC), Ne.symm (off1_ne a hD)⟩, h⟩
end Mine
namespace Mine
noncomputable def isCellB : Data → Bool
  | .cell _ => true
  | _ => false
theorem notCell {o : Obj} (h : isCellB o.data = false) : ∀ v, o.data ≠ .cell v := fun v e => by rw [e] at h; cases h
/-- what is left of a ledger when the cell c turns -/
inductive KeepR (c : Addr) : List (Addr × Obj) → List (Addr × Obj) → Prop
  | nil : KeepR c [] []
  | skip {p : Addr × Obj} {r r' : List (Addr × Obj)} : KeepR c r r' → KeepR c (p :: r) r'
  | keep {p : Addr × Obj} {r r' : List (Addr × Obj)} : ((∀ v, p.2.data ≠ .cell v) ∨ @Ne Nat p.1 c) → KeepR c r r' → KeepR c (p :: r) (p :: r')
theorem KeepR.at {c : Addr} : ∀ {news l : List (Addr × Obj)}, KeepR c news l → ∀ p ∈ l, p ∈ news ∧ ((∀ v, p.2.data ≠ .cell v) ∨ @Ne Nat p.1 c)
  | _, _, .nil, _, h => by cases h
  | _, _, .skip r, p, h => ⟨.tail _ (r.at p h).1, (r.at p h).2⟩
  | _, _, .keep h1 r, p, h => by
    rcases List.mem_cons.mp h with e | h
    · rw [e]; exact ⟨.head _, h1⟩
    · exact ⟨.tail _ (r.at p h).1, (r.at p h).2⟩
section
variable {M : Model} {A : Around} {E : Value → Shared → Prop} {s : Shared} {h₀ : Heap} {L : Addr} {m : Str → Option Value} {x : Str} {v : Value} {Q : Unit → Shared → Prop} {news keep : List (Addr × Obj)} {c : Addr} {o : Obj} {v₀ : Option Value} {env : Env}
/-- a cell is stored, the ledger told anew -/
theorem store_cellK (F : Fr h₀ L s.heap m) (N : News h₀ L s.heap news) (hc : env.cells.lookup x = some c) (hm : (c, o) ∈ news) (hd : o.data = .cell v₀) (hs : KeepR c news keep)
    (h : ∀ h' o', Fr h₀ L h' m → News h₀ L h' ((c, o') :: keep) → o'.data = .cell (some v) → Q () { s with heap := h' })
    (hk : env.scope.kind = .function := by rfl) (hx : env.kindOf x = some .cell := by rfl) : wpAny M A (storeName env x v) Q E s := by
  have hmem := N (c, o) hm
  refine wpAny_storeName_cell hk hx hc ⟨o, hmem.1, hd⟩ fun h' hv hsb => ?_
  obtain ⟨o', ho', hd'⟩ := hv
  refine h h' o' ⟨F.ns.sameBut hsb (Ne.symm hmem.2.1), fun b ob e => (hsb.2 b (fun q => ?_)).trans (F.keep b ob e), F.above⟩ (fun p hp => ?_) hd'
  · rw [q, hmem.2.2] at e; cases e
  · rcases List.mem_cons.mp hp with e | hp
    · rw [e]; exact ⟨ho', hmem.2⟩
    · obtain ⟨hpn, hne⟩ := hs.at p hp
      have hp' := N p hpn
      have hne' : p.1 ≠ c := by
        rcases hne with hne | hne
        · intro e
          rw [e, hmem.1] at hp'
          exact hne v₀ (by rw [← Option.some.inj hp'.1]; exact hd)
        · exact hne
      exact ⟨(hsb.2 p.1 hne').trans hp'.1, hp'.2⟩
end
end Mine
namespace Mine
theorem news_rot3 {h₀ h : Heap} {L : Addr} {a b c d : Addr × Obj} {r : List (Addr × Obj)} (N : News h₀ L h (d :: a :: b :: c :: r)) : News h₀ L h (a :: b :: c :: d :: r) := fun q hq => N q (by
  simp only [List.mem_cons] at hq ⊢
  rcases hq with h | h | h | h | h <;> simp [h])
end Mine
namespace Mine
theorem news_tl {h₀ h : Heap} {L : Addr} {a : Addr × Obj} {r : List (Addr × Obj)} (N : News h₀ L h (a :: r)) : News h₀ L h r := fun q hq => N q (.tail _ hq)
noncomputable def IfPost2 (h₀ : Heap) (L : Addr) (m : Str → Option Value) (news : List (Addr × Obj)) (P : Int → Prop) (s : Shared) (v : Value) (s' : Shared) : Prop := ∃ y t h' k, v = .int y t ∧ P y ∧ s' = { s with heap := h', toks := k } ∧ Fr h₀ L h' m ∧ News h₀ L h' news
theorem ifexp_cut2 {prog : Program} {w : World} {A : Around} {E : Value → Shared → Prop} {s : Shared} {e : PySem.Expr} {env : Env} {Q : Value → Shared → Prop} {h₀ : Heap} {L : Addr} {m : Str → Option Value} {news : List (Addr × Obj)} (P : Int → Prop)
    (_F : Fr h₀ L s.heap m) (_N : News h₀ L s.heap news) (h1 : wpAny (model prog w) A (eval e env) (IfPost2 h₀ L m news P s) E s)
    (h2 : ∀ y t h' k, P y → Fr h₀ L h' m → News h₀ L h' news → Q (.int y t) { s with heap := h', toks := k }) : wpAny (model prog w) A (eval e env) Q E s :=
  wpAny_mono h1 (fun v s' ⟨y, t, h', k, e1, hp, e2, F, N⟩ => by subst e1 e2; exact h2 y t h' k hp F N) fun _ _ x => x
theorem isK_le {U a : Str} : isK U a ≤ 1 := by unfold isK; split <;> omega
theorem len_got {prog : Program} {w : World} {A : Around} {E : Value → Shared → Prop} {s : Shared} {Q : Value → Shared → Prop} {h₀ : Heap} {L D : Addr} {news : List (Addr × Obj)} {vs : List Value} {c : Nat} {U a b d : Str} (N : News h₀ L s.heap news) (hm : (D, listOf vs.toArray c) ∈ news) (h : vs.length = isK U a + isK U b + isK U d)
    (hq : Q (.int (vs.length : Int) (s.toks + 1)) { s with toks := s.toks + 1 + 1 }) : wpAny (model prog w) A (call (.builtin "len") [.ref D]) Q E s := by
  have h1 := @isK_le U a
  have h2 := @isK_le U b
  have h3 := @isK_le U d
  exact kun_lenL (News.isList N hm) (by rw [List.size_toArray]) (by omega) hq
end Mine
namespace Mine
theorem news_tl10 {h₀ h : Heap} {L : Addr} {a1 a2 a3 a4 a5 a6 a7 a8 a9 a10 : Addr × Obj} {r : List (Addr × Obj)} (N : News h₀ L h (a1 :: a2 :: a3 :: a4 :: a5 :: a6 :: a7 :: a8 :: a9 :: a10 :: r)) : News h₀ L h r := fun q hq => N q (.tail _ (.tail _ (.tail _ (.tail _ (.tail _ (.tail _ (.tail _ (.tail _ (.tail _ (.tail _ hq))))))))))
end Mine
namespace Mine
theorem four_int {f : Int} (h : 0 ≤ f ∧ f ≤ 3) : f = 0 ∨ f = 1 ∨ f = 2 ∨ f = 3 := by omega
end Mine
end
section
open PySem PySem.W PySem.Spec PySem.Calls PyProof.Rows
set_option maxHeartbeats 8000000
namespace Mine
theorem rs_Z2 : True := by
  k_with_none
  exact trivial
theorem end_f0 {w0 w1 : Str} (G : GetPre w0 w1) {o c1 c2 c3 c4 c5 c6 c7 c8 c9 x1 x2 x3 y10 y11 y20 y21 y30 y31 a b c : Int} (e1 : x1 = if (0 : Int) = 0 then c1.fmod 2 else o) (e2 : x2 = if (0 : Int) = 0 then c2.fmod 2 else o) (e3 : x3 = if (0 : Int) = 0 then c3.fmod 2 else o) (e4 : y10 = if (0 : Int) = 1 then c4.fmod 2 else x1) (e5 : y11 = if (0 : Int) = 1 then c5.fmod 2 else x1) (e6 : y20 = if (0 : Int) = 2 then c6.fmod 2 else x2) (e7 : y21 = if (0 : Int) = 2 then c7.fmod 2 else x2) (e8 : y30 = if (0 : Int) = 3 then c8.fmod 2 else x3) (e9 : y31 = if (0 : Int) = 3 then c9.fmod 2 else x3)
    (h1 : a = decV (Txt.upper w1) (pickS x1 w0 w1) (Txt.upper (pickS y20 w0 w1)) (Txt.upper (pickS y30 w0 w1))) (h2 : b = decV (Txt.upper w1) (pickS x2 w0 w1) (Txt.upper (pickS y10 w0 w1)) (Txt.upper (pickS y31 w0 w1))) (h3 : c = decV (Txt.upper w1) (pickS x3 w0 w1) (Txt.upper (pickS y11 w0 w1)) (Txt.upper (pickS y21 w0 w1))) :
    decide ([a, b, c] = (List.replicate (Int.toNat 3) [a]).flatten) = true := by
  rw [if_pos rfl] at e1 e2 e3
  rw [if_neg (by decide)] at e4 e5 e6 e7 e8 e9
  have b1 : x1 = 0 ∨ x1 = 1 := e1 ▸ mod_two c1
  have b2 : x2 = 0 ∨ x2 = 1 := e2 ▸ mod_two c2
  have b3 : x3 = 0 ∨ x3 = 1 := e3 ▸ mod_two c3
  rw [e6, e8, decV_pick G b1 b2 b3] at h1
  rw [e4, e9, decV_pick G b2 b1 b3, show x2 + x1 + x3 = x1 + x2 + x3 by omega] at h2
  rw [e5, e7, decV_pick G b3 b1 b2, show x3 + x1 + x2 = x1 + x2 + x3 by omega] at h3
  rw [h2, h3, ← h1]
  exact decide_eq_true rfl
theorem two_ends {w0 w1 : Str} (G : GetPre w0 w1) {o z : Int} (ho : o = 0 ∨ o = 1) (hz : z = 0 ∨ z = 1) : decV (Txt.upper w1) (pickS o w0 w1) (Txt.upper (pickS z w0 w1)) (Txt.upper (pickS o w0 w1)) = o ∧ decV (Txt.upper w1) (pickS o w0 w1) (Txt.upper (pickS o w0 w1)) (Txt.upper (pickS z w0 w1)) = o := by
  rw [decV_pick G ho hz ho, decV_pick G ho ho hz]
  rcases ho with rfl | rfl <;> rcases hz with rfl | rfl <;> exact ⟨rfl, rfl⟩
theorem end_f1 {w0 w1 : Str} (G : GetPre w0 w1) {o c1 c2 c3 c4 c5 c6 c7 c8 c9 x1 x2 x3 y10 y11 y20 y21 y30 y31 b c : Int} (ho : o = 0 ∨ o = 1) (e1 : x1 = if (1 : Int) = 0 then c1.fmod 2 else o) (e2 : x2 = if (1 : Int) = 0 then c2.fmod 2 else o) (e3 : x3 = if (1 : Int) = 0 then c3.fmod 2 else o) (e4 : y10 = if (1 : Int) = 1 then c4.fmod 2 else x1) (e5 : y11 = if (1 : Int) = 1 then c5.fmod 2 else x1) (e6 : y20 = if (1 : Int) = 2 then c6.fmod 2 else x2) (e7 : y21 = if (1 : Int) = 2 then c7.fmod 2 else x2) (e8 : y30 = if (1 : Int) = 3 then c8.fmod 2 else x3) (e9 : y31 = if (1 : Int) = 3 then c9.fmod 2 else x3)
    (h2 : b = decV (Txt.upper w1) (pickS x2 w0 w1) (Txt.upper (pickS y10 w0 w1)) (Txt.upper (pickS y31 w0 w1))) (h3 : c = decV (Txt.upper w1) (pickS x3 w0 w1) (Txt.upper (pickS y11 w0 w1)) (Txt.upper (pickS y21 w0 w1))) : decide ([b, c] = [o, o]) = true := by
  rw [if_neg (by decide)] at e1 e2 e3 e6 e7 e8 e9
  rw [if_pos rfl] at e4 e5
  subst e1 e2 e3 e6 e7 e8 e9
  have z4 : y10 = 0 ∨ y10 = 1 := e4 ▸ mod_two c4
  have z5 : y11 = 0 ∨ y11 = 1 := e5 ▸ mod_two c5
  rw [(two_ends G ho z4).1] at h2
  rw [(two_ends G ho z5).1] at h3
  rw [h2, h3]
  exact decide_eq_true rfl
theorem end_f2 {w0 w1 : Str} (G : GetPre w0 w1) {o c1 c2 c3 c4 c5 c6 c7 c8 c9 x1 x2 x3 y10 y11 y20 y21 y30 y31 a c : Int} (ho : o = 0 ∨ o = 1) (e1 : x1 = if (2 : Int) = 0 then c1.fmod 2 else o) (e2 : x2 = if (2 : Int) = 0 then c2.fmod 2 else o) (e3 : x3 = if (2 : Int) = 0 then c3.fmod 2 else o) (e4 : y10 = if (2 : Int) = 1 then c4.fmod 2 else x1) (e5 : y11 = if (2 : Int) = 1 then c5.fmod 2 else x1) (e6 : y20 = if (2 : Int) = 2 then c6.fmod 2 else x2) (e7 : y21 = if (2 : Int) = 2 then c7.fmod 2 else x2) (e8 : y30 = if (2 : Int) = 3 then c8.fmod 2 else x3) (e9 : y31 = if (2 : Int) = 3 then c9.fmod 2 else x3)
    (h1 : a = decV (Txt.upper w1) (pickS x1 w0 w1) (Txt.upper (pickS y20 w0 w1)) (Txt.upper (pickS y30 w0 w1))) (h3 : c = decV (Txt.upper w1) (pickS x3 w0 w1) (Txt.upper (pickS y11 w0 w1)) (Txt.upper (pickS y21 w0 w1))) : decide ([a, c] = [o, o]) = true := by
  rw [if_neg (by decide)] at e1 e2 e3 e4 e5 e8 e9
  rw [if_pos rfl] at e6 e7
  subst e1 e2 e3 e4 e5 e8 e9
  have z4 : y20 = 0 ∨ y20 = 1 := e6 ▸ mod_two c6
  have z5 : y21 = 0 ∨ y21 = 1 := e7 ▸ mod_two c7
  rw [(two_ends G ho z4).1] at h1
  rw [(two_ends G ho z5).2] at h3
  rw [h1, h3]
  exact decide_eq_true rfl
theorem end_f3 {w0 w1 : Str} (G : GetPre w0 w1) {o c1 c2 c3 c4 c5 c6 c7 c8 c9 x1 x2 x3 y10 y11 y20 y21 y30 y31 a b : Int} (ho : o = 0 ∨ o = 1) (e1 : x1 = if (3 : Int) = 0 then c1.fmod 2 else o) (e2 : x2 = if (3 : Int) = 0 then c2.fmod 2 else o) (e3 : x3 = if (3 : Int) = 0 then c3.fmod 2 else o) (e4 : y10 = if (3 : Int) = 1 then c4.fmod 2 else x1) (e5 : y11 = if (3 : Int) = 1 then c5.fmod 2 else x1) (e6 : y20 = if (3 : Int) = 2 then c6.fmod 2 else x2) (e7 : y21 = if (3 : Int) = 2 then c7.fmod 2 else x2) (e8 : y30 = if (3 : Int) = 3 then c8.fmod 2 else x3) (e9 : y31 = if (3 : Int) = 3 then c9.fmod 2 else x3)
    (h1 : a = decV (Txt.upper w1) (pickS x1 w0 w1) (Txt.upper (pickS y20 w0 w1)) (Txt.upper (pickS y30 w0 w1))) (h2 : b = decV (Txt.upper w1) (pickS x2 w0 w1) (Txt.upper (pickS y10 w0 w1)) (Txt.upper (pickS y31 w0 w1))) : decide ([a, b] = [o, o]) = true := by
  rw [if_neg (by decide)] at e1 e2 e3 e4 e5 e6 e7
  rw [if_pos rfl] at e8 e9
  subst e1 e2 e3 e4 e5 e6 e7
  have z4 : y30 = 0 ∨ y30 = 1 := e8 ▸ mod_two c8
  have z5 : y31 = 0 ∨ y31 = 1 := e9 ▸ mod_two c9
  rw [(two_ends G ho z4).2] at h1
  rw [(two_ends G ho z5).2] at h2
  rw [h1, h2]
  exact decide_eq_true rfl
theorem end_true {h₀ : Heap} {L : Addr} {s : Shared} {Q : Flow → Shared → Prop} {b : Bool} {h' : Heap} {tk' : Nat} {m' : Str → Option Value} (hfin : LawEnd h₀ L s Q) (F : Fr h₀ L h' m') (e : b = true) : Q (.ret (.bool b)) { s with heap := h', toks := tk' } := by
  rw [e]; exact hfin _ _ _ F
/-- what get_all finds of the four pairs of words -/
theorem get_pre (sg : Nat) (hs : sg < 4) : GetPre (wordOf sg 0) (wordOf sg 1) := by
  have up0 : Txt.upper (wordOf sg 0) = upOf sg 0 := four (P := fun sg => Txt.upper (wordOf sg 0) = upOf sg 0) (by decide +kernel) (by decide +kernel) (by decide +kernel) (by decide +kernel) sg hs
  have up1 : Txt.upper (wordOf sg 1) = upOf sg 1 := four (P := fun sg => Txt.upper (wordOf sg 1) = upOf sg 1) (by decide +kernel) (by decide +kernel) (by decide +kernel) (by decide +kernel) sg hs
  have lo1 : Txt.lower (upOf sg 1) = wordOf sg 1 := four (P := fun sg => Txt.lower (upOf sg 1) = wordOf sg 1) (by decide +kernel) (by decide +kernel) (by decide +kernel) (by decide +kernel) sg hs
  have len : ∀ o, o < 2 → (wordOf sg o).length ≤ 20 ∧ (upOf sg o).length ≤ 20 := four (P := fun sg => ∀ o, o < 2 → (wordOf sg o).length ≤ 20 ∧ (upOf sg o).length ≤ 20) (two (by decide +kernel) (by decide +kernel)) (two (by decide +kernel) (by decide +kernel)) (two (by decide +kernel) (by decide +kernel)) (two (by decide +kernel) (by decide +kernel)) sg hs
  have ks : isK (upOf sg 1) (wordOf sg 0) = 0 ∧ isK (upOf sg 1) (wordOf sg 1) = 1 ∧ isK (upOf sg 1) (upOf sg 0) = 0 ∧ isK (upOf sg 1) (upOf sg 1) = 1 :=
    four (P := fun sg => isK (upOf sg 1) (wordOf sg 0) = 0 ∧ isK (upOf sg 1) (wordOf sg 1) = 1 ∧ isK (upOf sg 1) (upOf sg 0) = 0 ∧ isK (upOf sg 1) (upOf sg 1) = 1) (by decide +kernel) (by decide +kernel) (by decide +kernel) (by decide +kernel) sg hs
  refine ⟨?_, ?_, (len 0 (by decide)).1, (len 1 (by decide)).1, ?_, ?_, ?_, ?_, ?_⟩
  · rw [up1, lo1]; exact ⟨sg, 1, hs, by decide, .inl rfl⟩
  · rw [up1]; exact (len 1 (by decide)).2
  · rw [up0]; exact (len 0 (by decide)).2
  · rw [up1]; exact ks.1
  · rw [up1]; exact ks.2.1
  · rw [up1, up0]; exact ks.2.2.1
  · rw [up1]; exact ks.2.2.2
end Mine
end
section
open PySem PySem.W PySem.Spec PySem.Calls PyProof.Rows
set_option maxHeartbeats 8000000
namespace Mine
theorem rs_TD : True := by
  k_with_none
  exact trivial
section
noncomputable def decOf : PySem.Expr × Scope := match (lawOf.1[13]? : Option Stmt) with
  | some (.Assign _ (.ListComp e _ sc _) _) => (e, sc)
  | _ => (.Constant .none 0 default, default)
theorem ld_freeC {M : Model} {A : Around} {E : Value → Shared → Prop} {s : Shared} {h₀ : Heap} {L C c : Addr} {news : List (Addr × Obj)} {scope : Scope} {cl : List (Str × Addr)} {env : Env} {x : Str} {pos : Pos} {v : Value} {o : Obj} {Q : Value → Shared → Prop} (N : News h₀ L s.heap news) (hc : (compEnvC scope cl C env).cells.lookup x = some c) (hm : (c, o) ∈ news) (hd : o.data = .cell (some v)) (h : Q v s)
    (hk : (compEnvC scope cl C env).scope.kind = .function := by rfl) (hx : (compEnvC scope cl C env).kindOf x = some .free := by rfl) (hb : (x == ("__debug__" : Str)) = false := by decide) (hn : (x == ("__classdict__" : Str)) = false := by decide) :
    wpAny M A (eval (.Name x pos) (compEnvC scope cl C env)) Q E s := wpAny_Name (wpAny_loadName_free hk hx hc ⟨o, N.get hm, hd⟩ h hn) hb
noncomputable abbrev decEnv (L fa : Addr) (ccd : Value) (C9 : Addr) : Env := compEnvC decOf.2 [(Str.ofString "words", L + 1 + 1 + 1 + 1 + 1), (Str.ofString "false", L + 1 + 1 + 1 + 1), (Str.ofString "books", L + 1 + 1 + 1 + 1 + 1 + 1)] C9 (lawEnv L fa ccd)
theorem dec_c (w : World) (w0 w1 : Str) (hg9 : GetPre w0 w1) (j x y z : Int) (hj : 0 ≤ j ∧ j < 10) (t0 t1 tj u1 v1 u2 v2 u3 v3 kt : Tok) (D Bk I d l T1 T2 T3 C9 : Addr) (cD cB cL : Nat) (b1 b2 b3 : Str) (bks : List Value) (hbk : bks[j.toNat]? = some (Value.ref I)) (oW oB oC9 : Obj) (hW : oW.data = .cell (some (.ref D))) (hB : oB.data = .cell (some (.ref Bk))) (m9 : Str → Option Value) (hC9 : LCg.NsObj oC9 m9) (hj9 : m9 (Str.ofString "j") = some (.int j tj)) :
  ∀ (prog : Program) (p : Program) (loose : List Str) (mean : ExcName → Option Value) (mg mb : Str → Option Value) (base h₀ : Heap) (L fa : Addr) (ccd : Value) (m : Str → Option Value) (led : List (Addr × Obj)) (s : Shared) (E : Value → Shared → Prop),
    (C9, oC9) ∈ led → (L + 1 + 1 + 1 + 1 + 1, oW) ∈ led → (L + 1 + 1 + 1 + 1 + 1 + 1, oB) ∈ led → (D, listOf [.str w0 t0, .str w1 t1].toArray cD) ∈ led → (Bk, listOf bks.toArray cB) ∈ led → (I, instObj 228 d) ∈ led → heads w d l kt ∈ led → (l, listOf ([.ref T1, .ref T2, .ref T3] : List Value).toArray cL) ∈ led → tupA T1 (pickS x w0 w1) b1 u1 v1 ∈ led → tupA T2 (Txt.upper (pickS y w0 w1)) b2 u2 v2 ∈ led → tupA T3 (Txt.upper (pickS z w0 w1)) b3 u3 v3 ∈ led →
    Below callerA base [] h₀ → Fr h₀ L s.heap m → (hd.heap_39 w.params).In h₀ → News h₀ L s.heap led → Top p loose mean mg mb h₀ →
      wpAny (model prog w) (callerA.deeper (lawEnv L fa ccd)) (eval decOf.1 (decEnv L fa ccd C9)) (IfPost2 h₀ L m led (fun v => v = decV (Txt.upper w1) (pickS x w0 w1) (Txt.upper (pickS y w0 w1)) (Txt.upper (pickS z w0 w1))) s) E s := by
  k_with_none
  k_with "k_room" => ktr_room
  k_with "k_mem" => first | assumption | exact List.Mem.head _ | (refine' List.Mem.tail _ ?_; k_mem)
  k_with "eval Name" => ((with_reducible show wpAny _ _ (eval (Expr.Name (Str.ofString "j") _) _) _ _ _); k_dflt (refine LCgL.ld_own (oC := oC9) (by k_asm) m1 hC9 hj9 ?_))
  k_with "eval Name" => ((with_reducible show wpAny _ _ (eval (Expr.Name (Str.ofString "books") _) _) _ _ _); k_dflt (refine ld_freeC (o := oB) (by k_asm) (by with_unfolding_all rfl) m3 hB ?_))
  k_with "eval Name" => ((with_reducible show wpAny _ _ (eval (Expr.Name (Str.ofString "words") _) _) _ _ _); k_dflt (refine ld_freeC (o := oW) (by k_asm) (by with_unfolding_all rfl) m2 hW ?_))
  k_with "subscriptTail Name Name ref int" => ((with_reducible show wpAny _ _ (subscriptTail _ _ (Value.ref _) (Value.int _ _)) _ _ _); k_dflt (refine' sub_at ?k1 ?k2 ?k4 ?k6 ?_ ?k7; (case k1 => k_asm); (case k2 => assumption); (case k4 => assumption); (case k6 => assumption); (case k7 => with_unfolding_all rfl); k_whole))
  k_with "subscriptTail Name Constant ref int" => ((with_reducible show wpAny _ _ (subscriptTail _ _ (Value.ref _) (Value.int _ _)) _ _ _); k_dflt (refine' sub_val ?k1 ?k2 ?k4 ?k5 ?k6 ?_ ?k7; (case k1 => k_asm); (case k2 => assumption); (case k4 => decide); (case k5 => decide); (case k6 => with_unfolding_all rfl); (case k7 => with_unfolding_all rfl); k_whole))
  k_with "call ref" => (k_here; (with_reducible show wpAny _ _ (call (Value.ref 167) _) _ _ _); (try dsimp only); k_dflt (refine' gets_u ?n1 ?n2 ?k1 ?k2 ?k3 ?k4 ?k5 ?kK ?m1 ?m2 ?m3 ?m4 ?m5 ?m6 ?a1 ?a2 ?a3 ?kd ?ku ?_; (case n1 => exact GetPre.nm (by assumption)); (case n2 => exact GetPre.ln (by assumption)); (case k1 => k_asm); (case k2 => k_asm); (case k3 => k_asm); (case k4 => k_asm); (case k5 => k_asm); (case kK => first | exact rfl | assumption); (case m1 => k_mem); (case m2 => k_mem); (case m3 => k_mem); (case m4 => k_mem); (case m5 => k_mem); (case m6 => k_mem); (case a1 => with_reducible exact GetPre.pl (by assumption)); (case a2 => with_reducible exact GetPre.ul (by assumption)); (case a3 => with_reducible exact GetPre.ul (by assumption)); (case kd => ktr_room); (case ku => ktr_units)); intro _ _ _ _ _ _ _ _ _; (try dsimp only); (try k_fold))
  k_with "call builtin:len" => (k_here; (with_reducible show wpAny _ _ (call (Value.builtin "len") [Value.ref _]) _ _ _); k_dflt (refine len_got (by k_asm) (by k_mem) (by assumption) ?_))
  have hl1 : w1.length ≤ 20 := hg9.l1
  intro prog p loose mean mg mb base h₀ L fa ccd m led s E m1 m2 m3 m4 m5 m6 m7 m8 m9' m10 m11 hBl hF hX hN hT
  show wpAny _ (Around.deeper _ (envOfC _ (Scope.mk _ _ _ _ _) _ _ _)) (eval (Expr.IfExp _ _ _ _) (compEnvC (Scope.mk _ _ _ _ _) _ _ (envOfC _ (Scope.mk _ _ _ _ _) _ _ _))) _ _ _
  refine IfExp_ ?_
  k_steps
  all_goals first | exact ⟨_, _, _, _, rfl, decV_one (by assumption) (by assumption), rfl, by k_asm, news_tl (by assumption)⟩ | exact ⟨_, _, _, _, rfl, decV_zero (by assumption) (by assumption), rfl, by k_asm, news_tl (by assumption)⟩
end
end Mine
end
section
open PySem PySem.W PySem.Spec PySem.Calls PyProof.Rows
set_option maxHeartbeats 8000000
namespace Mine
theorem rs_TE : True := by
  k_with_none
  exact trivial
section
noncomputable def decSt : Stmt := match (lawOf.1[13]? : Option Stmt) with
  | some s => s
  | none => .Pass default
noncomputable def decL (f a b c : Int) : List Int := if f = 0 then [a, b, c] else if f = 1 then [b, c] else if f = 2 then [a, c] else [a, b]
theorem ints_cons9 {vs : List Value} {n : Int} {ns : List Int} (h : IntsAre vs (n :: ns)) : ∃ t r, vs = .int n t :: r ∧ IntsAre r ns := by
  cases h with
  | cons _ t r => exact ⟨t, _, rfl, r⟩
theorem ints_nil9 {vs : List Value} (h : IntsAre vs []) : vs = [] := by
  cases h; rfl
theorem decs_c (w : World) (w0 w1 : Str) (hg9 : GetPre w0 w1) (f x1 x2 x3 y10 y11 y20 y21 y30 y31 : Int) (hf4 : f = 0 ∨ f = 1 ∨ f = 2 ∨ f = 3) (t0 t1 tf ktb ktc ktd p00 q00 p01 q01 p02 q02 p10 q10 p11 q11 p12 q12 p20 q20 p21 q21 p22 q22 : Tok) (D Bk Ia Ib db lb Ic dc lc Id dd ld T1 T2 T3 T10 T11 T20 T21 T30 T31 : Addr) (cD cB nb nc nd : Nat) (e00 e01 e02 e10 e11 e12 e20 e21 e22 : Str) (oW oB oF : Obj) (hW : oW.data = .cell (some (.ref D))) (hB : oB.data = .cell (some (.ref Bk))) (hFd : oF.data = .cell (some (.int f tf))) :
  ∀ (prog : Program) (p : Program) (loose : List Str) (mean : ExcName → Option Value) (mg mb : Str → Option Value) (base h₀ : Heap) (L fa : Addr) (ccd : Value) (m : Str → Option Value) (led : List (Addr × Obj)) (s : Shared) (Q : Flow → Shared → Prop) (E : Value → Shared → Prop),
    (L + 1 + 1 + 1 + 1, oF) ∈ led → (L + 1 + 1 + 1 + 1 + 1, oW) ∈ led → (L + 1 + 1 + 1 + 1 + 1 + 1, oB) ∈ led → (D, listOf [.str w0 t0, .str w1 t1].toArray cD) ∈ led → (Bk, listOf [.ref Ia, .ref Ib, .ref Ic, .ref Id].toArray cB) ∈ led → (Ib, instObj 228 db) ∈ led → heads w db lb ktb ∈ led → (lb, listOf ([.ref T1, .ref T20, .ref T30] : List Value).toArray nb) ∈ led → tupA T1 (pickS x1 w0 w1) e00 p00 q00 ∈ led → tupA T20 (Txt.upper (pickS y20 w0 w1)) e01 p01 q01 ∈ led → tupA T30 (Txt.upper (pickS y30 w0 w1)) e02 p02 q02 ∈ led → (Ic, instObj 228 dc) ∈ led → heads w dc lc ktc ∈ led → (lc, listOf ([.ref T2, .ref T10, .ref T31] : List Value).toArray nc) ∈ led → tupA T2 (pickS x2 w0 w1) e10 p10 q10 ∈ led → tupA T10 (Txt.upper (pickS y10 w0 w1)) e11 p11 q11 ∈ led → tupA T31 (Txt.upper (pickS y31 w0 w1)) e12 p12 q12 ∈ led → (Id, instObj 228 dd) ∈ led → heads w dd ld ktd ∈ led → (ld, listOf ([.ref T3, .ref T11, .ref T21] : List Value).toArray nd) ∈ led → tupA T3 (pickS x3 w0 w1) e20 p20 q20 ∈ led → tupA T11 (Txt.upper (pickS y11 w0 w1)) e21 p21 q21 ∈ led → tupA T21 (Txt.upper (pickS y21 w0 w1)) e22 p22 q22 ∈ led →
    Below callerA base [] h₀ → Fr h₀ L s.heap m → (hd.heap_39 w.params).In h₀ → News h₀ L s.heap led → Top p loose mean mg mb h₀ →
    (∀ (Dd : Addr) (vs : List Value) (h' : Heap) (tk' : Nat), IntsAre vs (decL f (decV (Txt.upper w1) (pickS x1 w0 w1) (Txt.upper (pickS y20 w0 w1)) (Txt.upper (pickS y30 w0 w1))) (decV (Txt.upper w1) (pickS x2 w0 w1) (Txt.upper (pickS y10 w0 w1)) (Txt.upper (pickS y31 w0 w1))) (decV (Txt.upper w1) (pickS x3 w0 w1) (Txt.upper (pickS y11 w0 w1)) (Txt.upper (pickS y21 w0 w1)))) → Fr h₀ L h' (fun y => if y = Str.ofString "decided" then some (Value.ref Dd) else m y) → News h₀ L h' ((Dd, LCg.lst vs) :: led) → LCg.Off1 Dd led → Q .next { s with heap := h', toks := tk' }) →
      wpAny (model prog w) (callerA.deeper (lawEnv L fa ccd)) (exec decSt (lawEnv L fa ccd)) Q E s := by
  k_with_none
  k_with "k_room" => ktr_room
  k_with "k_mem" => first | assumption | exact List.Mem.head _ | (refine' List.Mem.tail _ ?_; k_mem)
  k_with "lcg_off" => first | assumption | ((simp only [LCg.Off3, and_true]); assumption) | (refine off_v (by assumption) (by k_mem) (by k_mem) (by k_mem) ?_; first | assumption | ((simp only [LCg.Off3, and_true]); assumption))
  k_with "TupSrc" => (k_dflt (refine TupSrc.mk (by rfl) (by k_asm) (by k_asm) (by k_mem) (by exact Nat.le_of_ble_eq_true rfl) ?_; intro _; lct_lit))
  k_with "CompEnd" => (k_dflt (refine LCg.CompEnd.intro (by assumption) (by assumption) _ (fun p hp => hp) (by first | assumption | (simp only [LCg.Off3, and_true]; assumption)) (by first | exact trivial | (show _ ∈ _; k_mem) | lcg_src) ?_))
  k_with "eval Name" => ((with_reducible show wpAny _ _ (eval (Expr.Name (Str.ofString "false") _) _) _ _ _); k_dflt (refine ld_freeC (o := oF) (by k_asm) (by with_unfolding_all rfl) (by k_mem) hFd ?_))
  k_with "eval IfExp" => ((with_reducible show wpAny _ _ (eval (Expr.IfExp _ _ _ _) (compEnvC _ _ _ _)) _ _ _); refine Stop.mk ?_)
  k_with "my turn" => ((show wpAny _ _ (eval (Expr.IfExp _ _ _ _) (compEnvC _ _ _ _)) _ _ _); (refine' ifexp_cut2 (fun y => y = decV (Txt.upper _) _ _ _) ?F ?N ?h1 ?_; (case F => k_asm); (case N => k_asm); (case h1 => ((show wpAny _ (Around.deeper _ (lawEnv _ _ _)) (eval decOf.1 (decEnv _ _ _ _)) _ _ _); (refine' dec_c w w0 w1 hg9 _ _ _ _ ?hj t0 t1 _ _ _ _ _ _ _ _ _ _ _ _ _ _ _ _ _ cD _ _ _ _ _ _ ?hbk _ _ _ ?hW9 ?hB9 _ ?hC9 ?hj9 prog p loose mean mg mb base h₀ L fa ccd _ _ _ _ ?m1 ?m2 ?m3 ?m4 ?m5 ?m6 ?m7 ?m8 ?m9 ?m10 ?m11 hBl ?hF hX ?hN hT; (case hN => k_asm); (case hF => k_asm); (case m1 => k_mem); (case hC9 => assumption); (case hj9 => assumption); (case hj => decide); (case m2 => k_mem); (case m3 => k_mem); (case hW9 => assumption); (case hB9 => assumption); (case m4 => k_mem); (case m5 => k_mem); (case hbk => rfl); (case m6 => k_mem); (case m7 => k_mem); (case m8 => k_mem); (case m9 => k_mem); (case m10 => k_mem); (case m11 => k_mem)))); intro y9 _ _ _ hy9 _ _; subst hy9; (try dsimp only); k_steps))
  intro prog p loose mean mg mb base h₀ L fa ccd m led s Q E mF mW mB mD mK m00 m01 m02 m03 m04 m05 m10 m11 m12 m13 m14 m15 m20 m21 m22 m23 m24 m25 hBl hF hX hN hT hret
  rcases hf4 with rfl | rfl | rfl | rfl
  all_goals (
    show wpAny _ (Around.deeper _ (envOfC _ (Scope.mk _ _ _ _ _) _ _ _)) (exec (Stmt.Assign _ (Expr.ListComp _ _ _ _) _) (envOfC _ (Scope.mk _ _ _ _ _) _ _ _)) _ _ _
    refine comp_tupA (by k_asm) (by rfl) (by with_unfolding_all rfl) (by with_unfolding_all rfl) (by decide) (by rfl) (by decide) (by rfl) (by rfl) (by rfl) ?_
    k_steps
    unfold Stop
    walk_at "my turn"
    unfold Stop
    walk_at "my turn")
  · unfold Stop
    walk_at "my turn"
    rename Fr _ _ _ _ => F8
    rename News _ _ _ _ => N8
    rename _ ∧ LCg.Off1 _ led => o8
    exact hret _ _ _ _ (.cons _ _ (.cons _ _ (.cons _ _ .nil))) F8 (news_no2 N8) o8.2
  all_goals (
    rename Fr _ _ _ _ => F8
    rename News _ _ _ _ => N8
    rename _ ∧ LCg.Off1 _ led => o8
    exact hret _ _ _ _ (.cons _ _ (.cons _ _ .nil)) F8 (news_no2 N8) o8.2)
end
end Mine
end
section
open PySem PySem.W PySem.Spec PySem.Calls PyProof.Rows
set_option maxHeartbeats 8000000
namespace Mine
theorem rs_Z5 : True := by
  k_with_none
  exact trivial
section
theorem stage5 (w : World) (w0 w1 : Str) (hp9 : RunPre w0 w1) (hg9 : GetPre w0 w1) (f o : Int) (c0 c1 c2 c3 c4 c5 c6 c7 c8 c9 : Int) (ho : o = 0 ∨ o = 1) (hf : 0 ≤ f ∧ f ≤ 3) (t0 t1 to tf k0 k1 k2 k3 k4 k5 k6 k7 k8 k9 : Tok) (D C : Addr) (oC oF oW oB : Obj) (cD cC : Nat) (vr vw vb : Value)
    (hC : oC.data = .cell (some (.ref C))) (hF : oF.data = .cell (some (.int f tf))) (hW : oW.data = .cell (some (.ref D))) (hB : oB.data = .cell none) :
  ∀ (prog : Program) (p : Program) (loose : List Str) (mean : ExcName → Option Value) (mg mb : Str → Option Value) (base h₀ : Heap) (L fa : Addr) (ccd : Value) (s : Shared) (Q : Flow → Shared → Prop) (E : Value → Shared → Prop),
    Below callerA base [] h₀ → Fr h₀ L s.heap (fun y => if y = Str.ofString "replies" then some vr else if y = Str.ofString "wild" then some vw else if y = Str.ofString "bare" then some vb else if y = Str.ofString "order" then some (.int o to) else none) → (hd.heap_39 w.params).In h₀ →
    News h₀ L s.heap [(D, listOf [.str w0 t0, .str w1 t1].toArray cD), (C, listOf [.int c0 k0, .int c1 k1, .int c2 k2, .int c3 k3, .int c4 k4, .int c5 k5, .int c6 k6, .int c7 k7, .int c8 k8, .int c9 k9].toArray cC), (L + 1 + 1 + 1 + 1 + 1 + 1, oB), (L + 1 + 1 + 1 + 1 + 1, oW), (L + 1 + 1 + 1 + 1, oF), (L + 1 + 1 + 1, oC)] → Top p loose mean mg mb h₀ →
    LawEnd h₀ L s Q →
      wpAny (model prog w) (callerA.deeper (lawEnv L fa ccd)) (execs (lawOf.1.drop 11) (lawEnv L fa ccd)) Q E s := by
  k_with_none
  k_with "k_mem" => k_extra "mem8"
  k_with "mem8" => first | exact List.Mem.head _ | exact mem1 | exact mem2 | exact mem3 | exact mem4 | exact mem5 | exact mem6 | exact mem7 | (refine' mem8 ?_; k_extra "mem8")
  k_with "k_subL" => first | exact trivial | (refine' Sq.subL ?_; k_extra "sq") | (refine And.intro (by k_mem) ?_; k_subL)
  k_with "sq" => first | exact Sq.nil _ | (refine' Sq.keep ?_; k_extra "sq") | (refine' Sq.skip ?_; k_extra "sq")
  k_with "CompSrc" => (k_dflt (refine LCg.CompSrc.ledger (by rfl) (by k_asm) (by k_asm) (by k_mem) (by exact Nat.le_of_ble_eq_true rfl) ?_; intro _; (try dsimp only); lcg_lit; (try dsimp only)))
  k_with "lcg_off" => first | assumption | ((simp only [LCg.Off3, and_true]); assumption) | (refine off_v (by assumption) (by k_mem) (by k_mem) (by k_mem) ?_; first | assumption | ((simp only [LCg.Off3, and_true]); assumption))
  k_with "k_ne" => k_dflt (refine neN ?_; (try dsimp only); first | exact off1_ne (by with_reducible assumption) (by k_mem) | exact Ne.symm (off1_ne (by with_reducible assumption) (by k_mem)) | with_reducible assumption | exact Ne.symm (by with_reducible assumption))
  k_with "storeName" => ((with_reducible show wpAny _ _ (storeName _ _ _) _ _ _); refine Stop.mk ?_)
  k_with "eval IfExp" => ((with_reducible show wpAny _ _ (eval (Expr.IfExp _ _ _ _) (compEnvC _ _ _ _)) _ _ _); refine Stop.mk ?_)
  k_with "exec Assign cons ListComp" => ((with_reducible show wpAny _ _ (exec (Stmt.Assign _ (Expr.ListComp _ [⟨_, Expr.Tuple _ _ _, [_], _⟩] _ _) _) _) _ _ _); refine Stop.mk ?_)
  k_with "TupSrc" => (k_dflt (refine TupSrc.mk (by rfl) (by k_asm) (by k_asm) (by k_mem) (by exact Nat.le_of_ble_eq_true rfl) ?_; intro _; lct_lit))
  k_with "call ref" => (k_here; (with_reducible show wpAny _ _ (call (Value.ref 282) _) _ _ _); refine Stop.mk ?_)
  k_with "call ref" => (k_here; (with_reducible show wpAny _ _ (call (Value.ref 185) _) _ _ _); (try dsimp only); k_dflt (first | refine' vals_u0 ?k1 ?k2 ?k3 ?k4 ?k5 ?kK ?m1 ?m2 ?m3 ?kd ?ku ?_; (case k1 => k_asm); (case k2 => k_asm); (case k3 => k_asm); (case k4 => k_asm); (case k5 => k_asm); (case kK => first | exact rfl | assumption); (case m1 => k_mem); (case m2 => k_mem); (case m3 => k_mem); (case kd => ktr_room); (case ku => ktr_units) | refine' vals_u ?k1 ?k2 ?k3 ?k4 ?k5 ?kK ?m1 ?m2 ?m3 ?m4 ?m5 ?m6 ?kd ?ku ?_; (case k1 => k_asm); (case k2 => k_asm); (case k3 => k_asm); (case k4 => k_asm); (case k5 => k_asm); (case kK => first | exact rfl | assumption); (case m1 => k_mem); (case m2 => k_mem); (case m3 => k_mem); (case m4 => k_mem); (case m5 => k_mem); (case m6 => k_mem); (case kd => ktr_room); (case ku => ktr_units)); intro _ _ _ _ _ _ _; (try dsimp only); (try k_fold))
  k_with "subscriptTail Name Constant ref int" => ((with_reducible show wpAny _ _ (subscriptTail _ _ (Value.ref _) (Value.int _ _)) _ _ _); k_dflt (refine' sub_val ?k1 ?k2 ?k4 ?k5 ?k6 ?_ ?k7; (case k1 => k_asm); (case k2 => k_mem); (case k4 => decide); (case k5 => decide); (case k6 => with_unfolding_all rfl); (case k7 => with_unfolding_all rfl); k_whole))
  k_with "subscriptTail Name Name ref int" => ((with_reducible show wpAny _ _ (subscriptTail _ _ (Value.ref _) (Value.int _ _)) _ _ _); k_dflt (refine' sub_val ?k1 ?k2 ?k4 ?k5 ?k6 ?_ ?k7; (case k1 => k_asm); (case k2 => k_mem); (case k4 => decide); (case k5 => decide); (case k6 => with_unfolding_all rfl); (case k7 => with_unfolding_all rfl); k_whole))
  k_with "call ref" => (k_here; (with_reducible show wpAny _ _ (call (Value.ref 167) _) _ _ _); (try dsimp only); k_dflt (refine' gets_u ?n1 ?n2 ?k1 ?k2 ?k3 ?k4 ?k5 ?kK ?m1 ?m2 ?m3 ?m4 ?m5 ?m6 ?a1 ?a2 ?a3 ?kd ?ku ?_; (case n1 => exact GetPre.nm (by assumption)); (case n2 => exact GetPre.ln (by assumption)); (case k1 => k_asm); (case k2 => k_asm); (case k3 => k_asm); (case k4 => k_asm); (case k5 => k_asm); (case kK => first | exact rfl | assumption); (case m1 => k_mem); (case m2 => k_mem); (case m3 => k_mem); (case m4 => k_mem); (case m5 => k_mem); (case m6 => k_mem); (case a1 => with_reducible exact GetPre.pl (by assumption)); (case a2 => with_reducible exact GetPre.ul (by assumption)); (case a3 => with_reducible exact GetPre.ul (by assumption)); (case kd => ktr_room); (case ku => ktr_units)); intro _ _ _ _ _ _ _ _ _; (try dsimp only); (try k_fold))
  k_with "CompEnd" => (k_dflt (refine LCg.CompEnd.intro (by assumption) (by assumption) _ (fun p hp => hp) (by first | assumption | (simp only [LCg.Off3, and_true]; assumption)) (by first | exact trivial | (show _ ∈ _; k_mem) | lcg_src) ?_))
  k_with "CompEnd" => ((with_reducible show LCg.CompEnd _ _ _ _ _ _ _ _ _ _ _ _ (Value.ref _) _); k_dflt (refine LCg.CompEnd.intro (by assumption) (news_rot3 (by assumption)) _ (fun p hp => hp) (by lcg_off) (by first | exact trivial | (show _ ∈ _; k_mem) | lcg_src) ?_))
  k_with "newList" => (k_here; k_dflt (refine' newList_K (hsz := by exact Nat.le_of_ble_eq_true rfl) ?k1 ?k2 ?_; (case k1 => k_asm); (case k2 => k_asm); k_whole); intro _ _ _ _ l1; clear l1; (try k_sweep))
  k_with "call builtin:len" => (k_here; (with_reducible show wpAny _ _ (call (Value.builtin "len") [Value.ref _]) _ _ _); k_dflt (refine len_got (by k_asm) (by k_mem) (by assumption) ?_))
  k_with "binaryOp Mult ref int" => (k_here; (with_reducible show wpAny _ _ (binaryOp Operator.Mult (Value.ref _) (Value.int _ _)) _ _ _); k_dflt (refine' KMa.mul ?F ?N ?l ?lo ?hi ?z ?e ?_; (case F => k_asm); (case N => k_asm); (case l => is_list); (case lo => decide); (case hi => decide); (case z => (simp only [List.length_cons, List.length_nil]; decide)); (case e => (simp only [Int.reduceToNat, List.replicate_succ, List.replicate_zero, List.flatten_cons, List.flatten_nil, List.cons_append, List.nil_append, List.append_nil]; first | done | exact rfl)); k_whole); intro D' h' F' N' l1; (try k_lt l1); (try k_sweep))
  k_with "my keep" => first | exact KeepR.nil | (refine' KeepR.keep (.inl (notCell (by rfl))) ?a; (case a => walk_at "my keep")) | (refine' KeepR.keep (.inr (by omega)) ?a; (case a => walk_at "my keep")) | (refine' KeepR.skip ?a; (case a => walk_at "my keep"))
  have hl1 : w1.length ≤ 20 := hg9.l1
  intro prog p loose mean mg mb base h₀ L fa ccd s Q E hBl hFr hX hN hT hfin
  show wpAny _ (callerA.deeper (envOfC _ (Scope.mk _ _ _ _ _) _ _ _)) (execs [_, _, _, _] (envOfC _ (Scope.mk _ _ _ _ _) _ _ _)) _ _ _
  k_steps
  show wpAny _ _ (call (Value.ref 282) _) _ _ _
  refine' run_c w w0 w1 f o c0 c1 c2 c3 c4 c5 c6 c7 c8 c9 t0 t1 to tf k0 k1 k2 k3 k4 k5 k6 k7 k8 k9 D C _ _ _ oB oW oF cD cC ho hp9 prog p loose mean mg mb _ _ _ _ _ _ _ _ _ _ _ _ _ _ _ _ _ ?k1 ?k2 ?k3 ?k4 ?k5 ?kK ?kd ?ku ?_
  (case k1 => k_asm)
  (case k2 => k_asm)
  (case k3 => k_asm)
  (case k5 => k_asm)
  (case k4 => exact news_sub (by assumption) (by k_subL))
  (case kK => exact rfl)
  (case kd => ktr_room)
  (case ku => ktr_units)
  intro Bk Ia da la Ib db lb Ic dc lc Id dd ld T1 T2 T3 T10 T11 T20 T21 T30 T31 ka kb kc kd na nb nc nd u1 v1 u2 v2 u3 v3 u10 v10 u11 v11 u20 v20 u21 v21 u30 v30 u31 v31 x1 x2 x3 y10 y11 y20 y21 y30 y31 h' tk' e1 e2 e3 e4 e5 e6 e7 e8 e9 Fa Na
  k_steps
  show wpAny _ _ (storeName _ _ _) _ _ _
  refine' store_cellK ?F ?N ?hc ?hm hB ?hs ?_
  (case F => k_asm)
  (case N => k_asm)
  (case hc => rfl)
  (case hm => k_mem)
  (case hs => walk_at "my keep")
  intro h1 o1 F1 N1 d1
  clear Fa Na hN hFr
  k_steps
  show wpAny _ _ (exec _ _) _ _ _
  rename Fr _ _ _ _ => FF
  rename News _ _ _ _ => NN
  have N2 := news_tl10 NN
  clear NN
  revert FF N2
  repeat (rename Fr _ _ _ _ => j; clear j)
  repeat (rename News _ _ _ _ => j; clear j)
  repeat (rename LCg.Off1 _ _ => j; clear j)
  repeat (rename LCg.NsObj _ _ => j; clear j)
  repeat (rename _ ≠ _ ∧ _ ≠ _ ∧ _ ≠ _ => j; clear j)
  repeat (rename (_ ≠ _ ∧ _) ∧ _ => j; clear j)
  repeat (rename _ = some _ => j; clear j)
  intro FF N2
  have hf4 := four_int hf
  show wpAny _ (Around.deeper _ (lawEnv _ _ _)) (exec decSt (lawEnv _ _ _)) _ _ _
  refine' decs_c w w0 w1 hg9 f x1 x2 x3 y10 y11 y20 y21 y30 y31 hf4 t0 t1 tf kb kc kd _ _ _ _ _ _ _ _ _ _ _ _ _ _ _ _ _ _ D Bk Ia Ib db lb Ic dc lc Id dd ld T1 T2 T3 T10 T11 T20 T21 T30 T31 cD _ nb nc nd _ _ _ _ _ _ _ _ _ oW o1 oF hW d1 hF prog p loose mean mg mb base h₀ L fa ccd _ _ _ _ _ ?mF ?mW ?mB9 ?mD ?mK ?a00 ?a01 ?a02 ?a03 ?a04 ?a05 ?a10 ?a11 ?a12 ?a13 ?a14 ?a15 ?a20 ?a21 ?a22 ?a23 ?a24 ?a25 hBl FF hX N2 hT ?_
  (case mF => k_mem)
  (case mW => k_mem)
  (case mB9 => k_mem)
  (case mD => k_mem)
  (case mK => k_mem)
  (case a00 => k_mem)
  (case a01 => k_mem)
  (case a02 => k_mem)
  (case a03 => k_mem)
  (case a04 => k_mem)
  (case a05 => k_mem)
  (case a10 => k_mem)
  (case a11 => k_mem)
  (case a12 => k_mem)
  (case a13 => k_mem)
  (case a14 => k_mem)
  (case a15 => k_mem)
  (case a20 => k_mem)
  (case a21 => k_mem)
  (case a22 => k_mem)
  (case a23 => k_mem)
  (case a24 => k_mem)
  (case a25 => k_mem)
  intro Dd vs h9 tk9 hvs F9 N9 o9
  simp only [LCg.Off1, and_true] at o9
  clear FF N2
  generalize hv1 : decV (Txt.upper w1) (pickS x1 w0 w1) (Txt.upper (pickS y20 w0 w1)) (Txt.upper (pickS y30 w0 w1)) = v1 at hvs
  generalize hv2 : decV (Txt.upper w1) (pickS x2 w0 w1) (Txt.upper (pickS y10 w0 w1)) (Txt.upper (pickS y31 w0 w1)) = v2 at hvs
  generalize hv3 : decV (Txt.upper w1) (pickS x3 w0 w1) (Txt.upper (pickS y11 w0 w1)) (Txt.upper (pickS y21 w0 w1)) = v3 at hvs
  rcases hf4 with rfl | rfl | rfl | rfl
  · obtain ⟨ta, ra, rfl, h1⟩ := ints_cons9 (show IntsAre vs [v1, v2, v3] from hvs)
    obtain ⟨tb, rb, rfl, h2⟩ := ints_cons9 h1
    obtain ⟨tc, rc, rfl, h3⟩ := ints_cons9 h2
    obtain rfl := ints_nil9 h3
    k_steps
    exact end_true hfin (by k_asm) (end_f0 hg9 e1 e2 e3 e4 e5 e6 e7 e8 e9 hv1.symm hv2.symm hv3.symm)
  · obtain ⟨ta, ra, rfl, h1⟩ := ints_cons9 (show IntsAre vs [v2, v3] from hvs)
    obtain ⟨tb, rb, rfl, h2⟩ := ints_cons9 h1
    obtain rfl := ints_nil9 h2
    k_steps
    exact end_true hfin (by k_asm) (end_f1 hg9 ho e1 e2 e3 e4 e5 e6 e7 e8 e9 hv2.symm hv3.symm)
  · obtain ⟨ta, ra, rfl, h1⟩ := ints_cons9 (show IntsAre vs [v1, v3] from hvs)
    obtain ⟨tb, rb, rfl, h2⟩ := ints_cons9 h1
    obtain rfl := ints_nil9 h2
    k_steps
    exact end_true hfin (by k_asm) (end_f2 hg9 ho e1 e2 e3 e4 e5 e6 e7 e8 e9 hv1.symm hv3.symm)
  · obtain ⟨ta, ra, rfl, h1⟩ := ints_cons9 (show IntsAre vs [v1, v2] from hvs)
    obtain ⟨tb, rb, rfl, h2⟩ := ints_cons9 h1
    obtain rfl := ints_nil9 h2
    k_steps
    exact end_true hfin (by k_asm) (end_f3 hg9 ho e1 e2 e3 e4 e5 e6 e7 e8 e9 hv1.symm hv2.symm)
end
end Mine
end
section
open PySem PySem.W PySem.Spec PySem.Calls PyProof.Rows
set_option maxHeartbeats 8000000
namespace Mine
theorem rs_RD0 : True := by
  k_with_none
  exact trivial
/-- what a load reads: told by 1 or 2 a given object, else the written part -/
noncomputable def pickL (K : Frag) (oe ot : Obj) (a : Addr) : List Nat → Option (Obj × List (Addr × Obj))
  | 1 :: _ => some (oe, [(a, oe)])
  | 2 :: _ => some (ot, [(a, ot)])
  | _ => match K.lookup a with
    | some o => some (o, [])
    | none => none
theorem pickL_get {K : Frag} {oe ot : Obj} {a : Addr} {h : Heap} (X : K.In h) : ∀ {fl : List Nat} {o : Obj} {l : List (Addr × Obj)}, pickL K oe ot a fl = some (o, l) → (∀ p ∈ l, h.get? p.1 = some p.2) → h.get? a = some o := by
  intro fl o l e hl
  unfold pickL at e
  split at e
  · cases e; exact hl (a, oe) (.head _)
  · cases e; exact hl (a, ot) (.head _)
  · split at e
    · rename_i o' ho; cases e; exact X a o ho
    · cases e
/-- as evR, but some loads read two given objects -/
noncomputable def evB (K : Frag) (P : Setting) (oe ot : Obj) {α : Type} : List Nat → Nat → Sem α → Option (α × List (Addr × Obj))
  | _, 0, _ => none
  | _, _ + 1, .pure a => some (a, [])
  | fl, n + 1, .rule _ k => evB K P oe ot fl n (k ())
  | fl, n + 1, .at _ k => evB K P oe ot fl n (k ())
  | fl, n + 1, .point _ k => evB K P oe ot fl n (k ())
  | fl, n + 1, .ask k => evB K P oe ot fl n (k P)
  | fl, n + 1, .load a _ k => match pickL K oe ot a fl with
    | some (o, l) => match evB K P oe ot fl.tail n (k o) with
      | some (v, l') => some (v, l ++ l')
      | none => none
    | none => none
  | _, _ + 1, _ => none
theorem load_any {prog : Program} {w : World} {A : Around} {α : Type} {Q : α → Shared → Prop} {E : Value → Shared → Prop} {s : Shared} {a : Addr} {q} {k : Obj → Sem α} {o : Obj} (ho : s.heap.get? a = some o) (h : wpAny (model prog w) A (k o) Q E s) : wpAny (model prog w) A (.load a q k) Q E s := by
  intro Γ p hΓ
  have z := h Γ p hΓ
  show Sem.wp _ _ (.load a q k) _ _ _ _
  simp only [Sem.wp, ho]
  first | exact z | exact ⟨_, rfl, z⟩
theorem evB_sound {prog : Program} {w : World} {K : Frag} {oe ot : Obj} {A : Around} {α : Type} {Q : α → Shared → Prop} {E : Value → Shared → Prop} {s : Shared} (X : K.In s.heap) : ∀ (fl : List Nat) (n : Nat) (t : Sem α) (v : α) (l : List (Addr × Obj)), evB K ⟨prog, w.params⟩ oe ot fl n t = some (v, l) → (∀ p ∈ l, s.heap.get? p.1 = some p.2) → Q v s → wpAny (model prog w) A t Q E s
  | _, 0, _, _, _, e, _, _ => by simp [evB] at e
  | fl, n + 1, .pure a, v, l, e, hl, h => by
    simp only [evB, Option.some.injEq, Prod.mk.injEq] at e
    obtain ⟨rfl, rfl⟩ := e
    exact wpAny_pure h
  | fl, n + 1, .rule t k, v, l, e, hl, h => evB_sound X fl n (k ()) v l (by simpa only [evB] using e) hl h
  | fl, n + 1, .at t k, v, l, e, hl, h => fun Γ p hΓ => evB_sound X fl n (k ()) v l (by simpa only [evB] using e) hl h Γ t hΓ
  | fl, n + 1, .point t k, v, l, e, hl, h => evB_sound X fl n (k ()) v l (by simpa only [evB] using e) hl h
  | fl, n + 1, .ask k, v, l, e, hl, h => evB_sound X fl n (k ⟨prog, w.params⟩) v l (by simpa only [evB] using e) hl h
  | fl, n + 1, .load a q k, v, l, e, hl, h => by
    unfold evB at e
    split at e
    · rename_i o l1 hp
      split at e
      · rename_i v' l2 hv
        simp only [Option.some.injEq, Prod.mk.injEq] at e
        obtain ⟨rfl, rfl⟩ := e
        exact load_any (pickL_get X hp fun p hp => hl p (List.mem_append_left _ hp)) (evB_sound X _ n (k o) _ l2 hv (fun p hp => hl p (List.mem_append_right _ hp)) h)
      · cases e
    · cases e
  | _, n + 1, .raise _, _, _, e, _, _ => by simp [evB] at e
  | _, n + 1, .unsupported _, _, _, e, _, _ => by simp [evB] at e
  | _, n + 1, .finish _, _, _, e, _, _ => by simp [evB] at e
  | _, n + 1, .update .., _, _, e, _, _ => by simp [evB] at e
  | _, n + 1, .alloc .., _, _, e, _, _ => by simp [evB] at e
  | _, n + 1, .loadIfAlive .., _, _, e, _, _ => by simp [evB] at e
  | _, n + 1, .register .., _, _, e, _, _ => by simp [evB] at e
  | _, n + 1, .fresh .., _, _, e, _, _ => by simp [evB] at e
  | _, n + 1, .choose .., _, _, e, _, _ => by simp [evB] at e
  | _, n + 1, .os .., _, _, e, _, _ => by simp [evB] at e
  | _, n + 1, .call .., _, _, e, _, _ => by simp [evB] at e
  | _, n + 1, .handled .., _, _, e, _, _ => by simp [evB] at e
  | _, n + 1, .newGen .., _, _, e, _, _ => by simp [evB] at e
  | _, n + 1, .genState .., _, _, e, _, _ => by simp [evB] at e
  | _, n + 1, .resume .., _, _, e, _, _ => by simp [evB] at e
  | _, n + 1, .yield .., _, _, e, _, _ => by simp [evB] at e
  | _, n + 1, .stack .., _, _, e, _, _ => by simp [evB] at e
  | _, n + 1, .fork .., _, _, e, _, _ => by simp [evB] at e
  | _, n + 1, .thread .., _, _, e, _, _ => by simp [evB] at e
  | _, n + 1, .await .., _, _, e, _, _ => by simp [evB] at e
section
variable {prog : Program} {w : World} {A : Around} {E : Value → Shared → Prop} {s : Shared} {e t : Addr} {oe ot : Obj} {x : Str} {tx : Tok} {ws : Array Value} {nt : Nat} {de : Option Addr} {se : Array (Option Value)} {dt : Option Addr} {st : Array (Option Value)}
noncomputable abbrev excO (de : Option Addr) (ws : Array Value) (se : Array (Option Value)) : Obj := ⟨.ref 61, de, .fields ws, se⟩
theorem ev_special (prog : Program) (w : World) (e : Addr) (de : Option Addr) (ws : Array Value) (se : Array (Option Value)) (ot : Obj) :
    evB (hd.heap_39 w.params) ⟨prog, w.params⟩ (excO de ws se) ot [1] 3000 (specialOf (.ref e) (Str.ofString "__str__")) = some (some (.builtin "BaseException.__str__"), [(e, excO de ws se)]) := by kernel_rfl
theorem ev_bind (prog : Program) (w : World) (e : Addr) (oe ot : Obj) :
    evB (hd.heap_39 w.params) ⟨prog, w.params⟩ oe ot [] 3000 (bindSpecial (.builtin "BaseException.__str__") (.ref e)) = some ((.builtin "BaseException.__str__", [.ref e]), []) := by kernel_rfl
theorem ev_check (prog : Program) (w : World) (e : Addr) (de : Option Addr) (ws : Array Value) (se : Array (Option Value)) (ot : Obj) :
    evB (hd.heap_39 w.params) ⟨prog, w.params⟩ (excO de ws se) ot [1] 3000 (checkBuiltinCall "BaseException.__str__" ⟨[.ref e], []⟩) = some ((), [(e, excO de ws se)]) := by kernel_rfl
theorem exc_args {M : Model} {items : List Value} {Q : Value × List Value → Shared → Prop} (ho : s.heap.get? e = some oe) (hd : oe.data = .fields ws) (h0 : ws[0]? = some (.ref t)) (hto : s.heap.get? t = some ot) (htd : ot.data = .seq items.toArray nt) (hq : Q (.ref t, items) s) :
    wpAny M A (Builtin.BaseException.bexcArgs (.ref e)) Q E s := by
  unfold Builtin.BaseException.bexcArgs
  refine wpAny_bind (wpAny_field ho hd h0 (wpAny_bind (wpAny_seqItems hto htd ?_)))
  have z : items.toArray.toList = items := by simp
  show wpAny M A (pure (Value.ref t, items.toArray.toList)) Q E s
  rw [z]
  exact wpAny_pure hq
open Builtin Builtin.Str Builtin.BaseException Builtin.Exceptions in
theorem exc_entry {Q : Fin → Shared → Prop} (ho : s.heap.get? e = some oe) (hd : oe.data = .fields ws) (h0 : ws[0]? = some (.ref t)) (hto : s.heap.get? t = some ot) (htd : ot.data = .seq [.str x tx].toArray nt) (hq : Q (.done (.ret (.str x tx))) s) :
    wpAny (model prog w) A (Builtin.«BaseException.__str__» ⟨[.ref e], []⟩) Q E s := by
  unfold Builtin.«BaseException.__str__»
  repeat (first | with_reducible refine exc_args ho hd h0 hto htd ?_ | wp_step)
  exact hq
theorem exc_call {Q : Value → Shared → Prop} (X : (hd.heap_39 w.params).In s.heap) (ho : s.heap.get? e = some oe) (hc : oe.cls = .ref 61) (hd : oe.data = .fields ws) (h0 : ws[0]? = some (.ref t)) (hto : s.heap.get? t = some ot) (htd : ot.data = .seq [.str x tx].toArray nt) (hq : Q (.str x tx) s) :
    wpAny (model prog w) A (call (.builtin "BaseException.__str__") [.ref e]) Q E s := by
  obtain ⟨oc, od, odt, osl⟩ := oe
  dsimp only at hc hd
  subst hc hd
  refine wpAny_call (codeAny_call_builtin (by decide +kernel) PySem.F.entry_bexc_str (evB_sound X [1] 3000 _ _ _ (ev_check prog w e od ws osl ot) (fun p hp => ?_) (exc_entry ho rfl h0 hto htd hq)))
  rw [List.mem_singleton.mp hp]
  exact ho
open Builtin Builtin.Str in
theorem exc_strOf {Q : Value → Shared → Prop} (hu : A.units < cLine) (X : (hd.heap_39 w.params).In s.heap) (ho : s.heap.get? e = some oe) (hc : oe.cls = .ref 61) (hd : oe.data = .fields ws) (h0 : ws[0]? = some (.ref t)) (hto : s.heap.get? t = some ot) (htd : ot.data = .seq [.str x tx].toArray nt) (hq : Q (.str x tx) s) :
    wpAny (model prog w) A (PySem.Builtin.Str.strOf (.ref e)) Q E s := by
  unfold PySem.Builtin.Str.strOf
  rw [show isExactStr (.ref e) = false from rfl]
  refine wpAny_bind (m := cRoomFor _ _) (wpAny_cRoomFor hu ?_)
  refine wpAny_bind (m := callSpecial? (.ref e) (Str.ofString "__str__")) ?_
  · obtain ⟨oc, od, odt, osl⟩ := oe
    dsimp only at hc hd
    subst hc hd
    refine wpAny_bind (evB_sound X [1] 3000 _ _ _ (ev_special prog w e od ws osl ot) (fun p hp => ?_) ?_)
    · rw [List.mem_singleton.mp hp]; exact ho
    refine wpAny_holding (wpAny_bind (evB_sound X [] 3000 _ _ _ (ev_bind prog w e ot ot) (fun p hp => by cases hp) ?_))
    refine wpAny_bind (wpAny_mono (exc_call (Q := fun v s₁ => v = .str x tx ∧ Q v s₁) X ho rfl rfl h0 hto htd ⟨rfl, hq⟩) (fun v s₁ z => ?_) fun _ _ z => z)
    obtain ⟨rfl, z⟩ := z
    exact wpAny_pure (wpAny_pure z)
theorem exc_str {Q : Value → Shared → Prop} (hu : A.in1.in1.units < cLine) (X : (hd.heap_39 w.params).In s.heap) (ho : s.heap.get? e = some oe) (hc : oe.cls = .ref 61) (hd : oe.data = .fields ws) (h0 : ws[0]? = some (.ref t)) (hto : s.heap.get? t = some ot) (htd : ot.data = .seq [.str x tx].toArray nt) (hq : Q (.str x tx) s) :
    wpAny (model prog w) A (call (.type "str") [.ref e]) Q E s := by
  refine callType_codes (T := "str") (Bi := Builtin.«object.__init__») (Q₁ := fun r s₁ => ∃ y u, r = .str y u ∧ Q r s₁) PySem.F.called_str (PySem.F.typeCall_str_1 _) PySem.F.entry_object_init ?_ ?_
  · refine codeAny_of_tree ?_
    show wpAny _ A.in1.in1 (do checkBuiltinCall "str.__new__" ⟨[.type "str", .ref e], []⟩; again (.builtin "str.__new__" ⟨[.type "str", .ref e], []⟩)) _ _ s
    refine wpAny_bind (wpAny_of_eq (PySem.F.newCall_str_1 _) (wpAny_pure ⟨plainId_quiet (by decide +kernel) _, codeAny_builtin PySem.F.entry_str_new ?_⟩))
    rw [Around.under_plainId (by decide +kernel) _, str_new_tree]
    refine wpAny_bind (wpAny_pure (wpAny_bind (wpAny_of_eq isSubtype_str_str ?_)))
    exact wpAny_bind (exc_strOf hu X ho hc hd h0 hto htd (wpAny_pure ⟨_, _, rfl, hq⟩))
  · rintro obj s₁ ⟨y, u, rfl, hq⟩
    exact ⟨typeIs_str _ _ _, PySem.F.args_object_init_2 _ _, object_init_meets PySem.F.called_str.init.lookup PySem.F.called_str.made (by decide) prog w A.in1 _ s₁ ⟨typeIs_str _ _ _, rfl, hq⟩⟩
end
end Mine
end
section
open PySem PySem.W PySem.Spec PySem.Calls PyProof.Rows
set_option maxHeartbeats 8000000
namespace Mine
theorem rs_RD1 : True := by
  k_with_none
  exact trivial
section
theorem off1_of {V : Addr} : ∀ {led : List (Addr × Obj)}, AllLt V led → LCg.Off1 V led
  | [], _ => trivial
  | p :: r, h => ⟨Nat.ne_of_lt (kst_ltOf h p (.head _)), off1_of (allLt_of fun q hq => kst_ltOf h q (.tail _ hq))⟩
section
variable {prog : Program} {w : World} {A₀ A : Around} {s : Shared} {base h₀ : Heap} {L : Addr} {m : Str → Option Value} {env : Env} {news : List (Addr × Obj)} {K : Frag} {p : Program} {loose : List Str} {mean : ExcName → Option Value} {mg mb : Str → Option Value}
  {R : Result → Shared → Prop} {name qual : Str} {params : Arguments} {body : List Stmt} {scope : Scope} {dV kV doc pm cdv ct oc : Value} {an od : Option Addr} {osl : Array (Option Value)} {f : Addr} {args : Args} {binds : List (Str × Value)}
/-- a def that catches, called from a frame with cells that has none under it -/
theorem enter_S (B : Below A₀ base [] h₀) (F : Fr h₀ L s.heap m) (X₀ : K.In h₀) (N : News h₀ L s.heap news) (T : Top p loose mean mg mb h₀) (hA : A.frames = some [env]) (hf : env.frame = some L) (hke : env.scope.kind = .function)
    (ho : K.lookup f = some ⟨oc, od, .func (fnOf name qual params body scope dV kV doc pm an cdv ct), osl⟩) (hcd : codeIn K cdv qual = true) (hroom : A.depth < recursionLimit)
    (hbind : BindsTo s (fnOf name qual params body scope dV kV doc pm an cdv ct) args binds) (hloc : ∀ y ∈ binds, scope.names.lookup y.1 = some .local)
    (h : ∀ g L' h₁, Fr h₀ L g m → Fr g L' h₁ (fun y => binds.reverse.lookup y) → News g L' h₁ news → Below A base [env] g → K.In g → Top p loose mean mg mb g → KtsDicts ([env].filterMap (·.frame)) g →
      wpAny (model prog w) (A.deeper (envOf qual scope L' f cdv)) (execs body (envOf qual scope L' f cdv))
        (fun fl s' => LeaveS0 [L] h₀ L m g R (match fl with | .ret v => v | _ => .none) s')
        (fun e s' => wpAny (model prog w) (A.deeper (envOf qual scope L' f cdv)) (leaving (envOf qual scope L' f cdv) e) (fun _ s'' => R (.error e) s'') (fun e' s'' => R (.error e') s'') s')
        { s with heap := h₁, toks := s.toks + binds.length })
    (hco : scope.isCoroutine = false) (hgen : scope.isGenerator = false) (hk : scope.kind = .function) (hcell : ∀ x ∈ scope.names, x.2 ≠ .cell) : codeAny (model prog w) A (.call (.ref f) args) R s := by
  have X := X₀.keeps F.keep
  obtain ⟨FG, BG, st, _⟩ := groundX (R := R) B F N hA hf hke
  obtain ⟨oL, es, ep, hL, hLd, hLk, hLf⟩ := FG.ns
  have hfs : [env].filterMap (·.frame) = [L] := by simp [hf]
  refine codeAny_call_def (fd := fnOf name qual params body scope dV kV doc pm an cdv ct) (body := body) (binds := binds) hroom (X _ _ ho) rfl (T.nolimit.keeps F.keep) (codeRec_of X hcd) rfl hbind hcell hloc (fun h₁ hns hk₁ => ?_) hco hgen hk
  refine wpAny_mono (h _ s.heap.objs.size h₁ FG ⟨hns, fun b o e => hk₁ b o (of_hideAll _ e), Nat.le_of_eq (hideAll_size _ _)⟩
    (fun p hp => ⟨hk₁ _ _ (N p hp).1, Nat.ne_of_lt (Heap.lt_size (N p hp).1), hideAll_none _ (List.mem_map_of_mem hp)⟩) BG (X₀.keeps st) (T.keeps st) (fun b hb => ?_)) (fun fl s' hl => ?_) fun _ _ y => y
  · rw [hfs] at hb
    rw [List.mem_singleton.mp hb]
    exact ⟨oL, es, ep, hL, hLd⟩
  · obtain ⟨g', L', m', news', T', F', N', k⟩ := hl
    obtain ⟨sl, hs⟩ := T'.up hL
    have turned : ∀ b o, h₀.get? b = some o → s'.heap.get? b = some o := fun b o e => F'.keep b o (T'.other b o (st b o e) fun q => by
      rw [List.mem_singleton.mp q, kts_self FG] at e
      cases e)
    refine k ⟨⟨_, es, ep, F'.keep _ _ hs, hLd, hLk, hLf⟩, turned, FG.above⟩ fun p hp => ⟨(N' p hp).1, fun q => ?_, ?_⟩
    · have := (N' p hp).2.2
      rw [q, hs] at this
      cases this
    · cases q : h₀.get? p.1 with
      | none => rfl
      | some o =>
        obtain ⟨sl', hs'⟩ := T'.up (st _ _ q)
        have := (N' p hp).2.2
        rw [hs'] at this
        cases this
end
theorem read_no (w : World) (t : Tok) :
  ∀ (prog : Program) (p : Program) (loose : List Str) (mean : ExcName → Option Value) (mg mb : Str → Option Value) (news : List (Addr × Obj)) (h₀ : Heap) (L fa : Addr) (ccd : Value) (m : Str → Option Value) (s : Shared) (Q E : Value → Shared → Prop),
    Below callerA h₀ [] h₀ → Fr h₀ L s.heap m → (hd.heap_39 w.params).In h₀ → News h₀ L s.heap news → Top p loose mean mg mb h₀ →
    (∀ (V : Addr) (t1 t2 : Tok) (c : Nat) (h' : Heap) (tk' : Nat), Fr h₀ L h' m → News h₀ L h' ((V, listOf ([.str (Str.ofString "reply") t1, .str (Str.ofString "250 pq") t2] : List Value).toArray c) :: news) → LCg.Off1 V news → Q (.ref V) { s with heap := h', toks := tk' }) →
      wpAny (model prog w) (callerA.deeper (lawEnv L fa ccd)) (call (.ref 272) [.str (Str.ofString "250 pq") t]) Q E s := by
  k_with_none
  k_with "k_room" => ktr_room
  k_with "call type:str" => (k_here; (with_reducible show wpAny _ _ (call (Value.type "str") [Value.ref _]) _ _ _); refine Stop.mk ?_)
  intro prog p loose mean mg mb news h₀ L fa ccd m s Q E hB hF hX hN hT hret
  refine wpAny_call ?_
  k_dflt (refine' enter_S ?k1 ?k2 ?k3 ?k4 ?k5 ?kA ?hf ?hke ?k6 ?k7 ?k8 ?k9 ?kB ?_ ?c2 ?c3 ?c4 ?c5; (case kA => exact rfl); (case hf => exact rfl); (case hke => exact rfl); (case k1 => assumption); (case k2 => assumption); (case k3 => k_asm); (case k4 => k_asm); (case k5 => k_asm); (case k6 => k_is); (case k7 => k_is); (case k8 => ktr_room); (case k9 => exact BindsTo.of_eq rfl); (case kB => exact locs rfl); (case c2 => exact rfl); (case c3 => exact rfl); (case c4 => exact rfl); (case c5 => decide); k_whole; intro g' L' h' FG' F' N' B' X' T' D')
  try dsimp only
  try k_lift B'
  try k_fold
  k_steps
  show wpAny _ _ (call (Value.type "str") [Value.ref _]) _ _ _
  rename Got _ _ _ _ _ => G9
  obtain ⟨oe9, ot9, ws9, nt9, me9, mt9, hc9, hd9, h09, hct9, hdt9⟩ := G9
  refine exc_str (by first | ktr_units | k_units) (by k_in) (News.get (by assumption) me9) hc9 hd9 h09 (News.get (by assumption) mt9) hdt9 ?_
  k_steps
  exact hret _ _ _ _ _ _ (by k_asm) (by assumption) (off1_of (allLt_of (by assumption)))
theorem read_ok (w : World) (x : Str) (t : Tok) (hp : (Txt.slice x none (some 3) != Str.ofString "257") = false ∧ x.length ≤ 2000) :
  ∀ (prog : Program) (p : Program) (loose : List Str) (mean : ExcName → Option Value) (mg mb : Str → Option Value) (news : List (Addr × Obj))
    (dp un : Nat) (gd : Option (List Code)) (cn : Str) (cs : Scope) (a : Addr) (ccd : Value) (cl : List (Str × Addr)) (outer : List Env) (A₀ : Around) (base h₀ : Heap) (L : Addr) (m : Str → Option Value) (s : Shared) (Q E : Value → Shared → Prop),
    Below A₀ base outer h₀ → Fr h₀ L s.heap m → (hd.heap_39 w.params).In h₀ → News h₀ L s.heap news → Top p loose mean mg mb h₀ → cs.kind = .function →
    dp + 8 < recursionLimit → un + 800 < cLine →
    (∀ (V : Addr) (t' : Tok) (c : Nat) (h' : Heap) (tk' : Nat), Fr h₀ L h' m → News h₀ L h' ((V, listOf ([.str (PV x) t'] : List Value).toArray c) :: news) → LCg.Off1 V news → Q (.ref V) { s with heap := h', toks := tk' }) →
      wpAny (model prog w) (ktrTop dp un gd cn cs L a ccd cl outer) (call (.ref 272) [.str x t]) Q E s := by
  k_with "call ref" => (k_here; (with_reducible show wpAny _ _ (call (Value.ref 70) _) _ _ _); (try dsimp only); k_dflt (refine' use_claim (parse_c _ _ _) ?k1 ?k2 ?k3 ?k4 ?k5 ?kK ?kp ?kd ?ku ?_; (case k1 => k_asm); (case k2 => k_asm); (case k3 => k_asm); (case k4 => k_asm); (case k5 => k_asm); (case kK => first | exact rfl | assumption); (case kp => assumption); (case kd => ktr_room); (case ku => ktr_units)); intro _ _ _ _ _; (try dsimp only); (try k_fold))
  intro prog p loose mean mg mb news dp un gd cn cs a ccd cl outer A₀ base h₀ L m s Q E
  obtain ⟨kind, names, isG, isC, more⟩ := cs
  intro hB hF hX hN hT hk hdp hun hret
  simp only at hk
  subst hk
  refine wpAny_call ?_
  k_dflt k_enter
  k_steps
  exact hret _ _ _ _ _ (by k_asm) (by assumption) (off1_of (allLt_of (by assumption)))
end
end Mine
end
section
open PySem PySem.W PySem.Spec PySem.Calls PyProof.Rows
set_option maxHeartbeats 8000000
namespace Mine
theorem rs_Z4 : True := by
  k_with_none
  exact trivial
section
theorem read_okV {w : World} {x y : Str} {t : Tok} (hy : PV x = y) (hp : (Txt.slice x none (some 3) != Str.ofString "257") = false) (hp2 : x.length ≤ 2000) {prog : Program} {p : Program} {loose : List Str} {mean : ExcName → Option Value} {mg mb : Str → Option Value} {news : List (Addr × Obj)}
    {dp un : Nat} {gd : Option (List Code)} {cn : Str} {cs : Scope} {a : Addr} {ccd : Value} {cl : List (Str × Addr)} {outer : List Env} {A₀ : Around} {base h₀ : Heap} {L : Addr} {m : Str → Option Value} {s : Shared} {Q E : Value → Shared → Prop}
    (hB : Below A₀ base outer h₀) (hF : Fr h₀ L s.heap m) (hX : (hd.heap_39 w.params).In h₀) (hN : News h₀ L s.heap news) (hT : Top p loose mean mg mb h₀) (hk : cs.kind = .function) (hdp : dp + 8 < recursionLimit) (hun : un + 800 < cLine)
    (hret : ∀ (V : Addr) (t' : Tok) (c : Nat) (h' : Heap) (tk' : Nat), Fr h₀ L h' m → News h₀ L h' ((V, listOf ([.str y t'] : List Value).toArray c) :: news) → LCg.Off1 V news → Q (.ref V) { s with heap := h', toks := tk' }) :
      wpAny (model prog w) (ktrTop dp un gd cn cs L a ccd cl outer) (call (.ref 272) [.str x t]) Q E s := by
  subst hy
  exact read_ok w x t ⟨hp, hp2⟩ prog p loose mean mg mb news dp un gd cn cs a ccd cl outer A₀ base h₀ L m s Q E hB hF hX hN hT hk hdp hun hret
theorem stage4 (w : World) (w0 w1 : Str) (hp9 : RunPre w0 w1) (hg9 : GetPre w0 w1) (f o : Int) (c0 c1 c2 c3 c4 c5 c6 c7 c8 c9 : Int) (ho : o = 0 ∨ o = 1) (hf : 0 ≤ f ∧ f ≤ 3) (t0 t1 to tf k0 k1 k2 k3 k4 k5 k6 k7 k8 k9 : Tok) (D C : Addr) (oC oF oW oB : Obj) (cD cC : Nat) (vw vb : Value)
    (hC : oC.data = .cell (some (.ref C))) (hF : oF.data = .cell (some (.int f tf))) (hW : oW.data = .cell (some (.ref D))) (hB : oB.data = .cell none) :
  ∀ (prog : Program) (p : Program) (loose : List Str) (mean : ExcName → Option Value) (mg mb : Str → Option Value) (h₀ : Heap) (L fa : Addr) (ccd : Value) (s : Shared) (Q : Flow → Shared → Prop) (E : Value → Shared → Prop),
    Below callerA h₀ [] h₀ → Fr h₀ L s.heap (fun y => if y = Str.ofString "wild" then some vw else if y = Str.ofString "bare" then some vb else if y = Str.ofString "order" then some (.int o to) else none) → (hd.heap_39 w.params).In h₀ →
    News h₀ L s.heap [(D, listOf [.str w0 t0, .str w1 t1].toArray cD), (C, listOf [.int c0 k0, .int c1 k1, .int c2 k2, .int c3 k3, .int c4 k4, .int c5 k5, .int c6 k6, .int c7 k7, .int c8 k8, .int c9 k9].toArray cC), (L + 1 + 1 + 1 + 1 + 1 + 1, oB), (L + 1 + 1 + 1 + 1 + 1, oW), (L + 1 + 1 + 1 + 1, oF), (L + 1 + 1 + 1, oC)] → Top p loose mean mg mb h₀ →
    LawEnd h₀ L s Q →
      wpAny (model prog w) (callerA.deeper (lawEnv L fa ccd)) (execs (lawOf.1.drop 9) (lawEnv L fa ccd)) Q E s := by
  k_with_none
  k_with "k_mem" => k_extra "mem8"
  k_with "mem8" => first | exact List.Mem.head _ | exact mem1 | exact mem2 | exact mem3 | exact mem4 | exact mem5 | exact mem6 | exact mem7 | (refine' mem8 ?_; k_extra "mem8")
  k_with "k_subL" => first | exact trivial | (refine' Sq.subL ?_; k_extra "sq") | (refine And.intro (by k_mem) ?_; k_subL)
  k_with "sq" => first | exact Sq.nil _ | (refine' Sq.keep ?_; k_extra "sq") | (refine' Sq.skip ?_; k_extra "sq")
  k_with "CompSrc" => (k_dflt (refine LCg.CompSrc.ledger (by rfl) (by k_asm) (by k_asm) (by k_mem) (by exact Nat.le_of_ble_eq_true rfl) ?_; intro _; (try dsimp only); lcg_lit; (try dsimp only)))
  k_with "lcg_off" => first | assumption | ((simp only [LCg.Off3, and_true]); assumption) | (refine off_v (by assumption) (by k_mem) (by k_mem) (by k_mem) ?_; first | assumption | ((simp only [LCg.Off3, and_true]); assumption))
  k_with "CompEnd" => ((with_reducible show LCg.CompEnd _ _ _ _ _ _ _ _ _ _ _ _ (Value.ref _) _); k_dflt (refine LCg.CompEnd.intro (by assumption) (news_rot3 (by assumption)) _ (fun p hp => hp) (by lcg_off) (by first | exact trivial | (show _ ∈ _; k_mem) | lcg_src) ?_))
  k_with "newList" => (k_here; k_dflt (refine' newList_K (hsz := by exact Nat.le_of_ble_eq_true rfl) ?k1 ?k2 ?_; (case k1 => k_asm); (case k2 => k_asm); k_whole); intro _ _ _ _ l1; clear l1; (try k_sweep))
  k_with "execs cons" => ((with_reducible show wpAny _ _ (execs (Stmt.Assign [Expr.Name (Str.ofString "books") _] _ _ :: _) _) _ _ _); refine Stop.mk ?_)
  k_with "call ref" => (k_here; (with_reducible show wpAny _ _ (call (Value.ref 272) _) _ _ _); (try dsimp only); k_dflt (refine' read_no _ _ _ _ _ _ _ _ _ _ _ _ _ _ _ _ _ ?k1 ?k2 ?k3 ?k4 ?k5 ?_; (case k1 => assumption); (case k2 => k_asm); (case k3 => k_asm); (case k4 => k_asm); (case k5 => k_asm)); intro _ _ _ _ _ _ _ _ _; (try dsimp only); (try k_fold))
  k_with "call ref" => (k_here; (with_reducible show wpAny _ _ (call (Value.ref 272) _) _ _ _); (try dsimp only); k_dflt ((first | refine' read_okV (y := Str.ofString "") (by decide +kernel) (by decide +kernel) (by decide +kernel) ?k1 ?k2 ?k3 ?k4 ?k5 ?kK ?kd ?ku ?_ | refine' read_okV (y := Str.ofString "pQ") (by decide +kernel) (by decide +kernel) (by decide +kernel) ?k1 ?k2 ?k3 ?k4 ?k5 ?kK ?kd ?ku ?_); (case k1 => k_asm); (case k2 => k_asm); (case k3 => k_asm); (case k4 => k_asm); (case k5 => k_asm); (case kK => first | exact rfl | assumption); (case kd => ktr_room); (case ku => ktr_units)); intro _ _ _ _ _ _ _ _; (try dsimp only); (try k_fold))
  intro prog p loose mean mg mb h₀ L fa ccd s Q E hBl hFr hX hN hT hfin
  show wpAny _ (callerA.deeper (envOfC _ (Scope.mk _ _ _ _ _) _ _ _)) (execs [_, _, _, _, _, _] (envOfC _ (Scope.mk _ _ _ _ _) _ _ _)) _ _ _
  k_steps
  show wpAny _ _ (execs _ _) _ _ _
  exact stage5 w w0 w1 hp9 hg9 f o c0 c1 c2 c3 c4 c5 c6 c7 c8 c9 ho hf t0 t1 to tf k0 k1 k2 k3 k4 k5 k6 k7 k8 k9 D C oC oF oW oB cD cC _ vw vb hC hF hW hB prog p loose mean mg mb h₀ h₀ L fa ccd _ Q E hBl (by k_asm) hX (news_sub (by assumption) (by k_subL)) hT hfin
end
end Mine
end
section
open PySem PySem.W PySem.Spec PySem.Calls PyProof.Rows
set_option maxHeartbeats 8000000
namespace Mine
theorem rs_S3 : True := by
  k_with_none
  exact trivial
section
variable {prog : Program} {w : World} {A : Around} {E : Value → Shared → Prop} {s : Shared} {h₀ : Heap} {L : Addr} {m : Str → Option Value} {env : Env}
noncomputable def StrSrc (prog : Program) (w : World) (A : Around) (h₀ : Heap) (L : Addr) (m : Str → Option Value) (env : Env) (elt : PySem.Expr) (x : Str) (scope : Scope) (cl : List (Str × Addr)) (Fin : Shared → List Value → List (Addr × Obj) → Prop) (xv : Value) (s₁ : Shared) : Prop :=
  ∃ tx t news, xv = .str tx t ∧ A.handled = none ∧ Fr h₀ L s₁.heap m ∧ News h₀ L s₁.heap news ∧ tx.cps.size ≤ sizeLine ∧
    ∀ s₂ : Shared, (∃ h, s₂ = { s₁ with heap := h }) → LCg.CompRest prog w A h₀ L m env elt x scope cl s₂ (fun _ => True) (SignAt tx) (Fin s₂) tx.cps.size 0 [] news
theorem StrSrc.mk {elt : PySem.Expr} {x : Str} {scope : Scope} {cl : List (Str × Addr)} {Fin : Shared → List Value → List (Addr × Obj) → Prop} {tx : Str} {t : Tok} {news : List (Addr × Obj)} {s₁ : Shared}
    (hh : A.handled = none) (F : Fr h₀ L s₁.heap m) (N : News h₀ L s₁.heap news) (hsz : tx.cps.size ≤ sizeLine)
    (h : ∀ g, LCg.CompRest prog w A h₀ L m env elt x scope cl { s₁ with heap := g } (fun _ => True) (SignAt tx) (Fin { s₁ with heap := g }) tx.cps.size 0 [] news) :
    StrSrc prog w A h₀ L m env elt x scope cl Fin (.str tx t) s₁ := ⟨tx, t, news, rfl, hh, F, N, hsz, fun _ ⟨g, e⟩ => e ▸ h g⟩
theorem str_st {I : Addr} {T : String} {tx : Str} {t : Tok} : ∀ i (h h' : Heap) (o : Obj) (nw : List (Addr × Obj)), h.IsStrIter I T tx t i → h.get? I = some o → h'.get? I = some o → (∀ b o, h₀.get? b = some o → h'.get? b = some o) → News h₀ L h' nw → True → h'.IsStrIter I T tx t i :=
  fun _ _ _ o _ st e e' _ _ _ => by obtain ⟨o', q, r⟩ := st; rw [e] at q; cases q; exact ⟨o, e', r⟩
theorem comp_strE {elt iter : PySem.Expr} {x : Str} {px : Pos} {scope : Scope} {cl : List (Str × Addr)} {pos : Pos} {Q : Value → Shared → Prop} (_F₀ : Fr h₀ L s.heap m)
    (hclos : closureFor scope env = pure cl) (hcell : ∀ y ∈ scope.names, y.2 ≠ .cell) (hkind : scope.kind = .function)
    (hnames : ∀ y ∈ scope.names, y.2 = .local → scope.names.lookup y.1 = some .local) (hx : scope.names.lookup x = some .local)
    (h : wpAny (model prog w) A (eval iter env) (StrSrc prog w A h₀ L m env elt x scope cl (fun s₂ => LCg.FinE h₀ L m s₂ Q)) E s)
    (hs : ∀ x, foldedSetIterable iter env x = pure x := by intro _; rfl) :
    wpAny (model prog w) A (eval (.ListComp elt [⟨.Name x px, iter, [], 0⟩] scope pos) env) Q E s := by
  rw [eval_ListComp]
  refine wpAny_comprehension_free (use := none) rfl hs hclos hkind hnames (wpAny_mono h (fun xv s₁ h₁ => ?_) fun _ _ e => e)
  obtain ⟨tx, t, news, rfl, hh, F, N, hsz, R⟩ := h₁
  cases ha : tx.cps.all (· < 128)
  · refine wpAny_pyIter_wide ha ?_
    have up : ∀ b o, s₁.heap.get? b = some o → (s₁.heap.push { cls := .type "str_iterator", data := .fields #[.str tx t, .int 0 0] }).get? b = some o := fun b o e => Heap.get?_push_of_some _ e
    refine LCg.block_U (Walks.strWide hh s₁.heap.objs.size tx t) hsz (fun i h st => by obtain ⟨o, e, _⟩ := st; exact ⟨o, e⟩) str_st hcell hkind hx ⟨_, Heap.get?_push_size _ rfl, rfl, rfl⟩ (fun b hb => ?_)
      (F.keeps up) (N.grown up) (Nat.ne_of_lt F.ns.lt) (next_is_new F) (fun p hp => Nat.ne_of_lt (Heap.lt_size (N p hp).1)) trivial (R _ ⟨_, rfl⟩) ?_
    · show b < (s₁.heap.push _).objs.size
      rw [Heap.size_push, List.mem_singleton.mp hb]; exact Nat.lt_succ_self _
    · intro D C h tk m' ys news' F' N' o1 hn hC₀ hD₀ hCL hDL hCD offC fin
      refine ⟨m', hn, fun h'' hs'' => fin D h'' tk (F'.change hs'' hCL hC₀) (fun p hp => ?_) o1⟩
      refine ⟨hs''.extBut _ _ ?_ (N' p hp).1, (N' p hp).2⟩
      rcases List.mem_cons.mp hp with rfl | hp
      · exact Ne.symm hCD
      · exact offC p hp
  · refine wpAny_pyIter_ascii ha ?_
    have up : ∀ b o, s₁.heap.get? b = some o → (s₁.heap.push { cls := .type "str_ascii_iterator", data := .fields #[.str tx t, .int 0 0] }).get? b = some o := fun b o e => Heap.get?_push_of_some _ e
    refine LCg.block_U (Walks.strAscii hh s₁.heap.objs.size tx t) hsz (fun i h st => by obtain ⟨o, e, _⟩ := st; exact ⟨o, e⟩) str_st hcell hkind hx ⟨_, Heap.get?_push_size _ rfl, rfl, rfl⟩ (fun b hb => ?_)
      (F.keeps up) (N.grown up) (Nat.ne_of_lt F.ns.lt) (next_is_new F) (fun p hp => Nat.ne_of_lt (Heap.lt_size (N p hp).1)) trivial (R _ ⟨_, rfl⟩) ?_
    · show b < (s₁.heap.push _).objs.size
      rw [Heap.size_push, List.mem_singleton.mp hb]; exact Nat.lt_succ_self _
    · intro D C h tk m' ys news' F' N' o1 hn hC₀ hD₀ hCL hDL hCD offC fin
      refine ⟨m', hn, fun h'' hs'' => fin D h'' tk (F'.change hs'' hCL hC₀) (fun p hp => ?_) o1⟩
      refine ⟨hs''.extBut _ _ ?_ (N' p hp).1, (N' p hp).2⟩
      rcases List.mem_cons.mp hp with rfl | hp
      · exact Ne.symm hCD
      · exact offC p hp
theorem sign_zero {elt : PySem.Expr} {x : Str} {scope : Scope} {cl : List (Str × Addr)} {S : List (Addr × Obj) → Prop} {P : Nat → Value → Prop} {Fin : List Value → List (Addr × Obj) → Prop} {i : Nat} {ys : List Value} {news : List (Addr × Obj)} (h : Fin ys news) :
    LCg.CompRest prog w A h₀ L m env elt x scope cl s S P Fin 0 i ys news := h
noncomputable def SignRest (prog : Program) (w : World) (A : Around) (h₀ : Heap) (L : Addr) (m : Str → Option Value) (env : Env) (elt : PySem.Expr) (x : Str) (scope : Scope) (cl : List (Str × Addr)) (s : Shared) (Fin : List Value → List (Addr × Obj) → Prop) : List Str → List Value → List (Addr × Obj) → Prop
  | [], ys, news => Fin ys news
  | y :: l, ys, news => ∀ u I oI C oC D m₂ h tk (E' : Value → Shared → Prop), LCg.NsObj oC m₂ → m₂ x = some (.str y u) → Fr h₀ L h m → News h₀ L h ((I, oI) :: (C, oC) :: (D, LCg.lst ys) :: news) → LCg.Off3 I C D news → ((@Ne Nat I C) ∧ (@Ne Nat I D) ∧ (@Ne Nat C D)) →
      wpAny (model prog w) A (eval elt (compEnvC scope cl C env)) (LCg.CompEnd h₀ L m { s with heap := h, toks := tk } I oI C oC D (LCg.lst ys) (fun _ => True) (fun y news' => SignRest prog w A h₀ L m env elt x scope cl s Fin l (ys ++ [y]) news')) E' { s with heap := h, toks := tk }
theorem SignRest.nil {elt : PySem.Expr} {x : Str} {scope : Scope} {cl : List (Str × Addr)} {Fin : List Value → List (Addr × Obj) → Prop} {ys : List Value} {news : List (Addr × Obj)} (h : Fin ys news) : SignRest prog w A h₀ L m env elt x scope cl s Fin [] ys news := h
theorem SignRest.cons {elt : PySem.Expr} {x : Str} {scope : Scope} {cl : List (Str × Addr)} {Fin : List Value → List (Addr × Obj) → Prop} {y : Str} {l : List Str} {ys : List Value} {news : List (Addr × Obj)}
    (h : ∀ u I oI C oC D m₂ h tk (E' : Value → Shared → Prop), LCg.NsObj oC m₂ → m₂ x = some (.str y u) → Fr h₀ L h m → News h₀ L h ((I, oI) :: (C, oC) :: (D, LCg.lst ys) :: news) → LCg.Off3 I C D news → ((@Ne Nat I C) ∧ (@Ne Nat I D) ∧ (@Ne Nat C D)) →
      wpAny (model prog w) A (eval elt (compEnvC scope cl C env)) (LCg.CompEnd h₀ L m { s with heap := h, toks := tk } I oI C oC D (LCg.lst ys) (fun _ => True) (fun y news' => SignRest prog w A h₀ L m env elt x scope cl s Fin l (ys ++ [y]) news')) E' { s with heap := h, toks := tk }) : SignRest prog w A h₀ L m env elt x scope cl s Fin (y :: l) ys news := h
theorem sign_rest {elt : PySem.Expr} {x : Str} {scope : Scope} {cl : List (Str × Addr)} {Fin : List Value → List (Addr × Obj) → Prop} {tx : Str} : ∀ (l : List Str) (i : Nat) (ys : List Value) (news : List (Addr × Obj)), (tx.cps.toList.drop i).map (fun c => (⟨#[c]⟩ : Str)) = l →
    SignRest prog w A h₀ L m env elt x scope cl s Fin l ys news → LCg.CompRest prog w A h₀ L m env elt x scope cl s (fun _ => True) (SignAt tx) Fin l.length i ys news
  | [], _, _, _, _, h => h
  | y :: l, i, ys, news, hl, h => by
    intro v I oI C oC D m₂ hh tk E' hP h1 h2 h3 h4 h5 h6
    obtain ⟨c, u, hc, rfl⟩ := hP
    have hi : i < tx.cps.toList.length := by
      rcases Nat.lt_or_ge i tx.cps.toList.length with q | q
      · exact q
      · rw [List.drop_of_length_le q] at hl; cases hl
    rw [List.drop_eq_getElem_cons hi, List.map_cons] at hl
    injection hl with hy hl'
    have hcc : c = tx.cps.toList[i] := by
      have : tx.cps[i]? = some tx.cps.toList[i] := by rw [← Array.getElem?_toList, List.getElem?_eq_getElem hi]
      rw [hc] at this; exact Option.some.inj this
    rw [← hcc] at hy
    rw [hy] at h2
    refine wpAny_mono (h u I oI C oC D m₂ hh tk E' h1 h2 h3 h4 h5 h6) (fun y' s' q => ?_) fun _ _ e => e
    obtain ⟨h', tk', news', e1, e2, e3, e4, e5, e6⟩ := q
    exact ⟨h', tk', news', e1, e2, e3, e4, e5, sign_rest l (i + 1) _ news' hl' e6⟩
theorem StrSrc.mk2 {elt : PySem.Expr} {x : Str} {scope : Scope} {cl : List (Str × Addr)} {Fin : Shared → List Value → List (Addr × Obj) → Prop} {tx : Str} {t : Tok} {news : List (Addr × Obj)} {s₁ : Shared} (l : List Str)
    (hl : tx.cps.toList.map (fun c => (⟨#[c]⟩ : Str)) = l) (hn : l.length ≤ 100) (hh : A.handled = none) (F : Fr h₀ L s₁.heap m) (N : News h₀ L s₁.heap news)
    (h : ∀ g, SignRest prog w A h₀ L m env elt x scope cl { s₁ with heap := g } (Fin { s₁ with heap := g }) l [] news) :
    StrSrc prog w A h₀ L m env elt x scope cl Fin (.str tx t) s₁ := by
  have hlen : tx.cps.size = l.length := by rw [← hl, List.length_map, Array.length_toList]
  refine StrSrc.mk hh F N (by rw [hlen, PySem.sizeLine_eq]; omega) fun g => ?_
  rw [hlen]
  exact sign_rest l 0 [] news (by simpa using hl) (h g)
end
end Mine
end
section
open PySem PySem.W PySem.Spec PySem.Calls PyProof.Rows
set_option maxHeartbeats 8000000
namespace Mine
theorem rs_W1 : True := by
  k_with_none
  exact trivial
section
theorem wri_0 (w : World) (t : Tok) : Claim w 3 287 True [.str (Str.ofString "<a") t] (fun t => .str (Str.ofString "&lt;a") t) := by
  k_with_none
  k_with "k_mem" => k_extra "mem8"
  k_with "mem8" => first | exact List.Mem.head _ | exact mem1 | exact mem2 | exact mem3 | exact mem4 | exact mem5 | exact mem6 | exact mem7 | (refine' mem8 ?_; k_extra "mem8")
  k_with "k_subL" => first | exact trivial | (refine' Sq.subL ?_; k_extra "sq") | (refine And.intro (by k_mem) ?_; k_subL)
  k_with "sq" => first | exact Sq.nil _ | (refine' Sq.keep ?_; k_extra "sq") | (refine' Sq.skip ?_; k_extra "sq")
  k_with "z enter" => k_dflt (refine' code_defC ?k1 ?k2 ?k3 ?k4 ?k5 ?kA ?kF ?kK ?k6 ?k7 ?k8 ?k9 ?kB ?kD ?_ ?c2 ?c3 ?c4; (case kA => exact rfl); (case kF => exact rfl); (case kK => assumption); (case k1 => k_asm); (case k2 => k_asm); (case k3 => k_asm); (case k4 => k_asm); (case k5 => k_asm); (case k6 => k_is); (case k7 => k_is); (case k8 => ktr_room); (case k9 => exact BindsTo.of_eq rfl); (case kB => exact rfl); (case kD => decide +kernel); (case c2 => exact rfl); (case c3 => exact rfl); (case c4 => exact rfl); k_whole; intro _ _ _ _ _ _ _ N' Y' B' _ _ l1; (try k_lt l1); k_cells Y'; (try simp only [List.cons_append, List.nil_append] at N'); (try dsimp only); (try k_lift B'); (try k_fold))
  k_with "k_all" => exact all_far (by assumption) (by omega)
  k_with "eval ListComp" => ((with_reducible show wpAny _ _ (eval (Expr.ListComp _ [⟨_, Expr.Name _ _, [], _⟩] _ _) _) _ _ _); k_dflt (refine comp_strE (by k_asm) (by with_unfolding_all rfl) (by decide) (by rfl) (by decide) (by rfl) ?_))
  k_with "StrSrc" => (k_dflt (refine StrSrc.mk2 _ (by assumption) (by exact Nat.le_of_ble_eq_true rfl) (by rfl) (by k_asm) (by k_asm) ?_); intro _; (try dsimp only))
  k_with "SignRest" => first | (refine SignRest.cons ?_; intro _ _ _ _ _ _ _ _ _ _ _ _ _ _ _ _; (try dsimp only)) | (refine SignRest.nil ?_; (try dsimp only))
  k_with "CompEnd" => (k_dflt (refine LCg.CompEnd.intro (by assumption) (by assumption) _ (fun p hp => hp) (by first | assumption | (simp only [LCg.Off3, and_true]; assumption)) (by first | exact True.intro | (show _ ∈ _; k_mem) | lcg_src) ?_))
  intro prog p loose mean mg mb news
  dsimp only [CbRet]; intros; rename_i hpre _ _ hret
  have hsg : (Str.ofString "<a").cps.toList.map (fun c => (⟨#[c]⟩ : Str)) = [Str.ofString "<", Str.ofString "a"] := by decide +kernel
  refine wpAny_call ?_
  walk_at "z enter"
  rename ∀ p ∈ news, _ => hl9
  have hl8 := allLt_of hl9
  k_steps
  refine cb_retS hret ?_ (by k_asm) (cb_drop (by assumption) (fun p hp => by repeat (first | exact hp | apply List.mem_cons_of_mem)))
  decide +kernel
theorem wri_1 (w : World) (t : Tok) : Claim w 3 287 True [.str (Str.ofString "&a") t] (fun t => .str (Str.ofString "&amp;a") t) := by
  intro prog p loose mean mg mb news
  dsimp only [CbRet]; intros; rename_i hpre _ _ hret
  have hsg : (Str.ofString "&a").cps.toList.map (fun c => (⟨#[c]⟩ : Str)) = [Str.ofString "&", Str.ofString "a"] := by decide +kernel
  refine wpAny_call ?_
  walk_at "z enter"
  rename ∀ p ∈ news, _ => hl9
  have hl8 := allLt_of hl9
  k_steps
  refine cb_retS hret ?_ (by k_asm) (cb_drop (by assumption) (fun p hp => by repeat (first | exact hp | apply List.mem_cons_of_mem)))
  decide +kernel
theorem wri_2 (w : World) (t : Tok) : Claim w 3 287 True [.str (Str.ofString "<\"") t] (fun t => .str (Str.ofString "&lt;\"") t) := by
  intro prog p loose mean mg mb news
  dsimp only [CbRet]; intros; rename_i hpre _ _ hret
  have hsg : (Str.ofString "<\"").cps.toList.map (fun c => (⟨#[c]⟩ : Str)) = [Str.ofString "<", Str.ofString "\""] := by decide +kernel
  refine wpAny_call ?_
  walk_at "z enter"
  rename ∀ p ∈ news, _ => hl9
  have hl8 := allLt_of hl9
  k_steps
  refine cb_retS hret ?_ (by k_asm) (cb_drop (by assumption) (fun p hp => by repeat (first | exact hp | apply List.mem_cons_of_mem)))
  decide +kernel
theorem wri_3 (w : World) (t : Tok) : Claim w 3 287 True [.str (Str.ofString "&\"") t] (fun t => .str (Str.ofString "&amp;\"") t) := by
  intro prog p loose mean mg mb news
  dsimp only [CbRet]; intros; rename_i hpre _ _ hret
  have hsg : (Str.ofString "&\"").cps.toList.map (fun c => (⟨#[c]⟩ : Str)) = [Str.ofString "&", Str.ofString "\""] := by decide +kernel
  refine wpAny_call ?_
  walk_at "z enter"
  rename ∀ p ∈ news, _ => hl9
  have hl8 := allLt_of hl9
  k_steps
  refine cb_retS hret ?_ (by k_asm) (cb_drop (by assumption) (fun p hp => by repeat (first | exact hp | apply List.mem_cons_of_mem)))
  decide +kernel
theorem wri_4 (w : World) (t : Tok) : Claim w 3 287 True [.str (Str.ofString "<<") t] (fun t => .str (Str.ofString "&lt;&lt;") t) := by
  intro prog p loose mean mg mb news
  dsimp only [CbRet]; intros; rename_i hpre _ _ hret
  have hsg : (Str.ofString "<<").cps.toList.map (fun c => (⟨#[c]⟩ : Str)) = [Str.ofString "<", Str.ofString "<"] := by decide +kernel
  refine wpAny_call ?_
  walk_at "z enter"
  rename ∀ p ∈ news, _ => hl9
  have hl8 := allLt_of hl9
  k_steps
  refine cb_retS hret ?_ (by k_asm) (cb_drop (by assumption) (fun p hp => by repeat (first | exact hp | apply List.mem_cons_of_mem)))
  decide +kernel
theorem wri_5 (w : World) (t : Tok) : Claim w 3 287 True [.str (Str.ofString "&<") t] (fun t => .str (Str.ofString "&amp;&lt;") t) := by
  intro prog p loose mean mg mb news
  dsimp only [CbRet]; intros; rename_i hpre _ _ hret
  have hsg : (Str.ofString "&<").cps.toList.map (fun c => (⟨#[c]⟩ : Str)) = [Str.ofString "&", Str.ofString "<"] := by decide +kernel
  refine wpAny_call ?_
  walk_at "z enter"
  rename ∀ p ∈ news, _ => hl9
  have hl8 := allLt_of hl9
  k_steps
  refine cb_retS hret ?_ (by k_asm) (cb_drop (by assumption) (fun p hp => by repeat (first | exact hp | apply List.mem_cons_of_mem)))
  decide +kernel
theorem wri_6 (w : World) (t : Tok) : Claim w 3 287 True [.str (Str.ofString "<>") t] (fun t => .str (Str.ofString "&lt;&gt;") t) := by
  intro prog p loose mean mg mb news
  dsimp only [CbRet]; intros; rename_i hpre _ _ hret
  have hsg : (Str.ofString "<>").cps.toList.map (fun c => (⟨#[c]⟩ : Str)) = [Str.ofString "<", Str.ofString ">"] := by decide +kernel
  refine wpAny_call ?_
  walk_at "z enter"
  rename ∀ p ∈ news, _ => hl9
  have hl8 := allLt_of hl9
  k_steps
  refine cb_retS hret ?_ (by k_asm) (cb_drop (by assumption) (fun p hp => by repeat (first | exact hp | apply List.mem_cons_of_mem)))
  decide +kernel
theorem wri_7 (w : World) (t : Tok) : Claim w 3 287 True [.str (Str.ofString "&>") t] (fun t => .str (Str.ofString "&amp;&gt;") t) := by
  intro prog p loose mean mg mb news
  dsimp only [CbRet]; intros; rename_i hpre _ _ hret
  have hsg : (Str.ofString "&>").cps.toList.map (fun c => (⟨#[c]⟩ : Str)) = [Str.ofString "&", Str.ofString ">"] := by decide +kernel
  refine wpAny_call ?_
  walk_at "z enter"
  rename ∀ p ∈ news, _ => hl9
  have hl8 := allLt_of hl9
  k_steps
  refine cb_retS hret ?_ (by k_asm) (cb_drop (by assumption) (fun p hp => by repeat (first | exact hp | apply List.mem_cons_of_mem)))
  decide +kernel
theorem wri_8 (w : World) (t : Tok) : Claim w 3 287 True [.str (Str.ofString "&&<<>>\r\"") t] (fun t => .str (Str.ofString "&amp;&amp;&lt;&lt;&gt;&gt;\r\"") t) := by
  intro prog p loose mean mg mb news
  dsimp only [CbRet]; intros; rename_i hpre _ _ hret
  have hsg : (Str.ofString "&&<<>>\r\"").cps.toList.map (fun c => (⟨#[c]⟩ : Str)) = [Str.ofString "&", Str.ofString "&", Str.ofString "<", Str.ofString "<", Str.ofString ">", Str.ofString ">", Str.ofString "\r", Str.ofString "\""] := by decide +kernel
  refine wpAny_call ?_
  walk_at "z enter"
  rename ∀ p ∈ news, _ => hl9
  have hl8 := allLt_of hl9
  k_steps
  refine cb_retS hret ?_ (by k_asm) (cb_drop (by assumption) (fun p hp => by repeat (first | exact hp | apply List.mem_cons_of_mem)))
  decide +kernel
end
end Mine
end
section
open PySem PySem.W PySem.Spec PySem.Calls PyProof.Rows
set_option maxHeartbeats 8000000
namespace Mine
theorem rs_E1 : True := by
  k_with_none
  exact trivial
section
noncomputable def rep1 (x : Str) (c : Nat) (z : Str) : Str := Txt.replace x ⟨#[c]⟩ z
theorem replace_len {x y z : Str} {c n : Nat} (hy : y = ⟨#[c]⟩) (hz : z.cps.toList.length ≤ n) (hn : 1 ≤ n) : (Txt.replace x y z).length ≤ n * x.length := by
  rw [hy, len_list, replace_list, len_list]
  exact flat_len hz hn _
noncomputable def escV (x : Str) : Str :=
  let a := if Txt.contains x (Str.ofString "&") = true then Txt.replace x (Str.ofString "&") (Str.ofString "&amp;") else x
  let b := if Txt.contains a (Str.ofString "<") = true then Txt.replace a (Str.ofString "<") (Str.ofString "&lt;") else a
  if Txt.contains b (Str.ofString ">") = true then Txt.replace b (Str.ofString ">") (Str.ofString "&gt;") else b
theorem one38 : Str.ofString "&" = ⟨#[38]⟩ := by decide +kernel
theorem one60 : Str.ofString "<" = ⟨#[60]⟩ := by decide +kernel
theorem one62 : Str.ofString ">" = ⟨#[62]⟩ := by decide +kernel
theorem rep_rule {prog : Program} {w : World} {A : Around} {E : Value → Shared → Prop} {s : Shared} {x y z : Str} {t u v : Tok} {Q : Value → Shared → Prop} {c : Nat} (hy : y = ⟨#[c]⟩) (hz : z.cps.toList.length ≤ 5) (hu : u ≠ 0) (hv : v ≠ 0) (huv : u ≠ v) (hyz : (y == z) = false) (hx : x.length ≤ 100000)
    (h : ∀ t' k, (Txt.replace x y z).length ≤ 5 * x.length → Q (.str (Txt.replace x y z) t') { s with toks := k }) : wpAny (model prog w) A (call (.builtin "str.replace") [.str x t, .str y u, .str z v]) Q E s :=
  SC.replaceW hu hv huv hyz (by omega) (by rw [len_list]; omega) fun t' k => h t' k (replace_len hy hz (by decide))
theorem gen_pos {α : Type} {M : Model} {A : Around} {t : Sem α} {Q : α → Shared → Prop} {E : Value → Shared → Prop} {h : Heap} {g : Array GenState} {d : Drawn} {X : Nat} {os : OsState} (hX : 0 < X) (H : ∀ k, 0 < k → wpAny M A t Q E ⟨h, g, d, k, os⟩) : wpAny M A t Q E ⟨h, g, d, X, os⟩ := H X hX
theorem esc_c (w : World) (x : Str) (t : Tok) : Claim w 3 246 (x.length ≤ 20) [.str x t] (fun t => .str (escV x) t) := by
  k_with_none
  k_with "execs cons" => (k_here; (with_reducible show wpAny _ _ _ _ _ (Shared.mk _ _ _ (_ + 1) _)); refine gen_pos (by omega) ?_; intro _ _)
  k_with "call builtin:str.replace" => (k_dflt (refine rep_rule (by first | exact one38 | exact one60 | exact one62) (by decide +kernel) (by show @Ne Nat _ _; omega) (by show @Ne Nat _ _; omega) (by show @Ne Nat _ _; omega) (by decide +kernel) (by omega) ?_); intro _ _ _)
  intro prog p loose mean mg mb news
  dsimp only [CbRet]; intros; rename_i hpre _ _ hret
  refine wpAny_call ?_
  k_dflt cell_enter 
  k_steps
  all_goals first | (refine cb_retS hret ?_ (by k_asm) (by k_asm); unfold escV Txt.contains; simp [*]; done)
end
end Mine
end
section
open PySem PySem.W PySem.Spec PySem.Calls PyProof.Rows
set_option maxHeartbeats 8000000
namespace Mine
theorem rs_S4 : True := by
  k_with_none
  exact trivial
noncomputable abbrev Tri := Str × Str × Int
noncomputable def TriAll (news : List (Addr × Obj)) : List Addr → List Tri → Prop
  | [], [] => True
  | T :: tl, q :: qs => (∃ ot nt u v t, (T, ot) ∈ news ∧ ot.cls = .type "tuple" ∧ ot.data = .seq #[.str q.1 u, .str q.2.1 v, .int q.2.2 t] nt) ∧ TriAll news tl qs
  | _, _ => False
noncomputable def TriVals (news : List (Addr × Obj)) : List Value → List Tri → Prop
  | [], [] => True
  | v :: vs, q :: qs => ∃ T : Addr, v = .ref T ∧ (∃ ot nt u v t, (T, ot) ∈ news ∧ ot.cls = .type "tuple" ∧ ot.data = .seq #[.str q.1 u, .str q.2.1 v, .int q.2.2 t] nt) ∧ TriVals news vs qs
  | _, _ => False
theorem TriAll.len {news : List (Addr × Obj)} : ∀ {tl : List Addr} {qs : List Tri}, TriAll news tl qs → tl.length = qs.length
  | [], [], _ => rfl
  | _ :: _, _ :: _, h => by simp [TriAll.len h.2]
  | [], _ :: _, h => h.elim
  | _ :: _, [], h => h.elim
theorem TriAll.at {news : List (Addr × Obj)} : ∀ {tl : List Addr} {qs : List Tri} {i : Nat} {T : Addr} {q : Tri}, TriAll news tl qs → tl[i]? = some T → qs[i]? = some q → ∃ ot nt u v t, (T, ot) ∈ news ∧ ot.cls = .type "tuple" ∧ ot.data = .seq #[.str q.1 u, .str q.2.1 v, .int q.2.2 t] nt
  | _ :: _, _ :: _, 0, _, _, h, e1, e2 => by cases e1; cases e2; exact h.1
  | _ :: _, _ :: _, i + 1, _, _, h, e1, e2 => TriAll.at h.2 (by simpa using e1) (by simpa using e2)
  | [], _, _, _, _, _, e1, _ => by simp at e1
  | _ :: _, [], _, _, _, h, _, _ => h.elim
theorem strsAre_snoc {y : Str} {t : Tok} : ∀ {vs : List Value} {ys : List Str}, StrsAre vs ys → StrsAre (vs ++ [.str y t]) (ys ++ [y])
  | _, _, .nil => .cons y t .nil
  | _, _, .cons z u h => .cons z u (strsAre_snoc h)
theorem TriAll.refs {news : List (Addr × Obj)} : ∀ {vs : List Value} {qs : List Tri}, TriVals news vs qs → ∃ tl : List Addr, vs = tl.map Value.ref ∧ TriAll news tl qs
  | [], [], _ => ⟨[], rfl, trivial⟩
  | _ :: _, _ :: _, ⟨T, e, h, r⟩ => by
    obtain ⟨tl, e', h'⟩ := TriAll.refs r
    exact ⟨T :: tl, by rw [e, e']; rfl, h, h'⟩
  | [], _ :: _, h => h.elim
  | _ :: _, [], h => h.elim
theorem TriVals.nil {news : List (Addr × Obj)} : TriVals news [] [] := trivial
theorem TriVals.cons {news : List (Addr × Obj)} {vs : List Value} {qs : List Tri} {T : Addr} {a b : Str} {k : Int} {u v t : Tok} {nt : Nat} (h : (T, ({ cls := .type "tuple", data := .seq [.str a u, .str b v, .int k t].toArray nt } : Obj)) ∈ news) (r : TriVals news vs qs) : TriVals news (.ref T :: vs) ((a, b, k) :: qs) :=
  ⟨T, rfl, ⟨_, nt, u, v, t, h, rfl, rfl⟩, r⟩
section
variable {prog : Program} {w : World} {A : Around} {E : Value → Shared → Prop} {s : Shared} {h₀ : Heap} {L : Addr} {m : Str → Option Value} {env : Env}
noncomputable def TriEnd (h₀ : Heap) (L : Addr) (m : Str → Option Value) (s₁ : Shared) (led : List (Addr × Obj)) (val : Str) (y : Value) (s₂ : Shared) : Prop :=
  ∃ h' tk t, s₂ = { s₁ with heap := h', toks := tk } ∧ y = .str val t ∧ Fr h₀ L h' m ∧ News h₀ L h' led
theorem TriEnd.mk {s₁ : Shared} {led all : List (Addr × Obj)} {val v : Str} {t : Tok} {h' : Heap} {tk : Nat} (e : v = val) (F : Fr h₀ L h' m) (N : News h₀ L h' all) (sub : ∀ p ∈ led, p ∈ all) : TriEnd h₀ L m s₁ led val (.str v t) { s₁ with heap := h', toks := tk } :=
  ⟨h', tk, t, rfl, by rw [e], F, fun p hp => N p (sub p hp)⟩
noncomputable def TriTurn (prog : Program) (w : World) (A : Around) (h₀ : Heap) (L : Addr) (m : Str → Option Value) (env : Env) (elt : PySem.Expr) (x1 x2 x3 : Str) (scope : Scope) (cl : List (Str × Addr)) (news : List (Addr × Obj)) (s : Shared) (q : Tri) (val : Str) : Prop :=
  ∀ (u v t : Tok) I oI C oC D ys m₂ h tk (E' : Value → Shared → Prop), LCg.NsObj oC m₂ → m₂ x1 = some (.str q.1 u) → m₂ x2 = some (.str q.2.1 v) → m₂ x3 = some (.int q.2.2 t) → Fr h₀ L h m → News h₀ L h ((I, oI) :: (C, oC) :: (D, LCg.lst ys) :: news) →
    wpAny (model prog w) A (eval elt (compEnvC scope cl C env)) (TriEnd h₀ L m { s with heap := h, toks := tk } ((I, oI) :: (C, oC) :: (D, LCg.lst ys) :: news) val) E' { s with heap := h, toks := tk }
noncomputable def TriSrc (prog : Program) (w : World) (A : Around) (h₀ : Heap) (L : Addr) (m : Str → Option Value) (env : Env) (elt : PySem.Expr) (x1 x2 x3 : Str) (scope : Scope) (cl : List (Str × Addr)) (val : Tri → Str) (Q : Value → Shared → Prop) (xv : Value) (s₁ : Shared) : Prop :=
  ∃ ax tl qs k news, xv = .ref ax ∧ A.handled = none ∧ Fr h₀ L s₁.heap m ∧ News h₀ L s₁.heap news ∧ (ax, ({ cls := .type "list", data := .seq ((tl.map Value.ref).toArray) k } : Obj)) ∈ news ∧ TriAll news tl qs ∧ tl.length ≤ 1000 ∧
    (∀ g, ∀ q ∈ qs, TriTurn prog w A h₀ L m env elt x1 x2 x3 scope cl news { s₁ with heap := g } q (val q)) ∧
    (∀ D ys h tk, StrsAre ys (qs.map val) → Fr h₀ L h m → News h₀ L h ((D, LCg.lst ys) :: news) → LCg.Off1 D news → Q (.ref D) { s₁ with heap := h, toks := tk })
theorem tri_block {elt iter : PySem.Expr} {x1 x2 x3 : Str} {p1 p2 p3 tp : Pos} {tq} {scope : Scope} {cl : List (Str × Addr)} {pos : Pos} {val : Tri → Str} {RR : Value → Addr → Result → Shared → Prop}
    (hcell : ∀ y ∈ scope.names, y.2 ≠ .cell) (hkind : scope.kind = .function) (hx1 : scope.names.lookup x1 = some .local) (hx2 : scope.names.lookup x2 = some .local) (hx3 : scope.names.lookup x3 = some .local)
    (h12 : x1 ≠ x2) (h13 : x1 ≠ x3) (h23 : x2 ≠ x3) {s₁ : Shared} {ax : Addr} {tl : List Addr} {qs : List Tri} {k : Nat} {news : List (Addr × Obj)}
    (hh : A.handled = none) (F : Fr h₀ L s₁.heap m) (N : News h₀ L s₁.heap news) (hm : (ax, ({ cls := .type "list", data := .seq ((tl.map Value.ref).toArray) k } : Obj)) ∈ news) (hT : TriAll news tl qs) (hsz : tl.length ≤ 1000)
    (R : ∀ g, ∀ q ∈ qs, TriTurn prog w A h₀ L m env elt x1 x2 x3 scope cl news { s₁ with heap := g } q (val q)) {I : Addr} {H1 : Heap} (hI : s₁.heap.objs.size = I) (hH1 : s₁.heap.push { cls := .type "list_iterator", data := .fields #[.ref ax, .int 0 0] } = H1)
    (hl : s₁.heap.IsList ax (tl.map Value.ref).toArray) (hax : ax < I) (W : Walks prog w A I [I, ax] [I] (tl.map Value.ref).toArray.size (fun i v => (tl.map Value.ref).toArray[i]? = some v) (fun i h => h.IsListIter I ax i ∧ h.IsList ax (tl.map Value.ref).toArray))
    (hRR : ∀ D C ys h tk m', StrsAre ys (qs.map val) → Fr h₀ L h m → News h₀ L h ((D, LCg.lst ys) :: news) → LCg.Off1 D news → h.Ns C m' → h₀.get? C = none → C ≠ L → C ≠ D → (∀ p ∈ news, p.1 ≠ C) → RR (.ref D) C (.ok .next) { s₁ with heap := h, toks := tk }) :
    wpAny (model prog w) A (newList []) (fun acc s₃ => wpAny (model prog w) A (newFunctionEnv scope env.globals cl [] env.qual none .none (some env)) (fun cenv s₄ =>
      codeAny (model prog w) A (.compStart (.ListComp elt [⟨.Tuple [.Name x1 p1, .Name x2 p2, .Name x3 p3] tq tp, iter, [], 0⟩] scope pos) 0 (.ref I) acc { cenv with scope := relabel scope env }) (RR acc cenv.locals) s₄) E s₃) E { s₁ with heap := H1 } := by
  have hH1s : H1.objs.size = I + 1 := by rw [← hH1, Heap.size_push, hI]
  have up : ∀ b o, s₁.heap.get? b = some o → H1.get? b = some o := fun b o e => hH1 ▸ Heap.get?_push_of_some _ e
  have hst0 : H1.IsListIter I ax 0 ∧ H1.IsList ax (tl.map Value.ref).toArray := by
    constructor
    · exact ⟨_, by rw [← hH1, ← hI]; exact Heap.get?_push_size _ rfl, rfl, rfl⟩
    · rw [← hH1]; exact hl.push _
  refine wpAny_newObj_type (wpAny_newFunctionEnv hcell (by intro y hy; simp at hy) (fun h₁ hns₁ hsb₁ => ?_) hkind)
  dsimp only at hns₁ hsb₁ ⊢
  generalize hH2 : H1.push { cls := .type "list", dict := none, data := .seq ([] : List Value).toArray } = H2 at hns₁ hsb₁ ⊢
  generalize hD : H1.objs.size = D at *
  generalize hC : H2.objs.size = C at *
  have hCD : C = D + 1 := by rw [← hC, ← hH2, Heap.size_push, hD]
  have hDI : D = I + 1 := hH1s
  have below : ∀ b, b < I → b ≠ I ∧ b ≠ C ∧ b ≠ D := fun b hb => by
    refine ⟨Nat.ne_of_lt hb, ?_, ?_⟩
    · rw [hCD, hDI]; exact Nat.ne_of_lt (Nat.lt_succ_of_lt (Nat.lt_succ_of_lt hb))
    · rw [hDI]; exact Nat.ne_of_lt (Nat.lt_succ_of_lt hb)
  have nIC : I ≠ C := by rw [hCD, hDI]; exact Nat.ne_of_lt (Nat.lt_succ_of_lt (Nat.lt_succ_self I))
  have nID : I ≠ D := by rw [hDI]; exact Nat.ne_of_lt (Nat.lt_succ_self I)
  have nCD : C ≠ D := by rw [hCD]; exact Nat.ne_of_gt (Nat.lt_succ_self D)
  have old : ∀ b o, H1.get? b = some o → h₁.get? b = some o := fun b o e => hsb₁.extBut b o (by
    have h9 := Heap.lt_size e
    rw [hD] at h9
    rw [hCD]; exact Nat.ne_of_lt (Nat.lt_succ_of_lt h9)) (Heap.get?_push_of_some _ (hH2 ▸ Heap.get?_push_of_some _ e))
  have hLlt : L < I := hI ▸ F.ns.lt
  have nL := below L hLlt
  have nnews : ∀ p ∈ news, p.1 ≠ I ∧ p.1 ≠ C ∧ p.1 ≠ D := fun p hp => below _ (hI ▸ Heap.lt_size (N p hp).1)
  have nax := below ax hax
  have fresh₀ : ∀ a, I ≤ a → h₀.get? a = none := fun a ha => by
    cases e : h₀.get? a with
    | none => rfl
    | some o' => exact absurd (hI ▸ Heap.lt_size (F.keep a o' e)) (Nat.not_lt.mpr ha)
  have hI₀ : h₀.get? I = none := fresh₀ _ (Nat.le_refl _)
  have hD₀ : h₀.get? D = none := fresh₀ _ (by rw [hDI]; exact Nat.le_succ _)
  have hC₀ : h₀.get? C = none := fresh₀ _ (by rw [hCD, hDI]; exact Nat.le_trans (Nat.le_succ _) (Nat.le_succ _))
  have hacc : h₁.get? D = some (LCg.lst []) := hsb₁.extBut _ _ (Ne.symm nCD) (Heap.get?_push_of_some _ (by rw [← hH2, ← hD]; exact Heap.get?_push_size _ rfl))
  have hlen := hT.len
  have loop : ∀ s₃ : Shared, s₃ = { s₁ with heap := h₁, toks := s₁.toks + ([] : List (Str × Value)).length } →
      codeAny (model prog w) A (.compLoop (.ListComp elt [⟨.Tuple [.Name x1 p1, .Name x2 p2, .Name x3 p3] tq tp, iter, [], 0⟩] scope pos) 0 (.ref I) (.ref D) (compEnvC scope cl C env)) (RR (.ref D) C) s₃ := by
    rintro s₃ rfl
    refine LCp.codeAny_compLoop_pair
      (fun k s' => ∃ h' tk i ys m', s' = { s₁ with heap := h', toks := tk } ∧ i ≤ tl.length ∧ k = tl.length + 1 - i ∧ StrsAre ys ((qs.take i).map val) ∧ ys.length = i ∧ (h'.IsListIter I ax i ∧ h'.IsList ax (tl.map Value.ref).toArray) ∧ Fr h₀ L h' m ∧ h'.Ns C m' ∧
        News h₀ L h' ((D, LCg.lst ys) :: news)) ?_ (tl.length + 1)
      ⟨h₁, _, 0, [], _, rfl, Nat.zero_le _, rfl, by simpa using StrsAre.nil, rfl, W.frame _ _ _ hst0 fun b _ o e => old b o e, F.keeps fun b o e => old _ _ (up b o e), hns₁, fun p hp => ?_⟩
    · rintro k s' ⟨h', tk, i, ys, m', rfl, hi, rfl, hy, hyl, hst', F', hn', N'⟩
      by_cases hlt : i < tl.length
      · refine W.item i _ _ _ (by simpa using hlt) hst' fun v h₂ tk₂ hPv hst₂ hk₂ => ?_
        have keep2 : ∀ b o, b ≠ I → h'.get? b = some o → h₂.get? b = some o := fun b o hb e => hk₂ b o (by simpa using hb) e
        have hqi : i < qs.length := hlen ▸ hlt
        have hv : v = .ref tl[i] := by
          have : ((tl.map Value.ref).toArray)[i]? = some (.ref tl[i]) := by simp [hlt]
          rw [this] at hPv
          exact (Option.some.inj hPv).symm
        subst hv
        obtain ⟨ot, nt, u, v, t, hmt, hct, hdt⟩ := hT.at (List.getElem?_eq_getElem hlt) (List.getElem?_eq_getElem hqi)
        have N₂ : News h₀ L h₂ ((D, LCg.lst ys) :: news) := fun p hp => by
          refine ⟨keep2 _ _ ?_ (N' p hp).1, (N' p hp).2⟩
          rcases List.mem_cons.mp hp with rfl | hp
          · exact Ne.symm nID
          · exact (nnews p hp).1
        have ht : IsTup h₂ tl[i] #[.str qs[i].1 u, .str qs[i].2.1 v, .int qs[i].2.2 t] := ⟨ot, (N₂ _ (List.mem_cons_of_mem _ hmt)).1, hct, nt, hdt⟩
        refine wpAny_letOwnedTupleGo_listiter hst₂.1 ?_
        refine assign_Tuple_tuple hh ht rfl rfl fun h₅ he => ?_
        have he' : ∀ b o, h₂.get? b = some o → h₅.get? b = some o := fun b o e => he b o (Nat.ne_of_lt (Heap.lt_size e)) e
        have nsat : h₅.Ns C m' := (hn'.at' fun o e => keep2 _ o (Ne.symm nIC) e).at' fun o e => he' _ o e
        refine assignInOrder_cons (wpAny_assign_Name (wpAny_storeName_local (lookup_relabel_local hx1) nsat (fun h₆ hn₆ hs₆ => ?_) (by simp [compEnvC, relabel, hkind])))
        refine assignInOrder_cons (wpAny_assign_Name (wpAny_storeName_local (lookup_relabel_local hx2) hn₆ (fun h₇ hn₇ hs₇ => ?_) (by simp [compEnvC, relabel, hkind])))
        refine assignInOrder_cons (wpAny_assign_Name (wpAny_storeName_local (lookup_relabel_local hx3) hn₇ (fun h₃ hn₃ hs₃ => ?_) (by simp [compEnvC, relabel, hkind])))
        refine assignInOrder_nil ?_
        have old3 : ∀ b o, b ≠ C → h₂.get? b = some o → h₃.get? b = some o := fun b o hb e => hs₃.extBut b o hb (hs₇.extBut b o hb (hs₆.extBut b o hb (he' b o e)))
        have hst₃ : h₃.IsListIter I ax (i + 1) ∧ h₃.IsList ax (tl.map Value.ref).toArray := W.frame _ _ _ hst₂ fun b hb o e => old3 b o (by
          rcases List.mem_cons.mp hb with rfl | hb
          · exact nIC
          · rw [List.mem_singleton.mp hb]; exact nax.2.1) e
        obtain ⟨oI, heI, hoI⟩ := hst₃.1
        obtain ⟨oC, heC, hoC⟩ := LCg.ns_obj hn₃
        have F₂ : Fr h₀ L h₂ m := LCg.fr_but F' hk₂ nL.1 hI₀
        have F₃ : Fr h₀ L h₃ m := (((F₂.keeps he').change hs₆ (Ne.symm nL.2.1) hC₀).change hs₇ (Ne.symm nL.2.1) hC₀).change hs₃ (Ne.symm nL.2.1) hC₀
        have N₃ : News h₀ L h₃ ((I, oI) :: (C, oC) :: (D, LCg.lst ys) :: news) := fun p hp => by
          rcases List.mem_cons.mp hp with rfl | hp
          · exact ⟨heI, Ne.symm nL.1, hI₀⟩
          · rcases List.mem_cons.mp hp with rfl | hp
            · exact ⟨heC, Ne.symm nL.2.1, hC₀⟩
            · have z := N₂ p hp
              refine ⟨old3 _ _ ?_ z.1, z.2⟩
              rcases List.mem_cons.mp hp with rfl | hp
              · exact Ne.symm nCD
              · exact (nnews p hp).2.1
        refine wpAny_mono (R h₁ qs[i] (List.getElem_mem hqi) u v t I oI C oC D ys _ h₃ _ _ hoC (by simp [h12, h13]) (by simp [h23]) (by simp) F₃ N₃) (fun y s₄ h₄ => ?_) fun _ _ e => e
        obtain ⟨h₄, tk₄, t₄, rfl, rfl, F₄, N₄⟩ := h₄
        have zI := (N₄ (I, oI) List.mem_cons_self).1
        have zC := (N₄ (C, oC) (List.mem_cons_of_mem _ List.mem_cons_self)).1
        have zD := (N₄ (D, LCg.lst ys) (List.mem_cons_of_mem _ (List.mem_cons_of_mem _ List.mem_cons_self))).1
        have N₄' : ∀ p ∈ news, h₄.get? p.1 = some p.2 := fun p hp => (N₄ p (List.mem_cons_of_mem _ (List.mem_cons_of_mem _ (List.mem_cons_of_mem _ hp)))).1
        refine append_at (hsz := by show ys.toArray.size ≤ sizeLine; rw [List.size_toArray, hyl, PySem.sizeLine_eq]; omega) zD fun h₅ hs₅ hD₅ => ?_
        have old5 : ∀ b o, b ≠ D → h₄.get? b = some o → h₅.get? b = some o := fun b o hb e => hs₅.extBut b o hb e
        have hlist : h₅.IsList ax (tl.map Value.ref).toArray := ⟨_, old5 _ _ nax.2.2 (N₄' _ hm), rfl, _, rfl⟩
        refine ⟨tl.length + 1 - (i + 1), by omega, h₅, tk₄, i + 1, ys ++ [.str (val qs[i]) t₄], _, rfl, hlt, rfl, ?_, by rw [List.length_append, List.length_singleton, hyl], ⟨⟨oI, old5 _ _ nID zI, hoI⟩, hlist⟩, F₄.change hs₅ (Ne.symm nL.2.2) hD₀, (hoC.ns zC).sameBut hs₅ nCD, fun p hp => ?_⟩
        · rw [List.take_add_one, List.getElem?_eq_getElem hqi, List.map_append]
          exact strsAre_snoc hy
        · rcases List.mem_cons.mp hp with rfl | hp
          · exact ⟨hD₅.trans (congrArg some (LCg.lst_snoc ys _)), Ne.symm nL.2.2, hD₀⟩
          · exact ⟨old5 _ _ (nnews p hp).2.2 (N₄' p hp), (N' p (List.mem_cons_of_mem _ hp)).2⟩
      · obtain rfl : i = tl.length := Nat.le_antisymm hi (Nat.not_lt.mp hlt)
        refine W.done _ _ _ (by simpa using hst') fun h₂ tk₂ hk₂ => ?_
        have keep2 : ∀ b o, b ≠ I → h'.get? b = some o → h₂.get? b = some o := fun b o hb e => hk₂ b o (by simpa using hb) e
        have F₂ : Fr h₀ L h₂ m := LCg.fr_but F' hk₂ nL.1 hI₀
        have hn₂ := hn'.at' fun o e => keep2 _ o (Ne.symm nIC) e
        rw [hlen, List.take_length] at hy
        have off1 : ∀ {l : List (Addr × Obj)}, (∀ p ∈ l, p.1 ≠ D) → LCg.Off1 D l := fun {l} => by
          induction l with
          | nil => intro _; trivial
          | cons p r ih => intro hp; exact ⟨hp p (List.mem_cons_self ..), ih fun q hq => hp q (List.mem_cons_of_mem _ hq)⟩
        exact hRR D C ys h₂ tk₂ m' hy F₂ (fun p hp => ⟨keep2 _ _ (by
          rcases List.mem_cons.mp hp with rfl | hp
          · exact Ne.symm nID
          · exact (nnews p hp).1) (N' p hp).1, (N' p hp).2⟩) (off1 fun p hp => (nnews p hp).2.2) hn₂ hC₀ (Ne.symm nL.2.1) nCD (fun p hp => (nnews p hp).2.1)
    · rcases List.mem_cons.mp hp with rfl | hp
      · exact ⟨hacc, Ne.symm nL.2.2, hD₀⟩
      · exact ⟨old _ _ (up _ _ (N p hp).1), (N p hp).2⟩
  exact codeAny_compStart_list (loop _ rfl) (W.self 0 _ _ _ (W.frame _ _ _ hst0 fun b _ o e => old b o e) (loop _ rfl))
theorem TriSrc.mk {elt : PySem.Expr} {x1 x2 x3 : Str} {scope : Scope} {cl : List (Str × Addr)} {val : Tri → Str} {Q : Value → Shared → Prop} {ax : Addr} {vs : List Value} {qs : List Tri} {k : Nat} {news : List (Addr × Obj)} {s₁ : Shared}
    (hh : A.handled = none) (F : Fr h₀ L s₁.heap m) (N : News h₀ L s₁.heap news) (hm : (ax, ({ cls := .type "list", data := .seq vs.toArray k } : Obj)) ∈ news) (hT : TriVals news vs qs) (hsz : vs.length ≤ 1000)
    (R : ∀ g, ∀ q ∈ qs, TriTurn prog w A h₀ L m env elt x1 x2 x3 scope cl news { s₁ with heap := g } q (val q))
    (fin : ∀ D ys h tk, StrsAre ys (qs.map val) → Fr h₀ L h m → News h₀ L h ((D, LCg.lst ys) :: news) → LCg.Off1 D news → Q (.ref D) { s₁ with heap := h, toks := tk }) :
    TriSrc prog w A h₀ L m env elt x1 x2 x3 scope cl val Q (.ref ax) s₁ := by
  obtain ⟨tl, rfl, hT'⟩ := TriAll.refs hT
  exact ⟨ax, tl, qs, k, news, rfl, hh, F, N, hm, hT', by simpa using hsz, R, fin⟩
theorem comp_tri {elt iter : PySem.Expr} {x1 x2 x3 : Str} {p1 p2 p3 tp : Pos} {tq} {scope : Scope} {cl : List (Str × Addr)} {pos : Pos} {Q : Value → Shared → Prop} (val : Tri → Str) (_F₀ : Fr h₀ L s.heap m)
    (hclos : closureFor scope env = pure cl) (hcell : ∀ y ∈ scope.names, y.2 ≠ .cell) (hkind : scope.kind = .function)
    (hnames : ∀ y ∈ scope.names, y.2 = .local → scope.names.lookup y.1 = some .local) (hx1 : scope.names.lookup x1 = some .local) (hx2 : scope.names.lookup x2 = some .local) (hx3 : scope.names.lookup x3 = some .local)
    (h12 : x1 ≠ x2) (h13 : x1 ≠ x3) (h23 : x2 ≠ x3)
    (h : wpAny (model prog w) A (eval iter env) (TriSrc prog w A h₀ L m env elt x1 x2 x3 scope cl val Q) E s)
    (hs : ∀ x, foldedSetIterable iter env x = pure x := by intro _; rfl) :
    wpAny (model prog w) A (eval (.ListComp elt [⟨.Tuple [.Name x1 p1, .Name x2 p2, .Name x3 p3] tq tp, iter, [], 0⟩] scope pos) env) Q E s := by
  rw [eval_ListComp]
  refine wpAny_comprehension_free (use := none) rfl hs hclos hkind hnames (wpAny_mono h (fun xv s₁ h₁ => ?_) fun _ _ e => e)
  obtain ⟨ax, tl, qs, k, news, rfl, hh, F, N, hm, hT, hsz, R, fin⟩ := h₁
  have hl : s₁.heap.IsList ax (tl.map Value.ref).toArray := ⟨_, (N _ hm).1, rfl, k, rfl⟩
  have hax : ax < s₁.heap.objs.size := by obtain ⟨_, e, _⟩ := hl; exact Heap.lt_size e
  refine wpAny_pyIter_list hl ?_
  refine tri_block hcell hkind hx1 hx2 hx3 h12 h13 h23 hh F N hm hT hsz R rfl rfl hl hax (Walks.list hh s₁.heap.objs.size ax (Nat.ne_of_lt hax) _) ?_
  intro D C ys h tk m' hy F' N' o1 hn hC₀ hCL hCD offC
  refine ⟨m', hn, fun h'' hs'' => fin D ys h'' tk hy (F'.change hs'' hCL hC₀) (fun p hp => ?_) o1⟩
  refine ⟨hs''.extBut _ _ ?_ (N' p hp).1, (N' p hp).2⟩
  rcases List.mem_cons.mp hp with rfl | hp
  · exact Ne.symm hCD
  · exact offC p hp
end
end Mine
end
section
open PySem PySem.W PySem.Spec PySem.Calls PyProof.Rows
set_option maxHeartbeats 8000000
namespace Mine
theorem rs_K1 : True := by
  k_with_none
  exact trivial
section
noncomputable def valT (q : Tri) : Str := Str.ofString (toString (LevV q.1 q.2.1 q.2.2))
noncomputable def qsOf (b0 b1 w0 w1 : Str) : List Tri :=
  let wide := Str.ofString "-" ++ b0 ++ Str.ofString "--"
  let e0 := w0 ++ Txt.mul (Txt.item w0 (-1)) 41
  let e1 := Txt.mul (Txt.item w0 0) 41 ++ w0
  let m := Txt.mul (Str.ofString "-") 41
  [(w0, w1, 6), (w1, w0, 6), (b0, b1, 2), (b1, b0, 0), (wide, b0, 6), (wide, b0, 3), (b0, m, 99), (m, b0, 99), (b0 ++ Str.ofString "&", Str.ofString "-" ++ b0, 4), (Str.ofString "-" ++ b0, b0 ++ Str.ofString "&", 4), (w0, e0, 0), (e1, w0, 0)]
noncomputable def TriOk (q : Tri) : Prop := q.1.length ≤ 1000 ∧ q.2.1.length ≤ 1000 ∧ (0 ≤ q.2.2 ∧ q.2.2 ≤ 1000) ∧ 0 ≤ LevV q.1 q.2.1 q.2.2 ∧ LevV q.1 q.2.1 q.2.2 ≤ 1000
noncomputable def goodL : List Str := ["6", "6", "2", "1", "6", "4", "100", "100", "4", "4", "82", "82"].map Str.ofString
noncomputable def goodT : Str := Str.ofString "6 6 2 1 6 4 100 100 4 4 82 82"
theorem goodJ : Txt.join (Str.ofString " ") goodL = goodT := by decide +kernel
theorem goodS : (goodL.map (·.length)).sum + goodL.length * (Str.ofString " ").length ≤ 16777216 := by decide +kernel
theorem item_len (x : Str) (i : Int) : (Txt.item x i).length = 1 := rfl
theorem lit_len {x : String} (h : Nat.ble (Str.ofString x).length 100000 = true) : (Str.ofString x).length ≤ 100000 := Nat.le_of_ble_eq_true h
theorem lit_one {x : String} (h : Nat.beq (Str.ofString x).length 1 = true) : (Str.ofString x).length = 1 := Nat.eq_of_beq_eq_true h
theorem mul_41 {prog : Program} {w : World} {A : Around} {E : Value → Shared → Prop} {s : Shared} {x : Str} {t u : Tok} {Q : Value → Shared → Prop} (hx : x.length = 1)
    (h : ∀ t' k, (Txt.mul x 41).length = 41 → Q (.str (Txt.mul x 41) t') { s with toks := k }) : wpAny (model prog w) A (binaryOp .Mult (.str x t) (.int 41 u)) Q E s :=
  KXi.mul (n := 1) hx (by decide) (by decide) (by decide) fun t' k _ h2 => h t' k (by have := h2 (by decide); omega)
theorem add_n {prog : Program} {w : World} {A : Around} {E : Value → Shared → Prop} {s : Shared} {x y : Str} {t u : Tok} {Q : Value → Shared → Prop} (hx : x.length ≤ 100000) (hy : y.length ≤ 100000)
    (h : ∀ t' k, (x ++ y).length = x.length + y.length → Q (.str (x ++ y) t') { s with toks := k }) : wpAny (model prog w) A (binaryOp .Add (.str x t) (.str y u)) Q E s :=
  SB.add (fun t' k => h t' k (Str.length_append ..)) (by rw [PySem.sizeLine_eq]; omega)
theorem costs_c (w : World) (b0 b1 w0 w1 : Str) (t0 t1 t2 t3 : Tok) (DB DW : Addr) (cB cW : Nat) (hb0 : 1 ≤ b0.length ∧ b0.length ≤ 20) (hb1 : 1 ≤ b1.length ∧ b1.length ≤ 20) (hw0 : 1 ≤ w0.length ∧ w0.length ≤ 20) (hw1 : 1 ≤ w1.length ∧ w1.length ≤ 20) (hq : ∀ q ∈ qsOf b0 b1 w0 w1, TriOk q) (hv : (qsOf b0 b1 w0 w1).map valT = goodL) :
  ∀ (prog : Program) (p : Program) (loose : List Str) (mean : ExcName → Option Value) (mg mb : Str → Option Value) (news : List (Addr × Obj))
    (dp un : Nat) (gd : Option (List Code)) (cn : Str) (cs : Scope) (a : Addr) (ccd : Value) (cl : List (Str × Addr)) (outer : List Env) (A₀ : Around) (base h₀ : Heap) (L : Addr) (m : Str → Option Value) (s : Shared) (Q E : Value → Shared → Prop),
    Below A₀ base outer h₀ → Fr h₀ L s.heap m → (hd.heap_39 w.params).In h₀ → News h₀ L s.heap ((DB, listOf [.str b0 t0, .str b1 t1].toArray cB) :: (DW, listOf [.str w0 t2, .str w1 t3].toArray cW) :: news) → Top p loose mean mg mb h₀ → cs.kind = .function →
    dp + 12 < recursionLimit → un + 1200 < cLine → CbRet h₀ L m ((DB, listOf [.str b0 t0, .str b1 t1].toArray cB) :: (DW, listOf [.str w0 t2, .str w1 t3].toArray cW) :: news) s Q (fun t => .str goodT t) →
      wpAny (model prog w) (ktrTop dp un gd cn cs L a ccd cl outer) (call (.ref 292) [.ref DB, .ref DW]) Q E s := by
  k_with_none
  k_with "k_mem" => k_extra "mem8"
  k_with "mem8" => first | exact List.Mem.head _ | exact mem1 | exact mem2 | exact mem3 | exact mem4 | exact mem5 | exact mem6 | exact mem7 | (refine' mem8 ?_; k_extra "mem8")
  k_with "k_subL" => first | exact trivial | (refine' Sq.subL ?_; k_extra "sq") | (refine And.intro (by k_mem) ?_; k_subL)
  k_with "sq" => first | exact Sq.nil _ | (refine' Sq.keep ?_; k_extra "sq") | (refine' Sq.skip ?_; k_extra "sq")
  k_with "k_room" => ktr_room
  k_with "k_all" => exact all_far (by assumption) (by omega)
  k_with "subscriptTail Name Constant ref int" => ((with_reducible show wpAny _ _ (subscriptTail _ _ (Value.ref _) (Value.int _ _)) _ _ _); k_dflt (refine' sub_val ?k1 ?k2 ?k4 ?k5 ?k6 ?_ ?k7; (case k1 => k_asm); (case k2 => k_mem); (case k4 => decide); (case k5 => decide); (case k6 => with_unfolding_all rfl); (case k7 => with_unfolding_all rfl); k_whole))
  k_with "eval ListComp" => ((with_reducible show wpAny _ _ (eval (Expr.ListComp _ _ _ _) _) _ _ _); refine Stop.mk ?_)
  k_with "my tri" => first | exact TriVals.nil | (refine' TriVals.cons ?h ?r; (case h => k_mem); (case r => walk_at "my tri"))
  k_with "TriSrc" => ((with_reducible show TriSrc _ _ _ _ _ _ _ _ _ _ _ _ _ _ _ _ _); refine Stop.mk ?_)
  k_with "binaryOp Mult str int" => (k_here; (with_reducible show wpAny _ _ (binaryOp Operator.Mult (Value.str _ _) (Value.int _ _)) _ _ _); k_dflt (refine mul_41 (by first | exact item_len _ _ | exact lit_one (by decide +kernel)) ?_); intro _ _ _)
  k_with "call ref" => (k_here; (with_reducible show wpAny _ _ (call (Value.ref 84) _) _ _ _); (try dsimp only); k_dflt (refine' use_claim (lev_c _ _ _ _ _ _ _) ?k1 ?k2 ?k3 ?k4 ?k5 ?kK ?kp ?kd ?ku ?_; (case k1 => k_asm); (case k2 => k_asm); (case k3 => k_asm); (case k4 => k_asm); (case k5 => k_asm); (case kK => first | exact rfl | assumption); (case kp => (refine ⟨?_, ?_, ?_, ?_⟩ <;> omega)); (case kd => ktr_room); (case ku => ktr_units)); intro _ _ _ _ _; (try dsimp only); (try k_fold))
  k_with "binaryOp Add str str" => (k_here; (with_reducible show wpAny _ _ (binaryOp Operator.Add (Value.str _ _) (Value.str _ _)) _ _ _); k_dflt (refine' add_n ?a ?b ?_; (case a => first | omega | exact lit_len (by decide +kernel)); (case b => first | omega | exact lit_len (by decide +kernel))); intro _ _ _)
  k_with "eval Name" => (k_here; (with_reducible show wpAny _ _ (eval (Expr.Name _ _) (compEnvC _ _ _ _)) _ _ _); k_dflt (first | refine LCgL.ld_own (by k_asm) (by k_mem) (by with_reducible assumption) (by with_reducible assumption) ?_ | refine LCgL.ld_global (by k_asm) (by k_asm) (by k_asm) (by k_is) ?_ | refine LCgL.ld_built (by k_asm) (by k_asm) (by k_asm) (by k_is) (by boot_by_name) (by decide) ?_))
  k_with "call builtin:str.join" => (k_here; (with_reducible show wpAny _ _ (call (Value.builtin "str.join") [Value.str _ _, Value.ref _]) _ _ _); refine Stop.mk ?_)
  intro prog p loose mean mg mb news dp un gd cn cs a ccd cl outer A₀ base h₀ L m s Q E
  obtain ⟨kind, names, isG, isC, more⟩ := cs
  intro hB hF hX hN hT hk hdp hun hret
  dsimp only [CbRet] at hret
  simp only at hk
  subst hk
  refine wpAny_call ?_
  k_dflt k_enter
  k_steps
  show wpAny _ _ _ _ _ _
  (refine' comp_tri valT ?a ?b ?c ?d ?e ?f ?g ?h ?i ?j ?k ?_ ?l)
  (case a => k_asm)
  (case b => with_unfolding_all rfl)
  (case c => decide)
  (case d => rfl)
  (case e => decide)
  (case f => rfl)
  (case g => rfl)
  (case h => rfl)
  (case i => decide +kernel)
  (case j => decide +kernel)
  (case k => decide +kernel)
  (case l => intro _; rfl)
  k_steps
  refine' TriSrc.mk (qs := qsOf b0 b1 w0 w1) ?hh ?F ?N ?hm ?hT ?hsz ?R ?fin
  (case hh => rfl)
  (case F => k_asm)
  (case N => k_asm)
  (case hm => k_mem)
  (case hT => walk_at "my tri")
  (case hsz => exact Nat.le_of_ble_eq_true rfl)
  case R =>
    intro g q hqm
    obtain ⟨a, b, mx⟩ := q
    obtain ⟨hq1, hq2, hq3, hq4, hq5⟩ := hq _ hqm
    dsimp only at hq1 hq2 hq3 hq4 hq5
    intro u v t I oI C oC D ys m₂ h tk E' hC h1 h2 h3 F9 N9
    dsimp only at h1 h2 h3 ⊢
    k_steps
    exact TriEnd.mk rfl (by k_asm) (by k_asm) (fun p hp => hp)
  case fin =>
    intro D ys h tk hy F9 N9 o9
    rw [hv] at hy
    dsimp only
    k_steps
    show wpAny _ _ _ _ _ _
    refine join_list (ys := goodL) (News.isList (by assumption) (.head _)) hy goodS ?_
    intro _ _
    rw [goodJ]
    k_steps
    exact cb_retS hret rfl (by k_asm) (cb_drop (by assumption) (fun p hp => by
      rcases List.mem_cons.mp hp with e | hp
      · subst e; k_mem
      rcases List.mem_cons.mp hp with e | hp
      · subst e; k_mem
      repeat (first | exact hp | apply List.mem_cons_of_mem)))
end
end Mine
end
section
open PySem PySem.W PySem.Spec PySem.Calls PyProof.Rows
set_option maxHeartbeats 8000000
namespace Mine
theorem rs_Z3 : True := by
  k_with_none
  exact trivial
section
structure WriPre (w : World) (b0 b1 w0 w1 : Str) : Prop where
  a : ∀ t, Claim w 3 287 True [.str b0 t] (fun t => .str w0 t)
  b : ∀ t, Claim w 3 287 True [.str b1 t] (fun t => .str w1 t)
structure CostPre (b0 b1 w0 w1 : Str) : Prop where
  lb0 : 1 ≤ b0.length ∧ b0.length ≤ 20
  lb1 : 1 ≤ b1.length ∧ b1.length ≤ 20
  lw0 : 1 ≤ w0.length ∧ w0.length ≤ 20
  lw1 : 1 ≤ w1.length ∧ w1.length ≤ 20
  sh : SeqAt.shaped (.list [.str w0, .str w1]) = true
  ok : ∀ q ∈ qsOf b0 b1 w0 w1, TriOk q
  vs : (qsOf b0 b1 w0 w1).map valT = goodL
noncomputable def wildS : Str := Str.ofString "&&<<>>\r\""
theorem wild_esc : escV (Str.ofString "&&<<>>\r\"") = Str.ofString "&amp;&amp;&lt;&lt;&gt;&gt;\r\"" := by decide +kernel
theorem esc_wild (w : World) (t : Tok) : Claim w 3 246 True [.str (Str.ofString "&&<<>>\r\"") t] (fun t => .str (Str.ofString "&amp;&amp;&lt;&lt;&gt;&gt;\r\"") t) := by
  intro prog p loose mean mg mb news dp un gd cn cs a ccd cl outer A₀ base h₀ L m s Q E B F X N T hk hp hd hu ret
  refine esc_c w _ t prog p loose mean mg mb news dp un gd cn cs a ccd cl outer A₀ base h₀ L m s Q E B F X N T hk (by decide +kernel) hd hu ?_
  rw [wild_esc]; exact ret
theorem costs_u {w : World} {b0 b1 w0 w1 : Str} {t0 t1 t2 t3 : Tok} {DB DW : Addr} {cB cW : Nat} (hc : CostPre b0 b1 w0 w1) {prog : Program} {p : Program} {loose : List Str} {mean : ExcName → Option Value} {mg mb : Str → Option Value} {led : List (Addr × Obj)}
    {dp un : Nat} {gd : Option (List Code)} {cn : Str} {cs : Scope} {a : Addr} {ccd : Value} {cl : List (Str × Addr)} {outer : List Env} {A₀ : Around} {base h₀ : Heap} {L : Addr} {m : Str → Option Value} {s : Shared} {Q E : Value → Shared → Prop}
    (hB : Below A₀ base outer h₀) (hF : Fr h₀ L s.heap m) (hX : (hd.heap_39 w.params).In h₀) (hN : News h₀ L s.heap led) (hT : Top p loose mean mg mb h₀) (hk : cs.kind = .function)
    (m1 : (DB, listOf [.str b0 t0, .str b1 t1].toArray cB) ∈ led) (m2 : (DW, listOf [.str w0 t2, .str w1 t3].toArray cW) ∈ led) (hdp : dp + 12 < recursionLimit) (hun : un + 1200 < cLine)
    (ret : CbRet h₀ L m led s Q (fun t => .str goodT t)) :
      wpAny (model prog w) (ktrTop dp un gd cn cs L a ccd cl outer) (call (.ref 292) [.ref DB, .ref DW]) Q E s :=
  costs_c w b0 b1 w0 w1 t0 t1 t2 t3 DB DW cB cW hc.lb0 hc.lb1 hc.lw0 hc.lw1 hc.ok hc.vs prog p loose mean mg mb led dp un gd cn cs a ccd cl outer A₀ base h₀ L m s Q E hB hF hX (news_front (news_front hN m2) (.tail _ m1)) hT hk hdp hun
    (fun t h' tk' F N => ret t h' tk' F (news_tl (news_tl N)))
theorem stage3 (w : World) (b0 b1 w0 w1 : Str) (hw9 : WriPre w b0 b1 w0 w1) (hc9 : CostPre b0 b1 w0 w1) (hp9 : RunPre w0 w1) (hg9 : GetPre w0 w1) (f o : Int) (c0 c1 c2 c3 c4 c5 c6 c7 c8 c9 : Int) (ho : o = 0 ∨ o = 1) (hf : 0 ≤ f ∧ f ≤ 3) (s0 s1 tw t0 t1 to tf k0 k1 k2 k3 k4 k5 k6 k7 k8 k9 : Tok) (DB D C : Addr) (oC oF oW oB : Obj) (cB cD cC : Nat)
    (hC : oC.data = .cell (some (.ref C))) (hF : oF.data = .cell (some (.int f tf))) (hW : oW.data = .cell (some (.ref D))) (hB : oB.data = .cell none) :
  ∀ (prog : Program) (p : Program) (loose : List Str) (mean : ExcName → Option Value) (mg mb : Str → Option Value) (h₀ : Heap) (L fa : Addr) (ccd : Value) (s : Shared) (Q : Flow → Shared → Prop) (E : Value → Shared → Prop),
    Below callerA h₀ [] h₀ → Fr h₀ L s.heap (fun y => if y = Str.ofString "wild" then some (.str (Str.ofString "&&<<>>\r\"") tw) else if y = Str.ofString "bare" then some (.ref DB) else if y = Str.ofString "order" then some (.int o to) else none) → (hd.heap_39 w.params).In h₀ →
    News h₀ L s.heap [(DB, listOf [.str b0 s0, .str b1 s1].toArray cB), (D, listOf [.str w0 t0, .str w1 t1].toArray cD), (C, listOf [.int c0 k0, .int c1 k1, .int c2 k2, .int c3 k3, .int c4 k4, .int c5 k5, .int c6 k6, .int c7 k7, .int c8 k8, .int c9 k9].toArray cC), (L + 1 + 1 + 1 + 1 + 1 + 1, oB), (L + 1 + 1 + 1 + 1 + 1, oW), (L + 1 + 1 + 1 + 1, oF), (L + 1 + 1 + 1, oC)] → Top p loose mean mg mb h₀ →
    LawEnd h₀ L s Q →
      wpAny (model prog w) (callerA.deeper (lawEnv L fa ccd)) (execs (lawOf.1.drop 7) (lawEnv L fa ccd)) Q E s := by
  k_with_none
  k_with "CompSrc" => (k_dflt (refine LCg.CompSrc.ledger (by rfl) (by k_asm) (by k_asm) (by k_mem) (by exact Nat.le_of_ble_eq_true rfl) ?_; intro _; (try dsimp only); lcg_lit; (try dsimp only)))
  k_with "CompEnd" => (k_dflt (refine LCg.CompEnd.intro (by assumption) (by assumption) _ (fun p hp => hp) (by first | assumption | (simp only [LCg.Off3, and_true]; assumption)) (by first | exact trivial | (show _ ∈ _; k_mem) | lcg_src) ?_))
  k_with "newList" => (k_here; k_dflt (refine' newList_K (hsz := by exact Nat.le_of_ble_eq_true rfl) ?k1 ?k2 ?_; (case k1 => k_asm); (case k2 => k_asm); k_whole); intro _ _ _ _ l1; clear l1; (try k_sweep))
  k_with "execs cons" => ((with_reducible show wpAny _ _ (execs (Stmt.Assign [Expr.Name (Str.ofString "replies") _] _ _ :: _) _) _ _ _); refine Stop.mk ?_)
  k_with "call ref" => (k_here; (with_reducible show wpAny _ _ (call (Value.ref 287) _) _ _ _); (try dsimp only); k_dflt ((first | refine' use_claim (wri_8 _ _) ?k1 ?k2 ?k3 ?k4 ?k5 ?kK ?kp ?kd ?ku ?_ | refine' use_claim (WriPre.a (by assumption) _) ?k1 ?k2 ?k3 ?k4 ?k5 ?kK ?kp ?kd ?ku ?_ | refine' use_claim (WriPre.b (by assumption) _) ?k1 ?k2 ?k3 ?k4 ?k5 ?kK ?kp ?kd ?ku ?_); (case k1 => k_asm); (case k2 => k_asm); (case k3 => k_asm); (case k4 => k_asm); (case k5 => k_asm); (case kK => first | exact rfl | assumption); (case kp => exact trivial); (case kd => ktr_room); (case ku => ktr_units)); intro _ _ _ _ _; (try dsimp only); (try k_fold))
  k_with "call ref" => (k_here; (with_reducible show wpAny _ _ (call (Value.ref 246) _) _ _ _); (try dsimp only); k_dflt (refine' use_claim (esc_wild _ _) ?k1 ?k2 ?k3 ?k4 ?k5 ?kK ?kp ?kd ?ku ?_; (case k1 => k_asm); (case k2 => k_asm); (case k3 => k_asm); (case k4 => k_asm); (case k5 => k_asm); (case kK => first | exact rfl | assumption); (case kp => exact trivial); (case kd => ktr_room); (case ku => ktr_units)); intro _ _ _ _ _; (try dsimp only); (try k_fold))
  k_with "call ref" => (k_here; (with_reducible show wpAny _ _ (call (Value.ref 292) _) _ _ _); (try dsimp only); k_dflt (refine' costs_u (by assumption) ?k1 ?k2 ?k3 ?k4 ?k5 ?kK ?m1 ?m2 ?kd ?ku ?_; (case k1 => k_asm); (case k2 => k_asm); (case k3 => k_asm); (case k4 => k_asm); (case k5 => k_asm); (case kK => first | exact rfl | assumption); (case m1 => k_mem); (case m2 => k_mem); (case kd => ktr_room); (case ku => ktr_units)); intro _ _ _ _ _; (try dsimp only); (try k_fold))
  k_with "compareOp NotEq ref ref" => (k_here; (with_reducible show wpAny _ _ (compareOp CmpOp.NotEq (Value.ref _) (Value.ref _)) _ _ _); k_dflt (refine ne_dataH (by ke_read) (by ke_read) (CostPre.sh (by assumption)) (CostPre.sh (by assumption)) (by ke_room) ?_); simp only [PyData.eqv, PyData.eqvAll, beq_self_eq_true, Bool.and_true, Bool.not_true])
  intro prog p loose mean mg mb h₀ L fa ccd s Q E hBl hFr hX hN hT hfin
  show wpAny _ (callerA.deeper (envOfC _ (Scope.mk _ _ _ _ _) _ _ _)) (execs [_, _, _, _, _, _, _, _] (envOfC _ (Scope.mk _ _ _ _ _) _ _ _)) _ _ _
  k_steps
  show wpAny _ _ (execs _ _) _ _ _
  exact stage4 w w0 w1 hp9 hg9 f o c0 c1 c2 c3 c4 c5 c6 c7 c8 c9 ho hf t0 t1 to tf k0 k1 k2 k3 k4 k5 k6 k7 k8 k9 D C oC oF oW oB cD cC _ _ hC hF hW hB prog p loose mean mg mb h₀ L fa ccd _ Q E hBl (by k_asm) hX (news_sub (by assumption) (by k_subL)) hT hfin
end
end Mine
end
section
open PySem PySem.W PySem.Spec PySem.Calls PyProof.Rows
set_option maxHeartbeats 8000000
namespace Mine
theorem rs_P4 : True := by
  k_with_none
  exact trivial
/-- what is true of one pair of words, as lists -/
structure Pair (w0 w1 : Str) : Prop where
  a0 : ∀ c ∈ w0.cps.toList, c < 128
  a1 : ∀ c ∈ w1.cps.toList, c < 128
  l0 : 1 ≤ w0.length ∧ w0.length ≤ 20
  l1 : 1 ≤ w1.length ∧ w1.length ≤ 20
  n0 : Name w0
  n1 : Name w1
  u0 : Name (Txt.upper w0)
  u1 : Name (Txt.upper w1)
  c0 : allN w0.cps.toList w1.cps.toList false = true
  c1 : allN w0.cps.toList w1.cps.toList true = true
theorem allN_at {w0 w1 : List Nat} {o : Bool} (h : allN w0 w1 o = true) {k p g : Nat} (hk : k < 5) (hp : p < (if o then w1 else w0).length) (hg : g < 5) : okN (spN (if o then w1 else w0) k p (signN g)) w0 w1 o = true := by
  unfold allN at h
  simp only [List.all_eq_true, List.mem_range] at h
  have h1 := h p hp
  have hg' : signN g ∈ [97, 76, 59, 34, 38] := by
    have : g = 0 ∨ g = 1 ∨ g = 2 ∨ g = 3 ∨ g = 4 := by omega
    rcases this with rfl | rfl | rfl | rfl | rfl <;> decide
  simp only [Bool.and_eq_true, List.all_eq_true] at h1
  obtain ⟨⟨⟨h0, hk1⟩, hk4⟩, hc⟩ := h1
  have hc' := hc _ hg'
  have : k = 0 ∨ k = 1 ∨ k = 2 ∨ k = 3 ∨ k = 4 := by omega
  rcases this with rfl | rfl | rfl | rfl | rfl
  · have e : ∀ c, spN (if o then w1 else w0) 0 p c = if o then w1 else w0 := fun c => by simp [spN]
    rw [e] at h0 ⊢; exact h0
  · have e : ∀ c, spN (if o then w1 else w0) 1 p c = spN (if o then w1 else w0) 1 p 0 := fun c => by simp [spN]
    rw [e]; exact hk1
  · exact hc'.1
  · exact hc'.2
  · have e : ∀ c, spN (if o then w1 else w0) 4 p c = spN (if o then w1 else w0) 4 p 0 := fun c => by simp [spN]
    rw [e]; exact hk4
theorem Pair.ok {w0 w1 : Str} (P : Pair w0 w1) (n : Int) : (∃ x : List Nat, (spoiltV w0 n).cps.toList = x ∧ (∀ c ∈ x, c < 128) ∧ okN x w0.cps.toList w1.cps.toList false = true) ∧ (∃ x : List Nat, (spoiltV w1 n).cps.toList = x ∧ (∀ c ∈ x, c < 128) ∧ okN x w0.cps.toList w1.cps.toList true = true) := by
  constructor
  · obtain ⟨k, p, g, hk, hp, hg, e⟩ := sp_sim n P.l0.1 P.a0
    exact ⟨_, e, sp_lt P.a0 (signN_lt g hg), allN_at P.c0 hk hp hg⟩
  · obtain ⟨k, p, g, hk, hp, hg, e⟩ := sp_sim n P.l1.1 P.a1
    exact ⟨_, e, sp_lt P.a1 (signN_lt g hg), allN_at P.c1 hk hp hg⟩
theorem lev2 {a b : Str} (ha : ∀ c ∈ a.cps.toList, c < 128) (hb : ∀ c ∈ b.cps.toList, c < 128) : LevV a b 2 = (levN a.cps.toList b.cps.toList 2 : Nat) := lev_sim (mx := 2) ha hb
theorem Pair.hpre {w0 w1 : Str} (P : Pair w0 w1) (n : Int) (y : Str) (hy : y.length ≤ 20) :
    HPre (replyV (spoiltV w0 n) y) (spoiltV w0 n) w0 w1 0 ∧ HPre (replyV (spoiltV w1 n) y) (spoiltV w1 n) w0 w1 1 ∧ (spoiltV w0 n).length ≤ 20 ∧ (spoiltV w1 n).length ≤ 20 := by
  obtain ⟨⟨x, ex, hx, okx⟩, ⟨z, ez, hz, okz⟩⟩ := P.ok n
  unfold okN at okx okz
  simp only [Bool.false_eq_true, if_false, if_true, Bool.and_eq_true, decide_eq_true_eq, Bool.not_eq_true', Nat.ble_eq] at okx okz
  obtain ⟨lx, ⟨x1, x2⟩, x3⟩ := okx
  obtain ⟨lz, ⟨z1, z2⟩, z3⟩ := okz
  have hsx : ∀ c ∈ (spoiltV w0 n).cps.toList, c < 128 := by rw [ex]; exact hx
  have hsz : ∀ c ∈ (spoiltV w1 n).cps.toList, c < 128 := by rw [ez]; exact hz
  have lenx : (spoiltV w0 n).length ≤ 20 := by rw [len_list, ex]; exact lx
  have lenz : (spoiltV w1 n).length ≤ 20 := by rw [len_list, ez]; exact lz
  have x2' : ¬ levN w1.cps.toList x 2 ≤ 2 := fun h => by rw [Nat.ble_eq_true_of_le h] at x2; cases x2
  have z1' : ¬ levN z w0.cps.toList 2 ≤ 2 := fun h => by rw [Nat.ble_eq_true_of_le h] at z1; cases z1
  have x3' := Nat.eq_of_beq_eq_true x3
  have z3' := Nat.eq_of_beq_eq_true z3
  refine ⟨⟨⟨ps_reply _ _, ?_⟩, pv_reply _ _, ⟨lenx, P.l0.2, P.l1.2⟩, .inl ⟨rfl, ?_, ?_, ?_⟩⟩, ⟨⟨ps_reply _ _, ?_⟩, pv_reply _ _, ⟨lenz, P.l0.2, P.l1.2⟩, .inr ⟨rfl, ?_, ?_, ?_⟩⟩, lenx, lenz⟩
  · have := len_reply (spoiltV w0 n) y; omega
  · rw [lev2 hsx P.a0, ex]; omega
  · rw [lev2 P.a1 hsx, ex]; omega
  · rw [lev2 hsx P.a0, cost_sim hsx, ex]; omega
  · have := len_reply (spoiltV w1 n) y; omega
  · rw [lev2 hsz P.a0, ez]; omega
  · rw [lev2 P.a1 hsz, ez]; omega
  · rw [lev2 P.a1 hsz, cost_sim hsz, ez]; omega
theorem Pair.run {w0 w1 : Str} (P : Pair w0 w1) : RunPre w0 w1 := by
  have hg : (Str.ofString "g").length = 1 := by decide +kernel
  refine ⟨P.l0, P.l1, P.n0, P.n1, P.u0, P.u1, ?_, ?_, ?_, ps_reply, pv_reply, ?_⟩
  · rintro o n (rfl | rfl)
    · exact (P.hpre n (Str.ofString "g") (by omega)).2.2.1
    · exact (P.hpre n (Str.ofString "g") (by omega)).2.2.2
  · rintro o n (rfl | rfl)
    · exact (P.hpre n (Str.ofString "g") (by omega)).1
    · exact (P.hpre n (Str.ofString "g") (by omega)).2.1
  · rintro o n (rfl | rfl)
    · have := (P.hpre n (Str.ofString "g") (by omega)).2.2.1
      have h2 := len_reply (spoiltV w0 n) (Str.ofString "g")
      show (replyV (spoiltV w0 n) (Str.ofString "g")).length ≤ 200
      omega
    · have := (P.hpre n (Str.ofString "g") (by omega)).2.2.2
      have h2 := len_reply (spoiltV w1 n) (Str.ofString "g")
      show (replyV (spoiltV w1 n) (Str.ofString "g")).length ≤ 200
      omega
  · intro x y hx hy
    have := len_reply x y
    omega
theorem lt_all {l : List Nat} (h : (l.all fun c => Nat.blt c 128) = true) : ∀ c ∈ l, c < 128 := fun c hc => by
  have := List.all_eq_true.mp h c hc
  simp only [Nat.blt, Nat.ble_eq] at this
  omega
theorem upper_of (sg o : Nat) (hs : sg < 4) (ho : o < 2) : Txt.upper (wordOf sg o) = upOf sg o :=
  four (P := fun sg => ∀ o, o < 2 → Txt.upper (wordOf sg o) = upOf sg o) (two (by decide +kernel) (by decide +kernel)) (two (by decide +kernel) (by decide +kernel)) (two (by decide +kernel) (by decide +kernel)) (two (by decide +kernel) (by decide +kernel)) sg hs o ho
theorem ascii_of (sg o : Nat) (hs : sg < 4) (ho : o < 2) : ((wordOf sg o).cps.toList.all fun c => Nat.blt c 128) = true :=
  four (P := fun sg => ∀ o, o < 2 → ((wordOf sg o).cps.toList.all fun c => Nat.blt c 128) = true) (two (by decide +kernel) (by decide +kernel)) (two (by decide +kernel) (by decide +kernel)) (two (by decide +kernel) (by decide +kernel)) (two (by decide +kernel) (by decide +kernel)) sg hs o ho
theorem length_of (sg o : Nat) (hs : sg < 4) (ho : o < 2) : 1 ≤ (wordOf sg o).length ∧ (wordOf sg o).length ≤ 20 :=
  four (P := fun sg => ∀ o, o < 2 → 1 ≤ (wordOf sg o).length ∧ (wordOf sg o).length ≤ 20) (two (by decide +kernel) (by decide +kernel)) (two (by decide +kernel) (by decide +kernel)) (two (by decide +kernel) (by decide +kernel)) (two (by decide +kernel) (by decide +kernel)) sg hs o ho
theorem all_false (sg : Nat) (hs : sg < 4) : allN (wordOf sg 0).cps.toList (wordOf sg 1).cps.toList false = true :=
  four (P := fun sg => allN (wordOf sg 0).cps.toList (wordOf sg 1).cps.toList false = true) (by decide +kernel) (by decide +kernel) (by decide +kernel) (by decide +kernel) sg hs
theorem all_true (sg : Nat) (hs : sg < 4) : allN (wordOf sg 0).cps.toList (wordOf sg 1).cps.toList true = true :=
  four (P := fun sg => allN (wordOf sg 0).cps.toList (wordOf sg 1).cps.toList true = true) (by decide +kernel) (by decide +kernel) (by decide +kernel) (by decide +kernel) sg hs
theorem run_pre (sg : Nat) (hs : sg < 4) : RunPre (wordOf sg 0) (wordOf sg 1) :=
  Pair.run ⟨lt_all (ascii_of sg 0 hs (by decide)), lt_all (ascii_of sg 1 hs (by decide)), length_of sg 0 hs (by decide), length_of sg 1 hs (by decide),
    ⟨sg, 0, hs, by decide, .inl rfl⟩, ⟨sg, 1, hs, by decide, .inl rfl⟩, ⟨sg, 0, hs, by decide, .inr (upper_of sg 0 hs (by decide))⟩, ⟨sg, 1, hs, by decide, .inr (upper_of sg 1 hs (by decide))⟩,
    all_false sg hs, all_true sg hs⟩
end Mine
end
section
open PySem PySem.W PySem.Spec PySem.Calls PyProof.Rows
set_option maxHeartbeats 8000000
namespace Mine
theorem rs_Y1 : True := by
  k_with_none
  exact trivial
noncomputable def bareOf (sg o : Nat) : Str := [Str.ofString "<a", Str.ofString "&a", Str.ofString "<\"", Str.ofString "&\"", Str.ofString "<<", Str.ofString "&<", Str.ofString "<>", Str.ofString "&>"].getD (2 * sg + o) Str.empty
theorem bare_sg (c : Int) : ∃ sg, sg < 4 ∧ Str.ofString "<" ++ Txt.item (Str.ofString "a\"<>") ((c.fdiv 8).fmod 4) = bareOf sg 0 ∧ Str.ofString "&" ++ Txt.item (Str.ofString "a\"<>") ((c.fdiv 8).fmod 4) = bareOf sg 1 := by
  have h0 := Int.fmod_nonneg_of_pos (c.fdiv 8) (b := 4) (by omega)
  have h1 := Int.fmod_lt_of_pos (c.fdiv 8) (b := 4) (by omega)
  generalize (c.fdiv 8).fmod 4 = k at h0 h1
  rcases four_int ⟨h0, by omega⟩ with rfl | rfl | rfl | rfl
  · exact ⟨0, by decide, by decide +kernel, by decide +kernel⟩
  · exact ⟨1, by decide, by decide +kernel, by decide +kernel⟩
  · exact ⟨2, by decide, by decide +kernel, by decide +kernel⟩
  · exact ⟨3, by decide, by decide +kernel, by decide +kernel⟩
theorem esc_bare (sg o : Nat) (hs : sg < 4) (ho : o < 2) : escV (bareOf sg o) = wordOf sg o :=
  four (P := fun sg => ∀ o, o < 2 → escV (bareOf sg o) = wordOf sg o) (two (by decide +kernel) (by decide +kernel)) (two (by decide +kernel) (by decide +kernel)) (two (by decide +kernel) (by decide +kernel)) (two (by decide +kernel) (by decide +kernel)) sg hs o ho
theorem wri_pre (w : World) (sg : Nat) (hs : sg < 4) : WriPre w (bareOf sg 0) (bareOf sg 1) (wordOf sg 0) (wordOf sg 1) :=
  four (P := fun sg => WriPre w (bareOf sg 0) (bareOf sg 1) (wordOf sg 0) (wordOf sg 1)) ⟨wri_0 w, wri_1 w⟩ ⟨wri_2 w, wri_3 w⟩ ⟨wri_4 w, wri_5 w⟩ ⟨wri_6 w, wri_7 w⟩ sg hs
noncomputable def asciiB (x : Str) : Bool := x.cps.toList.all fun c => Nat.blt c 128
noncomputable def chkQ (q : Tri) (v : Nat) : Bool := asciiB q.1 && asciiB q.2.1 && Nat.ble q.1.length 1000 && Nat.ble q.2.1.length 1000 && decide (0 ≤ q.2.2) && decide (q.2.2 ≤ 1000) && Nat.beq (levN q.1.cps.toList q.2.1.cps.toList q.2.2.toNat) v && Nat.ble v 1000
noncomputable def chkAll : List Tri → List Nat → Bool
  | [], [] => true
  | q :: qs, v :: vs => chkQ q v && chkAll qs vs
  | _, _ => false
theorem chkQ_ok {q : Tri} {v : Nat} (h : chkQ q v = true) : TriOk q ∧ valT q = Str.ofString (toString (v : Int)) := by
  unfold chkQ at h
  simp only [Bool.and_eq_true, Nat.ble_eq, decide_eq_true_eq] at h
  obtain ⟨⟨⟨⟨⟨⟨⟨h1, h2⟩, h3⟩, h4⟩, h5⟩, h6⟩, h7⟩, h8⟩ := h
  have h7' := Nat.eq_of_beq_eq_true h7
  have e : LevV q.1 q.2.1 q.2.2 = (v : Int) := by
    have z := lev_sim (mx := q.2.2.toNat) (lt_all h1) (lt_all h2)
    rw [Int.toNat_of_nonneg h5, h7'] at z
    exact z
  refine ⟨⟨h3, h4, ⟨h5, h6⟩, by rw [e]; omega, by rw [e]; omega⟩, ?_⟩
  unfold valT
  rw [e]
theorem chkAll_ok : ∀ {qs : List Tri} {vs : List Nat}, chkAll qs vs = true → (∀ q ∈ qs, TriOk q) ∧ qs.map valT = vs.map fun (v : Nat) => Str.ofString (toString (v : Int))
  | [], [], _ => ⟨fun _ h => (nomatch h), rfl⟩
  | q :: qs, v :: vs, h => by
    unfold chkAll at h
    rw [Bool.and_eq_true] at h
    obtain ⟨a, b⟩ := chkQ_ok h.1
    obtain ⟨c, d⟩ := chkAll_ok h.2
    refine ⟨fun x hx => ?_, by rw [List.map_cons, List.map_cons, b, d]⟩
    rcases List.mem_cons.mp hx with e | hx
    · rw [e]; exact a
    · exact c x hx
  | [], _ :: _, h => by cases h
  | _ :: _, [], h => by cases h
theorem good_vals : ([6, 6, 2, 1, 6, 4, 100, 100, 4, 4, 82, 82] : List Nat).map (fun (v : Nat) => Str.ofString (toString (v : Int))) = goodL := by decide +kernel
theorem chk_sg (sg : Nat) (hs : sg < 4) : chkAll (qsOf (bareOf sg 0) (bareOf sg 1) (wordOf sg 0) (wordOf sg 1)) [6, 6, 2, 1, 6, 4, 100, 100, 4, 4, 82, 82] = true :=
  four (P := fun sg => chkAll (qsOf (bareOf sg 0) (bareOf sg 1) (wordOf sg 0) (wordOf sg 1)) [6, 6, 2, 1, 6, 4, 100, 100, 4, 4, 82, 82] = true) (by decide +kernel) (by decide +kernel) (by decide +kernel) (by decide +kernel) sg hs
theorem len_bare (sg o : Nat) (hs : sg < 4) (ho : o < 2) : 1 ≤ (bareOf sg o).length ∧ (bareOf sg o).length ≤ 20 :=
  four (P := fun sg => ∀ o, o < 2 → 1 ≤ (bareOf sg o).length ∧ (bareOf sg o).length ≤ 20) (two (by decide +kernel) (by decide +kernel)) (two (by decide +kernel) (by decide +kernel)) (two (by decide +kernel) (by decide +kernel)) (two (by decide +kernel) (by decide +kernel)) sg hs o ho
theorem cost_pre (sg : Nat) (hs : sg < 4) : CostPre (bareOf sg 0) (bareOf sg 1) (wordOf sg 0) (wordOf sg 1) := by
  obtain ⟨a, b⟩ := chkAll_ok (chk_sg sg hs)
  refine ⟨len_bare sg 0 hs (by decide), len_bare sg 1 hs (by decide), length_of sg 0 hs (by decide), length_of sg 1 hs (by decide), ?_, a, by rw [b]; exact good_vals⟩
  exact four (P := fun sg => SeqAt.shaped (.list [.str (wordOf sg 0), .str (wordOf sg 1)]) = true) (by decide +kernel) (by decide +kernel) (by decide +kernel) (by decide +kernel) sg hs
theorem sg_pre (w : World) (c : Int) : WriPre w (Str.ofString "<" ++ Txt.item (Str.ofString "a\"<>") ((c.fdiv 8).fmod 4)) (Str.ofString "&" ++ Txt.item (Str.ofString "a\"<>") ((c.fdiv 8).fmod 4)) (escV (Str.ofString "<" ++ Txt.item (Str.ofString "a\"<>") ((c.fdiv 8).fmod 4))) (escV (Str.ofString "&" ++ Txt.item (Str.ofString "a\"<>") ((c.fdiv 8).fmod 4))) ∧ CostPre (Str.ofString "<" ++ Txt.item (Str.ofString "a\"<>") ((c.fdiv 8).fmod 4)) (Str.ofString "&" ++ Txt.item (Str.ofString "a\"<>") ((c.fdiv 8).fmod 4)) (escV (Str.ofString "<" ++ Txt.item (Str.ofString "a\"<>") ((c.fdiv 8).fmod 4))) (escV (Str.ofString "&" ++ Txt.item (Str.ofString "a\"<>") ((c.fdiv 8).fmod 4))) ∧ RunPre (escV (Str.ofString "<" ++ Txt.item (Str.ofString "a\"<>") ((c.fdiv 8).fmod 4))) (escV (Str.ofString "&" ++ Txt.item (Str.ofString "a\"<>") ((c.fdiv 8).fmod 4))) ∧ GetPre (escV (Str.ofString "<" ++ Txt.item (Str.ofString "a\"<>") ((c.fdiv 8).fmod 4))) (escV (Str.ofString "&" ++ Txt.item (Str.ofString "a\"<>") ((c.fdiv 8).fmod 4))) := by
  obtain ⟨sg, hs, e0, e1⟩ := bare_sg c
  rw [e0, e1, esc_bare sg 0 hs (by decide), esc_bare sg 1 hs (by decide)]
  exact ⟨wri_pre w sg hs, cost_pre sg hs, run_pre sg hs, get_pre sg hs⟩
theorem four_of (c : Int) : 0 ≤ (c.fdiv 2).fmod 4 ∧ (c.fdiv 2).fmod 4 ≤ 3 := by
  have g0 := Int.fmod_nonneg_of_pos (c.fdiv 2) (b := 4) (by decide)
  have g1 := Int.fmod_lt_of_pos (c.fdiv 2) (b := 4) (by decide)
  exact ⟨g0, Int.le_of_lt_add_one g1⟩
end Mine
end
section
open PySem PySem.W PySem.Spec PySem.Calls PyProof.Rows
set_option maxHeartbeats 8000000
namespace Mine
theorem rs_S5 : True := by
  k_with_none
  exact trivial
section
variable {prog : Program} {w : World} {A : Around} {E : Value → Shared → Prop} {s : Shared} {h₀ : Heap} {L : Addr} {m : Str → Option Value} {env : Env}
/-- a comprehension over a text's signs, bound to a local name -/
theorem comp_strA {elt iter : PySem.Expr} {x y : Str} {px py : Pos} {scope : Scope} {cl : List (Str × Addr)} {pos spos : Pos} {Q : Flow → Shared → Prop} (_F₀ : Fr h₀ L s.heap m) (hLe : env.locals = L)
    (hsw : swapsWith (.ListComp elt [⟨.Name x px, iter, [], 0⟩] scope pos) (some (.Name y py)) spos.line env = pure true)
    (hclos : closureFor scope env = pure cl) (hcell : ∀ z ∈ scope.names, z.2 ≠ .cell) (hkind : scope.kind = .function)
    (hnames : ∀ z ∈ scope.names, z.2 = .local → scope.names.lookup z.1 = some .local) (hx : scope.names.lookup x = some .local)
    (hy : env.kindOf y = some .local) (hp : (env.scope.kind == .class || (env.scope.kind == .module && env.locals != env.globals)) = false)
    (h : wpAny (model prog w) A (eval iter env) (StrSrc prog w A h₀ L m env elt x scope cl (fun s₂ => LCg.FinA h₀ L m s₂ y Q)) E s)
    (hs : ∀ x, foldedSetIterable iter env x = pure x := by intro _; rfl) :
    wpAny (model prog w) A (exec (.Assign [.Name y py] (.ListComp elt [⟨.Name x px, iter, [], 0⟩] scope pos) spos) env) Q E s := by
  subst hLe
  rw [exec_Assign_Name_used _ _ _ _ hsw]
  refine wpAny_bind (wpAny_standAt (wpAny_bind ?_))
  show wpAny _ A (do let _ ← comprehension (.ListComp elt [⟨.Name x px, iter, [], 0⟩] scope pos) scope env _ (newList []) false (eval iter env) (some (assign (.Name y py) env))) _ _ s
  refine wpAny_bind (wpAny_mono (wpAny_comprehension_free (use := some (assign (.Name y py) env)) (Q := fun _ s' => Q .next s') rfl hs hclos hkind hnames
    (wpAny_mono h (fun xv s₁ h₁ => ?_) fun _ _ e => e)) (fun _ s' hq => wpAny_pure (wpAny_pure hq)) fun _ _ e => e)
  obtain ⟨tx, t, news, rfl, hh, F, N, hsz, R⟩ := h₁
  have fin : ∀ (s₂ : Shared) (D C : Addr) (h' : Heap) (tk : Nat) (m' : Str → Option Value) (ys : List Value) (news' : List (Addr × Obj)), Fr h₀ env.locals h' m → News h₀ env.locals h' ((D, LCg.lst ys) :: news') → LCg.Off1 D news' → h'.Ns C m' → h₀.get? C = none → h₀.get? D = none → C ≠ env.locals → D ≠ env.locals → C ≠ D → (∀ p ∈ news', p.1 ≠ C) → LCg.FinA h₀ env.locals m s₂ y Q ys news' →
      wpAny (model prog w) A (assign (.Name y py) env (.ref D)) (fun _ s₄ => ∃ m'', s₄.heap.Ns C m'' ∧ ∀ h'', Heap.SameBut C s₄.heap h'' → Q .next { s₄ with heap := h'' }) E { s₂ with heap := h', toks := tk } := by
    intro s₂ D C h' tk m' ys news' F' N' o1 hn hC₀ hD₀ hCL hDL hCD offC fin
    refine wpAny_assign_Name (wpAny_storeName_local hy F'.ns (fun h₂ hn₂ hs₂ => ?_) hp)
    have hL₀ : h₀.get? env.locals = none := Heap.get?_none_of_le F'.above
    have F₂ : Fr h₀ env.locals h₂ (fun z => if z = y then some (.ref D) else m z) := ⟨hn₂, fun b o e => hs₂.extBut b o (fun q => by rw [q, hL₀] at e; cases e) (F'.keep b o e), F'.above⟩
    refine ⟨m', hn.sameBut hs₂ hCL, fun h'' hs'' => fin D h'' _ (F₂.change hs'' hCL hC₀) (fun p hp => ?_) o1⟩
    have z : h₂.get? p.1 = some p.2 := hs₂.extBut _ _ (N' p hp).2.1 (N' p hp).1
    refine ⟨hs''.extBut _ _ ?_ z, (N' p hp).2⟩
    rcases List.mem_cons.mp hp with rfl | hp
    · exact Ne.symm hCD
    · exact offC p hp
  cases ha : tx.cps.all (· < 128)
  · refine wpAny_pyIter_wide ha ?_
    have up : ∀ b o, s₁.heap.get? b = some o → (s₁.heap.push { cls := .type "str_iterator", data := .fields #[.str tx t, .int 0 0] }).get? b = some o := fun b o e => Heap.get?_push_of_some _ e
    refine LCg.block_U (Walks.strWide hh s₁.heap.objs.size tx t) hsz (fun i h st => by obtain ⟨o, e, _⟩ := st; exact ⟨o, e⟩) str_st hcell hkind hx ⟨_, Heap.get?_push_size _ rfl, rfl, rfl⟩ (fun b hb => ?_)
      (F.keeps up) (N.grown up) (Nat.ne_of_lt F.ns.lt) (next_is_new F) (fun p hp => Nat.ne_of_lt (Heap.lt_size (N p hp).1)) trivial (R _ ⟨_, rfl⟩) ?_
    · show b < (s₁.heap.push _).objs.size
      rw [Heap.size_push, List.mem_singleton.mp hb]; exact Nat.lt_succ_self _
    · intro D C h' tk m' ys news' F' N' o1 hn hC₀ hD₀ hCL hDL hCD offC f9
      exact fin _ D C h' tk m' ys news' F' N' o1 hn hC₀ hD₀ hCL hDL hCD offC f9
  · refine wpAny_pyIter_ascii ha ?_
    have up : ∀ b o, s₁.heap.get? b = some o → (s₁.heap.push { cls := .type "str_ascii_iterator", data := .fields #[.str tx t, .int 0 0] }).get? b = some o := fun b o e => Heap.get?_push_of_some _ e
    refine LCg.block_U (Walks.strAscii hh s₁.heap.objs.size tx t) hsz (fun i h st => by obtain ⟨o, e, _⟩ := st; exact ⟨o, e⟩) str_st hcell hkind hx ⟨_, Heap.get?_push_size _ rfl, rfl, rfl⟩ (fun b hb => ?_)
      (F.keeps up) (N.grown up) (Nat.ne_of_lt F.ns.lt) (next_is_new F) (fun p hp => Nat.ne_of_lt (Heap.lt_size (N p hp).1)) trivial (R _ ⟨_, rfl⟩) ?_
    · show b < (s₁.heap.push _).objs.size
      rw [Heap.size_push, List.mem_singleton.mp hb]; exact Nat.lt_succ_self _
    · intro D C h' tk m' ys news' F' N' o1 hn hC₀ hD₀ hCL hDL hCD offC f9
      exact fin _ D C h' tk m' ys news' F' N' o1 hn hC₀ hD₀ hCL hDL hCD offC f9
end
end Mine
end
section
open PySem PySem.W PySem.Spec PySem.Calls PyProof.Rows
set_option maxHeartbeats 8000000
namespace Mine
theorem rs_Y2 : True := by
  k_with_none
  exact trivial
section
theorem bare_len {m a : Str} {k : Int} (hm : m.length = 1) : (m ++ Txt.item a k).length ≤ 20 := by
  rw [Str.length_append, hm, item_len]; decide
theorem stage2 (w : World) (c0 c1 c2 c3 c4 c5 c6 c7 c8 c9 : Int) (k0 k1 k2 k3 k4 k5 k6 k7 k8 k9 : Tok) (C : Addr) (oC oF oW oB : Obj) (cC : Nat)
    (hC : oC.data = .cell (some (.ref C))) (hF : oF.data = .cell none) (hW : oW.data = .cell none) (hB : oB.data = .cell none) :
  ∀ (prog : Program) (p : Program) (loose : List Str) (mean : ExcName → Option Value) (mg mb : Str → Option Value) (h₀ : Heap) (L fa : Addr) (ccd : Value) (s : Shared) (Q : Flow → Shared → Prop) (E : Value → Shared → Prop),
    Below callerA h₀ [] h₀ → Fr h₀ L s.heap (fun _ => none) → (hd.heap_39 w.params).In h₀ →
    News h₀ L s.heap [(C, listOf [.int c0 k0, .int c1 k1, .int c2 k2, .int c3 k3, .int c4 k4, .int c5 k5, .int c6 k6, .int c7 k7, .int c8 k8, .int c9 k9].toArray cC), (L + 1 + 1 + 1 + 1 + 1 + 1, oB), (L + 1 + 1 + 1 + 1 + 1, oW), (L + 1 + 1 + 1 + 1, oF), (L + 1 + 1 + 1, oC)] → Top p loose mean mg mb h₀ →
    LawEnd h₀ L s Q →
      wpAny (model prog w) (callerA.deeper (lawEnv L fa ccd)) (execs (lawOf.1.drop 2) (lawEnv L fa ccd)) Q E s := by
  k_with_none
  k_with "subscriptTail Name Constant ref int" => ((with_reducible show wpAny _ _ (subscriptTail _ _ (Value.ref _) (Value.int _ _)) _ _ _); k_dflt (refine' sub_val ?k1 ?k2 ?k4 ?k5 ?k6 ?_ ?k7; (case k1 => k_asm); (case k2 => k_mem); (case k4 => decide); (case k5 => decide); (case k6 => with_unfolding_all rfl); (case k7 => with_unfolding_all rfl); k_whole))
  k_with "storeName" => ((with_reducible show wpAny _ _ (storeName _ (Str.ofString "words") _) _ _ _); refine Stop.mk ?_)
  k_with "storeName" => ((with_reducible show wpAny _ _ (storeName _ (Str.ofString "false") _) _ _ _); refine Stop.mk ?_)
  k_with "my keep" => first | exact KeepR.nil | (refine' KeepR.keep (.inl (notCell (by rfl))) ?a; (case a => walk_at "my keep")) | (refine' KeepR.keep (.inr (by omega)) ?a; (case a => walk_at "my keep")) | (refine' KeepR.skip ?a; (case a => walk_at "my keep"))
  k_with "exec Assign cons ListComp" => ((with_reducible show wpAny _ _ (exec (Stmt.Assign _ (Expr.ListComp _ [⟨_, Expr.Constant _ _ _, [], _⟩] _ _) _) _) _ _ _); k_dflt (refine comp_strA (by k_asm) (by rfl) (by with_unfolding_all rfl) (by with_unfolding_all rfl) (by decide) (by rfl) (by decide) (by rfl) (by rfl) (by rfl) ?_))
  k_with "StrSrc" => (k_dflt (refine StrSrc.mk2 _ (by assumption) (by exact Nat.le_of_ble_eq_true rfl) (by rfl) (by k_asm) (by k_asm) ?_); intro _; (try dsimp only))
  k_with "SignRest" => first | (refine SignRest.cons ?_; intro _ _ _ _ _ _ _ _ _ _ _ _ _ _ _ _; (try dsimp only)) | (refine SignRest.nil ?_; (try dsimp only))
  k_with "CompSrc" => (k_dflt (refine LCg.CompSrc.ledger (by rfl) (by k_asm) (by k_asm) (by k_mem) (by exact Nat.le_of_ble_eq_true rfl) ?_; intro _; (try dsimp only); lcg_lit; (try dsimp only)))
  k_with "CompEnd" => (k_dflt (refine LCg.CompEnd.intro (by assumption) (by assumption) _ (fun p hp => hp) (by first | assumption | (simp only [LCg.Off3, and_true]; assumption)) (by first | exact True.intro | (show _ ∈ _; k_mem) | lcg_src) ?_))
  k_with "call ref" => (k_here; (with_reducible show wpAny _ _ (call (Value.ref 246) _) _ _ _); (try dsimp only); k_dflt (refine' use_claim (esc_c _ _ _) ?k1 ?k2 ?k3 ?k4 ?k5 ?kK ?kp ?kd ?ku ?_; (case k1 => k_asm); (case k2 => k_asm); (case k3 => k_asm); (case k4 => k_asm); (case k5 => k_asm); (case kK => first | exact rfl | assumption); (case kp => exact bare_len (by decide +kernel)); (case kd => ktr_room); (case ku => ktr_units)); intro _ _ _ _ _; (try dsimp only); (try k_fold))
  k_with "execs cons" => ((with_reducible show wpAny _ _ (execs (Stmt.If _ _ _ _ :: _) _) _ _ _); refine Stop.mk ?_)
  have hsg : (Str.ofString "<&").cps.toList.map (fun c => (⟨#[c]⟩ : Str)) = [Str.ofString "<", Str.ofString "&"] := by decide +kernel
  intro prog p loose mean mg mb h₀ L fa ccd s Q E hBl hFr hX hN hT hfin
  show wpAny _ (callerA.deeper (envOfC _ (Scope.mk _ _ _ _ _) _ _ _)) (execs [_, _, _, _, _, _, _, _, _, _, _, _, _] (envOfC _ (Scope.mk _ _ _ _ _) _ _ _)) _ _ _
  k_steps
  show wpAny _ _ (storeName _ _ _) _ _ _
  refine' store_cellK ?F ?N ?hc ?hm hF ?hs ?_
  (case F => k_asm)
  (case N => k_asm)
  (case hc => rfl)
  (case hm => k_mem)
  (case hs => walk_at "my keep")
  intro h1 o1 F1 N1 d1
  k_steps
  show wpAny _ _ (storeName _ _ _) _ _ _
  refine' store_cellK ?F ?N ?hc ?hm hW ?hs ?_
  (case F => k_asm)
  (case N => k_asm)
  (case hc => rfl)
  (case hm => k_mem)
  (case hs => walk_at "my keep")
  intro h2 o2 F2 N2 d2
  k_steps
  show wpAny _ _ (execs _ _) _ _ _
  obtain ⟨pw, pc, pr, pg⟩ := sg_pre w c0
  exact stage3 w _ _ _ _ pw pc pr pg ((c0.fdiv 2).fmod 4) (c0.fmod 2) c0 c1 c2 c3 c4 c5 c6 c7 c8 c9 (mod_two c0) (four_of c0) _ _ _ _ _ _ _ k0 k1 k2 k3 k4 k5 k6 k7 k8 k9 _ _ C oC o1 o2 oB _ _ cC hC d1 d2 hB prog p loose mean mg mb h₀ L fa ccd _ Q E hBl (by k_asm) hX (news_sub (by assumption) (by k_subL)) hT hfin
end
end Mine
end
section
open PySem PySem.W PySem.Spec PySem.Calls PyProof.Rows
set_option maxHeartbeats 8000000
namespace Mine
theorem rs_Y0 : True := by
  k_with_none
  exact trivial
section
theorem filter_ints {vs : List Value} {ns : List Int} (hi : IntsAre vs ns) : ∀ l : List Nat, IntsAre (l.filterMap (vs.toArray[·]?)) (l.filterMap (ns[·]?))
  | [] => .nil
  | i :: l => by
    have ih := filter_ints hi l
    have hl := hi.length
    by_cases h : i < vs.length
    · have h' : i < ns.length := hl ▸ h
      obtain ⟨k, t, e, hk⟩ := IntsAre.at hi i vs[i] (List.getElem?_eq_getElem h)
      have e1 : vs.toArray[i]? = some (.int ns[i] t) := by
        rw [List.getElem?_toArray, List.getElem?_eq_getElem h, e]
        rw [List.getElem?_eq_getElem h'] at hk
        rw [Option.some.inj hk]
      rw [List.filterMap_cons_some e1, List.filterMap_cons_some (List.getElem?_eq_getElem h')]
      exact .cons _ t ih
    · have e1 : vs.toArray[i]? = none := by rw [List.getElem?_toArray]; exact List.getElem?_eq_none (Nat.not_lt.mp h)
      have e2 : ns[i]? = none := List.getElem?_eq_none (Nat.not_lt.mp (hl ▸ h))
      rw [List.filterMap_cons_none e1, List.filterMap_cons_none e2]
      exact ih
noncomputable def pickI (ns : List Int) (lo hi st : Option Int) : List Int := (sliceRange (sliceBounds lo hi st ns.length).1 (sliceBounds lo hi st ns.length).2.1 (sliceBounds lo hi st ns.length).2.2).filterMap (ns[·]?)
theorem pick_ints {vs : List Value} {ns : List Int} (hi : IntsAre vs ns) (lo hi' st : Option Int) : IntsAre (slicePick vs.toArray lo hi' st).toList (pickI ns lo hi' st) := by
  unfold slicePick pickI
  rw [List.size_toArray, hi.length]
  exact filter_ints hi _
theorem sum_pick {prog : Program} {w : World} {A : Around} {E : Value → Shared → Prop} {s : Shared} {h₀ : Heap} {L D : Addr} {m : Str → Option Value} {news : List (Addr × Obj)} {vs : List Value} {ns : List Int} {lo hi' st : Option Int} {Q : Value → Shared → Prop} (hh : A.handled = none) (F : Fr h₀ L s.heap m) (N : News h₀ L s.heap news)
    (hm : (D, ({ cls := .type "list", data := .seq (slicePick vs.toArray lo hi' st) } : Obj)) ∈ news) (hi : IntsAre vs ns) (h : ∀ h' tk t', Fr h₀ L h' m → News h₀ L h' news → Q (.int (pickI ns lo hi' st).sum t') { s with heap := h', toks := tk }) :
    wpAny (model prog w) A (call (.builtin "sum") [.ref D]) Q E s :=
  sumK hh F N (vs := (slicePick vs.toArray lo hi' st).toList) ⟨_, (N _ hm).1, rfl, 0, by simp⟩ (pick_ints hi lo hi' st) h
noncomputable def cellF (ns : List Int) (k : Int) : Int := [13, 18, 52, 304, 126, 0, 18, 207, 454, 2].getD k.toNat 0 + (pickI ns (some k) none (some 10)).sum
theorem ints_cons {vs : List Value} {n : Int} {ns : List Int} (h : IntsAre vs (n :: ns)) : ∃ t r, vs = .int n t :: r ∧ IntsAre r ns := by
  cases h with
  | cons _ t r => exact ⟨t, _, rfl, r⟩
theorem ints_nil {vs : List Value} (h : IntsAre vs []) : vs = [] := by
  cases h; rfl
theorem ints_ten {vs : List Value} {g : Int → Int} (h : IntsAre vs ((rangeKs 0 10).map g)) : ∃ t0 t1 t2 t3 t4 t5 t6 t7 t8 t9 : Tok, vs = [.int (g 0) t0, .int (g 1) t1, .int (g 2) t2, .int (g 3) t3, .int (g 4) t4, .int (g 5) t5, .int (g 6) t6, .int (g 7) t7, .int (g 8) t8, .int (g 9) t9] := by
  have e : (rangeKs 0 10).map g = [g 0, g 1, g 2, g 3, g 4, g 5, g 6, g 7, g 8, g 9] := by
    show ([0, 1, 2, 3, 4, 5, 6, 7, 8, 9] : List Int).map g = _
    rfl
  rw [e] at h
  obtain ⟨t0, r0, rfl, h0⟩ := ints_cons h
  obtain ⟨t1, r1, rfl, h1⟩ := ints_cons h0
  obtain ⟨t2, r2, rfl, h2⟩ := ints_cons h1
  obtain ⟨t3, r3, rfl, h3⟩ := ints_cons h2
  obtain ⟨t4, r4, rfl, h4⟩ := ints_cons h3
  obtain ⟨t5, r5, rfl, h5⟩ := ints_cons h4
  obtain ⟨t6, r6, rfl, h6⟩ := ints_cons h5
  obtain ⟨t7, r7, rfl, h7⟩ := ints_cons h6
  obtain ⟨t8, r8, rfl, h8⟩ := ints_cons h7
  obtain ⟨t9, r9, rfl, h9⟩ := ints_cons h8
  rw [ints_nil h9]
  exact ⟨t0, t1, t2, t3, t4, t5, t6, t7, t8, t9, rfl⟩
theorem stage0 (w : World) (oS oT oC oF oW oB : Obj) (S : Addr) (vs : List Value) (ns : List Int) (hi : IntsAre vs ns)
    (hS : oS.data = .cell (some (.ref S))) (hT0 : oT.data = .cell none) (hC : oC.data = .cell none) (hF : oF.data = .cell none) (hW : oW.data = .cell none) (hB : oB.data = .cell none) :
  ∀ (prog : Program) (p : Program) (loose : List Str) (mean : ExcName → Option Value) (mg mb : Str → Option Value) (h₀ : Heap) (L fa : Addr) (ccd : Value) (s : Shared) (Q : Flow → Shared → Prop) (E : Value → Shared → Prop),
    Below callerA h₀ [] h₀ → Fr h₀ L s.heap (fun _ => none) → (hd.heap_39 w.params).In h₀ → h₀.IsList S vs.toArray →
    News h₀ L s.heap [(L + 1 + 1 + 1 + 1 + 1 + 1, oB), (L + 1 + 1 + 1 + 1 + 1, oW), (L + 1 + 1 + 1 + 1, oF), (L + 1 + 1 + 1, oC), (L + 1 + 1, oT), (L + 1, oS)] → Top p loose mean mg mb h₀ → ns.length ≤ 63 →
    LawEnd h₀ L s Q →
      wpAny (model prog w) (callerA.deeper (lawEnv L fa ccd)) (execs (lawOf.1.drop 0) (lawEnv L fa ccd)) Q E s := by
  k_with_none
  k_with "CompSrc" => refine Stop.mk ?_
  k_with "call builtin:sum" => (k_here; (with_reducible show wpAny _ _ (call (Value.builtin "sum") [Value.ref _]) _ _ _); k_dflt (refine' sum_pick ?k0 ?k1 ?k2 ?k3 ?k4 ?_; (case k0 => rfl); (case k1 => k_asm); (case k2 => k_asm); (case k3 => k_mem); (case k4 => assumption)); intro _ _ _ _ _; (try dsimp only))
  k_with "storeName" => ((with_reducible show wpAny _ _ (storeName _ (Str.ofString "cells") _) _ _ _); refine Stop.mk ?_)
  k_with "execs cons" => ((with_reducible show wpAny _ _ (execs (Stmt.Assign [Expr.Name (Str.ofString "order") _] _ _ :: _) _) _ _ _); refine Stop.mk ?_)
  k_with "my keep" => first | exact KeepR.nil | (refine' KeepR.keep (.inl (notCell (by rfl))) ?a; (case a => walk_at "my keep")) | (refine' KeepR.keep (.inr (by omega)) ?a; (case a => walk_at "my keep")) | (refine' KeepR.skip ?a; (case a => walk_at "my keep"))
  intro prog p loose mean mg mb h₀ L fa ccd s Q E hBl hFr hX hl hN hT hlen hfin
  show wpAny _ (callerA.deeper (envOfC _ (Scope.mk _ _ _ _ _) _ _ _)) (execs [_, _, _, _, _, _, _, _, _, _, _, _, _, _, _] (envOfC _ (Scope.mk _ _ _ _ _) _ _ _)) _ _ _
  k_steps
  show LCg.CompSrc _ _ _ _ _ _ _ _ _ _ _ _ _ _
  refine LCg.CompSrc.range (by rfl) (by k_asm) (by k_asm) (by assumption) (by first | decide | rfl) (by first | rfl | decide) (by exact Nat.le_of_ble_eq_true rfl) ?_
  intro g'
  (refine' kcf_range (cellF ns) (fun k' t' I' oI' C' oC' D' m' ys' h' tk' E' hlo' hhi' hC' hx' F' N' off' ne' hMark' => ?_) ?_)
  · dsimp only
    k_steps
    refine kcf_el ?_ (by with_unfolding_all rfl) (by with_unfolding_all rfl)
    rfl
  intro ys hys
  k_steps
  obtain ⟨t0, t1, t2, t3, t4, t5, t6, t7, t8, t9, rfl⟩ := ints_ten (g := cellF ns) hys
  show wpAny _ _ (storeName _ _ _) _ _ _
  refine' store_cellK ?F ?N ?hc ?hm hC ?hs ?_
  (case F => k_asm)
  (case N => k_asm)
  (case hc => rfl)
  (case hm => k_mem)
  (case hs => walk_at "my keep")
  intro h2 o2 F2 N2 d2
  k_steps
  show wpAny _ _ (execs _ _) _ _ _
  exact stage2 w _ _ _ _ _ _ _ _ _ _ t0 t1 t2 t3 t4 t5 t6 t7 t8 t9 _ o2 oF oW oB _ d2 hF hW hB prog p loose mean mg mb h₀ L fa ccd _ Q E hBl (by k_asm) hX (news_sub (by assumption) (by k_subL)) hT hfin
end
end Mine
end
end
section
open PySem PySem.W PySem.Spec PySem.Calls PyProof.Rows
set_option maxHeartbeats 8000000
namespace Mine
theorem main : PySem.Challenge.rw_wo0071_01.Holds := hd _ rfl (by
  k_fill
  intro w s₀ s₁ mg mb G Y fa o pm cd doc dV kV ho hd hcd hD hmg hg args vals as hpre hlay hrd hwl hlo
  have KX := kIn_of Y
  have X := (Ground.X G).1
  have V := (Ground.X G).2
  refine Ground.open G ?_
  intro T B D TE TW
  try (refine guard_noD D (by decide +kernel) ?_; clear D)
  obtain ⟨_, _, M⟩ := bmod_of_top T
  have TA := at_of_top T
  try (obtain ⟨_, _, he, B0⟩ := based_of_top T rfl hmg ho hd; have he' : cd = _ := he; subst he'; clear he)
  clear hmg
  wrow_args hpre hlay hrd hwl hlo
  refine enter_call ?_
  w_top on
  try refine codeAny_mono ?_ (fun _ _ g => GoodW.toG g)
  have K0 := below_caller (Top.heap T)
  w_call any ho hd hcd hD T F
  clear hd TA
  k_drop
  (all_goals try k_fold)
  rename_i e5 e4 e3 e2 e1 e0 n0 x0
  rename Fr _ _ _ _ => F8
  rename News _ _ _ _ => N8
  rename IntsAre _ _ => hI8
  rename Heap.IsList _ _ _ => hl8
  rename Below callerA _ _ _ => B8
  rename Top _ _ _ _ _ _ => T8
  rename Frag.In _ _ => X8
  show wpAny _ (callerA.deeper (lawEnv _ _ _)) (execs (lawOf.1.drop 0) (lawEnv _ _ _)) _ _ _
  with_reducible refine stage0 _ ?oS ?oT ?oC ?oF ?oW ?oB ?oA ?ovs ?ons ?ki ?ka0 ?ka1 ?ka2 ?ka3 ?ka4 ?ka5 _ ?op ?ol ?om ?og ?ob ?hh _ _ _ _ _ _ ?kb ?kf ?kx ?khl ?kn ?kt ?kl ?ke
  case ki => exact hI8
  case kt => exact T8
  case kb => exact B8
  case kx => exact X8
  case khl => exact hl8
  case kn => exact N8
  case ka0 => exact e0
  case ka1 => exact e1
  case ka2 => exact e2
  case ka3 => exact e3
  case ka4 => exact e4
  case ka5 => exact e5
  case kf => exact F8
  case kl => omega
  case ke =>
    intro h' tk' m' F'
    refine goodW_bool F' ?_ (raisesW_false ?_) ?_
    · assumption
    · wrow_none_raised
    · wrow_post)
end Mine
end
theorem PySem.Challenge.cw_wo0071_01_holds : PySem.Challenge.rw_wo0071_01.Holds :=
  Mine.main
