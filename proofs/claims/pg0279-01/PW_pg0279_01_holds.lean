import PyProof.Rows.All
import Wide.All
import OpenK.AllK
import Wide.FinOn
import PySem.Challenge.RW_pg0279_01
open PySem PySem.W PyProof.Rows
set_option Elab.async false
set_option compiler.extract_closed false
namespace Mine
noncomputable def nthS : List Stmt → Nat → Stmt
  | [], _ => .Pass ⟨0, 0, 0, 0⟩
  | s :: _, 0 => s
  | _ :: r, n + 1 => nthS r n
noncomputable def sBody : Stmt → List Stmt
  | .FunctionDef _ _ b _ _ _ _ _ _ _ => b
  | .ClassDef _ _ _ b _ _ _ _ _ _ _ => b
  | _ => []
noncomputable def sPar : Stmt → Arguments
  | .FunctionDef _ p _ _ _ _ _ _ _ _ => p
  | _ => ⟨[], [], none, [], [], none, []⟩
noncomputable def sScope : Stmt → Scope
  | .FunctionDef _ _ _ _ _ _ s _ _ _ => s
  | _ => ⟨.module, [], false, false, []⟩
noncomputable def atS (n : Nat) : Stmt := nthS PySem.Challenge.pw_pg0279_01.main.body n
set_option maxRecDepth 100000 in
set_option maxHeartbeats 0 in
noncomputable def KX : Params → Frag := by
  refine (?f : ∀ (p45 : Arguments) (_ : sPar (atS 4) = p45) (b45 : List Stmt) (_ : sBody (atS 4) = b45) (s45 : Scope) (_ : sScope (atS 4) = s45) (p59 : Arguments) (_ : sPar (nthS (sBody (atS 6)) 0) = p59) (b59 : List Stmt) (_ : sBody (nthS (sBody (atS 6)) 0) = b59) (s59 : Scope) (_ : sScope (nthS (sBody (atS 6)) 0) = s59) (p66 : Arguments) (_ : sPar (nthS (sBody (atS 6)) 1) = p66) (b66 : List Stmt) (_ : sBody (nthS (sBody (atS 6)) 1) = b66) (s66 : Scope) (_ : sScope (nthS (sBody (atS 6)) 1) = s66) (p73 : Arguments) (_ : sPar (nthS (sBody (atS 6)) 2) = p73) (b73 : List Stmt) (_ : sBody (nthS (sBody (atS 6)) 2) = b73) (s73 : Scope) (_ : sScope (nthS (sBody (atS 6)) 2) = s73) (p80 : Arguments) (_ : sPar (nthS (sBody (atS 6)) 3) = p80) (b80 : List Stmt) (_ : sBody (nthS (sBody (atS 6)) 3) = b80) (s80 : Scope) (_ : sScope (nthS (sBody (atS 6)) 3) = s80) (p125 : Arguments) (_ : sPar (nthS (sBody (atS 12)) 0) = p125) (b125 : List Stmt) (_ : sBody (nthS (sBody (atS 12)) 0) = b125) (s125 : Scope) (_ : sScope (nthS (sBody (atS 12)) 0) = s125) (p132 : Arguments) (_ : sPar (nthS (sBody (atS 12)) 1) = p132) (b132 : List Stmt) (_ : sBody (nthS (sBody (atS 12)) 1) = b132) (s132 : Scope) (_ : sScope (nthS (sBody (atS 12)) 1) = s132) (p180 : Arguments) (_ : sPar (nthS (sBody (atS 12)) 8) = p180) (b180 : List Stmt) (_ : sBody (nthS (sBody (atS 12)) 8) = b180) (s180 : Scope) (_ : sScope (nthS (sBody (atS 12)) 8) = s180) (p185 : Arguments) (_ : sPar (nthS (sBody (atS 12)) 9) = p185) (b185 : List Stmt) (_ : sBody (nthS (sBody (atS 12)) 9) = b185) (s185 : Scope) (_ : sScope (nthS (sBody (atS 12)) 9) = s185) (p197 : Arguments) (_ : sPar (nthS (sBody (atS 12)) 11) = p197) (b197 : List Stmt) (_ : sBody (nthS (sBody (atS 12)) 11) = b197) (s197 : Scope) (_ : sScope (nthS (sBody (atS 12)) 11) = s197) (p230 : Arguments) (_ : sPar (nthS (sBody (atS 12)) 16) = p230) (b230 : List Stmt) (_ : sBody (nthS (sBody (atS 12)) 16) = b230) (s230 : Scope) (_ : sScope (nthS (sBody (atS 12)) 16) = s230) (p244 : Arguments) (_ : sPar (atS 14) = p244) (b244 : List Stmt) (_ : sBody (atS 14) = b244) (s244 : Scope) (_ : sScope (atS 14) = s244) (p251 : Arguments) (_ : sPar (atS 15) = p251) (b251 : List Stmt) (_ : sBody (atS 15) = b251) (s251 : Scope) (_ : sScope (atS 15) = s251) (p256 : Arguments) (_ : sPar (atS 16) = p256) (b256 : List Stmt) (_ : sBody (atS 16) = b256) (s256 : Scope) (_ : sScope (atS 16) = s256) (p263 : Arguments) (_ : sPar (atS 17) = p263) (b263 : List Stmt) (_ : sBody (atS 17) = b263) (s263 : Scope) (_ : sScope (atS 17) = s263) (p268 : Arguments) (_ : sPar (atS 18) = p268) (b268 : List Stmt) (_ : sBody (atS 18) = b268) (s268 : Scope) (_ : sScope (atS 18) = s268) (p273 : Arguments) (_ : sPar (atS 19) = p273) (b273 : List Stmt) (_ : sBody (atS 19) = b273) (s273 : Scope) (_ : sScope (atS 19) = s273) (p278 : Arguments) (_ : sPar (atS 20) = p278) (b278 : List Stmt) (_ : sBody (atS 20) = b278) (s278 : Scope) (_ : sScope (atS 20) = s278) , Params → Frag) _ (by conv => lhs; whnf) _ (by conv => lhs; whnf) _ (by conv => lhs; whnf) _ (by conv => lhs; whnf) _ (by conv => lhs; whnf) _ (by conv => lhs; whnf) _ (by conv => lhs; whnf) _ (by conv => lhs; whnf) _ (by conv => lhs; whnf) _ (by conv => lhs; whnf) _ (by conv => lhs; whnf) _ (by conv => lhs; whnf) _ (by conv => lhs; whnf) _ (by conv => lhs; whnf) _ (by conv => lhs; whnf) _ (by conv => lhs; whnf) _ (by conv => lhs; whnf) _ (by conv => lhs; whnf) _ (by conv => lhs; whnf) _ (by conv => lhs; whnf) _ (by conv => lhs; whnf) _ (by conv => lhs; whnf) _ (by conv => lhs; whnf) _ (by conv => lhs; whnf) _ (by conv => lhs; whnf) _ (by conv => lhs; whnf) _ (by conv => lhs; whnf) _ (by conv => lhs; whnf) _ (by conv => lhs; whnf) _ (by conv => lhs; whnf) _ (by conv => lhs; whnf) _ (by conv => lhs; whnf) _ (by conv => lhs; whnf) _ (by conv => lhs; whnf) _ (by conv => lhs; whnf) _ (by conv => lhs; whnf) _ (by conv => lhs; whnf) _ (by conv => lhs; whnf) _ (by conv => lhs; whnf) _ (by conv => lhs; whnf) _ (by conv => lhs; whnf) _ (by conv => lhs; whnf) _ (by conv => lhs; whnf) _ (by conv => lhs; whnf) _ (by conv => lhs; whnf) _ (by conv => lhs; whnf) _ (by conv => lhs; whnf) _ (by conv => lhs; whnf) _ (by conv => lhs; whnf) _ (by conv => lhs; whnf) _ (by conv => lhs; whnf) _ (by conv => lhs; whnf) _ (by conv => lhs; whnf) _ (by conv => lhs; whnf)
  exact fun p45 _ b45 _ s45 _ p59 _ b59 _ s59 _ p66 _ b66 _ s66 _ p73 _ b73 _ s73 _ p80 _ b80 _ s80 _ p125 _ b125 _ s125 _ p132 _ b132 _ s132 _ p180 _ b180 _ s180 _ p185 _ b185 _ s185 _ p197 _ b197 _ s197 _ p230 _ b230 _ s230 _ p244 _ b244 _ s244 _ p251 _ b251 _ s251 _ p256 _ b256 _ s256 _ p263 _ b263 _ s263 _ p268 _ b268 _ s268 _ p273 _ b273 _ s273 _ p278 _ b278 _ s278 _ P =>
  (nat_lit 2, ({ cls := PySem.Value.none, data := PySem.Data.dict #[{ hash := PySem.PyData.keyHash P (PySem.Str.ofString "\x69mport.loaded._sre"), key := PySem.Value.str (PySem.Str.ofString "\x69mport.loaded._sre") 183, val := PySem.Value.bool true }, { hash := PySem.PyData.keyHash P (PySem.Str.ofString "class._frozen_importlib.BuiltinImporter"), key := PySem.Value.str (PySem.Str.ofString "class._frozen_importlib.BuiltinImporter") 185, val := PySem.Value.ref 14 }, { hash := PySem.PyData.keyHash P (PySem.Str.ofString "watched.\x69mport"), key := PySem.Value.str (PySem.Str.ofString "watched.\x69mport") 206, val := PySem.Value.ref 18 }, { hash := PySem.PyData.keyHash P (PySem.Str.ofString "class._frozen_importlib.ModuleSpec"), key := PySem.Value.str (PySem.Str.ofString "class._frozen_importlib.ModuleSpec") 216, val := PySem.Value.ref 22 }, { hash := PySem.PyData.keyHash P (PySem.Str.ofString "sys.modules.booked-epoch"), key := PySem.Value.str (PySem.Str.ofString "sys.modules.booked-epoch") 245, val := PySem.Value.int 3 0 }, { hash := PySem.PyData.keyHash P (PySem.Str.ofString "\x69mport.later-laid._sre"), key := PySem.Value.str (PySem.Str.ofString "\x69mport.later-laid._sre") 270, val := PySem.Value.bool true }, { hash := PySem.PyData.keyHash P (PySem.Str.ofString "watched.library"), key := PySem.Value.str (PySem.Str.ofString "watched.library") 272, val := PySem.Value.ref 27 }, { hash := PySem.PyData.keyHash P (PySem.Str.ofString "watched.library-objects"), key := PySem.Value.str (PySem.Str.ofString "watched.library-objects") 0, val := PySem.Value.str (PySem.Str.ofString "\x0c") 0 }, { hash := PySem.PyData.keyHash P (PySem.Str.ofString "watched.library-deep._sre"), key := PySem.Value.str (PySem.Str.ofString "watched.library-deep._sre") 273, val := PySem.Value.str (PySem.Str.ofString "\x04\x00\x00\x0b\x04\x00\x00\x0b\x04\x00\x00\x03\x04\x00\x00\x0b\x08\x04dict\x02") 0 }] 9 } : Obj)) ::
  (nat_lit 3, ({ cls := PySem.Value.type "dict", data := PySem.Data.dict #[{ hash := PySem.PyData.keyHash P (PySem.Str.ofString "__name__"), key := PySem.Value.str (PySem.Str.ofString "__name__") 165, val := PySem.Value.str (PySem.Str.ofString "law_pg0279_01") 630 }, { hash := PySem.PyData.keyHash P (PySem.Str.ofString "__doc__"), key := PySem.Value.str (PySem.Str.ofString "__doc__") 166, val := PySem.Value.none }, { hash := PySem.PyData.keyHash P (PySem.Str.ofString "__package__"), key := PySem.Value.str (PySem.Str.ofString "__package__") 167, val := PySem.Value.none }, { hash := PySem.PyData.keyHash P (PySem.Str.ofString "__loader__"), key := PySem.Value.str (PySem.Str.ofString "__loader__") 168, val := PySem.Value.builtin "__main__.__loader__#opaque" }, { hash := PySem.PyData.keyHash P (PySem.Str.ofString "__spec__"), key := PySem.Value.str (PySem.Str.ofString "__spec__") 169, val := PySem.Value.none }, { hash := PySem.PyData.keyHash P (PySem.Str.ofString "__annotations__"), key := PySem.Value.str (PySem.Str.ofString "__annotations__") 170, val := PySem.Value.ref 6 }, { hash := PySem.PyData.keyHash P (PySem.Str.ofString "__builtins__"), key := PySem.Value.str (PySem.Str.ofString "__builtins__") 171, val := PySem.Value.ref 4 }, { hash := PySem.PyData.keyHash P (PySem.Str.ofString "__file__"), key := PySem.Value.str (PySem.Str.ofString "__file__") 173, val := PySem.Value.str (PySem.Str.ofString "/claim/cut.py") 172 }, { hash := PySem.PyData.keyHash P (PySem.Str.ofString "__cached__"), key := PySem.Value.str (PySem.Str.ofString "__cached__") 174, val := PySem.Value.none }, { hash := PySem.PyData.keyHash P (PySem.Str.ofString "_sre"), key := PySem.Value.str (PySem.Str.ofString "_sre") 275, val := PySem.Value.ref 12 }, { hash := PySem.PyData.keyHash P (PySem.Str.ofString "_wall"), key := PySem.Value.str (PySem.Str.ofString "_wall") 288, val := PySem.Value.ref 38 }, { hash := PySem.PyData.keyHash P (PySem.Str.ofString "ELLIPSIS_MARKER"), key := PySem.Value.str (PySem.Str.ofString "ELLIPSIS_MARKER") 292, val := PySem.Value.str (PySem.Str.ofString "...") 291 }, { hash := PySem.PyData.keyHash P (PySem.Str.ofString "_ellipsis_match"), key := PySem.Value.str (PySem.Str.ofString "_ellipsis_match") 304, val := PySem.Value.ref 45 }, { hash := PySem.PyData.keyHash P (PySem.Str.ofString "_netrclex"), key := PySem.Value.str (PySem.Str.ofString "_netrclex") 364, val := PySem.Value.ref 83 }, { hash := PySem.PyData.keyHash P (PySem.Str.ofString "tspecials"), key := PySem.Value.str (PySem.Str.ofString "tspecials") 400, val := PySem.Value.ref 92 }, { hash := PySem.PyData.keyHash P (PySem.Str.ofString "_name_disallowed_re"), key := PySem.Value.str (PySem.Str.ofString "_name_disallowed_re") 426, val := PySem.Value.ref 97 }, { hash := PySem.PyData.keyHash P (PySem.Str.ofString "_value_disallowed_re"), key := PySem.Value.str (PySem.Str.ofString "_value_disallowed_re") 460, val := PySem.Value.ref 102 }, { hash := PySem.PyData.keyHash P (PySem.Str.ofString "_formatparam"), key := PySem.Value.str (PySem.Str.ofString "_formatparam") 470, val := PySem.Value.ref 110 }, { hash := PySem.PyData.keyHash P (PySem.Str.ofString "Headers"), key := PySem.Value.str (PySem.Str.ofString "Headers") 629, val := PySem.Value.ref 233 }, { hash := PySem.PyData.keyHash P (PySem.Str.ofString "_law_lexer"), key := PySem.Value.str (PySem.Str.ofString "_law_lexer") 641, val := PySem.Value.ref 244 }, { hash := PySem.PyData.keyHash P (PySem.Str.ofString "_law_grown"), key := PySem.Value.str (PySem.Str.ofString "_law_grown") 651, val := PySem.Value.ref 251 }, { hash := PySem.PyData.keyHash P (PySem.Str.ofString "_law_moved"), key := PySem.Value.str (PySem.Str.ofString "_law_moved") 657, val := PySem.Value.ref 256 }, { hash := PySem.PyData.keyHash P (PySem.Str.ofString "_law_kept"), key := PySem.Value.str (PySem.Str.ofString "_law_kept") 668, val := PySem.Value.ref 263 }, { hash := PySem.PyData.keyHash P (PySem.Str.ofString "_law_words"), key := PySem.Value.str (PySem.Str.ofString "_law_words") 674, val := PySem.Value.ref 268 }, { hash := PySem.PyData.keyHash P (PySem.Str.ofString "_law_below"), key := PySem.Value.str (PySem.Str.ofString "_law_below") 680, val := PySem.Value.ref 273 }, { hash := PySem.PyData.keyHash P (PySem.Str.ofString "law"), key := PySem.Value.str (PySem.Str.ofString "law") 686, val := PySem.Value.ref 278 }] 26 } : Obj)) ::
  (nat_lit 32, ({ cls := PySem.Value.type "tuple", data := PySem.Data.seq #[] } : Obj)) ::
  (nat_lit 34, ({ cls := PySem.Value.type "tuple", data := PySem.Data.seq #[PySem.Value.str (PySem.Str.ofString "k") 285] } : Obj)) ::
  (nat_lit 35, ({ cls := PySem.Value.type "tuple", data := PySem.Data.seq #[] } : Obj)) ::
  (nat_lit 37, ({ cls := PySem.Value.type "code", data := PySem.Data.fields #[PySem.Value.str (PySem.Str.ofString "_wall") 282, PySem.Value.str (PySem.Str.ofString "_wall") 283, PySem.Value.str (PySem.Str.ofString "/claim/cut.py") 284, PySem.Value.int 2 0, PySem.Value.int 1 0, PySem.Value.int 0 0, PySem.Value.int 0 0, PySem.Value.int 3 0, PySem.Value.ref 32, PySem.Value.bool true, PySem.Value.int 276 0, PySem.Value.ref 33, PySem.Value.none, PySem.Value.ref 34, PySem.Value.ref 35, PySem.Value.ref 36, PySem.Value.int 286 0, PySem.Value.int 2 0, PySem.Value.str (PySem.Str.ofString "/claim/cut.py") 287] } : Obj)) ::
  (nat_lit 39, ({ cls := PySem.Value.type "tuple", data := PySem.Data.seq #[] } : Obj)) ::
  (nat_lit 41, ({ cls := PySem.Value.type "tuple", data := PySem.Data.seq #[PySem.Value.str (PySem.Str.ofString "want") 296, PySem.Value.str (PySem.Str.ofString "got") 297, PySem.Value.str (PySem.Str.ofString "ws") 298, PySem.Value.str (PySem.Str.ofString "startpos") 299, PySem.Value.str (PySem.Str.ofString "endpos") 300, PySem.Value.str (PySem.Str.ofString "w") 301] } : Obj)) ::
  (nat_lit 42, ({ cls := PySem.Value.type "tuple", data := PySem.Data.seq #[] } : Obj)) ::
  (nat_lit 44, ({ cls := PySem.Value.type "code", data := PySem.Data.fields #[PySem.Value.str (PySem.Str.ofString "_ellipsis_match") 293, PySem.Value.str (PySem.Str.ofString "_ellipsis_match") 294, PySem.Value.str (PySem.Str.ofString "/claim/cut.py") 295, PySem.Value.int 7 0, PySem.Value.int 2 0, PySem.Value.int 0 0, PySem.Value.int 0 0, PySem.Value.int 3 0, PySem.Value.ref 39, PySem.Value.bool true, PySem.Value.int 276 0, PySem.Value.ref 40, PySem.Value.none, PySem.Value.ref 41, PySem.Value.ref 42, PySem.Value.ref 43, PySem.Value.int 302 0, PySem.Value.int 7 0, PySem.Value.str (PySem.Str.ofString "/claim/cut.py") 303] } : Obj)) ::
  (nat_lit 45, ({ cls := PySem.Value.type "function", data := PySem.Data.func { name := PySem.Str.ofString "_ellipsis_match", qualname := PySem.Str.ofString "_ellipsis_match", params := p45, body := .stmts b45, scope := s45, globals := 3, closure := [], defaults := PySem.Value.none, kwdefaults := PySem.Value.none, pyModule := PySem.Value.str (PySem.Str.ofString "cpy313.doctest") 289, code := PySem.Value.ref 44 } } : Obj)) ::
  (nat_lit 53, ({ cls := PySem.Value.type "tuple", data := PySem.Data.seq #[] } : Obj)) ::
  (nat_lit 55, ({ cls := PySem.Value.type "tuple", data := PySem.Data.seq #[PySem.Value.str (PySem.Str.ofString "self") 322, PySem.Value.str (PySem.Str.ofString "fp") 323] } : Obj)) ::
  (nat_lit 56, ({ cls := PySem.Value.type "tuple", data := PySem.Data.seq #[] } : Obj)) ::
  (nat_lit 58, ({ cls := PySem.Value.type "code", data := PySem.Data.fields #[PySem.Value.str (PySem.Str.ofString "__init__") 319, PySem.Value.str (PySem.Str.ofString "_netrclex.__init__") 320, PySem.Value.str (PySem.Str.ofString "/claim/cut.py") 321, PySem.Value.int 38 0, PySem.Value.int 2 0, PySem.Value.int 0 0, PySem.Value.int 0 0, PySem.Value.int 3 0, PySem.Value.ref 53, PySem.Value.bool true, PySem.Value.int 276 0, PySem.Value.ref 54, PySem.Value.none, PySem.Value.ref 55, PySem.Value.ref 56, PySem.Value.ref 57, PySem.Value.int 324 0, PySem.Value.int 38 0, PySem.Value.str (PySem.Str.ofString "/claim/cut.py") 325] } : Obj)) ::
  (nat_lit 59, ({ cls := PySem.Value.type "function", data := PySem.Data.func { name := PySem.Str.ofString "__init__", qualname := PySem.Str.ofString "_netrclex.__init__", params := p59, body := .stmts b59, scope := s59, globals := 3, closure := [], defaults := PySem.Value.none, kwdefaults := PySem.Value.none, pyModule := PySem.Value.str (PySem.Str.ofString "cpy313.netrc") 305, code := PySem.Value.ref 58 } } : Obj)) ::
  (nat_lit 60, ({ cls := PySem.Value.type "tuple", data := PySem.Data.seq #[] } : Obj)) ::
  (nat_lit 62, ({ cls := PySem.Value.type "tuple", data := PySem.Data.seq #[PySem.Value.str (PySem.Str.ofString "self") 330, PySem.Value.str (PySem.Str.ofString "ch") 331] } : Obj)) ::
  (nat_lit 63, ({ cls := PySem.Value.type "tuple", data := PySem.Data.seq #[] } : Obj)) ::
  (nat_lit 65, ({ cls := PySem.Value.type "code", data := PySem.Data.fields #[PySem.Value.str (PySem.Str.ofString "_read_char") 327, PySem.Value.str (PySem.Str.ofString "_netrclex._read_char") 328, PySem.Value.str (PySem.Str.ofString "/claim/cut.py") 329, PySem.Value.int 44 0, PySem.Value.int 1 0, PySem.Value.int 0 0, PySem.Value.int 0 0, PySem.Value.int 3 0, PySem.Value.ref 60, PySem.Value.bool true, PySem.Value.int 276 0, PySem.Value.ref 61, PySem.Value.none, PySem.Value.ref 62, PySem.Value.ref 63, PySem.Value.ref 64, PySem.Value.int 332 0, PySem.Value.int 44 0, PySem.Value.str (PySem.Str.ofString "/claim/cut.py") 333] } : Obj)) ::
  (nat_lit 66, ({ cls := PySem.Value.type "function", data := PySem.Data.func { name := PySem.Str.ofString "_read_char", qualname := PySem.Str.ofString "_netrclex._read_char", params := p66, body := .stmts b66, scope := s66, globals := 3, closure := [], defaults := PySem.Value.none, kwdefaults := PySem.Value.none, pyModule := PySem.Value.str (PySem.Str.ofString "cpy313.netrc") 305, code := PySem.Value.ref 65 } } : Obj)) ::
  (nat_lit 67, ({ cls := PySem.Value.type "tuple", data := PySem.Data.seq #[] } : Obj)) ::
  (nat_lit 69, ({ cls := PySem.Value.type "tuple", data := PySem.Data.seq #[PySem.Value.str (PySem.Str.ofString "self") 338, PySem.Value.str (PySem.Str.ofString "token") 339, PySem.Value.str (PySem.Str.ofString "fiter") 340, PySem.Value.str (PySem.Str.ofString "ch") 341] } : Obj)) ::
  (nat_lit 70, ({ cls := PySem.Value.type "tuple", data := PySem.Data.seq #[] } : Obj)) ::
  (nat_lit 72, ({ cls := PySem.Value.type "code", data := PySem.Data.fields #[PySem.Value.str (PySem.Str.ofString "get_token") 335, PySem.Value.str (PySem.Str.ofString "_netrclex.get_token") 336, PySem.Value.str (PySem.Str.ofString "/claim/cut.py") 337, PySem.Value.int 50 0, PySem.Value.int 1 0, PySem.Value.int 0 0, PySem.Value.int 0 0, PySem.Value.int 3 0, PySem.Value.ref 67, PySem.Value.bool true, PySem.Value.int 276 0, PySem.Value.ref 68, PySem.Value.none, PySem.Value.ref 69, PySem.Value.ref 70, PySem.Value.ref 71, PySem.Value.int 342 0, PySem.Value.int 50 0, PySem.Value.str (PySem.Str.ofString "/claim/cut.py") 343] } : Obj)) ::
  (nat_lit 73, ({ cls := PySem.Value.type "function", data := PySem.Data.func { name := PySem.Str.ofString "get_token", qualname := PySem.Str.ofString "_netrclex.get_token", params := p73, body := .stmts b73, scope := s73, globals := 3, closure := [], defaults := PySem.Value.none, kwdefaults := PySem.Value.none, pyModule := PySem.Value.str (PySem.Str.ofString "cpy313.netrc") 305, code := PySem.Value.ref 72 } } : Obj)) ::
  (nat_lit 74, ({ cls := PySem.Value.type "tuple", data := PySem.Data.seq #[] } : Obj)) ::
  (nat_lit 76, ({ cls := PySem.Value.type "tuple", data := PySem.Data.seq #[PySem.Value.str (PySem.Str.ofString "self") 348, PySem.Value.str (PySem.Str.ofString "token") 349] } : Obj)) ::
  (nat_lit 77, ({ cls := PySem.Value.type "tuple", data := PySem.Data.seq #[] } : Obj)) ::
  (nat_lit 79, ({ cls := PySem.Value.type "code", data := PySem.Data.fields #[PySem.Value.str (PySem.Str.ofString "push_token") 345, PySem.Value.str (PySem.Str.ofString "_netrclex.push_token") 346, PySem.Value.str (PySem.Str.ofString "/claim/cut.py") 347, PySem.Value.int 77 0, PySem.Value.int 2 0, PySem.Value.int 0 0, PySem.Value.int 0 0, PySem.Value.int 3 0, PySem.Value.ref 74, PySem.Value.bool true, PySem.Value.int 276 0, PySem.Value.ref 75, PySem.Value.none, PySem.Value.ref 76, PySem.Value.ref 77, PySem.Value.ref 78, PySem.Value.int 350 0, PySem.Value.int 77 0, PySem.Value.str (PySem.Str.ofString "/claim/cut.py") 351] } : Obj)) ::
  (nat_lit 80, ({ cls := PySem.Value.type "function", data := PySem.Data.func { name := PySem.Str.ofString "push_token", qualname := PySem.Str.ofString "_netrclex.push_token", params := p80, body := .stmts b80, scope := s80, globals := 3, closure := [], defaults := PySem.Value.none, kwdefaults := PySem.Value.none, pyModule := PySem.Value.str (PySem.Str.ofString "cpy313.netrc") 305, code := PySem.Value.ref 79 } } : Obj)) ::
  (nat_lit 81, ({ cls := PySem.Value.type "tuple", data := PySem.Data.seq #[PySem.Value.str (PySem.Str.ofString "instream") 353, PySem.Value.str (PySem.Str.ofString "lineno") 354, PySem.Value.str (PySem.Str.ofString "pushback") 355, PySem.Value.str (PySem.Str.ofString "whitespace") 356] } : Obj)) ::
  (nat_lit 82, ({ cls := PySem.Value.type "dict", data := PySem.Data.dict #[{ hash := PySem.PyData.keyHash P (PySem.Str.ofString "__module__"), key := PySem.Value.str (PySem.Str.ofString "__module__") 314, val := PySem.Value.str (PySem.Str.ofString "cpy313.netrc") 305 }, { hash := PySem.PyData.keyHash P (PySem.Str.ofString "__firstlineno__"), key := PySem.Value.str (PySem.Str.ofString "__firstlineno__") 318, val := PySem.Value.int 36 317 }, { hash := PySem.PyData.keyHash P (PySem.Str.ofString "__init__"), key := PySem.Value.str (PySem.Str.ofString "__init__") 326, val := PySem.Value.ref 59 }, { hash := PySem.PyData.keyHash P (PySem.Str.ofString "_read_char"), key := PySem.Value.str (PySem.Str.ofString "_read_char") 334, val := PySem.Value.ref 66 }, { hash := PySem.PyData.keyHash P (PySem.Str.ofString "get_token"), key := PySem.Value.str (PySem.Str.ofString "get_token") 344, val := PySem.Value.ref 73 }, { hash := PySem.PyData.keyHash P (PySem.Str.ofString "push_token"), key := PySem.Value.str (PySem.Str.ofString "push_token") 352, val := PySem.Value.ref 80 }, { hash := PySem.PyData.keyHash P (PySem.Str.ofString "__static_attributes__"), key := PySem.Value.str (PySem.Str.ofString "__static_attributes__") 357, val := PySem.Value.ref 81 }, { hash := PySem.PyData.keyHash P (PySem.Str.ofString "__dict__"), key := PySem.Value.str (PySem.Str.ofString "__dict__") 359, val := PySem.Value.ref 84 }, { hash := PySem.PyData.keyHash P (PySem.Str.ofString "__weakref__"), key := PySem.Value.str (PySem.Str.ofString "__weakref__") 361, val := PySem.Value.ref 85 }, { hash := PySem.PyData.keyHash P (PySem.Str.ofString "__doc__"), key := PySem.Value.str (PySem.Str.ofString "__doc__") 362, val := PySem.Value.none }] 4 } : Obj)) ::
  (nat_lit 83, ({ cls := PySem.Value.type "type", data := PySem.Data.cls { name := PySem.Str.ofString "_netrclex", bases := [PySem.Value.type "object"], mro := [PySem.Value.ref 83, PySem.Value.type "object"], ns := 82, qualname := PySem.Str.ofString "_netrclex" }, slots := #[none, none, some (PySem.Value.str (PySem.Str.ofString "_netrclex") 307), some (PySem.Value.str (PySem.Str.ofString "_netrclex") 315), some (PySem.Value.builtin "object.__new__"), some (PySem.Value.bool true)] } : Obj)) ::
  (nat_lit 84, ({ cls := PySem.Value.type "getset_descriptor", data := PySem.Data.fields #[PySem.Value.str (PySem.Str.ofString "__dict__") 358, PySem.Value.ref 83, PySem.Value.builtin "function.__dict__", PySem.Value.builtin "function.__dict__#set"] } : Obj)) ::
  (nat_lit 85, ({ cls := PySem.Value.type "getset_descriptor", data := PySem.Data.fields #[PySem.Value.str (PySem.Str.ofString "__weakref__") 360, PySem.Value.ref 83, PySem.Value.builtin "ExceptionGroup.__weakref__", PySem.Value.none] } : Obj)) ::
  (nat_lit 91, ({ cls := PySem.Value.type "tuple", data := PySem.Data.seq #[PySem.Value.int 14 0, PySem.Value.int 14 0, PySem.Value.int 4 0, PySem.Value.int 1 0, PySem.Value.int 1 0, PySem.Value.int 9 0, PySem.Value.int 0 0, PySem.Value.int 4227896069 0, PySem.Value.int 939524097 0, PySem.Value.int 0 0, PySem.Value.int 0 0, PySem.Value.int 0 0, PySem.Value.int 0 0, PySem.Value.int 0 0, PySem.Value.int 0 0, PySem.Value.int 13 0, PySem.Value.int 11 0, PySem.Value.int 9 0, PySem.Value.int 0 0, PySem.Value.int 4227896069 0, PySem.Value.int 939524097 0, PySem.Value.int 0 0, PySem.Value.int 0 0, PySem.Value.int 0 0, PySem.Value.int 0 0, PySem.Value.int 0 0, PySem.Value.int 0 0, PySem.Value.int 1 0] } : Obj)) ::
  (nat_lit 92, ({ cls := PySem.Value.type "re.Pattern", data := PySem.Data.fields #[PySem.Value.str (PySem.Str.ofString "[ \\(\\)<>@,;:\\\\\"/\\[\\]\\?=]") 368, PySem.Value.int 32 399, PySem.Value.int 0 0, PySem.Value.none, PySem.Value.none, PySem.Value.ref 91, PySem.Value.int 0 0] } : Obj)) ::
  (nat_lit 96, ({ cls := PySem.Value.type "tuple", data := PySem.Data.seq #[PySem.Value.int 14 0, PySem.Value.int 10 0, PySem.Value.int 4 0, PySem.Value.int 1 0, PySem.Value.int 1 0, PySem.Value.int 22 0, PySem.Value.int 0 0, PySem.Value.int 31 0, PySem.Value.int 16 0, PySem.Value.int 127 0, PySem.Value.int 0 0, PySem.Value.int 13 0, PySem.Value.int 7 0, PySem.Value.int 22 0, PySem.Value.int 0 0, PySem.Value.int 31 0, PySem.Value.int 16 0, PySem.Value.int 127 0, PySem.Value.int 0 0, PySem.Value.int 1 0] } : Obj)) ::
  (nat_lit 97, ({ cls := PySem.Value.type "re.Pattern", data := PySem.Data.fields #[PySem.Value.str (PySem.Str.ofString "[\\x00-\\x1F\\x7F]") 402, PySem.Value.int 32 425, PySem.Value.int 0 0, PySem.Value.none, PySem.Value.none, PySem.Value.ref 96, PySem.Value.int 0 0] } : Obj)) ::
  (nat_lit 101, ({ cls := PySem.Value.type "tuple", data := PySem.Data.seq #[PySem.Value.int 14 0, PySem.Value.int 14 0, PySem.Value.int 4 0, PySem.Value.int 1 0, PySem.Value.int 1 0, PySem.Value.int 9 0, PySem.Value.int 4294966783 0, PySem.Value.int 0 0, PySem.Value.int 0 0, PySem.Value.int 2147483648 0, PySem.Value.int 0 0, PySem.Value.int 0 0, PySem.Value.int 0 0, PySem.Value.int 0 0, PySem.Value.int 0 0, PySem.Value.int 13 0, PySem.Value.int 11 0, PySem.Value.int 9 0, PySem.Value.int 4294966783 0, PySem.Value.int 0 0, PySem.Value.int 0 0, PySem.Value.int 2147483648 0, PySem.Value.int 0 0, PySem.Value.int 0 0, PySem.Value.int 0 0, PySem.Value.int 0 0, PySem.Value.int 0 0, PySem.Value.int 1 0] } : Obj)) ::
  (nat_lit 102, ({ cls := PySem.Value.type "re.Pattern", data := PySem.Data.fields #[PySem.Value.str (PySem.Str.ofString "[\\x00-\\x08\\x0A-\\x1F\\x7F]") 428, PySem.Value.int 32 459, PySem.Value.int 0 0, PySem.Value.none, PySem.Value.none, PySem.Value.ref 101, PySem.Value.int 0 0] } : Obj)) ::
  (nat_lit 103, ({ cls := PySem.Value.type "tuple", data := PySem.Data.seq #[PySem.Value.none, PySem.Value.int 1 461] } : Obj)) ::
  (nat_lit 104, ({ cls := PySem.Value.type "tuple", data := PySem.Data.seq #[] } : Obj)) ::
  (nat_lit 106, ({ cls := PySem.Value.type "tuple", data := PySem.Data.seq #[PySem.Value.str (PySem.Str.ofString "param") 465, PySem.Value.str (PySem.Str.ofString "value") 466, PySem.Value.str (PySem.Str.ofString "quote") 467] } : Obj)) ::
  (nat_lit 107, ({ cls := PySem.Value.type "tuple", data := PySem.Data.seq #[] } : Obj)) ::
  (nat_lit 109, ({ cls := PySem.Value.type "code", data := PySem.Data.fields #[PySem.Value.str (PySem.Str.ofString "_formatparam") 462, PySem.Value.str (PySem.Str.ofString "_formatparam") 463, PySem.Value.str (PySem.Str.ofString "/claim/cut.py") 464, PySem.Value.int 83 0, PySem.Value.int 3 0, PySem.Value.int 0 0, PySem.Value.int 0 0, PySem.Value.int 3 0, PySem.Value.ref 104, PySem.Value.bool true, PySem.Value.int 276 0, PySem.Value.ref 105, PySem.Value.none, PySem.Value.ref 106, PySem.Value.ref 107, PySem.Value.ref 108, PySem.Value.int 468 0, PySem.Value.int 83 0, PySem.Value.str (PySem.Str.ofString "/claim/cut.py") 469] } : Obj)) ::
  (nat_lit 118, ({ cls := PySem.Value.type "tuple", data := PySem.Data.seq #[PySem.Value.none] } : Obj)) ::
  (nat_lit 119, ({ cls := PySem.Value.type "tuple", data := PySem.Data.seq #[] } : Obj)) ::
  (nat_lit 121, ({ cls := PySem.Value.type "tuple", data := PySem.Data.seq #[PySem.Value.str (PySem.Str.ofString "self") 486, PySem.Value.str (PySem.Str.ofString "headers") 487, PySem.Value.str (PySem.Str.ofString "k") 488, PySem.Value.str (PySem.Str.ofString "v") 489] } : Obj)) ::
  (nat_lit 122, ({ cls := PySem.Value.type "tuple", data := PySem.Data.seq #[] } : Obj)) ::
  (nat_lit 124, ({ cls := PySem.Value.type "code", data := PySem.Data.fields #[PySem.Value.str (PySem.Str.ofString "__init__") 483, PySem.Value.str (PySem.Str.ofString "Headers.__init__") 484, PySem.Value.str (PySem.Str.ofString "/claim/cut.py") 485, PySem.Value.int 94 0, PySem.Value.int 2 0, PySem.Value.int 0 0, PySem.Value.int 0 0, PySem.Value.int 3 0, PySem.Value.ref 119, PySem.Value.bool true, PySem.Value.int 276 0, PySem.Value.ref 120, PySem.Value.none, PySem.Value.ref 121, PySem.Value.ref 122, PySem.Value.ref 123, PySem.Value.int 490 0, PySem.Value.int 94 0, PySem.Value.str (PySem.Str.ofString "/claim/cut.py") 491] } : Obj)) ::
  (nat_lit 125, ({ cls := PySem.Value.type "function", data := PySem.Data.func { name := PySem.Str.ofString "__init__", qualname := PySem.Str.ofString "Headers.__init__", params := p125, body := .stmts b125, scope := s125, globals := 3, closure := [], defaults := PySem.Value.ref 118, kwdefaults := PySem.Value.none, pyModule := PySem.Value.str (PySem.Str.ofString "cpy313.wsgiref.headers") 365, code := PySem.Value.ref 124 } } : Obj)) ::
  (nat_lit 126, ({ cls := PySem.Value.type "tuple", data := PySem.Data.seq #[] } : Obj)) ::
  (nat_lit 128, ({ cls := PySem.Value.type "tuple", data := PySem.Data.seq #[PySem.Value.str (PySem.Str.ofString "self") 496, PySem.Value.str (PySem.Str.ofString "value") 497, PySem.Value.str (PySem.Str.ofString "name") 498, PySem.Value.str (PySem.Str.ofString "regex") 499] } : Obj)) ::
  (nat_lit 129, ({ cls := PySem.Value.type "tuple", data := PySem.Data.seq #[] } : Obj)) ::
  (nat_lit 131, ({ cls := PySem.Value.type "code", data := PySem.Data.fields #[PySem.Value.str (PySem.Str.ofString "_convert_string_type") 493, PySem.Value.str (PySem.Str.ofString "Headers._convert_string_type") 494, PySem.Value.str (PySem.Str.ofString "/claim/cut.py") 495, PySem.Value.int 104 0, PySem.Value.int 2 0, PySem.Value.int 0 0, PySem.Value.int 1 0, PySem.Value.int 3 0, PySem.Value.ref 126, PySem.Value.bool true, PySem.Value.int 276 0, PySem.Value.ref 127, PySem.Value.none, PySem.Value.ref 128, PySem.Value.ref 129, PySem.Value.ref 130, PySem.Value.int 500 0, PySem.Value.int 104 0, PySem.Value.str (PySem.Str.ofString "/claim/cut.py") 501] } : Obj)) ::
  (nat_lit 132, ({ cls := PySem.Value.type "function", data := PySem.Data.func { name := PySem.Str.ofString "_convert_string_type", qualname := PySem.Str.ofString "Headers._convert_string_type", params := p132, body := .stmts b132, scope := s132, globals := 3, closure := [], defaults := PySem.Value.none, kwdefaults := PySem.Value.none, pyModule := PySem.Value.str (PySem.Str.ofString "cpy313.wsgiref.headers") 365, code := PySem.Value.ref 131 } } : Obj)) ::
  (nat_lit 133, ({ cls := PySem.Value.type "tuple", data := PySem.Data.seq #[] } : Obj)) ::
  (nat_lit 135, ({ cls := PySem.Value.type "tuple", data := PySem.Data.seq #[PySem.Value.str (PySem.Str.ofString "self") 506] } : Obj)) ::
  (nat_lit 136, ({ cls := PySem.Value.type "tuple", data := PySem.Data.seq #[] } : Obj)) ::
  (nat_lit 138, ({ cls := PySem.Value.type "code", data := PySem.Data.fields #[PySem.Value.str (PySem.Str.ofString "__len__") 503, PySem.Value.str (PySem.Str.ofString "Headers.__len__") 504, PySem.Value.str (PySem.Str.ofString "/claim/cut.py") 505, PySem.Value.int 112 0, PySem.Value.int 1 0, PySem.Value.int 0 0, PySem.Value.int 0 0, PySem.Value.int 3 0, PySem.Value.ref 133, PySem.Value.bool true, PySem.Value.int 276 0, PySem.Value.ref 134, PySem.Value.none, PySem.Value.ref 135, PySem.Value.ref 136, PySem.Value.ref 137, PySem.Value.int 507 0, PySem.Value.int 112 0, PySem.Value.str (PySem.Str.ofString "/claim/cut.py") 508] } : Obj)) ::
  (nat_lit 140, ({ cls := PySem.Value.type "tuple", data := PySem.Data.seq #[] } : Obj)) ::
  (nat_lit 142, ({ cls := PySem.Value.type "tuple", data := PySem.Data.seq #[PySem.Value.str (PySem.Str.ofString "self") 513, PySem.Value.str (PySem.Str.ofString "name") 514, PySem.Value.str (PySem.Str.ofString "val") 515] } : Obj)) ::
  (nat_lit 143, ({ cls := PySem.Value.type "tuple", data := PySem.Data.seq #[] } : Obj)) ::
  (nat_lit 145, ({ cls := PySem.Value.type "code", data := PySem.Data.fields #[PySem.Value.str (PySem.Str.ofString "__setitem__") 510, PySem.Value.str (PySem.Str.ofString "Headers.__setitem__") 511, PySem.Value.str (PySem.Str.ofString "/claim/cut.py") 512, PySem.Value.int 115 0, PySem.Value.int 3 0, PySem.Value.int 0 0, PySem.Value.int 0 0, PySem.Value.int 3 0, PySem.Value.ref 140, PySem.Value.bool true, PySem.Value.int 276 0, PySem.Value.ref 141, PySem.Value.none, PySem.Value.ref 142, PySem.Value.ref 143, PySem.Value.ref 144, PySem.Value.int 516 0, PySem.Value.int 115 0, PySem.Value.str (PySem.Str.ofString "/claim/cut.py") 517] } : Obj)) ::
  (nat_lit 147, ({ cls := PySem.Value.type "tuple", data := PySem.Data.seq #[] } : Obj)) ::
  (nat_lit 150, ({ cls := PySem.Value.type "code", data := PySem.Data.fields #[PySem.Value.str (PySem.Str.ofString "__delitem__") 519, PySem.Value.str (PySem.Str.ofString "Headers.__delitem__") 520, PySem.Value.str (PySem.Str.ofString "/claim/cut.py") 521, PySem.Value.int 119 0, PySem.Value.int 2 0, PySem.Value.int 0 0, PySem.Value.int 0 0, PySem.Value.int 3 0, PySem.Value.ref 147, PySem.Value.bool true, PySem.Value.int 276 0, PySem.Value.ref 148, PySem.Value.none, PySem.Value.none, PySem.Value.none, PySem.Value.ref 149, PySem.Value.int 522 0, PySem.Value.int 119 0, PySem.Value.str (PySem.Str.ofString "/claim/cut.py") 523] } : Obj)) ::
  (nat_lit 152, ({ cls := PySem.Value.type "tuple", data := PySem.Data.seq #[] } : Obj)) ::
  (nat_lit 154, ({ cls := PySem.Value.type "tuple", data := PySem.Data.seq #[PySem.Value.str (PySem.Str.ofString "self") 528, PySem.Value.str (PySem.Str.ofString "name") 529] } : Obj)) ::
  (nat_lit 155, ({ cls := PySem.Value.type "tuple", data := PySem.Data.seq #[] } : Obj)) ::
  (nat_lit 157, ({ cls := PySem.Value.type "code", data := PySem.Data.fields #[PySem.Value.str (PySem.Str.ofString "__getitem__") 525, PySem.Value.str (PySem.Str.ofString "Headers.__getitem__") 526, PySem.Value.str (PySem.Str.ofString "/claim/cut.py") 527, PySem.Value.int 123 0, PySem.Value.int 2 0, PySem.Value.int 0 0, PySem.Value.int 0 0, PySem.Value.int 3 0, PySem.Value.ref 152, PySem.Value.bool true, PySem.Value.int 276 0, PySem.Value.ref 153, PySem.Value.none, PySem.Value.ref 154, PySem.Value.ref 155, PySem.Value.ref 156, PySem.Value.int 530 0, PySem.Value.int 123 0, PySem.Value.str (PySem.Str.ofString "/claim/cut.py") 531] } : Obj)) ::
  (nat_lit 159, ({ cls := PySem.Value.type "tuple", data := PySem.Data.seq #[] } : Obj)) ::
  (nat_lit 161, ({ cls := PySem.Value.type "tuple", data := PySem.Data.seq #[PySem.Value.str (PySem.Str.ofString "self") 536, PySem.Value.str (PySem.Str.ofString "name") 537] } : Obj)) ::
  (nat_lit 162, ({ cls := PySem.Value.type "tuple", data := PySem.Data.seq #[] } : Obj)) ::
  (nat_lit 164, ({ cls := PySem.Value.type "code", data := PySem.Data.fields #[PySem.Value.str (PySem.Str.ofString "__contains__") 533, PySem.Value.str (PySem.Str.ofString "Headers.__contains__") 534, PySem.Value.str (PySem.Str.ofString "/claim/cut.py") 535, PySem.Value.int 126 0, PySem.Value.int 2 0, PySem.Value.int 0 0, PySem.Value.int 0 0, PySem.Value.int 3 0, PySem.Value.ref 159, PySem.Value.bool true, PySem.Value.int 276 0, PySem.Value.ref 160, PySem.Value.none, PySem.Value.ref 161, PySem.Value.ref 162, PySem.Value.ref 163, PySem.Value.int 538 0, PySem.Value.int 126 0, PySem.Value.str (PySem.Str.ofString "/claim/cut.py") 539] } : Obj)) ::
  (nat_lit 166, ({ cls := PySem.Value.type "tuple", data := PySem.Data.seq #[] } : Obj)) ::
  (nat_lit 168, ({ cls := PySem.Value.type "tuple", data := PySem.Data.seq #[PySem.Value.str (PySem.Str.ofString "self") 544, PySem.Value.str (PySem.Str.ofString "name") 545] } : Obj)) ::
  (nat_lit 169, ({ cls := PySem.Value.type "tuple", data := PySem.Data.seq #[] } : Obj)) ::
  (nat_lit 171, ({ cls := PySem.Value.type "code", data := PySem.Data.fields #[PySem.Value.str (PySem.Str.ofString "get_all") 541, PySem.Value.str (PySem.Str.ofString "Headers.get_all") 542, PySem.Value.str (PySem.Str.ofString "/claim/cut.py") 543, PySem.Value.int 129 0, PySem.Value.int 2 0, PySem.Value.int 0 0, PySem.Value.int 0 0, PySem.Value.int 3 0, PySem.Value.ref 166, PySem.Value.bool true, PySem.Value.int 276 0, PySem.Value.ref 167, PySem.Value.none, PySem.Value.ref 168, PySem.Value.ref 169, PySem.Value.ref 170, PySem.Value.int 546 0, PySem.Value.int 129 0, PySem.Value.str (PySem.Str.ofString "/claim/cut.py") 547] } : Obj)) ::
  (nat_lit 173, ({ cls := PySem.Value.type "tuple", data := PySem.Data.seq #[PySem.Value.none] } : Obj)) ::
  (nat_lit 174, ({ cls := PySem.Value.type "tuple", data := PySem.Data.seq #[] } : Obj)) ::
  (nat_lit 176, ({ cls := PySem.Value.type "tuple", data := PySem.Data.seq #[PySem.Value.str (PySem.Str.ofString "self") 552, PySem.Value.str (PySem.Str.ofString "name") 553, PySem.Value.str (PySem.Str.ofString "default") 554, PySem.Value.str (PySem.Str.ofString "k") 555, PySem.Value.str (PySem.Str.ofString "v") 556] } : Obj)) ::
  (nat_lit 177, ({ cls := PySem.Value.type "tuple", data := PySem.Data.seq #[] } : Obj)) ::
  (nat_lit 179, ({ cls := PySem.Value.type "code", data := PySem.Data.fields #[PySem.Value.str (PySem.Str.ofString "get") 549, PySem.Value.str (PySem.Str.ofString "Headers.get") 550, PySem.Value.str (PySem.Str.ofString "/claim/cut.py") 551, PySem.Value.int 132 0, PySem.Value.int 3 0, PySem.Value.int 0 0, PySem.Value.int 0 0, PySem.Value.int 3 0, PySem.Value.ref 174, PySem.Value.bool true, PySem.Value.int 276 0, PySem.Value.ref 175, PySem.Value.none, PySem.Value.ref 176, PySem.Value.ref 177, PySem.Value.ref 178, PySem.Value.int 557 0, PySem.Value.int 132 0, PySem.Value.str (PySem.Str.ofString "/claim/cut.py") 558] } : Obj)) ::
  (nat_lit 180, ({ cls := PySem.Value.type "function", data := PySem.Data.func { name := PySem.Str.ofString "get", qualname := PySem.Str.ofString "Headers.get", params := p180, body := .stmts b180, scope := s180, globals := 3, closure := [], defaults := PySem.Value.ref 173, kwdefaults := PySem.Value.none, pyModule := PySem.Value.str (PySem.Str.ofString "cpy313.wsgiref.headers") 365, code := PySem.Value.ref 179 } } : Obj)) ::
  (nat_lit 181, ({ cls := PySem.Value.type "tuple", data := PySem.Data.seq #[] } : Obj)) ::
  (nat_lit 184, ({ cls := PySem.Value.type "code", data := PySem.Data.fields #[PySem.Value.str (PySem.Str.ofString "keys") 560, PySem.Value.str (PySem.Str.ofString "Headers.keys") 561, PySem.Value.str (PySem.Str.ofString "/claim/cut.py") 562, PySem.Value.int 139 0, PySem.Value.int 1 0, PySem.Value.int 0 0, PySem.Value.int 0 0, PySem.Value.int 3 0, PySem.Value.ref 181, PySem.Value.bool true, PySem.Value.int 276 0, PySem.Value.ref 182, PySem.Value.none, PySem.Value.none, PySem.Value.none, PySem.Value.ref 183, PySem.Value.int 563 0, PySem.Value.int 139 0, PySem.Value.str (PySem.Str.ofString "/claim/cut.py") 564] } : Obj)) ::
  (nat_lit 185, ({ cls := PySem.Value.type "function", data := PySem.Data.func { name := PySem.Str.ofString "keys", qualname := PySem.Str.ofString "Headers.keys", params := p185, body := .stmts b185, scope := s185, globals := 3, closure := [], defaults := PySem.Value.none, kwdefaults := PySem.Value.none, pyModule := PySem.Value.str (PySem.Str.ofString "cpy313.wsgiref.headers") 365, code := PySem.Value.ref 184 } } : Obj)) ::
  (nat_lit 186, ({ cls := PySem.Value.type "tuple", data := PySem.Data.seq #[] } : Obj)) ::
  (nat_lit 189, ({ cls := PySem.Value.type "code", data := PySem.Data.fields #[PySem.Value.str (PySem.Str.ofString "values") 566, PySem.Value.str (PySem.Str.ofString "Headers.values") 567, PySem.Value.str (PySem.Str.ofString "/claim/cut.py") 568, PySem.Value.int 142 0, PySem.Value.int 1 0, PySem.Value.int 0 0, PySem.Value.int 0 0, PySem.Value.int 3 0, PySem.Value.ref 186, PySem.Value.bool true, PySem.Value.int 276 0, PySem.Value.ref 187, PySem.Value.none, PySem.Value.none, PySem.Value.none, PySem.Value.ref 188, PySem.Value.int 569 0, PySem.Value.int 142 0, PySem.Value.str (PySem.Str.ofString "/claim/cut.py") 570] } : Obj)) ::
  (nat_lit 191, ({ cls := PySem.Value.type "tuple", data := PySem.Data.seq #[] } : Obj)) ::
  (nat_lit 193, ({ cls := PySem.Value.type "tuple", data := PySem.Data.seq #[PySem.Value.str (PySem.Str.ofString "self") 575] } : Obj)) ::
  (nat_lit 194, ({ cls := PySem.Value.type "tuple", data := PySem.Data.seq #[] } : Obj)) ::
  (nat_lit 196, ({ cls := PySem.Value.type "code", data := PySem.Data.fields #[PySem.Value.str (PySem.Str.ofString "items") 572, PySem.Value.str (PySem.Str.ofString "Headers.items") 573, PySem.Value.str (PySem.Str.ofString "/claim/cut.py") 574, PySem.Value.int 145 0, PySem.Value.int 1 0, PySem.Value.int 0 0, PySem.Value.int 0 0, PySem.Value.int 3 0, PySem.Value.ref 191, PySem.Value.bool true, PySem.Value.int 276 0, PySem.Value.ref 192, PySem.Value.none, PySem.Value.ref 193, PySem.Value.ref 194, PySem.Value.ref 195, PySem.Value.int 576 0, PySem.Value.int 145 0, PySem.Value.str (PySem.Str.ofString "/claim/cut.py") 577] } : Obj)) ::
  (nat_lit 197, ({ cls := PySem.Value.type "function", data := PySem.Data.func { name := PySem.Str.ofString "items", qualname := PySem.Str.ofString "Headers.items", params := p197, body := .stmts b197, scope := s197, globals := 3, closure := [], defaults := PySem.Value.none, kwdefaults := PySem.Value.none, pyModule := PySem.Value.str (PySem.Str.ofString "cpy313.wsgiref.headers") 365, code := PySem.Value.ref 196 } } : Obj)) ::
  (nat_lit 198, ({ cls := PySem.Value.type "tuple", data := PySem.Data.seq #[] } : Obj)) ::
  (nat_lit 200, ({ cls := PySem.Value.type "tuple", data := PySem.Data.seq #[PySem.Value.str (PySem.Str.ofString "self") 582] } : Obj)) ::
  (nat_lit 201, ({ cls := PySem.Value.type "tuple", data := PySem.Data.seq #[] } : Obj)) ::
  (nat_lit 203, ({ cls := PySem.Value.type "code", data := PySem.Data.fields #[PySem.Value.str (PySem.Str.ofString "__repr__") 579, PySem.Value.str (PySem.Str.ofString "Headers.__repr__") 580, PySem.Value.str (PySem.Str.ofString "/claim/cut.py") 581, PySem.Value.int 148 0, PySem.Value.int 1 0, PySem.Value.int 0 0, PySem.Value.int 0 0, PySem.Value.int 3 0, PySem.Value.ref 198, PySem.Value.bool true, PySem.Value.int 276 0, PySem.Value.ref 199, PySem.Value.none, PySem.Value.ref 200, PySem.Value.ref 201, PySem.Value.ref 202, PySem.Value.int 583 0, PySem.Value.int 148 0, PySem.Value.str (PySem.Str.ofString "/claim/cut.py") 584] } : Obj)) ::
  (nat_lit 205, ({ cls := PySem.Value.type "tuple", data := PySem.Data.seq #[] } : Obj)) ::
  (nat_lit 208, ({ cls := PySem.Value.type "code", data := PySem.Data.fields #[PySem.Value.str (PySem.Str.ofString "__str__") 586, PySem.Value.str (PySem.Str.ofString "Headers.__str__") 587, PySem.Value.str (PySem.Str.ofString "/claim/cut.py") 588, PySem.Value.int 151 0, PySem.Value.int 1 0, PySem.Value.int 0 0, PySem.Value.int 0 0, PySem.Value.int 3 0, PySem.Value.ref 205, PySem.Value.bool true, PySem.Value.int 276 0, PySem.Value.ref 206, PySem.Value.none, PySem.Value.none, PySem.Value.none, PySem.Value.ref 207, PySem.Value.int 589 0, PySem.Value.int 151 0, PySem.Value.str (PySem.Str.ofString "/claim/cut.py") 590] } : Obj)) ::
  (nat_lit 210, ({ cls := PySem.Value.type "tuple", data := PySem.Data.seq #[] } : Obj)) ::
  (nat_lit 212, ({ cls := PySem.Value.type "tuple", data := PySem.Data.seq #[PySem.Value.str (PySem.Str.ofString "self") 595] } : Obj)) ::
  (nat_lit 213, ({ cls := PySem.Value.type "tuple", data := PySem.Data.seq #[] } : Obj)) ::
  (nat_lit 215, ({ cls := PySem.Value.type "code", data := PySem.Data.fields #[PySem.Value.str (PySem.Str.ofString "__bytes__") 592, PySem.Value.str (PySem.Str.ofString "Headers.__bytes__") 593, PySem.Value.str (PySem.Str.ofString "/claim/cut.py") 594, PySem.Value.int 154 0, PySem.Value.int 1 0, PySem.Value.int 0 0, PySem.Value.int 0 0, PySem.Value.int 3 0, PySem.Value.ref 210, PySem.Value.bool true, PySem.Value.int 276 0, PySem.Value.ref 211, PySem.Value.none, PySem.Value.ref 212, PySem.Value.ref 213, PySem.Value.ref 214, PySem.Value.int 596 0, PySem.Value.int 154 0, PySem.Value.str (PySem.Str.ofString "/claim/cut.py") 597] } : Obj)) ::
  (nat_lit 217, ({ cls := PySem.Value.type "tuple", data := PySem.Data.seq #[] } : Obj)) ::
  (nat_lit 219, ({ cls := PySem.Value.type "tuple", data := PySem.Data.seq #[PySem.Value.str (PySem.Str.ofString "self") 602, PySem.Value.str (PySem.Str.ofString "name") 603, PySem.Value.str (PySem.Str.ofString "value") 604] } : Obj)) ::
  (nat_lit 220, ({ cls := PySem.Value.type "tuple", data := PySem.Data.seq #[] } : Obj)) ::
  (nat_lit 222, ({ cls := PySem.Value.type "code", data := PySem.Data.fields #[PySem.Value.str (PySem.Str.ofString "setdefault") 599, PySem.Value.str (PySem.Str.ofString "Headers.setdefault") 600, PySem.Value.str (PySem.Str.ofString "/claim/cut.py") 601, PySem.Value.int 157 0, PySem.Value.int 3 0, PySem.Value.int 0 0, PySem.Value.int 0 0, PySem.Value.int 3 0, PySem.Value.ref 217, PySem.Value.bool true, PySem.Value.int 276 0, PySem.Value.ref 218, PySem.Value.none, PySem.Value.ref 219, PySem.Value.ref 220, PySem.Value.ref 221, PySem.Value.int 605 0, PySem.Value.int 157 0, PySem.Value.str (PySem.Str.ofString "/claim/cut.py") 606] } : Obj)) ::
  (nat_lit 224, ({ cls := PySem.Value.type "tuple", data := PySem.Data.seq #[] } : Obj)) ::
  (nat_lit 226, ({ cls := PySem.Value.type "tuple", data := PySem.Data.seq #[PySem.Value.str (PySem.Str.ofString "self") 611, PySem.Value.str (PySem.Str.ofString "_name") 612, PySem.Value.str (PySem.Str.ofString "_value") 613, PySem.Value.str (PySem.Str.ofString "_params") 614, PySem.Value.str (PySem.Str.ofString "parts") 615, PySem.Value.str (PySem.Str.ofString "k") 616, PySem.Value.str (PySem.Str.ofString "v") 617] } : Obj)) ::
  (nat_lit 227, ({ cls := PySem.Value.type "tuple", data := PySem.Data.seq #[] } : Obj)) ::
  (nat_lit 229, ({ cls := PySem.Value.type "code", data := PySem.Data.fields #[PySem.Value.str (PySem.Str.ofString "add_header") 608, PySem.Value.str (PySem.Str.ofString "Headers.add_header") 609, PySem.Value.str (PySem.Str.ofString "/claim/cut.py") 610, PySem.Value.int 160 0, PySem.Value.int 3 0, PySem.Value.int 0 0, PySem.Value.int 0 0, PySem.Value.int 11 0, PySem.Value.ref 224, PySem.Value.bool true, PySem.Value.int 276 0, PySem.Value.ref 225, PySem.Value.none, PySem.Value.ref 226, PySem.Value.ref 227, PySem.Value.ref 228, PySem.Value.int 618 0, PySem.Value.int 160 0, PySem.Value.str (PySem.Str.ofString "/claim/cut.py") 619] } : Obj)) ::
  (nat_lit 230, ({ cls := PySem.Value.type "function", data := PySem.Data.func { name := PySem.Str.ofString "add_header", qualname := PySem.Str.ofString "Headers.add_header", params := p230, body := .stmts b230, scope := s230, globals := 3, closure := [], defaults := PySem.Value.none, kwdefaults := PySem.Value.none, pyModule := PySem.Value.str (PySem.Str.ofString "cpy313.wsgiref.headers") 365, code := PySem.Value.ref 229 } } : Obj)) ::
  (nat_lit 231, ({ cls := PySem.Value.type "tuple", data := PySem.Data.seq #[PySem.Value.str (PySem.Str.ofString "_headers") 621] } : Obj)) ::
  (nat_lit 232, ({ cls := PySem.Value.type "dict", data := PySem.Data.dict #[{ hash := PySem.PyData.keyHash P (PySem.Str.ofString "__module__"), key := PySem.Value.str (PySem.Str.ofString "__module__") 478, val := PySem.Value.str (PySem.Str.ofString "cpy313.wsgiref.headers") 365 }, { hash := PySem.PyData.keyHash P (PySem.Str.ofString "__firstlineno__"), key := PySem.Value.str (PySem.Str.ofString "__firstlineno__") 482, val := PySem.Value.int 92 481 }, { hash := PySem.PyData.keyHash P (PySem.Str.ofString "__init__"), key := PySem.Value.str (PySem.Str.ofString "__init__") 492, val := PySem.Value.ref 125 }, { hash := PySem.PyData.keyHash P (PySem.Str.ofString "_convert_string_type"), key := PySem.Value.str (PySem.Str.ofString "_convert_string_type") 502, val := PySem.Value.ref 132 }, { hash := PySem.PyData.keyHash P (PySem.Str.ofString "__len__"), key := PySem.Value.str (PySem.Str.ofString "__len__") 509, val := PySem.Value.ref 139 }, { hash := PySem.PyData.keyHash P (PySem.Str.ofString "__setitem__"), key := PySem.Value.str (PySem.Str.ofString "__setitem__") 518, val := PySem.Value.ref 146 }, { hash := PySem.PyData.keyHash P (PySem.Str.ofString "__delitem__"), key := PySem.Value.str (PySem.Str.ofString "__delitem__") 524, val := PySem.Value.ref 151 }, { hash := PySem.PyData.keyHash P (PySem.Str.ofString "__getitem__"), key := PySem.Value.str (PySem.Str.ofString "__getitem__") 532, val := PySem.Value.ref 158 }, { hash := PySem.PyData.keyHash P (PySem.Str.ofString "__contains__"), key := PySem.Value.str (PySem.Str.ofString "__contains__") 540, val := PySem.Value.ref 165 }, { hash := PySem.PyData.keyHash P (PySem.Str.ofString "get_all"), key := PySem.Value.str (PySem.Str.ofString "get_all") 548, val := PySem.Value.ref 172 }, { hash := PySem.PyData.keyHash P (PySem.Str.ofString "get"), key := PySem.Value.str (PySem.Str.ofString "get") 559, val := PySem.Value.ref 180 }, { hash := PySem.PyData.keyHash P (PySem.Str.ofString "keys"), key := PySem.Value.str (PySem.Str.ofString "keys") 565, val := PySem.Value.ref 185 }, { hash := PySem.PyData.keyHash P (PySem.Str.ofString "values"), key := PySem.Value.str (PySem.Str.ofString "values") 571, val := PySem.Value.ref 190 }, { hash := PySem.PyData.keyHash P (PySem.Str.ofString "items"), key := PySem.Value.str (PySem.Str.ofString "items") 578, val := PySem.Value.ref 197 }, { hash := PySem.PyData.keyHash P (PySem.Str.ofString "__repr__"), key := PySem.Value.str (PySem.Str.ofString "__repr__") 585, val := PySem.Value.ref 204 }, { hash := PySem.PyData.keyHash P (PySem.Str.ofString "__str__"), key := PySem.Value.str (PySem.Str.ofString "__str__") 591, val := PySem.Value.ref 209 }, { hash := PySem.PyData.keyHash P (PySem.Str.ofString "__bytes__"), key := PySem.Value.str (PySem.Str.ofString "__bytes__") 598, val := PySem.Value.ref 216 }, { hash := PySem.PyData.keyHash P (PySem.Str.ofString "setdefault"), key := PySem.Value.str (PySem.Str.ofString "setdefault") 607, val := PySem.Value.ref 223 }, { hash := PySem.PyData.keyHash P (PySem.Str.ofString "add_header"), key := PySem.Value.str (PySem.Str.ofString "add_header") 620, val := PySem.Value.ref 230 }, { hash := PySem.PyData.keyHash P (PySem.Str.ofString "__static_attributes__"), key := PySem.Value.str (PySem.Str.ofString "__static_attributes__") 622, val := PySem.Value.ref 231 }, { hash := PySem.PyData.keyHash P (PySem.Str.ofString "__dict__"), key := PySem.Value.str (PySem.Str.ofString "__dict__") 624, val := PySem.Value.ref 234 }, { hash := PySem.PyData.keyHash P (PySem.Str.ofString "__weakref__"), key := PySem.Value.str (PySem.Str.ofString "__weakref__") 626, val := PySem.Value.ref 235 }, { hash := PySem.PyData.keyHash P (PySem.Str.ofString "__doc__"), key := PySem.Value.str (PySem.Str.ofString "__doc__") 627, val := PySem.Value.none }] 4 } : Obj)) ::
  (nat_lit 233, ({ cls := PySem.Value.type "type", data := PySem.Data.cls { name := PySem.Str.ofString "Headers", bases := [PySem.Value.type "object"], mro := [PySem.Value.ref 233, PySem.Value.type "object"], ns := 232, qualname := PySem.Str.ofString "Headers" }, slots := #[none, none, some (PySem.Value.str (PySem.Str.ofString "Headers") 471), some (PySem.Value.str (PySem.Str.ofString "Headers") 479), some (PySem.Value.builtin "object.__new__"), some (PySem.Value.bool true)] } : Obj)) ::
  (nat_lit 234, ({ cls := PySem.Value.type "getset_descriptor", data := PySem.Data.fields #[PySem.Value.str (PySem.Str.ofString "__dict__") 623, PySem.Value.ref 233, PySem.Value.builtin "function.__dict__", PySem.Value.builtin "function.__dict__#set"] } : Obj)) ::
  (nat_lit 235, ({ cls := PySem.Value.type "getset_descriptor", data := PySem.Data.fields #[PySem.Value.str (PySem.Str.ofString "__weakref__") 625, PySem.Value.ref 233, PySem.Value.builtin "ExceptionGroup.__weakref__", PySem.Value.none] } : Obj)) ::
  (nat_lit 238, ({ cls := PySem.Value.type "tuple", data := PySem.Data.seq #[] } : Obj)) ::
  (nat_lit 240, ({ cls := PySem.Value.type "tuple", data := PySem.Data.seq #[PySem.Value.str (PySem.Str.ofString "text") 635, PySem.Value.str (PySem.Str.ofString "stream") 636, PySem.Value.str (PySem.Str.ofString "_law_next") 637] } : Obj)) ::
  (nat_lit 241, ({ cls := PySem.Value.type "tuple", data := PySem.Data.seq #[PySem.Value.str (PySem.Str.ofString "left") 638] } : Obj)) ::
  (nat_lit 243, ({ cls := PySem.Value.type "code", data := PySem.Data.fields #[PySem.Value.str (PySem.Str.ofString "_law_lexer") 632, PySem.Value.str (PySem.Str.ofString "_law_lexer") 633, PySem.Value.str (PySem.Str.ofString "/claim/cut.py") 634, PySem.Value.int 174 0, PySem.Value.int 1 0, PySem.Value.int 0 0, PySem.Value.int 0 0, PySem.Value.int 3 0, PySem.Value.ref 238, PySem.Value.bool true, PySem.Value.int 276 0, PySem.Value.ref 239, PySem.Value.none, PySem.Value.ref 240, PySem.Value.ref 241, PySem.Value.ref 242, PySem.Value.int 639 0, PySem.Value.int 174 0, PySem.Value.str (PySem.Str.ofString "/claim/cut.py") 640] } : Obj)) ::
  (nat_lit 244, ({ cls := PySem.Value.type "function", data := PySem.Data.func { name := PySem.Str.ofString "_law_lexer", qualname := PySem.Str.ofString "_law_lexer", params := p244, body := .stmts b244, scope := s244, globals := 3, closure := [], defaults := PySem.Value.none, kwdefaults := PySem.Value.none, pyModule := PySem.Value.str (PySem.Str.ofString "law_pg0279_01") 630, code := PySem.Value.ref 243 } } : Obj)) ::
  (nat_lit 245, ({ cls := PySem.Value.type "tuple", data := PySem.Data.seq #[] } : Obj)) ::
  (nat_lit 247, ({ cls := PySem.Value.type "tuple", data := PySem.Data.seq #[PySem.Value.str (PySem.Str.ofString "figures") 645, PySem.Value.str (PySem.Str.ofString "order") 646, PySem.Value.str (PySem.Str.ofString "word") 647, PySem.Value.str (PySem.Str.ofString "k") 648] } : Obj)) ::
  (nat_lit 248, ({ cls := PySem.Value.type "tuple", data := PySem.Data.seq #[] } : Obj)) ::
  (nat_lit 250, ({ cls := PySem.Value.type "code", data := PySem.Data.fields #[PySem.Value.str (PySem.Str.ofString "_law_grown") 642, PySem.Value.str (PySem.Str.ofString "_law_grown") 643, PySem.Value.str (PySem.Str.ofString "/claim/cut.py") 644, PySem.Value.int 182 0, PySem.Value.int 1 0, PySem.Value.int 0 0, PySem.Value.int 0 0, PySem.Value.int 3 0, PySem.Value.ref 245, PySem.Value.bool true, PySem.Value.int 276 0, PySem.Value.ref 246, PySem.Value.none, PySem.Value.ref 247, PySem.Value.ref 248, PySem.Value.ref 249, PySem.Value.int 649 0, PySem.Value.int 182 0, PySem.Value.str (PySem.Str.ofString "/claim/cut.py") 650] } : Obj)) ::
  (nat_lit 251, ({ cls := PySem.Value.type "function", data := PySem.Data.func { name := PySem.Str.ofString "_law_grown", qualname := PySem.Str.ofString "_law_grown", params := p251, body := .stmts b251, scope := s251, globals := 3, closure := [], defaults := PySem.Value.none, kwdefaults := PySem.Value.none, pyModule := PySem.Value.str (PySem.Str.ofString "law_pg0279_01") 630, code := PySem.Value.ref 250 } } : Obj)) ::
  (nat_lit 252, ({ cls := PySem.Value.type "tuple", data := PySem.Data.seq #[] } : Obj)) ::
  (nat_lit 255, ({ cls := PySem.Value.type "code", data := PySem.Data.fields #[PySem.Value.str (PySem.Str.ofString "_law_moved") 652, PySem.Value.str (PySem.Str.ofString "_law_moved") 653, PySem.Value.str (PySem.Str.ofString "/claim/cut.py") 654, PySem.Value.int 190 0, PySem.Value.int 2 0, PySem.Value.int 0 0, PySem.Value.int 0 0, PySem.Value.int 3 0, PySem.Value.ref 252, PySem.Value.bool true, PySem.Value.int 276 0, PySem.Value.ref 253, PySem.Value.none, PySem.Value.none, PySem.Value.none, PySem.Value.ref 254, PySem.Value.int 655 0, PySem.Value.int 190 0, PySem.Value.str (PySem.Str.ofString "/claim/cut.py") 656] } : Obj)) ::
  (nat_lit 256, ({ cls := PySem.Value.type "function", data := PySem.Data.func { name := PySem.Str.ofString "_law_moved", qualname := PySem.Str.ofString "_law_moved", params := p256, body := .stmts b256, scope := s256, globals := 3, closure := [], defaults := PySem.Value.none, kwdefaults := PySem.Value.none, pyModule := PySem.Value.str (PySem.Str.ofString "law_pg0279_01") 630, code := PySem.Value.ref 255 } } : Obj)) ::
  (nat_lit 257, ({ cls := PySem.Value.type "tuple", data := PySem.Data.seq #[] } : Obj)) ::
  (nat_lit 259, ({ cls := PySem.Value.type "tuple", data := PySem.Data.seq #[PySem.Value.str (PySem.Str.ofString "lexer") 661, PySem.Value.str (PySem.Str.ofString "word") 662, PySem.Value.str (PySem.Str.ofString "table") 663, PySem.Value.str (PySem.Str.ofString "k") 664, PySem.Value.str (PySem.Str.ofString "moved") 665] } : Obj)) ::
  (nat_lit 260, ({ cls := PySem.Value.type "tuple", data := PySem.Data.seq #[] } : Obj)) ::
  (nat_lit 262, ({ cls := PySem.Value.type "code", data := PySem.Data.fields #[PySem.Value.str (PySem.Str.ofString "_law_kept") 658, PySem.Value.str (PySem.Str.ofString "_law_kept") 659, PySem.Value.str (PySem.Str.ofString "/claim/cut.py") 660, PySem.Value.int 197 0, PySem.Value.int 2 0, PySem.Value.int 0 0, PySem.Value.int 0 0, PySem.Value.int 3 0, PySem.Value.ref 257, PySem.Value.bool true, PySem.Value.int 276 0, PySem.Value.ref 258, PySem.Value.none, PySem.Value.ref 259, PySem.Value.ref 260, PySem.Value.ref 261, PySem.Value.int 666 0, PySem.Value.int 197 0, PySem.Value.str (PySem.Str.ofString "/claim/cut.py") 667] } : Obj)) ::
  (nat_lit 263, ({ cls := PySem.Value.type "function", data := PySem.Data.func { name := PySem.Str.ofString "_law_kept", qualname := PySem.Str.ofString "_law_kept", params := p263, body := .stmts b263, scope := s263, globals := 3, closure := [], defaults := PySem.Value.none, kwdefaults := PySem.Value.none, pyModule := PySem.Value.str (PySem.Str.ofString "law_pg0279_01") 630, code := PySem.Value.ref 262 } } : Obj)) ::
  (nat_lit 264, ({ cls := PySem.Value.type "tuple", data := PySem.Data.seq #[] } : Obj)) ::
  (nat_lit 267, ({ cls := PySem.Value.type "code", data := PySem.Data.fields #[PySem.Value.str (PySem.Str.ofString "_law_words") 669, PySem.Value.str (PySem.Str.ofString "_law_words") 670, PySem.Value.str (PySem.Str.ofString "/claim/cut.py") 671, PySem.Value.int 210 0, PySem.Value.int 1 0, PySem.Value.int 0 0, PySem.Value.int 0 0, PySem.Value.int 3 0, PySem.Value.ref 264, PySem.Value.bool true, PySem.Value.int 276 0, PySem.Value.ref 265, PySem.Value.none, PySem.Value.none, PySem.Value.none, PySem.Value.ref 266, PySem.Value.int 672 0, PySem.Value.int 210 0, PySem.Value.str (PySem.Str.ofString "/claim/cut.py") 673] } : Obj)) ::
  (nat_lit 268, ({ cls := PySem.Value.type "function", data := PySem.Data.func { name := PySem.Str.ofString "_law_words", qualname := PySem.Str.ofString "_law_words", params := p268, body := .stmts b268, scope := s268, globals := 3, closure := [], defaults := PySem.Value.none, kwdefaults := PySem.Value.none, pyModule := PySem.Value.str (PySem.Str.ofString "law_pg0279_01") 630, code := PySem.Value.ref 267 } } : Obj)) ::
  (nat_lit 269, ({ cls := PySem.Value.type "tuple", data := PySem.Data.seq #[] } : Obj)) ::
  (nat_lit 272, ({ cls := PySem.Value.type "code", data := PySem.Data.fields #[PySem.Value.str (PySem.Str.ofString "_law_below") 675, PySem.Value.str (PySem.Str.ofString "_law_below") 676, PySem.Value.str (PySem.Str.ofString "/claim/cut.py") 677, PySem.Value.int 217 0, PySem.Value.int 2 0, PySem.Value.int 0 0, PySem.Value.int 0 0, PySem.Value.int 3 0, PySem.Value.ref 269, PySem.Value.bool true, PySem.Value.int 276 0, PySem.Value.ref 270, PySem.Value.none, PySem.Value.none, PySem.Value.none, PySem.Value.ref 271, PySem.Value.int 678 0, PySem.Value.int 217 0, PySem.Value.str (PySem.Str.ofString "/claim/cut.py") 679] } : Obj)) ::
  (nat_lit 273, ({ cls := PySem.Value.type "function", data := PySem.Data.func { name := PySem.Str.ofString "_law_below", qualname := PySem.Str.ofString "_law_below", params := p273, body := .stmts b273, scope := s273, globals := 3, closure := [], defaults := PySem.Value.none, kwdefaults := PySem.Value.none, pyModule := PySem.Value.str (PySem.Str.ofString "law_pg0279_01") 630, code := PySem.Value.ref 272 } } : Obj)) ::
  (nat_lit 274, ({ cls := PySem.Value.type "tuple", data := PySem.Data.seq #[] } : Obj)) ::
  (nat_lit 277, ({ cls := PySem.Value.type "code", data := PySem.Data.fields #[PySem.Value.str (PySem.Str.ofString "law") 681, PySem.Value.str (PySem.Str.ofString "law") 682, PySem.Value.str (PySem.Str.ofString "/claim/cut.py") 683, PySem.Value.int 222 0, PySem.Value.int 1 0, PySem.Value.int 0 0, PySem.Value.int 0 0, PySem.Value.int 3 0, PySem.Value.ref 274, PySem.Value.bool true, PySem.Value.int 276 0, PySem.Value.ref 275, PySem.Value.none, PySem.Value.none, PySem.Value.none, PySem.Value.ref 276, PySem.Value.int 684 0, PySem.Value.int 222 0, PySem.Value.str (PySem.Str.ofString "/claim/cut.py") 685] } : Obj)) ::
  (nat_lit 278, ({ cls := PySem.Value.type "function", data := PySem.Data.func { name := PySem.Str.ofString "law", qualname := PySem.Str.ofString "law", params := p278, body := .stmts b278, scope := s278, globals := 3, closure := [], defaults := PySem.Value.none, kwdefaults := PySem.Value.none, pyModule := PySem.Value.str (PySem.Str.ofString "law_pg0279_01") 630, code := PySem.Value.ref 277 } } : Obj)) :: []
noncomputable def asX : List Addr := [2, 3, 32, 34, 35, 37, 39, 41, 42, 44, 45, 53, 55, 56, 58, 59, 60, 62, 63, 65, 66, 67, 69, 70, 72, 73, 74, 76, 77, 79, 80, 81, 82, 83, 84, 85, 91, 92, 96, 97, 101, 102, 103, 104, 106, 107, 109, 118, 119, 121, 122, 124, 125, 126, 128, 129, 131, 132, 133, 135, 136, 138, 140, 142, 143, 145, 147, 150, 152, 154, 155, 157, 159, 161, 162, 164, 166, 168, 169, 171, 173, 174, 176, 177, 179, 180, 181, 184, 185, 186, 189, 191, 193, 194, 196, 197, 198, 200, 201, 203, 205, 208, 210, 212, 213, 215, 217, 219, 220, 222, 224, 226, 227, 229, 230, 231, 232, 233, 234, 235, 238, 240, 241, 243, 244, 245, 247, 248, 250, 251, 252, 255, 256, 257, 259, 260, 262, 263, 264, 267, 268, 269, 272, 273, 274, 277, 278]
set_option maxRecDepth 100000 in
noncomputable def vwX : Program := by
  refine (?f : ∀ (t0 : Stmt) (_ : atS 0 = t0) (t1 : Stmt) (_ : atS 1 = t1) (t3 : Stmt) (_ : atS 3 = t3) (t4 : Stmt) (_ : atS 4 = t4) (t6 : Stmt) (_ : atS 6 = t6) (t8 : Stmt) (_ : atS 8 = t8) (t9 : Stmt) (_ : atS 9 = t9) (t10 : Stmt) (_ : atS 10 = t10) (t12 : Stmt) (_ : atS 12 = t12) (t14 : Stmt) (_ : atS 14 = t14) (t15 : Stmt) (_ : atS 15 = t15) (t16 : Stmt) (_ : atS 16 = t16) (t17 : Stmt) (_ : atS 17 = t17) (t18 : Stmt) (_ : atS 18 = t18) (t19 : Stmt) (_ : atS 19 = t19) (t20 : Stmt) (_ : atS 20 = t20), Program) _ (by conv => lhs; whnf) _ (by conv => lhs; whnf) _ (by conv => lhs; whnf) _ (by conv => lhs; whnf) _ (by conv => lhs; whnf) _ (by conv => lhs; whnf) _ (by conv => lhs; whnf) _ (by conv => lhs; whnf) _ (by conv => lhs; whnf) _ (by conv => lhs; whnf) _ (by conv => lhs; whnf) _ (by conv => lhs; whnf) _ (by conv => lhs; whnf) _ (by conv => lhs; whnf) _ (by conv => lhs; whnf) _ (by conv => lhs; whnf)
  exact fun t0 _ t1 _ t3 _ t4 _ t6 _ t8 _ t9 _ t10 _ t12 _ t14 _ t15 _ t16 _ t17 _ t18 _ t19 _ t20 _ => { PySem.Challenge.pw_pg0279_01 with main := { PySem.Challenge.pw_pg0279_01.main with body := [t0, t1, t3, t4, t6, t8, t9, t10, t12, t14, t15, t16, t17, t18, t19, t20] } }
theorem asEX : ∀ P, asX = (KX P).map (·.1) := fun _ => by kernel_rfl
section PHD_01
theorem still_HD_01 : True := by
  w_top off
  trivial
abbrev L4 : List Str := [Str.ofString "tspecials", Str.ofString "_name_disallowed_re", Str.ofString "_value_disallowed_re", Str.ofString "_formatparam"]
theorem saidX : PySem.Challenge.rw_pg0279_01.wellSaid = true := by decide +kernel
set_option maxRecDepth 1000000 in
set_option maxHeartbeats 0 in
theorem leftX : LeftO PySem.Challenge.rw_pg0279_01.row.prog vwX L4 (fun s => xlAt vwX [] s && recOk (RowW.records PySem.Challenge.rw_pg0279_01.row.toRowW) s) (Hook.obs (kmHook KX asX asEX [239])) (Hook.val (kmHook KX asX asEX [239])) 3362 := by intro w; kernel_rfl
end PHD_01
section PMB_01
theorem still_MB_01 : True := by
  w_top off
  trivial
/-! ## small helpers -/
def Stop (P : Prop) : Prop := P
theorem Stop.mk {P : Prop} (h : Stop P) : P := h
theorem Stop.out {P : Prop} (h : P) : Stop P := h
def Hide (P : Prop) : Prop := P
theorem Hide.mk {P : Prop} (h : P) : Hide P := h
theorem Hide.out {P : Prop} (h : Hide P) : P := h
def Go (_ : Nat) : Prop := True
theorem Go.mk (n : Nat) : Go n := True.intro

def al : List (Str × Value) → (Str → Option Value) → Str → Option Value
  | [], m => m
  | p :: r, m => fun y => if y = p.1 then some p.2 else al r m y
theorem al_eq : ∀ (ps : List (Str × Value)) (m : Str → Option Value), (∀ p ∈ ps, m p.1 = some p.2) → al ps m = m
  | [], _, _ => rfl
  | p :: r, m, h => by
    funext y
    show (if y = p.1 then some p.2 else al r m y) = m y
    rw [al_eq r m fun q hq => h q (.tail _ hq)]
    split
    · rename_i e; rw [e, h p (.head _)]
    · rfl
theorem al_nil {m : Str → Option Value} : ∀ p ∈ ([] : List (Str × Value)), m p.1 = some p.2 := fun _ h => nomatch h
theorem al_cons {m : Str → Option Value} {k : Str} {v : Value} {r : List (Str × Value)} (h : m k = some v) (hr : ∀ p ∈ r, m p.1 = some p.2) : ∀ p ∈ (k, v) :: r, m p.1 = some p.2 := fun p hp => by
  rcases List.mem_cons.mp hp with rfl | hp
  · exact h
  · exact hr p hp
theorem Fr.al {h₀ h : Heap} {L : Addr} {m : Str → Option Value} (ps : List (Str × Value)) (F : Fr h₀ L h m) (hp : ∀ p ∈ ps, m p.1 = some p.2) : Fr h₀ L h (Mine.al ps m) := by rw [al_eq ps m hp]; exact F
theorem Fr.turn {h₀ h : Heap} {L : Addr} {m : Str → Option Value} {x : Str} {v : Value} (ps : List (Str × Value)) (F : Fr h₀ L h (fun y => if y = x then some v else m y)) (hp : ∀ p ∈ ps, m p.1 = some p.2) : Fr h₀ L h (fun y => if y = x then some v else Mine.al ps m y) := by rw [al_eq ps m hp]; exact F

/-! ## builtins without a line -/
def find4 (x y : Str) (i j : Int) : Int := match Builtin.Str.occurrences x y (fromIndex x.length i) (min (max 0 (if j < 0 then j + x.length else j)).toNat x.length) 1 with | k :: _ => (k : Int) | [] => -1
theorem gives_find4 (x y : Str) (i j : Int) (t u v z : Tok) : Gives (Builtin.«str.find» ⟨[.str x t, .str y u, .int i v, .int j z], []⟩) (.int (find4 x y i j)) := by
  show Gives (match Builtin.Str.occurrences x y (fromIndex x.length i) (min (max 0 (if j < 0 then j + x.length else j)).toNat x.length) 1 with | k :: _ => retInt k | [] => (do rule "str.find.not-found"; retInt (-1))) _
  unfold find4
  cases Builtin.Str.occurrences x y (fromIndex x.length i) (min (max 0 (if j < 0 then j + x.length else j)).toNat x.length) 1 with
  | nil => exact .rule (.of_eq rfl)
  | cons k _ => exact .of_eq rfl
theorem sc_find4 {prog : Program} {w : World} {A : Around} {E : Value → Shared → Prop} {s : Shared} {x y : Str} {t u v z : Tok} {i j : Int} {Q : Value → Shared → Prop} (hq : Q (.int (find4 x y i j) s.toks) { s with toks := s.toks + 1 }) : wpAny (model prog w) A (call (.builtin "str.find") [.str x t, .str y u, .int i v, .int j z]) Q E s :=
  call_gives F.slot_str_find (typeIs_str _ _ _) F.entry_str_find (F.args_str_find_4 _ _ _ _) (gives_find4 x y i j t u v z) hq
theorem pop0_K {prog : Program} {w : World} {A : Around} {E : Value → Shared → Prop} {s : Shared} {h₀ : Heap} {L D : Addr} {m : Str → Option Value} {news news' : List (Addr × Obj)} {v : Value} {vs : List Value} {n : Nat} {u : Tok} {Q : Value → Shared → Prop}
    (F : Fr h₀ L s.heap m) (N : News h₀ L s.heap news) (U : Upd D (listOf (v :: vs).toArray n) (listOf vs.toArray (n + 1)) news news') (hz : (v :: vs).length ≤ 1001)
    (h : ∀ h', Fr h₀ L h' m → News h₀ L h' news' → Q v { s with heap := h' }) : wpAny (model prog w) A (call (.builtin "list.pop") [.ref D, .int 0 u]) Q E s :=
  kl_popAt (i := 0) (k := 0) (p := []) (q := vs) (y := v) F N rfl (by simp [seqIndex?]) rfl U (by show (v :: vs).length ≤ sizeLine; exact Nat.le_trans hz (by decide)) h

theorem strs_of_carried : ∀ {ys : List Value} {ss : List Str}, CarriedAll ys (ss.map PyData.str) → ∃ l : List (Str × Tok), ys = strValues l ∧ l.map (·.1) = ss
  | _, [], .nil => ⟨[], rfl, rfl⟩
  | _, x :: r, .cons (v := v) h hr => by
    obtain ⟨l, rfl, hl⟩ := strs_of_carried hr
    cases h with
    | str x t => exact ⟨(x, t) :: l, rfl, by rw [List.map_cons, hl]⟩
theorem list_str_K {prog : Program} {w : World} {A : Around} {E : Value → Shared → Prop} {s : Shared} {h₀ : Heap} {L : Addr} {m : Str → Option Value} {news : List (Addr × Obj)} {x : Str} {t : Tok} {Q : Value → Shared → Prop}
    (hh : A.handled = none) (F : Fr h₀ L s.heap m) (N : News h₀ L s.heap news)
    (hQ : ∀ D h' tk (l : List (Str × Tok)) n, Fr h₀ L h' m → News h₀ L h' ((D, listOf (strValues l).toArray n) :: news) → (∀ p ∈ news, p.1 < D) → l.map (·.1) = signs x → Q (.ref D) { s with heap := h', toks := tk }) (hsz : x.length ≤ sizeLine := by size_fits) :
    wpAny (model prog w) A (call (.type "list") [.str x t]) Q E s := by
  refine list_strD hh F N (fun h' tk ys F' N' hk hn hI hP hC => ?_) hsz
  obtain ⟨l, rfl, hl⟩ := strs_of_carried hC
  obtain ⟨n, ho⟩ := hP.1
  refine hQ _ h' tk l n F' (fun p hp => ?_) (fun p hp => Heap.lt_size (N p hp).1) hl
  rcases List.mem_cons.mp hp with rfl | hp
  · refine ⟨ho, ?_, hn⟩
    have := F.ns.lt
    exact Nat.ne_of_gt this
  · exact N' p hp

theorem allLt_mono {d e : Nat} (hde : d ≤ e) : ∀ {l : List (Addr × Obj)}, AllLt d l → AllLt e l
  | [], _ => trivial
  | _ :: _, h => ⟨Nat.lt_of_lt_of_le h.1 hde, allLt_mono hde h.2⟩
theorem ne_of_allLt {d b : Nat} : ∀ {l : List (Addr × Obj)}, AllLt d l → d ≤ b → ∀ p ∈ l, p.1 ≠ b := fun h hb p hp => Nat.ne_of_lt (Nat.lt_of_lt_of_le (ktn_ltOf h p hp) hb)

theorem own_ne {b : Addr} {l : List (Addr × Obj)} (h : OwnOff l [b]) : ∀ p ∈ l, p.1 ≠ b := fun p hp => h p hp b (List.mem_singleton.mpr rfl)
theorem News.sub {h₀ h : Heap} {L : Addr} {old new : List (Addr × Obj)} (N : News h₀ L h old) (hs : ∀ p ∈ new, p ∈ old) : News h₀ L h new := fun p hp => N p (hs p hp)

theorem fm_cons {α : Type} {p : α → Prop} {a : α} {l : List α} (h : p a) (t : ∀ x ∈ l, p x) : ∀ x ∈ a :: l, p x := List.forall_mem_cons.mpr ⟨h, t⟩
/-! ## dicts of objects, folded -/
abbrev lexO (P : Params) (t : Nat → Tok) (ln : Int) (st : Value) (pb : Addr) : Obj := dictOf [⟨PyData.keyHash P "lineno", .str "lineno" (t 1), .int ln (t 2)⟩, ⟨PyData.keyHash P "instream", .str "instream" (t 3), st⟩, ⟨PyData.keyHash P "whitespace", .str "whitespace" (t 4), .str "\n\t\r " (t 5)⟩, ⟨PyData.keyHash P "pushback", .str "pushback" (t 6), .ref pb⟩] 4
abbrev strO (P : Params) (t : Nat → Tok) (pb rd : Addr) : Obj := dictOf [⟨PyData.keyHash P "lineno", .str "lineno" (t 1), .int 1 (t 2)⟩, ⟨PyData.keyHash P "instream", .str "instream" (t 3), .none⟩, ⟨PyData.keyHash P "whitespace", .str "whitespace" (t 4), .str "\n\t\r " (t 5)⟩, ⟨PyData.keyHash P "pushback", .str "pushback" (t 6), .ref pb⟩, ⟨PyData.keyHash P "read", .str "read" (t 7), .ref rd⟩] 5
abbrev hdrO (P : Params) (tk : Tok) (hl : Addr) : Obj := dictOf [⟨PyData.keyHash P "_headers", .str "_headers" (tk), .ref hl⟩] 1
/-! ## contracts -/
def Con (w : World) (f : Value) (vs : List Value) (nd nu : Nat) (news : List (Addr × Obj)) (Post : List (Addr × Obj) → Value → Prop) : Prop :=
  ∀ (p : Program) (loose : List Str) (mean : ExcName → Option Value) (mg mb : Str → Option Value)
    (dp un : Nat) (gd : Option (List Code)) (cn : Str) (cs : Scope) (a : Addr) (ccd : Value) (cl : List (Str × Addr)) (outer : List Env) (A₀ : Around) (base h₀ : Heap) (L : Addr) (m : Str → Option Value) (s : Shared) (Q E : Value → Shared → Prop),
    Below A₀ base outer h₀ → Fr h₀ L s.heap m → (KX w.params).In h₀ → News h₀ L s.heap news → Top p loose mean mg mb h₀ → cs.kind = .function →
    dp + nd < recursionLimit → un + 8 * nu < cLine →
    (∀ r h' tk' news', Fr h₀ L h' m → News h₀ L h' news' → Post news' r → Q r { s with heap := h', toks := tk' }) →
    codeAny (model PySem.Challenge.rw_pg0279_01.row.prog w) (ktrTop dp un gd cn cs L a ccd cl outer) (.call f ⟨vs, []⟩) (fun r s' => match r with | .ok (.ret v) => Q v s' | .ok _ => False | .error e => E e s') s

theorem Con.use {w : World} {f : Value} {vs : List Value} {nd nu : Nat} {news : List (Addr × Obj)} {Post : List (Addr × Obj) → Value → Prop} (C : Con w f vs nd nu news Post)
    {p : Program} {loose : List Str} {mean : ExcName → Option Value} {mg mb : Str → Option Value}
    {dp un : Nat} {gd : Option (List Code)} {cn : Str} {cs : Scope} {a : Addr} {ccd : Value} {cl : List (Str × Addr)} {outer : List Env} {A₀ : Around} {base h₀ : Heap} {L : Addr} {m : Str → Option Value} {s : Shared} {Q E : Value → Shared → Prop}
    (B : Below A₀ base outer h₀) (F : Fr h₀ L s.heap m) (X : (KX w.params).In h₀) (N : News h₀ L s.heap news) (T : Top p loose mean mg mb h₀) (hk : cs.kind = .function)
    (h1 : dp + nd < recursionLimit) (h2 : un + 8 * nu < cLine)
    (ret : ∀ r h' tk' news', Fr h₀ L h' m → News h₀ L h' news' → Post news' r → Q r { s with heap := h', toks := tk' }) :
    wpAny (model PySem.Challenge.rw_pg0279_01.row.prog w) (ktrTop dp un gd cn cs L a ccd cl outer) (call f vs) Q E s :=
  wpAny_call (C p loose mean mg mb dp un gd cn cs a ccd cl outer A₀ base h₀ L m s Q E B F X N T hk h1 h2 ret)
theorem Con.useE {w : World} {f : Value} {vs : List Value} {nd nu : Nat} {news N1 : List (Addr × Obj)} {R1 : Value} (C : Con w f vs nd nu news (fun news' r => news' = N1 ∧ r = R1))
    {p : Program} {loose : List Str} {mean : ExcName → Option Value} {mg mb : Str → Option Value}
    {dp un : Nat} {gd : Option (List Code)} {cn : Str} {cs : Scope} {a : Addr} {ccd : Value} {cl : List (Str × Addr)} {outer : List Env} {A₀ : Around} {base h₀ : Heap} {L : Addr} {m : Str → Option Value} {s : Shared} {Q E : Value → Shared → Prop}
    (B : Below A₀ base outer h₀) (F : Fr h₀ L s.heap m) (X : (KX w.params).In h₀) (N : News h₀ L s.heap news) (T : Top p loose mean mg mb h₀) (hk : cs.kind = .function)
    (h1 : dp + nd < recursionLimit) (h2 : un + 8 * nu < cLine)
    (ret : ∀ h' tk', Fr h₀ L h' m → News h₀ L h' N1 → Q R1 { s with heap := h', toks := tk' }) :
    wpAny (model PySem.Challenge.rw_pg0279_01.row.prog w) (ktrTop dp un gd cn cs L a ccd cl outer) (call f vs) Q E s :=
  C.use B F X N T hk h1 h2 fun _ h' tk' _ F' N' e => e.2 ▸ ret h' tk' F' (e.1 ▸ N')
theorem Con.useX {w : World} {f : Value} {vs : List Value} {nd nu : Nat} {news N1 : List (Addr × Obj)} {α : Type} {R1 : α → Value} (C : Con w f vs nd nu news (fun news' r => news' = N1 ∧ ∃ t, r = R1 t))
    {p : Program} {loose : List Str} {mean : ExcName → Option Value} {mg mb : Str → Option Value}
    {dp un : Nat} {gd : Option (List Code)} {cn : Str} {cs : Scope} {a : Addr} {ccd : Value} {cl : List (Str × Addr)} {outer : List Env} {A₀ : Around} {base h₀ : Heap} {L : Addr} {m : Str → Option Value} {s : Shared} {Q E : Value → Shared → Prop}
    (B : Below A₀ base outer h₀) (F : Fr h₀ L s.heap m) (X : (KX w.params).In h₀) (N : News h₀ L s.heap news) (T : Top p loose mean mg mb h₀) (hk : cs.kind = .function)
    (h1 : dp + nd < recursionLimit) (h2 : un + 8 * nu < cLine)
    (ret : ∀ t h' tk', Fr h₀ L h' m → News h₀ L h' N1 → Q (R1 t) { s with heap := h', toks := tk' }) :
    wpAny (model PySem.Challenge.rw_pg0279_01.row.prog w) (ktrTop dp un gd cn cs L a ccd cl outer) (call f vs) Q E s :=
  C.use B F X N T hk h1 h2 fun _ h' tk' _ F' N' e => by
    obtain ⟨e1, t, e2⟩ := e
    rw [e2]
    exact ret t h' tk' F' (e1 ▸ N')
theorem Con.code {w : World} {f : Value} {vs : List Value} {nd nu : Nat} {news : List (Addr × Obj)} {Post : List (Addr × Obj) → Value → Prop} (C : Con w f vs nd nu news Post)
    {p : Program} {loose : List Str} {mean : ExcName → Option Value} {mg mb : Str → Option Value}
    {dp un : Nat} {gd : Option (List Code)} {cn : Str} {cs : Scope} {a : Addr} {ccd : Value} {cl : List (Str × Addr)} {outer : List Env} {A₀ : Around} {base h₀ : Heap} {L : Addr} {m : Str → Option Value} {s : Shared} {R : Result → Shared → Prop}
    (B : Below A₀ base outer h₀) (F : Fr h₀ L s.heap m) (X : (KX w.params).In h₀) (N : News h₀ L s.heap news) (T : Top p loose mean mg mb h₀) (hk : cs.kind = .function)
    (h1 : dp + nd < recursionLimit) (h2 : un + 8 * nu < cLine)
    (ret : ∀ r h' tk' news', Fr h₀ L h' m → News h₀ L h' news' → Post news' r → R (.ok (.ret r)) { s with heap := h', toks := tk' }) :
    codeAny (model PySem.Challenge.rw_pg0279_01.row.prog w) (ktrTop dp un gd cn cs L a ccd cl outer) (.call f ⟨vs, []⟩) R s :=
  codeAny_mono (C p loose mean mg mb dp un gd cn cs a ccd cl outer A₀ base h₀ L m s (fun v s' => R (.ok (.ret v)) s') (fun _ _ => False) B F X N T hk h1 h2 ret) fun r s' h => by
    match r, h with
    | .ok (.ret v), h => exact h
end PMB_01
section PMI_01
theorem still_MI_01 : True := by
  w_top off
  trivial
open PySem.Spec
set_option maxRecDepth 100000

/-! ## the callable iterator: iter(f, sentinel) -/
theorem slot_ci_next : Slot "callable_iterator" "__next__" "callable_iterator.__next__" :=
  .of (owner := "callable_iterator") (n := "__next__") (by rw [typeLookup_type, builtinLookup_eq_fast]; kernel_rfl) (by decide +kernel) (by decide +kernel) (by decide +kernel)
    (by first | exact .inl (by decide +kernel) | exact .inr (by decide +kernel)) (by rw [isSubtype_type]; kernel_rfl)
theorem slot_ci_iter : Slot "callable_iterator" "__iter__" "callable_iterator.__iter__" :=
  .of (owner := "callable_iterator") (n := "__iter__") (by rw [typeLookup_type, builtinLookup_eq_fast]; kernel_rfl) (by decide +kernel) (by decide +kernel) (by decide +kernel)
    (by first | exact .inl (by decide +kernel) | exact .inr (by decide +kernel)) (by rw [isSubtype_type]; kernel_rfl)
theorem entry_ci_next : entryFor table "callable_iterator.__next__" = some Builtin.«callable_iterator.__next__» := entryFor_of_tree (by kernel_rfl)
theorem entry_ci_iter : entryFor table "callable_iterator.__iter__" = some Builtin.«dict_keyiterator.__iter__» :=
  entryFor_alias (id' := "dict_keyiterator.__iter__") (by kernel_rfl) rfl (by decide +kernel) (by kernel_rfl)
theorem args_ci_next (a : Value) : argsOk "callable_iterator.__next__" ⟨[a], []⟩ := by unfold argsOk; kernel_rfl
theorem args_ci_iter (a : Value) : argsOk "callable_iterator.__iter__" ⟨[a], []⟩ := by unfold argsOk; kernel_rfl
theorem slot_meth_call : Slot "method" "__call__" "method.__call__" :=
  .of (owner := "method") (n := "__call__") (by rw [typeLookup_type, builtinLookup_eq_fast]; kernel_rfl) (by decide +kernel) (by decide +kernel) (by decide +kernel)
    (by first | exact .inl (by decide +kernel) | exact .inr (by decide +kernel)) (by rw [isSubtype_type]; kernel_rfl)
theorem entry_iter : entryFor table "iter" = some Builtin.«iter» := entryFor_of_tree (by kernel_rfl)
theorem kind_iter : builtinKind "iter" = none := by decide +kernel
theorem plain_iter : plainId "iter" = true := by decide +kernel
theorem args_iter2 (a b : Value) : argsOk "iter" ⟨[a, b], []⟩ := by unfold argsOk; kernel_rfl

abbrev ciObj (q : Addr) (e : Str) (te : Tok) : Obj := { cls := .type "callable_iterator", data := .fields #[.ref q, .str e te, .bool false] }
section
variable {prog : Program} {w : World} {A : Around} {E : Value → Shared → Prop} {s : Shared}

theorem ci_iter {it q : Addr} {e : Str} {te : Tok} {Q : Value → Shared → Prop} (hit : s.heap.get? it = some (ciObj q e te)) (h : Q (.ref it) s) : wpAny (model prog w) A (pyIter (.ref it)) Q E s := by
  have hT : s.TypeIs (.ref it) "callable_iterator" := ⟨_, hit, rfl⟩
  refine wpAny_pyIter_slot hT slot_ci_iter (wpAny_call_entry slot_ci_iter hT entry_ci_iter ?_ (args_ci_iter _))
  show wpAny _ _ (ret (.ref it)) _ _ s
  exact wpAny_pure ⟨_, rfl, "callable_iterator", _, hT, slot_ci_next.lookup, h⟩

theorem iter2 {q : Addr} {f self : Value} {e : Str} {te : Tok} {Q : Value → Shared → Prop} (hq : s.heap.get? q = some (methodObj f self))
    (h : Q (.ref s.heap.objs.size) { s with heap := s.heap.push (ciObj q e te) }) : wpAny (model prog w) A (call (.builtin "iter") [.ref q, .str e te]) Q E s := by
  refine Calls.call_function_entry kind_iter plain_iter entry_iter (args_iter2 _ _) ?_
  show wpAny _ _ (specialOf (.ref q) "__call__" >>= _) _ _ s
  refine wpAny_bind (wpAny_specialOf ⟨_, hq, rfl⟩ slot_meth_call.lookup ?_)
  show wpAny _ _ (rule "iter.sentinel" >>= _) _ _ s
  refine wpAny_bind (wpAny_rule ?_)
  exact wpAny_bind (wpAny_newObj_type (wpAny_pure ⟨_, rfl, h⟩))

theorem callBorrowed_K {f : Value} {Q : Value → Shared → Prop} (hc : codeAny (model prog w) A (.call f ⟨[], []⟩) (fun r s' => match r with | .ok (.ret v) => Q v s' | .ok _ => False | .error e => E e s') s) : wpAny (model prog w) A (callBorrowed f []) Q E s :=
  fun Γ p hΓ => by
    unfold callBorrowed
    rw [Sem.wp_call]
    have hn : (none : Option Value) ≠ some byPass := by intro x; cases x
    refine wpCode_mono (fun r s' hr => ?_) (hc _ p rfl (hΓ.enter _ none p hn))
    match r, hr with
    | .ok (.ret v), hr => exact hr
    | .error e, hr => exact hr

theorem borrows_K {q f : Addr} {self : Value} {oc : Value} {od : Option Addr} {fd : FuncData} {sl : Array (Option Value)} {Q : Bool → Shared → Prop} (hq : s.heap.get? q = some (methodObj (.ref f) self)) (hf : s.heap.get? f = some ⟨oc, od, .func fd, sl⟩) (h : Q true s) :
    wpAny (model prog w) A (borrowsExactly (.ref q)) Q E s := by
  unfold borrowsExactly
  refine wpAny_bind (wpAny_load hq ?_)
  show wpAny _ _ (load f >>= _) _ _ s
  exact wpAny_bind (wpAny_load hf (wpAny_pure h))

theorem ci_next {it q f x : Addr} {e : Str} {te : Tok} {Q : Option Value → Shared → Prop} (hh : A.handled = none)
    (hit : s.heap.get? it = some (ciObj q e te)) (hq : s.heap.get? q = some (methodObj (.ref f) (.ref x))) (hf : FnAt f s.heap)
    (h : codeAny (model prog w) A.in1 (.call (.ref f) ⟨[.ref x], []⟩) (fun r s' => match r with
      | .ok (.ret v) => ∃ c tc, v = .str c tc ∧ s'.heap.get? it = some (ciObj q e te) ∧ s'.heap.get? q = some (methodObj (.ref f) (.ref x)) ∧ FnAt f s'.heap ∧
          (if e = c then (∀ h', Heap.ExtBut it s'.heap h' → Q none { s' with heap := h' }) else Q (some v) s')
      | _ => False) s) : wpAny (model prog w) A (pyNext (.ref it)) Q E s := by
  have hT : s.TypeIs (.ref it) "callable_iterator" := ⟨_, hit, rfl⟩
  obtain ⟨oc, od, fd, sl, hfo⟩ := hf
  unfold pyNext
  refine wpAny_bind (wpAny_attempt (wpAny_callSpecial?_slot (name := Str.ofString "__next__") hT slot_ci_next
    (wpAny_call_entry slot_ci_next hT entry_ci_next ?_ (args_ci_next _))))
  show wpAny _ _ (field (.ref it) 2 >>= _) _ _ s
  refine wpAny_bind (wpAny_field hit rfl (x := .bool false) rfl ?_)
  show wpAny _ _ (field (.ref it) 0 >>= _) _ _ s
  refine wpAny_bind (wpAny_field hit rfl (x := .ref q) rfl ?_)
  refine wpAny_bind (wpAny_attempt ?_)
  unfold callOutOfASlot
  refine wpAny_bind (borrows_K hq hfo ?_)
  show wpAny _ _ (callBorrowed (.ref q) []) _ _ s
  refine callBorrowed_K (method_call hq (codeAny_mono h fun r s' hr => ?_))
  match r, hr with
  | .ok (.ret v), ⟨c, tc, hv, hit', hq', hf', hQ⟩ =>
    subst hv
    obtain ⟨oc', od', fd', sl', hfo'⟩ := hf'
    dsimp only
    show wpAny _ _ (field (.ref it) 2 >>= _) _ _ s'
    refine wpAny_bind (wpAny_field hit' rfl (x := .bool false) rfl ?_)
    show wpAny _ _ (field (.ref it) 1 >>= _) _ _ s'
    refine wpAny_bind (wpAny_field hit' rfl (x := .str e te) rfl ?_)
    refine wpAny_bind (wpAny_holding (eqBool_str ?_))
    by_cases hec : e = c
    · rw [if_pos hec] at hQ
      have hb : (e == c) = true := by simpa using hec
      rw [hb]
      show wpAny _ _ (rule "callable_iterator.__next__.sentinel" >>= _) _ _ s'
      refine wpAny_bind (wpAny_rule ?_)
      refine wpAny_bind ?_
      show wpAny _ _ (field (.ref it) 0 >>= fun o => slotLetsGo "callable_iterator.__next__" o _ >>= fun _ => setField (.ref it) 0 .none >>= fun _ => setField (.ref it) 1 .none >>= fun _ => setField (.ref it) 2 (.bool true)) _ _ s'
      refine wpAny_bind (wpAny_field hit' rfl (x := .ref q) rfl ?_)
      refine wpAny_bind ?_
      show wpAny _ _ (borrowsExactly (.ref q) >>= _) _ _ s'
      refine wpAny_bind (borrows_K hq' hfo' (wpAny_pure ?_))
      refine wpAny_bind (wpAny_setField_rec hit' (by simp) fun h₁ e1 s1 => ?_)
      refine wpAny_bind (wpAny_setField_rec (cls := .type "callable_iterator") (vs := #[.none, .str e te, .bool false]) e1 (by simp) fun h₂ e2 s2 => ?_)
      refine wpAny_setField_rec (cls := .type "callable_iterator") (vs := #[.none, .none, .bool false]) e2 (by simp) fun h₃ e3 s3 => ?_
      show wpAny _ _ (newExc (.type "StopIteration") [] >>= _) _ _ _
      refine wpAny_bind ?_
      simp only [newExc, newTuple]
      refine wpAny_bind (wpAny_newObj_type ?_ (by size_fits))
      refine wpAny_bind (m := firstArgMember _ _) (wpAny_of_eq (a := Value.none) (by first | rfl | (simp only [firstArgMember]; rfl)) ?_)
      refine wpAny_newObj_type ?_ (by size_fits)
      simp only [raiseNew]
      refine wpAny_bind (wpAny_handled ?_)
      rw [show A.in1.handled = none from hh]
      refine wpAny_bind (wpAny_pure (wpAny_throw ?_))
      refine wpAny_bind (wpAny_isInstance (T := "StopIteration") (b := true) ⟨_, Heap.get?_push_size _ rfl, rfl⟩ isSubtype_stop ?_)
      have hs : Heap.ExtBut it s'.heap h₃ := fun b o hb eo => s3.extBut b o hb (s2.extBut b o hb (s1.extBut b o hb eo))
      exact wpAny_pure (hQ _ ((hs.push _).push _))
    · rw [if_neg hec] at hQ
      have hb : (e == c) = false := by simpa using hec
      rw [hb]
      show wpAny _ _ (ret (.str c tc)) _ _ s'
      exact wpAny_pure ⟨_, rfl, wpAny_pure hQ⟩
end
end PMI_01
section PC1_01
theorem still_C1_01 : True := by
  w_top off
  trivial
local macro_rules | `(tactic| walk_at "idle 0") => `(tactic| fail)
def findAll (got : Str) (e : Int) : List Str → Int → Bool
  | [], _ => true
  | w :: r, p => if find4 got w p e < 0 then false else findAll got e r (find4 got w p e + w.length)

local macro_rules | `(tactic| walk_at "call builtin:str.find") => `(tactic| refine sc_find4 ?_)
local macro_rules | `(tactic| walk_at "exec Assert") => `(tactic| ((fail_if_success (have : Go 0 := by assumption)); refine Stop.mk ?_))
local macro_rules | `(tactic| walk_at "exec For") => `(tactic| ((fail_if_success (have : Go 1 := by assumption)); refine Stop.mk ?_))
set_option maxRecDepth 100000 in
set_option maxHeartbeats 0 in
theorem em_con (w : World) (news : List (Addr × Obj)) (want got : Str) (tw tg : Tok) (mids : List Str) (hlw : want.length ≤ 1000) (hlg : got.length ≤ 1000) (hsp : Txt.split want "..." = Str.ofString "" :: mids ++ [Str.ofString ""])
    (hoc : (Builtin.Str.occurrences want ("...") 0 want.length 1).isEmpty = false) :
    Con w (.ref 45) [.str want tw, .str got tg] 1 1 news (fun news' r => news' = news ∧ r = .bool (findAll got got.length (Str.ofString "" :: mids ++ [Str.ofString ""]) 0)) := by
  obtain ⟨b, hfa⟩ : ∃ b, findAll got got.length (Str.ofString "" :: mids ++ [Str.ofString ""]) 0 = b := ⟨_, rfl⟩
  rw [hfa]
  unfold Con
  k_fill
  intro p loose mean mg mb dp un gd cn csc a ccd cl outer A₀ base h₀ L m s Q E hB hF hX hN hT hck hdp hun hret
  (refine' code_def (binds := [("want", .str want tw), ("got", .str got tg)]) ?k1 ?k2 ?k3 ?k4 ?k5 ?kA ?kF ?kK ?k6 ?k7 ?k8 ?k9 ?kB ?_ ?c2 ?c3 ?c4 ?c5; (case kA => exact rfl); (case kF => exact rfl); (case kK => assumption); (case k1 => k_asm); (case k2 => k_asm); (case k3 => k_asm); (case k4 => k_asm); (case k5 => k_asm); (case k6 => k_is); (case k7 => k_is); (case k8 => ktr_room); (case k9 => first | exact BindsTo.of_eq rfl | exact binds_K (by k_in) rfl (by k_is) rfl rfl rfl); (case c5 => decide); (case kB => exact locs rfl); (case c2 => exact rfl); (case c3 => exact rfl); (case c4 => exact rfl); k_whole; intro g' L' h' FG' F' N' B' X' T'; (try dsimp only); (try k_lift B'); (try k_fold))
  k_steps
  rename _ = Txt.split _ _ => hlook
  have hlook2 := hlook.trans hsp
  have hll := congrArg List.length hlook2
  simp only [List.length_map, List.length_append, List.length_cons, List.length_nil] at hll
  refine Stop.out ?_
  have hg0 := Go.mk 0
  k_steps
  · rename _ = some (_ : Str) => hy
    rename Str => y
    rename _ = Str.ofString "" :: mids ++ _ => hlook2
    have hy' : y = Str.ofString "" := by rw [hlook2] at hy; simpa using hy.symm
    subst hy'
    k_steps
    rename _ = Str.ofString "" :: mids ++ _ => hlook2
    have hlast : ∀ l : List (Str × Tok), l.map (fun x => x.fst) = Str.ofString "" :: mids ++ [Str.ofString ""] → (List.map (fun x : Str × Tok => x.fst) l).getD (-1 + ((List.map (fun x : Str × Tok => x.fst) l).length : Int)).toNat Str.empty = Str.ofString "" := by
      intro l h
      rw [h]
      have : (-1 + (((Str.ofString "" :: mids ++ [Str.ofString ""]).length : Nat) : Int)).toNat = mids.length + 1 := by simp only [List.length_append, List.length_cons, List.length_nil]; omega
      rw [this]
      simp
    rw [hlast _ hlook2]
    k_steps
    refine Stop.out ?_
    rename Fr g' L' _ _ => F9
    rename News g' L' _ _ => N9
    with_unfolding_all refine' For_invVF F9 ?k1 ?k2 ?_
    case k1 => exact rfl
    case k2 => exact rfl
    walk1
    rename List (Str × Tok) => l
    refine kdl_iter (l := h'.objs.size) (vs := strValues l) (nn := 0) (news := (h'.objs.size, listOf (strValues l).toArray 0) :: news) (fun i m₁ nx => ∃ pp tp te, m₁ "startpos" = some (.int pp tp) ∧ m₁ "got" = some (.str got tg) ∧ m₁ "endpos" = some (.int got.length te) ∧ findAll got got.length ((Str.ofString "" :: mids ++ [Str.ofString ""]).drop i) pp = b ∧ nx = (h'.objs.size, listOf (strValues l).toArray 0) :: news) rfl (List.Mem.head _) F9 (fun p hp => N9 p (List.Mem.tail _ hp)) ?_ ?_ ?_
    · refine ⟨0, _, _, rfl, rfl, rfl, ?_, rfl⟩
      rw [List.drop_zero]; exact hfa
    · rintro i v m₁ news₁ h tk own hv hoff _ hp90 F₁ N₁
      try k_fold
      obtain ⟨pp, tp, te, hm1, hm2, hm3, hb, rfl⟩ := hp90
      obtain ⟨⟨x, tx⟩, hlx, rfl⟩ : ∃ q : Str × Tok, l[i]? = some q ∧ v = .str q.1 q.2 := by
        simp only [strValues, List.getElem?_map, Option.map_eq_some_iff] at hv
        obtain ⟨q, h1, h2⟩ := hv
        exact ⟨q, h1, h2.symm⟩
      have hx : (Str.ofString "" :: mids ++ [Str.ofString ""])[i]? = some x := by
        rw [← hlook2, List.getElem?_map, hlx]; rfl
      have hd : (Str.ofString "" :: mids ++ [Str.ofString ""]).drop i = x :: (Str.ofString "" :: mids ++ [Str.ofString ""]).drop (i + 1) := by
        obtain ⟨hi, he⟩ := List.getElem?_eq_some_iff.mp hx
        rw [List.drop_eq_getElem_cons hi, he]
      rw [hd] at hb
      dsimp only at *
      have F2 := Fr.turn [("startpos", .int pp tp), ("got", .str got tg), ("endpos", .int got.length te)] F₁ (al_cons hm1 (al_cons hm2 (al_cons hm3 al_nil)))
      rename ∀ a, a ∈ List.map _ _ → _ ≤ _ => hle
      have hxl : x.length ≤ 1000 := Nat.le_trans (hle x (by rw [hlook2]; exact List.mem_of_getElem? hx)) hlw
      clear F₁ F9 N9
      k_steps
      · rename find4 _ _ _ _ < 0 => hneg
        have hb' : b = false := by rw [← hb]; show (if find4 got x pp got.length < 0 then false else _) = false; rw [if_pos hneg]
        exact hret _ _ _ _ (by assumption) (cb_drop (by assumption) fun p hp => List.mem_append_left _ (List.Mem.tail _ hp)) ⟨rfl, by rw [hb']⟩
      · rename ¬ find4 _ _ _ _ < 0 => hpos
        have hb' : findAll got got.length ((Str.ofString "" :: mids ++ [Str.ofString ""]).drop (i + 1)) (find4 got x pp got.length + x.length) = b := by
          rw [← hb]
          show _ = (if find4 got x pp got.length < 0 then false else _)
          rw [if_neg hpos]
        exact InvEndG.intro (by assumption) (by assumption) ⟨List.Mem.head _, _, _, _, rfl, rfl, rfl, hb', rfl⟩ hoff (fun p hp => List.mem_append_left _ hp) (fun p hp => List.mem_append_right _ hp)
    · rintro m₁ news₁ h tk hp90 F₁ N₁
      try k_fold
      obtain ⟨pp, tp, te, hm1, hm2, hm3, hb, rfl⟩ := hp90
      have hdl : (Str.ofString "" :: mids ++ [Str.ofString ""]).drop (strValues l).length = [] := by
        rw [List.drop_eq_nil_iff, ← hlook2]; simp [strValues]
      rw [hdl] at hb
      have hb' : b = true := hb.symm
      clear F9 N9
      dsimp only
      k_steps
      exact hret _ _ _ _ (by assumption) (cb_drop (by assumption) fun p hp => (List.Mem.tail _ hp)) ⟨rfl, by rw [hb']⟩
end PC1_01
local macro_rules | `(tactic| k_room) => `(tactic| ktr_room)
local macro_rules | `(tactic| k_units) => `(tactic| ktr_units)
local macro_rules | `(tactic| k_all) => `(tactic| first | exact List.forall_mem_nil _ | (refine' fm_cons ?a ?b; (case a => k_ne); (case b => k_all)) | exact own_ne (by assumption) | exact ne_of_allLt (by assumption) (by (first | omega | exact Nat.le_refl _)) | exact ne_of_allLt (And.right (by assumption)) (by (first | omega | exact Nat.le_refl _)) | exact ne_of_allLt (And.right (And.right (by assumption))) (by (first | omega | exact Nat.le_refl _)) | exact ne_of_allLt (And.right (And.right (And.right (by assumption)))) (by (first | omega | exact Nat.le_refl _))) 
local macro_rules | `(tactic| k_allIn) => `(tactic| (intro p hp; k_ownIn))
local macro_rules | `(tactic| k_steps) => `(tactic| repeat' ((fail_if_success (with_reducible show Stop _)); (fail_if_success (with_reducible show Hide _)); (fail_if_success (with_reducible show InvEndG _ _ _ _ _ _)); first | (k_unfold; (try dsimp only)) | (k_end; kc_close) | walk1 | (dsimp only; walk1) | (leave1; walk_say "STEP leave1"; (try dsimp only)) | fail "no step"))
local macro_rules | `(tactic| k_lt $h:ident) => `(tactic| (replace $h := allLt_of $h; dsimp only [AllLt] at $h:ident))
section PC2_01
theorem still_C2_01 : True := by
  w_top off
  trivial
local macro_rules | `(tactic| walk_at "idle 0") => `(tactic| fail)
local macro_rules | `(tactic| walk_at "idle 1") => `(tactic| fail)
local macro_rules | `(tactic| walk_at "idle 2") => `(tactic| fail)
local macro_rules | `(tactic| walk_at "idle 3") => `(tactic| fail)
local macro_rules | `(tactic| walk_at "idle 4") => `(tactic| fail)
/-! ## the lexer: what its stream's function does, one sign, a word pushed, a word popped -/
def NextSpec (w : World) (f la : Addr) (own : List (Addr × Obj)) : Prop :=
  (∀ (rest : List (Addr × Obj)) (c : Str) (tc : Tok) (cs : List (Str × Tok)) (k : Nat) (i : Int) (ti : Tok), cs.length ≤ 1000 → OwnOff rest [la] →
    Con w (.ref f) [.int i ti] 1 1 ((la, listOf (Value.str c tc :: strValues cs).toArray k) :: (own ++ rest)) (fun news' r => news' = (la, listOf (strValues cs).toArray (k + 1)) :: (own ++ rest) ∧ r = .str c tc)) ∧
  (∀ (rest : List (Addr × Obj)) (k : Nat) (i : Int) (ti : Tok),
    Con w (.ref f) [.int i ti] 1 1 ((la, listOf #[] k) :: (own ++ rest)) (fun news' r => news' = (la, listOf #[] k) :: (own ++ rest) ∧ ∃ t, r = .str (Str.ofString "") t))

local macro_rules | `(tactic| walk_at "call ref") => `(tactic| (refine Stop.mk ?_))
local macro_rules | `(tactic| walk_at "callWith ref") => `(tactic| (k_here; k_dflt (refine' callWith_F ?k1 ?_; (case k1 => exact FnAt.of (by k_asm) (by k_mem)); k_whole)))
local macro_rules | `(tactic| walk_at "getMethod ref") => `(tactic| (k_here; (with_reducible show wpAny _ _ (getMethod (Value.ref _) (PySem.Str.ofString "read") _) _ _ _); k_dflt (refine' kmu_own ?k1 ?k2 ?k3 ?k4 ?k5 ?_; (case k1 => k_asm); (case k2 => k_asm); (case k3 => k_inst); (case k4 => k_is); (case k5 => k_is); k_whole)))
local macro_rules | `(tactic| walk_at "call builtin:list.pop") => `(tactic| (k_here; k_dflt (refine' pop0_K ?F ?N ?U ?z ?_; (case F => k_asm); (case N => k_asm); (case U => k_upd); (case z => (first | assumption | (simp; omega)))); intro h' F' N'))

set_option maxRecDepth 100000 in
set_option maxHeartbeats 0 in
theorem push_con (w : World) (rest : List (Addr × Obj)) (x dx pb : Addr) (vs : List Value) (n : Nat) (t : Nat → Tok) (ln : Int) (st : Value) (tok : Str) (tt : Tok) (h1 : OwnOff rest [pb]) (hne1 : @Ne Nat pb x) (hne2 : @Ne Nat pb dx) (hl : vs.length ≤ 1000) :
   Con w (.ref 80) [.ref x, .str tok tt] 1 1 ((pb, listOf vs.toArray n) :: (dx, lexO w.params t (ln) (st) (pb)) :: (x, instObj 83 dx) :: rest)
     (fun news' r => news' = (pb, listOf (vs ++ [Value.str tok tt]).toArray (n + 1)) :: (dx, lexO w.params t (ln) (st) (pb)) :: (x, instObj 83 dx) :: rest ∧ r = Value.none) := by
  unfold Con
  k_fill
  intro p loose mean mg mb dp un gd cn csc a ccd cl outer A₀ base h₀ L m s Q E hB hF hX hN hT hck hdp hun hret
  (refine' code_def (binds := [("self", .ref x), ("token", .str tok tt)]) ?k1 ?k2 ?k3 ?k4 ?k5 ?kA ?kF ?kK ?k6 ?k7 ?k8 ?k9 ?kB ?_ ?c2 ?c3 ?c4 ?c5; (case kA => exact rfl); (case kF => exact rfl); (case kK => assumption); (case k1 => k_asm); (case k2 => k_asm); (case k3 => k_asm); (case k4 => k_asm); (case k5 => k_asm); (case k6 => k_is); (case k7 => k_is); (case k8 => ktr_room); (case k9 => first | exact BindsTo.of_eq rfl | exact binds_K (by k_in) rfl (by k_is) rfl rfl rfl); (case c5 => decide); (case kB => exact locs rfl); (case c2 => exact rfl); (case c3 => exact rfl); (case c4 => exact rfl); k_whole; intro g' L' h' FG' F' N' B' X' T'; (try dsimp only); (try k_lift B'); (try k_fold))
  k_steps
  exact hret _ _ _ _ (by assumption) (by assumption) ⟨by simp, rfl⟩
set_option maxRecDepth 100000 in
set_option maxHeartbeats 0 in
theorem pop_con (w : World) (rest : List (Addr × Obj)) (x dx pb : Addr) (v : Value) (vs : List Value) (n : Nat) (t : Nat → Tok) (ln : Int) (st : Value) (h1 : OwnOff rest [pb]) (hne1 : @Ne Nat pb x) (hne2 : @Ne Nat pb dx) (hl : (v :: vs).length ≤ 1001) :
   Con w (.ref 73) [.ref x] 1 1 ((pb, listOf (v :: vs).toArray n) :: (dx, lexO w.params t (ln) (st) (pb)) :: (x, instObj 83 dx) :: rest)
     (fun news' r => news' = (pb, listOf vs.toArray (n + 1)) :: (dx, lexO w.params t (ln) (st) (pb)) :: (x, instObj 83 dx) :: rest ∧ r = v) := by
  unfold Con
  k_fill
  intro p loose mean mg mb dp un gd cn csc a ccd cl outer A₀ base h₀ L m s Q E hB hF hX hN hT hck hdp hun hret
  (refine' code_def (binds := [("self", .ref x)]) ?k1 ?k2 ?k3 ?k4 ?k5 ?kA ?kF ?kK ?k6 ?k7 ?k8 ?k9 ?kB ?_ ?c2 ?c3 ?c4 ?c5; (case kA => exact rfl); (case kF => exact rfl); (case kK => assumption); (case k1 => k_asm); (case k2 => k_asm); (case k3 => k_asm); (case k4 => k_asm); (case k5 => k_asm); (case k6 => k_is); (case k7 => k_is); (case k8 => ktr_room); (case k9 => first | exact BindsTo.of_eq rfl | exact binds_K (by k_in) rfl (by k_is) rfl rfl rfl); (case c5 => decide); (case kB => exact locs rfl); (case c2 => exact rfl); (case c3 => exact rfl); (case c4 => exact rfl); k_whole; intro g' L' h' FG' F' N' B' X' T'; (try dsimp only); (try k_lift B'); (try k_fold))
  k_steps
  exact hret _ _ _ _ (by assumption) (by assumption) ⟨rfl, rfl⟩

set_option maxRecDepth 100000 in
set_option maxHeartbeats 0 in
theorem read_con (w : World) (rest : List (Addr × Obj)) (x dx pb xs dxs pb2 la f c' cell : Addr) (fc : Value) (fod : Option Addr) (fd : FuncData) (fsl : Array (Option Value)) (oc co : Obj) (c : Str) (tc : Tok) (cs : List (Str × Tok)) (k : Nat) (t u : Nat → Tok) (ln : Int)
   (hNS : NextSpec w f la [(f, (⟨fc, fod, .func fd, fsl⟩ : Obj)), (c', oc), (cell, co)]) (hoff : OwnOff rest [la]) (h1 : @Ne Nat la dx) (h2 : @Ne Nat la x) (h3 : @Ne Nat la dxs) (h4 : @Ne Nat la xs) (hl : cs.length ≤ 1000) (hc : c ≠ Str.ofString "\n") :
   Con w (.ref 66) [.ref x] 2 2 ((la, listOf (Value.str c tc :: strValues cs).toArray k) :: (f, (⟨fc, fod, .func fd, fsl⟩ : Obj)) :: (c', oc) :: (cell, co) :: (dx, lexO w.params t (ln) (.ref xs) (pb)) :: (x, instObj 83 dx) :: (dxs, strO w.params u (pb2) (f)) :: (xs, instObj 83 dxs) :: rest)
     (fun news' r => news' = (la, listOf (strValues cs).toArray (k + 1)) :: (f, (⟨fc, fod, .func fd, fsl⟩ : Obj)) :: (c', oc) :: (cell, co) :: (dx, lexO w.params t (ln) (.ref xs) (pb)) :: (x, instObj 83 dx) :: (dxs, strO w.params u (pb2) (f)) :: (xs, instObj 83 dxs) :: rest ∧ r = .str c tc) := by
  unfold Con
  k_fill
  intro p loose mean mg mb dp un gd cn csc a ccd cl outer A₀ base h₀ L m s Q E hB hF hX hN hT hck hdp hun hret
  (refine' code_def (binds := [("self", .ref x)]) ?k1 ?k2 ?k3 ?k4 ?k5 ?kA ?kF ?kK ?k6 ?k7 ?k8 ?k9 ?kB ?_ ?c2 ?c3 ?c4 ?c5; (case kA => exact rfl); (case kF => exact rfl); (case kK => assumption); (case k1 => k_asm); (case k2 => k_asm); (case k3 => k_asm); (case k4 => k_asm); (case k5 => k_asm); (case k6 => k_is); (case k7 => k_is); (case k8 => ktr_room); (case k9 => first | exact BindsTo.of_eq rfl | exact binds_K (by k_in) rfl (by k_is) rfl rfl rfl); (case c5 => decide); (case kB => exact locs rfl); (case c2 => exact rfl); (case c3 => exact rfl); (case c4 => exact rfl); k_whole; intro g' L' h' FG' F' N' B' X' T'; (try dsimp only); (try k_lift B'); (try k_fold))
  k_steps
  refine Stop.out ?_
  have hoff' : OwnOff ((dx, lexO w.params t (ln) (.ref xs) (pb)) :: (x, instObj 83 dx) :: (dxs, strO w.params u (pb2) (f)) :: (xs, instObj 83 dxs) :: rest) [la] := by
    intro p hp b hb
    rw [List.mem_singleton.mp hb]
    revert p
    k_all
  refine Con.use (hNS.1 _ c tc cs k _ _ hl hoff') (by k_asm) (by k_asm) (by k_asm) (by k_asm) (by k_asm) rfl (by ktr_room) (by ktr_units) ?_
  rintro r h9 tk9 news9 F9 N9 ⟨rfl, rfl⟩
  dsimp only [List.cons_append, List.nil_append] at N9
  k_steps
  · rename (c == _) = true => hq
    exact absurd (by simpa using hq) hc
  · exact hret _ _ _ _ (by assumption) (by assumption) ⟨rfl, rfl⟩
set_option maxRecDepth 100000 in
set_option maxHeartbeats 0 in
theorem read_con0 (w : World) (rest : List (Addr × Obj)) (x dx pb xs dxs pb2 la f c' cell : Addr) (fc : Value) (fod : Option Addr) (fd : FuncData) (fsl : Array (Option Value)) (oc co : Obj) (k : Nat) (t u : Nat → Tok) (ln : Int)
   (hNS : NextSpec w f la [(f, (⟨fc, fod, .func fd, fsl⟩ : Obj)), (c', oc), (cell, co)]) :
   Con w (.ref 66) [.ref x] 2 2 ((la, listOf #[] k) :: (f, (⟨fc, fod, .func fd, fsl⟩ : Obj)) :: (c', oc) :: (cell, co) :: (dx, lexO w.params t (ln) (.ref xs) (pb)) :: (x, instObj 83 dx) :: (dxs, strO w.params u (pb2) (f)) :: (xs, instObj 83 dxs) :: rest)
     (fun news' r => news' = (la, listOf #[] k) :: (f, (⟨fc, fod, .func fd, fsl⟩ : Obj)) :: (c', oc) :: (cell, co) :: (dx, lexO w.params t (ln) (.ref xs) (pb)) :: (x, instObj 83 dx) :: (dxs, strO w.params u (pb2) (f)) :: (xs, instObj 83 dxs) :: rest ∧ ∃ t, r = .str (Str.ofString "") t) := by
  unfold Con
  k_fill
  intro p loose mean mg mb dp un gd cn csc a ccd cl outer A₀ base h₀ L m s Q E hB hF hX hN hT hck hdp hun hret
  (refine' code_def (binds := [("self", .ref x)]) ?k1 ?k2 ?k3 ?k4 ?k5 ?kA ?kF ?kK ?k6 ?k7 ?k8 ?k9 ?kB ?_ ?c2 ?c3 ?c4 ?c5; (case kA => exact rfl); (case kF => exact rfl); (case kK => assumption); (case k1 => k_asm); (case k2 => k_asm); (case k3 => k_asm); (case k4 => k_asm); (case k5 => k_asm); (case k6 => k_is); (case k7 => k_is); (case k8 => ktr_room); (case k9 => first | exact BindsTo.of_eq rfl | exact binds_K (by k_in) rfl (by k_is) rfl rfl rfl); (case c5 => decide); (case kB => exact locs rfl); (case c2 => exact rfl); (case c3 => exact rfl); (case c4 => exact rfl); k_whole; intro g' L' h' FG' F' N' B' X' T'; (try dsimp only); (try k_lift B'); (try k_fold))
  k_steps
  refine Stop.out ?_
  refine Con.use (hNS.2 _ k _ _) (by k_asm) (by k_asm) (by k_asm) (by k_asm) (by k_asm) rfl (by ktr_room) (by ktr_units) ?_
  rintro r h9 tk9 news9 F9 N9 ⟨rfl, t9, rfl⟩
  dsimp only [List.cons_append, List.nil_append] at N9
  k_steps
  all_goals exact hret _ _ _ _ (by assumption) (by assumption) ⟨rfl, _, rfl⟩
end PC2_01
section PC3_01
theorem still_C3_01 : True := by
  w_top off
  trivial
/-! ## _law_lexer -/
/-- the code object that the first call makes -/
def NextCode (oc : Obj) : Prop := ∃ (vs : Array Value) (L' : Addr) (t : Tok), oc.data = .fields vs ∧ vs[1]? = some (.str (qualnameIn (envOfC "_law_lexer" default L' 244 (.ref 243)) "_law_next" "_law_next") t)
/-- what a call of _law_lexer leaves: the lexer, its stream, the signs that are left -/
def LexAt (w : World) (c' : Addr) (oc : Obj) (tail : List (Addr × Obj)) (l : List (Str × Tok)) (news' : List (Addr × Obj)) (r : Value) : Prop :=
  ∃ (x dx pb xs dxs pb2 la f cell : Addr) (fc : Value) (fod : Option Addr) (fd : FuncData) (fsl : Array (Option Value)) (co : Obj) (k : Nat) (t u : Nat → Tok),
    r = .ref x ∧ NextSpec w f la [(f, (⟨fc, fod, .func fd, fsl⟩ : Obj)), (c', oc), (cell, co)] ∧
    (AllLt cell tail ∧ @LT.lt Nat _ cell la ∧ @LT.lt Nat _ la dxs ∧ @LT.lt Nat _ dxs xs ∧ @LT.lt Nat _ xs f ∧ @LT.lt Nat _ f dx ∧ @LT.lt Nat _ dx x ∧ @LT.lt Nat _ x pb ∧ @Ne Nat la c' ∧ @Ne Nat pb c') ∧
    news' = (pb, listOf #[] 0) :: (la, listOf (strValues l).toArray k) :: (f, (⟨fc, fod, .func fd, fsl⟩ : Obj)) :: (cell, co) :: (dx, lexO w.params t (1) (.ref xs) (pb)) :: (x, instObj 83 dx) :: (dxs, strO w.params u (pb2) (f)) :: (xs, instObj 83 dxs) :: (c', oc) :: tail

theorem LexAt.elim {w : World} {c' : Addr} {oc : Obj} {tail : List (Addr × Obj)} {l : List (Str × Tok)} {news' : List (Addr × Obj)} {r : Value} {P : Prop} (H : LexAt w c' oc tail l news' r)
    (K : ∀ (x dx pb xs dxs pb2 la f cell : Addr) (fc : Value) (fod : Option Addr) (fd : FuncData) (fsl : Array (Option Value)) (co : Obj) (k : Nat) (t u : Nat → Tok),
    r = .ref x → NextSpec w f la [(f, (⟨fc, fod, .func fd, fsl⟩ : Obj)), (c', oc), (cell, co)] →
    (AllLt cell tail ∧ @LT.lt Nat _ cell la ∧ @LT.lt Nat _ la dxs ∧ @LT.lt Nat _ dxs xs ∧ @LT.lt Nat _ xs f ∧ @LT.lt Nat _ f dx ∧ @LT.lt Nat _ dx x ∧ @LT.lt Nat _ x pb ∧ @Ne Nat la c' ∧ @Ne Nat pb c') →
    news' = (pb, listOf #[] 0) :: (la, listOf (strValues l).toArray k) :: (f, (⟨fc, fod, .func fd, fsl⟩ : Obj)) :: (cell, co) :: (dx, lexO w.params t (1) (.ref xs) (pb)) :: (x, instObj 83 dx) :: (dxs, strO w.params u (pb2) (f)) :: (xs, instObj 83 dxs) :: (c', oc) :: tail → P) : P := by
  obtain ⟨x, dx, pb, xs, dxs, pb2, la, f, cell, fc, fod, fd, fsl, co, k, t, u, h1, h2, h3, h4⟩ := H
  exact K x dx pb xs dxs pb2 la f cell fc fod fd fsl co k t u h1 h2 h3 h4
theorem lex_build {w : World} {c' : Addr} {oc : Obj} {tail : List (Addr × Obj)} {l : List (Str × Tok)} {h₀ h : Heap} {L : Addr} {N0 : List (Addr × Obj)}
    {x dx pb xs dxs pb2 la f cell : Addr} {fc : Value} {fod : Option Addr} {fd : FuncData} {fsl : Array (Option Value)} {co : Obj} {k : Nat} {t1 t2 t3 t4 t5 t6 u1 u2 u3 u4 u5 u6 u7 : Tok}
    {vs9 : Array Value} (N : News h₀ L h N0) (_hoc : oc.data = .fields vs9) (_hco : co.data = .cell (some (.ref la)))
    (hs : ∀ p ∈ (pb, listOf #[] 0) :: (la, listOf (strValues l).toArray k) :: (f, (⟨fc, fod, .func fd, fsl⟩ : Obj)) :: (cell, co) :: (dx, dictOf [⟨PyData.keyHash w.params "lineno", .str "lineno" t1, .int 1 t2⟩, ⟨PyData.keyHash w.params "instream", .str "instream" t3, .ref xs⟩, ⟨PyData.keyHash w.params "whitespace", .str "whitespace" t4, .str "\n\t\r " t5⟩, ⟨PyData.keyHash w.params "pushback", .str "pushback" t6, .ref pb⟩] 4) :: (x, instObj 83 dx) :: (dxs, dictOf [⟨PyData.keyHash w.params "lineno", .str "lineno" u1, .int 1 u2⟩, ⟨PyData.keyHash w.params "instream", .str "instream" u3, .none⟩, ⟨PyData.keyHash w.params "whitespace", .str "whitespace" u4, .str "\n\t\r " u5⟩, ⟨PyData.keyHash w.params "pushback", .str "pushback" u6, .ref pb2⟩, ⟨PyData.keyHash w.params "read", .str "read" u7, .ref f⟩] 5) :: (xs, instObj 83 dxs) :: (c', oc) :: tail, p ∈ N0)
    (hNS : NextSpec w f la [(f, (⟨fc, fod, .func fd, fsl⟩ : Obj)), (c', oc), (cell, co)])
    (hlt : AllLt cell tail ∧ @LT.lt Nat _ cell la ∧ @LT.lt Nat _ la dxs ∧ @LT.lt Nat _ dxs xs ∧ @LT.lt Nat _ xs f ∧ @LT.lt Nat _ f dx ∧ @LT.lt Nat _ dx x ∧ @LT.lt Nat _ x pb ∧ @Ne Nat la c' ∧ @Ne Nat pb c') :
    ∃ news', News h₀ L h news' ∧ LexAt w c' oc tail l news' (.ref x) :=
  ⟨_, News.sub N hs, x, dx, pb, xs, dxs, pb2, la, f, cell, fc, fod, fd, fsl, co, k,
    (fun | 1 => t1 | 2 => t2 | 3 => t3 | 4 => t4 | 5 => t5 | _ => t6), (fun | 1 => u1 | 2 => u2 | 3 => u3 | 4 => u4 | 5 => u5 | 6 => u6 | _ => u7), rfl, hNS, hlt, rfl⟩

local macro_rules | `(tactic| walk_at "call type:list") => `(tactic| (k_here; (with_reducible show wpAny _ _ (call (Value.type _) [Value.str _ _]) _ _ _); k_dflt (refine' list_str_K ?h ?F ?N ?_ ?z; (case h => exact rfl); (case F => k_asm); (case N => k_asm); (case z => first | size_fits | (exact Nat.le_trans (by assumption) (by decide)))); intro D' h' tk' l' n' F' N' l1 hl'; (try k_lt l1); (try k_sweep)))
local macro_rules | `(tactic| walk_at "call builtin:list.pop") => `(tactic| (k_here; k_dflt (refine' pop0_K ?F ?N ?U ?z ?_; (case F => k_asm); (case N => k_asm); (case U => k_upd); (case z => (first | assumption | (simp; omega)))); intro h' F' N'))
set_option maxRecDepth 100000 in
set_option maxHeartbeats 0 in
theorem lex_con (w : World) (rest : List (Addr × Obj)) (text : Str) (tt : Tok) (ht : text.length ≤ 1000) (h1 : OwnOff rest [239]) :
   Con w (.ref 244) [.str text tt] 3 4 ((239, tabObj #[]) :: rest) (fun news' r => ∃ c' oc l, l.map (·.1) = signs text ∧ @LT.lt Nat _ 239 c' ∧ AllLt c' rest ∧ NextCode oc ∧ LexAt w c' oc ((239, tabObj #[rawInt 178, rawInt 4, .ref c']) :: rest) l news' r) := by
  unfold Con
  k_fill
  intro p loose mean mg mb dp un gd cn csc a ccd cl outer A₀ base h₀ L m s Q E hB hF hX hN hT hck hdp hun hret
  (refine' code_defC (binds := [("text", .str text tt)]) ?k1 ?k2 ?k3 ?k4 ?k5 ?kA ?kF ?kK ?k6 ?k7 ?k8 ?k9 ?kB ?kD ?_ ?c2 ?c3 ?c4; (case kA => exact rfl); (case kF => exact rfl); (case kK => assumption); (case k1 => k_asm); (case k2 => k_asm); (case k3 => k_asm); (case k4 => k_asm); (case k5 => k_asm); (case k6 => k_is); (case k7 => k_is); (case k8 => ktr_room); (case k9 => first | exact BindsTo.of_eq rfl | exact binds_K (by k_in) rfl (by k_is) rfl rfl rfl); (case kB => exact rfl); (case kD => decide +kernel); (case c2 => exact rfl); (case c3 => exact rfl); (case c4 => exact rfl); k_whole; intro g' L' h' tk' cells' FG' F' N' Y' B' X' T' l1; (try k_lt l1); k_cells Y'; (try simp only [List.cons_append, List.nil_append] at N'); (try dsimp only); (try k_lift B'); (try k_fold))
  have codeHd : CodeHd g' 243 239 := ⟨_, _, _, _, _, _, _, _, _, X' 243 _ (by k_is), rfl, rfl, rfl, rfl, rfl, rfl, rfl, rfl, by decide⟩
  k_steps
  rename Fr h₀ L _ m => F9
  rename News h₀ L _ _ => N9
  dsimp only at *
  rename _ = Data.fields _ => d1
  rename _ = some (Value.str (qualnameIn _ _ _) _) => d2
  rename _ = Data.cell (some (Value.ref _)) => d3
  rename List.map _ _ = signs text => hl9
  have hb := lex_build (w := w) (tail := (239, tabObj #[rawInt 178, rawInt 4, .ref _]) :: rest) N9 d1 d3 (by k_allIn) ?hNS ?hlt
  case hlt => refine ⟨⟨by omega, allLt_mono (by omega) l1.2⟩, ?_, ?_, ?_, ?_, ?_, ?_, ?_, ?_, ?_⟩ <;> omega
  case hNS => 
    clear N9 F9 hret hN hF
    refine ⟨?_, ?_⟩
    · intro rest c tc cs k i ti hcs hoff
      have hl9 : (Value.str c tc :: strValues cs).length ≤ 1001 := by simp only [strValues, List.length_cons, List.length_map]; omega
      unfold Con
      k_fill
      intro p loose mean mg mb dp un gd cn csc a ccd cl outer A₀ base h₀ L m s Q E hB hF hX hN hT hck hdp hun hret
      dsimp only [List.cons_append, List.nil_append] at hN
      k_dflt (refine' code_nest (binds := [("size", .int i ti)]) ?k1 ?k2 ?k3 ?k4 ?k5 ?kA ?kF ?kK ?k6 ?k7 ?k8 ?k9 ?kB ?_ ?c2 ?c3 ?c4 ?c5; (case kA => exact rfl); (case kF => exact rfl); (case kK => assumption); (case k1 => k_asm); (case k2 => k_asm); (case k3 => k_asm); (case k4 => k_asm); (case k5 => k_asm); (case k6 => k_mem); (case k7 => exact codeRec_news (by k_asm) (by k_mem) (by assumption) (by assumption)); (case k8 => ktr_room); (case k9 => exact BindsTo.of_eq rfl); (case c5 => decide); (case kB => exact locs rfl); (case c2 => exact rfl); (case c3 => exact rfl); (case c4 => exact rfl); k_whole; intro g' L' h' FG' F' N' B' X' T'; (try dsimp only); (try k_lift B'); (try k_fold))
      k_steps
      exact hret _ _ _ _ (by assumption) (by assumption) ⟨rfl, rfl⟩
    · intro rest k i ti
      unfold Con
      k_fill
      intro p loose mean mg mb dp un gd cn csc a ccd cl outer A₀ base h₀ L m s Q E hB hF hX hN hT hck hdp hun hret
      dsimp only [List.cons_append, List.nil_append] at hN
      k_dflt (refine' code_nest (binds := [("size", .int i ti)]) ?k1 ?k2 ?k3 ?k4 ?k5 ?kA ?kF ?kK ?k6 ?k7 ?k8 ?k9 ?kB ?_ ?c2 ?c3 ?c4 ?c5; (case kA => exact rfl); (case kF => exact rfl); (case kK => assumption); (case k1 => k_asm); (case k2 => k_asm); (case k3 => k_asm); (case k4 => k_asm); (case k5 => k_asm); (case k6 => k_mem); (case k7 => exact codeRec_news (by k_asm) (by k_mem) (by assumption) (by assumption)); (case k8 => ktr_room); (case k9 => exact BindsTo.of_eq rfl); (case c5 => decide); (case kB => exact locs rfl); (case c2 => exact rfl); (case c3 => exact rfl); (case c4 => exact rfl); k_whole; intro g' L' h' FG' F' N' B' X' T'; (try dsimp only); (try k_lift B'); (try k_fold))
      k_steps
      exact hret _ _ _ _ (by assumption) (by assumption) ⟨rfl, _, rfl⟩
  obtain ⟨news', N', P⟩ := hb
  exact hret _ _ _ _ F9 N' ⟨_, _, _, hl9, by omega, (by assumption : _ < _ ∧ _ < _ ∧ _ < _ ∧ _ < _ ∧ _ < _ ∧ _ < _ ∧ AllLt _ rest).2.2.2.2.2.2, ⟨_, L', _, d1, d2⟩, P⟩
end PC3_01
section PC4_01
theorem still_C4_01 : True := by
  w_top off
  trivial
open PySem.Spec
/-! ## a for over the lexer's reading iterator -/
def RdPost (h₀ : Heap) (L : Addr) (s : Shared) (led : List (Str × Tok) → Nat → List (Addr × Obj)) (J : List (Str × Tok) → (Str → Option Value) → Prop) (n : Nat) (Q : Flow → Shared → Prop) (f : Flow) (s₂ : Shared) : Prop :=
  match f with
  | .ret v => Q (.ret v) s₂
  | .brk => Q .next s₂
  | _ => ∃ h' tk m' cs' k', s₂ = { s with heap := h', toks := tk } ∧ Fr h₀ L h' m' ∧ News h₀ L h' (led cs' k') ∧ J cs' m' ∧ cs'.length < n
section
variable {prog : Program} {w : World} {A : Around} {E : Value → Shared → Prop} {Q : Flow → Shared → Prop} {s : Shared} {env : Env} {h₀ : Heap} {x : Str} {body : List Stmt} {px : Pos}
theorem read_loop {it q f self : Addr} {te : Tok} {m₀ : Str → Option Value} {cs₀ : List (Str × Tok)} {k₀ : Nat} (led : List (Str × Tok) → Nat → List (Addr × Obj)) (fin : Nat → List (Addr × Obj)) (J : List (Str × Tok) → (Str → Option Value) → Prop)
    (hh : A.handled = none) (hx : env.kindOf x = some .local) (hp : (env.scope.kind == .class || (env.scope.kind == .module && env.locals != env.globals)) = false) (hE : PassesOwn (model prog w) A env E)
    (hit : ∀ cs k, (it, ciObj q (Str.ofString "") te) ∈ led cs k) (hq : ∀ cs k, (q, methodObj (.ref f) (.ref self)) ∈ led cs k) (hf : FnAt f h₀)
    (hfin : ∀ k, ∀ p ∈ fin k, p ∈ led [] k ∧ p.1 ≠ it)
    (F : Fr h₀ env.locals s.heap m₀) (N : News h₀ env.locals s.heap (led cs₀ k₀)) (hj : J cs₀ m₀) (hne : ∀ c t cs m, J ((c, t) :: cs) m → Str.ofString "" ≠ c)
    (read : ∀ c t cs k m h tk (R : Result → Shared → Prop), J ((c, t) :: cs) m → Fr h₀ env.locals h m → News h₀ env.locals h (led ((c, t) :: cs) k) →
      (∀ h' tk' k', Fr h₀ env.locals h' m → News h₀ env.locals h' (led cs k') → R (.ok (.ret (.str c t))) { s with heap := h', toks := tk' }) → codeAny (model prog w) A.in1 (.call (.ref f) ⟨[.ref self], []⟩) R { s with heap := h, toks := tk })
    (read0 : ∀ k m h tk (R : Result → Shared → Prop), Fr h₀ env.locals h m → News h₀ env.locals h (led [] k) →
      (∀ t h' tk' k', Fr h₀ env.locals h' m → News h₀ env.locals h' (led [] k') → R (.ok (.ret (.str (Str.ofString "") t))) { s with heap := h', toks := tk' }) → codeAny (model prog w) A.in1 (.call (.ref f) ⟨[.ref self], []⟩) R { s with heap := h, toks := tk })
    (turn : ∀ c t cs k m h tk, J ((c, t) :: cs) m → Fr h₀ env.locals h (fun y => if y = x then some (.str c t) else m y) → News h₀ env.locals h (led cs k) →
      wpAny (model prog w) A (execs body env) (RdPost h₀ env.locals s led J (cs.length + 1) Q) E { s with heap := h, toks := tk })
    (done : ∀ m h tk k, J [] m → Fr h₀ env.locals h m → News h₀ env.locals h (fin k) → Q .next { s with heap := h, toks := tk }) :
    wpAny (model prog w) A (pyIter (.ref it)) (fun iv s₂ => codeAny (model prog w) A (.forLoop (.Name x px) iv body [] env) (fun r s' => match r with | .ok f => Q f s' | .error e => cameBackBy (model prog w) A env E e s') s₂) E s := by
  refine ci_iter (N _ (hit cs₀ k₀)).1 ?_
  have hLi : ∀ {h} {cs k}, News h₀ env.locals h (led cs k) → env.locals ≠ it := fun N e => (N _ (hit _ _)).2.1 e.symm
  refine codeAny_forLoop (R := fun r s' => match r with | .ok f => Q f s' | .error e => cameBackBy (model prog w) A env E e s') (fun n s' => ∃ h tk m cs k, s' = { s with heap := h, toks := tk } ∧ Fr h₀ env.locals h m ∧ News h₀ env.locals h (led cs k) ∧ J cs m ∧ n = cs.length) ?_ cs₀.length
    ⟨s.heap, s.toks, m₀, cs₀, k₀, rfl, F, N, hj, rfl⟩
  rintro n s' ⟨h, tk, m, cs, k, rfl, F₁, N₁, hj₁, rfl⟩
  have hfn : ∀ {h m}, Fr h₀ env.locals h m → FnAt f h := fun F => let ⟨a, b, c, d, e⟩ := hf; ⟨a, b, c, d, F.keep _ _ e⟩
  cases cs with
  | nil =>
    refine ci_next hh (N₁ _ (hit [] k)).1 (N₁ _ (hq [] k)).1 (hfn F₁) (read0 k m h tk _ F₁ N₁ fun t h' tk' k' F₂ N₂ => ⟨_, t, rfl, (N₂ _ (hit [] k')).1, (N₂ _ (hq [] k')).1, hfn F₂, ?_⟩)
    rw [if_pos rfl]
    intro h₃ hx₃
    refine wpAny_execs_nil (done m h₃ tk' k' hj₁ ⟨F₂.ns.at' fun o e => hx₃ _ o (hLi N₂) e, fun b o e => hx₃ b o (fun (q : b = it) => ?_) (F₂.keep b o e), F₂.above⟩ fun p hp => ?_)
    · rw [q, (N₂ _ (hit [] k')).2.2] at e; cases e
    · have hm := hfin k' p hp
      exact ⟨hx₃ _ _ hm.2 (N₂ p hm.1).1, (N₂ p hm.1).2⟩
  | cons a r =>
    obtain ⟨c, t⟩ := a
    refine ci_next hh (N₁ _ (hit _ k)).1 (N₁ _ (hq _ k)).1 (hfn F₁) (read c t r k m h tk _ hj₁ F₁ N₁ fun h' tk' k' F₂ N₂ => ⟨_, t, rfl, (N₂ _ (hit r k')).1, (N₂ _ (hq r k')).1, hfn F₂, ?_⟩)
    rw [if_neg (hne c t r m hj₁)]
    refine wpAny_assign_Name (wpAny_storeName_local hx F₂.ns (fun h₃ hn hs => ?_) hp)
    refine wpAny_mono (wpAny_passesOwn hE (turn c t r k' m h₃ _ hj₁ (F₂.set hn hs) (N₂.set hs))) (fun fl s₃ hp₃ => ?_) fun _ _ e => e
    have go : (∃ h' tk m' cs' k', s₃ = { s with heap := h', toks := tk } ∧ Fr h₀ env.locals h' m' ∧ News h₀ env.locals h' (led cs' k') ∧ J cs' m' ∧ cs'.length < r.length + 1) →
        ∃ n', n' < (((c, t) :: r : List (Str × Tok))).length ∧ ∃ h tk m cs k, s₃ = { s with heap := h, toks := tk } ∧ Fr h₀ env.locals h m ∧ News h₀ env.locals h (led cs k) ∧ J cs m ∧ n' = cs.length := by
      rintro ⟨h', tk, m', cs', k', e, F', N', hj', hlt⟩
      exact ⟨cs'.length, hlt, h', tk, m', cs', k', e, F', N', hj', rfl⟩
    cases fl with
    | ret v => exact hp₃
    | brk => exact hp₃
    | next => exact go hp₃
    | cont => exact go hp₃
end
end PC4_01
section PC5_01
theorem still_C5_01 : True := by
  w_top off
  trivial
local macro_rules | `(tactic| walk_at "idle 0") => `(tactic| fail)
local macro_rules | `(tactic| walk_at "idle 1") => `(tactic| fail)
local macro_rules | `(tactic| walk_at "idle 2") => `(tactic| fail)
open PySem.Spec
/-! ## get_token: reading a quoted word -/
def skipB : List (Str × Tok) → Option (List (Str × Tok))
  | [] => none
  | (c, _) :: r => if c = Str.ofString " " then skipB r else if c = Str.ofString "\"" then some r else none
def bodyB : List (Str × Tok) → Str → Option (Str × List (Str × Tok))
  | [], _ => none
  | [(c, _)], acc => if c = Str.ofString "\"" then some (acc, []) else none
  | (c, _) :: (d, td) :: r, acc => if c = Str.ofString "\"" then some (acc, (d, td) :: r) else if c = Str.ofString "\\" then bodyB r (acc ++ d) else bodyB ((d, td) :: r) (acc ++ c)

theorem bodyB_q {t : Tok} {cs : List (Str × Tok)} {acc tok : Str} {r2 : List (Str × Tok)} (h : bodyB ((Str.ofString "\"", t) :: cs) acc = some (tok, r2)) : acc = tok ∧ cs = r2 := by
  cases cs with
  | nil => unfold bodyB at h; rw [if_pos rfl] at h; cases h; exact ⟨rfl, rfl⟩
  | cons d r => obtain ⟨d, td⟩ := d; unfold bodyB at h; rw [if_pos rfl] at h; cases h; exact ⟨rfl, rfl⟩
theorem bodyB_b {t : Tok} {cs : List (Str × Tok)} {acc : Str} {o : Str × List (Str × Tok)} (h : bodyB ((Str.ofString "\\", t) :: cs) acc = some o) : ∃ d td r, cs = (d, td) :: r ∧ bodyB r (acc ++ d) = some o := by
  have hn : ¬ Str.ofString "\\" = Str.ofString "\"" := by decide +kernel
  cases cs with
  | nil => unfold bodyB at h; rw [if_neg hn] at h; cases h
  | cons d r => obtain ⟨d, td⟩ := d; unfold bodyB at h; rw [if_neg hn, if_pos rfl] at h; exact ⟨d, td, r, rfl, h⟩
theorem bodyB_o {c : Str} {t : Tok} {cs : List (Str × Tok)} {acc : Str} {o : Str × List (Str × Tok)} (hq : ¬ c = Str.ofString "\"") (hb : ¬ c = Str.ofString "\\") (h : bodyB ((c, t) :: cs) acc = some o) : bodyB cs (acc ++ c) = some o := by
  cases cs with
  | nil => unfold bodyB at h; rw [if_neg hq] at h; cases h
  | cons d r => obtain ⟨d, td⟩ := d; unfold bodyB at h; rw [if_neg hq, if_neg hb] at h; exact h

theorem iter2_K {prog : Program} {w : World} {A : Around} {E : Value → Shared → Prop} {s : Shared} {h₀ : Heap} {L : Addr} {m : Str → Option Value} {news : List (Addr × Obj)} {q : Addr} {f self : Value} {e : Str} {te : Tok} {Q : Value → Shared → Prop}
    (F : Fr h₀ L s.heap m) (N : News h₀ L s.heap news) (hq : (q, methodObj f self) ∈ news)
    (h : ∀ it h', Fr h₀ L h' m → News h₀ L h' ((it, ciObj q e te) :: news) → (∀ p ∈ news, p.1 < it) → Q (.ref it) { s with heap := h' }) :
    wpAny (model prog w) A (call (.builtin "iter") [.ref q, .str e te]) Q E s :=
  iter2 (N _ hq).1 (h _ _ (F.push _) (N.push F _) fun p hp => Heap.lt_size (N p hp).1)

local macro_rules | `(tactic| walk_at "call builtin:iter") => `(tactic| (k_here; k_dflt (refine' iter2_K ?F ?N ?q ?_; (case F => k_asm); (case N => k_asm); (case q => k_mem)); intro i' h' F' N' l1; (try k_lt l1); (try k_sweep)))
local macro_rules | `(tactic| walk_at "exec For") => `(tactic| ((fail_if_success (have : Go 1 := by assumption)); refine Stop.mk ?_))
local macro_rules | `(tactic| walk_at "call ref") => `(tactic| (refine Stop.mk ?_))
set_option maxRecDepth 100000 in
set_option maxHeartbeats 0 in
theorem tok_con (w : World) (rest : List (Addr × Obj)) (x dx pb xs dxs pb2 la f c' cell : Addr) (fc : Value) (fod : Option Addr) (fd : FuncData) (fsl : Array (Option Value)) (oc co : Obj) (t u : Nat → Tok) (ln : Int) (k n : Nat) (cs r1 r2 : List (Str × Tok)) (tok : Str)
   (hNS : NextSpec w f la [(f, (⟨fc, fod, .func fd, fsl⟩ : Obj)), (c', oc), (cell, co)]) (hoff : OwnOff rest [la]) (h1 : @Ne Nat la dx) (h2 : @Ne Nat la x) (h3 : @Ne Nat la dxs) (h4 : @Ne Nat la xs) (h5 : @Ne Nat la pb) (hl : cs.length ≤ 1000)
   (hch : ∀ p ∈ cs, p.1.length = 1 ∧ p.1 ≠ Str.ofString "\n") (hs1 : skipB cs = some r1) (hs2 : bodyB r1 (Str.ofString "") = some (tok, r2)) :
   Con w (.ref 73) [.ref x] 4 4 ((la, listOf (strValues cs).toArray k) :: (f, (⟨fc, fod, .func fd, fsl⟩ : Obj)) :: (c', oc) :: (cell, co) :: (dx, lexO w.params t (ln) (.ref xs) (pb)) :: (x, instObj 83 dx) :: (dxs, strO w.params u (pb2) (f)) :: (xs, instObj 83 dxs) :: (pb, listOf #[] n) :: rest)
     (fun news' r => ∃ k' tt, news' = (la, listOf (strValues r2).toArray k') :: (f, (⟨fc, fod, .func fd, fsl⟩ : Obj)) :: (c', oc) :: (cell, co) :: (dx, lexO w.params t (ln) (.ref xs) (pb)) :: (x, instObj 83 dx) :: (dxs, strO w.params u (pb2) (f)) :: (xs, instObj 83 dxs) :: (pb, listOf #[] n) :: rest ∧ r = .str tok tt) := by
  unfold Con
  k_fill
  intro p loose mean mg mb dp un gd cn csc a ccd cl outer A₀ base h₀ L m s Q E hB hF hX hN hT hck hdp hun hret
  (refine' code_def (binds := [("self", .ref x)]) ?k1 ?k2 ?k3 ?k4 ?k5 ?kA ?kF ?kK ?k6 ?k7 ?k8 ?k9 ?kB ?_ ?c2 ?c3 ?c4 ?c5; (case kA => exact rfl); (case kF => exact rfl); (case kK => assumption); (case k1 => k_asm); (case k2 => k_asm); (case k3 => k_asm); (case k4 => k_asm); (case k5 => k_asm); (case k6 => k_is); (case k7 => k_is); (case k8 => ktr_room); (case k9 => first | exact BindsTo.of_eq rfl | exact binds_K (by k_in) rfl (by k_is) rfl rfl rfl); (case c5 => decide); (case kB => exact locs rfl); (case c2 => exact rfl); (case c3 => exact rfl); (case c4 => exact rfl); k_whole; intro g' L' h' FG' F' N' B' X' T'; (try dsimp only); (try k_lift B'); (try k_fold))
  k_steps
  refine Stop.out ?_
  rename Fr g' L' _ _ => F9
  rename News g' L' _ _ => N9
  with_unfolding_all refine' wpAny_For ?_ ?ks
  case ks => intro _; rfl
  walk1
  rename_i q9 _ l1a i9 _ l1b _
  obtain ⟨te9, N9⟩ : ∃ te9, News g' L' _ ((la, listOf (strValues cs).toArray k) :: (f, (⟨fc, fod, .func fd, fsl⟩ : Obj)) :: (c', oc) :: (cell, co) :: (dx, lexO w.params t (ln) (.ref xs) (pb)) :: (x, instObj 83 dx) :: (dxs, strO w.params u (pb2) (f)) :: (xs, instObj 83 dxs) :: (i9, ciObj q9 (Str.ofString "") te9) :: (q9, methodObj (.ref 66) (.ref x)) :: (pb, listOf #[] n) :: rest) := ⟨_, News.sub N9 (by k_allIn)⟩
  refine read_loop (q := q9) (f := 66) (self := x) (te := te9) (cs₀ := cs) (k₀ := k) (fun cs k => (la, listOf (strValues cs).toArray k) :: (f, (⟨fc, fod, .func fd, fsl⟩ : Obj)) :: (c', oc) :: (cell, co) :: (dx, lexO w.params t (ln) (.ref xs) (pb)) :: (x, instObj 83 dx) :: (dxs, strO w.params u (pb2) (f)) :: (xs, instObj 83 dxs) :: (i9, ciObj q9 (Str.ofString "") te9) :: (q9, methodObj (.ref 66) (.ref x)) :: (pb, listOf #[] n) :: rest)
    (fun k => (la, listOf #[] k) :: (f, (⟨fc, fod, .func fd, fsl⟩ : Obj)) :: (c', oc) :: (cell, co) :: (dx, lexO w.params t (ln) (.ref xs) (pb)) :: (x, instObj 83 dx) :: (dxs, strO w.params u (pb2) (f)) :: (xs, instObj 83 dxs) :: (q9, methodObj (.ref 66) (.ref x)) :: (pb, listOf #[] n) :: rest)
    (fun cs m => m "self" = some (.ref x) ∧ (∃ tt, m "token" = some (.str (Str.ofString "") tt)) ∧ m "fiter" = some (.ref i9) ∧ skipB cs = some r1 ∧ (∀ p ∈ cs, p.1.length = 1 ∧ p.1 ≠ Str.ofString "\n") ∧ cs.length ≤ 1000) rfl rfl rfl (by passes_own) ?hit ?hq ?hf ?hfin F9 N9 ?hj ?hne ?read ?read0 ?turn ?done
  case hit => intro cs k; k_memK
  case hq => intro cs k; k_memK
  case hf => exact ⟨_, _, _, _, X' 66 _ (by k_is)⟩
  case hfin => 
    intro k p hp
    refine ⟨?_, ?_⟩
    · revert p; k_allIn
    · revert p; k_all
  case hj => exact ⟨rfl, ⟨_, rfl⟩, rfl, hs1, hch, hl⟩
  case hne => 
    rintro c t cs m ⟨-, -, -, -, hc, -⟩ e
    have := (hc _ (.head _)).1
    rw [← e] at this
    cases this
  case read =>
    rintro c t cs k m h tk R ⟨-, -, -, -, hc, hl⟩ F N hR
    refine Con.code (read_con w ((i9, ciObj q9 (Str.ofString "") te9) :: (q9, methodObj (.ref 66) (.ref x)) :: (pb, listOf #[] n) :: rest) x dx pb xs dxs pb2 la f c' cell fc fod fd fsl oc co c t cs k _ u ln hNS ?_ h1 h2 h3 h4 ?_ ?_) B' F X' N T' rfl (by ktr_room) (by ktr_units) ?_
    · intro p hp b hb
      rw [List.mem_singleton.mp hb]
      revert p
      k_all
    · exact Nat.le_of_succ_le hl
    · exact (hc _ (.head _)).2
    · rintro r h' tk' news' F' N' hp90
      try k_fold
      obtain ⟨rfl, rfl⟩ := hp90
      exact hR h' tk' (k + 1) F' N'
  case read0 =>
    intro k m h tk R F N hR
    refine Con.code (read_con0 w ((i9, ciObj q9 (Str.ofString "") te9) :: (q9, methodObj (.ref 66) (.ref x)) :: (pb, listOf #[] n) :: rest) x dx pb xs dxs pb2 la f c' cell fc fod fd fsl oc co k _ u ln hNS) B' F X' N T' rfl (by ktr_room) (by ktr_units) ?_
    rintro r h' tk' news' F' N' hp90
    try k_fold
    obtain ⟨rfl, t', rfl⟩ := hp90
    exact hR t' h' tk' k F' N'
  case done =>
    rintro m h tk k ⟨-, -, -, hs, -⟩
    cases hs
  case turn =>
    rintro c tc cs k m h tk ⟨hm1, ⟨tt, hm2⟩, hm3, hs, hc, hl⟩ F N
    have F2 := Fr.turn [("self", .ref x), ("token", .str (Str.ofString "") tt), ("fiter", .ref i9)] F (al_cons hm1 (al_cons hm2 (al_cons hm3 al_nil)))
    clear F F9 N9 
    have hw1 : (Builtin.Str.occurrences "\n\t\r " " " 0 (Str.ofString "\n\t\r ").length 1).isEmpty = false := by decide +kernel
    have hw2 : (Builtin.Str.occurrences "\n\t\r " "\"" 0 (Str.ofString "\n\t\r ").length 1).isEmpty = true := by decide +kernel
    by_cases hcb : c = Str.ofString " "
    · subst hcb
      have hs' : skipB cs = some r1 := by simpa [skipB] using hs
      k_steps
      · exfalso
        refine Stop.out ?_
        rename _ = true => hq
        rw [hw1] at hq; cases hq
      · exact ⟨_, _, _, cs, k, rfl, by assumption, by assumption, ⟨rfl, ⟨_, rfl⟩, rfl, hs', fun p hp => hc p (.tail _ hp), Nat.le_of_succ_le hl⟩, Nat.lt_succ_self _⟩
    · have hcq : c = Str.ofString "\"" ∧ r1 = cs := by
        unfold skipB at hs
        rw [if_neg hcb] at hs
        split at hs
        · exact ⟨by assumption, by cases hs; rfl⟩
        · cases hs
      obtain ⟨rfl, rfl⟩ := hcq
      k_steps
      · refine Stop.out ?_
        rename Fr g' _ _ _ => F8
        rename News g' _ _ _ => N8
        with_unfolding_all refine' wpAny_For ?_ ?ks
        case ks => intro _; rfl
        walk1
        refine read_loop (q := q9) (f := 66) (self := x) (te := te9) (cs₀ := r1) (k₀ := k) (fun cs k => (la, listOf (strValues cs).toArray k) :: (f, (⟨fc, fod, .func fd, fsl⟩ : Obj)) :: (c', oc) :: (cell, co) :: (dx, lexO w.params t (ln) (.ref xs) (pb)) :: (x, instObj 83 dx) :: (dxs, strO w.params u (pb2) (f)) :: (xs, instObj 83 dxs) :: (i9, ciObj q9 (Str.ofString "") te9) :: (q9, methodObj (.ref 66) (.ref x)) :: (pb, listOf #[] n) :: rest)
          (fun k => (la, listOf #[] k) :: (f, (⟨fc, fod, .func fd, fsl⟩ : Obj)) :: (c', oc) :: (cell, co) :: (dx, lexO w.params t (ln) (.ref xs) (pb)) :: (x, instObj 83 dx) :: (dxs, strO w.params u (pb2) (f)) :: (xs, instObj 83 dxs) :: (q9, methodObj (.ref 66) (.ref x)) :: (pb, listOf #[] n) :: rest)
          (fun cs m => m "self" = some (.ref x) ∧ (∃ acc tt, m "token" = some (.str acc tt) ∧ bodyB cs acc = some (tok, r2) ∧ acc.length + cs.length ≤ 1000) ∧ m "fiter" = some (.ref i9) ∧ (∀ p ∈ cs, p.1.length = 1 ∧ p.1 ≠ Str.ofString "\n")) rfl rfl rfl (by passes_own) ?hit ?hq ?hf ?hfin F8 (News.sub N8 (by k_allIn)) ?hj ?hne ?read ?read0 ?turn ?done
        case hit => intro cs k; k_memK
        case hq => intro cs k; k_memK
        case hf => exact ⟨_, _, _, _, X' 66 _ (by k_is)⟩
        case hfin => 
          intro k p hp
          refine ⟨?_, ?_⟩
          · revert p; k_allIn
          · revert p; k_all
        case hj => exact ⟨rfl, ⟨_, _, rfl, hs2, by rw [show (Str.ofString "").length = 0 from rfl]; simp only [List.length_cons] at hl; omega⟩, rfl, fun p hp => hc p (.tail _ hp)⟩
        case hne => 
          rintro c t cs m ⟨-, -, -, hc⟩ e
          have := (hc _ (.head _)).1
          rw [← e] at this
          cases this
        case read =>
          rintro c t cs k m h tk R ⟨-, ⟨_, _, _, _, hl⟩, -, hc⟩ F N hR
          refine Con.code (read_con w ((i9, ciObj q9 (Str.ofString "") te9) :: (q9, methodObj (.ref 66) (.ref x)) :: (pb, listOf #[] n) :: rest) x dx pb xs dxs pb2 la f c' cell fc fod fd fsl oc co c t cs k _ u ln hNS ?_ h1 h2 h3 h4 ?_ ?_) B' F X' N T' rfl (by ktr_room) (by ktr_units) ?_
          · intro p hp b hb
            rw [List.mem_singleton.mp hb]
            revert p
            k_all
          · simp only [List.length_cons] at hl; omega
          · exact (hc _ (.head _)).2
          · rintro r h' tk' news' F' N' hp90
            try k_fold
            obtain ⟨rfl, rfl⟩ := hp90
            exact hR h' tk' (k + 1) F' N'
        case read0 =>
          intro k m h tk R F N hR
          refine Con.code (read_con0 w ((i9, ciObj q9 (Str.ofString "") te9) :: (q9, methodObj (.ref 66) (.ref x)) :: (pb, listOf #[] n) :: rest) x dx pb xs dxs pb2 la f c' cell fc fod fd fsl oc co k _ u ln hNS) B' F X' N T' rfl (by ktr_room) (by ktr_units) ?_
          rintro r h' tk' news' F' N' hp90
          try k_fold
          obtain ⟨rfl, t', rfl⟩ := hp90
          exact hR t' h' tk' k F' N'
        case done =>
          rintro m h tk k ⟨-, ⟨_, _, _, hs, _⟩, -⟩
          cases hs
        case turn =>
          rintro c t' cs k m h tk ⟨hm1, ⟨acc, tt, hm2, hb, hlen⟩, hm3, hc⟩ F N
          have F3 := Fr.turn [("self", .ref x), ("token", .str acc tt), ("fiter", .ref i9)] F (al_cons hm1 (al_cons hm2 (al_cons hm3 al_nil)))
          clear F F8 N8 
          have hl1 : c.length = 1 := (hc _ (.head _)).1
          have hz : acc.length + c.length ≤ sizeLine := by simp only [List.length_cons] at hlen; rw [sizeLine_eq]; omega
          by_cases hcq : c = Str.ofString "\""
          · subst hcq
            obtain ⟨rfl, rfl⟩ := bodyB_q hb
            k_steps
            dsimp only [RdPost]
            k_steps
            rename News h₀ _ _ _ => N7
            refine hret _ _ _ _ (by assumption) ?_ ⟨k, _, rfl, rfl⟩
            exact News.sub N7 (by k_allIn)
          · by_cases hcb : c = Str.ofString "\\"
            · subst hcb
              obtain ⟨d, td, r, rfl, hb'⟩ := bodyB_b hb
              have hl2 : d.length = 1 := (hc _ (.tail _ (.head _))).1
              have hz2 : acc.length + d.length ≤ sizeLine := by simp only [List.length_cons] at hlen; rw [sizeLine_eq]; omega
              k_steps
              refine Stop.out ?_
              rename Fr g' _ _ _ => F7
              rename News g' _ _ _ => N7
              refine Con.use (read_con w ((i9, ciObj q9 (Str.ofString "") te9) :: (q9, methodObj (.ref 66) (.ref x)) :: (pb, listOf #[] n) :: rest) x dx pb xs dxs pb2 la f c' cell fc fod fd fsl oc co d td r k _ u ln hNS ?_ h1 h2 h3 h4 ?_ ?_) B' F7 X' N7 T' rfl (by ktr_room) (by ktr_units) ?_
              · intro p hp b hb
                rw [List.mem_singleton.mp hb]
                revert p
                k_all
              · simp only [List.length_cons] at hlen; omega
              · exact (hc _ (.tail _ (.head _))).2
              · rintro rr h' tk' news' F6 N6 hp90
                try k_fold
                obtain ⟨rfl, rfl⟩ := hp90
                clear F7 N7
                k_steps
                exact ⟨_, _, _, r, k + 1, rfl, by assumption, by assumption, ⟨rfl, ⟨_, _, rfl, hb', by simp only [Str.length_append, List.length_cons] at hlen ⊢; omega⟩, rfl, fun p hp => hc p (.tail _ (.tail _ hp))⟩, by simp only [List.length_cons]; omega⟩
            · have hq1 : (c == Str.ofString "\"") = false := by simpa using hcq
              have hq2 : (c == Str.ofString "\\") = false := by simpa using hcb
              have hb' := bodyB_o hcq hcb hb
              k_steps
              exact ⟨_, _, _, cs, k, rfl, by assumption, by assumption, ⟨rfl, ⟨_, _, rfl, hb', by simp only [Str.length_append, List.length_cons] at hlen ⊢; omega⟩, rfl, fun p hp => hc p (.tail _ hp)⟩, Nat.lt_succ_self _⟩
      · exfalso
        rename _ = false => hq
        rw [hw2] at hq; cases hq
end PC5_01
section PC6_01
theorem still_C6_01 : True := by
  w_top off
  trivial
open PySem.Spec
/-! ## get_token: nothing pushed, nothing left -/
local macro_rules | `(tactic| walk_at "call builtin:iter") => `(tactic| (k_here; k_dflt (refine' iter2_K ?F ?N ?q ?_; (case F => k_asm); (case N => k_asm); (case q => k_mem)); intro i' h' F' N' l1; (try k_lt l1); (try k_sweep)))
local macro_rules | `(tactic| walk_at "exec For") => `(tactic| ((fail_if_success (have : Go 1 := by assumption)); refine Stop.mk ?_))
local macro_rules | `(tactic| walk_at "call ref") => `(tactic| (refine Stop.mk ?_))
set_option maxRecDepth 100000 in
set_option maxHeartbeats 0 in
theorem tok0_con (w : World) (rest : List (Addr × Obj)) (x dx pb xs dxs pb2 la f c' cell : Addr) (fc : Value) (fod : Option Addr) (fd : FuncData) (fsl : Array (Option Value)) (oc co : Obj) (t u : Nat → Tok) (ln : Int) (k n : Nat)
   (hNS : NextSpec w f la [(f, (⟨fc, fod, .func fd, fsl⟩ : Obj)), (c', oc), (cell, co)]) :
   Con w (.ref 73) [.ref x] 4 4 ((la, listOf #[] k) :: (f, (⟨fc, fod, .func fd, fsl⟩ : Obj)) :: (c', oc) :: (cell, co) :: (dx, lexO w.params t (ln) (.ref xs) (pb)) :: (x, instObj 83 dx) :: (dxs, strO w.params u (pb2) (f)) :: (xs, instObj 83 dxs) :: (pb, listOf #[] n) :: rest)
     (fun news' r => news' = (la, listOf #[] k) :: (f, (⟨fc, fod, .func fd, fsl⟩ : Obj)) :: (c', oc) :: (cell, co) :: (dx, lexO w.params t (ln) (.ref xs) (pb)) :: (x, instObj 83 dx) :: (dxs, strO w.params u (pb2) (f)) :: (xs, instObj 83 dxs) :: (pb, listOf #[] n) :: rest ∧ ∃ tt, r = .str (Str.ofString "") tt) := by
  unfold Con
  k_fill
  intro p loose mean mg mb dp un gd cn csc a ccd cl outer A₀ base h₀ L m s Q E hB hF hX hN hT hck hdp hun hret
  (refine' code_def (binds := [("self", .ref x)]) ?k1 ?k2 ?k3 ?k4 ?k5 ?kA ?kF ?kK ?k6 ?k7 ?k8 ?k9 ?kB ?_ ?c2 ?c3 ?c4 ?c5; (case kA => exact rfl); (case kF => exact rfl); (case kK => assumption); (case k1 => k_asm); (case k2 => k_asm); (case k3 => k_asm); (case k4 => k_asm); (case k5 => k_asm); (case k6 => k_is); (case k7 => k_is); (case k8 => ktr_room); (case k9 => first | exact BindsTo.of_eq rfl | exact binds_K (by k_in) rfl (by k_is) rfl rfl rfl); (case c5 => decide); (case kB => exact locs rfl); (case c2 => exact rfl); (case c3 => exact rfl); (case c4 => exact rfl); k_whole; intro g' L' h' FG' F' N' B' X' T'; (try dsimp only); (try k_lift B'); (try k_fold))
  k_steps
  refine Stop.out ?_
  rename Fr g' L' _ _ => F9
  rename News g' L' _ _ => N9
  with_unfolding_all refine' wpAny_For ?_ ?ks
  case ks => intro _; rfl
  walk1
  rename_i q9 _ l1a i9 _ l1b _
  obtain ⟨te9, N9⟩ : ∃ te9, News g' L' _ ((la, listOf #[] k) :: (f, (⟨fc, fod, .func fd, fsl⟩ : Obj)) :: (c', oc) :: (cell, co) :: (dx, lexO w.params t (ln) (.ref xs) (pb)) :: (x, instObj 83 dx) :: (dxs, strO w.params u (pb2) (f)) :: (xs, instObj 83 dxs) :: (i9, ciObj q9 (Str.ofString "") te9) :: (q9, methodObj (.ref 66) (.ref x)) :: (pb, listOf #[] n) :: rest) := ⟨_, News.sub N9 (by k_allIn)⟩
  refine read_loop (q := q9) (f := 66) (self := x) (te := te9) (cs₀ := []) (k₀ := k) (fun cs _ => (la, listOf (strValues cs).toArray k) :: (f, (⟨fc, fod, .func fd, fsl⟩ : Obj)) :: (c', oc) :: (cell, co) :: (dx, lexO w.params t (ln) (.ref xs) (pb)) :: (x, instObj 83 dx) :: (dxs, strO w.params u (pb2) (f)) :: (xs, instObj 83 dxs) :: (i9, ciObj q9 (Str.ofString "") te9) :: (q9, methodObj (.ref 66) (.ref x)) :: (pb, listOf #[] n) :: rest)
    (fun _ => (la, listOf #[] k) :: (f, (⟨fc, fod, .func fd, fsl⟩ : Obj)) :: (c', oc) :: (cell, co) :: (dx, lexO w.params t (ln) (.ref xs) (pb)) :: (x, instObj 83 dx) :: (dxs, strO w.params u (pb2) (f)) :: (xs, instObj 83 dxs) :: (q9, methodObj (.ref 66) (.ref x)) :: (pb, listOf #[] n) :: rest)
    (fun cs m => m "self" = some (.ref x) ∧ (∃ tt, m "token" = some (.str (Str.ofString "") tt)) ∧ m "fiter" = some (.ref i9) ∧ cs = []) rfl rfl rfl (by passes_own) ?hit ?hq ?hf ?hfin F9 N9 ?hj ?hne ?read ?read0 ?turn ?done
  case hit => intro cs k; k_memK
  case hq => intro cs k; k_memK
  case hf => exact ⟨_, _, _, _, X' 66 _ (by k_is)⟩
  case hfin => 
    intro k p hp
    refine ⟨?_, ?_⟩
    · revert p; k_allIn
    · revert p; k_all
  case hj => exact ⟨rfl, ⟨_, rfl⟩, rfl, rfl⟩
  case hne => 
    rintro c t cs m ⟨-, -, -, hc⟩ e
    cases hc
  case read =>
    rintro c t cs k' m h tk R ⟨-, -, -, hc⟩ F N hR
    cases hc
  case read0 =>
    intro k' m h tk R F N hR
    refine Con.code (read_con0 w ((i9, ciObj q9 (Str.ofString "") te9) :: (q9, methodObj (.ref 66) (.ref x)) :: (pb, listOf #[] n) :: rest) x dx pb xs dxs pb2 la f c' cell fc fod fd fsl oc co k _ u ln hNS) B' F X' N T' rfl (by ktr_room) (by ktr_units) ?_
    rintro r h' tk' news' F' N' hp90
    try k_fold
    obtain ⟨rfl, t', rfl⟩ := hp90
    exact hR t' h' tk' k' F' N'
  case turn =>
    rintro c tc cs k' m h tk ⟨-, -, -, hc⟩
    cases hc
  case done =>
    rintro m h tk k' ⟨hm1, ⟨tt, hm2⟩, hm3, -⟩ F N
    have F2 := Fr.al [("self", .ref x), ("token", .str (Str.ofString "") tt), ("fiter", .ref i9)] F (al_cons hm1 (al_cons hm2 (al_cons hm3 al_nil)))
    clear F F9 N9
    k_steps
    rename News h₀ _ _ _ => N7
    refine hret _ _ _ _ (by assumption) ?_ ⟨rfl, _, rfl⟩
    exact News.sub N7 (by k_allIn)
end PC6_01
section PC7_01
theorem still_C7_01 : True := by
  w_top off
  trivial
open PySem.Spec
/-! ## a regular expression that finds nothing -/
def ok1 (code : Array Nat) (c : Nat) : Prop := ∀ seen, ∃ seen', Sre.inSet code c code.size 5 true seen = .ok (false, seen')
def firstSet (code : Array Nat) : Bool := (match Sre.ops[code.getD 0 0]? with | some Sre.Op.INFO => true | _ => false) && code.getD 2 0 == 4
theorem admitted_none (m : Sre.M) (h : ∀ i, i < m.lim → ok1 m.code (m.text.getD i 0)) : ∀ fuel s seen, ∃ seen', m.admitted fuel s seen = .ok (none, seen')
  | 0, _, seen => ⟨seen, rfl⟩
  | fuel + 1, s, seen => by
    unfold Sre.M.admitted
    by_cases hs : s ≥ m.lim
    · rw [if_pos hs]; exact ⟨seen, rfl⟩
    · rw [if_neg hs]
      obtain ⟨seen', e⟩ := h s (by omega) seen
      rw [e]
      exact admitted_none m h fuel (s + 1) seen'
def Lost (m : Sre.M) : Prop := m.answer = some false ∧ m.frames = [] ∧ m.outcome = none
theorem attemptFrom_lost (m : Sre.M) (h : ∀ i, i < m.lim → ok1 m.code (m.text.getD i 0)) (hf : m.hasFirstSet = true) (h2 : m.frames = []) (h3 : m.outcome = none) (s : Nat) : Lost (m.attemptFrom s true) := by
  unfold Sre.M.attemptFrom
  rw [hf]
  obtain ⟨seen', e⟩ := admitted_none m h (m.lim + 1 - s) s m.seen
  rw [e]
  exact ⟨rfl, h2, h3⟩
theorem forSearch_lost (code text : Array Nat) (pos lim : Nat) (h : ∀ i, i < lim → ok1 code (text.getD i 0)) (hf : firstSet code = true) : Lost (Sre.forSearch code text 0 pos lim false) := by
  unfold Sre.forSearch
  dsimp only
  split
  · exact ⟨rfl, rfl, rfl⟩
  · refine attemptFrom_lost _ ?_ ?_ ?_ ?_ pos
    · exact h
    · exact hf
    · rfl
    · rfl
theorem runFor_lost (m : Sre.M) (h : Lost m) : m.runFor Builtin.Re.reTurnSteps = { m with outcome := some .failed } := by
  obtain ⟨h1, h2, h3⟩ := h
  cases m
  dsimp only at h1 h2 h3
  subst h1 h2 h3
  rfl
section
variable {prog : Program} {w : World} {A : Around} {E : Value → Shared → Prop} {s : Shared}
theorem drive_lost {m : Sre.M} {Q : Sre.M → Shared → Prop} (h : Lost m) (hQ : Q { m with outcome := some .failed } s) : wpAny (model prog w) A (Builtin.Re.reDrive (2 ^ 64) m) Q E s := by
  rw [show (2 : Nat) ^ 64 = 18446744073709551615 + 1 from rfl]
  have e : Builtin.Re.reDrive (18446744073709551615 + 1) m = (if (m.runFor Builtin.Re.reTurnSteps).outcome.isSome then pure (m.runFor Builtin.Re.reTurnSteps) else do rule "sre.turn"; Builtin.Re.reDrive 18446744073709551615 (m.runFor Builtin.Re.reTurnSteps)) := rfl
  rw [e, runFor_lost m h]
  exact wpAny_pure hQ
theorem run_lost {m : Sre.M} {Q : Option Sre.M → Shared → Prop} (h : Lost m) (hQ : Q none s) : wpAny (model prog w) A (Builtin.Re.reRunToEnd m) Q E s := by
  unfold Builtin.Re.reRunToEnd
  refine wpAny_bind (drive_lost h ?_)
  refine wpAny_bind (wpAny_forIn_list _ (fun _ _ s' => s' = s) _ ?_ ?_ _ _ rfl)
  · rintro i rest b s' rfl
    split
    · exact wpAny_bind (wpAny_rule (wpAny_pure rfl))
    · exact wpAny_pure rfl
  · rintro b s' rfl
    exact wpAny_pure hQ

theorem slot_re_search : Slot "re.Pattern" "search" "re.Pattern.search" :=
  .of (owner := "re.Pattern") (n := "search") (by rw [typeLookup_type, builtinLookup_eq_fast]; kernel_rfl) (by decide +kernel) (by decide +kernel) (by decide +kernel)
    (by first | exact .inl (by decide +kernel) | exact .inr (by decide +kernel)) (by rw [isSubtype_type]; kernel_rfl)
theorem entry_re_search : entryFor table "re.Pattern.search" = some Builtin.«re.Pattern.search» := entryFor_of_tree (by kernel_rfl)
theorem args_re_search (a b : Value) : argsOk "re.Pattern.search" ⟨[a, b], []⟩ := by unfold argsOk; kernel_rfl

def SafeIn (code : Array Nat) (x : Str) : Prop := (∀ i, i < x.cps.size → ok1 code (x.cps.getD i 0)) ∧ firstSet code = true
theorem plain_re : PlainAttrs "re.Pattern" :=
  ⟨⟨"object.__getattribute__", by rw [typeLookup_type, builtinLookup_eq_fast]; kernel_rfl, by decide +kernel⟩, by rw [typeLookup_type, builtinLookup_eq_fast]; kernel_rfl⟩
theorem type_re_search : typeOf (.builtin "re.Pattern.search") = pure (.type "method_descriptor") := by show builtinType _ = _; rw [builtinType_eq_fast]; kernel_rfl
theorem re_method {p : Addr} {o : Obj} {pl : Sem Bool} {Q : Value × List Value → Shared → Prop} (ho : s.heap.get? p = some o) (hc : o.cls = .type "re.Pattern") (hd : o.dict = none)
    (h : Q (.builtin "re.Pattern.search", [.ref p]) s) : wpAny (model prog w) A (getMethod (.ref p) "search" pl) Q E s :=
  getMethod_builtin ⟨_, ho, hc⟩ plain_re slot_re_search type_re_search (fun a e => by cases e; exact ⟨_, ho, hd⟩) h
theorem re_search_none {p l : Addr} {o lo : Obj} {fs items : Array Value} {n : Nat} {x : Str} {t : Tok} {Q : Value → Shared → Prop}
    (ho : s.heap.get? p = some o) (hc : o.cls = .type "re.Pattern") (hd : o.data = .fields fs) (h5 : fs.getD 5 .none = .ref l) (h6 : Builtin.Re.reRawNat (fs.getD 6 .none) = 0) (h2 : Builtin.Re.reRawNat (fs.getD 2 .none) = 0)
    (hl : s.heap.get? l = some lo) (hld : lo.data = .seq items n) {code : Array Nat} (hco : (items.map Builtin.Re.reRawOf).map (·.toNat) = code) (hS : SafeIn code x) (hQ : Q .none s) :
    wpAny (model prog w) A (call (.builtin "re.Pattern.search") [.ref p, .str x t]) Q E s := by
  have hT : s.TypeIs (.ref p) "re.Pattern" := ⟨_, ho, hc⟩
  refine wpAny_call_entry slot_re_search hT entry_re_search ?_ (args_re_search _ _)
  show wpAny _ _ (Builtin.Re.reTarget "re.Pattern.search" "search" ⟨[.ref p, .str x t], []⟩ >>= _) _ _ s
  refine wpAny_bind ?_
  unfold Builtin.Re.reTarget
  show wpAny _ _ (Builtin.Re.reNamed "re.Pattern.search" "search" ["string", "pos", "endpos"] 1 [.str x t] [] >>= _) _ _ s
  refine wpAny_bind (wpAny_of_eq (a := [some (.str x t), none, none]) rfl ?_)
  show wpAny _ _ (fieldsOf (.ref p) >>= _) _ _ s
  refine wpAny_bind (wpAny_fieldsOf ho hd ?_)
  show wpAny _ _ (Builtin.Re.reTextOf (.str x t) >>= _) _ _ s
  refine wpAny_bind (wpAny_of_eq (a := (x.cps, 0)) rfl ?_)
  rw [h6]
  show wpAny _ _ (Builtin.Re.reRawItems (fs.getD 5 .none) >>= _) _ _ s
  rw [h5]
  refine wpAny_bind ?_
  show wpAny _ _ (seqItems? (.ref l) >>= _) _ _ s
  refine wpAny_bind (wpAny_seqItems hl hld (wpAny_pure (wpAny_pure ?_)))
  show wpAny _ _ (Builtin.Re.reRunToEnd _ >>= _) _ _ s
  refine wpAny_bind (run_lost ?_ ?_)
  · rw [h2]
    dsimp only [Option.getD_some]
    rw [hco]
    exact forSearch_lost _ _ _ _ (fun i hi => hS.1 i (Nat.lt_of_lt_of_le hi (Nat.min_le_right _ _))) hS.2
  · exact wpAny_pure ⟨_, rfl, hQ⟩
end

def SafeStr (x : Str) : Prop := ∀ i, i < x.cps.size → x.cps.getD i 0 ∈ [32, 34, 92, 60, 62, 111, 110, 101, 100]
abbrev nameSet : Array Nat := #[14, 10, 4, 1, 1, 22, 0, 31, 16, 127, 0, 13, 7, 22, 0, 31, 16, 127, 0, 1]
abbrev valueSet : Array Nat := #[14, 14, 4, 1, 1, 9, 4294966783, 0, 0, 2147483648, 0, 0, 0, 0, 0, 13, 11, 9, 4294966783, 0, 0, 2147483648, 0, 0, 0, 0, 0, 1]
theorem safe_name {x : Str} (h : SafeStr x) : SafeIn nameSet x := ⟨fun i hi seen => ⟨((seen.add 22).add 16).add 0, by
  have := h i hi
  simp only [List.mem_cons, List.not_mem_nil, or_false] at this
  rcases this with e | e | e | e | e | e | e | e | e <;> (rw [e]; rfl)⟩, by rfl⟩
theorem safe_value {x : Str} (h : SafeStr x) : SafeIn valueSet x := ⟨fun i hi seen => ⟨(seen.add 9).add 0, by
  have := h i hi
  simp only [List.mem_cons, List.not_mem_nil, or_false] at this
  rcases this with e | e | e | e | e | e | e | e | e <;> (rw [e]; rfl)⟩, by rfl⟩

/-! ## contracts with named arguments -/
def ConK (w : World) (f : Value) (vs : List Value) (kw : List (Str × Value)) (nd nu : Nat) (news : List (Addr × Obj)) (Post : List (Addr × Obj) → Value → Prop) : Prop :=
  ∀ (p : Program) (loose : List Str) (mean : ExcName → Option Value) (mg mb : Str → Option Value)
    (dp un : Nat) (gd : Option (List Code)) (cn : Str) (cs : Scope) (a : Addr) (ccd : Value) (cl : List (Str × Addr)) (outer : List Env) (A₀ : Around) (base h₀ : Heap) (L : Addr) (m : Str → Option Value) (s : Shared) (Q E : Value → Shared → Prop),
    Below A₀ base outer h₀ → Fr h₀ L s.heap m → (KX w.params).In h₀ → News h₀ L s.heap news → Top p loose mean mg mb h₀ → cs.kind = .function →
    dp + nd < recursionLimit → un + 8 * nu < cLine →
    (∀ r h' tk' news', Fr h₀ L h' m → News h₀ L h' news' → Post news' r → Q r { s with heap := h', toks := tk' }) →
    codeAny (model PySem.Challenge.rw_pg0279_01.row.prog w) (ktrTop dp un gd cn cs L a ccd cl outer) (.call f ⟨vs, kw⟩) (fun r s' => match r with | .ok (.ret v) => Q v s' | .ok _ => False | .error e => E e s') s

theorem ConK.use {w : World} {f : Value} {vs : List Value} {kw : List (Str × Value)} {nd nu : Nat} {news : List (Addr × Obj)} {Post : List (Addr × Obj) → Value → Prop} (C : ConK w f vs kw nd nu news Post)
    {p : Program} {loose : List Str} {mean : ExcName → Option Value} {mg mb : Str → Option Value}
    {dp un : Nat} {gd : Option (List Code)} {cn : Str} {cs : Scope} {a : Addr} {ccd : Value} {cl : List (Str × Addr)} {outer : List Env} {A₀ : Around} {base h₀ : Heap} {L : Addr} {m : Str → Option Value} {s : Shared} {Q E : Value → Shared → Prop}
    (B : Below A₀ base outer h₀) (F : Fr h₀ L s.heap m) (X : (KX w.params).In h₀) (N : News h₀ L s.heap news) (T : Top p loose mean mg mb h₀) (hk : cs.kind = .function)
    (h1 : dp + nd < recursionLimit) (h2 : un + 8 * nu < cLine)
    (ret : ∀ r h' tk' news', Fr h₀ L h' m → News h₀ L h' news' → Post news' r → Q r { s with heap := h', toks := tk' }) :
    wpAny (model PySem.Challenge.rw_pg0279_01.row.prog w) (ktrTop dp un gd cn cs L a ccd cl outer) (call f vs kw) Q E s :=
  wpAny_call (C p loose mean mg mb dp un gd cn cs a ccd cl outer A₀ base h₀ L m s Q E B F X N T hk h1 h2 ret)

local macro_rules | `(tactic| walk_at "getMethod ref") => `(tactic| ((with_reducible show wpAny _ _ (getMethod (Value.ref _) (Str.ofString "search") _) _ _ _); refine Stop.mk ?_))
set_option maxRecDepth 100000 in
set_option maxHeartbeats 0 in
theorem cst_con (w : World) (news : List (Addr × Obj)) (hx : Addr) (v : Str) (tv : Tok) (b : Bool) (hs : SafeStr v) :
   ConK w (.ref 132) [.ref hx, .str v tv] [("name", .bool b)] 1 1 news (fun news' r => news' = news ∧ r = .str v tv) := by
  unfold ConK
  k_fill
  intro p loose mean mg mb dp un gd cn csc a ccd cl outer A₀ base h₀ L m s Q E hB hF hX hN hT hck hdp hun hret
  (refine' code_def (binds := [("self", .ref hx), ("value", .str v tv), ("name", .bool b)]) ?k1 ?k2 ?k3 ?k4 ?k5 ?kA ?kF ?kK ?k6 ?k7 ?k8 ?k9 ?kB ?_ ?c2 ?c3 ?c4 ?c5; (case kA => exact rfl); (case kF => exact rfl); (case kK => assumption); (case k1 => k_asm); (case k2 => k_asm); (case k3 => k_asm); (case k4 => k_asm); (case k5 => k_asm); (case k6 => k_is); (case k7 => k_is); (case k8 => ktr_room); (case k9 => (refine' kp_binds ?kx ?ke; (case kx => k_in); (case ke => exact fun _ => rfl))); (case c5 => decide); (case kB => exact locs rfl); (case c2 => exact rfl); (case c3 => exact rfl); (case c4 => exact rfl); k_whole; intro g' L' h' FG' F' N' B' X' T'; (try dsimp only); (try k_lift B'); (try k_fold))
  k_steps
  · refine Stop.out ?_
    rename Fr g' L' _ _ => F9
    have h97 := F9.keep _ _ (X' 97 _ (by k_is))
    have h96 := F9.keep _ _ (X' 96 _ (by k_is))
    refine re_method h97 rfl rfl ?_
    k_steps
    refine re_search_none h97 rfl rfl rfl rfl rfl h96 rfl (code := nameSet) (by simp [Builtin.Re.reRawOf]) (safe_name hs) ?_
    k_steps
    exact hret _ _ _ _ (by assumption) (by assumption) ⟨rfl, rfl⟩
  · refine Stop.out ?_
    rename Fr g' L' _ _ => F9
    have h97 := F9.keep _ _ (X' 102 _ (by k_is))
    have h96 := F9.keep _ _ (X' 101 _ (by k_is))
    refine re_method h97 rfl rfl ?_
    k_steps
    refine re_search_none h97 rfl rfl rfl rfl rfl h96 rfl (code := valueSet) (by simp [Builtin.Re.reRawOf]) (safe_value hs) ?_
    k_steps
    exact hret _ _ _ _ (by assumption) (by assumption) ⟨rfl, rfl⟩
end PC7_01
section PC8_01
theorem still_C8_01 : True := by
  w_top off
  trivial
local macro_rules | `(tactic| walk_at "idle 0") => `(tactic| fail)
local macro_rules | `(tactic| walk_at "idle 1") => `(tactic| fail)
open PySem.Spec
theorem News.tl {h₀ h : Heap} {L : Addr} {p : Addr × Obj} {l : List (Addr × Obj)} (N : News h₀ L h (p :: l)) : News h₀ L h l := fun q hq => N q (.tail _ hq)
abbrev tupO (a b : Value) : Obj := { cls := .type "tuple", data := .seq #[a, b] }
/-! ## Headers.add_header -/
def AddPost (hx hl : Addr) (r1 r2 : Addr × Obj) (rest : List (Addr × Obj)) (vs : List Value) (k : Nat) (x v : Str) (tx : Tok) (dx : Addr) (news' : List (Addr × Obj)) (r : Value) : Prop :=
  ∃ T t', news' = (hl, listOf (vs ++ [Value.ref T]).toArray (k + 1)) :: r1 :: r2 :: (T, tupO (.str x tx) (.str v t')) :: rest ∧ r = Value.none ∧ AllLt T rest ∧ @LT.lt Nat _ hl T ∧ @LT.lt Nat _ hx T ∧ @LT.lt Nat _ dx T
theorem add_build {hx dx hl T a b : Addr} {q1 q2 : Addr × Obj} {r1 r2 : Addr × Obj} {rest : List (Addr × Obj)} {vs : List Value} {k : Nat} {x v : Str} {tx t' : Tok} {h₀ h : Heap} {L : Addr}
    (N : News h₀ L h ((T, tupO (.str x tx) (.str (Txt.join "; " [v]) t')) :: q1 :: q2 :: (hl, listOf (vs.toArray.push (.ref T)) (k + 1)) :: r1 :: r2 :: rest))
    (l : @LT.lt Nat _ a T ∧ @LT.lt Nat _ b T ∧ @LT.lt Nat _ hl T ∧ @LT.lt Nat _ hx T ∧ @LT.lt Nat _ dx T ∧ AllLt T rest) : ∃ news', News h₀ L h news' ∧ AddPost hx hl r1 r2 rest vs k x v tx dx news' .none := by
  simp only [List.push_toArray] at N
  exact ⟨_, News.sub (new := (hl, listOf (vs ++ [Value.ref T]).toArray (k + 1)) :: r1 :: r2 :: (T, tupO (.str x tx) (.str v t')) :: rest) N (by k_allIn), T, t', rfl, rfl, l.2.2.2.2.2, l.2.2.1, l.2.2.2.1, l.2.2.2.2.1⟩
local macro_rules | `(tactic| walk_at "call ref") => `(tactic| (refine Stop.mk ?_))
set_option maxRecDepth 100000 in
set_option maxHeartbeats 0 in
theorem add_con (w : World) (rest : List (Addr × Obj)) (hx dx hl : Addr) (tk : Tok) (vs : List Value) (k : Nat) (x v : Str) (tx tv : Tok) (hs : SafeStr x) (hsv : SafeStr v) (hn1 : @Ne Nat hl hx) (hn2 : @Ne Nat hl dx) (hoff : OwnOff rest [hl]) (hlen : vs.length ≤ 1000) (hvl : v.length ≤ 1000) :
   Con w (.ref 230) [.ref hx, .str x tx, .str v tv] 2 2 ((hl, listOf vs.toArray k) :: (hx, instObj 233 dx) :: (dx, dictOf [⟨PyData.keyHash w.params "_headers", .str "_headers" tk, .ref hl⟩] 1) :: rest)
     (AddPost hx hl (hx, instObj 233 dx) (dx, dictOf [⟨PyData.keyHash w.params "_headers", .str "_headers" tk, .ref hl⟩] 1) rest vs k x v tx dx) := by
  unfold Con
  k_fill
  intro p loose mean mg mb dp un gd cn csc a ccd cl outer A₀ base h₀ L m s Q E hB hF hX hN hT hck hdp hun hret
  (refine' kp_more (front := [("self", .ref hx), ("_name", .str x tx), ("_value", .str v tv)]) ?k1 ?k2 ?k3 ?k4 ?k5 ?kA ?kF ?kK ?k6 ?k7 ?k8 ?kX ?kM ?kN ?kD ?kR ?kP ?kT ?kB ?_ ?c2 ?c3 ?c4 ?c5; (case kA => exact rfl); (case kF => exact rfl); (case kK => assumption); (case k1 => k_asm); (case k2 => k_asm); (case k3 => k_asm); (case k4 => k_asm); (case k5 => k_asm); (case k6 => k_is); (case k7 => k_is); (case k8 => ktr_room); (case kX => kp_lit); (case kM => exact rfl); (case kN => exact rfl); (case kD => kp_flats); (case kR => exact rfl); (case kP => exact rfl); (case kT => exact fun _ => rfl); (case kB => exact fun _ => locs rfl); (case c5 => decide); (case c2 => exact rfl); (case c3 => exact rfl); (case c4 => exact rfl); k_whole; intro D' o' g' L' h' tk' l1 lo' hs' fs' FG' F' N' B' X' T'; (try k_lt l1); (try dsimp only); (try k_lift B'); (try k_fold))
  k_steps
  refine Stop.out ?_
  rename Fr g' L' _ _ => F9
  rename News g' L' _ _ => N9
  k_dflt refine ConK.use (cst_con w _ hx v tv false hsv) B' F9 X' N9 T' rfl (by ktr_room) (by ktr_units) ?_
  rintro r h' tk' news' F' N' hp90
  try k_fold
  obtain ⟨rfl, rfl⟩ := hp90
  clear F9 N9
  k_steps
  refine Stop.out ?_
  rename Fr g' L' _ _ => F9
  rename News g' L' _ _ => N9
  have N9 := News.tl N9
  k_dflt refine ConK.use (cst_con w _ hx x tx true hs) B' F9 X' N9 T' rfl (by ktr_room) (by ktr_units) ?_
  rintro r h' tk' news' F' N' hp90
  try k_fold
  obtain ⟨rfl, rfl⟩ := hp90
  clear F9 N9
  k_steps
  rename News h₀ _ _ _ => N9
  obtain ⟨news', N', P⟩ := add_build N9 (by assumption)
  exact hret _ _ _ news' (by assumption) N' P
end PC8_01
section PC9_01
theorem still_C9_01 : True := by
  w_top off
  trivial
local macro_rules | `(tactic| walk_at "idle 0") => `(tactic| fail)
local macro_rules | `(tactic| walk_at "idle 1") => `(tactic| fail)
local macro_rules | `(tactic| walk_at "idle 2") => `(tactic| fail)
local macro_rules | `(tactic| walk_at "idle 3") => `(tactic| fail)
open PySem.Spec
/-! ## a for over a list of the ledger, any target -/
section
variable {prog : Program} {w : World} {A : Around} {E : Value → Shared → Prop} {s : Shared} {env : Env} {h₀ : Heap} {target : Expr} {body : List Stmt} {Q : Flow → Shared → Prop}
theorem kdt_iter {l : Addr} {vs : List Value} {nn : Nat} {m₀ : Str → Option Value} {news : List (Addr × Obj)} (J : Nat → (Str → Option Value) → List (Addr × Obj) → Prop)
    (hh : A.handled = none) (hl : (l, listOf vs.toArray nn) ∈ news) (F : Fr h₀ env.locals s.heap m₀) (N : News h₀ env.locals s.heap news) (hj : J 0 m₀ news)
    (turn : ∀ i v m₁ news₁ h tk own, vs[i]? = some v → OwnOff own (news₁.map (·.1)) → (l, listOf vs.toArray nn) ∈ news₁ → J i m₁ news₁ → Fr h₀ env.locals h m₁ → News h₀ env.locals h (news₁ ++ own) →
      wpAny (model prog w) A (assign target env v) (fun _ s₃ => wpAny (model prog w) A (execs body env) (InvPostG h₀ env.locals (fun m' nx => (l, listOf vs.toArray nn) ∈ nx ∧ J (i + 1) m' nx) own { s with heap := h, toks := tk } Q) E s₃) E { s with heap := h, toks := tk })
    (done : ∀ m₁ news₁ h tk, J vs.length m₁ news₁ → Fr h₀ env.locals h m₁ → News h₀ env.locals h news₁ → Q .next { s with heap := h, toks := tk }) :
    wpAny (model prog w) A (pyIter (.ref l)) (fun it s₂ => TurnsAt prog w A h₀ env target body Q E it s₂) E s := by
  have hol : s.heap.get? l = some (listOf vs.toArray nn) := (N _ hl).1
  have hls : s.heap.IsList l vs.toArray := ⟨_, hol, rfl, nn, rfl⟩
  have hne : l ≠ s.heap.objs.size := Nat.ne_of_lt (Heap.lt_size hol)
  refine wpAny_pyIter_list hls ?_
  have W := KTurns.ofWalks (target := target) (Walks.list (prog := prog) (w := w) hh s.heap.objs.size l hne vs.toArray) fun i v s Q E st q => letGo_listiter st.1 q
  have hlen : vs.toArray.size = vs.length := by simp
  rw [hlen] at W
  refine ⟨_, _, _, vs.length, _, _, _, m₀, news, (fun i m nx => (l, listOf vs.toArray nn) ∈ nx ∧ J i m nx), rfl, W, ?_, ?_, ?_, ⟨⟨_, Heap.get?_push_size _ rfl, rfl, rfl⟩, hls.at fun o e => Heap.get?_push_of_some _ e⟩, F.push _, (fun p hp => ⟨Heap.get?_push_of_some _ (N p hp).1, (N p hp).2⟩), ⟨hl, hj⟩, ?_, ?_⟩
  · intro hm
    rcases List.mem_cons.mp hm with e | hm
    · exact absurd F.ns.lt (e ▸ Nat.lt_irrefl _)
    · exact (N _ hl).2.1 ((List.mem_singleton.mp hm).symm)
  · intro b hb
    rw [List.mem_singleton.mp hb]
    exact next_is_new F
  · intro p hp hI
    exact absurd (Heap.lt_size (N p hp).1) ((List.mem_singleton.mp hI) ▸ Nat.lt_irrefl _)
  · rintro i v m₁ news₁ hh' tk' own hin hP hp90 hoff hown hget hfp hst F₁ N₁
    try k_fold
    obtain ⟨hl₁, hJ⟩ := hp90
    have hP' : vs[i]? = some v := by simpa using hP
    have hI0 : h₀.get? s.heap.objs.size = none := next_is_new F
    obtain ⟨⟨oI, hoI, _⟩, _⟩ := id hst
    have hIown : (s.heap.objs.size, oI) ∈ own.filter fun p => decide (p.1 = s.heap.objs.size) := List.mem_filter.mpr ⟨hfp _ (List.mem_cons.mpr (.inl rfl)) hI0 _ hoI, by simp⟩
    have hsep : OwnOff (own.filter fun p => decide (p.1 = s.heap.objs.size)) (news₁.map (·.1)) := by
      intro p hp b hb e
      obtain ⟨q, hq, rfl⟩ := List.mem_map.mp hb
      have h1 : p.1 = s.heap.objs.size := by simpa using (List.mem_filter.mp hp).2
      exact hoff q hq (List.mem_singleton.mpr (e ▸ h1))
    have N₂ : News h₀ env.locals hh' (news₁ ++ own.filter fun p => decide (p.1 = s.heap.objs.size)) := fun p hp => N₁ p ((List.mem_append.mp hp).elim (fun h => List.mem_append.mpr (.inr h)) fun h => List.mem_append.mpr (.inl ((List.mem_filter.mp h).1)))
    have hlo : hh'.get? l = some (listOf vs.toArray nn) := (N₁ _ (List.mem_append.mpr (.inr hl₁))).1
    refine wpAny_mono (turn i v m₁ news₁ hh' tk' _ hP' hsep hl₁ hJ F₁ N₂) (fun _ s₃ h₃ => wpAny_mono h₃ (fun f s₂ p => ?_) fun _ _ e => e) fun _ _ e => e
    have fin : InvEndG h₀ env.locals (fun m' nx => (l, listOf vs.toArray nn) ∈ nx ∧ J (i + 1) m' nx) (own.filter fun p => decide (p.1 = s.heap.objs.size)) { s with heap := hh', toks := tk' } s₂ →
        LoopStepU h₀ env.locals [s.heap.objs.size] own (fun m nx => (l, listOf vs.toArray nn) ∈ nx ∧ J (i + 1) m nx) { s with heap := hh', toks := tk' } .next s₂ := by
      rintro ⟨h', tk, m', news', nx, e, F', N', hn, ho, ha, hm⟩
      refine ⟨rfl, h', tk, m', nx, e, F', fun p hp => ?_, fun p hp hq => ?_, hm⟩
      · rcases List.mem_append.mp hp with h | h
        · by_cases hI : p.1 = s.heap.objs.size
          · exact N' p (ho p (List.mem_filter.mpr ⟨h, by simpa using hI⟩))
          · have h1 : p.1 = l := by
              rcases List.mem_cons.mp (hown p h) with h2 | h2
              · exact absurd h2 hI
              · exact List.mem_singleton.mp h2
            have h2 : hh'.get? p.1 = some p.2 := hget p h
            rw [h1, hlo] at h2
            have h3 : p = (l, listOf vs.toArray nn) := Prod.ext h1 (Option.some.inj h2).symm
            rw [h3]
            exact N' _ (hn _ hm.1)
        · exact N' p (hn p h)
      · exact ha _ hIown p.1 (List.mem_map.mpr ⟨p, hp, rfl⟩) (List.mem_singleton.mp hq).symm
    cases f with
    | ret v => exact .ret p
    | brk => exact .brk p
    | next => exact .next (fin p)
    | cont => exact .cont (fin p)
  · rintro h' tk m' news' F' N' _ ⟨_, hJ⟩
    exact done m' news' h' tk hJ F' N'
end
theorem lower_safe {x : Str} (h : SafeStr x) : Txt.lower x = x := by
  have hm : ∀ c ∈ x.cps.toList, c ∈ [32, 34, 92, 60, 62, 111, 110, 101, 100] := by
    intro c hc
    obtain ⟨i, hi, e⟩ := List.getElem_of_mem hc
    have hi' : i < x.cps.size := by simpa using hi
    have := h i hi'
    rwa [Array.getD_eq_getD_getElem?, Array.getElem?_eq_getElem hi', Option.getD_some, show x.cps[i] = c by simpa using e] at this
  rw [PyProof.Rows.lower_ascii fun c hc => ?_]
  · congr 1
    apply Array.toList_inj.mp
    rw [Array.toList_map]
    refine (List.map_congr_left fun c hc => ?_).trans (List.map_id _)
    have := hm c hc
    simp only [List.mem_cons, List.not_mem_nil, or_false] at this
    rcases this with e | e | e | e | e | e | e | e | e <;> (rw [e]; rfl)
  · have := hm c hc
    simp only [List.mem_cons, List.not_mem_nil, or_false] at this
    omega
theorem lower_K {prog : Program} {w : World} {A : Around} {E : Value → Shared → Prop} {s : Shared} {x : Str} {t : Tok} {Q : Value → Shared → Prop} (hs : SafeStr x) (hl : x.length ≤ 1000) (h : ∀ t' k, Q (.str x t') { s with toks := k }) :
    wpAny (model prog w) A (call (.builtin "str.lower") [.str x t]) Q E s :=
  PyProof.Rows.SCL.lower (Nat.le_trans hl (by decide)) fun _ => by rw [lower_safe hs]; exact h _ _
/-! ## Headers.get -/
def TabIs : List (Addr × Obj) → List (Str × Str) → Prop
  | [], [] => True
  | p :: r, q :: l => (∃ t1 t2, p.2 = tupO (.str q.1 t1) (.str q.2 t2)) ∧ TabIs r l
  | _, _ => False
theorem TabIs.len : ∀ {tups : List (Addr × Obj)} {l : List (Str × Str)}, TabIs tups l → tups.length = l.length
  | [], [], _ => rfl
  | _ :: _, _ :: _, h => congrArg (· + 1) h.2.len
theorem TabIs.at {p : Addr × Obj} : ∀ {tups : List (Addr × Obj)} {l : List (Str × Str)} {i : Nat}, TabIs tups l → tups[i]? = some p → ∃ q t1 t2, l[i]? = some q ∧ p.2 = tupO (.str q.1 t1) (.str q.2 t2) := by
  intro tups
  induction tups with
  | nil => intro l i _ e; simp at e
  | cons a r ih =>
    intro l i h e
    cases l with
    | nil => exact h.elim
    | cons q l =>
      cases i with
      | zero =>
        obtain ⟨t1, t2, h1⟩ := h.1
        rw [List.getElem?_cons_zero] at e
        exact ⟨q, t1, t2, rfl, (Option.some.inj e) ▸ h1⟩
      | succ i =>
        rw [List.getElem?_cons_succ] at e
        obtain ⟨q', t1, t2, h1, h2⟩ := ih h.2 e
        exact ⟨q', t1, t2, by rw [List.getElem?_cons_succ]; exact h1, h2⟩
theorem any_take_succ {α : Type} {l : List α} {i : Nat} {q : α} {f : α → Bool} (h : l[i]? = some q) : (l.take (i + 1)).any f = ((l.take i).any f || f q) := by
  rw [List.take_add_one, h, List.any_append]; simp
abbrev refsOf (tups : List (Addr × Obj)) : List Value := tups.map fun p => Value.ref p.1
local macro_rules | `(tactic| walk_at "call ref") => `(tactic| (refine Stop.mk ?_))
local macro_rules | `(tactic| walk_at "exec For") => `(tactic| ((fail_if_success (have : Go 1 := by assumption)); refine Stop.mk ?_))
local macro_rules | `(tactic| walk_at "call builtin:str.lower") => `(tactic| (k_dflt (refine lower_K (by assumption) (by assumption) ?_); intro _ _))
local macro_rules | `(tactic| walk_at "pyIter ref") => `(tactic| (refine Stop.mk ?_))
set_option maxRecDepth 100000 in
set_option maxHeartbeats 0 in
theorem get_con (w : World) (rest tups : List (Addr × Obj)) (l : List (Str × Str)) (hx dx hl : Addr) (tk1 : Tok) (k : Nat) (x : Str) (tx : Tok) (hs : SafeStr x) (ht : TabIs tups l) (hin : ∀ p ∈ tups, p ∈ rest) (hxl : x.length ≤ 1000) (hsl : ∀ p ∈ l, SafeStr p.1 ∧ p.1.length ≤ 1000) (hlen : l.length ≤ 1000) :
   Con w (.ref 180) [.ref hx, .str x tx] 2 2 ((hl, listOf (refsOf tups).toArray k) :: (hx, instObj 233 dx) :: (dx, dictOf [⟨PyData.keyHash w.params "_headers", .str "_headers" tk1, .ref hl⟩] 1) :: rest)
     (fun news' r => news' = (hl, listOf (refsOf tups).toArray k) :: (hx, instObj 233 dx) :: (dx, dictOf [⟨PyData.keyHash w.params "_headers", .str "_headers" tk1, .ref hl⟩] 1) :: rest ∧ (l.any (fun p => p.1 == x) = true → ∃ s t, r = .str s t) ∧ (l.any (fun p => p.1 == x) = false → r = .none)) := by
  unfold Con
  k_fill
  intro p loose mean mg mb dp un gd cn csc a ccd cl outer A₀ base h₀ L m s Q E hB hF hX hN hT hck hdp hun hret
  (refine' code_def (binds := [("self", .ref hx), ("name", .str x tx), ("default", .none)]) ?k1 ?k2 ?k3 ?k4 ?k5 ?kA ?kF ?kK ?k6 ?k7 ?k8 ?k9 ?kB ?_ ?c2 ?c3 ?c4 ?c5; (case kA => exact rfl); (case kF => exact rfl); (case kK => assumption); (case k1 => k_asm); (case k2 => k_asm); (case k3 => k_asm); (case k4 => k_asm); (case k5 => k_asm); (case k6 => k_is); (case k7 => k_is); (case k8 => ktr_room); (case k9 => first | exact BindsTo.of_eq rfl | exact binds_K (by k_in) rfl (by k_is) rfl rfl rfl); (case c5 => decide); (case kB => exact locs rfl); (case c2 => exact rfl); (case c3 => exact rfl); (case c4 => exact rfl); k_whole; intro g' L' h' FG' F' N' B' X' T'; (try dsimp only); (try k_lift B'); (try k_fold))
  k_steps
  refine Stop.out ?_
  rename Fr g' L' _ _ => F9
  rename News g' L' _ _ => N9
  k_dflt refine ConK.use (cst_con w _ hx x _ true hs) B' F9 X' N9 T' rfl (by ktr_room) (by ktr_units) ?_
  rintro r h' tk' news' F' N' hp90
  try k_fold
  obtain ⟨rfl, rfl⟩ := hp90
  clear F9 N9
  k_steps
  refine Stop.out ?_
  rename Fr g' L' _ _ => F9
  rename News g' L' _ _ => N9
  with_unfolding_all refine' For_turns F9 ?_ ?k1 ?k2
  case k1 => exact fun _ => rfl
  case k2 => passes_own
  k_steps
  refine Stop.out ?_
  refine kdt_iter (l := hl) (vs := refsOf tups) (nn := k) (news := (hl, listOf (refsOf tups).toArray k) :: (hx, instObj 233 dx) :: (dx, dictOf [⟨PyData.keyHash w.params "_headers", .str "_headers" tk1, .ref hl⟩] 1) :: rest) (fun i m nx => (∃ t, m "name" = some (.str x t)) ∧ m "default" = some .none ∧ (l.take i).any (fun p => p.1 == x) = false ∧ nx = (hl, listOf (refsOf tups).toArray k) :: (hx, instObj 233 dx) :: (dx, dictOf [⟨PyData.keyHash w.params "_headers", .str "_headers" tk1, .ref hl⟩] 1) :: rest) rfl (List.Mem.head _) F9 N9 ⟨⟨_, rfl⟩, rfl, rfl, rfl⟩ ?_ ?_
  · rintro i v m₁ news₁ h tk own hv hoff _ hp90 F₁ N₁
    try k_fold
    obtain ⟨⟨t, hm1⟩, hm2, ha, rfl⟩ := hp90
    obtain ⟨⟨T, oT⟩, hT1, rfl⟩ : ∃ p, tups[i]? = some p ∧ v = .ref p.1 := by
      simp only [refsOf, List.getElem?_map, Option.map_eq_some_iff] at hv
      obtain ⟨p, h1, h2⟩ := hv
      exact ⟨p, h1, h2.symm⟩
    obtain ⟨⟨kx, vx⟩, t1, t2, hl1, hT2⟩ := ht.at hT1
    dsimp only at hT2
    subst hT2
    have hmem : (T, tupO (.str kx t1) (.str vx t2)) ∈ tups := List.mem_of_getElem? hT1
    obtain ⟨hsk, hlk⟩ := hsl _ (List.mem_of_getElem? hl1)
    have F2 := Fr.al [("name", .str x t), ("default", .none)] F₁ (al_cons hm1 (al_cons hm2 al_nil))
    have N2 := News.sub (new := (T, tupO (.str kx t1) (.str vx t2)) :: ((hl, listOf (refsOf tups).toArray k) :: (hx, instObj 233 dx) :: (dx, dictOf [⟨PyData.keyHash w.params "_headers", .str "_headers" tk1, .ref hl⟩] 1) :: rest) ++ own) N₁ (fun p hp => by
      rcases List.mem_cons.mp hp with rfl | hp
      · exact List.mem_append_left _ (.tail _ (.tail _ (.tail _ (hin _ hmem))))
      · exact hp)
    have ha' := any_take_succ (f := fun p : Str × Str => p.1 == x) hl1
    rw [ha, Bool.false_or] at ha'
    clear F₁ F9 N9 N₁
    dsimp only at hsk hlk ha'
    k_steps
    · rename (kx == x) = true => hq
      have hany : l.any (fun p => p.1 == x) = true := List.any_eq_true.mpr ⟨_, List.mem_of_getElem? hl1, hq⟩
      refine hret _ _ _ _ (by assumption) (News.sub (by assumption) (fun p hp => .tail _ (List.mem_append_left _ hp))) ⟨rfl, fun _ => ⟨_, _, rfl⟩, fun e => (by rw [hany] at e; cases e)⟩
    · rename (kx == x) = false => hq
      exact InvEndG.intro (by assumption) (by assumption) ⟨List.Mem.head _, ⟨_, rfl⟩, rfl, by rw [ha', hq], rfl⟩ hoff (fun p hp => .tail _ (List.mem_append_left _ hp)) (fun p hp => .tail _ (List.mem_append_right _ hp))
  · rintro m₁ news₁ h tk hp90 F₁ N₁
    try k_fold
    obtain ⟨⟨t, hm1⟩, hm2, ha, rfl⟩ := hp90
    have F2 := Fr.al [("name", .str x t), ("default", .none)] F₁ (al_cons hm1 (al_cons hm2 al_nil))
    clear F₁ F9 N9
    rw [List.take_of_length_le (by rw [show (refsOf tups).length = tups.length from List.length_map .., ht.len]; exact Nat.le_refl _)] at ha
    dsimp only
    k_steps
    exact hret _ _ _ _ (by assumption) (by assumption) ⟨rfl, fun e => (by rw [ha] at e; cases e), fun _ => rfl⟩
end PC9_01
section PC10_01
theorem still_C10_01 : True := by
  w_top off
  trivial
open PySem.Spec PySem.Calls PyProof.Rows PyProof.Rows.LCg
/-! ## a comprehension with a pair, one test, over a list of the ledger of any length -/
section
variable {prog : Program} {w : World} {A : Around} {E : Value → Shared → Prop} {s : Shared} {h₀ : Heap} {L : Addr} {m : Str → Option Value} {env : Env}
def QEnd (h₀ : Heap) (L : Addr) (m : Str → Option Value) (s₁ : Shared) (all : List (Addr × Obj)) (j : Prop) (s₄ : Shared) : Prop := ∃ h' tk, s₄ = { s₁ with heap := h', toks := tk } ∧ Fr h₀ L h' m ∧ News h₀ L h' all ∧ j
theorem QEnd.intro {h₀ h' : Heap} {L : Addr} {m : Str → Option Value} {s₁ : Shared} {all : List (Addr × Obj)} {j : Prop} {tk : Nat} (F : Fr h₀ L h' m) (N : News h₀ L h' all) (hj : j) : QEnd h₀ L m s₁ all j { s₁ with heap := h', toks := tk } := ⟨h', tk, rfl, F, N, hj⟩
end
end PC10_01
section PC11_01
theorem still_C11_01 : True := by
  w_top off
  trivial
open PySem.Spec
/-! ## Headers.__init__ -/
local macro_rules | `(tactic| walk_at "exec For") => `(tactic| ((fail_if_success (have : Go 1 := by assumption)); refine Stop.mk ?_))
local macro_rules | `(tactic| walk_at "pyIter ref") => `(tactic| (refine Stop.mk ?_))
def InitPost (hx dx : Addr) (w : World) (rest news' : List (Addr × Obj)) (r : Value) : Prop :=
  ∃ hl tk, news' = (hl, listOf #[] 0) :: (hx, instObj 233 dx) :: (dx, dictOf [⟨PyData.keyHash w.params "_headers", .str "_headers" tk, .ref hl⟩] 1) :: rest ∧ r = Value.none ∧ AllLt hl rest ∧ @LT.lt Nat _ hx hl ∧ @LT.lt Nat _ dx hl
theorem init_build {hx dx hl : Addr} {w : World} {rest : List (Addr × Obj)} {tk : Tok} {h₀ h : Heap} {L : Addr}
    (N : News h₀ L h ((hl, listOf #[] 0) :: (hx, instObj 233 dx) :: (dx, dictOf [⟨PyData.keyHash w.params "_headers", .str "_headers" tk, .ref hl⟩] 1) :: rest)) (l : @LT.lt Nat _ hx hl ∧ @LT.lt Nat _ dx hl ∧ AllLt hl rest) :
    ∃ news', News h₀ L h news' ∧ InitPost hx dx w rest news' .none := ⟨_, N, hl, tk, rfl, rfl, l.2.2, l.1, l.2.1⟩
set_option maxRecDepth 100000 in
set_option maxHeartbeats 0 in
theorem init_con (w : World) (rest : List (Addr × Obj)) (hx dx : Addr) (h1 : OwnOff rest [dx]) (h2 : @Ne Nat dx hx) :
   Con w (.ref 125) [.ref hx] 1 1 ((hx, instObj 233 dx) :: (dx, dictOf [] 0) :: rest) (InitPost hx dx w rest) := by
  unfold Con
  k_fill
  intro p loose mean mg mb dp un gd cn csc a ccd cl outer A₀ base h₀ L m s Q E hB hF hX hN hT hck hdp hun hret
  (refine' code_def (binds := [("self", .ref hx), ("headers", .none)]) ?k1 ?k2 ?k3 ?k4 ?k5 ?kA ?kF ?kK ?k6 ?k7 ?k8 ?k9 ?kB ?_ ?c2 ?c3 ?c4 ?c5; (case kA => exact rfl); (case kF => exact rfl); (case kK => assumption); (case k1 => k_asm); (case k2 => k_asm); (case k3 => k_asm); (case k4 => k_asm); (case k5 => k_asm); (case k6 => k_is); (case k7 => k_is); (case k8 => ktr_room); (case k9 => first | exact BindsTo.of_eq rfl | exact binds_K (by k_in) rfl (by k_is) rfl rfl rfl); (case c5 => decide); (case kB => exact locs rfl); (case c2 => exact rfl); (case c3 => exact rfl); (case c4 => exact rfl); k_whole; intro g' L' h' FG' F' N' B' X' T'; (try dsimp only); (try k_lift B'); (try k_fold))
  k_steps
  refine Stop.out ?_
  rename Fr g' L' _ _ => F9
  rename News g' L' _ _ => N9
  with_unfolding_all refine' For_turns F9 ?_ ?k1 ?k2
  case k1 => exact fun _ => rfl
  case k2 => passes_own
  k_steps
  refine Stop.out ?_
  refine kdt_iter (vs := []) (nn := 0) (fun i m nx => m = _ ∧ nx = _) rfl (List.Mem.head _) F9 N9 ⟨rfl, rfl⟩ ?_ ?_
  · rintro i v m₁ news₁ h tk own hv
    simp at hv
  · rintro m₁ news₁ h tk hp90 F₁ N₁
    try k_fold
    obtain ⟨rfl, rfl⟩ := hp90
    clear F9 N9
    dsimp only
    k_steps
    rename News h₀ _ _ _ => N9
    obtain ⟨news', N', P⟩ := init_build N9 (by assumption)
    exact hret _ _ _ news' (by assumption) N' P
theorem Con.via {w : World} {f : Value} {vs : List Value} {nd nu : Nat} {L1 L2 : List (Addr × Obj)} {Post Post' : List (Addr × Obj) → Value → Prop} (C : Con w f vs nd nu L1 Post) (h : ∀ p ∈ L1, p ∈ L2)
    (hp : ∀ n r, Post n r → ∃ n', (∀ p ∈ n', p ∈ n) ∧ Post' n' r) : Con w f vs nd nu L2 Post' := by
  intro p loose mean mg mb dp un gd cn cs a ccd cl outer A₀ base h₀ L m s Q E hB hF hX hN hT hck hdp hun hret
  refine C p loose mean mg mb dp un gd cn cs a ccd cl outer A₀ base h₀ L m s Q E hB hF hX (News.sub hN h) hT hck hdp hun fun r h' tk' news' F N P => ?_
  obtain ⟨n', hs, P'⟩ := hp news' r P
  exact hret r h' tk' n' F (News.sub N hs) P'
theorem tok0_via (w : World) (L2 : List (Addr × Obj)) (x dx pb xs dxs pb2 la f c' cell : Addr) (fc : Value) (fod : Option Addr) (fd : FuncData) (fsl : Array (Option Value)) (oc co : Obj) (t u : Nat → Tok) (ln : Int) (k n : Nat) (hNS : NextSpec w f la [(f, (⟨fc, fod, .func fd, fsl⟩ : Obj)), (c', oc), (cell, co)])
    (hb : ∀ p ∈ (la, listOf #[] k) :: (f, (⟨fc, fod, .func fd, fsl⟩ : Obj)) :: (c', oc) :: (cell, co) :: (dx, lexO w.params t (ln) (.ref xs) (pb)) :: (x, instObj 83 dx) :: (dxs, strO w.params u (pb2) (f)) :: (xs, instObj 83 dxs) :: (pb, listOf #[] n) :: [], p ∈ L2) :
    Con w (.ref 73) [.ref x] 4 4 L2 (fun news' r => news' = L2 ∧ ∃ tt, r = .str (Str.ofString "") tt) := by
  refine Con.via (tok0_con w L2 x dx pb xs dxs pb2 la f c' cell fc fod fd fsl oc co t u ln k n hNS) (fun p hp => ?_) ?_
  · rcases List.mem_append.mp (show p ∈ ((la, listOf #[] k) :: (f, (⟨fc, fod, .func fd, fsl⟩ : Obj)) :: (c', oc) :: (cell, co) :: (dx, lexO w.params t (ln) (.ref xs) (pb)) :: (x, instObj 83 dx) :: (dxs, strO w.params u (pb2) (f)) :: (xs, instObj 83 dxs) :: (pb, listOf #[] n) :: []) ++ L2 from hp) with hp | hp
    · exact hb p hp
    · exact hp
  · rintro n' r ⟨rfl, tt⟩
    exact ⟨L2, fun p hp => List.mem_append_right ((la, listOf #[] k) :: (f, (⟨fc, fod, .func fd, fsl⟩ : Obj)) :: (c', oc) :: (cell, co) :: (dx, lexO w.params t (ln) (.ref xs) (pb)) :: (x, instObj 83 dx) :: (dxs, strO w.params u (pb2) (f)) :: (xs, instObj 83 dxs) :: (pb, listOf #[] n) :: []) hp, rfl, tt⟩
end PC11_01
section PC13_01
theorem still_C13_01 : True := by
  w_top off
  trivial
open PySem.Spec PyProof.Rows
/-! ## a for over a range -/
section
variable {prog : Program} {w : World} {A : Around} {E : Value → Shared → Prop} {s : Shared} {env : Env} {h₀ : Heap} {x : Str} {body : List Stmt} {Q : Flow → Shared → Prop}
theorem rng_iter {r : Addr} {a b : Int} {t₀ u₀ v₀ : Tok} (n : Nat) {m₀ : Str → Option Value} {news : List (Addr × Obj)} (J : Nat → (Str → Option Value) → List (Addr × Obj) → Prop)
    (hh : A.handled = none) (hr : IsRange s.heap r a b 1 t₀ u₀ v₀) (hsmall : Builtin.Range.small a b 1 = true) (hsz : Builtin.Range.rangeSize a b 1 = (n : Int)) (F : Fr h₀ env.locals s.heap m₀) (N : News h₀ env.locals s.heap news) (hj : J 0 m₀ news)
    (turn : ∀ i t m₁ news₁ h tk own, i < n → OwnOff own (news₁.map (·.1)) → J i m₁ news₁ → Fr h₀ env.locals h (fun y => if y = x then some (.int (a + (i : Int)) t) else m₁ y) → News h₀ env.locals h (news₁ ++ own) →
      wpAny (model prog w) A (execs body env) (InvPostG h₀ env.locals (J (i + 1)) own { s with heap := h, toks := tk } Q) E { s with heap := h, toks := tk })
    (done : ∀ m₁ news₁ h tk, J n m₁ news₁ → Fr h₀ env.locals h m₁ → News h₀ env.locals h news₁ → Q .next { s with heap := h, toks := tk }) :
    wpAny (model prog w) A (pyIter (.ref r)) (fun it s₂ => LoopAtV prog w A h₀ env x body Q E it s₂) E s := by
  refine wpAny_pyIter_range hr hsmall ?_
  have W : Walks prog w A s.heap.objs.size [s.heap.objs.size] [s.heap.objs.size] n (fun i v => i < n ∧ ∃ t, v = .int (a + i * 1) t)
      (fun i h => IsRangeIter h s.heap.objs.size (a + (i : Nat) * 1) ((n : Int) - (i : Nat)) 1) := (Walks.range hh _ a 1 n).bound
  refine kdr_loop J W (fun _ h => h) (fun _ h => h) ?_ ?_ ?_ ?_ (by show IsRangeIter _ _ _ _ _; rw [hsz]; simpa using Heap.get?_push_size _ rfl) (F.push _) (fun p hp => ⟨Heap.get?_push_of_some _ (N p hp).1, (N p hp).2⟩) hj ?_ ?_
  · intro i h hi b hb
    rw [List.mem_singleton.mp hb]
    exact ⟨_, hi⟩
  · intro hm
    exact absurd F.ns.lt ((List.mem_singleton.mp hm) ▸ Nat.lt_irrefl _)
  · intro b hb
    rw [List.mem_singleton.mp hb]
    exact next_is_new F
  · intro p hp hI
    exact absurd (Heap.lt_size (N p hp).1) ((List.mem_singleton.mp hI) ▸ Nat.lt_irrefl _)
  · rintro i v m₁ nx h tk own hi ⟨_, t, rfl⟩ hoff hJ F₁ N₁
    rw [Int.mul_one] at F₁
    exact turn i t m₁ nx h tk own hi hoff hJ F₁ N₁
  · exact done
theorem rng0_iter {r : Addr} {t₀ u₀ v₀ : Tok} {b : Int} (n : Nat) {m₀ : Str → Option Value} {news : List (Addr × Obj)} (J : Nat → (Str → Option Value) → List (Addr × Obj) → Prop)
    (hh : A.handled = none) (hr : IsRange s.heap r 0 b 1 t₀ u₀ v₀) (hb : b = (n : Int)) (hn : n ≤ 1000000) (F : Fr h₀ env.locals s.heap m₀) (N : News h₀ env.locals s.heap news) (hj : J 0 m₀ news)
    (turn : ∀ i t m₁ news₁ h tk own, i < n → OwnOff own (news₁.map (·.1)) → J i m₁ news₁ → Fr h₀ env.locals h (fun y => if y = x then some (.int (i : Int) t) else m₁ y) → News h₀ env.locals h (news₁ ++ own) →
      wpAny (model prog w) A (execs body env) (InvPostG h₀ env.locals (J (i + 1)) own { s with heap := h, toks := tk } Q) E { s with heap := h, toks := tk })
    (done : ∀ m₁ news₁ h tk, J n m₁ news₁ → Fr h₀ env.locals h m₁ → News h₀ env.locals h news₁ → Q .next { s with heap := h, toks := tk }) :
    wpAny (model prog w) A (pyIter (.ref r)) (fun it s₂ => LoopAtV prog w A h₀ env x body Q E it s₂) E s := by
  subst hb
  refine rng_iter n J hh hr (small_one (by decide) (by decide) (by omega) (by omega)) (by rw [rangeSize_nat]; omega) F N hj ?_ done
  intro i t m₁ news₁ h tk own hi ho hJ F₁ N₁
  refine turn i t m₁ news₁ h tk own hi ho hJ ?_ N₁
  rw [Int.zero_add] at F₁
  exact F₁
/-! ## the truth of a list -/
theorem truthy_led {L : Addr} {D : Addr} {vs : List Value} {n : Nat} {news : List (Addr × Obj)} {Q : Bool → Shared → Prop} (N : News h₀ L s.heap news) (hm : (D, listOf vs.toArray n) ∈ news) (hz : vs.length ≤ 1000000) (b : Bool) (hb : (!vs.isEmpty) = b) (h : Q b { s with toks := s.toks + 1 + 1 }) :
    wpAny (model prog w) A (truthy (.ref D)) Q E s := by
  have hl : s.heap.IsList D vs.toArray := ⟨_, (N _ hm).1, rfl, n, rfl⟩
  refine wpAny_truthy_list hl (by rw [List.size_toArray]; omega) ?_
  rw [List.isEmpty_toArray, hb]
  exact h
theorem cut_val {M : Model} {A : Around} {t : Sem Value} {E : Value → Shared → Prop} {Q : Value → Shared → Prop} {s : Shared} (P : Value → Shared → Prop) (h1 : wpAny M A t (fun v s' => Hide (P v s')) E s) (h2 : ∀ v s', P v s' → Q v s') : wpAny M A t Q E s :=
  wpAny_mono h1 (fun v s' h => h2 v s' h) fun _ _ e => e
theorem cut_next {M : Model} {A : Around} {t : Sem Flow} {E : Value → Shared → Prop} {Q : Flow → Shared → Prop} {s : Shared} (P : Shared → Prop) (h1 : wpAny M A t (fun f s' => f = .next ∧ Hide (P s')) E s) (h2 : ∀ s', P s' → Q .next s') : wpAny M A t Q E s :=
  wpAny_mono h1 (fun _ s' h => h.1 ▸ h2 s' h.2) fun _ _ e => e
end
end PC13_01
section PC14_01
theorem still_C14_01 : True := by
  w_top off
  trivial
open PySem.Spec PySem.Calls PyProof.Rows PyProof.Rows.LCg
/-! ## a comprehension, one name, any tests, any source, the ledger may change -/
section
variable {prog : Program} {w : World} {A : Around} {E : Value → Shared → Prop} {s : Shared} {h₀ : Heap} {L : Addr} {m : Str → Option Value} {env : Env}
def NEnd (h₀ : Heap) (L : Addr) (m : Str → Option Value) (s₁ : Shared) (I : Addr) (oI : Obj) (C : Addr) (oC : Obj) (D : Addr) (oD : Obj) (src : List (Addr × Obj)) (J : List (Addr × Obj) → Prop) (s₄ : Shared) : Prop :=
  ∃ h' tk nx, s₄ = { s₁ with heap := h', toks := tk } ∧ Fr h₀ L h' m ∧ News h₀ L h' ((I, oI) :: (C, oC) :: (D, oD) :: nx) ∧ (∀ p ∈ nx, p.1 ≠ I ∧ p.1 ≠ C ∧ p.1 ≠ D) ∧ (∀ p ∈ src, p ∈ nx) ∧ J nx
theorem NEnd.intro {I C D : Addr} {oI oC oD : Obj} {src : List (Addr × Obj)} {J : List (Addr × Obj) → Prop} {s₁ : Shared} {h' : Heap} {tk : Nat} {all nx : List (Addr × Obj)} (F : Fr h₀ L h' m) (N : News h₀ L h' all) (hs : ∀ p ∈ (I, oI) :: (C, oC) :: (D, oD) :: nx, p ∈ all)
    (ho : ∀ p ∈ nx, p.1 ≠ I ∧ p.1 ≠ C ∧ p.1 ≠ D) (hr : ∀ p ∈ src, p ∈ nx) (hj : J nx) : NEnd h₀ L m s₁ I oI C oC D oD src J { s₁ with heap := h', toks := tk } := ⟨h', tk, nx, rfl, F, fun p hp => N p (hs p hp), ho, hr, hj⟩
abbrev testsT (ifs : List PySem.Expr) (env : Env) : Sem Bool := forIn ifs true fun c r => if r = true then do let ok ← isTrue c env (eval c env); pure (ForInStep.yield ok) else pure (ForInStep.yield r)
def TurnN (prog : Program) (w : World) (A : Around) (h₀ : Heap) (L : Addr) (m : Str → Option Value) (env : Env) (ifs : List PySem.Expr) (elt : PySem.Expr) (x : Str) (scope : Scope) (cl : List (Str × Addr)) (s₁ : Shared) (n : Nat) (P : Nat → Value → Prop) (src : List (Addr × Obj)) (J : Nat → List Value → List (Addr × Obj) → Prop) : Prop :=
  ∀ (i : Nat) (v : Value) ys nx I oI C oC D m₂ h tk (E' : Value → Shared → Prop), i < n → P i v → J i ys nx → (∀ p ∈ src, p ∈ nx) → ys.length ≤ i → NsObj oC m₂ → m₂ x = some v → Fr h₀ L h m → News h₀ L h ((I, oI) :: (C, oC) :: (D, lst ys) :: nx) → (∀ p ∈ nx, p.1 ≠ I ∧ p.1 ≠ C ∧ p.1 ≠ D) → ((@Ne Nat I C) ∧ (@Ne Nat I D) ∧ (@Ne Nat C D)) → @LT.lt Nat _ 0 tk →
    wpAny (model prog w) A (testsT ifs (compEnvC scope cl C env)) (fun okb s₃ => if okb = true then
      wpAny (model prog w) A (eval elt (compEnvC scope cl C env)) (fun y s₄ => NEnd h₀ L m s₁ I oI C oC D (lst ys) src (J (i + 1) (ys ++ [y])) s₄) E' s₃
      else NEnd h₀ L m s₁ I oI C oC D (lst ys) src (J (i + 1) ys) s₃) E' { s₁ with heap := h, toks := tk }
theorem TurnN.plain {ifs : List PySem.Expr} {elt : PySem.Expr} {x : Str} {scope : Scope} {cl : List (Str × Addr)} {s₁ : Shared} {n : Nat} {P : Nat → Value → Prop} {src : List (Addr × Obj)} {J : Nat → List Value → List (Addr × Obj) → Prop} (hn : ifs = [])
    (hh : ∀ (i : Nat) (v : Value) ys nx I oI C oC D m₂ h tk (E' : Value → Shared → Prop), i < n → P i v → J i ys nx → (∀ p ∈ src, p ∈ nx) → ys.length ≤ i → NsObj oC m₂ → m₂ x = some v → Fr h₀ L h m → News h₀ L h ((I, oI) :: (C, oC) :: (D, lst ys) :: nx) → (∀ p ∈ nx, p.1 ≠ I ∧ p.1 ≠ C ∧ p.1 ≠ D) → ((@Ne Nat I C) ∧ (@Ne Nat I D) ∧ (@Ne Nat C D)) →
      wpAny (model prog w) A (eval elt (compEnvC scope cl C env)) (fun y s₄ => NEnd h₀ L m s₁ I oI C oC D (lst ys) src (J (i + 1) (ys ++ [y])) s₄) E' { s₁ with heap := h, toks := tk }) :
    TurnN prog w A h₀ L m env ifs elt x scope cl s₁ n P src J := by
  subst hn
  intro i v ys nx I oI C oC D m₂ h tk E' a b c d e f g F N o n _
  exact wpAny_tests_nil (by simp only [if_true]; exact hh i v ys nx I oI C oC D m₂ h tk E' a b c d e f g F N o n)
theorem TurnN.plain0 {ifs : List PySem.Expr} {elt : PySem.Expr} {x : Str} {scope : Scope} {cl : List (Str × Addr)} {s₁ : Shared} {n : Nat} {P : Nat → Value → Prop} {src : List (Addr × Obj)} {J : Nat → List Value → List (Addr × Obj) → Prop} (hn : ifs = [])
    (hh : ∀ (i : Nat) (v : Value) ys nx I oI C oC D m₂ h tk (E' : Value → Shared → Prop), i < n → P i v → J i ys nx → (∀ p ∈ src, p ∈ nx) → ys.length ≤ i → NsObj oC m₂ → m₂ x = some v → Fr h₀ L h m → News h₀ L h ((I, oI) :: (C, oC) :: (D, lst ys) :: nx) → (∀ p ∈ nx, p.1 ≠ I ∧ p.1 ≠ C ∧ p.1 ≠ D) → ((@Ne Nat I C) ∧ (@Ne Nat I D) ∧ (@Ne Nat C D)) → @LT.lt Nat _ 0 tk →
      wpAny (model prog w) A (eval elt (compEnvC scope cl C env)) (fun y s₄ => NEnd h₀ L m s₁ I oI C oC D (lst ys) src (J (i + 1) (ys ++ [y])) s₄) E' { s₁ with heap := h, toks := tk }) :
    TurnN prog w A h₀ L m env ifs elt x scope cl s₁ n P src J := by
  subst hn
  intro i v ys nx I oI C oC D m₂ h tk E' a b c d e f g F N o n z
  exact wpAny_tests_nil (by simp only [if_true]; exact hh i v ys nx I oI C oC D m₂ h tk E' a b c d e f g F N o n z)
theorem TurnN.test {ifs : List PySem.Expr} {c elt : PySem.Expr} {x : Str} {scope : Scope} {cl : List (Str × Addr)} {s₁ : Shared} {n : Nat} {P : Nat → Value → Prop} {src : List (Addr × Obj)} {J : Nat → List Value → List (Addr × Obj) → Prop} (hn : ifs = [c])
    (hh : ∀ (i : Nat) (v : Value) ys nx I oI C oC D m₂ h tk (E' : Value → Shared → Prop), i < n → P i v → J i ys nx → (∀ p ∈ src, p ∈ nx) → ys.length ≤ i → NsObj oC m₂ → m₂ x = some v → Fr h₀ L h m → News h₀ L h ((I, oI) :: (C, oC) :: (D, lst ys) :: nx) → (∀ p ∈ nx, p.1 ≠ I ∧ p.1 ≠ C ∧ p.1 ≠ D) → ((@Ne Nat I C) ∧ (@Ne Nat I D) ∧ (@Ne Nat C D)) →
      wpAny (model prog w) A (isTrue c (compEnvC scope cl C env) (eval c (compEnvC scope cl C env))) (fun okb s₃ => if okb = true then
        wpAny (model prog w) A (eval elt (compEnvC scope cl C env)) (fun y s₄ => NEnd h₀ L m s₁ I oI C oC D (lst ys) src (J (i + 1) (ys ++ [y])) s₄) E' s₃
        else NEnd h₀ L m s₁ I oI C oC D (lst ys) src (J (i + 1) ys) s₃) E' { s₁ with heap := h, toks := tk }) :
    TurnN prog w A h₀ L m env ifs elt x scope cl s₁ n P src J := by
  subst hn
  intro i v ys nx I oI C oC D m₂ h tk E' a b c d e f g F N o n _
  exact wpAny_tests_one (hh i v ys nx I oI C oC D m₂ h tk E' a b c d e f g F N o n)

theorem blockN {elt iter : PySem.Expr} {ifs : List PySem.Expr} {x : Str} {px : Pos} {scope : Scope} {cl : List (Str × Addr)} {pos : Pos} {s₂ : Shared} {I : Addr} {src news : List (Addr × Obj)} {n : Nat} {P : Nat → Value → Prop} {St : Nat → Heap → Prop} {J : Nat → List Value → List (Addr × Obj) → Prop} {RR : Value → Addr → Result → Shared → Prop}
    (W : Walks prog w A I (I :: src.map (·.1)) [I] n P St) (hob : ∀ i h, St i h → ∃ o, h.get? I = some o) (hsz : n ≤ sizeLine) (hst : St 0 s₂.heap) (hsrc : ∀ p ∈ src, p ∈ news)
    (hcell : ∀ y ∈ scope.names, y.2 ≠ .cell) (hkind : scope.kind = .function) (hx : scope.names.lookup x = some .local)
    (F : Fr h₀ L s₂.heap m) (N : News h₀ L s₂.heap news) (hIL : L ≠ I) (hI₀ : h₀.get? I = none) (off : ∀ p ∈ news, p.1 ≠ I) (hJ0 : J 0 [] news)
    (turn : TurnN prog w A h₀ L m env ifs elt x scope cl s₂ n P src J)
    (hRR : ∀ D C h tk m' ys nx, Fr h₀ L h m → News h₀ L h ((D, lst ys) :: nx) → (∀ p ∈ nx, p.1 ≠ D) → h.Ns C m' → h₀.get? C = none → C ≠ L → C ≠ D → (∀ p ∈ nx, p.1 ≠ C) → ys.length ≤ n → J n ys nx → RR (.ref D) C (.ok .next) { s₂ with heap := h, toks := tk }) :
    wpAny (model prog w) A (newList []) (fun acc s₃ => wpAny (model prog w) A (newFunctionEnv scope env.globals cl [] env.qual none .none (some env)) (fun cenv s₄ =>
      codeAny (model prog w) A (.compStart (.ListComp elt [⟨.Name x px, iter, ifs, 0⟩] scope pos) 0 (.ref I) acc { cenv with scope := relabel scope env }) (RR acc cenv.locals) s₄) E s₃) E s₂ := by
  refine wpAny_newObj_type (wpAny_newFunctionEnv hcell (by intro y hy; simp at hy) (fun h₁ hns₁ hsb₁ => ?_) hkind)
  dsimp only at hns₁ hsb₁ ⊢
  generalize hH2 : s₂.heap.push { cls := .type "list", dict := none, data := .seq ([] : List Value).toArray } = H2 at hns₁ hsb₁ ⊢
  have hCe : H2.objs.size = s₂.heap.objs.size + 1 := by rw [← hH2, Heap.size_push]
  generalize hCx : H2.objs.size = C at hns₁ hsb₁ hCe ⊢
  generalize hDe : s₂.heap.objs.size = D at hns₁ hsb₁ hCe ⊢
  have lt2 : ∀ {x : Addr} {o : Obj}, s₂.heap.get? x = some o → @LT.lt Nat _ x D := fun e => hDe ▸ Heap.lt_size e
  have up : ∀ x o, s₂.heap.get? x = some o → h₁.get? x = some o := fun x o e => hsb₁.extBut x o (show @Ne Nat x C from by have := lt2 e; omega) (Heap.get?_push_of_some _ (hH2 ▸ Heap.get?_push_of_some _ e))
  have none₀ : ∀ x : Addr, @LE.le Nat _ D x → h₀.get? x = none := fun x hx => by
    cases e : h₀.get? x with
    | none => rfl
    | some o => exact absurd (lt2 (F.keep x o e)) (Nat.not_lt.mpr hx)
  have hD₀ : h₀.get? D = none := none₀ D (Nat.le_refl _)
  have hC₀ : h₀.get? C = none := none₀ _ (show @LE.le Nat _ D C by omega)
  have hLlt : @LT.lt Nat _ L D := hDe ▸ F.ns.lt
  have hIlt : @LT.lt Nat _ I D := by obtain ⟨o, e⟩ := hob _ _ hst; exact lt2 e
  have nlt : ∀ p ∈ news, @LT.lt Nat _ p.1 D := fun p hp => lt2 (N p hp).1
  have hDL : D ≠ L := Nat.ne_of_gt hLlt
  have hCL : C ≠ L := show @Ne Nat C L by omega
  have hCI : I ≠ C := show @Ne Nat I C by omega
  have hDI : I ≠ D := Nat.ne_of_lt hIlt
  have hDC : D ≠ C := show @Ne Nat D C by omega
  have off₀ : ∀ p ∈ news, p.1 ≠ I ∧ p.1 ≠ C ∧ p.1 ≠ D := fun p hp => ⟨off p hp, show @Ne Nat p.1 C by have := nlt p hp; omega, Nat.ne_of_lt (nlt p hp)⟩
  have hacc : h₁.get? D = some (lst []) := hsb₁.extBut _ _ hDC (Heap.get?_push_of_some _ (by rw [← hH2, ← hDe]; exact Heap.get?_push_size _ rfl))
  have hst₁ : St 0 h₁ := W.frame _ _ _ hst fun b _ o e => up b o e
  have keepSt : ∀ i h h' nx, St i h → News h₀ L h nx → News h₀ L h' nx → (∀ p ∈ src, p ∈ nx) → (∀ o, h.get? I = some o → h'.get? I = some o) → St i h' := fun i h h' nx st N1 N2 hs hI => W.frame _ _ _ st fun b hb o e => by
    rcases List.mem_cons.mp hb with rfl | hb
    · exact hI o e
    · obtain ⟨p, hp, rfl⟩ := List.mem_map.mp hb
      have h1 := (N1 p (hs p hp)).1
      rw [e] at h1
      exact (Option.some.inj h1) ▸ (N2 p (hs p hp)).1
  have loop : ∀ s₃ : Shared, s₃ = { s₂ with heap := h₁, toks := s₂.toks + ([] : List (Str × Value)).length } →
      codeAny (model prog w) A (.compLoop (.ListComp elt [⟨.Name x px, iter, ifs, 0⟩] scope pos) 0 (.ref I) (.ref D) (compEnvC scope cl C env)) (RR (.ref D) C) s₃ := by
    rintro s₃ rfl
    refine codeAny_compLoop_tests (fun q s' => ∃ h' tk i ys m' nx, s' = { s₂ with heap := h', toks := tk } ∧ i ≤ n ∧ q = n + 1 - i ∧ ys.length ≤ i ∧ St i h' ∧ Fr h₀ L h' m ∧ h'.Ns C m' ∧ News h₀ L h' ((D, lst ys) :: nx) ∧ (∀ p ∈ nx, p.1 ≠ I ∧ p.1 ≠ C ∧ p.1 ≠ D) ∧ (∀ p ∈ src, p ∈ nx) ∧ J i ys nx) ?_ (n + 1)
      ⟨h₁, _, 0, [], _, news, rfl, Nat.zero_le _, rfl, Nat.le_refl _, hst₁, F.keeps up, hns₁, fun p hp => ?_, off₀, hsrc, hJ0⟩
    · rintro q s' ⟨h', tk, i, ys, m', nx, rfl, hi, rfl, hyl, hst', F', hn', N', off3, hsr, hJ⟩
      by_cases hlt : i < n
      · refine W.item i _ _ _ hlt hst' fun v h₂ tk₂ hPv hst₂ hk₂ => ?_
        have up₂ : ∀ x o, x ≠ I → h'.get? x = some o → h₂.get? x = some o := fun x o hx e => hk₂ x o (by simpa using hx) e
        refine wpAny_assign_Name (wpAny_storeName_local (lookup_relabel_local hx) (hn'.at' fun o e => up₂ _ o (Ne.symm hCI) e) (fun h₄ hn₄ hs₄ => ?_) (by simp [compEnvC, relabel, hkind]))
        have up₄ : ∀ x o, x ≠ I → x ≠ C → h'.get? x = some o → h₄.get? x = some o := fun x o h1 h2 e => hs₄.extBut x o h2 (up₂ x o h1 e)
        obtain ⟨oI, heI⟩ := hob _ _ hst₂
        have heI₄ : h₄.get? I = some oI := hs₄.extBut I _ hCI heI
        obtain ⟨oC, heC, hoC⟩ := ns_obj hn₄
        have F₄ : Fr h₀ L h₄ m := ⟨F'.ns.at' fun o e => up₄ _ o hIL (Ne.symm hCL) e, fun x o e => up₄ x o (fun q => by rw [q, hI₀] at e; cases e) (fun q => by rw [q, hC₀] at e; cases e) (F'.keep x o e), F'.above⟩
        have N₄ : News h₀ L h₄ ((I, oI) :: (C, oC) :: (D, lst ys) :: nx) := fun q hq => by
          rcases List.mem_cons.mp hq with rfl | hq
          · exact ⟨heI₄, Ne.symm hIL, hI₀⟩
          · rcases List.mem_cons.mp hq with rfl | hq
            · exact ⟨heC, hCL, hC₀⟩
            · have z := N' q hq
              rcases List.mem_cons.mp hq with rfl | hq
              · exact ⟨up₄ _ _ (Ne.symm hDI) hDC z.1, z.2⟩
              · exact ⟨up₄ _ _ (off3 q hq).1 (off3 q hq).2.1 z.1, z.2⟩
        have st₄ : St (i + 1) h₄ := keepSt (i + 1) h₂ h₄ nx hst₂ (fun p hp => ⟨up₂ _ _ (off3 p hp).1 (N' p (.tail _ hp)).1, (N' p (.tail _ hp)).2⟩) (fun p hp => N₄ p (.tail _ (.tail _ (.tail _ hp)))) hsr (fun o e => hs₄.extBut I _ hCI e)
        have fin : ∀ (ys' : List Value) (nx' : List (Addr × Obj)) (h₅ : Heap) (tk₅ : Nat), ys'.length ≤ i + 1 → Fr h₀ L h₅ m → News h₀ L h₅ ((I, oI) :: (C, oC) :: (D, lst ys') :: nx') → (∀ p ∈ nx', p.1 ≠ I ∧ p.1 ≠ C ∧ p.1 ≠ D) → (∀ p ∈ src, p ∈ nx') → J (i + 1) ys' nx' →
            ∃ q', q' < n + 1 - i ∧ (∃ h' tk i ys m' nx, ({ s₂ with heap := h₅, toks := tk₅ } : Shared) = { s₂ with heap := h', toks := tk } ∧ i ≤ n ∧ q' = n + 1 - i ∧ ys.length ≤ i ∧ St i h' ∧ Fr h₀ L h' m ∧ h'.Ns C m' ∧ News h₀ L h' ((D, lst ys) :: nx) ∧ (∀ p ∈ nx, p.1 ≠ I ∧ p.1 ≠ C ∧ p.1 ≠ D) ∧ (∀ p ∈ src, p ∈ nx) ∧ J i ys nx) := by
          intro ys' nx' h₅ tk₅ hl F₅ N₅ off₅ hs₅ hJ₅
          refine ⟨n + 1 - (i + 1), by omega, h₅, tk₅, i + 1, ys', _, nx', rfl, hlt, rfl, hl, ?_, F₅, hoC.ns (N₅ _ (.tail _ (.head _))).1, fun q hq => N₅ q (.tail _ (.tail _ hq)), off₅, hs₅, hJ₅⟩
          exact W.frame _ _ _ st₄ fun b hb o e => by
            rcases List.mem_cons.mp hb with rfl | hb
            · rw [heI₄] at e; exact (Option.some.inj e) ▸ (N₅ _ (.head _)).1
            · obtain ⟨p, hp, rfl⟩ := List.mem_map.mp hb
              have h1 := (N₄ p (.tail _ (.tail _ (.tail _ (hsr p hp))))).1
              rw [e] at h1
              exact (Option.some.inj h1) ▸ (N₅ p (.tail _ (.tail _ (.tail _ (hs₅ p hp))))).1
        refine wpAny_mono (turn i v ys nx I oI C oC D _ h₄ _ _ hlt hPv hJ hsr hyl hoC (by simp) F₄ N₄ off3 ⟨hCI, hDI, Ne.symm hDC⟩ (Nat.succ_pos _)) (fun okb s₅ h₅ => ?_) fun _ _ e => e
        cases okb with
        | false =>
          simp only [Bool.false_eq_true, if_false] at h₅ ⊢
          obtain ⟨h₅, tk₅, nx₅, rfl, F₅, N₅, off₅, hs₅, J₅⟩ := h₅
          exact fin ys nx₅ h₅ tk₅ (Nat.le_succ_of_le hyl) F₅ N₅ off₅ hs₅ J₅
        | true =>
          simp only [if_true] at h₅ ⊢
          refine wpAny_mono h₅ (fun y s₆ h₆ => ?_) fun _ _ e => e
          obtain ⟨h₅, tk₅, nx₅, rfl, F₅, N₅, off₅, hs₅, J₅⟩ := h₆
          refine append_at (hsz := by show ys.toArray.size ≤ sizeLine; rw [List.size_toArray]; exact Nat.le_trans hyl (Nat.le_trans hi hsz)) (N₅ _ (.tail _ (.tail _ (.head _)))).1 fun h₆ hs₆ hD₆ => ?_
          refine fin (ys ++ [y]) nx₅ h₆ _ (by rw [List.length_append, List.length_singleton]; exact Nat.succ_le_succ hyl) (F₅.change hs₆ hDL hD₀) (fun q hq => ?_) off₅ hs₅ J₅
          rcases List.mem_cons.mp hq with rfl | hq
          · exact ⟨hs₆.extBut I oI hDI (N₅ _ (.head _)).1, Ne.symm hIL, hI₀⟩
          rcases List.mem_cons.mp hq with rfl | hq
          · exact ⟨hs₆.extBut _ oC (Ne.symm hDC) (N₅ _ (.tail _ (.head _))).1, hCL, hC₀⟩
          rcases List.mem_cons.mp hq with rfl | hq
          · exact ⟨hD₆.trans (congrArg some (lst_snoc ys y)), hDL, hD₀⟩
          · exact ⟨hs₆.extBut _ _ (off₅ q hq).2.2 (N₅ q (.tail _ (.tail _ (.tail _ hq)))).1, (N₅ q (.tail _ (.tail _ (.tail _ hq)))).2⟩
      · have hin : i = n := Nat.le_antisymm hi (Nat.not_lt.mp hlt)
        subst hin
        refine W.done _ _ _ hst' fun h₂ tk₂ hk₂ => ?_
        have up₂ : ∀ x o, x ≠ I → h'.get? x = some o → h₂.get? x = some o := fun x o hx e => hk₂ x o (by simpa using hx) e
        refine hRR _ _ h₂ tk₂ _ ys nx (fr_but F' hk₂ hIL hI₀) (fun q hq => ?_) (fun p hp => (off3 p hp).2.2) (hn'.at' fun o e => up₂ _ o (Ne.symm hCI) e) hC₀ hCL (Ne.symm hDC) (fun p hp => (off3 p hp).2.1) hyl hJ
        have z := N' q hq
        rcases List.mem_cons.mp hq with rfl | hq
        · exact ⟨up₂ _ _ (Ne.symm hDI) z.1, z.2⟩
        · exact ⟨up₂ _ _ (off3 q hq).1 z.1, z.2⟩
    · rcases List.mem_cons.mp hp with rfl | hp
      · exact ⟨hacc, hDL, hD₀⟩
      · exact ⟨up _ _ (N p hp).1, (N p hp).2⟩
  exact codeAny_compStart_list (loop _ rfl) (W.self 0 _ _ _ hst₁ (loop _ rfl))

def SrcN (prog : Program) (w : World) (A : Around) (E : Value → Shared → Prop) (h₀ : Heap) (L : Addr) (m : Str → Option Value) (env : Env) (ifs : List PySem.Expr) (elt : PySem.Expr) (x : Str) (scope : Scope) (cl : List (Str × Addr)) (Fin : Shared → Addr → List Value → List (Addr × Obj) → Heap → Nat → Prop) (xv : Value) (s₁ : Shared) : Prop :=
  ∃ (n : Nat) (src news : List (Addr × Obj)) (P : Nat → Value → Prop) (J : Nat → List Value → List (Addr × Obj) → Prop), n ≤ sizeLine ∧ Fr h₀ L s₁.heap m ∧ News h₀ L s₁.heap news ∧ (∀ p ∈ src, p ∈ news) ∧ J 0 [] news ∧
    (∀ (E' : Value → Shared → Prop) (Q' : Value → Shared → Prop), (∀ o (St : Nat → Heap → Prop), Walks prog w A s₁.heap.objs.size (s₁.heap.objs.size :: src.map (·.1)) [s₁.heap.objs.size] n P St → (∀ i h, St i h → ∃ o, h.get? s₁.heap.objs.size = some o) → St 0 (s₁.heap.push o) → Q' (.ref s₁.heap.objs.size) { s₁ with heap := s₁.heap.push o }) → wpAny (model prog w) A (pyIter xv) Q' E' s₁) ∧
    TurnN prog w A h₀ L m env ifs elt x scope cl s₁ n P src J ∧
    (∀ ys D nx h tk, J n ys nx → ys.length ≤ n → News h₀ L h ((D, lst ys) :: nx) → (∀ p ∈ nx, p.1 ≠ D) → Fin s₁ D ys nx h tk)
theorem SrcN.list {ifs : List PySem.Expr} {elt : PySem.Expr} {x : Str} {scope : Scope} {cl : List (Str × Addr)} {Fin : Shared → Addr → List Value → List (Addr × Obj) → Heap → Nat → Prop} {s₁ : Shared} {ax : Addr} {vs : List Value} {k : Nat} {news : List (Addr × Obj)} (J : Nat → List Value → List (Addr × Obj) → Prop)
    (hh : A.handled = none) (F : Fr h₀ L s₁.heap m) (N : News h₀ L s₁.heap news) (hm : (ax, listOf vs.toArray k) ∈ news) (hsz : vs.length ≤ sizeLine) (hj : J 0 [] news)
    (turn : TurnN prog w A h₀ L m env ifs elt x scope cl s₁ vs.length (fun i v => vs[i]? = some v) [(ax, listOf vs.toArray k)] J)
    (fin : ∀ ys D nx h tk, J vs.length ys nx → ys.length ≤ vs.length → News h₀ L h ((D, lst ys) :: nx) → (∀ p ∈ nx, p.1 ≠ D) → Fin s₁ D ys nx h tk) :
    SrcN prog w A E h₀ L m env ifs elt x scope cl Fin (.ref ax) s₁ := by
  have hol : s₁.heap.get? ax = some (listOf vs.toArray k) := (N _ hm).1
  have hls : s₁.heap.IsList ax vs.toArray := ⟨_, hol, rfl, k, rfl⟩
  refine ⟨vs.length, [(ax, listOf vs.toArray k)], news, _, J, hsz, F, N, fun p hp => (List.mem_singleton.mp hp) ▸ hm, hj, fun E' Q' hQ => ?_, turn, fin⟩
  have W := Walks.list (prog := prog) (w := w) (A := A) hh s₁.heap.objs.size ax (Nat.ne_of_lt (Heap.lt_size hol)) vs.toArray
  have hlen : vs.toArray.size = vs.length := by simp
  rw [hlen] at W
  have e : (fun (i : Nat) (v : Value) => vs.toArray[i]? = some v) = (fun i v => vs[i]? = some v) := by funext i v; simp
  rw [e] at W
  refine wpAny_pyIter_list hls ?_
  refine hQ _ _ W ?_ ⟨⟨_, Heap.get?_push_size _ rfl, rfl, rfl⟩, hls.at fun o e => Heap.get?_push_of_some _ e⟩
  rintro i h ⟨⟨o, e, _⟩, _⟩
  exact ⟨o, e⟩
theorem SrcN.range {ifs : List PySem.Expr} {elt : PySem.Expr} {x : Str} {scope : Scope} {cl : List (Str × Addr)} {Fin : Shared → Addr → List Value → List (Addr × Obj) → Heap → Nat → Prop} {s₁ : Shared} {r : Addr} {a b : Int} {t₀ u₀ v₀ : Tok} (n : Nat) {news : List (Addr × Obj)} (J : Nat → List Value → List (Addr × Obj) → Prop)
    (hh : A.handled = none) (F : Fr h₀ L s₁.heap m) (N : News h₀ L s₁.heap news) (hr : IsRange s₁.heap r a b 1 t₀ u₀ v₀) (hsmall : Builtin.Range.small a b 1 = true) (hn : Builtin.Range.rangeSize a b 1 = (n : Int)) (hsz : n ≤ sizeLine) (hj : J 0 [] news)
    (turn : TurnN prog w A h₀ L m env ifs elt x scope cl s₁ n (fun i v => ∃ t, v = .int (a + (i : Int)) t) [] J)
    (fin : ∀ ys D nx h tk, J n ys nx → ys.length ≤ n → News h₀ L h ((D, lst ys) :: nx) → (∀ p ∈ nx, p.1 ≠ D) → Fin s₁ D ys nx h tk) :
    SrcN prog w A E h₀ L m env ifs elt x scope cl Fin (.ref r) s₁ := by
  refine ⟨n, [], news, _, J, hsz, F, N, fun p hp => (nomatch hp), hj, fun E' Q' hQ => ?_, turn, fin⟩
  exact wpAny_pyIter_range hr hsmall (hQ _ _ (range_walks hh a n) (fun i h st => ⟨_, st⟩) (by show IsRangeIter _ _ _ _ _; rw [hn]; simpa using Heap.get?_push_size _ rfl))
theorem ListComp_N {elt iter : PySem.Expr} {ifs : List PySem.Expr} {x : Str} {px : Pos} {scope : Scope} {cl : List (Str × Addr)} {pos : Pos} {Q : Value → Shared → Prop} (_F₀ : Fr h₀ L s.heap m)
    (hclos : closureFor scope env = pure cl) (hcell : ∀ y ∈ scope.names, y.2 ≠ .cell) (hkind : scope.kind = .function)
    (hnames : ∀ y ∈ scope.names, y.2 = .local → scope.names.lookup y.1 = some .local) (hx : scope.names.lookup x = some .local)
    (h : wpAny (model prog w) A (eval iter env) (SrcN prog w A E h₀ L m env ifs elt x scope cl (fun s₁ D ys nx h tk => Fr h₀ L h m → Q (.ref D) { s₁ with heap := h, toks := tk })) E s)
    (hs : ∀ x, foldedSetIterable iter env x = pure x := by intro _; rfl) :
    wpAny (model prog w) A (eval (.ListComp elt [⟨.Name x px, iter, ifs, 0⟩] scope pos) env) Q E s := by
  rw [eval_ListComp]
  refine wpAny_comprehension_free (use := none) rfl hs hclos hkind hnames (wpAny_mono h (fun xv s₁ h₁ => ?_) fun _ _ e => e)
  obtain ⟨n, src, news, P, J, hsz, F, N, hsrc, hj, hit, turn, fin⟩ := h₁
  refine hit _ _ fun o St W hob hst => ?_
  refine blockN (src := src) (J := J) (news := news) W hob hsz hst hsrc hcell hkind hx (F.push _)
    (fun p hp => ⟨Heap.get?_push_of_some _ (N p hp).1, (N p hp).2⟩) (Nat.ne_of_lt F.ns.lt) (next_is_new F) (fun p hp => Nat.ne_of_lt (Heap.lt_size (N p hp).1)) hj turn ?_
  intro D C h tk m' ys nx F' N' hne hn hC₀ hCL hCD offC hyl hJ
  refine ⟨m', hn, fun h'' hs'' => fin ys D nx h'' tk hJ hyl (fun p hp => ?_) hne (F'.change hs'' hCL hC₀)⟩
  refine ⟨hs''.extBut _ _ ?_ (N' p hp).1, (N' p hp).2⟩
  rcases List.mem_cons.mp hp with rfl | hp
  · exact Ne.symm hCD
  · exact offC p hp
theorem Assign_ListComp_N {elt iter : PySem.Expr} {ifs : List PySem.Expr} {x y : Str} {px py : Pos} {scope : Scope} {cl : List (Str × Addr)} {pos spos : Pos} {Q : Flow → Shared → Prop} (_F₀ : Fr h₀ L s.heap m) (hLe : env.locals = L)
    (hsw : swapsWith (.ListComp elt [⟨.Name x px, iter, ifs, 0⟩] scope pos) (some (.Name y py)) spos.line env = pure true)
    (hclos : closureFor scope env = pure cl) (hcell : ∀ y ∈ scope.names, y.2 ≠ .cell) (hkind : scope.kind = .function)
    (hnames : ∀ y ∈ scope.names, y.2 = .local → scope.names.lookup y.1 = some .local) (hx : scope.names.lookup x = some .local)
    (hy : env.kindOf y = some .local) (hp : (env.scope.kind == .class || (env.scope.kind == .module && env.locals != env.globals)) = false)
    (h : wpAny (model prog w) A (eval iter env) (SrcN prog w A E h₀ L m env ifs elt x scope cl (fun s₁ D ys nx h tk => Fr h₀ L h (fun z => if z = y then some (.ref D) else m z) → Q .next { s₁ with heap := h, toks := tk })) E s)
    (hs : ∀ x, foldedSetIterable iter env x = pure x := by intro _; rfl) :
    wpAny (model prog w) A (exec (.Assign [.Name y py] (.ListComp elt [⟨.Name x px, iter, ifs, 0⟩] scope pos) spos) env) Q E s := by
  subst hLe
  rw [exec_Assign_Name_used _ _ _ _ hsw]
  refine wpAny_bind (wpAny_standAt (wpAny_bind ?_))
  show wpAny _ A (do let _ ← comprehension (.ListComp elt [⟨.Name x px, iter, ifs, 0⟩] scope pos) scope env _ (newList []) false (eval iter env) (some (assign (.Name y py) env))) _ _ s
  refine wpAny_bind (wpAny_mono (wpAny_comprehension_free (use := some (assign (.Name y py) env)) (Q := fun _ s' => Q .next s') rfl hs hclos hkind hnames
    (wpAny_mono h (fun xv s₁ h₁ => ?_) fun _ _ e => e)) (fun _ s' hq => wpAny_pure (wpAny_pure hq)) fun _ _ e => e)
  obtain ⟨n, src, news, P, J, hsz, F, N, hsrc, hj, hit, turn, fin⟩ := h₁
  refine hit _ _ fun o St W hob hst => ?_
  refine blockN (src := src) (J := J) (news := news) W hob hsz hst hsrc hcell hkind hx (F.push _)
    (fun p hp => ⟨Heap.get?_push_of_some _ (N p hp).1, (N p hp).2⟩) (Nat.ne_of_lt F.ns.lt) (next_is_new F) (fun p hp => Nat.ne_of_lt (Heap.lt_size (N p hp).1)) hj turn ?_
  intro D C h' tk m' ys nx F' N' hne hn hC₀ hCL hCD offC hyl hJ
  show wpAny _ A (assign (.Name y py) env (.ref D)) _ _ _
  refine wpAny_assign_Name (wpAny_storeName_local hy F'.ns (fun h₂ hn₂ hs₂ => ?_) hp)
  have hL₀ : h₀.get? env.locals = none := Heap.get?_none_of_le F'.above
  have F₂ : Fr h₀ env.locals h₂ (fun z => if z = y then some (.ref D) else m z) := ⟨hn₂, fun b o e => hs₂.extBut b o (fun q => by rw [q, hL₀] at e; cases e) (F'.keep b o e), F'.above⟩
  refine ⟨m', hn.sameBut hs₂ hCL, fun h'' hs'' => fin ys D nx h'' _ hJ hyl (fun p hp => ?_) hne (F₂.change hs'' hCL hC₀)⟩
  have z : h₂.get? p.1 = some p.2 := hs₂.extBut _ _ (N' p hp).2.1 (N' p hp).1
  refine ⟨hs''.extBut _ _ ?_ z, (N' p hp).2⟩
  rcases List.mem_cons.mp hp with rfl | hp
  · exact Ne.symm hCD
  · exact offC p hp
end
end PC14_01
section PC15_01
theorem still_C15_01 : True := by
  w_top off
  trivial
open PySem.Spec
/-! ## push_token, the words pushed told by their texts -/
theorem strV_snoc (l : List (Str × Tok)) (x : Str) (t : Tok) : strValues l ++ [Value.str x t] = strValues (l ++ [(x, t)]) := by simp [strValues]
theorem push_str (w : World) (rest : List (Addr × Obj)) (x dx pb : Addr) (ps : List (Str × Tok)) (n : Nat) (t : Nat → Tok) (ln : Int) (st : Value) (tok : Str) (tt : Tok) (h1 : OwnOff rest [pb]) (hne1 : @Ne Nat pb x) (hne2 : @Ne Nat pb dx) (hl : ps.length ≤ 1000) :
   Con w (.ref 80) [.ref x, .str tok tt] 1 1 ((pb, listOf (strValues ps).toArray n) :: (dx, lexO w.params t (ln) (st) (pb)) :: (x, instObj 83 dx) :: rest)
     (fun news' r => ∃ psn : List (Str × Tok), psn.map (fun p : Str × Tok => p.1) = ps.map (fun p : Str × Tok => p.1) ++ [tok] ∧ psn.length = ps.length + 1 ∧ news' = (pb, listOf (strValues psn).toArray (n + 1)) :: (dx, lexO w.params t (ln) (st) (pb)) :: (x, instObj 83 dx) :: rest ∧ r = Value.none) := by
  refine Con.via (push_con w rest x dx pb (strValues ps) n t ln st tok tt h1 hne1 hne2 (by rw [strValues, List.length_map]; exact hl)) (fun _ h => h) ?_
  rintro n' r ⟨rfl, rfl⟩
  exact ⟨_, fun _ h => h, ps ++ [(tok, tt)], by simp, by simp, by rw [strV_snoc], rfl⟩
theorem own_of_off {own news : List (Addr × Obj)} {b : Addr} {o : Obj} (h : OwnOff own (news.map (·.1))) (hb : (b, o) ∈ news) : OwnOff own [b] := fun p hp c hc => by
  rw [List.mem_singleton.mp hc]; exact h p hp b (List.mem_map.mpr ⟨_, hb, rfl⟩)
theorem own_app {l r : List (Addr × Obj)} {b : Addr} (h : OwnOff l [b]) (h2 : OwnOff r [b]) : OwnOff (l ++ r) [b] := fun p hp => by
  rcases List.mem_append.mp hp with hp | hp
  · exact h p hp
  · exact h2 p hp
theorem own_cons {b : Addr} {p : Addr × Obj} {l : List (Addr × Obj)} (h : @Ne Nat p.1 b) (hl : OwnOff l [b]) : OwnOff (p :: l) [b] := fun q hq c hc => by
  rw [List.mem_singleton.mp hc]
  rcases List.mem_cons.mp hq with rfl | hq
  · exact h
  · exact hl q hq b (List.mem_singleton.mpr rfl)
theorem own_lt {b d : Addr} {l : List (Addr × Obj)} (h : AllLt d l) (hb : @LE.le Nat _ d b) : OwnOff l [b] := fun q hq c hc => by
  rw [List.mem_singleton.mp hc]
  exact ne_of_allLt h hb q hq
theorem TabIs.snoc {T : Addr} {p q : Str} {a b : Tok} {o : Obj} (e : o = tupO (.str p a) (.str q b)) : ∀ {tups : List (Addr × Obj)} {l : List (Str × Str)}, TabIs tups l → TabIs (tups ++ [(T, o)]) (l ++ [(p, q)])
  | [], [], _ => ⟨⟨a, b, e⟩, trivial⟩
  | _ :: _, _ :: _, h => ⟨h.1, h.2.snoc e⟩
end PC15_01
section PQ1_01
theorem still_Q1_01 : True := by
  w_top off
  trivial
open PySem.Spec PyProof.Rows
set_option maxRecDepth 100000
/-! ## plain law 1: words as lists of numbers (0 blank, 1 mark, 2 backslash), orders as lists of numbers -/
def cN : Nat → Nat
  | 0 => 32
  | 1 => 34
  | _ => 92
def encT (w : List Nat) : Str := ⟨(w.map cN).toArray⟩
def swapAt (o : List Nat) (k : Nat) : List Nat := (o.set k (o.getD (k + 1) 0)).set (k + 1) (o.getD k 0)
def grownStep (s : List Nat × List Nat) (k : Nat) : List Nat × List Nat := if Nat.blt k 3 && Nat.blt (s.2.getD k 0) (s.2.getD (k + 1) 0) then (s.1 ++ [k], swapAt s.2 k) else s
def grownOf (figs : List Nat) : List Nat × List Nat := figs.foldl grownStep ([], [0, 1, 2, 3])
def lev : Nat → List (List Nat × List Nat)
  | 0 => [([], [0, 1, 2, 3])]
  | n + 1 => (lev n).flatMap fun s => [0, 1, 2].filterMap fun k => if Nat.blt (s.2.getD k 0) (s.2.getD (k + 1) 0) then some (s.1 ++ [k], swapAt s.2 k) else none
def upTo : Nat → List (List Nat × List Nat)
  | 0 => lev 0
  | n + 1 => upTo n ++ lev (n + 1)
theorem mem_upTo : ∀ {i n : Nat} {s : List Nat × List Nat}, i ≤ n → s ∈ lev i → s ∈ upTo n
  | i, 0, s, h, hs => by rw [Nat.le_zero.mp h] at hs; exact hs
  | i, n + 1, s, h, hs => by
    rcases Nat.lt_or_eq_of_le h with h1 | h1
    · exact List.mem_append_left _ (mem_upTo (Nat.le_of_lt_succ h1) hs)
    · rw [h1] at hs; exact List.mem_append_right _ hs
theorem step_lev {i : Nat} {s : List Nat × List Nat} (k : Nat) (hs : s ∈ lev i) : ∃ j, j ≤ i + 1 ∧ grownStep s k ∈ lev j := by
  unfold grownStep
  split
  · rename_i h
    rw [Bool.and_eq_true] at h
    have hk : k < 3 := by simpa [Nat.blt_eq] using h.1
    refine ⟨i + 1, Nat.le_refl _, List.mem_flatMap.mpr ⟨s, hs, List.mem_filterMap.mpr ⟨k, ?_, by rw [if_pos h.2]⟩⟩⟩
    match k, hk with
    | 0, _ => simp
    | 1, _ => simp
    | 2, _ => simp
  · exact ⟨i, Nat.le_succ _, hs⟩
theorem grown_lev : ∀ (figs : List Nat) {i : Nat} {s : List Nat × List Nat}, s ∈ lev i → ∃ j, j ≤ i + figs.length ∧ figs.foldl grownStep s ∈ lev j
  | [], i, s, hs => ⟨i, Nat.le_refl _, hs⟩
  | k :: r, i, s, hs => by
    obtain ⟨j, hj, h1⟩ := step_lev k hs
    obtain ⟨j2, hj2, h2⟩ := grown_lev r h1
    exact ⟨j2, by simp only [List.length_cons]; omega, h2⟩
theorem grown_upTo {figs : List Nat} {n : Nat} (h : figs.length ≤ n) : grownOf figs ∈ upTo n := by
  obtain ⟨j, hj, h1⟩ := grown_lev figs (show ([], [0, 1, 2, 3]) ∈ lev 0 from .head _)
  exact mem_upTo (by omega) h1
/-- a move at place k; the empty word where there is none -/
def movedN (w : List Nat) (k : Nat) : List Nat :=
  if (w.getD k 0 == w.getD (k + 1) 0 + 2 || w.getD (k + 1) 0 == w.getD k 0 + 2) then w.take k ++ [w.getD (k + 1) 0, w.getD k 0] ++ w.drop (k + 2)
  else if Nat.blt (k + 2) w.length && w.getD (k + 2) 0 == w.getD k 0 then w.take k ++ [w.getD (k + 1) 0] ++ [w.getD k 0, w.getD (k + 1) 0] ++ w.drop (k + 3)
  else []
/-- the moves of a word that are new, in turn, behind what is kept -/
def freshN (l : List (List Nat)) (w : List Nat) (n : Nat) : List (List Nat) :=
  (List.range n).foldl (fun acc k => if movedN w k == [] then acc else if (l ++ acc).any (· == movedN w k) then acc else acc ++ [movedN w k]) []
def okW (w : List Nat) : Bool := (upTo 6).any fun q => q.1 == w
def keptN : Nat → List (List Nat) → List (List Nat) → List Nat → Option (List (List Nat))
  | 0, _, _, _ => none
  | n + 1, l, ps, w =>
    if w == [] then some l
    else if Nat.ble l.length 30 && Nat.ble ps.length 30 && okW w then
      match ps ++ freshN l w (w.length - 1) with
      | [] => keptN n (l ++ freshN l w (w.length - 1)) [] []
      | v :: r => keptN n (l ++ freshN l w (w.length - 1)) r v
    else none
def keptOf (w : List Nat) : Option (List (List Nat)) := keptN 40 [w] [] w
def wordsN : Nat → List Nat → List (List Nat)
  | 0, _ => [[]]
  | n + 1, o =>
    let l := [0, 1, 2].flatMap fun k => if Nat.blt (o.getD (k + 1) 0) (o.getD k 0) then (wordsN n (swapAt o k)).map (· ++ [k]) else []
    if l.isEmpty then [[]] else l
def leN : List Nat → List Nat → Bool
  | [], _ => true
  | _ :: _, [] => false
  | a :: r, b :: t => if a == b then leN r t else Nat.ble a b
def insN (x : List Nat) : List (List Nat) → List (List Nat)
  | [] => [x]
  | y :: r => if leN x y then x :: y :: r else y :: insN x r
def sortN (l : List (List Nat)) : List (List Nat) := l.foldr insN []
def ins1 (x : Nat) : List Nat → List Nat
  | [] => [x]
  | y :: r => if Nat.ble x y then x :: y :: r else y :: ins1 x r
def belowN (lo up : List Nat) : Bool := [1, 2, 3].all fun k => !(((lo.take k).foldr ins1 []).zip ((up.take k).foldr ins1 [])).any fun p => Nat.blt p.2 p.1
def subN : List Nat → List Nat → Bool
  | [], _ => true
  | _ :: _, [] => false
  | a :: r, b :: t => if a == b then subN r t else subN (a :: r) t
def chkU (s : List Nat × List Nat) : Bool := match keptOf s.1 with
  | some ws => sortN ws == sortN (wordsN 7 s.2) && ws.all fun w => (upTo 6).any fun q => q.1 == w && q.2 == s.2
  | none => false
theorem chkU_tab : (upTo 6).all chkU = true := by decide +kernel
def chkP (s q : List Nat × List Nat) : Bool := match keptOf q.1 with
  | some ls => (ls.any fun p => subN p s.1) == belowN q.2 s.2
  | none => false
theorem chkP_tab : (upTo 6).all (fun s => (upTo 4).all fun q => chkP s q) = true := by decide +kernel
/-! ## a move on texts -/
def allT : Nat → List (List Nat)
  | 0 => [[]]
  | n + 1 => [] :: (allT n).flatMap fun w => [0 :: w, 1 :: w, 2 :: w]
theorem mem_allT : ∀ {n : Nat} {w : List Nat}, w.length ≤ n → (∀ x ∈ w, x < 3) → w ∈ allT n
  | 0, [], _, _ => .head _
  | _ + 1, [], _, _ => .head _
  | n + 1, b :: w, h, hw => by
    refine .tail _ (List.mem_flatMap.mpr ⟨w, mem_allT (by simpa using h) (fun x hx => hw x (.tail _ hx)), ?_⟩)
    match b, hw b (.head _) with
    | 0, _ => exact .head _
    | 1, _ => exact .tail _ (.head _)
    | 2, _ => exact .tail _ (.tail _ (.head _))
end PQ1_01
section PG1_01
theorem still_G1_01 : True := by
  w_top off
  trivial
local macro_rules | `(tactic| walk_at "idle 0") => `(tactic| fail)
local macro_rules | `(tactic| walk_at "idle 1") => `(tactic| fail)
local macro_rules | `(tactic| walk_at "idle 2") => `(tactic| fail)
open PySem.Spec PyProof.Rows
/-! ## _law_grown -/
theorem gfoldl_take_succ {α β : Type} {l : List α} {i : Nat} {q : α} {f : β → α → β} {b : β} (h : l[i]? = some q) : (l.take (i + 1)).foldl f b = f ((l.take i).foldl f b) q := by
  rw [List.take_add_one, h, List.foldl_append]; rfl
theorem encT_len (w : List Nat) : (encT w).length = w.length := by simp [encT, Str.length]
theorem encT_app (v w : List Nat) : encT v ++ encT w = encT (v ++ w) := by
  show (⟨(v.map cN).toArray ++ (w.map cN).toArray⟩ : Str) = ⟨((v ++ w).map cN).toArray⟩
  rw [List.map_append, List.append_toArray]
theorem ints_nat : ∀ {figs : List Nat} {vs : List Value} {i : Nat} {v : Value}, IntsAre vs (figs.map Int.ofNat) → vs[i]? = some v → ∃ (f : Nat) (t : Tok), v = .int (f : Int) t ∧ figs[i]? = some f
  | [], _, _, _, .nil, h => by simp at h
  | f :: r, _, 0, v, .cons _ t hr, h => ⟨f, t, (Option.some.inj h).symm, rfl⟩
  | f :: r, _, i + 1, v, .cons _ t hr, h => by
    obtain ⟨g, t', h1, h2⟩ := ints_nat hr h
    exact ⟨g, t', h1, h2⟩
theorem grown_yes {W : List Nat} {a b c d : Nat} {k : Nat} (hk : k < 3) (h : [a, b, c, d].getD k 0 < [a, b, c, d].getD (k + 1) 0) : grownStep (W, [a, b, c, d]) k = (W ++ [k], swapAt [a, b, c, d] k) := by
  unfold grownStep
  rw [if_pos]
  rw [Bool.and_eq_true]
  exact ⟨by simpa [Nat.blt_eq] using hk, by simpa [Nat.blt_eq] using h⟩
theorem grown_no {W : List Nat} {a b c d : Nat} {k : Nat} (h : 3 ≤ k ∨ [a, b, c, d].getD (k + 1) 0 ≤ [a, b, c, d].getD k 0) : grownStep (W, [a, b, c, d]) k = (W, [a, b, c, d]) := by
  unfold grownStep
  rw [if_neg]
  rw [Bool.and_eq_true, Nat.blt_eq, Nat.blt_eq]
  rintro ⟨h1, h2⟩
  rcases h with h | h
  · omega
  · exact absurd h2 (Nat.not_lt.mpr h)
local macro_rules | `(tactic| walk_at "exec For") => `(tactic| ((fail_if_success (have : Go 1 := by assumption)); refine Stop.mk ?_))
local macro_rules | `(tactic| walk_at "exec While") => `(tactic| ((fail_if_success (have : Go 1 := by assumption)); refine Stop.mk ?_))
local macro_rules | `(tactic| walk_at "pyIter ref") => `(tactic| (refine Stop.mk ?_))
set_option maxRecDepth 100000 in
set_option maxHeartbeats 0 in
theorem grown_con (w : World) (rest : List (Addr × Obj)) (FL : Addr) (figs : List Nat) (vs : List Value) (kF : Nat) (hvs : IntsAre vs (figs.map Int.ofNat)) (hf : ∀ f ∈ figs, f < 4) (hl : figs.length ≤ 6) :
   Con w (.ref 251) [.ref FL] 1 1 ((FL, listOf vs.toArray kF) :: rest)
     (fun news' r => ∃ T O n tw ovs, r = .ref T ∧ IntsAre ovs ((grownOf figs).2.map Int.ofNat) ∧ AllLt O rest ∧ news' = (T, tupO (.str (encT (grownOf figs).1) tw) (.ref O)) :: (O, listOf ovs.toArray n) :: (FL, listOf vs.toArray kF) :: rest) := by
  unfold Con
  k_fill
  intro p loose mean mg mb dp un gd cn csc a ccd cl outer A₀ base h₀ L m s Q E hB hF hX hN hT hck hdp hun hret
  (refine' code_def (binds := [("figures", .ref FL)]) ?k1 ?k2 ?k3 ?k4 ?k5 ?kA ?kF ?kK ?k6 ?k7 ?k8 ?k9 ?kB ?_ ?c2 ?c3 ?c4 ?c5; (case kA => exact rfl); (case kF => exact rfl); (case kK => assumption); (case k1 => k_asm); (case k2 => k_asm); (case k3 => k_asm); (case k4 => k_asm); (case k5 => k_asm); (case k6 => k_is); (case k7 => k_is); (case k8 => ktr_room); (case k9 => first | exact BindsTo.of_eq rfl | exact binds_K (by k_in) rfl (by k_is) rfl rfl rfl); (case c5 => decide); (case kB => exact locs rfl); (case c2 => exact rfl); (case c3 => exact rfl); (case c4 => exact rfl); k_whole; intro g' L' h' FG' F' N' B' X' T'; (try dsimp only); (try k_lift B'); (try k_fold))
  k_steps
  refine Stop.out ?_
  rename Fr _ _ _ _ => F9
  rename News _ _ _ _ => N9
  with_unfolding_all refine' For_turns F9 ?_ ?k1 ?k2
  case k1 => exact fun _ => rfl
  case k2 => passes_own
  k_steps
  refine Stop.out ?_
  rename _ ∧ AllLt _ rest => l1
  obtain ⟨O, mm, t1, t2, t3, t4, F9, hmo, ⟨tw0, hmw⟩, N9, l1⟩ : ∃ (O : Addr) (mm : Str → Option Value) (t1 t2 t3 t4 : Tok), Fr g' L' _ mm ∧ mm "order" = some (.ref O) ∧ (∃ t, mm "word" = some (.str (encT []) t)) ∧ News g' L' _ ((O, listOf #[.int ((0 : Nat) : Int) t1, .int ((1 : Nat) : Int) t2, .int ((2 : Nat) : Int) t3, .int ((3 : Nat) : Int) t4] 0) :: (FL, listOf vs.toArray kF) :: rest) ∧ (@LT.lt Nat _ FL O ∧ AllLt O rest) := ⟨_, _, _, _, _, _, F9, rfl, ⟨_, rfl⟩, N9, l1⟩
  refine kdt_iter (l := FL) (vs := vs) (nn := kF) (fun i m nx => m "order" = some (.ref O) ∧ ∃ (W : List Nat) (a b c d : Nat) (ta tb tc td tw : Tok) (n : Nat), m "word" = some (.str (encT W) tw) ∧ (figs.take i).foldl grownStep ([], [0, 1, 2, 3]) = (W, [a, b, c, d]) ∧ W.length ≤ i ∧
    nx = (O, listOf #[.int (a : Int) ta, .int (b : Int) tb, .int (c : Int) tc, .int (d : Int) td] n) :: (FL, listOf vs.toArray kF) :: rest) rfl (.tail _ (.head _)) F9 N9 ⟨hmo, [], 0, 1, 2, 3, _, _, _, _, _, _, hmw, rfl, Nat.le_refl _, rfl⟩ ?turn ?done
  case turn =>
    rintro i v m₁ news₁ h tk own hv hoff _ hp90 F₁ N₁
    try k_fold
    obtain ⟨g1, W, a, b, c, d, ta, tb, tc, td, tw, n, g2, hfold, hWl, rfl⟩ := hp90
    obtain ⟨f, tf, rfl, hfi⟩ := ints_nat hvs hv
    have hf4 := hf f (List.mem_of_getElem? hfi)
    have hil : i < 6 := Nat.lt_of_lt_of_le (List.getElem?_eq_some_iff.mp hfi).1 hl
    have hstep := gfoldl_take_succ (f := grownStep) (b := ([], [0, 1, 2, 3])) hfi
    rw [hfold] at hstep
    have hWt : (encT W).length ≤ 6 := by rw [encT_len]; omega
    have F2 := Fr.al [("order", .ref O), ("word", .str (encT W) tw)] F₁ (al_cons g1 (al_cons g2 al_nil))
    have hof2 : OwnOff own [O] := own_of_off hoff (.head _)
    obtain ⟨tl, htl⟩ : ∃ z, z = rest ++ own := ⟨_, rfl⟩
    have N2 := News.sub (new := (O, listOf #[.int (a : Int) ta, .int (b : Int) tb, .int (c : Int) tc, .int (d : Int) td] n) :: (FL, listOf vs.toArray kF) :: tl) N₁ (fun z hz => by rw [htl] at hz; exact hz)
    have hof3 : OwnOff tl [O] := htl ▸ own_app (own_lt l1.2 (Nat.le_refl _)) hof2
    have turn_end : ∀ {W' : List Nat} {a' b' c' d' : Nat} {ta' tb' tc' td' tw' : Tok} {n' : Nat} {m' : Str → Option Value} {h' : Heap} {tk' : Nat} {all : List (Addr × Obj)} {s1 : Shared}, grownStep (W, [a, b, c, d]) f = (W', [a', b', c', d']) → W'.length ≤ W.length + 1 → m' "order" = some (.ref O) → m' "word" = some (.str (encT W') tw') → Fr g' L' h' m' → News g' L' h' all →
        (∀ z ∈ (O, listOf #[.int (a' : Int) ta', .int (b' : Int) tb', .int (c' : Int) tc', .int (d' : Int) td'] n') :: (FL, listOf vs.toArray kF) :: tl, z ∈ all) →
        InvEndG g' L' (fun m' nx => (FL, listOf vs.toArray kF) ∈ nx ∧ m' "order" = some (.ref O) ∧ ∃ (W : List Nat) (a b c d : Nat) (ta tb tc td tw : Tok) (n : Nat), m' "word" = some (.str (encT W) tw) ∧ (figs.take (i + 1)).foldl grownStep ([], [0, 1, 2, 3]) = (W, [a, b, c, d]) ∧ W.length ≤ i + 1 ∧
          nx = (O, listOf #[.int (a : Int) ta, .int (b : Int) tb, .int (c : Int) tc, .int (d : Int) td] n) :: (FL, listOf vs.toArray kF) :: rest) own s1 { s1 with heap := h', toks := tk' } := by
      intro W' a' b' c' d' ta' tb' tc' td' tw' n' m' h' tk' all s1 e1 e2 e3 e4 F8 N8 hall
      refine InvEndG.intro (nx := (O, listOf #[.int (a' : Int) ta', .int (b' : Int) tb', .int (c' : Int) tc', .int (d' : Int) td'] n') :: (FL, listOf vs.toArray kF) :: rest) F8 N8 ⟨.tail _ (.head _), e3, W', a', b', c', d', ta', tb', tc', td', tw', n', e4, by rw [hstep, e1], by omega, rfl⟩ hoff (fun z hz => hall z ?_) (fun z hz => hall z ?_)
      · rcases List.mem_cons.mp hz with rfl | hz
        · exact .head _
        rcases List.mem_cons.mp hz with rfl | hz
        · exact .tail _ (.head _)
        · exact .tail _ (.tail _ (htl ▸ List.mem_append_left _ hz))
      · exact .tail _ (.tail _ (htl ▸ List.mem_append_right _ hz))
    clear F₁ F9 N9 N₁ hmw
    rcases (show f = 0 ∨ f = 1 ∨ f = 2 ∨ f = 3 by omega) with rfl | rfl | rfl | rfl
    · have he : encT (W ++ [0]) = encT W ++ Str.ofString " " := by rw [← encT_app]; rfl
      k_steps
      · rename [_, _, _, _].getD _ _ < _ => hc
        have hc : (a : Int) < (b : Int) := hc
        rename Fr g' L' _ _ => F8
        rename News g' L' _ _ => N8
        exact turn_end (W' := W ++ [0]) (a' := b) (b' := a) (c' := c) (d' := d) (grown_yes (by decide) (show a < b by omega)) (by simp) rfl (by rw [he]; rfl) F8 N8 (fun z hz => .tail _ hz)
      · rename ¬ ([_, _, _, _].getD _ _ < _) => hc
        have hc : ¬ (a : Int) < (b : Int) := hc
        rename Fr g' L' _ _ => F8
        rename News g' L' _ _ => N8
        exact turn_end (grown_no (.inr (show b ≤ a by omega))) (by omega) rfl rfl F8 N8 (fun z hz => hz)
    · have he : encT (W ++ [1]) = encT W ++ Str.ofString "\"" := by rw [← encT_app]; rfl
      k_steps
      · rename [_, _, _, _].getD _ _ < _ => hc
        have hc : (b : Int) < (c : Int) := hc
        rename Fr g' L' _ _ => F8
        rename News g' L' _ _ => N8
        exact turn_end (W' := W ++ [1]) (a' := a) (b' := c) (c' := b) (d' := d) (grown_yes (by decide) (show b < c by omega)) (by simp) rfl (by rw [he]; rfl) F8 N8 (fun z hz => .tail _ hz)
      · rename ¬ ([_, _, _, _].getD _ _ < _) => hc
        have hc : ¬ (b : Int) < (c : Int) := hc
        rename Fr g' L' _ _ => F8
        rename News g' L' _ _ => N8
        exact turn_end (grown_no (.inr (show c ≤ b by omega))) (by omega) rfl rfl F8 N8 (fun z hz => hz)
    · have he : encT (W ++ [2]) = encT W ++ Str.ofString "\\" := by rw [← encT_app]; rfl
      k_steps
      · rename [_, _, _, _].getD _ _ < _ => hc
        have hc : (c : Int) < (d : Int) := hc
        rename Fr g' L' _ _ => F8
        rename News g' L' _ _ => N8
        exact turn_end (W' := W ++ [2]) (a' := a) (b' := b) (c' := d) (d' := c) (grown_yes (by decide) (show c < d by omega)) (by simp) rfl (by rw [he]; rfl) F8 N8 (fun z hz => .tail _ hz)
      · rename ¬ ([_, _, _, _].getD _ _ < _) => hc
        have hc : ¬ (c : Int) < (d : Int) := hc
        rename Fr g' L' _ _ => F8
        rename News g' L' _ _ => N8
        exact turn_end (grown_no (.inr (show d ≤ c by omega))) (by omega) rfl rfl F8 N8 (fun z hz => hz)
    · k_steps
      rename Fr g' L' _ _ => F8
      rename News g' L' _ _ => N8
      exact turn_end (grown_no (.inl (Nat.le_refl 3))) (by omega) rfl rfl F8 N8 (fun z hz => hz)
  case done =>
    rintro m₁ news₁ h tk hp90 F₁ N₁
    try k_fold
    obtain ⟨g1, W, a, b, c, d, ta, tb, tc, td, tw, n, g2, hfold, hWl, rfl⟩ := hp90
    have F2 := Fr.al [("order", .ref O), ("word", .str (encT W) tw)] F₁ (al_cons g1 (al_cons g2 al_nil))
    rw [List.take_of_length_le (show figs.length ≤ vs.length by have := hvs.length; simp only [List.length_map] at this; omega)] at hfold
    have hg : grownOf figs = (W, [a, b, c, d]) := hfold
    rw [hg] at hret
    clear F₁ F9 N9 hmw
    k_steps
    exact hret _ _ _ _ (by assumption) (by assumption) ⟨_, O, n, tw, [.int (a : Int) ta, .int (b : Int) tb, .int (c : Int) tc, .int (d : Int) td], rfl, .cons _ _ (.cons _ _ (.cons _ _ (.cons _ _ .nil))), l1.2, rfl⟩
end PG1_01
section PM1_01
theorem still_M1_01 : True := by
  w_top off
  trivial
open PySem.Spec PySem.Calls PyProof.Rows PyProof.Rows.LCg
section
variable {prog : Program} {w : World} {A : Around} {E : Value → Shared → Prop} {s : Shared} {h₀ : Heap} {L : Addr} {m : Str → Option Value} {env : Env}
theorem SrcN.str {ifs : List PySem.Expr} {elt : PySem.Expr} {x : Str} {scope : Scope} {cl : List (Str × Addr)} {Fin : Shared → Addr → List Value → List (Addr × Obj) → Heap → Nat → Prop} {s₁ : Shared} {z : Str} {tz : Tok} {news : List (Addr × Obj)} (J : Nat → List Value → List (Addr × Obj) → Prop)
    (hh : A.handled = none) (F : Fr h₀ L s₁.heap m) (N : News h₀ L s₁.heap news) (hsz : z.cps.size ≤ sizeLine) (hj : J 0 [] news)
    (turn : TurnN prog w A h₀ L m env ifs elt x scope cl s₁ z.cps.size (SignAt z) [] J)
    (fin : ∀ ys D nx h tk, J z.cps.size ys nx → ys.length ≤ z.cps.size → News h₀ L h ((D, lst ys) :: nx) → (∀ p ∈ nx, p.1 ≠ D) → Fin s₁ D ys nx h tk) :
    SrcN prog w A E h₀ L m env ifs elt x scope cl Fin (.str z tz) s₁ := by
  refine ⟨z.cps.size, [], news, _, J, hsz, F, N, fun p hp => (nomatch hp), hj, fun E' Q' hQ => ?_, turn, fin⟩
  cases ha : z.cps.all (· < 128)
  · exact wpAny_pyIter_wide ha (hQ _ _ (Walks.strWide hh _ z tz) (fun i h st => by obtain ⟨o, e, _⟩ := st; exact ⟨o, e⟩) ⟨_, Heap.get?_push_size _ rfl, rfl, rfl⟩)
  · exact wpAny_pyIter_ascii ha (hQ _ _ (Walks.strAscii hh _ z tz) (fun i h st => by obtain ⟨o, e, _⟩ := st; exact ⟨o, e⟩) ⟨_, Heap.get?_push_size _ rfl, rfl, rfl⟩)
end
/-! ## _law_moved: the texts -/
def movedOk (w : List Nat) (k : Nat) : Bool :=
  let x := encT w
  let a := w.getD k 0
  let b := w.getD (k + 1) 0
  (Txt.slice x (some (k : Int)) (some ((k : Int) + 2)) == encT [a, b]) && (Txt.slice x (some ((k : Int) + 2)) (some ((k : Int) + 3)) == Txt.item x (k : Int)) == (Nat.blt (k + 2) w.length && w.getD (k + 2) 0 == a) &&
  (Txt.item x (k : Int) == encT [a]) && (Txt.item x ((k : Int) + 1) == encT [b]) && (Txt.slice x none (some (k : Int)) == encT (w.take k)) && (Txt.slice x (some ((k : Int) + 2)) none == encT (w.drop (k + 2))) && (Txt.slice x (some ((k : Int) + 3)) none == encT (w.drop (k + 3)))
theorem moved_tab : (upTo 6).all (fun q => Nat.ble q.1.length 6 && q.1.all (Nat.blt · 3) && (List.range (q.1.length - 1)).all fun k => movedOk q.1 k) = true := by decide +kernel
theorem getD_mem {l : List Nat} {i : Nat} (h : i < l.length) : l.getD i 0 ∈ l := by
  rw [List.getD_eq_getElem?_getD, List.getElem?_eq_getElem h]
  exact List.getElem_mem h
theorem ints_snoc : ∀ {vs : List Value} {ns : List Int} {n : Int} {t : Tok}, IntsAre vs ns → IntsAre (vs ++ [.int n t]) (ns ++ [n])
  | _, _, _, _, .nil => .cons _ _ .nil
  | _, _, _, _, .cons a u h => .cons a u (ints_snoc h)
theorem ints_two {vs : List Value} {a b : Int} (h : IntsAre vs [a, b]) : ∃ ta tb, vs = [.int a ta, .int b tb] := by
  cases h with
  | cons _ ta h =>
    cases h with
    | cons _ tb h =>
      cases h
      exact ⟨ta, tb, rfl⟩
theorem moved_all {wd : List Nat} {k : Nat} (hw : okW wd = true) (hk : k + 1 < wd.length) : wd.length ≤ 6 ∧ (∀ x ∈ wd, x < 3) ∧ movedOk wd k = true := by
  obtain ⟨q, hq, h1⟩ := List.any_eq_true.mp hw
  have h2 := List.all_eq_true.mp moved_tab q hq
  rw [eq_of_beq h1] at h2
  simp only [Bool.and_eq_true, Nat.ble_eq] at h2
  exact ⟨h2.1.1, fun x hx => by simpa [Nat.blt_eq] using List.all_eq_true.mp h2.1.2 x hx, List.all_eq_true.mp h2.2 k (List.mem_range.mpr (by omega))⟩
local macro_rules | `(tactic| walk_at "exec For") => `(tactic| ((fail_if_success (have : Go 1 := by assumption)); refine Stop.mk ?_))
local macro_rules | `(tactic| walk_at "exec While") => `(tactic| ((fail_if_success (have : Go 1 := by assumption)); refine Stop.mk ?_))
local macro_rules | `(tactic| walk_at "eval ListComp") => `(tactic| (refine Stop.mk ?_))
local macro_rules | `(tactic| walk_at "pyIter ref") => `(tactic| (refine Stop.mk ?_))
set_option maxRecDepth 100000 in
set_option maxHeartbeats 0 in
theorem moved_con (w : World) (news : List (Addr × Obj)) (wd : List Nat) (tw tk : Tok) (k : Nat) (hw : okW wd = true) (hk : k + 1 < wd.length) :
   Con w (.ref 256) [.str (encT wd) tw, .int (k : Int) tk] 1 1 news (fun news' r => news' = news ∧ ∃ t, r = .str (encT (movedN wd k)) t) := by
  obtain ⟨h6, h3, hok⟩ := moved_all hw hk
  have hk6 : k ≤ 4 := by omega
  have hwl : (encT wd).length ≤ 6 := by rw [encT_len]; exact h6
  have hkl : k + 1 < (encT wd).length := by rw [encT_len]; exact hk
  unfold Con
  k_fill
  intro p loose mean mg mb dp un gd cn csc a ccd cl outer A₀ base h₀ L m s Q E hB hF hX hN hT hck hdp hun hret
  (refine' code_def (binds := [("word", .str (encT wd) tw), ("k", .int (k : Int) tk)]) ?k1 ?k2 ?k3 ?k4 ?k5 ?kA ?kF ?kK ?k6 ?k7 ?k8 ?k9 ?kB ?_ ?c2 ?c3 ?c4 ?c5; (case kA => exact rfl); (case kF => exact rfl); (case kK => assumption); (case k1 => k_asm); (case k2 => k_asm); (case k3 => k_asm); (case k4 => k_asm); (case k5 => k_asm); (case k6 => k_is); (case k7 => k_is); (case k8 => ktr_room); (case k9 => first | exact BindsTo.of_eq rfl | exact binds_K (by k_in) rfl (by k_is) rfl rfl rfl); (case c5 => decide); (case kB => exact locs rfl); (case c2 => exact rfl); (case c3 => exact rfl); (case c4 => exact rfl); k_whole; intro g' L' h' FG' F' N' B' X' T'; (try dsimp only); (try k_lift B'); (try k_fold))
  k_steps
  refine Stop.out ?_
  rename Fr _ _ _ _ => F9
  rename News _ _ _ _ => N9
  obtain ⟨a, ha⟩ : ∃ a, a = wd.getD k 0 := ⟨_, rfl⟩
  obtain ⟨b, hb⟩ : ∃ b, b = wd.getD (k + 1) 0 := ⟨_, rfl⟩
  have ha3 : a < 3 := ha ▸ h3 _ (getD_mem (by omega))
  have hb3 : b < 3 := hb ▸ h3 _ (getD_mem (by omega))
  unfold movedOk at hok
  dsimp only at hok
  rw [← ha, ← hb] at hok
  simp only [Bool.and_eq_true, beq_iff_eq] at hok
  obtain ⟨⟨⟨⟨⟨⟨e1, e2⟩, e3⟩, e4⟩, e5⟩, e6⟩, e7⟩ := hok
  k_dflt refine ListComp_N (_F₀ := F9) rfl (by decide) rfl (by decide) rfl ?_
  k_steps
  rename Fr _ _ _ _ => F8
  rename News _ _ _ _ => N8
  rw [e1]
  refine SrcN.str (news := news) (fun i ys nx => nx = news ∧ IntsAre ys (([a, b].take i).map Int.ofNat)) rfl F8 N8 (by rw [sizeLine_eq]; exact Nat.le_of_ble_eq_true rfl) ⟨rfl, .nil⟩ ?turn ?fin
  case turn =>
    clear F8 N8
    refine TurnN.plain rfl ?_
    rintro i v ys nx I oI C oC D m₂ h tk E' hi ⟨c, u, hc, rfl⟩ ⟨rfl, hys⟩ hsr hyl hC' hx' F' N' off' ne'
    obtain ⟨x, hx3, hxi, hxc⟩ : ∃ x, x < 3 ∧ [a, b][i]? = some x ∧ (⟨#[c]⟩ : Str) = encT [x] := by
      match i, hi, hc with
      | 0, _, hc => exact ⟨a, ha3, rfl, by rw [← Option.some.inj hc]; rfl⟩
      | 1, _, hc => exact ⟨b, hb3, rfl, by rw [← Option.some.inj hc]; rfl⟩
    rw [hxc] at hx'
    try k_fold
    have hint : ∀ t, IntsAre (ys ++ [.int (x : Int) t]) (([a, b].take (i + 1)).map Int.ofNat) := fun t => by
      rw [List.take_add_one, hxi, List.map_append]
      exact ints_snoc hys
    rcases (show x = 0 ∨ x = 1 ∨ x = 2 by omega) with rfl | rfl | rfl
    all_goals k_steps
    all_goals (rename Fr _ _ _ _ => F9)
    all_goals (rename News _ _ _ _ => N9)
    all_goals exact NEnd.intro F9 N9 (fun z hz => hz) off' hsr ⟨rfl, hint _⟩
  case fin =>
    rintro ys D nx h tk1 ⟨rfl, hys⟩ - N' hne F'
    obtain ⟨ta, tb, rfl⟩ : ∃ ta tb, ys = [.int (a : Int) ta, .int (b : Int) tb] := ints_two hys
    clear F8 N8 hys
    have hmv : movedN wd k = if (a == b + 2 || b == a + 2) then wd.take k ++ [b, a] ++ wd.drop (k + 2) else if Nat.blt (k + 2) wd.length && wd.getD (k + 2) 0 == a then wd.take k ++ [b] ++ [a, b] ++ wd.drop (k + 3) else [] := by
      unfold movedN; rw [← ha, ← hb]
    have hsw : Txt.slice (encT wd) none (some (k : Int)) ++ Txt.item (encT wd) ((k : Int) + 1) ++ Txt.item (encT wd) (k : Int) ++ Txt.slice (encT wd) (some ((k : Int) + 2)) none = encT (wd.take k ++ [b, a] ++ wd.drop (k + 2)) := by
      rw [e5, e4, e3, e6, encT_app, encT_app, encT_app]
      simp
    clear ha hb
    rcases (show a = 0 ∨ a = 1 ∨ a = 2 by omega) with rfl | rfl | rfl
    all_goals (rcases (show b = 0 ∨ b = 1 ∨ b = 2 by omega) with rfl | rfl | rfl)
    all_goals k_steps
    all_goals (rename Fr h₀ L _ m => F8)
    all_goals (rename News h₀ L _ _ => N8)
    all_goals (first
      | exact hret _ _ _ _ F8 (News.sub (new := nx) N8 (fun z hz => .tail _ hz)) ⟨rfl, _, by rw [hmv, if_pos (by decide), hsw]⟩
      | exact hret _ _ _ _ F8 (News.sub (new := nx) N8 (fun z hz => .tail _ hz)) ⟨rfl, _, by rw [hmv, if_neg (by decide), if_pos (e2.symm.trans (by assumption)), e5, e4, e1, e7, encT_app, encT_app, encT_app]⟩
      | exact hret _ _ _ _ F8 (News.sub (new := nx) N8 (fun z hz => .tail _ hz)) ⟨rfl, _, by rw [hmv, if_neg (by decide), if_neg (ne_true_of_eq_false (e2.symm.trans (by assumption)))]; rfl⟩)
end PM1_01
section PC19_01
theorem still_C19_01 : True := by
  w_top off
  trivial
open PySem.Spec PySem.Calls PyProof.Rows PyProof.Rows.LCg
/-! ## a comprehension with a pair, no test, over a list of the ledger of any length (twin of C10, made by twin.py) -/
section
variable {prog : Program} {w : World} {A : Around} {E : Value → Shared → Prop} {s : Shared} {h₀ : Heap} {L : Addr} {m : Str → Option Value} {env : Env}
def SrcP (prog : Program) (w : World) (A : Around) (h₀ : Heap) (L : Addr) (m : Str → Option Value) (env : Env) (elt : PySem.Expr) (a b : Str) (scope : Scope) (cl : List (Str × Addr)) (Q : Value → Shared → Prop) (xv : Value) (s₁ : Shared) : Prop :=
  ∃ (ax : Addr) (vs : List Value) (k : Nat) (news : List (Addr × Obj)) (J : Nat → List Value → Prop), xv = .ref ax ∧ A.handled = none ∧ Fr h₀ L s₁.heap m ∧ News h₀ L s₁.heap news ∧ (ax, listOf vs.toArray k) ∈ news ∧ vs.length ≤ sizeLine ∧ J 0 [] ∧
    (∀ (i : Nat) (v : Value), vs[i]? = some v → ∃ (T : Addr) (v1 v2 : Value), v = .ref T ∧ (T, tupO v1 v2) ∈ news ∧
      ∀ ys I oI C oC D m₂ h tk (E' : Value → Shared → Prop), J i ys → ys.length ≤ i → NsObj oC m₂ → m₂ a = some v1 → m₂ b = some v2 → Fr h₀ L h m → News h₀ L h ((I, oI) :: (C, oC) :: (D, lst ys) :: news) → Off3 I C D news → ((@Ne Nat I C) ∧ (@Ne Nat I D) ∧ (@Ne Nat C D)) →
      wpAny (model prog w) A (eval elt (compEnvC scope cl C env)) (fun y s₄ => QEnd h₀ L m s₁ ((I, oI) :: (C, oC) :: (D, lst ys) :: news) (J (i + 1) (ys ++ [y])) s₄) E' { s₁ with heap := h, toks := tk }) ∧
    (∀ ys D h tk, J vs.length ys → Fr h₀ L h m → News h₀ L h ((D, lst ys) :: news) → (∀ p ∈ news, p.1 < D) → Q (.ref D) { s₁ with heap := h, toks := tk })

theorem blockP {elt iter : PySem.Expr} {a b : Str} {pa pb tp : Pos} {kk : Nat} {scope : Scope} {cl : List (Str × Addr)} {pos : Pos} {s₂ : Shared} {I ax : Addr} {vs : List Value} {k : Nat} {news : List (Addr × Obj)} {J : Nat → List Value → Prop} {RR : Value → Addr → Result → Shared → Prop}
    (hh : A.handled = none) (hne : ax ≠ I) (hsz : vs.length ≤ sizeLine) (hit : s₂.heap.IsListIter I ax 0) (hax : (ax, listOf vs.toArray k) ∈ news)
    (hcell : ∀ y ∈ scope.names, y.2 ≠ .cell) (hkind : scope.kind = .function) (hxa : scope.names.lookup a = some .local) (hxb : scope.names.lookup b = some .local) (hab : ¬ a = b)
    (F : Fr h₀ L s₂.heap m) (N : News h₀ L s₂.heap news) (hIL : L ≠ I) (hI₀ : h₀.get? I = none) (off : ∀ p ∈ news, p.1 ≠ I) (hJ0 : J 0 [])
    (turn : ∀ (i : Nat) (v : Value), vs[i]? = some v → ∃ (T : Addr) (v1 v2 : Value), v = .ref T ∧ (T, tupO v1 v2) ∈ news ∧
      ∀ ys I oI C oC D m₂ h tk (E' : Value → Shared → Prop), J i ys → ys.length ≤ i → NsObj oC m₂ → m₂ a = some v1 → m₂ b = some v2 → Fr h₀ L h m → News h₀ L h ((I, oI) :: (C, oC) :: (D, lst ys) :: news) → Off3 I C D news → ((@Ne Nat I C) ∧ (@Ne Nat I D) ∧ (@Ne Nat C D)) →
      wpAny (model prog w) A (eval elt (compEnvC scope cl C env)) (fun y s₄ => QEnd h₀ L m s₂ ((I, oI) :: (C, oC) :: (D, lst ys) :: news) (J (i + 1) (ys ++ [y])) s₄) E' { s₂ with heap := h, toks := tk })
    (hRR : ∀ D C h tk m' ys, Fr h₀ L h m → News h₀ L h ((D, lst ys) :: news) → (∀ p ∈ news, p.1 < D) → h.Ns C m' → h₀.get? C = none → C ≠ L → C ≠ D → (∀ p ∈ news, p.1 ≠ C) → J vs.length ys → RR (.ref D) C (.ok .next) { s₂ with heap := h, toks := tk }) :
    wpAny (model prog w) A (newList []) (fun acc s₃ => wpAny (model prog w) A (newFunctionEnv scope env.globals cl [] env.qual none .none (some env)) (fun cenv s₄ =>
      codeAny (model prog w) A (.compStart (.ListComp elt [⟨.Tuple [.Name a pa, .Name b pb] kk tp, iter, [], 0⟩] scope pos) 0 (.ref I) acc { cenv with scope := relabel scope env }) (RR acc cenv.locals) s₄) E s₃) E s₂ := by
  refine wpAny_newObj_type (wpAny_newFunctionEnv hcell (by intro y hy; simp at hy) (fun h₁ hns₁ hsb₁ => ?_) hkind)
  dsimp only at hns₁ hsb₁ ⊢
  generalize hH2 : s₂.heap.push { cls := .type "list", dict := none, data := .seq ([] : List Value).toArray } = H2 at hns₁ hsb₁ ⊢
  have hCe : H2.objs.size = s₂.heap.objs.size + 1 := by rw [← hH2, Heap.size_push]
  generalize hCx : H2.objs.size = C at hns₁ hsb₁ hCe ⊢
  generalize hDe : s₂.heap.objs.size = D at hns₁ hsb₁ hCe ⊢
  have lt2 : ∀ {x : Addr} {o : Obj}, s₂.heap.get? x = some o → @LT.lt Nat _ x D := fun e => hDe ▸ Heap.lt_size e
  have up : ∀ x o, s₂.heap.get? x = some o → h₁.get? x = some o := fun x o e => hsb₁.extBut x o (show @Ne Nat x C from by have := lt2 e; omega) (Heap.get?_push_of_some _ (hH2 ▸ Heap.get?_push_of_some _ e))
  have none₀ : ∀ x : Addr, @LE.le Nat _ D x → h₀.get? x = none := fun x hx => by
    cases e : h₀.get? x with
    | none => rfl
    | some o => exact absurd (lt2 (F.keep x o e)) (Nat.not_lt.mpr hx)
  have hD₀ : h₀.get? D = none := none₀ D (Nat.le_refl _)
  have hC₀ : h₀.get? C = none := none₀ _ (show @LE.le Nat _ D C by omega)
  have hLlt : @LT.lt Nat _ L D := hDe ▸ F.ns.lt
  have hIlt : @LT.lt Nat _ I D := by obtain ⟨o, e, _⟩ := hit; exact lt2 e
  have nlt : ∀ p ∈ news, @LT.lt Nat _ p.1 D := fun p hp => lt2 (N p hp).1
  have hDL : D ≠ L := Nat.ne_of_gt hLlt
  have hCL : C ≠ L := show @Ne Nat C L by omega
  have hCI : I ≠ C := show @Ne Nat I C by omega
  have hDI : I ≠ D := Nat.ne_of_lt hIlt
  have hDC : D ≠ C := show @Ne Nat D C by omega
  have off₀ : Off3 I C D news := Off3.of fun p hp => ⟨off p hp, show @Ne Nat p.1 C by have := nlt p hp; omega, Nat.ne_of_lt (nlt p hp)⟩
  have off3 := off₀.mem
  have hacc : h₁.get? D = some (lst []) := hsb₁.extBut _ _ hDC (Heap.get?_push_of_some _ (by rw [← hH2, ← hDe]; exact Heap.get?_push_size _ rfl))
  have hit₁ : h₁.IsListIter I ax 0 := by obtain ⟨o, e, r⟩ := hit; exact ⟨o, up _ _ e, r⟩
  have W := Walks.list (prog := prog) (w := w) (A := A) hh I ax hne vs.toArray
  have hlen : vs.toArray.size = vs.length := by simp
  have loop : ∀ s₃ : Shared, s₃ = { s₂ with heap := h₁, toks := s₂.toks + ([] : List (Str × Value)).length } →
      codeAny (model prog w) A (.compLoop (.ListComp elt [⟨.Tuple [.Name a pa, .Name b pb] kk tp, iter, [], 0⟩] scope pos) 0 (.ref I) (.ref D) (compEnvC scope cl C env)) (RR (.ref D) C) s₃ := by
    rintro s₃ rfl
    refine kcp_loop (fun q s' => ∃ h' tk i ys m', s' = { s₂ with heap := h', toks := tk } ∧ i ≤ vs.length ∧ q = vs.length + 1 - i ∧ ys.length ≤ i ∧ h'.IsListIter I ax i ∧ Fr h₀ L h' m ∧ h'.Ns C m' ∧ News h₀ L h' ((D, lst ys) :: news) ∧ J i ys) ?_ (vs.length + 1)
      ⟨h₁, _, 0, [], _, rfl, Nat.zero_le _, rfl, Nat.le_refl _, hit₁, F.keeps up, hns₁, fun p hp => ?_, hJ0⟩
    · rintro q s' ⟨h', tk, i, ys, m', rfl, hi, rfl, hyl, hit', F', hn', N', hJ⟩
      have hls' : h'.IsList ax vs.toArray := ⟨_, (N' _ (.tail _ hax)).1, rfl, k, rfl⟩
      by_cases hlt : i < vs.length
      · refine W.item i _ _ _ (by rw [hlen]; exact hlt) ⟨hit', hls'⟩ fun v h₂ tk₂ hPv hst₂ hk₂ => ?_
        have hv : vs[i]? = some v := by simpa using hPv
        obtain ⟨T, v1, v2, rfl, hT, go⟩ := turn i v hv
        have up₂ : ∀ x o, x ≠ I → h'.get? x = some o → h₂.get? x = some o := fun x o hx e => hk₂ x o (by simpa using hx) e
        refine wpAny_letOwnedTupleGo_listiter hst₂.1 ?_
        refine kcp_assign (env := compEnvC scope cl C env) hh ⟨_, up₂ _ _ (off _ hT) (N' _ (.tail _ hT)).1, rfl, 0, rfl⟩ (lookup_relabel_local hxa) (lookup_relabel_local hxb) (by simp [compEnvC, relabel, hkind]) (hn'.at' fun o e => up₂ _ o (Ne.symm hCI) e) fun h₄ tk₄ hn₄ hs₄ => ?_
        have up₄ : ∀ x o, x ≠ I → x ≠ C → h'.get? x = some o → h₄.get? x = some o := fun x o h1 h2 e => hs₄ x o h2 (up₂ x o h1 e)
        obtain ⟨oI, heI, hoI⟩ := hst₂.1
        have heI₄ : h₄.get? I = some oI := hs₄ I _ hCI heI
        obtain ⟨oC, heC, hoC⟩ := ns_obj hn₄
        have F₄ : Fr h₀ L h₄ m := ⟨F'.ns.at' fun o e => up₄ _ o hIL (Ne.symm hCL) e, fun x o e => up₄ x o (fun q => by rw [q, hI₀] at e; cases e) (fun q => by rw [q, hC₀] at e; cases e) (F'.keep x o e), F'.above⟩
        have N₄ : News h₀ L h₄ ((I, oI) :: (C, oC) :: (D, lst ys) :: news) := fun q hq => by
          rcases List.mem_cons.mp hq with rfl | hq
          · exact ⟨heI₄, Ne.symm hIL, hI₀⟩
          · rcases List.mem_cons.mp hq with rfl | hq
            · exact ⟨heC, hCL, hC₀⟩
            · have z := N' q hq
              rcases List.mem_cons.mp hq with rfl | hq
              · exact ⟨up₄ _ _ (Ne.symm hDI) hDC z.1, z.2⟩
              · exact ⟨up₄ _ _ (off3 q hq).1 (off3 q hq).2.1 z.1, z.2⟩
        have fin : ∀ (ys' : List Value) (h₅ : Heap) (tk₅ : Nat), ys'.length ≤ i + 1 → Fr h₀ L h₅ m → News h₀ L h₅ ((I, oI) :: (C, oC) :: (D, lst ys') :: news) → J (i + 1) ys' →
            ∃ q', q' < vs.length + 1 - i ∧ (∃ h' tk i ys m', ({ s₂ with heap := h₅, toks := tk₅ } : Shared) = { s₂ with heap := h', toks := tk } ∧ i ≤ vs.length ∧ q' = vs.length + 1 - i ∧ ys.length ≤ i ∧ h'.IsListIter I ax i ∧ Fr h₀ L h' m ∧ h'.Ns C m' ∧ News h₀ L h' ((D, lst ys) :: news) ∧ J i ys) := by
          intro ys' h₅ tk₅ hl F₅ N₅ hJ₅
          exact ⟨vs.length + 1 - (i + 1), by omega, h₅, tk₅, i + 1, ys', _, rfl, hlt, rfl, hl, ⟨oI, (N₅ _ (.head _)).1, hoI⟩, F₅, hoC.ns (N₅ _ (.tail _ (.head _))).1, fun q hq => N₅ q (.tail _ (.tail _ hq)), hJ₅⟩
        refine wpAny_mono (go ys I oI C oC D _ h₄ tk₄ _ hJ hyl hoC (by simp [hab]) (by simp) F₄ N₄ off₀ ⟨hCI, hDI, Ne.symm hDC⟩) (fun y s₆ h₆ => ?_) fun _ _ e => e
        obtain ⟨h₅, tk₅, rfl, F₅, N₅, J₅⟩ := h₆
        refine append_at (hsz := by show ys.toArray.size ≤ sizeLine; rw [List.size_toArray]; exact Nat.le_trans hyl (Nat.le_trans hi hsz)) (N₅ _ (.tail _ (.tail _ (.head _)))).1 fun h₆ hs₆ hD₆ => ?_
        refine fin (ys ++ [y]) h₆ _ (by rw [List.length_append, List.length_singleton]; exact Nat.succ_le_succ hyl) (F₅.change hs₆ hDL hD₀) (fun q hq => ?_) J₅
        rcases List.mem_cons.mp hq with rfl | hq
        · exact ⟨hs₆.extBut I oI hDI (N₅ _ (.head _)).1, Ne.symm hIL, hI₀⟩
        rcases List.mem_cons.mp hq with rfl | hq
        · exact ⟨hs₆.extBut _ oC (Ne.symm hDC) (N₅ _ (.tail _ (.head _))).1, hCL, hC₀⟩
        rcases List.mem_cons.mp hq with rfl | hq
        · exact ⟨hD₆.trans (congrArg some (lst_snoc ys y)), hDL, hD₀⟩
        · exact ⟨hs₆.extBut _ _ (off3 q hq).2.2 (N₅ q (.tail _ (.tail _ (.tail _ hq)))).1, (N₅ q (.tail _ (.tail _ (.tail _ hq)))).2⟩
      · have hin : i = vs.length := Nat.le_antisymm hi (Nat.not_lt.mp hlt)
        subst hin
        refine W.done _ _ _ (by rw [hlen]; exact ⟨hit', hls'⟩) fun h₂ tk₂ hk₂ => ?_
        have up₂ : ∀ x o, x ≠ I → h'.get? x = some o → h₂.get? x = some o := fun x o hx e => hk₂ x o (by simpa using hx) e
        refine hRR _ _ h₂ tk₂ _ ys (fr_but F' hk₂ hIL hI₀) (fun q hq => ?_) nlt (hn'.at' fun o e => up₂ _ o (Ne.symm hCI) e) hC₀ hCL (Ne.symm hDC) (fun p hp => (off3 p hp).2.1) hJ
        have z := N' q hq
        rcases List.mem_cons.mp hq with rfl | hq
        · exact ⟨up₂ _ _ (Ne.symm hDI) z.1, z.2⟩
        · exact ⟨up₂ _ _ (off3 q hq).1 z.1, z.2⟩
    · rcases List.mem_cons.mp hp with rfl | hp
      · exact ⟨hacc, hDL, hD₀⟩
      · exact ⟨up _ _ (N p hp).1, (N p hp).2⟩
  exact codeAny_compStart_list (loop _ rfl) (W.self 0 _ _ _ ⟨hit₁, ⟨_, up _ _ (N _ hax).1, rfl, k, rfl⟩⟩ (loop _ rfl))
theorem ListComp_P {elt iter : PySem.Expr} {a b : Str} {pa pb tp : Pos} {kk : Nat} {scope : Scope} {cl : List (Str × Addr)} {pos : Pos} {Q : Value → Shared → Prop} (_F₀ : Fr h₀ L s.heap m)
    (hclos : closureFor scope env = pure cl) (hcell : ∀ y ∈ scope.names, y.2 ≠ .cell) (hkind : scope.kind = .function)
    (hnames : ∀ y ∈ scope.names, y.2 = .local → scope.names.lookup y.1 = some .local) (hxa : scope.names.lookup a = some .local) (hxb : scope.names.lookup b = some .local) (hab : ¬ a = b)
    (h : wpAny (model prog w) A (eval iter env) (SrcP prog w A h₀ L m env elt a b scope cl Q) E s)
    (hs : ∀ x, foldedSetIterable iter env x = pure x := by intro _; rfl) :
    wpAny (model prog w) A (eval (.ListComp elt [⟨.Tuple [.Name a pa, .Name b pb] kk tp, iter, [], 0⟩] scope pos) env) Q E s := by
  rw [eval_ListComp]
  refine wpAny_comprehension_free (use := none) rfl hs hclos hkind hnames (wpAny_mono h (fun xv s₁ h₁ => ?_) fun _ _ e => e)
  obtain ⟨ax, vs, k, news, J, rfl, hh, F, N, hax, hsz, hJ0, turn, done⟩ := h₁
  have hol : s₁.heap.get? ax = some (listOf vs.toArray k) := (N _ hax).1
  have hls : s₁.heap.IsList ax vs.toArray := ⟨_, hol, rfl, k, rfl⟩
  refine wpAny_pyIter_list hls ?_
  refine blockP (J := J) (k := k) (news := news) hh (Nat.ne_of_lt (Heap.lt_size hol)) hsz ⟨_, Heap.get?_push_size _ rfl, rfl, rfl⟩ hax hcell hkind hxa hxb hab (F.push _)
    (fun p hp => ⟨Heap.get?_push_of_some _ (N p hp).1, (N p hp).2⟩) (Nat.ne_of_lt F.ns.lt) (next_is_new F) (fun p hp => Nat.ne_of_lt (Heap.lt_size (N p hp).1)) hJ0 turn ?_
  intro D C h tk m' ys F' N' hlt hn hC₀ hCL hCD offC hJ
  refine ⟨m', hn, fun h'' hs'' => done ys D h'' tk hJ (F'.change hs'' hCL hC₀) (fun p hp => ?_) hlt⟩
  refine ⟨hs''.extBut _ _ ?_ (N' p hp).1, (N' p hp).2⟩
  rcases List.mem_cons.mp hp with rfl | hp
  · exact Ne.symm hCD
  · exact offC p hp
end
end PC19_01
section PK2_01
theorem still_K2_01 : True := by
  w_top off
  trivial
open PySem.Spec PySem.Calls PyProof.Rows PyProof.Rows.LCg
/-! ## Headers.keys -/
local macro_rules | `(tactic| walk_at "eval ListComp") => `(tactic| (refine Stop.mk ?_))
local macro_rules | `(tactic| walk_at "exec Return some ListComp") => `(tactic| (refine Stop.mk ?_))
set_option maxRecDepth 100000 in
set_option maxHeartbeats 0 in
theorem keys_con (w : World) (rest tups : List (Addr × Obj)) (l : List (Str × Str)) (hx dx hl : Addr) (tk1 : Tok) (k : Nat) (ht : TabIs tups l) (hin : ∀ p ∈ tups, p ∈ rest) (hlen : l.length ≤ 1000) :
   Con w (.ref 185) [.ref hx] 1 1 ((hl, listOf (refsOf tups).toArray k) :: (hx, instObj 233 dx) :: (dx, hdrO w.params (tk1) (hl)) :: rest)
     (fun news' r => ∃ D yl, r = .ref D ∧ List.map (fun p : Str × Tok => p.1) yl = l.map (·.1) ∧ AllLt D rest ∧ news' = (D, lst (strValues yl)) :: (hl, listOf (refsOf tups).toArray k) :: (hx, instObj 233 dx) :: (dx, hdrO w.params (tk1) (hl)) :: rest) := by
  have hrl : (refsOf tups).length = l.length := (List.length_map ..).trans ht.len
  unfold Con
  k_fill
  intro p loose mean mg mb dp un gd cn csc a ccd cl outer A₀ base h₀ L m s Q E hB hF hX hN hT hck hdp hun hret
  (refine' code_def (binds := [("self", .ref hx)]) ?k1 ?k2 ?k3 ?k4 ?k5 ?kA ?kF ?kK ?k6 ?k7 ?k8 ?k9 ?kB ?_ ?c2 ?c3 ?c4 ?c5; (case kA => exact rfl); (case kF => exact rfl); (case kK => assumption); (case k1 => k_asm); (case k2 => k_asm); (case k3 => k_asm); (case k4 => k_asm); (case k5 => k_asm); (case k6 => k_is); (case k7 => k_is); (case k8 => ktr_room); (case k9 => first | exact BindsTo.of_eq rfl | exact binds_K (by k_in) rfl (by k_is) rfl rfl rfl); (case c5 => decide); (case kB => exact locs rfl); (case c2 => exact rfl); (case c3 => exact rfl); (case c4 => exact rfl); k_whole; intro g' L' h' FG' F' N' B' X' T'; (try dsimp only); (try k_lift B'); (try k_fold))
  replace hin : ∀ p ∈ tups, p ∈ rest := hin
  k_steps
  refine Stop.out ?_
  rename Fr g' L' _ _ => F9
  k_dflt refine ListComp_P F9 rfl (by decide) rfl (by decide) rfl rfl (by decide) ?_
  k_steps
  rename Fr g' L' _ _ => F8
  rename News g' L' _ _ => N8
  refine ⟨hl, refsOf tups, k, _, fun i ys => ∃ yt : List (Str × Tok), ys = strValues yt ∧ yt.map (·.1) = (l.take i).map (·.1), rfl, rfl, F8, N8, by k_memK, by rw [hrl, sizeLine_eq]; omega, ⟨[], rfl, rfl⟩, ?_, ?_⟩
  · intro i v hv
    obtain ⟨⟨T, oT⟩, hT1, rfl⟩ : ∃ p, tups[i]? = some p ∧ v = .ref p.1 := by
      simp only [refsOf, List.getElem?_map, Option.map_eq_some_iff] at hv
      obtain ⟨p, h1, h2⟩ := hv
      exact ⟨p, h1, h2.symm⟩
    obtain ⟨⟨kx, vx⟩, t1, t2, hl1, hT3⟩ := ht.at hT1
    dsimp only at hT3
    subst hT3
    have hmem : (T, tupO (.str kx t1) (.str vx t2)) ∈ rest := hin _ (List.mem_of_getElem? hT1)
    refine ⟨T, .str kx t1, .str vx t2, rfl, ?_, ?_⟩
    · repeat' (first | exact hmem | refine List.Mem.tail _ ?_)
    intro ys I oI C oC D9 m₂ h9 tk9 E' ⟨yt, hys, hyt⟩ hyl hC' hx' hy' F'' N'' off' ne'
    clear F8 N8
    replace hin : True := trivial
    k_steps
    exact QEnd.intro (by assumption) (by assumption) ⟨yt ++ [(kx, t1)], by rw [hys]; simp [strValues], by rw [List.map_append, hyt, List.take_add_one, hl1, List.map_append]; rfl⟩
  · intro ys D9 h9 tk9 ⟨yt, hys, hyt⟩ F'' N'' hlt9
    clear F8 N8
    rw [List.take_of_length_le (by rw [hrl]; exact Nat.le_refl _)] at hyt
    replace hin : True := trivial
    k_steps
    rename News h₀ _ _ _ => N9
    subst hys
    exact hret _ _ _ _ (by assumption) N9 ⟨D9, yt, rfl, hyt, allLt_of fun p hp => hlt9 p (by repeat' (first | exact hp | refine List.Mem.tail _ ?_)), rfl⟩
end PK2_01
section PQ2_01
theorem still_Q2_01 : True := by
  w_top off
  trivial
open PySem.Spec PyProof.Rows
/-! ## plain law 1: the words kept -/
theorem safe_enc (w : List Nat) : SafeStr (encT w) := by
  intro i hi
  have hi' : i < w.length := by simpa [encT] using hi
  have e : (encT w).cps.getD i 0 = cN w[i] := by simp [encT, Array.getD_eq_getD_getElem?, hi']
  rw [e]
  unfold cN
  split <;> decide
def safeB (x : Str) : Bool := (List.range x.cps.size).all fun i => [32, 34, 92, 60, 62, 111, 110, 101, 100].contains (x.cps.getD i 0)
theorem safe_of {x : Str} (h : safeB x = true) : SafeStr x := by
  intro i hi
  have := List.all_eq_true.mp h i (List.mem_range.mpr hi)
  simpa using this
theorem cN_inj : ∀ {a b : Nat}, a < 3 → b < 3 → cN a = cN b → a = b
  | 0, 0, _, _, _ => rfl
  | 1, 1, _, _, _ => rfl
  | 2, 2, _, _, _ => rfl
  | 0, 1, _, _, h => absurd h (by decide)
  | 0, 2, _, _, h => absurd h (by decide)
  | 1, 0, _, _, h => absurd h (by decide)
  | 1, 2, _, _, h => absurd h (by decide)
  | 2, 0, _, _, h => absurd h (by decide)
  | 2, 1, _, _, h => absurd h (by decide)
theorem enc_inj : ∀ {v w : List Nat}, (∀ x ∈ v, x < 3) → (∀ x ∈ w, x < 3) → v.map cN = w.map cN → v = w
  | [], [], _, _, _ => rfl
  | [], _ :: _, _, _, h => by cases h
  | _ :: _, [], _, _, h => by cases h
  | a :: r, b :: t, hv, hw, h => by
    rw [List.map_cons, List.map_cons, List.cons.injEq] at h
    rw [cN_inj (hv _ (.head _)) (hw _ (.head _)) h.1, enc_inj (fun x hx => hv x (.tail _ hx)) (fun x hx => hw x (.tail _ hx)) h.2]
def okL (v : List Nat) : Prop := v.length ≤ 6 ∧ ∀ x ∈ v, x < 3
def okLb (v : List Nat) : Bool := Nat.ble v.length 6 && v.all (Nat.blt · 3)
theorem okL_of {v : List Nat} (h : okLb v = true) : okL v := by
  simp only [okLb, Bool.and_eq_true, Nat.ble_eq] at h
  exact ⟨h.1, fun x hx => by simpa [Nat.blt_eq] using List.all_eq_true.mp h.2 x hx⟩
theorem okW_tab : (upTo 6).all (fun q => okLb q.1 && (List.range (q.1.length - 1)).all fun k => okLb (movedN q.1 k)) = true := by decide +kernel
theorem okW_all {wd : List Nat} (hw : okW wd = true) : okL wd ∧ ∀ k, k + 1 < wd.length → okL (movedN wd k) := by
  obtain ⟨q, hq, h1⟩ := List.any_eq_true.mp hw
  have h2 := List.all_eq_true.mp okW_tab q hq
  rw [eq_of_beq h1] at h2
  simp only [Bool.and_eq_true] at h2
  exact ⟨okL_of h2.1, fun k hk => okL_of (List.all_eq_true.mp h2.2 k (List.mem_range.mpr (by omega)))⟩
theorem enc_beq {v w : List Nat} (hv : okL v) (hw : okL w) : (encT v == encT w) = (v == w) := by
  rw [Bool.eq_iff_iff, beq_iff_eq, beq_iff_eq]
  refine ⟨fun h => enc_inj hv.2 hw.2 ?_, fun h => by rw [h]⟩
  have h2 : (v.map cN).toArray = (w.map cN).toArray := congrArg Str.cps h
  exact congrArg Array.toList h2
theorem enc_nil {v : List Nat} : (encT v = Str.ofString "") ↔ v = [] := by
  constructor
  · intro h
    have h2 : (encT v).length = 0 := by rw [h]; rfl
    rw [encT_len] at h2
    exact List.length_eq_zero_iff.mp h2
  · rintro rfl; rfl
def tabOf (wl : List (List Nat)) : List (Str × Str) := wl.map fun v => (encT v, Str.ofString "")
theorem tabOf_len (wl : List (List Nat)) : (tabOf wl).length = wl.length := List.length_map ..
theorem tabOf_app (a b : List (List Nat)) : tabOf a ++ tabOf b = tabOf (a ++ b) := by simp [tabOf]
theorem tabOf_any {w : List Nat} (hw : okL w) : ∀ {wl : List (List Nat)}, (∀ v ∈ wl, okL v) → (tabOf wl).any (fun p => p.1 == encT w) = wl.any (· == w)
  | [], _ => rfl
  | v :: r, h => by
    show ((encT v == encT w) || (tabOf r).any _) = ((v == w) || r.any _)
    rw [enc_beq (h v (.head _)) hw, tabOf_any hw fun x hx => h x (.tail _ hx)]
theorem tabOf_safe {wl : List (List Nat)} (h : ∀ v ∈ wl, okL v) : ∀ p ∈ tabOf wl, SafeStr p.1 ∧ p.1.length ≤ 1000 := by
  intro p hp
  obtain ⟨v, hv, rfl⟩ := List.mem_map.mp hp
  exact ⟨safe_enc v, by show (encT v).length ≤ 1000; rw [encT_len]; have := (h v hv).1; omega⟩
theorem fresh_succ (l : List (List Nat)) (w : List Nat) (k : Nat) : freshN l w (k + 1) = if movedN w k == [] then freshN l w k else if (l ++ freshN l w k).any (· == movedN w k) then freshN l w k else freshN l w k ++ [movedN w k] := by
  unfold freshN
  rw [List.range_succ, List.foldl_append]
  rfl
theorem fresh_len (l : List (List Nat)) (w : List Nat) : ∀ k, (freshN l w k).length ≤ k
  | 0 => Nat.le_refl _
  | k + 1 => by
    have := fresh_len l w k
    rw [fresh_succ]
    split
    · omega
    · split
      · omega
      · rw [List.length_append, List.length_singleton]; omega
theorem fresh_ok {l : List (List Nat)} {w : List Nat} (h : ∀ k, k + 1 < w.length → okL (movedN w k)) : ∀ k, k + 1 ≤ w.length → ∀ v ∈ freshN l w k, okL v ∧ v ≠ []
  | 0, _, v, hv => nomatch hv
  | k + 1, hk, v, hv => by
    have ih := fresh_ok (l := l) h k (by omega)
    rw [fresh_succ] at hv
    split at hv
    · exact ih v hv
    · rename_i hne
      split at hv
      · exact ih v hv
      · rcases List.mem_append.mp hv with hv | hv
        · exact ih v hv
        · rw [List.mem_singleton.mp hv]
          exact ⟨h k (by omega), fun e => hne (by rw [e]; rfl)⟩
def keptNext (n : Nat) (l ps : List (List Nat)) : Option (List (List Nat)) := match ps with
  | [] => keptN n l [] []
  | v :: r => keptN n l r v
theorem kept_step {n : Nat} {l ps fin : List (List Nat)} {w : List Nat} (h : keptN n l ps w = some fin) :
    (w = [] ∧ l = fin) ∨ (w ≠ [] ∧ (l.length ≤ 30 ∧ ps.length ≤ 30 ∧ okW w = true) ∧ ∃ n', n = n' + 1 ∧ keptNext n' (l ++ freshN l w (w.length - 1)) (ps ++ freshN l w (w.length - 1)) = some fin) := by
  cases n with
  | zero => exact absurd h (by simp [keptN])
  | succ n =>
    unfold keptN at h
    by_cases hw : (w == []) = true
    · rw [if_pos hw] at h; exact .inl ⟨eq_of_beq hw, Option.some.inj h⟩
    · rw [if_neg hw] at h
      by_cases ho : (Nat.ble l.length 30 && Nat.ble ps.length 30 && okW w) = true
      · rw [if_pos ho] at h
        have ho' := ho
        simp only [Bool.and_eq_true, Nat.ble_eq] at ho'
        refine .inr ⟨fun e => hw (by rw [e]; rfl), ⟨ho'.1.1, ho'.1.2, ho'.2⟩, n, rfl, ?_⟩
        unfold keptNext
        exact h
      · rw [if_neg ho] at h; cases h
theorem enc_len_ne {w : List Nat} (h : w ≠ []) : (((encT w).length : Int) != 0) = true := by
  rw [encT_len]
  cases w with
  | nil => exact absurd rfl h
  | cons a r => simp; omega
end PQ2_01
section PR1_01
theorem still_R1_01 : True := by
  w_top off
  trivial
open PySem.Spec PySem.Calls PyProof.Rows PyProof.Rows.LCg
/-! ## a for over a range, the target a name of any kind -/
section
variable {prog : Program} {w : World} {A : Around} {E : Value → Shared → Prop} {s : Shared} {env : Env} {h₀ : Heap} {x : Str} {px : Pos} {body : List Stmt} {Q : Flow → Shared → Prop}
theorem kdr_iter {r : Addr} {b : Int} {t₀ u₀ v₀ : Tok} (n : Nat) {m₀ : Str → Option Value} {news : List (Addr × Obj)} (J : Nat → (Str → Option Value) → List (Addr × Obj) → Prop)
    (hh : A.handled = none) (hr : IsRange s.heap r 0 b 1 t₀ u₀ v₀) (hb : b = (n : Int)) (hn : n ≤ 1000000) (F : Fr h₀ env.locals s.heap m₀) (N : News h₀ env.locals s.heap news) (hj : J 0 m₀ news)
    (turn : ∀ i t m₁ news₁ h tk own, i < n → OwnOff own (news₁.map (·.1)) → J i m₁ news₁ → Fr h₀ env.locals h m₁ → News h₀ env.locals h (news₁ ++ own) →
      wpAny (model prog w) A (assign (.Name x px) env (.int (i : Int) t)) (fun _ s₃ => wpAny (model prog w) A (execs body env) (InvPostG h₀ env.locals (J (i + 1)) own { s with heap := h, toks := tk } Q) E s₃) E { s with heap := h, toks := tk })
    (done : ∀ m₁ news₁ h tk, J n m₁ news₁ → Fr h₀ env.locals h m₁ → News h₀ env.locals h news₁ → Q .next { s with heap := h, toks := tk }) :
    wpAny (model prog w) A (pyIter (.ref r)) (fun it s₂ => TurnsAt prog w A h₀ env (.Name x px) body Q E it s₂) E s := by
  subst hb
  have hsz : Builtin.Range.rangeSize 0 (n : Int) 1 = (n : Int) := by rw [rangeSize_nat]; omega
  refine wpAny_pyIter_range hr (small_one (by decide) (by decide) (by omega) (by omega)) ?_
  have W := KTurns.ofWalks (target := .Name x px) (range_walks (prog := prog) (w := w) (I := s.heap.objs.size) hh 0 n) fun i v s Q E st q => by unfold letOwnedTupleGo; exact wpAny_pure q
  refine ⟨_, _, _, n, _, _, _, m₀, news, J, rfl, W, ?_, ?_, ?_, (by show IsRangeIter _ _ _ _ _; rw [hsz]; simpa using Heap.get?_push_size _ rfl), F.push _, (fun p hp => ⟨Heap.get?_push_of_some _ (N p hp).1, (N p hp).2⟩), hj, ?_, ?_⟩
  · intro hm
    exact absurd F.ns.lt ((List.mem_singleton.mp hm) ▸ Nat.lt_irrefl _)
  · intro b hb
    rw [List.mem_singleton.mp hb]
    exact next_is_new F
  · intro p hp hI
    exact absurd (Heap.lt_size (N p hp).1) ((List.mem_singleton.mp hI) ▸ Nat.lt_irrefl _)
  · rintro i v m₁ news₁ hh' tk' own hin hP hJ hoff hown hget hfp hst F₁ N₁
    try k_fold
    obtain ⟨t, rfl⟩ := hP
    rw [Int.zero_add]
    have hI0 : h₀.get? s.heap.objs.size = none := next_is_new F
    obtain ⟨oI, hoI⟩ : ∃ o, hh'.get? s.heap.objs.size = some o := ⟨_, hst⟩
    have hIown : (s.heap.objs.size, oI) ∈ own := hfp _ (List.mem_singleton.mpr rfl) hI0 _ hoI
    have hsep : OwnOff own (news₁.map (·.1)) := by
      intro p hp b hb e
      obtain ⟨q, hq, rfl⟩ := List.mem_map.mp hb
      exact hoff q hq (e ▸ hown p hp)
    have N₂ : News h₀ env.locals hh' (news₁ ++ own) := fun p hp => N₁ p ((List.mem_append.mp hp).elim (fun h => List.mem_append.mpr (.inr h)) fun h => List.mem_append.mpr (.inl h))
    refine wpAny_mono (turn i t m₁ news₁ hh' tk' _ hin hsep hJ F₁ N₂) (fun _ s₃ h₃ => wpAny_mono h₃ (fun f s₂ p => ?_) fun _ _ e => e) fun _ _ e => e
    have fin : InvEndG h₀ env.locals (J (i + 1)) own { s with heap := hh', toks := tk' } s₂ →
        LoopStepU h₀ env.locals [s.heap.objs.size] own (J (i + 1)) { s with heap := hh', toks := tk' } .next s₂ := by
      rintro ⟨h', tk, m', news', nx, e, F', N', hn, ho, ha, hm⟩
      refine ⟨rfl, h', tk, m', nx, e, F', fun p hp => ?_, fun p hp hq => ?_, hm⟩
      · rcases List.mem_append.mp hp with h | h
        · exact N' p (ho p h)
        · exact N' p (hn p h)
      · exact ha _ hIown p.1 (List.mem_map.mpr ⟨p, hp, rfl⟩) (List.mem_singleton.mp hq).symm
    cases f with
    | ret v => exact .ret p
    | brk => exact .brk p
    | next => exact .next (fin p)
    | cont => exact .cont (fin p)
  · rintro h' tk m' news' F' N' _ hJ
    exact done m' news' h' tk hJ F' N'
end
end PR1_01
section PA1_01
theorem still_A1_01 : True := by
  w_top off
  trivial
local macro_rules | `(tactic| walk_at "idle 0") => `(tactic| fail)
local macro_rules | `(tactic| walk_at "idle 1") => `(tactic| fail)
local macro_rules | `(tactic| walk_at "idle 2") => `(tactic| fail)
open PySem.Spec PySem.Calls PyProof.Rows
/-! ## law 1: _law_kept -/
theorem allLt_mem {d : Addr} {l : List (Addr × Obj)} (h : AllLt d l) {p : Addr × Obj} (hp : p ∈ l) : @LT.lt Nat _ p.1 d := ktn_ltOf h p hp
theorem allLt_right2 {d : Addr} : ∀ {a b : List (Addr × Obj)}, AllLt d (a ++ b) → AllLt d b
  | [], _, h => h
  | _ :: a, _, h => allLt_right2 (a := a) h.2
theorem mem_seven {y a b c d e f T : Addr} {l : List Addr} (h : y ∈ a :: b :: c :: d :: e :: f :: T :: l) : y = T ∨ y ∈ a :: b :: c :: d :: e :: f :: l := by
  simp only [List.mem_cons] at h ⊢
  rcases h with h | h | h | h | h | h | h | h <;> simp [h]
local macro_rules | `(tactic| walk_at "call ref") => `(tactic| ((first | (with_reducible show wpAny _ _ (call (Value.ref 256) _) _ _ _) | (with_reducible show wpAny _ _ (call (Value.ref 256) _ _) _ _ _) | (with_reducible show wpAny _ _ (call (Value.ref 233) _) _ _ _) | (with_reducible show wpAny _ _ (call (Value.ref 233) _ _) _ _ _) | (with_reducible show wpAny _ _ (call (Value.ref 180) _) _ _ _) | (with_reducible show wpAny _ _ (call (Value.ref 180) _ _) _ _ _) | (with_reducible show wpAny _ _ (call (Value.ref 185) _) _ _ _) | (with_reducible show wpAny _ _ (call (Value.ref 185) _ _) _ _ _) | (with_reducible show wpAny _ _ (call (Value.ref 230) _) _ _ _) | (with_reducible show wpAny _ _ (call (Value.ref 230) _ _) _ _ _) | (with_reducible show wpAny _ _ (call (Value.ref 73) _) _ _ _) | (with_reducible show wpAny _ _ (call (Value.ref 73) _ _) _ _ _) | (with_reducible show wpAny _ _ (call (Value.ref 80) _) _ _ _) | (with_reducible show wpAny _ _ (call (Value.ref 80) _ _) _ _ _)); refine Stop.mk ?_))
local macro_rules | `(tactic| walk_at "exec For") => `(tactic| ((fail_if_success (have : Go 1 := by assumption)); refine Stop.mk ?_))
local macro_rules | `(tactic| walk_at "exec While") => `(tactic| ((fail_if_success (have : Go 1 := by assumption)); refine Stop.mk ?_))
local macro_rules | `(tactic| walk_at "pyIter ref") => `(tactic| (refine Stop.mk ?_))
set_option maxRecDepth 100000 in
set_option maxHeartbeats 0 in
theorem kept_con (w : World) (tl : List (Addr × Obj)) (x dx pb xs dxs pb2 la f c' cell : Addr) (fc : Value) (fod : Option Addr) (fd : FuncData) (fsl : Array (Option Value)) (oc co : Obj) (t u : Nat → Tok) (ln : Int) (kl np : Nat)
   (hNS : NextSpec w f la [(f, (⟨fc, fod, .func fd, fsl⟩ : Obj)), (c', oc), (cell, co)]) (hoff : OwnOff tl [pb]) (hn1 : @Ne Nat pb x) (hn2 : @Ne Nat pb dx)
   (hbase : ∀ p ∈ (la, listOf #[] kl) :: (f, (⟨fc, fod, .func fd, fsl⟩ : Obj)) :: (c', oc) :: (cell, co) :: (dxs, strO w.params u (pb2) (f)) :: (xs, instObj 83 dxs) :: [], p ∈ tl)
   (wd : List Nat) (tw : Tok) (fin : List (List Nat)) (hrun : keptN 40 [wd] [] wd = some fin) (hwd : okL wd) :
   Con w (.ref 263) [.ref x, .str (encT wd) tw] 6 6 ((pb, listOf #[] np) :: (dx, lexO w.params t (ln) (.ref xs) (pb)) :: (x, instObj 83 dx) :: tl)
     (fun news' r => ∃ D np' yl, r = .ref D ∧ List.map (fun p : Str × Tok => p.1) yl = fin.map encT ∧ @LT.lt Nat _ pb D ∧ AllLt D tl ∧ news' = (D, LCg.lst (strValues yl)) :: (pb, listOf #[] np') :: (dx, lexO w.params t (ln) (.ref xs) (pb)) :: (x, instObj 83 dx) :: tl) := by
  unfold Con
  k_fill
  intro p loose mean mg mb dp un gd cn csc a ccd cl outer A₀ base h₀ L m s Q E hB hF hX hN hT hck hdp hun hret
  (refine' code_def (binds := [("lexer", .ref x), ("word", .str (encT wd) tw)]) ?k1 ?k2 ?k3 ?k4 ?k5 ?kA ?kF ?kK ?k6 ?k7 ?k8 ?k9 ?kB ?_ ?c2 ?c3 ?c4 ?c5; (case kA => exact rfl); (case kF => exact rfl); (case kK => assumption); (case k1 => k_asm); (case k2 => k_asm); (case k3 => k_asm); (case k4 => k_asm); (case k5 => k_asm); (case k6 => k_is); (case k7 => k_is); (case k8 => ktr_room); (case k9 => first | exact BindsTo.of_eq rfl | exact binds_K (by k_in) rfl (by k_is) rfl rfl rfl); (case c5 => decide); (case kB => exact locs rfl); (case c2 => exact rfl); (case c3 => exact rfl); (case c4 => exact rfl); k_whole; intro g' L' h' FG' F' N' B' X' T'; (try dsimp only); (try k_lift B'); (try k_fold))
  k_steps
  refine Stop.out ?_
  rename Fr _ _ _ _ => F9
  rename News _ _ _ _ => N9
  obtain ⟨tl0, htl0⟩ : ∃ z, z = (pb, listOf #[] np) :: (dx, lexO w.params t (ln) (.ref xs) (pb)) :: (x, instObj 83 dx) :: tl := ⟨_, rfl⟩
  have N9 : News g' L' _ tl0 := htl0 ▸ N9
  k_dflt (refine' call_cls (C := 233) (pos := []) (kw := []) F9 X' N9 ?k1 ?k2 ?k3 ?_; (case k1 => k_is); (case k2 => k_is); (case k3 => k_is); k_whole)
  intro hx dxh h1 F1 N1 l0 l1
  clear F9 N9
  refine Con.code (init_con w tl0 hx dxh (own_lt (allLt_of l0) (Nat.le_refl _)) (Nat.ne_of_lt l1)) B' F1 X' N1 T' rfl ?r1 ?r2 ?_
  case r1 =>
    rw [show (Code.builtin "type.__call__" ⟨[Value.ref 233], []⟩).weight = 1 from rfl]
    ktr_room
  case r2 =>
    rw [show (Code.builtin "type.__call__" ⟨[Value.ref 233], []⟩).cUnits = 1 from rfl]
    ktr_units
  rintro r h' tk' news' F' N' hp90
  try k_fold
  obtain ⟨hl, tkh, rfl, rfl, hl1, hl2, hl3⟩ := hp90
  try dsimp only [InitBack]
  refine ⟨rfl, ?_⟩
  try dsimp only
  clear F1 N1
  obtain ⟨tlh, N9⟩ : ∃ tlh, News g' L' _ ((hl, listOf #[] 0) :: (hx, instObj 233 dxh) :: (dxh, hdrO w.params (tlh) (hl)) :: tl0) := ⟨_, N'⟩
  clear N'
  have ho0 : OwnOff tl0 [hl] := own_lt hl1 (Nat.le_refl _)
  have hd0 : AllLt dxh tl0 := allLt_of l0
  ((try k_fold); k_steps)
  refine Stop.out ?_
  rename Fr g' L' _ _ => F9
  rename News g' L' _ _ => N9
  refine Con.use (add_con w tl0 hx dxh hl tlh [] 0 (encT wd) (Str.ofString "") _ _ (safe_enc wd) (safe_of (by decide +kernel)) (Nat.ne_of_gt hl2) (Nat.ne_of_gt hl3) ho0 (by decide) (by decide)) B' F9 X' N9 T' rfl (by ktr_room) (by ktr_units) ?_
  rintro r h' tk' news' F' N' hp90
  try k_fold
  obtain ⟨T, t9, rfl, rfl, hlt9, hlt1, hlt2, hlt3⟩ := hp90
  clear F9 N9
  rw [htl0] at N' hd0
  obtain ⟨hd1, hd2, hd3, hd4⟩ := hd0
  dsimp only at hd1 hd2 hd3
  replace l1 := ltN l1
  replace hd1 := ltN hd1
  replace hd2 := ltN hd2
  replace hd3 := ltN hd3
  have hhl : OwnOff tl [hl] := own_lt (allLt_mono (Nat.le_of_lt hl3) hd4) (Nat.le_refl _)
  obtain ⟨tl1, htl1⟩ : ∃ z, z = (T, tupO (.str (encT wd) tw) (.str (Str.ofString "") t9)) :: tl := ⟨_, rfl⟩
  have hT1m : (T, tupO (.str (encT wd) tw) (.str (Str.ofString "") t9)) ∈ tl1 := htl1 ▸ .head _
  have hb1 : ∀ p ∈ tl, p ∈ tl1 := htl1 ▸ fun p hp => .tail _ hp
  have hp1 : OwnOff tl1 [pb] := htl1 ▸ own_cons (show @Ne Nat T pb by omega) hoff
  have hp2 : OwnOff tl1 [hl] := htl1 ▸ own_cons (show @Ne Nat T hl by omega) hhl
  have N9 := News.sub (new := (pb, listOf (strValues []).toArray np) :: (dx, lexO w.params t (ln) (.ref xs) (pb)) :: (x, instObj 83 dx) :: (hl, listOf (refsOf [(T, tupO (.str (encT wd) tw) (.str (Str.ofString "") t9))]).toArray 1) :: (hx, instObj 233 dxh) :: (dxh, hdrO w.params (tlh) (hl)) :: tl1) N' (by rw [htl1]; k_allIn)
  clear N' ho0 hl1 hlt9 htl0 htl1 hoff l0
  ((try k_fold); k_steps)
  refine Stop.out ?_
  rename Fr g' L' _ _ => F9
  rename News g' L' _ _ => N9
  obtain ⟨tup1, htup⟩ : ∃ z, z = [(T, tupO (.str (encT wd) tw) (.str (Str.ofString "") t9))] := ⟨_, rfl⟩
  have hTab1 : TabIs tup1 (tabOf [wd]) := htup ▸ ⟨⟨_, _, rfl⟩, trivial⟩
  have htin : ∀ p ∈ tup1, p ∈ tl1 := htup ▸ fun p hp => (List.mem_singleton.mp hp) ▸ hT1m
  rw [← htup] at N9
  refine Con.useE (push_con w ((hl, listOf (refsOf tup1).toArray 1) :: (hx, instObj 233 dxh) :: (dxh, hdrO w.params (tlh) (hl)) :: tl1) x dx pb [] np t ln (.ref xs) (encT wd) _ ?h1 hn1 hn2 (by decide)) B' F9 X' N9 T' rfl (by ktr_room) (by ktr_units) ?_
  case h1 =>
    intro p hp b hb
    rw [List.mem_singleton.mp hb]
    revert p
    k_all
  intro h' tk' F' N'
  try k_fold
  clear F9 N9
  ((try k_fold); k_steps)
  refine Stop.out ?_
  rename Fr g' L' _ _ => F9
  rename News g' L' _ _ => N9
  refine Con.useE (pop_con w ((hl, listOf (refsOf tup1).toArray 1) :: (hx, instObj 233 dxh) :: (dxh, hdrO w.params (tlh) (hl)) :: tl1) x dx pb (.str (encT wd) _) [] (np + 1) t ln (.ref xs) ?h1 hn1 hn2 (by simp)) B' F9 X' N9 T' rfl (by ktr_room) (by ktr_units) ?_
  case h1 =>
    intro p hp b hb
    rw [List.mem_singleton.mp hb]
    revert p
    k_all
  intro h' tk' F' N'
  try k_fold
  clear F9 N9
  ((try k_fold); k_steps)
  refine Stop.out ?_
  rename Fr g' L' _ _ => F9
  rename News g' L' _ _ => N9
  clear hT1m htup
  refine While_inv2 (n₀ := 40) (fun n m nx => ∀ Z : Prop, (∀ (tups tl' : List (Addr × Obj)) (wl pl : List (List Nat)) (kk np : Nat) (ps : List (Str × Tok)) (word : List Nat) (tw : Tok),
      (m "table" = some (.ref hx) ∧ m "lexer" = some (.ref x) ∧ m "word" = some (.str (encT word) tw)) → TabIs tups (tabOf wl) → (wl.length ≤ 36 ∧ ∀ v ∈ wl, okL v) → (∀ p ∈ tups, p ∈ tl') → (∀ p ∈ tl, p ∈ tl') → (OwnOff tl' [pb] ∧ OwnOff tl' [hl]) →
      ps.map (fun p : Str × Tok => p.1) = pl.map encT → ((∀ v ∈ pl, v ≠ []) ∧ (word = [] → pl = [])) → keptN n wl pl word = some fin →
      nx = (pb, listOf (strValues ps).toArray np) :: (dx, lexO w.params t (ln) (.ref xs) (pb)) :: (x, instObj 83 dx) :: (hl, listOf (refsOf tups).toArray kk) :: (hx, instObj 233 dxh) :: (dxh, hdrO w.params (tlh) (hl)) :: tl' → Z) → Z) F9 N9 ?hj ?turn (by passes_own)
  case hj => exact fun _ k => k tup1 tl1 [wd] [] 1 _ [] wd _ ⟨rfl, rfl, rfl⟩ hTab1 ⟨Nat.le_of_ble_eq_true rfl, fun v hv => (List.mem_singleton.mp hv) ▸ hwd⟩ htin hb1 ⟨hp1, hp2⟩ rfl ⟨(fun _ h => nomatch h), fun _ => rfl⟩ hrun rfl
  case turn =>
    clear hp1 hp2 hb1 htin hTab1
    intro n m₁ news₁ h₁ tk₁ F₁ N₁ hJ9
    try k_fold
    refine hJ9 _ ?_
    clear hJ9
    rintro tups tl' wl pl kk np ps word tw ⟨hm1, hm2, hm3⟩ hT2 ⟨hll, hsl⟩ hin hbs ⟨hf1, hf2⟩ hps ⟨hpne, hpz⟩ hr rfl
    clear F9 N9
    have F2 := Fr.al [("table", .ref hx), ("lexer", .ref x), ("word", .str (encT word) tw)] F₁ (al_cons hm1 (al_cons hm2 (al_cons hm3 al_nil)))
    clear F₁
    rcases kept_step hr with ⟨rfl, rfl⟩ | ⟨hw, ⟨hol, hop, how⟩, n', rfl, hn⟩
    · rw [show encT [] = Str.ofString "" from rfl] at F2
      ((try k_fold); k_steps)
      refine Stop.out ?_
      rename Fr g' L' _ _ => F9
      rename News g' L' _ _ => N9
      refine Con.use (keys_con w ((pb, listOf (strValues ps).toArray np) :: (dx, lexO w.params t (ln) (.ref xs) (pb)) :: (x, instObj 83 dx) :: tl') tups (tabOf wl) hx dxh hl tlh kk hT2 (fun p hp => .tail _ (.tail _ (.tail _ (hin p hp)))) (by rw [tabOf_len]; omega)) B' F9 X' (News.sub N9 (by k_allIn)) T' rfl (by ktr_room) (by ktr_units) ?_
      rintro r h' tk' news' F' N' hp90
      try k_fold
      obtain ⟨D, yl, rfl, hyl, hDl, rfl⟩ := hp90
      clear F9 N9
      ((try k_fold); k_steps)
      obtain rfl : pl = [] := hpz rfl
      obtain rfl : ps = [] := List.map_eq_nil_iff.mp hps
      rename News h₀ L _ _ => N9
      refine hret _ _ _ _ (by assumption) (News.sub N9 ?_) ⟨D, np, yl, rfl, by rw [hyl]; simp [tabOf], hDl.1, allLt_of (fun p hp => ktn_ltOf hDl.2.2.2 p (hbs p hp)), rfl⟩
      refine fm_cons (.head _) (fm_cons (by k_memK) (fm_cons (by k_memK) (fm_cons (by k_memK) (fun p hp => ?_))))
      have hq := hbs p hp
      repeat' (first | exact hq | refine List.Mem.tail _ ?_)
    · obtain ⟨hokw, hmv⟩ := okW_all how
      have hwl : (encT word).length ≤ 6 := by rw [encT_len]; exact hokw.1
      have hwn := enc_len_ne hw
      have hw1 : 1 ≤ word.length := by
        cases word with
        | nil => exact absurd rfl hw
        | cons a r => simp
      have hw6 : word.length ≤ 6 := hokw.1
      have hfr : ∀ k, k + 1 ≤ word.length → ∀ v ∈ freshN wl word k, okL v ∧ v ≠ [] := fun k hk => fresh_ok hmv k hk
      clear hmv
      ((try k_fold); k_steps)
      refine Stop.out ?_
      rename Fr g' L' _ _ => F9
      rename News g' L' _ _ => N9
      refine rng0_iter (word.length - 1) (fun k m nx => ∀ Z : Prop, (∀ (tups tl' : List (Addr × Obj)) (kk np : Nat) (ps : List (Str × Tok)),
        (m "table" = some (.ref hx) ∧ m "lexer" = some (.ref x) ∧ m "word" = some (.str (encT word) tw)) → TabIs tups (tabOf (wl ++ freshN wl word k)) → (∀ p ∈ tups, p ∈ tl') → (∀ p ∈ tl, p ∈ tl') → (OwnOff tl' [pb] ∧ OwnOff tl' [hl]) →
        ps.map (fun p : Str × Tok => p.1) = (pl ++ freshN wl word k).map encT →
        nx = (pb, listOf (strValues ps).toArray np) :: (dx, lexO w.params t (ln) (.ref xs) (pb)) :: (x, instObj 83 dx) :: (hl, listOf (refsOf tups).toArray kk) :: (hx, instObj 233 dxh) :: (dxh, hdrO w.params (tlh) (hl)) :: tl' → Z) → Z) rfl (by assumption) (by rw [encT_len]; omega) (by omega) F9 N9 (fun _ k => k tups tl' kk np ps ⟨rfl, rfl, rfl⟩ (by rw [show freshN wl word 0 = [] from rfl, List.append_nil]; exact hT2) hin hbs ⟨hf1, hf2⟩ (by rw [show freshN wl word 0 = [] from rfl, List.append_nil]; exact hps) rfl) ?turn2 ?done2
      case turn2 =>
        intro k tkk m4 news4 h4 tk4 own4 hk hoff4 hJ9 F4 N4
        try k_fold
        refine hJ9 _ ?_
        clear hJ9 F9 N9 hT2 hin hbs hf1 hf2 hps
        rintro tups tl' kk np ps ⟨g1, g2, g3⟩ hT2 hin hbs ⟨hf1, hf2⟩ hps rfl
        have F5 := Fr.turn [("table", .ref hx), ("lexer", .ref x), ("word", .str (encT word) tw)] F4 (al_cons g1 (al_cons g2 (al_cons g3 al_nil)))
        obtain ⟨tl4, htl4⟩ : ∃ z, z = tl' ++ own4 := ⟨_, rfl⟩
        have N5 : News g' L' h4 ((pb, listOf (strValues ps).toArray np) :: (dx, lexO w.params t (ln) (.ref xs) (pb)) :: (x, instObj 83 dx) :: (hl, listOf (refsOf tups).toArray kk) :: (hx, instObj 233 dxh) :: (dxh, hdrO w.params (tlh) (hl)) :: tl4) := htl4 ▸ N4
        have ho1 : OwnOff tl4 [pb] := htl4 ▸ own_app hf1 (own_of_off hoff4 (.head _))
        have ho2 : OwnOff tl4 [hl] := htl4 ▸ own_app hf2 (own_of_off hoff4 (.tail _ (.tail _ (.tail _ (.head _)))))
        clear F4 N4
        have hk1 : k + 1 < word.length := by omega
        have hlf := fresh_len wl word k
        have hfs := fresh_succ wl word k
        have hfk := hfr k (by omega)
        have hfk1 := hfr (k + 1) (by omega)
        ((try k_fold); k_steps)
        refine Stop.out ?_
        rename Fr g' L' _ _ => F9
        rename News g' L' _ _ => N9
        refine Con.useX (moved_con w ((pb, listOf (strValues ps).toArray np) :: (dx, lexO w.params t (ln) (.ref xs) (pb)) :: (x, instObj 83 dx) :: (hl, listOf (refsOf tups).toArray kk) :: (hx, instObj 233 dxh) :: (dxh, hdrO w.params (tlh) (hl)) :: tl4) word tw tkk k how hk1) B' F9 X' N9 T' rfl (by ktr_room) (by ktr_units) ?_
        intro tm h' tk' F' N'
        try k_fold
        clear F9 N9
        obtain ⟨mv, hmv⟩ : ∃ z, z = movedN word k := ⟨_, rfl⟩
        rw [← hmv] at hfs ⊢
        by_cases hz : mv = []
        · rw [hz, if_pos (show (([] : List Nat) == []) = true from rfl)] at hfs
          rw [hz, show encT [] = Str.ofString "" from rfl]
          ((try k_fold); k_steps)
          rename Fr g' L' _ _ => F9
          rename News g' L' _ _ => N9
          rw [htl4] at N9
          exact InvEndG.intro (nx := (pb, listOf (strValues ps).toArray np) :: (dx, lexO w.params t (ln) (.ref xs) (pb)) :: (x, instObj 83 dx) :: (hl, listOf (refsOf tups).toArray kk) :: (hx, instObj 233 dxh) :: (dxh, hdrO w.params (tlh) (hl)) :: tl') F9 N9 (fun _ q => q tups tl' kk np ps ⟨rfl, rfl, rfl⟩ (hfs ▸ hT2) hin hbs ⟨hf1, hf2⟩ (hfs ▸ hps) rfl) hoff4 (fun z hz => List.mem_append_left own4 hz) (fun z hz => List.mem_append_right ((pb, listOf (strValues ps).toArray np) :: (dx, lexO w.params t (ln) (.ref xs) (pb)) :: (x, instObj 83 dx) :: (hl, listOf (refsOf tups).toArray kk) :: (hx, instObj 233 dxh) :: (dxh, hdrO w.params (tlh) (hl)) :: tl') hz)
        · have hmne : (encT mv != Str.ofString "") = true := by
            rw [bne_iff_ne]
            exact fun e => hz (enc_nil.mp e)
          rw [if_neg (by rw [beq_iff_eq]; exact hz)] at hfs
          have hmok : okL mv := by
            have := hfk1
            rw [hfs] at this
            by_cases ha : (wl ++ freshN wl word k).any (· == mv) = true
            · obtain ⟨v, hv, he⟩ := List.any_eq_true.mp ha
              rw [← eq_of_beq he]
              rcases List.mem_append.mp hv with hv | hv
              · exact hsl v hv
              · exact (hfk v hv).1
            · rw [if_neg ha] at this
              exact (this mv (List.mem_append_right _ (.head _))).1
          have hsk : ∀ v ∈ wl ++ freshN wl word k, okL v := fun v hv => by
            rcases List.mem_append.mp hv with hv | hv
            · exact hsl v hv
            · exact (hfk v hv).1
          have hany2 := tabOf_any hmok hsk
          have hlk : (tabOf (wl ++ freshN wl word k)).length ≤ 36 := by rw [tabOf_len, List.length_append]; omega
          have hml : (encT mv).length ≤ 6 := by rw [encT_len]; exact hmok.1
          have hrl : (refsOf tups).length ≤ 36 := by rw [show (refsOf tups).length = tups.length from List.length_map .., hT2.len]; exact hlk
          have hpl : ps.length ≤ 66 := by
            have h5 := congrArg List.length hps
            simp only [List.length_map, List.length_append] at h5
            omega
          clear hfk hfk1 hfr hn
          ((try k_fold); k_steps)
          refine Stop.out ?_
          rename Fr g' L' _ _ => F9
          rename News g' L' _ _ => N9
          refine Con.use (get_con w ((pb, listOf (strValues ps).toArray np) :: (dx, lexO w.params t (ln) (.ref xs) (pb)) :: (x, instObj 83 dx) :: tl4) tups (tabOf (wl ++ freshN wl word k)) hx dxh hl tlh kk (encT mv) tm (safe_enc mv) hT2 (fun p hp => .tail _ (.tail _ (.tail _ (htl4 ▸ List.mem_append_left _ (hin p hp))))) (by omega) (tabOf_safe hsk) (by omega)) B' F9 X' (News.sub N9 (by k_allIn)) T' rfl (by ktr_room) (by ktr_units) ?_
          rintro r h' tk' news' F' N' hp90
          try k_fold
          obtain ⟨rfl, hr1, hr2⟩ := hp90
          clear F9 N9
          rw [hany2] at hr1 hr2
          cases hany : (wl ++ freshN wl word k).any (· == mv) with
          | true =>
            obtain ⟨sv, tv, rfl⟩ := hr1 hany
            rw [if_pos hany] at hfs
            clear hr1 hr2
            ((try k_fold); k_steps)
            rename Fr g' L' _ _ => F9
            rename News g' L' _ _ => N9
            rw [htl4] at N9
            exact InvEndG.intro (nx := (pb, listOf (strValues ps).toArray np) :: (dx, lexO w.params t (ln) (.ref xs) (pb)) :: (x, instObj 83 dx) :: (hl, listOf (refsOf tups).toArray kk) :: (hx, instObj 233 dxh) :: (dxh, hdrO w.params (tlh) (hl)) :: tl') F9 (News.sub (new := ((pb, listOf (strValues ps).toArray np) :: (dx, lexO w.params t (ln) (.ref xs) (pb)) :: (x, instObj 83 dx) :: (hl, listOf (refsOf tups).toArray kk) :: (hx, instObj 233 dxh) :: (dxh, hdrO w.params (tlh) (hl)) :: tl') ++ own4) N9 (by k_allIn)) (fun _ q => q tups tl' kk np ps ⟨rfl, rfl, rfl⟩ (hfs ▸ hT2) hin hbs ⟨hf1, hf2⟩ (hfs ▸ hps) rfl) hoff4 (fun z hz => List.mem_append_left own4 hz) (fun z hz => List.mem_append_right ((pb, listOf (strValues ps).toArray np) :: (dx, lexO w.params t (ln) (.ref xs) (pb)) :: (x, instObj 83 dx) :: (hl, listOf (refsOf tups).toArray kk) :: (hx, instObj 233 dxh) :: (dxh, hdrO w.params (tlh) (hl)) :: tl') hz)
          | false =>
            obtain rfl := hr2 hany
            rw [if_neg (by rw [hany]; exact Bool.false_ne_true)] at hfs
            clear hr1 hr2
            ((try k_fold); k_steps)
            refine Stop.out ?_
            rename Fr g' L' _ _ => F9
            rename News g' L' _ _ => N9
            refine Con.use (add_con w ((pb, listOf (strValues ps).toArray np) :: (dx, lexO w.params t (ln) (.ref xs) (pb)) :: (x, instObj 83 dx) :: tl4) hx dxh hl tlh (refsOf tups) kk (encT mv) (Str.ofString "") _ _ (safe_enc mv) (safe_of (by decide +kernel)) (Nat.ne_of_gt hl2) (Nat.ne_of_gt hl3) ?off (by omega) (by decide)) B' F9 X' (News.sub N9 (by k_allIn)) T' rfl (by ktr_room) (by ktr_units) ?_
            case off =>
              intro p hp b hb
              rw [List.mem_singleton.mp hb]
              revert p
              k_all
            rintro r h' tk' news' F' N' hp90
            try k_fold
            obtain ⟨T, t9, rfl, rfl, ⟨hq1, hq2, hq3, hq4⟩, hlt1, hlt2, hlt3⟩ := hp90
            clear F9 N9
            have hT3 := hT2.snoc (T := T) (o := tupO (.str (encT mv) tm) (.str (Str.ofString "") t9)) rfl
            have hrf : refsOf tups ++ [Value.ref T] = refsOf (tups ++ [(T, tupO (.str (encT mv) tm) (.str (Str.ofString "") t9))]) := by simp [refsOf]
            rw [hrf] at N'
            obtain ⟨tups', htu⟩ : ∃ z, z = tups ++ [(T, tupO (.str (encT mv) tm) (.str (Str.ofString "") t9))] := ⟨_, rfl⟩
            obtain ⟨tl5, htl5⟩ : ∃ z, z = (T, tupO (.str (encT mv) tm) (.str (Str.ofString "") t9)) :: tl4 := ⟨_, rfl⟩
            rw [← htu] at hT3 N'
            have hin2 : ∀ p ∈ tups', p ∈ (T, tupO (.str (encT mv) tm) (.str (Str.ofString "") t9)) :: tl' := by
              rw [htu]
              intro p hp
              rcases List.mem_append.mp hp with hp | hp
              · exact .tail _ (hin p hp)
              · rw [List.mem_singleton.mp hp]; exact .head _
            have hTp : @Ne Nat T pb := by omega
            have hTh : @Ne Nat T hl := by omega
            have hg1 : OwnOff tl5 [pb] := htl5 ▸ own_cons hTp ho1
            have hg2 : OwnOff tl5 [hl] := htl5 ▸ own_cons hTh ho2
            have hq5 : AllLt T own4 := allLt_right2 (htl4 ▸ hq4)
            have N8 := News.sub (new := (pb, listOf (strValues ps).toArray np) :: (dx, lexO w.params t (ln) (.ref xs) (pb)) :: (x, instObj 83 dx) :: (hl, listOf (refsOf tups').toArray (kk + 1)) :: (hx, instObj 233 dxh) :: (dxh, hdrO w.params (tlh) (hl)) :: tl5) N' (by rw [htl5]; k_allIn)
            have hofT : OwnOff own4 (((pb, listOf (strValues ps).toArray np) :: (dx, lexO w.params t (ln) (.ref xs) (pb)) :: (x, instObj 83 dx) :: (hl, listOf (refsOf tups).toArray kk) :: (hx, instObj 233 dxh) :: (dxh, hdrO w.params (tlh) (hl)) :: ((T, tupO (.str (encT mv) tm) (.str (Str.ofString "") t9)) :: tl')).map (·.1)) := by
              intro z hz b hb
              rcases mem_seven hb with e | hb
              · rw [e]; exact Nat.ne_of_lt (ktn_ltOf hq5 z hz)
              · exact hoff4 z hz b hb
            have htl6 : tl5 = ((T, tupO (.str (encT mv) tm) (.str (Str.ofString "") t9)) :: tl') ++ own4 := by rw [htl5, htl4]; rfl
            have hT4 : TabIs tups' (tabOf (wl ++ freshN wl word (k + 1))) := by
              rw [hfs, ← List.append_assoc, ← tabOf_app]
              exact hT3
            have hps2 : ps.map (fun p : Str × Tok => p.1) ++ [encT mv] = (pl ++ freshN wl word (k + 1)).map encT := by
              rw [hfs, ← List.append_assoc, List.map_append, hps]; rfl
            clear N' htl4 htl5 hT2 hT3 htu hrf hin hq4 hoff4 hps hfs hany hany2 hsk ho1 ho2
            ((try k_fold); k_steps)
            refine Stop.out ?_
            rename Fr g' L' _ _ => F9
            rename News g' L' _ _ => N9
            refine Con.use (push_str w ((hl, listOf (refsOf tups').toArray (kk + 1)) :: (hx, instObj 233 dxh) :: (dxh, hdrO w.params (tlh) (hl)) :: tl5) x dx pb ps np t ln (.ref xs) (encT mv) _ ?h1 hn1 hn2 (by omega)) B' F9 X' N9 T' rfl (by ktr_room) (by ktr_units) ?_
            case h1 =>
              intro p hp b hb
              rw [List.mem_singleton.mp hb]
              revert p
              k_all
            rintro r9 h' tk' news' F' N' hp90
            try k_fold
            obtain ⟨psn, hn1, hn2, rfl, rfl⟩ := hp90
            clear F9 N9
            ((try k_fold); k_steps)
            rename Fr g' L' _ _ => F9
            rename News g' L' _ _ => N9
            rw [htl6] at N9
            exact InvEndG.intro (nx := (pb, listOf (strValues psn).toArray (np + 1)) :: (dx, lexO w.params t (ln) (.ref xs) (pb)) :: (x, instObj 83 dx) :: (hl, listOf (refsOf tups').toArray (kk + 1)) :: (hx, instObj 233 dxh) :: (dxh, hdrO w.params (tlh) (hl)) :: ((T, tupO (.str (encT mv) tm) (.str (Str.ofString "") t9)) :: tl')) F9 N9 (fun _ q => q tups' ((T, tupO (.str (encT mv) tm) (.str (Str.ofString "") t9)) :: tl') (kk + 1) (np + 1) psn ⟨rfl, rfl, rfl⟩ hT4 hin2 (fun p hp => .tail _ (hbs p hp)) ⟨own_cons hTp hf1, own_cons hTh hf2⟩ (hn1.trans hps2) rfl) hofT (fun z hz => List.mem_append_left own4 hz) (fun z hz => List.mem_append_right ((pb, listOf (strValues psn).toArray (np + 1)) :: (dx, lexO w.params t (ln) (.ref xs) (pb)) :: (x, instObj 83 dx) :: (hl, listOf (refsOf tups').toArray (kk + 1)) :: (hx, instObj 233 dxh) :: (dxh, hdrO w.params (tlh) (hl)) :: ((T, tupO (.str (encT mv) tm) (.str (Str.ofString "") t9)) :: tl')) hz)
      case done2 =>
        intro m4 news4 h4 tk4 hJ9 F4 N4
        try k_fold
        refine hJ9 _ ?_
        clear hJ9 F9 N9 hT2 hin hbs hf1 hf2 hps
        rintro tups tl' kk np ps ⟨g1, g2, g3⟩ hT2 hin hbs ⟨hf1, hf2⟩ hps rfl
        have F5 := Fr.al [("table", .ref hx), ("lexer", .ref x), ("word", .str (encT word) tw)] F4 (al_cons g1 (al_cons g2 (al_cons g3 al_nil)))
        clear F4
        dsimp only
        have hfl := fresh_len wl word (word.length - 1)
        have hfk := hfr (word.length - 1) (by omega)
        obtain ⟨fr, hfrz⟩ : ∃ z, z = freshN wl word (word.length - 1) := ⟨_, rfl⟩
        rw [← hfrz] at hn hT2 hps hfl hfk
        clear hfrz hfr
        have hok : ∀ v ∈ wl ++ fr, okL v := fun v hv => by
          rcases List.mem_append.mp hv with hv | hv
          · exact hsl v hv
          · exact (hfk v hv).1
        have hlen : (wl ++ fr).length ≤ 36 := by rw [List.length_append]; omega
        have hpn : ∀ v ∈ pl ++ fr, v ≠ [] := fun v hv => by
          rcases List.mem_append.mp hv with hv | hv
          · exact hpne v hv
          · exact (hfk v hv).2
        have hplen : (pl ++ fr).length ≤ 36 := by rw [List.length_append]; omega
        obtain ⟨wl', hwl'⟩ : ∃ z, z = wl ++ fr := ⟨_, rfl⟩
        obtain ⟨pl', hpl'⟩ : ∃ z, z = pl ++ fr := ⟨_, rfl⟩
        rw [← hwl'] at hn hT2 hok hlen
        rw [← hpl'] at hn hps hpn hplen
        clear hwl' hpl' hfk hpz hpne hsl
        ((try k_fold); k_steps)
        refine Stop.out ?_
        rename Fr g' L' _ _ => F9
        rename News g' L' _ _ => N9
        cases ps with
        | nil =>
          obtain rfl : pl' = [] := List.map_eq_nil_iff.mp hps.symm
          refine Con.useX (tok0_via w ((pb, listOf (strValues []).toArray np) :: (dx, lexO w.params t (ln) (.ref xs) (pb)) :: (x, instObj 83 dx) :: (hl, listOf (refsOf tups).toArray kk) :: (hx, instObj 233 dxh) :: (dxh, hdrO w.params (tlh) (hl)) :: tl') x dx pb xs dxs pb2 la f c' cell fc fod fd fsl oc co t u ln kl np hNS ?hb) B' F9 X' N9 T' rfl (by ktr_room) (by ktr_units) ?_
          case hb =>
            have hm : ∀ p ∈ tl', p ∈ ((pb, listOf (strValues []).toArray np) :: (dx, lexO w.params t (ln) (.ref xs) (pb)) :: (x, instObj 83 dx) :: (hl, listOf (refsOf tups).toArray kk) :: (hx, instObj 233 dxh) :: (dxh, hdrO w.params (tlh) (hl)) :: tl') := fun p hp => .tail _ (.tail _ (.tail _ (.tail _ (.tail _ (.tail _ hp)))))
            have ha : ∀ p ∈ (la, listOf #[] kl) :: (f, (⟨fc, fod, .func fd, fsl⟩ : Obj)) :: (c', oc) :: (cell, co) :: (dxs, strO w.params u (pb2) (f)) :: (xs, instObj 83 dxs) :: [], p ∈ tl' := fun p hp => hbs p (hbase p hp)
            exact fm_cons (hm _ (ha _ (by k_memK))) (fm_cons (hm _ (ha _ (by k_memK))) (fm_cons (hm _ (ha _ (by k_memK))) (fm_cons (hm _ (ha _ (by k_memK))) (fm_cons (by k_memK) (fm_cons (by k_memK) (fm_cons (hm _ (ha _ (by k_memK))) (fm_cons (hm _ (ha _ (by k_memK))) (fm_cons (.head _) (fun _ h => nomatch h)))))))))
          intro tt h' tk' F' N'
          try k_fold
          clear F9 N9
          ((try k_fold); k_steps)
          rename Fr g' L' _ _ => F9
          rename News g' L' _ _ => N9
          exact ⟨_, _, _, _, n', rfl, F9, N9, Nat.lt_succ_self _, fun _ k => k tups tl' wl' [] kk np [] [] tt ⟨rfl, rfl, rfl⟩ hT2 ⟨hlen, hok⟩ hin hbs ⟨hf1, hf2⟩ rfl ⟨(fun _ h => nomatch h), fun _ => rfl⟩ hn rfl⟩
        | cons v r =>
          obtain ⟨v, tv⟩ := v
          obtain ⟨v0, r0, rfl⟩ : ∃ v0 r0, pl' = v0 :: r0 := by
            cases pl' with
            | nil => cases hps
            | cons a b => exact ⟨a, b, rfl⟩
          obtain ⟨hv0, hr0⟩ := List.cons.inj hps
          have hv0 : v = encT v0 := hv0
          rw [hv0] at N9
          refine Con.useE (pop_con w ((hl, listOf (refsOf tups).toArray kk) :: (hx, instObj 233 dxh) :: (dxh, hdrO w.params (tlh) (hl)) :: tl') x dx pb (.str (encT v0) tv) (strValues r) np t ln (.ref xs) ?h1 hn1 hn2 ?h4) B' F9 X' N9 T' rfl (by ktr_room) (by ktr_units) ?_
          case h1 =>
            intro p hp b hb
            rw [List.mem_singleton.mp hb]
            revert p
            k_all
          case h4 =>
            have h5 := congrArg List.length hr0
            simp only [List.length_map] at h5
            simp only [strValues, List.length_cons, List.length_map] at hplen ⊢
            omega
          intro h' tk' F' N'
          try k_fold
          clear F9 N9
          ((try k_fold); k_steps)
          rename Fr g' L' _ _ => F9
          rename News g' L' _ _ => N9
          exact ⟨_, _, _, _, n', rfl, F9, N9, Nat.lt_succ_self _, fun _ k => k tups tl' wl' r0 kk (np + 1) r v0 tv ⟨rfl, rfl, rfl⟩ hT2 ⟨hlen, hok⟩ hin hbs ⟨hf1, hf2⟩ hr0 ⟨(fun v hv => hpn v (.tail _ hv)), fun e => absurd e (hpn v0 (.head _))⟩ hn rfl⟩
end PA1_01
section PA2_01
theorem still_A2_01 : True := by
  w_top off
  trivial
local macro_rules | `(tactic| walk_at "idle 0") => `(tactic| fail)
local macro_rules | `(tactic| walk_at "idle 1") => `(tactic| fail)
local macro_rules | `(tactic| walk_at "idle 2") => `(tactic| fail)
local macro_rules | `(tactic| walk_at "idle 3") => `(tactic| fail)
local macro_rules | `(tactic| walk_at "idle 4") => `(tactic| fail)
local macro_rules | `(tactic| walk_at "idle 5") => `(tactic| fail)
local macro_rules | `(tactic| walk_at "idle 6") => `(tactic| fail)
local macro_rules | `(tactic| walk_at "idle 7") => `(tactic| fail)
open PySem.Spec PySem.Calls PyProof.Rows PyProof.Rows.LCg
/-! ## law 1: _law_words -/
def wpart (n : Nat) (o : List Nat) (k : Nat) : List (List Nat) := (List.range k).flatMap fun k => if Nat.blt (o.getD (k + 1) 0) (o.getD k 0) then (wordsN n (swapAt o k)).map (· ++ [k]) else []
theorem wpart_succ (n : Nat) (o : List Nat) (k : Nat) : wpart n o (k + 1) = wpart n o k ++ (if Nat.blt (o.getD (k + 1) 0) (o.getD k 0) then (wordsN n (swapAt o k)).map (· ++ [k]) else []) := by
  unfold wpart
  rw [List.range_succ, List.flatMap_append, List.flatMap_singleton]
theorem wpart_all (n : Nat) (o : List Nat) : wordsN (n + 1) o = if (wpart n o 3).isEmpty then [[]] else wpart n o 3 := rfl
def okO : Nat → List Nat → Bool
  | 0, _ => false
  | n + 1, o => Nat.ble (wordsN (n + 1) o).length 100 && (wordsN (n + 1) o).all (fun w => Nat.ble w.length 10) && [0, 1, 2].all fun k => !Nat.blt (o.getD (k + 1) 0) (o.getD k 0) || okO n (swapAt o k)
theorem okO_tab : (upTo 6).all (fun s => okO 7 s.2) = true := by decide +kernel
theorem okO_len : ∀ {n : Nat} {o : List Nat}, okO n o = true → (wordsN n o).length ≤ 100 ∧ (∀ v ∈ wordsN n o, v.length ≤ 10) ∧ wordsN n o ≠ []
  | 0, _, h => by cases h
  | n + 1, o, h => by
    simp only [okO, Bool.and_eq_true, Nat.ble_eq] at h
    refine ⟨h.1.1, fun v hv => by simpa using List.all_eq_true.mp h.1.2 v hv, ?_⟩
    rw [wpart_all]
    split
    · exact List.cons_ne_nil _ _
    · rename_i he
      intro e
      rw [e] at he
      exact he rfl
theorem okO_sub {n : Nat} {o : List Nat} {k : Nat} (h : okO (n + 1) o = true) (hk : k < 3) (hd : Nat.blt (o.getD (k + 1) 0) (o.getD k 0) = true) : okO n (swapAt o k) = true := by
  simp only [okO, Bool.and_eq_true] at h
  have h2 := List.all_eq_true.mp h.2 k (by simp; omega)
  rw [hd] at h2
  simpa using h2
theorem words_at {zl : List (Str × Tok)} {ws : List (List Nat)} {j : Nat} {v : Value} (hzl : zl.map (fun p : Str × Tok => p.1) = ws.map encT) (hw : ∀ v ∈ ws, v.length ≤ 10) (hv : (strValues zl)[j]? = some v) : ∃ (v0 : List Nat) (t0 : Tok), v = .str (encT v0) t0 ∧ ws[j]? = some v0 ∧ v0.length ≤ 10 := by
  rw [strValues, List.getElem?_map, Option.map_eq_some_iff] at hv
  obtain ⟨⟨x, t⟩, h1, rfl⟩ := hv
  have h2 := congrArg (fun l : List Str => l[j]?) hzl
  simp only [List.getElem?_map, h1, Option.map_some] at h2
  obtain ⟨v0, h3, h4⟩ := Option.map_eq_some_iff.mp h2.symm
  exact ⟨v0, t, by rw [h4], h3, hw v0 (List.mem_of_getElem? h3)⟩
theorem not_long {b : Bool} {n : Nat} (h : n ≤ 1000) : ¬ (b && Builtin.List.listTooLong n) = true := by
  rw [Bool.and_eq_true]
  rintro ⟨-, h2⟩
  have h3 : sizeLine < n := by simpa [Builtin.List.listTooLong] using h2
  rw [sizeLine_eq] at h3
  omega
local macro_rules | `(tactic| walk_at "call ref") => `(tactic| ((first | (with_reducible show wpAny _ _ (call (Value.ref 268) _) _ _ _) | (with_reducible show wpAny _ _ (call (Value.ref 268) _ _) _ _ _)); refine Stop.mk ?_))
local macro_rules | `(tactic| walk_at "exec For") => `(tactic| ((fail_if_success (have : Go 1 := by assumption)); refine Stop.mk ?_))
local macro_rules | `(tactic| walk_at "exec While") => `(tactic| ((fail_if_success (have : Go 1 := by assumption)); refine Stop.mk ?_))
local macro_rules | `(tactic| walk_at "pyIter ref") => `(tactic| (refine Stop.mk ?_))
local macro_rules | `(tactic| walk_at "eval ListComp") => `(tactic| (refine Stop.mk ?_))
local macro_rules | `(tactic| walk_at "call builtin:list.extend") => `(tactic| (refine Stop.mk ?_))
local macro_rules | `(tactic| walk_at "truthy ref") => `(tactic| (refine Stop.mk ?_))
set_option maxRecDepth 100000 in
set_option maxHeartbeats 0 in
theorem words_con (w : World) : ∀ (n : Nat) (rest : List (Addr × Obj)) (O : Addr) (e0 e1 e2 e3 : Nat) (ta tb tc td : Tok) (kO : Nat) (_ : okO n [e0, e1, e2, e3] = true),
   Con w (.ref 268) [.ref O] (3 * n + 1) (3 * n + 1) ((O, listOf #[.int (e0 : Int) ta, .int (e1 : Int) tb, .int (e2 : Int) tc, .int (e3 : Int) td] kO) :: rest)
     (fun news' r => ∃ D kD yl, r = .ref D ∧ List.map (fun p : Str × Tok => p.1) yl = (wordsN n [e0, e1, e2, e3]).map encT ∧ news' = (D, listOf (strValues yl).toArray kD) :: (O, listOf #[.int (e0 : Int) ta, .int (e1 : Int) tb, .int (e2 : Int) tc, .int (e3 : Int) td] kO) :: rest) := by
  intro n
  induction n with
  | zero => intro rest O e0 e1 e2 e3 ta tb tc td kO h; cases h
  | succ n ih =>
  intro rest O e0 e1 e2 e3 ta tb tc td kO hok
  unfold Con
  k_fill
  intro p loose mean mg mb dp un gd cn csc a ccd cl outer A₀ base h₀ L m s Q E hB hF hX hN hT hck hdp hun hret
  (refine' code_defC (binds := [("order", .ref O)]) ?k1 ?k2 ?k3 ?k4 ?k5 ?kA ?kF ?kK ?k6 ?k7 ?k8 ?k9 ?kB ?kD ?_ ?c2 ?c3 ?c4; (case kA => exact rfl); (case kF => exact rfl); (case kK => assumption); (case k1 => k_asm); (case k2 => k_asm); (case k3 => k_asm); (case k4 => k_asm); (case k5 => k_asm); (case k6 => k_is); (case k7 => k_is); (case k8 => ktr_room); (case k9 => first | exact BindsTo.of_eq rfl | exact binds_K (by k_in) rfl (by k_is) rfl rfl rfl); (case kB => exact rfl); (case kD => decide +kernel); (case c2 => exact rfl); (case c3 => exact rfl); (case c4 => exact rfl); k_whole; intro g' L' h' tk' cells' FG' F' N' Y' B' X' T' l1; (try k_lt l1); k_cells Y'; (try simp only [List.cons_append, List.nil_append] at N'); (try dsimp only); (try k_lift B'); (try k_fold))
  k_steps
  refine Stop.out ?_
  rename Fr _ _ _ _ => F9
  rename News _ _ _ _ => N9
  with_unfolding_all refine' For_turns F9 ?_ ?k1 ?k2
  case k1 => exact fun _ => rfl
  case k2 => passes_own
  k_steps
  refine Stop.out ?_
  rename_i co dco W _ lW _ F1 N1 _ _ _ _ _ hrng F9 N9 _
  clear F1 N1
  refine kdr_iter 3 (fun i m nx => ∀ Z : Prop, (∀ (yl : List (Str × Tok)) (kw : Nat) (co : Obj) (cv : Option Value), (m "words" = some (.ref W) ∧ m "order" = some (.ref O)) → co.data = .cell cv → yl.map (fun p : Str × Tok => p.1) = (wpart n [e0, e1, e2, e3] i).map encT → yl.length ≤ 100 * i →
    nx = (W, listOf (strValues yl).toArray kw) :: (L' + 1, co) :: (O, listOf #[.int (e0 : Int) ta, .int (e1 : Int) tb, .int (e2 : Int) tc, .int (e3 : Int) td] kO) :: rest → Z) → Z) rfl (by assumption) rfl (by decide) F9 N9 (fun _ q => q [] 0 co _ ⟨rfl, rfl⟩ dco rfl (Nat.le_refl _) rfl) ?turn ?done
  case turn =>
    intro i tk9 m₁ news₁ h₁ tk₁ own hi hoff hJ9 F₁ N₁
    try k_fold
    refine hJ9 _ ?_
    clear hJ9 F9 N9
    rintro yl kw co cv ⟨hm1, hm2⟩ hco hyl hyn rfl
    have F2 := Fr.al [("words", .ref W), ("order", .ref O)] F₁ (al_cons hm1 (al_cons hm2 al_nil))
    obtain ⟨tl, htl⟩ : ∃ z, z = rest ++ own := ⟨_, rfl⟩
    have N2 : News g' L' h₁ ((W, listOf (strValues yl).toArray kw) :: (L' + 1, co) :: (O, listOf #[.int (e0 : Int) ta, .int (e1 : Int) tb, .int (e2 : Int) tc, .int (e3 : Int) td] kO) :: tl) := htl ▸ N₁
    have ho1 : OwnOff tl [W] := htl ▸ own_app (own_lt lW.2.2 (Nat.le_refl _)) (own_of_off hoff (.head _))
    have ho2 : OwnOff tl [L' + 1] := htl ▸ own_app (own_lt l1.2 (Nat.le_succ _)) (own_of_off hoff (.tail _ (.head _)))
    clear F₁ N₁
    have hws := wpart_succ n [e0, e1, e2, e3] i
    rcases (show i = 0 ∨ i = 1 ∨ i = 2 by omega) with rfl | rfl | rfl
    · ((try k_fold); k_steps)
      · rename [_, _, _, _].getD _ _ < _ => hc
        have hc : (e1 : Int) < (e0 : Int) := hc
        have hbl : Nat.blt ([e0, e1, e2, e3].getD (0 + 1) 0) ([e0, e1, e2, e3].getD 0 0) = true := by rw [Nat.blt_eq]; show e1 < e0; omega
        refine Stop.out ?_
        rename Fr g' L' _ _ => F9
        rename News g' L' _ _ => N9
        rename _ = Data.cell (some (Value.int _ _)) => dc9
        obtain ⟨D, t8, t9, co, F9, N9, dc, hDW⟩ : ∃ (D : Addr) (t8 t9 : Tok) (co : Obj), Fr g' L' _ (fun y => if y = "nearer" then some (.ref D) else al [("words", .ref W), ("order", .ref O)] m₁ y) ∧ News g' L' _ ((D, listOf #[.int (e1 : Int) t8, .int (e0 : Int) t9, .int (e2 : Int) tc, .int (e3 : Int) td] 0) :: (W, listOf (strValues yl).toArray kw) :: (L' + 1, co) :: (O, listOf #[.int (e0 : Int) ta, .int (e1 : Int) tb, .int (e2 : Int) tc, .int (e3 : Int) td] kO) :: tl) ∧ co.data = .cell (some (.int (0 : Int) tk9)) ∧ @LT.lt Nat _ W D := ⟨_, _, _, _, F9, News.sub N9 (by k_allIn), dc9, by omega⟩
        clear dc9 hco
        rw [if_pos hbl] at hws
        have hok2 : okO n [e1, e0, e2, e3] = true := okO_sub hok (by decide) hbl
        obtain ⟨hn100, hn10, hnne⟩ := okO_len hok2
        rw [show swapAt [e0, e1, e2, e3] 0 = [e1, e0, e2, e3] from rfl] at hws
        k_dflt refine ListComp_N (_F₀ := F9) rfl (by decide) rfl (by decide) rfl ?_
        ((try k_fold); k_steps)
        refine Stop.out ?_
        rename Fr g' L' _ _ => F9
        rename News g' L' _ _ => N9
        refine Con.use (ih ((W, listOf (strValues yl).toArray kw) :: (L' + 1, co) :: (O, listOf #[.int (e0 : Int) ta, .int (e1 : Int) tb, .int (e2 : Int) tc, .int (e3 : Int) td] kO) :: tl) D e1 e0 e2 e3 t8 t9 tc td 0 hok2) B' F9 X' N9 T' rfl (by ktr_room) (by ktr_units) ?_
        rintro r h' tk' news' F' N' hp90
        try k_fold
        obtain ⟨D2, kD2, zl, rfl, hzl, rfl⟩ := hp90
        clear F9 N9
        obtain ⟨ws, hwz⟩ : ∃ z, z = wordsN n [e1, e0, e2, e3] := ⟨_, rfl⟩
        rw [← hwz] at hws hzl hn100 hn10 hnne
        have hzn : zl.length = ws.length := by have := congrArg List.length hzl; simpa using this
        have hvl : (strValues zl).length = ws.length := by rw [strValues, List.length_map]; exact hzn
        obtain ⟨nx0, hnx⟩ : ∃ z, z = (D2, listOf (strValues zl).toArray kD2) :: (W, listOf (strValues yl).toArray kw) :: (L' + 1, co) :: (O, listOf #[.int (e0 : Int) ta, .int (e1 : Int) tb, .int (e2 : Int) tc, .int (e3 : Int) td] kO) :: tl := ⟨_, rfl⟩
        have hm2 : (D2, listOf (strValues zl).toArray kD2) ∈ nx0 := hnx ▸ .head _
        have hcm : (L' + 1, co) ∈ nx0 := hnx ▸ .tail _ (.tail _ (.head _))
        have N8 : News g' L' _ nx0 := News.sub N' (by rw [hnx]; k_allIn)
        clear N'
        ((try k_fold); k_steps)
        refine SrcN.list (vs := strValues zl) (k := kD2) (news := nx0) (fun i ys nx => nx = nx0 ∧ ∃ yt : List (Str × Tok), ys = strValues yt ∧ yt.map (fun p : Str × Tok => p.1) = ((ws.take i).map (· ++ [0])).map encT) rfl F' N8 hm2 (by rw [hvl, sizeLine_eq]; omega) ⟨rfl, [], rfl, rfl⟩ ?turn0 ?fin0
        case turn0 =>
          clear N8 F'
          refine TurnN.plain rfl ?_
          rintro j v ys nx I oI C oC D3 m₂ h tk E' hj hv hp90 hsr hyl3 hC' hx' F' N' off' ne'
          try k_fold
          obtain ⟨rfl, yt, rfl, hyt⟩ := hp90
          obtain ⟨v0, t0, rfl, hv0, hv1⟩ : ∃ (v0 : List Nat) (t0 : Tok), v = .str (encT v0) t0 ∧ ws[j]? = some v0 ∧ v0.length ≤ 10 := words_at hzl hn10 hv
          have hvl0 : (encT v0).length ≤ 10 := by rw [encT_len]; exact hv1
          have he : encT (v0 ++ [0]) = encT v0 ++ Str.ofString " " := by rw [← encT_app]; rfl
          have hit : Txt.item (Str.ofString " \"\\") (0 : Int) = Str.ofString " " := by decide +kernel
          have N2 := News.sub (new := (L' + 1, co) :: (I, oI) :: (C, oC) :: (D3, LCg.lst (strValues yt)) :: nx) N' (fm_cons (.tail _ (.tail _ (.tail _ hcm))) (fun _ h => h))
          clear N'
          ((try k_fold); k_steps)
          rename Fr g' L' _ _ => F9
          rename News g' L' _ _ => N9
          exact NEnd.intro F9 N9 (fun z hz => .tail _ hz) off' hsr ⟨rfl, yt ++ [(encT (v0 ++ [0]), _)], by rw [he, ← hit]; exact strV_snoc _ _ _, by rw [List.map_append, hyt, List.take_add_one, hv0, List.map_append, List.map_append]; rfl⟩
        case fin0 =>
          rintro ys D3 nx h tk ⟨rfl, yt, rfl, hyt⟩ - N' hne F'
          clear N8
          rw [show ((strValues zl).length) = ws.length from hvl, List.take_length] at hyt
          have hyt2 : yt.length = ws.length := by have := congrArg List.length hyt; simpa using this
          rw [hnx] at N'
          have hne2 : ∀ p ∈ (W, listOf (strValues yl).toArray kw) :: (L' + 1, co) :: (O, listOf #[.int (e0 : Int) ta, .int (e1 : Int) tb, .int (e2 : Int) tc, .int (e3 : Int) td] kO) :: tl, @Ne Nat p.1 D3 := fun p hp => hne p (hnx ▸ .tail _ hp)
          have hW3 : @Ne Nat D3 W := Ne.symm (hne2 _ (.head _))
          have N' := News.sub (new := (D3, LCg.lst (strValues yt)) :: (W, listOf (strValues yl).toArray kw) :: (L' + 1, co) :: (O, listOf #[.int (e0 : Int) ta, .int (e1 : Int) tb, .int (e2 : Int) tc, .int (e3 : Int) td] kO) :: tl) N' (by k_allIn)
          clear hne hne2
          ((try k_fold); k_steps)
          refine Stop.out ?_
          rename Fr g' L' _ _ => F9
          rename News g' L' _ _ => N9
          refine' kl_extend (D := W) (b := D3) (its := (strValues yl).toArray) (n := kw) (its2 := (strValues yt).toArray) (n2 := (strValues yt).length) (l := strValues (yl ++ yt)) F9 N9 ?e10 ?e20 ?e30 ?e40 ?e50 ?e60 ?e70 ?_
          case e10 => exact .head _
          case e20 => simp [strValues]
          case e30 => simp [strValues, hyt2, hnne]
          case e40 => k_upd
          case e50 => exact not_long (by simp [strValues]; omega)
          case e60 => rw [sizeLine_eq]; simp [strValues]; omega
          case e70 => rw [sizeLine_eq]; simp [strValues]; omega
          k_whole
          intro h' F' N'
          clear F9 N9
          ((try k_fold); k_steps)
          rename Fr g' L' _ _ => F9
          rename News g' L' _ _ => N9
          have N9 := News.sub (new := ((W, listOf (strValues (yl ++ yt)).toArray (kw + 1)) :: (L' + 1, co) :: (O, listOf #[.int (e0 : Int) ta, .int (e1 : Int) tb, .int (e2 : Int) tc, .int (e3 : Int) td] kO) :: rest) ++ own) N9 (by rw [htl]; k_allIn)
          exact InvEndG.intro (nx := (W, listOf (strValues (yl ++ yt)).toArray (kw + 1)) :: (L' + 1, co) :: (O, listOf #[.int (e0 : Int) ta, .int (e1 : Int) tb, .int (e2 : Int) tc, .int (e3 : Int) td] kO) :: rest) F9 N9 (fun _ q => q (yl ++ yt) (kw + 1) co _ ⟨rfl, rfl⟩ dc (by rw [hws, List.map_append, List.map_append, hyl, hyt]) (by rw [List.length_append]; omega) rfl) hoff (fun z hz => List.mem_append_left own hz) (fun z hz => List.mem_append_right ((W, listOf (strValues (yl ++ yt)).toArray (kw + 1)) :: (L' + 1, co) :: (O, listOf #[.int (e0 : Int) ta, .int (e1 : Int) tb, .int (e2 : Int) tc, .int (e3 : Int) td] kO) :: rest) hz)
      · rename ¬ ([_, _, _, _].getD _ _ < _) => hc
        have hc : ¬ (e1 : Int) < (e0 : Int) := hc
        have hbl : ¬ Nat.blt ([e0, e1, e2, e3].getD (0 + 1) 0) ([e0, e1, e2, e3].getD 0 0) = true := by rw [Nat.blt_eq]; show ¬ e1 < e0; omega
        rw [if_neg hbl, List.append_nil] at hws
        rename Fr g' L' _ _ => F9
        rename News g' L' _ _ => N9
        rename _ = Data.cell (some (Value.int _ _)) => dc9
        rw [htl] at N9
        exact InvEndG.intro (nx := (W, listOf (strValues yl).toArray kw) :: (L' + 1, _) :: (O, listOf #[.int (e0 : Int) ta, .int (e1 : Int) tb, .int (e2 : Int) tc, .int (e3 : Int) td] kO) :: rest) F9 N9 (fun _ q => q yl kw _ _ ⟨rfl, rfl⟩ dc9 (hws ▸ hyl) (by omega) rfl) hoff (fun z hz => List.mem_append_left own hz) (fun z hz => List.mem_append_right ((W, listOf (strValues yl).toArray kw) :: (L' + 1, _) :: (O, listOf #[.int (e0 : Int) ta, .int (e1 : Int) tb, .int (e2 : Int) tc, .int (e3 : Int) td] kO) :: rest) hz)
    · ((try k_fold); k_steps)
      · rename [_, _, _, _].getD _ _ < _ => hc
        have hc : (e2 : Int) < (e1 : Int) := hc
        have hbl : Nat.blt ([e0, e1, e2, e3].getD (1 + 1) 0) ([e0, e1, e2, e3].getD 1 0) = true := by rw [Nat.blt_eq]; show e2 < e1; omega
        refine Stop.out ?_
        rename Fr g' L' _ _ => F9
        rename News g' L' _ _ => N9
        rename _ = Data.cell (some (Value.int _ _)) => dc9
        obtain ⟨D, t8, t9, co, F9, N9, dc, hDW⟩ : ∃ (D : Addr) (t8 t9 : Tok) (co : Obj), Fr g' L' _ (fun y => if y = "nearer" then some (.ref D) else al [("words", .ref W), ("order", .ref O)] m₁ y) ∧ News g' L' _ ((D, listOf #[.int (e0 : Int) ta, .int (e2 : Int) t8, .int (e1 : Int) t9, .int (e3 : Int) td] 0) :: (W, listOf (strValues yl).toArray kw) :: (L' + 1, co) :: (O, listOf #[.int (e0 : Int) ta, .int (e1 : Int) tb, .int (e2 : Int) tc, .int (e3 : Int) td] kO) :: tl) ∧ co.data = .cell (some (.int (1 : Int) tk9)) ∧ @LT.lt Nat _ W D := ⟨_, _, _, _, F9, News.sub N9 (by k_allIn), dc9, by omega⟩
        clear dc9 hco
        rw [if_pos hbl] at hws
        have hok2 : okO n [e0, e2, e1, e3] = true := okO_sub hok (by decide) hbl
        obtain ⟨hn100, hn10, hnne⟩ := okO_len hok2
        rw [show swapAt [e0, e1, e2, e3] 1 = [e0, e2, e1, e3] from rfl] at hws
        k_dflt refine ListComp_N (_F₀ := F9) rfl (by decide) rfl (by decide) rfl ?_
        ((try k_fold); k_steps)
        refine Stop.out ?_
        rename Fr g' L' _ _ => F9
        rename News g' L' _ _ => N9
        refine Con.use (ih ((W, listOf (strValues yl).toArray kw) :: (L' + 1, co) :: (O, listOf #[.int (e0 : Int) ta, .int (e1 : Int) tb, .int (e2 : Int) tc, .int (e3 : Int) td] kO) :: tl) D e0 e2 e1 e3 ta t8 t9 td 0 hok2) B' F9 X' N9 T' rfl (by ktr_room) (by ktr_units) ?_
        rintro r h' tk' news' F' N' hp90
        try k_fold
        obtain ⟨D2, kD2, zl, rfl, hzl, rfl⟩ := hp90
        clear F9 N9
        obtain ⟨ws, hwz⟩ : ∃ z, z = wordsN n [e0, e2, e1, e3] := ⟨_, rfl⟩
        rw [← hwz] at hws hzl hn100 hn10 hnne
        have hzn : zl.length = ws.length := by have := congrArg List.length hzl; simpa using this
        have hvl : (strValues zl).length = ws.length := by rw [strValues, List.length_map]; exact hzn
        obtain ⟨nx0, hnx⟩ : ∃ z, z = (D2, listOf (strValues zl).toArray kD2) :: (W, listOf (strValues yl).toArray kw) :: (L' + 1, co) :: (O, listOf #[.int (e0 : Int) ta, .int (e1 : Int) tb, .int (e2 : Int) tc, .int (e3 : Int) td] kO) :: tl := ⟨_, rfl⟩
        have hm2 : (D2, listOf (strValues zl).toArray kD2) ∈ nx0 := hnx ▸ .head _
        have hcm : (L' + 1, co) ∈ nx0 := hnx ▸ .tail _ (.tail _ (.head _))
        have N8 : News g' L' _ nx0 := News.sub N' (by rw [hnx]; k_allIn)
        clear N'
        ((try k_fold); k_steps)
        refine SrcN.list (vs := strValues zl) (k := kD2) (news := nx0) (fun i ys nx => nx = nx0 ∧ ∃ yt : List (Str × Tok), ys = strValues yt ∧ yt.map (fun p : Str × Tok => p.1) = ((ws.take i).map (· ++ [1])).map encT) rfl F' N8 hm2 (by rw [hvl, sizeLine_eq]; omega) ⟨rfl, [], rfl, rfl⟩ ?turn1 ?fin1
        case turn1 =>
          clear N8 F'
          refine TurnN.plain rfl ?_
          rintro j v ys nx I oI C oC D3 m₂ h tk E' hj hv hp90 hsr hyl3 hC' hx' F' N' off' ne'
          try k_fold
          obtain ⟨rfl, yt, rfl, hyt⟩ := hp90
          obtain ⟨v0, t0, rfl, hv0, hv1⟩ : ∃ (v0 : List Nat) (t0 : Tok), v = .str (encT v0) t0 ∧ ws[j]? = some v0 ∧ v0.length ≤ 10 := words_at hzl hn10 hv
          have hvl0 : (encT v0).length ≤ 10 := by rw [encT_len]; exact hv1
          have he : encT (v0 ++ [1]) = encT v0 ++ Str.ofString "\"" := by rw [← encT_app]; rfl
          have hit : Txt.item (Str.ofString " \"\\") (1 : Int) = Str.ofString "\"" := by decide +kernel
          have N2 := News.sub (new := (L' + 1, co) :: (I, oI) :: (C, oC) :: (D3, LCg.lst (strValues yt)) :: nx) N' (fm_cons (.tail _ (.tail _ (.tail _ hcm))) (fun _ h => h))
          clear N'
          ((try k_fold); k_steps)
          rename Fr g' L' _ _ => F9
          rename News g' L' _ _ => N9
          exact NEnd.intro F9 N9 (fun z hz => .tail _ hz) off' hsr ⟨rfl, yt ++ [(encT (v0 ++ [1]), _)], by rw [he, ← hit]; exact strV_snoc _ _ _, by rw [List.map_append, hyt, List.take_add_one, hv0, List.map_append, List.map_append]; rfl⟩
        case fin1 =>
          rintro ys D3 nx h tk ⟨rfl, yt, rfl, hyt⟩ - N' hne F'
          clear N8
          rw [show ((strValues zl).length) = ws.length from hvl, List.take_length] at hyt
          have hyt2 : yt.length = ws.length := by have := congrArg List.length hyt; simpa using this
          rw [hnx] at N'
          have hne2 : ∀ p ∈ (W, listOf (strValues yl).toArray kw) :: (L' + 1, co) :: (O, listOf #[.int (e0 : Int) ta, .int (e1 : Int) tb, .int (e2 : Int) tc, .int (e3 : Int) td] kO) :: tl, @Ne Nat p.1 D3 := fun p hp => hne p (hnx ▸ .tail _ hp)
          have hW3 : @Ne Nat D3 W := Ne.symm (hne2 _ (.head _))
          have N' := News.sub (new := (D3, LCg.lst (strValues yt)) :: (W, listOf (strValues yl).toArray kw) :: (L' + 1, co) :: (O, listOf #[.int (e0 : Int) ta, .int (e1 : Int) tb, .int (e2 : Int) tc, .int (e3 : Int) td] kO) :: tl) N' (by k_allIn)
          clear hne hne2
          ((try k_fold); k_steps)
          refine Stop.out ?_
          rename Fr g' L' _ _ => F9
          rename News g' L' _ _ => N9
          refine' kl_extend (D := W) (b := D3) (its := (strValues yl).toArray) (n := kw) (its2 := (strValues yt).toArray) (n2 := (strValues yt).length) (l := strValues (yl ++ yt)) F9 N9 ?e11 ?e21 ?e31 ?e41 ?e51 ?e61 ?e71 ?_
          case e11 => exact .head _
          case e21 => simp [strValues]
          case e31 => simp [strValues, hyt2, hnne]
          case e41 => k_upd
          case e51 => exact not_long (by simp [strValues]; omega)
          case e61 => rw [sizeLine_eq]; simp [strValues]; omega
          case e71 => rw [sizeLine_eq]; simp [strValues]; omega
          k_whole
          intro h' F' N'
          clear F9 N9
          ((try k_fold); k_steps)
          rename Fr g' L' _ _ => F9
          rename News g' L' _ _ => N9
          have N9 := News.sub (new := ((W, listOf (strValues (yl ++ yt)).toArray (kw + 1)) :: (L' + 1, co) :: (O, listOf #[.int (e0 : Int) ta, .int (e1 : Int) tb, .int (e2 : Int) tc, .int (e3 : Int) td] kO) :: rest) ++ own) N9 (by rw [htl]; k_allIn)
          exact InvEndG.intro (nx := (W, listOf (strValues (yl ++ yt)).toArray (kw + 1)) :: (L' + 1, co) :: (O, listOf #[.int (e0 : Int) ta, .int (e1 : Int) tb, .int (e2 : Int) tc, .int (e3 : Int) td] kO) :: rest) F9 N9 (fun _ q => q (yl ++ yt) (kw + 1) co _ ⟨rfl, rfl⟩ dc (by rw [hws, List.map_append, List.map_append, hyl, hyt]) (by rw [List.length_append]; omega) rfl) hoff (fun z hz => List.mem_append_left own hz) (fun z hz => List.mem_append_right ((W, listOf (strValues (yl ++ yt)).toArray (kw + 1)) :: (L' + 1, co) :: (O, listOf #[.int (e0 : Int) ta, .int (e1 : Int) tb, .int (e2 : Int) tc, .int (e3 : Int) td] kO) :: rest) hz)
      · rename ¬ ([_, _, _, _].getD _ _ < _) => hc
        have hc : ¬ (e2 : Int) < (e1 : Int) := hc
        have hbl : ¬ Nat.blt ([e0, e1, e2, e3].getD (1 + 1) 0) ([e0, e1, e2, e3].getD 1 0) = true := by rw [Nat.blt_eq]; show ¬ e2 < e1; omega
        rw [if_neg hbl, List.append_nil] at hws
        rename Fr g' L' _ _ => F9
        rename News g' L' _ _ => N9
        rename _ = Data.cell (some (Value.int _ _)) => dc9
        rw [htl] at N9
        exact InvEndG.intro (nx := (W, listOf (strValues yl).toArray kw) :: (L' + 1, _) :: (O, listOf #[.int (e0 : Int) ta, .int (e1 : Int) tb, .int (e2 : Int) tc, .int (e3 : Int) td] kO) :: rest) F9 N9 (fun _ q => q yl kw _ _ ⟨rfl, rfl⟩ dc9 (hws ▸ hyl) (by omega) rfl) hoff (fun z hz => List.mem_append_left own hz) (fun z hz => List.mem_append_right ((W, listOf (strValues yl).toArray kw) :: (L' + 1, _) :: (O, listOf #[.int (e0 : Int) ta, .int (e1 : Int) tb, .int (e2 : Int) tc, .int (e3 : Int) td] kO) :: rest) hz)
    · ((try k_fold); k_steps)
      · rename [_, _, _, _].getD _ _ < _ => hc
        have hc : (e3 : Int) < (e2 : Int) := hc
        have hbl : Nat.blt ([e0, e1, e2, e3].getD (2 + 1) 0) ([e0, e1, e2, e3].getD 2 0) = true := by rw [Nat.blt_eq]; show e3 < e2; omega
        refine Stop.out ?_
        rename Fr g' L' _ _ => F9
        rename News g' L' _ _ => N9
        rename _ = Data.cell (some (Value.int _ _)) => dc9
        obtain ⟨D, t8, t9, co, F9, N9, dc, hDW⟩ : ∃ (D : Addr) (t8 t9 : Tok) (co : Obj), Fr g' L' _ (fun y => if y = "nearer" then some (.ref D) else al [("words", .ref W), ("order", .ref O)] m₁ y) ∧ News g' L' _ ((D, listOf #[.int (e0 : Int) ta, .int (e1 : Int) tb, .int (e3 : Int) t8, .int (e2 : Int) t9] 0) :: (W, listOf (strValues yl).toArray kw) :: (L' + 1, co) :: (O, listOf #[.int (e0 : Int) ta, .int (e1 : Int) tb, .int (e2 : Int) tc, .int (e3 : Int) td] kO) :: tl) ∧ co.data = .cell (some (.int (2 : Int) tk9)) ∧ @LT.lt Nat _ W D := ⟨_, _, _, _, F9, News.sub N9 (by k_allIn), dc9, by omega⟩
        clear dc9 hco
        rw [if_pos hbl] at hws
        have hok2 : okO n [e0, e1, e3, e2] = true := okO_sub hok (by decide) hbl
        obtain ⟨hn100, hn10, hnne⟩ := okO_len hok2
        rw [show swapAt [e0, e1, e2, e3] 2 = [e0, e1, e3, e2] from rfl] at hws
        k_dflt refine ListComp_N (_F₀ := F9) rfl (by decide) rfl (by decide) rfl ?_
        ((try k_fold); k_steps)
        refine Stop.out ?_
        rename Fr g' L' _ _ => F9
        rename News g' L' _ _ => N9
        refine Con.use (ih ((W, listOf (strValues yl).toArray kw) :: (L' + 1, co) :: (O, listOf #[.int (e0 : Int) ta, .int (e1 : Int) tb, .int (e2 : Int) tc, .int (e3 : Int) td] kO) :: tl) D e0 e1 e3 e2 ta tb t8 t9 0 hok2) B' F9 X' N9 T' rfl (by ktr_room) (by ktr_units) ?_
        rintro r h' tk' news' F' N' hp90
        try k_fold
        obtain ⟨D2, kD2, zl, rfl, hzl, rfl⟩ := hp90
        clear F9 N9
        obtain ⟨ws, hwz⟩ : ∃ z, z = wordsN n [e0, e1, e3, e2] := ⟨_, rfl⟩
        rw [← hwz] at hws hzl hn100 hn10 hnne
        have hzn : zl.length = ws.length := by have := congrArg List.length hzl; simpa using this
        have hvl : (strValues zl).length = ws.length := by rw [strValues, List.length_map]; exact hzn
        obtain ⟨nx0, hnx⟩ : ∃ z, z = (D2, listOf (strValues zl).toArray kD2) :: (W, listOf (strValues yl).toArray kw) :: (L' + 1, co) :: (O, listOf #[.int (e0 : Int) ta, .int (e1 : Int) tb, .int (e2 : Int) tc, .int (e3 : Int) td] kO) :: tl := ⟨_, rfl⟩
        have hm2 : (D2, listOf (strValues zl).toArray kD2) ∈ nx0 := hnx ▸ .head _
        have hcm : (L' + 1, co) ∈ nx0 := hnx ▸ .tail _ (.tail _ (.head _))
        have N8 : News g' L' _ nx0 := News.sub N' (by rw [hnx]; k_allIn)
        clear N'
        ((try k_fold); k_steps)
        refine SrcN.list (vs := strValues zl) (k := kD2) (news := nx0) (fun i ys nx => nx = nx0 ∧ ∃ yt : List (Str × Tok), ys = strValues yt ∧ yt.map (fun p : Str × Tok => p.1) = ((ws.take i).map (· ++ [2])).map encT) rfl F' N8 hm2 (by rw [hvl, sizeLine_eq]; omega) ⟨rfl, [], rfl, rfl⟩ ?turn2 ?fin2
        case turn2 =>
          clear N8 F'
          refine TurnN.plain rfl ?_
          rintro j v ys nx I oI C oC D3 m₂ h tk E' hj hv hp90 hsr hyl3 hC' hx' F' N' off' ne'
          try k_fold
          obtain ⟨rfl, yt, rfl, hyt⟩ := hp90
          obtain ⟨v0, t0, rfl, hv0, hv1⟩ : ∃ (v0 : List Nat) (t0 : Tok), v = .str (encT v0) t0 ∧ ws[j]? = some v0 ∧ v0.length ≤ 10 := words_at hzl hn10 hv
          have hvl0 : (encT v0).length ≤ 10 := by rw [encT_len]; exact hv1
          have he : encT (v0 ++ [2]) = encT v0 ++ Str.ofString "\\" := by rw [← encT_app]; rfl
          have hit : Txt.item (Str.ofString " \"\\") (2 : Int) = Str.ofString "\\" := by decide +kernel
          have N2 := News.sub (new := (L' + 1, co) :: (I, oI) :: (C, oC) :: (D3, LCg.lst (strValues yt)) :: nx) N' (fm_cons (.tail _ (.tail _ (.tail _ hcm))) (fun _ h => h))
          clear N'
          ((try k_fold); k_steps)
          rename Fr g' L' _ _ => F9
          rename News g' L' _ _ => N9
          exact NEnd.intro F9 N9 (fun z hz => .tail _ hz) off' hsr ⟨rfl, yt ++ [(encT (v0 ++ [2]), _)], by rw [he, ← hit]; exact strV_snoc _ _ _, by rw [List.map_append, hyt, List.take_add_one, hv0, List.map_append, List.map_append]; rfl⟩
        case fin2 =>
          rintro ys D3 nx h tk ⟨rfl, yt, rfl, hyt⟩ - N' hne F'
          clear N8
          rw [show ((strValues zl).length) = ws.length from hvl, List.take_length] at hyt
          have hyt2 : yt.length = ws.length := by have := congrArg List.length hyt; simpa using this
          rw [hnx] at N'
          have hne2 : ∀ p ∈ (W, listOf (strValues yl).toArray kw) :: (L' + 1, co) :: (O, listOf #[.int (e0 : Int) ta, .int (e1 : Int) tb, .int (e2 : Int) tc, .int (e3 : Int) td] kO) :: tl, @Ne Nat p.1 D3 := fun p hp => hne p (hnx ▸ .tail _ hp)
          have hW3 : @Ne Nat D3 W := Ne.symm (hne2 _ (.head _))
          have N' := News.sub (new := (D3, LCg.lst (strValues yt)) :: (W, listOf (strValues yl).toArray kw) :: (L' + 1, co) :: (O, listOf #[.int (e0 : Int) ta, .int (e1 : Int) tb, .int (e2 : Int) tc, .int (e3 : Int) td] kO) :: tl) N' (by k_allIn)
          clear hne hne2
          ((try k_fold); k_steps)
          refine Stop.out ?_
          rename Fr g' L' _ _ => F9
          rename News g' L' _ _ => N9
          refine' kl_extend (D := W) (b := D3) (its := (strValues yl).toArray) (n := kw) (its2 := (strValues yt).toArray) (n2 := (strValues yt).length) (l := strValues (yl ++ yt)) F9 N9 ?e12 ?e22 ?e32 ?e42 ?e52 ?e62 ?e72 ?_
          case e12 => exact .head _
          case e22 => simp [strValues]
          case e32 => simp [strValues, hyt2, hnne]
          case e42 => k_upd
          case e52 => exact not_long (by simp [strValues]; omega)
          case e62 => rw [sizeLine_eq]; simp [strValues]; omega
          case e72 => rw [sizeLine_eq]; simp [strValues]; omega
          k_whole
          intro h' F' N'
          clear F9 N9
          ((try k_fold); k_steps)
          rename Fr g' L' _ _ => F9
          rename News g' L' _ _ => N9
          have N9 := News.sub (new := ((W, listOf (strValues (yl ++ yt)).toArray (kw + 1)) :: (L' + 1, co) :: (O, listOf #[.int (e0 : Int) ta, .int (e1 : Int) tb, .int (e2 : Int) tc, .int (e3 : Int) td] kO) :: rest) ++ own) N9 (by rw [htl]; k_allIn)
          exact InvEndG.intro (nx := (W, listOf (strValues (yl ++ yt)).toArray (kw + 1)) :: (L' + 1, co) :: (O, listOf #[.int (e0 : Int) ta, .int (e1 : Int) tb, .int (e2 : Int) tc, .int (e3 : Int) td] kO) :: rest) F9 N9 (fun _ q => q (yl ++ yt) (kw + 1) co _ ⟨rfl, rfl⟩ dc (by rw [hws, List.map_append, List.map_append, hyl, hyt]) (by rw [List.length_append]; omega) rfl) hoff (fun z hz => List.mem_append_left own hz) (fun z hz => List.mem_append_right ((W, listOf (strValues (yl ++ yt)).toArray (kw + 1)) :: (L' + 1, co) :: (O, listOf #[.int (e0 : Int) ta, .int (e1 : Int) tb, .int (e2 : Int) tc, .int (e3 : Int) td] kO) :: rest) hz)
      · rename ¬ ([_, _, _, _].getD _ _ < _) => hc
        have hc : ¬ (e3 : Int) < (e2 : Int) := hc
        have hbl : ¬ Nat.blt ([e0, e1, e2, e3].getD (2 + 1) 0) ([e0, e1, e2, e3].getD 2 0) = true := by rw [Nat.blt_eq]; show ¬ e3 < e2; omega
        rw [if_neg hbl, List.append_nil] at hws
        rename Fr g' L' _ _ => F9
        rename News g' L' _ _ => N9
        rename _ = Data.cell (some (Value.int _ _)) => dc9
        rw [htl] at N9
        exact InvEndG.intro (nx := (W, listOf (strValues yl).toArray kw) :: (L' + 1, _) :: (O, listOf #[.int (e0 : Int) ta, .int (e1 : Int) tb, .int (e2 : Int) tc, .int (e3 : Int) td] kO) :: rest) F9 N9 (fun _ q => q yl kw _ _ ⟨rfl, rfl⟩ dc9 (hws ▸ hyl) (by omega) rfl) hoff (fun z hz => List.mem_append_left own hz) (fun z hz => List.mem_append_right ((W, listOf (strValues yl).toArray kw) :: (L' + 1, _) :: (O, listOf #[.int (e0 : Int) ta, .int (e1 : Int) tb, .int (e2 : Int) tc, .int (e3 : Int) td] kO) :: rest) hz)
  case done =>
    intro m₁ news₁ h₁ tk₁ hJ9 F₁ N₁
    dsimp only
    try k_fold
    refine hJ9 _ ?_
    clear hJ9 F9 N9
    rintro yl kw co cv ⟨hm1, hm2⟩ hco hyl hyn rfl
    have F2 := Fr.al [("words", .ref W), ("order", .ref O)] F₁ (al_cons hm1 (al_cons hm2 al_nil))
    clear F₁
    have hwa := wpart_all n [e0, e1, e2, e3]
    have hvl : (strValues yl).length ≤ 1000000 := by rw [strValues, List.length_map]; omega
    cases yl with
    | nil =>
      rw [if_pos (by rw [List.map_eq_nil_iff.mp hyl.symm]; rfl)] at hwa
      ((try k_fold); k_steps)
      refine Stop.out (truthy_led N₁ (.head _) hvl false rfl ?_)
      ((try k_fold); k_steps)
      rename News h₀ _ _ _ => N9
      exact hret _ _ _ _ (by assumption) (News.sub (new := (_, listOf #[.str (Str.ofString "") _] 0) :: (O, listOf #[.int (e0 : Int) ta, .int (e1 : Int) tb, .int (e2 : Int) tc, .int (e3 : Int) td] kO) :: rest) N9 (by k_allIn)) ⟨_, 0, [(Str.ofString "", _)], rfl, by rw [hwa]; rfl, rfl⟩
    | cons y r =>
      rw [if_neg (by cases hq : wpart n [e0, e1, e2, e3] 3 with | nil => rw [hq] at hyl; cases hyl | cons _ _ => exact Bool.false_ne_true)] at hwa
      ((try k_fold); k_steps)
      refine Stop.out (truthy_led N₁ (.head _) hvl true rfl ?_)
      ((try k_fold); k_steps)
      rename News h₀ _ _ _ => N9
      exact hret _ _ _ _ (by assumption) (News.sub N9 (by k_allIn)) ⟨W, kw, y :: r, rfl, by rw [hwa]; exact hyl, rfl⟩
end PA2_01
section PR2_01
theorem still_R2_01 : True := by
  w_top off
  trivial
open PySem.Spec PySem.Calls PyProof.Rows PyProof.Rows.LCg
/-! ## a comprehension with a pair over zip, one test, where test and item leave the heap as it is -/
section
variable {prog : Program} {w : World} {A : Around} {E : Value → Shared → Prop} {s : Shared} {h₀ : Heap} {L : Addr} {m : Str → Option Value} {env : Env}
def TurnZ (prog : Program) (w : World) (A : Around) (h₀ : Heap) (L : Addr) (m : Str → Option Value) (env : Env) (c elt : PySem.Expr) (a b : Str) (scope : Scope) (cl : List (Str × Addr)) (s₁ : Shared) (news : List (Addr × Obj)) (n : Nat) (Pt : Nat → Array Value → Prop) (bt : Nat → Bool) : Prop :=
  ∀ (i : Nat) (vals : Array Value), i < n → Pt i vals → ∃ v1 v2, vals = #[v1, v2] ∧ ∀ oC C D ys m₂ h tk (E' : Value → Shared → Prop), NsObj oC m₂ → m₂ a = some v1 → m₂ b = some v2 → Fr h₀ L h m → News h₀ L h ((C, oC) :: (D, lst ys) :: news) →
      wpAny (model prog w) A (isTrue c (compEnvC scope cl C env) (eval c (compEnvC scope cl C env))) (fun okb s₃ => (∃ tk', s₃ = { s₁ with heap := h, toks := tk' }) ∧ okb = bt i) E' { s₁ with heap := h, toks := tk } ∧
      wpAny (model prog w) A (eval elt (compEnvC scope cl C env)) (fun _ s₃ => ∃ tk', s₃ = { s₁ with heap := h, toks := tk' }) E' { s₁ with heap := h, toks := tk }
def SrcZ (prog : Program) (w : World) (A : Around) (h₀ : Heap) (L : Addr) (m : Str → Option Value) (env : Env) (c elt : PySem.Expr) (a b : Str) (scope : Scope) (cl : List (Str × Addr)) (Q : Value → Shared → Prop) (xv : Value) (s₁ : Shared) : Prop :=
  ∃ (I : Addr) (fp wr : List Addr) (n : Nat) (Pt : Nat → Array Value → Prop) (St : Nat → Heap → Prop) (Mid : Nat → Addr → Heap → Prop) (news : List (Addr × Obj)) (bt : Nat → Bool), xv = .ref I ∧ A.handled = none ∧ WalksU prog w A I fp wr n Pt St Mid ∧
    Fr h₀ L s₁.heap m ∧ News h₀ L s₁.heap news ∧ St 0 s₁.heap ∧ (∀ b ∈ fp, b < s₁.heap.objs.size) ∧ (∀ b ∈ wr, h₀.get? b = none ∧ b ≠ L ∧ ∀ p ∈ news, p.1 ≠ b) ∧ n ≤ sizeLine ∧
    TurnZ prog w A h₀ L m env c elt a b scope cl s₁ news n Pt bt ∧
    (∀ ys D h tk, ys.isEmpty = (List.range n).all (fun i => !bt i) → ys.length ≤ n → Fr h₀ L h m → News h₀ L h ((D, lst ys) :: news) → (∀ p ∈ news, p.1 ≠ D) → Q (.ref D) { s₁ with heap := h, toks := tk })
theorem all_succ {bt : Nat → Bool} {i : Nat} : (List.range (i + 1)).all (fun i => !bt i) = ((List.range i).all (fun i => !bt i) && !bt i) := by
  rw [List.range_succ, List.all_append]; simp
theorem blockZ {elt iter c : PySem.Expr} {a b : Str} {pa pb tp : Pos} {kk : Nat} {scope : Scope} {cl : List (Str × Addr)} {pos : Pos} {s₂ : Shared} {I : Addr} {fp wr : List Addr} {n : Nat} {Pt : Nat → Array Value → Prop} {St : Nat → Heap → Prop} {Mid : Nat → Addr → Heap → Prop} {news : List (Addr × Obj)} {bt : Nat → Bool} {RR : Value → Addr → Result → Shared → Prop}
    (hh : A.handled = none) (W : WalksU prog w A I fp wr n Pt St Mid) (hsz : n ≤ sizeLine) (hst : St 0 s₂.heap) (hfp : ∀ b ∈ fp, b < s₂.heap.objs.size) (hwr : ∀ b ∈ wr, h₀.get? b = none ∧ b ≠ L ∧ ∀ p ∈ news, p.1 ≠ b)
    (hcell : ∀ y ∈ scope.names, y.2 ≠ .cell) (hkind : scope.kind = .function) (hxa : scope.names.lookup a = some .local) (hxb : scope.names.lookup b = some .local) (hab : ¬ a = b)
    (F : Fr h₀ L s₂.heap m) (N : News h₀ L s₂.heap news)
    (turn : TurnZ prog w A h₀ L m env c elt a b scope cl s₂ news n Pt bt)
    (hRR : ∀ D C h tk m' ys, Fr h₀ L h m → News h₀ L h ((D, lst ys) :: news) → (∀ p ∈ news, p.1 ≠ D) → h.Ns C m' → h₀.get? C = none → C ≠ L → C ≠ D → (∀ p ∈ news, p.1 ≠ C) → ys.isEmpty = (List.range n).all (fun i => !bt i) → ys.length ≤ n → RR (.ref D) C (.ok .next) { s₂ with heap := h, toks := tk }) :
    wpAny (model prog w) A (newList []) (fun acc s₃ => wpAny (model prog w) A (newFunctionEnv scope env.globals cl [] env.qual none .none (some env)) (fun cenv s₄ =>
      codeAny (model prog w) A (.compStart (.ListComp elt [⟨.Tuple [.Name a pa, .Name b pb] kk tp, iter, [c], 0⟩] scope pos) 0 (.ref I) acc { cenv with scope := relabel scope env }) (RR acc cenv.locals) s₄) E s₃) E s₂ := by
  refine wpAny_newObj_type (wpAny_newFunctionEnv hcell (by intro y hy; simp at hy) (fun h₁ hns₁ hsb₁ => ?_) hkind)
  dsimp only at hns₁ hsb₁ ⊢
  generalize hH2 : s₂.heap.push { cls := .type "list", dict := none, data := .seq ([] : List Value).toArray } = H2 at hns₁ hsb₁ ⊢
  have hCe : H2.objs.size = s₂.heap.objs.size + 1 := by rw [← hH2, Heap.size_push]
  generalize hCx : H2.objs.size = C at hns₁ hsb₁ hCe ⊢
  generalize hDe : s₂.heap.objs.size = D at hns₁ hsb₁ hCe hfp ⊢
  have lt2 : ∀ {x : Addr} {o : Obj}, s₂.heap.get? x = some o → @LT.lt Nat _ x D := fun e => hDe ▸ Heap.lt_size e
  have up : ∀ x o, s₂.heap.get? x = some o → h₁.get? x = some o := fun x o e => hsb₁.extBut x o (show @Ne Nat x C from by have := lt2 e; omega) (Heap.get?_push_of_some _ (hH2 ▸ Heap.get?_push_of_some _ e))
  have none₀ : ∀ x : Addr, @LE.le Nat _ D x → h₀.get? x = none := fun x hx => by
    cases e : h₀.get? x with
    | none => rfl
    | some o => exact absurd (lt2 (F.keep x o e)) (Nat.not_lt.mpr hx)
  have hD₀ : h₀.get? D = none := none₀ D (Nat.le_refl _)
  have hC₀ : h₀.get? C = none := none₀ _ (show @LE.le Nat _ D C by omega)
  have hLlt : @LT.lt Nat _ L D := hDe ▸ F.ns.lt
  have nlt : ∀ p ∈ news, @LT.lt Nat _ p.1 D := fun p hp => lt2 (N p hp).1
  have hDL : D ≠ L := Nat.ne_of_gt hLlt
  have hCL : C ≠ L := show @Ne Nat C L by omega
  have hDC : D ≠ C := show @Ne Nat D C by omega
  have fpD : ∀ x ∈ fp, x ≠ D ∧ x ≠ C := fun x hx => by
    have h1 : @LT.lt Nat _ x D := hfp x hx
    exact ⟨Nat.ne_of_lt h1, show @Ne Nat x C by omega⟩
  have wrD : ∀ x, x ∈ wr → x ≠ D ∧ x ≠ C := fun x hx => fpD x (W.sub x hx)
  have nC : ∀ p ∈ news, p.1 ≠ C := fun p hp => show @Ne Nat p.1 C by have := nlt p hp; omega
  have nD : ∀ p ∈ news, p.1 ≠ D := fun p hp => Nat.ne_of_lt (nlt p hp)
  have hacc : h₁.get? D = some (lst []) := hsb₁.extBut _ _ hDC (Heap.get?_push_of_some _ (by rw [← hH2, ← hDe]; exact Heap.get?_push_size _ rfl))
  have hst₁ : St 0 h₁ := W.frame _ _ _ hst fun b _ o e => up b o e
  have loop : ∀ s₃ : Shared, s₃ = { s₂ with heap := h₁, toks := s₂.toks + ([] : List (Str × Value)).length } →
      codeAny (model prog w) A (.compLoop (.ListComp elt [⟨.Tuple [.Name a pa, .Name b pb] kk tp, iter, [c], 0⟩] scope pos) 0 (.ref I) (.ref D) (compEnvC scope cl C env)) (RR (.ref D) C) s₃ := by
    rintro s₃ rfl
    refine kct_loop (fun q s' => ∀ Z : Prop, (∀ h' tk i ys m', s' = { s₂ with heap := h', toks := tk } → i ≤ n → q = n + 1 - i → ys.length ≤ i → ys.isEmpty = (List.range i).all (fun i => !bt i) → St i h' → Fr h₀ L h' m → h'.Ns C m' → News h₀ L h' ((D, lst ys) :: news) → Z) → Z) ?_ (n + 1)
      (fun _ K => K h₁ _ 0 [] _ rfl (Nat.zero_le _) rfl (Nat.le_refl _) rfl hst₁ (F.keeps up) hns₁ fun p hp => ?_)
    · intro q s' hI
      refine hI _ ?_
      clear hI
      rintro h' tk i ys m' rfl hi rfl hyl hye hst' F' hn' N'
      by_cases hlt : i < n
      · refine W.item i _ _ _ hlt hst' fun T vals h₂ tk₂ hPt hT hmid hk₂ => ?_
        obtain ⟨v1, v2, rfl, go⟩ := turn i vals hlt hPt
        have keep2 : ∀ x o, x ∉ wr → h'.get? x = some o → h₂.get? x = some o := fun x o hx e => hk₂ x o hx e
        refine W.go _ _ _ i T _ _ _ hmid fun h₃ hst₃ hk₃ => ?_
        have keep3 : ∀ x o, x ∉ wr → h'.get? x = some o → h₃.get? x = some o := fun x o hx e => hk₃ x o hx (keep2 x o hx e)
        have hT3 : h₃.IsTuple T #[v1, v2] := hT.at fun o e => hk₃ T o (W.apart i T _ hmid) e
        have hCw : C ∉ wr := fun hx => (wrD C hx).2 rfl
        refine kcp_assign (env := compEnvC scope cl C env) hh hT3 (lookup_relabel_local hxa) (lookup_relabel_local hxb) (by simp [compEnvC, relabel, hkind]) (hn'.at' fun o e => keep3 _ o hCw e) fun h₄ tk₄ hn₄ hs₄ => ?_
        have keep4 : ∀ x o, x ∉ wr → x ≠ C → h'.get? x = some o → h₄.get? x = some o := fun x o h1 h2 e => hs₄ x o h2 (keep3 x o h1 e)
        obtain ⟨oC, heC, hoC⟩ := ns_obj hn₄
        have hLw : L ∉ wr := fun hx => (hwr L hx).2.1 rfl
        have hDw : D ∉ wr := fun hx => (wrD D hx).1 rfl
        have F₄ : Fr h₀ L h₄ m := ⟨F'.ns.at' fun o e => keep4 _ o hLw (Ne.symm hCL) e, fun x o e => keep4 x o (fun q => by rw [(hwr x q).1] at e; cases e) (fun q => by rw [q, hC₀] at e; cases e) (F'.keep x o e), F'.above⟩
        have N₄ : News h₀ L h₄ ((C, oC) :: (D, lst ys) :: news) := fun q hq => by
          rcases List.mem_cons.mp hq with rfl | hq
          · exact ⟨heC, hCL, hC₀⟩
          · have z := N' q hq
            rcases List.mem_cons.mp hq with rfl | hq
            · exact ⟨keep4 _ _ hDw hDC z.1, z.2⟩
            · exact ⟨keep4 _ _ (fun q' => (hwr _ q').2.2 q hq rfl) (nC q hq) z.1, z.2⟩
        have st₄ : St (i + 1) h₄ := W.frame _ _ _ hst₃ fun b hb o e => hs₄ b o (fpD b hb).2 e
        obtain ⟨test, item⟩ := go oC C D ys _ h₄ tk₄ _ hoC (by simp [hab]) (by simp) F₄ N₄
        have hn4 : h₄.Ns C _ := hoC.ns heC
        refine wpAny_mono test (fun okb s₅ h₅ => ?_) fun _ _ e => e
        obtain ⟨⟨tk₅, rfl⟩, rfl⟩ := h₅
        cases hb : bt i with
        | false =>
          simp only [Bool.false_eq_true, if_false]
          exact ⟨n + 1 - (i + 1), by omega, fun _ K => K h₄ tk₅ (i + 1) ys _ rfl hlt rfl (Nat.le_succ_of_le hyl) (by rw [hye, all_succ, hb]; simp) st₄ F₄ hn4 fun q hq => N₄ q (.tail _ hq)⟩
        | true =>
          simp only [if_true]
          obtain ⟨-, item⟩ := go oC C D ys _ h₄ tk₅ (notedBy (model prog w) A (compEnvC scope cl C env) fun e s' => RR (.ref D) C (.error e) s') hoC (by simp [hab]) (by simp) F₄ N₄
          refine wpAny_mono item (fun y s₆ h₆ => ?_) fun _ _ e => e
          obtain ⟨tk₆, rfl⟩ := h₆
          refine append_at (hsz := by show ys.toArray.size ≤ sizeLine; rw [List.size_toArray]; exact Nat.le_trans hyl (Nat.le_trans hi hsz)) (N₄ _ (.tail _ (.head _))).1 fun h₆ hs₆ hD₆ => ?_
          refine ⟨n + 1 - (i + 1), by omega, fun _ K => K h₆ _ (i + 1) (ys ++ [y]) _ rfl hlt rfl (by rw [List.length_append, List.length_singleton]; exact Nat.succ_le_succ hyl) (by rw [all_succ, hb]; simp) ?_ (F₄.change hs₆ hDL hD₀) (hn4.at' fun o e => hs₆.extBut _ _ (Ne.symm hDC) e) fun q hq => ?_⟩
          · exact W.frame _ _ _ st₄ fun b hb o e => hs₆.extBut _ _ (fpD b hb).1 e
          · rcases List.mem_cons.mp hq with rfl | hq
            · exact ⟨hD₆.trans (congrArg some (lst_snoc ys y)), hDL, hD₀⟩
            · exact ⟨hs₆.extBut _ _ (nD q hq) (N₄ q (.tail _ (.tail _ hq))).1, (N₄ q (.tail _ (.tail _ hq))).2⟩
      · have hin : i = n := Nat.le_antisymm hi (Nat.not_lt.mp hlt)
        subst hin
        refine W.done _ _ _ hst' fun h₂ tk₂ hk₂ => ?_
        have hLw : L ∉ wr := fun hx => (hwr L hx).2.1 rfl
        have hDw : D ∉ wr := fun hx => (wrD D hx).1 rfl
        have hCw : C ∉ wr := fun hx => (wrD C hx).2 rfl
        have F₂ : Fr h₀ L h₂ m := ⟨F'.ns.at' fun o e => hk₂ _ o hLw e, fun x o e => hk₂ x o (fun q => by rw [(hwr x q).1] at e; cases e) (F'.keep x o e), F'.above⟩
        refine hRR _ _ h₂ tk₂ _ ys F₂ (fun q hq => ?_) nD (hn'.at' fun o e => hk₂ _ o hCw e) hC₀ hCL (Ne.symm hDC) nC hye hyl
        have z := N' q hq
        rcases List.mem_cons.mp hq with rfl | hq
        · exact ⟨hk₂ _ _ hDw z.1, z.2⟩
        · exact ⟨hk₂ _ _ (fun q' => (hwr _ q').2.2 q hq rfl) z.1, z.2⟩
    · rcases List.mem_cons.mp hp with rfl | hp
      · exact ⟨hacc, hDL, hD₀⟩
      · exact ⟨up _ _ (N p hp).1, (N p hp).2⟩
  exact codeAny_compStart_list (loop _ rfl) (W.self 0 _ _ _ hst₁ (loop _ rfl))
theorem ListComp_Z {elt iter c : PySem.Expr} {a b : Str} {pa pb tp : Pos} {kk : Nat} {scope : Scope} {cl : List (Str × Addr)} {pos : Pos} {Q : Value → Shared → Prop} (_F₀ : Fr h₀ L s.heap m)
    (hclos : closureFor scope env = pure cl) (hcell : ∀ y ∈ scope.names, y.2 ≠ .cell) (hkind : scope.kind = .function)
    (hnames : ∀ y ∈ scope.names, y.2 = .local → scope.names.lookup y.1 = some .local) (hxa : scope.names.lookup a = some .local) (hxb : scope.names.lookup b = some .local) (hab : ¬ a = b)
    (h : wpAny (model prog w) A (eval iter env) (SrcZ prog w A h₀ L m env c elt a b scope cl Q) E s)
    (hs : ∀ x, foldedSetIterable iter env x = pure x := by intro _; rfl) :
    wpAny (model prog w) A (eval (.ListComp elt [⟨.Tuple [.Name a pa, .Name b pb] kk tp, iter, [c], 0⟩] scope pos) env) Q E s := by
  rw [eval_ListComp]
  refine wpAny_comprehension_free (use := none) rfl hs hclos hkind hnames (wpAny_mono h (fun xv s₁ h₁ => ?_) fun _ _ e => e)
  obtain ⟨I, fp, wr, n, Pt, St, Mid, news, bt, rfl, hh, W, F, N, hst, hfp, hwr, hsz, turn, done⟩ := h₁
  refine W.self 0 _ _ _ hst ?_
  refine blockZ (news := news) hh W hsz hst hfp hwr hcell hkind hxa hxb hab F N turn ?_
  intro D C h tk m' ys F' N' hne hn hC₀ hCL hCD offC hye hyl
  refine ⟨m', hn, fun h'' hs'' => done ys D h'' tk hye hyl (F'.change hs'' hCL hC₀) (fun p hp => ?_) hne⟩
  refine ⟨hs''.extBut _ _ ?_ (N' p hp).1, (N' p hp).2⟩
  rcases List.mem_cons.mp hp with rfl | hp
  · exact Ne.symm hCD
  · exact offC p hp
theorem zip_src {c elt : PySem.Expr} {a b : Str} {scope : Scope} {cl : List (Str × Addr)} {Q : Value → Shared → Prop} {l1 l2 : Addr} {xs ys : List Value} {n1 n2 : Nat} {news : List (Addr × Obj)} (bt : Nat → Bool)
    (hh : A.handled = none) (F : Fr h₀ L s.heap m) (N : News h₀ L s.heap news) (hm1 : (l1, listOf xs.toArray n1) ∈ news) (hm2 : (l2, listOf ys.toArray n2) ∈ news) (hlen : ys.length = xs.length) (hsz : xs.length ≤ 1000)
    (turn : ∀ h₁, TurnZ prog w A h₀ L m env c elt a b scope cl { s with heap := h₁ } news xs.length (fun i vals => ∃ x y, xs[i]? = some x ∧ ys[i]? = some y ∧ vals = #[x, y]) bt)
    (done : ∀ h₁ zs D h tk, zs.isEmpty = (List.range xs.length).all (fun i => !bt i) → zs.length ≤ xs.length → Fr h₀ L h m → News h₀ L h ((D, lst zs) :: news) → (∀ p ∈ news, p.1 ≠ D) → Q (.ref D) { ({ s with heap := h₁ } : Shared) with heap := h, toks := tk }) :
    wpAny (model prog w) A (call (.type "zip") [.ref l1, .ref l2]) (SrcZ prog w A h₀ L m env c elt a b scope cl Q) E s := by
  have hax1 := N _ hm1
  have hax2 := N _ hm2
  have hl1 : s.heap.IsList l1 xs.toArray := ⟨_, hax1.1, rfl, n1, rfl⟩
  have hl2 : s.heap.IsList l2 ys.toArray := ⟨_, hax2.1, rfl, n2, rfl⟩
  have hlt1 : l1 < s.heap.objs.size := Heap.lt_size hax1.1
  have hlt2 : l2 < s.heap.objs.size := Heap.lt_size hax2.1
  have hLs : L < s.heap.objs.size := F.ns.lt
  have D : ZipApart (s.heap.objs.size + 4) (s.heap.objs.size + 2) (s.heap.objs.size + 3) s.heap.objs.size (s.heap.objs.size + 1) l1 l2 := ktu_apart _ _ _ hlt1 hlt2
  refine call_zip_2 hl1 hl2 fun h' hz hTI hTO hi1 hi2 hsz' hk => ?_
  have hmin : min xs.toArray.size ys.toArray.size = xs.length := by simp [hlen]
  have W := (WalksT.zip2 (prog := prog) (w := w) hh _ _ _ _ _ _ _ D xs.toArray ys.toArray).toU
  rw [hmin] at W
  refine ⟨_, _, _, xs.length, _, _, _, news, bt, rfl, hh, W, F.keeps hk, N.grown hk, ⟨hz, hTI, ⟨_, _, hTO⟩, hi1, hi2, hl1.at fun o e => hk l1 o e, hl2.at fun o e => hk l2 o e⟩, ?_, ?_, by rw [sizeLine_eq]; omega, ?_, fun zs D h tk h1 h2 h3 h4 h5 => done h' zs D h tk h1 h2 h3 h4 h5⟩
  · intro b hb
    have hb' : b = s.heap.objs.size + 4 ∨ b = s.heap.objs.size + 2 ∨ b = s.heap.objs.size + 3 ∨ b = s.heap.objs.size ∨ b = s.heap.objs.size + 1 ∨ b = l1 ∨ b = l2 := by simpa using hb
    show @LT.lt Nat _ b h'.objs.size
    have h1 : @LT.lt Nat _ l1 s.heap.objs.size := hlt1
    have h2 : @LT.lt Nat _ l2 s.heap.objs.size := hlt2
    rw [hsz']
    rcases hb' with e | e | e | e | e | e | e <;> (rw [e]; omega)
  · intro b hb
    have hb' : b = s.heap.objs.size + 4 ∨ b = s.heap.objs.size + 3 ∨ b = s.heap.objs.size ∨ b = s.heap.objs.size + 1 := by simpa using hb
    have hbs : @LE.le Nat _ s.heap.objs.size b := by rcases hb' with e | e | e | e <;> (rw [e]; omega)
    exact ⟨ktu_new F hbs, Nat.ne_of_gt (Nat.lt_of_lt_of_le hLs hbs), fun p hp => Nat.ne_of_lt (Nat.lt_of_lt_of_le (Heap.lt_size (N p hp).1) hbs)⟩
  · intro i vals hi hP
    obtain ⟨x, y, h1, h2, h3⟩ := hP
    exact turn h' i vals hi ⟨x, y, by simpa using h1, by simpa using h2, h3⟩
end
end PR2_01
section PA3_01
theorem still_A3_01 : True := by
  w_top off
  trivial
open PySem.Spec PySem.Calls PyProof.Rows PyProof.Rows.LCg
/-! ## law 1: _law_below -/
def srt (l : List Nat) : List Nat := l.foldr ins1 []
def blw (lo up : List Nat) (k : Nat) : Bool := !((srt (lo.take k)).zip (srt (up.take k))).any fun p => Nat.blt p.2 p.1
theorem belowN_eq (lo up : List Nat) : belowN lo up = (blw lo up 1 && (blw lo up 2 && (blw lo up 3 && true))) := rfl
theorem ins1_perm (x : Nat) : ∀ l, (ins1 x l).Perm (x :: l)
  | [] => List.Perm.refl _
  | y :: r => by
    unfold ins1
    split
    · exact List.Perm.refl _
    · exact ((ins1_perm x r).cons y).trans (List.Perm.swap x y r)
theorem srt_perm : ∀ l, (srt l).Perm l
  | [] => List.Perm.refl _
  | x :: r => (ins1_perm x (srt r)).trans ((srt_perm r).cons x)
theorem ins1_pair (x : Nat) : ∀ {l : List Nat}, l.Pairwise (· ≤ ·) → (ins1 x l).Pairwise (· ≤ ·)
  | [], _ => List.pairwise_singleton _ _
  | y :: r, h => by
    unfold ins1
    split
    · rename_i hle
      have hle : x ≤ y := by simpa [Nat.ble_eq] using hle
      refine List.pairwise_cons.mpr ⟨fun z hz => ?_, h⟩
      rcases List.mem_cons.mp hz with rfl | hz
      · exact hle
      · exact Nat.le_trans hle ((List.pairwise_cons.mp h).1 z hz)
    · rename_i hle
      have hle : y ≤ x := by
        have : ¬ x ≤ y := by simpa [Nat.ble_eq] using hle
        omega
      refine List.pairwise_cons.mpr ⟨fun z hz => ?_, ins1_pair x (List.pairwise_cons.mp h).2⟩
      rcases List.mem_cons.mp ((ins1_perm x r).subset hz) with rfl | hz
      · exact hle
      · exact (List.pairwise_cons.mp h).1 z hz
theorem srt_pair : ∀ l, (srt l).Pairwise (· ≤ ·)
  | [] => List.Pairwise.nil
  | x :: r => ins1_pair x (srt_pair r)
theorem sort_uniq {ns : List Int} {l : List Nat} (hp : ns.Perm (l.map Int.ofNat)) (hs : ns.Pairwise (· ≤ ·)) : ns = (srt l).map Int.ofNat := by
  refine List.Perm.eq_of_pairwise (le := (· ≤ ·)) (fun _ _ _ _ a b => Int.le_antisymm a b) hs ?_ (hp.trans ((srt_perm l).map Int.ofNat).symm)
  exact List.pairwise_map.mpr ((srt_pair l).imp fun h => Int.ofNat_le.mpr h)
theorem srt_len (l : List Nat) : (srt l).length = l.length := (srt_perm l).length_eq
theorem zip_any {f : Nat × Nat → Bool} : ∀ {l1 l2 : List Nat}, l1.length = l2.length → (!(l1.zip l2).any f) = (List.range l1.length).all fun i => !f (l1.getD i 0, l2.getD i 0)
  | [], [], _ => rfl
  | a :: r, b :: t, h => by
    have ih := zip_any (f := f) (l1 := r) (l2 := t) (by simpa using h)
    rw [List.length_cons, List.range_succ_eq_map, List.all_cons, List.all_map]
    show (!(f (a, b) || (r.zip t).any f)) = (!f (a, b) && _)
    rw [Bool.not_or, ih]
    rfl
theorem ints_at {vs : List Value} {l : List Nat} {i : Nat} {x : Value} (h : IntsAre vs (l.map Int.ofNat)) (hx : vs[i]? = some x) : ∃ t, x = .int ((l.getD i 0 : Nat) : Int) t := by
  obtain ⟨f, t, rfl, hf⟩ := ints_nat h hx
  exact ⟨t, by rw [List.getD_eq_getElem?_getD, hf]; rfl⟩
theorem blt_dec (x y : Nat) : decide ((x : Int) < (y : Int)) = Nat.blt x y := by
  rw [Bool.eq_iff_iff, decide_eq_true_iff, Nat.blt_eq]; omega
local macro_rules | `(tactic| walk_at "exec For") => `(tactic| ((fail_if_success (have : Go 1 := by assumption)); refine Stop.mk ?_))
local macro_rules | `(tactic| walk_at "exec While") => `(tactic| ((fail_if_success (have : Go 1 := by assumption)); refine Stop.mk ?_))
local macro_rules | `(tactic| walk_at "pyIter ref") => `(tactic| ((fail_if_success (have : Go 1 := by assumption)); refine Stop.mk ?_))
local macro_rules | `(tactic| walk_at "call builtin:sorted") => `(tactic| (refine Stop.mk ?_))
local macro_rules | `(tactic| walk_at "call type:zip") => `(tactic| (refine Stop.mk ?_))
local macro_rules | `(tactic| walk_at "eval ListComp") => `(tactic| (refine Stop.mk ?_))
local macro_rules | `(tactic| walk_at "truthy ref") => `(tactic| (refine Stop.mk ?_))
set_option maxRecDepth 100000 in
set_option maxHeartbeats 0 in
theorem below_con (w : World) (rest : List (Addr × Obj)) (OL OU : Addr) (a0 a1 a2 a3 b0 b1 b2 b3 : Nat) (ta0 ta1 ta2 ta3 tb0 tb1 tb2 tb3 : Tok) (kL kU : Nat) :
   Con w (.ref 273) [.ref OL, .ref OU] 2 2 ((OL, listOf #[.int (a0 : Int) ta0, .int (a1 : Int) ta1, .int (a2 : Int) ta2, .int (a3 : Int) ta3] kL) :: (OU, listOf #[.int (b0 : Int) tb0, .int (b1 : Int) tb1, .int (b2 : Int) tb2, .int (b3 : Int) tb3] kU) :: rest)
     (fun news' r => news' = (OL, listOf #[.int (a0 : Int) ta0, .int (a1 : Int) ta1, .int (a2 : Int) ta2, .int (a3 : Int) ta3] kL) :: (OU, listOf #[.int (b0 : Int) tb0, .int (b1 : Int) tb1, .int (b2 : Int) tb2, .int (b3 : Int) tb3] kU) :: rest ∧ r = .bool (belowN [a0, a1, a2, a3] [b0, b1, b2, b3])) := by
  unfold Con
  k_fill
  intro p loose mean mg mb dp un gd cn csc a ccd cl outer A₀ base h₀ L m s Q E hB hF hX hN hT hck hdp hun hret
  (refine' code_def (binds := [("lower", .ref OL), ("upper", .ref OU)]) ?k1 ?k2 ?k3 ?k4 ?k5 ?kA ?kF ?kK ?k6 ?k7 ?k8 ?k9 ?kB ?_ ?c2 ?c3 ?c4 ?c5; (case kA => exact rfl); (case kF => exact rfl); (case kK => assumption); (case k1 => k_asm); (case k2 => k_asm); (case k3 => k_asm); (case k4 => k_asm); (case k5 => k_asm); (case k6 => k_is); (case k7 => k_is); (case k8 => ktr_room); (case k9 => first | exact BindsTo.of_eq rfl | exact binds_K (by k_in) rfl (by k_is) rfl rfl rfl); (case c5 => decide); (case kB => exact locs rfl); (case c2 => exact rfl); (case c3 => exact rfl); (case c4 => exact rfl); k_whole; intro g' L' h' FG' F' N' B' X' T'; (try dsimp only); (try k_lift B'); (try k_fold))
  k_steps
  refine Stop.out ?_
  rename Fr _ _ _ _ => F9
  rename News _ _ _ _ => N9
  refine rng_iter 3 (fun i m nx => (m "lower" = some (.ref OL) ∧ m "upper" = some (.ref OU)) ∧ (∀ j, j < i → blw [a0, a1, a2, a3] [b0, b1, b2, b3] (j + 1) = true) ∧ nx = (OL, listOf #[.int (a0 : Int) ta0, .int (a1 : Int) ta1, .int (a2 : Int) ta2, .int (a3 : Int) ta3] kL) :: (OU, listOf #[.int (b0 : Int) tb0, .int (b1 : Int) tb1, .int (b2 : Int) tb2, .int (b3 : Int) tb3] kU) :: rest) rfl (by assumption) (by decide) (by decide) F9 N9 ⟨⟨rfl, rfl⟩, (fun j h => absurd h (Nat.not_lt_zero j)), rfl⟩ ?turn ?done
  case turn =>
    rintro i tk9 m₁ news₁ h₁ tk₁ own hi hoff hp90 F₁ N₁
    try k_fold
    obtain ⟨⟨hm1, hm2⟩, hall, rfl⟩ := hp90
    have F2 := Fr.turn [("lower", .ref OL), ("upper", .ref OU)] F₁ (al_cons hm1 (al_cons hm2 al_nil))
    obtain ⟨tl, htl⟩ : ∃ z, z = rest ++ own := ⟨_, rfl⟩
    have N2 : News g' L' h₁ ((OL, listOf #[.int (a0 : Int) ta0, .int (a1 : Int) ta1, .int (a2 : Int) ta2, .int (a3 : Int) ta3] kL) :: (OU, listOf #[.int (b0 : Int) tb0, .int (b1 : Int) tb1, .int (b2 : Int) tb2, .int (b3 : Int) tb3] kU) :: tl) := htl ▸ N₁
    clear F9 N9 F₁ N₁
    rcases (show i = 0 ∨ i = 1 ∨ i = 2 by omega) with rfl | rfl | rfl
    · ((try k_fold); k_steps)
      refine Stop.out ?_
      rename Fr g' L' _ _ => F9
      k_dflt refine ListComp_Z F9 rfl (by decide) rfl (by decide) rfl rfl (by decide) ?_
      ((try k_fold); k_steps)
      refine Stop.out ?_
      rename Fr g' L' _ _ => F9
      rename News g' L' _ _ => N9
      refine kso_sorted (vs := [.int (a0 : Int) ta0]) (ns := ([a0] : List Nat).map Int.ofNat) F9 N9 (kso_isList N9 (by k_memK) rfl) (.cons _ _ .nil) (by simp) ?_
      intro D1 vs1 ns1 c1 h' F' N' hl1 hi1 hn1 hp1 hs1 _
      obtain rfl := sort_uniq hp1 hs1
      clear F9 N9 hp1 hs1 hn1
      ((try k_fold); k_steps)
      refine Stop.out ?_
      rename Fr g' L' _ _ => F9
      rename News g' L' _ _ => N9
      refine kso_sorted (vs := [.int (b0 : Int) tb0]) (ns := ([b0] : List Nat).map Int.ofNat) F9 N9 (kso_isList N9 (by k_memK) rfl) (.cons _ _ .nil) (by simp) ?_
      intro D2 vs2 ns2 c2 h' F' N' hl2 hi2 hn2 hp2 hs2 _
      obtain rfl := sort_uniq hp2 hs2
      clear F9 N9 hp2 hs2 hn2
      ((try k_fold); k_steps)
      refine Stop.out ?_
      rename Fr g' L' _ _ => F9
      rename News g' L' _ _ => N9
      have hz1 : vs1.length = 1 := by have := hi1.length; simpa [srt_len] using this
      have hz2 : vs2.length = 1 := by have := hi2.length; simpa [srt_len] using this
      refine zip_src (xs := vs1) (ys := vs2) (fun i => Nat.blt ((srt [b0]).getD i 0) ((srt [a0]).getD i 0)) rfl F9 N9 (by k_memK) (by k_memK) (by rw [hz1, hz2]) (by rw [hz1]; decide) ?zt1 ?zd1
      case zt1 =>
        rintro h₂ j vals hj ⟨x, y, hx1, hx2, rfl⟩
        obtain ⟨t1, rfl⟩ := ints_at hi1 hx1
        obtain ⟨t2, rfl⟩ := ints_at hi2 hx2
        refine ⟨_, _, rfl, ?_⟩
        intro oC C D ys m₂ h tk E' hC' hx hy F' N'
        clear F9 N9
        refine ⟨?_, ?_⟩
        · ((try k_fold); k_steps)
          exact blt_dec _ _
        · ((try k_fold); k_steps)
      case zd1 =>
        intro h₂ zs D h tk hze hzl F' N' hne
        clear F9 N9
        have hbl : zs.isEmpty = blw [a0, a1, a2, a3] [b0, b1, b2, b3] 1 := by
          rw [hze, hz1]
          have := zip_any (f := fun p => Nat.blt p.2 p.1) (l1 := srt [a0]) (l2 := srt [b0]) (by rw [srt_len, srt_len]; rfl)
          rw [srt_len] at this
          exact this.symm
        clear hze
        cases hb : blw [a0, a1, a2, a3] [b0, b1, b2, b3] 1 with
        | true =>
          rw [hb] at hbl
          ((try k_fold); k_steps)
          refine Stop.out (truthy_led N' (.head _) (by omega) false (by rw [hbl]; rfl) ?_)
          ((try k_fold); k_steps)
          rename News g' L' _ _ => N9
          have N9 := News.sub (new := ((OL, listOf #[.int (a0 : Int) ta0, .int (a1 : Int) ta1, .int (a2 : Int) ta2, .int (a3 : Int) ta3] kL) :: (OU, listOf #[.int (b0 : Int) tb0, .int (b1 : Int) tb1, .int (b2 : Int) tb2, .int (b3 : Int) tb3] kU) :: rest) ++ own) N9 (by rw [htl]; k_allIn)
          exact InvEndG.intro (nx := (OL, listOf #[.int (a0 : Int) ta0, .int (a1 : Int) ta1, .int (a2 : Int) ta2, .int (a3 : Int) ta3] kL) :: (OU, listOf #[.int (b0 : Int) tb0, .int (b1 : Int) tb1, .int (b2 : Int) tb2, .int (b3 : Int) tb3] kU) :: rest) (by assumption) N9 ⟨⟨rfl, rfl⟩, (fun j hj => by
            rcases (show j = 0 by omega) with rfl
            · exact hb), rfl⟩ hoff (fun z hz => List.mem_append_left own hz) (fun z hz => List.mem_append_right ((OL, listOf #[.int (a0 : Int) ta0, .int (a1 : Int) ta1, .int (a2 : Int) ta2, .int (a3 : Int) ta3] kL) :: (OU, listOf #[.int (b0 : Int) tb0, .int (b1 : Int) tb1, .int (b2 : Int) tb2, .int (b3 : Int) tb3] kU) :: rest) hz)
        | false =>
          rw [hb] at hbl
          have hbn : belowN [a0, a1, a2, a3] [b0, b1, b2, b3] = false := by rw [belowN_eq, hb]; simp
          rw [hbn] at hret
          ((try k_fold); k_steps)
          refine Stop.out (truthy_led N' (.head _) (by omega) true (by rw [hbl]; rfl) ?_)
          ((try k_fold); k_steps)
          rename News h₀ _ _ _ => N9
          exact hret _ _ _ _ (by assumption) (News.sub (new := (OL, listOf #[.int (a0 : Int) ta0, .int (a1 : Int) ta1, .int (a2 : Int) ta2, .int (a3 : Int) ta3] kL) :: (OU, listOf #[.int (b0 : Int) tb0, .int (b1 : Int) tb1, .int (b2 : Int) tb2, .int (b3 : Int) tb3] kU) :: rest) (News.sub (new := (OL, listOf #[.int (a0 : Int) ta0, .int (a1 : Int) ta1, .int (a2 : Int) ta2, .int (a3 : Int) ta3] kL) :: (OU, listOf #[.int (b0 : Int) tb0, .int (b1 : Int) tb1, .int (b2 : Int) tb2, .int (b3 : Int) tb3] kU) :: tl) N9 (by k_allIn)) (fm_cons (.head _) (fm_cons (.tail _ (.head _)) fun z hz => .tail _ (.tail _ (htl ▸ List.mem_append_left _ hz))))) ⟨rfl, rfl⟩
    · ((try k_fold); k_steps)
      refine Stop.out ?_
      rename Fr g' L' _ _ => F9
      k_dflt refine ListComp_Z F9 rfl (by decide) rfl (by decide) rfl rfl (by decide) ?_
      ((try k_fold); k_steps)
      refine Stop.out ?_
      rename Fr g' L' _ _ => F9
      rename News g' L' _ _ => N9
      refine kso_sorted (vs := [.int (a0 : Int) ta0, .int (a1 : Int) ta1]) (ns := ([a0, a1] : List Nat).map Int.ofNat) F9 N9 (kso_isList N9 (by k_memK) rfl) (.cons _ _ (.cons _ _ .nil)) (by simp) ?_
      intro D1 vs1 ns1 c1 h' F' N' hl1 hi1 hn1 hp1 hs1 _
      obtain rfl := sort_uniq hp1 hs1
      clear F9 N9 hp1 hs1 hn1
      ((try k_fold); k_steps)
      refine Stop.out ?_
      rename Fr g' L' _ _ => F9
      rename News g' L' _ _ => N9
      refine kso_sorted (vs := [.int (b0 : Int) tb0, .int (b1 : Int) tb1]) (ns := ([b0, b1] : List Nat).map Int.ofNat) F9 N9 (kso_isList N9 (by k_memK) rfl) (.cons _ _ (.cons _ _ .nil)) (by simp) ?_
      intro D2 vs2 ns2 c2 h' F' N' hl2 hi2 hn2 hp2 hs2 _
      obtain rfl := sort_uniq hp2 hs2
      clear F9 N9 hp2 hs2 hn2
      ((try k_fold); k_steps)
      refine Stop.out ?_
      rename Fr g' L' _ _ => F9
      rename News g' L' _ _ => N9
      have hz1 : vs1.length = 2 := by have := hi1.length; simpa [srt_len] using this
      have hz2 : vs2.length = 2 := by have := hi2.length; simpa [srt_len] using this
      refine zip_src (xs := vs1) (ys := vs2) (fun i => Nat.blt ((srt [b0, b1]).getD i 0) ((srt [a0, a1]).getD i 0)) rfl F9 N9 (by k_memK) (by k_memK) (by rw [hz1, hz2]) (by rw [hz1]; decide) ?zt2 ?zd2
      case zt2 =>
        rintro h₂ j vals hj ⟨x, y, hx1, hx2, rfl⟩
        obtain ⟨t1, rfl⟩ := ints_at hi1 hx1
        obtain ⟨t2, rfl⟩ := ints_at hi2 hx2
        refine ⟨_, _, rfl, ?_⟩
        intro oC C D ys m₂ h tk E' hC' hx hy F' N'
        clear F9 N9
        refine ⟨?_, ?_⟩
        · ((try k_fold); k_steps)
          exact blt_dec _ _
        · ((try k_fold); k_steps)
      case zd2 =>
        intro h₂ zs D h tk hze hzl F' N' hne
        clear F9 N9
        have hbl : zs.isEmpty = blw [a0, a1, a2, a3] [b0, b1, b2, b3] 2 := by
          rw [hze, hz1]
          have := zip_any (f := fun p => Nat.blt p.2 p.1) (l1 := srt [a0, a1]) (l2 := srt [b0, b1]) (by rw [srt_len, srt_len]; rfl)
          rw [srt_len] at this
          exact this.symm
        clear hze
        cases hb : blw [a0, a1, a2, a3] [b0, b1, b2, b3] 2 with
        | true =>
          rw [hb] at hbl
          ((try k_fold); k_steps)
          refine Stop.out (truthy_led N' (.head _) (by omega) false (by rw [hbl]; rfl) ?_)
          ((try k_fold); k_steps)
          rename News g' L' _ _ => N9
          have N9 := News.sub (new := ((OL, listOf #[.int (a0 : Int) ta0, .int (a1 : Int) ta1, .int (a2 : Int) ta2, .int (a3 : Int) ta3] kL) :: (OU, listOf #[.int (b0 : Int) tb0, .int (b1 : Int) tb1, .int (b2 : Int) tb2, .int (b3 : Int) tb3] kU) :: rest) ++ own) N9 (by rw [htl]; k_allIn)
          exact InvEndG.intro (nx := (OL, listOf #[.int (a0 : Int) ta0, .int (a1 : Int) ta1, .int (a2 : Int) ta2, .int (a3 : Int) ta3] kL) :: (OU, listOf #[.int (b0 : Int) tb0, .int (b1 : Int) tb1, .int (b2 : Int) tb2, .int (b3 : Int) tb3] kU) :: rest) (by assumption) N9 ⟨⟨rfl, rfl⟩, (fun j hj => by
            rcases (show j = 0 ∨ j = 1 by omega) with rfl | rfl
            · exact hall 0 (by decide)
            · exact hb), rfl⟩ hoff (fun z hz => List.mem_append_left own hz) (fun z hz => List.mem_append_right ((OL, listOf #[.int (a0 : Int) ta0, .int (a1 : Int) ta1, .int (a2 : Int) ta2, .int (a3 : Int) ta3] kL) :: (OU, listOf #[.int (b0 : Int) tb0, .int (b1 : Int) tb1, .int (b2 : Int) tb2, .int (b3 : Int) tb3] kU) :: rest) hz)
        | false =>
          rw [hb] at hbl
          have hbn : belowN [a0, a1, a2, a3] [b0, b1, b2, b3] = false := by rw [belowN_eq, hb]; simp
          rw [hbn] at hret
          ((try k_fold); k_steps)
          refine Stop.out (truthy_led N' (.head _) (by omega) true (by rw [hbl]; rfl) ?_)
          ((try k_fold); k_steps)
          rename News h₀ _ _ _ => N9
          exact hret _ _ _ _ (by assumption) (News.sub (new := (OL, listOf #[.int (a0 : Int) ta0, .int (a1 : Int) ta1, .int (a2 : Int) ta2, .int (a3 : Int) ta3] kL) :: (OU, listOf #[.int (b0 : Int) tb0, .int (b1 : Int) tb1, .int (b2 : Int) tb2, .int (b3 : Int) tb3] kU) :: rest) (News.sub (new := (OL, listOf #[.int (a0 : Int) ta0, .int (a1 : Int) ta1, .int (a2 : Int) ta2, .int (a3 : Int) ta3] kL) :: (OU, listOf #[.int (b0 : Int) tb0, .int (b1 : Int) tb1, .int (b2 : Int) tb2, .int (b3 : Int) tb3] kU) :: tl) N9 (by k_allIn)) (fm_cons (.head _) (fm_cons (.tail _ (.head _)) fun z hz => .tail _ (.tail _ (htl ▸ List.mem_append_left _ hz))))) ⟨rfl, rfl⟩
    · ((try k_fold); k_steps)
      refine Stop.out ?_
      rename Fr g' L' _ _ => F9
      k_dflt refine ListComp_Z F9 rfl (by decide) rfl (by decide) rfl rfl (by decide) ?_
      ((try k_fold); k_steps)
      refine Stop.out ?_
      rename Fr g' L' _ _ => F9
      rename News g' L' _ _ => N9
      refine kso_sorted (vs := [.int (a0 : Int) ta0, .int (a1 : Int) ta1, .int (a2 : Int) ta2]) (ns := ([a0, a1, a2] : List Nat).map Int.ofNat) F9 N9 (kso_isList N9 (by k_memK) rfl) (.cons _ _ (.cons _ _ (.cons _ _ .nil))) (by simp) ?_
      intro D1 vs1 ns1 c1 h' F' N' hl1 hi1 hn1 hp1 hs1 _
      obtain rfl := sort_uniq hp1 hs1
      clear F9 N9 hp1 hs1 hn1
      ((try k_fold); k_steps)
      refine Stop.out ?_
      rename Fr g' L' _ _ => F9
      rename News g' L' _ _ => N9
      refine kso_sorted (vs := [.int (b0 : Int) tb0, .int (b1 : Int) tb1, .int (b2 : Int) tb2]) (ns := ([b0, b1, b2] : List Nat).map Int.ofNat) F9 N9 (kso_isList N9 (by k_memK) rfl) (.cons _ _ (.cons _ _ (.cons _ _ .nil))) (by simp) ?_
      intro D2 vs2 ns2 c2 h' F' N' hl2 hi2 hn2 hp2 hs2 _
      obtain rfl := sort_uniq hp2 hs2
      clear F9 N9 hp2 hs2 hn2
      ((try k_fold); k_steps)
      refine Stop.out ?_
      rename Fr g' L' _ _ => F9
      rename News g' L' _ _ => N9
      have hz1 : vs1.length = 3 := by have := hi1.length; simpa [srt_len] using this
      have hz2 : vs2.length = 3 := by have := hi2.length; simpa [srt_len] using this
      refine zip_src (xs := vs1) (ys := vs2) (fun i => Nat.blt ((srt [b0, b1, b2]).getD i 0) ((srt [a0, a1, a2]).getD i 0)) rfl F9 N9 (by k_memK) (by k_memK) (by rw [hz1, hz2]) (by rw [hz1]; decide) ?zt3 ?zd3
      case zt3 =>
        rintro h₂ j vals hj ⟨x, y, hx1, hx2, rfl⟩
        obtain ⟨t1, rfl⟩ := ints_at hi1 hx1
        obtain ⟨t2, rfl⟩ := ints_at hi2 hx2
        refine ⟨_, _, rfl, ?_⟩
        intro oC C D ys m₂ h tk E' hC' hx hy F' N'
        clear F9 N9
        refine ⟨?_, ?_⟩
        · ((try k_fold); k_steps)
          exact blt_dec _ _
        · ((try k_fold); k_steps)
      case zd3 =>
        intro h₂ zs D h tk hze hzl F' N' hne
        clear F9 N9
        have hbl : zs.isEmpty = blw [a0, a1, a2, a3] [b0, b1, b2, b3] 3 := by
          rw [hze, hz1]
          have := zip_any (f := fun p => Nat.blt p.2 p.1) (l1 := srt [a0, a1, a2]) (l2 := srt [b0, b1, b2]) (by rw [srt_len, srt_len]; rfl)
          rw [srt_len] at this
          exact this.symm
        clear hze
        cases hb : blw [a0, a1, a2, a3] [b0, b1, b2, b3] 3 with
        | true =>
          rw [hb] at hbl
          ((try k_fold); k_steps)
          refine Stop.out (truthy_led N' (.head _) (by omega) false (by rw [hbl]; rfl) ?_)
          ((try k_fold); k_steps)
          rename News g' L' _ _ => N9
          have N9 := News.sub (new := ((OL, listOf #[.int (a0 : Int) ta0, .int (a1 : Int) ta1, .int (a2 : Int) ta2, .int (a3 : Int) ta3] kL) :: (OU, listOf #[.int (b0 : Int) tb0, .int (b1 : Int) tb1, .int (b2 : Int) tb2, .int (b3 : Int) tb3] kU) :: rest) ++ own) N9 (by rw [htl]; k_allIn)
          exact InvEndG.intro (nx := (OL, listOf #[.int (a0 : Int) ta0, .int (a1 : Int) ta1, .int (a2 : Int) ta2, .int (a3 : Int) ta3] kL) :: (OU, listOf #[.int (b0 : Int) tb0, .int (b1 : Int) tb1, .int (b2 : Int) tb2, .int (b3 : Int) tb3] kU) :: rest) (by assumption) N9 ⟨⟨rfl, rfl⟩, (fun j hj => by
            rcases (show j = 0 ∨ j = 1 ∨ j = 2 by omega) with rfl | rfl | rfl
            · exact hall 0 (by decide)
            · exact hall 1 (by decide)
            · exact hb), rfl⟩ hoff (fun z hz => List.mem_append_left own hz) (fun z hz => List.mem_append_right ((OL, listOf #[.int (a0 : Int) ta0, .int (a1 : Int) ta1, .int (a2 : Int) ta2, .int (a3 : Int) ta3] kL) :: (OU, listOf #[.int (b0 : Int) tb0, .int (b1 : Int) tb1, .int (b2 : Int) tb2, .int (b3 : Int) tb3] kU) :: rest) hz)
        | false =>
          rw [hb] at hbl
          have hbn : belowN [a0, a1, a2, a3] [b0, b1, b2, b3] = false := by rw [belowN_eq, hb]; simp
          rw [hbn] at hret
          ((try k_fold); k_steps)
          refine Stop.out (truthy_led N' (.head _) (by omega) true (by rw [hbl]; rfl) ?_)
          ((try k_fold); k_steps)
          rename News h₀ _ _ _ => N9
          exact hret _ _ _ _ (by assumption) (News.sub (new := (OL, listOf #[.int (a0 : Int) ta0, .int (a1 : Int) ta1, .int (a2 : Int) ta2, .int (a3 : Int) ta3] kL) :: (OU, listOf #[.int (b0 : Int) tb0, .int (b1 : Int) tb1, .int (b2 : Int) tb2, .int (b3 : Int) tb3] kU) :: rest) (News.sub (new := (OL, listOf #[.int (a0 : Int) ta0, .int (a1 : Int) ta1, .int (a2 : Int) ta2, .int (a3 : Int) ta3] kL) :: (OU, listOf #[.int (b0 : Int) tb0, .int (b1 : Int) tb1, .int (b2 : Int) tb2, .int (b3 : Int) tb3] kU) :: tl) N9 (by k_allIn)) (fm_cons (.head _) (fm_cons (.tail _ (.head _)) fun z hz => .tail _ (.tail _ (htl ▸ List.mem_append_left _ hz))))) ⟨rfl, rfl⟩
  case done =>
    rintro m₁ news₁ h₁ tk₁ hp90 F₁ N₁
    try k_fold
    obtain ⟨⟨hm1, hm2⟩, hall, rfl⟩ := hp90
    clear F9 N9
    have hb : belowN [a0, a1, a2, a3] [b0, b1, b2, b3] = true := by rw [belowN_eq, hall 0 (by decide), hall 1 (by decide), hall 2 (by decide)]; rfl
    rw [hb] at hret
    k_steps
    exact hret _ _ _ _ (by assumption) (by assumption) ⟨rfl, rfl⟩
end PA3_01
section PT1_01
theorem still_T1_01 : True := by
  w_top off
  trivial
open PySem.Spec PyProof.Rows
/-! ## lists of texts: as in P5 and C18, what law 1 needs of them -/
structure Box (P : Prop) : Prop where
  out : P
/-! ## texts in a list; the lexer's signs without tokens -/
def Texts (l : List Str) (ys : List Value) : Prop := ∃ yl : List (Str × Tok), ys = strValues yl ∧ yl.map (·.1) = l
theorem Texts.nil : Texts [] [] := ⟨[], rfl, rfl⟩
theorem Texts.snoc {l : List Str} {ys : List Value} {x : Str} {t : Tok} (h : Texts l ys) : Texts (l ++ [x]) (ys ++ [.str x t]) := by
  obtain ⟨yl, rfl, rfl⟩ := h
  exact ⟨yl ++ [(x, t)], by simp [strValues], by simp⟩
theorem Texts.len {l : List Str} {ys : List Value} (h : Texts l ys) : ys.length = l.length := by
  obtain ⟨yl, rfl, rfl⟩ := h
  simp [strValues]
def skipS : List Str → Option (List Str)
  | [] => none
  | c :: r => if c = Str.ofString " " then skipS r else if c = Str.ofString "\"" then some r else none
def bodyS : List Str → Str → Option (Str × List Str)
  | [], _ => none
  | [c], acc => if c = Str.ofString "\"" then some (acc, []) else none
  | c :: d :: r, acc => if c = Str.ofString "\"" then some (acc, d :: r) else if c = Str.ofString "\\" then bodyS r (acc ++ d) else bodyS (d :: r) (acc ++ c)
theorem skip_of : ∀ {l : List (Str × Tok)} {r : List Str}, skipS (l.map (·.1)) = some r → ∃ r1, skipB l = some r1 ∧ r1.map (·.1) = r
  | [], _, h => by cases h
  | (c, t) :: l, r, h => by
    unfold skipB
    simp only [List.map_cons, skipS] at h
    by_cases h1 : c = Str.ofString " "
    · rw [if_pos h1] at h ⊢; exact skip_of h
    · rw [if_neg h1] at h ⊢
      by_cases h2 : c = Str.ofString "\""
      · rw [if_pos h2] at h ⊢; exact ⟨l, rfl, Option.some.inj h⟩
      · rw [if_neg h2] at h; cases h
theorem body_of : ∀ {l : List (Str × Tok)} {acc tok : Str} {r : List Str}, bodyS (l.map (·.1)) acc = some (tok, r) → ∃ r2, bodyB l acc = some (tok, r2) ∧ r2.map (·.1) = r
  | [], _, _, _, h => by cases h
  | [(c, t)], acc, tok, r, h => by
    unfold bodyB
    simp only [List.map_cons, List.map_nil, bodyS] at h
    by_cases h1 : c = Str.ofString "\""
    · rw [if_pos h1] at h ⊢; cases h; exact ⟨[], rfl, rfl⟩
    · rw [if_neg h1] at h; cases h
  | (c, t) :: (d, td) :: l, acc, tok, r, h => by
    unfold bodyB
    simp only [List.map_cons, bodyS] at h
    by_cases h1 : c = Str.ofString "\""
    · rw [if_pos h1] at h ⊢; cases h; exact ⟨_, rfl, rfl⟩
    · rw [if_neg h1] at h ⊢
      by_cases h2 : c = Str.ofString "\\"
      · rw [if_pos h2] at h ⊢; exact body_of h
      · rw [if_neg h2] at h ⊢; exact body_of (l := (d, td) :: l) h
def tokS (cs : List Str) : Option (Str × List Str) := match skipS cs with | some r => bodyS r (Str.ofString "") | none => none
theorem tok_of {l : List (Str × Tok)} {tok : Str} {r : List Str} (h : tokS (l.map (·.1)) = some (tok, r)) : ∃ r1 r2, skipB l = some r1 ∧ bodyB r1 (Str.ofString "") = some (tok, r2) ∧ r2.map (·.1) = r := by
  unfold tokS at h
  cases e : skipS (l.map (·.1)) with
  | none => rw [e] at h; cases h
  | some r0 =>
    rw [e] at h
    obtain ⟨r1, h1, rfl⟩ := skip_of e
    obtain ⟨r2, h2, h3⟩ := body_of h
    exact ⟨r1, r2, h1, h2, h3⟩
/-! ## the rules' words written out -/
theorem join_texts {prog : Program} {w : World} {A : Around} {E : Value → Shared → Prop} {s : Shared} {h₀ : Heap} {L : Addr} {x : Str} {t : Tok} {Q : Value → Shared → Prop} {D : Addr} {ys : List Value} {l : List Str} {news : List (Addr × Obj)} (N : News h₀ L s.heap news) (hm : (D, LCg.lst ys) ∈ news) (hT : Texts l ys) (hok : JoinOk x l = true)
    (hq : ∀ t' k, Q (.str (Txt.join x l) t') { s with toks := k }) : wpAny (model prog w) A (call (.builtin "str.join") [.str x t, .ref D]) Q E s := by
  obtain ⟨yl, rfl, rfl⟩ := hT
  exact SC.join ⟨_, (N _ hm).1, rfl, _, rfl⟩ rfl hok hq
def okC (c : Str) : Bool := c.length == 1 && !(c == Str.ofString "\n")
def rd : List Str → List Str → Bool
  | [], cs => cs.isEmpty
  | t :: ts, cs => cs.all okC && Nat.ble cs.length 1000 && match tokS cs with | some (t', r) => t' == t && rd ts r | none => false
theorem rd_cons {t : Str} {ts : List Str} {cs : List (Str × Tok)} (h : rd (t :: ts) (cs.map (·.1)) = true) : (∀ p ∈ cs, p.1.length = 1 ∧ p.1 ≠ Str.ofString "\n") ∧ cs.length ≤ 1000 ∧ ∃ r1 r2, skipB cs = some r1 ∧ bodyB r1 (Str.ofString "") = some (t, r2) ∧ rd ts (r2.map (·.1)) = true := by
  unfold rd at h
  simp only [Bool.and_eq_true, Nat.ble_eq, List.length_map, List.all_map] at h
  obtain ⟨⟨h1, h2⟩, h3⟩ := h
  refine ⟨fun p hp => ?_, h2, ?_⟩
  · have := List.all_eq_true.mp h1 p hp
    simp only [Function.comp, okC, Bool.and_eq_true, beq_iff_eq, Bool.not_eq_true', beq_eq_false_iff_ne] at this
    exact this
  · cases e : tokS (cs.map (·.1)) with
    | none => rw [e] at h3; cases h3
    | some o =>
      obtain ⟨t', r⟩ := o
      rw [e] at h3
      simp only [Bool.and_eq_true, beq_iff_eq] at h3
      obtain ⟨rfl, h4⟩ := h3
      obtain ⟨r1, r2, a, b, c⟩ := tok_of e
      exact ⟨r1, r2, a, b, c ▸ h4⟩
def wtext (l : List Str) : Str := Str.ofString "\"" ++ Txt.join (Str.ofString "\" \"") l ++ Str.ofString "\""
theorem lay_texts : ∀ l : List Str, l.all PyData.strOk = true → PyData.canLayAll0 (l.map PyData.str) = true
  | [], _ => rfl
  | x :: r, h => by
    simp only [List.all_cons, Bool.and_eq_true] at h
    simp only [List.map_cons, PyData.canLayAll0, PyData.canLay0, h.1, lay_texts r h.2, Bool.and_self]
theorem depth_texts : ∀ l : List Str, PyData.depthAll (l.map PyData.str) = 0
  | [] => rfl
  | x :: r => by simp [PyData.depthAll, PyData.depth, depth_texts r]
theorem shaped_texts {l : List Str} (h : l.all PyData.strOk = true) : SeqAt.shaped (.list (l.map PyData.str)) = true := by
  simp [SeqAt.shaped, PyData.canLay0, PyData.depth, depth_texts, lay_texts l h]
theorem eqv_texts : ∀ l r : List Str, PyData.eqvAll (l.map PyData.str) (r.map PyData.str) = (l == r)
  | [], [] => rfl
  | [], _ :: _ => rfl
  | _ :: _, [] => rfl
  | a :: r, b :: t => by
    simp only [List.map_cons, PyData.eqvAll, PyData.eqv, eqv_texts r t, List.cons_beq_cons]
theorem reads_texts {h : Heap} : ∀ {l : List Str} {ys : List Value}, Texts l ys → ReadsAll h ys (l.map PyData.str) []
  | [], _, ⟨yl, e, hl⟩ => by
    cases yl with
    | nil => subst e; exact ReadsAll.nil
    | cons _ _ => cases hl
  | x :: r, _, ⟨yl, e, hl⟩ => by
    cases yl with
    | nil => cases hl
    | cons y yl =>
      obtain ⟨y, t⟩ := y
      subst e
      simp only [List.map_cons, List.cons.injEq] at hl
      obtain ⟨rfl, hl⟩ := hl
      exact readsAll_cons_val (Reads.str _ _) (reads_texts ⟨yl, rfl, hl⟩)
theorem reads_lst {h₀ h : Heap} {L a : Addr} {ys : List Value} {n : Nat} {l : List Str} {news : List (Addr × Obj)} (N : News h₀ L h news) (hm : (a, listOf ys.toArray n) ∈ news) (hT : Texts l ys) : Reads h (.ref a) (.list (l.map PyData.str)) [a] :=
  reads_list_at (News.get N hm) rfl rfl (by simpa using reads_texts hT)
section
variable {prog : Program} {w : World} {A : Around} {E : Value → Shared → Prop} {s : Shared} {h₀ : Heap} {L : Addr} {Q : Value → Shared → Prop}
theorem eq_texts {a b : Addr} {ys zs : List Value} {n m : Nat} {l r : List Str} {news : List (Addr × Obj)} (N : News h₀ L s.heap news) (ha : (a, listOf ys.toArray n) ∈ news) (hb : (b, listOf zs.toArray m) ∈ news) (hT : Texts l ys) (hU : Texts r zs) (hl : l.all PyData.strOk = true) (hr : r.all PyData.strOk = true) (hu : A.units + 64 < cLine)
    (h : Q (.bool (l == r)) s) : wpAny (model prog w) A (compareOp .Eq (.ref a) (.ref b)) Q E s :=
  eq_dataH (reads_lst N ha hT) (reads_lst N hb hU) (shaped_texts hl) (shaped_texts hr) hu (by rw [show PyData.eqv (.list (l.map PyData.str)) (.list (r.map PyData.str)) = (l == r) from eqv_texts l r]; exact h)
theorem ne_texts {a b : Addr} {ys zs : List Value} {n m : Nat} {l r : List Str} {news : List (Addr × Obj)} (N : News h₀ L s.heap news) (ha : (a, listOf ys.toArray n) ∈ news) (hb : (b, listOf zs.toArray m) ∈ news) (hT : Texts l ys) (hU : Texts r zs) (hl : l.all PyData.strOk = true) (hr : r.all PyData.strOk = true) (hu : A.units + 64 < cLine)
    (h : Q (.bool (!(l == r))) s) : wpAny (model prog w) A (compareOp .NotEq (.ref a) (.ref b)) Q E s :=
  ne_dataH (reads_lst N ha hT) (reads_lst N hb hU) (shaped_texts hl) (shaped_texts hr) hu (by rw [show PyData.eqv (.list (l.map PyData.str)) (.list (r.map PyData.str)) = (l == r) from eqv_texts l r]; exact h)
end
/-! ## single: the starts with more than one end -/
theorem Texts.at : ∀ {l : List Str} {ys : List Value} {i : Nat} {v : Value}, Texts l ys → ys[i]? = some v → ∃ x t, v = .str x t ∧ l[i]? = some x
  | _, _, i, v, ⟨yl, rfl, rfl⟩, h => by
    simp only [strValues, List.getElem?_map, Option.map_eq_some_iff] at h
    obtain ⟨p, hp, rfl⟩ := h
    exact ⟨p.1, p.2, rfl, by rw [List.getElem?_map, hp]; rfl⟩
end PT1_01
section PT2_01
theorem still_T2_01 : True := by
  w_top off
  trivial
open PySem.Spec PyProof.Rows
set_option maxRecDepth 100000
/-! ## plain law 1: what the lexer reads, the patterns -/
def escT (w : List Nat) : Str := Txt.replace (Txt.replace (encT w) (Str.ofString "\\") (Str.ofString "\\\\")) (Str.ofString "\"") (Str.ofString "\\\"")
def escS : List Nat → List Str
  | [] => []
  | 0 :: r => Str.ofString " " :: escS r
  | 1 :: r => Str.ofString "\\" :: Str.ofString "\"" :: escS r
  | (_ + 2) :: r => Str.ofString "\\" :: Str.ofString "\\" :: escS r
theorem signs_app (x y : Str) : signs (x ++ y) = signs x ++ signs y := by
  show (x.cps ++ y.cps).toList.map _ = _
  rw [Array.toList_append, List.map_append]; rfl
theorem str_assoc (x y z : Str) : x ++ y ++ z = x ++ (y ++ z) := by
  show (⟨x.cps ++ y.cps ++ z.cps⟩ : Str) = ⟨x.cps ++ (y.cps ++ z.cps)⟩
  rw [Array.append_assoc]
theorem str_nil (x : Str) : x ++ encT [] = x := by
  show (⟨x.cps ++ #[]⟩ : Str) = x
  rw [Array.append_empty]
theorem nil_str (x : Str) : Str.ofString "" ++ x = x := by
  show (⟨#[] ++ x.cps⟩ : Str) = x
  rw [Array.empty_append]
theorem body_end (acc : Str) : ∀ rest : List Str, bodyS (Str.ofString "\"" :: rest) acc = some (acc, rest)
  | [] => rfl
  | _ :: _ => rfl
theorem body_plain {c : Str} (h1 : ¬ c = Str.ofString "\"") (h2 : ¬ c = Str.ofString "\\") (acc : Str) : ∀ {l : List Str}, l ≠ [] → bodyS (c :: l) acc = bodyS l (acc ++ c)
  | [], h => absurd rfl h
  | d :: r, _ => by show (if _ then _ else if _ then _ else _) = _; rw [if_neg h1, if_neg h2]
theorem enc_cons (x : Nat) (r : List Nat) (acc : Str) : acc ++ encT (x :: r) = acc ++ encT [x] ++ encT r := by
  rw [str_assoc, encT_app]; rfl
theorem body_escS : ∀ (w : List Nat) (acc : Str) (rest : List Str), bodyS (escS w ++ Str.ofString "\"" :: rest) acc = some (acc ++ encT w, rest)
  | [], acc, rest => by rw [str_nil]; exact body_end acc rest
  | 0 :: r, acc, rest => by
    rw [enc_cons]
    exact (body_plain (c := Str.ofString " ") (by decide) (by decide) acc (by simp)).trans (body_escS r _ rest)
  | 1 :: r, acc, rest => by rw [enc_cons]; exact body_escS r _ rest
  | (n + 2) :: r, acc, rest => by rw [enc_cons]; exact body_escS r _ rest
theorem escS_ok : ∀ w : List Nat, (escS w).all okC = true
  | [] => rfl
  | 0 :: r => by show (okC _ && (escS r).all okC) = true; rw [escS_ok r]; decide
  | 1 :: r => by show (okC _ && (okC _ && (escS r).all okC)) = true; rw [escS_ok r]; decide
  | (n + 2) :: r => by show (okC _ && (okC _ && (escS r).all okC)) = true; rw [escS_ok r]; decide
theorem escS_len : ∀ w : List Nat, (escS w).length ≤ 2 * w.length
  | [] => Nat.le_refl _
  | 0 :: r => by have := escS_len r; simp only [escS, List.length_cons]; omega
  | 1 :: r => by have := escS_len r; simp only [escS, List.length_cons]; omega
  | (n + 2) :: r => by have := escS_len r; simp only [escS, List.length_cons]; omega
theorem sign_tab : (upTo 6).all (fun s => signs (escT s.1) == escS s.1 && Nat.ble s.1.length 6 && s.1.all (Nat.blt · 3)) = true := by decide +kernel
theorem sign_esc {s : List Nat × List Nat} (h : s ∈ upTo 6) : signs (escT s.1) = escS s.1 ∧ s.1.length ≤ 6 ∧ ∀ x ∈ s.1, x < 3 := by
  have h1 := List.all_eq_true.mp sign_tab s h
  simp only [Bool.and_eq_true, beq_iff_eq, Nat.ble_eq] at h1
  exact ⟨h1.1.1, h1.1.2, fun x hx => by simpa [Nat.blt_eq] using List.all_eq_true.mp h1.2 x hx⟩
theorem join_two (sep a b : Str) : Txt.join sep [a, b] = a ++ sep ++ b := rfl
theorem rd_two {u l : List Nat} (hu : signs (escT u) = escS u) (hl : signs (escT l) = escS l) (hu6 : u.length ≤ 6) (hl6 : l.length ≤ 6) : rd [encT u, encT l] (signs (wtext [escT u, escT l])) = true := by
  have e : signs (wtext [escT u, escT l]) = Str.ofString "\"" :: (escS u ++ Str.ofString "\"" :: Str.ofString " " :: Str.ofString "\"" :: (escS l ++ [Str.ofString "\""])) := by
    unfold wtext
    rw [join_two, signs_app, signs_app, signs_app, signs_app, hu, hl]
    rw [show signs (Str.ofString "\"") = [Str.ofString "\""] from rfl, show signs (Str.ofString "\" \"") = [Str.ofString "\"", Str.ofString " ", Str.ofString "\""] from rfl]
    simp
  have l1 := escS_len u
  have l2 := escS_len l
  have k1 : okC (Str.ofString "\"") = true := by decide
  have k2 : okC (Str.ofString " ") = true := by decide
  have t2 : tokS (Str.ofString " " :: Str.ofString "\"" :: (escS l ++ [Str.ofString "\""])) = some (encT l, []) := by
    show bodyS (escS l ++ Str.ofString "\"" :: []) (Str.ofString "") = _
    rw [body_escS, nil_str]
  have t1 : tokS (Str.ofString "\"" :: (escS u ++ Str.ofString "\"" :: Str.ofString " " :: Str.ofString "\"" :: (escS l ++ [Str.ofString "\""]))) = some (encT u, Str.ofString " " :: Str.ofString "\"" :: (escS l ++ [Str.ofString "\""])) := by
    show bodyS (escS u ++ Str.ofString "\"" :: _) (Str.ofString "") = _
    rw [body_escS, nil_str]
  have r2 : rd [encT l] (Str.ofString " " :: Str.ofString "\"" :: (escS l ++ [Str.ofString "\""])) = true := by
    unfold rd
    rw [t2]
    simp only [List.all_cons, List.all_append, List.all_nil, k1, k2, escS_ok, Bool.and_true, Bool.true_and, List.length_cons, List.length_append, List.length_nil, beq_self_eq_true, Bool.and_eq_true, Nat.ble_eq]
    exact ⟨by omega, rfl⟩
  rw [e]
  unfold rd
  rw [t1]
  simp only [List.all_cons, List.all_append, List.all_nil, k1, k2, escS_ok, Bool.and_true, Bool.true_and, List.length_cons, List.length_append, List.length_nil, beq_self_eq_true, Bool.and_eq_true, Nat.ble_eq, r2]
  omega
theorem signs_len (x : Str) : (signs x).length = x.length := by simp [signs, Str.length]
theorem esc_len {w : List Nat} (h : signs (escT w) = escS w) (h6 : w.length ≤ 6) : (escT w).length ≤ 12 := by
  have := escS_len w
  rw [← signs_len, h]
  omega
theorem join_ok2 {u l : List Nat} (hu : (escT u).length ≤ 12) (hl : (escT l).length ≤ 12) : JoinOk (Str.ofString "\" \"") [escT u, escT l] = true ∧ (Txt.join (Str.ofString "\" \"") [escT u, escT l]).length ≤ 900 := by
  have h3 : (Str.ofString "\" \"").length = 3 := by decide +kernel
  refine ⟨?_, ?_⟩
  · have e : [escT u, escT l].toArray.foldl (· + ·.length + (Str.ofString "\" \"").length) 0 = (0 + (escT u).length + (Str.ofString "\" \"").length) + (escT l).length + (Str.ofString "\" \"").length := rfl
    unfold JoinOk
    rw [e, h3]
    have : Builtin.Str.tooLong (0 + (escT u).length + 3 + (escT l).length + 3) = false := by
      unfold Builtin.Str.tooLong
      rw [decide_eq_false_iff_not, sizeLine_eq]
      omega
    rw [this]; rfl
  · rw [join_two, Str.length_append, Str.length_append, h3]; omega
def lets (p : List Nat) : List Str := p.map fun x => encT [x]
def patT (p : List Nat) : Str := Txt.join (Str.ofString "...") ([Str.ofString ""] ++ lets p ++ [Str.ofString ""])
end PT2_01
section PT3_01
theorem still_T3_01 : True := by
  w_top off
  trivial
open PySem.Spec PyProof.Rows
set_option maxRecDepth 100000
theorem emT_tab : (upTo 6).all (fun s => (upTo 4).all fun q => findAll (encT s.1) (encT s.1).length (Str.ofString "" :: lets q.1 ++ [Str.ofString ""]) 0 == subN q.1 s.1) = true := by decide +kernel
theorem patT_tab : (upTo 4).all (fun q => JoinOk (Str.ofString "...") ([Str.ofString ""] ++ lets q.1 ++ [Str.ofString ""]) && Nat.ble (patT q.1).length 1000 && Txt.split (patT q.1) (Str.ofString "...") == Str.ofString "" :: lets q.1 ++ [Str.ofString ""] && !(PySem.Builtin.Str.occurrences (patT q.1) (Str.ofString "...") 0 (patT q.1).length 1).isEmpty) = true := by decide +kernel
theorem sok_tab : (upTo 6).all (fun s => PyData.strOk (encT s.1)) = true := by decide +kernel
end PT3_01
section PT4_01
theorem still_T4_01 : True := by
  w_top off
  trivial
open PySem.Builtin PySem.Builtin.Str PySem.Spec PyProof.Rows
/-! ## str.replace, with what is known of the tokens behind it -/
theorem replaceT {prog : Program} {w : World} {A : Around} {E : Value → Shared → Prop} {s : Shared} {x y z : Str} {t u v : Tok} {Q : Value → Shared → Prop} (hu : u ≠ 0) (hv : v ≠ 0) (huv : u ≠ v) (hyz : (y == z) = false) (hx : x.length ≤ 1000) (hz : z.length ≤ 14)
    (hq : ∀ t' k, @LE.le Nat _ s.toks k → Q (.str (Txt.replace x y z) t') { s with toks := k }) : wpAny (model prog w) A (call (.builtin "str.replace") [.str x t, .str y u, .str z v]) Q E s := by
  obtain ⟨oc, hoc⟩ : ∃ z, z = occurrences x y 0 x.length (x.length + 1) := ⟨_, rfl⟩
  have hm : oc.length * z.length ≤ 1001 * 14 := Nat.mul_le_mul (Nat.le_trans (hoc ▸ StrLaws.occ_length_le x y 0 x.length (x.length + 1)) (by omega)) hz
  have hm2 : (x.length + 1) * z.length ≤ 1001 * 14 := Nat.mul_le_mul (by omega) hz
  have hlong : tooLong (x.length + oc.length * z.length) = false := by
    unfold tooLong
    rw [decide_eq_false_iff_not, sizeLine_eq]
    omega
  rw [hoc] at hlong
  refine call_gives F.slot_str_replace (typeIs_str _ _ _) F.entry_str_replace (F.args_str_replace_3 _ _ _) (gives_str_replace x y z t u v fun _ => ⟨by simp [hu, hv], by simp [huv], hyz, hlong⟩) ?_
  have hq2 := hq
  unfold Txt.replace at hq2
  by_cases hc : ((occurrences x y 0 x.length (x.length + 1)).isEmpty || (y.length == 0 && z.length == 0)) = true
  · rw [if_pos hc] at hq2
    rw [if_pos hc]
    exact hq2 t s.toks (Nat.le_refl _)
  · rw [if_neg hc] at hq2
    rw [if_neg hc]
    exact ⟨fits_replaced y (by omega), hq2 _ _ (Nat.le_succ _)⟩
end PT4_01
section PT5_01
theorem still_T5_01 : True := by
  w_top off
  trivial
open PySem.Spec PyProof.Rows
/-! ## what is known of the words kept -/
theorem chkU_some {s : List Nat × List Nat} (h : chkU s = true) : ∃ ws, keptOf s.1 = some ws ∧ (sortN ws == sortN (wordsN 7 s.2) && ws.all fun w => (upTo 6).any fun q => q.1 == w && q.2 == s.2) = true := by
  unfold chkU at h
  generalize keptOf s.1 = o at h
  cases o with
  | none => cases h
  | some ws => exact ⟨ws, rfl, h⟩
theorem kept_of {s : List Nat × List Nat} (h : s ∈ upTo 6) : ∃ ws, keptN 40 [s.1] [] s.1 = some ws ∧ sortN ws = sortN (wordsN 7 s.2) ∧ ∀ v ∈ ws, ∃ q ∈ upTo 6, q.1 = v ∧ q.2 = s.2 := by
  obtain ⟨ws, h0, h1⟩ := chkU_some (List.all_eq_true.mp chkU_tab s h)
  rw [Bool.and_eq_true] at h1
  obtain ⟨h2, h3⟩ := h1
  refine ⟨ws, h0, eq_of_beq h2, fun v hv => ?_⟩
  obtain ⟨q, hq, h4⟩ := List.any_eq_true.mp (List.all_eq_true.mp h3 v hv)
  rw [Bool.and_eq_true] at h4
  exact ⟨q, hq, eq_of_beq h4.1, eq_of_beq h4.2⟩
def KeptAt (fin : List (List Nat)) (p : Addr × Obj) : Prop := ∃ yl : List (Str × Tok), p.2 = LCg.lst (strValues yl) ∧ yl.map (fun q : Str × Tok => q.1) = fin.map encT
def KeptL : List (List (List Nat)) → List (Addr × Obj) → Prop
  | [], [] => True
  | fin :: r, p :: s => KeptAt fin p ∧ KeptL r s
  | _, _ => False
theorem KeptL.snoc {fin : List (List Nat)} {q : Addr × Obj} (e : KeptAt fin q) : ∀ (l : List (List (List Nat))) (k : List (Addr × Obj)), KeptL l k → KeptL (l ++ [fin]) (k ++ [q]) := by
  intro l
  induction l with
  | nil =>
    intro k h
    cases k with
    | nil => exact ⟨e, trivial⟩
    | cons p s => exact False.elim h
  | cons a r ih =>
    intro k h
    cases k with
    | nil => exact False.elim h
    | cons p s => exact ⟨h.1, ih s h.2⟩
theorem KeptL.two {f1 f2 : List (List Nat)} {k : List (Addr × Obj)} (h : KeptL [f1, f2] k) : ∃ p q, k = [p, q] ∧ KeptAt f1 p ∧ KeptAt f2 q := by
  cases k with
  | nil => exact False.elim h
  | cons p s =>
    cases s with
    | nil => exact False.elim h.2
    | cons q s =>
      cases s with
      | nil => exact ⟨p, q, rfl, h.1, h.2.1⟩
      | cons _ _ => exact False.elim h.2.2
end PT5_01
section PT6_01
theorem still_T6_01 : True := by
  w_top off
  trivial
open PySem.Spec PyProof.Rows
set_option maxRecDepth 100000
/-! ## sorted lists of texts; the words of an order -/
theorem cps_anti : ∀ {a b : List Nat}, ltCps a b = false → ltCps b a = false → a = b
  | [], [], _, _ => rfl
  | [], _ :: _, h, _ => by cases h
  | _ :: _, [], _, h => by cases h
  | x :: r, y :: t, h1, h2 => by
    simp only [ltCps, Bool.or_eq_false_iff, decide_eq_false_iff_not, Bool.and_eq_false_iff, beq_eq_false_iff_ne] at h1 h2
    have e : x = y := by omega
    rw [e, cps_anti (h1.2.resolve_left (fun k => k e)) (h2.2.resolve_left (fun k => k e.symm))]
theorem cps_trans : ∀ {a b c : List Nat}, ltCps b a = false → ltCps c b = false → ltCps c a = false
  | [], _, [], _, _ => rfl
  | [], _, _ :: _, _, _ => rfl
  | _ :: _, [], _, h, _ => by cases h
  | _ :: _, _ :: _, [], _, h => by cases h
  | x :: r, y :: t, z :: s, h1, h2 => by
    simp only [ltCps, Bool.or_eq_false_iff, decide_eq_false_iff_not, Bool.and_eq_false_iff, beq_eq_false_iff_ne] at h1 h2 ⊢
    refine ⟨by omega, ?_⟩
    by_cases e : z = x
    · right
      exact cps_trans (h1.2.resolve_left (fun k => k (by omega))) (h2.2.resolve_left (fun k => k (by omega)))
    · left; exact e
theorem rising_pair : ∀ {l : List Str} {p : Str}, risingS p l = true → (p :: l).Pairwise fun a b => ltCps b.cps.toList a.cps.toList = false
  | [], _, _ => List.pairwise_singleton _ _
  | x :: r, p, h => by
    have h : (!ltCps x.cps.toList p.cps.toList && risingS x r) = true := h
    rw [Bool.and_eq_true, Bool.not_eq_true'] at h
    have ih := rising_pair h.2
    refine List.pairwise_cons.mpr ⟨fun y hy => ?_, ih⟩
    rcases List.mem_cons.mp hy with rfl | hy
    · exact h.1
    · exact cps_trans h.1 ((List.pairwise_cons.mp ih).1 y hy)
theorem sorted_pair : ∀ {l : List Str}, sortedS l = true → l.Pairwise fun a b => ltCps b.cps.toList a.cps.toList = false
  | [], _ => List.Pairwise.nil
  | _ :: _, h => rising_pair h
theorem sorted_uniq {a b : List Str} (h : a.Perm b) (ha : sortedS a = true) (hb : sortedS b = true) : a = b := by
  refine List.Perm.eq_of_pairwise (le := fun a b => ltCps b.cps.toList a.cps.toList = false) (fun x y _ _ h1 h2 => ?_) (sorted_pair ha) (sorted_pair hb) h
  have e := cps_anti h2 h1
  cases x; cases y
  exact congrArg Str.mk (Array.toList_inj.mp e)
theorem strs_of : ∀ yl : List (Str × Tok), StrsAre (strValues yl) (yl.map fun p : Str × Tok => p.1)
  | [] => .nil
  | (x, t) :: r => .cons x t (strs_of r)
theorem insN_perm (x : List Nat) : ∀ l, (insN x l).Perm (x :: l)
  | [] => List.Perm.refl _
  | y :: r => by
    unfold insN
    split
    · exact List.Perm.refl _
    · exact ((insN_perm x r).cons y).trans (List.Perm.swap x y r)
theorem sortN_perm : ∀ l, (sortN l).Perm l
  | [] => List.Perm.refl _
  | x :: r => (insN_perm x (sortN r)).trans ((sortN_perm r).cons x)
theorem fin_perm {a b : List (List Nat)} (h : sortN a = sortN b) : a.Perm b := (sortN_perm a).symm.trans (h ▸ sortN_perm b)
theorem ord_tab : (upTo 6).all (fun s => s.2.length == 4 && Nat.ble (wordsN 7 s.2).length 60) = true := by decide +kernel
theorem ord_four {s : List Nat × List Nat} (h : s ∈ upTo 6) : (∃ a b c d, s.2 = [a, b, c, d]) ∧ (wordsN 7 s.2).length ≤ 60 ∧ okO 7 s.2 = true := by
  have h1 := List.all_eq_true.mp ord_tab s h
  rw [Bool.and_eq_true] at h1
  refine ⟨?_, Nat.le_of_ble_eq_true h1.2, List.all_eq_true.mp okO_tab s h⟩
  have h2 : s.2.length = 4 := eq_of_beq h1.1
  match s.2, h2 with
  | [a, b, c, d], _ => exact ⟨a, b, c, d, rfl⟩
theorem ints_four {vs : List Value} {a b c d : Nat} (h : IntsAre vs ([a, b, c, d].map Int.ofNat)) : ∃ ta tb tc td, vs = [.int (a : Int) ta, .int (b : Int) tb, .int (c : Int) tc, .int (d : Int) td] := by
  cases h with
  | cons _ ta h => cases h with
    | cons _ tb h => cases h with
      | cons _ tc h => cases h with
        | cons _ td h => cases h; exact ⟨ta, tb, tc, td, rfl⟩
theorem strs_to : ∀ {vs : List Value} {ss : List Str}, StrsAre vs ss → ∃ yl : List (Str × Tok), vs = strValues yl ∧ yl.map (fun p : Str × Tok => p.1) = ss
  | _, _, .nil => ⟨[], rfl, rfl⟩
  | _, _, .cons x t h => by
    obtain ⟨yl, rfl, rfl⟩ := strs_to h
    exact ⟨(x, t) :: yl, rfl, rfl⟩
theorem sorted_texts {prog : Program} {w : World} {A : Around} {E : Value → Shared → Prop} {s : Shared} {h₀ : Heap} {L : Addr} {m : Str → Option Value} {news : List (Addr × Obj)} {l : Addr} {yl : List (Str × Tok)} {n : Nat} {ts : List Str} {Q : Value → Shared → Prop}
    (F : Fr h₀ L s.heap m) (N : News h₀ L s.heap news) (hm : (l, listOf (strValues yl).toArray n) ∈ news) (hy : yl.map (fun p : Str × Tok => p.1) = ts) (h64 : ts.length < 64)
    (h : ∀ (S : Addr) (h' : Heap) (yl' : List (Str × Tok)) (e : Nat), Fr h₀ L h' m → News h₀ L h' ((S, listOf (strValues yl').toArray e) :: news) → (yl'.map fun p : Str × Tok => p.1).Perm ts → sortedS (yl'.map fun p : Str × Tok => p.1) = true → Q (.ref S) { s with heap := h' }) :
    wpAny (model prog w) A (call (.builtin "sorted") [.ref l]) Q E s := by
  refine sorted_N_str F N ⟨_, (N _ hm).1, rfl, n, rfl⟩ (hy ▸ strs_of yl) (by rw [strValues, List.length_map, ← hy, List.length_map] at *; exact h64) ?_
  intro h' vs' ss' e F' N' hS hp hs
  obtain ⟨yl', rfl, rfl⟩ := strs_to hS
  exact h _ h' yl' e F' N' hp hs
end PT6_01
section PT7_01
theorem still_T7_01 : True := by
  w_top off
  trivial
open PySem.Spec PyProof.Rows
set_option maxRecDepth 100000
/-! ## the lower words and their patterns -/
theorem low_tab : (upTo 4).all (fun s => match keptOf s.1 with | some ws => ws.all fun w => (upTo 4).any fun q => q.1 == w && q.2 == s.2 | none => false) = true := by decide +kernel
theorem low_of {s : List Nat × List Nat} {fin : List (List Nat)} (h : s ∈ upTo 4) (hk : keptN 40 [s.1] [] s.1 = some fin) : ∀ v ∈ fin, ∃ q ∈ upTo 4, q.1 = v ∧ q.2 = s.2 := by
  have h1 := List.all_eq_true.mp low_tab s h
  have hk' : keptOf s.1 = some fin := hk
  generalize keptOf s.1 = o at h1 hk'
  subst hk'
  intro v hv
  obtain ⟨q, hq, h4⟩ := List.any_eq_true.mp (List.all_eq_true.mp h1 v hv)
  rw [Bool.and_eq_true] at h4
  exact ⟨q, hq, eq_of_beq h4.1, eq_of_beq h4.2⟩
theorem pat_of {v : List Nat} {o : List Nat} (h : ∃ q ∈ upTo 4, q.1 = v ∧ q.2 = o) : JoinOk (Str.ofString "...") ([Str.ofString ""] ++ lets v ++ [Str.ofString ""]) = true ∧ (patT v).length ≤ 1000 ∧ Txt.split (patT v) (Str.ofString "...") = Str.ofString "" :: lets v ++ [Str.ofString ""] ∧ (PySem.Builtin.Str.occurrences (patT v) (Str.ofString "...") 0 (patT v).length 1).isEmpty = false := by
  obtain ⟨q, hq, rfl, -⟩ := h
  have h1 := List.all_eq_true.mp patT_tab q hq
  simp only [Bool.and_eq_true, Nat.ble_eq, beq_iff_eq, Bool.not_eq_true'] at h1
  exact ⟨h1.1.1.1, h1.1.1.2, h1.1.2, h1.2⟩
theorem em_of {s : List Nat × List Nat} (hs : s ∈ upTo 6) {v : List Nat} {o : List Nat} (h : ∃ q ∈ upTo 4, q.1 = v ∧ q.2 = o) : findAll (encT s.1) (encT s.1).length (Str.ofString "" :: lets v ++ [Str.ofString ""]) 0 = subN v s.1 := by
  obtain ⟨q, hq, rfl, -⟩ := h
  exact eq_of_beq (List.all_eq_true.mp (List.all_eq_true.mp emT_tab s hs) q hq)
theorem below_of {s q : List Nat × List Nat} (hs : s ∈ upTo 6) (hq : q ∈ upTo 4) {ls : List (List Nat)} (hk : keptN 40 [q.1] [] q.1 = some ls) : (ls.any fun p => subN p s.1) = belowN q.2 s.2 := by
  have h1 := List.all_eq_true.mp (List.all_eq_true.mp chkP_tab s hs) q hq
  unfold chkP at h1
  have hk' : keptOf q.1 = some ls := hk
  generalize keptOf q.1 = o at h1 hk'
  subst hk'
  exact eq_of_beq h1
theorem join_textsN {prog : Program} {w : World} {A : Around} {E : Value → Shared → Prop} {s : Shared} {h₀ : Heap} {L : Addr} {x : Str} {t : Tok} {Q : Value → Shared → Prop} {D : Addr} {ys : List Value} {n : Nat} {l : List Str} {news : List (Addr × Obj)} (N : News h₀ L s.heap news) (hm : (D, listOf ys.toArray n) ∈ news) (hT : Texts l ys) (hok : JoinOk x l = true)
    (hq : ∀ t' k, Q (.str (Txt.join x l) t') { s with toks := k }) : wpAny (model prog w) A (call (.builtin "str.join") [.str x t, .ref D]) Q E s := by
  obtain ⟨yl, rfl, rfl⟩ := hT
  exact SC.join ⟨_, (N _ hm).1, rfl, _, rfl⟩ rfl hok hq
theorem signs_enc (v : List Nat) : signs (encT v) = lets v := by
  show ((v.map cN).toArray.toList).map _ = _
  rw [List.toList_toArray, List.map_map]
  rfl
end PT7_01
section PT8_01
theorem still_T8_01 : True := by
  w_top off
  trivial
open PySem.Spec PyProof.Rows
/-! ## True in a list of bools -/
def isTrueV : Value → Bool
  | .bool b => b
  | _ => false
theorem eq_true (b : Bool) : MeetsSeq.EqGives (.bool b) (.bool true) (isTrueV (.bool b)) := fun prog w A E s Q h => SeqAt.EqAt.bool_bool (A := A) (s := s) b true prog w E Q (by rw [show (b == true) = isTrueV (.bool b) from by cases b <;> rfl]; exact h)
theorem any_true : ∀ bs : List Bool, (bs.map Value.bool).any isTrueV = bs.any id
  | [] => rfl
  | b :: r => by simp only [List.map_cons, List.any_cons, any_true r]; rfl
theorem in_bools {prog : Program} {w : World} {A : Around} {E : Value → Shared → Prop} {s : Shared} {h₀ : Heap} {L D : Addr} {bs : List Bool} {n : Nat} {Q : Value → Shared → Prop} {news : List (Addr × Obj)} (N : News h₀ L s.heap news) (hm : (D, listOf (bs.map Value.bool).toArray n) ∈ news)
    (h : Q (.bool (bs.any id)) s) : wpAny (model prog w) A (compareOp .In (.bool true) (.ref D)) Q E s :=
  SeqInW.in_listW isTrueV (fun y hy => by
    obtain ⟨b, -, rfl⟩ := List.mem_map.mp (by simpa using hy : y ∈ bs.map Value.bool)
    exact eq_true b) (News.isList N hm) (by rw [← Array.any_toList, show (bs.map Value.bool).toArray.toList = bs.map Value.bool from rfl, any_true]; exact h)
theorem one_below {q : List Nat × List Nat} {v o : List Nat} {ls : List (List Nat)} (hv : ∃ p ∈ upTo 6, p.1 = v ∧ p.2 = o) (hq : q ∈ upTo 4) (hk : keptN 40 [q.1] [] q.1 = some ls) : (ls.map fun p => subN p v).any id = belowN q.2 o := by
  obtain ⟨p, hp, rfl, rfl⟩ := hv
  rw [List.any_map]
  exact below_of hp hq hk
theorem em_word {v u o o' : List Nat} (hu : ∃ p ∈ upTo 6, p.1 = u ∧ p.2 = o) (hv : ∃ q ∈ upTo 4, q.1 = v ∧ q.2 = o') : findAll (encT u) (encT u).length (Str.ofString "" :: lets v ++ [Str.ofString ""]) 0 = subN v u := by
  obtain ⟨p, hp, rfl, rfl⟩ := hu
  exact em_of hp hv
theorem len_word {u o : List Nat} (hu : ∃ p ∈ upTo 6, p.1 = u ∧ p.2 = o) : u.length ≤ 6 := by
  obtain ⟨p, hp, rfl, rfl⟩ := hu
  exact (sign_esc hp).2.1
theorem Texts.app {a b : List Str} {xs ys : List Value} (h : Texts a xs) (g : Texts b ys) : Texts (a ++ b) (xs ++ ys) := by
  obtain ⟨k, rfl, rfl⟩ := h
  obtain ⟨l, rfl, rfl⟩ := g
  exact ⟨k ++ l, by simp [strValues], by simp⟩
theorem Texts.one (x : Str) (t : Tok) : Texts [x] [.str x t] := ⟨[(x, t)], rfl, rfl⟩
end PT8_01
section PL1_01
theorem still_L1_01 : True := by
  w_top off
  trivial
local macro_rules | `(tactic| walk_at "idle 0") => `(tactic| fail)
local macro_rules | `(tactic| walk_at "idle 1") => `(tactic| fail)
local macro_rules | `(tactic| walk_at "idle 2") => `(tactic| fail)
local macro_rules | `(tactic| walk_at "idle 3") => `(tactic| fail)
local macro_rules | `(tactic| walk_at "idle 4") => `(tactic| fail)
local macro_rules | `(tactic| walk_at "idle 5") => `(tactic| fail)
local macro_rules | `(tactic| walk_at "idle 6") => `(tactic| fail)
local macro_rules | `(tactic| walk_at "idle 7") => `(tactic| fail)
open PySem.Spec PyProof.Rows
open PySem.Builtin PySem.Builtin.Str in
theorem add_fresh {prog : Program} {w : World} {A : Around} {E : Value → Shared → Prop} {s : Shared} {x y : Str} {t u : Tok} {Q : Value → Shared → Prop} (hx : (x.length == 0) = false) (hy : (y.length == 0) = false) (hz : (x ++ y).length ≤ sizeLine) (h : Q (.str (x ++ y) s.toks) { s with toks := s.toks + 1 }) :
    wpAny (model prog w) A (binaryOp .Add (.str x t) (.str y u)) Q E s := by
  refine PySem.P.add_str ?_
  rw [hx, hy]
  exact ⟨hz, h⟩
theorem item_led {prog : Program} {w : World} {A : Around} {E : Value → Shared → Prop} {s : Shared} {value slice : PySem.Expr} {l : Addr} {vs : List Value} {k : Int} {u : Tok} {v : Value} {Q : Value → Shared → Prop}
    (hl : s.heap.IsList l vs.toArray) (h0 : 0 ≤ k) (hhi : k < 2 ^ 63) (hx : vs[k.toNat]? = some v)
    (hs : subscripted slice false (.ref l) (.int k u) = operate [.ref l, .int k u] (getItem (.ref l) (.int k u))) (h : Q v s) :
    wpAny (model prog w) A (subscriptTail value slice (.ref l) (.int k u)) Q E s := by
  refine kba_turn (value' := PySem.Expr.Name (PySem.Str.ofString "_") ⟨0, 0, 0, 0⟩) (fun _ => rfl) ?_
  exact tail_any hl.typeIs slot_list_getitem.lookup (wpAny_getItem_list hl h0 hhi (by simpa using hx) h) hs
def figOf (x : Int) (k : Nat) : Nat := ((x.fdiv (4 ^ k)).fmod 4).toNat
def figsOf (x : Int) (n : Nat) : List Nat := (List.range n).map (figOf x)
theorem fig_pos (x : Int) (k : Nat) : (((figOf x k : Nat) : Int)) = (x.fdiv (4 ^ k)).fmod 4 := by
  unfold figOf
  rw [Int.fmod_eq_emod_of_nonneg _ (by decide)]
  omega
theorem fig_snoc {x v : Int} {k : Nat} {ys : List Value} {t : Tok} (h : IntsAre ys ((figsOf x k).map Int.ofNat)) (e : v = (x.fdiv (4 ^ k)).fmod 4) : IntsAre (ys ++ [.int v t]) ((figsOf x (k + 1)).map Int.ofNat) := by
  unfold figsOf
  rw [List.range_succ, List.map_append, List.map_append, e, ← fig_pos]
  exact ints_snoc h
theorem figs_lt {x : Int} {n : Nat} : ∀ f ∈ figsOf x n, f < 4 := by
  intro f hf
  obtain ⟨k, -, rfl⟩ := List.mem_map.mp hf
  unfold figOf
  rw [Int.fmod_eq_emod_of_nonneg _ (by decide)]
  omega
theorem figs_len {x : Int} {n : Nat} : (figsOf x n).length = n := by simp [figsOf]
theorem rep_tab : (upTo 6).all (fun s => Nat.ble (Txt.replace (encT s.1) (Str.ofString "\\") (Str.ofString "\\\\")).length 12) = true := by decide +kernel
theorem rep_len {s : List Nat × List Nat} (h : s ∈ upTo 6) : (Txt.replace (encT s.1) (Str.ofString "\\") (Str.ofString "\\\\")).length ≤ 12 := Nat.le_of_ble_eq_true (List.all_eq_true.mp rep_tab s h)
theorem News.name {h₀ h : Heap} {L : Addr} {l : List (Addr × Obj)} (N : News h₀ L h l) : ∃ z, z = l ∧ News h₀ L h z := ⟨l, rfl, N⟩
theorem leT {a b : Nat} (h : a ≤ b) : a ≤ b := h
theorem sok_of {s : List Nat × List Nat} (h : s ∈ upTo 6) : PyData.strOk (encT s.1) = true := List.all_eq_true.mp sok_tab s h
def AllGt (d : Nat) : List (Addr × Obj) → Prop
  | [] => True
  | p :: r => @LT.lt Nat _ d p.1 ∧ AllGt d r
theorem own_gt {d b : Nat} (hb : b ≤ d) : ∀ {l : List (Addr × Obj)}, AllGt d l → OwnOff l [b]
  | [], _ => fun _ h => nomatch h
  | _ :: _, h => own_cons (show @Ne Nat _ _ from by have := h.1; omega) (own_gt hb h.2)
theorem allGt_snoc {d : Nat} {T : Addr} {o : Obj} (h : @LT.lt Nat _ d T) : ∀ {l : List (Addr × Obj)}, AllGt d l → AllGt d (l ++ [(T, o)])
  | [], _ => ⟨h, trivial⟩
  | _ :: _, g => ⟨g.1, allGt_snoc h g.2⟩
theorem sok_perm {l : List Str} {fin : List (List Nat)} {o : List Nat} (h : l.Perm (fin.map encT)) (hf : ∀ v ∈ fin, ∃ q ∈ upTo 6, q.1 = v ∧ q.2 = o) : l.all PyData.strOk = true := by
  refine List.all_eq_true.mpr fun x hx => ?_
  obtain ⟨v, hv, rfl⟩ := List.mem_map.mp (h.subset hx)
  obtain ⟨q, hq, rfl, -⟩ := hf v hv
  exact List.all_eq_true.mp sok_tab q hq
theorem okL_word {s : List Nat × List Nat} (h : s ∈ upTo 6) : okL s.1 := ⟨(sign_esc h).2.1, (sign_esc h).2.2⟩
theorem up4_6 {s : List Nat × List Nat} (h : s ∈ upTo 4) : s ∈ upTo 6 := List.mem_append_left _ (List.mem_append_left _ h)
theorem nums2 {vs : List Value} {ns : List Int} (h : IntsAre vs ns) (t1 t2 : Tok) : ∃ (n0 n1 : Int) (u0 u1 : Tok),
    (kms_pick vs.toArray.toList none (some 2)).toArray.toList ++ (kms_pick #[Value.int 3937 t1, Value.int 196 t2].toList (some (ns.length : Int)) none).toArray.toList = [.int n0 u0, .int n1 u1] := by
  cases h with
  | nil => exact ⟨_, _, _, _, rfl⟩
  | cons a ta h =>
  cases h with
  | nil => exact ⟨_, _, _, _, rfl⟩
  | cons b tb h =>
    rename_i vs ns
    refine ⟨a, b, ta, tb, ?_⟩
    have h1 : kms_lo (some (((a :: b :: ns).length : Nat) : Int)) 2 = 2 := by
      simp only [kms_lo, List.length_cons]
      rw [if_neg (by omega)]
      omega
    have h2 : kms_pick [Value.int 3937 t1, Value.int 196 t2] (some (((a :: b :: ns).length : Nat) : Int)) none = [] := by
      unfold kms_pick
      rw [show [Value.int 3937 t1, Value.int 196 t2].length = 2 from rfl, h1]
      rfl
    have h3 : kms_pick (Value.int a ta :: Value.int b tb :: vs) none (some 2) = [Value.int a ta, Value.int b tb] := by
      have h4 : kms_hi (some 2) (vs.length + 2) = 2 := by
        simp only [kms_hi]
        rw [if_neg (by omega)]
        omega
      unfold kms_pick
      rw [show (Value.int a ta :: Value.int b tb :: vs).length = vs.length + 2 from rfl, h4]
      rfl
    show (kms_pick (Value.int a ta :: Value.int b tb :: vs) none (some 2)) ++ kms_pick [Value.int 3937 t1, Value.int 196 t2] (some (((a :: b :: ns).length : Nat) : Int)) none = _
    rw [h2, h3]
    rfl
local macro_rules | `(tactic| walk_at "exec For") => `(tactic| ((fail_if_success (have : Go 1 := by assumption)); refine Stop.mk ?_))
local macro_rules | `(tactic| walk_at "exec While") => `(tactic| ((fail_if_success (have : Go 1 := by assumption)); refine Stop.mk ?_))
local macro_rules | `(tactic| walk_at "call ref") => `(tactic| ((first | (with_reducible show wpAny _ _ (call (Value.ref 244) _) _ _ _) | (with_reducible show wpAny _ _ (call (Value.ref 244) _ _) _ _ _) | (with_reducible show wpAny _ _ (call (Value.ref 251) _) _ _ _) | (with_reducible show wpAny _ _ (call (Value.ref 251) _ _) _ _ _) | (with_reducible show wpAny _ _ (call (Value.ref 263) _) _ _ _) | (with_reducible show wpAny _ _ (call (Value.ref 263) _ _) _ _ _) | (with_reducible show wpAny _ _ (call (Value.ref 268) _) _ _ _) | (with_reducible show wpAny _ _ (call (Value.ref 268) _ _) _ _ _) | (with_reducible show wpAny _ _ (call (Value.ref 273) _) _ _ _) | (with_reducible show wpAny _ _ (call (Value.ref 273) _ _) _ _ _) | (with_reducible show wpAny _ _ (call (Value.ref 73) _) _ _ _) | (with_reducible show wpAny _ _ (call (Value.ref 73) _ _) _ _ _) | (with_reducible show wpAny _ _ (call (Value.ref 45) _) _ _ _) | (with_reducible show wpAny _ _ (call (Value.ref 45) _ _) _ _ _)); refine Stop.mk ?_))
local macro_rules | `(tactic| walk_at "eval ListComp") => `(tactic| (refine Stop.mk ?_))
local macro_rules | `(tactic| walk_at "exec Assign cons ListComp") => `(tactic| ((fail_if_success (have : Go 5 := by assumption)); refine Stop.mk ?_))
local macro_rules | `(tactic| walk_at "exec Assign cons BinOp") => `(tactic| ((fail_if_success (have : Go 4 := by assumption)); refine Stop.mk ?_))
local macro_rules | `(tactic| walk_at "subscriptTail Name Slice ref ref") => `(tactic| (k_here; k_dflt (refine' kms_slice_lit ?F ?N ?l ?p ?q ?e ?_ ?s ?t ?z; (case F => k_asm); (case N => k_asm); (case l => kmk_list); (case p => kmk_part); (case q => kmk_part); (case e => exact rfl); (case s => with_unfolding_all rfl); (case t => kmk_pure); (case z => (first | kmk_size | (simp; omega)))); intro D' h' F' N' l1; (try k_lt l1); (try k_sweep)))
local macro_rules | `(tactic| walk_at "subscriptTail List cons Slice ref ref") => `(tactic| (k_here; (refine kba_turn (value' := PySem.Expr.Name (PySem.Str.ofString "_") ⟨0, 0, 0, 0⟩) (fun _ => rfl) ?_); k_dflt (refine' kms_slice_lit ?F ?N ?l ?p ?q ?e ?_ ?s ?t ?z; (case F => k_asm); (case N => k_asm); (case l => kmk_list); (case p => kmk_part); (case q => kmk_part); (case e => exact rfl); (case s => with_unfolding_all rfl); (case t => kmk_pure); (case z => (first | kmk_size | (simp; omega)))); intro D' h' F' N' l1; (try k_lt l1); (try k_sweep)))
local macro_rules | `(tactic| walk_at "binaryOp Add ref ref") => `(tactic| (refine Stop.mk ?_))
local macro_rules | `(tactic| walk_at "exec For Name Name cons nil") => `(tactic| (refine Stop.mk ?_))
local macro_rules | `(tactic| walk_at "compareOp In bool ref") => `(tactic| (refine Stop.mk ?_))
local macro_rules | `(tactic| walk_at "execs cons Assign cons") => `(tactic| ((with_reducible refine wpAny_execs_cons ?_); (try dsimp only)))
local macro_rules | `(tactic| walk_at "pyIter ref") => `(tactic| (refine Stop.mk ?_))
local macro_rules | `(tactic| walk_at "binaryOp Add str str") => `(tactic| (k_here; refine add_fresh (by first | rfl | decide +kernel) (by first | rfl | decide +kernel) (by first | exact Nat.le_of_ble_eq_true rfl | size_fits) ?_))
local macro_rules | `(tactic| walk_at "compareOp Eq ref ref") => `(tactic| (refine Stop.mk ?_))
local macro_rules | `(tactic| walk_at "compareOp NotEq ref ref") => `(tactic| (refine Stop.mk ?_))
local macro_rules | `(tactic| walk_at "callWith ref") => `(tactic| (k_here; (with_reducible rename Fr _ _ _ _ => kF); (with_reducible rename Frag.In _ _ => kX); k_dflt (refine' callWith_K0 (Frag.In.keeps kX (Fr.keep kF)) ?k2 ?_; (case k2 => k_is); k_whole)))
local macro_rules | `(tactic| walk_at "callWith ref") => `(tactic| (k_here; (with_reducible show wpAny _ _ (callWith _ _ _ (backTo _ (starEach (_ :: _) _)) []) _ _ _); (with_reducible rename Frag.In _ _ => kX); k_dflt (refine' callWith_K kX ?k2 ?_; (case k2 => k_is); k_whole)))
local macro_rules | `(tactic| walk_at "call builtin:str.join") => `(tactic| (refine Stop.mk ?_))
local macro_rules | `(tactic| walk_at "call builtin:str.replace") => `(tactic| (k_here; refine replaceT (show @Ne Nat _ 0 by omega) (show @Ne Nat _ 0 by omega) (show @Ne Nat _ _ by omega) (by decide +kernel) (by omega) (by decide +kernel) ?_; intro _ _ htk9; (try dsimp only at htk9); (replace htk9 := leT htk9)))
local macro_rules | `(tactic| walk_at "call builtin:sorted") => `(tactic| (refine Stop.mk ?_))
local macro_rules | `(tactic| walk_at "call type:list") => `(tactic| (k_here; (with_reducible show wpAny _ _ (call (Value.type _) [Value.str _ _]) _ _ _); k_dflt (refine' list_str_K ?h ?F ?N ?_ ?z; (case h => exact rfl); (case F => k_asm); (case N => k_asm); (case z => first | size_fits | (exact Nat.le_trans (by assumption) (by decide)))); intro D' h' tk' l' n' F' N' l1 hl'; (try k_lt l1); (try k_sweep)))
set_option maxRecDepth 100000 in
set_option maxHeartbeats 0 in
theorem law1 : PySem.Challenge.rw_pg0279_01.Holds := by
  w_on
  refine holds_law saidX fun said => ?_
  refine holds_open (q := vwX) (loose := L4) (Xt := fun s => xlAt vwX [] s && recOk (RowW.records PySem.Challenge.rw_pg0279_01.row.toRowW) s) (XP := XL vwX []) (Yf := Hook.obs (kmHook KX asX asEX [239])) (Ya := Hook.val (kmHook KX asX asEX [239])) (YP := Hook.says (kmHook KX asX asEX [239])) (N := 3362) leftX (Hook.of (kmHook KX asX asEX [239])) (Hook.keeps (kmHook KX asX asEX [239])) (fun s e => xl_of s (Bool.and_eq_true_iff.mp e).1) XL.keeps (by rfl) (by rfl) (by rfl) (fun s e => recFacts_of (Bool.and_eq_true_iff.mp e).2) (by rfl) (by first | assumption | decide +kernel) (by decide +kernel) ⟨rfl, rfl, rfl, rfl, rfl, by decide +kernel⟩ ?hw ?hc
  case hw => w_witness2
  clear said
  k_go0
  all_goals try k_fold
  k_steps
  refine Stop.out ?_
  rename IntsAre _ _ => hI
  rename (KX _).In _ => X9
  rename World => w
  rename Top _ _ _ _ _ _ => T9
  rename Below _ _ _ _ => K9
  have g4 := Go.mk 4
  rename Fr _ _ _ _ => F9
  rename News _ _ _ _ => N9
  k_steps
  refine Stop.out ?_
  obtain ⟨n0, n1, u0, u1, hnum⟩ := nums2 hI _ _
  k_here
  refine' kmk_add_lit ?zF ?zN ?za ?zb hnum ?_ ?zz
  case zF => k_asm
  case zN => k_asm
  case za => kmk_list
  case zb => kmk_list
  case zz => rw [← List.length_append, hnum]; exact Nat.le_of_ble_eq_true rfl
  intro D' h' F' N' l1
  (try k_lt l1)
  k_sweep
  k_steps
  refine Stop.out ?_
  rename Shared => sh
  rename_i o3 o2 _ d3 d2 _ _ _ l0 _ _ _ _ _ _ _ _ _ _ o1 F9 N9 d1
  have d3 : o3.data = .cell none := d3
  have d2 : o2.data = .cell none := d2
  have hD' : @LT.lt Nat _ (sh.heap.objs.size + 1 + 1 + 1) D' ∧ @LT.lt Nat _ 239 sh.heap.objs.size := by omega
  obtain ⟨base, hbase⟩ : ∃ z, z = (D', listOf #[.int n0 u0, .int n1 u1] 0) :: (sh.heap.objs.size + 1 + 1 + 1, o3) :: (sh.heap.objs.size + 1 + 1, o2) :: (sh.heap.objs.size + 1, o1) :: (239, tabObj #[]) :: [] := ⟨_, rfl⟩
  have N9 : News (ghostOf sh.heap [(243, 239)]) sh.heap.objs.size _ base := hbase ▸ News.sub (new := (D', listOf #[.int n0 u0, .int n1 u1] 0) :: (sh.heap.objs.size + 1 + 1 + 1, o3) :: (sh.heap.objs.size + 1 + 1, o2) :: (sh.heap.objs.size + 1, o1) :: (239, tabObj #[]) :: []) N9 (by k_allIn)
  have hNm : (D', listOf #[.int n0 u0, .int n1 u1] 0) ∈ base := hbase ▸ .head _
  have hcm : (sh.heap.objs.size + 1, o1) ∈ base := hbase ▸ .tail _ (.tail _ (.tail _ (.head _)))
  k_dflt refine ListComp_N (_F₀ := F9) (by with_unfolding_all rfl) (by decide) rfl (by decide) rfl ?_
  ((try k_fold); k_steps)
  rename Fr (ghostOf sh.heap _) _ _ _ => F8
  rename News (ghostOf sh.heap _) _ _ base => N8
  refine SrcN.range 6 (news := base) (fun i ys nx => nx = base ∧ IntsAre ys ((figsOf n0 i).map Int.ofNat)) rfl F8 N8 (by assumption) (by decide) (by decide) (Nat.le_of_ble_eq_true rfl) ⟨rfl, .nil⟩ ?turna ?fina
  case turna =>
    clear F8 N8
    refine TurnN.plain rfl ?_
    rintro i v ys nx I oI C oC D m₂ h tk E' hi hp90 hp91 hsr hyl hC' hx' F' N' off' ne'
    try k_fold
    obtain ⟨t, rfl⟩ := hp90
    obtain ⟨rfl, hys⟩ := hp91
    rw [Int.zero_add] at hx'
    have N2 := News.sub (new := (D', listOf #[.int n0 u0, .int n1 u1] 0) :: (sh.heap.objs.size + 1, o1) :: (I, oI) :: (C, oC) :: (D, LCg.lst ys) :: nx) N' (fm_cons (.tail _ (.tail _ (.tail _ hNm))) (fm_cons (.tail _ (.tail _ (.tail _ hcm))) fun _ h => h))
    clear N'
    rcases (show i = 0 ∨ i = 1 ∨ i = 2 ∨ i = 3 ∨ i = 4 ∨ i = 5 by omega) with rfl | rfl | rfl | rfl | rfl | rfl
    all_goals ((try k_fold); k_steps)
    all_goals (rename Fr (ghostOf sh.heap _) _ _ _ => F9)
    all_goals (rename News (ghostOf sh.heap _) _ _ _ => N9)
    all_goals exact NEnd.intro F9 N9 (fun z hz => .tail _ (.tail _ hz)) off' hsr ⟨rfl, fig_snoc hys rfl⟩
  case fina =>
    rintro ys D bs h tk ⟨rfl, hys⟩ - N' hne F'
    clear F8 N8
    ((try k_fold); k_steps)
    refine Stop.out ?_
    rename Fr (ghostOf sh.heap _) _ _ _ => F9
    rename News (ghostOf sh.heap _) _ _ _ => N9
    rename (KX _).In _ => X9
    refine Con.use (grown_con w bs D (figsOf n0 6) ys ys.length hys figs_lt (by rw [figs_len]; exact Nat.le_refl _)) K9 F9 X9 (News.sub N9 (by k_allIn)) T9 rfl (by ktr_room) (by ktr_units) ?_
    rintro r9 h' tk' news' F' N' hp90
    try k_fold
    obtain ⟨T, O1, nO1, tw1, ov1, rfl, hov1, hO1, rfl⟩ := hp90
    clear F9 N9 hys hne
    have hg1 := grown_upTo (figs := figsOf n0 6) (n := 6) (by rw [figs_len]; exact Nat.le_refl _)
    obtain ⟨g1, hg1e⟩ : ∃ z, z = grownOf (figsOf n0 6) := ⟨_, rfl⟩
    rw [← hg1e] at hg1 hov1 N'
    clear hg1e
    ((try k_fold); k_steps)
    refine Stop.out ?_
    rename Fr (ghostOf sh.heap _) _ _ _ => F9
    rename News (ghostOf sh.heap _) _ _ _ => N9
    obtain ⟨b2, hb2⟩ : ∃ z, z = (O1, listOf ov1.toArray nO1) :: bs := ⟨_, rfl⟩
    have N9 : News (ghostOf sh.heap [(243, 239)]) sh.heap.objs.size _ b2 := hb2 ▸ News.sub (new := (O1, listOf ov1.toArray nO1) :: bs) N9 (by k_allIn)
    have hNm2 : (D', listOf #[.int n0 u0, .int n1 u1] 0) ∈ b2 := hb2 ▸ .tail _ hNm
    have hcm2 : (sh.heap.objs.size + 1, o1) ∈ b2 := hb2 ▸ .tail _ hcm
    k_dflt refine ListComp_N (_F₀ := F9) (by with_unfolding_all rfl) (by decide) rfl (by decide) rfl ?_
    ((try k_fold); k_steps)
    rename Fr (ghostOf sh.heap _) _ _ _ => F8
    rename News (ghostOf sh.heap _) _ _ b2 => N8
    refine SrcN.range 4 (news := b2) (fun i ys nx => nx = b2 ∧ IntsAre ys ((figsOf n1 i).map Int.ofNat)) rfl F8 N8 (by assumption) (by decide) (by decide) (Nat.le_of_ble_eq_true rfl) ⟨rfl, .nil⟩ ?turnb ?finb
    case turnb =>
      clear F8 N8
      refine TurnN.plain rfl ?_
      rintro i v ys nx I oI C oC D m₂ h tk E' hi hp90 hp91 hsr hyl hC' hx' F' N' off' ne'
      try k_fold
      obtain ⟨t, rfl⟩ := hp90
      obtain ⟨rfl, hys⟩ := hp91
      rw [Int.zero_add] at hx'
      have N2 := News.sub (new := (D', listOf #[.int n0 u0, .int n1 u1] 0) :: (sh.heap.objs.size + 1, o1) :: (I, oI) :: (C, oC) :: (D, LCg.lst ys) :: nx) N' (fm_cons (.tail _ (.tail _ (.tail _ hNm2))) (fm_cons (.tail _ (.tail _ (.tail _ hcm2))) fun _ h => h))
      clear N'
      rcases (show i = 0 ∨ i = 1 ∨ i = 2 ∨ i = 3 by omega) with rfl | rfl | rfl | rfl
      all_goals ((try k_fold); k_steps)
      all_goals (rename Fr (ghostOf sh.heap _) _ _ _ => F9)
      all_goals (rename News (ghostOf sh.heap _) _ _ _ => N9)
      all_goals exact NEnd.intro F9 N9 (fun z hz => .tail _ (.tail _ hz)) off' hsr ⟨rfl, fig_snoc hys rfl⟩
    case finb =>
      rintro ys D bs2 h tk ⟨hnx, hys⟩ - N' hne F'
      subst hnx
      clear F8 N8
      ((try k_fold); k_steps)
      refine Stop.out ?_
      rename Fr (ghostOf sh.heap _) _ _ _ => F9
      rename News (ghostOf sh.heap _) _ _ ((D, _) :: _) => N9
      rename (KX _).In _ => X9
      refine Con.use (grown_con w _ D (figsOf n1 4) ys ys.length hys figs_lt (by rw [figs_len]; decide)) K9 F9 X9 N9 T9 rfl (by ktr_room) (by ktr_units) ?_
      rintro r9 h' tk' news' F' N' hp90
      try k_fold
      obtain ⟨T2, O2, nO2, tw2, ov2, rfl, hov2, hO2, rfl⟩ := hp90
      clear F9 N9 hys hne
      have hg2 := grown_upTo (figs := figsOf n1 4) (n := 4) (by rw [figs_len]; exact Nat.le_refl _)
      obtain ⟨g2, hg2e⟩ : ∃ z, z = grownOf (figsOf n1 4) := ⟨_, rfl⟩
      rw [← hg2e] at hg2 hov2 N'
      clear hg2e
      ((try k_fold); k_steps)
      refine Stop.out ?_
      rename Fr (ghostOf sh.heap _) _ _ _ => F9
      rename News (ghostOf sh.heap _) _ _ ((T2, _) :: _) => N9
      obtain ⟨b3, hb3⟩ : ∃ z, z = (O2, listOf ov2.toArray nO2) :: bs2 := ⟨_, rfl⟩
      have N9 : News (ghostOf sh.heap [(243, 239)]) sh.heap.objs.size _ b3 := hb3 ▸ News.sub (new := (O2, listOf ov2.toArray nO2) :: bs2) N9 (by k_allIn)
      clear hNm hcm hNm2 hcm2
      have hs1 := sign_esc hg1
      have hs2 := sign_esc (up4_6 hg2)
      obtain ⟨he1, hw1, hx1⟩ := hs1
      obtain ⟨he2, hw2, hx2⟩ := hs2
      have hel1 := esc_len he1 hw1
      have hel2 := esc_len he2 hw2
      k_dflt refine Assign_ListComp_N (_F₀ := F9) rfl (by with_unfolding_all rfl) (by with_unfolding_all rfl) (by decide) rfl (by decide) rfl rfl rfl ?_
      k_steps
      rename Fr (ghostOf sh.heap _) _ _ _ => F8
      rename News (ghostOf sh.heap _) _ _ ((_, _) :: b3) => N8
      obtain ⟨b4, hb4, N8'⟩ := News.name N8
      have hm4 : _ ∈ b4 := hb4 ▸ List.Mem.head _
      clear N8
      refine SrcN.list (vs := [.str (encT g1.1) tw1, .str (encT g2.1) tw2]) (k := 0) (news := b4) (fun i ys nx => nx = b4 ∧ Texts ([escT g1.1, escT g2.1].take i) ys) rfl F8 N8' hm4 (Nat.le_of_ble_eq_true rfl) ⟨rfl, Texts.nil⟩ ?turnc ?finc
      case turnc =>
        clear F8 N8'
        have hr1 := rep_len hg1
        have hr2 := rep_len (up4_6 hg2)
        refine TurnN.plain0 rfl ?_
        rintro i v ys nx I oI C oC D m₂ h tk E' hi hv hp90 hsr hyl hC' hx' F' N' off' ne' htk0
        try k_fold
        obtain ⟨rfl, hys⟩ := hp90
        obtain ⟨wd, t0, rfl, hesc, hwl, hrl⟩ : ∃ (wd : List Nat) (t0 : Tok), v = .str (encT wd) t0 ∧ [escT g1.1, escT g2.1][i]? = some (escT wd) ∧ (encT wd).length ≤ 6 ∧ (Txt.replace (encT wd) (Str.ofString "\\") (Str.ofString "\\\\")).length ≤ 12 := by
          match i, hv with
          | 0, hv => exact ⟨_, _, (Option.some.inj hv).symm, rfl, by rw [encT_len]; exact hw1, hr1⟩
          | 1, hv => exact ⟨_, _, (Option.some.inj hv).symm, rfl, by rw [encT_len]; exact hw2, hr2⟩
        ((try k_fold); k_steps)
        rename Fr (ghostOf sh.heap _) _ _ _ => F9
        rename News (ghostOf sh.heap _) _ _ _ => N9
        exact NEnd.intro F9 N9 (fun z hz => hz) off' hsr ⟨rfl, by rw [List.take_add_one, hesc]; exact hys.snoc⟩
      case finc =>
        rintro ys D3 nx h tk ⟨hnx, hys⟩ - N' hne F'
        subst hnx
        have hys : Texts [escT g1.1, escT g2.1] ys := hys
        obtain ⟨hjk, hjl⟩ := join_ok2 hel1 hel2
        have hrd := rd_two he1 he2 hw1 hw2
        ((try k_fold); k_steps)
        refine Stop.out ?_
        rename Fr (ghostOf sh.heap _) _ _ _ => F9
        rename News (ghostOf sh.heap _) _ _ ((D3, _) :: _) => N9
        refine join_texts N9 (.head _) hys hjk ?_
        intro tj kj
        obtain ⟨jt, hjt⟩ : ∃ z, z = Txt.join (Str.ofString "\" \"") [escT g1.1, escT g2.1] := ⟨_, rfl⟩
        unfold wtext at hrd
        rw [← hjt] at hjl hrd ⊢
        clear hjk hys
        ((try k_fold); k_steps)
        refine Stop.out ?_
        rename Fr (ghostOf sh.heap _) _ _ _ => F9
        rename News (ghostOf sh.heap _) _ _ ((D3, _) :: _) => N9
        have htl : (Str.ofString "\"" ++ jt ++ Str.ofString "\"").length ≤ 1000 := by
          rw [Str.length_append, Str.length_append, show (Str.ofString "\"").length = 1 from by decide +kernel]; omega
        rw [hb2, hbase] at hO2
        rw [hbase] at hO1
        dsimp only [AllLt] at hO1 hO2
        have N9 := News.sub (new := (239, tabObj #[]) :: (sh.heap.objs.size + 1 + 1 + 1, o3) :: (O2, listOf ov2.toArray nO2) :: (O1, listOf ov1.toArray nO1) :: (D', listOf #[.int n0 u0, .int n1 u1] 0) :: (sh.heap.objs.size + 1 + 1, o2) :: (sh.heap.objs.size + 1, o1) :: []) N9 (by rw [hb4, hb3, hb2, hbase]; k_allIn)
        clear N8' hm4 hb4 hb3 hb2 hbase hne
        rename (KX _).In _ => X9
        refine Con.use (lex_con w ((sh.heap.objs.size + 1 + 1 + 1, o3) :: (O2, listOf ov2.toArray nO2) :: (O1, listOf ov1.toArray nO1) :: (D', listOf #[.int n0 u0, .int n1 u1] 0) :: (sh.heap.objs.size + 1 + 1, o2) :: (sh.heap.objs.size + 1, o1) :: []) (Str.ofString "\"" ++ jt ++ Str.ofString "\"") _ htl ?h1) K9 F9 X9 N9 T9 rfl (by ktr_room) (by ktr_units) ?_
        case h1 =>
          intro p hp b hb
          rw [List.mem_singleton.mp hb]
          revert p
          k_all
        rintro r9 h' tk' news' F' N' hp90
        try k_fold
        obtain ⟨c', oc, l, hl, hc', hac, hoc, hLX⟩ := hp90
        refine hLX.elim ?_
        clear hLX
        rintro x dx pb xs dxs pb2 la f cell fc fod fd fsl co kl t u rfl hNS hord rfl
        simp only [AllLt] at hac hord
        clear F9 N9 hjt
        ((try k_fold); k_steps)
        refine Stop.out ?_
        rename Fr (ghostOf sh.heap _) _ _ _ => F9
        rename News (ghostOf sh.heap _) _ _ _ => N9
        rename _ = Data.cell (some (Value.ref x)) => d3'
        obtain ⟨o3', d3', N9⟩ : ∃ o3' : Obj, o3'.data = .cell (some (.ref x)) ∧ News (ghostOf sh.heap [(243, 239)]) sh.heap.objs.size _ ((la, listOf (strValues l).toArray kl) :: (f, (⟨fc, fod, .func fd, fsl⟩ : Obj)) :: (c', oc) :: (cell, co) :: (dx, lexO w.params t (1) (.ref xs) (pb)) :: (x, instObj 83 dx) :: (dxs, strO w.params u (pb2) (f)) :: (xs, instObj 83 dxs) :: (pb, listOf #[] 0) :: (sh.heap.objs.size + 1 + 1 + 1, o3') :: (239, tabObj #[rawInt 178, rawInt 4, .ref c']) :: (O2, listOf ov2.toArray nO2) :: (O1, listOf ov1.toArray nO1) :: (D', listOf #[.int n0 u0, .int n1 u1] 0) :: (sh.heap.objs.size + 1 + 1, o2) :: (sh.heap.objs.size + 1, o1) :: []) := ⟨_, d3', News.sub N9 (by k_allIn)⟩
        rw [← hl] at hrd
        obtain ⟨hch1, hcl1, ra1, ra2, hsk1, hbd1, hrd2⟩ := rd_cons hrd
        clear hrd hl d3
        rename (KX _).In _ => X9
        refine Con.use (tok_con w ((sh.heap.objs.size + 1 + 1 + 1, o3') :: (239, tabObj #[rawInt 178, rawInt 4, .ref c']) :: (O2, listOf ov2.toArray nO2) :: (O1, listOf ov1.toArray nO1) :: (D', listOf #[.int n0 u0, .int n1 u1] 0) :: (sh.heap.objs.size + 1 + 1, o2) :: (sh.heap.objs.size + 1, o1) :: []) x dx pb xs dxs pb2 la f c' cell fc fod fd fsl oc co t u 1 kl 0 l ra1 ra2 (encT g1.1) hNS ?ho ?h1 ?h2 ?h3 ?h4 ?h5 hcl1 hch1 hsk1 hbd1) K9 F9 X9 N9 T9 rfl (by ktr_room) (by ktr_units) ?_
        case ho =>
          intro p hp b hb
          rw [List.mem_singleton.mp hb]
          revert p
          k_all
        case h1 => omega
        case h2 => omega
        case h3 => omega
        case h4 => omega
        case h5 => omega
        rintro r9 h' tk' news' F' N' hp90
        try k_fold
        obtain ⟨kl1, tt1, rfl, rfl⟩ := hp90
        clear F9 N9 hch1 hcl1 hsk1 hbd1
        obtain ⟨hch2, hcl2, rb1, rb2, hsk2, hbd2, hend⟩ := rd_cons hrd2
        obtain rfl : rb2 = [] := by simpa [rd] using hend
        clear hrd2 hend
        ((try k_fold); k_steps)
        refine Stop.out ?_
        rename Fr (ghostOf sh.heap _) _ _ _ => F9
        rename News (ghostOf sh.heap _) _ _ _ => N9
        rename (KX _).In _ => X9
        refine Con.use (tok_con w ((sh.heap.objs.size + 1 + 1 + 1, o3') :: (239, tabObj #[rawInt 178, rawInt 4, .ref c']) :: (O2, listOf ov2.toArray nO2) :: (O1, listOf ov1.toArray nO1) :: (D', listOf #[.int n0 u0, .int n1 u1] 0) :: (sh.heap.objs.size + 1 + 1, o2) :: (sh.heap.objs.size + 1, o1) :: []) x dx pb xs dxs pb2 la f c' cell fc fod fd fsl oc co t u 1 kl1 0 ra2 rb1 [] (encT g2.1) hNS ?ho2 ?h12 ?h22 ?h32 ?h42 ?h52 hcl2 hch2 hsk2 hbd2) K9 F9 X9 (News.sub N9 (by k_allIn)) T9 rfl (by ktr_room) (by ktr_units) ?_
        case ho2 =>
          intro p hp b hb
          rw [List.mem_singleton.mp hb]
          revert p
          k_all
        case h12 => omega
        case h22 => omega
        case h32 => omega
        case h42 => omega
        case h52 => omega
        rintro r9 h' tk' news' F' N' hp90
        try k_fold
        obtain ⟨kl2, tt2, rfl, rfl⟩ := hp90
        clear F9 N9 hch2 hcl2 hsk2 hbd2
        ((try k_fold); k_steps)
        refine Stop.out ?_
        rename_i WL _ lWL _ _ _ F9 N9 _
        have hso : [encT g1.1, encT g2.1].all PyData.strOk = true := by
          rw [List.all_cons, List.all_cons, sok_of hg1, sok_of (up4_6 hg2)]; rfl
        refine ne_texts (l := [encT g1.1, encT g2.1]) (r := [encT g1.1, encT g2.1]) (ys := [.str (encT g1.1) tt1, .str (encT g2.1) tt2]) (zs := [.str (encT g1.1) tw1, .str (encT g2.1) tw2]) N9 (by k_memK) (by k_memK) ⟨[(encT g1.1, tt1), (encT g2.1, tt2)], rfl, rfl⟩ ⟨[(encT g1.1, tw1), (encT g2.1, tw2)], rfl, rfl⟩ hso hso (by first | decide | ktr_units) ?_
        rw [beq_self_eq_true]
        have g5 := Go.mk 5
        ((try k_fold); k_steps)
        refine Stop.out ?_
        rename Fr (ghostOf sh.heap _) _ _ _ => F9
        rename News (ghostOf sh.heap _) _ _ _ => N9
        obtain ⟨fin1, hf1, hfs1, hfo1⟩ := kept_of hg1
        obtain ⟨fin2, hf2, hfs2, hfo2⟩ := kept_of (up4_6 hg2)
        have hok1 := okL_word hg1
        have hok2 := okL_word (up4_6 hg2)
        obtain ⟨tlk, htlk⟩ : ∃ z, z = (WL, listOf #[.str (encT g1.1) tt1, .str (encT g2.1) tt2] 0) :: (la, listOf #[] kl2) :: (f, (⟨fc, fod, .func fd, fsl⟩ : Obj)) :: (c', oc) :: (cell, co) :: (dxs, strO w.params u (pb2) (f)) :: (xs, instObj 83 dxs) :: (sh.heap.objs.size + 1 + 1 + 1, o3') :: (239, tabObj #[rawInt 178, rawInt 4, .ref c']) :: (O2, listOf ov2.toArray nO2) :: (O1, listOf ov1.toArray nO1) :: (D', listOf #[.int n0 u0, .int n1 u1] 0) :: (sh.heap.objs.size + 1 + 1, o2) :: (sh.heap.objs.size + 1, o1) :: [] := ⟨_, rfl⟩
        have N9 : News (ghostOf sh.heap [(243, 239)]) sh.heap.objs.size _ ((pb, listOf #[] 0) :: (dx, lexO w.params t (1) (.ref xs) (pb)) :: (x, instObj 83 dx) :: tlk) := News.sub N9 (by rw [htlk]; k_allIn)
        have hoffk : OwnOff tlk [pb] := by
          rw [htlk]
          intro p hp b hb
          rw [List.mem_singleton.mp hb]
          revert p
          k_all
        have hwm : (WL, listOf #[.str (encT g1.1) tt1, .str (encT g2.1) tt2] 0) ∈ tlk := htlk ▸ .head _
        have hcm : (sh.heap.objs.size + 1 + 1 + 1, o3') ∈ tlk := htlk ▸ (by k_memK)
        have hbase : ∀ p ∈ (la, listOf #[] kl2) :: (f, (⟨fc, fod, .func fd, fsl⟩ : Obj)) :: (c', oc) :: (cell, co) :: (dxs, strO w.params u (pb2) (f)) :: (xs, instObj 83 dxs) :: [], p ∈ tlk := by rw [htlk]; k_allIn
        have hpx : @Ne Nat pb x := by omega
        have hpd : @Ne Nat pb dx := by omega
        k_dflt refine ListComp_N (_F₀ := F9) (by with_unfolding_all rfl) (by decide) rfl (by decide) rfl ?_
        k_steps
        rename Fr (ghostOf sh.heap _) _ _ _ => F8
        rename News (ghostOf sh.heap _) _ _ ((pb, _) :: _) => N8
        have hwm2 : (WL, listOf #[.str (encT g1.1) tt1, .str (encT g2.1) tt2] 0) ∈ (pb, listOf #[] 0) :: (dx, lexO w.params t (1) (.ref xs) (pb)) :: (x, instObj 83 dx) :: tlk := .tail _ (.tail _ (.tail _ hwm))
        refine SrcN.list (vs := [.str (encT g1.1) tt1, .str (encT g2.1) tt2]) (k := 0) (news := (pb, listOf #[] 0) :: (dx, lexO w.params t (1) (.ref xs) (pb)) :: (x, instObj 83 dx) :: tlk)
          (fun i ys nx => ∃ (np : Nat) (kds : List (Addr × Obj)), ys = refsOf kds ∧ KeptL ([fin1, fin2].take i) kds ∧ AllGt pb kds ∧ nx = kds ++ ((pb, listOf #[] np) :: (dx, lexO w.params t (1) (.ref xs) (pb)) :: (x, instObj 83 dx) :: tlk)) rfl F8 N8 hwm2 (Nat.le_of_ble_eq_true rfl) ⟨0, [], rfl, trivial, trivial, rfl⟩ ?turnd ?find
        case turnd =>
          clear F8 N8 hwm2
          refine TurnN.plain rfl ?_
          rintro i v ys nx I oI C oC D m₂ h tk E' hi hv hp90 hsr hyl hC' hx' F' N' off' ne'
          try k_fold
          obtain ⟨np, kds, rfl, hkl, hgt, rfl⟩ := hp90
          obtain ⟨wd, t0, fin, rfl, hfi, hrun, hokw⟩ : ∃ (wd : List Nat) (t0 : Tok) (fin : List (List Nat)), v = .str (encT wd) t0 ∧ [fin1, fin2][i]? = some fin ∧ keptN 40 [wd] [] wd = some fin ∧ okL wd := by
            match i, hv with
            | 0, hv => exact ⟨_, _, _, (Option.some.inj hv).symm, rfl, hf1, hok1⟩
            | 1, hv => exact ⟨_, _, _, (Option.some.inj hv).symm, rfl, hf2, hok2⟩
          obtain ⟨tl, htl⟩ : ∃ z, z = (I, oI) :: (C, oC) :: (D, LCg.lst (refsOf kds)) :: (kds ++ tlk) := ⟨_, rfl⟩
          have hpbo := off' (pb, listOf #[] np) (List.mem_append_right _ (.head _))
          have hofft : OwnOff tl [pb] := by
            rw [htl]
            exact own_cons (Ne.symm hpbo.1) (own_cons (Ne.symm hpbo.2.1) (own_cons (Ne.symm hpbo.2.2) (own_app (own_gt (Nat.le_refl _) hgt) hoffk)))
          have hbt : ∀ p ∈ (la, listOf #[] kl2) :: (f, (⟨fc, fod, .func fd, fsl⟩ : Obj)) :: (c', oc) :: (cell, co) :: (dxs, strO w.params u (pb2) (f)) :: (xs, instObj 83 dxs) :: [], p ∈ tl := fun p hp => htl ▸ .tail _ (.tail _ (.tail _ (List.mem_append_right _ (hbase p hp))))
          have hct : (sh.heap.objs.size + 1 + 1 + 1, o3') ∈ tl := htl ▸ .tail _ (.tail _ (.tail _ (List.mem_append_right _ hcm)))
          have N2 : News (ghostOf sh.heap [(243, 239)]) sh.heap.objs.size h ((C, oC) :: (sh.heap.objs.size + 1 + 1 + 1, o3') :: (pb, listOf #[] np) :: (dx, lexO w.params t (1) (.ref xs) (pb)) :: (x, instObj 83 dx) :: tl) := News.sub N' (fun z hz => by
            rcases List.mem_cons.mp hz with rfl | hz
            · exact .tail _ (.head _)
            rcases List.mem_cons.mp hz with rfl | hz
            · exact .tail _ (.tail _ (.tail _ (List.mem_append_right _ (.tail _ (.tail _ (.tail _ hcm))))))
            rcases List.mem_cons.mp hz with rfl | hz
            · exact .tail _ (.tail _ (.tail _ (List.mem_append_right _ (.head _))))
            rcases List.mem_cons.mp hz with rfl | hz
            · exact .tail _ (.tail _ (.tail _ (List.mem_append_right _ (.tail _ (.head _)))))
            rcases List.mem_cons.mp hz with rfl | hz
            · exact .tail _ (.tail _ (.tail _ (List.mem_append_right _ (.tail _ (.tail _ (.head _))))))
            rw [htl] at hz
            rcases List.mem_cons.mp hz with rfl | hz
            · exact .head _
            rcases List.mem_cons.mp hz with rfl | hz
            · exact .tail _ (.head _)
            rcases List.mem_cons.mp hz with rfl | hz
            · exact .tail _ (.tail _ (.head _))
            rcases List.mem_append.mp hz with hz | hz
            · exact .tail _ (.tail _ (.tail _ (List.mem_append_left _ hz)))
            · exact .tail _ (.tail _ (.tail _ (List.mem_append_right _ (.tail _ (.tail _ (.tail _ hz)))))))
          clear N' hbase hcm
          ((try k_fold); k_steps)
          refine Stop.out ?_
          rename Fr (ghostOf sh.heap _) _ _ _ => F9
          rename News (ghostOf sh.heap _) _ _ _ => N9
          rename (KX _).In _ => X9
          refine Con.use (kept_con w tl x dx pb xs dxs pb2 la f c' cell fc fod fd fsl oc co t u 1 kl2 np hNS hofft hpx hpd hbt wd t0 fin hrun hokw) K9 F9 X9 (News.sub N9 (by k_allIn)) T9 rfl (by ktr_room) (by ktr_units) ?_
          rintro r9 h' tk' news' F' N' hp90
          try k_fold
          obtain ⟨D1, np1, yl, rfl, hyl, hpD, hlt, rfl⟩ := hp90
          clear F9 N9
          ((try k_fold); k_steps)
          rename Fr (ghostOf sh.heap _) _ _ _ => F9
          rename News (ghostOf sh.heap _) _ _ _ => N9
          rw [htl] at N9 hlt
          have hD1 : D1 ≠ I ∧ D1 ≠ C ∧ D1 ≠ D := ⟨Nat.ne_of_gt hlt.1, Nat.ne_of_gt hlt.2.1, Nat.ne_of_gt hlt.2.2.1⟩
          exact NEnd.intro (nx := (kds ++ [(D1, LCg.lst (strValues yl))]) ++ ((pb, listOf #[] np1) :: (dx, lexO w.params t (1) (.ref xs) (pb)) :: (x, instObj 83 dx) :: tlk)) F9 N9
            (fm_cons (.tail _ (.tail _ (.tail _ (.tail _ (.head _))))) (fm_cons (.tail _ (.tail _ (.tail _ (.tail _ (.tail _ (.head _)))))) (fm_cons (.tail _ (.tail _ (.tail _ (.tail _ (.tail _ (.tail _ (.head _))))))) fun z hz => by
              rcases List.mem_append.mp hz with hz | hz
              · rcases List.mem_append.mp hz with hz | hz
                · exact .tail _ (.tail _ (.tail _ (.tail _ (.tail _ (.tail _ (.tail _ (List.mem_append_left _ hz)))))))
                · rw [List.mem_singleton.mp hz]; exact .head _
              · rcases List.mem_cons.mp hz with rfl | hz
                · exact .tail _ (.head _)
                rcases List.mem_cons.mp hz with rfl | hz
                · exact .tail _ (.tail _ (.head _))
                rcases List.mem_cons.mp hz with rfl | hz
                · exact .tail _ (.tail _ (.tail _ (.head _)))
                exact .tail _ (.tail _ (.tail _ (.tail _ (.tail _ (.tail _ (.tail _ (List.mem_append_right _ hz))))))))))
            (fun z hz => by
              rcases List.mem_append.mp hz with hz | hz
              · rcases List.mem_append.mp hz with hz | hz
                · exact off' z (List.mem_append_left _ hz)
                · rw [List.mem_singleton.mp hz]; exact hD1
              · rcases List.mem_cons.mp hz with rfl | hz
                · exact hpbo
                exact off' z (List.mem_append_right _ (.tail _ hz)))
            (fun z hz => List.mem_append_right _ (.tail _ (.tail _ (.tail _ (by rw [List.mem_singleton.mp hz]; exact hwm)))))
            ⟨np1, kds ++ [(D1, LCg.lst (strValues yl))], by simp [refsOf], by rw [List.take_add_one, hfi]; exact KeptL.snoc ⟨yl, rfl, hyl⟩ _ _ hkl, allGt_snoc hpD hgt, rfl⟩
        case find =>
          rintro ys D5 nx h tk ⟨np, kds, rfl, hkl, hgt, rfl⟩ - N' hne F'
          clear F8 N8 hwm2 hne
          obtain ⟨⟨P1, oP1⟩, ⟨P2, oP2⟩, rfl, ⟨yl1, e1, hy1⟩, ⟨yl2, e2, hy2⟩⟩ := hkl.two
          dsimp only at e1 e2
          subst e1 e2
          have N' := News.sub (new := (D5, listOf #[.ref P1, .ref P2] 2) :: (P1, LCg.lst (strValues yl1)) :: (P2, LCg.lst (strValues yl2)) :: tlk) N' (fun z hz => by
            rcases List.mem_cons.mp hz with rfl | hz
            · exact .head _
            rcases List.mem_cons.mp hz with rfl | hz
            · exact .tail _ (.head _)
            rcases List.mem_cons.mp hz with rfl | hz
            · exact .tail _ (.tail _ (.head _))
            exact .tail _ (.tail _ (.tail _ (.tail _ (.tail _ (.tail _ hz))))))
          have hP1c : @LT.lt Nat _ (sh.heap.objs.size + 1 + 1) P1 := Nat.lt_trans (by omega) hgt.1
          clear hkl hgt
          obtain ⟨⟨a0, a1, a2, a3, hga⟩, hwn1, hok71⟩ := ord_four hg1
          obtain ⟨⟨c0, c1, c2, c3, hgc⟩, hwn2, hok72⟩ := ord_four (up4_6 hg2)
          rw [hga] at hov1 hok71 hwn1 hfs1
          rw [hgc] at hov2 hok72 hwn2 hfs2
          obtain ⟨ta0, ta1, ta2, ta3, rfl⟩ := ints_four hov1
          obtain ⟨tc0, tc1, tc2, tc3, rfl⟩ := ints_four hov2
          have hO1m : (O1, listOf #[.int (a0 : Int) ta0, .int (a1 : Int) ta1, .int (a2 : Int) ta2, .int (a3 : Int) ta3] nO1) ∈ tlk := htlk ▸ (by k_memK)
          have hO2m : (O2, listOf #[.int (c0 : Int) tc0, .int (c1 : Int) tc1, .int (c2 : Int) tc2, .int (c3 : Int) tc3] nO2) ∈ tlk := htlk ▸ (by k_memK)
          have hpm1 := fin_perm hfs1
          have hpm2 := fin_perm hfs2
          have hle1 := hpm1.length_eq
          have hle2 := hpm2.length_eq
          ((try k_fold); k_steps)
          refine Stop.out ?_
          rename Fr (ghostOf sh.heap _) _ _ _ => F9
          rename News (ghostOf sh.heap _) _ _ _ => N9
          refine sorted_texts (yl := yl1) (ts := fin1.map encT) F9 N9 (by k_memK) hy1 (by rw [List.length_map]; omega) ?_
          intro S1 h' sy1 se1 F' N' hp1 hso1
          clear F9 N9
          ((try k_fold); k_steps)
          refine Stop.out ?_
          rename Fr (ghostOf sh.heap _) _ _ _ => F9
          rename News (ghostOf sh.heap _) _ _ _ => N9
          rename (KX _).In _ => X9
          refine Con.use (words_con w 7 ((S1, listOf (strValues sy1).toArray se1) :: (P1, LCg.lst (strValues yl1)) :: (P2, LCg.lst (strValues yl2)) :: tlk) O1 a0 a1 a2 a3 ta0 ta1 ta2 ta3 nO1 hok71) K9 F9 X9 (News.sub N9 (fm_cons (by repeat' (first | exact hO1m | refine List.Mem.tail _ ?_)) (by k_allIn))) T9 rfl (by ktr_room) (by ktr_units) ?_
          rintro r9 h' tk' news' F' N' hp90
          try k_fold
          obtain ⟨W1, kW1, wy1, rfl, hwy1, rfl⟩ := hp90
          clear F9 N9
          ((try k_fold); k_steps)
          refine Stop.out ?_
          rename Fr (ghostOf sh.heap _) _ _ _ => F9
          rename News (ghostOf sh.heap _) _ _ _ => N9
          refine sorted_texts (yl := wy1) (ts := (wordsN 7 [a0, a1, a2, a3]).map encT) F9 N9 (by k_memK) hwy1 (by rw [List.length_map]; omega) ?_
          intro U1 h' uy1 ue1 F' N' hq1 hqo1
          clear F9 N9
          ((try k_fold); k_steps)
          refine Stop.out ?_
          rename Fr (ghostOf sh.heap _) _ _ _ => F9
          rename News (ghostOf sh.heap _) _ _ _ => N9
          have hsame1 : sy1.map (fun p : Str × Tok => p.1) = uy1.map (fun p : Str × Tok => p.1) := sorted_uniq (hp1.trans ((hpm1.map encT).trans hq1.symm)) hso1 hqo1
          have hsk1 : (sy1.map fun p : Str × Tok => p.1).all PyData.strOk = true := sok_perm hp1 hfo1
          refine ne_texts (ys := strValues sy1) (zs := strValues uy1) N9 (by k_memK) (by k_memK) ⟨sy1, rfl, rfl⟩ ⟨uy1, rfl, rfl⟩ hsk1 (hsame1 ▸ hsk1) (by first | decide | ktr_units) ?_
          rw [hsame1, beq_self_eq_true]
          ((try k_fold); k_steps)
          refine Stop.out ?_
          rename Fr (ghostOf sh.heap _) _ _ _ => F9
          rename News (ghostOf sh.heap _) _ _ _ => N9
          refine sorted_texts (yl := yl2) (ts := fin2.map encT) F9 N9 (by k_memK) hy2 (by rw [List.length_map]; omega) ?_
          intro S2 h' sy2 se2 F' N' hp2 hso2
          clear F9 N9
          ((try k_fold); k_steps)
          refine Stop.out ?_
          rename Fr (ghostOf sh.heap _) _ _ _ => F9
          rename News (ghostOf sh.heap _) _ _ _ => N9
          rename (KX _).In _ => X9
          refine Con.use (words_con w 7 ((S2, listOf (strValues sy2).toArray se2) :: (P1, LCg.lst (strValues yl1)) :: (P2, LCg.lst (strValues yl2)) :: tlk) O2 c0 c1 c2 c3 tc0 tc1 tc2 tc3 nO2 hok72) K9 F9 X9 (News.sub N9 (fm_cons (by repeat' (first | exact hO2m | refine List.Mem.tail _ ?_)) (by k_allIn))) T9 rfl (by ktr_room) (by ktr_units) ?_
          rintro r9 h' tk' news' F' N' hp90
          try k_fold
          obtain ⟨W2, kW2, wy2, rfl, hwy2, rfl⟩ := hp90
          clear F9 N9
          ((try k_fold); k_steps)
          refine Stop.out ?_
          rename Fr (ghostOf sh.heap _) _ _ _ => F9
          rename News (ghostOf sh.heap _) _ _ _ => N9
          refine sorted_texts (yl := wy2) (ts := (wordsN 7 [c0, c1, c2, c3]).map encT) F9 N9 (by k_memK) hwy2 (by rw [List.length_map]; omega) ?_
          intro U2 h' uy2 ue2 F' N' hq2 hqo2
          clear F9 N9
          ((try k_fold); k_steps)
          refine Stop.out ?_
          rename Fr (ghostOf sh.heap _) _ _ _ => F9
          rename News (ghostOf sh.heap _) _ _ _ => N9
          have hsame2 : sy2.map (fun p : Str × Tok => p.1) = uy2.map (fun p : Str × Tok => p.1) := sorted_uniq (hp2.trans ((hpm2.map encT).trans hq2.symm)) hso2 hqo2
          have hsk2 : (sy2.map fun p : Str × Tok => p.1).all PyData.strOk = true := sok_perm hp2 hfo2
          refine ne_texts (ys := strValues sy2) (zs := strValues uy2) N9 (by k_memK) (by k_memK) ⟨sy2, rfl, rfl⟩ ⟨uy2, rfl, rfl⟩ hsk2 (hsame2 ▸ hsk2) (by first | decide | ktr_units) ?_
          rw [hsame2, beq_self_eq_true]
          clear g5
          ((try k_fold); k_steps)
          refine Stop.out ?_
          rename Fr (ghostOf sh.heap _) _ _ _ => F9
          rename News (ghostOf sh.heap _) _ _ _ => N9
          have N9 := News.sub (new := (P1, LCg.lst (strValues yl1)) :: (P2, LCg.lst (strValues yl2)) :: tlk) N9 (by k_allIn)
          have hlo2 := low_of hg2 hf2
          k_dflt refine Assign_ListComp_N (_F₀ := F9) rfl (by with_unfolding_all rfl) (by with_unfolding_all rfl) (by decide) rfl (by decide) rfl rfl rfl ?_
          k_steps
          rename Fr (ghostOf sh.heap _) _ _ _ => F8
          rename News (ghostOf sh.heap _) _ _ ((P1, _) :: _) => N8
          refine SrcN.list (vs := strValues yl2) (k := (strValues yl2).length) (news := (P1, LCg.lst (strValues yl1)) :: (P2, LCg.lst (strValues yl2)) :: tlk) (fun i ys nx => nx = (P1, LCg.lst (strValues yl1)) :: (P2, LCg.lst (strValues yl2)) :: tlk ∧ Texts ((fin2.take i).map patT) ys) rfl F8 N8 (.tail _ (.head _)) (by rw [sizeLine_eq, strValues, List.length_map, ← List.length_map (fun p : Str × Tok => p.1), hy2, List.length_map]; omega) ⟨rfl, Texts.nil⟩ ?turne ?fine
          case turne =>
            clear F8 N8
            refine TurnN.plain rfl ?_
            rintro i v ys nx I oI C oC D m₂ h tk E' hi hv hp90 hsr hyl hC' hx' F' N' off' ne'
            try k_fold
            obtain ⟨rfl, hys⟩ := hp90
            obtain ⟨v0, t0, rfl, hv0, hv10⟩ := words_at hy2 (fun v hv => by obtain ⟨q, hq, rfl, -⟩ := hfo2 v hv; exact Nat.le_trans (sign_esc hq).2.1 (by decide)) hv
            obtain ⟨hpj, hpl, -, -⟩ := pat_of (hlo2 v0 (List.mem_of_getElem? hv0))
            have hvl : (encT v0).length ≤ 10 := by rw [encT_len]; exact hv10
            ((try k_fold); k_steps)
            refine Stop.out ?_
            rename List.map _ _ = signs (encT v0) => hl9
            rw [signs_enc] at hl9
            rename List (Str × Tok) => l9
            have hl9n : l9.length ≤ 10 := by have h9 := congrArg List.length hl9; simp only [List.length_map, lets] at h9; omega
            k_here
            refine' kmk_add_lit ?zF ?zN ?za ?zb rfl ?_ ?zz
            case zF => k_asm
            case zN => k_asm
            case za => kmk_list
            case zb => kmk_list
            case zz => simp [strValues, sizeLine_eq]; omega
            intro D7 h' F' N' l1
            (try k_lt l1)
            k_sweep
            ((try k_fold); k_steps)
            refine Stop.out ?_
            k_here
            refine' kmk_add_lit ?zF ?zN ?za ?zb rfl ?_ ?zz
            case zF => k_asm
            case zN => k_asm
            case za => kmk_list
            case zb => kmk_list
            case zz => simp [strValues, sizeLine_eq]; omega
            intro D8 h' F' N' l1
            (try k_lt l1)
            k_sweep
            ((try k_fold); k_steps)
            refine Stop.out ?_
            rename Fr (ghostOf sh.heap _) _ _ _ => F9
            rename News (ghostOf sh.heap _) _ _ _ => N9
            refine join_textsN (l := [Str.ofString ""] ++ lets v0 ++ [Str.ofString ""]) (ys := [Value.str (Str.ofString "") _] ++ strValues l9 ++ [Value.str (Str.ofString "") _]) N9 (.head _) (Texts.app (Texts.app (Texts.one _ _) ⟨l9, rfl, hl9⟩) (Texts.one _ _)) hpj ?_
            intro tj kj
            ((try k_fold); k_steps)
            exact NEnd.intro F9 N9 (by k_allIn) off' hsr ⟨rfl, by rw [List.take_add_one, hv0, List.map_append]; exact hys.snoc⟩
          case fine =>
            rintro ys D6 nx h tk ⟨rfl, hys⟩ - N' hne F'
            clear F8 N8
            have hyn2 : (strValues yl2).length = fin2.length := by have h9 := congrArg List.length hy2; rw [List.length_map, List.length_map] at h9; rw [strValues, List.length_map]; exact h9
            rw [hyn2, List.take_length] at hys
            have hcw : (sh.heap.objs.size + 1 + 1, o2) ∈ tlk := htlk ▸ (by k_memK)
            have h239 : (239, tabObj #[rawInt 178, rawInt 4, .ref c']) ∈ tlk := htlk ▸ (by k_memK)
            have hcc : (c', oc) ∈ tlk := htlk ▸ (by k_memK)
            have hD6c : @Ne Nat (sh.heap.objs.size + 1 + 1) D6 := hne _ (.tail _ (.tail _ hcw))
            have N' : News (ghostOf sh.heap [(243, 239)]) sh.heap.objs.size h ((D6, LCg.lst ys) :: (P1, LCg.lst (strValues yl1)) :: (sh.heap.objs.size + 1 + 1, o2) :: (O2, listOf #[.int (c0 : Int) tc0, .int (c1 : Int) tc1, .int (c2 : Int) tc2, .int (c3 : Int) tc3] nO2) :: (O1, listOf #[.int (a0 : Int) ta0, .int (a1 : Int) ta1, .int (a2 : Int) ta2, .int (a3 : Int) ta3] nO1) :: (239, tabObj #[rawInt 178, rawInt 4, .ref c']) :: (c', oc) :: []) :=
              News.sub N' (fm_cons (.head _) (fm_cons (.tail _ (.head _)) (fm_cons (.tail _ (.tail _ (.tail _ hcw))) (fm_cons (.tail _ (.tail _ (.tail _ hO2m))) (fm_cons (.tail _ (.tail _ (.tail _ hO1m))) (fm_cons (.tail _ (.tail _ (.tail _ h239))) (fm_cons (.tail _ (.tail _ (.tail _ hcc))) fun _ h => nomatch h)))))))
            clear hne hcw h239 hcc hO1m hO2m hoffk hwm hcm hbase htlk
            clear hsame1 hsame2 hp1 hp2 hq1 hq2 hsk1 hsk2 hso1 hso2 hqo1 hqo2
            ((try k_fold); k_steps)
            refine Stop.out ?_
            rename Fr (ghostOf sh.heap _) _ _ _ => F9
            rename News (ghostOf sh.heap _) _ _ _ => N9
            rename (KX _).In _ => X9
            refine Con.useE (below_con w ((D6, LCg.lst ys) :: (P1, LCg.lst (strValues yl1)) :: (sh.heap.objs.size + 1 + 1, o2) :: (239, tabObj #[rawInt 178, rawInt 4, .ref c']) :: (c', oc) :: []) O2 O1 c0 c1 c2 c3 a0 a1 a2 a3 tc0 tc1 tc2 tc3 ta0 ta1 ta2 ta3 nO2 nO1) K9 F9 X9 (News.sub N9 (by k_allIn)) T9 rfl (by ktr_room) (by ktr_units) ?_
            intro h' tk' F' N'
            try k_fold
            clear F9 N9
            obtain ⟨bb, hbb⟩ : ∃ z, z = belowN g2.2 g1.2 := ⟨_, rfl⟩
            have hbb2 : belowN [c0, c1, c2, c3] [a0, a1, a2, a3] = bb := by rw [hbb, hgc, hga]
            rw [hbb2]
            clear hbb2
            ((try k_fold); k_steps)
            refine Stop.out ?_
            rename Fr (ghostOf sh.heap _) _ _ _ => F9
            rename News (ghostOf sh.heap _) _ _ _ => N9
            with_unfolding_all refine' For_turns F9 ?_ ?zk1 ?zk2
            case zk1 => exact fun _ => rfl
            case zk2 => passes_own
            ((try k_fold); k_steps)
            refine Stop.out ?_
            rename Fr (ghostOf sh.heap _) _ _ _ => F9
            rename News (ghostOf sh.heap _) _ _ _ => N9
            have N9 := News.sub (new := (P1, LCg.lst (strValues yl1)) :: (sh.heap.objs.size + 1 + 1, o2) :: (D6, LCg.lst ys) :: (239, tabObj #[rawInt 178, rawInt 4, .ref c']) :: (c', oc) :: []) N9 (by k_allIn)
            refine kdt_iter (l := P1) (vs := strValues yl1) (nn := (strValues yl1).length) (news := (P1, LCg.lst (strValues yl1)) :: (sh.heap.objs.size + 1 + 1, o2) :: (D6, LCg.lst ys) :: (239, tabObj #[rawInt 178, rawInt 4, .ref c']) :: (c', oc) :: []) (fun i m nx => ∀ Z : Prop, (∀ (co : Obj) (cv : Option Value), (m "patterns" = some (.ref D6) ∧ m "below" = some (.bool bb)) → co.data = .cell cv →
              nx = (P1, LCg.lst (strValues yl1)) :: (sh.heap.objs.size + 1 + 1, co) :: (D6, LCg.lst ys) :: (239, tabObj #[rawInt 178, rawInt 4, .ref c']) :: (c', oc) :: [] → Z) → Z) rfl (.head _) F9 N9 (fun _ q => q o2 _ ⟨rfl, rfl⟩ d2 rfl) ?turnf ?donef
            case turnf =>
              intro i v m₁ news₁ h₁ tk₁ own hv hoff hPm hJ9 F₁ N₁
              try k_fold
              refine hJ9 _ ?_
              clear hJ9 F9 N9
              rintro co cv ⟨hm1, hm2⟩ hco rfl
              have F2 := Fr.al [("patterns", .ref D6), ("below", .bool bb)] F₁ (al_cons hm1 (al_cons hm2 al_nil))
              have hoc := own_of_off (b := sh.heap.objs.size + 1 + 1) hoff (.tail _ (.head _))
              clear F₁
              obtain ⟨v1, t1, rfl, hv1, hv110⟩ := words_at hy1 (fun v hv => by obtain ⟨q, hq, rfl, -⟩ := hfo1 v hv; exact Nat.le_trans (sign_esc hq).2.1 (by decide)) hv
              have hw1o := hfo1 v1 (List.mem_of_getElem? hv1)
              ((try k_fold); k_steps)
              refine Stop.out ?_
              rename Fr (ghostOf sh.heap _) _ _ _ => F9
              rename News (ghostOf sh.heap _) _ _ _ => N9
              rename _ = Data.cell (some (Value.str (encT v1) _)) => dw
              obtain ⟨cw2, dw, N9⟩ : ∃ o : Obj, o.data = .cell (some (.str (encT v1) t1)) ∧ News (ghostOf sh.heap [(243, 239)]) sh.heap.objs.size _ ((P1, LCg.lst (strValues yl1)) :: (sh.heap.objs.size + 1 + 1, o) :: (D6, LCg.lst ys) :: (239, tabObj #[rawInt 178, rawInt 4, .ref c']) :: (c', oc) :: own) := ⟨_, dw, N9⟩
              obtain ⟨nl, hnl⟩ : ∃ z, z = (P1, LCg.lst (strValues yl1)) :: (sh.heap.objs.size + 1 + 1, cw2) :: (D6, LCg.lst ys) :: (239, tabObj #[rawInt 178, rawInt 4, .ref c']) :: (c', oc) :: own := ⟨_, rfl⟩
              rw [← hnl] at N9
              have hDm : (D6, LCg.lst ys) ∈ nl := hnl ▸ .tail _ (.tail _ (.head _))
              have hwm : (sh.heap.objs.size + 1 + 1, cw2) ∈ nl := hnl ▸ .tail _ (.head _)
              have hfl : ys.length = fin2.length := by rw [hys.len, List.length_map]
              k_dflt refine ListComp_N (_F₀ := F9) (by with_unfolding_all rfl) (by decide) rfl (by decide) rfl ?_
              ((try k_fold); k_steps)
              rename Fr (ghostOf sh.heap _) _ _ _ => F8
              rename News (ghostOf sh.heap _) _ _ _ => N8
              refine SrcN.list (vs := ys) (k := ys.length) (news := nl) (fun i zs nx => nx = nl ∧ zs = ((fin2.take i).map (fun p => subN p v1)).map Value.bool) rfl F8 N8 hDm (by rw [sizeLine_eq]; omega) ⟨rfl, rfl⟩ ?turng ?fing
              case turng =>
                clear F8 N8
                refine TurnN.plain rfl ?_
                rintro j v zs nx I oI C oC D m₂ h tk E' hj hv2 hp90 hsr hyl9 hC' hx' F' N' off' ne'
                try k_fold
                obtain ⟨rfl, rfl⟩ := hp90
                obtain ⟨x0, t0, rfl, hx0⟩ := hys.at hv2
                obtain ⟨v0, hv0, rfl⟩ : ∃ v0, fin2[j]? = some v0 ∧ patT v0 = x0 := by simpa [List.getElem?_map, Option.map_eq_some_iff] using hx0
                have hlo := hlo2 v0 (List.mem_of_getElem? hv0)
                obtain ⟨hpj, hpl, hps, hpo⟩ := pat_of hlo
                have N2 := News.sub (new := (sh.heap.objs.size + 1 + 1, cw2) :: (I, oI) :: (C, oC) :: (D, LCg.lst (((fin2.take j).map (fun p => subN p v1)).map Value.bool)) :: nx) N' (fm_cons (.tail _ (.tail _ (.tail _ hwm))) fun _ h => h)
                clear N'
                ((try k_fold); k_steps)
                refine Stop.out ?_
                rename Fr (ghostOf sh.heap _) _ _ _ => F9
                rename News (ghostOf sh.heap _) _ _ _ => N9
                rename (KX _).In _ => X9
                refine Con.useE (em_con w _ (patT v0) (encT v1) t0 t1 (lets v0) hpl (by rw [encT_len]; omega) hps hpo) K9 F9 X9 N9 T9 rfl (by ktr_room) (by ktr_units) ?_
                intro h' tk' F' N'
                try k_fold
                rw [em_word hw1o hlo]
                clear F9 N9
                ((try k_fold); k_steps)
                rename Fr (ghostOf sh.heap _) _ _ _ => F9
                rename News (ghostOf sh.heap _) _ _ _ => N9
                exact NEnd.intro F9 N9 (fun z hz => .tail _ hz) off' hsr ⟨rfl, by rw [List.take_add_one, hv0, List.map_append, List.map_append]; rfl⟩
              case fing =>
                rintro zs D9 nx h tk ⟨rfl, rfl⟩ - N' hne F'
                clear F8 N8
                rw [hfl, List.take_length] at N'
                have hone := one_below hw1o hg2 hf2
                rw [← hbb] at hone
                ((try k_fold); k_steps)
                refine Stop.out ?_
                rename Fr (ghostOf sh.heap _) _ _ _ => F9
                rename News (ghostOf sh.heap _) _ _ _ => N9
                refine in_bools (bs := fin2.map fun p => subN p v1) N9 (.head _) ?_
                rw [hone]
                clear hone hbb hne
                cases bb
                all_goals ((try k_fold); k_steps)
                all_goals exact InvEndG.intro (nx := (P1, LCg.lst (strValues yl1)) :: (sh.heap.objs.size + 1 + 1, cw2) :: (D6, LCg.lst ys) :: (239, tabObj #[rawInt 178, rawInt 4, .ref c']) :: (c', oc) :: []) F9 N9 ⟨.head _, fun _ q => q cw2 _ ⟨rfl, rfl⟩ dw rfl⟩ hoff (fun z hz => by rw [hnl]; exact .tail _ (List.mem_append_left own hz)) (fun z hz => by rw [hnl]; exact .tail _ (.tail _ (.tail _ (.tail _ (.tail _ (.tail _ hz))))))
            case donef =>
              intro m₁ news₁ h₁ tk₁ hJ9 F₁ N₁
              try k_fold
              refine hJ9 _ ?_
              clear hJ9 F9 N9
              rintro co cv ⟨hm1, hm2⟩ hco rfl
              have F2 := Fr.al [("patterns", .ref D6), ("below", .bool bb)] F₁ (al_cons hm1 (al_cons hm2 al_nil))
              clear F₁
              dsimp only
              k_steps
end PL1_01
end Mine
theorem PySem.Challenge.cw_pg0279_01_holds : PySem.Challenge.rw_pg0279_01.Holds :=
  Mine.law1
