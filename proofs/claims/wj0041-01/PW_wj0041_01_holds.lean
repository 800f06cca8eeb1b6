import PyProof.Rows.All
import Wide.All
import OpenK.AllK
import Wide.FinOn
import PySem.Challenge.RW_wj0041_01
open PySem PySem.W PyProof.Rows
set_option Elab.async false
set_option maxRecDepth 100000
set_option maxHeartbeats 8000000
set_option compiler.extract_closed false
set_option linter.all false
open PySem.Calls
namespace Mine
/-- the parts of a def's statement -/
noncomputable def fdP : Stmt → Arguments
  | .FunctionDef _ a _ _ _ _ _ _ _ _ => a
  | _ => default
noncomputable def fdB : Stmt → List Stmt
  | .FunctionDef _ _ b _ _ _ _ _ _ _ => b
  | .ClassDef _ _ _ b _ _ _ _ _ _ _ => b
  | _ => []
noncomputable def fdS : Stmt → Scope
  | .FunctionDef _ _ _ _ _ _ s _ _ _ => s
  | _ => default
noncomputable def topS (i : Nat) : Stmt := PySem.Challenge.pw_wj0041_01.main.body.getD i (.Pass default)
noncomputable def methS (i j : Nat) : Stmt := (fdB (topS i)).getD j (.Pass default)
/-- the text without its five rows for __name__ -/
noncomputable def hd.view_39 : Program := by
  refine (?f : ∀ (t0 t1 t3 t5 t6 t7 t9 t10 t11 t12 t14 t15 t16 t18 t19 t20 t21 t22 t23 t24 t25 t26 t27 t28 t29 : Stmt), t0 = topS 0 → t1 = topS 1 → t3 = topS 3 → t5 = topS 5 → t6 = topS 6 → t7 = topS 7 → t9 = topS 9 → t10 = topS 10 → t11 = topS 11 → t12 = topS 12 → t14 = topS 14 → t15 = topS 15 → t16 = topS 16 → t18 = topS 18 → t19 = topS 19 → t20 = topS 20 → t21 = topS 21 → t22 = topS 22 → t23 = topS 23 → t24 = topS 24 → t25 = topS 25 → t26 = topS 26 → t27 = topS 27 → t28 = topS 28 → t29 = topS 29 → Program) _ _ _ _ _ _ _ _ _ _ _ _ _ _ _ _ _ _ _ _ _ _ _ _ _ (by conv => { rhs; whnf }) (by conv => { rhs; whnf }) (by conv => { rhs; whnf }) (by conv => { rhs; whnf }) (by conv => { rhs; whnf }) (by conv => { rhs; whnf }) (by conv => { rhs; whnf }) (by conv => { rhs; whnf }) (by conv => { rhs; whnf }) (by conv => { rhs; whnf }) (by conv => { rhs; whnf }) (by conv => { rhs; whnf }) (by conv => { rhs; whnf }) (by conv => { rhs; whnf }) (by conv => { rhs; whnf }) (by conv => { rhs; whnf }) (by conv => { rhs; whnf }) (by conv => { rhs; whnf }) (by conv => { rhs; whnf }) (by conv => { rhs; whnf }) (by conv => { rhs; whnf }) (by conv => { rhs; whnf }) (by conv => { rhs; whnf }) (by conv => { rhs; whnf }) (by conv => { rhs; whnf })
  case f => exact fun t0 t1 t3 t5 t6 t7 t9 t10 t11 t12 t14 t15 t16 t18 t19 t20 t21 t22 t23 t24 t25 t26 t27 t28 t29 _ _ _ _ _ _ _ _ _ _ _ _ _ _ _ _ _ _ _ _ _ _ _ _ _ => ({ PySem.Challenge.pw_wj0041_01 with main := { PySem.Challenge.pw_wj0041_01.main with body := [t0, t1, t3, t5, t6, t7, t9, t10, t11, t12, t14, t15, t16, t18, t19, t20, t21, t22, t23, t24, t25, t26, t27, t28, t29] } } : Program)
/-- what the law's walk knows of the heap behind the text -/
noncomputable def hd.heap_39 : Params → Frag := by
  intro P
  refine (?f : ∀ (p0 : Arguments) (b0 : List Stmt) (s0 : Scope) (p1 : Arguments) (b1 : List Stmt) (s1 : Scope) (p2 : Arguments) (b2 : List Stmt) (s2 : Scope) (p3 : Arguments) (b3 : List Stmt) (s3 : Scope) (p4 : Arguments) (b4 : List Stmt) (s4 : Scope) (p5 : Arguments) (b5 : List Stmt) (s5 : Scope) (p6 : Arguments) (b6 : List Stmt) (s6 : Scope) (p7 : Arguments) (b7 : List Stmt) (s7 : Scope) (p8 : Arguments) (b8 : List Stmt) (s8 : Scope) (p9 : Arguments) (b9 : List Stmt) (s9 : Scope) (p10 : Arguments) (b10 : List Stmt) (s10 : Scope) (p11 : Arguments) (b11 : List Stmt) (s11 : Scope) (p12 : Arguments) (b12 : List Stmt) (s12 : Scope) (p13 : Arguments) (b13 : List Stmt) (s13 : Scope) (p14 : Arguments) (b14 : List Stmt) (s14 : Scope) (p15 : Arguments) (b15 : List Stmt) (s15 : Scope) (p16 : Arguments) (b16 : List Stmt) (s16 : Scope) (p17 : Arguments) (b17 : List Stmt) (s17 : Scope) (p18 : Arguments) (b18 : List Stmt) (s18 : Scope) (p19 : Arguments) (b19 : List Stmt) (s19 : Scope) (p20 : Arguments) (b20 : List Stmt) (s20 : Scope) (p21 : Arguments) (b21 : List Stmt) (s21 : Scope) (p22 : Arguments) (b22 : List Stmt) (s22 : Scope) (p23 : Arguments) (b23 : List Stmt) (s23 : Scope) (p24 : Arguments) (b24 : List Stmt) (s24 : Scope) (p25 : Arguments) (b25 : List Stmt) (s25 : Scope) (p26 : Arguments) (b26 : List Stmt) (s26 : Scope) (p27 : Arguments) (b27 : List Stmt) (s27 : Scope) (p28 : Arguments) (b28 : List Stmt) (s28 : Scope) (p29 : Arguments) (b29 : List Stmt) (s29 : Scope) (p30 : Arguments) (b30 : List Stmt) (s30 : Scope) (p31 : Arguments) (b31 : List Stmt) (s31 : Scope) (p32 : Arguments) (b32 : List Stmt) (s32 : Scope) (p33 : Arguments) (b33 : List Stmt) (s33 : Scope) (p34 : Arguments) (b34 : List Stmt) (s34 : Scope), p0 = fdP (topS 1) → b0 = fdB (topS 1) → s0 = fdS (topS 1) → p1 = fdP (topS 3) → b1 = fdB (topS 3) → s1 = fdS (topS 3) → p2 = fdP (topS 5) → b2 = fdB (topS 5) → s2 = fdS (topS 5) → p3 = fdP (topS 6) → b3 = fdB (topS 6) → s3 = fdS (topS 6) → p4 = fdP (topS 7) → b4 = fdB (topS 7) → s4 = fdS (topS 7) → p5 = fdP (topS 12) → b5 = fdB (topS 12) → s5 = fdS (topS 12) → p6 = fdP (methS 16 0) → b6 = fdB (methS 16 0) → s6 = fdS (methS 16 0) → p7 = fdP (methS 16 1) → b7 = fdB (methS 16 1) → s7 = fdS (methS 16 1) → p8 = fdP (methS 16 2) → b8 = fdB (methS 16 2) → s8 = fdS (methS 16 2) → p9 = fdP (methS 16 3) → b9 = fdB (methS 16 3) → s9 = fdS (methS 16 3) → p10 = fdP (methS 16 4) → b10 = fdB (methS 16 4) → s10 = fdS (methS 16 4) → p11 = fdP (methS 16 5) → b11 = fdB (methS 16 5) → s11 = fdS (methS 16 5) → p12 = fdP (methS 16 6) → b12 = fdB (methS 16 6) → s12 = fdS (methS 16 6) → p13 = fdP (methS 16 7) → b13 = fdB (methS 16 7) → s13 = fdS (methS 16 7) → p14 = fdP (methS 16 8) → b14 = fdB (methS 16 8) → s14 = fdS (methS 16 8) → p15 = fdP (methS 16 9) → b15 = fdB (methS 16 9) → s15 = fdS (methS 16 9) → p16 = fdP (methS 16 10) → b16 = fdB (methS 16 10) → s16 = fdS (methS 16 10) → p17 = fdP (methS 16 11) → b17 = fdB (methS 16 11) → s17 = fdS (methS 16 11) → p18 = fdP (methS 16 12) → b18 = fdB (methS 16 12) → s18 = fdS (methS 16 12) → p19 = fdP (methS 16 13) → b19 = fdB (methS 16 13) → s19 = fdS (methS 16 13) → p20 = fdP (methS 16 14) → b20 = fdB (methS 16 14) → s20 = fdS (methS 16 14) → p21 = fdP (methS 16 15) → b21 = fdB (methS 16 15) → s21 = fdS (methS 16 15) → p22 = fdP (methS 16 16) → b22 = fdB (methS 16 16) → s22 = fdS (methS 16 16) → p23 = fdP (topS 18) → b23 = fdB (topS 18) → s23 = fdS (topS 18) → p24 = fdP (topS 19) → b24 = fdB (topS 19) → s24 = fdS (topS 19) → p25 = fdP (topS 20) → b25 = fdB (topS 20) → s25 = fdS (topS 20) → p26 = fdP (topS 21) → b26 = fdB (topS 21) → s26 = fdS (topS 21) → p27 = fdP (topS 22) → b27 = fdB (topS 22) → s27 = fdS (topS 22) → p28 = fdP (topS 23) → b28 = fdB (topS 23) → s28 = fdS (topS 23) → p29 = fdP (topS 24) → b29 = fdB (topS 24) → s29 = fdS (topS 24) → p30 = fdP (topS 25) → b30 = fdB (topS 25) → s30 = fdS (topS 25) → p31 = fdP (topS 26) → b31 = fdB (topS 26) → s31 = fdS (topS 26) → p32 = fdP (topS 27) → b32 = fdB (topS 27) → s32 = fdS (topS 27) → p33 = fdP (topS 28) → b33 = fdB (topS 28) → s33 = fdS (topS 28) → p34 = fdP (topS 29) → b34 = fdB (topS 29) → s34 = fdS (topS 29) → Frag) _ _ _ _ _ _ _ _ _ _ _ _ _ _ _ _ _ _ _ _ _ _ _ _ _ _ _ _ _ _ _ _ _ _ _ _ _ _ _ _ _ _ _ _ _ _ _ _ _ _ _ _ _ _ _ _ _ _ _ _ _ _ _ _ _ _ _ _ _ _ _ _ _ _ _ _ _ _ _ _ _ _ _ _ _ _ _ _ _ _ _ _ _ _ _ _ _ _ _ _ _ _ _ _ _ (by conv => { rhs; whnf }) (by conv => { rhs; whnf }) (by conv => { rhs; whnf }) (by conv => { rhs; whnf }) (by conv => { rhs; whnf }) (by conv => { rhs; whnf }) (by conv => { rhs; whnf }) (by conv => { rhs; whnf }) (by conv => { rhs; whnf }) (by conv => { rhs; whnf }) (by conv => { rhs; whnf }) (by conv => { rhs; whnf }) (by conv => { rhs; whnf }) (by conv => { rhs; whnf }) (by conv => { rhs; whnf }) (by conv => { rhs; whnf }) (by conv => { rhs; whnf }) (by conv => { rhs; whnf }) (by conv => { rhs; whnf }) (by conv => { rhs; whnf }) (by conv => { rhs; whnf }) (by conv => { rhs; whnf }) (by conv => { rhs; whnf }) (by conv => { rhs; whnf }) (by conv => { rhs; whnf }) (by conv => { rhs; whnf }) (by conv => { rhs; whnf }) (by conv => { rhs; whnf }) (by conv => { rhs; whnf }) (by conv => { rhs; whnf }) (by conv => { rhs; whnf }) (by conv => { rhs; whnf }) (by conv => { rhs; whnf }) (by conv => { rhs; whnf }) (by conv => { rhs; whnf }) (by conv => { rhs; whnf }) (by conv => { rhs; whnf }) (by conv => { rhs; whnf }) (by conv => { rhs; whnf }) (by conv => { rhs; whnf }) (by conv => { rhs; whnf }) (by conv => { rhs; whnf }) (by conv => { rhs; whnf }) (by conv => { rhs; whnf }) (by conv => { rhs; whnf }) (by conv => { rhs; whnf }) (by conv => { rhs; whnf }) (by conv => { rhs; whnf }) (by conv => { rhs; whnf }) (by conv => { rhs; whnf }) (by conv => { rhs; whnf }) (by conv => { rhs; whnf }) (by conv => { rhs; whnf }) (by conv => { rhs; whnf }) (by conv => { rhs; whnf }) (by conv => { rhs; whnf }) (by conv => { rhs; whnf }) (by conv => { rhs; whnf }) (by conv => { rhs; whnf }) (by conv => { rhs; whnf }) (by conv => { rhs; whnf }) (by conv => { rhs; whnf }) (by conv => { rhs; whnf }) (by conv => { rhs; whnf }) (by conv => { rhs; whnf }) (by conv => { rhs; whnf }) (by conv => { rhs; whnf }) (by conv => { rhs; whnf }) (by conv => { rhs; whnf }) (by conv => { rhs; whnf }) (by conv => { rhs; whnf }) (by conv => { rhs; whnf }) (by conv => { rhs; whnf }) (by conv => { rhs; whnf }) (by conv => { rhs; whnf }) (by conv => { rhs; whnf }) (by conv => { rhs; whnf }) (by conv => { rhs; whnf }) (by conv => { rhs; whnf }) (by conv => { rhs; whnf }) (by conv => { rhs; whnf }) (by conv => { rhs; whnf }) (by conv => { rhs; whnf }) (by conv => { rhs; whnf }) (by conv => { rhs; whnf }) (by conv => { rhs; whnf }) (by conv => { rhs; whnf }) (by conv => { rhs; whnf }) (by conv => { rhs; whnf }) (by conv => { rhs; whnf }) (by conv => { rhs; whnf }) (by conv => { rhs; whnf }) (by conv => { rhs; whnf }) (by conv => { rhs; whnf }) (by conv => { rhs; whnf }) (by conv => { rhs; whnf }) (by conv => { rhs; whnf }) (by conv => { rhs; whnf }) (by conv => { rhs; whnf }) (by conv => { rhs; whnf }) (by conv => { rhs; whnf }) (by conv => { rhs; whnf }) (by conv => { rhs; whnf }) (by conv => { rhs; whnf }) (by conv => { rhs; whnf })
  case f => exact fun p0 b0 s0 p1 b1 s1 p2 b2 s2 p3 b3 s3 p4 b4 s4 p5 b5 s5 p6 b6 s6 p7 b7 s7 p8 b8 s8 p9 b9 s9 p10 b10 s10 p11 b11 s11 p12 b12 s12 p13 b13 s13 p14 b14 s14 p15 b15 s15 p16 b16 s16 p17 b17 s17 p18 b18 s18 p19 b19 s19 p20 b20 s20 p21 b21 s21 p22 b22 s22 p23 b23 s23 p24 b24 s24 p25 b25 s25 p26 b26 s26 p27 b27 s27 p28 b28 s28 p29 b29 s29 p30 b30 s30 p31 b31 s31 p32 b32 s32 p33 b33 s33 p34 b34 s34 _ _ _ _ _ _ _ _ _ _ _ _ _ _ _ _ _ _ _ _ _ _ _ _ _ _ _ _ _ _ _ _ _ _ _ _ _ _ _ _ _ _ _ _ _ _ _ _ _ _ _ _ _ _ _ _ _ _ _ _ _ _ _ _ _ _ _ _ _ _ _ _ _ _ _ _ _ _ _ _ _ _ _ _ _ _ _ _ _ _ _ _ _ _ _ _ _ _ _ _ _ _ _ _ _ => ((nat_lit 2, { cls := Value.none, data := Data.dict (List.toArray ({ hash := PyData.keyHash P (Str.ofString "\x69mport.loaded._sre"), key := Value.str (Str.ofString "\x69mport.loaded._sre") (183 : Nat), val := Value.bool true } :: { hash := PyData.keyHash P (Str.ofString "class._frozen_\x69mportlib.BuiltinImporter"), key := Value.str (Str.ofString "class._frozen_\x69mportlib.BuiltinImporter") (185 : Nat), val := Value.ref (14 : Nat) } :: { hash := PyData.keyHash P (Str.ofString "watched.\x69mport"), key := Value.str (Str.ofString "watched.\x69mport") (206 : Nat), val := Value.ref (18 : Nat) } :: { hash := PyData.keyHash P (Str.ofString "class._frozen_\x69mportlib.ModuleSpec"), key := Value.str (Str.ofString "class._frozen_\x69mportlib.ModuleSpec") (216 : Nat), val := Value.ref (22 : Nat) } :: { hash := PyData.keyHash P (Str.ofString "sys.modules.booked-epoch"), key := Value.str (Str.ofString "sys.modules.booked-epoch") (245 : Nat), val := Value.int 3 (0 : Nat) } :: { hash := PyData.keyHash P (Str.ofString "\x69mport.later-laid._sre"), key := Value.str (Str.ofString "\x69mport.later-laid._sre") (270 : Nat), val := Value.bool true } :: { hash := PyData.keyHash P (Str.ofString "watched.library"), key := Value.str (Str.ofString "watched.library") (272 : Nat), val := Value.ref (27 : Nat) } :: { hash := PyData.keyHash P (Str.ofString "watched.library-objects"), key := Value.str (Str.ofString "watched.library-objects") (0 : Nat), val := Value.str (Str.ofString "\x0c") (0 : Nat) } :: { hash := PyData.keyHash P (Str.ofString "watched.library-deep._sre"), key := Value.str (Str.ofString "watched.library-deep._sre") (273 : Nat), val := Value.str (Str.ofString "\x04\x00\x00\x0b\x04\x00\x00\x0b\x04\x00\x00\x03\x04\x00\x00\x0b\x08\x04dict\x02") (0 : Nat) } :: [])) 9 }) :: (nat_lit 3, { cls := Value.type "dict", data := Data.dict (List.toArray ({ hash := PyData.keyHash P (Str.ofString "__name__"), key := Value.str (Str.ofString "__name__") (165 : Nat), val := Value.str (Str.ofString "law_wj0041_01") (617 : Nat) } :: { hash := PyData.keyHash P (Str.ofString "__doc__"), key := Value.str (Str.ofString "__doc__") (166 : Nat), val := Value.none } :: { hash := PyData.keyHash P (Str.ofString "__package__"), key := Value.str (Str.ofString "__package__") (167 : Nat), val := Value.none } :: { hash := PyData.keyHash P (Str.ofString "__loader__"), key := Value.str (Str.ofString "__loader__") (168 : Nat), val := Value.builtin "__main__.__loader__#opaque" } :: { hash := PyData.keyHash P (Str.ofString "__spec__"), key := Value.str (Str.ofString "__spec__") (169 : Nat), val := Value.none } :: { hash := PyData.keyHash P (Str.ofString "__annotations__"), key := Value.str (Str.ofString "__annotations__") (170 : Nat), val := Value.ref (6 : Nat) } :: { hash := PyData.keyHash P (Str.ofString "__builtins__"), key := Value.str (Str.ofString "__builtins__") (171 : Nat), val := Value.ref (4 : Nat) } :: { hash := PyData.keyHash P (Str.ofString "__file__"), key := Value.str (Str.ofString "__file__") (173 : Nat), val := Value.str (Str.ofString "/claim/cut.py") (172 : Nat) } :: { hash := PyData.keyHash P (Str.ofString "__cached__"), key := Value.str (Str.ofString "__cached__") (174 : Nat), val := Value.none } :: { hash := PyData.keyHash P (Str.ofString "_sre"), key := Value.str (Str.ofString "_sre") (275 : Nat), val := Value.ref (12 : Nat) } :: { hash := PyData.keyHash P (Str.ofString "_wall"), key := Value.str (Str.ofString "_wall") (288 : Nat), val := Value.ref (38 : Nat) } :: { hash := PyData.keyHash P (Str.ofString "Int2AP"), key := Value.str (Str.ofString "Int2AP") (300 : Nat), val := Value.ref (45 : Nat) } :: { hash := PyData.keyHash P (Str.ofString "xor"), key := Value.str (Str.ofString "xor") (310 : Nat), val := Value.ref (52 : Nat) } :: { hash := PyData.keyHash P (Str.ofString "countOf"), key := Value.str (Str.ofString "countOf") (320 : Nat), val := Value.ref (59 : Nat) } :: { hash := PyData.keyHash P (Str.ofString "ilshift"), key := Value.str (Str.ofString "ilshift") (328 : Nat), val := Value.ref (66 : Nat) } :: { hash := PyData.keyHash P (Str.ofString "_twin_re_1"), key := Value.str (Str.ofString "_twin_re_1") (346 : Nat), val := Value.ref (71 : Nat) } :: { hash := PyData.keyHash P (Str.ofString "_twin_re_2"), key := Value.str (Str.ofString "_twin_re_2") (388 : Nat), val := Value.ref (76 : Nat) } :: { hash := PyData.keyHash P (Str.ofString "CRLF"), key := Value.str (Str.ofString "CRLF") (390 : Nat), val := Value.str (Str.ofString "\x0d\n") (389 : Nat) } :: { hash := PyData.keyHash P (Str.ofString "quotedata"), key := Value.str (Str.ofString "quotedata") (397 : Nat), val := Value.ref (83 : Nat) } :: { hash := PyData.keyHash P (Str.ofString "_name_disallowed_re"), key := Value.str (Str.ofString "_name_disallowed_re") (425 : Nat), val := Value.ref (88 : Nat) } :: { hash := PyData.keyHash P (Str.ofString "_value_disallowed_re"), key := Value.str (Str.ofString "_value_disallowed_re") (459 : Nat), val := Value.ref (93 : Nat) } :: { hash := PyData.keyHash P (Str.ofString "Headers"), key := Value.str (Str.ofString "Headers") (616 : Nat), val := Value.ref (216 : Nat) } :: { hash := PyData.keyHash P (Str.ofString "_law_number"), key := Value.str (Str.ofString "_law_number") (627 : Nat), val := Value.ref (227 : Nat) } :: { hash := PyData.keyHash P (Str.ofString "_law_name"), key := Value.str (Str.ofString "_law_name") (634 : Nat), val := Value.ref (234 : Nat) } :: { hash := PyData.keyHash P (Str.ofString "_law_square"), key := Value.str (Str.ofString "_law_square") (644 : Nat), val := Value.ref (241 : Nat) } :: { hash := PyData.keyHash P (Str.ofString "_law_mail"), key := Value.str (Str.ofString "_law_mail") (656 : Nat), val := Value.ref (248 : Nat) } :: { hash := PyData.keyHash P (Str.ofString "_law_heard"), key := Value.str (Str.ofString "_law_heard") (666 : Nat), val := Value.ref (255 : Nat) } :: { hash := PyData.keyHash P (Str.ofString "_law_lay"), key := Value.str (Str.ofString "_law_lay") (681 : Nat), val := Value.ref (262 : Nat) } :: { hash := PyData.keyHash P (Str.ofString "_law_sums"), key := Value.str (Str.ofString "_law_sums") (687 : Nat), val := Value.ref (267 : Nat) } :: { hash := PyData.keyHash P (Str.ofString "_law_powers"), key := Value.str (Str.ofString "_law_powers") (696 : Nat), val := Value.ref (274 : Nat) } :: { hash := PyData.keyHash P (Str.ofString "_law_product"), key := Value.str (Str.ofString "_law_product") (705 : Nat), val := Value.ref (281 : Nat) } :: { hash := PyData.keyHash P (Str.ofString "_law_determinant"), key := Value.str (Str.ofString "_law_determinant") (711 : Nat), val := Value.ref (286 : Nat) } :: { hash := PyData.keyHash P (Str.ofString "_law_all"), key := Value.str (Str.ofString "_law_all") (721 : Nat), val := Value.ref (293 : Nat) } :: { hash := PyData.keyHash P (Str.ofString "law"), key := Value.str (Str.ofString "law") (727 : Nat), val := Value.ref (298 : Nat) } :: [])) 34 }) :: (nat_lit 32, { cls := Value.type "tuple", data := Data.seq #[] }) :: (nat_lit 34, { cls := Value.type "tuple", data := Data.seq #[Value.str (Str.ofString "k") (285 : Nat)] }) :: (nat_lit 35, { cls := Value.type "tuple", data := Data.seq #[] }) :: (nat_lit 37, { cls := Value.type "code", data := Data.fields (List.toArray (Value.str (Str.ofString "_wall") (282 : Nat) :: Value.str (Str.ofString "_wall") (283 : Nat) :: Value.str (Str.ofString "/claim/cut.py") (284 : Nat) :: Value.int 2 (0 : Nat) :: Value.int 1 (0 : Nat) :: Value.int 0 (0 : Nat) :: Value.int 0 (0 : Nat) :: Value.int 3 (0 : Nat) :: Value.ref (32 : Nat) :: Value.bool true :: Value.int 276 (0 : Nat) :: Value.ref (33 : Nat) :: Value.none :: Value.ref (34 : Nat) :: Value.ref (35 : Nat) :: Value.ref (36 : Nat) :: Value.int 286 (0 : Nat) :: Value.int 2 (0 : Nat) :: Value.str (Str.ofString "/claim/cut.py") (287 : Nat) :: [])) }) :: (nat_lit 38, { cls := Value.type "function", data := Data.func { name := Str.ofString "_wall", qualname := Str.ofString "_wall", params := p0, body := FuncBody.stmts b0, scope := s0, globals := (3 : Nat), closure := [], defaults := Value.none, kwdefaults := Value.none, pyModule := Value.str (Str.ofString "__main__") (164 : Nat), code := Value.ref (37 : Nat) } }) :: (nat_lit 39, { cls := Value.type "tuple", data := Data.seq #[] }) :: (nat_lit 41, { cls := Value.type "tuple", data := Data.seq #[Value.str (Str.ofString "num") (294 : Nat), Value.str (Str.ofString "val") (295 : Nat), Value.str (Str.ofString "AP") (296 : Nat), Value.str (Str.ofString "mod") (297 : Nat)] }) :: (nat_lit 42, { cls := Value.type "tuple", data := Data.seq #[] }) :: (nat_lit 44, { cls := Value.type "code", data := Data.fields (List.toArray (Value.str (Str.ofString "Int2AP") (291 : Nat) :: Value.str (Str.ofString "Int2AP") (292 : Nat) :: Value.str (Str.ofString "/claim/cut.py") (293 : Nat) :: Value.int 6 (0 : Nat) :: Value.int 1 (0 : Nat) :: Value.int 0 (0 : Nat) :: Value.int 0 (0 : Nat) :: Value.int 3 (0 : Nat) :: Value.ref (39 : Nat) :: Value.bool true :: Value.int 276 (0 : Nat) :: Value.ref (40 : Nat) :: Value.none :: Value.ref (41 : Nat) :: Value.ref (42 : Nat) :: Value.ref (43 : Nat) :: Value.int 298 (0 : Nat) :: Value.int 6 (0 : Nat) :: Value.str (Str.ofString "/claim/cut.py") (299 : Nat) :: [])) }) :: (nat_lit 45, { cls := Value.type "function", data := Data.func { name := Str.ofString "Int2AP", qualname := Str.ofString "Int2AP", params := p1, body := FuncBody.stmts b1, scope := s1, globals := (3 : Nat), closure := [], defaults := Value.none, kwdefaults := Value.none, pyModule := Value.str (Str.ofString "cpy313.imaplib") (289 : Nat), code := Value.ref (44 : Nat) } }) :: (nat_lit 46, { cls := Value.type "tuple", data := Data.seq #[] }) :: (nat_lit 48, { cls := Value.type "tuple", data := Data.seq #[Value.str (Str.ofString "a") (306 : Nat), Value.str (Str.ofString "b") (307 : Nat)] }) :: (nat_lit 49, { cls := Value.type "tuple", data := Data.seq #[] }) :: (nat_lit 51, { cls := Value.type "code", data := Data.fields (List.toArray (Value.str (Str.ofString "xor") (303 : Nat) :: Value.str (Str.ofString "xor") (304 : Nat) :: Value.str (Str.ofString "/claim/cut.py") (305 : Nat) :: Value.int 15 (0 : Nat) :: Value.int 2 (0 : Nat) :: Value.int 0 (0 : Nat) :: Value.int 0 (0 : Nat) :: Value.int 3 (0 : Nat) :: Value.ref (46 : Nat) :: Value.bool true :: Value.int 276 (0 : Nat) :: Value.ref (47 : Nat) :: Value.none :: Value.ref (48 : Nat) :: Value.ref (49 : Nat) :: Value.ref (50 : Nat) :: Value.int 308 (0 : Nat) :: Value.int 15 (0 : Nat) :: Value.str (Str.ofString "/claim/cut.py") (309 : Nat) :: [])) }) :: (nat_lit 52, { cls := Value.type "function", data := Data.func { name := Str.ofString "xor", qualname := Str.ofString "xor", params := p2, body := FuncBody.stmts b2, scope := s2, globals := (3 : Nat), closure := [], defaults := Value.none, kwdefaults := Value.none, pyModule := Value.str (Str.ofString "cpy313.operator") (301 : Nat), code := Value.ref (51 : Nat) } }) :: (nat_lit 53, { cls := Value.type "tuple", data := Data.seq #[] }) :: (nat_lit 55, { cls := Value.type "tuple", data := Data.seq #[Value.str (Str.ofString "a") (314 : Nat), Value.str (Str.ofString "b") (315 : Nat), Value.str (Str.ofString "count") (316 : Nat), Value.str (Str.ofString "i") (317 : Nat)] }) :: (nat_lit 56, { cls := Value.type "tuple", data := Data.seq #[] }) :: (nat_lit 58, { cls := Value.type "code", data := Data.fields (List.toArray (Value.str (Str.ofString "countOf") (311 : Nat) :: Value.str (Str.ofString "countOf") (312 : Nat) :: Value.str (Str.ofString "/claim/cut.py") (313 : Nat) :: Value.int 17 (0 : Nat) :: Value.int 2 (0 : Nat) :: Value.int 0 (0 : Nat) :: Value.int 0 (0 : Nat) :: Value.int 3 (0 : Nat) :: Value.ref (53 : Nat) :: Value.bool true :: Value.int 276 (0 : Nat) :: Value.ref (54 : Nat) :: Value.none :: Value.ref (55 : Nat) :: Value.ref (56 : Nat) :: Value.ref (57 : Nat) :: Value.int 318 (0 : Nat) :: Value.int 17 (0 : Nat) :: Value.str (Str.ofString "/claim/cut.py") (319 : Nat) :: [])) }) :: (nat_lit 59, { cls := Value.type "function", data := Data.func { name := Str.ofString "countOf", qualname := Str.ofString "countOf", params := p3, body := FuncBody.stmts b3, scope := s3, globals := (3 : Nat), closure := [], defaults := Value.none, kwdefaults := Value.none, pyModule := Value.str (Str.ofString "cpy313.operator") (301 : Nat), code := Value.ref (58 : Nat) } }) :: (nat_lit 60, { cls := Value.type "tuple", data := Data.seq #[] }) :: (nat_lit 62, { cls := Value.type "tuple", data := Data.seq #[Value.str (Str.ofString "a") (324 : Nat), Value.str (Str.ofString "b") (325 : Nat)] }) :: (nat_lit 63, { cls := Value.type "tuple", data := Data.seq #[] }) :: (nat_lit 65, { cls := Value.type "code", data := Data.fields (List.toArray (Value.str (Str.ofString "ilshift") (321 : Nat) :: Value.str (Str.ofString "ilshift") (322 : Nat) :: Value.str (Str.ofString "/claim/cut.py") (323 : Nat) :: Value.int 23 (0 : Nat) :: Value.int 2 (0 : Nat) :: Value.int 0 (0 : Nat) :: Value.int 0 (0 : Nat) :: Value.int 3 (0 : Nat) :: Value.ref (60 : Nat) :: Value.bool true :: Value.int 276 (0 : Nat) :: Value.ref (61 : Nat) :: Value.none :: Value.ref (62 : Nat) :: Value.ref (63 : Nat) :: Value.ref (64 : Nat) :: Value.int 326 (0 : Nat) :: Value.int 23 (0 : Nat) :: Value.str (Str.ofString "/claim/cut.py") (327 : Nat) :: [])) }) :: (nat_lit 66, { cls := Value.type "function", data := Data.func { name := Str.ofString "ilshift", qualname := Str.ofString "ilshift", params := p4, body := FuncBody.stmts b4, scope := s4, globals := (3 : Nat), closure := [], defaults := Value.none, kwdefaults := Value.none, pyModule := Value.str (Str.ofString "cpy313.operator") (301 : Nat), code := Value.ref (65 : Nat) } }) :: (nat_lit 70, { cls := Value.type "tuple", data := Data.seq (List.toArray (Value.int 14 (0 : Nat) :: Value.int 4 (0 : Nat) :: Value.int 0 (0 : Nat) :: Value.int 1 (0 : Nat) :: Value.int 1 (0 : Nat) :: Value.int 6 (0 : Nat) :: Value.int 1 (0 : Nat) :: Value.int 16 (0 : Nat) :: Value.int 46 (0 : Nat) :: Value.int 1 (0 : Nat) :: [])) }) :: (nat_lit 71, { cls := Value.type "re.Pattern", data := Data.fields #[Value.str (Str.ofString "(?m)^\\.") (332 : Nat), Value.int 40 (345 : Nat), Value.int 0 (0 : Nat), Value.none, Value.none, Value.ref (70 : Nat), Value.int 0 (0 : Nat)] }) :: (nat_lit 75, { cls := Value.type "tuple", data := Data.seq (List.toArray (Value.int 14 (0 : Nat) :: Value.int 9 (0 : Nat) :: Value.int 4 (0 : Nat) :: Value.int 1 (0 : Nat) :: Value.int 2 (0 : Nat) :: Value.int 16 (0 : Nat) :: Value.int 10 (0 : Nat) :: Value.int 16 (0 : Nat) :: Value.int 13 (0 : Nat) :: Value.int 0 (0 : Nat) :: Value.int 7 (0 : Nat) :: Value.int 7 (0 : Nat) :: Value.int 16 (0 : Nat) :: Value.int 13 (0 : Nat) :: Value.int 16 (0 : Nat) :: Value.int 10 (0 : Nat) :: Value.int 15 (0 : Nat) :: Value.int 18 (0 : Nat) :: Value.int 5 (0 : Nat) :: Value.int 16 (0 : Nat) :: Value.int 10 (0 : Nat) :: Value.int 15 (0 : Nat) :: Value.int 13 (0 : Nat) :: Value.int 11 (0 : Nat) :: Value.int 16 (0 : Nat) :: Value.int 13 (0 : Nat) :: Value.int 5 (0 : Nat) :: Value.int 5 (0 : Nat) :: Value.int 0 (0 : Nat) :: Value.int 16 (0 : Nat) :: Value.int 10 (0 : Nat) :: Value.int 1 (0 : Nat) :: Value.int 15 (0 : Nat) :: Value.int 2 (0 : Nat) :: Value.int 0 (0 : Nat) :: Value.int 1 (0 : Nat) :: [])) }) :: (nat_lit 76, { cls := Value.type "re.Pattern", data := Data.fields #[Value.str (Str.ofString "(?:\\r\\n|\\n|\\r(?!\\n))") (348 : Nat), Value.int 32 (387 : Nat), Value.int 0 (0 : Nat), Value.none, Value.none, Value.ref (75 : Nat), Value.int 0 (0 : Nat)] }) :: (nat_lit 77, { cls := Value.type "tuple", data := Data.seq #[] }) :: (nat_lit 79, { cls := Value.type "tuple", data := Data.seq #[Value.str (Str.ofString "data") (394 : Nat)] }) :: (nat_lit 80, { cls := Value.type "tuple", data := Data.seq #[] }) :: (nat_lit 82, { cls := Value.type "code", data := Data.fields (List.toArray (Value.str (Str.ofString "quotedata") (391 : Nat) :: Value.str (Str.ofString "quotedata") (392 : Nat) :: Value.str (Str.ofString "/claim/cut.py") (393 : Nat) :: Value.int 30 (0 : Nat) :: Value.int 1 (0 : Nat) :: Value.int 0 (0 : Nat) :: Value.int 0 (0 : Nat) :: Value.int 3 (0 : Nat) :: Value.ref (77 : Nat) :: Value.bool true :: Value.int 276 (0 : Nat) :: Value.ref (78 : Nat) :: Value.none :: Value.ref (79 : Nat) :: Value.ref (80 : Nat) :: Value.ref (81 : Nat) :: Value.int 395 (0 : Nat) :: Value.int 30 (0 : Nat) :: Value.str (Str.ofString "/claim/cut.py") (396 : Nat) :: [])) }) :: (nat_lit 83, { cls := Value.type "function", data := Data.func { name := Str.ofString "quotedata", qualname := Str.ofString "quotedata", params := p5, body := FuncBody.stmts b5, scope := s5, globals := (3 : Nat), closure := [], defaults := Value.none, kwdefaults := Value.none, pyModule := Value.str (Str.ofString "cpy313.smtplib") (329 : Nat), code := Value.ref (82 : Nat) } }) :: (nat_lit 87, { cls := Value.type "tuple", data := Data.seq (List.toArray (Value.int 14 (0 : Nat) :: Value.int 10 (0 : Nat) :: Value.int 4 (0 : Nat) :: Value.int 1 (0 : Nat) :: Value.int 1 (0 : Nat) :: Value.int 22 (0 : Nat) :: Value.int 0 (0 : Nat) :: Value.int 31 (0 : Nat) :: Value.int 16 (0 : Nat) :: Value.int 127 (0 : Nat) :: Value.int 0 (0 : Nat) :: Value.int 13 (0 : Nat) :: Value.int 7 (0 : Nat) :: Value.int 22 (0 : Nat) :: Value.int 0 (0 : Nat) :: Value.int 31 (0 : Nat) :: Value.int 16 (0 : Nat) :: Value.int 127 (0 : Nat) :: Value.int 0 (0 : Nat) :: Value.int 1 (0 : Nat) :: [])) }) :: (nat_lit 88, { cls := Value.type "re.Pattern", data := Data.fields #[Value.str (Str.ofString "[\\x00-\\x1F\\x7F]") (401 : Nat), Value.int 32 (424 : Nat), Value.int 0 (0 : Nat), Value.none, Value.none, Value.ref (87 : Nat), Value.int 0 (0 : Nat)] }) :: (nat_lit 92, { cls := Value.type "tuple", data := Data.seq (List.toArray (Value.int 14 (0 : Nat) :: Value.int 14 (0 : Nat) :: Value.int 4 (0 : Nat) :: Value.int 1 (0 : Nat) :: Value.int 1 (0 : Nat) :: Value.int 9 (0 : Nat) :: Value.int 4294966783 (0 : Nat) :: Value.int 0 (0 : Nat) :: Value.int 0 (0 : Nat) :: Value.int 2147483648 (0 : Nat) :: Value.int 0 (0 : Nat) :: Value.int 0 (0 : Nat) :: Value.int 0 (0 : Nat) :: Value.int 0 (0 : Nat) :: Value.int 0 (0 : Nat) :: Value.int 13 (0 : Nat) :: Value.int 11 (0 : Nat) :: Value.int 9 (0 : Nat) :: Value.int 4294966783 (0 : Nat) :: Value.int 0 (0 : Nat) :: Value.int 0 (0 : Nat) :: Value.int 2147483648 (0 : Nat) :: Value.int 0 (0 : Nat) :: Value.int 0 (0 : Nat) :: Value.int 0 (0 : Nat) :: Value.int 0 (0 : Nat) :: Value.int 0 (0 : Nat) :: Value.int 1 (0 : Nat) :: [])) }) :: (nat_lit 93, { cls := Value.type "re.Pattern", data := Data.fields #[Value.str (Str.ofString "[\\x00-\\x08\\x0A-\\x1F\\x7F]") (427 : Nat), Value.int 32 (458 : Nat), Value.int 0 (0 : Nat), Value.none, Value.none, Value.ref (92 : Nat), Value.int 0 (0 : Nat)] }) :: (nat_lit 101, { cls := Value.type "tuple", data := Data.seq #[Value.none] }) :: (nat_lit 102, { cls := Value.type "tuple", data := Data.seq #[] }) :: (nat_lit 104, { cls := Value.type "tuple", data := Data.seq #[Value.str (Str.ofString "self") (475 : Nat), Value.str (Str.ofString "headers") (476 : Nat), Value.str (Str.ofString "k") (477 : Nat), Value.str (Str.ofString "v") (478 : Nat)] }) :: (nat_lit 105, { cls := Value.type "tuple", data := Data.seq #[] }) :: (nat_lit 107, { cls := Value.type "code", data := Data.fields (List.toArray (Value.str (Str.ofString "__init__") (472 : Nat) :: Value.str (Str.ofString "Headers.__init__") (473 : Nat) :: Value.str (Str.ofString "/claim/cut.py") (474 : Nat) :: Value.int 37 (0 : Nat) :: Value.int 2 (0 : Nat) :: Value.int 0 (0 : Nat) :: Value.int 0 (0 : Nat) :: Value.int 3 (0 : Nat) :: Value.ref (102 : Nat) :: Value.bool true :: Value.int 276 (0 : Nat) :: Value.ref (103 : Nat) :: Value.none :: Value.ref (104 : Nat) :: Value.ref (105 : Nat) :: Value.ref (106 : Nat) :: Value.int 479 (0 : Nat) :: Value.int 37 (0 : Nat) :: Value.str (Str.ofString "/claim/cut.py") (480 : Nat) :: [])) }) :: (nat_lit 108, { cls := Value.type "function", data := Data.func { name := Str.ofString "__init__", qualname := Str.ofString "Headers.__init__", params := p6, body := FuncBody.stmts b6, scope := s6, globals := (3 : Nat), closure := [], defaults := Value.ref (101 : Nat), kwdefaults := Value.none, pyModule := Value.str (Str.ofString "cpy313.wsgiref.headers") (398 : Nat), code := Value.ref (107 : Nat) } }) :: (nat_lit 109, { cls := Value.type "tuple", data := Data.seq #[] }) :: (nat_lit 111, { cls := Value.type "tuple", data := Data.seq #[Value.str (Str.ofString "self") (485 : Nat), Value.str (Str.ofString "value") (486 : Nat), Value.str (Str.ofString "name") (487 : Nat), Value.str (Str.ofString "regex") (488 : Nat)] }) :: (nat_lit 112, { cls := Value.type "tuple", data := Data.seq #[] }) :: (nat_lit 114, { cls := Value.type "code", data := Data.fields (List.toArray (Value.str (Str.ofString "_convert_string_type") (482 : Nat) :: Value.str (Str.ofString "Headers._convert_string_type") (483 : Nat) :: Value.str (Str.ofString "/claim/cut.py") (484 : Nat) :: Value.int 47 (0 : Nat) :: Value.int 2 (0 : Nat) :: Value.int 0 (0 : Nat) :: Value.int 1 (0 : Nat) :: Value.int 3 (0 : Nat) :: Value.ref (109 : Nat) :: Value.bool true :: Value.int 276 (0 : Nat) :: Value.ref (110 : Nat) :: Value.none :: Value.ref (111 : Nat) :: Value.ref (112 : Nat) :: Value.ref (113 : Nat) :: Value.int 489 (0 : Nat) :: Value.int 47 (0 : Nat) :: Value.str (Str.ofString "/claim/cut.py") (490 : Nat) :: [])) }) :: (nat_lit 115, { cls := Value.type "function", data := Data.func { name := Str.ofString "_convert_string_type", qualname := Str.ofString "Headers._convert_string_type", params := p7, body := FuncBody.stmts b7, scope := s7, globals := (3 : Nat), closure := [], defaults := Value.none, kwdefaults := Value.none, pyModule := Value.str (Str.ofString "cpy313.wsgiref.headers") (398 : Nat), code := Value.ref (114 : Nat) } }) :: (nat_lit 116, { cls := Value.type "tuple", data := Data.seq #[] }) :: (nat_lit 118, { cls := Value.type "tuple", data := Data.seq #[Value.str (Str.ofString "self") (495 : Nat)] }) :: (nat_lit 119, { cls := Value.type "tuple", data := Data.seq #[] }) :: (nat_lit 121, { cls := Value.type "code", data := Data.fields (List.toArray (Value.str (Str.ofString "__len__") (492 : Nat) :: Value.str (Str.ofString "Headers.__len__") (493 : Nat) :: Value.str (Str.ofString "/claim/cut.py") (494 : Nat) :: Value.int 55 (0 : Nat) :: Value.int 1 (0 : Nat) :: Value.int 0 (0 : Nat) :: Value.int 0 (0 : Nat) :: Value.int 3 (0 : Nat) :: Value.ref (116 : Nat) :: Value.bool true :: Value.int 276 (0 : Nat) :: Value.ref (117 : Nat) :: Value.none :: Value.ref (118 : Nat) :: Value.ref (119 : Nat) :: Value.ref (120 : Nat) :: Value.int 496 (0 : Nat) :: Value.int 55 (0 : Nat) :: Value.str (Str.ofString "/claim/cut.py") (497 : Nat) :: [])) }) :: (nat_lit 122, { cls := Value.type "function", data := Data.func { name := Str.ofString "__len__", qualname := Str.ofString "Headers.__len__", params := p8, body := FuncBody.stmts b8, scope := s8, globals := (3 : Nat), closure := [], defaults := Value.none, kwdefaults := Value.none, pyModule := Value.str (Str.ofString "cpy313.wsgiref.headers") (398 : Nat), code := Value.ref (121 : Nat) } }) :: (nat_lit 123, { cls := Value.type "tuple", data := Data.seq #[] }) :: (nat_lit 125, { cls := Value.type "tuple", data := Data.seq #[Value.str (Str.ofString "self") (502 : Nat), Value.str (Str.ofString "name") (503 : Nat), Value.str (Str.ofString "val") (504 : Nat)] }) :: (nat_lit 126, { cls := Value.type "tuple", data := Data.seq #[] }) :: (nat_lit 128, { cls := Value.type "code", data := Data.fields (List.toArray (Value.str (Str.ofString "__setitem__") (499 : Nat) :: Value.str (Str.ofString "Headers.__setitem__") (500 : Nat) :: Value.str (Str.ofString "/claim/cut.py") (501 : Nat) :: Value.int 58 (0 : Nat) :: Value.int 3 (0 : Nat) :: Value.int 0 (0 : Nat) :: Value.int 0 (0 : Nat) :: Value.int 3 (0 : Nat) :: Value.ref (123 : Nat) :: Value.bool true :: Value.int 276 (0 : Nat) :: Value.ref (124 : Nat) :: Value.none :: Value.ref (125 : Nat) :: Value.ref (126 : Nat) :: Value.ref (127 : Nat) :: Value.int 505 (0 : Nat) :: Value.int 58 (0 : Nat) :: Value.str (Str.ofString "/claim/cut.py") (506 : Nat) :: [])) }) :: (nat_lit 129, { cls := Value.type "function", data := Data.func { name := Str.ofString "__setitem__", qualname := Str.ofString "Headers.__setitem__", params := p9, body := FuncBody.stmts b9, scope := s9, globals := (3 : Nat), closure := [], defaults := Value.none, kwdefaults := Value.none, pyModule := Value.str (Str.ofString "cpy313.wsgiref.headers") (398 : Nat), code := Value.ref (128 : Nat) } }) :: (nat_lit 130, { cls := Value.type "tuple", data := Data.seq #[] }) :: (nat_lit 133, { cls := Value.type "code", data := Data.fields (List.toArray (Value.str (Str.ofString "__delitem__") (508 : Nat) :: Value.str (Str.ofString "Headers.__delitem__") (509 : Nat) :: Value.str (Str.ofString "/claim/cut.py") (510 : Nat) :: Value.int 62 (0 : Nat) :: Value.int 2 (0 : Nat) :: Value.int 0 (0 : Nat) :: Value.int 0 (0 : Nat) :: Value.int 3 (0 : Nat) :: Value.ref (130 : Nat) :: Value.bool true :: Value.int 276 (0 : Nat) :: Value.ref (131 : Nat) :: Value.none :: Value.none :: Value.none :: Value.ref (132 : Nat) :: Value.int 511 (0 : Nat) :: Value.int 62 (0 : Nat) :: Value.str (Str.ofString "/claim/cut.py") (512 : Nat) :: [])) }) :: (nat_lit 134, { cls := Value.type "function", data := Data.func { name := Str.ofString "__delitem__", qualname := Str.ofString "Headers.__delitem__", params := p10, body := FuncBody.stmts b10, scope := s10, globals := (3 : Nat), closure := [], defaults := Value.none, kwdefaults := Value.none, pyModule := Value.str (Str.ofString "cpy313.wsgiref.headers") (398 : Nat), code := Value.ref (133 : Nat) } }) :: (nat_lit 135, { cls := Value.type "tuple", data := Data.seq #[] }) :: (nat_lit 137, { cls := Value.type "tuple", data := Data.seq #[Value.str (Str.ofString "self") (517 : Nat), Value.str (Str.ofString "name") (518 : Nat)] }) :: (nat_lit 138, { cls := Value.type "tuple", data := Data.seq #[] }) :: (nat_lit 140, { cls := Value.type "code", data := Data.fields (List.toArray (Value.str (Str.ofString "__getitem__") (514 : Nat) :: Value.str (Str.ofString "Headers.__getitem__") (515 : Nat) :: Value.str (Str.ofString "/claim/cut.py") (516 : Nat) :: Value.int 66 (0 : Nat) :: Value.int 2 (0 : Nat) :: Value.int 0 (0 : Nat) :: Value.int 0 (0 : Nat) :: Value.int 3 (0 : Nat) :: Value.ref (135 : Nat) :: Value.bool true :: Value.int 276 (0 : Nat) :: Value.ref (136 : Nat) :: Value.none :: Value.ref (137 : Nat) :: Value.ref (138 : Nat) :: Value.ref (139 : Nat) :: Value.int 519 (0 : Nat) :: Value.int 66 (0 : Nat) :: Value.str (Str.ofString "/claim/cut.py") (520 : Nat) :: [])) }) :: (nat_lit 141, { cls := Value.type "function", data := Data.func { name := Str.ofString "__getitem__", qualname := Str.ofString "Headers.__getitem__", params := p11, body := FuncBody.stmts b11, scope := s11, globals := (3 : Nat), closure := [], defaults := Value.none, kwdefaults := Value.none, pyModule := Value.str (Str.ofString "cpy313.wsgiref.headers") (398 : Nat), code := Value.ref (140 : Nat) } }) :: (nat_lit 142, { cls := Value.type "tuple", data := Data.seq #[] }) :: (nat_lit 144, { cls := Value.type "tuple", data := Data.seq #[Value.str (Str.ofString "self") (525 : Nat), Value.str (Str.ofString "name") (526 : Nat)] }) :: (nat_lit 145, { cls := Value.type "tuple", data := Data.seq #[] }) :: (nat_lit 147, { cls := Value.type "code", data := Data.fields (List.toArray (Value.str (Str.ofString "__contains__") (522 : Nat) :: Value.str (Str.ofString "Headers.__contains__") (523 : Nat) :: Value.str (Str.ofString "/claim/cut.py") (524 : Nat) :: Value.int 69 (0 : Nat) :: Value.int 2 (0 : Nat) :: Value.int 0 (0 : Nat) :: Value.int 0 (0 : Nat) :: Value.int 3 (0 : Nat) :: Value.ref (142 : Nat) :: Value.bool true :: Value.int 276 (0 : Nat) :: Value.ref (143 : Nat) :: Value.none :: Value.ref (144 : Nat) :: Value.ref (145 : Nat) :: Value.ref (146 : Nat) :: Value.int 527 (0 : Nat) :: Value.int 69 (0 : Nat) :: Value.str (Str.ofString "/claim/cut.py") (528 : Nat) :: [])) }) :: (nat_lit 148, { cls := Value.type "function", data := Data.func { name := Str.ofString "__contains__", qualname := Str.ofString "Headers.__contains__", params := p12, body := FuncBody.stmts b12, scope := s12, globals := (3 : Nat), closure := [], defaults := Value.none, kwdefaults := Value.none, pyModule := Value.str (Str.ofString "cpy313.wsgiref.headers") (398 : Nat), code := Value.ref (147 : Nat) } }) :: (nat_lit 149, { cls := Value.type "tuple", data := Data.seq #[] }) :: (nat_lit 151, { cls := Value.type "tuple", data := Data.seq #[Value.str (Str.ofString "self") (533 : Nat), Value.str (Str.ofString "name") (534 : Nat)] }) :: (nat_lit 152, { cls := Value.type "tuple", data := Data.seq #[] }) :: (nat_lit 154, { cls := Value.type "code", data := Data.fields (List.toArray (Value.str (Str.ofString "get_all") (530 : Nat) :: Value.str (Str.ofString "Headers.get_all") (531 : Nat) :: Value.str (Str.ofString "/claim/cut.py") (532 : Nat) :: Value.int 72 (0 : Nat) :: Value.int 2 (0 : Nat) :: Value.int 0 (0 : Nat) :: Value.int 0 (0 : Nat) :: Value.int 3 (0 : Nat) :: Value.ref (149 : Nat) :: Value.bool true :: Value.int 276 (0 : Nat) :: Value.ref (150 : Nat) :: Value.none :: Value.ref (151 : Nat) :: Value.ref (152 : Nat) :: Value.ref (153 : Nat) :: Value.int 535 (0 : Nat) :: Value.int 72 (0 : Nat) :: Value.str (Str.ofString "/claim/cut.py") (536 : Nat) :: [])) }) :: (nat_lit 155, { cls := Value.type "function", data := Data.func { name := Str.ofString "get_all", qualname := Str.ofString "Headers.get_all", params := p13, body := FuncBody.stmts b13, scope := s13, globals := (3 : Nat), closure := [], defaults := Value.none, kwdefaults := Value.none, pyModule := Value.str (Str.ofString "cpy313.wsgiref.headers") (398 : Nat), code := Value.ref (154 : Nat) } }) :: (nat_lit 156, { cls := Value.type "tuple", data := Data.seq #[Value.none] }) :: (nat_lit 157, { cls := Value.type "tuple", data := Data.seq #[] }) :: (nat_lit 159, { cls := Value.type "tuple", data := Data.seq #[Value.str (Str.ofString "self") (541 : Nat), Value.str (Str.ofString "name") (542 : Nat), Value.str (Str.ofString "default") (543 : Nat), Value.str (Str.ofString "k") (544 : Nat), Value.str (Str.ofString "v") (545 : Nat)] }) :: (nat_lit 160, { cls := Value.type "tuple", data := Data.seq #[] }) :: (nat_lit 162, { cls := Value.type "code", data := Data.fields (List.toArray (Value.str (Str.ofString "get") (538 : Nat) :: Value.str (Str.ofString "Headers.get") (539 : Nat) :: Value.str (Str.ofString "/claim/cut.py") (540 : Nat) :: Value.int 75 (0 : Nat) :: Value.int 3 (0 : Nat) :: Value.int 0 (0 : Nat) :: Value.int 0 (0 : Nat) :: Value.int 3 (0 : Nat) :: Value.ref (157 : Nat) :: Value.bool true :: Value.int 276 (0 : Nat) :: Value.ref (158 : Nat) :: Value.none :: Value.ref (159 : Nat) :: Value.ref (160 : Nat) :: Value.ref (161 : Nat) :: Value.int 546 (0 : Nat) :: Value.int 75 (0 : Nat) :: Value.str (Str.ofString "/claim/cut.py") (547 : Nat) :: [])) }) :: (nat_lit 163, { cls := Value.type "function", data := Data.func { name := Str.ofString "get", qualname := Str.ofString "Headers.get", params := p14, body := FuncBody.stmts b14, scope := s14, globals := (3 : Nat), closure := [], defaults := Value.ref (156 : Nat), kwdefaults := Value.none, pyModule := Value.str (Str.ofString "cpy313.wsgiref.headers") (398 : Nat), code := Value.ref (162 : Nat) } }) :: (nat_lit 164, { cls := Value.type "tuple", data := Data.seq #[] }) :: (nat_lit 167, { cls := Value.type "code", data := Data.fields (List.toArray (Value.str (Str.ofString "keys") (549 : Nat) :: Value.str (Str.ofString "Headers.keys") (550 : Nat) :: Value.str (Str.ofString "/claim/cut.py") (551 : Nat) :: Value.int 82 (0 : Nat) :: Value.int 1 (0 : Nat) :: Value.int 0 (0 : Nat) :: Value.int 0 (0 : Nat) :: Value.int 3 (0 : Nat) :: Value.ref (164 : Nat) :: Value.bool true :: Value.int 276 (0 : Nat) :: Value.ref (165 : Nat) :: Value.none :: Value.none :: Value.none :: Value.ref (166 : Nat) :: Value.int 552 (0 : Nat) :: Value.int 82 (0 : Nat) :: Value.str (Str.ofString "/claim/cut.py") (553 : Nat) :: [])) }) :: (nat_lit 168, { cls := Value.type "function", data := Data.func { name := Str.ofString "keys", qualname := Str.ofString "Headers.keys", params := p15, body := FuncBody.stmts b15, scope := s15, globals := (3 : Nat), closure := [], defaults := Value.none, kwdefaults := Value.none, pyModule := Value.str (Str.ofString "cpy313.wsgiref.headers") (398 : Nat), code := Value.ref (167 : Nat) } }) :: (nat_lit 169, { cls := Value.type "tuple", data := Data.seq #[] }) :: (nat_lit 172, { cls := Value.type "code", data := Data.fields (List.toArray (Value.str (Str.ofString "values") (555 : Nat) :: Value.str (Str.ofString "Headers.values") (556 : Nat) :: Value.str (Str.ofString "/claim/cut.py") (557 : Nat) :: Value.int 85 (0 : Nat) :: Value.int 1 (0 : Nat) :: Value.int 0 (0 : Nat) :: Value.int 0 (0 : Nat) :: Value.int 3 (0 : Nat) :: Value.ref (169 : Nat) :: Value.bool true :: Value.int 276 (0 : Nat) :: Value.ref (170 : Nat) :: Value.none :: Value.none :: Value.none :: Value.ref (171 : Nat) :: Value.int 558 (0 : Nat) :: Value.int 85 (0 : Nat) :: Value.str (Str.ofString "/claim/cut.py") (559 : Nat) :: [])) }) :: (nat_lit 173, { cls := Value.type "function", data := Data.func { name := Str.ofString "values", qualname := Str.ofString "Headers.values", params := p16, body := FuncBody.stmts b16, scope := s16, globals := (3 : Nat), closure := [], defaults := Value.none, kwdefaults := Value.none, pyModule := Value.str (Str.ofString "cpy313.wsgiref.headers") (398 : Nat), code := Value.ref (172 : Nat) } }) :: (nat_lit 174, { cls := Value.type "tuple", data := Data.seq #[] }) :: (nat_lit 176, { cls := Value.type "tuple", data := Data.seq #[Value.str (Str.ofString "self") (564 : Nat)] }) :: (nat_lit 177, { cls := Value.type "tuple", data := Data.seq #[] }) :: (nat_lit 179, { cls := Value.type "code", data := Data.fields (List.toArray (Value.str (Str.ofString "items") (561 : Nat) :: Value.str (Str.ofString "Headers.items") (562 : Nat) :: Value.str (Str.ofString "/claim/cut.py") (563 : Nat) :: Value.int 88 (0 : Nat) :: Value.int 1 (0 : Nat) :: Value.int 0 (0 : Nat) :: Value.int 0 (0 : Nat) :: Value.int 3 (0 : Nat) :: Value.ref (174 : Nat) :: Value.bool true :: Value.int 276 (0 : Nat) :: Value.ref (175 : Nat) :: Value.none :: Value.ref (176 : Nat) :: Value.ref (177 : Nat) :: Value.ref (178 : Nat) :: Value.int 565 (0 : Nat) :: Value.int 88 (0 : Nat) :: Value.str (Str.ofString "/claim/cut.py") (566 : Nat) :: [])) }) :: (nat_lit 180, { cls := Value.type "function", data := Data.func { name := Str.ofString "items", qualname := Str.ofString "Headers.items", params := p17, body := FuncBody.stmts b17, scope := s17, globals := (3 : Nat), closure := [], defaults := Value.none, kwdefaults := Value.none, pyModule := Value.str (Str.ofString "cpy313.wsgiref.headers") (398 : Nat), code := Value.ref (179 : Nat) } }) :: (nat_lit 181, { cls := Value.type "tuple", data := Data.seq #[] }) :: (nat_lit 183, { cls := Value.type "tuple", data := Data.seq #[Value.str (Str.ofString "self") (571 : Nat)] }) :: (nat_lit 184, { cls := Value.type "tuple", data := Data.seq #[] }) :: (nat_lit 186, { cls := Value.type "code", data := Data.fields (List.toArray (Value.str (Str.ofString "__repr__") (568 : Nat) :: Value.str (Str.ofString "Headers.__repr__") (569 : Nat) :: Value.str (Str.ofString "/claim/cut.py") (570 : Nat) :: Value.int 91 (0 : Nat) :: Value.int 1 (0 : Nat) :: Value.int 0 (0 : Nat) :: Value.int 0 (0 : Nat) :: Value.int 3 (0 : Nat) :: Value.ref (181 : Nat) :: Value.bool true :: Value.int 276 (0 : Nat) :: Value.ref (182 : Nat) :: Value.none :: Value.ref (183 : Nat) :: Value.ref (184 : Nat) :: Value.ref (185 : Nat) :: Value.int 572 (0 : Nat) :: Value.int 91 (0 : Nat) :: Value.str (Str.ofString "/claim/cut.py") (573 : Nat) :: [])) }) :: (nat_lit 187, { cls := Value.type "function", data := Data.func { name := Str.ofString "__repr__", qualname := Str.ofString "Headers.__repr__", params := p18, body := FuncBody.stmts b18, scope := s18, globals := (3 : Nat), closure := [], defaults := Value.none, kwdefaults := Value.none, pyModule := Value.str (Str.ofString "cpy313.wsgiref.headers") (398 : Nat), code := Value.ref (186 : Nat) } }) :: (nat_lit 188, { cls := Value.type "tuple", data := Data.seq #[] }) :: (nat_lit 191, { cls := Value.type "code", data := Data.fields (List.toArray (Value.str (Str.ofString "__str__") (575 : Nat) :: Value.str (Str.ofString "Headers.__str__") (576 : Nat) :: Value.str (Str.ofString "/claim/cut.py") (577 : Nat) :: Value.int 94 (0 : Nat) :: Value.int 1 (0 : Nat) :: Value.int 0 (0 : Nat) :: Value.int 0 (0 : Nat) :: Value.int 3 (0 : Nat) :: Value.ref (188 : Nat) :: Value.bool true :: Value.int 276 (0 : Nat) :: Value.ref (189 : Nat) :: Value.none :: Value.none :: Value.none :: Value.ref (190 : Nat) :: Value.int 578 (0 : Nat) :: Value.int 94 (0 : Nat) :: Value.str (Str.ofString "/claim/cut.py") (579 : Nat) :: [])) }) :: (nat_lit 192, { cls := Value.type "function", data := Data.func { name := Str.ofString "__str__", qualname := Str.ofString "Headers.__str__", params := p19, body := FuncBody.stmts b19, scope := s19, globals := (3 : Nat), closure := [], defaults := Value.none, kwdefaults := Value.none, pyModule := Value.str (Str.ofString "cpy313.wsgiref.headers") (398 : Nat), code := Value.ref (191 : Nat) } }) :: (nat_lit 193, { cls := Value.type "tuple", data := Data.seq #[] }) :: (nat_lit 195, { cls := Value.type "tuple", data := Data.seq #[Value.str (Str.ofString "self") (584 : Nat)] }) :: (nat_lit 196, { cls := Value.type "tuple", data := Data.seq #[] }) :: (nat_lit 198, { cls := Value.type "code", data := Data.fields (List.toArray (Value.str (Str.ofString "__bytes__") (581 : Nat) :: Value.str (Str.ofString "Headers.__bytes__") (582 : Nat) :: Value.str (Str.ofString "/claim/cut.py") (583 : Nat) :: Value.int 97 (0 : Nat) :: Value.int 1 (0 : Nat) :: Value.int 0 (0 : Nat) :: Value.int 0 (0 : Nat) :: Value.int 3 (0 : Nat) :: Value.ref (193 : Nat) :: Value.bool true :: Value.int 276 (0 : Nat) :: Value.ref (194 : Nat) :: Value.none :: Value.ref (195 : Nat) :: Value.ref (196 : Nat) :: Value.ref (197 : Nat) :: Value.int 585 (0 : Nat) :: Value.int 97 (0 : Nat) :: Value.str (Str.ofString "/claim/cut.py") (586 : Nat) :: [])) }) :: (nat_lit 199, { cls := Value.type "function", data := Data.func { name := Str.ofString "__bytes__", qualname := Str.ofString "Headers.__bytes__", params := p20, body := FuncBody.stmts b20, scope := s20, globals := (3 : Nat), closure := [], defaults := Value.none, kwdefaults := Value.none, pyModule := Value.str (Str.ofString "cpy313.wsgiref.headers") (398 : Nat), code := Value.ref (198 : Nat) } }) :: (nat_lit 200, { cls := Value.type "tuple", data := Data.seq #[] }) :: (nat_lit 202, { cls := Value.type "tuple", data := Data.seq #[Value.str (Str.ofString "self") (591 : Nat), Value.str (Str.ofString "name") (592 : Nat), Value.str (Str.ofString "value") (593 : Nat), Value.str (Str.ofString "result") (594 : Nat)] }) :: (nat_lit 203, { cls := Value.type "tuple", data := Data.seq #[] }) :: (nat_lit 205, { cls := Value.type "code", data := Data.fields (List.toArray (Value.str (Str.ofString "setdefault") (588 : Nat) :: Value.str (Str.ofString "Headers.setdefault") (589 : Nat) :: Value.str (Str.ofString "/claim/cut.py") (590 : Nat) :: Value.int 100 (0 : Nat) :: Value.int 3 (0 : Nat) :: Value.int 0 (0 : Nat) :: Value.int 0 (0 : Nat) :: Value.int 3 (0 : Nat) :: Value.ref (200 : Nat) :: Value.bool true :: Value.int 276 (0 : Nat) :: Value.ref (201 : Nat) :: Value.none :: Value.ref (202 : Nat) :: Value.ref (203 : Nat) :: Value.ref (204 : Nat) :: Value.int 595 (0 : Nat) :: Value.int 100 (0 : Nat) :: Value.str (Str.ofString "/claim/cut.py") (596 : Nat) :: [])) }) :: (nat_lit 206, { cls := Value.type "function", data := Data.func { name := Str.ofString "setdefault", qualname := Str.ofString "Headers.setdefault", params := p21, body := FuncBody.stmts b21, scope := s21, globals := (3 : Nat), closure := [], defaults := Value.none, kwdefaults := Value.none, pyModule := Value.str (Str.ofString "cpy313.wsgiref.headers") (398 : Nat), code := Value.ref (205 : Nat) } }) :: (nat_lit 207, { cls := Value.type "tuple", data := Data.seq #[] }) :: (nat_lit 209, { cls := Value.type "tuple", data := Data.seq #[Value.str (Str.ofString "self") (601 : Nat), Value.str (Str.ofString "_name") (602 : Nat), Value.str (Str.ofString "_value") (603 : Nat), Value.str (Str.ofString "_params") (604 : Nat)] }) :: (nat_lit 210, { cls := Value.type "tuple", data := Data.seq #[] }) :: (nat_lit 212, { cls := Value.type "code", data := Data.fields (List.toArray (Value.str (Str.ofString "add_header") (598 : Nat) :: Value.str (Str.ofString "Headers.add_header") (599 : Nat) :: Value.str (Str.ofString "/claim/cut.py") (600 : Nat) :: Value.int 108 (0 : Nat) :: Value.int 3 (0 : Nat) :: Value.int 0 (0 : Nat) :: Value.int 0 (0 : Nat) :: Value.int 11 (0 : Nat) :: Value.ref (207 : Nat) :: Value.bool true :: Value.int 276 (0 : Nat) :: Value.ref (208 : Nat) :: Value.none :: Value.ref (209 : Nat) :: Value.ref (210 : Nat) :: Value.ref (211 : Nat) :: Value.int 605 (0 : Nat) :: Value.int 108 (0 : Nat) :: Value.str (Str.ofString "/claim/cut.py") (606 : Nat) :: [])) }) :: (nat_lit 213, { cls := Value.type "function", data := Data.func { name := Str.ofString "add_header", qualname := Str.ofString "Headers.add_header", params := p22, body := FuncBody.stmts b22, scope := s22, globals := (3 : Nat), closure := [], defaults := Value.none, kwdefaults := Value.none, pyModule := Value.str (Str.ofString "cpy313.wsgiref.headers") (398 : Nat), code := Value.ref (212 : Nat) } }) :: (nat_lit 214, { cls := Value.type "tuple", data := Data.seq #[Value.str (Str.ofString "_headers") (608 : Nat)] }) :: (nat_lit 215, { cls := Value.type "dict", data := Data.dict (List.toArray ({ hash := PyData.keyHash P (Str.ofString "__module__"), key := Value.str (Str.ofString "__module__") (467 : Nat), val := Value.str (Str.ofString "cpy313.wsgiref.headers") (398 : Nat) } :: { hash := PyData.keyHash P (Str.ofString "__firstlineno__"), key := Value.str (Str.ofString "__firstlineno__") (471 : Nat), val := Value.int 35 (470 : Nat) } :: { hash := PyData.keyHash P (Str.ofString "__init__"), key := Value.str (Str.ofString "__init__") (481 : Nat), val := Value.ref (108 : Nat) } :: { hash := PyData.keyHash P (Str.ofString "_convert_string_type"), key := Value.str (Str.ofString "_convert_string_type") (491 : Nat), val := Value.ref (115 : Nat) } :: { hash := PyData.keyHash P (Str.ofString "__len__"), key := Value.str (Str.ofString "__len__") (498 : Nat), val := Value.ref (122 : Nat) } :: { hash := PyData.keyHash P (Str.ofString "__setitem__"), key := Value.str (Str.ofString "__setitem__") (507 : Nat), val := Value.ref (129 : Nat) } :: { hash := PyData.keyHash P (Str.ofString "__delitem__"), key := Value.str (Str.ofString "__delitem__") (513 : Nat), val := Value.ref (134 : Nat) } :: { hash := PyData.keyHash P (Str.ofString "__getitem__"), key := Value.str (Str.ofString "__getitem__") (521 : Nat), val := Value.ref (141 : Nat) } :: { hash := PyData.keyHash P (Str.ofString "__contains__"), key := Value.str (Str.ofString "__contains__") (529 : Nat), val := Value.ref (148 : Nat) } :: { hash := PyData.keyHash P (Str.ofString "get_all"), key := Value.str (Str.ofString "get_all") (537 : Nat), val := Value.ref (155 : Nat) } :: { hash := PyData.keyHash P (Str.ofString "get"), key := Value.str (Str.ofString "get") (548 : Nat), val := Value.ref (163 : Nat) } :: { hash := PyData.keyHash P (Str.ofString "keys"), key := Value.str (Str.ofString "keys") (554 : Nat), val := Value.ref (168 : Nat) } :: { hash := PyData.keyHash P (Str.ofString "values"), key := Value.str (Str.ofString "values") (560 : Nat), val := Value.ref (173 : Nat) } :: { hash := PyData.keyHash P (Str.ofString "items"), key := Value.str (Str.ofString "items") (567 : Nat), val := Value.ref (180 : Nat) } :: { hash := PyData.keyHash P (Str.ofString "__repr__"), key := Value.str (Str.ofString "__repr__") (574 : Nat), val := Value.ref (187 : Nat) } :: { hash := PyData.keyHash P (Str.ofString "__str__"), key := Value.str (Str.ofString "__str__") (580 : Nat), val := Value.ref (192 : Nat) } :: { hash := PyData.keyHash P (Str.ofString "__bytes__"), key := Value.str (Str.ofString "__bytes__") (587 : Nat), val := Value.ref (199 : Nat) } :: { hash := PyData.keyHash P (Str.ofString "setdefault"), key := Value.str (Str.ofString "setdefault") (597 : Nat), val := Value.ref (206 : Nat) } :: { hash := PyData.keyHash P (Str.ofString "add_header"), key := Value.str (Str.ofString "add_header") (607 : Nat), val := Value.ref (213 : Nat) } :: { hash := PyData.keyHash P (Str.ofString "__static_attributes__"), key := Value.str (Str.ofString "__static_attributes__") (609 : Nat), val := Value.ref (214 : Nat) } :: { hash := PyData.keyHash P (Str.ofString "__dict__"), key := Value.str (Str.ofString "__dict__") (611 : Nat), val := Value.ref (217 : Nat) } :: { hash := PyData.keyHash P (Str.ofString "__weakref__"), key := Value.str (Str.ofString "__weakref__") (613 : Nat), val := Value.ref (218 : Nat) } :: { hash := PyData.keyHash P (Str.ofString "__doc__"), key := Value.str (Str.ofString "__doc__") (614 : Nat), val := Value.none } :: [])) 4 }) :: (nat_lit 216, { cls := Value.type "type", data := Data.cls { name := Str.ofString "Headers", bases := [Value.type "object"], mro := [Value.ref (216 : Nat), Value.type "object"], ns := (215 : Nat), qualname := Str.ofString "Headers" }, slots := #[none, none, some (Value.str (Str.ofString "Headers") (460 : Nat)), some (Value.str (Str.ofString "Headers") (468 : Nat)), some (Value.builtin "object.__new__"), some (Value.bool true)] }) :: (nat_lit 217, { cls := Value.type "getset_descriptor", data := Data.fields #[Value.str (Str.ofString "__dict__") (610 : Nat), Value.ref (216 : Nat), Value.builtin "function.__dict__", Value.builtin "function.__dict__#set"] }) :: (nat_lit 218, { cls := Value.type "getset_descriptor", data := Data.fields #[Value.str (Str.ofString "__weakref__") (612 : Nat), Value.ref (216 : Nat), Value.builtin "ExceptionGroup.__weakref__", Value.none] }) :: (nat_lit 221, { cls := Value.type "tuple", data := Data.seq #[] }) :: (nat_lit 223, { cls := Value.type "tuple", data := Data.seq #[Value.str (Str.ofString "word") (622 : Nat), Value.str (Str.ofString "number") (623 : Nat), Value.str (Str.ofString "letter") (624 : Nat)] }) :: (nat_lit 224, { cls := Value.type "tuple", data := Data.seq #[] }) :: (nat_lit 226, { cls := Value.type "code", data := Data.fields (List.toArray (Value.str (Str.ofString "_law_number") (619 : Nat) :: Value.str (Str.ofString "_law_number") (620 : Nat) :: Value.str (Str.ofString "/claim/cut.py") (621 : Nat) :: Value.int 111 (0 : Nat) :: Value.int 1 (0 : Nat) :: Value.int 0 (0 : Nat) :: Value.int 0 (0 : Nat) :: Value.int 3 (0 : Nat) :: Value.ref (221 : Nat) :: Value.bool true :: Value.int 276 (0 : Nat) :: Value.ref (222 : Nat) :: Value.none :: Value.ref (223 : Nat) :: Value.ref (224 : Nat) :: Value.ref (225 : Nat) :: Value.int 625 (0 : Nat) :: Value.int 111 (0 : Nat) :: Value.str (Str.ofString "/claim/cut.py") (626 : Nat) :: [])) }) :: (nat_lit 227, { cls := Value.type "function", data := Data.func { name := Str.ofString "_law_number", qualname := Str.ofString "_law_number", params := p23, body := FuncBody.stmts b23, scope := s23, globals := (3 : Nat), closure := [], defaults := Value.none, kwdefaults := Value.none, pyModule := Value.str (Str.ofString "law_wj0041_01") (617 : Nat), code := Value.ref (226 : Nat) } }) :: (nat_lit 228, { cls := Value.type "tuple", data := Data.seq #[] }) :: (nat_lit 230, { cls := Value.type "tuple", data := Data.seq #[Value.str (Str.ofString "x") (631 : Nat)] }) :: (nat_lit 231, { cls := Value.type "tuple", data := Data.seq #[] }) :: (nat_lit 233, { cls := Value.type "code", data := Data.fields (List.toArray (Value.str (Str.ofString "_law_name") (628 : Nat) :: Value.str (Str.ofString "_law_name") (629 : Nat) :: Value.str (Str.ofString "/claim/cut.py") (630 : Nat) :: Value.int 116 (0 : Nat) :: Value.int 1 (0 : Nat) :: Value.int 0 (0 : Nat) :: Value.int 0 (0 : Nat) :: Value.int 3 (0 : Nat) :: Value.ref (228 : Nat) :: Value.bool true :: Value.int 276 (0 : Nat) :: Value.ref (229 : Nat) :: Value.none :: Value.ref (230 : Nat) :: Value.ref (231 : Nat) :: Value.ref (232 : Nat) :: Value.int 632 (0 : Nat) :: Value.int 116 (0 : Nat) :: Value.str (Str.ofString "/claim/cut.py") (633 : Nat) :: [])) }) :: (nat_lit 234, { cls := Value.type "function", data := Data.func { name := Str.ofString "_law_name", qualname := Str.ofString "_law_name", params := p24, body := FuncBody.stmts b24, scope := s24, globals := (3 : Nat), closure := [], defaults := Value.none, kwdefaults := Value.none, pyModule := Value.str (Str.ofString "law_wj0041_01") (617 : Nat), code := Value.ref (233 : Nat) } }) :: (nat_lit 235, { cls := Value.type "tuple", data := Data.seq #[] }) :: (nat_lit 237, { cls := Value.type "tuple", data := Data.seq #[Value.str (Str.ofString "word") (638 : Nat), Value.str (Str.ofString "pairs") (639 : Nat), Value.str (Str.ofString "letter") (640 : Nat), Value.str (Str.ofString "figure") (641 : Nat)] }) :: (nat_lit 238, { cls := Value.type "tuple", data := Data.seq #[] }) :: (nat_lit 240, { cls := Value.type "code", data := Data.fields (List.toArray (Value.str (Str.ofString "_law_square") (635 : Nat) :: Value.str (Str.ofString "_law_square") (636 : Nat) :: Value.str (Str.ofString "/claim/cut.py") (637 : Nat) :: Value.int 118 (0 : Nat) :: Value.int 1 (0 : Nat) :: Value.int 0 (0 : Nat) :: Value.int 0 (0 : Nat) :: Value.int 3 (0 : Nat) :: Value.ref (235 : Nat) :: Value.bool true :: Value.int 276 (0 : Nat) :: Value.ref (236 : Nat) :: Value.none :: Value.ref (237 : Nat) :: Value.ref (238 : Nat) :: Value.ref (239 : Nat) :: Value.int 642 (0 : Nat) :: Value.int 118 (0 : Nat) :: Value.str (Str.ofString "/claim/cut.py") (643 : Nat) :: [])) }) :: (nat_lit 241, { cls := Value.type "function", data := Data.func { name := Str.ofString "_law_square", qualname := Str.ofString "_law_square", params := p25, body := FuncBody.stmts b25, scope := s25, globals := (3 : Nat), closure := [], defaults := Value.none, kwdefaults := Value.none, pyModule := Value.str (Str.ofString "law_wj0041_01") (617 : Nat), code := Value.ref (240 : Nat) } }) :: (nat_lit 242, { cls := Value.type "tuple", data := Data.seq #[] }) :: (nat_lit 244, { cls := Value.type "tuple", data := Data.seq #[Value.str (Str.ofString "cells") (648 : Nat), Value.str (Str.ofString "mail") (649 : Nat), Value.str (Str.ofString "due") (650 : Nat), Value.str (Str.ofString "cell") (651 : Nat), Value.str (Str.ofString "lead") (652 : Nat), Value.str (Str.ofString "row") (653 : Nat)] }) :: (nat_lit 245, { cls := Value.type "tuple", data := Data.seq #[] }) :: (nat_lit 247, { cls := Value.type "code", data := Data.fields (List.toArray (Value.str (Str.ofString "_law_mail") (645 : Nat) :: Value.str (Str.ofString "_law_mail") (646 : Nat) :: Value.str (Str.ofString "/claim/cut.py") (647 : Nat) :: Value.int 124 (0 : Nat) :: Value.int 1 (0 : Nat) :: Value.int 0 (0 : Nat) :: Value.int 0 (0 : Nat) :: Value.int 3 (0 : Nat) :: Value.ref (242 : Nat) :: Value.bool true :: Value.int 276 (0 : Nat) :: Value.ref (243 : Nat) :: Value.none :: Value.ref (244 : Nat) :: Value.ref (245 : Nat) :: Value.ref (246 : Nat) :: Value.int 654 (0 : Nat) :: Value.int 124 (0 : Nat) :: Value.str (Str.ofString "/claim/cut.py") (655 : Nat) :: [])) }) :: (nat_lit 248, { cls := Value.type "function", data := Data.func { name := Str.ofString "_law_mail", qualname := Str.ofString "_law_mail", params := p26, body := FuncBody.stmts b26, scope := s26, globals := (3 : Nat), closure := [], defaults := Value.none, kwdefaults := Value.none, pyModule := Value.str (Str.ofString "law_wj0041_01") (617 : Nat), code := Value.ref (247 : Nat) } }) :: (nat_lit 249, { cls := Value.type "tuple", data := Data.seq #[] }) :: (nat_lit 251, { cls := Value.type "tuple", data := Data.seq #[Value.str (Str.ofString "sent") (660 : Nat), Value.str (Str.ofString "told") (661 : Nat), Value.str (Str.ofString "row") (662 : Nat), Value.str (Str.ofString "dots") (663 : Nat)] }) :: (nat_lit 252, { cls := Value.type "tuple", data := Data.seq #[] }) :: (nat_lit 254, { cls := Value.type "code", data := Data.fields (List.toArray (Value.str (Str.ofString "_law_heard") (657 : Nat) :: Value.str (Str.ofString "_law_heard") (658 : Nat) :: Value.str (Str.ofString "/claim/cut.py") (659 : Nat) :: Value.int 132 (0 : Nat) :: Value.int 1 (0 : Nat) :: Value.int 0 (0 : Nat) :: Value.int 0 (0 : Nat) :: Value.int 3 (0 : Nat) :: Value.ref (249 : Nat) :: Value.bool true :: Value.int 276 (0 : Nat) :: Value.ref (250 : Nat) :: Value.none :: Value.ref (251 : Nat) :: Value.ref (252 : Nat) :: Value.ref (253 : Nat) :: Value.int 664 (0 : Nat) :: Value.int 132 (0 : Nat) :: Value.str (Str.ofString "/claim/cut.py") (665 : Nat) :: [])) }) :: (nat_lit 255, { cls := Value.type "function", data := Data.func { name := Str.ofString "_law_heard", qualname := Str.ofString "_law_heard", params := p27, body := FuncBody.stmts b27, scope := s27, globals := (3 : Nat), closure := [], defaults := Value.none, kwdefaults := Value.none, pyModule := Value.str (Str.ofString "law_wj0041_01") (617 : Nat), code := Value.ref (254 : Nat) } }) :: (nat_lit 256, { cls := Value.type "tuple", data := Data.seq #[] }) :: (nat_lit 258, { cls := Value.type "tuple", data := Data.seq (List.toArray (Value.str (Str.ofString "table") (670 : Nat) :: Value.str (Str.ofString "told") (671 : Nat) :: Value.str (Str.ofString "kept") (672 : Nat) :: Value.str (Str.ofString "place") (673 : Nat) :: Value.str (Str.ofString "x") (674 : Nat) :: Value.str (Str.ofString "size") (675 : Nat) :: Value.str (Str.ofString "name") (676 : Nat) :: Value.str (Str.ofString "more") (677 : Nat) :: Value.str (Str.ofString "spelled") (678 : Nat) :: [])) }) :: (nat_lit 259, { cls := Value.type "tuple", data := Data.seq #[] }) :: (nat_lit 261, { cls := Value.type "code", data := Data.fields (List.toArray (Value.str (Str.ofString "_law_lay") (667 : Nat) :: Value.str (Str.ofString "_law_lay") (668 : Nat) :: Value.str (Str.ofString "/claim/cut.py") (669 : Nat) :: Value.int 138 (0 : Nat) :: Value.int 2 (0 : Nat) :: Value.int 0 (0 : Nat) :: Value.int 0 (0 : Nat) :: Value.int 3 (0 : Nat) :: Value.ref (256 : Nat) :: Value.bool true :: Value.int 276 (0 : Nat) :: Value.ref (257 : Nat) :: Value.none :: Value.ref (258 : Nat) :: Value.ref (259 : Nat) :: Value.ref (260 : Nat) :: Value.int 679 (0 : Nat) :: Value.int 138 (0 : Nat) :: Value.str (Str.ofString "/claim/cut.py") (680 : Nat) :: [])) }) :: (nat_lit 262, { cls := Value.type "function", data := Data.func { name := Str.ofString "_law_lay", qualname := Str.ofString "_law_lay", params := p28, body := FuncBody.stmts b28, scope := s28, globals := (3 : Nat), closure := [], defaults := Value.none, kwdefaults := Value.none, pyModule := Value.str (Str.ofString "law_wj0041_01") (617 : Nat), code := Value.ref (261 : Nat) } }) :: (nat_lit 263, { cls := Value.type "tuple", data := Data.seq #[] }) :: (nat_lit 266, { cls := Value.type "code", data := Data.fields (List.toArray (Value.str (Str.ofString "_law_sums") (682 : Nat) :: Value.str (Str.ofString "_law_sums") (683 : Nat) :: Value.str (Str.ofString "/claim/cut.py") (684 : Nat) :: Value.int 150 (0 : Nat) :: Value.int 1 (0 : Nat) :: Value.int 0 (0 : Nat) :: Value.int 0 (0 : Nat) :: Value.int 3 (0 : Nat) :: Value.ref (263 : Nat) :: Value.bool true :: Value.int 276 (0 : Nat) :: Value.ref (264 : Nat) :: Value.none :: Value.none :: Value.none :: Value.ref (265 : Nat) :: Value.int 685 (0 : Nat) :: Value.int 150 (0 : Nat) :: Value.str (Str.ofString "/claim/cut.py") (686 : Nat) :: [])) }) :: (nat_lit 267, { cls := Value.type "function", data := Data.func { name := Str.ofString "_law_sums", qualname := Str.ofString "_law_sums", params := p29, body := FuncBody.stmts b29, scope := s29, globals := (3 : Nat), closure := [], defaults := Value.none, kwdefaults := Value.none, pyModule := Value.str (Str.ofString "law_wj0041_01") (617 : Nat), code := Value.ref (266 : Nat) } }) :: (nat_lit 268, { cls := Value.type "tuple", data := Data.seq #[] }) :: (nat_lit 270, { cls := Value.type "tuple", data := Data.seq #[Value.str (Str.ofString "table") (691 : Nat), Value.str (Str.ofString "x") (692 : Nat), Value.str (Str.ofString "word") (693 : Nat)] }) :: (nat_lit 271, { cls := Value.type "tuple", data := Data.seq #[] }) :: (nat_lit 273, { cls := Value.type "code", data := Data.fields (List.toArray (Value.str (Str.ofString "_law_powers") (688 : Nat) :: Value.str (Str.ofString "_law_powers") (689 : Nat) :: Value.str (Str.ofString "/claim/cut.py") (690 : Nat) :: Value.int 156 (0 : Nat) :: Value.int 2 (0 : Nat) :: Value.int 0 (0 : Nat) :: Value.int 0 (0 : Nat) :: Value.int 3 (0 : Nat) :: Value.ref (268 : Nat) :: Value.bool true :: Value.int 276 (0 : Nat) :: Value.ref (269 : Nat) :: Value.none :: Value.ref (270 : Nat) :: Value.ref (271 : Nat) :: Value.ref (272 : Nat) :: Value.int 694 (0 : Nat) :: Value.int 156 (0 : Nat) :: Value.str (Str.ofString "/claim/cut.py") (695 : Nat) :: [])) }) :: (nat_lit 274, { cls := Value.type "function", data := Data.func { name := Str.ofString "_law_powers", qualname := Str.ofString "_law_powers", params := p30, body := FuncBody.stmts b30, scope := s30, globals := (3 : Nat), closure := [], defaults := Value.none, kwdefaults := Value.none, pyModule := Value.str (Str.ofString "law_wj0041_01") (617 : Nat), code := Value.ref (273 : Nat) } }) :: (nat_lit 275, { cls := Value.type "tuple", data := Data.seq #[] }) :: (nat_lit 277, { cls := Value.type "tuple", data := Data.seq #[Value.str (Str.ofString "a") (700 : Nat), Value.str (Str.ofString "b") (701 : Nat), Value.str (Str.ofString "total") (702 : Nat)] }) :: (nat_lit 278, { cls := Value.type "tuple", data := Data.seq #[] }) :: (nat_lit 280, { cls := Value.type "code", data := Data.fields (List.toArray (Value.str (Str.ofString "_law_product") (697 : Nat) :: Value.str (Str.ofString "_law_product") (698 : Nat) :: Value.str (Str.ofString "/claim/cut.py") (699 : Nat) :: Value.int 159 (0 : Nat) :: Value.int 2 (0 : Nat) :: Value.int 0 (0 : Nat) :: Value.int 0 (0 : Nat) :: Value.int 3 (0 : Nat) :: Value.ref (275 : Nat) :: Value.bool true :: Value.int 276 (0 : Nat) :: Value.ref (276 : Nat) :: Value.none :: Value.ref (277 : Nat) :: Value.ref (278 : Nat) :: Value.ref (279 : Nat) :: Value.int 703 (0 : Nat) :: Value.int 159 (0 : Nat) :: Value.str (Str.ofString "/claim/cut.py") (704 : Nat) :: [])) }) :: (nat_lit 281, { cls := Value.type "function", data := Data.func { name := Str.ofString "_law_product", qualname := Str.ofString "_law_product", params := p31, body := FuncBody.stmts b31, scope := s31, globals := (3 : Nat), closure := [], defaults := Value.none, kwdefaults := Value.none, pyModule := Value.str (Str.ofString "law_wj0041_01") (617 : Nat), code := Value.ref (280 : Nat) } }) :: (nat_lit 282, { cls := Value.type "tuple", data := Data.seq #[] }) :: (nat_lit 285, { cls := Value.type "code", data := Data.fields (List.toArray (Value.str (Str.ofString "_law_determinant") (706 : Nat) :: Value.str (Str.ofString "_law_determinant") (707 : Nat) :: Value.str (Str.ofString "/claim/cut.py") (708 : Nat) :: Value.int 166 (0 : Nat) :: Value.int 1 (0 : Nat) :: Value.int 0 (0 : Nat) :: Value.int 0 (0 : Nat) :: Value.int 3 (0 : Nat) :: Value.ref (282 : Nat) :: Value.bool true :: Value.int 276 (0 : Nat) :: Value.ref (283 : Nat) :: Value.none :: Value.none :: Value.none :: Value.ref (284 : Nat) :: Value.int 709 (0 : Nat) :: Value.int 166 (0 : Nat) :: Value.str (Str.ofString "/claim/cut.py") (710 : Nat) :: [])) }) :: (nat_lit 286, { cls := Value.type "function", data := Data.func { name := Str.ofString "_law_determinant", qualname := Str.ofString "_law_determinant", params := p32, body := FuncBody.stmts b32, scope := s32, globals := (3 : Nat), closure := [], defaults := Value.none, kwdefaults := Value.none, pyModule := Value.str (Str.ofString "law_wj0041_01") (617 : Nat), code := Value.ref (285 : Nat) } }) :: (nat_lit 287, { cls := Value.type "tuple", data := Data.seq #[] }) :: (nat_lit 289, { cls := Value.type "tuple", data := Data.seq #[Value.str (Str.ofString "sums") (715 : Nat), Value.str (Str.ofString "x") (716 : Nat), Value.str (Str.ofString "total") (717 : Nat), Value.str (Str.ofString "v") (718 : Nat)] }) :: (nat_lit 290, { cls := Value.type "tuple", data := Data.seq #[] }) :: (nat_lit 292, { cls := Value.type "code", data := Data.fields (List.toArray (Value.str (Str.ofString "_law_all") (712 : Nat) :: Value.str (Str.ofString "_law_all") (713 : Nat) :: Value.str (Str.ofString "/claim/cut.py") (714 : Nat) :: Value.int 174 (0 : Nat) :: Value.int 2 (0 : Nat) :: Value.int 0 (0 : Nat) :: Value.int 0 (0 : Nat) :: Value.int 3 (0 : Nat) :: Value.ref (287 : Nat) :: Value.bool true :: Value.int 276 (0 : Nat) :: Value.ref (288 : Nat) :: Value.none :: Value.ref (289 : Nat) :: Value.ref (290 : Nat) :: Value.ref (291 : Nat) :: Value.int 719 (0 : Nat) :: Value.int 174 (0 : Nat) :: Value.str (Str.ofString "/claim/cut.py") (720 : Nat) :: [])) }) :: (nat_lit 293, { cls := Value.type "function", data := Data.func { name := Str.ofString "_law_all", qualname := Str.ofString "_law_all", params := p33, body := FuncBody.stmts b33, scope := s33, globals := (3 : Nat), closure := [], defaults := Value.none, kwdefaults := Value.none, pyModule := Value.str (Str.ofString "law_wj0041_01") (617 : Nat), code := Value.ref (292 : Nat) } }) :: (nat_lit 294, { cls := Value.type "tuple", data := Data.seq #[] }) :: (nat_lit 297, { cls := Value.type "code", data := Data.fields (List.toArray (Value.str (Str.ofString "law") (722 : Nat) :: Value.str (Str.ofString "law") (723 : Nat) :: Value.str (Str.ofString "/claim/cut.py") (724 : Nat) :: Value.int 179 (0 : Nat) :: Value.int 1 (0 : Nat) :: Value.int 0 (0 : Nat) :: Value.int 0 (0 : Nat) :: Value.int 3 (0 : Nat) :: Value.ref (294 : Nat) :: Value.bool true :: Value.int 276 (0 : Nat) :: Value.ref (295 : Nat) :: Value.none :: Value.none :: Value.none :: Value.ref (296 : Nat) :: Value.int 725 (0 : Nat) :: Value.int 179 (0 : Nat) :: Value.str (Str.ofString "/claim/cut.py") (726 : Nat) :: [])) }) :: (nat_lit 298, { cls := Value.type "function", data := Data.func { name := Str.ofString "law", qualname := Str.ofString "law", params := p34, body := FuncBody.stmts b34, scope := s34, globals := (3 : Nat), closure := [], defaults := Value.none, kwdefaults := Value.none, pyModule := Value.str (Str.ofString "law_wj0041_01") (617 : Nat), code := Value.ref (297 : Nat) } }) :: [] : Frag)
noncomputable def hd.ads : List Nat := nat_lit 2 :: nat_lit 3 :: nat_lit 32 :: nat_lit 34 :: nat_lit 35 :: nat_lit 37 :: nat_lit 38 :: nat_lit 39 :: nat_lit 41 :: nat_lit 42 :: nat_lit 44 :: nat_lit 45 :: nat_lit 46 :: nat_lit 48 :: nat_lit 49 :: nat_lit 51 :: nat_lit 52 :: nat_lit 53 :: nat_lit 55 :: nat_lit 56 :: nat_lit 58 :: nat_lit 59 :: nat_lit 60 :: nat_lit 62 :: nat_lit 63 :: nat_lit 65 :: nat_lit 66 :: nat_lit 70 :: nat_lit 71 :: nat_lit 75 :: nat_lit 76 :: nat_lit 77 :: nat_lit 79 :: nat_lit 80 :: nat_lit 82 :: nat_lit 83 :: nat_lit 87 :: nat_lit 88 :: nat_lit 92 :: nat_lit 93 :: nat_lit 101 :: nat_lit 102 :: nat_lit 104 :: nat_lit 105 :: nat_lit 107 :: nat_lit 108 :: nat_lit 109 :: nat_lit 111 :: nat_lit 112 :: nat_lit 114 :: nat_lit 115 :: nat_lit 116 :: nat_lit 118 :: nat_lit 119 :: nat_lit 121 :: nat_lit 122 :: nat_lit 123 :: nat_lit 125 :: nat_lit 126 :: nat_lit 128 :: nat_lit 129 :: nat_lit 130 :: nat_lit 133 :: nat_lit 134 :: nat_lit 135 :: nat_lit 137 :: nat_lit 138 :: nat_lit 140 :: nat_lit 141 :: nat_lit 142 :: nat_lit 144 :: nat_lit 145 :: nat_lit 147 :: nat_lit 148 :: nat_lit 149 :: nat_lit 151 :: nat_lit 152 :: nat_lit 154 :: nat_lit 155 :: nat_lit 156 :: nat_lit 157 :: nat_lit 159 :: nat_lit 160 :: nat_lit 162 :: nat_lit 163 :: nat_lit 164 :: nat_lit 167 :: nat_lit 168 :: nat_lit 169 :: nat_lit 172 :: nat_lit 173 :: nat_lit 174 :: nat_lit 176 :: nat_lit 177 :: nat_lit 179 :: nat_lit 180 :: nat_lit 181 :: nat_lit 183 :: nat_lit 184 :: nat_lit 186 :: nat_lit 187 :: nat_lit 188 :: nat_lit 191 :: nat_lit 192 :: nat_lit 193 :: nat_lit 195 :: nat_lit 196 :: nat_lit 198 :: nat_lit 199 :: nat_lit 200 :: nat_lit 202 :: nat_lit 203 :: nat_lit 205 :: nat_lit 206 :: nat_lit 207 :: nat_lit 209 :: nat_lit 210 :: nat_lit 212 :: nat_lit 213 :: nat_lit 214 :: nat_lit 215 :: nat_lit 216 :: nat_lit 217 :: nat_lit 218 :: nat_lit 221 :: nat_lit 223 :: nat_lit 224 :: nat_lit 226 :: nat_lit 227 :: nat_lit 228 :: nat_lit 230 :: nat_lit 231 :: nat_lit 233 :: nat_lit 234 :: nat_lit 235 :: nat_lit 237 :: nat_lit 238 :: nat_lit 240 :: nat_lit 241 :: nat_lit 242 :: nat_lit 244 :: nat_lit 245 :: nat_lit 247 :: nat_lit 248 :: nat_lit 249 :: nat_lit 251 :: nat_lit 252 :: nat_lit 254 :: nat_lit 255 :: nat_lit 256 :: nat_lit 258 :: nat_lit 259 :: nat_lit 261 :: nat_lit 262 :: nat_lit 263 :: nat_lit 266 :: nat_lit 267 :: nat_lit 268 :: nat_lit 270 :: nat_lit 271 :: nat_lit 273 :: nat_lit 274 :: nat_lit 275 :: nat_lit 277 :: nat_lit 278 :: nat_lit 280 :: nat_lit 281 :: nat_lit 282 :: nat_lit 285 :: nat_lit 286 :: nat_lit 287 :: nat_lit 289 :: nat_lit 290 :: nat_lit 292 :: nat_lit 293 :: nat_lit 294 :: nat_lit 297 :: nat_lit 298 :: []
theorem hd.ads_eq : ∀ P, hd.ads = (hd.heap_39 P).map (·.1) := fun _ => by kernel_rfl
theorem hd.said : PySem.Challenge.rw_wj0041_01.wellSaid = true := by
  unfold OpenLaw.wellSaid
  repeat' first | (with_reducible refine look_both ?_ ?_) | unfold OpenRow.wellSaid | unfold OpenRow.partSaid | unfold looksOpen
  all_goals decide +kernel
noncomputable def hd.o0 (P : Params) : Obj := (Obj.mk (Value.type "dict") Option.none (Data.dict (List.toArray ((DictEntry.mk (PyData.keyHash P (Str.ofString "__name__")) (Value.str (Str.ofString "__name__") (nat_lit 1)) (Value.str (Str.ofString "builtins") (nat_lit 160))) :: (DictEntry.mk (PyData.keyHash P (Str.ofString "__doc__")) (Value.str (Str.ofString "__doc__") (nat_lit 2)) (Value.builtin "builtins.__doc__:str#opaque")) :: (DictEntry.mk (PyData.keyHash P (Str.ofString "__package__")) (Value.str (Str.ofString "__package__") (nat_lit 3)) (Value.builtin "builtins.__package__:str#opaque")) :: (DictEntry.mk (PyData.keyHash P (Str.ofString "__loader__")) (Value.str (Str.ofString "__loader__") (nat_lit 4)) (Value.builtin "builtins.__loader__:shared#opaque")) :: (DictEntry.mk (PyData.keyHash P (Str.ofString "__spec__")) (Value.str (Str.ofString "__spec__") (nat_lit 5)) (Value.builtin "builtins.__spec__#opaque")) :: (DictEntry.mk (PyData.keyHash P (Str.ofString "__build_class__")) (Value.str (Str.ofString "__build_class__") (nat_lit 6)) (Value.builtin "__build_class__")) :: (DictEntry.mk (PyData.keyHash P (Str.ofString "__\x69mport__")) (Value.str (Str.ofString "__\x69mport__") (nat_lit 7)) (Value.builtin "__\x69mport__")) :: (DictEntry.mk (PyData.keyHash P (Str.ofString "abs")) (Value.str (Str.ofString "abs") (nat_lit 8)) (Value.builtin "abs")) :: (DictEntry.mk (PyData.keyHash P (Str.ofString "all")) (Value.str (Str.ofString "all") (nat_lit 9)) (Value.builtin "all")) :: (DictEntry.mk (PyData.keyHash P (Str.ofString "any")) (Value.str (Str.ofString "any") (nat_lit 10)) (Value.builtin "any")) :: (DictEntry.mk (PyData.keyHash P (Str.ofString "ascii")) (Value.str (Str.ofString "ascii") (nat_lit 11)) (Value.builtin "ascii")) :: (DictEntry.mk (PyData.keyHash P (Str.ofString "bin")) (Value.str (Str.ofString "bin") (nat_lit 12)) (Value.builtin "bin")) :: (DictEntry.mk (PyData.keyHash P (Str.ofString "breakpoint")) (Value.str (Str.ofString "breakpoint") (nat_lit 13)) (Value.builtin "breakpoint")) :: (DictEntry.mk (PyData.keyHash P (Str.ofString "callable")) (Value.str (Str.ofString "callable") (nat_lit 14)) (Value.builtin "callable")) :: (DictEntry.mk (PyData.keyHash P (Str.ofString "chr")) (Value.str (Str.ofString "chr") (nat_lit 15)) (Value.builtin "chr")) :: (DictEntry.mk (PyData.keyHash P (Str.ofString "compile")) (Value.str (Str.ofString "compile") (nat_lit 16)) (Value.builtin "compile")) :: (DictEntry.mk (PyData.keyHash P (Str.ofString "delattr")) (Value.str (Str.ofString "delattr") (nat_lit 17)) (Value.builtin "delattr")) :: (DictEntry.mk (PyData.keyHash P (Str.ofString "dir")) (Value.str (Str.ofString "dir") (nat_lit 18)) (Value.builtin "dir")) :: (DictEntry.mk (PyData.keyHash P (Str.ofString "divmod")) (Value.str (Str.ofString "divmod") (nat_lit 19)) (Value.builtin "divmod")) :: (DictEntry.mk (PyData.keyHash P (Str.ofString "eval")) (Value.str (Str.ofString "eval") (nat_lit 20)) (Value.builtin "eval")) :: (DictEntry.mk (PyData.keyHash P (Str.ofString "exec")) (Value.str (Str.ofString "exec") (nat_lit 21)) (Value.builtin "exec")) :: (DictEntry.mk (PyData.keyHash P (Str.ofString "format")) (Value.str (Str.ofString "format") (nat_lit 22)) (Value.builtin "format")) :: (DictEntry.mk (PyData.keyHash P (Str.ofString "getattr")) (Value.str (Str.ofString "getattr") (nat_lit 23)) (Value.builtin "getattr")) :: (DictEntry.mk (PyData.keyHash P (Str.ofString "globals")) (Value.str (Str.ofString "globals") (nat_lit 24)) (Value.builtin "globals")) :: (DictEntry.mk (PyData.keyHash P (Str.ofString "hasattr")) (Value.str (Str.ofString "hasattr") (nat_lit 25)) (Value.builtin "hasattr")) :: (DictEntry.mk (PyData.keyHash P (Str.ofString "hash")) (Value.str (Str.ofString "hash") (nat_lit 26)) (Value.builtin "hash")) :: (DictEntry.mk (PyData.keyHash P (Str.ofString "hex")) (Value.str (Str.ofString "hex") (nat_lit 27)) (Value.builtin "hex")) :: (DictEntry.mk (PyData.keyHash P (Str.ofString "id")) (Value.str (Str.ofString "id") (nat_lit 28)) (Value.builtin "id")) :: (DictEntry.mk (PyData.keyHash P (Str.ofString "input")) (Value.str (Str.ofString "input") (nat_lit 29)) (Value.builtin "input")) :: (DictEntry.mk (PyData.keyHash P (Str.ofString "isinstance")) (Value.str (Str.ofString "isinstance") (nat_lit 30)) (Value.builtin "isinstance")) :: (DictEntry.mk (PyData.keyHash P (Str.ofString "issubclass")) (Value.str (Str.ofString "issubclass") (nat_lit 31)) (Value.builtin "issubclass")) :: (DictEntry.mk (PyData.keyHash P (Str.ofString "iter")) (Value.str (Str.ofString "iter") (nat_lit 32)) (Value.builtin "iter")) :: (DictEntry.mk (PyData.keyHash P (Str.ofString "aiter")) (Value.str (Str.ofString "aiter") (nat_lit 33)) (Value.builtin "aiter")) :: (DictEntry.mk (PyData.keyHash P (Str.ofString "len")) (Value.str (Str.ofString "len") (nat_lit 34)) (Value.builtin "len")) :: (DictEntry.mk (PyData.keyHash P (Str.ofString "locals")) (Value.str (Str.ofString "locals") (nat_lit 35)) (Value.builtin "locals")) :: (DictEntry.mk (PyData.keyHash P (Str.ofString "max")) (Value.str (Str.ofString "max") (nat_lit 36)) (Value.builtin "max")) :: (DictEntry.mk (PyData.keyHash P (Str.ofString "min")) (Value.str (Str.ofString "min") (nat_lit 37)) (Value.builtin "min")) :: (DictEntry.mk (PyData.keyHash P (Str.ofString "next")) (Value.str (Str.ofString "next") (nat_lit 38)) (Value.builtin "next")) :: (DictEntry.mk (PyData.keyHash P (Str.ofString "anext")) (Value.str (Str.ofString "anext") (nat_lit 39)) (Value.builtin "anext")) :: (DictEntry.mk (PyData.keyHash P (Str.ofString "oct")) (Value.str (Str.ofString "oct") (nat_lit 40)) (Value.builtin "oct")) :: (DictEntry.mk (PyData.keyHash P (Str.ofString "ord")) (Value.str (Str.ofString "ord") (nat_lit 41)) (Value.builtin "ord")) :: (DictEntry.mk (PyData.keyHash P (Str.ofString "pow")) (Value.str (Str.ofString "pow") (nat_lit 42)) (Value.builtin "pow")) :: (DictEntry.mk (PyData.keyHash P (Str.ofString "print")) (Value.str (Str.ofString "print") (nat_lit 43)) (Value.builtin "print")) :: (DictEntry.mk (PyData.keyHash P (Str.ofString "repr")) (Value.str (Str.ofString "repr") (nat_lit 44)) (Value.builtin "repr")) :: (DictEntry.mk (PyData.keyHash P (Str.ofString "round")) (Value.str (Str.ofString "round") (nat_lit 45)) (Value.builtin "round")) :: (DictEntry.mk (PyData.keyHash P (Str.ofString "setattr")) (Value.str (Str.ofString "setattr") (nat_lit 46)) (Value.builtin "setattr")) :: (DictEntry.mk (PyData.keyHash P (Str.ofString "sorted")) (Value.str (Str.ofString "sorted") (nat_lit 47)) (Value.builtin "sorted")) :: (DictEntry.mk (PyData.keyHash P (Str.ofString "sum")) (Value.str (Str.ofString "sum") (nat_lit 48)) (Value.builtin "sum")) :: (DictEntry.mk (PyData.keyHash P (Str.ofString "vars")) (Value.str (Str.ofString "vars") (nat_lit 49)) (Value.builtin "vars")) :: (DictEntry.mk (PyData.keyHash P (Str.ofString "None")) (Value.str (Str.ofString "None") (nat_lit 50)) Value.none) :: (DictEntry.mk (PyData.keyHash P (Str.ofString "Ellipsis")) (Value.str (Str.ofString "Ellipsis") (nat_lit 51)) Value.ellipsis) :: (DictEntry.mk (PyData.keyHash P (Str.ofString "NotImplemented")) (Value.str (Str.ofString "NotImplemented") (nat_lit 52)) Value.notImplemented) :: (DictEntry.mk (PyData.keyHash P (Str.ofString "False")) (Value.str (Str.ofString "False") (nat_lit 53)) (Value.bool Bool.false)) :: (DictEntry.mk (PyData.keyHash P (Str.ofString "True")) (Value.str (Str.ofString "True") (nat_lit 54)) (Value.bool Bool.true)) :: (DictEntry.mk (PyData.keyHash P (Str.ofString "bool")) (Value.str (Str.ofString "bool") (nat_lit 55)) (Value.type "bool")) :: (DictEntry.mk (PyData.keyHash P (Str.ofString "memoryview")) (Value.str (Str.ofString "memoryview") (nat_lit 56)) (Value.type "memoryview")) :: (DictEntry.mk (PyData.keyHash P (Str.ofString "bytearray")) (Value.str (Str.ofString "bytearray") (nat_lit 57)) (Value.type "bytearray")) :: (DictEntry.mk (PyData.keyHash P (Str.ofString "bytes")) (Value.str (Str.ofString "bytes") (nat_lit 58)) (Value.type "bytes")) :: (DictEntry.mk (PyData.keyHash P (Str.ofString "classmethod")) (Value.str (Str.ofString "classmethod") (nat_lit 59)) (Value.type "classmethod")) :: (DictEntry.mk (PyData.keyHash P (Str.ofString "complex")) (Value.str (Str.ofString "complex") (nat_lit 60)) (Value.type "complex")) :: (DictEntry.mk (PyData.keyHash P (Str.ofString "dict")) (Value.str (Str.ofString "dict") (nat_lit 61)) (Value.type "dict")) :: (DictEntry.mk (PyData.keyHash P (Str.ofString "enumerate")) (Value.str (Str.ofString "enumerate") (nat_lit 62)) (Value.type "enumerate")) :: (DictEntry.mk (PyData.keyHash P (Str.ofString "filter")) (Value.str (Str.ofString "filter") (nat_lit 63)) (Value.type "filter")) :: (DictEntry.mk (PyData.keyHash P (Str.ofString "float")) (Value.str (Str.ofString "float") (nat_lit 64)) (Value.type "float")) :: (DictEntry.mk (PyData.keyHash P (Str.ofString "frozenset")) (Value.str (Str.ofString "frozenset") (nat_lit 65)) (Value.type "frozenset")) :: (DictEntry.mk (PyData.keyHash P (Str.ofString "property")) (Value.str (Str.ofString "property") (nat_lit 66)) (Value.type "property")) :: (DictEntry.mk (PyData.keyHash P (Str.ofString "int")) (Value.str (Str.ofString "int") (nat_lit 67)) (Value.type "int")) :: (DictEntry.mk (PyData.keyHash P (Str.ofString "list")) (Value.str (Str.ofString "list") (nat_lit 68)) (Value.type "list")) :: (DictEntry.mk (PyData.keyHash P (Str.ofString "map")) (Value.str (Str.ofString "map") (nat_lit 69)) (Value.type "map")) :: (DictEntry.mk (PyData.keyHash P (Str.ofString "object")) (Value.str (Str.ofString "object") (nat_lit 70)) (Value.type "object")) :: (DictEntry.mk (PyData.keyHash P (Str.ofString "range")) (Value.str (Str.ofString "range") (nat_lit 71)) (Value.type "range")) :: (DictEntry.mk (PyData.keyHash P (Str.ofString "reversed")) (Value.str (Str.ofString "reversed") (nat_lit 72)) (Value.type "reversed")) :: (DictEntry.mk (PyData.keyHash P (Str.ofString "set")) (Value.str (Str.ofString "set") (nat_lit 73)) (Value.type "set")) :: (DictEntry.mk (PyData.keyHash P (Str.ofString "slice")) (Value.str (Str.ofString "slice") (nat_lit 74)) (Value.type "slice")) :: (DictEntry.mk (PyData.keyHash P (Str.ofString "staticmethod")) (Value.str (Str.ofString "staticmethod") (nat_lit 75)) (Value.type "staticmethod")) :: (DictEntry.mk (PyData.keyHash P (Str.ofString "str")) (Value.str (Str.ofString "str") (nat_lit 76)) (Value.type "str")) :: (DictEntry.mk (PyData.keyHash P (Str.ofString "super")) (Value.str (Str.ofString "super") (nat_lit 77)) (Value.type "super")) :: (DictEntry.mk (PyData.keyHash P (Str.ofString "tuple")) (Value.str (Str.ofString "tuple") (nat_lit 78)) (Value.type "tuple")) :: (DictEntry.mk (PyData.keyHash P (Str.ofString "type")) (Value.str (Str.ofString "type") (nat_lit 79)) (Value.type "type")) :: (DictEntry.mk (PyData.keyHash P (Str.ofString "zip")) (Value.str (Str.ofString "zip") (nat_lit 80)) (Value.type "zip")) :: (DictEntry.mk (PyData.keyHash P (Str.ofString "__debug__")) (Value.str (Str.ofString "__debug__") (nat_lit 81)) (Value.bool Bool.true)) :: (DictEntry.mk (PyData.keyHash P (Str.ofString "BaseException")) (Value.str (Str.ofString "BaseException") (nat_lit 82)) (Value.type "BaseException")) :: (DictEntry.mk (PyData.keyHash P (Str.ofString "BaseExceptionGroup")) (Value.str (Str.ofString "BaseExceptionGroup") (nat_lit 83)) (Value.type "BaseExceptionGroup")) :: (DictEntry.mk (PyData.keyHash P (Str.ofString "Exception")) (Value.str (Str.ofString "Exception") (nat_lit 84)) (Value.type "Exception")) :: (DictEntry.mk (PyData.keyHash P (Str.ofString "GeneratorExit")) (Value.str (Str.ofString "GeneratorExit") (nat_lit 85)) (Value.type "GeneratorExit")) :: (DictEntry.mk (PyData.keyHash P (Str.ofString "KeyboardInterrupt")) (Value.str (Str.ofString "KeyboardInterrupt") (nat_lit 86)) (Value.type "KeyboardInterrupt")) :: (DictEntry.mk (PyData.keyHash P (Str.ofString "SystemExit")) (Value.str (Str.ofString "SystemExit") (nat_lit 87)) (Value.type "SystemExit")) :: (DictEntry.mk (PyData.keyHash P (Str.ofString "ArithmeticError")) (Value.str (Str.ofString "ArithmeticError") (nat_lit 88)) (Value.type "ArithmeticError")) :: (DictEntry.mk (PyData.keyHash P (Str.ofString "AssertionError")) (Value.str (Str.ofString "AssertionError") (nat_lit 89)) (Value.type "AssertionError")) :: (DictEntry.mk (PyData.keyHash P (Str.ofString "AttributeError")) (Value.str (Str.ofString "AttributeError") (nat_lit 90)) (Value.type "AttributeError")) :: (DictEntry.mk (PyData.keyHash P (Str.ofString "BufferError")) (Value.str (Str.ofString "BufferError") (nat_lit 91)) (Value.type "BufferError")) :: (DictEntry.mk (PyData.keyHash P (Str.ofString "EOFError")) (Value.str (Str.ofString "EOFError") (nat_lit 92)) (Value.type "EOFError")) :: (DictEntry.mk (PyData.keyHash P (Str.ofString "ImportError")) (Value.str (Str.ofString "ImportError") (nat_lit 93)) (Value.type "ImportError")) :: (DictEntry.mk (PyData.keyHash P (Str.ofString "LookupError")) (Value.str (Str.ofString "LookupError") (nat_lit 94)) (Value.type "LookupError")) :: (DictEntry.mk (PyData.keyHash P (Str.ofString "MemoryError")) (Value.str (Str.ofString "MemoryError") (nat_lit 95)) (Value.type "MemoryError")) :: (DictEntry.mk (PyData.keyHash P (Str.ofString "NameError")) (Value.str (Str.ofString "NameError") (nat_lit 96)) (Value.type "NameError")) :: (DictEntry.mk (PyData.keyHash P (Str.ofString "OSError")) (Value.str (Str.ofString "OSError") (nat_lit 97)) (Value.type "OSError")) :: (DictEntry.mk (PyData.keyHash P (Str.ofString "ReferenceError")) (Value.str (Str.ofString "ReferenceError") (nat_lit 98)) (Value.type "ReferenceError")) :: (DictEntry.mk (PyData.keyHash P (Str.ofString "RuntimeError")) (Value.str (Str.ofString "RuntimeError") (nat_lit 99)) (Value.type "RuntimeError")) :: (DictEntry.mk (PyData.keyHash P (Str.ofString "StopAsyncIteration")) (Value.str (Str.ofString "StopAsyncIteration") (nat_lit 100)) (Value.type "StopAsyncIteration")) :: (DictEntry.mk (PyData.keyHash P (Str.ofString "StopIteration")) (Value.str (Str.ofString "StopIteration") (nat_lit 101)) (Value.type "StopIteration")) :: (DictEntry.mk (PyData.keyHash P (Str.ofString "SyntaxError")) (Value.str (Str.ofString "SyntaxError") (nat_lit 102)) (Value.type "SyntaxError")) :: (DictEntry.mk (PyData.keyHash P (Str.ofString "SystemError")) (Value.str (Str.ofString "SystemError") (nat_lit 103)) (Value.type "SystemError")) :: (DictEntry.mk (PyData.keyHash P (Str.ofString "TypeError")) (Value.str (Str.ofString "TypeError") (nat_lit 104)) (Value.type "TypeError")) :: (DictEntry.mk (PyData.keyHash P (Str.ofString "ValueError")) (Value.str (Str.ofString "ValueError") (nat_lit 105)) (Value.type "ValueError")) :: (DictEntry.mk (PyData.keyHash P (Str.ofString "Warning")) (Value.str (Str.ofString "Warning") (nat_lit 106)) (Value.type "Warning")) :: (DictEntry.mk (PyData.keyHash P (Str.ofString "FloatingPointError")) (Value.str (Str.ofString "FloatingPointError") (nat_lit 107)) (Value.type "FloatingPointError")) :: (DictEntry.mk (PyData.keyHash P (Str.ofString "OverflowError")) (Value.str (Str.ofString "OverflowError") (nat_lit 108)) (Value.type "OverflowError")) :: (DictEntry.mk (PyData.keyHash P (Str.ofString "ZeroDivisionError")) (Value.str (Str.ofString "ZeroDivisionError") (nat_lit 109)) (Value.type "ZeroDivisionError")) :: (DictEntry.mk (PyData.keyHash P (Str.ofString "BytesWarning")) (Value.str (Str.ofString "BytesWarning") (nat_lit 110)) (Value.type "BytesWarning")) :: (DictEntry.mk (PyData.keyHash P (Str.ofString "DeprecationWarning")) (Value.str (Str.ofString "DeprecationWarning") (nat_lit 111)) (Value.type "DeprecationWarning")) :: (DictEntry.mk (PyData.keyHash P (Str.ofString "EncodingWarning")) (Value.str (Str.ofString "EncodingWarning") (nat_lit 112)) (Value.type "EncodingWarning")) :: (DictEntry.mk (PyData.keyHash P (Str.ofString "FutureWarning")) (Value.str (Str.ofString "FutureWarning") (nat_lit 113)) (Value.type "FutureWarning")) :: (DictEntry.mk (PyData.keyHash P (Str.ofString "ImportWarning")) (Value.str (Str.ofString "ImportWarning") (nat_lit 114)) (Value.type "ImportWarning")) :: (DictEntry.mk (PyData.keyHash P (Str.mk (List.toArray (nat_lit 80 :: nat_lit 101 :: nat_lit 110 :: nat_lit 100 :: nat_lit 105 :: nat_lit 110 :: nat_lit 103 :: nat_lit 68 :: nat_lit 101 :: nat_lit 112 :: nat_lit 114 :: nat_lit 101 :: nat_lit 99 :: nat_lit 97 :: nat_lit 116 :: nat_lit 105 :: nat_lit 111 :: nat_lit 110 :: nat_lit 87 :: nat_lit 97 :: nat_lit 114 :: nat_lit 110 :: nat_lit 105 :: nat_lit 110 :: nat_lit 103 :: [])))) (Value.str (Str.mk (List.toArray (nat_lit 80 :: nat_lit 101 :: nat_lit 110 :: nat_lit 100 :: nat_lit 105 :: nat_lit 110 :: nat_lit 103 :: nat_lit 68 :: nat_lit 101 :: nat_lit 112 :: nat_lit 114 :: nat_lit 101 :: nat_lit 99 :: nat_lit 97 :: nat_lit 116 :: nat_lit 105 :: nat_lit 111 :: nat_lit 110 :: nat_lit 87 :: nat_lit 97 :: nat_lit 114 :: nat_lit 110 :: nat_lit 105 :: nat_lit 110 :: nat_lit 103 :: []))) (nat_lit 115)) (Value.type "PendingDeprecationWarning")) :: (DictEntry.mk (PyData.keyHash P (Str.ofString "ResourceWarning")) (Value.str (Str.ofString "ResourceWarning") (nat_lit 116)) (Value.type "ResourceWarning")) :: (DictEntry.mk (PyData.keyHash P (Str.ofString "RuntimeWarning")) (Value.str (Str.ofString "RuntimeWarning") (nat_lit 117)) (Value.type "RuntimeWarning")) :: (DictEntry.mk (PyData.keyHash P (Str.ofString "SyntaxWarning")) (Value.str (Str.ofString "SyntaxWarning") (nat_lit 118)) (Value.type "SyntaxWarning")) :: (DictEntry.mk (PyData.keyHash P (Str.ofString "UnicodeWarning")) (Value.str (Str.ofString "UnicodeWarning") (nat_lit 119)) (Value.type "UnicodeWarning")) :: (DictEntry.mk (PyData.keyHash P (Str.ofString "UserWarning")) (Value.str (Str.ofString "UserWarning") (nat_lit 120)) (Value.type "UserWarning")) :: (DictEntry.mk (PyData.keyHash P (Str.ofString "BlockingIOError")) (Value.str (Str.ofString "BlockingIOError") (nat_lit 121)) (Value.type "BlockingIOError")) :: (DictEntry.mk (PyData.keyHash P (Str.ofString "ChildProcessError")) (Value.str (Str.ofString "ChildProcessError") (nat_lit 122)) (Value.type "ChildProcessError")) :: (DictEntry.mk (PyData.keyHash P (Str.ofString "ConnectionError")) (Value.str (Str.ofString "ConnectionError") (nat_lit 123)) (Value.type "ConnectionError")) :: (DictEntry.mk (PyData.keyHash P (Str.ofString "FileExistsError")) (Value.str (Str.ofString "FileExistsError") (nat_lit 124)) (Value.type "FileExistsError")) :: (DictEntry.mk (PyData.keyHash P (Str.ofString "FileNotFoundError")) (Value.str (Str.ofString "FileNotFoundError") (nat_lit 125)) (Value.type "FileNotFoundError")) :: (DictEntry.mk (PyData.keyHash P (Str.ofString "InterruptedError")) (Value.str (Str.ofString "InterruptedError") (nat_lit 126)) (Value.type "InterruptedError")) :: (DictEntry.mk (PyData.keyHash P (Str.ofString "IsADirectoryError")) (Value.str (Str.ofString "IsADirectoryError") (nat_lit 127)) (Value.type "IsADirectoryError")) :: (DictEntry.mk (PyData.keyHash P (Str.ofString "NotADirectoryError")) (Value.str (Str.ofString "NotADirectoryError") (nat_lit 128)) (Value.type "NotADirectoryError")) :: (DictEntry.mk (PyData.keyHash P (Str.ofString "PermissionError")) (Value.str (Str.ofString "PermissionError") (nat_lit 129)) (Value.type "PermissionError")) :: (DictEntry.mk (PyData.keyHash P (Str.ofString "ProcessLookupError")) (Value.str (Str.ofString "ProcessLookupError") (nat_lit 130)) (Value.type "ProcessLookupError")) :: (DictEntry.mk (PyData.keyHash P (Str.ofString "TimeoutError")) (Value.str (Str.ofString "TimeoutError") (nat_lit 131)) (Value.type "TimeoutError")) :: (DictEntry.mk (PyData.keyHash P (Str.ofString "IndentationError")) (Value.str (Str.ofString "IndentationError") (nat_lit 132)) (Value.type "IndentationError")) :: (DictEntry.mk (PyData.keyHash P (Str.ofString "_IncompleteInputError")) (Value.str (Str.ofString "_IncompleteInputError") (nat_lit 133)) (Value.type "_IncompleteInputError")) :: (DictEntry.mk (PyData.keyHash P (Str.ofString "IndexError")) (Value.str (Str.ofString "IndexError") (nat_lit 134)) (Value.type "IndexError")) :: (DictEntry.mk (PyData.keyHash P (Str.ofString "KeyError")) (Value.str (Str.ofString "KeyError") (nat_lit 135)) (Value.type "KeyError")) :: (DictEntry.mk (PyData.keyHash P (Str.ofString "ModuleNotFoundError")) (Value.str (Str.ofString "ModuleNotFoundError") (nat_lit 136)) (Value.type "ModuleNotFoundError")) :: (DictEntry.mk (PyData.keyHash P (Str.ofString "NotImplementedError")) (Value.str (Str.ofString "NotImplementedError") (nat_lit 137)) (Value.type "NotImplementedError")) :: (DictEntry.mk (PyData.keyHash P (Str.ofString "PythonFinalizationError")) (Value.str (Str.ofString "PythonFinalizationError") (nat_lit 138)) (Value.type "PythonFinalizationError")) :: (DictEntry.mk (PyData.keyHash P (Str.ofString "RecursionError")) (Value.str (Str.ofString "RecursionError") (nat_lit 139)) (Value.type "RecursionError")) :: (DictEntry.mk (PyData.keyHash P (Str.ofString "UnboundLocalError")) (Value.str (Str.ofString "UnboundLocalError") (nat_lit 140)) (Value.type "UnboundLocalError")) :: (DictEntry.mk (PyData.keyHash P (Str.ofString "UnicodeError")) (Value.str (Str.ofString "UnicodeError") (nat_lit 141)) (Value.type "UnicodeError")) :: (DictEntry.mk (PyData.keyHash P (Str.ofString "BrokenPipeError")) (Value.str (Str.ofString "BrokenPipeError") (nat_lit 142)) (Value.type "BrokenPipeError")) :: (DictEntry.mk (PyData.keyHash P (Str.ofString "ConnectionAbortedError")) (Value.str (Str.ofString "ConnectionAbortedError") (nat_lit 143)) (Value.type "ConnectionAbortedError")) :: (DictEntry.mk (PyData.keyHash P (Str.ofString "ConnectionRefusedError")) (Value.str (Str.ofString "ConnectionRefusedError") (nat_lit 144)) (Value.type "ConnectionRefusedError")) :: (DictEntry.mk (PyData.keyHash P (Str.ofString "ConnectionResetError")) (Value.str (Str.ofString "ConnectionResetError") (nat_lit 145)) (Value.type "ConnectionResetError")) :: (DictEntry.mk (PyData.keyHash P (Str.ofString "TabError")) (Value.str (Str.ofString "TabError") (nat_lit 146)) (Value.type "TabError")) :: (DictEntry.mk (PyData.keyHash P (Str.ofString "UnicodeDecodeError")) (Value.str (Str.ofString "UnicodeDecodeError") (nat_lit 147)) (Value.type "UnicodeDecodeError")) :: (DictEntry.mk (PyData.keyHash P (Str.ofString "UnicodeEncodeError")) (Value.str (Str.ofString "UnicodeEncodeError") (nat_lit 148)) (Value.type "UnicodeEncodeError")) :: (DictEntry.mk (PyData.keyHash P (Str.ofString "UnicodeTranslateError")) (Value.str (Str.ofString "UnicodeTranslateError") (nat_lit 149)) (Value.type "UnicodeTranslateError")) :: (DictEntry.mk (PyData.keyHash P (Str.ofString "ExceptionGroup")) (Value.str (Str.ofString "ExceptionGroup") (nat_lit 150)) (Value.type "ExceptionGroup")) :: (DictEntry.mk (PyData.keyHash P (Str.ofString "EnvironmentError")) (Value.str (Str.ofString "EnvironmentError") (nat_lit 151)) (Value.type "OSError")) :: (DictEntry.mk (PyData.keyHash P (Str.ofString "IOError")) (Value.str (Str.ofString "IOError") (nat_lit 152)) (Value.type "OSError")) :: (DictEntry.mk (PyData.keyHash P (Str.ofString "open")) (Value.str (Str.ofString "open") (nat_lit 153)) (Value.builtin "open")) :: (DictEntry.mk (PyData.keyHash P (Str.ofString "quit")) (Value.str (Str.ofString "quit") (nat_lit 154)) (Value.builtin "builtins.quit#opaque")) :: (DictEntry.mk (PyData.keyHash P (Str.ofString "exit")) (Value.str (Str.ofString "exit") (nat_lit 155)) (Value.builtin "builtins.exit#opaque")) :: (DictEntry.mk (PyData.keyHash P (Str.ofString "copyright")) (Value.str (Str.ofString "copyright") (nat_lit 156)) (Value.builtin "builtins.copyright#opaque")) :: (DictEntry.mk (PyData.keyHash P (Str.ofString "credits")) (Value.str (Str.ofString "credits") (nat_lit 157)) (Value.builtin "builtins.credits#opaque")) :: (DictEntry.mk (PyData.keyHash P (Str.ofString "license")) (Value.str (Str.ofString "license") (nat_lit 158)) (Value.builtin "builtins.license#opaque")) :: (DictEntry.mk (PyData.keyHash P (Str.ofString "help")) (Value.str (Str.ofString "help") (nat_lit 159)) (Value.builtin "builtins.help#opaque")) :: [])) (nat_lit 159)) (List.toArray []))
noncomputable def hd.o1 (P : Params) : Obj := (Obj.mk (Value.type "dict") Option.none (Data.dict (List.toArray [(DictEntry.mk (PyData.keyHash P (Str.ofString "builtins")) (Value.str (Str.ofString "builtins") (nat_lit 162)) (Value.ref (nat_lit 4))), (DictEntry.mk (PyData.keyHash P (Str.ofString "__main__")) (Value.str (Str.ofString "__main__") (nat_lit 163)) (Value.ref (nat_lit 5))), (DictEntry.mk (PyData.keyHash P (Str.ofString "_sre")) (Value.str (Str.ofString "_sre") (nat_lit 244)) (Value.ref (nat_lit 12)))]) (nat_lit 3)) (List.toArray []))
noncomputable def hd.o2 (P : Params) : Obj := (Obj.mk Value.none Option.none (Data.dict (List.toArray ((DictEntry.mk (PyData.keyHash P (Str.ofString "\x69mport.loaded._sre")) (Value.str (Str.ofString "\x69mport.loaded._sre") (nat_lit 183)) (Value.bool Bool.true)) :: (DictEntry.mk (PyData.keyHash P (Str.mk (List.toArray (nat_lit 99 :: nat_lit 108 :: nat_lit 97 :: nat_lit 115 :: nat_lit 115 :: nat_lit 46 :: nat_lit 95 :: nat_lit 102 :: nat_lit 114 :: nat_lit 111 :: nat_lit 122 :: nat_lit 101 :: nat_lit 110 :: nat_lit 95 :: nat_lit 105 :: nat_lit 109 :: nat_lit 112 :: nat_lit 111 :: nat_lit 114 :: nat_lit 116 :: nat_lit 108 :: nat_lit 105 :: nat_lit 98 :: nat_lit 46 :: nat_lit 66 :: nat_lit 117 :: nat_lit 105 :: nat_lit 108 :: nat_lit 116 :: nat_lit 105 :: nat_lit 110 :: nat_lit 73 :: nat_lit 109 :: nat_lit 112 :: nat_lit 111 :: nat_lit 114 :: nat_lit 116 :: nat_lit 101 :: nat_lit 114 :: [])))) (Value.str (Str.mk (List.toArray (nat_lit 99 :: nat_lit 108 :: nat_lit 97 :: nat_lit 115 :: nat_lit 115 :: nat_lit 46 :: nat_lit 95 :: nat_lit 102 :: nat_lit 114 :: nat_lit 111 :: nat_lit 122 :: nat_lit 101 :: nat_lit 110 :: nat_lit 95 :: nat_lit 105 :: nat_lit 109 :: nat_lit 112 :: nat_lit 111 :: nat_lit 114 :: nat_lit 116 :: nat_lit 108 :: nat_lit 105 :: nat_lit 98 :: nat_lit 46 :: nat_lit 66 :: nat_lit 117 :: nat_lit 105 :: nat_lit 108 :: nat_lit 116 :: nat_lit 105 :: nat_lit 110 :: nat_lit 73 :: nat_lit 109 :: nat_lit 112 :: nat_lit 111 :: nat_lit 114 :: nat_lit 116 :: nat_lit 101 :: nat_lit 114 :: []))) (nat_lit 185)) (Value.ref (nat_lit 14))) :: (DictEntry.mk (PyData.keyHash P (Str.ofString "watched.\x69mport")) (Value.str (Str.ofString "watched.\x69mport") (nat_lit 206)) (Value.ref (nat_lit 18))) :: (DictEntry.mk (PyData.keyHash P (Str.mk (List.toArray (nat_lit 99 :: nat_lit 108 :: nat_lit 97 :: nat_lit 115 :: nat_lit 115 :: nat_lit 46 :: nat_lit 95 :: nat_lit 102 :: nat_lit 114 :: nat_lit 111 :: nat_lit 122 :: nat_lit 101 :: nat_lit 110 :: nat_lit 95 :: nat_lit 105 :: nat_lit 109 :: nat_lit 112 :: nat_lit 111 :: nat_lit 114 :: nat_lit 116 :: nat_lit 108 :: nat_lit 105 :: nat_lit 98 :: nat_lit 46 :: nat_lit 77 :: nat_lit 111 :: nat_lit 100 :: nat_lit 117 :: nat_lit 108 :: nat_lit 101 :: nat_lit 83 :: nat_lit 112 :: nat_lit 101 :: nat_lit 99 :: [])))) (Value.str (Str.mk (List.toArray (nat_lit 99 :: nat_lit 108 :: nat_lit 97 :: nat_lit 115 :: nat_lit 115 :: nat_lit 46 :: nat_lit 95 :: nat_lit 102 :: nat_lit 114 :: nat_lit 111 :: nat_lit 122 :: nat_lit 101 :: nat_lit 110 :: nat_lit 95 :: nat_lit 105 :: nat_lit 109 :: nat_lit 112 :: nat_lit 111 :: nat_lit 114 :: nat_lit 116 :: nat_lit 108 :: nat_lit 105 :: nat_lit 98 :: nat_lit 46 :: nat_lit 77 :: nat_lit 111 :: nat_lit 100 :: nat_lit 117 :: nat_lit 108 :: nat_lit 101 :: nat_lit 83 :: nat_lit 112 :: nat_lit 101 :: nat_lit 99 :: []))) (nat_lit 216)) (Value.ref (nat_lit 22))) :: (DictEntry.mk (PyData.keyHash P (Str.ofString "sys.modules.booked-epoch")) (Value.str (Str.ofString "sys.modules.booked-epoch") (nat_lit 245)) (Value.int (3 : Int) (nat_lit 0))) :: (DictEntry.mk (PyData.keyHash P (Str.ofString "\x69mport.later-laid._sre")) (Value.str (Str.ofString "\x69mport.later-laid._sre") (nat_lit 270)) (Value.bool Bool.true)) :: (DictEntry.mk (PyData.keyHash P (Str.ofString "watched.library")) (Value.str (Str.ofString "watched.library") (nat_lit 272)) (Value.ref (nat_lit 27))) :: (DictEntry.mk (PyData.keyHash P (Str.ofString "watched.library-objects")) (Value.str (Str.ofString "watched.library-objects") (nat_lit 0)) (Value.str (Str.ofString "\x0c") (nat_lit 0))) :: (DictEntry.mk (PyData.keyHash P (Str.mk (List.toArray (nat_lit 119 :: nat_lit 97 :: nat_lit 116 :: nat_lit 99 :: nat_lit 104 :: nat_lit 101 :: nat_lit 100 :: nat_lit 46 :: nat_lit 108 :: nat_lit 105 :: nat_lit 98 :: nat_lit 114 :: nat_lit 97 :: nat_lit 114 :: nat_lit 121 :: nat_lit 45 :: nat_lit 100 :: nat_lit 101 :: nat_lit 101 :: nat_lit 112 :: nat_lit 46 :: nat_lit 95 :: nat_lit 115 :: nat_lit 114 :: nat_lit 101 :: [])))) (Value.str (Str.mk (List.toArray (nat_lit 119 :: nat_lit 97 :: nat_lit 116 :: nat_lit 99 :: nat_lit 104 :: nat_lit 101 :: nat_lit 100 :: nat_lit 46 :: nat_lit 108 :: nat_lit 105 :: nat_lit 98 :: nat_lit 114 :: nat_lit 97 :: nat_lit 114 :: nat_lit 121 :: nat_lit 45 :: nat_lit 100 :: nat_lit 101 :: nat_lit 101 :: nat_lit 112 :: nat_lit 46 :: nat_lit 95 :: nat_lit 115 :: nat_lit 114 :: nat_lit 101 :: []))) (nat_lit 273)) (Value.str (Str.ofString "\x04\x00\x00\x0b\x04\x00\x00\x0b\x04\x00\x00\x03\x04\x00\x00\x0b\x08\x04dict\x02") (nat_lit 0))) :: [])) (nat_lit 9)) (List.toArray []))
noncomputable def hd.o4 (P : Params) : Obj := (Obj.mk (Value.type "module") (Option.some (nat_lit 0)) Data.plain (List.toArray []))
noncomputable def hd.o5 (P : Params) : Obj := (Obj.mk (Value.type "module") (Option.some (nat_lit 3)) Data.plain (List.toArray []))
noncomputable def hd.o6 (P : Params) : Obj := (Obj.mk (Value.type "dict") Option.none (Data.dict (List.toArray []) (nat_lit 0)) (List.toArray []))
noncomputable def hd.o7 (P : Params) : Obj := (Obj.mk (Value.type "tuple") Option.none (Data.seq (List.toArray []) (nat_lit 0)) (List.toArray []))
noncomputable def hd.o8 (P : Params) : Obj := (Obj.mk Value.none Option.none (Data.fields (List.toArray [])) (List.toArray []))
noncomputable def hd.o9 (P : Params) : Obj := (Obj.mk (Value.type "code") Option.none (Data.fields (List.toArray ((Value.str (Str.ofString "<module>") (nat_lit 176)) :: (Value.str (Str.ofString "<module>") (nat_lit 177)) :: (Value.str (Str.ofString "/claim/cut.py") (nat_lit 178)) :: (Value.int (1 : Int) (nat_lit 0)) :: (Value.int (0 : Int) (nat_lit 0)) :: (Value.int (0 : Int) (nat_lit 0)) :: (Value.int (0 : Int) (nat_lit 0)) :: (Value.int (0 : Int) (nat_lit 0)) :: (Value.ref (nat_lit 7)) :: (Value.bool Bool.false) :: (Value.int (175 : Int) (nat_lit 0)) :: (Value.ref (nat_lit 8)) :: Value.none :: Value.none :: Value.none :: Value.none :: (Value.int (179 : Int) (nat_lit 0)) :: (Value.int (1 : Int) (nat_lit 0)) :: (Value.str (Str.ofString "/claim/cut.py") (nat_lit 180)) :: []))) (List.toArray []))
noncomputable def hd.o10 (P : Params) : Obj := (Obj.mk (Value.type "frame") Option.none Data.plain (List.toArray ((Option.some (Value.ref (nat_lit 9))) :: (Option.some (Value.ref (nat_lit 3))) :: (Option.some (Value.ref (nat_lit 3))) :: Option.none :: (Option.some (Value.str (Str.ofString "__main__") (nat_lit 164))) :: Option.none :: (Option.some (Value.ref (nat_lit 0))) :: [])))
noncomputable def hd.o11 (P : Params) : Obj := (Obj.mk (Value.type "dict") Option.none (Data.dict (List.toArray ((DictEntry.mk (PyData.keyHash P (Str.ofString "__name__")) (Value.str (Str.ofString "__name__") (nat_lit 247)) (Value.str (Str.ofString "_sre") (nat_lit 246))) :: (DictEntry.mk (PyData.keyHash P (Str.ofString "__doc__")) (Value.str (Str.ofString "__doc__") (nat_lit 248)) Value.none) :: (DictEntry.mk (PyData.keyHash P (Str.ofString "__package__")) (Value.str (Str.ofString "__package__") (nat_lit 250)) (Value.str (Str.ofString "") (nat_lit 249))) :: (DictEntry.mk (PyData.keyHash P (Str.ofString "__loader__")) (Value.str (Str.ofString "__loader__") (nat_lit 251)) (Value.builtin "off-the-table:_sre.__loader__:shared#opaque")) :: (DictEntry.mk (PyData.keyHash P (Str.ofString "__spec__")) (Value.str (Str.ofString "__spec__") (nat_lit 252)) (Value.builtin "off-the-table:_sre.__spec__:shared#opaque")) :: (DictEntry.mk (PyData.keyHash P (Str.ofString "compile")) (Value.str (Str.ofString "compile") (nat_lit 253)) (Value.builtin "_sre.compile")) :: (DictEntry.mk (PyData.keyHash P (Str.ofString "template")) (Value.str (Str.ofString "template") (nat_lit 254)) (Value.builtin "off-the-table:_sre.template:shared#opaque")) :: (DictEntry.mk (PyData.keyHash P (Str.ofString "getcodesize")) (Value.str (Str.ofString "getcodesize") (nat_lit 255)) (Value.builtin "off-the-table:_sre.getcodesize:shared#opaque")) :: (DictEntry.mk (PyData.keyHash P (Str.ofString "ascii_iscased")) (Value.str (Str.ofString "ascii_iscased") (nat_lit 256)) (Value.builtin "off-the-table:_sre.ascii_iscased:shared#opaque")) :: (DictEntry.mk (PyData.keyHash P (Str.ofString "unicode_iscased")) (Value.str (Str.ofString "unicode_iscased") (nat_lit 257)) (Value.builtin "off-the-table:_sre.unicode_iscased:shared#opaque")) :: (DictEntry.mk (PyData.keyHash P (Str.ofString "ascii_tolower")) (Value.str (Str.ofString "ascii_tolower") (nat_lit 258)) (Value.builtin "off-the-table:_sre.ascii_tolower:shared#opaque")) :: (DictEntry.mk (PyData.keyHash P (Str.ofString "unicode_tolower")) (Value.str (Str.ofString "unicode_tolower") (nat_lit 259)) (Value.builtin "off-the-table:_sre.unicode_tolower:shared#opaque")) :: (DictEntry.mk (PyData.keyHash P (Str.ofString "MAGIC")) (Value.str (Str.ofString "MAGIC") (nat_lit 261)) (Value.int (20230612 : Int) (nat_lit 260))) :: (DictEntry.mk (PyData.keyHash P (Str.ofString "CODESIZE")) (Value.str (Str.ofString "CODESIZE") (nat_lit 263)) (Value.int (4 : Int) (nat_lit 262))) :: (DictEntry.mk (PyData.keyHash P (Str.ofString "MAXREPEAT")) (Value.str (Str.ofString "MAXREPEAT") (nat_lit 265)) (Value.int (4294967295 : Int) (nat_lit 264))) :: (DictEntry.mk (PyData.keyHash P (Str.ofString "MAXGROUPS")) (Value.str (Str.ofString "MAXGROUPS") (nat_lit 267)) (Value.int (1073741823 : Int) (nat_lit 266))) :: (DictEntry.mk (PyData.keyHash P (Str.ofString "copyright")) (Value.str (Str.ofString "copyright") (nat_lit 269)) (Value.str (Str.mk (List.toArray (nat_lit 32 :: nat_lit 83 :: nat_lit 82 :: nat_lit 69 :: nat_lit 32 :: nat_lit 50 :: nat_lit 46 :: nat_lit 50 :: nat_lit 46 :: nat_lit 50 :: nat_lit 32 :: nat_lit 67 :: nat_lit 111 :: nat_lit 112 :: nat_lit 121 :: nat_lit 114 :: nat_lit 105 :: nat_lit 103 :: nat_lit 104 :: nat_lit 116 :: nat_lit 32 :: nat_lit 40 :: nat_lit 99 :: nat_lit 41 :: nat_lit 32 :: nat_lit 49 :: nat_lit 57 :: nat_lit 57 :: nat_lit 55 :: nat_lit 45 :: nat_lit 50 :: nat_lit 48 :: nat_lit 48 :: nat_lit 50 :: nat_lit 32 :: nat_lit 98 :: nat_lit 121 :: nat_lit 32 :: nat_lit 83 :: nat_lit 101 :: nat_lit 99 :: nat_lit 114 :: nat_lit 101 :: nat_lit 116 :: nat_lit 32 :: nat_lit 76 :: nat_lit 97 :: nat_lit 98 :: nat_lit 115 :: nat_lit 32 :: nat_lit 65 :: nat_lit 66 :: nat_lit 32 :: []))) (nat_lit 268))) :: [])) (nat_lit 17)) (List.toArray []))
noncomputable def hd.o12 (P : Params) : Obj := (Obj.mk (Value.type "module") (Option.some (nat_lit 11)) Data.plain (List.toArray []))
noncomputable def hd.o13 (P : Params) : Obj := (Obj.mk (Value.type "dict") Option.none (Data.dict (List.toArray ((DictEntry.mk (PyData.keyHash P (Str.ofString "__module__")) (Value.str (Str.ofString "__module__") (nat_lit 189)) (Value.str (Str.ofString "_frozen_\x69mportlib") (nat_lit 186))) :: (DictEntry.mk (PyData.keyHash P (Str.ofString "__firstlineno__")) (Value.str (Str.ofString "__firstlineno__") (nat_lit 190)) (Value.int (971 : Int) (nat_lit 187))) :: (DictEntry.mk (PyData.keyHash P (Str.ofString "__doc__")) (Value.str (Str.ofString "__doc__") (nat_lit 191)) (Value.builtin "_frozen_\x69mportlib.BuiltinImporter.__doc__:str#opaque")) :: (DictEntry.mk (PyData.keyHash P (Str.ofString "_ORIGIN")) (Value.str (Str.ofString "_ORIGIN") (nat_lit 192)) (Value.str (Str.ofString "built-in") (nat_lit 188))) :: (DictEntry.mk (PyData.keyHash P (Str.ofString "find_spec")) (Value.str (Str.ofString "find_spec") (nat_lit 193)) (Value.builtin "_frozen_\x69mportlib.BuiltinImporter.find_spec#opaque")) :: (DictEntry.mk (PyData.keyHash P (Str.ofString "create_module")) (Value.str (Str.ofString "create_module") (nat_lit 194)) (Value.builtin "_frozen_\x69mportlib.BuiltinImporter.create_module#opaque")) :: (DictEntry.mk (PyData.keyHash P (Str.ofString "exec_module")) (Value.str (Str.ofString "exec_module") (nat_lit 195)) (Value.builtin "_frozen_\x69mportlib.BuiltinImporter.exec_module#opaque")) :: (DictEntry.mk (PyData.keyHash P (Str.ofString "get_code")) (Value.str (Str.ofString "get_code") (nat_lit 196)) (Value.builtin "_frozen_\x69mportlib.BuiltinImporter.get_code#opaque")) :: (DictEntry.mk (PyData.keyHash P (Str.ofString "get_source")) (Value.str (Str.ofString "get_source") (nat_lit 197)) (Value.builtin "_frozen_\x69mportlib.BuiltinImporter.get_source#opaque")) :: (DictEntry.mk (PyData.keyHash P (Str.ofString "is_package")) (Value.str (Str.ofString "is_package") (nat_lit 198)) (Value.builtin "_frozen_\x69mportlib.BuiltinImporter.is_package#opaque")) :: (DictEntry.mk (PyData.keyHash P (Str.ofString "load_module")) (Value.str (Str.ofString "load_module") (nat_lit 199)) (Value.builtin "_frozen_\x69mportlib.BuiltinImporter.load_module#opaque")) :: (DictEntry.mk (PyData.keyHash P (Str.ofString "__static_attributes__")) (Value.str (Str.ofString "__static_attributes__") (nat_lit 200)) (Value.ref (nat_lit 15))) :: (DictEntry.mk (PyData.keyHash P (Str.ofString "__dict__")) (Value.str (Str.ofString "__dict__") (nat_lit 202)) (Value.ref (nat_lit 16))) :: (DictEntry.mk (PyData.keyHash P (Str.ofString "__weakref__")) (Value.str (Str.ofString "__weakref__") (nat_lit 204)) (Value.ref (nat_lit 17))) :: [])) (nat_lit 14)) (List.toArray []))
noncomputable def hd.o14 (P : Params) : Obj := (Obj.mk (Value.type "type") Option.none (Data.cls (ClassData.mk (Str.ofString "BuiltinImporter") [(Value.type "object")] [(Value.ref (nat_lit 14)), (Value.type "object")] (nat_lit 13) (Str.ofString "BuiltinImporter") Bool.true [] [] Bool.false Option.none Bool.false)) (List.toArray []))
noncomputable def hd.o15 (P : Params) : Obj := (Obj.mk (Value.type "tuple") Option.none (Data.seq (List.toArray []) (nat_lit 0)) (List.toArray []))
noncomputable def hd.o16 (P : Params) : Obj := (Obj.mk (Value.type "getset_descriptor") Option.none (Data.fields (List.toArray [(Value.str (Str.ofString "__dict__") (nat_lit 201)), (Value.ref (nat_lit 14)), (Value.builtin "function.__dict__"), (Value.builtin "function.__dict__#set")])) (List.toArray []))
noncomputable def hd.o17 (P : Params) : Obj := (Obj.mk (Value.type "getset_descriptor") Option.none (Data.fields (List.toArray [(Value.str (Str.ofString "__weakref__") (nat_lit 203)), (Value.ref (nat_lit 14)), (Value.builtin "ExceptionGroup.__weakref__"), Value.none])) (List.toArray []))
noncomputable def hd.o18 (P : Params) : Obj := (Obj.mk Value.none Option.none (Data.seq (List.toArray ((Value.int (13 : Int) (nat_lit 0)) :: (Value.str (Str.mk (List.toArray (nat_lit 6 :: nat_lit 189 :: nat_lit 10 :: nat_lit 95 :: nat_lit 95 :: nat_lit 109 :: nat_lit 111 :: nat_lit 100 :: nat_lit 117 :: nat_lit 108 :: nat_lit 101 :: nat_lit 95 :: nat_lit 95 :: nat_lit 6 :: nat_lit 186 :: nat_lit 17 :: nat_lit 95 :: nat_lit 102 :: nat_lit 114 :: nat_lit 111 :: nat_lit 122 :: nat_lit 101 :: nat_lit 110 :: nat_lit 95 :: nat_lit 105 :: nat_lit 109 :: nat_lit 112 :: nat_lit 111 :: nat_lit 114 :: nat_lit 116 :: nat_lit 108 :: nat_lit 105 :: nat_lit 98 :: nat_lit 6 :: nat_lit 190 :: nat_lit 15 :: nat_lit 95 :: nat_lit 95 :: nat_lit 102 :: nat_lit 105 :: nat_lit 114 :: nat_lit 115 :: nat_lit 116 :: nat_lit 108 :: nat_lit 105 :: nat_lit 110 :: nat_lit 101 :: nat_lit 110 :: nat_lit 111 :: nat_lit 95 :: nat_lit 95 :: nat_lit 4 :: nat_lit 187 :: nat_lit 0 :: nat_lit 971 :: nat_lit 6 :: nat_lit 191 :: nat_lit 7 :: nat_lit 95 :: nat_lit 95 :: nat_lit 100 :: nat_lit 111 :: nat_lit 99 :: nat_lit 95 :: nat_lit 95 :: nat_lit 9 :: nat_lit 52 :: nat_lit 95 :: nat_lit 102 :: nat_lit 114 :: nat_lit 111 :: nat_lit 122 :: nat_lit 101 :: nat_lit 110 :: nat_lit 95 :: nat_lit 105 :: nat_lit 109 :: nat_lit 112 :: nat_lit 111 :: nat_lit 114 :: nat_lit 116 :: nat_lit 108 :: nat_lit 105 :: nat_lit 98 :: nat_lit 46 :: nat_lit 66 :: nat_lit 117 :: nat_lit 105 :: nat_lit 108 :: nat_lit 116 :: nat_lit 105 :: nat_lit 110 :: nat_lit 73 :: nat_lit 109 :: nat_lit 112 :: nat_lit 111 :: nat_lit 114 :: nat_lit 116 :: nat_lit 101 :: nat_lit 114 :: nat_lit 46 :: nat_lit 95 :: nat_lit 95 :: nat_lit 100 :: nat_lit 111 :: nat_lit 99 :: nat_lit 95 :: nat_lit 95 :: nat_lit 58 :: nat_lit 115 :: nat_lit 116 :: nat_lit 114 :: nat_lit 35 :: nat_lit 111 :: nat_lit 112 :: nat_lit 97 :: nat_lit 113 :: nat_lit 117 :: nat_lit 101 :: nat_lit 6 :: nat_lit 192 :: nat_lit 7 :: nat_lit 95 :: nat_lit 79 :: nat_lit 82 :: nat_lit 73 :: nat_lit 71 :: nat_lit 73 :: nat_lit 78 :: nat_lit 6 :: nat_lit 188 :: nat_lit 8 :: nat_lit 98 :: nat_lit 117 :: nat_lit 105 :: nat_lit 108 :: nat_lit 116 :: nat_lit 45 :: nat_lit 105 :: nat_lit 110 :: nat_lit 6 :: nat_lit 193 :: nat_lit 9 :: nat_lit 102 :: nat_lit 105 :: nat_lit 110 :: nat_lit 100 :: nat_lit 95 :: nat_lit 115 :: nat_lit 112 :: nat_lit 101 :: nat_lit 99 :: nat_lit 9 :: nat_lit 50 :: nat_lit 95 :: nat_lit 102 :: nat_lit 114 :: nat_lit 111 :: nat_lit 122 :: nat_lit 101 :: nat_lit 110 :: nat_lit 95 :: nat_lit 105 :: nat_lit 109 :: nat_lit 112 :: nat_lit 111 :: nat_lit 114 :: nat_lit 116 :: nat_lit 108 :: nat_lit 105 :: nat_lit 98 :: nat_lit 46 :: nat_lit 66 :: nat_lit 117 :: nat_lit 105 :: nat_lit 108 :: nat_lit 116 :: nat_lit 105 :: nat_lit 110 :: nat_lit 73 :: nat_lit 109 :: nat_lit 112 :: nat_lit 111 :: nat_lit 114 :: nat_lit 116 :: nat_lit 101 :: nat_lit 114 :: nat_lit 46 :: nat_lit 102 :: nat_lit 105 :: nat_lit 110 :: nat_lit 100 :: nat_lit 95 :: nat_lit 115 :: nat_lit 112 :: nat_lit 101 :: nat_lit 99 :: nat_lit 35 :: nat_lit 111 :: nat_lit 112 :: nat_lit 97 :: nat_lit 113 :: nat_lit 117 :: nat_lit 101 :: nat_lit 6 :: nat_lit 194 :: nat_lit 13 :: nat_lit 99 :: nat_lit 114 :: nat_lit 101 :: nat_lit 97 :: nat_lit 116 :: nat_lit 101 :: nat_lit 95 :: nat_lit 109 :: nat_lit 111 :: nat_lit 100 :: nat_lit 117 :: nat_lit 108 :: nat_lit 101 :: nat_lit 9 :: nat_lit 54 :: nat_lit 95 :: nat_lit 102 :: nat_lit 114 :: nat_lit 111 :: nat_lit 122 :: nat_lit 101 :: nat_lit 110 :: nat_lit 95 :: nat_lit 105 :: nat_lit 109 :: nat_lit 112 :: nat_lit 111 :: nat_lit 114 :: nat_lit 116 :: nat_lit 108 :: nat_lit 105 :: nat_lit 98 :: nat_lit 46 :: nat_lit 66 :: nat_lit 117 :: nat_lit 105 :: nat_lit 108 :: nat_lit 116 :: nat_lit 105 :: nat_lit 110 :: nat_lit 73 :: nat_lit 109 :: nat_lit 112 :: nat_lit 111 :: nat_lit 114 :: nat_lit 116 :: nat_lit 101 :: nat_lit 114 :: nat_lit 46 :: nat_lit 99 :: nat_lit 114 :: nat_lit 101 :: nat_lit 97 :: nat_lit 116 :: nat_lit 101 :: nat_lit 95 :: nat_lit 109 :: nat_lit 111 :: nat_lit 100 :: nat_lit 117 :: nat_lit 108 :: nat_lit 101 :: nat_lit 35 :: nat_lit 111 :: nat_lit 112 :: nat_lit 97 :: nat_lit 113 :: nat_lit 117 :: nat_lit 101 :: nat_lit 6 :: nat_lit 195 :: nat_lit 11 :: nat_lit 101 :: nat_lit 120 :: nat_lit 101 :: nat_lit 99 :: nat_lit 95 :: nat_lit 109 :: nat_lit 111 :: nat_lit 100 :: nat_lit 117 :: nat_lit 108 :: nat_lit 101 :: nat_lit 9 :: nat_lit 52 :: nat_lit 95 :: nat_lit 102 :: nat_lit 114 :: nat_lit 111 :: nat_lit 122 :: nat_lit 101 :: nat_lit 110 :: nat_lit 95 :: nat_lit 105 :: nat_lit 109 :: nat_lit 112 :: nat_lit 111 :: nat_lit 114 :: nat_lit 116 :: nat_lit 108 :: nat_lit 105 :: nat_lit 98 :: nat_lit 46 :: nat_lit 66 :: nat_lit 117 :: nat_lit 105 :: nat_lit 108 :: nat_lit 116 :: nat_lit 105 :: nat_lit 110 :: nat_lit 73 :: nat_lit 109 :: nat_lit 112 :: nat_lit 111 :: nat_lit 114 :: nat_lit 116 :: nat_lit 101 :: nat_lit 114 :: nat_lit 46 :: nat_lit 101 :: nat_lit 120 :: nat_lit 101 :: nat_lit 99 :: nat_lit 95 :: nat_lit 109 :: nat_lit 111 :: nat_lit 100 :: nat_lit 117 :: nat_lit 108 :: nat_lit 101 :: nat_lit 35 :: nat_lit 111 :: nat_lit 112 :: nat_lit 97 :: nat_lit 113 :: nat_lit 117 :: nat_lit 101 :: nat_lit 6 :: nat_lit 196 :: nat_lit 8 :: nat_lit 103 :: nat_lit 101 :: nat_lit 116 :: nat_lit 95 :: nat_lit 99 :: nat_lit 111 :: nat_lit 100 :: nat_lit 101 :: nat_lit 9 :: nat_lit 49 :: nat_lit 95 :: nat_lit 102 :: nat_lit 114 :: nat_lit 111 :: nat_lit 122 :: nat_lit 101 :: nat_lit 110 :: nat_lit 95 :: nat_lit 105 :: nat_lit 109 :: nat_lit 112 :: nat_lit 111 :: nat_lit 114 :: nat_lit 116 :: nat_lit 108 :: nat_lit 105 :: nat_lit 98 :: nat_lit 46 :: nat_lit 66 :: nat_lit 117 :: nat_lit 105 :: nat_lit 108 :: nat_lit 116 :: nat_lit 105 :: nat_lit 110 :: nat_lit 73 :: nat_lit 109 :: nat_lit 112 :: nat_lit 111 :: nat_lit 114 :: nat_lit 116 :: nat_lit 101 :: nat_lit 114 :: nat_lit 46 :: nat_lit 103 :: nat_lit 101 :: nat_lit 116 :: nat_lit 95 :: nat_lit 99 :: nat_lit 111 :: nat_lit 100 :: nat_lit 101 :: nat_lit 35 :: nat_lit 111 :: nat_lit 112 :: nat_lit 97 :: nat_lit 113 :: nat_lit 117 :: nat_lit 101 :: nat_lit 6 :: nat_lit 197 :: nat_lit 10 :: nat_lit 103 :: nat_lit 101 :: nat_lit 116 :: nat_lit 95 :: nat_lit 115 :: nat_lit 111 :: nat_lit 117 :: nat_lit 114 :: nat_lit 99 :: nat_lit 101 :: nat_lit 9 :: nat_lit 51 :: nat_lit 95 :: nat_lit 102 :: nat_lit 114 :: nat_lit 111 :: nat_lit 122 :: nat_lit 101 :: nat_lit 110 :: nat_lit 95 :: nat_lit 105 :: nat_lit 109 :: nat_lit 112 :: nat_lit 111 :: nat_lit 114 :: nat_lit 116 :: nat_lit 108 :: nat_lit 105 :: nat_lit 98 :: nat_lit 46 :: nat_lit 66 :: nat_lit 117 :: nat_lit 105 :: nat_lit 108 :: nat_lit 116 :: nat_lit 105 :: nat_lit 110 :: nat_lit 73 :: nat_lit 109 :: nat_lit 112 :: nat_lit 111 :: nat_lit 114 :: nat_lit 116 :: nat_lit 101 :: nat_lit 114 :: nat_lit 46 :: nat_lit 103 :: nat_lit 101 :: nat_lit 116 :: nat_lit 95 :: nat_lit 115 :: nat_lit 111 :: nat_lit 117 :: nat_lit 114 :: nat_lit 99 :: nat_lit 101 :: nat_lit 35 :: nat_lit 111 :: nat_lit 112 :: nat_lit 97 :: nat_lit 113 :: nat_lit 117 :: nat_lit 101 :: nat_lit 6 :: nat_lit 198 :: nat_lit 10 :: nat_lit 105 :: nat_lit 115 :: nat_lit 95 :: nat_lit 112 :: nat_lit 97 :: nat_lit 99 :: nat_lit 107 :: nat_lit 97 :: nat_lit 103 :: nat_lit 101 :: nat_lit 9 :: nat_lit 51 :: nat_lit 95 :: nat_lit 102 :: nat_lit 114 :: nat_lit 111 :: nat_lit 122 :: nat_lit 101 :: nat_lit 110 :: nat_lit 95 :: nat_lit 105 :: nat_lit 109 :: nat_lit 112 :: nat_lit 111 :: nat_lit 114 :: nat_lit 116 :: nat_lit 108 :: nat_lit 105 :: nat_lit 98 :: nat_lit 46 :: nat_lit 66 :: nat_lit 117 :: nat_lit 105 :: nat_lit 108 :: nat_lit 116 :: nat_lit 105 :: nat_lit 110 :: nat_lit 73 :: nat_lit 109 :: nat_lit 112 :: nat_lit 111 :: nat_lit 114 :: nat_lit 116 :: nat_lit 101 :: nat_lit 114 :: nat_lit 46 :: nat_lit 105 :: nat_lit 115 :: nat_lit 95 :: nat_lit 112 :: nat_lit 97 :: nat_lit 99 :: nat_lit 107 :: nat_lit 97 :: nat_lit 103 :: nat_lit 101 :: nat_lit 35 :: nat_lit 111 :: nat_lit 112 :: nat_lit 97 :: nat_lit 113 :: nat_lit 117 :: nat_lit 101 :: nat_lit 6 :: nat_lit 199 :: nat_lit 11 :: nat_lit 108 :: nat_lit 111 :: nat_lit 97 :: nat_lit 100 :: nat_lit 95 :: nat_lit 109 :: nat_lit 111 :: nat_lit 100 :: nat_lit 117 :: nat_lit 108 :: nat_lit 101 :: nat_lit 9 :: nat_lit 52 :: nat_lit 95 :: nat_lit 102 :: nat_lit 114 :: nat_lit 111 :: nat_lit 122 :: nat_lit 101 :: nat_lit 110 :: nat_lit 95 :: nat_lit 105 :: nat_lit 109 :: nat_lit 112 :: nat_lit 111 :: nat_lit 114 :: nat_lit 116 :: nat_lit 108 :: nat_lit 105 :: nat_lit 98 :: nat_lit 46 :: nat_lit 66 :: nat_lit 117 :: nat_lit 105 :: nat_lit 108 :: nat_lit 116 :: nat_lit 105 :: nat_lit 110 :: nat_lit 73 :: nat_lit 109 :: nat_lit 112 :: nat_lit 111 :: nat_lit 114 :: nat_lit 116 :: nat_lit 101 :: nat_lit 114 :: nat_lit 46 :: nat_lit 108 :: nat_lit 111 :: nat_lit 97 :: nat_lit 100 :: nat_lit 95 :: nat_lit 109 :: nat_lit 111 :: nat_lit 100 :: nat_lit 117 :: nat_lit 108 :: nat_lit 101 :: nat_lit 35 :: nat_lit 111 :: nat_lit 112 :: nat_lit 97 :: nat_lit 113 :: nat_lit 117 :: nat_lit 101 :: nat_lit 6 :: nat_lit 200 :: nat_lit 21 :: nat_lit 95 :: nat_lit 95 :: nat_lit 115 :: nat_lit 116 :: nat_lit 97 :: nat_lit 116 :: nat_lit 105 :: nat_lit 99 :: nat_lit 95 :: nat_lit 97 :: nat_lit 116 :: nat_lit 116 :: nat_lit 114 :: nat_lit 105 :: nat_lit 98 :: nat_lit 117 :: nat_lit 116 :: nat_lit 101 :: nat_lit 115 :: nat_lit 95 :: nat_lit 95 :: nat_lit 4 :: nat_lit 0 :: nat_lit 0 :: nat_lit 15 :: nat_lit 6 :: nat_lit 202 :: nat_lit 8 :: nat_lit 95 :: nat_lit 95 :: nat_lit 100 :: nat_lit 105 :: nat_lit 99 :: nat_lit 116 :: nat_lit 95 :: nat_lit 95 :: nat_lit 4 :: nat_lit 0 :: nat_lit 0 :: nat_lit 16 :: nat_lit 6 :: nat_lit 204 :: nat_lit 11 :: nat_lit 95 :: nat_lit 95 :: nat_lit 119 :: nat_lit 101 :: nat_lit 97 :: nat_lit 107 :: nat_lit 114 :: nat_lit 101 :: nat_lit 102 :: nat_lit 95 :: nat_lit 95 :: nat_lit 4 :: nat_lit 0 :: nat_lit 0 :: nat_lit 17 :: []))) (nat_lit 0)) :: (Value.bool Bool.true) :: (Value.bool Bool.true) :: (Value.str (Str.ofString "") (nat_lit 205)) :: (Value.int (21 : Int) (nat_lit 0)) :: (Value.str (Str.mk (List.toArray (nat_lit 6 :: nat_lit 227 :: nat_lit 10 :: nat_lit 95 :: nat_lit 95 :: nat_lit 109 :: nat_lit 111 :: nat_lit 100 :: nat_lit 117 :: nat_lit 108 :: nat_lit 101 :: nat_lit 95 :: nat_lit 95 :: nat_lit 6 :: nat_lit 217 :: nat_lit 17 :: nat_lit 95 :: nat_lit 102 :: nat_lit 114 :: nat_lit 111 :: nat_lit 122 :: nat_lit 101 :: nat_lit 110 :: nat_lit 95 :: nat_lit 105 :: nat_lit 109 :: nat_lit 112 :: nat_lit 111 :: nat_lit 114 :: nat_lit 116 :: nat_lit 108 :: nat_lit 105 :: nat_lit 98 :: nat_lit 6 :: nat_lit 228 :: nat_lit 15 :: nat_lit 95 :: nat_lit 95 :: nat_lit 102 :: nat_lit 105 :: nat_lit 114 :: nat_lit 115 :: nat_lit 116 :: nat_lit 108 :: nat_lit 105 :: nat_lit 110 :: nat_lit 101 :: nat_lit 110 :: nat_lit 111 :: nat_lit 95 :: nat_lit 95 :: nat_lit 4 :: nat_lit 218 :: nat_lit 0 :: nat_lit 562 :: nat_lit 6 :: nat_lit 229 :: nat_lit 7 :: nat_lit 95 :: nat_lit 95 :: nat_lit 100 :: nat_lit 111 :: nat_lit 99 :: nat_lit 95 :: nat_lit 95 :: nat_lit 9 :: nat_lit 47 :: nat_lit 95 :: nat_lit 102 :: nat_lit 114 :: nat_lit 111 :: nat_lit 122 :: nat_lit 101 :: nat_lit 110 :: nat_lit 95 :: nat_lit 105 :: nat_lit 109 :: nat_lit 112 :: nat_lit 111 :: nat_lit 114 :: nat_lit 116 :: nat_lit 108 :: nat_lit 105 :: nat_lit 98 :: nat_lit 46 :: nat_lit 77 :: nat_lit 111 :: nat_lit 100 :: nat_lit 117 :: nat_lit 108 :: nat_lit 101 :: nat_lit 83 :: nat_lit 112 :: nat_lit 101 :: nat_lit 99 :: nat_lit 46 :: nat_lit 95 :: nat_lit 95 :: nat_lit 100 :: nat_lit 111 :: nat_lit 99 :: nat_lit 95 :: nat_lit 95 :: nat_lit 58 :: nat_lit 115 :: nat_lit 116 :: nat_lit 114 :: nat_lit 35 :: nat_lit 111 :: nat_lit 112 :: nat_lit 97 :: nat_lit 113 :: nat_lit 117 :: nat_lit 101 :: nat_lit 6 :: nat_lit 230 :: nat_lit 8 :: nat_lit 95 :: nat_lit 95 :: nat_lit 105 :: nat_lit 110 :: nat_lit 105 :: nat_lit 116 :: nat_lit 95 :: nat_lit 95 :: nat_lit 9 :: nat_lit 44 :: nat_lit 95 :: nat_lit 102 :: nat_lit 114 :: nat_lit 111 :: nat_lit 122 :: nat_lit 101 :: nat_lit 110 :: nat_lit 95 :: nat_lit 105 :: nat_lit 109 :: nat_lit 112 :: nat_lit 111 :: nat_lit 114 :: nat_lit 116 :: nat_lit 108 :: nat_lit 105 :: nat_lit 98 :: nat_lit 46 :: nat_lit 77 :: nat_lit 111 :: nat_lit 100 :: nat_lit 117 :: nat_lit 108 :: nat_lit 101 :: nat_lit 83 :: nat_lit 112 :: nat_lit 101 :: nat_lit 99 :: nat_lit 46 :: nat_lit 95 :: nat_lit 95 :: nat_lit 105 :: nat_lit 110 :: nat_lit 105 :: nat_lit 116 :: nat_lit 95 :: nat_lit 95 :: nat_lit 35 :: nat_lit 111 :: nat_lit 112 :: nat_lit 97 :: nat_lit 113 :: nat_lit 117 :: nat_lit 101 :: nat_lit 6 :: nat_lit 231 :: nat_lit 8 :: nat_lit 95 :: nat_lit 95 :: nat_lit 114 :: nat_lit 101 :: nat_lit 112 :: nat_lit 114 :: nat_lit 95 :: nat_lit 95 :: nat_lit 9 :: nat_lit 44 :: nat_lit 95 :: nat_lit 102 :: nat_lit 114 :: nat_lit 111 :: nat_lit 122 :: nat_lit 101 :: nat_lit 110 :: nat_lit 95 :: nat_lit 105 :: nat_lit 109 :: nat_lit 112 :: nat_lit 111 :: nat_lit 114 :: nat_lit 116 :: nat_lit 108 :: nat_lit 105 :: nat_lit 98 :: nat_lit 46 :: nat_lit 77 :: nat_lit 111 :: nat_lit 100 :: nat_lit 117 :: nat_lit 108 :: nat_lit 101 :: nat_lit 83 :: nat_lit 112 :: nat_lit 101 :: nat_lit 99 :: nat_lit 46 :: nat_lit 95 :: nat_lit 95 :: nat_lit 114 :: nat_lit 101 :: nat_lit 112 :: nat_lit 114 :: nat_lit 95 :: nat_lit 95 :: nat_lit 35 :: nat_lit 111 :: nat_lit 112 :: nat_lit 97 :: nat_lit 113 :: nat_lit 117 :: nat_lit 101 :: nat_lit 6 :: nat_lit 232 :: nat_lit 6 :: nat_lit 95 :: nat_lit 95 :: nat_lit 101 :: nat_lit 113 :: nat_lit 95 :: nat_lit 95 :: nat_lit 9 :: nat_lit 42 :: nat_lit 95 :: nat_lit 102 :: nat_lit 114 :: nat_lit 111 :: nat_lit 122 :: nat_lit 101 :: nat_lit 110 :: nat_lit 95 :: nat_lit 105 :: nat_lit 109 :: nat_lit 112 :: nat_lit 111 :: nat_lit 114 :: nat_lit 116 :: nat_lit 108 :: nat_lit 105 :: nat_lit 98 :: nat_lit 46 :: nat_lit 77 :: nat_lit 111 :: nat_lit 100 :: nat_lit 117 :: nat_lit 108 :: nat_lit 101 :: nat_lit 83 :: nat_lit 112 :: nat_lit 101 :: nat_lit 99 :: nat_lit 46 :: nat_lit 95 :: nat_lit 95 :: nat_lit 101 :: nat_lit 113 :: nat_lit 95 :: nat_lit 95 :: nat_lit 35 :: nat_lit 111 :: nat_lit 112 :: nat_lit 97 :: nat_lit 113 :: nat_lit 117 :: nat_lit 101 :: nat_lit 6 :: nat_lit 233 :: nat_lit 6 :: nat_lit 99 :: nat_lit 97 :: nat_lit 99 :: nat_lit 104 :: nat_lit 101 :: nat_lit 100 :: nat_lit 9 :: nat_lit 42 :: nat_lit 95 :: nat_lit 102 :: nat_lit 114 :: nat_lit 111 :: nat_lit 122 :: nat_lit 101 :: nat_lit 110 :: nat_lit 95 :: nat_lit 105 :: nat_lit 109 :: nat_lit 112 :: nat_lit 111 :: nat_lit 114 :: nat_lit 116 :: nat_lit 108 :: nat_lit 105 :: nat_lit 98 :: nat_lit 46 :: nat_lit 77 :: nat_lit 111 :: nat_lit 100 :: nat_lit 117 :: nat_lit 108 :: nat_lit 101 :: nat_lit 83 :: nat_lit 112 :: nat_lit 101 :: nat_lit 99 :: nat_lit 46 :: nat_lit 99 :: nat_lit 97 :: nat_lit 99 :: nat_lit 104 :: nat_lit 101 :: nat_lit 100 :: nat_lit 35 :: nat_lit 111 :: nat_lit 112 :: nat_lit 97 :: nat_lit 113 :: nat_lit 117 :: nat_lit 101 :: nat_lit 6 :: nat_lit 234 :: nat_lit 6 :: nat_lit 112 :: nat_lit 97 :: nat_lit 114 :: nat_lit 101 :: nat_lit 110 :: nat_lit 116 :: nat_lit 9 :: nat_lit 42 :: nat_lit 95 :: nat_lit 102 :: nat_lit 114 :: nat_lit 111 :: nat_lit 122 :: nat_lit 101 :: nat_lit 110 :: nat_lit 95 :: nat_lit 105 :: nat_lit 109 :: nat_lit 112 :: nat_lit 111 :: nat_lit 114 :: nat_lit 116 :: nat_lit 108 :: nat_lit 105 :: nat_lit 98 :: nat_lit 46 :: nat_lit 77 :: nat_lit 111 :: nat_lit 100 :: nat_lit 117 :: nat_lit 108 :: nat_lit 101 :: nat_lit 83 :: nat_lit 112 :: nat_lit 101 :: nat_lit 99 :: nat_lit 46 :: nat_lit 112 :: nat_lit 97 :: nat_lit 114 :: nat_lit 101 :: nat_lit 110 :: nat_lit 116 :: nat_lit 35 :: nat_lit 111 :: nat_lit 112 :: nat_lit 97 :: nat_lit 113 :: nat_lit 117 :: nat_lit 101 :: nat_lit 6 :: nat_lit 235 :: nat_lit 12 :: nat_lit 104 :: nat_lit 97 :: nat_lit 115 :: nat_lit 95 :: nat_lit 108 :: nat_lit 111 :: nat_lit 99 :: nat_lit 97 :: nat_lit 116 :: nat_lit 105 :: nat_lit 111 :: nat_lit 110 :: nat_lit 9 :: nat_lit 48 :: nat_lit 95 :: nat_lit 102 :: nat_lit 114 :: nat_lit 111 :: nat_lit 122 :: nat_lit 101 :: nat_lit 110 :: nat_lit 95 :: nat_lit 105 :: nat_lit 109 :: nat_lit 112 :: nat_lit 111 :: nat_lit 114 :: nat_lit 116 :: nat_lit 108 :: nat_lit 105 :: nat_lit 98 :: nat_lit 46 :: nat_lit 77 :: nat_lit 111 :: nat_lit 100 :: nat_lit 117 :: nat_lit 108 :: nat_lit 101 :: nat_lit 83 :: nat_lit 112 :: nat_lit 101 :: nat_lit 99 :: nat_lit 46 :: nat_lit 104 :: nat_lit 97 :: nat_lit 115 :: nat_lit 95 :: nat_lit 108 :: nat_lit 111 :: nat_lit 99 :: nat_lit 97 :: nat_lit 116 :: nat_lit 105 :: nat_lit 111 :: nat_lit 110 :: nat_lit 35 :: nat_lit 111 :: nat_lit 112 :: nat_lit 97 :: nat_lit 113 :: nat_lit 117 :: nat_lit 101 :: nat_lit 6 :: nat_lit 236 :: nat_lit 21 :: nat_lit 95 :: nat_lit 95 :: nat_lit 115 :: nat_lit 116 :: nat_lit 97 :: nat_lit 116 :: nat_lit 105 :: nat_lit 99 :: nat_lit 95 :: nat_lit 97 :: nat_lit 116 :: nat_lit 116 :: nat_lit 114 :: nat_lit 105 :: nat_lit 98 :: nat_lit 117 :: nat_lit 116 :: nat_lit 101 :: nat_lit 115 :: nat_lit 95 :: nat_lit 95 :: nat_lit 4 :: nat_lit 0 :: nat_lit 0 :: nat_lit 23 :: nat_lit 6 :: nat_lit 238 :: nat_lit 8 :: nat_lit 95 :: nat_lit 95 :: nat_lit 100 :: nat_lit 105 :: nat_lit 99 :: nat_lit 116 :: nat_lit 95 :: nat_lit 95 :: nat_lit 4 :: nat_lit 0 :: nat_lit 0 :: nat_lit 24 :: nat_lit 6 :: nat_lit 240 :: nat_lit 11 :: nat_lit 95 :: nat_lit 95 :: nat_lit 119 :: nat_lit 101 :: nat_lit 97 :: nat_lit 107 :: nat_lit 114 :: nat_lit 101 :: nat_lit 102 :: nat_lit 95 :: nat_lit 95 :: nat_lit 4 :: nat_lit 0 :: nat_lit 0 :: nat_lit 25 :: nat_lit 6 :: nat_lit 241 :: nat_lit 8 :: nat_lit 95 :: nat_lit 95 :: nat_lit 104 :: nat_lit 97 :: nat_lit 115 :: nat_lit 104 :: nat_lit 95 :: nat_lit 95 :: nat_lit 0 :: []))) (nat_lit 0)) :: (Value.bool Bool.true) :: (Value.bool Bool.true) :: (Value.str (Str.ofString "") (nat_lit 242)) :: [])) (nat_lit 1)) (List.toArray []))
noncomputable def hd.o19 (P : Params) : Obj := (Obj.mk (Value.type "list") Option.none (Data.seq (List.toArray []) (nat_lit 0)) (List.toArray []))
noncomputable def hd.o20 (P : Params) : Obj := (Obj.mk (Value.type "dict") Option.none (Data.dict (List.toArray ((DictEntry.mk (PyData.keyHash P (Str.ofString "name")) (Value.str (Str.ofString "name") (nat_lit 208)) (Value.str (Str.ofString "_sre") (nat_lit 207))) :: (DictEntry.mk (PyData.keyHash P (Str.ofString "loader")) (Value.str (Str.ofString "loader") (nat_lit 209)) (Value.ref (nat_lit 14))) :: (DictEntry.mk (PyData.keyHash P (Str.ofString "origin")) (Value.str (Str.ofString "origin") (nat_lit 210)) (Value.str (Str.ofString "built-in") (nat_lit 184))) :: (DictEntry.mk (PyData.keyHash P (Str.ofString "loader_state")) (Value.str (Str.ofString "loader_state") (nat_lit 211)) Value.none) :: (DictEntry.mk (PyData.keyHash P (Str.mk (List.toArray (nat_lit 115 :: nat_lit 117 :: nat_lit 98 :: nat_lit 109 :: nat_lit 111 :: nat_lit 100 :: nat_lit 117 :: nat_lit 108 :: nat_lit 101 :: nat_lit 95 :: nat_lit 115 :: nat_lit 101 :: nat_lit 97 :: nat_lit 114 :: nat_lit 99 :: nat_lit 104 :: nat_lit 95 :: nat_lit 108 :: nat_lit 111 :: nat_lit 99 :: nat_lit 97 :: nat_lit 116 :: nat_lit 105 :: nat_lit 111 :: nat_lit 110 :: nat_lit 115 :: [])))) (Value.str (Str.mk (List.toArray (nat_lit 115 :: nat_lit 117 :: nat_lit 98 :: nat_lit 109 :: nat_lit 111 :: nat_lit 100 :: nat_lit 117 :: nat_lit 108 :: nat_lit 101 :: nat_lit 95 :: nat_lit 115 :: nat_lit 101 :: nat_lit 97 :: nat_lit 114 :: nat_lit 99 :: nat_lit 104 :: nat_lit 95 :: nat_lit 108 :: nat_lit 111 :: nat_lit 99 :: nat_lit 97 :: nat_lit 116 :: nat_lit 105 :: nat_lit 111 :: nat_lit 110 :: nat_lit 115 :: []))) (nat_lit 212)) Value.none) :: (DictEntry.mk (PyData.keyHash P (Str.mk (List.toArray (nat_lit 95 :: nat_lit 117 :: nat_lit 110 :: nat_lit 105 :: nat_lit 110 :: nat_lit 105 :: nat_lit 116 :: nat_lit 105 :: nat_lit 97 :: nat_lit 108 :: nat_lit 105 :: nat_lit 122 :: nat_lit 101 :: nat_lit 100 :: nat_lit 95 :: nat_lit 115 :: nat_lit 117 :: nat_lit 98 :: nat_lit 109 :: nat_lit 111 :: nat_lit 100 :: nat_lit 117 :: nat_lit 108 :: nat_lit 101 :: nat_lit 115 :: [])))) (Value.str (Str.mk (List.toArray (nat_lit 95 :: nat_lit 117 :: nat_lit 110 :: nat_lit 105 :: nat_lit 110 :: nat_lit 105 :: nat_lit 116 :: nat_lit 105 :: nat_lit 97 :: nat_lit 108 :: nat_lit 105 :: nat_lit 122 :: nat_lit 101 :: nat_lit 100 :: nat_lit 95 :: nat_lit 115 :: nat_lit 117 :: nat_lit 98 :: nat_lit 109 :: nat_lit 111 :: nat_lit 100 :: nat_lit 117 :: nat_lit 108 :: nat_lit 101 :: nat_lit 115 :: []))) (nat_lit 213)) (Value.ref (nat_lit 19))) :: (DictEntry.mk (PyData.keyHash P (Str.ofString "_set_fileattr")) (Value.str (Str.ofString "_set_fileattr") (nat_lit 214)) (Value.bool Bool.false)) :: (DictEntry.mk (PyData.keyHash P (Str.ofString "_cached")) (Value.str (Str.ofString "_cached") (nat_lit 215)) Value.none) :: (DictEntry.mk (PyData.keyHash P (Str.ofString "_initializing")) (Value.str (Str.ofString "_initializing") (nat_lit 243)) (Value.bool Bool.false)) :: [])) (nat_lit 9)) (List.toArray []))
noncomputable def hd.o21 (P : Params) : Obj := (Obj.mk (Value.type "dict") Option.none (Data.dict (List.toArray ((DictEntry.mk (PyData.keyHash P (Str.ofString "__module__")) (Value.str (Str.ofString "__module__") (nat_lit 227)) (Value.str (Str.ofString "_frozen_\x69mportlib") (nat_lit 217))) :: (DictEntry.mk (PyData.keyHash P (Str.ofString "__firstlineno__")) (Value.str (Str.ofString "__firstlineno__") (nat_lit 228)) (Value.int (562 : Int) (nat_lit 218))) :: (DictEntry.mk (PyData.keyHash P (Str.ofString "__doc__")) (Value.str (Str.ofString "__doc__") (nat_lit 229)) (Value.builtin "_frozen_\x69mportlib.ModuleSpec.__doc__:str#opaque")) :: (DictEntry.mk (PyData.keyHash P (Str.ofString "__init__")) (Value.str (Str.ofString "__init__") (nat_lit 230)) (Value.builtin "_frozen_\x69mportlib.ModuleSpec.__init__#opaque")) :: (DictEntry.mk (PyData.keyHash P (Str.ofString "__repr__")) (Value.str (Str.ofString "__repr__") (nat_lit 231)) (Value.builtin "_frozen_\x69mportlib.ModuleSpec.__repr__#opaque")) :: (DictEntry.mk (PyData.keyHash P (Str.ofString "__eq__")) (Value.str (Str.ofString "__eq__") (nat_lit 232)) (Value.builtin "_frozen_\x69mportlib.ModuleSpec.__eq__#opaque")) :: (DictEntry.mk (PyData.keyHash P (Str.ofString "cached")) (Value.str (Str.ofString "cached") (nat_lit 233)) (Value.builtin "_frozen_\x69mportlib.ModuleSpec.cached#opaque")) :: (DictEntry.mk (PyData.keyHash P (Str.ofString "parent")) (Value.str (Str.ofString "parent") (nat_lit 234)) (Value.builtin "_frozen_\x69mportlib.ModuleSpec.parent#opaque")) :: (DictEntry.mk (PyData.keyHash P (Str.ofString "has_location")) (Value.str (Str.ofString "has_location") (nat_lit 235)) (Value.builtin "_frozen_\x69mportlib.ModuleSpec.has_location#opaque")) :: (DictEntry.mk (PyData.keyHash P (Str.ofString "__static_attributes__")) (Value.str (Str.ofString "__static_attributes__") (nat_lit 236)) (Value.ref (nat_lit 23))) :: (DictEntry.mk (PyData.keyHash P (Str.ofString "__dict__")) (Value.str (Str.ofString "__dict__") (nat_lit 238)) (Value.ref (nat_lit 24))) :: (DictEntry.mk (PyData.keyHash P (Str.ofString "__weakref__")) (Value.str (Str.ofString "__weakref__") (nat_lit 240)) (Value.ref (nat_lit 25))) :: (DictEntry.mk (PyData.keyHash P (Str.ofString "__hash__")) (Value.str (Str.ofString "__hash__") (nat_lit 241)) Value.none) :: [])) (nat_lit 13)) (List.toArray []))
noncomputable def hd.o22 (P : Params) : Obj := (Obj.mk (Value.type "type") Option.none (Data.cls (ClassData.mk (Str.ofString "ModuleSpec") [(Value.type "object")] [(Value.ref (nat_lit 22)), (Value.type "object")] (nat_lit 21) (Str.ofString "ModuleSpec") Bool.true [] [] Bool.false Option.none Bool.false)) (List.toArray []))
noncomputable def hd.o23 (P : Params) : Obj := (Obj.mk (Value.type "tuple") Option.none (Data.seq (List.toArray ((Value.str (Str.ofString "_cached") (nat_lit 219)) :: (Value.str (Str.ofString "_set_fileattr") (nat_lit 220)) :: (Value.str (Str.mk (List.toArray (nat_lit 95 :: nat_lit 117 :: nat_lit 110 :: nat_lit 105 :: nat_lit 110 :: nat_lit 105 :: nat_lit 116 :: nat_lit 105 :: nat_lit 97 :: nat_lit 108 :: nat_lit 105 :: nat_lit 122 :: nat_lit 101 :: nat_lit 100 :: nat_lit 95 :: nat_lit 115 :: nat_lit 117 :: nat_lit 98 :: nat_lit 109 :: nat_lit 111 :: nat_lit 100 :: nat_lit 117 :: nat_lit 108 :: nat_lit 101 :: nat_lit 115 :: []))) (nat_lit 221)) :: (Value.str (Str.ofString "loader") (nat_lit 222)) :: (Value.str (Str.ofString "loader_state") (nat_lit 223)) :: (Value.str (Str.ofString "name") (nat_lit 224)) :: (Value.str (Str.ofString "origin") (nat_lit 225)) :: (Value.str (Str.mk (List.toArray (nat_lit 115 :: nat_lit 117 :: nat_lit 98 :: nat_lit 109 :: nat_lit 111 :: nat_lit 100 :: nat_lit 117 :: nat_lit 108 :: nat_lit 101 :: nat_lit 95 :: nat_lit 115 :: nat_lit 101 :: nat_lit 97 :: nat_lit 114 :: nat_lit 99 :: nat_lit 104 :: nat_lit 95 :: nat_lit 108 :: nat_lit 111 :: nat_lit 99 :: nat_lit 97 :: nat_lit 116 :: nat_lit 105 :: nat_lit 111 :: nat_lit 110 :: nat_lit 115 :: []))) (nat_lit 226)) :: [])) (nat_lit 0)) (List.toArray []))
noncomputable def hd.o24 (P : Params) : Obj := (Obj.mk (Value.type "getset_descriptor") Option.none (Data.fields (List.toArray [(Value.str (Str.ofString "__dict__") (nat_lit 237)), (Value.ref (nat_lit 22)), (Value.builtin "function.__dict__"), (Value.builtin "function.__dict__#set")])) (List.toArray []))
noncomputable def hd.o25 (P : Params) : Obj := (Obj.mk (Value.type "getset_descriptor") Option.none (Data.fields (List.toArray [(Value.str (Str.ofString "__weakref__") (nat_lit 239)), (Value.ref (nat_lit 22)), (Value.builtin "ExceptionGroup.__weakref__"), Value.none])) (List.toArray []))
noncomputable def hd.o26 (P : Params) : Obj := (Obj.mk (Value.ref (nat_lit 22)) (Option.some (nat_lit 20)) Data.plain (List.toArray []))
noncomputable def hd.o27 (P : Params) : Obj := (Obj.mk Value.none Option.none (Data.seq (List.toArray [(Value.int (11 : Int) (nat_lit 0)), (Value.str (Str.mk (List.toArray ((nat_lit 6) :: (nat_lit 247) :: (nat_lit 8) :: (nat_lit 95) :: (nat_lit 95) :: (nat_lit 110) :: (nat_lit 97) :: (nat_lit 109) :: (nat_lit 101) :: (nat_lit 95) :: (nat_lit 95) :: (nat_lit 6) :: (nat_lit 246) :: (nat_lit 4) :: (nat_lit 95) :: (nat_lit 115) :: (nat_lit 114) :: (nat_lit 101) :: (nat_lit 6) :: (nat_lit 248) :: (nat_lit 7) :: (nat_lit 95) :: (nat_lit 95) :: (nat_lit 100) :: (nat_lit 111) :: (nat_lit 99) :: (nat_lit 95) :: (nat_lit 95) :: (nat_lit 0) :: (nat_lit 6) :: (nat_lit 250) :: (nat_lit 11) :: (nat_lit 95) :: (nat_lit 95) :: (nat_lit 112) :: (nat_lit 97) :: (nat_lit 99) :: (nat_lit 107) :: (nat_lit 97) :: (nat_lit 103) :: (nat_lit 101) :: (nat_lit 95) :: (nat_lit 95) :: (nat_lit 6) :: (nat_lit 249) :: (nat_lit 0) :: (nat_lit 6) :: (nat_lit 251) :: (nat_lit 10) :: (nat_lit 95) :: (nat_lit 95) :: (nat_lit 108) :: (nat_lit 111) :: (nat_lit 97) :: (nat_lit 100) :: (nat_lit 101) :: (nat_lit 114) :: (nat_lit 95) :: (nat_lit 95) :: (nat_lit 4) :: (nat_lit 0) :: (nat_lit 0) :: (nat_lit 14) :: (nat_lit 6) :: (nat_lit 252) :: (nat_lit 8) :: (nat_lit 95) :: (nat_lit 95) :: (nat_lit 115) :: (nat_lit 112) :: (nat_lit 101) :: (nat_lit 99) :: (nat_lit 95) :: (nat_lit 95) :: (nat_lit 4) :: (nat_lit 0) :: (nat_lit 0) :: (nat_lit 26) :: (nat_lit 6) :: (nat_lit 253) :: (nat_lit 7) :: (nat_lit 99) :: (nat_lit 111) :: (nat_lit 109) :: (nat_lit 112) :: (nat_lit 105) :: (nat_lit 108) :: (nat_lit 101) :: (nat_lit 9) :: (nat_lit 12) :: (nat_lit 95) :: (nat_lit 115) :: (nat_lit 114) :: (nat_lit 101) :: (nat_lit 46) :: (nat_lit 99) :: (nat_lit 111) :: (nat_lit 109) :: (nat_lit 112) :: (nat_lit 105) :: (nat_lit 108) :: (nat_lit 101) :: (nat_lit 6) :: (nat_lit 254) :: (nat_lit 8) :: (nat_lit 116) :: (nat_lit 101) :: (nat_lit 109) :: (nat_lit 112) :: (nat_lit 108) :: (nat_lit 97) :: (nat_lit 116) :: (nat_lit 101) :: (nat_lit 9) :: (nat_lit 13) :: (nat_lit 95) :: (nat_lit 115) :: (nat_lit 114) :: (nat_lit 101) :: (nat_lit 46) :: (nat_lit 116) :: (nat_lit 101) :: (nat_lit 109) :: (nat_lit 112) :: (nat_lit 108) :: (nat_lit 97) :: (nat_lit 116) :: (nat_lit 101) :: (nat_lit 6) :: (nat_lit 255) :: (nat_lit 11) :: (nat_lit 103) :: (nat_lit 101) :: (nat_lit 116) :: (nat_lit 99) :: (nat_lit 111) :: (nat_lit 100) :: (nat_lit 101) :: (nat_lit 115) :: (nat_lit 105) :: (nat_lit 122) :: (nat_lit 101) :: (nat_lit 9) :: (nat_lit 16) :: (nat_lit 95) :: (nat_lit 115) :: (nat_lit 114) :: (nat_lit 101) :: (nat_lit 46) :: (nat_lit 103) :: (nat_lit 101) :: (nat_lit 116) :: (nat_lit 99) :: (nat_lit 111) :: (nat_lit 100) :: (nat_lit 101) :: (nat_lit 115) :: (nat_lit 105) :: (nat_lit 122) :: (nat_lit 101) :: (nat_lit 6) :: (nat_lit 256) :: (nat_lit 13) :: (nat_lit 97) :: (nat_lit 115) :: (nat_lit 99) :: (nat_lit 105) :: (nat_lit 105) :: (nat_lit 95) :: (nat_lit 105) :: (nat_lit 115) :: (nat_lit 99) :: (nat_lit 97) :: (nat_lit 115) :: (nat_lit 101) :: (nat_lit 100) :: (nat_lit 9) :: (nat_lit 18) :: (nat_lit 95) :: (nat_lit 115) :: (nat_lit 114) :: (nat_lit 101) :: (nat_lit 46) :: (nat_lit 97) :: (nat_lit 115) :: (nat_lit 99) :: (nat_lit 105) :: (nat_lit 105) :: (nat_lit 95) :: (nat_lit 105) :: (nat_lit 115) :: (nat_lit 99) :: (nat_lit 97) :: (nat_lit 115) :: (nat_lit 101) :: (nat_lit 100) :: (nat_lit 6) :: (nat_lit 257) :: (nat_lit 15) :: (nat_lit 117) :: (nat_lit 110) :: (nat_lit 105) :: (nat_lit 99) :: (nat_lit 111) :: (nat_lit 100) :: (nat_lit 101) :: (nat_lit 95) :: (nat_lit 105) :: (nat_lit 115) :: (nat_lit 99) :: (nat_lit 97) :: (nat_lit 115) :: (nat_lit 101) :: (nat_lit 100) :: (nat_lit 9) :: (nat_lit 20) :: (nat_lit 95) :: (nat_lit 115) :: (nat_lit 114) :: (nat_lit 101) :: (nat_lit 46) :: (nat_lit 117) :: (nat_lit 110) :: (nat_lit 105) :: (nat_lit 99) :: (nat_lit 111) :: (nat_lit 100) :: (nat_lit 101) :: (nat_lit 95) :: (nat_lit 105) :: (nat_lit 115) :: (nat_lit 99) :: (nat_lit 97) :: (nat_lit 115) :: (nat_lit 101) :: (nat_lit 100) :: (nat_lit 6) :: (nat_lit 258) :: (nat_lit 13) :: (nat_lit 97) :: (nat_lit 115) :: (nat_lit 99) :: (nat_lit 105) :: (nat_lit 105) :: (nat_lit 95) :: (nat_lit 116) :: (nat_lit 111) :: (nat_lit 108) :: (nat_lit 111) :: (nat_lit 119) :: (nat_lit 101) :: (nat_lit 114) :: (nat_lit 9) :: (nat_lit 18) :: (nat_lit 95) :: (nat_lit 115) :: (nat_lit 114) :: (nat_lit 101) :: (nat_lit 46) :: (nat_lit 97) :: (nat_lit 115) :: (nat_lit 99) :: (nat_lit 105) :: (nat_lit 105) :: (nat_lit 95) :: (nat_lit 116) :: (nat_lit 111) :: (nat_lit 108) :: (nat_lit 111) :: (nat_lit 119) :: (nat_lit 101) :: (nat_lit 114) :: (nat_lit 6) :: (nat_lit 259) :: (nat_lit 15) :: (nat_lit 117) :: (nat_lit 110) :: (nat_lit 105) :: (nat_lit 99) :: (nat_lit 111) :: (nat_lit 100) :: (nat_lit 101) :: (nat_lit 95) :: (nat_lit 116) :: (nat_lit 111) :: (nat_lit 108) :: (nat_lit 111) :: (nat_lit 119) :: (nat_lit 101) :: (nat_lit 114) :: (nat_lit 9) :: (nat_lit 20) :: (nat_lit 95) :: (nat_lit 115) :: (nat_lit 114) :: (nat_lit 101) :: (nat_lit 46) :: (nat_lit 117) :: (nat_lit 110) :: (nat_lit 105) :: (nat_lit 99) :: (nat_lit 111) :: (nat_lit 100) :: (nat_lit 101) :: (nat_lit 95) :: (nat_lit 116) :: (nat_lit 111) :: (nat_lit 108) :: (nat_lit 111) :: (nat_lit 119) :: (nat_lit 101) :: (nat_lit 114) :: (nat_lit 6) :: (nat_lit 261) :: (nat_lit 5) :: (nat_lit 77) :: (nat_lit 65) :: (nat_lit 71) :: (nat_lit 73) :: (nat_lit 67) :: (nat_lit 4) :: (nat_lit 260) :: (nat_lit 0) :: (nat_lit 20230612) :: (nat_lit 6) :: (nat_lit 263) :: (nat_lit 8) :: (nat_lit 67) :: (nat_lit 79) :: (nat_lit 68) :: (nat_lit 69) :: (nat_lit 83) :: (nat_lit 73) :: (nat_lit 90) :: (nat_lit 69) :: (nat_lit 4) :: (nat_lit 262) :: (nat_lit 0) :: (nat_lit 4) :: (nat_lit 6) :: (nat_lit 265) :: (nat_lit 9) :: (nat_lit 77) :: (nat_lit 65) :: (nat_lit 88) :: (nat_lit 82) :: (nat_lit 69) :: (nat_lit 80) :: (nat_lit 69) :: (nat_lit 65) :: (nat_lit 84) :: (nat_lit 4) :: (nat_lit 264) :: (nat_lit 0) :: (nat_lit 4294967295) :: (nat_lit 6) :: (nat_lit 267) :: (nat_lit 9) :: (nat_lit 77) :: (nat_lit 65) :: (nat_lit 88) :: (nat_lit 71) :: (nat_lit 82) :: (nat_lit 79) :: (nat_lit 85) :: (nat_lit 80) :: (nat_lit 83) :: (nat_lit 4) :: (nat_lit 266) :: (nat_lit 0) :: (nat_lit 1073741823) :: (nat_lit 6) :: (nat_lit 269) :: (nat_lit 9) :: (nat_lit 99) :: (nat_lit 111) :: (nat_lit 112) :: (nat_lit 121) :: (nat_lit 114) :: (nat_lit 105) :: (nat_lit 103) :: (nat_lit 104) :: (nat_lit 116) :: (nat_lit 6) :: (nat_lit 268) :: (nat_lit 53) :: (nat_lit 32) :: (nat_lit 83) :: (nat_lit 82) :: (nat_lit 69) :: (nat_lit 32) :: (nat_lit 50) :: (nat_lit 46) :: (nat_lit 50) :: (nat_lit 46) :: (nat_lit 50) :: (nat_lit 32) :: (nat_lit 67) :: (nat_lit 111) :: (nat_lit 112) :: (nat_lit 121) :: (nat_lit 114) :: (nat_lit 105) :: (nat_lit 103) :: (nat_lit 104) :: (nat_lit 116) :: (nat_lit 32) :: (nat_lit 40) :: (nat_lit 99) :: (nat_lit 41) :: (nat_lit 32) :: (nat_lit 49) :: (nat_lit 57) :: (nat_lit 57) :: (nat_lit 55) :: (nat_lit 45) :: (nat_lit 50) :: (nat_lit 48) :: (nat_lit 48) :: (nat_lit 50) :: (nat_lit 32) :: (nat_lit 98) :: (nat_lit 121) :: (nat_lit 32) :: (nat_lit 83) :: (nat_lit 101) :: (nat_lit 99) :: (nat_lit 114) :: (nat_lit 101) :: (nat_lit 116) :: (nat_lit 32) :: (nat_lit 76) :: (nat_lit 97) :: (nat_lit 98) :: (nat_lit 115) :: (nat_lit 32) :: (nat_lit 65) :: (nat_lit 66) :: (nat_lit 32) :: []))) (nat_lit 0)), (Value.bool Bool.true), (Value.bool Bool.false), (Value.str (Str.ofString "_sre") (nat_lit 271))]) (nat_lit 0)) (List.toArray []))
noncomputable def hd.o28 (P : Params) : Obj := (Obj.mk (Value.type "tuple") Option.none (Data.seq (List.toArray []) (nat_lit 0)) (List.toArray []))
noncomputable def hd.o30 (P : Params) : Obj := (Obj.mk (Value.type "code") Option.none (Data.fields (List.toArray ((Value.str (Str.ofString "<module>") (nat_lit 277)) :: (Value.str (Str.ofString "<module>") (nat_lit 278)) :: (Value.str (Str.ofString "/claim/cut.py") (nat_lit 279)) :: (Value.int (1 : Int) (nat_lit 0)) :: (Value.int (0 : Int) (nat_lit 0)) :: (Value.int (0 : Int) (nat_lit 0)) :: (Value.int (0 : Int) (nat_lit 0)) :: (Value.int (0 : Int) (nat_lit 0)) :: (Value.ref (nat_lit 28)) :: (Value.bool Bool.false) :: (Value.int (276 : Int) (nat_lit 0)) :: (Value.ref (nat_lit 29)) :: Value.none :: Value.none :: Value.none :: Value.none :: (Value.int (280 : Int) (nat_lit 0)) :: (Value.int (1 : Int) (nat_lit 0)) :: (Value.str (Str.ofString "/claim/cut.py") (nat_lit 281)) :: []))) (List.toArray []))
noncomputable def hd.o31 (P : Params) : Obj := (Obj.mk (Value.type "frame") Option.none Data.plain (List.toArray ((Option.some (Value.ref (nat_lit 30))) :: (Option.some (Value.ref (nat_lit 3))) :: (Option.some (Value.ref (nat_lit 3))) :: Option.none :: (Option.some (Value.str (Str.ofString "__main__") (nat_lit 164))) :: Option.none :: (Option.some (Value.ref (nat_lit 0))) :: [])))
noncomputable def hd.o32 (P : Params) : Obj := (Obj.mk (Value.type "tuple") Option.none (Data.seq (List.toArray []) (nat_lit 0)) (List.toArray []))
noncomputable def hd.o33 (P : Params) : Obj := (Obj.mk Value.none Option.none (Data.fields (List.toArray [])) (List.toArray []))
noncomputable def hd.o34 (P : Params) : Obj := (Obj.mk (Value.type "tuple") Option.none (Data.seq (List.toArray [(Value.str (Str.ofString "k") (nat_lit 285))]) (nat_lit 0)) (List.toArray []))
noncomputable def hd.o35 (P : Params) : Obj := (Obj.mk (Value.type "tuple") Option.none (Data.seq (List.toArray []) (nat_lit 0)) (List.toArray []))
noncomputable def hd.o36 (P : Params) : Obj := (Obj.mk Value.none Option.none (Data.func (FuncData.mk (Str.ofString "_wall") (Str.ofString "_wall") (fdP (topS 1)) (FuncBody.stmts (fdB (topS 1))) (fdS (topS 1)) (nat_lit 0) [] Value.none Value.none Value.none Value.none Option.none Value.none Value.none (nat_lit 0))) (List.toArray []))
noncomputable def hd.o37 (P : Params) : Obj := (Obj.mk (Value.type "code") Option.none (Data.fields (List.toArray ((Value.str (Str.ofString "_wall") (nat_lit 282)) :: (Value.str (Str.ofString "_wall") (nat_lit 283)) :: (Value.str (Str.ofString "/claim/cut.py") (nat_lit 284)) :: (Value.int (2 : Int) (nat_lit 0)) :: (Value.int (1 : Int) (nat_lit 0)) :: (Value.int (0 : Int) (nat_lit 0)) :: (Value.int (0 : Int) (nat_lit 0)) :: (Value.int (3 : Int) (nat_lit 0)) :: (Value.ref (nat_lit 32)) :: (Value.bool Bool.true) :: (Value.int (276 : Int) (nat_lit 0)) :: (Value.ref (nat_lit 33)) :: Value.none :: (Value.ref (nat_lit 34)) :: (Value.ref (nat_lit 35)) :: (Value.ref (nat_lit 36)) :: (Value.int (286 : Int) (nat_lit 0)) :: (Value.int (2 : Int) (nat_lit 0)) :: (Value.str (Str.ofString "/claim/cut.py") (nat_lit 287)) :: []))) (List.toArray []))
noncomputable def hd.o38 (P : Params) : Obj := (Obj.mk (Value.type "function") Option.none (Data.func (FuncData.mk (Str.ofString "_wall") (Str.ofString "_wall") (fdP (topS 1)) (FuncBody.stmts (fdB (topS 1))) (fdS (topS 1)) (nat_lit 3) [] Value.none Value.none Value.none (Value.str (Str.ofString "__main__") (nat_lit 164)) Option.none (Value.ref (nat_lit 37)) Value.none (nat_lit 0))) (List.toArray []))
noncomputable def hd.o39 (P : Params) : Obj := (Obj.mk (Value.type "tuple") Option.none (Data.seq (List.toArray []) (nat_lit 0)) (List.toArray []))
noncomputable def hd.o40 (P : Params) : Obj := (Obj.mk Value.none Option.none (Data.fields (List.toArray [])) (List.toArray []))
noncomputable def hd.o41 (P : Params) : Obj := (Obj.mk (Value.type "tuple") Option.none (Data.seq (List.toArray [(Value.str (Str.ofString "num") (nat_lit 294)), (Value.str (Str.ofString "val") (nat_lit 295)), (Value.str (Str.ofString "AP") (nat_lit 296)), (Value.str (Str.ofString "mod") (nat_lit 297))]) (nat_lit 0)) (List.toArray []))
noncomputable def hd.o42 (P : Params) : Obj := (Obj.mk (Value.type "tuple") Option.none (Data.seq (List.toArray []) (nat_lit 0)) (List.toArray []))
noncomputable def hd.o43 (P : Params) : Obj := (Obj.mk Value.none Option.none (Data.func (FuncData.mk (Str.ofString "Int2AP") (Str.ofString "Int2AP") (fdP (topS 3)) (FuncBody.stmts (fdB (topS 3))) (fdS (topS 3)) (nat_lit 0) [] Value.none Value.none Value.none Value.none Option.none Value.none Value.none (nat_lit 0))) (List.toArray []))
noncomputable def hd.o44 (P : Params) : Obj := (Obj.mk (Value.type "code") Option.none (Data.fields (List.toArray ((Value.str (Str.ofString "Int2AP") (nat_lit 291)) :: (Value.str (Str.ofString "Int2AP") (nat_lit 292)) :: (Value.str (Str.ofString "/claim/cut.py") (nat_lit 293)) :: (Value.int (6 : Int) (nat_lit 0)) :: (Value.int (1 : Int) (nat_lit 0)) :: (Value.int (0 : Int) (nat_lit 0)) :: (Value.int (0 : Int) (nat_lit 0)) :: (Value.int (3 : Int) (nat_lit 0)) :: (Value.ref (nat_lit 39)) :: (Value.bool Bool.true) :: (Value.int (276 : Int) (nat_lit 0)) :: (Value.ref (nat_lit 40)) :: Value.none :: (Value.ref (nat_lit 41)) :: (Value.ref (nat_lit 42)) :: (Value.ref (nat_lit 43)) :: (Value.int (298 : Int) (nat_lit 0)) :: (Value.int (6 : Int) (nat_lit 0)) :: (Value.str (Str.ofString "/claim/cut.py") (nat_lit 299)) :: []))) (List.toArray []))
noncomputable def hd.o45 (P : Params) : Obj := (Obj.mk (Value.type "function") Option.none (Data.func (FuncData.mk (Str.ofString "Int2AP") (Str.ofString "Int2AP") (fdP (topS 3)) (FuncBody.stmts (fdB (topS 3))) (fdS (topS 3)) (nat_lit 3) [] Value.none Value.none Value.none (Value.str (Str.ofString "cpy313.imaplib") (nat_lit 289)) Option.none (Value.ref (nat_lit 44)) Value.none (nat_lit 0))) (List.toArray []))
noncomputable def hd.o46 (P : Params) : Obj := (Obj.mk (Value.type "tuple") Option.none (Data.seq (List.toArray []) (nat_lit 0)) (List.toArray []))
noncomputable def hd.o47 (P : Params) : Obj := (Obj.mk Value.none Option.none (Data.fields (List.toArray [])) (List.toArray []))
noncomputable def hd.o48 (P : Params) : Obj := (Obj.mk (Value.type "tuple") Option.none (Data.seq (List.toArray [(Value.str (Str.ofString "a") (nat_lit 306)), (Value.str (Str.ofString "b") (nat_lit 307))]) (nat_lit 0)) (List.toArray []))
noncomputable def hd.o49 (P : Params) : Obj := (Obj.mk (Value.type "tuple") Option.none (Data.seq (List.toArray []) (nat_lit 0)) (List.toArray []))
noncomputable def hd.o50 (P : Params) : Obj := (Obj.mk Value.none Option.none (Data.func (FuncData.mk (Str.ofString "xor") (Str.ofString "xor") (fdP (topS 5)) (FuncBody.stmts (fdB (topS 5))) (fdS (topS 5)) (nat_lit 0) [] Value.none Value.none Value.none Value.none Option.none Value.none Value.none (nat_lit 0))) (List.toArray []))
noncomputable def hd.o51 (P : Params) : Obj := (Obj.mk (Value.type "code") Option.none (Data.fields (List.toArray ((Value.str (Str.ofString "xor") (nat_lit 303)) :: (Value.str (Str.ofString "xor") (nat_lit 304)) :: (Value.str (Str.ofString "/claim/cut.py") (nat_lit 305)) :: (Value.int (15 : Int) (nat_lit 0)) :: (Value.int (2 : Int) (nat_lit 0)) :: (Value.int (0 : Int) (nat_lit 0)) :: (Value.int (0 : Int) (nat_lit 0)) :: (Value.int (3 : Int) (nat_lit 0)) :: (Value.ref (nat_lit 46)) :: (Value.bool Bool.true) :: (Value.int (276 : Int) (nat_lit 0)) :: (Value.ref (nat_lit 47)) :: Value.none :: (Value.ref (nat_lit 48)) :: (Value.ref (nat_lit 49)) :: (Value.ref (nat_lit 50)) :: (Value.int (308 : Int) (nat_lit 0)) :: (Value.int (15 : Int) (nat_lit 0)) :: (Value.str (Str.ofString "/claim/cut.py") (nat_lit 309)) :: []))) (List.toArray []))
noncomputable def hd.o52 (P : Params) : Obj := (Obj.mk (Value.type "function") Option.none (Data.func (FuncData.mk (Str.ofString "xor") (Str.ofString "xor") (fdP (topS 5)) (FuncBody.stmts (fdB (topS 5))) (fdS (topS 5)) (nat_lit 3) [] Value.none Value.none Value.none (Value.str (Str.ofString "cpy313.operator") (nat_lit 301)) Option.none (Value.ref (nat_lit 51)) Value.none (nat_lit 0))) (List.toArray []))
noncomputable def hd.o53 (P : Params) : Obj := (Obj.mk (Value.type "tuple") Option.none (Data.seq (List.toArray []) (nat_lit 0)) (List.toArray []))
noncomputable def hd.o54 (P : Params) : Obj := (Obj.mk Value.none Option.none (Data.fields (List.toArray [])) (List.toArray []))
noncomputable def hd.o55 (P : Params) : Obj := (Obj.mk (Value.type "tuple") Option.none (Data.seq (List.toArray [(Value.str (Str.ofString "a") (nat_lit 314)), (Value.str (Str.ofString "b") (nat_lit 315)), (Value.str (Str.ofString "count") (nat_lit 316)), (Value.str (Str.ofString "i") (nat_lit 317))]) (nat_lit 0)) (List.toArray []))
noncomputable def hd.o56 (P : Params) : Obj := (Obj.mk (Value.type "tuple") Option.none (Data.seq (List.toArray []) (nat_lit 0)) (List.toArray []))
noncomputable def hd.o57 (P : Params) : Obj := (Obj.mk Value.none Option.none (Data.func (FuncData.mk (Str.ofString "countOf") (Str.ofString "countOf") (fdP (topS 6)) (FuncBody.stmts (fdB (topS 6))) (fdS (topS 6)) (nat_lit 0) [] Value.none Value.none Value.none Value.none Option.none Value.none Value.none (nat_lit 0))) (List.toArray []))
noncomputable def hd.o58 (P : Params) : Obj := (Obj.mk (Value.type "code") Option.none (Data.fields (List.toArray ((Value.str (Str.ofString "countOf") (nat_lit 311)) :: (Value.str (Str.ofString "countOf") (nat_lit 312)) :: (Value.str (Str.ofString "/claim/cut.py") (nat_lit 313)) :: (Value.int (17 : Int) (nat_lit 0)) :: (Value.int (2 : Int) (nat_lit 0)) :: (Value.int (0 : Int) (nat_lit 0)) :: (Value.int (0 : Int) (nat_lit 0)) :: (Value.int (3 : Int) (nat_lit 0)) :: (Value.ref (nat_lit 53)) :: (Value.bool Bool.true) :: (Value.int (276 : Int) (nat_lit 0)) :: (Value.ref (nat_lit 54)) :: Value.none :: (Value.ref (nat_lit 55)) :: (Value.ref (nat_lit 56)) :: (Value.ref (nat_lit 57)) :: (Value.int (318 : Int) (nat_lit 0)) :: (Value.int (17 : Int) (nat_lit 0)) :: (Value.str (Str.ofString "/claim/cut.py") (nat_lit 319)) :: []))) (List.toArray []))
noncomputable def hd.o59 (P : Params) : Obj := (Obj.mk (Value.type "function") Option.none (Data.func (FuncData.mk (Str.ofString "countOf") (Str.ofString "countOf") (fdP (topS 6)) (FuncBody.stmts (fdB (topS 6))) (fdS (topS 6)) (nat_lit 3) [] Value.none Value.none Value.none (Value.str (Str.ofString "cpy313.operator") (nat_lit 301)) Option.none (Value.ref (nat_lit 58)) Value.none (nat_lit 0))) (List.toArray []))
noncomputable def hd.o60 (P : Params) : Obj := (Obj.mk (Value.type "tuple") Option.none (Data.seq (List.toArray []) (nat_lit 0)) (List.toArray []))
noncomputable def hd.o61 (P : Params) : Obj := (Obj.mk Value.none Option.none (Data.fields (List.toArray [])) (List.toArray []))
noncomputable def hd.o62 (P : Params) : Obj := (Obj.mk (Value.type "tuple") Option.none (Data.seq (List.toArray [(Value.str (Str.ofString "a") (nat_lit 324)), (Value.str (Str.ofString "b") (nat_lit 325))]) (nat_lit 0)) (List.toArray []))
noncomputable def hd.o63 (P : Params) : Obj := (Obj.mk (Value.type "tuple") Option.none (Data.seq (List.toArray []) (nat_lit 0)) (List.toArray []))
noncomputable def hd.o64 (P : Params) : Obj := (Obj.mk Value.none Option.none (Data.func (FuncData.mk (Str.ofString "ilshift") (Str.ofString "ilshift") (fdP (topS 7)) (FuncBody.stmts (fdB (topS 7))) (fdS (topS 7)) (nat_lit 0) [] Value.none Value.none Value.none Value.none Option.none Value.none Value.none (nat_lit 0))) (List.toArray []))
noncomputable def hd.o65 (P : Params) : Obj := (Obj.mk (Value.type "code") Option.none (Data.fields (List.toArray ((Value.str (Str.ofString "ilshift") (nat_lit 321)) :: (Value.str (Str.ofString "ilshift") (nat_lit 322)) :: (Value.str (Str.ofString "/claim/cut.py") (nat_lit 323)) :: (Value.int (23 : Int) (nat_lit 0)) :: (Value.int (2 : Int) (nat_lit 0)) :: (Value.int (0 : Int) (nat_lit 0)) :: (Value.int (0 : Int) (nat_lit 0)) :: (Value.int (3 : Int) (nat_lit 0)) :: (Value.ref (nat_lit 60)) :: (Value.bool Bool.true) :: (Value.int (276 : Int) (nat_lit 0)) :: (Value.ref (nat_lit 61)) :: Value.none :: (Value.ref (nat_lit 62)) :: (Value.ref (nat_lit 63)) :: (Value.ref (nat_lit 64)) :: (Value.int (326 : Int) (nat_lit 0)) :: (Value.int (23 : Int) (nat_lit 0)) :: (Value.str (Str.ofString "/claim/cut.py") (nat_lit 327)) :: []))) (List.toArray []))
noncomputable def hd.o66 (P : Params) : Obj := (Obj.mk (Value.type "function") Option.none (Data.func (FuncData.mk (Str.ofString "ilshift") (Str.ofString "ilshift") (fdP (topS 7)) (FuncBody.stmts (fdB (topS 7))) (fdS (topS 7)) (nat_lit 3) [] Value.none Value.none Value.none (Value.str (Str.ofString "cpy313.operator") (nat_lit 301)) Option.none (Value.ref (nat_lit 65)) Value.none (nat_lit 0))) (List.toArray []))
noncomputable def hd.o67 (P : Params) : Obj := (Obj.mk (Value.type "list") Option.none (Data.seq (List.toArray ((Value.int (14 : Int) (nat_lit 334)) :: (Value.int (4 : Int) (nat_lit 335)) :: (Value.int (0 : Int) (nat_lit 336)) :: (Value.int (1 : Int) (nat_lit 337)) :: (Value.int (1 : Int) (nat_lit 338)) :: (Value.int (6 : Int) (nat_lit 339)) :: (Value.int (1 : Int) (nat_lit 340)) :: (Value.int (16 : Int) (nat_lit 341)) :: (Value.int (46 : Int) (nat_lit 342)) :: (Value.int (1 : Int) (nat_lit 343)) :: [])) (nat_lit 0)) (List.toArray []))
noncomputable def hd.o68 (P : Params) : Obj := (Obj.mk (Value.type "dict") Option.none (Data.dict (List.toArray []) (nat_lit 0)) (List.toArray []))
noncomputable def hd.o69 (P : Params) : Obj := (Obj.mk (Value.type "tuple") Option.none (Data.seq (List.toArray [Value.none]) (nat_lit 0)) (List.toArray []))
noncomputable def hd.o70 (P : Params) : Obj := (Obj.mk (Value.type "tuple") Option.none (Data.seq (List.toArray ((Value.int (14 : Int) (nat_lit 0)) :: (Value.int (4 : Int) (nat_lit 0)) :: (Value.int (0 : Int) (nat_lit 0)) :: (Value.int (1 : Int) (nat_lit 0)) :: (Value.int (1 : Int) (nat_lit 0)) :: (Value.int (6 : Int) (nat_lit 0)) :: (Value.int (1 : Int) (nat_lit 0)) :: (Value.int (16 : Int) (nat_lit 0)) :: (Value.int (46 : Int) (nat_lit 0)) :: (Value.int (1 : Int) (nat_lit 0)) :: [])) (nat_lit 0)) (List.toArray []))
noncomputable def hd.o71 (P : Params) : Obj := (Obj.mk (Value.type "re.Pattern") Option.none (Data.fields (List.toArray ((Value.str (Str.ofString "(?m)^\\.") (nat_lit 332)) :: (Value.int (40 : Int) (nat_lit 345)) :: (Value.int (0 : Int) (nat_lit 0)) :: Value.none :: Value.none :: (Value.ref (nat_lit 70)) :: (Value.int (0 : Int) (nat_lit 0)) :: []))) (List.toArray []))
noncomputable def hd.o72 (P : Params) : Obj := (Obj.mk (Value.type "list") Option.none (Data.seq (List.toArray ((Value.int (14 : Int) (nat_lit 350)) :: (Value.int (9 : Int) (nat_lit 351)) :: (Value.int (4 : Int) (nat_lit 352)) :: (Value.int (1 : Int) (nat_lit 353)) :: (Value.int (2 : Int) (nat_lit 354)) :: (Value.int (16 : Int) (nat_lit 355)) :: (Value.int (10 : Int) (nat_lit 356)) :: (Value.int (16 : Int) (nat_lit 357)) :: (Value.int (13 : Int) (nat_lit 358)) :: (Value.int (0 : Int) (nat_lit 359)) :: (Value.int (7 : Int) (nat_lit 360)) :: (Value.int (7 : Int) (nat_lit 361)) :: (Value.int (16 : Int) (nat_lit 362)) :: (Value.int (13 : Int) (nat_lit 363)) :: (Value.int (16 : Int) (nat_lit 364)) :: (Value.int (10 : Int) (nat_lit 365)) :: (Value.int (15 : Int) (nat_lit 366)) :: (Value.int (18 : Int) (nat_lit 367)) :: (Value.int (5 : Int) (nat_lit 368)) :: (Value.int (16 : Int) (nat_lit 369)) :: (Value.int (10 : Int) (nat_lit 370)) :: (Value.int (15 : Int) (nat_lit 371)) :: (Value.int (13 : Int) (nat_lit 372)) :: (Value.int (11 : Int) (nat_lit 373)) :: (Value.int (16 : Int) (nat_lit 374)) :: (Value.int (13 : Int) (nat_lit 375)) :: (Value.int (5 : Int) (nat_lit 376)) :: (Value.int (5 : Int) (nat_lit 377)) :: (Value.int (0 : Int) (nat_lit 378)) :: (Value.int (16 : Int) (nat_lit 379)) :: (Value.int (10 : Int) (nat_lit 380)) :: (Value.int (1 : Int) (nat_lit 381)) :: (Value.int (15 : Int) (nat_lit 382)) :: (Value.int (2 : Int) (nat_lit 383)) :: (Value.int (0 : Int) (nat_lit 384)) :: (Value.int (1 : Int) (nat_lit 385)) :: [])) (nat_lit 0)) (List.toArray []))
noncomputable def hd.o73 (P : Params) : Obj := (Obj.mk (Value.type "dict") Option.none (Data.dict (List.toArray []) (nat_lit 0)) (List.toArray []))
noncomputable def hd.o74 (P : Params) : Obj := (Obj.mk (Value.type "tuple") Option.none (Data.seq (List.toArray [Value.none]) (nat_lit 0)) (List.toArray []))
noncomputable def hd.o75 (P : Params) : Obj := (Obj.mk (Value.type "tuple") Option.none (Data.seq (List.toArray ((Value.int (14 : Int) (nat_lit 0)) :: (Value.int (9 : Int) (nat_lit 0)) :: (Value.int (4 : Int) (nat_lit 0)) :: (Value.int (1 : Int) (nat_lit 0)) :: (Value.int (2 : Int) (nat_lit 0)) :: (Value.int (16 : Int) (nat_lit 0)) :: (Value.int (10 : Int) (nat_lit 0)) :: (Value.int (16 : Int) (nat_lit 0)) :: (Value.int (13 : Int) (nat_lit 0)) :: (Value.int (0 : Int) (nat_lit 0)) :: (Value.int (7 : Int) (nat_lit 0)) :: (Value.int (7 : Int) (nat_lit 0)) :: (Value.int (16 : Int) (nat_lit 0)) :: (Value.int (13 : Int) (nat_lit 0)) :: (Value.int (16 : Int) (nat_lit 0)) :: (Value.int (10 : Int) (nat_lit 0)) :: (Value.int (15 : Int) (nat_lit 0)) :: (Value.int (18 : Int) (nat_lit 0)) :: (Value.int (5 : Int) (nat_lit 0)) :: (Value.int (16 : Int) (nat_lit 0)) :: (Value.int (10 : Int) (nat_lit 0)) :: (Value.int (15 : Int) (nat_lit 0)) :: (Value.int (13 : Int) (nat_lit 0)) :: (Value.int (11 : Int) (nat_lit 0)) :: (Value.int (16 : Int) (nat_lit 0)) :: (Value.int (13 : Int) (nat_lit 0)) :: (Value.int (5 : Int) (nat_lit 0)) :: (Value.int (5 : Int) (nat_lit 0)) :: (Value.int (0 : Int) (nat_lit 0)) :: (Value.int (16 : Int) (nat_lit 0)) :: (Value.int (10 : Int) (nat_lit 0)) :: (Value.int (1 : Int) (nat_lit 0)) :: (Value.int (15 : Int) (nat_lit 0)) :: (Value.int (2 : Int) (nat_lit 0)) :: (Value.int (0 : Int) (nat_lit 0)) :: (Value.int (1 : Int) (nat_lit 0)) :: [])) (nat_lit 0)) (List.toArray []))
noncomputable def hd.o76 (P : Params) : Obj := (Obj.mk (Value.type "re.Pattern") Option.none (Data.fields (List.toArray ((Value.str (Str.ofString "(?:\\r\\n|\\n|\\r(?!\\n))") (nat_lit 348)) :: (Value.int (32 : Int) (nat_lit 387)) :: (Value.int (0 : Int) (nat_lit 0)) :: Value.none :: Value.none :: (Value.ref (nat_lit 75)) :: (Value.int (0 : Int) (nat_lit 0)) :: []))) (List.toArray []))
noncomputable def hd.o77 (P : Params) : Obj := (Obj.mk (Value.type "tuple") Option.none (Data.seq (List.toArray []) (nat_lit 0)) (List.toArray []))
noncomputable def hd.o78 (P : Params) : Obj := (Obj.mk Value.none Option.none (Data.fields (List.toArray [])) (List.toArray []))
noncomputable def hd.o79 (P : Params) : Obj := (Obj.mk (Value.type "tuple") Option.none (Data.seq (List.toArray [(Value.str (Str.ofString "data") (nat_lit 394))]) (nat_lit 0)) (List.toArray []))
noncomputable def hd.o80 (P : Params) : Obj := (Obj.mk (Value.type "tuple") Option.none (Data.seq (List.toArray []) (nat_lit 0)) (List.toArray []))
noncomputable def hd.o81 (P : Params) : Obj := (Obj.mk Value.none Option.none (Data.func (FuncData.mk (Str.ofString "quotedata") (Str.ofString "quotedata") (fdP (topS 12)) (FuncBody.stmts (fdB (topS 12))) (fdS (topS 12)) (nat_lit 0) [] Value.none Value.none Value.none Value.none Option.none Value.none Value.none (nat_lit 0))) (List.toArray []))
noncomputable def hd.o82 (P : Params) : Obj := (Obj.mk (Value.type "code") Option.none (Data.fields (List.toArray ((Value.str (Str.ofString "quotedata") (nat_lit 391)) :: (Value.str (Str.ofString "quotedata") (nat_lit 392)) :: (Value.str (Str.ofString "/claim/cut.py") (nat_lit 393)) :: (Value.int (30 : Int) (nat_lit 0)) :: (Value.int (1 : Int) (nat_lit 0)) :: (Value.int (0 : Int) (nat_lit 0)) :: (Value.int (0 : Int) (nat_lit 0)) :: (Value.int (3 : Int) (nat_lit 0)) :: (Value.ref (nat_lit 77)) :: (Value.bool Bool.true) :: (Value.int (276 : Int) (nat_lit 0)) :: (Value.ref (nat_lit 78)) :: Value.none :: (Value.ref (nat_lit 79)) :: (Value.ref (nat_lit 80)) :: (Value.ref (nat_lit 81)) :: (Value.int (395 : Int) (nat_lit 0)) :: (Value.int (30 : Int) (nat_lit 0)) :: (Value.str (Str.ofString "/claim/cut.py") (nat_lit 396)) :: []))) (List.toArray []))
noncomputable def hd.o83 (P : Params) : Obj := (Obj.mk (Value.type "function") Option.none (Data.func (FuncData.mk (Str.ofString "quotedata") (Str.ofString "quotedata") (fdP (topS 12)) (FuncBody.stmts (fdB (topS 12))) (fdS (topS 12)) (nat_lit 3) [] Value.none Value.none Value.none (Value.str (Str.ofString "cpy313.smtplib") (nat_lit 329)) Option.none (Value.ref (nat_lit 82)) Value.none (nat_lit 0))) (List.toArray []))
noncomputable def hd.o84 (P : Params) : Obj := (Obj.mk (Value.type "list") Option.none (Data.seq (List.toArray ((Value.int (14 : Int) (nat_lit 403)) :: (Value.int (10 : Int) (nat_lit 404)) :: (Value.int (4 : Int) (nat_lit 405)) :: (Value.int (1 : Int) (nat_lit 406)) :: (Value.int (1 : Int) (nat_lit 407)) :: (Value.int (22 : Int) (nat_lit 408)) :: (Value.int (0 : Int) (nat_lit 409)) :: (Value.int (31 : Int) (nat_lit 410)) :: (Value.int (16 : Int) (nat_lit 411)) :: (Value.int (127 : Int) (nat_lit 412)) :: (Value.int (0 : Int) (nat_lit 413)) :: (Value.int (13 : Int) (nat_lit 414)) :: (Value.int (7 : Int) (nat_lit 415)) :: (Value.int (22 : Int) (nat_lit 416)) :: (Value.int (0 : Int) (nat_lit 417)) :: (Value.int (31 : Int) (nat_lit 418)) :: (Value.int (16 : Int) (nat_lit 419)) :: (Value.int (127 : Int) (nat_lit 420)) :: (Value.int (0 : Int) (nat_lit 421)) :: (Value.int (1 : Int) (nat_lit 422)) :: [])) (nat_lit 0)) (List.toArray []))
noncomputable def hd.o85 (P : Params) : Obj := (Obj.mk (Value.type "dict") Option.none (Data.dict (List.toArray []) (nat_lit 0)) (List.toArray []))
noncomputable def hd.o86 (P : Params) : Obj := (Obj.mk (Value.type "tuple") Option.none (Data.seq (List.toArray [Value.none]) (nat_lit 0)) (List.toArray []))
noncomputable def hd.o87 (P : Params) : Obj := (Obj.mk (Value.type "tuple") Option.none (Data.seq (List.toArray ((Value.int (14 : Int) (nat_lit 0)) :: (Value.int (10 : Int) (nat_lit 0)) :: (Value.int (4 : Int) (nat_lit 0)) :: (Value.int (1 : Int) (nat_lit 0)) :: (Value.int (1 : Int) (nat_lit 0)) :: (Value.int (22 : Int) (nat_lit 0)) :: (Value.int (0 : Int) (nat_lit 0)) :: (Value.int (31 : Int) (nat_lit 0)) :: (Value.int (16 : Int) (nat_lit 0)) :: (Value.int (127 : Int) (nat_lit 0)) :: (Value.int (0 : Int) (nat_lit 0)) :: (Value.int (13 : Int) (nat_lit 0)) :: (Value.int (7 : Int) (nat_lit 0)) :: (Value.int (22 : Int) (nat_lit 0)) :: (Value.int (0 : Int) (nat_lit 0)) :: (Value.int (31 : Int) (nat_lit 0)) :: (Value.int (16 : Int) (nat_lit 0)) :: (Value.int (127 : Int) (nat_lit 0)) :: (Value.int (0 : Int) (nat_lit 0)) :: (Value.int (1 : Int) (nat_lit 0)) :: [])) (nat_lit 0)) (List.toArray []))
noncomputable def hd.o88 (P : Params) : Obj := (Obj.mk (Value.type "re.Pattern") Option.none (Data.fields (List.toArray ((Value.str (Str.ofString "[\\x00-\\x1F\\x7F]") (nat_lit 401)) :: (Value.int (32 : Int) (nat_lit 424)) :: (Value.int (0 : Int) (nat_lit 0)) :: Value.none :: Value.none :: (Value.ref (nat_lit 87)) :: (Value.int (0 : Int) (nat_lit 0)) :: []))) (List.toArray []))
noncomputable def hd.o89 (P : Params) : Obj := (Obj.mk (Value.type "list") Option.none (Data.seq (List.toArray ((Value.int (14 : Int) (nat_lit 429)) :: (Value.int (14 : Int) (nat_lit 430)) :: (Value.int (4 : Int) (nat_lit 431)) :: (Value.int (1 : Int) (nat_lit 432)) :: (Value.int (1 : Int) (nat_lit 433)) :: (Value.int (9 : Int) (nat_lit 434)) :: (Value.int (4294966783 : Int) (nat_lit 435)) :: (Value.int (0 : Int) (nat_lit 436)) :: (Value.int (0 : Int) (nat_lit 437)) :: (Value.int (2147483648 : Int) (nat_lit 438)) :: (Value.int (0 : Int) (nat_lit 439)) :: (Value.int (0 : Int) (nat_lit 440)) :: (Value.int (0 : Int) (nat_lit 441)) :: (Value.int (0 : Int) (nat_lit 442)) :: (Value.int (0 : Int) (nat_lit 443)) :: (Value.int (13 : Int) (nat_lit 444)) :: (Value.int (11 : Int) (nat_lit 445)) :: (Value.int (9 : Int) (nat_lit 446)) :: (Value.int (4294966783 : Int) (nat_lit 447)) :: (Value.int (0 : Int) (nat_lit 448)) :: (Value.int (0 : Int) (nat_lit 449)) :: (Value.int (2147483648 : Int) (nat_lit 450)) :: (Value.int (0 : Int) (nat_lit 451)) :: (Value.int (0 : Int) (nat_lit 452)) :: (Value.int (0 : Int) (nat_lit 453)) :: (Value.int (0 : Int) (nat_lit 454)) :: (Value.int (0 : Int) (nat_lit 455)) :: (Value.int (1 : Int) (nat_lit 456)) :: [])) (nat_lit 0)) (List.toArray []))
noncomputable def hd.o90 (P : Params) : Obj := (Obj.mk (Value.type "dict") Option.none (Data.dict (List.toArray []) (nat_lit 0)) (List.toArray []))
noncomputable def hd.o91 (P : Params) : Obj := (Obj.mk (Value.type "tuple") Option.none (Data.seq (List.toArray [Value.none]) (nat_lit 0)) (List.toArray []))
noncomputable def hd.o92 (P : Params) : Obj := (Obj.mk (Value.type "tuple") Option.none (Data.seq (List.toArray ((Value.int (14 : Int) (nat_lit 0)) :: (Value.int (14 : Int) (nat_lit 0)) :: (Value.int (4 : Int) (nat_lit 0)) :: (Value.int (1 : Int) (nat_lit 0)) :: (Value.int (1 : Int) (nat_lit 0)) :: (Value.int (9 : Int) (nat_lit 0)) :: (Value.int (4294966783 : Int) (nat_lit 0)) :: (Value.int (0 : Int) (nat_lit 0)) :: (Value.int (0 : Int) (nat_lit 0)) :: (Value.int (2147483648 : Int) (nat_lit 0)) :: (Value.int (0 : Int) (nat_lit 0)) :: (Value.int (0 : Int) (nat_lit 0)) :: (Value.int (0 : Int) (nat_lit 0)) :: (Value.int (0 : Int) (nat_lit 0)) :: (Value.int (0 : Int) (nat_lit 0)) :: (Value.int (13 : Int) (nat_lit 0)) :: (Value.int (11 : Int) (nat_lit 0)) :: (Value.int (9 : Int) (nat_lit 0)) :: (Value.int (4294966783 : Int) (nat_lit 0)) :: (Value.int (0 : Int) (nat_lit 0)) :: (Value.int (0 : Int) (nat_lit 0)) :: (Value.int (2147483648 : Int) (nat_lit 0)) :: (Value.int (0 : Int) (nat_lit 0)) :: (Value.int (0 : Int) (nat_lit 0)) :: (Value.int (0 : Int) (nat_lit 0)) :: (Value.int (0 : Int) (nat_lit 0)) :: (Value.int (0 : Int) (nat_lit 0)) :: (Value.int (1 : Int) (nat_lit 0)) :: [])) (nat_lit 0)) (List.toArray []))
noncomputable def hd.o93 (P : Params) : Obj := (Obj.mk (Value.type "re.Pattern") Option.none (Data.fields (List.toArray ((Value.str (Str.ofString "[\\x00-\\x08\\x0A-\\x1F\\x7F]") (nat_lit 427)) :: (Value.int (32 : Int) (nat_lit 458)) :: (Value.int (0 : Int) (nat_lit 0)) :: Value.none :: Value.none :: (Value.ref (nat_lit 92)) :: (Value.int (0 : Int) (nat_lit 0)) :: []))) (List.toArray []))
noncomputable def hd.o94 (P : Params) : Obj := (Obj.mk (Value.type "tuple") Option.none (Data.seq (List.toArray []) (nat_lit 0)) (List.toArray []))
noncomputable def hd.o95 (P : Params) : Obj := (Obj.mk (Value.type "builtin_function_or_method") Option.none (Data.fields (List.toArray [(Value.builtin "type.__prepare__"), (Value.type "type")])) (List.toArray []))
noncomputable def hd.o96 (P : Params) : Obj := (Obj.mk (Value.type "dict") Option.none (Data.dict (List.toArray ((DictEntry.mk (PyData.keyHash P (Str.ofString "__module__")) (Value.str (Str.ofString "__module__") (nat_lit 467)) (Value.str (Str.ofString "cpy313.wsgiref.headers") (nat_lit 398))) :: (DictEntry.mk (PyData.keyHash P (Str.ofString "__qualname__")) (Value.str (Str.ofString "__qualname__") (nat_lit 469)) (Value.str (Str.ofString "Headers") (nat_lit 468))) :: (DictEntry.mk (PyData.keyHash P (Str.ofString "__firstlineno__")) (Value.str (Str.ofString "__firstlineno__") (nat_lit 471)) (Value.int (35 : Int) (nat_lit 470))) :: (DictEntry.mk (PyData.keyHash P (Str.ofString "__init__")) (Value.str (Str.ofString "__init__") (nat_lit 481)) (Value.ref (nat_lit 108))) :: (DictEntry.mk (PyData.keyHash P (Str.ofString "_convert_string_type")) (Value.str (Str.ofString "_convert_string_type") (nat_lit 491)) (Value.ref (nat_lit 115))) :: (DictEntry.mk (PyData.keyHash P (Str.ofString "__len__")) (Value.str (Str.ofString "__len__") (nat_lit 498)) (Value.ref (nat_lit 122))) :: (DictEntry.mk (PyData.keyHash P (Str.ofString "__setitem__")) (Value.str (Str.ofString "__setitem__") (nat_lit 507)) (Value.ref (nat_lit 129))) :: (DictEntry.mk (PyData.keyHash P (Str.ofString "__delitem__")) (Value.str (Str.ofString "__delitem__") (nat_lit 513)) (Value.ref (nat_lit 134))) :: (DictEntry.mk (PyData.keyHash P (Str.ofString "__getitem__")) (Value.str (Str.ofString "__getitem__") (nat_lit 521)) (Value.ref (nat_lit 141))) :: (DictEntry.mk (PyData.keyHash P (Str.ofString "__contains__")) (Value.str (Str.ofString "__contains__") (nat_lit 529)) (Value.ref (nat_lit 148))) :: (DictEntry.mk (PyData.keyHash P (Str.ofString "get_all")) (Value.str (Str.ofString "get_all") (nat_lit 537)) (Value.ref (nat_lit 155))) :: (DictEntry.mk (PyData.keyHash P (Str.ofString "get")) (Value.str (Str.ofString "get") (nat_lit 548)) (Value.ref (nat_lit 163))) :: (DictEntry.mk (PyData.keyHash P (Str.ofString "keys")) (Value.str (Str.ofString "keys") (nat_lit 554)) (Value.ref (nat_lit 168))) :: (DictEntry.mk (PyData.keyHash P (Str.ofString "values")) (Value.str (Str.ofString "values") (nat_lit 560)) (Value.ref (nat_lit 173))) :: (DictEntry.mk (PyData.keyHash P (Str.ofString "items")) (Value.str (Str.ofString "items") (nat_lit 567)) (Value.ref (nat_lit 180))) :: (DictEntry.mk (PyData.keyHash P (Str.ofString "__repr__")) (Value.str (Str.ofString "__repr__") (nat_lit 574)) (Value.ref (nat_lit 187))) :: (DictEntry.mk (PyData.keyHash P (Str.ofString "__str__")) (Value.str (Str.ofString "__str__") (nat_lit 580)) (Value.ref (nat_lit 192))) :: (DictEntry.mk (PyData.keyHash P (Str.ofString "__bytes__")) (Value.str (Str.ofString "__bytes__") (nat_lit 587)) (Value.ref (nat_lit 199))) :: (DictEntry.mk (PyData.keyHash P (Str.ofString "setdefault")) (Value.str (Str.ofString "setdefault") (nat_lit 597)) (Value.ref (nat_lit 206))) :: (DictEntry.mk (PyData.keyHash P (Str.ofString "add_header")) (Value.str (Str.ofString "add_header") (nat_lit 607)) (Value.ref (nat_lit 213))) :: (DictEntry.mk (PyData.keyHash P (Str.ofString "__static_attributes__")) (Value.str (Str.ofString "__static_attributes__") (nat_lit 609)) (Value.ref (nat_lit 214))) :: [])) (nat_lit 21)) (List.toArray []))
noncomputable def hd.o97 (P : Params) : Obj := (Obj.mk (Value.type "tuple") Option.none (Data.seq (List.toArray []) (nat_lit 0)) (List.toArray []))
noncomputable def hd.o98 (P : Params) : Obj := (Obj.mk Value.none Option.none (Data.fields (List.toArray ((Value.int (37 : Int) (nat_lit 0)) :: (Value.int (4 : Int) (nat_lit 0)) :: (Value.ref (nat_lit 107)) :: (Value.int (47 : Int) (nat_lit 0)) :: (Value.int (4 : Int) (nat_lit 0)) :: (Value.ref (nat_lit 114)) :: (Value.int (55 : Int) (nat_lit 0)) :: (Value.int (4 : Int) (nat_lit 0)) :: (Value.ref (nat_lit 121)) :: (Value.int (58 : Int) (nat_lit 0)) :: (Value.int (4 : Int) (nat_lit 0)) :: (Value.ref (nat_lit 128)) :: (Value.int (62 : Int) (nat_lit 0)) :: (Value.int (4 : Int) (nat_lit 0)) :: (Value.ref (nat_lit 133)) :: (Value.int (66 : Int) (nat_lit 0)) :: (Value.int (4 : Int) (nat_lit 0)) :: (Value.ref (nat_lit 140)) :: (Value.int (69 : Int) (nat_lit 0)) :: (Value.int (4 : Int) (nat_lit 0)) :: (Value.ref (nat_lit 147)) :: (Value.int (72 : Int) (nat_lit 0)) :: (Value.int (4 : Int) (nat_lit 0)) :: (Value.ref (nat_lit 154)) :: (Value.int (75 : Int) (nat_lit 0)) :: (Value.int (4 : Int) (nat_lit 0)) :: (Value.ref (nat_lit 162)) :: (Value.int (82 : Int) (nat_lit 0)) :: (Value.int (4 : Int) (nat_lit 0)) :: (Value.ref (nat_lit 167)) :: (Value.int (85 : Int) (nat_lit 0)) :: (Value.int (4 : Int) (nat_lit 0)) :: (Value.ref (nat_lit 172)) :: (Value.int (88 : Int) (nat_lit 0)) :: (Value.int (4 : Int) (nat_lit 0)) :: (Value.ref (nat_lit 179)) :: (Value.int (91 : Int) (nat_lit 0)) :: (Value.int (4 : Int) (nat_lit 0)) :: (Value.ref (nat_lit 186)) :: (Value.int (94 : Int) (nat_lit 0)) :: (Value.int (4 : Int) (nat_lit 0)) :: (Value.ref (nat_lit 191)) :: (Value.int (97 : Int) (nat_lit 0)) :: (Value.int (4 : Int) (nat_lit 0)) :: (Value.ref (nat_lit 198)) :: (Value.int (100 : Int) (nat_lit 0)) :: (Value.int (4 : Int) (nat_lit 0)) :: (Value.ref (nat_lit 205)) :: (Value.int (108 : Int) (nat_lit 0)) :: (Value.int (4 : Int) (nat_lit 0)) :: (Value.ref (nat_lit 212)) :: []))) (List.toArray []))
noncomputable def hd.o99 (P : Params) : Obj := (Obj.mk (Value.type "code") Option.none (Data.fields (List.toArray ((Value.str (Str.ofString "Headers") (nat_lit 462)) :: (Value.str (Str.ofString "Headers") (nat_lit 463)) :: (Value.str (Str.ofString "/claim/cut.py") (nat_lit 464)) :: (Value.int (35 : Int) (nat_lit 0)) :: (Value.int (0 : Int) (nat_lit 0)) :: (Value.int (0 : Int) (nat_lit 0)) :: (Value.int (0 : Int) (nat_lit 0)) :: (Value.int (0 : Int) (nat_lit 0)) :: (Value.ref (nat_lit 97)) :: (Value.bool Bool.false) :: (Value.int (276 : Int) (nat_lit 0)) :: (Value.ref (nat_lit 98)) :: Value.none :: Value.none :: Value.none :: Value.none :: (Value.int (465 : Int) (nat_lit 0)) :: (Value.int (35 : Int) (nat_lit 0)) :: (Value.str (Str.ofString "/claim/cut.py") (nat_lit 466)) :: []))) (List.toArray []))
noncomputable def hd.o100 (P : Params) : Obj := (Obj.mk (Value.type "frame") Option.none Data.plain (List.toArray ((Option.some (Value.ref (nat_lit 99))) :: (Option.some (Value.ref (nat_lit 3))) :: (Option.some (Value.ref (nat_lit 96))) :: Option.none :: (Option.some (Value.str (Str.ofString "cpy313.wsgiref.headers") (nat_lit 398))) :: Option.none :: (Option.some (Value.ref (nat_lit 0))) :: [])))
noncomputable def hd.o101 (P : Params) : Obj := (Obj.mk (Value.type "tuple") Option.none (Data.seq (List.toArray [Value.none]) (nat_lit 0)) (List.toArray []))
noncomputable def hd.o102 (P : Params) : Obj := (Obj.mk (Value.type "tuple") Option.none (Data.seq (List.toArray []) (nat_lit 0)) (List.toArray []))
noncomputable def hd.o103 (P : Params) : Obj := (Obj.mk Value.none Option.none (Data.fields (List.toArray [])) (List.toArray []))
noncomputable def hd.o104 (P : Params) : Obj := (Obj.mk (Value.type "tuple") Option.none (Data.seq (List.toArray [(Value.str (Str.ofString "self") (nat_lit 475)), (Value.str (Str.ofString "headers") (nat_lit 476)), (Value.str (Str.ofString "k") (nat_lit 477)), (Value.str (Str.ofString "v") (nat_lit 478))]) (nat_lit 0)) (List.toArray []))
noncomputable def hd.o105 (P : Params) : Obj := (Obj.mk (Value.type "tuple") Option.none (Data.seq (List.toArray []) (nat_lit 0)) (List.toArray []))
noncomputable def hd.o106 (P : Params) : Obj := (Obj.mk Value.none Option.none (Data.func (FuncData.mk (Str.ofString "__init__") (Str.ofString "Headers.__init__") (fdP (methS 16 0)) (FuncBody.stmts (fdB (methS 16 0))) (fdS (methS 16 0)) (nat_lit 0) [] Value.none Value.none Value.none Value.none Option.none Value.none Value.none (nat_lit 0))) (List.toArray []))
noncomputable def hd.o107 (P : Params) : Obj := (Obj.mk (Value.type "code") Option.none (Data.fields (List.toArray ((Value.str (Str.ofString "__init__") (nat_lit 472)) :: (Value.str (Str.ofString "Headers.__init__") (nat_lit 473)) :: (Value.str (Str.ofString "/claim/cut.py") (nat_lit 474)) :: (Value.int (37 : Int) (nat_lit 0)) :: (Value.int (2 : Int) (nat_lit 0)) :: (Value.int (0 : Int) (nat_lit 0)) :: (Value.int (0 : Int) (nat_lit 0)) :: (Value.int (3 : Int) (nat_lit 0)) :: (Value.ref (nat_lit 102)) :: (Value.bool Bool.true) :: (Value.int (276 : Int) (nat_lit 0)) :: (Value.ref (nat_lit 103)) :: Value.none :: (Value.ref (nat_lit 104)) :: (Value.ref (nat_lit 105)) :: (Value.ref (nat_lit 106)) :: (Value.int (479 : Int) (nat_lit 0)) :: (Value.int (37 : Int) (nat_lit 0)) :: (Value.str (Str.ofString "/claim/cut.py") (nat_lit 480)) :: []))) (List.toArray []))
noncomputable def hd.o108 (P : Params) : Obj := (Obj.mk (Value.type "function") Option.none (Data.func (FuncData.mk (Str.ofString "__init__") (Str.ofString "Headers.__init__") (fdP (methS 16 0)) (FuncBody.stmts (fdB (methS 16 0))) (fdS (methS 16 0)) (nat_lit 3) [] (Value.ref (nat_lit 101)) Value.none Value.none (Value.str (Str.ofString "cpy313.wsgiref.headers") (nat_lit 398)) Option.none (Value.ref (nat_lit 107)) Value.none (nat_lit 0))) (List.toArray []))
noncomputable def hd.o109 (P : Params) : Obj := (Obj.mk (Value.type "tuple") Option.none (Data.seq (List.toArray []) (nat_lit 0)) (List.toArray []))
noncomputable def hd.o110 (P : Params) : Obj := (Obj.mk Value.none Option.none (Data.fields (List.toArray [])) (List.toArray []))
noncomputable def hd.o111 (P : Params) : Obj := (Obj.mk (Value.type "tuple") Option.none (Data.seq (List.toArray [(Value.str (Str.ofString "self") (nat_lit 485)), (Value.str (Str.ofString "value") (nat_lit 486)), (Value.str (Str.ofString "name") (nat_lit 487)), (Value.str (Str.ofString "regex") (nat_lit 488))]) (nat_lit 0)) (List.toArray []))
noncomputable def hd.o112 (P : Params) : Obj := (Obj.mk (Value.type "tuple") Option.none (Data.seq (List.toArray []) (nat_lit 0)) (List.toArray []))
noncomputable def hd.o113 (P : Params) : Obj := (Obj.mk Value.none Option.none (Data.func (FuncData.mk (Str.ofString "_convert_string_type") (Str.mk (List.toArray (nat_lit 72 :: nat_lit 101 :: nat_lit 97 :: nat_lit 100 :: nat_lit 101 :: nat_lit 114 :: nat_lit 115 :: nat_lit 46 :: nat_lit 95 :: nat_lit 99 :: nat_lit 111 :: nat_lit 110 :: nat_lit 118 :: nat_lit 101 :: nat_lit 114 :: nat_lit 116 :: nat_lit 95 :: nat_lit 115 :: nat_lit 116 :: nat_lit 114 :: nat_lit 105 :: nat_lit 110 :: nat_lit 103 :: nat_lit 95 :: nat_lit 116 :: nat_lit 121 :: nat_lit 112 :: nat_lit 101 :: []))) (fdP (methS 16 1)) (FuncBody.stmts (fdB (methS 16 1))) (fdS (methS 16 1)) (nat_lit 0) [] Value.none Value.none Value.none Value.none Option.none Value.none Value.none (nat_lit 0))) (List.toArray []))
noncomputable def hd.o114 (P : Params) : Obj := (Obj.mk (Value.type "code") Option.none (Data.fields (List.toArray ((Value.str (Str.ofString "_convert_string_type") (nat_lit 482)) :: (Value.str (Str.mk (List.toArray (nat_lit 72 :: nat_lit 101 :: nat_lit 97 :: nat_lit 100 :: nat_lit 101 :: nat_lit 114 :: nat_lit 115 :: nat_lit 46 :: nat_lit 95 :: nat_lit 99 :: nat_lit 111 :: nat_lit 110 :: nat_lit 118 :: nat_lit 101 :: nat_lit 114 :: nat_lit 116 :: nat_lit 95 :: nat_lit 115 :: nat_lit 116 :: nat_lit 114 :: nat_lit 105 :: nat_lit 110 :: nat_lit 103 :: nat_lit 95 :: nat_lit 116 :: nat_lit 121 :: nat_lit 112 :: nat_lit 101 :: []))) (nat_lit 483)) :: (Value.str (Str.ofString "/claim/cut.py") (nat_lit 484)) :: (Value.int (47 : Int) (nat_lit 0)) :: (Value.int (2 : Int) (nat_lit 0)) :: (Value.int (0 : Int) (nat_lit 0)) :: (Value.int (1 : Int) (nat_lit 0)) :: (Value.int (3 : Int) (nat_lit 0)) :: (Value.ref (nat_lit 109)) :: (Value.bool Bool.true) :: (Value.int (276 : Int) (nat_lit 0)) :: (Value.ref (nat_lit 110)) :: Value.none :: (Value.ref (nat_lit 111)) :: (Value.ref (nat_lit 112)) :: (Value.ref (nat_lit 113)) :: (Value.int (489 : Int) (nat_lit 0)) :: (Value.int (47 : Int) (nat_lit 0)) :: (Value.str (Str.ofString "/claim/cut.py") (nat_lit 490)) :: []))) (List.toArray []))
noncomputable def hd.o115 (P : Params) : Obj := (Obj.mk (Value.type "function") Option.none (Data.func (FuncData.mk (Str.ofString "_convert_string_type") (Str.mk (List.toArray (nat_lit 72 :: nat_lit 101 :: nat_lit 97 :: nat_lit 100 :: nat_lit 101 :: nat_lit 114 :: nat_lit 115 :: nat_lit 46 :: nat_lit 95 :: nat_lit 99 :: nat_lit 111 :: nat_lit 110 :: nat_lit 118 :: nat_lit 101 :: nat_lit 114 :: nat_lit 116 :: nat_lit 95 :: nat_lit 115 :: nat_lit 116 :: nat_lit 114 :: nat_lit 105 :: nat_lit 110 :: nat_lit 103 :: nat_lit 95 :: nat_lit 116 :: nat_lit 121 :: nat_lit 112 :: nat_lit 101 :: []))) (fdP (methS 16 1)) (FuncBody.stmts (fdB (methS 16 1))) (fdS (methS 16 1)) (nat_lit 3) [] Value.none Value.none Value.none (Value.str (Str.ofString "cpy313.wsgiref.headers") (nat_lit 398)) Option.none (Value.ref (nat_lit 114)) Value.none (nat_lit 0))) (List.toArray []))
noncomputable def hd.o116 (P : Params) : Obj := (Obj.mk (Value.type "tuple") Option.none (Data.seq (List.toArray []) (nat_lit 0)) (List.toArray []))
noncomputable def hd.o117 (P : Params) : Obj := (Obj.mk Value.none Option.none (Data.fields (List.toArray [])) (List.toArray []))
noncomputable def hd.o118 (P : Params) : Obj := (Obj.mk (Value.type "tuple") Option.none (Data.seq (List.toArray [(Value.str (Str.ofString "self") (nat_lit 495))]) (nat_lit 0)) (List.toArray []))
noncomputable def hd.o119 (P : Params) : Obj := (Obj.mk (Value.type "tuple") Option.none (Data.seq (List.toArray []) (nat_lit 0)) (List.toArray []))
noncomputable def hd.o120 (P : Params) : Obj := (Obj.mk Value.none Option.none (Data.func (FuncData.mk (Str.ofString "__len__") (Str.ofString "Headers.__len__") (fdP (methS 16 2)) (FuncBody.stmts (fdB (methS 16 2))) (fdS (methS 16 2)) (nat_lit 0) [] Value.none Value.none Value.none Value.none Option.none Value.none Value.none (nat_lit 0))) (List.toArray []))
noncomputable def hd.o121 (P : Params) : Obj := (Obj.mk (Value.type "code") Option.none (Data.fields (List.toArray ((Value.str (Str.ofString "__len__") (nat_lit 492)) :: (Value.str (Str.ofString "Headers.__len__") (nat_lit 493)) :: (Value.str (Str.ofString "/claim/cut.py") (nat_lit 494)) :: (Value.int (55 : Int) (nat_lit 0)) :: (Value.int (1 : Int) (nat_lit 0)) :: (Value.int (0 : Int) (nat_lit 0)) :: (Value.int (0 : Int) (nat_lit 0)) :: (Value.int (3 : Int) (nat_lit 0)) :: (Value.ref (nat_lit 116)) :: (Value.bool Bool.true) :: (Value.int (276 : Int) (nat_lit 0)) :: (Value.ref (nat_lit 117)) :: Value.none :: (Value.ref (nat_lit 118)) :: (Value.ref (nat_lit 119)) :: (Value.ref (nat_lit 120)) :: (Value.int (496 : Int) (nat_lit 0)) :: (Value.int (55 : Int) (nat_lit 0)) :: (Value.str (Str.ofString "/claim/cut.py") (nat_lit 497)) :: []))) (List.toArray []))
noncomputable def hd.o122 (P : Params) : Obj := (Obj.mk (Value.type "function") Option.none (Data.func (FuncData.mk (Str.ofString "__len__") (Str.ofString "Headers.__len__") (fdP (methS 16 2)) (FuncBody.stmts (fdB (methS 16 2))) (fdS (methS 16 2)) (nat_lit 3) [] Value.none Value.none Value.none (Value.str (Str.ofString "cpy313.wsgiref.headers") (nat_lit 398)) Option.none (Value.ref (nat_lit 121)) Value.none (nat_lit 0))) (List.toArray []))
noncomputable def hd.o123 (P : Params) : Obj := (Obj.mk (Value.type "tuple") Option.none (Data.seq (List.toArray []) (nat_lit 0)) (List.toArray []))
noncomputable def hd.o124 (P : Params) : Obj := (Obj.mk Value.none Option.none (Data.fields (List.toArray [])) (List.toArray []))
noncomputable def hd.o125 (P : Params) : Obj := (Obj.mk (Value.type "tuple") Option.none (Data.seq (List.toArray [(Value.str (Str.ofString "self") (nat_lit 502)), (Value.str (Str.ofString "name") (nat_lit 503)), (Value.str (Str.ofString "val") (nat_lit 504))]) (nat_lit 0)) (List.toArray []))
noncomputable def hd.o126 (P : Params) : Obj := (Obj.mk (Value.type "tuple") Option.none (Data.seq (List.toArray []) (nat_lit 0)) (List.toArray []))
noncomputable def hd.o127 (P : Params) : Obj := (Obj.mk Value.none Option.none (Data.func (FuncData.mk (Str.ofString "__setitem__") (Str.ofString "Headers.__setitem__") (fdP (methS 16 3)) (FuncBody.stmts (fdB (methS 16 3))) (fdS (methS 16 3)) (nat_lit 0) [] Value.none Value.none Value.none Value.none Option.none Value.none Value.none (nat_lit 0))) (List.toArray []))
noncomputable def hd.o128 (P : Params) : Obj := (Obj.mk (Value.type "code") Option.none (Data.fields (List.toArray ((Value.str (Str.ofString "__setitem__") (nat_lit 499)) :: (Value.str (Str.ofString "Headers.__setitem__") (nat_lit 500)) :: (Value.str (Str.ofString "/claim/cut.py") (nat_lit 501)) :: (Value.int (58 : Int) (nat_lit 0)) :: (Value.int (3 : Int) (nat_lit 0)) :: (Value.int (0 : Int) (nat_lit 0)) :: (Value.int (0 : Int) (nat_lit 0)) :: (Value.int (3 : Int) (nat_lit 0)) :: (Value.ref (nat_lit 123)) :: (Value.bool Bool.true) :: (Value.int (276 : Int) (nat_lit 0)) :: (Value.ref (nat_lit 124)) :: Value.none :: (Value.ref (nat_lit 125)) :: (Value.ref (nat_lit 126)) :: (Value.ref (nat_lit 127)) :: (Value.int (505 : Int) (nat_lit 0)) :: (Value.int (58 : Int) (nat_lit 0)) :: (Value.str (Str.ofString "/claim/cut.py") (nat_lit 506)) :: []))) (List.toArray []))
noncomputable def hd.o129 (P : Params) : Obj := (Obj.mk (Value.type "function") Option.none (Data.func (FuncData.mk (Str.ofString "__setitem__") (Str.ofString "Headers.__setitem__") (fdP (methS 16 3)) (FuncBody.stmts (fdB (methS 16 3))) (fdS (methS 16 3)) (nat_lit 3) [] Value.none Value.none Value.none (Value.str (Str.ofString "cpy313.wsgiref.headers") (nat_lit 398)) Option.none (Value.ref (nat_lit 128)) Value.none (nat_lit 0))) (List.toArray []))
noncomputable def hd.o130 (P : Params) : Obj := (Obj.mk (Value.type "tuple") Option.none (Data.seq (List.toArray []) (nat_lit 0)) (List.toArray []))
noncomputable def hd.o131 (P : Params) : Obj := (Obj.mk Value.none Option.none (Data.fields (List.toArray [])) (List.toArray []))
noncomputable def hd.o132 (P : Params) : Obj := (Obj.mk Value.none Option.none (Data.func (FuncData.mk (Str.ofString "__delitem__") (Str.ofString "Headers.__delitem__") (fdP (methS 16 4)) (FuncBody.stmts (fdB (methS 16 4))) (fdS (methS 16 4)) (nat_lit 0) [] Value.none Value.none Value.none Value.none Option.none Value.none Value.none (nat_lit 0))) (List.toArray []))
noncomputable def hd.o133 (P : Params) : Obj := (Obj.mk (Value.type "code") Option.none (Data.fields (List.toArray ((Value.str (Str.ofString "__delitem__") (nat_lit 508)) :: (Value.str (Str.ofString "Headers.__delitem__") (nat_lit 509)) :: (Value.str (Str.ofString "/claim/cut.py") (nat_lit 510)) :: (Value.int (62 : Int) (nat_lit 0)) :: (Value.int (2 : Int) (nat_lit 0)) :: (Value.int (0 : Int) (nat_lit 0)) :: (Value.int (0 : Int) (nat_lit 0)) :: (Value.int (3 : Int) (nat_lit 0)) :: (Value.ref (nat_lit 130)) :: (Value.bool Bool.true) :: (Value.int (276 : Int) (nat_lit 0)) :: (Value.ref (nat_lit 131)) :: Value.none :: Value.none :: Value.none :: (Value.ref (nat_lit 132)) :: (Value.int (511 : Int) (nat_lit 0)) :: (Value.int (62 : Int) (nat_lit 0)) :: (Value.str (Str.ofString "/claim/cut.py") (nat_lit 512)) :: []))) (List.toArray []))
noncomputable def hd.o134 (P : Params) : Obj := (Obj.mk (Value.type "function") Option.none (Data.func (FuncData.mk (Str.ofString "__delitem__") (Str.ofString "Headers.__delitem__") (fdP (methS 16 4)) (FuncBody.stmts (fdB (methS 16 4))) (fdS (methS 16 4)) (nat_lit 3) [] Value.none Value.none Value.none (Value.str (Str.ofString "cpy313.wsgiref.headers") (nat_lit 398)) Option.none (Value.ref (nat_lit 133)) Value.none (nat_lit 0))) (List.toArray []))
noncomputable def hd.o135 (P : Params) : Obj := (Obj.mk (Value.type "tuple") Option.none (Data.seq (List.toArray []) (nat_lit 0)) (List.toArray []))
noncomputable def hd.o136 (P : Params) : Obj := (Obj.mk Value.none Option.none (Data.fields (List.toArray [])) (List.toArray []))
noncomputable def hd.o137 (P : Params) : Obj := (Obj.mk (Value.type "tuple") Option.none (Data.seq (List.toArray [(Value.str (Str.ofString "self") (nat_lit 517)), (Value.str (Str.ofString "name") (nat_lit 518))]) (nat_lit 0)) (List.toArray []))
noncomputable def hd.o138 (P : Params) : Obj := (Obj.mk (Value.type "tuple") Option.none (Data.seq (List.toArray []) (nat_lit 0)) (List.toArray []))
noncomputable def hd.o139 (P : Params) : Obj := (Obj.mk Value.none Option.none (Data.func (FuncData.mk (Str.ofString "__getitem__") (Str.ofString "Headers.__getitem__") (fdP (methS 16 5)) (FuncBody.stmts (fdB (methS 16 5))) (fdS (methS 16 5)) (nat_lit 0) [] Value.none Value.none Value.none Value.none Option.none Value.none Value.none (nat_lit 0))) (List.toArray []))
noncomputable def hd.o140 (P : Params) : Obj := (Obj.mk (Value.type "code") Option.none (Data.fields (List.toArray ((Value.str (Str.ofString "__getitem__") (nat_lit 514)) :: (Value.str (Str.ofString "Headers.__getitem__") (nat_lit 515)) :: (Value.str (Str.ofString "/claim/cut.py") (nat_lit 516)) :: (Value.int (66 : Int) (nat_lit 0)) :: (Value.int (2 : Int) (nat_lit 0)) :: (Value.int (0 : Int) (nat_lit 0)) :: (Value.int (0 : Int) (nat_lit 0)) :: (Value.int (3 : Int) (nat_lit 0)) :: (Value.ref (nat_lit 135)) :: (Value.bool Bool.true) :: (Value.int (276 : Int) (nat_lit 0)) :: (Value.ref (nat_lit 136)) :: Value.none :: (Value.ref (nat_lit 137)) :: (Value.ref (nat_lit 138)) :: (Value.ref (nat_lit 139)) :: (Value.int (519 : Int) (nat_lit 0)) :: (Value.int (66 : Int) (nat_lit 0)) :: (Value.str (Str.ofString "/claim/cut.py") (nat_lit 520)) :: []))) (List.toArray []))
noncomputable def hd.o141 (P : Params) : Obj := (Obj.mk (Value.type "function") Option.none (Data.func (FuncData.mk (Str.ofString "__getitem__") (Str.ofString "Headers.__getitem__") (fdP (methS 16 5)) (FuncBody.stmts (fdB (methS 16 5))) (fdS (methS 16 5)) (nat_lit 3) [] Value.none Value.none Value.none (Value.str (Str.ofString "cpy313.wsgiref.headers") (nat_lit 398)) Option.none (Value.ref (nat_lit 140)) Value.none (nat_lit 0))) (List.toArray []))
noncomputable def hd.o142 (P : Params) : Obj := (Obj.mk (Value.type "tuple") Option.none (Data.seq (List.toArray []) (nat_lit 0)) (List.toArray []))
noncomputable def hd.o143 (P : Params) : Obj := (Obj.mk Value.none Option.none (Data.fields (List.toArray [])) (List.toArray []))
noncomputable def hd.o144 (P : Params) : Obj := (Obj.mk (Value.type "tuple") Option.none (Data.seq (List.toArray [(Value.str (Str.ofString "self") (nat_lit 525)), (Value.str (Str.ofString "name") (nat_lit 526))]) (nat_lit 0)) (List.toArray []))
noncomputable def hd.o145 (P : Params) : Obj := (Obj.mk (Value.type "tuple") Option.none (Data.seq (List.toArray []) (nat_lit 0)) (List.toArray []))
noncomputable def hd.o146 (P : Params) : Obj := (Obj.mk Value.none Option.none (Data.func (FuncData.mk (Str.ofString "__contains__") (Str.ofString "Headers.__contains__") (fdP (methS 16 6)) (FuncBody.stmts (fdB (methS 16 6))) (fdS (methS 16 6)) (nat_lit 0) [] Value.none Value.none Value.none Value.none Option.none Value.none Value.none (nat_lit 0))) (List.toArray []))
noncomputable def hd.o147 (P : Params) : Obj := (Obj.mk (Value.type "code") Option.none (Data.fields (List.toArray ((Value.str (Str.ofString "__contains__") (nat_lit 522)) :: (Value.str (Str.ofString "Headers.__contains__") (nat_lit 523)) :: (Value.str (Str.ofString "/claim/cut.py") (nat_lit 524)) :: (Value.int (69 : Int) (nat_lit 0)) :: (Value.int (2 : Int) (nat_lit 0)) :: (Value.int (0 : Int) (nat_lit 0)) :: (Value.int (0 : Int) (nat_lit 0)) :: (Value.int (3 : Int) (nat_lit 0)) :: (Value.ref (nat_lit 142)) :: (Value.bool Bool.true) :: (Value.int (276 : Int) (nat_lit 0)) :: (Value.ref (nat_lit 143)) :: Value.none :: (Value.ref (nat_lit 144)) :: (Value.ref (nat_lit 145)) :: (Value.ref (nat_lit 146)) :: (Value.int (527 : Int) (nat_lit 0)) :: (Value.int (69 : Int) (nat_lit 0)) :: (Value.str (Str.ofString "/claim/cut.py") (nat_lit 528)) :: []))) (List.toArray []))
noncomputable def hd.o148 (P : Params) : Obj := (Obj.mk (Value.type "function") Option.none (Data.func (FuncData.mk (Str.ofString "__contains__") (Str.ofString "Headers.__contains__") (fdP (methS 16 6)) (FuncBody.stmts (fdB (methS 16 6))) (fdS (methS 16 6)) (nat_lit 3) [] Value.none Value.none Value.none (Value.str (Str.ofString "cpy313.wsgiref.headers") (nat_lit 398)) Option.none (Value.ref (nat_lit 147)) Value.none (nat_lit 0))) (List.toArray []))
noncomputable def hd.o149 (P : Params) : Obj := (Obj.mk (Value.type "tuple") Option.none (Data.seq (List.toArray []) (nat_lit 0)) (List.toArray []))
noncomputable def hd.o150 (P : Params) : Obj := (Obj.mk Value.none Option.none (Data.fields (List.toArray [])) (List.toArray []))
noncomputable def hd.o151 (P : Params) : Obj := (Obj.mk (Value.type "tuple") Option.none (Data.seq (List.toArray [(Value.str (Str.ofString "self") (nat_lit 533)), (Value.str (Str.ofString "name") (nat_lit 534))]) (nat_lit 0)) (List.toArray []))
noncomputable def hd.o152 (P : Params) : Obj := (Obj.mk (Value.type "tuple") Option.none (Data.seq (List.toArray []) (nat_lit 0)) (List.toArray []))
noncomputable def hd.o153 (P : Params) : Obj := (Obj.mk Value.none Option.none (Data.func (FuncData.mk (Str.ofString "get_all") (Str.ofString "Headers.get_all") (fdP (methS 16 7)) (FuncBody.stmts (fdB (methS 16 7))) (fdS (methS 16 7)) (nat_lit 0) [] Value.none Value.none Value.none Value.none Option.none Value.none Value.none (nat_lit 0))) (List.toArray []))
noncomputable def hd.o154 (P : Params) : Obj := (Obj.mk (Value.type "code") Option.none (Data.fields (List.toArray ((Value.str (Str.ofString "get_all") (nat_lit 530)) :: (Value.str (Str.ofString "Headers.get_all") (nat_lit 531)) :: (Value.str (Str.ofString "/claim/cut.py") (nat_lit 532)) :: (Value.int (72 : Int) (nat_lit 0)) :: (Value.int (2 : Int) (nat_lit 0)) :: (Value.int (0 : Int) (nat_lit 0)) :: (Value.int (0 : Int) (nat_lit 0)) :: (Value.int (3 : Int) (nat_lit 0)) :: (Value.ref (nat_lit 149)) :: (Value.bool Bool.true) :: (Value.int (276 : Int) (nat_lit 0)) :: (Value.ref (nat_lit 150)) :: Value.none :: (Value.ref (nat_lit 151)) :: (Value.ref (nat_lit 152)) :: (Value.ref (nat_lit 153)) :: (Value.int (535 : Int) (nat_lit 0)) :: (Value.int (72 : Int) (nat_lit 0)) :: (Value.str (Str.ofString "/claim/cut.py") (nat_lit 536)) :: []))) (List.toArray []))
noncomputable def hd.o155 (P : Params) : Obj := (Obj.mk (Value.type "function") Option.none (Data.func (FuncData.mk (Str.ofString "get_all") (Str.ofString "Headers.get_all") (fdP (methS 16 7)) (FuncBody.stmts (fdB (methS 16 7))) (fdS (methS 16 7)) (nat_lit 3) [] Value.none Value.none Value.none (Value.str (Str.ofString "cpy313.wsgiref.headers") (nat_lit 398)) Option.none (Value.ref (nat_lit 154)) Value.none (nat_lit 0))) (List.toArray []))
noncomputable def hd.o156 (P : Params) : Obj := (Obj.mk (Value.type "tuple") Option.none (Data.seq (List.toArray [Value.none]) (nat_lit 0)) (List.toArray []))
noncomputable def hd.o157 (P : Params) : Obj := (Obj.mk (Value.type "tuple") Option.none (Data.seq (List.toArray []) (nat_lit 0)) (List.toArray []))
noncomputable def hd.o158 (P : Params) : Obj := (Obj.mk Value.none Option.none (Data.fields (List.toArray [])) (List.toArray []))
noncomputable def hd.o159 (P : Params) : Obj := (Obj.mk (Value.type "tuple") Option.none (Data.seq (List.toArray [(Value.str (Str.ofString "self") (nat_lit 541)), (Value.str (Str.ofString "name") (nat_lit 542)), (Value.str (Str.ofString "default") (nat_lit 543)), (Value.str (Str.ofString "k") (nat_lit 544)), (Value.str (Str.ofString "v") (nat_lit 545))]) (nat_lit 0)) (List.toArray []))
noncomputable def hd.o160 (P : Params) : Obj := (Obj.mk (Value.type "tuple") Option.none (Data.seq (List.toArray []) (nat_lit 0)) (List.toArray []))
noncomputable def hd.o161 (P : Params) : Obj := (Obj.mk Value.none Option.none (Data.func (FuncData.mk (Str.ofString "get") (Str.ofString "Headers.get") (fdP (methS 16 8)) (FuncBody.stmts (fdB (methS 16 8))) (fdS (methS 16 8)) (nat_lit 0) [] Value.none Value.none Value.none Value.none Option.none Value.none Value.none (nat_lit 0))) (List.toArray []))
noncomputable def hd.o162 (P : Params) : Obj := (Obj.mk (Value.type "code") Option.none (Data.fields (List.toArray ((Value.str (Str.ofString "get") (nat_lit 538)) :: (Value.str (Str.ofString "Headers.get") (nat_lit 539)) :: (Value.str (Str.ofString "/claim/cut.py") (nat_lit 540)) :: (Value.int (75 : Int) (nat_lit 0)) :: (Value.int (3 : Int) (nat_lit 0)) :: (Value.int (0 : Int) (nat_lit 0)) :: (Value.int (0 : Int) (nat_lit 0)) :: (Value.int (3 : Int) (nat_lit 0)) :: (Value.ref (nat_lit 157)) :: (Value.bool Bool.true) :: (Value.int (276 : Int) (nat_lit 0)) :: (Value.ref (nat_lit 158)) :: Value.none :: (Value.ref (nat_lit 159)) :: (Value.ref (nat_lit 160)) :: (Value.ref (nat_lit 161)) :: (Value.int (546 : Int) (nat_lit 0)) :: (Value.int (75 : Int) (nat_lit 0)) :: (Value.str (Str.ofString "/claim/cut.py") (nat_lit 547)) :: []))) (List.toArray []))
noncomputable def hd.o163 (P : Params) : Obj := (Obj.mk (Value.type "function") Option.none (Data.func (FuncData.mk (Str.ofString "get") (Str.ofString "Headers.get") (fdP (methS 16 8)) (FuncBody.stmts (fdB (methS 16 8))) (fdS (methS 16 8)) (nat_lit 3) [] (Value.ref (nat_lit 156)) Value.none Value.none (Value.str (Str.ofString "cpy313.wsgiref.headers") (nat_lit 398)) Option.none (Value.ref (nat_lit 162)) Value.none (nat_lit 0))) (List.toArray []))
noncomputable def hd.o164 (P : Params) : Obj := (Obj.mk (Value.type "tuple") Option.none (Data.seq (List.toArray []) (nat_lit 0)) (List.toArray []))
noncomputable def hd.o165 (P : Params) : Obj := (Obj.mk Value.none Option.none (Data.fields (List.toArray [])) (List.toArray []))
noncomputable def hd.o166 (P : Params) : Obj := (Obj.mk Value.none Option.none (Data.func (FuncData.mk (Str.ofString "keys") (Str.ofString "Headers.keys") (fdP (methS 16 9)) (FuncBody.stmts (fdB (methS 16 9))) (fdS (methS 16 9)) (nat_lit 0) [] Value.none Value.none Value.none Value.none Option.none Value.none Value.none (nat_lit 0))) (List.toArray []))
noncomputable def hd.o167 (P : Params) : Obj := (Obj.mk (Value.type "code") Option.none (Data.fields (List.toArray ((Value.str (Str.ofString "keys") (nat_lit 549)) :: (Value.str (Str.ofString "Headers.keys") (nat_lit 550)) :: (Value.str (Str.ofString "/claim/cut.py") (nat_lit 551)) :: (Value.int (82 : Int) (nat_lit 0)) :: (Value.int (1 : Int) (nat_lit 0)) :: (Value.int (0 : Int) (nat_lit 0)) :: (Value.int (0 : Int) (nat_lit 0)) :: (Value.int (3 : Int) (nat_lit 0)) :: (Value.ref (nat_lit 164)) :: (Value.bool Bool.true) :: (Value.int (276 : Int) (nat_lit 0)) :: (Value.ref (nat_lit 165)) :: Value.none :: Value.none :: Value.none :: (Value.ref (nat_lit 166)) :: (Value.int (552 : Int) (nat_lit 0)) :: (Value.int (82 : Int) (nat_lit 0)) :: (Value.str (Str.ofString "/claim/cut.py") (nat_lit 553)) :: []))) (List.toArray []))
noncomputable def hd.o168 (P : Params) : Obj := (Obj.mk (Value.type "function") Option.none (Data.func (FuncData.mk (Str.ofString "keys") (Str.ofString "Headers.keys") (fdP (methS 16 9)) (FuncBody.stmts (fdB (methS 16 9))) (fdS (methS 16 9)) (nat_lit 3) [] Value.none Value.none Value.none (Value.str (Str.ofString "cpy313.wsgiref.headers") (nat_lit 398)) Option.none (Value.ref (nat_lit 167)) Value.none (nat_lit 0))) (List.toArray []))
noncomputable def hd.o169 (P : Params) : Obj := (Obj.mk (Value.type "tuple") Option.none (Data.seq (List.toArray []) (nat_lit 0)) (List.toArray []))
noncomputable def hd.o170 (P : Params) : Obj := (Obj.mk Value.none Option.none (Data.fields (List.toArray [])) (List.toArray []))
noncomputable def hd.o171 (P : Params) : Obj := (Obj.mk Value.none Option.none (Data.func (FuncData.mk (Str.ofString "values") (Str.ofString "Headers.values") (fdP (methS 16 10)) (FuncBody.stmts (fdB (methS 16 10))) (fdS (methS 16 10)) (nat_lit 0) [] Value.none Value.none Value.none Value.none Option.none Value.none Value.none (nat_lit 0))) (List.toArray []))
noncomputable def hd.o172 (P : Params) : Obj := (Obj.mk (Value.type "code") Option.none (Data.fields (List.toArray ((Value.str (Str.ofString "values") (nat_lit 555)) :: (Value.str (Str.ofString "Headers.values") (nat_lit 556)) :: (Value.str (Str.ofString "/claim/cut.py") (nat_lit 557)) :: (Value.int (85 : Int) (nat_lit 0)) :: (Value.int (1 : Int) (nat_lit 0)) :: (Value.int (0 : Int) (nat_lit 0)) :: (Value.int (0 : Int) (nat_lit 0)) :: (Value.int (3 : Int) (nat_lit 0)) :: (Value.ref (nat_lit 169)) :: (Value.bool Bool.true) :: (Value.int (276 : Int) (nat_lit 0)) :: (Value.ref (nat_lit 170)) :: Value.none :: Value.none :: Value.none :: (Value.ref (nat_lit 171)) :: (Value.int (558 : Int) (nat_lit 0)) :: (Value.int (85 : Int) (nat_lit 0)) :: (Value.str (Str.ofString "/claim/cut.py") (nat_lit 559)) :: []))) (List.toArray []))
noncomputable def hd.o173 (P : Params) : Obj := (Obj.mk (Value.type "function") Option.none (Data.func (FuncData.mk (Str.ofString "values") (Str.ofString "Headers.values") (fdP (methS 16 10)) (FuncBody.stmts (fdB (methS 16 10))) (fdS (methS 16 10)) (nat_lit 3) [] Value.none Value.none Value.none (Value.str (Str.ofString "cpy313.wsgiref.headers") (nat_lit 398)) Option.none (Value.ref (nat_lit 172)) Value.none (nat_lit 0))) (List.toArray []))
noncomputable def hd.o174 (P : Params) : Obj := (Obj.mk (Value.type "tuple") Option.none (Data.seq (List.toArray []) (nat_lit 0)) (List.toArray []))
noncomputable def hd.o175 (P : Params) : Obj := (Obj.mk Value.none Option.none (Data.fields (List.toArray [])) (List.toArray []))
noncomputable def hd.o176 (P : Params) : Obj := (Obj.mk (Value.type "tuple") Option.none (Data.seq (List.toArray [(Value.str (Str.ofString "self") (nat_lit 564))]) (nat_lit 0)) (List.toArray []))
noncomputable def hd.o177 (P : Params) : Obj := (Obj.mk (Value.type "tuple") Option.none (Data.seq (List.toArray []) (nat_lit 0)) (List.toArray []))
noncomputable def hd.o178 (P : Params) : Obj := (Obj.mk Value.none Option.none (Data.func (FuncData.mk (Str.ofString "items") (Str.ofString "Headers.items") (fdP (methS 16 11)) (FuncBody.stmts (fdB (methS 16 11))) (fdS (methS 16 11)) (nat_lit 0) [] Value.none Value.none Value.none Value.none Option.none Value.none Value.none (nat_lit 0))) (List.toArray []))
noncomputable def hd.o179 (P : Params) : Obj := (Obj.mk (Value.type "code") Option.none (Data.fields (List.toArray ((Value.str (Str.ofString "items") (nat_lit 561)) :: (Value.str (Str.ofString "Headers.items") (nat_lit 562)) :: (Value.str (Str.ofString "/claim/cut.py") (nat_lit 563)) :: (Value.int (88 : Int) (nat_lit 0)) :: (Value.int (1 : Int) (nat_lit 0)) :: (Value.int (0 : Int) (nat_lit 0)) :: (Value.int (0 : Int) (nat_lit 0)) :: (Value.int (3 : Int) (nat_lit 0)) :: (Value.ref (nat_lit 174)) :: (Value.bool Bool.true) :: (Value.int (276 : Int) (nat_lit 0)) :: (Value.ref (nat_lit 175)) :: Value.none :: (Value.ref (nat_lit 176)) :: (Value.ref (nat_lit 177)) :: (Value.ref (nat_lit 178)) :: (Value.int (565 : Int) (nat_lit 0)) :: (Value.int (88 : Int) (nat_lit 0)) :: (Value.str (Str.ofString "/claim/cut.py") (nat_lit 566)) :: []))) (List.toArray []))
noncomputable def hd.o180 (P : Params) : Obj := (Obj.mk (Value.type "function") Option.none (Data.func (FuncData.mk (Str.ofString "items") (Str.ofString "Headers.items") (fdP (methS 16 11)) (FuncBody.stmts (fdB (methS 16 11))) (fdS (methS 16 11)) (nat_lit 3) [] Value.none Value.none Value.none (Value.str (Str.ofString "cpy313.wsgiref.headers") (nat_lit 398)) Option.none (Value.ref (nat_lit 179)) Value.none (nat_lit 0))) (List.toArray []))
noncomputable def hd.o181 (P : Params) : Obj := (Obj.mk (Value.type "tuple") Option.none (Data.seq (List.toArray []) (nat_lit 0)) (List.toArray []))
noncomputable def hd.o182 (P : Params) : Obj := (Obj.mk Value.none Option.none (Data.fields (List.toArray [])) (List.toArray []))
noncomputable def hd.o183 (P : Params) : Obj := (Obj.mk (Value.type "tuple") Option.none (Data.seq (List.toArray [(Value.str (Str.ofString "self") (nat_lit 571))]) (nat_lit 0)) (List.toArray []))
noncomputable def hd.o184 (P : Params) : Obj := (Obj.mk (Value.type "tuple") Option.none (Data.seq (List.toArray []) (nat_lit 0)) (List.toArray []))
noncomputable def hd.o185 (P : Params) : Obj := (Obj.mk Value.none Option.none (Data.func (FuncData.mk (Str.ofString "__repr__") (Str.ofString "Headers.__repr__") (fdP (methS 16 12)) (FuncBody.stmts (fdB (methS 16 12))) (fdS (methS 16 12)) (nat_lit 0) [] Value.none Value.none Value.none Value.none Option.none Value.none Value.none (nat_lit 0))) (List.toArray []))
noncomputable def hd.o186 (P : Params) : Obj := (Obj.mk (Value.type "code") Option.none (Data.fields (List.toArray ((Value.str (Str.ofString "__repr__") (nat_lit 568)) :: (Value.str (Str.ofString "Headers.__repr__") (nat_lit 569)) :: (Value.str (Str.ofString "/claim/cut.py") (nat_lit 570)) :: (Value.int (91 : Int) (nat_lit 0)) :: (Value.int (1 : Int) (nat_lit 0)) :: (Value.int (0 : Int) (nat_lit 0)) :: (Value.int (0 : Int) (nat_lit 0)) :: (Value.int (3 : Int) (nat_lit 0)) :: (Value.ref (nat_lit 181)) :: (Value.bool Bool.true) :: (Value.int (276 : Int) (nat_lit 0)) :: (Value.ref (nat_lit 182)) :: Value.none :: (Value.ref (nat_lit 183)) :: (Value.ref (nat_lit 184)) :: (Value.ref (nat_lit 185)) :: (Value.int (572 : Int) (nat_lit 0)) :: (Value.int (91 : Int) (nat_lit 0)) :: (Value.str (Str.ofString "/claim/cut.py") (nat_lit 573)) :: []))) (List.toArray []))
noncomputable def hd.o187 (P : Params) : Obj := (Obj.mk (Value.type "function") Option.none (Data.func (FuncData.mk (Str.ofString "__repr__") (Str.ofString "Headers.__repr__") (fdP (methS 16 12)) (FuncBody.stmts (fdB (methS 16 12))) (fdS (methS 16 12)) (nat_lit 3) [] Value.none Value.none Value.none (Value.str (Str.ofString "cpy313.wsgiref.headers") (nat_lit 398)) Option.none (Value.ref (nat_lit 186)) Value.none (nat_lit 0))) (List.toArray []))
noncomputable def hd.o188 (P : Params) : Obj := (Obj.mk (Value.type "tuple") Option.none (Data.seq (List.toArray []) (nat_lit 0)) (List.toArray []))
noncomputable def hd.o189 (P : Params) : Obj := (Obj.mk Value.none Option.none (Data.fields (List.toArray [])) (List.toArray []))
noncomputable def hd.o190 (P : Params) : Obj := (Obj.mk Value.none Option.none (Data.func (FuncData.mk (Str.ofString "__str__") (Str.ofString "Headers.__str__") (fdP (methS 16 13)) (FuncBody.stmts (fdB (methS 16 13))) (fdS (methS 16 13)) (nat_lit 0) [] Value.none Value.none Value.none Value.none Option.none Value.none Value.none (nat_lit 0))) (List.toArray []))
noncomputable def hd.o191 (P : Params) : Obj := (Obj.mk (Value.type "code") Option.none (Data.fields (List.toArray ((Value.str (Str.ofString "__str__") (nat_lit 575)) :: (Value.str (Str.ofString "Headers.__str__") (nat_lit 576)) :: (Value.str (Str.ofString "/claim/cut.py") (nat_lit 577)) :: (Value.int (94 : Int) (nat_lit 0)) :: (Value.int (1 : Int) (nat_lit 0)) :: (Value.int (0 : Int) (nat_lit 0)) :: (Value.int (0 : Int) (nat_lit 0)) :: (Value.int (3 : Int) (nat_lit 0)) :: (Value.ref (nat_lit 188)) :: (Value.bool Bool.true) :: (Value.int (276 : Int) (nat_lit 0)) :: (Value.ref (nat_lit 189)) :: Value.none :: Value.none :: Value.none :: (Value.ref (nat_lit 190)) :: (Value.int (578 : Int) (nat_lit 0)) :: (Value.int (94 : Int) (nat_lit 0)) :: (Value.str (Str.ofString "/claim/cut.py") (nat_lit 579)) :: []))) (List.toArray []))
noncomputable def hd.o192 (P : Params) : Obj := (Obj.mk (Value.type "function") Option.none (Data.func (FuncData.mk (Str.ofString "__str__") (Str.ofString "Headers.__str__") (fdP (methS 16 13)) (FuncBody.stmts (fdB (methS 16 13))) (fdS (methS 16 13)) (nat_lit 3) [] Value.none Value.none Value.none (Value.str (Str.ofString "cpy313.wsgiref.headers") (nat_lit 398)) Option.none (Value.ref (nat_lit 191)) Value.none (nat_lit 0))) (List.toArray []))
noncomputable def hd.o193 (P : Params) : Obj := (Obj.mk (Value.type "tuple") Option.none (Data.seq (List.toArray []) (nat_lit 0)) (List.toArray []))
noncomputable def hd.o194 (P : Params) : Obj := (Obj.mk Value.none Option.none (Data.fields (List.toArray [])) (List.toArray []))
noncomputable def hd.o195 (P : Params) : Obj := (Obj.mk (Value.type "tuple") Option.none (Data.seq (List.toArray [(Value.str (Str.ofString "self") (nat_lit 584))]) (nat_lit 0)) (List.toArray []))
noncomputable def hd.o196 (P : Params) : Obj := (Obj.mk (Value.type "tuple") Option.none (Data.seq (List.toArray []) (nat_lit 0)) (List.toArray []))
noncomputable def hd.o197 (P : Params) : Obj := (Obj.mk Value.none Option.none (Data.func (FuncData.mk (Str.ofString "__bytes__") (Str.ofString "Headers.__bytes__") (fdP (methS 16 14)) (FuncBody.stmts (fdB (methS 16 14))) (fdS (methS 16 14)) (nat_lit 0) [] Value.none Value.none Value.none Value.none Option.none Value.none Value.none (nat_lit 0))) (List.toArray []))
noncomputable def hd.o198 (P : Params) : Obj := (Obj.mk (Value.type "code") Option.none (Data.fields (List.toArray ((Value.str (Str.ofString "__bytes__") (nat_lit 581)) :: (Value.str (Str.ofString "Headers.__bytes__") (nat_lit 582)) :: (Value.str (Str.ofString "/claim/cut.py") (nat_lit 583)) :: (Value.int (97 : Int) (nat_lit 0)) :: (Value.int (1 : Int) (nat_lit 0)) :: (Value.int (0 : Int) (nat_lit 0)) :: (Value.int (0 : Int) (nat_lit 0)) :: (Value.int (3 : Int) (nat_lit 0)) :: (Value.ref (nat_lit 193)) :: (Value.bool Bool.true) :: (Value.int (276 : Int) (nat_lit 0)) :: (Value.ref (nat_lit 194)) :: Value.none :: (Value.ref (nat_lit 195)) :: (Value.ref (nat_lit 196)) :: (Value.ref (nat_lit 197)) :: (Value.int (585 : Int) (nat_lit 0)) :: (Value.int (97 : Int) (nat_lit 0)) :: (Value.str (Str.ofString "/claim/cut.py") (nat_lit 586)) :: []))) (List.toArray []))
noncomputable def hd.o199 (P : Params) : Obj := (Obj.mk (Value.type "function") Option.none (Data.func (FuncData.mk (Str.ofString "__bytes__") (Str.ofString "Headers.__bytes__") (fdP (methS 16 14)) (FuncBody.stmts (fdB (methS 16 14))) (fdS (methS 16 14)) (nat_lit 3) [] Value.none Value.none Value.none (Value.str (Str.ofString "cpy313.wsgiref.headers") (nat_lit 398)) Option.none (Value.ref (nat_lit 198)) Value.none (nat_lit 0))) (List.toArray []))
noncomputable def hd.o200 (P : Params) : Obj := (Obj.mk (Value.type "tuple") Option.none (Data.seq (List.toArray []) (nat_lit 0)) (List.toArray []))
noncomputable def hd.o201 (P : Params) : Obj := (Obj.mk Value.none Option.none (Data.fields (List.toArray [])) (List.toArray []))
noncomputable def hd.o202 (P : Params) : Obj := (Obj.mk (Value.type "tuple") Option.none (Data.seq (List.toArray [(Value.str (Str.ofString "self") (nat_lit 591)), (Value.str (Str.ofString "name") (nat_lit 592)), (Value.str (Str.ofString "value") (nat_lit 593)), (Value.str (Str.ofString "result") (nat_lit 594))]) (nat_lit 0)) (List.toArray []))
noncomputable def hd.o203 (P : Params) : Obj := (Obj.mk (Value.type "tuple") Option.none (Data.seq (List.toArray []) (nat_lit 0)) (List.toArray []))
noncomputable def hd.o204 (P : Params) : Obj := (Obj.mk Value.none Option.none (Data.func (FuncData.mk (Str.ofString "setdefault") (Str.ofString "Headers.setdefault") (fdP (methS 16 15)) (FuncBody.stmts (fdB (methS 16 15))) (fdS (methS 16 15)) (nat_lit 0) [] Value.none Value.none Value.none Value.none Option.none Value.none Value.none (nat_lit 0))) (List.toArray []))
noncomputable def hd.o205 (P : Params) : Obj := (Obj.mk (Value.type "code") Option.none (Data.fields (List.toArray ((Value.str (Str.ofString "setdefault") (nat_lit 588)) :: (Value.str (Str.ofString "Headers.setdefault") (nat_lit 589)) :: (Value.str (Str.ofString "/claim/cut.py") (nat_lit 590)) :: (Value.int (100 : Int) (nat_lit 0)) :: (Value.int (3 : Int) (nat_lit 0)) :: (Value.int (0 : Int) (nat_lit 0)) :: (Value.int (0 : Int) (nat_lit 0)) :: (Value.int (3 : Int) (nat_lit 0)) :: (Value.ref (nat_lit 200)) :: (Value.bool Bool.true) :: (Value.int (276 : Int) (nat_lit 0)) :: (Value.ref (nat_lit 201)) :: Value.none :: (Value.ref (nat_lit 202)) :: (Value.ref (nat_lit 203)) :: (Value.ref (nat_lit 204)) :: (Value.int (595 : Int) (nat_lit 0)) :: (Value.int (100 : Int) (nat_lit 0)) :: (Value.str (Str.ofString "/claim/cut.py") (nat_lit 596)) :: []))) (List.toArray []))
noncomputable def hd.o206 (P : Params) : Obj := (Obj.mk (Value.type "function") Option.none (Data.func (FuncData.mk (Str.ofString "setdefault") (Str.ofString "Headers.setdefault") (fdP (methS 16 15)) (FuncBody.stmts (fdB (methS 16 15))) (fdS (methS 16 15)) (nat_lit 3) [] Value.none Value.none Value.none (Value.str (Str.ofString "cpy313.wsgiref.headers") (nat_lit 398)) Option.none (Value.ref (nat_lit 205)) Value.none (nat_lit 0))) (List.toArray []))
noncomputable def hd.o207 (P : Params) : Obj := (Obj.mk (Value.type "tuple") Option.none (Data.seq (List.toArray []) (nat_lit 0)) (List.toArray []))
noncomputable def hd.o208 (P : Params) : Obj := (Obj.mk Value.none Option.none (Data.fields (List.toArray [])) (List.toArray []))
noncomputable def hd.o209 (P : Params) : Obj := (Obj.mk (Value.type "tuple") Option.none (Data.seq (List.toArray [(Value.str (Str.ofString "self") (nat_lit 601)), (Value.str (Str.ofString "_name") (nat_lit 602)), (Value.str (Str.ofString "_value") (nat_lit 603)), (Value.str (Str.ofString "_params") (nat_lit 604))]) (nat_lit 0)) (List.toArray []))
noncomputable def hd.o210 (P : Params) : Obj := (Obj.mk (Value.type "tuple") Option.none (Data.seq (List.toArray []) (nat_lit 0)) (List.toArray []))
noncomputable def hd.o211 (P : Params) : Obj := (Obj.mk Value.none Option.none (Data.func (FuncData.mk (Str.ofString "add_header") (Str.ofString "Headers.add_header") (fdP (methS 16 16)) (FuncBody.stmts (fdB (methS 16 16))) (fdS (methS 16 16)) (nat_lit 0) [] Value.none Value.none Value.none Value.none Option.none Value.none Value.none (nat_lit 0))) (List.toArray []))
noncomputable def hd.o212 (P : Params) : Obj := (Obj.mk (Value.type "code") Option.none (Data.fields (List.toArray ((Value.str (Str.ofString "add_header") (nat_lit 598)) :: (Value.str (Str.ofString "Headers.add_header") (nat_lit 599)) :: (Value.str (Str.ofString "/claim/cut.py") (nat_lit 600)) :: (Value.int (108 : Int) (nat_lit 0)) :: (Value.int (3 : Int) (nat_lit 0)) :: (Value.int (0 : Int) (nat_lit 0)) :: (Value.int (0 : Int) (nat_lit 0)) :: (Value.int (11 : Int) (nat_lit 0)) :: (Value.ref (nat_lit 207)) :: (Value.bool Bool.true) :: (Value.int (276 : Int) (nat_lit 0)) :: (Value.ref (nat_lit 208)) :: Value.none :: (Value.ref (nat_lit 209)) :: (Value.ref (nat_lit 210)) :: (Value.ref (nat_lit 211)) :: (Value.int (605 : Int) (nat_lit 0)) :: (Value.int (108 : Int) (nat_lit 0)) :: (Value.str (Str.ofString "/claim/cut.py") (nat_lit 606)) :: []))) (List.toArray []))
noncomputable def hd.o213 (P : Params) : Obj := (Obj.mk (Value.type "function") Option.none (Data.func (FuncData.mk (Str.ofString "add_header") (Str.ofString "Headers.add_header") (fdP (methS 16 16)) (FuncBody.stmts (fdB (methS 16 16))) (fdS (methS 16 16)) (nat_lit 3) [] Value.none Value.none Value.none (Value.str (Str.ofString "cpy313.wsgiref.headers") (nat_lit 398)) Option.none (Value.ref (nat_lit 212)) Value.none (nat_lit 0))) (List.toArray []))
noncomputable def hd.o214 (P : Params) : Obj := (Obj.mk (Value.type "tuple") Option.none (Data.seq (List.toArray [(Value.str (Str.ofString "_headers") (nat_lit 608))]) (nat_lit 0)) (List.toArray []))
noncomputable def hd.o215 (P : Params) : Obj := (Obj.mk (Value.type "dict") Option.none (Data.dict (List.toArray ((DictEntry.mk (PyData.keyHash P (Str.ofString "__module__")) (Value.str (Str.ofString "__module__") (nat_lit 467)) (Value.str (Str.ofString "cpy313.wsgiref.headers") (nat_lit 398))) :: (DictEntry.mk (PyData.keyHash P (Str.ofString "__firstlineno__")) (Value.str (Str.ofString "__firstlineno__") (nat_lit 471)) (Value.int (35 : Int) (nat_lit 470))) :: (DictEntry.mk (PyData.keyHash P (Str.ofString "__init__")) (Value.str (Str.ofString "__init__") (nat_lit 481)) (Value.ref (nat_lit 108))) :: (DictEntry.mk (PyData.keyHash P (Str.ofString "_convert_string_type")) (Value.str (Str.ofString "_convert_string_type") (nat_lit 491)) (Value.ref (nat_lit 115))) :: (DictEntry.mk (PyData.keyHash P (Str.ofString "__len__")) (Value.str (Str.ofString "__len__") (nat_lit 498)) (Value.ref (nat_lit 122))) :: (DictEntry.mk (PyData.keyHash P (Str.ofString "__setitem__")) (Value.str (Str.ofString "__setitem__") (nat_lit 507)) (Value.ref (nat_lit 129))) :: (DictEntry.mk (PyData.keyHash P (Str.ofString "__delitem__")) (Value.str (Str.ofString "__delitem__") (nat_lit 513)) (Value.ref (nat_lit 134))) :: (DictEntry.mk (PyData.keyHash P (Str.ofString "__getitem__")) (Value.str (Str.ofString "__getitem__") (nat_lit 521)) (Value.ref (nat_lit 141))) :: (DictEntry.mk (PyData.keyHash P (Str.ofString "__contains__")) (Value.str (Str.ofString "__contains__") (nat_lit 529)) (Value.ref (nat_lit 148))) :: (DictEntry.mk (PyData.keyHash P (Str.ofString "get_all")) (Value.str (Str.ofString "get_all") (nat_lit 537)) (Value.ref (nat_lit 155))) :: (DictEntry.mk (PyData.keyHash P (Str.ofString "get")) (Value.str (Str.ofString "get") (nat_lit 548)) (Value.ref (nat_lit 163))) :: (DictEntry.mk (PyData.keyHash P (Str.ofString "keys")) (Value.str (Str.ofString "keys") (nat_lit 554)) (Value.ref (nat_lit 168))) :: (DictEntry.mk (PyData.keyHash P (Str.ofString "values")) (Value.str (Str.ofString "values") (nat_lit 560)) (Value.ref (nat_lit 173))) :: (DictEntry.mk (PyData.keyHash P (Str.ofString "items")) (Value.str (Str.ofString "items") (nat_lit 567)) (Value.ref (nat_lit 180))) :: (DictEntry.mk (PyData.keyHash P (Str.ofString "__repr__")) (Value.str (Str.ofString "__repr__") (nat_lit 574)) (Value.ref (nat_lit 187))) :: (DictEntry.mk (PyData.keyHash P (Str.ofString "__str__")) (Value.str (Str.ofString "__str__") (nat_lit 580)) (Value.ref (nat_lit 192))) :: (DictEntry.mk (PyData.keyHash P (Str.ofString "__bytes__")) (Value.str (Str.ofString "__bytes__") (nat_lit 587)) (Value.ref (nat_lit 199))) :: (DictEntry.mk (PyData.keyHash P (Str.ofString "setdefault")) (Value.str (Str.ofString "setdefault") (nat_lit 597)) (Value.ref (nat_lit 206))) :: (DictEntry.mk (PyData.keyHash P (Str.ofString "add_header")) (Value.str (Str.ofString "add_header") (nat_lit 607)) (Value.ref (nat_lit 213))) :: (DictEntry.mk (PyData.keyHash P (Str.ofString "__static_attributes__")) (Value.str (Str.ofString "__static_attributes__") (nat_lit 609)) (Value.ref (nat_lit 214))) :: (DictEntry.mk (PyData.keyHash P (Str.ofString "__dict__")) (Value.str (Str.ofString "__dict__") (nat_lit 611)) (Value.ref (nat_lit 217))) :: (DictEntry.mk (PyData.keyHash P (Str.ofString "__weakref__")) (Value.str (Str.ofString "__weakref__") (nat_lit 613)) (Value.ref (nat_lit 218))) :: (DictEntry.mk (PyData.keyHash P (Str.ofString "__doc__")) (Value.str (Str.ofString "__doc__") (nat_lit 614)) Value.none) :: [])) (nat_lit 4)) (List.toArray []))
noncomputable def hd.o216 (P : Params) : Obj := (Obj.mk (Value.type "type") Option.none (Data.cls (ClassData.mk (Str.ofString "Headers") [(Value.type "object")] [(Value.ref (nat_lit 216)), (Value.type "object")] (nat_lit 215) (Str.ofString "Headers") Bool.true [] [] Bool.false Option.none Bool.false)) (List.toArray (Option.none :: Option.none :: (Option.some (Value.str (Str.ofString "Headers") (nat_lit 460))) :: (Option.some (Value.str (Str.ofString "Headers") (nat_lit 468))) :: (Option.some (Value.builtin "object.__new__")) :: (Option.some (Value.bool Bool.true)) :: [])))
noncomputable def hd.o217 (P : Params) : Obj := (Obj.mk (Value.type "getset_descriptor") Option.none (Data.fields (List.toArray [(Value.str (Str.ofString "__dict__") (nat_lit 610)), (Value.ref (nat_lit 216)), (Value.builtin "function.__dict__"), (Value.builtin "function.__dict__#set")])) (List.toArray []))
noncomputable def hd.o218 (P : Params) : Obj := (Obj.mk (Value.type "getset_descriptor") Option.none (Data.fields (List.toArray [(Value.str (Str.ofString "__weakref__") (nat_lit 612)), (Value.ref (nat_lit 216)), (Value.builtin "ExceptionGroup.__weakref__"), Value.none])) (List.toArray []))
noncomputable def hd.o219 (P : Params) : Obj := (Obj.mk (Value.type "super") Option.none (Data.fields (List.toArray [(Value.ref (nat_lit 216)), (Value.ref (nat_lit 216)), (Value.ref (nat_lit 216))])) (List.toArray []))
noncomputable def hd.o220 (P : Params) : Obj := (Obj.mk (Value.type "builtin_function_or_method") Option.none (Data.fields (List.toArray [(Value.builtin "object.__init_subclass__"), (Value.ref (nat_lit 216))])) (List.toArray []))
noncomputable def hd.o221 (P : Params) : Obj := (Obj.mk (Value.type "tuple") Option.none (Data.seq (List.toArray []) (nat_lit 0)) (List.toArray []))
noncomputable def hd.o222 (P : Params) : Obj := (Obj.mk Value.none Option.none (Data.fields (List.toArray [])) (List.toArray []))
noncomputable def hd.o223 (P : Params) : Obj := (Obj.mk (Value.type "tuple") Option.none (Data.seq (List.toArray [(Value.str (Str.ofString "word") (nat_lit 622)), (Value.str (Str.ofString "number") (nat_lit 623)), (Value.str (Str.ofString "letter") (nat_lit 624))]) (nat_lit 0)) (List.toArray []))
noncomputable def hd.o224 (P : Params) : Obj := (Obj.mk (Value.type "tuple") Option.none (Data.seq (List.toArray []) (nat_lit 0)) (List.toArray []))
noncomputable def hd.o225 (P : Params) : Obj := (Obj.mk Value.none Option.none (Data.func (FuncData.mk (Str.ofString "_law_number") (Str.ofString "_law_number") (fdP (topS 18)) (FuncBody.stmts (fdB (topS 18))) (fdS (topS 18)) (nat_lit 0) [] Value.none Value.none Value.none Value.none Option.none Value.none Value.none (nat_lit 0))) (List.toArray []))
noncomputable def hd.o226 (P : Params) : Obj := (Obj.mk (Value.type "code") Option.none (Data.fields (List.toArray ((Value.str (Str.ofString "_law_number") (nat_lit 619)) :: (Value.str (Str.ofString "_law_number") (nat_lit 620)) :: (Value.str (Str.ofString "/claim/cut.py") (nat_lit 621)) :: (Value.int (111 : Int) (nat_lit 0)) :: (Value.int (1 : Int) (nat_lit 0)) :: (Value.int (0 : Int) (nat_lit 0)) :: (Value.int (0 : Int) (nat_lit 0)) :: (Value.int (3 : Int) (nat_lit 0)) :: (Value.ref (nat_lit 221)) :: (Value.bool Bool.true) :: (Value.int (276 : Int) (nat_lit 0)) :: (Value.ref (nat_lit 222)) :: Value.none :: (Value.ref (nat_lit 223)) :: (Value.ref (nat_lit 224)) :: (Value.ref (nat_lit 225)) :: (Value.int (625 : Int) (nat_lit 0)) :: (Value.int (111 : Int) (nat_lit 0)) :: (Value.str (Str.ofString "/claim/cut.py") (nat_lit 626)) :: []))) (List.toArray []))
noncomputable def hd.o227 (P : Params) : Obj := (Obj.mk (Value.type "function") Option.none (Data.func (FuncData.mk (Str.ofString "_law_number") (Str.ofString "_law_number") (fdP (topS 18)) (FuncBody.stmts (fdB (topS 18))) (fdS (topS 18)) (nat_lit 3) [] Value.none Value.none Value.none (Value.str (Str.ofString "law_wj0041_01") (nat_lit 617)) Option.none (Value.ref (nat_lit 226)) Value.none (nat_lit 0))) (List.toArray []))
noncomputable def hd.o228 (P : Params) : Obj := (Obj.mk (Value.type "tuple") Option.none (Data.seq (List.toArray []) (nat_lit 0)) (List.toArray []))
noncomputable def hd.o229 (P : Params) : Obj := (Obj.mk Value.none Option.none (Data.fields (List.toArray [])) (List.toArray []))
noncomputable def hd.o230 (P : Params) : Obj := (Obj.mk (Value.type "tuple") Option.none (Data.seq (List.toArray [(Value.str (Str.ofString "x") (nat_lit 631))]) (nat_lit 0)) (List.toArray []))
noncomputable def hd.o231 (P : Params) : Obj := (Obj.mk (Value.type "tuple") Option.none (Data.seq (List.toArray []) (nat_lit 0)) (List.toArray []))
noncomputable def hd.o232 (P : Params) : Obj := (Obj.mk Value.none Option.none (Data.func (FuncData.mk (Str.ofString "_law_name") (Str.ofString "_law_name") (fdP (topS 19)) (FuncBody.stmts (fdB (topS 19))) (fdS (topS 19)) (nat_lit 0) [] Value.none Value.none Value.none Value.none Option.none Value.none Value.none (nat_lit 0))) (List.toArray []))
noncomputable def hd.o233 (P : Params) : Obj := (Obj.mk (Value.type "code") Option.none (Data.fields (List.toArray ((Value.str (Str.ofString "_law_name") (nat_lit 628)) :: (Value.str (Str.ofString "_law_name") (nat_lit 629)) :: (Value.str (Str.ofString "/claim/cut.py") (nat_lit 630)) :: (Value.int (116 : Int) (nat_lit 0)) :: (Value.int (1 : Int) (nat_lit 0)) :: (Value.int (0 : Int) (nat_lit 0)) :: (Value.int (0 : Int) (nat_lit 0)) :: (Value.int (3 : Int) (nat_lit 0)) :: (Value.ref (nat_lit 228)) :: (Value.bool Bool.true) :: (Value.int (276 : Int) (nat_lit 0)) :: (Value.ref (nat_lit 229)) :: Value.none :: (Value.ref (nat_lit 230)) :: (Value.ref (nat_lit 231)) :: (Value.ref (nat_lit 232)) :: (Value.int (632 : Int) (nat_lit 0)) :: (Value.int (116 : Int) (nat_lit 0)) :: (Value.str (Str.ofString "/claim/cut.py") (nat_lit 633)) :: []))) (List.toArray []))
noncomputable def hd.o234 (P : Params) : Obj := (Obj.mk (Value.type "function") Option.none (Data.func (FuncData.mk (Str.ofString "_law_name") (Str.ofString "_law_name") (fdP (topS 19)) (FuncBody.stmts (fdB (topS 19))) (fdS (topS 19)) (nat_lit 3) [] Value.none Value.none Value.none (Value.str (Str.ofString "law_wj0041_01") (nat_lit 617)) Option.none (Value.ref (nat_lit 233)) Value.none (nat_lit 0))) (List.toArray []))
noncomputable def hd.o235 (P : Params) : Obj := (Obj.mk (Value.type "tuple") Option.none (Data.seq (List.toArray []) (nat_lit 0)) (List.toArray []))
noncomputable def hd.o236 (P : Params) : Obj := (Obj.mk Value.none Option.none (Data.fields (List.toArray [])) (List.toArray []))
noncomputable def hd.o237 (P : Params) : Obj := (Obj.mk (Value.type "tuple") Option.none (Data.seq (List.toArray [(Value.str (Str.ofString "word") (nat_lit 638)), (Value.str (Str.ofString "pairs") (nat_lit 639)), (Value.str (Str.ofString "letter") (nat_lit 640)), (Value.str (Str.ofString "figure") (nat_lit 641))]) (nat_lit 0)) (List.toArray []))
noncomputable def hd.o238 (P : Params) : Obj := (Obj.mk (Value.type "tuple") Option.none (Data.seq (List.toArray []) (nat_lit 0)) (List.toArray []))
noncomputable def hd.o239 (P : Params) : Obj := (Obj.mk Value.none Option.none (Data.func (FuncData.mk (Str.ofString "_law_square") (Str.ofString "_law_square") (fdP (topS 20)) (FuncBody.stmts (fdB (topS 20))) (fdS (topS 20)) (nat_lit 0) [] Value.none Value.none Value.none Value.none Option.none Value.none Value.none (nat_lit 0))) (List.toArray []))
noncomputable def hd.o240 (P : Params) : Obj := (Obj.mk (Value.type "code") Option.none (Data.fields (List.toArray ((Value.str (Str.ofString "_law_square") (nat_lit 635)) :: (Value.str (Str.ofString "_law_square") (nat_lit 636)) :: (Value.str (Str.ofString "/claim/cut.py") (nat_lit 637)) :: (Value.int (118 : Int) (nat_lit 0)) :: (Value.int (1 : Int) (nat_lit 0)) :: (Value.int (0 : Int) (nat_lit 0)) :: (Value.int (0 : Int) (nat_lit 0)) :: (Value.int (3 : Int) (nat_lit 0)) :: (Value.ref (nat_lit 235)) :: (Value.bool Bool.true) :: (Value.int (276 : Int) (nat_lit 0)) :: (Value.ref (nat_lit 236)) :: Value.none :: (Value.ref (nat_lit 237)) :: (Value.ref (nat_lit 238)) :: (Value.ref (nat_lit 239)) :: (Value.int (642 : Int) (nat_lit 0)) :: (Value.int (118 : Int) (nat_lit 0)) :: (Value.str (Str.ofString "/claim/cut.py") (nat_lit 643)) :: []))) (List.toArray []))
noncomputable def hd.o241 (P : Params) : Obj := (Obj.mk (Value.type "function") Option.none (Data.func (FuncData.mk (Str.ofString "_law_square") (Str.ofString "_law_square") (fdP (topS 20)) (FuncBody.stmts (fdB (topS 20))) (fdS (topS 20)) (nat_lit 3) [] Value.none Value.none Value.none (Value.str (Str.ofString "law_wj0041_01") (nat_lit 617)) Option.none (Value.ref (nat_lit 240)) Value.none (nat_lit 0))) (List.toArray []))
noncomputable def hd.o242 (P : Params) : Obj := (Obj.mk (Value.type "tuple") Option.none (Data.seq (List.toArray []) (nat_lit 0)) (List.toArray []))
noncomputable def hd.o243 (P : Params) : Obj := (Obj.mk Value.none Option.none (Data.fields (List.toArray [])) (List.toArray []))
noncomputable def hd.o244 (P : Params) : Obj := (Obj.mk (Value.type "tuple") Option.none (Data.seq (List.toArray ((Value.str (Str.ofString "cells") (nat_lit 648)) :: (Value.str (Str.ofString "mail") (nat_lit 649)) :: (Value.str (Str.ofString "due") (nat_lit 650)) :: (Value.str (Str.ofString "cell") (nat_lit 651)) :: (Value.str (Str.ofString "lead") (nat_lit 652)) :: (Value.str (Str.ofString "row") (nat_lit 653)) :: [])) (nat_lit 0)) (List.toArray []))
noncomputable def hd.o245 (P : Params) : Obj := (Obj.mk (Value.type "tuple") Option.none (Data.seq (List.toArray []) (nat_lit 0)) (List.toArray []))
noncomputable def hd.o246 (P : Params) : Obj := (Obj.mk Value.none Option.none (Data.func (FuncData.mk (Str.ofString "_law_mail") (Str.ofString "_law_mail") (fdP (topS 21)) (FuncBody.stmts (fdB (topS 21))) (fdS (topS 21)) (nat_lit 0) [] Value.none Value.none Value.none Value.none Option.none Value.none Value.none (nat_lit 0))) (List.toArray []))
noncomputable def hd.o247 (P : Params) : Obj := (Obj.mk (Value.type "code") Option.none (Data.fields (List.toArray ((Value.str (Str.ofString "_law_mail") (nat_lit 645)) :: (Value.str (Str.ofString "_law_mail") (nat_lit 646)) :: (Value.str (Str.ofString "/claim/cut.py") (nat_lit 647)) :: (Value.int (124 : Int) (nat_lit 0)) :: (Value.int (1 : Int) (nat_lit 0)) :: (Value.int (0 : Int) (nat_lit 0)) :: (Value.int (0 : Int) (nat_lit 0)) :: (Value.int (3 : Int) (nat_lit 0)) :: (Value.ref (nat_lit 242)) :: (Value.bool Bool.true) :: (Value.int (276 : Int) (nat_lit 0)) :: (Value.ref (nat_lit 243)) :: Value.none :: (Value.ref (nat_lit 244)) :: (Value.ref (nat_lit 245)) :: (Value.ref (nat_lit 246)) :: (Value.int (654 : Int) (nat_lit 0)) :: (Value.int (124 : Int) (nat_lit 0)) :: (Value.str (Str.ofString "/claim/cut.py") (nat_lit 655)) :: []))) (List.toArray []))
noncomputable def hd.o248 (P : Params) : Obj := (Obj.mk (Value.type "function") Option.none (Data.func (FuncData.mk (Str.ofString "_law_mail") (Str.ofString "_law_mail") (fdP (topS 21)) (FuncBody.stmts (fdB (topS 21))) (fdS (topS 21)) (nat_lit 3) [] Value.none Value.none Value.none (Value.str (Str.ofString "law_wj0041_01") (nat_lit 617)) Option.none (Value.ref (nat_lit 247)) Value.none (nat_lit 0))) (List.toArray []))
noncomputable def hd.o249 (P : Params) : Obj := (Obj.mk (Value.type "tuple") Option.none (Data.seq (List.toArray []) (nat_lit 0)) (List.toArray []))
noncomputable def hd.o250 (P : Params) : Obj := (Obj.mk Value.none Option.none (Data.fields (List.toArray [])) (List.toArray []))
noncomputable def hd.o251 (P : Params) : Obj := (Obj.mk (Value.type "tuple") Option.none (Data.seq (List.toArray [(Value.str (Str.ofString "sent") (nat_lit 660)), (Value.str (Str.ofString "told") (nat_lit 661)), (Value.str (Str.ofString "row") (nat_lit 662)), (Value.str (Str.ofString "dots") (nat_lit 663))]) (nat_lit 0)) (List.toArray []))
noncomputable def hd.o252 (P : Params) : Obj := (Obj.mk (Value.type "tuple") Option.none (Data.seq (List.toArray []) (nat_lit 0)) (List.toArray []))
noncomputable def hd.o253 (P : Params) : Obj := (Obj.mk Value.none Option.none (Data.func (FuncData.mk (Str.ofString "_law_heard") (Str.ofString "_law_heard") (fdP (topS 22)) (FuncBody.stmts (fdB (topS 22))) (fdS (topS 22)) (nat_lit 0) [] Value.none Value.none Value.none Value.none Option.none Value.none Value.none (nat_lit 0))) (List.toArray []))
noncomputable def hd.o254 (P : Params) : Obj := (Obj.mk (Value.type "code") Option.none (Data.fields (List.toArray ((Value.str (Str.ofString "_law_heard") (nat_lit 657)) :: (Value.str (Str.ofString "_law_heard") (nat_lit 658)) :: (Value.str (Str.ofString "/claim/cut.py") (nat_lit 659)) :: (Value.int (132 : Int) (nat_lit 0)) :: (Value.int (1 : Int) (nat_lit 0)) :: (Value.int (0 : Int) (nat_lit 0)) :: (Value.int (0 : Int) (nat_lit 0)) :: (Value.int (3 : Int) (nat_lit 0)) :: (Value.ref (nat_lit 249)) :: (Value.bool Bool.true) :: (Value.int (276 : Int) (nat_lit 0)) :: (Value.ref (nat_lit 250)) :: Value.none :: (Value.ref (nat_lit 251)) :: (Value.ref (nat_lit 252)) :: (Value.ref (nat_lit 253)) :: (Value.int (664 : Int) (nat_lit 0)) :: (Value.int (132 : Int) (nat_lit 0)) :: (Value.str (Str.ofString "/claim/cut.py") (nat_lit 665)) :: []))) (List.toArray []))
noncomputable def hd.o255 (P : Params) : Obj := (Obj.mk (Value.type "function") Option.none (Data.func (FuncData.mk (Str.ofString "_law_heard") (Str.ofString "_law_heard") (fdP (topS 22)) (FuncBody.stmts (fdB (topS 22))) (fdS (topS 22)) (nat_lit 3) [] Value.none Value.none Value.none (Value.str (Str.ofString "law_wj0041_01") (nat_lit 617)) Option.none (Value.ref (nat_lit 254)) Value.none (nat_lit 0))) (List.toArray []))
noncomputable def hd.o256 (P : Params) : Obj := (Obj.mk (Value.type "tuple") Option.none (Data.seq (List.toArray []) (nat_lit 0)) (List.toArray []))
noncomputable def hd.o257 (P : Params) : Obj := (Obj.mk Value.none Option.none (Data.fields (List.toArray [])) (List.toArray []))
noncomputable def hd.o258 (P : Params) : Obj := (Obj.mk (Value.type "tuple") Option.none (Data.seq (List.toArray ((Value.str (Str.ofString "table") (nat_lit 670)) :: (Value.str (Str.ofString "told") (nat_lit 671)) :: (Value.str (Str.ofString "kept") (nat_lit 672)) :: (Value.str (Str.ofString "place") (nat_lit 673)) :: (Value.str (Str.ofString "x") (nat_lit 674)) :: (Value.str (Str.ofString "size") (nat_lit 675)) :: (Value.str (Str.ofString "name") (nat_lit 676)) :: (Value.str (Str.ofString "more") (nat_lit 677)) :: (Value.str (Str.ofString "spelled") (nat_lit 678)) :: [])) (nat_lit 0)) (List.toArray []))
noncomputable def hd.o259 (P : Params) : Obj := (Obj.mk (Value.type "tuple") Option.none (Data.seq (List.toArray []) (nat_lit 0)) (List.toArray []))
noncomputable def hd.o260 (P : Params) : Obj := (Obj.mk Value.none Option.none (Data.func (FuncData.mk (Str.ofString "_law_lay") (Str.ofString "_law_lay") (fdP (topS 23)) (FuncBody.stmts (fdB (topS 23))) (fdS (topS 23)) (nat_lit 0) [] Value.none Value.none Value.none Value.none Option.none Value.none Value.none (nat_lit 0))) (List.toArray []))
noncomputable def hd.o261 (P : Params) : Obj := (Obj.mk (Value.type "code") Option.none (Data.fields (List.toArray ((Value.str (Str.ofString "_law_lay") (nat_lit 667)) :: (Value.str (Str.ofString "_law_lay") (nat_lit 668)) :: (Value.str (Str.ofString "/claim/cut.py") (nat_lit 669)) :: (Value.int (138 : Int) (nat_lit 0)) :: (Value.int (2 : Int) (nat_lit 0)) :: (Value.int (0 : Int) (nat_lit 0)) :: (Value.int (0 : Int) (nat_lit 0)) :: (Value.int (3 : Int) (nat_lit 0)) :: (Value.ref (nat_lit 256)) :: (Value.bool Bool.true) :: (Value.int (276 : Int) (nat_lit 0)) :: (Value.ref (nat_lit 257)) :: Value.none :: (Value.ref (nat_lit 258)) :: (Value.ref (nat_lit 259)) :: (Value.ref (nat_lit 260)) :: (Value.int (679 : Int) (nat_lit 0)) :: (Value.int (138 : Int) (nat_lit 0)) :: (Value.str (Str.ofString "/claim/cut.py") (nat_lit 680)) :: []))) (List.toArray []))
noncomputable def hd.o262 (P : Params) : Obj := (Obj.mk (Value.type "function") Option.none (Data.func (FuncData.mk (Str.ofString "_law_lay") (Str.ofString "_law_lay") (fdP (topS 23)) (FuncBody.stmts (fdB (topS 23))) (fdS (topS 23)) (nat_lit 3) [] Value.none Value.none Value.none (Value.str (Str.ofString "law_wj0041_01") (nat_lit 617)) Option.none (Value.ref (nat_lit 261)) Value.none (nat_lit 0))) (List.toArray []))
noncomputable def hd.o263 (P : Params) : Obj := (Obj.mk (Value.type "tuple") Option.none (Data.seq (List.toArray []) (nat_lit 0)) (List.toArray []))
noncomputable def hd.o264 (P : Params) : Obj := (Obj.mk Value.none Option.none (Data.fields (List.toArray [])) (List.toArray []))
noncomputable def hd.o265 (P : Params) : Obj := (Obj.mk Value.none Option.none (Data.func (FuncData.mk (Str.ofString "_law_sums") (Str.ofString "_law_sums") (fdP (topS 24)) (FuncBody.stmts (fdB (topS 24))) (fdS (topS 24)) (nat_lit 0) [] Value.none Value.none Value.none Value.none Option.none Value.none Value.none (nat_lit 0))) (List.toArray []))
noncomputable def hd.o266 (P : Params) : Obj := (Obj.mk (Value.type "code") Option.none (Data.fields (List.toArray ((Value.str (Str.ofString "_law_sums") (nat_lit 682)) :: (Value.str (Str.ofString "_law_sums") (nat_lit 683)) :: (Value.str (Str.ofString "/claim/cut.py") (nat_lit 684)) :: (Value.int (150 : Int) (nat_lit 0)) :: (Value.int (1 : Int) (nat_lit 0)) :: (Value.int (0 : Int) (nat_lit 0)) :: (Value.int (0 : Int) (nat_lit 0)) :: (Value.int (3 : Int) (nat_lit 0)) :: (Value.ref (nat_lit 263)) :: (Value.bool Bool.true) :: (Value.int (276 : Int) (nat_lit 0)) :: (Value.ref (nat_lit 264)) :: Value.none :: Value.none :: Value.none :: (Value.ref (nat_lit 265)) :: (Value.int (685 : Int) (nat_lit 0)) :: (Value.int (150 : Int) (nat_lit 0)) :: (Value.str (Str.ofString "/claim/cut.py") (nat_lit 686)) :: []))) (List.toArray []))
noncomputable def hd.o267 (P : Params) : Obj := (Obj.mk (Value.type "function") Option.none (Data.func (FuncData.mk (Str.ofString "_law_sums") (Str.ofString "_law_sums") (fdP (topS 24)) (FuncBody.stmts (fdB (topS 24))) (fdS (topS 24)) (nat_lit 3) [] Value.none Value.none Value.none (Value.str (Str.ofString "law_wj0041_01") (nat_lit 617)) Option.none (Value.ref (nat_lit 266)) Value.none (nat_lit 0))) (List.toArray []))
noncomputable def hd.o268 (P : Params) : Obj := (Obj.mk (Value.type "tuple") Option.none (Data.seq (List.toArray []) (nat_lit 0)) (List.toArray []))
noncomputable def hd.o269 (P : Params) : Obj := (Obj.mk Value.none Option.none (Data.fields (List.toArray [])) (List.toArray []))
noncomputable def hd.o270 (P : Params) : Obj := (Obj.mk (Value.type "tuple") Option.none (Data.seq (List.toArray [(Value.str (Str.ofString "table") (nat_lit 691)), (Value.str (Str.ofString "x") (nat_lit 692)), (Value.str (Str.ofString "word") (nat_lit 693))]) (nat_lit 0)) (List.toArray []))
noncomputable def hd.o271 (P : Params) : Obj := (Obj.mk (Value.type "tuple") Option.none (Data.seq (List.toArray []) (nat_lit 0)) (List.toArray []))
noncomputable def hd.o272 (P : Params) : Obj := (Obj.mk Value.none Option.none (Data.func (FuncData.mk (Str.ofString "_law_powers") (Str.ofString "_law_powers") (fdP (topS 25)) (FuncBody.stmts (fdB (topS 25))) (fdS (topS 25)) (nat_lit 0) [] Value.none Value.none Value.none Value.none Option.none Value.none Value.none (nat_lit 0))) (List.toArray []))
noncomputable def hd.o273 (P : Params) : Obj := (Obj.mk (Value.type "code") Option.none (Data.fields (List.toArray ((Value.str (Str.ofString "_law_powers") (nat_lit 688)) :: (Value.str (Str.ofString "_law_powers") (nat_lit 689)) :: (Value.str (Str.ofString "/claim/cut.py") (nat_lit 690)) :: (Value.int (156 : Int) (nat_lit 0)) :: (Value.int (2 : Int) (nat_lit 0)) :: (Value.int (0 : Int) (nat_lit 0)) :: (Value.int (0 : Int) (nat_lit 0)) :: (Value.int (3 : Int) (nat_lit 0)) :: (Value.ref (nat_lit 268)) :: (Value.bool Bool.true) :: (Value.int (276 : Int) (nat_lit 0)) :: (Value.ref (nat_lit 269)) :: Value.none :: (Value.ref (nat_lit 270)) :: (Value.ref (nat_lit 271)) :: (Value.ref (nat_lit 272)) :: (Value.int (694 : Int) (nat_lit 0)) :: (Value.int (156 : Int) (nat_lit 0)) :: (Value.str (Str.ofString "/claim/cut.py") (nat_lit 695)) :: []))) (List.toArray []))
noncomputable def hd.o274 (P : Params) : Obj := (Obj.mk (Value.type "function") Option.none (Data.func (FuncData.mk (Str.ofString "_law_powers") (Str.ofString "_law_powers") (fdP (topS 25)) (FuncBody.stmts (fdB (topS 25))) (fdS (topS 25)) (nat_lit 3) [] Value.none Value.none Value.none (Value.str (Str.ofString "law_wj0041_01") (nat_lit 617)) Option.none (Value.ref (nat_lit 273)) Value.none (nat_lit 0))) (List.toArray []))
noncomputable def hd.o275 (P : Params) : Obj := (Obj.mk (Value.type "tuple") Option.none (Data.seq (List.toArray []) (nat_lit 0)) (List.toArray []))
noncomputable def hd.o276 (P : Params) : Obj := (Obj.mk Value.none Option.none (Data.fields (List.toArray [])) (List.toArray []))
noncomputable def hd.o277 (P : Params) : Obj := (Obj.mk (Value.type "tuple") Option.none (Data.seq (List.toArray [(Value.str (Str.ofString "a") (nat_lit 700)), (Value.str (Str.ofString "b") (nat_lit 701)), (Value.str (Str.ofString "total") (nat_lit 702))]) (nat_lit 0)) (List.toArray []))
noncomputable def hd.o278 (P : Params) : Obj := (Obj.mk (Value.type "tuple") Option.none (Data.seq (List.toArray []) (nat_lit 0)) (List.toArray []))
noncomputable def hd.o279 (P : Params) : Obj := (Obj.mk Value.none Option.none (Data.func (FuncData.mk (Str.ofString "_law_product") (Str.ofString "_law_product") (fdP (topS 26)) (FuncBody.stmts (fdB (topS 26))) (fdS (topS 26)) (nat_lit 0) [] Value.none Value.none Value.none Value.none Option.none Value.none Value.none (nat_lit 0))) (List.toArray []))
noncomputable def hd.o280 (P : Params) : Obj := (Obj.mk (Value.type "code") Option.none (Data.fields (List.toArray ((Value.str (Str.ofString "_law_product") (nat_lit 697)) :: (Value.str (Str.ofString "_law_product") (nat_lit 698)) :: (Value.str (Str.ofString "/claim/cut.py") (nat_lit 699)) :: (Value.int (159 : Int) (nat_lit 0)) :: (Value.int (2 : Int) (nat_lit 0)) :: (Value.int (0 : Int) (nat_lit 0)) :: (Value.int (0 : Int) (nat_lit 0)) :: (Value.int (3 : Int) (nat_lit 0)) :: (Value.ref (nat_lit 275)) :: (Value.bool Bool.true) :: (Value.int (276 : Int) (nat_lit 0)) :: (Value.ref (nat_lit 276)) :: Value.none :: (Value.ref (nat_lit 277)) :: (Value.ref (nat_lit 278)) :: (Value.ref (nat_lit 279)) :: (Value.int (703 : Int) (nat_lit 0)) :: (Value.int (159 : Int) (nat_lit 0)) :: (Value.str (Str.ofString "/claim/cut.py") (nat_lit 704)) :: []))) (List.toArray []))
noncomputable def hd.o281 (P : Params) : Obj := (Obj.mk (Value.type "function") Option.none (Data.func (FuncData.mk (Str.ofString "_law_product") (Str.ofString "_law_product") (fdP (topS 26)) (FuncBody.stmts (fdB (topS 26))) (fdS (topS 26)) (nat_lit 3) [] Value.none Value.none Value.none (Value.str (Str.ofString "law_wj0041_01") (nat_lit 617)) Option.none (Value.ref (nat_lit 280)) Value.none (nat_lit 0))) (List.toArray []))
noncomputable def hd.o282 (P : Params) : Obj := (Obj.mk (Value.type "tuple") Option.none (Data.seq (List.toArray []) (nat_lit 0)) (List.toArray []))
noncomputable def hd.o283 (P : Params) : Obj := (Obj.mk Value.none Option.none (Data.fields (List.toArray [])) (List.toArray []))
noncomputable def hd.o284 (P : Params) : Obj := (Obj.mk Value.none Option.none (Data.func (FuncData.mk (Str.ofString "_law_determinant") (Str.ofString "_law_determinant") (fdP (topS 27)) (FuncBody.stmts (fdB (topS 27))) (fdS (topS 27)) (nat_lit 0) [] Value.none Value.none Value.none Value.none Option.none Value.none Value.none (nat_lit 0))) (List.toArray []))
noncomputable def hd.o285 (P : Params) : Obj := (Obj.mk (Value.type "code") Option.none (Data.fields (List.toArray ((Value.str (Str.ofString "_law_determinant") (nat_lit 706)) :: (Value.str (Str.ofString "_law_determinant") (nat_lit 707)) :: (Value.str (Str.ofString "/claim/cut.py") (nat_lit 708)) :: (Value.int (166 : Int) (nat_lit 0)) :: (Value.int (1 : Int) (nat_lit 0)) :: (Value.int (0 : Int) (nat_lit 0)) :: (Value.int (0 : Int) (nat_lit 0)) :: (Value.int (3 : Int) (nat_lit 0)) :: (Value.ref (nat_lit 282)) :: (Value.bool Bool.true) :: (Value.int (276 : Int) (nat_lit 0)) :: (Value.ref (nat_lit 283)) :: Value.none :: Value.none :: Value.none :: (Value.ref (nat_lit 284)) :: (Value.int (709 : Int) (nat_lit 0)) :: (Value.int (166 : Int) (nat_lit 0)) :: (Value.str (Str.ofString "/claim/cut.py") (nat_lit 710)) :: []))) (List.toArray []))
noncomputable def hd.o286 (P : Params) : Obj := (Obj.mk (Value.type "function") Option.none (Data.func (FuncData.mk (Str.ofString "_law_determinant") (Str.ofString "_law_determinant") (fdP (topS 27)) (FuncBody.stmts (fdB (topS 27))) (fdS (topS 27)) (nat_lit 3) [] Value.none Value.none Value.none (Value.str (Str.ofString "law_wj0041_01") (nat_lit 617)) Option.none (Value.ref (nat_lit 285)) Value.none (nat_lit 0))) (List.toArray []))
noncomputable def hd.o287 (P : Params) : Obj := (Obj.mk (Value.type "tuple") Option.none (Data.seq (List.toArray []) (nat_lit 0)) (List.toArray []))
noncomputable def hd.o288 (P : Params) : Obj := (Obj.mk Value.none Option.none (Data.fields (List.toArray [])) (List.toArray []))
noncomputable def hd.o289 (P : Params) : Obj := (Obj.mk (Value.type "tuple") Option.none (Data.seq (List.toArray [(Value.str (Str.ofString "sums") (nat_lit 715)), (Value.str (Str.ofString "x") (nat_lit 716)), (Value.str (Str.ofString "total") (nat_lit 717)), (Value.str (Str.ofString "v") (nat_lit 718))]) (nat_lit 0)) (List.toArray []))
noncomputable def hd.o290 (P : Params) : Obj := (Obj.mk (Value.type "tuple") Option.none (Data.seq (List.toArray []) (nat_lit 0)) (List.toArray []))
noncomputable def hd.o291 (P : Params) : Obj := (Obj.mk Value.none Option.none (Data.func (FuncData.mk (Str.ofString "_law_all") (Str.ofString "_law_all") (fdP (topS 28)) (FuncBody.stmts (fdB (topS 28))) (fdS (topS 28)) (nat_lit 0) [] Value.none Value.none Value.none Value.none Option.none Value.none Value.none (nat_lit 0))) (List.toArray []))
noncomputable def hd.o292 (P : Params) : Obj := (Obj.mk (Value.type "code") Option.none (Data.fields (List.toArray ((Value.str (Str.ofString "_law_all") (nat_lit 712)) :: (Value.str (Str.ofString "_law_all") (nat_lit 713)) :: (Value.str (Str.ofString "/claim/cut.py") (nat_lit 714)) :: (Value.int (174 : Int) (nat_lit 0)) :: (Value.int (2 : Int) (nat_lit 0)) :: (Value.int (0 : Int) (nat_lit 0)) :: (Value.int (0 : Int) (nat_lit 0)) :: (Value.int (3 : Int) (nat_lit 0)) :: (Value.ref (nat_lit 287)) :: (Value.bool Bool.true) :: (Value.int (276 : Int) (nat_lit 0)) :: (Value.ref (nat_lit 288)) :: Value.none :: (Value.ref (nat_lit 289)) :: (Value.ref (nat_lit 290)) :: (Value.ref (nat_lit 291)) :: (Value.int (719 : Int) (nat_lit 0)) :: (Value.int (174 : Int) (nat_lit 0)) :: (Value.str (Str.ofString "/claim/cut.py") (nat_lit 720)) :: []))) (List.toArray []))
noncomputable def hd.o293 (P : Params) : Obj := (Obj.mk (Value.type "function") Option.none (Data.func (FuncData.mk (Str.ofString "_law_all") (Str.ofString "_law_all") (fdP (topS 28)) (FuncBody.stmts (fdB (topS 28))) (fdS (topS 28)) (nat_lit 3) [] Value.none Value.none Value.none (Value.str (Str.ofString "law_wj0041_01") (nat_lit 617)) Option.none (Value.ref (nat_lit 292)) Value.none (nat_lit 0))) (List.toArray []))
noncomputable def hd.o294 (P : Params) : Obj := (Obj.mk (Value.type "tuple") Option.none (Data.seq (List.toArray []) (nat_lit 0)) (List.toArray []))
noncomputable def hd.o295 (P : Params) : Obj := (Obj.mk Value.none Option.none (Data.fields (List.toArray [])) (List.toArray []))
noncomputable def hd.o296 (P : Params) : Obj := (Obj.mk Value.none Option.none (Data.func (FuncData.mk (Str.ofString "law") (Str.ofString "law") (fdP (topS 29)) (FuncBody.stmts (fdB (topS 29))) (fdS (topS 29)) (nat_lit 0) [] Value.none Value.none Value.none Value.none Option.none Value.none Value.none (nat_lit 0))) (List.toArray []))
noncomputable def hd.o297 (P : Params) : Obj := (Obj.mk (Value.type "code") Option.none (Data.fields (List.toArray ((Value.str (Str.ofString "law") (nat_lit 722)) :: (Value.str (Str.ofString "law") (nat_lit 723)) :: (Value.str (Str.ofString "/claim/cut.py") (nat_lit 724)) :: (Value.int (179 : Int) (nat_lit 0)) :: (Value.int (1 : Int) (nat_lit 0)) :: (Value.int (0 : Int) (nat_lit 0)) :: (Value.int (0 : Int) (nat_lit 0)) :: (Value.int (3 : Int) (nat_lit 0)) :: (Value.ref (nat_lit 294)) :: (Value.bool Bool.true) :: (Value.int (276 : Int) (nat_lit 0)) :: (Value.ref (nat_lit 295)) :: Value.none :: Value.none :: Value.none :: (Value.ref (nat_lit 296)) :: (Value.int (725 : Int) (nat_lit 0)) :: (Value.int (179 : Int) (nat_lit 0)) :: (Value.str (Str.ofString "/claim/cut.py") (nat_lit 726)) :: []))) (List.toArray []))
noncomputable def hd.o298 (P : Params) : Obj := (Obj.mk (Value.type "function") Option.none (Data.func (FuncData.mk (Str.ofString "law") (Str.ofString "law") (fdP (topS 29)) (FuncBody.stmts (fdB (topS 29))) (fdS (topS 29)) (nat_lit 3) [] Value.none Value.none Value.none (Value.str (Str.ofString "law_wj0041_01") (nat_lit 617)) Option.none (Value.ref (nat_lit 297)) Value.none (nat_lit 0))) (List.toArray []))
noncomputable def hd.life : Life := (Life.mk [] [] [] (nat_lit 0) [] [] Bool.false (List.toArray []) [] (nat_lit 0) Bool.false Bool.false Bool.false (0 : Int) [(2000 : Int), (10 : Int), (10 : Int)] Bool.false (nat_lit 0) Bool.true [] [] (nat_lit 0) Bool.false)
noncomputable def hd.drawn : Drawn := (Drawn.mk (nat_lit 0) (nat_lit 0) (nat_lit 0) (nat_lit 0))
noncomputable def hd.o3h (P : Params) : Obj := (Obj.mk (Value.type "dict") Option.none (Data.dict (List.toArray ((DictEntry.mk (PyData.keyHash P (Str.ofString "__name__")) (Value.str (Str.ofString "__name__") (nat_lit 165)) (Value.str (Str.ofString "__main__") (nat_lit 164))) :: (DictEntry.mk (PyData.keyHash P (Str.ofString "__doc__")) (Value.str (Str.ofString "__doc__") (nat_lit 166)) Value.none) :: (DictEntry.mk (PyData.keyHash P (Str.ofString "__package__")) (Value.str (Str.ofString "__package__") (nat_lit 167)) Value.none) :: (DictEntry.mk (PyData.keyHash P (Str.ofString "__loader__")) (Value.str (Str.ofString "__loader__") (nat_lit 168)) (Value.builtin "__main__.__loader__#opaque")) :: (DictEntry.mk (PyData.keyHash P (Str.ofString "__spec__")) (Value.str (Str.ofString "__spec__") (nat_lit 169)) Value.none) :: (DictEntry.mk (PyData.keyHash P (Str.ofString "__annotations__")) (Value.str (Str.ofString "__annotations__") (nat_lit 170)) (Value.ref (nat_lit 6))) :: (DictEntry.mk (PyData.keyHash P (Str.ofString "__builtins__")) (Value.str (Str.ofString "__builtins__") (nat_lit 171)) (Value.ref (nat_lit 4))) :: (DictEntry.mk (PyData.keyHash P (Str.ofString "__file__")) (Value.str (Str.ofString "__file__") (nat_lit 173)) (Value.str (Str.ofString "/claim/cut.py") (nat_lit 172))) :: (DictEntry.mk (PyData.keyHash P (Str.ofString "__cached__")) (Value.str (Str.ofString "__cached__") (nat_lit 174)) Value.none) :: (DictEntry.mk (PyData.keyHash P (Str.ofString "_sre")) (Value.str (Str.ofString "_sre") (nat_lit 275)) (Value.ref (nat_lit 12))) :: [])) (nat_lit 10)) (List.toArray []))
noncomputable def hd.h0 (P : Params) : Heap := ⟨Array.mk ((hd.o0 P) :: (hd.o1 P) :: (hd.o2 P) :: (hd.o3h P) :: (hd.o4 P) :: (hd.o5 P) :: (hd.o6 P) :: (hd.o7 P) :: (hd.o8 P) :: (hd.o9 P) :: (hd.o10 P) :: (hd.o11 P) :: (hd.o12 P) :: (hd.o13 P) :: (hd.o14 P) :: (hd.o15 P) :: (hd.o16 P) :: (hd.o17 P) :: (hd.o18 P) :: (hd.o19 P) :: (hd.o20 P) :: (hd.o21 P) :: (hd.o22 P) :: (hd.o23 P) :: (hd.o24 P) :: (hd.o25 P) :: (hd.o26 P) :: (hd.o27 P) :: []), hd.life⟩
noncomputable def hd.o3a (P : Params) : Obj := (Obj.mk (Value.type "dict") Option.none (Data.dict (List.toArray ((DictEntry.mk (PyData.keyHash P (Str.ofString "__name__")) (Value.str (Str.ofString "__name__") (nat_lit 165)) (Value.str (Str.ofString "__main__") (nat_lit 164))) :: (DictEntry.mk (PyData.keyHash P (Str.ofString "__doc__")) (Value.str (Str.ofString "__doc__") (nat_lit 166)) Value.none) :: (DictEntry.mk (PyData.keyHash P (Str.ofString "__package__")) (Value.str (Str.ofString "__package__") (nat_lit 167)) Value.none) :: (DictEntry.mk (PyData.keyHash P (Str.ofString "__loader__")) (Value.str (Str.ofString "__loader__") (nat_lit 168)) (Value.builtin "__main__.__loader__#opaque")) :: (DictEntry.mk (PyData.keyHash P (Str.ofString "__spec__")) (Value.str (Str.ofString "__spec__") (nat_lit 169)) Value.none) :: (DictEntry.mk (PyData.keyHash P (Str.ofString "__annotations__")) (Value.str (Str.ofString "__annotations__") (nat_lit 170)) (Value.ref (nat_lit 6))) :: (DictEntry.mk (PyData.keyHash P (Str.ofString "__builtins__")) (Value.str (Str.ofString "__builtins__") (nat_lit 171)) (Value.ref (nat_lit 4))) :: (DictEntry.mk (PyData.keyHash P (Str.ofString "__file__")) (Value.str (Str.ofString "__file__") (nat_lit 173)) (Value.str (Str.ofString "/claim/cut.py") (nat_lit 172))) :: (DictEntry.mk (PyData.keyHash P (Str.ofString "__cached__")) (Value.str (Str.ofString "__cached__") (nat_lit 174)) Value.none) :: (DictEntry.mk (PyData.keyHash P (Str.ofString "_sre")) (Value.str (Str.ofString "_sre") (nat_lit 275)) (Value.ref (nat_lit 12))) :: [])) (nat_lit 10)) (List.toArray []))
noncomputable def hd.o29a (P : Params) : Obj := (Obj.mk Value.none Option.none (Data.fields (List.toArray [])) (List.toArray []))
noncomputable def hd.ha (P : Params) : Heap := ⟨Array.mk ((hd.o0 P) :: (hd.o1 P) :: (hd.o2 P) :: (hd.o3a P) :: (hd.o4 P) :: (hd.o5 P) :: (hd.o6 P) :: (hd.o7 P) :: (hd.o8 P) :: (hd.o9 P) :: (hd.o10 P) :: (hd.o11 P) :: (hd.o12 P) :: (hd.o13 P) :: (hd.o14 P) :: (hd.o15 P) :: (hd.o16 P) :: (hd.o17 P) :: (hd.o18 P) :: (hd.o19 P) :: (hd.o20 P) :: (hd.o21 P) :: (hd.o22 P) :: (hd.o23 P) :: (hd.o24 P) :: (hd.o25 P) :: (hd.o26 P) :: (hd.o27 P) :: (hd.o28 P) :: (hd.o29a P) :: (hd.o30 P) :: (hd.o31 P) :: []), hd.life⟩
noncomputable def hd.t0 (P : Params) : BT := (BT.node (hd.o0 P) (BT.node (hd.o1 P) (BT.node (hd.o3a P) (BT.node (hd.o7 P) (BT.node (hd.o15 P) (BT.node (hd.o31 P) BT.nil BT.nil) BT.nil) (BT.node (hd.o23 P) BT.nil BT.nil)) (BT.node (hd.o11 P) (BT.node (hd.o19 P) BT.nil BT.nil) (BT.node (hd.o27 P) BT.nil BT.nil))) (BT.node (hd.o5 P) (BT.node (hd.o9 P) (BT.node (hd.o17 P) BT.nil BT.nil) (BT.node (hd.o25 P) BT.nil BT.nil)) (BT.node (hd.o13 P) (BT.node (hd.o21 P) BT.nil BT.nil) (BT.node (hd.o29a P) BT.nil BT.nil)))) (BT.node (hd.o2 P) (BT.node (hd.o4 P) (BT.node (hd.o8 P) (BT.node (hd.o16 P) BT.nil BT.nil) (BT.node (hd.o24 P) BT.nil BT.nil)) (BT.node (hd.o12 P) (BT.node (hd.o20 P) BT.nil BT.nil) (BT.node (hd.o28 P) BT.nil BT.nil))) (BT.node (hd.o6 P) (BT.node (hd.o10 P) (BT.node (hd.o18 P) BT.nil BT.nil) (BT.node (hd.o26 P) BT.nil BT.nil)) (BT.node (hd.o14 P) (BT.node (hd.o22 P) BT.nil BT.nil) (BT.node (hd.o30 P) BT.nil BT.nil)))))
noncomputable def hd.o3t1 (P : Params) : Obj := (Obj.mk (Value.type "dict") Option.none (Data.dict (List.toArray ((DictEntry.mk (PyData.keyHash P (Str.ofString "__name__")) (Value.str (Str.ofString "__name__") (nat_lit 165)) (Value.str (Str.ofString "cpy313.wsgiref.headers") (nat_lit 398))) :: (DictEntry.mk (PyData.keyHash P (Str.ofString "__doc__")) (Value.str (Str.ofString "__doc__") (nat_lit 166)) Value.none) :: (DictEntry.mk (PyData.keyHash P (Str.ofString "__package__")) (Value.str (Str.ofString "__package__") (nat_lit 167)) Value.none) :: (DictEntry.mk (PyData.keyHash P (Str.ofString "__loader__")) (Value.str (Str.ofString "__loader__") (nat_lit 168)) (Value.builtin "__main__.__loader__#opaque")) :: (DictEntry.mk (PyData.keyHash P (Str.ofString "__spec__")) (Value.str (Str.ofString "__spec__") (nat_lit 169)) Value.none) :: (DictEntry.mk (PyData.keyHash P (Str.ofString "__annotations__")) (Value.str (Str.ofString "__annotations__") (nat_lit 170)) (Value.ref (nat_lit 6))) :: (DictEntry.mk (PyData.keyHash P (Str.ofString "__builtins__")) (Value.str (Str.ofString "__builtins__") (nat_lit 171)) (Value.ref (nat_lit 4))) :: (DictEntry.mk (PyData.keyHash P (Str.ofString "__file__")) (Value.str (Str.ofString "__file__") (nat_lit 173)) (Value.str (Str.ofString "/claim/cut.py") (nat_lit 172))) :: (DictEntry.mk (PyData.keyHash P (Str.ofString "__cached__")) (Value.str (Str.ofString "__cached__") (nat_lit 174)) Value.none) :: (DictEntry.mk (PyData.keyHash P (Str.ofString "_sre")) (Value.str (Str.ofString "_sre") (nat_lit 275)) (Value.ref (nat_lit 12))) :: (DictEntry.mk (PyData.keyHash P (Str.ofString "_wall")) (Value.str (Str.ofString "_wall") (nat_lit 288)) (Value.ref (nat_lit 38))) :: (DictEntry.mk (PyData.keyHash P (Str.ofString "Int2AP")) (Value.str (Str.ofString "Int2AP") (nat_lit 300)) (Value.ref (nat_lit 45))) :: (DictEntry.mk (PyData.keyHash P (Str.ofString "xor")) (Value.str (Str.ofString "xor") (nat_lit 310)) (Value.ref (nat_lit 52))) :: (DictEntry.mk (PyData.keyHash P (Str.ofString "countOf")) (Value.str (Str.ofString "countOf") (nat_lit 320)) (Value.ref (nat_lit 59))) :: (DictEntry.mk (PyData.keyHash P (Str.ofString "ilshift")) (Value.str (Str.ofString "ilshift") (nat_lit 328)) (Value.ref (nat_lit 66))) :: (DictEntry.mk (PyData.keyHash P (Str.ofString "_twin_re_1")) (Value.str (Str.ofString "_twin_re_1") (nat_lit 346)) (Value.ref (nat_lit 71))) :: (DictEntry.mk (PyData.keyHash P (Str.ofString "_twin_re_2")) (Value.str (Str.ofString "_twin_re_2") (nat_lit 388)) (Value.ref (nat_lit 76))) :: (DictEntry.mk (PyData.keyHash P (Str.ofString "CRLF")) (Value.str (Str.ofString "CRLF") (nat_lit 390)) (Value.str (Str.ofString "\x0d\n") (nat_lit 389))) :: (DictEntry.mk (PyData.keyHash P (Str.ofString "quotedata")) (Value.str (Str.ofString "quotedata") (nat_lit 397)) (Value.ref (nat_lit 83))) :: (DictEntry.mk (PyData.keyHash P (Str.ofString "_name_disallowed_re")) (Value.str (Str.ofString "_name_disallowed_re") (nat_lit 425)) (Value.ref (nat_lit 88))) :: (DictEntry.mk (PyData.keyHash P (Str.ofString "_value_disallowed_re")) (Value.str (Str.ofString "_value_disallowed_re") (nat_lit 459)) (Value.ref (nat_lit 93))) :: [])) (nat_lit 21)) (List.toArray []))
noncomputable def hd.o29t1 (P : Params) : Obj := (Obj.mk Value.none Option.none (Data.fields (List.toArray ((Value.int (2 : Int) (nat_lit 0)) :: (Value.int (0 : Int) (nat_lit 0)) :: (Value.ref (nat_lit 37)) :: (Value.int (6 : Int) (nat_lit 0)) :: (Value.int (0 : Int) (nat_lit 0)) :: (Value.ref (nat_lit 44)) :: (Value.int (15 : Int) (nat_lit 0)) :: (Value.int (0 : Int) (nat_lit 0)) :: (Value.ref (nat_lit 51)) :: (Value.int (17 : Int) (nat_lit 0)) :: (Value.int (0 : Int) (nat_lit 0)) :: (Value.ref (nat_lit 58)) :: (Value.int (23 : Int) (nat_lit 0)) :: (Value.int (0 : Int) (nat_lit 0)) :: (Value.ref (nat_lit 65)) :: (Value.int (30 : Int) (nat_lit 0)) :: (Value.int (0 : Int) (nat_lit 0)) :: (Value.ref (nat_lit 82)) :: []))) (List.toArray []))
noncomputable def hd.t1 (P : Params) : BT := (BT.node (hd.o0 P) (BT.node (hd.o1 P) (BT.node (hd.o3t1 P) (BT.node (hd.o7 P) (BT.node (hd.o15 P) (BT.node (hd.o31 P) (BT.node (hd.o63 P) BT.nil BT.nil) BT.nil) (BT.node (hd.o47 P) (BT.node (hd.o79 P) BT.nil BT.nil) BT.nil)) (BT.node (hd.o23 P) (BT.node (hd.o39 P) (BT.node (hd.o71 P) BT.nil BT.nil) BT.nil) (BT.node (hd.o55 P) (BT.node (hd.o87 P) BT.nil BT.nil) BT.nil))) (BT.node (hd.o11 P) (BT.node (hd.o19 P) (BT.node (hd.o35 P) (BT.node (hd.o67 P) BT.nil BT.nil) BT.nil) (BT.node (hd.o51 P) (BT.node (hd.o83 P) BT.nil BT.nil) BT.nil)) (BT.node (hd.o27 P) (BT.node (hd.o43 P) (BT.node (hd.o75 P) BT.nil BT.nil) BT.nil) (BT.node (hd.o59 P) (BT.node (hd.o91 P) BT.nil BT.nil) BT.nil)))) (BT.node (hd.o5 P) (BT.node (hd.o9 P) (BT.node (hd.o17 P) (BT.node (hd.o33 P) (BT.node (hd.o65 P) BT.nil BT.nil) BT.nil) (BT.node (hd.o49 P) (BT.node (hd.o81 P) BT.nil BT.nil) BT.nil)) (BT.node (hd.o25 P) (BT.node (hd.o41 P) (BT.node (hd.o73 P) BT.nil BT.nil) BT.nil) (BT.node (hd.o57 P) (BT.node (hd.o89 P) BT.nil BT.nil) BT.nil))) (BT.node (hd.o13 P) (BT.node (hd.o21 P) (BT.node (hd.o37 P) (BT.node (hd.o69 P) BT.nil BT.nil) BT.nil) (BT.node (hd.o53 P) (BT.node (hd.o85 P) BT.nil BT.nil) BT.nil)) (BT.node (hd.o29t1 P) (BT.node (hd.o45 P) (BT.node (hd.o77 P) BT.nil BT.nil) BT.nil) (BT.node (hd.o61 P) (BT.node (hd.o93 P) BT.nil BT.nil) BT.nil))))) (BT.node (hd.o2 P) (BT.node (hd.o4 P) (BT.node (hd.o8 P) (BT.node (hd.o16 P) (BT.node (hd.o32 P) (BT.node (hd.o64 P) BT.nil BT.nil) BT.nil) (BT.node (hd.o48 P) (BT.node (hd.o80 P) BT.nil BT.nil) BT.nil)) (BT.node (hd.o24 P) (BT.node (hd.o40 P) (BT.node (hd.o72 P) BT.nil BT.nil) BT.nil) (BT.node (hd.o56 P) (BT.node (hd.o88 P) BT.nil BT.nil) BT.nil))) (BT.node (hd.o12 P) (BT.node (hd.o20 P) (BT.node (hd.o36 P) (BT.node (hd.o68 P) BT.nil BT.nil) BT.nil) (BT.node (hd.o52 P) (BT.node (hd.o84 P) BT.nil BT.nil) BT.nil)) (BT.node (hd.o28 P) (BT.node (hd.o44 P) (BT.node (hd.o76 P) BT.nil BT.nil) BT.nil) (BT.node (hd.o60 P) (BT.node (hd.o92 P) BT.nil BT.nil) BT.nil)))) (BT.node (hd.o6 P) (BT.node (hd.o10 P) (BT.node (hd.o18 P) (BT.node (hd.o34 P) (BT.node (hd.o66 P) BT.nil BT.nil) BT.nil) (BT.node (hd.o50 P) (BT.node (hd.o82 P) BT.nil BT.nil) BT.nil)) (BT.node (hd.o26 P) (BT.node (hd.o42 P) (BT.node (hd.o74 P) BT.nil BT.nil) BT.nil) (BT.node (hd.o58 P) (BT.node (hd.o90 P) BT.nil BT.nil) BT.nil))) (BT.node (hd.o14 P) (BT.node (hd.o22 P) (BT.node (hd.o38 P) (BT.node (hd.o70 P) BT.nil BT.nil) BT.nil) (BT.node (hd.o54 P) (BT.node (hd.o86 P) BT.nil BT.nil) BT.nil)) (BT.node (hd.o30 P) (BT.node (hd.o46 P) (BT.node (hd.o78 P) BT.nil BT.nil) BT.nil) (BT.node (hd.o62 P) BT.nil BT.nil))))))
noncomputable def hd.o3t2 (P : Params) : Obj := (Obj.mk (Value.type "dict") Option.none (Data.dict (List.toArray ((DictEntry.mk (PyData.keyHash P (Str.ofString "__name__")) (Value.str (Str.ofString "__name__") (nat_lit 165)) (Value.str (Str.ofString "cpy313.wsgiref.headers") (nat_lit 398))) :: (DictEntry.mk (PyData.keyHash P (Str.ofString "__doc__")) (Value.str (Str.ofString "__doc__") (nat_lit 166)) Value.none) :: (DictEntry.mk (PyData.keyHash P (Str.ofString "__package__")) (Value.str (Str.ofString "__package__") (nat_lit 167)) Value.none) :: (DictEntry.mk (PyData.keyHash P (Str.ofString "__loader__")) (Value.str (Str.ofString "__loader__") (nat_lit 168)) (Value.builtin "__main__.__loader__#opaque")) :: (DictEntry.mk (PyData.keyHash P (Str.ofString "__spec__")) (Value.str (Str.ofString "__spec__") (nat_lit 169)) Value.none) :: (DictEntry.mk (PyData.keyHash P (Str.ofString "__annotations__")) (Value.str (Str.ofString "__annotations__") (nat_lit 170)) (Value.ref (nat_lit 6))) :: (DictEntry.mk (PyData.keyHash P (Str.ofString "__builtins__")) (Value.str (Str.ofString "__builtins__") (nat_lit 171)) (Value.ref (nat_lit 4))) :: (DictEntry.mk (PyData.keyHash P (Str.ofString "__file__")) (Value.str (Str.ofString "__file__") (nat_lit 173)) (Value.str (Str.ofString "/claim/cut.py") (nat_lit 172))) :: (DictEntry.mk (PyData.keyHash P (Str.ofString "__cached__")) (Value.str (Str.ofString "__cached__") (nat_lit 174)) Value.none) :: (DictEntry.mk (PyData.keyHash P (Str.ofString "_sre")) (Value.str (Str.ofString "_sre") (nat_lit 275)) (Value.ref (nat_lit 12))) :: (DictEntry.mk (PyData.keyHash P (Str.ofString "_wall")) (Value.str (Str.ofString "_wall") (nat_lit 288)) (Value.ref (nat_lit 38))) :: (DictEntry.mk (PyData.keyHash P (Str.ofString "Int2AP")) (Value.str (Str.ofString "Int2AP") (nat_lit 300)) (Value.ref (nat_lit 45))) :: (DictEntry.mk (PyData.keyHash P (Str.ofString "xor")) (Value.str (Str.ofString "xor") (nat_lit 310)) (Value.ref (nat_lit 52))) :: (DictEntry.mk (PyData.keyHash P (Str.ofString "countOf")) (Value.str (Str.ofString "countOf") (nat_lit 320)) (Value.ref (nat_lit 59))) :: (DictEntry.mk (PyData.keyHash P (Str.ofString "ilshift")) (Value.str (Str.ofString "ilshift") (nat_lit 328)) (Value.ref (nat_lit 66))) :: (DictEntry.mk (PyData.keyHash P (Str.ofString "_twin_re_1")) (Value.str (Str.ofString "_twin_re_1") (nat_lit 346)) (Value.ref (nat_lit 71))) :: (DictEntry.mk (PyData.keyHash P (Str.ofString "_twin_re_2")) (Value.str (Str.ofString "_twin_re_2") (nat_lit 388)) (Value.ref (nat_lit 76))) :: (DictEntry.mk (PyData.keyHash P (Str.ofString "CRLF")) (Value.str (Str.ofString "CRLF") (nat_lit 390)) (Value.str (Str.ofString "\x0d\n") (nat_lit 389))) :: (DictEntry.mk (PyData.keyHash P (Str.ofString "quotedata")) (Value.str (Str.ofString "quotedata") (nat_lit 397)) (Value.ref (nat_lit 83))) :: (DictEntry.mk (PyData.keyHash P (Str.ofString "_name_disallowed_re")) (Value.str (Str.ofString "_name_disallowed_re") (nat_lit 425)) (Value.ref (nat_lit 88))) :: (DictEntry.mk (PyData.keyHash P (Str.ofString "_value_disallowed_re")) (Value.str (Str.ofString "_value_disallowed_re") (nat_lit 459)) (Value.ref (nat_lit 93))) :: (DictEntry.mk (PyData.keyHash P (Str.ofString "Headers")) (Value.str (Str.ofString "Headers") (nat_lit 616)) (Value.ref (nat_lit 216))) :: [])) (nat_lit 22)) (List.toArray []))
noncomputable def hd.o29t2 (P : Params) : Obj := (Obj.mk Value.none Option.none (Data.fields (List.toArray ((Value.int (2 : Int) (nat_lit 0)) :: (Value.int (0 : Int) (nat_lit 0)) :: (Value.ref (nat_lit 37)) :: (Value.int (6 : Int) (nat_lit 0)) :: (Value.int (0 : Int) (nat_lit 0)) :: (Value.ref (nat_lit 44)) :: (Value.int (15 : Int) (nat_lit 0)) :: (Value.int (0 : Int) (nat_lit 0)) :: (Value.ref (nat_lit 51)) :: (Value.int (17 : Int) (nat_lit 0)) :: (Value.int (0 : Int) (nat_lit 0)) :: (Value.ref (nat_lit 58)) :: (Value.int (23 : Int) (nat_lit 0)) :: (Value.int (0 : Int) (nat_lit 0)) :: (Value.ref (nat_lit 65)) :: (Value.int (30 : Int) (nat_lit 0)) :: (Value.int (0 : Int) (nat_lit 0)) :: (Value.ref (nat_lit 82)) :: (Value.int (35 : Int) (nat_lit 0)) :: (Value.int (0 : Int) (nat_lit 0)) :: (Value.ref (nat_lit 99)) :: []))) (List.toArray []))
noncomputable def hd.t2 (P : Params) : BT := (BT.node (hd.o0 P) (BT.node (hd.o1 P) (BT.node (hd.o3t2 P) (BT.node (hd.o7 P) (BT.node (hd.o15 P) (BT.node (hd.o31 P) (BT.node (hd.o63 P) (BT.node (hd.o127 P) BT.nil BT.nil) (BT.node (hd.o191 P) BT.nil BT.nil)) (BT.node (hd.o95 P) (BT.node (hd.o159 P) BT.nil BT.nil) BT.nil)) (BT.node (hd.o47 P) (BT.node (hd.o79 P) (BT.node (hd.o143 P) BT.nil BT.nil) (BT.node (hd.o207 P) BT.nil BT.nil)) (BT.node (hd.o111 P) (BT.node (hd.o175 P) BT.nil BT.nil) BT.nil))) (BT.node (hd.o23 P) (BT.node (hd.o39 P) (BT.node (hd.o71 P) (BT.node (hd.o135 P) BT.nil BT.nil) (BT.node (hd.o199 P) BT.nil BT.nil)) (BT.node (hd.o103 P) (BT.node (hd.o167 P) BT.nil BT.nil) BT.nil)) (BT.node (hd.o55 P) (BT.node (hd.o87 P) (BT.node (hd.o151 P) BT.nil BT.nil) (BT.node (hd.o215 P) BT.nil BT.nil)) (BT.node (hd.o119 P) (BT.node (hd.o183 P) BT.nil BT.nil) BT.nil)))) (BT.node (hd.o11 P) (BT.node (hd.o19 P) (BT.node (hd.o35 P) (BT.node (hd.o67 P) (BT.node (hd.o131 P) BT.nil BT.nil) (BT.node (hd.o195 P) BT.nil BT.nil)) (BT.node (hd.o99 P) (BT.node (hd.o163 P) BT.nil BT.nil) BT.nil)) (BT.node (hd.o51 P) (BT.node (hd.o83 P) (BT.node (hd.o147 P) BT.nil BT.nil) (BT.node (hd.o211 P) BT.nil BT.nil)) (BT.node (hd.o115 P) (BT.node (hd.o179 P) BT.nil BT.nil) BT.nil))) (BT.node (hd.o27 P) (BT.node (hd.o43 P) (BT.node (hd.o75 P) (BT.node (hd.o139 P) BT.nil BT.nil) (BT.node (hd.o203 P) BT.nil BT.nil)) (BT.node (hd.o107 P) (BT.node (hd.o171 P) BT.nil BT.nil) BT.nil)) (BT.node (hd.o59 P) (BT.node (hd.o91 P) (BT.node (hd.o155 P) BT.nil BT.nil) (BT.node (hd.o219 P) BT.nil BT.nil)) (BT.node (hd.o123 P) (BT.node (hd.o187 P) BT.nil BT.nil) BT.nil))))) (BT.node (hd.o5 P) (BT.node (hd.o9 P) (BT.node (hd.o17 P) (BT.node (hd.o33 P) (BT.node (hd.o65 P) (BT.node (hd.o129 P) BT.nil BT.nil) (BT.node (hd.o193 P) BT.nil BT.nil)) (BT.node (hd.o97 P) (BT.node (hd.o161 P) BT.nil BT.nil) BT.nil)) (BT.node (hd.o49 P) (BT.node (hd.o81 P) (BT.node (hd.o145 P) BT.nil BT.nil) (BT.node (hd.o209 P) BT.nil BT.nil)) (BT.node (hd.o113 P) (BT.node (hd.o177 P) BT.nil BT.nil) BT.nil))) (BT.node (hd.o25 P) (BT.node (hd.o41 P) (BT.node (hd.o73 P) (BT.node (hd.o137 P) BT.nil BT.nil) (BT.node (hd.o201 P) BT.nil BT.nil)) (BT.node (hd.o105 P) (BT.node (hd.o169 P) BT.nil BT.nil) BT.nil)) (BT.node (hd.o57 P) (BT.node (hd.o89 P) (BT.node (hd.o153 P) BT.nil BT.nil) (BT.node (hd.o217 P) BT.nil BT.nil)) (BT.node (hd.o121 P) (BT.node (hd.o185 P) BT.nil BT.nil) BT.nil)))) (BT.node (hd.o13 P) (BT.node (hd.o21 P) (BT.node (hd.o37 P) (BT.node (hd.o69 P) (BT.node (hd.o133 P) BT.nil BT.nil) (BT.node (hd.o197 P) BT.nil BT.nil)) (BT.node (hd.o101 P) (BT.node (hd.o165 P) BT.nil BT.nil) BT.nil)) (BT.node (hd.o53 P) (BT.node (hd.o85 P) (BT.node (hd.o149 P) BT.nil BT.nil) (BT.node (hd.o213 P) BT.nil BT.nil)) (BT.node (hd.o117 P) (BT.node (hd.o181 P) BT.nil BT.nil) BT.nil))) (BT.node (hd.o29t2 P) (BT.node (hd.o45 P) (BT.node (hd.o77 P) (BT.node (hd.o141 P) BT.nil BT.nil) (BT.node (hd.o205 P) BT.nil BT.nil)) (BT.node (hd.o109 P) (BT.node (hd.o173 P) BT.nil BT.nil) BT.nil)) (BT.node (hd.o61 P) (BT.node (hd.o93 P) (BT.node (hd.o157 P) BT.nil BT.nil) BT.nil) (BT.node (hd.o125 P) (BT.node (hd.o189 P) BT.nil BT.nil) BT.nil)))))) (BT.node (hd.o2 P) (BT.node (hd.o4 P) (BT.node (hd.o8 P) (BT.node (hd.o16 P) (BT.node (hd.o32 P) (BT.node (hd.o64 P) (BT.node (hd.o128 P) BT.nil BT.nil) (BT.node (hd.o192 P) BT.nil BT.nil)) (BT.node (hd.o96 P) (BT.node (hd.o160 P) BT.nil BT.nil) BT.nil)) (BT.node (hd.o48 P) (BT.node (hd.o80 P) (BT.node (hd.o144 P) BT.nil BT.nil) (BT.node (hd.o208 P) BT.nil BT.nil)) (BT.node (hd.o112 P) (BT.node (hd.o176 P) BT.nil BT.nil) BT.nil))) (BT.node (hd.o24 P) (BT.node (hd.o40 P) (BT.node (hd.o72 P) (BT.node (hd.o136 P) BT.nil BT.nil) (BT.node (hd.o200 P) BT.nil BT.nil)) (BT.node (hd.o104 P) (BT.node (hd.o168 P) BT.nil BT.nil) BT.nil)) (BT.node (hd.o56 P) (BT.node (hd.o88 P) (BT.node (hd.o152 P) BT.nil BT.nil) (BT.node (hd.o216 P) BT.nil BT.nil)) (BT.node (hd.o120 P) (BT.node (hd.o184 P) BT.nil BT.nil) BT.nil)))) (BT.node (hd.o12 P) (BT.node (hd.o20 P) (BT.node (hd.o36 P) (BT.node (hd.o68 P) (BT.node (hd.o132 P) BT.nil BT.nil) (BT.node (hd.o196 P) BT.nil BT.nil)) (BT.node (hd.o100 P) (BT.node (hd.o164 P) BT.nil BT.nil) BT.nil)) (BT.node (hd.o52 P) (BT.node (hd.o84 P) (BT.node (hd.o148 P) BT.nil BT.nil) (BT.node (hd.o212 P) BT.nil BT.nil)) (BT.node (hd.o116 P) (BT.node (hd.o180 P) BT.nil BT.nil) BT.nil))) (BT.node (hd.o28 P) (BT.node (hd.o44 P) (BT.node (hd.o76 P) (BT.node (hd.o140 P) BT.nil BT.nil) (BT.node (hd.o204 P) BT.nil BT.nil)) (BT.node (hd.o108 P) (BT.node (hd.o172 P) BT.nil BT.nil) BT.nil)) (BT.node (hd.o60 P) (BT.node (hd.o92 P) (BT.node (hd.o156 P) BT.nil BT.nil) (BT.node (hd.o220 P) BT.nil BT.nil)) (BT.node (hd.o124 P) (BT.node (hd.o188 P) BT.nil BT.nil) BT.nil))))) (BT.node (hd.o6 P) (BT.node (hd.o10 P) (BT.node (hd.o18 P) (BT.node (hd.o34 P) (BT.node (hd.o66 P) (BT.node (hd.o130 P) BT.nil BT.nil) (BT.node (hd.o194 P) BT.nil BT.nil)) (BT.node (hd.o98 P) (BT.node (hd.o162 P) BT.nil BT.nil) BT.nil)) (BT.node (hd.o50 P) (BT.node (hd.o82 P) (BT.node (hd.o146 P) BT.nil BT.nil) (BT.node (hd.o210 P) BT.nil BT.nil)) (BT.node (hd.o114 P) (BT.node (hd.o178 P) BT.nil BT.nil) BT.nil))) (BT.node (hd.o26 P) (BT.node (hd.o42 P) (BT.node (hd.o74 P) (BT.node (hd.o138 P) BT.nil BT.nil) (BT.node (hd.o202 P) BT.nil BT.nil)) (BT.node (hd.o106 P) (BT.node (hd.o170 P) BT.nil BT.nil) BT.nil)) (BT.node (hd.o58 P) (BT.node (hd.o90 P) (BT.node (hd.o154 P) BT.nil BT.nil) (BT.node (hd.o218 P) BT.nil BT.nil)) (BT.node (hd.o122 P) (BT.node (hd.o186 P) BT.nil BT.nil) BT.nil)))) (BT.node (hd.o14 P) (BT.node (hd.o22 P) (BT.node (hd.o38 P) (BT.node (hd.o70 P) (BT.node (hd.o134 P) BT.nil BT.nil) (BT.node (hd.o198 P) BT.nil BT.nil)) (BT.node (hd.o102 P) (BT.node (hd.o166 P) BT.nil BT.nil) BT.nil)) (BT.node (hd.o54 P) (BT.node (hd.o86 P) (BT.node (hd.o150 P) BT.nil BT.nil) (BT.node (hd.o214 P) BT.nil BT.nil)) (BT.node (hd.o118 P) (BT.node (hd.o182 P) BT.nil BT.nil) BT.nil))) (BT.node (hd.o30 P) (BT.node (hd.o46 P) (BT.node (hd.o78 P) (BT.node (hd.o142 P) BT.nil BT.nil) (BT.node (hd.o206 P) BT.nil BT.nil)) (BT.node (hd.o110 P) (BT.node (hd.o174 P) BT.nil BT.nil) BT.nil)) (BT.node (hd.o62 P) (BT.node (hd.o94 P) (BT.node (hd.o158 P) BT.nil BT.nil) BT.nil) (BT.node (hd.o126 P) (BT.node (hd.o190 P) BT.nil BT.nil) BT.nil)))))))
noncomputable def hd.o3t3 (P : Params) : Obj := (Obj.mk (Value.type "dict") Option.none (Data.dict (List.toArray ((DictEntry.mk (PyData.keyHash P (Str.ofString "__name__")) (Value.str (Str.ofString "__name__") (nat_lit 165)) (Value.str (Str.ofString "law_wj0041_01") (nat_lit 617))) :: (DictEntry.mk (PyData.keyHash P (Str.ofString "__doc__")) (Value.str (Str.ofString "__doc__") (nat_lit 166)) Value.none) :: (DictEntry.mk (PyData.keyHash P (Str.ofString "__package__")) (Value.str (Str.ofString "__package__") (nat_lit 167)) Value.none) :: (DictEntry.mk (PyData.keyHash P (Str.ofString "__loader__")) (Value.str (Str.ofString "__loader__") (nat_lit 168)) (Value.builtin "__main__.__loader__#opaque")) :: (DictEntry.mk (PyData.keyHash P (Str.ofString "__spec__")) (Value.str (Str.ofString "__spec__") (nat_lit 169)) Value.none) :: (DictEntry.mk (PyData.keyHash P (Str.ofString "__annotations__")) (Value.str (Str.ofString "__annotations__") (nat_lit 170)) (Value.ref (nat_lit 6))) :: (DictEntry.mk (PyData.keyHash P (Str.ofString "__builtins__")) (Value.str (Str.ofString "__builtins__") (nat_lit 171)) (Value.ref (nat_lit 4))) :: (DictEntry.mk (PyData.keyHash P (Str.ofString "__file__")) (Value.str (Str.ofString "__file__") (nat_lit 173)) (Value.str (Str.ofString "/claim/cut.py") (nat_lit 172))) :: (DictEntry.mk (PyData.keyHash P (Str.ofString "__cached__")) (Value.str (Str.ofString "__cached__") (nat_lit 174)) Value.none) :: (DictEntry.mk (PyData.keyHash P (Str.ofString "_sre")) (Value.str (Str.ofString "_sre") (nat_lit 275)) (Value.ref (nat_lit 12))) :: (DictEntry.mk (PyData.keyHash P (Str.ofString "_wall")) (Value.str (Str.ofString "_wall") (nat_lit 288)) (Value.ref (nat_lit 38))) :: (DictEntry.mk (PyData.keyHash P (Str.ofString "Int2AP")) (Value.str (Str.ofString "Int2AP") (nat_lit 300)) (Value.ref (nat_lit 45))) :: (DictEntry.mk (PyData.keyHash P (Str.ofString "xor")) (Value.str (Str.ofString "xor") (nat_lit 310)) (Value.ref (nat_lit 52))) :: (DictEntry.mk (PyData.keyHash P (Str.ofString "countOf")) (Value.str (Str.ofString "countOf") (nat_lit 320)) (Value.ref (nat_lit 59))) :: (DictEntry.mk (PyData.keyHash P (Str.ofString "ilshift")) (Value.str (Str.ofString "ilshift") (nat_lit 328)) (Value.ref (nat_lit 66))) :: (DictEntry.mk (PyData.keyHash P (Str.ofString "_twin_re_1")) (Value.str (Str.ofString "_twin_re_1") (nat_lit 346)) (Value.ref (nat_lit 71))) :: (DictEntry.mk (PyData.keyHash P (Str.ofString "_twin_re_2")) (Value.str (Str.ofString "_twin_re_2") (nat_lit 388)) (Value.ref (nat_lit 76))) :: (DictEntry.mk (PyData.keyHash P (Str.ofString "CRLF")) (Value.str (Str.ofString "CRLF") (nat_lit 390)) (Value.str (Str.ofString "\x0d\n") (nat_lit 389))) :: (DictEntry.mk (PyData.keyHash P (Str.ofString "quotedata")) (Value.str (Str.ofString "quotedata") (nat_lit 397)) (Value.ref (nat_lit 83))) :: (DictEntry.mk (PyData.keyHash P (Str.ofString "_name_disallowed_re")) (Value.str (Str.ofString "_name_disallowed_re") (nat_lit 425)) (Value.ref (nat_lit 88))) :: (DictEntry.mk (PyData.keyHash P (Str.ofString "_value_disallowed_re")) (Value.str (Str.ofString "_value_disallowed_re") (nat_lit 459)) (Value.ref (nat_lit 93))) :: (DictEntry.mk (PyData.keyHash P (Str.ofString "Headers")) (Value.str (Str.ofString "Headers") (nat_lit 616)) (Value.ref (nat_lit 216))) :: (DictEntry.mk (PyData.keyHash P (Str.ofString "_law_number")) (Value.str (Str.ofString "_law_number") (nat_lit 627)) (Value.ref (nat_lit 227))) :: (DictEntry.mk (PyData.keyHash P (Str.ofString "_law_name")) (Value.str (Str.ofString "_law_name") (nat_lit 634)) (Value.ref (nat_lit 234))) :: (DictEntry.mk (PyData.keyHash P (Str.ofString "_law_square")) (Value.str (Str.ofString "_law_square") (nat_lit 644)) (Value.ref (nat_lit 241))) :: (DictEntry.mk (PyData.keyHash P (Str.ofString "_law_mail")) (Value.str (Str.ofString "_law_mail") (nat_lit 656)) (Value.ref (nat_lit 248))) :: (DictEntry.mk (PyData.keyHash P (Str.ofString "_law_heard")) (Value.str (Str.ofString "_law_heard") (nat_lit 666)) (Value.ref (nat_lit 255))) :: (DictEntry.mk (PyData.keyHash P (Str.ofString "_law_lay")) (Value.str (Str.ofString "_law_lay") (nat_lit 681)) (Value.ref (nat_lit 262))) :: (DictEntry.mk (PyData.keyHash P (Str.ofString "_law_sums")) (Value.str (Str.ofString "_law_sums") (nat_lit 687)) (Value.ref (nat_lit 267))) :: (DictEntry.mk (PyData.keyHash P (Str.ofString "_law_powers")) (Value.str (Str.ofString "_law_powers") (nat_lit 696)) (Value.ref (nat_lit 274))) :: (DictEntry.mk (PyData.keyHash P (Str.ofString "_law_product")) (Value.str (Str.ofString "_law_product") (nat_lit 705)) (Value.ref (nat_lit 281))) :: (DictEntry.mk (PyData.keyHash P (Str.ofString "_law_determinant")) (Value.str (Str.ofString "_law_determinant") (nat_lit 711)) (Value.ref (nat_lit 286))) :: (DictEntry.mk (PyData.keyHash P (Str.ofString "_law_all")) (Value.str (Str.ofString "_law_all") (nat_lit 721)) (Value.ref (nat_lit 293))) :: (DictEntry.mk (PyData.keyHash P (Str.ofString "law")) (Value.str (Str.ofString "law") (nat_lit 727)) (Value.ref (nat_lit 298))) :: [])) (nat_lit 34)) (List.toArray []))
noncomputable def hd.o29t3 (P : Params) : Obj := (Obj.mk Value.none Option.none (Data.fields (List.toArray ((Value.int (2 : Int) (nat_lit 0)) :: (Value.int (0 : Int) (nat_lit 0)) :: (Value.ref (nat_lit 37)) :: (Value.int (6 : Int) (nat_lit 0)) :: (Value.int (0 : Int) (nat_lit 0)) :: (Value.ref (nat_lit 44)) :: (Value.int (15 : Int) (nat_lit 0)) :: (Value.int (0 : Int) (nat_lit 0)) :: (Value.ref (nat_lit 51)) :: (Value.int (17 : Int) (nat_lit 0)) :: (Value.int (0 : Int) (nat_lit 0)) :: (Value.ref (nat_lit 58)) :: (Value.int (23 : Int) (nat_lit 0)) :: (Value.int (0 : Int) (nat_lit 0)) :: (Value.ref (nat_lit 65)) :: (Value.int (30 : Int) (nat_lit 0)) :: (Value.int (0 : Int) (nat_lit 0)) :: (Value.ref (nat_lit 82)) :: (Value.int (35 : Int) (nat_lit 0)) :: (Value.int (0 : Int) (nat_lit 0)) :: (Value.ref (nat_lit 99)) :: (Value.int (111 : Int) (nat_lit 0)) :: (Value.int (0 : Int) (nat_lit 0)) :: (Value.ref (nat_lit 226)) :: (Value.int (116 : Int) (nat_lit 0)) :: (Value.int (0 : Int) (nat_lit 0)) :: (Value.ref (nat_lit 233)) :: (Value.int (118 : Int) (nat_lit 0)) :: (Value.int (0 : Int) (nat_lit 0)) :: (Value.ref (nat_lit 240)) :: (Value.int (124 : Int) (nat_lit 0)) :: (Value.int (0 : Int) (nat_lit 0)) :: (Value.ref (nat_lit 247)) :: (Value.int (132 : Int) (nat_lit 0)) :: (Value.int (0 : Int) (nat_lit 0)) :: (Value.ref (nat_lit 254)) :: (Value.int (138 : Int) (nat_lit 0)) :: (Value.int (0 : Int) (nat_lit 0)) :: (Value.ref (nat_lit 261)) :: (Value.int (150 : Int) (nat_lit 0)) :: (Value.int (0 : Int) (nat_lit 0)) :: (Value.ref (nat_lit 266)) :: (Value.int (156 : Int) (nat_lit 0)) :: (Value.int (0 : Int) (nat_lit 0)) :: (Value.ref (nat_lit 273)) :: (Value.int (159 : Int) (nat_lit 0)) :: (Value.int (0 : Int) (nat_lit 0)) :: (Value.ref (nat_lit 280)) :: (Value.int (166 : Int) (nat_lit 0)) :: (Value.int (0 : Int) (nat_lit 0)) :: (Value.ref (nat_lit 285)) :: (Value.int (174 : Int) (nat_lit 0)) :: (Value.int (0 : Int) (nat_lit 0)) :: (Value.ref (nat_lit 292)) :: (Value.int (179 : Int) (nat_lit 0)) :: (Value.int (0 : Int) (nat_lit 0)) :: (Value.ref (nat_lit 297)) :: []))) (List.toArray []))
noncomputable def hd.t3 (P : Params) : BT := (BT.node (hd.o0 P) (BT.node (hd.o1 P) (BT.node (hd.o3t3 P) (BT.node (hd.o7 P) (BT.node (hd.o15 P) (BT.node (hd.o31 P) (BT.node (hd.o63 P) (BT.node (hd.o127 P) (BT.node (hd.o255 P) BT.nil BT.nil) BT.nil) (BT.node (hd.o191 P) BT.nil BT.nil)) (BT.node (hd.o95 P) (BT.node (hd.o159 P) (BT.node (hd.o287 P) BT.nil BT.nil) BT.nil) (BT.node (hd.o223 P) BT.nil BT.nil))) (BT.node (hd.o47 P) (BT.node (hd.o79 P) (BT.node (hd.o143 P) (BT.node (hd.o271 P) BT.nil BT.nil) BT.nil) (BT.node (hd.o207 P) BT.nil BT.nil)) (BT.node (hd.o111 P) (BT.node (hd.o175 P) BT.nil BT.nil) (BT.node (hd.o239 P) BT.nil BT.nil)))) (BT.node (hd.o23 P) (BT.node (hd.o39 P) (BT.node (hd.o71 P) (BT.node (hd.o135 P) (BT.node (hd.o263 P) BT.nil BT.nil) BT.nil) (BT.node (hd.o199 P) BT.nil BT.nil)) (BT.node (hd.o103 P) (BT.node (hd.o167 P) (BT.node (hd.o295 P) BT.nil BT.nil) BT.nil) (BT.node (hd.o231 P) BT.nil BT.nil))) (BT.node (hd.o55 P) (BT.node (hd.o87 P) (BT.node (hd.o151 P) (BT.node (hd.o279 P) BT.nil BT.nil) BT.nil) (BT.node (hd.o215 P) BT.nil BT.nil)) (BT.node (hd.o119 P) (BT.node (hd.o183 P) BT.nil BT.nil) (BT.node (hd.o247 P) BT.nil BT.nil))))) (BT.node (hd.o11 P) (BT.node (hd.o19 P) (BT.node (hd.o35 P) (BT.node (hd.o67 P) (BT.node (hd.o131 P) (BT.node (hd.o259 P) BT.nil BT.nil) BT.nil) (BT.node (hd.o195 P) BT.nil BT.nil)) (BT.node (hd.o99 P) (BT.node (hd.o163 P) (BT.node (hd.o291 P) BT.nil BT.nil) BT.nil) (BT.node (hd.o227 P) BT.nil BT.nil))) (BT.node (hd.o51 P) (BT.node (hd.o83 P) (BT.node (hd.o147 P) (BT.node (hd.o275 P) BT.nil BT.nil) BT.nil) (BT.node (hd.o211 P) BT.nil BT.nil)) (BT.node (hd.o115 P) (BT.node (hd.o179 P) BT.nil BT.nil) (BT.node (hd.o243 P) BT.nil BT.nil)))) (BT.node (hd.o27 P) (BT.node (hd.o43 P) (BT.node (hd.o75 P) (BT.node (hd.o139 P) (BT.node (hd.o267 P) BT.nil BT.nil) BT.nil) (BT.node (hd.o203 P) BT.nil BT.nil)) (BT.node (hd.o107 P) (BT.node (hd.o171 P) BT.nil BT.nil) (BT.node (hd.o235 P) BT.nil BT.nil))) (BT.node (hd.o59 P) (BT.node (hd.o91 P) (BT.node (hd.o155 P) (BT.node (hd.o283 P) BT.nil BT.nil) BT.nil) (BT.node (hd.o219 P) BT.nil BT.nil)) (BT.node (hd.o123 P) (BT.node (hd.o187 P) BT.nil BT.nil) (BT.node (hd.o251 P) BT.nil BT.nil)))))) (BT.node (hd.o5 P) (BT.node (hd.o9 P) (BT.node (hd.o17 P) (BT.node (hd.o33 P) (BT.node (hd.o65 P) (BT.node (hd.o129 P) (BT.node (hd.o257 P) BT.nil BT.nil) BT.nil) (BT.node (hd.o193 P) BT.nil BT.nil)) (BT.node (hd.o97 P) (BT.node (hd.o161 P) (BT.node (hd.o289 P) BT.nil BT.nil) BT.nil) (BT.node (hd.o225 P) BT.nil BT.nil))) (BT.node (hd.o49 P) (BT.node (hd.o81 P) (BT.node (hd.o145 P) (BT.node (hd.o273 P) BT.nil BT.nil) BT.nil) (BT.node (hd.o209 P) BT.nil BT.nil)) (BT.node (hd.o113 P) (BT.node (hd.o177 P) BT.nil BT.nil) (BT.node (hd.o241 P) BT.nil BT.nil)))) (BT.node (hd.o25 P) (BT.node (hd.o41 P) (BT.node (hd.o73 P) (BT.node (hd.o137 P) (BT.node (hd.o265 P) BT.nil BT.nil) BT.nil) (BT.node (hd.o201 P) BT.nil BT.nil)) (BT.node (hd.o105 P) (BT.node (hd.o169 P) (BT.node (hd.o297 P) BT.nil BT.nil) BT.nil) (BT.node (hd.o233 P) BT.nil BT.nil))) (BT.node (hd.o57 P) (BT.node (hd.o89 P) (BT.node (hd.o153 P) (BT.node (hd.o281 P) BT.nil BT.nil) BT.nil) (BT.node (hd.o217 P) BT.nil BT.nil)) (BT.node (hd.o121 P) (BT.node (hd.o185 P) BT.nil BT.nil) (BT.node (hd.o249 P) BT.nil BT.nil))))) (BT.node (hd.o13 P) (BT.node (hd.o21 P) (BT.node (hd.o37 P) (BT.node (hd.o69 P) (BT.node (hd.o133 P) (BT.node (hd.o261 P) BT.nil BT.nil) BT.nil) (BT.node (hd.o197 P) BT.nil BT.nil)) (BT.node (hd.o101 P) (BT.node (hd.o165 P) (BT.node (hd.o293 P) BT.nil BT.nil) BT.nil) (BT.node (hd.o229 P) BT.nil BT.nil))) (BT.node (hd.o53 P) (BT.node (hd.o85 P) (BT.node (hd.o149 P) (BT.node (hd.o277 P) BT.nil BT.nil) BT.nil) (BT.node (hd.o213 P) BT.nil BT.nil)) (BT.node (hd.o117 P) (BT.node (hd.o181 P) BT.nil BT.nil) (BT.node (hd.o245 P) BT.nil BT.nil)))) (BT.node (hd.o29t3 P) (BT.node (hd.o45 P) (BT.node (hd.o77 P) (BT.node (hd.o141 P) (BT.node (hd.o269 P) BT.nil BT.nil) BT.nil) (BT.node (hd.o205 P) BT.nil BT.nil)) (BT.node (hd.o109 P) (BT.node (hd.o173 P) BT.nil BT.nil) (BT.node (hd.o237 P) BT.nil BT.nil))) (BT.node (hd.o61 P) (BT.node (hd.o93 P) (BT.node (hd.o157 P) (BT.node (hd.o285 P) BT.nil BT.nil) BT.nil) (BT.node (hd.o221 P) BT.nil BT.nil)) (BT.node (hd.o125 P) (BT.node (hd.o189 P) BT.nil BT.nil) (BT.node (hd.o253 P) BT.nil BT.nil))))))) (BT.node (hd.o2 P) (BT.node (hd.o4 P) (BT.node (hd.o8 P) (BT.node (hd.o16 P) (BT.node (hd.o32 P) (BT.node (hd.o64 P) (BT.node (hd.o128 P) (BT.node (hd.o256 P) BT.nil BT.nil) BT.nil) (BT.node (hd.o192 P) BT.nil BT.nil)) (BT.node (hd.o96 P) (BT.node (hd.o160 P) (BT.node (hd.o288 P) BT.nil BT.nil) BT.nil) (BT.node (hd.o224 P) BT.nil BT.nil))) (BT.node (hd.o48 P) (BT.node (hd.o80 P) (BT.node (hd.o144 P) (BT.node (hd.o272 P) BT.nil BT.nil) BT.nil) (BT.node (hd.o208 P) BT.nil BT.nil)) (BT.node (hd.o112 P) (BT.node (hd.o176 P) BT.nil BT.nil) (BT.node (hd.o240 P) BT.nil BT.nil)))) (BT.node (hd.o24 P) (BT.node (hd.o40 P) (BT.node (hd.o72 P) (BT.node (hd.o136 P) (BT.node (hd.o264 P) BT.nil BT.nil) BT.nil) (BT.node (hd.o200 P) BT.nil BT.nil)) (BT.node (hd.o104 P) (BT.node (hd.o168 P) (BT.node (hd.o296 P) BT.nil BT.nil) BT.nil) (BT.node (hd.o232 P) BT.nil BT.nil))) (BT.node (hd.o56 P) (BT.node (hd.o88 P) (BT.node (hd.o152 P) (BT.node (hd.o280 P) BT.nil BT.nil) BT.nil) (BT.node (hd.o216 P) BT.nil BT.nil)) (BT.node (hd.o120 P) (BT.node (hd.o184 P) BT.nil BT.nil) (BT.node (hd.o248 P) BT.nil BT.nil))))) (BT.node (hd.o12 P) (BT.node (hd.o20 P) (BT.node (hd.o36 P) (BT.node (hd.o68 P) (BT.node (hd.o132 P) (BT.node (hd.o260 P) BT.nil BT.nil) BT.nil) (BT.node (hd.o196 P) BT.nil BT.nil)) (BT.node (hd.o100 P) (BT.node (hd.o164 P) (BT.node (hd.o292 P) BT.nil BT.nil) BT.nil) (BT.node (hd.o228 P) BT.nil BT.nil))) (BT.node (hd.o52 P) (BT.node (hd.o84 P) (BT.node (hd.o148 P) (BT.node (hd.o276 P) BT.nil BT.nil) BT.nil) (BT.node (hd.o212 P) BT.nil BT.nil)) (BT.node (hd.o116 P) (BT.node (hd.o180 P) BT.nil BT.nil) (BT.node (hd.o244 P) BT.nil BT.nil)))) (BT.node (hd.o28 P) (BT.node (hd.o44 P) (BT.node (hd.o76 P) (BT.node (hd.o140 P) (BT.node (hd.o268 P) BT.nil BT.nil) BT.nil) (BT.node (hd.o204 P) BT.nil BT.nil)) (BT.node (hd.o108 P) (BT.node (hd.o172 P) BT.nil BT.nil) (BT.node (hd.o236 P) BT.nil BT.nil))) (BT.node (hd.o60 P) (BT.node (hd.o92 P) (BT.node (hd.o156 P) (BT.node (hd.o284 P) BT.nil BT.nil) BT.nil) (BT.node (hd.o220 P) BT.nil BT.nil)) (BT.node (hd.o124 P) (BT.node (hd.o188 P) BT.nil BT.nil) (BT.node (hd.o252 P) BT.nil BT.nil)))))) (BT.node (hd.o6 P) (BT.node (hd.o10 P) (BT.node (hd.o18 P) (BT.node (hd.o34 P) (BT.node (hd.o66 P) (BT.node (hd.o130 P) (BT.node (hd.o258 P) BT.nil BT.nil) BT.nil) (BT.node (hd.o194 P) BT.nil BT.nil)) (BT.node (hd.o98 P) (BT.node (hd.o162 P) (BT.node (hd.o290 P) BT.nil BT.nil) BT.nil) (BT.node (hd.o226 P) BT.nil BT.nil))) (BT.node (hd.o50 P) (BT.node (hd.o82 P) (BT.node (hd.o146 P) (BT.node (hd.o274 P) BT.nil BT.nil) BT.nil) (BT.node (hd.o210 P) BT.nil BT.nil)) (BT.node (hd.o114 P) (BT.node (hd.o178 P) BT.nil BT.nil) (BT.node (hd.o242 P) BT.nil BT.nil)))) (BT.node (hd.o26 P) (BT.node (hd.o42 P) (BT.node (hd.o74 P) (BT.node (hd.o138 P) (BT.node (hd.o266 P) BT.nil BT.nil) BT.nil) (BT.node (hd.o202 P) BT.nil BT.nil)) (BT.node (hd.o106 P) (BT.node (hd.o170 P) (BT.node (hd.o298 P) BT.nil BT.nil) BT.nil) (BT.node (hd.o234 P) BT.nil BT.nil))) (BT.node (hd.o58 P) (BT.node (hd.o90 P) (BT.node (hd.o154 P) (BT.node (hd.o282 P) BT.nil BT.nil) BT.nil) (BT.node (hd.o218 P) BT.nil BT.nil)) (BT.node (hd.o122 P) (BT.node (hd.o186 P) BT.nil BT.nil) (BT.node (hd.o250 P) BT.nil BT.nil))))) (BT.node (hd.o14 P) (BT.node (hd.o22 P) (BT.node (hd.o38 P) (BT.node (hd.o70 P) (BT.node (hd.o134 P) (BT.node (hd.o262 P) BT.nil BT.nil) BT.nil) (BT.node (hd.o198 P) BT.nil BT.nil)) (BT.node (hd.o102 P) (BT.node (hd.o166 P) (BT.node (hd.o294 P) BT.nil BT.nil) BT.nil) (BT.node (hd.o230 P) BT.nil BT.nil))) (BT.node (hd.o54 P) (BT.node (hd.o86 P) (BT.node (hd.o150 P) (BT.node (hd.o278 P) BT.nil BT.nil) BT.nil) (BT.node (hd.o214 P) BT.nil BT.nil)) (BT.node (hd.o118 P) (BT.node (hd.o182 P) BT.nil BT.nil) (BT.node (hd.o246 P) BT.nil BT.nil)))) (BT.node (hd.o30 P) (BT.node (hd.o46 P) (BT.node (hd.o78 P) (BT.node (hd.o142 P) (BT.node (hd.o270 P) BT.nil BT.nil) BT.nil) (BT.node (hd.o206 P) BT.nil BT.nil)) (BT.node (hd.o110 P) (BT.node (hd.o174 P) BT.nil BT.nil) (BT.node (hd.o238 P) BT.nil BT.nil))) (BT.node (hd.o62 P) (BT.node (hd.o94 P) (BT.node (hd.o158 P) (BT.node (hd.o286 P) BT.nil BT.nil) BT.nil) (BT.node (hd.o222 P) BT.nil BT.nil)) (BT.node (hd.o126 P) (BT.node (hd.o190 P) BT.nil BT.nil) (BT.node (hd.o254 P) BT.nil BT.nil))))))))
noncomputable def hd.hf (P : Params) : Heap := ⟨Array.mk ((hd.o0 P) :: (hd.o1 P) :: (hd.o2 P) :: (hd.o3t3 P) :: (hd.o4 P) :: (hd.o5 P) :: (hd.o6 P) :: (hd.o7 P) :: (hd.o8 P) :: (hd.o9 P) :: (hd.o10 P) :: (hd.o11 P) :: (hd.o12 P) :: (hd.o13 P) :: (hd.o14 P) :: (hd.o15 P) :: (hd.o16 P) :: (hd.o17 P) :: (hd.o18 P) :: (hd.o19 P) :: (hd.o20 P) :: (hd.o21 P) :: (hd.o22 P) :: (hd.o23 P) :: (hd.o24 P) :: (hd.o25 P) :: (hd.o26 P) :: (hd.o27 P) :: (hd.o28 P) :: (hd.o29t3 P) :: (hd.o30 P) :: (hd.o31 P) :: (hd.o32 P) :: (hd.o33 P) :: (hd.o34 P) :: (hd.o35 P) :: (hd.o36 P) :: (hd.o37 P) :: (hd.o38 P) :: (hd.o39 P) :: (hd.o40 P) :: (hd.o41 P) :: (hd.o42 P) :: (hd.o43 P) :: (hd.o44 P) :: (hd.o45 P) :: (hd.o46 P) :: (hd.o47 P) :: (hd.o48 P) :: (hd.o49 P) :: (hd.o50 P) :: (hd.o51 P) :: (hd.o52 P) :: (hd.o53 P) :: (hd.o54 P) :: (hd.o55 P) :: (hd.o56 P) :: (hd.o57 P) :: (hd.o58 P) :: (hd.o59 P) :: (hd.o60 P) :: (hd.o61 P) :: (hd.o62 P) :: (hd.o63 P) :: (hd.o64 P) :: (hd.o65 P) :: (hd.o66 P) :: (hd.o67 P) :: (hd.o68 P) :: (hd.o69 P) :: (hd.o70 P) :: (hd.o71 P) :: (hd.o72 P) :: (hd.o73 P) :: (hd.o74 P) :: (hd.o75 P) :: (hd.o76 P) :: (hd.o77 P) :: (hd.o78 P) :: (hd.o79 P) :: (hd.o80 P) :: (hd.o81 P) :: (hd.o82 P) :: (hd.o83 P) :: (hd.o84 P) :: (hd.o85 P) :: (hd.o86 P) :: (hd.o87 P) :: (hd.o88 P) :: (hd.o89 P) :: (hd.o90 P) :: (hd.o91 P) :: (hd.o92 P) :: (hd.o93 P) :: (hd.o94 P) :: (hd.o95 P) :: (hd.o96 P) :: (hd.o97 P) :: (hd.o98 P) :: (hd.o99 P) :: (hd.o100 P) :: (hd.o101 P) :: (hd.o102 P) :: (hd.o103 P) :: (hd.o104 P) :: (hd.o105 P) :: (hd.o106 P) :: (hd.o107 P) :: (hd.o108 P) :: (hd.o109 P) :: (hd.o110 P) :: (hd.o111 P) :: (hd.o112 P) :: (hd.o113 P) :: (hd.o114 P) :: (hd.o115 P) :: (hd.o116 P) :: (hd.o117 P) :: (hd.o118 P) :: (hd.o119 P) :: (hd.o120 P) :: (hd.o121 P) :: (hd.o122 P) :: (hd.o123 P) :: (hd.o124 P) :: (hd.o125 P) :: (hd.o126 P) :: (hd.o127 P) :: (hd.o128 P) :: (hd.o129 P) :: (hd.o130 P) :: (hd.o131 P) :: (hd.o132 P) :: (hd.o133 P) :: (hd.o134 P) :: (hd.o135 P) :: (hd.o136 P) :: (hd.o137 P) :: (hd.o138 P) :: (hd.o139 P) :: (hd.o140 P) :: (hd.o141 P) :: (hd.o142 P) :: (hd.o143 P) :: (hd.o144 P) :: (hd.o145 P) :: (hd.o146 P) :: (hd.o147 P) :: (hd.o148 P) :: (hd.o149 P) :: (hd.o150 P) :: (hd.o151 P) :: (hd.o152 P) :: (hd.o153 P) :: (hd.o154 P) :: (hd.o155 P) :: (hd.o156 P) :: (hd.o157 P) :: (hd.o158 P) :: (hd.o159 P) :: (hd.o160 P) :: (hd.o161 P) :: (hd.o162 P) :: (hd.o163 P) :: (hd.o164 P) :: (hd.o165 P) :: (hd.o166 P) :: (hd.o167 P) :: (hd.o168 P) :: (hd.o169 P) :: (hd.o170 P) :: (hd.o171 P) :: (hd.o172 P) :: (hd.o173 P) :: (hd.o174 P) :: (hd.o175 P) :: (hd.o176 P) :: (hd.o177 P) :: (hd.o178 P) :: (hd.o179 P) :: (hd.o180 P) :: (hd.o181 P) :: (hd.o182 P) :: (hd.o183 P) :: (hd.o184 P) :: (hd.o185 P) :: (hd.o186 P) :: (hd.o187 P) :: (hd.o188 P) :: (hd.o189 P) :: (hd.o190 P) :: (hd.o191 P) :: (hd.o192 P) :: (hd.o193 P) :: (hd.o194 P) :: (hd.o195 P) :: (hd.o196 P) :: (hd.o197 P) :: (hd.o198 P) :: (hd.o199 P) :: (hd.o200 P) :: (hd.o201 P) :: (hd.o202 P) :: (hd.o203 P) :: (hd.o204 P) :: (hd.o205 P) :: (hd.o206 P) :: (hd.o207 P) :: (hd.o208 P) :: (hd.o209 P) :: (hd.o210 P) :: (hd.o211 P) :: (hd.o212 P) :: (hd.o213 P) :: (hd.o214 P) :: (hd.o215 P) :: (hd.o216 P) :: (hd.o217 P) :: (hd.o218 P) :: (hd.o219 P) :: (hd.o220 P) :: (hd.o221 P) :: (hd.o222 P) :: (hd.o223 P) :: (hd.o224 P) :: (hd.o225 P) :: (hd.o226 P) :: (hd.o227 P) :: (hd.o228 P) :: (hd.o229 P) :: (hd.o230 P) :: (hd.o231 P) :: (hd.o232 P) :: (hd.o233 P) :: (hd.o234 P) :: (hd.o235 P) :: (hd.o236 P) :: (hd.o237 P) :: (hd.o238 P) :: (hd.o239 P) :: (hd.o240 P) :: (hd.o241 P) :: (hd.o242 P) :: (hd.o243 P) :: (hd.o244 P) :: (hd.o245 P) :: (hd.o246 P) :: (hd.o247 P) :: (hd.o248 P) :: (hd.o249 P) :: (hd.o250 P) :: (hd.o251 P) :: (hd.o252 P) :: (hd.o253 P) :: (hd.o254 P) :: (hd.o255 P) :: (hd.o256 P) :: (hd.o257 P) :: (hd.o258 P) :: (hd.o259 P) :: (hd.o260 P) :: (hd.o261 P) :: (hd.o262 P) :: (hd.o263 P) :: (hd.o264 P) :: (hd.o265 P) :: (hd.o266 P) :: (hd.o267 P) :: (hd.o268 P) :: (hd.o269 P) :: (hd.o270 P) :: (hd.o271 P) :: (hd.o272 P) :: (hd.o273 P) :: (hd.o274 P) :: (hd.o275 P) :: (hd.o276 P) :: (hd.o277 P) :: (hd.o278 P) :: (hd.o279 P) :: (hd.o280 P) :: (hd.o281 P) :: (hd.o282 P) :: (hd.o283 P) :: (hd.o284 P) :: (hd.o285 P) :: (hd.o286 P) :: (hd.o287 P) :: (hd.o288 P) :: (hd.o289 P) :: (hd.o290 P) :: (hd.o291 P) :: (hd.o292 P) :: (hd.o293 P) :: (hd.o294 P) :: (hd.o295 P) :: (hd.o296 P) :: (hd.o297 P) :: (hd.o298 P) :: []), hd.life⟩
noncomputable def hd.env : Env := { scope := PySem.Challenge.pw_wj0041_01.main.scope, locals := mainNs, globals := mainNs, cells := [], code := (Value.ref (nat_lit 30)), frame := some (nat_lit 31) }
noncomputable def hd.cd : Code := .body (behindTheImports PySem.Challenge.pw_wj0041_01) hd.env
noncomputable def hd.fp : Pos := (Pos.mk (nat_lit 0) (nat_lit 0) (nat_lit 0) (nat_lit 0))
noncomputable def hd.m0 : Nat := nat_lit 28
noncomputable def hd.ann : Option Value := (Option.some (Value.ref (nat_lit 6)))
noncomputable def hd.l1 : List Stmt := ((behindTheImports PySem.Challenge.pw_wj0041_01).drop 0).take 15
noncomputable def hd.l2 : List Stmt := ((behindTheImports PySem.Challenge.pw_wj0041_01).drop 15).take 1
noncomputable def hd.l3 : List Stmt := ((behindTheImports PySem.Challenge.pw_wj0041_01).drop 16).take 13
theorem hd.open0 : ∀ w : World, (fencedOpening treeTable PySem.Challenge.pw_wj0041_01 w 3368).map (fun s => (s.heap, s.gens, s.drawn, s.toks)) = some (hd.h0 w.params, #[], hd.drawn, 276) := by
  intro w; kernel_rfl
theorem hd.size0 : ∀ w : World, ((hd.h0 w.params).isNs mainGlobals && (#[] : Array GenState).size == 0, (hd.h0 w.params).objs.size, (hd.h0 w.params).nsMap mainGlobals "__annotations__") = (true, hd.m0, hd.ann) := by
  intro w; kernel_rfl
theorem hd.pre0 : ∀ (w : World) (os : OsState), topGo treeTable PySem.Challenge.pw_wj0041_01 w hd.m0 hd.ann 12 ⟨hd.h0 w.params, #[], hd.drawn, 276, os⟩ (topStub PySem.Challenge.pw_wj0041_01) = some (⟨hd.ha w.params, #[], hd.drawn, 282, os⟩, ⟨denote treeTable hd.cd, hd.cd, (Pos.mk (nat_lit 0) (nat_lit 0) (nat_lit 0) (nat_lit 0)), [topFrame hd.fp]⟩) := by
  intro w os; kernel_rfl
theorem hd.block0 : ∀ (w : World) (os : OsState), segRun treeTable PySem.Challenge.pw_wj0041_01 w hd.m0 hd.ann 1 1 ⟨hd.ha w.params, #[], hd.drawn, 282, os⟩ (blockOf (behindTheImports PySem.Challenge.pw_wj0041_01) hd.env hd.cd (Pos.mk (nat_lit 0) (nat_lit 0) (nat_lit 0) (nat_lit 0)) [topFrame hd.fp]) = some (.next, SharedT.abs (⟨hd.t0 w.params, nat_lit 32, hd.life, #[], hd.drawn, 282, os⟩ : SharedT), hd.cd, (Pos.mk (nat_lit 0) (nat_lit 0) (nat_lit 0) (nat_lit 0))) := by
  intro w os; kernel_rfl
theorem hd.run1 : ∀ (w : World) (os : OsState), segRunT treeTable PySem.Challenge.pw_wj0041_01 w hd.m0 hd.ann 1 518 (⟨hd.t0 w.params, nat_lit 32, hd.life, #[], hd.drawn, 282, os⟩ : SharedT) (piecesOf hd.l1 hd.env hd.cd (Pos.mk (nat_lit 0) (nat_lit 0) (nat_lit 0) (nat_lit 0)) [topFrame hd.fp]) = some (.next, (⟨hd.t1 w.params, nat_lit 94, hd.life, #[], hd.drawn, 460, os⟩ : SharedT), hd.cd, (Pos.mk (nat_lit 34) (nat_lit 0) (nat_lit 34) (nat_lit 20))) := by
  intro w os; kernel_rfl
theorem hd.run2 : ∀ (w : World) (os : OsState), segRunT treeTable PySem.Challenge.pw_wj0041_01 w hd.m0 hd.ann 1 729 (⟨hd.t1 w.params, nat_lit 94, hd.life, #[], hd.drawn, 460, os⟩ : SharedT) (piecesOf hd.l2 hd.env hd.cd (Pos.mk (nat_lit 34) (nat_lit 0) (nat_lit 34) (nat_lit 20)) [topFrame hd.fp]) = some (.next, (⟨hd.t2 w.params, nat_lit 221, hd.life, #[], hd.drawn, 617, os⟩ : SharedT), hd.cd, (Pos.mk (nat_lit 35) (nat_lit 0) (nat_lit 109) (nat_lit 16))) := by
  intro w os; kernel_rfl
theorem hd.run3 : ∀ (w : World) (os : OsState), segRunT treeTable PySem.Challenge.pw_wj0041_01 w hd.m0 hd.ann 1 377 (⟨hd.t2 w.params, nat_lit 221, hd.life, #[], hd.drawn, 617, os⟩ : SharedT) (piecesOf hd.l3 hd.env hd.cd (Pos.mk (nat_lit 35) (nat_lit 0) (nat_lit 109) (nat_lit 16)) [topFrame hd.fp]) = some (.next, (⟨hd.t3 w.params, nat_lit 299, hd.life, #[], hd.drawn, 728, os⟩ : SharedT), hd.cd, (Pos.mk (nat_lit 179) (nat_lit 0) (nat_lit 199) (nat_lit 81))) := by
  intro w os; kernel_rfl
theorem hd.fin0 : ∀ (w : World) (os : OsState), topRun treeTable PySem.Challenge.pw_wj0041_01 w hd.m0 hd.ann 2 (SharedT.abs (⟨hd.t3 w.params, nat_lit 299, hd.life, #[], hd.drawn, 728, os⟩ : SharedT)) ⟨doneF .next, hd.cd, (Pos.mk (nat_lit 179) (nat_lit 0) (nat_lit 199) (nat_lit 81)), [topFrame hd.fp]⟩ = some ⟨hd.hf w.params, #[], hd.drawn, 728, os⟩ := by
  intro w os; kernel_rfl
noncomputable abbrev hd.r3 : List Stmt := []
noncomputable abbrev hd.r2 : List Stmt := hd.l3 ++ hd.r3
noncomputable abbrev hd.r1 : List Stmt := hd.l2 ++ hd.r2
theorem hd.runs : ∀ (w : World) (os : OsState), topRun treeTable PySem.Challenge.pw_wj0041_01 w hd.m0 hd.ann (12 + (1 + (518 + (729 + (377 + 2))))) ⟨hd.h0 w.params, #[], hd.drawn, 276, os⟩ (topStub PySem.Challenge.pw_wj0041_01) = some ⟨hd.hf w.params, #[], hd.drawn, 728, os⟩ := fun w os =>
  go_top (hd.pre0 w os) (piece_block (hd.block0 w os) (piece_app (rest := hd.r1) (segRun_of (hd.run1 w os)) (piece_app (rest := hd.r2) (segRun_of (hd.run2 w os)) (piece_app (rest := hd.r3) (segRun_of (hd.run3 w os)) (piece_nil (hd.fin0 w os))))))
theorem hd.left : LeftO PySem.Challenge.rw_wj0041_01.row.prog hd.view_39 [Str.ofString "_twin_re_1", Str.ofString "_twin_re_2", Str.ofString "_name_disallowed_re", Str.ofString "_value_disallowed_re"]
    (fun s => xlAt hd.view_39 [] s && recOk PySem.Challenge.rw_wj0041_01.row.records s) (kHook hd.heap_39 hd.ads hd.ads_eq).obs (kHook hd.heap_39 hd.ads hd.ads_eq).val 3368 :=
  LeftO.of_pieces (p := PySem.Challenge.pw_wj0041_01) (H₀ := hd.h0) (H₁ := hd.hf) (M := 12 + (1 + (518 + (729 + (377 + 2))))) hd.open0 hd.size0 hd.runs (by decide +kernel)
    (fun w => funext fun os => looks_pair (by kernel_rfl) (looks_pair (by kernel_rfl) (by kernel_rfl)))
end Mine
namespace Mine
/-- the claim of a def that hands back a scalar and leaves the ledger as it was -/
noncomputable def Clm (w : World) (mean : ExcName → Option Value) (mg mb : Str → Option Value) (d : Nat) (f : Addr) (news : List (Addr × Obj)) (vs : List Value) (R : Tok → Value) : Prop :=
  ∀ (dp un : Nat) (gd : Option (List Code)) (cn : Str) (cs : Scope) (a : Addr) (ccd : Value) (cl : List (Str × Addr)) (outer : List Env) (A₀ : Around) (base h₀ : Heap) (L : Addr) (m : Str → Option Value) (s : Shared) (Q E : Value → Shared → Prop),
    Below A₀ base outer h₀ → Fr h₀ L s.heap m → (Mine.hd.heap_39 w.params).In h₀ → News h₀ L s.heap news →
    Top Mine.hd.view_39 (looseW Mine.hd.view_39 [Str.ofString "_twin_re_1", Str.ofString "_twin_re_2", Str.ofString "_name_disallowed_re", Str.ofString "_value_disallowed_re"]) mean mg mb h₀ →
    cs.kind = .function → dp + d < recursionLimit → un + 10 * d < cLine → CbRet h₀ L m news s Q R →
      wpAny (model (PySem.Challenge.rw_wj0041_01).prog w) (ktrTop dp un gd cn cs L a ccd cl outer) (call (.ref f) vs) Q E s
end Mine
namespace Mine
theorem Clm.use {w : World} {mean : ExcName → Option Value} {mg mb : Str → Option Value} {d : Nat} {f : Addr} {news : List (Addr × Obj)} {vs : List Value} {R : Tok → Value} (C : Clm w mean mg mb d f news vs R)
  {dp un : Nat} {gd : Option (List Code)} {cn : Str} {cs : Scope} {a : Addr} {ccd : Value} {cl : List (Str × Addr)} {outer : List Env} {A₀ : Around} {base h₀ : Heap} {L : Addr} {m : Str → Option Value} {s : Shared} {Q E : Value → Shared → Prop}
    (h1 : Below A₀ base outer h₀) (h2 : Fr h₀ L s.heap m) (h3 : (Mine.hd.heap_39 w.params).In h₀) (h4 : News h₀ L s.heap news)
    (h5 : Top Mine.hd.view_39 (looseW Mine.hd.view_39 [Str.ofString "_twin_re_1", Str.ofString "_twin_re_2", Str.ofString "_name_disallowed_re", Str.ofString "_value_disallowed_re"]) mean mg mb h₀)
    (h6 : cs.kind = .function) (h7 : dp + d < recursionLimit) (h8 : un + 10 * d < cLine) (h9 : ∀ (t : Tok) (h' : Heap) (tk' : Nat), Fr h₀ L h' m → News h₀ L h' news → Q (R t) { s with heap := h', toks := tk' }) :
      wpAny (model (PySem.Challenge.rw_wj0041_01).prog w) (ktrTop dp un gd cn cs L a ccd cl outer) (call (.ref f) vs) Q E s :=
  C _ _ _ _ _ _ _ _ _ _ _ _ _ _ _ _ _ h1 h2 h3 h4 h5 h6 h7 h8 h9
end Mine
namespace Mine
/-- the same with keywords -/
noncomputable def ClmK (w : World) (mean : ExcName → Option Value) (mg mb : Str → Option Value) (d : Nat) (f : Addr) (news : List (Addr × Obj)) (vs : List Value) (kw : List (Str × Value)) (R : Tok → Value) : Prop :=
  ∀ (dp un : Nat) (gd : Option (List Code)) (cn : Str) (cs : Scope) (a : Addr) (ccd : Value) (cl : List (Str × Addr)) (outer : List Env) (A₀ : Around) (base h₀ : Heap) (L : Addr) (m : Str → Option Value) (s : Shared) (Q E : Value → Shared → Prop),
    Below A₀ base outer h₀ → Fr h₀ L s.heap m → (Mine.hd.heap_39 w.params).In h₀ → News h₀ L s.heap news →
    Top Mine.hd.view_39 (looseW Mine.hd.view_39 [Str.ofString "_twin_re_1", Str.ofString "_twin_re_2", Str.ofString "_name_disallowed_re", Str.ofString "_value_disallowed_re"]) mean mg mb h₀ →
    cs.kind = .function → dp + d < recursionLimit → un + 10 * d < cLine → CbRet h₀ L m news s Q R →
      wpAny (model (PySem.Challenge.rw_wj0041_01).prog w) (ktrTop dp un gd cn cs L a ccd cl outer) (call (.ref f) vs kw) Q E s
theorem ClmK.use {w : World} {mean : ExcName → Option Value} {mg mb : Str → Option Value} {d : Nat} {f : Addr} {news : List (Addr × Obj)} {vs : List Value} {kw : List (Str × Value)} {R : Tok → Value} (C : ClmK w mean mg mb d f news vs kw R)
  {dp un : Nat} {gd : Option (List Code)} {cn : Str} {cs : Scope} {a : Addr} {ccd : Value} {cl : List (Str × Addr)} {outer : List Env} {A₀ : Around} {base h₀ : Heap} {L : Addr} {m : Str → Option Value} {s : Shared} {Q E : Value → Shared → Prop}
    (h1 : Below A₀ base outer h₀) (h2 : Fr h₀ L s.heap m) (h3 : (Mine.hd.heap_39 w.params).In h₀) (h4 : News h₀ L s.heap news)
    (h5 : Top Mine.hd.view_39 (looseW Mine.hd.view_39 [Str.ofString "_twin_re_1", Str.ofString "_twin_re_2", Str.ofString "_name_disallowed_re", Str.ofString "_value_disallowed_re"]) mean mg mb h₀)
    (h6 : cs.kind = .function) (h7 : dp + d < recursionLimit) (h8 : un + 10 * d < cLine) (h9 : ∀ (t : Tok) (h' : Heap) (tk' : Nat), Fr h₀ L h' m → News h₀ L h' news → Q (R t) { s with heap := h', toks := tk' }) :
      wpAny (model (PySem.Challenge.rw_wj0041_01).prog w) (ktrTop dp un gd cn cs L a ccd cl outer) (call (.ref f) vs kw) Q E s :=
  C _ _ _ _ _ _ _ _ _ _ _ _ _ _ _ _ _ h1 h2 h3 h4 h5 h6 h7 h8 h9
end Mine
namespace Mine
/-- what a call of a def asks of the place -/
structure Rdy (w : World) (mean : ExcName → Option Value) (mg mb : Str → Option Value) (d : Nat) (news : List (Addr × Obj)) (dp un : Nat) (cs : Scope) (outer : List Env) (A₀ : Around) (base h₀ : Heap) (L : Addr) (m : Str → Option Value) (s : Shared) : Prop where
  h1 : Below A₀ base outer h₀
  h2 : Fr h₀ L s.heap m
  h3 : (Mine.hd.heap_39 w.params).In h₀
  h4 : News h₀ L s.heap news
  h5 : Top Mine.hd.view_39 (looseW Mine.hd.view_39 [Str.ofString "_twin_re_1", Str.ofString "_twin_re_2", Str.ofString "_name_disallowed_re", Str.ofString "_value_disallowed_re"]) mean mg mb h₀
  h6 : cs.kind = .function
  h7 : dp + d < recursionLimit
  h8 : un + 10 * d < cLine
theorem Clm.use1 {w : World} {mean : ExcName → Option Value} {mg mb : Str → Option Value} {d : Nat} {f : Addr} {news : List (Addr × Obj)} {vs : List Value} {R : Tok → Value} (C : Clm w mean mg mb d f news vs R)
  {dp un : Nat} {gd : Option (List Code)} {cn : Str} {cs : Scope} {a : Addr} {ccd : Value} {cl : List (Str × Addr)} {outer : List Env} {A₀ : Around} {base h₀ : Heap} {L : Addr} {m : Str → Option Value} {s : Shared} {Q E : Value → Shared → Prop}
    (k : Rdy w mean mg mb d news dp un cs outer A₀ base h₀ L m s) (h9 : ∀ (t : Tok) (h' : Heap) (tk' : Nat), Fr h₀ L h' m → News h₀ L h' news → Q (R t) { s with heap := h', toks := tk' }) :
      wpAny (model (PySem.Challenge.rw_wj0041_01).prog w) (ktrTop dp un gd cn cs L a ccd cl outer) (call (.ref f) vs) Q E s :=
  Clm.use C k.h1 k.h2 k.h3 k.h4 k.h5 k.h6 k.h7 k.h8 h9
theorem ClmK.use1 {w : World} {mean : ExcName → Option Value} {mg mb : Str → Option Value} {d : Nat} {f : Addr} {news : List (Addr × Obj)} {vs : List Value} {kw : List (Str × Value)} {R : Tok → Value} (C : ClmK w mean mg mb d f news vs kw R)
  {dp un : Nat} {gd : Option (List Code)} {cn : Str} {cs : Scope} {a : Addr} {ccd : Value} {cl : List (Str × Addr)} {outer : List Env} {A₀ : Around} {base h₀ : Heap} {L : Addr} {m : Str → Option Value} {s : Shared} {Q E : Value → Shared → Prop}
    (k : Rdy w mean mg mb d news dp un cs outer A₀ base h₀ L m s) (h9 : ∀ (t : Tok) (h' : Heap) (tk' : Nat), Fr h₀ L h' m → News h₀ L h' news → Q (R t) { s with heap := h', toks := tk' }) :
      wpAny (model (PySem.Challenge.rw_wj0041_01).prog w) (ktrTop dp un gd cn cs L a ccd cl outer) (call (.ref f) vs kw) Q E s :=
  ClmK.use C k.h1 k.h2 k.h3 k.h4 k.h5 k.h6 k.h7 k.h8 h9
end Mine
open PySem.Spec
namespace Mine
section
variable {σ : Type} {prog : Program} {w : World} {A : Around} {E : Value → Shared → Prop} {Q : Flow → Shared → Prop} {s : Shared} {env : Env} {h₀ : Heap} {L : Addr}
theorem ps_fr {h : Heap} {ps : List (Str × Value)} {m₁ : Str → Option Value} (h1 : ∀ p ∈ ps, m₁ p.1 = some p.2) (F : Fr h₀ L h m₁) : Fr h₀ L h (kstB m₁ ps) := by
  have e : kstB m₁ ps = m₁ := funext fun z => kstB_eq h1 fun _ => rfl
  rw [e]; exact F
/-- a while: what its turn has to show -/
noncomputable def WEnd (h₀ : Heap) (L : Addr) (Led : σ → List (Addr × Obj)) (ps : σ → List (Str × Value)) (P : σ → Prop) (μ : σ → Nat) (c : σ) (s : Shared) (Q : Flow → Shared → Prop) (f : Flow) (s₂ : Shared) : Prop :=
  match f with
  | .ret v => Q (.ret v) s₂
  | .brk => Q .next s₂
  | _ => ∃ (c' : σ) (h' : Heap) (tk : Nat) (m' : Str → Option Value) (news' : List (Addr × Obj)), s₂ = { s with heap := h', toks := tk } ∧ Fr h₀ L h' m' ∧ News h₀ L h' news' ∧ (∀ p ∈ Led c', p ∈ news') ∧ (∀ p ∈ ps c', m' p.1 = some p.2) ∧ P c' ∧ μ c' < μ c
theorem WEnd.intro {Led : σ → List (Addr × Obj)} {ps : σ → List (Str × Value)} {P : σ → Prop} {μ : σ → Nat} {c : σ} {h' : Heap} {tk : Nat} {m' : Str → Option Value} {news' : List (Addr × Obj)} (c' : σ)
    (F : Fr h₀ L h' m') (N : News h₀ L h' news') (hn : ∀ p ∈ Led c', p ∈ news') (hk : ∀ p ∈ ps c', m' p.1 = some p.2) (hp : P c') (hm : μ c' < μ c) :
    WEnd h₀ L Led ps P μ c s Q .next { s with heap := h', toks := tk } := ⟨c', h', tk, m', news', rfl, F, N, hn, hk, hp, hm⟩
theorem while_ {test : Expr} {body : List Stmt} {pos : Pos} {m₀ : Str → Option Value} (Led : σ → List (Addr × Obj)) (ps : σ → List (Str × Value)) (P : σ → Prop) (μ : σ → Nat) (c₀ : σ)
    (F : Fr h₀ L s.heap m₀) (N : News h₀ L s.heap (Led c₀)) (hk : ∀ p ∈ ps c₀, m₀ p.1 = some p.2) (hp : P c₀)
    (turn : ∀ (c : σ) (u : Str → Option Value) h tk, P c → Fr h₀ L h (kstB u (ps c)) → News h₀ L h (Led c) →
      wpAny (model prog w) A (isTrue test env (eval test env)) (fun b s₂ =>
        if b = true then wpAny (model prog w) A (execs body env) (WEnd h₀ L Led ps P μ c s Q) E s₂ else Q .next s₂) E { s with heap := h, toks := tk })
    (hE : PassesOwn (model prog w) A env E := by passes_own) :
    wpAny (model prog w) A (exec (.While test body [] pos) env) Q E s := by
  refine While_inv2 (fun n m nx => ∃ c : σ, nx = Led c ∧ μ c = n ∧ (∀ p ∈ ps c, m p.1 = some p.2) ∧ P c) F N ⟨c₀, rfl, rfl, hk, hp⟩ ?_ hE
  rintro n m₁ nx h tk F₁ N₁ ⟨c, rfl, rfl, h1, hp'⟩
  refine wpAny_mono (turn c m₁ h tk hp' (ps_fr h1 F₁) N₁) (fun b s₂ p => ?_) fun _ _ x => x
  cases b with
  | false => simpa using p
  | true =>
    simp only [if_true] at p ⊢
    refine wpAny_mono p (fun f s₃ q => ?_) fun _ _ x => x
    cases f with
    | ret v => exact q
    | brk => exact q
    | next =>
      obtain ⟨c', h', tk', m', news', rfl, F', N', hn, hk9, hp9, hm9⟩ := q
      exact ⟨h', tk', m', Led c', μ c', rfl, F', fun p hp => N' p (hn p hp), hm9, c', rfl, rfl, hk9, hp9⟩
    | cont =>
      obtain ⟨c', h', tk', m', news', rfl, F', N', hn, hk9, hp9, hm9⟩ := q
      exact ⟨h', tk', m', Led c', μ c', rfl, F', fun p hp => N' p (hn p hp), hm9, c', rfl, rfl, hk9, hp9⟩
/-- a for: what its turn has to show -/
noncomputable def TEnd (h₀ : Heap) (L : Addr) (Led : σ → List (Addr × Obj)) (ps : σ → List (Str × Value)) (Nx : σ → Prop) (its : List (Addr × Obj)) (s : Shared) (Q : Flow → Shared → Prop) (f : Flow) (s₂ : Shared) : Prop :=
  match f with
  | .ret v => Q (.ret v) s₂
  | .brk => Q .next s₂
  | _ => ∃ (c' : σ) (h' : Heap) (tk : Nat) (m' : Str → Option Value) (news' : List (Addr × Obj)), s₂ = { s with heap := h', toks := tk } ∧ Fr h₀ L h' m' ∧ News h₀ L h' news' ∧ (∀ p ∈ Led c', p ∈ news') ∧ (∀ p ∈ its, p ∈ news') ∧ (∀ p ∈ Led c', ∀ q ∈ its, p.1 ≠ q.1) ∧ (∀ p ∈ ps c', m' p.1 = some p.2) ∧ Nx c'
theorem TEnd.intro {Led : σ → List (Addr × Obj)} {ps : σ → List (Str × Value)} {Nx : σ → Prop} {its : List (Addr × Obj)} {h' : Heap} {tk : Nat} {m' : Str → Option Value} {news' : List (Addr × Obj)} (c' : σ)
    (F : Fr h₀ L h' m') (N : News h₀ L h' news') (hn : ∀ p ∈ Led c', p ∈ news') (hi : ∀ p ∈ its, p ∈ news') (hd : ∀ p ∈ Led c', ∀ q ∈ its, p.1 ≠ q.1) (hk : ∀ p ∈ ps c', m' p.1 = some p.2) (hp : Nx c') :
    TEnd h₀ L Led ps Nx its s Q .next { s with heap := h', toks := tk } := ⟨c', h', tk, m', news', rfl, F, N, hn, hi, hd, hk, hp⟩
theorem turns_core {target : Expr} {body : List Stmt} {I : Addr} {fp wr : List Addr} {n : Nat} {P Md : Nat → Value → Heap → Prop} {St : Nat → Heap → Prop} {ws : List (Addr × String)} {m₀ : Str → Option Value} {hp : Heap} {tk0 : Nat}
    (Led : σ → List (Addr × Obj)) (ps : σ → List (Str × Value)) (Inv : Nat → σ → Prop) (c₀ : σ)
    (W : KTurns prog w A target I fp wr n P Md St)
    (hobj : ∀ i h, St i h → ∃ its, Objs ws its ∧ ∀ p ∈ its, h.get? p.1 = some p.2)
    (hws : ∀ b ∈ ws.map (·.1), b ∈ fp ∧ h₀.get? b = none) (hwr : ∀ b ∈ wr, b ∈ ws.map (·.1))
    (hfp : ∀ b ∈ fp, b ∈ ws.map (·.1) ∨ ∃ o, ∀ c, (b, o) ∈ Led c) (hL : env.locals ∉ fp) (hnw : ∀ p ∈ Led c₀, p.1 ∉ wr) (hst : St 0 hp)
    (F : Fr h₀ env.locals hp m₀) (N : News h₀ env.locals hp (Led c₀)) (hk : ∀ p ∈ ps c₀, m₀ p.1 = some p.2) (h0 : Inv 0 c₀)
    (turn : ∀ (i : Nat) v (c : σ) (u : Str → Option Value) h tk its, i < n → P i v h → Objs ws its → Inv i c → Fr h₀ env.locals h (kstB u (ps c)) → News h₀ env.locals h (its ++ Led c) →
      wpAny (model prog w) A (assign target env v) (fun _ s₃ => wpAny (model prog w) A (execs body env) (TEnd h₀ env.locals Led ps (Inv (i + 1)) its { s with heap := h, toks := tk } Q) E s₃) E { s with heap := h, toks := tk })
    (done : ∀ (c : σ) (u : Str → Option Value) h tk, Inv n c → Fr h₀ env.locals h (kstB u (ps c)) → News h₀ env.locals h (Led c) → Q .next { s with heap := h, toks := tk }) :
    TurnsAt prog w A h₀ env target body Q E (.ref I) { s with heap := hp, toks := tk0 } := by
  let J : Nat → (Str → Option Value) → List (Addr × Obj) → Prop := fun i m₁ news₁ => ∃ c, news₁ = Led c ∧ Inv i c ∧ ∀ p ∈ ps c, m₁ p.1 = some p.2
  refine ⟨I, fp, wr, n, P, Md, St, m₀, Led c₀, J, rfl, W, hL, fun b hb => (hws b (hwr b hb)).2, hnw, hst, F, N, ⟨c₀, rfl, h0, hk⟩, ?_, ?_⟩
  · rintro i v m₁ news₁ h₁ tk₁ own hin hPi ⟨c, rfl, hJ, hk₁⟩ hoff hown hget hall hst₁ F₁ N₁
    obtain ⟨its, hits, hval⟩ := hobj (i + 1) h₁ hst₁
    have hmap := hits.map
    have N₂ : News h₀ env.locals h₁ (its ++ Led c) := fun p hp => by
      rcases List.mem_append.mp hp with hp | hp
      · have h1 : p.1 ∈ ws.map (·.1) := by rw [← hmap]; exact List.mem_map.mpr ⟨p, hp, rfl⟩
        exact N₁ _ (List.mem_append_left _ (hall p.1 (hws _ h1).1 (hws _ h1).2 p.2 (hval p hp)))
      · exact N₁ _ (List.mem_append_right _ hp)
    have fin : ∀ s₃, (∃ (c' : σ) (h' : Heap) (tk : Nat) (m' : Str → Option Value) (news' : List (Addr × Obj)), s₃ = { s with heap := h', toks := tk } ∧ Fr h₀ env.locals h' m' ∧ News h₀ env.locals h' news' ∧ (∀ p ∈ Led c', p ∈ news') ∧ (∀ p ∈ its, p ∈ news') ∧ (∀ p ∈ Led c', ∀ q ∈ its, p.1 ≠ q.1) ∧ (∀ p ∈ ps c', m' p.1 = some p.2) ∧ Inv (i + 1) c') →
        LoopStepU h₀ env.locals wr own (J (i + 1)) { s with heap := h₁, toks := tk₁ } .next s₃ := by
      rintro s₃ ⟨c', h', tk, m', news', rfl, F', N', hn', hi', hd', hk', hJ'⟩
      refine ⟨rfl, h', tk, m', Led c', rfl, F', ?_, ?_, c', rfl, hJ', hk'⟩
      · rintro ⟨pa, po⟩ hp
        rcases List.mem_append.mp hp with hp | hp
        · have h2 : h₁.get? pa = some po := hget _ hp
          rcases hfp pa (hown _ hp) with h3 | ⟨o, h3⟩
          · have h4 : pa ∈ its.map (·.1) := by rw [hmap]; exact h3
            obtain ⟨⟨qa, qo⟩, hq, hqe⟩ := List.mem_map.mp h4
            have hqe' : qa = pa := hqe
            subst hqe'
            have h5 : h₁.get? qa = some qo := hval _ hq
            have h6 : qo = po := Option.some.inj (h5.symm.trans h2)
            subst h6
            exact N' _ (hi' _ hq)
          · have h4 : h₁.get? pa = some o := (N₁ _ (List.mem_append_right _ (h3 c))).1
            have h6 : o = po := Option.some.inj (h4.symm.trans h2)
            subst h6
            exact N' _ (hn' _ (h3 c'))
        · exact N' _ (hn' _ hp)
      · intro p hp hI
        have h4 : p.1 ∈ its.map (·.1) := by rw [hmap]; exact hwr _ hI
        obtain ⟨q, hq, hqe⟩ := List.mem_map.mp h4
        exact hd' p hp q hq hqe.symm
    refine wpAny_mono (turn i v c m₁ h₁ tk₁ its hin hPi hits hJ (ps_fr hk₁ F₁) N₂) (fun _ s₂ h₂ => wpAny_mono h₂ (fun f s₃ p => ?_) fun _ _ e => e) fun _ _ e => e
    cases f with
    | ret v => exact .ret p
    | brk => exact .brk p
    | next => exact .next (fin _ p)
    | cont => exact .cont (fin _ p)
  · rintro h' tk m' news' F' N' _ ⟨c, rfl, hJ, hk'⟩
    exact done c m' h' tk hJ (ps_fr hk' F') N'
theorem objs_one {a : Addr} {n : String} : ∀ {its : List (Addr × Obj)}, Objs [(a, n)] its → ∃ it, its = [(a, it)] ∧ it.cls = .type n
  | [], h => h.elim
  | [(b, o)], h => ⟨o, by rw [show b = a from h.1.1], h.1.2⟩
  | _ :: _ :: _, h => h.2.elim
/-- a list of the ledger, whatever its items and the target -/
theorem list_turns {target : Expr} {body : List Stmt} {l : Addr} {vs : List Value} {nn : Nat} {m₀ : Str → Option Value}
    (Led : σ → List (Addr × Obj)) (ps : σ → List (Str × Value)) (Inv : Nat → σ → Prop) (c₀ : σ)
    (hh : A.handled = none) (hl : ∀ c, (l, listOf vs.toArray nn) ∈ Led c) (F : Fr h₀ env.locals s.heap m₀) (N : News h₀ env.locals s.heap (Led c₀)) (hk : ∀ p ∈ ps c₀, m₀ p.1 = some p.2) (h0 : Inv 0 c₀)
    (turn : ∀ (i : Nat) v (c : σ) (u : Str → Option Value) h tk I it, vs[i]? = some v → it.cls = .type "list_iterator" → (∀ p ∈ Led c₀, p.1 < I) → Inv i c → Fr h₀ env.locals h (kstB u (ps c)) → News h₀ env.locals h ((I, it) :: Led c) →
      wpAny (model prog w) A (assign target env v) (fun _ s₃ => wpAny (model prog w) A (execs body env) (TEnd h₀ env.locals Led ps (Inv (i + 1)) [(I, it)] { s with heap := h, toks := tk } Q) E s₃) E { s with heap := h, toks := tk })
    (done : ∀ (c : σ) (u : Str → Option Value) h tk, Inv vs.length c → Fr h₀ env.locals h (kstB u (ps c)) → News h₀ env.locals h (Led c) → Q .next { s with heap := h, toks := tk }) :
    wpAny (model prog w) A (pyIter (.ref l)) (fun it s₂ => TurnsAt prog w A h₀ env target body Q E it s₂) E s := by
  have hax := N _ (hl c₀)
  have hls : s.heap.IsList l vs.toArray := ⟨_, hax.1, rfl, nn, rfl⟩
  have hlt : l < s.heap.objs.size := Heap.lt_size hax.1
  have hne : l ≠ s.heap.objs.size := Nat.ne_of_lt hlt
  refine wpAny_pyIter_list hls ?_
  refine turns_core (ws := [(s.heap.objs.size, "list_iterator")]) (tk0 := s.toks) Led ps Inv c₀ (KTurns.ofWalks (Walks.list hh s.heap.objs.size l hne vs.toArray) fun i v s Q E st q => letGo_listiter st.1 q) (fun i h st => ?_) (fun b hb => ?_) (fun b hb => by simpa using hb) (fun b hb => ?_) ?_ (fun p hp hI => ?_) ?_ (F.push _) (fun p hp => ⟨Heap.get?_push_of_some _ (N p hp).1, (N p hp).2⟩) hk h0 ?_ ?_
  · obtain ⟨it, hit, hic, _⟩ := st.1
    exact ⟨[(s.heap.objs.size, it)], ⟨⟨rfl, hic⟩, trivial⟩, fun p hp => by rw [List.mem_singleton.mp hp]; exact hit⟩
  · have hb' : b = s.heap.objs.size := by simpa using hb
    rw [hb']
    exact ⟨List.mem_cons_self .., next_is_new F⟩
  · have hb' : b = s.heap.objs.size ∨ b = l := by simpa using hb
    rcases hb' with e | e
    · exact .inl (by simp [e])
    · exact .inr ⟨listOf vs.toArray nn, fun c => e ▸ hl c⟩
  · intro hI
    rcases List.mem_cons.mp hI with e | hI
    · exact absurd F.ns.lt (e ▸ Nat.lt_irrefl _)
    · exact hax.2.1 (List.mem_singleton.mp hI).symm
  · exact absurd (Heap.lt_size (N p hp).1) ((List.mem_singleton.mp hI) ▸ Nat.lt_irrefl _)
  · exact ⟨⟨_, Heap.get?_push_size _ rfl, rfl, rfl⟩, hls.at fun o e => Heap.get?_push_of_some _ e⟩
  · intro i v c u h tk its hi hP hits hI F₁ N₁
    obtain ⟨it, rfl, hc⟩ := objs_one hits
    refine turn i v c u h tk s.heap.objs.size it ?_ hc (fun p hp => ?_) hI F₁ N₁
    · have hp' : vs.toArray[i]? = some v := hP
      simpa using hp'
    · exact Heap.lt_size (N p hp).1
  · intro c u h tk hI F₁ N₁
    exact done c u h tk (by simpa using hI) F₁ N₁
theorem name_go {x : Str} {px : Pos} {it v : Value} {s' : Shared} {Q : Unit → Shared → Prop} {E : Value → Shared → Prop} (h : Q () s') : wpAny (model prog w) A (letOwnedTupleGo (.Name x px) it v) Q E s' := wpAny_pure h
/-- a text, sign by sign -/
theorem text_turns {x : Str} {px : Pos} {body : List Stmt} {xt : Str} {tx : Tok} {m₀ : Str → Option Value}
    (Led : σ → List (Addr × Obj)) (ps : σ → List (Str × Value)) (Inv : Nat → σ → Prop) (c₀ : σ)
    (hh : A.handled = none) (F : Fr h₀ env.locals s.heap m₀) (N : News h₀ env.locals s.heap (Led c₀)) (hk : ∀ p ∈ ps c₀, m₀ p.1 = some p.2) (h0 : Inv 0 c₀)
    (turn : ∀ (i : Nat) n t (c : σ) (u : Str → Option Value) h tk I it, xt.cps[i]? = some n → (∀ p ∈ Led c₀, p.1 < I) → Inv i c → Fr h₀ env.locals h (kstB u (ps c)) → News h₀ env.locals h ((I, it) :: Led c) →
      wpAny (model prog w) A (assign (.Name x px) env (.str ⟨#[n]⟩ t)) (fun _ s₃ => wpAny (model prog w) A (execs body env) (TEnd h₀ env.locals Led ps (Inv (i + 1)) [(I, it)] { s with heap := h, toks := tk } Q) E s₃) E { s with heap := h, toks := tk })
    (done : ∀ (c : σ) (u : Str → Option Value) h tk, Inv xt.cps.size c → Fr h₀ env.locals h (kstB u (ps c)) → News h₀ env.locals h (Led c) → Q .next { s with heap := h, toks := tk }) :
    wpAny (model prog w) A (pyIter (.str xt tx)) (fun it s₂ => TurnsAt prog w A h₀ env (.Name x px) body Q E it s₂) E s := by
  have core : ∀ (ty : String) (o : Obj), o.isFreed = false → (s.heap.push o).IsStrIter s.heap.objs.size ty xt tx 0 → Walks prog w A s.heap.objs.size [s.heap.objs.size] [s.heap.objs.size] xt.cps.size (SignAt xt) (fun i h => h.IsStrIter s.heap.objs.size ty xt tx i) →
      TurnsAt prog w A h₀ env (.Name x px) body Q E (.ref s.heap.objs.size) { s with heap := s.heap.push o } := by
    intro ty o hof hst W
    refine turns_core (ws := [(s.heap.objs.size, ty)]) (tk0 := s.toks) Led ps Inv c₀ (KTurns.ofWalks W fun i v s Q E st q => name_go q) (fun i h st => ?_) (fun b hb => ?_) (fun b hb => by simpa using hb) (fun b hb => .inl (by simpa using hb)) ?_ (fun p hp hI => ?_) ?_ (F.push _) (fun p hp => ⟨Heap.get?_push_of_some _ (N p hp).1, (N p hp).2⟩) hk h0 ?_ ?_
    · obtain ⟨it, hit, hic, _⟩ := st
      exact ⟨[(s.heap.objs.size, it)], ⟨⟨rfl, hic⟩, trivial⟩, fun p hp => by rw [List.mem_singleton.mp hp]; exact hit⟩
    · have hb' : b = s.heap.objs.size := by simpa using hb
      rw [hb']
      exact ⟨List.mem_cons_self .., next_is_new F⟩
    · intro hI
      exact absurd F.ns.lt ((List.mem_singleton.mp hI) ▸ Nat.lt_irrefl _)
    · exact absurd (Heap.lt_size (N p hp).1) ((List.mem_singleton.mp hI) ▸ Nat.lt_irrefl _)
    · exact hst
    · intro i v c u h tk its hi hP hits hI F₁ N₁
      obtain ⟨it, rfl, hc⟩ := objs_one hits
      obtain ⟨n, t, hn, rfl⟩ := hP
      exact turn i n t c u h tk s.heap.objs.size it hn (fun p hp => Heap.lt_size (N p hp).1) hI F₁ N₁
    · intro c u h tk hI F₁ N₁
      exact done c u h tk hI F₁ N₁
  cases ha : xt.cps.all (· < 128)
  · exact wpAny_pyIter_wide ha (core "str_iterator" _ rfl ⟨_, Heap.get?_push_size _ rfl, rfl, rfl⟩ (Walks.strWide hh _ xt tx))
  · exact wpAny_pyIter_ascii ha (core "str_ascii_iterator" _ rfl ⟨_, Heap.get?_push_size _ rfl, rfl, rfl⟩ (Walks.strAscii hh _ xt tx))
end
end Mine
namespace Mine
theorem xor_add_and (a : Nat) : ∀ b : Nat, (a ^^^ b) + 2 * (a &&& b) = a + b := by
  induction a using Nat.strongRecOn with
  | ind a ih =>
    intro b
    by_cases ha : a = 0
    · subst ha; simp
    · have h := ih (a / 2) (by omega) (b / 2)
      have e1 : (a ^^^ b) / 2 = a / 2 ^^^ b / 2 := Nat.xor_div_two
      have e2 : (a &&& b) / 2 = a / 2 &&& b / 2 := Nat.and_div_two
      have e3 : (a ^^^ b) % 2 = (a + b) % 2 := by
        have h1 := Nat.xor_mod_two_pow (a := a) (b := b) (n := 1)
        simp only [Nat.pow_one] at h1
        rw [h1]
        rcases Nat.mod_two_eq_zero_or_one a with h | h <;> rcases Nat.mod_two_eq_zero_or_one b with h' | h' <;> rw [h, h', Nat.add_mod, h, h'] <;> rfl
      have e4 : (a &&& b) % 2 = (a % 2) * (b % 2) := by
        have h1 := Nat.and_mod_two_pow (a := a) (b := b) (n := 1)
        simp only [Nat.pow_one] at h1
        rw [h1]
        rcases Nat.mod_two_eq_zero_or_one a with h | h <;> rcases Nat.mod_two_eq_zero_or_one b with h' | h' <;> rw [h, h'] <;> rfl
      rw [← e1, ← e2] at h
      rcases Nat.mod_two_eq_zero_or_one a with q | q <;> rcases Nat.mod_two_eq_zero_or_one b with q' | q' <;> rw [q, q'] at e4 <;> omega
theorem bitXor_nat (a b : Nat) : Builtin.bitXor (a : Int) (b : Int) = ((a ^^^ b : Nat) : Int) := by
  rw [bitXor_and, bitAnd_pp (by omega) (by omega)]
  have := xor_add_and a b
  simp only [Int.toNat_natCast]
  omega
theorem fdiv_nat (p k : Nat) : (p : Int).fdiv (k : Int) = ((p / k : Nat) : Int) := by
  rw [Int.fdiv_eq_ediv_of_nonneg _ (by omega)]; rfl
theorem fmod_nat (p k : Nat) : (p : Int).fmod (k : Int) = ((p % k : Nat) : Int) := by
  rw [Int.fmod_eq_emod_of_nonneg _ (by omega)]; rfl
/-- the product without carrying, as the text reckons it -/
noncomputable def pm (a b t : Nat) : Nat := if _h : a = 0 then t else pm (a/2) (2*b) (if a % 2 = 1 then t ^^^ b else t)
termination_by a
theorem pm_zero (b t : Nat) : pm 0 b t = t := by rw [pm]; simp
theorem pm_step {a : Nat} (b t : Nat) (h : 0 < a) : pm a b t = pm (a/2) (2*b) (if a % 2 = 1 then t ^^^ b else t) := by
  rw [pm]; rw [dif_neg (by omega)]
theorem pm_turn1 {p q r B : Nat} {T : Nat} (hp : 0 < p) (h1 : p * q < B) (h2 : pm p q r = T) (hm : (p : Int).fmod 2 = 1) :
    ∃ p' q' r' : Nat, ((p : Int).fdiv 2, 2 * (q : Int), Builtin.bitXor (r : Int) (q : Int)) = ((p' : Int), (q' : Int), (r' : Int)) ∧ p' * q' < B ∧ pm p' q' r' = T := by
  have hm' : p % 2 = 1 := by have : (p : Int).fmod 2 = ((p % 2 : Nat) : Int) := fmod_nat p 2; omega
  refine ⟨p / 2, 2 * q, r ^^^ q, ?_, ?_, ?_⟩
  · rw [bitXor_nat]; rw [show (p : Int).fdiv 2 = ((p / 2 : Nat) : Int) from fdiv_nat p 2]; simp
  · have : p / 2 * (2 * q) ≤ p * q := by
      rw [← Nat.mul_assoc]; exact Nat.mul_le_mul_right q (by omega)
    omega
  · rw [← h2, pm_step q r hp, if_pos hm']
theorem pm_turn0 {p q r B : Nat} {T : Nat} (hp : 0 < p) (h1 : p * q < B) (h2 : pm p q r = T) (hm : (p : Int).fmod 2 ≠ 1) :
    ∃ p' q' r' : Nat, ((p : Int).fdiv 2, 2 * (q : Int), (r : Int)) = ((p' : Int), (q' : Int), (r' : Int)) ∧ p' * q' < B ∧ pm p' q' r' = T := by
  have hm' : ¬ p % 2 = 1 := by have : (p : Int).fmod 2 = ((p % 2 : Nat) : Int) := fmod_nat p 2; omega
  refine ⟨p / 2, 2 * q, r, ?_, ?_, ?_⟩
  · rw [show (p : Int).fdiv 2 = ((p / 2 : Nat) : Int) from fdiv_nat p 2]; simp
  · have : p / 2 * (2 * q) ≤ p * q := by
      rw [← Nat.mul_assoc]; exact Nat.mul_le_mul_right q (by omega)
    omega
  · rw [← h2, pm_step q r hp, if_neg hm']
theorem pm_lt (k : Nat) : ∀ {a b t m : Nat}, a < 2 ^ k → b < 2 ^ m → t < 2 ^ (k + m) → pm a b t < 2 ^ (k + m) := by
  induction k with
  | zero => intro a b t m ha hb ht; have : a = 0 := by simpa using ha
            subst this; rw [pm_zero]; exact ht
  | succ k ih =>
    intro a b t m ha hb ht
    by_cases h : a = 0
    · subst h; rw [pm_zero]; exact ht
    · rw [pm_step b t (by omega)]
      have e : k + 1 + m = k + (m + 1) := by omega
      rw [e] at ht ⊢
      refine ih (by rw [Nat.pow_succ] at ha; omega) (by rw [Nat.pow_succ]; omega) ?_
      split
      · refine Nat.xor_lt_two_pow ht (Nat.lt_of_lt_of_le hb (Nat.pow_le_pow_right (by omega) (by omega)))
      · exact ht
/-- the product of what comes of adding x to each -/
noncomputable def allp (x : Nat) (t : Nat) : List Nat → Nat
  | [] => t
  | v :: r => allp x (pm (x ^^^ v) t 0) r
theorem allp_snoc (x t : Nat) (l : List Nat) (v : Nat) : allp x t (l ++ [v]) = pm (x ^^^ v) (allp x t l) 0 := by
  induction l generalizing t with
  | nil => rfl
  | cons a r ih => exact ih _
theorem allp_lt {x : Nat} (hx : x < 32) : ∀ {l : List Nat} {t m : Nat}, (∀ v ∈ l, v < 32) → t < 2 ^ m → allp x t l < 2 ^ (5 * l.length + m)
  | [], t, m, _, ht => by simpa [allp] using ht
  | v :: r, t, m, h, ht => by
    have hv : x ^^^ v < 2 ^ 5 := Nat.xor_lt_two_pow hx (h v (.head _))
    have h1 : pm (x ^^^ v) t 0 < 2 ^ (5 + m) := pm_lt 5 hv ht (Nat.two_pow_pos _)
    have := allp_lt hx (l := r) (fun u hu => h u (.tail _ hu)) h1
    have e : 5 * (v :: r).length + m = 5 * r.length + (5 + m) := by simp only [List.length_cons]; omega
    rw [e]; exact this
/-- the figures of a number by sixteens, as signs -/
noncomputable def apL (n : Nat) : List Nat := if _h : n = 0 then [] else apL (n / 16) ++ [65 + n % 16]
termination_by n
theorem apL_zero : apL 0 = [] := by rw [apL]; simp
theorem apL_step {n : Nat} (h : 0 < n) : apL n = apL (n / 16) ++ [65 + n % 16] := by rw [apL]; rw [dif_neg (by omega)]
/-- the same as bytes -/
noncomputable def apB (n : Nat) : Array UInt8 := ((apL n).map Nat.toUInt8).toArray
theorem apL_length (k : Nat) : ∀ {n : Nat}, n < 16 ^ k → (apL n).length ≤ k := by
  induction k with
  | zero => intro n h; have : n = 0 := by simpa using h
            subst this; rw [apL_zero]; exact Nat.le_refl _
  | succ k ih =>
    intro n h
    by_cases h0 : n = 0
    · subst h0; rw [apL_zero]; exact Nat.zero_le _
    · rw [apL_step (by omega), List.length_append]
      have := ih (n := n / 16) (by rw [Nat.pow_succ] at h; omega)
      simp only [List.length_cons, List.length_nil]
      omega
theorem apL_turn {p : Nat} {b : List Nat} {X : List Nat} (hp : 0 < p) (h : apL p ++ b = X) : apL (p / 16) ++ ((65 + p % 16) :: b) = X := by
  rw [← h, apL_step hp, List.append_assoc]; rfl
/-- the number that a word of letters tells -/
noncomputable def numL (l : List Nat) : Nat := l.foldl (fun k c => 16 * k + (c - 65)) 0
theorem numL_snoc (l : List Nat) (c : Nat) : numL (l ++ [c]) = 16 * numL l + (c - 65) := by simp [numL]
theorem numL_ltF : ∀ (l : List Nat) (k : Nat), (∀ c ∈ l, c < 81) → l.foldl (fun k c => 16 * k + (c - 65)) k < (k + 1) * 16 ^ l.length
  | [], k, _ => by simp
  | c :: r, k, h => by
    have h1 := numL_ltF r (16 * k + (c - 65)) fun d hd => h d (.tail _ hd)
    have h2 := h c (.head _)
    rw [List.foldl_cons, List.length_cons, Nat.pow_succ]
    refine Nat.lt_of_lt_of_le h1 ?_
    rw [Nat.mul_comm (16 ^ r.length) 16, ← Nat.mul_assoc]
    exact Nat.mul_le_mul_right _ (by omega)
theorem numL_lt (l : List Nat) (h : ∀ c ∈ l, c < 81) : numL l < 16 ^ l.length := by
  have := numL_ltF l 0 h
  simpa [numL] using this
/-- all signs of a text are letters A .. P -/
noncomputable def Ap (x : Str) : Prop := ∀ c ∈ x.cps.toList, 65 ≤ c ∧ c < 81
theorem apL_one {n : Nat} (h0 : 0 < n) (h : n < 16) : apL n = [65 + n] := by
  rw [apL_step h0, show n / 16 = 0 by omega, apL_zero, show n % 16 = n by omega]; rfl
theorem apL_two {n : Nat} (h0 : 16 ≤ n) (h : n < 256) : apL n = [65 + n / 16, 65 + n % 16] := by
  rw [apL_step (by omega), apL_one (by omega) (by omega)]; rfl
/-- the figures as a text -/
noncomputable def apS (n : Nat) : Str := ⟨(apL n).toArray⟩
theorem apL_ap : ∀ n : Nat, ∀ c ∈ apL n, 65 ≤ c ∧ c < 81 := by
  intro n
  induction n using Nat.strongRecOn with
  | ind n ih =>
    intro c hc
    by_cases h : n = 0
    · subst h; rw [apL_zero] at hc; cases hc
    · rw [apL_step (by omega), List.mem_append] at hc
      rcases hc with hc | hc
      · exact ih (n / 16) (by omega) c hc
      · rw [List.mem_singleton] at hc; omega
theorem numL_apL : ∀ n : Nat, numL (apL n) = n := by
  intro n
  induction n using Nat.strongRecOn with
  | ind n ih =>
    by_cases h : n = 0
    · subst h; rw [apL_zero]; rfl
    · rw [apL_step (by omega), numL_snoc, ih (n / 16) (by omega)]; omega
theorem apS_ap (n : Nat) : Ap (apS n) := fun c hc => apL_ap n c (by simpa [apS] using hc)
noncomputable def abef (k : Nat) : Nat := [65, 66, 69, 70].getD k 0
/-- the square of a word, letter by letter -/
noncomputable def sqL (l : List Nat) : List Nat := l.flatMap fun c => [abef ((c - 65) / 4), abef ((c - 65) % 4)]
theorem sqL_snoc (l : List Nat) (c : Nat) : sqL (l ++ [c]) = sqL l ++ [abef ((c - 65) / 4), abef ((c - 65) % 4)] := by simp [sqL]
theorem abef_ap : ∀ k, k < 4 → 65 ≤ abef k ∧ abef k < 81 := by decide
theorem sqL_ap {l : List Nat} (h : ∀ c ∈ l, 65 ≤ c ∧ c < 81) : ∀ c ∈ sqL l, 65 ≤ c ∧ c < 81 := by
  intro c hc
  obtain ⟨d, hd, hc⟩ := List.mem_flatMap.mp hc
  have := h d hd
  rcases List.mem_cons.mp hc with rfl | hc
  · exact abef_ap _ (by omega)
  · rw [List.mem_singleton.mp hc]; exact abef_ap _ (by omega)
theorem sqL_length (l : List Nat) : (sqL l).length = 2 * l.length := by
  induction l with
  | nil => rfl
  | cons a r ih => rw [show sqL (a :: r) = [abef ((a - 65) / 4), abef ((a - 65) % 4)] ++ sqL r from rfl, List.length_append, ih]; simp only [List.length_cons, List.length_nil]; omega
theorem off_one {I l : Addr} {it o : Obj} {rest : List (Addr × Obj)} (h : ∀ p ∈ (l, o) :: rest, p.1 < I) : ∀ p ∈ [(I, it)], p.1 ≠ l := fun p hp => by
  rw [List.mem_singleton.mp hp]; exact Nat.ne_of_gt (h (l, o) (.head _))
theorem off_rest {l : Addr} {news : List (Addr × Obj)} (h : ∀ p ∈ news, p.1 < l) : ∀ p ∈ news, p.1 ≠ l := fun p hp => Nat.ne_of_lt (h p hp)
theorem off_led {I l : Addr} {it o o' : Obj} {rest : List (Addr × Obj)} (h : ∀ p ∈ (l, o) :: rest, p.1 < I) : ∀ p ∈ (l, o') :: rest, ∀ q ∈ [(I, it)], p.1 ≠ q.1 := fun p hp q hq => by
  rw [List.mem_singleton.mp hq]
  rcases List.mem_cons.mp hp with rfl | hp
  · exact Nat.ne_of_lt (h (l, o) (.head _))
  · exact Nat.ne_of_lt (h p (.tail _ hp))
theorem off_same {I : Addr} {it : Obj} {rest : List (Addr × Obj)} (h : ∀ p ∈ rest, p.1 < I) : ∀ p ∈ rest, ∀ q ∈ [(I, it)], p.1 ≠ q.1 := fun p hp q hq => by
  rw [List.mem_singleton.mp hq]; exact Nat.ne_of_lt (h p hp)
theorem mem_one {p : Addr × Obj} {rest : List (Addr × Obj)} : ∀ q ∈ [p], q ∈ p :: rest := fun q hq => by rw [List.mem_singleton.mp hq]; exact .head _
theorem take_snoc {α : Type} {l : List α} {i : Nat} {x : α} (h : l[i]? = some x) : l.take (i + 1) = l.take i ++ [x] := by rw [List.take_add_one, h]; rfl
end Mine
namespace Mine
theorem xor_lc (a b c : Nat) : a ^^^ (b ^^^ c) = b ^^^ (a ^^^ c) := by rw [← Nat.xor_assoc, Nat.xor_comm a b, Nat.xor_assoc]
theorem pm_acc (a : Nat) : ∀ b t : Nat, pm a b t = t ^^^ pm a b 0 := by
  induction a using Nat.strongRecOn with
  | ind a ih =>
    intro b t
    by_cases h : a = 0
    · subst h; rw [pm_zero, pm_zero, Nat.xor_zero]
    · rw [pm_step b t (by omega), pm_step b 0 (by omega), ih (a / 2) (by omega), ih (a / 2) (by omega) _ (if a % 2 = 1 then 0 ^^^ b else 0)]
      split
      · rw [Nat.zero_xor, Nat.xor_assoc]
      · rw [Nat.zero_xor]
/-- the product without carrying -/
noncomputable def mul (a b : Nat) : Nat := pm a b 0
theorem pm_mul (a b t : Nat) : pm a b t = t ^^^ mul a b := pm_acc a b t
theorem mul_zero_left (b : Nat) : mul 0 b = 0 := pm_zero b 0
theorem mul_rec (a b : Nat) : mul a b = (if a % 2 = 1 then b else 0) ^^^ mul (a / 2) (2 * b) := by
  by_cases h : a = 0
  · subst h; simp [mul_zero_left]
  · show pm a b 0 = _
    rw [pm_step b 0 (by omega), pm_mul]
    split
    · rw [Nat.zero_xor]
    · rfl
theorem two_xor (a b : Nat) : 2 * (a ^^^ b) = 2 * a ^^^ 2 * b := by
  have h := Nat.shiftLeft_xor_distrib (a := a) (b := b) (i := 1)
  simp only [Nat.shiftLeft_succ, Nat.shiftLeft_zero] at h
  exact h
theorem mul_zero_right (a : Nat) : mul a 0 = 0 := by
  induction a using Nat.strongRecOn with
  | ind a ih =>
    by_cases h : a = 0
    · subst h; exact mul_zero_left 0
    · rw [mul_rec, Nat.mul_zero, ih (a / 2) (by omega)]; split <;> rfl
theorem mul_two_right (a : Nat) : ∀ b, mul a (2 * b) = 2 * mul a b := by
  induction a using Nat.strongRecOn with
  | ind a ih =>
    intro b
    by_cases h : a = 0
    · subst h; rw [mul_zero_left, mul_zero_left]
    · rw [mul_rec a (2 * b), mul_rec a b, ih (a / 2) (by omega), two_xor]
      split <;> rfl
theorem mul_xor_right (a : Nat) : ∀ b c, mul a (b ^^^ c) = mul a b ^^^ mul a c := by
  induction a using Nat.strongRecOn with
  | ind a ih =>
    intro b c
    by_cases h : a = 0
    · subst h; simp only [mul_zero_left]; rfl
    · rw [mul_rec a (b ^^^ c), mul_rec a b, mul_rec a c, two_xor, ih (a / 2) (by omega)]
      split
      · simp only [Nat.xor_assoc, xor_lc]
      · simp only [Nat.zero_xor]
theorem xor_half (a b : Nat) : (a ^^^ b) / 2 = a / 2 ^^^ b / 2 := Nat.xor_div_two
theorem xor_odd (a b : Nat) : (a ^^^ b) % 2 = (a + b) % 2 := by
  have h := xor_add_and a b
  omega
theorem mul_xor_left (a : Nat) : ∀ a' b, mul (a ^^^ a') b = mul a b ^^^ mul a' b := by
  induction a using Nat.strongRecOn with
  | ind a ih =>
    intro a' b
    by_cases h : a = 0
    · subst h; rw [Nat.zero_xor, mul_zero_left, Nat.zero_xor]
    · rw [mul_rec (a ^^^ a'), mul_rec a, mul_rec a', xor_half, ih (a / 2) (by omega), xor_odd]
      rcases Nat.mod_two_eq_zero_or_one a with q | q <;> rcases Nat.mod_two_eq_zero_or_one a' with q' | q' <;> rw [q, q', Nat.add_mod, q, q']
      · simp
      · simp only [Nat.reduceAdd, Nat.reduceMod, if_true, Nat.zero_ne_one, if_false, Nat.zero_xor, xor_lc]
      · simp only [Nat.reduceAdd, Nat.reduceMod, if_true, Nat.zero_ne_one, if_false, Nat.zero_xor, Nat.xor_assoc]
      · simp only [Nat.reduceAdd, Nat.reduceMod, if_true, Nat.zero_ne_one, if_false, Nat.zero_xor]
        rw [show (b ^^^ mul (a / 2) (2 * b)) ^^^ (b ^^^ mul (a' / 2) (2 * b)) = (b ^^^ b) ^^^ (mul (a / 2) (2 * b) ^^^ mul (a' / 2) (2 * b)) by simp only [Nat.xor_assoc, xor_lc], Nat.xor_self, Nat.zero_xor]
theorem half_xor (a : Nat) : a % 2 ^^^ 2 * (a / 2) = a := by
  have h := xor_add_and (a % 2) (2 * (a / 2))
  have h2 : a % 2 &&& 2 * (a / 2) = 0 := by
    have e1 : (a % 2 &&& 2 * (a / 2)) / 2 = a % 2 / 2 &&& 2 * (a / 2) / 2 := Nat.and_div_two
    have e4 : (a % 2 &&& 2 * (a / 2)) % 2 = (a % 2 % 2) * (2 * (a / 2) % 2) := by
      have h1 := Nat.and_mod_two_pow (a := a % 2) (b := 2 * (a / 2)) (n := 1)
      simp only [Nat.pow_one] at h1
      rw [h1, Nat.mul_mod_right, Nat.and_zero, Nat.mul_zero]
    rw [show a % 2 / 2 = 0 by omega, Nat.zero_and] at e1
    rw [Nat.mul_mod_right, Nat.mul_zero] at e4
    omega
  omega
theorem mul_one_left (b : Nat) : mul 1 b = b := by
  rw [mul_rec, show 1 / 2 = 0 from rfl, mul_zero_left, Nat.xor_zero]; rfl
theorem mul_one_right (a : Nat) : mul a 1 = a := by
  induction a using Nat.strongRecOn with
  | ind a ih =>
    by_cases h : a = 0
    · subst h; exact mul_zero_left 1
    · rw [mul_rec, mul_two_right, ih (a / 2) (by omega)]
      have := half_xor a
      rcases Nat.mod_two_eq_zero_or_one a with q | q <;> rw [q] at this ⊢ <;> simpa using this
theorem mul_comm' (a : Nat) : ∀ b, mul a b = mul b a := by
  induction a using Nat.strongRecOn with
  | ind a ih =>
    intro b
    by_cases h : a = 0
    · subst h; rw [mul_zero_left, mul_zero_right]
    · rw [mul_rec, mul_two_right, ih (a / 2) (by omega), ← mul_two_right]
      conv => rhs; rw [← half_xor a]
      rw [mul_xor_right]
      rcases Nat.mod_two_eq_zero_or_one a with q | q <;> rw [q]
      · simp [mul_zero_right]
      · simp [mul_one_right]
theorem mul_two_left (a b : Nat) : mul (2 * a) b = 2 * mul a b := by rw [mul_comm', mul_two_right, mul_comm']
theorem mul_assoc' (a : Nat) : ∀ b c, mul (mul a b) c = mul a (mul b c) := by
  induction a using Nat.strongRecOn with
  | ind a ih =>
    intro b c
    by_cases h : a = 0
    · subst h; simp only [mul_zero_left]
    · rw [mul_rec a b, mul_rec a (mul b c), mul_xor_left, ih (a / 2) (by omega), mul_two_left]
      split
      · rfl
      · rw [mul_zero_left]
theorem mul_left_comm' (a b c : Nat) : mul a (mul b c) = mul b (mul a c) := by rw [← mul_assoc', mul_comm' a b, mul_assoc']
theorem xor_cancel (a b : Nat) : a ^^^ (a ^^^ b) = b := by rw [← Nat.xor_assoc, Nat.xor_self, Nat.zero_xor]
theorem allp_mul (x : Nat) : ∀ (l : List Nat) (t : Nat), allp x t l = mul (allp x 1 l) t
  | [], t => (mul_one_left t).symm
  | v :: r, t => by
    show allp x (mul (x ^^^ v) t) r = mul (allp x (mul (x ^^^ v) 1) r) t
    rw [allp_mul x r (mul (x ^^^ v) t), allp_mul x r (mul (x ^^^ v) 1), mul_one_right, mul_assoc']
theorem allp_app (x : Nat) : ∀ (l l2 : List Nat) (t : Nat), allp x t (l ++ l2) = allp x (allp x t l) l2
  | [], _, _ => rfl
  | _ :: r, l2, _ => allp_app x r l2 _
theorem allp_map (x y : Nat) : ∀ (l : List Nat) (t : Nat), allp x t (l.map (y ^^^ ·)) = allp (x ^^^ y) t l
  | [], _ => rfl
  | v :: r, t => by
    show allp x (pm (x ^^^ (y ^^^ v)) t 0) (r.map (y ^^^ ·)) = allp (x ^^^ y) (pm ((x ^^^ y) ^^^ v) t 0) r
    rw [allp_map, Nat.xor_assoc]
/-- all sums: a new one is added to each -/
noncomputable def sumsTurn (S : List Nat) (x : Nat) : List Nat := if x ∈ S then S else S ++ S.map (x ^^^ ·)
noncomputable def sumsL (xs : List Nat) : List Nat := xs.foldl sumsTurn [0]
noncomputable def Ad (S : List Nat) : Prop := ∀ x y, allp (x ^^^ y) 1 S = allp x 1 S ^^^ allp y 1 S
theorem ad_zero : Ad [0] := fun x y => by
  show mul ((x ^^^ y) ^^^ 0) 1 = mul (x ^^^ 0) 1 ^^^ mul (y ^^^ 0) 1
  simp only [mul_one_right, Nat.xor_zero]
theorem ad_double {S : List Nat} (h : Ad S) (z : Nat) : Ad (S ++ S.map (z ^^^ ·)) := by
  have e : ∀ x, allp x 1 (S ++ S.map (z ^^^ ·)) = mul (allp x 1 S ^^^ allp z 1 S) (allp x 1 S) := fun x => by
    rw [allp_app, allp_map, allp_mul, h]
  intro x y
  rw [e, e, e, h]
  generalize allp x 1 S = a
  generalize allp y 1 S = b
  generalize allp z 1 S = c
  simp only [mul_xor_left, mul_xor_right, Nat.xor_assoc]
  simp only [mul_comm', Nat.xor_comm, xor_lc, xor_cancel]
theorem ad_sums : ∀ (xs S : List Nat), Ad S → Ad (xs.foldl sumsTurn S)
  | [], _, h => h
  | x :: r, S, h => by
    refine ad_sums r _ ?_
    unfold sumsTurn
    split
    · exact h
    · exact ad_double h x
/-- Ore -/
theorem ore (xs : List Nat) (s t : Nat) : allp (s ^^^ t) 1 (sumsL xs) = allp s 1 (sumsL xs) ^^^ allp t 1 (sumsL xs) := ad_sums xs [0] ad_zero s t
/-- the determinant -/
noncomputable def detF : Nat → List (List Nat) → Nat
  | 0, M => match M with
    | [] => 1
    | r :: _ => r.headD 0
  | k + 1, M => if M.length < 2 then (match M with
    | [] => 1
    | r :: _ => r.headD 0) else (List.range M.length).foldl (fun t i => t ^^^ mul ((M.getD i []).headD 0) (detF k ((M.take i ++ M.drop (i + 1)).map (·.drop 1)))) 0
noncomputable def powL (n x : Nat) : List Nat := [x, mul x x, mul (mul x x) (mul x x)].take n
noncomputable def spanL (ks : List Nat) : List Nat := ks.foldl (fun S x => S ++ S.map (x ^^^ ·)) [0]
theorem moore1 (a : Nat) : allp 0 1 (spanL [a]).tail = detF 3 ([a].map (powL 1)) := by
  show mul (0 ^^^ (a ^^^ 0)) 1 = a
  rw [mul_one_right, Nat.zero_xor, Nat.xor_zero]
theorem moore2 (a b : Nat) : allp 0 1 (spanL [a, b]).tail = detF 3 ([a, b].map (powL 2)) := by
  show mul (0 ^^^ (b ^^^ (a ^^^ 0))) (mul (0 ^^^ (b ^^^ 0)) (mul (0 ^^^ (a ^^^ 0)) 1)) = (0 ^^^ mul a (mul b b)) ^^^ mul b (mul a a)
  simp only [mul_one_right, Nat.zero_xor, Nat.xor_zero, mul_xor_left, mul_xor_right, mul_assoc', Nat.xor_assoc]
  simp only [mul_assoc', mul_comm', mul_left_comm', Nat.xor_assoc, Nat.xor_comm, xor_lc, xor_cancel]
theorem moore3 (a b c : Nat) : allp 0 1 (spanL [a, b, c]).tail = detF 3 ([a, b, c].map (powL 3)) := by
  show mul (0 ^^^ (c ^^^ (b ^^^ (a ^^^ 0)))) (mul (0 ^^^ (c ^^^ (b ^^^ 0))) (mul (0 ^^^ (c ^^^ (a ^^^ 0))) (mul (0 ^^^ (c ^^^ 0)) (mul (0 ^^^ (b ^^^ (a ^^^ 0))) (mul (0 ^^^ (b ^^^ 0)) (mul (0 ^^^ (a ^^^ 0)) 1)))))) =
    ((0 ^^^ mul a ((0 ^^^ mul (mul b b) (mul (mul c c) (mul c c))) ^^^ mul (mul c c) (mul (mul b b) (mul b b)))) ^^^
      mul b ((0 ^^^ mul (mul a a) (mul (mul c c) (mul c c))) ^^^ mul (mul c c) (mul (mul a a) (mul a a)))) ^^^
      mul c ((0 ^^^ mul (mul a a) (mul (mul b b) (mul b b))) ^^^ mul (mul b b) (mul (mul a a) (mul a a)))
  simp only [mul_one_right, Nat.zero_xor, Nat.xor_zero, mul_xor_left, mul_xor_right, mul_assoc', Nat.xor_assoc]
  simp only [mul_assoc', mul_comm', mul_left_comm', Nat.xor_assoc, Nat.xor_comm, xor_lc, xor_cancel]
/-- Moore -/
theorem moore {ks : List Nat} (h : ks.length ≤ 3) : allp 0 1 (spanL ks).tail = detF 3 (ks.map (powL ks.length)) := by
  match ks, h with
  | [], _ => rfl
  | [a], _ => exact moore1 a
  | [a, b], _ => exact moore2 a b
  | [a, b, c], _ => exact moore3 a b c
  | _ :: _ :: _ :: _ :: _, h => exact absurd h (by simp only [List.length_cons]; omega)
end Mine
namespace Mine
noncomputable def mulF : Nat → Nat → Nat → Nat
  | 0, _, _ => 0
  | k + 1, a, b => (if a % 2 = 1 then b else 0) ^^^ mulF k (a / 2) (2 * b)
theorem mulF_eq : ∀ (k a b : Nat), a < 2 ^ k → mulF k a b = mul a b
  | 0, a, b, h => by
    have : a = 0 := by simpa using h
    subst this; rw [mul_zero_left]; rfl
  | k + 1, a, b, h => by
    rw [mul_rec, ← mulF_eq k (a / 2) (2 * b) (by rw [Nat.pow_succ] at h; omega)]; rfl
theorem low_xor : ∀ (k X Y : Nat), Y < 2 ^ k → 2 ^ k * X ^^^ Y = 2 ^ k * X + Y
  | 0, X, Y, h => by
    have : Y = 0 := by simpa using h
    subst this; simp
  | k + 1, X, Y, h => by
    rw [Nat.pow_succ] at h
    have ih := low_xor k X (Y / 2) (by omega)
    have e : 2 ^ (k + 1) * X = 2 * (2 ^ k * X) := by rw [Nat.pow_succ, Nat.mul_comm (2 ^ k) 2, Nat.mul_assoc]
    rw [e]
    generalize 2 ^ k * X = Z at ih ⊢
    have h1 := xor_half (2 * Z) Y
    have h2 := xor_odd (2 * Z) Y
    rw [show 2 * Z / 2 = Z by omega, ih] at h1
    omega
theorem sq_low : ∀ r, r < 16 → 16 * (abef (r / 4) - 65) + (abef (r % 4) - 65) = mulF 4 r r := by decide +kernel
theorem mul_low : ∀ r, r < 16 → mulF 4 r r < 256 := by decide +kernel
theorem mul_sq16 (q r : Nat) (h : r < 16) : mul (16 * q + r) (16 * q + r) = 256 * mul q q + mul r r := by
  rw [← low_xor 4 q r h]
  have e : 2 ^ 4 * q = 2 * (2 * (2 * (2 * q))) := by omega
  rw [e, mul_xor_left, mul_xor_right, mul_xor_right]
  simp only [mul_two_left, mul_two_right]
  rw [mul_comm' r q, Nat.xor_assoc, xor_cancel, ← mulF_eq 4 r r h]
  have := low_xor 8 (mul q q) (mulF 4 r r) (mul_low r h)
  rw [show 2 ^ 8 * mul q q = 256 * mul q q by omega] at this
  rw [← this]
  congr 1
  omega
theorem numL_sqL : ∀ (n : Nat) (l : List Nat), l.length = n → (∀ c ∈ l, 65 ≤ c ∧ c < 81) → numL (sqL l) = mul (numL l) (numL l)
  | 0, l, hn, _ => by
    have : l = [] := List.length_eq_zero_iff.mp hn
    subst this; show 0 = mul 0 0; rw [mul_zero_left]
  | n + 1, l, hn, h => by
    have hne : l ≠ [] := by intro e; subst e; simp at hn
    have e := List.dropLast_concat_getLast hne
    generalize l.dropLast = d at e
    generalize l.getLast hne = c at e
    subst e
    have hc := h c (by simp)
    have ih := numL_sqL n d (by simpa using hn) (fun c hc => h c (by simp [hc]))
    rw [sqL_snoc, numL_snoc, mul_sq16 _ _ (by omega), ← ih, ← mulF_eq 4 (c - 65) (c - 65) (by omega), ← sq_low (c - 65) (by omega)]
    rw [show sqL d ++ [abef ((c - 65) / 4), abef ((c - 65) % 4)] = (sqL d ++ [abef ((c - 65) / 4)]) ++ [abef ((c - 65) % 4)] by simp, numL_snoc, numL_snoc]
    omega
theorem num_sq (y : Nat) : numL (sqL (apL y)) = mul y y := by rw [numL_sqL _ _ rfl (apL_ap y), numL_apL]
theorem num_sq2 (y : Nat) : numL (sqL (sqL (apL y))) = mul (mul y y) (mul y y) := by rw [numL_sqL _ _ rfl (sqL_ap (apL_ap y)), num_sq]
end Mine
namespace Mine
theorem runs_toks {M : Model} {Γ : PySem.Ctx} {p : Pos} {t : Sem Fin} {fs : List Frame} {s : Shared} {e : End} {s' : Shared} (h : Runs M Γ p t fs s e s') : s.toks ≤ s'.toks := by
  induction h with
  | done | raise | yield => exact Nat.le_refl _
  | again _ _ ih | rule _ ih | «at» _ ih | load _ _ ih | update _ _ ih | loadIfAlive _ ih | point _ ih | alloc _ ih | ask _ ih | choose _ _ ih | os _ ih | handled _ ih | genState _ _ ih | stack _ ih | thread _ ih | newGen _ ih | resumeJustStarted _ _ _ ih | resumeThrowFresh _ _ ih | resumeRunning _ _ ih | resumeFinished _ _ ih => exact ih
  | fresh _ ih => exact Nat.le_trans (Nat.le_succ _) ih
  | call _ _ i1 i2 => exact Nat.le_trans i1 i2
  | callSusp _ ih => exact ih
  | resumeFresh _ _ _ _ i1 i2 => exact Nat.le_trans i1 i2
  | resumeSuspended _ _ _ _ i1 i2 => exact Nat.le_trans i1 i2
  | segRet _ _ i1 i2 => exact Nat.le_trans i1 i2
  | segGen _ _ i1 i2 => exact Nat.le_trans i1 i2
  | segSuspOut _ _ ih => exact ih
  | segSuspGen _ _ _ _ i1 i2 => exact Nat.le_trans i1 i2
theorem wakes_toks {M : Model} {Γ : PySem.Ctx} {p : Pos} {g : Nat} {r : Resume} {s s' : Shared} {res : GenResult} (h : Wakes M Γ p g r s res s') : s.toks ≤ s'.toks := by
  unfold Wakes at h
  split at h
  · exact h.elim
  · split at h
    · obtain ⟨e₁, s₁, hr, _, _, rfl⟩ := h
      have := runs_toks hr
      exact this
    · obtain ⟨_, rfl⟩ := h; exact Nat.le_refl _
    · obtain ⟨_, rfl⟩ := h; exact Nat.le_refl _
  · obtain ⟨e₁, s₁, hr, _, _, rfl⟩ := h
    have := runs_toks hr
    exact this
  · obtain ⟨_, rfl⟩ := h; exact Nat.le_refl _
  · obtain ⟨_, rfl⟩ := h; exact Nat.le_refl _
theorem wp_toks {α : Type} {M : Model} {Γ : PySem.Ctx} {K : Nat} (t : Sem α) : ∀ {Q : α → Pos → Shared → Prop} {E : Value → Pos → Shared → Prop} {p : Pos} {s : Shared}, K ≤ s.toks →
    Sem.wp M Γ t Q E p s → Sem.wp M Γ t (fun a p' s' => K ≤ s'.toks ∧ Q a p' s') E p s := by
  induction t with
  | pure x => exact fun k h => ⟨k, h⟩
  | raise v => exact fun _ h => h
  | unsupported | finish | yield | fork | await | register => exact fun _ h => h
  | rule _ k ih | «at» _ k ih | alloc _ k ih | loadIfAlive _ k ih | point _ k ih | ask k ih | os _ _ k ih | handled _ k ih | newGen _ k ih | stack k ih | thread k ih => exact fun a h => ih _ (by exact a) h
  | fresh k ih => exact fun a h => ih _ (Nat.le_succ_of_le a) h
  | load a _ k ih | genState a k ih => exact fun a ⟨o, ho, h⟩ => ⟨o, ho, ih _ (by exact a) h⟩
  | update a _ f k ih | choose _ _ k ih => exact fun a ⟨ha, h⟩ => ⟨ha, ih _ (by exact a) h⟩
  | call c h g l k ih => exact fun a ⟨r, s', hr, h⟩ => ⟨r, s', hr, ih _ (Nat.le_trans a (runs_toks hr)) h⟩
  | resume g r l k ih => exact fun a ⟨res, s', hw, h⟩ => ⟨res, s', hw, ih _ (Nat.le_trans a (wakes_toks hw)) h⟩
/-- the tokens only grow -/
theorem wpAny_toks {α : Type} {M : Model} {A : Around} {t : Sem α} {Q : α → Shared → Prop} {E : Value → Shared → Prop} {s : Shared} (K : Nat) (hK : K ≤ s.toks)
    (h : wpAny M A t (fun a s' => K ≤ s'.toks → Q a s') E s) : wpAny M A t Q E s := fun Γ p hΓ =>
  Sem.wp_mono M Γ t (fun _ _ _ x => x.2 x.1) (fun _ _ _ x => x) p s (wp_toks t hK (h Γ p hΓ))
section
variable {σ : Type} {prog : Program} {w : World} {A : Around} {E : Value → Shared → Prop} {Q : Flow → Shared → Prop} {s : Shared} {env : Env} {h₀ : Heap}
/-- is, of two texts whose marks differ or whose signs are the same -/
theorem is_text {x y : Str} {t u : Tok} {Qv : Value → Shared → Prop} (ht : t ≠ 0) (hu : u ≠ 0) (hne : t ≠ u) (hb : ∀ (t : Tok) (Qb : Bool → Shared → Prop), Qb false s → wpAny (model prog w) A (sharingNotTold t) Qb E s) (h : ∀ b : Bool, (b = true → x = y) → Qv (.bool b) s) :
    wpAny (model prog w) A (compareOp .Is (.str x t) (.str y u)) Qv E s := by
  show wpAny _ A (do return .bool (← isSame (.str x t) (.str y u))) Qv E s
  refine wpAny_bind ?_
  show wpAny _ A (isSame.created (x == y) t u) _ E s
  unfold isSame.created
  rw [if_neg (by simp [ht, hu]), if_neg (by simpa using hne)]
  by_cases hxy : x = y
  · subst hxy
    rw [if_neg (by simp)]
    refine wpAny_bind (hb _ _ ?_)
    rw [if_neg (by decide)]
    refine wpAny_bind (hb _ _ ?_)
    rw [if_neg (by decide)]
    refine wpAny_bind (wpAny_rule (wpAny_bind (wpAny_askSetting (wpAny_pure (wpAny_pure (h _ fun _ => rfl))))))
  · rw [if_pos (by simpa using hxy)]
    exact wpAny_pure (wpAny_pure (h false fun e => nomatch e))
/-- a text of plain signs, sign by sign, whose marks are told: at least K -/
theorem text_loopT {x : Str} {px : Pos} {body : List Stmt} {xt : Str} {tx : Tok} {m₀ : Str → Option Value} {Rr : Result → Shared → Prop} (K : Nat) (hK : K ≤ s.toks)
    (Led : σ → List (Addr × Obj)) (ps : σ → List (Str × Value)) (Inv : Nat → σ → Prop) (c₀ : σ)
    (hh : A.handled = none) (ha : xt.cps.all (· < 128) = true) (F : Fr h₀ env.locals s.heap m₀) (N : News h₀ env.locals s.heap (Led c₀)) (hk : ∀ p ∈ ps c₀, m₀ p.1 = some p.2) (h0 : Inv 0 c₀)
    (turn : ∀ (i : Nat) n (c : σ) (u : Str → Option Value) h tk t I it, K ≤ t → t < tk → xt.cps[i]? = some n → (∀ p ∈ Led c₀, p.1 < I) → Inv i c → Fr h₀ env.locals h (kstB u (ps c)) → News h₀ env.locals h ((I, it) :: Led c) →
      wpAny (model prog w) A (assign (.Name x px) env (.str ⟨#[n]⟩ t)) (fun _ s₃ => wpAny (model prog w) A (execs body env) (TEnd h₀ env.locals Led ps (Inv (i + 1)) [(I, it)] { s with heap := h, toks := tk } (fun f s' => Rr (.ok f) s')) (notedBy (model prog w) A env fun e s' => Rr (.error e) s') s₃) (notedBy (model prog w) A env fun e s' => Rr (.error e) s') { s with heap := h, toks := tk })
    (done : ∀ (c : σ) (u : Str → Option Value) h tk, Inv xt.cps.size c → Fr h₀ env.locals h (kstB u (ps c)) → News h₀ env.locals h (Led c) → Rr (.ok .next) { s with heap := h, toks := tk }) :
    wpAny (model prog w) A (pyIter (.str xt tx)) (fun it s₂ => codeAny (model prog w) A (.forLoop (.Name x px) it body [] env) Rr s₂) E s := by
  refine wpAny_pyIter_ascii ha ?_
  have hI₀ : h₀.get? s.heap.objs.size = none := next_is_new F
  have hIL : env.locals ≠ s.heap.objs.size := Nat.ne_of_lt F.ns.lt
  have hlt : ∀ p ∈ Led c₀, p.1 < s.heap.objs.size := fun p hp => Heap.lt_size (N p hp).1
  generalize hIe : s.heap.objs.size = I at hI₀ hIL hlt ⊢
  refine codeAny_forLoop_any
    (fun k s' => ∃ h' tk m' i c, s' = { s with heap := h', toks := tk } ∧ K ≤ tk ∧ h'.IsStrIter I "str_ascii_iterator" xt tx i ∧ Fr h₀ env.locals h' m' ∧ News h₀ env.locals h' (Led c) ∧ (∀ p ∈ Led c, p.1 ≠ I) ∧ (∀ p ∈ ps c, m' p.1 = some p.2) ∧ Inv i c ∧ i ≤ xt.cps.size ∧ k = xt.cps.size + 1 - i) ?_ (xt.cps.size + 1)
    ⟨_, s.toks, m₀, 0, c₀, rfl, hK, ⟨_, hIe ▸ Heap.get?_push_size _ rfl, rfl, rfl⟩, F.push _, fun p hp => ⟨Heap.get?_push_of_some _ (N p hp).1, (N p hp).2⟩, fun p hp => Nat.ne_of_lt (hlt p hp), hk, h0, Nat.zero_le _, rfl⟩
  rintro k s' ⟨h', tk, m', i, c, rfl, hKt, hit, F', N', off, hk', hJ, hi, rfl⟩
  have next : ∀ h₁ : Heap, (∀ b o, b ≠ I → h'.get? b = some o → h₁.get? b = some o) → Fr h₀ env.locals h₁ m' ∧ News h₀ env.locals h₁ (Led c) := fun h₁ hk₁ =>
    ⟨⟨F'.ns.at' fun o e => hk₁ _ o hIL e, fun b o e => hk₁ b o (fun q => by rw [q, hI₀] at e; cases e) (F'.keep b o e), F'.above⟩, fun p hp => ⟨hk₁ _ _ (off p hp) (N' p hp).1, (N' p hp).2⟩⟩
  by_cases hl : i < xt.cps.size
  · refine wpAny_pyNext_ascii_item hit (c := xt.cps[i]) (by simp [hl]) fun h₁ hit₁ hs₁ => ?_
    obtain ⟨F₁, N₁⟩ := next h₁ fun b o hb e => hs₁.extBut b o hb e
    obtain ⟨oI, hoI, hcI, hdI⟩ := id hit₁
    refine name_go ?_
    have NI : News h₀ env.locals h₁ ((I, oI) :: Led c) := fun p hp => by
      rcases List.mem_cons.mp hp with rfl | hp
      · exact ⟨hoI, Ne.symm hIL, hI₀⟩
      · exact N₁ p hp
    have h5 := turn i xt.cps[i] c m' h₁ (tk + 1) tk I oI hKt (Nat.lt_succ_self _) (by simp [hl]) hlt hJ (ps_fr hk' F₁) NI
    refine wpAny_toks K (Nat.le_succ_of_le hKt) (wpAny_mono h5 (fun _ s₂ h₂ hk2 => wpAny_toks K hk2 (wpAny_mono h₂ (fun f s₃ h₃ hk3 => ?_) fun _ _ e => e)) fun _ _ e => e)
    have again : ∀ s₃ : Shared, K ≤ s₃.toks → (∃ (c' : σ) (h' : Heap) (tk : Nat) (m' : Str → Option Value) (news' : List (Addr × Obj)), s₃ = { s with heap := h', toks := tk } ∧ Fr h₀ env.locals h' m' ∧ News h₀ env.locals h' news' ∧ (∀ p ∈ Led c', p ∈ news') ∧ (∀ p ∈ [(I, oI)], p ∈ news') ∧ (∀ p ∈ Led c', ∀ q ∈ [(I, oI)], p.1 ≠ q.1) ∧ (∀ p ∈ ps c', m' p.1 = some p.2) ∧ Inv (i + 1) c') →
        ∃ m, m < xt.cps.size + 1 - i ∧ ∃ h' tk m' i c, s₃ = { s with heap := h', toks := tk } ∧ K ≤ tk ∧ h'.IsStrIter I "str_ascii_iterator" xt tx i ∧ Fr h₀ env.locals h' m' ∧ News h₀ env.locals h' (Led c) ∧ (∀ p ∈ Led c, p.1 ≠ I) ∧ (∀ p ∈ ps c, m' p.1 = some p.2) ∧ Inv i c ∧ i ≤ xt.cps.size ∧ m = xt.cps.size + 1 - i := by
      rintro _ hk3 ⟨c', h₄, tk₄, m₄, news₄, rfl, F₄, N₄, hn₄, hi₄, hd₄, hk₄, hJ₄⟩
      refine ⟨xt.cps.size + 1 - (i + 1), by omega, h₄, tk₄, m₄, i + 1, c', rfl, hk3, ⟨oI, (N₄ _ (hi₄ _ (.head _))).1, hcI, hdI⟩, F₄, fun p hp => N₄ p (hn₄ p hp), fun p hp => hd₄ p hp (I, oI) (.head _), hk₄, hJ₄, hl, rfl⟩
    cases f with
    | ret v => exact h₃
    | brk => exact h₃
    | next => exact again _ hk3 h₃
    | cont => exact again _ hk3 h₃
  · have hin : i = xt.cps.size := Nat.le_antisymm hi (Nat.not_lt.mp hl)
    refine wpAny_pyNext_ascii_end hh hit (by simp [hin]) fun h₁ hs₁ => wpAny_execs_nil ?_
    obtain ⟨F₁, N₁⟩ := next h₁ fun b o hb e => hs₁ b o hb e
    exact done c m' h₁ tk (hin ▸ hJ) (ps_fr hk' F₁) N₁
theorem text_turnsT {x : Str} {px : Pos} {body : List Stmt} {xt : Str} {tx : Tok} {m₀ : Str → Option Value} (K : Nat) (hK : K ≤ s.toks)
    (Led : σ → List (Addr × Obj)) (ps : σ → List (Str × Value)) (Inv : Nat → σ → Prop) (c₀ : σ)
    (hh : A.handled = none) (ha : xt.cps.all (· < 128) = true) (F : Fr h₀ env.locals s.heap m₀) (N : News h₀ env.locals s.heap (Led c₀)) (hk : ∀ p ∈ ps c₀, m₀ p.1 = some p.2) (h0 : Inv 0 c₀)
    (turn : ∀ (i : Nat) n (c : σ) (u : Str → Option Value) h tk t I it, K ≤ t → t < tk → xt.cps[i]? = some n → (∀ p ∈ Led c₀, p.1 < I) → Inv i c → Fr h₀ env.locals h (kstB u (ps c)) → News h₀ env.locals h ((I, it) :: Led c) →
      wpAny (model prog w) A (assign (.Name x px) env (.str ⟨#[n]⟩ t)) (fun _ s₃ => wpAny (model prog w) A (execs body env) (TEnd h₀ env.locals Led ps (Inv (i + 1)) [(I, it)] { s with heap := h, toks := tk } Q) E s₃) E { s with heap := h, toks := tk })
    (done : ∀ (c : σ) (u : Str → Option Value) h tk, Inv xt.cps.size c → Fr h₀ env.locals h (kstB u (ps c)) → News h₀ env.locals h (Led c) → Q .next { s with heap := h, toks := tk })
    (hE : PassesOwn (model prog w) A env E) :
    wpAny (model prog w) A (pyIter (.str xt tx)) (fun it s₂ => codeAny (model prog w) A (.forLoop (.Name x px) it body [] env) (fun r s' => match r with | .ok f => Q f s' | .error e => cameBackBy (model prog w) A env E e s') s₂) E s :=
  text_loopT (Rr := fun r s' => match r with | .ok f => Q f s' | .error e => cameBackBy (model prog w) A env E e s') K hK Led ps Inv c₀ hh ha F N hk h0
    (fun i n c u h tk t I it a b d e f g k => wpAny_mono (turn i n c u h tk t I it a b d e f g k) (fun _ _ x => wpAny_passesOwn hE x) hE) done
end
end Mine
namespace Mine
section
variable {prog : Program} {w : World} {A : Around} {E : Value → Shared → Prop} {s : Shared} {h₀ : Heap} {L : Addr} {m : Str → Option Value} {news : List (Addr × Obj)}
/-- a slice of a list, whatever the place it was read from -/
theorem temp_slice {value slice : PySem.Expr} {l : Addr} {its : Array Value} {zs : List Value} {vl vu vk : Value} {lo hi st : Option Int} {ops : List Value} {Q : Value → Shared → Prop}
    (F : Fr h₀ L s.heap m) (N : News h₀ L s.heap news) (hl : s.heap.IsList l its) (pl : IsPart vl lo) (pu : IsPart vu hi) (pk : IsPart vk st) (h0 : st ≠ some 0) (e : (slicePick its lo hi st).toList = zs)
    (h : ∀ D h', Fr h₀ L h' m → News h₀ L h' ((D, listOf zs.toArray 0) :: news) → (∀ p ∈ news, p.1 < D) → Q (.ref D) { s with heap := h' })
    (hs : subscripted slice false (.ref l) (.ref s.heap.objs.size) = operate ops (getItem (.ref l) (.ref s.heap.objs.size))) (hz : its.size ≤ sizeLine) :
    wpAny (model prog w) A (subscriptTail value slice (.ref l) (.ref s.heap.objs.size)) Q E { s with heap := s.heap.push { cls := .type "slice", data := .fields #[vl, vu, vk] } } := by
  refine tail_any (Heap.IsList.typeIs (s := { s with heap := s.heap.push { cls := .type "slice", data := .fields #[vl, vu, vk] } }) (hl.push _)) list_getitem_lookup
    (wpAny_getItem_list_slice (hl.push _) (Heap.IsSliceOf.new ..) pl pu pk h0 ?_ hz) hs
  have N1 := News.push (F.push { cls := .type "slice", data := .fields #[vl, vu, vk] }) (N.grown fun _ _ e => Heap.get?_push_of_some _ e) { cls := .type "list", data := .seq (slicePick its lo hi st) }
  rw [Heap.size_push] at N1
  show Q (.ref (s.heap.push _).objs.size) _
  rw [Heap.size_push]
  refine h _ _ ((F.push _).push _) ?_ fun p hp => Nat.lt_succ_of_lt (Heap.lt_size (N p hp).1)
  rw [← e, Array.toArray_toList]
  exact N1
theorem pick_plain (vs : List Value) (lo hi : Option Int) : (slicePick vs.toArray lo hi none).toList = kms_pick vs lo hi := by
  rw [kms_pick_eq]
end
end Mine
namespace Mine
section
variable {prog : Program} {w : World} {A : Around} {h₀ : Heap} {L : Addr} {m : Str → Option Value} {env : Env}
/-- what an element's walk has to show where it leaves the ledger as it was -/
noncomputable def ElEnd (h₀ : Heap) (L : Addr) (m : Str → Option Value) (led : List (Addr × Obj)) (s₁ : Shared) (Rl : Value → Prop) (y : Value) (s₂ : Shared) : Prop :=
  ∃ h' tk, s₂ = { s₁ with heap := h', toks := tk } ∧ Fr h₀ L h' m ∧ News h₀ L h' led ∧ Rl y
theorem ElEnd.intro {led : List (Addr × Obj)} {s₁ : Shared} {Rl : Value → Prop} {y : Value} {h' : Heap} {tk : Nat} {all : List (Addr × Obj)} (F : Fr h₀ L h' m) (N : News h₀ L h' all) (sub : ∀ p ∈ led, p ∈ all) (r : Rl y) :
    ElEnd h₀ L m led s₁ Rl y { s₁ with heap := h', toks := tk } := ⟨h', tk, rfl, F, fun p hp => N p (sub p hp), r⟩
theorem restP_go {elt : Expr} {x x₂ : Str} {scope : Scope} {cl : List (Str × Addr)} {s : Shared} {S : List (Addr × Obj) → Prop} {P : Nat → Value → Prop} {Fin : List Value → List (Addr × Obj) → Prop} {news : List (Addr × Obj)} (Rl : Nat → Value → Prop) (hS : S news)
    (hel : ∀ i v, P i v → ∃ (t : Addr) (ot : Obj) (v₁ v₂ : Value) (nt : Nat), v = .ref t ∧ (t, ot) ∈ news ∧ ot.cls = .type "tuple" ∧ ot.data = .seq #[v₁, v₂] nt ∧
      ∀ ys I oI C oC D m₂ h tk (E' : Value → Shared → Prop), LCg.NsObj oC m₂ → m₂ x = some v₁ → m₂ x₂ = some v₂ → Fr h₀ L h m → News h₀ L h ((I, oI) :: (C, oC) :: (D, LCg.lst ys) :: news) →
      wpAny (model prog w) A (eval elt (compEnvC scope cl C env)) (ElEnd h₀ L m ((I, oI) :: (C, oC) :: (D, LCg.lst ys) :: news) { s with heap := h, toks := tk } (Rl i)) E' { s with heap := h, toks := tk }) :
    ∀ (k i : Nat) (ys : List Value), ys.length = i → (∀ j y, ys[j]? = some y → Rl j y) → (∀ zs, zs.length = i + k → (∀ j y, zs[j]? = some y → Rl j y) → Fin zs news) → LCp.CompRestP prog w A h₀ L m env elt x x₂ scope cl s S P Fin k i ys news
  | 0, i, ys, h1, h2, hF => hF ys (by omega) h2
  | k + 1, i, ys, h1, h2, hF => by
    refine LCp.CompRestP.succ fun v hv => ?_
    obtain ⟨t, ot, v₁, v₂, nt, e1, e2, e3, e4, go⟩ := hel i v hv
    refine ⟨t, ot, v₁, v₂, nt, e1, e2, e3, e4, ?_⟩
    intro I oI C oC D m₂ h tk E' n1 n2 n3 F N off ne
    refine wpAny_mono (go ys I oI C oC D m₂ h tk E' n1 n2 n3 F N) (fun y s' hy => ?_) fun _ _ e => e
    obtain ⟨h', tk', rfl, F', N', r⟩ := hy
    refine LCg.CompEnd.intro F' N' news (fun p hp => hp) off hS ?_
    refine restP_go Rl hS hel k (i + 1) (ys ++ [y]) (by rw [List.length_append, h1]; rfl) ?_ (fun zs hz => hF zs (by omega))
    intro j z hz
    by_cases hj : j < ys.length
    · rw [List.getElem?_append_left hj] at hz; exact h2 j z hz
    · rw [List.getElem?_append_right (by omega)] at hz
      have hj' : j = i := by
        by_cases q : j - ys.length = 0
        · omega
        · rw [List.getElem?_eq_none (by simp; omega)] at hz; cases hz
      subst hj'
      rw [show j - ys.length = 0 by omega] at hz
      cases hz
      exact r
theorem restU_go {elt : Expr} {x : Str} {scope : Scope} {cl : List (Str × Addr)} {s : Shared} {S : List (Addr × Obj) → Prop} {P : Nat → Value → Prop} {Fin : List Value → List (Addr × Obj) → Prop} {news : List (Addr × Obj)} (Rl : Nat → Value → Prop) (hS : S news)
    (hel : ∀ i v, P i v → ∀ ys I oI C oC D m₂ h tk (E' : Value → Shared → Prop), LCg.NsObj oC m₂ → m₂ x = some v → Fr h₀ L h m → News h₀ L h ((I, oI) :: (C, oC) :: (D, LCg.lst ys) :: news) → LCg.Off3 I C D news → ((@Ne Nat I C) ∧ (@Ne Nat I D) ∧ (@Ne Nat C D)) →
      wpAny (model prog w) A (eval elt (compEnvC scope cl C env)) (ElEnd h₀ L m ((I, oI) :: (C, oC) :: (D, LCg.lst ys) :: news) { s with heap := h, toks := tk } (Rl i)) E' { s with heap := h, toks := tk }) :
    ∀ (k i : Nat) (ys : List Value), ys.length = i → (∀ j y, ys[j]? = some y → Rl j y) → (∀ zs, zs.length = i + k → (∀ j y, zs[j]? = some y → Rl j y) → Fin zs news) → LCg.CompRest prog w A h₀ L m env elt x scope cl s S P Fin k i ys news
  | 0, i, ys, h1, h2, hF => hF ys (by omega) h2
  | k + 1, i, ys, h1, h2, hF => by
    refine LCg.CompRest.succ ?_
    intro v I oI C oC D m₂ h tk E' hv n1 n2 F N off ne
    refine wpAny_mono (hel i v hv ys I oI C oC D m₂ h tk E' n1 n2 F N off ne) (fun y s' hy => ?_) fun _ _ e => e
    obtain ⟨h', tk', rfl, F', N', r⟩ := hy
    refine LCg.CompEnd.intro F' N' news (fun p hp => hp) off hS ?_
    refine restU_go Rl hS hel k (i + 1) (ys ++ [y]) (by rw [List.length_append, h1]; rfl) ?_ (fun zs hz => hF zs (by omega))
    intro j z hz
    by_cases hj : j < ys.length
    · rw [List.getElem?_append_left hj] at hz; exact h2 j z hz
    · rw [List.getElem?_append_right (by omega)] at hz
      have hj' : j = i := by
        by_cases q : j - ys.length = 0
        · omega
        · rw [List.getElem?_eq_none (by simp; omega)] at hz; cases hz
      subst hj'
      rw [show j - ys.length = 0 by omega] at hz
      cases hz
      exact r
theorem strsAre_of {f : Nat → Str} : ∀ {zs : List Value} {ws : List Str}, zs.length = ws.length → (∀ (j : Nat) y, zs[j]? = some y → ∃ t x, y = .str x t ∧ ws[j]? = some x) → StrsAre zs ws
  | [], [], _, _ => .nil
  | z :: zs, x :: ws, hl, h => by
    obtain ⟨t, x', rfl, hx⟩ := h 0 z rfl
    cases hx
    refine .cons x t (strsAre_of (f := f) (by simpa using hl) fun j y hy => ?_)
    have := h (j + 1) y (by simpa using hy)
    simpa using this
theorem intsAre_of : ∀ {zs : List Value} {ns : List Int}, zs.length = ns.length → (∀ (j : Nat) y, zs[j]? = some y → ∃ t n, y = .int n t ∧ ns[j]? = some n) → IntsAre zs ns
  | [], [], _, _ => .nil
  | z :: zs, n :: ns, hl, h => by
    obtain ⟨t, n', rfl, hx⟩ := h 0 z rfl
    cases hx
    refine .cons n t (intsAre_of (by simpa using hl) fun j y hy => ?_)
    have := h (j + 1) y (by simpa using hy)
    simpa using this
end
section
variable {σ : Type} {prog : Program} {w : World} {A : Around} {E : Value → Shared → Prop} {Q : Flow → Shared → Prop} {s : Shared} {env : Env} {h₀ : Heap}
theorem objs_two {a b : Addr} {n n' : String} : ∀ {its : List (Addr × Obj)}, Objs [(a, n), (b, n')] its → ∃ o o', its = [(a, o), (b, o')] ∧ o.cls = .type n ∧ o'.cls = .type n'
  | [], h => h.elim
  | [_], h => h.2.elim
  | [(c, o), (d, o')], h => ⟨o, o', by rw [show c = a from h.1.1, show d = b from h.2.1.1], h.1.2, h.2.1.2⟩
  | _ :: _ :: _ :: _, h => h.2.2.elim
theorem enum_turns {elts : List Expr} {k : Nat} {pos : Pos} {body : List Stmt} {l : Addr} {vs : List Value} {nn : Nat} {m₀ : Str → Option Value}
    (Led : σ → List (Addr × Obj)) (ps : σ → List (Str × Value)) (Inv : Nat → σ → Prop) (c₀ : σ)
    (hh : A.handled = none) (hm : ∀ c, (l, listOf vs.toArray nn) ∈ Led c) (F : Fr h₀ env.locals s.heap m₀) (N : News h₀ env.locals s.heap (Led c₀)) (hk : ∀ p ∈ ps c₀, m₀ p.1 = some p.2) (h0 : Inv 0 c₀)
    (turn : ∀ (i : Nat) v t (c : σ) (u : Str → Option Value) h tk I T it it', vs[i]? = some v → (∀ p ∈ Led c₀, p.1 < I) → it.cls = .type "enumerate" → it'.cls = .type "list_iterator" → Inv i c → Fr h₀ env.locals h (kstB u (ps c)) → News h₀ env.locals h ((I + 1, it) :: (I, it') :: Led c) → IsTup h T #[.int (i : Int) t, v] →
      wpAny (model prog w) A (assign (.Tuple elts k pos) env (.ref T)) (fun _ s₃ => wpAny (model prog w) A (execs body env) (TEnd h₀ env.locals Led ps (Inv (i + 1)) [(I + 1, it), (I, it')] { s with heap := h, toks := tk } Q) E s₃) E { s with heap := h, toks := tk })
    (done : ∀ (c : σ) (u : Str → Option Value) h tk, Inv vs.length c → Fr h₀ env.locals h (kstB u (ps c)) → News h₀ env.locals h (Led c) → Q .next { s with heap := h, toks := tk }) :
    wpAny (model prog w) A (call (.type "enumerate") [.ref l]) (fun xv s₁ => wpAny (model prog w) A (pyIter xv) (fun it s₂ => TurnsAt prog w A h₀ env (.Tuple elts k pos) body Q E it s₂) E s₁) E s := by
  have hax := N _ (hm c₀)
  have hl : s.heap.IsList l vs.toArray := ⟨_, hax.1, rfl, nn, rfl⟩
  have hlt : l < s.heap.objs.size := Heap.lt_size hax.1
  have hLs : env.locals < s.heap.objs.size := F.ns.lt
  refine call_enumerate_list hl fun h' hE hI hsz hk' => ?_
  refine wpAny_pyIter_enum hE ?_
  refine turns_core (ws := [(s.heap.objs.size + 1, "enumerate"), (s.heap.objs.size, "list_iterator")]) (tk0 := s.toks) Led ps Inv c₀ (KTurns.ofWalksU (WalksT.enumerate hh (s.heap.objs.size + 1) s.heap.objs.size l (Nat.succ_ne_self _) (ktu_ne 1 hlt) (Nat.ne_of_lt hlt) vs.toArray).toU) ?_ ?_ ?_ ?_ ?_ ?_ ?_ (F.keeps hk') (N.grown hk') hk h0 ?_ ?_
  · rintro i h ⟨⟨old, he⟩, ⟨oi, hoi, hic, _⟩, _⟩
    have he' : ∃ oe : Obj, h.get? (s.heap.objs.size + 1) = some oe ∧ oe.cls = .type "enumerate" := ⟨_, he, rfl⟩
    obtain ⟨oe, h1, h2⟩ := he'
    refine ⟨[(s.heap.objs.size + 1, oe), (s.heap.objs.size, oi)], ⟨⟨rfl, h2⟩, ⟨rfl, hic⟩, trivial⟩, fun p hp => ?_⟩
    rcases List.mem_cons.mp hp with rfl | hp
    · exact h1
    · rw [List.mem_singleton.mp hp]; exact hoi
  · intro b hb
    have hb' : b = s.heap.objs.size + 1 ∨ b = s.heap.objs.size := by simpa using hb
    rcases hb' with rfl | rfl
    · exact ⟨by simp, ktu_new F (Nat.le_add_right _ _)⟩
    · exact ⟨by simp, ktu_new F (Nat.le_refl _)⟩
  · intro b hb
    simpa using hb
  · intro b hb
    have hb' : b = s.heap.objs.size + 1 ∨ b = s.heap.objs.size ∨ b = l := by simpa using hb
    rcases hb' with rfl | rfl | rfl
    · exact .inl (by simp)
    · exact .inl (by simp)
    · exact .inr ⟨_, hm⟩
  · intro hI'
    have hb' : env.locals = s.heap.objs.size + 1 ∨ env.locals = s.heap.objs.size ∨ env.locals = l := by simpa using hI'
    rcases hb' with e | e | e
    · exact ktu_ne 1 hLs e
    · exact Nat.ne_of_lt hLs e
    · exact hax.2.1 e.symm
  · intro p hp hI'
    have hb' : p.1 = s.heap.objs.size + 1 ∨ p.1 = s.heap.objs.size := by simpa using hI'
    have hlp := Heap.lt_size (N p hp).1
    rcases hb' with e | e
    · exact ktu_ne 1 hlp e
    · exact Nat.ne_of_lt hlp e
  · exact ⟨⟨.none, hE⟩, hI, hl.at fun o e => hk' l o e⟩
  · intro i v c u h tk its hi hP hits hJ F₁ N₁
    obtain ⟨it, it', rfl, hc1, hc2⟩ := objs_two hits
    obtain ⟨T, vals, rfl, ⟨t, x, hx, rfl⟩, hT⟩ := hP
    exact turn i x t c u h tk s.heap.objs.size T it it' (by simpa using hx) (fun p hp => Heap.lt_size (N p hp).1) hc1 hc2 hJ F₁ N₁ hT
  · intro c u h tk hJ F₁ N₁
    exact done c u h tk (by simpa using hJ) F₁ N₁
end
/-- the claim of a def that hands back a fresh list and leaves the ledger as it was -/
noncomputable def ClmL (w : World) (mean : ExcName → Option Value) (mg mb : Str → Option Value) (d : Nat) (f : Addr) (news : List (Addr × Obj)) (vs : List Value) (P : List Value → Prop) : Prop :=
  ∀ (dp un : Nat) (gd : Option (List Code)) (cn : Str) (cs : Scope) (a : Addr) (ccd : Value) (cl : List (Str × Addr)) (outer : List Env) (A₀ : Around) (base h₀ : Heap) (L : Addr) (m : Str → Option Value) (s : Shared) (Q E : Value → Shared → Prop),
    Below A₀ base outer h₀ → Fr h₀ L s.heap m → (Mine.hd.heap_39 w.params).In h₀ → News h₀ L s.heap news →
    Top Mine.hd.view_39 (looseW Mine.hd.view_39 [Str.ofString "_twin_re_1", Str.ofString "_twin_re_2", Str.ofString "_name_disallowed_re", Str.ofString "_value_disallowed_re"]) mean mg mb h₀ →
    cs.kind = .function → dp + d < recursionLimit → un + 10 * d < cLine →
    (∀ (D nD : Nat) (ys : List Value) (h' : Heap) (tk' : Nat), P ys → Fr h₀ L h' m → News h₀ L h' ((D, listOf ys.toArray nD) :: news) → (∀ p ∈ news, p.1 ≠ D) → Q (.ref D) { s with heap := h', toks := tk' }) →
      wpAny (model (PySem.Challenge.rw_wj0041_01).prog w) (ktrTop dp un gd cn cs L a ccd cl outer) (call (.ref f) vs) Q E s
theorem ClmL.use {w : World} {mean : ExcName → Option Value} {mg mb : Str → Option Value} {d : Nat} {f : Addr} {news : List (Addr × Obj)} {vs : List Value} {P : List Value → Prop} (C : ClmL w mean mg mb d f news vs P)
  {dp un : Nat} {gd : Option (List Code)} {cn : Str} {cs : Scope} {a : Addr} {ccd : Value} {cl : List (Str × Addr)} {outer : List Env} {A₀ : Around} {base h₀ : Heap} {L : Addr} {m : Str → Option Value} {s : Shared} {Q E : Value → Shared → Prop}
    (h1 : Below A₀ base outer h₀) (h2 : Fr h₀ L s.heap m) (h3 : (Mine.hd.heap_39 w.params).In h₀) (h4 : News h₀ L s.heap news)
    (h5 : Top Mine.hd.view_39 (looseW Mine.hd.view_39 [Str.ofString "_twin_re_1", Str.ofString "_twin_re_2", Str.ofString "_name_disallowed_re", Str.ofString "_value_disallowed_re"]) mean mg mb h₀)
    (h6 : cs.kind = .function) (h7 : dp + d < recursionLimit) (h8 : un + 10 * d < cLine)
    (h9 : ∀ (D nD : Nat) (ys : List Value) (h' : Heap) (tk' : Nat), P ys → Fr h₀ L h' m → News h₀ L h' ((D, listOf ys.toArray nD) :: news) → (∀ p ∈ news, p.1 ≠ D) → Q (.ref D) { s with heap := h', toks := tk' }) :
      wpAny (model (PySem.Challenge.rw_wj0041_01).prog w) (ktrTop dp un gd cn cs L a ccd cl outer) (call (.ref f) vs) Q E s :=
  C _ _ _ _ _ _ _ _ _ _ _ _ _ _ _ _ _ h1 h2 h3 h4 h5 h6 h7 h8 h9
theorem ClmL.use1 {w : World} {mean : ExcName → Option Value} {mg mb : Str → Option Value} {d : Nat} {f : Addr} {news : List (Addr × Obj)} {vs : List Value} {P : List Value → Prop} (C : ClmL w mean mg mb d f news vs P)
  {dp un : Nat} {gd : Option (List Code)} {cn : Str} {cs : Scope} {a : Addr} {ccd : Value} {cl : List (Str × Addr)} {outer : List Env} {A₀ : Around} {base h₀ : Heap} {L : Addr} {m : Str → Option Value} {s : Shared} {Q E : Value → Shared → Prop}
    (k : Rdy w mean mg mb d news dp un cs outer A₀ base h₀ L m s) (h9 : ∀ (D nD : Nat) (ys : List Value) (h' : Heap) (tk' : Nat), P ys → Fr h₀ L h' m → News h₀ L h' ((D, listOf ys.toArray nD) :: news) → (∀ p ∈ news, p.1 ≠ D) → Q (.ref D) { s with heap := h', toks := tk' }) :
      wpAny (model (PySem.Challenge.rw_wj0041_01).prog w) (ktrTop dp un gd cn cs L a ccd cl outer) (call (.ref f) vs) Q E s :=
  ClmL.use C k.h1 k.h2 k.h3 k.h4 k.h5 k.h6 k.h7 k.h8 h9
end Mine
namespace Mine
section
variable {σ : Type} {prog : Program} {w : World} {A : Around} {E : Value → Shared → Prop} {Q : Flow → Shared → Prop} {s : Shared} {env : Env} {h₀ : Heap}
theorem range_turns {x : Str} {px : Pos} {body : List Stmt} {r : Addr} {t u v : Tok} {n : Nat} {b : Int} {m₀ : Str → Option Value}
    (Led : σ → List (Addr × Obj)) (ps : σ → List (Str × Value)) (Inv : Nat → σ → Prop) (c₀ : σ)
    (hh : A.handled = none) (hr : IsRange s.heap r 0 b 1 t u v) (hsm : Builtin.Range.small 0 b 1 = true) (hn : Builtin.Range.rangeSize 0 b 1 = ((n : Nat) : Int)) (F : Fr h₀ env.locals s.heap m₀) (N : News h₀ env.locals s.heap (Led c₀)) (hk : ∀ p ∈ ps c₀, m₀ p.1 = some p.2) (h0 : Inv 0 c₀)
    (turn : ∀ (i : Nat) t (c : σ) (u : Str → Option Value) h tk I it, i < n → (∀ p ∈ Led c₀, p.1 < I) → Inv i c → Fr h₀ env.locals h (kstB u (ps c)) → News h₀ env.locals h ((I, it) :: Led c) →
      wpAny (model prog w) A (assign (.Name x px) env (.int (i : Int) t)) (fun _ s₃ => wpAny (model prog w) A (execs body env) (TEnd h₀ env.locals Led ps (Inv (i + 1)) [(I, it)] { s with heap := h, toks := tk } Q) E s₃) E { s with heap := h, toks := tk })
    (done : ∀ (c : σ) (u : Str → Option Value) h tk, Inv n c → Fr h₀ env.locals h (kstB u (ps c)) → News h₀ env.locals h (Led c) → Q .next { s with heap := h, toks := tk }) :
    wpAny (model prog w) A (pyIter (.ref r)) (fun it s₂ => TurnsAt prog w A h₀ env (.Name x px) body Q E it s₂) E s := by
  refine wpAny_pyIter_range hr hsm ?_
  refine turns_core (ws := [(s.heap.objs.size, "range_iterator")]) (tk0 := s.toks) Led ps Inv c₀ (KTurns.ofWalks (LCg.range_walks hh 0 n) fun i v s Q E st q => name_go q) (fun i h st => ?_) (fun b hb => ?_) (fun b hb => by simpa using hb) (fun b hb => .inl (by simpa using hb)) ?_ (fun p hp hI => ?_) ?_ (F.push _) (fun p hp => ⟨Heap.get?_push_of_some _ (N p hp).1, (N p hp).2⟩) hk h0 ?_ ?_
  · exact ⟨[(s.heap.objs.size, _)], ⟨⟨rfl, rfl⟩, trivial⟩, fun p hp => by rw [List.mem_singleton.mp hp]; exact st⟩
  · have hb' : b = s.heap.objs.size := by simpa using hb
    rw [hb']
    exact ⟨List.mem_cons_self .., next_is_new F⟩
  · intro hI
    exact absurd F.ns.lt ((List.mem_singleton.mp hI) ▸ Nat.lt_irrefl _)
  · exact absurd (Heap.lt_size (N p hp).1) ((List.mem_singleton.mp hI) ▸ Nat.lt_irrefl _)
  · show IsRangeIter _ _ _ _ _
    rw [hn]; simpa using Heap.get?_push_size _ rfl
  · intro i v c u h tk its hi hP hits hI F₁ N₁
    obtain ⟨it, rfl, hc⟩ := objs_one hits
    obtain ⟨t, rfl⟩ := hP
    rw [Int.zero_add]
    exact turn i t c u h tk s.heap.objs.size it hi (fun p hp => Heap.lt_size (N p hp).1) hI F₁ N₁
  · intro c u h tk hI F₁ N₁
    exact done c u h tk hI F₁ N₁
end
end Mine
namespace Mine
section
variable {prog : Program} {w : World} {A : Around} {E : Value → Shared → Prop} {s : Shared} {h₀ : Heap} {L : Addr} {m : Str → Option Value} {env : Env}
/-- what an element's walk has to show, over an enumeration -/
noncomputable def EEl (prog : Program) (w : World) (A : Around) (h₀ : Heap) (L : Addr) (m : Str → Option Value) (env : Env) (elt : Expr) (x x₂ : Str) (scope : Scope) (cl : List (Str × Addr)) (s : Shared) (e it : Addr) (news : List (Addr × Obj)) (Rl : Nat → Value → Prop) (i : Nat) (v : Value) : Prop :=
  ∀ t ys oe oi C oC D m₂ h tk (E' : Value → Shared → Prop), LCg.NsObj oC m₂ → m₂ x = some (.int (i : Int) t) → m₂ x₂ = some v → Fr h₀ L h m → News h₀ L h ((e, oe) :: (it, oi) :: (C, oC) :: (D, LCg.lst ys) :: news) →
    wpAny (model prog w) A (eval elt (compEnvC scope cl C env)) (ElEnd h₀ L m ((e, oe) :: (it, oi) :: (C, oC) :: (D, LCg.lst ys) :: news) { s with heap := h, toks := tk } (Rl i)) E' { s with heap := h, toks := tk }
theorem get_new {h h₀ : Heap} {a : Addr} (F : ∀ b o, h₀.get? b = some o → h.get? b = some o) (ha : h.objs.size ≤ a) : h₀.get? a = none := by
  cases e : h₀.get? a with
  | none => rfl
  | some o => exact absurd (Heap.lt_size (F a o e)) (Nat.not_lt.mpr ha)
theorem ecomp_block {elt iter : Expr} {x x₂ : Str} {px px₂ tp : Pos} {tk0} {scope : Scope} {cl : List (Str × Addr)} {pos : Pos} {e it l : Addr} {vs : List Value} {nn : Nat} {news : List (Addr × Obj)} {Rl : Nat → Value → Prop} {RR : Value → Addr → Result → Shared → Prop}
    (hh : A.handled = none) (hei : e ≠ it) (he0 : IsEnum s.heap e it 0 .none) (hi0 : s.heap.IsListIter it l 0) (hm : (l, listOf vs.toArray nn) ∈ news) (hsz : vs.length ≤ sizeLine)
    (hcell : ∀ y ∈ scope.names, y.2 ≠ .cell) (hkind : scope.kind = .function) (hx : scope.names.lookup x = some .local) (hx₂ : scope.names.lookup x₂ = some .local) (hxx : x ≠ x₂)
    (F : Fr h₀ L s.heap m) (N : News h₀ L s.heap news) (he₀ : h₀.get? e = none) (hi₀ : h₀.get? it = none) (hLe : L ≠ e) (hLi : L ≠ it) (offe : ∀ p ∈ news, p.1 ≠ e) (offi : ∀ p ∈ news, p.1 ≠ it)
    (hel : ∀ i v, vs[i]? = some v → EEl prog w A h₀ L m env elt x x₂ scope cl s e it news Rl i v)
    (hRR : ∀ D C h tk m' ys, ys.length = vs.length → (∀ (j : Nat) y, ys[j]? = some y → Rl j y) → Fr h₀ L h m → News h₀ L h ((D, LCg.lst ys) :: news) → (∀ p ∈ news, p.1 ≠ D) → h.Ns C m' → h₀.get? C = none → C ≠ L → C ≠ D → (∀ p ∈ news, p.1 ≠ C) → RR (.ref D) C (.ok .next) { s with heap := h, toks := tk }) :
    wpAny (model prog w) A (newList []) (fun acc s₃ => wpAny (model prog w) A (newFunctionEnv scope env.globals cl [] env.qual none .none (some env)) (fun cenv s₄ =>
      codeAny (model prog w) A (.compStart (.ListComp elt [⟨.Tuple [.Name x px, .Name x₂ px₂] tk0 tp, iter, [], 0⟩] scope pos) 0 (.ref e) acc { cenv with scope := relabel scope env }) (RR acc cenv.locals) s₄) E s₃) E s := by
  have hle : l ≠ e := offe _ hm
  have hli : l ≠ it := offi _ hm
  have W := KTurns.ofWalksU (elts := [.Name x px, .Name x₂ px₂]) (k := tk0) (pos := tp) (WalksT.enumerate (prog := prog) (w := w) hh e it l hei hle hli vs.toArray).toU
  have Ws : ∀ (i : Nat) (s : Shared) (Q : Value → Shared → Prop) (E : Value → Shared → Prop), (∃ old, IsEnum s.heap e it i old) → Q (.ref e) s → wpAny (model prog w) A (pyIter (.ref e)) Q E s := fun i s Q E ⟨old, h1⟩ q => wpAny_pyIter_enum h1 q
  have hl0 : s.heap.IsList l vs.toArray := ⟨_, (N _ hm).1, rfl, nn, rfl⟩
  refine wpAny_newObj_type (wpAny_newFunctionEnv hcell (by intro y hy; simp at hy) (fun h₁ hns₁ hsb₁ => ?_) hkind)
  dsimp only at hns₁ hsb₁ ⊢
  generalize hH2 : s.heap.push { cls := .type "list", dict := none, data := .seq ([] : List Value).toArray } = H2 at hns₁ hsb₁ ⊢
  have hC : H2.objs.size = s.heap.objs.size + 1 := by rw [← hH2, Heap.size_push]
  generalize hDe : s.heap.objs.size = D at hC ⊢
  have lt : ∀ b o, s.heap.get? b = some o → b < D := fun b o q => hDe ▸ Heap.lt_size q
  have hDC : D ≠ H2.objs.size := by rw [hC]; exact Nat.ne_of_lt (Nat.lt_succ_self _)
  have below : ∀ b o, s.heap.get? b = some o → b ≠ H2.objs.size ∧ b ≠ D := fun b o q => ⟨by rw [hC]; exact Nat.ne_of_lt (Nat.lt_succ_of_lt (lt b o q)), Nat.ne_of_lt (lt b o q)⟩
  have old : ∀ b o, s.heap.get? b = some o → h₁.get? b = some o := fun b o q => hsb₁.extBut b o (below b o q).1 (Heap.get?_push_of_some _ (hH2 ▸ Heap.get?_push_of_some _ q))
  have hacc : h₁.get? D = some (LCg.lst []) := hsb₁.extBut _ _ hDC (Heap.get?_push_of_some _ (by rw [← hH2, ← hDe]; exact Heap.get?_push_size _ rfl))
  obtain ⟨oi0, hoi0, _⟩ := id hi0
  have bE := below e _ he0
  have bI := below it _ hoi0
  have bl := below l _ (N _ hm).1
  have bN : ∀ p ∈ news, p.1 ≠ H2.objs.size ∧ p.1 ≠ D := fun p hp => below _ _ (N p hp).1
  have hL1 : L < D := hDe ▸ F.ns.lt
  have hCL : H2.objs.size ≠ L := by rw [hC]; exact Nat.ne_of_gt (Nat.lt_succ_of_lt hL1)
  have hDL : D ≠ L := Nat.ne_of_gt hL1
  have hD₀ : h₀.get? D = none := get_new F.keep (Nat.le_of_eq hDe)
  have hC₀ : h₀.get? H2.objs.size = none := get_new F.keep (by rw [hC, ← hDe]; exact Nat.le_succ _)
  have noE : ∀ b : Addr, b ≠ e → b ≠ it → b ∉ [e, it] := fun b h1 h2 h3 => by
    rcases List.mem_cons.mp h3 with q | h3
    · exact h1 q
    · exact h2 (List.mem_singleton.mp h3)
  have old₀ : ∀ b o, h₀.get? b = some o → b ∉ [e, it] := fun b o q => noE b (fun z => by rw [z, he₀] at q; cases q) (fun z => by rw [z, hi₀] at q; cases q)
  have loop : ∀ s₃ : Shared, s₃ = { s with heap := h₁, toks := s.toks + ([] : List (Str × Value)).length } →
      codeAny (model prog w) A (.compLoop (.ListComp elt [⟨.Tuple [.Name x px, .Name x₂ px₂] tk0 tp, iter, [], 0⟩] scope pos) 0 (.ref e) (.ref D) (compEnvC scope cl H2.objs.size env))
        (RR (.ref D) H2.objs.size) s₃ := by
    rintro s₃ rfl
    refine LCp.codeAny_compLoop_pair
      (fun k s' => ∃ h' tk i ys m', s' = { s with heap := h', toks := tk } ∧ i ≤ vs.length ∧ k = vs.length + 1 - i ∧ ys.length = i ∧ ((∃ old, IsEnum h' e it i old) ∧ h'.IsListIter it l i ∧ h'.IsList l vs.toArray) ∧ Fr h₀ L h' m ∧ h'.Ns H2.objs.size m' ∧ News h₀ L h' ((D, LCg.lst ys) :: news) ∧ (∀ (j : Nat) y, ys[j]? = some y → Rl j y)) ?_ (vs.length + 1)
      ⟨h₁, _, 0, [], _, rfl, Nat.zero_le _, rfl, rfl, ⟨⟨.none, old _ _ he0⟩, hi0.at fun o q => old _ o q, hl0.at fun o q => old _ o q⟩, F.keeps old, hns₁, fun p hp => ?_, fun j y q => nomatch q⟩
    · rintro k s' ⟨h', tk, i, ys, m', rfl, hi, rfl, hyl, hst', F', hn', N', hr'⟩
      by_cases hlt : i < vs.length
      · refine W.item i _ _ _ (by simpa using hlt) hst' fun v h₂ tk₂ hMd hk₂ => ?_
        refine W.go i v _ _ _ hMd fun h₃ hP hst₃ hk₃ => ?_
        obtain ⟨T, vals, rfl, ⟨t, xv, hxv, rfl⟩, hT⟩ := hP
        have up : ∀ b o, b ∉ [e, it] → h'.get? b = some o → h₃.get? b = some o := fun b o hb q => hk₃ b o hb (hk₂ b o hb q)
        refine assign_Tuple_tuple hh hT rfl rfl fun h₅ he5 => ?_
        have he' : ∀ b o, h₃.get? b = some o → h₅.get? b = some o := fun b o q => he5 b o (Nat.ne_of_lt (Heap.lt_size q)) q
        have hCe : H2.objs.size ∉ [e, it] := noE _ (Ne.symm bE.1) (Ne.symm bI.1)
        refine assignInOrder_cons (wpAny_assign_Name (wpAny_storeName_local (lookup_relabel_local hx) ((hn'.at' fun o q => up _ o hCe q).at' fun o q => he' _ o q) (fun h₆ hn₆ hs₆ => ?_) (by simp [compEnvC, relabel, hkind])))
        refine assignInOrder_cons (wpAny_assign_Name (wpAny_storeName_local (lookup_relabel_local hx₂) hn₆ (fun h₇ hn₇ hs₇ => ?_) (by simp [compEnvC, relabel, hkind])))
        refine assignInOrder_nil ?_
        have old7 : ∀ b o, b ≠ H2.objs.size → h₃.get? b = some o → h₇.get? b = some o := fun b o hb q => hs₇.extBut b o hb (hs₆.extBut b o hb (he' b o q))
        obtain ⟨⟨old3, hE3⟩, hI3, hL3⟩ := id hst₃
        obtain ⟨oi3, hoi3, hoir⟩ := id hI3
        obtain ⟨oC, heC, hoC⟩ := LCg.ns_obj hn₇
        have F₇ : Fr h₀ L h₇ m := by
          have F₃ : Fr h₀ L h₃ m := ⟨F'.ns.at' fun o q => up _ o (noE _ hLe hLi) q, fun b o q => up b o (old₀ b o q) (F'.keep b o q), F'.above⟩
          exact ((F₃.keeps he').change hs₆ hCL hC₀).change hs₇ hCL hC₀
        have e7 := old7 e _ bE.1 hE3
        have i7 := old7 it _ bI.1 hoi3
        have N₇ : News h₀ L h₇ ((e, _) :: (it, oi3) :: (H2.objs.size, oC) :: (D, LCg.lst ys) :: news) := fun p hp => by
          rcases List.mem_cons.mp hp with rfl | hp
          · exact ⟨e7, Ne.symm hLe, he₀⟩
          rcases List.mem_cons.mp hp with rfl | hp
          · exact ⟨i7, Ne.symm hLi, hi₀⟩
          rcases List.mem_cons.mp hp with rfl | hp
          · exact ⟨heC, hCL, hC₀⟩
          · have hpe : p.1 ∉ [e, it] ∧ p.1 ≠ H2.objs.size := by
              rcases List.mem_cons.mp hp with rfl | hp
              · exact ⟨noE _ (Ne.symm bE.2) (Ne.symm bI.2), hDC⟩
              · exact ⟨noE _ (offe p hp) (offi p hp), (bN p hp).1⟩
            exact ⟨old7 _ _ hpe.2 (up _ _ hpe.1 (N' p hp).1), (N' p hp).2⟩
        have hxv' : vs[i]? = some xv := by simpa using hxv
        refine wpAny_mono (hel i xv hxv' t ys _ oi3 H2.objs.size oC D _ h₇ _ _ hoC (by simp [hxx]) (by simp) F₇ N₇) (fun y s₄ h₄ => ?_) fun _ _ q => q
        obtain ⟨h₈, tk₈, rfl, F₈, N₈, r₈⟩ := h₄
        have z1 := (N₈ _ (.head _)).1
        have z2 := (N₈ _ (.tail _ (.head _))).1
        have z3 := (N₈ _ (.tail _ (.tail _ (.head _)))).1
        have z4 := (N₈ _ (.tail _ (.tail _ (.tail _ (.head _))))).1
        refine append_at (hsz := by show ys.toArray.size ≤ sizeLine; rw [List.size_toArray, hyl]; exact Nat.le_trans hi hsz) z4 fun h₉ hs₉ hD₉ => ?_
        have z5 := (N₈ (l, listOf vs.toArray nn) (.tail _ (.tail _ (.tail _ (.tail _ hm))))).1
        refine ⟨vs.length + 1 - (i + 1), by omega, h₉, _, i + 1, ys ++ [y], _, rfl, hlt, rfl, by rw [List.length_append, List.length_singleton, hyl],
          ⟨⟨old3, hs₉.extBut _ _ bE.2 z1⟩, ⟨oi3, hs₉.extBut _ _ bI.2 z2, hoir⟩, ⟨_, hs₉.extBut _ _ bl.2 z5, rfl, nn, rfl⟩⟩, F₈.change hs₉ hDL hD₀, (hoC.ns z3).sameBut hs₉ (Ne.symm hDC), fun p hp => ?_, ?_⟩
        · rcases List.mem_cons.mp hp with rfl | hp
          · exact ⟨hD₉.trans (congrArg some (LCg.lst_snoc ys y)), hDL, hD₀⟩
          · have z := N₈ p (.tail _ (.tail _ (.tail _ (.tail _ hp))))
            exact ⟨hs₉.extBut _ _ (bN p hp).2 z.1, z.2⟩
        · intro j z hz
          by_cases hj : j < ys.length
          · rw [List.getElem?_append_left hj] at hz; exact hr' j z hz
          · rw [List.getElem?_append_right (Nat.le_of_not_lt hj)] at hz
            have hj' : j = i := by
              by_cases q : j - ys.length = 0
              · omega
              · rw [List.getElem?_eq_none (by simp; omega)] at hz; cases hz
            subst hj'
            rw [hyl, Nat.sub_self] at hz
            cases hz
            exact r₈
      · have hin : i = vs.length := Nat.le_antisymm hi (Nat.not_lt.mp hlt)
        subst hin
        refine W.done _ _ _ (by simpa using hst') fun h₂ tk₂ hk₂ => ?_
        refine hRR D H2.objs.size h₂ tk₂ m' ys hyl hr' ⟨F'.ns.at' fun o q => hk₂ _ o (noE _ hLe hLi) q, fun b o q => hk₂ b o (old₀ b o q) (F'.keep b o q), F'.above⟩ (fun p hp => ?_) (fun p hp => (bN p hp).2) (hn'.at' fun o q => hk₂ _ o (noE _ (Ne.symm bE.1) (Ne.symm bI.1)) q) hC₀ hCL (Ne.symm hDC) (fun p hp => (bN p hp).1)
        have hpe : p.1 ∉ [e, it] := by
          rcases List.mem_cons.mp hp with rfl | hp
          · exact noE _ (Ne.symm bE.2) (Ne.symm bI.2)
          · exact noE _ (offe p hp) (offi p hp)
        exact ⟨hk₂ _ _ hpe (N' p hp).1, (N' p hp).2⟩
    · rcases List.mem_cons.mp hp with rfl | hp
      · exact ⟨hacc, hDL, hD₀⟩
      · exact ⟨old _ _ (N p hp).1, (N p hp).2⟩
  exact codeAny_compStart_list (loop _ rfl) (Ws 0 _ _ _ ⟨.none, old _ _ he0⟩ (loop _ rfl))
/-- what the iterable's walk has to show -/
noncomputable def ESrc (prog : Program) (w : World) (A : Around) (h₀ : Heap) (L : Addr) (m : Str → Option Value) (env : Env) (elt : Expr) (x x₂ : Str) (scope : Scope) (cl : List (Str × Addr)) (y : Str) (Q : Flow → Shared → Prop) (xv : Value) (s₁ : Shared) : Prop :=
  ∃ (e it l : Addr) (vs : List Value) (nn : Nat) (news : List (Addr × Obj)) (Rl : Nat → Value → Prop), xv = .ref e ∧ A.handled = none ∧ e ≠ it ∧ IsEnum s₁.heap e it 0 .none ∧ s₁.heap.IsListIter it l 0 ∧ (l, listOf vs.toArray nn) ∈ news ∧ vs.length ≤ sizeLine ∧ Fr h₀ L s₁.heap m ∧ News h₀ L s₁.heap news ∧
    h₀.get? e = none ∧ h₀.get? it = none ∧ L ≠ e ∧ L ≠ it ∧ (∀ p ∈ news, p.1 ≠ e) ∧ (∀ p ∈ news, p.1 ≠ it) ∧ (∀ i v, vs[i]? = some v → EEl prog w A h₀ L m env elt x x₂ scope cl s₁ e it news Rl i v) ∧
    (∀ D h tk zs, zs.length = vs.length → (∀ (j : Nat) y, zs[j]? = some y → Rl j y) → Fr h₀ L h (fun z => if z = y then some (.ref D) else m z) → News h₀ L h ((D, LCg.lst zs) :: news) → (∀ p ∈ news, p.1 ≠ D) → Q .next { s₁ with heap := h, toks := tk })
theorem assign_ecomp {elt iter : Expr} {x x₂ y : Str} {px px₂ tp py : Pos} {tk0} {scope : Scope} {cl : List (Str × Addr)} {pos spos : Pos} {Q : Flow → Shared → Prop} (_F₀ : Fr h₀ L s.heap m) (hLe : env.locals = L)
    (hsw : swapsWith (.ListComp elt [⟨.Tuple [.Name x px, .Name x₂ px₂] tk0 tp, iter, [], 0⟩] scope pos) (some (.Name y py)) spos.line env = pure true)
    (hclos : closureFor scope env = pure cl) (hcell : ∀ z ∈ scope.names, z.2 ≠ .cell) (hkind : scope.kind = .function)
    (hnames : ∀ z ∈ scope.names, z.2 = .local → scope.names.lookup z.1 = some .local) (hx : scope.names.lookup x = some .local) (hx₂ : scope.names.lookup x₂ = some .local) (hxx : x ≠ x₂)
    (hy : env.kindOf y = some .local) (hp : (env.scope.kind == .class || (env.scope.kind == .module && env.locals != env.globals)) = false)
    (h : wpAny (model prog w) A (eval iter env) (ESrc prog w A h₀ L m env elt x x₂ scope cl y Q) E s)
    (hs : ∀ x, foldedSetIterable iter env x = pure x := by intro _; rfl) :
    wpAny (model prog w) A (exec (.Assign [.Name y py] (.ListComp elt [⟨.Tuple [.Name x px, .Name x₂ px₂] tk0 tp, iter, [], 0⟩] scope pos) spos) env) Q E s := by
  subst hLe
  rw [exec_Assign_Name_used _ _ _ _ hsw]
  refine wpAny_bind (wpAny_standAt (wpAny_bind ?_))
  show wpAny _ A (do let _ ← comprehension (.ListComp elt [⟨.Tuple [.Name x px, .Name x₂ px₂] tk0 tp, iter, [], 0⟩] scope pos) scope env _ (newList []) false (eval iter env) (some (assign (.Name y py) env))) _ _ s
  refine wpAny_bind (wpAny_mono (wpAny_comprehension_free (use := some (assign (.Name y py) env)) (Q := fun _ s' => Q .next s') rfl hs hclos hkind hnames
    (wpAny_mono h (fun xv s₁ h₁ => ?_) fun _ _ e => e)) (fun _ s' hq => wpAny_pure (wpAny_pure hq)) fun _ _ e => e)
  obtain ⟨e, it, l, vs, nn, news, Rl, rfl, hh, hei, hE, hI, hm, hsz, F, N, e0, i0, le, li, offe, offi, hel, fin⟩ := h₁
  refine wpAny_pyIter_enum hE ?_
  refine ecomp_block hh hei hE hI hm hsz hcell hkind hx hx₂ hxx F N e0 i0 le li offe offi hel ?_
  intro D C h tk m' ys hyl hyr F' N' o1 hn hC₀ hCL hCD offC
  show wpAny _ A (assign (.Name y py) env (.ref D)) _ _ _
  refine wpAny_assign_Name (wpAny_storeName_local hy F'.ns (fun h₂ hn₂ hs₂ => ?_) hp)
  have hL₀ : h₀.get? env.locals = none := Heap.get?_none_of_le F'.above
  have F₂ : Fr h₀ env.locals h₂ (fun z => if z = y then some (.ref D) else m z) := ⟨hn₂, fun b o e => hs₂.extBut b o (fun q => by rw [q, hL₀] at e; cases e) (F'.keep b o e), F'.above⟩
  refine ⟨m', hn.sameBut hs₂ hCL, fun h'' hs'' => fin D h'' _ ys hyl hyr (F₂.change hs'' hCL hC₀) (fun p hp => ?_) o1⟩
  have z : h₂.get? p.1 = some p.2 := hs₂.extBut _ _ (N' p hp).2.1 (N' p hp).1
  refine ⟨hs''.extBut _ _ ?_ z, (N' p hp).2⟩
  rcases List.mem_cons.mp hp with rfl | hp
  · exact Ne.symm hCD
  · exact offC p hp
theorem enum_src {elt : Expr} {x x₂ y : Str} {scope : Scope} {cl : List (Str × Addr)} {Q : Flow → Shared → Prop} {l : Addr} {vs : List Value} {nn : Nat} {news : List (Addr × Obj)} (Rl : Nat → Value → Prop) (F : Fr h₀ L s.heap m) (N : News h₀ L s.heap news) (hm : (l, listOf vs.toArray nn) ∈ news) (hh : A.handled = none) (hsz : vs.length ≤ sizeLine)
    (hel : ∀ (e it : Nat) g i v, vs[i]? = some v → EEl prog w A h₀ L m env elt x x₂ scope cl { s with heap := g } e it news Rl i v)
    (fin : ∀ D h tk zs, zs.length = vs.length → (∀ (j : Nat) y, zs[j]? = some y → Rl j y) → Fr h₀ L h (fun z => if z = y then some (.ref D) else m z) → News h₀ L h ((D, LCg.lst zs) :: news) → (∀ p ∈ news, p.1 ≠ D) → Q .next { s with heap := h, toks := tk }) :
    wpAny (model prog w) A (call (.type "enumerate") [.ref l]) (ESrc prog w A h₀ L m env elt x x₂ scope cl y Q) E s := by
  have hl : s.heap.IsList l vs.toArray := ⟨_, (N _ hm).1, rfl, nn, rfl⟩
  refine call_enumerate_list hl fun h' hE hI hz hk => ?_
  refine ⟨s.heap.objs.size + 1, s.heap.objs.size, l, vs, nn, news, Rl, rfl, hh, Nat.succ_ne_self _, hE, hI, hm, hsz, F.keeps hk, N.grown hk, get_new F.keep (Nat.le_succ _), get_new F.keep (Nat.le_refl _),
    Nat.ne_of_lt (Nat.lt_succ_of_lt F.ns.lt), Nat.ne_of_lt F.ns.lt, fun p hp => Nat.ne_of_lt (Nat.lt_succ_of_lt (Heap.lt_size (N p hp).1)), fun p hp => Nat.ne_of_lt (Heap.lt_size (N p hp).1), fun i v hv => hel _ _ _ i v hv, fin⟩
end
end Mine
namespace Mine
theorem pick_len (ns : List Int) (lo : Option Int) : (pickNums ns lo (some 20) (some 5)).length ≤ 4 := by
  unfold pickNums
  refine Nat.le_trans (List.length_filterMap_le _ _) ?_
  have h0 : 0 ≤ (sliceBounds lo (some 20) (some 5) ns.length).1 := by
    cases lo with
    | none => simp [sliceBounds]
    | some i => simp only [sliceBounds, Option.getD_some, show (5 : Int) > 0 by decide, if_true]; omega
  have h1 : (sliceBounds lo (some 20) (some 5) ns.length).2.1 ≤ 20 := by
    simp only [sliceBounds, Option.getD_some, show (5 : Int) > 0 by decide, if_true, show ¬ (20 : Int) < 0 by decide, if_false]; omega
  have h2 : (sliceBounds lo (some 20) (some 5) ns.length).2.2 = 5 := rfl
  rw [h2]
  generalize (sliceBounds lo (some 20) (some 5) ns.length).1 = a at h0
  generalize (sliceBounds lo (some 20) (some 5) ns.length).2.1 = b at h1
  unfold sliceRange
  rw [List.length_map, List.length_range]
  simp only [show (5 : Int) > 0 by decide, if_true]
  split <;> omega
theorem mod_sum : ∀ l : List Int, ∃ c : Nat, (l.map (·.fmod 4096)).sum = (c : Int) ∧ c ≤ 4095 * l.length
  | [] => ⟨0, rfl, Nat.le_refl _⟩
  | a :: r => by
    obtain ⟨c, h1, h2⟩ := mod_sum r
    have h3 : 0 ≤ a.fmod 4096 := Int.fmod_nonneg_of_pos _ (by decide)
    have h4 : a.fmod 4096 < 4096 := Int.fmod_lt_of_pos _ (by decide)
    refine ⟨(a.fmod 4096).toNat + c, ?_, ?_⟩
    · rw [List.map_cons, List.sum_cons, h1]; omega
    · rw [List.length_cons]; omega
theorem cells_of : ∀ {zs : List Value}, (∀ (j : Nat) y, zs[j]? = some y → ∃ (c : Nat) (t : Tok), y = .int (c : Int) t ∧ c < 2 ^ 15) → ∃ cs : List Nat, IntsAre zs (cs.map fun k : Nat => (k : Int)) ∧ cs.length = zs.length ∧ ∀ c ∈ cs, c < 2 ^ 15
  | [], _ => ⟨[], .nil, rfl, fun _ h => nomatch h⟩
  | z :: r, h => by
    obtain ⟨c, t, rfl, hc⟩ := h 0 z rfl
    obtain ⟨cs, h1, h2, h3⟩ := cells_of (zs := r) (fun j y hy => h (j + 1) y (by simpa using hy))
    refine ⟨c :: cs, .cons _ t h1, by rw [List.length_cons, List.length_cons, h2], fun d hd => ?_⟩
    rcases List.mem_cons.mp hd with rfl | hd
    · exact hc
    · exact h3 d hd
end Mine
namespace Mine
section
variable {prog : Program} {w : World} {A : Around} {E : Value → Shared → Prop} {s : Shared} {h₀ : Heap} {L : Addr} {m : Str → Option Value} {news : List (Addr × Obj)}
theorem draw_list {I l : Addr} {vs : List Value} (hne : I ≠ l) (hh : A.handled = none) : ∀ (n i : Nat) (s : Shared) (Q : List Value → Shared → Prop), s.heap.IsListIter I l i → s.heap.IsList l vs.toArray → i + n ≤ vs.length →
    (∀ h' tk, h'.IsListIter I l (i + n) → h'.IsList l vs.toArray → (∀ b o, b ≠ I → s.heap.get? b = some o → h'.get? b = some o) → Q ((vs.drop i).take n) { s with heap := h', toks := tk }) → wpAny (model prog w) A (draw (.ref I) n) Q E s
  | 0, i, s, Q, hit, hl, _, hQ => by
    show wpAny _ _ (pure []) Q E s
    exact wpAny_pure (by simpa using hQ s.heap s.toks hit hl fun b o _ e => e)
  | n + 1, i, s, Q, hit, hl, hle, hQ => by
    have W := Walks.list (prog := prog) (w := w) (A := A) hh I l hne.symm vs.toArray
    have hlt : i < vs.length := by omega
    show wpAny _ _ (pyNext (.ref I) >>= _) Q E s
    refine wpAny_bind (W.item i s _ E (by simpa using hlt) ⟨hit, hl⟩ fun v h₁ tk₁ hv st₁ hk₁ => ?_)
    have hv' : vs[i]? = some v := by
      have h1 : vs.toArray[i]? = some v := hv
      simpa using h1
    refine wpAny_bind (wpAny_holding (draw_list hne hh n (i + 1) _ _ st₁.1 st₁.2 (by omega) fun h₂ tk₂ hit₂ hl₂ hk₂ => wpAny_pure ?_))
    have hd : vs.drop i = v :: vs.drop (i + 1) := by
      have h2 := List.getElem?_eq_some_iff.mp hv'
      rw [List.drop_eq_getElem_cons hlt, h2.2]
    have := hQ h₂ tk₂ (by rw [show i + (n + 1) = i + 1 + n by omega]; exact hit₂) hl₂ (fun b o hb e => hk₂ b o hb (hk₁ b o (by simpa using hb) e))
    rw [hd, List.take_succ_cons] at this
    exact this
theorem unpack_list {elts : List Expr} {k} {pos : Pos} {env : Env} {l : Addr} {vs : List Value} {nn : Nat} {Q : Unit → Shared → Prop} (F : Fr h₀ L s.heap m) (N : News h₀ L s.heap news) (hm : (l, listOf vs.toArray nn) ∈ news)
    (hh : A.handled = none) (hn : (assignEach elts env).length = vs.length) (hstar : (assignEach elts env).findIdx? (·.1) = none)
    (h : ∀ h' tk, Fr h₀ L h' m → News h₀ L h' news → wpAny (model prog w) A (assignInOrder ((assignEach elts env).map (·.2)) vs) Q E { s with heap := h', toks := tk }) :
    wpAny (model prog w) A (assign (.Tuple elts k pos) env (.ref l)) Q E s := by
  have hax := N _ hm
  have hl : s.heap.IsList l vs.toArray := ⟨_, hax.1, rfl, nn, rfl⟩
  have hlt : l < s.heap.objs.size := Heap.lt_size hax.1
  rw [assign_Tuple]
  refine wpAny_bind (wpAny_standAt ?_)
  unfold unpack
  rw [hn, hstar]
  refine wpAny_bind (wpAny_holding ?_)
  unfold unpackItems
  refine wpAny_bind ?_
  unfold notIterableAtAll
  refine wpAny_bind (wpAny_specialOf hl.typeIs slot_list_iter.lookup ?_)
  refine wpAny_pure ?_
  simp only [Bool.false_eq_true, if_false]
  refine wpAny_bind (wpAny_holding (wpAny_pyIter_list hl ?_))
  have hI0 : (s.heap.push { cls := .type "list_iterator", data := .fields #[.ref l, .int 0 0] }).IsListIter s.heap.objs.size l 0 := ⟨_, Heap.get?_push_size _ rfl, rfl, rfl⟩
  refine wpAny_bind (wpAny_holding (draw_list (Nat.ne_of_gt hlt) hh vs.length 0 _ _ hI0 (hl.push _) (by omega) fun h₁ tk₁ hit₁ hl₁ hk₁ => ?_))
  rw [Nat.zero_add] at hit₁
  rw [List.drop_zero, List.take_length, if_neg (by simp)]
  have W := Walks.list (prog := prog) (w := w) (A := A) hh s.heap.objs.size l (Nat.ne_of_lt hlt) vs.toArray
  refine wpAny_bind (wpAny_holding (W.done _ _ _ (by simpa using ⟨hit₁, hl₁⟩) fun h₂ tk₂ hk₂ => ?_))
  simp only [Option.isSome_none, Bool.false_eq_true, if_false]
  have hk : ∀ b o, s.heap.get? b = some o → h₂.get? b = some o := fun b o e => by
    have hb : b ≠ s.heap.objs.size := Nat.ne_of_lt (Heap.lt_size e)
    exact hk₂ b o (by simpa using hb) (hk₁ b o hb (Heap.get?_push_of_some _ e))
  exact wpAny_pure (h h₂ tk₂ (F.keeps hk) (N.grown hk))
end
end Mine
namespace Mine
section
variable {prog : Program} {w : World} {A : Around} {E : Value → Shared → Prop} {s : Shared} {t : Tok} {Q : Value → Shared → Prop}
theorem join_emptyJ : ∀ ws : List Str, (Str.join (Str.ofString "") ws).cps.toList = ws.flatMap (·.cps.toList)
  | [] => rfl
  | [x] => by simp [Str.join]
  | x :: y :: r => by
    have e : Str.join (Str.ofString "") (x :: y :: r) = x ++ Str.ofString "" ++ Str.join (Str.ofString "") (y :: r) := rfl
    rw [e, Str.cps_append, Str.cps_append, Array.toList_append, Array.toList_append, join_emptyJ (y :: r)]
    rw [show (Str.ofString "").cps.toList = [] by rfl]
    simp
theorem join_empty (ws : List Str) : (Txt.join (Str.ofString "") ws).cps.toList = ws.flatMap (·.cps.toList) := by
  rw [Txt.join, StrLaws.glued_eq_join]; exact join_emptyJ ws
theorem join_strs {D : Addr} {vs : List Value} {ws : List Str} {nn : Nat} (hl : s.heap.get? D = some (listOf vs.toArray nn)) (hi : StrsAre vs ws) (hok : (ws.flatMap (·.cps.toList)).length ≤ 16777216)
    (h : ∀ t' k, Q (.str ⟨(ws.flatMap (·.cps.toList)).toArray⟩ t') { s with toks := k }) : wpAny (model prog w) A (call (.builtin "str.join") [.str (Str.ofString "") t, .ref D]) Q E s := by
  have e : Txt.join (Str.ofString "") ws = ⟨(ws.flatMap (·.cps.toList)).toArray⟩ := by rw [← join_empty]
  have e2 : ∀ l : List Str, (l.map (·.length)).sum = (l.flatMap (·.cps.toList)).length := by
    intro l
    induction l with
    | nil => rfl
    | cons a r ih => simp only [List.map_cons, List.sum_cons, ih, List.flatMap_cons, List.length_append]; rfl
  rw [← e] at h
  refine join_list (ys := ws) ⟨_, hl, rfl, nn, rfl⟩ hi ?_ h
  rw [e2, show (Str.ofString "").length = 0 by decide]
  omega
end
section
open PySem.Builtin PySem.Builtin.Re
theorem plainAttrs_re : PlainAttrs "re.Pattern" :=
  ⟨⟨"object.__getattribute__", by rw [typeLookup_type, builtinLookup_eq_fast]; kernel_rfl, by decide +kernel⟩, by rw [typeLookup_type, builtinLookup_eq_fast]; kernel_rfl⟩
theorem slot_re_search : Slot "re.Pattern" "search" "re.Pattern.search" :=
  .of (owner := "re.Pattern") (n := "search") (by rw [typeLookup_type, builtinLookup_eq_fast]; kernel_rfl) (by decide +kernel) (by decide +kernel) (by decide +kernel)
    (by first | exact .inl (by decide +kernel) | exact .inr (by decide +kernel)) (by rw [isSubtype_type]; kernel_rfl)
theorem type_re_search : typeOf (.builtin "re.Pattern.search") = pure (.type "method_descriptor") := by show builtinType _ = _; rw [builtinType_eq_fast]; kernel_rfl
theorem entry_re_search : entryFor table "re.Pattern.search" = some Builtin.«re.Pattern.search» := entryFor_of_tree (by kernel_rfl)
theorem slot_re_sub : Slot "re.Pattern" "sub" "re.Pattern.sub" :=
  .of (owner := "re.Pattern") (n := "sub") (by rw [typeLookup_type, builtinLookup_eq_fast]; kernel_rfl) (by decide +kernel) (by decide +kernel) (by decide +kernel)
    (by first | exact .inl (by decide +kernel) | exact .inr (by decide +kernel)) (by rw [isSubtype_type]; kernel_rfl)
theorem type_re_sub : typeOf (.builtin "re.Pattern.sub") = pure (.type "method_descriptor") := by show builtinType _ = _; rw [builtinType_eq_fast]; kernel_rfl
theorem entry_re_sub : entryFor table "re.Pattern.sub" = some Builtin.«re.Pattern.sub» := entryFor_of_tree (by kernel_rfl)
theorem entry_re_loop : entryFor table "re.Pattern.sub.loop" = some Builtin.«re.Pattern.sub.loop» := entryFor_of_tree (by kernel_rfl)
theorem owner_re : Manifest.owners.lookup (String.ofList ['n', 'r', 'e', 't', 't', 'a', 'P', '.', 'e', 'r'].reverse) = some Manifest.sig_re_Pattern := by kernel_rfl
theorem args_re_search (a b : Value) : argsOk "re.Pattern.search" ⟨[a, b], []⟩ := by
  unfold argsOk; rw [signature?_of (id := "re.Pattern.search") (n := ['h', 'c', 'r', 'a', 'e', 's']) (o := ['n', 'r', 'e', 't', 't', 'a', 'P', '.', 'e', 'r']) (by kernel_rfl) owner_re]; kernel_rfl
theorem args_re_sub (a b c : Value) : argsOk "re.Pattern.sub" ⟨[a, b, c], []⟩ := by
  unfold argsOk; rw [signature?_of (id := "re.Pattern.sub") (n := ['b', 'u', 's']) (o := ['n', 'r', 'e', 't', 't', 'a', 'P', '.', 'e', 'r']) (by kernel_rfl) owner_re]; kernel_rfl
end
section
open PySem.Builtin PySem.Builtin.Re
noncomputable def codeN : Array Nat := #[14, 10, 4, 1, 1, 22, 0, 31, 16, 127, 0, 13, 7, 22, 0, 31, 16, 127, 0, 1]
noncomputable def codeV : Array Nat := #[14, 14, 4, 1, 1, 9, 4294966783, 0, 0, 2147483648, 0, 0, 0, 0, 0, 13, 11, 9, 4294966783, 0, 0, 2147483648, 0, 0, 0, 0, 0, 1]
noncomputable def codeD : Array Nat := #[14, 4, 0, 1, 1, 6, 1, 16, 46, 1]
noncomputable def codeR : Array Nat := #[14, 9, 4, 1, 2, 16, 10, 16, 13, 0, 7, 7, 16, 13, 16, 10, 15, 18, 5, 16, 10, 15, 13, 11, 16, 13, 5, 5, 0, 16, 10, 1, 15, 2, 0, 1]
theorem inN (c : Nat) (h0 : 32 ≤ c) (h1 : c < 127) (seen : Sre.Seen) : ∃ seen', Sre.inSet codeN c codeN.size 5 true seen = .ok (false, seen') := by
  have e1 : (decide (0 ≤ c) && decide (c ≤ 31)) = false := by simp; omega
  have e2 : (c == 127) = false := by simp; omega
  refine ⟨((seen.add 22).add 16).add 0, ?_⟩
  show (if (decide (0 ≤ c) && decide (c ≤ 31)) = true then _ else if (c == 127) = true then _ else _) = _
  rw [e1, e2]
  rfl
theorem inV : ∀ (c : Nat) (h0 : 65 ≤ c) (h1 : c < 96) (seen : Sre.Seen), ∃ seen', Sre.inSet codeV c codeV.size 5 true seen = .ok (false, seen') := by
  intro c h0 h1 seen
  refine ⟨(seen.add 9).add 0, ?_⟩
  show (if (decide (c < 256) && ((codeV.getD (5 + (1 + c / 32)) 0).testBit (c % 32))) = true then _ else _) = _
  have e : (decide (c < 256) && ((codeV.getD (5 + (1 + c / 32)) 0).testBit (c % 32))) = false := by
    have : c / 32 = 2 := by omega
    rw [this]
    show (_ && (Nat.testBit 0 _)) = false
    simp
  rw [e]
  rfl
theorem admitted_none {m : Sre.M} (h : ∀ c ∈ m.text.toList, ∀ seen, ∃ seen', Sre.inSet m.code c m.code.size 5 true seen = .ok (false, seen')) (hl : m.lim ≤ m.text.size) :
    ∀ (fuel s : Nat) (seen : Sre.Seen), ∃ seen', Sre.M.admitted m fuel s seen = .ok (none, seen')
  | 0, _, seen => ⟨seen, rfl⟩
  | fuel + 1, s, seen => by
    unfold Sre.M.admitted
    by_cases hs : s ≥ m.lim
    · rw [if_pos hs]; exact ⟨_, rfl⟩
    · rw [if_neg hs]
      have hm : m.text.getD s 0 ∈ m.text.toList := by
        have h1 : s < m.text.size := by omega
        rw [show m.text.getD s 0 = m.text[s] by simp [h1]]
        simp
      obtain ⟨seen', e⟩ := h _ hm seen
      rw [e]
      exact admitted_none h hl fuel (s + 1) seen'
theorem runFor_done {m : Sre.M} (h : m.outcome.isSome = true) : ∀ n, m.runFor n = m
  | 0 => rfl
  | n + 1 => by unfold Sre.M.runFor; rw [if_pos h]
theorem runFor_add : ∀ (a b : Nat) (m : Sre.M), m.runFor (a + b) = (m.runFor a).runFor b
  | 0, b, m => by rw [Nat.zero_add]; rfl
  | a + 1, b, m => by
    rw [show a + 1 + b = (a + b) + 1 by omega]
    by_cases h : m.outcome.isSome = true
    · rw [runFor_done h, runFor_done h, runFor_done h]
    · show (if m.outcome.isSome = true then m else m.step.runFor (a + b)) = ((if m.outcome.isSome = true then m else m.step.runFor a)).runFor b
      rw [if_neg h, if_neg h, runFor_add a b]
section
variable {M : Model} {A : Around} {E : Value → Shared → Prop} {s : Shared}
theorem drive_ok {Q : Sre.M → Shared → Prop} : ∀ (k turns : Nat) (m m' : Sre.M), k < turns → m.runFor (4 * (k + 1)) = m' → m'.outcome.isSome = true → Q m' s → wpAny M A (reDrive turns m) Q E s
  | k, 0, _, _, h, _, _, _ => absurd h (Nat.not_lt_zero _)
  | k, turns + 1, m, m', h, e, ho, hQ => by
    show wpAny M A (if (m.runFor 4).outcome.isSome = true then pure (m.runFor 4) else (do rule "sre.turn"; reDrive turns (m.runFor 4))) Q E s
    by_cases h4 : (m.runFor 4).outcome.isSome = true
    · rw [if_pos h4]
      rw [show 4 * (k + 1) = 4 + 4 * k by omega, runFor_add, runFor_done h4] at e
      rw [e]
      exact wpAny_pure hQ
    · rw [if_neg h4]
      cases k with
      | zero => rw [e] at h4; exact absurd ho h4
      | succ k =>
        rw [show 4 * (k + 1 + 1) = 4 + 4 * (k + 1) by omega, runFor_add] at e
        exact wpAny_bind (wpAny_rule (drive_ok k turns _ m' (by omega) e ho hQ))
theorem rules_loop {f : Nat → Bool} {g : Nat → String} {Q : PUnit → Shared → Prop} (hQ : Q ⟨⟩ s) : ∀ l : List Nat, wpAny M A (forIn l PUnit.unit fun i _ => do
      if f i then rule (g i)
      pure (ForInStep.yield PUnit.unit)) Q E s
  | [] => wpAny_pure hQ
  | i :: l => by
    simp only [List.forIn_cons]
    refine wpAny_bind ?_
    by_cases h : f i = true
    · simp only [h, if_true]
      exact wpAny_bind (wpAny_rule (wpAny_pure (rules_loop hQ l)))
    · simp only [h]
      exact wpAny_pure (rules_loop hQ l)
end
end
section
open PySem.Builtin PySem.Builtin.Re
section
variable {M : Model} {A : Around} {E : Value → Shared → Prop} {s : Shared}
theorem toEnd_ok {Q : Option Sre.M → Shared → Prop} {m m' : Sre.M} (k : Nat) (hk : k < 2 ^ 64) (e : m.runFor (4 * (k + 1)) = m')
    (h : match m'.outcome with | some .matched => Q (some m') s | some .failed => Q none s | _ => False) : wpAny M A (reRunToEnd m) Q E s := by
  unfold reRunToEnd
  have ho : m'.outcome.isSome = true := by
    cases hq : m'.outcome with
    | none => rw [hq] at h; exact h.elim
    | some _ => rfl
  refine wpAny_bind (drive_ok k _ m m' hk e ho ?_)
  refine wpAny_bind (rules_loop ?_ _)
  cases hq : m'.outcome with
  | none => rw [hq] at h; exact h.elim
  | some o =>
    rw [hq] at h
    cases o with
    | matched => exact wpAny_pure h
    | failed => exact wpAny_pure h
    | stuck _ => exact h.elim
/-- a pattern of the top -/
noncomputable def IsPat (h : Heap) (a : Addr) (cs : Array Nat) : Prop :=
  ∃ o fs c oc xs n, h.get? a = some o ∧ o.cls = .type "re.Pattern" ∧ o.dict = none ∧ o.data = .fields fs ∧ fs.getD 5 .none = .ref c ∧ fs.getD 6 .none = .int 0 0 ∧ fs.getD 2 .none = .int 0 0 ∧
    h.get? c = some oc ∧ oc.cls = .type "tuple" ∧ oc.data = .seq xs n ∧ (xs.map reRawOf).map Int.toNat = cs
theorem IsPat.typeIs {a : Addr} {cs : Array Nat} (h : IsPat s.heap a cs) : s.TypeIs (.ref a) "re.Pattern" := by
  obtain ⟨o, _, _, _, _, _, ho, hc, _⟩ := h
  exact ⟨o, ho, hc⟩
theorem IsPat.keeps {h h' : Heap} {a : Addr} {cs : Array Nat} (x : IsPat h a cs) (k : ∀ b o, h.get? b = some o → h'.get? b = some o) : IsPat h' a cs := by
  obtain ⟨o, fs, c, oc, xs, n, h1, h2, h3, h4, h5, h6, h7, h8, h9⟩ := x
  exact ⟨o, fs, c, oc, xs, n, k _ _ h1, h2, h3, h4, h5, h6, h7, k _ _ h8, h9⟩
theorem named_search (v : Value) : reNamed "re.Pattern.search" "search" ["string", "pos", "endpos"] 1 [v] [] = pure [some v, none, none] := by kernel_rfl
theorem target_search {a : Addr} {x : Str} {t : Tok} {cs : Array Nat} (hp : IsPat s.heap a cs) (hx : x.cps.size < 2 ^ 62) {Q : ReTarget → Shared → Prop}
    (h : Q { pattern := .ref a, string := .str x t, code := cs, text := x.cps, kind := 0, groups := 0, pos := 0, lim := x.cps.size } s) :
    wpAny M A (reTarget "re.Pattern.search" "search" ⟨[.ref a, .str x t], []⟩) Q E s := by
  obtain ⟨o, fs, c, oc, xs, n, h1, h2, h3, h4, h5, h6, h7, h8, _, h9, rfl⟩ := hp
  unfold reTarget
  dsimp only
  rw [named_search]
  refine wpAny_bind (wpAny_pure ?_)
  dsimp only
  refine wpAny_bind (wpAny_pure ?_)
  refine wpAny_bind (wpAny_pure ?_)
  refine wpAny_bind (wpAny_bind (wpAny_load h1 ?_))
  rw [h4]
  refine wpAny_pure ?_
  refine wpAny_bind (wpAny_bind (wpAny_pure (wpAny_pure ?_)))
  dsimp only
  rw [h6]
  refine wpAny_bind (wpAny_pure ?_)
  rw [h5, h7]
  refine wpAny_bind (wpAny_bind (wpAny_bind (wpAny_load h8 ?_)))
  rw [h9]
  refine wpAny_pure (wpAny_pure (wpAny_pure ?_))
  have e1 : Min.min (Int.toNat 0) x.cps.size = 0 := by simp
  have e2 : Min.min (2 ^ 63 - 1 : Int).toNat x.cps.size = x.cps.size := by omega
  rw [e1, e2]
  exact h
theorem search_fail {prog : Program} {w : World} {a : Addr} {x : Str} {t : Tok} {cs : Array Nat} (hp : IsPat s.heap a cs) (hx : x.cps.size < 2 ^ 62) {E : Value → Shared → Prop} {Q : Value → Shared → Prop} (k : Nat) (hk : k < 2 ^ 64)
    (e : ((Sre.forSearch cs x.cps 0 0 x.cps.size false).runFor (4 * (k + 1))).outcome = some .failed) (h : Q .none s) :
    wpAny (model prog w) A (call (.builtin "re.Pattern.search") [.ref a, .str x t]) Q E s := by
  refine wpAny_call_entry slot_re_search hp.typeIs entry_re_search ?_ (args_re_search _ _)
  unfold Builtin.«re.Pattern.search»
  refine wpAny_bind (target_search hp hx ?_)
  dsimp only
  unfold reAnswer
  refine wpAny_bind (toEnd_ok k hk rfl ?_)
  rw [e]
  exact wpAny_pure ⟨_, rfl, h⟩
theorem getMethod_search {a : Addr} {cs : Array Nat} {pl : Sem Bool} (hp : IsPat s.heap a cs) {Q : Value × List Value → Shared → Prop} (h : Q (.builtin "re.Pattern.search", [.ref a]) s) : wpAny M A (getMethod (.ref a) "search" pl) Q E s :=
  getMethod_builtin hp.typeIs plainAttrs_re slot_re_search type_re_search (fun b e => by cases e; obtain ⟨o, _, _, _, _, _, ho, _, hd, _⟩ := hp; exact ⟨o, ho, hd⟩) h
theorem getMethod_sub {a : Addr} {cs : Array Nat} {pl : Sem Bool} (hp : IsPat s.heap a cs) {Q : Value × List Value → Shared → Prop} (h : Q (.builtin "re.Pattern.sub", [.ref a]) s) : wpAny M A (getMethod (.ref a) "sub" pl) Q E s :=
  getMethod_builtin hp.typeIs plainAttrs_re slot_re_sub type_re_sub (fun b e => by cases e; obtain ⟨o, _, _, _, _, _, ho, _, hd, _⟩ := hp; exact ⟨o, ho, hd⟩) h
theorem say_failed {m : Sre.M} (h1 : m.outcome = none) (h2 : m.frames = []) : ((m.say false).runFor 4).outcome = some .failed := by
  have e : (m.say false).step = { m.say false with outcome := some .failed } := by
    unfold Sre.M.step
    rw [if_neg (by show ¬ m.outcome.isSome = true; rw [h1]; decide)]
    show (match (some false : Option Bool), m.frames with | some yes, [] => _ | some yes, f :: rest => _ | none, _ => _) = _
    rw [h2]
    rfl
  show (if (m.say false).outcome.isSome = true then m.say false else (m.say false).step.runFor 3).outcome = _
  rw [if_neg (by show ¬ m.outcome.isSome = true; rw [h1]; decide), e, runFor_done rfl]
theorem attempt_none {m : Sre.M} (hf : m.hasFirstSet = true) (hl : m.lim ≤ m.text.size) (h : ∀ c ∈ m.text.toList, ∀ seen, ∃ seen', Sre.inSet m.code c m.code.size 5 true seen = .ok (false, seen'))
    (ho : m.outcome = none) (hfr : m.frames = []) (p : Nat) (first : Bool) : ((m.attemptFrom p first).runFor 4).outcome = some .failed := by
  unfold Sre.M.attemptFrom
  rw [hf]
  obtain ⟨seen', e⟩ := admitted_none h hl (m.lim + 1 - p) p m.seen
  rw [if_neg (by decide), e]
  exact say_failed ho hfr
/-- the search that finds none -/
theorem run_none {cs : Array Nat} {x : Array Nat} (hc : cs = codeN ∨ cs = codeV)
    (h : ∀ c ∈ x.toList, ∀ seen, ∃ seen', Sre.inSet cs c cs.size 5 true seen = .ok (false, seen')) :
    ((Sre.forSearch cs x 0 0 x.size false).runFor 4).outcome = some .failed := by
  have hl : (Sre.header cs).1 = 1 := by rcases hc with rfl | rfl <;> rfl
  unfold Sre.forSearch
  dsimp only
  rw [hl]
  by_cases hz : x.size = 0
  · rw [if_pos (by simp only [Bool.or_eq_true, decide_eq_true_eq]; omega)]
    exact say_failed rfl rfl
  · rw [if_neg (by simp only [Bool.or_eq_true, decide_eq_true_eq]; omega)]
    exact attempt_none (by rcases hc with rfl | rfl <;> rfl) (Nat.le_refl _) h rfl rfl 0 true
theorem search_plainN {prog : Program} {w : World} {a : Addr} {x : Str} {t : Tok} (hp : IsPat s.heap a codeN) (hx : x.cps.size < 2 ^ 62) (h : ∀ c ∈ x.cps.toList, 32 ≤ c ∧ c < 127) {E : Value → Shared → Prop} {Q : Value → Shared → Prop}
    (hQ : Q .none s) : wpAny (model prog w) A (call (.builtin "re.Pattern.search") [.ref a, .str x t]) Q E s :=
  search_fail hp hx 0 (by decide) (run_none (.inl rfl) fun c hc seen => inN c (h c hc).1 (h c hc).2 seen) hQ
theorem search_plainV {prog : Program} {w : World} {a : Addr} {x : Str} {t : Tok} (hp : IsPat s.heap a codeV) (hx : x.cps.size < 2 ^ 62) (h : ∀ c ∈ x.cps.toList, 65 ≤ c ∧ c < 81) {E : Value → Shared → Prop} {Q : Value → Shared → Prop}
    (hQ : Q .none s) : wpAny (model prog w) A (call (.builtin "re.Pattern.search") [.ref a, .str x t]) Q E s :=
  search_fail hp hx 0 (by decide) (run_none (.inr rfl) fun c hc seen => inV c (h c hc).1 (Nat.lt_trans (h c hc).2 (by decide)) seen) hQ
end
end
section
open PySem.Builtin PySem.Builtin.Re
/-- the machine, as far as it turns here -/
noncomputable def Mk (cs x : Array Nat) (st pc pos hd : Nat) (o : Bool) (ans : Option Bool) (fr : List Sre.Frame) (seen : Sre.Seen) : Sre.M :=
  { code := cs, text := x, lim := x.size, start := st, lastStart := x.size, pc := pc, pos := pos, handed := hd, outermost := o, marks := #[], frames := fr, weight := fr.length, answer := ans, seen := seen }
noncomputable def At (cs x : Array Nat) (st pc pos hd : Nat) (o : Bool) (ans : Option Bool) (fr : List Sre.Frame) (m : Sre.M) : Prop := ∃ seen, m = Mk cs x st pc pos hd o ans fr seen
section
variable {x : Array Nat} {st pos hd : Nat} {o : Bool} {fr : List Sre.Frame} {m : Sre.M}
theorem r_lit {pc v : Nat} (hv : (pc = 12 ∧ v = 13) ∨ (pc = 14 ∧ v = 10) ∨ (pc = 19 ∧ v = 10) ∨ (pc = 24 ∧ v = 13) ∨ (pc = 29 ∧ v = 10)) (h : At codeR x st pc pos hd o none fr m) (h1 : pos < x.size) (h2 : x.getD pos 0 = v) :
    At codeR x st (pc + 2) (pos + 1) hd o none fr m.step := by
  obtain ⟨seen, rfl⟩ := h
  have h1' : ¬ pos ≥ x.size := Nat.not_le.mpr h1
  have h2' : (x.getD pos 0 == v) = true := by rw [h2]; simp
  rcases hv with ⟨rfl, rfl⟩ | ⟨rfl, rfl⟩ | ⟨rfl, rfl⟩ | ⟨rfl, rfl⟩ | ⟨rfl, rfl⟩ <;>
  · refine ⟨seen.add 16, ?_⟩
    first
    | (show (if pos ≥ x.size then _ else (match (Except.ok (x.getD pos 0 == 13, _) : Except String (Bool × Sre.Seen)) with | .error why => _ | .ok (false, seen) => _ | .ok (true, seen) => _)) = _
       rw [if_neg h1', h2']; rfl)
    | (show (if pos ≥ x.size then _ else (match (Except.ok (x.getD pos 0 == 10, _) : Except String (Bool × Sre.Seen)) with | .error why => _ | .ok (false, seen) => _ | .ok (true, seen) => _)) = _
       rw [if_neg h1', h2']; rfl)
theorem r_litF {pc v : Nat} (hv : (pc = 12 ∧ v = 13) ∨ (pc = 14 ∧ v = 10) ∨ (pc = 19 ∧ v = 10) ∨ (pc = 24 ∧ v = 13) ∨ (pc = 29 ∧ v = 10)) (h : At codeR x st pc pos hd o none fr m) (h2 : pos < x.size → x.getD pos 0 ≠ v) :
    At codeR x st pc pos hd o (some false) fr m.step := by
  obtain ⟨seen, rfl⟩ := h
  rcases hv with ⟨rfl, rfl⟩ | ⟨rfl, rfl⟩ | ⟨rfl, rfl⟩ | ⟨rfl, rfl⟩ | ⟨rfl, rfl⟩ <;>
  · refine ⟨seen.add 16, ?_⟩
    by_cases h1 : pos ≥ x.size
    · show (if pos ≥ x.size then _ else _) = _
      rw [if_pos h1]; rfl
    · have h2' := beq_eq_false_iff_ne.mpr (h2 (Nat.lt_of_not_le h1))
      first
      | (show (if pos ≥ x.size then _ else (match (Except.ok (x.getD pos 0 == 13, _) : Except String (Bool × Sre.Seen)) with | .error why => _ | .ok (false, seen) => _ | .ok (true, seen) => _)) = _
         rw [if_neg h1, h2']; rfl)
      | (show (if pos ≥ x.size then _ else (match (Except.ok (x.getD pos 0 == 10, _) : Except String (Bool × Sre.Seen)) with | .error why => _ | .ok (false, seen) => _ | .ok (true, seen) => _)) = _
         rw [if_neg h1, h2']; rfl)
noncomputable def fB (pc pos : Nat) (o : Bool) : Sre.Frame := { wait := .nextBranch, pc := pc, pos := pos, outermost := o }
noncomputable def fS (pos : Nat) (o : Bool) (pc : Nat) : Sre.Frame := { wait := .nextStart, pc := pc, pos := pos, outermost := o }
theorem r_branch (h : At codeR x st 10 pos hd o none [fS pos o 10] m) : At codeR x st 12 pos pos o none [fB 11 pos o, fS pos o 10] m.step := by
  obtain ⟨seen, rfl⟩ := h
  exact ⟨seen.add 7, rfl⟩
theorem r_jump {pc : Nat} (hv : pc = 16 ∨ pc = 21 ∨ pc = 32) (h : At codeR x st pc pos hd o none fr m) : At codeR x st 35 pos hd o none fr m.step := by
  obtain ⟨seen, rfl⟩ := h
  rcases hv with rfl | rfl | rfl <;> exact ⟨seen.add 15, rfl⟩
theorem r_success (h : At codeR x st 35 pos hd o none fr m) : At codeR x st 35 pos pos o (some true) fr m.step := by
  obtain ⟨seen, rfl⟩ := h
  refine ⟨seen.add 1, ?_⟩
  cases o <;> rfl
theorem r_yes {f : Sre.Frame} {o' : Bool} {pc pc' p' : Nat} (hf : f = fB pc' p' o' ∨ f = fS p' o' pc') (h : At codeR x st pc pos hd o (some true) (f :: fr) m) : At codeR x st pc' p' hd o' (some true) fr m.step := by
  obtain ⟨seen, rfl⟩ := h
  refine ⟨seen, ?_⟩
  rcases hf with rfl | rfl <;> rfl
theorem r_next1 {p' : Nat} {o' : Bool} {pc : Nat} (h : At codeR x st pc pos hd o (some false) [fB 11 p' o', fS p' o' 10] m) : At codeR x st 19 p' p' o' none [fB 18 p' o', fS p' o' 10] m.step := by
  obtain ⟨seen, rfl⟩ := h
  exact ⟨seen, rfl⟩
theorem r_next2 {p' : Nat} {o' : Bool} {pc : Nat} (h : At codeR x st pc pos hd o (some false) [fB 18 p' o', fS p' o' 10] m) : At codeR x st 24 p' p' o' none [fB 23 p' o', fS p' o' 10] m.step := by
  obtain ⟨seen, rfl⟩ := h
  exact ⟨seen, rfl⟩
noncomputable def fL (pos : Nat) (o : Bool) : Sre.Frame := { wait := .lookNot, pc := 26, pos := pos, outermost := o }
theorem r_look (h : At codeR x st 26 pos hd o none fr m) (hl : fr.length ≤ 10) : At codeR x st 29 pos pos false none (fL pos o :: fr) m.step := by
  obtain ⟨seen, rfl⟩ := h
  refine ⟨seen.add 5, ?_⟩
  show (if fr.length + 1 + 0 > 16777216 then _ else _) = _
  rw [if_neg (by omega)]
  rfl
theorem r_lookNo {p' : Nat} {o' : Bool} {pc : Nat} (h : At codeR x st pc pos hd o (some false) (fL p' o' :: fr) m) : At codeR x st 32 p' hd o' none fr m.step := by
  obtain ⟨seen, rfl⟩ := h
  refine ⟨seen, ?_⟩
  show ({ Mk codeR x st 32 p' hd o' none fr seen with weight := (fr.length + 1) - (1 + 0) } : Sre.M) = _
  rw [show fr.length + 1 - (1 + 0) = fr.length by omega]
  rfl
theorem r_end {cs : Array Nat} {pc : Nat} (h : At cs x st pc pos hd o (some true) [] m) : m.step.outcome = some .matched ∧ m.step.start = st ∧ m.step.handed = hd := by
  obtain ⟨seen, rfl⟩ := h
  exact ⟨rfl, rfl, rfl⟩
theorem r_endF {cs : Array Nat} {pc : Nat} (h : At cs x st pc pos hd o (some false) [] m) : m.step.outcome = some .failed := by
  obtain ⟨seen, rfl⟩ := h
  rfl
end
end
section
open PySem.Builtin PySem.Builtin.Re
noncomputable def stepN : Nat → Sre.M → Sre.M
  | 0, m => m
  | n + 1, m => stepN n m.step
theorem step_done {m : Sre.M} (h : m.outcome.isSome = true) : m.step = m := by unfold Sre.M.step; rw [if_pos h]
theorem stepN_done {m : Sre.M} (h : m.outcome.isSome = true) : ∀ n, stepN n m = m
  | 0 => rfl
  | n + 1 => by unfold stepN; rw [step_done h]; exact stepN_done h n
theorem runFor_eq : ∀ n m, Sre.M.runFor n m = stepN n m
  | 0, _ => rfl
  | n + 1, m => by
    unfold Sre.M.runFor
    by_cases h : m.outcome.isSome = true
    · rw [if_pos h, stepN_done h]
    · rw [if_neg h]; exact runFor_eq n m.step
theorem stepN_add : ∀ a b m, stepN (a + b) m = stepN b (stepN a m)
  | 0, b, m => by rw [Nat.zero_add]; rfl
  | a + 1, b, m => by rw [show a + 1 + b = (a + b) + 1 by omega]; exact stepN_add a b m.step
theorem run_to {m : Sre.M} (k n : Nat) (hk : k ≤ n) (h : (stepN k m).outcome.isSome = true) : m.runFor n = stepN k m := by
  rw [runFor_eq, show n = k + (n - k) by omega, stepN_add, stepN_done h]
/-- the end of the row at q, where there is one -/
noncomputable def rEnd (x : Array Nat) (q : Nat) : Nat := if x.getD q 0 = 13 ∧ q + 1 < x.size ∧ x.getD (q + 1) 0 = 10 then q + 2 else q + 1
noncomputable def Found (m : Sre.M) (q e : Nat) : Prop := m.outcome = some .matched ∧ m.start = q ∧ m.handed = e
theorem runR {x : Array Nat} {q : Nat} {m : Sre.M} (h : At codeR x q 10 q q true none [fS q true 10] m) (h1 : q < x.size) (h2 : x.getD q 0 = 13 ∨ x.getD q 0 = 10) : Found (m.runFor 16) q (rEnd x q) := by
  have a1 := r_branch h
  by_cases hA : x.getD q 0 = 13 ∧ q + 1 < x.size ∧ x.getD (q + 1) 0 = 10
  · have a2 := r_lit (v := 13) (by simp) a1 h1 hA.1
    have a3 := r_lit (v := 10) (by simp) a2 hA.2.1 hA.2.2
    have a4 := r_jump (by simp) a3
    have a5 := r_success a4
    have a6 := r_yes (.inl rfl) a5
    have a7 := r_yes (.inr rfl) a6
    have a8 := r_end a7
    have e := run_to (m := m) 8 16 (by decide) (by show (Sre.M.step _).outcome.isSome = true; rw [a8.1]; rfl)
    rw [e, rEnd, if_pos hA]
    exact a8
  · rw [rEnd, if_neg hA]
    rcases h2 with h2 | h2
    · have a2 := r_lit (v := 13) (by simp) a1 h1 h2
      have a3 := r_litF (v := 10) (by simp) a2 (fun h5 h6 => hA ⟨h2, h5, h6⟩)
      have a4 := r_next1 a3
      have a5 := r_litF (v := 10) (by simp) a4 (fun _ => by rw [h2]; decide)
      have a6 := r_next2 a5
      have a7 := r_lit (v := 13) (by simp) a6 h1 h2
      have a8 := r_look a7 (by show 2 ≤ 10; decide)
      have a9 := r_litF (v := 10) (by simp) a8 (fun h5 h6 => hA ⟨h2, h5, h6⟩)
      have b1 := r_lookNo a9
      have b2 := r_jump (by simp) b1
      have b3 := r_success b2
      have b4 := r_yes (.inl rfl) b3
      have b5 := r_yes (.inr rfl) b4
      have b6 := r_end b5
      have e := run_to (m := m) 15 16 (by decide) (by show (Sre.M.step _).outcome.isSome = true; rw [b6.1]; rfl)
      rw [e]
      exact b6
    · have a2 := r_litF (v := 13) (by simp) a1 (fun _ => by rw [h2]; decide)
      have a3 := r_next1 a2
      have a4 := r_lit (v := 10) (by simp) a3 h1 h2
      have a5 := r_jump (by simp) a4
      have a6 := r_success a5
      have a7 := r_yes (.inl rfl) a6
      have a8 := r_yes (.inr rfl) a7
      have a9 := r_end a8
      have e := run_to (m := m) 9 16 (by decide) (by show (Sre.M.step _).outcome.isSome = true; rw [a9.1]; rfl)
      rw [e]
      exact a9
/-- the first set of the newline pattern -/
theorem inR (c : Nat) (seen : Sre.Seen) : ∃ seen', Sre.inSet codeR c codeR.size 5 true seen = .ok ((c == 10 || c == 13), seen') := by
  by_cases h1 : c = 10
  · subst h1; exact ⟨seen.add 16, rfl⟩
  · by_cases h2 : c = 13
    · subst h2; exact ⟨(seen.add 16).add 16, rfl⟩
    · have e1 : (c == 10) = false := by simp [h1]
      have e2 : (c == 13) = false := by simp [h2]
      refine ⟨((seen.add 16).add 16).add 0, ?_⟩
      rw [e1, e2]
      show (if (c == 10) = true then _ else if (c == 13) = true then _ else _) = _
      rw [e1, e2]
      rfl
/-- the first sign of two from s on -/
noncomputable def rNext (x : Array Nat) : (fuel s : Nat) → Option Nat
  | 0, _ => none
  | fuel + 1, s => if s ≥ x.size then none else if x.getD s 0 == 10 || x.getD s 0 == 13 then some s else rNext x fuel (s + 1)
theorem admittedR {m : Sre.M} (hc : m.code = codeR) (hl : m.lim = m.text.size) : ∀ (fuel s : Nat) (seen : Sre.Seen), ∃ seen', Sre.M.admitted m fuel s seen = .ok (rNext m.text fuel s, seen')
  | 0, _, seen => ⟨seen, rfl⟩
  | fuel + 1, s, seen => by
    unfold Sre.M.admitted rNext
    rw [hl]
    by_cases hs : s ≥ m.text.size
    · rw [if_pos hs, if_pos hs]; exact ⟨_, rfl⟩
    · rw [if_neg hs, if_neg hs, hc]
      obtain ⟨seen', e⟩ := inR (m.text.getD s 0) seen
      rw [e]
      cases hb : (m.text.getD s 0 == 10 || m.text.getD s 0 == 13) with
      | true => exact ⟨_, rfl⟩
      | false => exact admittedR hc hl fuel (s + 1) seen'
theorem rNext_some {x : Array Nat} : ∀ {fuel s q : Nat}, rNext x fuel s = some q → q < x.size ∧ (x.getD q 0 = 13 ∨ x.getD q 0 = 10) ∧ s ≤ q ∧ ∀ j, s ≤ j → j < q → x.getD j 0 ≠ 13 ∧ x.getD j 0 ≠ 10
  | 0, _, _, h => by cases h
  | fuel + 1, s, q, h => by
    unfold rNext at h
    split at h
    · cases h
    · rename_i hs
      split at h
      · rename_i hb
        cases h
        refine ⟨by omega, ?_, Nat.le_refl _, fun j h1 h2 => by omega⟩
        simp only [Bool.or_eq_true, beq_iff_eq] at hb
        exact hb.symm
      · rename_i hb
        obtain ⟨a, b, c, d⟩ := rNext_some h
        refine ⟨a, b, by omega, fun j h1 h2 => ?_⟩
        by_cases hj : j = s
        · subst hj; simp only [Bool.or_eq_true, beq_iff_eq, not_or] at hb; exact ⟨hb.2, hb.1⟩
        · exact d j (by omega) h2
theorem rNext_none {x : Array Nat} : ∀ {fuel s : Nat}, rNext x fuel s = none → x.size < fuel + s → ∀ j, s ≤ j → j < x.size → x.getD j 0 ≠ 13 ∧ x.getD j 0 ≠ 10
  | 0, s, _, hf, j, h1, h2 => by omega
  | fuel + 1, s, h, hf, j, h1, h2 => by
    unfold rNext at h
    split at h
    · omega
    · split at h
      · cases h
      · rename_i hb
        by_cases hj : j = s
        · subst hj; simp only [Bool.or_eq_true, beq_iff_eq, not_or] at hb; exact ⟨hb.2, hb.1⟩
        · exact rNext_none h (by omega) j (by omega) h2
noncomputable def M0 (cs x : Array Nat) (p pc : Nat) (seen : Sre.Seen) : Sre.M := { code := cs, text := x, lim := x.size, start := p, lastStart := x.size, pc := pc, pos := p, handed := p, marks := #[], seen := seen }
theorem attR (x : Array Nat) (p : Nat) (seen : Sre.Seen) : ∃ seen', Sre.M.attemptFrom (M0 codeR x p 10 seen) p true =
    match rNext x (x.size + 1 - p) p with
    | some q => Mk codeR x q 10 q q true none [fS q true 10] seen'
    | none => { M0 codeR x p 10 seen with seen := seen' }.say false := by
  obtain ⟨seen', e⟩ := admittedR (m := M0 codeR x p 10 seen) rfl rfl (x.size + 1 - p) p seen
  refine ⟨seen', ?_⟩
  show (match Sre.M.admitted (M0 codeR x p 10 seen) (x.size + 1 - p) p seen with | .ok (some s, seen) => _ | .ok (none, seen) => _ | .error why => _) = _
  rw [e]
  show (match (Except.ok (rNext x (x.size + 1 - p) p, seen') : Except String (Option Nat × Sre.Seen)) with | .ok (some s, seen) => _ | .ok (none, seen) => _ | .error why => _) = _
  cases rNext x (x.size + 1 - p) p with
  | none => rfl
  | some q => rfl
/-- a search for the next end of a row -/
theorem searchR (x : Array Nat) (p : Nat) (hp : p ≤ x.size) :
    match rNext x (x.size + 1 - p) p with
    | some q => Found ((Sre.forSearch codeR x 0 p x.size false).runFor 16) q (rEnd x q)
    | none => ((Sre.forSearch codeR x 0 p x.size false).runFor 16).outcome = some .failed := by
  have fail : ∀ m : Sre.M, m.outcome = none → m.frames = [] → ((m.say false).runFor 16).outcome = some .failed := fun m h1 h2 => by
    have e := say_failed h1 h2
    rw [show 16 = 4 + 12 by rfl, runFor_add, runFor_done (by rw [e]; rfl)]
    exact e
  have hl : (Sre.header codeR).1 = 1 := rfl
  unfold Sre.forSearch
  dsimp only
  rw [hl]
  by_cases hz : x.size - p = 0
  · rw [if_pos (by simp only [Bool.or_eq_true, decide_eq_true_eq]; omega)]
    have e : rNext x (x.size + 1 - p) p = none := by
      rw [show x.size + 1 - p = 1 by omega]
      unfold rNext
      rw [if_pos (by omega)]
    rw [e]
    exact fail _ rfl rfl
  · rw [if_neg (by simp only [Bool.or_eq_true, decide_eq_true_eq]; omega)]
    obtain ⟨seen', e⟩ := attR x p (({} : Sre.Seen).add 14)
    cases hn : rNext x (x.size + 1 - p) p with
    | none =>
      rw [hn] at e
      have e2 := fail { M0 codeR x p 10 (({} : Sre.Seen).add 14) with seen := seen' } rfl rfl
      rw [show Sre.M.say _ false = _ from e.symm] at e2
      exact e2
    | some q =>
      rw [hn] at e
      obtain ⟨h1, h2, _⟩ := rNext_some hn
      have e2 := runR (m := Mk codeR x q 10 q q true none [fS q true 10] seen') ⟨_, rfl⟩ h1 h2
      rw [show Mk codeR x q 10 q q true none [fS q true 10] seen' = _ from e.symm] at e2
      exact e2
end
section
open PySem.Builtin PySem.Builtin.Re
section
variable {x : Array Nat} {st pos hd : Nat} {o : Bool} {fr : List Sre.Frame} {m : Sre.M}
/-- the start of a row -/
noncomputable def rowAt (x : Array Nat) (p : Nat) : Bool := p == 0 || x.getD (p - 1) 0 == 10
theorem d_at (h : At codeD x st 5 pos hd o none fr m) (h1 : rowAt x pos = true) : At codeD x st 7 pos hd o none fr m.step := by
  obtain ⟨seen, rfl⟩ := h
  refine ⟨(seen.add 6).add 44, ?_⟩
  show (if rowAt x pos = true then _ else _) = _
  rw [if_pos h1]; rfl
theorem d_atF (h : At codeD x st 5 pos hd o none fr m) (h1 : rowAt x pos = false) : At codeD x st 5 pos hd o (some false) fr m.step := by
  obtain ⟨seen, rfl⟩ := h
  refine ⟨(seen.add 6).add 44, ?_⟩
  show (if rowAt x pos = true then _ else _) = _
  rw [if_neg (by rw [h1]; decide)]; rfl
theorem d_lit (h : At codeD x st 7 pos hd o none fr m) (h1 : pos < x.size) (h2 : x.getD pos 0 = 46) : At codeD x st 9 (pos + 1) hd o none fr m.step := by
  obtain ⟨seen, rfl⟩ := h
  have h1' : ¬ pos ≥ x.size := Nat.not_le.mpr h1
  have h2' : (x.getD pos 0 == 46) = true := by rw [h2]; simp
  refine ⟨seen.add 16, ?_⟩
  show (if pos ≥ x.size then _ else (match (Except.ok (x.getD pos 0 == 46, _) : Except String (Bool × Sre.Seen)) with | .error why => _ | .ok (false, seen) => _ | .ok (true, seen) => _)) = _
  rw [if_neg h1', h2']; rfl
theorem d_litF (h : At codeD x st 7 pos hd o none fr m) (h2 : pos < x.size → x.getD pos 0 ≠ 46) : At codeD x st 7 pos hd o (some false) fr m.step := by
  obtain ⟨seen, rfl⟩ := h
  refine ⟨seen.add 16, ?_⟩
  by_cases h1 : pos ≥ x.size
  · show (if pos ≥ x.size then _ else _) = _
    rw [if_pos h1]; rfl
  · have h2' := beq_eq_false_iff_ne.mpr (h2 (Nat.lt_of_not_le h1))
    show (if pos ≥ x.size then _ else (match (Except.ok (x.getD pos 0 == 46, _) : Except String (Bool × Sre.Seen)) with | .error why => _ | .ok (false, seen) => _ | .ok (true, seen) => _)) = _
    rw [if_neg h1, h2']; rfl
theorem d_success (h : At codeD x st 9 pos hd o none fr m) : At codeD x st 9 pos pos o (some true) fr m.step := by
  obtain ⟨seen, rfl⟩ := h
  refine ⟨seen.add 1, ?_⟩
  cases o <;> rfl
theorem d_yes {o' : Bool} {pc pc' p' : Nat} (h : At codeD x st pc pos hd o (some true) (fS p' o' pc' :: fr) m) : At codeD x st pc' p' hd o' (some true) fr m.step := by
  obtain ⟨seen, rfl⟩ := h
  exact ⟨seen, rfl⟩
theorem d_next {o' : Bool} {pc p' : Nat} (h : At codeD x st pc pos hd o (some false) [fS p' o' 5] m) (hp : p' < x.size) : At codeD x (p' + 1) 5 (p' + 1) (p' + 1) false none [fS (p' + 1) false 5] m.step := by
  obtain ⟨seen, rfl⟩ := h
  refine ⟨seen, ?_⟩
  show (if p' < x.size then _ else _) = _
  rw [if_pos hp]; rfl
theorem d_last {o' : Bool} {pc p' : Nat} (h : At codeD x st pc pos hd o (some false) [fS p' o' 5] m) (hp : ¬ p' < x.size) : At codeD x st 5 p' hd o' (some false) [] m.step := by
  obtain ⟨seen, rfl⟩ := h
  refine ⟨seen, ?_⟩
  show (if p' < x.size then _ else _) = _
  rw [if_neg hp]; rfl
noncomputable def dNext (x : Array Nat) : (fuel s : Nat) → Option Nat
  | 0, _ => none
  | fuel + 1, s => if s ≥ x.size then none else if rowAt x s = true ∧ x.getD s 0 = 46 then some s else dNext x fuel (s + 1)
noncomputable def Ends (x : Array Nat) (r : Option Nat) (m : Sre.M) : Prop := match r with
  | some q => Found m q (q + 1)
  | none => m.outcome = some .failed
theorem Ends.some_ {r : Option Nat} {m : Sre.M} (h : Ends x r m) : m.outcome.isSome = true := by
  cases r with
  | none => rw [show m.outcome = _ from h]; rfl
  | some q => rw [h.1]; rfl
theorem runD : ∀ (fuel s : Nat) (o : Bool) (m : Sre.M), s + fuel = x.size + 1 → 0 < fuel → At codeD x s 5 s s o none [fS s o 5] m → ∃ n, n ≤ 3 * fuel + 5 ∧ Ends x (dNext x fuel s) (stepN n m)
  | 0, _, _, _, _, h, _ => absurd h (Nat.lt_irrefl _)
  | fuel + 1, s, o, m, hs, _, h => by
    unfold dNext
    by_cases hz : s ≥ x.size
    · rw [if_pos hz]
      have fail : ∀ m', (∃ pc, At codeD x s pc s s o (some false) [fS s o 5] m') → (stepN 2 m').outcome = some .failed := fun m' ⟨pc, h'⟩ => r_endF (d_last h' (by omega))
      cases hr : rowAt x s with
      | false => exact ⟨3, by omega, fail _ ⟨5, d_atF h hr⟩⟩
      | true => exact ⟨4, by omega, fail _ ⟨7, d_litF (d_at h hr) (fun h5 => by omega)⟩⟩
    · rw [if_neg hz]
      by_cases hb : rowAt x s = true ∧ x.getD s 0 = 46
      · rw [if_pos hb]
        exact ⟨5, by omega, r_end (d_yes (d_success (d_lit (d_at h hb.1) (by omega) hb.2)))⟩
      · rw [if_neg hb]
        have more : ∀ (k : Nat) m', k ≤ 2 → stepN k m = m' → (∃ pc, At codeD x s pc s s o (some false) [fS s o 5] m') → ∃ n, n ≤ 3 * (fuel + 1) + 5 ∧ Ends x (dNext x fuel (s + 1)) (stepN n m) := fun k m' hk e ⟨pc, h'⟩ => by
          obtain ⟨n, hn, he⟩ := runD fuel (s + 1) false m'.step (by omega) (by omega) (d_next h' (by omega))
          refine ⟨k + (1 + n), by omega, ?_⟩
          rw [stepN_add, e, stepN_add]
          exact he
        cases hr : rowAt x s with
        | false => exact more 1 _ (by omega) rfl ⟨5, d_atF h hr⟩
        | true => exact more 2 _ (by omega) rfl ⟨7, d_litF (d_at h hr) (fun _ h6 => hb ⟨hr, h6⟩)⟩
theorem searchD (x : Array Nat) (p : Nat) (hp : p ≤ x.size) : Ends x (dNext x (x.size + 1 - p) p) ((Sre.forSearch codeD x 0 p x.size false).runFor (4 * (x.size + 4))) := by
  have hl : (Sre.header codeD).1 = 1 := rfl
  unfold Sre.forSearch
  dsimp only
  rw [hl]
  by_cases hz : x.size - p = 0
  · rw [if_pos (by simp only [Bool.or_eq_true, decide_eq_true_eq]; omega)]
    have e : dNext x (x.size + 1 - p) p = none := by
      rw [show x.size + 1 - p = 1 by omega]
      unfold dNext
      rw [if_pos (by omega)]
    rw [e]
    have fail : ∀ m : Sre.M, m.outcome = none → m.frames = [] → ∀ n, ((m.say false).runFor (4 + n)).outcome = some .failed := fun m h1 h2 n => by
      have e := say_failed h1 h2
      rw [runFor_add, runFor_done (by rw [e]; rfl)]
      exact e
    rw [show 4 * (x.size + 4) = 4 + (4 * x.size + 12) by omega]
    exact fail _ rfl rfl _
  · rw [if_neg (by simp only [Bool.or_eq_true, decide_eq_true_eq]; omega)]
    obtain ⟨n, hn, he⟩ := runD (x := x) (x.size + 1 - p) p true (Mk codeD x p 5 p p true none [fS p true 5] (({} : Sre.Seen).add 14)) (by omega) (by omega) ⟨_, rfl⟩
    have e2 := run_to n (4 * (x.size + 4)) (by omega) he.some_
    rw [← e2] at he
    exact he
theorem dNext_some : ∀ {fuel s q : Nat}, dNext x fuel s = some q → q < x.size ∧ rowAt x q = true ∧ x.getD q 0 = 46 ∧ s ≤ q ∧ ∀ j, s ≤ j → j < q → ¬ (rowAt x j = true ∧ x.getD j 0 = 46)
  | 0, _, _, h => by cases h
  | fuel + 1, s, q, h => by
    unfold dNext at h
    split at h
    · cases h
    · rename_i hs
      split at h
      · rename_i hb
        cases h
        exact ⟨by omega, hb.1, hb.2, Nat.le_refl _, fun j h1 h2 => by omega⟩
      · rename_i hb
        obtain ⟨a, b, b2, c, d⟩ := dNext_some h
        refine ⟨a, b, b2, by omega, fun j h1 h2 => ?_⟩
        by_cases hj : j = s
        · subst hj; exact hb
        · exact d j (by omega) h2
theorem dNext_none : ∀ {fuel s : Nat}, dNext x fuel s = none → x.size < fuel + s → ∀ j, s ≤ j → j < x.size → ¬ (rowAt x j = true ∧ x.getD j 0 = 46)
  | 0, s, _, hf, j, h1, h2 => by omega
  | fuel + 1, s, h, hf, j, h1, h2 => by
    unfold dNext at h
    split at h
    · omega
    · split at h
      · cases h
      · rename_i hb
        by_cases hj : j = s
        · subst hj; exact hb
        · exact dNext_none h (by omega) j (by omega) h2
end
end
end Mine
namespace Mine
section
open PySem.Builtin PySem.Builtin.Re
/-- what a search finds, as a function of its start -/
noncomputable def Srch (cs x : Array Nat) (f : Nat → Option (Nat × Nat)) : Prop :=
  ∀ p, p ≤ x.size → (∃ k, k < 2 ^ 60 ∧ match f p with
    | some (q, e) => Found ((Sre.forSearch cs x 0 p x.size false).runFor (4 * (k + 1))) q e
    | none => ((Sre.forSearch cs x 0 p x.size false).runFor (4 * (k + 1))).outcome = some .failed) ∧ ∀ q e, f p = some (q, e) → p ≤ q ∧ q < e ∧ e ≤ x.size
/-- the text with each place found replaced -/
noncomputable def subL (f : Nat → Option (Nat × Nat)) (x : Array Nat) (rep : List Nat) : (fuel p : Nat) → List Nat
  | 0, _ => []
  | fuel + 1, p => match f p with
    | none => (x.extract p x.size).toList
    | some (q, e) => (x.extract p q).toList ++ rep ++ subL f x rep fuel e
theorem subL_some {f : Nat → Option (Nat × Nat)} {x : Array Nat} {rep : List Nat} {fuel p q e : Nat} (h : f p = some (q, e)) : subL f x rep (fuel + 1) p = (x.extract p q).toList ++ rep ++ subL f x rep fuel e := by
  simp only [subL, h]
theorem subL_none {f : Nat → Option (Nat × Nat)} {x : Array Nat} {rep : List Nat} {fuel p : Nat} (h : f p = none) : subL f x rep (fuel + 1) p = (x.extract p x.size).toList := by
  simp only [subL, h]
section
variable {M : Model} {A : Around} {E : Value → Shared → Prop} {s : Shared}
theorem whole_target {a : Addr} {x : Str} {t : Tok} {cs : Array Nat} (hp : IsPat s.heap a cs) {Q : ReTarget → Shared → Prop}
    (h : Q { pattern := .ref a, string := .str x t, code := cs, text := x.cps, kind := 0, groups := 0, pos := 0, lim := x.cps.size } s) :
    wpAny M A (reWholeTarget (.ref a) (.str x t)) Q E s := by
  obtain ⟨o, fs, c, oc, xs, n, h1, h2, h3, h4, h5, h6, h7, h8, _, h9, rfl⟩ := hp
  unfold reWholeTarget
  refine wpAny_bind (wpAny_bind (wpAny_load h1 ?_))
  rw [h4]
  refine wpAny_pure ?_
  refine wpAny_bind (wpAny_bind (wpAny_pure (wpAny_pure ?_)))
  dsimp only
  rw [h6]
  refine wpAny_bind (wpAny_pure ?_)
  rw [h5, h7]
  refine wpAny_bind (wpAny_bind (wpAny_bind (wpAny_load h8 ?_)))
  rw [h9]
  exact wpAny_pure (wpAny_pure (wpAny_pure h))
theorem push_list {D : Addr} {vs : List Value} {nn : Nat} {v : Value} {Q : Unit → Shared → Prop} (hD : s.heap.get? D = some (listOf vs.toArray nn)) (hz : vs.length ≤ 100000)
    (h : ∀ h', h'.get? D = some (listOf (vs ++ [v]).toArray (nn + 1)) → Heap.SameBut D s.heap h' → Q () { s with heap := h' }) :
    wpAny M A (updateSeq D (·.push v)) Q E s := by
  have hl : sizeLine = 16777216 := sizeLine_eq
  refine wpAny_updateSeq hD rfl (h _ ?_ (Heap.SameBut.update ..)) (by rw [List.size_toArray]; omega) (by rw [Array.size_push, List.size_toArray]; omega)
  rw [Heap.get?_update_self _ hD rfl]
  simp [Obj.mapSeq]
theorem IsPat.but {D a : Addr} {cs : Array Nat} {its : Array Value} {nn : Nat} {h h' : Heap} (hp : IsPat h a cs) (hD : h.get? D = some (listOf its nn)) (hs : Heap.SameBut D h h') : IsPat h' a cs := by
  obtain ⟨o, fs, c, oc, xs, n, h1, h2, h3, h4, h5, h6, h7, h8, hc, h9, rfl⟩ := hp
  have n1 : a ≠ D := fun e => by
    rw [e, hD] at h1
    have := Option.some.inj h1
    rw [← this] at h2
    exact absurd h2 (by show ¬ (Value.type "list" = Value.type "re.Pattern"); decide)
  have n2 : c ≠ D := fun e => by
    rw [e, hD] at h8
    have := Option.some.inj h8
    rw [← this] at hc
    exact absurd hc (by show ¬ (Value.type "list" = Value.type "tuple"); decide)
  exact ⟨o, fs, c, oc, xs, n, (hs.2 a n1).trans h1, h2, h3, h4, h5, h6, h7, (hs.2 c n2).trans h8, hc, h9, rfl⟩
end
section
variable {prog : Program} {w : World} {A : Around} {R : Result → Shared → Prop}
theorem str_slice {M : Model} {E : Value → Shared → Prop} {s : Shared} {x : Array Nat} {b e : Nat} {Q : Value → Shared → Prop} (hz : e - b ≤ 16777216) (h : Q (.str ⟨x.extract b e⟩ s.toks) { s with toks := s.toks + 1 }) :
    wpAny M A (reSlice x 0 b e) Q E s := by
  refine wpAny_mkStr h ?_
  rw [sizeLine_eq]
  show (x.extract b e).size ≤ _
  rw [Array.size_extract]
  omega
theorem sub_loop {a : Addr} {x rep : Str} {t tr : Tok} {cs : Array Nat} {f : Nat → Option (Nat × Nat)} (S : Srch cs x.cps f) (hx : x.cps.size ≤ 1000) (hr : rep.cps.size ≤ 2) :
    ∀ (fuel p : Nat) (s : Shared) (D : Addr) (vs : List Value) (nn : Nat) (ws : List Str) (n : Int), x.cps.size + 1 ≤ fuel + p → p ≤ x.cps.size → IsPat s.heap a cs → s.heap.get? D = some (listOf vs.toArray nn) → StrsAre vs ws →
      vs.length ≤ 2 * p → (ws.flatMap (·.cps.toList)).length ≤ 3 * p →
      (∀ h' t' tk', Heap.SameBut D s.heap h' → R (.ok (.ret (.str ⟨(ws.flatMap (·.cps.toList) ++ subL f x.cps rep.cps.toList fuel p).toArray⟩ t'))) { s with heap := h', toks := tk' }) →
      codeAny (model prog w) A (.builtin "re.Pattern.sub.loop" ⟨[.ref a, .str x t, .str rep tr, rawInt 0, rawInt 0, rawInt n, rawInt p, rawInt p, .bool false, .ref D, .bool false], []⟩) R s
  | 0, p, _, _, _, _, _, _, hf, hp, _, _, _, _, _, _ => by omega
  | fuel + 1, p, s, D, vs, nn, ws, n, hf, hp, hP, hD, hi, hv, hw, hR => by
    refine codeAny_builtin entry_re_loop ?_
    unfold Builtin.«re.Pattern.sub.loop»
    refine wpAny_bind (whole_target hP ?_)
    dsimp only
    obtain ⟨⟨k, hk, hS⟩, hB⟩ := S p hp
    rw [if_pos (by decide)]
    refine wpAny_bind (wpAny_bind (wpAny_pure (wpAny_pure ?_)))
    rw [if_neg (by simp), Int.toNat_natCast]
    refine wpAny_bind (toEnd_ok k (Nat.lt_trans hk (by decide)) rfl ?_)
    dsimp only
    generalize (Sre.forSearch cs x.cps 0 p x.cps.size false).runFor (4 * (k + 1)) = m' at hS ⊢
    cases hfp : f p with
    | some qe =>
      obtain ⟨q, e⟩ := qe
      rw [hfp] at hS
      obtain ⟨h1, h2, h3⟩ := hS
      obtain ⟨b1, b2, b3⟩ := hB q e hfp
      rw [h1]
      dsimp only
      rw [h2, h3]
      have eq0 : (e == q) = false := beq_eq_false_iff_ne.mpr (by omega)
      have tail : ∀ (s1 : Shared) (vs1 : List Value) (nn1 : Nat) (ws1 : List Str), IsPat s1.heap a cs → s1.heap.get? D = some (listOf vs1.toArray nn1) → StrsAre vs1 ws1 → vs1.length ≤ 2 * p + 1 → (ws1.flatMap (·.cps.toList)).length ≤ 3 * p + (q - p) →
          (∀ h' t' tk', Heap.SameBut D s1.heap h' → R (.ok (.ret (.str ⟨((ws1 ++ [rep]).flatMap (·.cps.toList) ++ subL f x.cps rep.cps.toList fuel e).toArray⟩ t'))) { s1 with heap := h', toks := tk' }) →
          wpAny (model prog w) (A.under (.builtin "re.Pattern.sub.loop" ⟨[.ref a, .str x t, .str rep tr, rawInt 0, rawInt 0, rawInt n, rawInt p, rawInt p, .bool false, .ref D, .bool false], []⟩))
            (if (0 == 0) = true then do
              let item ← pure (Value.str rep tr)
              if (item != Value.none) = true then do
                updateSeq D fun x => x.push item
                again (.builtin "re.Pattern.sub.loop" ⟨[.ref a, .str x t, .str rep tr, rawInt 0, rawInt 0, rawInt (n + 1), rawInt e, rawInt e, .bool (e == q), .ref D, .bool false], []⟩)
              else again (.builtin "re.Pattern.sub.loop" ⟨[.ref a, .str x t, .str rep tr, rawInt 0, rawInt 0, rawInt (n + 1), rawInt e, rawInt e, .bool (e == q), .ref D, .bool false], []⟩)
             else do
              let found ← reNewMatch (Value.ref a) (Value.str x t) 0 0 x.cps.size m'
              let item ← holding [found] (if (0 == 1) = true then call (Value.str rep tr) [found] else do reExpand (Value.str rep tr) (← reFound found))
              if (item != Value.none) = true then do
                updateSeq D fun x => x.push item
                again (.builtin "re.Pattern.sub.loop" ⟨[.ref a, .str x t, .str rep tr, rawInt 0, rawInt 0, rawInt (n + 1), rawInt e, rawInt e, .bool (e == q), .ref D, .bool false], []⟩)
              else again (.builtin "re.Pattern.sub.loop" ⟨[.ref a, .str x t, .str rep tr, rawInt 0, rawInt 0, rawInt (n + 1), rawInt e, rawInt e, .bool (e == q), .ref D, .bool false], []⟩))
            (fun fin s' => match fin with | .done f => R (.ok f) s' | .again c' => c'.quiet = true ∧ codeAny (model prog w) A c' R s') (fun e s' => R (.error e) s') s1 := by
        intro s1 vs1 nn1 ws1 hP1 hD1 hi1 hv1 hw1 hR1
        rw [if_pos (by decide)]
        refine wpAny_bind (wpAny_pure ?_)
        rw [if_pos (by rfl)]
        refine wpAny_bind (push_list hD1 (by omega) fun h' hD' hs' => ?_)
        refine wpAny_pure (And.intro (Code.quiet_builtin _ (by decide +kernel)) ?_)
        rw [eq0]
        refine sub_loop S hx hr fuel e { s1 with heap := h' } D _ _ (ws1 ++ [rep]) (n + 1) (by omega) b3 (hP1.but hD1 hs') hD' (KStt.strs_snoc hi1) ?_ ?_ ?_
        · rw [List.length_append]; simp only [List.length_cons, List.length_nil]; omega
        · rw [List.flatMap_append, List.length_append]
          have : ([rep].flatMap (·.cps.toList)).length = rep.cps.size := by simp
          rw [this]; omega
        · intro h'' t' tk' hs''
          exact hR1 h'' t' tk' (hs'.trans hs'')
      by_cases hpq : p < q
      · rw [if_pos hpq]
        refine wpAny_bind (str_slice (by omega) ?_)
        refine wpAny_bind (push_list hD (by omega) fun h' hD' hs' => ?_)
        refine tail { s with heap := h', toks := s.toks + 1 } _ _ (ws ++ [⟨x.cps.extract p q⟩]) (hP.but hD hs') hD' (KStt.strs_snoc hi) ?_ ?_ ?_
        · rw [List.length_append]; simp only [List.length_cons, List.length_nil]; omega
        · rw [List.flatMap_append, List.length_append]
          have : ([(⟨x.cps.extract p q⟩ : Str)].flatMap (·.cps.toList)).length = (x.cps.extract p q).size := by show ((x.cps.extract p q).toList ++ []).length = _; rw [List.append_nil]; exact Array.length_toList
          rw [this, Array.size_extract]; omega
        · intro h'' t' tk' hs''
          have := hR h'' t' tk' (hs'.trans hs'')
          rw [show subL f x.cps rep.cps.toList (fuel + 1) p = (x.cps.extract p q).toList ++ rep.cps.toList ++ subL f x.cps rep.cps.toList fuel e from subL_some hfp] at this
          simpa [List.flatMap_append, List.append_assoc] using this
      · rw [if_neg hpq]
        have hq : q = p := by omega
        refine tail s vs nn ws hP hD hi (by omega) (by omega) ?_
        intro h'' t' tk' hs''
        have := hR h'' t' tk' hs''
        rw [show subL f x.cps rep.cps.toList (fuel + 1) p = (x.cps.extract p q).toList ++ rep.cps.toList ++ subL f x.cps rep.cps.toList fuel e from subL_some hfp] at this
        rw [hq, show (x.cps.extract p p).toList = [] by simp] at this
        simpa [List.flatMap_append, List.append_assoc] using this
    | none =>
      rw [hfp] at hS
      rw [hS]
      dsimp only
      rw [subL_none hfp] at hR
      have tail : ∀ (s1 : Shared) (vs1 : List Value) (nn1 : Nat) (ws1 : List Str), s1.heap.get? D = some (listOf vs1.toArray nn1) → StrsAre vs1 ws1 → (ws1.flatMap (·.cps.toList)).length ≤ 16777216 →
          (∀ h' t' tk', Heap.SameBut D s1.heap h' → R (.ok (.ret (.str ⟨(ws1.flatMap (·.cps.toList)).toArray⟩ t'))) { s1 with heap := h', toks := tk' }) →
          wpAny (model prog w) (A.under (.builtin "re.Pattern.sub.loop" ⟨[.ref a, .str x t, .str rep tr, rawInt 0, rawInt 0, rawInt n, rawInt p, rawInt p, .bool false, .ref D, .bool false], []⟩))
            (do
              let joiner ← reSlice x.cps 0 0 0
              let l ← seqItems? (.ref D)
              if (l.getD #[]).isEmpty = true then do
                let text ← pure joiner
                if false = true then do
                  let v ← holding [text] (do newTuple [text, ← mkInt n])
                  ret v
                else ret text
              else do
                let text ← call (.builtin (if (0 == 0) = true then "str.join" else "bytes.join")) [joiner, .ref D]
                if false = true then do
                  let v ← holding [text] (do newTuple [text, ← mkInt n])
                  ret v
                else ret text)
            (fun fin s' => match fin with | .done f => R (.ok f) s' | .again c' => c'.quiet = true ∧ codeAny (model prog w) A c' R s') (fun e s' => R (.error e) s') s1 := by
        intro s1 vs1 nn1 ws1 hD1 hi1 hw1 hR1
        refine wpAny_bind (str_slice (by omega) ?_)
        refine wpAny_bind (wpAny_bind (wpAny_load hD1 ?_))
        refine wpAny_pure ?_
        dsimp only [Option.getD]
        by_cases he : vs1.toArray.isEmpty = true
        · rw [if_pos he]
          refine wpAny_bind (wpAny_pure ?_)
          rw [if_neg (by decide)]
          refine wpAny_pure ?_
          have hv : vs1 = [] := by simpa using he
          subst hv
          cases hi1
          have := hR1 s1.heap s1.toks (s1.toks + 1) (Heap.SameBut.refl _ _)
          simpa using this
        · rw [if_neg he, if_pos (by decide)]
          have ej : (⟨x.cps.extract 0 0⟩ : Str) = Str.ofString "" := by
            refine Str.ext' ?_
            simp
            rfl
          rw [ej]
          refine wpAny_bind ?_
          refine join_strs (s := { s1 with toks := s1.toks + 1 }) hD1 hi1 hw1 (fun t' k => ?_)
          rw [if_neg (by decide)]
          exact wpAny_pure (hR1 s1.heap t' k (Heap.SameBut.refl _ _))
      by_cases hpq : p < x.cps.size
      · rw [if_pos hpq]
        refine wpAny_bind (str_slice (by omega) ?_)
        refine wpAny_bind (push_list hD (by omega) fun h' hD' hs' => ?_)
        have hl : ((ws ++ [(⟨x.cps.extract p x.cps.size⟩ : Str)]).flatMap (·.cps.toList)) = ws.flatMap (·.cps.toList) ++ (x.cps.extract p x.cps.size).toList := by
          rw [List.flatMap_append]
          show _ ++ ((x.cps.extract p x.cps.size).toList ++ []) = _
          rw [List.append_nil]
        refine tail { s with heap := h', toks := s.toks + 1 } _ _ (ws ++ [⟨x.cps.extract p x.cps.size⟩]) hD' (KStt.strs_snoc hi) ?_ ?_
        · rw [hl, List.length_append, show (x.cps.extract p x.cps.size).toList.length = (x.cps.extract p x.cps.size).size from Array.length_toList, Array.size_extract]; omega
        · intro h'' t' tk' hs''
          rw [hl]
          exact hR h'' t' tk' (hs'.trans hs'')
      · rw [if_neg hpq]
        refine tail s vs nn ws hD hi (by omega) ?_
        intro h'' t' tk' hs''
        have := hR h'' t' tk' hs''
        rw [show (x.cps.extract p x.cps.size).toList = [] by rw [show p = x.cps.size by omega]; simp, List.append_nil] at this
        exact this
end
end
end Mine
namespace Mine
section
open PySem.Builtin PySem.Builtin.Re
theorem named_sub (u v : Value) : reNamed "re.Pattern.sub" "sub" ["repl", "string", "count"] 2 [u, v] [] = pure [some u, some v, none] := by kernel_rfl
theorem nocall_str : typeLookup (.type "str") "__call__" = pure none := by rw [typeLookup_type, builtinLookup_eq_fast]; kernel_rfl
section
variable {prog : Program} {w : World} {A : Around} {E : Value → Shared → Prop} {s : Shared}
theorem sub_call {a : Addr} {x rep : Str} {t tr : Tok} {cs : Array Nat} {f : Nat → Option (Nat × Nat)} {Q : Value → Shared → Prop} (S : Srch cs x.cps f) (hp : IsPat s.heap a cs) (hx : x.cps.size ≤ 1000) (hr : rep.cps.size ≤ 2) (hc : rep.cps.contains 92 = false)
    (h : ∀ h' t' tk', (∀ b o, s.heap.get? b = some o → h'.get? b = some o) → Q (.str ⟨(subL f x.cps rep.cps.toList (x.cps.size + 1) 0).toArray⟩ t') { s with heap := h', toks := tk' }) :
    wpAny (model prog w) A (call (.builtin "re.Pattern.sub") [.ref a, .str rep tr, .str x t]) Q E s := by
  refine wpAny_call (codeAny_call_builtin_at (Code.quiet_builtin _ (by decide +kernel)) entry_re_sub (slot_re_sub.check _ _ _ _ _ _ _ _ hp.typeIs (args_re_sub _ _ _) ?_))
  unfold Builtin.«re.Pattern.sub» reSubstitute
  dsimp only
  rw [named_sub]
  refine wpAny_bind (wpAny_pure ?_)
  dsimp only
  refine wpAny_bind (wpAny_pure ?_)
  refine wpAny_bind (wpAny_specialOf (typeIs_str _ _ _) nocall_str ?_)
  dsimp only [Option.isSome]
  rw [if_neg (by decide)]
  refine wpAny_bind (wpAny_pure ?_)
  dsimp only
  rw [hc]
  refine wpAny_bind (wpAny_pure ?_)
  rw [if_neg (by decide), if_pos (by decide)]
  refine wpAny_bind (wpAny_pure ?_)
  dsimp only
  refine wpAny_bind (wpAny_holding (whole_target hp ?_))
  rw [if_neg (by decide)]
  refine wpAny_bind (wpAny_newObj_type ?_ (by show 0 ≤ _; exact Nat.zero_le _))
  refine wpAny_pure (And.intro (Code.quiet_builtin _ (by decide +kernel)) ?_)
  refine sub_loop S hx hr (x.cps.size + 1) 0 { s with heap := s.heap.push (listOf #[] 0) } s.heap.objs.size [] 0 [] 0 (by omega) (Nat.zero_le _) (hp.keeps fun b o e => Heap.get?_push_of_some _ e) (Heap.get?_push_size _ rfl) .nil (by simp) (by simp) ?_
  intro h' t' tk' hs
  refine h h' t' tk' (fun b o e => ?_)
  have hb : b ≠ s.heap.objs.size := Nat.ne_of_lt (Heap.lt_size e)
  exact (hs.2 b hb).trans (Heap.get?_push_of_some _ e)
end
end
end Mine
namespace Mine
section
open PySem.Builtin PySem.Builtin.Re
noncomputable def fR (x : Array Nat) (p : Nat) : Option (Nat × Nat) := (rNext x (x.size + 1 - p) p).map fun q => (q, rEnd x q)
noncomputable def fD (x : Array Nat) (p : Nat) : Option (Nat × Nat) := (dNext x (x.size + 1 - p) p).map fun q => (q, q + 1)
theorem rEnd_le {x : Array Nat} {q : Nat} (h : q < x.size) : q < rEnd x q ∧ rEnd x q ≤ x.size := by
  have : rEnd x q = q + 1 ∨ (rEnd x q = q + 2 ∧ q + 1 < x.size) := by
    by_cases hA : x.getD q 0 = 13 ∧ q + 1 < x.size ∧ x.getD (q + 1) 0 = 10
    · right; rw [rEnd, if_pos hA]; exact ⟨rfl, hA.2.1⟩
    · left; rw [rEnd, if_neg hA]
  omega
theorem srchR (x : Array Nat) : Srch codeR x (fR x) := fun p hp => by
  have hs := searchR x p hp
  refine ⟨⟨3, by decide, ?_⟩, fun q e h => ?_⟩
  · unfold fR
    cases hn : rNext x (x.size + 1 - p) p with
    | none => rw [hn] at hs; exact hs
    | some q => rw [hn] at hs; exact hs
  · unfold fR at h
    cases hn : rNext x (x.size + 1 - p) p with
    | none => rw [hn] at h; cases h
    | some q' =>
      rw [hn] at h
      cases h
      obtain ⟨a, _, c, _⟩ := rNext_some hn
      exact ⟨c, (rEnd_le a).1, (rEnd_le a).2⟩
theorem srchD (x : Array Nat) (hx : x.size ≤ 1000) : Srch codeD x (fD x) := fun p hp => by
  have hs := searchD x p hp
  refine ⟨⟨x.size + 3, by omega, ?_⟩, fun q e h => ?_⟩
  · unfold fD
    cases hn : dNext x (x.size + 1 - p) p with
    | none => rw [hn] at hs; exact hs
    | some q => rw [hn] at hs; exact hs
  · unfold fD at h
    cases hn : dNext x (x.size + 1 - p) p with
    | none => rw [hn] at h; cases h
    | some q' =>
      rw [hn] at h
      cases h
      obtain ⟨a, _, _, c, _⟩ := dNext_some hn
      exact ⟨c, by omega, by omega⟩
/-- every end of a row told as two signs -/
noncomputable def nlF (b : Bool) : List Nat → List Nat
  | [] => []
  | c :: r => if b && c == 10 then nlF false r else if c == 13 then 13 :: 10 :: nlF true r else if c == 10 then 13 :: 10 :: nlF false r else c :: nlF false r
/-- a dot ahead of a row doubled -/
noncomputable def ddF (b : Bool) : List Nat → List Nat
  | [] => []
  | c :: r => if b && c == 46 then 46 :: 46 :: ddF false r else c :: ddF (c == 10) r
theorem drop_at {x : Array Nat} {p : Nat} (h : p < x.size) : x.toList.drop p = x.getD p 0 :: x.toList.drop (p + 1) := by
  rw [List.drop_eq_getElem_cons (by simpa using h)]
  congr 1
  simp [h]
theorem nlF_cons {c : Nat} {r : List Nat} (h1 : (c == 13) = false) (h2 : (c == 10) = false) : nlF false (c :: r) = c :: nlF false r := by
  show (if (false && c == 10) = true then _ else if (c == 13) = true then _ else if (c == 10) = true then _ else _) = _
  rw [h1, h2]; rfl
theorem ddF_cons {b : Bool} {c : Nat} {r : List Nat} (h : (b && c == 46) = false) : ddF b (c :: r) = c :: ddF (c == 10) r := by
  show (if (b && c == 46) = true then _ else _) = _
  rw [h]; rfl
theorem extract_cons {x : Array Nat} {p q : Nat} (h : p < q) (hq : q ≤ x.size) : (x.extract p q).toList = x.getD p 0 :: (x.extract (p + 1) q).toList := by
  rw [Array.toList_extract, Array.toList_extract, List.extract_eq_take_drop, List.extract_eq_take_drop, drop_at (by omega)]
  rw [show q - p = (q - (p + 1)) + 1 by omega]
  rfl
theorem nl_run {x : Array Nat} : ∀ (k p q : Nat), k = q - p → p ≤ q → q ≤ x.size → (∀ j, p ≤ j → j < q → x.getD j 0 ≠ 13 ∧ x.getD j 0 ≠ 10) → nlF false (x.toList.drop p) = (x.extract p q).toList ++ nlF false (x.toList.drop q)
  | 0, p, q, hk, h1, h2, _ => by
    have : p = q := by omega
    subst this
    simp
  | k + 1, p, q, hk, h1, h2, h => by
    have h3 := h p (Nat.le_refl _) (by omega)
    rw [drop_at (by omega), extract_cons (by omega) h2]
    have e1 : (x.getD p 0 == 13) = false := beq_eq_false_iff_ne.mpr h3.1
    have e2 : (x.getD p 0 == 10) = false := beq_eq_false_iff_ne.mpr h3.2
    rw [nlF_cons e1 e2]
    show x.getD p 0 :: nlF false (x.toList.drop (p + 1)) = x.getD p 0 :: ((x.extract (p + 1) q).toList ++ _)
    rw [nl_run k (p + 1) q (by omega) (by omega) h2 fun j a b => h j (by omega) b]
theorem nl_after {x : Array Nat} {e : Nat} (h : e < x.size → x.getD e 0 ≠ 10) : nlF true (x.toList.drop e) = nlF false (x.toList.drop e) := by
  by_cases he : e < x.size
  · have h1 : (x.getD e 0 == 10) = false := beq_eq_false_iff_ne.mpr (h he)
    rw [drop_at he]
    unfold nlF
    rw [h1]
    rfl
  · rw [List.drop_eq_nil_of_le (by simp; omega)]
    rfl
theorem nl_match {x : Array Nat} {q : Nat} (hq : q < x.size) (h : x.getD q 0 = 13 ∨ x.getD q 0 = 10) : nlF false (x.toList.drop q) = [13, 10] ++ nlF false (x.toList.drop (rEnd x q)) := by
  rw [drop_at hq]
  unfold rEnd
  by_cases hA : x.getD q 0 = 13 ∧ q + 1 < x.size ∧ x.getD (q + 1) 0 = 10
  · rw [if_pos hA, hA.1]
    show 13 :: 10 :: nlF true (x.toList.drop (q + 1)) = _
    rw [drop_at hA.2.1, hA.2.2]
    rfl
  · rw [if_neg hA]
    rcases h with h | h
    · rw [h]
      show 13 :: 10 :: nlF true (x.toList.drop (q + 1)) = _
      rw [nl_after fun a b => hA ⟨h, a, b⟩]
      rfl
    · rw [h]; rfl
theorem subR {x : Array Nat} : ∀ (fuel p : Nat), x.size + 1 ≤ fuel + p → p ≤ x.size → subL (fR x) x [13, 10] fuel p = nlF false (x.toList.drop p)
  | 0, p, h, hp => by omega
  | fuel + 1, p, h, hp => by
    cases hn : rNext x (x.size + 1 - p) p with
    | none =>
      rw [subL_none (by unfold fR; rw [hn]; rfl)]
      have h1 := rNext_none hn (by omega)
      rw [nl_run (x.size - p) p x.size rfl hp (Nat.le_refl _) h1, List.drop_eq_nil_of_le (by simp)]
      show _ = _ ++ []
      rw [List.append_nil]
    | some q =>
      obtain ⟨a, b, c, d⟩ := rNext_some hn
      rw [subL_some (by unfold fR; rw [hn]; rfl)]
      rw [nl_run (q - p) p q rfl c (by omega) d, nl_match a b, subR fuel (rEnd x q) (by have := (rEnd_le a).1; omega) (rEnd_le a).2, List.append_assoc]
theorem dd_run {x : Array Nat} : ∀ (k p q : Nat), k = q - p → p ≤ q → q ≤ x.size → (∀ j, p ≤ j → j < q → ¬ (rowAt x j = true ∧ x.getD j 0 = 46)) → ddF (rowAt x p) (x.toList.drop p) = (x.extract p q).toList ++ ddF (rowAt x q) (x.toList.drop q)
  | 0, p, q, hk, h1, h2, _ => by
    have : p = q := by omega
    subst this
    simp
  | k + 1, p, q, hk, h1, h2, h => by
    have h3 := h p (Nat.le_refl _) (by omega)
    rw [drop_at (by omega), extract_cons (by omega) h2]
    have e1 : (rowAt x p && x.getD p 0 == 46) = false := by
      rw [Bool.and_eq_false_iff]
      by_cases hr : rowAt x p = true
      · exact .inr (beq_eq_false_iff_ne.mpr fun z => h3 ⟨hr, z⟩)
      · exact .inl (by simpa using hr)
    have e2 : (x.getD p 0 == 10) = rowAt x (p + 1) := by
      unfold rowAt
      rw [show (p + 1 == 0) = false by simp, Nat.add_sub_cancel]
      rfl
    rw [ddF_cons e1, e2]
    show x.getD p 0 :: ddF (rowAt x (p + 1)) (x.toList.drop (p + 1)) = x.getD p 0 :: ((x.extract (p + 1) q).toList ++ _)
    rw [dd_run k (p + 1) q (by omega) (by omega) h2 fun j a b => h j (by omega) b]
theorem subD {x : Array Nat} : ∀ (fuel p : Nat), x.size + 1 ≤ fuel + p → p ≤ x.size → subL (fD x) x [46, 46] fuel p = ddF (rowAt x p) (x.toList.drop p)
  | 0, p, h, hp => by omega
  | fuel + 1, p, h, hp => by
    cases hn : dNext x (x.size + 1 - p) p with
    | none =>
      rw [subL_none (by unfold fD; rw [hn]; rfl)]
      have h1 := dNext_none hn (by omega)
      rw [dd_run (x.size - p) p x.size rfl hp (Nat.le_refl _) h1, List.drop_eq_nil_of_le (by simp)]
      show _ = _ ++ []
      rw [List.append_nil]
    | some q =>
      obtain ⟨a, b, b2, c, d⟩ := dNext_some hn
      rw [subL_some (by unfold fD; rw [hn]; rfl)]
      rw [dd_run (q - p) p q rfl c (by omega) d, subD fuel (q + 1) (by omega) (by omega), drop_at a, b, b2, List.append_assoc]
      have e2 : rowAt x (q + 1) = false := by
        unfold rowAt
        rw [show (q + 1 == 0) = false by simp, Nat.add_sub_cancel, b2]
        rfl
      rw [e2]
      rfl
end
end Mine
namespace Mine
local macro_rules | `(tactic| walk_at "mine enter") => `(tactic| (
  refine wpAny_call ?_
  k_dflt cell_enter))
local macro_rules | `(tactic| walk_at "mine used") => `(tactic| (
  (case k1 => k_asm); (case k2 => k_asm); (case k3 => k_asm); (case k4 => k_asm); (case k5 => k_asm); (case k6 => first | exact rfl | assumption); (case k7 => ktr_room); (case k8 => ktr_units)
  intro t9 h9 tk9 F9 N9
  (try dsimp only)
  (try k_fold)))
local macro_rules | `(tactic| walk_at "mine stop") => `(tactic| with_reducible first
  | show wpAny _ _ (exec (Stmt.While _ _ _ _) _) _ _ _
  | show wpAny _ _ (exec (Stmt.For _ _ _ _ _) _) _ _ _
  | show wpAny _ _ (call (Value.type "enumerate") _ _) _ _ _
  | show wpAny _ _ (call (Value.ref 206) _ _) _ _ _
  | show wpAny _ _ (pyIter _) (fun _ _ => TurnsAt _ _ _ _ _ _ _ _ _ _ _) _ _
  | show WEnd _ _ _ _ _ _ _ _ _ _ _
  | show TEnd _ _ _ _ _ _ _ _ _ _)
local macro_rules | `(tactic| walk_at "mine steps") => `(tactic| repeat' ((fail_if_success (walk_at "mine stop")); first | (k_unfold; (try dsimp only)) | walk1 | (dsimp only; walk1) | (leave1; walk_say "STEP leave1"; try dsimp only)))
local macro_rules | `(tactic| walk_at "mine for") => `(tactic| (
  (rename Fr _ _ _ _ => lF'); (with_unfolding_all refine' For_turns lF' ?_)))
local macro_rules | `(tactic| walk_at "mine enterC") => `(tactic| (
  refine wpAny_call ?_
  k_dflt (refine' code_defC ?k1 ?k2 ?k3 ?k4 ?k5 ?kA ?kF ?kK ?k6 ?k7 ?k8 ?k9 ?kB ?kD ?_ ?c2 ?c3 ?c4; (case kA => exact rfl); (case kF => exact rfl); (case kK => assumption); (case k1 => k_asm); (case k2 => k_asm); (case k3 => k_asm); (case k4 => k_asm); (case k5 => k_asm); (case k6 => k_is); (case k7 => k_is); (case k8 => ktr_room); (case k9 => first | exact BindsTo.of_eq rfl | exact binds_K (by k_in) rfl (by k_is) rfl rfl rfl); (case kB => exact rfl); (case kD => decide +kernel); (case c2 => exact rfl); (case c3 => exact rfl); (case c4 => exact rfl); k_whole; intro g' L' h' tk' cells' FG' F' N' Y' B' X' T' l1; (try k_lt l1); k_cells Y'; (try simp only [List.cons_append, List.nil_append] at N'); (try dsimp only); (try k_lift B'); (try k_fold))))
local macro_rules | `(tactic| walk_at "call ref") => `(tactic| k_dflt (walk_at "mine call"))
local macro_rules | `(tactic| walk_at "mine ks") => `(tactic| ((case k1 => k_asm); (case k2 => k_asm); (case k3 => k_asm); (case k5 => k_asm); (case k6 => first | exact rfl | assumption); (case k7 => ktr_room); (case k8 => ktr_units)))
local macro_rules | `(tactic| walk_at "mine used2") => `(tactic| (walk_at "mine ks"; intro t9 h9 tk9 F9 N9; (try dsimp only); (try k_fold)))
local macro_rules | `(tactic| walk_at "mine xdl") => `(tactic| ((case hx => first | assumption | k_mem); (case hd => first | assumption | k_mem); (case hl => first | assumption | k_mem)))
local macro_rules | `(tactic| walk_at "mine kx") => `(tactic| ((case kx => first | assumption | decide | omega)))
local macro_rules | `(tactic| walk_at "mine kn") => `(tactic| ((case kn => first | exact (rfl : (0 : Int) = ((0 : Nat) : Int)) | exact rfl | assumption)))
local macro_rules | `(tactic| walk_at "mine k") => `(tactic| (case' k => refine' Rdy.mk ?k1 ?k2 ?k3 ?k4 ?k5 ?k6 ?k7 ?k8))
section
section
variable (w : World) (mean : ExcName → Option Value) (mg mb : Str → Option Value) (news : List (Addr × Obj))
theorem xor_clm (x y : Int) (tx ty : Tok) : Clm w mean mg mb 1 52 news [.int x tx, .int y ty] (fun t => .int (Builtin.bitXor x y) t) := by
  unfold Clm
  k_fill
  intro dp un gd cn cs a ccd cl outer A₀ base h₀ L m s Q E cB cF cX cN cT cK cD cU hret
  dsimp only [CbRet] at hret
  walk_at "mine enter"
  walk_at "mine steps"
  all_goals cb_end hret
end
local macro_rules | `(tactic| walk_at "mine call") => `(tactic| (k_here; (with_reducible show wpAny _ _ (call (Value.ref 52) [Value.int _ _, Value.int _ _]) _ _ _); refine' Clm.use1 (xor_clm _ _ _ _ _ _ _ _ _) ?k ?_; walk_at "mine k"; walk_at "mine used"))
section
variable (w : World) (mean : ExcName → Option Value) (mg mb : Str → Option Value) (news : List (Addr × Obj))
theorem product_clm (x y : Nat) (hxy : x * y < 2 ^ 60) (tx ty : Tok) : Clm w mean mg mb 2 281 news [.int x tx, .int y ty] (fun t => .int (pm x y 0) t) := by
  unfold Clm
  k_fill
  intro dp un gd cn cs a ccd cl outer A₀ base h₀ L m s Q E cB cF cX cN cT cK cD cU hret
  dsimp only [CbRet] at hret
  walk_at "mine enter"
  walk_at "mine steps"
  rename Fr _ _ _ _ => lF'
  rename News _ _ _ _ => lN'
  refine' while_ (σ := (Int × Int × Int) × (Tok × Tok × Tok)) (fun _ => news) (fun c => [(Str.ofString "a", .int c.1.1 c.2.1), (Str.ofString "b", .int c.1.2.1 c.2.2.1), (Str.ofString "total", .int c.1.2.2 c.2.2.2)])
    (fun c => ∃ p q r : Nat, c.1 = ((p : Int), (q : Int), (r : Int)) ∧ p * q < 2 ^ 60 ∧ pm p q r = pm x y 0) (fun c => c.1.1.toNat) ((x, y, 0), (tx, ty, _)) lF' lN' ?hk ⟨x, y, 0, rfl, hxy, rfl⟩ ?turn
  case hk => kst_all
  case turn =>
    clear lF' lN'
    rintro ⟨⟨p, q, r⟩, ⟨tp, tq, tr⟩⟩ u h tk ⟨p, q, r, h0, h1, h2⟩ F N
    obtain ⟨rfl, rfl, rfl⟩ : _ ∧ _ ∧ _ := by simpa using h0
    dsimp only at F N ⊢
    clear h0
    have hb : 0 < p → q < 2 ^ 60 := fun hp => Nat.lt_of_le_of_lt (Nat.le_mul_of_pos_left q hp) h1
    (try k_fold)
    walk_at "mine steps"
    · rename News _ _ _ _ => lN'
      have hp : 0 < p := by omega
      refine WEnd.intro ((_, _, _), (_, _, _)) (by assumption) lN' (fun p hp => List.mem_cons_of_mem _ hp) (by kst_all) (pm_turn1 hp h1 h2 (by assumption)) ?_
      show ((p : Int).fdiv 2).toNat < (p : Int).toNat
      rw [show (p : Int).fdiv 2 = ((p / 2 : Nat) : Int) from fdiv_nat p 2]; omega
    · rename News _ _ _ _ => lN'
      have hp : 0 < p := by omega
      refine WEnd.intro ((_, _, _), (_, _, _)) (by assumption) lN' (fun p hp => List.mem_cons_of_mem _ hp) (by kst_all) (pm_turn0 hp h1 h2 (by assumption)) ?_
      show ((p : Int).fdiv 2).toNat < (p : Int).toNat
      rw [show (p : Int).fdiv 2 = ((p / 2 : Nat) : Int) from fdiv_nat p 2]; omega
    · have hp : p = 0 := by omega
      subst hp
      rw [pm_zero] at h2
      rw [← h2] at hret
      cb_end hret
end
end
section
noncomputable def apTab : Array UInt8 := #[65, 66, 67, 68, 69, 70, 71, 72, 73, 74, 75, 76, 77, 78, 79, 80]
theorem ap_picked : ∀ d : Nat, d < 16 → KBy.picked apTab (some (d : Int)) (some ((d : Int) + 1)) = #[(65 + d).toUInt8] := by decide +kernel
section
variable {prog : Program} {w : World} {A : Around} {E : Value → Shared → Prop} {s : Shared} {value slice : PySem.Expr} {t : Tok} {h₀ : Heap} {L : Addr} {m : PySem.Str → Option Value} {news : List (Addr × Obj)} {Q : Value → Shared → Prop}
theorem ap_cut {i : Int} {ti tj : Tok} (hF : Fr h₀ L s.heap m) (hN : News h₀ L s.heap news) (h0 : 0 ≤ i) (h1 : i < 16)
    (h : ∀ h' t' k, Fr h₀ L h' m → News h₀ L h' news → Q (.bytes #[(65 + i.toNat).toUInt8] t') { s with heap := h', toks := k })
    (hs : subscripted slice false (.bytes apTab t) (.ref s.heap.objs.size) = operate [.ref s.heap.objs.size, .bytes apTab t] (getItem (.bytes apTab t) (.ref s.heap.objs.size)) := by with_unfolding_all rfl)
    (ht : ∀ r, letTemporaryGo value (.bytes apTab t) r = pure () := by intro _; with_unfolding_all rfl) :
    wpAny (model prog w) A (subscriptTail value slice (.bytes apTab t) (.ref s.heap.objs.size)) Q E { s with heap := s.heap.push { cls := .type "slice", data := .fields #[.int i ti, .int (i + 1) tj, .none] } } := by
  refine KBc.slice_K (ks := KBw.bInts apTab) hF hN rfl (by constructor) (by constructor) (by decide) (fun h' t' k F N _ => ?_) hs ht
  have e := ap_picked i.toNat (by omega)
  rw [Int.toNat_of_nonneg h0] at e
  rw [e]
  exact h h' t' k F N
end
local macro_rules | `(tactic| walk_at "subscriptTail") => `(tactic| (k_here; (with_reducible show wpAny _ _ (subscriptTail _ (Expr.Slice _ _ none _) (Value.bytes apTab _) (Value.ref _)) _ _ _); (with_reducible rename Fr _ _ _ _ => F'); (with_reducible rename News _ _ _ _ => N'); (refine ap_cut (s := ⟨_, _, _, _, _⟩) F' N' (by assumption) (by assumption) ?_); intro _ _ _ _ _; (try dsimp only)))
local macro_rules | `(tactic| walk_at "binaryOp Add bytes bytes") => `(tactic| (k_here; refine KBy.add_bytes (by assumption) ?_; intro _ _))
section
variable (w : World) (mean : ExcName → Option Value) (mg mb : Str → Option Value) (news : List (Addr × Obj))
theorem int2ap_clm (x : Int) (hx : x.natAbs < 2 ^ 40) (tx : Tok) : Clm w mean mg mb 2 45 news [.int x tx] (fun t => .bytes (apB x.natAbs) t) := by
  unfold Clm
  k_fill
  intro dp un gd cn cs a ccd cl outer A₀ base h₀ L m s Q E cB cF cX cN cT cK cD cU hret
  dsimp only [CbRet] at hret
  walk_at "mine enter"
  walk_at "mine steps"
  rename Fr _ _ _ _ => lF'
  rename News _ _ _ _ => lN'
  refine' while_ (σ := (Int × Array UInt8) × (Tok × Tok × Tok)) (fun _ => news) (fun c => [(Str.ofString "num", .int c.1.1 c.2.1), (Str.ofString "val", .bytes c.1.2 c.2.2.1), (Str.ofString "AP", .bytes apTab c.2.2.2)])
    (fun c => ∃ p : Nat, ∃ b : List Nat, c.1 = ((p : Int), (b.map Nat.toUInt8).toArray) ∧ p < 2 ^ 40 ∧ apL p ++ b = apL x.natAbs) (fun c => c.1.1.toNat) ((_, _), (_, _, _)) lF' lN' ?hk ?hp ?turn
  case hk => kst_all
  case hp => exact ⟨x.natAbs, [], by (show ((if x < 0 then -x else x), (#[] : Array UInt8)) = _; congr 1; omega), hx, List.append_nil _⟩
  case turn =>
    clear lF' lN'
    rintro ⟨⟨p, b⟩, ⟨tp, tq, tr⟩⟩ u h tk ⟨p, b, h0, h1, h2⟩ F N
    obtain ⟨rfl, rfl⟩ : _ ∧ _ := by simpa using h0
    dsimp only at F N ⊢
    clear h0
    have hm0 : 0 ≤ (p : Int).fmod 16 := by rw [show (p : Int).fmod 16 = ((p % 16 : Nat) : Int) from fmod_nat p 16]; omega
    have hm1 : (p : Int).fmod 16 < 16 := by rw [show (p : Int).fmod 16 = ((p % 16 : Nat) : Int) from fmod_nat p 16]; omega
    have hsz : (#[(65 + ((p : Int).fmod 16).toNat).toUInt8] : Array UInt8).size + (b.map Nat.toUInt8).toArray.size ≤ 16777216 := by
      have h3 := apL_length 10 (n := x.natAbs) (Nat.lt_of_lt_of_le hx (by decide))
      rw [← h2, List.length_append] at h3
      simp; omega
    (try k_fold)
    walk_at "mine steps"
    · rename News _ _ _ _ => lN'
      have hp : 0 < p := by
        omega
      refine WEnd.intro ((_, _), (_, _, _)) (by assumption) lN' (fun p hp => by first | exact hp | exact List.mem_cons_of_mem _ hp) (by kst_all) ⟨p / 16, (65 + p % 16) :: b, ?_, by omega, apL_turn hp h2⟩ ?_
      · refine Prod.ext (fdiv_nat p 16) ?_
        show _ = (((65 + p % 16) :: b).map Nat.toUInt8).toArray
        rw [show (p : Int).fmod 16 = ((p % 16 : Nat) : Int) from fmod_nat p 16, Int.toNat_natCast]
        simp
      · show ((p : Int).fdiv 16).toNat < (p : Int).toNat
        rw [show (p : Int).fdiv 16 = ((p / 16 : Nat) : Int) from fdiv_nat p 16]; omega
    · have hp : p = 0 := by
        omega
      subst hp
      rw [apL_zero, List.nil_append] at h2
      rw [apB, ← h2] at hret
      exact hret _ _ _ (by assumption) (by assumption)
end
local macro_rules | `(tactic| walk_at "mine call") => `(tactic| (k_here; (with_reducible show wpAny _ _ (call (Value.ref 45) [Value.int _ _]) _ _ _); refine' Clm.use1 (int2ap_clm _ _ _ _ _ _ ?kx _) ?k ?_; walk_at "mine k"; (case kx => first | assumption | omega); walk_at "mine used"))
theorem find_ap : ∀ d : Nat, d < 16 → Txt.find (Str.ofString "ABCDEFGHIJKLMNOP") ⟨#[65 + d]⟩ = (d : Int) := by decide +kernel
theorem index_ap {prog : Program} {w : World} {A : Around} {E : Value → Shared → Prop} {s : Shared} {n : Nat} {t u : Tok} {Q : Value → Shared → Prop} (hA : A.handled = none) (h0 : 65 ≤ n ∧ n < 81)
    (h : Q (.int ((n - 65 : Nat) : Int) s.toks) { s with toks := s.toks + 1 }) :
    wpAny (model prog w) A (call (.builtin "str.index") [.str (Str.ofString "ABCDEFGHIJKLMNOP") t, .str ⟨#[n]⟩ u]) Q E s := by
  have e := find_ap (n - 65) (by omega)
  rw [show 65 + (n - 65) = n by omega] at e
  refine index_or hA (fun he _ => ?_) (fun _ _ => ?_)
  · rw [e] at he; omega
  · rw [e]; exact h
local macro_rules | `(tactic| walk_at "call builtin:str.index") => `(tactic| (k_here; (with_reducible refine' index_ap ?hA ?h0 ?_); (case hA => exact rfl); (case h0 => assumption)))
section
variable (w : World) (mean : ExcName → Option Value) (mg mb : Str → Option Value) (news : List (Addr × Obj))
theorem number_clm (x : Str) (hx : Ap x) (hz : x.cps.size ≤ 12) (tx : Tok) : Clm w mean mg mb 2 227 news [.str x tx] (fun t => .int (numL x.cps.toList : Nat) t) := by
  unfold Clm
  k_fill
  intro dp un gd cn cs a ccd cl outer A₀ base h₀ L m s Q E cB cF cX cN cT cK cD cU hret
  dsimp only [CbRet] at hret
  walk_at "mine enter"
  walk_at "mine steps"
  walk_at "mine for"
  walk_at "mine steps"
  rename Fr _ _ _ _ => lF'
  rename News _ _ _ _ => lN'
  refine' text_turns (σ := Int × Tok) (fun _ => news) (fun c => [(Str.ofString "number", .int c.1 c.2)])
    (fun i c => ∃ p : Nat, c.1 = (p : Int) ∧ p = numL (x.cps.toList.take i)) (_, _) ?hh ?hF ?hN ?hk ?hp ?turn ?done
  case hh => exact rfl
  case hF => exact lF'
  case hN => exact lN'
  case hk => kst_all
  case hp => exact ⟨0, rfl, rfl⟩
  case turn =>
    clear lF' lN'
    rintro i n t ⟨p, tp⟩ u h tk I it hn hI ⟨p, h0, h1⟩ F N
    have h0 : _ = (p : Int) := h0
    subst h0
    dsimp only at F N ⊢
    have hn2 : 65 ≤ n ∧ n < 81 := hx n (by rw [Array.mem_toList_iff]; exact Array.mem_of_getElem? hn)
    (try k_fold)
    walk_at "mine steps"
    rename News _ _ _ _ => lN'
    refine TEnd.intro (_, _) (by assumption) lN' (fun p hp => List.mem_cons_of_mem _ hp) (by intro p hp; rw [List.mem_singleton.mp hp]; exact .head _) ?_ (by kst_all) ⟨16 * p + (n - 65), ?_, ?_⟩
    · intro p hp q hq
      rw [List.mem_singleton.mp hq]
      exact Nat.ne_of_lt (hI p hp)
    · show _ = _
      omega
    · rw [List.take_add_one, h1]
      rw [show x.cps.toList[i]? = some n by simpa using hn]
      exact (numL_snoc _ _).symm
  case done =>
    clear lF' lN'
    rintro ⟨p, tp⟩ u h tk ⟨p, h0, h1⟩ F N
    have h0 : _ = (p : Int) := h0
    subst h0
    dsimp only at F N ⊢
    have h2 : p = numL x.cps.toList := by rw [h1, List.take_of_length_le (by simp)]
    subst h2
    (try k_fold)
    walk_at "mine steps"
    all_goals cb_end hret
end
local macro_rules | `(tactic| walk_at "mine call") => `(tactic| (k_here; (with_reducible show wpAny _ _ (call (Value.ref 227) [Value.str _ _]) _ _ _); refine' Clm.use1 (number_clm _ _ _ _ _ _ ?kx ?ky _) ?k ?_; walk_at "mine k"; (case kx => assumption); (case ky => assumption); walk_at "mine used"))
theorem dec1 : ∀ d : Nat, d < 16 → ∀ id, Builtin._codecs.runDecoder id Builtin._codecs.utf8Decoder none true [(65 + d).toUInt8].toArray 0 [] = pure (#[65 + d], 1) := by
  intro d hd
  rcases (by omega : d = 0 ∨ d = 1 ∨ d = 2 ∨ d = 3 ∨ d = 4 ∨ d = 5 ∨ d = 6 ∨ d = 7 ∨ d = 8 ∨ d = 9 ∨ d = 10 ∨ d = 11 ∨ d = 12 ∨ d = 13 ∨ d = 14 ∨ d = 15) with
    rfl | rfl | rfl | rfl | rfl | rfl | rfl | rfl | rfl | rfl | rfl | rfl | rfl | rfl | rfl | rfl <;> (intro id; kernel_rfl)
theorem dec2 : ∀ a : Nat, a < 4 → ∀ d : Nat, d < 16 → ∀ id, Builtin._codecs.runDecoder id Builtin._codecs.utf8Decoder none true [(65 + a).toUInt8, (65 + d).toUInt8].toArray 0 [] = pure (#[65 + a, 65 + d], 2) := by
  intro a ha d hd
  rcases (by omega : a = 0 ∨ a = 1 ∨ a = 2 ∨ a = 3) with rfl | rfl | rfl | rfl <;>
  rcases (by omega : d = 0 ∨ d = 1 ∨ d = 2 ∨ d = 3 ∨ d = 4 ∨ d = 5 ∨ d = 6 ∨ d = 7 ∨ d = 8 ∨ d = 9 ∨ d = 10 ∨ d = 11 ∨ d = 12 ∨ d = 13 ∨ d = 14 ∨ d = 15) with
    rfl | rfl | rfl | rfl | rfl | rfl | rfl | rfl | rfl | rfl | rfl | rfl | rfl | rfl | rfl | rfl <;> (intro id; kernel_rfl)
section
variable {prog : Program} {w : World} {A : Around} {E : Value → Shared → Prop} {s : Shared} {t : Tok} {Q : Value → Shared → Prop}
theorem entry0 (t : Tok) : Builtin.«bytes.decode» ⟨[.bytes #[] t], []⟩ = (rule "bytes.decode.empty" >>= fun _ => mkStr PySem.Str.empty >>= fun v => ret v) := by kernel_rfl
theorem meets0 (t : Tok) : Meets (Builtin.«bytes.decode» ⟨[.bytes #[] t], []⟩) (fun _ R s => ∀ t' k, R (.ok (.ret (.str Str.empty t'))) { s with toks := k }) := by
  refine .of_wp fun prog w A R s h => ?_
  rw [entry0]
  exact wpAny_bind (wpAny_rule (wpAny_bind (wpAny_mkStr (wpAny_pure ⟨_, rfl, h _ _⟩) (by decide))))
theorem decode0 (h : ∀ t' k, Q (.str (apS 0) t') { s with toks := k }) : wpAny (model prog w) A (call (.builtin "bytes.decode") [.bytes (apB 0) t]) Q E s := by
  have e1 : apB 0 = #[] := by rw [apB, apL_zero]; rfl
  have e2 : apS 0 = Str.empty := by rw [apS, apL_zero]; rfl
  rw [e1]; rw [e2] at h
  exact call_meets FB.slot_bytes_decode (typeIs_bytes _ _ _) FB.entry_bytes_decode (FB.args_bytes_decode_1 _) (meets0 t) h
theorem decode_ap {n : Nat} (hn : n < 64) (h : ∀ t' k, Q (.str (apS n) t') { s with toks := k }) :
    wpAny (model prog w) A (call (.builtin "bytes.decode") [.bytes (apB n) t]) Q E s := by
  by_cases h0 : n = 0
  · subst h0; exact decode0 h
  replace h0 : 0 < n := by omega
  by_cases h1 : n < 16
  · have e1 : apB n = [(65 + n).toUInt8].toArray := by rw [apB, apL_one h0 h1]; rfl
    have e2 : apS n = ⟨#[65 + n]⟩ := by rw [apS, apL_one h0 h1]
    rw [e1]; rw [e2] at h
    exact KBd.decode (x := ⟨#[65 + n]⟩) (dec1 n h1) (by show 1 ≤ _; decide) h
  · have e1 : apB n = [(65 + n / 16).toUInt8, (65 + n % 16).toUInt8].toArray := by rw [apB, apL_two (by omega) (by omega)]; rfl
    have e2 : apS n = ⟨#[65 + n / 16, 65 + n % 16]⟩ := by rw [apS, apL_two (by omega) (by omega)]
    rw [e1]; rw [e2] at h
    exact KBd.decode (x := ⟨#[65 + n / 16, 65 + n % 16]⟩) (dec2 (n / 16) (by omega) (n % 16) (by omega)) (by show 2 ≤ _; decide) h
end
local macro_rules | `(tactic| walk_at "call builtin:bytes.decode") => `(tactic| (k_here; (with_reducible show wpAny _ _ (call (Value.builtin "bytes.decode") [Value.bytes (apB _) _]) _ _ _); (refine decode_ap (by first | assumption | omega) ?_); intro _ _))
section
variable (w : World) (mean : ExcName → Option Value) (mg mb : Str → Option Value) (news : List (Addr × Obj))
theorem name_clm (x : Nat) (hx : x < 32) (tx : Tok) : Clm w mean mg mb 4 234 news [.int x tx] (fun t => .str (apS (32 + x)) t) := by
  unfold Clm
  k_fill
  intro dp un gd cn cs a ccd cl outer A₀ base h₀ L m s Q E cB cF cX cN cT cK cD cU hret
  dsimp only [CbRet] at hret
  walk_at "mine enter"
  walk_at "mine steps"
  all_goals cb_end hret
end
local macro_rules | `(tactic| walk_at "mine call") => `(tactic| (k_here; (with_reducible show wpAny _ _ (call (Value.ref 234) [Value.int _ _]) _ _ _); refine' Clm.use1 (name_clm _ _ _ _ _ _ ?kx _) ?k ?_; walk_at "mine k"; (case kx => first | assumption | omega); walk_at "mine used"))
section
theorem item_abef' : ∀ d : Nat, d < 4 → Txt.item (Str.ofString "ABEF") (d : Int) = ⟨#[abef d]⟩ := by decide +kernel
section
variable {prog : Program} {w : World} {A : Around} {E : Value → Shared → Prop} {s : Shared} {value slice : PySem.Expr} {t : Tok} {Q : Value → Shared → Prop}
theorem item_abef {i : Int} {u : Tok} (h0 : 0 ≤ i) (h1 : i < 4) (h : ∀ t' k, Q (.str ⟨#[abef i.toNat]⟩ t') { s with toks := k })
    (hs : subscripted slice false (.str (Str.ofString "ABEF") t) (.int i u) = operate [.str (Str.ofString "ABEF") t, .int i u] (getItem (.str (Str.ofString "ABEF") t) (.int i u)) := by with_unfolding_all rfl)
    (ht : ∀ r, letTemporaryGo value (.str (Str.ofString "ABEF") t) r = pure () := by intro _; with_unfolding_all rfl) :
    wpAny (model prog w) A (subscriptTail value slice (.str (Str.ofString "ABEF") t) (.int i u)) Q E s := by
  have hl : (Str.ofString "ABEF").length = 4 := by decide
  have e := item_abef' i.toNat (by omega)
  rw [Int.toNat_of_nonneg h0] at e
  refine item_str (by unfold fitsSsize; simp; omega) (by rw [hl]; omega) (by rw [hl]; omega) (fun _ => ?_) hs ht
  rw [e]
  exact h _ _
end
local macro_rules | `(tactic| walk_at "call builtin:str.join") => `(tactic| (k_here; (with_reducible rename News _ _ _ _ => N'); (refine join_strs (N' _ (.head _)).1 (by assumption) (by assumption) ?_); intro _ _))
local macro_rules | `(tactic| walk_at "call builtin:list.append") => `(tactic| (k_here; (with_reducible rename News _ _ _ _ => N'); (with_reducible rename Fr _ _ _ _ => F'); (refine append_in (own := [_]) F' N' (by assumption) (by assumption) ?_ (by assumption)); intro h' F' N'; (try dsimp only)))
local macro_rules | `(tactic| walk_at "subscriptTail") => `(tactic| (k_here; (with_reducible show wpAny _ _ (subscriptTail _ _ (Value.str (Str.ofString "ABEF") _) (Value.int _ _)) _ _ _); (refine item_abef (by assumption) (by assumption) ?_); intro _ _))
section
variable (w : World) (mean : ExcName → Option Value) (mg mb : Str → Option Value) (news : List (Addr × Obj))
theorem square_clm (x : Str) (hx : Ap x) (hz : x.cps.size ≤ 12) (tx : Tok) : Clm w mean mg mb 4 241 news [.str x tx] (fun t => .str ⟨(sqL x.cps.toList).toArray⟩ t) := by
  unfold Clm
  k_fill
  intro dp un gd cn cs a ccd cl outer A₀ base h₀ L m s Q E cB cF cX cN cT cK cD cU hret
  dsimp only [CbRet] at hret
  walk_at "mine enter"
  walk_at "mine steps"
  walk_at "mine for"
  walk_at "mine steps"
  rename Fr _ _ _ _ => lF'
  rename News _ _ _ _ => lN'
  rename (∀ p : Addr × Obj, p ∈ news → _) => hl1
  have ho2 := off_rest hl1
  refine' text_turns (σ := List Value × Nat) (fun c => (_, listOf c.1.toArray c.2) :: news) (fun c => [(Str.ofString "pairs", .ref _)])
    (fun i c => ∃ ws : List Str, StrsAre c.1 ws ∧ ws.length = i ∧ ws.flatMap (·.cps.toList) = sqL (x.cps.toList.take i)) ([], _) ?hh ?hF ?hN ?hk ?hp ?turn ?done
  case hh => exact rfl
  case hF => exact lF'
  case hN => exact lN'
  case hk => kst_all
  case hp => exact ⟨[], .nil, rfl, rfl⟩
  case turn =>
    clear lF' lN'
    rintro i n t ⟨vs, nn⟩ u h tk I it hn hI ⟨ws, h0, h1, h2⟩ F N
    dsimp only at h0 h1 h2 F N ⊢
    have hn2 : 65 ≤ n ∧ n < 81 := hx n (by rw [Array.mem_toList_iff]; exact Array.mem_of_getElem? hn)
    have hap : Ap ⟨#[n]⟩ := by intro c hc; rw [List.mem_singleton.mp hc]; exact hn2
    have hap2 : (⟨#[n]⟩ : Str).cps.size ≤ 12 := by show 1 ≤ 12; decide
    have ho1 := off_one (it := it) hI
    have hlen : vs.length ≤ sizeLine := by
      have h5 := h0.length
      have h6 : i < x.cps.size := (Array.getElem?_eq_some_iff.mp hn).1
      rw [sizeLine_eq]; omega
    have hf : (numL (⟨#[n]⟩ : Str).cps.toList) = n - 65 := by show numL [n] = _; simp [numL]
    have hf0 : 0 ≤ ((numL (⟨#[n]⟩ : Str).cps.toList : Nat) : Int).fdiv 4 := by rw [show ((numL (⟨#[n]⟩ : Str).cps.toList : Nat) : Int).fdiv 4 = _ from fdiv_nat _ 4]; omega
    have hf1 : ((numL (⟨#[n]⟩ : Str).cps.toList : Nat) : Int).fdiv 4 < 4 := by rw [show ((numL (⟨#[n]⟩ : Str).cps.toList : Nat) : Int).fdiv 4 = _ from fdiv_nat _ 4]; omega
    have hf2 : 0 ≤ ((numL (⟨#[n]⟩ : Str).cps.toList : Nat) : Int).fmod 4 := by rw [show ((numL (⟨#[n]⟩ : Str).cps.toList : Nat) : Int).fmod 4 = _ from fmod_nat _ 4]; omega
    have hf3 : ((numL (⟨#[n]⟩ : Str).cps.toList : Nat) : Int).fmod 4 < 4 := by rw [show ((numL (⟨#[n]⟩ : Str).cps.toList : Nat) : Int).fmod 4 = _ from fmod_nat _ 4]; omega
    (try k_fold)
    walk_at "mine steps"
    rename News _ _ _ _ => lN'
    refine TEnd.intro (_, _) (by assumption) lN' (fun p hp => .tail _ hp) mem_one (off_led hI) (by kst_all) ⟨_, KStt.strs_snoc h0, by rw [List.length_append, h1]; rfl, ?_⟩
    rw [take_snoc (show x.cps.toList[i]? = some n by simpa using hn), sqL_snoc, List.flatMap_append, h2]
    congr 1
    show ((⟨#[_]⟩ : Str) ++ ⟨#[_]⟩).cps.toList ++ [] = _
    rw [Str.cps_append, hf, show ((n - 65 : Nat) : Int).fdiv 4 = _ from fdiv_nat _ 4, show ((n - 65 : Nat) : Int).fmod 4 = _ from fmod_nat _ 4]
    rfl
  case done =>
    clear lF' lN'
    rintro ⟨vs, nn⟩ u h tk ⟨ws, h0, h1, h2⟩ F N
    dsimp only at h0 h1 h2 F N ⊢
    (try k_fold)
    have hw : ws.flatMap (·.cps.toList) = sqL x.cps.toList := by rw [h2, List.take_of_length_le (by simp)]
    have hlen : (ws.flatMap (·.cps.toList)).length ≤ 16777216 := by rw [hw, sqL_length]; simp; omega
    walk_at "mine steps"
    rw [← hw] at hret
    cb_end hret
end
local macro_rules | `(tactic| walk_at "mine call") => `(tactic| (k_here; (with_reducible show wpAny _ _ (call (Value.ref 241) [Value.str _ _]) _ _ _); refine' Clm.use1 (square_clm _ _ _ _ _ _ ?kx ?ky _) ?k ?_; walk_at "mine k"; (case kx => assumption); (case ky => assumption); walk_at "mine used"))
end
end
section
section
open PySem.Builtin PySem.Builtin.Re
theorem isPat71 {P : Params} {h : Heap} (X : (Mine.hd.heap_39 P).In h) : IsPat h 71 codeD :=
  ⟨_, _, 70, _, _, _, X 71 _ rfl, rfl, rfl, rfl, rfl, rfl, rfl, X 70 _ rfl, rfl, rfl, by decide +kernel⟩
theorem isPat76 {P : Params} {h : Heap} (X : (Mine.hd.heap_39 P).In h) : IsPat h 76 codeR :=
  ⟨_, _, 75, _, _, _, X 76 _ rfl, rfl, rfl, rfl, rfl, rfl, rfl, X 75 _ rfl, rfl, rfl, by decide +kernel⟩
theorem isPat88 {P : Params} {h : Heap} (X : (Mine.hd.heap_39 P).In h) : IsPat h 88 codeN :=
  ⟨_, _, 87, _, _, _, X 88 _ rfl, rfl, rfl, rfl, rfl, rfl, rfl, X 87 _ rfl, rfl, rfl, by decide +kernel⟩
theorem isPat93 {P : Params} {h : Heap} (X : (Mine.hd.heap_39 P).In h) : IsPat h 93 codeV :=
  ⟨_, _, 92, _, _, _, X 93 _ rfl, rfl, rfl, rfl, rfl, rfl, rfl, X 92 _ rfl, rfl, rfl, by decide +kernel⟩
section
variable {prog : Program} {w : World} {A : Around} {E : Value → Shared → Prop} {s : Shared} {h₀ : Heap} {L : Addr} {m : Str → Option Value} {news : List (Addr × Obj)} {P : Params}
theorem sub76 {x : Str} {t tr : Tok} {Q : Value → Shared → Prop} (F : Fr h₀ L s.heap m) (N : News h₀ L s.heap news) (X : (Mine.hd.heap_39 P).In s.heap) (hx : x.cps.size ≤ 1000)
    (h : ∀ h' t' tk', Fr h₀ L h' m → News h₀ L h' news → Q (.str ⟨(nlF false x.cps.toList).toArray⟩ t') { s with heap := h', toks := tk' }) :
    wpAny (model prog w) A (call (.builtin "re.Pattern.sub") [.ref 76, .str ⟨#[13, 10]⟩ tr, .str x t]) Q E s := by
  refine sub_call (srchR x.cps) (isPat76 X) hx (by decide) (by decide +kernel) fun h' t' tk' hk => ?_
  rw [subR (x.cps.size + 1) 0 (by omega) (Nat.zero_le _), List.drop_zero]
  exact h h' t' tk' (F.keeps hk) (N.grown hk)
theorem sub71 {x : Str} {t tr : Tok} {Q : Value → Shared → Prop} (F : Fr h₀ L s.heap m) (N : News h₀ L s.heap news) (X : (Mine.hd.heap_39 P).In s.heap) (hx : x.cps.size ≤ 1000)
    (h : ∀ h' t' tk', Fr h₀ L h' m → News h₀ L h' news → Q (.str ⟨(ddF true x.cps.toList).toArray⟩ t') { s with heap := h', toks := tk' }) :
    wpAny (model prog w) A (call (.builtin "re.Pattern.sub") [.ref 71, .str (Str.ofString "..") tr, .str x t]) Q E s := by
  refine sub_call (srchD x.cps hx) (isPat71 X) hx (by decide) (by decide +kernel) fun h' t' tk' hk => ?_
  rw [show (Str.ofString "..").cps.toList = [46, 46] by rfl, subD (x.cps.size + 1) 0 (by omega) (Nat.zero_le _), List.drop_zero]
  exact h h' t' tk' (F.keeps hk) (N.grown hk)
end
end
local macro_rules | `(tactic| walk_at "getMethod ref") => `(tactic| (k_here; (with_reducible first | (show wpAny _ _ (getMethod (Value.ref 71) (Str.ofString "sub") _) _ _ _; refine getMethod_sub (isPat71 (by k_in)) ?_) | (show wpAny _ _ (getMethod (Value.ref 76) (Str.ofString "sub") _) _ _ _; refine getMethod_sub (isPat76 (by k_in)) ?_) | (show wpAny _ _ (getMethod (Value.ref 88) (Str.ofString "search") _) _ _ _; refine getMethod_search (isPat88 (by k_in)) ?_) | (show wpAny _ _ (getMethod (Value.ref 93) (Str.ofString "search") _) _ _ _; refine getMethod_search (isPat93 (by k_in)) ?_))))
local macro_rules | `(tactic| walk_at "call builtin:re.Pattern.sub") => `(tactic| (k_here; (with_reducible rename News _ _ _ _ => N'); (with_reducible rename Fr _ _ _ _ => F'); (first | refine sub76 F' N' (by k_in) (by assumption) ?_ | refine sub71 F' N' (by k_in) (by assumption) ?_); intro h' t' tk' F' N'))
section
variable (w : World) (mean : ExcName → Option Value) (mg mb : Str → Option Value) (news : List (Addr × Obj))
theorem quote_clm (x : Str) (h1 : x.cps.size ≤ 1000) (h2 : (⟨(nlF false x.cps.toList).toArray⟩ : Str).cps.size ≤ 1000) (tx : Tok) : Clm w mean mg mb 4 83 news [.str x tx] (fun t => .str ⟨(ddF true (nlF false x.cps.toList)).toArray⟩ t) := by
  unfold Clm
  k_fill
  intro dp un gd cn cs a ccd cl outer A₀ base h₀ L m s Q E cB cF cX cN cT cK cD cU hret
  dsimp only [CbRet] at hret
  walk_at "mine enter"
  walk_at "mine steps"
  all_goals cb_end hret
end
local macro_rules | `(tactic| walk_at "mine call") => `(tactic| (k_here; (with_reducible show wpAny _ _ (call (Value.ref 83) [Value.str _ _]) _ _ _); refine' Clm.use1 (quote_clm _ _ _ _ _ _ ?kx ?ky _) ?k ?_; walk_at "mine k"; (case kx => assumption); (case ky => assumption); walk_at "mine used"))
local macro_rules | `(tactic| walk_at "call builtin:re.Pattern.search") => `(tactic| (k_here; (first | refine search_plainN (isPat88 (by k_in)) (by assumption) (by assumption) ?_ | refine search_plainV (isPat93 (by k_in)) (by assumption) (by assumption) ?_)))
section
variable (w : World) (mean : ExcName → Option Value) (mg mb : Str → Option Value) (news : List (Addr × Obj))
theorem convN_clm (a0 : Addr) (x : Str) (h1 : x.cps.size < 2 ^ 62) (h2 : ∀ c ∈ x.cps.toList, 32 ≤ c ∧ c < 127) (tx : Tok) : ClmK w mean mg mb 2 115 news [.ref a0, .str x tx] [(Str.ofString "name", .bool true)] (fun _ => .str x tx) := by
  unfold ClmK
  k_fill
  intro dp un gd cn cs a ccd cl outer A₀ base h₀ L m s Q E cB cF cX cN cT cK cD cU hret
  dsimp only [CbRet] at hret
  walk_at "mine enter"
  walk_at "mine steps"
  all_goals exact hret tx _ _ (by assumption) (by assumption)
theorem convV_clm (a0 : Addr) (x : Str) (h1 : x.cps.size < 2 ^ 62) (h2 : ∀ c ∈ x.cps.toList, 65 ≤ c ∧ c < 81) (tx : Tok) : ClmK w mean mg mb 2 115 news [.ref a0, .str x tx] [(Str.ofString "name", .bool false)] (fun _ => .str x tx) := by
  unfold ClmK
  k_fill
  intro dp un gd cn cs a ccd cl outer A₀ base h₀ L m s Q E cB cF cX cN cT cK cD cU hret
  dsimp only [CbRet] at hret
  walk_at "mine enter"
  walk_at "mine steps"
  all_goals exact hret tx _ _ (by assumption) (by assumption)
end
local macro_rules | `(tactic| walk_at "mine call") => `(tactic| (k_here; (with_reducible show wpAny _ _ (call (Value.ref 115) _ _) _ _ _); (first | refine' ClmK.use1 (convN_clm _ _ _ _ _ _ _ ?kx ?ky _) ?k ?_ | refine' ClmK.use1 (convV_clm _ _ _ _ _ _ _ ?kx ?ky _) ?k ?_); walk_at "mine k"; (case kx => assumption); (case ky => assumption); walk_at "mine used"))
/-- a name of the table: great letters or small ones -/
noncomputable def nmS (x : Nat) (b : Bool) : Str := if b then apS (32 + x) else ⟨((apL (32 + x)).map (· + 32)).toArray⟩
noncomputable def sqS (x : Nat) : Str := ⟨(sqL (apL x)).toArray⟩
theorem apL_nm {x : Nat} (h : x < 32) : apL (32 + x) = [67 + x / 16, 65 + x % 16] := by
  rw [apL_two (by omega) (by omega), show (32 + x) / 16 = 2 + x / 16 by omega, show (32 + x) % 16 = x % 16 by omega]
  rw [show 65 + (2 + x / 16) = 67 + x / 16 by omega]
theorem nmS_true {x : Nat} (h : x < 32) : nmS x true = ⟨#[67 + x / 16, 65 + x % 16]⟩ := by
  show apS (32 + x) = _
  rw [apS, apL_nm h]
theorem nmS_false {x : Nat} (h : x < 32) : nmS x false = ⟨#[99 + x / 16, 97 + x % 16]⟩ := by
  show (⟨((apL (32 + x)).map (· + 32)).toArray⟩ : Str) = _
  rw [apL_nm h]
  show (⟨#[67 + x / 16 + 32, 65 + x % 16 + 32]⟩ : Str) = _
  rw [show 67 + x / 16 + 32 = 99 + x / 16 by omega, show 65 + x % 16 + 32 = 97 + x % 16 by omega]
theorem low_up : ∀ a, a < 2 → ∀ b, b < 16 → Txt.lower ⟨#[67 + a, 65 + b]⟩ = ⟨#[99 + a, 97 + b]⟩ := by decide +kernel
theorem low_low : ∀ a, a < 2 → ∀ b, b < 16 → Txt.lower ⟨#[99 + a, 97 + b]⟩ = ⟨#[99 + a, 97 + b]⟩ := by decide +kernel
theorem up_up : ∀ a, a < 2 → ∀ b, b < 16 → Txt.upper ⟨#[67 + a, 65 + b]⟩ = ⟨#[67 + a, 65 + b]⟩ := by decide +kernel
theorem up_low : ∀ a, a < 2 → ∀ b, b < 16 → Txt.upper ⟨#[99 + a, 97 + b]⟩ = ⟨#[67 + a, 65 + b]⟩ := by decide +kernel
theorem lower_nm {x : Nat} (h : x < 32) (b : Bool) : Txt.lower (nmS x b) = nmS x false := by
  cases b with
  | true => rw [nmS_true h, nmS_false h, low_up _ (by omega) _ (by omega)]
  | false => rw [nmS_false h, low_low _ (by omega) _ (by omega)]
theorem upper_nm {x : Nat} (h : x < 32) (b : Bool) : Txt.upper (nmS x b) = apS (32 + x) := by
  show _ = nmS x true
  cases b with
  | true => rw [nmS_true h, up_up _ (by omega) _ (by omega)]
  | false => rw [nmS_false h, nmS_true h, up_low _ (by omega) _ (by omega)]
theorem nmS_inj {x y : Nat} (hx : x < 32) (hy : y < 32) : nmS x false = nmS y false ↔ x = y := by
  constructor
  · intro h
    rw [nmS_false hx, nmS_false hy] at h
    have h1 := congrArg (fun z : Str => z.cps.toList) h
    simp at h1
    omega
  · intro h; rw [h]
theorem nmS_size {x : Nat} (h : x < 32) (b : Bool) : (nmS x b).cps.size = 2 := by
  cases b with
  | true => rw [nmS_true h]; rfl
  | false => rw [nmS_false h]; rfl
theorem nmS_plain {x : Nat} (h : x < 32) (b : Bool) : ∀ c ∈ (nmS x b).cps.toList, 32 ≤ c ∧ c < 127 := by
  intro c hc
  cases b with
  | true => rw [nmS_true h] at hc; simp at hc; omega
  | false => rw [nmS_false h] at hc; simp at hc; omega
theorem sqS_ap (x : Nat) : ∀ c ∈ (sqS x).cps.toList, 65 ≤ c ∧ c < 81 := by
  intro c hc
  exact sqL_ap (apL_ap x) c (by simpa [sqS] using hc)
theorem sqS_size {x : Nat} (h : x < 256) : (sqS x).cps.size ≤ 4 := by
  show (sqL (apL x)).toArray.size ≤ 4
  have := apL_length 2 (n := x) (by omega)
  rw [List.size_toArray, sqL_length]
  omega
/-- a pair of the table lies on the ledger -/
noncomputable def EntAt (news : List (Addr × Obj)) (r : Value) (e : Nat × Bool) : Prop :=
  ∃ a t1 t2 n, r = .ref a ∧ (a, ({ cls := .type "tuple", data := .seq #[.str (nmS e.1 e.2) t1, .str (sqS e.1) t2] n } : Obj)) ∈ news ∧ e.1 < 32
inductive EntsAre (news : List (Addr × Obj)) : List Value → List (Nat × Bool) → Prop
  | nil : EntsAre news [] []
  | cons {r e rs es} : EntAt news r e → EntsAre news rs es → EntsAre news (r :: rs) (e :: es)
theorem EntsAre.length {news : List (Addr × Obj)} {rs es} (h : EntsAre news rs es) : rs.length = es.length := by
  induction h with
  | nil => rfl
  | cons _ _ ih => rw [List.length_cons, List.length_cons, ih]
theorem EntsAre.get {news : List (Addr × Obj)} {rs es} (h : EntsAre news rs es) : ∀ {i : Nat} {r : Value}, rs[i]? = some r → ∃ e, es[i]? = some e ∧ EntAt news r e := by
  induction h with
  | nil => intro i r e; rw [List.getElem?_nil] at e; exact nomatch e
  | cons h _ ih =>
    intro i r e
    cases i with
    | zero => cases e; exact ⟨_, rfl, h⟩
    | succ i => rw [List.getElem?_cons_succ] at e ⊢; exact ih e
theorem EntAt.mono {news news' : List (Addr × Obj)} {r : Value} {e : Nat × Bool} (h : EntAt news r e) (k : ∀ a o, o.cls = .type "tuple" → (a, o) ∈ news → (a, o) ∈ news') : EntAt news' r e := by
  obtain ⟨a, t1, t2, n, h1, h2, h3⟩ := h
  exact ⟨a, t1, t2, n, h1, k _ _ rfl h2, h3⟩
theorem EntsAre.mono {news news' : List (Addr × Obj)} (k : ∀ a o, o.cls = .type "tuple" → (a, o) ∈ news → (a, o) ∈ news') {rs es} (h : EntsAre news rs es) : EntsAre news' rs es := by
  induction h with
  | nil => exact .nil
  | cons h _ ih => exact .cons (h.mono k) ih
theorem EntsAre.snoc {news : List (Addr × Obj)} {r : Value} {e : Nat × Bool} (h : EntAt news r e) {rs es} (k : EntsAre news rs es) : EntsAre news (rs ++ [r]) (es ++ [e]) := by
  induction k with
  | nil => exact .cons h .nil
  | cons h' _ ih => exact .cons h' ih
/-- what a table's get hands back -/
noncomputable def getV (es : List (Nat × Bool)) (y : Nat) (t : Tok) : Value := if (es.map (·.1)).contains y then .str (sqS y) t else .none
theorem getV_in {es : List (Nat × Bool)} {y : Nat} (h : y ∈ es.map (·.1)) (t : Tok) : getV es y t = .str (sqS y) t := by
  unfold getV; rw [if_pos (by simpa using h)]
theorem getV_out {es : List (Nat × Bool)} {y : Nat} (h : y ∉ es.map (·.1)) (t : Tok) : getV es y t = .none := by
  unfold getV; rw [if_neg (by simpa using h)]
theorem none_of_turns {es : List (Nat × Bool)} {y : Nat} (h : ∀ j e, j < es.length → es[j]? = some e → e.1 ≠ y) : y ∉ es.map (·.1) := by
  intro hm
  obtain ⟨e, he, rfl⟩ := List.mem_map.mp hm
  obtain ⟨j, hj, hje⟩ := List.mem_iff_getElem.mp he
  exact h j e hj (by rw [← hje]; exact List.getElem?_eq_getElem hj) rfl
section
variable {prog : Program} {w : World} {A : Around} {E : Value → Shared → Prop} {s : Shared} {t : Tok} {Q : Value → Shared → Prop}
theorem lower_call {x : Nat} {b : Bool} (hx : x < 32) (h : ∀ t' k, Q (.str (nmS x false) t') { s with toks := k }) : wpAny (model prog w) A (call (.builtin "str.lower") [.str (nmS x b) t]) Q E s := by
  have e := lower_nm hx b
  refine SCL.lower (by rw [show (nmS x b).length = 2 from nmS_size hx b]; decide) (fun _ => ?_)
  rw [e]
  exact h _ _
theorem assign_pair {env : Env} {h₀ : Heap} {L : Addr} {m : Str → Option Value} {news : List (Addr × Obj)} {a : Addr} {v1 v2 : Value} {n : Nat} {e1 e2 : Expr} {k : Nat} {pos : Pos} {Q : Unit → Shared → Prop} (F : Fr h₀ L s.heap m) (N : News h₀ L s.heap news)
    (ha : (a, ({ cls := .type "tuple", data := .seq #[v1, v2] n } : Obj)) ∈ news) (hh : A.handled = none) (hn : (assignEach [e1, e2] env).length = 2) (hstar : (assignEach [e1, e2] env).findIdx? (·.1) = none)
    (h : ∀ h', Fr h₀ L h' m → News h₀ L h' news → wpAny (model prog w) A (assignInOrder ((assignEach [e1, e2] env).map (·.2)) [v1, v2]) Q E { s with heap := h' }) :
    wpAny (model prog w) A (assign (.Tuple [e1, e2] k pos) env (.ref a)) Q E s :=
  unpackN_ F N ⟨_, (N _ ha).1, rfl, n, rfl⟩ hh hn hstar h
end
local macro_rules | `(tactic| walk_at "call builtin:str.lower") => `(tactic| (k_here; (with_reducible show wpAny _ _ (call (Value.builtin "str.lower") [Value.str (nmS _ _) _]) _ _ _); refine lower_call (by assumption) ?_; intro _ _))
local macro_rules | `(tactic| walk_at "assign Tuple") => `(tactic| (k_here; (with_reducible rename News _ _ _ _ => N'); (with_reducible rename Fr _ _ _ _ => F'); (refine assign_pair F' N' (by first | assumption | (refine List.mem_cons_of_mem _ ?_; assumption)) (by rfl) (by rfl) (by rfl) ?_); intro h' F' N'))
section
variable (w : World) (mean : ExcName → Option Value) (mg mb : Str → Option Value) (news : List (Addr × Obj))
theorem get_clm (x0 dx l : Addr) (hh : Int) (tk0 : Tok) (nl : Nat) (rs : List Value) (es : List (Nat × Bool)) (hx : (x0, instObj 216 dx) ∈ news) (hd : (dx, dictOf [⟨hh, .str (Str.ofString "_headers") tk0, .ref l⟩] 1) ∈ news)
    (hl : (l, listOf rs.toArray nl) ∈ news) (he : EntsAre news rs es) (y : Nat) (b : Bool) (hy : y < 32) (t : Tok) :
    Clm w mean mg mb 4 163 news [.ref x0, .str (nmS y b) t] (getV es y) := by
  unfold Clm
  k_fill
  intro dp un gd cn cs a ccd cl outer A₀ base h₀ L m s Q E cB cF cX cN cT cK cD cU hret
  dsimp only [CbRet] at hret
  refine wpAny_call ?_
  k_dflt (refine' code_def ?k1 ?k2 ?k3 ?k4 ?k5 ?kA ?kF ?kK ?k6 ?k7 ?k8 ?k9 ?kB ?_ ?c2 ?c3 ?c4 ?c5; (case kA => exact rfl); (case kF => exact rfl); (case kK => assumption); (case k1 => k_asm); (case k2 => k_asm); (case k3 => k_asm); (case k4 => k_asm); (case k5 => k_asm); (case k6 => k_is); (case k7 => k_is); (case k8 => ktr_room); (case k9 => first | exact BindsTo.of_eq rfl | exact binds_K (by k_in) rfl (by k_is) rfl rfl rfl); (case c5 => decide); (case kB => exact locs rfl); (case c2 => exact rfl); (case c3 => exact rfl); (case c4 => exact rfl); k_whole; intro g' L' h' FG' F' N' B' X' T'; (try dsimp only); (try k_lift B'); (try k_fold))
  have hp1 : (nmS y false).cps.size < 2 ^ 62 := by rw [nmS_size hy]; decide
  have hp2 := nmS_plain hy false
  walk_at "mine steps"
  walk_at "mine for"
  walk_at "mine steps"
  rename Fr _ _ _ _ => lF'
  rename News _ _ _ _ => lN'
  refine' list_turns (σ := Unit) (fun _ => news) (fun c => [(Str.ofString "name", .str (nmS y false) _), (Str.ofString "default", .none)])
    (fun i _ => ∀ j e, j < i → es[j]? = some e → e.1 ≠ y) () ?hh (fun _ => hl) ?hF ?hN ?hk ?hp ?turn ?done
  case hh => exact rfl
  case hF => exact lF'
  case hN => exact lN'
  case hk => kst_all
  case hp => intro j e hj; omega
  case turn =>
    clear lF' lN'
    rintro i v ⟨⟩ u h tk I it hv hc hI hinv F N
    obtain ⟨e, hei, a1, t1, t2, n1, rfl, hm, hlt⟩ := he.get hv
    dsimp only at F N ⊢
    (try k_fold)
    walk_at "mine steps"
    · rename (_ == _) = true => hq
      have hq' : e.1 = y := (nmS_inj hlt hy).mp (by simpa using hq)
      have hin : y ∈ es.map (·.1) := List.mem_map.mpr ⟨e, List.mem_of_getElem? hei, hq'⟩
      simp only [getV_in hin] at hret
      subst hq'
      dsimp only [TEnd]
      walk_at "mine steps"
      rename News h₀ _ _ _ => kN
      exact hret t2 _ _ (by assumption) (fun p hp => kN p (.tail _ hp))
    · rename (_ == _) = false => hq
      rename News _ _ _ _ => lN'
      refine TEnd.intro () (by assumption) lN' (fun p hp => .tail _ hp) mem_one (off_same hI) (by kst_all) ?_
      intro j e' hj hje
      by_cases hji : j = i
      · subst hji
        rw [hei] at hje
        cases hje
        intro hz
        rw [hz] at hq
        simp at hq
      · exact hinv j e' (by omega) hje
  case done =>
    clear lF' lN'
    rintro ⟨⟩ u h tk hinv F N
    dsimp only at hinv F N ⊢
    rw [he.length] at hinv
    simp only [getV_out (none_of_turns hinv)] at hret
    (try k_fold)
    walk_at "mine steps"
    exact hret 0 _ _ (by assumption) (by assumption)
end
local macro_rules | `(tactic| walk_at "mine call") => `(tactic| (k_here; (with_reducible show wpAny _ _ (call (Value.ref 163) _ _) _ _ _); refine' Clm.use1 (get_clm _ _ _ _ _ _ _ _ _ _ _ _ _ ?hx ?hd ?hl ?he _ _ ?hy _) ?k ?_; walk_at "mine k"; (case k4 => k_asm); walk_at "mine xdl"; (case he => assumption); (case hy => assumption); walk_at "mine ks"; intro t9 h9 tk9 F9 N9; (try dsimp only); (first | rw [getV_in (by assumption)] | rw [getV_out (by assumption)]); (try k_fold)))
section
theorem news_swap {h₀ h : Heap} {L : Addr} {p q : Addr × Obj} {r : List (Addr × Obj)} (N : News h₀ L h (p :: q :: r)) : News h₀ L h (q :: p :: r) := fun z hz => N z (by
  rcases List.mem_cons.mp hz with rfl | hz
  · exact .tail _ (.head _)
  · rcases List.mem_cons.mp hz with rfl | hz
    · exact .head _
    · exact .tail _ (.tail _ hz))
theorem allLt_all {d : Addr} : ∀ {l : List (Addr × Obj)}, AllLt d l → ∀ p ∈ l, p.1 < d
  | [], _ => fun _ h => nomatch h
  | q :: r, h => fun p hp => by
    rcases List.mem_cons.mp hp with rfl | hp
    · exact h.1
    · exact allLt_all h.2 p hp
section
variable (w : World) (mean : ExcName → Option Value) (mg mb : Str → Option Value) (news : List (Addr × Obj))
theorem setd_in_clm (x0 dx l : Addr) (hh : Int) (tk0 : Tok) (nl : Nat) (rs : List Value) (es : List (Nat × Bool)) (hx : (x0, instObj 216 dx) ∈ news) (hd : (dx, dictOf [⟨hh, .str (Str.ofString "_headers") tk0, .ref l⟩] 1) ∈ news)
    (hl : (l, listOf rs.toArray nl) ∈ news) (he : EntsAre news rs es) (y : Nat) (b : Bool) (hy : y < 32) (hin : y ∈ es.map (·.1)) (t tv : Tok) (v : Str) :
    Clm w mean mg mb 6 206 news [.ref x0, .str (nmS y b) t, .str v tv] (fun t' => .str (sqS y) t') := by
  unfold Clm
  k_fill
  intro dp un gd cn cs a ccd cl outer A₀ base h₀ L m s Q E cB cF cX cN cT cK cD cU hret
  dsimp only [CbRet] at hret
  walk_at "mine enter"
  walk_at "mine steps"
  all_goals cb_end hret
/-- the claim of setdefault where the name is new -/
theorem setd_out (x0 dx l : Addr) (hh : Int) (tk0 : Tok) (nl : Nat) (rs : List Value) (es : List (Nat × Bool)) (rest : List (Addr × Obj)) (hx : (x0, instObj 216 dx) ∈ rest) (hd : (dx, dictOf [⟨hh, .str (Str.ofString "_headers") tk0, .ref l⟩] 1) ∈ rest)
    (he : EntsAre rest rs es) (hr : ∀ p ∈ rest, p.1 ≠ l) (hz : rs.length ≤ 1000) (y : Nat) (b : Bool) (hy : y < 32) (hin : y ∉ es.map (·.1)) (t tv : Tok)
    (dp un : Nat) (gd : Option (List Code)) (cn : Str) (cs : Scope) (a : Addr) (ccd : Value) (cl : List (Str × Addr)) (outer : List Env) (A₀ : Around) (base h₀ : Heap) (L : Addr) (m : Str → Option Value) (s : Shared) (Q E : Value → Shared → Prop)
    (cB : Below A₀ base outer h₀) (cF : Fr h₀ L s.heap m) (cX : (Mine.hd.heap_39 w.params).In h₀) (cN : News h₀ L s.heap ((l, listOf rs.toArray nl) :: rest))
    (cT : Top Mine.hd.view_39 (looseW Mine.hd.view_39 [Str.ofString "_twin_re_1", Str.ofString "_twin_re_2", Str.ofString "_name_disallowed_re", Str.ofString "_value_disallowed_re"]) mean mg mb h₀)
    (cK : cs.kind = .function) (cD : dp + 6 < recursionLimit) (cU : un + 10 * 6 < cLine)
    (hret : ∀ (a1 : Addr) (t1 t2 t' : Tok) (h' : Heap) (tk' : Nat), Fr h₀ L h' m → News h₀ L h' ((l, listOf (rs ++ [Value.ref a1]).toArray (nl + 1)) :: (a1, ({ cls := .type "tuple", data := .seq #[.str (nmS y b) t1, .str (sqS y) t2] 0 } : Obj)) :: rest) → (∀ p ∈ rest, p.1 < a1) → l < a1 →
      Q (.str (sqS y) t') { s with heap := h', toks := tk' }) :
    wpAny (model (PySem.Challenge.rw_wj0041_01).prog w) (ktrTop dp un gd cn cs L a ccd cl outer) (call (.ref 206) [.ref x0, .str (nmS y b) t, .str (sqS y) tv]) Q E s := by
  k_fill
  have hl : (l, listOf rs.toArray nl) ∈ (l, listOf rs.toArray nl) :: rest := .head _
  have hx' := List.mem_cons_of_mem (l, listOf rs.toArray nl) hx
  have hd' := List.mem_cons_of_mem (l, listOf rs.toArray nl) hd
  have he' : EntsAre ((l, listOf rs.toArray nl) :: rest) rs es := he.mono fun _ _ _ h => .tail _ h
  have hp1 : (nmS y b).cps.size < 2 ^ 62 := by rw [nmS_size hy]; decide
  have hp2 := nmS_plain hy b
  have hp3 : (sqS y).cps.size < 2 ^ 62 := Nat.lt_of_le_of_lt (sqS_size (Nat.lt_trans hy (by decide))) (by decide)
  have hp4 := sqS_ap y
  walk_at "mine enter"
  walk_at "mine steps"
  rename (l < _ ∧ AllLt _ _) => hl1
  rename News _ _ _ _ => N'
  rename Fr _ _ _ _ => F'
  refine append_in (own := [_]) F' N' (fun p hp => by rw [List.mem_singleton.mp hp]; exact Nat.ne_of_gt hl1.1) hr ?_ (by rw [sizeLine_eq]; omega)
  intro h' F' N'
  (try dsimp only)
  walk_at "mine steps"
  rename News h₀ _ _ _ => kN
  exact hret _ t tv tv _ _ (by assumption) (news_swap kN) (allLt_all hl1.2) hl1.1
end
end
end
section
theorem LCgOff {D : Addr} : ∀ {l : List (Addr × Obj)}, LCg.Off1 D l → ∀ p ∈ l, p.1 ≠ D
  | [], _, _, h => nomatch h
  | q :: r, h, p, hp => by
    rcases List.mem_cons.mp hp with rfl | hp
    · exact h.1
    · exact LCgOff h.2 p hp
section
variable (w : World) (mean : ExcName → Option Value) (mg mb : Str → Option Value) (news : List (Addr × Obj))
theorem keys_clm (x0 dx l : Addr) (hh : Int) (tk0 : Tok) (nl : Nat) (rs : List Value) (es : List (Nat × Bool)) (hx : (x0, instObj 216 dx) ∈ news) (hd : (dx, dictOf [⟨hh, .str (Str.ofString "_headers") tk0, .ref l⟩] 1) ∈ news)
    (hl : (l, listOf rs.toArray nl) ∈ news) (he : EntsAre news rs es) (hz : rs.length ≤ 1000) :
    ClmL w mean mg mb 4 168 news [.ref x0] (fun ys => StrsAre ys (es.map fun e => nmS e.1 e.2)) := by
  unfold ClmL
  k_fill
  intro dp un gd cn cs a ccd cl outer A₀ base h₀ L m s Q E cB cF cX cN cT cK cD cU hret
  walk_at "mine enter"
  iterate 3 walk1
  k_here
  k_dflt (refine LCp.ListComp_P (F₀ := by k_asm) (by with_unfolding_all rfl) (by decide) (by rfl) (by decide) (by rfl) (by rfl) (by decide) ?_)
  walk_at "mine steps"
  rename Fr _ _ _ _ => lF'
  rename News _ _ _ _ => lN'
  refine LCp.SrcLP.ledger ?hh lF' lN' hl (by rw [List.size_toArray, sizeLine_eq]; omega) (fun g => ?_)
  case hh => exact rfl
  refine restP_go (fun i y => ∃ t e, y = .str (nmS e.1 e.2) t ∧ es[i]? = some e) (.inr ⟨_, hl, rfl, _, rfl⟩) ?_ _ 0 [] rfl (fun j y h => nomatch h) ?_
  · intro i v hv
    obtain ⟨e, hei, a1, t1, t2, n1, rfl, hm, hlt⟩ := he.get (show rs[i]? = some v by simpa using hv)
    refine ⟨a1, _, _, _, n1, rfl, hm, rfl, rfl, ?_⟩
    intro ys I oI C oC D m₂ h tk E' n1 n2 n3 F N
    (try k_fold)
    walk_at "mine steps"
    exact ElEnd.intro F N (fun p hp => hp) ⟨_, e, rfl, hei⟩
  · intro zs hzl hrel
    unfold LCg.FinE
    intro D h' tk' F' N' o1
    have hzl' : zs.length = es.length := by rw [hzl, Nat.zero_add, List.size_toArray, he.length]
    have hst : StrsAre zs (es.map fun e => nmS e.1 e.2) := strsAre_of (f := fun _ => Str.empty) (by rw [hzl', List.length_map]) fun j y hy => by
      obtain ⟨t, e, rfl, hej⟩ := hrel j y hy
      exact ⟨t, _, rfl, by rw [List.getElem?_map, hej]; rfl⟩
    (try dsimp only)
    (try k_fold)
    walk_at "mine steps"
    rename News h₀ _ _ _ => kN
    exact hret D _ zs _ _ hst (by assumption) kN (LCgOff o1)
end
section
variable (w : World) (mean : ExcName → Option Value) (mg mb : Str → Option Value) (news : List (Addr × Obj))
theorem values_clm (x0 dx l : Addr) (hh : Int) (tk0 : Tok) (nl : Nat) (rs : List Value) (es : List (Nat × Bool)) (hx : (x0, instObj 216 dx) ∈ news) (hd : (dx, dictOf [⟨hh, .str (Str.ofString "_headers") tk0, .ref l⟩] 1) ∈ news)
    (hl : (l, listOf rs.toArray nl) ∈ news) (he : EntsAre news rs es) (hz : rs.length ≤ 1000) :
    ClmL w mean mg mb 4 173 news [.ref x0] (fun ys => StrsAre ys (es.map fun e => sqS e.1)) := by
  unfold ClmL
  k_fill
  intro dp un gd cn cs a ccd cl outer A₀ base h₀ L m s Q E cB cF cX cN cT cK cD cU hret
  walk_at "mine enter"
  iterate 3 walk1
  k_here
  k_dflt (refine LCp.ListComp_P (F₀ := by k_asm) (by with_unfolding_all rfl) (by decide) (by rfl) (by decide) (by rfl) (by rfl) (by decide) ?_)
  walk_at "mine steps"
  rename Fr _ _ _ _ => lF'
  rename News _ _ _ _ => lN'
  refine LCp.SrcLP.ledger ?hh lF' lN' hl (by rw [List.size_toArray, sizeLine_eq]; omega) (fun g => ?_)
  case hh => exact rfl
  refine restP_go (fun i y => ∃ t e, y = .str (sqS e.1) t ∧ es[i]? = some e) (.inr ⟨_, hl, rfl, _, rfl⟩) ?_ _ 0 [] rfl (fun j y h => nomatch h) ?_
  · intro i v hv
    obtain ⟨e, hei, a1, t1, t2, n1, rfl, hm, hlt⟩ := he.get (show rs[i]? = some v by simpa using hv)
    refine ⟨a1, _, _, _, n1, rfl, hm, rfl, rfl, ?_⟩
    intro ys I oI C oC D m₂ h tk E' n1 n2 n3 F N
    (try k_fold)
    walk_at "mine steps"
    exact ElEnd.intro F N (fun p hp => hp) ⟨_, e, rfl, hei⟩
  · intro zs hzl hrel
    unfold LCg.FinE
    intro D h' tk' F' N' o1
    have hzl' : zs.length = es.length := by rw [hzl, Nat.zero_add, List.size_toArray, he.length]
    have hst : StrsAre zs (es.map fun e => sqS e.1) := strsAre_of (f := fun _ => Str.empty) (by rw [hzl', List.length_map]) fun j y hy => by
      obtain ⟨t, e, rfl, hej⟩ := hrel j y hy
      exact ⟨t, _, rfl, by rw [List.getElem?_map, hej]; rfl⟩
    (try dsimp only)
    (try k_fold)
    walk_at "mine steps"
    rename News h₀ _ _ _ => kN
    exact hret D _ zs _ _ hst (by assumption) kN (LCgOff o1)
end
local macro_rules | `(tactic| walk_at "mine call") => `(tactic| (k_here; (with_reducible show wpAny _ _ (call (Value.ref 168) _ _) _ _ _); refine' ClmL.use1 (keys_clm _ _ _ _ _ _ _ _ _ _ _ _ _ ?hx ?hd ?hl ?he ?hz) ?k ?_; walk_at "mine k"; (case k4 => k_asm); walk_at "mine xdl"; (case he => assumption); (case hz => assumption); walk_at "mine ks"; intro D9 n9 ys9 h9 tk9 p9 F9 N9 o9; (try dsimp only); (try k_fold)))
local macro_rules | `(tactic| walk_at "mine call") => `(tactic| (k_here; (with_reducible show wpAny _ _ (call (Value.ref 173) _ _) _ _ _); refine' ClmL.use1 (values_clm _ _ _ _ _ _ _ _ _ _ _ _ _ ?hx ?hd ?hl ?he ?hz) ?k ?_; walk_at "mine k"; (case k4 => k_asm); walk_at "mine xdl"; (case he => assumption); (case hz => assumption); walk_at "mine ks"; intro D9 n9 ys9 h9 tk9 p9 F9 N9 o9; (try dsimp only); (try k_fold)))
end
section
noncomputable def leadL (c : Nat) : List Nat := List.replicate (c / 8 % 2) 46
noncomputable def rowL (c : Nat) : List Nat := leadL c ++ [66, 65 + c % 8]
noncomputable def endL (c : Nat) : List Nat := [[13, 10], [13], [10]].getD (c / 16 % 3) []
noncomputable def mailL (cs : List Nat) : List Nat := cs.flatMap fun c => rowL c ++ endL c
noncomputable def dueRow (c : Nat) : List Nat := leadL c ++ rowL c
noncomputable def dueL (cs : List Nat) : List Nat := cs.flatMap fun c => dueRow c ++ [13, 10]
noncomputable def midL (cs : List Nat) : List Nat := cs.flatMap fun c => rowL c ++ [13, 10]
theorem lead_cases (c : Nat) : leadL c = [] ∨ leadL c = [46] := by
  unfold leadL
  rcases Nat.mod_two_eq_zero_or_one (c / 8) with h | h <;> rw [h]
  · exact .inl rfl
  · exact .inr rfl
theorem end_cases (c : Nat) : endL c = [13, 10] ∨ endL c = [13] ∨ endL c = [10] := by
  unfold endL
  rcases (by omega : c / 16 % 3 = 0 ∨ c / 16 % 3 = 1 ∨ c / 16 % 3 = 2) with h | h | h <;> rw [h]
  · exact .inl rfl
  · exact .inr (.inl rfl)
  · exact .inr (.inr rfl)
theorem nlF_plain {b : Bool} {c : Nat} {r : List Nat} (h1 : c ≠ 10) (h2 : c ≠ 13) : nlF b (c :: r) = c :: nlF false r := by
  show (if (b && c == 10) = true then _ else if (c == 13) = true then _ else if (c == 10) = true then _ else _) = _
  rw [beq_eq_false_iff_ne.mpr h1, beq_eq_false_iff_ne.mpr h2, Bool.and_false]; rfl
theorem nl_row (b : Bool) (c : Nat) (r : List Nat) : nlF b (rowL c ++ r) = rowL c ++ nlF false r := by
  unfold rowL
  rcases lead_cases c with h | h <;> rw [h]
  · show nlF b (66 :: (65 + c % 8) :: r) = 66 :: (65 + c % 8) :: nlF false r
    rw [nlF_plain (by decide) (by decide), nlF_plain (by omega) (by omega)]
  · show nlF b (46 :: 66 :: (65 + c % 8) :: r) = 46 :: 66 :: (65 + c % 8) :: nlF false r
    rw [nlF_plain (by decide) (by decide), nlF_plain (by decide) (by decide), nlF_plain (by omega) (by omega)]
theorem nl_mail : ∀ (cs : List Nat) (b : Bool), nlF b (mailL cs) = midL cs
  | [], _ => rfl
  | c :: r, b => by
    show nlF b ((rowL c ++ endL c) ++ mailL r) = (rowL c ++ [13, 10]) ++ midL r
    rw [List.append_assoc, nl_row, List.append_assoc]
    congr 1
    rcases end_cases c with h | h | h <;> rw [h]
    · show 13 :: 10 :: nlF false (mailL r) = 13 :: 10 :: midL r
      rw [nl_mail r]
    · show 13 :: 10 :: nlF true (mailL r) = 13 :: 10 :: midL r
      rw [nl_mail r]
    · show 13 :: 10 :: nlF false (mailL r) = 13 :: 10 :: midL r
      rw [nl_mail r]
theorem ddF_plain {b : Bool} {c : Nat} {r : List Nat} (h1 : c ≠ 46) : ddF b (c :: r) = c :: ddF (c == 10) r := by
  show (if (b && c == 46) = true then _ else _) = _
  rw [beq_eq_false_iff_ne.mpr h1, Bool.and_false]; rfl
theorem dd_mid : ∀ cs : List Nat, ddF true (midL cs) = dueL cs
  | [] => rfl
  | c :: r => by
    show ddF true ((rowL c ++ [13, 10]) ++ midL r) = (dueRow c ++ [13, 10]) ++ dueL r
    unfold dueRow rowL
    rcases lead_cases c with h | h <;> rw [h]
    · show ddF true (66 :: (65 + c % 8) :: 13 :: 10 :: midL r) = 66 :: (65 + c % 8) :: 13 :: 10 :: dueL r
      rw [ddF_plain (by decide), ddF_plain (by omega), show (65 + c % 8 == 10) = false by rw [beq_eq_false_iff_ne]; omega]
      show 66 :: (65 + c % 8) :: 13 :: 10 :: ddF true (midL r) = _
      rw [dd_mid r]
    · show 46 :: 46 :: 66 :: ddF false ((65 + c % 8) :: 13 :: 10 :: midL r) = 46 :: 46 :: 66 :: (65 + c % 8) :: 13 :: 10 :: dueL r
      rw [ddF_plain (by omega), show (65 + c % 8 == 10) = false by rw [beq_eq_false_iff_ne]; omega]
      show 46 :: 46 :: 66 :: (65 + c % 8) :: 13 :: 10 :: ddF true (midL r) = _
      rw [dd_mid r]
theorem quote_mail (cs : List Nat) : ddF true (nlF false (mailL cs)) = dueL cs := by rw [nl_mail, dd_mid]
theorem lead_len (c : Nat) : (leadL c).length ≤ 1 := by
  rcases lead_cases c with h | h <;> rw [h] <;> simp
theorem mail_len : ∀ cs : List Nat, (mailL cs).length ≤ 5 * cs.length
  | [] => Nat.le_refl _
  | c :: r => by
    have h := mail_len r
    have h1 := lead_len c
    have h2 : (endL c).length ≤ 2 := by rcases end_cases c with h | h | h <;> rw [h] <;> simp
    show ((rowL c ++ endL c) ++ mailL r).length ≤ _
    unfold rowL
    simp only [List.length_append, List.length_cons, List.length_nil]
    omega
theorem mid_len : ∀ cs : List Nat, (midL cs).length ≤ 5 * cs.length
  | [] => Nat.le_refl _
  | c :: r => by
    have h := mid_len r
    have h1 := lead_len c
    show ((rowL c ++ [13, 10]) ++ midL r).length ≤ _
    unfold rowL
    simp only [List.length_append, List.length_cons, List.length_nil]
    omega
theorem due_len : ∀ cs : List Nat, (dueL cs).length ≤ 6 * cs.length
  | [] => Nat.le_refl _
  | c :: r => by
    have h := due_len r
    have h1 := lead_len c
    show ((dueRow c ++ [13, 10]) ++ dueL r).length ≤ _
    unfold dueRow rowL
    simp only [List.length_append, List.length_cons, List.length_nil]
    omega
section
open PySem.Builtin PySem.Builtin.Str PySem.StrLaws
theorem at_iff (x : List Nat) (k : Nat) : StrLaws.At ⟨x.toArray⟩ ⟨#[13, 10]⟩ x.length k ↔ (x.drop k).take 2 = [13, 10] := by
  have e : subAt ⟨x.toArray⟩ ⟨#[13, 10]⟩ k = true ↔ (x.drop k).take 2 = [13, 10] := by
    unfold subAt
    rw [show ((⟨#[13, 10]⟩ : Str).length) = 2 from rfl]
    simp only [List.extract_toArray, beq_iff_eq]
    constructor
    · intro h
      have := congrArg Array.toList h
      simpa [List.extract_eq_drop_take] using this
    · intro h
      have e2 : x.extract k (k + 2) = [13, 10] := by simpa [List.extract_eq_drop_take] using h
      rw [e2]
  constructor
  · exact fun h => e.mp h.2
  · intro h
    refine ⟨?_, e.mpr h⟩
    have := congrArg List.length h
    simp only [List.length_take, List.length_drop, List.length_cons, List.length_nil] at this
    show k + 2 ≤ x.length
    omega
theorem parts_rows (x : List Nat) (f : Nat) (hf : ∀ k, f ≤ k → ¬ StrLaws.At ⟨x.toArray⟩ ⟨#[13, 10]⟩ x.length k) : ∀ (rs : List (List Nat)) (a : Nat) (cuts : List Nat), (∀ r ∈ rs, 13 ∉ r) → ChainG ⟨x.toArray⟩ ⟨#[13, 10]⟩ x.length a cuts f →
    x.drop a = rs.flatMap (fun r => r ++ [13, 10]) → partsFrom ⟨x.toArray⟩ 2 a cuts = rs.map (fun r => (⟨r.toArray⟩ : Str)) ++ [⟨#[]⟩]
  | [], a, cuts, _, hG, hd => by
    have hd' : x.drop a = [] := hd
    have hx : x.length ≤ a := by
      have := congrArg List.length hd'
      simp at this; omega
    match cuts, hG with
    | [], _ =>
      show [strSub ⟨x.toArray⟩ a x.length] = [⟨#[]⟩]
      congr 1
      unfold strSub
      congr 1
      simp only [List.extract_toArray, List.extract_eq_drop_take, hd', List.take_nil]
    | c :: cs, hG =>
      have h1 := hG.1
      have h2 : c + 2 ≤ x.length := hG.2.1.1
      omega
  | r :: rs, a, cuts, hr, hG, hd => by
    have hd' : x.drop a = r ++ (13 :: 10 :: rs.flatMap (fun r => r ++ [13, 10])) := by
      rw [hd]; show (r ++ [13, 10]) ++ _ = _; rw [List.append_assoc]; rfl
    have hat : StrLaws.At ⟨x.toArray⟩ ⟨#[13, 10]⟩ x.length (a + r.length) := by
      rw [at_iff, ← List.drop_drop, hd', List.drop_left]; rfl
    have hno : ∀ k, a ≤ k → k < a + r.length → ¬ StrLaws.At ⟨x.toArray⟩ ⟨#[13, 10]⟩ x.length k := by
      intro k h1 h2 h3
      rw [at_iff, show k = a + (k - a) by omega, ← List.drop_drop, hd'] at h3
      have h4 : ((r ++ (13 :: 10 :: rs.flatMap (fun r => r ++ [13, 10]))).drop (k - a))[0]? = some r[k - a] := by
        rw [List.getElem?_drop, Nat.add_zero, List.getElem?_append_left (by omega)]
        exact List.getElem?_eq_getElem (by omega)
      have h5 := congrArg (fun l => l[0]?) h3
      simp only [List.getElem?_take_of_lt (show 0 < 2 by decide), h4] at h5
      have h6 : r[k - a] = 13 := Option.some.inj h5
      exact hr r (.head _) (h6 ▸ List.getElem_mem _)
    match cuts, hG with
    | [], hG =>
      have : f = a := hG
      exact absurd hat (hf _ (by omega))
    | c :: cs, hG =>
      have hc : c = a + r.length := by
        rcases Nat.lt_trichotomy c (a + r.length) with h | h | h
        · exact absurd hG.2.1 (hno c hG.1 h)
        · exact h
        · exact absurd hat (hG.2.2.1 _ (by omega) h)
      subst hc
      have ih := parts_rows x f hf rs (a + r.length + 2) cs (fun q hq => hr q (.tail _ hq)) hG.2.2.2 (by rw [show a + r.length + 2 = a + (r.length + 2) by omega, ← List.drop_drop, hd', ← List.drop_drop, List.drop_left]; rfl)
      show strSub ⟨x.toArray⟩ a (a + r.length) :: partsFrom ⟨x.toArray⟩ 2 (a + r.length + 2) cs = _
      rw [ih, List.map_cons, List.cons_append]
      congr 1
      unfold strSub
      congr 1
      simp only [List.extract_toArray, List.extract_eq_drop_take]
      rw [show a + r.length - a = r.length by omega, hd', List.take_left]
theorem split_rows (rs : List (List Nat)) (hr : ∀ r ∈ rs, 13 ∉ r) (hn : rs ≠ []) : Txt.split ⟨(rs.flatMap (fun r => r ++ [13, 10])).toArray⟩ ⟨#[13, 10]⟩ = rs.map (fun r => (⟨r.toArray⟩ : Str)) ++ [⟨#[]⟩] := by
  generalize hx : rs.flatMap (fun r => r ++ [13, 10]) = x
  have hl : 2 ≤ x.length := by
    rw [← hx]
    match rs, hn with
    | r :: q, _ => simp only [List.flatMap_cons, List.length_append, List.length_cons, List.length_nil]; omega
  have hl' : (⟨x.toArray⟩ : Str).length = x.length := by show x.toArray.size = _; simp
  obtain ⟨f, hG, hf⟩ := occ_tight ⟨x.toArray⟩ ⟨#[13, 10]⟩ (by decide)
  rw [hl'] at hG hf
  have key := parts_rows x f hf rs 0 _ hr hG (by rw [List.drop_zero, hx])
  unfold Txt.split
  rw [hl']
  have hk : Builtin.Str.strKind ⟨#[13, 10]⟩ = 1 := by decide +kernel
  have hk2 : 1 ≤ Builtin.Str.strKind ⟨x.toArray⟩ := by
    unfold Builtin.Str.strKind
    split
    · exact Nat.le_refl _
    · split <;> decide
  rw [if_neg (by rw [hk, Bool.or_eq_true, decide_eq_true_eq, decide_eq_true_eq]; show ¬ (x.length < 2 ∨ _); omega)]
  rw [if_neg, partsBetween_eq]
  · exact key
  · intro he
    rw [List.isEmpty_iff] at he
    rw [he] at key
    have := congrArg List.length key
    simp only [List.length_append, List.length_map, List.length_cons, List.length_nil, partsFrom] at this
    have := List.length_pos_iff.mpr hn
    omega
theorem lead_plain (c : Nat) : ∀ z ∈ leadL c, z = 46 := by
  intro z hz; exact List.eq_of_mem_replicate hz
theorem due_row_free (c : Nat) : 13 ∉ dueRow c := by
  unfold dueRow rowL
  intro h
  simp only [List.mem_append, List.mem_cons, List.not_mem_nil, or_false] at h
  rcases h with h | h | h | h
  · have := lead_plain c _ h; omega
  · have := lead_plain c _ h; omega
  · omega
  · omega
theorem split_due {cs : List Nat} (h : cs ≠ []) : Txt.split ⟨(dueL cs).toArray⟩ ⟨#[13, 10]⟩ = cs.map (fun c => (⟨(dueRow c).toArray⟩ : Str)) ++ [⟨#[]⟩] := by
  have := split_rows (cs.map dueRow) (fun r hr => by obtain ⟨c, _, rfl⟩ := List.mem_map.mp hr; exact due_row_free c) (by simpa using h)
  rw [List.flatMap_map, List.map_map] at this
  exact this
end
theorem due_count (c : Nat) : (dueRow c).count 46 = 2 * (c / 8 % 2) := by
  unfold dueRow rowL leadL
  simp only [List.count_append, List.count_replicate_self, List.count_cons, List.count_nil]
  rw [show (66 == 46) = false by decide, show (65 + c % 8 == 46) = false by rw [beq_eq_false_iff_ne]; omega]
  simp; omega
theorem due_drop (c : Nat) : (dueRow c).drop (2 * (c / 8 % 2)) = apL (16 + c % 8) := by
  rw [apL_two (by omega) (by omega), show (16 + c % 8) / 16 = 1 by omega, show (16 + c % 8) % 16 = c % 8 by omega]
  unfold dueRow rowL leadL
  rcases Nat.mod_two_eq_zero_or_one (c / 8) with h | h <;> rw [h] <;> rfl
end
section
noncomputable def addE (es : List (Nat × Bool)) (y : Nat) (b : Bool) : List (Nat × Bool) := if y ∈ es.map (·.1) then es else es ++ [(y, b)]
noncomputable def layIn (x : Nat) (b : Bool) (es : List (Nat × Bool)) (names : List Nat) : List (Nat × Bool) := names.foldl (fun es v => addE es (x ^^^ v) b) es
noncomputable def layTurn (place x : Nat) (c : List (Nat × Bool) × List Nat) : List (Nat × Bool) × List Nat :=
  let es' := layIn x (place == 1) c.1 (c.1.map (·.1))
  (es', if c.1.length < es'.length then c.2 ++ [x] else c.2)
noncomputable def layFrom : Nat → List (Nat × Bool) × List Nat → List Nat → List (Nat × Bool) × List Nat
  | _, c, [] => c
  | place, c, x :: r => layFrom (place + 1) (layTurn place x c) r
noncomputable def lay (xs : List Nat) : List (Nat × Bool) × List Nat := layFrom 0 ([(0, true)], []) xs
theorem layFrom_snoc : ∀ (xs : List Nat) (p : Nat) (c : List (Nat × Bool) × List Nat) (x : Nat), layFrom p c (xs ++ [x]) = layTurn (p + xs.length) x (layFrom p c xs)
  | [], _, _, _ => rfl
  | y :: r, p, c, x => by
    show layFrom (p + 1) (layTurn p y c) (r ++ [x]) = _
    rw [layFrom_snoc r (p + 1)]
    rw [show p + 1 + r.length = p + (y :: r).length by simp only [List.length_cons]; omega]
    rfl
theorem lay_snoc (xs : List Nat) (x : Nat) : lay (xs ++ [x]) = layTurn xs.length x (lay xs) := by
  unfold lay; rw [layFrom_snoc, Nat.zero_add]
theorem layIn_snoc (x : Nat) (b : Bool) (es : List (Nat × Bool)) (l : List Nat) (v : Nat) : layIn x b es (l ++ [v]) = addE (layIn x b es l) (x ^^^ v) b := by
  simp [layIn]
theorem news_apart {h₀ h : Heap} {L a b : Addr} {o o' : Obj} {news : List (Addr × Obj)} (N : News h₀ L h news) (h1 : (a, o) ∈ news) (h2 : (b, o') ∈ news) (hc : o.cls ≠ o'.cls) : a ≠ b := fun e => by
  have e1 := (N _ h1).1
  have e2 := (N _ h2).1
  rw [show (a, o).1 = (b, o').1 from e, e2] at e1
  exact hc (congrArg Obj.cls (Option.some.inj e1)).symm
section
variable {prog : Program} {w : World} {A : Around} {E : Value → Shared → Prop} {s : Shared} {t : Tok} {Q : Value → Shared → Prop}
theorem upper_call {x : Nat} {b : Bool} (hx : x < 32) (h : ∀ t' k, Q (.str (apS (32 + x)) t') { s with toks := k }) : wpAny (model prog w) A (call (.builtin "str.upper") [.str (nmS x b) t]) Q E s := by
  have e := upper_nm hx b
  refine SCL.upper (by rw [show (nmS x b).length = 2 from nmS_size hx b]; decide) (fun _ => ?_)
  rw [e]
  exact h _ _
end
local macro_rules | `(tactic| walk_at "call builtin:str.upper") => `(tactic| (k_here; (with_reducible show wpAny _ _ (call (Value.builtin "str.upper") [Value.str (nmS _ _) _]) _ _ _); refine upper_call (by assumption) ?_; intro _ _))
section
variable {prog : Program} {w : World} {A : Around} {E : Value → Shared → Prop} {s : Shared} {Q : Value → Shared → Prop} {h₀ : Heap} {L : Addr} {news : List (Addr × Obj)}
theorem len_led {D : Addr} {rs : List Value} {n : Nat} (N : News h₀ L s.heap news) (hm : (D, listOf rs.toArray n) ∈ news) (hz : rs.length ≤ 1000) (h : ∀ t k, Q (.int (rs.length : Nat) t) { s with toks := k }) : wpAny (model prog w) A (call (.builtin "len") [.ref D]) Q E s :=
  KM.len_K N hm (List.size_toArray ..) (Nat.lt_of_le_of_lt hz (by decide)) (h _ _)
end
local macro_rules | `(tactic| walk_at "call builtin:len") => `(tactic| (k_here; (with_reducible show wpAny _ _ (call (Value.builtin "len") [Value.ref _]) _ _ _); (with_reducible rename News _ _ _ _ => N'); refine len_led N' (by first | assumption | (refine List.mem_cons_of_mem _ ?_; assumption)) (by assumption) ?_; intro _ _))
section
variable (w : World) (mean : ExcName → Option Value) (mg mb : Str → Option Value) (news : List (Addr × Obj))
theorem len_clm (x0 dx l : Addr) (hh : Int) (tk0 : Tok) (nl : Nat) (rs : List Value) (hx : (x0, instObj 216 dx) ∈ news) (hd : (dx, dictOf [⟨hh, .str (Str.ofString "_headers") tk0, .ref l⟩] 1) ∈ news)
    (hl : (l, listOf rs.toArray nl) ∈ news) (hz : rs.length ≤ 1000) : Clm w mean mg mb 2 122 news [.ref x0] (fun t => .int rs.length t) := by
  unfold Clm
  k_fill
  intro dp un gd cn cs a ccd cl outer A₀ base h₀ L m s Q E cB cF cX cN cT cK cD cU hret
  dsimp only [CbRet] at hret
  walk_at "mine enter"
  walk_at "mine steps"
  all_goals cb_end hret
end
end
section
variable (w : World) (mean : ExcName → Option Value) (mg mb : Str → Option Value) (news : List (Addr × Obj))
theorem name_nm (x : Nat) (a : Int) (ha : a = (x : Int)) (hx : x < 32) (tx : Tok) : Clm w mean mg mb 4 234 news [.int a tx] (fun t => .str (nmS x true) t) := by
  subst ha; exact name_clm w mean mg mb news x hx tx
theorem number_ap (n : Nat) (hn : n < 2 ^ 40) (tx : Tok) : Clm w mean mg mb 2 227 news [.str (apS n) tx] (fun t => .int (n : Int) t) := by
  have h := number_clm w mean mg mb news (apS n) (apS_ap n) (by
    show (apL n).toArray.size ≤ 12
    have := apL_length 10 (n := n) hn
    rw [List.size_toArray]; omega) tx
  have e : numL (apS n).cps.toList = n := by show numL (apL n).toArray.toList = n; simp [numL_apL]
  rw [e] at h
  exact h
theorem xor_nat (x y : Nat) (a b : Int) (ha : a = (x : Int)) (hb : b = (y : Int)) (tx ty : Tok) : Clm w mean mg mb 1 52 news [.int a tx, .int b ty] (fun t => .int ((x ^^^ y : Nat) : Int) t) := by
  subst ha hb
  have h := xor_clm w mean mg mb news (x : Int) (y : Int) tx ty
  rw [bitXor_nat] at h
  exact h
theorem int2ap_nat (n : Nat) (a : Int) (ha : a = (n : Int)) (hn : n < 2 ^ 40) (tx : Tok) : Clm w mean mg mb 2 45 news [.int a tx] (fun t => .bytes (apB n) t) := by
  subst ha; exact int2ap_clm w mean mg mb news (n : Int) hn tx
theorem square_sq (n : Nat) (hn : n < 2 ^ 40) (tx : Tok) : Clm w mean mg mb 4 241 news [.str (apS n) tx] (fun t => .str (sqS n) t) :=
  square_clm w mean mg mb news (apS n) (apS_ap n) (by
    show (apL n).toArray.size ≤ 12
    have := apL_length 10 (n := n) hn
    rw [List.size_toArray]; omega) tx
end
theorem sub32 (y : Nat) : ((32 + y : Nat) : Int) - 32 = (y : Int) := by omega
local macro_rules | `(tactic| walk_at "call builtin:bytes.decode") => `(tactic| (k_here; (with_reducible show wpAny _ _ (call (Value.builtin "bytes.decode") [Value.bytes (apB _) _]) _ _ _); (refine decode_ap (by first | assumption | omega) ?_); intro _ _))
local macro_rules | `(tactic| walk_at "mine call") => `(tactic| (k_here; (with_reducible show wpAny _ _ (call (Value.ref 234) [Value.int _ _]) _ _ _); refine' Clm.use1 (name_nm _ _ _ _ _ _ _ ?kn ?kx _) ?k ?_; walk_at "mine k"; walk_at "mine kn"; walk_at "mine kx"; walk_at "mine used"))
local macro_rules | `(tactic| walk_at "mine call") => `(tactic| (k_here; (with_reducible show wpAny _ _ (call (Value.ref 227) [Value.str (apS _) _]) _ _ _); refine' Clm.use1 (number_ap _ _ _ _ _ _ ?kx _) ?k ?_; walk_at "mine k"; walk_at "mine kx"; walk_at "mine used"))
local macro_rules | `(tactic| walk_at "mine kab") => `(tactic| ((case ka => first | exact sub32 _ | exact rfl | assumption); (case kb => first | exact sub32 _ | exact rfl | assumption)))
local macro_rules | `(tactic| walk_at "mine call") => `(tactic| (k_here; (with_reducible show wpAny _ _ (call (Value.ref 52) [Value.int _ _, Value.int _ _]) _ _ _); refine' Clm.use1 (xor_nat _ _ _ _ _ _ _ _ _ ?ka ?kb _ _) ?k ?_; walk_at "mine k"; walk_at "mine kab"; walk_at "mine used"))
local macro_rules | `(tactic| walk_at "mine call") => `(tactic| (k_here; (with_reducible show wpAny _ _ (call (Value.ref 45) [Value.int _ _]) _ _ _); refine' Clm.use1 (int2ap_nat _ _ _ _ _ _ _ ?kn ?kx _) ?k ?_; walk_at "mine k"; walk_at "mine kn"; walk_at "mine kx"; walk_at "mine used"))
local macro_rules | `(tactic| walk_at "mine call") => `(tactic| (k_here; (with_reducible show wpAny _ _ (call (Value.ref 241) [Value.str (apS _) _]) _ _ _); refine' Clm.use1 (square_sq _ _ _ _ _ _ ?kx _) ?k ?_; walk_at "mine k"; walk_at "mine kx"; walk_at "mine used"))
local macro_rules | `(tactic| walk_at "mine call") => `(tactic| (k_here; (with_reducible show wpAny _ _ (call (Value.ref 122) [Value.ref _]) _ _ _); refine' Clm.use1 (len_clm _ _ _ _ _ _ _ _ _ _ _ _ ?hx ?hd ?hl ?hz) ?k ?_; walk_at "mine k"; (case k4 => k_asm); walk_at "mine xdl"; (case hz => assumption); walk_at "mine ks"; intro t9 h9 tk9 F9 N9; (try dsimp only [W.LenBack]); (try (refine ⟨⟨by omega, by omega⟩, ?_⟩)); (try k_fold)))
theorem sqS_zero : sqS 0 = Str.ofString "" := by
  have h : apL 0 = [] := apL_zero
  unfold sqS; rw [h]; rfl
section
local macro_rules | `(tactic| walk_at "call builtin:str.lower") => `(tactic| (k_here; (with_reducible show wpAny _ _ (call (Value.builtin "str.lower") [Value.str (nmS _ _) _]) _ _ _); refine lower_call (by assumption) ?_; intro _ _))
local macro_rules | `(tactic| walk_at "assign Tuple") => `(tactic| (k_here; (with_reducible rename News _ _ _ _ => N'); (with_reducible rename Fr _ _ _ _ => F'); (refine assign_pair F' N' (by first | assumption | (refine List.mem_cons_of_mem _ ?_; assumption)) (by rfl) (by rfl) (by rfl) ?_); intro h' F' N'))
local macro_rules | `(tactic| walk_at "mine call") => `(tactic| (k_here; (with_reducible show wpAny _ _ (call (Value.ref 163) _ _) _ _ _); refine' Clm.use1 (get_clm _ _ _ _ _ _ _ _ _ _ _ _ _ ?hx ?hd ?hl ?he _ _ ?hy _) ?k ?_; walk_at "mine k"; (case k4 => k_asm); walk_at "mine xdl"; (case he => assumption); (case hy => assumption); walk_at "mine ks"; intro t9 h9 tk9 F9 N9; (try dsimp only); (first | rw [getV_in (by assumption)] | rw [getV_out (by assumption)]); (try k_fold)))
local macro_rules | `(tactic| walk_at "mine call") => `(tactic| (k_here; (with_reducible show wpAny _ _ (call (Value.ref 168) _ _) _ _ _); refine' ClmL.use1 (keys_clm _ _ _ _ _ _ _ _ _ _ _ _ _ ?hx ?hd ?hl ?he ?hz) ?k ?_; walk_at "mine k"; (case k4 => k_asm); walk_at "mine xdl"; (case he => assumption); (case hz => assumption); walk_at "mine ks"; intro D9 n9 ys9 h9 tk9 p9 F9 N9 o9; (try dsimp only); (try k_fold)))
local macro_rules | `(tactic| walk_at "mine call") => `(tactic| (k_here; (with_reducible show wpAny _ _ (call (Value.ref 173) _ _) _ _ _); refine' ClmL.use1 (values_clm _ _ _ _ _ _ _ _ _ _ _ _ _ ?hx ?hd ?hl ?he ?hz) ?k ?_; walk_at "mine k"; (case k4 => k_asm); walk_at "mine xdl"; (case he => assumption); (case hz => assumption); walk_at "mine ks"; intro D9 n9 ys9 h9 tk9 p9 F9 N9 o9; (try dsimp only); (try k_fold)))
local macro_rules | `(tactic| walk_at "call builtin:str.upper") => `(tactic| (k_here; (with_reducible show wpAny _ _ (call (Value.builtin "str.upper") [Value.str (nmS _ _) _]) _ _ _); refine upper_call (by assumption) ?_; intro _ _))
local macro_rules | `(tactic| walk_at "call builtin:len") => `(tactic| (k_here; (with_reducible show wpAny _ _ (call (Value.builtin "len") [Value.ref _]) _ _ _); (with_reducible rename News _ _ _ _ => N'); refine len_led N' (by first | assumption | (refine List.mem_cons_of_mem _ ?_; assumption)) (by assumption) ?_; intro _ _))
local macro_rules | `(tactic| walk_at "mine stop") => `(tactic| with_reducible show wpAny _ _ (call (Value.builtin "list.append") _ _) _ _ _)
theorem lift2 {h₀ h : Heap} {L : Addr} {p q z : Addr × Obj} {rest : List (Addr × Obj)} (_ : News h₀ L h (p :: q :: rest)) (hz : z ∈ rest) : z ∈ p :: q :: rest := .tail _ (.tail _ hz)
theorem lift_app {h₀ h : Heap} {L : Addr} {own rest : List (Addr × Obj)} {z : Addr × Obj} (_ : News h₀ L h (own ++ rest)) (hz : z ∈ rest) : z ∈ own ++ rest := List.mem_append_right _ hz
theorem sep_cons {l a : Addr} {o : Obj} {rest : List (Addr × Obj)} (h1 : l < a) (hr : ∀ p ∈ rest, p.1 ≠ l) : ∀ p ∈ (a, o) :: rest, p.1 ≠ l := fun p hp => by
  rcases List.mem_cons.mp hp with rfl | hp
  · exact Nat.ne_of_gt h1
  · exact hr p hp
theorem ints_nat_get : ∀ {tv : List Value} {xs : List Nat}, IntsAre tv (xs.map fun k : Nat => (k : Int)) → ∀ {i : Nat} {v : Value}, tv[i]? = some v → ∃ (x : Nat) (t : Tok), v = .int (x : Int) t ∧ xs[i]? = some x
  | [], _, _, i, v, hv => by simp at hv
  | _ :: _, [], h, _, _, _ => nomatch h
  | u :: tv, x :: xs, h, i, v, hv => by
    cases h with
    | cons _ t h' =>
      cases i with
      | zero => cases hv; exact ⟨x, t, rfl, rfl⟩
      | succ i =>
        have := ints_nat_get h' (i := i) (v := v) (by simpa using hv)
        simpa using this
theorem ints_len {tv : List Value} {ns : List Int} (h : IntsAre tv ns) : tv.length = ns.length := by
  induction h with
  | nil => rfl
  | cons _ _ _ ih => rw [List.length_cons, List.length_cons, ih]
theorem strs_get {α : Type} {f : α → Str} : ∀ {tv : List Value} {xs : List α}, StrsAre tv (xs.map f) → ∀ {i : Nat} {v : Value}, tv[i]? = some v → ∃ (x : α) (t : Tok), v = .str (f x) t ∧ xs[i]? = some x
  | [], _, _, i, v, hv => by simp at hv
  | _ :: _, [], h, _, _, _ => nomatch h
  | u :: tv, x :: xs, h, i, v, hv => by
    cases h with
    | cons _ t h' =>
      cases i with
      | zero => cases hv; exact ⟨x, t, rfl, rfl⟩
      | succ i =>
        have := strs_get h' (i := i) (v := v) (by simpa using hv)
        simpa using this
theorem EntsAre.get' {news : List (Addr × Obj)} {rs es} (h : EntsAre news rs es) : ∀ {i : Nat} {e : Nat × Bool}, es[i]? = some e → e.1 < 32 := by
  induction h with
  | nil => intro i e he; rw [List.getElem?_nil] at he; exact nomatch he
  | cons h _ ih =>
    intro i e he
    cases i with
    | zero => cases he; exact h.choose_spec.choose_spec.choose_spec.choose_spec.2.2
    | succ i => rw [List.getElem?_cons_succ] at he; exact ih he
theorem news_sub {h₀ h : Heap} {L : Addr} {a b : List (Addr × Obj)} (N : News h₀ L h a) (s : ∀ p ∈ b, p ∈ a) : News h₀ L h b := fun p hp => N p (s p hp)
theorem lay_perm (D I1 I l : Addr × Obj) (tups : List (Addr × Obj)) (Dk : Addr × Obj) (rest : List (Addr × Obj)) : ∀ p ∈ l :: (tups ++ D :: I1 :: I :: Dk :: rest), p ∈ D :: I1 :: I :: l :: (tups ++ Dk :: rest) := fun p hp => by
  simp only [List.mem_cons, List.mem_append] at hp ⊢
  rcases hp with h | h | h | h | h | h | h <;> simp only [h, true_or, or_true]
theorem sepF {l D I Dk : Addr} {oD o1 o2 oK : Obj} {r : List (Addr × Obj)} (hD : l ≠ D) (hI : l < I) (hK : l < Dk) (hr : ∀ p ∈ r, p.1 ≠ l) : ∀ p ∈ (D, oD) :: (I + 1, o1) :: (I, o2) :: (Dk, oK) :: r, p.1 ≠ l := fun p hp => by
  rcases List.mem_cons.mp hp with rfl | hp
  · exact hD.symm
  rcases List.mem_cons.mp hp with rfl | hp
  · exact Nat.ne_of_gt (Nat.lt_succ_of_lt hI)
  rcases List.mem_cons.mp hp with rfl | hp
  · exact Nat.ne_of_gt hI
  rcases List.mem_cons.mp hp with rfl | hp
  · exact Nat.ne_of_gt hK
  exact hr p hp
theorem sepT {h₀ h : Heap} {L l I2 : Addr} {o o' it2 : Obj} {ct dt fx : List (Addr × Obj)} {st : String} (hI : ∀ p ∈ (l, o) :: (ct ++ fx), p.1 < I2) (N : News h₀ L h ((I2, it2) :: (l, o') :: (dt ++ fx))) (hc : it2.cls = .type st) (hs : st ≠ "tuple") (ht : ∀ p ∈ dt, p.2.cls = .type "tuple") :
    ∀ p ∈ (l, o') :: (dt ++ fx), ∀ q ∈ [(I2, it2)], p.1 ≠ q.1 := fun p hp q hq => by
  rw [List.mem_singleton.mp hq]
  rcases List.mem_cons.mp hp with rfl | hp
  · exact Nat.ne_of_lt (hI (l, o) (.head _))
  rcases List.mem_append.mp hp with hp | hp
  · refine fun e => news_apart (a := p.1) (b := I2) (o := p.2) N (.tail _ (.tail _ (List.mem_append_left _ hp))) (.head _) ?_ e
    rw [ht p hp, hc]
    exact fun e => hs (by injection e with e; exact e.symm)
  · exact Nat.ne_of_lt (hI p (.tail _ (List.mem_append_right _ hp)))
theorem sepR {h₀ h : Heap} {L l I2 : Addr} {o it2 : Obj} {rs : List Value} {nl : Nat} {ct dt fx : List (Addr × Obj)} (hI : ∀ p ∈ (l, o) :: (ct ++ fx), p.1 < I2) (N : News h₀ L h ((I2, it2) :: (l, listOf rs.toArray nl) :: (dt ++ fx))) (ht : ∀ p ∈ dt, p.2.cls = .type "tuple") (hf : ∀ p ∈ fx, p.1 ≠ l) :
    ∀ p ∈ (I2, it2) :: (dt ++ fx), p.1 ≠ l := fun p hp => by
  rcases List.mem_cons.mp hp with rfl | hp
  · exact Nat.ne_of_gt (hI (l, o) (.head _))
  rcases List.mem_append.mp hp with hp | hp
  · refine fun e => news_apart (a := p.1) (b := l) (o := p.2) N (.tail _ (.tail _ (List.mem_append_left _ hp))) (.tail _ (.head _)) ?_ e
    rw [ht p hp]
    show Value.type "tuple" ≠ Value.type "list"
    exact fun e => absurd (by injection e) (show "tuple" ≠ "list" by decide)
  · exact hf p hp
theorem lay_step_in {x : Nat} {b : Bool} {ces es : List (Nat × Bool)} {j : Nat} {e : Nat × Bool} (d1 : es = layIn x b ces ((ces.map (·.1)).take j)) (hej : ces[j]? = some e) (hin : x ^^^ e.1 ∈ es.map (·.1)) : es = layIn x b ces ((ces.map (·.1)).take (j + 1)) := by
  rw [take_snoc (x := e.1) (by rw [List.getElem?_map, hej]; rfl), layIn_snoc, ← d1, addE, if_pos hin]
theorem lay_step_out {x : Nat} {b : Bool} {ces es : List (Nat × Bool)} {j : Nat} {e : Nat × Bool} (d1 : es = layIn x b ces ((ces.map (·.1)).take j)) (hej : ces[j]? = some e) (hin : x ^^^ e.1 ∉ es.map (·.1)) : es ++ [(x ^^^ e.1, b)] = layIn x b ces ((ces.map (·.1)).take (j + 1)) := by
  rw [take_snoc (x := e.1) (by rw [List.getElem?_map, hej]; rfl), layIn_snoc, ← d1, addE, if_neg hin]
theorem lay_bound {k i j : Nat} {ces : List (Nat × Bool)} {e : Nat × Bool} (c5 : ces.length ≤ 2 ^ i) (hi : i < 3) (d4 : k ≤ ces.length + j) (hej : ces[j]? = some e) : k ≤ 1000 := by
  have h1 : j < ces.length := (List.getElem?_eq_some_iff.mp hej).1
  have h2 : 2 ^ i ≤ 2 ^ 3 := Nat.pow_le_pow_right (Nat.zero_lt_succ 1) (Nat.le_of_lt hi)
  omega
theorem mem_skip {p q z : Addr × Obj} {r : List (Addr × Obj)} (h : z ∈ p :: q :: r) (hq : z.2.cls ≠ q.2.cls) : z ∈ p :: r := by
  rcases List.mem_cons.mp h with rfl | h
  · exact .head _
  rcases List.mem_cons.mp h with rfl | h
  · exact absurd rfl hq
  · exact .tail _ h
theorem perm_new (p q r : Addr × Obj) (t fx : List (Addr × Obj)) : ∀ z ∈ q :: p :: (r :: t ++ fx), z ∈ p :: r :: q :: (t ++ fx) := fun z hz => by
  simp only [List.mem_cons, List.mem_append, List.cons_append] at hz ⊢
  rcases hz with h | h | h | h | h <;> simp only [h, true_or, or_true]
theorem strs_len {tv : List Value} {ns : List Str} (h : StrsAre tv ns) : tv.length = ns.length := by
  induction h with
  | nil => rfl
  | cons _ _ _ ih => rw [List.length_cons, List.length_cons, ih]
theorem lift1 {h₀ h : Heap} {L : Addr} {p z : Addr × Obj} {rest : List (Addr × Obj)} (_ : News h₀ L h (p :: rest)) (hz : z ∈ rest) : z ∈ p :: rest := .tail _ hz
theorem layFrom_kept : ∀ (xs : List Nat) (p : Nat) (c : List (Nat × Bool) × List Nat), (layFrom p c xs).2.length ≤ c.2.length + xs.length
  | [], _, _ => Nat.le_refl _
  | x :: r, p, c => by
    have h := layFrom_kept r (p + 1) (layTurn p x c)
    have h2 : (layTurn p x c).2.length ≤ c.2.length + 1 := by
      unfold layTurn
      dsimp only
      split
      · rw [List.length_append]; exact Nat.le_refl _
      · exact Nat.le_succ _
    rw [List.length_cons]
    show (layFrom (p + 1) (layTurn p x c) r).2.length ≤ _
    omega
theorem lay_kept {xs : List Nat} {i : Nat} {es : List (Nat × Bool)} {ks : List Nat} (h : layFrom 0 ([(0, true)], []) (xs.take i) = (es, ks)) (hi : i < 3) : ks.length ≤ 3 := by
  have h1 := layFrom_kept (xs.take i) 0 ([(0, true)], [])
  rw [h] at h1
  have h2 : (xs.take i).length ≤ i := by rw [List.length_take]; omega
  simp only [List.length_nil] at h1
  omega
theorem lift3 {h₀ h : Heap} {L : Addr} {p q r z : Addr × Obj} {rest : List (Addr × Obj)} (_ : News h₀ L h (p :: q :: r :: rest)) (hz : z ∈ rest) : z ∈ p :: q :: r :: rest := .tail _ (.tail _ (.tail _ hz))
theorem lift4 {h₀ h : Heap} {L : Addr} {p q r o z : Addr × Obj} {rest : List (Addr × Obj)} (_ : News h₀ L h (p :: q :: r :: o :: rest)) (hz : z ∈ rest) : z ∈ p :: q :: r :: o :: rest := .tail _ (.tail _ (.tail _ (.tail _ hz)))
theorem perm_kept (D I1 I l Dk : Addr × Obj) (tups : List (Addr × Obj)) (rest : List (Addr × Obj)) : ∀ p ∈ Dk :: I1 :: I :: l :: (tups ++ rest), p ∈ l :: (tups ++ D :: I1 :: I :: Dk :: rest) := fun p hp => by
  simp only [List.mem_cons, List.mem_append] at hp ⊢
  rcases hp with h | h | h | h | h | h <;> simp only [h, true_or, or_true]
theorem perm_out (I1 I l Dk : Addr × Obj) (tups : List (Addr × Obj)) (rest : List (Addr × Obj)) : ∀ p ∈ l :: (tups ++ Dk :: rest), p ∈ Dk :: I1 :: I :: l :: (tups ++ rest) := fun p hp => by
  simp only [List.mem_cons, List.mem_append] at hp ⊢
  rcases hp with h | h | h | h <;> simp only [h, true_or, or_true]
theorem perm_its (I1 I Dk : Addr × Obj) (rest : List (Addr × Obj)) : ∀ p ∈ [I1, I], p ∈ Dk :: I1 :: I :: rest := fun p hp => by
  simp only [List.mem_cons, List.not_mem_nil, or_false] at hp ⊢
  rcases hp with h | h <;> simp only [h, true_or, or_true]
theorem sepO {h₀ h : Heap} {L l I Dk : Addr} {o o' oK oK' it it' t : Obj} {a : Addr} {dt rest : List (Addr × Obj)} (hI : ∀ p ∈ (l, o) :: ([(a, t)] ++ (Dk, oK) :: rest), p.1 < I) (N : News h₀ L h ((Dk, oK') :: (I + 1, it) :: (I, it') :: (l, o') :: (dt ++ rest)))
    (hc1 : it.cls = .type "enumerate") (hc2 : it'.cls = .type "list_iterator") (ht : ∀ p ∈ dt, p.2.cls = .type "tuple") : ∀ p ∈ (l, o') :: (dt ++ (Dk, oK') :: rest), ∀ q ∈ [(I + 1, it), (I, it')], p.1 ≠ q.1 := fun p hp q hq => by
  have key : p ∈ dt ∨ p.1 < I := by
    rcases List.mem_cons.mp hp with rfl | hp
    · exact .inr (hI (l, o) (.head _))
    rcases List.mem_append.mp hp with hp | hp
    · exact .inl hp
    rcases List.mem_cons.mp hp with rfl | hp
    · exact .inr (hI (Dk, oK) (.tail _ (List.mem_append_right _ (.head _))))
    · exact .inr (hI p (.tail _ (List.mem_append_right _ (.tail _ hp))))
  rcases key with hp | hlt
  · have hN : (p.1, p.2) ∈ (Dk, oK') :: (I + 1, it) :: (I, it') :: (l, o') :: (dt ++ rest) := .tail _ (.tail _ (.tail _ (.tail _ (List.mem_append_left _ hp))))
    rcases List.mem_cons.mp hq with rfl | hq
    · refine fun e => news_apart N hN (.tail _ (.head _)) ?_ e
      rw [ht p hp, hc1]
      exact fun e => absurd (Value.type.inj e) (by decide)
    · rw [List.mem_singleton.mp hq]
      refine fun e => news_apart N hN (.tail _ (.tail _ (.head _))) ?_ e
      rw [ht p hp, hc2]
      exact fun e => absurd (Value.type.inj e) (by decide)
  · rcases List.mem_cons.mp hq with rfl | hq
    · exact Nat.ne_of_lt (Nat.lt_succ_of_lt hlt)
    · rw [List.mem_singleton.mp hq]; exact Nat.ne_of_lt hlt
theorem lay_take_snoc {xs : List Nat} {i x : Nat} {es : List (Nat × Bool)} {ks : List Nat} (hx : xs[i]? = some x) (h : layFrom 0 ([(0, true)], []) (xs.take i) = (es, ks)) : layFrom 0 ([(0, true)], []) (xs.take (i + 1)) = layTurn i x (es, ks) := by
  have hi : i < xs.length := (List.getElem?_eq_some_iff.mp hx).1
  rw [take_snoc hx, layFrom_snoc, h, Nat.zero_add, List.length_take, Nat.min_eq_left (Nat.le_of_lt hi)]
theorem ints_snoc : ∀ {tv : List Value} {xs : List Nat}, IntsAre tv (xs.map fun k : Nat => (k : Int)) → ∀ (x : Nat) (t : Tok), IntsAre (tv ++ [.int (x : Int) t]) ((xs ++ [x]).map fun k : Nat => (k : Int))
  | [], [], _, x, t => .cons _ t .nil
  | _ :: _, [], h, _, _ => nomatch h
  | [], _ :: _, h, _, _ => nomatch h
  | _ :: _, _ :: _, h, x, t => by
    cases h with
    | cons _ t' h' => exact .cons _ t' (ints_snoc h' x t)
theorem sepK {h₀ h : Heap} {L l I Dk : Addr} {o o' oK it it' t : Obj} {a : Addr} {kv : List Value} {nk : Nat} {dt rest : List (Addr × Obj)} (hI : ∀ p ∈ (l, o) :: ([(a, t)] ++ (Dk, oK) :: rest), p.1 < I) (N : News h₀ L h ((Dk, listOf kv.toArray nk) :: (I + 1, it) :: (I, it') :: (l, o') :: (dt ++ rest)))
    (l1 : l < Dk ∧ AllLt Dk rest) (ht : ∀ p ∈ dt, p.2.cls = .type "tuple") : ∀ p ∈ (I + 1, it) :: (I, it') :: (l, o') :: (dt ++ rest), p.1 ≠ Dk := fun p hp => by
  have hK : Dk < I := hI (Dk, oK) (.tail _ (List.mem_append_right _ (.head _)))
  rcases List.mem_cons.mp hp with rfl | hp
  · exact Nat.ne_of_gt (Nat.lt_succ_of_lt hK)
  rcases List.mem_cons.mp hp with rfl | hp
  · exact Nat.ne_of_gt hK
  rcases List.mem_cons.mp hp with rfl | hp
  · exact Nat.ne_of_lt l1.1
  rcases List.mem_append.mp hp with hp | hp
  · have hN : (p.1, p.2) ∈ (Dk, listOf kv.toArray nk) :: (I + 1, it) :: (I, it') :: (l, o') :: (dt ++ rest) := .tail _ (.tail _ (.tail _ (.tail _ (List.mem_append_left _ hp))))
    refine fun e => news_apart N hN (.head _) ?_ e
    rw [ht p hp]
    show Value.type "tuple" ≠ Value.type "list"
    exact fun e => absurd (Value.type.inj e) (by decide)
  · exact Nat.ne_of_lt (allLt_all l1.2 p hp)
section
variable (w : World) (mean : ExcName → Option Value) (mg mb : Str → Option Value)
structure LaySt where
  (kv : List Value) (nk : Nat) (rs : List Value) (nl : Nat) (tups : List (Addr × Obj)) (es : List (Nat × Bool)) (ks : List Nat)
noncomputable def LaySt.led (l Dk : Addr) (rest : List (Addr × Obj)) (c : LaySt) : List (Addr × Obj) := (l, listOf c.rs.toArray c.nl) :: (c.tups ++ (Dk, listOf c.kv.toArray c.nk) :: rest)
noncomputable def LaySt.ok (xs : List Nat) (i : Nat) (c : LaySt) : Prop :=
  layFrom 0 ([(0, true)], []) (xs.take i) = (c.es, c.ks) ∧ IntsAre c.kv (c.ks.map fun k : Nat => (k : Int)) ∧ EntsAre c.tups c.rs c.es ∧ (∀ p ∈ c.tups, p.2.cls = .type "tuple") ∧ c.es.length ≤ 2 ^ i
theorem lay_use (x0 dx l tl : Addr) (hh : Int) (tk0 : Tok) (nl nt : Nat) (tv : List Value) (xs : List Nat) (rest : List (Addr × Obj)) (hx : (x0, instObj 216 dx) ∈ rest) (hd : (dx, dictOf [⟨hh, .str (Str.ofString "_headers") tk0, .ref l⟩] 1) ∈ rest)
    (ht : (tl, listOf tv.toArray nt) ∈ rest) (hi : IntsAre tv (xs.map fun k : Nat => (k : Int))) (hxs : ∀ x ∈ xs, x < 32) (hxl : xs.length ≤ 3) (hr : ∀ p ∈ rest, p.1 ≠ l)
    (dp un : Nat) (gd : Option (List Code)) (cn : Str) (cs : Scope) (a : Addr) (ccd : Value) (cl : List (Str × Addr)) (outer : List Env) (A₀ : Around) (base h₀ : Heap) (L : Addr) (m : Str → Option Value) (s : Shared) (Q E : Value → Shared → Prop)
    (cB : Below A₀ base outer h₀) (cF : Fr h₀ L s.heap m) (cX : (Mine.hd.heap_39 w.params).In h₀) (cN : News h₀ L s.heap ((l, listOf ([] : List Value).toArray nl) :: rest))
    (cT : Top Mine.hd.view_39 (looseW Mine.hd.view_39 [Str.ofString "_twin_re_1", Str.ofString "_twin_re_2", Str.ofString "_name_disallowed_re", Str.ofString "_value_disallowed_re"]) mean mg mb h₀)
    (cK : cs.kind = .function) (cD : dp + 8 < recursionLimit) (cU : un + 10 * 8 < cLine)
    (hret : ∀ (Dk : Addr) (c : LaySt) (h' : Heap) (tk' : Nat), Fr h₀ L h' m → News h₀ L h' (c.led l Dk rest) → c.ok xs xs.length → Q (.ref Dk) { s with heap := h', toks := tk' }) :
    wpAny (model (PySem.Challenge.rw_wj0041_01).prog w) (ktrTop dp un gd cn cs L a ccd cl outer) (call (.ref 262) [.ref x0, .ref tl]) Q E s := by
  revert cX; k_fill; intro cX
  walk_at "mine enter"
  walk_at "mine steps"
  rename (l < _ ∧ AllLt _ rest) => l1
  rename News _ _ _ _ => N1
  rename Fr _ _ _ _ => F1
  have hx1 := lift2 N1 hx
  have hd1 := lift2 N1 hd
  walk_at "mine steps"
  rename News _ _ _ _ => N1
  rename Fr _ _ _ _ => F1
  rw [← sqS_zero]
  refine' setd_out w mean mg mb x0 dx l hh tk0 nl [] [] _ (.tail _ hx) (.tail _ hd) .nil (sep_cons l1.1 hr) (by decide) 0 true (by decide) (by simp) _ _ _ _ _ _ _ _ _ _ _ _ _ _ _ _ ⟨_, _, _, _, _⟩ _ _ ?kB F1 ?kX (news_swap N1) ?kT rfl ?kD ?kU ?_
  case kB => k_asm
  case kX => k_asm
  case kT => k_asm
  case kD => ktr_room
  case kU => ktr_units
  intro a1 t1 t2 t' h' tk' F' N' q1 q2
  (try dsimp only)
  (try k_fold)
  walk_at "mine steps"
  walk_at "mine for"
  walk_at "mine steps"
  rename News _ _ _ _ => N2
  rename Fr _ _ _ _ => F2
  have hN2 : News _ _ _ (LaySt.led l _ rest ⟨[], 0, [.ref a1], nl + 1, [(a1, ({ cls := .type "tuple", data := .seq #[.str (nmS 0 true) t1, .str (sqS 0) t2] 0 } : Obj))], [(0, true)], []⟩) := N2
  refine' enum_turns (σ := LaySt) (fun c => c.led l _ rest) (fun c => [(Str.ofString "table", .ref x0), (Str.ofString "kept", .ref _)]) (fun i c => c.ok xs i) _ ?hh ?hm F2 hN2 ?hk ?hp ?turn ?done
  case hh => exact rfl
  case hm => intro c; exact .tail _ (List.mem_append_right _ (.tail _ ht))
  case hk => kst_all
  case hp =>
    refine ⟨by simp [layFrom], .nil, .cons ⟨a1, t1, t2, 0, rfl, .head _, by decide⟩ .nil, fun p hp => ?_, Nat.le_refl _⟩
    rw [List.mem_singleton.mp hp]
  case turn =>
    clear F2 N2 hN2
    rintro i v t c u h tk I T it it' hv hI hc1 hc2 ⟨c1, c2, c3, c4, c5⟩ F N hT
    obtain ⟨x, tx, rfl, hxi⟩ := ints_nat_get hi hv
    dsimp only at F N ⊢
    (try k_fold)
    have hi3 : i < 3 := Nat.lt_of_lt_of_le (List.getElem?_eq_some_iff.mp hxi).1 hxl
    refine unpackN_ F N hT rfl rfl rfl ?_
    clear F N
    intro h' F N
    dsimp only [LaySt.led] at N
    have hz : c.rs.length ≤ 1000 := by
      rw [c3.length]
      exact Nat.le_trans c5 (Nat.le_trans (Nat.pow_le_pow_right (Nat.zero_lt_succ 1) (Nat.le_of_lt hi3)) (show 2 ^ 3 ≤ 1000 by decide))
    have hx1 := lift2 N (List.mem_cons_of_mem _ (List.mem_append_right c.tups (List.mem_cons_of_mem _ hx)))
    have hd1 := lift2 N (List.mem_cons_of_mem _ (List.mem_append_right c.tups (List.mem_cons_of_mem _ hd)))
    have hl1 := lift2 N (List.mem_cons_self (a := (l, listOf c.rs.toArray c.nl)) (l := c.tups ++ (_, listOf c.kv.toArray c.nk) :: rest))
    have he1 := c3.mono (fun a o _ hp => lift2 N (List.mem_cons_of_mem _ (List.mem_append_left _ hp)))
    walk_at "mine steps"
    walk_at "mine for"
    walk_at "mine steps"
    rename News _ _ _ _ => N3
    rename Fr _ _ _ _ => F3
    rename StrsAre _ _ => hys
    rename ∀ p ∈ _, _ ≠ _ => o9
    have hD9 := o9 (l, listOf c.rs.toArray c.nl) (.tail _ (.tail _ (.head _)))
    have hfix := fun oD o1 o2 oK => sepF (oD := oD) (o1 := o1) (o2 := o2) (oK := oK) (I := I) (r := rest) hD9 (show l < I from hI (l, listOf [Value.ref a1].toArray (nl + 1)) (List.mem_cons_self ..)) l1.1 hr
    have N4 := news_sub N3 (lay_perm _ _ _ _ c.tups _ rest)
    refine' list_turns (σ := LaySt) (fun d => (l, listOf d.rs.toArray d.nl) :: (d.tups ++ _))
      (fun d => [(Str.ofString "table", .ref x0), (Str.ofString "kept", .ref _), (Str.ofString "x", .int (x : Int) _), (Str.ofString "place", .int (i : Int) _), (Str.ofString "size", .int (c.rs.length : Int) _)])
      (fun j d => d.es = layIn x (i == 1) c.es ((c.es.map (·.1)).take j) ∧ EntsAre d.tups d.rs d.es ∧ (∀ p ∈ d.tups, p.2.cls = .type "tuple") ∧ d.es.length ≤ c.es.length + j) c ?hh2 ?hl2 F3 N4 ?hk2 ⟨rfl, c3, c4, Nat.le_refl _⟩ ?turn2 ?done2
    case hh2 => exact rfl
    case hl2 => intro d; exact .tail _ (List.mem_append_right _ (.head _))
    case hk2 => kst_all
    case turn2 =>
      clear F3 N3 N4 F N
      rintro j v d u h tk I2 it2 hvj hc3 hI2 ⟨d1, d2, d3, d4⟩ F N
      obtain ⟨e, te, rfl, hej⟩ := strs_get hys hvj
      have hy : e.1 < 32 := (c3.get' hej)
      have hxx : x < 32 := hxs x (List.mem_of_getElem? hxi)
      have hz1 : x ^^^ e.1 < 32 := Nat.xor_lt_two_pow (n := 5) hxx hy
      have hz2 : x ^^^ e.1 < 64 := Nat.lt_trans hz1 (by decide)
      have hz3 : x ^^^ e.1 < 2 ^ 40 := Nat.lt_trans hz1 (by decide)
      have hz4 : 32 + e.1 < 2 ^ 40 := Nat.lt_trans (Nat.add_lt_add_left hy 32) (by decide)
      dsimp only at F N ⊢
      have hx2 := lift2 N (List.mem_append_right d.tups (List.mem_cons_of_mem _ (List.mem_cons_of_mem _ (List.mem_cons_of_mem _ (List.mem_cons_of_mem _ hx)))))
      have hd2 := lift2 N (List.mem_append_right d.tups (List.mem_cons_of_mem _ (List.mem_cons_of_mem _ (List.mem_cons_of_mem _ (List.mem_cons_of_mem _ hd)))))
      (try k_fold)
      walk_at "mine steps"
      · have hb : (i == 1) = true := by simp only [beq_iff_eq, beq_eq_false_iff_ne, ne_eq]; omega
        rw [hb] at d1
        rename News _ _ _ _ => N5
        rename Fr _ _ _ _ => F5
        by_cases hin : x ^^^ e.1 ∈ d.es.map (·.1)
        · refine' Clm.use (s := ⟨_, _, _, _, _⟩) (setd_in_clm w mean mg mb _ x0 dx l hh tk0 d.nl d.rs d.es hx2 hd2 (.tail _ (.head _)) (d2.mono fun a o _ hp => .tail _ (.tail _ (List.mem_append_left _ hp))) (x ^^^ e.1) true hz1 hin _ _ _) ?k1 F5 ?k3 N5 ?k5 rfl ?k7 ?k8 ?_
          (case k1 => k_asm)
          (case k3 => k_asm)
          (case k5 => k_asm)
          (case k7 => ktr_room)
          (case k8 => ktr_units)
          clear F5 N5
          intro t9 h9 tk9 F9 N9
          (try dsimp only)
          (try k_fold)
          walk_at "mine steps"
          rename News _ _ _ _ => N6
          rename Fr _ _ _ _ => F6
          refine TEnd.intro d F6 N6 (fun p hp => .tail _ hp) mem_one (sepT hI2 N6 hc3 (by decide) d3) (by kst_all) ⟨?_, d2, d3, Nat.le_succ_of_le d4⟩
          rw [hb]
          exact lay_step_in d1 hej hin
        · refine' setd_out w mean mg mb x0 dx l hh tk0 d.nl d.rs d.es _ (mem_skip hx2 (by intro h; cases h)) (mem_skip hd2 (fun h => absurd (Value.type.inj h) (by decide))) (d2.mono fun a o _ hp => .tail _ (List.mem_append_left _ hp)) (sepR hI2 N5 d3 (hfix _ _ _ _)) ?hz (x ^^^ e.1) true hz1 hin _ _ _ _ _ _ _ _ _ _ _ _ _ _ _ _ ⟨_, _, _, _, _⟩ _ _ ?k1 F5 ?k3 (news_swap N5) ?k5 rfl ?k7 ?k8 ?_
          (case hz => rw [d2.length]; exact lay_bound c5 hi3 d4 hej)
          (case k1 => k_asm)
          (case k3 => k_asm)
          (case k5 => k_asm)
          (case k7 => ktr_room)
          (case k8 => ktr_units)
          clear F5 N5
          intro a2 s1 s2 s3 h9 tk9 F9 N9 q3 q4
          (try dsimp only)
          (try k_fold)
          walk_at "mine steps"
          rename News _ _ _ _ => N6
          rename Fr _ _ _ _ => F6
          have N7 := news_sub N6 (perm_new _ _ _ _ _)
          refine TEnd.intro ⟨d.kv, d.nk, d.rs ++ [.ref a2], d.nl + 1, (a2, ({ cls := .type "tuple", data := .seq #[.str (nmS (x ^^^ e.1) true) s1, .str (sqS (x ^^^ e.1)) s2] 0 } : Obj)) :: d.tups, d.es ++ [(x ^^^ e.1, true)], d.ks⟩ F6 N7 (fun p hp => .tail _ hp) mem_one (sepT (dt := _ :: d.tups) hI2 N7 hc3 (by decide) (List.forall_mem_cons.mpr ⟨rfl, d3⟩)) (by kst_all) ⟨?_, ?_, List.forall_mem_cons.mpr ⟨rfl, d3⟩, ?_⟩
          · rw [hb]
            exact lay_step_out d1 hej hin
          · exact (d2.mono fun a o _ hp => .tail _ hp).snoc (e := (x ^^^ e.1, true)) ⟨a2, s1, s2, 0, rfl, .head _, hz1⟩
          · simp only [List.length_append, List.length_cons, List.length_nil]; omega
      · have hb : (i == 1) = false := by simp only [beq_iff_eq, beq_eq_false_iff_ne, ne_eq]; omega
        rw [hb] at d1
        rename News _ _ _ _ => N5
        rename Fr _ _ _ _ => F5
        by_cases hin : x ^^^ e.1 ∈ d.es.map (·.1)
        · refine' Clm.use (s := ⟨_, _, _, _, _⟩) (setd_in_clm w mean mg mb _ x0 dx l hh tk0 d.nl d.rs d.es hx2 hd2 (.tail _ (.head _)) (d2.mono fun a o _ hp => .tail _ (.tail _ (List.mem_append_left _ hp))) (x ^^^ e.1) false hz1 hin _ _ _) ?k1 F5 ?k3 N5 ?k5 rfl ?k7 ?k8 ?_
          (case k1 => k_asm)
          (case k3 => k_asm)
          (case k5 => k_asm)
          (case k7 => ktr_room)
          (case k8 => ktr_units)
          clear F5 N5
          intro t9 h9 tk9 F9 N9
          (try dsimp only)
          (try k_fold)
          walk_at "mine steps"
          rename News _ _ _ _ => N6
          rename Fr _ _ _ _ => F6
          refine TEnd.intro d F6 N6 (fun p hp => .tail _ hp) mem_one (sepT hI2 N6 hc3 (by decide) d3) (by kst_all) ⟨?_, d2, d3, Nat.le_succ_of_le d4⟩
          rw [hb]
          exact lay_step_in d1 hej hin
        · refine' setd_out w mean mg mb x0 dx l hh tk0 d.nl d.rs d.es _ (mem_skip hx2 (by intro h; cases h)) (mem_skip hd2 (fun h => absurd (Value.type.inj h) (by decide))) (d2.mono fun a o _ hp => .tail _ (List.mem_append_left _ hp)) (sepR hI2 N5 d3 (hfix _ _ _ _)) ?hz (x ^^^ e.1) false hz1 hin _ _ _ _ _ _ _ _ _ _ _ _ _ _ _ _ ⟨_, _, _, _, _⟩ _ _ ?k1 F5 ?k3 (news_swap N5) ?k5 rfl ?k7 ?k8 ?_
          (case hz => rw [d2.length]; exact lay_bound c5 hi3 d4 hej)
          (case k1 => k_asm)
          (case k3 => k_asm)
          (case k5 => k_asm)
          (case k7 => ktr_room)
          (case k8 => ktr_units)
          clear F5 N5
          intro a2 s1 s2 s3 h9 tk9 F9 N9 q3 q4
          (try dsimp only)
          (try k_fold)
          walk_at "mine steps"
          rename News _ _ _ _ => N6
          rename Fr _ _ _ _ => F6
          have N7 := news_sub N6 (perm_new _ _ _ _ _)
          refine TEnd.intro ⟨d.kv, d.nk, d.rs ++ [.ref a2], d.nl + 1, (a2, ({ cls := .type "tuple", data := .seq #[.str (nmS (x ^^^ e.1) false) s1, .str (sqS (x ^^^ e.1)) s2] 0 } : Obj)) :: d.tups, d.es ++ [(x ^^^ e.1, false)], d.ks⟩ F6 N7 (fun p hp => .tail _ hp) mem_one (sepT (dt := _ :: d.tups) hI2 N7 hc3 (by decide) (List.forall_mem_cons.mpr ⟨rfl, d3⟩)) (by kst_all) ⟨?_, ?_, List.forall_mem_cons.mpr ⟨rfl, d3⟩, ?_⟩
          · rw [hb]
            exact lay_step_out d1 hej hin
          · exact (d2.mono fun a o _ hp => .tail _ hp).snoc (e := (x ^^^ e.1, false)) ⟨a2, s1, s2, 0, rfl, .head _, hz1⟩
          · simp only [List.length_append, List.length_cons, List.length_nil]; omega
    case done2 =>
      clear F3 N3 N4 F N
      rintro d u h tk ⟨d1, d2, d3, d4⟩ F N
      have hysl := strs_len hys
      rw [List.length_map] at hysl
      rw [hysl] at d1 d4
      rw [List.take_of_length_le (by rw [List.length_map]; exact Nat.le_refl _)] at d1
      have dz : d.rs.length ≤ 1000 := by
        have h2 : 2 ^ i ≤ 2 ^ 3 := Nat.pow_le_pow_right (Nat.zero_lt_succ 1) (Nat.le_of_lt hi3)
        rw [d2.length]; omega
      have dz2 : d.es.length ≤ 2 ^ (i + 1) := by rw [Nat.pow_succ]; omega
      have hkz : c.kv.length ≤ 3 := by
        rw [ints_len c2, List.length_map]
        exact lay_kept c1 hi3
      have hl1' := c3.length
      have hl2' := d2.length
      dsimp only at F N ⊢
      have N8 := news_sub N (perm_kept _ _ _ _ _ d.tups rest)
      clear N
      have hx2 := lift4 N8 (List.mem_append_right d.tups hx)
      have hd2 := lift4 N8 (List.mem_append_right d.tups hd)
      have hl2 := lift3 N8 (List.mem_cons_self ..)
      (try k_fold)
      walk_at "mine steps"
      all_goals (try dsimp only)
      · walk_at "mine steps"
        rename News _ _ _ _ => N6
        rename Fr _ _ _ _ => F6
        refine append_in (own := []) F6 N6 (fun _ h => nomatch h) (sepK hI N6 l1 d3) ?_ (by rw [sizeLine_eq]; omega)
        clear F6 N6
        intro h9 F6 N6
        rw [List.nil_append] at N6
        (try dsimp only)
        (try k_fold)
        walk_at "mine steps"
        have hll : c.es.length < d.es.length := by omega
        refine TEnd.intro ⟨c.kv ++ [Value.int (x : Int) tx], c.nk + 1, d.rs, d.nl, d.tups, d.es, c.ks ++ [x]⟩ F6 N6 (perm_out (I + 1, it) (I, it') (l, listOf d.rs.toArray d.nl) (_, listOf (c.kv ++ [Value.int (x : Int) tx]).toArray (c.nk + 1)) d.tups rest) (perm_its _ _ _ _) (sepO hI N6 hc1 hc2 d3) (by kst_all) ⟨?_, ints_snoc c2 x _, d2, d3, dz2⟩
        rw [lay_take_snoc hxi c1, layTurn, if_pos (by rw [← d1]; exact hll), ← d1]
      · rename News _ _ _ _ => N6
        rename Fr _ _ _ _ => F6
        have hll : ¬ c.es.length < d.es.length := by omega
        refine TEnd.intro ⟨c.kv, c.nk, d.rs, d.nl, d.tups, d.es, c.ks⟩ F6 N6 (perm_out _ _ _ _ _ _) (perm_its _ _ _ _) (sepO hI N6 hc1 hc2 d3) (by kst_all) ⟨?_, c2, d2, d3, dz2⟩
        rw [lay_take_snoc hxi c1, layTurn, if_neg (by rw [← d1]; exact hll), ← d1]
  case done =>
    clear F2 N2 hN2
    rintro c u h tk hok F N
    dsimp only at F N ⊢
    (try k_fold)
    walk_at "mine steps"
    rw [show tv.length = xs.length by simpa using ints_len hi] at hok
    exact hret _ c _ _ (by assumption) (by assumption) hok
end
end
section
/-- a list of numbers that is closed under sums, each once -/
structure Span (S : List Nat) : Prop where
  zero : 0 ∈ S
  add : ∀ u ∈ S, ∀ v ∈ S, u ^^^ v ∈ S
  once : S.Nodup
theorem span_zero : Span [0] := ⟨.head _, by decide, by decide⟩
theorem xor_move {a b c : Nat} (h : a ^^^ b = c) : a = c ^^^ b := by rw [← h, Nat.xor_assoc, Nat.xor_self, Nat.xor_zero]
theorem span_new {S : List Nat} (h : Span S) {x v : Nat} (hx : x ∉ S) (hv : v ∈ S) : x ^^^ v ∉ S := fun hm => hx (by
  have := h.add _ hm _ hv
  rwa [Nat.xor_assoc, Nat.xor_self, Nat.xor_zero] at this)
theorem span_turn {S : List Nat} (h : Span S) {x : Nat} (hx : x ∉ S) : Span (S ++ S.map (x ^^^ ·)) := by
  refine ⟨List.mem_append_left _ h.zero, fun u hu v hv => ?_, ?_⟩
  · simp only [List.mem_append, List.mem_map] at hu hv ⊢
    rcases hu with hu | ⟨u, hu, rfl⟩ <;> rcases hv with hv | ⟨v, hv, rfl⟩
    · exact .inl (h.add _ hu _ hv)
    · exact .inr ⟨u ^^^ v, h.add _ hu _ hv, by rw [xor_lc]⟩
    · exact .inr ⟨u ^^^ v, h.add _ hu _ hv, by rw [Nat.xor_assoc]⟩
    · refine .inl ?_
      have : x ^^^ u ^^^ (x ^^^ v) = u ^^^ v := by rw [Nat.xor_assoc, xor_lc u, xor_cancel]
      rw [this]; exact h.add _ hu _ hv
  · rw [List.nodup_append]
    refine ⟨h.once, ?_, fun a ha b hb e => ?_⟩
    · exact List.Pairwise.map _ (fun a b hab e => hab (by have := congrArg (x ^^^ ·) e; simpa only [xor_cancel] using this)) h.once
    · obtain ⟨v, hv, rfl⟩ := List.mem_map.mp hb
      exact span_new h hx hv (e ▸ ha)
theorem span_sums : ∀ (xs S : List Nat), Span S → Span (xs.foldl sumsTurn S)
  | [], _, h => h
  | x :: r, S, h => by
    refine span_sums r _ ?_
    unfold sumsTurn
    split
    · exact h
    · rename_i hx; exact span_turn h hx
theorem addE_in {es : List (Nat × Bool)} {y : Nat} {b : Bool} (h : y ∈ es.map (·.1)) : addE es y b = es := if_pos h
theorem addE_out {es : List (Nat × Bool)} {y : Nat} {b : Bool} (h : y ∉ es.map (·.1)) : (addE es y b).map (·.1) = es.map (·.1) ++ [y] := by
  unfold addE; rw [if_neg h, List.map_append]; rfl
theorem layIn_old {x : Nat} {b : Bool} : ∀ {l : List Nat} {es : List (Nat × Bool)}, (∀ v ∈ l, x ^^^ v ∈ es.map (·.1)) → layIn x b es l = es
  | [], _, _ => rfl
  | v :: r, es, h => by
    show layIn x b (addE es (x ^^^ v) b) r = es
    rw [addE_in (h v (.head _))]
    exact layIn_old fun u hu => h u (.tail _ hu)
theorem layIn_new {x : Nat} {b : Bool} : ∀ {l : List Nat} {es : List (Nat × Bool)}, (∀ v ∈ l, x ^^^ v ∉ es.map (·.1)) → l.Nodup → (layIn x b es l).map (·.1) = es.map (·.1) ++ l.map (x ^^^ ·)
  | [], es, _, _ => by simp [layIn]
  | v :: r, es, h, hn => by
    show (layIn x b (addE es (x ^^^ v) b) r).map (·.1) = _
    have e := addE_out (b := b) (h v (.head _))
    rw [List.nodup_cons] at hn
    rw [layIn_new (fun u hu hm => ?_) hn.2, e, List.map_cons, List.append_assoc]; rfl
    rw [e, List.mem_append, List.mem_singleton] at hm
    rcases hm with hm | hm
    · exact h u (.tail _ hu) hm
    · have : u = v := by have := congrArg (x ^^^ ·) hm; simpa only [xor_cancel] using this
      exact hn.1 (this ▸ hu)
/-- who is kept -/
noncomputable def keptF : List Nat → List Nat × List Nat → List Nat × List Nat
  | [], c => c
  | x :: r, c => keptF r (sumsTurn c.1 x, if x ∈ c.1 then c.2 else c.2 ++ [x])
theorem layTurn_eq (p x : Nat) (es : List (Nat × Bool)) (ks : List Nat) (h : Span (es.map (·.1))) :
    ((layTurn p x (es, ks)).1.map (·.1), (layTurn p x (es, ks)).2) = (sumsTurn (es.map (·.1)) x, if x ∈ es.map (·.1) then ks else ks ++ [x]) := by
  unfold layTurn sumsTurn
  dsimp only
  by_cases hx : x ∈ es.map (·.1)
  · rw [layIn_old fun v hv => h.add _ hx _ hv, if_pos hx, if_pos hx, if_neg (Nat.lt_irrefl _)]
  · have e := layIn_new (b := p == 1) (fun v hv => span_new h hx hv) h.once
    rw [e, if_neg hx, if_neg hx, if_pos]
    have e2 := congrArg List.length e
    rw [List.length_map, List.length_append, List.length_map, List.length_map] at e2
    have h0 : es ≠ [] := by intro e0; rw [e0] at h; exact nomatch h.zero
    have := List.length_pos_iff.mpr h0
    rw [List.length_map] at e2
    omega
theorem layFrom_eq : ∀ (xs : List Nat) (p : Nat) (es : List (Nat × Bool)) (ks : List Nat), Span (es.map (·.1)) →
    ((layFrom p (es, ks) xs).1.map (·.1), (layFrom p (es, ks) xs).2) = keptF xs (es.map (·.1), ks)
  | [], _, _, _, _ => rfl
  | x :: r, p, es, ks, h => by
    have e := layTurn_eq p x es ks h
    show ((layFrom (p + 1) (layTurn p x (es, ks)) r).1.map (·.1), (layFrom (p + 1) (layTurn p x (es, ks)) r).2) = keptF r (sumsTurn (es.map (·.1)) x, if x ∈ es.map (·.1) then ks else ks ++ [x])
    generalize layTurn p x (es, ks) = c at e ⊢
    obtain ⟨es', ks'⟩ := c
    injection e with e1 e2
    dsimp only at e1 e2
    rw [layFrom_eq r (p + 1) es' ks' (by rw [e1]; exact span_sums [x] _ h), e1, e2]
theorem keptF_sums : ∀ (xs : List Nat) (S ks : List Nat), (keptF xs (S, ks)).1 = xs.foldl sumsTurn S
  | [], _, _ => rfl
  | x :: r, S, ks => keptF_sums r (sumsTurn S x) _
theorem keptF_span : ∀ (xs : List Nat) (S ks : List Nat), S = spanL ks → (keptF xs (S, ks)).1 = spanL (keptF xs (S, ks)).2
  | [], _, _, h => h
  | x :: r, S, ks, h => by
    refine keptF_span r _ _ ?_
    unfold sumsTurn
    by_cases hx : x ∈ S
    · dsimp only; rw [if_pos hx, if_pos hx, h]
    · dsimp only; rw [if_neg hx, if_neg hx, h, spanL, spanL, List.foldl_append]; rfl
theorem keptF_mem : ∀ (xs : List Nat) (S ks : List Nat), Span S → (∀ k ∈ ks, k ∈ S) → ∀ k ∈ (keptF xs (S, ks)).2, k ∈ (keptF xs (S, ks)).1
  | [], _, _, _, h => h
  | x :: r, S, ks, hS, h => by
    refine keptF_mem r (sumsTurn S x) _ (span_sums [x] _ hS) ?_
    unfold sumsTurn
    intro k hk
    by_cases hx : x ∈ S
    · dsimp only at hk; rw [if_pos hx] at hk ⊢; exact h k hk
    · dsimp only at hk; rw [if_neg hx] at hk ⊢
      rcases List.mem_append.mp hk with hk | hk
      · exact List.mem_append_left _ (h k hk)
      · rw [List.mem_singleton.mp hk]
        exact List.mem_append_right _ (List.mem_map.mpr ⟨0, hS.zero, Nat.xor_zero x⟩)
theorem keptF_len : ∀ (xs : List Nat) (S ks : List Nat), (keptF xs (S, ks)).2.length ≤ ks.length + xs.length
  | [], _, _ => Nat.le_refl _
  | x :: r, S, ks => by
    have h := keptF_len r (sumsTurn S x) (if x ∈ S then ks else ks ++ [x])
    have h2 : (if x ∈ S then ks else ks ++ [x]).length ≤ ks.length + 1 := by
      split
      · exact Nat.le_succ _
      · rw [List.length_append]; exact Nat.le_refl _
    rw [List.length_cons]
    show (keptF r (sumsTurn S x, if x ∈ S then ks else ks ++ [x])).2.length ≤ _
    omega
theorem keptF_lt : ∀ (xs : List Nat) (S ks : List Nat), (∀ k ∈ ks, k < 32) → (∀ x ∈ xs, x < 32) → ∀ k ∈ (keptF xs (S, ks)).2, k < 32
  | [], _, _, h, _ => h
  | x :: r, S, ks, h, h2 => by
    refine keptF_lt r (sumsTurn S x) _ ?_ (fun y hy => h2 y (.tail _ hy))
    intro k hk
    split at hk
    · exact h k hk
    · rcases List.mem_append.mp hk with hk | hk
      · exact h k hk
      · rw [List.mem_singleton.mp hk]; exact h2 x (.head _)
theorem sumsTurn_lt {S : List Nat} {x : Nat} (h : ∀ v ∈ S, v < 32) (hx : x < 32) : ∀ v ∈ sumsTurn S x, v < 32 := by
  unfold sumsTurn
  split
  · exact h
  · intro v hv
    rcases List.mem_append.mp hv with hv | hv
    · exact h v hv
    · obtain ⟨u, hu, rfl⟩ := List.mem_map.mp hv
      exact Nat.xor_lt_two_pow (n := 5) hx (h u hu)
theorem sums_lt : ∀ (xs S : List Nat), (∀ v ∈ S, v < 32) → (∀ x ∈ xs, x < 32) → ∀ v ∈ xs.foldl sumsTurn S, v < 32
  | [], _, h, _ => h
  | x :: r, _, h, h2 => sums_lt r _ (sumsTurn_lt h (h2 x (.head _))) fun y hy => h2 y (.tail _ hy)
theorem sumsTurn_len (S : List Nat) (x : Nat) : (sumsTurn S x).length ≤ 2 * S.length := by
  unfold sumsTurn
  split
  · omega
  · rw [List.length_append, List.length_map]; omega
theorem sums_len : ∀ (xs S : List Nat), (xs.foldl sumsTurn S).length ≤ 2 ^ xs.length * S.length
  | [], S => by simp
  | x :: r, S => by
    have h := sums_len r (sumsTurn S x)
    have h2 := sumsTurn_len S x
    rw [List.length_cons, Nat.pow_succ]
    refine Nat.le_trans h ?_
    rw [Nat.mul_assoc]
    exact Nat.mul_le_mul_left _ h2
/-- the law of the table: names and kept ones -/
theorem lay_facts {xs : List Nat} {es : List (Nat × Bool)} {ks : List Nat} (h : layFrom 0 ([(0, true)], []) xs = (es, ks)) (hx : ∀ x ∈ xs, x < 32) (hl : xs.length ≤ 3) :
    es.map (·.1) = sumsL xs ∧ sumsL xs = spanL ks ∧ (∀ k ∈ ks, k ∈ sumsL xs) ∧ ks.length ≤ 3 ∧ (∀ k ∈ ks, k < 32) ∧ (∀ v ∈ sumsL xs, v < 32) ∧ (sumsL xs).length ≤ 8 := by
  have e := layFrom_eq xs 0 [(0, true)] [] span_zero
  rw [h] at e
  have e1 := congrArg Prod.fst e
  have e2 := congrArg Prod.snd e
  dsimp only at e1 e2
  have e3 := keptF_sums xs [0] []
  have e1' : es.map (·.1) = sumsL xs := e1.trans e3
  refine ⟨e1', ?_, ?_, ?_, ?_, sums_lt xs [0] (by decide) hx, ?_⟩
  · have := keptF_span xs [0] [] rfl
    rw [e3] at this
    rw [e2]; exact this
  · rw [e2, sumsL, ← e3]
    exact keptF_mem xs [0] [] span_zero (fun k hk => nomatch hk)
  · rw [e2]
    have := keptF_len xs [0] []
    simp only [List.length_nil] at this
    exact Nat.le_trans this (by omega)
  · rw [e2]
    exact keptF_lt xs [0] [] (fun k hk => nomatch hk) hx
  · have := sums_len xs [0]
    have h2 : 2 ^ xs.length ≤ 2 ^ 3 := Nat.pow_le_pow_right (by decide) hl
    simp only [List.length_cons, List.length_nil] at this
    show (xs.foldl sumsTurn [0]).length ≤ 8
    omega
end
theorem allp_small {x : Nat} (hx : x < 32) {l : List Nat} (h : ∀ v ∈ l, v < 32) (hl : l.length ≤ 8) : allp x 1 l < 2 ^ 41 := by
  have h1 := allp_lt hx (l := l) (t := 1) (m := 1) h (by decide)
  exact Nat.lt_of_lt_of_le h1 (Nat.pow_le_pow_right (by decide) (by omega))
section
variable (w : World) (mean : ExcName → Option Value) (mg mb : Str → Option Value) (news : List (Addr × Obj))
theorem product_nat (x y : Nat) (a b : Int) (ha : a = (x : Int)) (hb : b = (y : Int)) (hxy : x * y < 2 ^ 60) (tx ty : Tok) : Clm w mean mg mb 2 281 news [.int a tx, .int b ty] (fun t => .int (mul x y : Nat) t) := by
  subst ha hb
  exact product_clm w mean mg mb news x y hxy tx ty
end
local macro_rules | `(tactic| walk_at "mine call") => `(tactic| (k_here; (with_reducible show wpAny _ _ (call (Value.ref 281) [Value.int _ _, Value.int _ _]) _ _ _); refine' Clm.use1 (product_nat _ _ _ _ _ _ _ _ _ ?ka ?kb ?kx _ _) ?k ?_; walk_at "mine k"; walk_at "mine kab"; (case kx => assumption); walk_at "mine used"))
section
variable (w : World) (mean : ExcName → Option Value) (mg mb : Str → Option Value) (news : List (Addr × Obj))
theorem all_clm (D nD : Nat) (vs : List Value) (xs : List Nat) (hm : (D, listOf vs.toArray nD) ∈ news) (hi : IntsAre vs (xs.map fun k : Nat => (k : Int))) (h32 : ∀ v ∈ xs, v < 32) (hl : xs.length ≤ 8) (x : Nat) (a : Int) (ha : a = (x : Int)) (hx : x < 32) (tx : Tok) :
    Clm w mean mg mb 4 293 news [.ref D, .int a tx] (fun t => .int (allp x 1 xs : Nat) t) := by
  subst ha
  unfold Clm
  k_fill
  intro dp un gd cn cs a ccd cl outer A₀ base h₀ L m s Q E cB cF cX cN cT cK cD cU hret
  dsimp only [CbRet] at hret
  walk_at "mine enter"
  walk_at "mine steps"
  walk_at "mine for"
  walk_at "mine steps"
  rename Fr _ _ _ _ => lF'
  rename News _ _ _ _ => lN'
  refine' list_turns (σ := Nat × Tok) (fun _ => news) (fun c => [(Str.ofString "x", .int (x : Int) tx), (Str.ofString "total", .int (c.1 : Int) c.2)])
    (fun i c => c.1 = allp x 1 (xs.take i)) (1, _) ?hh (fun _ => hm) ?hF ?hN ?hk ?hp ?turn ?done
  case hh => exact rfl
  case hF => exact lF'
  case hN => exact lN'
  case hk => kst_all
  case hp => exact rfl
  case turn =>
    clear lF' lN'
    rintro i v ⟨p, tp⟩ u h tk I it hv hc hI h1 F N
    obtain ⟨y, ty, rfl, hxi⟩ := ints_nat_get hi hv
    have hy : y < 32 := h32 y (List.mem_of_getElem? hxi)
    dsimp only at h1 F N ⊢
    have hp : p < 2 ^ 41 := by
      rw [h1]
      exact allp_small hx (fun v hv => h32 v (List.mem_of_mem_take hv)) (by rw [List.length_take]; omega)
    have hxy : (x ^^^ y) * p < 2 ^ 60 := by
      have h2 : x ^^^ y < 2 ^ 5 := Nat.xor_lt_two_pow hx hy
      refine Nat.lt_of_le_of_lt (Nat.mul_le_mul (Nat.le_of_lt h2) (Nat.le_of_lt hp)) (by decide)
    (try k_fold)
    walk_at "mine steps"
    rename News _ _ _ _ => lN'
    refine TEnd.intro (_, _) (by assumption) lN' (fun p hp => .tail _ hp) mem_one (off_same hI) (by kst_all) ?_
    show _ = _
    rw [take_snoc hxi, allp_snoc, ← h1]
    rfl
  case done =>
    clear lF' lN'
    rintro ⟨p, tp⟩ u h tk h1 F N
    have hl9 := ints_len hi
    rw [List.length_map] at hl9
    rw [hl9, List.take_length] at h1
    subst h1
    dsimp only at F N ⊢
    (try k_fold)
    walk_at "mine steps"
    all_goals cb_end hret
end
section
local macro_rules | `(tactic| walk_at "call builtin:str.lower") => `(tactic| (k_here; (with_reducible show wpAny _ _ (call (Value.builtin "str.lower") [Value.str (nmS _ _) _]) _ _ _); refine lower_call (by assumption) ?_; intro _ _))
local macro_rules | `(tactic| walk_at "assign Tuple") => `(tactic| (k_here; (with_reducible rename News _ _ _ _ => N'); (with_reducible rename Fr _ _ _ _ => F'); (refine assign_pair F' N' (by first | assumption | (refine List.mem_cons_of_mem _ ?_; assumption)) (by rfl) (by rfl) (by rfl) ?_); intro h' F' N'))
local macro_rules | `(tactic| walk_at "mine call") => `(tactic| (k_here; (with_reducible show wpAny _ _ (call (Value.ref 163) _ _) _ _ _); refine' Clm.use1 (get_clm _ _ _ _ _ _ _ _ _ _ _ _ _ ?hx ?hd ?hl ?he _ _ ?hy _) ?k ?_; walk_at "mine k"; (case k4 => k_asm); walk_at "mine xdl"; (case he => assumption); (case hy => assumption); walk_at "mine ks"; intro t9 h9 tk9 F9 N9; (try dsimp only); (first | rw [getV_in (by assumption)] | rw [getV_out (by assumption)]); (try k_fold)))
noncomputable def sq2S (y : Nat) : Str := ⟨(sqL (sqS y).cps.toList).toArray⟩
theorem sqS_ap' (y : Nat) : Ap (sqS y) := fun c hc => sqS_ap y c hc
theorem sqS_list (y : Nat) : (sqS y).cps.toList = sqL (apL y) := by show (sqL (apL y)).toArray.toList = _; simp
theorem sq2S_list (y : Nat) : (sq2S y).cps.toList = sqL (sqL (apL y)) := by show (sqL (sqS y).cps.toList).toArray.toList = _; simp [sqS_list]
section
variable (w : World) (mean : ExcName → Option Value) (mg mb : Str → Option Value) (news : List (Addr × Obj))
theorem number_sq (y : Nat) (hy : y < 32) (tx : Tok) : Clm w mean mg mb 2 227 news [.str (sqS y) tx] (fun t => .int (mul y y : Nat) t) := by
  have h := number_clm w mean mg mb news (sqS y) (sqS_ap' y) (Nat.le_trans (sqS_size (by omega)) (by decide)) tx
  rw [sqS_list, num_sq] at h
  exact h
theorem number_sq2 (y : Nat) (hy : y < 32) (tx : Tok) : Clm w mean mg mb 2 227 news [.str (sq2S y) tx] (fun t => .int (mul (mul y y) (mul y y) : Nat) t) := by
  have hs : (sq2S y).cps.size ≤ 12 := by
    rw [← Array.length_toList, sq2S_list, sqL_length, sqL_length]
    have := apL_length 2 (n := y) (by omega)
    omega
  have h := number_clm w mean mg mb news (sq2S y) (fun c hc => sqL_ap (sqL_ap (apL_ap y)) c (by rw [sq2S_list] at hc; exact hc)) hs tx
  rw [sq2S_list, num_sq2] at h
  exact h
theorem square_sq2 (y : Nat) (hy : y < 32) (tx : Tok) : Clm w mean mg mb 4 241 news [.str (sqS y) tx] (fun t => .str (sq2S y) t) :=
  square_clm w mean mg mb news (sqS y) (sqS_ap' y) (Nat.le_trans (sqS_size (by omega)) (by decide)) tx
end
local macro_rules | `(tactic| walk_at "mine call") => `(tactic| (k_here; (with_reducible show wpAny _ _ (call (Value.ref 227) [Value.str (sqS _) _]) _ _ _); refine' Clm.use1 (number_sq _ _ _ _ _ _ ?kx _) ?k ?_; walk_at "mine k"; walk_at "mine kx"; walk_at "mine used"))
local macro_rules | `(tactic| walk_at "mine call") => `(tactic| (k_here; (with_reducible show wpAny _ _ (call (Value.ref 227) [Value.str (sq2S _) _]) _ _ _); refine' Clm.use1 (number_sq2 _ _ _ _ _ _ ?kx _) ?k ?_; walk_at "mine k"; walk_at "mine kx"; walk_at "mine used"))
local macro_rules | `(tactic| walk_at "mine call") => `(tactic| (k_here; (with_reducible show wpAny _ _ (call (Value.ref 241) [Value.str (sqS _) _]) _ _ _); refine' Clm.use1 (square_sq2 _ _ _ _ _ _ ?kx _) ?k ?_; walk_at "mine k"; walk_at "mine kx"; walk_at "mine used"))
section
variable (w : World) (mean : ExcName → Option Value) (mg mb : Str → Option Value) (news : List (Addr × Obj))
theorem powers_clm (x0 dx l : Addr) (hh : Int) (tk0 : Tok) (nl : Nat) (rs : List Value) (es : List (Nat × Bool)) (hx : (x0, instObj 216 dx) ∈ news) (hd : (dx, dictOf [⟨hh, .str (Str.ofString "_headers") tk0, .ref l⟩] 1) ∈ news)
    (hl : (l, listOf rs.toArray nl) ∈ news) (he : EntsAre news rs es) (y : Nat) (hy : y < 32) (hin : y ∈ es.map (·.1)) (t : Tok) :
    ClmL w mean mg mb 6 274 news [.ref x0, .int (y : Int) t] (fun ys => IntsAre ys ((powL 3 y).map fun k : Nat => (k : Int))) := by
  unfold ClmL
  k_fill
  intro dp un gd cn cs a ccd cl outer A₀ base h₀ L m s Q E cB cF cX cN cT cK cD cU hret
  walk_at "mine enter"
  walk_at "mine steps"
  rename (∀ p : Addr × Obj, p ∈ news → _) => l1
  rename News h₀ _ _ _ => kN
  refine hret _ _ _ _ _ ?_ (by assumption) kN (off_rest l1)
  show IntsAre _ [(y : Int), ((mul y y : Nat) : Int), ((mul (mul y y) (mul y y) : Nat) : Int)]
  exact .cons _ _ (.cons _ _ (.cons _ _ .nil))
end
end
section
structure SumSt where
  (D : Addr) (sv : List Value) (n : Nat) (co : Obj)
noncomputable def SumSt.led (C : Addr) (news : List (Addr × Obj)) (c : SumSt) : List (Addr × Obj) := (c.D, listOf c.sv.toArray c.n) :: (C, c.co) :: news
theorem mem_two {p q : Addr × Obj} {rest : List (Addr × Obj)} : ∀ z ∈ [q], z ∈ p :: q :: rest := fun z hz => by rw [List.mem_singleton.mp hz]; exact .tail _ (.head _)
theorem any_nat (S : List Nat) (x : Nat) : ((S.map fun k : Nat => (k : Int)).any (· == (x : Int))) = decide (x ∈ S) := by
  induction S with
  | nil => rfl
  | cons a r ih =>
    rw [List.map_cons, List.any_cons, ih]
    by_cases h : a = x
    · subst h; simp
    · have h' : ¬ x = a := fun e => h e.symm
      have h2 : ((a : Int) == (x : Int)) = false := by rw [beq_eq_false_iff_ne]; omega
      simp [h2, h']
theorem sepS {D0 D C I : Addr} {o0 o co0 co it : Obj} {news : List (Addr × Obj)} (hI : ∀ p ∈ (D0, o0) :: (C, co0) :: news, p.1 < I) (hD : D ≠ I) : ∀ p ∈ (D, o) :: (C, co) :: news, ∀ q ∈ [(I, it)], p.1 ≠ q.1 := fun p hp q hq => by
  rw [List.mem_singleton.mp hq]
  rcases List.mem_cons.mp hp with rfl | hp
  · exact hD
  rcases List.mem_cons.mp hp with rfl | hp
  · exact Nat.ne_of_lt (hI (C, co0) (.tail _ (.head _)))
  · exact Nat.ne_of_lt (hI p (.tail _ (.tail _ hp)))
theorem sums_snoc {xs : List Nat} {i x : Nat} (h : xs[i]? = some x) : sumsL (xs.take (i + 1)) = sumsTurn (sumsL (xs.take i)) x := by
  unfold sumsL; rw [take_snoc h, List.foldl_append]; rfl
local macro_rules | `(tactic| walk_at "mine stop") => `(tactic| with_reducible first
  | show wpAny _ _ (eval (Expr.ListComp _ _ _ _) _) _ _ _
  | show LCg.CompSrc _ _ _ _ _ _ _ _ _ _ _ _ _ _
  | show wpAny _ _ (binaryOp Operator.Add (Value.ref _) (Value.ref _)) _ _ _)
local macro_rules | `(tactic| walk_at "storeName") => `(tactic| (k_here; (with_reducible show wpAny _ _ (storeName _ (Str.ofString "x") _) _ _ _); (refine' storeX_C ?F ?N ?c ?U ?d ?_ ?a ?b; (case a => rfl); (case b => rfl); (case F => k_asm); (case N => k_asm); (case c => rfl); (case U => exact .tail (by assumption) (.tail (by assumption) (.head (by assumption)))); (case d => assumption); intro h' o' F' N' d'; (try dsimp only at N'))))
local macro_rules | `(tactic| walk_at "compareOp NotIn int ref") => `(tactic| (k_here; (refine notin_list_ints (News.isList (by k_asm) (by k_mem)) (by assumption) ?_); (rw [any_nat])))
section
variable (w : World) (mean : ExcName → Option Value) (mg mb : Str → Option Value) (news : List (Addr × Obj))
theorem sums_clm (tl : Addr) (nt : Nat) (tv : List Value) (xs : List Nat) (ht : (tl, listOf tv.toArray nt) ∈ news) (hi : IntsAre tv (xs.map fun k : Nat => (k : Int))) (hxs : ∀ x ∈ xs, x < 32) (hxl : xs.length ≤ 3) :
    ClmL w mean mg mb 4 267 news [.ref tl] (fun ys => IntsAre ys ((sumsL xs).map fun k : Nat => (k : Int))) := by
  unfold ClmL
  k_fill
  intro dp un gd cn cs a ccd cl outer A₀ base h₀ L m s Q E cB cF cX cN cT cK cD cU hret
  walk_at "mine enterC"
  walk_at "mine steps"
  walk_at "mine for"
  walk_at "mine steps"
  rename Fr _ _ _ _ => lF'
  rename News _ _ _ _ => lN'
  rename (∀ p : Addr × Obj, p ∈ news → _) => l1
  rename (_ ∧ AllLt _ _) => l2
  rename Obj => co
  rename_i L1 q0 q1 q2 q3 q4 q5 q6 D0 q7 q8
  rename (co.data = _) => dco
  have h2 := l2.1
  refine' list_turns (σ := SumSt) (SumSt.led (L1 + 1) news) (fun c => [(Str.ofString "sums", .ref c.D)])
    (fun i c => IntsAre c.sv ((sumsL (xs.take i)).map fun k : Nat => (k : Int)) ∧ (∃ v, c.co.data = .cell v) ∧ L1 + 1 < c.D) ⟨_, _, _, co⟩ ?hh ?hl ?hF lN' ?hk ?hp ?turn ?done
  case hh => exact rfl
  case hl => exact fun c => .tail _ (.tail _ ht)
  case hF => exact lF'
  case hk => kst_all
  case hp => exact ⟨.cons _ _ .nil, ⟨_, dco⟩, h2⟩
  case turn =>
    rintro i v ⟨D, sv, n, co⟩ u h tk I it hv hc hI ⟨c1, ⟨cv, c2⟩, c3⟩ F N
    obtain ⟨x, tx, rfl, hxi⟩ := ints_nat_get hi hv
    have hx : x < 32 := hxs x (List.mem_of_getElem? hxi)
    have hIC := Nat.ne_of_gt (hI _ (.tail _ (.head _)))
    dsimp only [SumSt.led] at c1 c2 c3 F N hIC ⊢
    have hDC := Nat.ne_of_gt c3
    have hnC : ∀ p ∈ news, p.1 ≠ L1 + 1 := fun p hp => Nat.ne_of_lt (Nat.lt_succ_of_lt (l1 p hp))
    clear lF' lN'
    (try k_fold)
    walk_at "mine steps"
    · rename Obj => co'
      rename (co'.data = _) => d'
      rename News _ _ _ _ => N5
      rename Fr _ _ _ _ => F5
      rename (List.any _ _ = true) => hin
      rw [any_nat, decide_eq_true_eq] at hin
      have hDI : D ≠ I := news_apart N5 (.tail _ (.head _)) (.head _) (by rw [hc]; exact fun e => absurd (Value.type.inj e) (by decide))
      refine TEnd.intro ⟨D, sv, n, co'⟩ F5 N5 (fun p hp => .tail _ hp) mem_one (sepS hI hDI) (by kst_all) ⟨?_, ⟨_, d'⟩, c3⟩
      rw [sums_snoc hxi, sumsTurn, if_pos hin]
      exact c1
    · rename Obj => co'
      rename (co'.data = _) => d'
      rename (List.any _ _ = false) => hin
      rw [any_nat, decide_eq_false_iff_not] at hin
      k_here
      k_dflt (refine LCg.ListComp_U (F₀ := by k_asm) (by with_unfolding_all rfl) (by decide) (by rfl) (by decide) (by rfl) ?_)
      walk_at "mine steps"
      rename News _ _ _ _ => N5
      rename Fr _ _ _ _ => F5
      have hSl := span_sums (xs.take i) [0] span_zero
      have hS8 : (sumsL (xs.take i)).length ≤ 8 := by
        have h1 := sums_len (xs.take i) [0]
        have h2 : 2 ^ (xs.take i).length ≤ 2 ^ 3 := Nat.pow_le_pow_right (by decide) (by rw [List.length_take]; omega)
        simp only [List.length_cons, List.length_nil] at h1
        show ((xs.take i).foldl sumsTurn [0]).length ≤ 8
        omega
      have hsl : sv.length ≤ 8 := by rw [ints_len c1, List.length_map]; exact hS8
      refine LCg.CompSrc.ledger ?hh F5 N5 (.tail _ (.head _)) (by rw [List.size_toArray, sizeLine_eq]; omega) (fun g => ?_)
      case hh => exact rfl
      refine restU_go (fun j y => ∃ t v, y = .int ((x ^^^ v : Nat) : Int) t ∧ (sumsL (xs.take i))[j]? = some v) (.inr ⟨_, .tail _ (.head _), rfl, _, rfl⟩) ?_ _ 0 [] rfl (fun j y h => nomatch h) ?_
      · intro j vv hvv ys I2 oI C2 oC D2 m₂ h2 tk2 E' n1 n2 F N off ne
        obtain ⟨v, tv2, rfl, hvj⟩ := ints_nat_get c1 (show sv[j]? = some vv by simpa using hvv)
        (try k_fold)
        walk_at "mine steps"
        exact ElEnd.intro F N (fun p hp => hp) ⟨_, v, by rw [bitXor_nat], hvj⟩
      · intro zs hzl hrel
        unfold LCg.FinE
        intro D2 h2 tk2 F' N' o1
        have hzi : IntsAre zs ((sumsL (xs.take i)).map (x ^^^ ·) |>.map fun k : Nat => (k : Int)) := by
          refine intsAre_of (by rw [List.length_map, List.length_map, hzl, Nat.zero_add, List.size_toArray, ints_len c1, List.length_map]) fun j y hy => ?_
          obtain ⟨t, v, rfl, hvj⟩ := hrel j y hy
          exact ⟨t, _, rfl, by rw [List.getElem?_map, List.getElem?_map, hvj]; rfl⟩
        (try dsimp only)
        (try k_fold)
        walk_at "mine steps"
        have k1 := Heap.lt_size (N' (I, it) (.tail _ (.head _))).1
        have k2 := Heap.lt_size (N' (L1 + 1, co') (.tail _ (.tail _ (.tail _ (.head _))))).1
        refine add_lists_ints (s := ⟨_, _, _, _, _⟩) F' N' (News.isList N' (.tail _ (.tail _ (.head _)))) (News.isList N' (.head _)) c1 hzi (fun h3 F3 N3 hints => ?_) (by rw [List.length_map, List.length_map, List.length_map, sizeLine_eq]; omega)
        clear F' N' F5 N5
        (try dsimp only)
        (try k_fold)
        walk_at "mine steps"
        rename News _ _ _ _ => N6
        rename Fr _ _ _ _ => F6
        refine TEnd.intro ⟨h2.objs.size, sv ++ zs, 0, co'⟩ F6 N6 (fun p hp => ?_) (fun p hp => by rw [List.mem_singleton.mp hp]; exact .tail _ (.tail _ (.head _))) (sepS hI (Nat.ne_of_gt k1)) (by kst_all) ⟨?_, ⟨_, d'⟩, k2⟩
        · rcases List.mem_cons.mp hp with rfl | hp
          · exact .head _
          · exact .tail _ (.tail _ (.tail _ (.tail _ hp)))
        · rw [sums_snoc hxi, sumsTurn, if_neg hin, List.map_append]
          exact hints
  case done =>
    clear lF' lN'
    rintro ⟨D, sv, n, co⟩ u h tk ⟨c1, c2, c3⟩ F N
    dsimp only [SumSt.led] at c1 c2 c3 F N ⊢
    have hl9 := ints_len hi
    rw [List.length_map] at hl9
    rw [hl9, List.take_length] at c1
    (try k_fold)
    walk_at "mine steps"
    rename News h₀ _ _ _ => kN
    refine hret D n sv _ _ c1 (by assumption) (fun p hp => kN p ?_) (fun p hp => Nat.ne_of_lt (Nat.lt_trans (Nat.lt_succ_of_lt (l1 p hp)) c3))
    rcases List.mem_cons.mp hp with rfl | hp
    · exact .head _
    · exact .tail _ (.tail _ hp)
end
end
section
theorem one_eq (n : Nat) : ((⟨#[n]⟩ : Str) == Str.ofString ".") = decide (n = 46) := by
  rw [show Str.ofString "." = ⟨#[46]⟩ by rfl]
  by_cases h : n = 46
  · subst h; rfl
  · rw [decide_eq_false h]
    rw [beq_eq_false_iff_ne]
    intro e
    apply h
    have := congrArg (fun z : Str => z.cps.toList) e
    simpa using this
theorem booked {M : Model} {A : Around} {E : Value → Shared → Prop} {s : Shared} {t : Tok} {P : Params} {h₀ : Heap} {L : Addr} {m : Str → Option Value} (X : (Mine.hd.heap_39 P).In h₀) (F : Fr h₀ L s.heap m) (Qb : Bool → Shared → Prop) (h : Qb false s) : wpAny M A (sharingNotTold t) Qb E s := by
  unfold sharingNotTold
  refine wpAny_bind (looks_nsIn (r := none) X (by rfl) A _ E s F.keep ?_)
  exact wpAny_pure h
section
variable (w : World) (mean : ExcName → Option Value) (mg mb : Str → Option Value) (news : List (Addr × Obj))
theorem count_use (x : Str) (hz : x.cps.size ≤ 1000) (ha : x.cps.all (· < 128) = true) (tx tb : Tok) (hb0 : tb ≠ 0)
    (dp un : Nat) (gd : Option (List Code)) (cn : Str) (cs : Scope) (a : Addr) (ccd : Value) (cl : List (Str × Addr)) (outer : List Env) (A₀ : Around) (base h₀ : Heap) (L : Addr) (m : Str → Option Value) (s : Shared) (Q E : Value → Shared → Prop)
    (cB : Below A₀ base outer h₀) (cF : Fr h₀ L s.heap m) (cX : (Mine.hd.heap_39 w.params).In h₀) (cN : News h₀ L s.heap news)
    (cT : Top Mine.hd.view_39 (looseW Mine.hd.view_39 [Str.ofString "_twin_re_1", Str.ofString "_twin_re_2", Str.ofString "_name_disallowed_re", Str.ofString "_value_disallowed_re"]) mean mg mb h₀)
    (cK : cs.kind = .function) (cD : dp + 2 < recursionLimit) (cU : un + 10 * 2 < cLine) (hlt : tb < s.toks)
    (hret : ∀ (t' : Tok) (h' : Heap) (tk' : Nat), Fr h₀ L h' m → News h₀ L h' news → Q (.int ((x.cps.toList.count 46 : Nat) : Int) t') { s with heap := h', toks := tk' }) :
    wpAny (model (PySem.Challenge.rw_wj0041_01).prog w) (ktrTop dp un gd cn cs L a ccd cl outer) (call (.ref 59) [.str x tx, .str (Str.ofString ".") tb]) Q E s := by
  revert cX; k_fill; intro cX
  walk_at "mine enter"
  refine wpAny_execs_cons ?_
  refine wpAny_toks (tb + 1) (Nat.le_trans hlt (Nat.le_add_right _ _)) ?_
  walk_at "mine steps"
  rename _ ≤ _ => hK
  rename Fr _ _ _ _ => F5
  rename News _ _ _ _ => N5
  refine wpAny_For ?_ (by intro _; with_unfolding_all rfl)
  walk_at "mine steps"
  refine' text_turnsT (σ := Nat × Tok) (tb + 1) ?hk1 (fun _ => news) (fun c => [(Str.ofString "b", .str (Str.ofString ".") tb), (Str.ofString "count", .int (c.1 : Int) c.2)])
    (fun i c => c.1 = (x.cps.toList.take i).count 46) (0, _) ?hh ha ?hF ?hN ?hk ?hp ?turn ?done (by passes_own)
  case hk1 => show tb + 1 ≤ _; have := hlt; omega
  case hh => exact rfl
  case hF => exact F5
  case hN => exact N5
  case hk => kst_all
  case hp => exact rfl
  case turn =>
    clear F5 N5 hK
    rintro i n ⟨p, tp⟩ u h tk t I it ht1 ht2 hn hI h1 F N
    dsimp only at h1 F N ⊢
    have hp : p < 2 ^ 40 := by
      rw [h1]
      refine Nat.lt_of_le_of_lt (List.count_le_length ..) ?_
      rw [List.length_take, Array.length_toList]
      omega
    (try k_fold)
    walk_at "mine steps"
    refine is_text (Nat.ne_of_gt (Nat.lt_of_lt_of_le (Nat.succ_pos tb) ht1)) hb0 (Nat.ne_of_gt ht1) (fun t Qb hq => booked (by assumption) (by assumption) Qb hq) (fun b hb => ?_)
    cases b with
    | true =>
      have hn46 : n = 46 := by
        have := one_eq n
        rw [hb rfl] at this
        simpa using this
      walk_at "mine steps"
      rename News _ _ _ _ => lN'
      refine TEnd.intro (p + 1, _) (by assumption) lN' (fun p hp => .tail _ hp) mem_one (off_same hI) (by kst_all) ?_
      rw [take_snoc (show x.cps.toList[i]? = some n by simpa using hn), List.count_append, ← h1, hn46]; rfl
    | false =>
      walk_at "mine steps"
      · rename (_ == _) = true => hq
        rw [one_eq, decide_eq_true_eq] at hq
        rename News _ _ _ _ => lN'
        refine TEnd.intro (p + 1, _) (by assumption) lN' (fun p hp => .tail _ hp) mem_one (off_same hI) (by kst_all) ?_
        rw [take_snoc (show x.cps.toList[i]? = some n by simpa using hn), List.count_append, ← h1, hq]; rfl
      · rename (_ == _) = false => hq
        rw [one_eq, decide_eq_false_iff_not] at hq
        rename News _ _ _ _ => lN'
        refine TEnd.intro (p, _) (by assumption) lN' (fun p hp => .tail _ hp) mem_one (off_same hI) (by kst_all) ?_
        rw [take_snoc (show x.cps.toList[i]? = some n by simpa using hn), List.count_append, ← h1, List.count_singleton, if_neg (by simpa using hq)]; rfl
  case done =>
    clear F5 N5 hK
    rintro ⟨p, tp⟩ u h tk h1 F N
    dsimp only at h1 F N ⊢
    rw [List.take_of_length_le (by simp)] at h1
    subst h1
    (try k_fold)
    walk_at "mine steps"
    all_goals exact hret _ _ _ (by assumption) (by assumption)
end
end
section
noncomputable def leadS (c : Nat) : Str := ⟨(leadL c).toArray⟩
theorem mul_lead : ∀ k : Nat, k < 2 → Txt.mul (Str.ofString ".") (k : Int) = ⟨(List.replicate k 46).toArray⟩ := by decide +kernel
theorem lead_mul (c : Nat) : Txt.mul (Str.ofString ".") (((c : Int).fdiv 8).fmod 2) = leadS c := by
  rw [show (c : Int).fdiv 8 = ((c / 8 : Nat) : Int) from fdiv_nat c 8, show ((c / 8 : Nat) : Int).fmod 2 = ((c / 8 % 2 : Nat) : Int) from fmod_nat (c / 8) 2, mul_lead _ (Nat.mod_lt _ (by decide))]
  rfl
theorem abs_cell (c : Nat) : ((16 + (c : Int).fmod 8) * (-1) ^ ((c : Int).fdiv 48).toNat).natAbs = 16 + c % 8 := by
  rw [Int.natAbs_mul, Int.natAbs_pow, show (c : Int).fmod 8 = ((c % 8 : Nat) : Int) from fmod_nat c 8]
  simp; omega
section
variable (w : World) (mean : ExcName → Option Value) (mg mb : Str → Option Value) (news : List (Addr × Obj))
theorem int2ap_abs (n : Nat) (a : Int) (ha : a.natAbs = n) (hn : n < 2 ^ 40) (tx : Tok) : Clm w mean mg mb 2 45 news [.int a tx] (fun t => .bytes (apB n) t) := by
  subst ha; exact int2ap_clm w mean mg mb news a hn tx
end
section
variable {prog : Program} {w : World} {A : Around} {E : Value → Shared → Prop} {s : Shared} {t : Tok} {Q : Value → Shared → Prop}
theorem add_small {x y : Str} {u : Tok} (hx : x.cps.size ≤ 1000) (hy : y.cps.size ≤ 1000) (h : ∀ t' tk, Q (.str (x ++ y) t') { s with toks := tk }) : wpAny (model prog w) A (binaryOp .Add (.str x t) (.str y u)) Q E s :=
  add_str h (by show x.cps.size + y.cps.size ≤ _; rw [sizeLine_eq]; omega)
theorem size_app (x y : Str) : (x ++ y).cps.size = x.cps.size + y.cps.size := by rw [Str.cps_append, Array.size_append]
end
noncomputable def endS (c : Nat) : Str := ⟨(endL c).toArray⟩
theorem end_item (t1 t2 t3 : Tok) (c : Nat) : ∃ te, ([Value.str (Str.ofString "\r\n") t1, Value.str (Str.ofString "\r") t2, Value.str (Str.ofString "\n") t3] : List Value)[((((c : Int).fdiv 16).fmod 3)).toNat]? = some (.str (endS c) te) := by
  rw [show (c : Int).fdiv 16 = ((c / 16 : Nat) : Int) from fdiv_nat c 16, show ((c / 16 : Nat) : Int).fmod 3 = ((c / 16 % 3 : Nat) : Int) from fmod_nat (c / 16) 3, Int.toNat_natCast]
  unfold endS endL
  rcases (by omega : c / 16 % 3 = 0 ∨ c / 16 % 3 = 1 ∨ c / 16 % 3 = 2) with h | h | h <;> rw [h]
  · exact ⟨t1, rfl⟩
  · exact ⟨t2, rfl⟩
  · exact ⟨t3, rfl⟩
section
variable {prog : Program} {w : World} {A : Around} {E : Value → Shared → Prop} {s : Shared}
theorem mail_item {value slice : PySem.Expr} {l : Addr} {t1 t2 t3 u : Tok} {c : Nat} {Q : Value → Shared → Prop} (hl : s.heap.IsList l [Value.str (Str.ofString "\r\n") t1, Value.str (Str.ofString "\r") t2, Value.str (Str.ofString "\n") t3].toArray)
    (h : ∀ te, Q (.str (endS c) te) s)
    (hs : subscripted slice false (.ref l) (.int (((c : Int).fdiv 16).fmod 3) u) = operate [.ref l, .int (((c : Int).fdiv 16).fmod 3) u] (getItem (.ref l) (.int (((c : Int).fdiv 16).fmod 3) u)) := by with_unfolding_all rfl) (hg : ∀ r, letTemporaryGo value (.ref l) r = pure () := by intro _; with_unfolding_all rfl) :
    wpAny (model prog w) A (subscriptTail value slice (.ref l) (.int (((c : Int).fdiv 16).fmod 3) u)) Q E s := by
  obtain ⟨te, hte⟩ := end_item t1 t2 t3 c
  have e : ((c : Int).fdiv 16).fmod 3 = ((c / 16 % 3 : Nat) : Int) := by
    rw [show (c : Int).fdiv 16 = ((c / 16 : Nat) : Int) from fdiv_nat c 16, show ((c / 16 : Nat) : Int).fmod 3 = ((c / 16 % 3 : Nat) : Int) from fmod_nat (c / 16) 3]
  exact item_listL hl (by rw [e]; omega) (by rw [e]; omega) hte (h te) hs hg
end
local macro_rules | `(tactic| walk_at "subscriptTail") => `(tactic| (k_here; (with_reducible show wpAny _ _ (subscriptTail _ _ (Value.ref _) (Value.int _ _)) _ _ _); (refine mail_item (News.isList (by k_asm) (by k_mem)) ?_); intro _))
local macro_rules | `(tactic| walk_at "binaryOp Add str str") => `(tactic| (k_here; (refine add_small (by assumption) (by assumption) ?_); intro _ _))
local macro_rules | `(tactic| walk_at "mine call") => `(tactic| (k_here; (with_reducible show wpAny _ _ (call (Value.ref 45) [Value.int _ _]) _ _ _); refine' Clm.use1 (int2ap_abs _ _ _ _ _ _ _ ?kn ?kx _) ?k ?_; walk_at "mine k"; (case kn => exact abs_cell _); walk_at "mine kx"; walk_at "mine used"))
section
variable (w : World) (mean : ExcName → Option Value) (mg mb : Str → Option Value) (news : List (Addr × Obj))
theorem mail_clm (D nD : Nat) (vs : List Value) (cs0 : List Nat) (hm : (D, listOf vs.toArray nD) ∈ news) (hi : IntsAre vs (cs0.map fun k : Nat => (k : Int))) (hc0 : ∀ v ∈ cs0, v < 2 ^ 15) (hl : cs0.length ≤ 8) :
    ClmL w mean mg mb 6 248 news [.ref D] (fun ys => StrsAre ys [⟨(mailL cs0).toArray⟩, ⟨(dueL cs0).toArray⟩]) := by
  unfold ClmL
  k_fill
  intro dp un gd cn cs a ccd cl outer A₀ base h₀ L m s Q E cB cF cX cN cT cK cD cU hret
  walk_at "mine enter"
  walk_at "mine steps"
  walk_at "mine for"
  walk_at "mine steps"
  rename Fr _ _ _ _ => lF'
  rename News _ _ _ _ => lN'
  refine' list_turns (σ := (Str × Str) × (Tok × Tok)) (fun _ => news) (fun c => [(Str.ofString "mail", .str c.1.1 c.2.1), (Str.ofString "due", .str c.1.2 c.2.2)])
    (fun i c => c.1.1.cps.toList = mailL (cs0.take i) ∧ c.1.2.cps.toList = dueL (cs0.take i)) ((_, _), (_, _)) ?hh (fun _ => hm) ?hF ?hN ?hk ?hp ?turn ?done
  case hh => exact rfl
  case hF => exact lF'
  case hN => exact fun p hp => lN' p (.tail _ hp)
  case hk => kst_all
  case hp => exact ⟨rfl, rfl⟩
  case turn =>
    clear lF' lN'
    rintro i v ⟨⟨M, U⟩, ⟨tm, tu⟩⟩ u h tk I it hv hc hI ⟨h1, h2⟩ F N
    obtain ⟨c, tc, rfl, hxi⟩ := ints_nat_get hi hv
    have hcb : c < 2 ^ 15 := hc0 c (List.mem_of_getElem? hxi)
    dsimp only at h1 h2 F N ⊢
    have hn1 : 16 + c % 8 < 2 ^ 40 := by omega
    have hn2 : 16 + c % 8 < 64 := by omega
    have hi8 : i < 8 := Nat.lt_of_lt_of_le (List.getElem?_eq_some_iff.mp hxi).1 hl
    have hM : M.cps.size ≤ 40 := by
      rw [← Array.length_toList, h1]
      refine Nat.le_trans (mail_len _) ?_
      rw [List.length_take]; omega
    have hU : U.cps.size ≤ 48 := by
      rw [← Array.length_toList, h2]
      refine Nat.le_trans (due_len _) ?_
      rw [List.length_take]; omega
    have hP := lead_mul c
    generalize hPe : Txt.mul (Str.ofString ".") (((c : Int).fdiv 8).fmod 2) = P at hP
    have hPz : P.cps.size ≤ 1 := by
      rw [hP]; show (leadL c).toArray.size ≤ 1; rw [List.size_toArray]; exact lead_len c
    have hRz : (apS (16 + c % 8)).cps.size = 2 := by
      show (apL (16 + c % 8)).toArray.size = 2
      rw [apL_two (by omega) (by omega)]; rfl
    subst hPe
    have g1 : (Txt.mul (Str.ofString ".") (((c : Int).fdiv 8).fmod 2)).cps.size ≤ 1000 := by omega
    have g2 : (apS (16 + c % 8)).cps.size ≤ 1000 := by omega
    have g3 : (Txt.mul (Str.ofString ".") (((c : Int).fdiv 8).fmod 2) ++ apS (16 + c % 8)).cps.size ≤ 1000 := by rw [size_app]; omega
    have g4 : M.cps.size ≤ 1000 := by omega
    have g5 : (M ++ (Txt.mul (Str.ofString ".") (((c : Int).fdiv 8).fmod 2) ++ apS (16 + c % 8))).cps.size ≤ 1000 := by rw [size_app, size_app]; omega
    have g6 : U.cps.size ≤ 1000 := by omega
    have g7 : (U ++ Txt.mul (Str.ofString ".") (((c : Int).fdiv 8).fmod 2)).cps.size ≤ 1000 := by rw [size_app]; omega
    have g8 : (U ++ Txt.mul (Str.ofString ".") (((c : Int).fdiv 8).fmod 2) ++ (Txt.mul (Str.ofString ".") (((c : Int).fdiv 8).fmod 2) ++ apS (16 + c % 8))).cps.size ≤ 1000 := by rw [size_app, size_app, size_app]; omega
    have g9 : (Str.ofString "\r\n").cps.size ≤ 1000 := by decide
    have g12 : (endS c).cps.size ≤ 1000 := by
      show (endL c).toArray.size ≤ 1000
      rcases end_cases c with h | h | h <;> rw [h] <;> decide
    have g10 : (Str.ofString "\r").cps.size ≤ 1000 := by decide
    have g11 : (Str.ofString "\n").cps.size ≤ 1000 := by decide
    (try k_fold)
    walk_at "mine steps"
    rename News _ _ _ _ => lN'
    refine TEnd.intro ((_, _), (_, _)) (by assumption) lN' (fun p hp => by first | exact .tail _ hp | exact .tail _ (.tail _ hp)) (fun p hp => by rw [List.mem_singleton.mp hp]; first | exact .head _ | exact .tail _ (.head _)) (off_same hI) (by kst_all) ?_
    have eR : (apS (16 + c % 8)).cps.toList = [66, 65 + c % 8] := by
      show (apL (16 + c % 8)).toArray.toList = _
      rw [List.toList_toArray, apL_two (by omega) (by omega), show (16 + c % 8) / 16 = 1 by omega, show (16 + c % 8) % 16 = c % 8 by omega]
    have eP : (leadS c).cps.toList = leadL c := List.toList_toArray ..
    have eE : (endS c).cps.toList = endL c := List.toList_toArray ..
    have eN : (Str.ofString "\r\n").cps.toList = [13, 10] := by rfl
    dsimp only
    rw [take_snoc hxi, mailL, dueL, List.flatMap_append, List.flatMap_append, ← mailL, ← dueL, ← h1, ← h2, lead_mul]
    simp only [Str.cps_append, Array.toList_append, eR, eP, eE, eN, List.flatMap_cons, List.flatMap_nil, List.append_nil, rowL, dueRow, List.append_assoc]
    exact ⟨trivial, trivial⟩
  case done =>
    clear lF' lN'
    rintro ⟨⟨M, U⟩, ⟨tm, tu⟩⟩ u h tk ⟨h1, h2⟩ F N
    have hl9 := ints_len hi
    rw [List.length_map] at hl9
    dsimp only at h1 h2 F N ⊢
    rw [hl9, List.take_length] at h1 h2
    have eM : M = ⟨(mailL cs0).toArray⟩ := by rw [← h1]
    have eU : U = ⟨(dueL cs0).toArray⟩ := by rw [← h2]
    (try k_fold)
    walk_at "mine steps"
    rename (∀ p : Addr × Obj, p ∈ news → _) => l1
    rename News h₀ _ _ _ => kN
    refine hret _ _ _ _ _ ?_ (by assumption) kN (off_rest l1)
    rw [← eM, ← eU]
    exact .cons _ _ (.cons _ _ .nil)
end
end
section
section
variable (w : World) (mean : ExcName → Option Value) (mg mb : Str → Option Value) (news : List (Addr × Obj))
theorem shift_clm (x d : Nat) (hx : x < 16) (hd : d ≤ 2) (tx td : Tok) : Clm w mean mg mb 2 66 news [.int (x : Int) tx, .int (d : Int) td] (fun t => .int ((x * 2 ^ d : Nat) : Int) t) := by
  unfold Clm
  k_fill
  intro dp un gd cn cs a ccd cl outer A₀ base h₀ L m s Q E cB cF cX cN cT cK cD cU hret
  dsimp only [CbRet] at hret
  walk_at "mine enter"
  have hd2 : (d : Int) < 3 := by omega
  have hd0 : (0 : Int) ≤ d := by omega
  walk_at "mine steps"
  all_goals cb_end hret
end
end
section
noncomputable def dueS (c : Nat) : Str := ⟨(dueRow c).toArray⟩
noncomputable def heardN (c : Nat) : Nat := c % 8 * 2 ^ (2 * (c / 8 % 2))
theorem dueS_list (c : Nat) : (dueS c).cps.toList = dueRow c := List.toList_toArray ..
theorem due_row_len (c : Nat) : (dueRow c).length ≤ 4 := by
  unfold dueRow rowL
  have := lead_len c
  simp only [List.length_append, List.length_cons, List.length_nil]
  omega
theorem dueS_small (c : Nat) : (dueS c).cps.size ≤ 1000 := by
  rw [← Array.length_toList, dueS_list]
  exact Nat.le_trans (due_row_len c) (by decide)
theorem dueS_plain (c : Nat) : (dueS c).cps.all (· < 128) = true := by
  rw [← Array.all_toList, dueS_list, List.all_eq_true]
  intro z hz
  unfold dueRow rowL at hz
  rw [decide_eq_true_eq]
  simp only [List.mem_append, List.mem_cons, List.not_mem_nil, or_false] at hz
  rcases hz with h | h | h | h
  · have := lead_plain c _ h; omega
  · have := lead_plain c _ h; omega
  · omega
  · omega
theorem due_slice (c : Nat) : Txt.slice (dueS c) (some ((((dueS c).cps.toList.count 46 : Nat) : Int))) none = apS (16 + c % 8) := by
  have hl : (dueS c).cps.toList.count 46 ≤ (dueS c).length := by
    show _ ≤ (dueS c).cps.size
    rw [← Array.length_toList]; exact List.count_le_length
  have h := slice_closes_fromL (x := dueS c) (i := (((dueS c).cps.toList.count 46 : Nat) : Int)) (b := (dueS c).length) (by omega) (by omega) rfl
  rw [eq_of_beq h, Int.toNat_natCast, show (((dueS c).length : Int) - (((dueS c).cps.toList.count 46 : Nat) : Int)).toNat = (dueS c).length - (dueS c).cps.toList.count 46 by omega]
  rw [dueS_list, due_count, due_drop, List.take_of_length_le]
  · rfl
  · have e : (dueS c).length = (dueRow c).length := by show (dueS c).cps.size = _; rw [← Array.length_toList, dueS_list]
    rw [e, ← due_drop, List.length_drop]
    exact Nat.le_refl _
section
variable {prog : Program} {w : World} {A : Around} {E : Value → Shared → Prop} {s : Shared} {h₀ : Heap} {L : Addr} {m : Str → Option Value} {news : List (Addr × Obj)}
theorem split_call {cs : List Nat} {t u : Tok} {Q : Value → Shared → Prop} (F : Fr h₀ L s.heap m) (N : News h₀ L s.heap news) (h : cs ≠ []) (hz : cs.length ≤ 8)
    (hq : ∀ D vs h' k, StrsAre vs (cs.map dueS ++ [⟨#[]⟩]) → Fr h₀ L h' m → News h₀ L h' ((D, listOf vs.toArray 0) :: news) → (∀ p ∈ news, p.1 < D) → Q (.ref D) { s with heap := h', toks := k }) :
    wpAny (model prog w) A (call (.builtin "str.split") [.str ⟨(dueL cs).toArray⟩ t, .str (Str.ofString "\r\n") u]) Q E s := by
  refine splitN1A F N (by decide) (fun l h' k e hs _ _ F' N' => ?_) ?_
  · have e2 : l.map (·.1) = cs.map dueS ++ [⟨#[]⟩] := e.trans (split_due h)
    rw [e2] at hs
    exact hq _ _ h' k hs F' N' fun p hp => Heap.lt_size (N p hp).1
  · show (dueL cs).toArray.size + 2 ≤ _
    have := due_len cs
    rw [List.size_toArray, sizeLine_eq]; omega
end
section
variable (w : World) (mean : ExcName → Option Value) (mg mb : Str → Option Value) (news : List (Addr × Obj))
theorem number_eq (x : Str) (n : Nat) (hx : x = apS n) (hn : n < 2 ^ 40) (tx : Tok) : Clm w mean mg mb 2 227 news [.str x tx] (fun t => .int (n : Int) t) := by
  subst hx; exact number_ap w mean mg mb news n hn tx
theorem shift_eq (x d : Nat) (a b : Int) (ha : a = (x : Int)) (hb : b = (d : Int)) (hx : x < 16) (hd : d ≤ 2) (tx td : Tok) : Clm w mean mg mb 2 66 news [.int a tx, .int b td] (fun t => .int ((x * 2 ^ d : Nat) : Int) t) := by
  subst ha hb; exact shift_clm w mean mg mb news x d hx hd tx td
end
theorem sub16 (y : Nat) : ((16 + y : Nat) : Int) - 16 = (y : Int) := by omega
theorem count_due (c : Nat) : (dueS c).cps.toList.count 46 = 2 * (c / 8 % 2) := by rw [dueS_list, due_count]
theorem pick5 (vs : List Value) : kms_pick vs none (some 5) = vs.take 5 := by
  unfold kms_pick kms_lo kms_hi
  simp only [List.drop_zero, Nat.sub_zero]
  show vs.take (min 5 vs.length) = _
  rcases Nat.le_total 5 vs.length with h | h
  · rw [Nat.min_eq_left h]
  · rw [Nat.min_eq_right h, List.take_length, List.take_of_length_le h]
theorem dueS_line (c : Nat) : (dueS c).length ≤ sizeLine := by
  rw [sizeLine_eq]; exact Nat.le_trans (dueS_small c) (by decide)
local macro_rules | `(tactic| walk_at "subscriptTail") => `(tactic| (k_here; (with_reducible show wpAny _ _ (subscriptTail _ (Expr.Slice (some _) none none _) (Value.str (dueS _) _) _) _ _ _); (with_reducible rename Fr _ _ _ _ => F'); (with_reducible rename News _ _ _ _ => N'); (refine slice_strN_sn (hsz := dueS_line _) (s := ⟨_, _, _, _, _⟩) F' N' ?_); intro _ _ _ _ _; (try dsimp only)))
theorem sepD {l D : Addr} {o : Obj} {news : List (Addr × Obj)} (h1 : ∀ p ∈ news, p.1 < l) (h2 : l < D) : ∀ p ∈ (D, o) :: news, p.1 ≠ l := fun p hp => by
  rcases List.mem_cons.mp hp with rfl | hp
  · exact Nat.ne_of_gt h2
  · exact Nat.ne_of_lt (h1 p hp)
local macro_rules | `(tactic| walk_at "mine stop") => `(tactic| with_reducible first
  | show wpAny _ _ (call (Value.builtin "str.split") _ _) _ _ _
  | show wpAny _ _ (call (Value.ref 59) _ _) _ _ _
  | show wpAny _ _ (call (Value.builtin "list.append") _ _) _ _ _
  | show wpAny _ _ (subscriptTail _ _ (Value.ref _) (Value.ref _)) _ _ _)
local macro_rules | `(tactic| walk_at "mine call") => `(tactic| (k_here; (with_reducible show wpAny _ _ (call (Value.ref 227) [Value.str _ _]) _ _ _); refine' Clm.use1 (number_eq _ _ _ _ _ _ _ ?kn ?kx _) ?k ?_; walk_at "mine k"; (case kn => exact due_slice _); (case kx => assumption); walk_at "mine used"))
local macro_rules | `(tactic| walk_at "mine call") => `(tactic| (k_here; (with_reducible show wpAny _ _ (call (Value.ref 66) [Value.int _ _, Value.int _ _]) _ _ _); refine' Clm.use1 (shift_eq _ _ _ _ _ _ _ _ _ ?ka ?kb ?kx ?ky _ _) ?k ?_; walk_at "mine k"; (case ka => exact sub16 _); (case kb => exact rfl); (case kx => assumption); (case ky => assumption); walk_at "mine used"))
section
variable (w : World) (mean : ExcName → Option Value) (mg mb : Str → Option Value) (news : List (Addr × Obj))
theorem heard_clm (cs0 : List Nat) (hl : cs0.length = 5) (tx : Tok) :
    ClmL w mean mg mb 6 255 news [.str ⟨(dueL cs0).toArray⟩ tx] (fun ys => IntsAre ys ((cs0.map heardN).map fun k : Nat => (k : Int))) := by
  unfold ClmL
  k_fill
  intro dp un gd cn cs a ccd cl outer A₀ base h₀ L m s Q E cB cF cX cN cT cK cD cU hret
  have hne : cs0 ≠ [] := by intro e; rw [e] at hl; simp at hl
  walk_at "mine enter"
  walk_at "mine steps"
  walk_at "mine for"
  walk_at "mine steps"
  rename Fr _ _ _ _ => F1
  rename News _ _ _ _ => N1
  rename (∀ p : Addr × Obj, p ∈ news → _) => l1
  refine split_call F1 N1 hne (by omega) ?_
  clear F1 N1
  intro D vs h' k hvs F1 N1 l2
  (try dsimp only)
  (try k_fold)
  walk_at "mine steps"
  k_here
  have hvl := strs_len hvs
  rw [List.length_append, List.length_map, hl] at hvl
  k_dflt (refine' temp_slice (its := vs.toArray) (zs := vs.take 5) F1 N1 ?xl ?xp ?xq .none (by decide) ((pick_plain _ _ _).trans (pick5 _)) ?_ ?xs ?xz)
  case xl => exact News.isList N1 (.head _)
  case xp => kmk_part
  case xq => kmk_part
  case xs => with_unfolding_all rfl
  case xz => rw [List.size_toArray, sizeLine_eq, hvl]; decide
  clear F1 N1
  intro D5 h5 F1 N1 l3
  have hvs5 : StrsAre (vs.take 5) (cs0.map dueS) := by
    have h1 := hvs.take' 5
    rw [List.take_left' (by rw [List.length_map, hl])] at h1
    exact h1
  (try dsimp only)
  (try k_fold)
  walk_at "mine steps"
  have hN2 := news_sub N1 (b := _ :: (D5, listOf (vs.take 5).toArray 0) :: news) (fun p hp => by
    rcases List.mem_cons.mp hp with rfl | hp
    · exact .tail _ (.tail _ (.head _))
    · rcases List.mem_cons.mp hp with rfl | hp
      · exact .head _
      · exact .tail _ (.tail _ (.tail _ hp)))
  have hsep := sepD (o := listOf (vs.take 5).toArray 0) l1 (l3 _ (.tail _ (.head _)))
  refine' list_turns (σ := List Value × Nat) (fun c => (_, listOf c.1.toArray c.2) :: (D5, listOf (vs.take 5).toArray 0) :: news) (fun c => [(Str.ofString "told", .ref _)])
    (fun i c => IntsAre c.1 (((cs0.take i).map heardN).map fun k : Nat => (k : Int))) ([], _) ?xh (fun _ => .tail _ (.head _)) ?xF hN2 ?xk ?x0 ?turn ?done
  case xh => exact rfl
  case xF => exact F1
  case xk => kst_all
  case x0 => exact .nil
  case turn =>
    clear F1 N1 hN2
    rintro i v ⟨kv, nk⟩ u h tk I it hv hc hI c1 F N
    have hvi : (vs.take 5)[i]? = some v := hv
    obtain ⟨c, tc, rfl, hxi⟩ := strs_get hvs5 hvi
    dsimp only at c1 F N ⊢
    (try k_fold)
    refine wpAny_assign_Name (storeX_L F N (fun h2 F N => ?_))
    (try dsimp only)
    have hd2 : (dueS c).cps.toList.count 46 ≤ 2 := by rw [count_due]; omega
    have hn1 : 16 + c % 8 < 2 ^ 40 := by omega
    have hx1 : c % 8 < 16 := by omega
    refine wpAny_execs_cons ?_
    walk_at "mine steps"
    refine' count_use w mean mg mb _ (dueS c) (dueS_small c) (dueS_plain c) _ _ (Nat.succ_ne_zero _) _ _ _ _ _ _ _ _ _ _ _ _ _ _ ⟨_, _, _, _, _⟩ _ _ ?kB F ?kX N ?kT rfl ?kD ?kU (Nat.lt_succ_self _) ?_
    case kB => k_asm
    case kX => k_asm
    case kT => k_asm
    case kD => ktr_room
    case kU => ktr_units
    clear F N
    intro t9 h9 tk9 F N
    (try dsimp only)
    (try k_fold)
    walk_at "mine steps"
    k_here
    rename Fr _ _ _ _ => F
    rename News _ _ _ _ => N
    have hkl : kv.length ≤ 5 := by
      rw [ints_len c1, List.length_map, List.length_map, List.length_take]; omega
    refine append_in (own := [(I, it)]) F N (off_one hI) hsep ?_ (by rw [sizeLine_eq]; omega)
    clear F N
    intro h' F N
    (try dsimp only)
    (try k_fold)
    walk_at "mine steps"
    rename News _ _ _ _ => N
    refine TEnd.intro (kv ++ [Value.int ((c % 8 * 2 ^ (dueS c).cps.toList.count 46 : Nat) : Int) _], nk + 1) (by assumption) N (fun p hp => .tail _ hp) mem_one (off_led hI) (by kst_all) ?_
    rw [take_snoc hxi, List.map_append]
    have e : heardN c = c % 8 * 2 ^ (dueS c).cps.toList.count 46 := by rw [count_due]; rfl
    rw [show [c].map heardN = [c % 8 * 2 ^ (dueS c).cps.toList.count 46] from congrArg (fun z => [z]) e]
    exact ints_snoc c1 _ _
  case done =>
    clear F1 N1 hN2
    rintro ⟨kv, nk⟩ u h tk c1 F N
    dsimp only at c1 F N ⊢
    have hl9 : (vs.take 5).length = 5 := by rw [List.length_take, hvl]; rfl
    rw [hl9, ← hl, List.take_length] at c1
    (try k_fold)
    walk_at "mine steps"
    rename News h₀ _ _ _ => kN
    refine hret _ nk kv _ _ c1 (by assumption) (fun p hp => kN p ?_) (off_rest l1)
    rcases List.mem_cons.mp hp with rfl | hp
    · exact .head _
    · exact .tail _ (.tail _ hp)
end
end
section
section
variable (w : World) (mean : ExcName → Option Value) (mg mb : Str → Option Value) (news : List (Addr × Obj))
theorem det0_clm (D n : Nat) (hD : (D, listOf ([] : List Value).toArray n) ∈ news) : Clm w mean mg mb 8 286 news [.ref D] (fun t => .int ((1 : Nat) : Int) t) := by
  unfold Clm
  k_fill
  intro dp un gd cn cs a ccd cl outer A₀ base h₀ L m s Q E cB cF cX cN cT cK cD cU hret
  dsimp only [CbRet] at hret
  replace cN : News h₀ L s.heap ((D, listOf ([] : List Value).toArray n) :: news) := fun p hp => by
    rcases List.mem_cons.mp hp with rfl | hp
    · exact cN _ hD
    · exact cN p hp
  walk_at "mine enter"
  walk_at "mine steps"
  rename News h₀ _ _ _ => kN
  exact hret _ _ _ (by assumption) (fun p hp => kN p (.tail _ (.tail _ hp)))
theorem det1_clm (D n : Nat) (r1 n1 : Nat) (a0 : Nat) (t0 : Tok) (hD : (D, listOf [Value.ref r1].toArray n) ∈ news) (h1 : (r1, listOf [Value.int (a0 : Int) t0].toArray n1) ∈ news) : Clm w mean mg mb 8 286 news [.ref D] (fun t => .int (a0 : Int) t) := by
  unfold Clm
  k_fill
  intro dp un gd cn cs a ccd cl outer A₀ base h₀ L m s Q E cB cF cX cN cT cK cD cU hret
  dsimp only [CbRet] at hret
  replace cN : News h₀ L s.heap ((D, listOf [Value.ref r1].toArray n) :: (r1, listOf [Value.int (a0 : Int) t0].toArray n1) :: news) := fun p hp => by
    rcases List.mem_cons.mp hp with rfl | hp
    · exact cN _ hD
    rcases List.mem_cons.mp hp with rfl | hp
    · exact cN _ h1
    · exact cN p hp
  walk_at "mine enter"
  walk_at "mine steps"
  rename News h₀ _ _ _ => kN
  exact hret _ _ _ (by assumption) (fun p hp => kN p (.tail _ (.tail _ (.tail _ hp))))
end
local macro_rules | `(tactic| walk_at "mine call") => `(tactic| (k_here; (with_reducible show wpAny _ _ (call (Value.ref 286) [Value.ref _]) _ _ _); refine' Clm.use1 (det1_clm _ _ _ _ _ _ _ _ _ _ _ ?hD ?h1) ?k ?_; walk_at "mine k"; (case k4 => k_asm); (case hD => k_mem); (case h1 => k_mem); walk_at "mine used2"))
local macro_rules | `(tactic| walk_at "mine call") => `(tactic| (k_here; (with_reducible show wpAny _ _ (call (Value.ref 52) [Value.int _ _, Value.int _ _]) _ _ _); refine' Clm.use1 (xor_nat _ _ _ _ _ _ _ _ _ ?ka ?kb _ _) ?k ?_; walk_at "mine k"; (case ka => first | exact (rfl : (0 : Int) = ((0 : Nat) : Int)) | exact rfl); (case kb => exact rfl); walk_at "mine used"))
local macro_rules | `(tactic| walk_at "mine run") => `(tactic| repeat' (first | (k_unfold; (try dsimp only)) | walk1 | (dsimp only; walk1) | (leave1; walk_say "STEP leave1"; try dsimp only)))
theorem perm4 (a b c d : Addr × Obj) (rest : List (Addr × Obj)) : ∀ p ∈ a :: b :: c :: (d :: rest), p ∈ d :: a :: b :: c :: rest := fun p hp => by
  simp only [List.mem_cons] at hp ⊢
  rcases hp with h | h | h | h | h <;> simp only [h, true_or, or_true]
local macro_rules | `(tactic| walk_at "CompEnd") => `(tactic| ((with_reducible rename News _ _ _ _ => N'); (refine LCg.CompEnd.intro (by assumption) N' (_ :: _) (perm4 _ _ _ _ _) ?off ?src ?_); (case off => exact ⟨⟨by k_ne, by k_ne, by k_ne⟩, by assumption⟩); (case src => exact Or.inr ⟨_, by k_mem, rfl, _, rfl⟩)))
noncomputable def det2 (a b c d : Nat) : Nat := (0 ^^^ mul a d) ^^^ mul c b
section
variable (w : World) (mean : ExcName → Option Value) (mg mb : Str → Option Value) (news : List (Addr × Obj))
theorem det2_clm (D n : Nat) (r1 n1 r2 n2 : Nat) (a b c d : Nat) (ta tb tc td : Tok) (hD : (D, listOf [Value.ref r1, Value.ref r2].toArray n) ∈ news) (h1 : (r1, listOf [Value.int (a : Int) ta, Value.int (b : Int) tb].toArray n1) ∈ news) (h2 : (r2, listOf [Value.int (c : Int) tc, Value.int (d : Int) td].toArray n2) ∈ news)
    (hab : a * d < 2 ^ 60) (hcb : c * b < 2 ^ 60) : Clm w mean mg mb 10 286 news [.ref D] (fun t => .int (det2 a b c d : Nat) t) := by
  unfold Clm
  k_fill
  intro dp un gd cn cs ad ccd cl outer A₀ base h₀ L m s Q E cB cF cX cN cT cK cD cU hret
  dsimp only [CbRet] at hret
  replace cN : News h₀ L s.heap ((D, listOf [Value.ref r1, Value.ref r2].toArray n) :: (r1, listOf [Value.int (a : Int) ta, Value.int (b : Int) tb].toArray n1) :: (r2, listOf [Value.int (c : Int) tc, Value.int (d : Int) td].toArray n2) :: news) := fun p hp => by
    rcases List.mem_cons.mp hp with rfl | hp
    · exact cN _ hD
    rcases List.mem_cons.mp hp with rfl | hp
    · exact cN _ h1
    rcases List.mem_cons.mp hp with rfl | hp
    · exact cN _ h2
    · exact cN p hp
  walk_at "mine enter"
  walk_at "mine steps"
  walk_at "mine for"
  walk_at "mine steps"
  rename Fr _ _ _ _ => lF'
  rename News _ _ _ _ => lN'
  refine' range_turns (n := 2) (σ := Nat × Tok) (fun _ => (D, listOf [Value.ref r1, Value.ref r2].toArray n) :: (r1, listOf [Value.int (a : Int) ta, Value.int (b : Int) tb].toArray n1) :: (r2, listOf [Value.int (c : Int) tc, Value.int (d : Int) td].toArray n2) :: news) (fun k => [(Str.ofString "rows", .ref D), (Str.ofString "total", .int (k.1 : Int) k.2)])
    (fun i k => k.1 = [0, 0 ^^^ mul a d, det2 a b c d].getD i 0) (0, _) ?xh ?xr ?xs ?xn ?xF ?xN ?xk ?x0 ?turn ?done
  case xh => exact rfl
  case xr => assumption
  case xs => decide
  case xn => rfl
  case xF => exact lF'
  case xN => exact lN'
  case xk => kst_all
  case x0 => exact rfl
  case turn =>
    clear lF' lN'
    rintro i t ⟨p, tp⟩ u h tk I it hi2 hI h1 F N
    dsimp only at h1 F N ⊢
    rcases (by omega : i = 0 ∨ i = 1) with rfl | rfl
    · replace h1 : p = 0 := h1
      subst h1
      rw [show ((0 : Nat) : Int) = 0 from rfl]
      (try k_fold)
      walk_at "mine run"
      rename News _ _ _ _ => lN'
      refine TEnd.intro (_, _) (by assumption) lN' (fun p hp => by repeat (first | exact hp | refine List.Mem.tail _ ?_)) (fun p hp => by rw [List.mem_singleton.mp hp]; k_mem) (off_same hI) (by kst_all) rfl
    · replace h1 : p = 0 ^^^ mul a d := h1
      subst h1
      rw [show ((1 : Nat) : Int) = 1 from rfl]
      (try k_fold)
      walk_at "mine run"
      rename News _ _ _ _ => lN'
      refine TEnd.intro (_, _) (by assumption) lN' (fun p hp => by repeat (first | exact hp | refine List.Mem.tail _ ?_)) (fun p hp => by rw [List.mem_singleton.mp hp]; k_mem) (off_same hI) (by kst_all) rfl
  case done =>
    clear lF' lN'
    rintro ⟨p, tp⟩ u h tk h1 F N
    dsimp only at h1 F N ⊢
    replace h1 : p = det2 a b c d := h1
    subst h1
    (try k_fold)
    walk_at "mine steps"
    rename News h₀ _ _ _ => kN
    exact hret _ _ _ (by assumption) (fun p hp => kN p (.tail _ (.tail _ (.tail _ hp))))
end
section
local macro_rules | `(tactic| walk_at "mine call") => `(tactic| (k_here; (with_reducible show wpAny _ _ (call (Value.ref 286) [Value.ref _]) _ _ _); refine' Clm.use1 (det2_clm _ _ _ _ _ _ _ _ _ _ _ _ _ _ _ _ _ _ _ ?hD ?h1 ?h2 ?ha ?hb) ?k ?_; walk_at "mine k"; (case k4 => k_asm); (case hD => k_mem); (case h1 => k_mem); (case h2 => k_mem); (case ha => assumption); (case hb => assumption); walk_at "mine used2"))
noncomputable def det3 (a b c d e f g h k : Nat) : Nat := ((0 ^^^ mul a (det2 e f h k)) ^^^ mul d (det2 b c h k)) ^^^ mul g (det2 b c e f)
section
variable (w : World) (mean : ExcName → Option Value) (mg mb : Str → Option Value) (news : List (Addr × Obj))
theorem det3_clm (D n : Nat) (r1 n1 r2 n2 r3 n3 : Nat) (a b c d e f g h k : Nat) (ta tb tc td te tf tg th tz : Tok) (hD : (D, listOf [Value.ref r1, Value.ref r2, Value.ref r3].toArray n) ∈ news) (h1 : (r1, listOf [Value.int (a : Int) ta, Value.int (b : Int) tb, Value.int (c : Int) tc].toArray n1) ∈ news) (h2 : (r2, listOf [Value.int (d : Int) td, Value.int (e : Int) te, Value.int (f : Int) tf].toArray n2) ∈ news) (h3 : (r3, listOf [Value.int (g : Int) tg, Value.int (h : Int) th, Value.int (k : Int) tz].toArray n3) ∈ news)
    (q1 : e * k < 2 ^ 60) (q2 : h * f < 2 ^ 60) (q3 : b * k < 2 ^ 60) (q4 : h * c < 2 ^ 60) (q5 : b * f < 2 ^ 60) (q6 : e * c < 2 ^ 60) (q7 : a * det2 e f h k < 2 ^ 60) (q8 : d * det2 b c h k < 2 ^ 60) (q9 : g * det2 b c e f < 2 ^ 60) :
    Clm w mean mg mb 14 286 news [.ref D] (fun t => .int (det3 a b c d e f g h k : Nat) t) := by
  unfold Clm
  k_fill
  intro dp un gd cn cs ad ccd cl outer A₀ base h₀ L m s Q E cB cF cX cN cT cK cD cU hret
  dsimp only [CbRet] at hret
  replace cN : News h₀ L s.heap ((D, listOf [Value.ref r1, Value.ref r2, Value.ref r3].toArray n) :: (r1, listOf [Value.int (a : Int) ta, Value.int (b : Int) tb, Value.int (c : Int) tc].toArray n1) :: (r2, listOf [Value.int (d : Int) td, Value.int (e : Int) te, Value.int (f : Int) tf].toArray n2) :: (r3, listOf [Value.int (g : Int) tg, Value.int (h : Int) th, Value.int (k : Int) tz].toArray n3) :: news) := fun p hp => by
    rcases List.mem_cons.mp hp with rfl | hp
    · exact cN _ hD
    rcases List.mem_cons.mp hp with rfl | hp
    · exact cN _ h1
    rcases List.mem_cons.mp hp with rfl | hp
    · exact cN _ h2
    rcases List.mem_cons.mp hp with rfl | hp
    · exact cN _ h3
    · exact cN p hp
  walk_at "mine enter"
  walk_at "mine steps"
  walk_at "mine for"
  walk_at "mine steps"
  rename Fr _ _ _ _ => lF'
  rename News _ _ _ _ => lN'
  refine' range_turns (n := 3) (σ := Nat × Tok) (fun _ => (D, listOf [Value.ref r1, Value.ref r2, Value.ref r3].toArray n) :: (r1, listOf [Value.int (a : Int) ta, Value.int (b : Int) tb, Value.int (c : Int) tc].toArray n1) :: (r2, listOf [Value.int (d : Int) td, Value.int (e : Int) te, Value.int (f : Int) tf].toArray n2) :: (r3, listOf [Value.int (g : Int) tg, Value.int (h : Int) th, Value.int (k : Int) tz].toArray n3) :: news) (fun k => [(Str.ofString "rows", .ref D), (Str.ofString "total", .int (k.1 : Int) k.2)])
    (fun i z => z.1 = [0, 0 ^^^ mul a (det2 e f h k), (0 ^^^ mul a (det2 e f h k)) ^^^ mul d (det2 b c h k), det3 a b c d e f g h k].getD i 0) (0, _) ?xh ?xr ?xs ?xn ?xF ?xN ?xk ?x0 ?turn ?done
  case xh => exact rfl
  case xr => assumption
  case xs => decide
  case xn => rfl
  case xF => exact lF'
  case xN => exact lN'
  case xk => kst_all
  case x0 => exact rfl
  case turn =>
    clear lF' lN'
    rintro i t ⟨p, tp⟩ u hp tk2 I it hi2 hI h1 F N
    dsimp only at h1 F N ⊢
    rcases (by omega : i = 0 ∨ i = 1 ∨ i = 2) with rfl | rfl | rfl
    · replace h1 : p = 0 := h1
      subst h1
      rw [show ((0 : Nat) : Int) = 0 from rfl]
      (try k_fold)
      walk_at "mine run"
      rename News _ _ _ _ => lN'
      refine TEnd.intro (_, _) (by assumption) lN' (fun p hp => by repeat (first | exact hp | refine List.Mem.tail _ ?_)) (fun p hp => by rw [List.mem_singleton.mp hp]; k_mem) (off_same hI) (by kst_all) rfl
    · replace h1 : p = 0 ^^^ mul a (det2 e f h k) := h1
      subst h1
      rw [show ((1 : Nat) : Int) = 1 from rfl]
      (try k_fold)
      walk_at "mine run"
      rename News _ _ _ _ => lN'
      refine TEnd.intro (_, _) (by assumption) lN' (fun p hp => by repeat (first | exact hp | refine List.Mem.tail _ ?_)) (fun p hp => by rw [List.mem_singleton.mp hp]; k_mem) (off_same hI) (by kst_all) rfl
    · replace h1 : p = (0 ^^^ mul a (det2 e f h k)) ^^^ mul d (det2 b c h k) := h1
      subst h1
      rw [show ((2 : Nat) : Int) = 2 from rfl]
      (try k_fold)
      walk_at "mine run"
      rename News _ _ _ _ => lN'
      refine TEnd.intro (_, _) (by assumption) lN' (fun p hp => by repeat (first | exact hp | refine List.Mem.tail _ ?_)) (fun p hp => by rw [List.mem_singleton.mp hp]; k_mem) (off_same hI) (by kst_all) rfl
  case done =>
    clear lF' lN'
    rintro ⟨p, tp⟩ u hp tk2 h1 F N
    dsimp only at h1 F N ⊢
    replace h1 : p = det3 a b c d e f g h k := h1
    subst h1
    (try k_fold)
    walk_at "mine steps"
    rename News h₀ _ _ _ => kN
    exact hret _ _ _ (by assumption) (fun p hp => kN p (.tail _ (.tail _ (.tail _ (.tail _ hp)))))
end
end
end
section
inductive MatAre (news : List (Addr × Obj)) : List Value → List (List Nat) → Prop
  | nil : MatAre news [] []
  | cons {a n : Nat} {vs : List Value} {row : List Nat} {rs : List Value} {M : List (List Nat)} (h : (a, listOf vs.toArray n) ∈ news) (hi : IntsAre vs (row.map fun k : Nat => (k : Int))) (t : MatAre news rs M) : MatAre news (.ref a :: rs) (row :: M)
theorem mul_lt {i j a b : Nat} (ha : a < 2 ^ i) (hb : b < 2 ^ j) : mul a b < 2 ^ (i + j) := pm_lt i ha hb (Nat.two_pow_pos _)
theorem det2_lt {a b c d : Nat} (ha : a < 2 ^ 20) (hb : b < 2 ^ 20) (hc : c < 2 ^ 20) (hd : d < 2 ^ 20) : det2 a b c d < 2 ^ 40 := by
  unfold det2
  exact Nat.xor_lt_two_pow (Nat.xor_lt_two_pow (by decide) (mul_lt ha hd)) (mul_lt hc hb)
theorem prod_lt {a b : Nat} (ha : a < 2 ^ 20) (hb : b < 2 ^ 40) : a * b < 2 ^ 60 :=
  Nat.lt_of_le_of_lt (Nat.mul_le_mul (Nat.le_of_lt ha) (Nat.le_pred_of_lt hb)) (by decide)
theorem prod_lt' {a b : Nat} (ha : a < 2 ^ 20) (hb : b < 2 ^ 20) : a * b < 2 ^ 60 := prod_lt ha (Nat.lt_of_lt_of_le hb (by decide))
theorem pow_bounds {x : Nat} (h : x < 32) : x < 2 ^ 20 ∧ mul x x < 2 ^ 20 ∧ mul (mul x x) (mul x x) < 2 ^ 20 := by
  have h1 : x < 2 ^ 5 := h
  have h2 : mul x x < 2 ^ 10 := mul_lt h1 h1
  exact ⟨Nat.lt_of_lt_of_le h1 (by decide), Nat.lt_of_lt_of_le h2 (by decide), mul_lt h2 h2⟩
theorem ints_cons {vs : List Value} {n : Int} {ns : List Int} (h : IntsAre vs (n :: ns)) : ∃ t us, vs = .int n t :: us ∧ IntsAre us ns := by
  cases h with
  | cons _ t h => exact ⟨t, _, rfl, h⟩
theorem ints_nil {vs : List Value} (h : IntsAre vs []) : vs = [] := by
  cases h; rfl
theorem mat_cons {news : List (Addr × Obj)} {rs : List Value} {row : List Nat} {M : List (List Nat)} (h : MatAre news rs (row :: M)) :
    ∃ a n vs us, rs = .ref a :: us ∧ (a, listOf (List.toArray vs) n) ∈ news ∧ IntsAre vs (row.map fun k : Nat => (k : Int)) ∧ MatAre news us M := by
  cases h with
  | cons h hi t => exact ⟨_, _, _, _, rfl, h, hi, t⟩
theorem mat_nil {news : List (Addr × Obj)} {rs : List Value} (h : MatAre news rs []) : rs = [] := by
  cases h; rfl
theorem ints1 {vs : List Value} {a : Nat} (h : IntsAre vs ([a].map fun k : Nat => (k : Int))) : ∃ t, vs = [.int (a : Int) t] := by
  obtain ⟨t, us, rfl, k⟩ := ints_cons h
  obtain rfl := ints_nil k
  exact ⟨t, rfl⟩
theorem ints2 {vs : List Value} {a b : Nat} (h : IntsAre vs ([a, b].map fun k : Nat => (k : Int))) : ∃ t u, vs = [.int (a : Int) t, .int (b : Int) u] := by
  obtain ⟨t, us, rfl, k⟩ := ints_cons h
  obtain ⟨u, rfl⟩ := ints1 (a := b) k
  exact ⟨t, u, rfl⟩
theorem ints3 {vs : List Value} {a b c : Nat} (h : IntsAre vs ([a, b, c].map fun k : Nat => (k : Int))) : ∃ t u v, vs = [.int (a : Int) t, .int (b : Int) u, .int (c : Int) v] := by
  obtain ⟨t, us, rfl, k⟩ := ints_cons h
  obtain ⟨u, v, rfl⟩ := ints2 (a := b) (b := c) k
  exact ⟨t, u, v, rfl⟩
section
variable (w : World) (mean : ExcName → Option Value) (mg mb : Str → Option Value) (news : List (Addr × Obj))
theorem clm_mono {d d' : Nat} {f : Addr} {vs : List Value} {R : Tok → Value} (h : Clm w mean mg mb d f news vs R) (hd : d ≤ d') : Clm w mean mg mb d' f news vs R := by
  intro dp un gd cn cs ad ccd cl outer A₀ base h₀ L m s Q E cB cF cX cN cT cK cD cU hret
  exact h _ _ _ _ _ _ _ _ _ _ _ _ _ _ _ _ _ cB cF cX cN cT cK (by omega) (by omega) hret
theorem detp_clm (D n : Nat) (rs : List Value) (ks : List Nat) (hD : (D, listOf rs.toArray n) ∈ news) (hM : MatAre news rs (ks.map (powL ks.length))) (hk : ks.length ≤ 3) (h32 : ∀ k ∈ ks, k < 32) :
    Clm w mean mg mb 14 286 news [.ref D] (fun t => .int (detF 3 (ks.map (powL ks.length)) : Nat) t) := by
  rcases ks with _ | ⟨x, _ | ⟨y, _ | ⟨z, _ | ⟨_, _⟩⟩⟩⟩
  · obtain rfl := mat_nil hM
    exact clm_mono w mean mg mb news (det0_clm w mean mg mb news D n hD) (by decide)
  · obtain ⟨_, _, _, _, rfl, h1, i1, k1⟩ := mat_cons hM
    obtain rfl := mat_nil k1
    obtain ⟨t1, rfl⟩ := ints1 (a := x) i1
    exact clm_mono w mean mg mb news (det1_clm w mean mg mb news D n _ _ x t1 hD h1) (by decide)
  · obtain ⟨_, _, _, _, rfl, h1, i1, k1⟩ := mat_cons hM
    obtain ⟨_, _, _, _, rfl, h2, i2, k2⟩ := mat_cons k1
    obtain rfl := mat_nil k2
    obtain ⟨t1, t2, rfl⟩ := ints2 (a := x) (b := mul x x) i1
    obtain ⟨t3, t4, rfl⟩ := ints2 (a := y) (b := mul y y) i2
    obtain ⟨x1, x2, x3⟩ := pow_bounds (h32 x (.head _))
    obtain ⟨y1, y2, y3⟩ := pow_bounds (h32 y (.tail _ (.head _)))
    exact clm_mono w mean mg mb news (det2_clm w mean mg mb news D n _ _ _ _ x (mul x x) y (mul y y) t1 t2 t3 t4 hD h1 h2 (prod_lt' x1 y2) (prod_lt' y1 x2)) (by decide)
  · obtain ⟨_, _, _, _, rfl, h1, i1, k1⟩ := mat_cons hM
    obtain ⟨_, _, _, _, rfl, h2, i2, k2⟩ := mat_cons k1
    obtain ⟨_, _, _, _, rfl, h3, i3, k3⟩ := mat_cons k2
    obtain rfl := mat_nil k3
    obtain ⟨t1, t2, t3, rfl⟩ := ints3 (a := x) (b := mul x x) (c := mul (mul x x) (mul x x)) i1
    obtain ⟨t4, t5, t6, rfl⟩ := ints3 (a := y) (b := mul y y) (c := mul (mul y y) (mul y y)) i2
    obtain ⟨t7, t8, t9, rfl⟩ := ints3 (a := z) (b := mul z z) (c := mul (mul z z) (mul z z)) i3
    obtain ⟨x1, x2, x3⟩ := pow_bounds (h32 x (.head _))
    obtain ⟨y1, y2, y3⟩ := pow_bounds (h32 y (.tail _ (.head _)))
    obtain ⟨z1, z2, z3⟩ := pow_bounds (h32 z (.tail _ (.tail _ (.head _))))
    exact det3_clm w mean mg mb news D n _ _ _ _ _ _ x _ _ y _ _ z _ _ t1 t2 t3 t4 t5 t6 t7 t8 t9 hD h1 h2 h3 (prod_lt' y2 z3) (prod_lt' z2 y3) (prod_lt' x2 z3) (prod_lt' z2 x3) (prod_lt' x2 y3) (prod_lt' y2 x3)
      (prod_lt x1 (det2_lt y2 y3 z2 z3)) (prod_lt y1 (det2_lt x2 x3 z2 z3)) (prod_lt z1 (det2_lt x2 x3 y2 y3))
  · exact absurd hk (by simp only [List.length_cons]; omega)
end
end
section
section
variable {prog : Program} {w : World} {A : Around} {h₀ : Heap} {L : Addr} {m : Str → Option Value} {env : Env}
/-- what an element's walk has to show where it leaves one object more on the ledger -/
noncomputable def GrEnd (h₀ : Heap) (L : Addr) (m : Str → Option Value) (I : Addr) (oI : Obj) (C : Addr) (oC : Obj) (D : Addr) (oD : Obj) (pre tl : List (Addr × Obj)) (s₁ : Shared) (Rl : Value → List (Addr × Obj) → Prop) (y : Value) (s₂ : Shared) : Prop :=
  ∃ h' tk e, s₂ = { s₁ with heap := h', toks := tk } ∧ Fr h₀ L h' m ∧ News h₀ L h' ((I, oI) :: (C, oC) :: (D, oD) :: e :: (pre ++ tl)) ∧ (@Ne Nat e.1 I ∧ @Ne Nat e.1 C ∧ @Ne Nat e.1 D) ∧ Rl y (e :: tl)
theorem GrEnd.intro {I C D : Addr} {oI oC oD : Obj} {pre tl : List (Addr × Obj)} {s₁ : Shared} {Rl : Value → List (Addr × Obj) → Prop} {y : Value} {h' : Heap} {tk : Nat} {all : List (Addr × Obj)} (e : Addr × Obj) (F : Fr h₀ L h' m) (N : News h₀ L h' all)
    (sub : ∀ p ∈ (I, oI) :: (C, oC) :: (D, oD) :: e :: (pre ++ tl), p ∈ all) (ne : @Ne Nat e.1 I ∧ @Ne Nat e.1 C ∧ @Ne Nat e.1 D) (r : Rl y (e :: tl)) : GrEnd h₀ L m I oI C oC D oD pre tl s₁ Rl y { s₁ with heap := h', toks := tk } :=
  ⟨h', tk, e, rfl, F, fun p hp => N p (sub p hp), ne, r⟩
theorem restU_grow {elt : Expr} {x : Str} {scope : Scope} {cl : List (Str × Addr)} {s : Shared} {S : List (Addr × Obj) → Prop} {P : Nat → Value → Prop} {Fin : List Value → List (Addr × Obj) → Prop} (pre tl0 : List (Addr × Obj)) (Rl : Nat → Value → List (Addr × Obj) → Prop)
    (hmono : ∀ i y e l, Rl i y l → Rl i y (e :: l)) (hS : ∀ tl, S (pre ++ tl))
    (hel : ∀ i v, P i v → ∀ tl, (∀ p ∈ tl0, p ∈ tl) → ∀ ys I oI C oC D m₂ h tk (E' : Value → Shared → Prop), LCg.NsObj oC m₂ → m₂ x = some v → Fr h₀ L h m → News h₀ L h ((I, oI) :: (C, oC) :: (D, LCg.lst ys) :: (pre ++ tl)) → LCg.Off3 I C D (pre ++ tl) → ((@Ne Nat I C) ∧ (@Ne Nat I D) ∧ (@Ne Nat C D)) →
      wpAny (model prog w) A (eval elt (compEnvC scope cl C env)) (GrEnd h₀ L m I oI C oC D (LCg.lst ys) pre tl { s with heap := h, toks := tk } (Rl i)) E' { s with heap := h, toks := tk }) :
    ∀ (k i : Nat) (ys : List Value) (tl : List (Addr × Obj)), (∀ p ∈ tl0, p ∈ tl) → ys.length = i → (∀ (j : Nat) y, ys[j]? = some y → Rl j y tl) → (∀ zs tl', zs.length = i + k → (∀ (j : Nat) y, zs[j]? = some y → Rl j y tl') → Fin zs (pre ++ tl')) → LCg.CompRest prog w A h₀ L m env elt x scope cl s S P Fin k i ys (pre ++ tl)
  | 0, i, ys, tl, _, h1, h2, hF => hF ys tl (by omega) h2
  | k + 1, i, ys, tl, ht, h1, h2, hF => by
    refine LCg.CompRest.succ ?_
    intro v I oI C oC D m₂ h tk E' hv n1 n2 F N off ne
    refine wpAny_mono (hel i v hv tl ht ys I oI C oC D m₂ h tk E' n1 n2 F N off ne) (fun y s' hy => ?_) fun _ _ e => e
    obtain ⟨h', tk', e, rfl, F', N', nee, r⟩ := hy
    refine LCg.CompEnd.intro F' N' (pre ++ (e :: tl)) (fun p hp => ?_) (LCg.Off3.of fun p hp => ?_) (hS _) ?_
    · simp only [List.mem_cons, List.mem_append] at hp ⊢
      rcases hp with q | q | q | q | q | q <;> simp only [q, true_or, or_true]
    · rcases List.mem_append.mp hp with hp | hp
      · exact off.mem p (List.mem_append_left _ hp)
      · rcases List.mem_cons.mp hp with rfl | hp
        · exact nee
        · exact off.mem p (List.mem_append_right _ hp)
    refine restU_grow pre tl0 Rl hmono hS hel k (i + 1) (ys ++ [y]) (e :: tl) (fun p hp => .tail _ (ht p hp)) (by rw [List.length_append, h1]; rfl) ?_ (fun zs tl' hz => hF zs tl' (by omega))
    intro j z hz
    by_cases hj : j < ys.length
    · rw [List.getElem?_append_left hj] at hz; exact hmono _ _ _ _ (h2 j z hz)
    · rw [List.getElem?_append_right (by omega)] at hz
      have hj' : j = i := by
        by_cases q : j - ys.length = 0
        · omega
        · rw [List.getElem?_eq_none (by simp; omega)] at hz; cases hz
      subst hj'
      rw [show j - ys.length = 0 by omega] at hz
      cases hz
      exact r
end
theorem mat_of {tl : List (Addr × Obj)} {f : Nat → List Nat} : ∀ {zs : List Value} {ks : List Nat}, zs.length = ks.length → (∀ (j : Nat) y, zs[j]? = some y → ∃ a n vs k, y = .ref a ∧ (a, listOf vs.toArray n) ∈ tl ∧ IntsAre vs ((f k).map fun z : Nat => (z : Int)) ∧ ks[j]? = some k) → MatAre tl zs (ks.map f)
  | [], [], _, _ => .nil
  | z :: zs, k :: ks, hl, h => by
    obtain ⟨a, n, vs, k', rfl, h1, h2, h3⟩ := h 0 z rfl
    cases h3
    refine .cons h1 h2 (mat_of (by simpa using hl) fun j y hy => ?_)
    have := h (j + 1) y (by simpa using hy)
    simpa using this
theorem MatAre.mono {l l' : List (Addr × Obj)} (k : ∀ p ∈ l, p ∈ l') {rs M} (h : MatAre l rs M) : MatAre l' rs M := by
  induction h with
  | nil => exact .nil
  | cons h i _ ih => exact .cons (k _ h) i ih
end
section
local macro_rules | `(tactic| walk_at "call builtin:str.upper") => `(tactic| (k_here; (with_reducible show wpAny _ _ (call (Value.builtin "str.upper") [Value.str (nmS _ _) _]) _ _ _); refine upper_call (by assumption) ?_; intro _ _))
local macro_rules | `(tactic| walk_at "call builtin:len") => `(tactic| (k_here; (with_reducible show wpAny _ _ (call (Value.builtin "len") [Value.ref _]) _ _ _); (with_reducible rename News _ _ _ _ => N'); refine len_led N' (by first | assumption | (refine List.mem_cons_of_mem _ ?_; assumption)) (by assumption) ?_; intro _ _))
local macro_rules | `(tactic| walk_at "mine call") => `(tactic| (k_here; (with_reducible show wpAny _ _ (call (Value.ref 227) [Value.str (sqS _) _]) _ _ _); refine' Clm.use1 (number_sq _ _ _ _ _ _ ?kx _) ?k ?_; walk_at "mine k"; walk_at "mine kx"; walk_at "mine used"))
local macro_rules | `(tactic| walk_at "mine call") => `(tactic| (k_here; (with_reducible show wpAny _ _ (call (Value.ref 227) [Value.str (sq2S _) _]) _ _ _); refine' Clm.use1 (number_sq2 _ _ _ _ _ _ ?kx _) ?k ?_; walk_at "mine k"; walk_at "mine kx"; walk_at "mine used"))
local macro_rules | `(tactic| walk_at "mine call") => `(tactic| (k_here; (with_reducible show wpAny _ _ (call (Value.ref 241) [Value.str (sqS _) _]) _ _ _); refine' Clm.use1 (square_sq2 _ _ _ _ _ _ ?kx _) ?k ?_; walk_at "mine k"; walk_at "mine kx"; walk_at "mine used"))
local macro_rules | `(tactic| ktr_room) => `(tactic| (show callerA.depth + 1 + _ < recursionLimit; decide +kernel))
local macro_rules | `(tactic| ktr_units) => `(tactic| (show callerA.units + 3 + _ < cLine; decide +kernel))
local macro_rules | `(tactic| walk_at "mine stop") => `(tactic| with_reducible first
  | show wpAny _ _ (exec (Stmt.Assign _ (Expr.ListComp _ _ _ _) _) _) _ _ _
  | show wpAny _ _ (eval (Expr.ListComp _ _ _ _) _) _ _ _
  | show LCg.CompSrc _ _ _ _ _ _ _ _ _ _ _ _ _ _
  | show wpAny _ _ (call (Value.ref 262) _ _) _ _ _
  | show wpAny _ _ (subscriptTail _ _ (Value.ref _) (Value.ref _)) _ _ _)
theorem off1_of {D : Addr} : ∀ {l : List (Addr × Obj)}, (∀ p ∈ l, p.1 ≠ D) → LCg.Off1 D l
  | [], _ => trivial
  | p :: _, h => ⟨h p (.head _), off1_of fun q hq => h q (.tail _ hq)⟩
theorem allLt_of {D : Addr} : ∀ {l : List (Addr × Obj)}, (∀ p ∈ l, p.1 < D) → AllLt D l
  | [], _ => trivial
  | p :: _, h => ⟨h p (.head _), allLt_of fun q hq => h q (.tail _ hq)⟩
theorem heardN_lt {cs : List Nat} {x : Nat} (h : x ∈ cs.map heardN) : x < 32 := by
  obtain ⟨c, _, rfl⟩ := List.mem_map.mp h
  unfold heardN
  have h1 : c % 8 ≤ 7 := by omega
  rcases Nat.mod_two_eq_zero_or_one (c / 8) with h | h <;> rw [h] <;> omega
theorem ents_pick {news : List (Addr × Obj)} {rs : List Value} {es : List (Nat × Bool)} (h : EntsAre news rs es) : ∃ t2, EntsAre t2 rs es ∧ (∀ p ∈ t2, p ∈ news) ∧ ∀ p ∈ t2, ∃ a n, p.2.data = .seq a n := by
  induction h with
  | nil => exact ⟨[], .nil, (fun _ h => nomatch h), (fun _ h => nomatch h)⟩
  | cons h0 _ ih =>
    obtain ⟨a, t1, u1, n, e1, e2, e3⟩ := h0
    obtain ⟨t2, k1, k2, k3⟩ := ih
    refine ⟨_ :: t2, .cons ⟨a, t1, u1, n, e1, .head _, e3⟩ (k1.mono fun _ _ _ q => .tail _ q), fun p hp => ?_, fun p hp => ?_⟩
    · rcases List.mem_cons.mp hp with rfl | hp
      · exact e2
      · exact k2 p hp
    · rcases List.mem_cons.mp hp with rfl | hp
      · exact ⟨_, _, rfl⟩
      · exact k3 p hp
theorem law_led {h₀ h : Heap} {L l Dk : Addr} {c : LaySt} {e5 ex ed e4 e9 em eD eq ek et es : Addr × Obj} {t2 : List (Addr × Obj)} (N : News h₀ L h (LaySt.led l Dk [e5, ex, ed, e4, e9, em, eD, eq, ek, et, es] c)) (ht : ∀ p ∈ t2, p ∈ c.tups) :
    News h₀ L h (ek :: (l, listOf c.rs.toArray c.nl) :: (Dk, listOf c.kv.toArray c.nk) :: e5 :: ex :: ed :: e9 :: et :: t2) := fun p hp => N p (by
  simp only [LaySt.led, List.mem_cons, List.mem_append] at hp ⊢
  rcases hp with h | h | h | h | h | h | h | h | h
  · simp only [h, true_or, or_true]
  · simp only [h, true_or, or_true]
  · simp only [h, true_or, or_true]
  · simp only [h, true_or, or_true]
  · simp only [h, true_or, or_true]
  · simp only [h, true_or, or_true]
  · simp only [h, true_or, or_true]
  · simp only [h, true_or, or_true]
  · simp only [ht p h, true_or, or_true])
theorem data_off {h₀ h : Heap} {L : Addr} {ek p : Addr × Obj} {rest : List (Addr × Obj)} {v : Option Value} (N : News h₀ L h (ek :: rest)) (hk : ek.2.data = .cell v) (hp : p ∈ rest) (hd : p.2.data ≠ .cell v) : p.1 ≠ ek.1 := fun e => by
  have e1 := (N ek (.head _)).1
  have e2 := (N p (.tail _ hp)).1
  rw [e, e1] at e2
  exact hd ((congrArg Obj.data (Option.some.inj e2)).symm.trans hk)
theorem cell_off {h₀ h : Heap} {L kc tc l Dk D5 x d D9 dx : Addr} {ok ot : Obj} {a1 a2 a3 a4 : Array Value} {n1 n2 n3 n4 n5 C : Nat} {es : List DictEntry} {t2 : List (Addr × Obj)} {v : Option Value}
    (N : News h₀ L h ((kc, ok) :: (l, listOf a1 n1) :: (Dk, listOf a2 n2) :: (D5, listOf a3 n3) :: (x, instObj C dx) :: (d, dictOf es n5) :: (D9, listOf a4 n4) :: (tc, ot) :: t2)) (hk : ok.data = .cell v) (ho : @Ne Nat tc kc) (g3 : ∀ p ∈ t2, ∃ a n, p.2.data = .seq a n) :
    ∀ p ∈ (l, listOf a1 n1) :: (Dk, listOf a2 n2) :: (D5, listOf a3 n3) :: (x, instObj C dx) :: (d, dictOf es n5) :: (D9, listOf a4 n4) :: (tc, ot) :: t2, p.1 ≠ kc := fun p hp => by
  rcases List.mem_cons.mp hp with rfl | hp'
  · exact data_off N hk hp (by intro e; cases e)
  rcases List.mem_cons.mp hp' with rfl | hp'
  · exact data_off N hk hp (by intro e; cases e)
  rcases List.mem_cons.mp hp' with rfl | hp'
  · exact data_off N hk hp (by intro e; cases e)
  rcases List.mem_cons.mp hp' with rfl | hp'
  · exact data_off N hk hp (by intro e; cases e)
  rcases List.mem_cons.mp hp' with rfl | hp'
  · exact data_off N hk hp (by intro e; cases e)
  rcases List.mem_cons.mp hp' with rfl | hp'
  · exact data_off N hk hp (by intro e; cases e)
  rcases List.mem_cons.mp hp' with rfl | hp'
  · exact ho
  · exact data_off N hk hp (by obtain ⟨a, n, e⟩ := g3 p hp'; rw [e]; intro e; cases e)
theorem intsAre_get {tv : List Value} {xs : List Int} (h : IntsAre tv xs) : ∀ {i : Nat} {v : Value}, tv[i]? = some v → ∃ (x : Int) (t : Tok), v = .int x t ∧ xs[i]? = some x := by
  induction h with
  | nil => intro i v hv; rw [List.getElem?_nil] at hv; exact nomatch hv
  | cons n t _ ih =>
    intro i v hv
    cases i with
    | zero => cases hv; exact ⟨n, t, rfl, rfl⟩
    | succ i => rw [List.getElem?_cons_succ] at hv ⊢; exact ih hv
theorem strs2 {ys : List Value} {a b : Str} (h : StrsAre ys [a, b]) : ∃ t u, ys = [.str a t, .str b u] := by
  cases h with
  | cons _ t h => cases h with
    | cons _ u h => cases h; exact ⟨t, u, rfl⟩
local macro_rules | `(tactic| walk_at "mine call") => `(tactic| (k_here; (with_reducible show wpAny _ _ (call (Value.ref 248) _ _) _ _ _); refine' ClmL.use1 (mail_clm _ _ _ _ _ _ _ _ _ ?hm ?hi ?hc ?hl) ?k ?_; walk_at "mine k"; (case k4 => k_asm); (case hm => k_mem); (case hi => assumption); (case hc => assumption); (case hl => assumption); walk_at "mine ks"; intro D9 n9 ys9 h9 tk9 p9 F9 N9 o9; (replace o9 := off1_of o9); (try simp only [LCg.Off1, and_true] at o9); (obtain ⟨tm9, tu9, e9⟩ := strs2 p9; subst e9); (try dsimp only); (try k_fold)))
theorem heard0 {c : Nat} (h : ((c : Int).fdiv 8).fmod 2 = 0) : (c : Int).fmod 8 * 1 = ((heardN c : Nat) : Int) := by
  rw [show (c : Int).fdiv 8 = ((c / 8 : Nat) : Int) from fdiv_nat c 8, show ((c / 8 : Nat) : Int).fmod 2 = ((c / 8 % 2 : Nat) : Int) from fmod_nat (c / 8) 2] at h
  rw [show (c : Int).fmod 8 = ((c % 8 : Nat) : Int) from fmod_nat c 8]
  have h2 : c / 8 % 2 = 0 := by omega
  unfold heardN
  rw [h2]; simp
theorem heard1 {c : Nat} (h : ((c : Int).fdiv 8).fmod 2 = 1) : (c : Int).fmod 8 * 4 = ((heardN c : Nat) : Int) := by
  rw [show (c : Int).fdiv 8 = ((c / 8 : Nat) : Int) from fdiv_nat c 8, show ((c / 8 : Nat) : Int).fmod 2 = ((c / 8 % 2 : Nat) : Int) from fmod_nat (c / 8) 2] at h
  rw [show (c : Int).fmod 8 = ((c % 8 : Nat) : Int) from fmod_nat c 8]
  have h2 : c / 8 % 2 = 1 := by omega
  unfold heardN
  rw [h2]; simp
section
variable (w : World) (mean : ExcName → Option Value) (mg mb : Str → Option Value) (news : List (Addr × Obj))
theorem quote_mail_clm (c : List Nat) (h : c.length ≤ 8) (tx : Tok) : Clm w mean mg mb 4 83 news [.str ⟨(mailL c).toArray⟩ tx] (fun t => .str ⟨(dueL c).toArray⟩ t) := by
  have h1 : (⟨(mailL c).toArray⟩ : Str).cps.toList = mailL c := List.toList_toArray ..
  have q := quote_clm w mean mg mb news ⟨(mailL c).toArray⟩ (by
      show (mailL c).toArray.size ≤ 1000
      have := mail_len c
      rw [List.size_toArray]; omega) (by
      rw [h1, nl_mail]
      show (midL c).toArray.size ≤ 1000
      have := mid_len c
      rw [List.size_toArray]; omega) tx
  rw [h1, quote_mail] at q
  exact q
end
local macro_rules | `(tactic| walk_at "assign Tuple") => `(tactic| (k_here; (with_reducible rename Fr _ _ _ _ => F'); (with_reducible rename News _ _ _ _ => N'); k_dflt (refine unpack_list F' N' (by k_mem) rfl rfl rfl ?_); intro h' tk' F' N'))
local macro_rules | `(tactic| walk_at "mine call") => `(tactic| (k_here; (with_reducible show wpAny _ _ (call (Value.ref 83) _ _) _ _ _); refine' Clm.use1 (quote_mail_clm _ _ _ _ _ _ ?kx _) ?k ?_; walk_at "mine k"; (case kx => assumption); walk_at "mine used"))
local macro_rules | `(tactic| walk_at "mine call") => `(tactic| (k_here; (with_reducible show wpAny _ _ (call (Value.ref 255) _ _) _ _ _); refine' ClmL.use1 (heard_clm _ _ _ _ _ _ ?hl _) ?k ?_; walk_at "mine k"; (case k4 => k_asm); (case hl => assumption); walk_at "mine ks"; intro D9 n9 ys9 h9 tk9 p9 F9 N9 o9; (replace o9 := off1_of o9); (try simp only [LCg.Off1, and_true] at o9); (try dsimp only); (try k_fold)))
local macro_rules | `(tactic| walk_at "mine call") => `(tactic| (k_here; (with_reducible show wpAny _ _ (call (Value.ref 267) _ _) _ _ _); refine' ClmL.use1 (sums_clm _ _ _ _ _ _ _ _ _ ?hm ?hi ?hc ?hl) ?k ?_; walk_at "mine k"; (case k4 => k_asm); (case hm => k_mem); (case hi => assumption); (case hc => assumption); (case hl => assumption); walk_at "mine ks"; intro D9 n9 ys9 h9 tk9 p9 F9 N9 o9; (replace o9 := off1_of o9); (try simp only [LCg.Off1] at o9); (try dsimp only); (try k_fold)))
local macro_rules | `(tactic| walk_at "mine ents") => `(tactic| ((refine' EntsAre.mono ?m1 ?m2; (case m2 => assumption); (case m1 => (intro _ _ _ h; repeat (first | exact h | refine List.Mem.tail _ ?_))))))
local macro_rules | `(tactic| walk_at "mine call") => `(tactic| (k_here; (with_reducible show wpAny _ _ (call (Value.ref 168) _ _) _ _ _); refine' ClmL.use1 (keys_clm _ _ _ _ _ _ _ _ _ _ _ _ _ ?hx ?hd ?hl ?he ?hz) ?k ?_; walk_at "mine k"; (case k4 => k_asm); (case hx => k_mem); (case hd => k_mem); (case hl => k_mem); (case he => walk_at "mine ents"); (case hz => assumption); walk_at "mine ks"; intro D9 n9 ys9 h9 tk9 p9 F9 N9 o9; (replace o9 := off1_of o9); (try simp only [LCg.Off1] at o9); (try dsimp only); (try k_fold)))
local macro_rules | `(tactic| walk_at "mine call") => `(tactic| (k_here; (with_reducible show wpAny _ _ (call (Value.ref 173) _ _) _ _ _); refine' ClmL.use1 (values_clm _ _ _ _ _ _ _ _ _ _ _ _ _ ?hx ?hd ?hl ?he ?hz) ?k ?_; walk_at "mine k"; (case k4 => k_asm); (case hx => k_mem); (case hd => k_mem); (case hl => k_mem); (case he => walk_at "mine ents"); (case hz => assumption); walk_at "mine ks"; intro D9 n9 ys9 h9 tk9 p9 F9 N9 o9; (replace o9 := off1_of o9); (try simp only [LCg.Off1] at o9); (try dsimp only); (try k_fold)))
theorem getD_cast (l : List Nat) (n : Nat) : (l.map fun k : Nat => (k : Int)).getD n 0 = ((l.getD n 0 : Nat) : Int) := by
  rw [List.getD_eq_getElem?_getD, List.getD_eq_getElem?_getD, List.getElem?_map]
  cases l[n]? <;> rfl
theorem getD_lt (l : List Nat) (n : Nat) (h : ∀ x ∈ l, x < 32) : l.getD n 0 < 32 := by
  rw [List.getD_eq_getElem?_getD]
  cases e : l[n]? with
  | none => decide
  | some x => exact h x (List.mem_of_getElem? e)
inductive Split : List (Addr × Obj) → List (Addr × Obj) → List (Addr × Obj) → Prop
  | nil {tl : List (Addr × Obj)} : Split tl [] tl
  | cons {a : Addr × Obj} {l p tl : List (Addr × Obj)} (h : Split l p tl) : Split (a :: l) (a :: p) tl
theorem Split.eq {l p tl : List (Addr × Obj)} (h : Split l p tl) : l = p ++ tl := by
  induction h with
  | nil => rfl
  | cons _ ih => rw [ih]; rfl
theorem comp_split {prog : Program} {w : World} {A : Around} {h₀ : Heap} {L : Addr} {m : Str → Option Value} {env : Env} {elt : Expr} {x : Str} {scope : Scope} {cl : List (Str × Addr)} {s : Shared} {S : List (Addr × Obj) → Prop} {P : Nat → Value → Prop} {Fin : List Value → List (Addr × Obj) → Prop}
    {k i : Nat} {ys : List Value} {news pre : List (Addr × Obj)} (tl : List (Addr × Obj)) (e : Split news pre tl) (h : LCg.CompRest prog w A h₀ L m env elt x scope cl s S P Fin k i ys (pre ++ tl)) : LCg.CompRest prog w A h₀ L m env elt x scope cl s S P Fin k i ys news := by
  rw [e.eq]; exact h
theorem sub_gr {x y z e f : Addr × Obj} {r : List (Addr × Obj)} : ∀ p ∈ x :: y :: z :: e :: r, p ∈ e :: f :: x :: y :: z :: r := fun p hp => by
  simp only [List.mem_cons] at hp ⊢
  rcases hp with h | h | h | h | h <;> simp only [h, true_or, or_true]
theorem powL_take {n k : Nat} (h : n ≤ 3) : (powL 3 k).take n = powL n k := by
  unfold powL
  rw [List.take_take, Nat.min_eq_left h]
local macro_rules | `(tactic| walk_at "call builtin:len") => `(tactic| (k_here; (with_reducible show wpAny _ _ (call (Value.builtin "len") [Value.ref _]) _ _ _); (with_reducible rename News _ _ _ _ => N'); refine len_led N' (by k_mem) (by assumption) ?_; intro _ _))
local macro_rules | `(tactic| walk_at "mine call") => `(tactic| (k_here; (with_reducible show wpAny _ _ (call (Value.ref 274) _ _) _ _ _); refine' ClmL.use1 (powers_clm _ _ _ _ _ _ _ _ _ _ _ _ _ ?hx ?hd ?hl ?he _ ?hy ?hin _) ?k ?_; walk_at "mine k"; (case k4 => k_asm); (case hx => k_mem); (case hd => k_mem); (case hl => k_mem); (case he => walk_at "mine ents"); (case hy => assumption); (case hin => assumption); walk_at "mine ks"; intro D9 n9 ys9 h9 tk9 p9 F9 N9 o9; (replace o9 := off1_of o9); (try simp only [LCg.Off1] at o9); (try dsimp only); (try k_fold)))
local macro_rules | `(tactic| walk_at "mine call") => `(tactic| (k_here; (with_reducible show wpAny _ _ (call (Value.ref 293) _ _) _ _ _); refine' Clm.use1 (all_clm _ _ _ _ _ _ _ _ _ ?qaM ?qaI ?qaQ ?qaL _ _ ?qaA ?qaX _) ?k ?_; walk_at "mine k"; (case k4 => k_asm); (case qaM => k_mem); (case qaI => assumption); (case qaQ => assumption); (case qaL => assumption); (case qaA => first | exact (rfl : (0 : Int) = ((0 : Nat) : Int)) | exact rfl | assumption); (case qaX => first | assumption | decide | omega); walk_at "mine used2"))
local macro_rules | `(tactic| walk_at "mine call") => `(tactic| (k_here; (with_reducible show wpAny _ _ (call (Value.ref 286) _ _) _ _ _); refine' Clm.use1 (detp_clm _ _ _ _ _ _ _ _ _ ?qaD ?qaN ?qaK ?qaQ) ?k ?_; walk_at "mine k"; (case k4 => k_asm); (case qaD => k_mem); (case qaN => (refine' MatAre.mono ?m1 ?m2; (case m2 => assumption); (case m1 => (intro _ h; repeat (first | exact h | refine List.Mem.tail _ ?_))))); (case qaK => assumption); (case qaQ => assumption); walk_at "mine used2"))
theorem holds : PySem.Challenge.rw_wj0041_01.Holds := by
  w_on
  refine holds_law hd.said fun said => ?_
  refine PySem.W.holds_open (q := hd.view_39) (loose := [Str.ofString "_twin_re_1", Str.ofString "_twin_re_2", Str.ofString "_name_disallowed_re", Str.ofString "_value_disallowed_re"]) (Xt := fun s => xlAt hd.view_39 [] s && recOk PySem.Challenge.rw_wj0041_01.row.records s) (XP := XL hd.view_39 [])
    (Yf := Hook.obs (kHook hd.heap_39 hd.ads hd.ads_eq)) (Ya := Hook.val (kHook hd.heap_39 hd.ads hd.ads_eq)) (YP := Hook.says (kHook hd.heap_39 hd.ads hd.ads_eq)) (N := 3368) hd.left (Hook.of (kHook hd.heap_39 hd.ads hd.ads_eq)) (Hook.keeps (kHook hd.heap_39 hd.ads hd.ads_eq)) (fun s e => xl_of s (Bool.and_eq_true_iff.mp e).1) XL.keeps (by rfl) (by rfl) (by rfl) (fun s e => recFacts_of (Bool.and_eq_true_iff.mp e).2) (by rfl) said (by decide +kernel) ⟨rfl, rfl, rfl, rfl, rfl, by decide +kernel⟩ ?hw ?hc
  case hw => w_witness2
  clear said
  w_strict (
    k_fill
    intro zw zs0 zs1 zmg zmb zG zY zfa zo zpm zcd zdoc zdV zkV zho zhd zhcd zhD zhmg zhg zargs zvals zas zhpre zhlay zhrd zhwl zhlo
    have zKX := kIn_of zY
    have zX := (Ground.X zG).1
    have zV := (Ground.X zG).2
    refine Ground.open zG ?_
    intro zT zB zD zTE zTW
    try (refine guard_noD zD (by decide +kernel) ?_; clear zD)
    obtain ⟨_, _, zM⟩ := bmod_of_top zT
    have zTA := at_of_top zT
    try (obtain ⟨_, _, zhe, zB0⟩ := based_of_top zT rfl zhmg zho zhd; have zhe' : zcd = _ := zhe; subst zhe'; clear zhe)
    clear zhmg
    wrow_args zhpre zhlay zhrd zhwl zhlo
    all_goals (
      first | refine callC_kw (enter_call ?_) | refine enter_call ?_ | refine callC_kw (enter_callW ?_) | refine enter_callW ?_
      w_top on
      try refine codeAny_mono ?_ (fun _ _ g => GoodW.toG g)
      have zK0 := below_caller (Top.heap zT)
      w_call any zho zhd zhcd zhD zT zF
      clear zhd zTA
      k_drop
      skip))
  all_goals (try k_fold)
  walk_at "mine steps"
  k_here
  k_dflt (refine assign_ecomp (_F₀ := by k_asm) (by with_unfolding_all rfl) (by with_unfolding_all rfl) (by with_unfolding_all rfl) (by decide) (by rfl) (by decide) (by rfl) (by rfl) (by decide) (by rfl) (by rfl) ?_ (by intro _; with_unfolding_all rfl))
  walk_at "mine steps"
  rename Fr _ _ _ _ => F1
  rename News _ _ _ _ => N1
  refine enum_src (fun _ y => ∃ (c : Nat) (t : Tok), y = .int (c : Int) t ∧ c < 2 ^ 15) F1 N1 (by k_mem) (by rfl) (by rw [sizeLine_eq]; exact Nat.le_of_ble_eq_true rfl) ?_ ?_
  · intro e it g i v hv t ys oe oi C oC D m₂ h tk E' n1 n2 n3 F N
    have hi5 : i < 5 := (List.getElem?_eq_some_iff.mp hv).1
    have hv2 : ∃ (b : Nat) (t : Tok), v = .int (b : Int) t ∧ b < 100 := by
      rcases (by omega : i = 0 ∨ i = 1 ∨ i = 2 ∨ i = 3 ∨ i = 4) with rfl | rfl | rfl | rfl | rfl <;> cases hv
      · exact ⟨29, _, rfl, by decide⟩
      · exact ⟨86, _, rfl, by decide⟩
      · exact ⟨99, _, rfl, by decide⟩
      · exact ⟨71, _, rfl, by decide⟩
      · exact ⟨42, _, rfl, by decide⟩
    obtain ⟨b, tb, rfl, hb⟩ := hv2
    clear F1 N1
    (try k_fold)
    walk_at "mine steps"
    k_here
    k_dflt (refine LCg.ListComp_U (F₀ := by k_asm) (by with_unfolding_all rfl) (by decide) (by rfl) (by decide) (by rfl) ?_ (by intro _; with_unfolding_all rfl))
    walk_at "mine steps"
    rename IntsAre _ _ => hns
    have hnl := ints_len hns
    rename Fr _ _ _ _ => F1
    rename News _ _ _ _ => N1
    k_here
    k_dflt (refine' temp_slice (lo := some (i : Int)) (hi := some 20) (st := some 5) F1 N1 ?xl ?xp ?xq ?xk (by decide) rfl ?_ ?xs ?xz)
    case xl => kmk_list
    case xp => kmk_part
    case xq => kmk_part
    case xk => kmk_part
    case xs => with_unfolding_all rfl
    case xz => rw [List.size_toArray, hnl, sizeLine_eq]; omega
    have hpk := hns.pick (some (i : Int)) (some 20) (some 5)
    intro D2 h2 F2 N2 l2
    clear F1 N1
    (try dsimp only)
    (try k_fold)
    walk_at "mine steps"
    generalize hpe : pickNums _ (some (i : Int)) (some 20) (some 5) = ps at hpk
    have hpl : ps.length ≤ 4 := by rw [← hpe]; exact pick_len _ _
    generalize hze : (slicePick _ (some (i : Int)) (some 20) (some 5)).toList = zv at hpk N2 ⊢
    have hzl := ints_len hpk
    refine LCg.CompSrc.ledger ?xh F2 N2 (.head _) (by rw [List.size_toArray, sizeLine_eq]; omega) (fun g2 => ?_)
    case xh => exact rfl
    refine restU_go (fun j y => ∃ (t : Tok) (z : Int), y = .int (z.fmod 4096) t ∧ ps[j]? = some z) (.inr ⟨_, .head _, rfl, _, rfl⟩) ?_ _ 0 [] rfl (fun j y h => nomatch h) ?_
    · intro j vv hvv ys3 I3 oI3 C3 oC3 D3 m₃ h3 tk3 E3 r1 r2 F N off ne
      obtain ⟨z, tz, rfl, hzj⟩ := intsAre_get hpk (show zv[j]? = some vv by simpa using hvv)
      (try k_fold)
      walk_at "mine steps"
      exact ElEnd.intro F N (fun p hp => hp) ⟨_, z, rfl, hzj⟩
    · intro zs hsl hrel
      unfold LCg.FinE
      intro D4 h4 tk4 F' N' o1
      have hzi : IntsAre zs (ps.map (·.fmod 4096)) := by
        refine intsAre_of (by rw [List.length_map, hsl, Nat.zero_add, List.size_toArray, hzl]) fun j y hy => ?_
        obtain ⟨t, z, rfl, hzj⟩ := hrel j y hy
        exact ⟨t, _, rfl, by rw [List.getElem?_map, hzj]; rfl⟩
      obtain ⟨c, hc1, hc2⟩ := mod_sum ps
      (try dsimp only)
      (try k_fold)
      walk_at "mine steps"
      rename News _ _ _ _ => N6
      refine ElEnd.intro (by assumption) N6 (fun p hp => .tail _ (.tail _ hp)) ?_
      rw [hc1]
      exact ⟨b + c, _, rfl, by omega⟩
  · intro D h tk zs hzl hzr F N o1
    replace o1 := off1_of o1
    simp only [LCg.Off1, and_true] at o1
    obtain ⟨cs0, hcs, hcl, hcb⟩ := cells_of hzr
    rw [hzl] at hcl
    have hc5 : cs0.length = 5 := hcl
    have hc8 : cs0.length ≤ 8 := by omega
    clear hzr F1 N1
    (try dsimp only)
    (try k_fold)
    walk_at "mine steps"
    · exfalso
      rename (_ != _) = true => hq
      simp at hq
    rename IntsAre _ (List.map _ (cs0.map heardN)) => htold
    k_here
    k_dflt (refine LCg.ListComp_U (F₀ := by k_asm) (by with_unfolding_all rfl) (by decide) (by rfl) (by decide) (by rfl) ?_ (by intro _; with_unfolding_all rfl))
    walk_at "mine steps"
    rename Fr _ _ _ _ => F1
    rename News _ _ _ _ => N1
    refine LCg.CompSrc.ledger ?xh F1 N1 (by k_mem) (by rw [List.size_toArray, sizeLine_eq, ints_len hcs, List.length_map]; omega) (fun g2 => ?_)
    case xh => exact rfl
    refine restU_go (fun j y => ∃ (t : Tok) (c : Nat), y = .int ((heardN c : Nat) : Int) t ∧ cs0[j]? = some c) (.inr ⟨_, by k_mem, rfl, _, rfl⟩) ?_ _ 0 [] rfl (fun j y h => nomatch h) ?_
    · intro j vv hvv ys3 I3 oI3 C3 oC3 D3 m₃ h3 tk3 E3 r1 r2 F N off ne
      obtain ⟨c, tc, rfl, hcj⟩ := ints_nat_get hcs (show zs[j]? = some vv by simpa using hvv)
      (try k_fold)
      walk_at "mine steps"
      · rename (_ : Int) = 0 => hq
        rename News _ _ _ _ => N6
        refine ElEnd.intro (by assumption) N6 (fun p hp => .tail _ hp) ?_
        rw [heard0 hq]
        exact ⟨_, c, rfl, hcj⟩
      · rename (_ : Int) = 1 => hq
        rename News _ _ _ _ => N6
        refine ElEnd.intro (by assumption) N6 (fun p hp => .tail _ hp) ?_
        rw [heard1 hq]
        exact ⟨_, c, rfl, hcj⟩
    · intro zs2 hsl hrel
      clear F1 N1
      unfold LCg.FinE
      intro D4 h4 tk4 F' N' o1
      simp only [LCg.Off1, and_true] at o1
      have hzi : IntsAre zs2 ((cs0.map heardN).map fun k : Nat => (k : Int)) := by
        refine intsAre_of (by rw [List.length_map, List.length_map, hsl, Nat.zero_add, List.size_toArray, hzl, hc5]; rfl) fun j y hy => ?_
        obtain ⟨t, c, rfl, hcj⟩ := hrel j y hy
        exact ⟨t, _, rfl, by rw [List.getElem?_map, List.getElem?_map, hcj]; rfl⟩
      (try dsimp only)
      (try k_fold)
      walk_at "mine steps"
      walk1
      walk1
      walk1
      walk_at "mine steps"
      rename Fr _ _ _ _ => F1
      rename News _ _ _ _ => N1
      k_here
      have hk3 := kmk_upto htold (show (0 : Int) ≤ 3 by decide)
      have hyl := ints_len htold
      rw [List.length_map, List.length_map, hc5] at hyl
      rw [← List.map_take, show (3 : Int).toNat = 3 from rfl] at hk3
      k_dflt (refine' temp_slice (lo := none) (hi := some 3) (st := none) F1 N1 ?yl ?yp ?yq .none (by decide) rfl ?_ ?ys ?yz)
      case yl => kmk_list
      case yp => kmk_part
      case yq => kmk_part
      case ys => with_unfolding_all rfl
      case yz => rw [List.size_toArray, sizeLine_eq, hyl]; decide
      clear F1 N1
      intro D5 h5 F1 N1 l5
      replace l5 := allLt_of l5
      simp only [AllLt, and_true] at l5
      generalize (slicePick _ none (some 3) none).toList = tv at hk3 N1
      (try dsimp only)
      (try k_fold)
      walk_at "mine steps"
      rename Fr _ _ _ _ => F1
      rename News _ _ _ _ => N1
      have hxl : ((cs0.map heardN).take 3).length ≤ 3 := List.length_take_le _ _
      have hxs : ∀ x ∈ (cs0.map heardN).take 3, x < 32 := fun x hx => heardN_lt (List.mem_of_mem_take hx)
      refine' lay_use _ _ _ _ _ _ _ _ _ _ _ _ tv ((cs0.map heardN).take 3) _ ?hx ?hd ?ht hk3 hxs hxl ?hr _ _ _ _ _ _ _ _ _ _ _ _ _ _ ⟨_, _, _, _, _⟩ _ _ ?kB F1 ?kX (news_swap N1) ?kT rfl ?kD ?kU ?_
      case hx => k_mem
      case hd => k_mem
      case ht => k_mem
      case hr => repeat' (first | exact List.forall_mem_nil _ | refine List.forall_mem_cons.mpr ⟨by k_ne, ?_⟩)
      case kB => k_asm
      case kX => k_asm
      case kT => k_asm
      case kD => ktr_room
      case kU => ktr_units
      clear F1 N1
      intro Dk c h6 tk6 F1 N1 hok
      obtain ⟨c1, c2, c3, c4, c5⟩ := hok
      rw [List.take_length] at c1
      obtain ⟨f1, f2, f3, f4, f5, f6, f7⟩ := lay_facts c1 hxs hxl
      obtain ⟨t2, g1, g2, g3⟩ := ents_pick c3
      have N2 := law_led N1 g2
      clear N1 c3 c4 c5 g2
      k_here
      refine' storeX_C F1 N2 ?zc (.head (cell_off N2 ?zd ?zo g3)) ?zd2 ?_ ?za ?zb
      case zc => rfl
      case zd => assumption
      case zo => k_ne
      case zd2 => assumption
      case za => rfl
      case zb => rfl
      clear F1 N2
      intro h7 ok F1 N1 dk
      (try dsimp only at N1)
      (try dsimp only)
      (try k_fold)
      walk_at "mine steps"
      rename Fr _ _ _ _ => F1
      rename News _ _ _ _ => N1
      k_here
      have hk3 := kmk_upto htold (show (0 : Int) ≤ 3 by decide)
      rw [← List.map_take, show (3 : Int).toNat = 3 from rfl] at hk3
      k_dflt (refine' temp_slice (lo := none) (hi := some 3) (st := none) F1 N1 ?ul ?up ?uq .none (by decide) rfl ?_ ?us ?uz)
      case ul => kmk_list
      case up => kmk_part
      case uq => kmk_part
      case us => with_unfolding_all rfl
      case uz => rw [List.size_toArray, sizeLine_eq, hyl]; decide
      clear F1 N1
      intro D7 h7 F1 N1 l7
      replace l7 := allLt_of l7
      simp only [AllLt] at l7
      generalize (slicePick _ none (some 3) none).toList = tv2 at hk3 N1
      (try dsimp only)
      (try k_fold)
      walk_at "mine steps"
      rename IntsAre _ ((sumsL _).map _) => hsums
      have hel : c.es.length ≤ 8 := by
        have h1 := congrArg List.length f1
        rw [List.length_map] at h1
        omega
      have hrz : c.rs.length ≤ 1000 := by rw [g1.length]; omega
      have hrl := g1.length
      k_here
      k_dflt (refine LCg.ListComp_U (F₀ := by k_asm) (by with_unfolding_all rfl) (by decide) (by rfl) (by decide) (by rfl) ?_ (by intro _; with_unfolding_all rfl))
      walk_at "mine steps"
      rename Fr _ _ _ _ => F1
      rename News _ _ _ _ => N1
      rename StrsAre _ (c.es.map _) => hks
      have hkl := strs_len hks
      rw [List.length_map] at hkl
      refine LCg.CompSrc.ledger ?vh F1 N1 (by k_mem) (by rw [List.size_toArray, sizeLine_eq]; omega) (fun g2 => ?_)
      case vh => exact rfl
      refine restU_go (fun j y => ∃ (t : Tok) (e : Nat × Bool), y = .int ((e.1 : Nat) : Int) t ∧ c.es[j]? = some e) (.inr ⟨_, by k_mem, rfl, _, rfl⟩) ?_ _ 0 [] rfl (fun j y h => nomatch h) ?_
      · clear F1 N1
        intro j vv hvv ys3 I3 oI3 C3 oC3 D3 m₃ h3 tk3 E3 r1 r2 F N off ne
        obtain ⟨e, te, rfl, hej⟩ := strs_get hks (show _ = some vv by simpa using hvv)
        have he32 : e.1 < 32 := g1.get' hej
        have he40 : 32 + e.1 < 2 ^ 40 := by omega
        (try k_fold)
        walk_at "mine steps"
        rename News _ _ _ _ => N6
        refine ElEnd.intro (by assumption) N6 (fun p hp => hp) ?_
        rw [sub32]
        exact ⟨_, e, rfl, hej⟩
      · intro zs2 hsl hrel
        clear F1 N1
        unfold LCg.FinE
        intro D4 h4 tk4 F' N' o1
        simp only [LCg.Off1] at o1
        have hzi : IntsAre zs2 ((sumsL ((cs0.map heardN).take 3)).map fun k : Nat => (k : Int)) := by
          rw [← f1]
          refine intsAre_of (by rw [List.length_map, List.length_map, hsl, Nat.zero_add, List.size_toArray]; exact hkl) fun j y hy => ?_
          obtain ⟨t, e, rfl, hej⟩ := hrel j y hy
          exact ⟨t, _, rfl, by rw [List.getElem?_map, List.getElem?_map, hej]; rfl⟩
        (try dsimp only)
        (try k_fold)
        walk_at "mine steps"
        clear hrel hzi hks
        k_here
        k_dflt (refine LCg.ListComp_U (F₀ := by k_asm) (by with_unfolding_all rfl) (by decide) (by rfl) (by decide) (by rfl) ?_ (by intro _; with_unfolding_all rfl))
        walk_at "mine steps"
        rename Fr _ _ _ _ => F1
        rename News _ _ _ _ => N1
        rename StrsAre _ (c.es.map _) => hvs
        have hvl := strs_len hvs
        rw [List.length_map] at hvl
        refine LCg.CompSrc.ledger ?wh F1 N1 (by k_mem) (by rw [List.size_toArray, sizeLine_eq]; omega) (fun g2 => ?_)
        case wh => exact rfl
        refine restU_go (fun j y => ∃ (t : Tok) (e : Nat × Bool), y = .int ((mul e.1 e.1 : Nat) : Int) t ∧ c.es[j]? = some e) (.inr ⟨_, by k_mem, rfl, _, rfl⟩) ?_ _ 0 [] rfl (fun j y h => nomatch h) ?_
        · clear F1 N1
          intro j vv hvv ys3 I3 oI3 C3 oC3 D3 m₃ h3 tk3 E3 r1 r2 F N off ne
          obtain ⟨e, te, rfl, hej⟩ := strs_get (f := fun e : Nat × Bool => sqS e.1) hvs (show _ = some vv by simpa using hvv)
          have he32 : e.1 < 32 := g1.get' hej
          (try k_fold)
          walk_at "mine steps"
          rename News _ _ _ _ => N6
          exact ElEnd.intro (by assumption) N6 (fun p hp => hp) ⟨_, e, rfl, hej⟩
        · intro zs3 hsl3 hrel3
          clear F1 N1
          unfold LCg.FinE
          intro D6 h6 tk6 F' N' o2
          simp only [LCg.Off1] at o2
          have hzi3 : IntsAre zs3 (((sumsL ((cs0.map heardN).take 3)).map fun v => mul v v).map fun k : Nat => (k : Int)) := by
            rw [← f1]
            refine intsAre_of (by rw [List.length_map, List.length_map, List.length_map, hsl3, Nat.zero_add, List.size_toArray]; exact hvl) fun j y hy => ?_
            obtain ⟨t, e, rfl, hej⟩ := hrel3 j y hy
            exact ⟨t, _, rfl, by rw [List.getElem?_map, List.getElem?_map, List.getElem?_map, hej]; rfl⟩
          (try dsimp only)
          (try k_fold)
          walk_at "mine steps"
          k_here
          k_dflt (refine LCg.ListComp_U (F₀ := by k_asm) (by with_unfolding_all rfl) (by decide) (by rfl) (by decide) (by rfl) ?_ (by intro _; with_unfolding_all rfl))
          walk_at "mine steps"
          rename Fr _ _ _ _ => F1
          rename News _ _ _ _ => N1
          have hsl4 := ints_len hsums
          rw [List.length_map] at hsl4
          refine LCg.CompSrc.ledger ?th F1 N1 (by k_mem) (by rw [List.size_toArray, sizeLine_eq]; omega) (fun g2 => ?_)
          case th => exact rfl
          refine restU_go (fun j y => ∃ (t : Tok) (v : Nat), y = .int ((mul v v : Nat) : Int) t ∧ (sumsL ((cs0.map heardN).take 3))[j]? = some v) (.inr ⟨_, by k_mem, rfl, _, rfl⟩) ?_ _ 0 [] rfl (fun j y h => nomatch h) ?_
          · clear F1 N1
            intro j vv hvv ys3 I3 oI3 C3 oC3 D3 m₃ h3 tk3 E3 r1 r2 F N off ne
            obtain ⟨v, tv, rfl, hvj⟩ := ints_nat_get hsums (show _ = some vv by simpa using hvv)
            have hv32 : v < 32 := f6 v (List.mem_of_getElem? hvj)
            have hvv60 : v * v < 2 ^ 60 := Nat.lt_of_le_of_lt (Nat.mul_le_mul (Nat.le_of_lt hv32) (Nat.le_of_lt hv32)) (by decide)
            (try k_fold)
            walk_at "mine steps"
            rename News _ _ _ _ => N6
            exact ElEnd.intro (by assumption) N6 (fun p hp => hp) ⟨_, v, rfl, hvj⟩
          · intro zs5 hsl5 hrel5
            clear F1 N1
            unfold LCg.FinE
            intro D8 h8 tk8 F' N' o3
            simp only [LCg.Off1] at o3
            have hzi5 : IntsAre zs5 (((sumsL ((cs0.map heardN).take 3)).map fun v => mul v v).map fun k : Nat => (k : Int)) := by
              refine intsAre_of (by rw [List.length_map, List.length_map, hsl5, Nat.zero_add, List.size_toArray]; exact hsl4) fun j y hy => ?_
              obtain ⟨t, v, rfl, hvj⟩ := hrel5 j y hy
              exact ⟨t, _, rfl, by rw [List.getElem?_map, List.getElem?_map, hvj]; rfl⟩
            (try dsimp only)
            (try k_fold)
            walk_at "mine steps"
            clear hrel3 hrel5 hzi3 hzi5 hvs
            k_here
            k_dflt (refine LCg.Assign_ListComp_U (F₀ := by k_asm) (by rfl) (by with_unfolding_all rfl) (by with_unfolding_all rfl) (by decide) (by rfl) (by decide) (by rfl) (by rfl) (by rfl) ?_ (by intro _; with_unfolding_all rfl))
            walk_at "mine steps"
            rename Fr _ _ _ _ => F1
            rename News _ _ _ _ => N1
            have hckl := ints_len c2
            rw [List.length_map] at hckl
            have hkz : c.kv.length ≤ 1000 := by omega
            refine LCg.CompSrc.ledger ?rh F1 N1 (by k_mem) (by rw [List.size_toArray, sizeLine_eq]; omega) (fun g2 => ?_)
            case rh => exact rfl
            clear F1 N1
            refine comp_split t2 (by repeat (first | exact Split.nil | apply Split.cons)) ?_
            refine restU_grow _ t2 (fun i y tl => ∃ a n vs k, y = .ref a ∧ (a, listOf vs.toArray n) ∈ tl ∧ IntsAre vs ((powL c.ks.length k).map fun z : Nat => (z : Int)) ∧ c.ks[i]? = some k) ?_ ?_ ?_ _ 0 [] t2 (fun p hp => hp) rfl (fun j y h => nomatch h) ?_
            · rintro i y e l ⟨a, n, vs, k, h1, h2, h3, h4⟩
              exact ⟨a, n, vs, k, h1, .tail _ h2, h3, h4⟩
            · intro tl
              exact .inr ⟨_, List.mem_append_left _ (by k_mem), rfl, _, rfl⟩
            · intro j vv hvv tl htl ys3 I3 oI3 C3 oC3 D3 m₃ h3 tk3 E3 r1 r2 F N off ne
              obtain ⟨k, tv9, rfl, hkj⟩ := ints_nat_get c2 (show _ = some vv by simpa using hvv)
              have hk32 : k < 32 := f5 k (List.mem_of_getElem? hkj)
              have hin : k ∈ c.es.map (·.1) := by rw [f1]; exact f3 k (List.mem_of_getElem? hkj)
              replace g1 := g1.mono (fun _ _ _ q => htl _ q)
              simp only [List.cons_append, List.nil_append] at N
              (try k_fold)
              walk_at "mine steps"
              rename Fr _ _ _ _ => F1
              rename News _ _ _ _ => N1
              rename IntsAre _ ((powL 3 k).map _) => hpw
              k_here
              k_dflt (refine' temp_slice (lo := none) (hi := some (((c.ks.map fun k : Nat => (k : Int)).length : Nat) : Int)) (st := none) F1 N1 ?rl ?rp ?rq .none (by decide) rfl ?_ ?rs ?rz)
              case rl => kmk_list
              case rp => kmk_part
              case rq => kmk_part
              case rs => with_unfolding_all rfl
              case rz => rw [List.size_toArray, sizeLine_eq, ints_len hpw]; simp [powL]
              have hp3 := kmk_upto hpw (show (0 : Int) ≤ (((c.ks.map fun k : Nat => (k : Int)).length : Nat) : Int) by omega)
              have e3 : ((powL 3 k).map fun z : Nat => (z : Int)).take (Int.toNat (((c.ks.map fun k : Nat => (k : Int)).length : Nat) : Int)) = (powL c.ks.length k).map fun z : Nat => (z : Int) := by
                rw [Int.toNat_natCast, List.length_map, ← List.map_take, powL_take f4]
              rw [e3] at hp3
              intro D10 h10 F2 N2 l10
              (try dsimp only)
              (try k_fold)
              generalize (slicePick _ none (some _) none).toList = tv3 at hp3 N2
              refine GrEnd.intro (D10, listOf tv3.toArray 0) F2 N2 ?grs ⟨Nat.ne_of_gt (l10 (I3, oI3) (by k_mem)), Nat.ne_of_gt (l10 (C3, oC3) (by k_mem)), Nat.ne_of_gt (l10 (D3, LCg.lst ys3) (by k_mem))⟩ ⟨D10, 0, tv3, k, rfl, .head _, hp3, hkj⟩
              case grs =>
                simp only [List.cons_append, List.nil_append]
                (repeat (refine List.forall_mem_cons.mpr ⟨by k_mem, ?_⟩))
                intro p hp
                (repeat (first | exact hp | refine List.Mem.tail _ ?_))
            · intro zs7 tl' hzl7 hzr7
              unfold LCg.FinA
              intro Dr hr tkr F1 N1 o4
              have hM : MatAre tl' zs7 (c.ks.map (powL c.ks.length)) := mat_of (by rw [hzl7, Nat.zero_add, List.size_toArray, hckl]) hzr7
              simp only [List.cons_append, List.nil_append] at N1 o4
              simp only [LCg.Off1] at o4
              clear hzr7
              (try dsimp only)
              (try k_fold)
              walk_at "mine steps"
              rename Fr _ _ _ _ => F1
              rename News _ _ _ _ => N1
              k_here
              k_dflt (refine' temp_slice (lo := some 1) (hi := none) (st := none) F1 N1 ?ol ?op .none .none (by decide) rfl ?_ ?os ?oz)
              case ol => kmk_list
              case op => kmk_part
              case os => with_unfolding_all rfl
              case oz => rw [List.size_toArray, sizeLine_eq, hsl4]; omega
              have ho1 := kmk_from hsums (show (0 : Int) ≤ 1 by decide)
              rw [← List.map_drop, show (1 : Int).toNat = 1 from rfl, List.drop_one] at ho1
              have ho32 : ∀ v ∈ (sumsL ((cs0.map heardN).take 3)).tail, v < 32 := fun v hv => f6 v (List.mem_of_mem_tail hv)
              have hol : (sumsL ((cs0.map heardN).take 3)).tail.length ≤ 8 := by rw [List.length_tail]; omega
              clear F1 N1
              intro D11 h11 F1 N1 l11
              replace l11 := allLt_of l11
              simp only [AllLt] at l11
              generalize (slicePick _ (some 1) none none).toList = tv4 at ho1 N1
              have hs3 := getD_cast (cs0.map heardN) (Int.toNat 3)
              have hs4 := getD_cast (cs0.map heardN) (Int.toNat 4)
              have hs3z := getD_lt (cs0.map heardN) (Int.toNat 3) (fun x hx => heardN_lt hx)
              have hs4z := getD_lt (cs0.map heardN) (Int.toNat 4) (fun x hx => heardN_lt hx)
              have hs5z : (cs0.map heardN).getD (Int.toNat 3) 0 ^^^ (cs0.map heardN).getD (Int.toNat 4) 0 < 32 := Nat.xor_lt_two_pow (n := 5) hs3z hs4z
              (try dsimp only)
              (try k_fold)
              walk_at "mine steps"
              · exfalso
                rename @Ne Int _ _ => hq
                exact hq (congrArg (fun n : Nat => (n : Int)) (by rw [f2]; exact moore f4))
              have hore := ore ((cs0.map heardN).take 3) ((cs0.map heardN).getD (Int.toNat 3) 0) ((cs0.map heardN).getD (Int.toNat 4) 0)
              rw [hore]
              simp only [beq_self_eq_true, decide_true]
              first
                | (k_end; kc_close)
                | kc_close
                | wrow_close
end
end Mine
theorem PySem.Challenge.cw_wj0041_01_holds : PySem.Challenge.rw_wj0041_01.Holds := by
  exact Mine.holds
