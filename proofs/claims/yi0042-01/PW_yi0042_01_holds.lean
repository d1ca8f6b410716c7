import PyProof.Rows.All
import Wide.All
import OpenK.AllK
import Wide.FinOn
import Lean
import PySem.Challenge.RW_yi0042_01
set_option Elab.async false
set_option rowWalk.seconds 0

section PartNHead
open PySem PySem.W PyProof.Rows
namespace Mine
set_option maxRecDepth 100000
noncomputable def at1 (i : Nat) : Stmt := PySem.Challenge.pw_yi0042_01.main.body.getD i (.Pass ⟨0, 0, 0, 0⟩)
noncomputable def clB : Stmt → List Stmt
  | .ClassDef _ _ _ b .. => b
  | _ => []
noncomputable def fnB : Stmt → List Stmt
  | .FunctionDef _ _ b .. => b
  | _ => []
noncomputable def fnP : Stmt → Arguments
  | .FunctionDef _ p .. => p
  | _ => ⟨[], [], none, [], [], none, []⟩
noncomputable def fnS : Stmt → Scope
  | .FunctionDef _ _ _ _ _ _ s .. => s
  | _ => ⟨.function, [], false, false, []⟩
noncomputable def at2 (i j : Nat) : Stmt := (clB (at1 i)).getD j (.Pass ⟨0, 0, 0, 0⟩)
noncomputable abbrev xB96 : { b : List Stmt // fnB (at2 3 3) = b } := by
  refine ⟨?b, ?h⟩
  case h => conv => lhs; whnf
noncomputable abbrev fB96 : List Stmt := xB96.1
noncomputable abbrev xP96 : { b : Arguments // fnP (at2 3 3) = b } := by
  refine ⟨?b, ?h⟩
  case h => conv => lhs; whnf
noncomputable abbrev fP96 : Arguments := xP96.1
noncomputable abbrev xS96 : { b : Scope // fnS (at2 3 3) = b } := by
  refine ⟨?b, ?h⟩
  case h => conv => lhs; whnf
noncomputable abbrev fS96 : Scope := xS96.1
noncomputable abbrev xB238 : { b : List Stmt // fnB (at2 5 0) = b } := by
  refine ⟨?b, ?h⟩
  case h => conv => lhs; whnf
noncomputable abbrev fB238 : List Stmt := xB238.1
noncomputable abbrev xP238 : { b : Arguments // fnP (at2 5 0) = b } := by
  refine ⟨?b, ?h⟩
  case h => conv => lhs; whnf
noncomputable abbrev fP238 : Arguments := xP238.1
noncomputable abbrev xS238 : { b : Scope // fnS (at2 5 0) = b } := by
  refine ⟨?b, ?h⟩
  case h => conv => lhs; whnf
noncomputable abbrev fS238 : Scope := xS238.1
noncomputable abbrev xB245 : { b : List Stmt // fnB (at2 5 1) = b } := by
  refine ⟨?b, ?h⟩
  case h => conv => lhs; whnf
noncomputable abbrev fB245 : List Stmt := xB245.1
noncomputable abbrev xP245 : { b : Arguments // fnP (at2 5 1) = b } := by
  refine ⟨?b, ?h⟩
  case h => conv => lhs; whnf
noncomputable abbrev fP245 : Arguments := xP245.1
noncomputable abbrev xS245 : { b : Scope // fnS (at2 5 1) = b } := by
  refine ⟨?b, ?h⟩
  case h => conv => lhs; whnf
noncomputable abbrev fS245 : Scope := xS245.1
noncomputable abbrev xB279 : { b : List Stmt // fnB (at2 5 5) = b } := by
  refine ⟨?b, ?h⟩
  case h => conv => lhs; whnf
noncomputable abbrev fB279 : List Stmt := xB279.1
noncomputable abbrev xP279 : { b : Arguments // fnP (at2 5 5) = b } := by
  refine ⟨?b, ?h⟩
  case h => conv => lhs; whnf
noncomputable abbrev fP279 : Arguments := xP279.1
noncomputable abbrev xS279 : { b : Scope // fnS (at2 5 5) = b } := by
  refine ⟨?b, ?h⟩
  case h => conv => lhs; whnf
noncomputable abbrev fS279 : Scope := xS279.1
noncomputable abbrev xB298 : { b : List Stmt // fnB (at2 6 0) = b } := by
  refine ⟨?b, ?h⟩
  case h => conv => lhs; whnf
noncomputable abbrev fB298 : List Stmt := xB298.1
noncomputable abbrev xP298 : { b : Arguments // fnP (at2 6 0) = b } := by
  refine ⟨?b, ?h⟩
  case h => conv => lhs; whnf
noncomputable abbrev fP298 : Arguments := xP298.1
noncomputable abbrev xS298 : { b : Scope // fnS (at2 6 0) = b } := by
  refine ⟨?b, ?h⟩
  case h => conv => lhs; whnf
noncomputable abbrev fS298 : Scope := xS298.1
noncomputable abbrev xB366 : { b : List Stmt // fnB (at2 7 0) = b } := by
  refine ⟨?b, ?h⟩
  case h => conv => lhs; whnf
noncomputable abbrev fB366 : List Stmt := xB366.1
noncomputable abbrev xP366 : { b : Arguments // fnP (at2 7 0) = b } := by
  refine ⟨?b, ?h⟩
  case h => conv => lhs; whnf
noncomputable abbrev fP366 : Arguments := xP366.1
noncomputable abbrev xS366 : { b : Scope // fnS (at2 7 0) = b } := by
  refine ⟨?b, ?h⟩
  case h => conv => lhs; whnf
noncomputable abbrev fS366 : Scope := xS366.1
noncomputable abbrev xB380 : { b : List Stmt // fnB (at2 7 2) = b } := by
  refine ⟨?b, ?h⟩
  case h => conv => lhs; whnf
noncomputable abbrev fB380 : List Stmt := xB380.1
noncomputable abbrev xP380 : { b : Arguments // fnP (at2 7 2) = b } := by
  refine ⟨?b, ?h⟩
  case h => conv => lhs; whnf
noncomputable abbrev fP380 : Arguments := xP380.1
noncomputable abbrev xS380 : { b : Scope // fnS (at2 7 2) = b } := by
  refine ⟨?b, ?h⟩
  case h => conv => lhs; whnf
noncomputable abbrev fS380 : Scope := xS380.1
noncomputable abbrev xB433 : { b : List Stmt // fnB (at1 9) = b } := by
  refine ⟨?b, ?h⟩
  case h => conv => lhs; whnf
noncomputable abbrev fB433 : List Stmt := xB433.1
noncomputable abbrev xP433 : { b : Arguments // fnP (at1 9) = b } := by
  refine ⟨?b, ?h⟩
  case h => conv => lhs; whnf
noncomputable abbrev fP433 : Arguments := xP433.1
noncomputable abbrev xS433 : { b : Scope // fnS (at1 9) = b } := by
  refine ⟨?b, ?h⟩
  case h => conv => lhs; whnf
noncomputable abbrev fS433 : Scope := xS433.1
noncomputable abbrev xB440 : { b : List Stmt // fnB (at1 10) = b } := by
  refine ⟨?b, ?h⟩
  case h => conv => lhs; whnf
noncomputable abbrev fB440 : List Stmt := xB440.1
noncomputable abbrev xP440 : { b : Arguments // fnP (at1 10) = b } := by
  refine ⟨?b, ?h⟩
  case h => conv => lhs; whnf
noncomputable abbrev fP440 : Arguments := xP440.1
noncomputable abbrev xS440 : { b : Scope // fnS (at1 10) = b } := by
  refine ⟨?b, ?h⟩
  case h => conv => lhs; whnf
noncomputable abbrev fS440 : Scope := xS440.1
noncomputable abbrev xB447 : { b : List Stmt // fnB (at1 11) = b } := by
  refine ⟨?b, ?h⟩
  case h => conv => lhs; whnf
noncomputable abbrev fB447 : List Stmt := xB447.1
noncomputable abbrev xP447 : { b : Arguments // fnP (at1 11) = b } := by
  refine ⟨?b, ?h⟩
  case h => conv => lhs; whnf
noncomputable abbrev fP447 : Arguments := xP447.1
noncomputable abbrev xS447 : { b : Scope // fnS (at1 11) = b } := by
  refine ⟨?b, ?h⟩
  case h => conv => lhs; whnf
noncomputable abbrev fS447 : Scope := xS447.1
noncomputable abbrev xB454 : { b : List Stmt // fnB (at1 12) = b } := by
  refine ⟨?b, ?h⟩
  case h => conv => lhs; whnf
noncomputable abbrev fB454 : List Stmt := xB454.1
noncomputable abbrev xP454 : { b : Arguments // fnP (at1 12) = b } := by
  refine ⟨?b, ?h⟩
  case h => conv => lhs; whnf
noncomputable abbrev fP454 : Arguments := xP454.1
noncomputable abbrev xS454 : { b : Scope // fnS (at1 12) = b } := by
  refine ⟨?b, ?h⟩
  case h => conv => lhs; whnf
noncomputable abbrev fS454 : Scope := xS454.1
noncomputable def KK : Params → Frag := fun P =>
  (nat_lit 2, (@PySem.Obj.mk @PySem.Value.none none (@PySem.Data.dict (@List.toArray @PySem.DictEntry []) (0 : Nat)) (@List.toArray (@Option @PySem.Value) []))) ::
  (nat_lit 3, (@PySem.Obj.mk (@PySem.Value.type "dict") none (@PySem.Data.dict (@List.toArray @PySem.DictEntry ((@PySem.DictEntry.mk (@PySem.PyData.keyHash P (Str.ofString "__name__")) (@PySem.Value.str (Str.ofString "__name__") (165 : Nat)) (@PySem.Value.str (Str.ofString "law_yi0042_01") (742 : Nat))) :: ((@PySem.DictEntry.mk (@PySem.PyData.keyHash P (Str.ofString "__doc__")) (@PySem.Value.str (Str.ofString "__doc__") (166 : Nat)) @PySem.Value.none) :: ((@PySem.DictEntry.mk (@PySem.PyData.keyHash P (Str.ofString "__package__")) (@PySem.Value.str (Str.ofString "__package__") (167 : Nat)) @PySem.Value.none) :: ((@PySem.DictEntry.mk (@PySem.PyData.keyHash P (Str.ofString "__loader__")) (@PySem.Value.str (Str.ofString "__loader__") (168 : Nat)) (@PySem.Value.builtin "__main__.__loader__#opaque")) :: ((@PySem.DictEntry.mk (@PySem.PyData.keyHash P (Str.ofString "__spec__")) (@PySem.Value.str (Str.ofString "__spec__") (169 : Nat)) @PySem.Value.none) :: ((@PySem.DictEntry.mk (@PySem.PyData.keyHash P (Str.ofString "__annotations__")) (@PySem.Value.str (Str.ofString "__annotations__") (170 : Nat)) (.ref (6 : Nat))) :: ((@PySem.DictEntry.mk (@PySem.PyData.keyHash P (Str.ofString "__builtins__")) (@PySem.Value.str (Str.ofString "__builtins__") (171 : Nat)) (.ref (4 : Nat))) :: ((@PySem.DictEntry.mk (@PySem.PyData.keyHash P (Str.ofString "__file__")) (@PySem.Value.str (Str.ofString "__file__") (173 : Nat)) (@PySem.Value.str (Str.ofString "/claim/cut.py") (172 : Nat))) :: ((@PySem.DictEntry.mk (@PySem.PyData.keyHash P (Str.ofString "__cached__")) (@PySem.Value.str (Str.ofString "__cached__") (174 : Nat)) @PySem.Value.none) :: ((@PySem.DictEntry.mk (@PySem.PyData.keyHash P (Str.ofString "_wall")) (@PySem.Value.str (Str.ofString "_wall") (193 : Nat)) (.ref (21 : Nat))) :: ((@PySem.DictEntry.mk (@PySem.PyData.keyHash P (Str.ofString "GenericPolynomialRing")) (@PySem.Value.str (Str.ofString "GenericPolynomialRing") (248 : Nat)) (.ref (59 : Nat))) :: ((@PySem.DictEntry.mk (@PySem.PyData.keyHash P (Str.ofString "GenericPolynomial")) (@PySem.Value.str (Str.ofString "GenericPolynomial") (447 : Nat)) (.ref (222 : Nat))) :: ((@PySem.DictEntry.mk (@PySem.PyData.keyHash P (Str.ofString "PolynomialRing")) (@PySem.Value.str (Str.ofString "PolynomialRing") (533 : Nat)) (.ref (282 : Nat))) :: ((@PySem.DictEntry.mk (@PySem.PyData.keyHash P (Str.ofString "Polynomial")) (@PySem.Value.str (Str.ofString "Polynomial") (616 : Nat)) (.ref (350 : Nat))) :: ((@PySem.DictEntry.mk (@PySem.PyData.keyHash P (Str.ofString "PolynomialNTT")) (@PySem.Value.str (Str.ofString "PolynomialNTT") (741 : Nat)) (.ref (426 : Nat))) :: ((@PySem.DictEntry.mk (@PySem.PyData.keyHash P (Str.ofString "_law_state")) (@PySem.Value.str (Str.ofString "_law_state") (749 : Nat)) (.ref (433 : Nat))) :: ((@PySem.DictEntry.mk (@PySem.PyData.keyHash P (Str.ofString "_law_take")) (@PySem.Value.str (Str.ofString "_law_take") (761 : Nat)) (.ref (440 : Nat))) :: ((@PySem.DictEntry.mk (@PySem.PyData.keyHash P (Str.ofString "_law_root")) (@PySem.Value.str (Str.ofString "_law_root") (770 : Nat)) (.ref (447 : Nat))) :: ((@PySem.DictEntry.mk (@PySem.PyData.keyHash P (Str.ofString "_law_left")) (@PySem.Value.str (Str.ofString "_law_left") (783 : Nat)) (.ref (454 : Nat))) :: ((@PySem.DictEntry.mk (@PySem.PyData.keyHash P (Str.ofString "law")) (@PySem.Value.str (Str.ofString "law") (796 : Nat)) (.ref (461 : Nat))) :: []))))))))))))))))))))) (20 : Nat)) (@List.toArray (@Option @PySem.Value) []))) ::
  (nat_lit 15, (@PySem.Obj.mk (@PySem.Value.type "tuple") none (@PySem.Data.seq (@List.toArray @PySem.Value []) (0 : Nat)) (@List.toArray (@Option @PySem.Value) []))) ::
  (nat_lit 17, (@PySem.Obj.mk (@PySem.Value.type "tuple") none (@PySem.Data.seq (@List.toArray @PySem.Value ((@PySem.Value.str (Str.ofString "k") (190 : Nat)) :: [])) (0 : Nat)) (@List.toArray (@Option @PySem.Value) []))) ::
  (nat_lit 18, (@PySem.Obj.mk (@PySem.Value.type "tuple") none (@PySem.Data.seq (@List.toArray @PySem.Value []) (0 : Nat)) (@List.toArray (@Option @PySem.Value) []))) ::
  (nat_lit 20, (@PySem.Obj.mk (@PySem.Value.type "code") none (@PySem.Data.fields (@List.toArray @PySem.Value ((@PySem.Value.str (Str.ofString "_wall") (187 : Nat)) :: ((@PySem.Value.str (Str.ofString "_wall") (188 : Nat)) :: ((@PySem.Value.str (Str.ofString "/claim/cut.py") (189 : Nat)) :: ((@PySem.Value.int (1 : Int) (0 : Nat)) :: ((@PySem.Value.int (1 : Int) (0 : Nat)) :: ((@PySem.Value.int (0 : Int) (0 : Nat)) :: ((@PySem.Value.int (0 : Int) (0 : Nat)) :: ((@PySem.Value.int (3 : Int) (0 : Nat)) :: ((.ref (15 : Nat)) :: ((@PySem.Value.bool @Bool.true) :: ((@PySem.Value.int (181 : Int) (0 : Nat)) :: ((.ref (16 : Nat)) :: (@PySem.Value.none :: ((.ref (17 : Nat)) :: ((.ref (18 : Nat)) :: ((.ref (19 : Nat)) :: ((@PySem.Value.int (191 : Int) (0 : Nat)) :: ((@PySem.Value.int (1 : Int) (0 : Nat)) :: ((@PySem.Value.str (Str.ofString "/claim/cut.py") (192 : Nat)) :: []))))))))))))))))))))) (@List.toArray (@Option @PySem.Value) []))) ::
  (nat_lit 29, (@PySem.Obj.mk (@PySem.Value.type "tuple") none (@PySem.Data.seq (@List.toArray @PySem.Value []) (0 : Nat)) (@List.toArray (@Option @PySem.Value) []))) ::
  (nat_lit 31, (@PySem.Obj.mk (@PySem.Value.type "tuple") none (@PySem.Data.seq (@List.toArray @PySem.Value ((@PySem.Value.str (Str.ofString "self") (211 : Nat)) :: ((@PySem.Value.str (Str.ofString "q") (212 : Nat)) :: ((@PySem.Value.str (Str.ofString "n") (213 : Nat)) :: [])))) (0 : Nat)) (@List.toArray (@Option @PySem.Value) []))) ::
  (nat_lit 32, (@PySem.Obj.mk (@PySem.Value.type "tuple") none (@PySem.Data.seq (@List.toArray @PySem.Value []) (0 : Nat)) (@List.toArray (@Option @PySem.Value) []))) ::
  (nat_lit 34, (@PySem.Obj.mk (@PySem.Value.type "code") none (@PySem.Data.fields (@List.toArray @PySem.Value ((@PySem.Value.str (Str.ofString "__init__") (208 : Nat)) :: ((@PySem.Value.str (Str.ofString "GenericPolynomialRing.__init__") (209 : Nat)) :: ((@PySem.Value.str (Str.ofString "/claim/cut.py") (210 : Nat)) :: ((@PySem.Value.int (7 : Int) (0 : Nat)) :: ((@PySem.Value.int (3 : Int) (0 : Nat)) :: ((@PySem.Value.int (0 : Int) (0 : Nat)) :: ((@PySem.Value.int (0 : Int) (0 : Nat)) :: ((@PySem.Value.int (3 : Int) (0 : Nat)) :: ((.ref (29 : Nat)) :: ((@PySem.Value.bool @Bool.true) :: ((@PySem.Value.int (181 : Int) (0 : Nat)) :: ((.ref (30 : Nat)) :: (@PySem.Value.none :: ((.ref (31 : Nat)) :: ((.ref (32 : Nat)) :: ((.ref (33 : Nat)) :: ((@PySem.Value.int (214 : Int) (0 : Nat)) :: ((@PySem.Value.int (7 : Int) (0 : Nat)) :: ((@PySem.Value.str (Str.ofString "/claim/cut.py") (215 : Nat)) :: []))))))))))))))))))))) (@List.toArray (@Option @PySem.Value) []))) ::
  (nat_lit 36, (@PySem.Obj.mk (@PySem.Value.type "tuple") none (@PySem.Data.seq (@List.toArray @PySem.Value []) (0 : Nat)) (@List.toArray (@Option @PySem.Value) []))) ::
  (nat_lit 38, (@PySem.Obj.mk (@PySem.Value.type "tuple") none (@PySem.Data.seq (@List.toArray @PySem.Value ((@PySem.Value.str (Str.ofString "self") (220 : Nat)) :: [])) (0 : Nat)) (@List.toArray (@Option @PySem.Value) []))) ::
  (nat_lit 39, (@PySem.Obj.mk (@PySem.Value.type "tuple") none (@PySem.Data.seq (@List.toArray @PySem.Value []) (0 : Nat)) (@List.toArray (@Option @PySem.Value) []))) ::
  (nat_lit 41, (@PySem.Obj.mk (@PySem.Value.type "code") none (@PySem.Data.fields (@List.toArray @PySem.Value ((@PySem.Value.str (Str.ofString "zero") (217 : Nat)) :: ((@PySem.Value.str (Str.ofString "GenericPolynomialRing.zero") (218 : Nat)) :: ((@PySem.Value.str (Str.ofString "/claim/cut.py") (219 : Nat)) :: ((@PySem.Value.int (11 : Int) (0 : Nat)) :: ((@PySem.Value.int (1 : Int) (0 : Nat)) :: ((@PySem.Value.int (0 : Int) (0 : Nat)) :: ((@PySem.Value.int (0 : Int) (0 : Nat)) :: ((@PySem.Value.int (3 : Int) (0 : Nat)) :: ((.ref (36 : Nat)) :: ((@PySem.Value.bool @Bool.true) :: ((@PySem.Value.int (181 : Int) (0 : Nat)) :: ((.ref (37 : Nat)) :: (@PySem.Value.none :: ((.ref (38 : Nat)) :: ((.ref (39 : Nat)) :: ((.ref (40 : Nat)) :: ((@PySem.Value.int (221 : Int) (0 : Nat)) :: ((@PySem.Value.int (11 : Int) (0 : Nat)) :: ((@PySem.Value.str (Str.ofString "/claim/cut.py") (222 : Nat)) :: []))))))))))))))))))))) (@List.toArray (@Option @PySem.Value) []))) ::
  (nat_lit 43, (@PySem.Obj.mk (@PySem.Value.type "tuple") none (@PySem.Data.seq (@List.toArray @PySem.Value []) (0 : Nat)) (@List.toArray (@Option @PySem.Value) []))) ::
  (nat_lit 45, (@PySem.Obj.mk (@PySem.Value.type "tuple") none (@PySem.Data.seq (@List.toArray @PySem.Value ((@PySem.Value.str (Str.ofString "self") (227 : Nat)) :: [])) (0 : Nat)) (@List.toArray (@Option @PySem.Value) []))) ::
  (nat_lit 46, (@PySem.Obj.mk (@PySem.Value.type "tuple") none (@PySem.Data.seq (@List.toArray @PySem.Value []) (0 : Nat)) (@List.toArray (@Option @PySem.Value) []))) ::
  (nat_lit 48, (@PySem.Obj.mk (@PySem.Value.type "code") none (@PySem.Data.fields (@List.toArray @PySem.Value ((@PySem.Value.str (Str.ofString "gen") (224 : Nat)) :: ((@PySem.Value.str (Str.ofString "GenericPolynomialRing.gen") (225 : Nat)) :: ((@PySem.Value.str (Str.ofString "/claim/cut.py") (226 : Nat)) :: ((@PySem.Value.int (14 : Int) (0 : Nat)) :: ((@PySem.Value.int (1 : Int) (0 : Nat)) :: ((@PySem.Value.int (0 : Int) (0 : Nat)) :: ((@PySem.Value.int (0 : Int) (0 : Nat)) :: ((@PySem.Value.int (3 : Int) (0 : Nat)) :: ((.ref (43 : Nat)) :: ((@PySem.Value.bool @Bool.true) :: ((@PySem.Value.int (181 : Int) (0 : Nat)) :: ((.ref (44 : Nat)) :: (@PySem.Value.none :: ((.ref (45 : Nat)) :: ((.ref (46 : Nat)) :: ((.ref (47 : Nat)) :: ((@PySem.Value.int (228 : Int) (0 : Nat)) :: ((@PySem.Value.int (14 : Int) (0 : Nat)) :: ((@PySem.Value.str (Str.ofString "/claim/cut.py") (229 : Nat)) :: []))))))))))))))))))))) (@List.toArray (@Option @PySem.Value) []))) ::
  (nat_lit 50, (@PySem.Obj.mk (@PySem.Value.type "tuple") none (@PySem.Data.seq (@List.toArray @PySem.Value []) (0 : Nat)) (@List.toArray (@Option @PySem.Value) []))) ::
  (nat_lit 52, (@PySem.Obj.mk (@PySem.Value.type "tuple") none (@PySem.Data.seq (@List.toArray @PySem.Value ((@PySem.Value.str (Str.ofString "self") (234 : Nat)) :: ((@PySem.Value.str (Str.ofString "coefficients") (235 : Nat)) :: []))) (0 : Nat)) (@List.toArray (@Option @PySem.Value) []))) ::
  (nat_lit 53, (@PySem.Obj.mk (@PySem.Value.type "tuple") none (@PySem.Data.seq (@List.toArray @PySem.Value []) (0 : Nat)) (@List.toArray (@Option @PySem.Value) []))) ::
  (nat_lit 55, (@PySem.Obj.mk (@PySem.Value.type "code") none (@PySem.Data.fields (@List.toArray @PySem.Value ((@PySem.Value.str (Str.ofString "__call__") (231 : Nat)) :: ((@PySem.Value.str (Str.ofString "GenericPolynomialRing.__call__") (232 : Nat)) :: ((@PySem.Value.str (Str.ofString "/claim/cut.py") (233 : Nat)) :: ((@PySem.Value.int (17 : Int) (0 : Nat)) :: ((@PySem.Value.int (2 : Int) (0 : Nat)) :: ((@PySem.Value.int (0 : Int) (0 : Nat)) :: ((@PySem.Value.int (0 : Int) (0 : Nat)) :: ((@PySem.Value.int (3 : Int) (0 : Nat)) :: ((.ref (50 : Nat)) :: ((@PySem.Value.bool @Bool.true) :: ((@PySem.Value.int (181 : Int) (0 : Nat)) :: ((.ref (51 : Nat)) :: (@PySem.Value.none :: ((.ref (52 : Nat)) :: ((.ref (53 : Nat)) :: ((.ref (54 : Nat)) :: ((@PySem.Value.int (236 : Int) (0 : Nat)) :: ((@PySem.Value.int (17 : Int) (0 : Nat)) :: ((@PySem.Value.str (Str.ofString "/claim/cut.py") (237 : Nat)) :: []))))))))))))))))))))) (@List.toArray (@Option @PySem.Value) []))) ::
  (nat_lit 57, (@PySem.Obj.mk (@PySem.Value.type "tuple") none (@PySem.Data.seq (@List.toArray @PySem.Value ((@PySem.Value.str (Str.ofString "n") (239 : Nat)) :: ((@PySem.Value.str (Str.ofString "q") (240 : Nat)) :: []))) (0 : Nat)) (@List.toArray (@Option @PySem.Value) []))) ::
  (nat_lit 58, (@PySem.Obj.mk (@PySem.Value.type "dict") none (@PySem.Data.dict (@List.toArray @PySem.DictEntry ((@PySem.DictEntry.mk (@PySem.PyData.keyHash P (Str.ofString "__module__")) (@PySem.Value.str (Str.ofString "__module__") (203 : Nat)) (@PySem.Value.str (Str.ofString "kyber_py.polynomials.polynomials_generic") (194 : Nat))) :: ((@PySem.DictEntry.mk (@PySem.PyData.keyHash P (Str.ofString "__firstlineno__")) (@PySem.Value.str (Str.ofString "__firstlineno__") (207 : Nat)) (@PySem.Value.int (5 : Int) (206 : Nat))) :: ((@PySem.DictEntry.mk (@PySem.PyData.keyHash P (Str.ofString "__init__")) (@PySem.Value.str (Str.ofString "__init__") (216 : Nat)) (.ref (35 : Nat))) :: ((@PySem.DictEntry.mk (@PySem.PyData.keyHash P (Str.ofString "zero")) (@PySem.Value.str (Str.ofString "zero") (223 : Nat)) (.ref (42 : Nat))) :: ((@PySem.DictEntry.mk (@PySem.PyData.keyHash P (Str.ofString "gen")) (@PySem.Value.str (Str.ofString "gen") (230 : Nat)) (.ref (49 : Nat))) :: ((@PySem.DictEntry.mk (@PySem.PyData.keyHash P (Str.ofString "__call__")) (@PySem.Value.str (Str.ofString "__call__") (238 : Nat)) (.ref (56 : Nat))) :: ((@PySem.DictEntry.mk (@PySem.PyData.keyHash P (Str.ofString "__static_attributes__")) (@PySem.Value.str (Str.ofString "__static_attributes__") (241 : Nat)) (.ref (57 : Nat))) :: ((@PySem.DictEntry.mk (@PySem.PyData.keyHash P (Str.ofString "__dict__")) (@PySem.Value.str (Str.ofString "__dict__") (243 : Nat)) (.ref (60 : Nat))) :: ((@PySem.DictEntry.mk (@PySem.PyData.keyHash P (Str.ofString "__weakref__")) (@PySem.Value.str (Str.ofString "__weakref__") (245 : Nat)) (.ref (61 : Nat))) :: ((@PySem.DictEntry.mk (@PySem.PyData.keyHash P (Str.ofString "__doc__")) (@PySem.Value.str (Str.ofString "__doc__") (246 : Nat)) @PySem.Value.none) :: []))))))))))) (4 : Nat)) (@List.toArray (@Option @PySem.Value) []))) ::
  (nat_lit 59, (@PySem.Obj.mk (@PySem.Value.type "type") none (@PySem.Data.cls (@PySem.ClassData.mk (Str.ofString "GenericPolynomialRing") ((@PySem.Value.type "object") :: []) ((.ref (59 : Nat)) :: ((@PySem.Value.type "object") :: [])) (58 : Nat) (Str.ofString "GenericPolynomialRing") @Bool.true [] ((.ref (282 : Nat)) :: []) @Bool.false none @Bool.false)) (@List.toArray (@Option @PySem.Value) (none :: (none :: ((some (@PySem.Value.str (Str.ofString "GenericPolynomialRing") (196 : Nat))) :: ((some (@PySem.Value.str (Str.ofString "GenericPolynomialRing") (204 : Nat))) :: ((some (@PySem.Value.builtin "object.__new__")) :: ((some (@PySem.Value.bool @Bool.true)) :: []))))))))) ::
  (nat_lit 60, (@PySem.Obj.mk (@PySem.Value.type "getset_descriptor") none (@PySem.Data.fields (@List.toArray @PySem.Value ((@PySem.Value.str (Str.ofString "__dict__") (242 : Nat)) :: ((.ref (59 : Nat)) :: ((@PySem.Value.builtin "function.__dict__") :: ((@PySem.Value.builtin "function.__dict__#set") :: [])))))) (@List.toArray (@Option @PySem.Value) []))) ::
  (nat_lit 61, (@PySem.Obj.mk (@PySem.Value.type "getset_descriptor") none (@PySem.Data.fields (@List.toArray @PySem.Value ((@PySem.Value.str (Str.ofString "__weakref__") (244 : Nat)) :: ((.ref (59 : Nat)) :: ((@PySem.Value.builtin "ExceptionGroup.__weakref__") :: (@PySem.Value.none :: [])))))) (@List.toArray (@Option @PySem.Value) []))) ::
  (nat_lit 71, (@PySem.Obj.mk (@PySem.Value.type "tuple") none (@PySem.Data.seq (@List.toArray @PySem.Value []) (0 : Nat)) (@List.toArray (@Option @PySem.Value) []))) ::
  (nat_lit 73, (@PySem.Obj.mk (@PySem.Value.type "tuple") none (@PySem.Data.seq (@List.toArray @PySem.Value ((@PySem.Value.str (Str.ofString "self") (264 : Nat)) :: ((@PySem.Value.str (Str.ofString "parent") (265 : Nat)) :: ((@PySem.Value.str (Str.ofString "coefficients") (266 : Nat)) :: [])))) (0 : Nat)) (@List.toArray (@Option @PySem.Value) []))) ::
  (nat_lit 74, (@PySem.Obj.mk (@PySem.Value.type "tuple") none (@PySem.Data.seq (@List.toArray @PySem.Value []) (0 : Nat)) (@List.toArray (@Option @PySem.Value) []))) ::
  (nat_lit 76, (@PySem.Obj.mk (@PySem.Value.type "code") none (@PySem.Data.fields (@List.toArray @PySem.Value ((@PySem.Value.str (Str.ofString "__init__") (261 : Nat)) :: ((@PySem.Value.str (Str.ofString "GenericPolynomial.__init__") (262 : Nat)) :: ((@PySem.Value.str (Str.ofString "/claim/cut.py") (263 : Nat)) :: ((@PySem.Value.int (25 : Int) (0 : Nat)) :: ((@PySem.Value.int (3 : Int) (0 : Nat)) :: ((@PySem.Value.int (0 : Int) (0 : Nat)) :: ((@PySem.Value.int (0 : Int) (0 : Nat)) :: ((@PySem.Value.int (3 : Int) (0 : Nat)) :: ((.ref (71 : Nat)) :: ((@PySem.Value.bool @Bool.true) :: ((@PySem.Value.int (181 : Int) (0 : Nat)) :: ((.ref (72 : Nat)) :: (@PySem.Value.none :: ((.ref (73 : Nat)) :: ((.ref (74 : Nat)) :: ((.ref (75 : Nat)) :: ((@PySem.Value.int (267 : Int) (0 : Nat)) :: ((@PySem.Value.int (25 : Int) (0 : Nat)) :: ((@PySem.Value.str (Str.ofString "/claim/cut.py") (268 : Nat)) :: []))))))))))))))))))))) (@List.toArray (@Option @PySem.Value) []))) ::
  (nat_lit 78, (@PySem.Obj.mk (@PySem.Value.type "tuple") none (@PySem.Data.seq (@List.toArray @PySem.Value []) (0 : Nat)) (@List.toArray (@Option @PySem.Value) []))) ::
  (nat_lit 80, (@PySem.Obj.mk (@PySem.Value.type "tuple") none (@PySem.Data.seq (@List.toArray @PySem.Value ((@PySem.Value.str (Str.ofString "self") (273 : Nat)) :: [])) (0 : Nat)) (@List.toArray (@Option @PySem.Value) []))) ::
  (nat_lit 81, (@PySem.Obj.mk (@PySem.Value.type "tuple") none (@PySem.Data.seq (@List.toArray @PySem.Value []) (0 : Nat)) (@List.toArray (@Option @PySem.Value) []))) ::
  (nat_lit 83, (@PySem.Obj.mk (@PySem.Value.type "code") none (@PySem.Data.fields (@List.toArray @PySem.Value ((@PySem.Value.str (Str.ofString "is_zero") (270 : Nat)) :: ((@PySem.Value.str (Str.ofString "GenericPolynomial.is_zero") (271 : Nat)) :: ((@PySem.Value.str (Str.ofString "/claim/cut.py") (272 : Nat)) :: ((@PySem.Value.int (29 : Int) (0 : Nat)) :: ((@PySem.Value.int (1 : Int) (0 : Nat)) :: ((@PySem.Value.int (0 : Int) (0 : Nat)) :: ((@PySem.Value.int (0 : Int) (0 : Nat)) :: ((@PySem.Value.int (3 : Int) (0 : Nat)) :: ((.ref (78 : Nat)) :: ((@PySem.Value.bool @Bool.true) :: ((@PySem.Value.int (181 : Int) (0 : Nat)) :: ((.ref (79 : Nat)) :: (@PySem.Value.none :: ((.ref (80 : Nat)) :: ((.ref (81 : Nat)) :: ((.ref (82 : Nat)) :: ((@PySem.Value.int (274 : Int) (0 : Nat)) :: ((@PySem.Value.int (29 : Int) (0 : Nat)) :: ((@PySem.Value.str (Str.ofString "/claim/cut.py") (275 : Nat)) :: []))))))))))))))))))))) (@List.toArray (@Option @PySem.Value) []))) ::
  (nat_lit 85, (@PySem.Obj.mk (@PySem.Value.type "tuple") none (@PySem.Data.seq (@List.toArray @PySem.Value []) (0 : Nat)) (@List.toArray (@Option @PySem.Value) []))) ::
  (nat_lit 87, (@PySem.Obj.mk (@PySem.Value.type "tuple") none (@PySem.Data.seq (@List.toArray @PySem.Value ((@PySem.Value.str (Str.ofString "self") (280 : Nat)) :: [])) (0 : Nat)) (@List.toArray (@Option @PySem.Value) []))) ::
  (nat_lit 88, (@PySem.Obj.mk (@PySem.Value.type "tuple") none (@PySem.Data.seq (@List.toArray @PySem.Value []) (0 : Nat)) (@List.toArray (@Option @PySem.Value) []))) ::
  (nat_lit 90, (@PySem.Obj.mk (@PySem.Value.type "code") none (@PySem.Data.fields (@List.toArray @PySem.Value ((@PySem.Value.str (Str.ofString "is_constant") (277 : Nat)) :: ((@PySem.Value.str (Str.ofString "GenericPolynomial.is_constant") (278 : Nat)) :: ((@PySem.Value.str (Str.ofString "/claim/cut.py") (279 : Nat)) :: ((@PySem.Value.int (32 : Int) (0 : Nat)) :: ((@PySem.Value.int (1 : Int) (0 : Nat)) :: ((@PySem.Value.int (0 : Int) (0 : Nat)) :: ((@PySem.Value.int (0 : Int) (0 : Nat)) :: ((@PySem.Value.int (3 : Int) (0 : Nat)) :: ((.ref (85 : Nat)) :: ((@PySem.Value.bool @Bool.true) :: ((@PySem.Value.int (181 : Int) (0 : Nat)) :: ((.ref (86 : Nat)) :: (@PySem.Value.none :: ((.ref (87 : Nat)) :: ((.ref (88 : Nat)) :: ((.ref (89 : Nat)) :: ((@PySem.Value.int (281 : Int) (0 : Nat)) :: ((@PySem.Value.int (32 : Int) (0 : Nat)) :: ((@PySem.Value.str (Str.ofString "/claim/cut.py") (282 : Nat)) :: []))))))))))))))))))))) (@List.toArray (@Option @PySem.Value) []))) ::
  (nat_lit 92, (@PySem.Obj.mk (@PySem.Value.type "tuple") none (@PySem.Data.seq (@List.toArray @PySem.Value []) (0 : Nat)) (@List.toArray (@Option @PySem.Value) []))) ::
  (nat_lit 95, (@PySem.Obj.mk (@PySem.Value.type "code") none (@PySem.Data.fields (@List.toArray @PySem.Value ((@PySem.Value.str (Str.ofString "_parse_coefficients") (284 : Nat)) :: ((@PySem.Value.str (Str.ofString "GenericPolynomial._parse_coefficients") (285 : Nat)) :: ((@PySem.Value.str (Str.ofString "/claim/cut.py") (286 : Nat)) :: ((@PySem.Value.int (35 : Int) (0 : Nat)) :: ((@PySem.Value.int (2 : Int) (0 : Nat)) :: ((@PySem.Value.int (0 : Int) (0 : Nat)) :: ((@PySem.Value.int (0 : Int) (0 : Nat)) :: ((@PySem.Value.int (3 : Int) (0 : Nat)) :: ((.ref (92 : Nat)) :: ((@PySem.Value.bool @Bool.true) :: ((@PySem.Value.int (181 : Int) (0 : Nat)) :: ((.ref (93 : Nat)) :: (@PySem.Value.none :: (@PySem.Value.none :: (@PySem.Value.none :: ((.ref (94 : Nat)) :: ((@PySem.Value.int (287 : Int) (0 : Nat)) :: ((@PySem.Value.int (35 : Int) (0 : Nat)) :: ((@PySem.Value.str (Str.ofString "/claim/cut.py") (288 : Nat)) :: []))))))))))))))))))))) (@List.toArray (@Option @PySem.Value) []))) ::
  (nat_lit 96, (PySem.Obj.mk (@PySem.Value.type "function") none (PySem.Data.func (PySem.FuncData.mk (Str.ofString "_parse_coefficients") (Str.ofString "GenericPolynomial._parse_coefficients") fP96 (PySem.FuncBody.stmts fB96) fS96 (3 : Nat) [] @PySem.Value.none @PySem.Value.none @PySem.Value.none (@PySem.Value.str (Str.ofString "kyber_py.polynomials.polynomials_generic") (194 : Nat)) none (.ref (95 : Nat)) @PySem.Value.none (0 : Nat))) (@List.toArray (@Option @PySem.Value) []))) ::
  (nat_lit 97, (@PySem.Obj.mk (@PySem.Value.type "tuple") none (@PySem.Data.seq (@List.toArray @PySem.Value []) (0 : Nat)) (@List.toArray (@Option @PySem.Value) []))) ::
  (nat_lit 99, (@PySem.Obj.mk (@PySem.Value.type "tuple") none (@PySem.Data.seq (@List.toArray @PySem.Value ((@PySem.Value.str (Str.ofString "self") (293 : Nat)) :: [])) (0 : Nat)) (@List.toArray (@Option @PySem.Value) []))) ::
  (nat_lit 100, (@PySem.Obj.mk (@PySem.Value.type "tuple") none (@PySem.Data.seq (@List.toArray @PySem.Value []) (0 : Nat)) (@List.toArray (@Option @PySem.Value) []))) ::
  (nat_lit 102, (@PySem.Obj.mk (@PySem.Value.type "code") none (@PySem.Data.fields (@List.toArray @PySem.Value ((@PySem.Value.str (Str.ofString "reduce_coefficients") (290 : Nat)) :: ((@PySem.Value.str (Str.ofString "GenericPolynomial.reduce_coefficients") (291 : Nat)) :: ((@PySem.Value.str (Str.ofString "/claim/cut.py") (292 : Nat)) :: ((@PySem.Value.int (43 : Int) (0 : Nat)) :: ((@PySem.Value.int (1 : Int) (0 : Nat)) :: ((@PySem.Value.int (0 : Int) (0 : Nat)) :: ((@PySem.Value.int (0 : Int) (0 : Nat)) :: ((@PySem.Value.int (3 : Int) (0 : Nat)) :: ((.ref (97 : Nat)) :: ((@PySem.Value.bool @Bool.true) :: ((@PySem.Value.int (181 : Int) (0 : Nat)) :: ((.ref (98 : Nat)) :: (@PySem.Value.none :: ((.ref (99 : Nat)) :: ((.ref (100 : Nat)) :: ((.ref (101 : Nat)) :: ((@PySem.Value.int (294 : Int) (0 : Nat)) :: ((@PySem.Value.int (43 : Int) (0 : Nat)) :: ((@PySem.Value.str (Str.ofString "/claim/cut.py") (295 : Nat)) :: []))))))))))))))))))))) (@List.toArray (@Option @PySem.Value) []))) ::
  (nat_lit 104, (@PySem.Obj.mk (@PySem.Value.type "tuple") none (@PySem.Data.seq (@List.toArray @PySem.Value []) (0 : Nat)) (@List.toArray (@Option @PySem.Value) []))) ::
  (nat_lit 106, (@PySem.Obj.mk (@PySem.Value.type "tuple") none (@PySem.Data.seq (@List.toArray @PySem.Value ((@PySem.Value.str (Str.ofString "self") (300 : Nat)) :: ((@PySem.Value.str (Str.ofString "x") (301 : Nat)) :: ((@PySem.Value.str (Str.ofString "y") (302 : Nat)) :: [])))) (0 : Nat)) (@List.toArray (@Option @PySem.Value) []))) ::
  (nat_lit 107, (@PySem.Obj.mk (@PySem.Value.type "tuple") none (@PySem.Data.seq (@List.toArray @PySem.Value []) (0 : Nat)) (@List.toArray (@Option @PySem.Value) []))) ::
  (nat_lit 109, (@PySem.Obj.mk (@PySem.Value.type "code") none (@PySem.Data.fields (@List.toArray @PySem.Value ((@PySem.Value.str (Str.ofString "_add_mod_q") (297 : Nat)) :: ((@PySem.Value.str (Str.ofString "GenericPolynomial._add_mod_q") (298 : Nat)) :: ((@PySem.Value.str (Str.ofString "/claim/cut.py") (299 : Nat)) :: ((@PySem.Value.int (46 : Int) (0 : Nat)) :: ((@PySem.Value.int (3 : Int) (0 : Nat)) :: ((@PySem.Value.int (0 : Int) (0 : Nat)) :: ((@PySem.Value.int (0 : Int) (0 : Nat)) :: ((@PySem.Value.int (3 : Int) (0 : Nat)) :: ((.ref (104 : Nat)) :: ((@PySem.Value.bool @Bool.true) :: ((@PySem.Value.int (181 : Int) (0 : Nat)) :: ((.ref (105 : Nat)) :: (@PySem.Value.none :: ((.ref (106 : Nat)) :: ((.ref (107 : Nat)) :: ((.ref (108 : Nat)) :: ((@PySem.Value.int (303 : Int) (0 : Nat)) :: ((@PySem.Value.int (46 : Int) (0 : Nat)) :: ((@PySem.Value.str (Str.ofString "/claim/cut.py") (304 : Nat)) :: []))))))))))))))))))))) (@List.toArray (@Option @PySem.Value) []))) ::
  (nat_lit 111, (@PySem.Obj.mk (@PySem.Value.type "tuple") none (@PySem.Data.seq (@List.toArray @PySem.Value []) (0 : Nat)) (@List.toArray (@Option @PySem.Value) []))) ::
  (nat_lit 113, (@PySem.Obj.mk (@PySem.Value.type "tuple") none (@PySem.Data.seq (@List.toArray @PySem.Value ((@PySem.Value.str (Str.ofString "self") (309 : Nat)) :: ((@PySem.Value.str (Str.ofString "x") (310 : Nat)) :: ((@PySem.Value.str (Str.ofString "y") (311 : Nat)) :: [])))) (0 : Nat)) (@List.toArray (@Option @PySem.Value) []))) ::
  (nat_lit 114, (@PySem.Obj.mk (@PySem.Value.type "tuple") none (@PySem.Data.seq (@List.toArray @PySem.Value []) (0 : Nat)) (@List.toArray (@Option @PySem.Value) []))) ::
  (nat_lit 116, (@PySem.Obj.mk (@PySem.Value.type "code") none (@PySem.Data.fields (@List.toArray @PySem.Value ((@PySem.Value.str (Str.ofString "_sub_mod_q") (306 : Nat)) :: ((@PySem.Value.str (Str.ofString "GenericPolynomial._sub_mod_q") (307 : Nat)) :: ((@PySem.Value.str (Str.ofString "/claim/cut.py") (308 : Nat)) :: ((@PySem.Value.int (49 : Int) (0 : Nat)) :: ((@PySem.Value.int (3 : Int) (0 : Nat)) :: ((@PySem.Value.int (0 : Int) (0 : Nat)) :: ((@PySem.Value.int (0 : Int) (0 : Nat)) :: ((@PySem.Value.int (3 : Int) (0 : Nat)) :: ((.ref (111 : Nat)) :: ((@PySem.Value.bool @Bool.true) :: ((@PySem.Value.int (181 : Int) (0 : Nat)) :: ((.ref (112 : Nat)) :: (@PySem.Value.none :: ((.ref (113 : Nat)) :: ((.ref (114 : Nat)) :: ((.ref (115 : Nat)) :: ((@PySem.Value.int (312 : Int) (0 : Nat)) :: ((@PySem.Value.int (49 : Int) (0 : Nat)) :: ((@PySem.Value.str (Str.ofString "/claim/cut.py") (313 : Nat)) :: []))))))))))))))))))))) (@List.toArray (@Option @PySem.Value) []))) ::
  (nat_lit 118, (@PySem.Obj.mk (@PySem.Value.type "tuple") none (@PySem.Data.seq (@List.toArray @PySem.Value []) (0 : Nat)) (@List.toArray (@Option @PySem.Value) []))) ::
  (nat_lit 121, (@PySem.Obj.mk (@PySem.Value.type "code") none (@PySem.Data.fields (@List.toArray @PySem.Value ((@PySem.Value.str (Str.ofString "_schoolbook_multiplication") (315 : Nat)) :: ((@PySem.Value.str (Str.ofString "GenericPolynomial._schoolbook_multiplication") (316 : Nat)) :: ((@PySem.Value.str (Str.ofString "/claim/cut.py") (317 : Nat)) :: ((@PySem.Value.int (52 : Int) (0 : Nat)) :: ((@PySem.Value.int (2 : Int) (0 : Nat)) :: ((@PySem.Value.int (0 : Int) (0 : Nat)) :: ((@PySem.Value.int (0 : Int) (0 : Nat)) :: ((@PySem.Value.int (3 : Int) (0 : Nat)) :: ((.ref (118 : Nat)) :: ((@PySem.Value.bool @Bool.true) :: ((@PySem.Value.int (181 : Int) (0 : Nat)) :: ((.ref (119 : Nat)) :: (@PySem.Value.none :: (@PySem.Value.none :: (@PySem.Value.none :: ((.ref (120 : Nat)) :: ((@PySem.Value.int (318 : Int) (0 : Nat)) :: ((@PySem.Value.int (52 : Int) (0 : Nat)) :: ((@PySem.Value.str (Str.ofString "/claim/cut.py") (319 : Nat)) :: []))))))))))))))))))))) (@List.toArray (@Option @PySem.Value) []))) ::
  (nat_lit 123, (@PySem.Obj.mk (@PySem.Value.type "tuple") none (@PySem.Data.seq (@List.toArray @PySem.Value []) (0 : Nat)) (@List.toArray (@Option @PySem.Value) []))) ::
  (nat_lit 126, (@PySem.Obj.mk (@PySem.Value.type "code") none (@PySem.Data.fields (@List.toArray @PySem.Value ((@PySem.Value.str (Str.ofString "__neg__") (321 : Nat)) :: ((@PySem.Value.str (Str.ofString "GenericPolynomial.__neg__") (322 : Nat)) :: ((@PySem.Value.str (Str.ofString "/claim/cut.py") (323 : Nat)) :: ((@PySem.Value.int (65 : Int) (0 : Nat)) :: ((@PySem.Value.int (1 : Int) (0 : Nat)) :: ((@PySem.Value.int (0 : Int) (0 : Nat)) :: ((@PySem.Value.int (0 : Int) (0 : Nat)) :: ((@PySem.Value.int (3 : Int) (0 : Nat)) :: ((.ref (123 : Nat)) :: ((@PySem.Value.bool @Bool.true) :: ((@PySem.Value.int (181 : Int) (0 : Nat)) :: ((.ref (124 : Nat)) :: (@PySem.Value.none :: (@PySem.Value.none :: (@PySem.Value.none :: ((.ref (125 : Nat)) :: ((@PySem.Value.int (324 : Int) (0 : Nat)) :: ((@PySem.Value.int (65 : Int) (0 : Nat)) :: ((@PySem.Value.str (Str.ofString "/claim/cut.py") (325 : Nat)) :: []))))))))))))))))))))) (@List.toArray (@Option @PySem.Value) []))) ::
  (nat_lit 128, (@PySem.Obj.mk (@PySem.Value.type "tuple") none (@PySem.Data.seq (@List.toArray @PySem.Value []) (0 : Nat)) (@List.toArray (@Option @PySem.Value) []))) ::
  (nat_lit 131, (@PySem.Obj.mk (@PySem.Value.type "code") none (@PySem.Data.fields (@List.toArray @PySem.Value ((@PySem.Value.str (Str.ofString "_add_") (327 : Nat)) :: ((@PySem.Value.str (Str.ofString "GenericPolynomial._add_") (328 : Nat)) :: ((@PySem.Value.str (Str.ofString "/claim/cut.py") (329 : Nat)) :: ((@PySem.Value.int (69 : Int) (0 : Nat)) :: ((@PySem.Value.int (2 : Int) (0 : Nat)) :: ((@PySem.Value.int (0 : Int) (0 : Nat)) :: ((@PySem.Value.int (0 : Int) (0 : Nat)) :: ((@PySem.Value.int (3 : Int) (0 : Nat)) :: ((.ref (128 : Nat)) :: ((@PySem.Value.bool @Bool.true) :: ((@PySem.Value.int (181 : Int) (0 : Nat)) :: ((.ref (129 : Nat)) :: (@PySem.Value.none :: (@PySem.Value.none :: (@PySem.Value.none :: ((.ref (130 : Nat)) :: ((@PySem.Value.int (330 : Int) (0 : Nat)) :: ((@PySem.Value.int (69 : Int) (0 : Nat)) :: ((@PySem.Value.str (Str.ofString "/claim/cut.py") (331 : Nat)) :: []))))))))))))))))))))) (@List.toArray (@Option @PySem.Value) []))) ::
  (nat_lit 133, (@PySem.Obj.mk (@PySem.Value.type "tuple") none (@PySem.Data.seq (@List.toArray @PySem.Value []) (0 : Nat)) (@List.toArray (@Option @PySem.Value) []))) ::
  (nat_lit 135, (@PySem.Obj.mk (@PySem.Value.type "tuple") none (@PySem.Data.seq (@List.toArray @PySem.Value ((@PySem.Value.str (Str.ofString "self") (336 : Nat)) :: ((@PySem.Value.str (Str.ofString "other") (337 : Nat)) :: ((@PySem.Value.str (Str.ofString "new_coeffs") (338 : Nat)) :: [])))) (0 : Nat)) (@List.toArray (@Option @PySem.Value) []))) ::
  (nat_lit 136, (@PySem.Obj.mk (@PySem.Value.type "tuple") none (@PySem.Data.seq (@List.toArray @PySem.Value []) (0 : Nat)) (@List.toArray (@Option @PySem.Value) []))) ::
  (nat_lit 138, (@PySem.Obj.mk (@PySem.Value.type "code") none (@PySem.Data.fields (@List.toArray @PySem.Value ((@PySem.Value.str (Str.ofString "__add__") (333 : Nat)) :: ((@PySem.Value.str (Str.ofString "GenericPolynomial.__add__") (334 : Nat)) :: ((@PySem.Value.str (Str.ofString "/claim/cut.py") (335 : Nat)) :: ((@PySem.Value.int (79 : Int) (0 : Nat)) :: ((@PySem.Value.int (2 : Int) (0 : Nat)) :: ((@PySem.Value.int (0 : Int) (0 : Nat)) :: ((@PySem.Value.int (0 : Int) (0 : Nat)) :: ((@PySem.Value.int (3 : Int) (0 : Nat)) :: ((.ref (133 : Nat)) :: ((@PySem.Value.bool @Bool.true) :: ((@PySem.Value.int (181 : Int) (0 : Nat)) :: ((.ref (134 : Nat)) :: (@PySem.Value.none :: ((.ref (135 : Nat)) :: ((.ref (136 : Nat)) :: ((.ref (137 : Nat)) :: ((@PySem.Value.int (339 : Int) (0 : Nat)) :: ((@PySem.Value.int (79 : Int) (0 : Nat)) :: ((@PySem.Value.str (Str.ofString "/claim/cut.py") (340 : Nat)) :: []))))))))))))))))))))) (@List.toArray (@Option @PySem.Value) []))) ::
  (nat_lit 140, (@PySem.Obj.mk (@PySem.Value.type "tuple") none (@PySem.Data.seq (@List.toArray @PySem.Value []) (0 : Nat)) (@List.toArray (@Option @PySem.Value) []))) ::
  (nat_lit 142, (@PySem.Obj.mk (@PySem.Value.type "tuple") none (@PySem.Data.seq (@List.toArray @PySem.Value ((@PySem.Value.str (Str.ofString "self") (345 : Nat)) :: ((@PySem.Value.str (Str.ofString "other") (346 : Nat)) :: []))) (0 : Nat)) (@List.toArray (@Option @PySem.Value) []))) ::
  (nat_lit 143, (@PySem.Obj.mk (@PySem.Value.type "tuple") none (@PySem.Data.seq (@List.toArray @PySem.Value []) (0 : Nat)) (@List.toArray (@Option @PySem.Value) []))) ::
  (nat_lit 145, (@PySem.Obj.mk (@PySem.Value.type "code") none (@PySem.Data.fields (@List.toArray @PySem.Value ((@PySem.Value.str (Str.ofString "__radd__") (342 : Nat)) :: ((@PySem.Value.str (Str.ofString "GenericPolynomial.__radd__") (343 : Nat)) :: ((@PySem.Value.str (Str.ofString "/claim/cut.py") (344 : Nat)) :: ((@PySem.Value.int (83 : Int) (0 : Nat)) :: ((@PySem.Value.int (2 : Int) (0 : Nat)) :: ((@PySem.Value.int (0 : Int) (0 : Nat)) :: ((@PySem.Value.int (0 : Int) (0 : Nat)) :: ((@PySem.Value.int (3 : Int) (0 : Nat)) :: ((.ref (140 : Nat)) :: ((@PySem.Value.bool @Bool.true) :: ((@PySem.Value.int (181 : Int) (0 : Nat)) :: ((.ref (141 : Nat)) :: (@PySem.Value.none :: ((.ref (142 : Nat)) :: ((.ref (143 : Nat)) :: ((.ref (144 : Nat)) :: ((@PySem.Value.int (347 : Int) (0 : Nat)) :: ((@PySem.Value.int (83 : Int) (0 : Nat)) :: ((@PySem.Value.str (Str.ofString "/claim/cut.py") (348 : Nat)) :: []))))))))))))))))))))) (@List.toArray (@Option @PySem.Value) []))) ::
  (nat_lit 147, (@PySem.Obj.mk (@PySem.Value.type "tuple") none (@PySem.Data.seq (@List.toArray @PySem.Value []) (0 : Nat)) (@List.toArray (@Option @PySem.Value) []))) ::
  (nat_lit 149, (@PySem.Obj.mk (@PySem.Value.type "tuple") none (@PySem.Data.seq (@List.toArray @PySem.Value ((@PySem.Value.str (Str.ofString "self") (353 : Nat)) :: ((@PySem.Value.str (Str.ofString "other") (354 : Nat)) :: []))) (0 : Nat)) (@List.toArray (@Option @PySem.Value) []))) ::
  (nat_lit 150, (@PySem.Obj.mk (@PySem.Value.type "tuple") none (@PySem.Data.seq (@List.toArray @PySem.Value []) (0 : Nat)) (@List.toArray (@Option @PySem.Value) []))) ::
  (nat_lit 152, (@PySem.Obj.mk (@PySem.Value.type "code") none (@PySem.Data.fields (@List.toArray @PySem.Value ((@PySem.Value.str (Str.ofString "__iadd__") (350 : Nat)) :: ((@PySem.Value.str (Str.ofString "GenericPolynomial.__iadd__") (351 : Nat)) :: ((@PySem.Value.str (Str.ofString "/claim/cut.py") (352 : Nat)) :: ((@PySem.Value.int (86 : Int) (0 : Nat)) :: ((@PySem.Value.int (2 : Int) (0 : Nat)) :: ((@PySem.Value.int (0 : Int) (0 : Nat)) :: ((@PySem.Value.int (0 : Int) (0 : Nat)) :: ((@PySem.Value.int (3 : Int) (0 : Nat)) :: ((.ref (147 : Nat)) :: ((@PySem.Value.bool @Bool.true) :: ((@PySem.Value.int (181 : Int) (0 : Nat)) :: ((.ref (148 : Nat)) :: (@PySem.Value.none :: ((.ref (149 : Nat)) :: ((.ref (150 : Nat)) :: ((.ref (151 : Nat)) :: ((@PySem.Value.int (355 : Int) (0 : Nat)) :: ((@PySem.Value.int (86 : Int) (0 : Nat)) :: ((@PySem.Value.str (Str.ofString "/claim/cut.py") (356 : Nat)) :: []))))))))))))))))))))) (@List.toArray (@Option @PySem.Value) []))) ::
  (nat_lit 154, (@PySem.Obj.mk (@PySem.Value.type "tuple") none (@PySem.Data.seq (@List.toArray @PySem.Value []) (0 : Nat)) (@List.toArray (@Option @PySem.Value) []))) ::
  (nat_lit 157, (@PySem.Obj.mk (@PySem.Value.type "code") none (@PySem.Data.fields (@List.toArray @PySem.Value ((@PySem.Value.str (Str.ofString "_sub_") (358 : Nat)) :: ((@PySem.Value.str (Str.ofString "GenericPolynomial._sub_") (359 : Nat)) :: ((@PySem.Value.str (Str.ofString "/claim/cut.py") (360 : Nat)) :: ((@PySem.Value.int (90 : Int) (0 : Nat)) :: ((@PySem.Value.int (2 : Int) (0 : Nat)) :: ((@PySem.Value.int (0 : Int) (0 : Nat)) :: ((@PySem.Value.int (0 : Int) (0 : Nat)) :: ((@PySem.Value.int (3 : Int) (0 : Nat)) :: ((.ref (154 : Nat)) :: ((@PySem.Value.bool @Bool.true) :: ((@PySem.Value.int (181 : Int) (0 : Nat)) :: ((.ref (155 : Nat)) :: (@PySem.Value.none :: (@PySem.Value.none :: (@PySem.Value.none :: ((.ref (156 : Nat)) :: ((@PySem.Value.int (361 : Int) (0 : Nat)) :: ((@PySem.Value.int (90 : Int) (0 : Nat)) :: ((@PySem.Value.str (Str.ofString "/claim/cut.py") (362 : Nat)) :: []))))))))))))))))))))) (@List.toArray (@Option @PySem.Value) []))) ::
  (nat_lit 159, (@PySem.Obj.mk (@PySem.Value.type "tuple") none (@PySem.Data.seq (@List.toArray @PySem.Value []) (0 : Nat)) (@List.toArray (@Option @PySem.Value) []))) ::
  (nat_lit 161, (@PySem.Obj.mk (@PySem.Value.type "tuple") none (@PySem.Data.seq (@List.toArray @PySem.Value ((@PySem.Value.str (Str.ofString "self") (367 : Nat)) :: ((@PySem.Value.str (Str.ofString "other") (368 : Nat)) :: ((@PySem.Value.str (Str.ofString "new_coeffs") (369 : Nat)) :: [])))) (0 : Nat)) (@List.toArray (@Option @PySem.Value) []))) ::
  (nat_lit 162, (@PySem.Obj.mk (@PySem.Value.type "tuple") none (@PySem.Data.seq (@List.toArray @PySem.Value []) (0 : Nat)) (@List.toArray (@Option @PySem.Value) []))) ::
  (nat_lit 164, (@PySem.Obj.mk (@PySem.Value.type "code") none (@PySem.Data.fields (@List.toArray @PySem.Value ((@PySem.Value.str (Str.ofString "__sub__") (364 : Nat)) :: ((@PySem.Value.str (Str.ofString "GenericPolynomial.__sub__") (365 : Nat)) :: ((@PySem.Value.str (Str.ofString "/claim/cut.py") (366 : Nat)) :: ((@PySem.Value.int (100 : Int) (0 : Nat)) :: ((@PySem.Value.int (2 : Int) (0 : Nat)) :: ((@PySem.Value.int (0 : Int) (0 : Nat)) :: ((@PySem.Value.int (0 : Int) (0 : Nat)) :: ((@PySem.Value.int (3 : Int) (0 : Nat)) :: ((.ref (159 : Nat)) :: ((@PySem.Value.bool @Bool.true) :: ((@PySem.Value.int (181 : Int) (0 : Nat)) :: ((.ref (160 : Nat)) :: (@PySem.Value.none :: ((.ref (161 : Nat)) :: ((.ref (162 : Nat)) :: ((.ref (163 : Nat)) :: ((@PySem.Value.int (370 : Int) (0 : Nat)) :: ((@PySem.Value.int (100 : Int) (0 : Nat)) :: ((@PySem.Value.str (Str.ofString "/claim/cut.py") (371 : Nat)) :: []))))))))))))))))))))) (@List.toArray (@Option @PySem.Value) []))) ::
  (nat_lit 166, (@PySem.Obj.mk (@PySem.Value.type "tuple") none (@PySem.Data.seq (@List.toArray @PySem.Value []) (0 : Nat)) (@List.toArray (@Option @PySem.Value) []))) ::
  (nat_lit 168, (@PySem.Obj.mk (@PySem.Value.type "tuple") none (@PySem.Data.seq (@List.toArray @PySem.Value ((@PySem.Value.str (Str.ofString "self") (376 : Nat)) :: ((@PySem.Value.str (Str.ofString "other") (377 : Nat)) :: []))) (0 : Nat)) (@List.toArray (@Option @PySem.Value) []))) ::
  (nat_lit 169, (@PySem.Obj.mk (@PySem.Value.type "tuple") none (@PySem.Data.seq (@List.toArray @PySem.Value []) (0 : Nat)) (@List.toArray (@Option @PySem.Value) []))) ::
  (nat_lit 171, (@PySem.Obj.mk (@PySem.Value.type "code") none (@PySem.Data.fields (@List.toArray @PySem.Value ((@PySem.Value.str (Str.ofString "__rsub__") (373 : Nat)) :: ((@PySem.Value.str (Str.ofString "GenericPolynomial.__rsub__") (374 : Nat)) :: ((@PySem.Value.str (Str.ofString "/claim/cut.py") (375 : Nat)) :: ((@PySem.Value.int (104 : Int) (0 : Nat)) :: ((@PySem.Value.int (2 : Int) (0 : Nat)) :: ((@PySem.Value.int (0 : Int) (0 : Nat)) :: ((@PySem.Value.int (0 : Int) (0 : Nat)) :: ((@PySem.Value.int (3 : Int) (0 : Nat)) :: ((.ref (166 : Nat)) :: ((@PySem.Value.bool @Bool.true) :: ((@PySem.Value.int (181 : Int) (0 : Nat)) :: ((.ref (167 : Nat)) :: (@PySem.Value.none :: ((.ref (168 : Nat)) :: ((.ref (169 : Nat)) :: ((.ref (170 : Nat)) :: ((@PySem.Value.int (378 : Int) (0 : Nat)) :: ((@PySem.Value.int (104 : Int) (0 : Nat)) :: ((@PySem.Value.str (Str.ofString "/claim/cut.py") (379 : Nat)) :: []))))))))))))))))))))) (@List.toArray (@Option @PySem.Value) []))) ::
  (nat_lit 173, (@PySem.Obj.mk (@PySem.Value.type "tuple") none (@PySem.Data.seq (@List.toArray @PySem.Value []) (0 : Nat)) (@List.toArray (@Option @PySem.Value) []))) ::
  (nat_lit 175, (@PySem.Obj.mk (@PySem.Value.type "tuple") none (@PySem.Data.seq (@List.toArray @PySem.Value ((@PySem.Value.str (Str.ofString "self") (384 : Nat)) :: ((@PySem.Value.str (Str.ofString "other") (385 : Nat)) :: []))) (0 : Nat)) (@List.toArray (@Option @PySem.Value) []))) ::
  (nat_lit 176, (@PySem.Obj.mk (@PySem.Value.type "tuple") none (@PySem.Data.seq (@List.toArray @PySem.Value []) (0 : Nat)) (@List.toArray (@Option @PySem.Value) []))) ::
  (nat_lit 178, (@PySem.Obj.mk (@PySem.Value.type "code") none (@PySem.Data.fields (@List.toArray @PySem.Value ((@PySem.Value.str (Str.ofString "__isub__") (381 : Nat)) :: ((@PySem.Value.str (Str.ofString "GenericPolynomial.__isub__") (382 : Nat)) :: ((@PySem.Value.str (Str.ofString "/claim/cut.py") (383 : Nat)) :: ((@PySem.Value.int (107 : Int) (0 : Nat)) :: ((@PySem.Value.int (2 : Int) (0 : Nat)) :: ((@PySem.Value.int (0 : Int) (0 : Nat)) :: ((@PySem.Value.int (0 : Int) (0 : Nat)) :: ((@PySem.Value.int (3 : Int) (0 : Nat)) :: ((.ref (173 : Nat)) :: ((@PySem.Value.bool @Bool.true) :: ((@PySem.Value.int (181 : Int) (0 : Nat)) :: ((.ref (174 : Nat)) :: (@PySem.Value.none :: ((.ref (175 : Nat)) :: ((.ref (176 : Nat)) :: ((.ref (177 : Nat)) :: ((@PySem.Value.int (386 : Int) (0 : Nat)) :: ((@PySem.Value.int (107 : Int) (0 : Nat)) :: ((@PySem.Value.str (Str.ofString "/claim/cut.py") (387 : Nat)) :: []))))))))))))))))))))) (@List.toArray (@Option @PySem.Value) []))) ::
  (nat_lit 180, (@PySem.Obj.mk (@PySem.Value.type "tuple") none (@PySem.Data.seq (@List.toArray @PySem.Value []) (0 : Nat)) (@List.toArray (@Option @PySem.Value) []))) ::
  (nat_lit 183, (@PySem.Obj.mk (@PySem.Value.type "code") none (@PySem.Data.fields (@List.toArray @PySem.Value ((@PySem.Value.str (Str.ofString "__mul__") (389 : Nat)) :: ((@PySem.Value.str (Str.ofString "GenericPolynomial.__mul__") (390 : Nat)) :: ((@PySem.Value.str (Str.ofString "/claim/cut.py") (391 : Nat)) :: ((@PySem.Value.int (111 : Int) (0 : Nat)) :: ((@PySem.Value.int (2 : Int) (0 : Nat)) :: ((@PySem.Value.int (0 : Int) (0 : Nat)) :: ((@PySem.Value.int (0 : Int) (0 : Nat)) :: ((@PySem.Value.int (3 : Int) (0 : Nat)) :: ((.ref (180 : Nat)) :: ((@PySem.Value.bool @Bool.true) :: ((@PySem.Value.int (181 : Int) (0 : Nat)) :: ((.ref (181 : Nat)) :: (@PySem.Value.none :: (@PySem.Value.none :: (@PySem.Value.none :: ((.ref (182 : Nat)) :: ((@PySem.Value.int (392 : Int) (0 : Nat)) :: ((@PySem.Value.int (111 : Int) (0 : Nat)) :: ((@PySem.Value.str (Str.ofString "/claim/cut.py") (393 : Nat)) :: []))))))))))))))))))))) (@List.toArray (@Option @PySem.Value) []))) ::
  (nat_lit 185, (@PySem.Obj.mk (@PySem.Value.type "tuple") none (@PySem.Data.seq (@List.toArray @PySem.Value []) (0 : Nat)) (@List.toArray (@Option @PySem.Value) []))) ::
  (nat_lit 187, (@PySem.Obj.mk (@PySem.Value.type "tuple") none (@PySem.Data.seq (@List.toArray @PySem.Value ((@PySem.Value.str (Str.ofString "self") (398 : Nat)) :: ((@PySem.Value.str (Str.ofString "other") (399 : Nat)) :: []))) (0 : Nat)) (@List.toArray (@Option @PySem.Value) []))) ::
  (nat_lit 188, (@PySem.Obj.mk (@PySem.Value.type "tuple") none (@PySem.Data.seq (@List.toArray @PySem.Value []) (0 : Nat)) (@List.toArray (@Option @PySem.Value) []))) ::
  (nat_lit 190, (@PySem.Obj.mk (@PySem.Value.type "code") none (@PySem.Data.fields (@List.toArray @PySem.Value ((@PySem.Value.str (Str.ofString "__rmul__") (395 : Nat)) :: ((@PySem.Value.str (Str.ofString "GenericPolynomial.__rmul__") (396 : Nat)) :: ((@PySem.Value.str (Str.ofString "/claim/cut.py") (397 : Nat)) :: ((@PySem.Value.int (120 : Int) (0 : Nat)) :: ((@PySem.Value.int (2 : Int) (0 : Nat)) :: ((@PySem.Value.int (0 : Int) (0 : Nat)) :: ((@PySem.Value.int (0 : Int) (0 : Nat)) :: ((@PySem.Value.int (3 : Int) (0 : Nat)) :: ((.ref (185 : Nat)) :: ((@PySem.Value.bool @Bool.true) :: ((@PySem.Value.int (181 : Int) (0 : Nat)) :: ((.ref (186 : Nat)) :: (@PySem.Value.none :: ((.ref (187 : Nat)) :: ((.ref (188 : Nat)) :: ((.ref (189 : Nat)) :: ((@PySem.Value.int (400 : Int) (0 : Nat)) :: ((@PySem.Value.int (120 : Int) (0 : Nat)) :: ((@PySem.Value.str (Str.ofString "/claim/cut.py") (401 : Nat)) :: []))))))))))))))))))))) (@List.toArray (@Option @PySem.Value) []))) ::
  (nat_lit 192, (@PySem.Obj.mk (@PySem.Value.type "tuple") none (@PySem.Data.seq (@List.toArray @PySem.Value []) (0 : Nat)) (@List.toArray (@Option @PySem.Value) []))) ::
  (nat_lit 194, (@PySem.Obj.mk (@PySem.Value.type "tuple") none (@PySem.Data.seq (@List.toArray @PySem.Value ((@PySem.Value.str (Str.ofString "self") (406 : Nat)) :: ((@PySem.Value.str (Str.ofString "other") (407 : Nat)) :: []))) (0 : Nat)) (@List.toArray (@Option @PySem.Value) []))) ::
  (nat_lit 195, (@PySem.Obj.mk (@PySem.Value.type "tuple") none (@PySem.Data.seq (@List.toArray @PySem.Value []) (0 : Nat)) (@List.toArray (@Option @PySem.Value) []))) ::
  (nat_lit 197, (@PySem.Obj.mk (@PySem.Value.type "code") none (@PySem.Data.fields (@List.toArray @PySem.Value ((@PySem.Value.str (Str.ofString "__imul__") (403 : Nat)) :: ((@PySem.Value.str (Str.ofString "GenericPolynomial.__imul__") (404 : Nat)) :: ((@PySem.Value.str (Str.ofString "/claim/cut.py") (405 : Nat)) :: ((@PySem.Value.int (123 : Int) (0 : Nat)) :: ((@PySem.Value.int (2 : Int) (0 : Nat)) :: ((@PySem.Value.int (0 : Int) (0 : Nat)) :: ((@PySem.Value.int (0 : Int) (0 : Nat)) :: ((@PySem.Value.int (3 : Int) (0 : Nat)) :: ((.ref (192 : Nat)) :: ((@PySem.Value.bool @Bool.true) :: ((@PySem.Value.int (181 : Int) (0 : Nat)) :: ((.ref (193 : Nat)) :: (@PySem.Value.none :: ((.ref (194 : Nat)) :: ((.ref (195 : Nat)) :: ((.ref (196 : Nat)) :: ((@PySem.Value.int (408 : Int) (0 : Nat)) :: ((@PySem.Value.int (123 : Int) (0 : Nat)) :: ((@PySem.Value.str (Str.ofString "/claim/cut.py") (409 : Nat)) :: []))))))))))))))))))))) (@List.toArray (@Option @PySem.Value) []))) ::
  (nat_lit 199, (@PySem.Obj.mk (@PySem.Value.type "tuple") none (@PySem.Data.seq (@List.toArray @PySem.Value []) (0 : Nat)) (@List.toArray (@Option @PySem.Value) []))) ::
  (nat_lit 201, (@PySem.Obj.mk (@PySem.Value.type "tuple") none (@PySem.Data.seq (@List.toArray @PySem.Value ((@PySem.Value.str (Str.ofString "self") (414 : Nat)) :: ((@PySem.Value.str (Str.ofString "n") (415 : Nat)) :: ((@PySem.Value.str (Str.ofString "f") (416 : Nat)) :: ((@PySem.Value.str (Str.ofString "g") (417 : Nat)) :: []))))) (0 : Nat)) (@List.toArray (@Option @PySem.Value) []))) ::
  (nat_lit 202, (@PySem.Obj.mk (@PySem.Value.type "tuple") none (@PySem.Data.seq (@List.toArray @PySem.Value []) (0 : Nat)) (@List.toArray (@Option @PySem.Value) []))) ::
  (nat_lit 204, (@PySem.Obj.mk (@PySem.Value.type "code") none (@PySem.Data.fields (@List.toArray @PySem.Value ((@PySem.Value.str (Str.ofString "__pow__") (411 : Nat)) :: ((@PySem.Value.str (Str.ofString "GenericPolynomial.__pow__") (412 : Nat)) :: ((@PySem.Value.str (Str.ofString "/claim/cut.py") (413 : Nat)) :: ((@PySem.Value.int (127 : Int) (0 : Nat)) :: ((@PySem.Value.int (2 : Int) (0 : Nat)) :: ((@PySem.Value.int (0 : Int) (0 : Nat)) :: ((@PySem.Value.int (0 : Int) (0 : Nat)) :: ((@PySem.Value.int (3 : Int) (0 : Nat)) :: ((.ref (199 : Nat)) :: ((@PySem.Value.bool @Bool.true) :: ((@PySem.Value.int (181 : Int) (0 : Nat)) :: ((.ref (200 : Nat)) :: (@PySem.Value.none :: ((.ref (201 : Nat)) :: ((.ref (202 : Nat)) :: ((.ref (203 : Nat)) :: ((@PySem.Value.int (418 : Int) (0 : Nat)) :: ((@PySem.Value.int (127 : Int) (0 : Nat)) :: ((@PySem.Value.str (Str.ofString "/claim/cut.py") (419 : Nat)) :: []))))))))))))))))))))) (@List.toArray (@Option @PySem.Value) []))) ::
  (nat_lit 206, (@PySem.Obj.mk (@PySem.Value.type "tuple") none (@PySem.Data.seq (@List.toArray @PySem.Value []) (0 : Nat)) (@List.toArray (@Option @PySem.Value) []))) ::
  (nat_lit 208, (@PySem.Obj.mk (@PySem.Value.type "tuple") none (@PySem.Data.seq (@List.toArray @PySem.Value ((@PySem.Value.str (Str.ofString "self") (424 : Nat)) :: ((@PySem.Value.str (Str.ofString "other") (425 : Nat)) :: []))) (0 : Nat)) (@List.toArray (@Option @PySem.Value) []))) ::
  (nat_lit 209, (@PySem.Obj.mk (@PySem.Value.type "tuple") none (@PySem.Data.seq (@List.toArray @PySem.Value []) (0 : Nat)) (@List.toArray (@Option @PySem.Value) []))) ::
  (nat_lit 211, (@PySem.Obj.mk (@PySem.Value.type "code") none (@PySem.Data.fields (@List.toArray @PySem.Value ((@PySem.Value.str (Str.ofString "__eq__") (421 : Nat)) :: ((@PySem.Value.str (Str.ofString "GenericPolynomial.__eq__") (422 : Nat)) :: ((@PySem.Value.str (Str.ofString "/claim/cut.py") (423 : Nat)) :: ((@PySem.Value.int (141 : Int) (0 : Nat)) :: ((@PySem.Value.int (2 : Int) (0 : Nat)) :: ((@PySem.Value.int (0 : Int) (0 : Nat)) :: ((@PySem.Value.int (0 : Int) (0 : Nat)) :: ((@PySem.Value.int (3 : Int) (0 : Nat)) :: ((.ref (206 : Nat)) :: ((@PySem.Value.bool @Bool.true) :: ((@PySem.Value.int (181 : Int) (0 : Nat)) :: ((.ref (207 : Nat)) :: (@PySem.Value.none :: ((.ref (208 : Nat)) :: ((.ref (209 : Nat)) :: ((.ref (210 : Nat)) :: ((@PySem.Value.int (426 : Int) (0 : Nat)) :: ((@PySem.Value.int (141 : Int) (0 : Nat)) :: ((@PySem.Value.str (Str.ofString "/claim/cut.py") (427 : Nat)) :: []))))))))))))))))))))) (@List.toArray (@Option @PySem.Value) []))) ::
  (nat_lit 213, (@PySem.Obj.mk (@PySem.Value.type "tuple") none (@PySem.Data.seq (@List.toArray @PySem.Value []) (0 : Nat)) (@List.toArray (@Option @PySem.Value) []))) ::
  (nat_lit 215, (@PySem.Obj.mk (@PySem.Value.type "tuple") none (@PySem.Data.seq (@List.toArray @PySem.Value ((@PySem.Value.str (Str.ofString "self") (432 : Nat)) :: ((@PySem.Value.str (Str.ofString "idx") (433 : Nat)) :: []))) (0 : Nat)) (@List.toArray (@Option @PySem.Value) []))) ::
  (nat_lit 216, (@PySem.Obj.mk (@PySem.Value.type "tuple") none (@PySem.Data.seq (@List.toArray @PySem.Value []) (0 : Nat)) (@List.toArray (@Option @PySem.Value) []))) ::
  (nat_lit 218, (@PySem.Obj.mk (@PySem.Value.type "code") none (@PySem.Data.fields (@List.toArray @PySem.Value ((@PySem.Value.str (Str.ofString "__getitem__") (429 : Nat)) :: ((@PySem.Value.str (Str.ofString "GenericPolynomial.__getitem__") (430 : Nat)) :: ((@PySem.Value.str (Str.ofString "/claim/cut.py") (431 : Nat)) :: ((@PySem.Value.int (149 : Int) (0 : Nat)) :: ((@PySem.Value.int (2 : Int) (0 : Nat)) :: ((@PySem.Value.int (0 : Int) (0 : Nat)) :: ((@PySem.Value.int (0 : Int) (0 : Nat)) :: ((@PySem.Value.int (3 : Int) (0 : Nat)) :: ((.ref (213 : Nat)) :: ((@PySem.Value.bool @Bool.true) :: ((@PySem.Value.int (181 : Int) (0 : Nat)) :: ((.ref (214 : Nat)) :: (@PySem.Value.none :: ((.ref (215 : Nat)) :: ((.ref (216 : Nat)) :: ((.ref (217 : Nat)) :: ((@PySem.Value.int (434 : Int) (0 : Nat)) :: ((@PySem.Value.int (149 : Int) (0 : Nat)) :: ((@PySem.Value.str (Str.ofString "/claim/cut.py") (435 : Nat)) :: []))))))))))))))))))))) (@List.toArray (@Option @PySem.Value) []))) ::
  (nat_lit 220, (@PySem.Obj.mk (@PySem.Value.type "tuple") none (@PySem.Data.seq (@List.toArray @PySem.Value ((@PySem.Value.str (Str.ofString "coeffs") (437 : Nat)) :: ((@PySem.Value.str (Str.ofString "parent") (438 : Nat)) :: []))) (0 : Nat)) (@List.toArray (@Option @PySem.Value) []))) ::
  (nat_lit 221, (@PySem.Obj.mk (@PySem.Value.type "dict") none (@PySem.Data.dict (@List.toArray @PySem.DictEntry ((@PySem.DictEntry.mk (@PySem.PyData.keyHash P (Str.ofString "__module__")) (@PySem.Value.str (Str.ofString "__module__") (256 : Nat)) (@PySem.Value.str (Str.ofString "kyber_py.polynomials.polynomials_generic") (194 : Nat))) :: ((@PySem.DictEntry.mk (@PySem.PyData.keyHash P (Str.ofString "__firstlineno__")) (@PySem.Value.str (Str.ofString "__firstlineno__") (260 : Nat)) (@PySem.Value.int (23 : Int) (259 : Nat))) :: ((@PySem.DictEntry.mk (@PySem.PyData.keyHash P (Str.ofString "__init__")) (@PySem.Value.str (Str.ofString "__init__") (269 : Nat)) (.ref (77 : Nat))) :: ((@PySem.DictEntry.mk (@PySem.PyData.keyHash P (Str.ofString "is_zero")) (@PySem.Value.str (Str.ofString "is_zero") (276 : Nat)) (.ref (84 : Nat))) :: ((@PySem.DictEntry.mk (@PySem.PyData.keyHash P (Str.ofString "is_constant")) (@PySem.Value.str (Str.ofString "is_constant") (283 : Nat)) (.ref (91 : Nat))) :: ((@PySem.DictEntry.mk (@PySem.PyData.keyHash P (Str.ofString "_parse_coefficients")) (@PySem.Value.str (Str.ofString "_parse_coefficients") (289 : Nat)) (.ref (96 : Nat))) :: ((@PySem.DictEntry.mk (@PySem.PyData.keyHash P (Str.ofString "reduce_coefficients")) (@PySem.Value.str (Str.ofString "reduce_coefficients") (296 : Nat)) (.ref (103 : Nat))) :: ((@PySem.DictEntry.mk (@PySem.PyData.keyHash P (Str.ofString "_add_mod_q")) (@PySem.Value.str (Str.ofString "_add_mod_q") (305 : Nat)) (.ref (110 : Nat))) :: ((@PySem.DictEntry.mk (@PySem.PyData.keyHash P (Str.ofString "_sub_mod_q")) (@PySem.Value.str (Str.ofString "_sub_mod_q") (314 : Nat)) (.ref (117 : Nat))) :: ((@PySem.DictEntry.mk (@PySem.PyData.keyHash P (Str.ofString "_schoolbook_multiplication")) (@PySem.Value.str (Str.ofString "_schoolbook_multiplication") (320 : Nat)) (.ref (122 : Nat))) :: ((@PySem.DictEntry.mk (@PySem.PyData.keyHash P (Str.ofString "__neg__")) (@PySem.Value.str (Str.ofString "__neg__") (326 : Nat)) (.ref (127 : Nat))) :: ((@PySem.DictEntry.mk (@PySem.PyData.keyHash P (Str.ofString "_add_")) (@PySem.Value.str (Str.ofString "_add_") (332 : Nat)) (.ref (132 : Nat))) :: ((@PySem.DictEntry.mk (@PySem.PyData.keyHash P (Str.ofString "__add__")) (@PySem.Value.str (Str.ofString "__add__") (341 : Nat)) (.ref (139 : Nat))) :: ((@PySem.DictEntry.mk (@PySem.PyData.keyHash P (Str.ofString "__radd__")) (@PySem.Value.str (Str.ofString "__radd__") (349 : Nat)) (.ref (146 : Nat))) :: ((@PySem.DictEntry.mk (@PySem.PyData.keyHash P (Str.ofString "__iadd__")) (@PySem.Value.str (Str.ofString "__iadd__") (357 : Nat)) (.ref (153 : Nat))) :: ((@PySem.DictEntry.mk (@PySem.PyData.keyHash P (Str.ofString "_sub_")) (@PySem.Value.str (Str.ofString "_sub_") (363 : Nat)) (.ref (158 : Nat))) :: ((@PySem.DictEntry.mk (@PySem.PyData.keyHash P (Str.ofString "__sub__")) (@PySem.Value.str (Str.ofString "__sub__") (372 : Nat)) (.ref (165 : Nat))) :: ((@PySem.DictEntry.mk (@PySem.PyData.keyHash P (Str.ofString "__rsub__")) (@PySem.Value.str (Str.ofString "__rsub__") (380 : Nat)) (.ref (172 : Nat))) :: ((@PySem.DictEntry.mk (@PySem.PyData.keyHash P (Str.ofString "__isub__")) (@PySem.Value.str (Str.ofString "__isub__") (388 : Nat)) (.ref (179 : Nat))) :: ((@PySem.DictEntry.mk (@PySem.PyData.keyHash P (Str.ofString "__mul__")) (@PySem.Value.str (Str.ofString "__mul__") (394 : Nat)) (.ref (184 : Nat))) :: ((@PySem.DictEntry.mk (@PySem.PyData.keyHash P (Str.ofString "__rmul__")) (@PySem.Value.str (Str.ofString "__rmul__") (402 : Nat)) (.ref (191 : Nat))) :: ((@PySem.DictEntry.mk (@PySem.PyData.keyHash P (Str.ofString "__imul__")) (@PySem.Value.str (Str.ofString "__imul__") (410 : Nat)) (.ref (198 : Nat))) :: ((@PySem.DictEntry.mk (@PySem.PyData.keyHash P (Str.ofString "__pow__")) (@PySem.Value.str (Str.ofString "__pow__") (420 : Nat)) (.ref (205 : Nat))) :: ((@PySem.DictEntry.mk (@PySem.PyData.keyHash P (Str.ofString "__eq__")) (@PySem.Value.str (Str.ofString "__eq__") (428 : Nat)) (.ref (212 : Nat))) :: ((@PySem.DictEntry.mk (@PySem.PyData.keyHash P (Str.ofString "__getitem__")) (@PySem.Value.str (Str.ofString "__getitem__") (436 : Nat)) (.ref (219 : Nat))) :: ((@PySem.DictEntry.mk (@PySem.PyData.keyHash P (Str.ofString "__static_attributes__")) (@PySem.Value.str (Str.ofString "__static_attributes__") (439 : Nat)) (.ref (220 : Nat))) :: ((@PySem.DictEntry.mk (@PySem.PyData.keyHash P (Str.ofString "__dict__")) (@PySem.Value.str (Str.ofString "__dict__") (441 : Nat)) (.ref (223 : Nat))) :: ((@PySem.DictEntry.mk (@PySem.PyData.keyHash P (Str.ofString "__weakref__")) (@PySem.Value.str (Str.ofString "__weakref__") (443 : Nat)) (.ref (224 : Nat))) :: ((@PySem.DictEntry.mk (@PySem.PyData.keyHash P (Str.ofString "__doc__")) (@PySem.Value.str (Str.ofString "__doc__") (444 : Nat)) @PySem.Value.none) :: ((@PySem.DictEntry.mk (@PySem.PyData.keyHash P (Str.ofString "__hash__")) (@PySem.Value.str (Str.ofString "__hash__") (445 : Nat)) @PySem.Value.none) :: []))))))))))))))))))))))))))))))) (5 : Nat)) (@List.toArray (@Option @PySem.Value) []))) ::
  (nat_lit 222, (@PySem.Obj.mk (@PySem.Value.type "type") none (@PySem.Data.cls (@PySem.ClassData.mk (Str.ofString "GenericPolynomial") ((@PySem.Value.type "object") :: []) ((.ref (222 : Nat)) :: ((@PySem.Value.type "object") :: [])) (221 : Nat) (Str.ofString "GenericPolynomial") @Bool.true [] ((.ref (350 : Nat)) :: []) @Bool.false none @Bool.false)) (@List.toArray (@Option @PySem.Value) (none :: (none :: ((some (@PySem.Value.str (Str.ofString "GenericPolynomial") (249 : Nat))) :: ((some (@PySem.Value.str (Str.ofString "GenericPolynomial") (257 : Nat))) :: ((some (@PySem.Value.builtin "object.__new__")) :: ((some (@PySem.Value.bool @Bool.true)) :: []))))))))) ::
  (nat_lit 223, (@PySem.Obj.mk (@PySem.Value.type "getset_descriptor") none (@PySem.Data.fields (@List.toArray @PySem.Value ((@PySem.Value.str (Str.ofString "__dict__") (440 : Nat)) :: ((.ref (222 : Nat)) :: ((@PySem.Value.builtin "function.__dict__") :: ((@PySem.Value.builtin "function.__dict__#set") :: [])))))) (@List.toArray (@Option @PySem.Value) []))) ::
  (nat_lit 224, (@PySem.Obj.mk (@PySem.Value.type "getset_descriptor") none (@PySem.Data.fields (@List.toArray @PySem.Value ((@PySem.Value.str (Str.ofString "__weakref__") (442 : Nat)) :: ((.ref (222 : Nat)) :: ((@PySem.Value.builtin "ExceptionGroup.__weakref__") :: (@PySem.Value.none :: [])))))) (@List.toArray (@Option @PySem.Value) []))) ::
  (nat_lit 227, (@PySem.Obj.mk (@PySem.Value.type "tuple") none (@PySem.Data.seq (@List.toArray @PySem.Value ((.ref (59 : Nat)) :: [])) (0 : Nat)) (@List.toArray (@Option @PySem.Value) []))) ::
  (nat_lit 234, (@PySem.Obj.mk (@PySem.Value.type "tuple") none (@PySem.Data.seq (@List.toArray @PySem.Value []) (0 : Nat)) (@List.toArray (@Option @PySem.Value) []))) ::
  (nat_lit 237, (@PySem.Obj.mk (@PySem.Value.type "code") none (@PySem.Data.fields (@List.toArray @PySem.Value ((@PySem.Value.str (Str.ofString "__init__") (462 : Nat)) :: ((@PySem.Value.str (Str.ofString "PolynomialRing.__init__") (463 : Nat)) :: ((@PySem.Value.str (Str.ofString "/claim/cut.py") (464 : Nat)) :: ((@PySem.Value.int (154 : Int) (0 : Nat)) :: ((@PySem.Value.int (1 : Int) (0 : Nat)) :: ((@PySem.Value.int (0 : Int) (0 : Nat)) :: ((@PySem.Value.int (0 : Int) (0 : Nat)) :: ((@PySem.Value.int (3 : Int) (0 : Nat)) :: ((.ref (234 : Nat)) :: ((@PySem.Value.bool @Bool.true) :: ((@PySem.Value.int (181 : Int) (0 : Nat)) :: ((.ref (235 : Nat)) :: (@PySem.Value.none :: (@PySem.Value.none :: (@PySem.Value.none :: ((.ref (236 : Nat)) :: ((@PySem.Value.int (465 : Int) (0 : Nat)) :: ((@PySem.Value.int (154 : Int) (0 : Nat)) :: ((@PySem.Value.str (Str.ofString "/claim/cut.py") (466 : Nat)) :: []))))))))))))))))))))) (@List.toArray (@Option @PySem.Value) []))) ::
  (nat_lit 238, (PySem.Obj.mk (@PySem.Value.type "function") none (PySem.Data.func (PySem.FuncData.mk (Str.ofString "__init__") (Str.ofString "PolynomialRing.__init__") fP238 (PySem.FuncBody.stmts fB238) fS238 (3 : Nat) [] @PySem.Value.none @PySem.Value.none @PySem.Value.none (@PySem.Value.str (Str.ofString "kyber_py.polynomials.polynomials") (448 : Nat)) none (.ref (237 : Nat)) @PySem.Value.none (0 : Nat))) (@List.toArray (@Option @PySem.Value) []))) ::
  (nat_lit 239, (@PySem.Obj.mk (@PySem.Value.type "tuple") none (@PySem.Data.seq (@List.toArray @PySem.Value []) (0 : Nat)) (@List.toArray (@Option @PySem.Value) []))) ::
  (nat_lit 241, (@PySem.Obj.mk (@PySem.Value.type "tuple") none (@PySem.Data.seq (@List.toArray @PySem.Value ((@PySem.Value.str (Str.ofString "i") (471 : Nat)) :: ((@PySem.Value.str (Str.ofString "k") (472 : Nat)) :: ((@PySem.Value.str (Str.ofString "bin_i") (473 : Nat)) :: [])))) (0 : Nat)) (@List.toArray (@Option @PySem.Value) []))) ::
  (nat_lit 242, (@PySem.Obj.mk (@PySem.Value.type "tuple") none (@PySem.Data.seq (@List.toArray @PySem.Value []) (0 : Nat)) (@List.toArray (@Option @PySem.Value) []))) ::
  (nat_lit 244, (@PySem.Obj.mk (@PySem.Value.type "code") none (@PySem.Data.fields (@List.toArray @PySem.Value ((@PySem.Value.str (Str.ofString "_br") (468 : Nat)) :: ((@PySem.Value.str (Str.ofString "PolynomialRing._br") (469 : Nat)) :: ((@PySem.Value.str (Str.ofString "/claim/cut.py") (470 : Nat)) :: ((@PySem.Value.int (161 : Int) (0 : Nat)) :: ((@PySem.Value.int (2 : Int) (0 : Nat)) :: ((@PySem.Value.int (0 : Int) (0 : Nat)) :: ((@PySem.Value.int (0 : Int) (0 : Nat)) :: ((@PySem.Value.int (3 : Int) (0 : Nat)) :: ((.ref (239 : Nat)) :: ((@PySem.Value.bool @Bool.true) :: ((@PySem.Value.int (181 : Int) (0 : Nat)) :: ((.ref (240 : Nat)) :: (@PySem.Value.none :: ((.ref (241 : Nat)) :: ((.ref (242 : Nat)) :: ((.ref (243 : Nat)) :: ((@PySem.Value.int (474 : Int) (0 : Nat)) :: ((@PySem.Value.int (161 : Int) (0 : Nat)) :: ((@PySem.Value.str (Str.ofString "/claim/cut.py") (475 : Nat)) :: []))))))))))))))))))))) (@List.toArray (@Option @PySem.Value) []))) ::
  (nat_lit 245, (PySem.Obj.mk (@PySem.Value.type "function") none (PySem.Data.func (PySem.FuncData.mk (Str.ofString "_br") (Str.ofString "PolynomialRing._br") fP245 (PySem.FuncBody.stmts fB245) fS245 (3 : Nat) [] @PySem.Value.none @PySem.Value.none @PySem.Value.none (@PySem.Value.str (Str.ofString "kyber_py.polynomials.polynomials") (448 : Nat)) (some (248 : Nat)) (.ref (244 : Nat)) @PySem.Value.none (0 : Nat))) (@List.toArray (@Option @PySem.Value) []))) ::
  (nat_lit 246, (@PySem.Obj.mk (@PySem.Value.type "dict") none (@PySem.Data.dict (@List.toArray @PySem.DictEntry ((@PySem.DictEntry.mk (@PySem.PyData.keyHash P (Str.ofString "__module__")) (@PySem.Value.str (Str.ofString "__module__") (477 : Nat)) (@PySem.Value.str (Str.ofString "kyber_py.polynomials.polynomials") (448 : Nat))) :: ((@PySem.DictEntry.mk (@PySem.PyData.keyHash P (Str.ofString "__name__")) (@PySem.Value.str (Str.ofString "__name__") (480 : Nat)) (@PySem.Value.str (Str.ofString "_br") (479 : Nat))) :: ((@PySem.DictEntry.mk (@PySem.PyData.keyHash P (Str.ofString "__qualname__")) (@PySem.Value.str (Str.ofString "__qualname__") (483 : Nat)) (@PySem.Value.str (Str.ofString "PolynomialRing._br") (482 : Nat))) :: ((@PySem.DictEntry.mk (@PySem.PyData.keyHash P (Str.ofString "__doc__")) (@PySem.Value.str (Str.ofString "__doc__") (485 : Nat)) @PySem.Value.none) :: ((@PySem.DictEntry.mk (@PySem.PyData.keyHash P (Str.ofString "__annotations__")) (@PySem.Value.str (Str.ofString "__annotations__") (487 : Nat)) (.ref (248 : Nat))) :: [])))))) (5 : Nat)) (@List.toArray (@Option @PySem.Value) []))) ::
  (nat_lit 247, (@PySem.Obj.mk (@PySem.Value.type "staticmethod") (some (246 : Nat)) (@PySem.Data.fields (@List.toArray @PySem.Value ((.ref (245 : Nat)) :: ((@PySem.Value.bool @Bool.false) :: [])))) (@List.toArray (@Option @PySem.Value) []))) ::
  (nat_lit 248, (@PySem.Obj.mk (@PySem.Value.type "dict") none (@PySem.Data.dict (@List.toArray @PySem.DictEntry []) (0 : Nat)) (@List.toArray (@Option @PySem.Value) []))) ::
  (nat_lit 249, (@PySem.Obj.mk (@PySem.Value.type "tuple") none (@PySem.Data.seq (@List.toArray @PySem.Value []) (0 : Nat)) (@List.toArray (@Option @PySem.Value) []))) ::
  (nat_lit 251, (@PySem.Obj.mk (@PySem.Value.type "tuple") none (@PySem.Data.seq (@List.toArray @PySem.Value ((@PySem.Value.str (Str.ofString "self") (492 : Nat)) :: ((@PySem.Value.str (Str.ofString "input_bytes") (493 : Nat)) :: []))) (0 : Nat)) (@List.toArray (@Option @PySem.Value) []))) ::
  (nat_lit 252, (@PySem.Obj.mk (@PySem.Value.type "tuple") none (@PySem.Data.seq (@List.toArray @PySem.Value []) (0 : Nat)) (@List.toArray (@Option @PySem.Value) []))) ::
  (nat_lit 254, (@PySem.Obj.mk (@PySem.Value.type "code") none (@PySem.Data.fields (@List.toArray @PySem.Value ((@PySem.Value.str (Str.ofString "ntt_sample") (489 : Nat)) :: ((@PySem.Value.str (Str.ofString "PolynomialRing.ntt_sample") (490 : Nat)) :: ((@PySem.Value.str (Str.ofString "/claim/cut.py") (491 : Nat)) :: ((@PySem.Value.int (166 : Int) (0 : Nat)) :: ((@PySem.Value.int (2 : Int) (0 : Nat)) :: ((@PySem.Value.int (0 : Int) (0 : Nat)) :: ((@PySem.Value.int (0 : Int) (0 : Nat)) :: ((@PySem.Value.int (3 : Int) (0 : Nat)) :: ((.ref (249 : Nat)) :: ((@PySem.Value.bool @Bool.true) :: ((@PySem.Value.int (181 : Int) (0 : Nat)) :: ((.ref (250 : Nat)) :: (@PySem.Value.none :: ((.ref (251 : Nat)) :: ((.ref (252 : Nat)) :: ((.ref (253 : Nat)) :: ((@PySem.Value.int (494 : Int) (0 : Nat)) :: ((@PySem.Value.int (166 : Int) (0 : Nat)) :: ((@PySem.Value.str (Str.ofString "/claim/cut.py") (495 : Nat)) :: []))))))))))))))))))))) (@List.toArray (@Option @PySem.Value) []))) ::
  (nat_lit 256, (@PySem.Obj.mk (@PySem.Value.type "tuple") none (@PySem.Data.seq (@List.toArray @PySem.Value ((@PySem.Value.bool @Bool.false) :: [])) (0 : Nat)) (@List.toArray (@Option @PySem.Value) []))) ::
  (nat_lit 257, (@PySem.Obj.mk (@PySem.Value.type "tuple") none (@PySem.Data.seq (@List.toArray @PySem.Value []) (0 : Nat)) (@List.toArray (@Option @PySem.Value) []))) ::
  (nat_lit 259, (@PySem.Obj.mk (@PySem.Value.type "tuple") none (@PySem.Data.seq (@List.toArray @PySem.Value ((@PySem.Value.str (Str.ofString "self") (500 : Nat)) :: ((@PySem.Value.str (Str.ofString "input_bytes") (501 : Nat)) :: ((@PySem.Value.str (Str.ofString "eta") (502 : Nat)) :: ((@PySem.Value.str (Str.ofString "is_ntt") (503 : Nat)) :: []))))) (0 : Nat)) (@List.toArray (@Option @PySem.Value) []))) ::
  (nat_lit 260, (@PySem.Obj.mk (@PySem.Value.type "tuple") none (@PySem.Data.seq (@List.toArray @PySem.Value []) (0 : Nat)) (@List.toArray (@Option @PySem.Value) []))) ::
  (nat_lit 262, (@PySem.Obj.mk (@PySem.Value.type "code") none (@PySem.Data.fields (@List.toArray @PySem.Value ((@PySem.Value.str (Str.ofString "cbd") (497 : Nat)) :: ((@PySem.Value.str (Str.ofString "PolynomialRing.cbd") (498 : Nat)) :: ((@PySem.Value.str (Str.ofString "/claim/cut.py") (499 : Nat)) :: ((@PySem.Value.int (169 : Int) (0 : Nat)) :: ((@PySem.Value.int (4 : Int) (0 : Nat)) :: ((@PySem.Value.int (0 : Int) (0 : Nat)) :: ((@PySem.Value.int (0 : Int) (0 : Nat)) :: ((@PySem.Value.int (3 : Int) (0 : Nat)) :: ((.ref (257 : Nat)) :: ((@PySem.Value.bool @Bool.true) :: ((@PySem.Value.int (181 : Int) (0 : Nat)) :: ((.ref (258 : Nat)) :: (@PySem.Value.none :: ((.ref (259 : Nat)) :: ((.ref (260 : Nat)) :: ((.ref (261 : Nat)) :: ((@PySem.Value.int (504 : Int) (0 : Nat)) :: ((@PySem.Value.int (169 : Int) (0 : Nat)) :: ((@PySem.Value.str (Str.ofString "/claim/cut.py") (505 : Nat)) :: []))))))))))))))))))))) (@List.toArray (@Option @PySem.Value) []))) ::
  (nat_lit 264, (@PySem.Obj.mk (@PySem.Value.type "tuple") none (@PySem.Data.seq (@List.toArray @PySem.Value ((@PySem.Value.bool @Bool.false) :: [])) (0 : Nat)) (@List.toArray (@Option @PySem.Value) []))) ::
  (nat_lit 265, (@PySem.Obj.mk (@PySem.Value.type "tuple") none (@PySem.Data.seq (@List.toArray @PySem.Value []) (0 : Nat)) (@List.toArray (@Option @PySem.Value) []))) ::
  (nat_lit 267, (@PySem.Obj.mk (@PySem.Value.type "tuple") none (@PySem.Data.seq (@List.toArray @PySem.Value ((@PySem.Value.str (Str.ofString "self") (510 : Nat)) :: ((@PySem.Value.str (Str.ofString "input_bytes") (511 : Nat)) :: ((@PySem.Value.str (Str.ofString "d") (512 : Nat)) :: ((@PySem.Value.str (Str.ofString "is_ntt") (513 : Nat)) :: []))))) (0 : Nat)) (@List.toArray (@Option @PySem.Value) []))) ::
  (nat_lit 268, (@PySem.Obj.mk (@PySem.Value.type "tuple") none (@PySem.Data.seq (@List.toArray @PySem.Value []) (0 : Nat)) (@List.toArray (@Option @PySem.Value) []))) ::
  (nat_lit 270, (@PySem.Obj.mk (@PySem.Value.type "code") none (@PySem.Data.fields (@List.toArray @PySem.Value ((@PySem.Value.str (Str.ofString "decode") (507 : Nat)) :: ((@PySem.Value.str (Str.ofString "PolynomialRing.decode") (508 : Nat)) :: ((@PySem.Value.str (Str.ofString "/claim/cut.py") (509 : Nat)) :: ((@PySem.Value.int (172 : Int) (0 : Nat)) :: ((@PySem.Value.int (4 : Int) (0 : Nat)) :: ((@PySem.Value.int (0 : Int) (0 : Nat)) :: ((@PySem.Value.int (0 : Int) (0 : Nat)) :: ((@PySem.Value.int (3 : Int) (0 : Nat)) :: ((.ref (265 : Nat)) :: ((@PySem.Value.bool @Bool.true) :: ((@PySem.Value.int (181 : Int) (0 : Nat)) :: ((.ref (266 : Nat)) :: (@PySem.Value.none :: ((.ref (267 : Nat)) :: ((.ref (268 : Nat)) :: ((.ref (269 : Nat)) :: ((@PySem.Value.int (514 : Int) (0 : Nat)) :: ((@PySem.Value.int (172 : Int) (0 : Nat)) :: ((@PySem.Value.str (Str.ofString "/claim/cut.py") (515 : Nat)) :: []))))))))))))))))))))) (@List.toArray (@Option @PySem.Value) []))) ::
  (nat_lit 272, (@PySem.Obj.mk (@PySem.Value.type "tuple") none (@PySem.Data.seq (@List.toArray @PySem.Value ((@PySem.Value.bool @Bool.false) :: [])) (0 : Nat)) (@List.toArray (@Option @PySem.Value) []))) ::
  (nat_lit 273, (@PySem.Obj.mk (@PySem.Value.type "tuple") none (@PySem.Data.seq (@List.toArray @PySem.Value []) (0 : Nat)) (@List.toArray (@Option @PySem.Value) []))) ::
  (nat_lit 275, (@PySem.Obj.mk (@PySem.Value.type "tuple") none (@PySem.Data.seq (@List.toArray @PySem.Value ((@PySem.Value.str (Str.ofString "self") (520 : Nat)) :: ((@PySem.Value.str (Str.ofString "coefficients") (521 : Nat)) :: ((@PySem.Value.str (Str.ofString "is_ntt") (522 : Nat)) :: [])))) (0 : Nat)) (@List.toArray (@Option @PySem.Value) []))) ::
  (nat_lit 276, (@PySem.Obj.mk (@PySem.Value.type "tuple") none (@PySem.Data.seq (@List.toArray @PySem.Value []) (0 : Nat)) (@List.toArray (@Option @PySem.Value) []))) ::
  (nat_lit 278, (@PySem.Obj.mk (@PySem.Value.type "code") none (@PySem.Data.fields (@List.toArray @PySem.Value ((@PySem.Value.str (Str.ofString "__call__") (517 : Nat)) :: ((@PySem.Value.str (Str.ofString "PolynomialRing.__call__") (518 : Nat)) :: ((@PySem.Value.str (Str.ofString "/claim/cut.py") (519 : Nat)) :: ((@PySem.Value.int (175 : Int) (0 : Nat)) :: ((@PySem.Value.int (3 : Int) (0 : Nat)) :: ((@PySem.Value.int (0 : Int) (0 : Nat)) :: ((@PySem.Value.int (0 : Int) (0 : Nat)) :: ((@PySem.Value.int (3 : Int) (0 : Nat)) :: ((.ref (273 : Nat)) :: ((@PySem.Value.bool @Bool.true) :: ((@PySem.Value.int (181 : Int) (0 : Nat)) :: ((.ref (274 : Nat)) :: (@PySem.Value.none :: ((.ref (275 : Nat)) :: ((.ref (276 : Nat)) :: ((.ref (277 : Nat)) :: ((@PySem.Value.int (523 : Int) (0 : Nat)) :: ((@PySem.Value.int (175 : Int) (0 : Nat)) :: ((@PySem.Value.str (Str.ofString "/claim/cut.py") (524 : Nat)) :: []))))))))))))))))))))) (@List.toArray (@Option @PySem.Value) []))) ::
  (nat_lit 279, (PySem.Obj.mk (@PySem.Value.type "function") none (PySem.Data.func (PySem.FuncData.mk (Str.ofString "__call__") (Str.ofString "PolynomialRing.__call__") fP279 (PySem.FuncBody.stmts fB279) fS279 (3 : Nat) [] (.ref (272 : Nat)) @PySem.Value.none @PySem.Value.none (@PySem.Value.str (Str.ofString "kyber_py.polynomials.polynomials") (448 : Nat)) none (.ref (278 : Nat)) @PySem.Value.none (0 : Nat))) (@List.toArray (@Option @PySem.Value) []))) ::
  (nat_lit 280, (@PySem.Obj.mk (@PySem.Value.type "tuple") none (@PySem.Data.seq (@List.toArray @PySem.Value ((@PySem.Value.str (Str.ofString "n") (526 : Nat)) :: ((@PySem.Value.str (Str.ofString "ntt_f") (527 : Nat)) :: ((@PySem.Value.str (Str.ofString "ntt_zetas") (528 : Nat)) :: ((@PySem.Value.str (Str.ofString "q") (529 : Nat)) :: []))))) (0 : Nat)) (@List.toArray (@Option @PySem.Value) []))) ::
  (nat_lit 281, (@PySem.Obj.mk (@PySem.Value.type "dict") none (@PySem.Data.dict (@List.toArray @PySem.DictEntry ((@PySem.DictEntry.mk (@PySem.PyData.keyHash P (Str.ofString "__module__")) (@PySem.Value.str (Str.ofString "__module__") (457 : Nat)) (@PySem.Value.str (Str.ofString "kyber_py.polynomials.polynomials") (448 : Nat))) :: ((@PySem.DictEntry.mk (@PySem.PyData.keyHash P (Str.ofString "__firstlineno__")) (@PySem.Value.str (Str.ofString "__firstlineno__") (461 : Nat)) (@PySem.Value.int (152 : Int) (460 : Nat))) :: ((@PySem.DictEntry.mk (@PySem.PyData.keyHash P (Str.ofString "__init__")) (@PySem.Value.str (Str.ofString "__init__") (467 : Nat)) (.ref (238 : Nat))) :: ((@PySem.DictEntry.mk (@PySem.PyData.keyHash P (Str.ofString "_br")) (@PySem.Value.str (Str.ofString "_br") (488 : Nat)) (.ref (247 : Nat))) :: ((@PySem.DictEntry.mk (@PySem.PyData.keyHash P (Str.ofString "ntt_sample")) (@PySem.Value.str (Str.ofString "ntt_sample") (496 : Nat)) (.ref (255 : Nat))) :: ((@PySem.DictEntry.mk (@PySem.PyData.keyHash P (Str.ofString "cbd")) (@PySem.Value.str (Str.ofString "cbd") (506 : Nat)) (.ref (263 : Nat))) :: ((@PySem.DictEntry.mk (@PySem.PyData.keyHash P (Str.ofString "decode")) (@PySem.Value.str (Str.ofString "decode") (516 : Nat)) (.ref (271 : Nat))) :: ((@PySem.DictEntry.mk (@PySem.PyData.keyHash P (Str.ofString "__call__")) (@PySem.Value.str (Str.ofString "__call__") (525 : Nat)) (.ref (279 : Nat))) :: ((@PySem.DictEntry.mk (@PySem.PyData.keyHash P (Str.ofString "__static_attributes__")) (@PySem.Value.str (Str.ofString "__static_attributes__") (530 : Nat)) (.ref (280 : Nat))) :: ((@PySem.DictEntry.mk (@PySem.PyData.keyHash P (Str.ofString "__doc__")) (@PySem.Value.str (Str.ofString "__doc__") (531 : Nat)) @PySem.Value.none) :: []))))))))))) (2 : Nat)) (@List.toArray (@Option @PySem.Value) []))) ::
  (nat_lit 282, (@PySem.Obj.mk (@PySem.Value.type "type") none (@PySem.Data.cls (@PySem.ClassData.mk (Str.ofString "PolynomialRing") ((.ref (59 : Nat)) :: []) ((.ref (282 : Nat)) :: ((.ref (59 : Nat)) :: ((@PySem.Value.type "object") :: []))) (281 : Nat) (Str.ofString "PolynomialRing") @Bool.true [] [] @Bool.false none @Bool.false)) (@List.toArray (@Option @PySem.Value) ((some (.ref (227 : Nat))) :: (none :: ((some (@PySem.Value.str (Str.ofString "PolynomialRing") (450 : Nat))) :: ((some (@PySem.Value.str (Str.ofString "PolynomialRing") (458 : Nat))) :: ((some (@PySem.Value.builtin "object.__new__")) :: ((some (@PySem.Value.bool @Bool.true)) :: []))))))))) ::
  (nat_lit 285, (@PySem.Obj.mk (@PySem.Value.type "tuple") none (@PySem.Data.seq (@List.toArray @PySem.Value ((.ref (222 : Nat)) :: [])) (0 : Nat)) (@List.toArray (@Option @PySem.Value) []))) ::
  (nat_lit 292, (@PySem.Obj.mk (@PySem.Value.type "tuple") none (@PySem.Data.seq (@List.toArray @PySem.Value []) (0 : Nat)) (@List.toArray (@Option @PySem.Value) []))) ::
  (nat_lit 294, (@PySem.Obj.mk (@PySem.Value.type "tuple") none (@PySem.Data.seq (@List.toArray @PySem.Value ((@PySem.Value.str (Str.ofString "self") (549 : Nat)) :: ((@PySem.Value.str (Str.ofString "parent") (550 : Nat)) :: ((@PySem.Value.str (Str.ofString "coefficients") (551 : Nat)) :: [])))) (0 : Nat)) (@List.toArray (@Option @PySem.Value) []))) ::
  (nat_lit 295, (@PySem.Obj.mk (@PySem.Value.type "tuple") none (@PySem.Data.seq (@List.toArray @PySem.Value []) (0 : Nat)) (@List.toArray (@Option @PySem.Value) []))) ::
  (nat_lit 297, (@PySem.Obj.mk (@PySem.Value.type "code") none (@PySem.Data.fields (@List.toArray @PySem.Value ((@PySem.Value.str (Str.ofString "__init__") (546 : Nat)) :: ((@PySem.Value.str (Str.ofString "Polynomial.__init__") (547 : Nat)) :: ((@PySem.Value.str (Str.ofString "/claim/cut.py") (548 : Nat)) :: ((@PySem.Value.int (185 : Int) (0 : Nat)) :: ((@PySem.Value.int (3 : Int) (0 : Nat)) :: ((@PySem.Value.int (0 : Int) (0 : Nat)) :: ((@PySem.Value.int (0 : Int) (0 : Nat)) :: ((@PySem.Value.int (3 : Int) (0 : Nat)) :: ((.ref (292 : Nat)) :: ((@PySem.Value.bool @Bool.true) :: ((@PySem.Value.int (181 : Int) (0 : Nat)) :: ((.ref (293 : Nat)) :: (@PySem.Value.none :: ((.ref (294 : Nat)) :: ((.ref (295 : Nat)) :: ((.ref (296 : Nat)) :: ((@PySem.Value.int (552 : Int) (0 : Nat)) :: ((@PySem.Value.int (185 : Int) (0 : Nat)) :: ((@PySem.Value.str (Str.ofString "/claim/cut.py") (553 : Nat)) :: []))))))))))))))))))))) (@List.toArray (@Option @PySem.Value) []))) ::
  (nat_lit 298, (PySem.Obj.mk (@PySem.Value.type "function") none (PySem.Data.func (PySem.FuncData.mk (Str.ofString "__init__") (Str.ofString "Polynomial.__init__") fP298 (PySem.FuncBody.stmts fB298) fS298 (3 : Nat) [] @PySem.Value.none @PySem.Value.none @PySem.Value.none (@PySem.Value.str (Str.ofString "kyber_py.polynomials.polynomials") (448 : Nat)) none (.ref (297 : Nat)) @PySem.Value.none (0 : Nat))) (@List.toArray (@Option @PySem.Value) []))) ::
  (nat_lit 299, (@PySem.Obj.mk (@PySem.Value.type "tuple") none (@PySem.Data.seq (@List.toArray @PySem.Value []) (0 : Nat)) (@List.toArray (@Option @PySem.Value) []))) ::
  (nat_lit 301, (@PySem.Obj.mk (@PySem.Value.type "tuple") none (@PySem.Data.seq (@List.toArray @PySem.Value ((@PySem.Value.str (Str.ofString "self") (558 : Nat)) :: ((@PySem.Value.str (Str.ofString "d") (559 : Nat)) :: []))) (0 : Nat)) (@List.toArray (@Option @PySem.Value) []))) ::
  (nat_lit 302, (@PySem.Obj.mk (@PySem.Value.type "tuple") none (@PySem.Data.seq (@List.toArray @PySem.Value []) (0 : Nat)) (@List.toArray (@Option @PySem.Value) []))) ::
  (nat_lit 304, (@PySem.Obj.mk (@PySem.Value.type "code") none (@PySem.Data.fields (@List.toArray @PySem.Value ((@PySem.Value.str (Str.ofString "encode") (555 : Nat)) :: ((@PySem.Value.str (Str.ofString "Polynomial.encode") (556 : Nat)) :: ((@PySem.Value.str (Str.ofString "/claim/cut.py") (557 : Nat)) :: ((@PySem.Value.int (189 : Int) (0 : Nat)) :: ((@PySem.Value.int (2 : Int) (0 : Nat)) :: ((@PySem.Value.int (0 : Int) (0 : Nat)) :: ((@PySem.Value.int (0 : Int) (0 : Nat)) :: ((@PySem.Value.int (3 : Int) (0 : Nat)) :: ((.ref (299 : Nat)) :: ((@PySem.Value.bool @Bool.true) :: ((@PySem.Value.int (181 : Int) (0 : Nat)) :: ((.ref (300 : Nat)) :: (@PySem.Value.none :: ((.ref (301 : Nat)) :: ((.ref (302 : Nat)) :: ((.ref (303 : Nat)) :: ((@PySem.Value.int (560 : Int) (0 : Nat)) :: ((@PySem.Value.int (189 : Int) (0 : Nat)) :: ((@PySem.Value.str (Str.ofString "/claim/cut.py") (561 : Nat)) :: []))))))))))))))))))))) (@List.toArray (@Option @PySem.Value) []))) ::
  (nat_lit 306, (@PySem.Obj.mk (@PySem.Value.type "tuple") none (@PySem.Data.seq (@List.toArray @PySem.Value []) (0 : Nat)) (@List.toArray (@Option @PySem.Value) []))) ::
  (nat_lit 308, (@PySem.Obj.mk (@PySem.Value.type "tuple") none (@PySem.Data.seq (@List.toArray @PySem.Value ((@PySem.Value.str (Str.ofString "self") (566 : Nat)) :: ((@PySem.Value.str (Str.ofString "x") (567 : Nat)) :: ((@PySem.Value.str (Str.ofString "d") (568 : Nat)) :: [])))) (0 : Nat)) (@List.toArray (@Option @PySem.Value) []))) ::
  (nat_lit 309, (@PySem.Obj.mk (@PySem.Value.type "tuple") none (@PySem.Data.seq (@List.toArray @PySem.Value []) (0 : Nat)) (@List.toArray (@Option @PySem.Value) []))) ::
  (nat_lit 311, (@PySem.Obj.mk (@PySem.Value.type "code") none (@PySem.Data.fields (@List.toArray @PySem.Value ((@PySem.Value.str (Str.ofString "_compress_ele") (563 : Nat)) :: ((@PySem.Value.str (Str.ofString "Polynomial._compress_ele") (564 : Nat)) :: ((@PySem.Value.str (Str.ofString "/claim/cut.py") (565 : Nat)) :: ((@PySem.Value.int (192 : Int) (0 : Nat)) :: ((@PySem.Value.int (3 : Int) (0 : Nat)) :: ((@PySem.Value.int (0 : Int) (0 : Nat)) :: ((@PySem.Value.int (0 : Int) (0 : Nat)) :: ((@PySem.Value.int (3 : Int) (0 : Nat)) :: ((.ref (306 : Nat)) :: ((@PySem.Value.bool @Bool.true) :: ((@PySem.Value.int (181 : Int) (0 : Nat)) :: ((.ref (307 : Nat)) :: (@PySem.Value.none :: ((.ref (308 : Nat)) :: ((.ref (309 : Nat)) :: ((.ref (310 : Nat)) :: ((@PySem.Value.int (569 : Int) (0 : Nat)) :: ((@PySem.Value.int (192 : Int) (0 : Nat)) :: ((@PySem.Value.str (Str.ofString "/claim/cut.py") (570 : Nat)) :: []))))))))))))))))))))) (@List.toArray (@Option @PySem.Value) []))) ::
  (nat_lit 313, (@PySem.Obj.mk (@PySem.Value.type "tuple") none (@PySem.Data.seq (@List.toArray @PySem.Value []) (0 : Nat)) (@List.toArray (@Option @PySem.Value) []))) ::
  (nat_lit 315, (@PySem.Obj.mk (@PySem.Value.type "tuple") none (@PySem.Data.seq (@List.toArray @PySem.Value ((@PySem.Value.str (Str.ofString "self") (575 : Nat)) :: ((@PySem.Value.str (Str.ofString "x") (576 : Nat)) :: ((@PySem.Value.str (Str.ofString "d") (577 : Nat)) :: [])))) (0 : Nat)) (@List.toArray (@Option @PySem.Value) []))) ::
  (nat_lit 316, (@PySem.Obj.mk (@PySem.Value.type "tuple") none (@PySem.Data.seq (@List.toArray @PySem.Value []) (0 : Nat)) (@List.toArray (@Option @PySem.Value) []))) ::
  (nat_lit 318, (@PySem.Obj.mk (@PySem.Value.type "code") none (@PySem.Data.fields (@List.toArray @PySem.Value ((@PySem.Value.str (Str.ofString "_decompress_ele") (572 : Nat)) :: ((@PySem.Value.str (Str.ofString "Polynomial._decompress_ele") (573 : Nat)) :: ((@PySem.Value.str (Str.ofString "/claim/cut.py") (574 : Nat)) :: ((@PySem.Value.int (195 : Int) (0 : Nat)) :: ((@PySem.Value.int (3 : Int) (0 : Nat)) :: ((@PySem.Value.int (0 : Int) (0 : Nat)) :: ((@PySem.Value.int (0 : Int) (0 : Nat)) :: ((@PySem.Value.int (3 : Int) (0 : Nat)) :: ((.ref (313 : Nat)) :: ((@PySem.Value.bool @Bool.true) :: ((@PySem.Value.int (181 : Int) (0 : Nat)) :: ((.ref (314 : Nat)) :: (@PySem.Value.none :: ((.ref (315 : Nat)) :: ((.ref (316 : Nat)) :: ((.ref (317 : Nat)) :: ((@PySem.Value.int (578 : Int) (0 : Nat)) :: ((@PySem.Value.int (195 : Int) (0 : Nat)) :: ((@PySem.Value.str (Str.ofString "/claim/cut.py") (579 : Nat)) :: []))))))))))))))))))))) (@List.toArray (@Option @PySem.Value) []))) ::
  (nat_lit 320, (@PySem.Obj.mk (@PySem.Value.type "tuple") none (@PySem.Data.seq (@List.toArray @PySem.Value []) (0 : Nat)) (@List.toArray (@Option @PySem.Value) []))) ::
  (nat_lit 322, (@PySem.Obj.mk (@PySem.Value.type "tuple") none (@PySem.Data.seq (@List.toArray @PySem.Value ((@PySem.Value.str (Str.ofString "self") (584 : Nat)) :: ((@PySem.Value.str (Str.ofString "d") (585 : Nat)) :: []))) (0 : Nat)) (@List.toArray (@Option @PySem.Value) []))) ::
  (nat_lit 323, (@PySem.Obj.mk (@PySem.Value.type "tuple") none (@PySem.Data.seq (@List.toArray @PySem.Value []) (0 : Nat)) (@List.toArray (@Option @PySem.Value) []))) ::
  (nat_lit 325, (@PySem.Obj.mk (@PySem.Value.type "code") none (@PySem.Data.fields (@List.toArray @PySem.Value ((@PySem.Value.str (Str.ofString "compress") (581 : Nat)) :: ((@PySem.Value.str (Str.ofString "Polynomial.compress") (582 : Nat)) :: ((@PySem.Value.str (Str.ofString "/claim/cut.py") (583 : Nat)) :: ((@PySem.Value.int (198 : Int) (0 : Nat)) :: ((@PySem.Value.int (2 : Int) (0 : Nat)) :: ((@PySem.Value.int (0 : Int) (0 : Nat)) :: ((@PySem.Value.int (0 : Int) (0 : Nat)) :: ((@PySem.Value.int (3 : Int) (0 : Nat)) :: ((.ref (320 : Nat)) :: ((@PySem.Value.bool @Bool.true) :: ((@PySem.Value.int (181 : Int) (0 : Nat)) :: ((.ref (321 : Nat)) :: (@PySem.Value.none :: ((.ref (322 : Nat)) :: ((.ref (323 : Nat)) :: ((.ref (324 : Nat)) :: ((@PySem.Value.int (586 : Int) (0 : Nat)) :: ((@PySem.Value.int (198 : Int) (0 : Nat)) :: ((@PySem.Value.str (Str.ofString "/claim/cut.py") (587 : Nat)) :: []))))))))))))))))))))) (@List.toArray (@Option @PySem.Value) []))) ::
  (nat_lit 327, (@PySem.Obj.mk (@PySem.Value.type "tuple") none (@PySem.Data.seq (@List.toArray @PySem.Value []) (0 : Nat)) (@List.toArray (@Option @PySem.Value) []))) ::
  (nat_lit 329, (@PySem.Obj.mk (@PySem.Value.type "tuple") none (@PySem.Data.seq (@List.toArray @PySem.Value ((@PySem.Value.str (Str.ofString "self") (592 : Nat)) :: ((@PySem.Value.str (Str.ofString "d") (593 : Nat)) :: []))) (0 : Nat)) (@List.toArray (@Option @PySem.Value) []))) ::
  (nat_lit 330, (@PySem.Obj.mk (@PySem.Value.type "tuple") none (@PySem.Data.seq (@List.toArray @PySem.Value []) (0 : Nat)) (@List.toArray (@Option @PySem.Value) []))) ::
  (nat_lit 332, (@PySem.Obj.mk (@PySem.Value.type "code") none (@PySem.Data.fields (@List.toArray @PySem.Value ((@PySem.Value.str (Str.ofString "decompress") (589 : Nat)) :: ((@PySem.Value.str (Str.ofString "Polynomial.decompress") (590 : Nat)) :: ((@PySem.Value.str (Str.ofString "/claim/cut.py") (591 : Nat)) :: ((@PySem.Value.int (201 : Int) (0 : Nat)) :: ((@PySem.Value.int (2 : Int) (0 : Nat)) :: ((@PySem.Value.int (0 : Int) (0 : Nat)) :: ((@PySem.Value.int (0 : Int) (0 : Nat)) :: ((@PySem.Value.int (3 : Int) (0 : Nat)) :: ((.ref (327 : Nat)) :: ((@PySem.Value.bool @Bool.true) :: ((@PySem.Value.int (181 : Int) (0 : Nat)) :: ((.ref (328 : Nat)) :: (@PySem.Value.none :: ((.ref (329 : Nat)) :: ((.ref (330 : Nat)) :: ((.ref (331 : Nat)) :: ((@PySem.Value.int (594 : Int) (0 : Nat)) :: ((@PySem.Value.int (201 : Int) (0 : Nat)) :: ((@PySem.Value.str (Str.ofString "/claim/cut.py") (595 : Nat)) :: []))))))))))))))))))))) (@List.toArray (@Option @PySem.Value) []))) ::
  (nat_lit 334, (@PySem.Obj.mk (@PySem.Value.type "tuple") none (@PySem.Data.seq (@List.toArray @PySem.Value []) (0 : Nat)) (@List.toArray (@Option @PySem.Value) []))) ::
  (nat_lit 336, (@PySem.Obj.mk (@PySem.Value.type "tuple") none (@PySem.Data.seq (@List.toArray @PySem.Value ((@PySem.Value.str (Str.ofString "self") (600 : Nat)) :: [])) (0 : Nat)) (@List.toArray (@Option @PySem.Value) []))) ::
  (nat_lit 337, (@PySem.Obj.mk (@PySem.Value.type "tuple") none (@PySem.Data.seq (@List.toArray @PySem.Value []) (0 : Nat)) (@List.toArray (@Option @PySem.Value) []))) ::
  (nat_lit 339, (@PySem.Obj.mk (@PySem.Value.type "code") none (@PySem.Data.fields (@List.toArray @PySem.Value ((@PySem.Value.str (Str.ofString "to_ntt") (597 : Nat)) :: ((@PySem.Value.str (Str.ofString "Polynomial.to_ntt") (598 : Nat)) :: ((@PySem.Value.str (Str.ofString "/claim/cut.py") (599 : Nat)) :: ((@PySem.Value.int (204 : Int) (0 : Nat)) :: ((@PySem.Value.int (1 : Int) (0 : Nat)) :: ((@PySem.Value.int (0 : Int) (0 : Nat)) :: ((@PySem.Value.int (0 : Int) (0 : Nat)) :: ((@PySem.Value.int (3 : Int) (0 : Nat)) :: ((.ref (334 : Nat)) :: ((@PySem.Value.bool @Bool.true) :: ((@PySem.Value.int (181 : Int) (0 : Nat)) :: ((.ref (335 : Nat)) :: (@PySem.Value.none :: ((.ref (336 : Nat)) :: ((.ref (337 : Nat)) :: ((.ref (338 : Nat)) :: ((@PySem.Value.int (601 : Int) (0 : Nat)) :: ((@PySem.Value.int (204 : Int) (0 : Nat)) :: ((@PySem.Value.str (Str.ofString "/claim/cut.py") (602 : Nat)) :: []))))))))))))))))))))) (@List.toArray (@Option @PySem.Value) []))) ::
  (nat_lit 341, (@PySem.Obj.mk (@PySem.Value.type "tuple") none (@PySem.Data.seq (@List.toArray @PySem.Value []) (0 : Nat)) (@List.toArray (@Option @PySem.Value) []))) ::
  (nat_lit 343, (@PySem.Obj.mk (@PySem.Value.type "tuple") none (@PySem.Data.seq (@List.toArray @PySem.Value ((@PySem.Value.str (Str.ofString "self") (607 : Nat)) :: [])) (0 : Nat)) (@List.toArray (@Option @PySem.Value) []))) ::
  (nat_lit 344, (@PySem.Obj.mk (@PySem.Value.type "tuple") none (@PySem.Data.seq (@List.toArray @PySem.Value []) (0 : Nat)) (@List.toArray (@Option @PySem.Value) []))) ::
  (nat_lit 346, (@PySem.Obj.mk (@PySem.Value.type "code") none (@PySem.Data.fields (@List.toArray @PySem.Value ((@PySem.Value.str (Str.ofString "from_ntt") (604 : Nat)) :: ((@PySem.Value.str (Str.ofString "Polynomial.from_ntt") (605 : Nat)) :: ((@PySem.Value.str (Str.ofString "/claim/cut.py") (606 : Nat)) :: ((@PySem.Value.int (207 : Int) (0 : Nat)) :: ((@PySem.Value.int (1 : Int) (0 : Nat)) :: ((@PySem.Value.int (0 : Int) (0 : Nat)) :: ((@PySem.Value.int (0 : Int) (0 : Nat)) :: ((@PySem.Value.int (3 : Int) (0 : Nat)) :: ((.ref (341 : Nat)) :: ((@PySem.Value.bool @Bool.true) :: ((@PySem.Value.int (181 : Int) (0 : Nat)) :: ((.ref (342 : Nat)) :: (@PySem.Value.none :: ((.ref (343 : Nat)) :: ((.ref (344 : Nat)) :: ((.ref (345 : Nat)) :: ((@PySem.Value.int (608 : Int) (0 : Nat)) :: ((@PySem.Value.int (207 : Int) (0 : Nat)) :: ((@PySem.Value.str (Str.ofString "/claim/cut.py") (609 : Nat)) :: []))))))))))))))))))))) (@List.toArray (@Option @PySem.Value) []))) ::
  (nat_lit 348, (@PySem.Obj.mk (@PySem.Value.type "tuple") none (@PySem.Data.seq (@List.toArray @PySem.Value ((@PySem.Value.str (Str.ofString "coeffs") (611 : Nat)) :: ((@PySem.Value.str (Str.ofString "parent") (612 : Nat)) :: []))) (0 : Nat)) (@List.toArray (@Option @PySem.Value) []))) ::
  (nat_lit 349, (@PySem.Obj.mk (@PySem.Value.type "dict") none (@PySem.Data.dict (@List.toArray @PySem.DictEntry ((@PySem.DictEntry.mk (@PySem.PyData.keyHash P (Str.ofString "__module__")) (@PySem.Value.str (Str.ofString "__module__") (541 : Nat)) (@PySem.Value.str (Str.ofString "kyber_py.polynomials.polynomials") (448 : Nat))) :: ((@PySem.DictEntry.mk (@PySem.PyData.keyHash P (Str.ofString "__firstlineno__")) (@PySem.Value.str (Str.ofString "__firstlineno__") (545 : Nat)) (@PySem.Value.int (183 : Int) (544 : Nat))) :: ((@PySem.DictEntry.mk (@PySem.PyData.keyHash P (Str.ofString "__init__")) (@PySem.Value.str (Str.ofString "__init__") (554 : Nat)) (.ref (298 : Nat))) :: ((@PySem.DictEntry.mk (@PySem.PyData.keyHash P (Str.ofString "encode")) (@PySem.Value.str (Str.ofString "encode") (562 : Nat)) (.ref (305 : Nat))) :: ((@PySem.DictEntry.mk (@PySem.PyData.keyHash P (Str.ofString "_compress_ele")) (@PySem.Value.str (Str.ofString "_compress_ele") (571 : Nat)) (.ref (312 : Nat))) :: ((@PySem.DictEntry.mk (@PySem.PyData.keyHash P (Str.ofString "_decompress_ele")) (@PySem.Value.str (Str.ofString "_decompress_ele") (580 : Nat)) (.ref (319 : Nat))) :: ((@PySem.DictEntry.mk (@PySem.PyData.keyHash P (Str.ofString "compress")) (@PySem.Value.str (Str.ofString "compress") (588 : Nat)) (.ref (326 : Nat))) :: ((@PySem.DictEntry.mk (@PySem.PyData.keyHash P (Str.ofString "decompress")) (@PySem.Value.str (Str.ofString "decompress") (596 : Nat)) (.ref (333 : Nat))) :: ((@PySem.DictEntry.mk (@PySem.PyData.keyHash P (Str.ofString "to_ntt")) (@PySem.Value.str (Str.ofString "to_ntt") (603 : Nat)) (.ref (340 : Nat))) :: ((@PySem.DictEntry.mk (@PySem.PyData.keyHash P (Str.ofString "from_ntt")) (@PySem.Value.str (Str.ofString "from_ntt") (610 : Nat)) (.ref (347 : Nat))) :: ((@PySem.DictEntry.mk (@PySem.PyData.keyHash P (Str.ofString "__static_attributes__")) (@PySem.Value.str (Str.ofString "__static_attributes__") (613 : Nat)) (.ref (348 : Nat))) :: ((@PySem.DictEntry.mk (@PySem.PyData.keyHash P (Str.ofString "__doc__")) (@PySem.Value.str (Str.ofString "__doc__") (614 : Nat)) @PySem.Value.none) :: []))))))))))))) (2 : Nat)) (@List.toArray (@Option @PySem.Value) []))) ::
  (nat_lit 350, (@PySem.Obj.mk (@PySem.Value.type "type") none (@PySem.Data.cls (@PySem.ClassData.mk (Str.ofString "Polynomial") ((.ref (222 : Nat)) :: []) ((.ref (350 : Nat)) :: ((.ref (222 : Nat)) :: ((@PySem.Value.type "object") :: []))) (349 : Nat) (Str.ofString "Polynomial") @Bool.true [] ((.ref (426 : Nat)) :: []) @Bool.false none @Bool.false)) (@List.toArray (@Option @PySem.Value) ((some (.ref (285 : Nat))) :: (none :: ((some (@PySem.Value.str (Str.ofString "Polynomial") (534 : Nat))) :: ((some (@PySem.Value.str (Str.ofString "Polynomial") (542 : Nat))) :: ((some (@PySem.Value.builtin "object.__new__")) :: ((some (@PySem.Value.bool @Bool.true)) :: []))))))))) ::
  (nat_lit 353, (@PySem.Obj.mk (@PySem.Value.type "tuple") none (@PySem.Data.seq (@List.toArray @PySem.Value ((.ref (350 : Nat)) :: [])) (0 : Nat)) (@List.toArray (@Option @PySem.Value) []))) ::
  (nat_lit 360, (@PySem.Obj.mk (@PySem.Value.type "tuple") none (@PySem.Data.seq (@List.toArray @PySem.Value []) (0 : Nat)) (@List.toArray (@Option @PySem.Value) []))) ::
  (nat_lit 362, (@PySem.Obj.mk (@PySem.Value.type "tuple") none (@PySem.Data.seq (@List.toArray @PySem.Value ((@PySem.Value.str (Str.ofString "self") (632 : Nat)) :: ((@PySem.Value.str (Str.ofString "parent") (633 : Nat)) :: ((@PySem.Value.str (Str.ofString "coefficients") (634 : Nat)) :: [])))) (0 : Nat)) (@List.toArray (@Option @PySem.Value) []))) ::
  (nat_lit 363, (@PySem.Obj.mk (@PySem.Value.type "tuple") none (@PySem.Data.seq (@List.toArray @PySem.Value []) (0 : Nat)) (@List.toArray (@Option @PySem.Value) []))) ::
  (nat_lit 365, (@PySem.Obj.mk (@PySem.Value.type "code") none (@PySem.Data.fields (@List.toArray @PySem.Value ((@PySem.Value.str (Str.ofString "__init__") (629 : Nat)) :: ((@PySem.Value.str (Str.ofString "PolynomialNTT.__init__") (630 : Nat)) :: ((@PySem.Value.str (Str.ofString "/claim/cut.py") (631 : Nat)) :: ((@PySem.Value.int (211 : Int) (0 : Nat)) :: ((@PySem.Value.int (3 : Int) (0 : Nat)) :: ((@PySem.Value.int (0 : Int) (0 : Nat)) :: ((@PySem.Value.int (0 : Int) (0 : Nat)) :: ((@PySem.Value.int (3 : Int) (0 : Nat)) :: ((.ref (360 : Nat)) :: ((@PySem.Value.bool @Bool.true) :: ((@PySem.Value.int (181 : Int) (0 : Nat)) :: ((.ref (361 : Nat)) :: (@PySem.Value.none :: ((.ref (362 : Nat)) :: ((.ref (363 : Nat)) :: ((.ref (364 : Nat)) :: ((@PySem.Value.int (635 : Int) (0 : Nat)) :: ((@PySem.Value.int (211 : Int) (0 : Nat)) :: ((@PySem.Value.str (Str.ofString "/claim/cut.py") (636 : Nat)) :: []))))))))))))))))))))) (@List.toArray (@Option @PySem.Value) []))) ::
  (nat_lit 366, (PySem.Obj.mk (@PySem.Value.type "function") none (PySem.Data.func (PySem.FuncData.mk (Str.ofString "__init__") (Str.ofString "PolynomialNTT.__init__") fP366 (PySem.FuncBody.stmts fB366) fS366 (3 : Nat) [] @PySem.Value.none @PySem.Value.none @PySem.Value.none (@PySem.Value.str (Str.ofString "kyber_py.polynomials.polynomials") (448 : Nat)) none (.ref (365 : Nat)) @PySem.Value.none (0 : Nat))) (@List.toArray (@Option @PySem.Value) []))) ::
  (nat_lit 367, (@PySem.Obj.mk (@PySem.Value.type "tuple") none (@PySem.Data.seq (@List.toArray @PySem.Value []) (0 : Nat)) (@List.toArray (@Option @PySem.Value) []))) ::
  (nat_lit 369, (@PySem.Obj.mk (@PySem.Value.type "tuple") none (@PySem.Data.seq (@List.toArray @PySem.Value ((@PySem.Value.str (Str.ofString "self") (641 : Nat)) :: [])) (0 : Nat)) (@List.toArray (@Option @PySem.Value) []))) ::
  (nat_lit 370, (@PySem.Obj.mk (@PySem.Value.type "tuple") none (@PySem.Data.seq (@List.toArray @PySem.Value []) (0 : Nat)) (@List.toArray (@Option @PySem.Value) []))) ::
  (nat_lit 372, (@PySem.Obj.mk (@PySem.Value.type "code") none (@PySem.Data.fields (@List.toArray @PySem.Value ((@PySem.Value.str (Str.ofString "to_ntt") (638 : Nat)) :: ((@PySem.Value.str (Str.ofString "PolynomialNTT.to_ntt") (639 : Nat)) :: ((@PySem.Value.str (Str.ofString "/claim/cut.py") (640 : Nat)) :: ((@PySem.Value.int (215 : Int) (0 : Nat)) :: ((@PySem.Value.int (1 : Int) (0 : Nat)) :: ((@PySem.Value.int (0 : Int) (0 : Nat)) :: ((@PySem.Value.int (0 : Int) (0 : Nat)) :: ((@PySem.Value.int (3 : Int) (0 : Nat)) :: ((.ref (367 : Nat)) :: ((@PySem.Value.bool @Bool.true) :: ((@PySem.Value.int (181 : Int) (0 : Nat)) :: ((.ref (368 : Nat)) :: (@PySem.Value.none :: ((.ref (369 : Nat)) :: ((.ref (370 : Nat)) :: ((.ref (371 : Nat)) :: ((@PySem.Value.int (642 : Int) (0 : Nat)) :: ((@PySem.Value.int (215 : Int) (0 : Nat)) :: ((@PySem.Value.str (Str.ofString "/claim/cut.py") (643 : Nat)) :: []))))))))))))))))))))) (@List.toArray (@Option @PySem.Value) []))) ::
  (nat_lit 374, (@PySem.Obj.mk (@PySem.Value.type "tuple") none (@PySem.Data.seq (@List.toArray @PySem.Value []) (0 : Nat)) (@List.toArray (@Option @PySem.Value) []))) ::
  (nat_lit 376, (@PySem.Obj.mk (@PySem.Value.type "tuple") none (@PySem.Data.seq (@List.toArray @PySem.Value ((@PySem.Value.str (Str.ofString "self") (648 : Nat)) :: ((@PySem.Value.str (Str.ofString "l") (649 : Nat)) :: ((@PySem.Value.str (Str.ofString "l_upper") (650 : Nat)) :: ((@PySem.Value.str (Str.ofString "k") (651 : Nat)) :: ((@PySem.Value.str (Str.ofString "coeffs") (652 : Nat)) :: ((@PySem.Value.str (Str.ofString "zetas") (653 : Nat)) :: ((@PySem.Value.str (Str.ofString "start") (654 : Nat)) :: ((@PySem.Value.str (Str.ofString "zeta") (655 : Nat)) :: ((@PySem.Value.str (Str.ofString "j") (656 : Nat)) :: ((@PySem.Value.str (Str.ofString "t") (657 : Nat)) :: ((@PySem.Value.str (Str.ofString "f") (658 : Nat)) :: [])))))))))))) (0 : Nat)) (@List.toArray (@Option @PySem.Value) []))) ::
  (nat_lit 377, (@PySem.Obj.mk (@PySem.Value.type "tuple") none (@PySem.Data.seq (@List.toArray @PySem.Value []) (0 : Nat)) (@List.toArray (@Option @PySem.Value) []))) ::
  (nat_lit 379, (@PySem.Obj.mk (@PySem.Value.type "code") none (@PySem.Data.fields (@List.toArray @PySem.Value ((@PySem.Value.str (Str.ofString "from_ntt") (645 : Nat)) :: ((@PySem.Value.str (Str.ofString "PolynomialNTT.from_ntt") (646 : Nat)) :: ((@PySem.Value.str (Str.ofString "/claim/cut.py") (647 : Nat)) :: ((@PySem.Value.int (218 : Int) (0 : Nat)) :: ((@PySem.Value.int (1 : Int) (0 : Nat)) :: ((@PySem.Value.int (0 : Int) (0 : Nat)) :: ((@PySem.Value.int (0 : Int) (0 : Nat)) :: ((@PySem.Value.int (3 : Int) (0 : Nat)) :: ((.ref (374 : Nat)) :: ((@PySem.Value.bool @Bool.true) :: ((@PySem.Value.int (181 : Int) (0 : Nat)) :: ((.ref (375 : Nat)) :: (@PySem.Value.none :: ((.ref (376 : Nat)) :: ((.ref (377 : Nat)) :: ((.ref (378 : Nat)) :: ((@PySem.Value.int (659 : Int) (0 : Nat)) :: ((@PySem.Value.int (218 : Int) (0 : Nat)) :: ((@PySem.Value.str (Str.ofString "/claim/cut.py") (660 : Nat)) :: []))))))))))))))))))))) (@List.toArray (@Option @PySem.Value) []))) ::
  (nat_lit 380, (PySem.Obj.mk (@PySem.Value.type "function") none (PySem.Data.func (PySem.FuncData.mk (Str.ofString "from_ntt") (Str.ofString "PolynomialNTT.from_ntt") fP380 (PySem.FuncBody.stmts fB380) fS380 (3 : Nat) [] @PySem.Value.none @PySem.Value.none @PySem.Value.none (@PySem.Value.str (Str.ofString "kyber_py.polynomials.polynomials") (448 : Nat)) none (.ref (379 : Nat)) @PySem.Value.none (0 : Nat))) (@List.toArray (@Option @PySem.Value) []))) ::
  (nat_lit 381, (@PySem.Obj.mk (@PySem.Value.type "tuple") none (@PySem.Data.seq (@List.toArray @PySem.Value []) (0 : Nat)) (@List.toArray (@Option @PySem.Value) []))) ::
  (nat_lit 383, (@PySem.Obj.mk (@PySem.Value.type "tuple") none (@PySem.Data.seq (@List.toArray @PySem.Value ((@PySem.Value.str (Str.ofString "a0") (665 : Nat)) :: ((@PySem.Value.str (Str.ofString "a1") (666 : Nat)) :: ((@PySem.Value.str (Str.ofString "b0") (667 : Nat)) :: ((@PySem.Value.str (Str.ofString "b1") (668 : Nat)) :: ((@PySem.Value.str (Str.ofString "zeta") (669 : Nat)) :: ((@PySem.Value.str (Str.ofString "r0") (670 : Nat)) :: ((@PySem.Value.str (Str.ofString "r1") (671 : Nat)) :: [])))))))) (0 : Nat)) (@List.toArray (@Option @PySem.Value) []))) ::
  (nat_lit 384, (@PySem.Obj.mk (@PySem.Value.type "tuple") none (@PySem.Data.seq (@List.toArray @PySem.Value []) (0 : Nat)) (@List.toArray (@Option @PySem.Value) []))) ::
  (nat_lit 386, (@PySem.Obj.mk (@PySem.Value.type "code") none (@PySem.Data.fields (@List.toArray @PySem.Value ((@PySem.Value.str (Str.ofString "_ntt_base_multiplication") (662 : Nat)) :: ((@PySem.Value.str (Str.ofString "PolynomialNTT._ntt_base_multiplication") (663 : Nat)) :: ((@PySem.Value.str (Str.ofString "/claim/cut.py") (664 : Nat)) :: ((@PySem.Value.int (241 : Int) (0 : Nat)) :: ((@PySem.Value.int (5 : Int) (0 : Nat)) :: ((@PySem.Value.int (0 : Int) (0 : Nat)) :: ((@PySem.Value.int (0 : Int) (0 : Nat)) :: ((@PySem.Value.int (3 : Int) (0 : Nat)) :: ((.ref (381 : Nat)) :: ((@PySem.Value.bool @Bool.true) :: ((@PySem.Value.int (181 : Int) (0 : Nat)) :: ((.ref (382 : Nat)) :: (@PySem.Value.none :: ((.ref (383 : Nat)) :: ((.ref (384 : Nat)) :: ((.ref (385 : Nat)) :: ((@PySem.Value.int (672 : Int) (0 : Nat)) :: ((@PySem.Value.int (241 : Int) (0 : Nat)) :: ((@PySem.Value.str (Str.ofString "/claim/cut.py") (673 : Nat)) :: []))))))))))))))))))))) (@List.toArray (@Option @PySem.Value) []))) ::
  (nat_lit 388, (@PySem.Obj.mk (@PySem.Value.type "dict") none (@PySem.Data.dict (@List.toArray @PySem.DictEntry ((@PySem.DictEntry.mk (@PySem.PyData.keyHash P (Str.ofString "__module__")) (@PySem.Value.str (Str.ofString "__module__") (675 : Nat)) (@PySem.Value.str (Str.ofString "kyber_py.polynomials.polynomials") (448 : Nat))) :: ((@PySem.DictEntry.mk (@PySem.PyData.keyHash P (Str.ofString "__name__")) (@PySem.Value.str (Str.ofString "__name__") (678 : Nat)) (@PySem.Value.str (Str.ofString "_ntt_base_multiplication") (677 : Nat))) :: ((@PySem.DictEntry.mk (@PySem.PyData.keyHash P (Str.ofString "__qualname__")) (@PySem.Value.str (Str.ofString "__qualname__") (681 : Nat)) (@PySem.Value.str (Str.ofString "PolynomialNTT._ntt_base_multiplication") (680 : Nat))) :: ((@PySem.DictEntry.mk (@PySem.PyData.keyHash P (Str.ofString "__doc__")) (@PySem.Value.str (Str.ofString "__doc__") (683 : Nat)) @PySem.Value.none) :: ((@PySem.DictEntry.mk (@PySem.PyData.keyHash P (Str.ofString "__annotations__")) (@PySem.Value.str (Str.ofString "__annotations__") (685 : Nat)) (.ref (390 : Nat))) :: [])))))) (5 : Nat)) (@List.toArray (@Option @PySem.Value) []))) ::
  (nat_lit 389, (@PySem.Obj.mk (@PySem.Value.type "staticmethod") (some (388 : Nat)) (@PySem.Data.fields (@List.toArray @PySem.Value ((.ref (387 : Nat)) :: ((@PySem.Value.bool @Bool.false) :: [])))) (@List.toArray (@Option @PySem.Value) []))) ::
  (nat_lit 390, (@PySem.Obj.mk (@PySem.Value.type "dict") none (@PySem.Data.dict (@List.toArray @PySem.DictEntry []) (0 : Nat)) (@List.toArray (@Option @PySem.Value) []))) ::
  (nat_lit 391, (@PySem.Obj.mk (@PySem.Value.type "tuple") none (@PySem.Data.seq (@List.toArray @PySem.Value []) (0 : Nat)) (@List.toArray (@Option @PySem.Value) []))) ::
  (nat_lit 393, (@PySem.Obj.mk (@PySem.Value.type "tuple") none (@PySem.Data.seq (@List.toArray @PySem.Value ((@PySem.Value.str (Str.ofString "self") (690 : Nat)) :: ((@PySem.Value.str (Str.ofString "f_coeffs") (691 : Nat)) :: ((@PySem.Value.str (Str.ofString "g_coeffs") (692 : Nat)) :: ((@PySem.Value.str (Str.ofString "new_coeffs") (693 : Nat)) :: ((@PySem.Value.str (Str.ofString "zetas") (694 : Nat)) :: ((@PySem.Value.str (Str.ofString "i") (695 : Nat)) :: ((@PySem.Value.str (Str.ofString "r0") (696 : Nat)) :: ((@PySem.Value.str (Str.ofString "r1") (697 : Nat)) :: ((@PySem.Value.str (Str.ofString "r2") (698 : Nat)) :: ((@PySem.Value.str (Str.ofString "r3") (699 : Nat)) :: []))))))))))) (0 : Nat)) (@List.toArray (@Option @PySem.Value) []))) ::
  (nat_lit 394, (@PySem.Obj.mk (@PySem.Value.type "tuple") none (@PySem.Data.seq (@List.toArray @PySem.Value []) (0 : Nat)) (@List.toArray (@Option @PySem.Value) []))) ::
  (nat_lit 396, (@PySem.Obj.mk (@PySem.Value.type "code") none (@PySem.Data.fields (@List.toArray @PySem.Value ((@PySem.Value.str (Str.ofString "_ntt_coefficient_multiplication") (687 : Nat)) :: ((@PySem.Value.str (Str.ofString "PolynomialNTT._ntt_coefficient_multiplication") (688 : Nat)) :: ((@PySem.Value.str (Str.ofString "/claim/cut.py") (689 : Nat)) :: ((@PySem.Value.int (247 : Int) (0 : Nat)) :: ((@PySem.Value.int (3 : Int) (0 : Nat)) :: ((@PySem.Value.int (0 : Int) (0 : Nat)) :: ((@PySem.Value.int (0 : Int) (0 : Nat)) :: ((@PySem.Value.int (3 : Int) (0 : Nat)) :: ((.ref (391 : Nat)) :: ((@PySem.Value.bool @Bool.true) :: ((@PySem.Value.int (181 : Int) (0 : Nat)) :: ((.ref (392 : Nat)) :: (@PySem.Value.none :: ((.ref (393 : Nat)) :: ((.ref (394 : Nat)) :: ((.ref (395 : Nat)) :: ((@PySem.Value.int (700 : Int) (0 : Nat)) :: ((@PySem.Value.int (247 : Int) (0 : Nat)) :: ((@PySem.Value.str (Str.ofString "/claim/cut.py") (701 : Nat)) :: []))))))))))))))))))))) (@List.toArray (@Option @PySem.Value) []))) ::
  (nat_lit 398, (@PySem.Obj.mk (@PySem.Value.type "tuple") none (@PySem.Data.seq (@List.toArray @PySem.Value []) (0 : Nat)) (@List.toArray (@Option @PySem.Value) []))) ::
  (nat_lit 400, (@PySem.Obj.mk (@PySem.Value.type "tuple") none (@PySem.Data.seq (@List.toArray @PySem.Value ((@PySem.Value.str (Str.ofString "self") (706 : Nat)) :: ((@PySem.Value.str (Str.ofString "other") (707 : Nat)) :: ((@PySem.Value.str (Str.ofString "new_coeffs") (708 : Nat)) :: [])))) (0 : Nat)) (@List.toArray (@Option @PySem.Value) []))) ::
  (nat_lit 401, (@PySem.Obj.mk (@PySem.Value.type "tuple") none (@PySem.Data.seq (@List.toArray @PySem.Value []) (0 : Nat)) (@List.toArray (@Option @PySem.Value) []))) ::
  (nat_lit 403, (@PySem.Obj.mk (@PySem.Value.type "code") none (@PySem.Data.fields (@List.toArray @PySem.Value ((@PySem.Value.str (Str.ofString "_ntt_multiplication") (703 : Nat)) :: ((@PySem.Value.str (Str.ofString "PolynomialNTT._ntt_multiplication") (704 : Nat)) :: ((@PySem.Value.str (Str.ofString "/claim/cut.py") (705 : Nat)) :: ((@PySem.Value.int (256 : Int) (0 : Nat)) :: ((@PySem.Value.int (2 : Int) (0 : Nat)) :: ((@PySem.Value.int (0 : Int) (0 : Nat)) :: ((@PySem.Value.int (0 : Int) (0 : Nat)) :: ((@PySem.Value.int (3 : Int) (0 : Nat)) :: ((.ref (398 : Nat)) :: ((@PySem.Value.bool @Bool.true) :: ((@PySem.Value.int (181 : Int) (0 : Nat)) :: ((.ref (399 : Nat)) :: (@PySem.Value.none :: ((.ref (400 : Nat)) :: ((.ref (401 : Nat)) :: ((.ref (402 : Nat)) :: ((@PySem.Value.int (709 : Int) (0 : Nat)) :: ((@PySem.Value.int (256 : Int) (0 : Nat)) :: ((@PySem.Value.str (Str.ofString "/claim/cut.py") (710 : Nat)) :: []))))))))))))))))))))) (@List.toArray (@Option @PySem.Value) []))) ::
  (nat_lit 405, (@PySem.Obj.mk (@PySem.Value.type "tuple") none (@PySem.Data.seq (@List.toArray @PySem.Value []) (0 : Nat)) (@List.toArray (@Option @PySem.Value) []))) ::
  (nat_lit 407, (@PySem.Obj.mk (@PySem.Value.type "tuple") none (@PySem.Data.seq (@List.toArray @PySem.Value ((@PySem.Value.str (Str.ofString "self") (715 : Nat)) :: ((@PySem.Value.str (Str.ofString "other") (716 : Nat)) :: ((@PySem.Value.str (Str.ofString "new_coeffs") (717 : Nat)) :: [])))) (0 : Nat)) (@List.toArray (@Option @PySem.Value) []))) ::
  (nat_lit 408, (@PySem.Obj.mk (@PySem.Value.type "tuple") none (@PySem.Data.seq (@List.toArray @PySem.Value []) (0 : Nat)) (@List.toArray (@Option @PySem.Value) []))) ::
  (nat_lit 410, (@PySem.Obj.mk (@PySem.Value.type "code") none (@PySem.Data.fields (@List.toArray @PySem.Value ((@PySem.Value.str (Str.ofString "__add__") (712 : Nat)) :: ((@PySem.Value.str (Str.ofString "PolynomialNTT.__add__") (713 : Nat)) :: ((@PySem.Value.str (Str.ofString "/claim/cut.py") (714 : Nat)) :: ((@PySem.Value.int (260 : Int) (0 : Nat)) :: ((@PySem.Value.int (2 : Int) (0 : Nat)) :: ((@PySem.Value.int (0 : Int) (0 : Nat)) :: ((@PySem.Value.int (0 : Int) (0 : Nat)) :: ((@PySem.Value.int (3 : Int) (0 : Nat)) :: ((.ref (405 : Nat)) :: ((@PySem.Value.bool @Bool.true) :: ((@PySem.Value.int (181 : Int) (0 : Nat)) :: ((.ref (406 : Nat)) :: (@PySem.Value.none :: ((.ref (407 : Nat)) :: ((.ref (408 : Nat)) :: ((.ref (409 : Nat)) :: ((@PySem.Value.int (718 : Int) (0 : Nat)) :: ((@PySem.Value.int (260 : Int) (0 : Nat)) :: ((@PySem.Value.str (Str.ofString "/claim/cut.py") (719 : Nat)) :: []))))))))))))))))))))) (@List.toArray (@Option @PySem.Value) []))) ::
  (nat_lit 412, (@PySem.Obj.mk (@PySem.Value.type "tuple") none (@PySem.Data.seq (@List.toArray @PySem.Value []) (0 : Nat)) (@List.toArray (@Option @PySem.Value) []))) ::
  (nat_lit 414, (@PySem.Obj.mk (@PySem.Value.type "tuple") none (@PySem.Data.seq (@List.toArray @PySem.Value ((@PySem.Value.str (Str.ofString "self") (724 : Nat)) :: ((@PySem.Value.str (Str.ofString "other") (725 : Nat)) :: ((@PySem.Value.str (Str.ofString "new_coeffs") (726 : Nat)) :: [])))) (0 : Nat)) (@List.toArray (@Option @PySem.Value) []))) ::
  (nat_lit 415, (@PySem.Obj.mk (@PySem.Value.type "tuple") none (@PySem.Data.seq (@List.toArray @PySem.Value []) (0 : Nat)) (@List.toArray (@Option @PySem.Value) []))) ::
  (nat_lit 417, (@PySem.Obj.mk (@PySem.Value.type "code") none (@PySem.Data.fields (@List.toArray @PySem.Value ((@PySem.Value.str (Str.ofString "__sub__") (721 : Nat)) :: ((@PySem.Value.str (Str.ofString "PolynomialNTT.__sub__") (722 : Nat)) :: ((@PySem.Value.str (Str.ofString "/claim/cut.py") (723 : Nat)) :: ((@PySem.Value.int (264 : Int) (0 : Nat)) :: ((@PySem.Value.int (2 : Int) (0 : Nat)) :: ((@PySem.Value.int (0 : Int) (0 : Nat)) :: ((@PySem.Value.int (0 : Int) (0 : Nat)) :: ((@PySem.Value.int (3 : Int) (0 : Nat)) :: ((.ref (412 : Nat)) :: ((@PySem.Value.bool @Bool.true) :: ((@PySem.Value.int (181 : Int) (0 : Nat)) :: ((.ref (413 : Nat)) :: (@PySem.Value.none :: ((.ref (414 : Nat)) :: ((.ref (415 : Nat)) :: ((.ref (416 : Nat)) :: ((@PySem.Value.int (727 : Int) (0 : Nat)) :: ((@PySem.Value.int (264 : Int) (0 : Nat)) :: ((@PySem.Value.str (Str.ofString "/claim/cut.py") (728 : Nat)) :: []))))))))))))))))))))) (@List.toArray (@Option @PySem.Value) []))) ::
  (nat_lit 419, (@PySem.Obj.mk (@PySem.Value.type "tuple") none (@PySem.Data.seq (@List.toArray @PySem.Value []) (0 : Nat)) (@List.toArray (@Option @PySem.Value) []))) ::
  (nat_lit 422, (@PySem.Obj.mk (@PySem.Value.type "code") none (@PySem.Data.fields (@List.toArray @PySem.Value ((@PySem.Value.str (Str.ofString "__mul__") (730 : Nat)) :: ((@PySem.Value.str (Str.ofString "PolynomialNTT.__mul__") (731 : Nat)) :: ((@PySem.Value.str (Str.ofString "/claim/cut.py") (732 : Nat)) :: ((@PySem.Value.int (268 : Int) (0 : Nat)) :: ((@PySem.Value.int (2 : Int) (0 : Nat)) :: ((@PySem.Value.int (0 : Int) (0 : Nat)) :: ((@PySem.Value.int (0 : Int) (0 : Nat)) :: ((@PySem.Value.int (3 : Int) (0 : Nat)) :: ((.ref (419 : Nat)) :: ((@PySem.Value.bool @Bool.true) :: ((@PySem.Value.int (181 : Int) (0 : Nat)) :: ((.ref (420 : Nat)) :: (@PySem.Value.none :: (@PySem.Value.none :: (@PySem.Value.none :: ((.ref (421 : Nat)) :: ((@PySem.Value.int (733 : Int) (0 : Nat)) :: ((@PySem.Value.int (268 : Int) (0 : Nat)) :: ((@PySem.Value.str (Str.ofString "/claim/cut.py") (734 : Nat)) :: []))))))))))))))))))))) (@List.toArray (@Option @PySem.Value) []))) ::
  (nat_lit 424, (@PySem.Obj.mk (@PySem.Value.type "tuple") none (@PySem.Data.seq (@List.toArray @PySem.Value ((@PySem.Value.str (Str.ofString "coeffs") (736 : Nat)) :: ((@PySem.Value.str (Str.ofString "parent") (737 : Nat)) :: []))) (0 : Nat)) (@List.toArray (@Option @PySem.Value) []))) ::
  (nat_lit 425, (@PySem.Obj.mk (@PySem.Value.type "dict") none (@PySem.Data.dict (@List.toArray @PySem.DictEntry ((@PySem.DictEntry.mk (@PySem.PyData.keyHash P (Str.ofString "__module__")) (@PySem.Value.str (Str.ofString "__module__") (624 : Nat)) (@PySem.Value.str (Str.ofString "kyber_py.polynomials.polynomials") (448 : Nat))) :: ((@PySem.DictEntry.mk (@PySem.PyData.keyHash P (Str.ofString "__firstlineno__")) (@PySem.Value.str (Str.ofString "__firstlineno__") (628 : Nat)) (@PySem.Value.int (209 : Int) (627 : Nat))) :: ((@PySem.DictEntry.mk (@PySem.PyData.keyHash P (Str.ofString "__init__")) (@PySem.Value.str (Str.ofString "__init__") (637 : Nat)) (.ref (366 : Nat))) :: ((@PySem.DictEntry.mk (@PySem.PyData.keyHash P (Str.ofString "to_ntt")) (@PySem.Value.str (Str.ofString "to_ntt") (644 : Nat)) (.ref (373 : Nat))) :: ((@PySem.DictEntry.mk (@PySem.PyData.keyHash P (Str.ofString "from_ntt")) (@PySem.Value.str (Str.ofString "from_ntt") (661 : Nat)) (.ref (380 : Nat))) :: ((@PySem.DictEntry.mk (@PySem.PyData.keyHash P (Str.ofString "_ntt_base_multiplication")) (@PySem.Value.str (Str.ofString "_ntt_base_multiplication") (686 : Nat)) (.ref (389 : Nat))) :: ((@PySem.DictEntry.mk (@PySem.PyData.keyHash P (Str.ofString "_ntt_coefficient_multiplication")) (@PySem.Value.str (Str.ofString "_ntt_coefficient_multiplication") (702 : Nat)) (.ref (397 : Nat))) :: ((@PySem.DictEntry.mk (@PySem.PyData.keyHash P (Str.ofString "_ntt_multiplication")) (@PySem.Value.str (Str.ofString "_ntt_multiplication") (711 : Nat)) (.ref (404 : Nat))) :: ((@PySem.DictEntry.mk (@PySem.PyData.keyHash P (Str.ofString "__add__")) (@PySem.Value.str (Str.ofString "__add__") (720 : Nat)) (.ref (411 : Nat))) :: ((@PySem.DictEntry.mk (@PySem.PyData.keyHash P (Str.ofString "__sub__")) (@PySem.Value.str (Str.ofString "__sub__") (729 : Nat)) (.ref (418 : Nat))) :: ((@PySem.DictEntry.mk (@PySem.PyData.keyHash P (Str.ofString "__mul__")) (@PySem.Value.str (Str.ofString "__mul__") (735 : Nat)) (.ref (423 : Nat))) :: ((@PySem.DictEntry.mk (@PySem.PyData.keyHash P (Str.ofString "__static_attributes__")) (@PySem.Value.str (Str.ofString "__static_attributes__") (738 : Nat)) (.ref (424 : Nat))) :: ((@PySem.DictEntry.mk (@PySem.PyData.keyHash P (Str.ofString "__doc__")) (@PySem.Value.str (Str.ofString "__doc__") (739 : Nat)) @PySem.Value.none) :: [])))))))))))))) (2 : Nat)) (@List.toArray (@Option @PySem.Value) []))) ::
  (nat_lit 426, (@PySem.Obj.mk (@PySem.Value.type "type") none (@PySem.Data.cls (@PySem.ClassData.mk (Str.ofString "PolynomialNTT") ((.ref (350 : Nat)) :: []) ((.ref (426 : Nat)) :: ((.ref (350 : Nat)) :: ((.ref (222 : Nat)) :: ((@PySem.Value.type "object") :: [])))) (425 : Nat) (Str.ofString "PolynomialNTT") @Bool.true [] [] @Bool.false none @Bool.false)) (@List.toArray (@Option @PySem.Value) ((some (.ref (353 : Nat))) :: (none :: ((some (@PySem.Value.str (Str.ofString "PolynomialNTT") (617 : Nat))) :: ((some (@PySem.Value.str (Str.ofString "PolynomialNTT") (625 : Nat))) :: ((some (@PySem.Value.builtin "object.__new__")) :: ((some (@PySem.Value.bool @Bool.true)) :: []))))))))) ::
  (nat_lit 429, (@PySem.Obj.mk (@PySem.Value.type "tuple") none (@PySem.Data.seq (@List.toArray @PySem.Value []) (0 : Nat)) (@List.toArray (@Option @PySem.Value) []))) ::
  (nat_lit 432, (@PySem.Obj.mk (@PySem.Value.type "code") none (@PySem.Data.fields (@List.toArray @PySem.Value ((@PySem.Value.str (Str.ofString "_law_state") (744 : Nat)) :: ((@PySem.Value.str (Str.ofString "_law_state") (745 : Nat)) :: ((@PySem.Value.str (Str.ofString "/claim/cut.py") (746 : Nat)) :: ((@PySem.Value.int (277 : Int) (0 : Nat)) :: ((@PySem.Value.int (1 : Int) (0 : Nat)) :: ((@PySem.Value.int (0 : Int) (0 : Nat)) :: ((@PySem.Value.int (0 : Int) (0 : Nat)) :: ((@PySem.Value.int (3 : Int) (0 : Nat)) :: ((.ref (429 : Nat)) :: ((@PySem.Value.bool @Bool.true) :: ((@PySem.Value.int (181 : Int) (0 : Nat)) :: ((.ref (430 : Nat)) :: (@PySem.Value.none :: (@PySem.Value.none :: (@PySem.Value.none :: ((.ref (431 : Nat)) :: ((@PySem.Value.int (747 : Int) (0 : Nat)) :: ((@PySem.Value.int (277 : Int) (0 : Nat)) :: ((@PySem.Value.str (Str.ofString "/claim/cut.py") (748 : Nat)) :: []))))))))))))))))))))) (@List.toArray (@Option @PySem.Value) []))) ::
  (nat_lit 433, (PySem.Obj.mk (@PySem.Value.type "function") none (PySem.Data.func (PySem.FuncData.mk (Str.ofString "_law_state") (Str.ofString "_law_state") fP433 (PySem.FuncBody.stmts fB433) fS433 (3 : Nat) [] @PySem.Value.none @PySem.Value.none @PySem.Value.none (@PySem.Value.str (Str.ofString "law_yi0042_01") (742 : Nat)) none (.ref (432 : Nat)) @PySem.Value.none (0 : Nat))) (@List.toArray (@Option @PySem.Value) []))) ::
  (nat_lit 434, (@PySem.Obj.mk (@PySem.Value.type "tuple") none (@PySem.Data.seq (@List.toArray @PySem.Value []) (0 : Nat)) (@List.toArray (@Option @PySem.Value) []))) ::
  (nat_lit 436, (@PySem.Obj.mk (@PySem.Value.type "tuple") none (@PySem.Data.seq (@List.toArray @PySem.Value ((@PySem.Value.str (Str.ofString "state") (753 : Nat)) :: ((@PySem.Value.str (Str.ofString "most") (754 : Nat)) :: ((@PySem.Value.str (Str.ofString "cells") (755 : Nat)) :: ((@PySem.Value.str (Str.ofString "at") (756 : Nat)) :: ((@PySem.Value.str (Str.ofString "cell") (757 : Nat)) :: ((@PySem.Value.str (Str.ofString "mixed") (758 : Nat)) :: []))))))) (0 : Nat)) (@List.toArray (@Option @PySem.Value) []))) ::
  (nat_lit 437, (@PySem.Obj.mk (@PySem.Value.type "tuple") none (@PySem.Data.seq (@List.toArray @PySem.Value []) (0 : Nat)) (@List.toArray (@Option @PySem.Value) []))) ::
  (nat_lit 439, (@PySem.Obj.mk (@PySem.Value.type "code") none (@PySem.Data.fields (@List.toArray @PySem.Value ((@PySem.Value.str (Str.ofString "_law_take") (750 : Nat)) :: ((@PySem.Value.str (Str.ofString "_law_take") (751 : Nat)) :: ((@PySem.Value.str (Str.ofString "/claim/cut.py") (752 : Nat)) :: ((@PySem.Value.int (282 : Int) (0 : Nat)) :: ((@PySem.Value.int (2 : Int) (0 : Nat)) :: ((@PySem.Value.int (0 : Int) (0 : Nat)) :: ((@PySem.Value.int (0 : Int) (0 : Nat)) :: ((@PySem.Value.int (3 : Int) (0 : Nat)) :: ((.ref (434 : Nat)) :: ((@PySem.Value.bool @Bool.true) :: ((@PySem.Value.int (181 : Int) (0 : Nat)) :: ((.ref (435 : Nat)) :: (@PySem.Value.none :: ((.ref (436 : Nat)) :: ((.ref (437 : Nat)) :: ((.ref (438 : Nat)) :: ((@PySem.Value.int (759 : Int) (0 : Nat)) :: ((@PySem.Value.int (282 : Int) (0 : Nat)) :: ((@PySem.Value.str (Str.ofString "/claim/cut.py") (760 : Nat)) :: []))))))))))))))))))))) (@List.toArray (@Option @PySem.Value) []))) ::
  (nat_lit 440, (PySem.Obj.mk (@PySem.Value.type "function") none (PySem.Data.func (PySem.FuncData.mk (Str.ofString "_law_take") (Str.ofString "_law_take") fP440 (PySem.FuncBody.stmts fB440) fS440 (3 : Nat) [] @PySem.Value.none @PySem.Value.none @PySem.Value.none (@PySem.Value.str (Str.ofString "law_yi0042_01") (742 : Nat)) none (.ref (439 : Nat)) @PySem.Value.none (0 : Nat))) (@List.toArray (@Option @PySem.Value) []))) ::
  (nat_lit 441, (@PySem.Obj.mk (@PySem.Value.type "tuple") none (@PySem.Data.seq (@List.toArray @PySem.Value []) (0 : Nat)) (@List.toArray (@Option @PySem.Value) []))) ::
  (nat_lit 443, (@PySem.Obj.mk (@PySem.Value.type "tuple") none (@PySem.Data.seq (@List.toArray @PySem.Value ((@PySem.Value.str (Str.ofString "place") (765 : Nat)) :: ((@PySem.Value.str (Str.ofString "turned") (766 : Nat)) :: ((@PySem.Value.str (Str.ofString "k") (767 : Nat)) :: [])))) (0 : Nat)) (@List.toArray (@Option @PySem.Value) []))) ::
  (nat_lit 444, (@PySem.Obj.mk (@PySem.Value.type "tuple") none (@PySem.Data.seq (@List.toArray @PySem.Value []) (0 : Nat)) (@List.toArray (@Option @PySem.Value) []))) ::
  (nat_lit 446, (@PySem.Obj.mk (@PySem.Value.type "code") none (@PySem.Data.fields (@List.toArray @PySem.Value ((@PySem.Value.str (Str.ofString "_law_root") (762 : Nat)) :: ((@PySem.Value.str (Str.ofString "_law_root") (763 : Nat)) :: ((@PySem.Value.str (Str.ofString "/claim/cut.py") (764 : Nat)) :: ((@PySem.Value.int (293 : Int) (0 : Nat)) :: ((@PySem.Value.int (1 : Int) (0 : Nat)) :: ((@PySem.Value.int (0 : Int) (0 : Nat)) :: ((@PySem.Value.int (0 : Int) (0 : Nat)) :: ((@PySem.Value.int (3 : Int) (0 : Nat)) :: ((.ref (441 : Nat)) :: ((@PySem.Value.bool @Bool.true) :: ((@PySem.Value.int (181 : Int) (0 : Nat)) :: ((.ref (442 : Nat)) :: (@PySem.Value.none :: ((.ref (443 : Nat)) :: ((.ref (444 : Nat)) :: ((.ref (445 : Nat)) :: ((@PySem.Value.int (768 : Int) (0 : Nat)) :: ((@PySem.Value.int (293 : Int) (0 : Nat)) :: ((@PySem.Value.str (Str.ofString "/claim/cut.py") (769 : Nat)) :: []))))))))))))))))))))) (@List.toArray (@Option @PySem.Value) []))) ::
  (nat_lit 447, (PySem.Obj.mk (@PySem.Value.type "function") none (PySem.Data.func (PySem.FuncData.mk (Str.ofString "_law_root") (Str.ofString "_law_root") fP447 (PySem.FuncBody.stmts fB447) fS447 (3 : Nat) [] @PySem.Value.none @PySem.Value.none @PySem.Value.none (@PySem.Value.str (Str.ofString "law_yi0042_01") (742 : Nat)) none (.ref (446 : Nat)) @PySem.Value.none (0 : Nat))) (@List.toArray (@Option @PySem.Value) []))) ::
  (nat_lit 448, (@PySem.Obj.mk (@PySem.Value.type "tuple") none (@PySem.Data.seq (@List.toArray @PySem.Value []) (0 : Nat)) (@List.toArray (@Option @PySem.Value) []))) ::
  (nat_lit 450, (@PySem.Obj.mk (@PySem.Value.type "tuple") none (@PySem.Data.seq (@List.toArray @PySem.Value ((@PySem.Value.str (Str.ofString "row") (774 : Nat)) :: ((@PySem.Value.str (Str.ofString "place") (775 : Nat)) :: ((@PySem.Value.str (Str.ofString "root") (776 : Nat)) :: ((@PySem.Value.str (Str.ofString "pair") (777 : Nat)) :: ((@PySem.Value.str (Str.ofString "part") (778 : Nat)) :: ((@PySem.Value.str (Str.ofString "total") (779 : Nat)) :: ((@PySem.Value.str (Str.ofString "number") (780 : Nat)) :: [])))))))) (0 : Nat)) (@List.toArray (@Option @PySem.Value) []))) ::
  (nat_lit 451, (@PySem.Obj.mk (@PySem.Value.type "tuple") none (@PySem.Data.seq (@List.toArray @PySem.Value []) (0 : Nat)) (@List.toArray (@Option @PySem.Value) []))) ::
  (nat_lit 453, (@PySem.Obj.mk (@PySem.Value.type "code") none (@PySem.Data.fields (@List.toArray @PySem.Value ((@PySem.Value.str (Str.ofString "_law_left") (771 : Nat)) :: ((@PySem.Value.str (Str.ofString "_law_left") (772 : Nat)) :: ((@PySem.Value.str (Str.ofString "/claim/cut.py") (773 : Nat)) :: ((@PySem.Value.int (299 : Int) (0 : Nat)) :: ((@PySem.Value.int (2 : Int) (0 : Nat)) :: ((@PySem.Value.int (0 : Int) (0 : Nat)) :: ((@PySem.Value.int (0 : Int) (0 : Nat)) :: ((@PySem.Value.int (3 : Int) (0 : Nat)) :: ((.ref (448 : Nat)) :: ((@PySem.Value.bool @Bool.true) :: ((@PySem.Value.int (181 : Int) (0 : Nat)) :: ((.ref (449 : Nat)) :: (@PySem.Value.none :: ((.ref (450 : Nat)) :: ((.ref (451 : Nat)) :: ((.ref (452 : Nat)) :: ((@PySem.Value.int (781 : Int) (0 : Nat)) :: ((@PySem.Value.int (299 : Int) (0 : Nat)) :: ((@PySem.Value.str (Str.ofString "/claim/cut.py") (782 : Nat)) :: []))))))))))))))))))))) (@List.toArray (@Option @PySem.Value) []))) ::
  (nat_lit 454, (PySem.Obj.mk (@PySem.Value.type "function") none (PySem.Data.func (PySem.FuncData.mk (Str.ofString "_law_left") (Str.ofString "_law_left") fP454 (PySem.FuncBody.stmts fB454) fS454 (3 : Nat) [] @PySem.Value.none @PySem.Value.none @PySem.Value.none (@PySem.Value.str (Str.ofString "law_yi0042_01") (742 : Nat)) none (.ref (453 : Nat)) @PySem.Value.none (0 : Nat))) (@List.toArray (@Option @PySem.Value) []))) ::
  (nat_lit 455, (@PySem.Obj.mk (@PySem.Value.type "tuple") none (@PySem.Data.seq (@List.toArray @PySem.Value []) (0 : Nat)) (@List.toArray (@Option @PySem.Value) []))) ::
  (nat_lit 457, (@PySem.Obj.mk (@PySem.Value.type "tuple") none (@PySem.Data.seq (@List.toArray @PySem.Value ((@PySem.Value.str (Str.ofString "script") (787 : Nat)) :: ((@PySem.Value.str (Str.ofString "state") (788 : Nat)) :: ((@PySem.Value.str (Str.ofString "row") (789 : Nat)) :: ((@PySem.Value.str (Str.ofString "at") (790 : Nat)) :: ((@PySem.Value.str (Str.ofString "k") (791 : Nat)) :: ((@PySem.Value.str (Str.ofString "told") (792 : Nat)) :: ((@PySem.Value.str (Str.ofString "place") (793 : Nat)) :: [])))))))) (0 : Nat)) (@List.toArray (@Option @PySem.Value) []))) ::
  (nat_lit 458, (@PySem.Obj.mk (@PySem.Value.type "tuple") none (@PySem.Data.seq (@List.toArray @PySem.Value []) (0 : Nat)) (@List.toArray (@Option @PySem.Value) []))) ::
  (nat_lit 460, (@PySem.Obj.mk (@PySem.Value.type "code") none (@PySem.Data.fields (@List.toArray @PySem.Value ((@PySem.Value.str (Str.ofString "law") (784 : Nat)) :: ((@PySem.Value.str (Str.ofString "law") (785 : Nat)) :: ((@PySem.Value.str (Str.ofString "/claim/cut.py") (786 : Nat)) :: ((@PySem.Value.int (308 : Int) (0 : Nat)) :: ((@PySem.Value.int (1 : Int) (0 : Nat)) :: ((@PySem.Value.int (0 : Int) (0 : Nat)) :: ((@PySem.Value.int (0 : Int) (0 : Nat)) :: ((@PySem.Value.int (3 : Int) (0 : Nat)) :: ((.ref (455 : Nat)) :: ((@PySem.Value.bool @Bool.true) :: ((@PySem.Value.int (181 : Int) (0 : Nat)) :: ((.ref (456 : Nat)) :: (@PySem.Value.none :: ((.ref (457 : Nat)) :: ((.ref (458 : Nat)) :: ((.ref (459 : Nat)) :: ((@PySem.Value.int (794 : Int) (0 : Nat)) :: ((@PySem.Value.int (308 : Int) (0 : Nat)) :: ((@PySem.Value.str (Str.ofString "/claim/cut.py") (795 : Nat)) :: []))))))))))))))))))))) (@List.toArray (@Option @PySem.Value) []))) ::
  []
noncomputable def KA : List Addr := [2, 3, 15, 17, 18, 20, 29, 31, 32, 34, 36, 38, 39, 41, 43, 45, 46, 48, 50, 52, 53, 55, 57, 58, 59, 60, 61, 71, 73, 74, 76, 78, 80, 81, 83, 85, 87, 88, 90, 92, 95, 96, 97, 99, 100, 102, 104, 106, 107, 109, 111, 113, 114, 116, 118, 121, 123, 126, 128, 131, 133, 135, 136, 138, 140, 142, 143, 145, 147, 149, 150, 152, 154, 157, 159, 161, 162, 164, 166, 168, 169, 171, 173, 175, 176, 178, 180, 183, 185, 187, 188, 190, 192, 194, 195, 197, 199, 201, 202, 204, 206, 208, 209, 211, 213, 215, 216, 218, 220, 221, 222, 223, 224, 227, 234, 237, 238, 239, 241, 242, 244, 245, 246, 247, 248, 249, 251, 252, 254, 256, 257, 259, 260, 262, 264, 265, 267, 268, 270, 272, 273, 275, 276, 278, 279, 280, 281, 282, 285, 292, 294, 295, 297, 298, 299, 301, 302, 304, 306, 308, 309, 311, 313, 315, 316, 318, 320, 322, 323, 325, 327, 329, 330, 332, 334, 336, 337, 339, 341, 343, 344, 346, 348, 349, 350, 353, 360, 362, 363, 365, 366, 367, 369, 370, 372, 374, 376, 377, 379, 380, 381, 383, 384, 386, 388, 389, 390, 391, 393, 394, 396, 398, 400, 401, 403, 405, 407, 408, 410, 412, 414, 415, 417, 419, 422, 424, 425, 426, 429, 432, 433, 434, 436, 437, 439, 440, 441, 443, 444, 446, 447, 448, 450, 451, 453, 454, 455, 457, 458, 460]
theorem KA_ok (P : Params) : KA = (KK P).map (·.1) := by kernel_rfl
noncomputable def HK : Hook := kHook KK KA KA_ok
noncomputable def mkV (s0 s2 s3 s5 s6 s7 s9 s10 s11 s12 s13 : Stmt) (_h0 : at1 0 = s0) (_h2 : at1 2 = s2) (_h3 : at1 3 = s3) (_h5 : at1 5 = s5) (_h6 : at1 6 = s6) (_h7 : at1 7 = s7) (_h9 : at1 9 = s9) (_h10 : at1 10 = s10) (_h11 : at1 11 = s11) (_h12 : at1 12 = s12) (_h13 : at1 13 = s13) : Program := { PySem.Challenge.pw_yi0042_01 with main := { PySem.Challenge.pw_yi0042_01.main with body := [s0, s2, s3, s5, s6, s7, s9, s10, s11, s12, s13] } }
noncomputable def VV : Program := by
  refine mkV ?s0 ?s2 ?s3 ?s5 ?s6 ?s7 ?s9 ?s10 ?s11 ?s12 ?s13 ?h0 ?h2 ?h3 ?h5 ?h6 ?h7 ?h9 ?h10 ?h11 ?h12 ?h13
  case h0 => conv => lhs; whnf
  case h2 => conv => lhs; whnf
  case h3 => conv => lhs; whnf
  case h5 => conv => lhs; whnf
  case h6 => conv => lhs; whnf
  case h7 => conv => lhs; whnf
  case h9 => conv => lhs; whnf
  case h10 => conv => lhs; whnf
  case h11 => conv => lhs; whnf
  case h12 => conv => lhs; whnf
  case h13 => conv => lhs; whnf
noncomputable def XT (s : Shared) : Bool := xlAt VV [] s && recOk PySem.Challenge.rw_yi0042_01.row.records s
end Mine
end PartNHead

section PartNRun
open PySem PySem.W PyProof.Rows

namespace Mine
set_option maxRecDepth 100000
set_option maxHeartbeats 0
set_option linter.unusedVariables false
noncomputable def O (s : String) : Str := Str.ofString s
noncomputable def E (P : Params) (s : String) (n : Nat) (v : Value) : DictEntry := ⟨PyData.keyHash P (Str.ofString s), .str (Str.ofString s) n, v⟩
noncomputable def gB0 : List Stmt := fnB (at1 0)
noncomputable def gP0 : Arguments := fnP (at1 0)
noncomputable def gS0 : Scope := fnS (at1 0)
noncomputable def gB1 : List Stmt := fnB (at2 2 0)
noncomputable def gP1 : Arguments := fnP (at2 2 0)
noncomputable def gS1 : Scope := fnS (at2 2 0)
noncomputable def gB2 : List Stmt := fnB (at2 2 1)
noncomputable def gP2 : Arguments := fnP (at2 2 1)
noncomputable def gS2 : Scope := fnS (at2 2 1)
noncomputable def gB3 : List Stmt := fnB (at2 2 2)
noncomputable def gP3 : Arguments := fnP (at2 2 2)
noncomputable def gS3 : Scope := fnS (at2 2 2)
noncomputable def gB4 : List Stmt := fnB (at2 2 3)
noncomputable def gP4 : Arguments := fnP (at2 2 3)
noncomputable def gS4 : Scope := fnS (at2 2 3)
noncomputable def gB5 : List Stmt := fnB (at2 3 0)
noncomputable def gP5 : Arguments := fnP (at2 3 0)
noncomputable def gS5 : Scope := fnS (at2 3 0)
noncomputable def gB6 : List Stmt := fnB (at2 3 1)
noncomputable def gP6 : Arguments := fnP (at2 3 1)
noncomputable def gS6 : Scope := fnS (at2 3 1)
noncomputable def gB7 : List Stmt := fnB (at2 3 2)
noncomputable def gP7 : Arguments := fnP (at2 3 2)
noncomputable def gS7 : Scope := fnS (at2 3 2)
noncomputable def gB8 : List Stmt := fnB (at2 3 3)
noncomputable def gP8 : Arguments := fnP (at2 3 3)
noncomputable def gS8 : Scope := fnS (at2 3 3)
noncomputable def gB9 : List Stmt := fnB (at2 3 4)
noncomputable def gP9 : Arguments := fnP (at2 3 4)
noncomputable def gS9 : Scope := fnS (at2 3 4)
noncomputable def gB10 : List Stmt := fnB (at2 3 5)
noncomputable def gP10 : Arguments := fnP (at2 3 5)
noncomputable def gS10 : Scope := fnS (at2 3 5)
noncomputable def gB11 : List Stmt := fnB (at2 3 6)
noncomputable def gP11 : Arguments := fnP (at2 3 6)
noncomputable def gS11 : Scope := fnS (at2 3 6)
noncomputable def gB12 : List Stmt := fnB (at2 3 7)
noncomputable def gP12 : Arguments := fnP (at2 3 7)
noncomputable def gS12 : Scope := fnS (at2 3 7)
noncomputable def gB13 : List Stmt := fnB (at2 3 8)
noncomputable def gP13 : Arguments := fnP (at2 3 8)
noncomputable def gS13 : Scope := fnS (at2 3 8)
noncomputable def gB14 : List Stmt := fnB (at2 3 9)
noncomputable def gP14 : Arguments := fnP (at2 3 9)
noncomputable def gS14 : Scope := fnS (at2 3 9)
noncomputable def gB15 : List Stmt := fnB (at2 3 10)
noncomputable def gP15 : Arguments := fnP (at2 3 10)
noncomputable def gS15 : Scope := fnS (at2 3 10)
noncomputable def gB16 : List Stmt := fnB (at2 3 11)
noncomputable def gP16 : Arguments := fnP (at2 3 11)
noncomputable def gS16 : Scope := fnS (at2 3 11)
noncomputable def gB17 : List Stmt := fnB (at2 3 12)
noncomputable def gP17 : Arguments := fnP (at2 3 12)
noncomputable def gS17 : Scope := fnS (at2 3 12)
noncomputable def gB18 : List Stmt := fnB (at2 3 13)
noncomputable def gP18 : Arguments := fnP (at2 3 13)
noncomputable def gS18 : Scope := fnS (at2 3 13)
noncomputable def gB19 : List Stmt := fnB (at2 3 14)
noncomputable def gP19 : Arguments := fnP (at2 3 14)
noncomputable def gS19 : Scope := fnS (at2 3 14)
noncomputable def gB20 : List Stmt := fnB (at2 3 15)
noncomputable def gP20 : Arguments := fnP (at2 3 15)
noncomputable def gS20 : Scope := fnS (at2 3 15)
noncomputable def gB21 : List Stmt := fnB (at2 3 16)
noncomputable def gP21 : Arguments := fnP (at2 3 16)
noncomputable def gS21 : Scope := fnS (at2 3 16)
noncomputable def gB22 : List Stmt := fnB (at2 3 17)
noncomputable def gP22 : Arguments := fnP (at2 3 17)
noncomputable def gS22 : Scope := fnS (at2 3 17)
noncomputable def gB23 : List Stmt := fnB (at2 3 18)
noncomputable def gP23 : Arguments := fnP (at2 3 18)
noncomputable def gS23 : Scope := fnS (at2 3 18)
noncomputable def gB24 : List Stmt := fnB (at2 3 19)
noncomputable def gP24 : Arguments := fnP (at2 3 19)
noncomputable def gS24 : Scope := fnS (at2 3 19)
noncomputable def gB25 : List Stmt := fnB (at2 3 20)
noncomputable def gP25 : Arguments := fnP (at2 3 20)
noncomputable def gS25 : Scope := fnS (at2 3 20)
noncomputable def gB26 : List Stmt := fnB (at2 3 21)
noncomputable def gP26 : Arguments := fnP (at2 3 21)
noncomputable def gS26 : Scope := fnS (at2 3 21)
noncomputable def gB27 : List Stmt := fnB (at2 3 22)
noncomputable def gP27 : Arguments := fnP (at2 3 22)
noncomputable def gS27 : Scope := fnS (at2 3 22)
noncomputable def gB28 : List Stmt := fnB (at2 5 0)
noncomputable def gP28 : Arguments := fnP (at2 5 0)
noncomputable def gS28 : Scope := fnS (at2 5 0)
noncomputable def gB29 : List Stmt := fnB (at2 5 1)
noncomputable def gP29 : Arguments := fnP (at2 5 1)
noncomputable def gS29 : Scope := fnS (at2 5 1)
noncomputable def gB30 : List Stmt := fnB (at2 5 2)
noncomputable def gP30 : Arguments := fnP (at2 5 2)
noncomputable def gS30 : Scope := fnS (at2 5 2)
noncomputable def gB31 : List Stmt := fnB (at2 5 3)
noncomputable def gP31 : Arguments := fnP (at2 5 3)
noncomputable def gS31 : Scope := fnS (at2 5 3)
noncomputable def gB32 : List Stmt := fnB (at2 5 4)
noncomputable def gP32 : Arguments := fnP (at2 5 4)
noncomputable def gS32 : Scope := fnS (at2 5 4)
noncomputable def gB33 : List Stmt := fnB (at2 5 5)
noncomputable def gP33 : Arguments := fnP (at2 5 5)
noncomputable def gS33 : Scope := fnS (at2 5 5)
noncomputable def gB34 : List Stmt := fnB (at2 6 0)
noncomputable def gP34 : Arguments := fnP (at2 6 0)
noncomputable def gS34 : Scope := fnS (at2 6 0)
noncomputable def gB35 : List Stmt := fnB (at2 6 1)
noncomputable def gP35 : Arguments := fnP (at2 6 1)
noncomputable def gS35 : Scope := fnS (at2 6 1)
noncomputable def gB36 : List Stmt := fnB (at2 6 2)
noncomputable def gP36 : Arguments := fnP (at2 6 2)
noncomputable def gS36 : Scope := fnS (at2 6 2)
noncomputable def gB37 : List Stmt := fnB (at2 6 3)
noncomputable def gP37 : Arguments := fnP (at2 6 3)
noncomputable def gS37 : Scope := fnS (at2 6 3)
noncomputable def gB38 : List Stmt := fnB (at2 6 4)
noncomputable def gP38 : Arguments := fnP (at2 6 4)
noncomputable def gS38 : Scope := fnS (at2 6 4)
noncomputable def gB39 : List Stmt := fnB (at2 6 5)
noncomputable def gP39 : Arguments := fnP (at2 6 5)
noncomputable def gS39 : Scope := fnS (at2 6 5)
noncomputable def gB40 : List Stmt := fnB (at2 6 6)
noncomputable def gP40 : Arguments := fnP (at2 6 6)
noncomputable def gS40 : Scope := fnS (at2 6 6)
noncomputable def gB41 : List Stmt := fnB (at2 6 7)
noncomputable def gP41 : Arguments := fnP (at2 6 7)
noncomputable def gS41 : Scope := fnS (at2 6 7)
noncomputable def gB42 : List Stmt := fnB (at2 7 0)
noncomputable def gP42 : Arguments := fnP (at2 7 0)
noncomputable def gS42 : Scope := fnS (at2 7 0)
noncomputable def gB43 : List Stmt := fnB (at2 7 1)
noncomputable def gP43 : Arguments := fnP (at2 7 1)
noncomputable def gS43 : Scope := fnS (at2 7 1)
noncomputable def gB44 : List Stmt := fnB (at2 7 2)
noncomputable def gP44 : Arguments := fnP (at2 7 2)
noncomputable def gS44 : Scope := fnS (at2 7 2)
noncomputable def gB45 : List Stmt := fnB (at2 7 3)
noncomputable def gP45 : Arguments := fnP (at2 7 3)
noncomputable def gS45 : Scope := fnS (at2 7 3)
noncomputable def gB46 : List Stmt := fnB (at2 7 4)
noncomputable def gP46 : Arguments := fnP (at2 7 4)
noncomputable def gS46 : Scope := fnS (at2 7 4)
noncomputable def gB47 : List Stmt := fnB (at2 7 5)
noncomputable def gP47 : Arguments := fnP (at2 7 5)
noncomputable def gS47 : Scope := fnS (at2 7 5)
noncomputable def gB48 : List Stmt := fnB (at2 7 6)
noncomputable def gP48 : Arguments := fnP (at2 7 6)
noncomputable def gS48 : Scope := fnS (at2 7 6)
noncomputable def gB49 : List Stmt := fnB (at2 7 7)
noncomputable def gP49 : Arguments := fnP (at2 7 7)
noncomputable def gS49 : Scope := fnS (at2 7 7)
noncomputable def gB50 : List Stmt := fnB (at2 7 8)
noncomputable def gP50 : Arguments := fnP (at2 7 8)
noncomputable def gS50 : Scope := fnS (at2 7 8)
noncomputable def gB51 : List Stmt := fnB (at1 9)
noncomputable def gP51 : Arguments := fnP (at1 9)
noncomputable def gS51 : Scope := fnS (at1 9)
noncomputable def gB52 : List Stmt := fnB (at1 10)
noncomputable def gP52 : Arguments := fnP (at1 10)
noncomputable def gS52 : Scope := fnS (at1 10)
noncomputable def gB53 : List Stmt := fnB (at1 11)
noncomputable def gP53 : Arguments := fnP (at1 11)
noncomputable def gS53 : Scope := fnS (at1 11)
noncomputable def gB54 : List Stmt := fnB (at1 12)
noncomputable def gP54 : Arguments := fnP (at1 12)
noncomputable def gS54 : Scope := fnS (at1 12)
noncomputable def gB55 : List Stmt := fnB (at1 13)
noncomputable def gP55 : Arguments := fnP (at1 13)
noncomputable def gS55 : Scope := fnS (at1 13)
noncomputable def q0 (P : Params) : Obj := (@Obj.mk (@Value.type "code") none (@Data.fields ⟨[(@Value.str (O "<module>") 182), (@Value.str (O "<module>") 183), (@Value.str (O "/claim/cut.py") 184), (@Value.int (1 : Int) 0), (@Value.int (0 : Int) 0), (@Value.int (0 : Int) 0), (@Value.int (0 : Int) 0), (@Value.int (0 : Int) 0), (.ref 11), (@Value.bool @Bool.false), (@Value.int (181 : Int) 0), (.ref 12), @Value.none, @Value.none, @Value.none, @Value.none, (@Value.int (185 : Int) 0), (@Value.int (1 : Int) 0), (@Value.str (O "/claim/cut.py") 186)]⟩) ⟨[]⟩)
noncomputable def q1 (P : Params) : Obj := (@Obj.mk (@Value.type "frame") none @Data.plain ⟨[(some (.ref 13)), (some (.ref 3)), (some (.ref 3)), none, (some (@Value.str (O "__main__") 164)), none, (some (.ref 0))]⟩)
noncomputable def q2 (P : Params) : Obj := (@Obj.mk (@Value.type "dict") none (@Data.dict ⟨[(E P "__name__" 165 (@Value.str (O "kyber_py.polynomials.polynomials_generic") 194)), (E P "__doc__" 166 @Value.none), (E P "__package__" 167 @Value.none), (E P "__loader__" 168 (@Value.builtin "__main__.__loader__#opaque")), (E P "__spec__" 169 @Value.none), (E P "__annotations__" 170 (.ref 6)), (E P "__builtins__" 171 (.ref 4)), (E P "__file__" 173 (@Value.str (O "/claim/cut.py") 172)), (E P "__cached__" 174 @Value.none), (E P "_wall" 193 (.ref 21)), (E P "GenericPolynomialRing" 248 (.ref 59))]⟩ 11) ⟨[]⟩)
noncomputable def q3 (P : Params) : Obj := (@Obj.mk @Value.none none (@Data.fields ⟨[(@Value.int (1 : Int) 0), (@Value.int (0 : Int) 0), (.ref 20), (@Value.int (5 : Int) 0), (@Value.int (0 : Int) 0), (.ref 27)]⟩) ⟨[]⟩)
noncomputable def q4 (P : Params) : Obj := (@Obj.mk (@Value.type "tuple") none (@Data.seq ⟨[(@Value.str (O "k") 190)]⟩ 0) ⟨[]⟩)
noncomputable def q5 (P : Params) : Obj := (@Obj.mk @Value.none none (PySem.Data.func (PySem.FuncData.mk (O "_wall") (O "_wall") gP0 (PySem.FuncBody.stmts gB0) gS0 0 [] @Value.none @Value.none @Value.none @Value.none none @Value.none @Value.none 0)) ⟨[]⟩)
noncomputable def q6 (P : Params) : Obj := (@Obj.mk (@Value.type "code") none (@Data.fields ⟨[(@Value.str (O "_wall") 187), (@Value.str (O "_wall") 188), (@Value.str (O "/claim/cut.py") 189), (@Value.int (1 : Int) 0), (@Value.int (1 : Int) 0), (@Value.int (0 : Int) 0), (@Value.int (0 : Int) 0), (@Value.int (3 : Int) 0), (.ref 15), (@Value.bool @Bool.true), (@Value.int (181 : Int) 0), (.ref 16), @Value.none, (.ref 17), (.ref 18), (.ref 19), (@Value.int (191 : Int) 0), (@Value.int (1 : Int) 0), (@Value.str (O "/claim/cut.py") 192)]⟩) ⟨[]⟩)
noncomputable def q7 (P : Params) : Obj := (@Obj.mk (@Value.type "function") none (PySem.Data.func (PySem.FuncData.mk (O "_wall") (O "_wall") gP0 (PySem.FuncBody.stmts gB0) gS0 3 [] @Value.none @Value.none @Value.none (@Value.str (O "__main__") 164) none (.ref 20) @Value.none 0)) ⟨[]⟩)
noncomputable def q8 (P : Params) : Obj := (@Obj.mk (@Value.type "builtin_function_or_method") none (@Data.fields ⟨[(@Value.builtin "type.__prepare__"), (@Value.type "type")]⟩) ⟨[]⟩)
noncomputable def q9 (P : Params) : Obj := (@Obj.mk (@Value.type "dict") none (@Data.dict ⟨[(E P "__module__" 203 (@Value.str (O "kyber_py.polynomials.polynomials_generic") 194)), (E P "__qualname__" 205 (@Value.str (O "GenericPolynomialRing") 204)), (E P "__firstlineno__" 207 (@Value.int (5 : Int) 206)), (E P "__init__" 216 (.ref 35)), (E P "zero" 223 (.ref 42)), (E P "gen" 230 (.ref 49)), (E P "__call__" 238 (.ref 56)), (E P "__static_attributes__" 241 (.ref 57))]⟩ 8) ⟨[]⟩)
noncomputable def q10 (P : Params) : Obj := (@Obj.mk @Value.none none (@Data.fields ⟨[(@Value.int (7 : Int) 0), (@Value.int (4 : Int) 0), (.ref 34), (@Value.int (11 : Int) 0), (@Value.int (4 : Int) 0), (.ref 41), (@Value.int (14 : Int) 0), (@Value.int (4 : Int) 0), (.ref 48), (@Value.int (17 : Int) 0), (@Value.int (4 : Int) 0), (.ref 55)]⟩) ⟨[]⟩)
noncomputable def q11 (P : Params) : Obj := (@Obj.mk (@Value.type "code") none (@Data.fields ⟨[(@Value.str (O "GenericPolynomialRing") 198), (@Value.str (O "GenericPolynomialRing") 199), (@Value.str (O "/claim/cut.py") 200), (@Value.int (5 : Int) 0), (@Value.int (0 : Int) 0), (@Value.int (0 : Int) 0), (@Value.int (0 : Int) 0), (@Value.int (0 : Int) 0), (.ref 25), (@Value.bool @Bool.false), (@Value.int (181 : Int) 0), (.ref 26), @Value.none, @Value.none, @Value.none, @Value.none, (@Value.int (201 : Int) 0), (@Value.int (5 : Int) 0), (@Value.str (O "/claim/cut.py") 202)]⟩) ⟨[]⟩)
noncomputable def q12 (P : Params) : Obj := (@Obj.mk (@Value.type "frame") none @Data.plain ⟨[(some (.ref 27)), (some (.ref 3)), (some (.ref 24)), none, (some (@Value.str (O "kyber_py.polynomials.polynomials_generic") 194)), none, (some (.ref 0))]⟩)
noncomputable def q13 (P : Params) : Obj := (@Obj.mk (@Value.type "tuple") none (@Data.seq ⟨[(@Value.str (O "self") 211), (@Value.str (O "q") 212), (@Value.str (O "n") 213)]⟩ 0) ⟨[]⟩)
noncomputable def q14 (P : Params) : Obj := (@Obj.mk @Value.none none (PySem.Data.func (PySem.FuncData.mk (O "__init__") (O "GenericPolynomialRing.__init__") gP1 (PySem.FuncBody.stmts gB1) gS1 0 [] @Value.none @Value.none @Value.none @Value.none none @Value.none @Value.none 0)) ⟨[]⟩)
noncomputable def q15 (P : Params) : Obj := (@Obj.mk (@Value.type "code") none (@Data.fields ⟨[(@Value.str (O "__init__") 208), (@Value.str (O "GenericPolynomialRing.__init__") 209), (@Value.str (O "/claim/cut.py") 210), (@Value.int (7 : Int) 0), (@Value.int (3 : Int) 0), (@Value.int (0 : Int) 0), (@Value.int (0 : Int) 0), (@Value.int (3 : Int) 0), (.ref 29), (@Value.bool @Bool.true), (@Value.int (181 : Int) 0), (.ref 30), @Value.none, (.ref 31), (.ref 32), (.ref 33), (@Value.int (214 : Int) 0), (@Value.int (7 : Int) 0), (@Value.str (O "/claim/cut.py") 215)]⟩) ⟨[]⟩)
noncomputable def q16 (P : Params) : Obj := (@Obj.mk (@Value.type "function") none (PySem.Data.func (PySem.FuncData.mk (O "__init__") (O "GenericPolynomialRing.__init__") gP1 (PySem.FuncBody.stmts gB1) gS1 3 [] @Value.none @Value.none @Value.none (@Value.str (O "kyber_py.polynomials.polynomials_generic") 194) none (.ref 34) @Value.none 0)) ⟨[]⟩)
noncomputable def q17 (P : Params) : Obj := (@Obj.mk (@Value.type "tuple") none (@Data.seq ⟨[(@Value.str (O "self") 220)]⟩ 0) ⟨[]⟩)
noncomputable def q18 (P : Params) : Obj := (@Obj.mk @Value.none none (PySem.Data.func (PySem.FuncData.mk (O "zero") (O "GenericPolynomialRing.zero") gP2 (PySem.FuncBody.stmts gB2) gS2 0 [] @Value.none @Value.none @Value.none @Value.none none @Value.none @Value.none 0)) ⟨[]⟩)
noncomputable def q19 (P : Params) : Obj := (@Obj.mk (@Value.type "code") none (@Data.fields ⟨[(@Value.str (O "zero") 217), (@Value.str (O "GenericPolynomialRing.zero") 218), (@Value.str (O "/claim/cut.py") 219), (@Value.int (11 : Int) 0), (@Value.int (1 : Int) 0), (@Value.int (0 : Int) 0), (@Value.int (0 : Int) 0), (@Value.int (3 : Int) 0), (.ref 36), (@Value.bool @Bool.true), (@Value.int (181 : Int) 0), (.ref 37), @Value.none, (.ref 38), (.ref 39), (.ref 40), (@Value.int (221 : Int) 0), (@Value.int (11 : Int) 0), (@Value.str (O "/claim/cut.py") 222)]⟩) ⟨[]⟩)
noncomputable def q20 (P : Params) : Obj := (@Obj.mk (@Value.type "function") none (PySem.Data.func (PySem.FuncData.mk (O "zero") (O "GenericPolynomialRing.zero") gP2 (PySem.FuncBody.stmts gB2) gS2 3 [] @Value.none @Value.none @Value.none (@Value.str (O "kyber_py.polynomials.polynomials_generic") 194) none (.ref 41) @Value.none 0)) ⟨[]⟩)
noncomputable def q21 (P : Params) : Obj := (@Obj.mk (@Value.type "tuple") none (@Data.seq ⟨[(@Value.str (O "self") 227)]⟩ 0) ⟨[]⟩)
noncomputable def q22 (P : Params) : Obj := (@Obj.mk @Value.none none (PySem.Data.func (PySem.FuncData.mk (O "gen") (O "GenericPolynomialRing.gen") gP3 (PySem.FuncBody.stmts gB3) gS3 0 [] @Value.none @Value.none @Value.none @Value.none none @Value.none @Value.none 0)) ⟨[]⟩)
noncomputable def q23 (P : Params) : Obj := (@Obj.mk (@Value.type "code") none (@Data.fields ⟨[(@Value.str (O "gen") 224), (@Value.str (O "GenericPolynomialRing.gen") 225), (@Value.str (O "/claim/cut.py") 226), (@Value.int (14 : Int) 0), (@Value.int (1 : Int) 0), (@Value.int (0 : Int) 0), (@Value.int (0 : Int) 0), (@Value.int (3 : Int) 0), (.ref 43), (@Value.bool @Bool.true), (@Value.int (181 : Int) 0), (.ref 44), @Value.none, (.ref 45), (.ref 46), (.ref 47), (@Value.int (228 : Int) 0), (@Value.int (14 : Int) 0), (@Value.str (O "/claim/cut.py") 229)]⟩) ⟨[]⟩)
noncomputable def q24 (P : Params) : Obj := (@Obj.mk (@Value.type "function") none (PySem.Data.func (PySem.FuncData.mk (O "gen") (O "GenericPolynomialRing.gen") gP3 (PySem.FuncBody.stmts gB3) gS3 3 [] @Value.none @Value.none @Value.none (@Value.str (O "kyber_py.polynomials.polynomials_generic") 194) none (.ref 48) @Value.none 0)) ⟨[]⟩)
noncomputable def q25 (P : Params) : Obj := (@Obj.mk (@Value.type "tuple") none (@Data.seq ⟨[(@Value.str (O "self") 234), (@Value.str (O "coefficients") 235)]⟩ 0) ⟨[]⟩)
noncomputable def q26 (P : Params) : Obj := (@Obj.mk @Value.none none (PySem.Data.func (PySem.FuncData.mk (O "__call__") (O "GenericPolynomialRing.__call__") gP4 (PySem.FuncBody.stmts gB4) gS4 0 [] @Value.none @Value.none @Value.none @Value.none none @Value.none @Value.none 0)) ⟨[]⟩)
noncomputable def q27 (P : Params) : Obj := (@Obj.mk (@Value.type "code") none (@Data.fields ⟨[(@Value.str (O "__call__") 231), (@Value.str (O "GenericPolynomialRing.__call__") 232), (@Value.str (O "/claim/cut.py") 233), (@Value.int (17 : Int) 0), (@Value.int (2 : Int) 0), (@Value.int (0 : Int) 0), (@Value.int (0 : Int) 0), (@Value.int (3 : Int) 0), (.ref 50), (@Value.bool @Bool.true), (@Value.int (181 : Int) 0), (.ref 51), @Value.none, (.ref 52), (.ref 53), (.ref 54), (@Value.int (236 : Int) 0), (@Value.int (17 : Int) 0), (@Value.str (O "/claim/cut.py") 237)]⟩) ⟨[]⟩)
noncomputable def q28 (P : Params) : Obj := (@Obj.mk (@Value.type "function") none (PySem.Data.func (PySem.FuncData.mk (O "__call__") (O "GenericPolynomialRing.__call__") gP4 (PySem.FuncBody.stmts gB4) gS4 3 [] @Value.none @Value.none @Value.none (@Value.str (O "kyber_py.polynomials.polynomials_generic") 194) none (.ref 55) @Value.none 0)) ⟨[]⟩)
noncomputable def q29 (P : Params) : Obj := (@Obj.mk (@Value.type "tuple") none (@Data.seq ⟨[(@Value.str (O "n") 239), (@Value.str (O "q") 240)]⟩ 0) ⟨[]⟩)
noncomputable def q30 (P : Params) : Obj := (@Obj.mk (@Value.type "dict") none (@Data.dict ⟨[(E P "__module__" 203 (@Value.str (O "kyber_py.polynomials.polynomials_generic") 194)), (E P "__firstlineno__" 207 (@Value.int (5 : Int) 206)), (E P "__init__" 216 (.ref 35)), (E P "zero" 223 (.ref 42)), (E P "gen" 230 (.ref 49)), (E P "__call__" 238 (.ref 56)), (E P "__static_attributes__" 241 (.ref 57)), (E P "__dict__" 243 (.ref 60)), (E P "__weakref__" 245 (.ref 61)), (E P "__doc__" 246 @Value.none)]⟩ 4) ⟨[]⟩)
noncomputable def q31 (P : Params) : Obj := (@Obj.mk (@Value.type "type") none (@Data.cls (@ClassData.mk (O "GenericPolynomialRing") [(@Value.type "object")] [(.ref 59), (@Value.type "object")] 58 (O "GenericPolynomialRing") @Bool.true [] [] @Bool.false none @Bool.false)) ⟨[none, none, (some (@Value.str (O "GenericPolynomialRing") 196)), (some (@Value.str (O "GenericPolynomialRing") 204)), (some (@Value.builtin "object.__new__")), (some (@Value.bool @Bool.true))]⟩)
noncomputable def q32 (P : Params) : Obj := (@Obj.mk (@Value.type "getset_descriptor") none (@Data.fields ⟨[(@Value.str (O "__dict__") 242), (.ref 59), (@Value.builtin "function.__dict__"), (@Value.builtin "function.__dict__#set")]⟩) ⟨[]⟩)
noncomputable def q33 (P : Params) : Obj := (@Obj.mk (@Value.type "getset_descriptor") none (@Data.fields ⟨[(@Value.str (O "__weakref__") 244), (.ref 59), (@Value.builtin "ExceptionGroup.__weakref__"), @Value.none]⟩) ⟨[]⟩)
noncomputable def q34 (P : Params) : Obj := (@Obj.mk (@Value.type "super") none (@Data.fields ⟨[(.ref 59), (.ref 59), (.ref 59)]⟩) ⟨[]⟩)
noncomputable def q35 (P : Params) : Obj := (@Obj.mk (@Value.type "builtin_function_or_method") none (@Data.fields ⟨[(@Value.builtin "object.__init_subclass__"), (.ref 59)]⟩) ⟨[]⟩)
noncomputable def q36 (P : Params) : Obj := (@Obj.mk (@Value.type "dict") none (@Data.dict ⟨[(E P "__name__" 165 (@Value.str (O "kyber_py.polynomials.polynomials_generic") 194)), (E P "__doc__" 166 @Value.none), (E P "__package__" 167 @Value.none), (E P "__loader__" 168 (@Value.builtin "__main__.__loader__#opaque")), (E P "__spec__" 169 @Value.none), (E P "__annotations__" 170 (.ref 6)), (E P "__builtins__" 171 (.ref 4)), (E P "__file__" 173 (@Value.str (O "/claim/cut.py") 172)), (E P "__cached__" 174 @Value.none), (E P "_wall" 193 (.ref 21)), (E P "GenericPolynomialRing" 248 (.ref 59)), (E P "GenericPolynomial" 447 (.ref 222))]⟩ 12) ⟨[]⟩)
noncomputable def q37 (P : Params) : Obj := (@Obj.mk @Value.none none (@Data.fields ⟨[(@Value.int (1 : Int) 0), (@Value.int (0 : Int) 0), (.ref 20), (@Value.int (5 : Int) 0), (@Value.int (0 : Int) 0), (.ref 27), (@Value.int (23 : Int) 0), (@Value.int (0 : Int) 0), (.ref 69)]⟩) ⟨[]⟩)
noncomputable def q38 (P : Params) : Obj := (@Obj.mk (@Value.type "dict") none (@Data.dict ⟨[(E P "__module__" 256 (@Value.str (O "kyber_py.polynomials.polynomials_generic") 194)), (E P "__qualname__" 258 (@Value.str (O "GenericPolynomial") 257)), (E P "__firstlineno__" 260 (@Value.int (23 : Int) 259)), (E P "__init__" 269 (.ref 77)), (E P "is_zero" 276 (.ref 84)), (E P "is_constant" 283 (.ref 91)), (E P "_parse_coefficients" 289 (.ref 96)), (E P "reduce_coefficients" 296 (.ref 103)), (E P "_add_mod_q" 305 (.ref 110)), (E P "_sub_mod_q" 314 (.ref 117)), (E P "_schoolbook_multiplication" 320 (.ref 122)), (E P "__neg__" 326 (.ref 127)), (E P "_add_" 332 (.ref 132)), (E P "__add__" 341 (.ref 139)), (E P "__radd__" 349 (.ref 146)), (E P "__iadd__" 357 (.ref 153)), (E P "_sub_" 363 (.ref 158)), (E P "__sub__" 372 (.ref 165)), (E P "__rsub__" 380 (.ref 172)), (E P "__isub__" 388 (.ref 179)), (E P "__mul__" 394 (.ref 184)), (E P "__rmul__" 402 (.ref 191)), (E P "__imul__" 410 (.ref 198)), (E P "__pow__" 420 (.ref 205)), (E P "__eq__" 428 (.ref 212)), (E P "__getitem__" 436 (.ref 219)), (E P "__static_attributes__" 439 (.ref 220))]⟩ 27) ⟨[]⟩)
noncomputable def q39 (P : Params) : Obj := (@Obj.mk @Value.none none (@Data.fields ⟨[(@Value.int (25 : Int) 0), (@Value.int (4 : Int) 0), (.ref 76), (@Value.int (29 : Int) 0), (@Value.int (4 : Int) 0), (.ref 83), (@Value.int (32 : Int) 0), (@Value.int (4 : Int) 0), (.ref 90), (@Value.int (35 : Int) 0), (@Value.int (4 : Int) 0), (.ref 95), (@Value.int (43 : Int) 0), (@Value.int (4 : Int) 0), (.ref 102), (@Value.int (46 : Int) 0), (@Value.int (4 : Int) 0), (.ref 109), (@Value.int (49 : Int) 0), (@Value.int (4 : Int) 0), (.ref 116), (@Value.int (52 : Int) 0), (@Value.int (4 : Int) 0), (.ref 121), (@Value.int (65 : Int) 0), (@Value.int (4 : Int) 0), (.ref 126), (@Value.int (69 : Int) 0), (@Value.int (4 : Int) 0), (.ref 131), (@Value.int (79 : Int) 0), (@Value.int (4 : Int) 0), (.ref 138), (@Value.int (83 : Int) 0), (@Value.int (4 : Int) 0), (.ref 145), (@Value.int (86 : Int) 0), (@Value.int (4 : Int) 0), (.ref 152), (@Value.int (90 : Int) 0), (@Value.int (4 : Int) 0), (.ref 157), (@Value.int (100 : Int) 0), (@Value.int (4 : Int) 0), (.ref 164), (@Value.int (104 : Int) 0), (@Value.int (4 : Int) 0), (.ref 171), (@Value.int (107 : Int) 0), (@Value.int (4 : Int) 0), (.ref 178), (@Value.int (111 : Int) 0), (@Value.int (4 : Int) 0), (.ref 183), (@Value.int (120 : Int) 0), (@Value.int (4 : Int) 0), (.ref 190), (@Value.int (123 : Int) 0), (@Value.int (4 : Int) 0), (.ref 197), (@Value.int (127 : Int) 0), (@Value.int (4 : Int) 0), (.ref 204), (@Value.int (141 : Int) 0), (@Value.int (4 : Int) 0), (.ref 211), (@Value.int (149 : Int) 0), (@Value.int (4 : Int) 0), (.ref 218)]⟩) ⟨[]⟩)
noncomputable def q40 (P : Params) : Obj := (@Obj.mk (@Value.type "code") none (@Data.fields ⟨[(@Value.str (O "GenericPolynomial") 251), (@Value.str (O "GenericPolynomial") 252), (@Value.str (O "/claim/cut.py") 253), (@Value.int (23 : Int) 0), (@Value.int (0 : Int) 0), (@Value.int (0 : Int) 0), (@Value.int (0 : Int) 0), (@Value.int (0 : Int) 0), (.ref 67), (@Value.bool @Bool.false), (@Value.int (181 : Int) 0), (.ref 68), @Value.none, @Value.none, @Value.none, @Value.none, (@Value.int (254 : Int) 0), (@Value.int (23 : Int) 0), (@Value.str (O "/claim/cut.py") 255)]⟩) ⟨[]⟩)
noncomputable def q41 (P : Params) : Obj := (@Obj.mk (@Value.type "frame") none @Data.plain ⟨[(some (.ref 69)), (some (.ref 3)), (some (.ref 66)), none, (some (@Value.str (O "kyber_py.polynomials.polynomials_generic") 194)), none, (some (.ref 0))]⟩)
noncomputable def q42 (P : Params) : Obj := (@Obj.mk (@Value.type "tuple") none (@Data.seq ⟨[(@Value.str (O "self") 264), (@Value.str (O "parent") 265), (@Value.str (O "coefficients") 266)]⟩ 0) ⟨[]⟩)
noncomputable def q43 (P : Params) : Obj := (@Obj.mk @Value.none none (PySem.Data.func (PySem.FuncData.mk (O "__init__") (O "GenericPolynomial.__init__") gP5 (PySem.FuncBody.stmts gB5) gS5 0 [] @Value.none @Value.none @Value.none @Value.none none @Value.none @Value.none 0)) ⟨[]⟩)
noncomputable def q44 (P : Params) : Obj := (@Obj.mk (@Value.type "code") none (@Data.fields ⟨[(@Value.str (O "__init__") 261), (@Value.str (O "GenericPolynomial.__init__") 262), (@Value.str (O "/claim/cut.py") 263), (@Value.int (25 : Int) 0), (@Value.int (3 : Int) 0), (@Value.int (0 : Int) 0), (@Value.int (0 : Int) 0), (@Value.int (3 : Int) 0), (.ref 71), (@Value.bool @Bool.true), (@Value.int (181 : Int) 0), (.ref 72), @Value.none, (.ref 73), (.ref 74), (.ref 75), (@Value.int (267 : Int) 0), (@Value.int (25 : Int) 0), (@Value.str (O "/claim/cut.py") 268)]⟩) ⟨[]⟩)
noncomputable def q45 (P : Params) : Obj := (@Obj.mk (@Value.type "function") none (PySem.Data.func (PySem.FuncData.mk (O "__init__") (O "GenericPolynomial.__init__") gP5 (PySem.FuncBody.stmts gB5) gS5 3 [] @Value.none @Value.none @Value.none (@Value.str (O "kyber_py.polynomials.polynomials_generic") 194) none (.ref 76) @Value.none 0)) ⟨[]⟩)
noncomputable def q46 (P : Params) : Obj := (@Obj.mk (@Value.type "tuple") none (@Data.seq ⟨[(@Value.str (O "self") 273)]⟩ 0) ⟨[]⟩)
noncomputable def q47 (P : Params) : Obj := (@Obj.mk @Value.none none (PySem.Data.func (PySem.FuncData.mk (O "is_zero") (O "GenericPolynomial.is_zero") gP6 (PySem.FuncBody.stmts gB6) gS6 0 [] @Value.none @Value.none @Value.none @Value.none none @Value.none @Value.none 0)) ⟨[]⟩)
noncomputable def q48 (P : Params) : Obj := (@Obj.mk (@Value.type "code") none (@Data.fields ⟨[(@Value.str (O "is_zero") 270), (@Value.str (O "GenericPolynomial.is_zero") 271), (@Value.str (O "/claim/cut.py") 272), (@Value.int (29 : Int) 0), (@Value.int (1 : Int) 0), (@Value.int (0 : Int) 0), (@Value.int (0 : Int) 0), (@Value.int (3 : Int) 0), (.ref 78), (@Value.bool @Bool.true), (@Value.int (181 : Int) 0), (.ref 79), @Value.none, (.ref 80), (.ref 81), (.ref 82), (@Value.int (274 : Int) 0), (@Value.int (29 : Int) 0), (@Value.str (O "/claim/cut.py") 275)]⟩) ⟨[]⟩)
noncomputable def q49 (P : Params) : Obj := (@Obj.mk (@Value.type "function") none (PySem.Data.func (PySem.FuncData.mk (O "is_zero") (O "GenericPolynomial.is_zero") gP6 (PySem.FuncBody.stmts gB6) gS6 3 [] @Value.none @Value.none @Value.none (@Value.str (O "kyber_py.polynomials.polynomials_generic") 194) none (.ref 83) @Value.none 0)) ⟨[]⟩)
noncomputable def q50 (P : Params) : Obj := (@Obj.mk (@Value.type "tuple") none (@Data.seq ⟨[(@Value.str (O "self") 280)]⟩ 0) ⟨[]⟩)
noncomputable def q51 (P : Params) : Obj := (@Obj.mk @Value.none none (PySem.Data.func (PySem.FuncData.mk (O "is_constant") (O "GenericPolynomial.is_constant") gP7 (PySem.FuncBody.stmts gB7) gS7 0 [] @Value.none @Value.none @Value.none @Value.none none @Value.none @Value.none 0)) ⟨[]⟩)
noncomputable def q52 (P : Params) : Obj := (@Obj.mk (@Value.type "code") none (@Data.fields ⟨[(@Value.str (O "is_constant") 277), (@Value.str (O "GenericPolynomial.is_constant") 278), (@Value.str (O "/claim/cut.py") 279), (@Value.int (32 : Int) 0), (@Value.int (1 : Int) 0), (@Value.int (0 : Int) 0), (@Value.int (0 : Int) 0), (@Value.int (3 : Int) 0), (.ref 85), (@Value.bool @Bool.true), (@Value.int (181 : Int) 0), (.ref 86), @Value.none, (.ref 87), (.ref 88), (.ref 89), (@Value.int (281 : Int) 0), (@Value.int (32 : Int) 0), (@Value.str (O "/claim/cut.py") 282)]⟩) ⟨[]⟩)
noncomputable def q53 (P : Params) : Obj := (@Obj.mk (@Value.type "function") none (PySem.Data.func (PySem.FuncData.mk (O "is_constant") (O "GenericPolynomial.is_constant") gP7 (PySem.FuncBody.stmts gB7) gS7 3 [] @Value.none @Value.none @Value.none (@Value.str (O "kyber_py.polynomials.polynomials_generic") 194) none (.ref 90) @Value.none 0)) ⟨[]⟩)
noncomputable def q54 (P : Params) : Obj := (@Obj.mk @Value.none none (PySem.Data.func (PySem.FuncData.mk (O "_parse_coefficients") (O "GenericPolynomial._parse_coefficients") gP8 (PySem.FuncBody.stmts gB8) gS8 0 [] @Value.none @Value.none @Value.none @Value.none none @Value.none @Value.none 0)) ⟨[]⟩)
noncomputable def q55 (P : Params) : Obj := (@Obj.mk (@Value.type "code") none (@Data.fields ⟨[(@Value.str (O "_parse_coefficients") 284), (@Value.str (O "GenericPolynomial._parse_coefficients") 285), (@Value.str (O "/claim/cut.py") 286), (@Value.int (35 : Int) 0), (@Value.int (2 : Int) 0), (@Value.int (0 : Int) 0), (@Value.int (0 : Int) 0), (@Value.int (3 : Int) 0), (.ref 92), (@Value.bool @Bool.true), (@Value.int (181 : Int) 0), (.ref 93), @Value.none, @Value.none, @Value.none, (.ref 94), (@Value.int (287 : Int) 0), (@Value.int (35 : Int) 0), (@Value.str (O "/claim/cut.py") 288)]⟩) ⟨[]⟩)
noncomputable def q56 (P : Params) : Obj := (@Obj.mk (@Value.type "function") none (PySem.Data.func (PySem.FuncData.mk (O "_parse_coefficients") (O "GenericPolynomial._parse_coefficients") gP8 (PySem.FuncBody.stmts gB8) gS8 3 [] @Value.none @Value.none @Value.none (@Value.str (O "kyber_py.polynomials.polynomials_generic") 194) none (.ref 95) @Value.none 0)) ⟨[]⟩)
noncomputable def q57 (P : Params) : Obj := (@Obj.mk (@Value.type "tuple") none (@Data.seq ⟨[(@Value.str (O "self") 293)]⟩ 0) ⟨[]⟩)
noncomputable def q58 (P : Params) : Obj := (@Obj.mk @Value.none none (PySem.Data.func (PySem.FuncData.mk (O "reduce_coefficients") (O "GenericPolynomial.reduce_coefficients") gP9 (PySem.FuncBody.stmts gB9) gS9 0 [] @Value.none @Value.none @Value.none @Value.none none @Value.none @Value.none 0)) ⟨[]⟩)
noncomputable def q59 (P : Params) : Obj := (@Obj.mk (@Value.type "code") none (@Data.fields ⟨[(@Value.str (O "reduce_coefficients") 290), (@Value.str (O "GenericPolynomial.reduce_coefficients") 291), (@Value.str (O "/claim/cut.py") 292), (@Value.int (43 : Int) 0), (@Value.int (1 : Int) 0), (@Value.int (0 : Int) 0), (@Value.int (0 : Int) 0), (@Value.int (3 : Int) 0), (.ref 97), (@Value.bool @Bool.true), (@Value.int (181 : Int) 0), (.ref 98), @Value.none, (.ref 99), (.ref 100), (.ref 101), (@Value.int (294 : Int) 0), (@Value.int (43 : Int) 0), (@Value.str (O "/claim/cut.py") 295)]⟩) ⟨[]⟩)
noncomputable def q60 (P : Params) : Obj := (@Obj.mk (@Value.type "function") none (PySem.Data.func (PySem.FuncData.mk (O "reduce_coefficients") (O "GenericPolynomial.reduce_coefficients") gP9 (PySem.FuncBody.stmts gB9) gS9 3 [] @Value.none @Value.none @Value.none (@Value.str (O "kyber_py.polynomials.polynomials_generic") 194) none (.ref 102) @Value.none 0)) ⟨[]⟩)
noncomputable def q61 (P : Params) : Obj := (@Obj.mk (@Value.type "tuple") none (@Data.seq ⟨[(@Value.str (O "self") 300), (@Value.str (O "x") 301), (@Value.str (O "y") 302)]⟩ 0) ⟨[]⟩)
noncomputable def q62 (P : Params) : Obj := (@Obj.mk @Value.none none (PySem.Data.func (PySem.FuncData.mk (O "_add_mod_q") (O "GenericPolynomial._add_mod_q") gP10 (PySem.FuncBody.stmts gB10) gS10 0 [] @Value.none @Value.none @Value.none @Value.none none @Value.none @Value.none 0)) ⟨[]⟩)
noncomputable def q63 (P : Params) : Obj := (@Obj.mk (@Value.type "code") none (@Data.fields ⟨[(@Value.str (O "_add_mod_q") 297), (@Value.str (O "GenericPolynomial._add_mod_q") 298), (@Value.str (O "/claim/cut.py") 299), (@Value.int (46 : Int) 0), (@Value.int (3 : Int) 0), (@Value.int (0 : Int) 0), (@Value.int (0 : Int) 0), (@Value.int (3 : Int) 0), (.ref 104), (@Value.bool @Bool.true), (@Value.int (181 : Int) 0), (.ref 105), @Value.none, (.ref 106), (.ref 107), (.ref 108), (@Value.int (303 : Int) 0), (@Value.int (46 : Int) 0), (@Value.str (O "/claim/cut.py") 304)]⟩) ⟨[]⟩)
noncomputable def q64 (P : Params) : Obj := (@Obj.mk (@Value.type "function") none (PySem.Data.func (PySem.FuncData.mk (O "_add_mod_q") (O "GenericPolynomial._add_mod_q") gP10 (PySem.FuncBody.stmts gB10) gS10 3 [] @Value.none @Value.none @Value.none (@Value.str (O "kyber_py.polynomials.polynomials_generic") 194) none (.ref 109) @Value.none 0)) ⟨[]⟩)
noncomputable def q65 (P : Params) : Obj := (@Obj.mk (@Value.type "tuple") none (@Data.seq ⟨[(@Value.str (O "self") 309), (@Value.str (O "x") 310), (@Value.str (O "y") 311)]⟩ 0) ⟨[]⟩)
noncomputable def q66 (P : Params) : Obj := (@Obj.mk @Value.none none (PySem.Data.func (PySem.FuncData.mk (O "_sub_mod_q") (O "GenericPolynomial._sub_mod_q") gP11 (PySem.FuncBody.stmts gB11) gS11 0 [] @Value.none @Value.none @Value.none @Value.none none @Value.none @Value.none 0)) ⟨[]⟩)
noncomputable def q67 (P : Params) : Obj := (@Obj.mk (@Value.type "code") none (@Data.fields ⟨[(@Value.str (O "_sub_mod_q") 306), (@Value.str (O "GenericPolynomial._sub_mod_q") 307), (@Value.str (O "/claim/cut.py") 308), (@Value.int (49 : Int) 0), (@Value.int (3 : Int) 0), (@Value.int (0 : Int) 0), (@Value.int (0 : Int) 0), (@Value.int (3 : Int) 0), (.ref 111), (@Value.bool @Bool.true), (@Value.int (181 : Int) 0), (.ref 112), @Value.none, (.ref 113), (.ref 114), (.ref 115), (@Value.int (312 : Int) 0), (@Value.int (49 : Int) 0), (@Value.str (O "/claim/cut.py") 313)]⟩) ⟨[]⟩)
noncomputable def q68 (P : Params) : Obj := (@Obj.mk (@Value.type "function") none (PySem.Data.func (PySem.FuncData.mk (O "_sub_mod_q") (O "GenericPolynomial._sub_mod_q") gP11 (PySem.FuncBody.stmts gB11) gS11 3 [] @Value.none @Value.none @Value.none (@Value.str (O "kyber_py.polynomials.polynomials_generic") 194) none (.ref 116) @Value.none 0)) ⟨[]⟩)
noncomputable def q69 (P : Params) : Obj := (@Obj.mk @Value.none none (PySem.Data.func (PySem.FuncData.mk (O "_schoolbook_multiplication") (O "GenericPolynomial._schoolbook_multiplication") gP12 (PySem.FuncBody.stmts gB12) gS12 0 [] @Value.none @Value.none @Value.none @Value.none none @Value.none @Value.none 0)) ⟨[]⟩)
noncomputable def q70 (P : Params) : Obj := (@Obj.mk (@Value.type "code") none (@Data.fields ⟨[(@Value.str (O "_schoolbook_multiplication") 315), (@Value.str (O "GenericPolynomial._schoolbook_multiplication") 316), (@Value.str (O "/claim/cut.py") 317), (@Value.int (52 : Int) 0), (@Value.int (2 : Int) 0), (@Value.int (0 : Int) 0), (@Value.int (0 : Int) 0), (@Value.int (3 : Int) 0), (.ref 118), (@Value.bool @Bool.true), (@Value.int (181 : Int) 0), (.ref 119), @Value.none, @Value.none, @Value.none, (.ref 120), (@Value.int (318 : Int) 0), (@Value.int (52 : Int) 0), (@Value.str (O "/claim/cut.py") 319)]⟩) ⟨[]⟩)
noncomputable def q71 (P : Params) : Obj := (@Obj.mk (@Value.type "function") none (PySem.Data.func (PySem.FuncData.mk (O "_schoolbook_multiplication") (O "GenericPolynomial._schoolbook_multiplication") gP12 (PySem.FuncBody.stmts gB12) gS12 3 [] @Value.none @Value.none @Value.none (@Value.str (O "kyber_py.polynomials.polynomials_generic") 194) none (.ref 121) @Value.none 0)) ⟨[]⟩)
noncomputable def q72 (P : Params) : Obj := (@Obj.mk @Value.none none (PySem.Data.func (PySem.FuncData.mk (O "__neg__") (O "GenericPolynomial.__neg__") gP13 (PySem.FuncBody.stmts gB13) gS13 0 [] @Value.none @Value.none @Value.none @Value.none none @Value.none @Value.none 0)) ⟨[]⟩)
noncomputable def q73 (P : Params) : Obj := (@Obj.mk (@Value.type "code") none (@Data.fields ⟨[(@Value.str (O "__neg__") 321), (@Value.str (O "GenericPolynomial.__neg__") 322), (@Value.str (O "/claim/cut.py") 323), (@Value.int (65 : Int) 0), (@Value.int (1 : Int) 0), (@Value.int (0 : Int) 0), (@Value.int (0 : Int) 0), (@Value.int (3 : Int) 0), (.ref 123), (@Value.bool @Bool.true), (@Value.int (181 : Int) 0), (.ref 124), @Value.none, @Value.none, @Value.none, (.ref 125), (@Value.int (324 : Int) 0), (@Value.int (65 : Int) 0), (@Value.str (O "/claim/cut.py") 325)]⟩) ⟨[]⟩)
noncomputable def q74 (P : Params) : Obj := (@Obj.mk (@Value.type "function") none (PySem.Data.func (PySem.FuncData.mk (O "__neg__") (O "GenericPolynomial.__neg__") gP13 (PySem.FuncBody.stmts gB13) gS13 3 [] @Value.none @Value.none @Value.none (@Value.str (O "kyber_py.polynomials.polynomials_generic") 194) none (.ref 126) @Value.none 0)) ⟨[]⟩)
noncomputable def q75 (P : Params) : Obj := (@Obj.mk @Value.none none (PySem.Data.func (PySem.FuncData.mk (O "_add_") (O "GenericPolynomial._add_") gP14 (PySem.FuncBody.stmts gB14) gS14 0 [] @Value.none @Value.none @Value.none @Value.none none @Value.none @Value.none 0)) ⟨[]⟩)
noncomputable def q76 (P : Params) : Obj := (@Obj.mk (@Value.type "code") none (@Data.fields ⟨[(@Value.str (O "_add_") 327), (@Value.str (O "GenericPolynomial._add_") 328), (@Value.str (O "/claim/cut.py") 329), (@Value.int (69 : Int) 0), (@Value.int (2 : Int) 0), (@Value.int (0 : Int) 0), (@Value.int (0 : Int) 0), (@Value.int (3 : Int) 0), (.ref 128), (@Value.bool @Bool.true), (@Value.int (181 : Int) 0), (.ref 129), @Value.none, @Value.none, @Value.none, (.ref 130), (@Value.int (330 : Int) 0), (@Value.int (69 : Int) 0), (@Value.str (O "/claim/cut.py") 331)]⟩) ⟨[]⟩)
noncomputable def q77 (P : Params) : Obj := (@Obj.mk (@Value.type "function") none (PySem.Data.func (PySem.FuncData.mk (O "_add_") (O "GenericPolynomial._add_") gP14 (PySem.FuncBody.stmts gB14) gS14 3 [] @Value.none @Value.none @Value.none (@Value.str (O "kyber_py.polynomials.polynomials_generic") 194) none (.ref 131) @Value.none 0)) ⟨[]⟩)
noncomputable def q78 (P : Params) : Obj := (@Obj.mk (@Value.type "tuple") none (@Data.seq ⟨[(@Value.str (O "self") 336), (@Value.str (O "other") 337), (@Value.str (O "new_coeffs") 338)]⟩ 0) ⟨[]⟩)
noncomputable def q79 (P : Params) : Obj := (@Obj.mk @Value.none none (PySem.Data.func (PySem.FuncData.mk (O "__add__") (O "GenericPolynomial.__add__") gP15 (PySem.FuncBody.stmts gB15) gS15 0 [] @Value.none @Value.none @Value.none @Value.none none @Value.none @Value.none 0)) ⟨[]⟩)
noncomputable def q80 (P : Params) : Obj := (@Obj.mk (@Value.type "code") none (@Data.fields ⟨[(@Value.str (O "__add__") 333), (@Value.str (O "GenericPolynomial.__add__") 334), (@Value.str (O "/claim/cut.py") 335), (@Value.int (79 : Int) 0), (@Value.int (2 : Int) 0), (@Value.int (0 : Int) 0), (@Value.int (0 : Int) 0), (@Value.int (3 : Int) 0), (.ref 133), (@Value.bool @Bool.true), (@Value.int (181 : Int) 0), (.ref 134), @Value.none, (.ref 135), (.ref 136), (.ref 137), (@Value.int (339 : Int) 0), (@Value.int (79 : Int) 0), (@Value.str (O "/claim/cut.py") 340)]⟩) ⟨[]⟩)
noncomputable def q81 (P : Params) : Obj := (@Obj.mk (@Value.type "function") none (PySem.Data.func (PySem.FuncData.mk (O "__add__") (O "GenericPolynomial.__add__") gP15 (PySem.FuncBody.stmts gB15) gS15 3 [] @Value.none @Value.none @Value.none (@Value.str (O "kyber_py.polynomials.polynomials_generic") 194) none (.ref 138) @Value.none 0)) ⟨[]⟩)
noncomputable def q82 (P : Params) : Obj := (@Obj.mk (@Value.type "tuple") none (@Data.seq ⟨[(@Value.str (O "self") 345), (@Value.str (O "other") 346)]⟩ 0) ⟨[]⟩)
noncomputable def q83 (P : Params) : Obj := (@Obj.mk @Value.none none (PySem.Data.func (PySem.FuncData.mk (O "__radd__") (O "GenericPolynomial.__radd__") gP16 (PySem.FuncBody.stmts gB16) gS16 0 [] @Value.none @Value.none @Value.none @Value.none none @Value.none @Value.none 0)) ⟨[]⟩)
noncomputable def q84 (P : Params) : Obj := (@Obj.mk (@Value.type "code") none (@Data.fields ⟨[(@Value.str (O "__radd__") 342), (@Value.str (O "GenericPolynomial.__radd__") 343), (@Value.str (O "/claim/cut.py") 344), (@Value.int (83 : Int) 0), (@Value.int (2 : Int) 0), (@Value.int (0 : Int) 0), (@Value.int (0 : Int) 0), (@Value.int (3 : Int) 0), (.ref 140), (@Value.bool @Bool.true), (@Value.int (181 : Int) 0), (.ref 141), @Value.none, (.ref 142), (.ref 143), (.ref 144), (@Value.int (347 : Int) 0), (@Value.int (83 : Int) 0), (@Value.str (O "/claim/cut.py") 348)]⟩) ⟨[]⟩)
noncomputable def q85 (P : Params) : Obj := (@Obj.mk (@Value.type "function") none (PySem.Data.func (PySem.FuncData.mk (O "__radd__") (O "GenericPolynomial.__radd__") gP16 (PySem.FuncBody.stmts gB16) gS16 3 [] @Value.none @Value.none @Value.none (@Value.str (O "kyber_py.polynomials.polynomials_generic") 194) none (.ref 145) @Value.none 0)) ⟨[]⟩)
noncomputable def q86 (P : Params) : Obj := (@Obj.mk (@Value.type "tuple") none (@Data.seq ⟨[(@Value.str (O "self") 353), (@Value.str (O "other") 354)]⟩ 0) ⟨[]⟩)
noncomputable def q87 (P : Params) : Obj := (@Obj.mk @Value.none none (PySem.Data.func (PySem.FuncData.mk (O "__iadd__") (O "GenericPolynomial.__iadd__") gP17 (PySem.FuncBody.stmts gB17) gS17 0 [] @Value.none @Value.none @Value.none @Value.none none @Value.none @Value.none 0)) ⟨[]⟩)
noncomputable def q88 (P : Params) : Obj := (@Obj.mk (@Value.type "code") none (@Data.fields ⟨[(@Value.str (O "__iadd__") 350), (@Value.str (O "GenericPolynomial.__iadd__") 351), (@Value.str (O "/claim/cut.py") 352), (@Value.int (86 : Int) 0), (@Value.int (2 : Int) 0), (@Value.int (0 : Int) 0), (@Value.int (0 : Int) 0), (@Value.int (3 : Int) 0), (.ref 147), (@Value.bool @Bool.true), (@Value.int (181 : Int) 0), (.ref 148), @Value.none, (.ref 149), (.ref 150), (.ref 151), (@Value.int (355 : Int) 0), (@Value.int (86 : Int) 0), (@Value.str (O "/claim/cut.py") 356)]⟩) ⟨[]⟩)
noncomputable def q89 (P : Params) : Obj := (@Obj.mk (@Value.type "function") none (PySem.Data.func (PySem.FuncData.mk (O "__iadd__") (O "GenericPolynomial.__iadd__") gP17 (PySem.FuncBody.stmts gB17) gS17 3 [] @Value.none @Value.none @Value.none (@Value.str (O "kyber_py.polynomials.polynomials_generic") 194) none (.ref 152) @Value.none 0)) ⟨[]⟩)
noncomputable def q90 (P : Params) : Obj := (@Obj.mk @Value.none none (PySem.Data.func (PySem.FuncData.mk (O "_sub_") (O "GenericPolynomial._sub_") gP18 (PySem.FuncBody.stmts gB18) gS18 0 [] @Value.none @Value.none @Value.none @Value.none none @Value.none @Value.none 0)) ⟨[]⟩)
noncomputable def q91 (P : Params) : Obj := (@Obj.mk (@Value.type "code") none (@Data.fields ⟨[(@Value.str (O "_sub_") 358), (@Value.str (O "GenericPolynomial._sub_") 359), (@Value.str (O "/claim/cut.py") 360), (@Value.int (90 : Int) 0), (@Value.int (2 : Int) 0), (@Value.int (0 : Int) 0), (@Value.int (0 : Int) 0), (@Value.int (3 : Int) 0), (.ref 154), (@Value.bool @Bool.true), (@Value.int (181 : Int) 0), (.ref 155), @Value.none, @Value.none, @Value.none, (.ref 156), (@Value.int (361 : Int) 0), (@Value.int (90 : Int) 0), (@Value.str (O "/claim/cut.py") 362)]⟩) ⟨[]⟩)
noncomputable def q92 (P : Params) : Obj := (@Obj.mk (@Value.type "function") none (PySem.Data.func (PySem.FuncData.mk (O "_sub_") (O "GenericPolynomial._sub_") gP18 (PySem.FuncBody.stmts gB18) gS18 3 [] @Value.none @Value.none @Value.none (@Value.str (O "kyber_py.polynomials.polynomials_generic") 194) none (.ref 157) @Value.none 0)) ⟨[]⟩)
noncomputable def q93 (P : Params) : Obj := (@Obj.mk (@Value.type "tuple") none (@Data.seq ⟨[(@Value.str (O "self") 367), (@Value.str (O "other") 368), (@Value.str (O "new_coeffs") 369)]⟩ 0) ⟨[]⟩)
noncomputable def q94 (P : Params) : Obj := (@Obj.mk @Value.none none (PySem.Data.func (PySem.FuncData.mk (O "__sub__") (O "GenericPolynomial.__sub__") gP19 (PySem.FuncBody.stmts gB19) gS19 0 [] @Value.none @Value.none @Value.none @Value.none none @Value.none @Value.none 0)) ⟨[]⟩)
noncomputable def q95 (P : Params) : Obj := (@Obj.mk (@Value.type "code") none (@Data.fields ⟨[(@Value.str (O "__sub__") 364), (@Value.str (O "GenericPolynomial.__sub__") 365), (@Value.str (O "/claim/cut.py") 366), (@Value.int (100 : Int) 0), (@Value.int (2 : Int) 0), (@Value.int (0 : Int) 0), (@Value.int (0 : Int) 0), (@Value.int (3 : Int) 0), (.ref 159), (@Value.bool @Bool.true), (@Value.int (181 : Int) 0), (.ref 160), @Value.none, (.ref 161), (.ref 162), (.ref 163), (@Value.int (370 : Int) 0), (@Value.int (100 : Int) 0), (@Value.str (O "/claim/cut.py") 371)]⟩) ⟨[]⟩)
noncomputable def q96 (P : Params) : Obj := (@Obj.mk (@Value.type "function") none (PySem.Data.func (PySem.FuncData.mk (O "__sub__") (O "GenericPolynomial.__sub__") gP19 (PySem.FuncBody.stmts gB19) gS19 3 [] @Value.none @Value.none @Value.none (@Value.str (O "kyber_py.polynomials.polynomials_generic") 194) none (.ref 164) @Value.none 0)) ⟨[]⟩)
noncomputable def q97 (P : Params) : Obj := (@Obj.mk (@Value.type "tuple") none (@Data.seq ⟨[(@Value.str (O "self") 376), (@Value.str (O "other") 377)]⟩ 0) ⟨[]⟩)
noncomputable def q98 (P : Params) : Obj := (@Obj.mk @Value.none none (PySem.Data.func (PySem.FuncData.mk (O "__rsub__") (O "GenericPolynomial.__rsub__") gP20 (PySem.FuncBody.stmts gB20) gS20 0 [] @Value.none @Value.none @Value.none @Value.none none @Value.none @Value.none 0)) ⟨[]⟩)
noncomputable def q99 (P : Params) : Obj := (@Obj.mk (@Value.type "code") none (@Data.fields ⟨[(@Value.str (O "__rsub__") 373), (@Value.str (O "GenericPolynomial.__rsub__") 374), (@Value.str (O "/claim/cut.py") 375), (@Value.int (104 : Int) 0), (@Value.int (2 : Int) 0), (@Value.int (0 : Int) 0), (@Value.int (0 : Int) 0), (@Value.int (3 : Int) 0), (.ref 166), (@Value.bool @Bool.true), (@Value.int (181 : Int) 0), (.ref 167), @Value.none, (.ref 168), (.ref 169), (.ref 170), (@Value.int (378 : Int) 0), (@Value.int (104 : Int) 0), (@Value.str (O "/claim/cut.py") 379)]⟩) ⟨[]⟩)
noncomputable def q100 (P : Params) : Obj := (@Obj.mk (@Value.type "function") none (PySem.Data.func (PySem.FuncData.mk (O "__rsub__") (O "GenericPolynomial.__rsub__") gP20 (PySem.FuncBody.stmts gB20) gS20 3 [] @Value.none @Value.none @Value.none (@Value.str (O "kyber_py.polynomials.polynomials_generic") 194) none (.ref 171) @Value.none 0)) ⟨[]⟩)
noncomputable def q101 (P : Params) : Obj := (@Obj.mk (@Value.type "tuple") none (@Data.seq ⟨[(@Value.str (O "self") 384), (@Value.str (O "other") 385)]⟩ 0) ⟨[]⟩)
noncomputable def q102 (P : Params) : Obj := (@Obj.mk @Value.none none (PySem.Data.func (PySem.FuncData.mk (O "__isub__") (O "GenericPolynomial.__isub__") gP21 (PySem.FuncBody.stmts gB21) gS21 0 [] @Value.none @Value.none @Value.none @Value.none none @Value.none @Value.none 0)) ⟨[]⟩)
noncomputable def q103 (P : Params) : Obj := (@Obj.mk (@Value.type "code") none (@Data.fields ⟨[(@Value.str (O "__isub__") 381), (@Value.str (O "GenericPolynomial.__isub__") 382), (@Value.str (O "/claim/cut.py") 383), (@Value.int (107 : Int) 0), (@Value.int (2 : Int) 0), (@Value.int (0 : Int) 0), (@Value.int (0 : Int) 0), (@Value.int (3 : Int) 0), (.ref 173), (@Value.bool @Bool.true), (@Value.int (181 : Int) 0), (.ref 174), @Value.none, (.ref 175), (.ref 176), (.ref 177), (@Value.int (386 : Int) 0), (@Value.int (107 : Int) 0), (@Value.str (O "/claim/cut.py") 387)]⟩) ⟨[]⟩)
noncomputable def q104 (P : Params) : Obj := (@Obj.mk (@Value.type "function") none (PySem.Data.func (PySem.FuncData.mk (O "__isub__") (O "GenericPolynomial.__isub__") gP21 (PySem.FuncBody.stmts gB21) gS21 3 [] @Value.none @Value.none @Value.none (@Value.str (O "kyber_py.polynomials.polynomials_generic") 194) none (.ref 178) @Value.none 0)) ⟨[]⟩)
noncomputable def q105 (P : Params) : Obj := (@Obj.mk @Value.none none (PySem.Data.func (PySem.FuncData.mk (O "__mul__") (O "GenericPolynomial.__mul__") gP22 (PySem.FuncBody.stmts gB22) gS22 0 [] @Value.none @Value.none @Value.none @Value.none none @Value.none @Value.none 0)) ⟨[]⟩)
noncomputable def q106 (P : Params) : Obj := (@Obj.mk (@Value.type "code") none (@Data.fields ⟨[(@Value.str (O "__mul__") 389), (@Value.str (O "GenericPolynomial.__mul__") 390), (@Value.str (O "/claim/cut.py") 391), (@Value.int (111 : Int) 0), (@Value.int (2 : Int) 0), (@Value.int (0 : Int) 0), (@Value.int (0 : Int) 0), (@Value.int (3 : Int) 0), (.ref 180), (@Value.bool @Bool.true), (@Value.int (181 : Int) 0), (.ref 181), @Value.none, @Value.none, @Value.none, (.ref 182), (@Value.int (392 : Int) 0), (@Value.int (111 : Int) 0), (@Value.str (O "/claim/cut.py") 393)]⟩) ⟨[]⟩)
noncomputable def q107 (P : Params) : Obj := (@Obj.mk (@Value.type "function") none (PySem.Data.func (PySem.FuncData.mk (O "__mul__") (O "GenericPolynomial.__mul__") gP22 (PySem.FuncBody.stmts gB22) gS22 3 [] @Value.none @Value.none @Value.none (@Value.str (O "kyber_py.polynomials.polynomials_generic") 194) none (.ref 183) @Value.none 0)) ⟨[]⟩)
noncomputable def q108 (P : Params) : Obj := (@Obj.mk (@Value.type "tuple") none (@Data.seq ⟨[(@Value.str (O "self") 398), (@Value.str (O "other") 399)]⟩ 0) ⟨[]⟩)
noncomputable def q109 (P : Params) : Obj := (@Obj.mk @Value.none none (PySem.Data.func (PySem.FuncData.mk (O "__rmul__") (O "GenericPolynomial.__rmul__") gP23 (PySem.FuncBody.stmts gB23) gS23 0 [] @Value.none @Value.none @Value.none @Value.none none @Value.none @Value.none 0)) ⟨[]⟩)
noncomputable def q110 (P : Params) : Obj := (@Obj.mk (@Value.type "code") none (@Data.fields ⟨[(@Value.str (O "__rmul__") 395), (@Value.str (O "GenericPolynomial.__rmul__") 396), (@Value.str (O "/claim/cut.py") 397), (@Value.int (120 : Int) 0), (@Value.int (2 : Int) 0), (@Value.int (0 : Int) 0), (@Value.int (0 : Int) 0), (@Value.int (3 : Int) 0), (.ref 185), (@Value.bool @Bool.true), (@Value.int (181 : Int) 0), (.ref 186), @Value.none, (.ref 187), (.ref 188), (.ref 189), (@Value.int (400 : Int) 0), (@Value.int (120 : Int) 0), (@Value.str (O "/claim/cut.py") 401)]⟩) ⟨[]⟩)
noncomputable def q111 (P : Params) : Obj := (@Obj.mk (@Value.type "function") none (PySem.Data.func (PySem.FuncData.mk (O "__rmul__") (O "GenericPolynomial.__rmul__") gP23 (PySem.FuncBody.stmts gB23) gS23 3 [] @Value.none @Value.none @Value.none (@Value.str (O "kyber_py.polynomials.polynomials_generic") 194) none (.ref 190) @Value.none 0)) ⟨[]⟩)
noncomputable def q112 (P : Params) : Obj := (@Obj.mk (@Value.type "tuple") none (@Data.seq ⟨[(@Value.str (O "self") 406), (@Value.str (O "other") 407)]⟩ 0) ⟨[]⟩)
noncomputable def q113 (P : Params) : Obj := (@Obj.mk @Value.none none (PySem.Data.func (PySem.FuncData.mk (O "__imul__") (O "GenericPolynomial.__imul__") gP24 (PySem.FuncBody.stmts gB24) gS24 0 [] @Value.none @Value.none @Value.none @Value.none none @Value.none @Value.none 0)) ⟨[]⟩)
noncomputable def q114 (P : Params) : Obj := (@Obj.mk (@Value.type "code") none (@Data.fields ⟨[(@Value.str (O "__imul__") 403), (@Value.str (O "GenericPolynomial.__imul__") 404), (@Value.str (O "/claim/cut.py") 405), (@Value.int (123 : Int) 0), (@Value.int (2 : Int) 0), (@Value.int (0 : Int) 0), (@Value.int (0 : Int) 0), (@Value.int (3 : Int) 0), (.ref 192), (@Value.bool @Bool.true), (@Value.int (181 : Int) 0), (.ref 193), @Value.none, (.ref 194), (.ref 195), (.ref 196), (@Value.int (408 : Int) 0), (@Value.int (123 : Int) 0), (@Value.str (O "/claim/cut.py") 409)]⟩) ⟨[]⟩)
noncomputable def q115 (P : Params) : Obj := (@Obj.mk (@Value.type "function") none (PySem.Data.func (PySem.FuncData.mk (O "__imul__") (O "GenericPolynomial.__imul__") gP24 (PySem.FuncBody.stmts gB24) gS24 3 [] @Value.none @Value.none @Value.none (@Value.str (O "kyber_py.polynomials.polynomials_generic") 194) none (.ref 197) @Value.none 0)) ⟨[]⟩)
noncomputable def q116 (P : Params) : Obj := (@Obj.mk (@Value.type "tuple") none (@Data.seq ⟨[(@Value.str (O "self") 414), (@Value.str (O "n") 415), (@Value.str (O "f") 416), (@Value.str (O "g") 417)]⟩ 0) ⟨[]⟩)
noncomputable def q117 (P : Params) : Obj := (@Obj.mk @Value.none none (PySem.Data.func (PySem.FuncData.mk (O "__pow__") (O "GenericPolynomial.__pow__") gP25 (PySem.FuncBody.stmts gB25) gS25 0 [] @Value.none @Value.none @Value.none @Value.none none @Value.none @Value.none 0)) ⟨[]⟩)
noncomputable def q118 (P : Params) : Obj := (@Obj.mk (@Value.type "code") none (@Data.fields ⟨[(@Value.str (O "__pow__") 411), (@Value.str (O "GenericPolynomial.__pow__") 412), (@Value.str (O "/claim/cut.py") 413), (@Value.int (127 : Int) 0), (@Value.int (2 : Int) 0), (@Value.int (0 : Int) 0), (@Value.int (0 : Int) 0), (@Value.int (3 : Int) 0), (.ref 199), (@Value.bool @Bool.true), (@Value.int (181 : Int) 0), (.ref 200), @Value.none, (.ref 201), (.ref 202), (.ref 203), (@Value.int (418 : Int) 0), (@Value.int (127 : Int) 0), (@Value.str (O "/claim/cut.py") 419)]⟩) ⟨[]⟩)
noncomputable def q119 (P : Params) : Obj := (@Obj.mk (@Value.type "function") none (PySem.Data.func (PySem.FuncData.mk (O "__pow__") (O "GenericPolynomial.__pow__") gP25 (PySem.FuncBody.stmts gB25) gS25 3 [] @Value.none @Value.none @Value.none (@Value.str (O "kyber_py.polynomials.polynomials_generic") 194) none (.ref 204) @Value.none 0)) ⟨[]⟩)
noncomputable def q120 (P : Params) : Obj := (@Obj.mk (@Value.type "tuple") none (@Data.seq ⟨[(@Value.str (O "self") 424), (@Value.str (O "other") 425)]⟩ 0) ⟨[]⟩)
noncomputable def q121 (P : Params) : Obj := (@Obj.mk @Value.none none (PySem.Data.func (PySem.FuncData.mk (O "__eq__") (O "GenericPolynomial.__eq__") gP26 (PySem.FuncBody.stmts gB26) gS26 0 [] @Value.none @Value.none @Value.none @Value.none none @Value.none @Value.none 0)) ⟨[]⟩)
noncomputable def q122 (P : Params) : Obj := (@Obj.mk (@Value.type "code") none (@Data.fields ⟨[(@Value.str (O "__eq__") 421), (@Value.str (O "GenericPolynomial.__eq__") 422), (@Value.str (O "/claim/cut.py") 423), (@Value.int (141 : Int) 0), (@Value.int (2 : Int) 0), (@Value.int (0 : Int) 0), (@Value.int (0 : Int) 0), (@Value.int (3 : Int) 0), (.ref 206), (@Value.bool @Bool.true), (@Value.int (181 : Int) 0), (.ref 207), @Value.none, (.ref 208), (.ref 209), (.ref 210), (@Value.int (426 : Int) 0), (@Value.int (141 : Int) 0), (@Value.str (O "/claim/cut.py") 427)]⟩) ⟨[]⟩)
noncomputable def q123 (P : Params) : Obj := (@Obj.mk (@Value.type "function") none (PySem.Data.func (PySem.FuncData.mk (O "__eq__") (O "GenericPolynomial.__eq__") gP26 (PySem.FuncBody.stmts gB26) gS26 3 [] @Value.none @Value.none @Value.none (@Value.str (O "kyber_py.polynomials.polynomials_generic") 194) none (.ref 211) @Value.none 0)) ⟨[]⟩)
noncomputable def q124 (P : Params) : Obj := (@Obj.mk (@Value.type "tuple") none (@Data.seq ⟨[(@Value.str (O "self") 432), (@Value.str (O "idx") 433)]⟩ 0) ⟨[]⟩)
noncomputable def q125 (P : Params) : Obj := (@Obj.mk @Value.none none (PySem.Data.func (PySem.FuncData.mk (O "__getitem__") (O "GenericPolynomial.__getitem__") gP27 (PySem.FuncBody.stmts gB27) gS27 0 [] @Value.none @Value.none @Value.none @Value.none none @Value.none @Value.none 0)) ⟨[]⟩)
noncomputable def q126 (P : Params) : Obj := (@Obj.mk (@Value.type "code") none (@Data.fields ⟨[(@Value.str (O "__getitem__") 429), (@Value.str (O "GenericPolynomial.__getitem__") 430), (@Value.str (O "/claim/cut.py") 431), (@Value.int (149 : Int) 0), (@Value.int (2 : Int) 0), (@Value.int (0 : Int) 0), (@Value.int (0 : Int) 0), (@Value.int (3 : Int) 0), (.ref 213), (@Value.bool @Bool.true), (@Value.int (181 : Int) 0), (.ref 214), @Value.none, (.ref 215), (.ref 216), (.ref 217), (@Value.int (434 : Int) 0), (@Value.int (149 : Int) 0), (@Value.str (O "/claim/cut.py") 435)]⟩) ⟨[]⟩)
noncomputable def q127 (P : Params) : Obj := (@Obj.mk (@Value.type "function") none (PySem.Data.func (PySem.FuncData.mk (O "__getitem__") (O "GenericPolynomial.__getitem__") gP27 (PySem.FuncBody.stmts gB27) gS27 3 [] @Value.none @Value.none @Value.none (@Value.str (O "kyber_py.polynomials.polynomials_generic") 194) none (.ref 218) @Value.none 0)) ⟨[]⟩)
noncomputable def q128 (P : Params) : Obj := (@Obj.mk (@Value.type "tuple") none (@Data.seq ⟨[(@Value.str (O "coeffs") 437), (@Value.str (O "parent") 438)]⟩ 0) ⟨[]⟩)
noncomputable def q129 (P : Params) : Obj := (@Obj.mk (@Value.type "dict") none (@Data.dict ⟨[(E P "__module__" 256 (@Value.str (O "kyber_py.polynomials.polynomials_generic") 194)), (E P "__firstlineno__" 260 (@Value.int (23 : Int) 259)), (E P "__init__" 269 (.ref 77)), (E P "is_zero" 276 (.ref 84)), (E P "is_constant" 283 (.ref 91)), (E P "_parse_coefficients" 289 (.ref 96)), (E P "reduce_coefficients" 296 (.ref 103)), (E P "_add_mod_q" 305 (.ref 110)), (E P "_sub_mod_q" 314 (.ref 117)), (E P "_schoolbook_multiplication" 320 (.ref 122)), (E P "__neg__" 326 (.ref 127)), (E P "_add_" 332 (.ref 132)), (E P "__add__" 341 (.ref 139)), (E P "__radd__" 349 (.ref 146)), (E P "__iadd__" 357 (.ref 153)), (E P "_sub_" 363 (.ref 158)), (E P "__sub__" 372 (.ref 165)), (E P "__rsub__" 380 (.ref 172)), (E P "__isub__" 388 (.ref 179)), (E P "__mul__" 394 (.ref 184)), (E P "__rmul__" 402 (.ref 191)), (E P "__imul__" 410 (.ref 198)), (E P "__pow__" 420 (.ref 205)), (E P "__eq__" 428 (.ref 212)), (E P "__getitem__" 436 (.ref 219)), (E P "__static_attributes__" 439 (.ref 220)), (E P "__dict__" 441 (.ref 223)), (E P "__weakref__" 443 (.ref 224)), (E P "__doc__" 444 @Value.none), (E P "__hash__" 445 @Value.none)]⟩ 5) ⟨[]⟩)
noncomputable def q130 (P : Params) : Obj := (@Obj.mk (@Value.type "type") none (@Data.cls (@ClassData.mk (O "GenericPolynomial") [(@Value.type "object")] [(.ref 222), (@Value.type "object")] 221 (O "GenericPolynomial") @Bool.true [] [] @Bool.false none @Bool.false)) ⟨[none, none, (some (@Value.str (O "GenericPolynomial") 249)), (some (@Value.str (O "GenericPolynomial") 257)), (some (@Value.builtin "object.__new__")), (some (@Value.bool @Bool.true))]⟩)
noncomputable def q131 (P : Params) : Obj := (@Obj.mk (@Value.type "getset_descriptor") none (@Data.fields ⟨[(@Value.str (O "__dict__") 440), (.ref 222), (@Value.builtin "function.__dict__"), (@Value.builtin "function.__dict__#set")]⟩) ⟨[]⟩)
noncomputable def q132 (P : Params) : Obj := (@Obj.mk (@Value.type "getset_descriptor") none (@Data.fields ⟨[(@Value.str (O "__weakref__") 442), (.ref 222), (@Value.builtin "ExceptionGroup.__weakref__"), @Value.none]⟩) ⟨[]⟩)
noncomputable def q133 (P : Params) : Obj := (@Obj.mk (@Value.type "super") none (@Data.fields ⟨[(.ref 222), (.ref 222), (.ref 222)]⟩) ⟨[]⟩)
noncomputable def q134 (P : Params) : Obj := (@Obj.mk (@Value.type "builtin_function_or_method") none (@Data.fields ⟨[(@Value.builtin "object.__init_subclass__"), (.ref 222)]⟩) ⟨[]⟩)
noncomputable def q135 (P : Params) : Obj := (@Obj.mk (@Value.type "dict") none (@Data.dict ⟨[(E P "__name__" 165 (@Value.str (O "kyber_py.polynomials.polynomials") 448)), (E P "__doc__" 166 @Value.none), (E P "__package__" 167 @Value.none), (E P "__loader__" 168 (@Value.builtin "__main__.__loader__#opaque")), (E P "__spec__" 169 @Value.none), (E P "__annotations__" 170 (.ref 6)), (E P "__builtins__" 171 (.ref 4)), (E P "__file__" 173 (@Value.str (O "/claim/cut.py") 172)), (E P "__cached__" 174 @Value.none), (E P "_wall" 193 (.ref 21)), (E P "GenericPolynomialRing" 248 (.ref 59)), (E P "GenericPolynomial" 447 (.ref 222)), (E P "PolynomialRing" 533 (.ref 282))]⟩ 13) ⟨[]⟩)
noncomputable def q136 (P : Params) : Obj := (@Obj.mk @Value.none none (@Data.fields ⟨[(@Value.int (1 : Int) 0), (@Value.int (0 : Int) 0), (.ref 20), (@Value.int (5 : Int) 0), (@Value.int (0 : Int) 0), (.ref 27), (@Value.int (23 : Int) 0), (@Value.int (0 : Int) 0), (.ref 69), (@Value.int (152 : Int) 0), (@Value.int (0 : Int) 0), (.ref 232)]⟩) ⟨[]⟩)
noncomputable def q137 (P : Params) : Obj := (@Obj.mk (@Value.type "type") none (@Data.cls (@ClassData.mk (O "GenericPolynomialRing") [(@Value.type "object")] [(.ref 59), (@Value.type "object")] 58 (O "GenericPolynomialRing") @Bool.true [] [(.ref 282)] @Bool.false none @Bool.false)) ⟨[none, none, (some (@Value.str (O "GenericPolynomialRing") 196)), (some (@Value.str (O "GenericPolynomialRing") 204)), (some (@Value.builtin "object.__new__")), (some (@Value.bool @Bool.true))]⟩)
noncomputable def q138 (P : Params) : Obj := (@Obj.mk (@Value.type "tuple") none (@Data.seq ⟨[(.ref 59)]⟩ 0) ⟨[]⟩)
noncomputable def q139 (P : Params) : Obj := (@Obj.mk (@Value.type "dict") none (@Data.dict ⟨[(E P "__module__" 457 (@Value.str (O "kyber_py.polynomials.polynomials") 448)), (E P "__qualname__" 459 (@Value.str (O "PolynomialRing") 458)), (E P "__firstlineno__" 461 (@Value.int (152 : Int) 460)), (E P "__init__" 467 (.ref 238)), (E P "_br" 488 (.ref 247)), (E P "ntt_sample" 496 (.ref 255)), (E P "cbd" 506 (.ref 263)), (E P "decode" 516 (.ref 271)), (E P "__call__" 525 (.ref 279)), (E P "__static_attributes__" 530 (.ref 280))]⟩ 10) ⟨[]⟩)
noncomputable def q140 (P : Params) : Obj := (@Obj.mk @Value.none none (@Data.fields ⟨[(@Value.int (154 : Int) 0), (@Value.int (4 : Int) 0), (.ref 237), (@Value.int (162 : Int) 0), (@Value.int (4 : Int) 0), (.ref 244), (@Value.int (166 : Int) 0), (@Value.int (4 : Int) 0), (.ref 254), (@Value.int (169 : Int) 0), (@Value.int (4 : Int) 0), (.ref 262), (@Value.int (172 : Int) 0), (@Value.int (4 : Int) 0), (.ref 270), (@Value.int (175 : Int) 0), (@Value.int (4 : Int) 0), (.ref 278)]⟩) ⟨[]⟩)
noncomputable def q141 (P : Params) : Obj := (@Obj.mk (@Value.type "code") none (@Data.fields ⟨[(@Value.str (O "PolynomialRing") 452), (@Value.str (O "PolynomialRing") 453), (@Value.str (O "/claim/cut.py") 454), (@Value.int (152 : Int) 0), (@Value.int (0 : Int) 0), (@Value.int (0 : Int) 0), (@Value.int (0 : Int) 0), (@Value.int (0 : Int) 0), (.ref 230), (@Value.bool @Bool.false), (@Value.int (181 : Int) 0), (.ref 231), @Value.none, @Value.none, @Value.none, @Value.none, (@Value.int (455 : Int) 0), (@Value.int (152 : Int) 0), (@Value.str (O "/claim/cut.py") 456)]⟩) ⟨[]⟩)
noncomputable def q142 (P : Params) : Obj := (@Obj.mk (@Value.type "frame") none @Data.plain ⟨[(some (.ref 232)), (some (.ref 3)), (some (.ref 229)), none, (some (@Value.str (O "kyber_py.polynomials.polynomials") 448)), none, (some (.ref 0))]⟩)
noncomputable def q143 (P : Params) : Obj := (@Obj.mk @Value.none none (PySem.Data.func (PySem.FuncData.mk (O "__init__") (O "PolynomialRing.__init__") gP28 (PySem.FuncBody.stmts gB28) gS28 0 [] @Value.none @Value.none @Value.none @Value.none none @Value.none @Value.none 0)) ⟨[]⟩)
noncomputable def q144 (P : Params) : Obj := (@Obj.mk (@Value.type "code") none (@Data.fields ⟨[(@Value.str (O "__init__") 462), (@Value.str (O "PolynomialRing.__init__") 463), (@Value.str (O "/claim/cut.py") 464), (@Value.int (154 : Int) 0), (@Value.int (1 : Int) 0), (@Value.int (0 : Int) 0), (@Value.int (0 : Int) 0), (@Value.int (3 : Int) 0), (.ref 234), (@Value.bool @Bool.true), (@Value.int (181 : Int) 0), (.ref 235), @Value.none, @Value.none, @Value.none, (.ref 236), (@Value.int (465 : Int) 0), (@Value.int (154 : Int) 0), (@Value.str (O "/claim/cut.py") 466)]⟩) ⟨[]⟩)
noncomputable def q145 (P : Params) : Obj := (@Obj.mk (@Value.type "function") none (PySem.Data.func (PySem.FuncData.mk (O "__init__") (O "PolynomialRing.__init__") gP28 (PySem.FuncBody.stmts gB28) gS28 3 [] @Value.none @Value.none @Value.none (@Value.str (O "kyber_py.polynomials.polynomials") 448) none (.ref 237) @Value.none 0)) ⟨[]⟩)
noncomputable def q146 (P : Params) : Obj := (@Obj.mk (@Value.type "tuple") none (@Data.seq ⟨[(@Value.str (O "i") 471), (@Value.str (O "k") 472), (@Value.str (O "bin_i") 473)]⟩ 0) ⟨[]⟩)
noncomputable def q147 (P : Params) : Obj := (@Obj.mk @Value.none none (PySem.Data.func (PySem.FuncData.mk (O "_br") (O "PolynomialRing._br") gP29 (PySem.FuncBody.stmts gB29) gS29 0 [] @Value.none @Value.none @Value.none @Value.none none @Value.none @Value.none 0)) ⟨[]⟩)
noncomputable def q148 (P : Params) : Obj := (@Obj.mk (@Value.type "code") none (@Data.fields ⟨[(@Value.str (O "_br") 468), (@Value.str (O "PolynomialRing._br") 469), (@Value.str (O "/claim/cut.py") 470), (@Value.int (161 : Int) 0), (@Value.int (2 : Int) 0), (@Value.int (0 : Int) 0), (@Value.int (0 : Int) 0), (@Value.int (3 : Int) 0), (.ref 239), (@Value.bool @Bool.true), (@Value.int (181 : Int) 0), (.ref 240), @Value.none, (.ref 241), (.ref 242), (.ref 243), (@Value.int (474 : Int) 0), (@Value.int (161 : Int) 0), (@Value.str (O "/claim/cut.py") 475)]⟩) ⟨[]⟩)
noncomputable def q149 (P : Params) : Obj := (@Obj.mk (@Value.type "function") none (PySem.Data.func (PySem.FuncData.mk (O "_br") (O "PolynomialRing._br") gP29 (PySem.FuncBody.stmts gB29) gS29 3 [] @Value.none @Value.none @Value.none (@Value.str (O "kyber_py.polynomials.polynomials") 448) (some 248) (.ref 244) @Value.none 0)) ⟨[]⟩)
noncomputable def q150 (P : Params) : Obj := (@Obj.mk (@Value.type "dict") none (@Data.dict ⟨[(E P "__module__" 477 (@Value.str (O "kyber_py.polynomials.polynomials") 448)), (E P "__name__" 480 (@Value.str (O "_br") 479)), (E P "__qualname__" 483 (@Value.str (O "PolynomialRing._br") 482)), (E P "__doc__" 485 @Value.none), (E P "__annotations__" 487 (.ref 248))]⟩ 5) ⟨[]⟩)
noncomputable def q151 (P : Params) : Obj := (@Obj.mk (@Value.type "staticmethod") (some 246) (@Data.fields ⟨[(.ref 245), (@Value.bool @Bool.false)]⟩) ⟨[]⟩)
noncomputable def q152 (P : Params) : Obj := (@Obj.mk (@Value.type "tuple") none (@Data.seq ⟨[(@Value.str (O "self") 492), (@Value.str (O "input_bytes") 493)]⟩ 0) ⟨[]⟩)
noncomputable def q153 (P : Params) : Obj := (@Obj.mk @Value.none none (PySem.Data.func (PySem.FuncData.mk (O "ntt_sample") (O "PolynomialRing.ntt_sample") gP30 (PySem.FuncBody.stmts gB30) gS30 0 [] @Value.none @Value.none @Value.none @Value.none none @Value.none @Value.none 0)) ⟨[]⟩)
noncomputable def q154 (P : Params) : Obj := (@Obj.mk (@Value.type "code") none (@Data.fields ⟨[(@Value.str (O "ntt_sample") 489), (@Value.str (O "PolynomialRing.ntt_sample") 490), (@Value.str (O "/claim/cut.py") 491), (@Value.int (166 : Int) 0), (@Value.int (2 : Int) 0), (@Value.int (0 : Int) 0), (@Value.int (0 : Int) 0), (@Value.int (3 : Int) 0), (.ref 249), (@Value.bool @Bool.true), (@Value.int (181 : Int) 0), (.ref 250), @Value.none, (.ref 251), (.ref 252), (.ref 253), (@Value.int (494 : Int) 0), (@Value.int (166 : Int) 0), (@Value.str (O "/claim/cut.py") 495)]⟩) ⟨[]⟩)
noncomputable def q155 (P : Params) : Obj := (@Obj.mk (@Value.type "function") none (PySem.Data.func (PySem.FuncData.mk (O "ntt_sample") (O "PolynomialRing.ntt_sample") gP30 (PySem.FuncBody.stmts gB30) gS30 3 [] @Value.none @Value.none @Value.none (@Value.str (O "kyber_py.polynomials.polynomials") 448) none (.ref 254) @Value.none 0)) ⟨[]⟩)
noncomputable def q156 (P : Params) : Obj := (@Obj.mk (@Value.type "tuple") none (@Data.seq ⟨[(@Value.bool @Bool.false)]⟩ 0) ⟨[]⟩)
noncomputable def q157 (P : Params) : Obj := (@Obj.mk (@Value.type "tuple") none (@Data.seq ⟨[(@Value.str (O "self") 500), (@Value.str (O "input_bytes") 501), (@Value.str (O "eta") 502), (@Value.str (O "is_ntt") 503)]⟩ 0) ⟨[]⟩)
noncomputable def q158 (P : Params) : Obj := (@Obj.mk @Value.none none (PySem.Data.func (PySem.FuncData.mk (O "cbd") (O "PolynomialRing.cbd") gP31 (PySem.FuncBody.stmts gB31) gS31 0 [] @Value.none @Value.none @Value.none @Value.none none @Value.none @Value.none 0)) ⟨[]⟩)
noncomputable def q159 (P : Params) : Obj := (@Obj.mk (@Value.type "code") none (@Data.fields ⟨[(@Value.str (O "cbd") 497), (@Value.str (O "PolynomialRing.cbd") 498), (@Value.str (O "/claim/cut.py") 499), (@Value.int (169 : Int) 0), (@Value.int (4 : Int) 0), (@Value.int (0 : Int) 0), (@Value.int (0 : Int) 0), (@Value.int (3 : Int) 0), (.ref 257), (@Value.bool @Bool.true), (@Value.int (181 : Int) 0), (.ref 258), @Value.none, (.ref 259), (.ref 260), (.ref 261), (@Value.int (504 : Int) 0), (@Value.int (169 : Int) 0), (@Value.str (O "/claim/cut.py") 505)]⟩) ⟨[]⟩)
noncomputable def q160 (P : Params) : Obj := (@Obj.mk (@Value.type "function") none (PySem.Data.func (PySem.FuncData.mk (O "cbd") (O "PolynomialRing.cbd") gP31 (PySem.FuncBody.stmts gB31) gS31 3 [] (.ref 256) @Value.none @Value.none (@Value.str (O "kyber_py.polynomials.polynomials") 448) none (.ref 262) @Value.none 0)) ⟨[]⟩)
noncomputable def q161 (P : Params) : Obj := (@Obj.mk (@Value.type "tuple") none (@Data.seq ⟨[(@Value.str (O "self") 510), (@Value.str (O "input_bytes") 511), (@Value.str (O "d") 512), (@Value.str (O "is_ntt") 513)]⟩ 0) ⟨[]⟩)
noncomputable def q162 (P : Params) : Obj := (@Obj.mk @Value.none none (PySem.Data.func (PySem.FuncData.mk (O "decode") (O "PolynomialRing.decode") gP32 (PySem.FuncBody.stmts gB32) gS32 0 [] @Value.none @Value.none @Value.none @Value.none none @Value.none @Value.none 0)) ⟨[]⟩)
noncomputable def q163 (P : Params) : Obj := (@Obj.mk (@Value.type "code") none (@Data.fields ⟨[(@Value.str (O "decode") 507), (@Value.str (O "PolynomialRing.decode") 508), (@Value.str (O "/claim/cut.py") 509), (@Value.int (172 : Int) 0), (@Value.int (4 : Int) 0), (@Value.int (0 : Int) 0), (@Value.int (0 : Int) 0), (@Value.int (3 : Int) 0), (.ref 265), (@Value.bool @Bool.true), (@Value.int (181 : Int) 0), (.ref 266), @Value.none, (.ref 267), (.ref 268), (.ref 269), (@Value.int (514 : Int) 0), (@Value.int (172 : Int) 0), (@Value.str (O "/claim/cut.py") 515)]⟩) ⟨[]⟩)
noncomputable def q164 (P : Params) : Obj := (@Obj.mk (@Value.type "function") none (PySem.Data.func (PySem.FuncData.mk (O "decode") (O "PolynomialRing.decode") gP32 (PySem.FuncBody.stmts gB32) gS32 3 [] (.ref 264) @Value.none @Value.none (@Value.str (O "kyber_py.polynomials.polynomials") 448) none (.ref 270) @Value.none 0)) ⟨[]⟩)
noncomputable def q165 (P : Params) : Obj := (@Obj.mk (@Value.type "tuple") none (@Data.seq ⟨[(@Value.str (O "self") 520), (@Value.str (O "coefficients") 521), (@Value.str (O "is_ntt") 522)]⟩ 0) ⟨[]⟩)
noncomputable def q166 (P : Params) : Obj := (@Obj.mk @Value.none none (PySem.Data.func (PySem.FuncData.mk (O "__call__") (O "PolynomialRing.__call__") gP33 (PySem.FuncBody.stmts gB33) gS33 0 [] @Value.none @Value.none @Value.none @Value.none none @Value.none @Value.none 0)) ⟨[]⟩)
noncomputable def q167 (P : Params) : Obj := (@Obj.mk (@Value.type "code") none (@Data.fields ⟨[(@Value.str (O "__call__") 517), (@Value.str (O "PolynomialRing.__call__") 518), (@Value.str (O "/claim/cut.py") 519), (@Value.int (175 : Int) 0), (@Value.int (3 : Int) 0), (@Value.int (0 : Int) 0), (@Value.int (0 : Int) 0), (@Value.int (3 : Int) 0), (.ref 273), (@Value.bool @Bool.true), (@Value.int (181 : Int) 0), (.ref 274), @Value.none, (.ref 275), (.ref 276), (.ref 277), (@Value.int (523 : Int) 0), (@Value.int (175 : Int) 0), (@Value.str (O "/claim/cut.py") 524)]⟩) ⟨[]⟩)
noncomputable def q168 (P : Params) : Obj := (@Obj.mk (@Value.type "function") none (PySem.Data.func (PySem.FuncData.mk (O "__call__") (O "PolynomialRing.__call__") gP33 (PySem.FuncBody.stmts gB33) gS33 3 [] (.ref 272) @Value.none @Value.none (@Value.str (O "kyber_py.polynomials.polynomials") 448) none (.ref 278) @Value.none 0)) ⟨[]⟩)
noncomputable def q169 (P : Params) : Obj := (@Obj.mk (@Value.type "tuple") none (@Data.seq ⟨[(@Value.str (O "n") 526), (@Value.str (O "ntt_f") 527), (@Value.str (O "ntt_zetas") 528), (@Value.str (O "q") 529)]⟩ 0) ⟨[]⟩)
noncomputable def q170 (P : Params) : Obj := (@Obj.mk (@Value.type "dict") none (@Data.dict ⟨[(E P "__module__" 457 (@Value.str (O "kyber_py.polynomials.polynomials") 448)), (E P "__firstlineno__" 461 (@Value.int (152 : Int) 460)), (E P "__init__" 467 (.ref 238)), (E P "_br" 488 (.ref 247)), (E P "ntt_sample" 496 (.ref 255)), (E P "cbd" 506 (.ref 263)), (E P "decode" 516 (.ref 271)), (E P "__call__" 525 (.ref 279)), (E P "__static_attributes__" 530 (.ref 280)), (E P "__doc__" 531 @Value.none)]⟩ 2) ⟨[]⟩)
noncomputable def q171 (P : Params) : Obj := (@Obj.mk (@Value.type "type") none (@Data.cls (@ClassData.mk (O "PolynomialRing") [(.ref 59)] [(.ref 282), (.ref 59), (@Value.type "object")] 281 (O "PolynomialRing") @Bool.true [] [] @Bool.false none @Bool.false)) ⟨[(some (.ref 227)), none, (some (@Value.str (O "PolynomialRing") 450)), (some (@Value.str (O "PolynomialRing") 458)), (some (@Value.builtin "object.__new__")), (some (@Value.bool @Bool.true))]⟩)
noncomputable def q172 (P : Params) : Obj := (@Obj.mk (@Value.type "super") none (@Data.fields ⟨[(.ref 282), (.ref 282), (.ref 282)]⟩) ⟨[]⟩)
noncomputable def q173 (P : Params) : Obj := (@Obj.mk (@Value.type "builtin_function_or_method") none (@Data.fields ⟨[(@Value.builtin "object.__init_subclass__"), (.ref 282)]⟩) ⟨[]⟩)
noncomputable def q174 (P : Params) : Obj := (@Obj.mk (@Value.type "dict") none (@Data.dict ⟨[(E P "__name__" 165 (@Value.str (O "kyber_py.polynomials.polynomials") 448)), (E P "__doc__" 166 @Value.none), (E P "__package__" 167 @Value.none), (E P "__loader__" 168 (@Value.builtin "__main__.__loader__#opaque")), (E P "__spec__" 169 @Value.none), (E P "__annotations__" 170 (.ref 6)), (E P "__builtins__" 171 (.ref 4)), (E P "__file__" 173 (@Value.str (O "/claim/cut.py") 172)), (E P "__cached__" 174 @Value.none), (E P "_wall" 193 (.ref 21)), (E P "GenericPolynomialRing" 248 (.ref 59)), (E P "GenericPolynomial" 447 (.ref 222)), (E P "PolynomialRing" 533 (.ref 282)), (E P "Polynomial" 616 (.ref 350))]⟩ 14) ⟨[]⟩)
noncomputable def q175 (P : Params) : Obj := (@Obj.mk @Value.none none (@Data.fields ⟨[(@Value.int (1 : Int) 0), (@Value.int (0 : Int) 0), (.ref 20), (@Value.int (5 : Int) 0), (@Value.int (0 : Int) 0), (.ref 27), (@Value.int (23 : Int) 0), (@Value.int (0 : Int) 0), (.ref 69), (@Value.int (152 : Int) 0), (@Value.int (0 : Int) 0), (.ref 232), (@Value.int (183 : Int) 0), (@Value.int (0 : Int) 0), (.ref 290)]⟩) ⟨[]⟩)
noncomputable def q176 (P : Params) : Obj := (@Obj.mk (@Value.type "type") none (@Data.cls (@ClassData.mk (O "GenericPolynomial") [(@Value.type "object")] [(.ref 222), (@Value.type "object")] 221 (O "GenericPolynomial") @Bool.true [] [(.ref 350)] @Bool.false none @Bool.false)) ⟨[none, none, (some (@Value.str (O "GenericPolynomial") 249)), (some (@Value.str (O "GenericPolynomial") 257)), (some (@Value.builtin "object.__new__")), (some (@Value.bool @Bool.true))]⟩)
noncomputable def q177 (P : Params) : Obj := (@Obj.mk (@Value.type "tuple") none (@Data.seq ⟨[(.ref 222)]⟩ 0) ⟨[]⟩)
noncomputable def q178 (P : Params) : Obj := (@Obj.mk (@Value.type "dict") none (@Data.dict ⟨[(E P "__module__" 541 (@Value.str (O "kyber_py.polynomials.polynomials") 448)), (E P "__qualname__" 543 (@Value.str (O "Polynomial") 542)), (E P "__firstlineno__" 545 (@Value.int (183 : Int) 544)), (E P "__init__" 554 (.ref 298)), (E P "encode" 562 (.ref 305)), (E P "_compress_ele" 571 (.ref 312)), (E P "_decompress_ele" 580 (.ref 319)), (E P "compress" 588 (.ref 326)), (E P "decompress" 596 (.ref 333)), (E P "to_ntt" 603 (.ref 340)), (E P "from_ntt" 610 (.ref 347)), (E P "__static_attributes__" 613 (.ref 348))]⟩ 12) ⟨[]⟩)
noncomputable def q179 (P : Params) : Obj := (@Obj.mk @Value.none none (@Data.fields ⟨[(@Value.int (185 : Int) 0), (@Value.int (4 : Int) 0), (.ref 297), (@Value.int (189 : Int) 0), (@Value.int (4 : Int) 0), (.ref 304), (@Value.int (192 : Int) 0), (@Value.int (4 : Int) 0), (.ref 311), (@Value.int (195 : Int) 0), (@Value.int (4 : Int) 0), (.ref 318), (@Value.int (198 : Int) 0), (@Value.int (4 : Int) 0), (.ref 325), (@Value.int (201 : Int) 0), (@Value.int (4 : Int) 0), (.ref 332), (@Value.int (204 : Int) 0), (@Value.int (4 : Int) 0), (.ref 339), (@Value.int (207 : Int) 0), (@Value.int (4 : Int) 0), (.ref 346)]⟩) ⟨[]⟩)
noncomputable def q180 (P : Params) : Obj := (@Obj.mk (@Value.type "code") none (@Data.fields ⟨[(@Value.str (O "Polynomial") 536), (@Value.str (O "Polynomial") 537), (@Value.str (O "/claim/cut.py") 538), (@Value.int (183 : Int) 0), (@Value.int (0 : Int) 0), (@Value.int (0 : Int) 0), (@Value.int (0 : Int) 0), (@Value.int (0 : Int) 0), (.ref 288), (@Value.bool @Bool.false), (@Value.int (181 : Int) 0), (.ref 289), @Value.none, @Value.none, @Value.none, @Value.none, (@Value.int (539 : Int) 0), (@Value.int (183 : Int) 0), (@Value.str (O "/claim/cut.py") 540)]⟩) ⟨[]⟩)
noncomputable def q181 (P : Params) : Obj := (@Obj.mk (@Value.type "frame") none @Data.plain ⟨[(some (.ref 290)), (some (.ref 3)), (some (.ref 287)), none, (some (@Value.str (O "kyber_py.polynomials.polynomials") 448)), none, (some (.ref 0))]⟩)
noncomputable def q182 (P : Params) : Obj := (@Obj.mk (@Value.type "tuple") none (@Data.seq ⟨[(@Value.str (O "self") 549), (@Value.str (O "parent") 550), (@Value.str (O "coefficients") 551)]⟩ 0) ⟨[]⟩)
noncomputable def q183 (P : Params) : Obj := (@Obj.mk @Value.none none (PySem.Data.func (PySem.FuncData.mk (O "__init__") (O "Polynomial.__init__") gP34 (PySem.FuncBody.stmts gB34) gS34 0 [] @Value.none @Value.none @Value.none @Value.none none @Value.none @Value.none 0)) ⟨[]⟩)
noncomputable def q184 (P : Params) : Obj := (@Obj.mk (@Value.type "code") none (@Data.fields ⟨[(@Value.str (O "__init__") 546), (@Value.str (O "Polynomial.__init__") 547), (@Value.str (O "/claim/cut.py") 548), (@Value.int (185 : Int) 0), (@Value.int (3 : Int) 0), (@Value.int (0 : Int) 0), (@Value.int (0 : Int) 0), (@Value.int (3 : Int) 0), (.ref 292), (@Value.bool @Bool.true), (@Value.int (181 : Int) 0), (.ref 293), @Value.none, (.ref 294), (.ref 295), (.ref 296), (@Value.int (552 : Int) 0), (@Value.int (185 : Int) 0), (@Value.str (O "/claim/cut.py") 553)]⟩) ⟨[]⟩)
noncomputable def q185 (P : Params) : Obj := (@Obj.mk (@Value.type "function") none (PySem.Data.func (PySem.FuncData.mk (O "__init__") (O "Polynomial.__init__") gP34 (PySem.FuncBody.stmts gB34) gS34 3 [] @Value.none @Value.none @Value.none (@Value.str (O "kyber_py.polynomials.polynomials") 448) none (.ref 297) @Value.none 0)) ⟨[]⟩)
noncomputable def q186 (P : Params) : Obj := (@Obj.mk (@Value.type "tuple") none (@Data.seq ⟨[(@Value.str (O "self") 558), (@Value.str (O "d") 559)]⟩ 0) ⟨[]⟩)
noncomputable def q187 (P : Params) : Obj := (@Obj.mk @Value.none none (PySem.Data.func (PySem.FuncData.mk (O "encode") (O "Polynomial.encode") gP35 (PySem.FuncBody.stmts gB35) gS35 0 [] @Value.none @Value.none @Value.none @Value.none none @Value.none @Value.none 0)) ⟨[]⟩)
noncomputable def q188 (P : Params) : Obj := (@Obj.mk (@Value.type "code") none (@Data.fields ⟨[(@Value.str (O "encode") 555), (@Value.str (O "Polynomial.encode") 556), (@Value.str (O "/claim/cut.py") 557), (@Value.int (189 : Int) 0), (@Value.int (2 : Int) 0), (@Value.int (0 : Int) 0), (@Value.int (0 : Int) 0), (@Value.int (3 : Int) 0), (.ref 299), (@Value.bool @Bool.true), (@Value.int (181 : Int) 0), (.ref 300), @Value.none, (.ref 301), (.ref 302), (.ref 303), (@Value.int (560 : Int) 0), (@Value.int (189 : Int) 0), (@Value.str (O "/claim/cut.py") 561)]⟩) ⟨[]⟩)
noncomputable def q189 (P : Params) : Obj := (@Obj.mk (@Value.type "function") none (PySem.Data.func (PySem.FuncData.mk (O "encode") (O "Polynomial.encode") gP35 (PySem.FuncBody.stmts gB35) gS35 3 [] @Value.none @Value.none @Value.none (@Value.str (O "kyber_py.polynomials.polynomials") 448) none (.ref 304) @Value.none 0)) ⟨[]⟩)
noncomputable def q190 (P : Params) : Obj := (@Obj.mk (@Value.type "tuple") none (@Data.seq ⟨[(@Value.str (O "self") 566), (@Value.str (O "x") 567), (@Value.str (O "d") 568)]⟩ 0) ⟨[]⟩)
noncomputable def q191 (P : Params) : Obj := (@Obj.mk @Value.none none (PySem.Data.func (PySem.FuncData.mk (O "_compress_ele") (O "Polynomial._compress_ele") gP36 (PySem.FuncBody.stmts gB36) gS36 0 [] @Value.none @Value.none @Value.none @Value.none none @Value.none @Value.none 0)) ⟨[]⟩)
noncomputable def q192 (P : Params) : Obj := (@Obj.mk (@Value.type "code") none (@Data.fields ⟨[(@Value.str (O "_compress_ele") 563), (@Value.str (O "Polynomial._compress_ele") 564), (@Value.str (O "/claim/cut.py") 565), (@Value.int (192 : Int) 0), (@Value.int (3 : Int) 0), (@Value.int (0 : Int) 0), (@Value.int (0 : Int) 0), (@Value.int (3 : Int) 0), (.ref 306), (@Value.bool @Bool.true), (@Value.int (181 : Int) 0), (.ref 307), @Value.none, (.ref 308), (.ref 309), (.ref 310), (@Value.int (569 : Int) 0), (@Value.int (192 : Int) 0), (@Value.str (O "/claim/cut.py") 570)]⟩) ⟨[]⟩)
noncomputable def q193 (P : Params) : Obj := (@Obj.mk (@Value.type "function") none (PySem.Data.func (PySem.FuncData.mk (O "_compress_ele") (O "Polynomial._compress_ele") gP36 (PySem.FuncBody.stmts gB36) gS36 3 [] @Value.none @Value.none @Value.none (@Value.str (O "kyber_py.polynomials.polynomials") 448) none (.ref 311) @Value.none 0)) ⟨[]⟩)
noncomputable def q194 (P : Params) : Obj := (@Obj.mk (@Value.type "tuple") none (@Data.seq ⟨[(@Value.str (O "self") 575), (@Value.str (O "x") 576), (@Value.str (O "d") 577)]⟩ 0) ⟨[]⟩)
noncomputable def q195 (P : Params) : Obj := (@Obj.mk @Value.none none (PySem.Data.func (PySem.FuncData.mk (O "_decompress_ele") (O "Polynomial._decompress_ele") gP37 (PySem.FuncBody.stmts gB37) gS37 0 [] @Value.none @Value.none @Value.none @Value.none none @Value.none @Value.none 0)) ⟨[]⟩)
noncomputable def q196 (P : Params) : Obj := (@Obj.mk (@Value.type "code") none (@Data.fields ⟨[(@Value.str (O "_decompress_ele") 572), (@Value.str (O "Polynomial._decompress_ele") 573), (@Value.str (O "/claim/cut.py") 574), (@Value.int (195 : Int) 0), (@Value.int (3 : Int) 0), (@Value.int (0 : Int) 0), (@Value.int (0 : Int) 0), (@Value.int (3 : Int) 0), (.ref 313), (@Value.bool @Bool.true), (@Value.int (181 : Int) 0), (.ref 314), @Value.none, (.ref 315), (.ref 316), (.ref 317), (@Value.int (578 : Int) 0), (@Value.int (195 : Int) 0), (@Value.str (O "/claim/cut.py") 579)]⟩) ⟨[]⟩)
noncomputable def q197 (P : Params) : Obj := (@Obj.mk (@Value.type "function") none (PySem.Data.func (PySem.FuncData.mk (O "_decompress_ele") (O "Polynomial._decompress_ele") gP37 (PySem.FuncBody.stmts gB37) gS37 3 [] @Value.none @Value.none @Value.none (@Value.str (O "kyber_py.polynomials.polynomials") 448) none (.ref 318) @Value.none 0)) ⟨[]⟩)
noncomputable def q198 (P : Params) : Obj := (@Obj.mk (@Value.type "tuple") none (@Data.seq ⟨[(@Value.str (O "self") 584), (@Value.str (O "d") 585)]⟩ 0) ⟨[]⟩)
noncomputable def q199 (P : Params) : Obj := (@Obj.mk @Value.none none (PySem.Data.func (PySem.FuncData.mk (O "compress") (O "Polynomial.compress") gP38 (PySem.FuncBody.stmts gB38) gS38 0 [] @Value.none @Value.none @Value.none @Value.none none @Value.none @Value.none 0)) ⟨[]⟩)
noncomputable def q200 (P : Params) : Obj := (@Obj.mk (@Value.type "code") none (@Data.fields ⟨[(@Value.str (O "compress") 581), (@Value.str (O "Polynomial.compress") 582), (@Value.str (O "/claim/cut.py") 583), (@Value.int (198 : Int) 0), (@Value.int (2 : Int) 0), (@Value.int (0 : Int) 0), (@Value.int (0 : Int) 0), (@Value.int (3 : Int) 0), (.ref 320), (@Value.bool @Bool.true), (@Value.int (181 : Int) 0), (.ref 321), @Value.none, (.ref 322), (.ref 323), (.ref 324), (@Value.int (586 : Int) 0), (@Value.int (198 : Int) 0), (@Value.str (O "/claim/cut.py") 587)]⟩) ⟨[]⟩)
noncomputable def q201 (P : Params) : Obj := (@Obj.mk (@Value.type "function") none (PySem.Data.func (PySem.FuncData.mk (O "compress") (O "Polynomial.compress") gP38 (PySem.FuncBody.stmts gB38) gS38 3 [] @Value.none @Value.none @Value.none (@Value.str (O "kyber_py.polynomials.polynomials") 448) none (.ref 325) @Value.none 0)) ⟨[]⟩)
noncomputable def q202 (P : Params) : Obj := (@Obj.mk (@Value.type "tuple") none (@Data.seq ⟨[(@Value.str (O "self") 592), (@Value.str (O "d") 593)]⟩ 0) ⟨[]⟩)
noncomputable def q203 (P : Params) : Obj := (@Obj.mk @Value.none none (PySem.Data.func (PySem.FuncData.mk (O "decompress") (O "Polynomial.decompress") gP39 (PySem.FuncBody.stmts gB39) gS39 0 [] @Value.none @Value.none @Value.none @Value.none none @Value.none @Value.none 0)) ⟨[]⟩)
noncomputable def q204 (P : Params) : Obj := (@Obj.mk (@Value.type "code") none (@Data.fields ⟨[(@Value.str (O "decompress") 589), (@Value.str (O "Polynomial.decompress") 590), (@Value.str (O "/claim/cut.py") 591), (@Value.int (201 : Int) 0), (@Value.int (2 : Int) 0), (@Value.int (0 : Int) 0), (@Value.int (0 : Int) 0), (@Value.int (3 : Int) 0), (.ref 327), (@Value.bool @Bool.true), (@Value.int (181 : Int) 0), (.ref 328), @Value.none, (.ref 329), (.ref 330), (.ref 331), (@Value.int (594 : Int) 0), (@Value.int (201 : Int) 0), (@Value.str (O "/claim/cut.py") 595)]⟩) ⟨[]⟩)
noncomputable def q205 (P : Params) : Obj := (@Obj.mk (@Value.type "function") none (PySem.Data.func (PySem.FuncData.mk (O "decompress") (O "Polynomial.decompress") gP39 (PySem.FuncBody.stmts gB39) gS39 3 [] @Value.none @Value.none @Value.none (@Value.str (O "kyber_py.polynomials.polynomials") 448) none (.ref 332) @Value.none 0)) ⟨[]⟩)
noncomputable def q206 (P : Params) : Obj := (@Obj.mk (@Value.type "tuple") none (@Data.seq ⟨[(@Value.str (O "self") 600)]⟩ 0) ⟨[]⟩)
noncomputable def q207 (P : Params) : Obj := (@Obj.mk @Value.none none (PySem.Data.func (PySem.FuncData.mk (O "to_ntt") (O "Polynomial.to_ntt") gP40 (PySem.FuncBody.stmts gB40) gS40 0 [] @Value.none @Value.none @Value.none @Value.none none @Value.none @Value.none 0)) ⟨[]⟩)
noncomputable def q208 (P : Params) : Obj := (@Obj.mk (@Value.type "code") none (@Data.fields ⟨[(@Value.str (O "to_ntt") 597), (@Value.str (O "Polynomial.to_ntt") 598), (@Value.str (O "/claim/cut.py") 599), (@Value.int (204 : Int) 0), (@Value.int (1 : Int) 0), (@Value.int (0 : Int) 0), (@Value.int (0 : Int) 0), (@Value.int (3 : Int) 0), (.ref 334), (@Value.bool @Bool.true), (@Value.int (181 : Int) 0), (.ref 335), @Value.none, (.ref 336), (.ref 337), (.ref 338), (@Value.int (601 : Int) 0), (@Value.int (204 : Int) 0), (@Value.str (O "/claim/cut.py") 602)]⟩) ⟨[]⟩)
noncomputable def q209 (P : Params) : Obj := (@Obj.mk (@Value.type "function") none (PySem.Data.func (PySem.FuncData.mk (O "to_ntt") (O "Polynomial.to_ntt") gP40 (PySem.FuncBody.stmts gB40) gS40 3 [] @Value.none @Value.none @Value.none (@Value.str (O "kyber_py.polynomials.polynomials") 448) none (.ref 339) @Value.none 0)) ⟨[]⟩)
noncomputable def q210 (P : Params) : Obj := (@Obj.mk (@Value.type "tuple") none (@Data.seq ⟨[(@Value.str (O "self") 607)]⟩ 0) ⟨[]⟩)
noncomputable def q211 (P : Params) : Obj := (@Obj.mk @Value.none none (PySem.Data.func (PySem.FuncData.mk (O "from_ntt") (O "Polynomial.from_ntt") gP41 (PySem.FuncBody.stmts gB41) gS41 0 [] @Value.none @Value.none @Value.none @Value.none none @Value.none @Value.none 0)) ⟨[]⟩)
noncomputable def q212 (P : Params) : Obj := (@Obj.mk (@Value.type "code") none (@Data.fields ⟨[(@Value.str (O "from_ntt") 604), (@Value.str (O "Polynomial.from_ntt") 605), (@Value.str (O "/claim/cut.py") 606), (@Value.int (207 : Int) 0), (@Value.int (1 : Int) 0), (@Value.int (0 : Int) 0), (@Value.int (0 : Int) 0), (@Value.int (3 : Int) 0), (.ref 341), (@Value.bool @Bool.true), (@Value.int (181 : Int) 0), (.ref 342), @Value.none, (.ref 343), (.ref 344), (.ref 345), (@Value.int (608 : Int) 0), (@Value.int (207 : Int) 0), (@Value.str (O "/claim/cut.py") 609)]⟩) ⟨[]⟩)
noncomputable def q213 (P : Params) : Obj := (@Obj.mk (@Value.type "function") none (PySem.Data.func (PySem.FuncData.mk (O "from_ntt") (O "Polynomial.from_ntt") gP41 (PySem.FuncBody.stmts gB41) gS41 3 [] @Value.none @Value.none @Value.none (@Value.str (O "kyber_py.polynomials.polynomials") 448) none (.ref 346) @Value.none 0)) ⟨[]⟩)
noncomputable def q214 (P : Params) : Obj := (@Obj.mk (@Value.type "tuple") none (@Data.seq ⟨[(@Value.str (O "coeffs") 611), (@Value.str (O "parent") 612)]⟩ 0) ⟨[]⟩)
noncomputable def q215 (P : Params) : Obj := (@Obj.mk (@Value.type "dict") none (@Data.dict ⟨[(E P "__module__" 541 (@Value.str (O "kyber_py.polynomials.polynomials") 448)), (E P "__firstlineno__" 545 (@Value.int (183 : Int) 544)), (E P "__init__" 554 (.ref 298)), (E P "encode" 562 (.ref 305)), (E P "_compress_ele" 571 (.ref 312)), (E P "_decompress_ele" 580 (.ref 319)), (E P "compress" 588 (.ref 326)), (E P "decompress" 596 (.ref 333)), (E P "to_ntt" 603 (.ref 340)), (E P "from_ntt" 610 (.ref 347)), (E P "__static_attributes__" 613 (.ref 348)), (E P "__doc__" 614 @Value.none)]⟩ 2) ⟨[]⟩)
noncomputable def q216 (P : Params) : Obj := (@Obj.mk (@Value.type "type") none (@Data.cls (@ClassData.mk (O "Polynomial") [(.ref 222)] [(.ref 350), (.ref 222), (@Value.type "object")] 349 (O "Polynomial") @Bool.true [] [] @Bool.false none @Bool.false)) ⟨[(some (.ref 285)), none, (some (@Value.str (O "Polynomial") 534)), (some (@Value.str (O "Polynomial") 542)), (some (@Value.builtin "object.__new__")), (some (@Value.bool @Bool.true))]⟩)
noncomputable def q217 (P : Params) : Obj := (@Obj.mk (@Value.type "super") none (@Data.fields ⟨[(.ref 350), (.ref 350), (.ref 350)]⟩) ⟨[]⟩)
noncomputable def q218 (P : Params) : Obj := (@Obj.mk (@Value.type "builtin_function_or_method") none (@Data.fields ⟨[(@Value.builtin "object.__init_subclass__"), (.ref 350)]⟩) ⟨[]⟩)
noncomputable def q219 (P : Params) : Obj := (@Obj.mk (@Value.type "dict") none (@Data.dict ⟨[(E P "__name__" 165 (@Value.str (O "kyber_py.polynomials.polynomials") 448)), (E P "__doc__" 166 @Value.none), (E P "__package__" 167 @Value.none), (E P "__loader__" 168 (@Value.builtin "__main__.__loader__#opaque")), (E P "__spec__" 169 @Value.none), (E P "__annotations__" 170 (.ref 6)), (E P "__builtins__" 171 (.ref 4)), (E P "__file__" 173 (@Value.str (O "/claim/cut.py") 172)), (E P "__cached__" 174 @Value.none), (E P "_wall" 193 (.ref 21)), (E P "GenericPolynomialRing" 248 (.ref 59)), (E P "GenericPolynomial" 447 (.ref 222)), (E P "PolynomialRing" 533 (.ref 282)), (E P "Polynomial" 616 (.ref 350)), (E P "PolynomialNTT" 741 (.ref 426))]⟩ 15) ⟨[]⟩)
noncomputable def q220 (P : Params) : Obj := (@Obj.mk @Value.none none (@Data.fields ⟨[(@Value.int (1 : Int) 0), (@Value.int (0 : Int) 0), (.ref 20), (@Value.int (5 : Int) 0), (@Value.int (0 : Int) 0), (.ref 27), (@Value.int (23 : Int) 0), (@Value.int (0 : Int) 0), (.ref 69), (@Value.int (152 : Int) 0), (@Value.int (0 : Int) 0), (.ref 232), (@Value.int (183 : Int) 0), (@Value.int (0 : Int) 0), (.ref 290), (@Value.int (209 : Int) 0), (@Value.int (0 : Int) 0), (.ref 358)]⟩) ⟨[]⟩)
noncomputable def q221 (P : Params) : Obj := (@Obj.mk (@Value.type "type") none (@Data.cls (@ClassData.mk (O "Polynomial") [(.ref 222)] [(.ref 350), (.ref 222), (@Value.type "object")] 349 (O "Polynomial") @Bool.true [] [(.ref 426)] @Bool.false none @Bool.false)) ⟨[(some (.ref 285)), none, (some (@Value.str (O "Polynomial") 534)), (some (@Value.str (O "Polynomial") 542)), (some (@Value.builtin "object.__new__")), (some (@Value.bool @Bool.true))]⟩)
noncomputable def q222 (P : Params) : Obj := (@Obj.mk (@Value.type "tuple") none (@Data.seq ⟨[(.ref 350)]⟩ 0) ⟨[]⟩)
noncomputable def q223 (P : Params) : Obj := (@Obj.mk (@Value.type "dict") none (@Data.dict ⟨[(E P "__module__" 624 (@Value.str (O "kyber_py.polynomials.polynomials") 448)), (E P "__qualname__" 626 (@Value.str (O "PolynomialNTT") 625)), (E P "__firstlineno__" 628 (@Value.int (209 : Int) 627)), (E P "__init__" 637 (.ref 366)), (E P "to_ntt" 644 (.ref 373)), (E P "from_ntt" 661 (.ref 380)), (E P "_ntt_base_multiplication" 686 (.ref 389)), (E P "_ntt_coefficient_multiplication" 702 (.ref 397)), (E P "_ntt_multiplication" 711 (.ref 404)), (E P "__add__" 720 (.ref 411)), (E P "__sub__" 729 (.ref 418)), (E P "__mul__" 735 (.ref 423)), (E P "__static_attributes__" 738 (.ref 424))]⟩ 13) ⟨[]⟩)
noncomputable def q224 (P : Params) : Obj := (@Obj.mk @Value.none none (@Data.fields ⟨[(@Value.int (211 : Int) 0), (@Value.int (4 : Int) 0), (.ref 365), (@Value.int (215 : Int) 0), (@Value.int (4 : Int) 0), (.ref 372), (@Value.int (218 : Int) 0), (@Value.int (4 : Int) 0), (.ref 379), (@Value.int (242 : Int) 0), (@Value.int (4 : Int) 0), (.ref 386), (@Value.int (247 : Int) 0), (@Value.int (4 : Int) 0), (.ref 396), (@Value.int (256 : Int) 0), (@Value.int (4 : Int) 0), (.ref 403), (@Value.int (260 : Int) 0), (@Value.int (4 : Int) 0), (.ref 410), (@Value.int (264 : Int) 0), (@Value.int (4 : Int) 0), (.ref 417), (@Value.int (268 : Int) 0), (@Value.int (4 : Int) 0), (.ref 422)]⟩) ⟨[]⟩)
noncomputable def q225 (P : Params) : Obj := (@Obj.mk (@Value.type "code") none (@Data.fields ⟨[(@Value.str (O "PolynomialNTT") 619), (@Value.str (O "PolynomialNTT") 620), (@Value.str (O "/claim/cut.py") 621), (@Value.int (209 : Int) 0), (@Value.int (0 : Int) 0), (@Value.int (0 : Int) 0), (@Value.int (0 : Int) 0), (@Value.int (0 : Int) 0), (.ref 356), (@Value.bool @Bool.false), (@Value.int (181 : Int) 0), (.ref 357), @Value.none, @Value.none, @Value.none, @Value.none, (@Value.int (622 : Int) 0), (@Value.int (209 : Int) 0), (@Value.str (O "/claim/cut.py") 623)]⟩) ⟨[]⟩)
noncomputable def q226 (P : Params) : Obj := (@Obj.mk (@Value.type "frame") none @Data.plain ⟨[(some (.ref 358)), (some (.ref 3)), (some (.ref 355)), none, (some (@Value.str (O "kyber_py.polynomials.polynomials") 448)), none, (some (.ref 0))]⟩)
noncomputable def q227 (P : Params) : Obj := (@Obj.mk (@Value.type "tuple") none (@Data.seq ⟨[(@Value.str (O "self") 632), (@Value.str (O "parent") 633), (@Value.str (O "coefficients") 634)]⟩ 0) ⟨[]⟩)
noncomputable def q228 (P : Params) : Obj := (@Obj.mk @Value.none none (PySem.Data.func (PySem.FuncData.mk (O "__init__") (O "PolynomialNTT.__init__") gP42 (PySem.FuncBody.stmts gB42) gS42 0 [] @Value.none @Value.none @Value.none @Value.none none @Value.none @Value.none 0)) ⟨[]⟩)
noncomputable def q229 (P : Params) : Obj := (@Obj.mk (@Value.type "code") none (@Data.fields ⟨[(@Value.str (O "__init__") 629), (@Value.str (O "PolynomialNTT.__init__") 630), (@Value.str (O "/claim/cut.py") 631), (@Value.int (211 : Int) 0), (@Value.int (3 : Int) 0), (@Value.int (0 : Int) 0), (@Value.int (0 : Int) 0), (@Value.int (3 : Int) 0), (.ref 360), (@Value.bool @Bool.true), (@Value.int (181 : Int) 0), (.ref 361), @Value.none, (.ref 362), (.ref 363), (.ref 364), (@Value.int (635 : Int) 0), (@Value.int (211 : Int) 0), (@Value.str (O "/claim/cut.py") 636)]⟩) ⟨[]⟩)
noncomputable def q230 (P : Params) : Obj := (@Obj.mk (@Value.type "function") none (PySem.Data.func (PySem.FuncData.mk (O "__init__") (O "PolynomialNTT.__init__") gP42 (PySem.FuncBody.stmts gB42) gS42 3 [] @Value.none @Value.none @Value.none (@Value.str (O "kyber_py.polynomials.polynomials") 448) none (.ref 365) @Value.none 0)) ⟨[]⟩)
noncomputable def q231 (P : Params) : Obj := (@Obj.mk (@Value.type "tuple") none (@Data.seq ⟨[(@Value.str (O "self") 641)]⟩ 0) ⟨[]⟩)
noncomputable def q232 (P : Params) : Obj := (@Obj.mk @Value.none none (PySem.Data.func (PySem.FuncData.mk (O "to_ntt") (O "PolynomialNTT.to_ntt") gP43 (PySem.FuncBody.stmts gB43) gS43 0 [] @Value.none @Value.none @Value.none @Value.none none @Value.none @Value.none 0)) ⟨[]⟩)
noncomputable def q233 (P : Params) : Obj := (@Obj.mk (@Value.type "code") none (@Data.fields ⟨[(@Value.str (O "to_ntt") 638), (@Value.str (O "PolynomialNTT.to_ntt") 639), (@Value.str (O "/claim/cut.py") 640), (@Value.int (215 : Int) 0), (@Value.int (1 : Int) 0), (@Value.int (0 : Int) 0), (@Value.int (0 : Int) 0), (@Value.int (3 : Int) 0), (.ref 367), (@Value.bool @Bool.true), (@Value.int (181 : Int) 0), (.ref 368), @Value.none, (.ref 369), (.ref 370), (.ref 371), (@Value.int (642 : Int) 0), (@Value.int (215 : Int) 0), (@Value.str (O "/claim/cut.py") 643)]⟩) ⟨[]⟩)
noncomputable def q234 (P : Params) : Obj := (@Obj.mk (@Value.type "function") none (PySem.Data.func (PySem.FuncData.mk (O "to_ntt") (O "PolynomialNTT.to_ntt") gP43 (PySem.FuncBody.stmts gB43) gS43 3 [] @Value.none @Value.none @Value.none (@Value.str (O "kyber_py.polynomials.polynomials") 448) none (.ref 372) @Value.none 0)) ⟨[]⟩)
noncomputable def q235 (P : Params) : Obj := (@Obj.mk (@Value.type "tuple") none (@Data.seq ⟨[(@Value.str (O "self") 648), (@Value.str (O "l") 649), (@Value.str (O "l_upper") 650), (@Value.str (O "k") 651), (@Value.str (O "coeffs") 652), (@Value.str (O "zetas") 653), (@Value.str (O "start") 654), (@Value.str (O "zeta") 655), (@Value.str (O "j") 656), (@Value.str (O "t") 657), (@Value.str (O "f") 658)]⟩ 0) ⟨[]⟩)
noncomputable def q236 (P : Params) : Obj := (@Obj.mk @Value.none none (PySem.Data.func (PySem.FuncData.mk (O "from_ntt") (O "PolynomialNTT.from_ntt") gP44 (PySem.FuncBody.stmts gB44) gS44 0 [] @Value.none @Value.none @Value.none @Value.none none @Value.none @Value.none 0)) ⟨[]⟩)
noncomputable def q237 (P : Params) : Obj := (@Obj.mk (@Value.type "code") none (@Data.fields ⟨[(@Value.str (O "from_ntt") 645), (@Value.str (O "PolynomialNTT.from_ntt") 646), (@Value.str (O "/claim/cut.py") 647), (@Value.int (218 : Int) 0), (@Value.int (1 : Int) 0), (@Value.int (0 : Int) 0), (@Value.int (0 : Int) 0), (@Value.int (3 : Int) 0), (.ref 374), (@Value.bool @Bool.true), (@Value.int (181 : Int) 0), (.ref 375), @Value.none, (.ref 376), (.ref 377), (.ref 378), (@Value.int (659 : Int) 0), (@Value.int (218 : Int) 0), (@Value.str (O "/claim/cut.py") 660)]⟩) ⟨[]⟩)
noncomputable def q238 (P : Params) : Obj := (@Obj.mk (@Value.type "function") none (PySem.Data.func (PySem.FuncData.mk (O "from_ntt") (O "PolynomialNTT.from_ntt") gP44 (PySem.FuncBody.stmts gB44) gS44 3 [] @Value.none @Value.none @Value.none (@Value.str (O "kyber_py.polynomials.polynomials") 448) none (.ref 379) @Value.none 0)) ⟨[]⟩)
noncomputable def q239 (P : Params) : Obj := (@Obj.mk (@Value.type "tuple") none (@Data.seq ⟨[(@Value.str (O "a0") 665), (@Value.str (O "a1") 666), (@Value.str (O "b0") 667), (@Value.str (O "b1") 668), (@Value.str (O "zeta") 669), (@Value.str (O "r0") 670), (@Value.str (O "r1") 671)]⟩ 0) ⟨[]⟩)
noncomputable def q240 (P : Params) : Obj := (@Obj.mk @Value.none none (PySem.Data.func (PySem.FuncData.mk (O "_ntt_base_multiplication") (O "PolynomialNTT._ntt_base_multiplication") gP45 (PySem.FuncBody.stmts gB45) gS45 0 [] @Value.none @Value.none @Value.none @Value.none none @Value.none @Value.none 0)) ⟨[]⟩)
noncomputable def q241 (P : Params) : Obj := (@Obj.mk (@Value.type "code") none (@Data.fields ⟨[(@Value.str (O "_ntt_base_multiplication") 662), (@Value.str (O "PolynomialNTT._ntt_base_multiplication") 663), (@Value.str (O "/claim/cut.py") 664), (@Value.int (241 : Int) 0), (@Value.int (5 : Int) 0), (@Value.int (0 : Int) 0), (@Value.int (0 : Int) 0), (@Value.int (3 : Int) 0), (.ref 381), (@Value.bool @Bool.true), (@Value.int (181 : Int) 0), (.ref 382), @Value.none, (.ref 383), (.ref 384), (.ref 385), (@Value.int (672 : Int) 0), (@Value.int (241 : Int) 0), (@Value.str (O "/claim/cut.py") 673)]⟩) ⟨[]⟩)
noncomputable def q242 (P : Params) : Obj := (@Obj.mk (@Value.type "function") none (PySem.Data.func (PySem.FuncData.mk (O "_ntt_base_multiplication") (O "PolynomialNTT._ntt_base_multiplication") gP45 (PySem.FuncBody.stmts gB45) gS45 3 [] @Value.none @Value.none @Value.none (@Value.str (O "kyber_py.polynomials.polynomials") 448) (some 390) (.ref 386) @Value.none 0)) ⟨[]⟩)
noncomputable def q243 (P : Params) : Obj := (@Obj.mk (@Value.type "dict") none (@Data.dict ⟨[(E P "__module__" 675 (@Value.str (O "kyber_py.polynomials.polynomials") 448)), (E P "__name__" 678 (@Value.str (O "_ntt_base_multiplication") 677)), (E P "__qualname__" 681 (@Value.str (O "PolynomialNTT._ntt_base_multiplication") 680)), (E P "__doc__" 683 @Value.none), (E P "__annotations__" 685 (.ref 390))]⟩ 5) ⟨[]⟩)
noncomputable def q244 (P : Params) : Obj := (@Obj.mk (@Value.type "staticmethod") (some 388) (@Data.fields ⟨[(.ref 387), (@Value.bool @Bool.false)]⟩) ⟨[]⟩)
noncomputable def q245 (P : Params) : Obj := (@Obj.mk (@Value.type "tuple") none (@Data.seq ⟨[(@Value.str (O "self") 690), (@Value.str (O "f_coeffs") 691), (@Value.str (O "g_coeffs") 692), (@Value.str (O "new_coeffs") 693), (@Value.str (O "zetas") 694), (@Value.str (O "i") 695), (@Value.str (O "r0") 696), (@Value.str (O "r1") 697), (@Value.str (O "r2") 698), (@Value.str (O "r3") 699)]⟩ 0) ⟨[]⟩)
noncomputable def q246 (P : Params) : Obj := (@Obj.mk @Value.none none (PySem.Data.func (PySem.FuncData.mk (O "_ntt_coefficient_multiplication") (O "PolynomialNTT._ntt_coefficient_multiplication") gP46 (PySem.FuncBody.stmts gB46) gS46 0 [] @Value.none @Value.none @Value.none @Value.none none @Value.none @Value.none 0)) ⟨[]⟩)
noncomputable def q247 (P : Params) : Obj := (@Obj.mk (@Value.type "code") none (@Data.fields ⟨[(@Value.str (O "_ntt_coefficient_multiplication") 687), (@Value.str (O "PolynomialNTT._ntt_coefficient_multiplication") 688), (@Value.str (O "/claim/cut.py") 689), (@Value.int (247 : Int) 0), (@Value.int (3 : Int) 0), (@Value.int (0 : Int) 0), (@Value.int (0 : Int) 0), (@Value.int (3 : Int) 0), (.ref 391), (@Value.bool @Bool.true), (@Value.int (181 : Int) 0), (.ref 392), @Value.none, (.ref 393), (.ref 394), (.ref 395), (@Value.int (700 : Int) 0), (@Value.int (247 : Int) 0), (@Value.str (O "/claim/cut.py") 701)]⟩) ⟨[]⟩)
noncomputable def q248 (P : Params) : Obj := (@Obj.mk (@Value.type "function") none (PySem.Data.func (PySem.FuncData.mk (O "_ntt_coefficient_multiplication") (O "PolynomialNTT._ntt_coefficient_multiplication") gP46 (PySem.FuncBody.stmts gB46) gS46 3 [] @Value.none @Value.none @Value.none (@Value.str (O "kyber_py.polynomials.polynomials") 448) none (.ref 396) @Value.none 0)) ⟨[]⟩)
noncomputable def q249 (P : Params) : Obj := (@Obj.mk (@Value.type "tuple") none (@Data.seq ⟨[(@Value.str (O "self") 706), (@Value.str (O "other") 707), (@Value.str (O "new_coeffs") 708)]⟩ 0) ⟨[]⟩)
noncomputable def q250 (P : Params) : Obj := (@Obj.mk @Value.none none (PySem.Data.func (PySem.FuncData.mk (O "_ntt_multiplication") (O "PolynomialNTT._ntt_multiplication") gP47 (PySem.FuncBody.stmts gB47) gS47 0 [] @Value.none @Value.none @Value.none @Value.none none @Value.none @Value.none 0)) ⟨[]⟩)
noncomputable def q251 (P : Params) : Obj := (@Obj.mk (@Value.type "code") none (@Data.fields ⟨[(@Value.str (O "_ntt_multiplication") 703), (@Value.str (O "PolynomialNTT._ntt_multiplication") 704), (@Value.str (O "/claim/cut.py") 705), (@Value.int (256 : Int) 0), (@Value.int (2 : Int) 0), (@Value.int (0 : Int) 0), (@Value.int (0 : Int) 0), (@Value.int (3 : Int) 0), (.ref 398), (@Value.bool @Bool.true), (@Value.int (181 : Int) 0), (.ref 399), @Value.none, (.ref 400), (.ref 401), (.ref 402), (@Value.int (709 : Int) 0), (@Value.int (256 : Int) 0), (@Value.str (O "/claim/cut.py") 710)]⟩) ⟨[]⟩)
noncomputable def q252 (P : Params) : Obj := (@Obj.mk (@Value.type "function") none (PySem.Data.func (PySem.FuncData.mk (O "_ntt_multiplication") (O "PolynomialNTT._ntt_multiplication") gP47 (PySem.FuncBody.stmts gB47) gS47 3 [] @Value.none @Value.none @Value.none (@Value.str (O "kyber_py.polynomials.polynomials") 448) none (.ref 403) @Value.none 0)) ⟨[]⟩)
noncomputable def q253 (P : Params) : Obj := (@Obj.mk (@Value.type "tuple") none (@Data.seq ⟨[(@Value.str (O "self") 715), (@Value.str (O "other") 716), (@Value.str (O "new_coeffs") 717)]⟩ 0) ⟨[]⟩)
noncomputable def q254 (P : Params) : Obj := (@Obj.mk @Value.none none (PySem.Data.func (PySem.FuncData.mk (O "__add__") (O "PolynomialNTT.__add__") gP48 (PySem.FuncBody.stmts gB48) gS48 0 [] @Value.none @Value.none @Value.none @Value.none none @Value.none @Value.none 0)) ⟨[]⟩)
noncomputable def q255 (P : Params) : Obj := (@Obj.mk (@Value.type "code") none (@Data.fields ⟨[(@Value.str (O "__add__") 712), (@Value.str (O "PolynomialNTT.__add__") 713), (@Value.str (O "/claim/cut.py") 714), (@Value.int (260 : Int) 0), (@Value.int (2 : Int) 0), (@Value.int (0 : Int) 0), (@Value.int (0 : Int) 0), (@Value.int (3 : Int) 0), (.ref 405), (@Value.bool @Bool.true), (@Value.int (181 : Int) 0), (.ref 406), @Value.none, (.ref 407), (.ref 408), (.ref 409), (@Value.int (718 : Int) 0), (@Value.int (260 : Int) 0), (@Value.str (O "/claim/cut.py") 719)]⟩) ⟨[]⟩)
noncomputable def q256 (P : Params) : Obj := (@Obj.mk (@Value.type "function") none (PySem.Data.func (PySem.FuncData.mk (O "__add__") (O "PolynomialNTT.__add__") gP48 (PySem.FuncBody.stmts gB48) gS48 3 [] @Value.none @Value.none @Value.none (@Value.str (O "kyber_py.polynomials.polynomials") 448) none (.ref 410) @Value.none 0)) ⟨[]⟩)
noncomputable def q257 (P : Params) : Obj := (@Obj.mk (@Value.type "tuple") none (@Data.seq ⟨[(@Value.str (O "self") 724), (@Value.str (O "other") 725), (@Value.str (O "new_coeffs") 726)]⟩ 0) ⟨[]⟩)
noncomputable def q258 (P : Params) : Obj := (@Obj.mk @Value.none none (PySem.Data.func (PySem.FuncData.mk (O "__sub__") (O "PolynomialNTT.__sub__") gP49 (PySem.FuncBody.stmts gB49) gS49 0 [] @Value.none @Value.none @Value.none @Value.none none @Value.none @Value.none 0)) ⟨[]⟩)
noncomputable def q259 (P : Params) : Obj := (@Obj.mk (@Value.type "code") none (@Data.fields ⟨[(@Value.str (O "__sub__") 721), (@Value.str (O "PolynomialNTT.__sub__") 722), (@Value.str (O "/claim/cut.py") 723), (@Value.int (264 : Int) 0), (@Value.int (2 : Int) 0), (@Value.int (0 : Int) 0), (@Value.int (0 : Int) 0), (@Value.int (3 : Int) 0), (.ref 412), (@Value.bool @Bool.true), (@Value.int (181 : Int) 0), (.ref 413), @Value.none, (.ref 414), (.ref 415), (.ref 416), (@Value.int (727 : Int) 0), (@Value.int (264 : Int) 0), (@Value.str (O "/claim/cut.py") 728)]⟩) ⟨[]⟩)
noncomputable def q260 (P : Params) : Obj := (@Obj.mk (@Value.type "function") none (PySem.Data.func (PySem.FuncData.mk (O "__sub__") (O "PolynomialNTT.__sub__") gP49 (PySem.FuncBody.stmts gB49) gS49 3 [] @Value.none @Value.none @Value.none (@Value.str (O "kyber_py.polynomials.polynomials") 448) none (.ref 417) @Value.none 0)) ⟨[]⟩)
noncomputable def q261 (P : Params) : Obj := (@Obj.mk @Value.none none (PySem.Data.func (PySem.FuncData.mk (O "__mul__") (O "PolynomialNTT.__mul__") gP50 (PySem.FuncBody.stmts gB50) gS50 0 [] @Value.none @Value.none @Value.none @Value.none none @Value.none @Value.none 0)) ⟨[]⟩)
noncomputable def q262 (P : Params) : Obj := (@Obj.mk (@Value.type "code") none (@Data.fields ⟨[(@Value.str (O "__mul__") 730), (@Value.str (O "PolynomialNTT.__mul__") 731), (@Value.str (O "/claim/cut.py") 732), (@Value.int (268 : Int) 0), (@Value.int (2 : Int) 0), (@Value.int (0 : Int) 0), (@Value.int (0 : Int) 0), (@Value.int (3 : Int) 0), (.ref 419), (@Value.bool @Bool.true), (@Value.int (181 : Int) 0), (.ref 420), @Value.none, @Value.none, @Value.none, (.ref 421), (@Value.int (733 : Int) 0), (@Value.int (268 : Int) 0), (@Value.str (O "/claim/cut.py") 734)]⟩) ⟨[]⟩)
noncomputable def q263 (P : Params) : Obj := (@Obj.mk (@Value.type "function") none (PySem.Data.func (PySem.FuncData.mk (O "__mul__") (O "PolynomialNTT.__mul__") gP50 (PySem.FuncBody.stmts gB50) gS50 3 [] @Value.none @Value.none @Value.none (@Value.str (O "kyber_py.polynomials.polynomials") 448) none (.ref 422) @Value.none 0)) ⟨[]⟩)
noncomputable def q264 (P : Params) : Obj := (@Obj.mk (@Value.type "tuple") none (@Data.seq ⟨[(@Value.str (O "coeffs") 736), (@Value.str (O "parent") 737)]⟩ 0) ⟨[]⟩)
noncomputable def q265 (P : Params) : Obj := (@Obj.mk (@Value.type "dict") none (@Data.dict ⟨[(E P "__module__" 624 (@Value.str (O "kyber_py.polynomials.polynomials") 448)), (E P "__firstlineno__" 628 (@Value.int (209 : Int) 627)), (E P "__init__" 637 (.ref 366)), (E P "to_ntt" 644 (.ref 373)), (E P "from_ntt" 661 (.ref 380)), (E P "_ntt_base_multiplication" 686 (.ref 389)), (E P "_ntt_coefficient_multiplication" 702 (.ref 397)), (E P "_ntt_multiplication" 711 (.ref 404)), (E P "__add__" 720 (.ref 411)), (E P "__sub__" 729 (.ref 418)), (E P "__mul__" 735 (.ref 423)), (E P "__static_attributes__" 738 (.ref 424)), (E P "__doc__" 739 @Value.none)]⟩ 2) ⟨[]⟩)
noncomputable def q266 (P : Params) : Obj := (@Obj.mk (@Value.type "type") none (@Data.cls (@ClassData.mk (O "PolynomialNTT") [(.ref 350)] [(.ref 426), (.ref 350), (.ref 222), (@Value.type "object")] 425 (O "PolynomialNTT") @Bool.true [] [] @Bool.false none @Bool.false)) ⟨[(some (.ref 353)), none, (some (@Value.str (O "PolynomialNTT") 617)), (some (@Value.str (O "PolynomialNTT") 625)), (some (@Value.builtin "object.__new__")), (some (@Value.bool @Bool.true))]⟩)
noncomputable def q267 (P : Params) : Obj := (@Obj.mk (@Value.type "super") none (@Data.fields ⟨[(.ref 426), (.ref 426), (.ref 426)]⟩) ⟨[]⟩)
noncomputable def q268 (P : Params) : Obj := (@Obj.mk (@Value.type "builtin_function_or_method") none (@Data.fields ⟨[(@Value.builtin "object.__init_subclass__"), (.ref 426)]⟩) ⟨[]⟩)
noncomputable def q269 (P : Params) : Obj := (@Obj.mk (@Value.type "dict") none (@Data.dict ⟨[(E P "__name__" 165 (@Value.str (O "law_yi0042_01") 742)), (E P "__doc__" 166 @Value.none), (E P "__package__" 167 @Value.none), (E P "__loader__" 168 (@Value.builtin "__main__.__loader__#opaque")), (E P "__spec__" 169 @Value.none), (E P "__annotations__" 170 (.ref 6)), (E P "__builtins__" 171 (.ref 4)), (E P "__file__" 173 (@Value.str (O "/claim/cut.py") 172)), (E P "__cached__" 174 @Value.none), (E P "_wall" 193 (.ref 21)), (E P "GenericPolynomialRing" 248 (.ref 59)), (E P "GenericPolynomial" 447 (.ref 222)), (E P "PolynomialRing" 533 (.ref 282)), (E P "Polynomial" 616 (.ref 350)), (E P "PolynomialNTT" 741 (.ref 426)), (E P "_law_state" 749 (.ref 433)), (E P "_law_take" 761 (.ref 440)), (E P "_law_root" 770 (.ref 447)), (E P "_law_left" 783 (.ref 454)), (E P "law" 796 (.ref 461))]⟩ 20) ⟨[]⟩)
noncomputable def q270 (P : Params) : Obj := (@Obj.mk @Value.none none (@Data.fields ⟨[(@Value.int (1 : Int) 0), (@Value.int (0 : Int) 0), (.ref 20), (@Value.int (5 : Int) 0), (@Value.int (0 : Int) 0), (.ref 27), (@Value.int (23 : Int) 0), (@Value.int (0 : Int) 0), (.ref 69), (@Value.int (152 : Int) 0), (@Value.int (0 : Int) 0), (.ref 232), (@Value.int (183 : Int) 0), (@Value.int (0 : Int) 0), (.ref 290), (@Value.int (209 : Int) 0), (@Value.int (0 : Int) 0), (.ref 358), (@Value.int (277 : Int) 0), (@Value.int (0 : Int) 0), (.ref 432), (@Value.int (282 : Int) 0), (@Value.int (0 : Int) 0), (.ref 439), (@Value.int (293 : Int) 0), (@Value.int (0 : Int) 0), (.ref 446), (@Value.int (299 : Int) 0), (@Value.int (0 : Int) 0), (.ref 453), (@Value.int (308 : Int) 0), (@Value.int (0 : Int) 0), (.ref 460)]⟩) ⟨[]⟩)
noncomputable def q271 (P : Params) : Obj := (@Obj.mk @Value.none none (PySem.Data.func (PySem.FuncData.mk (O "_law_state") (O "_law_state") gP51 (PySem.FuncBody.stmts gB51) gS51 0 [] @Value.none @Value.none @Value.none @Value.none none @Value.none @Value.none 0)) ⟨[]⟩)
noncomputable def q272 (P : Params) : Obj := (@Obj.mk (@Value.type "code") none (@Data.fields ⟨[(@Value.str (O "_law_state") 744), (@Value.str (O "_law_state") 745), (@Value.str (O "/claim/cut.py") 746), (@Value.int (277 : Int) 0), (@Value.int (1 : Int) 0), (@Value.int (0 : Int) 0), (@Value.int (0 : Int) 0), (@Value.int (3 : Int) 0), (.ref 429), (@Value.bool @Bool.true), (@Value.int (181 : Int) 0), (.ref 430), @Value.none, @Value.none, @Value.none, (.ref 431), (@Value.int (747 : Int) 0), (@Value.int (277 : Int) 0), (@Value.str (O "/claim/cut.py") 748)]⟩) ⟨[]⟩)
noncomputable def q273 (P : Params) : Obj := (@Obj.mk (@Value.type "function") none (PySem.Data.func (PySem.FuncData.mk (O "_law_state") (O "_law_state") gP51 (PySem.FuncBody.stmts gB51) gS51 3 [] @Value.none @Value.none @Value.none (@Value.str (O "law_yi0042_01") 742) none (.ref 432) @Value.none 0)) ⟨[]⟩)
noncomputable def q274 (P : Params) : Obj := (@Obj.mk (@Value.type "tuple") none (@Data.seq ⟨[(@Value.str (O "state") 753), (@Value.str (O "most") 754), (@Value.str (O "cells") 755), (@Value.str (O "at") 756), (@Value.str (O "cell") 757), (@Value.str (O "mixed") 758)]⟩ 0) ⟨[]⟩)
noncomputable def q275 (P : Params) : Obj := (@Obj.mk @Value.none none (PySem.Data.func (PySem.FuncData.mk (O "_law_take") (O "_law_take") gP52 (PySem.FuncBody.stmts gB52) gS52 0 [] @Value.none @Value.none @Value.none @Value.none none @Value.none @Value.none 0)) ⟨[]⟩)
noncomputable def q276 (P : Params) : Obj := (@Obj.mk (@Value.type "code") none (@Data.fields ⟨[(@Value.str (O "_law_take") 750), (@Value.str (O "_law_take") 751), (@Value.str (O "/claim/cut.py") 752), (@Value.int (282 : Int) 0), (@Value.int (2 : Int) 0), (@Value.int (0 : Int) 0), (@Value.int (0 : Int) 0), (@Value.int (3 : Int) 0), (.ref 434), (@Value.bool @Bool.true), (@Value.int (181 : Int) 0), (.ref 435), @Value.none, (.ref 436), (.ref 437), (.ref 438), (@Value.int (759 : Int) 0), (@Value.int (282 : Int) 0), (@Value.str (O "/claim/cut.py") 760)]⟩) ⟨[]⟩)
noncomputable def q277 (P : Params) : Obj := (@Obj.mk (@Value.type "function") none (PySem.Data.func (PySem.FuncData.mk (O "_law_take") (O "_law_take") gP52 (PySem.FuncBody.stmts gB52) gS52 3 [] @Value.none @Value.none @Value.none (@Value.str (O "law_yi0042_01") 742) none (.ref 439) @Value.none 0)) ⟨[]⟩)
noncomputable def q278 (P : Params) : Obj := (@Obj.mk (@Value.type "tuple") none (@Data.seq ⟨[(@Value.str (O "place") 765), (@Value.str (O "turned") 766), (@Value.str (O "k") 767)]⟩ 0) ⟨[]⟩)
noncomputable def q279 (P : Params) : Obj := (@Obj.mk @Value.none none (PySem.Data.func (PySem.FuncData.mk (O "_law_root") (O "_law_root") gP53 (PySem.FuncBody.stmts gB53) gS53 0 [] @Value.none @Value.none @Value.none @Value.none none @Value.none @Value.none 0)) ⟨[]⟩)
noncomputable def q280 (P : Params) : Obj := (@Obj.mk (@Value.type "code") none (@Data.fields ⟨[(@Value.str (O "_law_root") 762), (@Value.str (O "_law_root") 763), (@Value.str (O "/claim/cut.py") 764), (@Value.int (293 : Int) 0), (@Value.int (1 : Int) 0), (@Value.int (0 : Int) 0), (@Value.int (0 : Int) 0), (@Value.int (3 : Int) 0), (.ref 441), (@Value.bool @Bool.true), (@Value.int (181 : Int) 0), (.ref 442), @Value.none, (.ref 443), (.ref 444), (.ref 445), (@Value.int (768 : Int) 0), (@Value.int (293 : Int) 0), (@Value.str (O "/claim/cut.py") 769)]⟩) ⟨[]⟩)
noncomputable def q281 (P : Params) : Obj := (@Obj.mk (@Value.type "function") none (PySem.Data.func (PySem.FuncData.mk (O "_law_root") (O "_law_root") gP53 (PySem.FuncBody.stmts gB53) gS53 3 [] @Value.none @Value.none @Value.none (@Value.str (O "law_yi0042_01") 742) none (.ref 446) @Value.none 0)) ⟨[]⟩)
noncomputable def q282 (P : Params) : Obj := (@Obj.mk (@Value.type "tuple") none (@Data.seq ⟨[(@Value.str (O "row") 774), (@Value.str (O "place") 775), (@Value.str (O "root") 776), (@Value.str (O "pair") 777), (@Value.str (O "part") 778), (@Value.str (O "total") 779), (@Value.str (O "number") 780)]⟩ 0) ⟨[]⟩)
noncomputable def q283 (P : Params) : Obj := (@Obj.mk @Value.none none (PySem.Data.func (PySem.FuncData.mk (O "_law_left") (O "_law_left") gP54 (PySem.FuncBody.stmts gB54) gS54 0 [] @Value.none @Value.none @Value.none @Value.none none @Value.none @Value.none 0)) ⟨[]⟩)
noncomputable def q284 (P : Params) : Obj := (@Obj.mk (@Value.type "code") none (@Data.fields ⟨[(@Value.str (O "_law_left") 771), (@Value.str (O "_law_left") 772), (@Value.str (O "/claim/cut.py") 773), (@Value.int (299 : Int) 0), (@Value.int (2 : Int) 0), (@Value.int (0 : Int) 0), (@Value.int (0 : Int) 0), (@Value.int (3 : Int) 0), (.ref 448), (@Value.bool @Bool.true), (@Value.int (181 : Int) 0), (.ref 449), @Value.none, (.ref 450), (.ref 451), (.ref 452), (@Value.int (781 : Int) 0), (@Value.int (299 : Int) 0), (@Value.str (O "/claim/cut.py") 782)]⟩) ⟨[]⟩)
noncomputable def q285 (P : Params) : Obj := (@Obj.mk (@Value.type "function") none (PySem.Data.func (PySem.FuncData.mk (O "_law_left") (O "_law_left") gP54 (PySem.FuncBody.stmts gB54) gS54 3 [] @Value.none @Value.none @Value.none (@Value.str (O "law_yi0042_01") 742) none (.ref 453) @Value.none 0)) ⟨[]⟩)
noncomputable def q286 (P : Params) : Obj := (@Obj.mk (@Value.type "tuple") none (@Data.seq ⟨[(@Value.str (O "script") 787), (@Value.str (O "state") 788), (@Value.str (O "row") 789), (@Value.str (O "at") 790), (@Value.str (O "k") 791), (@Value.str (O "told") 792), (@Value.str (O "place") 793)]⟩ 0) ⟨[]⟩)
noncomputable def q287 (P : Params) : Obj := (@Obj.mk @Value.none none (PySem.Data.func (PySem.FuncData.mk (O "law") (O "law") gP55 (PySem.FuncBody.stmts gB55) gS55 0 [] @Value.none @Value.none @Value.none @Value.none none @Value.none @Value.none 0)) ⟨[]⟩)
noncomputable def q288 (P : Params) : Obj := (@Obj.mk (@Value.type "code") none (@Data.fields ⟨[(@Value.str (O "law") 784), (@Value.str (O "law") 785), (@Value.str (O "/claim/cut.py") 786), (@Value.int (308 : Int) 0), (@Value.int (1 : Int) 0), (@Value.int (0 : Int) 0), (@Value.int (0 : Int) 0), (@Value.int (3 : Int) 0), (.ref 455), (@Value.bool @Bool.true), (@Value.int (181 : Int) 0), (.ref 456), @Value.none, (.ref 457), (.ref 458), (.ref 459), (@Value.int (794 : Int) 0), (@Value.int (308 : Int) 0), (@Value.str (O "/claim/cut.py") 795)]⟩) ⟨[]⟩)
noncomputable def q289 (P : Params) : Obj := (@Obj.mk (@Value.type "function") none (PySem.Data.func (PySem.FuncData.mk (O "law") (O "law") gP55 (PySem.FuncBody.stmts gB55) gS55 3 [] @Value.none @Value.none @Value.none (@Value.str (O "law_yi0042_01") 742) none (.ref 460) @Value.none 0)) ⟨[]⟩)
noncomputable def tA (P : Params) : BT := (.node (boot_o_0 P) (.node (boot_o_1 P) (.node (boot_o_3 P) (.node (boot_o_7 P) .nil .nil) (.node (boot_o_7 P) .nil .nil)) (.node (boot_o_5 P) (.node (boot_o_9 P) .nil .nil) (.node (q0 P) .nil .nil))) (.node (boot_o_2 P) (.node (boot_o_4 P) (.node (boot_o_8 P) .nil .nil) (.node (boot_o_8 P) .nil .nil)) (.node (boot_o_6 P) (.node (boot_o_10 P) .nil .nil) (.node (q1 P) .nil .nil))))
noncomputable def dA : Drawn := (@Drawn.mk 0 0 0 0)
noncomputable def lA : Life := (@Life.mk [] [] [] 0 [] [] @Bool.false ⟨[]⟩ [] 0 @Bool.false @Bool.false @Bool.false (0 : Int) [(2000 : Int), (10 : Int), (10 : Int)] @Bool.false 0 @Bool.true [] [] 0 @Bool.false)
noncomputable def hA (P : Params) : Heap := ⟨⟨[boot_o_0 P, boot_o_1 P, boot_o_2 P, boot_o_3 P, boot_o_4 P, boot_o_5 P, boot_o_6 P, boot_o_7 P, boot_o_8 P, boot_o_9 P, boot_o_10 P, boot_o_7 P, boot_o_8 P, q0 P, q1 P]⟩, lA⟩
noncomputable def tB (P : Params) : BT := (.node (boot_o_0 P) (.node (boot_o_1 P) (.node (boot_o_3 P) (.node (boot_o_7 P) .nil .nil) (.node (boot_o_7 P) .nil .nil)) (.node (boot_o_5 P) (.node (boot_o_9 P) .nil .nil) (.node (q0 P) .nil .nil))) (.node (boot_o_2 P) (.node (boot_o_4 P) (.node (boot_o_8 P) .nil .nil) (.node (boot_o_8 P) .nil .nil)) (.node (boot_o_6 P) (.node (boot_o_10 P) .nil .nil) (.node (q1 P) .nil .nil))))
noncomputable def dB : Drawn := (@Drawn.mk 0 0 0 0)
noncomputable def lB : Life := (@Life.mk [] [] [] 0 [] [] @Bool.false ⟨[]⟩ [] 0 @Bool.false @Bool.false @Bool.false (0 : Int) [(2000 : Int), (10 : Int), (10 : Int)] @Bool.false 0 @Bool.true [] [] 0 @Bool.false)
noncomputable def t0 (P : Params) : BT := (.node (boot_o_0 P) (.node (boot_o_1 P) (.node (q2 P) (.node (boot_o_7 P) (.node (boot_o_7 P) (.node (q13 P) (.node (q35 P) .nil .nil) .nil) (.node (q22 P) .nil .nil)) (.node (q8 P) (.node (boot_o_7 P) .nil .nil) (.node (q27 P) .nil .nil))) (.node (boot_o_7 P) (.node (q5 P) (.node (q16 P) .nil .nil) (.node (boot_o_8 P) .nil .nil)) (.node (q11 P) (.node (boot_o_7 P) .nil .nil) (.node (q31 P) .nil .nil)))) (.node (boot_o_5 P) (.node (boot_o_9 P) (.node (q4 P) (.node (q14 P) .nil .nil) (.node (q24 P) .nil .nil)) (.node (boot_o_7 P) (.node (q19 P) .nil .nil) (.node (q29 P) .nil .nil))) (.node (q0 P) (.node (q7 P) (.node (boot_o_8 P) .nil .nil) (.node (boot_o_7 P) .nil .nil)) (.node (boot_o_7 P) (.node (q21 P) .nil .nil) (.node (q33 P) .nil .nil))))) (.node (boot_o_2 P) (.node (boot_o_4 P) (.node (boot_o_8 P) (.node (boot_o_8 P) (.node (boot_o_7 P) .nil .nil) (.node (q23 P) .nil .nil)) (.node (q9 P) (.node (q18 P) .nil .nil) (.node (q28 P) .nil .nil))) (.node (q3 P) (.node (q6 P) (.node (boot_o_7 P) .nil .nil) (.node (q25 P) .nil .nil)) (.node (q12 P) (.node (boot_o_8 P) .nil .nil) (.node (q32 P) .nil .nil)))) (.node (boot_o_6 P) (.node (boot_o_10 P) (.node (boot_o_7 P) (.node (q15 P) .nil .nil) (.node (boot_o_7 P) .nil .nil)) (.node (q10 P) (.node (q20 P) .nil .nil) (.node (q30 P) .nil .nil))) (.node (q1 P) (.node (boot_o_7 P) (.node (q17 P) .nil .nil) (.node (q26 P) .nil .nil)) (.node (boot_o_8 P) (.node (boot_o_7 P) .nil .nil) (.node (q34 P) .nil .nil))))))
noncomputable def d0 : Drawn := (@Drawn.mk 0 0 0 0)
noncomputable def l0 : Life := (@Life.mk [] [] [] 0 [] [] @Bool.false ⟨[]⟩ [] 0 @Bool.false @Bool.false @Bool.false (0 : Int) [(2000 : Int), (10 : Int), (10 : Int)] @Bool.false 0 @Bool.true [] [] 0 @Bool.false)
noncomputable def t1 (P : Params) : BT := (.node (boot_o_0 P) (.node (boot_o_1 P) (.node (q36 P) (.node (boot_o_7 P) (.node (boot_o_7 P) (.node (q13 P) (.node (q35 P) (.node (q74 P) .nil .nil) (.node (q111 P) .nil .nil)) (.node (q55 P) (.node (boot_o_7 P) .nil .nil) (.node (q131 P) .nil .nil))) (.node (q22 P) (.node (boot_o_8 P) (.node (boot_o_7 P) .nil .nil) (.node (boot_o_8 P) .nil .nil)) (.node (boot_o_7 P) (.node (q101 P) .nil .nil) .nil))) (.node (q8 P) (.node (boot_o_7 P) (.node (boot_o_7 P) (.node (q78 P) .nil .nil) (.node (boot_o_7 P) .nil .nil)) (.node (q60 P) (.node (boot_o_8 P) .nil .nil) .nil)) (.node (q27 P) (.node (q50 P) (.node (q87 P) .nil .nil) (.node (q124 P) .nil .nil)) (.node (boot_o_8 P) (.node (q106 P) .nil .nil) .nil)))) (.node (boot_o_7 P) (.node (q5 P) (.node (q16 P) (.node (boot_o_7 P) (.node (q76 P) .nil .nil) (.node (boot_o_7 P) .nil .nil)) (.node (q57 P) (.node (q94 P) .nil .nil) .nil)) (.node (boot_o_8 P) (.node (q48 P) (.node (boot_o_7 P) .nil .nil) (.node (q122 P) .nil .nil)) (.node (q66 P) (.node (q104 P) .nil .nil) .nil))) (.node (q11 P) (.node (boot_o_7 P) (.node (q43 P) (.node (q81 P) .nil .nil) (.node (q117 P) .nil .nil)) (.node (boot_o_7 P) (.node (q99 P) .nil .nil) .nil)) (.node (q31 P) (.node (q53 P) (.node (boot_o_8 P) .nil .nil) (.node (q127 P) .nil .nil)) (.node (boot_o_7 P) (.node (q108 P) .nil .nil) .nil))))) (.node (boot_o_5 P) (.node (boot_o_9 P) (.node (q4 P) (.node (q14 P) (.node (q8 P) (.node (boot_o_8 P) .nil .nil) (.node (boot_o_8 P) .nil .nil)) (.node (boot_o_7 P) (.node (q93 P) .nil .nil) (.node (q133 P) .nil .nil))) (.node (q24 P) (.node (boot_o_7 P) (.node (q84 P) .nil .nil) (.node (boot_o_7 P) .nil .nil)) (.node (q65 P) (.node (q102 P) .nil .nil) .nil))) (.node (boot_o_7 P) (.node (q19 P) (.node (q42 P) (.node (q79 P) .nil .nil) (.node (q116 P) .nil .nil)) (.node (boot_o_8 P) (.node (boot_o_7 P) .nil .nil) .nil)) (.node (q29 P) (.node (q51 P) (.node (q89 P) .nil .nil) (.node (q125 P) .nil .nil)) (.node (q70 P) (.node (boot_o_7 P) .nil .nil) .nil)))) (.node (q0 P) (.node (q7 P) (.node (boot_o_8 P) (.node (q40 P) (.node (boot_o_7 P) .nil .nil) (.node (q114 P) .nil .nil)) (.node (q58 P) (.node (q96 P) .nil .nil) .nil)) (.node (boot_o_7 P) (.node (boot_o_7 P) (.node (q86 P) .nil .nil) (.node (boot_o_7 P) .nil .nil)) (.node (q68 P) (.node (boot_o_8 P) .nil .nil) .nil))) (.node (boot_o_7 P) (.node (q21 P) (.node (q45 P) (.node (boot_o_8 P) .nil .nil) (.node (q119 P) .nil .nil)) (.node (q63 P) (.node (boot_o_7 P) .nil .nil) .nil)) (.node (q33 P) (.node (boot_o_8 P) (.node (q91 P) .nil .nil) (.node (q129 P) .nil .nil)) (.node (q72 P) (.node (q109 P) .nil .nil) .nil)))))) (.node (boot_o_2 P) (.node (boot_o_4 P) (.node (boot_o_8 P) (.node (boot_o_8 P) (.node (boot_o_7 P) (.node (boot_o_7 P) (.node (boot_o_7 P) .nil .nil) (.node (boot_o_7 P) .nil .nil)) (.node (q56 P) (.node (boot_o_8 P) .nil .nil) (.node (q132 P) .nil .nil))) (.node (q23 P) (.node (q46 P) (.node (q83 P) .nil .nil) (.node (q120 P) .nil .nil)) (.node (boot_o_8 P) (.node (boot_o_7 P) .nil .nil) .nil))) (.node (q9 P) (.node (q18 P) (.node (boot_o_8 P) (.node (boot_o_7 P) .nil .nil) (.node (boot_o_8 P) .nil .nil)) (.node (boot_o_7 P) (.node (q97 P) .nil .nil) .nil)) (.node (q28 P) (.node (boot_o_7 P) (.node (q88 P) .nil .nil) (.node (boot_o_7 P) .nil .nil)) (.node (q69 P) (.node (q107 P) .nil .nil) .nil)))) (.node (q37 P) (.node (q6 P) (.node (boot_o_7 P) (.node (q39 P) (.node (q77 P) .nil .nil) (.node (q113 P) .nil .nil)) (.node (boot_o_7 P) (.node (q95 P) .nil .nil) .nil)) (.node (q25 P) (.node (q49 P) (.node (boot_o_8 P) .nil .nil) (.node (q123 P) .nil .nil)) (.node (q67 P) (.node (boot_o_7 P) .nil .nil) .nil))) (.node (q12 P) (.node (boot_o_8 P) (.node (q44 P) (.node (boot_o_7 P) .nil .nil) (.node (q118 P) .nil .nil)) (.node (q62 P) (.node (q100 P) .nil .nil) .nil)) (.node (q32 P) (.node (boot_o_7 P) (.node (q90 P) .nil .nil) (.node (q128 P) .nil .nil)) (.node (boot_o_8 P) (.node (boot_o_7 P) .nil .nil) .nil))))) (.node (boot_o_6 P) (.node (boot_o_10 P) (.node (boot_o_7 P) (.node (q15 P) (.node (q38 P) (.node (q75 P) .nil .nil) (.node (q112 P) .nil .nil)) (.node (boot_o_8 P) (.node (boot_o_7 P) .nil .nil) (.node (q134 P) .nil .nil))) (.node (boot_o_7 P) (.node (q47 P) (.node (q85 P) .nil .nil) (.node (q121 P) .nil .nil)) (.node (boot_o_7 P) (.node (q103 P) .nil .nil) .nil))) (.node (q10 P) (.node (q20 P) (.node (boot_o_7 P) (.node (q80 P) .nil .nil) (.node (boot_o_7 P) .nil .nil)) (.node (q61 P) (.node (q98 P) .nil .nil) .nil)) (.node (q30 P) (.node (q52 P) (.node (boot_o_7 P) .nil .nil) (.node (q126 P) .nil .nil)) (.node (q71 P) (.node (boot_o_8 P) .nil .nil) .nil)))) (.node (q1 P) (.node (boot_o_7 P) (.node (q17 P) (.node (q41 P) (.node (boot_o_8 P) .nil .nil) (.node (q115 P) .nil .nil)) (.node (q59 P) (.node (boot_o_7 P) .nil .nil) .nil)) (.node (q26 P) (.node (boot_o_8 P) (.node (boot_o_7 P) .nil .nil) (.node (boot_o_8 P) .nil .nil)) (.node (boot_o_7 P) (.node (q105 P) .nil .nil) .nil))) (.node (boot_o_8 P) (.node (boot_o_7 P) (.node (boot_o_7 P) (.node (q82 P) .nil .nil) (.node (boot_o_7 P) .nil .nil)) (.node (q64 P) (.node (boot_o_8 P) .nil .nil) .nil)) (.node (q34 P) (.node (q54 P) (.node (q92 P) .nil .nil) (.node (q130 P) .nil .nil)) (.node (q73 P) (.node (q110 P) .nil .nil) .nil)))))))
noncomputable def d1 : Drawn := (@Drawn.mk 0 0 0 0)
noncomputable def l1 : Life := (@Life.mk [] [] [] 0 [] [] @Bool.false ⟨[]⟩ [] 0 @Bool.false @Bool.false @Bool.false (0 : Int) [(2000 : Int), (10 : Int), (10 : Int)] @Bool.false 0 @Bool.true [] [] 0 @Bool.false)
noncomputable def t2 (P : Params) : BT := (.node (boot_o_0 P) (.node (boot_o_1 P) (.node (q135 P) (.node (boot_o_7 P) (.node (boot_o_7 P) (.node (q13 P) (.node (q35 P) (.node (q74 P) (.node (q155 P) .nil .nil) .nil) (.node (q111 P) .nil .nil)) (.node (q55 P) (.node (boot_o_7 P) .nil .nil) (.node (q131 P) .nil .nil))) (.node (q22 P) (.node (boot_o_8 P) (.node (boot_o_7 P) (.node (q164 P) .nil .nil) .nil) (.node (boot_o_8 P) .nil .nil)) (.node (boot_o_7 P) (.node (q101 P) .nil .nil) (.node (boot_o_7 P) .nil .nil)))) (.node (q8 P) (.node (boot_o_7 P) (.node (boot_o_7 P) (.node (q78 P) (.node (q160 P) .nil .nil) .nil) (.node (boot_o_7 P) .nil .nil)) (.node (q60 P) (.node (boot_o_8 P) .nil .nil) (.node (q140 P) .nil .nil))) (.node (q27 P) (.node (q50 P) (.node (q87 P) (.node (q168 P) .nil .nil) .nil) (.node (q124 P) .nil .nil)) (.node (boot_o_8 P) (.node (q106 P) .nil .nil) (.node (q151 P) .nil .nil))))) (.node (boot_o_7 P) (.node (q5 P) (.node (q16 P) (.node (boot_o_7 P) (.node (q76 P) (.node (q157 P) .nil .nil) .nil) (.node (boot_o_7 P) .nil .nil)) (.node (q57 P) (.node (q94 P) .nil .nil) (.node (q138 P) .nil .nil))) (.node (boot_o_8 P) (.node (q48 P) (.node (boot_o_7 P) (.node (q165 P) .nil .nil) .nil) (.node (q122 P) .nil .nil)) (.node (q66 P) (.node (q104 P) .nil .nil) (.node (q147 P) .nil .nil)))) (.node (q11 P) (.node (boot_o_7 P) (.node (q43 P) (.node (q81 P) (.node (q161 P) .nil .nil) .nil) (.node (q117 P) .nil .nil)) (.node (boot_o_7 P) (.node (q99 P) .nil .nil) (.node (boot_o_8 P) .nil .nil))) (.node (q137 P) (.node (q53 P) (.node (boot_o_8 P) (.node (q172 P) .nil .nil) .nil) (.node (q127 P) .nil .nil)) (.node (boot_o_7 P) (.node (q108 P) .nil .nil) (.node (q152 P) .nil .nil)))))) (.node (boot_o_5 P) (.node (boot_o_9 P) (.node (q4 P) (.node (q14 P) (.node (q8 P) (.node (boot_o_8 P) (.node (boot_o_7 P) .nil .nil) .nil) (.node (boot_o_8 P) .nil .nil)) (.node (boot_o_7 P) (.node (q93 P) .nil .nil) (.node (q133 P) .nil .nil))) (.node (q24 P) (.node (boot_o_7 P) (.node (q84 P) (.node (boot_o_7 P) .nil .nil) .nil) (.node (boot_o_7 P) .nil .nil)) (.node (q65 P) (.node (q102 P) .nil .nil) (.node (q146 P) .nil .nil)))) (.node (boot_o_7 P) (.node (q19 P) (.node (q42 P) (.node (q79 P) (.node (boot_o_7 P) .nil .nil) .nil) (.node (q116 P) .nil .nil)) (.node (boot_o_8 P) (.node (boot_o_7 P) .nil .nil) (.node (q142 P) .nil .nil))) (.node (q29 P) (.node (q51 P) (.node (q89 P) (.node (q170 P) .nil .nil) .nil) (.node (q125 P) .nil .nil)) (.node (q70 P) (.node (boot_o_7 P) .nil .nil) (.node (boot_o_7 P) .nil .nil))))) (.node (q0 P) (.node (q7 P) (.node (boot_o_8 P) (.node (q40 P) (.node (boot_o_7 P) (.node (q158 P) .nil .nil) .nil) (.node (q114 P) .nil .nil)) (.node (q58 P) (.node (q96 P) .nil .nil) (.node (q139 P) .nil .nil))) (.node (boot_o_7 P) (.node (boot_o_7 P) (.node (q86 P) (.node (q166 P) .nil .nil) .nil) (.node (boot_o_7 P) .nil .nil)) (.node (q68 P) (.node (boot_o_8 P) .nil .nil) (.node (q149 P) .nil .nil)))) (.node (boot_o_7 P) (.node (q21 P) (.node (q45 P) (.node (boot_o_8 P) (.node (q162 P) .nil .nil) .nil) (.node (q119 P) .nil .nil)) (.node (q63 P) (.node (boot_o_7 P) .nil .nil) (.node (q144 P) .nil .nil))) (.node (q33 P) (.node (boot_o_8 P) (.node (q91 P) .nil .nil) (.node (q129 P) .nil .nil)) (.node (q72 P) (.node (q109 P) .nil .nil) (.node (q153 P) .nil .nil))))))) (.node (boot_o_2 P) (.node (boot_o_4 P) (.node (boot_o_8 P) (.node (boot_o_8 P) (.node (boot_o_7 P) (.node (boot_o_7 P) (.node (boot_o_7 P) (.node (q156 P) .nil .nil) .nil) (.node (boot_o_7 P) .nil .nil)) (.node (q56 P) (.node (boot_o_8 P) .nil .nil) (.node (q132 P) .nil .nil))) (.node (q23 P) (.node (q46 P) (.node (q83 P) (.node (q156 P) .nil .nil) .nil) (.node (q120 P) .nil .nil)) (.node (boot_o_8 P) (.node (boot_o_7 P) .nil .nil) (.node (boot_o_8 P) .nil .nil)))) (.node (q9 P) (.node (q18 P) (.node (boot_o_8 P) (.node (boot_o_7 P) (.node (q156 P) .nil .nil) .nil) (.node (boot_o_8 P) .nil .nil)) (.node (boot_o_7 P) (.node (q97 P) .nil .nil) (.node (q141 P) .nil .nil))) (.node (q28 P) (.node (boot_o_7 P) (.node (q88 P) (.node (q169 P) .nil .nil) .nil) (.node (boot_o_7 P) .nil .nil)) (.node (q69 P) (.node (q107 P) .nil .nil) (.node (boot_o_6 P) .nil .nil))))) (.node (q136 P) (.node (q6 P) (.node (boot_o_7 P) (.node (q39 P) (.node (q77 P) (.node (boot_o_7 P) .nil .nil) .nil) (.node (q113 P) .nil .nil)) (.node (boot_o_7 P) (.node (q95 P) .nil .nil) (.node (q8 P) .nil .nil))) (.node (q25 P) (.node (q49 P) (.node (boot_o_8 P) (.node (boot_o_7 P) .nil .nil) .nil) (.node (q123 P) .nil .nil)) (.node (q67 P) (.node (boot_o_7 P) .nil .nil) (.node (q148 P) .nil .nil)))) (.node (q12 P) (.node (boot_o_8 P) (.node (q44 P) (.node (boot_o_7 P) (.node (boot_o_7 P) .nil .nil) .nil) (.node (q118 P) .nil .nil)) (.node (q62 P) (.node (q100 P) .nil .nil) (.node (q143 P) .nil .nil))) (.node (q32 P) (.node (boot_o_7 P) (.node (q90 P) (.node (q173 P) .nil .nil) .nil) (.node (q128 P) .nil .nil)) (.node (boot_o_8 P) (.node (boot_o_7 P) .nil .nil) (.node (boot_o_7 P) .nil .nil)))))) (.node (boot_o_6 P) (.node (boot_o_10 P) (.node (boot_o_7 P) (.node (q15 P) (.node (q38 P) (.node (q75 P) (.node (boot_o_8 P) .nil .nil) .nil) (.node (q112 P) .nil .nil)) (.node (boot_o_8 P) (.node (boot_o_7 P) .nil .nil) (.node (q134 P) .nil .nil))) (.node (boot_o_7 P) (.node (q47 P) (.node (q85 P) (.node (boot_o_8 P) .nil .nil) .nil) (.node (q121 P) .nil .nil)) (.node (boot_o_7 P) (.node (q103 P) .nil .nil) (.node (boot_o_7 P) .nil .nil)))) (.node (q10 P) (.node (q20 P) (.node (boot_o_7 P) (.node (q80 P) (.node (boot_o_8 P) .nil .nil) .nil) (.node (boot_o_7 P) .nil .nil)) (.node (q61 P) (.node (q98 P) .nil .nil) (.node (boot_o_7 P) .nil .nil))) (.node (q30 P) (.node (q52 P) (.node (boot_o_7 P) (.node (q171 P) .nil .nil) .nil) (.node (q126 P) .nil .nil)) (.node (q71 P) (.node (boot_o_8 P) .nil .nil) (.node (boot_o_8 P) .nil .nil))))) (.node (q1 P) (.node (boot_o_7 P) (.node (q17 P) (.node (q41 P) (.node (boot_o_8 P) (.node (q159 P) .nil .nil) .nil) (.node (q115 P) .nil .nil)) (.node (q59 P) (.node (boot_o_7 P) .nil .nil) (.node (boot_o_7 P) .nil .nil))) (.node (q26 P) (.node (boot_o_8 P) (.node (boot_o_7 P) (.node (q167 P) .nil .nil) .nil) (.node (boot_o_8 P) .nil .nil)) (.node (boot_o_7 P) (.node (q105 P) .nil .nil) (.node (q150 P) .nil .nil)))) (.node (boot_o_8 P) (.node (boot_o_7 P) (.node (boot_o_7 P) (.node (q82 P) (.node (q163 P) .nil .nil) .nil) (.node (boot_o_7 P) .nil .nil)) (.node (q64 P) (.node (boot_o_8 P) .nil .nil) (.node (q145 P) .nil .nil))) (.node (q34 P) (.node (q54 P) (.node (q92 P) .nil .nil) (.node (q130 P) .nil .nil)) (.node (q73 P) (.node (q110 P) .nil .nil) (.node (q154 P) .nil .nil))))))))
noncomputable def d2 : Drawn := (@Drawn.mk 0 0 0 0)
noncomputable def l2 : Life := (@Life.mk [] [] [] 0 [] [] @Bool.false ⟨[]⟩ [] 0 @Bool.false @Bool.false @Bool.false (0 : Int) [(2000 : Int), (10 : Int), (10 : Int)] @Bool.false 0 @Bool.true [] [] 0 @Bool.false)
noncomputable def t3 (P : Params) : BT := (.node (boot_o_0 P) (.node (boot_o_1 P) (.node (q174 P) (.node (boot_o_7 P) (.node (boot_o_7 P) (.node (q13 P) (.node (q35 P) (.node (q74 P) (.node (q155 P) .nil .nil) .nil) (.node (q111 P) (.node (q197 P) .nil .nil) .nil)) (.node (q55 P) (.node (boot_o_7 P) (.node (q178 P) .nil .nil) .nil) (.node (q131 P) (.node (q217 P) .nil .nil) .nil))) (.node (q22 P) (.node (boot_o_8 P) (.node (boot_o_7 P) (.node (q164 P) .nil .nil) .nil) (.node (boot_o_8 P) (.node (boot_o_8 P) .nil .nil) .nil)) (.node (boot_o_7 P) (.node (q101 P) (.node (q187 P) .nil .nil) .nil) (.node (boot_o_7 P) .nil .nil)))) (.node (q8 P) (.node (boot_o_7 P) (.node (boot_o_7 P) (.node (q78 P) (.node (q160 P) .nil .nil) .nil) (.node (boot_o_7 P) (.node (boot_o_7 P) .nil .nil) .nil)) (.node (q60 P) (.node (boot_o_8 P) (.node (boot_o_7 P) .nil .nil) .nil) (.node (q140 P) .nil .nil))) (.node (q27 P) (.node (q50 P) (.node (q87 P) (.node (q168 P) .nil .nil) .nil) (.node (q124 P) (.node (q210 P) .nil .nil) .nil)) (.node (boot_o_8 P) (.node (q106 P) (.node (q192 P) .nil .nil) .nil) (.node (q151 P) .nil .nil))))) (.node (boot_o_7 P) (.node (q5 P) (.node (q16 P) (.node (boot_o_7 P) (.node (q76 P) (.node (q157 P) .nil .nil) .nil) (.node (boot_o_7 P) (.node (boot_o_7 P) .nil .nil) .nil)) (.node (q57 P) (.node (q94 P) (.node (q181 P) .nil .nil) .nil) (.node (q138 P) .nil .nil))) (.node (boot_o_8 P) (.node (q48 P) (.node (boot_o_7 P) (.node (q165 P) .nil .nil) .nil) (.node (q122 P) (.node (q208 P) .nil .nil) .nil)) (.node (q66 P) (.node (q104 P) (.node (boot_o_8 P) .nil .nil) .nil) (.node (q147 P) .nil .nil)))) (.node (q11 P) (.node (boot_o_7 P) (.node (q43 P) (.node (q81 P) (.node (q161 P) .nil .nil) .nil) (.node (q117 P) (.node (q203 P) .nil .nil) .nil)) (.node (boot_o_7 P) (.node (q99 P) (.node (boot_o_7 P) .nil .nil) .nil) (.node (boot_o_8 P) .nil .nil))) (.node (q137 P) (.node (q53 P) (.node (boot_o_8 P) (.node (q172 P) .nil .nil) .nil) (.node (q127 P) (.node (q213 P) .nil .nil) .nil)) (.node (boot_o_7 P) (.node (q108 P) (.node (q194 P) .nil .nil) .nil) (.node (q152 P) .nil .nil)))))) (.node (boot_o_5 P) (.node (boot_o_9 P) (.node (q4 P) (.node (q14 P) (.node (q8 P) (.node (boot_o_8 P) (.node (boot_o_7 P) .nil .nil) .nil) (.node (boot_o_8 P) (.node (boot_o_8 P) .nil .nil) .nil)) (.node (boot_o_7 P) (.node (q93 P) (.node (q179 P) .nil .nil) .nil) (.node (q133 P) .nil .nil))) (.node (q24 P) (.node (boot_o_7 P) (.node (q84 P) (.node (boot_o_7 P) .nil .nil) .nil) (.node (boot_o_7 P) (.node (boot_o_7 P) .nil .nil) .nil)) (.node (q65 P) (.node (q102 P) (.node (q189 P) .nil .nil) .nil) (.node (q146 P) .nil .nil)))) (.node (boot_o_7 P) (.node (q19 P) (.node (q42 P) (.node (q79 P) (.node (boot_o_7 P) .nil .nil) .nil) (.node (q116 P) (.node (q202 P) .nil .nil) .nil)) (.node (boot_o_8 P) (.node (boot_o_7 P) (.node (q184 P) .nil .nil) .nil) (.node (q142 P) .nil .nil))) (.node (q29 P) (.node (q51 P) (.node (q89 P) (.node (q170 P) .nil .nil) .nil) (.node (q125 P) (.node (q211 P) .nil .nil) .nil)) (.node (q70 P) (.node (boot_o_7 P) (.node (boot_o_7 P) .nil .nil) .nil) (.node (boot_o_7 P) .nil .nil))))) (.node (q0 P) (.node (q7 P) (.node (boot_o_8 P) (.node (q40 P) (.node (boot_o_7 P) (.node (q158 P) .nil .nil) .nil) (.node (q114 P) (.node (q200 P) .nil .nil) .nil)) (.node (q58 P) (.node (q96 P) (.node (boot_o_8 P) .nil .nil) .nil) (.node (q139 P) .nil .nil))) (.node (boot_o_7 P) (.node (boot_o_7 P) (.node (q86 P) (.node (q166 P) .nil .nil) .nil) (.node (boot_o_7 P) (.node (boot_o_7 P) .nil .nil) .nil)) (.node (q68 P) (.node (boot_o_8 P) (.node (boot_o_7 P) .nil .nil) .nil) (.node (q149 P) .nil .nil)))) (.node (boot_o_7 P) (.node (q21 P) (.node (q45 P) (.node (boot_o_8 P) (.node (q162 P) .nil .nil) .nil) (.node (q119 P) (.node (q205 P) .nil .nil) .nil)) (.node (q63 P) (.node (boot_o_7 P) (.node (q186 P) .nil .nil) .nil) (.node (q144 P) .nil .nil))) (.node (q33 P) (.node (boot_o_8 P) (.node (q91 P) (.node (q177 P) .nil .nil) .nil) (.node (q129 P) (.node (q215 P) .nil .nil) .nil)) (.node (q72 P) (.node (q109 P) (.node (q195 P) .nil .nil) .nil) (.node (q153 P) .nil .nil))))))) (.node (boot_o_2 P) (.node (boot_o_4 P) (.node (boot_o_8 P) (.node (boot_o_8 P) (.node (boot_o_7 P) (.node (boot_o_7 P) (.node (boot_o_7 P) (.node (q156 P) .nil .nil) .nil) (.node (boot_o_7 P) (.node (boot_o_7 P) .nil .nil) .nil)) (.node (q56 P) (.node (boot_o_8 P) (.node (boot_o_7 P) .nil .nil) .nil) (.node (q132 P) (.node (q218 P) .nil .nil) .nil))) (.node (q23 P) (.node (q46 P) (.node (q83 P) (.node (q156 P) .nil .nil) .nil) (.node (q120 P) (.node (q206 P) .nil .nil) .nil)) (.node (boot_o_8 P) (.node (boot_o_7 P) (.node (q188 P) .nil .nil) .nil) (.node (boot_o_8 P) .nil .nil)))) (.node (q9 P) (.node (q18 P) (.node (boot_o_8 P) (.node (boot_o_7 P) (.node (q156 P) .nil .nil) .nil) (.node (boot_o_8 P) (.node (boot_o_8 P) .nil .nil) .nil)) (.node (boot_o_7 P) (.node (q97 P) (.node (q183 P) .nil .nil) .nil) (.node (q141 P) .nil .nil))) (.node (q28 P) (.node (boot_o_7 P) (.node (q88 P) (.node (q169 P) .nil .nil) .nil) (.node (boot_o_7 P) (.node (boot_o_7 P) .nil .nil) .nil)) (.node (q69 P) (.node (q107 P) (.node (q193 P) .nil .nil) .nil) (.node (boot_o_6 P) .nil .nil))))) (.node (q175 P) (.node (q6 P) (.node (boot_o_7 P) (.node (q39 P) (.node (q77 P) (.node (boot_o_7 P) .nil .nil) .nil) (.node (q113 P) (.node (q199 P) .nil .nil) .nil)) (.node (boot_o_7 P) (.node (q95 P) (.node (boot_o_7 P) .nil .nil) .nil) (.node (q8 P) .nil .nil))) (.node (q25 P) (.node (q49 P) (.node (boot_o_8 P) (.node (boot_o_7 P) .nil .nil) .nil) (.node (q123 P) (.node (q209 P) .nil .nil) .nil)) (.node (q67 P) (.node (boot_o_7 P) (.node (q190 P) .nil .nil) .nil) (.node (q148 P) .nil .nil)))) (.node (q12 P) (.node (boot_o_8 P) (.node (q44 P) (.node (boot_o_7 P) (.node (boot_o_7 P) .nil .nil) .nil) (.node (q118 P) (.node (q204 P) .nil .nil) .nil)) (.node (q62 P) (.node (q100 P) (.node (boot_o_8 P) .nil .nil) .nil) (.node (q143 P) .nil .nil))) (.node (q32 P) (.node (boot_o_7 P) (.node (q90 P) (.node (q173 P) .nil .nil) .nil) (.node (q128 P) (.node (q214 P) .nil .nil) .nil)) (.node (boot_o_8 P) (.node (boot_o_7 P) (.node (boot_o_7 P) .nil .nil) .nil) (.node (boot_o_7 P) .nil .nil)))))) (.node (boot_o_6 P) (.node (boot_o_10 P) (.node (boot_o_7 P) (.node (q15 P) (.node (q38 P) (.node (q75 P) (.node (boot_o_8 P) .nil .nil) .nil) (.node (q112 P) (.node (q198 P) .nil .nil) .nil)) (.node (boot_o_8 P) (.node (boot_o_7 P) (.node (q180 P) .nil .nil) .nil) (.node (q134 P) .nil .nil))) (.node (boot_o_7 P) (.node (q47 P) (.node (q85 P) (.node (boot_o_8 P) .nil .nil) .nil) (.node (q121 P) (.node (q207 P) .nil .nil) .nil)) (.node (boot_o_7 P) (.node (q103 P) (.node (boot_o_7 P) .nil .nil) .nil) (.node (boot_o_7 P) .nil .nil)))) (.node (q10 P) (.node (q20 P) (.node (boot_o_7 P) (.node (q80 P) (.node (boot_o_8 P) .nil .nil) .nil) (.node (boot_o_7 P) (.node (boot_o_7 P) .nil .nil) .nil)) (.node (q61 P) (.node (q98 P) (.node (q185 P) .nil .nil) .nil) (.node (boot_o_7 P) .nil .nil))) (.node (q30 P) (.node (q52 P) (.node (boot_o_7 P) (.node (q171 P) .nil .nil) .nil) (.node (q126 P) (.node (q212 P) .nil .nil) .nil)) (.node (q71 P) (.node (boot_o_8 P) (.node (boot_o_8 P) .nil .nil) .nil) (.node (boot_o_8 P) .nil .nil))))) (.node (q1 P) (.node (boot_o_7 P) (.node (q17 P) (.node (q41 P) (.node (boot_o_8 P) (.node (q159 P) .nil .nil) .nil) (.node (q115 P) (.node (q201 P) .nil .nil) .nil)) (.node (q59 P) (.node (boot_o_7 P) (.node (q182 P) .nil .nil) .nil) (.node (boot_o_7 P) .nil .nil))) (.node (q26 P) (.node (boot_o_8 P) (.node (boot_o_7 P) (.node (q167 P) .nil .nil) .nil) (.node (boot_o_8 P) (.node (boot_o_8 P) .nil .nil) .nil)) (.node (boot_o_7 P) (.node (q105 P) (.node (q191 P) .nil .nil) .nil) (.node (q150 P) .nil .nil)))) (.node (boot_o_8 P) (.node (boot_o_7 P) (.node (boot_o_7 P) (.node (q82 P) (.node (q163 P) .nil .nil) .nil) (.node (boot_o_7 P) (.node (boot_o_7 P) .nil .nil) .nil)) (.node (q64 P) (.node (boot_o_8 P) (.node (boot_o_7 P) .nil .nil) .nil) (.node (q145 P) .nil .nil))) (.node (q34 P) (.node (q54 P) (.node (q92 P) (.node (q8 P) .nil .nil) .nil) (.node (q176 P) (.node (q216 P) .nil .nil) .nil)) (.node (q73 P) (.node (q110 P) (.node (q196 P) .nil .nil) .nil) (.node (q154 P) .nil .nil))))))))
noncomputable def d3 : Drawn := (@Drawn.mk 0 0 0 0)
noncomputable def l3 : Life := (@Life.mk [] [] [] 0 [] [] @Bool.false ⟨[]⟩ [] 0 @Bool.false @Bool.false @Bool.false (0 : Int) [(2000 : Int), (10 : Int), (10 : Int)] @Bool.false 0 @Bool.true [] [] 0 @Bool.false)
noncomputable def t4 (P : Params) : BT := (.node (boot_o_0 P) (.node (boot_o_1 P) (.node (q219 P) (.node (boot_o_7 P) (.node (boot_o_7 P) (.node (q13 P) (.node (q35 P) (.node (q74 P) (.node (q155 P) .nil .nil) (.node (q239 P) .nil .nil)) (.node (q111 P) (.node (q197 P) .nil .nil) .nil)) (.node (q55 P) (.node (boot_o_7 P) (.node (q178 P) .nil .nil) (.node (boot_o_7 P) .nil .nil)) (.node (q131 P) (.node (q217 P) .nil .nil) .nil))) (.node (q22 P) (.node (boot_o_8 P) (.node (boot_o_7 P) (.node (q164 P) .nil .nil) (.node (boot_o_8 P) .nil .nil)) (.node (boot_o_8 P) (.node (boot_o_8 P) .nil .nil) .nil)) (.node (boot_o_7 P) (.node (q101 P) (.node (q187 P) .nil .nil) .nil) (.node (boot_o_7 P) (.node (boot_o_7 P) .nil .nil) .nil)))) (.node (q8 P) (.node (boot_o_7 P) (.node (boot_o_7 P) (.node (q78 P) (.node (q160 P) .nil .nil) (.node (boot_o_7 P) .nil .nil)) (.node (boot_o_7 P) (.node (boot_o_7 P) .nil .nil) .nil)) (.node (q60 P) (.node (boot_o_8 P) (.node (boot_o_7 P) .nil .nil) (.node (q263 P) .nil .nil)) (.node (q140 P) (.node (q226 P) .nil .nil) .nil))) (.node (q27 P) (.node (q50 P) (.node (q87 P) (.node (q168 P) .nil .nil) (.node (q253 P) .nil .nil)) (.node (q124 P) (.node (q210 P) .nil .nil) .nil)) (.node (boot_o_8 P) (.node (q106 P) (.node (q192 P) .nil .nil) .nil) (.node (q151 P) (.node (boot_o_8 P) .nil .nil) .nil))))) (.node (boot_o_7 P) (.node (q5 P) (.node (q16 P) (.node (boot_o_7 P) (.node (q76 P) (.node (q157 P) .nil .nil) (.node (q242 P) .nil .nil)) (.node (boot_o_7 P) (.node (boot_o_7 P) .nil .nil) .nil)) (.node (q57 P) (.node (q94 P) (.node (q181 P) .nil .nil) (.node (boot_o_7 P) .nil .nil)) (.node (q138 P) (.node (q223 P) .nil .nil) .nil))) (.node (boot_o_8 P) (.node (q48 P) (.node (boot_o_7 P) (.node (q165 P) .nil .nil) (.node (q251 P) .nil .nil)) (.node (q122 P) (.node (q208 P) .nil .nil) .nil)) (.node (q66 P) (.node (q104 P) (.node (boot_o_8 P) .nil .nil) .nil) (.node (q147 P) (.node (q232 P) .nil .nil) .nil)))) (.node (q11 P) (.node (boot_o_7 P) (.node (q43 P) (.node (q81 P) (.node (q161 P) .nil .nil) (.node (q246 P) .nil .nil)) (.node (q117 P) (.node (q203 P) .nil .nil) .nil)) (.node (boot_o_7 P) (.node (q99 P) (.node (boot_o_7 P) .nil .nil) (.node (q267 P) .nil .nil)) (.node (boot_o_8 P) (.node (boot_o_7 P) .nil .nil) .nil))) (.node (q137 P) (.node (q53 P) (.node (boot_o_8 P) (.node (q172 P) .nil .nil) (.node (q256 P) .nil .nil)) (.node (q127 P) (.node (q213 P) .nil .nil) .nil)) (.node (boot_o_7 P) (.node (q108 P) (.node (q194 P) .nil .nil) .nil) (.node (q152 P) (.node (q237 P) .nil .nil) .nil)))))) (.node (boot_o_5 P) (.node (boot_o_9 P) (.node (q4 P) (.node (q14 P) (.node (q8 P) (.node (boot_o_8 P) (.node (boot_o_7 P) .nil .nil) (.node (q240 P) .nil .nil)) (.node (boot_o_8 P) (.node (boot_o_8 P) .nil .nil) .nil)) (.node (boot_o_7 P) (.node (q93 P) (.node (q179 P) .nil .nil) (.node (q259 P) .nil .nil)) (.node (q133 P) (.node (q222 P) .nil .nil) .nil))) (.node (q24 P) (.node (boot_o_7 P) (.node (q84 P) (.node (boot_o_7 P) .nil .nil) (.node (boot_o_7 P) .nil .nil)) (.node (boot_o_7 P) (.node (boot_o_7 P) .nil .nil) .nil)) (.node (q65 P) (.node (q102 P) (.node (q189 P) .nil .nil) .nil) (.node (q146 P) (.node (q231 P) .nil .nil) .nil)))) (.node (boot_o_7 P) (.node (q19 P) (.node (q42 P) (.node (q79 P) (.node (boot_o_7 P) .nil .nil) (.node (q245 P) .nil .nil)) (.node (q116 P) (.node (q202 P) .nil .nil) .nil)) (.node (boot_o_8 P) (.node (boot_o_7 P) (.node (q184 P) .nil .nil) (.node (q265 P) .nil .nil)) (.node (q142 P) (.node (boot_o_8 P) .nil .nil) .nil))) (.node (q29 P) (.node (q51 P) (.node (q89 P) (.node (q170 P) .nil .nil) (.node (q254 P) .nil .nil)) (.node (q125 P) (.node (q211 P) .nil .nil) .nil)) (.node (q70 P) (.node (boot_o_7 P) (.node (boot_o_7 P) .nil .nil) .nil) (.node (boot_o_7 P) (.node (boot_o_7 P) .nil .nil) .nil))))) (.node (q0 P) (.node (q7 P) (.node (boot_o_8 P) (.node (q40 P) (.node (boot_o_7 P) (.node (q158 P) .nil .nil) (.node (q244 P) .nil .nil)) (.node (q114 P) (.node (q200 P) .nil .nil) .nil)) (.node (q58 P) (.node (q96 P) (.node (boot_o_8 P) .nil .nil) (.node (q261 P) .nil .nil)) (.node (q139 P) (.node (q224 P) .nil .nil) .nil))) (.node (boot_o_7 P) (.node (boot_o_7 P) (.node (q86 P) (.node (q166 P) .nil .nil) (.node (boot_o_7 P) .nil .nil)) (.node (boot_o_7 P) (.node (boot_o_7 P) .nil .nil) .nil)) (.node (q68 P) (.node (boot_o_8 P) (.node (boot_o_7 P) .nil .nil) .nil) (.node (q149 P) (.node (q234 P) .nil .nil) .nil)))) (.node (boot_o_7 P) (.node (q21 P) (.node (q45 P) (.node (boot_o_8 P) (.node (q162 P) .nil .nil) (.node (q248 P) .nil .nil)) (.node (q119 P) (.node (q205 P) .nil .nil) .nil)) (.node (q63 P) (.node (boot_o_7 P) (.node (q186 P) .nil .nil) .nil) (.node (q144 P) (.node (q229 P) .nil .nil) .nil))) (.node (q33 P) (.node (boot_o_8 P) (.node (q91 P) (.node (q177 P) .nil .nil) (.node (boot_o_8 P) .nil .nil)) (.node (q129 P) (.node (q215 P) .nil .nil) .nil)) (.node (q72 P) (.node (q109 P) (.node (q195 P) .nil .nil) .nil) (.node (q153 P) (.node (boot_o_7 P) .nil .nil) .nil))))))) (.node (boot_o_2 P) (.node (boot_o_4 P) (.node (boot_o_8 P) (.node (boot_o_8 P) (.node (boot_o_7 P) (.node (boot_o_7 P) (.node (boot_o_7 P) (.node (q156 P) .nil .nil) (.node (boot_o_7 P) .nil .nil)) (.node (boot_o_7 P) (.node (boot_o_7 P) .nil .nil) .nil)) (.node (q56 P) (.node (boot_o_8 P) (.node (boot_o_7 P) .nil .nil) (.node (q258 P) .nil .nil)) (.node (q132 P) (.node (q218 P) .nil .nil) .nil))) (.node (q23 P) (.node (q46 P) (.node (q83 P) (.node (q156 P) .nil .nil) (.node (q249 P) .nil .nil)) (.node (q120 P) (.node (q206 P) .nil .nil) .nil)) (.node (boot_o_8 P) (.node (boot_o_7 P) (.node (q188 P) .nil .nil) .nil) (.node (boot_o_8 P) (.node (boot_o_8 P) .nil .nil) .nil)))) (.node (q9 P) (.node (q18 P) (.node (boot_o_8 P) (.node (boot_o_7 P) (.node (q156 P) .nil .nil) (.node (boot_o_8 P) .nil .nil)) (.node (boot_o_8 P) (.node (boot_o_8 P) .nil .nil) .nil)) (.node (boot_o_7 P) (.node (q97 P) (.node (q183 P) .nil .nil) (.node (q264 P) .nil .nil)) (.node (q141 P) (.node (boot_o_7 P) .nil .nil) .nil))) (.node (q28 P) (.node (boot_o_7 P) (.node (q88 P) (.node (q169 P) .nil .nil) (.node (boot_o_7 P) .nil .nil)) (.node (boot_o_7 P) (.node (boot_o_7 P) .nil .nil) .nil)) (.node (q69 P) (.node (q107 P) (.node (q193 P) .nil .nil) .nil) (.node (boot_o_6 P) (.node (q235 P) .nil .nil) .nil))))) (.node (q220 P) (.node (q6 P) (.node (boot_o_7 P) (.node (q39 P) (.node (q77 P) (.node (boot_o_7 P) .nil .nil) (.node (q243 P) .nil .nil)) (.node (q113 P) (.node (q199 P) .nil .nil) .nil)) (.node (boot_o_7 P) (.node (q95 P) (.node (boot_o_7 P) .nil .nil) (.node (boot_o_8 P) .nil .nil)) (.node (q8 P) (.node (boot_o_7 P) .nil .nil) .nil))) (.node (q25 P) (.node (q49 P) (.node (boot_o_8 P) (.node (boot_o_7 P) .nil .nil) (.node (q252 P) .nil .nil)) (.node (q123 P) (.node (q209 P) .nil .nil) .nil)) (.node (q67 P) (.node (boot_o_7 P) (.node (q190 P) .nil .nil) .nil) (.node (q148 P) (.node (q233 P) .nil .nil) .nil)))) (.node (q12 P) (.node (boot_o_8 P) (.node (q44 P) (.node (boot_o_7 P) (.node (boot_o_7 P) .nil .nil) (.node (q247 P) .nil .nil)) (.node (q118 P) (.node (q204 P) .nil .nil) .nil)) (.node (q62 P) (.node (q100 P) (.node (boot_o_8 P) .nil .nil) (.node (q268 P) .nil .nil)) (.node (q143 P) (.node (q228 P) .nil .nil) .nil))) (.node (q32 P) (.node (boot_o_7 P) (.node (q90 P) (.node (q173 P) .nil .nil) (.node (boot_o_7 P) .nil .nil)) (.node (q128 P) (.node (q214 P) .nil .nil) .nil)) (.node (boot_o_8 P) (.node (boot_o_7 P) (.node (boot_o_7 P) .nil .nil) .nil) (.node (boot_o_7 P) (.node (q238 P) .nil .nil) .nil)))))) (.node (boot_o_6 P) (.node (boot_o_10 P) (.node (boot_o_7 P) (.node (q15 P) (.node (q38 P) (.node (q75 P) (.node (boot_o_8 P) .nil .nil) (.node (q241 P) .nil .nil)) (.node (q112 P) (.node (q198 P) .nil .nil) .nil)) (.node (boot_o_8 P) (.node (boot_o_7 P) (.node (q180 P) .nil .nil) (.node (q260 P) .nil .nil)) (.node (q134 P) (.node (q8 P) .nil .nil) .nil))) (.node (boot_o_7 P) (.node (q47 P) (.node (q85 P) (.node (boot_o_8 P) .nil .nil) (.node (q250 P) .nil .nil)) (.node (q121 P) (.node (q207 P) .nil .nil) .nil)) (.node (boot_o_7 P) (.node (q103 P) (.node (boot_o_7 P) .nil .nil) .nil) (.node (boot_o_7 P) (.node (boot_o_7 P) .nil .nil) .nil)))) (.node (q10 P) (.node (q20 P) (.node (boot_o_7 P) (.node (q80 P) (.node (boot_o_8 P) .nil .nil) (.node (boot_o_7 P) .nil .nil)) (.node (boot_o_7 P) (.node (boot_o_7 P) .nil .nil) .nil)) (.node (q61 P) (.node (q98 P) (.node (q185 P) .nil .nil) (.node (q266 P) .nil .nil)) (.node (boot_o_7 P) (.node (q227 P) .nil .nil) .nil))) (.node (q30 P) (.node (q52 P) (.node (boot_o_7 P) (.node (q171 P) .nil .nil) (.node (q255 P) .nil .nil)) (.node (q126 P) (.node (q212 P) .nil .nil) .nil)) (.node (q71 P) (.node (boot_o_8 P) (.node (boot_o_8 P) .nil .nil) .nil) (.node (boot_o_8 P) (.node (q236 P) .nil .nil) .nil))))) (.node (q1 P) (.node (boot_o_7 P) (.node (q17 P) (.node (q41 P) (.node (boot_o_8 P) (.node (q159 P) .nil .nil) (.node (boot_o_6 P) .nil .nil)) (.node (q115 P) (.node (q201 P) .nil .nil) .nil)) (.node (q59 P) (.node (boot_o_7 P) (.node (q182 P) .nil .nil) (.node (q262 P) .nil .nil)) (.node (boot_o_7 P) (.node (q225 P) .nil .nil) .nil))) (.node (q26 P) (.node (boot_o_8 P) (.node (boot_o_7 P) (.node (q167 P) .nil .nil) (.node (boot_o_8 P) .nil .nil)) (.node (boot_o_8 P) (.node (boot_o_8 P) .nil .nil) .nil)) (.node (boot_o_7 P) (.node (q105 P) (.node (q191 P) .nil .nil) .nil) (.node (q150 P) (.node (boot_o_7 P) .nil .nil) .nil)))) (.node (boot_o_8 P) (.node (boot_o_7 P) (.node (boot_o_7 P) (.node (q82 P) (.node (q163 P) .nil .nil) (.node (boot_o_7 P) .nil .nil)) (.node (boot_o_7 P) (.node (boot_o_7 P) .nil .nil) .nil)) (.node (q64 P) (.node (boot_o_8 P) (.node (boot_o_7 P) .nil .nil) .nil) (.node (q145 P) (.node (q230 P) .nil .nil) .nil))) (.node (q34 P) (.node (q54 P) (.node (q92 P) (.node (q8 P) .nil .nil) (.node (q257 P) .nil .nil)) (.node (q176 P) (.node (q221 P) .nil .nil) .nil)) (.node (q73 P) (.node (q110 P) (.node (q196 P) .nil .nil) .nil) (.node (q154 P) (.node (boot_o_8 P) .nil .nil) .nil))))))))
noncomputable def d4 : Drawn := (@Drawn.mk 0 0 0 0)
noncomputable def l4 : Life := (@Life.mk [] [] [] 0 [] [] @Bool.false ⟨[]⟩ [] 0 @Bool.false @Bool.false @Bool.false (0 : Int) [(2000 : Int), (10 : Int), (10 : Int)] @Bool.false 0 @Bool.true [] [] 0 @Bool.false)
noncomputable def t5 (P : Params) : BT := (.node (boot_o_0 P) (.node (boot_o_1 P) (.node (q269 P) (.node (boot_o_7 P) (.node (boot_o_7 P) (.node (q13 P) (.node (q35 P) (.node (q74 P) (.node (q155 P) .nil .nil) (.node (q239 P) .nil .nil)) (.node (q111 P) (.node (q197 P) .nil .nil) (.node (q281 P) .nil .nil))) (.node (q55 P) (.node (boot_o_7 P) (.node (q178 P) .nil .nil) (.node (boot_o_7 P) .nil .nil)) (.node (q131 P) (.node (q217 P) .nil .nil) .nil))) (.node (q22 P) (.node (boot_o_8 P) (.node (boot_o_7 P) (.node (q164 P) .nil .nil) (.node (boot_o_8 P) .nil .nil)) (.node (boot_o_8 P) (.node (boot_o_8 P) .nil .nil) .nil)) (.node (boot_o_7 P) (.node (q101 P) (.node (q187 P) .nil .nil) (.node (q271 P) .nil .nil)) (.node (boot_o_7 P) (.node (boot_o_7 P) .nil .nil) .nil)))) (.node (q8 P) (.node (boot_o_7 P) (.node (boot_o_7 P) (.node (q78 P) (.node (q160 P) .nil .nil) (.node (boot_o_7 P) .nil .nil)) (.node (boot_o_7 P) (.node (boot_o_7 P) .nil .nil) (.node (boot_o_7 P) .nil .nil))) (.node (q60 P) (.node (boot_o_8 P) (.node (boot_o_7 P) .nil .nil) (.node (q263 P) .nil .nil)) (.node (q140 P) (.node (q226 P) .nil .nil) .nil))) (.node (q27 P) (.node (q50 P) (.node (q87 P) (.node (q168 P) .nil .nil) (.node (q253 P) .nil .nil)) (.node (q124 P) (.node (q210 P) .nil .nil) .nil)) (.node (boot_o_8 P) (.node (q106 P) (.node (q192 P) .nil .nil) (.node (q276 P) .nil .nil)) (.node (q151 P) (.node (boot_o_8 P) .nil .nil) .nil))))) (.node (boot_o_7 P) (.node (q5 P) (.node (q16 P) (.node (boot_o_7 P) (.node (q76 P) (.node (q157 P) .nil .nil) (.node (q242 P) .nil .nil)) (.node (boot_o_7 P) (.node (boot_o_7 P) .nil .nil) (.node (boot_o_7 P) .nil .nil))) (.node (q57 P) (.node (q94 P) (.node (q181 P) .nil .nil) (.node (boot_o_7 P) .nil .nil)) (.node (q138 P) (.node (q223 P) .nil .nil) .nil))) (.node (boot_o_8 P) (.node (q48 P) (.node (boot_o_7 P) (.node (q165 P) .nil .nil) (.node (q251 P) .nil .nil)) (.node (q122 P) (.node (q208 P) .nil .nil) .nil)) (.node (q66 P) (.node (q104 P) (.node (boot_o_8 P) .nil .nil) (.node (boot_o_8 P) .nil .nil)) (.node (q147 P) (.node (q232 P) .nil .nil) .nil)))) (.node (q11 P) (.node (boot_o_7 P) (.node (q43 P) (.node (q81 P) (.node (q161 P) .nil .nil) (.node (q246 P) .nil .nil)) (.node (q117 P) (.node (q203 P) .nil .nil) (.node (q287 P) .nil .nil))) (.node (boot_o_7 P) (.node (q99 P) (.node (boot_o_7 P) .nil .nil) (.node (q267 P) .nil .nil)) (.node (boot_o_8 P) (.node (boot_o_7 P) .nil .nil) .nil))) (.node (q137 P) (.node (q53 P) (.node (boot_o_8 P) (.node (q172 P) .nil .nil) (.node (q256 P) .nil .nil)) (.node (q127 P) (.node (q213 P) .nil .nil) .nil)) (.node (boot_o_7 P) (.node (q108 P) (.node (q194 P) .nil .nil) (.node (q278 P) .nil .nil)) (.node (q152 P) (.node (q237 P) .nil .nil) .nil)))))) (.node (boot_o_5 P) (.node (boot_o_9 P) (.node (q4 P) (.node (q14 P) (.node (q8 P) (.node (boot_o_8 P) (.node (boot_o_7 P) .nil .nil) (.node (q240 P) .nil .nil)) (.node (boot_o_8 P) (.node (boot_o_8 P) .nil .nil) (.node (boot_o_8 P) .nil .nil))) (.node (boot_o_7 P) (.node (q93 P) (.node (q179 P) .nil .nil) (.node (q259 P) .nil .nil)) (.node (q133 P) (.node (q222 P) .nil .nil) .nil))) (.node (q24 P) (.node (boot_o_7 P) (.node (q84 P) (.node (boot_o_7 P) .nil .nil) (.node (boot_o_7 P) .nil .nil)) (.node (boot_o_7 P) (.node (boot_o_7 P) .nil .nil) .nil)) (.node (q65 P) (.node (q102 P) (.node (q189 P) .nil .nil) (.node (q273 P) .nil .nil)) (.node (q146 P) (.node (q231 P) .nil .nil) .nil)))) (.node (boot_o_7 P) (.node (q19 P) (.node (q42 P) (.node (q79 P) (.node (boot_o_7 P) .nil .nil) (.node (q245 P) .nil .nil)) (.node (q116 P) (.node (q202 P) .nil .nil) (.node (q286 P) .nil .nil))) (.node (boot_o_8 P) (.node (boot_o_7 P) (.node (q184 P) .nil .nil) (.node (q265 P) .nil .nil)) (.node (q142 P) (.node (boot_o_8 P) .nil .nil) .nil))) (.node (q29 P) (.node (q51 P) (.node (q89 P) (.node (q170 P) .nil .nil) (.node (q254 P) .nil .nil)) (.node (q125 P) (.node (q211 P) .nil .nil) .nil)) (.node (q70 P) (.node (boot_o_7 P) (.node (boot_o_7 P) .nil .nil) (.node (boot_o_7 P) .nil .nil)) (.node (boot_o_7 P) (.node (boot_o_7 P) .nil .nil) .nil))))) (.node (q0 P) (.node (q7 P) (.node (boot_o_8 P) (.node (q40 P) (.node (boot_o_7 P) (.node (q158 P) .nil .nil) (.node (q244 P) .nil .nil)) (.node (q114 P) (.node (q200 P) .nil .nil) (.node (q284 P) .nil .nil))) (.node (q58 P) (.node (q96 P) (.node (boot_o_8 P) .nil .nil) (.node (q261 P) .nil .nil)) (.node (q139 P) (.node (q224 P) .nil .nil) .nil))) (.node (boot_o_7 P) (.node (boot_o_7 P) (.node (q86 P) (.node (q166 P) .nil .nil) (.node (boot_o_7 P) .nil .nil)) (.node (boot_o_7 P) (.node (boot_o_7 P) .nil .nil) .nil)) (.node (q68 P) (.node (boot_o_8 P) (.node (boot_o_7 P) .nil .nil) (.node (boot_o_7 P) .nil .nil)) (.node (q149 P) (.node (q234 P) .nil .nil) .nil)))) (.node (boot_o_7 P) (.node (q21 P) (.node (q45 P) (.node (boot_o_8 P) (.node (q162 P) .nil .nil) (.node (q248 P) .nil .nil)) (.node (q119 P) (.node (q205 P) .nil .nil) (.node (q289 P) .nil .nil))) (.node (q63 P) (.node (boot_o_7 P) (.node (q186 P) .nil .nil) (.node (boot_o_7 P) .nil .nil)) (.node (q144 P) (.node (q229 P) .nil .nil) .nil))) (.node (q33 P) (.node (boot_o_8 P) (.node (q91 P) (.node (q177 P) .nil .nil) (.node (boot_o_8 P) .nil .nil)) (.node (q129 P) (.node (q215 P) .nil .nil) .nil)) (.node (q72 P) (.node (q109 P) (.node (q195 P) .nil .nil) (.node (q279 P) .nil .nil)) (.node (q153 P) (.node (boot_o_7 P) .nil .nil) .nil))))))) (.node (boot_o_2 P) (.node (boot_o_4 P) (.node (boot_o_8 P) (.node (boot_o_8 P) (.node (boot_o_7 P) (.node (boot_o_7 P) (.node (boot_o_7 P) (.node (q156 P) .nil .nil) (.node (boot_o_7 P) .nil .nil)) (.node (boot_o_7 P) (.node (boot_o_7 P) .nil .nil) (.node (boot_o_7 P) .nil .nil))) (.node (q56 P) (.node (boot_o_8 P) (.node (boot_o_7 P) .nil .nil) (.node (q258 P) .nil .nil)) (.node (q132 P) (.node (q218 P) .nil .nil) .nil))) (.node (q23 P) (.node (q46 P) (.node (q83 P) (.node (q156 P) .nil .nil) (.node (q249 P) .nil .nil)) (.node (q120 P) (.node (q206 P) .nil .nil) .nil)) (.node (boot_o_8 P) (.node (boot_o_7 P) (.node (q188 P) .nil .nil) (.node (q272 P) .nil .nil)) (.node (boot_o_8 P) (.node (boot_o_8 P) .nil .nil) .nil)))) (.node (q9 P) (.node (q18 P) (.node (boot_o_8 P) (.node (boot_o_7 P) (.node (q156 P) .nil .nil) (.node (boot_o_8 P) .nil .nil)) (.node (boot_o_8 P) (.node (boot_o_8 P) .nil .nil) (.node (boot_o_8 P) .nil .nil))) (.node (boot_o_7 P) (.node (q97 P) (.node (q183 P) .nil .nil) (.node (q264 P) .nil .nil)) (.node (q141 P) (.node (boot_o_7 P) .nil .nil) .nil))) (.node (q28 P) (.node (boot_o_7 P) (.node (q88 P) (.node (q169 P) .nil .nil) (.node (boot_o_7 P) .nil .nil)) (.node (boot_o_7 P) (.node (boot_o_7 P) .nil .nil) .nil)) (.node (q69 P) (.node (q107 P) (.node (q193 P) .nil .nil) (.node (q277 P) .nil .nil)) (.node (boot_o_6 P) (.node (q235 P) .nil .nil) .nil))))) (.node (q270 P) (.node (q6 P) (.node (boot_o_7 P) (.node (q39 P) (.node (q77 P) (.node (boot_o_7 P) .nil .nil) (.node (q243 P) .nil .nil)) (.node (q113 P) (.node (q199 P) .nil .nil) (.node (q283 P) .nil .nil))) (.node (boot_o_7 P) (.node (q95 P) (.node (boot_o_7 P) .nil .nil) (.node (boot_o_8 P) .nil .nil)) (.node (q8 P) (.node (boot_o_7 P) .nil .nil) .nil))) (.node (q25 P) (.node (q49 P) (.node (boot_o_8 P) (.node (boot_o_7 P) .nil .nil) (.node (q252 P) .nil .nil)) (.node (q123 P) (.node (q209 P) .nil .nil) .nil)) (.node (q67 P) (.node (boot_o_7 P) (.node (q190 P) .nil .nil) (.node (q274 P) .nil .nil)) (.node (q148 P) (.node (q233 P) .nil .nil) .nil)))) (.node (q12 P) (.node (boot_o_8 P) (.node (q44 P) (.node (boot_o_7 P) (.node (boot_o_7 P) .nil .nil) (.node (q247 P) .nil .nil)) (.node (q118 P) (.node (q204 P) .nil .nil) (.node (q288 P) .nil .nil))) (.node (q62 P) (.node (q100 P) (.node (boot_o_8 P) .nil .nil) (.node (q268 P) .nil .nil)) (.node (q143 P) (.node (q228 P) .nil .nil) .nil))) (.node (q32 P) (.node (boot_o_7 P) (.node (q90 P) (.node (q173 P) .nil .nil) (.node (boot_o_7 P) .nil .nil)) (.node (q128 P) (.node (q214 P) .nil .nil) .nil)) (.node (boot_o_8 P) (.node (boot_o_7 P) (.node (boot_o_7 P) .nil .nil) (.node (boot_o_7 P) .nil .nil)) (.node (boot_o_7 P) (.node (q238 P) .nil .nil) .nil)))))) (.node (boot_o_6 P) (.node (boot_o_10 P) (.node (boot_o_7 P) (.node (q15 P) (.node (q38 P) (.node (q75 P) (.node (boot_o_8 P) .nil .nil) (.node (q241 P) .nil .nil)) (.node (q112 P) (.node (q198 P) .nil .nil) (.node (q282 P) .nil .nil))) (.node (boot_o_8 P) (.node (boot_o_7 P) (.node (q180 P) .nil .nil) (.node (q260 P) .nil .nil)) (.node (q134 P) (.node (q8 P) .nil .nil) .nil))) (.node (boot_o_7 P) (.node (q47 P) (.node (q85 P) (.node (boot_o_8 P) .nil .nil) (.node (q250 P) .nil .nil)) (.node (q121 P) (.node (q207 P) .nil .nil) .nil)) (.node (boot_o_7 P) (.node (q103 P) (.node (boot_o_7 P) .nil .nil) (.node (boot_o_7 P) .nil .nil)) (.node (boot_o_7 P) (.node (boot_o_7 P) .nil .nil) .nil)))) (.node (q10 P) (.node (q20 P) (.node (boot_o_7 P) (.node (q80 P) (.node (boot_o_8 P) .nil .nil) (.node (boot_o_7 P) .nil .nil)) (.node (boot_o_7 P) (.node (boot_o_7 P) .nil .nil) (.node (boot_o_7 P) .nil .nil))) (.node (q61 P) (.node (q98 P) (.node (q185 P) .nil .nil) (.node (q266 P) .nil .nil)) (.node (boot_o_7 P) (.node (q227 P) .nil .nil) .nil))) (.node (q30 P) (.node (q52 P) (.node (boot_o_7 P) (.node (q171 P) .nil .nil) (.node (q255 P) .nil .nil)) (.node (q126 P) (.node (q212 P) .nil .nil) .nil)) (.node (q71 P) (.node (boot_o_8 P) (.node (boot_o_8 P) .nil .nil) (.node (boot_o_8 P) .nil .nil)) (.node (boot_o_8 P) (.node (q236 P) .nil .nil) .nil))))) (.node (q1 P) (.node (boot_o_7 P) (.node (q17 P) (.node (q41 P) (.node (boot_o_8 P) (.node (q159 P) .nil .nil) (.node (boot_o_6 P) .nil .nil)) (.node (q115 P) (.node (q201 P) .nil .nil) (.node (q285 P) .nil .nil))) (.node (q59 P) (.node (boot_o_7 P) (.node (q182 P) .nil .nil) (.node (q262 P) .nil .nil)) (.node (boot_o_7 P) (.node (q225 P) .nil .nil) .nil))) (.node (q26 P) (.node (boot_o_8 P) (.node (boot_o_7 P) (.node (q167 P) .nil .nil) (.node (boot_o_8 P) .nil .nil)) (.node (boot_o_8 P) (.node (boot_o_8 P) .nil .nil) .nil)) (.node (boot_o_7 P) (.node (q105 P) (.node (q191 P) .nil .nil) (.node (q275 P) .nil .nil)) (.node (q150 P) (.node (boot_o_7 P) .nil .nil) .nil)))) (.node (boot_o_8 P) (.node (boot_o_7 P) (.node (boot_o_7 P) (.node (q82 P) (.node (q163 P) .nil .nil) (.node (boot_o_7 P) .nil .nil)) (.node (boot_o_7 P) (.node (boot_o_7 P) .nil .nil) .nil)) (.node (q64 P) (.node (boot_o_8 P) (.node (boot_o_7 P) .nil .nil) (.node (boot_o_8 P) .nil .nil)) (.node (q145 P) (.node (q230 P) .nil .nil) .nil))) (.node (q34 P) (.node (q54 P) (.node (q92 P) (.node (q8 P) .nil .nil) (.node (q257 P) .nil .nil)) (.node (q176 P) (.node (q221 P) .nil .nil) .nil)) (.node (q73 P) (.node (q110 P) (.node (q196 P) .nil .nil) (.node (q280 P) .nil .nil)) (.node (q154 P) (.node (boot_o_8 P) .nil .nil) .nil))))))))
noncomputable def d5 : Drawn := (@Drawn.mk 0 0 0 0)
noncomputable def l5 : Life := (@Life.mk [] [] [] 0 [] [] @Bool.false ⟨[]⟩ [] 0 @Bool.false @Bool.false @Bool.false (0 : Int) [(2000 : Int), (10 : Int), (10 : Int)] @Bool.false 0 @Bool.true [] [] 0 @Bool.false)
noncomputable def tF (P : Params) : BT := (.node (boot_o_0 P) (.node (boot_o_1 P) (.node (q269 P) (.node (boot_o_7 P) (.node (boot_o_7 P) (.node (q13 P) (.node (q35 P) (.node (q74 P) (.node (q155 P) .nil .nil) (.node (q239 P) .nil .nil)) (.node (q111 P) (.node (q197 P) .nil .nil) (.node (q281 P) .nil .nil))) (.node (q55 P) (.node (boot_o_7 P) (.node (q178 P) .nil .nil) (.node (boot_o_7 P) .nil .nil)) (.node (q131 P) (.node (q217 P) .nil .nil) .nil))) (.node (q22 P) (.node (boot_o_8 P) (.node (boot_o_7 P) (.node (q164 P) .nil .nil) (.node (boot_o_8 P) .nil .nil)) (.node (boot_o_8 P) (.node (boot_o_8 P) .nil .nil) .nil)) (.node (boot_o_7 P) (.node (q101 P) (.node (q187 P) .nil .nil) (.node (q271 P) .nil .nil)) (.node (boot_o_7 P) (.node (boot_o_7 P) .nil .nil) .nil)))) (.node (q8 P) (.node (boot_o_7 P) (.node (boot_o_7 P) (.node (q78 P) (.node (q160 P) .nil .nil) (.node (boot_o_7 P) .nil .nil)) (.node (boot_o_7 P) (.node (boot_o_7 P) .nil .nil) (.node (boot_o_7 P) .nil .nil))) (.node (q60 P) (.node (boot_o_8 P) (.node (boot_o_7 P) .nil .nil) (.node (q263 P) .nil .nil)) (.node (q140 P) (.node (q226 P) .nil .nil) .nil))) (.node (q27 P) (.node (q50 P) (.node (q87 P) (.node (q168 P) .nil .nil) (.node (q253 P) .nil .nil)) (.node (q124 P) (.node (q210 P) .nil .nil) .nil)) (.node (boot_o_8 P) (.node (q106 P) (.node (q192 P) .nil .nil) (.node (q276 P) .nil .nil)) (.node (q151 P) (.node (boot_o_8 P) .nil .nil) .nil))))) (.node (boot_o_7 P) (.node (q5 P) (.node (q16 P) (.node (boot_o_7 P) (.node (q76 P) (.node (q157 P) .nil .nil) (.node (q242 P) .nil .nil)) (.node (boot_o_7 P) (.node (boot_o_7 P) .nil .nil) (.node (boot_o_7 P) .nil .nil))) (.node (q57 P) (.node (q94 P) (.node (q181 P) .nil .nil) (.node (boot_o_7 P) .nil .nil)) (.node (q138 P) (.node (q223 P) .nil .nil) .nil))) (.node (boot_o_8 P) (.node (q48 P) (.node (boot_o_7 P) (.node (q165 P) .nil .nil) (.node (q251 P) .nil .nil)) (.node (q122 P) (.node (q208 P) .nil .nil) .nil)) (.node (q66 P) (.node (q104 P) (.node (boot_o_8 P) .nil .nil) (.node (boot_o_8 P) .nil .nil)) (.node (q147 P) (.node (q232 P) .nil .nil) .nil)))) (.node (q11 P) (.node (boot_o_7 P) (.node (q43 P) (.node (q81 P) (.node (q161 P) .nil .nil) (.node (q246 P) .nil .nil)) (.node (q117 P) (.node (q203 P) .nil .nil) (.node (q287 P) .nil .nil))) (.node (boot_o_7 P) (.node (q99 P) (.node (boot_o_7 P) .nil .nil) (.node (q267 P) .nil .nil)) (.node (boot_o_8 P) (.node (boot_o_7 P) .nil .nil) .nil))) (.node (q137 P) (.node (q53 P) (.node (boot_o_8 P) (.node (q172 P) .nil .nil) (.node (q256 P) .nil .nil)) (.node (q127 P) (.node (q213 P) .nil .nil) .nil)) (.node (boot_o_7 P) (.node (q108 P) (.node (q194 P) .nil .nil) (.node (q278 P) .nil .nil)) (.node (q152 P) (.node (q237 P) .nil .nil) .nil)))))) (.node (boot_o_5 P) (.node (boot_o_9 P) (.node (q4 P) (.node (q14 P) (.node (q8 P) (.node (boot_o_8 P) (.node (boot_o_7 P) .nil .nil) (.node (q240 P) .nil .nil)) (.node (boot_o_8 P) (.node (boot_o_8 P) .nil .nil) (.node (boot_o_8 P) .nil .nil))) (.node (boot_o_7 P) (.node (q93 P) (.node (q179 P) .nil .nil) (.node (q259 P) .nil .nil)) (.node (q133 P) (.node (q222 P) .nil .nil) .nil))) (.node (q24 P) (.node (boot_o_7 P) (.node (q84 P) (.node (boot_o_7 P) .nil .nil) (.node (boot_o_7 P) .nil .nil)) (.node (boot_o_7 P) (.node (boot_o_7 P) .nil .nil) .nil)) (.node (q65 P) (.node (q102 P) (.node (q189 P) .nil .nil) (.node (q273 P) .nil .nil)) (.node (q146 P) (.node (q231 P) .nil .nil) .nil)))) (.node (boot_o_7 P) (.node (q19 P) (.node (q42 P) (.node (q79 P) (.node (boot_o_7 P) .nil .nil) (.node (q245 P) .nil .nil)) (.node (q116 P) (.node (q202 P) .nil .nil) (.node (q286 P) .nil .nil))) (.node (boot_o_8 P) (.node (boot_o_7 P) (.node (q184 P) .nil .nil) (.node (q265 P) .nil .nil)) (.node (q142 P) (.node (boot_o_8 P) .nil .nil) .nil))) (.node (q29 P) (.node (q51 P) (.node (q89 P) (.node (q170 P) .nil .nil) (.node (q254 P) .nil .nil)) (.node (q125 P) (.node (q211 P) .nil .nil) .nil)) (.node (q70 P) (.node (boot_o_7 P) (.node (boot_o_7 P) .nil .nil) (.node (boot_o_7 P) .nil .nil)) (.node (boot_o_7 P) (.node (boot_o_7 P) .nil .nil) .nil))))) (.node (q0 P) (.node (q7 P) (.node (boot_o_8 P) (.node (q40 P) (.node (boot_o_7 P) (.node (q158 P) .nil .nil) (.node (q244 P) .nil .nil)) (.node (q114 P) (.node (q200 P) .nil .nil) (.node (q284 P) .nil .nil))) (.node (q58 P) (.node (q96 P) (.node (boot_o_8 P) .nil .nil) (.node (q261 P) .nil .nil)) (.node (q139 P) (.node (q224 P) .nil .nil) .nil))) (.node (boot_o_7 P) (.node (boot_o_7 P) (.node (q86 P) (.node (q166 P) .nil .nil) (.node (boot_o_7 P) .nil .nil)) (.node (boot_o_7 P) (.node (boot_o_7 P) .nil .nil) .nil)) (.node (q68 P) (.node (boot_o_8 P) (.node (boot_o_7 P) .nil .nil) (.node (boot_o_7 P) .nil .nil)) (.node (q149 P) (.node (q234 P) .nil .nil) .nil)))) (.node (boot_o_7 P) (.node (q21 P) (.node (q45 P) (.node (boot_o_8 P) (.node (q162 P) .nil .nil) (.node (q248 P) .nil .nil)) (.node (q119 P) (.node (q205 P) .nil .nil) (.node (q289 P) .nil .nil))) (.node (q63 P) (.node (boot_o_7 P) (.node (q186 P) .nil .nil) (.node (boot_o_7 P) .nil .nil)) (.node (q144 P) (.node (q229 P) .nil .nil) .nil))) (.node (q33 P) (.node (boot_o_8 P) (.node (q91 P) (.node (q177 P) .nil .nil) (.node (boot_o_8 P) .nil .nil)) (.node (q129 P) (.node (q215 P) .nil .nil) .nil)) (.node (q72 P) (.node (q109 P) (.node (q195 P) .nil .nil) (.node (q279 P) .nil .nil)) (.node (q153 P) (.node (boot_o_7 P) .nil .nil) .nil))))))) (.node (boot_o_2 P) (.node (boot_o_4 P) (.node (boot_o_8 P) (.node (boot_o_8 P) (.node (boot_o_7 P) (.node (boot_o_7 P) (.node (boot_o_7 P) (.node (q156 P) .nil .nil) (.node (boot_o_7 P) .nil .nil)) (.node (boot_o_7 P) (.node (boot_o_7 P) .nil .nil) (.node (boot_o_7 P) .nil .nil))) (.node (q56 P) (.node (boot_o_8 P) (.node (boot_o_7 P) .nil .nil) (.node (q258 P) .nil .nil)) (.node (q132 P) (.node (q218 P) .nil .nil) .nil))) (.node (q23 P) (.node (q46 P) (.node (q83 P) (.node (q156 P) .nil .nil) (.node (q249 P) .nil .nil)) (.node (q120 P) (.node (q206 P) .nil .nil) .nil)) (.node (boot_o_8 P) (.node (boot_o_7 P) (.node (q188 P) .nil .nil) (.node (q272 P) .nil .nil)) (.node (boot_o_8 P) (.node (boot_o_8 P) .nil .nil) .nil)))) (.node (q9 P) (.node (q18 P) (.node (boot_o_8 P) (.node (boot_o_7 P) (.node (q156 P) .nil .nil) (.node (boot_o_8 P) .nil .nil)) (.node (boot_o_8 P) (.node (boot_o_8 P) .nil .nil) (.node (boot_o_8 P) .nil .nil))) (.node (boot_o_7 P) (.node (q97 P) (.node (q183 P) .nil .nil) (.node (q264 P) .nil .nil)) (.node (q141 P) (.node (boot_o_7 P) .nil .nil) .nil))) (.node (q28 P) (.node (boot_o_7 P) (.node (q88 P) (.node (q169 P) .nil .nil) (.node (boot_o_7 P) .nil .nil)) (.node (boot_o_7 P) (.node (boot_o_7 P) .nil .nil) .nil)) (.node (q69 P) (.node (q107 P) (.node (q193 P) .nil .nil) (.node (q277 P) .nil .nil)) (.node (boot_o_6 P) (.node (q235 P) .nil .nil) .nil))))) (.node (q270 P) (.node (q6 P) (.node (boot_o_7 P) (.node (q39 P) (.node (q77 P) (.node (boot_o_7 P) .nil .nil) (.node (q243 P) .nil .nil)) (.node (q113 P) (.node (q199 P) .nil .nil) (.node (q283 P) .nil .nil))) (.node (boot_o_7 P) (.node (q95 P) (.node (boot_o_7 P) .nil .nil) (.node (boot_o_8 P) .nil .nil)) (.node (q8 P) (.node (boot_o_7 P) .nil .nil) .nil))) (.node (q25 P) (.node (q49 P) (.node (boot_o_8 P) (.node (boot_o_7 P) .nil .nil) (.node (q252 P) .nil .nil)) (.node (q123 P) (.node (q209 P) .nil .nil) .nil)) (.node (q67 P) (.node (boot_o_7 P) (.node (q190 P) .nil .nil) (.node (q274 P) .nil .nil)) (.node (q148 P) (.node (q233 P) .nil .nil) .nil)))) (.node (q12 P) (.node (boot_o_8 P) (.node (q44 P) (.node (boot_o_7 P) (.node (boot_o_7 P) .nil .nil) (.node (q247 P) .nil .nil)) (.node (q118 P) (.node (q204 P) .nil .nil) (.node (q288 P) .nil .nil))) (.node (q62 P) (.node (q100 P) (.node (boot_o_8 P) .nil .nil) (.node (q268 P) .nil .nil)) (.node (q143 P) (.node (q228 P) .nil .nil) .nil))) (.node (q32 P) (.node (boot_o_7 P) (.node (q90 P) (.node (q173 P) .nil .nil) (.node (boot_o_7 P) .nil .nil)) (.node (q128 P) (.node (q214 P) .nil .nil) .nil)) (.node (boot_o_8 P) (.node (boot_o_7 P) (.node (boot_o_7 P) .nil .nil) (.node (boot_o_7 P) .nil .nil)) (.node (boot_o_7 P) (.node (q238 P) .nil .nil) .nil)))))) (.node (boot_o_6 P) (.node (boot_o_10 P) (.node (boot_o_7 P) (.node (q15 P) (.node (q38 P) (.node (q75 P) (.node (boot_o_8 P) .nil .nil) (.node (q241 P) .nil .nil)) (.node (q112 P) (.node (q198 P) .nil .nil) (.node (q282 P) .nil .nil))) (.node (boot_o_8 P) (.node (boot_o_7 P) (.node (q180 P) .nil .nil) (.node (q260 P) .nil .nil)) (.node (q134 P) (.node (q8 P) .nil .nil) .nil))) (.node (boot_o_7 P) (.node (q47 P) (.node (q85 P) (.node (boot_o_8 P) .nil .nil) (.node (q250 P) .nil .nil)) (.node (q121 P) (.node (q207 P) .nil .nil) .nil)) (.node (boot_o_7 P) (.node (q103 P) (.node (boot_o_7 P) .nil .nil) (.node (boot_o_7 P) .nil .nil)) (.node (boot_o_7 P) (.node (boot_o_7 P) .nil .nil) .nil)))) (.node (q10 P) (.node (q20 P) (.node (boot_o_7 P) (.node (q80 P) (.node (boot_o_8 P) .nil .nil) (.node (boot_o_7 P) .nil .nil)) (.node (boot_o_7 P) (.node (boot_o_7 P) .nil .nil) (.node (boot_o_7 P) .nil .nil))) (.node (q61 P) (.node (q98 P) (.node (q185 P) .nil .nil) (.node (q266 P) .nil .nil)) (.node (boot_o_7 P) (.node (q227 P) .nil .nil) .nil))) (.node (q30 P) (.node (q52 P) (.node (boot_o_7 P) (.node (q171 P) .nil .nil) (.node (q255 P) .nil .nil)) (.node (q126 P) (.node (q212 P) .nil .nil) .nil)) (.node (q71 P) (.node (boot_o_8 P) (.node (boot_o_8 P) .nil .nil) (.node (boot_o_8 P) .nil .nil)) (.node (boot_o_8 P) (.node (q236 P) .nil .nil) .nil))))) (.node (q1 P) (.node (boot_o_7 P) (.node (q17 P) (.node (q41 P) (.node (boot_o_8 P) (.node (q159 P) .nil .nil) (.node (boot_o_6 P) .nil .nil)) (.node (q115 P) (.node (q201 P) .nil .nil) (.node (q285 P) .nil .nil))) (.node (q59 P) (.node (boot_o_7 P) (.node (q182 P) .nil .nil) (.node (q262 P) .nil .nil)) (.node (boot_o_7 P) (.node (q225 P) .nil .nil) .nil))) (.node (q26 P) (.node (boot_o_8 P) (.node (boot_o_7 P) (.node (q167 P) .nil .nil) (.node (boot_o_8 P) .nil .nil)) (.node (boot_o_8 P) (.node (boot_o_8 P) .nil .nil) .nil)) (.node (boot_o_7 P) (.node (q105 P) (.node (q191 P) .nil .nil) (.node (q275 P) .nil .nil)) (.node (q150 P) (.node (boot_o_7 P) .nil .nil) .nil)))) (.node (boot_o_8 P) (.node (boot_o_7 P) (.node (boot_o_7 P) (.node (q82 P) (.node (q163 P) .nil .nil) (.node (boot_o_7 P) .nil .nil)) (.node (boot_o_7 P) (.node (boot_o_7 P) .nil .nil) .nil)) (.node (q64 P) (.node (boot_o_8 P) (.node (boot_o_7 P) .nil .nil) (.node (boot_o_8 P) .nil .nil)) (.node (q145 P) (.node (q230 P) .nil .nil) .nil))) (.node (q34 P) (.node (q54 P) (.node (q92 P) (.node (q8 P) .nil .nil) (.node (q257 P) .nil .nil)) (.node (q176 P) (.node (q221 P) .nil .nil) .nil)) (.node (q73 P) (.node (q110 P) (.node (q196 P) .nil .nil) (.node (q280 P) .nil .nil)) (.node (q154 P) (.node (boot_o_8 P) .nil .nil) .nil))))))))
noncomputable def dF : Drawn := (@Drawn.mk 0 0 0 0)
noncomputable def lF : Life := (@Life.mk [] [] [] 0 [] [] @Bool.false ⟨[]⟩ [] 0 @Bool.false @Bool.false @Bool.false (0 : Int) [(2000 : Int), (10 : Int), (10 : Int)] @Bool.false 0 @Bool.true [] [] 0 @Bool.false)
noncomputable def hF (P : Params) : Heap := ⟨⟨[boot_o_0 P, boot_o_1 P, boot_o_2 P, q269 P, boot_o_4 P, boot_o_5 P, boot_o_6 P, boot_o_7 P, boot_o_8 P, boot_o_9 P, boot_o_10 P, boot_o_7 P, q270 P, q0 P, q1 P, boot_o_7 P, boot_o_8 P, q4 P, boot_o_7 P, q5 P, q6 P, q7 P, boot_o_7 P, q8 P, q9 P, boot_o_7 P, q10 P, q11 P, q12 P, boot_o_7 P, boot_o_8 P, q13 P, boot_o_7 P, q14 P, q15 P, q16 P, boot_o_7 P, boot_o_8 P, q17 P, boot_o_7 P, q18 P, q19 P, q20 P, boot_o_7 P, boot_o_8 P, q21 P, boot_o_7 P, q22 P, q23 P, q24 P, boot_o_7 P, boot_o_8 P, q25 P, boot_o_7 P, q26 P, q27 P, q28 P, q29 P, q30 P, q137 P, q32 P, q33 P, q34 P, q35 P, boot_o_7 P, q8 P, q38 P, boot_o_7 P, q39 P, q40 P, q41 P, boot_o_7 P, boot_o_8 P, q42 P, boot_o_7 P, q43 P, q44 P, q45 P, boot_o_7 P, boot_o_8 P, q46 P, boot_o_7 P, q47 P, q48 P, q49 P, boot_o_7 P, boot_o_8 P, q50 P, boot_o_7 P, q51 P, q52 P, q53 P, boot_o_7 P, boot_o_8 P, q54 P, q55 P, q56 P, boot_o_7 P, boot_o_8 P, q57 P, boot_o_7 P, q58 P, q59 P, q60 P, boot_o_7 P, boot_o_8 P, q61 P, boot_o_7 P, q62 P, q63 P, q64 P, boot_o_7 P, boot_o_8 P, q65 P, boot_o_7 P, q66 P, q67 P, q68 P, boot_o_7 P, boot_o_8 P, q69 P, q70 P, q71 P, boot_o_7 P, boot_o_8 P, q72 P, q73 P, q74 P, boot_o_7 P, boot_o_8 P, q75 P, q76 P, q77 P, boot_o_7 P, boot_o_8 P, q78 P, boot_o_7 P, q79 P, q80 P, q81 P, boot_o_7 P, boot_o_8 P, q82 P, boot_o_7 P, q83 P, q84 P, q85 P, boot_o_7 P, boot_o_8 P, q86 P, boot_o_7 P, q87 P, q88 P, q89 P, boot_o_7 P, boot_o_8 P, q90 P, q91 P, q92 P, boot_o_7 P, boot_o_8 P, q93 P, boot_o_7 P, q94 P, q95 P, q96 P, boot_o_7 P, boot_o_8 P, q97 P, boot_o_7 P, q98 P, q99 P, q100 P, boot_o_7 P, boot_o_8 P, q101 P, boot_o_7 P, q102 P, q103 P, q104 P, boot_o_7 P, boot_o_8 P, q105 P, q106 P, q107 P, boot_o_7 P, boot_o_8 P, q108 P, boot_o_7 P, q109 P, q110 P, q111 P, boot_o_7 P, boot_o_8 P, q112 P, boot_o_7 P, q113 P, q114 P, q115 P, boot_o_7 P, boot_o_8 P, q116 P, boot_o_7 P, q117 P, q118 P, q119 P, boot_o_7 P, boot_o_8 P, q120 P, boot_o_7 P, q121 P, q122 P, q123 P, boot_o_7 P, boot_o_8 P, q124 P, boot_o_7 P, q125 P, q126 P, q127 P, q128 P, q129 P, q176 P, q131 P, q132 P, q133 P, q134 P, q138 P, q8 P, q139 P, boot_o_7 P, q140 P, q141 P, q142 P, boot_o_7 P, boot_o_8 P, q143 P, q144 P, q145 P, boot_o_7 P, boot_o_8 P, q146 P, boot_o_7 P, q147 P, q148 P, q149 P, q150 P, q151 P, boot_o_6 P, boot_o_7 P, boot_o_8 P, q152 P, boot_o_7 P, q153 P, q154 P, q155 P, q156 P, boot_o_7 P, boot_o_8 P, q157 P, boot_o_7 P, q158 P, q159 P, q160 P, q156 P, boot_o_7 P, boot_o_8 P, q161 P, boot_o_7 P, q162 P, q163 P, q164 P, q156 P, boot_o_7 P, boot_o_8 P, q165 P, boot_o_7 P, q166 P, q167 P, q168 P, q169 P, q170 P, q171 P, q172 P, q173 P, q177 P, q8 P, q178 P, boot_o_7 P, q179 P, q180 P, q181 P, boot_o_7 P, boot_o_8 P, q182 P, boot_o_7 P, q183 P, q184 P, q185 P, boot_o_7 P, boot_o_8 P, q186 P, boot_o_7 P, q187 P, q188 P, q189 P, boot_o_7 P, boot_o_8 P, q190 P, boot_o_7 P, q191 P, q192 P, q193 P, boot_o_7 P, boot_o_8 P, q194 P, boot_o_7 P, q195 P, q196 P, q197 P, boot_o_7 P, boot_o_8 P, q198 P, boot_o_7 P, q199 P, q200 P, q201 P, boot_o_7 P, boot_o_8 P, q202 P, boot_o_7 P, q203 P, q204 P, q205 P, boot_o_7 P, boot_o_8 P, q206 P, boot_o_7 P, q207 P, q208 P, q209 P, boot_o_7 P, boot_o_8 P, q210 P, boot_o_7 P, q211 P, q212 P, q213 P, q214 P, q215 P, q221 P, q217 P, q218 P, q222 P, q8 P, q223 P, boot_o_7 P, q224 P, q225 P, q226 P, boot_o_7 P, boot_o_8 P, q227 P, boot_o_7 P, q228 P, q229 P, q230 P, boot_o_7 P, boot_o_8 P, q231 P, boot_o_7 P, q232 P, q233 P, q234 P, boot_o_7 P, boot_o_8 P, q235 P, boot_o_7 P, q236 P, q237 P, q238 P, boot_o_7 P, boot_o_8 P, q239 P, boot_o_7 P, q240 P, q241 P, q242 P, q243 P, q244 P, boot_o_6 P, boot_o_7 P, boot_o_8 P, q245 P, boot_o_7 P, q246 P, q247 P, q248 P, boot_o_7 P, boot_o_8 P, q249 P, boot_o_7 P, q250 P, q251 P, q252 P, boot_o_7 P, boot_o_8 P, q253 P, boot_o_7 P, q254 P, q255 P, q256 P, boot_o_7 P, boot_o_8 P, q257 P, boot_o_7 P, q258 P, q259 P, q260 P, boot_o_7 P, boot_o_8 P, q261 P, q262 P, q263 P, q264 P, q265 P, q266 P, q267 P, q268 P, boot_o_7 P, boot_o_8 P, q271 P, q272 P, q273 P, boot_o_7 P, boot_o_8 P, q274 P, boot_o_7 P, q275 P, q276 P, q277 P, boot_o_7 P, boot_o_8 P, q278 P, boot_o_7 P, q279 P, q280 P, q281 P, boot_o_7 P, boot_o_8 P, q282 P, boot_o_7 P, q283 P, q284 P, q285 P, boot_o_7 P, boot_o_8 P, q286 P, boot_o_7 P, q287 P, q288 P, q289 P]⟩, lF⟩
noncomputable def sts0 : List Stmt := [at1 0, at1 1, at1 2]
noncomputable def sts1 : List Stmt := [at1 3]
noncomputable def sts2 : List Stmt := [at1 4, at1 5]
noncomputable def sts3 : List Stmt := [at1 6]
noncomputable def sts4 : List Stmt := [at1 7]
noncomputable def sts5 : List Stmt := [at1 8, at1 9, at1 10, at1 11, at1 12, at1 13]
noncomputable abbrev PR : Program := PySem.Challenge.rw_yi0042_01.row.prog
noncomputable abbrev bM : List Stmt := sts0 ++ (sts1 ++ (sts2 ++ (sts3 ++ (sts4 ++ (sts5 ++ [])))))
noncomputable def vM : Env := { scope := PySem.Challenge.pw_yi0042_01.main.scope, locals := mainNs, globals := mainNs, cells := [], code := .ref 13, frame := some 14 }
noncomputable abbrev cM : Code := .body bM vM
noncomputable abbrev BM : List Frame := [topFrame ⟨0, 0, 0, 0⟩]
noncomputable abbrev aM : Option Value := some (.ref 6)
theorem pre0 (w : World) (os : OsState) : topGo treeTable PR w 11 aM 12 ⟨boot_heap w.params, Array.mk [], boot_drawn, boot_toks, os⟩ (topStub PR) = some (⟨hA w.params, Array.mk [], dA, 187, os⟩, ⟨denote treeTable cM, cM, ⟨0, 0, 0, 0⟩, BM⟩) := by
  rewrite [PySem.W.Fast.te15667345088766844465, PySem.W.Fast.te14364793385576792824, PySem.W.Fast.te11892475500146522536]
  kernel_rfl
theorem block0 (w : World) (os : OsState) : segRun treeTable PR w 11 aM 1 1 ⟨hA w.params, Array.mk [], dA, 187, os⟩ (blockOf bM vM cM ⟨0, 0, 0, 0⟩ BM) = some (.next, SharedT.abs ⟨tB w.params, 15, lB, Array.mk [], dB, 187, os⟩, cM, ⟨0, 0, 0, 0⟩) := by
  kernel_rfl
theorem piece0 (w : World) (os : OsState) : segRunT treeTable PR w 11 aM 1 357 ⟨tB w.params, 15, lB, Array.mk [], dB, 187, os⟩ (piecesOf sts0 vM cM ⟨0, 0, 0, 0⟩ BM) = some (.next, ⟨t0 w.params, 64, l0, Array.mk [], d0, 249, os⟩, cM, ⟨5, 0, 22, 52⟩) := by
  unfold piecesOf
  rewrite [PySem.W.Fast.te10110043849684766642, PySem.W.Fast.te14364793385576792824, PySem.W.Fast.te12563942051412417395]
  kernel_rfl
theorem piece1 (w : World) (os : OsState) : segRunT treeTable PR w 11 aM 1 914 ⟨t0 w.params, 64, l0, Array.mk [], d0, 249, os⟩ (piecesOf sts1 vM cM ⟨5, 0, 22, 52⟩ BM) = some (.next, ⟨t1 w.params, 227, l1, Array.mk [], d1, 448, os⟩, cM, ⟨23, 0, 150, 31⟩) := by
  unfold piecesOf
  rewrite [PySem.W.Fast.te10110043849684766642, PySem.W.Fast.te14364793385576792824, PySem.W.Fast.te12563942051412417395]
  kernel_rfl
theorem piece2 (w : World) (os : OsState) : segRunT treeTable PR w 11 aM 1 555 ⟨t1 w.params, 227, l1, Array.mk [], d1, 448, os⟩ (piecesOf sts2 vM cM ⟨23, 0, 150, 31⟩ BM) = some (.next, ⟨t2 w.params, 285, l2, Array.mk [], d2, 534, os⟩, cM, ⟨152, 0, 182, 48⟩) := by
  unfold piecesOf
  rewrite [PySem.W.Fast.te10110043849684766642, PySem.W.Fast.te14364793385576792824, PySem.W.Fast.te12563942051412417395]
  kernel_rfl
theorem piece3 (w : World) (os : OsState) : segRunT treeTable PR w 11 aM 1 472 ⟨t2 w.params, 285, l2, Array.mk [], d2, 534, os⟩ (piecesOf sts3 vM cM ⟨152, 0, 182, 48⟩ BM) = some (.next, ⟨t3 w.params, 353, l3, Array.mk [], d3, 617, os⟩, cM, ⟨183, 0, 208, 59⟩) := by
  unfold piecesOf
  rewrite [PySem.W.Fast.te10110043849684766642, PySem.W.Fast.te14364793385576792824, PySem.W.Fast.te12563942051412417395]
  kernel_rfl
theorem piece4 (w : World) (os : OsState) : segRunT treeTable PR w 11 aM 1 670 ⟨t3 w.params, 353, l3, Array.mk [], d3, 617, os⟩ (piecesOf sts4 vM cM ⟨183, 0, 208, 59⟩ BM) = some (.next, ⟨t4 w.params, 429, l4, Array.mk [], d4, 742, os⟩, cM, ⟨209, 0, 275, 51⟩) := by
  unfold piecesOf
  rewrite [PySem.W.Fast.te10110043849684766642, PySem.W.Fast.te14364793385576792824, PySem.W.Fast.te12563942051412417395]
  kernel_rfl
theorem piece5 (w : World) (os : OsState) : segRunT treeTable PR w 11 aM 1 171 ⟨t4 w.params, 429, l4, Array.mk [], d4, 742, os⟩ (piecesOf sts5 vM cM ⟨209, 0, 275, 51⟩ BM) = some (.next, ⟨t5 w.params, 462, l5, Array.mk [], d5, 797, os⟩, cM, ⟨308, 0, 321, 15⟩) := by
  unfold piecesOf
  rewrite [PySem.W.Fast.te10110043849684766642, PySem.W.Fast.te14364793385576792824, PySem.W.Fast.te12563942051412417395]
  kernel_rfl
theorem fin0 (w : World) (os : OsState) : topRun treeTable PR w 11 aM 2 (SharedT.abs ⟨t5 w.params, 462, l5, Array.mk [], d5, 797, os⟩) ⟨doneF .next, cM, ⟨308, 0, 321, 15⟩, BM⟩ = some ⟨hF w.params, Array.mk [], dF, 797, os⟩ := by
  kernel_rfl
theorem run0 (w : World) (os : OsState) : topRun treeTable PR w 11 aM (12 + (1 + (357 + (914 + (555 + (472 + (670 + (171 + 2)))))))) ⟨boot_heap w.params, Array.mk [], boot_drawn, boot_toks, os⟩ (topStub PR) = some ⟨hF w.params, Array.mk [], dF, 797, os⟩ :=
  go_top (pre0 w os) (piece_block (block0 w os)
    (piece_app (segRun_of (piece0 w os))
    (piece_app (segRun_of (piece1 w os))
    (piece_app (segRun_of (piece2 w os))
    (piece_app (segRun_of (piece3 w os))
    (piece_app (segRun_of (piece4 w os))
    (piece_app (segRun_of (piece5 w os))
    (piece_nil (fin0 w os)))))))))
theorem size0 : ∀ w : World, ((boot_heap w.params).isNs mainGlobals && (Array.mk [] : Array GenState).size == 0, (boot_heap w.params).objs.size, (boot_heap w.params).nsMap mainGlobals "__annotations__") = (true, 11, aM) := fun w => by kernel_rfl
theorem looksA (w : World) (os : OsState) : (staticsOk (importedModules PR.main.body) (boot_heap w.params) (hF w.params) && namesBound PR (hF w.params) && gensDone ⟨hF w.params, Array.mk [], dF, 797, os⟩ && laidKept (boot_heap w.params) (hF w.params)) = true := by kernel_rfl
theorem looksB (w : World) (os : OsState) : openSeen VV [Str.ofString "PolynomialRing", Str.ofString "PolynomialNTT"] (importedModules PR.main.body) XT true ⟨hF w.params, Array.mk [], dF, 797, os⟩ = openGood VV [Str.ofString "PolynomialRing", Str.ofString "PolynomialNTT"] := by
  rewrite [PySem.W.Fast.te4187177175401517315]
  kernel_rfl
theorem looksC (w : World) (os : OsState) : HK.obs ⟨hF w.params, Array.mk [], dF, 797, os⟩ = HK.val w := by kernel_rfl
theorem open0 : ∀ w : World, (fencedOpening treeTable PR w 6392).map (fun s => (s.heap, s.gens, s.drawn, s.toks)) = some (boot_heap w.params, Array.mk [], boot_drawn, boot_toks) :=
  boot_open (by kernel_rfl) (by decide) (fun s => by kernel_rfl)
theorem left0 : LeftO PR VV [Str.ofString "PolynomialRing", Str.ofString "PolynomialNTT"] XT HK.obs HK.val 6392 :=
  LeftO.of_pieces open0 size0 run0 (by decide) (fun w => funext fun os => Prod.ext (looksA w os) (Prod.ext (looksB w os) (looksC w os)))
end Mine
end PartNRun

section PartPow3
open PySem PySem.W PyProof.Rows
namespace Mine
set_option maxRecDepth 100000
theorem entry_pow3 : entryFor table "pow" = some Builtin.«pow» := entryFor_of_fast (by kernel_rfl)
theorem kind_pow3 : builtinKind "pow" = none := by decide +kernel
theorem plain_pow3 : plainId "pow" = true := by decide +kernel
theorem args_pow3 (a b c : Value) : argsOk "pow" ⟨[a, b, c], []⟩ := by unfold argsOk; kernel_rfl
theorem args_int_pow3 (a b c : Value) : argsOk "int.__pow__" ⟨[a, b, c], []⟩ := by unfold argsOk; kernel_rfl

section
variable {prog : Program} {w : World} {A : Around} {E : Value → Shared → Prop} {s : Shared} {b e m : Int} {tb te tm : Tok} {Q : Value → Shared → Prop}

theorem int_pow3 (he : 0 ≤ e) (hm : 1 < m)
    (h : Q (.int (Builtin.powMod (b % m).toNat e.natAbs m.natAbs : Nat) s.toks) { s with toks := s.toks + 1 }) :
    wpAny (model prog w) A (call (.builtin "int.__pow__") [.int b tb, .int e te, .int m tm]) (fun v s' => v ≠ .notImplemented ∧ Q v s') E s := by
  refine wpAny_call_entry slot_int_pow (typeIs_int s b tb) entry_int_pow ?_ (args_int_pow3 _ _ _)
  have hm0 : (m == 0) = false := by simp; omega
  have hm1 : (m.natAbs == 1) = false := by simp; omega
  have hy : ¬ e < 0 := by omega
  have hmn : ((m.natAbs : Nat) : Int) = m := by omega
  have hmneg : (decide (m < 0) && ((Builtin.powMod (b % m).toNat e.natAbs m.natAbs : Nat) : Int) != 0) = false := by
    have : decide (m < 0) = false := by simp; omega
    rw [this]; rfl
  show wpAny _ _ (do
    if m == 0 then rule "int.pow.modulus-zero"; raiseError "ValueError" "pow() 3rd argument cannot be 0"
    let n := m.natAbs
    if n == 1 then rule "int.pow.modulus-one"; return ← retInt 0
    let mut base := (b % (n : Int)).toNat
    if e < 0 then
      rule "int.pow.inverse"
      Builtin.roomForPylong b n
      Builtin.roomForPylongsInverse n
      match Builtin.euclid (2 * Builtin.Int.intBits m + 2) n base 0 1 with
      | none => unsupported "internal:int.pow:euclid-bound"
      | some (g, s) =>
        if g != 1 then
          rule "int.pow.not-invertible"; raiseError "ValueError" "base is not invertible for the given modulus"
        base := (s % (n : Int)).toNat
    let r : Int := Builtin.powMod base e.natAbs n
    retInt (if m < 0 && r != 0 then r - n else r)) _ _ s
  simp only [hm0, hm1, hy, hmn, Bool.false_eq_true, if_false, pure_bind, hmneg]
  exact wpAny_bind (wpAny_mkInt (wpAny_pure ⟨_, rfl, by simp, h⟩))

set_option maxHeartbeats 4000000 in
theorem call_pow3 (he : 0 ≤ e) (hm : 1 < m)
    (h : Q (.int (Builtin.powMod (b % m).toNat e.natAbs m.natAbs : Nat) s.toks) { s with toks := s.toks + 1 }) :
    wpAny (model prog w) A (call (.builtin "pow") [.int b tb, .int e te, .int m tm]) Q E s := by
  refine Calls.call_function_entry kind_pow3 plain_pow3 entry_pow3 (args_pow3 _ _ _) ?_
  unfold Builtin.«pow»
  refine wpAny_bind (wpAny_of_eq (show Builtin.Builtins.bindParams "pow" ["base", "exp", "mod"] 2 ⟨[Value.int b tb, .int e te, .int m tm], []⟩ = pure [some (.int b tb), some (.int e te), some (.int m tm)] from rfl) ?_)
  dsimp only [Option.getD_some]
  refine wpAny_bind (wpAny_rule ?_)
  refine wpAny_bind (wpAny_typeOf (typeIs_int s b tb) ?_)
  refine wpAny_bind (m := typeLookup (.type "int") (Str.ofString "__pow__")) (wpAny_of_eq slot_int_pow.lookup ?_)
  refine wpAny_bind (m := callSpecial? (.int b tb) (Str.ofString "__pow__") [.int e te, .int m tm]) (wpAny_callSpecial?_slot (typeIs_int s b tb) slot_int_pow ?_)
  refine wpAny_mono (int_pow3 (s := s) (Q := Q) he hm h) (fun v s' hv => ?_) fun _ _ x => x
  obtain ⟨hv1, hv2⟩ := hv
  have hne : (v != Value.notImplemented) = true := by simpa using hv1
  dsimp only
  rw [if_pos hne]
  exact wpAny_pure ⟨_, rfl, hv2⟩
end
end Mine
end PartPow3

section PartNBase
open PySem PySem.W PyProof.Rows
namespace Mine
set_option maxRecDepth 100000
abbrev TopM (mean : ExcName → Option Value) (mg mb : Str → Option Value) (h : Heap) : Prop := Top VV (looseW VV [Str.ofString "PolynomialRing", Str.ofString "PolynomialNTT"]) mean mg mb h
end Mine
end PartNBase

section PartNT1
open PySem PySem.W PyProof.Rows
namespace Mine
set_option maxRecDepth 100000
local macro_rules | `(tactic| k_all) => `(tactic| assumption)
theorem pos_set {ns : List Int} {j : Nat} {v : Int} (h : ∀ n ∈ ns, 0 ≤ n) (hv : 0 ≤ v) : ∀ n ∈ ns.set j v, 0 ≤ n := fun n hn => by
  rcases List.mem_or_eq_of_mem_set hn with h1 | h1
  · exact h n h1
  · rw [h1]; exact hv
theorem pos_getD {ns : List Int} {j : Nat} (h : ∀ n ∈ ns, 0 ≤ n) : 0 ≤ ns.getD j 0 := by
  rw [List.getD_eq_getElem?_getD]
  cases hg : ns[j]? with
  | none => simp
  | some x => exact h x (List.mem_of_getElem? hg)
theorem fdiv_pos {a b : Int} (ha : 0 ≤ a) (hb : 0 < b) : 0 ≤ a.fdiv b := by
  rw [Int.fdiv_eq_ediv_of_nonneg _ (by omega)]; exact Int.ediv_nonneg ha (by omega)

set_option maxHeartbeats 8000000 in
theorem take_ok {w : World} {mean : ExcName → Option Value} {mg mb : Str → Option Value} (dp un : Nat) (gd : Option (List Code)) (cn : Str) (cs : Scope) (a : Addr) (ccd : Value) (cl : List (Str × Addr)) (outer : List Env) (A₀ : Around) (base h₀ : Heap) (L : Addr) (m : Str → Option Value) (s : Shared) (Q E : Value → Shared → Prop)
    (aS aC : Addr) (i : Int) (ti : Tok) (vs : List Value) (ns : List Int) (nS nC : Nat) (rest : List (Addr × Obj)) (most : Int) (tm : Tok)
    (B : Below A₀ base outer h₀) (F : Fr h₀ L s.heap m) (X : (KK w.params).In h₀)
    (N : News h₀ L s.heap ((aS, listOf #[.int i ti, .ref aC] nS) :: (aC, listOf vs.toArray nC) :: rest))
    (T : TopM mean mg mb h₀) (hk : cs.kind = .function) (hI : IntsAre vs ns) (hpos : ∀ n ∈ ns, 0 ≤ n) (hlen0 : 0 < ns.length) (hlen : ns.length ≤ 63)
    (hi0 : 0 ≤ i) (hi1 : i ≤ 1000) (hm0 : 4 ≤ most) (hm1 : most ≤ 4000) (hne : @Ne Nat aS aC) (hr1 : ∀ p ∈ rest, p.1 ≠ aS) (hr2 : ∀ p ∈ rest, p.1 ≠ aC)
    (hd : dp + 1 < recursionLimit) (hu : un + 8 < cLine)
    (hret : ∀ (r : Int) (tr : Tok) (i' : Int) (ti' : Tok) (vs' : List Value) (ns' : List Int) (nS' nC' : Nat) (h' : Heap) (tk' : Nat), Fr h₀ L h' m →
      News h₀ L h' ((aS, listOf #[.int i' ti', .ref aC] nS') :: (aC, listOf vs'.toArray nC') :: rest) → IntsAre vs' ns' → (∀ n ∈ ns', 0 ≤ n) → ns'.length = ns.length → 0 ≤ i' → i' ≤ i + 1 → 0 ≤ r → r < most →
      Q (.int r tr) { s with heap := h', toks := tk' }) :
    wpAny (model Challenge.rw_yi0042_01.row.prog w) (ktrTop dp un gd cn cs L a ccd cl outer) (call (.ref 440) [.ref aS, .int most tm]) Q E s := by
  revert X; k_fill; intro X
  refine wpAny_call ?_
  k_dflt cell_enter
  k_steps
  · refine hret _ _ _ _ _ _ _ _ _ _ (by assumption) (by assumption) (by assumption) (pos_set hpos (fdiv_pos (pos_getD hpos) (by omega))) (by assumption) hi0 (by omega) (Int.fmod_nonneg_of_pos _ (by omega)) (Int.fmod_lt_of_pos _ (by omega))
  · refine hret _ _ _ _ _ _ _ _ _ _ (by assumption) (by assumption) hI hpos rfl (by omega) (by omega) (Int.fmod_nonneg_of_pos _ (by omega)) (Int.fmod_lt_of_pos _ (by omega))
end Mine
end PartNT1

section PartInt2
open PySem PySem.W PyProof.Rows PySem.NumText
namespace Mine
set_option maxRecDepth 100000
noncomputable def numOf (x : int_private% "Numeral") : Option Int := (int_private% "Numeral.rec") (motive := fun _ => Option Int) none (fun _ => none) none (fun i => some i) x
theorem numOf_some {x : int_private% "Numeral"} {i : Int} (h : numOf x = some i) : x = (int_private% "Numeral.value") i := by
  cases x with
  | value j => exact congrArg _ (Option.some.inj h)
  | _ => cases h
noncomputable def readTwo (x : Str) : Option Int := if (numSeenOf x).length == (numTextOf x).length && decide ((numSeenOf x).length ≤ 640) then numOf ((int_private% "readNumeral") 0 2 (numSeenOf x)) else none

theorem wp_text2 {M : Model} {A : Around} {E : Value → Shared → Prop} {s : Shared} {Q : Value → Shared → Prop} {v : Value} {text : List Nat} {n : Int}
    (hs : (text.takeWhile (· != 0)).length ≤ 640) (hr : (int_private% "readNumeral") 0 2 (text.takeWhile (· != 0)) = (int_private% "Numeral.value") n)
    (ha : ((text.takeWhile (· != 0)).length == text.length) = true) (h : Q (.int n s.toks) { s with toks := s.toks + 1 }) :
    wpAny M A ((int_private% "intFromText") v text 2) Q E s := by
  obtain ⟨hp, g, d, tk, os⟩ := s
  repeat (any_goals (first
    | assumption
    | (with_reducible refine wpAny_ite_true (decide_eq_true hs) ?_)
    | (with_reducible refine wpAny_ite_true (decide_eq_true ha) ?_)
    | wp_step))
  all_goals (try rw [hr])
  all_goals (try dsimp only)
  repeat (any_goals (first
    | assumption
    | (with_reducible refine wpAny_ite_true (decide_eq_true hs) ?_)
    | (with_reducible refine wpAny_ite_true (decide_eq_true ha) ?_)
    | wp_step))

set_option maxHeartbeats 4000000 in
theorem gives_text2 {x : PySem.Str} {u v : Tok} {n : Int} (hn : readTwo x = some n) : Gives (Builtin.«int.__new__» ⟨[.type "int", .str x u, .int 2 v], []⟩) (.int n) :=
  .of_wp fun M A E s Q h => by
    obtain ⟨hp, g, d, tk, os⟩ := s
    have f1 := F.conv_sub_int
    have f2 := F.madeHere_int
    have f6 : typeOf (.str x u) = pure (.type "str") := rfl
    have hk : KIN.Hid ((numSeenOf x).length ≤ 640 ∧ (int_private% "readNumeral") 0 2 (numSeenOf x) = (int_private% "Numeral.value") n ∧ ((numSeenOf x).length == (numTextOf x).length) = true) := by
      unfold readTwo at hn
      split at hn
      · rename_i h9
        simp only [Bool.and_eq_true, decide_eq_true_eq] at h9
        exact ⟨h9.2, numOf_some hn, h9.1⟩
      · cases hn
    clear hn
    repeat (any_goals (first
      | assumption
      | ((with_reducible show wpAny _ _ ((int_private% "intFromText") _ _ _) _ _ _); refine wp_text2 hk.out.1 hk.out.2.1 hk.out.2.2 ?_)
      | wp_step))
    all_goals (first | exact ⟨_, rfl, h⟩ | skip)
theorem typeCall_int_2 (a b : Value) : checkTypeCall "int" ⟨[a, b], []⟩ = pure () := by kernel_rfl
theorem newCall_int_2 (a b : Value) : checkBuiltinCall "int.__new__" ⟨[.type "int", a, b], []⟩ = pure () := by kernel_rfl
theorem args_object_init_3 (a b c : Value) : argsOk "object.__init__" ⟨[a, b, c], []⟩ := by unfold argsOk; kernel_rfl
section
variable {prog : Program} {w : World} {A : Around} {E : Value → Shared → Prop} {s : Shared} {Q : Value → Shared → Prop} {x : PySem.Str} {t u : Tok} {n : Int}
theorem call_text2 (hn : readTwo x = some n) (h : Q (.int n s.toks) { s with toks := s.toks + 1 }) : wpAny (model prog w) A (call (.type "int") [.str x t, .int 2 u]) Q E s :=
  callType_new F.called_int F.newNe_int (typeCall_int_2 _ _) (newCall_int_2 _ _) (fun obj => args_object_init_3 obj _ _) F.entry_int_new (gives_text2 hn).meets (show (Made.int n).post _ s from ⟨rfl, h⟩)
end
end Mine
end PartInt2

section PartNT3
open PySem PySem.W PyProof.Rows
namespace Mine
set_option maxRecDepth 100000
theorem bin_lenN : ∀ n : Nat, n < 128 → (baseText "0b" 2 (Builtin.bitAnd (n : Int) (2 ^ Int.toNat 7 - 1))).length ≤ 20 := by decide +kernel
theorem bin_len {i : Int} (h0 : 0 ≤ i) (h1 : i < 128) : (baseText "0b" 2 (Builtin.bitAnd i (2 ^ Int.toNat 7 - 1))).length ≤ sizeLine := by
  have := bin_lenN i.toNat (by omega)
  rw [Int.toNat_of_nonneg h0] at this
  rw [sizeLine_eq]
  omega
def binT (i : Int) : Str := Txt.zfill (Txt.slice (baseText "0b" 2 (Builtin.bitAnd i (2 ^ Int.toNat 7 - 1))) (some 2) none) 7
theorem binT_lenN : ∀ n : Nat, n < 128 → (binT n).length ≤ 20 := by decide +kernel
theorem binT_len {i : Int} (h0 : 0 ≤ i) (h1 : i < 128) : (binT i).length ≤ sizeLine := by
  have := binT_lenN i.toNat (by omega)
  rw [Int.toNat_of_nonneg h0] at this
  rw [sizeLine_eq]
  omega
/-- the bits of k (b of them), turned around -/
def brev : Nat → Nat → Nat
  | 0, _ => 0
  | b + 1, n => n % 2 * 2 ^ b + brev b (n / 2)
theorem binR_N : ∀ n : Nat, n < 128 → readTwo (Txt.sliceBy (binT n) none none (-1, 0)) = some ((brev 7 n : Nat) : Int) := by decide +kernel
theorem binR {i : Int} (h0 : 0 ≤ i) (h1 : i < 128) (u : Tok) : readTwo (Txt.sliceBy (binT i) none none (-1, u)) = some ((brev 7 i.toNat : Nat) : Int) := by
  have := binR_N i.toNat (by omega)
  rw [Int.toNat_of_nonneg h0] at this
  exact this
structure TxA (i : Int) (x : Str) : Prop where
  h0 : 0 ≤ i
  h1 : i < 128
  eq : x = baseText "0b" 2 (Builtin.bitAnd i (2 ^ Int.toNat 7 - 1))
structure TxB (i : Int) (x : Str) : Prop where
  h0 : 0 ≤ i
  h1 : i < 128
  eq : x = Txt.slice (baseText "0b" 2 (Builtin.bitAnd i (2 ^ Int.toNat 7 - 1))) (some 2) none
structure TxC (i : Int) (x : Str) : Prop where
  h0 : 0 ≤ i
  h1 : i < 128
  eq : x = binT i
structure TxD (i : Int) (x : Str) : Prop where
  h0 : 0 ≤ i
  h1 : i < 128
  eq : readTwo x = some ((brev 7 i.toNat : Nat) : Int)
section
variable {prog : Program} {w : World} {A : Around} {E : Value → Shared → Prop} {s : Shared} {value slice : PySem.Expr} {x : Str} {t u : Tok} {h₀ : Heap} {L : Addr} {m : Str → Option Value} {news : List (Addr × Obj)} {Q : Value → Shared → Prop} {i : Int}
theorem tx_bin (h0 : 0 ≤ i) (h1 : i < 128) (h : ∀ x, TxA i x → Q (.str x s.toks) { s with toks := s.toks + 1 }) : wpAny (model prog w) A (call (.builtin "bin") [.int (Builtin.bitAnd i (2 ^ Int.toNat 7 - 1)) t]) Q E s :=
  P.bin_of_int (h _ ⟨h0, h1, rfl⟩) (bin_len h0 h1)
theorem tx_cut (X : TxA i x) (hF : Fr h₀ L s.heap m) (hN : News h₀ L s.heap news) (h : ∀ h' t' k y, Fr h₀ L h' m → News h₀ L h' news → TxB i y → Q (.str y t') { s with heap := h', toks := k })
    (hs : subscripted slice false (.str x t) (.ref s.heap.objs.size) = operate [.ref s.heap.objs.size, .str x t] (getItem (.str x t) (.ref s.heap.objs.size)) := by with_unfolding_all rfl)
    (ht : ∀ r, letTemporaryGo value (.str x t) r = pure () := by intro _; with_unfolding_all rfl) :
    wpAny (model prog w) A (subscriptTail value slice (.str x t) (.ref s.heap.objs.size)) Q E { s with heap := s.heap.push { cls := .type "slice", data := .fields #[.int 2 u, .none, .none] } } :=
  slice_strN_sn hF hN (fun h' t' k a b => h h' t' k _ a b ⟨X.h0, X.h1, by rw [X.eq]⟩) hs ht (by rw [X.eq]; exact bin_len X.h0 X.h1)
theorem tx_fill (X : TxB i x) (h : ∀ t' k y, TxC i y → Q (.str y t') { s with toks := k }) : wpAny (model prog w) A (call (.builtin "str.zfill") [.str x t, .int 7 u]) Q E s :=
  SC.zfill (by decide) fun t' k => h t' k _ ⟨X.h0, X.h1, by rw [X.eq]; rfl⟩
theorem tx_turn {uk : Tok} (X : TxC i x) (hF : Fr h₀ L s.heap m) (hN : News h₀ L s.heap news) (h : ∀ h' t' k y, Fr h₀ L h' m → News h₀ L h' news → TxD i y → Q (.str y t') { s with heap := h', toks := k })
    (hs : subscripted slice false (.str x t) (.ref s.heap.objs.size) = operate [.ref s.heap.objs.size, .str x t] (getItem (.str x t) (.ref s.heap.objs.size)) := by with_unfolding_all rfl)
    (ht : ∀ r, letTemporaryGo value (.str x t) r = pure () := by intro _; with_unfolding_all rfl) :
    wpAny (model prog w) A (subscriptTail value slice (.str x t) (.ref s.heap.objs.size)) Q E { s with heap := s.heap.push { cls := .type "slice", data := .fields #[.none, .none, .int (-1) uk] } } :=
  slice_strK_nn hF hN (by decide) (fun h' t' k a b => h h' t' k _ a b ⟨X.h0, X.h1, by rw [X.eq]; exact binR X.h0 X.h1 _⟩) hs ht (by rw [X.eq]; exact binT_len X.h0 X.h1)
theorem tx_int (X : TxD i x) (h : Q (.int ((brev 7 i.toNat : Nat) : Int) s.toks) { s with toks := s.toks + 1 }) : wpAny (model prog w) A (call (.type "int") [.str x t, .int 2 u]) Q E s := call_text2 X.eq h
end
local macro_rules | `(tactic| walk_at "call builtin:bin") => `(tactic| (refine tx_bin (by assumption) (by assumption) ?_; intro _ _))
local macro_rules | `(tactic| walk_at "subscriptTail") => `(tactic| (k_here; (with_reducible show wpAny _ _ (subscriptTail _ (Expr.Slice (some _) none none _) (Value.str _ _) (Value.ref _)) _ _ _); (with_reducible rename Fr _ _ _ _ => F'); (with_reducible rename News _ _ _ _ => N'); (refine tx_cut (s := ⟨_, _, _, _, _⟩) (by assumption) F' N' ?_); intro _ _ _ _ _ _ _))
local macro_rules | `(tactic| walk_at "call builtin:str.zfill") => `(tactic| (refine tx_fill (by assumption) ?_; intro _ _ _ _))
local macro_rules | `(tactic| walk_at "subscriptTail") => `(tactic| (k_here; (with_reducible show wpAny _ _ (subscriptTail _ (Expr.Slice none none (some _) _) (Value.str _ _) (Value.ref _)) _ _ _); (with_reducible rename Fr _ _ _ _ => F'); (with_reducible rename News _ _ _ _ => N'); (refine tx_turn (s := ⟨_, _, _, _, _⟩) (by assumption) F' N' ?_); intro _ _ _ _ _ _ _))
local macro_rules | `(tactic| walk_at "call type:int") => `(tactic| (refine tx_int (by assumption) ?_))
set_option maxHeartbeats 400000 in
theorem br_ok {w : World} {mean : ExcName → Option Value} {mg mb : Str → Option Value} (dp un : Nat) (gd : Option (List Code)) (cn : Str) (cs : Scope) (a : Addr) (ccd : Value) (cl : List (Str × Addr)) (outer : List Env) (A₀ : Around) (base h₀ : Heap) (L : Addr) (m : Str → Option Value) (s : Shared) (Q E : Value → Shared → Prop)
    (news : List (Addr × Obj)) (i : Int) (ti tk : Tok)
    (B : Below A₀ base outer h₀) (F : Fr h₀ L s.heap m) (X : (KK w.params).In h₀)
    (N : News h₀ L s.heap news)
    (T : TopM mean mg mb h₀) (hk : cs.kind = .function) (hp0 : 0 ≤ i) (hp1 : i < 128)
    (hd : dp + 1 < recursionLimit)
    (hret : ∀ (t : Tok) (h' : Heap) (tk' : Nat), Fr h₀ L h' m → News h₀ L h' news → 
      Q (.int ((brev 7 i.toNat : Nat) : Int) t) { s with heap := h', toks := tk' }) :
    wpAny (model Challenge.rw_yi0042_01.row.prog w) (ktrTop dp un gd cn cs L a ccd cl outer) (call (.ref 245) [.int i ti, .int 7 tk]) Q E s := by
  revert X; k_fill; intro X
  refine wpAny_call ?_
  k_dflt cell_enter
  k_steps
  all_goals exact hret _ _ _ (by assumption) (by assumption)
end Mine
end PartNT3

section PartNT2
open PySem PySem.W PyProof.Rows
namespace Mine
set_option maxRecDepth 100000
local macro_rules | `(tactic| walk_at "call builtin:pow") => `(tactic| ((with_reducible show wpAny _ _ (call (Value.builtin "pow") [Value.int _ _, Value.int _ _, Value.int _ _]) _ _ _); refine call_pow3 ?k1 ?k2 ?_; (case k1 => (simp only [Int.fmod_eq_emod_of_nonneg _ (by decide : (0:Int) ≤ 2), Int.fdiv_eq_ediv_of_nonneg _ (by decide : (0:Int) ≤ 2)]; omega)); (case k2 => decide)))

def rootZ (n : Nat) : Int := ((17 ^ (2 * brev 7 n + 1) % 3329 : Nat) : Int)
theorem root_eqN : ∀ n : Nat, n < 128 → ((Builtin.powMod (17 % 3329 : Int).toNat (2 *
            (2 *
                (2 *
                    (2 * (2 * (2 * (2 * (2 * 0 + (n : Int).fmod 2) + ((n : Int).fdiv 2).fmod 2) + (((n : Int).fdiv 2).fdiv 2).fmod 2) + ((((n : Int).fdiv 2).fdiv 2).fdiv 2).fmod 2) +
                      (((((n : Int).fdiv 2).fdiv 2).fdiv 2).fdiv 2).fmod 2) +
                  ((((((n : Int).fdiv 2).fdiv 2).fdiv 2).fdiv 2).fdiv 2).fmod 2) +
              (((((((n : Int).fdiv 2).fdiv 2).fdiv 2).fdiv 2).fdiv 2).fdiv 2).fmod 2) +
          1).natAbs (3329 : Int).natAbs : Nat) : Int) = rootZ n := by decide +kernel
theorem root_eq {place : Int} (h0 : 0 ≤ place) (h1 : place < 128) : ((Builtin.powMod (17 % 3329 : Int).toNat (2 *
            (2 *
                (2 *
                    (2 * (2 * (2 * (2 * (2 * 0 + place.fmod 2) + (place.fdiv 2).fmod 2) + ((place.fdiv 2).fdiv 2).fmod 2) + (((place.fdiv 2).fdiv 2).fdiv 2).fmod 2) +
                      ((((place.fdiv 2).fdiv 2).fdiv 2).fdiv 2).fmod 2) +
                  (((((place.fdiv 2).fdiv 2).fdiv 2).fdiv 2).fdiv 2).fmod 2) +
              ((((((place.fdiv 2).fdiv 2).fdiv 2).fdiv 2).fdiv 2).fdiv 2).fmod 2) +
          1).natAbs (3329 : Int).natAbs : Nat) : Int) = rootZ place.toNat := by
  have := root_eqN place.toNat (by omega)
  rw [Int.toNat_of_nonneg h0] at this
  exact this
theorem unrEndV {h₀ : Heap} {L I : Addr} {it : Obj} {rest : (Str → Option Value) → List (Addr × Obj) → Prop} {s₁ : Shared} {h' : Heap} {tk : Nat} {m' : Str → Option Value} {news' : List (Addr × Obj)} (F : Fr h₀ L h' m') (N : News h₀ L h' ((I, it) :: news'))
    (off : ∀ p ∈ news', p.1 < I) (r : rest m' news') : UnrEnd h₀ L s₁ I it rest { s₁ with heap := h', toks := tk } :=
  UnrEnd.intro F N news' (fun _ h => h) (fun p hp => Nat.ne_of_lt (off p hp)) r
local macro_rules | `(tactic| walk_at "UnrEnd") => `(tactic| (with_unfolding_all refine unrEndV (by assumption) (by assumption) (by assumption) ?_))
set_option maxHeartbeats 8000000 in
theorem root_ok {w : World} {mean : ExcName → Option Value} {mg mb : Str → Option Value} (dp un : Nat) (gd : Option (List Code)) (cn : Str) (cs : Scope) (a : Addr) (ccd : Value) (cl : List (Str × Addr)) (outer : List Env) (A₀ : Around) (base h₀ : Heap) (L : Addr) (m : Str → Option Value) (s : Shared) (Q E : Value → Shared → Prop)
    (news : List (Addr × Obj)) (place : Int) (tp : Tok)
    (B : Below A₀ base outer h₀) (F : Fr h₀ L s.heap m) (X : (KK w.params).In h₀)
    (N : News h₀ L s.heap news)
    (T : TopM mean mg mb h₀) (hk : cs.kind = .function) (hp0 : 0 ≤ place) (hp1 : place < 128)
    (hd : dp + 1 < recursionLimit)
    (hret : ∀ (t : Tok) (h' : Heap) (tk' : Nat), Fr h₀ L h' m → News h₀ L h' news → 
      Q (.int (rootZ place.toNat) t) { s with heap := h', toks := tk' }) :
    wpAny (model Challenge.rw_yi0042_01.row.prog w) (ktrTop dp un gd cn cs L a ccd cl outer) (call (.ref 447) [.int place tp]) Q E s := by
  revert X; k_fill; intro X
  refine wpAny_call ?_
  k_dflt cell_enter
  k_steps
  all_goals (
    rw [root_eq hp0 hp1]
    exact hret _ _ _ (by assumption) (by assumption))
end Mine
end PartNT2

section PartNDefs
open PySem PySem.W PyProof.Rows
namespace Mine
set_option maxRecDepth 100000
abbrev ent (w : World) (k : String) (t : Tok) (v : Value) : DictEntry := ⟨PyData.keyHash w.params (Str.ofString k), .str (Str.ofString k) t, v⟩
structure Tk8 where
  (a b c d e f g : Tok)
abbrev ringDict (w : World) (t : Tk8) (z : Addr) (n : Nat) : Obj :=
  dictOf [ent w "q" t.a (.int 3329 t.b), ent w "n" t.c (.int 256 t.d), ent w "ntt_zetas" t.e (.ref z), ent w "ntt_f" t.f (.int 3303 t.g)] n
abbrev polyDict (w : World) (t u : Tok) (x c : Addr) (n : Nat) : Obj := dictOf [ent w "parent" t (.ref x), ent w "coeffs" u (.ref c)] n
def zetaL : List Int := (List.range 128).map fun k => ((17 ^ brev 7 k % 3329 : Nat) : Int)
theorem zeta_eq : List.map (fun k' => ((Builtin.powMod (17 % 3329 : Int).toNat (((brev 7 (Int.toNat k') : Nat) : Int)).natAbs (Int.natAbs 3329) : Nat) : Int)) (rangeKs 0 (128 - 0 : Int).toNat) = zetaL := by decide +kernel
theorem allLt_mem {d : Addr} {l : List (Addr × Obj)} (h : AllLt d l) : ∀ p ∈ l, @LT.lt Nat _ p.1 d := by
  induction l with
  | nil => intro p hp; cases hp
  | cons q r ih =>
    intro p hp
    rcases List.mem_cons.mp hp with e | hp
    · rw [e]; exact h.1
    · exact ih h.2 p hp
theorem allNe {d c : Nat} {l : List (Addr × Obj)} (h : AllLt d l) (hc : d ≤ c) : ∀ p ∈ l, p.1 ≠ c := fun p hp e => Nat.lt_irrefl _ (Nat.lt_of_lt_of_le (allLt_mem h p hp) (e ▸ hc))
theorem allLt_up {d c : Nat} {l : List (Addr × Obj)} (h : AllLt d l) (hc : d ≤ c) : AllLt c l := allLt_of fun p hp => Nat.lt_of_lt_of_le (allLt_mem h p hp) hc
theorem off1_ne {d : Addr} {l : List (Addr × Obj)} (h : LCg.Off1 d l) : ∀ p ∈ l, @Ne Nat p.1 d := by
  induction l with
  | nil => intro p hp; cases hp
  | cons q r ih =>
    intro p hp
    rcases List.mem_cons.mp hp with e | hp
    · rw [e]; exact h.1
    · exact ih h.2 p hp
theorem news_sub {h₀ h : Heap} {L : Addr} {news news' : List (Addr × Obj)} (N : News h₀ L h news) (hs : ∀ p ∈ news', p ∈ news) : News h₀ L h news' := fun p hp => N p (hs p hp)
end Mine
end PartNDefs

section PartNT5
open PySem PySem.W PyProof.Rows
namespace Mine
set_option maxRecDepth 100000
local macro_rules | `(tactic| walk_at "call ref") => `(tactic| ((with_reducible show wpAny _ _ (call (Value.ref 245) [Value.int _ _, Value.int 7 _]) _ _ _); k_dflt (refine' br_ok _ _ _ _ _ _ _ _ _ _ _ _ _ _ _ _ _ _ _ _ _ ?k1 ?k2 ?k3 ?k4 ?k5 ?k6 ?k7 ?k8 ?k9 ?_; (case k1 => k_asm); (case k2 => k_asm); (case k3 => k_asm); (case k4 => k_asm); (case k5 => k_asm); (case k6 => exact rfl); (case k7 => first | assumption | omega); (case k8 => first | assumption | omega); (case k9 => ktr_room)); intro _ h' _ F' N'; (try dsimp only); (try k_fold)))
set_option maxHeartbeats 4000000 in
theorem call_powinv {prog : Program} {w : World} {A : Around} {E : Value → Shared → Prop} {s : Shared} {tb te tm : Tok} {Q : Value → Shared → Prop}
    (h : ∀ t k, Q (.int 3303 t) { s with toks := k }) :
    wpAny (model prog w) A (call (.builtin "pow") [.int 128 tb, .int (-1) te, .int 3329 tm]) Q E s := by
  refine Calls.call_function_entry kind_pow3 plain_pow3 entry_pow3 (args_pow3 _ _ _) ?_
  unfold Builtin.«pow»
  refine wpAny_bind (wpAny_of_eq (show Builtin.Builtins.bindParams "pow" ["base", "exp", "mod"] 2 ⟨[Value.int 128 tb, .int (-1) te, .int 3329 tm], []⟩ = pure [some (.int 128 tb), some (.int (-1) te), some (.int 3329 tm)] from rfl) ?_)
  dsimp only [Option.getD_some]
  refine wpAny_bind (wpAny_rule ?_)
  refine wpAny_bind (wpAny_typeOf (typeIs_int s 128 tb) ?_)
  refine wpAny_bind (m := typeLookup (.type "int") (Str.ofString "__pow__")) (wpAny_of_eq slot_int_pow.lookup ?_)
  refine wpAny_bind (m := callSpecial? (.int 128 tb) (Str.ofString "__pow__") [.int (-1) te, .int 3329 tm]) (wpAny_callSpecial?_slot (typeIs_int s 128 tb) slot_int_pow ?_)
  have key : wpAny (model prog w) A.in1 (call (.builtin "int.__pow__") [.int 128 tb, .int (-1) te, .int 3329 tm]) (fun v s' => v ≠ .notImplemented ∧ Q v s') E s := by
    refine wpAny_call_entry slot_int_pow (typeIs_int s 128 tb) entry_int_pow ?_ (args_int_pow3 _ _ _)
    show wpAny _ _ (do
      if (3329 : Int) == 0 then rule "int.pow.modulus-zero"; raiseError "ValueError" "pow() 3rd argument cannot be 0"
      let n := (3329 : Int).natAbs
      if n == 1 then rule "int.pow.modulus-one"; return ← retInt 0
      let mut base := ((128 : Int) % (n : Int)).toNat
      if (-1 : Int) < 0 then
        rule "int.pow.inverse"
        Builtin.roomForPylong 128 n
        Builtin.roomForPylongsInverse n
        match Builtin.euclid (2 * Builtin.Int.intBits 3329 + 2) n base 0 1 with
        | none => unsupported "internal:int.pow:euclid-bound"
        | some (g, s) =>
          if g != 1 then
            rule "int.pow.not-invertible"; raiseError "ValueError" "base is not invertible for the given modulus"
          base := (s % (n : Int)).toNat
      let r : Int := Builtin.powMod base (-1 : Int).natAbs n
      retInt (if (3329 : Int) < 0 && r != 0 then r - n else r)) _ _ s
    have e0 : ((3329 : Int) == 0) = false := by decide
    have e1 : ((3329 : Int).natAbs == 1) = false := by decide
    have e2 : ((-1 : Int) < 0) = True := by decide
    have e3 : Builtin.euclid (2 * Builtin.Int.intBits 3329 + 2) (3329 : Int).natAbs ((128 : Int) % (((3329 : Int).natAbs : Nat) : Int)).toNat 0 1 = some (1, -26) := by decide +kernel
    simp only [e0, e1, e2, Bool.false_eq_true, if_false, if_true, e3]
    have r1 : ∀ {α : Type} {M : Model} {A : Around} {t : Sem α} {Q E s}, wpAny M A t Q E s → wpAny M A (Builtin.roomForPylong 128 ((Int.natAbs 3329 : Nat) : Int) >>= fun _ => t) Q E s := fun h => wpAny_bind (wpAny_pure h)
    have r2 : ∀ {α : Type} {M : Model} {A : Around} {t : Sem α} {Q E s}, wpAny M A t Q E s → wpAny M A (Builtin.roomForPylongsInverse (Int.natAbs 3329) >>= fun _ => t) Q E s := fun h => wpAny_bind (wpAny_pure h)
    refine wpAny_bind (wpAny_rule ?_)
    refine r1 (r2 ?_)
    have e5 : ((1 : Int) != 1) = false := by decide
    have e6 : ((Builtin.powMod (-26 % (((3329 : Int).natAbs : Nat) : Int)).toNat (-1 : Int).natAbs (3329 : Int).natAbs : Nat) : Int) = 3303 := by decide +kernel
    have e7 : (decide ((3329 : Int) < 0) && ((3303 : Int) != 0)) = false := by decide
    simp only [e5, e6, e7, Bool.false_eq_true, if_false]
    exact wpAny_bind (wpAny_mkInt (wpAny_pure ⟨_, rfl, by simp, h _ _⟩))
  refine wpAny_mono key (fun v s' hv => ?_) fun _ _ x => x
  obtain ⟨hv1, hv2⟩ := hv
  have hne : (v != Value.notImplemented) = true := by simpa using hv1
  dsimp only
  rw [if_pos hne]
  exact wpAny_pure ⟨_, rfl, hv2⟩
local macro_rules | `(tactic| walk_at "call builtin:pow") => `(tactic| ((with_reducible show wpAny _ _ (call (Value.builtin "pow") [Value.int 17 _, Value.int _ _, Value.int _ _]) _ _ _); refine call_pow3 ?k1 ?k2 ?_; (case k1 => exact Int.natCast_nonneg _); (case k2 => decide)))
local macro_rules | `(tactic| walk_at "call builtin:pow") => `(tactic| ((with_reducible show wpAny _ _ (call (Value.builtin "pow") [Value.int 128 _, Value.int _ _, Value.int _ _]) _ _ _); refine call_powinv ?_; intro _ _))
local macro_rules | `(tactic| k_all) => `(tactic| first | assumption | exact allNe (by assumption) (by omega))
local macro_rules | `(tactic| k_room) => `(tactic| ktr_room)
theorem news_pick {h₀ h : Heap} {L : Addr} {z x d c1 c2 : Addr} {oz ox od o1 o2 : Obj} {rest : List (Addr × Obj)} (N : News h₀ L h ((z,oz)::(c1,o1)::(c2,o2)::(x,ox)::(d,od)::rest)) : News h₀ L h ((x,ox)::(d,od)::(z,oz)::rest) := by
  refine news_sub N fun p hp => ?_
  simp only [List.mem_cons] at hp ⊢
  rcases hp with h | h | h | h
  · exact .inr (.inr (.inr (.inl h)))
  · exact .inr (.inr (.inr (.inr (.inl h))))
  · exact .inl h
  · exact .inr (.inr (.inr (.inr (.inr h))))
set_option maxHeartbeats 1600000 in
theorem ring_ok {w : World} {mean : ExcName → Option Value} {mg mb : Str → Option Value} (dp un : Nat) (gd : Option (List Code)) (cn : Str) (cnm : List (Str × NameKind)) (cig cic : Bool) (cmo : List (Str × Const)) (a : Addr) (ccd : Value) (cl : List (Str × Addr)) (outer : List Env) (A₀ : Around) (base h₀ : Heap) (L : Addr) (m : Str → Option Value) (s : Shared) (Q E : Value → Shared → Prop)
    (rest : List (Addr × Obj))
    (B : Below A₀ base outer h₀) (F : Fr h₀ L s.heap m) (X : (KK w.params).In h₀)
    (N : News h₀ L s.heap rest)
    (T : TopM mean mg mb h₀)
    (hd : dp + 4 < recursionLimit) (hu : un + 80 < cLine)
    (hret : ∀ (x d z : Addr) (ys : List Value) (t : Tk8) (n nz : Nat) (h' : Heap) (tk' : Nat), Fr h₀ L h' m → 
      News h₀ L h' ((x, instObj 282 d) :: (d, ringDict w t z n) :: (z, listOf ys.toArray nz) :: rest) → IntsAre ys zetaL → @Ne Nat x d → @Ne Nat x z → @Ne Nat d z → AllLt d rest → @LT.lt Nat _ d x → (∀ p ∈ rest, @Ne Nat p.1 z) →
      Q (.ref x) { s with heap := h', toks := tk' }) :
    wpAny (model Challenge.rw_yi0042_01.row.prog w) (ktrTop dp un gd cn { kind := .function, names := cnm, isGenerator := cig, isCoroutine := cic, more := cmo } L a ccd cl outer) (call (.ref 282) []) Q E s := by
  revert X; k_fill; intro X
  first | k_dflt (refine' call_cls ?k1 ?k2 ?k3 ?k4 ?k5 ?k6 ?_; (case k1 => k_asm); (case k2 => k_asm); (case k3 => k_asm); (case k4 => k_is); (case k5 => k_is); (case k6 => k_is); k_whole) | fail "no class"
  intro x d h' F' N' l1 l2
  have hAll : AllLt d rest := allLt_of l1
  have hr1 : ∀ p ∈ rest, p.1 ≠ d := allNe hAll (Nat.le_refl d)
  have hr2 : ∀ p ∈ rest, p.1 ≠ x := allNe hAll (Nat.le_of_lt l2)
  have hxd : @Ne Nat x d := Nat.ne_of_gt l2
  first | k_dflt k_enter | fail "no enter"
  rename _ ∧ _ ∧ AllLt _ _ => l9
  obtain ⟨_, _, hAll9⟩ := l9
  k_steps
  rename _ ∧ _ ∧ _ ∧ _ ∧ LCg.Off1 _ rest => o9
  obtain ⟨_, _, hz1, hz2, hz3⟩ := o9
  rename IntsAre _ _ => hI9
  rw [zeta_eq] at hI9
  rename News h₀ L _ _ => kN9
  rename Fr h₀ L _ _ => kF9
  exact hret x d _ _ ⟨_, _, _, _, _, _, _⟩ _ _ _ _ kF9 (news_pick kN9) hI9 hxd hz1 hz2 hAll l2 (off1_ne hz3)
end Mine
end PartNT5

section PartNT6
open PySem PySem.W PyProof.Rows
namespace Mine
set_option maxRecDepth 100000
theorem allNe3 {d c : Nat} {l : List (Addr × Obj)} {a1 a2 a3 : Prop} (h : a1 ∧ a2 ∧ a3 ∧ AllLt d l) (hc : d ≤ c) : ∀ p ∈ l, p.1 ≠ c := allNe h.2.2.2 hc
theorem allNe5 {d c : Nat} {l : List (Addr × Obj)} {a1 a2 a3 a4 a5 : Prop} (h : a1 ∧ a2 ∧ a3 ∧ a4 ∧ a5 ∧ AllLt d l) (hc : d ≤ c) : ∀ p ∈ l, p.1 ≠ c := allNe h.2.2.2.2.2 hc
local macro_rules | `(tactic| k_all) => `(tactic| first | assumption | exact allNe (by assumption) (by omega) | exact allNe3 (by assumption) (by omega) | exact allNe5 (by assumption) (by omega))
local macro_rules | `(tactic| k_room) => `(tactic| ktr_room)
set_option maxHeartbeats 1600000 in
theorem mk_ntt_ok {w : World} {mean : ExcName → Option Value} {mg mb : Str → Option Value} (dp un : Nat) (gd : Option (List Code)) (cn : Str) (cnm : List (Str × NameKind)) (cig cic : Bool) (cmo : List (Str × Const)) (a : Addr) (ccd : Value) (cl : List (Str × Addr)) (outer : List Env) (A₀ : Around) (base h₀ : Heap) (L : Addr) (m : Str → Option Value) (s : Shared) (Q E : Value → Shared → Prop)
    (x d z c : Addr) (t : Tk8) (n nc : Nat) (vs : List Value) (ns : List Int) (rest : List (Addr × Obj))
    (B : Below A₀ base outer h₀) (F : Fr h₀ L s.heap m) (X : (KK w.params).In h₀)
    (N : News h₀ L s.heap ((x, instObj 282 d) :: (d, ringDict w t z n) :: (c, listOf vs.toArray nc) :: rest))
    (T : TopM mean mg mb h₀) (hI : IntsAre vs ns) (hlen : ns.length = 256)
    (hd : dp + 6 < recursionLimit) (hu : un + 80 < cLine)
    (hret : ∀ (p dq : Addr) (t1 t2 : Tok) (n1 : Nat) (h' : Heap) (tk' : Nat), Fr h₀ L h' m → 
      News h₀ L h' ((p, instObj 426 dq) :: (dq, polyDict w t1 t2 x c n1) :: (x, instObj 282 d) :: (d, ringDict w t z n) :: (c, listOf vs.toArray nc) :: rest) → 
      @LT.lt Nat _ dq p → AllLt dq ((x, instObj 282 d) :: (d, ringDict w t z n) :: (c, listOf vs.toArray nc) :: rest) →
      Q (.ref p) { s with heap := h', toks := tk' }) :
    wpAny (model Challenge.rw_yi0042_01.row.prog w) (ktrTop dp un gd cn { kind := .function, names := cnm, isGenerator := cig, isCoroutine := cic, more := cmo } L a ccd cl outer) (call (.ref x) [.ref c] [(Str.ofString "is_ntt", .bool true)]) Q E s := by
  revert X; k_fill; intro X
  first | k_dflt (refine wpAny_call ?_; refine' kco_code ?k1 ?k2 ?k3 ?k4 ?k5 ?k6 ?_; (case k1 => k_in); (case k2 => k_inst); (case k3 => rfl); (case k4 => k_is); (case k5 => k_is); (case k6 => k_is); (try dsimp only); k_enter) | fail "no enter"
  k_steps
  rename _ ∧ _ ∧ _ ∧ AllLt _ rest => l9
  rename News h₀ L _ _ => kN9
  rename Fr h₀ L _ _ => kF9
  exact hret _ _ _ _ _ _ _ kF9 kN9 (by assumption) l9
set_option maxHeartbeats 1600000 in
theorem mk_poly_ok {w : World} {mean : ExcName → Option Value} {mg mb : Str → Option Value} (dp un : Nat) (gd : Option (List Code)) (cn : Str) (cnm : List (Str × NameKind)) (cig cic : Bool) (cmo : List (Str × Const)) (a : Addr) (ccd : Value) (cl : List (Str × Addr)) (outer : List Env) (A₀ : Around) (base h₀ : Heap) (L : Addr) (m : Str → Option Value) (s : Shared) (Q E : Value → Shared → Prop)
    (x d z c : Addr) (t : Tk8) (n nc : Nat) (vs : List Value) (ns : List Int) (rest : List (Addr × Obj))
    (B : Below A₀ base outer h₀) (F : Fr h₀ L s.heap m) (X : (KK w.params).In h₀)
    (N : News h₀ L s.heap ((x, instObj 282 d) :: (d, ringDict w t z n) :: (c, listOf vs.toArray nc) :: rest))
    (T : TopM mean mg mb h₀) (hI : IntsAre vs ns) (hlen : ns.length = 256)
    (hd : dp + 6 < recursionLimit) (hu : un + 80 < cLine)
    (hret : ∀ (p dq : Addr) (t1 t2 : Tok) (n1 : Nat) (h' : Heap) (tk' : Nat), Fr h₀ L h' m → 
      News h₀ L h' ((p, instObj 350 dq) :: (dq, polyDict w t1 t2 x c n1) :: (x, instObj 282 d) :: (d, ringDict w t z n) :: (c, listOf vs.toArray nc) :: rest) → 
      @LT.lt Nat _ dq p → AllLt dq ((x, instObj 282 d) :: (d, ringDict w t z n) :: (c, listOf vs.toArray nc) :: rest) →
      Q (.ref p) { s with heap := h', toks := tk' }) :
    wpAny (model Challenge.rw_yi0042_01.row.prog w) (ktrTop dp un gd cn { kind := .function, names := cnm, isGenerator := cig, isCoroutine := cic, more := cmo } L a ccd cl outer) (call (.ref x) [.ref c] [(Str.ofString "is_ntt", .bool false)]) Q E s := by
  revert X; k_fill; intro X
  first | k_dflt (refine wpAny_call ?_; refine' kco_code ?k1 ?k2 ?k3 ?k4 ?k5 ?k6 ?_; (case k1 => k_in); (case k2 => k_inst); (case k3 => rfl); (case k4 => k_is); (case k5 => k_is); (case k6 => k_is); (try dsimp only); k_enter) | fail "no enter"
  k_steps
  rename _ ∧ _ ∧ _ ∧ AllLt _ rest => l9
  rename News h₀ L _ _ => kN9
  rename Fr h₀ L _ _ => kF9
  exact hret _ _ _ _ _ _ _ kF9 kN9 (by assumption) l9
end Mine
end PartNT6

section PartNBlk
open PySem PySem.W PyProof.Rows
namespace Mine
set_option maxRecDepth 100000
/-- a turn's relation: j's value, one list's ints, all else as it stood (but t) -/
def BlkR (m₀ : Str → Option Value) (c : Addr) (RL : List (Addr × Obj)) (K : Nat) (o : Int × List Int) (m : Str → Option Value) (nx : List (Addr × Obj)) : Prop :=
  (∃ t, m (Str.ofString "j") = some (.int o.1 t)) ∧ (∀ y, y ≠ Str.ofString "j" → y ≠ Str.ofString "t" → m y = m₀ y) ∧ ∃ us n, nx = (c, listOf us.toArray n) :: RL ∧ IntsAre us o.2 ∧ o.2.length = K
def jt (j : Int) (tj : Tok) (vt : Option Value) (m₀ : Str → Option Value) : Str → Option Value := fun y => if y = Str.ofString "j" then some (.int j tj) else if y = Str.ofString "t" then vt else m₀ y
theorem last_foldl (G : List Int → Int → List Int) (a₀ : Int) (cs : List Int) : ∀ n : Nat, (rangeKs a₀ n).foldl (fun (o : Int × List Int) k => (k, G o.2 k)) (a₀ - 1, cs) = (a₀ + n - 1, (rangeKs a₀ n).foldl G cs) := by
  intro n
  induction n with
  | zero => simp [rangeKs]
  | succ n ih =>
    have e : rangeKs a₀ (n + 1) = rangeKs a₀ n ++ [a₀ + n] := by simp [rangeKs, List.range_succ]
    rw [e, List.foldl_append, List.foldl_append, ih]
    simp only [List.foldl_cons, List.foldl_nil]
    congr 1
    omega
theorem last_foldl' (G : List Int → Int → List Int) (a₀ j₀ : Int) (cs : List Int) (n : Nat) (hn : 0 < n) : (rangeKs a₀ n).foldl (fun (o : Int × List Int) k => (k, G o.2 k)) (j₀, cs) = (a₀ + n - 1, (rangeKs a₀ n).foldl G cs) := by
  rw [← last_foldl]
  cases n with
  | zero => omega
  | succ n =>
    have e : rangeKs a₀ (n + 1) = a₀ :: rangeKs (a₀ + 1) n := by
      simp only [rangeKs, List.range_succ_eq_map, List.map_cons, List.map_map]
      congr 1
      · simp
      · apply List.map_congr_left
        intro x _
        simp; omega
    rw [e]
    rfl
section
variable {prog : Program} {w : World} {A : Around} {E : Value → Shared → Prop} {s : Shared} {env : Env} {h₀ : Heap} {body : List Stmt} {Q : Flow → Shared → Prop}
theorem blk_end {m₀ m' : Str → Option Value} {c : Addr} {RL own : List (Addr × Obj)} {K : Nat} {k : Int} {t : Tok} {cs : List Int} {us : List Value} {n : Nat} {L : Addr} {h' : Heap} {s₁ : Shared} {tk : Nat}
    (F : Fr h₀ L h' m') (N : News h₀ L h' ((c, listOf us.toArray n) :: (RL ++ own))) (hj : m' (Str.ofString "j") = some (.int k t)) (hm : ∀ y, y ≠ Str.ofString "j" → y ≠ Str.ofString "t" → m' y = m₀ y) (hI : IntsAre us cs) (hl : cs.length = K) :
    InvEndN h₀ L (BlkR m₀ c RL K (k, cs)) own (c :: RL.map (·.1)) s₁ { s₁ with heap := h', toks := tk } := by
  refine InvEndN.intro (nx := (c, listOf us.toArray n) :: RL) F N ⟨⟨t, hj⟩, hm, us, n, rfl, hI, hl⟩ rfl ?_ ?_
  · intro p hp
    rcases List.mem_cons.mp hp with h | h
    · exact h ▸ List.mem_cons_self
    · exact List.mem_cons_of_mem _ (List.mem_append_left _ h)
  · intro p hp
    exact List.mem_cons_of_mem _ (List.mem_append_right _ hp)
theorem iter_block {r c : Addr} {a₀ b₀ j₀ : Int} {t₀ u₀ v₀ tj : Tok} {n nc : Nat} {m₀ : Str → Option Value} {RL : List (Addr × Obj)} {vs : List Value} {cs : List Int} {K : Nat} (G : List Int → Int → List Int)
    (hh : A.handled = none) (hr : IsRange s.heap r a₀ b₀ 1 t₀ u₀ v₀) (hsmall : Builtin.Range.small a₀ b₀ 1 = true) (hn : Builtin.Range.rangeSize a₀ b₀ 1 = (n : Int)) (hpos : 0 < n) (F : Fr h₀ env.locals s.heap m₀) (N : News h₀ env.locals s.heap ((c, listOf vs.toArray nc) :: RL)) (hI : IntsAre vs cs) (hK : cs.length = K) (hj : m₀ (Str.ofString "j") = some (.int j₀ tj))
    (turn : ∀ k t cs us n' vt h tk own, a₀ ≤ k → k < a₀ + n → OwnOff own (c :: RL.map (·.1)) → IntsAre us cs → cs.length = K → Fr h₀ env.locals h (jt k t vt m₀) → News h₀ env.locals h ((c, listOf us.toArray n') :: (RL ++ own)) →
      wpAny (model prog w) A (execs body env) (InvPostN h₀ env.locals (BlkR m₀ c RL K (k, G cs k)) own (c :: RL.map (·.1)) { s with heap := h, toks := tk } Q) E { s with heap := h, toks := tk })
    (done : ∀ tj vt us n' h tk, IntsAre us ((rangeKs a₀ n).foldl G cs) → ((rangeKs a₀ n).foldl G cs).length = K → Fr h₀ env.locals h (jt (a₀ + n - 1) tj vt m₀) → News h₀ env.locals h ((c, listOf us.toArray n') :: RL) → Q .next { s with heap := h, toks := tk }) :
    wpAny (model prog w) A (pyIter (.ref r)) (fun it s₂ => LoopAtV prog w A h₀ env (Str.ofString "j") body Q E it s₂) E s := by
  refine iter_rangeS (σ := Int × List Int) (BlkR m₀ c RL K) (fun o k => (k, G o.2 k)) (j₀, cs) hh hr hsmall hn F N ⟨⟨tj, hj⟩, fun _ _ _ => rfl, vs, nc, rfl, hI, hK⟩ ?_ ?_
  · rintro k t ⟨j, cs1⟩ m₁ nx h tk own hk ho ⟨_, hm, us, n', rfl, hI', hK'⟩ F' N'
    have hb := mem_rangeKs hk
    have e : (fun y => if y = Str.ofString "j" then some (Value.int k t) else m₁ y) = jt k t (m₁ (Str.ofString "t")) m₀ := by
      funext y
      unfold jt
      by_cases h1 : y = Str.ofString "j"
      · simp [h1]
      · by_cases h2 : y = Str.ofString "t"
        · subst h2; simp only [if_neg h1, if_pos]
        · simp only [if_neg h1, if_neg h2]; exact hm y h1 h2
    rw [e] at F'
    exact turn k t cs1 us n' _ h tk own hb.1 hb.2 ho hI' hK' F' N'
  · rintro m₁ nx h tk hR F' N'
    rw [last_foldl' G a₀ j₀ cs n hpos] at hR
    obtain ⟨⟨t, hj'⟩, hm, us, n', rfl, hI', hK'⟩ := hR
    have e : m₁ = jt (a₀ + n - 1) t (m₁ (Str.ofString "t")) m₀ := by
      funext y
      unfold jt
      by_cases h1 : y = Str.ofString "j"
      · subst h1; simpa using hj'
      · by_cases h2 : y = Str.ofString "t"
        · subst h2; simp only [if_neg h1, if_pos]
        · simp only [if_neg h1, if_neg h2]; exact hm y h1 h2
    rw [e] at F'
    exact done t _ us n' h tk hI' hK' F' N'
def BlkR2 (m₀ : Str → Option Value) (c : Addr) (RL : List (Addr × Obj)) (K : Nat) (cs : List Int) (m : Str → Option Value) (nx : List (Addr × Obj)) : Prop :=
  (∀ y, y ≠ Str.ofString "j" → m y = m₀ y) ∧ ∃ us n, nx = (c, listOf us.toArray n) :: RL ∧ IntsAre us cs ∧ cs.length = K
def j1 (vj : Option Value) (m₀ : Str → Option Value) : Str → Option Value := fun y => if y = Str.ofString "j" then vj else m₀ y
theorem blk_end2 {m₀ m' : Str → Option Value} {c : Addr} {RL own : List (Addr × Obj)} {K : Nat} {cs : List Int} {us : List Value} {n : Nat} {L : Addr} {h' : Heap} {s₁ : Shared} {tk : Nat}
    (F : Fr h₀ L h' m') (N : News h₀ L h' ((c, listOf us.toArray n) :: (RL ++ own))) (hm : ∀ y, y ≠ Str.ofString "j" → m' y = m₀ y) (hI : IntsAre us cs) (hl : cs.length = K) :
    InvEndN h₀ L (BlkR2 m₀ c RL K cs) own (c :: RL.map (·.1)) s₁ { s₁ with heap := h', toks := tk } := by
  refine InvEndN.intro (nx := (c, listOf us.toArray n) :: RL) F N ⟨hm, us, n, rfl, hI, hl⟩ rfl ?_ ?_
  · intro p hp
    rcases List.mem_cons.mp hp with h | h
    · exact h ▸ List.mem_cons_self
    · exact List.mem_cons_of_mem _ (List.mem_append_left _ h)
  · intro p hp
    exact List.mem_cons_of_mem _ (List.mem_append_right _ hp)
theorem iter_block2 {r c : Addr} {a₀ b₀ : Int} {t₀ u₀ v₀ : Tok} {n nc : Nat} {m₀ : Str → Option Value} {RL : List (Addr × Obj)} {vs : List Value} {cs : List Int} {K : Nat} (G : List Int → Int → List Int)
    (hh : A.handled = none) (hr : IsRange s.heap r a₀ b₀ 1 t₀ u₀ v₀) (hsmall : Builtin.Range.small a₀ b₀ 1 = true) (hn : Builtin.Range.rangeSize a₀ b₀ 1 = (n : Int)) (F : Fr h₀ env.locals s.heap m₀) (N : News h₀ env.locals s.heap ((c, listOf vs.toArray nc) :: RL)) (hI : IntsAre vs cs) (hK : cs.length = K)
    (turn : ∀ k t cs us n' h tk own, a₀ ≤ k → k < a₀ + n → OwnOff own (c :: RL.map (·.1)) → IntsAre us cs → cs.length = K → Fr h₀ env.locals h (j1 (some (.int k t)) m₀) → News h₀ env.locals h ((c, listOf us.toArray n') :: (RL ++ own)) →
      wpAny (model prog w) A (execs body env) (InvPostN h₀ env.locals (BlkR2 m₀ c RL K (G cs k)) own (c :: RL.map (·.1)) { s with heap := h, toks := tk } Q) E { s with heap := h, toks := tk })
    (done : ∀ vj us n' h tk, IntsAre us ((rangeKs a₀ n).foldl G cs) → ((rangeKs a₀ n).foldl G cs).length = K → Fr h₀ env.locals h (j1 vj m₀) → News h₀ env.locals h ((c, listOf us.toArray n') :: RL) → Q .next { s with heap := h, toks := tk }) :
    wpAny (model prog w) A (pyIter (.ref r)) (fun it s₂ => LoopAtV prog w A h₀ env (Str.ofString "j") body Q E it s₂) E s := by
  refine iter_rangeS (σ := List Int) (BlkR2 m₀ c RL K) G cs hh hr hsmall hn F N ⟨fun _ _ => rfl, vs, nc, rfl, hI, hK⟩ ?_ ?_
  · rintro k t cs1 m₁ nx h tk own hk ho ⟨hm, us, n', rfl, hI', hK'⟩ F' N'
    have hb := mem_rangeKs hk
    have e : (fun y => if y = Str.ofString "j" then some (Value.int k t) else m₁ y) = j1 (some (.int k t)) m₀ := by
      funext y
      unfold j1
      by_cases h1 : y = Str.ofString "j"
      · simp [h1]
      · simp only [if_neg h1]; exact hm y h1
    rw [e] at F'
    exact turn k t cs1 us n' h tk own hb.1 hb.2 ho hI' hK' F' N'
  · rintro m₁ nx h tk ⟨hm, us, n', rfl, hI', hK'⟩ F' N'
    have e : m₁ = j1 (m₁ (Str.ofString "j")) m₀ := by
      funext y
      unfold j1
      by_cases h1 : y = Str.ofString "j"
      · subst h1; simp only [if_pos]
      · simp only [if_neg h1]; exact hm y h1
    rw [e] at F'
    exact done _ us n' h tk hI' hK' F' N'
end
end Mine
end PartNBlk

section PartNKw
open PySem PySem.W PyProof.Rows PySem.Calls
namespace Mine
set_option maxRecDepth 100000
def Stop (P : Prop) : Prop := P
theorem Stop.intro {P : Prop} (h : Stop P) : P := h
theorem Stop.out {P : Prop} (h : P) : Stop P := h
section
variable {M : Model} {A : Around} {E : Value → Shared → Prop} {s : Shared} {K : Frag} {env : Env} {pos : Pos} {x C : Addr} {ox : Obj} {od : Option Obj} {first : List Value} {Q : Value → Shared → Prop}
theorem callWith_instkw {args : List (Bool × Sem Value)} {keywords : List (Option Str × Sem Value)} (_X : K.In s.heap) (_I : InstAt s.heap x ox C od) (hd : ox.data = .plain) (hplain : (args.any (·.1) || keywords.any (·.1.isNone)) = false)
    (h : wpAny M A (evalArgs (.ref x) true args keywords) (fun a s₁ => kco_P K x C ox od s₁.heap ∧ wpAny M A (call (.ref x) (first ++ a.pos) a.kw) Q E s₁) E s) : wpAny M A (callWith pos (.ref x) first args keywords) Q E s :=
  kco_callWith_of hplain hd h
theorem Call_Call_kw {f : PySem.Expr} {as₀ args : List PySem.Expr} {ks₀ keywords : List Keyword} {p : Pos}
    (h : wpAny M A (eval (.Call f as₀ ks₀ p) env) (fun f s₁ => wpAny M A (callWith pos f [] (backTo pos (starEach args env)) (backToKw pos (keywordEach keywords env))) Q E s₁) E s)
    (he : eval (.Call (.Call f as₀ ks₀ p) args keywords pos) env = (do callWith pos (← eval (.Call f as₀ ks₀ p) env) [] (backTo pos (starEach args env)) (backToKw pos (keywordEach keywords env))) := by rfl) :
    wpAny M A (eval (.Call (.Call f as₀ ks₀ p) args keywords pos) env) Q E s := by
  rw [he]
  exact wpAny_bind h
end
end Mine
end PartNKw

section PartNT7
open PySem PySem.W PyProof.Rows
namespace Mine
set_option maxRecDepth 100000
local macro_rules | `(tactic| k_all) => `(tactic| first | assumption | exact allNe (by assumption) (by omega) | exact allNe3 (by assumption) (by omega) | exact allNe5 (by assumption) (by omega))
local macro_rules | `(tactic| k_room) => `(tactic| ktr_room)
local macro_rules | `(tactic| walk_at "exec While Compare cons nil") => `(tactic| refine Stop.intro ?_)
local macro_rules | `(tactic| walk_at "pyIter ref") => `(tactic| refine Stop.intro ?_)
theorem news_tail {h₀ h : Heap} {L : Addr} {e : Addr × Obj} {news : List (Addr × Obj)} (N : News h₀ L h (e :: news)) : News h₀ L h news := fun q hq => N q (List.mem_cons_of_mem _ hq)
def lv (i : Nat) : Int := ((2 ^ (i + 1) : Nat) : Int)
def kv (i : Nat) : Int := ((2 ^ (7 - i) : Nat) : Int) - 1
def nb (i : Nat) : Nat := 2 ^ (6 - i)
def sv (i b : Nat) : Int := ((2 ^ (i + 2) * b : Nat) : Int)
theorem lv_0 : lv 0 = 2 := by decide
theorem kv_0 : kv 0 = 127 := by decide
theorem lv_ok : ∀ i, i < 7 → 2 ≤ lv i ∧ lv i ≤ 128 := by decide
theorem lv_7 : lv 7 = 256 := by decide
theorem sv_ok : ∀ i, i < 7 → ∀ b, b < nb i → 0 ≤ sv i b ∧ sv i b + 2 * lv i ≤ 256 ∧ sv i (b + 1) = sv i b + 2 * lv i ∧ 0 ≤ kv i - (b : Int) ∧ kv i - (b : Int) < 128 := by
  intro i hi
  rcases (show i = 0 ∨ i = 1 ∨ i = 2 ∨ i = 3 ∨ i = 4 ∨ i = 5 ∨ i = 6 by omega) with h | h | h | h | h | h | h <;> subst h <;> intro b hb <;> simp [nb, sv, lv, kv] at * <;> omega
theorem sv_end : ∀ i, i < 7 → sv i (nb i) = 256 ∧ kv (i + 1) = kv i - (nb i : Int) ∧ lv (i + 1) = 2 * lv i := by decide
theorem sv_0 (i : Nat) : sv i 0 = 0 := by simp [sv]
theorem zetaL_len : zetaL.length = 128 := by decide
structure OutSt where
  (i : Nat) (tl tk : Tok) (us : List Value) (n : Nat) (cs : List Int)
structure InSt where
  (b : Nat) (ts tk : Tok) (us : List Value) (n : Nat) (cs : List Int)
/-- one butterfly -/
def BF (l zeta : Int) (cs : List Int) (j : Int) : List Int :=
  let c1 := cs.set j.toNat (cs.getD j.toNat 0 + cs.getD (j + l).toNat 0)
  let c2 := c1.set (j + l).toNat (c1.getD (j + l).toNat 0 - cs.getD j.toNat 0)
  c2.set (j + l).toNat (zeta * c2.getD (j + l).toNat 0)
def blockF (l zeta start : Int) (cs : List Int) : List Int := (rangeKs start l.toNat).foldl (BF l zeta) cs
def scaleG (cs : List Int) (j : Int) : List Int := cs.set j.toNat ((cs.getD j.toNat 0 * 3303).fmod 3329)
def blocksF (i : Nat) : Nat → List Int → List Int
  | 0, cs => cs
  | b + 1, cs => blockF (lv i) (zetaL.getD (kv i - (b : Int)).toNat 0) (sv i b) (blocksF i b cs)
def layersF : Nat → List Int → List Int
  | 0, cs => cs
  | i + 1, cs => blocksF i (nb i) (layersF i cs)
def fromF (cs : List Int) : List Int := (rangeKs 0 256).foldl scaleG (layersF 7 cs)
theorem zeta_small (k : Nat) : 0 ≤ zetaL.getD k 0 ∧ zetaL.getD k 0 < 3329 := by
  have h : ∀ k : Nat, k < 128 → 0 ≤ zetaL.getD k 0 ∧ zetaL.getD k 0 < 3329 := by decide +kernel
  by_cases hk : k < 128
  · exact h k hk
  · rw [List.getD_eq_getElem?_getD, List.getElem?_eq_none (by rw [zetaL_len]; omega)]; decide
theorem mul_ok_l {a b : Int} (h0 : 0 ≤ a) (h1 : a < 4000) : IntMulOk a b := IntMulOk.of_left (intBits_le_64 (by omega) (by omega))
local macro_rules | `(tactic| walk_at "binaryOp Mult int int") => `(tactic| ((with_reducible show wpAny _ _ (binaryOp Operator.Mult (Value.int (List.getD zetaL _ _) _) (Value.int _ _)) _ _ _); refine PyProof.Rows.mul_int ?_ (mul_ok_l (zeta_small _).1 (Int.lt_trans (zeta_small _).2 (by decide)))))
local macro_rules | `(tactic| walk_at "callWith ref") => `(tactic| (k_here; (with_reducible show wpAny _ _ (callWith _ _ _ _ (backToKw _ (keywordEach [_] _))) _ _ _); k_dflt (refine' callWith_instkw (x := _) ?k1 ?k2 ?k3 ?k4 ?_; (case k1 => k_in); (case k2 => k_inst); (case k3 => rfl); (case k4 => rfl); k_whole)))
local macro_rules | `(tactic| walk_at "call ref") => `(tactic| ((with_reducible show wpAny _ _ (call (Value.ref _) [Value.ref _] [(_, Value.bool false)]) _ _ _); refine Stop.intro ?_))
set_option maxHeartbeats 1600000 in
theorem from_ok {w : World} {mean : ExcName → Option Value} {mg mb : Str → Option Value} (dp un : Nat) (gd : Option (List Code)) (cn : Str) (cnm : List (Str × NameKind)) (cig cic : Bool) (cmo : List (Str × Const)) (a : Addr) (ccd : Value) (cl : List (Str × Addr)) (outer : List Env) (A₀ : Around) (base h₀ : Heap) (L : Addr) (m : Str → Option Value) (s : Shared) (Q E : Value → Shared → Prop)
    (p dq x d z c : Addr) (t1 t2 : Tok) (n1 : Nat) (t : Tk8) (n nz nc : Nat) (ys vs : List Value) (ns : List Int) (rest : List (Addr × Obj))
    (B : Below A₀ base outer h₀) (F : Fr h₀ L s.heap m) (X : (KK w.params).In h₀)
    (N : News h₀ L s.heap ((c, listOf vs.toArray nc) :: (p, instObj 426 dq) :: (dq, polyDict w t1 t2 x c n1) :: (x, instObj 282 d) :: (d, ringDict w t z n) :: (z, listOf ys.toArray nz) :: rest))
    (T : TopM mean mg mb h₀) (hI : IntsAre vs ns) (hlen : ns.length = 256) (hZ : IntsAre ys zetaL)
    (hc1 : @Ne Nat p c) (hc2 : @Ne Nat dq c) (hc3 : @Ne Nat x c) (hc4 : @Ne Nat d c) (hc5 : @Ne Nat z c) (hcr : ∀ q ∈ rest, q.1 ≠ c)
    (hd : dp + 6 < recursionLimit) (hu : un + 80 < cLine)
    (hret : ∀ (p2 dq2 : Addr) (us : List Value) (n' n2 : Nat) (t3 t4 : Tok) (h' : Heap) (tk' : Nat), Fr h₀ L h' m →
      News h₀ L h' ((p2, instObj 350 dq2) :: (dq2, polyDict w t3 t4 x c n2) :: (c, listOf us.toArray n') :: (p, instObj 426 dq) :: (dq, polyDict w t1 t2 x c n1) :: (x, instObj 282 d) :: (d, ringDict w t z n) :: (z, listOf ys.toArray nz) :: rest) →
      IntsAre us (fromF ns) → (fromF ns).length = 256 → @LT.lt Nat _ dq2 p2 → AllLt dq2 ((c, listOf us.toArray n') :: (p, instObj 426 dq) :: (dq, polyDict w t1 t2 x c n1) :: (x, instObj 282 d) :: (d, ringDict w t z n) :: (z, listOf ys.toArray nz) :: rest) →
      Q (.ref p2) { s with heap := h', toks := tk' }) :
    wpAny (model Challenge.rw_yi0042_01.row.prog w) (ktrTop dp un gd cn { kind := .function, names := cnm, isGenerator := cig, isCoroutine := cic, more := cmo } L a ccd cl outer) (call (.ref 380) [.ref p]) Q E s := by
  revert X; k_fill; intro X
  refine wpAny_call ?_
  first | k_dflt k_enter | fail "no enter"
  k_steps
  rename News _ _ _ _ => N1
  rename Fr _ _ _ _ => F1
  replace N1 := news_tail N1
  refine Stop.out ?_
  refine ksw_while (σ := OutSt) (fun o => (c, listOf o.us.toArray o.n) :: (p, instObj 426 dq) :: (dq, polyDict w t1 t2 x c n1) :: (x, instObj 282 d) :: (d, ringDict w t z n) :: (z, listOf ys.toArray nz) :: rest) (fun o => [(Str.ofString "l", .int (lv o.i) o.tl), (Str.ofString "k", .int (kv o.i) o.tk)]) (fun o => IntsAre o.us o.cs ∧ o.cs.length = 256) [Str.ofString "start", Str.ofString "zeta", Str.ofString "j", Str.ofString "t"] (fun o => o.i ≤ 7 ∧ o.cs = layersF o.i ns) (fun o => 7 - o.i) ⟨0, _, _, vs, nc, ns⟩ F1 N1 ⟨hI, hlen⟩ (List.forall_mem_cons.mpr ⟨rfl, List.forall_mem_cons.mpr ⟨rfl, List.forall_mem_nil _⟩⟩) ⟨Nat.zero_le _, rfl⟩ ?_
  clear F1 N1
  rintro ⟨i, tl, tk, us, nn, cs⟩ u hO tkO ⟨hIO, hlO⟩ ⟨hi7, hcs⟩ FO NO
  dsimp only at hIO hlO hi7 hcs FO NO
  by_cases hi : i < 7
  · obtain ⟨h2, h128⟩ := lv_ok i hi
    have hZl := zetaL_len
    have hle : (lv i ≤ 128) = True := eq_true h128
    k_steps
    rename News _ _ _ _ => N2
    rename Fr _ _ _ _ => F2
    refine Stop.out ?_
    refine ksw_while (σ := InSt) (fun o => (c, listOf o.us.toArray o.n) :: (p, instObj 426 dq) :: (dq, polyDict w t1 t2 x c n1) :: (x, instObj 282 d) :: (d, ringDict w t z n) :: (z, listOf ys.toArray nz) :: rest) (fun o => [(Str.ofString "start", .int (sv i o.b) o.ts), (Str.ofString "k", .int (kv i - (o.b : Int)) o.tk)]) (fun o => IntsAre o.us o.cs ∧ o.cs.length = 256) [Str.ofString "zeta", Str.ofString "j", Str.ofString "t"] (fun o => o.b ≤ nb i ∧ o.cs = blocksF i o.b cs) (fun o => nb i - o.b) ⟨0, _, _, us, nn, cs⟩ F2 N2 ⟨hIO, hlO⟩ (List.forall_mem_cons.mpr ⟨by rw [sv_0]; rfl, List.forall_mem_cons.mpr ⟨by rw [show ((0 : Nat) : Int) = 0 from rfl, Int.sub_zero]; rfl, List.forall_mem_nil _⟩⟩) ⟨Nat.zero_le _, rfl⟩ ?_
    clear F2 N2
    rintro ⟨b, ts, tk2, us2, nn2, cs2⟩ u2 hP tkP ⟨hIP, hlP⟩ ⟨hbP, hcP⟩ FP NP
    dsimp only at hIP hlP hbP hcP FP NP
    by_cases hb : b < nb i
    · obtain ⟨g0, g1, g2, g3, g4⟩ := sv_ok i hi b hb
      k_steps
      rename News _ _ _ _ => N3
      rename Fr _ _ _ _ => F3
      rename IsRange _ _ _ _ _ _ _ _ => R3
      refine Stop.out ?_
      refine iter_block (n := (lv i).toNat) (BF (lv i) (zetaL.getD (kv i - (b : Int)).toNat 0)) rfl R3 (small_one (by omega) (by omega) (by omega) (by omega)) (by rw [rangeSize_nat]; congr 2; omega) (by omega) F3 N3 hIP hlP rfl ?_ ?_
      · clear N3 F3 R3
        intro k tj cs3 us3 nn3 vt3 hT tkT own3 hk0 hk1 hoff3 hI3 hl3 FT NT
        have hk2 : k < sv i b + lv i := by omega
        have hcr3 : ∀ q ∈ rest ++ own3, q.1 ≠ c := fun q hq => (List.mem_append.mp hq).elim (hcr q) fun hq => hoff3 q hq c List.mem_cons_self
        simp only [List.cons_append] at NT
        unfold jt at FT
        k_steps
        rename News _ _ _ _ => N4
        rename Fr _ _ _ _ => F4
        rename IntsAre _ _ => I4
        refine blk_end F4 N4 rfl ?_ I4 ?_
        · intro y h1 h2
          dsimp only
          rw [if_neg h2, if_neg h1, if_neg h2]
        · unfold BF; simp only [List.length_set]; exact hl3
      · clear N3 F3 R3
        intro tj vt us3 nn3 hT tkT hI3 hl3 FT NT
        unfold jt at FT
        k_steps
        rename News _ _ _ _ => N5
        rename Fr _ _ _ _ => F5
        have es : sv i b + ((lv i).toNat : Int) - 1 + lv i + 1 = sv i (b + 1) := by omega
        have ek : kv i - (b : Int) - 1 = kv i - ((b + 1 : Nat) : Int) := by omega
        refine ksw_end ⟨b + 1, _, _, us3, nn3, _⟩ F5 N5 (fun q hq => hq) ⟨hI3, hl3⟩ (List.forall_mem_cons.mpr ⟨by rw [← es]; rfl, List.forall_mem_cons.mpr ⟨by rw [← ek]; rfl, List.forall_mem_nil _⟩⟩) ?_ ⟨hb, by dsimp only; rw [hcP]; rfl⟩ (by dsimp only; omega)
        intro y h2 h3
        simp only [List.forall_mem_cons, List.not_mem_nil, false_implies, implies_true, and_true, ne_eq] at h2
        simp only [List.contains_cons, List.contains_nil, Bool.or_false, Bool.or_eq_false_iff, beq_eq_false_iff_ne, ne_eq] at h3
        dsimp only [kstB]
        simp only [h2.1, h2.2, h3.1, h3.2.1, h3.2.2, if_false, List.contains_cons, List.contains_nil, beq_eq_false_iff_ne.mpr h3.1, beq_eq_false_iff_ne.mpr h3.2.1, beq_eq_false_iff_ne.mpr h3.2.2, Bool.or_false, Bool.false_eq_true]
    · obtain ⟨hs, hk', hl'⟩ := sv_end i hi
      have hbe : b = nb i := by omega
      subst hbe
      k_steps
      rename News _ _ _ _ => N5
      rename Fr _ _ _ _ => F5
      have el : lv i * 2 ^ Int.toNat 1 = lv (i + 1) := by rw [hl', show (2 : Int) ^ Int.toNat 1 = 2 from rfl]; omega
      refine ksw_end ⟨i + 1, _, _, us2, nn2, _⟩ F5 N5 (fun q hq => hq) ⟨hIP, hlP⟩ (List.forall_mem_cons.mpr ⟨by rw [← el]; rfl, List.forall_mem_cons.mpr ⟨by rw [hk']; rfl, List.forall_mem_nil _⟩⟩) ?_ ⟨hi, by dsimp only; rw [hcP, hcs]; rfl⟩ (by dsimp only; omega)
      intro y h2 h3
      simp only [List.forall_mem_cons, List.not_mem_nil, false_implies, implies_true, and_true, ne_eq] at h2
      simp only [List.contains_cons, List.contains_nil, Bool.or_false, Bool.or_eq_false_iff, beq_eq_false_iff_ne, ne_eq] at h3
      dsimp only [kstB]
      simp only [h2.1, h2.2, h3.1, if_false, List.contains_cons, List.contains_nil, beq_eq_false_iff_ne.mpr h3.1, beq_eq_false_iff_ne.mpr h3.2.1, beq_eq_false_iff_ne.mpr h3.2.2.1, beq_eq_false_iff_ne.mpr h3.2.2.2, Bool.or_false, Bool.false_eq_true]
  · have h7 : i = 7 := by omega
    subst h7
    have h256 := lv_7
    k_steps
    rename News _ _ _ _ => N3
    rename Fr _ _ _ _ => F3
    rename IsRange _ _ _ _ _ _ _ _ => R3
    refine Stop.out ?_
    refine iter_block2 (n := 256) scaleG rfl R3 (by decide) rfl F3 N3 hIO hlO ?_ ?_
    · clear N3 F3 R3
      intro k tj cs3 us3 nn3 hT tkT own3 hk0 hk1 hoff3 hI3 hl3 FT NT
      have hk2 : k < 256 := by omega
      have hcr3 : ∀ q ∈ rest ++ own3, q.1 ≠ c := fun q hq => (List.mem_append.mp hq).elim (hcr q) fun hq => hoff3 q hq c List.mem_cons_self
      simp only [List.cons_append] at NT
      unfold j1 at FT
      k_steps
      rename News _ _ _ _ => N4
      rename Fr _ _ _ _ => F4
      rename IntsAre _ _ => I4
      refine blk_end2 F4 N4 ?_ I4 ?_
      · intro y h1
        dsimp only
        rw [if_neg h1]
      · unfold scaleG; simp only [List.length_set]; exact hl3
    · clear N3 F3 R3
      intro vj us3 nn3 hT tkT hI3 hl3 FT NT
      obtain ⟨cf, hcf⟩ : ∃ cf : List Int, KIN.Hid (cf = fromF ns) := ⟨_, ⟨rfl⟩⟩
      have hcf2 : (rangeKs 0 256).foldl scaleG cs = cf := by rw [hcf.out, hcs]; rfl
      rw [hcf2] at hI3 hl3
      clear hcf2 hcs
      unfold j1 at FT
      k_steps
      rename _ ∧ _ ∧ _ ∧ _ ∧ _ ∧ _ ∧ AllLt _ rest => l9
      rename News h₀ L _ _ => kN9
      rename Fr h₀ L _ _ => kF9
      exact hret _ _ us3 _ _ _ _ _ _ kF9 kN9 (by rw [← hcf.out]; exact hI3) (by rw [← hcf.out]; exact hl3) (by assumption) l9
end Mine
end PartNT7

section PartNRev
open PySem PySem.W PyProof.Rows
namespace Mine
set_option maxRecDepth 100000
def nt (k : Int) (t : Tok) (T : Int) (tT : Tok) (m₀ : Str → Option Value) : Str → Option Value := fun y => if y = Str.ofString "number" then some (.int k t) else if y = Str.ofString "total" then some (.int T tT) else m₀ y
def ntv (vn : Option Value) (T : Int) (tT : Tok) (m₀ : Str → Option Value) : Str → Option Value := fun y => if y = Str.ofString "number" then vn else if y = Str.ofString "total" then some (.int T tT) else m₀ y
section
variable {prog : Program} {w : World} {A : Around} {E : Value → Shared → Prop} {s : Shared} {env : Env} {h₀ : Heap} {body : List Stmt} {Q : Flow → Shared → Prop}
theorem rev_fold {I : Addr} {lp : Addr × Obj} {news : List (Addr × Obj)} {m₀ : Str → Option Value} (G : Int → Int → Int) (hlp : lp ∈ news)
    (turn : ∀ (k : Int) (t : Tok) (T : Int) (tT : Tok) (it : Obj) (h : Heap) (tk : Nat) (R : (Str → Option Value) → List (Addr × Obj) → Prop),
      (∀ tT' m', m' (Str.ofString "total") = some (.int (G T k) tT') → (∀ y, y ≠ Str.ofString "number" → y ≠ Str.ofString "total" → m' y = m₀ y) → R m' news) →
      Fr h₀ env.locals h (nt k t T tT m₀) → News h₀ env.locals h ((I, it) :: news) →
      wpAny (model prog w) A (execs body env) (UnrPost h₀ env.locals { s with heap := h, toks := tk } I it R Q) E { s with heap := h, toks := tk })
    (Fv : Int) (done : ∀ vn tT h tk, Fr h₀ env.locals h (ntv vn Fv tT m₀) → News h₀ env.locals h news → Q .next { s with heap := h, toks := tk }) :
    ∀ (r : List Value) (ns : List Int), IntsAre r ns → ∀ (T : Int) (tT : Tok) (m : Str → Option Value), m (Str.ofString "total") = some (.int T tT) → (∀ y, y ≠ Str.ofString "number" → y ≠ Str.ofString "total" → m y = m₀ y) → ns.foldl G T = Fv →
      RevRest prog w A E h₀ env (Str.ofString "number") body Q s I lp r m news := by
  have hnt : Str.ofString "total" ≠ Str.ofString "number" := by decide
  intro r ns hI
  induction hI with
  | nil =>
    intro T tT m hT hm hF
    refine RevRest.zero fun h tk F N => ?_
    have e : m = ntv (m (Str.ofString "number")) Fv tT m₀ := by
      funext y
      unfold ntv
      by_cases h1 : y = Str.ofString "number"
      · subst h1; simp only [if_pos]
      · by_cases h2 : y = Str.ofString "total"
        · subst h2; rw [if_neg h1, if_pos rfl, hT]; rw [← hF]; rfl
        · rw [if_neg h1, if_neg h2]; exact hm y h1 h2
    rw [e] at F
    exact done _ _ h tk F N
  | cons n t _ ih =>
    intro T tT m hT hm hF
    refine RevRest.succ fun it h tk _ F N => ?_
    have e : (fun y => if y = Str.ofString "number" then some (Value.int n t) else m y) = nt n t T tT m₀ := by
      funext y
      unfold nt
      by_cases h1 : y = Str.ofString "number"
      · simp [h1]
      · by_cases h2 : y = Str.ofString "total"
        · subst h2; simp only [if_neg h1, if_pos]; exact hT
        · simp only [if_neg h1, if_neg h2]; exact hm y h1 h2
    rw [e] at F
    exact turn n t T tT it h tk _ (fun tT' m' h1 h2 => ⟨hlp, ih (G T n) tT' m' h1 h2 (by rw [← hF]; rfl)⟩) F N
end
theorem ia_app {a c : List Value} {b d : List Int} (h : IntsAre a b) (h2 : IntsAre c d) : IntsAre (a ++ c) (b ++ d) := by
  induction h with
  | nil => exact h2
  | cons n t _ ih => exact .cons n t ih
theorem IntsAre_rev {vs : List Value} {ns : List Int} (h : IntsAre vs ns) : IntsAre vs.reverse ns.reverse := by
  induction h with
  | nil => exact .nil
  | cons n t _ ih =>
    rw [List.reverse_cons, List.reverse_cons]
    exact ia_app ih (.cons _ _ .nil)
theorem IntsAre_pick {vs : List Value} {ns : List Int} (h : IntsAre vs ns) : ∀ idx : List Nat, IntsAre (idx.filterMap fun x => vs.toArray[x]?) (idx.filterMap fun x => ns[x]?) := by
  intro idx
  induction idx with
  | nil => exact .nil
  | cons i r ih =>
    by_cases hi : i < ns.length
    · obtain ⟨t, hx⟩ := h.get i ns[i] (by simp [hi])
      have e1 : (i :: r).filterMap (fun x => vs.toArray[x]?) = .int ns[i] t :: r.filterMap fun x => vs.toArray[x]? := by
        rw [List.filterMap_cons_some]
        simpa using hx
      have e2 : (i :: r).filterMap (fun x => ns[x]?) = ns[i] :: r.filterMap fun x => ns[x]? := by
        rw [List.filterMap_cons_some]; simp [hi]
      rw [e1, e2]
      exact .cons _ _ ih
    · have hv : ¬ i < vs.length := by rw [h.length]; exact hi
      have e1 : (i :: r).filterMap (fun x => vs.toArray[x]?) = r.filterMap fun x => vs.toArray[x]? := by
        rw [List.filterMap_cons_none]
        simp; omega
      have e2 : (i :: r).filterMap (fun x => ns[x]?) = r.filterMap fun x => ns[x]? := by
        rw [List.filterMap_cons_none]; simp; omega
      rw [e1, e2]
      exact ih
end Mine
end PartNRev

section PartNT8
open PySem PySem.W PyProof.Rows
namespace Mine
set_option maxRecDepth 100000
theorem allNe1 {d c : Nat} {l : List (Addr × Obj)} {a1 : Prop} (h : a1 ∧ AllLt d l) (hc : d ≤ c) : ∀ p ∈ l, p.1 ≠ c := allNe h.2 hc
theorem allNe2 {d c : Nat} {l : List (Addr × Obj)} {a1 a2 : Prop} (h : a1 ∧ a2 ∧ AllLt d l) (hc : d ≤ c) : ∀ p ∈ l, p.1 ≠ c := allNe h.2.2 hc
local macro_rules | `(tactic| k_all) => `(tactic| first | assumption | exact allNe (by assumption) (by omega) | exact allNe1 (by assumption) (by omega) | exact allNe2 (by assumption) (by omega))
local macro_rules | `(tactic| k_room) => `(tactic| ktr_room)
theorem root_small (k : Nat) : 0 ≤ rootZ k ∧ rootZ k < 3329 := by
  unfold rootZ
  have := Nat.mod_lt (17 ^ (2 * brev 7 k + 1)) (show 0 < 3329 by decide)
  omega
theorem mul_ok_r {a b : Int} (h0 : 0 ≤ b) (h1 : b < 4000) : IntMulOk a b := IntMulOk.of_right (intBits_le_64 (by omega) (by omega))
local macro_rules | `(tactic| walk_at "binaryOp Mult int int") => `(tactic| ((with_reducible show wpAny _ _ (binaryOp Operator.Mult (Value.int _ _) (Value.int (rootZ _) _)) _ _ _); refine PyProof.Rows.mul_int ?_ (mul_ok_r (root_small _).1 (Int.lt_trans (root_small _).2 (by decide)))))
local macro_rules | `(tactic| walk_at "call ref") => `(tactic| ((with_reducible show wpAny _ _ (call (Value.ref 447) [Value.int _ _]) _ _ _); k_dflt (refine' root_ok _ _ _ _ _ _ _ _ _ _ _ _ _ _ _ _ _ _ _ _ ?k1 ?k2 ?k3 ?k4 ?k5 ?k6 ?k7 ?k8 ?k9 ?_; (case k1 => k_asm); (case k2 => k_asm); (case k3 => k_asm); (case k4 => k_asm); (case k5 => k_asm); (case k6 => exact rfl); (case k7 => first | assumption | omega); (case k8 => first | assumption | omega); (case k9 => ktr_room)); intro _ h' _ F' N'; (try dsimp only); (try k_fold)))
theorem offI_lt {d : Addr} {o : Obj} {l : List (Addr × Obj)} (h : AllLt d l) : OffI d o l := by
  induction l with
  | nil => exact trivial
  | cons q r ih => exact ⟨.inl (Nat.ne_of_lt h.1), ih h.2⟩
def partF (p : Nat) (ns : List Int) : List Int := ((List.range 128).map fun k => 2 * k + p).filterMap fun x => ns[x]?
def horner (r : Int) (l : List Int) : Int := l.reverse.foldl (fun T k => (T * r + k).fmod 3329) 0
def leftF (p : Nat) (place : Nat) (ns : List Int) : Int := horner (rootZ place) (partF p ns)
theorem idx0 : sliceRange (sliceBounds (some (0 + ((0 : Nat) : Int))) none (some 2) 256).1 (sliceBounds (some (0 + ((0 : Nat) : Int))) none (some 2) 256).2.1 (sliceBounds (some (0 + ((0 : Nat) : Int))) none (some 2) 256).2.2 = (List.range 128).map fun k => 2 * k + 0 := by decide +kernel
theorem idx1 : sliceRange (sliceBounds (some (0 + ((0 + 1 : Nat) : Int))) none (some 2) 256).1 (sliceBounds (some (0 + ((0 + 1 : Nat) : Int))) none (some 2) 256).2.1 (sliceBounds (some (0 + ((0 + 1 : Nat) : Int))) none (some 2) 256).2.2 = (List.range 128).map fun k => 2 * k + 1 := by decide +kernel
set_option maxHeartbeats 1600000 in
theorem left_ok {w : World} {mean : ExcName → Option Value} {mg mb : Str → Option Value} (dp un : Nat) (gd : Option (List Code)) (cn : Str) (cnm : List (Str × NameKind)) (cig cic : Bool) (cmo : List (Str × Const)) (a : Addr) (ccd : Value) (cl : List (Str × Addr)) (outer : List Env) (A₀ : Around) (base h₀ : Heap) (L : Addr) (m : Str → Option Value) (s : Shared) (Q E : Value → Shared → Prop)
    (c : Addr) (nc : Nat) (vs : List Value) (ns : List Int) (place : Int) (tp : Tok) (rest : List (Addr × Obj))
    (B : Below A₀ base outer h₀) (F : Fr h₀ L s.heap m) (X : (KK w.params).In h₀)
    (N : News h₀ L s.heap ((c, listOf vs.toArray nc) :: rest))
    (T : TopM mean mg mb h₀) (hI : IntsAre vs ns) (hlen : ns.length = 256) (hp0 : 0 ≤ place) (hp1 : place < 128)
    (hd : dp + 6 < recursionLimit) (hu : un + 80 < cLine)
    (hret : ∀ (l : Addr) (tA tB : Tok) (h' : Heap) (tk' : Nat), Fr h₀ L h' m →
      News h₀ L h' ((l, listOf #[.int (leftF 0 place.toNat ns) tA, .int (leftF 1 place.toNat ns) tB] 0) :: (c, listOf vs.toArray nc) :: rest) → (@LT.lt Nat _ c l ∧ AllLt l rest) →
      Q (.ref l) { s with heap := h', toks := tk' }) :
    wpAny (model Challenge.rw_yi0042_01.row.prog w) (ktrTop dp un gd cn { kind := .function, names := cnm, isGenerator := cig, isCoroutine := cic, more := cmo } L a ccd cl outer) (call (.ref 454) [.ref c, .int place tp]) Q E s := by
  revert X; k_fill; intro X
  refine wpAny_call ?_
  first | k_dflt k_enter | fail "no enter"
  k_steps
  have hsz : vs.toArray.size = 256 := by simp [hI.length, hlen]
  rename News _ _ _ _ => N1
  rename Fr _ _ _ _ => F1
  rename _ ∧ _ ∧ _ ∧ _ ∧ AllLt _ rest => l9
  refine iter_revUnr rfl F1 N1 (offI_lt l9) (List.Mem.head _) rfl rfl ?_
  refine rev_fold (fun T k => (T * rootZ place.toNat + k).fmod 3329) (List.Mem.head _) ?_ (leftF 0 place.toNat ns) ?_ _ _ (IntsAre_rev (IntsAre_pick hI _)) 0 _ _ rfl (fun _ _ _ => rfl) (by rw [hsz, idx0]; rfl)
  · clear N1 F1
    intro k t T tT it hT tkT R hR FT NT
    unfold nt at FT
    k_steps
    rename News _ _ _ _ => N5
    rename Fr _ _ _ _ => F5
    refine UnrEnd.intro F5 N5 _ (fun _ h => h) (allNe (d := _) l9 (Nat.le_refl _)) (hR _ _ rfl fun y h1 h2 => ?_)
    dsimp only
    rw [if_neg h2, if_neg h1, if_neg h2]
  · clear N1 F1
    intro vn tT hT tkT FD ND
    unfold ntv at FD
    replace ND := fun q hq => ND q (List.mem_cons_of_mem _ hq)
    change News _ _ _ _ at ND
    k_steps
    rename News _ _ _ _ => N6
    rename Fr _ _ _ _ => F6
    rename _ ∧ _ ∧ AllLt _ rest => lI
    refine UnrEnd.intro F6 N6 _ (fun _ h => h) (allNe (d := _) lI (Nat.le_refl _)) ?_
    clear F6 N6
    k_steps
    rename News _ _ _ _ => N1
    rename Fr _ _ _ _ => F1
    rename _ ∧ _ ∧ _ ∧ _ ∧ AllLt _ rest => l10
    refine iter_revUnr rfl F1 N1 (offI_lt l10) (List.Mem.head _) rfl rfl ?_
    refine rev_fold (fun T k => (T * rootZ place.toNat + k).fmod 3329) (List.Mem.head _) ?_ (leftF 1 place.toNat ns) ?_ _ _ (IntsAre_rev (IntsAre_pick hI _)) 0 _ _ rfl (fun _ _ _ => rfl) (by rw [hsz, idx1]; rfl)
    · clear N1 F1
      intro k t T tT it hT tkT R hR FT NT
      unfold nt at FT
      k_steps
      rename News _ _ _ _ => N5
      rename Fr _ _ _ _ => F5
      refine UnrEnd.intro F5 N5 _ (fun _ h => h) (allNe (d := _) l10 (Nat.le_refl _)) (hR _ _ rfl fun y h1 h2 => ?_)
      dsimp only
      rw [if_neg h2, if_neg h1, if_neg h2]
    · clear N1 F1
      intro vn tT hT tkT FD ND
      unfold ntv at FD
      replace ND := fun q hq => ND q (List.mem_cons_of_mem _ hq)
      change News _ _ _ _ at ND
      k_steps
      rename News _ _ _ _ => N6
      rename Fr _ _ _ _ => F6
      refine UnrEnd.intro F6 N6 _ (fun _ h => h) (allNe (d := _) (by assumption) (Nat.le_refl _)) ?_
      clear F6 N6
      k_steps
      rename _ ∧ AllLt _ rest => lL
      rename News h₀ L _ _ => kN9
      rename Fr h₀ L _ _ => kF9
      exact hret _ _ _ _ _ kF9 kN9 lL
end Mine
end PartNT8

section PartNPlain
namespace Mine
open PySem.W
def Sm : Nat → (Nat → Int) → Int
  | 0, _ => 0
  | n + 1, f => Sm n f + f n
theorem Sm_congr {n : Nat} {f g : Nat → Int} (h : ∀ m, m < n → f m = g m) : Sm n f = Sm n g := by
  induction n with
  | zero => rfl
  | succ n ih => rw [Sm, Sm, ih fun m hm => h m (by omega), h n (by omega)]
theorem Sm_add (n m : Nat) (f : Nat → Int) : Sm (n + m) f = Sm n f + Sm m (fun k => f (n + k)) := by
  induction m with
  | zero => simp [Sm]
  | succ m ih => rw [← Nat.add_assoc, Sm, Sm, ih, Int.add_assoc]
theorem Sm_lin (n : Nat) (a b : Int) (f g : Nat → Int) : Sm n (fun m => a * f m + b * g m) = a * Sm n f + b * Sm n g := by
  induction n with
  | zero => simp [Sm]
  | succ n ih => rw [Sm, Sm, Sm, ih]; grind
theorem Sm_mod (n : Nat) (f g : Nat → Int) (h : ∀ m, m < n → ∃ k, f m = g m + 3329 * k) : ∃ k, Sm n f = Sm n g + 3329 * k := by
  induction n with
  | zero => exact ⟨0, rfl⟩
  | succ n ih =>
    obtain ⟨k1, h1⟩ := ih fun m hm => h m (by omega)
    obtain ⟨k2, h2⟩ := h n (by omega)
    exact ⟨k1 + k2, by rw [Sm, Sm, h1, h2]; omega⟩
theorem gset {cs : List Int} {j x : Nat} {v : Int} (hj : j < cs.length) : (cs.set j v).getD x 0 = if x = j then v else cs.getD x 0 := by
  simp only [List.getD_eq_getElem?_getD, List.getElem?_set]
  by_cases h : j = x
  · subst h; simp [hj]
  · rw [if_neg h, if_neg (fun e => h e.symm)]
theorem BF_len (l z : Int) (cs : List Int) (j : Int) : (BF l z cs j).length = cs.length := by unfold BF; simp only [List.length_set]
theorem BF_get {L J : Nat} {z : Int} {cs : List Int} (hlen : J + L < cs.length) (hL : 0 < L) (x : Nat) :
    (BF (L : Int) z cs (J : Int)).getD x 0 = if x = J then cs.getD J 0 + cs.getD (J + L) 0 else if x = J + L then z * (cs.getD (J + L) 0 - cs.getD J 0) else cs.getD x 0 := by
  have e1 : ((J : Int)).toNat = J := by omega
  have e2 : ((J : Int) + (L : Int)).toNat = J + L := by omega
  unfold BF
  simp only [e1, e2]
  have a1 : ∀ y, (cs.set J (cs.getD J 0 + cs.getD (J + L) 0)).getD y 0 = if y = J then cs.getD J 0 + cs.getD (J + L) 0 else cs.getD y 0 := fun y => gset (by omega)
  have a2 : ∀ v y, ((cs.set J (cs.getD J 0 + cs.getD (J + L) 0)).set (J + L) v).getD y 0 = if y = J + L then v else (cs.set J (cs.getD J 0 + cs.getD (J + L) 0)).getD y 0 := fun v y => gset (by rw [List.length_set]; omega)
  rw [gset (by simp only [List.length_set]; exact hlen)]
  simp only [a2, a1]
  by_cases h1 : x = J
  · subst h1
    rw [if_neg (by omega), if_neg (by omega), if_pos rfl, if_pos rfl]
  · by_cases h2 : x = J + L
    · subst h2
      simp only [if_pos, if_neg h1]
    · rw [if_neg h2, if_neg h2, if_neg h1, if_neg h1, if_neg h2]
theorem rangeKs_succ (a : Int) (n : Nat) : rangeKs a (n + 1) = rangeKs a n ++ [a + n] := by simp [rangeKs, List.range_succ]
theorem blk_get {L st : Nat} {z : Int} {cs : List Int} (hL : 0 < L) (hst : st + 2 * L ≤ cs.length) : ∀ n, n ≤ L →
    ((rangeKs (st : Int) n).foldl (BF (L : Int) z) cs).length = cs.length ∧ ∀ x, ((rangeKs (st : Int) n).foldl (BF (L : Int) z) cs).getD x 0 =
      if st ≤ x ∧ x < st + n then cs.getD x 0 + cs.getD (x + L) 0 else if st + L ≤ x ∧ x < st + L + n then z * (cs.getD x 0 - cs.getD (x - L) 0) else cs.getD x 0 := by
  intro n
  induction n with
  | zero =>
    intro _
    refine ⟨rfl, fun x => ?_⟩
    rw [if_neg (by omega), if_neg (by omega)]
    rfl
  | succ n ih =>
    intro hn
    obtain ⟨h1, h2⟩ := ih (by omega)
    rw [rangeKs_succ, List.foldl_append]
    simp only [List.foldl_cons, List.foldl_nil]
    generalize hc : (rangeKs (st : Int) n).foldl (BF (L : Int) z) cs = c1 at h1 h2
    have e : (st : Int) + (n : Int) = ((st + n : Nat) : Int) := by omega
    rw [e]
    refine ⟨by rw [BF_len, h1], fun x => ?_⟩
    rw [BF_get (by omega) hL, h2, h2, h2]
    by_cases g1 : x = st + n
    · subst g1
      rw [if_pos rfl, if_neg (by omega), if_neg (by omega), if_neg (by omega), if_neg (by omega), if_pos (by omega)]
    · by_cases g2 : x = st + n + L
      · subst g2
        rw [if_neg g1, if_pos rfl, if_neg (by omega), if_neg (by omega), if_neg (by omega), if_neg (by omega), if_neg (by omega), if_pos (by omega)]
        rw [show st + n + L - L = st + n by omega]
      · rw [if_neg g1, if_neg g2]
        by_cases g3 : st ≤ x ∧ x < st + n
        · rw [if_pos g3, if_pos (by omega)]
        · rw [if_neg g3]
          by_cases g4 : st + L ≤ x ∧ x < st + L + n
          · rw [if_pos g4, if_neg (by omega), if_pos (by omega)]
          · rw [if_neg g4, if_neg (by omega), if_neg (by omega)]
/-- zeta of layer i, block B -/
def zz (i B : Nat) : Int := zetaL.getD (kv i - (B : Int)).toNat 0
theorem blocks_get {i : Nat} (hi : i < 7) {cs : List Int} (hl : cs.length = 256) : ∀ b, b ≤ nb i → (blocksF i b cs).length = 256 ∧ ∀ B o, o < 2 ^ (i + 2) → (blocksF i b cs).getD (2 ^ (i + 2) * B + o) 0 =
      if B < b then (if o < 2 ^ (i + 1) then cs.getD (2 ^ (i + 2) * B + o) 0 + cs.getD (2 ^ (i + 2) * B + o + 2 ^ (i + 1)) 0 else zz i B * (cs.getD (2 ^ (i + 2) * B + o) 0 - cs.getD (2 ^ (i + 2) * B + o - 2 ^ (i + 1)) 0)) else cs.getD (2 ^ (i + 2) * B + o) 0 := by
  have hW : 2 ^ (i + 2) = 2 * 2 ^ (i + 1) := by rw [Nat.pow_succ 2 (i + 1)]; omega
  have hL : 0 < 2 ^ (i + 1) := Nat.two_pow_pos _
  have hnb : 2 ^ (i + 2) * nb i = 256 := by
    unfold nb
    rw [← Nat.pow_add, show i + 2 + (6 - i) = 8 by omega]
  intro b
  induction b with
  | zero => intro _; exact ⟨hl, fun B o _ => by rw [if_neg (Nat.not_lt_zero _)]; rfl⟩
  | succ b ih =>
    intro hb
    obtain ⟨h1, h2⟩ := ih (by omega)
    have hst : 2 ^ (i + 2) * b + 2 ^ (i + 2) ≤ 256 := by
      have := Nat.mul_le_mul_left (2 ^ (i + 2)) hb
      rw [Nat.mul_succ] at this
      omega
    have hlv : (lv i).toNat = 2 ^ (i + 1) := by unfold lv; omega
    have hb' : blocksF i (b + 1) cs = (rangeKs ((2 ^ (i + 2) * b : Nat) : Int) (2 ^ (i + 1))).foldl (BF ((2 ^ (i + 1) : Nat) : Int) (zz i b)) (blocksF i b cs) := by
      show blockF (lv i) (zz i b) (sv i b) (blocksF i b cs) = _
      unfold blockF
      rw [hlv]
      rfl
    generalize hc : blocksF i b cs = c1 at h1 h2 hb'
    obtain ⟨h3, h4⟩ := blk_get (L := 2 ^ (i + 1)) (st := 2 ^ (i + 2) * b) (z := zz i b) (cs := c1) hL (by rw [h1]; omega) _ (Nat.le_refl _)
    rw [hb']
    refine ⟨by rw [h3, h1], fun B o ho => ?_⟩
    rw [h4]
    rcases Nat.lt_trichotomy B b with hB | hB | hB
    · have hm : 2 ^ (i + 2) * B + 2 ^ (i + 2) ≤ 2 ^ (i + 2) * b := by
        have := Nat.mul_le_mul_left (2 ^ (i + 2)) hB
        rw [Nat.mul_succ] at this
        exact this
      rw [if_neg (by omega), if_neg (by omega), h2 B o ho, if_pos hB, if_pos (show B < b + 1 by omega)]
    · subst hB
      rw [if_pos (show B < B + 1 by omega)]
      by_cases g : o < 2 ^ (i + 1)
      · rw [if_pos (by omega), if_pos g, h2 B o ho, if_neg (by omega)]
        rw [Nat.add_assoc, h2 B (o + 2 ^ (i + 1)) (by omega), if_neg (by omega)]
      · rw [if_neg (by omega), if_pos (by omega), if_neg g, h2 B o ho, if_neg (by omega)]
        rw [show 2 ^ (i + 2) * B + o - 2 ^ (i + 1) = 2 ^ (i + 2) * B + (o - 2 ^ (i + 1)) by omega, h2 B (o - 2 ^ (i + 1)) (by omega), if_neg (by omega)]
    · have hm : 2 ^ (i + 2) * b + 2 ^ (i + 2) ≤ 2 ^ (i + 2) * B := by
        have := Nat.mul_le_mul_left (2 ^ (i + 2)) hB
        rw [Nat.mul_succ] at this
        exact this
      rw [if_neg (by omega), if_neg (by omega), h2 B o ho, if_neg (show ¬ B < b by omega), if_neg (show ¬ B < b + 1 by omega)]
theorem keyN : ∀ i, i < 7 → ∀ p, p < 128 → (zz i (p / 2 ^ (i + 1)) * rootZ p ^ (2 ^ i)) % 3329 = if p / 2 ^ i % 2 = 0 then 3328 else 1 := by decide +kernel
def Ev (i p part : Nat) (c : List Int) : Int := Sm (2 ^ i) fun m => c.getD (p / 2 ^ i * 2 ^ (i + 1) + (2 * m + part)) 0 * rootZ p ^ m
theorem Ev_step {i : Nat} (hi : i < 7) {p part : Nat} (hp : p < 128) (hpart : part < 2) {cs : List Int} (hl : cs.length = 256) : ∃ k, Ev (i + 1) p part (blocksF i (nb i) cs) = 2 * Ev i p part cs + 3329 * k := by
  have hW : 2 ^ (i + 2) = 2 * 2 ^ (i + 1) := by rw [Nat.pow_succ 2 (i + 1)]; omega
  have hV : 2 ^ (i + 1) = 2 * 2 ^ i := by rw [Nat.pow_succ 2 i]; omega
  have hnb : 2 ^ (i + 2) * nb i = 256 := by
    unfold nb
    rw [← Nat.pow_add, show i + 2 + (6 - i) = 8 by omega]
  obtain ⟨_, hg⟩ := blocks_get hi hl (nb i) (Nat.le_refl _)
  have key := keyN i hi p hp
  have hB : p / 2 ^ (i + 1) = p / 2 ^ i / 2 := by rw [Nat.pow_succ, Nat.div_div_eq_div_mul]
  have hBn : p / 2 ^ (i + 1) < nb i := by
    apply Nat.div_lt_of_lt_mul
    have : 2 ^ (i + 1) * nb i = 128 := by rw [hW, Nat.mul_assoc] at hnb; omega
    omega
  have hV2 : 2 ^ (i + 1) = 2 ^ i + 2 ^ i := by omega
  unfold Ev
  rw [show i + 1 + 1 = i + 2 from rfl]
  generalize p / 2 ^ (i + 1) = B at key hB hBn
  generalize hc : blocksF i (nb i) cs = c1 at hg
  generalize rootZ p = r at key
  have hcm : B * 2 ^ (i + 2) = 2 ^ (i + 2) * B := Nat.mul_comm _ _
  have e1 : Sm (2 ^ (i + 1)) (fun m => c1.getD (B * 2 ^ (i + 2) + (2 * m + part)) 0 * r ^ m) =
      (1 * Sm (2 ^ i) (fun m => cs.getD (2 ^ (i + 2) * B + (2 * m + part)) 0 * r ^ m) + 1 * Sm (2 ^ i) (fun m => cs.getD (2 ^ (i + 2) * B + (2 * m + part) + 2 ^ (i + 1)) 0 * r ^ m))
      + (zz i B * r ^ (2 ^ i) * Sm (2 ^ i) (fun m => cs.getD (2 ^ (i + 2) * B + (2 * m + part) + 2 ^ (i + 1)) 0 * r ^ m) + (-(zz i B * r ^ (2 ^ i))) * Sm (2 ^ i) (fun m => cs.getD (2 ^ (i + 2) * B + (2 * m + part)) 0 * r ^ m)) := by
    rw [← Sm_lin, ← Sm_lin]
    rw [show Sm (2 ^ (i + 1)) = Sm (2 ^ i + 2 ^ i) by rw [hV2], Sm_add, hcm]
    congr 1
    · refine Sm_congr fun m hm => ?_
      rw [hg B (2 * m + part) (by omega), if_pos hBn, if_pos (by omega)]
      grind
    · refine Sm_congr fun m hm => ?_
      rw [hg B (2 * (2 ^ i + m) + part) (by omega), if_pos hBn, if_neg (by omega)]
      rw [show 2 ^ (i + 2) * B + (2 * (2 ^ i + m) + part) = 2 ^ (i + 2) * B + (2 * m + part) + 2 ^ (i + 1) by omega, Nat.add_sub_cancel, Int.pow_add]
      generalize cs.getD (2 ^ (i + 2) * B + (2 * m + part) + 2 ^ (i + 1)) 0 = u
      generalize cs.getD (2 ^ (i + 2) * B + (2 * m + part)) 0 = v
      generalize r ^ (2 ^ i) = y
      generalize r ^ m = x
      generalize zz i B = t
      grind
  rw [e1]
  generalize zz i B * r ^ (2 ^ i) = a at key
  by_cases hpar : p / 2 ^ i % 2 = 0
  · rw [if_pos hpar] at key
    have e2 : p / 2 ^ i * 2 ^ (i + 1) = 2 ^ (i + 2) * B := by
      rw [show p / 2 ^ i = 2 * B by omega, hW]
      exact Nat.mul_right_comm 2 B _
    rw [e2]
    generalize Sm (2 ^ i) (fun m => cs.getD (2 ^ (i + 2) * B + (2 * m + part)) 0 * r ^ m) = P
    generalize Sm (2 ^ i) (fun m => cs.getD (2 ^ (i + 2) * B + (2 * m + part) + 2 ^ (i + 1)) 0 * r ^ m) = P'
    have ha : a = 3329 * (a / 3329 + 1) - 1 := by omega
    refine ⟨(a / 3329 + 1) * (P' - P), ?_⟩
    generalize a / 3329 + 1 = q at ha
    subst ha
    grind
  · rw [if_neg hpar] at key
    have e2 : ∀ x, p / 2 ^ i * 2 ^ (i + 1) + x = 2 ^ (i + 2) * B + x + 2 ^ (i + 1) := by
      intro x
      rw [show p / 2 ^ i = 2 * B + 1 by omega, Nat.add_mul, hW, Nat.mul_comm (2 * B), Nat.mul_assoc 2, ← Nat.mul_assoc (2 ^ (i + 1)), Nat.mul_comm (2 ^ (i + 1)) 2, Nat.mul_assoc]
      omega
    simp only [e2]
    generalize Sm (2 ^ i) (fun m => cs.getD (2 ^ (i + 2) * B + (2 * m + part)) 0 * r ^ m) = P
    generalize Sm (2 ^ i) (fun m => cs.getD (2 ^ (i + 2) * B + (2 * m + part) + 2 ^ (i + 1)) 0 * r ^ m) = P'
    have ha : a = 3329 * (a / 3329) + 1 := by omega
    refine ⟨(a / 3329) * (P' - P), ?_⟩
    generalize a / 3329 = q at ha
    subst ha
    grind
theorem layers_len (cs : List Int) (hl : cs.length = 256) : ∀ i, i ≤ 7 → (layersF i cs).length = 256 := by
  intro i
  induction i with
  | zero => intro _; exact hl
  | succ i ih => intro hi; exact (blocks_get (by omega) (ih (by omega)) (nb i) (Nat.le_refl _)).1
theorem layers_ev {cs : List Int} (hl : cs.length = 256) {p part : Nat} (hp : p < 128) (hpart : part < 2) : ∀ i, i ≤ 7 → ∃ k, Ev i p part (layersF i cs) = 2 ^ i * cs.getD (2 * p + part) 0 + 3329 * k := by
  intro i
  induction i with
  | zero =>
    intro _
    refine ⟨0, ?_⟩
    unfold Ev layersF
    simp only [Nat.pow_zero, Sm, Nat.div_one, Nat.zero_add, Nat.pow_one, Nat.mul_zero]
    rw [show p * 2 + part = 2 * p + part by omega]
    simp
  | succ i ih =>
    intro hi
    obtain ⟨k1, h1⟩ := ih (by omega)
    obtain ⟨k2, h2⟩ := Ev_step (i := i) (by omega) hp hpart (layers_len cs hl i (by omega))
    refine ⟨2 * k1 + k2, ?_⟩
    show Ev (i + 1) p part (blocksF i (nb i) (layersF i cs)) = _
    rw [h2, h1, Int.pow_succ]
    generalize (2 : Int) ^ i = y
    generalize cs.getD (2 * p + part) 0 = u
    grind
theorem scale_get {cs : List Int} (hl : cs.length = 256) : ∀ n, n ≤ 256 → ((rangeKs 0 n).foldl scaleG cs).length = 256 ∧ ∀ x, ((rangeKs 0 n).foldl scaleG cs).getD x 0 = if x < n then (cs.getD x 0 * 3303).fmod 3329 else cs.getD x 0 := by
  intro n
  induction n with
  | zero => intro _; exact ⟨hl, fun x => by rw [if_neg (Nat.not_lt_zero _)]; rfl⟩
  | succ n ih =>
    intro hn
    obtain ⟨h1, h2⟩ := ih (by omega)
    rw [rangeKs_succ, List.foldl_append]
    simp only [List.foldl_cons, List.foldl_nil]
    generalize hc : (rangeKs 0 n).foldl scaleG cs = c1 at h1 h2
    have e : ((0 : Int) + (n : Int)).toNat = n := by omega
    unfold scaleG
    rw [e]
    refine ⟨by rw [List.length_set, h1], fun x => ?_⟩
    rw [gset (by omega), h2, h2]
    by_cases g : x = n
    · subst g; rw [if_pos rfl, if_neg (by omega), if_pos (by omega)]
    · rw [if_neg g]
      by_cases g2 : x < n
      · rw [if_pos g2, if_pos (by omega)]
      · rw [if_neg g2, if_neg (by omega)]
theorem from_get {cs : List Int} (hl : cs.length = 256) : (fromF cs).length = 256 ∧ ∀ x, x < 256 → (fromF cs).getD x 0 = ((layersF 7 cs).getD x 0 * 3303) % 3329 := by
  obtain ⟨h1, h2⟩ := scale_get (layers_len cs hl 7 (Nat.le_refl _)) 256 (Nat.le_refl _)
  refine ⟨h1, fun x hx => ?_⟩
  show ((rangeKs 0 256).foldl scaleG (layersF 7 cs)).getD x 0 = _
  rw [h2, if_pos hx, Int.fmod_eq_emod_of_nonneg _ (by decide)]
theorem from_mem {cs : List Int} (hl : cs.length = 256) : ∀ n ∈ fromF cs, 0 ≤ n ∧ n ≤ 3328 := by
  obtain ⟨h1, h2⟩ := from_get hl
  intro n hn
  obtain ⟨x, hx, e⟩ := List.getElem_of_mem hn
  have h3 := h2 x (by omega)
  rw [List.getD_eq_getElem?_getD, List.getElem?_eq_getElem hx, Option.getD_some, e] at h3
  omega
theorem fm_eq {f : Nat → Option Int} {g : Nat → Int} : ∀ l : List Nat, (∀ k ∈ l, f k = some (g k)) → l.filterMap f = l.map g := by
  intro l
  induction l with
  | nil => intro _; rfl
  | cons a l ih =>
    intro h
    rw [List.filterMap_cons_some (h a List.mem_cons_self), List.map_cons, ih fun k hk => h k (List.mem_cons_of_mem _ hk)]
theorem partF_eq {ns : List Int} (hl : ns.length = 256) {p : Nat} (hp : p < 2) : partF p ns = (List.range 128).map fun k => ns.getD (2 * k + p) 0 := by
  unfold partF
  rw [List.filterMap_map]
  refine fm_eq _ fun k hk => ?_
  have hk := List.mem_range.mp hk
  simp only [Function.comp]
  rw [List.getD_eq_getElem?_getD, List.getElem?_eq_getElem (by omega)]
  rfl
theorem horner_cons (r a : Int) (l : List Int) : horner r (a :: l) = (horner r l * r + a).fmod 3329 := by
  unfold horner
  rw [List.reverse_cons, List.foldl_append]
  rfl
theorem horner_map (r : Int) : ∀ (n : Nat) (f : Nat → Int), horner r ((List.range n).map f) = Sm n (fun m => f m * r ^ m) % 3329 := by
  intro n
  induction n with
  | zero => intro f; rfl
  | succ n ih =>
    intro f
    rw [List.range_succ_eq_map, List.map_cons, List.map_map, horner_cons, Int.fmod_eq_emod_of_nonneg _ (by decide), ih]
    rw [show n + 1 = 1 + n by omega, Sm_add]
    have e : Sm n (fun k => f (1 + k) * r ^ (1 + k)) = r * Sm n (fun m => (f ∘ Nat.succ) m * r ^ m) + 0 * Sm n (fun _ => 0) := by
      rw [← Sm_lin]
      refine Sm_congr fun m _ => ?_
      rw [Int.pow_add, show 1 + m = Nat.succ m by omega]
      simp only [Function.comp, Int.pow_one]
      generalize f m.succ = u
      generalize r ^ m = y
      grind
    rw [e]
    generalize Sm n (fun m => (f ∘ Nat.succ) m * r ^ m) = V
    have e1 : Sm 1 (fun m => f m * r ^ m) = f 0 := by simp [Sm]
    rw [e1]
    generalize f 0 = a
    have e2 : V % 3329 * r + a = (a + (r * V + 0 * Sm n fun _ => 0)) + 3329 * (-(V / 3329) * r) := by
      have h := Int.emod_def V 3329
      rw [h]
      generalize V / 3329 = q
      grind
    rw [e2, Int.add_mul_emod_self_left]
theorem left_eq {row : List Int} (hl : row.length = 256) (hlo : ∀ n ∈ row, 0 ≤ n) (hhi : ∀ n ∈ row, n ≤ 3328) {p part : Nat} (hp : p < 128) (hpart : part < 2) : leftF part p (fromF row) = row.getD (2 * p + part) 0 := by
  obtain ⟨h1, h2⟩ := from_get hl
  obtain ⟨k, hk⟩ := layers_ev hl hp hpart 7 (Nat.le_refl _)
  unfold leftF
  rw [partF_eq h1 hpart, horner_map]
  unfold Ev at hk
  rw [show p / 2 ^ 7 = 0 by omega] at hk
  have e : ∃ q, Sm 128 (fun m => (fromF row).getD (2 * m + part) 0 * rootZ p ^ m) = Sm 128 (fun m => 3303 * ((layersF 7 row).getD (0 * 2 ^ (7 + 1) + (2 * m + part)) 0 * rootZ p ^ m) + 0 * 0) + 3329 * q := by
    refine Sm_mod _ _ _ fun m hm => ?_
    rw [h2 (2 * m + part) (by omega), Nat.zero_mul, Nat.zero_add]
    generalize (layersF 7 row).getD (2 * m + part) 0 = u
    generalize rootZ p ^ m = y
    refine ⟨-(u * 3303 / 3329) * y, ?_⟩
    have h := Int.emod_def (u * 3303) 3329
    rw [h]
    generalize u * 3303 / 3329 = q
    grind
  obtain ⟨q, hq⟩ := e
  rw [hq, Sm_lin 128 3303 0 _ (fun _ => 0)]
  have hk' : Sm 128 (fun m => (layersF 7 row).getD (0 * 2 ^ (7 + 1) + (2 * m + part)) 0 * rootZ p ^ m) = 128 * row.getD (2 * p + part) 0 + 3329 * k := hk
  rw [hk']
  have hb : 0 ≤ row.getD (2 * p + part) 0 ∧ row.getD (2 * p + part) 0 ≤ 3328 := by
    rw [List.getD_eq_getElem?_getD, List.getElem?_eq_getElem (by omega), Option.getD_some]
    exact ⟨hlo _ (List.getElem_mem _), hhi _ (List.getElem_mem _)⟩
  generalize row.getD (2 * p + part) 0 = a at hb
  omega
end Mine
end PartNPlain

section PartNLaw
open PySem PySem.W PyProof.Rows
namespace Mine
set_option maxRecDepth 100000
local macro_rules | `(tactic| walk_at "call ref") => `(tactic| ((with_reducible show wpAny _ _ (call (Value.ref 440) _) _ _ _); refine Stop.intro ?_))
structure CellsOk (ns : List Int) : Prop where
  pos : ∀ n ∈ ns, 0 ≤ n
  len0 : 0 < ns.length
  len1 : ns.length ≤ 63
/-- what stands behind the law's first if -/
def CellsAt (h₀ : Heap) (L : Addr) (s : Shared) (m₀ : Str → Option Value) (rest : List (Addr × Obj)) (f : Flow) (s' : Shared) : Prop :=
  f = .next ∧ ∃ (C : Addr) (vs : List Value) (ns : List Int) (n : Nat) (h' : Heap) (tk : Nat), s' = { s with heap := h', toks := tk } ∧ Fr h₀ L h' (fun y => if y = Str.ofString "cells" then some (.ref C) else m₀ y) ∧ News h₀ L h' ((C, listOf vs.toArray n) :: rest) ∧ IntsAre vs ns ∧ CellsOk ns
theorem join_cells {M : Model} {A : Around} {t : Sem Flow} {Q : Flow → Shared → Prop} {E : Value → Shared → Prop} {s : Shared} {h₀ : Heap} {L : Addr} {m₀ : Str → Option Value} (F : Fr h₀ L s.heap m₀)
    (h1 : wpAny M A t (CellsAt h₀ L s m₀ []) E s)
    (h2 : ∀ C vs ns n h' tk, Fr h₀ L h' (fun y => if y = Str.ofString "cells" then some (.ref C) else m₀ y) → News h₀ L h' [(C, listOf vs.toArray n)] → IntsAre vs ns → CellsOk ns → Q .next { s with heap := h', toks := tk }) : wpAny M A t Q E s := by
  refine wpAny_mono h1 (fun f s' h => ?_) (fun _ _ e => e)
  obtain ⟨rfl, C, vs, ns, n, h', tk, rfl, F', N', hI, hC⟩ := h
  exact h2 C vs ns n h' tk F' N' hI hC
theorem cells_end {h₀ : Heap} {L : Addr} {s : Shared} {m₀ m' : Str → Option Value} {C : Addr} {vs : List Value} {ns : List Int} {n : Nat} {h' : Heap} {tk : Nat} {rest : List (Addr × Obj)}
    (F : Fr h₀ L h' m') (e : m' = fun y => if y = Str.ofString "cells" then some (.ref C) else m₀ y) (N : News h₀ L h' ((C, listOf vs.toArray n) :: rest)) (hI : IntsAre vs ns) (hC : CellsOk ns) : CellsAt h₀ L s m₀ [] .next { s with heap := h', toks := tk } := by
  subst e
  exact ⟨rfl, C, vs, ns, n, h', tk, rfl, F, news_sub N (fun p hp => by rw [List.mem_singleton.mp hp]; exact List.mem_cons_self), hI, hC⟩
theorem cells_abs {ns : List Int} (h : ((List.map (fun k' : Int => if k' < 0 then -k' else k') (List.take 63 ns)).length : Int) ≠ 0) : CellsOk (List.map (fun k' : Int => if k' < 0 then -k' else k') (List.take 63 ns)) := by
  refine ⟨fun n hn => ?_, by omega, by rw [List.length_map, List.length_take]; omega⟩
  obtain ⟨k, _, rfl⟩ := List.mem_map.mp hn
  split <;> omega
local macro_rules | `(tactic| walk_at "exec If") => `(tactic| ((with_reducible show wpAny _ _ (exec (Stmt.If (Expr.Compare (Expr.Call _ _ _ _) [CmpOp.Eq] _ _) _ _ _) _) _ _ _); (fail_if_success (with_reducible show wpAny _ _ _ (CellsAt _ _ _ _ _) _ _)); refine Stop.intro ?_))
structure RowOk (row : List Int) : Prop where
  len : row.length = 256
  lo : ∀ n ∈ row, 0 ≤ n
  hi : ∀ n ∈ row, n ≤ 3328
theorem news_rot {h₀ h : Heap} {L : Addr} {a b c : Addr × Obj} {l : List (Addr × Obj)} (N : News h₀ L h (a :: b :: c :: l)) : News h₀ L h (b :: c :: a :: l) := news_sub N fun p hp => by
  simp only [List.mem_cons] at hp ⊢
  rcases hp with h | h | h | h
  · exact .inr (.inl h)
  · exact .inr (.inr (.inl h))
  · exact .inl h
  · exact .inr (.inr (.inr h))
theorem news_last {h₀ h : Heap} {L : Addr} {a b c d e : Addr × Obj} {l : List (Addr × Obj)} (N : News h₀ L h (a :: b :: c :: d :: e :: l)) : News h₀ L h (e :: a :: b :: c :: d :: l) := news_sub N fun p hp => by
  simp only [List.mem_cons] at hp ⊢
  rcases hp with h | h | h | h | h | h
  · exact .inr (.inr (.inr (.inr (.inl h))))
  · exact .inl h
  · exact .inr (.inl h)
  · exact .inr (.inr (.inl h))
  · exact .inr (.inr (.inr (.inl h)))
  · exact .inr (.inr (.inr (.inr (.inr h))))
theorem news_fin {h₀ h : Heap} {L : Addr} {a1 a2 a3 a4 a5 a6 a7 a8 b1 b2 b3 : Addr × Obj} (N : News h₀ L h [a1, a2, a3, a4, a5, a6, a7, a8, b1, b2, b3]) : News h₀ L h [b1, b2, a1, a2, a3, b3] := news_sub N fun p hp => by
  simp only [List.mem_cons, List.not_mem_nil, or_false] at hp ⊢
  rcases hp with h | h | h | h | h | h <;> simp [h]
theorem news_c7 {h₀ h : Heap} {L : Addr} {a1 a2 a3 a4 a5 a6 c b : Addr × Obj} (N : News h₀ L h [a1, a2, a3, a4, a5, a6, c, b]) : News h₀ L h [c, a1, a2, a3, a4, a5, a6, b] := news_sub N fun p hp => by
  simp only [List.mem_cons, List.not_mem_nil, or_false] at hp ⊢
  rcases hp with h | h | h | h | h | h | h | h <;> simp [h]
theorem news_c7b {h₀ h : Heap} {L : Addr} {l a1 a2 a3 a4 a5 a6 c b : Addr × Obj} (N : News h₀ L h [l, c, a1, a2, a3, a4, a5, a6, b]) : News h₀ L h [l, a1, a2, a3, a4, a5, a6, c, b] := news_sub N fun p hp => by
  simp only [List.mem_cons, List.not_mem_nil, or_false] at hp ⊢
  rcases hp with h | h | h | h | h | h | h | h | h <;> simp [h]
theorem pair_eq {row : List Int} (hl : row.length = 256) {q : Int} (h0 : 0 ≤ q) (h1 : q < 128) : [row.getD (2 * q.toNat + 0) 0, row.getD (2 * q.toNat + 1) 0] = List.take (min (2 * q + 2).toNat row.length - (2 * q).toNat) (List.drop (2 * q).toNat row) := by
  have e1 : (2 * q).toNat = 2 * q.toNat := by omega
  have e2 : min (2 * q + 2).toNat row.length - (2 * q).toNat = 2 := by omega
  rw [e2, e1]
  have h2 : 2 * q.toNat + 1 < row.length := by omega
  rw [List.drop_eq_getElem_cons (by omega), List.drop_eq_getElem_cons h2]
  simp only [List.take_succ_cons, List.take_zero, List.getD_eq_getElem?_getD]
  rw [List.getElem?_eq_getElem (by omega), List.getElem?_eq_getElem (by omega)]
  rfl
theorem news_d2 {h₀ h : Heap} {L : Addr} {a x y : Addr × Obj} {l : List (Addr × Obj)} (N : News h₀ L h (a :: x :: y :: l)) : News h₀ L h (a :: l) := news_sub N fun p hp => by
  simp only [List.mem_cons] at hp ⊢
  rcases hp with h | h
  · exact .inl h
  · exact .inr (.inr (.inr h))
structure LawSt where
  (at_ : Int) (tat : Tok) (st : Int) (tst : Tok) (vs : List Value) (ns : List Int) (nC nS : Nat) (vR : List Value) (row : List Int) (nR : Nat)
def LawLed (S C D : Addr) (c : LawSt) : List (Addr × Obj) := [(S, listOf #[.int c.st c.tst, .ref C] c.nS), (C, listOf c.vs.toArray c.nC), (D, listOf c.vR.toArray c.nR)]
def LawPs (c : LawSt) : List (Str × Value) := [(Str.ofString "at", .int c.at_ c.tat)]
def LawFacts (c : LawSt) : Prop := IntsAre c.vs c.ns ∧ IntsAre c.vR c.row ∧ CellsOk c.ns ∧ RowOk c.row ∧ 0 ≤ c.at_ ∧ c.at_ < 256 ∧ 0 ≤ c.st
def LawP (pre : List Int) (c : LawSt) : Prop := c.st ≤ 1 + 2 * (pre.length : Int)
theorem rowOk_set {row : List Int} {j : Nat} {v : Int} (h : RowOk row) (h0 : 0 ≤ v) (h1 : v ≤ 3328) : RowOk (row.set j v) := by
  refine ⟨by rw [List.length_set]; exact h.len, fun n hn => ?_, fun n hn => ?_⟩
  · rcases List.mem_or_eq_of_mem_set hn with h2 | h2
    · exact h.lo n h2
    · rw [h2]; exact h0
  · rcases List.mem_or_eq_of_mem_set hn with h2 | h2
    · exact h.hi n h2
    · rw [h2]; exact h1
theorem law_in3 {a b c : Addr × Obj} {own : List (Addr × Obj)} : ∀ p ∈ [a, b, c], p ∈ a :: b :: c :: own := fun p hp => by
  simp only [List.mem_cons, List.not_mem_nil, or_false] at hp ⊢
  rcases hp with h | h | h
  · exact .inl h
  · exact .inr (.inl h)
  · exact .inr (.inr (.inl h))
theorem lawP_ok {pre : List Int} {k st i7 i8 : Int} {c : LawSt} (h : st ≤ 1 + 2 * (pre.length : Int)) (h7 : i7 ≤ st + 1) (h8 : i8 ≤ i7 + 1) (hc : c.st = i8 := by rfl) : LawP (pre ++ [k]) c := by
  unfold LawP
  rw [List.length_append, hc]
  simp
  omega
theorem row0_ok : RowOk (List.replicate (Int.toNat 256) [(0 : Int)]).flatten := ⟨by decide +kernel, by decide +kernel, by decide +kernel⟩
theorem start_pack {h₀ h : Heap} {L D : Addr} {t : Tok} {n : Nat} {b c d : Addr × Obj} (N : News h₀ L h [(D, listOf (List.replicate (Int.toNat 256) [Value.int 0 t]).flatten.toArray n), b, c, d])
    (hR : IntsAre (List.replicate (Int.toNat 256) [Value.int 0 t]).flatten (List.replicate (Int.toNat 256) [(0 : Int)]).flatten) : ∃ vR row, News h₀ L h [c, d, (D, listOf (List.toArray vR) n)] ∧ IntsAre vR row ∧ RowOk row := by
  refine ⟨_, _, news_sub N fun p hp => ?_, hR, row0_ok⟩
  simp only [List.mem_cons, List.not_mem_nil, or_false] at hp ⊢
  rcases hp with h | h | h
  · exact .inr (.inr (.inl h))
  · exact .inr (.inr (.inr h))
  · exact .inl h
local macro_rules | `(tactic| walk_at "pyIter ref") => `(tactic| ((with_reducible show wpAny _ _ (pyIter (Value.ref _)) (fun it s₂ => LoopAtV _ _ _ _ _ (Str.ofString "k") _ _ _ it s₂) _ _); refine Stop.intro ?_))
local macro_rules | `(tactic| k_all) => `(tactic| first | exact List.forall_mem_nil _ | exact OwnOff.ne (by with_reducible assumption) (by k_memK) | (refine' List.forall_mem_cons.mpr ⟨?a, ?b⟩; (case a => k_ne); (case b => k_all)))
local macro_rules | `(tactic| walk_at "eval Call") => `(tactic| ((with_reducible show wpAny _ _ (eval (Expr.Call (Expr.Call _ _ _ _) _ (_ :: _) _) _) _ _ _); refine Call_Call_kw ?_))
local macro_rules | `(tactic| walk_at "call ref") => `(tactic| ((with_reducible show wpAny _ _ (call (Value.ref 282) _) _ _ _); refine Stop.intro ?_))
local macro_rules | `(tactic| walk_at "callWith ref") => `(tactic| (k_here; (with_reducible show wpAny _ _ (callWith _ _ _ _ (backToKw _ (keywordEach [_] _))) _ _ _); k_dflt (refine' callWith_instkw (x := _) ?k1 ?k2 ?k3 ?k4 ?_; (case k1 => k_in); (case k2 => k_inst); (case k3 => rfl); (case k4 => rfl); k_whole)))
local macro_rules | `(tactic| walk_at "call ref") => `(tactic| ((with_reducible show wpAny _ _ (call (Value.ref 380) _) _ _ _); refine Stop.intro ?_))
local macro_rules | `(tactic| walk_at "call ref") => `(tactic| ((with_reducible show wpAny _ _ (call (Value.ref 454) _) _ _ _); refine Stop.intro ?_))
local macro_rules | `(tactic| walk_at "call ref") => `(tactic| ((with_reducible show wpAny _ _ (call (Value.ref _) _ (List.zip _ _)) _ _ _); refine Stop.intro ?_))
theorem XT_ok (s : Shared) (e : XT s = true) : xlAt VV [] s = true ∧ recOk PySem.Challenge.rw_yi0042_01.row.records s = true := by
  delta XT at e
  exact Bool.and_eq_true_iff.mp e
theorem hX0 (s : Shared) (e : XT s = true) : XL VV [] (s.heap.nsMap mainGlobals) s.heap := xl_of s (XT_ok s e).1
theorem hR0 (s : Shared) (e : XT s = true) : RecFacts PySem.Challenge.rw_yi0042_01.row.records s.heap := recFacts_of (XT_ok s e).2
theorem ok0 : (chainsOk VV && opensWell PySem.Challenge.rw_yi0042_01.row.prog && (frees PySem.Challenge.rw_yi0042_01.row.toRowW && PySem.Challenge.rw_yi0042_01.row.within.isEmpty)) = true := by decide +kernel
theorem bare0 : PySem.Challenge.rw_yi0042_01.row.prog.bare := ⟨rfl, rfl, rfl, rfl, rfl, by decide +kernel⟩
set_option maxHeartbeats 8000000 in
theorem law : PySem.Challenge.rw_yi0042_01.Holds := by
  w_on
  o_law
  rename PySem.Challenge.rw_yi0042_01.row.wellSaid = true => said0
  refine holds_open (q := VV) (loose := [Str.ofString "PolynomialRing", Str.ofString "PolynomialNTT"]) (Xt := XT) (XP := XL VV []) (Yf := (kHook KK KA KA_ok).obs) (Ya := (kHook KK KA KA_ok).val) (YP := (kHook KK KA KA_ok).says) (d := ?d) (kwd := ?kwd) (N := 6392) left0 (Hook.of (kHook KK KA KA_ok)) (Hook.keeps (kHook KK KA KA_ok)) hX0 XL.keeps ?h1 ?h2 ?h3 hR0 ?h4 said0 ok0 bare0 ?hw ?hc
  case h1 => rfl
  case h2 => rfl
  case h3 => rfl
  case h4 => rfl
  case hw => w_witness2
  clear said0
  k_go0
  all_goals try k_fold
  k_steps
  rename Fr _ _ _ _ => F1
  rename IntsAre _ (List.map _ (List.take _ _)) => hI1
  refine Stop.out ?_
  refine join_cells F1 ?_ ?_
  · k_steps
    · rename News _ _ _ _ => N2
      rename Fr _ _ _ _ => F2
      exact cells_end (vs := [Value.int 0 _]) (ns := [0]) F2 (by funext y; by_cases h : y = Str.ofString "cells" <;> simp [h]) N2 (.cons _ _ .nil) ⟨by simp, by decide, by decide⟩
    · rename News _ _ _ _ => N2
      rename Fr _ _ _ _ => F2
      exact cells_end F2 (by funext y; by_cases h : y = Str.ofString "cells" <;> simp [h]) N2 hI1 (cells_abs (by assumption))
  · clear F1
    intro C vsC nsC nC hC tkC FC NC hIC hOC
    k_steps
    rename News _ _ _ _ => N3
    rename Fr _ _ _ _ => F3
    rename IntsAre (List.flatten _) _ => hR
    refine Stop.out ?_
    obtain ⟨hCp, hC0, hC1⟩ := id hOC
    obtain ⟨vR, row, NR, hIR, hOR⟩ := start_pack N3 hR
    clear N3 hR
    refine take_ok _ _ _ _ _ _ _ _ _ _ _ _ _ _ _ _ _ _ _ _ _ _ _ _ _ _ _ _ (by k_asm) F3 (by k_asm) NR (by k_asm) rfl hIC hCp hC0 hC1 (by decide) (by decide) (by decide) (by decide) (by omega) (by k_all) (by k_all) (by decide) (by decide) ?_
    clear F3
    intro r4 tr4 i4 ti4 vs4 ns4 nS4 nC4 h4 tk4 F4 N4 hI4 hp4 hl4 hi40 hi41 hr40 hr41
    k_steps
    rename News _ _ _ _ => N5
    rename Fr _ _ _ _ => F5
    rename IsRange _ _ _ _ _ _ _ _ => R5
    refine Stop.out ?_
    have hC4 : CellsOk ns4 := ⟨hp4, by rw [hl4]; exact hC0, by rw [hl4]; exact hC1⟩
    refine kst_range (σ := LawSt) (n := (1 + r4 - 0).toNat) (LawLed _ _ _) LawPs LawFacts [] LawP ⟨0, _, i4, _, vs4, ns4, _, _, vR, row, _⟩ rfl R5 (small_one (by omega) (by omega) (by omega) (by omega)) (rangeSize_nat _ _) F5 N5 ⟨hI4, hIR, hC4, hOR, Int.le_refl (0 : Int), (by decide : (0 : Int) < 256), hi40⟩ (List.forall_mem_cons.mpr ⟨rfl, List.forall_mem_nil _⟩) (by show i4 ≤ 1 + 2 * ((0 : Nat) : Int); omega) ?_ ?_
    · clear F5 N5 R5
      rintro ⟨at6, tat6, st6, tst6, vs6, ns6, nC6, nS6, vR6, row6, nR6⟩ pre6 k6 t6 u6 h6 tk6 own6 hk6 hlt6 hoff6 ⟨hI6, hJ6, ⟨hp6, hl60, hl61⟩, hO6, hat60, hat61, hst6⟩ hP6 F6 N6
      simp only [LawLed, List.map_cons, List.map_nil] at hoff6
      simp only [LawLed, List.cons_append, List.nil_append] at N6
      simp only [LawP] at hP6
      simp only [LawPs] at F6
      dsimp only at hI6 hJ6 hp6 hl60 hl61 hO6 hat60 hat61 hst6
      have hlen6 := hO6.len
      k_steps
      rename News _ _ _ _ => N7
      rename Fr _ _ _ _ => F7
      refine Stop.out ?_
      refine take_ok _ _ _ _ _ _ _ _ _ _ _ _ _ _ _ _ _ _ _ _ _ _ _ _ _ _ _ _ (by k_asm) F7 (by k_asm) N7 (by k_asm) rfl hI6 hp6 hl60 hl61 hst6 (by omega) (by decide) (by decide) (by omega) (by k_all) (by k_all) (by decide) (by decide) ?_
      clear F7 N7
      intro r7 tr7 i7 ti7 vs7 ns7 nS7 nC7 h7 tk7 F7 N7 hI7 hp7 hl7 hi70 hi71 hr70 hr71
      k_steps
      rename News _ _ _ _ => N8
      rename Fr _ _ _ _ => F8
      refine Stop.out ?_
      refine take_ok _ _ _ _ _ _ _ _ _ _ _ _ _ _ _ _ _ _ _ _ _ _ _ _ _ _ _ _ (by k_asm) F8 (by k_asm) N8 (by k_asm) rfl hI7 hp7 (by omega) (by omega) hi70 (by omega) (by decide) (by decide) (by omega) (by k_all) (by k_all) (by decide) (by decide) ?_
      clear F8 N8
      intro r8 tr8 i8 ti8 vs8 ns8 nS8 nC8 h8 tk8 F8 N8 hI8 hp8 hl8 hi80 hi81 hr80 hr81
      k_steps
      rename News _ _ _ _ => N9
      rename Fr _ _ _ _ => F9
      rename IntsAre (List.set _ _ _) _ => hJ9
      have hO9 : RowOk (row6.set r7.toNat (1 + r8)) := rowOk_set hO6 (by omega) (by omega)
      have hC9 : CellsOk ns8 := ⟨hp8, by omega, by omega⟩
      refine kst_end ⟨r7, _, i8, ti8, vs8, ns8, nC8, nS8, _, row6.set r7.toNat (1 + r8), nR6⟩ F9 N9 ?hn (fun p hp => List.mem_cons_of_mem _ (List.mem_cons_of_mem _ (List.mem_cons_of_mem _ hp))) rfl ⟨hI8, hJ9, hC9, hO9, hr70, hr71, hi80⟩ (List.forall_mem_cons.mpr ⟨rfl, List.forall_mem_nil _⟩) ?_ (lawP_ok hP6 hi71 hi81)
      case hn => exact law_in3
      intro y h1 h2 h3
      simp only [LawPs, List.forall_mem_cons, List.not_mem_nil, false_implies, implies_true, and_true, ne_eq] at h2
      dsimp only [kstB]
      simp only [h1, h2, if_false]
      rfl
    · clear F5 N5 R5
      rintro ⟨at6, tat6, st6, tst6, vs6, ns6, nC6, nS6, vR6, row6, nR6⟩ u6 h6 tk6 ⟨hI6, hJ6, ⟨hp6, hl60, hl61⟩, hO6, hat60, hat61, hst6⟩ hP6 F6 N6
      simp only [LawLed] at N6
      simp only [LawP, rangeKs_length] at hP6
      simp only [LawPs] at F6
      dsimp only at hI6 hJ6 hp6 hl60 hl61 hO6 hat60 hat61 hst6
      have hlen6 := hO6.len
      k_steps
      rename News _ _ _ _ => N7
      rename Fr _ _ _ _ => F7
      refine Stop.out ?_
      refine ring_ok _ _ _ _ _ _ _ _ _ _ _ _ _ _ _ _ _ _ _ _ _ (by k_asm) F7 (by k_asm) N7 (by k_asm) (by decide) (by decide) ?_
      clear F7 N7
      intro x7 d7 z7 ys7 tk87 n7 nz7 h7 tk7 F7 N7 hI7 hxd7 hxz7 hdz7 hAll7 hdx7 hz7
      simp only [AllLt, and_true] at hAll7
      k_steps
      rename News _ _ _ _ => N8
      rename Fr _ _ _ _ => F8
      refine Stop.out ?_
      refine mk_ntt_ok _ _ _ _ _ _ _ _ _ _ _ _ _ _ _ _ _ _ _ _ _ _ _ _ _ _ _ _ _ _ (by k_asm) F8 (by k_asm) (news_rot N8) (by k_asm) hJ6 hlen6 (by decide) (by decide) ?_
      clear F8 N8
      intro p8 q8 t18 t28 n8 h8 tk8 F8 N8 hlt8 hAll8
      simp only [AllLt, and_true] at hAll8
      k_steps
      rename News _ _ _ _ => N8
      rename Fr _ _ _ _ => F8
      refine Stop.out ?_
      refine from_ok _ _ _ _ _ _ _ _ _ _ _ _ _ _ _ _ _ _ _ _ _ _ _ _ _ _ _ _ _ _ _ _ _ _ _ _ _ (by k_asm) F8 (by k_asm) (news_last N8) (by k_asm) hJ6 hlen6 hI7 (by omega) (by omega) (by omega) (by omega) (by omega) (by k_all) (by decide) (by decide) ?_
      clear F8 N8
      intro p9 q9 us9 n9 m9 t39 t49 h9 tk9 F9 N9 hI9 hl9 hlt9 hAll9
      simp only [AllLt, and_true] at hAll9
      obtain ⟨FR, hFR⟩ : ∃ FR : List Int, KIN.Hid (FR = fromF row6) := ⟨_, ⟨rfl⟩⟩
      have hFr := from_mem hlen6
      rw [← hFR.out] at hI9 hl9 hFr
      k_steps
      rename News _ _ _ _ => N9
      rename Fr _ _ _ _ => F9
      refine Stop.out ?_
      refine take_ok _ _ _ _ _ _ _ _ _ _ _ _ _ _ _ _ _ _ _ _ _ _ _ _ _ _ _ _ (by k_asm) F9 (by k_asm) (news_fin N9) (by k_asm) rfl hI6 hp6 hl60 hl61 hst6 (by omega) (by decide) (by decide) (by omega) (by k_all) (by k_all) (by decide) (by decide) ?_
      clear F9 N9
      intro r10 tr10 i10 ti10 vs10 ns10 nS10 nC10 h10 tk10 F10 N10 hI10 hp10 hl10 hi100 hi101 hr100 hr101
      k_steps
      rename News _ _ _ _ => N11
      rename Fr _ _ _ _ => F11
      refine Stop.out ?_
      have hpl : 0 ≤ at6.fdiv 2 ∧ at6.fdiv 2 < 128 := by rw [Int.fdiv_eq_ediv_of_nonneg _ (by decide)]; omega
      refine left_ok _ _ _ _ _ _ _ _ _ _ _ _ _ _ _ _ _ _ _ _ _ _ _ _ _ _ _ (by k_asm) F11 (by k_asm) (news_c7 N11) (by k_asm) hI9 (by omega) hpl.1 hpl.2 (by decide) (by decide) ?_
      clear F11 N11
      intro l12 tA12 tB12 h12 tk12 F12 N12 hl12
      replace N12 := news_c7b N12
      simp only [AllLt, and_true] at hl12
      have hL0 : leftF 0 (at6.fdiv 2).toNat FR = row6.getD (2 * (at6.fdiv 2).toNat + 0) 0 := by rw [hFR.out]; exact left_eq hlen6 hO6.lo hO6.hi (by omega) (by decide)
      have hL1 : leftF 1 (at6.fdiv 2).toNat FR = row6.getD (2 * (at6.fdiv 2).toNat + 1) 0 := by rw [hFR.out]; exact left_eq hlen6 hO6.lo hO6.hi (by omega) (by decide)
      rw [hL0, hL1] at N12
      clear hL0 hL1
      have hEq := pair_eq hlen6 hpl.1 hpl.2
      k_steps
      · rename News _ _ _ _ => N11
        rename Fr _ _ _ _ => F11
        refine Stop.out ?_
        refine left_ok _ _ _ _ _ _ _ _ _ _ _ _ _ _ _ _ _ _ _ _ _ _ _ _ _ _ _ (by k_asm) F11 (by k_asm) (news_c7 (news_d2 N11)) (by k_asm) hI9 (by omega) hr100 hr101 (by decide) (by decide) ?_
        clear F11 N11
        intro l13 tA13 tB13 h13 tk13 F13 N13 hl13
        replace N13 := news_c7b N13
        simp only [AllLt, and_true] at hl13
        have hL0 : leftF 0 r10.toNat FR = row6.getD (2 * r10.toNat + 0) 0 := by rw [hFR.out]; exact left_eq hlen6 hO6.lo hO6.hi (by omega) (by decide)
        have hL1 : leftF 1 r10.toNat FR = row6.getD (2 * r10.toNat + 1) 0 := by rw [hFR.out]; exact left_eq hlen6 hO6.lo hO6.hi (by omega) (by decide)
        rw [hL0, hL1] at N13
        clear hL0 hL1
        have hEq2 := pair_eq hlen6 hr100 hr101
        k_steps
end Mine
end PartNLaw

theorem PySem.Challenge.cw_yi0042_01_holds : PySem.Challenge.rw_yi0042_01.Holds :=
  Mine.law
